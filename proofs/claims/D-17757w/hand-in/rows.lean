section
-- ===== PART A: goes FIRST, ahead of the names: the tables' words, and 'selects' of the private methods out of them =====
/-- a private method of a class that the tables say can be made, by its rows of tables_1 -/
def lw_okq (q : MethodName × Nat) : Prop := (q.1.cls ≠ "java/lang/invoke/MethodHandle" ∧ q.1.cls ≠ "java/lang/invoke/VarHandle") ∧ Cond.instantiable q.1.cls q.2 ∈ tables_1 ∧ Cond.privateMethod q.1 ∈ tables_1 ∧ Cond.instanceMethod q.1 ∈ tables_1
set_option maxRecDepth 100000
theorem lw_t1 {w : Cond} (h : w ∈ tables_1_1) : w ∈ tables_1 := List.mem_append_left _ h
theorem lw_t2 {w : Cond} (h : w ∈ tables_1_2) : w ∈ tables_1 := List.mem_append_right _ h
theorem lw_p0 : lw_okq (⟨"java/lang/Throwable", "fillInStackTrace", "(I)Ljava/lang/Throwable;"⟩, 6) := ⟨⟨by decide +kernel, by decide +kernel⟩, lw_t1 (List.mem_of_getElem? (i := 93) rfl), lw_t1 (List.mem_of_getElem? (i := 91) rfl), lw_t1 (List.mem_of_getElem? (i := 92) rfl)⟩
theorem lw_p1 : lw_okq (⟨"YearMonth", "with", "(II)LYearMonth;"⟩, 2) := ⟨⟨by decide +kernel, by decide +kernel⟩, lw_t1 (List.mem_of_getElem? (i := 125) rfl), lw_t1 (List.mem_of_getElem? (i := 184) rfl), lw_t1 (List.mem_of_getElem? (i := 185) rfl)⟩
def lw_privs_1 : List (MethodName × Nat) := [(⟨"java/lang/Throwable", "fillInStackTrace", "(I)Ljava/lang/Throwable;"⟩, 6), (⟨"YearMonth", "with", "(II)LYearMonth;"⟩, 2)]
theorem lw_r1 : ∀ q ∈ lw_privs_1, lw_okq q := List.forall_mem_cons.mpr ⟨lw_p0, List.forall_mem_cons.mpr ⟨lw_p1, fun _ h => absurd h List.not_mem_nil⟩⟩
def lw_privs : List (MethodName × Nat) := lw_privs_1
def lw_tbl : List Cond := k2_sels lw_privs ++ tables_1
theorem lw_privs_ok : ∀ q ∈ lw_privs, lw_okq q := lw_r1
-- ===== ONE list of words for every method: the tables' words that hold all through a run =====
def lw_all : List Cond := lw_tbl.filter goodWord
/-- a word of the tables by its place: claim/WORDS.tsv -/
theorem lw_w {w : Cond} (i : Nat) (h : lw_tbl[i]? = some w) (g : goodWord w = true) : w ∈ lw_all := List.mem_filter.mpr ⟨List.mem_of_getElem? h, g⟩
theorem lw_all_tbl {w : Cond} (h : w ∈ lw_all) : w ∈ lw_tbl := (List.mem_filter.mp h).1
theorem lw_self : GoodIn lw_all lw_all := fun w h => ⟨h, good_of_word (List.mem_filter.mp h).2⟩
/-- a class's field words, by their places -/
theorem lw_in (ws : List Cond) (ps : List Nat) (hp : ws = ps.filterMap (fun i => lw_tbl[i]?)) (hg : ws.all goodWord = true) : ∀ w ∈ ws, w ∈ lw_all := by
  intro w h
  have h1 := List.all_eq_true.mp hg w h
  rw [hp] at h
  obtain ⟨i, -, hi⟩ := List.mem_filterMap.mp h
  exact lw_w i hi h1
/-- the words of a contract for the method y with code b, L locals, answer r -/
abbrev ws_ (y : MethodName) (b : ByteArray) (L : Nat) (r : Option FieldType) : List Cond := Cond.code y b L r :: lw_all
theorem lw_meth {y : MethodName} {b : ByteArray} {L : Nat} {r : Option FieldType} (h : Cond.code y b L r ∈ lw_all) : GoodIn lw_all (ws_ y b L r) := by
  intro w hw
  rcases List.mem_cons.mp hw with e | e
  · rw [e]
    exact lw_self _ h
  · exact lw_self _ e
theorem lw_app {a c : List Cond} (ha : ∀ w ∈ a, w ∈ lw_all) (hc : GoodIn lw_all c) : GoodIn lw_all (a ++ c) := by
  intro w hw
  rcases List.mem_append.mp hw with e | e
  · exact lw_self w (ha w e)
  · exact hc w e
/-- what a call through an object asks: cwV n hts (lw_V ..) -/
theorem lw_V {own : String} {idx : Nat} {C : String} {y : MethodName} {b : ByteArray} {L : Nat} {r : Option FieldType} (h1 : Cond.methodLink own idx y ∈ lw_all) (h2 : Cond.instanceMethod y ∈ lw_all) (h3 : Cond.selects C y y ∈ lw_all) (h4 : Cond.initialized C ∈ lw_all) (h5 : Cond.code y b L r ∈ lw_all) : GoodIn lw_all (wsV own idx C y (ws_ y b L r)) := by
  refine lw_app ?_ (lw_meth h5)
  intro w hw
  simp only [List.mem_cons, List.not_mem_nil, or_false] at hw
  rcases hw with e | e | e | e
  · rw [e]; exact h1
  · rw [e]; exact h2
  · rw [e]; exact h3
  · rw [e]; exact h4
/-- what a static call asks: va_cwS n hts (lw_S ..) -/
theorem lw_S {own : String} {idx : Nat} {y : MethodName} {b : ByteArray} {L : Nat} {r : Option FieldType} (h1 : Cond.methodLink own idx y ∈ lw_all) (h2 : Cond.static y ∈ lw_all) (h3 : Cond.initialized y.cls ∈ lw_all) (h4 : Cond.code y b L r ∈ lw_all) : GoodIn lw_all (va_wsS own idx y (ws_ y b L r)) := by
  refine lw_app ?_ (lw_meth h4)
  intro w hw
  simp only [List.mem_cons, List.not_mem_nil, or_false] at hw
  rcases hw with e | e | e
  · rw [e]; exact h1
  · rw [e]; exact h2
  · rw [e]; exact h3
/-- the words of a contract for a method WITH HANDLERS (hh: its table) -/
abbrev wsW_ (y : MethodName) (b : ByteArray) (L : Nat) (r : Option FieldType) (hh : List (Nat × Nat × Nat × Nat)) : List Cond := Cond.codeWith y b L r hh :: lw_all
theorem lw_methW {y : MethodName} {b : ByteArray} {L : Nat} {r : Option FieldType} {hh : List (Nat × Nat × Nat × Nat)} (h : Cond.codeWith y b L r hh ∈ lw_all) : GoodIn lw_all (wsW_ y b L r hh) := by
  intro w hw
  rcases List.mem_cons.mp hw with e | e
  · rw [e]
    exact lw_self _ h
  · exact lw_self _ e
/-- any list of words by their places (lw_in), good -/
theorem lw_good {ws : List Cond} (h : ∀ w ∈ ws, w ∈ lw_all) : GoodIn lw_all ws := fun w hw => lw_self w (h w hw)
/-- what a call of a method with handlers asks: vx_cwVW n hts (lw_VW ..), vx_cwSW n hts (lw_SW ..) -/
theorem lw_VW {own : String} {idx : Nat} {C : String} {y : MethodName} {b : ByteArray} {L : Nat} {r : Option FieldType} {hh : List (Nat × Nat × Nat × Nat)} (h1 : Cond.methodLink own idx y ∈ lw_all) (h2 : Cond.instanceMethod y ∈ lw_all) (h3 : Cond.selects C y y ∈ lw_all) (h4 : Cond.initialized C ∈ lw_all) (h5 : Cond.codeWith y b L r hh ∈ lw_all) : GoodIn lw_all (wsV own idx C y (wsW_ y b L r hh)) := by
  refine lw_app ?_ (lw_methW h5)
  intro w hw
  simp only [List.mem_cons, List.not_mem_nil, or_false] at hw
  rcases hw with e | e | e | e
  · rw [e]; exact h1
  · rw [e]; exact h2
  · rw [e]; exact h3
  · rw [e]; exact h4
theorem lw_SW {own : String} {idx : Nat} {y : MethodName} {b : ByteArray} {L : Nat} {r : Option FieldType} {hh : List (Nat × Nat × Nat × Nat)} (h1 : Cond.methodLink own idx y ∈ lw_all) (h2 : Cond.static y ∈ lw_all) (h3 : Cond.initialized y.cls ∈ lw_all) (h4 : Cond.codeWith y b L r hh ∈ lw_all) : GoodIn lw_all (va_wsS own idx y (wsW_ y b L r hh)) := by
  refine lw_app ?_ (lw_methW h4)
  intro w hw
  simp only [List.mem_cons, List.not_mem_nil, or_false] at hw
  rcases hw with e | e | e
  · rw [e]; exact h1
  · rw [e]; exact h2
  · rw [e]; exact h3
/-- a word by its place in its run of the tables -/
theorem lw_at {r : List Cond} (hr : ∀ w ∈ r, w ∈ lw_tbl) {w : Cond} (i : Nat) (h : r[i]? = some w) : w ∈ lw_tbl := hr w (List.mem_of_getElem? h)
theorem lw_g {w : Cond} (h : w ∈ lw_tbl) (g : goodWord w = true) : w ∈ lw_all := List.mem_filter.mpr ⟨h, g⟩
theorem lw_ms : ∀ w ∈ k2_sels lw_privs, w ∈ lw_tbl := fun w h => show w ∈ k2_sels lw_privs ++ tables_1 from List.mem_append_left _ h
theorem lw_m1 : ∀ w ∈ tables_1_1, w ∈ lw_tbl := fun w h => show w ∈ k2_sels lw_privs ++ tables_1 from List.mem_append_right (k2_sels lw_privs) (show w ∈ tables_1 from List.mem_append_left _ h)
theorem lw_m2 : ∀ w ∈ tables_1_2, w ∈ lw_tbl := fun w h => show w ∈ k2_sels lw_privs ++ tables_1 from List.mem_append_right (k2_sels lw_privs) (show w ∈ tables_1 from List.mem_append_right _ h)
theorem qs0 : (Cond.selects "java/lang/Throwable" ⟨"java/lang/Throwable", "fillInStackTrace", "(I)Ljava/lang/Throwable;"⟩ ⟨"java/lang/Throwable", "fillInStackTrace", "(I)Ljava/lang/Throwable;"⟩) ∈ lw_all := lw_g (lw_at lw_ms 0 rfl) rfl
theorem qs1 : (Cond.selects "YearMonth" ⟨"YearMonth", "with", "(II)LYearMonth;"⟩ ⟨"YearMonth", "with", "(II)LYearMonth;"⟩) ∈ lw_all := lw_g (lw_at lw_ms 1 rfl) rfl
/-! DECODE ROWS BY BYTES: one lemma an opcode; a method's code is cut into short pieces once, and a row reads its own piece alone. -/
set_option maxRecDepth 100000
/-- the code has just these bytes from pc on -/
def DkAt (code : ByteArray) (pc : Nat) (bs : List UInt8) : Prop := ∀ (j : Nat) (b : UInt8), bs[j]? = some b → code.data.toList[pc + j]? = some b
/-- the piece W has the bytes bs from its place j on -/
def dkIn (W : List UInt8) (j : Nat) (bs : List UInt8) : Bool := decide ((W.drop j).take bs.length = bs)
theorem dk_seg {l W T : List UInt8} {o o2 : Nat} (h : l.drop o = W ++ T) (n : Nat) (hn : W.length = n) (ho : o + n = o2) : l.drop o2 = T := by
  subst ho
  rw [← List.drop_drop, h, List.drop_left' hn]
theorem dk_at {code : ByteArray} {W T bs : List UInt8} {o pc : Nat} (h : code.data.toList.drop o = W ++ T) (j : Nat) (hp : o + j = pc) (hw : dkIn W j bs = true) : DkAt code pc bs := by
  subst hp
  intro i b e
  have h1 := of_decide_eq_true hw
  have h2 : i < bs.length := (List.getElem?_eq_some_iff.mp e).1
  have h3 : W[j + i]? = some b := by
    rw [← h1, List.getElem?_take, if_pos h2, List.getElem?_drop] at e
    exact e
  have h4 : j + i < W.length := (List.getElem?_eq_some_iff.mp h3).1
  have h5 : (code.data.toList.drop o)[j + i]? = some b := by
    rw [h, List.getElem?_append_left h4]
    exact h3
  rw [List.getElem?_drop, ← Nat.add_assoc] at h5
  exact h5
theorem dk_u1 {A : ByteArray} {p : Nat} {b : UInt8} (h : A.data.toList[p]? = some b) : (Reader.u1 : Reader DecodeError Nat) A p = .ok (b.toNat, p + 1) := by
  obtain ⟨h1, h2⟩ := List.getElem?_eq_some_iff.mp h
  have h3 : p < A.size := by simpa using h1
  have h4 : A[p]'h3 = b := h2
  have e : (Reader.u1 : Reader DecodeError Nat) A p = (if h : p < A.size then .ok (A[p].toNat, p + 1) else .error (HasTruncated.truncated p)) := by
    show (do if h : p < A.size then do set (p + 1); Pure.pure A[p].toNat else MonadExcept.throw (HasTruncated.truncated p) : Reader DecodeError Nat) A p = _
    by_cases hi : p < A.size
    · rw [dif_pos hi, dif_pos hi]; rfl
    · rw [dif_neg hi, dif_neg hi]; rfl
  rw [e, dif_pos h3, h4]
theorem dk_bind {α β : Type} {r : Reader DecodeError α} {f : α → Reader DecodeError β} {A : ByteArray} {p s : Nat} {a : α} (h : r A p = .ok (a, s)) : (r >>= f) A p = f a A s := by
  show (do let (a, s) ← r A p; f a A s : Except DecodeError (β × Nat)) = _
  rw [h]
  rfl
theorem dk_map {α β : Type} {r : Reader DecodeError α} {g : α → β} {A : ByteArray} {p s : Nat} {a : α} (h : r A p = .ok (a, s)) : (g <$> r) A p = .ok (g a, s) := by
  show (do let (a, s) ← r A p; .ok (g a, s) : Except DecodeError (β × Nat)) = _
  rw [h]
  rfl
theorem dk_u2 {A : ByteArray} {p : Nat} {a b : UInt8} (h : A.data.toList[p]? = some a) (h2 : A.data.toList[p + 1]? = some b) : (Reader.u2 : Reader DecodeError Nat) A p = .ok (a.toNat * 256 + b.toNat, p + 2) := by
  show (Reader.u1 >>= fun hi => Reader.u1 >>= fun lo => Pure.pure (hi * 256 + lo) : Reader DecodeError Nat) A p = _
  rw [dk_bind (dk_u1 h), dk_bind (dk_u1 h2)]
  rfl
theorem dk_of {code : ByteArray} {pc n : Nat} {i : Instr} (h : Decoder.instr pc code pc = .ok (i, pc + n)) : decode code pc = .ok (i, n) := by
  have e : decode code pc = (match Decoder.instr pc code pc with | .error x => .error x | .ok (j, s) => .ok (j, s - pc)) := by
    show (do let (j, s) ← Decoder.instr pc code pc; Pure.pure (j, s - pc) : Except DecodeError (Instr × Nat)) = _
    cases Decoder.instr pc code pc <;> rfl
  rw [e, h]
  show Except.ok (i, pc + n - pc) = _
  rw [Nat.add_sub_cancel_left]
theorem dk_2 {code : ByteArray} {pc : Nat} (h : DkAt code pc [2]) : decode code pc = .ok (.iconst (-1), 1) := dk_of ((dk_bind (dk_u1 (h 0 _ rfl))).trans rfl)
theorem dk_3 {code : ByteArray} {pc : Nat} (h : DkAt code pc [3]) : decode code pc = .ok (.iconst 0, 1) := dk_of ((dk_bind (dk_u1 (h 0 _ rfl))).trans rfl)
theorem dk_4 {code : ByteArray} {pc : Nat} (h : DkAt code pc [4]) : decode code pc = .ok (.iconst 1, 1) := dk_of ((dk_bind (dk_u1 (h 0 _ rfl))).trans rfl)
theorem dk_5 {code : ByteArray} {pc : Nat} (h : DkAt code pc [5]) : decode code pc = .ok (.iconst 2, 1) := dk_of ((dk_bind (dk_u1 (h 0 _ rfl))).trans rfl)
theorem dk_6 {code : ByteArray} {pc : Nat} (h : DkAt code pc [6]) : decode code pc = .ok (.iconst 3, 1) := dk_of ((dk_bind (dk_u1 (h 0 _ rfl))).trans rfl)
theorem dk_7 {code : ByteArray} {pc : Nat} (h : DkAt code pc [7]) : decode code pc = .ok (.iconst 4, 1) := dk_of ((dk_bind (dk_u1 (h 0 _ rfl))).trans rfl)
theorem dk_9 {code : ByteArray} {pc : Nat} (h : DkAt code pc [9]) : decode code pc = .ok (.lconst 0, 1) := dk_of ((dk_bind (dk_u1 (h 0 _ rfl))).trans rfl)
theorem dk_10 {code : ByteArray} {pc : Nat} (h : DkAt code pc [10]) : decode code pc = .ok (.lconst 1, 1) := dk_of ((dk_bind (dk_u1 (h 0 _ rfl))).trans rfl)
theorem dk_16 {code : ByteArray} {pc : Nat} (a : UInt8) (h : DkAt code pc [16, a]) : decode code pc = .ok (.bipush (Reader.signed 8 a.toNat), 2) := dk_of ((dk_bind (dk_u1 (h 0 _ rfl))).trans ((dk_bind (dk_map (dk_u1 (h 1 _ rfl)))).trans rfl))
theorem dk_17 {code : ByteArray} {pc : Nat} (a b : UInt8) (h : DkAt code pc [17, a, b]) : decode code pc = .ok (.sipush (Reader.signed 16 (a.toNat * 256 + b.toNat)), 3) := dk_of ((dk_bind (dk_u1 (h 0 _ rfl))).trans ((dk_bind (dk_map (dk_u2 (h 1 _ rfl) (h 2 _ rfl)))).trans rfl))
theorem dk_18 {code : ByteArray} {pc : Nat} (a : UInt8) (h : DkAt code pc [18, a]) : decode code pc = .ok (.ldc a.toNat, 2) := dk_of ((dk_bind (dk_u1 (h 0 _ rfl))).trans ((dk_bind (dk_u1 (h 1 _ rfl))).trans rfl))
theorem dk_20 {code : ByteArray} {pc : Nat} (a b : UInt8) (h : DkAt code pc [20, a, b]) : decode code pc = .ok (.ldc2_w (a.toNat * 256 + b.toNat), 3) := dk_of ((dk_bind (dk_u1 (h 0 _ rfl))).trans ((dk_bind (dk_u2 (h 1 _ rfl) (h 2 _ rfl))).trans rfl))
theorem dk_21 {code : ByteArray} {pc : Nat} (a : UInt8) (h : DkAt code pc [21, a]) : decode code pc = .ok (.iload a.toNat, 2) := dk_of ((dk_bind (dk_u1 (h 0 _ rfl))).trans ((dk_bind (dk_u1 (h 1 _ rfl))).trans rfl))
theorem dk_22 {code : ByteArray} {pc : Nat} (a : UInt8) (h : DkAt code pc [22, a]) : decode code pc = .ok (.lload a.toNat, 2) := dk_of ((dk_bind (dk_u1 (h 0 _ rfl))).trans ((dk_bind (dk_u1 (h 1 _ rfl))).trans rfl))
theorem dk_26 {code : ByteArray} {pc : Nat} (h : DkAt code pc [26]) : decode code pc = .ok (.iload_n 0, 1) := dk_of ((dk_bind (dk_u1 (h 0 _ rfl))).trans rfl)
theorem dk_27 {code : ByteArray} {pc : Nat} (h : DkAt code pc [27]) : decode code pc = .ok (.iload_n 1, 1) := dk_of ((dk_bind (dk_u1 (h 0 _ rfl))).trans rfl)
theorem dk_28 {code : ByteArray} {pc : Nat} (h : DkAt code pc [28]) : decode code pc = .ok (.iload_n 2, 1) := dk_of ((dk_bind (dk_u1 (h 0 _ rfl))).trans rfl)
theorem dk_29 {code : ByteArray} {pc : Nat} (h : DkAt code pc [29]) : decode code pc = .ok (.iload_n 3, 1) := dk_of ((dk_bind (dk_u1 (h 0 _ rfl))).trans rfl)
theorem dk_30 {code : ByteArray} {pc : Nat} (h : DkAt code pc [30]) : decode code pc = .ok (.lload_n 0, 1) := dk_of ((dk_bind (dk_u1 (h 0 _ rfl))).trans rfl)
theorem dk_31 {code : ByteArray} {pc : Nat} (h : DkAt code pc [31]) : decode code pc = .ok (.lload_n 1, 1) := dk_of ((dk_bind (dk_u1 (h 0 _ rfl))).trans rfl)
theorem dk_32 {code : ByteArray} {pc : Nat} (h : DkAt code pc [32]) : decode code pc = .ok (.lload_n 2, 1) := dk_of ((dk_bind (dk_u1 (h 0 _ rfl))).trans rfl)
theorem dk_33 {code : ByteArray} {pc : Nat} (h : DkAt code pc [33]) : decode code pc = .ok (.lload_n 3, 1) := dk_of ((dk_bind (dk_u1 (h 0 _ rfl))).trans rfl)
theorem dk_42 {code : ByteArray} {pc : Nat} (h : DkAt code pc [42]) : decode code pc = .ok (.aload_n 0, 1) := dk_of ((dk_bind (dk_u1 (h 0 _ rfl))).trans rfl)
theorem dk_43 {code : ByteArray} {pc : Nat} (h : DkAt code pc [43]) : decode code pc = .ok (.aload_n 1, 1) := dk_of ((dk_bind (dk_u1 (h 0 _ rfl))).trans rfl)
theorem dk_44 {code : ByteArray} {pc : Nat} (h : DkAt code pc [44]) : decode code pc = .ok (.aload_n 2, 1) := dk_of ((dk_bind (dk_u1 (h 0 _ rfl))).trans rfl)
theorem dk_45 {code : ByteArray} {pc : Nat} (h : DkAt code pc [45]) : decode code pc = .ok (.aload_n 3, 1) := dk_of ((dk_bind (dk_u1 (h 0 _ rfl))).trans rfl)
theorem dk_46 {code : ByteArray} {pc : Nat} (h : DkAt code pc [46]) : decode code pc = .ok (.iaload, 1) := dk_of ((dk_bind (dk_u1 (h 0 _ rfl))).trans rfl)
theorem dk_47 {code : ByteArray} {pc : Nat} (h : DkAt code pc [47]) : decode code pc = .ok (.laload, 1) := dk_of ((dk_bind (dk_u1 (h 0 _ rfl))).trans rfl)
theorem dk_50 {code : ByteArray} {pc : Nat} (h : DkAt code pc [50]) : decode code pc = .ok (.aaload, 1) := dk_of ((dk_bind (dk_u1 (h 0 _ rfl))).trans rfl)
theorem dk_54 {code : ByteArray} {pc : Nat} (a : UInt8) (h : DkAt code pc [54, a]) : decode code pc = .ok (.istore a.toNat, 2) := dk_of ((dk_bind (dk_u1 (h 0 _ rfl))).trans ((dk_bind (dk_u1 (h 1 _ rfl))).trans rfl))
theorem dk_55 {code : ByteArray} {pc : Nat} (a : UInt8) (h : DkAt code pc [55, a]) : decode code pc = .ok (.lstore a.toNat, 2) := dk_of ((dk_bind (dk_u1 (h 0 _ rfl))).trans ((dk_bind (dk_u1 (h 1 _ rfl))).trans rfl))
theorem dk_60 {code : ByteArray} {pc : Nat} (h : DkAt code pc [60]) : decode code pc = .ok (.istore_n 1, 1) := dk_of ((dk_bind (dk_u1 (h 0 _ rfl))).trans rfl)
theorem dk_61 {code : ByteArray} {pc : Nat} (h : DkAt code pc [61]) : decode code pc = .ok (.istore_n 2, 1) := dk_of ((dk_bind (dk_u1 (h 0 _ rfl))).trans rfl)
theorem dk_62 {code : ByteArray} {pc : Nat} (h : DkAt code pc [62]) : decode code pc = .ok (.istore_n 3, 1) := dk_of ((dk_bind (dk_u1 (h 0 _ rfl))).trans rfl)
theorem dk_64 {code : ByteArray} {pc : Nat} (h : DkAt code pc [64]) : decode code pc = .ok (.lstore_n 1, 1) := dk_of ((dk_bind (dk_u1 (h 0 _ rfl))).trans rfl)
theorem dk_66 {code : ByteArray} {pc : Nat} (h : DkAt code pc [66]) : decode code pc = .ok (.lstore_n 3, 1) := dk_of ((dk_bind (dk_u1 (h 0 _ rfl))).trans rfl)
theorem dk_76 {code : ByteArray} {pc : Nat} (h : DkAt code pc [76]) : decode code pc = .ok (.astore_n 1, 1) := dk_of ((dk_bind (dk_u1 (h 0 _ rfl))).trans rfl)
theorem dk_77 {code : ByteArray} {pc : Nat} (h : DkAt code pc [77]) : decode code pc = .ok (.astore_n 2, 1) := dk_of ((dk_bind (dk_u1 (h 0 _ rfl))).trans rfl)
theorem dk_80 {code : ByteArray} {pc : Nat} (h : DkAt code pc [80]) : decode code pc = .ok (.lastore, 1) := dk_of ((dk_bind (dk_u1 (h 0 _ rfl))).trans rfl)
theorem dk_83 {code : ByteArray} {pc : Nat} (h : DkAt code pc [83]) : decode code pc = .ok (.aastore, 1) := dk_of ((dk_bind (dk_u1 (h 0 _ rfl))).trans rfl)
theorem dk_87 {code : ByteArray} {pc : Nat} (h : DkAt code pc [87]) : decode code pc = .ok (.pop, 1) := dk_of ((dk_bind (dk_u1 (h 0 _ rfl))).trans rfl)
theorem dk_88 {code : ByteArray} {pc : Nat} (h : DkAt code pc [88]) : decode code pc = .ok (.pop2, 1) := dk_of ((dk_bind (dk_u1 (h 0 _ rfl))).trans rfl)
theorem dk_89 {code : ByteArray} {pc : Nat} (h : DkAt code pc [89]) : decode code pc = .ok (.dup, 1) := dk_of ((dk_bind (dk_u1 (h 0 _ rfl))).trans rfl)
theorem dk_92 {code : ByteArray} {pc : Nat} (h : DkAt code pc [92]) : decode code pc = .ok (.dup2, 1) := dk_of ((dk_bind (dk_u1 (h 0 _ rfl))).trans rfl)
theorem dk_96 {code : ByteArray} {pc : Nat} (h : DkAt code pc [96]) : decode code pc = .ok (.iadd, 1) := dk_of ((dk_bind (dk_u1 (h 0 _ rfl))).trans rfl)
theorem dk_97 {code : ByteArray} {pc : Nat} (h : DkAt code pc [97]) : decode code pc = .ok (.ladd, 1) := dk_of ((dk_bind (dk_u1 (h 0 _ rfl))).trans rfl)
theorem dk_100 {code : ByteArray} {pc : Nat} (h : DkAt code pc [100]) : decode code pc = .ok (.isub, 1) := dk_of ((dk_bind (dk_u1 (h 0 _ rfl))).trans rfl)
theorem dk_101 {code : ByteArray} {pc : Nat} (h : DkAt code pc [101]) : decode code pc = .ok (.lsub, 1) := dk_of ((dk_bind (dk_u1 (h 0 _ rfl))).trans rfl)
theorem dk_104 {code : ByteArray} {pc : Nat} (h : DkAt code pc [104]) : decode code pc = .ok (.imul, 1) := dk_of ((dk_bind (dk_u1 (h 0 _ rfl))).trans rfl)
theorem dk_105 {code : ByteArray} {pc : Nat} (h : DkAt code pc [105]) : decode code pc = .ok (.lmul, 1) := dk_of ((dk_bind (dk_u1 (h 0 _ rfl))).trans rfl)
theorem dk_109 {code : ByteArray} {pc : Nat} (h : DkAt code pc [109]) : decode code pc = .ok (.ldiv, 1) := dk_of ((dk_bind (dk_u1 (h 0 _ rfl))).trans rfl)
theorem dk_112 {code : ByteArray} {pc : Nat} (h : DkAt code pc [112]) : decode code pc = .ok (.irem, 1) := dk_of ((dk_bind (dk_u1 (h 0 _ rfl))).trans rfl)
theorem dk_113 {code : ByteArray} {pc : Nat} (h : DkAt code pc [113]) : decode code pc = .ok (.lrem, 1) := dk_of ((dk_bind (dk_u1 (h 0 _ rfl))).trans rfl)
theorem dk_116 {code : ByteArray} {pc : Nat} (h : DkAt code pc [116]) : decode code pc = .ok (.ineg, 1) := dk_of ((dk_bind (dk_u1 (h 0 _ rfl))).trans rfl)
theorem dk_122 {code : ByteArray} {pc : Nat} (h : DkAt code pc [122]) : decode code pc = .ok (.ishr, 1) := dk_of ((dk_bind (dk_u1 (h 0 _ rfl))).trans rfl)
theorem dk_126 {code : ByteArray} {pc : Nat} (h : DkAt code pc [126]) : decode code pc = .ok (.iand, 1) := dk_of ((dk_bind (dk_u1 (h 0 _ rfl))).trans rfl)
theorem dk_127 {code : ByteArray} {pc : Nat} (h : DkAt code pc [127]) : decode code pc = .ok (.land, 1) := dk_of ((dk_bind (dk_u1 (h 0 _ rfl))).trans rfl)
theorem dk_132 {code : ByteArray} {pc : Nat} (a b : UInt8) (h : DkAt code pc [132, a, b]) : decode code pc = .ok (.iinc a.toNat (Reader.signed 8 b.toNat), 3) := dk_of ((dk_bind (dk_u1 (h 0 _ rfl))).trans ((dk_bind (dk_u1 (h 1 _ rfl))).trans ((dk_bind (dk_map (dk_u1 (h 2 _ rfl)))).trans rfl)))
theorem dk_133 {code : ByteArray} {pc : Nat} (h : DkAt code pc [133]) : decode code pc = .ok (.i2l, 1) := dk_of ((dk_bind (dk_u1 (h 0 _ rfl))).trans rfl)
theorem dk_136 {code : ByteArray} {pc : Nat} (h : DkAt code pc [136]) : decode code pc = .ok (.l2i, 1) := dk_of ((dk_bind (dk_u1 (h 0 _ rfl))).trans rfl)
theorem dk_147 {code : ByteArray} {pc : Nat} (h : DkAt code pc [147]) : decode code pc = .ok (.i2s, 1) := dk_of ((dk_bind (dk_u1 (h 0 _ rfl))).trans rfl)
theorem dk_148 {code : ByteArray} {pc : Nat} (h : DkAt code pc [148]) : decode code pc = .ok (.lcmp, 1) := dk_of ((dk_bind (dk_u1 (h 0 _ rfl))).trans rfl)
theorem dk_153 {code : ByteArray} {pc : Nat} (a b : UInt8) (h : DkAt code pc [153, a, b]) : decode code pc = .ok (.ifCond .eq (Reader.signed 16 (a.toNat * 256 + b.toNat)), 3) := dk_of ((dk_bind (dk_u1 (h 0 _ rfl))).trans ((dk_bind (dk_map (dk_u2 (h 1 _ rfl) (h 2 _ rfl)))).trans rfl))
theorem dk_154 {code : ByteArray} {pc : Nat} (a b : UInt8) (h : DkAt code pc [154, a, b]) : decode code pc = .ok (.ifCond .ne (Reader.signed 16 (a.toNat * 256 + b.toNat)), 3) := dk_of ((dk_bind (dk_u1 (h 0 _ rfl))).trans ((dk_bind (dk_map (dk_u2 (h 1 _ rfl) (h 2 _ rfl)))).trans rfl))
theorem dk_155 {code : ByteArray} {pc : Nat} (a b : UInt8) (h : DkAt code pc [155, a, b]) : decode code pc = .ok (.ifCond .lt (Reader.signed 16 (a.toNat * 256 + b.toNat)), 3) := dk_of ((dk_bind (dk_u1 (h 0 _ rfl))).trans ((dk_bind (dk_map (dk_u2 (h 1 _ rfl) (h 2 _ rfl)))).trans rfl))
theorem dk_156 {code : ByteArray} {pc : Nat} (a b : UInt8) (h : DkAt code pc [156, a, b]) : decode code pc = .ok (.ifCond .ge (Reader.signed 16 (a.toNat * 256 + b.toNat)), 3) := dk_of ((dk_bind (dk_u1 (h 0 _ rfl))).trans ((dk_bind (dk_map (dk_u2 (h 1 _ rfl) (h 2 _ rfl)))).trans rfl))
theorem dk_157 {code : ByteArray} {pc : Nat} (a b : UInt8) (h : DkAt code pc [157, a, b]) : decode code pc = .ok (.ifCond .gt (Reader.signed 16 (a.toNat * 256 + b.toNat)), 3) := dk_of ((dk_bind (dk_u1 (h 0 _ rfl))).trans ((dk_bind (dk_map (dk_u2 (h 1 _ rfl) (h 2 _ rfl)))).trans rfl))
theorem dk_158 {code : ByteArray} {pc : Nat} (a b : UInt8) (h : DkAt code pc [158, a, b]) : decode code pc = .ok (.ifCond .le (Reader.signed 16 (a.toNat * 256 + b.toNat)), 3) := dk_of ((dk_bind (dk_u1 (h 0 _ rfl))).trans ((dk_bind (dk_map (dk_u2 (h 1 _ rfl) (h 2 _ rfl)))).trans rfl))
theorem dk_159 {code : ByteArray} {pc : Nat} (a b : UInt8) (h : DkAt code pc [159, a, b]) : decode code pc = .ok (.if_icmp .eq (Reader.signed 16 (a.toNat * 256 + b.toNat)), 3) := dk_of ((dk_bind (dk_u1 (h 0 _ rfl))).trans ((dk_bind (dk_map (dk_u2 (h 1 _ rfl) (h 2 _ rfl)))).trans rfl))
theorem dk_160 {code : ByteArray} {pc : Nat} (a b : UInt8) (h : DkAt code pc [160, a, b]) : decode code pc = .ok (.if_icmp .ne (Reader.signed 16 (a.toNat * 256 + b.toNat)), 3) := dk_of ((dk_bind (dk_u1 (h 0 _ rfl))).trans ((dk_bind (dk_map (dk_u2 (h 1 _ rfl) (h 2 _ rfl)))).trans rfl))
theorem dk_161 {code : ByteArray} {pc : Nat} (a b : UInt8) (h : DkAt code pc [161, a, b]) : decode code pc = .ok (.if_icmp .lt (Reader.signed 16 (a.toNat * 256 + b.toNat)), 3) := dk_of ((dk_bind (dk_u1 (h 0 _ rfl))).trans ((dk_bind (dk_map (dk_u2 (h 1 _ rfl) (h 2 _ rfl)))).trans rfl))
theorem dk_162 {code : ByteArray} {pc : Nat} (a b : UInt8) (h : DkAt code pc [162, a, b]) : decode code pc = .ok (.if_icmp .ge (Reader.signed 16 (a.toNat * 256 + b.toNat)), 3) := dk_of ((dk_bind (dk_u1 (h 0 _ rfl))).trans ((dk_bind (dk_map (dk_u2 (h 1 _ rfl) (h 2 _ rfl)))).trans rfl))
theorem dk_163 {code : ByteArray} {pc : Nat} (a b : UInt8) (h : DkAt code pc [163, a, b]) : decode code pc = .ok (.if_icmp .gt (Reader.signed 16 (a.toNat * 256 + b.toNat)), 3) := dk_of ((dk_bind (dk_u1 (h 0 _ rfl))).trans ((dk_bind (dk_map (dk_u2 (h 1 _ rfl) (h 2 _ rfl)))).trans rfl))
theorem dk_164 {code : ByteArray} {pc : Nat} (a b : UInt8) (h : DkAt code pc [164, a, b]) : decode code pc = .ok (.if_icmp .le (Reader.signed 16 (a.toNat * 256 + b.toNat)), 3) := dk_of ((dk_bind (dk_u1 (h 0 _ rfl))).trans ((dk_bind (dk_map (dk_u2 (h 1 _ rfl) (h 2 _ rfl)))).trans rfl))
theorem dk_167 {code : ByteArray} {pc : Nat} (a b : UInt8) (h : DkAt code pc [167, a, b]) : decode code pc = .ok (.goto (Reader.signed 16 (a.toNat * 256 + b.toNat)), 3) := dk_of ((dk_bind (dk_u1 (h 0 _ rfl))).trans ((dk_bind (dk_map (dk_u2 (h 1 _ rfl) (h 2 _ rfl)))).trans rfl))
theorem dk_172 {code : ByteArray} {pc : Nat} (h : DkAt code pc [172]) : decode code pc = .ok (.ireturn, 1) := dk_of ((dk_bind (dk_u1 (h 0 _ rfl))).trans rfl)
theorem dk_173 {code : ByteArray} {pc : Nat} (h : DkAt code pc [173]) : decode code pc = .ok (.lreturn, 1) := dk_of ((dk_bind (dk_u1 (h 0 _ rfl))).trans rfl)
theorem dk_176 {code : ByteArray} {pc : Nat} (h : DkAt code pc [176]) : decode code pc = .ok (.areturn, 1) := dk_of ((dk_bind (dk_u1 (h 0 _ rfl))).trans rfl)
theorem dk_177 {code : ByteArray} {pc : Nat} (h : DkAt code pc [177]) : decode code pc = .ok (.return_, 1) := dk_of ((dk_bind (dk_u1 (h 0 _ rfl))).trans rfl)
theorem dk_178 {code : ByteArray} {pc : Nat} (a b : UInt8) (h : DkAt code pc [178, a, b]) : decode code pc = .ok (.getstatic (a.toNat * 256 + b.toNat), 3) := dk_of ((dk_bind (dk_u1 (h 0 _ rfl))).trans ((dk_bind (dk_u2 (h 1 _ rfl) (h 2 _ rfl))).trans rfl))
theorem dk_180 {code : ByteArray} {pc : Nat} (a b : UInt8) (h : DkAt code pc [180, a, b]) : decode code pc = .ok (.getfield (a.toNat * 256 + b.toNat), 3) := dk_of ((dk_bind (dk_u1 (h 0 _ rfl))).trans ((dk_bind (dk_u2 (h 1 _ rfl) (h 2 _ rfl))).trans rfl))
theorem dk_181 {code : ByteArray} {pc : Nat} (a b : UInt8) (h : DkAt code pc [181, a, b]) : decode code pc = .ok (.putfield (a.toNat * 256 + b.toNat), 3) := dk_of ((dk_bind (dk_u1 (h 0 _ rfl))).trans ((dk_bind (dk_u2 (h 1 _ rfl) (h 2 _ rfl))).trans rfl))
theorem dk_182 {code : ByteArray} {pc : Nat} (a b : UInt8) (h : DkAt code pc [182, a, b]) : decode code pc = .ok (.invokevirtual (a.toNat * 256 + b.toNat), 3) := dk_of ((dk_bind (dk_u1 (h 0 _ rfl))).trans ((dk_bind (dk_u2 (h 1 _ rfl) (h 2 _ rfl))).trans rfl))
theorem dk_183 {code : ByteArray} {pc : Nat} (a b : UInt8) (h : DkAt code pc [183, a, b]) : decode code pc = .ok (.invokespecial (a.toNat * 256 + b.toNat), 3) := dk_of ((dk_bind (dk_u1 (h 0 _ rfl))).trans ((dk_bind (dk_u2 (h 1 _ rfl) (h 2 _ rfl))).trans rfl))
theorem dk_184 {code : ByteArray} {pc : Nat} (a b : UInt8) (h : DkAt code pc [184, a, b]) : decode code pc = .ok (.invokestatic (a.toNat * 256 + b.toNat), 3) := dk_of ((dk_bind (dk_u1 (h 0 _ rfl))).trans ((dk_bind (dk_u2 (h 1 _ rfl) (h 2 _ rfl))).trans rfl))
theorem dk_187 {code : ByteArray} {pc : Nat} (a b : UInt8) (h : DkAt code pc [187, a, b]) : decode code pc = .ok (.new (a.toNat * 256 + b.toNat), 3) := dk_of ((dk_bind (dk_u1 (h 0 _ rfl))).trans ((dk_bind (dk_u2 (h 1 _ rfl) (h 2 _ rfl))).trans rfl))
theorem dk_188_11 {code : ByteArray} {pc : Nat} (h : DkAt code pc [188, 11]) : decode code pc = .ok (.newarray .long, 2) := dk_of ((dk_bind (dk_u1 (h 0 _ rfl))).trans ((dk_bind (dk_u1 (h 1 _ rfl))).trans rfl))
theorem dk_189 {code : ByteArray} {pc : Nat} (a b : UInt8) (h : DkAt code pc [189, a, b]) : decode code pc = .ok (.anewarray (a.toNat * 256 + b.toNat), 3) := dk_of ((dk_bind (dk_u1 (h 0 _ rfl))).trans ((dk_bind (dk_u2 (h 1 _ rfl) (h 2 _ rfl))).trans rfl))
theorem dk_190 {code : ByteArray} {pc : Nat} (h : DkAt code pc [190]) : decode code pc = .ok (.arraylength, 1) := dk_of ((dk_bind (dk_u1 (h 0 _ rfl))).trans rfl)
theorem dk_191 {code : ByteArray} {pc : Nat} (h : DkAt code pc [191]) : decode code pc = .ok (.athrow, 1) := dk_of ((dk_bind (dk_u1 (h 0 _ rfl))).trans rfl)
theorem dk_198 {code : ByteArray} {pc : Nat} (a b : UInt8) (h : DkAt code pc [198, a, b]) : decode code pc = .ok (.ifnull (Reader.signed 16 (a.toNat * 256 + b.toNat)), 3) := dk_of ((dk_bind (dk_u1 (h 0 _ rfl))).trans ((dk_bind (dk_map (dk_u2 (h 1 _ rfl) (h 2 _ rfl)))).trans rfl))
end
section
/-! MonthDeskLaw -/
set_option maxRecDepth 100000
def RX0 : String := "MonthDeskLaw"
abbrev cX0_cell : ByteArray := method_2_code
def yX0_cell : MethodName := ⟨RX0, "cell", "([II)I"⟩
def dkwX0_cell_0 : List UInt8 := [27, 42, 190, 162, 0, 9, 42, 27, 46, 167, 0, 4, 3, 172]
abbrev dktX0_cell_0 : List UInt8 := dkwX0_cell_0 ++ []
theorem dksX0_cell_0 : cX0_cell.data.toList.drop 0 = dktX0_cell_0 := by decide +kernel
theorem dX0_cell_0 : decode cX0_cell 0 = .ok (.iload_n 1, 1) := dk_27 (dk_at dksX0_cell_0 0 rfl rfl)
theorem dX0_cell_1 : decode cX0_cell 1 = .ok (.aload_n 0, 1) := dk_42 (dk_at dksX0_cell_0 1 rfl rfl)
theorem dX0_cell_2 : decode cX0_cell 2 = .ok (.arraylength, 1) := dk_190 (dk_at dksX0_cell_0 2 rfl rfl)
theorem dX0_cell_3 : decode cX0_cell 3 = .ok (.if_icmp .ge 9, 3) := dk_162 0 9 (dk_at dksX0_cell_0 3 rfl rfl)
theorem dX0_cell_6 : decode cX0_cell 6 = .ok (.aload_n 0, 1) := dk_42 (dk_at dksX0_cell_0 6 rfl rfl)
theorem dX0_cell_7 : decode cX0_cell 7 = .ok (.iload_n 1, 1) := dk_27 (dk_at dksX0_cell_0 7 rfl rfl)
theorem dX0_cell_8 : decode cX0_cell 8 = .ok (.iaload, 1) := dk_46 (dk_at dksX0_cell_0 8 rfl rfl)
theorem dX0_cell_9 : decode cX0_cell 9 = .ok (.goto 4, 3) := dk_167 0 4 (dk_at dksX0_cell_0 9 rfl rfl)
theorem dX0_cell_12 : decode cX0_cell 12 = .ok (.iconst 0, 1) := dk_3 (dk_at dksX0_cell_0 12 rfl rfl)
theorem dX0_cell_13 : decode cX0_cell 13 = .ok (.ireturn, 1) := dk_172 (dk_at dksX0_cell_0 13 rfl rfl)
abbrev cX0_rest : ByteArray := method_3_code
def yX0_rest : MethodName := ⟨RX0, "rest", "(II)I"⟩
def dkwX0_rest_0 : List UInt8 := [26, 18, 7, 126, 27, 112, 172]
abbrev dktX0_rest_0 : List UInt8 := dkwX0_rest_0 ++ []
theorem dksX0_rest_0 : cX0_rest.data.toList.drop 0 = dktX0_rest_0 := by decide +kernel
theorem dX0_rest_0 : decode cX0_rest 0 = .ok (.iload_n 0, 1) := dk_26 (dk_at dksX0_rest_0 0 rfl rfl)
theorem dX0_rest_1 : decode cX0_rest 1 = .ok (.ldc 7, 2) := dk_18 7 (dk_at dksX0_rest_0 1 rfl rfl)
theorem dX0_rest_3 : decode cX0_rest 3 = .ok (.iand, 1) := dk_126 (dk_at dksX0_rest_0 3 rfl rfl)
theorem dX0_rest_4 : decode cX0_rest 4 = .ok (.iload_n 1, 1) := dk_27 (dk_at dksX0_rest_0 4 rfl rfl)
theorem dX0_rest_5 : decode cX0_rest 5 = .ok (.irem, 1) := dk_112 (dk_at dksX0_rest_0 5 rfl rfl)
theorem dX0_rest_6 : decode cX0_rest 6 = .ok (.ireturn, 1) := dk_172 (dk_at dksX0_rest_0 6 rfl rfl)
abbrev cX0_floor : ByteArray := method_4_code
def yX0_floor : MethodName := ⟨RX0, "floor", "(JJ)J"⟩
def dkwX0_floor_0 : List UInt8 := [30, 32, 113, 9, 148, 156, 0, 11, 30, 32, 109, 10, 101, 167, 0, 6, 30, 32, 109, 173]
abbrev dktX0_floor_0 : List UInt8 := dkwX0_floor_0 ++ []
theorem dksX0_floor_0 : cX0_floor.data.toList.drop 0 = dktX0_floor_0 := by decide +kernel
theorem dX0_floor_0 : decode cX0_floor 0 = .ok (.lload_n 0, 1) := dk_30 (dk_at dksX0_floor_0 0 rfl rfl)
theorem dX0_floor_1 : decode cX0_floor 1 = .ok (.lload_n 2, 1) := dk_32 (dk_at dksX0_floor_0 1 rfl rfl)
theorem dX0_floor_2 : decode cX0_floor 2 = .ok (.lrem, 1) := dk_113 (dk_at dksX0_floor_0 2 rfl rfl)
theorem dX0_floor_3 : decode cX0_floor 3 = .ok (.lconst 0, 1) := dk_9 (dk_at dksX0_floor_0 3 rfl rfl)
theorem dX0_floor_4 : decode cX0_floor 4 = .ok (.lcmp, 1) := dk_148 (dk_at dksX0_floor_0 4 rfl rfl)
theorem dX0_floor_5 : decode cX0_floor 5 = .ok (.ifCond .ge 11, 3) := dk_156 0 11 (dk_at dksX0_floor_0 5 rfl rfl)
theorem dX0_floor_8 : decode cX0_floor 8 = .ok (.lload_n 0, 1) := dk_30 (dk_at dksX0_floor_0 8 rfl rfl)
theorem dX0_floor_9 : decode cX0_floor 9 = .ok (.lload_n 2, 1) := dk_32 (dk_at dksX0_floor_0 9 rfl rfl)
theorem dX0_floor_10 : decode cX0_floor 10 = .ok (.ldiv, 1) := dk_109 (dk_at dksX0_floor_0 10 rfl rfl)
theorem dX0_floor_11 : decode cX0_floor 11 = .ok (.lconst 1, 1) := dk_10 (dk_at dksX0_floor_0 11 rfl rfl)
theorem dX0_floor_12 : decode cX0_floor 12 = .ok (.lsub, 1) := dk_101 (dk_at dksX0_floor_0 12 rfl rfl)
theorem dX0_floor_13 : decode cX0_floor 13 = .ok (.goto 6, 3) := dk_167 0 6 (dk_at dksX0_floor_0 13 rfl rfl)
theorem dX0_floor_16 : decode cX0_floor 16 = .ok (.lload_n 0, 1) := dk_30 (dk_at dksX0_floor_0 16 rfl rfl)
theorem dX0_floor_17 : decode cX0_floor 17 = .ok (.lload_n 2, 1) := dk_32 (dk_at dksX0_floor_0 17 rfl rfl)
theorem dX0_floor_18 : decode cX0_floor 18 = .ok (.ldiv, 1) := dk_109 (dk_at dksX0_floor_0 18 rfl rfl)
theorem dX0_floor_19 : decode cX0_floor 19 = .ok (.lreturn, 1) := dk_173 (dk_at dksX0_floor_0 19 rfl rfl)
abbrev cX0_stands : ByteArray := method_9_code
def yX0_stands : MethodName := ⟨RX0, "stands", "(LMonthDesk;[JI)Z"⟩
def dkwX0_stands_3 : List UInt8 := [153, 0, 22, 42, 5, 28, 104, 4, 96, 43, 4, 47, 184, 0, 62, 153, 0, 7, 4, 167, 0, 4, 3, 172]
abbrev dktX0_stands_3 : List UInt8 := dkwX0_stands_3 ++ []
def dkwX0_stands_2 : List UInt8 := [184, 0, 62, 153, 0, 43, 42, 182, 0, 66, 29, 160, 0, 35, 42, 5, 28, 104, 43, 3, 47, 184, 0, 62]
abbrev dktX0_stands_2 : List UInt8 := dkwX0_stands_2 ++ dktX0_stands_3
def dkwX0_stands_1 : List UInt8 := [4, 167, 0, 4, 3, 62, 42, 3, 43, 3, 47, 184, 0, 62, 153, 0, 54, 42, 4, 43, 4, 47]
abbrev dktX0_stands_1 : List UInt8 := dkwX0_stands_1 ++ dktX0_stands_2
def dkwX0_stands_0 : List UInt8 := [43, 3, 47, 43, 4, 47, 148, 156, 0, 7, 2, 167, 0, 18, 43, 3, 47, 43, 4, 47, 148, 158, 0, 7]
abbrev dktX0_stands_0 : List UInt8 := dkwX0_stands_0 ++ dktX0_stands_1
theorem dksX0_stands_0 : cX0_stands.data.toList.drop 0 = dktX0_stands_0 := by decide +kernel
theorem dksX0_stands_1 : cX0_stands.data.toList.drop 24 = dktX0_stands_1 := dk_seg dksX0_stands_0 24 rfl rfl
theorem dksX0_stands_2 : cX0_stands.data.toList.drop 46 = dktX0_stands_2 := dk_seg dksX0_stands_1 22 rfl rfl
theorem dksX0_stands_3 : cX0_stands.data.toList.drop 70 = dktX0_stands_3 := dk_seg dksX0_stands_2 24 rfl rfl
theorem dX0_stands_0 : decode cX0_stands 0 = .ok (.aload_n 1, 1) := dk_43 (dk_at dksX0_stands_0 0 rfl rfl)
theorem dX0_stands_1 : decode cX0_stands 1 = .ok (.iconst 0, 1) := dk_3 (dk_at dksX0_stands_0 1 rfl rfl)
theorem dX0_stands_2 : decode cX0_stands 2 = .ok (.laload, 1) := dk_47 (dk_at dksX0_stands_0 2 rfl rfl)
theorem dX0_stands_3 : decode cX0_stands 3 = .ok (.aload_n 1, 1) := dk_43 (dk_at dksX0_stands_0 3 rfl rfl)
theorem dX0_stands_4 : decode cX0_stands 4 = .ok (.iconst 1, 1) := dk_4 (dk_at dksX0_stands_0 4 rfl rfl)
theorem dX0_stands_5 : decode cX0_stands 5 = .ok (.laload, 1) := dk_47 (dk_at dksX0_stands_0 5 rfl rfl)
theorem dX0_stands_6 : decode cX0_stands 6 = .ok (.lcmp, 1) := dk_148 (dk_at dksX0_stands_0 6 rfl rfl)
theorem dX0_stands_7 : decode cX0_stands 7 = .ok (.ifCond .ge 7, 3) := dk_156 0 7 (dk_at dksX0_stands_0 7 rfl rfl)
theorem dX0_stands_10 : decode cX0_stands 10 = .ok (.iconst (-1), 1) := dk_2 (dk_at dksX0_stands_0 10 rfl rfl)
theorem dX0_stands_11 : decode cX0_stands 11 = .ok (.goto 18, 3) := dk_167 0 18 (dk_at dksX0_stands_0 11 rfl rfl)
theorem dX0_stands_14 : decode cX0_stands 14 = .ok (.aload_n 1, 1) := dk_43 (dk_at dksX0_stands_0 14 rfl rfl)
theorem dX0_stands_15 : decode cX0_stands 15 = .ok (.iconst 0, 1) := dk_3 (dk_at dksX0_stands_0 15 rfl rfl)
theorem dX0_stands_16 : decode cX0_stands 16 = .ok (.laload, 1) := dk_47 (dk_at dksX0_stands_0 16 rfl rfl)
theorem dX0_stands_17 : decode cX0_stands 17 = .ok (.aload_n 1, 1) := dk_43 (dk_at dksX0_stands_0 17 rfl rfl)
theorem dX0_stands_18 : decode cX0_stands 18 = .ok (.iconst 1, 1) := dk_4 (dk_at dksX0_stands_0 18 rfl rfl)
theorem dX0_stands_19 : decode cX0_stands 19 = .ok (.laload, 1) := dk_47 (dk_at dksX0_stands_0 19 rfl rfl)
theorem dX0_stands_20 : decode cX0_stands 20 = .ok (.lcmp, 1) := dk_148 (dk_at dksX0_stands_0 20 rfl rfl)
theorem dX0_stands_21 : decode cX0_stands 21 = .ok (.ifCond .le 7, 3) := dk_158 0 7 (dk_at dksX0_stands_0 21 rfl rfl)
theorem dX0_stands_24 : decode cX0_stands 24 = .ok (.iconst 1, 1) := dk_4 (dk_at dksX0_stands_1 0 rfl rfl)
theorem dX0_stands_25 : decode cX0_stands 25 = .ok (.goto 4, 3) := dk_167 0 4 (dk_at dksX0_stands_1 1 rfl rfl)
theorem dX0_stands_28 : decode cX0_stands 28 = .ok (.iconst 0, 1) := dk_3 (dk_at dksX0_stands_1 4 rfl rfl)
theorem dX0_stands_29 : decode cX0_stands 29 = .ok (.istore_n 3, 1) := dk_62 (dk_at dksX0_stands_1 5 rfl rfl)
theorem dX0_stands_30 : decode cX0_stands 30 = .ok (.aload_n 0, 1) := dk_42 (dk_at dksX0_stands_1 6 rfl rfl)
theorem dX0_stands_31 : decode cX0_stands 31 = .ok (.iconst 0, 1) := dk_3 (dk_at dksX0_stands_1 7 rfl rfl)
theorem dX0_stands_32 : decode cX0_stands 32 = .ok (.aload_n 1, 1) := dk_43 (dk_at dksX0_stands_1 8 rfl rfl)
theorem dX0_stands_33 : decode cX0_stands 33 = .ok (.iconst 0, 1) := dk_3 (dk_at dksX0_stands_1 9 rfl rfl)
theorem dX0_stands_34 : decode cX0_stands 34 = .ok (.laload, 1) := dk_47 (dk_at dksX0_stands_1 10 rfl rfl)
theorem dX0_stands_35 : decode cX0_stands 35 = .ok (.invokestatic 62, 3) := dk_184 0 62 (dk_at dksX0_stands_1 11 rfl rfl)
theorem dX0_stands_38 : decode cX0_stands 38 = .ok (.ifCond .eq 54, 3) := dk_153 0 54 (dk_at dksX0_stands_1 14 rfl rfl)
theorem dX0_stands_41 : decode cX0_stands 41 = .ok (.aload_n 0, 1) := dk_42 (dk_at dksX0_stands_1 17 rfl rfl)
theorem dX0_stands_42 : decode cX0_stands 42 = .ok (.iconst 1, 1) := dk_4 (dk_at dksX0_stands_1 18 rfl rfl)
theorem dX0_stands_43 : decode cX0_stands 43 = .ok (.aload_n 1, 1) := dk_43 (dk_at dksX0_stands_1 19 rfl rfl)
theorem dX0_stands_44 : decode cX0_stands 44 = .ok (.iconst 1, 1) := dk_4 (dk_at dksX0_stands_1 20 rfl rfl)
theorem dX0_stands_45 : decode cX0_stands 45 = .ok (.laload, 1) := dk_47 (dk_at dksX0_stands_1 21 rfl rfl)
theorem dX0_stands_46 : decode cX0_stands 46 = .ok (.invokestatic 62, 3) := dk_184 0 62 (dk_at dksX0_stands_2 0 rfl rfl)
theorem dX0_stands_49 : decode cX0_stands 49 = .ok (.ifCond .eq 43, 3) := dk_153 0 43 (dk_at dksX0_stands_2 3 rfl rfl)
theorem dX0_stands_52 : decode cX0_stands 52 = .ok (.aload_n 0, 1) := dk_42 (dk_at dksX0_stands_2 6 rfl rfl)
theorem dX0_stands_53 : decode cX0_stands 53 = .ok (.invokevirtual 66, 3) := dk_182 0 66 (dk_at dksX0_stands_2 7 rfl rfl)
theorem dX0_stands_56 : decode cX0_stands 56 = .ok (.iload_n 3, 1) := dk_29 (dk_at dksX0_stands_2 10 rfl rfl)
theorem dX0_stands_57 : decode cX0_stands 57 = .ok (.if_icmp .ne 35, 3) := dk_160 0 35 (dk_at dksX0_stands_2 11 rfl rfl)
theorem dX0_stands_60 : decode cX0_stands 60 = .ok (.aload_n 0, 1) := dk_42 (dk_at dksX0_stands_2 14 rfl rfl)
theorem dX0_stands_61 : decode cX0_stands 61 = .ok (.iconst 2, 1) := dk_5 (dk_at dksX0_stands_2 15 rfl rfl)
theorem dX0_stands_62 : decode cX0_stands 62 = .ok (.iload_n 2, 1) := dk_28 (dk_at dksX0_stands_2 16 rfl rfl)
theorem dX0_stands_63 : decode cX0_stands 63 = .ok (.imul, 1) := dk_104 (dk_at dksX0_stands_2 17 rfl rfl)
theorem dX0_stands_64 : decode cX0_stands 64 = .ok (.aload_n 1, 1) := dk_43 (dk_at dksX0_stands_2 18 rfl rfl)
theorem dX0_stands_65 : decode cX0_stands 65 = .ok (.iconst 0, 1) := dk_3 (dk_at dksX0_stands_2 19 rfl rfl)
theorem dX0_stands_66 : decode cX0_stands 66 = .ok (.laload, 1) := dk_47 (dk_at dksX0_stands_2 20 rfl rfl)
theorem dX0_stands_67 : decode cX0_stands 67 = .ok (.invokestatic 62, 3) := dk_184 0 62 (dk_at dksX0_stands_2 21 rfl rfl)
theorem dX0_stands_70 : decode cX0_stands 70 = .ok (.ifCond .eq 22, 3) := dk_153 0 22 (dk_at dksX0_stands_3 0 rfl rfl)
theorem dX0_stands_73 : decode cX0_stands 73 = .ok (.aload_n 0, 1) := dk_42 (dk_at dksX0_stands_3 3 rfl rfl)
theorem dX0_stands_74 : decode cX0_stands 74 = .ok (.iconst 2, 1) := dk_5 (dk_at dksX0_stands_3 4 rfl rfl)
theorem dX0_stands_75 : decode cX0_stands 75 = .ok (.iload_n 2, 1) := dk_28 (dk_at dksX0_stands_3 5 rfl rfl)
theorem dX0_stands_76 : decode cX0_stands 76 = .ok (.imul, 1) := dk_104 (dk_at dksX0_stands_3 6 rfl rfl)
theorem dX0_stands_77 : decode cX0_stands 77 = .ok (.iconst 1, 1) := dk_4 (dk_at dksX0_stands_3 7 rfl rfl)
theorem dX0_stands_78 : decode cX0_stands 78 = .ok (.iadd, 1) := dk_96 (dk_at dksX0_stands_3 8 rfl rfl)
theorem dX0_stands_79 : decode cX0_stands 79 = .ok (.aload_n 1, 1) := dk_43 (dk_at dksX0_stands_3 9 rfl rfl)
theorem dX0_stands_80 : decode cX0_stands 80 = .ok (.iconst 1, 1) := dk_4 (dk_at dksX0_stands_3 10 rfl rfl)
theorem dX0_stands_81 : decode cX0_stands 81 = .ok (.laload, 1) := dk_47 (dk_at dksX0_stands_3 11 rfl rfl)
theorem dX0_stands_82 : decode cX0_stands 82 = .ok (.invokestatic 62, 3) := dk_184 0 62 (dk_at dksX0_stands_3 12 rfl rfl)
theorem dX0_stands_85 : decode cX0_stands 85 = .ok (.ifCond .eq 7, 3) := dk_153 0 7 (dk_at dksX0_stands_3 15 rfl rfl)
theorem dX0_stands_88 : decode cX0_stands 88 = .ok (.iconst 1, 1) := dk_4 (dk_at dksX0_stands_3 18 rfl rfl)
theorem dX0_stands_89 : decode cX0_stands 89 = .ok (.goto 4, 3) := dk_167 0 4 (dk_at dksX0_stands_3 19 rfl rfl)
theorem dX0_stands_92 : decode cX0_stands 92 = .ok (.iconst 0, 1) := dk_3 (dk_at dksX0_stands_3 22 rfl rfl)
theorem dX0_stands_93 : decode cX0_stands 93 = .ok (.ireturn, 1) := dk_172 (dk_at dksX0_stands_3 23 rfl rfl)
abbrev cX0_tells : ByteArray := method_8_code
def yX0_tells : MethodName := ⟨RX0, "tells", "(LMonthDesk;IJ)Z"⟩
def dkwX0_tells_6 : List UInt8 := [97, 10, 101, 148, 154, 0, 7, 4, 167, 0, 4, 3, 172]
abbrev dktX0_tells_6 : List UInt8 := dkwX0_tells_6 ++ []
def dkwX0_tells_5 : List UInt8 := [153, 0, 35, 42, 27, 182, 0, 55, 22, 8, 148, 154, 0, 24, 42, 27, 182, 0, 59, 22, 8, 21, 7, 133]
abbrev dktX0_tells_5 : List UInt8 := dkwX0_tells_5 ++ dktX0_tells_6
def dkwX0_tells_4 : List UInt8 := [153, 0, 9, 17, 1, 110, 167, 0, 6, 17, 1, 109, 160, 0, 7, 4, 167, 0, 4, 3, 54, 10, 21, 10]
abbrev dktX0_tells_4 : List UInt8 := dkwX0_tells_4 ++ dktX0_tells_5
def dkwX0_tells_3 : List UInt8 := [42, 27, 182, 0, 49, 22, 4, 184, 0, 14, 160, 0, 32, 42, 27, 182, 0, 52, 22, 4, 184, 0, 14]
abbrev dktX0_tells_3 : List UInt8 := dkwX0_tells_3 ++ dktX0_tells_4
def dkwX0_tells_2 : List UInt8 := [148, 154, 0, 65, 42, 27, 182, 0, 44, 21, 6, 160, 0, 55, 42, 27, 182, 0, 47, 21, 7, 160, 0, 45]
abbrev dktX0_tells_2 : List UInt8 := dkwX0_tells_2 ++ dktX0_tells_3
def dkwX0_tells_1 : List UInt8 := [21, 6, 184, 0, 28, 54, 7, 22, 4, 21, 6, 184, 0, 34, 55, 8, 42, 27, 182, 0, 38, 133, 22, 4]
abbrev dktX0_tells_1 : List UInt8 := dkwX0_tells_1 ++ dktX0_tells_2
def dkwX0_tells_0 : List UInt8 := [32, 20, 0, 32, 184, 0, 22, 55, 4, 32, 20, 0, 32, 22, 4, 105, 101, 136, 4, 96, 54, 6, 22, 4]
abbrev dktX0_tells_0 : List UInt8 := dkwX0_tells_0 ++ dktX0_tells_1
theorem dksX0_tells_0 : cX0_tells.data.toList.drop 0 = dktX0_tells_0 := by decide +kernel
theorem dksX0_tells_1 : cX0_tells.data.toList.drop 24 = dktX0_tells_1 := dk_seg dksX0_tells_0 24 rfl rfl
theorem dksX0_tells_2 : cX0_tells.data.toList.drop 48 = dktX0_tells_2 := dk_seg dksX0_tells_1 24 rfl rfl
theorem dksX0_tells_3 : cX0_tells.data.toList.drop 72 = dktX0_tells_3 := dk_seg dksX0_tells_2 24 rfl rfl
theorem dksX0_tells_4 : cX0_tells.data.toList.drop 95 = dktX0_tells_4 := dk_seg dksX0_tells_3 23 rfl rfl
theorem dksX0_tells_5 : cX0_tells.data.toList.drop 119 = dktX0_tells_5 := dk_seg dksX0_tells_4 24 rfl rfl
theorem dksX0_tells_6 : cX0_tells.data.toList.drop 143 = dktX0_tells_6 := dk_seg dksX0_tells_5 24 rfl rfl
theorem dX0_tells_0 : decode cX0_tells 0 = .ok (.lload_n 2, 1) := dk_32 (dk_at dksX0_tells_0 0 rfl rfl)
theorem dX0_tells_1 : decode cX0_tells 1 = .ok (.ldc2_w 32, 3) := dk_20 0 32 (dk_at dksX0_tells_0 1 rfl rfl)
theorem dX0_tells_4 : decode cX0_tells 4 = .ok (.invokestatic 22, 3) := dk_184 0 22 (dk_at dksX0_tells_0 4 rfl rfl)
theorem dX0_tells_7 : decode cX0_tells 7 = .ok (.lstore 4, 2) := dk_55 4 (dk_at dksX0_tells_0 7 rfl rfl)
theorem dX0_tells_9 : decode cX0_tells 9 = .ok (.lload_n 2, 1) := dk_32 (dk_at dksX0_tells_0 9 rfl rfl)
theorem dX0_tells_10 : decode cX0_tells 10 = .ok (.ldc2_w 32, 3) := dk_20 0 32 (dk_at dksX0_tells_0 10 rfl rfl)
theorem dX0_tells_13 : decode cX0_tells 13 = .ok (.lload 4, 2) := dk_22 4 (dk_at dksX0_tells_0 13 rfl rfl)
theorem dX0_tells_15 : decode cX0_tells 15 = .ok (.lmul, 1) := dk_105 (dk_at dksX0_tells_0 15 rfl rfl)
theorem dX0_tells_16 : decode cX0_tells 16 = .ok (.lsub, 1) := dk_101 (dk_at dksX0_tells_0 16 rfl rfl)
theorem dX0_tells_17 : decode cX0_tells 17 = .ok (.l2i, 1) := dk_136 (dk_at dksX0_tells_0 17 rfl rfl)
theorem dX0_tells_18 : decode cX0_tells 18 = .ok (.iconst 1, 1) := dk_4 (dk_at dksX0_tells_0 18 rfl rfl)
theorem dX0_tells_19 : decode cX0_tells 19 = .ok (.iadd, 1) := dk_96 (dk_at dksX0_tells_0 19 rfl rfl)
theorem dX0_tells_20 : decode cX0_tells 20 = .ok (.istore 6, 2) := dk_54 6 (dk_at dksX0_tells_0 20 rfl rfl)
theorem dX0_tells_22 : decode cX0_tells 22 = .ok (.lload 4, 2) := dk_22 4 (dk_at dksX0_tells_0 22 rfl rfl)
theorem dX0_tells_24 : decode cX0_tells 24 = .ok (.iload 6, 2) := dk_21 6 (dk_at dksX0_tells_1 0 rfl rfl)
theorem dX0_tells_26 : decode cX0_tells 26 = .ok (.invokestatic 28, 3) := dk_184 0 28 (dk_at dksX0_tells_1 2 rfl rfl)
theorem dX0_tells_29 : decode cX0_tells 29 = .ok (.istore 7, 2) := dk_54 7 (dk_at dksX0_tells_1 5 rfl rfl)
theorem dX0_tells_31 : decode cX0_tells 31 = .ok (.lload 4, 2) := dk_22 4 (dk_at dksX0_tells_1 7 rfl rfl)
theorem dX0_tells_33 : decode cX0_tells 33 = .ok (.iload 6, 2) := dk_21 6 (dk_at dksX0_tells_1 9 rfl rfl)
theorem dX0_tells_35 : decode cX0_tells 35 = .ok (.invokestatic 34, 3) := dk_184 0 34 (dk_at dksX0_tells_1 11 rfl rfl)
theorem dX0_tells_38 : decode cX0_tells 38 = .ok (.lstore 8, 2) := dk_55 8 (dk_at dksX0_tells_1 14 rfl rfl)
theorem dX0_tells_40 : decode cX0_tells 40 = .ok (.aload_n 0, 1) := dk_42 (dk_at dksX0_tells_1 16 rfl rfl)
theorem dX0_tells_41 : decode cX0_tells 41 = .ok (.iload_n 1, 1) := dk_27 (dk_at dksX0_tells_1 17 rfl rfl)
theorem dX0_tells_42 : decode cX0_tells 42 = .ok (.invokevirtual 38, 3) := dk_182 0 38 (dk_at dksX0_tells_1 18 rfl rfl)
theorem dX0_tells_45 : decode cX0_tells 45 = .ok (.i2l, 1) := dk_133 (dk_at dksX0_tells_1 21 rfl rfl)
theorem dX0_tells_46 : decode cX0_tells 46 = .ok (.lload 4, 2) := dk_22 4 (dk_at dksX0_tells_1 22 rfl rfl)
theorem dX0_tells_48 : decode cX0_tells 48 = .ok (.lcmp, 1) := dk_148 (dk_at dksX0_tells_2 0 rfl rfl)
theorem dX0_tells_49 : decode cX0_tells 49 = .ok (.ifCond .ne 65, 3) := dk_154 0 65 (dk_at dksX0_tells_2 1 rfl rfl)
theorem dX0_tells_52 : decode cX0_tells 52 = .ok (.aload_n 0, 1) := dk_42 (dk_at dksX0_tells_2 4 rfl rfl)
theorem dX0_tells_53 : decode cX0_tells 53 = .ok (.iload_n 1, 1) := dk_27 (dk_at dksX0_tells_2 5 rfl rfl)
theorem dX0_tells_54 : decode cX0_tells 54 = .ok (.invokevirtual 44, 3) := dk_182 0 44 (dk_at dksX0_tells_2 6 rfl rfl)
theorem dX0_tells_57 : decode cX0_tells 57 = .ok (.iload 6, 2) := dk_21 6 (dk_at dksX0_tells_2 9 rfl rfl)
theorem dX0_tells_59 : decode cX0_tells 59 = .ok (.if_icmp .ne 55, 3) := dk_160 0 55 (dk_at dksX0_tells_2 11 rfl rfl)
theorem dX0_tells_62 : decode cX0_tells 62 = .ok (.aload_n 0, 1) := dk_42 (dk_at dksX0_tells_2 14 rfl rfl)
theorem dX0_tells_63 : decode cX0_tells 63 = .ok (.iload_n 1, 1) := dk_27 (dk_at dksX0_tells_2 15 rfl rfl)
theorem dX0_tells_64 : decode cX0_tells 64 = .ok (.invokevirtual 47, 3) := dk_182 0 47 (dk_at dksX0_tells_2 16 rfl rfl)
theorem dX0_tells_67 : decode cX0_tells 67 = .ok (.iload 7, 2) := dk_21 7 (dk_at dksX0_tells_2 19 rfl rfl)
theorem dX0_tells_69 : decode cX0_tells 69 = .ok (.if_icmp .ne 45, 3) := dk_160 0 45 (dk_at dksX0_tells_2 21 rfl rfl)
theorem dX0_tells_72 : decode cX0_tells 72 = .ok (.aload_n 0, 1) := dk_42 (dk_at dksX0_tells_3 0 rfl rfl)
theorem dX0_tells_73 : decode cX0_tells 73 = .ok (.iload_n 1, 1) := dk_27 (dk_at dksX0_tells_3 1 rfl rfl)
theorem dX0_tells_74 : decode cX0_tells 74 = .ok (.invokevirtual 49, 3) := dk_182 0 49 (dk_at dksX0_tells_3 2 rfl rfl)
theorem dX0_tells_77 : decode cX0_tells 77 = .ok (.lload 4, 2) := dk_22 4 (dk_at dksX0_tells_3 5 rfl rfl)
theorem dX0_tells_79 : decode cX0_tells 79 = .ok (.invokestatic 14, 3) := dk_184 0 14 (dk_at dksX0_tells_3 7 rfl rfl)
theorem dX0_tells_82 : decode cX0_tells 82 = .ok (.if_icmp .ne 32, 3) := dk_160 0 32 (dk_at dksX0_tells_3 10 rfl rfl)
theorem dX0_tells_85 : decode cX0_tells 85 = .ok (.aload_n 0, 1) := dk_42 (dk_at dksX0_tells_3 13 rfl rfl)
theorem dX0_tells_86 : decode cX0_tells 86 = .ok (.iload_n 1, 1) := dk_27 (dk_at dksX0_tells_3 14 rfl rfl)
theorem dX0_tells_87 : decode cX0_tells 87 = .ok (.invokevirtual 52, 3) := dk_182 0 52 (dk_at dksX0_tells_3 15 rfl rfl)
theorem dX0_tells_90 : decode cX0_tells 90 = .ok (.lload 4, 2) := dk_22 4 (dk_at dksX0_tells_3 18 rfl rfl)
theorem dX0_tells_92 : decode cX0_tells 92 = .ok (.invokestatic 14, 3) := dk_184 0 14 (dk_at dksX0_tells_3 20 rfl rfl)
theorem dX0_tells_95 : decode cX0_tells 95 = .ok (.ifCond .eq 9, 3) := dk_153 0 9 (dk_at dksX0_tells_4 0 rfl rfl)
theorem dX0_tells_98 : decode cX0_tells 98 = .ok (.sipush 366, 3) := dk_17 1 110 (dk_at dksX0_tells_4 3 rfl rfl)
theorem dX0_tells_101 : decode cX0_tells 101 = .ok (.goto 6, 3) := dk_167 0 6 (dk_at dksX0_tells_4 6 rfl rfl)
theorem dX0_tells_104 : decode cX0_tells 104 = .ok (.sipush 365, 3) := dk_17 1 109 (dk_at dksX0_tells_4 9 rfl rfl)
theorem dX0_tells_107 : decode cX0_tells 107 = .ok (.if_icmp .ne 7, 3) := dk_160 0 7 (dk_at dksX0_tells_4 12 rfl rfl)
theorem dX0_tells_110 : decode cX0_tells 110 = .ok (.iconst 1, 1) := dk_4 (dk_at dksX0_tells_4 15 rfl rfl)
theorem dX0_tells_111 : decode cX0_tells 111 = .ok (.goto 4, 3) := dk_167 0 4 (dk_at dksX0_tells_4 16 rfl rfl)
theorem dX0_tells_114 : decode cX0_tells 114 = .ok (.iconst 0, 1) := dk_3 (dk_at dksX0_tells_4 19 rfl rfl)
theorem dX0_tells_115 : decode cX0_tells 115 = .ok (.istore 10, 2) := dk_54 10 (dk_at dksX0_tells_4 20 rfl rfl)
theorem dX0_tells_117 : decode cX0_tells 117 = .ok (.iload 10, 2) := dk_21 10 (dk_at dksX0_tells_4 22 rfl rfl)
theorem dX0_tells_119 : decode cX0_tells 119 = .ok (.ifCond .eq 35, 3) := dk_153 0 35 (dk_at dksX0_tells_5 0 rfl rfl)
theorem dX0_tells_122 : decode cX0_tells 122 = .ok (.aload_n 0, 1) := dk_42 (dk_at dksX0_tells_5 3 rfl rfl)
theorem dX0_tells_123 : decode cX0_tells 123 = .ok (.iload_n 1, 1) := dk_27 (dk_at dksX0_tells_5 4 rfl rfl)
theorem dX0_tells_124 : decode cX0_tells 124 = .ok (.invokevirtual 55, 3) := dk_182 0 55 (dk_at dksX0_tells_5 5 rfl rfl)
theorem dX0_tells_127 : decode cX0_tells 127 = .ok (.lload 8, 2) := dk_22 8 (dk_at dksX0_tells_5 8 rfl rfl)
theorem dX0_tells_129 : decode cX0_tells 129 = .ok (.lcmp, 1) := dk_148 (dk_at dksX0_tells_5 10 rfl rfl)
theorem dX0_tells_130 : decode cX0_tells 130 = .ok (.ifCond .ne 24, 3) := dk_154 0 24 (dk_at dksX0_tells_5 11 rfl rfl)
theorem dX0_tells_133 : decode cX0_tells 133 = .ok (.aload_n 0, 1) := dk_42 (dk_at dksX0_tells_5 14 rfl rfl)
theorem dX0_tells_134 : decode cX0_tells 134 = .ok (.iload_n 1, 1) := dk_27 (dk_at dksX0_tells_5 15 rfl rfl)
theorem dX0_tells_135 : decode cX0_tells 135 = .ok (.invokevirtual 59, 3) := dk_182 0 59 (dk_at dksX0_tells_5 16 rfl rfl)
theorem dX0_tells_138 : decode cX0_tells 138 = .ok (.lload 8, 2) := dk_22 8 (dk_at dksX0_tells_5 19 rfl rfl)
theorem dX0_tells_140 : decode cX0_tells 140 = .ok (.iload 7, 2) := dk_21 7 (dk_at dksX0_tells_5 21 rfl rfl)
theorem dX0_tells_142 : decode cX0_tells 142 = .ok (.i2l, 1) := dk_133 (dk_at dksX0_tells_5 23 rfl rfl)
theorem dX0_tells_143 : decode cX0_tells 143 = .ok (.ladd, 1) := dk_97 (dk_at dksX0_tells_6 0 rfl rfl)
theorem dX0_tells_144 : decode cX0_tells 144 = .ok (.lconst 1, 1) := dk_10 (dk_at dksX0_tells_6 1 rfl rfl)
theorem dX0_tells_145 : decode cX0_tells 145 = .ok (.lsub, 1) := dk_101 (dk_at dksX0_tells_6 2 rfl rfl)
theorem dX0_tells_146 : decode cX0_tells 146 = .ok (.lcmp, 1) := dk_148 (dk_at dksX0_tells_6 3 rfl rfl)
theorem dX0_tells_147 : decode cX0_tells 147 = .ok (.ifCond .ne 7, 3) := dk_154 0 7 (dk_at dksX0_tells_6 4 rfl rfl)
theorem dX0_tells_150 : decode cX0_tells 150 = .ok (.iconst 1, 1) := dk_4 (dk_at dksX0_tells_6 7 rfl rfl)
theorem dX0_tells_151 : decode cX0_tells 151 = .ok (.goto 4, 3) := dk_167 0 4 (dk_at dksX0_tells_6 8 rfl rfl)
theorem dX0_tells_154 : decode cX0_tells 154 = .ok (.iconst 0, 1) := dk_3 (dk_at dksX0_tells_6 11 rfl rfl)
theorem dX0_tells_155 : decode cX0_tells 155 = .ok (.ireturn, 1) := dk_172 (dk_at dksX0_tells_6 12 rfl rfl)
abbrev cX0_length : ByteArray := method_6_code
def yX0_length : MethodName := ⟨RX0, "length", "(JI)I"⟩
def dkwX0_length_2 : List UInt8 := [167, 0, 5, 16, 31, 172]
abbrev dktX0_length_2 : List UInt8 := dkwX0_length_2 ++ []
def dkwX0_length_1 : List UInt8 := [159, 0, 21, 28, 16, 6, 159, 0, 15, 28, 16, 9, 159, 0, 9, 28, 16, 11, 160, 0, 8, 16, 30]
abbrev dktX0_length_1 : List UInt8 := dkwX0_length_1 ++ dktX0_length_2
def dkwX0_length_0 : List UInt8 := [28, 5, 160, 0, 20, 30, 184, 0, 14, 153, 0, 8, 16, 29, 167, 0, 38, 16, 28, 167, 0, 33, 28, 7]
abbrev dktX0_length_0 : List UInt8 := dkwX0_length_0 ++ dktX0_length_1
theorem dksX0_length_0 : cX0_length.data.toList.drop 0 = dktX0_length_0 := by decide +kernel
theorem dksX0_length_1 : cX0_length.data.toList.drop 24 = dktX0_length_1 := dk_seg dksX0_length_0 24 rfl rfl
theorem dksX0_length_2 : cX0_length.data.toList.drop 47 = dktX0_length_2 := dk_seg dksX0_length_1 23 rfl rfl
theorem dX0_length_0 : decode cX0_length 0 = .ok (.iload_n 2, 1) := dk_28 (dk_at dksX0_length_0 0 rfl rfl)
theorem dX0_length_1 : decode cX0_length 1 = .ok (.iconst 2, 1) := dk_5 (dk_at dksX0_length_0 1 rfl rfl)
theorem dX0_length_2 : decode cX0_length 2 = .ok (.if_icmp .ne 20, 3) := dk_160 0 20 (dk_at dksX0_length_0 2 rfl rfl)
theorem dX0_length_5 : decode cX0_length 5 = .ok (.lload_n 0, 1) := dk_30 (dk_at dksX0_length_0 5 rfl rfl)
theorem dX0_length_6 : decode cX0_length 6 = .ok (.invokestatic 14, 3) := dk_184 0 14 (dk_at dksX0_length_0 6 rfl rfl)
theorem dX0_length_9 : decode cX0_length 9 = .ok (.ifCond .eq 8, 3) := dk_153 0 8 (dk_at dksX0_length_0 9 rfl rfl)
theorem dX0_length_12 : decode cX0_length 12 = .ok (.bipush 29, 2) := dk_16 29 (dk_at dksX0_length_0 12 rfl rfl)
theorem dX0_length_14 : decode cX0_length 14 = .ok (.goto 38, 3) := dk_167 0 38 (dk_at dksX0_length_0 14 rfl rfl)
theorem dX0_length_17 : decode cX0_length 17 = .ok (.bipush 28, 2) := dk_16 28 (dk_at dksX0_length_0 17 rfl rfl)
theorem dX0_length_19 : decode cX0_length 19 = .ok (.goto 33, 3) := dk_167 0 33 (dk_at dksX0_length_0 19 rfl rfl)
theorem dX0_length_22 : decode cX0_length 22 = .ok (.iload_n 2, 1) := dk_28 (dk_at dksX0_length_0 22 rfl rfl)
theorem dX0_length_23 : decode cX0_length 23 = .ok (.iconst 4, 1) := dk_7 (dk_at dksX0_length_0 23 rfl rfl)
theorem dX0_length_24 : decode cX0_length 24 = .ok (.if_icmp .eq 21, 3) := dk_159 0 21 (dk_at dksX0_length_1 0 rfl rfl)
theorem dX0_length_27 : decode cX0_length 27 = .ok (.iload_n 2, 1) := dk_28 (dk_at dksX0_length_1 3 rfl rfl)
theorem dX0_length_28 : decode cX0_length 28 = .ok (.bipush 6, 2) := dk_16 6 (dk_at dksX0_length_1 4 rfl rfl)
theorem dX0_length_30 : decode cX0_length 30 = .ok (.if_icmp .eq 15, 3) := dk_159 0 15 (dk_at dksX0_length_1 6 rfl rfl)
theorem dX0_length_33 : decode cX0_length 33 = .ok (.iload_n 2, 1) := dk_28 (dk_at dksX0_length_1 9 rfl rfl)
theorem dX0_length_34 : decode cX0_length 34 = .ok (.bipush 9, 2) := dk_16 9 (dk_at dksX0_length_1 10 rfl rfl)
theorem dX0_length_36 : decode cX0_length 36 = .ok (.if_icmp .eq 9, 3) := dk_159 0 9 (dk_at dksX0_length_1 12 rfl rfl)
theorem dX0_length_39 : decode cX0_length 39 = .ok (.iload_n 2, 1) := dk_28 (dk_at dksX0_length_1 15 rfl rfl)
theorem dX0_length_40 : decode cX0_length 40 = .ok (.bipush 11, 2) := dk_16 11 (dk_at dksX0_length_1 16 rfl rfl)
theorem dX0_length_42 : decode cX0_length 42 = .ok (.if_icmp .ne 8, 3) := dk_160 0 8 (dk_at dksX0_length_1 18 rfl rfl)
theorem dX0_length_45 : decode cX0_length 45 = .ok (.bipush 30, 2) := dk_16 30 (dk_at dksX0_length_1 21 rfl rfl)
theorem dX0_length_47 : decode cX0_length 47 = .ok (.goto 5, 3) := dk_167 0 5 (dk_at dksX0_length_2 0 rfl rfl)
theorem dX0_length_50 : decode cX0_length 50 = .ok (.bipush 31, 2) := dk_16 31 (dk_at dksX0_length_2 3 rfl rfl)
theorem dX0_length_52 : decode cX0_length 52 = .ok (.ireturn, 1) := dk_172 (dk_at dksX0_length_2 5 rfl rfl)
abbrev cX0_leap : ByteArray := method_5_code
def yX0_leap : MethodName := ⟨RX0, "leap", "(J)Z"⟩
def dkwX0_leap_1 : List UInt8 := [113, 9, 148, 154, 0, 7, 4, 167, 0, 4, 3, 172]
abbrev dktX0_leap_1 : List UInt8 := dkwX0_leap_1 ++ []
def dkwX0_leap_0 : List UInt8 := [30, 20, 0, 8, 113, 9, 148, 154, 0, 13, 30, 20, 0, 10, 113, 9, 148, 154, 0, 13, 30, 20, 0, 12]
abbrev dktX0_leap_0 : List UInt8 := dkwX0_leap_0 ++ dktX0_leap_1
theorem dksX0_leap_0 : cX0_leap.data.toList.drop 0 = dktX0_leap_0 := by decide +kernel
theorem dksX0_leap_1 : cX0_leap.data.toList.drop 24 = dktX0_leap_1 := dk_seg dksX0_leap_0 24 rfl rfl
theorem dX0_leap_0 : decode cX0_leap 0 = .ok (.lload_n 0, 1) := dk_30 (dk_at dksX0_leap_0 0 rfl rfl)
theorem dX0_leap_1 : decode cX0_leap 1 = .ok (.ldc2_w 8, 3) := dk_20 0 8 (dk_at dksX0_leap_0 1 rfl rfl)
theorem dX0_leap_4 : decode cX0_leap 4 = .ok (.lrem, 1) := dk_113 (dk_at dksX0_leap_0 4 rfl rfl)
theorem dX0_leap_5 : decode cX0_leap 5 = .ok (.lconst 0, 1) := dk_9 (dk_at dksX0_leap_0 5 rfl rfl)
theorem dX0_leap_6 : decode cX0_leap 6 = .ok (.lcmp, 1) := dk_148 (dk_at dksX0_leap_0 6 rfl rfl)
theorem dX0_leap_7 : decode cX0_leap 7 = .ok (.ifCond .ne 13, 3) := dk_154 0 13 (dk_at dksX0_leap_0 7 rfl rfl)
theorem dX0_leap_10 : decode cX0_leap 10 = .ok (.lload_n 0, 1) := dk_30 (dk_at dksX0_leap_0 10 rfl rfl)
theorem dX0_leap_11 : decode cX0_leap 11 = .ok (.ldc2_w 10, 3) := dk_20 0 10 (dk_at dksX0_leap_0 11 rfl rfl)
theorem dX0_leap_14 : decode cX0_leap 14 = .ok (.lrem, 1) := dk_113 (dk_at dksX0_leap_0 14 rfl rfl)
theorem dX0_leap_15 : decode cX0_leap 15 = .ok (.lconst 0, 1) := dk_9 (dk_at dksX0_leap_0 15 rfl rfl)
theorem dX0_leap_16 : decode cX0_leap 16 = .ok (.lcmp, 1) := dk_148 (dk_at dksX0_leap_0 16 rfl rfl)
theorem dX0_leap_17 : decode cX0_leap 17 = .ok (.ifCond .ne 13, 3) := dk_154 0 13 (dk_at dksX0_leap_0 17 rfl rfl)
theorem dX0_leap_20 : decode cX0_leap 20 = .ok (.lload_n 0, 1) := dk_30 (dk_at dksX0_leap_0 20 rfl rfl)
theorem dX0_leap_21 : decode cX0_leap 21 = .ok (.ldc2_w 12, 3) := dk_20 0 12 (dk_at dksX0_leap_0 21 rfl rfl)
theorem dX0_leap_24 : decode cX0_leap 24 = .ok (.lrem, 1) := dk_113 (dk_at dksX0_leap_1 0 rfl rfl)
theorem dX0_leap_25 : decode cX0_leap 25 = .ok (.lconst 0, 1) := dk_9 (dk_at dksX0_leap_1 1 rfl rfl)
theorem dX0_leap_26 : decode cX0_leap 26 = .ok (.lcmp, 1) := dk_148 (dk_at dksX0_leap_1 2 rfl rfl)
theorem dX0_leap_27 : decode cX0_leap 27 = .ok (.ifCond .ne 7, 3) := dk_154 0 7 (dk_at dksX0_leap_1 3 rfl rfl)
theorem dX0_leap_30 : decode cX0_leap 30 = .ok (.iconst 1, 1) := dk_4 (dk_at dksX0_leap_1 6 rfl rfl)
theorem dX0_leap_31 : decode cX0_leap 31 = .ok (.goto 4, 3) := dk_167 0 4 (dk_at dksX0_leap_1 7 rfl rfl)
theorem dX0_leap_34 : decode cX0_leap 34 = .ok (.iconst 0, 1) := dk_3 (dk_at dksX0_leap_1 10 rfl rfl)
theorem dX0_leap_35 : decode cX0_leap 35 = .ok (.ireturn, 1) := dk_172 (dk_at dksX0_leap_1 11 rfl rfl)
abbrev cX0_first : ByteArray := method_7_code
def yX0_first : MethodName := ⟨RX0, "first", "(JI)J"⟩
def dkwX0_first_2 : List UInt8 := [22, 5, 30, 21, 7, 184, 0, 28, 133, 97, 55, 5, 132, 7, 1, 167, 255, 235, 22, 5, 173]
abbrev dktX0_first_2 : List UInt8 := dkwX0_first_2 ++ []
def dkwX0_first_1 : List UInt8 := [101, 33, 20, 0, 12, 184, 0, 22, 97, 20, 0, 26, 101, 55, 5, 4, 54, 7, 21, 7, 28, 162, 0, 21]
abbrev dktX0_first_1 : List UInt8 := dkwX0_first_1 ++ dktX0_first_2
def dkwX0_first_0 : List UInt8 := [30, 10, 101, 66, 20, 0, 20, 33, 105, 33, 20, 0, 8, 184, 0, 22, 97, 33, 20, 0, 10, 184, 0, 22]
abbrev dktX0_first_0 : List UInt8 := dkwX0_first_0 ++ dktX0_first_1
theorem dksX0_first_0 : cX0_first.data.toList.drop 0 = dktX0_first_0 := by decide +kernel
theorem dksX0_first_1 : cX0_first.data.toList.drop 24 = dktX0_first_1 := dk_seg dksX0_first_0 24 rfl rfl
theorem dksX0_first_2 : cX0_first.data.toList.drop 48 = dktX0_first_2 := dk_seg dksX0_first_1 24 rfl rfl
theorem dX0_first_0 : decode cX0_first 0 = .ok (.lload_n 0, 1) := dk_30 (dk_at dksX0_first_0 0 rfl rfl)
theorem dX0_first_1 : decode cX0_first 1 = .ok (.lconst 1, 1) := dk_10 (dk_at dksX0_first_0 1 rfl rfl)
theorem dX0_first_2 : decode cX0_first 2 = .ok (.lsub, 1) := dk_101 (dk_at dksX0_first_0 2 rfl rfl)
theorem dX0_first_3 : decode cX0_first 3 = .ok (.lstore_n 3, 1) := dk_66 (dk_at dksX0_first_0 3 rfl rfl)
theorem dX0_first_4 : decode cX0_first 4 = .ok (.ldc2_w 20, 3) := dk_20 0 20 (dk_at dksX0_first_0 4 rfl rfl)
theorem dX0_first_7 : decode cX0_first 7 = .ok (.lload_n 3, 1) := dk_33 (dk_at dksX0_first_0 7 rfl rfl)
theorem dX0_first_8 : decode cX0_first 8 = .ok (.lmul, 1) := dk_105 (dk_at dksX0_first_0 8 rfl rfl)
theorem dX0_first_9 : decode cX0_first 9 = .ok (.lload_n 3, 1) := dk_33 (dk_at dksX0_first_0 9 rfl rfl)
theorem dX0_first_10 : decode cX0_first 10 = .ok (.ldc2_w 8, 3) := dk_20 0 8 (dk_at dksX0_first_0 10 rfl rfl)
theorem dX0_first_13 : decode cX0_first 13 = .ok (.invokestatic 22, 3) := dk_184 0 22 (dk_at dksX0_first_0 13 rfl rfl)
theorem dX0_first_16 : decode cX0_first 16 = .ok (.ladd, 1) := dk_97 (dk_at dksX0_first_0 16 rfl rfl)
theorem dX0_first_17 : decode cX0_first 17 = .ok (.lload_n 3, 1) := dk_33 (dk_at dksX0_first_0 17 rfl rfl)
theorem dX0_first_18 : decode cX0_first 18 = .ok (.ldc2_w 10, 3) := dk_20 0 10 (dk_at dksX0_first_0 18 rfl rfl)
theorem dX0_first_21 : decode cX0_first 21 = .ok (.invokestatic 22, 3) := dk_184 0 22 (dk_at dksX0_first_0 21 rfl rfl)
theorem dX0_first_24 : decode cX0_first 24 = .ok (.lsub, 1) := dk_101 (dk_at dksX0_first_1 0 rfl rfl)
theorem dX0_first_25 : decode cX0_first 25 = .ok (.lload_n 3, 1) := dk_33 (dk_at dksX0_first_1 1 rfl rfl)
theorem dX0_first_26 : decode cX0_first 26 = .ok (.ldc2_w 12, 3) := dk_20 0 12 (dk_at dksX0_first_1 2 rfl rfl)
theorem dX0_first_29 : decode cX0_first 29 = .ok (.invokestatic 22, 3) := dk_184 0 22 (dk_at dksX0_first_1 5 rfl rfl)
theorem dX0_first_32 : decode cX0_first 32 = .ok (.ladd, 1) := dk_97 (dk_at dksX0_first_1 8 rfl rfl)
theorem dX0_first_33 : decode cX0_first 33 = .ok (.ldc2_w 26, 3) := dk_20 0 26 (dk_at dksX0_first_1 9 rfl rfl)
theorem dX0_first_36 : decode cX0_first 36 = .ok (.lsub, 1) := dk_101 (dk_at dksX0_first_1 12 rfl rfl)
theorem dX0_first_37 : decode cX0_first 37 = .ok (.lstore 5, 2) := dk_55 5 (dk_at dksX0_first_1 13 rfl rfl)
theorem dX0_first_39 : decode cX0_first 39 = .ok (.iconst 1, 1) := dk_4 (dk_at dksX0_first_1 15 rfl rfl)
theorem dX0_first_40 : decode cX0_first 40 = .ok (.istore 7, 2) := dk_54 7 (dk_at dksX0_first_1 16 rfl rfl)
theorem dX0_first_42 : decode cX0_first 42 = .ok (.iload 7, 2) := dk_21 7 (dk_at dksX0_first_1 18 rfl rfl)
theorem dX0_first_44 : decode cX0_first 44 = .ok (.iload_n 2, 1) := dk_28 (dk_at dksX0_first_1 20 rfl rfl)
theorem dX0_first_45 : decode cX0_first 45 = .ok (.if_icmp .ge 21, 3) := dk_162 0 21 (dk_at dksX0_first_1 21 rfl rfl)
theorem dX0_first_48 : decode cX0_first 48 = .ok (.lload 5, 2) := dk_22 5 (dk_at dksX0_first_2 0 rfl rfl)
theorem dX0_first_50 : decode cX0_first 50 = .ok (.lload_n 0, 1) := dk_30 (dk_at dksX0_first_2 2 rfl rfl)
theorem dX0_first_51 : decode cX0_first 51 = .ok (.iload 7, 2) := dk_21 7 (dk_at dksX0_first_2 3 rfl rfl)
theorem dX0_first_53 : decode cX0_first 53 = .ok (.invokestatic 28, 3) := dk_184 0 28 (dk_at dksX0_first_2 5 rfl rfl)
theorem dX0_first_56 : decode cX0_first 56 = .ok (.i2l, 1) := dk_133 (dk_at dksX0_first_2 8 rfl rfl)
theorem dX0_first_57 : decode cX0_first 57 = .ok (.ladd, 1) := dk_97 (dk_at dksX0_first_2 9 rfl rfl)
theorem dX0_first_58 : decode cX0_first 58 = .ok (.lstore 5, 2) := dk_55 5 (dk_at dksX0_first_2 10 rfl rfl)
theorem dX0_first_60 : decode cX0_first 60 = .ok (.iinc 7 1, 3) := dk_132 7 1 (dk_at dksX0_first_2 12 rfl rfl)
theorem dX0_first_63 : decode cX0_first 63 = .ok (.goto (-21), 3) := dk_167 255 235 (dk_at dksX0_first_2 15 rfl rfl)
theorem dX0_first_66 : decode cX0_first 66 = .ok (.lload 5, 2) := dk_22 5 (dk_at dksX0_first_2 18 rfl rfl)
theorem dX0_first_68 : decode cX0_first 68 = .ok (.lreturn, 1) := dk_173 (dk_at dksX0_first_2 20 rfl rfl)
theorem q2 : (Jvm.Cond.initialized "MonthDeskLaw") ∈ lw_all := lw_g (lw_at lw_m1 0 rfl) rfl
theorem q19 : (Jvm.Cond.classLink "MonthDeskLaw" (39 : Nat) "MonthDesk") ∈ lw_all := lw_g (lw_at lw_m1 17 rfl) rfl
theorem q21 : (Jvm.Cond.methodLink "MonthDeskLaw" (70 : Nat) ({ cls := "MonthDesk", name := "<init>", desc := "()V" } : Jvm.MethodName)) ∈ lw_all := lw_g (lw_at lw_m1 19 rfl) rfl
theorem q146 : (Jvm.Cond.methodLink "MonthDeskLaw" (85 : Nat) ({ cls := "MonthDesk", name := "set", desc := "(III)V" } : Jvm.MethodName)) ∈ lw_all := lw_g (lw_at lw_m1 144 rfl) rfl
theorem q152 : (Jvm.Cond.methodLink "MonthDeskLaw" (90 : Nat) ({ cls := "MonthDesk", name := "months", desc := "(II)V" } : Jvm.MethodName)) ∈ lw_all := lw_g (lw_at lw_m1 150 rfl) rfl
theorem q189 : (Jvm.Cond.methodLink "MonthDeskLaw" (94 : Nat) ({ cls := "MonthDesk", name := "years", desc := "(II)V" } : Jvm.MethodName)) ∈ lw_all := lw_g (lw_at lw_m1 187 rfl) rfl
theorem q203 : (Jvm.Cond.methodLink "MonthDeskLaw" (101 : Nat) ({ cls := "MonthDesk", name := "withMonth", desc := "(II)V" } : Jvm.MethodName)) ∈ lw_all := lw_g (lw_at lw_m1 201 rfl) rfl
theorem q211 : (Jvm.Cond.methodLink "MonthDeskLaw" (104 : Nat) ({ cls := "MonthDesk", name := "withYear", desc := "(II)V" } : Jvm.MethodName)) ∈ lw_all := lw_g (lw_at lw_m1 209 rfl) rfl
theorem q219 : (Jvm.Cond.methodLink "MonthDeskLaw" (111 : Nat) ({ cls := "MonthDesk", name := "keep", desc := "(I)Z" } : Jvm.MethodName)) ∈ lw_all := lw_g (lw_at lw_m1 217 rfl) rfl
theorem q225 : (Jvm.Cond.methodLink "MonthDeskLaw" (73 : Nat) ({ cls := "MonthDeskLaw", name := "cell", desc := "([II)I" } : Jvm.MethodName)) ∈ lw_all := lw_g (lw_at lw_m1 223 rfl) rfl
theorem q226 : (Jvm.Cond.static ({ cls := "MonthDeskLaw", name := "cell", desc := "([II)I" } : Jvm.MethodName)) ∈ lw_all := lw_g (lw_at lw_m1 224 rfl) rfl
theorem q227 : (Jvm.Cond.code ({ cls := "MonthDeskLaw", name := "cell", desc := "([II)I" } : Jvm.MethodName) method_2_code (2 : Nat) (Option.some Jvm.ClassFile.FieldType.int)) ∈ lw_all := lw_g (lw_at lw_m1 225 rfl) rfl
theorem q228 : (Jvm.Cond.methodLink "MonthDeskLaw" (81 : Nat) ({ cls := "MonthDeskLaw", name := "rest", desc := "(II)I" } : Jvm.MethodName)) ∈ lw_all := lw_g (lw_at lw_m1 226 rfl) rfl
theorem q229 : (Jvm.Cond.static ({ cls := "MonthDeskLaw", name := "rest", desc := "(II)I" } : Jvm.MethodName)) ∈ lw_all := lw_g (lw_at lw_m1 227 rfl) rfl
theorem q230 : (Jvm.Cond.code ({ cls := "MonthDeskLaw", name := "rest", desc := "(II)I" } : Jvm.MethodName) method_3_code (2 : Nat) (Option.some Jvm.ClassFile.FieldType.int)) ∈ lw_all := lw_g (lw_at lw_m1 228 rfl) rfl
theorem q231 : (Jvm.Cond.constant "MonthDeskLaw" (7 : Nat) (2147483647 : Int32)) ∈ lw_all := lw_g (lw_at lw_m1 229 rfl) rfl
theorem q232 : (Jvm.Cond.methodLink "MonthDeskLaw" (22 : Nat) ({ cls := "MonthDeskLaw", name := "floor", desc := "(JJ)J" } : Jvm.MethodName)) ∈ lw_all := lw_g (lw_at lw_m1 230 rfl) rfl
theorem q233 : (Jvm.Cond.static ({ cls := "MonthDeskLaw", name := "floor", desc := "(JJ)J" } : Jvm.MethodName)) ∈ lw_all := lw_g (lw_at lw_m1 231 rfl) rfl
theorem q234 : (Jvm.Cond.code ({ cls := "MonthDeskLaw", name := "floor", desc := "(JJ)J" } : Jvm.MethodName) method_4_code (4 : Nat) (Option.some Jvm.ClassFile.FieldType.long)) ∈ lw_all := lw_g (lw_at lw_m1 232 rfl) rfl
theorem q235 : (Jvm.Cond.methodLink "MonthDeskLaw" (77 : Nat) ({ cls := "MonthDeskLaw", name := "stands", desc := "(LMonthDesk;[JI)Z" } : Jvm.MethodName)) ∈ lw_all := lw_g (lw_at lw_m1 233 rfl) rfl
theorem q236 : (Jvm.Cond.static ({ cls := "MonthDeskLaw", name := "stands", desc := "(LMonthDesk;[JI)Z" } : Jvm.MethodName)) ∈ lw_all := lw_g (lw_at lw_m1 234 rfl) rfl
theorem q237 : (Jvm.Cond.code ({ cls := "MonthDeskLaw", name := "stands", desc := "(LMonthDesk;[JI)Z" } : Jvm.MethodName) method_9_code (4 : Nat) (Option.some Jvm.ClassFile.FieldType.boolean)) ∈ lw_all := lw_g (lw_at lw_m1 235 rfl) rfl
theorem q238 : (Jvm.Cond.methodLink "MonthDeskLaw" (62 : Nat) ({ cls := "MonthDeskLaw", name := "tells", desc := "(LMonthDesk;IJ)Z" } : Jvm.MethodName)) ∈ lw_all := lw_g (lw_at lw_m1 236 rfl) rfl
theorem q239 : (Jvm.Cond.static ({ cls := "MonthDeskLaw", name := "tells", desc := "(LMonthDesk;IJ)Z" } : Jvm.MethodName)) ∈ lw_all := lw_g (lw_at lw_m1 237 rfl) rfl
theorem q240 : (Jvm.Cond.code ({ cls := "MonthDeskLaw", name := "tells", desc := "(LMonthDesk;IJ)Z" } : Jvm.MethodName) method_8_code (11 : Nat) (Option.some Jvm.ClassFile.FieldType.boolean)) ∈ lw_all := lw_g (lw_at lw_m1 238 rfl) rfl
theorem q241 : (Jvm.Cond.constantLong "MonthDeskLaw" (32 : Nat) (12 : Int64)) ∈ lw_all := lw_g (lw_at lw_m1 239 rfl) rfl
theorem q242 : (Jvm.Cond.methodLink "MonthDeskLaw" (28 : Nat) ({ cls := "MonthDeskLaw", name := "length", desc := "(JI)I" } : Jvm.MethodName)) ∈ lw_all := lw_g (lw_at lw_m2 0 rfl) rfl
theorem q243 : (Jvm.Cond.static ({ cls := "MonthDeskLaw", name := "length", desc := "(JI)I" } : Jvm.MethodName)) ∈ lw_all := lw_g (lw_at lw_m2 1 rfl) rfl
theorem q244 : (Jvm.Cond.code ({ cls := "MonthDeskLaw", name := "length", desc := "(JI)I" } : Jvm.MethodName) method_6_code (3 : Nat) (Option.some Jvm.ClassFile.FieldType.int)) ∈ lw_all := lw_g (lw_at lw_m2 2 rfl) rfl
theorem q245 : (Jvm.Cond.methodLink "MonthDeskLaw" (14 : Nat) ({ cls := "MonthDeskLaw", name := "leap", desc := "(J)Z" } : Jvm.MethodName)) ∈ lw_all := lw_g (lw_at lw_m2 3 rfl) rfl
theorem q246 : (Jvm.Cond.static ({ cls := "MonthDeskLaw", name := "leap", desc := "(J)Z" } : Jvm.MethodName)) ∈ lw_all := lw_g (lw_at lw_m2 4 rfl) rfl
theorem q247 : (Jvm.Cond.code ({ cls := "MonthDeskLaw", name := "leap", desc := "(J)Z" } : Jvm.MethodName) method_5_code (2 : Nat) (Option.some Jvm.ClassFile.FieldType.boolean)) ∈ lw_all := lw_g (lw_at lw_m2 5 rfl) rfl
theorem q248 : (Jvm.Cond.constantLong "MonthDeskLaw" (8 : Nat) (4 : Int64)) ∈ lw_all := lw_g (lw_at lw_m2 6 rfl) rfl
theorem q249 : (Jvm.Cond.constantLong "MonthDeskLaw" (10 : Nat) (100 : Int64)) ∈ lw_all := lw_g (lw_at lw_m2 7 rfl) rfl
theorem q250 : (Jvm.Cond.constantLong "MonthDeskLaw" (12 : Nat) (400 : Int64)) ∈ lw_all := lw_g (lw_at lw_m2 8 rfl) rfl
theorem q251 : (Jvm.Cond.methodLink "MonthDeskLaw" (34 : Nat) ({ cls := "MonthDeskLaw", name := "first", desc := "(JI)J" } : Jvm.MethodName)) ∈ lw_all := lw_g (lw_at lw_m2 9 rfl) rfl
theorem q252 : (Jvm.Cond.static ({ cls := "MonthDeskLaw", name := "first", desc := "(JI)J" } : Jvm.MethodName)) ∈ lw_all := lw_g (lw_at lw_m2 10 rfl) rfl
theorem q253 : (Jvm.Cond.code ({ cls := "MonthDeskLaw", name := "first", desc := "(JI)J" } : Jvm.MethodName) method_7_code (8 : Nat) (Option.some Jvm.ClassFile.FieldType.long)) ∈ lw_all := lw_g (lw_at lw_m2 11 rfl) rfl
theorem q254 : (Jvm.Cond.constantLong "MonthDeskLaw" (20 : Nat) (365 : Int64)) ∈ lw_all := lw_g (lw_at lw_m2 12 rfl) rfl
theorem q255 : (Jvm.Cond.constantLong "MonthDeskLaw" (26 : Nat) (719162 : Int64)) ∈ lw_all := lw_g (lw_at lw_m2 13 rfl) rfl
theorem q256 : (Jvm.Cond.methodLink "MonthDeskLaw" (38 : Nat) ({ cls := "MonthDesk", name := "year", desc := "(I)I" } : Jvm.MethodName)) ∈ lw_all := lw_g (lw_at lw_m2 14 rfl) rfl
theorem q260 : (Jvm.Cond.methodLink "MonthDeskLaw" (44 : Nat) ({ cls := "MonthDesk", name := "month", desc := "(I)I" } : Jvm.MethodName)) ∈ lw_all := lw_g (lw_at lw_m2 18 rfl) rfl
theorem q268 : (Jvm.Cond.methodLink "MonthDeskLaw" (47 : Nat) ({ cls := "MonthDesk", name := "length", desc := "(I)I" } : Jvm.MethodName)) ∈ lw_all := lw_g (lw_at lw_m2 26 rfl) rfl
theorem q311 : (Jvm.Cond.methodLink "MonthDeskLaw" (49 : Nat) ({ cls := "MonthDesk", name := "leap", desc := "(I)Z" } : Jvm.MethodName)) ∈ lw_all := lw_g (lw_at lw_m2 69 rfl) rfl
theorem q316 : (Jvm.Cond.methodLink "MonthDeskLaw" (52 : Nat) ({ cls := "MonthDesk", name := "yearLength", desc := "(I)I" } : Jvm.MethodName)) ∈ lw_all := lw_g (lw_at lw_m2 74 rfl) rfl
theorem q324 : (Jvm.Cond.methodLink "MonthDeskLaw" (55 : Nat) ({ cls := "MonthDesk", name := "firstDay", desc := "(I)J" } : Jvm.MethodName)) ∈ lw_all := lw_g (lw_at lw_m2 82 rfl) rfl
theorem q399 : (Jvm.Cond.methodLink "MonthDeskLaw" (59 : Nat) ({ cls := "MonthDesk", name := "lastDay", desc := "(I)J" } : Jvm.MethodName)) ∈ lw_all := lw_g (lw_at lw_m2 157 rfl) rfl
theorem q408 : (Jvm.Cond.methodLink "MonthDeskLaw" (66 : Nat) ({ cls := "MonthDesk", name := "order", desc := "()I" } : Jvm.MethodName)) ∈ lw_all := lw_g (lw_at lw_m2 166 rfl) rfl
theorem q416 : (Jvm.Cond.constantLong "MonthDeskLaw" (71 : Nat) (24000 : Int64)) ∈ lw_all := lw_g (lw_at lw_m2 174 rfl) rfl
theorem q417 : (Jvm.Cond.constant "MonthDeskLaw" (89 : Nat) (1000000 : Int32)) ∈ lw_all := lw_g (lw_at lw_m2 175 rfl) rfl
theorem q418 : (Jvm.Cond.constantLong "MonthDeskLaw" (97 : Nat) (-999999 : Int64)) ∈ lw_all := lw_g (lw_at lw_m2 176 rfl) rfl
theorem q419 : (Jvm.Cond.constantLong "MonthDeskLaw" (99 : Nat) (999999 : Int64)) ∈ lw_all := lw_g (lw_at lw_m2 177 rfl) rfl
theorem q420 : (Jvm.Cond.constantLong "MonthDeskLaw" (107 : Nat) (-900000 : Int64)) ∈ lw_all := lw_g (lw_at lw_m2 178 rfl) rfl
theorem q421 : (Jvm.Cond.constantLong "MonthDeskLaw" (109 : Nat) (900000 : Int64)) ∈ lw_all := lw_g (lw_at lw_m2 179 rfl) rfl
/-! the law's own entry -/
set_option maxRecDepth 100000
abbrev cL_law : ByteArray := code
def dkwL_law_18 : List UInt8 := [43, 44, 21, 7, 5, 122, 184, 0, 77, 154, 0, 5, 3, 172, 132, 3, 1, 167, 254, 107, 4, 172]
abbrev dktL_law_18 : List UInt8 := dkwL_law_18 ++ []
def dkwL_law_17 : List UInt8 := [159, 0, 5, 3, 172, 44, 21, 8, 21, 11, 153, 0, 10, 44, 21, 8, 47, 167, 0, 6, 20, 0, 71, 80]
abbrev dktL_law_17 : List UInt8 := dkwL_law_17 ++ dktL_law_18
def dkwL_law_16 : List UInt8 := [20, 0, 109, 148, 157, 0, 7, 4, 167, 0, 4, 3, 54, 11, 43, 21, 5, 182, 0, 111, 21, 11]
abbrev dktL_law_16 : List UInt8 := dkwL_law_16 ++ dktL_law_17
def dkwL_law_15 : List UInt8 := [21, 8, 92, 47, 20, 0, 32, 97, 80, 167, 0, 60, 22, 9, 20, 0, 107, 148, 155, 0, 16, 22, 9]
abbrev dktL_law_15 : List UInt8 := dkwL_law_15 ++ dktL_law_16
def dkwL_law_14 : List UInt8 := [182, 0, 90, 43, 21, 5, 21, 6, 18, 89, 112, 116, 182, 0, 90, 43, 21, 5, 16, 12, 182, 0, 90, 44]
abbrev dktL_law_14 : List UInt8 := dkwL_law_14 ++ dktL_law_15
def dkwL_law_13 : List UInt8 := [20, 0, 32, 21, 6, 18, 89, 112, 133, 22, 9, 101, 105, 97, 80, 167, 0, 101, 43, 21, 5, 21, 6]
abbrev dktL_law_13 : List UInt8 := dkwL_law_13 ++ dktL_law_14
def dkwL_law_12 : List UInt8 := [184, 0, 81, 133, 97, 80, 167, 0, 132, 43, 21, 5, 21, 6, 182, 0, 104, 44, 21, 8, 92, 47]
abbrev dktL_law_12 : List UInt8 := dkwL_law_12 ++ dktL_law_13
def dkwL_law_11 : List UInt8 := [167, 0, 162, 43, 21, 5, 21, 6, 182, 0, 101, 44, 21, 8, 20, 0, 32, 22, 9, 105, 21, 6, 16, 12]
abbrev dktL_law_11 : List UInt8 := dkwL_law_11 ++ dktL_law_12
def dkwL_law_10 : List UInt8 := [20, 0, 99, 148, 156, 0, 182, 44, 21, 8, 92, 47, 20, 0, 32, 21, 6, 18, 89, 112, 133, 105, 97, 80]
abbrev dktL_law_10 : List UInt8 := dkwL_law_10 ++ dktL_law_11
def dkwL_law_9 : List UInt8 := [21, 6, 18, 89, 112, 133, 97, 20, 0, 97, 148, 158, 0, 198, 22, 9, 21, 6, 18, 89, 112, 133, 97]
abbrev dktL_law_9 : List UInt8 := dkwL_law_9 ++ dktL_law_10
def dkwL_law_8 : List UInt8 := [92, 47, 21, 6, 18, 89, 112, 133, 97, 80, 167, 0, 222, 43, 21, 5, 21, 6, 182, 0, 94, 22, 9]
abbrev dktL_law_8 : List UInt8 := dkwL_law_8 ++ dktL_law_9
def dkwL_law_7 : List UInt8 := [21, 7, 16, 12, 184, 0, 81, 133, 97, 80, 167, 0, 246, 43, 21, 5, 21, 6, 182, 0, 90, 44, 21, 8]
abbrev dktL_law_7 : List UInt8 := dkwL_law_7 ++ dktL_law_8
def dkwL_law_6 : List UInt8 := [43, 21, 5, 21, 6, 21, 7, 182, 0, 85, 44, 21, 8, 20, 0, 32, 21, 6, 18, 89, 112, 133, 105]
abbrev dktL_law_6 : List UInt8 := dkwL_law_6 ++ dktL_law_7
def dkwL_law_5 : List UInt8 := [170, 0, 0, 1, 7, 0, 0, 0, 0, 0, 0, 0, 6, 0, 0, 0, 41, 0, 0, 0, 77, 0, 0, 0, 77, 0, 0, 0, 101, 0, 0, 0, 161, 0, 0, 0, 191, 0, 0, 0, 222]
abbrev dktL_law_5 : List UInt8 := dkwL_law_5 ++ dktL_law_6
def dkwL_law_4 : List UInt8 := [21, 8, 47, 20, 0, 32, 184, 0, 22, 55, 9, 21, 4, 16, 8, 184, 0, 81]
abbrev dktL_law_4 : List UInt8 := dkwL_law_4 ++ dktL_law_5
def dkwL_law_3 : List UInt8 := [184, 0, 73, 54, 6, 42, 6, 29, 104, 5, 96, 184, 0, 73, 54, 7, 21, 5, 4, 126, 54, 8, 44]
abbrev dktL_law_3 : List UInt8 := dkwL_law_3 ++ dktL_law_4
def dkwL_law_2 : List UInt8 := [162, 1, 149, 42, 6, 29, 104, 184, 0, 73, 54, 4, 21, 4, 7, 122, 54, 5, 42, 6, 29, 104, 4, 96]
abbrev dktL_law_2 : List UInt8 := dkwL_law_2 ++ dktL_law_3
def dkwL_law_1 : List UInt8 := [43, 44, 42, 3, 184, 0, 73, 5, 122, 184, 0, 77, 154, 0, 5, 3, 172, 3, 62, 29, 16, 32]
abbrev dktL_law_1 : List UInt8 := dkwL_law_1 ++ dktL_law_2
def dkwL_law_0 : List UInt8 := [187, 0, 39, 89, 183, 0, 70, 76, 5, 188, 11, 89, 3, 20, 0, 71, 80, 89, 4, 20, 0, 71, 80, 77]
abbrev dktL_law_0 : List UInt8 := dkwL_law_0 ++ dktL_law_1
theorem dksL_law_0 : cL_law.data.toList.drop 0 = dktL_law_0 := by decide +kernel
theorem dksL_law_1 : cL_law.data.toList.drop 24 = dktL_law_1 := dk_seg dksL_law_0 24 rfl rfl
theorem dksL_law_2 : cL_law.data.toList.drop 46 = dktL_law_2 := dk_seg dksL_law_1 22 rfl rfl
theorem dksL_law_3 : cL_law.data.toList.drop 70 = dktL_law_3 := dk_seg dksL_law_2 24 rfl rfl
theorem dksL_law_4 : cL_law.data.toList.drop 93 = dktL_law_4 := dk_seg dksL_law_3 23 rfl rfl
theorem dksL_law_5 : cL_law.data.toList.drop 111 = dktL_law_5 := dk_seg dksL_law_4 18 rfl rfl
theorem dksL_law_6 : cL_law.data.toList.drop 152 = dktL_law_6 := dk_seg dksL_law_5 41 rfl rfl
theorem dksL_law_7 : cL_law.data.toList.drop 175 = dktL_law_7 := dk_seg dksL_law_6 23 rfl rfl
theorem dksL_law_8 : cL_law.data.toList.drop 199 = dktL_law_8 := dk_seg dksL_law_7 24 rfl rfl
theorem dksL_law_9 : cL_law.data.toList.drop 222 = dktL_law_9 := dk_seg dksL_law_8 23 rfl rfl
theorem dksL_law_10 : cL_law.data.toList.drop 245 = dktL_law_10 := dk_seg dksL_law_9 23 rfl rfl
theorem dksL_law_11 : cL_law.data.toList.drop 269 = dktL_law_11 := dk_seg dksL_law_10 24 rfl rfl
theorem dksL_law_12 : cL_law.data.toList.drop 293 = dktL_law_12 := dk_seg dksL_law_11 24 rfl rfl
theorem dksL_law_13 : cL_law.data.toList.drop 315 = dktL_law_13 := dk_seg dksL_law_12 22 rfl rfl
theorem dksL_law_14 : cL_law.data.toList.drop 338 = dktL_law_14 := dk_seg dksL_law_13 23 rfl rfl
theorem dksL_law_15 : cL_law.data.toList.drop 362 = dktL_law_15 := dk_seg dksL_law_14 24 rfl rfl
theorem dksL_law_16 : cL_law.data.toList.drop 385 = dktL_law_16 := dk_seg dksL_law_15 23 rfl rfl
theorem dksL_law_17 : cL_law.data.toList.drop 407 = dktL_law_17 := dk_seg dksL_law_16 22 rfl rfl
theorem dksL_law_18 : cL_law.data.toList.drop 431 = dktL_law_18 := dk_seg dksL_law_17 24 rfl rfl
theorem dL_law_0 : decode cL_law 0 = .ok (.new 39, 3) := dk_187 0 39 (dk_at dksL_law_0 0 rfl rfl)
theorem dL_law_3 : decode cL_law 3 = .ok (.dup, 1) := dk_89 (dk_at dksL_law_0 3 rfl rfl)
theorem dL_law_4 : decode cL_law 4 = .ok (.invokespecial 70, 3) := dk_183 0 70 (dk_at dksL_law_0 4 rfl rfl)
theorem dL_law_7 : decode cL_law 7 = .ok (.astore_n 1, 1) := dk_76 (dk_at dksL_law_0 7 rfl rfl)
theorem dL_law_8 : decode cL_law 8 = .ok (.iconst 2, 1) := dk_5 (dk_at dksL_law_0 8 rfl rfl)
theorem dL_law_9 : decode cL_law 9 = .ok (.newarray .long, 2) := dk_188_11 (dk_at dksL_law_0 9 rfl rfl)
theorem dL_law_11 : decode cL_law 11 = .ok (.dup, 1) := dk_89 (dk_at dksL_law_0 11 rfl rfl)
theorem dL_law_12 : decode cL_law 12 = .ok (.iconst 0, 1) := dk_3 (dk_at dksL_law_0 12 rfl rfl)
theorem dL_law_13 : decode cL_law 13 = .ok (.ldc2_w 71, 3) := dk_20 0 71 (dk_at dksL_law_0 13 rfl rfl)
theorem dL_law_16 : decode cL_law 16 = .ok (.lastore, 1) := dk_80 (dk_at dksL_law_0 16 rfl rfl)
theorem dL_law_17 : decode cL_law 17 = .ok (.dup, 1) := dk_89 (dk_at dksL_law_0 17 rfl rfl)
theorem dL_law_18 : decode cL_law 18 = .ok (.iconst 1, 1) := dk_4 (dk_at dksL_law_0 18 rfl rfl)
theorem dL_law_19 : decode cL_law 19 = .ok (.ldc2_w 71, 3) := dk_20 0 71 (dk_at dksL_law_0 19 rfl rfl)
theorem dL_law_22 : decode cL_law 22 = .ok (.lastore, 1) := dk_80 (dk_at dksL_law_0 22 rfl rfl)
theorem dL_law_23 : decode cL_law 23 = .ok (.astore_n 2, 1) := dk_77 (dk_at dksL_law_0 23 rfl rfl)
theorem dL_law_24 : decode cL_law 24 = .ok (.aload_n 1, 1) := dk_43 (dk_at dksL_law_1 0 rfl rfl)
theorem dL_law_25 : decode cL_law 25 = .ok (.aload_n 2, 1) := dk_44 (dk_at dksL_law_1 1 rfl rfl)
theorem dL_law_26 : decode cL_law 26 = .ok (.aload_n 0, 1) := dk_42 (dk_at dksL_law_1 2 rfl rfl)
theorem dL_law_27 : decode cL_law 27 = .ok (.iconst 0, 1) := dk_3 (dk_at dksL_law_1 3 rfl rfl)
theorem dL_law_28 : decode cL_law 28 = .ok (.invokestatic 73, 3) := dk_184 0 73 (dk_at dksL_law_1 4 rfl rfl)
theorem dL_law_31 : decode cL_law 31 = .ok (.iconst 2, 1) := dk_5 (dk_at dksL_law_1 7 rfl rfl)
theorem dL_law_32 : decode cL_law 32 = .ok (.ishr, 1) := dk_122 (dk_at dksL_law_1 8 rfl rfl)
theorem dL_law_33 : decode cL_law 33 = .ok (.invokestatic 77, 3) := dk_184 0 77 (dk_at dksL_law_1 9 rfl rfl)
theorem dL_law_36 : decode cL_law 36 = .ok (.ifCond .ne 5, 3) := dk_154 0 5 (dk_at dksL_law_1 12 rfl rfl)
theorem dL_law_39 : decode cL_law 39 = .ok (.iconst 0, 1) := dk_3 (dk_at dksL_law_1 15 rfl rfl)
theorem dL_law_40 : decode cL_law 40 = .ok (.ireturn, 1) := dk_172 (dk_at dksL_law_1 16 rfl rfl)
theorem dL_law_41 : decode cL_law 41 = .ok (.iconst 0, 1) := dk_3 (dk_at dksL_law_1 17 rfl rfl)
theorem dL_law_42 : decode cL_law 42 = .ok (.istore_n 3, 1) := dk_62 (dk_at dksL_law_1 18 rfl rfl)
theorem dL_law_43 : decode cL_law 43 = .ok (.iload_n 3, 1) := dk_29 (dk_at dksL_law_1 19 rfl rfl)
theorem dL_law_44 : decode cL_law 44 = .ok (.bipush 32, 2) := dk_16 32 (dk_at dksL_law_1 20 rfl rfl)
theorem dL_law_46 : decode cL_law 46 = .ok (.if_icmp .ge 405, 3) := dk_162 1 149 (dk_at dksL_law_2 0 rfl rfl)
theorem dL_law_49 : decode cL_law 49 = .ok (.aload_n 0, 1) := dk_42 (dk_at dksL_law_2 3 rfl rfl)
theorem dL_law_50 : decode cL_law 50 = .ok (.iconst 3, 1) := dk_6 (dk_at dksL_law_2 4 rfl rfl)
theorem dL_law_51 : decode cL_law 51 = .ok (.iload_n 3, 1) := dk_29 (dk_at dksL_law_2 5 rfl rfl)
theorem dL_law_52 : decode cL_law 52 = .ok (.imul, 1) := dk_104 (dk_at dksL_law_2 6 rfl rfl)
theorem dL_law_53 : decode cL_law 53 = .ok (.invokestatic 73, 3) := dk_184 0 73 (dk_at dksL_law_2 7 rfl rfl)
theorem dL_law_56 : decode cL_law 56 = .ok (.istore 4, 2) := dk_54 4 (dk_at dksL_law_2 10 rfl rfl)
theorem dL_law_58 : decode cL_law 58 = .ok (.iload 4, 2) := dk_21 4 (dk_at dksL_law_2 12 rfl rfl)
theorem dL_law_60 : decode cL_law 60 = .ok (.iconst 4, 1) := dk_7 (dk_at dksL_law_2 14 rfl rfl)
theorem dL_law_61 : decode cL_law 61 = .ok (.ishr, 1) := dk_122 (dk_at dksL_law_2 15 rfl rfl)
theorem dL_law_62 : decode cL_law 62 = .ok (.istore 5, 2) := dk_54 5 (dk_at dksL_law_2 16 rfl rfl)
theorem dL_law_64 : decode cL_law 64 = .ok (.aload_n 0, 1) := dk_42 (dk_at dksL_law_2 18 rfl rfl)
theorem dL_law_65 : decode cL_law 65 = .ok (.iconst 3, 1) := dk_6 (dk_at dksL_law_2 19 rfl rfl)
theorem dL_law_66 : decode cL_law 66 = .ok (.iload_n 3, 1) := dk_29 (dk_at dksL_law_2 20 rfl rfl)
theorem dL_law_67 : decode cL_law 67 = .ok (.imul, 1) := dk_104 (dk_at dksL_law_2 21 rfl rfl)
theorem dL_law_68 : decode cL_law 68 = .ok (.iconst 1, 1) := dk_4 (dk_at dksL_law_2 22 rfl rfl)
theorem dL_law_69 : decode cL_law 69 = .ok (.iadd, 1) := dk_96 (dk_at dksL_law_2 23 rfl rfl)
theorem dL_law_70 : decode cL_law 70 = .ok (.invokestatic 73, 3) := dk_184 0 73 (dk_at dksL_law_3 0 rfl rfl)
theorem dL_law_73 : decode cL_law 73 = .ok (.istore 6, 2) := dk_54 6 (dk_at dksL_law_3 3 rfl rfl)
theorem dL_law_75 : decode cL_law 75 = .ok (.aload_n 0, 1) := dk_42 (dk_at dksL_law_3 5 rfl rfl)
theorem dL_law_76 : decode cL_law 76 = .ok (.iconst 3, 1) := dk_6 (dk_at dksL_law_3 6 rfl rfl)
theorem dL_law_77 : decode cL_law 77 = .ok (.iload_n 3, 1) := dk_29 (dk_at dksL_law_3 7 rfl rfl)
theorem dL_law_78 : decode cL_law 78 = .ok (.imul, 1) := dk_104 (dk_at dksL_law_3 8 rfl rfl)
theorem dL_law_79 : decode cL_law 79 = .ok (.iconst 2, 1) := dk_5 (dk_at dksL_law_3 9 rfl rfl)
theorem dL_law_80 : decode cL_law 80 = .ok (.iadd, 1) := dk_96 (dk_at dksL_law_3 10 rfl rfl)
theorem dL_law_81 : decode cL_law 81 = .ok (.invokestatic 73, 3) := dk_184 0 73 (dk_at dksL_law_3 11 rfl rfl)
theorem dL_law_84 : decode cL_law 84 = .ok (.istore 7, 2) := dk_54 7 (dk_at dksL_law_3 14 rfl rfl)
theorem dL_law_86 : decode cL_law 86 = .ok (.iload 5, 2) := dk_21 5 (dk_at dksL_law_3 16 rfl rfl)
theorem dL_law_88 : decode cL_law 88 = .ok (.iconst 1, 1) := dk_4 (dk_at dksL_law_3 18 rfl rfl)
theorem dL_law_89 : decode cL_law 89 = .ok (.iand, 1) := dk_126 (dk_at dksL_law_3 19 rfl rfl)
theorem dL_law_90 : decode cL_law 90 = .ok (.istore 8, 2) := dk_54 8 (dk_at dksL_law_3 20 rfl rfl)
theorem dL_law_92 : decode cL_law 92 = .ok (.aload_n 2, 1) := dk_44 (dk_at dksL_law_3 22 rfl rfl)
theorem dL_law_93 : decode cL_law 93 = .ok (.iload 8, 2) := dk_21 8 (dk_at dksL_law_4 0 rfl rfl)
theorem dL_law_95 : decode cL_law 95 = .ok (.laload, 1) := dk_47 (dk_at dksL_law_4 2 rfl rfl)
theorem dL_law_96 : decode cL_law 96 = .ok (.ldc2_w 32, 3) := dk_20 0 32 (dk_at dksL_law_4 3 rfl rfl)
theorem dL_law_99 : decode cL_law 99 = .ok (.invokestatic 22, 3) := dk_184 0 22 (dk_at dksL_law_4 6 rfl rfl)
theorem dL_law_102 : decode cL_law 102 = .ok (.lstore 9, 2) := dk_55 9 (dk_at dksL_law_4 9 rfl rfl)
theorem dL_law_104 : decode cL_law 104 = .ok (.iload 4, 2) := dk_21 4 (dk_at dksL_law_4 11 rfl rfl)
theorem dL_law_106 : decode cL_law 106 = .ok (.bipush 8, 2) := dk_16 8 (dk_at dksL_law_4 13 rfl rfl)
theorem dL_law_108 : decode cL_law 108 = .ok (.invokestatic 81, 3) := dk_184 0 81 (dk_at dksL_law_4 15 rfl rfl)
theorem dL_law_111 : decode cL_law 111 = .ok (.tableswitch 263 0 6 #[41, 77, 77, 101, 161, 191, 222], 41) := by decide +kernel
theorem dL_law_152 : decode cL_law 152 = .ok (.aload_n 1, 1) := dk_43 (dk_at dksL_law_6 0 rfl rfl)
theorem dL_law_153 : decode cL_law 153 = .ok (.iload 5, 2) := dk_21 5 (dk_at dksL_law_6 1 rfl rfl)
theorem dL_law_155 : decode cL_law 155 = .ok (.iload 6, 2) := dk_21 6 (dk_at dksL_law_6 3 rfl rfl)
theorem dL_law_157 : decode cL_law 157 = .ok (.iload 7, 2) := dk_21 7 (dk_at dksL_law_6 5 rfl rfl)
theorem dL_law_159 : decode cL_law 159 = .ok (.invokevirtual 85, 3) := dk_182 0 85 (dk_at dksL_law_6 7 rfl rfl)
theorem dL_law_162 : decode cL_law 162 = .ok (.aload_n 2, 1) := dk_44 (dk_at dksL_law_6 10 rfl rfl)
theorem dL_law_163 : decode cL_law 163 = .ok (.iload 8, 2) := dk_21 8 (dk_at dksL_law_6 11 rfl rfl)
theorem dL_law_165 : decode cL_law 165 = .ok (.ldc2_w 32, 3) := dk_20 0 32 (dk_at dksL_law_6 13 rfl rfl)
theorem dL_law_168 : decode cL_law 168 = .ok (.iload 6, 2) := dk_21 6 (dk_at dksL_law_6 16 rfl rfl)
theorem dL_law_170 : decode cL_law 170 = .ok (.ldc 89, 2) := dk_18 89 (dk_at dksL_law_6 18 rfl rfl)
theorem dL_law_172 : decode cL_law 172 = .ok (.irem, 1) := dk_112 (dk_at dksL_law_6 20 rfl rfl)
theorem dL_law_173 : decode cL_law 173 = .ok (.i2l, 1) := dk_133 (dk_at dksL_law_6 21 rfl rfl)
theorem dL_law_174 : decode cL_law 174 = .ok (.lmul, 1) := dk_105 (dk_at dksL_law_6 22 rfl rfl)
theorem dL_law_175 : decode cL_law 175 = .ok (.iload 7, 2) := dk_21 7 (dk_at dksL_law_7 0 rfl rfl)
theorem dL_law_177 : decode cL_law 177 = .ok (.bipush 12, 2) := dk_16 12 (dk_at dksL_law_7 2 rfl rfl)
theorem dL_law_179 : decode cL_law 179 = .ok (.invokestatic 81, 3) := dk_184 0 81 (dk_at dksL_law_7 4 rfl rfl)
theorem dL_law_182 : decode cL_law 182 = .ok (.i2l, 1) := dk_133 (dk_at dksL_law_7 7 rfl rfl)
theorem dL_law_183 : decode cL_law 183 = .ok (.ladd, 1) := dk_97 (dk_at dksL_law_7 8 rfl rfl)
theorem dL_law_184 : decode cL_law 184 = .ok (.lastore, 1) := dk_80 (dk_at dksL_law_7 9 rfl rfl)
theorem dL_law_185 : decode cL_law 185 = .ok (.goto 246, 3) := dk_167 0 246 (dk_at dksL_law_7 10 rfl rfl)
theorem dL_law_188 : decode cL_law 188 = .ok (.aload_n 1, 1) := dk_43 (dk_at dksL_law_7 13 rfl rfl)
theorem dL_law_189 : decode cL_law 189 = .ok (.iload 5, 2) := dk_21 5 (dk_at dksL_law_7 14 rfl rfl)
theorem dL_law_191 : decode cL_law 191 = .ok (.iload 6, 2) := dk_21 6 (dk_at dksL_law_7 16 rfl rfl)
theorem dL_law_193 : decode cL_law 193 = .ok (.invokevirtual 90, 3) := dk_182 0 90 (dk_at dksL_law_7 18 rfl rfl)
theorem dL_law_196 : decode cL_law 196 = .ok (.aload_n 2, 1) := dk_44 (dk_at dksL_law_7 21 rfl rfl)
theorem dL_law_197 : decode cL_law 197 = .ok (.iload 8, 2) := dk_21 8 (dk_at dksL_law_7 22 rfl rfl)
theorem dL_law_199 : decode cL_law 199 = .ok (.dup2, 1) := dk_92 (dk_at dksL_law_8 0 rfl rfl)
theorem dL_law_200 : decode cL_law 200 = .ok (.laload, 1) := dk_47 (dk_at dksL_law_8 1 rfl rfl)
theorem dL_law_201 : decode cL_law 201 = .ok (.iload 6, 2) := dk_21 6 (dk_at dksL_law_8 2 rfl rfl)
theorem dL_law_203 : decode cL_law 203 = .ok (.ldc 89, 2) := dk_18 89 (dk_at dksL_law_8 4 rfl rfl)
theorem dL_law_205 : decode cL_law 205 = .ok (.irem, 1) := dk_112 (dk_at dksL_law_8 6 rfl rfl)
theorem dL_law_206 : decode cL_law 206 = .ok (.i2l, 1) := dk_133 (dk_at dksL_law_8 7 rfl rfl)
theorem dL_law_207 : decode cL_law 207 = .ok (.ladd, 1) := dk_97 (dk_at dksL_law_8 8 rfl rfl)
theorem dL_law_208 : decode cL_law 208 = .ok (.lastore, 1) := dk_80 (dk_at dksL_law_8 9 rfl rfl)
theorem dL_law_209 : decode cL_law 209 = .ok (.goto 222, 3) := dk_167 0 222 (dk_at dksL_law_8 10 rfl rfl)
theorem dL_law_212 : decode cL_law 212 = .ok (.aload_n 1, 1) := dk_43 (dk_at dksL_law_8 13 rfl rfl)
theorem dL_law_213 : decode cL_law 213 = .ok (.iload 5, 2) := dk_21 5 (dk_at dksL_law_8 14 rfl rfl)
theorem dL_law_215 : decode cL_law 215 = .ok (.iload 6, 2) := dk_21 6 (dk_at dksL_law_8 16 rfl rfl)
theorem dL_law_217 : decode cL_law 217 = .ok (.invokevirtual 94, 3) := dk_182 0 94 (dk_at dksL_law_8 18 rfl rfl)
theorem dL_law_220 : decode cL_law 220 = .ok (.lload 9, 2) := dk_22 9 (dk_at dksL_law_8 21 rfl rfl)
theorem dL_law_222 : decode cL_law 222 = .ok (.iload 6, 2) := dk_21 6 (dk_at dksL_law_9 0 rfl rfl)
theorem dL_law_224 : decode cL_law 224 = .ok (.ldc 89, 2) := dk_18 89 (dk_at dksL_law_9 2 rfl rfl)
theorem dL_law_226 : decode cL_law 226 = .ok (.irem, 1) := dk_112 (dk_at dksL_law_9 4 rfl rfl)
theorem dL_law_227 : decode cL_law 227 = .ok (.i2l, 1) := dk_133 (dk_at dksL_law_9 5 rfl rfl)
theorem dL_law_228 : decode cL_law 228 = .ok (.ladd, 1) := dk_97 (dk_at dksL_law_9 6 rfl rfl)
theorem dL_law_229 : decode cL_law 229 = .ok (.ldc2_w 97, 3) := dk_20 0 97 (dk_at dksL_law_9 7 rfl rfl)
theorem dL_law_232 : decode cL_law 232 = .ok (.lcmp, 1) := dk_148 (dk_at dksL_law_9 10 rfl rfl)
theorem dL_law_233 : decode cL_law 233 = .ok (.ifCond .le 198, 3) := dk_158 0 198 (dk_at dksL_law_9 11 rfl rfl)
theorem dL_law_236 : decode cL_law 236 = .ok (.lload 9, 2) := dk_22 9 (dk_at dksL_law_9 14 rfl rfl)
theorem dL_law_238 : decode cL_law 238 = .ok (.iload 6, 2) := dk_21 6 (dk_at dksL_law_9 16 rfl rfl)
theorem dL_law_240 : decode cL_law 240 = .ok (.ldc 89, 2) := dk_18 89 (dk_at dksL_law_9 18 rfl rfl)
theorem dL_law_242 : decode cL_law 242 = .ok (.irem, 1) := dk_112 (dk_at dksL_law_9 20 rfl rfl)
theorem dL_law_243 : decode cL_law 243 = .ok (.i2l, 1) := dk_133 (dk_at dksL_law_9 21 rfl rfl)
theorem dL_law_244 : decode cL_law 244 = .ok (.ladd, 1) := dk_97 (dk_at dksL_law_9 22 rfl rfl)
theorem dL_law_245 : decode cL_law 245 = .ok (.ldc2_w 99, 3) := dk_20 0 99 (dk_at dksL_law_10 0 rfl rfl)
theorem dL_law_248 : decode cL_law 248 = .ok (.lcmp, 1) := dk_148 (dk_at dksL_law_10 3 rfl rfl)
theorem dL_law_249 : decode cL_law 249 = .ok (.ifCond .ge 182, 3) := dk_156 0 182 (dk_at dksL_law_10 4 rfl rfl)
theorem dL_law_252 : decode cL_law 252 = .ok (.aload_n 2, 1) := dk_44 (dk_at dksL_law_10 7 rfl rfl)
theorem dL_law_253 : decode cL_law 253 = .ok (.iload 8, 2) := dk_21 8 (dk_at dksL_law_10 8 rfl rfl)
theorem dL_law_255 : decode cL_law 255 = .ok (.dup2, 1) := dk_92 (dk_at dksL_law_10 10 rfl rfl)
theorem dL_law_256 : decode cL_law 256 = .ok (.laload, 1) := dk_47 (dk_at dksL_law_10 11 rfl rfl)
theorem dL_law_257 : decode cL_law 257 = .ok (.ldc2_w 32, 3) := dk_20 0 32 (dk_at dksL_law_10 12 rfl rfl)
theorem dL_law_260 : decode cL_law 260 = .ok (.iload 6, 2) := dk_21 6 (dk_at dksL_law_10 15 rfl rfl)
theorem dL_law_262 : decode cL_law 262 = .ok (.ldc 89, 2) := dk_18 89 (dk_at dksL_law_10 17 rfl rfl)
theorem dL_law_264 : decode cL_law 264 = .ok (.irem, 1) := dk_112 (dk_at dksL_law_10 19 rfl rfl)
theorem dL_law_265 : decode cL_law 265 = .ok (.i2l, 1) := dk_133 (dk_at dksL_law_10 20 rfl rfl)
theorem dL_law_266 : decode cL_law 266 = .ok (.lmul, 1) := dk_105 (dk_at dksL_law_10 21 rfl rfl)
theorem dL_law_267 : decode cL_law 267 = .ok (.ladd, 1) := dk_97 (dk_at dksL_law_10 22 rfl rfl)
theorem dL_law_268 : decode cL_law 268 = .ok (.lastore, 1) := dk_80 (dk_at dksL_law_10 23 rfl rfl)
theorem dL_law_269 : decode cL_law 269 = .ok (.goto 162, 3) := dk_167 0 162 (dk_at dksL_law_11 0 rfl rfl)
theorem dL_law_272 : decode cL_law 272 = .ok (.aload_n 1, 1) := dk_43 (dk_at dksL_law_11 3 rfl rfl)
theorem dL_law_273 : decode cL_law 273 = .ok (.iload 5, 2) := dk_21 5 (dk_at dksL_law_11 4 rfl rfl)
theorem dL_law_275 : decode cL_law 275 = .ok (.iload 6, 2) := dk_21 6 (dk_at dksL_law_11 6 rfl rfl)
theorem dL_law_277 : decode cL_law 277 = .ok (.invokevirtual 101, 3) := dk_182 0 101 (dk_at dksL_law_11 8 rfl rfl)
theorem dL_law_280 : decode cL_law 280 = .ok (.aload_n 2, 1) := dk_44 (dk_at dksL_law_11 11 rfl rfl)
theorem dL_law_281 : decode cL_law 281 = .ok (.iload 8, 2) := dk_21 8 (dk_at dksL_law_11 12 rfl rfl)
theorem dL_law_283 : decode cL_law 283 = .ok (.ldc2_w 32, 3) := dk_20 0 32 (dk_at dksL_law_11 14 rfl rfl)
theorem dL_law_286 : decode cL_law 286 = .ok (.lload 9, 2) := dk_22 9 (dk_at dksL_law_11 17 rfl rfl)
theorem dL_law_288 : decode cL_law 288 = .ok (.lmul, 1) := dk_105 (dk_at dksL_law_11 19 rfl rfl)
theorem dL_law_289 : decode cL_law 289 = .ok (.iload 6, 2) := dk_21 6 (dk_at dksL_law_11 20 rfl rfl)
theorem dL_law_291 : decode cL_law 291 = .ok (.bipush 12, 2) := dk_16 12 (dk_at dksL_law_11 22 rfl rfl)
theorem dL_law_293 : decode cL_law 293 = .ok (.invokestatic 81, 3) := dk_184 0 81 (dk_at dksL_law_12 0 rfl rfl)
theorem dL_law_296 : decode cL_law 296 = .ok (.i2l, 1) := dk_133 (dk_at dksL_law_12 3 rfl rfl)
theorem dL_law_297 : decode cL_law 297 = .ok (.ladd, 1) := dk_97 (dk_at dksL_law_12 4 rfl rfl)
theorem dL_law_298 : decode cL_law 298 = .ok (.lastore, 1) := dk_80 (dk_at dksL_law_12 5 rfl rfl)
theorem dL_law_299 : decode cL_law 299 = .ok (.goto 132, 3) := dk_167 0 132 (dk_at dksL_law_12 6 rfl rfl)
theorem dL_law_302 : decode cL_law 302 = .ok (.aload_n 1, 1) := dk_43 (dk_at dksL_law_12 9 rfl rfl)
theorem dL_law_303 : decode cL_law 303 = .ok (.iload 5, 2) := dk_21 5 (dk_at dksL_law_12 10 rfl rfl)
theorem dL_law_305 : decode cL_law 305 = .ok (.iload 6, 2) := dk_21 6 (dk_at dksL_law_12 12 rfl rfl)
theorem dL_law_307 : decode cL_law 307 = .ok (.invokevirtual 104, 3) := dk_182 0 104 (dk_at dksL_law_12 14 rfl rfl)
theorem dL_law_310 : decode cL_law 310 = .ok (.aload_n 2, 1) := dk_44 (dk_at dksL_law_12 17 rfl rfl)
theorem dL_law_311 : decode cL_law 311 = .ok (.iload 8, 2) := dk_21 8 (dk_at dksL_law_12 18 rfl rfl)
theorem dL_law_313 : decode cL_law 313 = .ok (.dup2, 1) := dk_92 (dk_at dksL_law_12 20 rfl rfl)
theorem dL_law_314 : decode cL_law 314 = .ok (.laload, 1) := dk_47 (dk_at dksL_law_12 21 rfl rfl)
theorem dL_law_315 : decode cL_law 315 = .ok (.ldc2_w 32, 3) := dk_20 0 32 (dk_at dksL_law_13 0 rfl rfl)
theorem dL_law_318 : decode cL_law 318 = .ok (.iload 6, 2) := dk_21 6 (dk_at dksL_law_13 3 rfl rfl)
theorem dL_law_320 : decode cL_law 320 = .ok (.ldc 89, 2) := dk_18 89 (dk_at dksL_law_13 5 rfl rfl)
theorem dL_law_322 : decode cL_law 322 = .ok (.irem, 1) := dk_112 (dk_at dksL_law_13 7 rfl rfl)
theorem dL_law_323 : decode cL_law 323 = .ok (.i2l, 1) := dk_133 (dk_at dksL_law_13 8 rfl rfl)
theorem dL_law_324 : decode cL_law 324 = .ok (.lload 9, 2) := dk_22 9 (dk_at dksL_law_13 9 rfl rfl)
theorem dL_law_326 : decode cL_law 326 = .ok (.lsub, 1) := dk_101 (dk_at dksL_law_13 11 rfl rfl)
theorem dL_law_327 : decode cL_law 327 = .ok (.lmul, 1) := dk_105 (dk_at dksL_law_13 12 rfl rfl)
theorem dL_law_328 : decode cL_law 328 = .ok (.ladd, 1) := dk_97 (dk_at dksL_law_13 13 rfl rfl)
theorem dL_law_329 : decode cL_law 329 = .ok (.lastore, 1) := dk_80 (dk_at dksL_law_13 14 rfl rfl)
theorem dL_law_330 : decode cL_law 330 = .ok (.goto 101, 3) := dk_167 0 101 (dk_at dksL_law_13 15 rfl rfl)
theorem dL_law_333 : decode cL_law 333 = .ok (.aload_n 1, 1) := dk_43 (dk_at dksL_law_13 18 rfl rfl)
theorem dL_law_334 : decode cL_law 334 = .ok (.iload 5, 2) := dk_21 5 (dk_at dksL_law_13 19 rfl rfl)
theorem dL_law_336 : decode cL_law 336 = .ok (.iload 6, 2) := dk_21 6 (dk_at dksL_law_13 21 rfl rfl)
theorem dL_law_338 : decode cL_law 338 = .ok (.invokevirtual 90, 3) := dk_182 0 90 (dk_at dksL_law_14 0 rfl rfl)
theorem dL_law_341 : decode cL_law 341 = .ok (.aload_n 1, 1) := dk_43 (dk_at dksL_law_14 3 rfl rfl)
theorem dL_law_342 : decode cL_law 342 = .ok (.iload 5, 2) := dk_21 5 (dk_at dksL_law_14 4 rfl rfl)
theorem dL_law_344 : decode cL_law 344 = .ok (.iload 6, 2) := dk_21 6 (dk_at dksL_law_14 6 rfl rfl)
theorem dL_law_346 : decode cL_law 346 = .ok (.ldc 89, 2) := dk_18 89 (dk_at dksL_law_14 8 rfl rfl)
theorem dL_law_348 : decode cL_law 348 = .ok (.irem, 1) := dk_112 (dk_at dksL_law_14 10 rfl rfl)
theorem dL_law_349 : decode cL_law 349 = .ok (.ineg, 1) := dk_116 (dk_at dksL_law_14 11 rfl rfl)
theorem dL_law_350 : decode cL_law 350 = .ok (.invokevirtual 90, 3) := dk_182 0 90 (dk_at dksL_law_14 12 rfl rfl)
theorem dL_law_353 : decode cL_law 353 = .ok (.aload_n 1, 1) := dk_43 (dk_at dksL_law_14 15 rfl rfl)
theorem dL_law_354 : decode cL_law 354 = .ok (.iload 5, 2) := dk_21 5 (dk_at dksL_law_14 16 rfl rfl)
theorem dL_law_356 : decode cL_law 356 = .ok (.bipush 12, 2) := dk_16 12 (dk_at dksL_law_14 18 rfl rfl)
theorem dL_law_358 : decode cL_law 358 = .ok (.invokevirtual 90, 3) := dk_182 0 90 (dk_at dksL_law_14 20 rfl rfl)
theorem dL_law_361 : decode cL_law 361 = .ok (.aload_n 2, 1) := dk_44 (dk_at dksL_law_14 23 rfl rfl)
theorem dL_law_362 : decode cL_law 362 = .ok (.iload 8, 2) := dk_21 8 (dk_at dksL_law_15 0 rfl rfl)
theorem dL_law_364 : decode cL_law 364 = .ok (.dup2, 1) := dk_92 (dk_at dksL_law_15 2 rfl rfl)
theorem dL_law_365 : decode cL_law 365 = .ok (.laload, 1) := dk_47 (dk_at dksL_law_15 3 rfl rfl)
theorem dL_law_366 : decode cL_law 366 = .ok (.ldc2_w 32, 3) := dk_20 0 32 (dk_at dksL_law_15 4 rfl rfl)
theorem dL_law_369 : decode cL_law 369 = .ok (.ladd, 1) := dk_97 (dk_at dksL_law_15 7 rfl rfl)
theorem dL_law_370 : decode cL_law 370 = .ok (.lastore, 1) := dk_80 (dk_at dksL_law_15 8 rfl rfl)
theorem dL_law_371 : decode cL_law 371 = .ok (.goto 60, 3) := dk_167 0 60 (dk_at dksL_law_15 9 rfl rfl)
theorem dL_law_374 : decode cL_law 374 = .ok (.lload 9, 2) := dk_22 9 (dk_at dksL_law_15 12 rfl rfl)
theorem dL_law_376 : decode cL_law 376 = .ok (.ldc2_w 107, 3) := dk_20 0 107 (dk_at dksL_law_15 14 rfl rfl)
theorem dL_law_379 : decode cL_law 379 = .ok (.lcmp, 1) := dk_148 (dk_at dksL_law_15 17 rfl rfl)
theorem dL_law_380 : decode cL_law 380 = .ok (.ifCond .lt 16, 3) := dk_155 0 16 (dk_at dksL_law_15 18 rfl rfl)
theorem dL_law_383 : decode cL_law 383 = .ok (.lload 9, 2) := dk_22 9 (dk_at dksL_law_15 21 rfl rfl)
theorem dL_law_385 : decode cL_law 385 = .ok (.ldc2_w 109, 3) := dk_20 0 109 (dk_at dksL_law_16 0 rfl rfl)
theorem dL_law_388 : decode cL_law 388 = .ok (.lcmp, 1) := dk_148 (dk_at dksL_law_16 3 rfl rfl)
theorem dL_law_389 : decode cL_law 389 = .ok (.ifCond .gt 7, 3) := dk_157 0 7 (dk_at dksL_law_16 4 rfl rfl)
theorem dL_law_392 : decode cL_law 392 = .ok (.iconst 1, 1) := dk_4 (dk_at dksL_law_16 7 rfl rfl)
theorem dL_law_393 : decode cL_law 393 = .ok (.goto 4, 3) := dk_167 0 4 (dk_at dksL_law_16 8 rfl rfl)
theorem dL_law_396 : decode cL_law 396 = .ok (.iconst 0, 1) := dk_3 (dk_at dksL_law_16 11 rfl rfl)
theorem dL_law_397 : decode cL_law 397 = .ok (.istore 11, 2) := dk_54 11 (dk_at dksL_law_16 12 rfl rfl)
theorem dL_law_399 : decode cL_law 399 = .ok (.aload_n 1, 1) := dk_43 (dk_at dksL_law_16 14 rfl rfl)
theorem dL_law_400 : decode cL_law 400 = .ok (.iload 5, 2) := dk_21 5 (dk_at dksL_law_16 15 rfl rfl)
theorem dL_law_402 : decode cL_law 402 = .ok (.invokevirtual 111, 3) := dk_182 0 111 (dk_at dksL_law_16 17 rfl rfl)
theorem dL_law_405 : decode cL_law 405 = .ok (.iload 11, 2) := dk_21 11 (dk_at dksL_law_16 20 rfl rfl)
theorem dL_law_407 : decode cL_law 407 = .ok (.if_icmp .eq 5, 3) := dk_159 0 5 (dk_at dksL_law_17 0 rfl rfl)
theorem dL_law_410 : decode cL_law 410 = .ok (.iconst 0, 1) := dk_3 (dk_at dksL_law_17 3 rfl rfl)
theorem dL_law_411 : decode cL_law 411 = .ok (.ireturn, 1) := dk_172 (dk_at dksL_law_17 4 rfl rfl)
theorem dL_law_412 : decode cL_law 412 = .ok (.aload_n 2, 1) := dk_44 (dk_at dksL_law_17 5 rfl rfl)
theorem dL_law_413 : decode cL_law 413 = .ok (.iload 8, 2) := dk_21 8 (dk_at dksL_law_17 6 rfl rfl)
theorem dL_law_415 : decode cL_law 415 = .ok (.iload 11, 2) := dk_21 11 (dk_at dksL_law_17 8 rfl rfl)
theorem dL_law_417 : decode cL_law 417 = .ok (.ifCond .eq 10, 3) := dk_153 0 10 (dk_at dksL_law_17 10 rfl rfl)
theorem dL_law_420 : decode cL_law 420 = .ok (.aload_n 2, 1) := dk_44 (dk_at dksL_law_17 13 rfl rfl)
theorem dL_law_421 : decode cL_law 421 = .ok (.iload 8, 2) := dk_21 8 (dk_at dksL_law_17 14 rfl rfl)
theorem dL_law_423 : decode cL_law 423 = .ok (.laload, 1) := dk_47 (dk_at dksL_law_17 16 rfl rfl)
theorem dL_law_424 : decode cL_law 424 = .ok (.goto 6, 3) := dk_167 0 6 (dk_at dksL_law_17 17 rfl rfl)
theorem dL_law_427 : decode cL_law 427 = .ok (.ldc2_w 71, 3) := dk_20 0 71 (dk_at dksL_law_17 20 rfl rfl)
theorem dL_law_430 : decode cL_law 430 = .ok (.lastore, 1) := dk_80 (dk_at dksL_law_17 23 rfl rfl)
theorem dL_law_431 : decode cL_law 431 = .ok (.aload_n 1, 1) := dk_43 (dk_at dksL_law_18 0 rfl rfl)
theorem dL_law_432 : decode cL_law 432 = .ok (.aload_n 2, 1) := dk_44 (dk_at dksL_law_18 1 rfl rfl)
theorem dL_law_433 : decode cL_law 433 = .ok (.iload 7, 2) := dk_21 7 (dk_at dksL_law_18 2 rfl rfl)
theorem dL_law_435 : decode cL_law 435 = .ok (.iconst 2, 1) := dk_5 (dk_at dksL_law_18 4 rfl rfl)
theorem dL_law_436 : decode cL_law 436 = .ok (.ishr, 1) := dk_122 (dk_at dksL_law_18 5 rfl rfl)
theorem dL_law_437 : decode cL_law 437 = .ok (.invokestatic 77, 3) := dk_184 0 77 (dk_at dksL_law_18 6 rfl rfl)
theorem dL_law_440 : decode cL_law 440 = .ok (.ifCond .ne 5, 3) := dk_154 0 5 (dk_at dksL_law_18 9 rfl rfl)
theorem dL_law_443 : decode cL_law 443 = .ok (.iconst 0, 1) := dk_3 (dk_at dksL_law_18 12 rfl rfl)
theorem dL_law_444 : decode cL_law 444 = .ok (.ireturn, 1) := dk_172 (dk_at dksL_law_18 13 rfl rfl)
theorem dL_law_445 : decode cL_law 445 = .ok (.iinc 3 1, 3) := dk_132 3 1 (dk_at dksL_law_18 14 rfl rfl)
theorem dL_law_448 : decode cL_law 448 = .ok (.goto (-405), 3) := dk_167 254 107 (dk_at dksL_law_18 17 rfl rfl)
theorem dL_law_451 : decode cL_law 451 = .ok (.iconst 1, 1) := dk_4 (dk_at dksL_law_18 20 rfl rfl)
theorem dL_law_452 : decode cL_law 452 = .ok (.ireturn, 1) := dk_172 (dk_at dksL_law_18 21 rfl rfl)
/-! MonthDesk -/
set_option maxRecDepth 100000
def RX1 : String := "MonthDesk"
def TX1 : u_T := fun k => match k with
  | _ => ("MonthDesk", "month", "[LYearMonth;", true)
def tyX1 : Nat → FieldType := fun k => match k with
  | _ => .array (.object "YearMonth")
abbrev wsX10 : List Cond := u_ws RX1 TX1 1
theorem nmX1 : ∀ a, a < 1 → ∀ b, b < 1 → a ≠ b → (TX1 a).2.1 ≠ (TX1 b).2.1 := by decide +kernel
theorem tyX1_ok : ∀ k, k < 1 → parseFieldDescriptor (TX1 k).2.2.1 = some (tyX1 k) := by decide +kernel
abbrev cX1_init : ByteArray := prog_13_method_1_code
def yX1_init : MethodName := ⟨RX1, "<init>", "()V"⟩
def dkwX1_init_1 : List UInt8 := [4, 184, 0, 9, 83, 181, 0, 13, 177]
abbrev dktX1_init_1 : List UInt8 := dkwX1_init_1 ++ []
def dkwX1_init_0 : List UInt8 := [42, 183, 0, 1, 42, 5, 189, 0, 7, 89, 3, 17, 7, 208, 4, 184, 0, 9, 83, 89, 4, 17, 7, 208]
abbrev dktX1_init_0 : List UInt8 := dkwX1_init_0 ++ dktX1_init_1
theorem dksX1_init_0 : cX1_init.data.toList.drop 0 = dktX1_init_0 := by decide +kernel
theorem dksX1_init_1 : cX1_init.data.toList.drop 24 = dktX1_init_1 := dk_seg dksX1_init_0 24 rfl rfl
theorem dX1_init_0 : decode cX1_init 0 = .ok (.aload_n 0, 1) := dk_42 (dk_at dksX1_init_0 0 rfl rfl)
theorem dX1_init_1 : decode cX1_init 1 = .ok (.invokespecial 1, 3) := dk_183 0 1 (dk_at dksX1_init_0 1 rfl rfl)
theorem dX1_init_4 : decode cX1_init 4 = .ok (.aload_n 0, 1) := dk_42 (dk_at dksX1_init_0 4 rfl rfl)
theorem dX1_init_5 : decode cX1_init 5 = .ok (.iconst 2, 1) := dk_5 (dk_at dksX1_init_0 5 rfl rfl)
theorem dX1_init_6 : decode cX1_init 6 = .ok (.anewarray 7, 3) := dk_189 0 7 (dk_at dksX1_init_0 6 rfl rfl)
theorem dX1_init_9 : decode cX1_init 9 = .ok (.dup, 1) := dk_89 (dk_at dksX1_init_0 9 rfl rfl)
theorem dX1_init_10 : decode cX1_init 10 = .ok (.iconst 0, 1) := dk_3 (dk_at dksX1_init_0 10 rfl rfl)
theorem dX1_init_11 : decode cX1_init 11 = .ok (.sipush 2000, 3) := dk_17 7 208 (dk_at dksX1_init_0 11 rfl rfl)
theorem dX1_init_14 : decode cX1_init 14 = .ok (.iconst 1, 1) := dk_4 (dk_at dksX1_init_0 14 rfl rfl)
theorem dX1_init_15 : decode cX1_init 15 = .ok (.invokestatic 9, 3) := dk_184 0 9 (dk_at dksX1_init_0 15 rfl rfl)
theorem dX1_init_18 : decode cX1_init 18 = .ok (.aastore, 1) := dk_83 (dk_at dksX1_init_0 18 rfl rfl)
theorem dX1_init_19 : decode cX1_init 19 = .ok (.dup, 1) := dk_89 (dk_at dksX1_init_0 19 rfl rfl)
theorem dX1_init_20 : decode cX1_init 20 = .ok (.iconst 1, 1) := dk_4 (dk_at dksX1_init_0 20 rfl rfl)
theorem dX1_init_21 : decode cX1_init 21 = .ok (.sipush 2000, 3) := dk_17 7 208 (dk_at dksX1_init_0 21 rfl rfl)
theorem dX1_init_24 : decode cX1_init 24 = .ok (.iconst 1, 1) := dk_4 (dk_at dksX1_init_1 0 rfl rfl)
theorem dX1_init_25 : decode cX1_init 25 = .ok (.invokestatic 9, 3) := dk_184 0 9 (dk_at dksX1_init_1 1 rfl rfl)
theorem dX1_init_28 : decode cX1_init 28 = .ok (.aastore, 1) := dk_83 (dk_at dksX1_init_1 4 rfl rfl)
theorem dX1_init_29 : decode cX1_init 29 = .ok (.putfield 13, 3) := dk_181 0 13 (dk_at dksX1_init_1 5 rfl rfl)
theorem dX1_init_32 : decode cX1_init 32 = .ok (.return_, 1) := dk_177 (dk_at dksX1_init_1 8 rfl rfl)
abbrev cX1_set : ByteArray := prog_13_method_2_code
def yX1_set : MethodName := ⟨RX1, "set", "(III)V"⟩
def dkwX1_set_1 : List UInt8 := [177]
abbrev dktX1_set_1 : List UInt8 := dkwX1_set_1 ++ []
def dkwX1_set_0 : List UInt8 := [42, 180, 0, 13, 27, 4, 126, 28, 18, 19, 112, 4, 29, 18, 20, 126, 16, 12, 112, 96, 184, 0, 9, 83]
abbrev dktX1_set_0 : List UInt8 := dkwX1_set_0 ++ dktX1_set_1
theorem dksX1_set_0 : cX1_set.data.toList.drop 0 = dktX1_set_0 := by decide +kernel
theorem dksX1_set_1 : cX1_set.data.toList.drop 24 = dktX1_set_1 := dk_seg dksX1_set_0 24 rfl rfl
theorem dX1_set_0 : decode cX1_set 0 = .ok (.aload_n 0, 1) := dk_42 (dk_at dksX1_set_0 0 rfl rfl)
theorem dX1_set_1 : decode cX1_set 1 = .ok (.getfield 13, 3) := dk_180 0 13 (dk_at dksX1_set_0 1 rfl rfl)
theorem dX1_set_4 : decode cX1_set 4 = .ok (.iload_n 1, 1) := dk_27 (dk_at dksX1_set_0 4 rfl rfl)
theorem dX1_set_5 : decode cX1_set 5 = .ok (.iconst 1, 1) := dk_4 (dk_at dksX1_set_0 5 rfl rfl)
theorem dX1_set_6 : decode cX1_set 6 = .ok (.iand, 1) := dk_126 (dk_at dksX1_set_0 6 rfl rfl)
theorem dX1_set_7 : decode cX1_set 7 = .ok (.iload_n 2, 1) := dk_28 (dk_at dksX1_set_0 7 rfl rfl)
theorem dX1_set_8 : decode cX1_set 8 = .ok (.ldc 19, 2) := dk_18 19 (dk_at dksX1_set_0 8 rfl rfl)
theorem dX1_set_10 : decode cX1_set 10 = .ok (.irem, 1) := dk_112 (dk_at dksX1_set_0 10 rfl rfl)
theorem dX1_set_11 : decode cX1_set 11 = .ok (.iconst 1, 1) := dk_4 (dk_at dksX1_set_0 11 rfl rfl)
theorem dX1_set_12 : decode cX1_set 12 = .ok (.iload_n 3, 1) := dk_29 (dk_at dksX1_set_0 12 rfl rfl)
theorem dX1_set_13 : decode cX1_set 13 = .ok (.ldc 20, 2) := dk_18 20 (dk_at dksX1_set_0 13 rfl rfl)
theorem dX1_set_15 : decode cX1_set 15 = .ok (.iand, 1) := dk_126 (dk_at dksX1_set_0 15 rfl rfl)
theorem dX1_set_16 : decode cX1_set 16 = .ok (.bipush 12, 2) := dk_16 12 (dk_at dksX1_set_0 16 rfl rfl)
theorem dX1_set_18 : decode cX1_set 18 = .ok (.irem, 1) := dk_112 (dk_at dksX1_set_0 18 rfl rfl)
theorem dX1_set_19 : decode cX1_set 19 = .ok (.iadd, 1) := dk_96 (dk_at dksX1_set_0 19 rfl rfl)
theorem dX1_set_20 : decode cX1_set 20 = .ok (.invokestatic 9, 3) := dk_184 0 9 (dk_at dksX1_set_0 20 rfl rfl)
theorem dX1_set_23 : decode cX1_set 23 = .ok (.aastore, 1) := dk_83 (dk_at dksX1_set_0 23 rfl rfl)
theorem dX1_set_24 : decode cX1_set 24 = .ok (.return_, 1) := dk_177 (dk_at dksX1_set_1 0 rfl rfl)
abbrev cX1_months : ByteArray := prog_13_method_3_code
def yX1_months : MethodName := ⟨RX1, "months", "(II)V"⟩
def dkwX1_months_1 : List UInt8 := [177]
abbrev dktX1_months_1 : List UInt8 := dkwX1_months_1 ++ []
def dkwX1_months_0 : List UInt8 := [42, 180, 0, 13, 27, 4, 126, 42, 180, 0, 13, 27, 4, 126, 50, 28, 18, 19, 112, 133, 182, 0, 21, 83]
abbrev dktX1_months_0 : List UInt8 := dkwX1_months_0 ++ dktX1_months_1
theorem dksX1_months_0 : cX1_months.data.toList.drop 0 = dktX1_months_0 := by decide +kernel
theorem dksX1_months_1 : cX1_months.data.toList.drop 24 = dktX1_months_1 := dk_seg dksX1_months_0 24 rfl rfl
theorem dX1_months_0 : decode cX1_months 0 = .ok (.aload_n 0, 1) := dk_42 (dk_at dksX1_months_0 0 rfl rfl)
theorem dX1_months_1 : decode cX1_months 1 = .ok (.getfield 13, 3) := dk_180 0 13 (dk_at dksX1_months_0 1 rfl rfl)
theorem dX1_months_4 : decode cX1_months 4 = .ok (.iload_n 1, 1) := dk_27 (dk_at dksX1_months_0 4 rfl rfl)
theorem dX1_months_5 : decode cX1_months 5 = .ok (.iconst 1, 1) := dk_4 (dk_at dksX1_months_0 5 rfl rfl)
theorem dX1_months_6 : decode cX1_months 6 = .ok (.iand, 1) := dk_126 (dk_at dksX1_months_0 6 rfl rfl)
theorem dX1_months_7 : decode cX1_months 7 = .ok (.aload_n 0, 1) := dk_42 (dk_at dksX1_months_0 7 rfl rfl)
theorem dX1_months_8 : decode cX1_months 8 = .ok (.getfield 13, 3) := dk_180 0 13 (dk_at dksX1_months_0 8 rfl rfl)
theorem dX1_months_11 : decode cX1_months 11 = .ok (.iload_n 1, 1) := dk_27 (dk_at dksX1_months_0 11 rfl rfl)
theorem dX1_months_12 : decode cX1_months 12 = .ok (.iconst 1, 1) := dk_4 (dk_at dksX1_months_0 12 rfl rfl)
theorem dX1_months_13 : decode cX1_months 13 = .ok (.iand, 1) := dk_126 (dk_at dksX1_months_0 13 rfl rfl)
theorem dX1_months_14 : decode cX1_months 14 = .ok (.aaload, 1) := dk_50 (dk_at dksX1_months_0 14 rfl rfl)
theorem dX1_months_15 : decode cX1_months 15 = .ok (.iload_n 2, 1) := dk_28 (dk_at dksX1_months_0 15 rfl rfl)
theorem dX1_months_16 : decode cX1_months 16 = .ok (.ldc 19, 2) := dk_18 19 (dk_at dksX1_months_0 16 rfl rfl)
theorem dX1_months_18 : decode cX1_months 18 = .ok (.irem, 1) := dk_112 (dk_at dksX1_months_0 18 rfl rfl)
theorem dX1_months_19 : decode cX1_months 19 = .ok (.i2l, 1) := dk_133 (dk_at dksX1_months_0 19 rfl rfl)
theorem dX1_months_20 : decode cX1_months 20 = .ok (.invokevirtual 21, 3) := dk_182 0 21 (dk_at dksX1_months_0 20 rfl rfl)
theorem dX1_months_23 : decode cX1_months 23 = .ok (.aastore, 1) := dk_83 (dk_at dksX1_months_0 23 rfl rfl)
theorem dX1_months_24 : decode cX1_months 24 = .ok (.return_, 1) := dk_177 (dk_at dksX1_months_1 0 rfl rfl)
abbrev cX1_years : ByteArray := prog_13_method_4_code
def yX1_years : MethodName := ⟨RX1, "years", "(II)V"⟩
def dkwX1_years_2 : List UInt8 := [133, 182, 0, 31, 83, 177]
abbrev dktX1_years_2 : List UInt8 := dkwX1_years_2 ++ []
def dkwX1_years_1 : List UInt8 := [18, 30, 162, 0, 27, 42, 180, 0, 13, 27, 4, 126, 42, 180, 0, 13, 27, 4, 126, 50, 28, 18, 19, 112]
abbrev dktX1_years_1 : List UInt8 := dkwX1_years_1 ++ dktX1_years_2
def dkwX1_years_0 : List UInt8 := [42, 180, 0, 13, 27, 4, 126, 50, 182, 0, 25, 28, 18, 19, 112, 96, 62, 29, 18, 29, 164, 0, 33, 29]
abbrev dktX1_years_0 : List UInt8 := dkwX1_years_0 ++ dktX1_years_1
theorem dksX1_years_0 : cX1_years.data.toList.drop 0 = dktX1_years_0 := by decide +kernel
theorem dksX1_years_1 : cX1_years.data.toList.drop 24 = dktX1_years_1 := dk_seg dksX1_years_0 24 rfl rfl
theorem dksX1_years_2 : cX1_years.data.toList.drop 48 = dktX1_years_2 := dk_seg dksX1_years_1 24 rfl rfl
theorem dX1_years_0 : decode cX1_years 0 = .ok (.aload_n 0, 1) := dk_42 (dk_at dksX1_years_0 0 rfl rfl)
theorem dX1_years_1 : decode cX1_years 1 = .ok (.getfield 13, 3) := dk_180 0 13 (dk_at dksX1_years_0 1 rfl rfl)
theorem dX1_years_4 : decode cX1_years 4 = .ok (.iload_n 1, 1) := dk_27 (dk_at dksX1_years_0 4 rfl rfl)
theorem dX1_years_5 : decode cX1_years 5 = .ok (.iconst 1, 1) := dk_4 (dk_at dksX1_years_0 5 rfl rfl)
theorem dX1_years_6 : decode cX1_years 6 = .ok (.iand, 1) := dk_126 (dk_at dksX1_years_0 6 rfl rfl)
theorem dX1_years_7 : decode cX1_years 7 = .ok (.aaload, 1) := dk_50 (dk_at dksX1_years_0 7 rfl rfl)
theorem dX1_years_8 : decode cX1_years 8 = .ok (.invokevirtual 25, 3) := dk_182 0 25 (dk_at dksX1_years_0 8 rfl rfl)
theorem dX1_years_11 : decode cX1_years 11 = .ok (.iload_n 2, 1) := dk_28 (dk_at dksX1_years_0 11 rfl rfl)
theorem dX1_years_12 : decode cX1_years 12 = .ok (.ldc 19, 2) := dk_18 19 (dk_at dksX1_years_0 12 rfl rfl)
theorem dX1_years_14 : decode cX1_years 14 = .ok (.irem, 1) := dk_112 (dk_at dksX1_years_0 14 rfl rfl)
theorem dX1_years_15 : decode cX1_years 15 = .ok (.iadd, 1) := dk_96 (dk_at dksX1_years_0 15 rfl rfl)
theorem dX1_years_16 : decode cX1_years 16 = .ok (.istore_n 3, 1) := dk_62 (dk_at dksX1_years_0 16 rfl rfl)
theorem dX1_years_17 : decode cX1_years 17 = .ok (.iload_n 3, 1) := dk_29 (dk_at dksX1_years_0 17 rfl rfl)
theorem dX1_years_18 : decode cX1_years 18 = .ok (.ldc 29, 2) := dk_18 29 (dk_at dksX1_years_0 18 rfl rfl)
theorem dX1_years_20 : decode cX1_years 20 = .ok (.if_icmp .le 33, 3) := dk_164 0 33 (dk_at dksX1_years_0 20 rfl rfl)
theorem dX1_years_23 : decode cX1_years 23 = .ok (.iload_n 3, 1) := dk_29 (dk_at dksX1_years_0 23 rfl rfl)
theorem dX1_years_24 : decode cX1_years 24 = .ok (.ldc 30, 2) := dk_18 30 (dk_at dksX1_years_1 0 rfl rfl)
theorem dX1_years_26 : decode cX1_years 26 = .ok (.if_icmp .ge 27, 3) := dk_162 0 27 (dk_at dksX1_years_1 2 rfl rfl)
theorem dX1_years_29 : decode cX1_years 29 = .ok (.aload_n 0, 1) := dk_42 (dk_at dksX1_years_1 5 rfl rfl)
theorem dX1_years_30 : decode cX1_years 30 = .ok (.getfield 13, 3) := dk_180 0 13 (dk_at dksX1_years_1 6 rfl rfl)
theorem dX1_years_33 : decode cX1_years 33 = .ok (.iload_n 1, 1) := dk_27 (dk_at dksX1_years_1 9 rfl rfl)
theorem dX1_years_34 : decode cX1_years 34 = .ok (.iconst 1, 1) := dk_4 (dk_at dksX1_years_1 10 rfl rfl)
theorem dX1_years_35 : decode cX1_years 35 = .ok (.iand, 1) := dk_126 (dk_at dksX1_years_1 11 rfl rfl)
theorem dX1_years_36 : decode cX1_years 36 = .ok (.aload_n 0, 1) := dk_42 (dk_at dksX1_years_1 12 rfl rfl)
theorem dX1_years_37 : decode cX1_years 37 = .ok (.getfield 13, 3) := dk_180 0 13 (dk_at dksX1_years_1 13 rfl rfl)
theorem dX1_years_40 : decode cX1_years 40 = .ok (.iload_n 1, 1) := dk_27 (dk_at dksX1_years_1 16 rfl rfl)
theorem dX1_years_41 : decode cX1_years 41 = .ok (.iconst 1, 1) := dk_4 (dk_at dksX1_years_1 17 rfl rfl)
theorem dX1_years_42 : decode cX1_years 42 = .ok (.iand, 1) := dk_126 (dk_at dksX1_years_1 18 rfl rfl)
theorem dX1_years_43 : decode cX1_years 43 = .ok (.aaload, 1) := dk_50 (dk_at dksX1_years_1 19 rfl rfl)
theorem dX1_years_44 : decode cX1_years 44 = .ok (.iload_n 2, 1) := dk_28 (dk_at dksX1_years_1 20 rfl rfl)
theorem dX1_years_45 : decode cX1_years 45 = .ok (.ldc 19, 2) := dk_18 19 (dk_at dksX1_years_1 21 rfl rfl)
theorem dX1_years_47 : decode cX1_years 47 = .ok (.irem, 1) := dk_112 (dk_at dksX1_years_1 23 rfl rfl)
theorem dX1_years_48 : decode cX1_years 48 = .ok (.i2l, 1) := dk_133 (dk_at dksX1_years_2 0 rfl rfl)
theorem dX1_years_49 : decode cX1_years 49 = .ok (.invokevirtual 31, 3) := dk_182 0 31 (dk_at dksX1_years_2 1 rfl rfl)
theorem dX1_years_52 : decode cX1_years 52 = .ok (.aastore, 1) := dk_83 (dk_at dksX1_years_2 4 rfl rfl)
theorem dX1_years_53 : decode cX1_years 53 = .ok (.return_, 1) := dk_177 (dk_at dksX1_years_2 5 rfl rfl)
abbrev cX1_withMonth : ByteArray := prog_13_method_5_code
def yX1_withMonth : MethodName := ⟨RX1, "withMonth", "(II)V"⟩
def dkwX1_withMonth_1 : List UInt8 := [182, 0, 34, 83, 177]
abbrev dktX1_withMonth_1 : List UInt8 := dkwX1_withMonth_1 ++ []
def dkwX1_withMonth_0 : List UInt8 := [42, 180, 0, 13, 27, 4, 126, 42, 180, 0, 13, 27, 4, 126, 50, 4, 28, 18, 20, 126, 16, 12, 112, 96]
abbrev dktX1_withMonth_0 : List UInt8 := dkwX1_withMonth_0 ++ dktX1_withMonth_1
theorem dksX1_withMonth_0 : cX1_withMonth.data.toList.drop 0 = dktX1_withMonth_0 := by decide +kernel
theorem dksX1_withMonth_1 : cX1_withMonth.data.toList.drop 24 = dktX1_withMonth_1 := dk_seg dksX1_withMonth_0 24 rfl rfl
theorem dX1_withMonth_0 : decode cX1_withMonth 0 = .ok (.aload_n 0, 1) := dk_42 (dk_at dksX1_withMonth_0 0 rfl rfl)
theorem dX1_withMonth_1 : decode cX1_withMonth 1 = .ok (.getfield 13, 3) := dk_180 0 13 (dk_at dksX1_withMonth_0 1 rfl rfl)
theorem dX1_withMonth_4 : decode cX1_withMonth 4 = .ok (.iload_n 1, 1) := dk_27 (dk_at dksX1_withMonth_0 4 rfl rfl)
theorem dX1_withMonth_5 : decode cX1_withMonth 5 = .ok (.iconst 1, 1) := dk_4 (dk_at dksX1_withMonth_0 5 rfl rfl)
theorem dX1_withMonth_6 : decode cX1_withMonth 6 = .ok (.iand, 1) := dk_126 (dk_at dksX1_withMonth_0 6 rfl rfl)
theorem dX1_withMonth_7 : decode cX1_withMonth 7 = .ok (.aload_n 0, 1) := dk_42 (dk_at dksX1_withMonth_0 7 rfl rfl)
theorem dX1_withMonth_8 : decode cX1_withMonth 8 = .ok (.getfield 13, 3) := dk_180 0 13 (dk_at dksX1_withMonth_0 8 rfl rfl)
theorem dX1_withMonth_11 : decode cX1_withMonth 11 = .ok (.iload_n 1, 1) := dk_27 (dk_at dksX1_withMonth_0 11 rfl rfl)
theorem dX1_withMonth_12 : decode cX1_withMonth 12 = .ok (.iconst 1, 1) := dk_4 (dk_at dksX1_withMonth_0 12 rfl rfl)
theorem dX1_withMonth_13 : decode cX1_withMonth 13 = .ok (.iand, 1) := dk_126 (dk_at dksX1_withMonth_0 13 rfl rfl)
theorem dX1_withMonth_14 : decode cX1_withMonth 14 = .ok (.aaload, 1) := dk_50 (dk_at dksX1_withMonth_0 14 rfl rfl)
theorem dX1_withMonth_15 : decode cX1_withMonth 15 = .ok (.iconst 1, 1) := dk_4 (dk_at dksX1_withMonth_0 15 rfl rfl)
theorem dX1_withMonth_16 : decode cX1_withMonth 16 = .ok (.iload_n 2, 1) := dk_28 (dk_at dksX1_withMonth_0 16 rfl rfl)
theorem dX1_withMonth_17 : decode cX1_withMonth 17 = .ok (.ldc 20, 2) := dk_18 20 (dk_at dksX1_withMonth_0 17 rfl rfl)
theorem dX1_withMonth_19 : decode cX1_withMonth 19 = .ok (.iand, 1) := dk_126 (dk_at dksX1_withMonth_0 19 rfl rfl)
theorem dX1_withMonth_20 : decode cX1_withMonth 20 = .ok (.bipush 12, 2) := dk_16 12 (dk_at dksX1_withMonth_0 20 rfl rfl)
theorem dX1_withMonth_22 : decode cX1_withMonth 22 = .ok (.irem, 1) := dk_112 (dk_at dksX1_withMonth_0 22 rfl rfl)
theorem dX1_withMonth_23 : decode cX1_withMonth 23 = .ok (.iadd, 1) := dk_96 (dk_at dksX1_withMonth_0 23 rfl rfl)
theorem dX1_withMonth_24 : decode cX1_withMonth 24 = .ok (.invokevirtual 34, 3) := dk_182 0 34 (dk_at dksX1_withMonth_1 0 rfl rfl)
theorem dX1_withMonth_27 : decode cX1_withMonth 27 = .ok (.aastore, 1) := dk_83 (dk_at dksX1_withMonth_1 3 rfl rfl)
theorem dX1_withMonth_28 : decode cX1_withMonth 28 = .ok (.return_, 1) := dk_177 (dk_at dksX1_withMonth_1 4 rfl rfl)
abbrev cX1_withYear : ByteArray := prog_13_method_6_code
def yX1_withYear : MethodName := ⟨RX1, "withYear", "(II)V"⟩
def dkwX1_withYear_0 : List UInt8 := [42, 180, 0, 13, 27, 4, 126, 42, 180, 0, 13, 27, 4, 126, 50, 28, 18, 19, 112, 182, 0, 38, 83, 177]
abbrev dktX1_withYear_0 : List UInt8 := dkwX1_withYear_0 ++ []
theorem dksX1_withYear_0 : cX1_withYear.data.toList.drop 0 = dktX1_withYear_0 := by decide +kernel
theorem dX1_withYear_0 : decode cX1_withYear 0 = .ok (.aload_n 0, 1) := dk_42 (dk_at dksX1_withYear_0 0 rfl rfl)
theorem dX1_withYear_1 : decode cX1_withYear 1 = .ok (.getfield 13, 3) := dk_180 0 13 (dk_at dksX1_withYear_0 1 rfl rfl)
theorem dX1_withYear_4 : decode cX1_withYear 4 = .ok (.iload_n 1, 1) := dk_27 (dk_at dksX1_withYear_0 4 rfl rfl)
theorem dX1_withYear_5 : decode cX1_withYear 5 = .ok (.iconst 1, 1) := dk_4 (dk_at dksX1_withYear_0 5 rfl rfl)
theorem dX1_withYear_6 : decode cX1_withYear 6 = .ok (.iand, 1) := dk_126 (dk_at dksX1_withYear_0 6 rfl rfl)
theorem dX1_withYear_7 : decode cX1_withYear 7 = .ok (.aload_n 0, 1) := dk_42 (dk_at dksX1_withYear_0 7 rfl rfl)
theorem dX1_withYear_8 : decode cX1_withYear 8 = .ok (.getfield 13, 3) := dk_180 0 13 (dk_at dksX1_withYear_0 8 rfl rfl)
theorem dX1_withYear_11 : decode cX1_withYear 11 = .ok (.iload_n 1, 1) := dk_27 (dk_at dksX1_withYear_0 11 rfl rfl)
theorem dX1_withYear_12 : decode cX1_withYear 12 = .ok (.iconst 1, 1) := dk_4 (dk_at dksX1_withYear_0 12 rfl rfl)
theorem dX1_withYear_13 : decode cX1_withYear 13 = .ok (.iand, 1) := dk_126 (dk_at dksX1_withYear_0 13 rfl rfl)
theorem dX1_withYear_14 : decode cX1_withYear 14 = .ok (.aaload, 1) := dk_50 (dk_at dksX1_withYear_0 14 rfl rfl)
theorem dX1_withYear_15 : decode cX1_withYear 15 = .ok (.iload_n 2, 1) := dk_28 (dk_at dksX1_withYear_0 15 rfl rfl)
theorem dX1_withYear_16 : decode cX1_withYear 16 = .ok (.ldc 19, 2) := dk_18 19 (dk_at dksX1_withYear_0 16 rfl rfl)
theorem dX1_withYear_18 : decode cX1_withYear 18 = .ok (.irem, 1) := dk_112 (dk_at dksX1_withYear_0 18 rfl rfl)
theorem dX1_withYear_19 : decode cX1_withYear 19 = .ok (.invokevirtual 38, 3) := dk_182 0 38 (dk_at dksX1_withYear_0 19 rfl rfl)
theorem dX1_withYear_22 : decode cX1_withYear 22 = .ok (.aastore, 1) := dk_83 (dk_at dksX1_withYear_0 22 rfl rfl)
theorem dX1_withYear_23 : decode cX1_withYear 23 = .ok (.return_, 1) := dk_177 (dk_at dksX1_withYear_0 23 rfl rfl)
abbrev cX1_keep : ByteArray := prog_13_method_15_code
def yX1_keep : MethodName := ⟨RX1, "keep", "(I)Z"⟩
def dkwX1_keep_1 : List UInt8 := [42, 180, 0, 13, 27, 4, 126, 17, 7, 208, 4, 184, 0, 9, 83, 3, 172, 4, 172]
abbrev dktX1_keep_1 : List UInt8 := dkwX1_keep_1 ++ []
def dkwX1_keep_0 : List UInt8 := [42, 180, 0, 13, 27, 4, 126, 50, 182, 0, 25, 61, 28, 18, 72, 163, 0, 9, 28, 18, 73, 162, 0, 20]
abbrev dktX1_keep_0 : List UInt8 := dkwX1_keep_0 ++ dktX1_keep_1
theorem dksX1_keep_0 : cX1_keep.data.toList.drop 0 = dktX1_keep_0 := by decide +kernel
theorem dksX1_keep_1 : cX1_keep.data.toList.drop 24 = dktX1_keep_1 := dk_seg dksX1_keep_0 24 rfl rfl
theorem dX1_keep_0 : decode cX1_keep 0 = .ok (.aload_n 0, 1) := dk_42 (dk_at dksX1_keep_0 0 rfl rfl)
theorem dX1_keep_1 : decode cX1_keep 1 = .ok (.getfield 13, 3) := dk_180 0 13 (dk_at dksX1_keep_0 1 rfl rfl)
theorem dX1_keep_4 : decode cX1_keep 4 = .ok (.iload_n 1, 1) := dk_27 (dk_at dksX1_keep_0 4 rfl rfl)
theorem dX1_keep_5 : decode cX1_keep 5 = .ok (.iconst 1, 1) := dk_4 (dk_at dksX1_keep_0 5 rfl rfl)
theorem dX1_keep_6 : decode cX1_keep 6 = .ok (.iand, 1) := dk_126 (dk_at dksX1_keep_0 6 rfl rfl)
theorem dX1_keep_7 : decode cX1_keep 7 = .ok (.aaload, 1) := dk_50 (dk_at dksX1_keep_0 7 rfl rfl)
theorem dX1_keep_8 : decode cX1_keep 8 = .ok (.invokevirtual 25, 3) := dk_182 0 25 (dk_at dksX1_keep_0 8 rfl rfl)
theorem dX1_keep_11 : decode cX1_keep 11 = .ok (.istore_n 2, 1) := dk_61 (dk_at dksX1_keep_0 11 rfl rfl)
theorem dX1_keep_12 : decode cX1_keep 12 = .ok (.iload_n 2, 1) := dk_28 (dk_at dksX1_keep_0 12 rfl rfl)
theorem dX1_keep_13 : decode cX1_keep 13 = .ok (.ldc 72, 2) := dk_18 72 (dk_at dksX1_keep_0 13 rfl rfl)
theorem dX1_keep_15 : decode cX1_keep 15 = .ok (.if_icmp .gt 9, 3) := dk_163 0 9 (dk_at dksX1_keep_0 15 rfl rfl)
theorem dX1_keep_18 : decode cX1_keep 18 = .ok (.iload_n 2, 1) := dk_28 (dk_at dksX1_keep_0 18 rfl rfl)
theorem dX1_keep_19 : decode cX1_keep 19 = .ok (.ldc 73, 2) := dk_18 73 (dk_at dksX1_keep_0 19 rfl rfl)
theorem dX1_keep_21 : decode cX1_keep 21 = .ok (.if_icmp .ge 20, 3) := dk_162 0 20 (dk_at dksX1_keep_0 21 rfl rfl)
theorem dX1_keep_24 : decode cX1_keep 24 = .ok (.aload_n 0, 1) := dk_42 (dk_at dksX1_keep_1 0 rfl rfl)
theorem dX1_keep_25 : decode cX1_keep 25 = .ok (.getfield 13, 3) := dk_180 0 13 (dk_at dksX1_keep_1 1 rfl rfl)
theorem dX1_keep_28 : decode cX1_keep 28 = .ok (.iload_n 1, 1) := dk_27 (dk_at dksX1_keep_1 4 rfl rfl)
theorem dX1_keep_29 : decode cX1_keep 29 = .ok (.iconst 1, 1) := dk_4 (dk_at dksX1_keep_1 5 rfl rfl)
theorem dX1_keep_30 : decode cX1_keep 30 = .ok (.iand, 1) := dk_126 (dk_at dksX1_keep_1 6 rfl rfl)
theorem dX1_keep_31 : decode cX1_keep 31 = .ok (.sipush 2000, 3) := dk_17 7 208 (dk_at dksX1_keep_1 7 rfl rfl)
theorem dX1_keep_34 : decode cX1_keep 34 = .ok (.iconst 1, 1) := dk_4 (dk_at dksX1_keep_1 10 rfl rfl)
theorem dX1_keep_35 : decode cX1_keep 35 = .ok (.invokestatic 9, 3) := dk_184 0 9 (dk_at dksX1_keep_1 11 rfl rfl)
theorem dX1_keep_38 : decode cX1_keep 38 = .ok (.aastore, 1) := dk_83 (dk_at dksX1_keep_1 14 rfl rfl)
theorem dX1_keep_39 : decode cX1_keep 39 = .ok (.iconst 0, 1) := dk_3 (dk_at dksX1_keep_1 15 rfl rfl)
theorem dX1_keep_40 : decode cX1_keep 40 = .ok (.ireturn, 1) := dk_172 (dk_at dksX1_keep_1 16 rfl rfl)
theorem dX1_keep_41 : decode cX1_keep 41 = .ok (.iconst 1, 1) := dk_4 (dk_at dksX1_keep_1 17 rfl rfl)
theorem dX1_keep_42 : decode cX1_keep 42 = .ok (.ireturn, 1) := dk_172 (dk_at dksX1_keep_1 18 rfl rfl)
abbrev cX1_year : ByteArray := prog_13_method_7_code
def yX1_year : MethodName := ⟨RX1, "year", "(I)I"⟩
def dkwX1_year_0 : List UInt8 := [42, 180, 0, 13, 27, 4, 126, 50, 182, 0, 25, 172]
abbrev dktX1_year_0 : List UInt8 := dkwX1_year_0 ++ []
theorem dksX1_year_0 : cX1_year.data.toList.drop 0 = dktX1_year_0 := by decide +kernel
theorem dX1_year_0 : decode cX1_year 0 = .ok (.aload_n 0, 1) := dk_42 (dk_at dksX1_year_0 0 rfl rfl)
theorem dX1_year_1 : decode cX1_year 1 = .ok (.getfield 13, 3) := dk_180 0 13 (dk_at dksX1_year_0 1 rfl rfl)
theorem dX1_year_4 : decode cX1_year 4 = .ok (.iload_n 1, 1) := dk_27 (dk_at dksX1_year_0 4 rfl rfl)
theorem dX1_year_5 : decode cX1_year 5 = .ok (.iconst 1, 1) := dk_4 (dk_at dksX1_year_0 5 rfl rfl)
theorem dX1_year_6 : decode cX1_year 6 = .ok (.iand, 1) := dk_126 (dk_at dksX1_year_0 6 rfl rfl)
theorem dX1_year_7 : decode cX1_year 7 = .ok (.aaload, 1) := dk_50 (dk_at dksX1_year_0 7 rfl rfl)
theorem dX1_year_8 : decode cX1_year 8 = .ok (.invokevirtual 25, 3) := dk_182 0 25 (dk_at dksX1_year_0 8 rfl rfl)
theorem dX1_year_11 : decode cX1_year 11 = .ok (.ireturn, 1) := dk_172 (dk_at dksX1_year_0 11 rfl rfl)
abbrev cX1_month : ByteArray := prog_13_method_8_code
def yX1_month : MethodName := ⟨RX1, "month", "(I)I"⟩
def dkwX1_month_0 : List UInt8 := [42, 180, 0, 13, 27, 4, 126, 50, 182, 0, 41, 172]
abbrev dktX1_month_0 : List UInt8 := dkwX1_month_0 ++ []
theorem dksX1_month_0 : cX1_month.data.toList.drop 0 = dktX1_month_0 := by decide +kernel
theorem dX1_month_0 : decode cX1_month 0 = .ok (.aload_n 0, 1) := dk_42 (dk_at dksX1_month_0 0 rfl rfl)
theorem dX1_month_1 : decode cX1_month 1 = .ok (.getfield 13, 3) := dk_180 0 13 (dk_at dksX1_month_0 1 rfl rfl)
theorem dX1_month_4 : decode cX1_month 4 = .ok (.iload_n 1, 1) := dk_27 (dk_at dksX1_month_0 4 rfl rfl)
theorem dX1_month_5 : decode cX1_month 5 = .ok (.iconst 1, 1) := dk_4 (dk_at dksX1_month_0 5 rfl rfl)
theorem dX1_month_6 : decode cX1_month 6 = .ok (.iand, 1) := dk_126 (dk_at dksX1_month_0 6 rfl rfl)
theorem dX1_month_7 : decode cX1_month 7 = .ok (.aaload, 1) := dk_50 (dk_at dksX1_month_0 7 rfl rfl)
theorem dX1_month_8 : decode cX1_month 8 = .ok (.invokevirtual 41, 3) := dk_182 0 41 (dk_at dksX1_month_0 8 rfl rfl)
theorem dX1_month_11 : decode cX1_month 11 = .ok (.ireturn, 1) := dk_172 (dk_at dksX1_month_0 11 rfl rfl)
abbrev cX1_length : ByteArray := prog_13_method_9_code
def yX1_length : MethodName := ⟨RX1, "length", "(I)I"⟩
def dkwX1_length_0 : List UInt8 := [42, 180, 0, 13, 27, 4, 126, 50, 182, 0, 44, 172]
abbrev dktX1_length_0 : List UInt8 := dkwX1_length_0 ++ []
theorem dksX1_length_0 : cX1_length.data.toList.drop 0 = dktX1_length_0 := by decide +kernel
theorem dX1_length_0 : decode cX1_length 0 = .ok (.aload_n 0, 1) := dk_42 (dk_at dksX1_length_0 0 rfl rfl)
theorem dX1_length_1 : decode cX1_length 1 = .ok (.getfield 13, 3) := dk_180 0 13 (dk_at dksX1_length_0 1 rfl rfl)
theorem dX1_length_4 : decode cX1_length 4 = .ok (.iload_n 1, 1) := dk_27 (dk_at dksX1_length_0 4 rfl rfl)
theorem dX1_length_5 : decode cX1_length 5 = .ok (.iconst 1, 1) := dk_4 (dk_at dksX1_length_0 5 rfl rfl)
theorem dX1_length_6 : decode cX1_length 6 = .ok (.iand, 1) := dk_126 (dk_at dksX1_length_0 6 rfl rfl)
theorem dX1_length_7 : decode cX1_length 7 = .ok (.aaload, 1) := dk_50 (dk_at dksX1_length_0 7 rfl rfl)
theorem dX1_length_8 : decode cX1_length 8 = .ok (.invokevirtual 44, 3) := dk_182 0 44 (dk_at dksX1_length_0 8 rfl rfl)
theorem dX1_length_11 : decode cX1_length 11 = .ok (.ireturn, 1) := dk_172 (dk_at dksX1_length_0 11 rfl rfl)
abbrev cX1_leap : ByteArray := prog_13_method_11_code
def yX1_leap : MethodName := ⟨RX1, "leap", "(I)Z"⟩
def dkwX1_leap_0 : List UInt8 := [42, 180, 0, 13, 27, 4, 126, 50, 182, 0, 50, 172]
abbrev dktX1_leap_0 : List UInt8 := dkwX1_leap_0 ++ []
theorem dksX1_leap_0 : cX1_leap.data.toList.drop 0 = dktX1_leap_0 := by decide +kernel
theorem dX1_leap_0 : decode cX1_leap 0 = .ok (.aload_n 0, 1) := dk_42 (dk_at dksX1_leap_0 0 rfl rfl)
theorem dX1_leap_1 : decode cX1_leap 1 = .ok (.getfield 13, 3) := dk_180 0 13 (dk_at dksX1_leap_0 1 rfl rfl)
theorem dX1_leap_4 : decode cX1_leap 4 = .ok (.iload_n 1, 1) := dk_27 (dk_at dksX1_leap_0 4 rfl rfl)
theorem dX1_leap_5 : decode cX1_leap 5 = .ok (.iconst 1, 1) := dk_4 (dk_at dksX1_leap_0 5 rfl rfl)
theorem dX1_leap_6 : decode cX1_leap 6 = .ok (.iand, 1) := dk_126 (dk_at dksX1_leap_0 6 rfl rfl)
theorem dX1_leap_7 : decode cX1_leap 7 = .ok (.aaload, 1) := dk_50 (dk_at dksX1_leap_0 7 rfl rfl)
theorem dX1_leap_8 : decode cX1_leap 8 = .ok (.invokevirtual 50, 3) := dk_182 0 50 (dk_at dksX1_leap_0 8 rfl rfl)
theorem dX1_leap_11 : decode cX1_leap 11 = .ok (.ireturn, 1) := dk_172 (dk_at dksX1_leap_0 11 rfl rfl)
abbrev cX1_yearLength : ByteArray := prog_13_method_10_code
def yX1_yearLength : MethodName := ⟨RX1, "yearLength", "(I)I"⟩
def dkwX1_yearLength_0 : List UInt8 := [42, 180, 0, 13, 27, 4, 126, 50, 182, 0, 47, 172]
abbrev dktX1_yearLength_0 : List UInt8 := dkwX1_yearLength_0 ++ []
theorem dksX1_yearLength_0 : cX1_yearLength.data.toList.drop 0 = dktX1_yearLength_0 := by decide +kernel
theorem dX1_yearLength_0 : decode cX1_yearLength 0 = .ok (.aload_n 0, 1) := dk_42 (dk_at dksX1_yearLength_0 0 rfl rfl)
theorem dX1_yearLength_1 : decode cX1_yearLength 1 = .ok (.getfield 13, 3) := dk_180 0 13 (dk_at dksX1_yearLength_0 1 rfl rfl)
theorem dX1_yearLength_4 : decode cX1_yearLength 4 = .ok (.iload_n 1, 1) := dk_27 (dk_at dksX1_yearLength_0 4 rfl rfl)
theorem dX1_yearLength_5 : decode cX1_yearLength 5 = .ok (.iconst 1, 1) := dk_4 (dk_at dksX1_yearLength_0 5 rfl rfl)
theorem dX1_yearLength_6 : decode cX1_yearLength 6 = .ok (.iand, 1) := dk_126 (dk_at dksX1_yearLength_0 6 rfl rfl)
theorem dX1_yearLength_7 : decode cX1_yearLength 7 = .ok (.aaload, 1) := dk_50 (dk_at dksX1_yearLength_0 7 rfl rfl)
theorem dX1_yearLength_8 : decode cX1_yearLength 8 = .ok (.invokevirtual 47, 3) := dk_182 0 47 (dk_at dksX1_yearLength_0 8 rfl rfl)
theorem dX1_yearLength_11 : decode cX1_yearLength 11 = .ok (.ireturn, 1) := dk_172 (dk_at dksX1_yearLength_0 11 rfl rfl)
abbrev cX1_firstDay : ByteArray := prog_13_method_12_code
def yX1_firstDay : MethodName := ⟨RX1, "firstDay", "(I)J"⟩
def dkwX1_firstDay_0 : List UInt8 := [42, 180, 0, 13, 27, 4, 126, 50, 4, 182, 0, 54, 182, 0, 58, 173]
abbrev dktX1_firstDay_0 : List UInt8 := dkwX1_firstDay_0 ++ []
theorem dksX1_firstDay_0 : cX1_firstDay.data.toList.drop 0 = dktX1_firstDay_0 := by decide +kernel
theorem dX1_firstDay_0 : decode cX1_firstDay 0 = .ok (.aload_n 0, 1) := dk_42 (dk_at dksX1_firstDay_0 0 rfl rfl)
theorem dX1_firstDay_1 : decode cX1_firstDay 1 = .ok (.getfield 13, 3) := dk_180 0 13 (dk_at dksX1_firstDay_0 1 rfl rfl)
theorem dX1_firstDay_4 : decode cX1_firstDay 4 = .ok (.iload_n 1, 1) := dk_27 (dk_at dksX1_firstDay_0 4 rfl rfl)
theorem dX1_firstDay_5 : decode cX1_firstDay 5 = .ok (.iconst 1, 1) := dk_4 (dk_at dksX1_firstDay_0 5 rfl rfl)
theorem dX1_firstDay_6 : decode cX1_firstDay 6 = .ok (.iand, 1) := dk_126 (dk_at dksX1_firstDay_0 6 rfl rfl)
theorem dX1_firstDay_7 : decode cX1_firstDay 7 = .ok (.aaload, 1) := dk_50 (dk_at dksX1_firstDay_0 7 rfl rfl)
theorem dX1_firstDay_8 : decode cX1_firstDay 8 = .ok (.iconst 1, 1) := dk_4 (dk_at dksX1_firstDay_0 8 rfl rfl)
theorem dX1_firstDay_9 : decode cX1_firstDay 9 = .ok (.invokevirtual 54, 3) := dk_182 0 54 (dk_at dksX1_firstDay_0 9 rfl rfl)
theorem dX1_firstDay_12 : decode cX1_firstDay 12 = .ok (.invokevirtual 58, 3) := dk_182 0 58 (dk_at dksX1_firstDay_0 12 rfl rfl)
theorem dX1_firstDay_15 : decode cX1_firstDay 15 = .ok (.lreturn, 1) := dk_173 (dk_at dksX1_firstDay_0 15 rfl rfl)
abbrev cX1_lastDay : ByteArray := prog_13_method_13_code
def yX1_lastDay : MethodName := ⟨RX1, "lastDay", "(I)J"⟩
def dkwX1_lastDay_0 : List UInt8 := [42, 180, 0, 13, 27, 4, 126, 50, 182, 0, 64, 182, 0, 58, 173]
abbrev dktX1_lastDay_0 : List UInt8 := dkwX1_lastDay_0 ++ []
theorem dksX1_lastDay_0 : cX1_lastDay.data.toList.drop 0 = dktX1_lastDay_0 := by decide +kernel
theorem dX1_lastDay_0 : decode cX1_lastDay 0 = .ok (.aload_n 0, 1) := dk_42 (dk_at dksX1_lastDay_0 0 rfl rfl)
theorem dX1_lastDay_1 : decode cX1_lastDay 1 = .ok (.getfield 13, 3) := dk_180 0 13 (dk_at dksX1_lastDay_0 1 rfl rfl)
theorem dX1_lastDay_4 : decode cX1_lastDay 4 = .ok (.iload_n 1, 1) := dk_27 (dk_at dksX1_lastDay_0 4 rfl rfl)
theorem dX1_lastDay_5 : decode cX1_lastDay 5 = .ok (.iconst 1, 1) := dk_4 (dk_at dksX1_lastDay_0 5 rfl rfl)
theorem dX1_lastDay_6 : decode cX1_lastDay 6 = .ok (.iand, 1) := dk_126 (dk_at dksX1_lastDay_0 6 rfl rfl)
theorem dX1_lastDay_7 : decode cX1_lastDay 7 = .ok (.aaload, 1) := dk_50 (dk_at dksX1_lastDay_0 7 rfl rfl)
theorem dX1_lastDay_8 : decode cX1_lastDay 8 = .ok (.invokevirtual 64, 3) := dk_182 0 64 (dk_at dksX1_lastDay_0 8 rfl rfl)
theorem dX1_lastDay_11 : decode cX1_lastDay 11 = .ok (.invokevirtual 58, 3) := dk_182 0 58 (dk_at dksX1_lastDay_0 11 rfl rfl)
theorem dX1_lastDay_14 : decode cX1_lastDay 14 = .ok (.lreturn, 1) := dk_173 (dk_at dksX1_lastDay_0 14 rfl rfl)
abbrev cX1_order : ByteArray := prog_13_method_14_code
def yX1_order : MethodName := ⟨RX1, "order", "()I"⟩
def dkwX1_order_1 : List UInt8 := [27, 158, 0, 7, 4, 167, 0, 4, 3, 172]
abbrev dktX1_order_1 : List UInt8 := dkwX1_order_1 ++ []
def dkwX1_order_0 : List UInt8 := [42, 180, 0, 13, 3, 50, 42, 180, 0, 13, 4, 50, 182, 0, 68, 60, 27, 156, 0, 7, 2, 167, 0, 12]
abbrev dktX1_order_0 : List UInt8 := dkwX1_order_0 ++ dktX1_order_1
theorem dksX1_order_0 : cX1_order.data.toList.drop 0 = dktX1_order_0 := by decide +kernel
theorem dksX1_order_1 : cX1_order.data.toList.drop 24 = dktX1_order_1 := dk_seg dksX1_order_0 24 rfl rfl
theorem dX1_order_0 : decode cX1_order 0 = .ok (.aload_n 0, 1) := dk_42 (dk_at dksX1_order_0 0 rfl rfl)
theorem dX1_order_1 : decode cX1_order 1 = .ok (.getfield 13, 3) := dk_180 0 13 (dk_at dksX1_order_0 1 rfl rfl)
theorem dX1_order_4 : decode cX1_order 4 = .ok (.iconst 0, 1) := dk_3 (dk_at dksX1_order_0 4 rfl rfl)
theorem dX1_order_5 : decode cX1_order 5 = .ok (.aaload, 1) := dk_50 (dk_at dksX1_order_0 5 rfl rfl)
theorem dX1_order_6 : decode cX1_order 6 = .ok (.aload_n 0, 1) := dk_42 (dk_at dksX1_order_0 6 rfl rfl)
theorem dX1_order_7 : decode cX1_order 7 = .ok (.getfield 13, 3) := dk_180 0 13 (dk_at dksX1_order_0 7 rfl rfl)
theorem dX1_order_10 : decode cX1_order 10 = .ok (.iconst 1, 1) := dk_4 (dk_at dksX1_order_0 10 rfl rfl)
theorem dX1_order_11 : decode cX1_order 11 = .ok (.aaload, 1) := dk_50 (dk_at dksX1_order_0 11 rfl rfl)
theorem dX1_order_12 : decode cX1_order 12 = .ok (.invokevirtual 68, 3) := dk_182 0 68 (dk_at dksX1_order_0 12 rfl rfl)
theorem dX1_order_15 : decode cX1_order 15 = .ok (.istore_n 1, 1) := dk_60 (dk_at dksX1_order_0 15 rfl rfl)
theorem dX1_order_16 : decode cX1_order 16 = .ok (.iload_n 1, 1) := dk_27 (dk_at dksX1_order_0 16 rfl rfl)
theorem dX1_order_17 : decode cX1_order 17 = .ok (.ifCond .ge 7, 3) := dk_156 0 7 (dk_at dksX1_order_0 17 rfl rfl)
theorem dX1_order_20 : decode cX1_order 20 = .ok (.iconst (-1), 1) := dk_2 (dk_at dksX1_order_0 20 rfl rfl)
theorem dX1_order_21 : decode cX1_order 21 = .ok (.goto 12, 3) := dk_167 0 12 (dk_at dksX1_order_0 21 rfl rfl)
theorem dX1_order_24 : decode cX1_order 24 = .ok (.iload_n 1, 1) := dk_27 (dk_at dksX1_order_1 0 rfl rfl)
theorem dX1_order_25 : decode cX1_order 25 = .ok (.ifCond .le 7, 3) := dk_158 0 7 (dk_at dksX1_order_1 1 rfl rfl)
theorem dX1_order_28 : decode cX1_order 28 = .ok (.iconst 1, 1) := dk_4 (dk_at dksX1_order_1 4 rfl rfl)
theorem dX1_order_29 : decode cX1_order 29 = .ok (.goto 4, 3) := dk_167 0 4 (dk_at dksX1_order_1 5 rfl rfl)
theorem dX1_order_32 : decode cX1_order 32 = .ok (.iconst 0, 1) := dk_3 (dk_at dksX1_order_1 8 rfl rfl)
theorem dX1_order_33 : decode cX1_order 33 = .ok (.ireturn, 1) := dk_172 (dk_at dksX1_order_1 9 rfl rfl)
theorem q3 : (Jvm.Cond.initialized "MonthDesk") ∈ lw_all := lw_g (lw_at lw_m1 1 rfl) rfl
theorem q20 : (Jvm.Cond.instantiable "MonthDesk" (1 : Nat)) ∈ lw_all := lw_g (lw_at lw_m1 18 rfl) rfl
theorem q22 : (Jvm.Cond.instanceMethod ({ cls := "MonthDesk", name := "<init>", desc := "()V" } : Jvm.MethodName)) ∈ lw_all := lw_g (lw_at lw_m1 20 rfl) rfl
theorem q23 : (Jvm.Cond.code ({ cls := "MonthDesk", name := "<init>", desc := "()V" } : Jvm.MethodName) prog_13_method_1_code (1 : Nat) (Option.none : Option Jvm.ClassFile.FieldType)) ∈ lw_all := lw_g (lw_at lw_m1 21 rfl) rfl
theorem q24 : (Jvm.Cond.methodLink "MonthDesk" (1 : Nat) ({ cls := "java/lang/Object", name := "<init>", desc := "()V" } : Jvm.MethodName)) ∈ lw_all := lw_g (lw_at lw_m1 22 rfl) rfl
theorem q27 : (Jvm.Cond.classLink "MonthDesk" (7 : Nat) "YearMonth") ∈ lw_all := lw_g (lw_at lw_m1 25 rfl) rfl
theorem q29 : (Jvm.Cond.methodLink "MonthDesk" (9 : Nat) ({ cls := "YearMonth", name := "of", desc := "(II)LYearMonth;" } : Jvm.MethodName)) ∈ lw_all := lw_g (lw_at lw_m1 27 rfl) rfl
theorem q142 : (Jvm.Cond.fieldLink "MonthDesk" (13 : Nat) "MonthDesk" "month" "[LYearMonth;") ∈ lw_all := lw_g (lw_at lw_m1 140 rfl) rfl
theorem q143 : (Jvm.Cond.laysFinal "MonthDesk" "MonthDesk" "month" "[LYearMonth;") ∈ lw_all := lw_g (lw_at lw_m1 141 rfl) rfl
theorem q144 : (Jvm.Cond.soleField "MonthDesk" "month") ∈ lw_all := lw_g (lw_at lw_m1 142 rfl) rfl
theorem q145 : (Jvm.Cond.superclass "MonthDesk" "java/lang/Object") ∈ lw_all := lw_g (lw_at lw_m1 143 rfl) rfl
theorem q147 : (Jvm.Cond.instanceMethod ({ cls := "MonthDesk", name := "set", desc := "(III)V" } : Jvm.MethodName)) ∈ lw_all := lw_g (lw_at lw_m1 145 rfl) rfl
theorem q148 : (Jvm.Cond.selects "MonthDesk" ({ cls := "MonthDesk", name := "set", desc := "(III)V" } : Jvm.MethodName) ({ cls := "MonthDesk", name := "set", desc := "(III)V" } : Jvm.MethodName)) ∈ lw_all := lw_g (lw_at lw_m1 146 rfl) rfl
theorem q149 : (Jvm.Cond.code ({ cls := "MonthDesk", name := "set", desc := "(III)V" } : Jvm.MethodName) prog_13_method_2_code (4 : Nat) (Option.none : Option Jvm.ClassFile.FieldType)) ∈ lw_all := lw_g (lw_at lw_m1 147 rfl) rfl
theorem q150 : (Jvm.Cond.constant "MonthDesk" (19 : Nat) (1000000 : Int32)) ∈ lw_all := lw_g (lw_at lw_m1 148 rfl) rfl
theorem q151 : (Jvm.Cond.constant "MonthDesk" (20 : Nat) (2147483647 : Int32)) ∈ lw_all := lw_g (lw_at lw_m1 149 rfl) rfl
theorem q153 : (Jvm.Cond.instanceMethod ({ cls := "MonthDesk", name := "months", desc := "(II)V" } : Jvm.MethodName)) ∈ lw_all := lw_g (lw_at lw_m1 151 rfl) rfl
theorem q154 : (Jvm.Cond.selects "MonthDesk" ({ cls := "MonthDesk", name := "months", desc := "(II)V" } : Jvm.MethodName) ({ cls := "MonthDesk", name := "months", desc := "(II)V" } : Jvm.MethodName)) ∈ lw_all := lw_g (lw_at lw_m1 152 rfl) rfl
theorem q155 : (Jvm.Cond.code ({ cls := "MonthDesk", name := "months", desc := "(II)V" } : Jvm.MethodName) prog_13_method_3_code (3 : Nat) (Option.none : Option Jvm.ClassFile.FieldType)) ∈ lw_all := lw_g (lw_at lw_m1 153 rfl) rfl
theorem q156 : (Jvm.Cond.methodLink "MonthDesk" (21 : Nat) ({ cls := "YearMonth", name := "plusMonths", desc := "(J)LYearMonth;" } : Jvm.MethodName)) ∈ lw_all := lw_g (lw_at lw_m1 154 rfl) rfl
theorem q190 : (Jvm.Cond.instanceMethod ({ cls := "MonthDesk", name := "years", desc := "(II)V" } : Jvm.MethodName)) ∈ lw_all := lw_g (lw_at lw_m1 188 rfl) rfl
theorem q191 : (Jvm.Cond.selects "MonthDesk" ({ cls := "MonthDesk", name := "years", desc := "(II)V" } : Jvm.MethodName) ({ cls := "MonthDesk", name := "years", desc := "(II)V" } : Jvm.MethodName)) ∈ lw_all := lw_g (lw_at lw_m1 189 rfl) rfl
theorem q192 : (Jvm.Cond.code ({ cls := "MonthDesk", name := "years", desc := "(II)V" } : Jvm.MethodName) prog_13_method_4_code (4 : Nat) (Option.none : Option Jvm.ClassFile.FieldType)) ∈ lw_all := lw_g (lw_at lw_m1 190 rfl) rfl
theorem q193 : (Jvm.Cond.methodLink "MonthDesk" (25 : Nat) ({ cls := "YearMonth", name := "getYear", desc := "()I" } : Jvm.MethodName)) ∈ lw_all := lw_g (lw_at lw_m1 191 rfl) rfl
theorem q197 : (Jvm.Cond.constant "MonthDesk" (29 : Nat) (-999999 : Int32)) ∈ lw_all := lw_g (lw_at lw_m1 195 rfl) rfl
theorem q198 : (Jvm.Cond.constant "MonthDesk" (30 : Nat) (999999 : Int32)) ∈ lw_all := lw_g (lw_at lw_m1 196 rfl) rfl
theorem q199 : (Jvm.Cond.methodLink "MonthDesk" (31 : Nat) ({ cls := "YearMonth", name := "plusYears", desc := "(J)LYearMonth;" } : Jvm.MethodName)) ∈ lw_all := lw_g (lw_at lw_m1 197 rfl) rfl
theorem q204 : (Jvm.Cond.instanceMethod ({ cls := "MonthDesk", name := "withMonth", desc := "(II)V" } : Jvm.MethodName)) ∈ lw_all := lw_g (lw_at lw_m1 202 rfl) rfl
theorem q205 : (Jvm.Cond.selects "MonthDesk" ({ cls := "MonthDesk", name := "withMonth", desc := "(II)V" } : Jvm.MethodName) ({ cls := "MonthDesk", name := "withMonth", desc := "(II)V" } : Jvm.MethodName)) ∈ lw_all := lw_g (lw_at lw_m1 203 rfl) rfl
theorem q206 : (Jvm.Cond.code ({ cls := "MonthDesk", name := "withMonth", desc := "(II)V" } : Jvm.MethodName) prog_13_method_5_code (3 : Nat) (Option.none : Option Jvm.ClassFile.FieldType)) ∈ lw_all := lw_g (lw_at lw_m1 204 rfl) rfl
theorem q207 : (Jvm.Cond.methodLink "MonthDesk" (34 : Nat) ({ cls := "YearMonth", name := "withMonth", desc := "(I)LYearMonth;" } : Jvm.MethodName)) ∈ lw_all := lw_g (lw_at lw_m1 205 rfl) rfl
theorem q212 : (Jvm.Cond.instanceMethod ({ cls := "MonthDesk", name := "withYear", desc := "(II)V" } : Jvm.MethodName)) ∈ lw_all := lw_g (lw_at lw_m1 210 rfl) rfl
theorem q213 : (Jvm.Cond.selects "MonthDesk" ({ cls := "MonthDesk", name := "withYear", desc := "(II)V" } : Jvm.MethodName) ({ cls := "MonthDesk", name := "withYear", desc := "(II)V" } : Jvm.MethodName)) ∈ lw_all := lw_g (lw_at lw_m1 211 rfl) rfl
theorem q214 : (Jvm.Cond.code ({ cls := "MonthDesk", name := "withYear", desc := "(II)V" } : Jvm.MethodName) prog_13_method_6_code (3 : Nat) (Option.none : Option Jvm.ClassFile.FieldType)) ∈ lw_all := lw_g (lw_at lw_m1 212 rfl) rfl
theorem q215 : (Jvm.Cond.methodLink "MonthDesk" (38 : Nat) ({ cls := "YearMonth", name := "withYear", desc := "(I)LYearMonth;" } : Jvm.MethodName)) ∈ lw_all := lw_g (lw_at lw_m1 213 rfl) rfl
theorem q220 : (Jvm.Cond.instanceMethod ({ cls := "MonthDesk", name := "keep", desc := "(I)Z" } : Jvm.MethodName)) ∈ lw_all := lw_g (lw_at lw_m1 218 rfl) rfl
theorem q221 : (Jvm.Cond.selects "MonthDesk" ({ cls := "MonthDesk", name := "keep", desc := "(I)Z" } : Jvm.MethodName) ({ cls := "MonthDesk", name := "keep", desc := "(I)Z" } : Jvm.MethodName)) ∈ lw_all := lw_g (lw_at lw_m1 219 rfl) rfl
theorem q222 : (Jvm.Cond.code ({ cls := "MonthDesk", name := "keep", desc := "(I)Z" } : Jvm.MethodName) prog_13_method_15_code (3 : Nat) (Option.some Jvm.ClassFile.FieldType.boolean)) ∈ lw_all := lw_g (lw_at lw_m1 220 rfl) rfl
theorem q223 : (Jvm.Cond.constant "MonthDesk" (72 : Nat) (900000 : Int32)) ∈ lw_all := lw_g (lw_at lw_m1 221 rfl) rfl
theorem q224 : (Jvm.Cond.constant "MonthDesk" (73 : Nat) (-900000 : Int32)) ∈ lw_all := lw_g (lw_at lw_m1 222 rfl) rfl
theorem q257 : (Jvm.Cond.instanceMethod ({ cls := "MonthDesk", name := "year", desc := "(I)I" } : Jvm.MethodName)) ∈ lw_all := lw_g (lw_at lw_m2 15 rfl) rfl
theorem q258 : (Jvm.Cond.selects "MonthDesk" ({ cls := "MonthDesk", name := "year", desc := "(I)I" } : Jvm.MethodName) ({ cls := "MonthDesk", name := "year", desc := "(I)I" } : Jvm.MethodName)) ∈ lw_all := lw_g (lw_at lw_m2 16 rfl) rfl
theorem q259 : (Jvm.Cond.code ({ cls := "MonthDesk", name := "year", desc := "(I)I" } : Jvm.MethodName) prog_13_method_7_code (2 : Nat) (Option.some Jvm.ClassFile.FieldType.int)) ∈ lw_all := lw_g (lw_at lw_m2 17 rfl) rfl
theorem q261 : (Jvm.Cond.instanceMethod ({ cls := "MonthDesk", name := "month", desc := "(I)I" } : Jvm.MethodName)) ∈ lw_all := lw_g (lw_at lw_m2 19 rfl) rfl
theorem q262 : (Jvm.Cond.selects "MonthDesk" ({ cls := "MonthDesk", name := "month", desc := "(I)I" } : Jvm.MethodName) ({ cls := "MonthDesk", name := "month", desc := "(I)I" } : Jvm.MethodName)) ∈ lw_all := lw_g (lw_at lw_m2 20 rfl) rfl
theorem q263 : (Jvm.Cond.code ({ cls := "MonthDesk", name := "month", desc := "(I)I" } : Jvm.MethodName) prog_13_method_8_code (2 : Nat) (Option.some Jvm.ClassFile.FieldType.int)) ∈ lw_all := lw_g (lw_at lw_m2 21 rfl) rfl
theorem q264 : (Jvm.Cond.methodLink "MonthDesk" (41 : Nat) ({ cls := "YearMonth", name := "getMonthValue", desc := "()I" } : Jvm.MethodName)) ∈ lw_all := lw_g (lw_at lw_m2 22 rfl) rfl
theorem q269 : (Jvm.Cond.instanceMethod ({ cls := "MonthDesk", name := "length", desc := "(I)I" } : Jvm.MethodName)) ∈ lw_all := lw_g (lw_at lw_m2 27 rfl) rfl
theorem q270 : (Jvm.Cond.selects "MonthDesk" ({ cls := "MonthDesk", name := "length", desc := "(I)I" } : Jvm.MethodName) ({ cls := "MonthDesk", name := "length", desc := "(I)I" } : Jvm.MethodName)) ∈ lw_all := lw_g (lw_at lw_m2 28 rfl) rfl
theorem q271 : (Jvm.Cond.code ({ cls := "MonthDesk", name := "length", desc := "(I)I" } : Jvm.MethodName) prog_13_method_9_code (2 : Nat) (Option.some Jvm.ClassFile.FieldType.int)) ∈ lw_all := lw_g (lw_at lw_m2 29 rfl) rfl
theorem q272 : (Jvm.Cond.methodLink "MonthDesk" (44 : Nat) ({ cls := "YearMonth", name := "lengthOfMonth", desc := "()I" } : Jvm.MethodName)) ∈ lw_all := lw_g (lw_at lw_m2 30 rfl) rfl
theorem q312 : (Jvm.Cond.instanceMethod ({ cls := "MonthDesk", name := "leap", desc := "(I)Z" } : Jvm.MethodName)) ∈ lw_all := lw_g (lw_at lw_m2 70 rfl) rfl
theorem q313 : (Jvm.Cond.selects "MonthDesk" ({ cls := "MonthDesk", name := "leap", desc := "(I)Z" } : Jvm.MethodName) ({ cls := "MonthDesk", name := "leap", desc := "(I)Z" } : Jvm.MethodName)) ∈ lw_all := lw_g (lw_at lw_m2 71 rfl) rfl
theorem q314 : (Jvm.Cond.code ({ cls := "MonthDesk", name := "leap", desc := "(I)Z" } : Jvm.MethodName) prog_13_method_11_code (2 : Nat) (Option.some Jvm.ClassFile.FieldType.boolean)) ∈ lw_all := lw_g (lw_at lw_m2 72 rfl) rfl
theorem q315 : (Jvm.Cond.methodLink "MonthDesk" (50 : Nat) ({ cls := "YearMonth", name := "isLeapYear", desc := "()Z" } : Jvm.MethodName)) ∈ lw_all := lw_g (lw_at lw_m2 73 rfl) rfl
theorem q317 : (Jvm.Cond.instanceMethod ({ cls := "MonthDesk", name := "yearLength", desc := "(I)I" } : Jvm.MethodName)) ∈ lw_all := lw_g (lw_at lw_m2 75 rfl) rfl
theorem q318 : (Jvm.Cond.selects "MonthDesk" ({ cls := "MonthDesk", name := "yearLength", desc := "(I)I" } : Jvm.MethodName) ({ cls := "MonthDesk", name := "yearLength", desc := "(I)I" } : Jvm.MethodName)) ∈ lw_all := lw_g (lw_at lw_m2 76 rfl) rfl
theorem q319 : (Jvm.Cond.code ({ cls := "MonthDesk", name := "yearLength", desc := "(I)I" } : Jvm.MethodName) prog_13_method_10_code (2 : Nat) (Option.some Jvm.ClassFile.FieldType.int)) ∈ lw_all := lw_g (lw_at lw_m2 77 rfl) rfl
theorem q320 : (Jvm.Cond.methodLink "MonthDesk" (47 : Nat) ({ cls := "YearMonth", name := "lengthOfYear", desc := "()I" } : Jvm.MethodName)) ∈ lw_all := lw_g (lw_at lw_m2 78 rfl) rfl
theorem q325 : (Jvm.Cond.instanceMethod ({ cls := "MonthDesk", name := "firstDay", desc := "(I)J" } : Jvm.MethodName)) ∈ lw_all := lw_g (lw_at lw_m2 83 rfl) rfl
theorem q326 : (Jvm.Cond.selects "MonthDesk" ({ cls := "MonthDesk", name := "firstDay", desc := "(I)J" } : Jvm.MethodName) ({ cls := "MonthDesk", name := "firstDay", desc := "(I)J" } : Jvm.MethodName)) ∈ lw_all := lw_g (lw_at lw_m2 84 rfl) rfl
theorem q327 : (Jvm.Cond.code ({ cls := "MonthDesk", name := "firstDay", desc := "(I)J" } : Jvm.MethodName) prog_13_method_12_code (2 : Nat) (Option.some Jvm.ClassFile.FieldType.long)) ∈ lw_all := lw_g (lw_at lw_m2 85 rfl) rfl
theorem q328 : (Jvm.Cond.methodLink "MonthDesk" (54 : Nat) ({ cls := "YearMonth", name := "atDay", desc := "(I)LLocalDate;" } : Jvm.MethodName)) ∈ lw_all := lw_g (lw_at lw_m2 86 rfl) rfl
theorem q376 : (Jvm.Cond.methodLink "MonthDesk" (58 : Nat) ({ cls := "LocalDate", name := "toEpochDay", desc := "()J" } : Jvm.MethodName)) ∈ lw_all := lw_g (lw_at lw_m2 134 rfl) rfl
theorem q400 : (Jvm.Cond.instanceMethod ({ cls := "MonthDesk", name := "lastDay", desc := "(I)J" } : Jvm.MethodName)) ∈ lw_all := lw_g (lw_at lw_m2 158 rfl) rfl
theorem q401 : (Jvm.Cond.selects "MonthDesk" ({ cls := "MonthDesk", name := "lastDay", desc := "(I)J" } : Jvm.MethodName) ({ cls := "MonthDesk", name := "lastDay", desc := "(I)J" } : Jvm.MethodName)) ∈ lw_all := lw_g (lw_at lw_m2 159 rfl) rfl
theorem q402 : (Jvm.Cond.code ({ cls := "MonthDesk", name := "lastDay", desc := "(I)J" } : Jvm.MethodName) prog_13_method_13_code (2 : Nat) (Option.some Jvm.ClassFile.FieldType.long)) ∈ lw_all := lw_g (lw_at lw_m2 160 rfl) rfl
theorem q403 : (Jvm.Cond.methodLink "MonthDesk" (64 : Nat) ({ cls := "YearMonth", name := "atEndOfMonth", desc := "()LLocalDate;" } : Jvm.MethodName)) ∈ lw_all := lw_g (lw_at lw_m2 161 rfl) rfl
theorem q409 : (Jvm.Cond.instanceMethod ({ cls := "MonthDesk", name := "order", desc := "()I" } : Jvm.MethodName)) ∈ lw_all := lw_g (lw_at lw_m2 167 rfl) rfl
theorem q410 : (Jvm.Cond.selects "MonthDesk" ({ cls := "MonthDesk", name := "order", desc := "()I" } : Jvm.MethodName) ({ cls := "MonthDesk", name := "order", desc := "()I" } : Jvm.MethodName)) ∈ lw_all := lw_g (lw_at lw_m2 168 rfl) rfl
theorem q411 : (Jvm.Cond.code ({ cls := "MonthDesk", name := "order", desc := "()I" } : Jvm.MethodName) prog_13_method_14_code (2 : Nat) (Option.some Jvm.ClassFile.FieldType.int)) ∈ lw_all := lw_g (lw_at lw_m2 169 rfl) rfl
theorem q412 : (Jvm.Cond.methodLink "MonthDesk" (68 : Nat) ({ cls := "YearMonth", name := "compareTo", desc := "(LYearMonth;)I" } : Jvm.MethodName)) ∈ lw_all := lw_g (lw_at lw_m2 170 rfl) rfl
theorem in_X1 : ∀ w ∈ wsX10, w ∈ lw_all := lw_in wsX10 [143] (by decide +kernel) (by decide +kernel)
/-! DefaultInterfaceTemporalAccessor -/
set_option maxRecDepth 100000
def RX2 : String := "DefaultInterfaceTemporalAccessor"
abbrev cX2_init : ByteArray := prog_7_method_1_code
def yX2_init : MethodName := ⟨RX2, "<init>", "()V"⟩
theorem dX2_init_0 : decode cX2_init 0 = .ok (.aload_n 0, 1) := by decide +kernel
theorem dX2_init_1 : decode cX2_init 1 = .ok (.invokespecial 1, 3) := by decide +kernel
theorem dX2_init_4 : decode cX2_init 4 = .ok (.return_, 1) := by decide +kernel
theorem q4 : (Jvm.Cond.initialized "DefaultInterfaceTemporalAccessor") ∈ lw_all := lw_g (lw_at lw_m1 2 rfl) rfl
theorem q132 : (Jvm.Cond.instanceMethod ({ cls := "DefaultInterfaceTemporalAccessor", name := "<init>", desc := "()V" } : Jvm.MethodName)) ∈ lw_all := lw_g (lw_at lw_m1 130 rfl) rfl
theorem q133 : (Jvm.Cond.code ({ cls := "DefaultInterfaceTemporalAccessor", name := "<init>", desc := "()V" } : Jvm.MethodName) prog_7_method_1_code (1 : Nat) (Option.none : Option Jvm.ClassFile.FieldType)) ∈ lw_all := lw_g (lw_at lw_m1 131 rfl) rfl
theorem q134 : (Jvm.Cond.methodLink "DefaultInterfaceTemporalAccessor" (1 : Nat) ({ cls := "java/lang/Object", name := "<init>", desc := "()V" } : Jvm.MethodName)) ∈ lw_all := lw_g (lw_at lw_m1 132 rfl) rfl
/-! YearMonth -/
set_option maxRecDepth 100000
def RX3 : String := "YearMonth"
def TX3 : u_T := fun k => match k with
  | 0 => ("YearMonth", "year", "I", true)
  | _ => ("YearMonth", "month", "I", true)
def tyX3 : Nat → FieldType := fun k => match k with
  | 0 => .int
  | _ => .int
abbrev wsX30 : List Cond := u_ws RX3 TX3 2
theorem nmX3 : ∀ a, a < 2 → ∀ b, b < 2 → a ≠ b → (TX3 a).2.1 ≠ (TX3 b).2.1 := by decide +kernel
theorem tyX3_ok : ∀ k, k < 2 → parseFieldDescriptor (TX3 k).2.2.1 = some (tyX3 k) := by decide +kernel
abbrev cX3_of : ByteArray := prog_19_method_1_code
def yX3_of : MethodName := ⟨RX3, "of", "(II)LYearMonth;"⟩
def dkwX3_of_1 : List UInt8 := [183, 0, 16, 176]
abbrev dktX3_of_1 : List UInt8 := dkwX3_of_1 ++ []
def dkwX3_of_0 : List UInt8 := [178, 0, 1, 26, 133, 182, 0, 7, 88, 178, 0, 11, 27, 133, 182, 0, 7, 88, 187, 0, 14, 89, 26, 27]
abbrev dktX3_of_0 : List UInt8 := dkwX3_of_0 ++ dktX3_of_1
theorem dksX3_of_0 : cX3_of.data.toList.drop 0 = dktX3_of_0 := by decide +kernel
theorem dksX3_of_1 : cX3_of.data.toList.drop 24 = dktX3_of_1 := dk_seg dksX3_of_0 24 rfl rfl
theorem dX3_of_0 : decode cX3_of 0 = .ok (.getstatic 1, 3) := dk_178 0 1 (dk_at dksX3_of_0 0 rfl rfl)
theorem dX3_of_3 : decode cX3_of 3 = .ok (.iload_n 0, 1) := dk_26 (dk_at dksX3_of_0 3 rfl rfl)
theorem dX3_of_4 : decode cX3_of 4 = .ok (.i2l, 1) := dk_133 (dk_at dksX3_of_0 4 rfl rfl)
theorem dX3_of_5 : decode cX3_of 5 = .ok (.invokevirtual 7, 3) := dk_182 0 7 (dk_at dksX3_of_0 5 rfl rfl)
theorem dX3_of_8 : decode cX3_of 8 = .ok (.pop2, 1) := dk_88 (dk_at dksX3_of_0 8 rfl rfl)
theorem dX3_of_9 : decode cX3_of 9 = .ok (.getstatic 11, 3) := dk_178 0 11 (dk_at dksX3_of_0 9 rfl rfl)
theorem dX3_of_12 : decode cX3_of 12 = .ok (.iload_n 1, 1) := dk_27 (dk_at dksX3_of_0 12 rfl rfl)
theorem dX3_of_13 : decode cX3_of 13 = .ok (.i2l, 1) := dk_133 (dk_at dksX3_of_0 13 rfl rfl)
theorem dX3_of_14 : decode cX3_of 14 = .ok (.invokevirtual 7, 3) := dk_182 0 7 (dk_at dksX3_of_0 14 rfl rfl)
theorem dX3_of_17 : decode cX3_of 17 = .ok (.pop2, 1) := dk_88 (dk_at dksX3_of_0 17 rfl rfl)
theorem dX3_of_18 : decode cX3_of 18 = .ok (.new 14, 3) := dk_187 0 14 (dk_at dksX3_of_0 18 rfl rfl)
theorem dX3_of_21 : decode cX3_of 21 = .ok (.dup, 1) := dk_89 (dk_at dksX3_of_0 21 rfl rfl)
theorem dX3_of_22 : decode cX3_of 22 = .ok (.iload_n 0, 1) := dk_26 (dk_at dksX3_of_0 22 rfl rfl)
theorem dX3_of_23 : decode cX3_of 23 = .ok (.iload_n 1, 1) := dk_27 (dk_at dksX3_of_0 23 rfl rfl)
theorem dX3_of_24 : decode cX3_of 24 = .ok (.invokespecial 16, 3) := dk_183 0 16 (dk_at dksX3_of_1 0 rfl rfl)
theorem dX3_of_27 : decode cX3_of 27 = .ok (.areturn, 1) := dk_176 (dk_at dksX3_of_1 3 rfl rfl)
abbrev cX3_init : ByteArray := prog_19_method_2_code
def yX3_init : MethodName := ⟨RX3, "<init>", "(II)V"⟩
def dkwX3_init_0 : List UInt8 := [42, 183, 0, 20, 42, 27, 181, 0, 25, 42, 28, 181, 0, 29, 177]
abbrev dktX3_init_0 : List UInt8 := dkwX3_init_0 ++ []
theorem dksX3_init_0 : cX3_init.data.toList.drop 0 = dktX3_init_0 := by decide +kernel
theorem dX3_init_0 : decode cX3_init 0 = .ok (.aload_n 0, 1) := dk_42 (dk_at dksX3_init_0 0 rfl rfl)
theorem dX3_init_1 : decode cX3_init 1 = .ok (.invokespecial 20, 3) := dk_183 0 20 (dk_at dksX3_init_0 1 rfl rfl)
theorem dX3_init_4 : decode cX3_init 4 = .ok (.aload_n 0, 1) := dk_42 (dk_at dksX3_init_0 4 rfl rfl)
theorem dX3_init_5 : decode cX3_init 5 = .ok (.iload_n 1, 1) := dk_27 (dk_at dksX3_init_0 5 rfl rfl)
theorem dX3_init_6 : decode cX3_init 6 = .ok (.putfield 25, 3) := dk_181 0 25 (dk_at dksX3_init_0 6 rfl rfl)
theorem dX3_init_9 : decode cX3_init 9 = .ok (.aload_n 0, 1) := dk_42 (dk_at dksX3_init_0 9 rfl rfl)
theorem dX3_init_10 : decode cX3_init 10 = .ok (.iload_n 2, 1) := dk_28 (dk_at dksX3_init_0 10 rfl rfl)
theorem dX3_init_11 : decode cX3_init 11 = .ok (.putfield 29, 3) := dk_181 0 29 (dk_at dksX3_init_0 11 rfl rfl)
theorem dX3_init_14 : decode cX3_init 14 = .ok (.return_, 1) := dk_177 (dk_at dksX3_init_0 14 rfl rfl)
abbrev cX3_plusMonths : ByteArray := prog_19_method_13_code
def yX3_plusMonths : MethodName := ⟨RX3, "plusMonths", "(J)LYearMonth;"⟩
def dkwX3_plusMonths_2 : List UInt8 := [22, 5, 16, 12, 184, 0, 75, 4, 96, 54, 8, 42, 21, 7, 21, 8, 182, 0, 59, 176]
abbrev dktX3_plusMonths_2 : List UInt8 := dkwX3_plusMonths_2 ++ []
def dkwX3_plusMonths_1 : List UInt8 := [97, 66, 33, 31, 97, 55, 5, 178, 0, 1, 22, 5, 20, 0, 67, 184, 0, 69, 182, 0, 63, 54, 7]
abbrev dktX3_plusMonths_1 : List UInt8 := dkwX3_plusMonths_1 ++ dktX3_plusMonths_2
def dkwX3_plusMonths_0 : List UInt8 := [31, 9, 148, 154, 0, 5, 42, 176, 42, 180, 0, 25, 133, 20, 0, 67, 105, 42, 180, 0, 29, 4, 100, 133]
abbrev dktX3_plusMonths_0 : List UInt8 := dkwX3_plusMonths_0 ++ dktX3_plusMonths_1
theorem dksX3_plusMonths_0 : cX3_plusMonths.data.toList.drop 0 = dktX3_plusMonths_0 := by decide +kernel
theorem dksX3_plusMonths_1 : cX3_plusMonths.data.toList.drop 24 = dktX3_plusMonths_1 := dk_seg dksX3_plusMonths_0 24 rfl rfl
theorem dksX3_plusMonths_2 : cX3_plusMonths.data.toList.drop 47 = dktX3_plusMonths_2 := dk_seg dksX3_plusMonths_1 23 rfl rfl
theorem dX3_plusMonths_0 : decode cX3_plusMonths 0 = .ok (.lload_n 1, 1) := dk_31 (dk_at dksX3_plusMonths_0 0 rfl rfl)
theorem dX3_plusMonths_1 : decode cX3_plusMonths 1 = .ok (.lconst 0, 1) := dk_9 (dk_at dksX3_plusMonths_0 1 rfl rfl)
theorem dX3_plusMonths_2 : decode cX3_plusMonths 2 = .ok (.lcmp, 1) := dk_148 (dk_at dksX3_plusMonths_0 2 rfl rfl)
theorem dX3_plusMonths_3 : decode cX3_plusMonths 3 = .ok (.ifCond .ne 5, 3) := dk_154 0 5 (dk_at dksX3_plusMonths_0 3 rfl rfl)
theorem dX3_plusMonths_6 : decode cX3_plusMonths 6 = .ok (.aload_n 0, 1) := dk_42 (dk_at dksX3_plusMonths_0 6 rfl rfl)
theorem dX3_plusMonths_7 : decode cX3_plusMonths 7 = .ok (.areturn, 1) := dk_176 (dk_at dksX3_plusMonths_0 7 rfl rfl)
theorem dX3_plusMonths_8 : decode cX3_plusMonths 8 = .ok (.aload_n 0, 1) := dk_42 (dk_at dksX3_plusMonths_0 8 rfl rfl)
theorem dX3_plusMonths_9 : decode cX3_plusMonths 9 = .ok (.getfield 25, 3) := dk_180 0 25 (dk_at dksX3_plusMonths_0 9 rfl rfl)
theorem dX3_plusMonths_12 : decode cX3_plusMonths 12 = .ok (.i2l, 1) := dk_133 (dk_at dksX3_plusMonths_0 12 rfl rfl)
theorem dX3_plusMonths_13 : decode cX3_plusMonths 13 = .ok (.ldc2_w 67, 3) := dk_20 0 67 (dk_at dksX3_plusMonths_0 13 rfl rfl)
theorem dX3_plusMonths_16 : decode cX3_plusMonths 16 = .ok (.lmul, 1) := dk_105 (dk_at dksX3_plusMonths_0 16 rfl rfl)
theorem dX3_plusMonths_17 : decode cX3_plusMonths 17 = .ok (.aload_n 0, 1) := dk_42 (dk_at dksX3_plusMonths_0 17 rfl rfl)
theorem dX3_plusMonths_18 : decode cX3_plusMonths 18 = .ok (.getfield 29, 3) := dk_180 0 29 (dk_at dksX3_plusMonths_0 18 rfl rfl)
theorem dX3_plusMonths_21 : decode cX3_plusMonths 21 = .ok (.iconst 1, 1) := dk_4 (dk_at dksX3_plusMonths_0 21 rfl rfl)
theorem dX3_plusMonths_22 : decode cX3_plusMonths 22 = .ok (.isub, 1) := dk_100 (dk_at dksX3_plusMonths_0 22 rfl rfl)
theorem dX3_plusMonths_23 : decode cX3_plusMonths 23 = .ok (.i2l, 1) := dk_133 (dk_at dksX3_plusMonths_0 23 rfl rfl)
theorem dX3_plusMonths_24 : decode cX3_plusMonths 24 = .ok (.ladd, 1) := dk_97 (dk_at dksX3_plusMonths_1 0 rfl rfl)
theorem dX3_plusMonths_25 : decode cX3_plusMonths 25 = .ok (.lstore_n 3, 1) := dk_66 (dk_at dksX3_plusMonths_1 1 rfl rfl)
theorem dX3_plusMonths_26 : decode cX3_plusMonths 26 = .ok (.lload_n 3, 1) := dk_33 (dk_at dksX3_plusMonths_1 2 rfl rfl)
theorem dX3_plusMonths_27 : decode cX3_plusMonths 27 = .ok (.lload_n 1, 1) := dk_31 (dk_at dksX3_plusMonths_1 3 rfl rfl)
theorem dX3_plusMonths_28 : decode cX3_plusMonths 28 = .ok (.ladd, 1) := dk_97 (dk_at dksX3_plusMonths_1 4 rfl rfl)
theorem dX3_plusMonths_29 : decode cX3_plusMonths 29 = .ok (.lstore 5, 2) := dk_55 5 (dk_at dksX3_plusMonths_1 5 rfl rfl)
theorem dX3_plusMonths_31 : decode cX3_plusMonths 31 = .ok (.getstatic 1, 3) := dk_178 0 1 (dk_at dksX3_plusMonths_1 7 rfl rfl)
theorem dX3_plusMonths_34 : decode cX3_plusMonths 34 = .ok (.lload 5, 2) := dk_22 5 (dk_at dksX3_plusMonths_1 10 rfl rfl)
theorem dX3_plusMonths_36 : decode cX3_plusMonths 36 = .ok (.ldc2_w 67, 3) := dk_20 0 67 (dk_at dksX3_plusMonths_1 12 rfl rfl)
theorem dX3_plusMonths_39 : decode cX3_plusMonths 39 = .ok (.invokestatic 69, 3) := dk_184 0 69 (dk_at dksX3_plusMonths_1 15 rfl rfl)
theorem dX3_plusMonths_42 : decode cX3_plusMonths 42 = .ok (.invokevirtual 63, 3) := dk_182 0 63 (dk_at dksX3_plusMonths_1 18 rfl rfl)
theorem dX3_plusMonths_45 : decode cX3_plusMonths 45 = .ok (.istore 7, 2) := dk_54 7 (dk_at dksX3_plusMonths_1 21 rfl rfl)
theorem dX3_plusMonths_47 : decode cX3_plusMonths 47 = .ok (.lload 5, 2) := dk_22 5 (dk_at dksX3_plusMonths_2 0 rfl rfl)
theorem dX3_plusMonths_49 : decode cX3_plusMonths 49 = .ok (.bipush 12, 2) := dk_16 12 (dk_at dksX3_plusMonths_2 2 rfl rfl)
theorem dX3_plusMonths_51 : decode cX3_plusMonths 51 = .ok (.invokestatic 75, 3) := dk_184 0 75 (dk_at dksX3_plusMonths_2 4 rfl rfl)
theorem dX3_plusMonths_54 : decode cX3_plusMonths 54 = .ok (.iconst 1, 1) := dk_4 (dk_at dksX3_plusMonths_2 7 rfl rfl)
theorem dX3_plusMonths_55 : decode cX3_plusMonths 55 = .ok (.iadd, 1) := dk_96 (dk_at dksX3_plusMonths_2 8 rfl rfl)
theorem dX3_plusMonths_56 : decode cX3_plusMonths 56 = .ok (.istore 8, 2) := dk_54 8 (dk_at dksX3_plusMonths_2 9 rfl rfl)
theorem dX3_plusMonths_58 : decode cX3_plusMonths 58 = .ok (.aload_n 0, 1) := dk_42 (dk_at dksX3_plusMonths_2 11 rfl rfl)
theorem dX3_plusMonths_59 : decode cX3_plusMonths 59 = .ok (.iload 7, 2) := dk_21 7 (dk_at dksX3_plusMonths_2 12 rfl rfl)
theorem dX3_plusMonths_61 : decode cX3_plusMonths 61 = .ok (.iload 8, 2) := dk_21 8 (dk_at dksX3_plusMonths_2 14 rfl rfl)
theorem dX3_plusMonths_63 : decode cX3_plusMonths 63 = .ok (.invokevirtual 59, 3) := dk_182 0 59 (dk_at dksX3_plusMonths_2 16 rfl rfl)
theorem dX3_plusMonths_66 : decode cX3_plusMonths 66 = .ok (.areturn, 1) := dk_176 (dk_at dksX3_plusMonths_2 19 rfl rfl)
abbrev cX3_with : ByteArray := prog_19_method_3_code
def yX3_with : MethodName := ⟨RX3, "with", "(II)LYearMonth;"⟩
def dkwX3_with_1 : List UInt8 := [183, 0, 16, 176]
abbrev dktX3_with_1 : List UInt8 := dkwX3_with_1 ++ []
def dkwX3_with_0 : List UInt8 := [42, 180, 0, 25, 27, 160, 0, 13, 42, 180, 0, 29, 28, 160, 0, 5, 42, 176, 187, 0, 14, 89, 27, 28]
abbrev dktX3_with_0 : List UInt8 := dkwX3_with_0 ++ dktX3_with_1
theorem dksX3_with_0 : cX3_with.data.toList.drop 0 = dktX3_with_0 := by decide +kernel
theorem dksX3_with_1 : cX3_with.data.toList.drop 24 = dktX3_with_1 := dk_seg dksX3_with_0 24 rfl rfl
theorem dX3_with_0 : decode cX3_with 0 = .ok (.aload_n 0, 1) := dk_42 (dk_at dksX3_with_0 0 rfl rfl)
theorem dX3_with_1 : decode cX3_with 1 = .ok (.getfield 25, 3) := dk_180 0 25 (dk_at dksX3_with_0 1 rfl rfl)
theorem dX3_with_4 : decode cX3_with 4 = .ok (.iload_n 1, 1) := dk_27 (dk_at dksX3_with_0 4 rfl rfl)
theorem dX3_with_5 : decode cX3_with 5 = .ok (.if_icmp .ne 13, 3) := dk_160 0 13 (dk_at dksX3_with_0 5 rfl rfl)
theorem dX3_with_8 : decode cX3_with 8 = .ok (.aload_n 0, 1) := dk_42 (dk_at dksX3_with_0 8 rfl rfl)
theorem dX3_with_9 : decode cX3_with 9 = .ok (.getfield 29, 3) := dk_180 0 29 (dk_at dksX3_with_0 9 rfl rfl)
theorem dX3_with_12 : decode cX3_with 12 = .ok (.iload_n 2, 1) := dk_28 (dk_at dksX3_with_0 12 rfl rfl)
theorem dX3_with_13 : decode cX3_with 13 = .ok (.if_icmp .ne 5, 3) := dk_160 0 5 (dk_at dksX3_with_0 13 rfl rfl)
theorem dX3_with_16 : decode cX3_with 16 = .ok (.aload_n 0, 1) := dk_42 (dk_at dksX3_with_0 16 rfl rfl)
theorem dX3_with_17 : decode cX3_with 17 = .ok (.areturn, 1) := dk_176 (dk_at dksX3_with_0 17 rfl rfl)
theorem dX3_with_18 : decode cX3_with 18 = .ok (.new 14, 3) := dk_187 0 14 (dk_at dksX3_with_0 18 rfl rfl)
theorem dX3_with_21 : decode cX3_with 21 = .ok (.dup, 1) := dk_89 (dk_at dksX3_with_0 21 rfl rfl)
theorem dX3_with_22 : decode cX3_with 22 = .ok (.iload_n 1, 1) := dk_27 (dk_at dksX3_with_0 22 rfl rfl)
theorem dX3_with_23 : decode cX3_with 23 = .ok (.iload_n 2, 1) := dk_28 (dk_at dksX3_with_0 23 rfl rfl)
theorem dX3_with_24 : decode cX3_with 24 = .ok (.invokespecial 16, 3) := dk_183 0 16 (dk_at dksX3_with_1 0 rfl rfl)
theorem dX3_with_27 : decode cX3_with 27 = .ok (.areturn, 1) := dk_176 (dk_at dksX3_with_1 3 rfl rfl)
abbrev cX3_getYear : ByteArray := prog_19_method_4_code
def yX3_getYear : MethodName := ⟨RX3, "getYear", "()I"⟩
theorem dX3_getYear_0 : decode cX3_getYear 0 = .ok (.aload_n 0, 1) := by decide +kernel
theorem dX3_getYear_1 : decode cX3_getYear 1 = .ok (.getfield 25, 3) := by decide +kernel
theorem dX3_getYear_4 : decode cX3_getYear 4 = .ok (.ireturn, 1) := by decide +kernel
abbrev cX3_plusYears : ByteArray := prog_19_method_12_code
def yX3_plusYears : MethodName := ⟨RX3, "plusYears", "(J)LYearMonth;"⟩
def dkwX3_plusYears_1 : List UInt8 := [42, 180, 0, 29, 182, 0, 59, 176]
abbrev dktX3_plusYears_1 : List UInt8 := dkwX3_plusYears_1 ++ []
def dkwX3_plusYears_0 : List UInt8 := [31, 9, 148, 154, 0, 5, 42, 176, 178, 0, 1, 42, 180, 0, 25, 133, 31, 97, 182, 0, 63, 62, 42, 29]
abbrev dktX3_plusYears_0 : List UInt8 := dkwX3_plusYears_0 ++ dktX3_plusYears_1
theorem dksX3_plusYears_0 : cX3_plusYears.data.toList.drop 0 = dktX3_plusYears_0 := by decide +kernel
theorem dksX3_plusYears_1 : cX3_plusYears.data.toList.drop 24 = dktX3_plusYears_1 := dk_seg dksX3_plusYears_0 24 rfl rfl
theorem dX3_plusYears_0 : decode cX3_plusYears 0 = .ok (.lload_n 1, 1) := dk_31 (dk_at dksX3_plusYears_0 0 rfl rfl)
theorem dX3_plusYears_1 : decode cX3_plusYears 1 = .ok (.lconst 0, 1) := dk_9 (dk_at dksX3_plusYears_0 1 rfl rfl)
theorem dX3_plusYears_2 : decode cX3_plusYears 2 = .ok (.lcmp, 1) := dk_148 (dk_at dksX3_plusYears_0 2 rfl rfl)
theorem dX3_plusYears_3 : decode cX3_plusYears 3 = .ok (.ifCond .ne 5, 3) := dk_154 0 5 (dk_at dksX3_plusYears_0 3 rfl rfl)
theorem dX3_plusYears_6 : decode cX3_plusYears 6 = .ok (.aload_n 0, 1) := dk_42 (dk_at dksX3_plusYears_0 6 rfl rfl)
theorem dX3_plusYears_7 : decode cX3_plusYears 7 = .ok (.areturn, 1) := dk_176 (dk_at dksX3_plusYears_0 7 rfl rfl)
theorem dX3_plusYears_8 : decode cX3_plusYears 8 = .ok (.getstatic 1, 3) := dk_178 0 1 (dk_at dksX3_plusYears_0 8 rfl rfl)
theorem dX3_plusYears_11 : decode cX3_plusYears 11 = .ok (.aload_n 0, 1) := dk_42 (dk_at dksX3_plusYears_0 11 rfl rfl)
theorem dX3_plusYears_12 : decode cX3_plusYears 12 = .ok (.getfield 25, 3) := dk_180 0 25 (dk_at dksX3_plusYears_0 12 rfl rfl)
theorem dX3_plusYears_15 : decode cX3_plusYears 15 = .ok (.i2l, 1) := dk_133 (dk_at dksX3_plusYears_0 15 rfl rfl)
theorem dX3_plusYears_16 : decode cX3_plusYears 16 = .ok (.lload_n 1, 1) := dk_31 (dk_at dksX3_plusYears_0 16 rfl rfl)
theorem dX3_plusYears_17 : decode cX3_plusYears 17 = .ok (.ladd, 1) := dk_97 (dk_at dksX3_plusYears_0 17 rfl rfl)
theorem dX3_plusYears_18 : decode cX3_plusYears 18 = .ok (.invokevirtual 63, 3) := dk_182 0 63 (dk_at dksX3_plusYears_0 18 rfl rfl)
theorem dX3_plusYears_21 : decode cX3_plusYears 21 = .ok (.istore_n 3, 1) := dk_62 (dk_at dksX3_plusYears_0 21 rfl rfl)
theorem dX3_plusYears_22 : decode cX3_plusYears 22 = .ok (.aload_n 0, 1) := dk_42 (dk_at dksX3_plusYears_0 22 rfl rfl)
theorem dX3_plusYears_23 : decode cX3_plusYears 23 = .ok (.iload_n 3, 1) := dk_29 (dk_at dksX3_plusYears_0 23 rfl rfl)
theorem dX3_plusYears_24 : decode cX3_plusYears 24 = .ok (.aload_n 0, 1) := dk_42 (dk_at dksX3_plusYears_1 0 rfl rfl)
theorem dX3_plusYears_25 : decode cX3_plusYears 25 = .ok (.getfield 29, 3) := dk_180 0 29 (dk_at dksX3_plusYears_1 1 rfl rfl)
theorem dX3_plusYears_28 : decode cX3_plusYears 28 = .ok (.invokevirtual 59, 3) := dk_182 0 59 (dk_at dksX3_plusYears_1 4 rfl rfl)
theorem dX3_plusYears_31 : decode cX3_plusYears 31 = .ok (.areturn, 1) := dk_176 (dk_at dksX3_plusYears_1 7 rfl rfl)
abbrev cX3_withMonth : ByteArray := prog_19_method_11_code
def yX3_withMonth : MethodName := ⟨RX3, "withMonth", "(I)LYearMonth;"⟩
def dkwX3_withMonth_0 : List UInt8 := [178, 0, 11, 27, 133, 182, 0, 7, 88, 42, 42, 180, 0, 25, 27, 182, 0, 59, 176]
abbrev dktX3_withMonth_0 : List UInt8 := dkwX3_withMonth_0 ++ []
theorem dksX3_withMonth_0 : cX3_withMonth.data.toList.drop 0 = dktX3_withMonth_0 := by decide +kernel
theorem dX3_withMonth_0 : decode cX3_withMonth 0 = .ok (.getstatic 11, 3) := dk_178 0 11 (dk_at dksX3_withMonth_0 0 rfl rfl)
theorem dX3_withMonth_3 : decode cX3_withMonth 3 = .ok (.iload_n 1, 1) := dk_27 (dk_at dksX3_withMonth_0 3 rfl rfl)
theorem dX3_withMonth_4 : decode cX3_withMonth 4 = .ok (.i2l, 1) := dk_133 (dk_at dksX3_withMonth_0 4 rfl rfl)
theorem dX3_withMonth_5 : decode cX3_withMonth 5 = .ok (.invokevirtual 7, 3) := dk_182 0 7 (dk_at dksX3_withMonth_0 5 rfl rfl)
theorem dX3_withMonth_8 : decode cX3_withMonth 8 = .ok (.pop2, 1) := dk_88 (dk_at dksX3_withMonth_0 8 rfl rfl)
theorem dX3_withMonth_9 : decode cX3_withMonth 9 = .ok (.aload_n 0, 1) := dk_42 (dk_at dksX3_withMonth_0 9 rfl rfl)
theorem dX3_withMonth_10 : decode cX3_withMonth 10 = .ok (.aload_n 0, 1) := dk_42 (dk_at dksX3_withMonth_0 10 rfl rfl)
theorem dX3_withMonth_11 : decode cX3_withMonth 11 = .ok (.getfield 25, 3) := dk_180 0 25 (dk_at dksX3_withMonth_0 11 rfl rfl)
theorem dX3_withMonth_14 : decode cX3_withMonth 14 = .ok (.iload_n 1, 1) := dk_27 (dk_at dksX3_withMonth_0 14 rfl rfl)
theorem dX3_withMonth_15 : decode cX3_withMonth 15 = .ok (.invokevirtual 59, 3) := dk_182 0 59 (dk_at dksX3_withMonth_0 15 rfl rfl)
theorem dX3_withMonth_18 : decode cX3_withMonth 18 = .ok (.areturn, 1) := dk_176 (dk_at dksX3_withMonth_0 18 rfl rfl)
abbrev cX3_withYear : ByteArray := prog_19_method_10_code
def yX3_withYear : MethodName := ⟨RX3, "withYear", "(I)LYearMonth;"⟩
def dkwX3_withYear_0 : List UInt8 := [178, 0, 1, 27, 133, 182, 0, 7, 88, 42, 27, 42, 180, 0, 29, 182, 0, 59, 176]
abbrev dktX3_withYear_0 : List UInt8 := dkwX3_withYear_0 ++ []
theorem dksX3_withYear_0 : cX3_withYear.data.toList.drop 0 = dktX3_withYear_0 := by decide +kernel
theorem dX3_withYear_0 : decode cX3_withYear 0 = .ok (.getstatic 1, 3) := dk_178 0 1 (dk_at dksX3_withYear_0 0 rfl rfl)
theorem dX3_withYear_3 : decode cX3_withYear 3 = .ok (.iload_n 1, 1) := dk_27 (dk_at dksX3_withYear_0 3 rfl rfl)
theorem dX3_withYear_4 : decode cX3_withYear 4 = .ok (.i2l, 1) := dk_133 (dk_at dksX3_withYear_0 4 rfl rfl)
theorem dX3_withYear_5 : decode cX3_withYear 5 = .ok (.invokevirtual 7, 3) := dk_182 0 7 (dk_at dksX3_withYear_0 5 rfl rfl)
theorem dX3_withYear_8 : decode cX3_withYear 8 = .ok (.pop2, 1) := dk_88 (dk_at dksX3_withYear_0 8 rfl rfl)
theorem dX3_withYear_9 : decode cX3_withYear 9 = .ok (.aload_n 0, 1) := dk_42 (dk_at dksX3_withYear_0 9 rfl rfl)
theorem dX3_withYear_10 : decode cX3_withYear 10 = .ok (.iload_n 1, 1) := dk_27 (dk_at dksX3_withYear_0 10 rfl rfl)
theorem dX3_withYear_11 : decode cX3_withYear 11 = .ok (.aload_n 0, 1) := dk_42 (dk_at dksX3_withYear_0 11 rfl rfl)
theorem dX3_withYear_12 : decode cX3_withYear 12 = .ok (.getfield 29, 3) := dk_180 0 29 (dk_at dksX3_withYear_0 12 rfl rfl)
theorem dX3_withYear_15 : decode cX3_withYear 15 = .ok (.invokevirtual 59, 3) := dk_182 0 59 (dk_at dksX3_withYear_0 15 rfl rfl)
theorem dX3_withYear_18 : decode cX3_withYear 18 = .ok (.areturn, 1) := dk_176 (dk_at dksX3_withYear_0 18 rfl rfl)
abbrev cX3_getMonthValue : ByteArray := prog_19_method_5_code
def yX3_getMonthValue : MethodName := ⟨RX3, "getMonthValue", "()I"⟩
theorem dX3_getMonthValue_0 : decode cX3_getMonthValue 0 = .ok (.aload_n 0, 1) := by decide +kernel
theorem dX3_getMonthValue_1 : decode cX3_getMonthValue 1 = .ok (.getfield 29, 3) := by decide +kernel
theorem dX3_getMonthValue_4 : decode cX3_getMonthValue 4 = .ok (.ireturn, 1) := by decide +kernel
abbrev cX3_lengthOfMonth : ByteArray := prog_19_method_8_code
def yX3_lengthOfMonth : MethodName := ⟨RX3, "lengthOfMonth", "()I"⟩
def dkwX3_lengthOfMonth_0 : List UInt8 := [42, 182, 0, 48, 42, 182, 0, 52, 182, 0, 55, 172]
abbrev dktX3_lengthOfMonth_0 : List UInt8 := dkwX3_lengthOfMonth_0 ++ []
theorem dksX3_lengthOfMonth_0 : cX3_lengthOfMonth.data.toList.drop 0 = dktX3_lengthOfMonth_0 := by decide +kernel
theorem dX3_lengthOfMonth_0 : decode cX3_lengthOfMonth 0 = .ok (.aload_n 0, 1) := dk_42 (dk_at dksX3_lengthOfMonth_0 0 rfl rfl)
theorem dX3_lengthOfMonth_1 : decode cX3_lengthOfMonth 1 = .ok (.invokevirtual 48, 3) := dk_182 0 48 (dk_at dksX3_lengthOfMonth_0 1 rfl rfl)
theorem dX3_lengthOfMonth_4 : decode cX3_lengthOfMonth 4 = .ok (.aload_n 0, 1) := dk_42 (dk_at dksX3_lengthOfMonth_0 4 rfl rfl)
theorem dX3_lengthOfMonth_5 : decode cX3_lengthOfMonth 5 = .ok (.invokevirtual 52, 3) := dk_182 0 52 (dk_at dksX3_lengthOfMonth_0 5 rfl rfl)
theorem dX3_lengthOfMonth_8 : decode cX3_lengthOfMonth 8 = .ok (.invokevirtual 55, 3) := dk_182 0 55 (dk_at dksX3_lengthOfMonth_0 8 rfl rfl)
theorem dX3_lengthOfMonth_11 : decode cX3_lengthOfMonth 11 = .ok (.ireturn, 1) := dk_172 (dk_at dksX3_lengthOfMonth_0 11 rfl rfl)
abbrev cX3_getMonth : ByteArray := prog_19_method_6_code
def yX3_getMonth : MethodName := ⟨RX3, "getMonth", "()LMonth;"⟩
def dkwX3_getMonth_0 : List UInt8 := [42, 180, 0, 29, 184, 0, 32, 176]
abbrev dktX3_getMonth_0 : List UInt8 := dkwX3_getMonth_0 ++ []
theorem dksX3_getMonth_0 : cX3_getMonth.data.toList.drop 0 = dktX3_getMonth_0 := by decide +kernel
theorem dX3_getMonth_0 : decode cX3_getMonth 0 = .ok (.aload_n 0, 1) := dk_42 (dk_at dksX3_getMonth_0 0 rfl rfl)
theorem dX3_getMonth_1 : decode cX3_getMonth 1 = .ok (.getfield 29, 3) := dk_180 0 29 (dk_at dksX3_getMonth_0 1 rfl rfl)
theorem dX3_getMonth_4 : decode cX3_getMonth 4 = .ok (.invokestatic 32, 3) := dk_184 0 32 (dk_at dksX3_getMonth_0 4 rfl rfl)
theorem dX3_getMonth_7 : decode cX3_getMonth 7 = .ok (.areturn, 1) := dk_176 (dk_at dksX3_getMonth_0 7 rfl rfl)
abbrev cX3_isLeapYear : ByteArray := prog_19_method_7_code
def yX3_isLeapYear : MethodName := ⟨RX3, "isLeapYear", "()Z"⟩
def dkwX3_isLeapYear_0 : List UInt8 := [178, 0, 38, 42, 180, 0, 25, 133, 182, 0, 44, 172]
abbrev dktX3_isLeapYear_0 : List UInt8 := dkwX3_isLeapYear_0 ++ []
theorem dksX3_isLeapYear_0 : cX3_isLeapYear.data.toList.drop 0 = dktX3_isLeapYear_0 := by decide +kernel
theorem dX3_isLeapYear_0 : decode cX3_isLeapYear 0 = .ok (.getstatic 38, 3) := dk_178 0 38 (dk_at dksX3_isLeapYear_0 0 rfl rfl)
theorem dX3_isLeapYear_3 : decode cX3_isLeapYear 3 = .ok (.aload_n 0, 1) := dk_42 (dk_at dksX3_isLeapYear_0 3 rfl rfl)
theorem dX3_isLeapYear_4 : decode cX3_isLeapYear 4 = .ok (.getfield 25, 3) := dk_180 0 25 (dk_at dksX3_isLeapYear_0 4 rfl rfl)
theorem dX3_isLeapYear_7 : decode cX3_isLeapYear 7 = .ok (.i2l, 1) := dk_133 (dk_at dksX3_isLeapYear_0 7 rfl rfl)
theorem dX3_isLeapYear_8 : decode cX3_isLeapYear 8 = .ok (.invokevirtual 44, 3) := dk_182 0 44 (dk_at dksX3_isLeapYear_0 8 rfl rfl)
theorem dX3_isLeapYear_11 : decode cX3_isLeapYear 11 = .ok (.ireturn, 1) := dk_172 (dk_at dksX3_isLeapYear_0 11 rfl rfl)
abbrev cX3_lengthOfYear : ByteArray := prog_19_method_9_code
def yX3_lengthOfYear : MethodName := ⟨RX3, "lengthOfYear", "()I"⟩
def dkwX3_lengthOfYear_0 : List UInt8 := [42, 182, 0, 52, 153, 0, 9, 17, 1, 110, 167, 0, 6, 17, 1, 109, 172]
abbrev dktX3_lengthOfYear_0 : List UInt8 := dkwX3_lengthOfYear_0 ++ []
theorem dksX3_lengthOfYear_0 : cX3_lengthOfYear.data.toList.drop 0 = dktX3_lengthOfYear_0 := by decide +kernel
theorem dX3_lengthOfYear_0 : decode cX3_lengthOfYear 0 = .ok (.aload_n 0, 1) := dk_42 (dk_at dksX3_lengthOfYear_0 0 rfl rfl)
theorem dX3_lengthOfYear_1 : decode cX3_lengthOfYear 1 = .ok (.invokevirtual 52, 3) := dk_182 0 52 (dk_at dksX3_lengthOfYear_0 1 rfl rfl)
theorem dX3_lengthOfYear_4 : decode cX3_lengthOfYear 4 = .ok (.ifCond .eq 9, 3) := dk_153 0 9 (dk_at dksX3_lengthOfYear_0 4 rfl rfl)
theorem dX3_lengthOfYear_7 : decode cX3_lengthOfYear 7 = .ok (.sipush 366, 3) := dk_17 1 110 (dk_at dksX3_lengthOfYear_0 7 rfl rfl)
theorem dX3_lengthOfYear_10 : decode cX3_lengthOfYear 10 = .ok (.goto 6, 3) := dk_167 0 6 (dk_at dksX3_lengthOfYear_0 10 rfl rfl)
theorem dX3_lengthOfYear_13 : decode cX3_lengthOfYear 13 = .ok (.sipush 365, 3) := dk_17 1 109 (dk_at dksX3_lengthOfYear_0 13 rfl rfl)
theorem dX3_lengthOfYear_16 : decode cX3_lengthOfYear 16 = .ok (.ireturn, 1) := dk_172 (dk_at dksX3_lengthOfYear_0 16 rfl rfl)
abbrev cX3_atDay : ByteArray := prog_19_method_14_code
def yX3_atDay : MethodName := ⟨RX3, "atDay", "(I)LLocalDate;"⟩
def dkwX3_atDay_0 : List UInt8 := [42, 180, 0, 25, 42, 180, 0, 29, 27, 184, 0, 79, 176]
abbrev dktX3_atDay_0 : List UInt8 := dkwX3_atDay_0 ++ []
theorem dksX3_atDay_0 : cX3_atDay.data.toList.drop 0 = dktX3_atDay_0 := by decide +kernel
theorem dX3_atDay_0 : decode cX3_atDay 0 = .ok (.aload_n 0, 1) := dk_42 (dk_at dksX3_atDay_0 0 rfl rfl)
theorem dX3_atDay_1 : decode cX3_atDay 1 = .ok (.getfield 25, 3) := dk_180 0 25 (dk_at dksX3_atDay_0 1 rfl rfl)
theorem dX3_atDay_4 : decode cX3_atDay 4 = .ok (.aload_n 0, 1) := dk_42 (dk_at dksX3_atDay_0 4 rfl rfl)
theorem dX3_atDay_5 : decode cX3_atDay 5 = .ok (.getfield 29, 3) := dk_180 0 29 (dk_at dksX3_atDay_0 5 rfl rfl)
theorem dX3_atDay_8 : decode cX3_atDay 8 = .ok (.iload_n 1, 1) := dk_27 (dk_at dksX3_atDay_0 8 rfl rfl)
theorem dX3_atDay_9 : decode cX3_atDay 9 = .ok (.invokestatic 79, 3) := dk_184 0 79 (dk_at dksX3_atDay_0 9 rfl rfl)
theorem dX3_atDay_12 : decode cX3_atDay 12 = .ok (.areturn, 1) := dk_176 (dk_at dksX3_atDay_0 12 rfl rfl)
abbrev cX3_atEndOfMonth : ByteArray := prog_19_method_15_code
def yX3_atEndOfMonth : MethodName := ⟨RX3, "atEndOfMonth", "()LLocalDate;"⟩
def dkwX3_atEndOfMonth_0 : List UInt8 := [42, 180, 0, 25, 42, 180, 0, 29, 42, 182, 0, 84, 184, 0, 79, 176]
abbrev dktX3_atEndOfMonth_0 : List UInt8 := dkwX3_atEndOfMonth_0 ++ []
theorem dksX3_atEndOfMonth_0 : cX3_atEndOfMonth.data.toList.drop 0 = dktX3_atEndOfMonth_0 := by decide +kernel
theorem dX3_atEndOfMonth_0 : decode cX3_atEndOfMonth 0 = .ok (.aload_n 0, 1) := dk_42 (dk_at dksX3_atEndOfMonth_0 0 rfl rfl)
theorem dX3_atEndOfMonth_1 : decode cX3_atEndOfMonth 1 = .ok (.getfield 25, 3) := dk_180 0 25 (dk_at dksX3_atEndOfMonth_0 1 rfl rfl)
theorem dX3_atEndOfMonth_4 : decode cX3_atEndOfMonth 4 = .ok (.aload_n 0, 1) := dk_42 (dk_at dksX3_atEndOfMonth_0 4 rfl rfl)
theorem dX3_atEndOfMonth_5 : decode cX3_atEndOfMonth 5 = .ok (.getfield 29, 3) := dk_180 0 29 (dk_at dksX3_atEndOfMonth_0 5 rfl rfl)
theorem dX3_atEndOfMonth_8 : decode cX3_atEndOfMonth 8 = .ok (.aload_n 0, 1) := dk_42 (dk_at dksX3_atEndOfMonth_0 8 rfl rfl)
theorem dX3_atEndOfMonth_9 : decode cX3_atEndOfMonth 9 = .ok (.invokevirtual 84, 3) := dk_182 0 84 (dk_at dksX3_atEndOfMonth_0 9 rfl rfl)
theorem dX3_atEndOfMonth_12 : decode cX3_atEndOfMonth 12 = .ok (.invokestatic 79, 3) := dk_184 0 79 (dk_at dksX3_atEndOfMonth_0 12 rfl rfl)
theorem dX3_atEndOfMonth_15 : decode cX3_atEndOfMonth 15 = .ok (.areturn, 1) := dk_176 (dk_at dksX3_atEndOfMonth_0 15 rfl rfl)
abbrev cX3_compareTo : ByteArray := prog_19_method_16_code
def yX3_compareTo : MethodName := ⟨RX3, "compareTo", "(LYearMonth;)I"⟩
def dkwX3_compareTo_1 : List UInt8 := [28, 172]
abbrev dktX3_compareTo_1 : List UInt8 := dkwX3_compareTo_1 ++ []
def dkwX3_compareTo_0 : List UInt8 := [42, 180, 0, 25, 43, 180, 0, 25, 100, 61, 28, 154, 0, 13, 42, 180, 0, 29, 43, 180, 0, 29, 100, 61]
abbrev dktX3_compareTo_0 : List UInt8 := dkwX3_compareTo_0 ++ dktX3_compareTo_1
theorem dksX3_compareTo_0 : cX3_compareTo.data.toList.drop 0 = dktX3_compareTo_0 := by decide +kernel
theorem dksX3_compareTo_1 : cX3_compareTo.data.toList.drop 24 = dktX3_compareTo_1 := dk_seg dksX3_compareTo_0 24 rfl rfl
theorem dX3_compareTo_0 : decode cX3_compareTo 0 = .ok (.aload_n 0, 1) := dk_42 (dk_at dksX3_compareTo_0 0 rfl rfl)
theorem dX3_compareTo_1 : decode cX3_compareTo 1 = .ok (.getfield 25, 3) := dk_180 0 25 (dk_at dksX3_compareTo_0 1 rfl rfl)
theorem dX3_compareTo_4 : decode cX3_compareTo 4 = .ok (.aload_n 1, 1) := dk_43 (dk_at dksX3_compareTo_0 4 rfl rfl)
theorem dX3_compareTo_5 : decode cX3_compareTo 5 = .ok (.getfield 25, 3) := dk_180 0 25 (dk_at dksX3_compareTo_0 5 rfl rfl)
theorem dX3_compareTo_8 : decode cX3_compareTo 8 = .ok (.isub, 1) := dk_100 (dk_at dksX3_compareTo_0 8 rfl rfl)
theorem dX3_compareTo_9 : decode cX3_compareTo 9 = .ok (.istore_n 2, 1) := dk_61 (dk_at dksX3_compareTo_0 9 rfl rfl)
theorem dX3_compareTo_10 : decode cX3_compareTo 10 = .ok (.iload_n 2, 1) := dk_28 (dk_at dksX3_compareTo_0 10 rfl rfl)
theorem dX3_compareTo_11 : decode cX3_compareTo 11 = .ok (.ifCond .ne 13, 3) := dk_154 0 13 (dk_at dksX3_compareTo_0 11 rfl rfl)
theorem dX3_compareTo_14 : decode cX3_compareTo 14 = .ok (.aload_n 0, 1) := dk_42 (dk_at dksX3_compareTo_0 14 rfl rfl)
theorem dX3_compareTo_15 : decode cX3_compareTo 15 = .ok (.getfield 29, 3) := dk_180 0 29 (dk_at dksX3_compareTo_0 15 rfl rfl)
theorem dX3_compareTo_18 : decode cX3_compareTo 18 = .ok (.aload_n 1, 1) := dk_43 (dk_at dksX3_compareTo_0 18 rfl rfl)
theorem dX3_compareTo_19 : decode cX3_compareTo 19 = .ok (.getfield 29, 3) := dk_180 0 29 (dk_at dksX3_compareTo_0 19 rfl rfl)
theorem dX3_compareTo_22 : decode cX3_compareTo 22 = .ok (.isub, 1) := dk_100 (dk_at dksX3_compareTo_0 22 rfl rfl)
theorem dX3_compareTo_23 : decode cX3_compareTo 23 = .ok (.istore_n 2, 1) := dk_61 (dk_at dksX3_compareTo_0 23 rfl rfl)
theorem dX3_compareTo_24 : decode cX3_compareTo 24 = .ok (.iload_n 2, 1) := dk_28 (dk_at dksX3_compareTo_1 0 rfl rfl)
theorem dX3_compareTo_25 : decode cX3_compareTo 25 = .ok (.ireturn, 1) := dk_172 (dk_at dksX3_compareTo_1 1 rfl rfl)
theorem q5 : (Jvm.Cond.initialized "YearMonth") ∈ lw_all := lw_g (lw_at lw_m1 3 rfl) rfl
theorem q30 : (Jvm.Cond.static ({ cls := "YearMonth", name := "of", desc := "(II)LYearMonth;" } : Jvm.MethodName)) ∈ lw_all := lw_g (lw_at lw_m1 28 rfl) rfl
theorem q31 : (Jvm.Cond.code ({ cls := "YearMonth", name := "of", desc := "(II)LYearMonth;" } : Jvm.MethodName) prog_19_method_1_code (2 : Nat) (Option.some (Jvm.ClassFile.FieldType.object "YearMonth"))) ∈ lw_all := lw_g (lw_at lw_m1 29 rfl) rfl
theorem q32 : (Jvm.Cond.fieldLink "YearMonth" (1 : Nat) "ChronoField" "YEAR" "LChronoField;") ∈ lw_all := lw_g (lw_at lw_m1 30 rfl) rfl
theorem q34 : (Jvm.Cond.methodLink "YearMonth" (7 : Nat) ({ cls := "ChronoField", name := "checkValidValue", desc := "(J)J" } : Jvm.MethodName)) ∈ lw_all := lw_g (lw_at lw_m1 32 rfl) rfl
theorem q124 : (Jvm.Cond.fieldLink "YearMonth" (11 : Nat) "ChronoField" "MONTH_OF_YEAR" "LChronoField;") ∈ lw_all := lw_g (lw_at lw_m1 122 rfl) rfl
theorem q126 : (Jvm.Cond.classLink "YearMonth" (14 : Nat) "YearMonth") ∈ lw_all := lw_g (lw_at lw_m1 124 rfl) rfl
theorem q127 : (Jvm.Cond.instantiable "YearMonth" (2 : Nat)) ∈ lw_all := lw_g (lw_at lw_m1 125 rfl) rfl
theorem q128 : (Jvm.Cond.methodLink "YearMonth" (16 : Nat) ({ cls := "YearMonth", name := "<init>", desc := "(II)V" } : Jvm.MethodName)) ∈ lw_all := lw_g (lw_at lw_m1 126 rfl) rfl
theorem q129 : (Jvm.Cond.instanceMethod ({ cls := "YearMonth", name := "<init>", desc := "(II)V" } : Jvm.MethodName)) ∈ lw_all := lw_g (lw_at lw_m1 127 rfl) rfl
theorem q130 : (Jvm.Cond.code ({ cls := "YearMonth", name := "<init>", desc := "(II)V" } : Jvm.MethodName) prog_19_method_2_code (3 : Nat) (Option.none : Option Jvm.ClassFile.FieldType)) ∈ lw_all := lw_g (lw_at lw_m1 128 rfl) rfl
theorem q131 : (Jvm.Cond.methodLink "YearMonth" (20 : Nat) ({ cls := "DefaultInterfaceTemporalAccessor", name := "<init>", desc := "()V" } : Jvm.MethodName)) ∈ lw_all := lw_g (lw_at lw_m1 129 rfl) rfl
theorem q135 : (Jvm.Cond.fieldLink "YearMonth" (25 : Nat) "YearMonth" "year" "I") ∈ lw_all := lw_g (lw_at lw_m1 133 rfl) rfl
theorem q136 : (Jvm.Cond.fieldLink "YearMonth" (29 : Nat) "YearMonth" "month" "I") ∈ lw_all := lw_g (lw_at lw_m1 134 rfl) rfl
theorem q137 : (Jvm.Cond.laysFinal "YearMonth" "YearMonth" "year" "I") ∈ lw_all := lw_g (lw_at lw_m1 135 rfl) rfl
theorem q138 : (Jvm.Cond.soleField "YearMonth" "year") ∈ lw_all := lw_g (lw_at lw_m1 136 rfl) rfl
theorem q139 : (Jvm.Cond.laysFinal "YearMonth" "YearMonth" "month" "I") ∈ lw_all := lw_g (lw_at lw_m1 137 rfl) rfl
theorem q140 : (Jvm.Cond.soleField "YearMonth" "month") ∈ lw_all := lw_g (lw_at lw_m1 138 rfl) rfl
theorem q141 : (Jvm.Cond.superclass "YearMonth" "DefaultInterfaceTemporalAccessor") ∈ lw_all := lw_g (lw_at lw_m1 139 rfl) rfl
theorem q157 : (Jvm.Cond.instanceMethod ({ cls := "YearMonth", name := "plusMonths", desc := "(J)LYearMonth;" } : Jvm.MethodName)) ∈ lw_all := lw_g (lw_at lw_m1 155 rfl) rfl
theorem q158 : (Jvm.Cond.selects "YearMonth" ({ cls := "YearMonth", name := "plusMonths", desc := "(J)LYearMonth;" } : Jvm.MethodName) ({ cls := "YearMonth", name := "plusMonths", desc := "(J)LYearMonth;" } : Jvm.MethodName)) ∈ lw_all := lw_g (lw_at lw_m1 156 rfl) rfl
theorem q159 : (Jvm.Cond.code ({ cls := "YearMonth", name := "plusMonths", desc := "(J)LYearMonth;" } : Jvm.MethodName) prog_19_method_13_code (9 : Nat) (Option.some (Jvm.ClassFile.FieldType.object "YearMonth"))) ∈ lw_all := lw_g (lw_at lw_m1 157 rfl) rfl
theorem q160 : (Jvm.Cond.constantLong "YearMonth" (67 : Nat) (12 : Int64)) ∈ lw_all := lw_g (lw_at lw_m1 158 rfl) rfl
theorem q161 : (Jvm.Cond.methodLink "YearMonth" (69 : Nat) ({ cls := "Jdk8Methods", name := "floorDiv", desc := "(JJ)J" } : Jvm.MethodName)) ∈ lw_all := lw_g (lw_at lw_m1 159 rfl) rfl
theorem q164 : (Jvm.Cond.methodLink "YearMonth" (63 : Nat) ({ cls := "ChronoField", name := "checkValidIntValue", desc := "(J)I" } : Jvm.MethodName)) ∈ lw_all := lw_g (lw_at lw_m1 162 rfl) rfl
theorem q182 : (Jvm.Cond.methodLink "YearMonth" (75 : Nat) ({ cls := "Jdk8Methods", name := "floorMod", desc := "(JI)I" } : Jvm.MethodName)) ∈ lw_all := lw_g (lw_at lw_m1 180 rfl) rfl
theorem q185 : (Jvm.Cond.methodLink "YearMonth" (59 : Nat) ({ cls := "YearMonth", name := "with", desc := "(II)LYearMonth;" } : Jvm.MethodName)) ∈ lw_all := lw_g (lw_at lw_m1 183 rfl) rfl
theorem q186 : (Jvm.Cond.privateMethod ({ cls := "YearMonth", name := "with", desc := "(II)LYearMonth;" } : Jvm.MethodName)) ∈ lw_tbl := lw_at lw_m1 184 rfl
theorem q187 : (Jvm.Cond.instanceMethod ({ cls := "YearMonth", name := "with", desc := "(II)LYearMonth;" } : Jvm.MethodName)) ∈ lw_all := lw_g (lw_at lw_m1 185 rfl) rfl
theorem q188 : (Jvm.Cond.code ({ cls := "YearMonth", name := "with", desc := "(II)LYearMonth;" } : Jvm.MethodName) prog_19_method_3_code (3 : Nat) (Option.some (Jvm.ClassFile.FieldType.object "YearMonth"))) ∈ lw_all := lw_g (lw_at lw_m1 186 rfl) rfl
theorem q194 : (Jvm.Cond.instanceMethod ({ cls := "YearMonth", name := "getYear", desc := "()I" } : Jvm.MethodName)) ∈ lw_all := lw_g (lw_at lw_m1 192 rfl) rfl
theorem q195 : (Jvm.Cond.selects "YearMonth" ({ cls := "YearMonth", name := "getYear", desc := "()I" } : Jvm.MethodName) ({ cls := "YearMonth", name := "getYear", desc := "()I" } : Jvm.MethodName)) ∈ lw_all := lw_g (lw_at lw_m1 193 rfl) rfl
theorem q196 : (Jvm.Cond.code ({ cls := "YearMonth", name := "getYear", desc := "()I" } : Jvm.MethodName) prog_19_method_4_code (1 : Nat) (Option.some Jvm.ClassFile.FieldType.int)) ∈ lw_all := lw_g (lw_at lw_m1 194 rfl) rfl
theorem q200 : (Jvm.Cond.instanceMethod ({ cls := "YearMonth", name := "plusYears", desc := "(J)LYearMonth;" } : Jvm.MethodName)) ∈ lw_all := lw_g (lw_at lw_m1 198 rfl) rfl
theorem q201 : (Jvm.Cond.selects "YearMonth" ({ cls := "YearMonth", name := "plusYears", desc := "(J)LYearMonth;" } : Jvm.MethodName) ({ cls := "YearMonth", name := "plusYears", desc := "(J)LYearMonth;" } : Jvm.MethodName)) ∈ lw_all := lw_g (lw_at lw_m1 199 rfl) rfl
theorem q202 : (Jvm.Cond.code ({ cls := "YearMonth", name := "plusYears", desc := "(J)LYearMonth;" } : Jvm.MethodName) prog_19_method_12_code (4 : Nat) (Option.some (Jvm.ClassFile.FieldType.object "YearMonth"))) ∈ lw_all := lw_g (lw_at lw_m1 200 rfl) rfl
theorem q208 : (Jvm.Cond.instanceMethod ({ cls := "YearMonth", name := "withMonth", desc := "(I)LYearMonth;" } : Jvm.MethodName)) ∈ lw_all := lw_g (lw_at lw_m1 206 rfl) rfl
theorem q209 : (Jvm.Cond.selects "YearMonth" ({ cls := "YearMonth", name := "withMonth", desc := "(I)LYearMonth;" } : Jvm.MethodName) ({ cls := "YearMonth", name := "withMonth", desc := "(I)LYearMonth;" } : Jvm.MethodName)) ∈ lw_all := lw_g (lw_at lw_m1 207 rfl) rfl
theorem q210 : (Jvm.Cond.code ({ cls := "YearMonth", name := "withMonth", desc := "(I)LYearMonth;" } : Jvm.MethodName) prog_19_method_11_code (2 : Nat) (Option.some (Jvm.ClassFile.FieldType.object "YearMonth"))) ∈ lw_all := lw_g (lw_at lw_m1 208 rfl) rfl
theorem q216 : (Jvm.Cond.instanceMethod ({ cls := "YearMonth", name := "withYear", desc := "(I)LYearMonth;" } : Jvm.MethodName)) ∈ lw_all := lw_g (lw_at lw_m1 214 rfl) rfl
theorem q217 : (Jvm.Cond.selects "YearMonth" ({ cls := "YearMonth", name := "withYear", desc := "(I)LYearMonth;" } : Jvm.MethodName) ({ cls := "YearMonth", name := "withYear", desc := "(I)LYearMonth;" } : Jvm.MethodName)) ∈ lw_all := lw_g (lw_at lw_m1 215 rfl) rfl
theorem q218 : (Jvm.Cond.code ({ cls := "YearMonth", name := "withYear", desc := "(I)LYearMonth;" } : Jvm.MethodName) prog_19_method_10_code (2 : Nat) (Option.some (Jvm.ClassFile.FieldType.object "YearMonth"))) ∈ lw_all := lw_g (lw_at lw_m1 216 rfl) rfl
theorem q265 : (Jvm.Cond.instanceMethod ({ cls := "YearMonth", name := "getMonthValue", desc := "()I" } : Jvm.MethodName)) ∈ lw_all := lw_g (lw_at lw_m2 23 rfl) rfl
theorem q266 : (Jvm.Cond.selects "YearMonth" ({ cls := "YearMonth", name := "getMonthValue", desc := "()I" } : Jvm.MethodName) ({ cls := "YearMonth", name := "getMonthValue", desc := "()I" } : Jvm.MethodName)) ∈ lw_all := lw_g (lw_at lw_m2 24 rfl) rfl
theorem q267 : (Jvm.Cond.code ({ cls := "YearMonth", name := "getMonthValue", desc := "()I" } : Jvm.MethodName) prog_19_method_5_code (1 : Nat) (Option.some Jvm.ClassFile.FieldType.int)) ∈ lw_all := lw_g (lw_at lw_m2 25 rfl) rfl
theorem q273 : (Jvm.Cond.instanceMethod ({ cls := "YearMonth", name := "lengthOfMonth", desc := "()I" } : Jvm.MethodName)) ∈ lw_all := lw_g (lw_at lw_m2 31 rfl) rfl
theorem q274 : (Jvm.Cond.selects "YearMonth" ({ cls := "YearMonth", name := "lengthOfMonth", desc := "()I" } : Jvm.MethodName) ({ cls := "YearMonth", name := "lengthOfMonth", desc := "()I" } : Jvm.MethodName)) ∈ lw_all := lw_g (lw_at lw_m2 32 rfl) rfl
theorem q275 : (Jvm.Cond.code ({ cls := "YearMonth", name := "lengthOfMonth", desc := "()I" } : Jvm.MethodName) prog_19_method_8_code (1 : Nat) (Option.some Jvm.ClassFile.FieldType.int)) ∈ lw_all := lw_g (lw_at lw_m2 33 rfl) rfl
theorem q276 : (Jvm.Cond.methodLink "YearMonth" (48 : Nat) ({ cls := "YearMonth", name := "getMonth", desc := "()LMonth;" } : Jvm.MethodName)) ∈ lw_all := lw_g (lw_at lw_m2 34 rfl) rfl
theorem q277 : (Jvm.Cond.instanceMethod ({ cls := "YearMonth", name := "getMonth", desc := "()LMonth;" } : Jvm.MethodName)) ∈ lw_all := lw_g (lw_at lw_m2 35 rfl) rfl
theorem q278 : (Jvm.Cond.selects "YearMonth" ({ cls := "YearMonth", name := "getMonth", desc := "()LMonth;" } : Jvm.MethodName) ({ cls := "YearMonth", name := "getMonth", desc := "()LMonth;" } : Jvm.MethodName)) ∈ lw_all := lw_g (lw_at lw_m2 36 rfl) rfl
theorem q279 : (Jvm.Cond.code ({ cls := "YearMonth", name := "getMonth", desc := "()LMonth;" } : Jvm.MethodName) prog_19_method_6_code (1 : Nat) (Option.some (Jvm.ClassFile.FieldType.object "Month"))) ∈ lw_all := lw_g (lw_at lw_m2 37 rfl) rfl
theorem q280 : (Jvm.Cond.methodLink "YearMonth" (32 : Nat) ({ cls := "Month", name := "of", desc := "(I)LMonth;" } : Jvm.MethodName)) ∈ lw_all := lw_g (lw_at lw_m2 38 rfl) rfl
theorem q288 : (Jvm.Cond.methodLink "YearMonth" (52 : Nat) ({ cls := "YearMonth", name := "isLeapYear", desc := "()Z" } : Jvm.MethodName)) ∈ lw_all := lw_g (lw_at lw_m2 46 rfl) rfl
theorem q289 : (Jvm.Cond.instanceMethod ({ cls := "YearMonth", name := "isLeapYear", desc := "()Z" } : Jvm.MethodName)) ∈ lw_all := lw_g (lw_at lw_m2 47 rfl) rfl
theorem q290 : (Jvm.Cond.selects "YearMonth" ({ cls := "YearMonth", name := "isLeapYear", desc := "()Z" } : Jvm.MethodName) ({ cls := "YearMonth", name := "isLeapYear", desc := "()Z" } : Jvm.MethodName)) ∈ lw_all := lw_g (lw_at lw_m2 48 rfl) rfl
theorem q291 : (Jvm.Cond.code ({ cls := "YearMonth", name := "isLeapYear", desc := "()Z" } : Jvm.MethodName) prog_19_method_7_code (1 : Nat) (Option.some Jvm.ClassFile.FieldType.boolean)) ∈ lw_all := lw_g (lw_at lw_m2 49 rfl) rfl
theorem q292 : (Jvm.Cond.fieldLink "YearMonth" (38 : Nat) "IsoChronology" "INSTANCE" "LIsoChronology;") ∈ lw_all := lw_g (lw_at lw_m2 50 rfl) rfl
theorem q294 : (Jvm.Cond.methodLink "YearMonth" (44 : Nat) ({ cls := "IsoChronology", name := "isLeapYear", desc := "(J)Z" } : Jvm.MethodName)) ∈ lw_all := lw_g (lw_at lw_m2 52 rfl) rfl
theorem q301 : (Jvm.Cond.methodLink "YearMonth" (55 : Nat) ({ cls := "Month", name := "length", desc := "(Z)I" } : Jvm.MethodName)) ∈ lw_all := lw_g (lw_at lw_m2 59 rfl) rfl
theorem q321 : (Jvm.Cond.instanceMethod ({ cls := "YearMonth", name := "lengthOfYear", desc := "()I" } : Jvm.MethodName)) ∈ lw_all := lw_g (lw_at lw_m2 79 rfl) rfl
theorem q322 : (Jvm.Cond.selects "YearMonth" ({ cls := "YearMonth", name := "lengthOfYear", desc := "()I" } : Jvm.MethodName) ({ cls := "YearMonth", name := "lengthOfYear", desc := "()I" } : Jvm.MethodName)) ∈ lw_all := lw_g (lw_at lw_m2 80 rfl) rfl
theorem q323 : (Jvm.Cond.code ({ cls := "YearMonth", name := "lengthOfYear", desc := "()I" } : Jvm.MethodName) prog_19_method_9_code (1 : Nat) (Option.some Jvm.ClassFile.FieldType.int)) ∈ lw_all := lw_g (lw_at lw_m2 81 rfl) rfl
theorem q329 : (Jvm.Cond.instanceMethod ({ cls := "YearMonth", name := "atDay", desc := "(I)LLocalDate;" } : Jvm.MethodName)) ∈ lw_all := lw_g (lw_at lw_m2 87 rfl) rfl
theorem q330 : (Jvm.Cond.selects "YearMonth" ({ cls := "YearMonth", name := "atDay", desc := "(I)LLocalDate;" } : Jvm.MethodName) ({ cls := "YearMonth", name := "atDay", desc := "(I)LLocalDate;" } : Jvm.MethodName)) ∈ lw_all := lw_g (lw_at lw_m2 88 rfl) rfl
theorem q331 : (Jvm.Cond.code ({ cls := "YearMonth", name := "atDay", desc := "(I)LLocalDate;" } : Jvm.MethodName) prog_19_method_14_code (2 : Nat) (Option.some (Jvm.ClassFile.FieldType.object "LocalDate"))) ∈ lw_all := lw_g (lw_at lw_m2 89 rfl) rfl
theorem q332 : (Jvm.Cond.methodLink "YearMonth" (79 : Nat) ({ cls := "LocalDate", name := "of", desc := "(III)LLocalDate;" } : Jvm.MethodName)) ∈ lw_all := lw_g (lw_at lw_m2 90 rfl) rfl
theorem q404 : (Jvm.Cond.instanceMethod ({ cls := "YearMonth", name := "atEndOfMonth", desc := "()LLocalDate;" } : Jvm.MethodName)) ∈ lw_all := lw_g (lw_at lw_m2 162 rfl) rfl
theorem q405 : (Jvm.Cond.selects "YearMonth" ({ cls := "YearMonth", name := "atEndOfMonth", desc := "()LLocalDate;" } : Jvm.MethodName) ({ cls := "YearMonth", name := "atEndOfMonth", desc := "()LLocalDate;" } : Jvm.MethodName)) ∈ lw_all := lw_g (lw_at lw_m2 163 rfl) rfl
theorem q406 : (Jvm.Cond.code ({ cls := "YearMonth", name := "atEndOfMonth", desc := "()LLocalDate;" } : Jvm.MethodName) prog_19_method_15_code (1 : Nat) (Option.some (Jvm.ClassFile.FieldType.object "LocalDate"))) ∈ lw_all := lw_g (lw_at lw_m2 164 rfl) rfl
theorem q407 : (Jvm.Cond.methodLink "YearMonth" (84 : Nat) ({ cls := "YearMonth", name := "lengthOfMonth", desc := "()I" } : Jvm.MethodName)) ∈ lw_all := lw_g (lw_at lw_m2 165 rfl) rfl
theorem q413 : (Jvm.Cond.instanceMethod ({ cls := "YearMonth", name := "compareTo", desc := "(LYearMonth;)I" } : Jvm.MethodName)) ∈ lw_all := lw_g (lw_at lw_m2 171 rfl) rfl
theorem q414 : (Jvm.Cond.selects "YearMonth" ({ cls := "YearMonth", name := "compareTo", desc := "(LYearMonth;)I" } : Jvm.MethodName) ({ cls := "YearMonth", name := "compareTo", desc := "(LYearMonth;)I" } : Jvm.MethodName)) ∈ lw_all := lw_g (lw_at lw_m2 172 rfl) rfl
theorem q415 : (Jvm.Cond.code ({ cls := "YearMonth", name := "compareTo", desc := "(LYearMonth;)I" } : Jvm.MethodName) prog_19_method_16_code (3 : Nat) (Option.some Jvm.ClassFile.FieldType.int)) ∈ lw_all := lw_g (lw_at lw_m2 173 rfl) rfl
theorem in_X3 : ∀ w ∈ wsX30, w ∈ lw_all := lw_in wsX30 [137, 139] (by decide +kernel) (by decide +kernel)
/-! java/lang/Enum -/
set_option maxRecDepth 100000
def RJ0 : String := "java/lang/Enum"
abbrev cJ0_ordinal : ByteArray := prog_23_method_2_code
def yJ0_ordinal : MethodName := ⟨RJ0, "ordinal", "()I"⟩
theorem dJ0_ordinal_0 : decode cJ0_ordinal 0 = .ok (.aload_n 0, 1) := by decide +kernel
theorem dJ0_ordinal_1 : decode cJ0_ordinal 1 = .ok (.getfield 7, 3) := by decide +kernel
theorem dJ0_ordinal_4 : decode cJ0_ordinal 4 = .ok (.ireturn, 1) := by decide +kernel
theorem q6 : (Jvm.Cond.initialized "java/lang/Enum") ∈ lw_all := lw_g (lw_at lw_m1 4 rfl) rfl
theorem q307 : (Jvm.Cond.declares ({ cls := "java/lang/Enum", name := "ordinal", desc := "()I" } : Jvm.MethodName)) ∈ lw_tbl := lw_at lw_m2 65 rfl
theorem q309 : (Jvm.Cond.instanceMethod ({ cls := "java/lang/Enum", name := "ordinal", desc := "()I" } : Jvm.MethodName)) ∈ lw_all := lw_g (lw_at lw_m2 67 rfl) rfl
theorem q310 : (Jvm.Cond.code ({ cls := "java/lang/Enum", name := "ordinal", desc := "()I" } : Jvm.MethodName) prog_23_method_2_code (1 : Nat) (Option.some Jvm.ClassFile.FieldType.int)) ∈ lw_all := lw_g (lw_at lw_m2 68 rfl) rfl
theorem q427 : (Jvm.Cond.fieldLink "java/lang/Enum" (7 : Nat) "java/lang/Enum" "ordinal" "I") ∈ lw_all := lw_g (lw_at lw_m2 185 rfl) rfl
/-! ChronoField -/
set_option maxRecDepth 100000
def RX4 : String := "ChronoField"
abbrev cX4_checkValidValue : ByteArray := prog_1_method_5_code
def yX4_checkValidValue : MethodName := ⟨RX4, "checkValidValue", "(J)J"⟩
def dkwX4_checkValidValue_0 : List UInt8 := [42, 182, 0, 128, 31, 42, 182, 0, 131, 173]
abbrev dktX4_checkValidValue_0 : List UInt8 := dkwX4_checkValidValue_0 ++ []
theorem dksX4_checkValidValue_0 : cX4_checkValidValue.data.toList.drop 0 = dktX4_checkValidValue_0 := by decide +kernel
theorem dX4_checkValidValue_0 : decode cX4_checkValidValue 0 = .ok (.aload_n 0, 1) := dk_42 (dk_at dksX4_checkValidValue_0 0 rfl rfl)
theorem dX4_checkValidValue_1 : decode cX4_checkValidValue 1 = .ok (.invokevirtual 128, 3) := dk_182 0 128 (dk_at dksX4_checkValidValue_0 1 rfl rfl)
theorem dX4_checkValidValue_4 : decode cX4_checkValidValue 4 = .ok (.lload_n 1, 1) := dk_31 (dk_at dksX4_checkValidValue_0 4 rfl rfl)
theorem dX4_checkValidValue_5 : decode cX4_checkValidValue 5 = .ok (.aload_n 0, 1) := dk_42 (dk_at dksX4_checkValidValue_0 5 rfl rfl)
theorem dX4_checkValidValue_6 : decode cX4_checkValidValue 6 = .ok (.invokevirtual 131, 3) := dk_182 0 131 (dk_at dksX4_checkValidValue_0 6 rfl rfl)
theorem dX4_checkValidValue_9 : decode cX4_checkValidValue 9 = .ok (.lreturn, 1) := dk_173 (dk_at dksX4_checkValidValue_0 9 rfl rfl)
abbrev cX4_range : ByteArray := prog_1_method_4_code
def yX4_range : MethodName := ⟨RX4, "range", "()LValueRange;"⟩
theorem dX4_range_0 : decode cX4_range 0 = .ok (.aload_n 0, 1) := by decide +kernel
theorem dX4_range_1 : decode cX4_range 1 = .ok (.getfield 124, 3) := by decide +kernel
theorem dX4_range_4 : decode cX4_range 4 = .ok (.areturn, 1) := by decide +kernel
abbrev cX4_checkValidIntValue : ByteArray := prog_1_method_6_code
def yX4_checkValidIntValue : MethodName := ⟨RX4, "checkValidIntValue", "(J)I"⟩
def dkwX4_checkValidIntValue_0 : List UInt8 := [42, 182, 0, 128, 31, 42, 182, 0, 137, 172]
abbrev dktX4_checkValidIntValue_0 : List UInt8 := dkwX4_checkValidIntValue_0 ++ []
theorem dksX4_checkValidIntValue_0 : cX4_checkValidIntValue.data.toList.drop 0 = dktX4_checkValidIntValue_0 := by decide +kernel
theorem dX4_checkValidIntValue_0 : decode cX4_checkValidIntValue 0 = .ok (.aload_n 0, 1) := dk_42 (dk_at dksX4_checkValidIntValue_0 0 rfl rfl)
theorem dX4_checkValidIntValue_1 : decode cX4_checkValidIntValue 1 = .ok (.invokevirtual 128, 3) := dk_182 0 128 (dk_at dksX4_checkValidIntValue_0 1 rfl rfl)
theorem dX4_checkValidIntValue_4 : decode cX4_checkValidIntValue 4 = .ok (.lload_n 1, 1) := dk_31 (dk_at dksX4_checkValidIntValue_0 4 rfl rfl)
theorem dX4_checkValidIntValue_5 : decode cX4_checkValidIntValue 5 = .ok (.aload_n 0, 1) := dk_42 (dk_at dksX4_checkValidIntValue_0 5 rfl rfl)
theorem dX4_checkValidIntValue_6 : decode cX4_checkValidIntValue 6 = .ok (.invokevirtual 137, 3) := dk_182 0 137 (dk_at dksX4_checkValidIntValue_0 6 rfl rfl)
theorem dX4_checkValidIntValue_9 : decode cX4_checkValidIntValue 9 = .ok (.ireturn, 1) := dk_172 (dk_at dksX4_checkValidIntValue_0 9 rfl rfl)
theorem q7 : (Jvm.Cond.initialized "ChronoField") ∈ lw_all := lw_g (lw_at lw_m1 5 rfl) rfl
theorem q33 : (Jvm.Cond.laysStatic "ChronoField" "YEAR" "LChronoField;") ∈ lw_tbl := lw_at lw_m1 31 rfl
theorem q35 : (Jvm.Cond.instanceMethod ({ cls := "ChronoField", name := "checkValidValue", desc := "(J)J" } : Jvm.MethodName)) ∈ lw_all := lw_g (lw_at lw_m1 33 rfl) rfl
theorem q36 : (Jvm.Cond.selects "ChronoField" ({ cls := "ChronoField", name := "checkValidValue", desc := "(J)J" } : Jvm.MethodName) ({ cls := "ChronoField", name := "checkValidValue", desc := "(J)J" } : Jvm.MethodName)) ∈ lw_all := lw_g (lw_at lw_m1 34 rfl) rfl
theorem q37 : (Jvm.Cond.code ({ cls := "ChronoField", name := "checkValidValue", desc := "(J)J" } : Jvm.MethodName) prog_1_method_5_code (3 : Nat) (Option.some Jvm.ClassFile.FieldType.long)) ∈ lw_all := lw_g (lw_at lw_m1 35 rfl) rfl
theorem q38 : (Jvm.Cond.methodLink "ChronoField" (128 : Nat) ({ cls := "ChronoField", name := "range", desc := "()LValueRange;" } : Jvm.MethodName)) ∈ lw_all := lw_g (lw_at lw_m1 36 rfl) rfl
theorem q39 : (Jvm.Cond.instanceMethod ({ cls := "ChronoField", name := "range", desc := "()LValueRange;" } : Jvm.MethodName)) ∈ lw_all := lw_g (lw_at lw_m1 37 rfl) rfl
theorem q40 : (Jvm.Cond.selects "ChronoField" ({ cls := "ChronoField", name := "range", desc := "()LValueRange;" } : Jvm.MethodName) ({ cls := "ChronoField", name := "range", desc := "()LValueRange;" } : Jvm.MethodName)) ∈ lw_all := lw_g (lw_at lw_m1 38 rfl) rfl
theorem q41 : (Jvm.Cond.code ({ cls := "ChronoField", name := "range", desc := "()LValueRange;" } : Jvm.MethodName) prog_1_method_4_code (1 : Nat) (Option.some (Jvm.ClassFile.FieldType.object "ValueRange"))) ∈ lw_all := lw_g (lw_at lw_m1 39 rfl) rfl
theorem q42 : (Jvm.Cond.methodLink "ChronoField" (131 : Nat) ({ cls := "ValueRange", name := "checkValidValue", desc := "(JLTemporalField;)J" } : Jvm.MethodName)) ∈ lw_all := lw_g (lw_at lw_m1 40 rfl) rfl
theorem q125 : (Jvm.Cond.laysStatic "ChronoField" "MONTH_OF_YEAR" "LChronoField;") ∈ lw_tbl := lw_at lw_m1 123 rfl
theorem q165 : (Jvm.Cond.instanceMethod ({ cls := "ChronoField", name := "checkValidIntValue", desc := "(J)I" } : Jvm.MethodName)) ∈ lw_all := lw_g (lw_at lw_m1 163 rfl) rfl
theorem q166 : (Jvm.Cond.selects "ChronoField" ({ cls := "ChronoField", name := "checkValidIntValue", desc := "(J)I" } : Jvm.MethodName) ({ cls := "ChronoField", name := "checkValidIntValue", desc := "(J)I" } : Jvm.MethodName)) ∈ lw_all := lw_g (lw_at lw_m1 164 rfl) rfl
theorem q167 : (Jvm.Cond.code ({ cls := "ChronoField", name := "checkValidIntValue", desc := "(J)I" } : Jvm.MethodName) prog_1_method_6_code (3 : Nat) (Option.some Jvm.ClassFile.FieldType.int)) ∈ lw_all := lw_g (lw_at lw_m1 165 rfl) rfl
theorem q168 : (Jvm.Cond.methodLink "ChronoField" (137 : Nat) ({ cls := "ValueRange", name := "checkValidIntValue", desc := "(JLTemporalField;)I" } : Jvm.MethodName)) ∈ lw_all := lw_g (lw_at lw_m1 166 rfl) rfl
theorem q339 : (Jvm.Cond.laysStatic "ChronoField" "DAY_OF_MONTH" "LChronoField;") ∈ lw_tbl := lw_at lw_m2 97 rfl
theorem q424 : (Jvm.Cond.fieldLink "ChronoField" (124 : Nat) "ChronoField" "range" "LValueRange;") ∈ lw_all := lw_g (lw_at lw_m2 182 rfl) rfl
/-! Month -/
set_option maxRecDepth 100000
def RX6 : String := "Month"
abbrev cX6_of : ByteArray := prog_12_method_4_code
def yX6_of : MethodName := ⟨RX6, "of", "(I)LMonth;"⟩
def dkwX6_of_1 : List UInt8 := [26, 4, 100, 50, 176]
abbrev dktX6_of_1 : List UInt8 := dkwX6_of_1 ++ []
def dkwX6_of_0 : List UInt8 := [26, 4, 161, 0, 9, 26, 16, 12, 164, 0, 13, 187, 0, 59, 89, 18, 61, 183, 0, 63, 191, 178, 0, 66]
abbrev dktX6_of_0 : List UInt8 := dkwX6_of_0 ++ dktX6_of_1
theorem dksX6_of_0 : cX6_of.data.toList.drop 0 = dktX6_of_0 := by decide +kernel
theorem dksX6_of_1 : cX6_of.data.toList.drop 24 = dktX6_of_1 := dk_seg dksX6_of_0 24 rfl rfl
theorem dX6_of_0 : decode cX6_of 0 = .ok (.iload_n 0, 1) := dk_26 (dk_at dksX6_of_0 0 rfl rfl)
theorem dX6_of_1 : decode cX6_of 1 = .ok (.iconst 1, 1) := dk_4 (dk_at dksX6_of_0 1 rfl rfl)
theorem dX6_of_2 : decode cX6_of 2 = .ok (.if_icmp .lt 9, 3) := dk_161 0 9 (dk_at dksX6_of_0 2 rfl rfl)
theorem dX6_of_5 : decode cX6_of 5 = .ok (.iload_n 0, 1) := dk_26 (dk_at dksX6_of_0 5 rfl rfl)
theorem dX6_of_6 : decode cX6_of 6 = .ok (.bipush 12, 2) := dk_16 12 (dk_at dksX6_of_0 6 rfl rfl)
theorem dX6_of_8 : decode cX6_of 8 = .ok (.if_icmp .le 13, 3) := dk_164 0 13 (dk_at dksX6_of_0 8 rfl rfl)
theorem dX6_of_11 : decode cX6_of 11 = .ok (.new 59, 3) := dk_187 0 59 (dk_at dksX6_of_0 11 rfl rfl)
theorem dX6_of_14 : decode cX6_of 14 = .ok (.dup, 1) := dk_89 (dk_at dksX6_of_0 14 rfl rfl)
theorem dX6_of_15 : decode cX6_of 15 = .ok (.ldc 61, 2) := dk_18 61 (dk_at dksX6_of_0 15 rfl rfl)
theorem dX6_of_17 : decode cX6_of 17 = .ok (.invokespecial 63, 3) := dk_183 0 63 (dk_at dksX6_of_0 17 rfl rfl)
theorem dX6_of_20 : decode cX6_of 20 = .ok (.athrow, 1) := dk_191 (dk_at dksX6_of_0 20 rfl rfl)
theorem dX6_of_21 : decode cX6_of 21 = .ok (.getstatic 66, 3) := dk_178 0 66 (dk_at dksX6_of_0 21 rfl rfl)
theorem dX6_of_24 : decode cX6_of 24 = .ok (.iload_n 0, 1) := dk_26 (dk_at dksX6_of_1 0 rfl rfl)
theorem dX6_of_25 : decode cX6_of 25 = .ok (.iconst 1, 1) := dk_4 (dk_at dksX6_of_1 1 rfl rfl)
theorem dX6_of_26 : decode cX6_of 26 = .ok (.isub, 1) := dk_100 (dk_at dksX6_of_1 2 rfl rfl)
theorem dX6_of_27 : decode cX6_of 27 = .ok (.aaload, 1) := dk_50 (dk_at dksX6_of_1 3 rfl rfl)
theorem dX6_of_28 : decode cX6_of 28 = .ok (.areturn, 1) := dk_176 (dk_at dksX6_of_1 4 rfl rfl)
abbrev cX6_length : ByteArray := prog_12_method_6_code
def yX6_length : MethodName := ⟨RX6, "length", "(Z)I"⟩
def dkwX6_length_2 : List UInt8 := [27, 153, 0, 8, 16, 29, 167, 0, 5, 16, 28, 172, 16, 30, 172, 16, 31, 172]
abbrev dktX6_length_2 : List UInt8 := dkwX6_length_2 ++ []
def dkwX6_length_1 : List UInt8 := [170, 0, 0, 0, 0, 0, 0, 71, 0, 0, 0, 1, 0, 0, 0, 10, 0, 0, 0, 56, 0, 0, 0, 71, 0, 0, 0, 68, 0, 0, 0, 71, 0, 0, 0, 68, 0, 0, 0, 71, 0, 0, 0, 71, 0, 0, 0, 68, 0, 0, 0, 71, 0, 0, 0, 68]
abbrev dktX6_length_1 : List UInt8 := dkwX6_length_1 ++ dktX6_length_2
def dkwX6_length_0 : List UInt8 := [42, 182, 0, 69]
abbrev dktX6_length_0 : List UInt8 := dkwX6_length_0 ++ dktX6_length_1
theorem dksX6_length_0 : cX6_length.data.toList.drop 0 = dktX6_length_0 := by decide +kernel
theorem dksX6_length_1 : cX6_length.data.toList.drop 4 = dktX6_length_1 := dk_seg dksX6_length_0 4 rfl rfl
theorem dksX6_length_2 : cX6_length.data.toList.drop 60 = dktX6_length_2 := dk_seg dksX6_length_1 56 rfl rfl
theorem dX6_length_0 : decode cX6_length 0 = .ok (.aload_n 0, 1) := dk_42 (dk_at dksX6_length_0 0 rfl rfl)
theorem dX6_length_1 : decode cX6_length 1 = .ok (.invokevirtual 69, 3) := dk_182 0 69 (dk_at dksX6_length_0 1 rfl rfl)
theorem dX6_length_4 : decode cX6_length 4 = .ok (.tableswitch 71 1 10 #[56, 71, 68, 71, 68, 71, 71, 68, 71, 68], 56) := by decide +kernel
theorem dX6_length_60 : decode cX6_length 60 = .ok (.iload_n 1, 1) := dk_27 (dk_at dksX6_length_2 0 rfl rfl)
theorem dX6_length_61 : decode cX6_length 61 = .ok (.ifCond .eq 8, 3) := dk_153 0 8 (dk_at dksX6_length_2 1 rfl rfl)
theorem dX6_length_64 : decode cX6_length 64 = .ok (.bipush 29, 2) := dk_16 29 (dk_at dksX6_length_2 4 rfl rfl)
theorem dX6_length_66 : decode cX6_length 66 = .ok (.goto 5, 3) := dk_167 0 5 (dk_at dksX6_length_2 6 rfl rfl)
theorem dX6_length_69 : decode cX6_length 69 = .ok (.bipush 28, 2) := dk_16 28 (dk_at dksX6_length_2 9 rfl rfl)
theorem dX6_length_71 : decode cX6_length 71 = .ok (.ireturn, 1) := dk_172 (dk_at dksX6_length_2 11 rfl rfl)
theorem dX6_length_72 : decode cX6_length 72 = .ok (.bipush 30, 2) := dk_16 30 (dk_at dksX6_length_2 12 rfl rfl)
theorem dX6_length_74 : decode cX6_length 74 = .ok (.ireturn, 1) := dk_172 (dk_at dksX6_length_2 14 rfl rfl)
theorem dX6_length_75 : decode cX6_length 75 = .ok (.bipush 31, 2) := dk_16 31 (dk_at dksX6_length_2 15 rfl rfl)
theorem dX6_length_77 : decode cX6_length 77 = .ok (.ireturn, 1) := dk_172 (dk_at dksX6_length_2 17 rfl rfl)
abbrev cX6_getValue : ByteArray := prog_12_method_5_code
def yX6_getValue : MethodName := ⟨RX6, "getValue", "()I"⟩
def dkwX6_getValue_0 : List UInt8 := [42, 182, 0, 69, 4, 96, 172]
abbrev dktX6_getValue_0 : List UInt8 := dkwX6_getValue_0 ++ []
theorem dksX6_getValue_0 : cX6_getValue.data.toList.drop 0 = dktX6_getValue_0 := by decide +kernel
theorem dX6_getValue_0 : decode cX6_getValue 0 = .ok (.aload_n 0, 1) := dk_42 (dk_at dksX6_getValue_0 0 rfl rfl)
theorem dX6_getValue_1 : decode cX6_getValue 1 = .ok (.invokevirtual 69, 3) := dk_182 0 69 (dk_at dksX6_getValue_0 1 rfl rfl)
theorem dX6_getValue_4 : decode cX6_getValue 4 = .ok (.iconst 1, 1) := dk_4 (dk_at dksX6_getValue_0 4 rfl rfl)
theorem dX6_getValue_5 : decode cX6_getValue 5 = .ok (.iadd, 1) := dk_96 (dk_at dksX6_getValue_0 5 rfl rfl)
theorem dX6_getValue_6 : decode cX6_getValue 6 = .ok (.ireturn, 1) := dk_172 (dk_at dksX6_getValue_0 6 rfl rfl)
theorem q12 : (Jvm.Cond.initialized "Month") ∈ lw_all := lw_g (lw_at lw_m1 10 rfl) rfl
theorem q281 : (Jvm.Cond.static ({ cls := "Month", name := "of", desc := "(I)LMonth;" } : Jvm.MethodName)) ∈ lw_all := lw_g (lw_at lw_m2 39 rfl) rfl
theorem q282 : (Jvm.Cond.code ({ cls := "Month", name := "of", desc := "(I)LMonth;" } : Jvm.MethodName) prog_12_method_4_code (1 : Nat) (Option.some (Jvm.ClassFile.FieldType.object "Month"))) ∈ lw_all := lw_g (lw_at lw_m2 40 rfl) rfl
theorem q283 : (Jvm.Cond.classLink "Month" (59 : Nat) "DateTimeException") ∈ lw_all := lw_g (lw_at lw_m2 41 rfl) rfl
theorem q284 : (Jvm.Cond.stringRef "Month" (61 : Nat) "left out") ∈ lw_tbl := lw_at lw_m2 42 rfl
theorem q285 : (Jvm.Cond.methodLink "Month" (63 : Nat) ({ cls := "DateTimeException", name := "<init>", desc := "(Ljava/lang/String;)V" } : Jvm.MethodName)) ∈ lw_all := lw_g (lw_at lw_m2 43 rfl) rfl
theorem q286 : (Jvm.Cond.fieldLink "Month" (66 : Nat) "Month" "ENUMS" "[LMonth;") ∈ lw_all := lw_g (lw_at lw_m2 44 rfl) rfl
theorem q287 : (Jvm.Cond.laysStatic "Month" "ENUMS" "[LMonth;") ∈ lw_tbl := lw_at lw_m2 45 rfl
theorem q302 : (Jvm.Cond.instanceMethod ({ cls := "Month", name := "length", desc := "(Z)I" } : Jvm.MethodName)) ∈ lw_all := lw_g (lw_at lw_m2 60 rfl) rfl
theorem q303 : (Jvm.Cond.selects "Month" ({ cls := "Month", name := "length", desc := "(Z)I" } : Jvm.MethodName) ({ cls := "Month", name := "length", desc := "(Z)I" } : Jvm.MethodName)) ∈ lw_all := lw_g (lw_at lw_m2 61 rfl) rfl
theorem q304 : (Jvm.Cond.code ({ cls := "Month", name := "length", desc := "(Z)I" } : Jvm.MethodName) prog_12_method_6_code (2 : Nat) (Option.some Jvm.ClassFile.FieldType.int)) ∈ lw_all := lw_g (lw_at lw_m2 62 rfl) rfl
theorem q305 : (Jvm.Cond.methodLink "Month" (69 : Nat) ({ cls := "Month", name := "ordinal", desc := "()I" } : Jvm.MethodName)) ∈ lw_all := lw_g (lw_at lw_m2 63 rfl) rfl
theorem q306 : (Jvm.Cond.sameMethod "Month" "java/lang/Enum" "ordinal" "()I") ∈ lw_all := lw_g (lw_at lw_m2 64 rfl) rfl
theorem q308 : (Jvm.Cond.selects "Month" ({ cls := "Month", name := "ordinal", desc := "()I" } : Jvm.MethodName) ({ cls := "java/lang/Enum", name := "ordinal", desc := "()I" } : Jvm.MethodName)) ∈ lw_all := lw_g (lw_at lw_m2 66 rfl) rfl
theorem q353 : (Jvm.Cond.instanceMethod ({ cls := "Month", name := "getValue", desc := "()I" } : Jvm.MethodName)) ∈ lw_all := lw_g (lw_at lw_m2 111 rfl) rfl
theorem q354 : (Jvm.Cond.selects "Month" ({ cls := "Month", name := "getValue", desc := "()I" } : Jvm.MethodName) ({ cls := "Month", name := "getValue", desc := "()I" } : Jvm.MethodName)) ∈ lw_all := lw_g (lw_at lw_m2 112 rfl) rfl
theorem q355 : (Jvm.Cond.code ({ cls := "Month", name := "getValue", desc := "()I" } : Jvm.MethodName) prog_12_method_5_code (1 : Nat) (Option.some Jvm.ClassFile.FieldType.int)) ∈ lw_all := lw_g (lw_at lw_m2 113 rfl) rfl
theorem q428 : (Jvm.Cond.laysStatic "Month" "JANUARY" "LMonth;") ∈ lw_tbl := lw_at lw_m2 186 rfl
theorem q429 : (Jvm.Cond.laysStatic "Month" "FEBRUARY" "LMonth;") ∈ lw_tbl := lw_at lw_m2 187 rfl
theorem q430 : (Jvm.Cond.laysStatic "Month" "MARCH" "LMonth;") ∈ lw_tbl := lw_at lw_m2 188 rfl
theorem q431 : (Jvm.Cond.laysStatic "Month" "APRIL" "LMonth;") ∈ lw_tbl := lw_at lw_m2 189 rfl
theorem q432 : (Jvm.Cond.laysStatic "Month" "MAY" "LMonth;") ∈ lw_tbl := lw_at lw_m2 190 rfl
theorem q433 : (Jvm.Cond.laysStatic "Month" "JUNE" "LMonth;") ∈ lw_tbl := lw_at lw_m2 191 rfl
theorem q434 : (Jvm.Cond.laysStatic "Month" "JULY" "LMonth;") ∈ lw_tbl := lw_at lw_m2 192 rfl
theorem q435 : (Jvm.Cond.laysStatic "Month" "AUGUST" "LMonth;") ∈ lw_tbl := lw_at lw_m2 193 rfl
theorem q436 : (Jvm.Cond.laysStatic "Month" "SEPTEMBER" "LMonth;") ∈ lw_tbl := lw_at lw_m2 194 rfl
theorem q437 : (Jvm.Cond.laysStatic "Month" "OCTOBER" "LMonth;") ∈ lw_tbl := lw_at lw_m2 195 rfl
theorem q438 : (Jvm.Cond.laysStatic "Month" "NOVEMBER" "LMonth;") ∈ lw_tbl := lw_at lw_m2 196 rfl
theorem q439 : (Jvm.Cond.laysStatic "Month" "DECEMBER" "LMonth;") ∈ lw_tbl := lw_at lw_m2 197 rfl
/-! IsoChronology -/
set_option maxRecDepth 100000
def RX7 : String := "IsoChronology"
abbrev cX7_isLeapYear : ByteArray := prog_9_method_2_code
def yX7_isLeapYear : MethodName := ⟨RX7, "isLeapYear", "(J)Z"⟩
def dkwX7_isLeapYear_1 : List UInt8 := [113, 9, 148, 154, 0, 7, 4, 167, 0, 4, 3, 172]
abbrev dktX7_isLeapYear_1 : List UInt8 := dkwX7_isLeapYear_1 ++ []
def dkwX7_isLeapYear_0 : List UInt8 := [31, 20, 0, 7, 127, 9, 148, 154, 0, 27, 31, 20, 0, 9, 113, 9, 148, 154, 0, 13, 31, 20, 0, 11]
abbrev dktX7_isLeapYear_0 : List UInt8 := dkwX7_isLeapYear_0 ++ dktX7_isLeapYear_1
theorem dksX7_isLeapYear_0 : cX7_isLeapYear.data.toList.drop 0 = dktX7_isLeapYear_0 := by decide +kernel
theorem dksX7_isLeapYear_1 : cX7_isLeapYear.data.toList.drop 24 = dktX7_isLeapYear_1 := dk_seg dksX7_isLeapYear_0 24 rfl rfl
theorem dX7_isLeapYear_0 : decode cX7_isLeapYear 0 = .ok (.lload_n 1, 1) := dk_31 (dk_at dksX7_isLeapYear_0 0 rfl rfl)
theorem dX7_isLeapYear_1 : decode cX7_isLeapYear 1 = .ok (.ldc2_w 7, 3) := dk_20 0 7 (dk_at dksX7_isLeapYear_0 1 rfl rfl)
theorem dX7_isLeapYear_4 : decode cX7_isLeapYear 4 = .ok (.land, 1) := dk_127 (dk_at dksX7_isLeapYear_0 4 rfl rfl)
theorem dX7_isLeapYear_5 : decode cX7_isLeapYear 5 = .ok (.lconst 0, 1) := dk_9 (dk_at dksX7_isLeapYear_0 5 rfl rfl)
theorem dX7_isLeapYear_6 : decode cX7_isLeapYear 6 = .ok (.lcmp, 1) := dk_148 (dk_at dksX7_isLeapYear_0 6 rfl rfl)
theorem dX7_isLeapYear_7 : decode cX7_isLeapYear 7 = .ok (.ifCond .ne 27, 3) := dk_154 0 27 (dk_at dksX7_isLeapYear_0 7 rfl rfl)
theorem dX7_isLeapYear_10 : decode cX7_isLeapYear 10 = .ok (.lload_n 1, 1) := dk_31 (dk_at dksX7_isLeapYear_0 10 rfl rfl)
theorem dX7_isLeapYear_11 : decode cX7_isLeapYear 11 = .ok (.ldc2_w 9, 3) := dk_20 0 9 (dk_at dksX7_isLeapYear_0 11 rfl rfl)
theorem dX7_isLeapYear_14 : decode cX7_isLeapYear 14 = .ok (.lrem, 1) := dk_113 (dk_at dksX7_isLeapYear_0 14 rfl rfl)
theorem dX7_isLeapYear_15 : decode cX7_isLeapYear 15 = .ok (.lconst 0, 1) := dk_9 (dk_at dksX7_isLeapYear_0 15 rfl rfl)
theorem dX7_isLeapYear_16 : decode cX7_isLeapYear 16 = .ok (.lcmp, 1) := dk_148 (dk_at dksX7_isLeapYear_0 16 rfl rfl)
theorem dX7_isLeapYear_17 : decode cX7_isLeapYear 17 = .ok (.ifCond .ne 13, 3) := dk_154 0 13 (dk_at dksX7_isLeapYear_0 17 rfl rfl)
theorem dX7_isLeapYear_20 : decode cX7_isLeapYear 20 = .ok (.lload_n 1, 1) := dk_31 (dk_at dksX7_isLeapYear_0 20 rfl rfl)
theorem dX7_isLeapYear_21 : decode cX7_isLeapYear 21 = .ok (.ldc2_w 11, 3) := dk_20 0 11 (dk_at dksX7_isLeapYear_0 21 rfl rfl)
theorem dX7_isLeapYear_24 : decode cX7_isLeapYear 24 = .ok (.lrem, 1) := dk_113 (dk_at dksX7_isLeapYear_1 0 rfl rfl)
theorem dX7_isLeapYear_25 : decode cX7_isLeapYear 25 = .ok (.lconst 0, 1) := dk_9 (dk_at dksX7_isLeapYear_1 1 rfl rfl)
theorem dX7_isLeapYear_26 : decode cX7_isLeapYear 26 = .ok (.lcmp, 1) := dk_148 (dk_at dksX7_isLeapYear_1 2 rfl rfl)
theorem dX7_isLeapYear_27 : decode cX7_isLeapYear 27 = .ok (.ifCond .ne 7, 3) := dk_154 0 7 (dk_at dksX7_isLeapYear_1 3 rfl rfl)
theorem dX7_isLeapYear_30 : decode cX7_isLeapYear 30 = .ok (.iconst 1, 1) := dk_4 (dk_at dksX7_isLeapYear_1 6 rfl rfl)
theorem dX7_isLeapYear_31 : decode cX7_isLeapYear 31 = .ok (.goto 4, 3) := dk_167 0 4 (dk_at dksX7_isLeapYear_1 7 rfl rfl)
theorem dX7_isLeapYear_34 : decode cX7_isLeapYear 34 = .ok (.iconst 0, 1) := dk_3 (dk_at dksX7_isLeapYear_1 10 rfl rfl)
theorem dX7_isLeapYear_35 : decode cX7_isLeapYear 35 = .ok (.ireturn, 1) := dk_172 (dk_at dksX7_isLeapYear_1 11 rfl rfl)
theorem q14 : (Jvm.Cond.initialized "IsoChronology") ∈ lw_all := lw_g (lw_at lw_m1 12 rfl) rfl
theorem q293 : (Jvm.Cond.laysStatic "IsoChronology" "INSTANCE" "LIsoChronology;") ∈ lw_tbl := lw_at lw_m2 51 rfl
theorem q295 : (Jvm.Cond.instanceMethod ({ cls := "IsoChronology", name := "isLeapYear", desc := "(J)Z" } : Jvm.MethodName)) ∈ lw_all := lw_g (lw_at lw_m2 53 rfl) rfl
theorem q296 : (Jvm.Cond.selects "IsoChronology" ({ cls := "IsoChronology", name := "isLeapYear", desc := "(J)Z" } : Jvm.MethodName) ({ cls := "IsoChronology", name := "isLeapYear", desc := "(J)Z" } : Jvm.MethodName)) ∈ lw_all := lw_g (lw_at lw_m2 54 rfl) rfl
theorem q297 : (Jvm.Cond.code ({ cls := "IsoChronology", name := "isLeapYear", desc := "(J)Z" } : Jvm.MethodName) prog_9_method_2_code (3 : Nat) (Option.some Jvm.ClassFile.FieldType.boolean)) ∈ lw_all := lw_g (lw_at lw_m2 55 rfl) rfl
theorem q298 : (Jvm.Cond.constantLong "IsoChronology" (7 : Nat) (3 : Int64)) ∈ lw_all := lw_g (lw_at lw_m2 56 rfl) rfl
theorem q299 : (Jvm.Cond.constantLong "IsoChronology" (9 : Nat) (100 : Int64)) ∈ lw_all := lw_g (lw_at lw_m2 57 rfl) rfl
theorem q300 : (Jvm.Cond.constantLong "IsoChronology" (11 : Nat) (400 : Int64)) ∈ lw_all := lw_g (lw_at lw_m2 58 rfl) rfl
/-! DefaultInterfaceTemporal -/
set_option maxRecDepth 100000
def RX8 : String := "DefaultInterfaceTemporal"
abbrev cX8_init : ByteArray := prog_6_method_1_code
def yX8_init : MethodName := ⟨RX8, "<init>", "()V"⟩
theorem dX8_init_0 : decode cX8_init 0 = .ok (.aload_n 0, 1) := by decide +kernel
theorem dX8_init_1 : decode cX8_init 1 = .ok (.invokespecial 1, 3) := by decide +kernel
theorem dX8_init_4 : decode cX8_init 4 = .ok (.return_, 1) := by decide +kernel
theorem q15 : (Jvm.Cond.initialized "DefaultInterfaceTemporal") ∈ lw_all := lw_g (lw_at lw_m1 13 rfl) rfl
theorem q363 : (Jvm.Cond.instanceMethod ({ cls := "DefaultInterfaceTemporal", name := "<init>", desc := "()V" } : Jvm.MethodName)) ∈ lw_all := lw_g (lw_at lw_m2 121 rfl) rfl
theorem q364 : (Jvm.Cond.code ({ cls := "DefaultInterfaceTemporal", name := "<init>", desc := "()V" } : Jvm.MethodName) prog_6_method_1_code (1 : Nat) (Option.none : Option Jvm.ClassFile.FieldType)) ∈ lw_all := lw_g (lw_at lw_m2 122 rfl) rfl
theorem q365 : (Jvm.Cond.methodLink "DefaultInterfaceTemporal" (1 : Nat) ({ cls := "DefaultInterfaceTemporalAccessor", name := "<init>", desc := "()V" } : Jvm.MethodName)) ∈ lw_all := lw_g (lw_at lw_m2 123 rfl) rfl
/-! ChronoLocalDate -/
set_option maxRecDepth 100000
def RX9 : String := "ChronoLocalDate"
abbrev cX9_init : ByteArray := prog_2_method_1_code
def yX9_init : MethodName := ⟨RX9, "<init>", "()V"⟩
theorem dX9_init_0 : decode cX9_init 0 = .ok (.aload_n 0, 1) := by decide +kernel
theorem dX9_init_1 : decode cX9_init 1 = .ok (.invokespecial 1, 3) := by decide +kernel
theorem dX9_init_4 : decode cX9_init 4 = .ok (.return_, 1) := by decide +kernel
theorem q16 : (Jvm.Cond.initialized "ChronoLocalDate") ∈ lw_all := lw_g (lw_at lw_m1 14 rfl) rfl
theorem q360 : (Jvm.Cond.instanceMethod ({ cls := "ChronoLocalDate", name := "<init>", desc := "()V" } : Jvm.MethodName)) ∈ lw_all := lw_g (lw_at lw_m2 118 rfl) rfl
theorem q361 : (Jvm.Cond.code ({ cls := "ChronoLocalDate", name := "<init>", desc := "()V" } : Jvm.MethodName) prog_2_method_1_code (1 : Nat) (Option.none : Option Jvm.ClassFile.FieldType)) ∈ lw_all := lw_g (lw_at lw_m2 119 rfl) rfl
theorem q362 : (Jvm.Cond.methodLink "ChronoLocalDate" (1 : Nat) ({ cls := "DefaultInterfaceTemporal", name := "<init>", desc := "()V" } : Jvm.MethodName)) ∈ lw_all := lw_g (lw_at lw_m2 120 rfl) rfl
/-! LocalDate -/
set_option maxRecDepth 100000
def RX10 : String := "LocalDate"
def TX10 : u_T := fun k => match k with
  | 0 => ("LocalDate", "year", "I", true)
  | 1 => ("LocalDate", "month", "S", true)
  | _ => ("LocalDate", "day", "S", true)
def tyX10 : Nat → FieldType := fun k => match k with
  | 0 => .int
  | 1 => .short
  | _ => .short
abbrev wsX100 : List Cond := u_ws RX10 TX10 3
theorem nmX10 : ∀ a, a < 3 → ∀ b, b < 3 → a ≠ b → (TX10 a).2.1 ≠ (TX10 b).2.1 := by decide +kernel
theorem tyX10_ok : ∀ k, k < 3 → parseFieldDescriptor (TX10 k).2.2.1 = some (tyX10 k) := by decide +kernel
abbrev cX10_of : ByteArray := prog_11_method_1_code
def yX10_of : MethodName := ⟨RX10, "of", "(III)LLocalDate;"⟩
def dkwX10_of_1 : List UInt8 := [182, 0, 9, 88, 26, 27, 184, 0, 19, 28, 184, 0, 25, 176]
abbrev dktX10_of_1 : List UInt8 := dkwX10_of_1 ++ []
def dkwX10_of_0 : List UInt8 := [178, 0, 3, 26, 133, 182, 0, 9, 88, 178, 0, 13, 27, 133, 182, 0, 9, 88, 178, 0, 16, 28, 133]
abbrev dktX10_of_0 : List UInt8 := dkwX10_of_0 ++ dktX10_of_1
theorem dksX10_of_0 : cX10_of.data.toList.drop 0 = dktX10_of_0 := by decide +kernel
theorem dksX10_of_1 : cX10_of.data.toList.drop 23 = dktX10_of_1 := dk_seg dksX10_of_0 23 rfl rfl
theorem dX10_of_0 : decode cX10_of 0 = .ok (.getstatic 3, 3) := dk_178 0 3 (dk_at dksX10_of_0 0 rfl rfl)
theorem dX10_of_3 : decode cX10_of 3 = .ok (.iload_n 0, 1) := dk_26 (dk_at dksX10_of_0 3 rfl rfl)
theorem dX10_of_4 : decode cX10_of 4 = .ok (.i2l, 1) := dk_133 (dk_at dksX10_of_0 4 rfl rfl)
theorem dX10_of_5 : decode cX10_of 5 = .ok (.invokevirtual 9, 3) := dk_182 0 9 (dk_at dksX10_of_0 5 rfl rfl)
theorem dX10_of_8 : decode cX10_of 8 = .ok (.pop2, 1) := dk_88 (dk_at dksX10_of_0 8 rfl rfl)
theorem dX10_of_9 : decode cX10_of 9 = .ok (.getstatic 13, 3) := dk_178 0 13 (dk_at dksX10_of_0 9 rfl rfl)
theorem dX10_of_12 : decode cX10_of 12 = .ok (.iload_n 1, 1) := dk_27 (dk_at dksX10_of_0 12 rfl rfl)
theorem dX10_of_13 : decode cX10_of 13 = .ok (.i2l, 1) := dk_133 (dk_at dksX10_of_0 13 rfl rfl)
theorem dX10_of_14 : decode cX10_of 14 = .ok (.invokevirtual 9, 3) := dk_182 0 9 (dk_at dksX10_of_0 14 rfl rfl)
theorem dX10_of_17 : decode cX10_of 17 = .ok (.pop2, 1) := dk_88 (dk_at dksX10_of_0 17 rfl rfl)
theorem dX10_of_18 : decode cX10_of 18 = .ok (.getstatic 16, 3) := dk_178 0 16 (dk_at dksX10_of_0 18 rfl rfl)
theorem dX10_of_21 : decode cX10_of 21 = .ok (.iload_n 2, 1) := dk_28 (dk_at dksX10_of_0 21 rfl rfl)
theorem dX10_of_22 : decode cX10_of 22 = .ok (.i2l, 1) := dk_133 (dk_at dksX10_of_0 22 rfl rfl)
theorem dX10_of_23 : decode cX10_of 23 = .ok (.invokevirtual 9, 3) := dk_182 0 9 (dk_at dksX10_of_1 0 rfl rfl)
theorem dX10_of_26 : decode cX10_of 26 = .ok (.pop2, 1) := dk_88 (dk_at dksX10_of_1 3 rfl rfl)
theorem dX10_of_27 : decode cX10_of 27 = .ok (.iload_n 0, 1) := dk_26 (dk_at dksX10_of_1 4 rfl rfl)
theorem dX10_of_28 : decode cX10_of 28 = .ok (.iload_n 1, 1) := dk_27 (dk_at dksX10_of_1 5 rfl rfl)
theorem dX10_of_29 : decode cX10_of 29 = .ok (.invokestatic 19, 3) := dk_184 0 19 (dk_at dksX10_of_1 6 rfl rfl)
theorem dX10_of_32 : decode cX10_of 32 = .ok (.iload_n 2, 1) := dk_28 (dk_at dksX10_of_1 9 rfl rfl)
theorem dX10_of_33 : decode cX10_of 33 = .ok (.invokestatic 25, 3) := dk_184 0 25 (dk_at dksX10_of_1 10 rfl rfl)
theorem dX10_of_36 : decode cX10_of 36 = .ok (.areturn, 1) := dk_176 (dk_at dksX10_of_1 13 rfl rfl)
abbrev cX10_create : ByteArray := prog_11_method_2_code
def yX10_create : MethodName := ⟨RX10, "create", "(ILMonth;I)LLocalDate;"⟩
def dkwX10_create_2 : List UInt8 := [191, 187, 0, 1, 89, 26, 43, 182, 0, 51, 28, 183, 0, 55, 176]
abbrev dktX10_create_2 : List UInt8 := dkwX10_create_2 ++ []
def dkwX10_create_1 : List UInt8 := [16, 29, 160, 0, 13, 187, 0, 43, 89, 18, 45, 183, 0, 47, 191, 187, 0, 43, 89, 18, 45, 183, 0, 47]
abbrev dktX10_create_1 : List UInt8 := dkwX10_create_1 ++ dktX10_create_2
def dkwX10_create_0 : List UInt8 := [28, 16, 28, 164, 0, 45, 28, 43, 178, 0, 29, 26, 133, 182, 0, 35, 182, 0, 39, 164, 0, 29, 28]
abbrev dktX10_create_0 : List UInt8 := dkwX10_create_0 ++ dktX10_create_1
theorem dksX10_create_0 : cX10_create.data.toList.drop 0 = dktX10_create_0 := by decide +kernel
theorem dksX10_create_1 : cX10_create.data.toList.drop 23 = dktX10_create_1 := dk_seg dksX10_create_0 23 rfl rfl
theorem dksX10_create_2 : cX10_create.data.toList.drop 47 = dktX10_create_2 := dk_seg dksX10_create_1 24 rfl rfl
theorem dX10_create_0 : decode cX10_create 0 = .ok (.iload_n 2, 1) := dk_28 (dk_at dksX10_create_0 0 rfl rfl)
theorem dX10_create_1 : decode cX10_create 1 = .ok (.bipush 28, 2) := dk_16 28 (dk_at dksX10_create_0 1 rfl rfl)
theorem dX10_create_3 : decode cX10_create 3 = .ok (.if_icmp .le 45, 3) := dk_164 0 45 (dk_at dksX10_create_0 3 rfl rfl)
theorem dX10_create_6 : decode cX10_create 6 = .ok (.iload_n 2, 1) := dk_28 (dk_at dksX10_create_0 6 rfl rfl)
theorem dX10_create_7 : decode cX10_create 7 = .ok (.aload_n 1, 1) := dk_43 (dk_at dksX10_create_0 7 rfl rfl)
theorem dX10_create_8 : decode cX10_create 8 = .ok (.getstatic 29, 3) := dk_178 0 29 (dk_at dksX10_create_0 8 rfl rfl)
theorem dX10_create_11 : decode cX10_create 11 = .ok (.iload_n 0, 1) := dk_26 (dk_at dksX10_create_0 11 rfl rfl)
theorem dX10_create_12 : decode cX10_create 12 = .ok (.i2l, 1) := dk_133 (dk_at dksX10_create_0 12 rfl rfl)
theorem dX10_create_13 : decode cX10_create 13 = .ok (.invokevirtual 35, 3) := dk_182 0 35 (dk_at dksX10_create_0 13 rfl rfl)
theorem dX10_create_16 : decode cX10_create 16 = .ok (.invokevirtual 39, 3) := dk_182 0 39 (dk_at dksX10_create_0 16 rfl rfl)
theorem dX10_create_19 : decode cX10_create 19 = .ok (.if_icmp .le 29, 3) := dk_164 0 29 (dk_at dksX10_create_0 19 rfl rfl)
theorem dX10_create_22 : decode cX10_create 22 = .ok (.iload_n 2, 1) := dk_28 (dk_at dksX10_create_0 22 rfl rfl)
theorem dX10_create_23 : decode cX10_create 23 = .ok (.bipush 29, 2) := dk_16 29 (dk_at dksX10_create_1 0 rfl rfl)
theorem dX10_create_25 : decode cX10_create 25 = .ok (.if_icmp .ne 13, 3) := dk_160 0 13 (dk_at dksX10_create_1 2 rfl rfl)
theorem dX10_create_28 : decode cX10_create 28 = .ok (.new 43, 3) := dk_187 0 43 (dk_at dksX10_create_1 5 rfl rfl)
theorem dX10_create_31 : decode cX10_create 31 = .ok (.dup, 1) := dk_89 (dk_at dksX10_create_1 8 rfl rfl)
theorem dX10_create_32 : decode cX10_create 32 = .ok (.ldc 45, 2) := dk_18 45 (dk_at dksX10_create_1 9 rfl rfl)
theorem dX10_create_34 : decode cX10_create 34 = .ok (.invokespecial 47, 3) := dk_183 0 47 (dk_at dksX10_create_1 11 rfl rfl)
theorem dX10_create_37 : decode cX10_create 37 = .ok (.athrow, 1) := dk_191 (dk_at dksX10_create_1 14 rfl rfl)
theorem dX10_create_38 : decode cX10_create 38 = .ok (.new 43, 3) := dk_187 0 43 (dk_at dksX10_create_1 15 rfl rfl)
theorem dX10_create_41 : decode cX10_create 41 = .ok (.dup, 1) := dk_89 (dk_at dksX10_create_1 18 rfl rfl)
theorem dX10_create_42 : decode cX10_create 42 = .ok (.ldc 45, 2) := dk_18 45 (dk_at dksX10_create_1 19 rfl rfl)
theorem dX10_create_44 : decode cX10_create 44 = .ok (.invokespecial 47, 3) := dk_183 0 47 (dk_at dksX10_create_1 21 rfl rfl)
theorem dX10_create_47 : decode cX10_create 47 = .ok (.athrow, 1) := dk_191 (dk_at dksX10_create_2 0 rfl rfl)
theorem dX10_create_48 : decode cX10_create 48 = .ok (.new 1, 3) := dk_187 0 1 (dk_at dksX10_create_2 1 rfl rfl)
theorem dX10_create_51 : decode cX10_create 51 = .ok (.dup, 1) := dk_89 (dk_at dksX10_create_2 4 rfl rfl)
theorem dX10_create_52 : decode cX10_create 52 = .ok (.iload_n 0, 1) := dk_26 (dk_at dksX10_create_2 5 rfl rfl)
theorem dX10_create_53 : decode cX10_create 53 = .ok (.aload_n 1, 1) := dk_43 (dk_at dksX10_create_2 6 rfl rfl)
theorem dX10_create_54 : decode cX10_create 54 = .ok (.invokevirtual 51, 3) := dk_182 0 51 (dk_at dksX10_create_2 7 rfl rfl)
theorem dX10_create_57 : decode cX10_create 57 = .ok (.iload_n 2, 1) := dk_28 (dk_at dksX10_create_2 10 rfl rfl)
theorem dX10_create_58 : decode cX10_create 58 = .ok (.invokespecial 55, 3) := dk_183 0 55 (dk_at dksX10_create_2 11 rfl rfl)
theorem dX10_create_61 : decode cX10_create 61 = .ok (.areturn, 1) := dk_176 (dk_at dksX10_create_2 14 rfl rfl)
abbrev cX10_init : ByteArray := prog_11_method_3_code
def yX10_init : MethodName := ⟨RX10, "<init>", "(III)V"⟩
def dkwX10_init_0 : List UInt8 := [42, 183, 0, 58, 42, 27, 181, 0, 63, 42, 28, 147, 181, 0, 67, 42, 29, 147, 181, 0, 71, 177]
abbrev dktX10_init_0 : List UInt8 := dkwX10_init_0 ++ []
theorem dksX10_init_0 : cX10_init.data.toList.drop 0 = dktX10_init_0 := by decide +kernel
theorem dX10_init_0 : decode cX10_init 0 = .ok (.aload_n 0, 1) := dk_42 (dk_at dksX10_init_0 0 rfl rfl)
theorem dX10_init_1 : decode cX10_init 1 = .ok (.invokespecial 58, 3) := dk_183 0 58 (dk_at dksX10_init_0 1 rfl rfl)
theorem dX10_init_4 : decode cX10_init 4 = .ok (.aload_n 0, 1) := dk_42 (dk_at dksX10_init_0 4 rfl rfl)
theorem dX10_init_5 : decode cX10_init 5 = .ok (.iload_n 1, 1) := dk_27 (dk_at dksX10_init_0 5 rfl rfl)
theorem dX10_init_6 : decode cX10_init 6 = .ok (.putfield 63, 3) := dk_181 0 63 (dk_at dksX10_init_0 6 rfl rfl)
theorem dX10_init_9 : decode cX10_init 9 = .ok (.aload_n 0, 1) := dk_42 (dk_at dksX10_init_0 9 rfl rfl)
theorem dX10_init_10 : decode cX10_init 10 = .ok (.iload_n 2, 1) := dk_28 (dk_at dksX10_init_0 10 rfl rfl)
theorem dX10_init_11 : decode cX10_init 11 = .ok (.i2s, 1) := dk_147 (dk_at dksX10_init_0 11 rfl rfl)
theorem dX10_init_12 : decode cX10_init 12 = .ok (.putfield 67, 3) := dk_181 0 67 (dk_at dksX10_init_0 12 rfl rfl)
theorem dX10_init_15 : decode cX10_init 15 = .ok (.aload_n 0, 1) := dk_42 (dk_at dksX10_init_0 15 rfl rfl)
theorem dX10_init_16 : decode cX10_init 16 = .ok (.iload_n 3, 1) := dk_29 (dk_at dksX10_init_0 16 rfl rfl)
theorem dX10_init_17 : decode cX10_init 17 = .ok (.i2s, 1) := dk_147 (dk_at dksX10_init_0 17 rfl rfl)
theorem dX10_init_18 : decode cX10_init 18 = .ok (.putfield 71, 3) := dk_181 0 71 (dk_at dksX10_init_0 18 rfl rfl)
theorem dX10_init_21 : decode cX10_init 21 = .ok (.return_, 1) := dk_177 (dk_at dksX10_init_0 21 rfl rfl)
abbrev cX10_toEpochDay : ByteArray := prog_11_method_5_code
def yX10_toEpochDay : MethodName := ⟨RX10, "toEpochDay", "()J"⟩
def dkwX10_toEpochDay_6 : List UInt8 := [22, 5, 10, 101, 55, 5, 22, 5, 20, 0, 105, 101, 173]
abbrev dktX10_toEpochDay_6 : List UInt8 := dkwX10_toEpochDay_6 ++ []
def dkwX10_toEpochDay_5 : List UInt8 := [55, 5, 33, 20, 0, 100, 148, 158, 0, 22, 22, 5, 10, 101, 55, 5, 42, 182, 0, 102, 154, 0, 9]
abbrev dktX10_toEpochDay_5 : List UInt8 := dkwX10_toEpochDay_5 ++ dktX10_toEpochDay_6
def dkwX10_toEpochDay_4 : List UInt8 := [33, 105, 20, 0, 96, 101, 20, 0, 98, 109, 97, 55, 5, 22, 5, 42, 180, 0, 71, 4, 100, 133, 97]
abbrev dktX10_toEpochDay_4 : List UInt8 := dkwX10_toEpochDay_4 ++ dktX10_toEpochDay_5
def dkwX10_toEpochDay_3 : List UInt8 := [20, 0, 88, 109, 31, 20, 0, 90, 109, 101, 31, 20, 0, 92, 109, 97, 101, 55, 5, 22, 5, 20, 0, 94]
abbrev dktX10_toEpochDay_3 : List UInt8 := dkwX10_toEpochDay_3 ++ dktX10_toEpochDay_4
def dkwX10_toEpochDay_2 : List UInt8 := [20, 0, 82, 109, 101, 31, 20, 0, 84, 97, 20, 0, 86, 109, 97, 97, 55, 5, 167, 0, 25, 22, 5, 31]
abbrev dktX10_toEpochDay_2 : List UInt8 := dkwX10_toEpochDay_2 ++ dktX10_toEpochDay_3
def dkwX10_toEpochDay_1 : List UInt8 := [55, 5, 31, 9, 148, 155, 0, 40, 22, 5, 31, 20, 0, 76, 97, 20, 0, 78, 109, 31, 20, 0, 80, 97]
abbrev dktX10_toEpochDay_1 : List UInt8 := dkwX10_toEpochDay_1 ++ dktX10_toEpochDay_2
def dkwX10_toEpochDay_0 : List UInt8 := [42, 180, 0, 63, 133, 64, 42, 180, 0, 67, 133, 66, 9, 55, 5, 22, 5, 20, 0, 74, 31, 105, 97]
abbrev dktX10_toEpochDay_0 : List UInt8 := dkwX10_toEpochDay_0 ++ dktX10_toEpochDay_1
theorem dksX10_toEpochDay_0 : cX10_toEpochDay.data.toList.drop 0 = dktX10_toEpochDay_0 := by decide +kernel
theorem dksX10_toEpochDay_1 : cX10_toEpochDay.data.toList.drop 23 = dktX10_toEpochDay_1 := dk_seg dksX10_toEpochDay_0 23 rfl rfl
theorem dksX10_toEpochDay_2 : cX10_toEpochDay.data.toList.drop 47 = dktX10_toEpochDay_2 := dk_seg dksX10_toEpochDay_1 24 rfl rfl
theorem dksX10_toEpochDay_3 : cX10_toEpochDay.data.toList.drop 71 = dktX10_toEpochDay_3 := dk_seg dksX10_toEpochDay_2 24 rfl rfl
theorem dksX10_toEpochDay_4 : cX10_toEpochDay.data.toList.drop 95 = dktX10_toEpochDay_4 := dk_seg dksX10_toEpochDay_3 24 rfl rfl
theorem dksX10_toEpochDay_5 : cX10_toEpochDay.data.toList.drop 118 = dktX10_toEpochDay_5 := dk_seg dksX10_toEpochDay_4 23 rfl rfl
theorem dksX10_toEpochDay_6 : cX10_toEpochDay.data.toList.drop 141 = dktX10_toEpochDay_6 := dk_seg dksX10_toEpochDay_5 23 rfl rfl
theorem dX10_toEpochDay_0 : decode cX10_toEpochDay 0 = .ok (.aload_n 0, 1) := dk_42 (dk_at dksX10_toEpochDay_0 0 rfl rfl)
theorem dX10_toEpochDay_1 : decode cX10_toEpochDay 1 = .ok (.getfield 63, 3) := dk_180 0 63 (dk_at dksX10_toEpochDay_0 1 rfl rfl)
theorem dX10_toEpochDay_4 : decode cX10_toEpochDay 4 = .ok (.i2l, 1) := dk_133 (dk_at dksX10_toEpochDay_0 4 rfl rfl)
theorem dX10_toEpochDay_5 : decode cX10_toEpochDay 5 = .ok (.lstore_n 1, 1) := dk_64 (dk_at dksX10_toEpochDay_0 5 rfl rfl)
theorem dX10_toEpochDay_6 : decode cX10_toEpochDay 6 = .ok (.aload_n 0, 1) := dk_42 (dk_at dksX10_toEpochDay_0 6 rfl rfl)
theorem dX10_toEpochDay_7 : decode cX10_toEpochDay 7 = .ok (.getfield 67, 3) := dk_180 0 67 (dk_at dksX10_toEpochDay_0 7 rfl rfl)
theorem dX10_toEpochDay_10 : decode cX10_toEpochDay 10 = .ok (.i2l, 1) := dk_133 (dk_at dksX10_toEpochDay_0 10 rfl rfl)
theorem dX10_toEpochDay_11 : decode cX10_toEpochDay 11 = .ok (.lstore_n 3, 1) := dk_66 (dk_at dksX10_toEpochDay_0 11 rfl rfl)
theorem dX10_toEpochDay_12 : decode cX10_toEpochDay 12 = .ok (.lconst 0, 1) := dk_9 (dk_at dksX10_toEpochDay_0 12 rfl rfl)
theorem dX10_toEpochDay_13 : decode cX10_toEpochDay 13 = .ok (.lstore 5, 2) := dk_55 5 (dk_at dksX10_toEpochDay_0 13 rfl rfl)
theorem dX10_toEpochDay_15 : decode cX10_toEpochDay 15 = .ok (.lload 5, 2) := dk_22 5 (dk_at dksX10_toEpochDay_0 15 rfl rfl)
theorem dX10_toEpochDay_17 : decode cX10_toEpochDay 17 = .ok (.ldc2_w 74, 3) := dk_20 0 74 (dk_at dksX10_toEpochDay_0 17 rfl rfl)
theorem dX10_toEpochDay_20 : decode cX10_toEpochDay 20 = .ok (.lload_n 1, 1) := dk_31 (dk_at dksX10_toEpochDay_0 20 rfl rfl)
theorem dX10_toEpochDay_21 : decode cX10_toEpochDay 21 = .ok (.lmul, 1) := dk_105 (dk_at dksX10_toEpochDay_0 21 rfl rfl)
theorem dX10_toEpochDay_22 : decode cX10_toEpochDay 22 = .ok (.ladd, 1) := dk_97 (dk_at dksX10_toEpochDay_0 22 rfl rfl)
theorem dX10_toEpochDay_23 : decode cX10_toEpochDay 23 = .ok (.lstore 5, 2) := dk_55 5 (dk_at dksX10_toEpochDay_1 0 rfl rfl)
theorem dX10_toEpochDay_25 : decode cX10_toEpochDay 25 = .ok (.lload_n 1, 1) := dk_31 (dk_at dksX10_toEpochDay_1 2 rfl rfl)
theorem dX10_toEpochDay_26 : decode cX10_toEpochDay 26 = .ok (.lconst 0, 1) := dk_9 (dk_at dksX10_toEpochDay_1 3 rfl rfl)
theorem dX10_toEpochDay_27 : decode cX10_toEpochDay 27 = .ok (.lcmp, 1) := dk_148 (dk_at dksX10_toEpochDay_1 4 rfl rfl)
theorem dX10_toEpochDay_28 : decode cX10_toEpochDay 28 = .ok (.ifCond .lt 40, 3) := dk_155 0 40 (dk_at dksX10_toEpochDay_1 5 rfl rfl)
theorem dX10_toEpochDay_31 : decode cX10_toEpochDay 31 = .ok (.lload 5, 2) := dk_22 5 (dk_at dksX10_toEpochDay_1 8 rfl rfl)
theorem dX10_toEpochDay_33 : decode cX10_toEpochDay 33 = .ok (.lload_n 1, 1) := dk_31 (dk_at dksX10_toEpochDay_1 10 rfl rfl)
theorem dX10_toEpochDay_34 : decode cX10_toEpochDay 34 = .ok (.ldc2_w 76, 3) := dk_20 0 76 (dk_at dksX10_toEpochDay_1 11 rfl rfl)
theorem dX10_toEpochDay_37 : decode cX10_toEpochDay 37 = .ok (.ladd, 1) := dk_97 (dk_at dksX10_toEpochDay_1 14 rfl rfl)
theorem dX10_toEpochDay_38 : decode cX10_toEpochDay 38 = .ok (.ldc2_w 78, 3) := dk_20 0 78 (dk_at dksX10_toEpochDay_1 15 rfl rfl)
theorem dX10_toEpochDay_41 : decode cX10_toEpochDay 41 = .ok (.ldiv, 1) := dk_109 (dk_at dksX10_toEpochDay_1 18 rfl rfl)
theorem dX10_toEpochDay_42 : decode cX10_toEpochDay 42 = .ok (.lload_n 1, 1) := dk_31 (dk_at dksX10_toEpochDay_1 19 rfl rfl)
theorem dX10_toEpochDay_43 : decode cX10_toEpochDay 43 = .ok (.ldc2_w 80, 3) := dk_20 0 80 (dk_at dksX10_toEpochDay_1 20 rfl rfl)
theorem dX10_toEpochDay_46 : decode cX10_toEpochDay 46 = .ok (.ladd, 1) := dk_97 (dk_at dksX10_toEpochDay_1 23 rfl rfl)
theorem dX10_toEpochDay_47 : decode cX10_toEpochDay 47 = .ok (.ldc2_w 82, 3) := dk_20 0 82 (dk_at dksX10_toEpochDay_2 0 rfl rfl)
theorem dX10_toEpochDay_50 : decode cX10_toEpochDay 50 = .ok (.ldiv, 1) := dk_109 (dk_at dksX10_toEpochDay_2 3 rfl rfl)
theorem dX10_toEpochDay_51 : decode cX10_toEpochDay 51 = .ok (.lsub, 1) := dk_101 (dk_at dksX10_toEpochDay_2 4 rfl rfl)
theorem dX10_toEpochDay_52 : decode cX10_toEpochDay 52 = .ok (.lload_n 1, 1) := dk_31 (dk_at dksX10_toEpochDay_2 5 rfl rfl)
theorem dX10_toEpochDay_53 : decode cX10_toEpochDay 53 = .ok (.ldc2_w 84, 3) := dk_20 0 84 (dk_at dksX10_toEpochDay_2 6 rfl rfl)
theorem dX10_toEpochDay_56 : decode cX10_toEpochDay 56 = .ok (.ladd, 1) := dk_97 (dk_at dksX10_toEpochDay_2 9 rfl rfl)
theorem dX10_toEpochDay_57 : decode cX10_toEpochDay 57 = .ok (.ldc2_w 86, 3) := dk_20 0 86 (dk_at dksX10_toEpochDay_2 10 rfl rfl)
theorem dX10_toEpochDay_60 : decode cX10_toEpochDay 60 = .ok (.ldiv, 1) := dk_109 (dk_at dksX10_toEpochDay_2 13 rfl rfl)
theorem dX10_toEpochDay_61 : decode cX10_toEpochDay 61 = .ok (.ladd, 1) := dk_97 (dk_at dksX10_toEpochDay_2 14 rfl rfl)
theorem dX10_toEpochDay_62 : decode cX10_toEpochDay 62 = .ok (.ladd, 1) := dk_97 (dk_at dksX10_toEpochDay_2 15 rfl rfl)
theorem dX10_toEpochDay_63 : decode cX10_toEpochDay 63 = .ok (.lstore 5, 2) := dk_55 5 (dk_at dksX10_toEpochDay_2 16 rfl rfl)
theorem dX10_toEpochDay_65 : decode cX10_toEpochDay 65 = .ok (.goto 25, 3) := dk_167 0 25 (dk_at dksX10_toEpochDay_2 18 rfl rfl)
theorem dX10_toEpochDay_68 : decode cX10_toEpochDay 68 = .ok (.lload 5, 2) := dk_22 5 (dk_at dksX10_toEpochDay_2 21 rfl rfl)
theorem dX10_toEpochDay_70 : decode cX10_toEpochDay 70 = .ok (.lload_n 1, 1) := dk_31 (dk_at dksX10_toEpochDay_2 23 rfl rfl)
theorem dX10_toEpochDay_71 : decode cX10_toEpochDay 71 = .ok (.ldc2_w 88, 3) := dk_20 0 88 (dk_at dksX10_toEpochDay_3 0 rfl rfl)
theorem dX10_toEpochDay_74 : decode cX10_toEpochDay 74 = .ok (.ldiv, 1) := dk_109 (dk_at dksX10_toEpochDay_3 3 rfl rfl)
theorem dX10_toEpochDay_75 : decode cX10_toEpochDay 75 = .ok (.lload_n 1, 1) := dk_31 (dk_at dksX10_toEpochDay_3 4 rfl rfl)
theorem dX10_toEpochDay_76 : decode cX10_toEpochDay 76 = .ok (.ldc2_w 90, 3) := dk_20 0 90 (dk_at dksX10_toEpochDay_3 5 rfl rfl)
theorem dX10_toEpochDay_79 : decode cX10_toEpochDay 79 = .ok (.ldiv, 1) := dk_109 (dk_at dksX10_toEpochDay_3 8 rfl rfl)
theorem dX10_toEpochDay_80 : decode cX10_toEpochDay 80 = .ok (.lsub, 1) := dk_101 (dk_at dksX10_toEpochDay_3 9 rfl rfl)
theorem dX10_toEpochDay_81 : decode cX10_toEpochDay 81 = .ok (.lload_n 1, 1) := dk_31 (dk_at dksX10_toEpochDay_3 10 rfl rfl)
theorem dX10_toEpochDay_82 : decode cX10_toEpochDay 82 = .ok (.ldc2_w 92, 3) := dk_20 0 92 (dk_at dksX10_toEpochDay_3 11 rfl rfl)
theorem dX10_toEpochDay_85 : decode cX10_toEpochDay 85 = .ok (.ldiv, 1) := dk_109 (dk_at dksX10_toEpochDay_3 14 rfl rfl)
theorem dX10_toEpochDay_86 : decode cX10_toEpochDay 86 = .ok (.ladd, 1) := dk_97 (dk_at dksX10_toEpochDay_3 15 rfl rfl)
theorem dX10_toEpochDay_87 : decode cX10_toEpochDay 87 = .ok (.lsub, 1) := dk_101 (dk_at dksX10_toEpochDay_3 16 rfl rfl)
theorem dX10_toEpochDay_88 : decode cX10_toEpochDay 88 = .ok (.lstore 5, 2) := dk_55 5 (dk_at dksX10_toEpochDay_3 17 rfl rfl)
theorem dX10_toEpochDay_90 : decode cX10_toEpochDay 90 = .ok (.lload 5, 2) := dk_22 5 (dk_at dksX10_toEpochDay_3 19 rfl rfl)
theorem dX10_toEpochDay_92 : decode cX10_toEpochDay 92 = .ok (.ldc2_w 94, 3) := dk_20 0 94 (dk_at dksX10_toEpochDay_3 21 rfl rfl)
theorem dX10_toEpochDay_95 : decode cX10_toEpochDay 95 = .ok (.lload_n 3, 1) := dk_33 (dk_at dksX10_toEpochDay_4 0 rfl rfl)
theorem dX10_toEpochDay_96 : decode cX10_toEpochDay 96 = .ok (.lmul, 1) := dk_105 (dk_at dksX10_toEpochDay_4 1 rfl rfl)
theorem dX10_toEpochDay_97 : decode cX10_toEpochDay 97 = .ok (.ldc2_w 96, 3) := dk_20 0 96 (dk_at dksX10_toEpochDay_4 2 rfl rfl)
theorem dX10_toEpochDay_100 : decode cX10_toEpochDay 100 = .ok (.lsub, 1) := dk_101 (dk_at dksX10_toEpochDay_4 5 rfl rfl)
theorem dX10_toEpochDay_101 : decode cX10_toEpochDay 101 = .ok (.ldc2_w 98, 3) := dk_20 0 98 (dk_at dksX10_toEpochDay_4 6 rfl rfl)
theorem dX10_toEpochDay_104 : decode cX10_toEpochDay 104 = .ok (.ldiv, 1) := dk_109 (dk_at dksX10_toEpochDay_4 9 rfl rfl)
theorem dX10_toEpochDay_105 : decode cX10_toEpochDay 105 = .ok (.ladd, 1) := dk_97 (dk_at dksX10_toEpochDay_4 10 rfl rfl)
theorem dX10_toEpochDay_106 : decode cX10_toEpochDay 106 = .ok (.lstore 5, 2) := dk_55 5 (dk_at dksX10_toEpochDay_4 11 rfl rfl)
theorem dX10_toEpochDay_108 : decode cX10_toEpochDay 108 = .ok (.lload 5, 2) := dk_22 5 (dk_at dksX10_toEpochDay_4 13 rfl rfl)
theorem dX10_toEpochDay_110 : decode cX10_toEpochDay 110 = .ok (.aload_n 0, 1) := dk_42 (dk_at dksX10_toEpochDay_4 15 rfl rfl)
theorem dX10_toEpochDay_111 : decode cX10_toEpochDay 111 = .ok (.getfield 71, 3) := dk_180 0 71 (dk_at dksX10_toEpochDay_4 16 rfl rfl)
theorem dX10_toEpochDay_114 : decode cX10_toEpochDay 114 = .ok (.iconst 1, 1) := dk_4 (dk_at dksX10_toEpochDay_4 19 rfl rfl)
theorem dX10_toEpochDay_115 : decode cX10_toEpochDay 115 = .ok (.isub, 1) := dk_100 (dk_at dksX10_toEpochDay_4 20 rfl rfl)
theorem dX10_toEpochDay_116 : decode cX10_toEpochDay 116 = .ok (.i2l, 1) := dk_133 (dk_at dksX10_toEpochDay_4 21 rfl rfl)
theorem dX10_toEpochDay_117 : decode cX10_toEpochDay 117 = .ok (.ladd, 1) := dk_97 (dk_at dksX10_toEpochDay_4 22 rfl rfl)
theorem dX10_toEpochDay_118 : decode cX10_toEpochDay 118 = .ok (.lstore 5, 2) := dk_55 5 (dk_at dksX10_toEpochDay_5 0 rfl rfl)
theorem dX10_toEpochDay_120 : decode cX10_toEpochDay 120 = .ok (.lload_n 3, 1) := dk_33 (dk_at dksX10_toEpochDay_5 2 rfl rfl)
theorem dX10_toEpochDay_121 : decode cX10_toEpochDay 121 = .ok (.ldc2_w 100, 3) := dk_20 0 100 (dk_at dksX10_toEpochDay_5 3 rfl rfl)
theorem dX10_toEpochDay_124 : decode cX10_toEpochDay 124 = .ok (.lcmp, 1) := dk_148 (dk_at dksX10_toEpochDay_5 6 rfl rfl)
theorem dX10_toEpochDay_125 : decode cX10_toEpochDay 125 = .ok (.ifCond .le 22, 3) := dk_158 0 22 (dk_at dksX10_toEpochDay_5 7 rfl rfl)
theorem dX10_toEpochDay_128 : decode cX10_toEpochDay 128 = .ok (.lload 5, 2) := dk_22 5 (dk_at dksX10_toEpochDay_5 10 rfl rfl)
theorem dX10_toEpochDay_130 : decode cX10_toEpochDay 130 = .ok (.lconst 1, 1) := dk_10 (dk_at dksX10_toEpochDay_5 12 rfl rfl)
theorem dX10_toEpochDay_131 : decode cX10_toEpochDay 131 = .ok (.lsub, 1) := dk_101 (dk_at dksX10_toEpochDay_5 13 rfl rfl)
theorem dX10_toEpochDay_132 : decode cX10_toEpochDay 132 = .ok (.lstore 5, 2) := dk_55 5 (dk_at dksX10_toEpochDay_5 14 rfl rfl)
theorem dX10_toEpochDay_134 : decode cX10_toEpochDay 134 = .ok (.aload_n 0, 1) := dk_42 (dk_at dksX10_toEpochDay_5 16 rfl rfl)
theorem dX10_toEpochDay_135 : decode cX10_toEpochDay 135 = .ok (.invokevirtual 102, 3) := dk_182 0 102 (dk_at dksX10_toEpochDay_5 17 rfl rfl)
theorem dX10_toEpochDay_138 : decode cX10_toEpochDay 138 = .ok (.ifCond .ne 9, 3) := dk_154 0 9 (dk_at dksX10_toEpochDay_5 20 rfl rfl)
theorem dX10_toEpochDay_141 : decode cX10_toEpochDay 141 = .ok (.lload 5, 2) := dk_22 5 (dk_at dksX10_toEpochDay_6 0 rfl rfl)
theorem dX10_toEpochDay_143 : decode cX10_toEpochDay 143 = .ok (.lconst 1, 1) := dk_10 (dk_at dksX10_toEpochDay_6 2 rfl rfl)
theorem dX10_toEpochDay_144 : decode cX10_toEpochDay 144 = .ok (.lsub, 1) := dk_101 (dk_at dksX10_toEpochDay_6 3 rfl rfl)
theorem dX10_toEpochDay_145 : decode cX10_toEpochDay 145 = .ok (.lstore 5, 2) := dk_55 5 (dk_at dksX10_toEpochDay_6 4 rfl rfl)
theorem dX10_toEpochDay_147 : decode cX10_toEpochDay 147 = .ok (.lload 5, 2) := dk_22 5 (dk_at dksX10_toEpochDay_6 6 rfl rfl)
theorem dX10_toEpochDay_149 : decode cX10_toEpochDay 149 = .ok (.ldc2_w 105, 3) := dk_20 0 105 (dk_at dksX10_toEpochDay_6 8 rfl rfl)
theorem dX10_toEpochDay_152 : decode cX10_toEpochDay 152 = .ok (.lsub, 1) := dk_101 (dk_at dksX10_toEpochDay_6 11 rfl rfl)
theorem dX10_toEpochDay_153 : decode cX10_toEpochDay 153 = .ok (.lreturn, 1) := dk_173 (dk_at dksX10_toEpochDay_6 12 rfl rfl)
abbrev cX10_isLeapYear : ByteArray := prog_11_method_4_code
def yX10_isLeapYear : MethodName := ⟨RX10, "isLeapYear", "()Z"⟩
def dkwX10_isLeapYear_0 : List UInt8 := [178, 0, 29, 42, 180, 0, 63, 133, 182, 0, 35, 172]
abbrev dktX10_isLeapYear_0 : List UInt8 := dkwX10_isLeapYear_0 ++ []
theorem dksX10_isLeapYear_0 : cX10_isLeapYear.data.toList.drop 0 = dktX10_isLeapYear_0 := by decide +kernel
theorem dX10_isLeapYear_0 : decode cX10_isLeapYear 0 = .ok (.getstatic 29, 3) := dk_178 0 29 (dk_at dksX10_isLeapYear_0 0 rfl rfl)
theorem dX10_isLeapYear_3 : decode cX10_isLeapYear 3 = .ok (.aload_n 0, 1) := dk_42 (dk_at dksX10_isLeapYear_0 3 rfl rfl)
theorem dX10_isLeapYear_4 : decode cX10_isLeapYear 4 = .ok (.getfield 63, 3) := dk_180 0 63 (dk_at dksX10_isLeapYear_0 4 rfl rfl)
theorem dX10_isLeapYear_7 : decode cX10_isLeapYear 7 = .ok (.i2l, 1) := dk_133 (dk_at dksX10_isLeapYear_0 7 rfl rfl)
theorem dX10_isLeapYear_8 : decode cX10_isLeapYear 8 = .ok (.invokevirtual 35, 3) := dk_182 0 35 (dk_at dksX10_isLeapYear_0 8 rfl rfl)
theorem dX10_isLeapYear_11 : decode cX10_isLeapYear 11 = .ok (.ireturn, 1) := dk_172 (dk_at dksX10_isLeapYear_0 11 rfl rfl)
theorem q17 : (Jvm.Cond.initialized "LocalDate") ∈ lw_all := lw_g (lw_at lw_m1 15 rfl) rfl
theorem q333 : (Jvm.Cond.static ({ cls := "LocalDate", name := "of", desc := "(III)LLocalDate;" } : Jvm.MethodName)) ∈ lw_all := lw_g (lw_at lw_m2 91 rfl) rfl
theorem q334 : (Jvm.Cond.code ({ cls := "LocalDate", name := "of", desc := "(III)LLocalDate;" } : Jvm.MethodName) prog_11_method_1_code (3 : Nat) (Option.some (Jvm.ClassFile.FieldType.object "LocalDate"))) ∈ lw_all := lw_g (lw_at lw_m2 92 rfl) rfl
theorem q335 : (Jvm.Cond.fieldLink "LocalDate" (3 : Nat) "ChronoField" "YEAR" "LChronoField;") ∈ lw_all := lw_g (lw_at lw_m2 93 rfl) rfl
theorem q336 : (Jvm.Cond.methodLink "LocalDate" (9 : Nat) ({ cls := "ChronoField", name := "checkValidValue", desc := "(J)J" } : Jvm.MethodName)) ∈ lw_all := lw_g (lw_at lw_m2 94 rfl) rfl
theorem q337 : (Jvm.Cond.fieldLink "LocalDate" (13 : Nat) "ChronoField" "MONTH_OF_YEAR" "LChronoField;") ∈ lw_all := lw_g (lw_at lw_m2 95 rfl) rfl
theorem q338 : (Jvm.Cond.fieldLink "LocalDate" (16 : Nat) "ChronoField" "DAY_OF_MONTH" "LChronoField;") ∈ lw_all := lw_g (lw_at lw_m2 96 rfl) rfl
theorem q340 : (Jvm.Cond.methodLink "LocalDate" (19 : Nat) ({ cls := "Month", name := "of", desc := "(I)LMonth;" } : Jvm.MethodName)) ∈ lw_all := lw_g (lw_at lw_m2 98 rfl) rfl
theorem q341 : (Jvm.Cond.methodLink "LocalDate" (25 : Nat) ({ cls := "LocalDate", name := "create", desc := "(ILMonth;I)LLocalDate;" } : Jvm.MethodName)) ∈ lw_all := lw_g (lw_at lw_m2 99 rfl) rfl
theorem q342 : (Jvm.Cond.static ({ cls := "LocalDate", name := "create", desc := "(ILMonth;I)LLocalDate;" } : Jvm.MethodName)) ∈ lw_all := lw_g (lw_at lw_m2 100 rfl) rfl
theorem q343 : (Jvm.Cond.code ({ cls := "LocalDate", name := "create", desc := "(ILMonth;I)LLocalDate;" } : Jvm.MethodName) prog_11_method_2_code (3 : Nat) (Option.some (Jvm.ClassFile.FieldType.object "LocalDate"))) ∈ lw_all := lw_g (lw_at lw_m2 101 rfl) rfl
theorem q344 : (Jvm.Cond.fieldLink "LocalDate" (29 : Nat) "IsoChronology" "INSTANCE" "LIsoChronology;") ∈ lw_all := lw_g (lw_at lw_m2 102 rfl) rfl
theorem q345 : (Jvm.Cond.methodLink "LocalDate" (35 : Nat) ({ cls := "IsoChronology", name := "isLeapYear", desc := "(J)Z" } : Jvm.MethodName)) ∈ lw_all := lw_g (lw_at lw_m2 103 rfl) rfl
theorem q346 : (Jvm.Cond.methodLink "LocalDate" (39 : Nat) ({ cls := "Month", name := "length", desc := "(Z)I" } : Jvm.MethodName)) ∈ lw_all := lw_g (lw_at lw_m2 104 rfl) rfl
theorem q347 : (Jvm.Cond.classLink "LocalDate" (43 : Nat) "DateTimeException") ∈ lw_all := lw_g (lw_at lw_m2 105 rfl) rfl
theorem q348 : (Jvm.Cond.stringRef "LocalDate" (45 : Nat) "left out") ∈ lw_tbl := lw_at lw_m2 106 rfl
theorem q349 : (Jvm.Cond.methodLink "LocalDate" (47 : Nat) ({ cls := "DateTimeException", name := "<init>", desc := "(Ljava/lang/String;)V" } : Jvm.MethodName)) ∈ lw_all := lw_g (lw_at lw_m2 107 rfl) rfl
theorem q350 : (Jvm.Cond.classLink "LocalDate" (1 : Nat) "LocalDate") ∈ lw_all := lw_g (lw_at lw_m2 108 rfl) rfl
theorem q351 : (Jvm.Cond.instantiable "LocalDate" (3 : Nat)) ∈ lw_all := lw_g (lw_at lw_m2 109 rfl) rfl
theorem q352 : (Jvm.Cond.methodLink "LocalDate" (51 : Nat) ({ cls := "Month", name := "getValue", desc := "()I" } : Jvm.MethodName)) ∈ lw_all := lw_g (lw_at lw_m2 110 rfl) rfl
theorem q356 : (Jvm.Cond.methodLink "LocalDate" (55 : Nat) ({ cls := "LocalDate", name := "<init>", desc := "(III)V" } : Jvm.MethodName)) ∈ lw_all := lw_g (lw_at lw_m2 114 rfl) rfl
theorem q357 : (Jvm.Cond.instanceMethod ({ cls := "LocalDate", name := "<init>", desc := "(III)V" } : Jvm.MethodName)) ∈ lw_all := lw_g (lw_at lw_m2 115 rfl) rfl
theorem q358 : (Jvm.Cond.code ({ cls := "LocalDate", name := "<init>", desc := "(III)V" } : Jvm.MethodName) prog_11_method_3_code (4 : Nat) (Option.none : Option Jvm.ClassFile.FieldType)) ∈ lw_all := lw_g (lw_at lw_m2 116 rfl) rfl
theorem q359 : (Jvm.Cond.methodLink "LocalDate" (58 : Nat) ({ cls := "ChronoLocalDate", name := "<init>", desc := "()V" } : Jvm.MethodName)) ∈ lw_all := lw_g (lw_at lw_m2 117 rfl) rfl
theorem q366 : (Jvm.Cond.fieldLink "LocalDate" (63 : Nat) "LocalDate" "year" "I") ∈ lw_all := lw_g (lw_at lw_m2 124 rfl) rfl
theorem q367 : (Jvm.Cond.fieldLink "LocalDate" (67 : Nat) "LocalDate" "month" "S") ∈ lw_all := lw_g (lw_at lw_m2 125 rfl) rfl
theorem q368 : (Jvm.Cond.fieldLink "LocalDate" (71 : Nat) "LocalDate" "day" "S") ∈ lw_all := lw_g (lw_at lw_m2 126 rfl) rfl
theorem q369 : (Jvm.Cond.laysFinal "LocalDate" "LocalDate" "year" "I") ∈ lw_all := lw_g (lw_at lw_m2 127 rfl) rfl
theorem q370 : (Jvm.Cond.soleField "LocalDate" "year") ∈ lw_all := lw_g (lw_at lw_m2 128 rfl) rfl
theorem q371 : (Jvm.Cond.laysFinal "LocalDate" "LocalDate" "month" "S") ∈ lw_all := lw_g (lw_at lw_m2 129 rfl) rfl
theorem q372 : (Jvm.Cond.soleField "LocalDate" "month") ∈ lw_all := lw_g (lw_at lw_m2 130 rfl) rfl
theorem q373 : (Jvm.Cond.laysFinal "LocalDate" "LocalDate" "day" "S") ∈ lw_all := lw_g (lw_at lw_m2 131 rfl) rfl
theorem q374 : (Jvm.Cond.soleField "LocalDate" "day") ∈ lw_all := lw_g (lw_at lw_m2 132 rfl) rfl
theorem q375 : (Jvm.Cond.superclass "LocalDate" "ChronoLocalDate") ∈ lw_all := lw_g (lw_at lw_m2 133 rfl) rfl
theorem q377 : (Jvm.Cond.instanceMethod ({ cls := "LocalDate", name := "toEpochDay", desc := "()J" } : Jvm.MethodName)) ∈ lw_all := lw_g (lw_at lw_m2 135 rfl) rfl
theorem q378 : (Jvm.Cond.selects "LocalDate" ({ cls := "LocalDate", name := "toEpochDay", desc := "()J" } : Jvm.MethodName) ({ cls := "LocalDate", name := "toEpochDay", desc := "()J" } : Jvm.MethodName)) ∈ lw_all := lw_g (lw_at lw_m2 136 rfl) rfl
theorem q379 : (Jvm.Cond.code ({ cls := "LocalDate", name := "toEpochDay", desc := "()J" } : Jvm.MethodName) prog_11_method_5_code (7 : Nat) (Option.some Jvm.ClassFile.FieldType.long)) ∈ lw_all := lw_g (lw_at lw_m2 137 rfl) rfl
theorem q380 : (Jvm.Cond.constantLong "LocalDate" (74 : Nat) (365 : Int64)) ∈ lw_all := lw_g (lw_at lw_m2 138 rfl) rfl
theorem q381 : (Jvm.Cond.constantLong "LocalDate" (76 : Nat) (3 : Int64)) ∈ lw_all := lw_g (lw_at lw_m2 139 rfl) rfl
theorem q382 : (Jvm.Cond.constantLong "LocalDate" (78 : Nat) (4 : Int64)) ∈ lw_all := lw_g (lw_at lw_m2 140 rfl) rfl
theorem q383 : (Jvm.Cond.constantLong "LocalDate" (80 : Nat) (99 : Int64)) ∈ lw_all := lw_g (lw_at lw_m2 141 rfl) rfl
theorem q384 : (Jvm.Cond.constantLong "LocalDate" (82 : Nat) (100 : Int64)) ∈ lw_all := lw_g (lw_at lw_m2 142 rfl) rfl
theorem q385 : (Jvm.Cond.constantLong "LocalDate" (84 : Nat) (399 : Int64)) ∈ lw_all := lw_g (lw_at lw_m2 143 rfl) rfl
theorem q386 : (Jvm.Cond.constantLong "LocalDate" (86 : Nat) (400 : Int64)) ∈ lw_all := lw_g (lw_at lw_m2 144 rfl) rfl
theorem q387 : (Jvm.Cond.constantLong "LocalDate" (88 : Nat) (-4 : Int64)) ∈ lw_all := lw_g (lw_at lw_m2 145 rfl) rfl
theorem q388 : (Jvm.Cond.constantLong "LocalDate" (90 : Nat) (-100 : Int64)) ∈ lw_all := lw_g (lw_at lw_m2 146 rfl) rfl
theorem q389 : (Jvm.Cond.constantLong "LocalDate" (92 : Nat) (-400 : Int64)) ∈ lw_all := lw_g (lw_at lw_m2 147 rfl) rfl
theorem q390 : (Jvm.Cond.constantLong "LocalDate" (94 : Nat) (367 : Int64)) ∈ lw_all := lw_g (lw_at lw_m2 148 rfl) rfl
theorem q391 : (Jvm.Cond.constantLong "LocalDate" (96 : Nat) (362 : Int64)) ∈ lw_all := lw_g (lw_at lw_m2 149 rfl) rfl
theorem q392 : (Jvm.Cond.constantLong "LocalDate" (98 : Nat) (12 : Int64)) ∈ lw_all := lw_g (lw_at lw_m2 150 rfl) rfl
theorem q393 : (Jvm.Cond.constantLong "LocalDate" (100 : Nat) (2 : Int64)) ∈ lw_all := lw_g (lw_at lw_m2 151 rfl) rfl
theorem q394 : (Jvm.Cond.methodLink "LocalDate" (102 : Nat) ({ cls := "LocalDate", name := "isLeapYear", desc := "()Z" } : Jvm.MethodName)) ∈ lw_all := lw_g (lw_at lw_m2 152 rfl) rfl
theorem q395 : (Jvm.Cond.instanceMethod ({ cls := "LocalDate", name := "isLeapYear", desc := "()Z" } : Jvm.MethodName)) ∈ lw_all := lw_g (lw_at lw_m2 153 rfl) rfl
theorem q396 : (Jvm.Cond.selects "LocalDate" ({ cls := "LocalDate", name := "isLeapYear", desc := "()Z" } : Jvm.MethodName) ({ cls := "LocalDate", name := "isLeapYear", desc := "()Z" } : Jvm.MethodName)) ∈ lw_all := lw_g (lw_at lw_m2 154 rfl) rfl
theorem q397 : (Jvm.Cond.code ({ cls := "LocalDate", name := "isLeapYear", desc := "()Z" } : Jvm.MethodName) prog_11_method_4_code (1 : Nat) (Option.some Jvm.ClassFile.FieldType.boolean)) ∈ lw_all := lw_g (lw_at lw_m2 155 rfl) rfl
theorem q398 : (Jvm.Cond.constantLong "LocalDate" (105 : Nat) (719528 : Int64)) ∈ lw_all := lw_g (lw_at lw_m2 156 rfl) rfl
theorem in_X10 : ∀ w ∈ wsX100, w ∈ lw_all := lw_in wsX100 [369, 371, 373] (by decide +kernel) (by decide +kernel)
/-! Jdk8Methods -/
set_option maxRecDepth 100000
def RX11 : String := "Jdk8Methods"
abbrev cX11_floorDiv : ByteArray := prog_10_method_2_code
def yX11_floorDiv : MethodName := ⟨RX11, "floorDiv", "(JJ)J"⟩
def dkwX11_floorDiv_0 : List UInt8 := [30, 9, 148, 155, 0, 9, 30, 32, 109, 167, 0, 10, 30, 10, 97, 32, 109, 10, 101, 173]
abbrev dktX11_floorDiv_0 : List UInt8 := dkwX11_floorDiv_0 ++ []
theorem dksX11_floorDiv_0 : cX11_floorDiv.data.toList.drop 0 = dktX11_floorDiv_0 := by decide +kernel
theorem dX11_floorDiv_0 : decode cX11_floorDiv 0 = .ok (.lload_n 0, 1) := dk_30 (dk_at dksX11_floorDiv_0 0 rfl rfl)
theorem dX11_floorDiv_1 : decode cX11_floorDiv 1 = .ok (.lconst 0, 1) := dk_9 (dk_at dksX11_floorDiv_0 1 rfl rfl)
theorem dX11_floorDiv_2 : decode cX11_floorDiv 2 = .ok (.lcmp, 1) := dk_148 (dk_at dksX11_floorDiv_0 2 rfl rfl)
theorem dX11_floorDiv_3 : decode cX11_floorDiv 3 = .ok (.ifCond .lt 9, 3) := dk_155 0 9 (dk_at dksX11_floorDiv_0 3 rfl rfl)
theorem dX11_floorDiv_6 : decode cX11_floorDiv 6 = .ok (.lload_n 0, 1) := dk_30 (dk_at dksX11_floorDiv_0 6 rfl rfl)
theorem dX11_floorDiv_7 : decode cX11_floorDiv 7 = .ok (.lload_n 2, 1) := dk_32 (dk_at dksX11_floorDiv_0 7 rfl rfl)
theorem dX11_floorDiv_8 : decode cX11_floorDiv 8 = .ok (.ldiv, 1) := dk_109 (dk_at dksX11_floorDiv_0 8 rfl rfl)
theorem dX11_floorDiv_9 : decode cX11_floorDiv 9 = .ok (.goto 10, 3) := dk_167 0 10 (dk_at dksX11_floorDiv_0 9 rfl rfl)
theorem dX11_floorDiv_12 : decode cX11_floorDiv 12 = .ok (.lload_n 0, 1) := dk_30 (dk_at dksX11_floorDiv_0 12 rfl rfl)
theorem dX11_floorDiv_13 : decode cX11_floorDiv 13 = .ok (.lconst 1, 1) := dk_10 (dk_at dksX11_floorDiv_0 13 rfl rfl)
theorem dX11_floorDiv_14 : decode cX11_floorDiv 14 = .ok (.ladd, 1) := dk_97 (dk_at dksX11_floorDiv_0 14 rfl rfl)
theorem dX11_floorDiv_15 : decode cX11_floorDiv 15 = .ok (.lload_n 2, 1) := dk_32 (dk_at dksX11_floorDiv_0 15 rfl rfl)
theorem dX11_floorDiv_16 : decode cX11_floorDiv 16 = .ok (.ldiv, 1) := dk_109 (dk_at dksX11_floorDiv_0 16 rfl rfl)
theorem dX11_floorDiv_17 : decode cX11_floorDiv 17 = .ok (.lconst 1, 1) := dk_10 (dk_at dksX11_floorDiv_0 17 rfl rfl)
theorem dX11_floorDiv_18 : decode cX11_floorDiv 18 = .ok (.lsub, 1) := dk_101 (dk_at dksX11_floorDiv_0 18 rfl rfl)
theorem dX11_floorDiv_19 : decode cX11_floorDiv 19 = .ok (.lreturn, 1) := dk_173 (dk_at dksX11_floorDiv_0 19 rfl rfl)
abbrev cX11_floorMod : ByteArray := prog_10_method_3_code
def yX11_floorMod : MethodName := ⟨RX11, "floorMod", "(JI)I"⟩
def dkwX11_floorMod_0 : List UInt8 := [30, 28, 133, 113, 28, 133, 97, 28, 133, 113, 136, 172]
abbrev dktX11_floorMod_0 : List UInt8 := dkwX11_floorMod_0 ++ []
theorem dksX11_floorMod_0 : cX11_floorMod.data.toList.drop 0 = dktX11_floorMod_0 := by decide +kernel
theorem dX11_floorMod_0 : decode cX11_floorMod 0 = .ok (.lload_n 0, 1) := dk_30 (dk_at dksX11_floorMod_0 0 rfl rfl)
theorem dX11_floorMod_1 : decode cX11_floorMod 1 = .ok (.iload_n 2, 1) := dk_28 (dk_at dksX11_floorMod_0 1 rfl rfl)
theorem dX11_floorMod_2 : decode cX11_floorMod 2 = .ok (.i2l, 1) := dk_133 (dk_at dksX11_floorMod_0 2 rfl rfl)
theorem dX11_floorMod_3 : decode cX11_floorMod 3 = .ok (.lrem, 1) := dk_113 (dk_at dksX11_floorMod_0 3 rfl rfl)
theorem dX11_floorMod_4 : decode cX11_floorMod 4 = .ok (.iload_n 2, 1) := dk_28 (dk_at dksX11_floorMod_0 4 rfl rfl)
theorem dX11_floorMod_5 : decode cX11_floorMod 5 = .ok (.i2l, 1) := dk_133 (dk_at dksX11_floorMod_0 5 rfl rfl)
theorem dX11_floorMod_6 : decode cX11_floorMod 6 = .ok (.ladd, 1) := dk_97 (dk_at dksX11_floorMod_0 6 rfl rfl)
theorem dX11_floorMod_7 : decode cX11_floorMod 7 = .ok (.iload_n 2, 1) := dk_28 (dk_at dksX11_floorMod_0 7 rfl rfl)
theorem dX11_floorMod_8 : decode cX11_floorMod 8 = .ok (.i2l, 1) := dk_133 (dk_at dksX11_floorMod_0 8 rfl rfl)
theorem dX11_floorMod_9 : decode cX11_floorMod 9 = .ok (.lrem, 1) := dk_113 (dk_at dksX11_floorMod_0 9 rfl rfl)
theorem dX11_floorMod_10 : decode cX11_floorMod 10 = .ok (.l2i, 1) := dk_136 (dk_at dksX11_floorMod_0 10 rfl rfl)
theorem dX11_floorMod_11 : decode cX11_floorMod 11 = .ok (.ireturn, 1) := dk_172 (dk_at dksX11_floorMod_0 11 rfl rfl)
theorem q18 : (Jvm.Cond.initialized "Jdk8Methods") ∈ lw_all := lw_g (lw_at lw_m1 16 rfl) rfl
theorem q162 : (Jvm.Cond.static ({ cls := "Jdk8Methods", name := "floorDiv", desc := "(JJ)J" } : Jvm.MethodName)) ∈ lw_all := lw_g (lw_at lw_m1 160 rfl) rfl
theorem q163 : (Jvm.Cond.code ({ cls := "Jdk8Methods", name := "floorDiv", desc := "(JJ)J" } : Jvm.MethodName) prog_10_method_2_code (4 : Nat) (Option.some Jvm.ClassFile.FieldType.long)) ∈ lw_all := lw_g (lw_at lw_m1 161 rfl) rfl
theorem q183 : (Jvm.Cond.static ({ cls := "Jdk8Methods", name := "floorMod", desc := "(JI)I" } : Jvm.MethodName)) ∈ lw_all := lw_g (lw_at lw_m1 181 rfl) rfl
theorem q184 : (Jvm.Cond.code ({ cls := "Jdk8Methods", name := "floorMod", desc := "(JI)I" } : Jvm.MethodName) prog_10_method_3_code (3 : Nat) (Option.some Jvm.ClassFile.FieldType.int)) ∈ lw_all := lw_g (lw_at lw_m1 182 rfl) rfl
/-! java/lang/Object -/
set_option maxRecDepth 100000
def RJ4 : String := "java/lang/Object"
abbrev cJ4_init : ByteArray := object_method_1_code
def yJ4_init : MethodName := ⟨RJ4, "<init>", "()V"⟩
theorem dJ4_init_0 : decode cJ4_init 0 = .ok (.return_, 1) := by decide +kernel
theorem q25 : (Jvm.Cond.instanceMethod ({ cls := "java/lang/Object", name := "<init>", desc := "()V" } : Jvm.MethodName)) ∈ lw_all := lw_g (lw_at lw_m1 23 rfl) rfl
theorem q26 : (Jvm.Cond.code ({ cls := "java/lang/Object", name := "<init>", desc := "()V" } : Jvm.MethodName) object_method_1_code (1 : Nat) (Option.none : Option Jvm.ClassFile.FieldType)) ∈ lw_all := lw_g (lw_at lw_m1 24 rfl) rfl
/-! ValueRange -/
set_option maxRecDepth 100000
def RX12 : String := "ValueRange"
abbrev cX12_checkValidValue : ByteArray := prog_17_method_10_code
def yX12_checkValidValue : MethodName := ⟨RX12, "checkValidValue", "(JLTemporalField;)J"⟩
def dkwX12_checkValidValue_1 : List UInt8 := [187, 0, 61, 89, 18, 63, 183, 0, 65, 191, 31, 173]
abbrev dktX12_checkValidValue_1 : List UInt8 := dkwX12_checkValidValue_1 ++ []
def dkwX12_checkValidValue_0 : List UInt8 := [42, 31, 182, 0, 57, 154, 0, 27, 45, 198, 0, 13, 187, 0, 61, 89, 18, 63, 183, 0, 65, 191]
abbrev dktX12_checkValidValue_0 : List UInt8 := dkwX12_checkValidValue_0 ++ dktX12_checkValidValue_1
theorem dksX12_checkValidValue_0 : cX12_checkValidValue.data.toList.drop 0 = dktX12_checkValidValue_0 := by decide +kernel
theorem dksX12_checkValidValue_1 : cX12_checkValidValue.data.toList.drop 22 = dktX12_checkValidValue_1 := dk_seg dksX12_checkValidValue_0 22 rfl rfl
theorem dX12_checkValidValue_0 : decode cX12_checkValidValue 0 = .ok (.aload_n 0, 1) := dk_42 (dk_at dksX12_checkValidValue_0 0 rfl rfl)
theorem dX12_checkValidValue_1 : decode cX12_checkValidValue 1 = .ok (.lload_n 1, 1) := dk_31 (dk_at dksX12_checkValidValue_0 1 rfl rfl)
theorem dX12_checkValidValue_2 : decode cX12_checkValidValue 2 = .ok (.invokevirtual 57, 3) := dk_182 0 57 (dk_at dksX12_checkValidValue_0 2 rfl rfl)
theorem dX12_checkValidValue_5 : decode cX12_checkValidValue 5 = .ok (.ifCond .ne 27, 3) := dk_154 0 27 (dk_at dksX12_checkValidValue_0 5 rfl rfl)
theorem dX12_checkValidValue_8 : decode cX12_checkValidValue 8 = .ok (.aload_n 3, 1) := dk_45 (dk_at dksX12_checkValidValue_0 8 rfl rfl)
theorem dX12_checkValidValue_9 : decode cX12_checkValidValue 9 = .ok (.ifnull 13, 3) := dk_198 0 13 (dk_at dksX12_checkValidValue_0 9 rfl rfl)
theorem dX12_checkValidValue_12 : decode cX12_checkValidValue 12 = .ok (.new 61, 3) := dk_187 0 61 (dk_at dksX12_checkValidValue_0 12 rfl rfl)
theorem dX12_checkValidValue_15 : decode cX12_checkValidValue 15 = .ok (.dup, 1) := dk_89 (dk_at dksX12_checkValidValue_0 15 rfl rfl)
theorem dX12_checkValidValue_16 : decode cX12_checkValidValue 16 = .ok (.ldc 63, 2) := dk_18 63 (dk_at dksX12_checkValidValue_0 16 rfl rfl)
theorem dX12_checkValidValue_18 : decode cX12_checkValidValue 18 = .ok (.invokespecial 65, 3) := dk_183 0 65 (dk_at dksX12_checkValidValue_0 18 rfl rfl)
theorem dX12_checkValidValue_21 : decode cX12_checkValidValue 21 = .ok (.athrow, 1) := dk_191 (dk_at dksX12_checkValidValue_0 21 rfl rfl)
theorem dX12_checkValidValue_22 : decode cX12_checkValidValue 22 = .ok (.new 61, 3) := dk_187 0 61 (dk_at dksX12_checkValidValue_1 0 rfl rfl)
theorem dX12_checkValidValue_25 : decode cX12_checkValidValue 25 = .ok (.dup, 1) := dk_89 (dk_at dksX12_checkValidValue_1 3 rfl rfl)
theorem dX12_checkValidValue_26 : decode cX12_checkValidValue 26 = .ok (.ldc 63, 2) := dk_18 63 (dk_at dksX12_checkValidValue_1 4 rfl rfl)
theorem dX12_checkValidValue_28 : decode cX12_checkValidValue 28 = .ok (.invokespecial 65, 3) := dk_183 0 65 (dk_at dksX12_checkValidValue_1 6 rfl rfl)
theorem dX12_checkValidValue_31 : decode cX12_checkValidValue 31 = .ok (.athrow, 1) := dk_191 (dk_at dksX12_checkValidValue_1 9 rfl rfl)
theorem dX12_checkValidValue_32 : decode cX12_checkValidValue 32 = .ok (.lload_n 1, 1) := dk_31 (dk_at dksX12_checkValidValue_1 10 rfl rfl)
theorem dX12_checkValidValue_33 : decode cX12_checkValidValue 33 = .ok (.lreturn, 1) := dk_173 (dk_at dksX12_checkValidValue_1 11 rfl rfl)
abbrev cX12_isValidValue : ByteArray := prog_17_method_8_code
def yX12_isValidValue : MethodName := ⟨RX12, "isValidValue", "(J)Z"⟩
def dkwX12_isValidValue_0 : List UInt8 := [31, 42, 182, 0, 40, 148, 155, 0, 16, 31, 42, 182, 0, 48, 148, 157, 0, 7, 4, 167, 0, 4, 3, 172]
abbrev dktX12_isValidValue_0 : List UInt8 := dkwX12_isValidValue_0 ++ []
theorem dksX12_isValidValue_0 : cX12_isValidValue.data.toList.drop 0 = dktX12_isValidValue_0 := by decide +kernel
theorem dX12_isValidValue_0 : decode cX12_isValidValue 0 = .ok (.lload_n 1, 1) := dk_31 (dk_at dksX12_isValidValue_0 0 rfl rfl)
theorem dX12_isValidValue_1 : decode cX12_isValidValue 1 = .ok (.aload_n 0, 1) := dk_42 (dk_at dksX12_isValidValue_0 1 rfl rfl)
theorem dX12_isValidValue_2 : decode cX12_isValidValue 2 = .ok (.invokevirtual 40, 3) := dk_182 0 40 (dk_at dksX12_isValidValue_0 2 rfl rfl)
theorem dX12_isValidValue_5 : decode cX12_isValidValue 5 = .ok (.lcmp, 1) := dk_148 (dk_at dksX12_isValidValue_0 5 rfl rfl)
theorem dX12_isValidValue_6 : decode cX12_isValidValue 6 = .ok (.ifCond .lt 16, 3) := dk_155 0 16 (dk_at dksX12_isValidValue_0 6 rfl rfl)
theorem dX12_isValidValue_9 : decode cX12_isValidValue 9 = .ok (.lload_n 1, 1) := dk_31 (dk_at dksX12_isValidValue_0 9 rfl rfl)
theorem dX12_isValidValue_10 : decode cX12_isValidValue 10 = .ok (.aload_n 0, 1) := dk_42 (dk_at dksX12_isValidValue_0 10 rfl rfl)
theorem dX12_isValidValue_11 : decode cX12_isValidValue 11 = .ok (.invokevirtual 48, 3) := dk_182 0 48 (dk_at dksX12_isValidValue_0 11 rfl rfl)
theorem dX12_isValidValue_14 : decode cX12_isValidValue 14 = .ok (.lcmp, 1) := dk_148 (dk_at dksX12_isValidValue_0 14 rfl rfl)
theorem dX12_isValidValue_15 : decode cX12_isValidValue 15 = .ok (.ifCond .gt 7, 3) := dk_157 0 7 (dk_at dksX12_isValidValue_0 15 rfl rfl)
theorem dX12_isValidValue_18 : decode cX12_isValidValue 18 = .ok (.iconst 1, 1) := dk_4 (dk_at dksX12_isValidValue_0 18 rfl rfl)
theorem dX12_isValidValue_19 : decode cX12_isValidValue 19 = .ok (.goto 4, 3) := dk_167 0 4 (dk_at dksX12_isValidValue_0 19 rfl rfl)
theorem dX12_isValidValue_22 : decode cX12_isValidValue 22 = .ok (.iconst 0, 1) := dk_3 (dk_at dksX12_isValidValue_0 22 rfl rfl)
theorem dX12_isValidValue_23 : decode cX12_isValidValue 23 = .ok (.ireturn, 1) := dk_172 (dk_at dksX12_isValidValue_0 23 rfl rfl)
abbrev cX12_getMinimum : ByteArray := prog_17_method_5_code
def yX12_getMinimum : MethodName := ⟨RX12, "getMinimum", "()J"⟩
theorem dX12_getMinimum_0 : decode cX12_getMinimum 0 = .ok (.aload_n 0, 1) := by decide +kernel
theorem dX12_getMinimum_1 : decode cX12_getMinimum 1 = .ok (.getfield 27, 3) := by decide +kernel
theorem dX12_getMinimum_4 : decode cX12_getMinimum 4 = .ok (.lreturn, 1) := by decide +kernel
abbrev cX12_getMaximum : ByteArray := prog_17_method_6_code
def yX12_getMaximum : MethodName := ⟨RX12, "getMaximum", "()J"⟩
theorem dX12_getMaximum_0 : decode cX12_getMaximum 0 = .ok (.aload_n 0, 1) := by decide +kernel
theorem dX12_getMaximum_1 : decode cX12_getMaximum 1 = .ok (.getfield 37, 3) := by decide +kernel
theorem dX12_getMaximum_4 : decode cX12_getMaximum 4 = .ok (.lreturn, 1) := by decide +kernel
abbrev cX12_checkValidIntValue : ByteArray := prog_17_method_11_code
def yX12_checkValidIntValue : MethodName := ⟨RX12, "checkValidIntValue", "(JLTemporalField;)I"⟩
def dkwX12_checkValidIntValue_0 : List UInt8 := [42, 31, 182, 0, 66, 154, 0, 13, 187, 0, 61, 89, 18, 63, 183, 0, 65, 191, 31, 136, 172]
abbrev dktX12_checkValidIntValue_0 : List UInt8 := dkwX12_checkValidIntValue_0 ++ []
theorem dksX12_checkValidIntValue_0 : cX12_checkValidIntValue.data.toList.drop 0 = dktX12_checkValidIntValue_0 := by decide +kernel
theorem dX12_checkValidIntValue_0 : decode cX12_checkValidIntValue 0 = .ok (.aload_n 0, 1) := dk_42 (dk_at dksX12_checkValidIntValue_0 0 rfl rfl)
theorem dX12_checkValidIntValue_1 : decode cX12_checkValidIntValue 1 = .ok (.lload_n 1, 1) := dk_31 (dk_at dksX12_checkValidIntValue_0 1 rfl rfl)
theorem dX12_checkValidIntValue_2 : decode cX12_checkValidIntValue 2 = .ok (.invokevirtual 66, 3) := dk_182 0 66 (dk_at dksX12_checkValidIntValue_0 2 rfl rfl)
theorem dX12_checkValidIntValue_5 : decode cX12_checkValidIntValue 5 = .ok (.ifCond .ne 13, 3) := dk_154 0 13 (dk_at dksX12_checkValidIntValue_0 5 rfl rfl)
theorem dX12_checkValidIntValue_8 : decode cX12_checkValidIntValue 8 = .ok (.new 61, 3) := dk_187 0 61 (dk_at dksX12_checkValidIntValue_0 8 rfl rfl)
theorem dX12_checkValidIntValue_11 : decode cX12_checkValidIntValue 11 = .ok (.dup, 1) := dk_89 (dk_at dksX12_checkValidIntValue_0 11 rfl rfl)
theorem dX12_checkValidIntValue_12 : decode cX12_checkValidIntValue 12 = .ok (.ldc 63, 2) := dk_18 63 (dk_at dksX12_checkValidIntValue_0 12 rfl rfl)
theorem dX12_checkValidIntValue_14 : decode cX12_checkValidIntValue 14 = .ok (.invokespecial 65, 3) := dk_183 0 65 (dk_at dksX12_checkValidIntValue_0 14 rfl rfl)
theorem dX12_checkValidIntValue_17 : decode cX12_checkValidIntValue 17 = .ok (.athrow, 1) := dk_191 (dk_at dksX12_checkValidIntValue_0 17 rfl rfl)
theorem dX12_checkValidIntValue_18 : decode cX12_checkValidIntValue 18 = .ok (.lload_n 1, 1) := dk_31 (dk_at dksX12_checkValidIntValue_0 18 rfl rfl)
theorem dX12_checkValidIntValue_19 : decode cX12_checkValidIntValue 19 = .ok (.l2i, 1) := dk_136 (dk_at dksX12_checkValidIntValue_0 19 rfl rfl)
theorem dX12_checkValidIntValue_20 : decode cX12_checkValidIntValue 20 = .ok (.ireturn, 1) := dk_172 (dk_at dksX12_checkValidIntValue_0 20 rfl rfl)
abbrev cX12_isValidIntValue : ByteArray := prog_17_method_9_code
def yX12_isValidIntValue : MethodName := ⟨RX12, "isValidIntValue", "(J)Z"⟩
def dkwX12_isValidIntValue_0 : List UInt8 := [42, 182, 0, 53, 153, 0, 15, 42, 31, 182, 0, 57, 153, 0, 7, 4, 167, 0, 4, 3, 172]
abbrev dktX12_isValidIntValue_0 : List UInt8 := dkwX12_isValidIntValue_0 ++ []
theorem dksX12_isValidIntValue_0 : cX12_isValidIntValue.data.toList.drop 0 = dktX12_isValidIntValue_0 := by decide +kernel
theorem dX12_isValidIntValue_0 : decode cX12_isValidIntValue 0 = .ok (.aload_n 0, 1) := dk_42 (dk_at dksX12_isValidIntValue_0 0 rfl rfl)
theorem dX12_isValidIntValue_1 : decode cX12_isValidIntValue 1 = .ok (.invokevirtual 53, 3) := dk_182 0 53 (dk_at dksX12_isValidIntValue_0 1 rfl rfl)
theorem dX12_isValidIntValue_4 : decode cX12_isValidIntValue 4 = .ok (.ifCond .eq 15, 3) := dk_153 0 15 (dk_at dksX12_isValidIntValue_0 4 rfl rfl)
theorem dX12_isValidIntValue_7 : decode cX12_isValidIntValue 7 = .ok (.aload_n 0, 1) := dk_42 (dk_at dksX12_isValidIntValue_0 7 rfl rfl)
theorem dX12_isValidIntValue_8 : decode cX12_isValidIntValue 8 = .ok (.lload_n 1, 1) := dk_31 (dk_at dksX12_isValidIntValue_0 8 rfl rfl)
theorem dX12_isValidIntValue_9 : decode cX12_isValidIntValue 9 = .ok (.invokevirtual 57, 3) := dk_182 0 57 (dk_at dksX12_isValidIntValue_0 9 rfl rfl)
theorem dX12_isValidIntValue_12 : decode cX12_isValidIntValue 12 = .ok (.ifCond .eq 7, 3) := dk_153 0 7 (dk_at dksX12_isValidIntValue_0 12 rfl rfl)
theorem dX12_isValidIntValue_15 : decode cX12_isValidIntValue 15 = .ok (.iconst 1, 1) := dk_4 (dk_at dksX12_isValidIntValue_0 15 rfl rfl)
theorem dX12_isValidIntValue_16 : decode cX12_isValidIntValue 16 = .ok (.goto 4, 3) := dk_167 0 4 (dk_at dksX12_isValidIntValue_0 16 rfl rfl)
theorem dX12_isValidIntValue_19 : decode cX12_isValidIntValue 19 = .ok (.iconst 0, 1) := dk_3 (dk_at dksX12_isValidIntValue_0 19 rfl rfl)
theorem dX12_isValidIntValue_20 : decode cX12_isValidIntValue 20 = .ok (.ireturn, 1) := dk_172 (dk_at dksX12_isValidIntValue_0 20 rfl rfl)
abbrev cX12_isIntValue : ByteArray := prog_17_method_7_code
def yX12_isIntValue : MethodName := ⟨RX12, "isIntValue", "()Z"⟩
def dkwX12_isIntValue_1 : List UInt8 := [167, 0, 4, 3, 172]
abbrev dktX12_isIntValue_1 : List UInt8 := dkwX12_isIntValue_1 ++ []
def dkwX12_isIntValue_0 : List UInt8 := [42, 182, 0, 40, 20, 0, 46, 148, 155, 0, 18, 42, 182, 0, 48, 20, 0, 51, 148, 157, 0, 7, 4]
abbrev dktX12_isIntValue_0 : List UInt8 := dkwX12_isIntValue_0 ++ dktX12_isIntValue_1
theorem dksX12_isIntValue_0 : cX12_isIntValue.data.toList.drop 0 = dktX12_isIntValue_0 := by decide +kernel
theorem dksX12_isIntValue_1 : cX12_isIntValue.data.toList.drop 23 = dktX12_isIntValue_1 := dk_seg dksX12_isIntValue_0 23 rfl rfl
theorem dX12_isIntValue_0 : decode cX12_isIntValue 0 = .ok (.aload_n 0, 1) := dk_42 (dk_at dksX12_isIntValue_0 0 rfl rfl)
theorem dX12_isIntValue_1 : decode cX12_isIntValue 1 = .ok (.invokevirtual 40, 3) := dk_182 0 40 (dk_at dksX12_isIntValue_0 1 rfl rfl)
theorem dX12_isIntValue_4 : decode cX12_isIntValue 4 = .ok (.ldc2_w 46, 3) := dk_20 0 46 (dk_at dksX12_isIntValue_0 4 rfl rfl)
theorem dX12_isIntValue_7 : decode cX12_isIntValue 7 = .ok (.lcmp, 1) := dk_148 (dk_at dksX12_isIntValue_0 7 rfl rfl)
theorem dX12_isIntValue_8 : decode cX12_isIntValue 8 = .ok (.ifCond .lt 18, 3) := dk_155 0 18 (dk_at dksX12_isIntValue_0 8 rfl rfl)
theorem dX12_isIntValue_11 : decode cX12_isIntValue 11 = .ok (.aload_n 0, 1) := dk_42 (dk_at dksX12_isIntValue_0 11 rfl rfl)
theorem dX12_isIntValue_12 : decode cX12_isIntValue 12 = .ok (.invokevirtual 48, 3) := dk_182 0 48 (dk_at dksX12_isIntValue_0 12 rfl rfl)
theorem dX12_isIntValue_15 : decode cX12_isIntValue 15 = .ok (.ldc2_w 51, 3) := dk_20 0 51 (dk_at dksX12_isIntValue_0 15 rfl rfl)
theorem dX12_isIntValue_18 : decode cX12_isIntValue 18 = .ok (.lcmp, 1) := dk_148 (dk_at dksX12_isIntValue_0 18 rfl rfl)
theorem dX12_isIntValue_19 : decode cX12_isIntValue 19 = .ok (.ifCond .gt 7, 3) := dk_157 0 7 (dk_at dksX12_isIntValue_0 19 rfl rfl)
theorem dX12_isIntValue_22 : decode cX12_isIntValue 22 = .ok (.iconst 1, 1) := dk_4 (dk_at dksX12_isIntValue_0 22 rfl rfl)
theorem dX12_isIntValue_23 : decode cX12_isIntValue 23 = .ok (.goto 4, 3) := dk_167 0 4 (dk_at dksX12_isIntValue_1 0 rfl rfl)
theorem dX12_isIntValue_26 : decode cX12_isIntValue 26 = .ok (.iconst 0, 1) := dk_3 (dk_at dksX12_isIntValue_1 3 rfl rfl)
theorem dX12_isIntValue_27 : decode cX12_isIntValue 27 = .ok (.ireturn, 1) := dk_172 (dk_at dksX12_isIntValue_1 4 rfl rfl)
theorem q43 : (Jvm.Cond.instanceMethod ({ cls := "ValueRange", name := "checkValidValue", desc := "(JLTemporalField;)J" } : Jvm.MethodName)) ∈ lw_all := lw_g (lw_at lw_m1 41 rfl) rfl
theorem q44 : (Jvm.Cond.selects "ValueRange" ({ cls := "ValueRange", name := "checkValidValue", desc := "(JLTemporalField;)J" } : Jvm.MethodName) ({ cls := "ValueRange", name := "checkValidValue", desc := "(JLTemporalField;)J" } : Jvm.MethodName)) ∈ lw_all := lw_g (lw_at lw_m1 42 rfl) rfl
theorem q45 : (Jvm.Cond.code ({ cls := "ValueRange", name := "checkValidValue", desc := "(JLTemporalField;)J" } : Jvm.MethodName) prog_17_method_10_code (4 : Nat) (Option.some Jvm.ClassFile.FieldType.long)) ∈ lw_all := lw_g (lw_at lw_m1 43 rfl) rfl
theorem q46 : (Jvm.Cond.methodLink "ValueRange" (57 : Nat) ({ cls := "ValueRange", name := "isValidValue", desc := "(J)Z" } : Jvm.MethodName)) ∈ lw_all := lw_g (lw_at lw_m1 44 rfl) rfl
theorem q47 : (Jvm.Cond.instanceMethod ({ cls := "ValueRange", name := "isValidValue", desc := "(J)Z" } : Jvm.MethodName)) ∈ lw_all := lw_g (lw_at lw_m1 45 rfl) rfl
theorem q48 : (Jvm.Cond.selects "ValueRange" ({ cls := "ValueRange", name := "isValidValue", desc := "(J)Z" } : Jvm.MethodName) ({ cls := "ValueRange", name := "isValidValue", desc := "(J)Z" } : Jvm.MethodName)) ∈ lw_all := lw_g (lw_at lw_m1 46 rfl) rfl
theorem q49 : (Jvm.Cond.code ({ cls := "ValueRange", name := "isValidValue", desc := "(J)Z" } : Jvm.MethodName) prog_17_method_8_code (3 : Nat) (Option.some Jvm.ClassFile.FieldType.boolean)) ∈ lw_all := lw_g (lw_at lw_m1 47 rfl) rfl
theorem q50 : (Jvm.Cond.methodLink "ValueRange" (40 : Nat) ({ cls := "ValueRange", name := "getMinimum", desc := "()J" } : Jvm.MethodName)) ∈ lw_all := lw_g (lw_at lw_m1 48 rfl) rfl
theorem q51 : (Jvm.Cond.instanceMethod ({ cls := "ValueRange", name := "getMinimum", desc := "()J" } : Jvm.MethodName)) ∈ lw_all := lw_g (lw_at lw_m1 49 rfl) rfl
theorem q52 : (Jvm.Cond.selects "ValueRange" ({ cls := "ValueRange", name := "getMinimum", desc := "()J" } : Jvm.MethodName) ({ cls := "ValueRange", name := "getMinimum", desc := "()J" } : Jvm.MethodName)) ∈ lw_all := lw_g (lw_at lw_m1 50 rfl) rfl
theorem q53 : (Jvm.Cond.code ({ cls := "ValueRange", name := "getMinimum", desc := "()J" } : Jvm.MethodName) prog_17_method_5_code (1 : Nat) (Option.some Jvm.ClassFile.FieldType.long)) ∈ lw_all := lw_g (lw_at lw_m1 51 rfl) rfl
theorem q54 : (Jvm.Cond.methodLink "ValueRange" (48 : Nat) ({ cls := "ValueRange", name := "getMaximum", desc := "()J" } : Jvm.MethodName)) ∈ lw_all := lw_g (lw_at lw_m1 52 rfl) rfl
theorem q55 : (Jvm.Cond.instanceMethod ({ cls := "ValueRange", name := "getMaximum", desc := "()J" } : Jvm.MethodName)) ∈ lw_all := lw_g (lw_at lw_m1 53 rfl) rfl
theorem q56 : (Jvm.Cond.selects "ValueRange" ({ cls := "ValueRange", name := "getMaximum", desc := "()J" } : Jvm.MethodName) ({ cls := "ValueRange", name := "getMaximum", desc := "()J" } : Jvm.MethodName)) ∈ lw_all := lw_g (lw_at lw_m1 54 rfl) rfl
theorem q57 : (Jvm.Cond.code ({ cls := "ValueRange", name := "getMaximum", desc := "()J" } : Jvm.MethodName) prog_17_method_6_code (1 : Nat) (Option.some Jvm.ClassFile.FieldType.long)) ∈ lw_all := lw_g (lw_at lw_m1 55 rfl) rfl
theorem q58 : (Jvm.Cond.classLink "ValueRange" (61 : Nat) "DateTimeException") ∈ lw_all := lw_g (lw_at lw_m1 56 rfl) rfl
theorem q97 : (Jvm.Cond.stringRef "ValueRange" (63 : Nat) "left out") ∈ lw_tbl := lw_at lw_m1 95 rfl
theorem q98 : (Jvm.Cond.methodLink "ValueRange" (65 : Nat) ({ cls := "DateTimeException", name := "<init>", desc := "(Ljava/lang/String;)V" } : Jvm.MethodName)) ∈ lw_all := lw_g (lw_at lw_m1 96 rfl) rfl
theorem q169 : (Jvm.Cond.instanceMethod ({ cls := "ValueRange", name := "checkValidIntValue", desc := "(JLTemporalField;)I" } : Jvm.MethodName)) ∈ lw_all := lw_g (lw_at lw_m1 167 rfl) rfl
theorem q170 : (Jvm.Cond.selects "ValueRange" ({ cls := "ValueRange", name := "checkValidIntValue", desc := "(JLTemporalField;)I" } : Jvm.MethodName) ({ cls := "ValueRange", name := "checkValidIntValue", desc := "(JLTemporalField;)I" } : Jvm.MethodName)) ∈ lw_all := lw_g (lw_at lw_m1 168 rfl) rfl
theorem q171 : (Jvm.Cond.code ({ cls := "ValueRange", name := "checkValidIntValue", desc := "(JLTemporalField;)I" } : Jvm.MethodName) prog_17_method_11_code (4 : Nat) (Option.some Jvm.ClassFile.FieldType.int)) ∈ lw_all := lw_g (lw_at lw_m1 169 rfl) rfl
theorem q172 : (Jvm.Cond.methodLink "ValueRange" (66 : Nat) ({ cls := "ValueRange", name := "isValidIntValue", desc := "(J)Z" } : Jvm.MethodName)) ∈ lw_all := lw_g (lw_at lw_m1 170 rfl) rfl
theorem q173 : (Jvm.Cond.instanceMethod ({ cls := "ValueRange", name := "isValidIntValue", desc := "(J)Z" } : Jvm.MethodName)) ∈ lw_all := lw_g (lw_at lw_m1 171 rfl) rfl
theorem q174 : (Jvm.Cond.selects "ValueRange" ({ cls := "ValueRange", name := "isValidIntValue", desc := "(J)Z" } : Jvm.MethodName) ({ cls := "ValueRange", name := "isValidIntValue", desc := "(J)Z" } : Jvm.MethodName)) ∈ lw_all := lw_g (lw_at lw_m1 172 rfl) rfl
theorem q175 : (Jvm.Cond.code ({ cls := "ValueRange", name := "isValidIntValue", desc := "(J)Z" } : Jvm.MethodName) prog_17_method_9_code (3 : Nat) (Option.some Jvm.ClassFile.FieldType.boolean)) ∈ lw_all := lw_g (lw_at lw_m1 173 rfl) rfl
theorem q176 : (Jvm.Cond.methodLink "ValueRange" (53 : Nat) ({ cls := "ValueRange", name := "isIntValue", desc := "()Z" } : Jvm.MethodName)) ∈ lw_all := lw_g (lw_at lw_m1 174 rfl) rfl
theorem q177 : (Jvm.Cond.instanceMethod ({ cls := "ValueRange", name := "isIntValue", desc := "()Z" } : Jvm.MethodName)) ∈ lw_all := lw_g (lw_at lw_m1 175 rfl) rfl
theorem q178 : (Jvm.Cond.selects "ValueRange" ({ cls := "ValueRange", name := "isIntValue", desc := "()Z" } : Jvm.MethodName) ({ cls := "ValueRange", name := "isIntValue", desc := "()Z" } : Jvm.MethodName)) ∈ lw_all := lw_g (lw_at lw_m1 176 rfl) rfl
theorem q179 : (Jvm.Cond.code ({ cls := "ValueRange", name := "isIntValue", desc := "()Z" } : Jvm.MethodName) prog_17_method_7_code (1 : Nat) (Option.some Jvm.ClassFile.FieldType.boolean)) ∈ lw_all := lw_g (lw_at lw_m1 177 rfl) rfl
theorem q180 : (Jvm.Cond.constantLong "ValueRange" (46 : Nat) (-2147483648 : Int64)) ∈ lw_all := lw_g (lw_at lw_m1 178 rfl) rfl
theorem q181 : (Jvm.Cond.constantLong "ValueRange" (51 : Nat) (2147483647 : Int64)) ∈ lw_all := lw_g (lw_at lw_m1 179 rfl) rfl
theorem q425 : (Jvm.Cond.fieldLink "ValueRange" (27 : Nat) "ValueRange" "minSmallest" "J") ∈ lw_all := lw_g (lw_at lw_m2 183 rfl) rfl
theorem q426 : (Jvm.Cond.fieldLink "ValueRange" (37 : Nat) "ValueRange" "maxLargest" "J") ∈ lw_all := lw_g (lw_at lw_m2 184 rfl) rfl
theorem q13 : (Jvm.Cond.initialized "Chronology") ∈ lw_all := lw_g (lw_at lw_m1 11 rfl) rfl
set_option maxRecDepth 100000
theorem q28 : (Jvm.Cond.arrayOver (Jvm.ClassFile.FieldType.object "YearMonth")) ∈ lw_tbl := lw_at lw_m1 26 rfl
set_option maxRecDepth 100000
theorem q123 : (Jvm.Cond.arrayClass Jvm.ClassFile.FieldType.byte) ∈ lw_all := lw_g (lw_at lw_m1 121 rfl) rfl
theorem q422 : (Jvm.Cond.arrayClass Jvm.ClassFile.FieldType.long) ∈ lw_all := lw_g (lw_at lw_m2 180 rfl) rfl
end
section
/-! THE BASE: ints and longs of the machine as whole numbers; one row an instruction over them -/
def ym_I (n : Int) : Int32 := Int32.ofInt n
def ym_L (n : Int) : Int64 := Int64.ofInt n
abbrev ym_i (a : Int) : Prop := -2147483648 ≤ a ∧ a ≤ 2147483647
abbrev ym_l (a : Int) : Prop := -9223372036854775808 ≤ a ∧ a ≤ 9223372036854775807
theorem ym_I_add (a b : Int) : ym_I a + ym_I b = ym_I (a + b) := (Int32.ofInt_add a b).symm
theorem ym_I_sub (a b : Int) : ym_I a - ym_I b = ym_I (a - b) := (Int32.ofInt_sub a b).symm
theorem ym_I_mul (a b : Int) : ym_I a * ym_I b = ym_I (a * b) := (Int32.ofInt_mul a b).symm
theorem ym_I_neg (a : Int) : -ym_I a = ym_I (-a) := (Int32.ofInt_neg a).symm
theorem ym_L_add (a b : Int) : ym_L a + ym_L b = ym_L (a + b) := (Int64.ofInt_add a b).symm
theorem ym_L_sub (a b : Int) : ym_L a - ym_L b = ym_L (a - b) := (Int64.ofInt_sub a b).symm
theorem ym_L_mul (a b : Int) : ym_L a * ym_L b = ym_L (a * b) := (Int64.ofInt_mul a b).symm
theorem ym_I_T {a : Int} (h : ym_i a) : (ym_I a).toInt = a := Int32.toInt_ofInt_of_le (by have := h.1; omega) (by have := h.2; omega)
theorem ym_L_T {a : Int} (h : ym_l a) : (ym_L a).toInt = a := Int64.toInt_ofInt_of_le (by have := h.1; omega) (by have := h.2; omega)
theorem ym_I_of (x : Int32) : x = ym_I x.toInt := (Int32.ofInt_toInt x).symm
theorem ym_L_of (x : Int64) : x = ym_L x.toInt := (Int64.ofInt_toInt x).symm
theorem ym_I_ran (x : Int32) : ym_i x.toInt := ⟨by have := x.le_toInt; omega, by have := x.toInt_lt; omega⟩
theorem ym_I_cl {a : Int} (h : ym_i a) : (ym_I a).toNatClampNeg = a.toNat := Int32.toNatClampNeg_ofInt_of_le (by have := h.1; omega) (by have := h.2; omega)
theorem ym_I_div {a b : Int} (ha : ym_i a) (hb : ym_i b) : ym_I a / ym_I b = ym_I (a.tdiv b) :=
  (Int32.ofInt_tdiv (by have := ha.1; rw [Int32.toInt_minValue]; omega) (by have := ha.2; rw [Int32.toInt_maxValue]; omega) (by have := hb.1; rw [Int32.toInt_minValue]; omega) (by have := hb.2; rw [Int32.toInt_maxValue]; omega)).symm
theorem ym_L_div {a b : Int} (ha : ym_l a) (hb : ym_l b) : ym_L a / ym_L b = ym_L (a.tdiv b) :=
  (Int64.ofInt_tdiv (by have := ha.1; rw [Int64.toInt_minValue]; omega) (by have := ha.2; rw [Int64.toInt_maxValue]; omega) (by have := hb.1; rw [Int64.toInt_minValue]; omega) (by have := hb.2; rw [Int64.toInt_maxValue]; omega)).symm
theorem ym_I_rem {a b : Int} (ha : ym_i a) (hb : ym_i b) : ym_I a - ym_I a / ym_I b * ym_I b = ym_I (a.tmod b) := by
  rw [ym_I_div ha hb, ym_I_mul, ym_I_sub, Int.tmod_def, Int.mul_comm]
theorem ym_L_rem {a b : Int} (ha : ym_l a) (hb : ym_l b) : ym_L a - ym_L a / ym_L b * ym_L b = ym_L (a.tmod b) := by
  rw [ym_L_div ha hb, ym_L_mul, ym_L_sub, Int.tmod_def, Int.mul_comm]
theorem ym_I_lt {a b : Int} (ha : ym_i a) (hb : ym_i b) : ym_I a < ym_I b ↔ a < b := by rw [Int32.lt_iff_toInt_lt, ym_I_T ha, ym_I_T hb]
theorem ym_I_le {a b : Int} (ha : ym_i a) (hb : ym_i b) : ym_I a ≤ ym_I b ↔ a ≤ b := by rw [Int32.le_iff_toInt_le, ym_I_T ha, ym_I_T hb]
theorem ym_I_eq {a b : Int} (ha : ym_i a) (hb : ym_i b) : ym_I a = ym_I b ↔ a = b := by rw [← Int32.toInt_inj, ym_I_T ha, ym_I_T hb]
theorem ym_L_lt {a b : Int} (ha : ym_l a) (hb : ym_l b) : ym_L a < ym_L b ↔ a < b := by rw [Int64.lt_iff_toInt_lt, ym_L_T ha, ym_L_T hb]
theorem ym_L_le {a b : Int} (ha : ym_l a) (hb : ym_l b) : ym_L a ≤ ym_L b ↔ a ≤ b := by rw [Int64.le_iff_toInt_le, ym_L_T ha, ym_L_T hb]
theorem ym_L_eq {a b : Int} (ha : ym_l a) (hb : ym_l b) : ym_L a = ym_L b ↔ a = b := by rw [← Int64.toInt_inj, ym_L_T ha, ym_L_T hb]
theorem ym_I0 : (0 : Int32) = ym_I 0 := by first | rfl | decide
theorem ym_i0 : ym_i 0 := ⟨by decide, by decide⟩
theorem ym_L0 : (0 : Int64) = ym_L 0 := by first | rfl | decide
theorem ym_l0 : ym_l 0 := ⟨by decide, by decide⟩
theorem ym_I_nz {b : Int} (hb : ym_i b) (h : b ≠ 0) : ¬ ym_I b = 0 := fun q => h ((ym_I_eq hb ym_i0).mp (q.trans ym_I0))
theorem ym_L_nz {b : Int} (hb : ym_l b) (h : b ≠ 0) : ¬ ym_L b = 0 := fun q => h ((ym_L_eq hb ym_l0).mp (q.trans ym_L0))
theorem ym_I_nat (n : Nat) : nI n = ym_I n := (Int32.ofInt_eq_ofNat (n := n)).symm
theorem ym_in {a : Int} {n : Nat} (h0 : 0 ≤ a) (h : a < n) (hn : n < 2 ^ 31) : vp_in (ym_I a) n := by
  rw [vp_in_iff, ym_I_T ⟨by omega, by omega⟩]
  exact ⟨h0, h⟩
/-- the low bits of an int, of a long -/
theorem ym_and (a : Int) (k : Nat) (m : Int) (hk : k ≤ 32) (hm : (ym_I m).toBitVec.toNat = 2 ^ k - 1) : ym_I a &&& ym_I m = ym_I (a % (2 ^ k : Nat)) := by
  rw [pk_and (ym_I a) k hm, ym_I_nat]
  congr 1
  have e : (ym_I a).toBitVec.toNat = (a % ((2 ^ 32 : Nat) : Int)).toNat := by
    show (BitVec.ofInt 32 a).toNat = _
    rw [BitVec.toNat_ofInt]
  rw [e, Int.natCast_emod, Int.toNat_of_nonneg (Int.emod_nonneg _ (by decide))]
  exact Int.emod_emod_of_dvd a (by exact_mod_cast Nat.pow_dvd_pow 2 hk)
theorem ym_and1 (a : Int) : ym_I a &&& ym_I 1 = ym_I (a % 2) := ym_and a 1 1 (by decide) (by decide)
theorem ym_andM (a : Int) : ym_I a &&& ym_I 2147483647 = ym_I (a % 2147483648) := ym_and a 31 2147483647 (by decide) (by decide)
theorem ym_and3 (a : Int) : ym_L a &&& ym_L 3 = ym_L (a % 4) := by
  apply Int64.toBitVec_inj.mp
  show (ym_L a &&& ym_L 3).toBitVec = BitVec.ofInt 64 (a % 4)
  rw [Int64.toBitVec_and]
  show BitVec.ofInt 64 a &&& BitVec.ofInt 64 3 = BitVec.ofInt 64 (a % 4)
  apply BitVec.eq_of_toNat_eq
  rw [BitVec.toNat_and, BitVec.toNat_ofInt, BitVec.toNat_ofInt, BitVec.toNat_ofInt]
  have e3 : (3 % ((2 ^ 64 : Nat) : Int)).toNat = 2 ^ 2 - 1 := by decide
  rw [e3, Nat.and_two_pow_sub_one_eq_mod]
  have e : ((2 ^ 64 : Nat) : Int) = 18446744073709551616 := by decide
  rw [e]
  omega
/-- an int as a long, a long as an int -/
theorem ym_i2l {a : Int} (h : ym_i a) : (ym_I a).toInt64 = ym_L a := Int32.toInt64_ofInt (by have := h.1; rw [Int32.toInt_minValue]; omega) (by have := h.2; rw [Int32.toInt_maxValue]; omega)
theorem ym_l2i (a : Int) : (ym_L a).toInt32 = ym_I a := Int64.toInt32_ofInt
theorem ym_i2s {a : Int} (h1 : -32768 ≤ a) (h2 : a ≤ 32767) : (ym_I a).toInt16.toInt32 = ym_I a := by
  show (Int32.ofInt a).toInt16.toInt32 = _
  rw [Int32.toInt16_ofInt, Int16.toInt32_ofInt (by rw [Int16.toInt_minValue]; omega) (by rw [Int16.toInt_maxValue]; omega)]
  rfl
/-- division and remainder that round to 0, by those that omega knows -/
theorem ym_tdiv (a : Int) {d : Int} (hd : 0 < d) : (0 ≤ a → a.tdiv d = a / d) ∧ (a ≤ 0 → a.tdiv d = -((-a) / d)) := by
  refine ⟨fun h => Int.tdiv_eq_ediv_of_nonneg h, fun h => ?_⟩
  have e : a.tdiv d = -((-a).tdiv d) := by rw [Int.neg_tdiv, Int.neg_neg]
  rw [e, Int.tdiv_eq_ediv_of_nonneg (by omega)]
theorem ym_tmod (a : Int) {d : Int} (hd : 0 < d) : (0 ≤ a → a.tmod d = a % d) ∧ (a ≤ 0 → a.tmod d = -((-a) % d)) := by
  refine ⟨fun h => Int.tmod_eq_emod_of_nonneg h, fun h => ?_⟩
  have e : a.tmod d = -((-a).tmod d) := by rw [Int.neg_tmod, Int.neg_neg]
  rw [e, Int.tmod_eq_emod_of_nonneg (by omega)]
theorem ym_trem (a : Int) : -1000000 < a.tmod 1000000 ∧ a.tmod 1000000 < 1000000 := ⟨Int.lt_tmod_of_pos a (by decide), Int.tmod_lt_of_pos a (by decide)⟩
theorem ym_floor (a : Int) {b : Int} (hb : 0 < b) : (a.tmod b < 0 → a.tdiv b - 1 = a / b) ∧ (0 ≤ a.tmod b → a.tdiv b = a / b) := by
  have h1 := Int.tdiv_eq_ediv (a := a) (b := b)
  have h2 := Int.tmod_eq_emod (a := a) (b := b)
  have h3 := Int.emod_nonneg a (show b ≠ 0 by omega)
  have h4 := Int.emod_lt_of_pos a hb
  by_cases c : 0 ≤ a ∨ b ∣ a
  · rw [if_pos c] at h1 h2
    constructor <;> intro h <;> omega
  · rw [if_neg c] at h1 h2
    rw [Int.sign_eq_one_of_pos hb] at h1
    constructor <;> intro h <;> omega
theorem ym_cmp {a b : Int} (ha : ym_l a) (hb : ym_l b) : lg_cmp (ym_L a) (ym_L b) = ym_I (if b < a then 1 else if a = b then 0 else -1) := by
  unfold lg_cmp
  simp only [gt_iff_lt, ym_L_lt hb ha, ym_L_eq ha hb]
  split
  · rfl
  · split
    · rfl
    · rfl
theorem ym_z_eq {a : Int} (ha : ym_i a) : ym_I a = 0 ↔ a = 0 := by rw [ym_I0]; exact ym_I_eq ha ym_i0
theorem ym_z_lt {a : Int} (ha : ym_i a) : ym_I a < 0 ↔ a < 0 := by rw [ym_I0]; exact ym_I_lt ha ym_i0
theorem ym_z_le {a : Int} (ha : ym_i a) : ym_I a ≤ 0 ↔ a ≤ 0 := by rw [ym_I0]; exact ym_I_le ha ym_i0
theorem ym_z_gt {a : Int} (ha : ym_i a) : 0 < ym_I a ↔ 0 < a := by rw [ym_I0]; exact ym_I_lt ym_i0 ha
theorem ym_z_ge {a : Int} (ha : ym_i a) : 0 ≤ ym_I a ↔ 0 ≤ a := by rw [ym_I0]; exact ym_I_le ym_i0 ha
section YB
variable {p : Program} {l : Launch} {e : Env} {R : Room} {s : State} {m : MethodId} {args : Array Value} {below : List Frame} {meth : Method} {c : Code} {H : Heap} {locs : List Loc} {cells slots : Nat} {Q : State → Prop} {cc : ByteArray} {pc : Nat} {ls : Array Slot} {rest : List Value}
theorem ym_iconst (hx : p.tables.exec = Jvm.exec) (hb : c.code = cc) {n : Int} (hdg : decode cc pc = .ok (.iconst n, 1)) (k : W p l e R s m args below meth c H locs cells slots Q (F0 m (pc + 1) ls (.int (ym_I n) :: rest))) : W p l e R s m args below meth c H locs cells slots Q (F0 m pc ls rest) := lv_iconst hx hb hdg rfl k
theorem ym_bipush (z : Int) (hx : p.tables.exec = Jvm.exec) (hb : c.code = cc) {n : Int} (hdg : decode cc pc = .ok (.bipush n, 2)) (hv : (Int8.ofInt n).toInt32 = ym_I z) (k : W p l e R s m args below meth c H locs cells slots Q (F0 m (pc + 2) ls (.int (ym_I z) :: rest))) : W p l e R s m args below meth c H locs cells slots Q (F0 m pc ls rest) := lv_bipush hx hb hdg hv k
theorem ym_sipush (z : Int) (hx : p.tables.exec = Jvm.exec) (hb : c.code = cc) {n : Int} (hdg : decode cc pc = .ok (.sipush n, 3)) (hv : (Int16.ofInt n).toInt32 = ym_I z) (k : W p l e R s m args below meth c H locs cells slots Q (F0 m (pc + 3) ls (.int (ym_I z) :: rest))) : W p l e R s m args below meth c H locs cells slots Q (F0 m pc ls rest) := lv_sipush hx hb hdg hv k
theorem ym_lconst (z : Int) (hx : p.tables.exec = Jvm.exec) (hb : c.code = cc) {n : Fin 2} (hdg : decode cc pc = .ok (.lconst n, 1)) (hv : Int64.ofNat (n : Nat) = ym_L z) (k : W p l e R s m args below meth c H locs cells slots Q (F0 m (pc + 1) ls (.long (ym_L z) :: rest))) : W p l e R s m args below meth c H locs cells slots Q (F0 m pc ls rest) := lv_lconst hx hb hdg hv k
theorem ym_ldc (z : Int) (hx : p.tables.exec = Jvm.exec) (hb : c.code = cc) {own : String} {index : Nat} {v : Int32} (hown : s.vm.findClass own = some m.cls) (hconst : (Jvm.Cond.constant own index v).before args s = true) (hv : v = ym_I z) (hdg : decode cc pc = .ok (.ldc index, 2)) (k : W p l e R s m args below meth c H locs cells slots Q (F0 m (pc + 2) ls (.int (ym_I z) :: rest))) : W p l e R s m args below meth c H locs cells slots Q (F0 m pc ls rest) := lv_ldc hx hb hown hconst hdg (by rw [hv]; exact k)
theorem ym_ldc2 (z : Int) (hx : p.tables.exec = Jvm.exec) (hb : c.code = cc) {own : String} {index : Nat} {v : Int64} (hown : s.vm.findClass own = some m.cls) (hconst : (Jvm.Cond.constantLong own index v).before args s = true) (hv : v = ym_L z) (hdg : decode cc pc = .ok (.ldc2_w index, 3)) (k : W p l e R s m args below meth c H locs cells slots Q (F0 m (pc + 3) ls (.long (ym_L z) :: rest))) : W p l e R s m args below meth c H locs cells slots Q (F0 m pc ls rest) := lv_ldc2 hx hb hown hconst hdg (by rw [hv]; exact k)
theorem ym_iadd (hx : p.tables.exec = Jvm.exec) (hb : c.code = cc) {a b : Int} (hdg : decode cc pc = .ok (.iadd, 1)) (k : W p l e R s m args below meth c H locs cells slots Q (F0 m (pc + 1) ls (.int (ym_I (a + b)) :: rest))) : W p l e R s m args below meth c H locs cells slots Q (F0 m pc ls (.int (ym_I b) :: .int (ym_I a) :: rest)) := lv_iadd hx hb hdg (by rw [ym_I_add]; exact k)
theorem ym_isub (hx : p.tables.exec = Jvm.exec) (hb : c.code = cc) {a b : Int} (hdg : decode cc pc = .ok (.isub, 1)) (k : W p l e R s m args below meth c H locs cells slots Q (F0 m (pc + 1) ls (.int (ym_I (a - b)) :: rest))) : W p l e R s m args below meth c H locs cells slots Q (F0 m pc ls (.int (ym_I b) :: .int (ym_I a) :: rest)) := lv_isub hx hb hdg (by rw [ym_I_sub]; exact k)
theorem ym_imul (hx : p.tables.exec = Jvm.exec) (hb : c.code = cc) {a b : Int} (hdg : decode cc pc = .ok (.imul, 1)) (k : W p l e R s m args below meth c H locs cells slots Q (F0 m (pc + 1) ls (.int (ym_I (a * b)) :: rest))) : W p l e R s m args below meth c H locs cells slots Q (F0 m pc ls (.int (ym_I b) :: .int (ym_I a) :: rest)) := lv_imul hx hb hdg (by rw [ym_I_mul]; exact k)
theorem ym_ineg (hx : p.tables.exec = Jvm.exec) (hb : c.code = cc) {a : Int} (hdg : decode cc pc = .ok (.ineg, 1)) (k : W p l e R s m args below meth c H locs cells slots Q (F0 m (pc + 1) ls (.int (ym_I (-a)) :: rest))) : W p l e R s m args below meth c H locs cells slots Q (F0 m pc ls (.int (ym_I a) :: rest)) := lv_ineg hx hb hdg (by rw [ym_I_neg]; exact k)
theorem ym_iand1 (hx : p.tables.exec = Jvm.exec) (hb : c.code = cc) {a : Int} (hdg : decode cc pc = .ok (.iand, 1)) (k : W p l e R s m args below meth c H locs cells slots Q (F0 m (pc + 1) ls (.int (ym_I (a % 2)) :: rest))) : W p l e R s m args below meth c H locs cells slots Q (F0 m pc ls (.int (ym_I 1) :: .int (ym_I a) :: rest)) := lv_iand hx hb hdg (by rw [ym_and1]; exact k)
theorem ym_iandM (hx : p.tables.exec = Jvm.exec) (hb : c.code = cc) {a : Int} (hdg : decode cc pc = .ok (.iand, 1)) (k : W p l e R s m args below meth c H locs cells slots Q (F0 m (pc + 1) ls (.int (ym_I (a % 2147483648)) :: rest))) : W p l e R s m args below meth c H locs cells slots Q (F0 m pc ls (.int (ym_I 2147483647) :: .int (ym_I a) :: rest)) := lv_iand hx hb hdg (by rw [ym_andM]; exact k)
theorem ym_irem (hx : p.tables.exec = Jvm.exec) (hb : c.code = cc) {a b : Int} (ha : ym_i a) (hb2 : ym_i b) (hne : b ≠ 0) (hdg : decode cc pc = .ok (.irem, 1)) (k : W p l e R s m args below meth c H locs cells slots Q (F0 m (pc + 1) ls (.int (ym_I (a.tmod b)) :: rest))) : W p l e R s m args below meth c H locs cells slots Q (F0 m pc ls (.int (ym_I b) :: .int (ym_I a) :: rest)) := lv_irem hx hb hdg (ym_I_nz hb2 hne) (by rw [ym_I_rem ha hb2]; exact k)
theorem ym_ladd (hx : p.tables.exec = Jvm.exec) (hb : c.code = cc) {a b : Int} (hdg : decode cc pc = .ok (.ladd, 1)) (k : W p l e R s m args below meth c H locs cells slots Q (F0 m (pc + 1) ls (.long (ym_L (a + b)) :: rest))) : W p l e R s m args below meth c H locs cells slots Q (F0 m pc ls (.long (ym_L b) :: .long (ym_L a) :: rest)) := lv_ladd hx hb hdg (by rw [ym_L_add]; exact k)
theorem ym_lsub (hx : p.tables.exec = Jvm.exec) (hb : c.code = cc) {a b : Int} (hdg : decode cc pc = .ok (.lsub, 1)) (k : W p l e R s m args below meth c H locs cells slots Q (F0 m (pc + 1) ls (.long (ym_L (a - b)) :: rest))) : W p l e R s m args below meth c H locs cells slots Q (F0 m pc ls (.long (ym_L b) :: .long (ym_L a) :: rest)) := lv_lsub hx hb hdg (by rw [ym_L_sub]; exact k)
theorem ym_lmul (hx : p.tables.exec = Jvm.exec) (hb : c.code = cc) {a b : Int} (hdg : decode cc pc = .ok (.lmul, 1)) (k : W p l e R s m args below meth c H locs cells slots Q (F0 m (pc + 1) ls (.long (ym_L (a * b)) :: rest))) : W p l e R s m args below meth c H locs cells slots Q (F0 m pc ls (.long (ym_L b) :: .long (ym_L a) :: rest)) := lv_lmul hx hb hdg (by rw [ym_L_mul]; exact k)
theorem ym_land3 (hx : p.tables.exec = Jvm.exec) (hb : c.code = cc) {a : Int} (hdg : decode cc pc = .ok (.land, 1)) (k : W p l e R s m args below meth c H locs cells slots Q (F0 m (pc + 1) ls (.long (ym_L (a % 4)) :: rest))) : W p l e R s m args below meth c H locs cells slots Q (F0 m pc ls (.long (ym_L 3) :: .long (ym_L a) :: rest)) := lv_land hx hb hdg (by rw [ym_and3]; exact k)
theorem ym_ldiv (hx : p.tables.exec = Jvm.exec) (hb : c.code = cc) {a b : Int} (ha : ym_l a) (hb2 : ym_l b) (hne : b ≠ 0) (hdg : decode cc pc = .ok (.ldiv, 1)) (k : W p l e R s m args below meth c H locs cells slots Q (F0 m (pc + 1) ls (.long (ym_L (a.tdiv b)) :: rest))) : W p l e R s m args below meth c H locs cells slots Q (F0 m pc ls (.long (ym_L b) :: .long (ym_L a) :: rest)) := lv_ldiv hx hb hdg (ym_L_nz hb2 hne) (by rw [ym_L_div ha hb2]; exact k)
theorem ym_lrem (hx : p.tables.exec = Jvm.exec) (hb : c.code = cc) {a b : Int} (ha : ym_l a) (hb2 : ym_l b) (hne : b ≠ 0) (hdg : decode cc pc = .ok (.lrem, 1)) (k : W p l e R s m args below meth c H locs cells slots Q (F0 m (pc + 1) ls (.long (ym_L (a.tmod b)) :: rest))) : W p l e R s m args below meth c H locs cells slots Q (F0 m pc ls (.long (ym_L b) :: .long (ym_L a) :: rest)) := lv_lrem hx hb hdg (ym_L_nz hb2 hne) (by rw [ym_L_rem ha hb2]; exact k)
theorem ym_Wi2l (hx : p.tables.exec = Jvm.exec) (hb : c.code = cc) {a : Int} (ha : ym_i a) (hdg : decode cc pc = .ok (.i2l, 1)) (k : W p l e R s m args below meth c H locs cells slots Q (F0 m (pc + 1) ls (.long (ym_L a) :: rest))) : W p l e R s m args below meth c H locs cells slots Q (F0 m pc ls (.int (ym_I a) :: rest)) := lv_i2l hx hb hdg (ym_i2l ha) k
theorem ym_Wl2i (hx : p.tables.exec = Jvm.exec) (hb : c.code = cc) {a : Int} (hdg : decode cc pc = .ok (.l2i, 1)) (k : W p l e R s m args below meth c H locs cells slots Q (F0 m (pc + 1) ls (.int (ym_I a) :: rest))) : W p l e R s m args below meth c H locs cells slots Q (F0 m pc ls (.long (ym_L a) :: rest)) := lv_l2i hx hb hdg (ym_l2i a) k
theorem ym_Wi2s (hx : p.tables.exec = Jvm.exec) (hb : c.code = cc) {a : Int} (h1 : -32768 ≤ a) (h2 : a ≤ 32767) (hdg : decode cc pc = .ok (.i2s, 1)) (k : W p l e R s m args below meth c H locs cells slots Q (F0 m (pc + 1) ls (.int (ym_I a) :: rest))) : W p l e R s m args below meth c H locs cells slots Q (F0 m pc ls (.int (ym_I a) :: rest)) := lv_i2s hx hb hdg (ym_i2s h1 h2) k
theorem ym_ishr (hx : p.tables.exec = Jvm.exec) (hb : c.code = cc) {x y : Int32} (hdg : decode cc pc = .ok (.ishr, 1)) (k : ∀ w : Int, ym_i w → W p l e R s m args below meth c H locs cells slots Q (F0 m (pc + 1) ls (.int (ym_I w) :: rest))) : W p l e R s m args below meth c H locs cells slots Q (F0 m pc ls (.int y :: .int x :: rest)) := by
  refine lv_ishr hx hb hdg ?_
  refine lv_topi (fun z _ => ?_)
  rw [ym_I_of z]
  exact k _ (ym_I_ran z)
theorem ym_seti {a : Int} (b : Int) (h : a = b) (k : W p l e R s m args below meth c H locs cells slots Q (F0 m pc ls (.int (ym_I b) :: rest))) : W p l e R s m args below meth c H locs cells slots Q (F0 m pc ls (.int (ym_I a) :: rest)) := by
  subst h
  exact k
theorem ym_setl {a : Int} (b : Int) (h : a = b) (k : W p l e R s m args below meth c H locs cells slots Q (F0 m pc ls (.long (ym_L b) :: rest))) : W p l e R s m args below meth c H locs cells slots Q (F0 m pc ls (.long (ym_L a) :: rest)) := by
  subst h
  exact k
theorem ym_icmp_eq (hx : p.tables.exec = Jvm.exec) (hb : c.code = cc) {a b : Int} {off : Int} {tgt : Nat} (ha : ym_i a) (hb2 : ym_i b) (hdg : decode cc pc = .ok (.if_icmp .eq off, 3)) (ht : (pc : Int) + off = (tgt : Int)) (kt : a = b → W p l e R s m args below meth c H locs cells slots Q (F0 m tgt ls rest)) (kf : a ≠ b → W p l e R s m args below meth c H locs cells slots Q (F0 m (pc + 3) ls rest)) : W p l e R s m args below meth c H locs cells slots Q (F0 m pc ls (.int (ym_I b) :: .int (ym_I a) :: rest)) := lv_icmp_eq hx hb hdg ht (fun h => kt ((ym_I_eq ha hb2).mp h)) (fun h => kf (fun q => h ((ym_I_eq ha hb2).mpr q)))
theorem ym_icmp_ne (hx : p.tables.exec = Jvm.exec) (hb : c.code = cc) {a b : Int} {off : Int} {tgt : Nat} (ha : ym_i a) (hb2 : ym_i b) (hdg : decode cc pc = .ok (.if_icmp .ne off, 3)) (ht : (pc : Int) + off = (tgt : Int)) (kt : a ≠ b → W p l e R s m args below meth c H locs cells slots Q (F0 m tgt ls rest)) (kf : a = b → W p l e R s m args below meth c H locs cells slots Q (F0 m (pc + 3) ls rest)) : W p l e R s m args below meth c H locs cells slots Q (F0 m pc ls (.int (ym_I b) :: .int (ym_I a) :: rest)) := lv_icmp_ne hx hb hdg ht (fun h => kt (fun q => h ((ym_I_eq ha hb2).mpr q))) (fun h => kf ((ym_I_eq ha hb2).mp h))
theorem ym_icmp_lt (hx : p.tables.exec = Jvm.exec) (hb : c.code = cc) {a b : Int} {off : Int} {tgt : Nat} (ha : ym_i a) (hb2 : ym_i b) (hdg : decode cc pc = .ok (.if_icmp .lt off, 3)) (ht : (pc : Int) + off = (tgt : Int)) (kt : a < b → W p l e R s m args below meth c H locs cells slots Q (F0 m tgt ls rest)) (kf : b ≤ a → W p l e R s m args below meth c H locs cells slots Q (F0 m (pc + 3) ls rest)) : W p l e R s m args below meth c H locs cells slots Q (F0 m pc ls (.int (ym_I b) :: .int (ym_I a) :: rest)) := lv_icmp_lt hx hb hdg ht (fun h => kt ((ym_I_lt ha hb2).mp h)) (fun h => kf (by have := mt (ym_I_lt ha hb2).mpr h; omega))
theorem ym_icmp_ge (hx : p.tables.exec = Jvm.exec) (hb : c.code = cc) {a b : Int} {off : Int} {tgt : Nat} (ha : ym_i a) (hb2 : ym_i b) (hdg : decode cc pc = .ok (.if_icmp .ge off, 3)) (ht : (pc : Int) + off = (tgt : Int)) (kt : b ≤ a → W p l e R s m args below meth c H locs cells slots Q (F0 m tgt ls rest)) (kf : a < b → W p l e R s m args below meth c H locs cells slots Q (F0 m (pc + 3) ls rest)) : W p l e R s m args below meth c H locs cells slots Q (F0 m pc ls (.int (ym_I b) :: .int (ym_I a) :: rest)) := lv_icmp_ge hx hb hdg ht (fun h => kt ((ym_I_le hb2 ha).mp h)) (fun h => kf (by have := mt (ym_I_le hb2 ha).mpr h; omega))
theorem ym_icmp_gt (hx : p.tables.exec = Jvm.exec) (hb : c.code = cc) {a b : Int} {off : Int} {tgt : Nat} (ha : ym_i a) (hb2 : ym_i b) (hdg : decode cc pc = .ok (.if_icmp .gt off, 3)) (ht : (pc : Int) + off = (tgt : Int)) (kt : b < a → W p l e R s m args below meth c H locs cells slots Q (F0 m tgt ls rest)) (kf : a ≤ b → W p l e R s m args below meth c H locs cells slots Q (F0 m (pc + 3) ls rest)) : W p l e R s m args below meth c H locs cells slots Q (F0 m pc ls (.int (ym_I b) :: .int (ym_I a) :: rest)) := lv_icmp_gt hx hb hdg ht (fun h => kt ((ym_I_lt hb2 ha).mp h)) (fun h => kf (by have := mt (ym_I_lt hb2 ha).mpr h; omega))
theorem ym_icmp_le (hx : p.tables.exec = Jvm.exec) (hb : c.code = cc) {a b : Int} {off : Int} {tgt : Nat} (ha : ym_i a) (hb2 : ym_i b) (hdg : decode cc pc = .ok (.if_icmp .le off, 3)) (ht : (pc : Int) + off = (tgt : Int)) (kt : a ≤ b → W p l e R s m args below meth c H locs cells slots Q (F0 m tgt ls rest)) (kf : b < a → W p l e R s m args below meth c H locs cells slots Q (F0 m (pc + 3) ls rest)) : W p l e R s m args below meth c H locs cells slots Q (F0 m pc ls (.int (ym_I b) :: .int (ym_I a) :: rest)) := lv_icmp_le hx hb hdg ht (fun h => kt ((ym_I_le ha hb2).mp h)) (fun h => kf (by have := mt (ym_I_le ha hb2).mpr h; omega))
theorem ym_if_eq (hx : p.tables.exec = Jvm.exec) (hb : c.code = cc) {a : Int} {off : Int} {tgt : Nat} (ha : ym_i a) (hdg : decode cc pc = .ok (.ifCond .eq off, 3)) (ht : (pc : Int) + off = (tgt : Int)) (kt : a = 0 → W p l e R s m args below meth c H locs cells slots Q (F0 m tgt ls rest)) (kf : a ≠ 0 → W p l e R s m args below meth c H locs cells slots Q (F0 m (pc + 3) ls rest)) : W p l e R s m args below meth c H locs cells slots Q (F0 m pc ls (.int (ym_I a) :: rest)) := lv_if_eq hx hb hdg ht (fun h => kt ((ym_z_eq ha).mp h)) (fun h => kf (fun q => h ((ym_z_eq ha).mpr q)))
theorem ym_if_ne (hx : p.tables.exec = Jvm.exec) (hb : c.code = cc) {a : Int} {off : Int} {tgt : Nat} (ha : ym_i a) (hdg : decode cc pc = .ok (.ifCond .ne off, 3)) (ht : (pc : Int) + off = (tgt : Int)) (kt : a ≠ 0 → W p l e R s m args below meth c H locs cells slots Q (F0 m tgt ls rest)) (kf : a = 0 → W p l e R s m args below meth c H locs cells slots Q (F0 m (pc + 3) ls rest)) : W p l e R s m args below meth c H locs cells slots Q (F0 m pc ls (.int (ym_I a) :: rest)) := lv_if_ne hx hb hdg ht (fun h => kt (fun q => h ((ym_z_eq ha).mpr q))) (fun h => kf ((ym_z_eq ha).mp h))
theorem ym_if_lt (hx : p.tables.exec = Jvm.exec) (hb : c.code = cc) {a : Int} {off : Int} {tgt : Nat} (ha : ym_i a) (hdg : decode cc pc = .ok (.ifCond .lt off, 3)) (ht : (pc : Int) + off = (tgt : Int)) (kt : a < 0 → W p l e R s m args below meth c H locs cells slots Q (F0 m tgt ls rest)) (kf : 0 ≤ a → W p l e R s m args below meth c H locs cells slots Q (F0 m (pc + 3) ls rest)) : W p l e R s m args below meth c H locs cells slots Q (F0 m pc ls (.int (ym_I a) :: rest)) := lv_if_lt hx hb hdg ht (fun h => kt ((ym_z_lt ha).mp h)) (fun h => kf (by have := mt (ym_z_lt ha).mpr h; omega))
theorem ym_if_ge (hx : p.tables.exec = Jvm.exec) (hb : c.code = cc) {a : Int} {off : Int} {tgt : Nat} (ha : ym_i a) (hdg : decode cc pc = .ok (.ifCond .ge off, 3)) (ht : (pc : Int) + off = (tgt : Int)) (kt : 0 ≤ a → W p l e R s m args below meth c H locs cells slots Q (F0 m tgt ls rest)) (kf : a < 0 → W p l e R s m args below meth c H locs cells slots Q (F0 m (pc + 3) ls rest)) : W p l e R s m args below meth c H locs cells slots Q (F0 m pc ls (.int (ym_I a) :: rest)) := lv_if_ge hx hb hdg ht (fun h => kt ((ym_z_ge ha).mp h)) (fun h => kf (by have := mt (ym_z_ge ha).mpr h; omega))
theorem ym_if_gt (hx : p.tables.exec = Jvm.exec) (hb : c.code = cc) {a : Int} {off : Int} {tgt : Nat} (ha : ym_i a) (hdg : decode cc pc = .ok (.ifCond .gt off, 3)) (ht : (pc : Int) + off = (tgt : Int)) (kt : 0 < a → W p l e R s m args below meth c H locs cells slots Q (F0 m tgt ls rest)) (kf : a ≤ 0 → W p l e R s m args below meth c H locs cells slots Q (F0 m (pc + 3) ls rest)) : W p l e R s m args below meth c H locs cells slots Q (F0 m pc ls (.int (ym_I a) :: rest)) := lv_if_gt hx hb hdg ht (fun h => kt ((ym_z_gt ha).mp h)) (fun h => kf (by have := mt (ym_z_gt ha).mpr h; omega))
theorem ym_if_le (hx : p.tables.exec = Jvm.exec) (hb : c.code = cc) {a : Int} {off : Int} {tgt : Nat} (ha : ym_i a) (hdg : decode cc pc = .ok (.ifCond .le off, 3)) (ht : (pc : Int) + off = (tgt : Int)) (kt : a ≤ 0 → W p l e R s m args below meth c H locs cells slots Q (F0 m tgt ls rest)) (kf : 0 < a → W p l e R s m args below meth c H locs cells slots Q (F0 m (pc + 3) ls rest)) : W p l e R s m args below meth c H locs cells slots Q (F0 m pc ls (.int (ym_I a) :: rest)) := lv_if_le hx hb hdg ht (fun h => kt ((ym_z_le ha).mp h)) (fun h => kf (by have := mt (ym_z_le ha).mpr h; omega))
theorem ym_lcmp_eq (hx : p.tables.exec = Jvm.exec) (hb : c.code = cc) {a b : Int} {off : Int} {tgt : Nat} (ha : ym_l a) (hb2 : ym_l b) (hd1 : decode cc pc = .ok (.lcmp, 1)) (hdg : decode cc (pc + 1) = .ok (.ifCond .eq off, 3)) (ht : ((pc + 1 : Nat) : Int) + off = (tgt : Int)) (kt : a = b → W p l e R s m args below meth c H locs cells slots Q (F0 m tgt ls rest)) (kf : a ≠ b → W p l e R s m args below meth c H locs cells slots Q (F0 m (pc + 4) ls rest)) : W p l e R s m args below meth c H locs cells slots Q (F0 m pc ls (.long (ym_L b) :: .long (ym_L a) :: rest)) := by
  refine W.lcmp hx hb hd1 ?_
  rw [ym_cmp ha hb2]
  by_cases h1 : b < a
  · rw [if_pos h1]
    exact ym_if_eq hx hb ⟨by decide, by decide⟩ hdg ht (fun h => kt (by omega)) (fun h => kf (by omega))
  · rw [if_neg h1]
    by_cases h2 : a = b
    · rw [if_pos h2]
      exact ym_if_eq hx hb ⟨by decide, by decide⟩ hdg ht (fun h => kt (by omega)) (fun h => kf (by omega))
    · rw [if_neg h2]
      exact ym_if_eq hx hb ⟨by decide, by decide⟩ hdg ht (fun h => kt (by omega)) (fun h => kf (by omega))
theorem ym_lcmp_ne (hx : p.tables.exec = Jvm.exec) (hb : c.code = cc) {a b : Int} {off : Int} {tgt : Nat} (ha : ym_l a) (hb2 : ym_l b) (hd1 : decode cc pc = .ok (.lcmp, 1)) (hdg : decode cc (pc + 1) = .ok (.ifCond .ne off, 3)) (ht : ((pc + 1 : Nat) : Int) + off = (tgt : Int)) (kt : a ≠ b → W p l e R s m args below meth c H locs cells slots Q (F0 m tgt ls rest)) (kf : a = b → W p l e R s m args below meth c H locs cells slots Q (F0 m (pc + 4) ls rest)) : W p l e R s m args below meth c H locs cells slots Q (F0 m pc ls (.long (ym_L b) :: .long (ym_L a) :: rest)) := by
  refine W.lcmp hx hb hd1 ?_
  rw [ym_cmp ha hb2]
  by_cases h1 : b < a
  · rw [if_pos h1]
    exact ym_if_ne hx hb ⟨by decide, by decide⟩ hdg ht (fun h => kt (by omega)) (fun h => kf (by omega))
  · rw [if_neg h1]
    by_cases h2 : a = b
    · rw [if_pos h2]
      exact ym_if_ne hx hb ⟨by decide, by decide⟩ hdg ht (fun h => kt (by omega)) (fun h => kf (by omega))
    · rw [if_neg h2]
      exact ym_if_ne hx hb ⟨by decide, by decide⟩ hdg ht (fun h => kt (by omega)) (fun h => kf (by omega))
theorem ym_lcmp_lt (hx : p.tables.exec = Jvm.exec) (hb : c.code = cc) {a b : Int} {off : Int} {tgt : Nat} (ha : ym_l a) (hb2 : ym_l b) (hd1 : decode cc pc = .ok (.lcmp, 1)) (hdg : decode cc (pc + 1) = .ok (.ifCond .lt off, 3)) (ht : ((pc + 1 : Nat) : Int) + off = (tgt : Int)) (kt : a < b → W p l e R s m args below meth c H locs cells slots Q (F0 m tgt ls rest)) (kf : b ≤ a → W p l e R s m args below meth c H locs cells slots Q (F0 m (pc + 4) ls rest)) : W p l e R s m args below meth c H locs cells slots Q (F0 m pc ls (.long (ym_L b) :: .long (ym_L a) :: rest)) := by
  refine W.lcmp hx hb hd1 ?_
  rw [ym_cmp ha hb2]
  by_cases h1 : b < a
  · rw [if_pos h1]
    exact ym_if_lt hx hb ⟨by decide, by decide⟩ hdg ht (fun h => kt (by omega)) (fun h => kf (by omega))
  · rw [if_neg h1]
    by_cases h2 : a = b
    · rw [if_pos h2]
      exact ym_if_lt hx hb ⟨by decide, by decide⟩ hdg ht (fun h => kt (by omega)) (fun h => kf (by omega))
    · rw [if_neg h2]
      exact ym_if_lt hx hb ⟨by decide, by decide⟩ hdg ht (fun h => kt (by omega)) (fun h => kf (by omega))
theorem ym_lcmp_ge (hx : p.tables.exec = Jvm.exec) (hb : c.code = cc) {a b : Int} {off : Int} {tgt : Nat} (ha : ym_l a) (hb2 : ym_l b) (hd1 : decode cc pc = .ok (.lcmp, 1)) (hdg : decode cc (pc + 1) = .ok (.ifCond .ge off, 3)) (ht : ((pc + 1 : Nat) : Int) + off = (tgt : Int)) (kt : b ≤ a → W p l e R s m args below meth c H locs cells slots Q (F0 m tgt ls rest)) (kf : a < b → W p l e R s m args below meth c H locs cells slots Q (F0 m (pc + 4) ls rest)) : W p l e R s m args below meth c H locs cells slots Q (F0 m pc ls (.long (ym_L b) :: .long (ym_L a) :: rest)) := by
  refine W.lcmp hx hb hd1 ?_
  rw [ym_cmp ha hb2]
  by_cases h1 : b < a
  · rw [if_pos h1]
    exact ym_if_ge hx hb ⟨by decide, by decide⟩ hdg ht (fun h => kt (by omega)) (fun h => kf (by omega))
  · rw [if_neg h1]
    by_cases h2 : a = b
    · rw [if_pos h2]
      exact ym_if_ge hx hb ⟨by decide, by decide⟩ hdg ht (fun h => kt (by omega)) (fun h => kf (by omega))
    · rw [if_neg h2]
      exact ym_if_ge hx hb ⟨by decide, by decide⟩ hdg ht (fun h => kt (by omega)) (fun h => kf (by omega))
theorem ym_lcmp_gt (hx : p.tables.exec = Jvm.exec) (hb : c.code = cc) {a b : Int} {off : Int} {tgt : Nat} (ha : ym_l a) (hb2 : ym_l b) (hd1 : decode cc pc = .ok (.lcmp, 1)) (hdg : decode cc (pc + 1) = .ok (.ifCond .gt off, 3)) (ht : ((pc + 1 : Nat) : Int) + off = (tgt : Int)) (kt : b < a → W p l e R s m args below meth c H locs cells slots Q (F0 m tgt ls rest)) (kf : a ≤ b → W p l e R s m args below meth c H locs cells slots Q (F0 m (pc + 4) ls rest)) : W p l e R s m args below meth c H locs cells slots Q (F0 m pc ls (.long (ym_L b) :: .long (ym_L a) :: rest)) := by
  refine W.lcmp hx hb hd1 ?_
  rw [ym_cmp ha hb2]
  by_cases h1 : b < a
  · rw [if_pos h1]
    exact ym_if_gt hx hb ⟨by decide, by decide⟩ hdg ht (fun h => kt (by omega)) (fun h => kf (by omega))
  · rw [if_neg h1]
    by_cases h2 : a = b
    · rw [if_pos h2]
      exact ym_if_gt hx hb ⟨by decide, by decide⟩ hdg ht (fun h => kt (by omega)) (fun h => kf (by omega))
    · rw [if_neg h2]
      exact ym_if_gt hx hb ⟨by decide, by decide⟩ hdg ht (fun h => kt (by omega)) (fun h => kf (by omega))
theorem ym_lcmp_le (hx : p.tables.exec = Jvm.exec) (hb : c.code = cc) {a b : Int} {off : Int} {tgt : Nat} (ha : ym_l a) (hb2 : ym_l b) (hd1 : decode cc pc = .ok (.lcmp, 1)) (hdg : decode cc (pc + 1) = .ok (.ifCond .le off, 3)) (ht : ((pc + 1 : Nat) : Int) + off = (tgt : Int)) (kt : a ≤ b → W p l e R s m args below meth c H locs cells slots Q (F0 m tgt ls rest)) (kf : b < a → W p l e R s m args below meth c H locs cells slots Q (F0 m (pc + 4) ls rest)) : W p l e R s m args below meth c H locs cells slots Q (F0 m pc ls (.long (ym_L b) :: .long (ym_L a) :: rest)) := by
  refine W.lcmp hx hb hd1 ?_
  rw [ym_cmp ha hb2]
  by_cases h1 : b < a
  · rw [if_pos h1]
    exact ym_if_le hx hb ⟨by decide, by decide⟩ hdg ht (fun h => kt (by omega)) (fun h => kf (by omega))
  · rw [if_neg h1]
    by_cases h2 : a = b
    · rw [if_pos h2]
      exact ym_if_le hx hb ⟨by decide, by decide⟩ hdg ht (fun h => kt (by omega)) (fun h => kf (by omega))
    · rw [if_neg h2]
      exact ym_if_le hx hb ⟨by decide, by decide⟩ hdg ht (fun h => kt (by omega)) (fun h => kf (by omega))
end YB
end
section
/-! THE WORLD: the constants that stand from the start, objects of three kinds, contracts over the heap alone, calls -/
abbrev vwCl : List vw_C := [(RX1, TX1, 1), (RX3, TX3, 2), (RX10, TX10, 3)]
abbrev ym_A (n0 : Nat) : Nat → Prop := fun q => n0 ≤ q
def ym_nm : Nat → String := fun k => match k with
  | 0 => "YEAR"
  | 1 => "MONTH_OF_YEAR"
  | _ => "DAY_OF_MONTH"
def ym_lo : Nat → Int := fun k => match k with
  | 0 => -999999999
  | _ => 1
def ym_hi : Nat → Int := fun k => match k with
  | 0 => 999999999
  | 1 => 12
  | _ => 31
/-- field k of ChronoField (0 the year, 1 the month, 2 the day), its range -/
def ym_kf (k n0 : Nat) (ad : Nat → Nat) (U : State) (H : Heap) : Prop :=
  va_Z "ChronoField" (ym_nm k) "LChronoField;" (.ref (ad (12 + k))) (ym_A n0) U H ∧ va_O "ChronoField" (ad (12 + k)) (ym_A n0) U H ∧ va_OF "ChronoField" "range" "LValueRange;" (.ref (ad (15 + k))) (ad (12 + k)) (ym_A n0) U H ∧ va_O "ValueRange" (ad (15 + k)) (ym_A n0) U H ∧ va_OF "ValueRange" "minSmallest" "J" (.long (ym_L (ym_lo k))) (ad (15 + k)) (ym_A n0) U H ∧ va_OF "ValueRange" "maxLargest" "J" (.long (ym_L (ym_hi k))) (ad (15 + k)) (ym_A n0) U H
/-- month j of Month (0 is January) -/
def ym_km (j n0 : Nat) (ad : Nat → Nat) (U : State) (H : Heap) : Prop := va_O "Month" (ad j) (ym_A n0) U H ∧ va_OF "java/lang/Enum" "ordinal" "I" (.int (ym_I j)) (ad j) (ym_A n0) U H
/-- all constants -/
def ym_kw (n0 : Nat) (ad : Nat → Nat) (U : State) (H : Heap) : Prop :=
  (∀ k, k < 3 → ym_kf k n0 ad U H) ∧ (∀ j, j < 12 → ym_km j n0 ad U H) ∧ va_Z "IsoChronology" "INSTANCE" "LIsoChronology;" (.ref (ad 18)) (ym_A n0) U H ∧ va_O "IsoChronology" (ad 18) (ym_A n0) U H ∧ va_Z "Month" "ENUMS" "[LMonth;" (.ref (ad 19)) (ym_A n0) U H ∧ va_T (.object "Month") (ad 19) 12 (fun j => .ref (ad j)) (ym_A n0) U H ∧ va_AO "YearMonth" U
theorem ym_kf_moved {k n0 : Nat} {ad : Nat → Nat} {u U : State} {H : Heap} (hvm : u.vm.Alike U.vm) (h : ym_kf k n0 ad u H) : ym_kf k n0 ad U H := by
  obtain ⟨h1, h2, h3, h4, h5, h6⟩ := h
  exact ⟨va_Z.moved hvm h1, va_O.moved hvm h2, va_OF.moved hvm h3, va_O.moved hvm h4, va_OF.moved hvm h5, va_OF.moved hvm h6⟩
theorem ym_kf_kept {k n0 : Nat} {ad : Nat → Nat} {U : State} {H H1 : Heap} (h : ym_kf k n0 ad U H) (hq : ∀ a : Nat, a < H.size → ¬ ym_A n0 a → H1[a]? = H[a]?) : ym_kf k n0 ad U H1 := by
  obtain ⟨h1, h2, h3, h4, h5, h6⟩ := h
  exact ⟨h1.kept hq, h2.kept hq, h3.kept hq, h4.kept hq, h5.kept hq, h6.kept hq⟩
theorem ym_kw_moved {n0 : Nat} {ad : Nat → Nat} {u U : State} {H : Heap} (hvm : u.vm.Alike U.vm) (h : ym_kw n0 ad u H) : ym_kw n0 ad U H := by
  obtain ⟨h1, h2, h3, h4, h5, h6, h7⟩ := h
  exact ⟨fun k hk => ym_kf_moved hvm (h1 k hk), fun j hj => ⟨va_O.moved hvm (h2 j hj).1, va_OF.moved hvm (h2 j hj).2⟩, va_Z.moved hvm h3, va_O.moved hvm h4, va_Z.moved hvm h5, va_T.moved hvm h6, va_AO.moved hvm h7⟩
theorem ym_kw_kept {n0 : Nat} {ad : Nat → Nat} {U : State} {H H1 : Heap} (h : ym_kw n0 ad U H) (hq : ∀ a : Nat, a < H.size → ¬ ym_A n0 a → H1[a]? = H[a]?) : ym_kw n0 ad U H1 := by
  obtain ⟨h1, h2, h3, h4, h5, h6, h7⟩ := h
  exact ⟨fun k hk => ym_kf_kept (h1 k hk) hq, fun j hj => ⟨(h2 j hj).1.kept hq, (h2 j hj).2.kept hq⟩, h3.kept hq, h4.kept hq, h5.kept hq, h6.kept hq, h7⟩
/-- the heap grew, no old cell changed -/
def ym_ext (H H1 : Heap) : Prop := H.size ≤ H1.size ∧ ∀ q : Nat, q < H.size → H1[q]? = H[q]?
theorem ym_ext_rf {H : Heap} : ym_ext H H := ⟨Nat.le_refl _, fun _ _ => rfl⟩
theorem ym_ext_tr {H H1 H2 : Heap} (h : ym_ext H H1) (h2 : ym_ext H1 H2) : ym_ext H H2 := ⟨Nat.le_trans h.1 h2.1, fun q hq => (h2.2 q (Nat.lt_of_lt_of_le hq h.1)).trans (h.2 q hq)⟩
theorem ym_ext_kw {n0 : Nat} {ad : Nat → Nat} {U : State} {H H1 : Heap} (hE : ym_ext H H1) (h : ym_kw n0 ad U H) : ym_kw n0 ad U H1 := ym_kw_kept h (fun a ha _ => hE.2 a ha)
theorem ym_ext_P {D : va_G} {cl : List vw_C} {wd : va_W} {H H1 : Heap} (hE : ym_ext H H1) (h : va_P D cl wd H) : va_P D cl wd H1 := h.kept (fun k q hq => hE.2 q.1 (h k q hq).lt)
theorem ym_ext_X {b L : Nat} {xs : Nat → Int32} {U : State} {H H1 : Heap} (hE : ym_ext H H1) (h : va_X b L xs U H) : va_X b L xs U H1 := by
  obtain ⟨scr, h1, h2⟩ := h
  exact ⟨scr, (hE.2 b (Array.getElem?_eq_some_iff.mp h1).1).trans h1, h2⟩
/-- a start's world: the constants, the classes, the cells -/
def ym_w (n0 : Nat) (ad : Nat → Nat) (D : va_G) (tys : List (ClassId × FieldType)) (wd : va_W) : State → Heap → Prop := fun U H => ym_kw n0 ad U H ∧ va_K D vwCl tys U ∧ va_P D vwCl wd H
def ym_G (G : State → Heap → Prop) : State → Prop := fun U => G U U.heap
def ym_mv (G : State → Heap → Prop) : Prop := ∀ (u U : State) (H : Heap), u.vm.Alike U.vm → G u H → G U H
theorem ym_w_mv {n0 : Nat} {ad : Nat → Nat} {D : va_G} {tys : List (ClassId × FieldType)} {wd : va_W} : ym_mv (ym_w n0 ad D tys wd) := fun _ _ _ hvm h => ⟨ym_kw_moved hvm h.1, va_K.moved hvm h.2.1, h.2.2⟩
theorem ym_blind {G : State → Heap → Prop} (hmv : ym_mv G) (av : List Value) : FrameBlind (va_Pc av (ym_G G)) := fun a U g mk q => ⟨q.1, hmv U (U.calling g mk a) U.heap (Vm.Alike.refl U.vm) q.2⟩
theorem ym_pre {G : State → Heap → Prop} (hmv : ym_mv G) {s : State} {H : Heap} (hG : G s H) (av : List Value) : ∀ U : State, U.heap = H → s.WarmedH U.vm → va_Pc av (ym_G G) av.toArray U := fun U hU hW => ⟨rfl, by
  show G U U.heap
  rw [hU]
  exact hmv s U H hW.alike hG⟩
/-- an end, over the heap alone -/
def ym_Q (Z : Option Value → Heap → Heap → Prop) : Array Value → State → Outcome → State → Prop := fun _ st oc t => ∃ v : Option Value, oc = .returned v ∧ Z v st.heap t.heap
/-- it only reads, and answers r -/
def ym_zP (r : Value) : Option Value → Heap → Heap → Prop := fun v H H1 => v = some r ∧ H1 = H
def ym_zV : Option Value → Heap → Heap → Prop := fun v H H1 => v = none ∧ H1 = H
/-- it answers r, and may make cells -/
def ym_zX (r : Value) : Option Value → Heap → Heap → Prop := fun v H H1 => v = some r ∧ ym_ext H H1
/-- it answers an object, that is new or of a kind -/
def ym_zN (D : va_G) (ci : Nat) (fs : List Value) (P : Nat → Prop) : Option Value → Heap → Heap → Prop := fun v H H1 => ∃ a : Nat, v = some (.ref a) ∧ va_P D vwCl [(a, .inr (ci, fs))] H1 ∧ (P a ∨ H.size ≤ a) ∧ ym_ext H H1
/-- it fills the object at h0 -/
def ym_zF (D : va_G) (h0 ci : Nat) (fs : List Value) : Option Value → Heap → Heap → Prop := fun v H H1 => v = none ∧ va_P D vwCl [(h0, .inr (ci, fs))] H1 ∧ H1.size = H.size ∧ ∀ q : Nat, q < H.size → q ≠ h0 → H1[q]? = H[q]?
section YC
variable {p : Program} {l : Launch} {e : Env} {R : Room} {s : State} {m : MethodId} {args : Array Value} {below : List Frame} {meth : Method} {c : Code} {H : Heap} {locs : List Loc} {cells slots : Nat} {Q : State → Prop} {cc : ByteArray} {pc : Nat} {ls : Array Slot} {rest st0 : List Value} {a : Array Value} {free : Addr → Prop}
theorem ym_retI {Z : Option Value → Heap → Heap → Prop} {v : Int32} (hx : p.tables.exec = Jvm.exec) (hb : c.code = cc) (hr : meth.sig.returnType = some .int) (hlocks : meth.locks = false) (hz : Z (some (.int v)) s.heap H) (hf : ∀ q ∈ locs, free q.base) (hdg : decode cc pc = .ok (.ireturn, 1)) : W p l e R s m args below meth c H locs cells slots (MQ below (ym_Q Z) args s cells slots free) (F0 m pc ls [.int v]) := W.iret hx hb hr (fun t ht _ => ⟨_, rfl, by rw [ht]; exact hz⟩) hf hdg hlocks
theorem ym_retZ {Z : Option Value → Heap → Heap → Prop} {v : Int32} (hx : p.tables.exec = Jvm.exec) (hb : c.code = cc) (hr : meth.sig.returnType = some .boolean) (hlocks : meth.locks = false) (hn : narrow .boolean (.int v) = .int v) (hz : Z (some (.int v)) s.heap H) (hf : ∀ q ∈ locs, free q.base) (hdg : decode cc pc = .ok (.ireturn, 1)) : W p l e R s m args below meth c H locs cells slots (MQ below (ym_Q Z) args s cells slots free) (F0 m pc ls [.int v]) := W.zret hx hb hr hn (fun t ht _ => ⟨_, rfl, by rw [ht]; exact hz⟩) hf hdg hlocks
theorem ym_retL {Z : Option Value → Heap → Heap → Prop} {v : Int64} (hx : p.tables.exec = Jvm.exec) (hb : c.code = cc) (hr : meth.sig.returnType = some .long) (hlocks : meth.locks = false) (hz : Z (some (.long v)) s.heap H) (hf : ∀ q ∈ locs, free q.base) (hdg : decode cc pc = .ok (.lreturn, 1)) : W p l e R s m args below meth c H locs cells slots (MQ below (ym_Q Z) args s cells slots free) (F0 m pc ls [.long v]) := W.lret hx hb hr (fun t ht _ => ⟨_, rfl, by rw [ht]; exact hz⟩) hf hdg hlocks
theorem ym_retV {Z : Option Value → Heap → Heap → Prop} (hx : p.tables.exec = Jvm.exec) (hb : c.code = cc) (hr : meth.sig.returnType = none) (hlocks : meth.locks = false) (hz : Z none s.heap H) (hf : ∀ q ∈ locs, free q.base) (hdg : decode cc pc = .ok (.return_, 1)) : W p l e R s m args below meth c H locs cells slots (MQ below (ym_Q Z) args s cells slots free) (F0 m pc ls []) := W.vret hx hb hr (fun t ht _ => ⟨_, rfl, by rw [ht]; exact hz⟩) hf hdg hlocks
theorem ym_retA {Z : Option Value → Heap → Heap → Prop} {q : Nat} {C : String} (hx : p.tables.exec = Jvm.exec) (hb : c.code = cc) (hr : meth.sig.returnType = some (.object C)) (hlocks : meth.locks = false) (hz : Z (some (.ref q)) s.heap H) (hf : ∀ q ∈ locs, free q.base) (hdg : decode cc pc = .ok (.areturn, 1)) : W p l e R s m args below meth c H locs cells slots (MQ below (ym_Q Z) args s cells slots free) (F0 m pc ls [.ref q]) := W.aret hx hb hr (Or.inl ⟨C, rfl⟩) (Or.inr ⟨q, rfl⟩) (fun t ht _ => ⟨_, rfl, by rw [ht]; exact hz⟩) hf hdg hlocks
/-- behind a call -/
theorem ym_callZ {Z : Option Value → Heap → Heap → Prop} {mc ms : Nat} (hr : CallRun p l e R s m args below meth c H locs cells slots mc ms (F0 m pc ls st0) rest (ym_Q Z a) free) (hf : ∀ q, free q → s.heap.size ≤ q)
    (kk : ∀ (v : Option Value) (H1 : Heap), Z v H H1 → W p l e R s m args below meth c H1 locs (cells + mc) (slots + ms) Q (F0 m (pc + 3) ls (v.toList ++ rest))) : W p l e R s m args below meth c H locs cells slots Q (F0 m pc ls st0) := by
  intro T hT X
  obtain ⟨v, st₀, t, T', L, h0, X', hL, e1, ⟨v', hv, hz⟩, st⟩ := hr T hT X
  cases hv
  rw [h0, ← e1] at hz
  obtain ⟨t2, a1, b1⟩ := kk v T'.heap hz T' rfl (Stand.forget X' (fun q h => hf _ (hL q h)))
  exact ⟨t2, st t2 a1, b1⟩
/-- behind a call whose writes to old cells count -/
theorem ym_callK {Z : Option Value → Heap → Heap → Prop} {mc ms : Nat} (hr : CallRun p l e R s m args below meth c H locs cells slots mc ms (F0 m pc ls st0) rest (ym_Q Z a) free)
    (kk : ∀ (v : Option Value) (H1 : Heap) (L : List Loc), (∀ q ∈ L, free q.base) → Z v H H1 → W p l e R s m args below meth c H1 (locs ++ L) (cells + mc) (slots + ms) Q (F0 m (pc + 3) ls (v.toList ++ rest))) : W p l e R s m args below meth c H locs cells slots Q (F0 m pc ls st0) := by
  intro T hT X
  obtain ⟨v, st₀, t, T', L, h0, X', hL, e1, ⟨v', hv, hz⟩, st⟩ := hr T hT X
  cases hv
  rw [h0, ← e1] at hz
  obtain ⟨t2, a1, b1⟩ := kk v T'.heap L hL hz T' rfl X'
  exact ⟨t2, st t2 a1, b1⟩
theorem ym_callP {r : Value} (hr : CallRun p l e R s m args below meth c H locs cells slots 0 0 (F0 m pc ls st0) rest (ym_Q (ym_zP r) a) (fun _ => False))
    (kk : W p l e R s m args below meth c H locs cells slots Q (F0 m (pc + 3) ls (r :: rest))) : W p l e R s m args below meth c H locs cells slots Q (F0 m pc ls st0) := by
  refine ym_callZ hr (fun _ h => h.elim) (fun v H1 hz => ?_)
  obtain ⟨rfl, rfl⟩ := hz
  exact kk
theorem ym_callV0 (hr : CallRun p l e R s m args below meth c H locs cells slots 0 0 (F0 m pc ls st0) rest (ym_Q ym_zV a) (fun _ => False))
    (kk : W p l e R s m args below meth c H locs cells slots Q (F0 m (pc + 3) ls rest)) : W p l e R s m args below meth c H locs cells slots Q (F0 m pc ls st0) := by
  refine ym_callZ hr (fun _ h => h.elim) (fun v H1 hz => ?_)
  obtain ⟨rfl, rfl⟩ := hz
  exact kk
variable {y : MethodName} {bytes : ByteArray} {maxL nL mc ms n index : Nat} {ret : Option FieldType} {ws : List Cond} {rm : Room} {G : State → Heap → Prop} {Qc : Array Value → State → Outcome → State → Prop} {Ts : List Cond} {own C : String} {b : Addr} {As : List Value}
theorem ym_rV (S : CallFix p m c cc nL s args Ts own) (hM : Met l y ws rm (va_Pc (.ref b :: As) (ym_G G)) Qc mc ms free) (cw : CallW R s args own C index y bytes maxL ret ws rm mc ms n) (hmv : ym_mv G) (hG : G s H) (hrec : ∃ cellB : Cell, H[b]? = some cellB ∧ cellB.vm.isStatics = false ∧ s.vm.findClass C = some cellB.cls)
    (hn : As.length = n) (hsize : ls.size = nL) (hst : st0 = As.reverse ++ .ref b :: rest) (hW : (rest.map fun v => v.category).sum ≤ 8) (hdg : decode cc pc = .ok (.invokevirtual index, 3)) (hf : cells + mc ≤ R.cells ∧ slots + ms ≤ R.slots) :
    CallRun p l e R s m args below meth c H locs cells slots mc ms (F0 m pc ls st0) rest (Qc (Value.ref b :: As).toArray) free :=
  W.runV S hM cw ⟨ym_blind hmv _, hrec, ym_pre hmv hG _⟩ rfl hn hsize hst (lv_room hW) hdg hf
theorem ym_rS (S : CallFix p m c cc nL s args Ts own) (hM : Met l y ws rm (va_Pc As (ym_G G)) Qc mc ms free) (cw : CallB R s args own index y bytes maxL ret ws rm mc ms n ∧ (Cond.static y).before args s = true) (hmv : ym_mv G) (hG : G s H)
    (hn : As.length = n) (hsize : ls.size = nL) (hst : st0 = As.reverse ++ rest) (hW : (rest.map fun v => v.category).sum ≤ 8) (hdg : decode cc pc = .ok (.invokestatic index, 3)) (hf : cells + mc ≤ R.cells ∧ slots + ms ≤ R.slots) :
    CallRun p l e R s m args below meth c H locs cells slots mc ms (F0 m pc ls st0) rest (Qc As.toArray) free :=
  W.runS S hM cw ⟨ym_blind hmv _, ym_pre hmv hG _⟩ rfl hn hsize hst (lv_room hW) hdg hf
theorem ym_rI (S : CallFix p m c cc nL s args Ts own) (hM : Met l y ws rm (va_Pc (.ref b :: As) (ym_G G)) Qc mc ms free) (cw : CallB R s args own index y bytes maxL none ws rm mc ms n ∧ y.name = "<init>" ∧ (Cond.instanceMethod y).before args s = true) (hmv : ym_mv G) (hG : G s H)
    (hn : As.length = n) (hsize : ls.size = nL) (hst : st0 = As.reverse ++ .ref b :: rest) (hW : (rest.map fun v => v.category).sum ≤ 8) (hdg : decode cc pc = .ok (.invokespecial index, 3)) (hf : cells + mc ≤ R.cells ∧ slots + ms ≤ R.slots) :
    CallRun p l e R s m args below meth c H locs cells slots mc ms (F0 m pc ls st0) rest (Qc (Value.ref b :: As).toArray) free :=
  W.runI S hM cw ⟨ym_blind hmv _, ym_pre hmv hG _⟩ rfl hn hsize hst (lv_room hW) hdg hf
theorem ym_rU {owner : String} {x : MethodName} (S : CallFix p m c cc nL s args Ts own) (hM : Met l y ws rm (va_Pc (.ref b :: As) (ym_G G)) Qc mc ms free) (cw : va_CU R s args own C owner index x y bytes maxL ret ws rm mc ms n) (hmv : ym_mv G) (hG : G s H) (hrec : ∃ cellB : Cell, H[b]? = some cellB ∧ cellB.vm.isStatics = false ∧ s.vm.findClass C = some cellB.cls)
    (hn : As.length = n) (hsize : ls.size = nL) (hst : st0 = As.reverse ++ .ref b :: rest) (hW : (rest.map fun v => v.category).sum ≤ 8) (hdg : decode cc pc = .ok (.invokevirtual index, 3)) (hf : cells + mc ≤ R.cells ∧ slots + ms ≤ R.slots) :
    CallRun p l e R s m args below meth c H locs cells slots mc ms (F0 m pc ls st0) rest (Qc (Value.ref b :: As).toArray) free :=
  (va_runU S hM cw ⟨ym_blind hmv _, hrec, ym_pre hmv hG _⟩ rfl hn hsize hst (lv_room hW) hdg hf).run
/-- a static read; a field of a constant; a place of the months' table -/
theorem ym_gets (hx : p.tables.exec = Jvm.exec) (hb : c.code = cc) {n d ref : String} {v : Value} {A : Nat → Prop} (hown : s.vm.findClass own = some m.cls) (hZ : va_Z C n d v A s H) (hlink : (Cond.fieldLink own index ref n d).before args s = true) (hsame : ∀ x, s.fieldFound? C n d = some x → s.fieldFound? ref n d = some x) (hdg : decode cc pc = .ok (.getstatic index, 3))
    (kk : W p l e R s m args below meth c H locs cells slots Q (F0 m (pc + 3) ls (v :: rest))) : W p l e R s m args below meth c H locs cells slots Q (F0 m pc ls rest) := by
  obtain ⟨cf, kf, fi, f, a, cell, h1, h2, h3, h4, h5, h6, h7, h8⟩ := hZ
  exact W.gets hx hb hown hlink (hsame _ h1) h2 h3 h4 h5 (fun e => by rw [e] at h6; cases h6) h7 rfl hdg kk
theorem ym_getO (hx : p.tables.exec = Jvm.exec) (hb : c.code = cc) {o n d ref : String} {v : Value} {t : Nat} {A : Nat → Prop} (hown : s.vm.findClass own = some m.cls) (hO : va_OF o n d v t A s H) (hlink : (Cond.fieldLink own index ref n d).before args s = true) (hsame : ∀ x, s.fieldFound? o n d = some x → s.fieldFound? ref n d = some x) (hdg : decode cc pc = .ok (.getfield index, 3))
    (kk : W p l e R s m args below meth c H locs cells slots Q (F0 m (pc + 3) ls (v :: rest))) : W p l e R s m args below meth c H locs cells slots Q (F0 m pc ls (.ref t :: rest)) := by
  obtain ⟨cf, k, fi, f, cell, h1, h2, h3, h4, h5, h6⟩ := hO
  exact W.getf hx hb hown hlink (hsame _ h1) h2 h3 h4 h5 rfl rfl hdg kk
theorem ym_aald (hx : p.tables.exec = Jvm.exec) (hb : c.code = cc) {E : String} {t N : Nat} {f : Nat → Value} {A : Nat → Prop} (hT : va_T (.object E) t N f A s H) {i : Int32} (hin : vp_in i N) {v : Value} (hv : f i.toNatClampNeg = v) (hdg : decode cc pc = .ok (.aaload, 1))
    (kk : W p l e R s m args below meth c H locs cells slots Q (F0 m (pc + 1) ls (v :: rest))) : W p l e R s m args below meth c H locs cells slots Q (F0 m pc ls (.int i :: .ref t :: rest)) := by
  obtain ⟨cell, h1, h2, h3, h4, h5, h6, h7⟩ := hT
  have hlt : i.toNatClampNeg < N := Nat.not_le.mp fun q => hin (Or.inr q)
  have hin' : ¬ (i < 0 ∨ cell.slots.size ≤ i.toNatClampNeg) := by
    intro q
    rcases q with q | q
    · exact hin (Or.inl q)
    · omega
  exact W.aald (v := v) (ty := .object E) hx hb h1 h2 rfl h3 hin' (by rw [h6 _ hlt, hv]) rfl rfl hdg kk
end YC
theorem ym_recO {E : String} {t : Nat} {A : Nat → Prop} {s : State} {H : Heap} (h : va_O E t A s H) : ∃ cell : Cell, H[t]? = some cell ∧ cell.vm.isStatics = false ∧ s.vm.findClass E = some cell.cls := by
  obtain ⟨cell, h1, h2, h3, -⟩ := h
  exact ⟨cell, h1, h2, h3⟩
theorem ym_w_of {n0 : Nat} {ad : Nat → Nat} {D : va_G} {tys : List (ClassId × FieldType)} {wd : va_W} {U : State} {H : Heap} (h1 : ym_kw n0 ad U H) (h2 : va_K D vwCl tys U) (h3 : va_P D vwCl wd H) : ym_w n0 ad D tys wd U H := ⟨h1, h2, h3⟩
theorem ym_P0 {D : va_G} {H : Heap} : va_P D vwCl [] H := fun k q h => by simp at h
theorem ym_fs1 : ∀ j, j < 1 → defaultValue (tyX1 j) = vp_V [.null] j := fun j hj => by
  match j, hj with
  | 0, _ => rfl
theorem ym_fs2 : ∀ j, j < 2 → defaultValue (tyX3 j) = vp_V [.int 0, .int 0] j := fun j hj => by
  match j, hj with
  | 0, _ => rfl
  | 1, _ => rfl
theorem ym_fs3 : ∀ j, j < 3 → defaultValue (tyX10 j) = vp_V [.int 0, .int 0, .int 0] j := fun j hj => by
  match j, hj with
  | 0, _ => rfl
  | 1, _ => rfl
  | 2, _ => rfl
theorem ym_init_ext {H H1 H2 : Heap} {q : Nat} (hq : q = H.size) (hE : ym_ext H H1) (hz : H2.size = H1.size) (hk : ∀ x : Nat, x < H1.size → x ≠ q → H2[x]? = H1[x]?) : ym_ext H H2 :=
  ⟨by rw [hz]; exact hE.1, fun x hx => (hk x (Nat.lt_of_lt_of_le hx hE.1) (by omega)).trans (hE.2 x hx)⟩
section YD
variable {p : Program} {l : Launch} {e : Env} {R : Room} {s : State} {m : MethodId} {args : Array Value} {below : List Frame} {meth : Method} {c : Code} {H : Heap} {locs : List Loc} {cells slots : Nat} {Q : State → Prop} {cc : ByteArray} {pc : Nat} {ls : Array Slot} {rest : List Value} {D : va_G} {tys : List (ClassId × FieldType)}
theorem ym_new (hx : p.tables.exec = Jvm.exec) (hb : c.code = cc) {own C : String} {T : u_T} {N ci index : Nat} {Ts : List Cond} (hts : ∀ w ∈ Ts, w.before args s = true) (hin : ∀ w ∈ u_ws C T N, w ∈ Ts) (ty : Nat → FieldType) (hty : ∀ k, k < N → parseFieldDescriptor (T k).2.2.1 = some (ty k)) (hown : s.vm.findClass own = some m.cls) (hcl : (Cond.classLink own index C).before args s = true) (hinst : (Cond.instantiable C N).before args s = true) (hini : (Cond.initialized C).before args s = true)
    (hK : va_K D vwCl tys s) (hc : vwCl[ci]? = some (C, T, N)) {fs : List Value} (hfs : ∀ j, j < N → defaultValue (ty j) = vp_V fs j) (hcells : cells + 1 ≤ R.cells) (hslots : slots + N ≤ R.slots) (hdg : decode cc pc = .ok (.new index, 3))
    (kk : ∀ (q : Nat) (H1 : Heap), q = H.size → ym_ext H H1 → va_P D vwCl [(q, .inr (ci, fs))] H1 → W p l e R s m args below meth c H1 locs (cells + 1) (slots + N) Q (F0 m (pc + 3) ls (.ref q :: rest))) : W p l e R s m args below meth c H locs cells slots Q (F0 m pc ls rest) := by
  have hKn := hK.1 ci _ hc
  refine W.newcK hx hb hown hcl hinst hini rfl hdg hcells hslots hKn.2.1 rfl fun H1 kC hkC e1 z1 o1 => ?_
  refine kk H.size H1 rfl ⟨by omega, o1⟩ (fun k x hx2 => ?_)
  have hz : k < 1 := (List.getElem?_eq_some_iff.mp hx2).1
  rw [show k = 0 by omega] at hx2
  cases hx2
  exact ⟨_, hc, (u_born ty hts hin hKn hkC e1 hty).to hfs⟩
/-- a constructor writes a final field of its own object -/
theorem ym_putF (hx : p.tables.exec = Jvm.exec) (hb : c.code = cc) {own ref C : String} {T : u_T} {N ci index : Nat} {Ts : List Cond} (hts : ∀ w ∈ Ts, w.before args s = true) (hin : ∀ w ∈ u_ws C T N, w ∈ Ts) (ty0 : Nat → FieldType) (hty : ∀ k, k < N → parseFieldDescriptor (T k).2.2.1 = some (ty0 k)) (hnm : ∀ a, a < N → ∀ b, b < N → a ≠ b → (T a).2.1 ≠ (T b).2.1) (hown : s.vm.findClass own = some m.cls) (hK : va_K D vwCl tys s) {a : Nat} {fs : List Value} (hP : va_P D vwCl [(a, .inr (ci, fs))] H) (hc : vwCl[ci]? = some (C, T, N)) (k : Nat) (hk : k < N) (hlink : (Cond.fieldLink own index ref (T k).2.1 (T k).2.2.1).before args s = true) (hsame : ∀ x, s.fieldFound? (T k).1 (T k).2.1 (T k).2.2.1 = some x → s.fieldFound? ref (T k).2.1 (T k).2.2.1 = some x) (hfin : (T k).2.2.2 = true) (hin2 : meth.name = "<init>") (hdecl : (T k).1 = own) {ty : FieldType} {v : Value} (hd : parseFieldDescriptor (T k).2.2.1 = some ty) (hn : narrow ty v = v) (hfit : fits ty v = true) (hl : k < fs.length)
    (hdg : decode cc pc = .ok (.putfield index, 3)) (kk : ∀ (H1 : Heap) (x : Nat), va_P D vwCl [(a, .inr (ci, fs.set k v))] H1 → H1.size = H.size → (∀ q : Nat, q ≠ a → H1[q]? = H[q]?) → W p l e R s m args below meth c H1 (locs ++ [⟨a, x⟩]) cells slots Q (F0 m (pc + 3) ls rest)) : W p l e R s m args below meth c H locs cells slots Q (F0 m pc ls (v :: .ref a :: rest)) := by
  have hap := va_apart (own := own) hts hin ty0 hty hnm hK hc
  obtain ⟨r, h1, cell, q1, q2, q3, q4⟩ := hP 0 _ rfl
  have hr : r = (C, T, N) := Option.some.inj (h1.symm.trans hc)
  subst hr
  obtain ⟨hS, hfc, kC, hkC, hkind⟩ := hK.1 ci _ hc
  obtain ⟨cf, kf, fi, f, hi, hsl⟩ := hS k hk
  have hlay := hts _ (hin _ (u_in_lay hk))
  unfold u_lay at hlay
  rw [if_pos hfin] at hlay
  have hst := (u_facts hfc hkC (u_lays hts hin hk) hi).1
  have hcf : m.cls = cf := by
    obtain ⟨_, _, c', _, _, _, -, -, hf', -, -, -, hown2, -⟩ := Cond.laysFinal_spec hlay
    have e1 : c' = cf := by have := hi.symm.trans hf'; simp at this; exact this.1.symm
    rw [hdecl] at hown2
    rw [← e1]; exact Option.some.inj (hown.symm.trans hown2)
  have h6 := u_fits hfc hkC hkind (Or.inr hlay) hi hd hn hfit
  refine W.putFinK hx hb hown hlink (hsame _ hi) hst hcf hin2 (by rw [q2]; exact h6) q1 q3 (by rw [hsl]; exact k2_hasslot (q4 k hk)) rfl rfl hdg fun H' e1 e2 e3 => ?_
  rw [hsl] at e1 ⊢
  refine kk H' _ (fun j x hj => ?_) e2 e3
  have hz : j < 1 := (List.getElem?_eq_some_iff.mp hj).1
  rw [show j = 0 by omega] at hj
  cases hj
  exact ⟨_, hc, t_OB.to (V := updV (vp_V fs) k v) ⟨_, e1, q2, q3, t_set q4 hap hk v⟩ (fun j _ => vp_updV_set hl v j)⟩
end YD
/-! COLD CONTRACTS: of a method of a class of which the tables don't say that it is initialised (ValueRange). The machine's own law of calls asks nothing of the kind; the kit's 'Met' does, so these are walked under a word of their own. They only read. -/
def ym_Cold (l : Launch) (y : MethodName) (cc : ByteArray) (maxL : Nat) (ret : Option FieldType) (rm : Room) (Pc : Array Value → State → Prop) (Qc : Array Value → State → Outcome → State → Prop) : Prop :=
  ∀ (p : Program) (e : Env) (s : State) (m : MethodId) (args : Array Value) (below : List Frame) (meth : Method) (c : Code), p.tables.exec = Jvm.exec → c.code = cc → c.maxLocals = maxL → meth.sig.returnType = ret → meth.locks = false → (∀ w ∈ lw_all, w.before args s = true) → s.vm.findClass y.cls = some m.cls → Pc args s →
    W p l e rm s m args below meth c s.heap [] 0 0 (MQ below Qc args s 0 0 (fun _ => False)) (entryFrame m args maxL)
section YE
variable {p : Program} {l : Launch} {e : Env} {R : Room} {s : State} {m : MethodId} {args : Array Value} {below : List Frame} {meth : Method} {c : Code} {H : Heap} {locs : List Loc} {cells slots : Nat} {Q : State → Prop}
variable {y : MethodName} {bytes cc : ByteArray} {maxL nL n index pc : Nat} {ret : Option FieldType} {rm : Room} {Pc : Array Value → State → Prop} {Qc : Array Value → State → Outcome → State → Prop} {own C : String} {b : Addr} {As rest st0 : List Value} {ls : Array Slot} {G : State → Heap → Prop}
theorem ym_coldBack (hM : ym_Cold l y bytes maxL ret rm Pc Qc) (hy : plainName y.cls = true) (hbl : FrameBlind Pc) (hrc : rm.cells = 0) (hrs : rm.slots = 0) (hfr : rm.frames + 1 ≤ R.frames) (hlo : 8 + (maxL + 11) + rm.locals ≤ R.locals)
    (hws : ∀ w ∈ lw_all, ∀ (a' : Array Value) (U : State), s.WarmedH U.vm → w.before a' U = true) (hcode : Cond.code y bytes maxL ret ∈ lw_all) : Back l R p e below s args y 3 8 (PreOf R 0 0 Pc) (PostOf Qc 0 0 (fun _ => False)) := by
  intro m meth c A g ig mk a X hg hsize hdg hW hn hp
  obtain ⟨U, Ls, c0, s0⟩ := A
  obtain ⟨hpc, hps, hpP⟩ := hp
  dsimp only [Pt.U, Pt.locs, Pt.cells, Pt.slots] at hpc hps hpP X hn ⊢
  obtain ⟨methY, cY, hmY, hcY, hbY, hlY, hrY, hkY, -, -⟩ := Cond.code_spec hn (hws _ hcode a U X.warmed)
  have h : At U g.method c below := by rw [hg]; exact X.here
  have htl : U.frames.tail = below := X.tail
  have hpl : U.plainMethod mk := State.plainMethod.of_named (plainFor_of_name hy) hn hmY
  have hroom : (U.calling g mk a).hasRoom e.platform rm = true := X.room_calling (g := g) (R' := rm) hsize hmY hcY hfr (by rw [hlY]; omega) (by rw [hrc]; exact hpc) (by rw [hrs]; exact hps)
  have hfC : (U.calling g mk a).frames = .invoking mk a :: .java g :: below := by rw [State.frames_calling h.top, htl]
  have hcur : (U.calling g mk a).cur < (U.calling g mk a).threads.size := State.cur_lt_of_frames hfC
  have hgc : (U.calling g mk a).code? g.method = some c := by
    have := h.code
    rw [State.code?_eq] at this ⊢
    simpa [State.calling, State.pushFrame, State.setFrames] using this
  have hent := At.enter h a hmY hcY hpl
  have hfE : ((U.setTop g).pushFrame (.java (entryFrame mk a cY.maxLocals))).frames = .java (entryFrame mk a cY.maxLocals) :: .java g :: below := by rw [frames_entered h.top, htl]
  have hT0 : (U.setTop g).pushFrame (.java (entryFrame mk a cY.maxLocals)) = (U.calling g mk a).setFrames (.java (entryFrame mk a cY.maxLocals) :: .java g :: below) := by
    have e1 : (U.setTop g).frames = .java g :: below := by rw [State.frames_setTop' g h.top, htl]
    show (U.setTop g).setFrames (.java (entryFrame mk a cY.maxLocals) :: (U.setTop g).frames) = ((U.setTop g).setFrames _).setFrames _
    rw [State.setFrames_setFrames, e1]
  have XC : Stand p l e rm (U.calling g mk a) mk a (.java g :: below) methY cY ((U.setTop g).pushFrame (.java (entryFrame mk a cY.maxLocals))) [] 0 0 := by
    obtain ⟨t, ht, -⟩ := State.frames_cons hfC
    refine ⟨X.admits, X.cas, X.clock, hfC, hroom, ?_, hmY, hcY, ⟨hent.top, ⟨[], by rw [hfE]; rfl⟩, hent.running, hent.runnable, hent.alone, hent.code, hent.plain⟩, by rw [hfE]; rfl, State.WarmedH.refl (U.calling g mk a), ?_, ?_, ?_⟩
    · simp [State.hears, hgc, hdg, Except.toOption]
    · rw [hT0, State.stackLimits_setFrames]
    · rw [hT0, State.stackBytes_setFrames]
    · rw [hT0]
      exact (State.sameButNew.refl (U.calling g mk a) ht).setFrames _ hcur
  have hpC : Pc a (U.calling g mk a) := hbl a U g mk hpP
  obtain ⟨s₂, hsteps, o, -, hend, hq, L, hfe, hL⟩ := hM p e (U.calling g mk a) mk a (.java g :: below) methY cY (by cases p <;> rfl) hbY hlY hrY hkY (fun w hw => hws w hw a (U.calling g mk a) X.warmed) (findClass_of_methodNamed hn) hpC ((U.setTop g).pushFrame (.java (entryFrame mk a cY.maxLocals))) rfl XC
  have hL0 : L = [] := by
    cases L with
    | nil => rfl
    | cons q L' => exact (hL q List.mem_cons_self).elim
  subst hL0
  have hgo : Steps p.tables e below (doInvoke e (U.setTop g) [] mk a).1 s₂ := by
    rw [doInvoke_enter h.top [] hmY hcY hkY (X.notFull hsize (Nat.le_trans (Nat.le_add_left 1 _) hfr) (by rw [hlY]; omega)), hlY]
    rw [hlY] at hsteps
    obtain ⟨n, hn1, w⟩ := hsteps
    exact ⟨n, hn1, fun k hk => Within.weaken (mid := [.java g]) (w k hk)⟩
  obtain ⟨⟨v, rfl⟩, hW₂, e2, q2, q3, q4, q5, q6⟩ := id hfe
  have e3 : s₂ = ({ (U.calling g mk a).setFrames s₂.frames with heap := s₂.heap, slotsUsed := s₂.slotsUsed } : State).setVm s₂.vm := by
    have q : s₂ = ({ s₂ with vm := (U.calling g mk a).vm } : State).setVm s₂.vm := rfl
    rw [e2] at q
    exact q
  obtain ⟨c₂, i₂, len₂, hc₂, hd₂, hf₂⟩ := hend
  have hW' : U.WarmedH s₂.vm := hW₂
  have hcc : c₂ = c := by
    have h1 : s₂.code? g.method = U.code? g.method := by rw [State.code?_eq, State.code?_eq, hW'.alike.method?]
    exact Option.some.inj (hc₂.symm.trans (h1.trans h.code))
  subst hcc
  have hlen : len₂ = 3 := by rw [hdg] at hd₂; cases hd₂; rfl
  subst hlen
  obtain ⟨g₀, hg0⟩ := Option.isSome_iff_exists.mp h.top
  obtain ⟨r, hr⟩ := State.topJava?_eq_some.mp hg0
  have hs₂ : s₂ = (({ U with heap := s₂.heap, slotsUsed := s₂.slotsUsed } : State).setVm s₂.vm).setTop { g with pc := g.pc + 3, stack := v.toList ++ g.stack } := by
    have hr' : (({ U with heap := s₂.heap, slotsUsed := s₂.slotsUsed } : State).setVm s₂.vm).frames = .java g₀ :: r := hr
    have hb : below = r := by rw [← htl, hr]; rfl
    refine e3.trans ?_
    rw [hf₂, State.calling_eq h.top, State.setFrames_setFrames, State.setTop_of_frames _ hr', hb]
    rfl
  have hsame : U.sameButNew ({ U with heap := s₂.heap, slotsUsed := s₂.slotsUsed } : State) [] 0 0 := by
    refine ⟨?_, q2, q3, q4, q5, q6⟩
    obtain ⟨t, ht, -⟩ := State.frames_cons hr
    show ({ U with heap := s₂.heap, slotsUsed := s₂.slotsUsed } : State) = { U.setFrames U.frames with heap := s₂.heap, slotsUsed := s₂.slotsUsed }
    rw [State.setFrames_self ht]
  subst hg
  refine ⟨v, ⟨(({ U with heap := s₂.heap, slotsUsed := s₂.slotsUsed } : State).setVm s₂.vm), Ls ++ [], c0 + 0, s0 + 0⟩,
    ⟨X.admits, X.cas, X.clock, X.frames, X.room, X.hears, X.method, X.code, (X.here.setHeapUsed s₂.heap s₂.slotsUsed).setVm hW'.alike, X.tail, State.WarmedH.trans X.warmed hW', X.limits, X.bytes, X.same.trans (hsame.setVm s.vm)⟩,
    ⟨g, mk, s₂, [], rfl, rfl, hq, rfl, fun _ h9 => absurd h9 List.not_mem_nil, rfl, rfl⟩, ?_⟩
  show Steps p.tables e below _ ((({ U with heap := s₂.heap, slotsUsed := s₂.slotsUsed } : State).setVm s₂.vm).setTop { g with pc := g.pc + 3, stack := v.toList ++ g.stack })
  rw [← hs₂]
  exact hgo
/-- a call of a cold method, on an object of its class -/
theorem ym_rC (S : CallFix p m c cc nL s args lw_all own) (hM : ym_Cold l y bytes maxL ret rm (va_Pc (.ref b :: As) (ym_G G)) Qc) (hy : plainName y.cls = true) (hl : Cond.methodLink own index y ∈ lw_all) (hin : Cond.instanceMethod y ∈ lw_all) (hse : Cond.selects C y y ∈ lw_all) (hcode : Cond.code y bytes maxL ret ∈ lw_all) (hd : y.cls ≠ "java/lang/invoke/MethodHandle" ∧ y.cls ≠ "java/lang/invoke/VarHandle" ∧ (parseMethodDescriptor y.desc).map (fun d => d.parameters.length) = some n)
    (hrc : rm.cells = 0) (hrs : rm.slots = 0) (hR : rm.frames + 1 ≤ R.frames ∧ 8 + (maxL + 11) + rm.locals ≤ R.locals) (hmv : ym_mv G) (hG : G s H) (hrec : ∃ cellB : Cell, H[b]? = some cellB ∧ cellB.vm.isStatics = false ∧ s.vm.findClass C = some cellB.cls)
    (hn : As.length = n) (hsize : ls.size = nL) (hst : st0 = As.reverse ++ .ref b :: rest) (hW : (rest.map fun v => v.category).sum ≤ 8) (hdg : decode cc pc = .ok (.invokevirtual index, 3)) (hf : cells + 0 ≤ R.cells ∧ slots + 0 ≤ R.slots) :
    CallRun p l e R s m args below meth c H locs cells slots 0 0 (F0 m pc ls st0) rest (Qc (Value.ref b :: As).toArray) (fun _ => False) := by
  obtain ⟨hx, hb, hml, ho, hts⟩ := S
  have hK : Back l R p e below s args y 3 8 (PreOf R 0 0 (va_Pc (.ref b :: As) (ym_G G))) (PostOf Qc 0 0 (fun _ => False)) := ym_coldBack hM hy (ym_blind hmv _) hrc hrs hR.1 hR.2 (pay_in hts lw_self) hcode
  obtain ⟨cellB, hcB, hoB, hclB⟩ := hrec
  intro T hT X
  have hlen : ∀ sig, parseMethodDescriptor y.desc = some sig → As.length = sig.parameters.length := fun sig h => by
    have h2 := hd.2.2
    rw [h] at h2
    exact hn.trans (Option.some.inj h2).symm
  obtain ⟨v, vm₁, ⟨U', l2, c2, s2⟩, hW₁, X', ⟨g', mk, t, L, e1, e2, hq, h1, hL, h2, h3⟩, st⟩ := callV X hx (C := C) (bytes := bytes) (maxL := maxL) (ret := ret) ho (hts _ hl) (hts _ hin) (hts _ hse) (hts _ hcode) ⟨hd.1, hd.2.1⟩ hK (by rw [hT]; exact hcB) hoB hclB (g := F0 m pc ls st0) rfl (hsize.trans hml.symm) (argsL := As) (rest := rest) hlen hst (lv_room hW) (by rw [hb]; exact hdg)
    (fun vm₁ hW₁ => ⟨hf.1, hf.2, ym_pre hmv hG _ (T.setVm vm₁) hT hW₁⟩)
  dsimp only [Pt.U, Pt.locs, Pt.cells, Pt.slots] at X' e1 e2 h1 h2 h3 st
  subst h1; subst h2; subst h3
  exact ⟨v, (T.setVm vm₁).calling g' mk (Value.ref b :: As).toArray, t, U', L, hT, X', hL, e1, hq, st⟩
end YE
end
section
/-! THE PLAIN LAW: the calendar over whole numbers, no program in sight -/
def ym_lp (y : Int) : Int := if y % 4 = 0 ∧ (y % 100 ≠ 0 ∨ y % 400 = 0) then 1 else 0
theorem ym_lp1 {y : Int} (h : y % 4 = 0 ∧ (y % 100 ≠ 0 ∨ y % 400 = 0)) : 1 = ym_lp y := (if_pos h).symm
theorem ym_lp0 {y : Int} (h : ¬ (y % 4 = 0 ∧ (y % 100 ≠ 0 ∨ y % 400 = 0))) : 0 = ym_lp y := (if_neg h).symm
theorem ym_lp_01 (y : Int) : ym_lp y = 0 ∨ ym_lp y = 1 := by
  unfold ym_lp
  split
  · exact Or.inr rfl
  · exact Or.inl rfl
/-- how many days a month has, b of them for a leap year -/
def ym_lb (m b : Int) : Int := if m = 2 then 28 + b else if m = 4 ∨ m = 6 ∨ m = 9 ∨ m = 11 then 30 else 31
def ym_ln (y m : Int) : Int := ym_lb m (ym_lp y)
theorem ym_lb_ran {m b : Int} (hb : b = 0 ∨ b = 1) : 28 ≤ ym_lb m b ∧ ym_lb m b ≤ 31 := by
  unfold ym_lb
  split
  · omega
  · split <;> omega
theorem ym_ln_ran (y m : Int) : 28 ≤ ym_ln y m ∧ ym_ln y m ≤ 31 := ym_lb_ran (ym_lp_01 y)
theorem ym_lb_2 {b : Int} : ym_lb 2 b = 28 + b := rfl
/-- the days from 1970 on of a year's first day; of the months ahead of a month -/
def ym_f1 (y : Int) : Int := 365 * (y - 1) + (y - 1) / 4 - (y - 1) / 100 + (y - 1) / 400 - 719162
def ym_sm (y : Int) : Nat → Int
  | 0 => 0
  | n + 1 => ym_sm y n + ym_ln y (n + 1)
def ym_fd (y m : Int) : Int := ym_f1 y + ym_sm y (m - 1).toNat
theorem ym_sm_ran (y : Int) : ∀ n : Nat, 0 ≤ ym_sm y n ∧ ym_sm y n ≤ 31 * n
  | 0 => ⟨Int.le_refl 0, Int.le_refl 0⟩
  | n + 1 => by
    have h := ym_sm_ran y n
    have h2 := ym_ln_ran y (n + 1)
    show 0 ≤ ym_sm y n + ym_ln y (n + 1) ∧ ym_sm y n + ym_ln y (n + 1) ≤ 31 * ((n + 1 : Nat) : Int)
    omega
theorem ym_tmz (a : Int) {d : Int} (hd : 0 < d) : -d < a.tmod d ∧ a.tmod d < d ∧ (a.tmod d = 0 ↔ a % d = 0) := by
  refine ⟨Int.lt_tmod_of_pos a hd, Int.tmod_lt_of_pos a hd, ?_⟩
  have h2 := Int.tmod_eq_emod (a := a) (b := d)
  have h3 := Int.emod_nonneg a (show d ≠ 0 by omega)
  have h4 := Int.emod_lt_of_pos a hd
  by_cases c : 0 ≤ a ∨ d ∣ a
  · rw [if_pos c] at h2
    omega
  · rw [if_neg c] at h2
    have h5 : ¬ a % d = 0 := fun q => c (Or.inr (Int.dvd_of_emod_eq_zero q))
    omega
theorem ym_fdiv12 {a : Int} : (0 ≤ a → Int.tdiv a 12 = a / 12) ∧ (a < 0 → Int.tdiv (a + 1) 12 - 1 = a / 12) := by
  constructor
  · intro h
    exact (ym_tdiv a (by decide)).1 h
  · intro h
    have := (ym_tdiv (a + 1) (d := 12) (by decide)).2 (by omega)
    omega
theorem ym_fmod12 (a : Int) : Int.tmod (Int.tmod a 12 + 12) 12 = a % 12 := by
  have h1 := ym_tmz a (d := 12) (by decide)
  have h2 := (ym_tmod (Int.tmod a 12 + 12) (d := 12) (by decide)).1 (by omega)
  rw [h2]
  have h3 := ym_tmod a (d := 12) (by decide)
  rcases Int.le_total 0 a with h | h
  · have := h3.1 h
    omega
  · have := h3.2 h
    omega
/-- the length of the months ahead, as LocalDate reckons it -/
theorem ym_sm_1 (y : Int) : ym_sm y 0 = 0 := rfl
theorem ym_ln_c (y : Int) : ym_ln y 1 = 31 ∧ ym_ln y 2 = 28 + ym_lp y ∧ ym_ln y 3 = 31 ∧ ym_ln y 4 = 30 ∧ ym_ln y 5 = 31 ∧ ym_ln y 6 = 30 ∧ ym_ln y 7 = 31 ∧ ym_ln y 8 = 31 ∧ ym_ln y 9 = 30 ∧ ym_ln y 10 = 31 ∧ ym_ln y 11 = 30 ∧ ym_ln y 12 = 31 := by
  refine ⟨?_, ?_, ?_, ?_, ?_, ?_, ?_, ?_, ?_, ?_, ?_, ?_⟩ <;> rfl
theorem ym_sm_c (y : Int) : ym_sm y 0 = 0 ∧ ym_sm y 1 = 31 ∧ ym_sm y 2 = 59 + ym_lp y ∧ ym_sm y 3 = 90 + ym_lp y ∧ ym_sm y 4 = 120 + ym_lp y ∧ ym_sm y 5 = 151 + ym_lp y ∧ ym_sm y 6 = 181 + ym_lp y ∧ ym_sm y 7 = 212 + ym_lp y ∧ ym_sm y 8 = 243 + ym_lp y ∧ ym_sm y 9 = 273 + ym_lp y ∧ ym_sm y 10 = 304 + ym_lp y ∧ ym_sm y 11 = 334 + ym_lp y := by
  obtain ⟨h1, h2, h3, h4, h5, h6, h7, h8, h9, h10, h11, h12⟩ := ym_ln_c y
  have e0 : ym_sm y 0 = 0 := rfl
  have e1 : ym_sm y 1 = ym_sm y 0 + ym_ln y 1 := rfl
  have e2 : ym_sm y 2 = ym_sm y 1 + ym_ln y 2 := rfl
  have e3 : ym_sm y 3 = ym_sm y 2 + ym_ln y 3 := rfl
  have e4 : ym_sm y 4 = ym_sm y 3 + ym_ln y 4 := rfl
  have e5 : ym_sm y 5 = ym_sm y 4 + ym_ln y 5 := rfl
  have e6 : ym_sm y 6 = ym_sm y 5 + ym_ln y 6 := rfl
  have e7 : ym_sm y 7 = ym_sm y 6 + ym_ln y 7 := rfl
  have e8 : ym_sm y 8 = ym_sm y 7 + ym_ln y 8 := rfl
  have e9 : ym_sm y 9 = ym_sm y 8 + ym_ln y 9 := rfl
  have e10 : ym_sm y 10 = ym_sm y 9 + ym_ln y 10 := rfl
  have e11 : ym_sm y 11 = ym_sm y 10 + ym_ln y 11 := rfl
  omega
/-- LocalDate's reckoning comes to the law's: t its sum of the years, x its share of the months -/
theorem ym_ep {y m d t : Int} (h1 : 1 ≤ m) (h2 : m ≤ 12) (ht : t = 365 * y + (y + 3) / 4 - (y + 99) / 100 + (y + 399) / 400) :
    t + (367 * m - 362) / 12 + (d - 1) - (if 2 < m then (if ym_lp y = 1 then 1 else 2) else 0) - 719528 = ym_fd y m + d - 1 := by
  have hs := ym_sm_c y
  have hl := ym_lp_01 y
  unfold ym_fd ym_f1
  have h12 : m = 1 ∨ m = 2 ∨ m = 3 ∨ m = 4 ∨ m = 5 ∨ m = 6 ∨ m = 7 ∨ m = 8 ∨ m = 9 ∨ m = 10 ∨ m = 11 ∨ m = 12 := by omega
  obtain ⟨s0, s1, s2, s3, s4, s5, s6, s7, s8, s9, s10, s11⟩ := hs
  have key : ∀ z : Int, ym_sm y (m - 1).toNat = (367 * m - 362) / 12 - z → z = (if 2 < m then (if ym_lp y = 1 then 1 else 2) else 0) → t + (367 * m - 362) / 12 + (d - 1) - (if 2 < m then (if ym_lp y = 1 then 1 else 2) else 0) - 719528 = 365 * (y - 1) + (y - 1) / 4 - (y - 1) / 100 + (y - 1) / 400 - 719162 + ym_sm y (m - 1).toNat + d - 1 := by
    intro z e1 e2
    rw [← e2, e1]
    omega
  rcases hl with hl | hl
  · have e3 : (if ym_lp y = 1 then (1 : Int) else 2) = 2 := by rw [hl]; rfl
    rw [e3] at key ⊢
    rcases h12 with rfl | rfl | rfl | rfl | rfl | rfl | rfl | rfl | rfl | rfl | rfl | rfl
    · exact key 0 (by show ym_sm y 0 = _; omega) rfl
    · exact key 0 (by show ym_sm y 1 = _; omega) rfl
    · exact key 2 (by show ym_sm y 2 = _; omega) rfl
    · exact key 2 (by show ym_sm y 3 = _; omega) rfl
    · exact key 2 (by show ym_sm y 4 = _; omega) rfl
    · exact key 2 (by show ym_sm y 5 = _; omega) rfl
    · exact key 2 (by show ym_sm y 6 = _; omega) rfl
    · exact key 2 (by show ym_sm y 7 = _; omega) rfl
    · exact key 2 (by show ym_sm y 8 = _; omega) rfl
    · exact key 2 (by show ym_sm y 9 = _; omega) rfl
    · exact key 2 (by show ym_sm y 10 = _; omega) rfl
    · exact key 2 (by show ym_sm y 11 = _; omega) rfl
  · have e3 : (if ym_lp y = 1 then (1 : Int) else 2) = 1 := by rw [hl]; rfl
    rw [e3] at key ⊢
    rcases h12 with rfl | rfl | rfl | rfl | rfl | rfl | rfl | rfl | rfl | rfl | rfl | rfl
    · exact key 0 (by show ym_sm y 0 = _; omega) rfl
    · exact key 0 (by show ym_sm y 1 = _; omega) rfl
    · exact key 1 (by show ym_sm y 2 = _; omega) rfl
    · exact key 1 (by show ym_sm y 3 = _; omega) rfl
    · exact key 1 (by show ym_sm y 4 = _; omega) rfl
    · exact key 1 (by show ym_sm y 5 = _; omega) rfl
    · exact key 1 (by show ym_sm y 6 = _; omega) rfl
    · exact key 1 (by show ym_sm y 7 = _; omega) rfl
    · exact key 1 (by show ym_sm y 8 = _; omega) rfl
    · exact key 1 (by show ym_sm y 9 = _; omega) rfl
    · exact key 1 (by show ym_sm y 10 = _; omega) rfl
    · exact key 1 (by show ym_sm y 11 = _; omega) rfl
/-- the years' sum of LocalDate where the year is negative -/
theorem ym_neg (y : Int) (h : y < 0) : Int.tdiv y (-4) - Int.tdiv y (-100) + Int.tdiv y (-400) = -((y + 3) / 4 - (y + 99) / 100 + (y + 399) / 400) := by
  rw [Int.tdiv_neg, Int.tdiv_neg, Int.tdiv_neg]
  have h1 := (ym_tdiv y (d := 4) (by decide)).2 (by omega)
  have h2 := (ym_tdiv y (d := 100) (by decide)).2 (by omega)
  have h3 := (ym_tdiv y (d := 400) (by decide)).2 (by omega)
  omega
/-- what compareTo answers -/
def ym_cm (y m y2 m2 : Int) : Int := if y - y2 = 0 then m - m2 else y - y2
theorem ym_epA {y m d t : Int} (h1 : 1 ≤ m) (h2 : m ≤ 2) (ht : t = 365 * y + (y + 3) / 4 - (y + 99) / 100 + (y + 399) / 400) : t + (367 * m - 362) / 12 + (d - 1) - 719528 = ym_fd y m + d - 1 := by
  have h := ym_ep (d := d) h1 (by omega) ht
  rw [if_neg (by omega)] at h
  omega
theorem ym_epB {y m d t : Int} (h1 : 2 < m) (h2 : m ≤ 12) (hl : ym_lp y = 1) (ht : t = 365 * y + (y + 3) / 4 - (y + 99) / 100 + (y + 399) / 400) : t + (367 * m - 362) / 12 + (d - 1) - 1 - 719528 = ym_fd y m + d - 1 := by
  have h := ym_ep (d := d) (by omega) h2 ht
  rw [if_pos h1, if_pos hl] at h
  omega
theorem ym_epC {y m d t : Int} (h1 : 2 < m) (h2 : m ≤ 12) (hl : ym_lp y = 0) (ht : t = 365 * y + (y + 3) / 4 - (y + 99) / 100 + (y + 399) / 400) : t + (367 * m - 362) / 12 + (d - 1) - 1 - 1 - 719528 = ym_fd y m + d - 1 := by
  have h := ym_ep (d := d) (by omega) h2 ht
  rw [if_pos h1, if_neg (by omega)] at h
  omega
theorem ym_lo_ran (k : Nat) : -999999999 ≤ ym_lo k ∧ ym_lo k ≤ 1 := by
  match k with
  | 0 => exact ⟨by decide, by decide⟩
  | _ + 1 => exact ⟨by show -999999999 ≤ (1 : Int); omega, by show (1 : Int) ≤ 1; omega⟩
theorem ym_hi_ran (k : Nat) : 12 ≤ ym_hi k ∧ ym_hi k ≤ 999999999 := by
  match k with
  | 0 => exact ⟨by decide, by decide⟩
  | 1 => exact ⟨by decide, by decide⟩
  | _ + 2 => exact ⟨by show (12 : Int) ≤ 31; omega, by show (31 : Int) ≤ 999999999; omega⟩
theorem ym_zPI {a b : Int} {H : Heap} (h : a = b) : ym_zP (.int (ym_I b)) (some (.int (ym_I a))) H H := ⟨by rw [h], rfl⟩
theorem ym_zPL {a b : Int} {H : Heap} (h : a = b) : ym_zP (.long (ym_L b)) (some (.long (ym_L a))) H H := ⟨by rw [h], rfl⟩
theorem ym_nar {a : Int} (h : a = 0 ∨ a = 1) : narrow .boolean (.int (ym_I a)) = .int (ym_I a) := by
  rcases h with h | h
  · rw [h]; rfl
  · rw [h]; rfl
theorem ym_km_c {n0 : Nat} {ad : Nat → Nat} {s : State} {H : Heap} {mo : Int} (hkw : ym_kw n0 ad s H) (h1 : 1 ≤ mo) (h2 : mo ≤ 12) : va_O "Month" (ad (mo - 1).toNat) (ym_A n0) s H := (hkw.2.1 (mo - 1).toNat (by omega)).1
theorem ym_km_o {n0 : Nat} {ad : Nat → Nat} {s : State} {H : Heap} {mo : Int} (hkw : ym_kw n0 ad s H) (h1 : 1 ≤ mo) (h2 : mo ≤ 12) : va_OF "java/lang/Enum" "ordinal" "I" (.int (ym_I (mo - 1))) (ad (mo - 1).toNat) (ym_A n0) s H := by
  have h := (hkw.2.1 (mo - 1).toNat (by omega)).2
  rw [Int.toNat_of_nonneg (by omega)] at h
  exact h
theorem ym_narS {a : Int} (h1 : -32768 ≤ a) (h2 : a ≤ 32767) : narrow .short (.int (ym_I a)) = .int (ym_I a) := by
  rw [narrow_short, ym_i2s h1 h2]
theorem ym_fitS {a : Int} (h1 : -32768 ≤ a) (h2 : a ≤ 32767) : fits .short (.int (ym_I a)) = true := by
  have h := pk_fs (ym_I a)
  rw [ym_i2s h1 h2] at h
  exact h
end
section
set_option maxHeartbeats 4000000 in
set_option maxRecDepth 100000 in
/-- floorDiv(a, 12) -/
theorem ym_floorDiv (l : Launch) (n0 : Nat) (ad : Nat → Nat) (D : va_G) (a : Int) (h1 : -1000000000000 ≤ a) (h2 : a ≤ 1000000000000) : Met l yX11_floorDiv (ws_ yX11_floorDiv cX11_floorDiv 4 (some .long)) ({ frames := 0, cells := 0, slots := 0, locals := 0 }) (va_Pc [.long (ym_L a), .long (ym_L 12)] (ym_G (ym_w n0 ad D [] []))) (ym_Q (ym_zP (.long (ym_L (a / 12))))) 0 0 (fun _ => False) := by
  refine Met.ofW (cc := cX11_floorDiv) (maxL := 4) (ret := (some .long)) (by decide) rfl ?_
  intro p e s m args below meth c s₁ B hml hv
  obtain ⟨rfl, hkw, hK, hP⟩ := hv
  have hx := B.exec
  have hb := B.bytes
  have hr := B.returns
  have hts := atoms_spec (ws := ws_ yX11_floorDiv cX11_floorDiv 4 (some .long)) B.pre
  have hts : ∀ w ∈ lw_all, w.before _ s = true := fun w h => hts w (List.mem_cons_of_mem _ h)
  have hown : s.vm.findClass RX11 = some m.cls := findClass_of_methodNamed B.named
  have hlocks := B.notSynchronized
  have hF : CallFix p m c cX11_floorDiv 4 s _ lw_all RX11 := ⟨hx, hb, hml, hown, hts⟩
  have hl := lv_entry ([.long (ym_L a), .long (ym_L 12)]) (n := 4) (Nat.le_of_ble_eq_true rfl)
  rw [lg_entry_eq]
  generalize (lg_sl ([.long (ym_L a), .long (ym_L 12)]) ++ List.replicate (4 - (lg_sl ([.long (ym_L a), .long (ym_L 12)])).length) Slot.unset).toArray = ls at hl ⊢
  have hl : lv_has ls 4 [(0, .long (ym_L a)), (2, .long (ym_L 12))] := hl
  have hE : ym_ext s.heap s.heap := ym_ext_rf
  refine lv_lload_n hx hb dX11_floorDiv_0 rfl (lv_at hl 0 rfl) ?_
  refine ym_lconst 0 hx hb dX11_floorDiv_1 (by decide) ?_
  refine ym_lcmp_lt (tgt := 12) hx hb ⟨by omega, by omega⟩ ⟨by omega, by omega⟩ dX11_floorDiv_2 dX11_floorDiv_3 (by decide) (fun c_1 => ?_) (fun c_1 => ?_)
  · refine lv_lload_n hx hb dX11_floorDiv_12 rfl (lv_at hl 0 rfl) ?_
    refine ym_lconst 1 hx hb dX11_floorDiv_13 (by decide) ?_
    refine ym_ladd hx hb dX11_floorDiv_14 ?_
    refine lv_lload_n hx hb dX11_floorDiv_15 rfl (lv_at hl 1 rfl) ?_
    refine ym_ldiv hx hb ⟨by omega, by omega⟩ ⟨by omega, by omega⟩ (by omega) dX11_floorDiv_16 ?_
    refine ym_lconst 1 hx hb dX11_floorDiv_17 (by decide) ?_
    refine ym_lsub hx hb dX11_floorDiv_18 ?_
    exact ym_retL hx hb hr hlocks (ym_zPL (ym_fdiv12.2 (by omega))) (fun _ h => absurd h List.not_mem_nil) dX11_floorDiv_19
  · refine lv_lload_n hx hb dX11_floorDiv_6 rfl (lv_at hl 0 rfl) ?_
    refine lv_lload_n hx hb dX11_floorDiv_7 rfl (lv_at hl 1 rfl) ?_
    refine ym_ldiv hx hb ⟨by omega, by omega⟩ ⟨by omega, by omega⟩ (by omega) dX11_floorDiv_8 ?_
    refine lv_goto (tgt := 19) hx hb dX11_floorDiv_9 (by decide) ?_
    exact ym_retL hx hb hr hlocks (ym_zPL (ym_fdiv12.1 (by omega))) (fun _ h => absurd h List.not_mem_nil) dX11_floorDiv_19
set_option maxHeartbeats 4000000 in
set_option maxRecDepth 100000 in
/-- floorMod(a, 12) -/
theorem ym_floorMod (l : Launch) (n0 : Nat) (ad : Nat → Nat) (D : va_G) (a : Int) (h1 : -1000000000000 ≤ a) (h2 : a ≤ 1000000000000) : Met l yX11_floorMod (ws_ yX11_floorMod cX11_floorMod 3 (some .int)) ({ frames := 0, cells := 0, slots := 0, locals := 0 }) (va_Pc [.long (ym_L a), .int (ym_I 12)] (ym_G (ym_w n0 ad D [] []))) (ym_Q (ym_zP (.int (ym_I (a % 12))))) 0 0 (fun _ => False) := by
  refine Met.ofW (cc := cX11_floorMod) (maxL := 3) (ret := (some .int)) (by decide) rfl ?_
  intro p e s m args below meth c s₁ B hml hv
  obtain ⟨rfl, hkw, hK, hP⟩ := hv
  have hx := B.exec
  have hb := B.bytes
  have hr := B.returns
  have hts := atoms_spec (ws := ws_ yX11_floorMod cX11_floorMod 3 (some .int)) B.pre
  have hts : ∀ w ∈ lw_all, w.before _ s = true := fun w h => hts w (List.mem_cons_of_mem _ h)
  have hown : s.vm.findClass RX11 = some m.cls := findClass_of_methodNamed B.named
  have hlocks := B.notSynchronized
  have hF : CallFix p m c cX11_floorMod 3 s _ lw_all RX11 := ⟨hx, hb, hml, hown, hts⟩
  have hl := lv_entry ([.long (ym_L a), .int (ym_I 12)]) (n := 3) (Nat.le_of_ble_eq_true rfl)
  rw [lg_entry_eq]
  generalize (lg_sl ([.long (ym_L a), .int (ym_I 12)]) ++ List.replicate (3 - (lg_sl ([.long (ym_L a), .int (ym_I 12)])).length) Slot.unset).toArray = ls at hl ⊢
  have hl : lv_has ls 3 [(0, .long (ym_L a)), (2, .int (ym_I 12))] := hl
  have hE : ym_ext s.heap s.heap := ym_ext_rf
  have t1 := ym_tmz a (d := 12) (by decide)
  refine lv_lload_n hx hb dX11_floorMod_0 rfl (lv_at hl 0 rfl) ?_
  refine lv_iload_n hx hb dX11_floorMod_1 rfl (lv_at hl 1 rfl) ?_
  refine ym_Wi2l hx hb ⟨by omega, by omega⟩ dX11_floorMod_2 ?_
  refine ym_lrem hx hb ⟨by omega, by omega⟩ ⟨by omega, by omega⟩ (by omega) dX11_floorMod_3 ?_
  refine lv_iload_n hx hb dX11_floorMod_4 rfl (lv_at hl 1 rfl) ?_
  refine ym_Wi2l hx hb ⟨by omega, by omega⟩ dX11_floorMod_5 ?_
  refine ym_ladd hx hb dX11_floorMod_6 ?_
  refine lv_iload_n hx hb dX11_floorMod_7 rfl (lv_at hl 1 rfl) ?_
  refine ym_Wi2l hx hb ⟨by omega, by omega⟩ dX11_floorMod_8 ?_
  refine ym_lrem hx hb ⟨by omega, by omega⟩ ⟨by omega, by omega⟩ (by omega) dX11_floorMod_9 ?_
  refine ym_Wl2i hx hb dX11_floorMod_10 ?_
  exact ym_retI hx hb hr hlocks (ym_zPI (ym_fmod12 a)) (fun _ h => absurd h List.not_mem_nil) dX11_floorMod_11
set_option maxHeartbeats 4000000 in
set_option maxRecDepth 100000 in
/-- isLeapYear(y) -/
theorem ym_isoLeap (l : Launch) (n0 : Nat) (ad : Nat → Nat) (D : va_G) (o : Nat) (y : Int) (h1 : -6000000 ≤ y) (h2 : y ≤ 6000000) : Met l yX7_isLeapYear (ws_ yX7_isLeapYear cX7_isLeapYear 3 (some .boolean)) ({ frames := 0, cells := 0, slots := 0, locals := 0 }) (va_Pc [.ref o, .long (ym_L y)] (ym_G (ym_w n0 ad D [] []))) (ym_Q (ym_zP (.int (ym_I (ym_lp y))))) 0 0 (fun _ => False) := by
  refine Met.ofW (cc := cX7_isLeapYear) (maxL := 3) (ret := (some .boolean)) (by decide) rfl ?_
  intro p e s m args below meth c s₁ B hml hv
  obtain ⟨rfl, hkw, hK, hP⟩ := hv
  have hx := B.exec
  have hb := B.bytes
  have hr := B.returns
  have hts := atoms_spec (ws := ws_ yX7_isLeapYear cX7_isLeapYear 3 (some .boolean)) B.pre
  have hts : ∀ w ∈ lw_all, w.before _ s = true := fun w h => hts w (List.mem_cons_of_mem _ h)
  have hown : s.vm.findClass RX7 = some m.cls := findClass_of_methodNamed B.named
  have hlocks := B.notSynchronized
  have hF : CallFix p m c cX7_isLeapYear 3 s _ lw_all RX7 := ⟨hx, hb, hml, hown, hts⟩
  have hl := lv_entry ([.ref o, .long (ym_L y)]) (n := 3) (Nat.le_of_ble_eq_true rfl)
  rw [lg_entry_eq]
  generalize (lg_sl ([.ref o, .long (ym_L y)]) ++ List.replicate (3 - (lg_sl ([.ref o, .long (ym_L y)])).length) Slot.unset).toArray = ls at hl ⊢
  have hl : lv_has ls 3 [(0, .ref o), (1, .long (ym_L y))] := hl
  have hE : ym_ext s.heap s.heap := ym_ext_rf
  have t1 := ym_tmz y (d := 100) (by decide)
  have t2 := ym_tmz y (d := 400) (by decide)
  refine lv_lload_n hx hb dX7_isLeapYear_0 rfl (lv_at hl 1 rfl) ?_
  refine ym_ldc2 3 hx hb hown (hts _ q298) (by decide) dX7_isLeapYear_1 ?_
  refine ym_land3 hx hb dX7_isLeapYear_4 ?_
  refine ym_lconst 0 hx hb dX7_isLeapYear_5 (by decide) ?_
  refine ym_lcmp_ne (tgt := 34) hx hb ⟨by omega, by omega⟩ ⟨by omega, by omega⟩ dX7_isLeapYear_6 dX7_isLeapYear_7 (by decide) (fun c_1 => ?_) (fun c_1 => ?_)
  · refine ym_iconst hx hb dX7_isLeapYear_34 ?_
    exact ym_retZ hx hb hr hlocks rfl (ym_zPI (ym_lp0 (by omega))) (fun _ h => absurd h List.not_mem_nil) dX7_isLeapYear_35
  · refine lv_lload_n hx hb dX7_isLeapYear_10 rfl (lv_at hl 1 rfl) ?_
    refine ym_ldc2 100 hx hb hown (hts _ q299) (by decide) dX7_isLeapYear_11 ?_
    refine ym_lrem hx hb ⟨by omega, by omega⟩ ⟨by omega, by omega⟩ (by omega) dX7_isLeapYear_14 ?_
    refine ym_lconst 0 hx hb dX7_isLeapYear_15 (by decide) ?_
    refine ym_lcmp_ne (tgt := 30) hx hb ⟨by omega, by omega⟩ ⟨by omega, by omega⟩ dX7_isLeapYear_16 dX7_isLeapYear_17 (by decide) (fun c_2 => ?_) (fun c_2 => ?_)
    · refine ym_iconst hx hb dX7_isLeapYear_30 ?_
      refine lv_goto (tgt := 35) hx hb dX7_isLeapYear_31 (by decide) ?_
      exact ym_retZ hx hb hr hlocks rfl (ym_zPI (ym_lp1 (by omega))) (fun _ h => absurd h List.not_mem_nil) dX7_isLeapYear_35
    · refine lv_lload_n hx hb dX7_isLeapYear_20 rfl (lv_at hl 1 rfl) ?_
      refine ym_ldc2 400 hx hb hown (hts _ q300) (by decide) dX7_isLeapYear_21 ?_
      refine ym_lrem hx hb ⟨by omega, by omega⟩ ⟨by omega, by omega⟩ (by omega) dX7_isLeapYear_24 ?_
      refine ym_lconst 0 hx hb dX7_isLeapYear_25 (by decide) ?_
      refine ym_lcmp_ne (tgt := 34) hx hb ⟨by omega, by omega⟩ ⟨by omega, by omega⟩ dX7_isLeapYear_26 dX7_isLeapYear_27 (by decide) (fun c_3 => ?_) (fun c_3 => ?_)
      · refine ym_iconst hx hb dX7_isLeapYear_34 ?_
        exact ym_retZ hx hb hr hlocks rfl (ym_zPI (ym_lp0 (by omega))) (fun _ h => absurd h List.not_mem_nil) dX7_isLeapYear_35
      · refine ym_iconst hx hb dX7_isLeapYear_30 ?_
        refine lv_goto (tgt := 35) hx hb dX7_isLeapYear_31 (by decide) ?_
        exact ym_retZ hx hb hr hlocks rfl (ym_zPI (ym_lp1 (by omega))) (fun _ h => absurd h List.not_mem_nil) dX7_isLeapYear_35
set_option maxHeartbeats 4000000 in
set_option maxRecDepth 100000 in
/-- the least value of field k -/
theorem ym_getMinimum (l : Launch) (n0 : Nat) (ad : Nat → Nat) (D : va_G) (k : Nat) (hk : k < 3) : ym_Cold l yX12_getMinimum cX12_getMinimum 1 (some .long) ({ frames := 0, cells := 0, slots := 0, locals := 0 }) (va_Pc [.ref (ad (15 + k))] (ym_G (ym_w n0 ad D [] []))) (ym_Q (ym_zP (.long (ym_L (ym_lo k))))) := by
  intro p e s m args below meth c hx hb hml hr hlocks hts hown0 hv
  obtain ⟨rfl, hkw, hK, hP⟩ := hv
  have hown : s.vm.findClass RX12 = some m.cls := hown0
  have hF : CallFix p m c cX12_getMinimum 1 s _ lw_all RX12 := ⟨hx, hb, hml, hown, hts⟩
  have hl := lv_entry ([.ref (ad (15 + k))]) (n := 1) (Nat.le_of_ble_eq_true rfl)
  rw [lg_entry_eq]
  generalize (lg_sl ([.ref (ad (15 + k))]) ++ List.replicate (1 - (lg_sl ([.ref (ad (15 + k))])).length) Slot.unset).toArray = ls at hl ⊢
  have hl : lv_has ls 1 [(0, .ref (ad (15 + k)))] := hl
  have hE : ym_ext s.heap s.heap := ym_ext_rf
  refine lv_aload_n hx hb dX12_getMinimum_0 rfl (lv_at hl 0 rfl) ?_
  refine ym_getO hx hb hown (hkw.1 k hk).2.2.2.2.1 (hts _ q425) (fun _ h9 => h9) dX12_getMinimum_1 ?_
  exact ym_retL hx hb hr hlocks ⟨rfl, rfl⟩ (fun _ h => absurd h List.not_mem_nil) dX12_getMinimum_4
set_option maxHeartbeats 4000000 in
set_option maxRecDepth 100000 in
/-- the greatest value of field k -/
theorem ym_getMaximum (l : Launch) (n0 : Nat) (ad : Nat → Nat) (D : va_G) (k : Nat) (hk : k < 3) : ym_Cold l yX12_getMaximum cX12_getMaximum 1 (some .long) ({ frames := 0, cells := 0, slots := 0, locals := 0 }) (va_Pc [.ref (ad (15 + k))] (ym_G (ym_w n0 ad D [] []))) (ym_Q (ym_zP (.long (ym_L (ym_hi k))))) := by
  intro p e s m args below meth c hx hb hml hr hlocks hts hown0 hv
  obtain ⟨rfl, hkw, hK, hP⟩ := hv
  have hown : s.vm.findClass RX12 = some m.cls := hown0
  have hF : CallFix p m c cX12_getMaximum 1 s _ lw_all RX12 := ⟨hx, hb, hml, hown, hts⟩
  have hl := lv_entry ([.ref (ad (15 + k))]) (n := 1) (Nat.le_of_ble_eq_true rfl)
  rw [lg_entry_eq]
  generalize (lg_sl ([.ref (ad (15 + k))]) ++ List.replicate (1 - (lg_sl ([.ref (ad (15 + k))])).length) Slot.unset).toArray = ls at hl ⊢
  have hl : lv_has ls 1 [(0, .ref (ad (15 + k)))] := hl
  have hE : ym_ext s.heap s.heap := ym_ext_rf
  refine lv_aload_n hx hb dX12_getMaximum_0 rfl (lv_at hl 0 rfl) ?_
  refine ym_getO hx hb hown (hkw.1 k hk).2.2.2.2.2 (hts _ q426) (fun _ h9 => h9) dX12_getMaximum_1 ?_
  exact ym_retL hx hb hr hlocks ⟨rfl, rfl⟩ (fun _ h => absurd h List.not_mem_nil) dX12_getMaximum_4
set_option maxHeartbeats 4000000 in
set_option maxRecDepth 100000 in
/-- field k has ints -/
theorem ym_isIntValue (l : Launch) (n0 : Nat) (ad : Nat → Nat) (D : va_G) (k : Nat) (hk : k < 3) : ym_Cold l yX12_isIntValue cX12_isIntValue 1 (some .boolean) ({ frames := 1, cells := 0, slots := 0, locals := 20 }) (va_Pc [.ref (ad (15 + k))] (ym_G (ym_w n0 ad D [] []))) (ym_Q (ym_zP (.int (ym_I 1)))) := by
  intro p e s m args below meth c hx hb hml hr hlocks hts hown0 hv
  obtain ⟨rfl, hkw, hK, hP⟩ := hv
  have hown : s.vm.findClass RX12 = some m.cls := hown0
  have hF : CallFix p m c cX12_isIntValue 1 s _ lw_all RX12 := ⟨hx, hb, hml, hown, hts⟩
  have hl := lv_entry ([.ref (ad (15 + k))]) (n := 1) (Nat.le_of_ble_eq_true rfl)
  rw [lg_entry_eq]
  generalize (lg_sl ([.ref (ad (15 + k))]) ++ List.replicate (1 - (lg_sl ([.ref (ad (15 + k))])).length) Slot.unset).toArray = ls at hl ⊢
  have hl : lv_has ls 1 [(0, .ref (ad (15 + k)))] := hl
  have hE : ym_ext s.heap s.heap := ym_ext_rf
  have r1 := ym_lo_ran k
  have r2 := ym_hi_ran k
  refine lv_aload_n hx hb dX12_isIntValue_0 rfl (lv_at hl 0 rfl) ?_
  refine ym_callP (ym_rC (C := RX12) (n := 0) (As := []) (rest := []) hF (ym_getMinimum l n0 ad D k hk) (by decide) q50 q51 q52 q53 (by decide +kernel) rfl rfl ⟨Nat.le_of_ble_eq_true rfl, Nat.le_of_ble_eq_true rfl⟩ ym_w_mv (ym_w_of hkw (hK.sub (tys' := []) [] rfl) ym_P0) (ym_recO (hkw.1 k hk).2.2.2.1) rfl hl.1 rfl (Nat.le_of_ble_eq_true rfl) dX12_isIntValue_1 ⟨Nat.le_of_ble_eq_true rfl, Nat.le_of_ble_eq_true rfl⟩) ?_
  refine ym_ldc2 (-2147483648) hx hb hown (hts _ q180) (by decide) dX12_isIntValue_4 ?_
  refine ym_lcmp_lt (tgt := 26) hx hb ⟨by omega, by omega⟩ ⟨by omega, by omega⟩ dX12_isIntValue_7 dX12_isIntValue_8 (by decide) (fun c_1 => ?_) (fun c_1 => ?_)
  · exact absurd c_1 (by omega)
  · refine lv_aload_n hx hb dX12_isIntValue_11 rfl (lv_at hl 0 rfl) ?_
    refine ym_callP (ym_rC (C := RX12) (n := 0) (As := []) (rest := []) hF (ym_getMaximum l n0 ad D k hk) (by decide) q54 q55 q56 q57 (by decide +kernel) rfl rfl ⟨Nat.le_of_ble_eq_true rfl, Nat.le_of_ble_eq_true rfl⟩ ym_w_mv (ym_w_of hkw (hK.sub (tys' := []) [] rfl) ym_P0) (ym_recO (hkw.1 k hk).2.2.2.1) rfl hl.1 rfl (Nat.le_of_ble_eq_true rfl) dX12_isIntValue_12 ⟨Nat.le_of_ble_eq_true rfl, Nat.le_of_ble_eq_true rfl⟩) ?_
    refine ym_ldc2 2147483647 hx hb hown (hts _ q181) (by decide) dX12_isIntValue_15 ?_
    refine ym_lcmp_gt (tgt := 26) hx hb ⟨by omega, by omega⟩ ⟨by omega, by omega⟩ dX12_isIntValue_18 dX12_isIntValue_19 (by decide) (fun c_2 => ?_) (fun c_2 => ?_)
    · exact absurd c_2 (by omega)
    · refine ym_iconst hx hb dX12_isIntValue_22 ?_
      refine lv_goto (tgt := 27) hx hb dX12_isIntValue_23 (by decide) ?_
      exact ym_retZ hx hb hr hlocks rfl ⟨rfl, rfl⟩ (fun _ h => absurd h List.not_mem_nil) dX12_isIntValue_27
set_option maxHeartbeats 4000000 in
set_option maxRecDepth 100000 in
/-- a value in the range is valid -/
theorem ym_isValidValue (l : Launch) (n0 : Nat) (ad : Nat → Nat) (D : va_G) (k : Nat) (v : Int) (hk : k < 3) (hv1 : ym_lo k ≤ v) (hv2 : v ≤ ym_hi k) : ym_Cold l yX12_isValidValue cX12_isValidValue 3 (some .boolean) ({ frames := 1, cells := 0, slots := 0, locals := 20 }) (va_Pc [.ref (ad (15 + k)), .long (ym_L v)] (ym_G (ym_w n0 ad D [] []))) (ym_Q (ym_zP (.int (ym_I 1)))) := by
  intro p e s m args below meth c hx hb hml hr hlocks hts hown0 hv
  obtain ⟨rfl, hkw, hK, hP⟩ := hv
  have hown : s.vm.findClass RX12 = some m.cls := hown0
  have hF : CallFix p m c cX12_isValidValue 3 s _ lw_all RX12 := ⟨hx, hb, hml, hown, hts⟩
  have hl := lv_entry ([.ref (ad (15 + k)), .long (ym_L v)]) (n := 3) (Nat.le_of_ble_eq_true rfl)
  rw [lg_entry_eq]
  generalize (lg_sl ([.ref (ad (15 + k)), .long (ym_L v)]) ++ List.replicate (3 - (lg_sl ([.ref (ad (15 + k)), .long (ym_L v)])).length) Slot.unset).toArray = ls at hl ⊢
  have hl : lv_has ls 3 [(0, .ref (ad (15 + k))), (1, .long (ym_L v))] := hl
  have hE : ym_ext s.heap s.heap := ym_ext_rf
  have r1 := ym_lo_ran k
  have r2 := ym_hi_ran k
  refine lv_lload_n hx hb dX12_isValidValue_0 rfl (lv_at hl 1 rfl) ?_
  refine lv_aload_n hx hb dX12_isValidValue_1 rfl (lv_at hl 0 rfl) ?_
  refine ym_callP (ym_rC (C := RX12) (n := 0) (As := []) (rest := [.long (ym_L v)]) hF (ym_getMinimum l n0 ad D k hk) (by decide) q50 q51 q52 q53 (by decide +kernel) rfl rfl ⟨Nat.le_of_ble_eq_true rfl, Nat.le_of_ble_eq_true rfl⟩ ym_w_mv (ym_w_of hkw (hK.sub (tys' := []) [] rfl) ym_P0) (ym_recO (hkw.1 k hk).2.2.2.1) rfl hl.1 rfl (Nat.le_of_ble_eq_true rfl) dX12_isValidValue_2 ⟨Nat.le_of_ble_eq_true rfl, Nat.le_of_ble_eq_true rfl⟩) ?_
  refine ym_lcmp_lt (tgt := 22) hx hb ⟨by omega, by omega⟩ ⟨by omega, by omega⟩ dX12_isValidValue_5 dX12_isValidValue_6 (by decide) (fun c_1 => ?_) (fun c_1 => ?_)
  · exact absurd c_1 (by omega)
  · refine lv_lload_n hx hb dX12_isValidValue_9 rfl (lv_at hl 1 rfl) ?_
    refine lv_aload_n hx hb dX12_isValidValue_10 rfl (lv_at hl 0 rfl) ?_
    refine ym_callP (ym_rC (C := RX12) (n := 0) (As := []) (rest := [.long (ym_L v)]) hF (ym_getMaximum l n0 ad D k hk) (by decide) q54 q55 q56 q57 (by decide +kernel) rfl rfl ⟨Nat.le_of_ble_eq_true rfl, Nat.le_of_ble_eq_true rfl⟩ ym_w_mv (ym_w_of hkw (hK.sub (tys' := []) [] rfl) ym_P0) (ym_recO (hkw.1 k hk).2.2.2.1) rfl hl.1 rfl (Nat.le_of_ble_eq_true rfl) dX12_isValidValue_11 ⟨Nat.le_of_ble_eq_true rfl, Nat.le_of_ble_eq_true rfl⟩) ?_
    refine ym_lcmp_gt (tgt := 22) hx hb ⟨by omega, by omega⟩ ⟨by omega, by omega⟩ dX12_isValidValue_14 dX12_isValidValue_15 (by decide) (fun c_2 => ?_) (fun c_2 => ?_)
    · exact absurd c_2 (by omega)
    · refine ym_iconst hx hb dX12_isValidValue_18 ?_
      refine lv_goto (tgt := 23) hx hb dX12_isValidValue_19 (by decide) ?_
      exact ym_retZ hx hb hr hlocks rfl ⟨rfl, rfl⟩ (fun _ h => absurd h List.not_mem_nil) dX12_isValidValue_23
set_option maxHeartbeats 4000000 in
set_option maxRecDepth 100000 in
/-- a value in the range is a valid int -/
theorem ym_isValidIntValue (l : Launch) (n0 : Nat) (ad : Nat → Nat) (D : va_G) (k : Nat) (v : Int) (hk : k < 3) (hv1 : ym_lo k ≤ v) (hv2 : v ≤ ym_hi k) : ym_Cold l yX12_isValidIntValue cX12_isValidIntValue 3 (some .boolean) ({ frames := 2, cells := 0, slots := 0, locals := 42 }) (va_Pc [.ref (ad (15 + k)), .long (ym_L v)] (ym_G (ym_w n0 ad D [] []))) (ym_Q (ym_zP (.int (ym_I 1)))) := by
  intro p e s m args below meth c hx hb hml hr hlocks hts hown0 hv
  obtain ⟨rfl, hkw, hK, hP⟩ := hv
  have hown : s.vm.findClass RX12 = some m.cls := hown0
  have hF : CallFix p m c cX12_isValidIntValue 3 s _ lw_all RX12 := ⟨hx, hb, hml, hown, hts⟩
  have hl := lv_entry ([.ref (ad (15 + k)), .long (ym_L v)]) (n := 3) (Nat.le_of_ble_eq_true rfl)
  rw [lg_entry_eq]
  generalize (lg_sl ([.ref (ad (15 + k)), .long (ym_L v)]) ++ List.replicate (3 - (lg_sl ([.ref (ad (15 + k)), .long (ym_L v)])).length) Slot.unset).toArray = ls at hl ⊢
  have hl : lv_has ls 3 [(0, .ref (ad (15 + k))), (1, .long (ym_L v))] := hl
  have hE : ym_ext s.heap s.heap := ym_ext_rf
  refine lv_aload_n hx hb dX12_isValidIntValue_0 rfl (lv_at hl 0 rfl) ?_
  refine ym_callP (ym_rC (C := RX12) (n := 0) (As := []) (rest := []) hF (ym_isIntValue l n0 ad D k hk) (by decide) q176 q177 q178 q179 (by decide +kernel) rfl rfl ⟨Nat.le_of_ble_eq_true rfl, Nat.le_of_ble_eq_true rfl⟩ ym_w_mv (ym_w_of hkw (hK.sub (tys' := []) [] rfl) ym_P0) (ym_recO (hkw.1 k hk).2.2.2.1) rfl hl.1 rfl (Nat.le_of_ble_eq_true rfl) dX12_isValidIntValue_1 ⟨Nat.le_of_ble_eq_true rfl, Nat.le_of_ble_eq_true rfl⟩) ?_
  refine ym_if_eq (tgt := 19) hx hb ⟨by omega, by omega⟩ dX12_isValidIntValue_4 (by decide) (fun c_1 => ?_) (fun c_1 => ?_)
  · exact absurd c_1 (by omega)
  · refine lv_aload_n hx hb dX12_isValidIntValue_7 rfl (lv_at hl 0 rfl) ?_
    refine lv_lload_n hx hb dX12_isValidIntValue_8 rfl (lv_at hl 1 rfl) ?_
    refine ym_callP (ym_rC (C := RX12) (n := 1) (As := [.long (ym_L v)]) (rest := []) hF (ym_isValidValue l n0 ad D k v hk hv1 hv2) (by decide) q46 q47 q48 q49 (by decide +kernel) rfl rfl ⟨Nat.le_of_ble_eq_true rfl, Nat.le_of_ble_eq_true rfl⟩ ym_w_mv (ym_w_of hkw (hK.sub (tys' := []) [] rfl) ym_P0) (ym_recO (hkw.1 k hk).2.2.2.1) rfl hl.1 rfl (Nat.le_of_ble_eq_true rfl) dX12_isValidIntValue_9 ⟨Nat.le_of_ble_eq_true rfl, Nat.le_of_ble_eq_true rfl⟩) ?_
    refine ym_if_eq (tgt := 19) hx hb ⟨by omega, by omega⟩ dX12_isValidIntValue_12 (by decide) (fun c_2 => ?_) (fun c_2 => ?_)
    · exact absurd c_2 (by omega)
    · refine ym_iconst hx hb dX12_isValidIntValue_15 ?_
      refine lv_goto (tgt := 20) hx hb dX12_isValidIntValue_16 (by decide) ?_
      exact ym_retZ hx hb hr hlocks rfl ⟨rfl, rfl⟩ (fun _ h => absurd h List.not_mem_nil) dX12_isValidIntValue_20
set_option maxHeartbeats 4000000 in
set_option maxRecDepth 100000 in
/-- a value in the range is handed back -/
theorem ym_vrCheck (l : Launch) (n0 : Nat) (ad : Nat → Nat) (D : va_G) (k : Nat) (v : Int) (fl : Nat) (hk : k < 3) (hv1 : ym_lo k ≤ v) (hv2 : v ≤ ym_hi k) : ym_Cold l yX12_checkValidValue cX12_checkValidValue 4 (some .long) ({ frames := 2, cells := 0, slots := 0, locals := 42 }) (va_Pc [.ref (ad (15 + k)), .long (ym_L v), .ref fl] (ym_G (ym_w n0 ad D [] []))) (ym_Q (ym_zP (.long (ym_L v)))) := by
  intro p e s m args below meth c hx hb hml hr hlocks hts hown0 hv
  obtain ⟨rfl, hkw, hK, hP⟩ := hv
  have hown : s.vm.findClass RX12 = some m.cls := hown0
  have hF : CallFix p m c cX12_checkValidValue 4 s _ lw_all RX12 := ⟨hx, hb, hml, hown, hts⟩
  have hl := lv_entry ([.ref (ad (15 + k)), .long (ym_L v), .ref fl]) (n := 4) (Nat.le_of_ble_eq_true rfl)
  rw [lg_entry_eq]
  generalize (lg_sl ([.ref (ad (15 + k)), .long (ym_L v), .ref fl]) ++ List.replicate (4 - (lg_sl ([.ref (ad (15 + k)), .long (ym_L v), .ref fl])).length) Slot.unset).toArray = ls at hl ⊢
  have hl : lv_has ls 4 [(0, .ref (ad (15 + k))), (1, .long (ym_L v)), (3, .ref fl)] := hl
  have hE : ym_ext s.heap s.heap := ym_ext_rf
  refine lv_aload_n hx hb dX12_checkValidValue_0 rfl (lv_at hl 0 rfl) ?_
  refine lv_lload_n hx hb dX12_checkValidValue_1 rfl (lv_at hl 1 rfl) ?_
  refine ym_callP (ym_rC (C := RX12) (n := 1) (As := [.long (ym_L v)]) (rest := []) hF (ym_isValidValue l n0 ad D k v hk hv1 hv2) (by decide) q46 q47 q48 q49 (by decide +kernel) rfl rfl ⟨Nat.le_of_ble_eq_true rfl, Nat.le_of_ble_eq_true rfl⟩ ym_w_mv (ym_w_of hkw (hK.sub (tys' := []) [] rfl) ym_P0) (ym_recO (hkw.1 k hk).2.2.2.1) rfl hl.1 rfl (Nat.le_of_ble_eq_true rfl) dX12_checkValidValue_2 ⟨Nat.le_of_ble_eq_true rfl, Nat.le_of_ble_eq_true rfl⟩) ?_
  refine ym_if_ne (tgt := 32) hx hb ⟨by omega, by omega⟩ dX12_checkValidValue_5 (by decide) (fun c_1 => ?_) (fun c_1 => ?_)
  · refine lv_lload_n hx hb dX12_checkValidValue_32 rfl (lv_at hl 1 rfl) ?_
    exact ym_retL hx hb hr hlocks ⟨rfl, rfl⟩ (fun _ h => absurd h List.not_mem_nil) dX12_checkValidValue_33
  · exact absurd c_1 (by omega)
set_option maxHeartbeats 4000000 in
set_option maxRecDepth 100000 in
/-- a value in the range is handed back as an int -/
theorem ym_vrCheckInt (l : Launch) (n0 : Nat) (ad : Nat → Nat) (D : va_G) (k : Nat) (v : Int) (fl : Nat) (hk : k < 3) (hv1 : ym_lo k ≤ v) (hv2 : v ≤ ym_hi k) : ym_Cold l yX12_checkValidIntValue cX12_checkValidIntValue 4 (some .int) ({ frames := 3, cells := 0, slots := 0, locals := 64 }) (va_Pc [.ref (ad (15 + k)), .long (ym_L v), .ref fl] (ym_G (ym_w n0 ad D [] []))) (ym_Q (ym_zP (.int (ym_I v)))) := by
  intro p e s m args below meth c hx hb hml hr hlocks hts hown0 hv
  obtain ⟨rfl, hkw, hK, hP⟩ := hv
  have hown : s.vm.findClass RX12 = some m.cls := hown0
  have hF : CallFix p m c cX12_checkValidIntValue 4 s _ lw_all RX12 := ⟨hx, hb, hml, hown, hts⟩
  have hl := lv_entry ([.ref (ad (15 + k)), .long (ym_L v), .ref fl]) (n := 4) (Nat.le_of_ble_eq_true rfl)
  rw [lg_entry_eq]
  generalize (lg_sl ([.ref (ad (15 + k)), .long (ym_L v), .ref fl]) ++ List.replicate (4 - (lg_sl ([.ref (ad (15 + k)), .long (ym_L v), .ref fl])).length) Slot.unset).toArray = ls at hl ⊢
  have hl : lv_has ls 4 [(0, .ref (ad (15 + k))), (1, .long (ym_L v)), (3, .ref fl)] := hl
  have hE : ym_ext s.heap s.heap := ym_ext_rf
  refine lv_aload_n hx hb dX12_checkValidIntValue_0 rfl (lv_at hl 0 rfl) ?_
  refine lv_lload_n hx hb dX12_checkValidIntValue_1 rfl (lv_at hl 1 rfl) ?_
  refine ym_callP (ym_rC (C := RX12) (n := 1) (As := [.long (ym_L v)]) (rest := []) hF (ym_isValidIntValue l n0 ad D k v hk hv1 hv2) (by decide) q172 q173 q174 q175 (by decide +kernel) rfl rfl ⟨Nat.le_of_ble_eq_true rfl, Nat.le_of_ble_eq_true rfl⟩ ym_w_mv (ym_w_of hkw (hK.sub (tys' := []) [] rfl) ym_P0) (ym_recO (hkw.1 k hk).2.2.2.1) rfl hl.1 rfl (Nat.le_of_ble_eq_true rfl) dX12_checkValidIntValue_2 ⟨Nat.le_of_ble_eq_true rfl, Nat.le_of_ble_eq_true rfl⟩) ?_
  refine ym_if_ne (tgt := 18) hx hb ⟨by omega, by omega⟩ dX12_checkValidIntValue_5 (by decide) (fun c_1 => ?_) (fun c_1 => ?_)
  · refine lv_lload_n hx hb dX12_checkValidIntValue_18 rfl (lv_at hl 1 rfl) ?_
    refine ym_Wl2i hx hb dX12_checkValidIntValue_19 ?_
    exact ym_retI hx hb hr hlocks ⟨rfl, rfl⟩ (fun _ h => absurd h List.not_mem_nil) dX12_checkValidIntValue_20
  · exact absurd c_1 (by omega)
set_option maxHeartbeats 4000000 in
set_option maxRecDepth 100000 in
/-- the range of field k -/
theorem ym_range (l : Launch) (n0 : Nat) (ad : Nat → Nat) (D : va_G) (k : Nat) (hk : k < 3) : Met l yX4_range (ws_ yX4_range cX4_range 1 (some (.object "ValueRange"))) ({ frames := 0, cells := 0, slots := 0, locals := 0 }) (va_Pc [.ref (ad (12 + k))] (ym_G (ym_w n0 ad D [] []))) (ym_Q (ym_zP (.ref (ad (15 + k))))) 0 0 (fun _ => False) := by
  refine Met.ofW (cc := cX4_range) (maxL := 1) (ret := (some (.object "ValueRange"))) (by decide) rfl ?_
  intro p e s m args below meth c s₁ B hml hv
  obtain ⟨rfl, hkw, hK, hP⟩ := hv
  have hx := B.exec
  have hb := B.bytes
  have hr := B.returns
  have hts := atoms_spec (ws := ws_ yX4_range cX4_range 1 (some (.object "ValueRange"))) B.pre
  have hts : ∀ w ∈ lw_all, w.before _ s = true := fun w h => hts w (List.mem_cons_of_mem _ h)
  have hown : s.vm.findClass RX4 = some m.cls := findClass_of_methodNamed B.named
  have hlocks := B.notSynchronized
  have hF : CallFix p m c cX4_range 1 s _ lw_all RX4 := ⟨hx, hb, hml, hown, hts⟩
  have hl := lv_entry ([.ref (ad (12 + k))]) (n := 1) (Nat.le_of_ble_eq_true rfl)
  rw [lg_entry_eq]
  generalize (lg_sl ([.ref (ad (12 + k))]) ++ List.replicate (1 - (lg_sl ([.ref (ad (12 + k))])).length) Slot.unset).toArray = ls at hl ⊢
  have hl : lv_has ls 1 [(0, .ref (ad (12 + k)))] := hl
  have hE : ym_ext s.heap s.heap := ym_ext_rf
  refine lv_aload_n hx hb dX4_range_0 rfl (lv_at hl 0 rfl) ?_
  refine ym_getO hx hb hown (hkw.1 k hk).2.2.1 (hts _ q424) (fun _ h9 => h9) dX4_range_1 ?_
  exact ym_retA hx hb hr hlocks ⟨rfl, rfl⟩ (fun _ h => absurd h List.not_mem_nil) dX4_range_4
set_option maxHeartbeats 4000000 in
set_option maxRecDepth 100000 in
/-- ChronoField k: a value in the range is handed back -/
theorem ym_check (l : Launch) (n0 : Nat) (ad : Nat → Nat) (D : va_G) (k : Nat) (v : Int) (hk : k < 3) (hv1 : ym_lo k ≤ v) (hv2 : v ≤ ym_hi k) : Met l yX4_checkValidValue (ws_ yX4_checkValidValue cX4_checkValidValue 3 (some .long)) ({ frames := 3, cells := 0, slots := 0, locals := 65 }) (va_Pc [.ref (ad (12 + k)), .long (ym_L v)] (ym_G (ym_w n0 ad D [] []))) (ym_Q (ym_zP (.long (ym_L v)))) 0 0 (fun _ => False) := by
  refine Met.ofW (cc := cX4_checkValidValue) (maxL := 3) (ret := (some .long)) (by decide) rfl ?_
  intro p e s m args below meth c s₁ B hml hv
  obtain ⟨rfl, hkw, hK, hP⟩ := hv
  have hx := B.exec
  have hb := B.bytes
  have hr := B.returns
  have hts := atoms_spec (ws := ws_ yX4_checkValidValue cX4_checkValidValue 3 (some .long)) B.pre
  have hts : ∀ w ∈ lw_all, w.before _ s = true := fun w h => hts w (List.mem_cons_of_mem _ h)
  have hown : s.vm.findClass RX4 = some m.cls := findClass_of_methodNamed B.named
  have hlocks := B.notSynchronized
  have hF : CallFix p m c cX4_checkValidValue 3 s _ lw_all RX4 := ⟨hx, hb, hml, hown, hts⟩
  have hl := lv_entry ([.ref (ad (12 + k)), .long (ym_L v)]) (n := 3) (Nat.le_of_ble_eq_true rfl)
  rw [lg_entry_eq]
  generalize (lg_sl ([.ref (ad (12 + k)), .long (ym_L v)]) ++ List.replicate (3 - (lg_sl ([.ref (ad (12 + k)), .long (ym_L v)])).length) Slot.unset).toArray = ls at hl ⊢
  have hl : lv_has ls 3 [(0, .ref (ad (12 + k))), (1, .long (ym_L v))] := hl
  have hE : ym_ext s.heap s.heap := ym_ext_rf
  refine lv_aload_n hx hb dX4_checkValidValue_0 rfl (lv_at hl 0 rfl) ?_
  refine ym_callP (ym_rV (C := RX4) (As := []) (rest := []) hF (ym_range l n0 ad D k hk) (cwV 0 hts (lw_V q38 q39 q40 q7 q41) rfl rfl rfl (by decide +kernel) ⟨Nat.le_of_ble_eq_true rfl, Nat.le_of_ble_eq_true rfl⟩) ym_w_mv (ym_w_of hkw (hK.sub (tys' := []) [] rfl) ym_P0) (ym_recO (hkw.1 k hk).2.1) rfl hl.1 rfl (Nat.le_of_ble_eq_true rfl) dX4_checkValidValue_1 ⟨Nat.le_of_ble_eq_true rfl, Nat.le_of_ble_eq_true rfl⟩) ?_
  refine lv_lload_n hx hb dX4_checkValidValue_4 rfl (lv_at hl 1 rfl) ?_
  refine lv_aload_n hx hb dX4_checkValidValue_5 rfl (lv_at hl 0 rfl) ?_
  refine ym_callP (ym_rC (C := RX12) (n := 2) (As := [.long (ym_L v), .ref (ad (12 + k))]) (rest := []) hF (ym_vrCheck l n0 ad D k v (ad (12 + k)) hk hv1 hv2) (by decide) q42 q43 q44 q45 (by decide +kernel) rfl rfl ⟨Nat.le_of_ble_eq_true rfl, Nat.le_of_ble_eq_true rfl⟩ ym_w_mv (ym_w_of hkw (hK.sub (tys' := []) [] rfl) ym_P0) (ym_recO (hkw.1 k hk).2.2.2.1) rfl hl.1 rfl (Nat.le_of_ble_eq_true rfl) dX4_checkValidValue_6 ⟨Nat.le_of_ble_eq_true rfl, Nat.le_of_ble_eq_true rfl⟩) ?_
  exact ym_retL hx hb hr hlocks ⟨rfl, rfl⟩ (fun _ h => absurd h List.not_mem_nil) dX4_checkValidValue_9
set_option maxHeartbeats 4000000 in
set_option maxRecDepth 100000 in
/-- ChronoField k: a value in the range is handed back as an int -/
theorem ym_checkInt (l : Launch) (n0 : Nat) (ad : Nat → Nat) (D : va_G) (k : Nat) (v : Int) (hk : k < 3) (hv1 : ym_lo k ≤ v) (hv2 : v ≤ ym_hi k) : Met l yX4_checkValidIntValue (ws_ yX4_checkValidIntValue cX4_checkValidIntValue 3 (some .int)) ({ frames := 4, cells := 0, slots := 0, locals := 87 }) (va_Pc [.ref (ad (12 + k)), .long (ym_L v)] (ym_G (ym_w n0 ad D [] []))) (ym_Q (ym_zP (.int (ym_I v)))) 0 0 (fun _ => False) := by
  refine Met.ofW (cc := cX4_checkValidIntValue) (maxL := 3) (ret := (some .int)) (by decide) rfl ?_
  intro p e s m args below meth c s₁ B hml hv
  obtain ⟨rfl, hkw, hK, hP⟩ := hv
  have hx := B.exec
  have hb := B.bytes
  have hr := B.returns
  have hts := atoms_spec (ws := ws_ yX4_checkValidIntValue cX4_checkValidIntValue 3 (some .int)) B.pre
  have hts : ∀ w ∈ lw_all, w.before _ s = true := fun w h => hts w (List.mem_cons_of_mem _ h)
  have hown : s.vm.findClass RX4 = some m.cls := findClass_of_methodNamed B.named
  have hlocks := B.notSynchronized
  have hF : CallFix p m c cX4_checkValidIntValue 3 s _ lw_all RX4 := ⟨hx, hb, hml, hown, hts⟩
  have hl := lv_entry ([.ref (ad (12 + k)), .long (ym_L v)]) (n := 3) (Nat.le_of_ble_eq_true rfl)
  rw [lg_entry_eq]
  generalize (lg_sl ([.ref (ad (12 + k)), .long (ym_L v)]) ++ List.replicate (3 - (lg_sl ([.ref (ad (12 + k)), .long (ym_L v)])).length) Slot.unset).toArray = ls at hl ⊢
  have hl : lv_has ls 3 [(0, .ref (ad (12 + k))), (1, .long (ym_L v))] := hl
  have hE : ym_ext s.heap s.heap := ym_ext_rf
  refine lv_aload_n hx hb dX4_checkValidIntValue_0 rfl (lv_at hl 0 rfl) ?_
  refine ym_callP (ym_rV (C := RX4) (As := []) (rest := []) hF (ym_range l n0 ad D k hk) (cwV 0 hts (lw_V q38 q39 q40 q7 q41) rfl rfl rfl (by decide +kernel) ⟨Nat.le_of_ble_eq_true rfl, Nat.le_of_ble_eq_true rfl⟩) ym_w_mv (ym_w_of hkw (hK.sub (tys' := []) [] rfl) ym_P0) (ym_recO (hkw.1 k hk).2.1) rfl hl.1 rfl (Nat.le_of_ble_eq_true rfl) dX4_checkValidIntValue_1 ⟨Nat.le_of_ble_eq_true rfl, Nat.le_of_ble_eq_true rfl⟩) ?_
  refine lv_lload_n hx hb dX4_checkValidIntValue_4 rfl (lv_at hl 1 rfl) ?_
  refine lv_aload_n hx hb dX4_checkValidIntValue_5 rfl (lv_at hl 0 rfl) ?_
  refine ym_callP (ym_rC (C := RX12) (n := 2) (As := [.long (ym_L v), .ref (ad (12 + k))]) (rest := []) hF (ym_vrCheckInt l n0 ad D k v (ad (12 + k)) hk hv1 hv2) (by decide) q168 q169 q170 q171 (by decide +kernel) rfl rfl ⟨Nat.le_of_ble_eq_true rfl, Nat.le_of_ble_eq_true rfl⟩ ym_w_mv (ym_w_of hkw (hK.sub (tys' := []) [] rfl) ym_P0) (ym_recO (hkw.1 k hk).2.2.2.1) rfl hl.1 rfl (Nat.le_of_ble_eq_true rfl) dX4_checkValidIntValue_6 ⟨Nat.le_of_ble_eq_true rfl, Nat.le_of_ble_eq_true rfl⟩) ?_
  exact ym_retI hx hb hr hlocks ⟨rfl, rfl⟩ (fun _ h => absurd h List.not_mem_nil) dX4_checkValidIntValue_9
set_option maxHeartbeats 4000000 in
set_option maxRecDepth 100000 in
/-- a month's number from 0 on -/
theorem ym_ordinal (l : Launch) (n0 : Nat) (ad : Nat → Nat) (D : va_G) (mo : Int) (hm1 : 1 ≤ mo) (hm2 : mo ≤ 12) : Met l yJ0_ordinal (ws_ yJ0_ordinal cJ0_ordinal 1 (some .int)) ({ frames := 0, cells := 0, slots := 0, locals := 0 }) (va_Pc [.ref (ad (mo - 1).toNat)] (ym_G (ym_w n0 ad D [] []))) (ym_Q (ym_zP (.int (ym_I (mo - 1))))) 0 0 (fun _ => False) := by
  refine Met.ofW (cc := cJ0_ordinal) (maxL := 1) (ret := (some .int)) (by decide) rfl ?_
  intro p e s m args below meth c s₁ B hml hv
  obtain ⟨rfl, hkw, hK, hP⟩ := hv
  have hx := B.exec
  have hb := B.bytes
  have hr := B.returns
  have hts := atoms_spec (ws := ws_ yJ0_ordinal cJ0_ordinal 1 (some .int)) B.pre
  have hts : ∀ w ∈ lw_all, w.before _ s = true := fun w h => hts w (List.mem_cons_of_mem _ h)
  have hown : s.vm.findClass RJ0 = some m.cls := findClass_of_methodNamed B.named
  have hlocks := B.notSynchronized
  have hF : CallFix p m c cJ0_ordinal 1 s _ lw_all RJ0 := ⟨hx, hb, hml, hown, hts⟩
  have hl := lv_entry ([.ref (ad (mo - 1).toNat)]) (n := 1) (Nat.le_of_ble_eq_true rfl)
  rw [lg_entry_eq]
  generalize (lg_sl ([.ref (ad (mo - 1).toNat)]) ++ List.replicate (1 - (lg_sl ([.ref (ad (mo - 1).toNat)])).length) Slot.unset).toArray = ls at hl ⊢
  have hl : lv_has ls 1 [(0, .ref (ad (mo - 1).toNat))] := hl
  have hE : ym_ext s.heap s.heap := ym_ext_rf
  refine lv_aload_n hx hb dJ0_ordinal_0 rfl (lv_at hl 0 rfl) ?_
  refine ym_getO hx hb hown (ym_km_o hkw hm1 hm2) (hts _ q427) (fun _ h9 => h9) dJ0_ordinal_1 ?_
  exact ym_retI hx hb hr hlocks ⟨rfl, rfl⟩ (fun _ h => absurd h List.not_mem_nil) dJ0_ordinal_4
set_option maxHeartbeats 4000000 in
set_option maxRecDepth 100000 in
/-- Month.of -/
theorem ym_monthOf (l : Launch) (n0 : Nat) (ad : Nat → Nat) (D : va_G) (mo : Int) (hm1 : 1 ≤ mo) (hm2 : mo ≤ 12) : Met l yX6_of (ws_ yX6_of cX6_of 1 (some (.object "Month"))) ({ frames := 0, cells := 0, slots := 0, locals := 0 }) (va_Pc [.int (ym_I mo)] (ym_G (ym_w n0 ad D [] []))) (ym_Q (ym_zP (.ref (ad (mo - 1).toNat)))) 0 0 (fun _ => False) := by
  refine Met.ofW (cc := cX6_of) (maxL := 1) (ret := (some (.object "Month"))) (by decide) rfl ?_
  intro p e s m args below meth c s₁ B hml hv
  obtain ⟨rfl, hkw, hK, hP⟩ := hv
  have hx := B.exec
  have hb := B.bytes
  have hr := B.returns
  have hts := atoms_spec (ws := ws_ yX6_of cX6_of 1 (some (.object "Month"))) B.pre
  have hts : ∀ w ∈ lw_all, w.before _ s = true := fun w h => hts w (List.mem_cons_of_mem _ h)
  have hown : s.vm.findClass RX6 = some m.cls := findClass_of_methodNamed B.named
  have hlocks := B.notSynchronized
  have hF : CallFix p m c cX6_of 1 s _ lw_all RX6 := ⟨hx, hb, hml, hown, hts⟩
  have hl := lv_entry ([.int (ym_I mo)]) (n := 1) (Nat.le_of_ble_eq_true rfl)
  rw [lg_entry_eq]
  generalize (lg_sl ([.int (ym_I mo)]) ++ List.replicate (1 - (lg_sl ([.int (ym_I mo)])).length) Slot.unset).toArray = ls at hl ⊢
  have hl : lv_has ls 1 [(0, .int (ym_I mo))] := hl
  have hE : ym_ext s.heap s.heap := ym_ext_rf
  refine lv_iload_n hx hb dX6_of_0 rfl (lv_at hl 0 rfl) ?_
  refine ym_iconst hx hb dX6_of_1 ?_
  refine ym_icmp_lt (tgt := 11) hx hb ⟨by omega, by omega⟩ ⟨by omega, by omega⟩ dX6_of_2 (by decide) (fun c_1 => ?_) (fun c_1 => ?_)
  · exact absurd c_1 (by omega)
  · refine lv_iload_n hx hb dX6_of_5 rfl (lv_at hl 0 rfl) ?_
    refine ym_bipush 12 hx hb dX6_of_6 (by decide) ?_
    refine ym_icmp_le (tgt := 21) hx hb ⟨by omega, by omega⟩ ⟨by omega, by omega⟩ dX6_of_8 (by decide) (fun c_2 => ?_) (fun c_2 => ?_)
    · refine ym_gets hx hb hown hkw.2.2.2.2.1 (hts _ q286) (fun _ h9 => h9) dX6_of_21 ?_
      refine lv_iload_n hx hb dX6_of_24 rfl (lv_at hl 0 rfl) ?_
      refine ym_iconst hx hb dX6_of_25 ?_
      refine ym_isub hx hb dX6_of_26 ?_
      refine ym_aald hx hb hkw.2.2.2.2.2.1 (ym_in (by omega) (by omega) (by decide)) (v := .ref (ad (mo - 1).toNat)) (by show Value.ref (ad _) = _; rw [ym_I_cl ⟨by omega, by omega⟩]) dX6_of_27 ?_
      exact ym_retA hx hb hr hlocks ⟨rfl, rfl⟩ (fun _ h => absurd h List.not_mem_nil) dX6_of_28
    · exact absurd c_2 (by omega)
set_option maxHeartbeats 4000000 in
set_option maxRecDepth 100000 in
/-- a month's number from 1 on -/
theorem ym_getValue (l : Launch) (n0 : Nat) (ad : Nat → Nat) (D : va_G) (mo : Int) (hm1 : 1 ≤ mo) (hm2 : mo ≤ 12) : Met l yX6_getValue (ws_ yX6_getValue cX6_getValue 1 (some .int)) ({ frames := 1, cells := 0, slots := 0, locals := 20 }) (va_Pc [.ref (ad (mo - 1).toNat)] (ym_G (ym_w n0 ad D [] []))) (ym_Q (ym_zP (.int (ym_I mo)))) 0 0 (fun _ => False) := by
  refine Met.ofW (cc := cX6_getValue) (maxL := 1) (ret := (some .int)) (by decide) rfl ?_
  intro p e s m args below meth c s₁ B hml hv
  obtain ⟨rfl, hkw, hK, hP⟩ := hv
  have hx := B.exec
  have hb := B.bytes
  have hr := B.returns
  have hts := atoms_spec (ws := ws_ yX6_getValue cX6_getValue 1 (some .int)) B.pre
  have hts : ∀ w ∈ lw_all, w.before _ s = true := fun w h => hts w (List.mem_cons_of_mem _ h)
  have hown : s.vm.findClass RX6 = some m.cls := findClass_of_methodNamed B.named
  have hlocks := B.notSynchronized
  have hF : CallFix p m c cX6_getValue 1 s _ lw_all RX6 := ⟨hx, hb, hml, hown, hts⟩
  have hl := lv_entry ([.ref (ad (mo - 1).toNat)]) (n := 1) (Nat.le_of_ble_eq_true rfl)
  rw [lg_entry_eq]
  generalize (lg_sl ([.ref (ad (mo - 1).toNat)]) ++ List.replicate (1 - (lg_sl ([.ref (ad (mo - 1).toNat)])).length) Slot.unset).toArray = ls at hl ⊢
  have hl : lv_has ls 1 [(0, .ref (ad (mo - 1).toNat))] := hl
  have hE : ym_ext s.heap s.heap := ym_ext_rf
  refine lv_aload_n hx hb dX6_getValue_0 rfl (lv_at hl 0 rfl) ?_
  refine ym_callP (ym_rU (C := "Month") (owner := "java/lang/Enum") (x := ({ cls := "Month", name := "ordinal", desc := "()I" } : Jvm.MethodName)) (As := []) (rest := []) hF (ym_ordinal l n0 ad D mo hm1 hm2) (va_cwU 0 hts (lw_app (lw_in _ [305, 306, 308, 309, 6] (by decide +kernel) (by decide +kernel)) (lw_meth q310)) rfl rfl rfl rfl (by decide +kernel) ⟨Nat.le_of_ble_eq_true rfl, Nat.le_of_ble_eq_true rfl⟩) ym_w_mv (ym_w_of hkw (hK.sub (tys' := []) [] rfl) ym_P0) (ym_recO (ym_km_c hkw hm1 hm2)) rfl hl.1 rfl (Nat.le_of_ble_eq_true rfl) dX6_getValue_1 ⟨Nat.le_of_ble_eq_true rfl, Nat.le_of_ble_eq_true rfl⟩) ?_
  refine ym_iconst hx hb dX6_getValue_4 ?_
  refine ym_iadd hx hb dX6_getValue_5 ?_
  exact ym_retI hx hb hr hlocks (ym_zPI (by omega)) (fun _ h => absurd h List.not_mem_nil) dX6_getValue_6
set_option maxHeartbeats 4000000 in
set_option maxRecDepth 100000 in
/-- a month's length -/
theorem ym_monthLen (l : Launch) (n0 : Nat) (ad : Nat → Nat) (D : va_G) (mo : Int) (b : Int) (hm1 : 1 ≤ mo) (hm2 : mo ≤ 12) (hb1 : b = 0 ∨ b = 1) : Met l yX6_length (ws_ yX6_length cX6_length 2 (some .int)) ({ frames := 1, cells := 0, slots := 0, locals := 20 }) (va_Pc [.ref (ad (mo - 1).toNat), .int (ym_I b)] (ym_G (ym_w n0 ad D [] []))) (ym_Q (ym_zP (.int (ym_I (ym_lb mo b))))) 0 0 (fun _ => False) := by
  refine Met.ofW (cc := cX6_length) (maxL := 2) (ret := (some .int)) (by decide) rfl ?_
  intro p e s m args below meth c s₁ B hml hv
  obtain ⟨rfl, hkw, hK, hP⟩ := hv
  have hx := B.exec
  have hb := B.bytes
  have hr := B.returns
  have hts := atoms_spec (ws := ws_ yX6_length cX6_length 2 (some .int)) B.pre
  have hts : ∀ w ∈ lw_all, w.before _ s = true := fun w h => hts w (List.mem_cons_of_mem _ h)
  have hown : s.vm.findClass RX6 = some m.cls := findClass_of_methodNamed B.named
  have hlocks := B.notSynchronized
  have hF : CallFix p m c cX6_length 2 s _ lw_all RX6 := ⟨hx, hb, hml, hown, hts⟩
  have hl := lv_entry ([.ref (ad (mo - 1).toNat), .int (ym_I b)]) (n := 2) (Nat.le_of_ble_eq_true rfl)
  rw [lg_entry_eq]
  generalize (lg_sl ([.ref (ad (mo - 1).toNat), .int (ym_I b)]) ++ List.replicate (2 - (lg_sl ([.ref (ad (mo - 1).toNat), .int (ym_I b)])).length) Slot.unset).toArray = ls at hl ⊢
  have hl : lv_has ls 2 [(0, .ref (ad (mo - 1).toNat)), (1, .int (ym_I b))] := hl
  have hE : ym_ext s.heap s.heap := ym_ext_rf
  refine lv_aload_n hx hb dX6_length_0 rfl (lv_at hl 0 rfl) ?_
  refine ym_callP (ym_rU (C := "Month") (owner := "java/lang/Enum") (x := ({ cls := "Month", name := "ordinal", desc := "()I" } : Jvm.MethodName)) (As := []) (rest := []) hF (ym_ordinal l n0 ad D mo hm1 hm2) (va_cwU 0 hts (lw_app (lw_in _ [305, 306, 308, 309, 6] (by decide +kernel) (by decide +kernel)) (lw_meth q310)) rfl rfl rfl rfl (by decide +kernel) ⟨Nat.le_of_ble_eq_true rfl, Nat.le_of_ble_eq_true rfl⟩) ym_w_mv (ym_w_of hkw (hK.sub (tys' := []) [] rfl) ym_P0) (ym_recO (ym_km_c hkw hm1 hm2)) rfl hl.1 rfl (Nat.le_of_ble_eq_true rfl) dX6_length_1 ⟨Nat.le_of_ble_eq_true rfl, Nat.le_of_ble_eq_true rfl⟩) ?_
  have h12 : mo = 1 ∨ mo = 2 ∨ mo = 3 ∨ mo = 4 ∨ mo = 5 ∨ mo = 6 ∨ mo = 7 ∨ mo = 8 ∨ mo = 9 ∨ mo = 10 ∨ mo = 11 ∨ mo = 12 := by omega
  rcases h12 with rfl | rfl | rfl | rfl | rfl | rfl | rfl | rfl | rfl | rfl | rfl | rfl
  · refine lv_tableOut (tgt := 75) hx hb dX6_length_4 (by decide) (by decide) ?_
    refine ym_bipush 31 hx hb dX6_length_75 (by decide) ?_
    exact ym_retI hx hb hr hlocks ⟨rfl, rfl⟩ (fun _ h => absurd h List.not_mem_nil) dX6_length_77
  · refine lv_tableIn (off := 56) (tgt := 60) hx hb dX6_length_4 (by decide) (by decide) (by decide) (by decide) ?_
    refine lv_iload_n hx hb dX6_length_60 rfl (lv_at hl 1 rfl) ?_
    refine ym_if_eq (tgt := 69) hx hb ⟨by omega, by omega⟩ dX6_length_61 (by decide) (fun c_1 => ?_) (fun c_1 => ?_)
    · refine ym_bipush 28 hx hb dX6_length_69 (by decide) ?_
      exact ym_retI hx hb hr hlocks (ym_zPI (by rw [ym_lb_2]; omega)) (fun _ h => absurd h List.not_mem_nil) dX6_length_71
    · refine ym_bipush 29 hx hb dX6_length_64 (by decide) ?_
      refine lv_goto (tgt := 71) hx hb dX6_length_66 (by decide) ?_
      exact ym_retI hx hb hr hlocks (ym_zPI (by rw [ym_lb_2]; omega)) (fun _ h => absurd h List.not_mem_nil) dX6_length_71
  · refine lv_tableIn (off := 71) (tgt := 75) hx hb dX6_length_4 (by decide) (by decide) (by decide) (by decide) ?_
    refine ym_bipush 31 hx hb dX6_length_75 (by decide) ?_
    exact ym_retI hx hb hr hlocks ⟨rfl, rfl⟩ (fun _ h => absurd h List.not_mem_nil) dX6_length_77
  · refine lv_tableIn (off := 68) (tgt := 72) hx hb dX6_length_4 (by decide) (by decide) (by decide) (by decide) ?_
    refine ym_bipush 30 hx hb dX6_length_72 (by decide) ?_
    exact ym_retI hx hb hr hlocks ⟨rfl, rfl⟩ (fun _ h => absurd h List.not_mem_nil) dX6_length_74
  · refine lv_tableIn (off := 71) (tgt := 75) hx hb dX6_length_4 (by decide) (by decide) (by decide) (by decide) ?_
    refine ym_bipush 31 hx hb dX6_length_75 (by decide) ?_
    exact ym_retI hx hb hr hlocks ⟨rfl, rfl⟩ (fun _ h => absurd h List.not_mem_nil) dX6_length_77
  · refine lv_tableIn (off := 68) (tgt := 72) hx hb dX6_length_4 (by decide) (by decide) (by decide) (by decide) ?_
    refine ym_bipush 30 hx hb dX6_length_72 (by decide) ?_
    exact ym_retI hx hb hr hlocks ⟨rfl, rfl⟩ (fun _ h => absurd h List.not_mem_nil) dX6_length_74
  · refine lv_tableIn (off := 71) (tgt := 75) hx hb dX6_length_4 (by decide) (by decide) (by decide) (by decide) ?_
    refine ym_bipush 31 hx hb dX6_length_75 (by decide) ?_
    exact ym_retI hx hb hr hlocks ⟨rfl, rfl⟩ (fun _ h => absurd h List.not_mem_nil) dX6_length_77
  · refine lv_tableIn (off := 71) (tgt := 75) hx hb dX6_length_4 (by decide) (by decide) (by decide) (by decide) ?_
    refine ym_bipush 31 hx hb dX6_length_75 (by decide) ?_
    exact ym_retI hx hb hr hlocks ⟨rfl, rfl⟩ (fun _ h => absurd h List.not_mem_nil) dX6_length_77
  · refine lv_tableIn (off := 68) (tgt := 72) hx hb dX6_length_4 (by decide) (by decide) (by decide) (by decide) ?_
    refine ym_bipush 30 hx hb dX6_length_72 (by decide) ?_
    exact ym_retI hx hb hr hlocks ⟨rfl, rfl⟩ (fun _ h => absurd h List.not_mem_nil) dX6_length_74
  · refine lv_tableIn (off := 71) (tgt := 75) hx hb dX6_length_4 (by decide) (by decide) (by decide) (by decide) ?_
    refine ym_bipush 31 hx hb dX6_length_75 (by decide) ?_
    exact ym_retI hx hb hr hlocks ⟨rfl, rfl⟩ (fun _ h => absurd h List.not_mem_nil) dX6_length_77
  · refine lv_tableIn (off := 68) (tgt := 72) hx hb dX6_length_4 (by decide) (by decide) (by decide) (by decide) ?_
    refine ym_bipush 30 hx hb dX6_length_72 (by decide) ?_
    exact ym_retI hx hb hr hlocks ⟨rfl, rfl⟩ (fun _ h => absurd h List.not_mem_nil) dX6_length_74
  · refine lv_tableOut (tgt := 75) hx hb dX6_length_4 (by decide) (by decide) ?_
    refine ym_bipush 31 hx hb dX6_length_75 (by decide) ?_
    exact ym_retI hx hb hr hlocks ⟨rfl, rfl⟩ (fun _ h => absurd h List.not_mem_nil) dX6_length_77
end
section
set_option maxHeartbeats 4000000 in
set_option maxRecDepth 100000 in
/-- an empty constructor -/
theorem ym_init2 (l : Launch) (n0 : Nat) (ad : Nat → Nat) (D : va_G) (h0 : Nat) : Met l yX2_init (ws_ yX2_init cX2_init 1 none) ({ frames := 1, cells := 0, slots := 0, locals := 12 }) (va_Pc [.ref h0] (ym_G (ym_w n0 ad D [] []))) (ym_Q (ym_zV)) 0 0 (fun _ => False) := by
  refine Met.ofW (cc := cX2_init) (maxL := 1) (ret := none) (by decide) rfl ?_
  intro p e s m args below meth c s₁ B hml hv
  obtain ⟨rfl, hkw, hK, hP⟩ := hv
  have hx := B.exec
  have hb := B.bytes
  have hr := B.returns
  have hts := atoms_spec (ws := ws_ yX2_init cX2_init 1 none) B.pre
  have hts : ∀ w ∈ lw_all, w.before _ s = true := fun w h => hts w (List.mem_cons_of_mem _ h)
  have hown : s.vm.findClass RX2 = some m.cls := findClass_of_methodNamed B.named
  have hlocks := B.notSynchronized
  have hin : meth.name = "<init>" := (name_of_methodNamed B.named B.method).1
  have hF : CallFix p m c cX2_init 1 s _ lw_all RX2 := ⟨hx, hb, hml, hown, hts⟩
  have hl := lv_entry ([.ref h0]) (n := 1) (Nat.le_of_ble_eq_true rfl)
  rw [lg_entry_eq]
  generalize (lg_sl ([.ref h0]) ++ List.replicate (1 - (lg_sl ([.ref h0])).length) Slot.unset).toArray = ls at hl ⊢
  have hl : lv_has ls 1 [(0, .ref h0)] := hl
  have hE : ym_ext s.heap s.heap := ym_ext_rf
  refine lv_aload_n hx hb dX2_init_0 rfl (lv_at hl 0 rfl) ?_
  refine W.objInit hx hb hown (hts _ q134) (hts _ q25) (hts _ q26) rfl (by rw [hml]; exact hl.1) rfl dX2_init_1 (Nat.le_of_ble_eq_true rfl) (Nat.le_of_ble_eq_true rfl) ?_
  refine W.eq (g2 := F0 m 4 ls []) rfl ?_
  exact ym_retV hx hb hr hlocks ⟨rfl, rfl⟩ (fun _ h => absurd h List.not_mem_nil) dX2_init_4
set_option maxHeartbeats 4000000 in
set_option maxRecDepth 100000 in
/-- an empty constructor -/
theorem ym_init8 (l : Launch) (n0 : Nat) (ad : Nat → Nat) (D : va_G) (h0 : Nat) : Met l yX8_init (ws_ yX8_init cX8_init 1 none) ({ frames := 2, cells := 0, slots := 0, locals := 32 }) (va_Pc [.ref h0] (ym_G (ym_w n0 ad D [] []))) (ym_Q (ym_zV)) 0 0 (fun _ => False) := by
  refine Met.ofW (cc := cX8_init) (maxL := 1) (ret := none) (by decide) rfl ?_
  intro p e s m args below meth c s₁ B hml hv
  obtain ⟨rfl, hkw, hK, hP⟩ := hv
  have hx := B.exec
  have hb := B.bytes
  have hr := B.returns
  have hts := atoms_spec (ws := ws_ yX8_init cX8_init 1 none) B.pre
  have hts : ∀ w ∈ lw_all, w.before _ s = true := fun w h => hts w (List.mem_cons_of_mem _ h)
  have hown : s.vm.findClass RX8 = some m.cls := findClass_of_methodNamed B.named
  have hlocks := B.notSynchronized
  have hin : meth.name = "<init>" := (name_of_methodNamed B.named B.method).1
  have hF : CallFix p m c cX8_init 1 s _ lw_all RX8 := ⟨hx, hb, hml, hown, hts⟩
  have hl := lv_entry ([.ref h0]) (n := 1) (Nat.le_of_ble_eq_true rfl)
  rw [lg_entry_eq]
  generalize (lg_sl ([.ref h0]) ++ List.replicate (1 - (lg_sl ([.ref h0])).length) Slot.unset).toArray = ls at hl ⊢
  have hl : lv_has ls 1 [(0, .ref h0)] := hl
  have hE : ym_ext s.heap s.heap := ym_ext_rf
  refine lv_aload_n hx hb dX8_init_0 rfl (lv_at hl 0 rfl) ?_
  refine ym_callV0 (ym_rI (As := []) (rest := []) hF (ym_init2 l n0 ad D h0) (cwI 0 hts (lw_meth q133) rfl rfl rfl (hts _ q4) (hts _ q365) (hts _ q132) rfl (by decide +kernel) ⟨Nat.le_of_ble_eq_true rfl, Nat.le_of_ble_eq_true rfl⟩) ym_w_mv (ym_w_of hkw (hK.sub (tys' := []) [] rfl) ym_P0) rfl hl.1 rfl (Nat.le_of_ble_eq_true rfl) dX8_init_1 ⟨Nat.le_of_ble_eq_true rfl, Nat.le_of_ble_eq_true rfl⟩) ?_
  exact ym_retV hx hb hr hlocks ⟨rfl, rfl⟩ (fun _ h => absurd h List.not_mem_nil) dX8_init_4
set_option maxHeartbeats 4000000 in
set_option maxRecDepth 100000 in
/-- an empty constructor -/
theorem ym_init9 (l : Launch) (n0 : Nat) (ad : Nat → Nat) (D : va_G) (h0 : Nat) : Met l yX9_init (ws_ yX9_init cX9_init 1 none) ({ frames := 3, cells := 0, slots := 0, locals := 52 }) (va_Pc [.ref h0] (ym_G (ym_w n0 ad D [] []))) (ym_Q (ym_zV)) 0 0 (fun _ => False) := by
  refine Met.ofW (cc := cX9_init) (maxL := 1) (ret := none) (by decide) rfl ?_
  intro p e s m args below meth c s₁ B hml hv
  obtain ⟨rfl, hkw, hK, hP⟩ := hv
  have hx := B.exec
  have hb := B.bytes
  have hr := B.returns
  have hts := atoms_spec (ws := ws_ yX9_init cX9_init 1 none) B.pre
  have hts : ∀ w ∈ lw_all, w.before _ s = true := fun w h => hts w (List.mem_cons_of_mem _ h)
  have hown : s.vm.findClass RX9 = some m.cls := findClass_of_methodNamed B.named
  have hlocks := B.notSynchronized
  have hin : meth.name = "<init>" := (name_of_methodNamed B.named B.method).1
  have hF : CallFix p m c cX9_init 1 s _ lw_all RX9 := ⟨hx, hb, hml, hown, hts⟩
  have hl := lv_entry ([.ref h0]) (n := 1) (Nat.le_of_ble_eq_true rfl)
  rw [lg_entry_eq]
  generalize (lg_sl ([.ref h0]) ++ List.replicate (1 - (lg_sl ([.ref h0])).length) Slot.unset).toArray = ls at hl ⊢
  have hl : lv_has ls 1 [(0, .ref h0)] := hl
  have hE : ym_ext s.heap s.heap := ym_ext_rf
  refine lv_aload_n hx hb dX9_init_0 rfl (lv_at hl 0 rfl) ?_
  refine ym_callV0 (ym_rI (As := []) (rest := []) hF (ym_init8 l n0 ad D h0) (cwI 0 hts (lw_meth q364) rfl rfl rfl (hts _ q15) (hts _ q362) (hts _ q363) rfl (by decide +kernel) ⟨Nat.le_of_ble_eq_true rfl, Nat.le_of_ble_eq_true rfl⟩) ym_w_mv (ym_w_of hkw (hK.sub (tys' := []) [] rfl) ym_P0) rfl hl.1 rfl (Nat.le_of_ble_eq_true rfl) dX9_init_1 ⟨Nat.le_of_ble_eq_true rfl, Nat.le_of_ble_eq_true rfl⟩) ?_
  exact ym_retV hx hb hr hlocks ⟨rfl, rfl⟩ (fun _ h => absurd h List.not_mem_nil) dX9_init_4
set_option maxHeartbeats 4000000 in
set_option maxRecDepth 100000 in
/-- LocalDate(y, mo, dd) fills its object -/
theorem ym_initLD (l : Launch) (n0 : Nat) (ad : Nat → Nat) (D : va_G) (h0 : Nat) (y : Int) (mo : Int) (dd : Int) (hm1 : 1 ≤ mo) (hm2 : mo ≤ 12) (hd1 : 1 ≤ dd) (hd2 : dd ≤ 31) : Met l yX10_init (ws_ yX10_init cX10_init 4 none) ({ frames := 4, cells := 0, slots := 0, locals := 72 }) (va_Pc [.ref h0, .int (ym_I y), .int (ym_I mo), .int (ym_I dd)] (ym_G (ym_w n0 ad D [] [(h0, .inr (2, [.int 0, .int 0, .int 0]))]))) (ym_Q (ym_zF D h0 2 [.int (ym_I y), .int (ym_I mo), .int (ym_I dd)])) 0 0 (fun q => q = h0) := by
  refine Met.ofW (cc := cX10_init) (maxL := 4) (ret := none) (by decide) rfl ?_
  intro p e s m args below meth c s₁ B hml hv
  obtain ⟨rfl, hkw, hK, hP⟩ := hv
  have hx := B.exec
  have hb := B.bytes
  have hr := B.returns
  have hts := atoms_spec (ws := ws_ yX10_init cX10_init 4 none) B.pre
  have hts : ∀ w ∈ lw_all, w.before _ s = true := fun w h => hts w (List.mem_cons_of_mem _ h)
  have hown : s.vm.findClass RX10 = some m.cls := findClass_of_methodNamed B.named
  have hlocks := B.notSynchronized
  have hin : meth.name = "<init>" := (name_of_methodNamed B.named B.method).1
  have hF : CallFix p m c cX10_init 4 s _ lw_all RX10 := ⟨hx, hb, hml, hown, hts⟩
  have hl := lv_entry ([.ref h0, .int (ym_I y), .int (ym_I mo), .int (ym_I dd)]) (n := 4) (Nat.le_of_ble_eq_true rfl)
  rw [lg_entry_eq]
  generalize (lg_sl ([.ref h0, .int (ym_I y), .int (ym_I mo), .int (ym_I dd)]) ++ List.replicate (4 - (lg_sl ([.ref h0, .int (ym_I y), .int (ym_I mo), .int (ym_I dd)])).length) Slot.unset).toArray = ls at hl ⊢
  have hl : lv_has ls 4 [(0, .ref h0), (1, .int (ym_I y)), (2, .int (ym_I mo)), (3, .int (ym_I dd))] := hl
  have hE : ym_ext s.heap s.heap := ym_ext_rf
  have hPh0 := hP.sub (ws' := [(h0, .inr (2, [.int 0, .int 0, .int 0]))]) [0] rfl
  refine lv_aload_n hx hb dX10_init_0 rfl (lv_at hl 0 rfl) ?_
  refine ym_callV0 (ym_rI (As := []) (rest := []) hF (ym_init9 l n0 ad D h0) (cwI 0 hts (lw_meth q361) rfl rfl rfl (hts _ q16) (hts _ q359) (hts _ q360) rfl (by decide +kernel) ⟨Nat.le_of_ble_eq_true rfl, Nat.le_of_ble_eq_true rfl⟩) ym_w_mv (ym_w_of hkw (hK.sub (tys' := []) [] rfl) ym_P0) rfl hl.1 rfl (Nat.le_of_ble_eq_true rfl) dX10_init_1 ⟨Nat.le_of_ble_eq_true rfl, Nat.le_of_ble_eq_true rfl⟩) ?_
  refine lv_aload_n hx hb dX10_init_4 rfl (lv_at hl 0 rfl) ?_
  refine lv_iload_n hx hb dX10_init_5 rfl (lv_at hl 1 rfl) ?_
  refine ym_putF (C := RX10) (T := TX10) (N := 3) (ci := 2) (ty := .int) hx hb hts in_X10 tyX10 tyX10_ok nmX10 hown hK hPh0 rfl 0 (by decide) (hts _ q366) (fun _ h9 => h9) rfl hin rfl (by decide +kernel) rfl rfl (Nat.le_of_ble_eq_true rfl) dX10_init_6 (fun H_1 x_2 hP_3 hz_4 hk_5 => ?_)
  have hP_3 : va_P D vwCl [(h0, .inr (2, [.int (ym_I y), .int 0, .int 0]))] H_1 := hP_3
  refine lv_aload_n hx hb dX10_init_9 rfl (lv_at hl 0 rfl) ?_
  refine lv_iload_n hx hb dX10_init_10 rfl (lv_at hl 2 rfl) ?_
  refine ym_Wi2s hx hb (by omega) (by omega) dX10_init_11 ?_
  refine ym_putF (C := RX10) (T := TX10) (N := 3) (ci := 2) (ty := .short) hx hb hts in_X10 tyX10 tyX10_ok nmX10 hown hK hP_3 rfl 1 (by decide) (hts _ q367) (fun _ h9 => h9) rfl hin rfl (by decide +kernel) (ym_narS (by omega) (by omega)) (ym_fitS (by omega) (by omega)) (Nat.le_of_ble_eq_true rfl) dX10_init_12 (fun H_6 x_7 hP_8 hz_9 hk_10 => ?_)
  have hP_8 : va_P D vwCl [(h0, .inr (2, [.int (ym_I y), .int (ym_I mo), .int 0]))] H_6 := hP_8
  refine lv_aload_n hx hb dX10_init_15 rfl (lv_at hl 0 rfl) ?_
  refine lv_iload_n hx hb dX10_init_16 rfl (lv_at hl 3 rfl) ?_
  refine ym_Wi2s hx hb (by omega) (by omega) dX10_init_17 ?_
  refine ym_putF (C := RX10) (T := TX10) (N := 3) (ci := 2) (ty := .short) hx hb hts in_X10 tyX10 tyX10_ok nmX10 hown hK hP_8 rfl 2 (by decide) (hts _ q368) (fun _ h9 => h9) rfl hin rfl (by decide +kernel) (ym_narS (by omega) (by omega)) (ym_fitS (by omega) (by omega)) (Nat.le_of_ble_eq_true rfl) dX10_init_18 (fun H_11 x_12 hP_13 hz_14 hk_15 => ?_)
  have hP_13 : va_P D vwCl [(h0, .inr (2, [.int (ym_I y), .int (ym_I mo), .int (ym_I dd)]))] H_11 := hP_13
  exact ym_retV hx hb hr hlocks ⟨rfl, hP_13, (hz_14.trans hz_9).trans hz_4, fun q _ hq => ((hk_15 q hq).trans (hk_10 q hq)).trans (hk_5 q hq)⟩ (fun q h => by simp at h; rcases h with h | h | h <;> rw [h]) dX10_init_21
set_option maxHeartbeats 4000000 in
set_option maxRecDepth 100000 in
/-- LocalDate.create: a new date -/
theorem ym_createLD (l : Launch) (n0 : Nat) (ad : Nat → Nat) (D : va_G) (y : Int) (mo : Int) (dd : Int) (hy1 : -6000000 ≤ y) (hy2 : y ≤ 6000000) (hm1 : 1 ≤ mo) (hm2 : mo ≤ 12) (hd1 : 1 ≤ dd) (hd2 : dd ≤ ym_ln y mo) : Met l yX10_create (ws_ yX10_create cX10_create 3 (some (.object "LocalDate"))) ({ frames := 5, cells := 1, slots := 3, locals := 95 }) (va_Pc [.int (ym_I y), .ref (ad (mo - 1).toNat), .int (ym_I dd)] (ym_G (ym_w n0 ad D [] []))) (ym_Q (ym_zN D 2 [.int (ym_I y), .int (ym_I mo), .int (ym_I dd)] (fun _ => False))) 1 3 (fun _ => False) := by
  refine Met.ofW (cc := cX10_create) (maxL := 3) (ret := (some (.object "LocalDate"))) (by decide) rfl ?_
  intro p e s m args below meth c s₁ B hml hv
  obtain ⟨rfl, hkw, hK, hP⟩ := hv
  have hx := B.exec
  have hb := B.bytes
  have hr := B.returns
  have hts := atoms_spec (ws := ws_ yX10_create cX10_create 3 (some (.object "LocalDate"))) B.pre
  have hts : ∀ w ∈ lw_all, w.before _ s = true := fun w h => hts w (List.mem_cons_of_mem _ h)
  have hown : s.vm.findClass RX10 = some m.cls := findClass_of_methodNamed B.named
  have hlocks := B.notSynchronized
  have hF : CallFix p m c cX10_create 3 s _ lw_all RX10 := ⟨hx, hb, hml, hown, hts⟩
  have hl := lv_entry ([.int (ym_I y), .ref (ad (mo - 1).toNat), .int (ym_I dd)]) (n := 3) (Nat.le_of_ble_eq_true rfl)
  rw [lg_entry_eq]
  generalize (lg_sl ([.int (ym_I y), .ref (ad (mo - 1).toNat), .int (ym_I dd)]) ++ List.replicate (3 - (lg_sl ([.int (ym_I y), .ref (ad (mo - 1).toNat), .int (ym_I dd)])).length) Slot.unset).toArray = ls at hl ⊢
  have hl : lv_has ls 3 [(0, .int (ym_I y)), (1, .ref (ad (mo - 1).toNat)), (2, .int (ym_I dd))] := hl
  have hE : ym_ext s.heap s.heap := ym_ext_rf
  have r1 := ym_ln_ran y mo
  have r2 := ym_lp_01 y
  refine lv_iload_n hx hb dX10_create_0 rfl (lv_at hl 2 rfl) ?_
  refine ym_bipush 28 hx hb dX10_create_1 (by decide) ?_
  refine ym_icmp_le (tgt := 48) hx hb ⟨by omega, by omega⟩ ⟨by omega, by omega⟩ dX10_create_3 (by decide) (fun c_1 => ?_) (fun c_1 => ?_)
  · refine ym_new (ci := 2) (fs := [.int 0, .int 0, .int 0]) (C := RX10) (T := TX10) (N := 3) hx hb hts in_X10 tyX10 tyX10_ok hown (hts _ q350) (hts _ q351) (hts _ q17) hK rfl (ym_fs3) (Nat.le_of_ble_eq_true rfl) (Nat.le_of_ble_eq_true rfl) dX10_create_48 (fun q_2 H_3 hq_4 hE_5 hPn_6 => ?_)
    have hkw0 := hkw
    have hkw := ym_ext_kw hE_5 hkw
    have hq_4_l : s.heap.size ≤ q_2 := by rw [hq_4]; exact hE.1
    refine lv_dup hx hb dX10_create_51 rfl ?_
    refine lv_iload_n hx hb dX10_create_52 rfl (lv_at hl 0 rfl) ?_
    refine lv_aload_n hx hb dX10_create_53 rfl (lv_at hl 1 rfl) ?_
    refine ym_callP (ym_rV (C := RX6) (As := []) (rest := [.int (ym_I y), .ref q_2, .ref q_2]) hF (ym_getValue l n0 ad D mo hm1 hm2) (cwV 0 hts (lw_V q352 q353 q354 q12 q355) rfl rfl rfl (by decide +kernel) ⟨Nat.le_of_ble_eq_true rfl, Nat.le_of_ble_eq_true rfl⟩) ym_w_mv (ym_w_of hkw (hK.sub (tys' := []) [] rfl) ym_P0) (ym_recO (ym_km_c hkw hm1 hm2)) rfl hl.1 rfl (Nat.le_of_ble_eq_true rfl) dX10_create_54 ⟨Nat.le_of_ble_eq_true rfl, Nat.le_of_ble_eq_true rfl⟩) ?_
    refine lv_iload_n hx hb dX10_create_57 rfl (lv_at hl 2 rfl) ?_
    refine ym_callZ (ym_rI (As := [.int (ym_I y), .int (ym_I mo), .int (ym_I dd)]) (rest := [.ref q_2]) hF (ym_initLD l n0 ad D q_2 y mo dd hm1 hm2 hd1 (by omega)) (cwI 3 hts (lw_meth q358) rfl rfl rfl (hts _ q17) (hts _ q356) (hts _ q357) rfl (by decide +kernel) ⟨Nat.le_of_ble_eq_true rfl, Nat.le_of_ble_eq_true rfl⟩) ym_w_mv (ym_w_of hkw (hK.sub (tys' := []) [] rfl) hPn_6) rfl hl.1 rfl (Nat.le_of_ble_eq_true rfl) dX10_create_58 ⟨Nat.le_of_ble_eq_true rfl, Nat.le_of_ble_eq_true rfl⟩) (fun x h => Nat.le_trans hq_4_l (Nat.le_of_eq (Eq.symm h))) (fun v H_7 hz => ?_)
    obtain ⟨rfl, hPf_8, hz_9, hk_10⟩ := hz
    have hE_11 := ym_init_ext hq_4 hE_5 hz_9 hk_10
    have hkw := hkw0
    have hkw := ym_ext_kw hE_11 hkw
    have hE_12 := ym_ext_tr hE hE_11
    refine W.eq (g2 := F0 m 61 ls [.ref q_2]) rfl ?_
    exact ym_retA hx hb hr hlocks ⟨_, rfl, hPf_8, Or.inr hq_4_l, hE_12⟩ (fun _ h => absurd h List.not_mem_nil) dX10_create_61
  · refine lv_iload_n hx hb dX10_create_6 rfl (lv_at hl 2 rfl) ?_
    refine lv_aload_n hx hb dX10_create_7 rfl (lv_at hl 1 rfl) ?_
    refine ym_gets hx hb hown hkw.2.2.1 (hts _ q344) (fun _ h9 => h9) dX10_create_8 ?_
    refine lv_iload_n hx hb dX10_create_11 rfl (lv_at hl 0 rfl) ?_
    refine ym_Wi2l hx hb ⟨by omega, by omega⟩ dX10_create_12 ?_
    refine ym_callP (ym_rV (C := RX7) (As := [.long (ym_L y)]) (rest := [.ref (ad (mo - 1).toNat), .int (ym_I dd)]) hF (ym_isoLeap l n0 ad D (ad 18) y hy1 hy2) (cwV 1 hts (lw_V q345 q295 q296 q14 q297) rfl rfl rfl (by decide +kernel) ⟨Nat.le_of_ble_eq_true rfl, Nat.le_of_ble_eq_true rfl⟩) ym_w_mv (ym_w_of hkw (hK.sub (tys' := []) [] rfl) ym_P0) (ym_recO hkw.2.2.2.1) rfl hl.1 rfl (Nat.le_of_ble_eq_true rfl) dX10_create_13 ⟨Nat.le_of_ble_eq_true rfl, Nat.le_of_ble_eq_true rfl⟩) ?_
    refine ym_callP (ym_rV (C := RX6) (As := [.int (ym_I (ym_lp y))]) (rest := [.int (ym_I dd)]) hF (ym_monthLen l n0 ad D mo (ym_lp y) hm1 hm2 r2) (cwV 1 hts (lw_V q346 q302 q303 q12 q304) rfl rfl rfl (by decide +kernel) ⟨Nat.le_of_ble_eq_true rfl, Nat.le_of_ble_eq_true rfl⟩) ym_w_mv (ym_w_of hkw (hK.sub (tys' := []) [] rfl) ym_P0) (ym_recO (ym_km_c hkw hm1 hm2)) rfl hl.1 rfl (Nat.le_of_ble_eq_true rfl) dX10_create_16 ⟨Nat.le_of_ble_eq_true rfl, Nat.le_of_ble_eq_true rfl⟩) ?_
    refine ym_icmp_le (tgt := 48) hx hb ⟨by omega, by omega⟩ ⟨by unfold ym_ln at r1; omega, by unfold ym_ln at r1; omega⟩ dX10_create_19 (by decide) (fun c_13 => ?_) (fun c_13 => ?_)
    · refine ym_new (ci := 2) (fs := [.int 0, .int 0, .int 0]) (C := RX10) (T := TX10) (N := 3) hx hb hts in_X10 tyX10 tyX10_ok hown (hts _ q350) (hts _ q351) (hts _ q17) hK rfl (ym_fs3) (Nat.le_of_ble_eq_true rfl) (Nat.le_of_ble_eq_true rfl) dX10_create_48 (fun q_14 H_15 hq_16 hE_17 hPn_18 => ?_)
      have hkw0 := hkw
      have hkw := ym_ext_kw hE_17 hkw
      have hq_16_l : s.heap.size ≤ q_14 := by rw [hq_16]; exact hE.1
      refine lv_dup hx hb dX10_create_51 rfl ?_
      refine lv_iload_n hx hb dX10_create_52 rfl (lv_at hl 0 rfl) ?_
      refine lv_aload_n hx hb dX10_create_53 rfl (lv_at hl 1 rfl) ?_
      refine ym_callP (ym_rV (C := RX6) (As := []) (rest := [.int (ym_I y), .ref q_14, .ref q_14]) hF (ym_getValue l n0 ad D mo hm1 hm2) (cwV 0 hts (lw_V q352 q353 q354 q12 q355) rfl rfl rfl (by decide +kernel) ⟨Nat.le_of_ble_eq_true rfl, Nat.le_of_ble_eq_true rfl⟩) ym_w_mv (ym_w_of hkw (hK.sub (tys' := []) [] rfl) ym_P0) (ym_recO (ym_km_c hkw hm1 hm2)) rfl hl.1 rfl (Nat.le_of_ble_eq_true rfl) dX10_create_54 ⟨Nat.le_of_ble_eq_true rfl, Nat.le_of_ble_eq_true rfl⟩) ?_
      refine lv_iload_n hx hb dX10_create_57 rfl (lv_at hl 2 rfl) ?_
      refine ym_callZ (ym_rI (As := [.int (ym_I y), .int (ym_I mo), .int (ym_I dd)]) (rest := [.ref q_14]) hF (ym_initLD l n0 ad D q_14 y mo dd hm1 hm2 hd1 (by omega)) (cwI 3 hts (lw_meth q358) rfl rfl rfl (hts _ q17) (hts _ q356) (hts _ q357) rfl (by decide +kernel) ⟨Nat.le_of_ble_eq_true rfl, Nat.le_of_ble_eq_true rfl⟩) ym_w_mv (ym_w_of hkw (hK.sub (tys' := []) [] rfl) hPn_18) rfl hl.1 rfl (Nat.le_of_ble_eq_true rfl) dX10_create_58 ⟨Nat.le_of_ble_eq_true rfl, Nat.le_of_ble_eq_true rfl⟩) (fun x h => Nat.le_trans hq_16_l (Nat.le_of_eq (Eq.symm h))) (fun v H_19 hz => ?_)
      obtain ⟨rfl, hPf_20, hz_21, hk_22⟩ := hz
      have hE_23 := ym_init_ext hq_16 hE_17 hz_21 hk_22
      have hkw := hkw0
      have hkw := ym_ext_kw hE_23 hkw
      have hE_24 := ym_ext_tr hE hE_23
      refine W.eq (g2 := F0 m 61 ls [.ref q_14]) rfl ?_
      exact ym_retA hx hb hr hlocks ⟨_, rfl, hPf_20, Or.inr hq_16_l, hE_24⟩ (fun _ h => absurd h List.not_mem_nil) dX10_create_61
    · exact absurd c_13 (by unfold ym_ln at hd2 r1; omega)
set_option maxHeartbeats 4000000 in
set_option maxRecDepth 100000 in
/-- LocalDate.of: a new date -/
theorem ym_ofLD (l : Launch) (n0 : Nat) (ad : Nat → Nat) (D : va_G) (y : Int) (mo : Int) (dd : Int) (hy1 : -6000000 ≤ y) (hy2 : y ≤ 6000000) (hm1 : 1 ≤ mo) (hm2 : mo ≤ 12) (hd1 : 1 ≤ dd) (hd2 : dd ≤ ym_ln y mo) : Met l yX10_of (ws_ yX10_of cX10_of 3 (some (.object "LocalDate"))) ({ frames := 6, cells := 1, slots := 3, locals := 117 }) (va_Pc [.int (ym_I y), .int (ym_I mo), .int (ym_I dd)] (ym_G (ym_w n0 ad D [] []))) (ym_Q (ym_zN D 2 [.int (ym_I y), .int (ym_I mo), .int (ym_I dd)] (fun _ => False))) 1 3 (fun _ => False) := by
  refine Met.ofW (cc := cX10_of) (maxL := 3) (ret := (some (.object "LocalDate"))) (by decide) rfl ?_
  intro p e s m args below meth c s₁ B hml hv
  obtain ⟨rfl, hkw, hK, hP⟩ := hv
  have hx := B.exec
  have hb := B.bytes
  have hr := B.returns
  have hts := atoms_spec (ws := ws_ yX10_of cX10_of 3 (some (.object "LocalDate"))) B.pre
  have hts : ∀ w ∈ lw_all, w.before _ s = true := fun w h => hts w (List.mem_cons_of_mem _ h)
  have hown : s.vm.findClass RX10 = some m.cls := findClass_of_methodNamed B.named
  have hlocks := B.notSynchronized
  have hF : CallFix p m c cX10_of 3 s _ lw_all RX10 := ⟨hx, hb, hml, hown, hts⟩
  have hl := lv_entry ([.int (ym_I y), .int (ym_I mo), .int (ym_I dd)]) (n := 3) (Nat.le_of_ble_eq_true rfl)
  rw [lg_entry_eq]
  generalize (lg_sl ([.int (ym_I y), .int (ym_I mo), .int (ym_I dd)]) ++ List.replicate (3 - (lg_sl ([.int (ym_I y), .int (ym_I mo), .int (ym_I dd)])).length) Slot.unset).toArray = ls at hl ⊢
  have hl : lv_has ls 3 [(0, .int (ym_I y)), (1, .int (ym_I mo)), (2, .int (ym_I dd))] := hl
  have hE : ym_ext s.heap s.heap := ym_ext_rf
  have r1 := ym_ln_ran y mo
  refine ym_gets hx hb hown (hkw.1 0 (by decide)).1 (hts _ q335) (fun _ h9 => h9) dX10_of_0 ?_
  refine lv_iload_n hx hb dX10_of_3 rfl (lv_at hl 0 rfl) ?_
  refine ym_Wi2l hx hb ⟨by omega, by omega⟩ dX10_of_4 ?_
  refine ym_callP (ym_rV (C := RX4) (As := [.long (ym_L y)]) (rest := []) hF (ym_check l n0 ad D 0 y (by decide) (show (-999999999 : Int) ≤ y by omega) (show y ≤ (999999999 : Int) by omega)) (cwV 1 hts (lw_V q336 q35 q36 q7 q37) rfl rfl rfl (by decide +kernel) ⟨Nat.le_of_ble_eq_true rfl, Nat.le_of_ble_eq_true rfl⟩) ym_w_mv (ym_w_of hkw (hK.sub (tys' := []) [] rfl) ym_P0) (ym_recO (hkw.1 0 (by decide)).2.1) rfl hl.1 rfl (Nat.le_of_ble_eq_true rfl) dX10_of_5 ⟨Nat.le_of_ble_eq_true rfl, Nat.le_of_ble_eq_true rfl⟩) ?_
  refine lv_pop2_2 hx hb dX10_of_8 rfl ?_
  refine ym_gets hx hb hown (hkw.1 1 (by decide)).1 (hts _ q337) (fun _ h9 => h9) dX10_of_9 ?_
  refine lv_iload_n hx hb dX10_of_12 rfl (lv_at hl 1 rfl) ?_
  refine ym_Wi2l hx hb ⟨by omega, by omega⟩ dX10_of_13 ?_
  refine ym_callP (ym_rV (C := RX4) (As := [.long (ym_L mo)]) (rest := []) hF (ym_check l n0 ad D 1 mo (by decide) (show (1 : Int) ≤ mo by omega) (show mo ≤ (12 : Int) by omega)) (cwV 1 hts (lw_V q336 q35 q36 q7 q37) rfl rfl rfl (by decide +kernel) ⟨Nat.le_of_ble_eq_true rfl, Nat.le_of_ble_eq_true rfl⟩) ym_w_mv (ym_w_of hkw (hK.sub (tys' := []) [] rfl) ym_P0) (ym_recO (hkw.1 1 (by decide)).2.1) rfl hl.1 rfl (Nat.le_of_ble_eq_true rfl) dX10_of_14 ⟨Nat.le_of_ble_eq_true rfl, Nat.le_of_ble_eq_true rfl⟩) ?_
  refine lv_pop2_2 hx hb dX10_of_17 rfl ?_
  refine ym_gets hx hb hown (hkw.1 2 (by decide)).1 (hts _ q338) (fun _ h9 => h9) dX10_of_18 ?_
  refine lv_iload_n hx hb dX10_of_21 rfl (lv_at hl 2 rfl) ?_
  refine ym_Wi2l hx hb ⟨by omega, by omega⟩ dX10_of_22 ?_
  refine ym_callP (ym_rV (C := RX4) (As := [.long (ym_L dd)]) (rest := []) hF (ym_check l n0 ad D 2 dd (by decide) (show (1 : Int) ≤ dd by omega) (show dd ≤ (31 : Int) by omega)) (cwV 1 hts (lw_V q336 q35 q36 q7 q37) rfl rfl rfl (by decide +kernel) ⟨Nat.le_of_ble_eq_true rfl, Nat.le_of_ble_eq_true rfl⟩) ym_w_mv (ym_w_of hkw (hK.sub (tys' := []) [] rfl) ym_P0) (ym_recO (hkw.1 2 (by decide)).2.1) rfl hl.1 rfl (Nat.le_of_ble_eq_true rfl) dX10_of_23 ⟨Nat.le_of_ble_eq_true rfl, Nat.le_of_ble_eq_true rfl⟩) ?_
  refine lv_pop2_2 hx hb dX10_of_26 rfl ?_
  refine lv_iload_n hx hb dX10_of_27 rfl (lv_at hl 0 rfl) ?_
  refine lv_iload_n hx hb dX10_of_28 rfl (lv_at hl 1 rfl) ?_
  refine ym_callP (ym_rS (As := [.int (ym_I mo)]) (rest := [.int (ym_I y)]) hF (ym_monthOf l n0 ad D mo hm1 hm2) (va_cwS 1 hts (lw_S q340 q281 q12 q282) rfl rfl rfl (by decide +kernel) ⟨Nat.le_of_ble_eq_true rfl, Nat.le_of_ble_eq_true rfl⟩) ym_w_mv (ym_w_of hkw (hK.sub (tys' := []) [] rfl) ym_P0) rfl hl.1 rfl (Nat.le_of_ble_eq_true rfl) dX10_of_29 ⟨Nat.le_of_ble_eq_true rfl, Nat.le_of_ble_eq_true rfl⟩) ?_
  refine lv_iload_n hx hb dX10_of_32 rfl (lv_at hl 2 rfl) ?_
  refine ym_callZ (ym_rS (As := [.int (ym_I y), .ref (ad (mo - 1).toNat), .int (ym_I dd)]) (rest := []) hF (ym_createLD l n0 ad D y mo dd hy1 hy2 hm1 hm2 hd1 hd2) (va_cwS 3 hts (lw_S q341 q342 q17 q343) rfl rfl rfl (by decide +kernel) ⟨Nat.le_of_ble_eq_true rfl, Nat.le_of_ble_eq_true rfl⟩) ym_w_mv (ym_w_of hkw (hK.sub (tys' := []) [] rfl) ym_P0) rfl hl.1 rfl (Nat.le_of_ble_eq_true rfl) dX10_of_33 ⟨Nat.le_of_ble_eq_true rfl, Nat.le_of_ble_eq_true rfl⟩) (fun _ h => h.elim) (fun v H_1 hz => ?_)
  obtain ⟨a_3, rfl, hPa_4, ha_5, hE_2⟩ := hz
  have hkw := ym_ext_kw hE_2 hkw
  have hE_6 := ym_ext_tr hE hE_2
  refine W.eq (g2 := F0 m 36 ls [.ref a_3]) rfl ?_
  exact ym_retA hx hb hr hlocks ⟨_, rfl, hPa_4, ha_5, hE_6⟩ (fun _ h => absurd h List.not_mem_nil) dX10_of_36
set_option maxHeartbeats 4000000 in
set_option maxRecDepth 100000 in
/-- LocalDate.isLeapYear -/
theorem ym_leapLD (l : Launch) (n0 : Nat) (ad : Nat → Nat) (D : va_G) (h0 : Nat) (y : Int) (mo : Int) (dd : Int) (hy1 : -6000000 ≤ y) (hy2 : y ≤ 6000000) : Met l yX10_isLeapYear (ws_ yX10_isLeapYear cX10_isLeapYear 1 (some .boolean)) ({ frames := 1, cells := 0, slots := 0, locals := 22 }) (va_Pc [.ref h0] (ym_G (ym_w n0 ad D [] [(h0, .inr (2, [.int (ym_I y), .int (ym_I mo), .int (ym_I dd)]))]))) (ym_Q (ym_zP (.int (ym_I (ym_lp y))))) 0 0 (fun _ => False) := by
  refine Met.ofW (cc := cX10_isLeapYear) (maxL := 1) (ret := (some .boolean)) (by decide) rfl ?_
  intro p e s m args below meth c s₁ B hml hv
  obtain ⟨rfl, hkw, hK, hP⟩ := hv
  have hx := B.exec
  have hb := B.bytes
  have hr := B.returns
  have hts := atoms_spec (ws := ws_ yX10_isLeapYear cX10_isLeapYear 1 (some .boolean)) B.pre
  have hts : ∀ w ∈ lw_all, w.before _ s = true := fun w h => hts w (List.mem_cons_of_mem _ h)
  have hown : s.vm.findClass RX10 = some m.cls := findClass_of_methodNamed B.named
  have hlocks := B.notSynchronized
  have hF : CallFix p m c cX10_isLeapYear 1 s _ lw_all RX10 := ⟨hx, hb, hml, hown, hts⟩
  have hl := lv_entry ([.ref h0]) (n := 1) (Nat.le_of_ble_eq_true rfl)
  rw [lg_entry_eq]
  generalize (lg_sl ([.ref h0]) ++ List.replicate (1 - (lg_sl ([.ref h0])).length) Slot.unset).toArray = ls at hl ⊢
  have hl : lv_has ls 1 [(0, .ref h0)] := hl
  have hE : ym_ext s.heap s.heap := ym_ext_rf
  have hPh0 := hP.sub (ws' := [(h0, .inr (2, [.int (ym_I y), .int (ym_I mo), .int (ym_I dd)]))]) [0] rfl
  refine ym_gets hx hb hown hkw.2.2.1 (hts _ q344) (fun _ h9 => h9) dX10_isLeapYear_0 ?_
  refine lv_aload_n hx hb dX10_isLeapYear_3 rfl (lv_at hl 0 rfl) ?_
  refine va_get (D := D) (ci := 2) (v := .int (ym_I y)) (C := RX10) (T := TX10) (N := 3) hx hb hts in_X10 hown hK hPh0 0 rfl rfl 0 (by decide) (hts _ q366) (fun _ h9 => h9) rfl dX10_isLeapYear_4 ?_
  refine ym_Wi2l hx hb ⟨by omega, by omega⟩ dX10_isLeapYear_7 ?_
  refine ym_callP (ym_rV (C := RX7) (As := [.long (ym_L y)]) (rest := []) hF (ym_isoLeap l n0 ad D (ad 18) y hy1 hy2) (cwV 1 hts (lw_V q345 q295 q296 q14 q297) rfl rfl rfl (by decide +kernel) ⟨Nat.le_of_ble_eq_true rfl, Nat.le_of_ble_eq_true rfl⟩) ym_w_mv (ym_w_of hkw (hK.sub (tys' := []) [] rfl) ym_P0) (ym_recO hkw.2.2.2.1) rfl hl.1 rfl (Nat.le_of_ble_eq_true rfl) dX10_isLeapYear_8 ⟨Nat.le_of_ble_eq_true rfl, Nat.le_of_ble_eq_true rfl⟩) ?_
  exact ym_retZ hx hb hr hlocks (ym_nar (ym_lp_01 y)) ⟨rfl, rfl⟩ (fun _ h => absurd h List.not_mem_nil) dX10_isLeapYear_11
set_option maxHeartbeats 4000000 in
set_option maxRecDepth 100000 in
/-- LocalDate.toEpochDay -/
theorem ym_epoch (l : Launch) (n0 : Nat) (ad : Nat → Nat) (D : va_G) (h0 : Nat) (y : Int) (mo : Int) (dd : Int) (hy1 : -6000000 ≤ y) (hy2 : y ≤ 6000000) (hm1 : 1 ≤ mo) (hm2 : mo ≤ 12) (hd1 : 1 ≤ dd) (hd2 : dd ≤ 31) : Met l yX10_toEpochDay (ws_ yX10_toEpochDay cX10_toEpochDay 7 (some .long)) ({ frames := 2, cells := 0, slots := 0, locals := 42 }) (va_Pc [.ref h0] (ym_G (ym_w n0 ad D [] [(h0, .inr (2, [.int (ym_I y), .int (ym_I mo), .int (ym_I dd)]))]))) (ym_Q (ym_zP (.long (ym_L (ym_fd y mo + dd - 1))))) 0 0 (fun _ => False) := by
  refine Met.ofW (cc := cX10_toEpochDay) (maxL := 7) (ret := (some .long)) (by decide) rfl ?_
  intro p e s m args below meth c s₁ B hml hv
  obtain ⟨rfl, hkw, hK, hP⟩ := hv
  have hx := B.exec
  have hb := B.bytes
  have hr := B.returns
  have hts := atoms_spec (ws := ws_ yX10_toEpochDay cX10_toEpochDay 7 (some .long)) B.pre
  have hts : ∀ w ∈ lw_all, w.before _ s = true := fun w h => hts w (List.mem_cons_of_mem _ h)
  have hown : s.vm.findClass RX10 = some m.cls := findClass_of_methodNamed B.named
  have hlocks := B.notSynchronized
  have hF : CallFix p m c cX10_toEpochDay 7 s _ lw_all RX10 := ⟨hx, hb, hml, hown, hts⟩
  have hl := lv_entry ([.ref h0]) (n := 7) (Nat.le_of_ble_eq_true rfl)
  rw [lg_entry_eq]
  generalize (lg_sl ([.ref h0]) ++ List.replicate (7 - (lg_sl ([.ref h0])).length) Slot.unset).toArray = ls at hl ⊢
  have hl : lv_has ls 7 [(0, .ref h0)] := hl
  have hE : ym_ext s.heap s.heap := ym_ext_rf
  have hPh0 := hP.sub (ws' := [(h0, .inr (2, [.int (ym_I y), .int (ym_I mo), .int (ym_I dd)]))]) [0] rfl
  have t1 := (ym_tdiv (y + 3) (d := 4) (by decide)).1
  have t2 := (ym_tdiv (y + 99) (d := 100) (by decide)).1
  have t3 := (ym_tdiv (y + 399) (d := 400) (by decide)).1
  have t4 := ym_neg y
  have t5 := (ym_tdiv (367 * mo - 362) (d := 12) (by decide)).1 (by omega)
  have t7 := ym_lp_01 y
  refine lv_aload_n hx hb dX10_toEpochDay_0 rfl (lv_at hl 0 rfl) ?_
  refine va_get (D := D) (ci := 2) (v := .int (ym_I y)) (C := RX10) (T := TX10) (N := 3) hx hb hts in_X10 hown hK hPh0 0 rfl rfl 0 (by decide) (hts _ q366) (fun _ h9 => h9) rfl dX10_toEpochDay_1 ?_
  refine ym_Wi2l hx hb ⟨by omega, by omega⟩ dX10_toEpochDay_4 ?_
  refine lv_lstore_n (lv' := [(1, .long (ym_L y)), (0, .ref h0)]) hx hb dX10_toEpochDay_5 rfl hl (by decide) rfl (fun ls hl => ?_)
  refine lv_aload_n hx hb dX10_toEpochDay_6 rfl (lv_at hl 1 rfl) ?_
  refine va_get (D := D) (ci := 2) (v := .int (ym_I mo)) (C := RX10) (T := TX10) (N := 3) hx hb hts in_X10 hown hK hPh0 0 rfl rfl 1 (by decide) (hts _ q367) (fun _ h9 => h9) rfl dX10_toEpochDay_7 ?_
  refine ym_Wi2l hx hb ⟨by omega, by omega⟩ dX10_toEpochDay_10 ?_
  refine lv_lstore_n (lv' := [(3, .long (ym_L mo)), (1, .long (ym_L y)), (0, .ref h0)]) hx hb dX10_toEpochDay_11 rfl hl (by decide) rfl (fun ls hl => ?_)
  refine ym_lconst 0 hx hb dX10_toEpochDay_12 (by decide) ?_
  refine lv_lstore (lv' := [(5, .long (ym_L 0)), (3, .long (ym_L mo)), (1, .long (ym_L y)), (0, .ref h0)]) hx hb dX10_toEpochDay_13 hl (by decide) rfl (fun ls hl => ?_)
  refine lv_lload hx hb dX10_toEpochDay_15 (lv_at hl 0 rfl) ?_
  refine ym_ldc2 365 hx hb hown (hts _ q380) (by decide) dX10_toEpochDay_17 ?_
  refine lv_lload_n hx hb dX10_toEpochDay_20 rfl (lv_at hl 2 rfl) ?_
  refine ym_lmul hx hb dX10_toEpochDay_21 ?_
  refine ym_ladd hx hb dX10_toEpochDay_22 ?_
  refine lv_lstore (lv' := [(5, .long (ym_L (0 + (365 * y)))), (3, .long (ym_L mo)), (1, .long (ym_L y)), (0, .ref h0)]) hx hb dX10_toEpochDay_23 hl (by decide) rfl (fun ls hl => ?_)
  refine lv_lload_n hx hb dX10_toEpochDay_25 rfl (lv_at hl 2 rfl) ?_
  refine ym_lconst 0 hx hb dX10_toEpochDay_26 (by decide) ?_
  refine ym_lcmp_lt (tgt := 68) hx hb ⟨by omega, by omega⟩ ⟨by omega, by omega⟩ dX10_toEpochDay_27 dX10_toEpochDay_28 (by decide) (fun c_1 => ?_) (fun c_1 => ?_)
  · refine lv_lload hx hb dX10_toEpochDay_68 (lv_at hl 0 rfl) ?_
    refine lv_lload_n hx hb dX10_toEpochDay_70 rfl (lv_at hl 2 rfl) ?_
    refine ym_ldc2 (-4) hx hb hown (hts _ q387) (by decide) dX10_toEpochDay_71 ?_
    refine ym_ldiv hx hb ⟨by omega, by omega⟩ ⟨by omega, by omega⟩ (by omega) dX10_toEpochDay_74 ?_
    refine lv_lload_n hx hb dX10_toEpochDay_75 rfl (lv_at hl 2 rfl) ?_
    refine ym_ldc2 (-100) hx hb hown (hts _ q388) (by decide) dX10_toEpochDay_76 ?_
    refine ym_ldiv hx hb ⟨by omega, by omega⟩ ⟨by omega, by omega⟩ (by omega) dX10_toEpochDay_79 ?_
    refine ym_lsub hx hb dX10_toEpochDay_80 ?_
    refine lv_lload_n hx hb dX10_toEpochDay_81 rfl (lv_at hl 2 rfl) ?_
    refine ym_ldc2 (-400) hx hb hown (hts _ q389) (by decide) dX10_toEpochDay_82 ?_
    refine ym_ldiv hx hb ⟨by omega, by omega⟩ ⟨by omega, by omega⟩ (by omega) dX10_toEpochDay_85 ?_
    refine ym_ladd hx hb dX10_toEpochDay_86 ?_
    refine ym_lsub hx hb dX10_toEpochDay_87 ?_
    refine lv_lstore (lv' := [(5, .long (ym_L ((0 + (365 * y)) - (((Int.tdiv y (-4)) - (Int.tdiv y (-100))) + (Int.tdiv y (-400)))))), (3, .long (ym_L mo)), (1, .long (ym_L y)), (0, .ref h0)]) hx hb dX10_toEpochDay_88 hl (by decide) rfl (fun ls hl => ?_)
    refine lv_lload hx hb dX10_toEpochDay_90 (lv_at hl 0 rfl) ?_
    refine ym_ldc2 367 hx hb hown (hts _ q390) (by decide) dX10_toEpochDay_92 ?_
    refine lv_lload_n hx hb dX10_toEpochDay_95 rfl (lv_at hl 1 rfl) ?_
    refine ym_lmul hx hb dX10_toEpochDay_96 ?_
    refine ym_ldc2 362 hx hb hown (hts _ q391) (by decide) dX10_toEpochDay_97 ?_
    refine ym_lsub hx hb dX10_toEpochDay_100 ?_
    refine ym_ldc2 12 hx hb hown (hts _ q392) (by decide) dX10_toEpochDay_101 ?_
    refine ym_ldiv hx hb ⟨by omega, by omega⟩ ⟨by omega, by omega⟩ (by omega) dX10_toEpochDay_104 ?_
    refine ym_ladd hx hb dX10_toEpochDay_105 ?_
    refine lv_lstore (lv' := [(5, .long (ym_L (((0 + (365 * y)) - (((Int.tdiv y (-4)) - (Int.tdiv y (-100))) + (Int.tdiv y (-400)))) + (Int.tdiv ((367 * mo) - 362) 12)))), (3, .long (ym_L mo)), (1, .long (ym_L y)), (0, .ref h0)]) hx hb dX10_toEpochDay_106 hl (by decide) rfl (fun ls hl => ?_)
    refine lv_lload hx hb dX10_toEpochDay_108 (lv_at hl 0 rfl) ?_
    refine lv_aload_n hx hb dX10_toEpochDay_110 rfl (lv_at hl 3 rfl) ?_
    refine va_get (D := D) (ci := 2) (v := .int (ym_I dd)) (C := RX10) (T := TX10) (N := 3) hx hb hts in_X10 hown hK hPh0 0 rfl rfl 2 (by decide) (hts _ q368) (fun _ h9 => h9) rfl dX10_toEpochDay_111 ?_
    refine ym_iconst hx hb dX10_toEpochDay_114 ?_
    refine ym_isub hx hb dX10_toEpochDay_115 ?_
    refine ym_Wi2l hx hb ⟨by omega, by omega⟩ dX10_toEpochDay_116 ?_
    refine ym_ladd hx hb dX10_toEpochDay_117 ?_
    refine lv_lstore (lv' := [(5, .long (ym_L ((((0 + (365 * y)) - (((Int.tdiv y (-4)) - (Int.tdiv y (-100))) + (Int.tdiv y (-400)))) + (Int.tdiv ((367 * mo) - 362) 12)) + (dd - 1)))), (3, .long (ym_L mo)), (1, .long (ym_L y)), (0, .ref h0)]) hx hb dX10_toEpochDay_118 hl (by decide) rfl (fun ls hl => ?_)
    refine lv_lload_n hx hb dX10_toEpochDay_120 rfl (lv_at hl 1 rfl) ?_
    refine ym_ldc2 2 hx hb hown (hts _ q393) (by decide) dX10_toEpochDay_121 ?_
    refine ym_lcmp_le (tgt := 147) hx hb ⟨by omega, by omega⟩ ⟨by omega, by omega⟩ dX10_toEpochDay_124 dX10_toEpochDay_125 (by decide) (fun c_2 => ?_) (fun c_2 => ?_)
    · refine lv_lload hx hb dX10_toEpochDay_147 (lv_at hl 0 rfl) ?_
      refine ym_ldc2 719528 hx hb hown (hts _ q398) (by decide) dX10_toEpochDay_149 ?_
      refine ym_lsub hx hb dX10_toEpochDay_152 ?_
      exact ym_retL hx hb hr hlocks (ym_zPL (by have q := ym_epA (y := y) (d := dd) hm1 (by omega) rfl; have e1 := t4 (by omega); omega)) (fun _ h => absurd h List.not_mem_nil) dX10_toEpochDay_153
    · refine lv_lload hx hb dX10_toEpochDay_128 (lv_at hl 0 rfl) ?_
      refine ym_lconst 1 hx hb dX10_toEpochDay_130 (by decide) ?_
      refine ym_lsub hx hb dX10_toEpochDay_131 ?_
      refine lv_lstore (lv' := [(5, .long (ym_L (((((0 + (365 * y)) - (((Int.tdiv y (-4)) - (Int.tdiv y (-100))) + (Int.tdiv y (-400)))) + (Int.tdiv ((367 * mo) - 362) 12)) + (dd - 1)) - 1))), (3, .long (ym_L mo)), (1, .long (ym_L y)), (0, .ref h0)]) hx hb dX10_toEpochDay_132 hl (by decide) rfl (fun ls hl => ?_)
      refine lv_aload_n hx hb dX10_toEpochDay_134 rfl (lv_at hl 3 rfl) ?_
      refine ym_callP (ym_rV (C := RX10) (As := []) (rest := []) hF (ym_leapLD l n0 ad D h0 y mo dd hy1 hy2) (cwV 0 hts (lw_V q394 q395 q396 q17 q397) rfl rfl rfl (by decide +kernel) ⟨Nat.le_of_ble_eq_true rfl, Nat.le_of_ble_eq_true rfl⟩) ym_w_mv (ym_w_of hkw (hK.sub (tys' := []) [] rfl) hPh0) (va_recv hK hPh0 (ci := 2) (q0 := 0) rfl rfl) rfl hl.1 rfl (Nat.le_of_ble_eq_true rfl) dX10_toEpochDay_135 ⟨Nat.le_of_ble_eq_true rfl, Nat.le_of_ble_eq_true rfl⟩) ?_
      refine ym_if_ne (tgt := 147) hx hb ⟨by omega, by omega⟩ dX10_toEpochDay_138 (by decide) (fun c_3 => ?_) (fun c_3 => ?_)
      · refine lv_lload hx hb dX10_toEpochDay_147 (lv_at hl 0 rfl) ?_
        refine ym_ldc2 719528 hx hb hown (hts _ q398) (by decide) dX10_toEpochDay_149 ?_
        refine ym_lsub hx hb dX10_toEpochDay_152 ?_
        exact ym_retL hx hb hr hlocks (ym_zPL (by have q := ym_epB (y := y) (d := dd) (by omega) hm2 (by omega) rfl; have e1 := t4 (by omega); omega)) (fun _ h => absurd h List.not_mem_nil) dX10_toEpochDay_153
      · refine lv_lload hx hb dX10_toEpochDay_141 (lv_at hl 0 rfl) ?_
        refine ym_lconst 1 hx hb dX10_toEpochDay_143 (by decide) ?_
        refine ym_lsub hx hb dX10_toEpochDay_144 ?_
        refine lv_lstore (lv' := [(5, .long (ym_L ((((((0 + (365 * y)) - (((Int.tdiv y (-4)) - (Int.tdiv y (-100))) + (Int.tdiv y (-400)))) + (Int.tdiv ((367 * mo) - 362) 12)) + (dd - 1)) - 1) - 1))), (3, .long (ym_L mo)), (1, .long (ym_L y)), (0, .ref h0)]) hx hb dX10_toEpochDay_145 hl (by decide) rfl (fun ls hl => ?_)
        refine lv_lload hx hb dX10_toEpochDay_147 (lv_at hl 0 rfl) ?_
        refine ym_ldc2 719528 hx hb hown (hts _ q398) (by decide) dX10_toEpochDay_149 ?_
        refine ym_lsub hx hb dX10_toEpochDay_152 ?_
        exact ym_retL hx hb hr hlocks (ym_zPL (by have q := ym_epC (y := y) (d := dd) (by omega) hm2 (by omega) rfl; have e1 := t4 (by omega); omega)) (fun _ h => absurd h List.not_mem_nil) dX10_toEpochDay_153
  · refine lv_lload hx hb dX10_toEpochDay_31 (lv_at hl 0 rfl) ?_
    refine lv_lload_n hx hb dX10_toEpochDay_33 rfl (lv_at hl 2 rfl) ?_
    refine ym_ldc2 3 hx hb hown (hts _ q381) (by decide) dX10_toEpochDay_34 ?_
    refine ym_ladd hx hb dX10_toEpochDay_37 ?_
    refine ym_ldc2 4 hx hb hown (hts _ q382) (by decide) dX10_toEpochDay_38 ?_
    refine ym_ldiv hx hb ⟨by omega, by omega⟩ ⟨by omega, by omega⟩ (by omega) dX10_toEpochDay_41 ?_
    refine lv_lload_n hx hb dX10_toEpochDay_42 rfl (lv_at hl 2 rfl) ?_
    refine ym_ldc2 99 hx hb hown (hts _ q383) (by decide) dX10_toEpochDay_43 ?_
    refine ym_ladd hx hb dX10_toEpochDay_46 ?_
    refine ym_ldc2 100 hx hb hown (hts _ q384) (by decide) dX10_toEpochDay_47 ?_
    refine ym_ldiv hx hb ⟨by omega, by omega⟩ ⟨by omega, by omega⟩ (by omega) dX10_toEpochDay_50 ?_
    refine ym_lsub hx hb dX10_toEpochDay_51 ?_
    refine lv_lload_n hx hb dX10_toEpochDay_52 rfl (lv_at hl 2 rfl) ?_
    refine ym_ldc2 399 hx hb hown (hts _ q385) (by decide) dX10_toEpochDay_53 ?_
    refine ym_ladd hx hb dX10_toEpochDay_56 ?_
    refine ym_ldc2 400 hx hb hown (hts _ q386) (by decide) dX10_toEpochDay_57 ?_
    refine ym_ldiv hx hb ⟨by omega, by omega⟩ ⟨by omega, by omega⟩ (by omega) dX10_toEpochDay_60 ?_
    refine ym_ladd hx hb dX10_toEpochDay_61 ?_
    refine ym_ladd hx hb dX10_toEpochDay_62 ?_
    refine lv_lstore (lv' := [(5, .long (ym_L ((0 + (365 * y)) + (((Int.tdiv (y + 3) 4) - (Int.tdiv (y + 99) 100)) + (Int.tdiv (y + 399) 400))))), (3, .long (ym_L mo)), (1, .long (ym_L y)), (0, .ref h0)]) hx hb dX10_toEpochDay_63 hl (by decide) rfl (fun ls hl => ?_)
    refine lv_goto (tgt := 90) hx hb dX10_toEpochDay_65 (by decide) ?_
    refine lv_lload hx hb dX10_toEpochDay_90 (lv_at hl 0 rfl) ?_
    refine ym_ldc2 367 hx hb hown (hts _ q390) (by decide) dX10_toEpochDay_92 ?_
    refine lv_lload_n hx hb dX10_toEpochDay_95 rfl (lv_at hl 1 rfl) ?_
    refine ym_lmul hx hb dX10_toEpochDay_96 ?_
    refine ym_ldc2 362 hx hb hown (hts _ q391) (by decide) dX10_toEpochDay_97 ?_
    refine ym_lsub hx hb dX10_toEpochDay_100 ?_
    refine ym_ldc2 12 hx hb hown (hts _ q392) (by decide) dX10_toEpochDay_101 ?_
    refine ym_ldiv hx hb ⟨by omega, by omega⟩ ⟨by omega, by omega⟩ (by omega) dX10_toEpochDay_104 ?_
    refine ym_ladd hx hb dX10_toEpochDay_105 ?_
    refine lv_lstore (lv' := [(5, .long (ym_L (((0 + (365 * y)) + (((Int.tdiv (y + 3) 4) - (Int.tdiv (y + 99) 100)) + (Int.tdiv (y + 399) 400))) + (Int.tdiv ((367 * mo) - 362) 12)))), (3, .long (ym_L mo)), (1, .long (ym_L y)), (0, .ref h0)]) hx hb dX10_toEpochDay_106 hl (by decide) rfl (fun ls hl => ?_)
    refine lv_lload hx hb dX10_toEpochDay_108 (lv_at hl 0 rfl) ?_
    refine lv_aload_n hx hb dX10_toEpochDay_110 rfl (lv_at hl 3 rfl) ?_
    refine va_get (D := D) (ci := 2) (v := .int (ym_I dd)) (C := RX10) (T := TX10) (N := 3) hx hb hts in_X10 hown hK hPh0 0 rfl rfl 2 (by decide) (hts _ q368) (fun _ h9 => h9) rfl dX10_toEpochDay_111 ?_
    refine ym_iconst hx hb dX10_toEpochDay_114 ?_
    refine ym_isub hx hb dX10_toEpochDay_115 ?_
    refine ym_Wi2l hx hb ⟨by omega, by omega⟩ dX10_toEpochDay_116 ?_
    refine ym_ladd hx hb dX10_toEpochDay_117 ?_
    refine lv_lstore (lv' := [(5, .long (ym_L ((((0 + (365 * y)) + (((Int.tdiv (y + 3) 4) - (Int.tdiv (y + 99) 100)) + (Int.tdiv (y + 399) 400))) + (Int.tdiv ((367 * mo) - 362) 12)) + (dd - 1)))), (3, .long (ym_L mo)), (1, .long (ym_L y)), (0, .ref h0)]) hx hb dX10_toEpochDay_118 hl (by decide) rfl (fun ls hl => ?_)
    refine lv_lload_n hx hb dX10_toEpochDay_120 rfl (lv_at hl 1 rfl) ?_
    refine ym_ldc2 2 hx hb hown (hts _ q393) (by decide) dX10_toEpochDay_121 ?_
    refine ym_lcmp_le (tgt := 147) hx hb ⟨by omega, by omega⟩ ⟨by omega, by omega⟩ dX10_toEpochDay_124 dX10_toEpochDay_125 (by decide) (fun c_4 => ?_) (fun c_4 => ?_)
    · refine lv_lload hx hb dX10_toEpochDay_147 (lv_at hl 0 rfl) ?_
      refine ym_ldc2 719528 hx hb hown (hts _ q398) (by decide) dX10_toEpochDay_149 ?_
      refine ym_lsub hx hb dX10_toEpochDay_152 ?_
      exact ym_retL hx hb hr hlocks (ym_zPL (by have q := ym_epA (y := y) (d := dd) hm1 (by omega) rfl; have e1 := t1 (by omega); have e2 := t2 (by omega); have e3 := t3 (by omega); omega)) (fun _ h => absurd h List.not_mem_nil) dX10_toEpochDay_153
    · refine lv_lload hx hb dX10_toEpochDay_128 (lv_at hl 0 rfl) ?_
      refine ym_lconst 1 hx hb dX10_toEpochDay_130 (by decide) ?_
      refine ym_lsub hx hb dX10_toEpochDay_131 ?_
      refine lv_lstore (lv' := [(5, .long (ym_L (((((0 + (365 * y)) + (((Int.tdiv (y + 3) 4) - (Int.tdiv (y + 99) 100)) + (Int.tdiv (y + 399) 400))) + (Int.tdiv ((367 * mo) - 362) 12)) + (dd - 1)) - 1))), (3, .long (ym_L mo)), (1, .long (ym_L y)), (0, .ref h0)]) hx hb dX10_toEpochDay_132 hl (by decide) rfl (fun ls hl => ?_)
      refine lv_aload_n hx hb dX10_toEpochDay_134 rfl (lv_at hl 3 rfl) ?_
      refine ym_callP (ym_rV (C := RX10) (As := []) (rest := []) hF (ym_leapLD l n0 ad D h0 y mo dd hy1 hy2) (cwV 0 hts (lw_V q394 q395 q396 q17 q397) rfl rfl rfl (by decide +kernel) ⟨Nat.le_of_ble_eq_true rfl, Nat.le_of_ble_eq_true rfl⟩) ym_w_mv (ym_w_of hkw (hK.sub (tys' := []) [] rfl) hPh0) (va_recv hK hPh0 (ci := 2) (q0 := 0) rfl rfl) rfl hl.1 rfl (Nat.le_of_ble_eq_true rfl) dX10_toEpochDay_135 ⟨Nat.le_of_ble_eq_true rfl, Nat.le_of_ble_eq_true rfl⟩) ?_
      refine ym_if_ne (tgt := 147) hx hb ⟨by omega, by omega⟩ dX10_toEpochDay_138 (by decide) (fun c_5 => ?_) (fun c_5 => ?_)
      · refine lv_lload hx hb dX10_toEpochDay_147 (lv_at hl 0 rfl) ?_
        refine ym_ldc2 719528 hx hb hown (hts _ q398) (by decide) dX10_toEpochDay_149 ?_
        refine ym_lsub hx hb dX10_toEpochDay_152 ?_
        exact ym_retL hx hb hr hlocks (ym_zPL (by have q := ym_epB (y := y) (d := dd) (by omega) hm2 (by omega) rfl; have e1 := t1 (by omega); have e2 := t2 (by omega); have e3 := t3 (by omega); omega)) (fun _ h => absurd h List.not_mem_nil) dX10_toEpochDay_153
      · refine lv_lload hx hb dX10_toEpochDay_141 (lv_at hl 0 rfl) ?_
        refine ym_lconst 1 hx hb dX10_toEpochDay_143 (by decide) ?_
        refine ym_lsub hx hb dX10_toEpochDay_144 ?_
        refine lv_lstore (lv' := [(5, .long (ym_L ((((((0 + (365 * y)) + (((Int.tdiv (y + 3) 4) - (Int.tdiv (y + 99) 100)) + (Int.tdiv (y + 399) 400))) + (Int.tdiv ((367 * mo) - 362) 12)) + (dd - 1)) - 1) - 1))), (3, .long (ym_L mo)), (1, .long (ym_L y)), (0, .ref h0)]) hx hb dX10_toEpochDay_145 hl (by decide) rfl (fun ls hl => ?_)
        refine lv_lload hx hb dX10_toEpochDay_147 (lv_at hl 0 rfl) ?_
        refine ym_ldc2 719528 hx hb hown (hts _ q398) (by decide) dX10_toEpochDay_149 ?_
        refine ym_lsub hx hb dX10_toEpochDay_152 ?_
        exact ym_retL hx hb hr hlocks (ym_zPL (by have q := ym_epC (y := y) (d := dd) (by omega) hm2 (by omega) rfl; have e1 := t1 (by omega); have e2 := t2 (by omega); have e3 := t3 (by omega); omega)) (fun _ h => absurd h List.not_mem_nil) dX10_toEpochDay_153
end
section
/-! YearMonth -/
theorem ym_Pc {D : va_G} {a : Nat} {y m y2 m2 : Int} {H : Heap} (h1 : y = y2) (h2 : m = m2) (hP : va_P D vwCl [(a, .inr (1, [.int (ym_I y), .int (ym_I m)]))] H) : va_P D vwCl [(a, .inr (1, [.int (ym_I y2), .int (ym_I m2)]))] H := by
  subst h1
  subst h2
  exact hP
set_option maxHeartbeats 4000000 in
set_option maxRecDepth 100000 in
/-- YearMonth(y, mo) fills its object -/
theorem ym_initYM (l : Launch) (n0 : Nat) (ad : Nat → Nat) (D : va_G) (h0 : Nat) (y : Int) (mo : Int) : Met l yX3_init (ws_ yX3_init cX3_init 3 none) ({ frames := 2, cells := 0, slots := 0, locals := 32 }) (va_Pc [.ref h0, .int (ym_I y), .int (ym_I mo)] (ym_G (ym_w n0 ad D [] [(h0, .inr (1, [.int 0, .int 0]))]))) (ym_Q (ym_zF D h0 1 [.int (ym_I y), .int (ym_I mo)])) 0 0 (fun q => q = h0) := by
  refine Met.ofW (cc := cX3_init) (maxL := 3) (ret := none) (by decide) rfl ?_
  intro p e s m args below meth c s₁ B hml hv
  obtain ⟨rfl, hkw, hK, hP⟩ := hv
  have hx := B.exec
  have hb := B.bytes
  have hr := B.returns
  have hts := atoms_spec (ws := ws_ yX3_init cX3_init 3 none) B.pre
  have hts : ∀ w ∈ lw_all, w.before _ s = true := fun w h => hts w (List.mem_cons_of_mem _ h)
  have hown : s.vm.findClass RX3 = some m.cls := findClass_of_methodNamed B.named
  have hlocks := B.notSynchronized
  have hin : meth.name = "<init>" := (name_of_methodNamed B.named B.method).1
  have hF : CallFix p m c cX3_init 3 s _ lw_all RX3 := ⟨hx, hb, hml, hown, hts⟩
  have hl := lv_entry ([.ref h0, .int (ym_I y), .int (ym_I mo)]) (n := 3) (Nat.le_of_ble_eq_true rfl)
  rw [lg_entry_eq]
  generalize (lg_sl ([.ref h0, .int (ym_I y), .int (ym_I mo)]) ++ List.replicate (3 - (lg_sl ([.ref h0, .int (ym_I y), .int (ym_I mo)])).length) Slot.unset).toArray = ls at hl ⊢
  have hl : lv_has ls 3 [(0, .ref h0), (1, .int (ym_I y)), (2, .int (ym_I mo))] := hl
  have hE : ym_ext s.heap s.heap := ym_ext_rf
  have hPh0 := hP.sub (ws' := [(h0, .inr (1, [.int 0, .int 0]))]) [0] rfl
  refine lv_aload_n hx hb dX3_init_0 rfl (lv_at hl 0 rfl) ?_
  refine ym_callV0 (ym_rI (As := []) (rest := []) hF (ym_init2 l n0 ad D h0) (cwI 0 hts (lw_meth q133) rfl rfl rfl (hts _ q4) (hts _ q131) (hts _ q132) rfl (by decide +kernel) ⟨Nat.le_of_ble_eq_true rfl, Nat.le_of_ble_eq_true rfl⟩) ym_w_mv (ym_w_of hkw (hK.sub (tys' := []) [] rfl) ym_P0) rfl hl.1 rfl (Nat.le_of_ble_eq_true rfl) dX3_init_1 ⟨Nat.le_of_ble_eq_true rfl, Nat.le_of_ble_eq_true rfl⟩) ?_
  refine lv_aload_n hx hb dX3_init_4 rfl (lv_at hl 0 rfl) ?_
  refine lv_iload_n hx hb dX3_init_5 rfl (lv_at hl 1 rfl) ?_
  refine ym_putF (C := RX3) (T := TX3) (N := 2) (ci := 1) (ty := .int) hx hb hts in_X3 tyX3 tyX3_ok nmX3 hown hK hPh0 rfl 0 (by decide) (hts _ q135) (fun _ h9 => h9) rfl hin rfl (by decide +kernel) rfl rfl (Nat.le_of_ble_eq_true rfl) dX3_init_6 (fun H_1 x_2 hP_3 hz_4 hk_5 => ?_)
  have hP_3 : va_P D vwCl [(h0, .inr (1, [.int (ym_I y), .int 0]))] H_1 := hP_3
  refine lv_aload_n hx hb dX3_init_9 rfl (lv_at hl 0 rfl) ?_
  refine lv_iload_n hx hb dX3_init_10 rfl (lv_at hl 2 rfl) ?_
  refine ym_putF (C := RX3) (T := TX3) (N := 2) (ci := 1) (ty := .int) hx hb hts in_X3 tyX3 tyX3_ok nmX3 hown hK hP_3 rfl 1 (by decide) (hts _ q136) (fun _ h9 => h9) rfl hin rfl (by decide +kernel) rfl rfl (Nat.le_of_ble_eq_true rfl) dX3_init_11 (fun H_6 x_7 hP_8 hz_9 hk_10 => ?_)
  have hP_8 : va_P D vwCl [(h0, .inr (1, [.int (ym_I y), .int (ym_I mo)]))] H_6 := hP_8
  exact ym_retV hx hb hr hlocks ⟨rfl, hP_8, hz_9.trans hz_4, fun q _ hq => (hk_10 q hq).trans (hk_5 q hq)⟩ (fun q h => by simp at h; rcases h with h | h <;> rw [h]) dX3_init_14
set_option maxHeartbeats 4000000 in
set_option maxRecDepth 100000 in
/-- YearMonth.of: a new one -/
theorem ym_ofYM (l : Launch) (n0 : Nat) (ad : Nat → Nat) (D : va_G) (y : Int) (mo : Int) (hy1 : -6000000 ≤ y) (hy2 : y ≤ 6000000) (hm1 : 1 ≤ mo) (hm2 : mo ≤ 12) : Met l yX3_of (ws_ yX3_of cX3_of 2 (some (.object "YearMonth"))) ({ frames := 4, cells := 1, slots := 2, locals := 87 }) (va_Pc [.int (ym_I y), .int (ym_I mo)] (ym_G (ym_w n0 ad D [] []))) (ym_Q (ym_zN D 1 [.int (ym_I y), .int (ym_I mo)] (fun _ => False))) 1 2 (fun _ => False) := by
  refine Met.ofW (cc := cX3_of) (maxL := 2) (ret := (some (.object "YearMonth"))) (by decide) rfl ?_
  intro p e s m args below meth c s₁ B hml hv
  obtain ⟨rfl, hkw, hK, hP⟩ := hv
  have hx := B.exec
  have hb := B.bytes
  have hr := B.returns
  have hts := atoms_spec (ws := ws_ yX3_of cX3_of 2 (some (.object "YearMonth"))) B.pre
  have hts : ∀ w ∈ lw_all, w.before _ s = true := fun w h => hts w (List.mem_cons_of_mem _ h)
  have hown : s.vm.findClass RX3 = some m.cls := findClass_of_methodNamed B.named
  have hlocks := B.notSynchronized
  have hF : CallFix p m c cX3_of 2 s _ lw_all RX3 := ⟨hx, hb, hml, hown, hts⟩
  have hl := lv_entry ([.int (ym_I y), .int (ym_I mo)]) (n := 2) (Nat.le_of_ble_eq_true rfl)
  rw [lg_entry_eq]
  generalize (lg_sl ([.int (ym_I y), .int (ym_I mo)]) ++ List.replicate (2 - (lg_sl ([.int (ym_I y), .int (ym_I mo)])).length) Slot.unset).toArray = ls at hl ⊢
  have hl : lv_has ls 2 [(0, .int (ym_I y)), (1, .int (ym_I mo))] := hl
  have hE : ym_ext s.heap s.heap := ym_ext_rf
  refine ym_gets hx hb hown (hkw.1 0 (by decide)).1 (hts _ q32) (fun _ h9 => h9) dX3_of_0 ?_
  refine lv_iload_n hx hb dX3_of_3 rfl (lv_at hl 0 rfl) ?_
  refine ym_Wi2l hx hb ⟨by omega, by omega⟩ dX3_of_4 ?_
  refine ym_callP (ym_rV (C := RX4) (As := [.long (ym_L y)]) (rest := []) hF (ym_check l n0 ad D 0 y (by decide) (show (-999999999 : Int) ≤ y by omega) (show y ≤ (999999999 : Int) by omega)) (cwV 1 hts (lw_V q34 q35 q36 q7 q37) rfl rfl rfl (by decide +kernel) ⟨Nat.le_of_ble_eq_true rfl, Nat.le_of_ble_eq_true rfl⟩) ym_w_mv (ym_w_of hkw (hK.sub (tys' := []) [] rfl) ym_P0) (ym_recO (hkw.1 0 (by decide)).2.1) rfl hl.1 rfl (Nat.le_of_ble_eq_true rfl) dX3_of_5 ⟨Nat.le_of_ble_eq_true rfl, Nat.le_of_ble_eq_true rfl⟩) ?_
  refine lv_pop2_2 hx hb dX3_of_8 rfl ?_
  refine ym_gets hx hb hown (hkw.1 1 (by decide)).1 (hts _ q124) (fun _ h9 => h9) dX3_of_9 ?_
  refine lv_iload_n hx hb dX3_of_12 rfl (lv_at hl 1 rfl) ?_
  refine ym_Wi2l hx hb ⟨by omega, by omega⟩ dX3_of_13 ?_
  refine ym_callP (ym_rV (C := RX4) (As := [.long (ym_L mo)]) (rest := []) hF (ym_check l n0 ad D 1 mo (by decide) (show (1 : Int) ≤ mo by omega) (show mo ≤ (12 : Int) by omega)) (cwV 1 hts (lw_V q34 q35 q36 q7 q37) rfl rfl rfl (by decide +kernel) ⟨Nat.le_of_ble_eq_true rfl, Nat.le_of_ble_eq_true rfl⟩) ym_w_mv (ym_w_of hkw (hK.sub (tys' := []) [] rfl) ym_P0) (ym_recO (hkw.1 1 (by decide)).2.1) rfl hl.1 rfl (Nat.le_of_ble_eq_true rfl) dX3_of_14 ⟨Nat.le_of_ble_eq_true rfl, Nat.le_of_ble_eq_true rfl⟩) ?_
  refine lv_pop2_2 hx hb dX3_of_17 rfl ?_
  refine ym_new (ci := 1) (fs := [.int 0, .int 0]) (C := RX3) (T := TX3) (N := 2) hx hb hts in_X3 tyX3 tyX3_ok hown (hts _ q126) (hts _ q127) (hts _ q5) hK rfl (ym_fs2) (Nat.le_of_ble_eq_true rfl) (Nat.le_of_ble_eq_true rfl) dX3_of_18 (fun q_1 H_2 hq_3 hE_4 hPn_5 => ?_)
  have hkw0 := hkw
  have hkw := ym_ext_kw hE_4 hkw
  have hq_3_l : s.heap.size ≤ q_1 := by rw [hq_3]; exact hE.1
  refine lv_dup hx hb dX3_of_21 rfl ?_
  refine lv_iload_n hx hb dX3_of_22 rfl (lv_at hl 0 rfl) ?_
  refine lv_iload_n hx hb dX3_of_23 rfl (lv_at hl 1 rfl) ?_
  refine ym_callZ (ym_rI (As := [.int (ym_I y), .int (ym_I mo)]) (rest := [.ref q_1]) hF (ym_initYM l n0 ad D q_1 y mo) (cwI 2 hts (lw_meth q130) rfl rfl rfl (hts _ q5) (hts _ q128) (hts _ q129) rfl (by decide +kernel) ⟨Nat.le_of_ble_eq_true rfl, Nat.le_of_ble_eq_true rfl⟩) ym_w_mv (ym_w_of hkw (hK.sub (tys' := []) [] rfl) hPn_5) rfl hl.1 rfl (Nat.le_of_ble_eq_true rfl) dX3_of_24 ⟨Nat.le_of_ble_eq_true rfl, Nat.le_of_ble_eq_true rfl⟩) (fun x h => Nat.le_trans hq_3_l (Nat.le_of_eq (Eq.symm h))) (fun v H_6 hz => ?_)
  obtain ⟨rfl, hPf_7, hz_8, hk_9⟩ := hz
  have hE_10 := ym_init_ext hq_3 hE_4 hz_8 hk_9
  have hkw := hkw0
  have hkw := ym_ext_kw hE_10 hkw
  have hE_11 := ym_ext_tr hE hE_10
  refine W.eq (g2 := F0 m 27 ls [.ref q_1]) rfl ?_
  exact ym_retA hx hb hr hlocks ⟨_, rfl, hPf_7, Or.inr hq_3_l, hE_11⟩ (fun _ h => absurd h List.not_mem_nil) dX3_of_27
set_option maxHeartbeats 4000000 in
set_option maxRecDepth 100000 in
/-- YearMonth.with: this one, or a new one -/
theorem ym_with (l : Launch) (n0 : Nat) (ad : Nat → Nat) (D : va_G) (h0 : Nat) (y : Int) (mo : Int) (y2 : Int) (m2 : Int) (hy1 : -6000000 ≤ y) (hy2 : y ≤ 6000000) (hm1 : 1 ≤ mo) (hm2 : mo ≤ 12) (hy3 : -6000000 ≤ y2) (hy4 : y2 ≤ 6000000) (hm3 : 1 ≤ m2) (hm4 : m2 ≤ 12) : Met l yX3_with (ws_ yX3_with cX3_with 3 (some (.object "YearMonth"))) ({ frames := 3, cells := 1, slots := 2, locals := 54 }) (va_Pc [.ref h0, .int (ym_I y2), .int (ym_I m2)] (ym_G (ym_w n0 ad D [] [(h0, .inr (1, [.int (ym_I y), .int (ym_I mo)]))]))) (ym_Q (ym_zN D 1 [.int (ym_I y2), .int (ym_I m2)] (fun a => a = h0))) 1 2 (fun _ => False) := by
  refine Met.ofW (cc := cX3_with) (maxL := 3) (ret := (some (.object "YearMonth"))) (by decide) rfl ?_
  intro p e s m args below meth c s₁ B hml hv
  obtain ⟨rfl, hkw, hK, hP⟩ := hv
  have hx := B.exec
  have hb := B.bytes
  have hr := B.returns
  have hts := atoms_spec (ws := ws_ yX3_with cX3_with 3 (some (.object "YearMonth"))) B.pre
  have hts : ∀ w ∈ lw_all, w.before _ s = true := fun w h => hts w (List.mem_cons_of_mem _ h)
  have hown : s.vm.findClass RX3 = some m.cls := findClass_of_methodNamed B.named
  have hlocks := B.notSynchronized
  have hF : CallFix p m c cX3_with 3 s _ lw_all RX3 := ⟨hx, hb, hml, hown, hts⟩
  have hl := lv_entry ([.ref h0, .int (ym_I y2), .int (ym_I m2)]) (n := 3) (Nat.le_of_ble_eq_true rfl)
  rw [lg_entry_eq]
  generalize (lg_sl ([.ref h0, .int (ym_I y2), .int (ym_I m2)]) ++ List.replicate (3 - (lg_sl ([.ref h0, .int (ym_I y2), .int (ym_I m2)])).length) Slot.unset).toArray = ls at hl ⊢
  have hl : lv_has ls 3 [(0, .ref h0), (1, .int (ym_I y2)), (2, .int (ym_I m2))] := hl
  have hE : ym_ext s.heap s.heap := ym_ext_rf
  have hPh0 := hP.sub (ws' := [(h0, .inr (1, [.int (ym_I y), .int (ym_I mo)]))]) [0] rfl
  refine lv_aload_n hx hb dX3_with_0 rfl (lv_at hl 0 rfl) ?_
  refine va_get (D := D) (ci := 1) (v := .int (ym_I y)) (C := RX3) (T := TX3) (N := 2) hx hb hts in_X3 hown hK hPh0 0 rfl rfl 0 (by decide) (hts _ q135) (fun _ h9 => h9) rfl dX3_with_1 ?_
  refine lv_iload_n hx hb dX3_with_4 rfl (lv_at hl 1 rfl) ?_
  refine ym_icmp_ne (tgt := 18) hx hb ⟨by omega, by omega⟩ ⟨by omega, by omega⟩ dX3_with_5 (by decide) (fun c_1 => ?_) (fun c_1 => ?_)
  · refine ym_new (ci := 1) (fs := [.int 0, .int 0]) (C := RX3) (T := TX3) (N := 2) hx hb hts in_X3 tyX3 tyX3_ok hown (hts _ q126) (hts _ q127) (hts _ q5) hK rfl (ym_fs2) (Nat.le_of_ble_eq_true rfl) (Nat.le_of_ble_eq_true rfl) dX3_with_18 (fun q_2 H_3 hq_4 hE_5 hPn_6 => ?_)
    have hkw0 := hkw
    have hkw := ym_ext_kw hE_5 hkw
    have hP_7 := ym_ext_P hE_5 hPh0
    have hq_4_l : s.heap.size ≤ q_2 := by rw [hq_4]; exact hE.1
    refine lv_dup hx hb dX3_with_21 rfl ?_
    refine lv_iload_n hx hb dX3_with_22 rfl (lv_at hl 1 rfl) ?_
    refine lv_iload_n hx hb dX3_with_23 rfl (lv_at hl 2 rfl) ?_
    refine ym_callZ (ym_rI (As := [.int (ym_I y2), .int (ym_I m2)]) (rest := [.ref q_2]) hF (ym_initYM l n0 ad D q_2 y2 m2) (cwI 2 hts (lw_meth q130) rfl rfl rfl (hts _ q5) (hts _ q128) (hts _ q129) rfl (by decide +kernel) ⟨Nat.le_of_ble_eq_true rfl, Nat.le_of_ble_eq_true rfl⟩) ym_w_mv (ym_w_of hkw (hK.sub (tys' := []) [] rfl) hPn_6) rfl hl.1 rfl (Nat.le_of_ble_eq_true rfl) dX3_with_24 ⟨Nat.le_of_ble_eq_true rfl, Nat.le_of_ble_eq_true rfl⟩) (fun x h => Nat.le_trans hq_4_l (Nat.le_of_eq (Eq.symm h))) (fun v H_8 hz => ?_)
    obtain ⟨rfl, hPf_9, hz_10, hk_11⟩ := hz
    have hE_12 := ym_init_ext hq_4 hE_5 hz_10 hk_11
    have hkw := hkw0
    have hkw := ym_ext_kw hE_12 hkw
    have hP_13 := ym_ext_P hE_12 hPh0
    have hE_14 := ym_ext_tr hE hE_12
    refine W.eq (g2 := F0 m 27 ls [.ref q_2]) rfl ?_
    exact ym_retA hx hb hr hlocks ⟨_, rfl, hPf_9, Or.inr hq_4_l, hE_14⟩ (fun _ h => absurd h List.not_mem_nil) dX3_with_27
  · refine lv_aload_n hx hb dX3_with_8 rfl (lv_at hl 0 rfl) ?_
    refine va_get (D := D) (ci := 1) (v := .int (ym_I mo)) (C := RX3) (T := TX3) (N := 2) hx hb hts in_X3 hown hK hPh0 0 rfl rfl 1 (by decide) (hts _ q136) (fun _ h9 => h9) rfl dX3_with_9 ?_
    refine lv_iload_n hx hb dX3_with_12 rfl (lv_at hl 2 rfl) ?_
    refine ym_icmp_ne (tgt := 18) hx hb ⟨by omega, by omega⟩ ⟨by omega, by omega⟩ dX3_with_13 (by decide) (fun c_15 => ?_) (fun c_15 => ?_)
    · refine ym_new (ci := 1) (fs := [.int 0, .int 0]) (C := RX3) (T := TX3) (N := 2) hx hb hts in_X3 tyX3 tyX3_ok hown (hts _ q126) (hts _ q127) (hts _ q5) hK rfl (ym_fs2) (Nat.le_of_ble_eq_true rfl) (Nat.le_of_ble_eq_true rfl) dX3_with_18 (fun q_16 H_17 hq_18 hE_19 hPn_20 => ?_)
      have hkw0 := hkw
      have hkw := ym_ext_kw hE_19 hkw
      have hP_21 := ym_ext_P hE_19 hPh0
      have hq_18_l : s.heap.size ≤ q_16 := by rw [hq_18]; exact hE.1
      refine lv_dup hx hb dX3_with_21 rfl ?_
      refine lv_iload_n hx hb dX3_with_22 rfl (lv_at hl 1 rfl) ?_
      refine lv_iload_n hx hb dX3_with_23 rfl (lv_at hl 2 rfl) ?_
      refine ym_callZ (ym_rI (As := [.int (ym_I y2), .int (ym_I m2)]) (rest := [.ref q_16]) hF (ym_initYM l n0 ad D q_16 y2 m2) (cwI 2 hts (lw_meth q130) rfl rfl rfl (hts _ q5) (hts _ q128) (hts _ q129) rfl (by decide +kernel) ⟨Nat.le_of_ble_eq_true rfl, Nat.le_of_ble_eq_true rfl⟩) ym_w_mv (ym_w_of hkw (hK.sub (tys' := []) [] rfl) hPn_20) rfl hl.1 rfl (Nat.le_of_ble_eq_true rfl) dX3_with_24 ⟨Nat.le_of_ble_eq_true rfl, Nat.le_of_ble_eq_true rfl⟩) (fun x h => Nat.le_trans hq_18_l (Nat.le_of_eq (Eq.symm h))) (fun v H_22 hz => ?_)
      obtain ⟨rfl, hPf_23, hz_24, hk_25⟩ := hz
      have hE_26 := ym_init_ext hq_18 hE_19 hz_24 hk_25
      have hkw := hkw0
      have hkw := ym_ext_kw hE_26 hkw
      have hP_27 := ym_ext_P hE_26 hPh0
      have hE_28 := ym_ext_tr hE hE_26
      refine W.eq (g2 := F0 m 27 ls [.ref q_16]) rfl ?_
      exact ym_retA hx hb hr hlocks ⟨_, rfl, hPf_23, Or.inr hq_18_l, hE_28⟩ (fun _ h => absurd h List.not_mem_nil) dX3_with_27
    · refine lv_aload_n hx hb dX3_with_16 rfl (lv_at hl 0 rfl) ?_
      refine W.widen (k := 1) (n := 2) (Nat.le_of_ble_eq_true rfl) (Nat.le_of_ble_eq_true rfl) ?_
      exact ym_retA hx hb hr hlocks ⟨h0, rfl, ym_Pc c_1 c_15 hPh0, Or.inl rfl, hE⟩ (fun _ h => absurd h List.not_mem_nil) dX3_with_17
set_option maxHeartbeats 4000000 in
set_option maxRecDepth 100000 in
/-- the year -/
theorem ym_getYear (l : Launch) (n0 : Nat) (ad : Nat → Nat) (D : va_G) (h0 : Nat) (y : Int) (mo : Int) : Met l yX3_getYear (ws_ yX3_getYear cX3_getYear 1 (some .int)) ({ frames := 0, cells := 0, slots := 0, locals := 0 }) (va_Pc [.ref h0] (ym_G (ym_w n0 ad D [] [(h0, .inr (1, [.int (ym_I y), .int (ym_I mo)]))]))) (ym_Q (ym_zP (.int (ym_I y)))) 0 0 (fun _ => False) := by
  refine Met.ofW (cc := cX3_getYear) (maxL := 1) (ret := (some .int)) (by decide) rfl ?_
  intro p e s m args below meth c s₁ B hml hv
  obtain ⟨rfl, hkw, hK, hP⟩ := hv
  have hx := B.exec
  have hb := B.bytes
  have hr := B.returns
  have hts := atoms_spec (ws := ws_ yX3_getYear cX3_getYear 1 (some .int)) B.pre
  have hts : ∀ w ∈ lw_all, w.before _ s = true := fun w h => hts w (List.mem_cons_of_mem _ h)
  have hown : s.vm.findClass RX3 = some m.cls := findClass_of_methodNamed B.named
  have hlocks := B.notSynchronized
  have hF : CallFix p m c cX3_getYear 1 s _ lw_all RX3 := ⟨hx, hb, hml, hown, hts⟩
  have hl := lv_entry ([.ref h0]) (n := 1) (Nat.le_of_ble_eq_true rfl)
  rw [lg_entry_eq]
  generalize (lg_sl ([.ref h0]) ++ List.replicate (1 - (lg_sl ([.ref h0])).length) Slot.unset).toArray = ls at hl ⊢
  have hl : lv_has ls 1 [(0, .ref h0)] := hl
  have hE : ym_ext s.heap s.heap := ym_ext_rf
  have hPh0 := hP.sub (ws' := [(h0, .inr (1, [.int (ym_I y), .int (ym_I mo)]))]) [0] rfl
  refine lv_aload_n hx hb dX3_getYear_0 rfl (lv_at hl 0 rfl) ?_
  refine va_get (D := D) (ci := 1) (v := .int (ym_I y)) (C := RX3) (T := TX3) (N := 2) hx hb hts in_X3 hown hK hPh0 0 rfl rfl 0 (by decide) (hts _ q135) (fun _ h9 => h9) rfl dX3_getYear_1 ?_
  exact ym_retI hx hb hr hlocks ⟨rfl, rfl⟩ (fun _ h => absurd h List.not_mem_nil) dX3_getYear_4
set_option maxHeartbeats 4000000 in
set_option maxRecDepth 100000 in
/-- the month -/
theorem ym_getMonthValue (l : Launch) (n0 : Nat) (ad : Nat → Nat) (D : va_G) (h0 : Nat) (y : Int) (mo : Int) : Met l yX3_getMonthValue (ws_ yX3_getMonthValue cX3_getMonthValue 1 (some .int)) ({ frames := 0, cells := 0, slots := 0, locals := 0 }) (va_Pc [.ref h0] (ym_G (ym_w n0 ad D [] [(h0, .inr (1, [.int (ym_I y), .int (ym_I mo)]))]))) (ym_Q (ym_zP (.int (ym_I mo)))) 0 0 (fun _ => False) := by
  refine Met.ofW (cc := cX3_getMonthValue) (maxL := 1) (ret := (some .int)) (by decide) rfl ?_
  intro p e s m args below meth c s₁ B hml hv
  obtain ⟨rfl, hkw, hK, hP⟩ := hv
  have hx := B.exec
  have hb := B.bytes
  have hr := B.returns
  have hts := atoms_spec (ws := ws_ yX3_getMonthValue cX3_getMonthValue 1 (some .int)) B.pre
  have hts : ∀ w ∈ lw_all, w.before _ s = true := fun w h => hts w (List.mem_cons_of_mem _ h)
  have hown : s.vm.findClass RX3 = some m.cls := findClass_of_methodNamed B.named
  have hlocks := B.notSynchronized
  have hF : CallFix p m c cX3_getMonthValue 1 s _ lw_all RX3 := ⟨hx, hb, hml, hown, hts⟩
  have hl := lv_entry ([.ref h0]) (n := 1) (Nat.le_of_ble_eq_true rfl)
  rw [lg_entry_eq]
  generalize (lg_sl ([.ref h0]) ++ List.replicate (1 - (lg_sl ([.ref h0])).length) Slot.unset).toArray = ls at hl ⊢
  have hl : lv_has ls 1 [(0, .ref h0)] := hl
  have hE : ym_ext s.heap s.heap := ym_ext_rf
  have hPh0 := hP.sub (ws' := [(h0, .inr (1, [.int (ym_I y), .int (ym_I mo)]))]) [0] rfl
  refine lv_aload_n hx hb dX3_getMonthValue_0 rfl (lv_at hl 0 rfl) ?_
  refine va_get (D := D) (ci := 1) (v := .int (ym_I mo)) (C := RX3) (T := TX3) (N := 2) hx hb hts in_X3 hown hK hPh0 0 rfl rfl 1 (by decide) (hts _ q136) (fun _ h9 => h9) rfl dX3_getMonthValue_1 ?_
  exact ym_retI hx hb hr hlocks ⟨rfl, rfl⟩ (fun _ h => absurd h List.not_mem_nil) dX3_getMonthValue_4
set_option maxHeartbeats 4000000 in
set_option maxRecDepth 100000 in
/-- the month, as a constant -/
theorem ym_getMonth (l : Launch) (n0 : Nat) (ad : Nat → Nat) (D : va_G) (h0 : Nat) (y : Int) (mo : Int) (hm1 : 1 ≤ mo) (hm2 : mo ≤ 12) : Met l yX3_getMonth (ws_ yX3_getMonth cX3_getMonth 1 (some (.object "Month"))) ({ frames := 1, cells := 0, slots := 0, locals := 20 }) (va_Pc [.ref h0] (ym_G (ym_w n0 ad D [] [(h0, .inr (1, [.int (ym_I y), .int (ym_I mo)]))]))) (ym_Q (ym_zP (.ref (ad (mo - 1).toNat)))) 0 0 (fun _ => False) := by
  refine Met.ofW (cc := cX3_getMonth) (maxL := 1) (ret := (some (.object "Month"))) (by decide) rfl ?_
  intro p e s m args below meth c s₁ B hml hv
  obtain ⟨rfl, hkw, hK, hP⟩ := hv
  have hx := B.exec
  have hb := B.bytes
  have hr := B.returns
  have hts := atoms_spec (ws := ws_ yX3_getMonth cX3_getMonth 1 (some (.object "Month"))) B.pre
  have hts : ∀ w ∈ lw_all, w.before _ s = true := fun w h => hts w (List.mem_cons_of_mem _ h)
  have hown : s.vm.findClass RX3 = some m.cls := findClass_of_methodNamed B.named
  have hlocks := B.notSynchronized
  have hF : CallFix p m c cX3_getMonth 1 s _ lw_all RX3 := ⟨hx, hb, hml, hown, hts⟩
  have hl := lv_entry ([.ref h0]) (n := 1) (Nat.le_of_ble_eq_true rfl)
  rw [lg_entry_eq]
  generalize (lg_sl ([.ref h0]) ++ List.replicate (1 - (lg_sl ([.ref h0])).length) Slot.unset).toArray = ls at hl ⊢
  have hl : lv_has ls 1 [(0, .ref h0)] := hl
  have hE : ym_ext s.heap s.heap := ym_ext_rf
  have hPh0 := hP.sub (ws' := [(h0, .inr (1, [.int (ym_I y), .int (ym_I mo)]))]) [0] rfl
  refine lv_aload_n hx hb dX3_getMonth_0 rfl (lv_at hl 0 rfl) ?_
  refine va_get (D := D) (ci := 1) (v := .int (ym_I mo)) (C := RX3) (T := TX3) (N := 2) hx hb hts in_X3 hown hK hPh0 0 rfl rfl 1 (by decide) (hts _ q136) (fun _ h9 => h9) rfl dX3_getMonth_1 ?_
  refine ym_callP (ym_rS (As := [.int (ym_I mo)]) (rest := []) hF (ym_monthOf l n0 ad D mo hm1 hm2) (va_cwS 1 hts (lw_S q280 q281 q12 q282) rfl rfl rfl (by decide +kernel) ⟨Nat.le_of_ble_eq_true rfl, Nat.le_of_ble_eq_true rfl⟩) ym_w_mv (ym_w_of hkw (hK.sub (tys' := []) [] rfl) ym_P0) rfl hl.1 rfl (Nat.le_of_ble_eq_true rfl) dX3_getMonth_4 ⟨Nat.le_of_ble_eq_true rfl, Nat.le_of_ble_eq_true rfl⟩) ?_
  exact ym_retA hx hb hr hlocks ⟨rfl, rfl⟩ (fun _ h => absurd h List.not_mem_nil) dX3_getMonth_7
set_option maxHeartbeats 4000000 in
set_option maxRecDepth 100000 in
/-- is it a leap year -/
theorem ym_leapYM (l : Launch) (n0 : Nat) (ad : Nat → Nat) (D : va_G) (h0 : Nat) (y : Int) (mo : Int) (hy1 : -6000000 ≤ y) (hy2 : y ≤ 6000000) : Met l yX3_isLeapYear (ws_ yX3_isLeapYear cX3_isLeapYear 1 (some .boolean)) ({ frames := 1, cells := 0, slots := 0, locals := 22 }) (va_Pc [.ref h0] (ym_G (ym_w n0 ad D [] [(h0, .inr (1, [.int (ym_I y), .int (ym_I mo)]))]))) (ym_Q (ym_zP (.int (ym_I (ym_lp y))))) 0 0 (fun _ => False) := by
  refine Met.ofW (cc := cX3_isLeapYear) (maxL := 1) (ret := (some .boolean)) (by decide) rfl ?_
  intro p e s m args below meth c s₁ B hml hv
  obtain ⟨rfl, hkw, hK, hP⟩ := hv
  have hx := B.exec
  have hb := B.bytes
  have hr := B.returns
  have hts := atoms_spec (ws := ws_ yX3_isLeapYear cX3_isLeapYear 1 (some .boolean)) B.pre
  have hts : ∀ w ∈ lw_all, w.before _ s = true := fun w h => hts w (List.mem_cons_of_mem _ h)
  have hown : s.vm.findClass RX3 = some m.cls := findClass_of_methodNamed B.named
  have hlocks := B.notSynchronized
  have hF : CallFix p m c cX3_isLeapYear 1 s _ lw_all RX3 := ⟨hx, hb, hml, hown, hts⟩
  have hl := lv_entry ([.ref h0]) (n := 1) (Nat.le_of_ble_eq_true rfl)
  rw [lg_entry_eq]
  generalize (lg_sl ([.ref h0]) ++ List.replicate (1 - (lg_sl ([.ref h0])).length) Slot.unset).toArray = ls at hl ⊢
  have hl : lv_has ls 1 [(0, .ref h0)] := hl
  have hE : ym_ext s.heap s.heap := ym_ext_rf
  have hPh0 := hP.sub (ws' := [(h0, .inr (1, [.int (ym_I y), .int (ym_I mo)]))]) [0] rfl
  refine ym_gets hx hb hown hkw.2.2.1 (hts _ q292) (fun _ h9 => h9) dX3_isLeapYear_0 ?_
  refine lv_aload_n hx hb dX3_isLeapYear_3 rfl (lv_at hl 0 rfl) ?_
  refine va_get (D := D) (ci := 1) (v := .int (ym_I y)) (C := RX3) (T := TX3) (N := 2) hx hb hts in_X3 hown hK hPh0 0 rfl rfl 0 (by decide) (hts _ q135) (fun _ h9 => h9) rfl dX3_isLeapYear_4 ?_
  refine ym_Wi2l hx hb ⟨by omega, by omega⟩ dX3_isLeapYear_7 ?_
  refine ym_callP (ym_rV (C := RX7) (As := [.long (ym_L y)]) (rest := []) hF (ym_isoLeap l n0 ad D (ad 18) y hy1 hy2) (cwV 1 hts (lw_V q294 q295 q296 q14 q297) rfl rfl rfl (by decide +kernel) ⟨Nat.le_of_ble_eq_true rfl, Nat.le_of_ble_eq_true rfl⟩) ym_w_mv (ym_w_of hkw (hK.sub (tys' := []) [] rfl) ym_P0) (ym_recO hkw.2.2.2.1) rfl hl.1 rfl (Nat.le_of_ble_eq_true rfl) dX3_isLeapYear_8 ⟨Nat.le_of_ble_eq_true rfl, Nat.le_of_ble_eq_true rfl⟩) ?_
  exact ym_retZ hx hb hr hlocks (ym_nar (ym_lp_01 y)) ⟨rfl, rfl⟩ (fun _ h => absurd h List.not_mem_nil) dX3_isLeapYear_11
set_option maxHeartbeats 4000000 in
set_option maxRecDepth 100000 in
/-- how long is the month -/
theorem ym_lenMonth (l : Launch) (n0 : Nat) (ad : Nat → Nat) (D : va_G) (h0 : Nat) (y : Int) (mo : Int) (hy1 : -6000000 ≤ y) (hy2 : y ≤ 6000000) (hm1 : 1 ≤ mo) (hm2 : mo ≤ 12) : Met l yX3_lengthOfMonth (ws_ yX3_lengthOfMonth cX3_lengthOfMonth 1 (some .int)) ({ frames := 2, cells := 0, slots := 0, locals := 42 }) (va_Pc [.ref h0] (ym_G (ym_w n0 ad D [] [(h0, .inr (1, [.int (ym_I y), .int (ym_I mo)]))]))) (ym_Q (ym_zP (.int (ym_I (ym_ln y mo))))) 0 0 (fun _ => False) := by
  refine Met.ofW (cc := cX3_lengthOfMonth) (maxL := 1) (ret := (some .int)) (by decide) rfl ?_
  intro p e s m args below meth c s₁ B hml hv
  obtain ⟨rfl, hkw, hK, hP⟩ := hv
  have hx := B.exec
  have hb := B.bytes
  have hr := B.returns
  have hts := atoms_spec (ws := ws_ yX3_lengthOfMonth cX3_lengthOfMonth 1 (some .int)) B.pre
  have hts : ∀ w ∈ lw_all, w.before _ s = true := fun w h => hts w (List.mem_cons_of_mem _ h)
  have hown : s.vm.findClass RX3 = some m.cls := findClass_of_methodNamed B.named
  have hlocks := B.notSynchronized
  have hF : CallFix p m c cX3_lengthOfMonth 1 s _ lw_all RX3 := ⟨hx, hb, hml, hown, hts⟩
  have hl := lv_entry ([.ref h0]) (n := 1) (Nat.le_of_ble_eq_true rfl)
  rw [lg_entry_eq]
  generalize (lg_sl ([.ref h0]) ++ List.replicate (1 - (lg_sl ([.ref h0])).length) Slot.unset).toArray = ls at hl ⊢
  have hl : lv_has ls 1 [(0, .ref h0)] := hl
  have hE : ym_ext s.heap s.heap := ym_ext_rf
  have hPh0 := hP.sub (ws' := [(h0, .inr (1, [.int (ym_I y), .int (ym_I mo)]))]) [0] rfl
  refine lv_aload_n hx hb dX3_lengthOfMonth_0 rfl (lv_at hl 0 rfl) ?_
  refine ym_callP (ym_rV (C := RX3) (As := []) (rest := []) hF (ym_getMonth l n0 ad D h0 y mo hm1 hm2) (cwV 0 hts (lw_V q276 q277 q278 q5 q279) rfl rfl rfl (by decide +kernel) ⟨Nat.le_of_ble_eq_true rfl, Nat.le_of_ble_eq_true rfl⟩) ym_w_mv (ym_w_of hkw (hK.sub (tys' := []) [] rfl) hPh0) (va_recv hK hPh0 (ci := 1) (q0 := 0) rfl rfl) rfl hl.1 rfl (Nat.le_of_ble_eq_true rfl) dX3_lengthOfMonth_1 ⟨Nat.le_of_ble_eq_true rfl, Nat.le_of_ble_eq_true rfl⟩) ?_
  refine lv_aload_n hx hb dX3_lengthOfMonth_4 rfl (lv_at hl 0 rfl) ?_
  refine ym_callP (ym_rV (C := RX3) (As := []) (rest := [.ref (ad (mo - 1).toNat)]) hF (ym_leapYM l n0 ad D h0 y mo hy1 hy2) (cwV 0 hts (lw_V q288 q289 q290 q5 q291) rfl rfl rfl (by decide +kernel) ⟨Nat.le_of_ble_eq_true rfl, Nat.le_of_ble_eq_true rfl⟩) ym_w_mv (ym_w_of hkw (hK.sub (tys' := []) [] rfl) hPh0) (va_recv hK hPh0 (ci := 1) (q0 := 0) rfl rfl) rfl hl.1 rfl (Nat.le_of_ble_eq_true rfl) dX3_lengthOfMonth_5 ⟨Nat.le_of_ble_eq_true rfl, Nat.le_of_ble_eq_true rfl⟩) ?_
  refine ym_callP (ym_rV (C := RX6) (As := [.int (ym_I (ym_lp y))]) (rest := []) hF (ym_monthLen l n0 ad D mo (ym_lp y) hm1 hm2 (ym_lp_01 y)) (cwV 1 hts (lw_V q301 q302 q303 q12 q304) rfl rfl rfl (by decide +kernel) ⟨Nat.le_of_ble_eq_true rfl, Nat.le_of_ble_eq_true rfl⟩) ym_w_mv (ym_w_of hkw (hK.sub (tys' := []) [] rfl) ym_P0) (ym_recO (ym_km_c hkw hm1 hm2)) rfl hl.1 rfl (Nat.le_of_ble_eq_true rfl) dX3_lengthOfMonth_8 ⟨Nat.le_of_ble_eq_true rfl, Nat.le_of_ble_eq_true rfl⟩) ?_
  exact ym_retI hx hb hr hlocks ⟨rfl, rfl⟩ (fun _ h => absurd h List.not_mem_nil) dX3_lengthOfMonth_11
set_option maxHeartbeats 4000000 in
set_option maxRecDepth 100000 in
/-- how long is the year -/
theorem ym_lenYear (l : Launch) (n0 : Nat) (ad : Nat → Nat) (D : va_G) (h0 : Nat) (y : Int) (mo : Int) (hy1 : -6000000 ≤ y) (hy2 : y ≤ 6000000) : Met l yX3_lengthOfYear (ws_ yX3_lengthOfYear cX3_lengthOfYear 1 (some .int)) ({ frames := 2, cells := 0, slots := 0, locals := 42 }) (va_Pc [.ref h0] (ym_G (ym_w n0 ad D [] [(h0, .inr (1, [.int (ym_I y), .int (ym_I mo)]))]))) (ym_Q (ym_zP (.int (ym_I (365 + ym_lp y))))) 0 0 (fun _ => False) := by
  refine Met.ofW (cc := cX3_lengthOfYear) (maxL := 1) (ret := (some .int)) (by decide) rfl ?_
  intro p e s m args below meth c s₁ B hml hv
  obtain ⟨rfl, hkw, hK, hP⟩ := hv
  have hx := B.exec
  have hb := B.bytes
  have hr := B.returns
  have hts := atoms_spec (ws := ws_ yX3_lengthOfYear cX3_lengthOfYear 1 (some .int)) B.pre
  have hts : ∀ w ∈ lw_all, w.before _ s = true := fun w h => hts w (List.mem_cons_of_mem _ h)
  have hown : s.vm.findClass RX3 = some m.cls := findClass_of_methodNamed B.named
  have hlocks := B.notSynchronized
  have hF : CallFix p m c cX3_lengthOfYear 1 s _ lw_all RX3 := ⟨hx, hb, hml, hown, hts⟩
  have hl := lv_entry ([.ref h0]) (n := 1) (Nat.le_of_ble_eq_true rfl)
  rw [lg_entry_eq]
  generalize (lg_sl ([.ref h0]) ++ List.replicate (1 - (lg_sl ([.ref h0])).length) Slot.unset).toArray = ls at hl ⊢
  have hl : lv_has ls 1 [(0, .ref h0)] := hl
  have hE : ym_ext s.heap s.heap := ym_ext_rf
  have hPh0 := hP.sub (ws' := [(h0, .inr (1, [.int (ym_I y), .int (ym_I mo)]))]) [0] rfl
  have r2 := ym_lp_01 y
  refine lv_aload_n hx hb dX3_lengthOfYear_0 rfl (lv_at hl 0 rfl) ?_
  refine ym_callP (ym_rV (C := RX3) (As := []) (rest := []) hF (ym_leapYM l n0 ad D h0 y mo hy1 hy2) (cwV 0 hts (lw_V q288 q289 q290 q5 q291) rfl rfl rfl (by decide +kernel) ⟨Nat.le_of_ble_eq_true rfl, Nat.le_of_ble_eq_true rfl⟩) ym_w_mv (ym_w_of hkw (hK.sub (tys' := []) [] rfl) hPh0) (va_recv hK hPh0 (ci := 1) (q0 := 0) rfl rfl) rfl hl.1 rfl (Nat.le_of_ble_eq_true rfl) dX3_lengthOfYear_1 ⟨Nat.le_of_ble_eq_true rfl, Nat.le_of_ble_eq_true rfl⟩) ?_
  refine ym_if_eq (tgt := 13) hx hb ⟨by omega, by omega⟩ dX3_lengthOfYear_4 (by decide) (fun c_1 => ?_) (fun c_1 => ?_)
  · refine ym_sipush 365 hx hb dX3_lengthOfYear_13 (by decide) ?_
    exact ym_retI hx hb hr hlocks (ym_zPI (by omega)) (fun _ h => absurd h List.not_mem_nil) dX3_lengthOfYear_16
  · refine ym_sipush 366 hx hb dX3_lengthOfYear_7 (by decide) ?_
    refine lv_goto (tgt := 16) hx hb dX3_lengthOfYear_10 (by decide) ?_
    exact ym_retI hx hb hr hlocks (ym_zPI (by omega)) (fun _ h => absurd h List.not_mem_nil) dX3_lengthOfYear_16
set_option maxHeartbeats 4000000 in
set_option maxRecDepth 100000 in
/-- another year -/
theorem ym_withYear (l : Launch) (n0 : Nat) (ad : Nat → Nat) (D : va_G) (h0 : Nat) (y : Int) (mo : Int) (y2 : Int) (hy1 : -6000000 ≤ y) (hy2 : y ≤ 6000000) (hm1 : 1 ≤ mo) (hm2 : mo ≤ 12) (hy3 : -6000000 ≤ y2) (hy4 : y2 ≤ 6000000) : Met l yX3_withYear (ws_ yX3_withYear cX3_withYear 2 (some (.object "YearMonth"))) ({ frames := 4, cells := 1, slots := 2, locals := 87 }) (va_Pc [.ref h0, .int (ym_I y2)] (ym_G (ym_w n0 ad D [] [(h0, .inr (1, [.int (ym_I y), .int (ym_I mo)]))]))) (ym_Q (ym_zN D 1 [.int (ym_I y2), .int (ym_I mo)] (fun a => a = h0))) 1 2 (fun _ => False) := by
  refine Met.ofW (cc := cX3_withYear) (maxL := 2) (ret := (some (.object "YearMonth"))) (by decide) rfl ?_
  intro p e s m args below meth c s₁ B hml hv
  obtain ⟨rfl, hkw, hK, hP⟩ := hv
  have hx := B.exec
  have hb := B.bytes
  have hr := B.returns
  have hts := atoms_spec (ws := ws_ yX3_withYear cX3_withYear 2 (some (.object "YearMonth"))) B.pre
  have hts : ∀ w ∈ lw_all, w.before _ s = true := fun w h => hts w (List.mem_cons_of_mem _ h)
  have hown : s.vm.findClass RX3 = some m.cls := findClass_of_methodNamed B.named
  have hlocks := B.notSynchronized
  have hF : CallFix p m c cX3_withYear 2 s _ lw_all RX3 := ⟨hx, hb, hml, hown, hts⟩
  have hl := lv_entry ([.ref h0, .int (ym_I y2)]) (n := 2) (Nat.le_of_ble_eq_true rfl)
  rw [lg_entry_eq]
  generalize (lg_sl ([.ref h0, .int (ym_I y2)]) ++ List.replicate (2 - (lg_sl ([.ref h0, .int (ym_I y2)])).length) Slot.unset).toArray = ls at hl ⊢
  have hl : lv_has ls 2 [(0, .ref h0), (1, .int (ym_I y2))] := hl
  have hE : ym_ext s.heap s.heap := ym_ext_rf
  have hPh0 := hP.sub (ws' := [(h0, .inr (1, [.int (ym_I y), .int (ym_I mo)]))]) [0] rfl
  refine ym_gets hx hb hown (hkw.1 0 (by decide)).1 (hts _ q32) (fun _ h9 => h9) dX3_withYear_0 ?_
  refine lv_iload_n hx hb dX3_withYear_3 rfl (lv_at hl 1 rfl) ?_
  refine ym_Wi2l hx hb ⟨by omega, by omega⟩ dX3_withYear_4 ?_
  refine ym_callP (ym_rV (C := RX4) (As := [.long (ym_L y2)]) (rest := []) hF (ym_check l n0 ad D 0 y2 (by decide) (show (-999999999 : Int) ≤ y2 by omega) (show y2 ≤ (999999999 : Int) by omega)) (cwV 1 hts (lw_V q34 q35 q36 q7 q37) rfl rfl rfl (by decide +kernel) ⟨Nat.le_of_ble_eq_true rfl, Nat.le_of_ble_eq_true rfl⟩) ym_w_mv (ym_w_of hkw (hK.sub (tys' := []) [] rfl) ym_P0) (ym_recO (hkw.1 0 (by decide)).2.1) rfl hl.1 rfl (Nat.le_of_ble_eq_true rfl) dX3_withYear_5 ⟨Nat.le_of_ble_eq_true rfl, Nat.le_of_ble_eq_true rfl⟩) ?_
  refine lv_pop2_2 hx hb dX3_withYear_8 rfl ?_
  refine lv_aload_n hx hb dX3_withYear_9 rfl (lv_at hl 0 rfl) ?_
  refine lv_iload_n hx hb dX3_withYear_10 rfl (lv_at hl 1 rfl) ?_
  refine lv_aload_n hx hb dX3_withYear_11 rfl (lv_at hl 0 rfl) ?_
  refine va_get (D := D) (ci := 1) (v := .int (ym_I mo)) (C := RX3) (T := TX3) (N := 2) hx hb hts in_X3 hown hK hPh0 0 rfl rfl 1 (by decide) (hts _ q136) (fun _ h9 => h9) rfl dX3_withYear_12 ?_
  refine ym_callZ (ym_rV (C := RX3) (As := [.int (ym_I y2), .int (ym_I mo)]) (rest := []) hF (ym_with l n0 ad D h0 y mo y2 mo hy1 hy2 hm1 hm2 hy3 hy4 hm1 hm2) (cwV 2 hts (lw_V q185 q187 qs1 q5 q188) rfl rfl rfl (by decide +kernel) ⟨Nat.le_of_ble_eq_true rfl, Nat.le_of_ble_eq_true rfl⟩) ym_w_mv (ym_w_of hkw (hK.sub (tys' := []) [] rfl) hPh0) (va_recv hK hPh0 (ci := 1) (q0 := 0) rfl rfl) rfl hl.1 rfl (Nat.le_of_ble_eq_true rfl) dX3_withYear_15 ⟨Nat.le_of_ble_eq_true rfl, Nat.le_of_ble_eq_true rfl⟩) (fun _ h => h.elim) (fun v H_1 hz => ?_)
  obtain ⟨a_3, rfl, hPa_4, ha_5, hE_2⟩ := hz
  have hkw := ym_ext_kw hE_2 hkw
  have hP_6 := ym_ext_P hE_2 hPh0
  have hE_7 := ym_ext_tr hE hE_2
  refine W.eq (g2 := F0 m 18 ls [.ref a_3]) rfl ?_
  exact ym_retA hx hb hr hlocks ⟨_, rfl, hPa_4, ha_5, hE_7⟩ (fun _ h => absurd h List.not_mem_nil) dX3_withYear_18
set_option maxHeartbeats 4000000 in
set_option maxRecDepth 100000 in
/-- another month -/
theorem ym_withMonth (l : Launch) (n0 : Nat) (ad : Nat → Nat) (D : va_G) (h0 : Nat) (y : Int) (mo : Int) (m2 : Int) (hy1 : -6000000 ≤ y) (hy2 : y ≤ 6000000) (hm1 : 1 ≤ mo) (hm2 : mo ≤ 12) (hm3 : 1 ≤ m2) (hm4 : m2 ≤ 12) : Met l yX3_withMonth (ws_ yX3_withMonth cX3_withMonth 2 (some (.object "YearMonth"))) ({ frames := 4, cells := 1, slots := 2, locals := 87 }) (va_Pc [.ref h0, .int (ym_I m2)] (ym_G (ym_w n0 ad D [] [(h0, .inr (1, [.int (ym_I y), .int (ym_I mo)]))]))) (ym_Q (ym_zN D 1 [.int (ym_I y), .int (ym_I m2)] (fun a => a = h0))) 1 2 (fun _ => False) := by
  refine Met.ofW (cc := cX3_withMonth) (maxL := 2) (ret := (some (.object "YearMonth"))) (by decide) rfl ?_
  intro p e s m args below meth c s₁ B hml hv
  obtain ⟨rfl, hkw, hK, hP⟩ := hv
  have hx := B.exec
  have hb := B.bytes
  have hr := B.returns
  have hts := atoms_spec (ws := ws_ yX3_withMonth cX3_withMonth 2 (some (.object "YearMonth"))) B.pre
  have hts : ∀ w ∈ lw_all, w.before _ s = true := fun w h => hts w (List.mem_cons_of_mem _ h)
  have hown : s.vm.findClass RX3 = some m.cls := findClass_of_methodNamed B.named
  have hlocks := B.notSynchronized
  have hF : CallFix p m c cX3_withMonth 2 s _ lw_all RX3 := ⟨hx, hb, hml, hown, hts⟩
  have hl := lv_entry ([.ref h0, .int (ym_I m2)]) (n := 2) (Nat.le_of_ble_eq_true rfl)
  rw [lg_entry_eq]
  generalize (lg_sl ([.ref h0, .int (ym_I m2)]) ++ List.replicate (2 - (lg_sl ([.ref h0, .int (ym_I m2)])).length) Slot.unset).toArray = ls at hl ⊢
  have hl : lv_has ls 2 [(0, .ref h0), (1, .int (ym_I m2))] := hl
  have hE : ym_ext s.heap s.heap := ym_ext_rf
  have hPh0 := hP.sub (ws' := [(h0, .inr (1, [.int (ym_I y), .int (ym_I mo)]))]) [0] rfl
  refine ym_gets hx hb hown (hkw.1 1 (by decide)).1 (hts _ q124) (fun _ h9 => h9) dX3_withMonth_0 ?_
  refine lv_iload_n hx hb dX3_withMonth_3 rfl (lv_at hl 1 rfl) ?_
  refine ym_Wi2l hx hb ⟨by omega, by omega⟩ dX3_withMonth_4 ?_
  refine ym_callP (ym_rV (C := RX4) (As := [.long (ym_L m2)]) (rest := []) hF (ym_check l n0 ad D 1 m2 (by decide) (show (1 : Int) ≤ m2 by omega) (show m2 ≤ (12 : Int) by omega)) (cwV 1 hts (lw_V q34 q35 q36 q7 q37) rfl rfl rfl (by decide +kernel) ⟨Nat.le_of_ble_eq_true rfl, Nat.le_of_ble_eq_true rfl⟩) ym_w_mv (ym_w_of hkw (hK.sub (tys' := []) [] rfl) ym_P0) (ym_recO (hkw.1 1 (by decide)).2.1) rfl hl.1 rfl (Nat.le_of_ble_eq_true rfl) dX3_withMonth_5 ⟨Nat.le_of_ble_eq_true rfl, Nat.le_of_ble_eq_true rfl⟩) ?_
  refine lv_pop2_2 hx hb dX3_withMonth_8 rfl ?_
  refine lv_aload_n hx hb dX3_withMonth_9 rfl (lv_at hl 0 rfl) ?_
  refine lv_aload_n hx hb dX3_withMonth_10 rfl (lv_at hl 0 rfl) ?_
  refine va_get (D := D) (ci := 1) (v := .int (ym_I y)) (C := RX3) (T := TX3) (N := 2) hx hb hts in_X3 hown hK hPh0 0 rfl rfl 0 (by decide) (hts _ q135) (fun _ h9 => h9) rfl dX3_withMonth_11 ?_
  refine lv_iload_n hx hb dX3_withMonth_14 rfl (lv_at hl 1 rfl) ?_
  refine ym_callZ (ym_rV (C := RX3) (As := [.int (ym_I y), .int (ym_I m2)]) (rest := []) hF (ym_with l n0 ad D h0 y mo y m2 hy1 hy2 hm1 hm2 hy1 hy2 hm3 hm4) (cwV 2 hts (lw_V q185 q187 qs1 q5 q188) rfl rfl rfl (by decide +kernel) ⟨Nat.le_of_ble_eq_true rfl, Nat.le_of_ble_eq_true rfl⟩) ym_w_mv (ym_w_of hkw (hK.sub (tys' := []) [] rfl) hPh0) (va_recv hK hPh0 (ci := 1) (q0 := 0) rfl rfl) rfl hl.1 rfl (Nat.le_of_ble_eq_true rfl) dX3_withMonth_15 ⟨Nat.le_of_ble_eq_true rfl, Nat.le_of_ble_eq_true rfl⟩) (fun _ h => h.elim) (fun v H_1 hz => ?_)
  obtain ⟨a_3, rfl, hPa_4, ha_5, hE_2⟩ := hz
  have hkw := ym_ext_kw hE_2 hkw
  have hP_6 := ym_ext_P hE_2 hPh0
  have hE_7 := ym_ext_tr hE hE_2
  refine W.eq (g2 := F0 m 18 ls [.ref a_3]) rfl ?_
  exact ym_retA hx hb hr hlocks ⟨_, rfl, hPa_4, ha_5, hE_7⟩ (fun _ h => absurd h List.not_mem_nil) dX3_withMonth_18
set_option maxHeartbeats 4000000 in
set_option maxRecDepth 100000 in
/-- n years more -/
theorem ym_plusYears (l : Launch) (n0 : Nat) (ad : Nat → Nat) (D : va_G) (h0 : Nat) (y : Int) (mo : Int) (n : Int) (hy1 : -4900000 ≤ y) (hy2 : y ≤ 4900000) (hm1 : 1 ≤ mo) (hm2 : mo ≤ 12) (hn1 : -1000000 ≤ n) (hn2 : n ≤ 1000000) : Met l yX3_plusYears (ws_ yX3_plusYears cX3_plusYears 4 (some (.object "YearMonth"))) ({ frames := 5, cells := 1, slots := 2, locals := 109 }) (va_Pc [.ref h0, .long (ym_L n)] (ym_G (ym_w n0 ad D [] [(h0, .inr (1, [.int (ym_I y), .int (ym_I mo)]))]))) (ym_Q (ym_zN D 1 [.int (ym_I (y + n)), .int (ym_I mo)] (fun a => a = h0))) 1 2 (fun _ => False) := by
  refine Met.ofW (cc := cX3_plusYears) (maxL := 4) (ret := (some (.object "YearMonth"))) (by decide) rfl ?_
  intro p e s m args below meth c s₁ B hml hv
  obtain ⟨rfl, hkw, hK, hP⟩ := hv
  have hx := B.exec
  have hb := B.bytes
  have hr := B.returns
  have hts := atoms_spec (ws := ws_ yX3_plusYears cX3_plusYears 4 (some (.object "YearMonth"))) B.pre
  have hts : ∀ w ∈ lw_all, w.before _ s = true := fun w h => hts w (List.mem_cons_of_mem _ h)
  have hown : s.vm.findClass RX3 = some m.cls := findClass_of_methodNamed B.named
  have hlocks := B.notSynchronized
  have hF : CallFix p m c cX3_plusYears 4 s _ lw_all RX3 := ⟨hx, hb, hml, hown, hts⟩
  have hl := lv_entry ([.ref h0, .long (ym_L n)]) (n := 4) (Nat.le_of_ble_eq_true rfl)
  rw [lg_entry_eq]
  generalize (lg_sl ([.ref h0, .long (ym_L n)]) ++ List.replicate (4 - (lg_sl ([.ref h0, .long (ym_L n)])).length) Slot.unset).toArray = ls at hl ⊢
  have hl : lv_has ls 4 [(0, .ref h0), (1, .long (ym_L n))] := hl
  have hE : ym_ext s.heap s.heap := ym_ext_rf
  have hPh0 := hP.sub (ws' := [(h0, .inr (1, [.int (ym_I y), .int (ym_I mo)]))]) [0] rfl
  refine lv_lload_n hx hb dX3_plusYears_0 rfl (lv_at hl 1 rfl) ?_
  refine ym_lconst 0 hx hb dX3_plusYears_1 (by decide) ?_
  refine ym_lcmp_ne (tgt := 8) hx hb ⟨by omega, by omega⟩ ⟨by omega, by omega⟩ dX3_plusYears_2 dX3_plusYears_3 (by decide) (fun c_1 => ?_) (fun c_1 => ?_)
  · refine ym_gets hx hb hown (hkw.1 0 (by decide)).1 (hts _ q32) (fun _ h9 => h9) dX3_plusYears_8 ?_
    refine lv_aload_n hx hb dX3_plusYears_11 rfl (lv_at hl 0 rfl) ?_
    refine va_get (D := D) (ci := 1) (v := .int (ym_I y)) (C := RX3) (T := TX3) (N := 2) hx hb hts in_X3 hown hK hPh0 0 rfl rfl 0 (by decide) (hts _ q135) (fun _ h9 => h9) rfl dX3_plusYears_12 ?_
    refine ym_Wi2l hx hb ⟨by omega, by omega⟩ dX3_plusYears_15 ?_
    refine lv_lload_n hx hb dX3_plusYears_16 rfl (lv_at hl 1 rfl) ?_
    refine ym_ladd hx hb dX3_plusYears_17 ?_
    refine ym_callP (ym_rV (C := RX4) (As := [.long (ym_L (y + n))]) (rest := []) hF (ym_checkInt l n0 ad D 0 (y + n) (by decide) (show (-999999999 : Int) ≤ y + n by omega) (show y + n ≤ (999999999 : Int) by omega)) (cwV 1 hts (lw_V q164 q165 q166 q7 q167) rfl rfl rfl (by decide +kernel) ⟨Nat.le_of_ble_eq_true rfl, Nat.le_of_ble_eq_true rfl⟩) ym_w_mv (ym_w_of hkw (hK.sub (tys' := []) [] rfl) ym_P0) (ym_recO (hkw.1 0 (by decide)).2.1) rfl hl.1 rfl (Nat.le_of_ble_eq_true rfl) dX3_plusYears_18 ⟨Nat.le_of_ble_eq_true rfl, Nat.le_of_ble_eq_true rfl⟩) ?_
    refine lv_istore_n (lv' := [(3, .int (ym_I (y + n))), (0, .ref h0), (1, .long (ym_L n))]) hx hb dX3_plusYears_21 rfl hl (by decide) rfl (fun ls hl => ?_)
    refine lv_aload_n hx hb dX3_plusYears_22 rfl (lv_at hl 1 rfl) ?_
    refine lv_iload_n hx hb dX3_plusYears_23 rfl (lv_at hl 0 rfl) ?_
    refine lv_aload_n hx hb dX3_plusYears_24 rfl (lv_at hl 1 rfl) ?_
    refine va_get (D := D) (ci := 1) (v := .int (ym_I mo)) (C := RX3) (T := TX3) (N := 2) hx hb hts in_X3 hown hK hPh0 0 rfl rfl 1 (by decide) (hts _ q136) (fun _ h9 => h9) rfl dX3_plusYears_25 ?_
    refine ym_callZ (ym_rV (C := RX3) (As := [.int (ym_I (y + n)), .int (ym_I mo)]) (rest := []) hF (ym_with l n0 ad D h0 y mo (y + n) mo (by omega) (by omega) hm1 hm2 (by omega) (by omega) hm1 hm2) (cwV 2 hts (lw_V q185 q187 qs1 q5 q188) rfl rfl rfl (by decide +kernel) ⟨Nat.le_of_ble_eq_true rfl, Nat.le_of_ble_eq_true rfl⟩) ym_w_mv (ym_w_of hkw (hK.sub (tys' := []) [] rfl) hPh0) (va_recv hK hPh0 (ci := 1) (q0 := 0) rfl rfl) rfl hl.1 rfl (Nat.le_of_ble_eq_true rfl) dX3_plusYears_28 ⟨Nat.le_of_ble_eq_true rfl, Nat.le_of_ble_eq_true rfl⟩) (fun _ h => h.elim) (fun v H_2 hz => ?_)
    obtain ⟨a_4, rfl, hPa_5, ha_6, hE_3⟩ := hz
    have hkw := ym_ext_kw hE_3 hkw
    have hP_7 := ym_ext_P hE_3 hPh0
    have hE_8 := ym_ext_tr hE hE_3
    refine W.eq (g2 := F0 m 31 ls [.ref a_4]) rfl ?_
    exact ym_retA hx hb hr hlocks ⟨_, rfl, hPa_5, ha_6, hE_8⟩ (fun _ h => absurd h List.not_mem_nil) dX3_plusYears_31
  · refine lv_aload_n hx hb dX3_plusYears_6 rfl (lv_at hl 0 rfl) ?_
    refine W.widen (k := 1) (n := 2) (Nat.le_of_ble_eq_true rfl) (Nat.le_of_ble_eq_true rfl) ?_
    exact ym_retA hx hb hr hlocks ⟨h0, rfl, ym_Pc (by omega) rfl hPh0, Or.inl rfl, hE⟩ (fun _ h => absurd h List.not_mem_nil) dX3_plusYears_7
set_option maxHeartbeats 4000000 in
set_option maxRecDepth 100000 in
/-- n months more -/
theorem ym_plusMonths (l : Launch) (n0 : Nat) (ad : Nat → Nat) (D : va_G) (h0 : Nat) (y : Int) (mo : Int) (n : Int) (hy1 : -4900000 ≤ y) (hy2 : y ≤ 4900000) (hm1 : 1 ≤ mo) (hm2 : mo ≤ 12) (hn1 : -1000000 ≤ n) (hn2 : n ≤ 1000000) : Met l yX3_plusMonths (ws_ yX3_plusMonths cX3_plusMonths 9 (some (.object "YearMonth"))) ({ frames := 5, cells := 1, slots := 2, locals := 109 }) (va_Pc [.ref h0, .long (ym_L n)] (ym_G (ym_w n0 ad D [] [(h0, .inr (1, [.int (ym_I y), .int (ym_I mo)]))]))) (ym_Q (ym_zN D 1 [.int (ym_I ((((y * 12) + (mo - 1)) + n) / 12)), .int (ym_I (((((y * 12) + (mo - 1)) + n) % 12) + 1))] (fun a => a = h0))) 1 2 (fun _ => False) := by
  refine Met.ofW (cc := cX3_plusMonths) (maxL := 9) (ret := (some (.object "YearMonth"))) (by decide) rfl ?_
  intro p e s m args below meth c s₁ B hml hv
  obtain ⟨rfl, hkw, hK, hP⟩ := hv
  have hx := B.exec
  have hb := B.bytes
  have hr := B.returns
  have hts := atoms_spec (ws := ws_ yX3_plusMonths cX3_plusMonths 9 (some (.object "YearMonth"))) B.pre
  have hts : ∀ w ∈ lw_all, w.before _ s = true := fun w h => hts w (List.mem_cons_of_mem _ h)
  have hown : s.vm.findClass RX3 = some m.cls := findClass_of_methodNamed B.named
  have hlocks := B.notSynchronized
  have hF : CallFix p m c cX3_plusMonths 9 s _ lw_all RX3 := ⟨hx, hb, hml, hown, hts⟩
  have hl := lv_entry ([.ref h0, .long (ym_L n)]) (n := 9) (Nat.le_of_ble_eq_true rfl)
  rw [lg_entry_eq]
  generalize (lg_sl ([.ref h0, .long (ym_L n)]) ++ List.replicate (9 - (lg_sl ([.ref h0, .long (ym_L n)])).length) Slot.unset).toArray = ls at hl ⊢
  have hl : lv_has ls 9 [(0, .ref h0), (1, .long (ym_L n))] := hl
  have hE : ym_ext s.heap s.heap := ym_ext_rf
  have hPh0 := hP.sub (ws' := [(h0, .inr (1, [.int (ym_I y), .int (ym_I mo)]))]) [0] rfl
  refine lv_lload_n hx hb dX3_plusMonths_0 rfl (lv_at hl 1 rfl) ?_
  refine ym_lconst 0 hx hb dX3_plusMonths_1 (by decide) ?_
  refine ym_lcmp_ne (tgt := 8) hx hb ⟨by omega, by omega⟩ ⟨by omega, by omega⟩ dX3_plusMonths_2 dX3_plusMonths_3 (by decide) (fun c_1 => ?_) (fun c_1 => ?_)
  · refine lv_aload_n hx hb dX3_plusMonths_8 rfl (lv_at hl 0 rfl) ?_
    refine va_get (D := D) (ci := 1) (v := .int (ym_I y)) (C := RX3) (T := TX3) (N := 2) hx hb hts in_X3 hown hK hPh0 0 rfl rfl 0 (by decide) (hts _ q135) (fun _ h9 => h9) rfl dX3_plusMonths_9 ?_
    refine ym_Wi2l hx hb ⟨by omega, by omega⟩ dX3_plusMonths_12 ?_
    refine ym_ldc2 12 hx hb hown (hts _ q160) (by decide) dX3_plusMonths_13 ?_
    refine ym_lmul hx hb dX3_plusMonths_16 ?_
    refine lv_aload_n hx hb dX3_plusMonths_17 rfl (lv_at hl 0 rfl) ?_
    refine va_get (D := D) (ci := 1) (v := .int (ym_I mo)) (C := RX3) (T := TX3) (N := 2) hx hb hts in_X3 hown hK hPh0 0 rfl rfl 1 (by decide) (hts _ q136) (fun _ h9 => h9) rfl dX3_plusMonths_18 ?_
    refine ym_iconst hx hb dX3_plusMonths_21 ?_
    refine ym_isub hx hb dX3_plusMonths_22 ?_
    refine ym_Wi2l hx hb ⟨by omega, by omega⟩ dX3_plusMonths_23 ?_
    refine ym_ladd hx hb dX3_plusMonths_24 ?_
    refine lv_lstore_n (lv' := [(3, .long (ym_L ((y * 12) + (mo - 1)))), (0, .ref h0), (1, .long (ym_L n))]) hx hb dX3_plusMonths_25 rfl hl (by decide) rfl (fun ls hl => ?_)
    refine lv_lload_n hx hb dX3_plusMonths_26 rfl (lv_at hl 0 rfl) ?_
    refine lv_lload_n hx hb dX3_plusMonths_27 rfl (lv_at hl 2 rfl) ?_
    refine ym_ladd hx hb dX3_plusMonths_28 ?_
    refine lv_lstore (lv' := [(5, .long (ym_L (((y * 12) + (mo - 1)) + n))), (3, .long (ym_L ((y * 12) + (mo - 1)))), (0, .ref h0), (1, .long (ym_L n))]) hx hb dX3_plusMonths_29 hl (by decide) rfl (fun ls hl => ?_)
    refine ym_gets hx hb hown (hkw.1 0 (by decide)).1 (hts _ q32) (fun _ h9 => h9) dX3_plusMonths_31 ?_
    refine lv_lload hx hb dX3_plusMonths_34 (lv_at hl 0 rfl) ?_
    refine ym_ldc2 12 hx hb hown (hts _ q160) (by decide) dX3_plusMonths_36 ?_
    refine ym_callP (ym_rS (As := [.long (ym_L (((y * 12) + (mo - 1)) + n)), .long (ym_L 12)]) (rest := [.ref (ad (12 + 0))]) hF (ym_floorDiv l n0 ad D (((y * 12) + (mo - 1)) + n) (by omega) (by omega)) (va_cwS 2 hts (lw_S q161 q162 q18 q163) rfl rfl rfl (by decide +kernel) ⟨Nat.le_of_ble_eq_true rfl, Nat.le_of_ble_eq_true rfl⟩) ym_w_mv (ym_w_of hkw (hK.sub (tys' := []) [] rfl) ym_P0) rfl hl.1 rfl (Nat.le_of_ble_eq_true rfl) dX3_plusMonths_39 ⟨Nat.le_of_ble_eq_true rfl, Nat.le_of_ble_eq_true rfl⟩) ?_
    refine ym_callP (ym_rV (C := RX4) (As := [.long (ym_L ((((y * 12) + (mo - 1)) + n) / 12))]) (rest := []) hF (ym_checkInt l n0 ad D 0 ((((y * 12) + (mo - 1)) + n) / 12) (by decide) (show (-999999999 : Int) ≤ (((y * 12) + (mo - 1)) + n) / 12 by omega) (show (((y * 12) + (mo - 1)) + n) / 12 ≤ (999999999 : Int) by omega)) (cwV 1 hts (lw_V q164 q165 q166 q7 q167) rfl rfl rfl (by decide +kernel) ⟨Nat.le_of_ble_eq_true rfl, Nat.le_of_ble_eq_true rfl⟩) ym_w_mv (ym_w_of hkw (hK.sub (tys' := []) [] rfl) ym_P0) (ym_recO (hkw.1 0 (by decide)).2.1) rfl hl.1 rfl (Nat.le_of_ble_eq_true rfl) dX3_plusMonths_42 ⟨Nat.le_of_ble_eq_true rfl, Nat.le_of_ble_eq_true rfl⟩) ?_
    refine lv_istore (lv' := [(7, .int (ym_I ((((y * 12) + (mo - 1)) + n) / 12))), (5, .long (ym_L (((y * 12) + (mo - 1)) + n))), (3, .long (ym_L ((y * 12) + (mo - 1)))), (0, .ref h0), (1, .long (ym_L n))]) hx hb dX3_plusMonths_45 hl (by decide) rfl (fun ls hl => ?_)
    refine lv_lload hx hb dX3_plusMonths_47 (lv_at hl 1 rfl) ?_
    refine ym_bipush 12 hx hb dX3_plusMonths_49 (by decide) ?_
    refine ym_callP (ym_rS (As := [.long (ym_L (((y * 12) + (mo - 1)) + n)), .int (ym_I 12)]) (rest := []) hF (ym_floorMod l n0 ad D (((y * 12) + (mo - 1)) + n) (by omega) (by omega)) (va_cwS 2 hts (lw_S q182 q183 q18 q184) rfl rfl rfl (by decide +kernel) ⟨Nat.le_of_ble_eq_true rfl, Nat.le_of_ble_eq_true rfl⟩) ym_w_mv (ym_w_of hkw (hK.sub (tys' := []) [] rfl) ym_P0) rfl hl.1 rfl (Nat.le_of_ble_eq_true rfl) dX3_plusMonths_51 ⟨Nat.le_of_ble_eq_true rfl, Nat.le_of_ble_eq_true rfl⟩) ?_
    refine ym_iconst hx hb dX3_plusMonths_54 ?_
    refine ym_iadd hx hb dX3_plusMonths_55 ?_
    refine lv_istore (lv' := [(8, .int (ym_I (((((y * 12) + (mo - 1)) + n) % 12) + 1))), (7, .int (ym_I ((((y * 12) + (mo - 1)) + n) / 12))), (5, .long (ym_L (((y * 12) + (mo - 1)) + n))), (3, .long (ym_L ((y * 12) + (mo - 1)))), (0, .ref h0), (1, .long (ym_L n))]) hx hb dX3_plusMonths_56 hl (by decide) rfl (fun ls hl => ?_)
    refine lv_aload_n hx hb dX3_plusMonths_58 rfl (lv_at hl 4 rfl) ?_
    refine lv_iload hx hb dX3_plusMonths_59 (lv_at hl 1 rfl) ?_
    refine lv_iload hx hb dX3_plusMonths_61 (lv_at hl 0 rfl) ?_
    refine ym_callZ (ym_rV (C := RX3) (As := [.int (ym_I ((((y * 12) + (mo - 1)) + n) / 12)), .int (ym_I (((((y * 12) + (mo - 1)) + n) % 12) + 1))]) (rest := []) hF (ym_with l n0 ad D h0 y mo ((((y * 12) + (mo - 1)) + n) / 12) (((((y * 12) + (mo - 1)) + n) % 12) + 1) (by omega) (by omega) hm1 hm2 (by omega) (by omega) (by omega) (by omega)) (cwV 2 hts (lw_V q185 q187 qs1 q5 q188) rfl rfl rfl (by decide +kernel) ⟨Nat.le_of_ble_eq_true rfl, Nat.le_of_ble_eq_true rfl⟩) ym_w_mv (ym_w_of hkw (hK.sub (tys' := []) [] rfl) hPh0) (va_recv hK hPh0 (ci := 1) (q0 := 0) rfl rfl) rfl hl.1 rfl (Nat.le_of_ble_eq_true rfl) dX3_plusMonths_63 ⟨Nat.le_of_ble_eq_true rfl, Nat.le_of_ble_eq_true rfl⟩) (fun _ h => h.elim) (fun v H_2 hz => ?_)
    obtain ⟨a_4, rfl, hPa_5, ha_6, hE_3⟩ := hz
    have hkw := ym_ext_kw hE_3 hkw
    have hP_7 := ym_ext_P hE_3 hPh0
    have hE_8 := ym_ext_tr hE hE_3
    refine W.eq (g2 := F0 m 66 ls [.ref a_4]) rfl ?_
    exact ym_retA hx hb hr hlocks ⟨_, rfl, hPa_5, ha_6, hE_8⟩ (fun _ h => absurd h List.not_mem_nil) dX3_plusMonths_66
  · refine lv_aload_n hx hb dX3_plusMonths_6 rfl (lv_at hl 0 rfl) ?_
    refine W.widen (k := 1) (n := 2) (Nat.le_of_ble_eq_true rfl) (Nat.le_of_ble_eq_true rfl) ?_
    exact ym_retA hx hb hr hlocks ⟨h0, rfl, ym_Pc (by omega) (by omega) hPh0, Or.inl rfl, hE⟩ (fun _ h => absurd h List.not_mem_nil) dX3_plusMonths_7
set_option maxHeartbeats 4000000 in
set_option maxRecDepth 100000 in
/-- a day of the month -/
theorem ym_atDay (l : Launch) (n0 : Nat) (ad : Nat → Nat) (D : va_G) (h0 : Nat) (y : Int) (mo : Int) (dd : Int) (hy1 : -6000000 ≤ y) (hy2 : y ≤ 6000000) (hm1 : 1 ≤ mo) (hm2 : mo ≤ 12) (hd1 : 1 ≤ dd) (hd2 : dd ≤ ym_ln y mo) : Met l yX3_atDay (ws_ yX3_atDay cX3_atDay 2 (some (.object "LocalDate"))) ({ frames := 7, cells := 1, slots := 3, locals := 139 }) (va_Pc [.ref h0, .int (ym_I dd)] (ym_G (ym_w n0 ad D [] [(h0, .inr (1, [.int (ym_I y), .int (ym_I mo)]))]))) (ym_Q (ym_zN D 2 [.int (ym_I y), .int (ym_I mo), .int (ym_I dd)] (fun _ => False))) 1 3 (fun _ => False) := by
  refine Met.ofW (cc := cX3_atDay) (maxL := 2) (ret := (some (.object "LocalDate"))) (by decide) rfl ?_
  intro p e s m args below meth c s₁ B hml hv
  obtain ⟨rfl, hkw, hK, hP⟩ := hv
  have hx := B.exec
  have hb := B.bytes
  have hr := B.returns
  have hts := atoms_spec (ws := ws_ yX3_atDay cX3_atDay 2 (some (.object "LocalDate"))) B.pre
  have hts : ∀ w ∈ lw_all, w.before _ s = true := fun w h => hts w (List.mem_cons_of_mem _ h)
  have hown : s.vm.findClass RX3 = some m.cls := findClass_of_methodNamed B.named
  have hlocks := B.notSynchronized
  have hF : CallFix p m c cX3_atDay 2 s _ lw_all RX3 := ⟨hx, hb, hml, hown, hts⟩
  have hl := lv_entry ([.ref h0, .int (ym_I dd)]) (n := 2) (Nat.le_of_ble_eq_true rfl)
  rw [lg_entry_eq]
  generalize (lg_sl ([.ref h0, .int (ym_I dd)]) ++ List.replicate (2 - (lg_sl ([.ref h0, .int (ym_I dd)])).length) Slot.unset).toArray = ls at hl ⊢
  have hl : lv_has ls 2 [(0, .ref h0), (1, .int (ym_I dd))] := hl
  have hE : ym_ext s.heap s.heap := ym_ext_rf
  have hPh0 := hP.sub (ws' := [(h0, .inr (1, [.int (ym_I y), .int (ym_I mo)]))]) [0] rfl
  refine lv_aload_n hx hb dX3_atDay_0 rfl (lv_at hl 0 rfl) ?_
  refine va_get (D := D) (ci := 1) (v := .int (ym_I y)) (C := RX3) (T := TX3) (N := 2) hx hb hts in_X3 hown hK hPh0 0 rfl rfl 0 (by decide) (hts _ q135) (fun _ h9 => h9) rfl dX3_atDay_1 ?_
  refine lv_aload_n hx hb dX3_atDay_4 rfl (lv_at hl 0 rfl) ?_
  refine va_get (D := D) (ci := 1) (v := .int (ym_I mo)) (C := RX3) (T := TX3) (N := 2) hx hb hts in_X3 hown hK hPh0 0 rfl rfl 1 (by decide) (hts _ q136) (fun _ h9 => h9) rfl dX3_atDay_5 ?_
  refine lv_iload_n hx hb dX3_atDay_8 rfl (lv_at hl 1 rfl) ?_
  refine ym_callZ (ym_rS (As := [.int (ym_I y), .int (ym_I mo), .int (ym_I dd)]) (rest := []) hF (ym_ofLD l n0 ad D y mo dd hy1 hy2 hm1 hm2 hd1 hd2) (va_cwS 3 hts (lw_S q332 q333 q17 q334) rfl rfl rfl (by decide +kernel) ⟨Nat.le_of_ble_eq_true rfl, Nat.le_of_ble_eq_true rfl⟩) ym_w_mv (ym_w_of hkw (hK.sub (tys' := []) [] rfl) ym_P0) rfl hl.1 rfl (Nat.le_of_ble_eq_true rfl) dX3_atDay_9 ⟨Nat.le_of_ble_eq_true rfl, Nat.le_of_ble_eq_true rfl⟩) (fun _ h => h.elim) (fun v H_1 hz => ?_)
  obtain ⟨a_3, rfl, hPa_4, ha_5, hE_2⟩ := hz
  have hkw := ym_ext_kw hE_2 hkw
  have hP_6 := ym_ext_P hE_2 hPh0
  have hE_7 := ym_ext_tr hE hE_2
  refine W.eq (g2 := F0 m 12 ls [.ref a_3]) rfl ?_
  exact ym_retA hx hb hr hlocks ⟨_, rfl, hPa_4, ha_5, hE_7⟩ (fun _ h => absurd h List.not_mem_nil) dX3_atDay_12
set_option maxHeartbeats 4000000 in
set_option maxRecDepth 100000 in
/-- the last day of the month -/
theorem ym_atEnd (l : Launch) (n0 : Nat) (ad : Nat → Nat) (D : va_G) (h0 : Nat) (y : Int) (mo : Int) (hy1 : -6000000 ≤ y) (hy2 : y ≤ 6000000) (hm1 : 1 ≤ mo) (hm2 : mo ≤ 12) : Met l yX3_atEndOfMonth (ws_ yX3_atEndOfMonth cX3_atEndOfMonth 1 (some (.object "LocalDate"))) ({ frames := 7, cells := 1, slots := 3, locals := 139 }) (va_Pc [.ref h0] (ym_G (ym_w n0 ad D [] [(h0, .inr (1, [.int (ym_I y), .int (ym_I mo)]))]))) (ym_Q (ym_zN D 2 [.int (ym_I y), .int (ym_I mo), .int (ym_I (ym_ln y mo))] (fun _ => False))) 1 3 (fun _ => False) := by
  refine Met.ofW (cc := cX3_atEndOfMonth) (maxL := 1) (ret := (some (.object "LocalDate"))) (by decide) rfl ?_
  intro p e s m args below meth c s₁ B hml hv
  obtain ⟨rfl, hkw, hK, hP⟩ := hv
  have hx := B.exec
  have hb := B.bytes
  have hr := B.returns
  have hts := atoms_spec (ws := ws_ yX3_atEndOfMonth cX3_atEndOfMonth 1 (some (.object "LocalDate"))) B.pre
  have hts : ∀ w ∈ lw_all, w.before _ s = true := fun w h => hts w (List.mem_cons_of_mem _ h)
  have hown : s.vm.findClass RX3 = some m.cls := findClass_of_methodNamed B.named
  have hlocks := B.notSynchronized
  have hF : CallFix p m c cX3_atEndOfMonth 1 s _ lw_all RX3 := ⟨hx, hb, hml, hown, hts⟩
  have hl := lv_entry ([.ref h0]) (n := 1) (Nat.le_of_ble_eq_true rfl)
  rw [lg_entry_eq]
  generalize (lg_sl ([.ref h0]) ++ List.replicate (1 - (lg_sl ([.ref h0])).length) Slot.unset).toArray = ls at hl ⊢
  have hl : lv_has ls 1 [(0, .ref h0)] := hl
  have hE : ym_ext s.heap s.heap := ym_ext_rf
  have hPh0 := hP.sub (ws' := [(h0, .inr (1, [.int (ym_I y), .int (ym_I mo)]))]) [0] rfl
  have r1 := ym_ln_ran y mo
  refine lv_aload_n hx hb dX3_atEndOfMonth_0 rfl (lv_at hl 0 rfl) ?_
  refine va_get (D := D) (ci := 1) (v := .int (ym_I y)) (C := RX3) (T := TX3) (N := 2) hx hb hts in_X3 hown hK hPh0 0 rfl rfl 0 (by decide) (hts _ q135) (fun _ h9 => h9) rfl dX3_atEndOfMonth_1 ?_
  refine lv_aload_n hx hb dX3_atEndOfMonth_4 rfl (lv_at hl 0 rfl) ?_
  refine va_get (D := D) (ci := 1) (v := .int (ym_I mo)) (C := RX3) (T := TX3) (N := 2) hx hb hts in_X3 hown hK hPh0 0 rfl rfl 1 (by decide) (hts _ q136) (fun _ h9 => h9) rfl dX3_atEndOfMonth_5 ?_
  refine lv_aload_n hx hb dX3_atEndOfMonth_8 rfl (lv_at hl 0 rfl) ?_
  refine ym_callP (ym_rV (C := RX3) (As := []) (rest := [.int (ym_I mo), .int (ym_I y)]) hF (ym_lenMonth l n0 ad D h0 y mo hy1 hy2 hm1 hm2) (cwV 0 hts (lw_V q407 q273 q274 q5 q275) rfl rfl rfl (by decide +kernel) ⟨Nat.le_of_ble_eq_true rfl, Nat.le_of_ble_eq_true rfl⟩) ym_w_mv (ym_w_of hkw (hK.sub (tys' := []) [] rfl) hPh0) (va_recv hK hPh0 (ci := 1) (q0 := 0) rfl rfl) rfl hl.1 rfl (Nat.le_of_ble_eq_true rfl) dX3_atEndOfMonth_9 ⟨Nat.le_of_ble_eq_true rfl, Nat.le_of_ble_eq_true rfl⟩) ?_
  refine ym_callZ (ym_rS (As := [.int (ym_I y), .int (ym_I mo), .int (ym_I (ym_ln y mo))]) (rest := []) hF (ym_ofLD l n0 ad D y mo (ym_ln y mo) hy1 hy2 hm1 hm2 (by omega) (Int.le_refl _)) (va_cwS 3 hts (lw_S q332 q333 q17 q334) rfl rfl rfl (by decide +kernel) ⟨Nat.le_of_ble_eq_true rfl, Nat.le_of_ble_eq_true rfl⟩) ym_w_mv (ym_w_of hkw (hK.sub (tys' := []) [] rfl) ym_P0) rfl hl.1 rfl (Nat.le_of_ble_eq_true rfl) dX3_atEndOfMonth_12 ⟨Nat.le_of_ble_eq_true rfl, Nat.le_of_ble_eq_true rfl⟩) (fun _ h => h.elim) (fun v H_1 hz => ?_)
  obtain ⟨a_3, rfl, hPa_4, ha_5, hE_2⟩ := hz
  have hkw := ym_ext_kw hE_2 hkw
  have hP_6 := ym_ext_P hE_2 hPh0
  have hE_7 := ym_ext_tr hE hE_2
  refine W.eq (g2 := F0 m 15 ls [.ref a_3]) rfl ?_
  exact ym_retA hx hb hr hlocks ⟨_, rfl, hPa_4, ha_5, hE_7⟩ (fun _ h => absurd h List.not_mem_nil) dX3_atEndOfMonth_15
set_option maxHeartbeats 4000000 in
set_option maxRecDepth 100000 in
/-- compareTo -/
theorem ym_compare (l : Launch) (n0 : Nat) (ad : Nat → Nat) (D : va_G) (h0 : Nat) (y : Int) (mo : Int) (h1 : Nat) (y2 : Int) (m2 : Int) (hy1 : -6000000 ≤ y) (hy2 : y ≤ 6000000) (hm1 : 1 ≤ mo) (hm2 : mo ≤ 12) (hy3 : -6000000 ≤ y2) (hy4 : y2 ≤ 6000000) (hm3 : 1 ≤ m2) (hm4 : m2 ≤ 12) : Met l yX3_compareTo (ws_ yX3_compareTo cX3_compareTo 3 (some .int)) ({ frames := 0, cells := 0, slots := 0, locals := 0 }) (va_Pc [.ref h0, .ref h1] (ym_G (ym_w n0 ad D [] [(h0, .inr (1, [.int (ym_I y), .int (ym_I mo)])), (h1, .inr (1, [.int (ym_I y2), .int (ym_I m2)]))]))) (ym_Q (ym_zP (.int (ym_I (ym_cm y mo y2 m2))))) 0 0 (fun _ => False) := by
  refine Met.ofW (cc := cX3_compareTo) (maxL := 3) (ret := (some .int)) (by decide) rfl ?_
  intro p e s m args below meth c s₁ B hml hv
  obtain ⟨rfl, hkw, hK, hP⟩ := hv
  have hx := B.exec
  have hb := B.bytes
  have hr := B.returns
  have hts := atoms_spec (ws := ws_ yX3_compareTo cX3_compareTo 3 (some .int)) B.pre
  have hts : ∀ w ∈ lw_all, w.before _ s = true := fun w h => hts w (List.mem_cons_of_mem _ h)
  have hown : s.vm.findClass RX3 = some m.cls := findClass_of_methodNamed B.named
  have hlocks := B.notSynchronized
  have hF : CallFix p m c cX3_compareTo 3 s _ lw_all RX3 := ⟨hx, hb, hml, hown, hts⟩
  have hl := lv_entry ([.ref h0, .ref h1]) (n := 3) (Nat.le_of_ble_eq_true rfl)
  rw [lg_entry_eq]
  generalize (lg_sl ([.ref h0, .ref h1]) ++ List.replicate (3 - (lg_sl ([.ref h0, .ref h1])).length) Slot.unset).toArray = ls at hl ⊢
  have hl : lv_has ls 3 [(0, .ref h0), (1, .ref h1)] := hl
  have hE : ym_ext s.heap s.heap := ym_ext_rf
  have hPh0 := hP.sub (ws' := [(h0, .inr (1, [.int (ym_I y), .int (ym_I mo)]))]) [0] rfl
  have hPh1 := hP.sub (ws' := [(h1, .inr (1, [.int (ym_I y2), .int (ym_I m2)]))]) [1] rfl
  refine lv_aload_n hx hb dX3_compareTo_0 rfl (lv_at hl 0 rfl) ?_
  refine va_get (D := D) (ci := 1) (v := .int (ym_I y)) (C := RX3) (T := TX3) (N := 2) hx hb hts in_X3 hown hK hPh0 0 rfl rfl 0 (by decide) (hts _ q135) (fun _ h9 => h9) rfl dX3_compareTo_1 ?_
  refine lv_aload_n hx hb dX3_compareTo_4 rfl (lv_at hl 1 rfl) ?_
  refine va_get (D := D) (ci := 1) (v := .int (ym_I y2)) (C := RX3) (T := TX3) (N := 2) hx hb hts in_X3 hown hK hPh1 0 rfl rfl 0 (by decide) (hts _ q135) (fun _ h9 => h9) rfl dX3_compareTo_5 ?_
  refine ym_isub hx hb dX3_compareTo_8 ?_
  refine lv_istore_n (lv' := [(2, .int (ym_I (y - y2))), (0, .ref h0), (1, .ref h1)]) hx hb dX3_compareTo_9 rfl hl (by decide) rfl (fun ls hl => ?_)
  refine lv_iload_n hx hb dX3_compareTo_10 rfl (lv_at hl 0 rfl) ?_
  refine ym_if_ne (tgt := 24) hx hb ⟨by omega, by omega⟩ dX3_compareTo_11 (by decide) (fun c_1 => ?_) (fun c_1 => ?_)
  · refine lv_iload_n hx hb dX3_compareTo_24 rfl (lv_at hl 0 rfl) ?_
    exact ym_retI hx hb hr hlocks (ym_zPI (by unfold ym_cm; rw [if_neg c_1])) (fun _ h => absurd h List.not_mem_nil) dX3_compareTo_25
  · refine lv_aload_n hx hb dX3_compareTo_14 rfl (lv_at hl 1 rfl) ?_
    refine va_get (D := D) (ci := 1) (v := .int (ym_I mo)) (C := RX3) (T := TX3) (N := 2) hx hb hts in_X3 hown hK hPh0 0 rfl rfl 1 (by decide) (hts _ q136) (fun _ h9 => h9) rfl dX3_compareTo_15 ?_
    refine lv_aload_n hx hb dX3_compareTo_18 rfl (lv_at hl 2 rfl) ?_
    refine va_get (D := D) (ci := 1) (v := .int (ym_I m2)) (C := RX3) (T := TX3) (N := 2) hx hb hts in_X3 hown hK hPh1 0 rfl rfl 1 (by decide) (hts _ q136) (fun _ h9 => h9) rfl dX3_compareTo_19 ?_
    refine ym_isub hx hb dX3_compareTo_22 ?_
    refine lv_istore_n (lv' := [(2, .int (ym_I (mo - m2))), (0, .ref h0), (1, .ref h1)]) hx hb dX3_compareTo_23 rfl hl (by decide) rfl (fun ls hl => ?_)
    refine lv_iload_n hx hb dX3_compareTo_24 rfl (lv_at hl 0 rfl) ?_
    exact ym_retI hx hb hr hlocks (ym_zPI (by unfold ym_cm; rw [if_pos c_1])) (fun _ h => absurd h List.not_mem_nil) dX3_compareTo_25
end
section
/-! MonthDesk -/
/-- the array of the two months, as a cell -/
abbrev ym_ar (dY : ClassId) (f : Nat → Option Nat) : va_E := .inl (dY, 2, .inr (.inr (.inr (.inr f))))
theorem ym_ixin (w : Int) : vp_in (ym_I (w % 2)) 2 := ym_in (by omega) (by omega) (by decide)
theorem ym_ixc (w : Int) : (ym_I (w % 2)).toNatClampNeg = (w % 2).toNat := ym_I_cl ⟨by omega, by omega⟩
theorem ym_ixf {f : Nat → Option Nat} {w : Int} {r : Nat} (h : f (w % 2).toNat = some r) : f (ym_I (w % 2)).toNatClampNeg = some r := by rw [ym_ixc]; exact h
theorem ym_upid {f : Nat → Option Nat} {k r : Nat} (h : f k = some r) : va_up f k (some r) = f := by
  funext j
  unfold va_up
  by_cases q : j = k
  · rw [if_pos q, q, h]
  · rw [if_neg q]
theorem ym_vne {a r q n : Nat} (h : a = r ∨ n ≤ a) (h1 : q ≠ r) (h2 : q < n) : a ≠ q := by
  rcases h with h | h
  · rw [h]; exact fun e => h1 e.symm
  · omega
/-- the rest of an int by 12, as the desk and the law take it -/
def ym_rs (b : Int) : Int := b % 2147483648 % 12
theorem ym_rs_of (b : Int) : Int.tmod (b % 2147483648) 12 = ym_rs b := Int.tmod_eq_emod_of_nonneg (by omega)
theorem ym_rs_ran (b : Int) : 0 ≤ ym_rs b ∧ ym_rs b ≤ 11 := by unfold ym_rs; omega
/-- the months' count after 'years' -/
def ym_ys (c n : Int) : Int := if -999999 < c / 12 + n ∧ c / 12 + n < 999999 then c + 12 * n else c
theorem ym_ys_t {c n : Int} (h1 : -999999 < c / 12 + n) (h2 : c / 12 + n < 999999) : ym_ys c n = c + 12 * n := if_pos ⟨h1, h2⟩
theorem ym_ys_f {c n : Int} (h : ¬ (-999999 < c / 12 + n ∧ c / 12 + n < 999999)) : ym_ys c n = c := if_neg h
/-- keep: its answer, the months' count after it -/
def ym_kp (c : Int) : Int := if -900000 ≤ c / 12 ∧ c / 12 ≤ 900000 then 1 else 0
def ym_kc (c : Int) : Int := if -900000 ≤ c / 12 ∧ c / 12 ≤ 900000 then c else 24000
theorem ym_k_t {c : Int} (h : -900000 ≤ c / 12 ∧ c / 12 ≤ 900000) : 1 = ym_kp c ∧ c = ym_kc c := ⟨(if_pos h).symm, (if_pos h).symm⟩
theorem ym_k_f {c : Int} (h : ¬ (-900000 ≤ c / 12 ∧ c / 12 ≤ 900000)) : 0 = ym_kp c ∧ 24000 = ym_kc c := ⟨(if_neg h).symm, (if_neg h).symm⟩
/-- the order of two counts -/
def ym_or (c0 c1 : Int) : Int := if c0 < c1 then -1 else if c1 < c0 then 1 else 0
theorem ym_or_lt {c0 c1 : Int} (h : ym_cm (c0 / 12) (c0 % 12 + 1) (c1 / 12) (c1 % 12 + 1) < 0) : -1 = ym_or c0 c1 := by
  unfold ym_cm at h
  unfold ym_or
  by_cases q : c0 / 12 - c1 / 12 = 0
  · rw [if_pos q] at h
    rw [if_pos (by omega)]
  · rw [if_neg q] at h
    rw [if_pos (by omega)]
theorem ym_or_gt {c0 c1 : Int} (h : 0 < ym_cm (c0 / 12) (c0 % 12 + 1) (c1 / 12) (c1 % 12 + 1)) : 1 = ym_or c0 c1 := by
  unfold ym_cm at h
  unfold ym_or
  by_cases q : c0 / 12 - c1 / 12 = 0
  · rw [if_pos q] at h
    rw [if_neg (by omega), if_pos (by omega)]
  · rw [if_neg q] at h
    rw [if_neg (by omega), if_pos (by omega)]
theorem ym_or_eq {c0 c1 : Int} (h1 : 0 ≤ ym_cm (c0 / 12) (c0 % 12 + 1) (c1 / 12) (c1 % 12 + 1)) (h2 : ym_cm (c0 / 12) (c0 % 12 + 1) (c1 / 12) (c1 % 12 + 1) ≤ 0) : 0 = ym_or c0 c1 := by
  unfold ym_cm at h1 h2
  unfold ym_or
  by_cases q : c0 / 12 - c1 / 12 = 0
  · rw [if_pos q] at h1 h2
    rw [if_neg (by omega), if_neg (by omega)]
  · rw [if_neg q] at h1 h2
    omega
theorem ym_cm_ran {c0 c1 : Int} (h0 : -50000000 ≤ c0) (h1 : c0 ≤ 50000000) (h2 : -50000000 ≤ c1) (h3 : c1 ≤ 50000000) : -10000000 ≤ ym_cm (c0 / 12) (c0 % 12 + 1) (c1 / 12) (c1 % 12 + 1) ∧ ym_cm (c0 / 12) (c0 % 12 + 1) (c1 / 12) (c1 % 12 + 1) ≤ 10000000 := by
  unfold ym_cm
  split <;> omega
/-- a desk's act: it answers rv; place k of the array holds a month of count c2, the old one or a new one; no other old cell changed -/
def ym_zM (D : va_G) (dY : ClassId) (q : Nat) (f : Nat → Option Nat) (k r : Nat) (c2 : Int) (rv : Option Value) : Option Value → Heap → Heap → Prop := fun v H H1 =>
  v = rv ∧ ∃ a : Nat, va_P D vwCl [(q, ym_ar dY (va_up f k (some a)))] H1 ∧ va_P D vwCl [(a, .inr (1, [.int (ym_I (c2 / 12)), .int (ym_I (c2 % 12 + 1))]))] H1 ∧ (a = r ∨ H.size ≤ a) ∧ H.size ≤ H1.size ∧ ∀ x : Nat, x < H.size → x ≠ q → H1[x]? = H[x]?
theorem ym_P1 {D : va_G} {q : Nat × va_E} {H : Heap} (h : va_at D vwCl q H) : va_P D vwCl [q] H := fun k x hx => by
  have hz : k < 1 := (List.getElem?_eq_some_iff.mp hx).1
  rw [show k = 0 by omega] at hx
  cases hx
  exact h
section YF
variable {p : Program} {l : Launch} {e : Env} {R : Room} {s : State} {m : MethodId} {args : Array Value} {below : List Frame} {meth : Method} {c : Code} {H : Heap} {locs : List Loc} {cells slots : Nat} {Q : State → Prop} {cc : ByteArray} {pc : Nat} {ls : Array Slot} {rest : List Value} {D : va_G} {tys : List (ClassId × FieldType)}
theorem ym_aldq (hx : p.tables.exec = Jvm.exec) (hb : c.code = cc) (hK : va_K D vwCl tys s) {a n : Nat} {cA : ClassId} {f : Nat → Option Nat} (hP : va_P D vwCl [(a, .inl (cA, n, .inr (.inr (.inr (.inr f)))))] H) (t0 : Nat) {C : String} (ht : tys[t0]? = some (cA, .object C)) {i : Int32} (hin : vp_in i n) {r : Nat} (hf : f i.toNatClampNeg = some r) (hdg : decode cc pc = .ok (.aaload, 1))
    (kk : W p l e R s m args below meth c H locs cells slots Q (F0 m (pc + 1) ls (.ref r :: rest))) : W p l e R s m args below meth c H locs cells slots Q (F0 m pc ls (.int i :: .ref a :: rest)) := va_aldq hx hb hK hP 0 t0 rfl ht hin hdg (by rw [hf]; exact kk)
theorem ym_aast (hx : p.tables.exec = Jvm.exec) (hb : c.code = cc) (hK : va_K D vwCl tys s) {a n v k : Nat} {cA : ClassId} {f : Nat → Option Nat} {vs : List Value} (hP : va_P D vwCl [(a, .inl (cA, n, .inr (.inr (.inr (.inr f)))))] H) (t0 : Nat) (ht : tys[t0]? = some (cA, .object RX3)) (hv : va_P D vwCl [(v, .inr (1, vs))] H) {i : Int32} (hin : vp_in i n) (hk : i.toNatClampNeg = k) (hdg : decode cc pc = .ok (.aastore, 1))
    (kk : ∀ (H1 : Heap), va_P D vwCl [(a, .inl (cA, n, .inr (.inr (.inr (.inr (va_up f k (some v)))))))] H1 → H1.size = H.size → (∀ x : Nat, x ≠ a → H1[x]? = H[x]?) → W p l e R s m args below meth c H1 (locs ++ [⟨a, k⟩]) cells slots Q (F0 m (pc + 1) ls rest)) : W p l e R s m args below meth c H locs cells slots Q (F0 m pc ls (.ref v :: .int i :: .ref a :: rest)) := by
  subst hk
  have hlt : i.toNatClampNeg < n := Nat.not_le.mp fun q => hin (Or.inr q)
  have h0 : ¬ i < 0 := fun q => hin (Or.inl q)
  obtain ⟨r', hr', cellV, g1, g2, g3, -⟩ := hv 0 _ rfl
  have hcls := (hK.1 1 (RX3, TX3, 2) rfl).2
  obtain ⟨kA, comp, k1, k2, k3, -⟩ := (hK.2 t0 _ ht).2
  have hcomp : comp = D.1 1 := Option.some.inj (k3.symm.trans hcls.1)
  subst hcomp
  obtain ⟨kC, hkC, -⟩ := hcls.2
  refine W.aast hx hb (hP 0 _ rfl) (fun q h => by cases h) (fun h => by cases h) k1 k2 rfl hkC ⟨h0, by show _ < (arrV _ _ _).slots.size; rw [arrV_size]; exact hlt⟩ g1 (fun q h => by rw [g3] at h; cases h) (by rw [g2]; exact hkC) (by rw [g2]; exact va_assign hcls) rfl rfl hdg fun H1 e z oq => ?_
  refine kk H1 (ym_P1 ?_) z oq
  show H1[a]? = some (vp_cell _ _)
  rw [e]
  rw [vp_cell_q, vp_cell_q, arrV_store]
  congr 2
  funext q
  by_cases hq : q = i.toNatClampNeg
  · subst hq
    simp [updV, va_up, va_rf]
  · simp [updV, va_up, hq]
end YF
set_option maxHeartbeats 4000000 in
set_option maxRecDepth 100000 in
/-- the year at a place -/
theorem ym_dYear (l : Launch) (n0 : Nat) (ad : Nat → Nat) (D : va_G) (dY : ClassId) (o : Nat) (q : Nat) (r : Nat) (f : Nat → Option Nat) (cn : Int) (wh : Int) (hf : f (wh % 2).toNat = some r) : Met l yX1_year (ws_ yX1_year cX1_year 2 (some .int)) ({ frames := 1, cells := 0, slots := 0, locals := 20 }) (va_Pc [.ref o, .int (ym_I wh)] (ym_G (ym_w n0 ad D [(dY, .object "YearMonth")] [(o, .inr (0, [.ref q])), (q, ym_ar dY f), (r, .inr (1, [.int (ym_I (cn / 12)), .int (ym_I (cn % 12 + 1))]))]))) (ym_Q (ym_zP (.int (ym_I (cn / 12))))) 0 0 (fun _ => False) := by
  refine Met.ofW (cc := cX1_year) (maxL := 2) (ret := (some .int)) (by decide) rfl ?_
  intro p e s m args below meth c s₁ B hml hv
  obtain ⟨rfl, hkw, hK, hP⟩ := hv
  have hx := B.exec
  have hb := B.bytes
  have hr := B.returns
  have hts := atoms_spec (ws := ws_ yX1_year cX1_year 2 (some .int)) B.pre
  have hts : ∀ w ∈ lw_all, w.before _ s = true := fun w h => hts w (List.mem_cons_of_mem _ h)
  have hown : s.vm.findClass RX1 = some m.cls := findClass_of_methodNamed B.named
  have hlocks := B.notSynchronized
  have hF : CallFix p m c cX1_year 2 s _ lw_all RX1 := ⟨hx, hb, hml, hown, hts⟩
  have hl := lv_entry ([.ref o, .int (ym_I wh)]) (n := 2) (Nat.le_of_ble_eq_true rfl)
  rw [lg_entry_eq]
  generalize (lg_sl ([.ref o, .int (ym_I wh)]) ++ List.replicate (2 - (lg_sl ([.ref o, .int (ym_I wh)])).length) Slot.unset).toArray = ls at hl ⊢
  have hl : lv_has ls 2 [(0, .ref o), (1, .int (ym_I wh))] := hl
  have hE : ym_ext s.heap s.heap := ym_ext_rf
  have hPo := hP.sub (ws' := [(o, .inr (0, [.ref q]))]) [0] rfl
  have hPq := hP.sub (ws' := [(q, ym_ar dY f)]) [1] rfl
  have hPr := hP.sub (ws' := [(r, .inr (1, [.int (ym_I (cn / 12)), .int (ym_I (cn % 12 + 1))]))]) [2] rfl
  refine lv_aload_n hx hb dX1_year_0 rfl (lv_at hl 0 rfl) ?_
  refine va_get (D := D) (ci := 0) (v := .ref q) (C := RX1) (T := TX1) (N := 1) hx hb hts in_X1 hown hK hPo 0 rfl rfl 0 (by decide) (hts _ q142) (fun _ h9 => h9) rfl dX1_year_1 ?_
  refine lv_iload_n hx hb dX1_year_4 rfl (lv_at hl 1 rfl) ?_
  refine ym_iconst hx hb dX1_year_5 ?_
  refine ym_iand1 hx hb dX1_year_6 ?_
  refine ym_aldq (C := "YearMonth") hx hb hK hPq 0 rfl (ym_ixin wh) (ym_ixf hf) dX1_year_7 ?_
  refine ym_callP (ym_rV (C := RX3) (As := []) (rest := []) hF (ym_getYear l n0 ad D r (cn / 12) (cn % 12 + 1)) (cwV 0 hts (lw_V q193 q194 q195 q5 q196) rfl rfl rfl (by decide +kernel) ⟨Nat.le_of_ble_eq_true rfl, Nat.le_of_ble_eq_true rfl⟩) ym_w_mv (ym_w_of hkw (hK.sub (tys' := []) [] rfl) hPr) (va_recv hK hPr (ci := 1) (q0 := 0) rfl rfl) rfl hl.1 rfl (Nat.le_of_ble_eq_true rfl) dX1_year_8 ⟨Nat.le_of_ble_eq_true rfl, Nat.le_of_ble_eq_true rfl⟩) ?_
  exact ym_retI hx hb hr hlocks ⟨rfl, rfl⟩ (fun _ h => absurd h List.not_mem_nil) dX1_year_11
set_option maxHeartbeats 4000000 in
set_option maxRecDepth 100000 in
/-- the month at a place -/
theorem ym_dMonth (l : Launch) (n0 : Nat) (ad : Nat → Nat) (D : va_G) (dY : ClassId) (o : Nat) (q : Nat) (r : Nat) (f : Nat → Option Nat) (cn : Int) (wh : Int) (hf : f (wh % 2).toNat = some r) : Met l yX1_month (ws_ yX1_month cX1_month 2 (some .int)) ({ frames := 1, cells := 0, slots := 0, locals := 20 }) (va_Pc [.ref o, .int (ym_I wh)] (ym_G (ym_w n0 ad D [(dY, .object "YearMonth")] [(o, .inr (0, [.ref q])), (q, ym_ar dY f), (r, .inr (1, [.int (ym_I (cn / 12)), .int (ym_I (cn % 12 + 1))]))]))) (ym_Q (ym_zP (.int (ym_I (cn % 12 + 1))))) 0 0 (fun _ => False) := by
  refine Met.ofW (cc := cX1_month) (maxL := 2) (ret := (some .int)) (by decide) rfl ?_
  intro p e s m args below meth c s₁ B hml hv
  obtain ⟨rfl, hkw, hK, hP⟩ := hv
  have hx := B.exec
  have hb := B.bytes
  have hr := B.returns
  have hts := atoms_spec (ws := ws_ yX1_month cX1_month 2 (some .int)) B.pre
  have hts : ∀ w ∈ lw_all, w.before _ s = true := fun w h => hts w (List.mem_cons_of_mem _ h)
  have hown : s.vm.findClass RX1 = some m.cls := findClass_of_methodNamed B.named
  have hlocks := B.notSynchronized
  have hF : CallFix p m c cX1_month 2 s _ lw_all RX1 := ⟨hx, hb, hml, hown, hts⟩
  have hl := lv_entry ([.ref o, .int (ym_I wh)]) (n := 2) (Nat.le_of_ble_eq_true rfl)
  rw [lg_entry_eq]
  generalize (lg_sl ([.ref o, .int (ym_I wh)]) ++ List.replicate (2 - (lg_sl ([.ref o, .int (ym_I wh)])).length) Slot.unset).toArray = ls at hl ⊢
  have hl : lv_has ls 2 [(0, .ref o), (1, .int (ym_I wh))] := hl
  have hE : ym_ext s.heap s.heap := ym_ext_rf
  have hPo := hP.sub (ws' := [(o, .inr (0, [.ref q]))]) [0] rfl
  have hPq := hP.sub (ws' := [(q, ym_ar dY f)]) [1] rfl
  have hPr := hP.sub (ws' := [(r, .inr (1, [.int (ym_I (cn / 12)), .int (ym_I (cn % 12 + 1))]))]) [2] rfl
  refine lv_aload_n hx hb dX1_month_0 rfl (lv_at hl 0 rfl) ?_
  refine va_get (D := D) (ci := 0) (v := .ref q) (C := RX1) (T := TX1) (N := 1) hx hb hts in_X1 hown hK hPo 0 rfl rfl 0 (by decide) (hts _ q142) (fun _ h9 => h9) rfl dX1_month_1 ?_
  refine lv_iload_n hx hb dX1_month_4 rfl (lv_at hl 1 rfl) ?_
  refine ym_iconst hx hb dX1_month_5 ?_
  refine ym_iand1 hx hb dX1_month_6 ?_
  refine ym_aldq (C := "YearMonth") hx hb hK hPq 0 rfl (ym_ixin wh) (ym_ixf hf) dX1_month_7 ?_
  refine ym_callP (ym_rV (C := RX3) (As := []) (rest := []) hF (ym_getMonthValue l n0 ad D r (cn / 12) (cn % 12 + 1)) (cwV 0 hts (lw_V q264 q265 q266 q5 q267) rfl rfl rfl (by decide +kernel) ⟨Nat.le_of_ble_eq_true rfl, Nat.le_of_ble_eq_true rfl⟩) ym_w_mv (ym_w_of hkw (hK.sub (tys' := []) [] rfl) hPr) (va_recv hK hPr (ci := 1) (q0 := 0) rfl rfl) rfl hl.1 rfl (Nat.le_of_ble_eq_true rfl) dX1_month_8 ⟨Nat.le_of_ble_eq_true rfl, Nat.le_of_ble_eq_true rfl⟩) ?_
  exact ym_retI hx hb hr hlocks ⟨rfl, rfl⟩ (fun _ h => absurd h List.not_mem_nil) dX1_month_11
set_option maxHeartbeats 4000000 in
set_option maxRecDepth 100000 in
/-- the month's length at a place -/
theorem ym_dLength (l : Launch) (n0 : Nat) (ad : Nat → Nat) (D : va_G) (dY : ClassId) (o : Nat) (q : Nat) (r : Nat) (f : Nat → Option Nat) (cn : Int) (wh : Int) (hf : f (wh % 2).toNat = some r) (hc1 : -50000000 ≤ cn) (hc2 : cn ≤ 50000000) : Met l yX1_length (ws_ yX1_length cX1_length 2 (some .int)) ({ frames := 3, cells := 0, slots := 0, locals := 62 }) (va_Pc [.ref o, .int (ym_I wh)] (ym_G (ym_w n0 ad D [(dY, .object "YearMonth")] [(o, .inr (0, [.ref q])), (q, ym_ar dY f), (r, .inr (1, [.int (ym_I (cn / 12)), .int (ym_I (cn % 12 + 1))]))]))) (ym_Q (ym_zP (.int (ym_I (ym_ln (cn / 12) (cn % 12 + 1)))))) 0 0 (fun _ => False) := by
  refine Met.ofW (cc := cX1_length) (maxL := 2) (ret := (some .int)) (by decide) rfl ?_
  intro p e s m args below meth c s₁ B hml hv
  obtain ⟨rfl, hkw, hK, hP⟩ := hv
  have hx := B.exec
  have hb := B.bytes
  have hr := B.returns
  have hts := atoms_spec (ws := ws_ yX1_length cX1_length 2 (some .int)) B.pre
  have hts : ∀ w ∈ lw_all, w.before _ s = true := fun w h => hts w (List.mem_cons_of_mem _ h)
  have hown : s.vm.findClass RX1 = some m.cls := findClass_of_methodNamed B.named
  have hlocks := B.notSynchronized
  have hF : CallFix p m c cX1_length 2 s _ lw_all RX1 := ⟨hx, hb, hml, hown, hts⟩
  have hl := lv_entry ([.ref o, .int (ym_I wh)]) (n := 2) (Nat.le_of_ble_eq_true rfl)
  rw [lg_entry_eq]
  generalize (lg_sl ([.ref o, .int (ym_I wh)]) ++ List.replicate (2 - (lg_sl ([.ref o, .int (ym_I wh)])).length) Slot.unset).toArray = ls at hl ⊢
  have hl : lv_has ls 2 [(0, .ref o), (1, .int (ym_I wh))] := hl
  have hE : ym_ext s.heap s.heap := ym_ext_rf
  have hPo := hP.sub (ws' := [(o, .inr (0, [.ref q]))]) [0] rfl
  have hPq := hP.sub (ws' := [(q, ym_ar dY f)]) [1] rfl
  have hPr := hP.sub (ws' := [(r, .inr (1, [.int (ym_I (cn / 12)), .int (ym_I (cn % 12 + 1))]))]) [2] rfl
  refine lv_aload_n hx hb dX1_length_0 rfl (lv_at hl 0 rfl) ?_
  refine va_get (D := D) (ci := 0) (v := .ref q) (C := RX1) (T := TX1) (N := 1) hx hb hts in_X1 hown hK hPo 0 rfl rfl 0 (by decide) (hts _ q142) (fun _ h9 => h9) rfl dX1_length_1 ?_
  refine lv_iload_n hx hb dX1_length_4 rfl (lv_at hl 1 rfl) ?_
  refine ym_iconst hx hb dX1_length_5 ?_
  refine ym_iand1 hx hb dX1_length_6 ?_
  refine ym_aldq (C := "YearMonth") hx hb hK hPq 0 rfl (ym_ixin wh) (ym_ixf hf) dX1_length_7 ?_
  refine ym_callP (ym_rV (C := RX3) (As := []) (rest := []) hF (ym_lenMonth l n0 ad D r (cn / 12) (cn % 12 + 1) (by omega) (by omega) (by omega) (by omega)) (cwV 0 hts (lw_V q272 q273 q274 q5 q275) rfl rfl rfl (by decide +kernel) ⟨Nat.le_of_ble_eq_true rfl, Nat.le_of_ble_eq_true rfl⟩) ym_w_mv (ym_w_of hkw (hK.sub (tys' := []) [] rfl) hPr) (va_recv hK hPr (ci := 1) (q0 := 0) rfl rfl) rfl hl.1 rfl (Nat.le_of_ble_eq_true rfl) dX1_length_8 ⟨Nat.le_of_ble_eq_true rfl, Nat.le_of_ble_eq_true rfl⟩) ?_
  exact ym_retI hx hb hr hlocks ⟨rfl, rfl⟩ (fun _ h => absurd h List.not_mem_nil) dX1_length_11
set_option maxHeartbeats 4000000 in
set_option maxRecDepth 100000 in
/-- the year's length at a place -/
theorem ym_dYearLen (l : Launch) (n0 : Nat) (ad : Nat → Nat) (D : va_G) (dY : ClassId) (o : Nat) (q : Nat) (r : Nat) (f : Nat → Option Nat) (cn : Int) (wh : Int) (hf : f (wh % 2).toNat = some r) (hc1 : -50000000 ≤ cn) (hc2 : cn ≤ 50000000) : Met l yX1_yearLength (ws_ yX1_yearLength cX1_yearLength 2 (some .int)) ({ frames := 3, cells := 0, slots := 0, locals := 62 }) (va_Pc [.ref o, .int (ym_I wh)] (ym_G (ym_w n0 ad D [(dY, .object "YearMonth")] [(o, .inr (0, [.ref q])), (q, ym_ar dY f), (r, .inr (1, [.int (ym_I (cn / 12)), .int (ym_I (cn % 12 + 1))]))]))) (ym_Q (ym_zP (.int (ym_I (365 + ym_lp (cn / 12)))))) 0 0 (fun _ => False) := by
  refine Met.ofW (cc := cX1_yearLength) (maxL := 2) (ret := (some .int)) (by decide) rfl ?_
  intro p e s m args below meth c s₁ B hml hv
  obtain ⟨rfl, hkw, hK, hP⟩ := hv
  have hx := B.exec
  have hb := B.bytes
  have hr := B.returns
  have hts := atoms_spec (ws := ws_ yX1_yearLength cX1_yearLength 2 (some .int)) B.pre
  have hts : ∀ w ∈ lw_all, w.before _ s = true := fun w h => hts w (List.mem_cons_of_mem _ h)
  have hown : s.vm.findClass RX1 = some m.cls := findClass_of_methodNamed B.named
  have hlocks := B.notSynchronized
  have hF : CallFix p m c cX1_yearLength 2 s _ lw_all RX1 := ⟨hx, hb, hml, hown, hts⟩
  have hl := lv_entry ([.ref o, .int (ym_I wh)]) (n := 2) (Nat.le_of_ble_eq_true rfl)
  rw [lg_entry_eq]
  generalize (lg_sl ([.ref o, .int (ym_I wh)]) ++ List.replicate (2 - (lg_sl ([.ref o, .int (ym_I wh)])).length) Slot.unset).toArray = ls at hl ⊢
  have hl : lv_has ls 2 [(0, .ref o), (1, .int (ym_I wh))] := hl
  have hE : ym_ext s.heap s.heap := ym_ext_rf
  have hPo := hP.sub (ws' := [(o, .inr (0, [.ref q]))]) [0] rfl
  have hPq := hP.sub (ws' := [(q, ym_ar dY f)]) [1] rfl
  have hPr := hP.sub (ws' := [(r, .inr (1, [.int (ym_I (cn / 12)), .int (ym_I (cn % 12 + 1))]))]) [2] rfl
  refine lv_aload_n hx hb dX1_yearLength_0 rfl (lv_at hl 0 rfl) ?_
  refine va_get (D := D) (ci := 0) (v := .ref q) (C := RX1) (T := TX1) (N := 1) hx hb hts in_X1 hown hK hPo 0 rfl rfl 0 (by decide) (hts _ q142) (fun _ h9 => h9) rfl dX1_yearLength_1 ?_
  refine lv_iload_n hx hb dX1_yearLength_4 rfl (lv_at hl 1 rfl) ?_
  refine ym_iconst hx hb dX1_yearLength_5 ?_
  refine ym_iand1 hx hb dX1_yearLength_6 ?_
  refine ym_aldq (C := "YearMonth") hx hb hK hPq 0 rfl (ym_ixin wh) (ym_ixf hf) dX1_yearLength_7 ?_
  refine ym_callP (ym_rV (C := RX3) (As := []) (rest := []) hF (ym_lenYear l n0 ad D r (cn / 12) (cn % 12 + 1) (by omega) (by omega)) (cwV 0 hts (lw_V q320 q321 q322 q5 q323) rfl rfl rfl (by decide +kernel) ⟨Nat.le_of_ble_eq_true rfl, Nat.le_of_ble_eq_true rfl⟩) ym_w_mv (ym_w_of hkw (hK.sub (tys' := []) [] rfl) hPr) (va_recv hK hPr (ci := 1) (q0 := 0) rfl rfl) rfl hl.1 rfl (Nat.le_of_ble_eq_true rfl) dX1_yearLength_8 ⟨Nat.le_of_ble_eq_true rfl, Nat.le_of_ble_eq_true rfl⟩) ?_
  exact ym_retI hx hb hr hlocks ⟨rfl, rfl⟩ (fun _ h => absurd h List.not_mem_nil) dX1_yearLength_11
set_option maxHeartbeats 4000000 in
set_option maxRecDepth 100000 in
/-- leap year at a place -/
theorem ym_dLeap (l : Launch) (n0 : Nat) (ad : Nat → Nat) (D : va_G) (dY : ClassId) (o : Nat) (q : Nat) (r : Nat) (f : Nat → Option Nat) (cn : Int) (wh : Int) (hf : f (wh % 2).toNat = some r) (hc1 : -50000000 ≤ cn) (hc2 : cn ≤ 50000000) : Met l yX1_leap (ws_ yX1_leap cX1_leap 2 (some .boolean)) ({ frames := 2, cells := 0, slots := 0, locals := 42 }) (va_Pc [.ref o, .int (ym_I wh)] (ym_G (ym_w n0 ad D [(dY, .object "YearMonth")] [(o, .inr (0, [.ref q])), (q, ym_ar dY f), (r, .inr (1, [.int (ym_I (cn / 12)), .int (ym_I (cn % 12 + 1))]))]))) (ym_Q (ym_zP (.int (ym_I (ym_lp (cn / 12)))))) 0 0 (fun _ => False) := by
  refine Met.ofW (cc := cX1_leap) (maxL := 2) (ret := (some .boolean)) (by decide) rfl ?_
  intro p e s m args below meth c s₁ B hml hv
  obtain ⟨rfl, hkw, hK, hP⟩ := hv
  have hx := B.exec
  have hb := B.bytes
  have hr := B.returns
  have hts := atoms_spec (ws := ws_ yX1_leap cX1_leap 2 (some .boolean)) B.pre
  have hts : ∀ w ∈ lw_all, w.before _ s = true := fun w h => hts w (List.mem_cons_of_mem _ h)
  have hown : s.vm.findClass RX1 = some m.cls := findClass_of_methodNamed B.named
  have hlocks := B.notSynchronized
  have hF : CallFix p m c cX1_leap 2 s _ lw_all RX1 := ⟨hx, hb, hml, hown, hts⟩
  have hl := lv_entry ([.ref o, .int (ym_I wh)]) (n := 2) (Nat.le_of_ble_eq_true rfl)
  rw [lg_entry_eq]
  generalize (lg_sl ([.ref o, .int (ym_I wh)]) ++ List.replicate (2 - (lg_sl ([.ref o, .int (ym_I wh)])).length) Slot.unset).toArray = ls at hl ⊢
  have hl : lv_has ls 2 [(0, .ref o), (1, .int (ym_I wh))] := hl
  have hE : ym_ext s.heap s.heap := ym_ext_rf
  have hPo := hP.sub (ws' := [(o, .inr (0, [.ref q]))]) [0] rfl
  have hPq := hP.sub (ws' := [(q, ym_ar dY f)]) [1] rfl
  have hPr := hP.sub (ws' := [(r, .inr (1, [.int (ym_I (cn / 12)), .int (ym_I (cn % 12 + 1))]))]) [2] rfl
  refine lv_aload_n hx hb dX1_leap_0 rfl (lv_at hl 0 rfl) ?_
  refine va_get (D := D) (ci := 0) (v := .ref q) (C := RX1) (T := TX1) (N := 1) hx hb hts in_X1 hown hK hPo 0 rfl rfl 0 (by decide) (hts _ q142) (fun _ h9 => h9) rfl dX1_leap_1 ?_
  refine lv_iload_n hx hb dX1_leap_4 rfl (lv_at hl 1 rfl) ?_
  refine ym_iconst hx hb dX1_leap_5 ?_
  refine ym_iand1 hx hb dX1_leap_6 ?_
  refine ym_aldq (C := "YearMonth") hx hb hK hPq 0 rfl (ym_ixin wh) (ym_ixf hf) dX1_leap_7 ?_
  refine ym_callP (ym_rV (C := RX3) (As := []) (rest := []) hF (ym_leapYM l n0 ad D r (cn / 12) (cn % 12 + 1) (by omega) (by omega)) (cwV 0 hts (lw_V q315 q289 q290 q5 q291) rfl rfl rfl (by decide +kernel) ⟨Nat.le_of_ble_eq_true rfl, Nat.le_of_ble_eq_true rfl⟩) ym_w_mv (ym_w_of hkw (hK.sub (tys' := []) [] rfl) hPr) (va_recv hK hPr (ci := 1) (q0 := 0) rfl rfl) rfl hl.1 rfl (Nat.le_of_ble_eq_true rfl) dX1_leap_8 ⟨Nat.le_of_ble_eq_true rfl, Nat.le_of_ble_eq_true rfl⟩) ?_
  exact ym_retZ hx hb hr hlocks (ym_nar (ym_lp_01 _)) ⟨rfl, rfl⟩ (fun _ h => absurd h List.not_mem_nil) dX1_leap_11
set_option maxHeartbeats 4000000 in
set_option maxRecDepth 100000 in
/-- the first day at a place -/
theorem ym_dFirst (l : Launch) (n0 : Nat) (ad : Nat → Nat) (D : va_G) (dY : ClassId) (o : Nat) (q : Nat) (r : Nat) (f : Nat → Option Nat) (cn : Int) (wh : Int) (hf : f (wh % 2).toNat = some r) (hc1 : -50000000 ≤ cn) (hc2 : cn ≤ 50000000) : Met l yX1_firstDay (ws_ yX1_firstDay cX1_firstDay 2 (some .long)) ({ frames := 8, cells := 1, slots := 3, locals := 160 }) (va_Pc [.ref o, .int (ym_I wh)] (ym_G (ym_w n0 ad D [(dY, .object "YearMonth")] [(o, .inr (0, [.ref q])), (q, ym_ar dY f), (r, .inr (1, [.int (ym_I (cn / 12)), .int (ym_I (cn % 12 + 1))]))]))) (ym_Q (ym_zX (.long (ym_L (ym_fd (cn / 12) (cn % 12 + 1) + 1 - 1))))) 1 3 (fun _ => False) := by
  refine Met.ofW (cc := cX1_firstDay) (maxL := 2) (ret := (some .long)) (by decide) rfl ?_
  intro p e s m args below meth c s₁ B hml hv
  obtain ⟨rfl, hkw, hK, hP⟩ := hv
  have hx := B.exec
  have hb := B.bytes
  have hr := B.returns
  have hts := atoms_spec (ws := ws_ yX1_firstDay cX1_firstDay 2 (some .long)) B.pre
  have hts : ∀ w ∈ lw_all, w.before _ s = true := fun w h => hts w (List.mem_cons_of_mem _ h)
  have hown : s.vm.findClass RX1 = some m.cls := findClass_of_methodNamed B.named
  have hlocks := B.notSynchronized
  have hF : CallFix p m c cX1_firstDay 2 s _ lw_all RX1 := ⟨hx, hb, hml, hown, hts⟩
  have hl := lv_entry ([.ref o, .int (ym_I wh)]) (n := 2) (Nat.le_of_ble_eq_true rfl)
  rw [lg_entry_eq]
  generalize (lg_sl ([.ref o, .int (ym_I wh)]) ++ List.replicate (2 - (lg_sl ([.ref o, .int (ym_I wh)])).length) Slot.unset).toArray = ls at hl ⊢
  have hl : lv_has ls 2 [(0, .ref o), (1, .int (ym_I wh))] := hl
  have hE : ym_ext s.heap s.heap := ym_ext_rf
  have hPo := hP.sub (ws' := [(o, .inr (0, [.ref q]))]) [0] rfl
  have hPq := hP.sub (ws' := [(q, ym_ar dY f)]) [1] rfl
  have hPr := hP.sub (ws' := [(r, .inr (1, [.int (ym_I (cn / 12)), .int (ym_I (cn % 12 + 1))]))]) [2] rfl
  have r1 := ym_ln_ran (cn / 12) (cn % 12 + 1)
  refine lv_aload_n hx hb dX1_firstDay_0 rfl (lv_at hl 0 rfl) ?_
  refine va_get (D := D) (ci := 0) (v := .ref q) (C := RX1) (T := TX1) (N := 1) hx hb hts in_X1 hown hK hPo 0 rfl rfl 0 (by decide) (hts _ q142) (fun _ h9 => h9) rfl dX1_firstDay_1 ?_
  refine lv_iload_n hx hb dX1_firstDay_4 rfl (lv_at hl 1 rfl) ?_
  refine ym_iconst hx hb dX1_firstDay_5 ?_
  refine ym_iand1 hx hb dX1_firstDay_6 ?_
  refine ym_aldq (C := "YearMonth") hx hb hK hPq 0 rfl (ym_ixin wh) (ym_ixf hf) dX1_firstDay_7 ?_
  refine ym_iconst hx hb dX1_firstDay_8 ?_
  refine ym_callZ (ym_rV (C := RX3) (As := [.int (ym_I 1)]) (rest := []) hF (ym_atDay l n0 ad D r (cn / 12) (cn % 12 + 1) 1 (by omega) (by omega) (by omega) (by omega) (by omega) (by omega)) (cwV 1 hts (lw_V q328 q329 q330 q5 q331) rfl rfl rfl (by decide +kernel) ⟨Nat.le_of_ble_eq_true rfl, Nat.le_of_ble_eq_true rfl⟩) ym_w_mv (ym_w_of hkw (hK.sub (tys' := []) [] rfl) hPr) (va_recv hK hPr (ci := 1) (q0 := 0) rfl rfl) rfl hl.1 rfl (Nat.le_of_ble_eq_true rfl) dX1_firstDay_9 ⟨Nat.le_of_ble_eq_true rfl, Nat.le_of_ble_eq_true rfl⟩) (fun _ h => h.elim) (fun v H_1 hz => ?_)
  obtain ⟨a_3, rfl, hPa_4, ha_5, hE_2⟩ := hz
  have hkw := ym_ext_kw hE_2 hkw
  have hP_6 := ym_ext_P hE_2 hPo
  have hP_7 := ym_ext_P hE_2 hPq
  have hP_8 := ym_ext_P hE_2 hPr
  have hE_9 := ym_ext_tr hE hE_2
  refine W.eq (g2 := F0 m 12 ls [.ref a_3]) rfl ?_
  refine ym_callP (ym_rV (C := RX10) (As := []) (rest := []) hF (ym_epoch l n0 ad D a_3 (cn / 12) (cn % 12 + 1) 1 (by omega) (by omega) (by omega) (by omega) (by omega) (by omega)) (cwV 0 hts (lw_V q376 q377 q378 q17 q379) rfl rfl rfl (by decide +kernel) ⟨Nat.le_of_ble_eq_true rfl, Nat.le_of_ble_eq_true rfl⟩) ym_w_mv (ym_w_of hkw (hK.sub (tys' := []) [] rfl) hPa_4) (va_recv hK hPa_4 (ci := 2) (q0 := 0) rfl rfl) rfl hl.1 rfl (Nat.le_of_ble_eq_true rfl) dX1_firstDay_12 ⟨Nat.le_of_ble_eq_true rfl, Nat.le_of_ble_eq_true rfl⟩) ?_
  exact ym_retL hx hb hr hlocks ⟨rfl, hE_9⟩ (fun _ h => absurd h List.not_mem_nil) dX1_firstDay_15
set_option maxHeartbeats 4000000 in
set_option maxRecDepth 100000 in
/-- the last day at a place -/
theorem ym_dLast (l : Launch) (n0 : Nat) (ad : Nat → Nat) (D : va_G) (dY : ClassId) (o : Nat) (q : Nat) (r : Nat) (f : Nat → Option Nat) (cn : Int) (wh : Int) (hf : f (wh % 2).toNat = some r) (hc1 : -50000000 ≤ cn) (hc2 : cn ≤ 50000000) : Met l yX1_lastDay (ws_ yX1_lastDay cX1_lastDay 2 (some .long)) ({ frames := 8, cells := 1, slots := 3, locals := 159 }) (va_Pc [.ref o, .int (ym_I wh)] (ym_G (ym_w n0 ad D [(dY, .object "YearMonth")] [(o, .inr (0, [.ref q])), (q, ym_ar dY f), (r, .inr (1, [.int (ym_I (cn / 12)), .int (ym_I (cn % 12 + 1))]))]))) (ym_Q (ym_zX (.long (ym_L (ym_fd (cn / 12) (cn % 12 + 1) + ym_ln (cn / 12) (cn % 12 + 1) - 1))))) 1 3 (fun _ => False) := by
  refine Met.ofW (cc := cX1_lastDay) (maxL := 2) (ret := (some .long)) (by decide) rfl ?_
  intro p e s m args below meth c s₁ B hml hv
  obtain ⟨rfl, hkw, hK, hP⟩ := hv
  have hx := B.exec
  have hb := B.bytes
  have hr := B.returns
  have hts := atoms_spec (ws := ws_ yX1_lastDay cX1_lastDay 2 (some .long)) B.pre
  have hts : ∀ w ∈ lw_all, w.before _ s = true := fun w h => hts w (List.mem_cons_of_mem _ h)
  have hown : s.vm.findClass RX1 = some m.cls := findClass_of_methodNamed B.named
  have hlocks := B.notSynchronized
  have hF : CallFix p m c cX1_lastDay 2 s _ lw_all RX1 := ⟨hx, hb, hml, hown, hts⟩
  have hl := lv_entry ([.ref o, .int (ym_I wh)]) (n := 2) (Nat.le_of_ble_eq_true rfl)
  rw [lg_entry_eq]
  generalize (lg_sl ([.ref o, .int (ym_I wh)]) ++ List.replicate (2 - (lg_sl ([.ref o, .int (ym_I wh)])).length) Slot.unset).toArray = ls at hl ⊢
  have hl : lv_has ls 2 [(0, .ref o), (1, .int (ym_I wh))] := hl
  have hE : ym_ext s.heap s.heap := ym_ext_rf
  have hPo := hP.sub (ws' := [(o, .inr (0, [.ref q]))]) [0] rfl
  have hPq := hP.sub (ws' := [(q, ym_ar dY f)]) [1] rfl
  have hPr := hP.sub (ws' := [(r, .inr (1, [.int (ym_I (cn / 12)), .int (ym_I (cn % 12 + 1))]))]) [2] rfl
  have r1 := ym_ln_ran (cn / 12) (cn % 12 + 1)
  refine lv_aload_n hx hb dX1_lastDay_0 rfl (lv_at hl 0 rfl) ?_
  refine va_get (D := D) (ci := 0) (v := .ref q) (C := RX1) (T := TX1) (N := 1) hx hb hts in_X1 hown hK hPo 0 rfl rfl 0 (by decide) (hts _ q142) (fun _ h9 => h9) rfl dX1_lastDay_1 ?_
  refine lv_iload_n hx hb dX1_lastDay_4 rfl (lv_at hl 1 rfl) ?_
  refine ym_iconst hx hb dX1_lastDay_5 ?_
  refine ym_iand1 hx hb dX1_lastDay_6 ?_
  refine ym_aldq (C := "YearMonth") hx hb hK hPq 0 rfl (ym_ixin wh) (ym_ixf hf) dX1_lastDay_7 ?_
  refine ym_callZ (ym_rV (C := RX3) (As := []) (rest := []) hF (ym_atEnd l n0 ad D r (cn / 12) (cn % 12 + 1) (by omega) (by omega) (by omega) (by omega)) (cwV 0 hts (lw_V q403 q404 q405 q5 q406) rfl rfl rfl (by decide +kernel) ⟨Nat.le_of_ble_eq_true rfl, Nat.le_of_ble_eq_true rfl⟩) ym_w_mv (ym_w_of hkw (hK.sub (tys' := []) [] rfl) hPr) (va_recv hK hPr (ci := 1) (q0 := 0) rfl rfl) rfl hl.1 rfl (Nat.le_of_ble_eq_true rfl) dX1_lastDay_8 ⟨Nat.le_of_ble_eq_true rfl, Nat.le_of_ble_eq_true rfl⟩) (fun _ h => h.elim) (fun v H_1 hz => ?_)
  obtain ⟨a_3, rfl, hPa_4, ha_5, hE_2⟩ := hz
  have hkw := ym_ext_kw hE_2 hkw
  have hP_6 := ym_ext_P hE_2 hPo
  have hP_7 := ym_ext_P hE_2 hPq
  have hP_8 := ym_ext_P hE_2 hPr
  have hE_9 := ym_ext_tr hE hE_2
  refine W.eq (g2 := F0 m 11 ls [.ref a_3]) rfl ?_
  refine ym_callP (ym_rV (C := RX10) (As := []) (rest := []) hF (ym_epoch l n0 ad D a_3 (cn / 12) (cn % 12 + 1) (ym_ln (cn / 12) (cn % 12 + 1)) (by omega) (by omega) (by omega) (by omega) (by omega) (by omega)) (cwV 0 hts (lw_V q376 q377 q378 q17 q379) rfl rfl rfl (by decide +kernel) ⟨Nat.le_of_ble_eq_true rfl, Nat.le_of_ble_eq_true rfl⟩) ym_w_mv (ym_w_of hkw (hK.sub (tys' := []) [] rfl) hPa_4) (va_recv hK hPa_4 (ci := 2) (q0 := 0) rfl rfl) rfl hl.1 rfl (Nat.le_of_ble_eq_true rfl) dX1_lastDay_11 ⟨Nat.le_of_ble_eq_true rfl, Nat.le_of_ble_eq_true rfl⟩) ?_
  exact ym_retL hx hb hr hlocks ⟨rfl, hE_9⟩ (fun _ h => absurd h List.not_mem_nil) dX1_lastDay_14
set_option maxHeartbeats 4000000 in
set_option maxRecDepth 100000 in
/-- the order of both -/
theorem ym_dOrder (l : Launch) (n0 : Nat) (ad : Nat → Nat) (D : va_G) (dY : ClassId) (o : Nat) (q : Nat) (r0 : Nat) (r1 : Nat) (f : Nat → Option Nat) (c0 : Int) (c1 : Int) (hf0 : f 0 = some r0) (hf1 : f 1 = some r1) (ha1 : -50000000 ≤ c0) (ha2 : c0 ≤ 50000000) (hb1 : -50000000 ≤ c1) (hb2 : c1 ≤ 50000000) : Met l yX1_order (ws_ yX1_order cX1_order 2 (some .int)) ({ frames := 1, cells := 0, slots := 0, locals := 22 }) (va_Pc [.ref o] (ym_G (ym_w n0 ad D [(dY, .object "YearMonth")] [(o, .inr (0, [.ref q])), (q, ym_ar dY f), (r0, .inr (1, [.int (ym_I (c0 / 12)), .int (ym_I (c0 % 12 + 1))])), (r1, .inr (1, [.int (ym_I (c1 / 12)), .int (ym_I (c1 % 12 + 1))]))]))) (ym_Q (ym_zP (.int (ym_I (ym_or c0 c1))))) 0 0 (fun _ => False) := by
  refine Met.ofW (cc := cX1_order) (maxL := 2) (ret := (some .int)) (by decide) rfl ?_
  intro p e s m args below meth c s₁ B hml hv
  obtain ⟨rfl, hkw, hK, hP⟩ := hv
  have hx := B.exec
  have hb := B.bytes
  have hr := B.returns
  have hts := atoms_spec (ws := ws_ yX1_order cX1_order 2 (some .int)) B.pre
  have hts : ∀ w ∈ lw_all, w.before _ s = true := fun w h => hts w (List.mem_cons_of_mem _ h)
  have hown : s.vm.findClass RX1 = some m.cls := findClass_of_methodNamed B.named
  have hlocks := B.notSynchronized
  have hF : CallFix p m c cX1_order 2 s _ lw_all RX1 := ⟨hx, hb, hml, hown, hts⟩
  have hl := lv_entry ([.ref o]) (n := 2) (Nat.le_of_ble_eq_true rfl)
  rw [lg_entry_eq]
  generalize (lg_sl ([.ref o]) ++ List.replicate (2 - (lg_sl ([.ref o])).length) Slot.unset).toArray = ls at hl ⊢
  have hl : lv_has ls 2 [(0, .ref o)] := hl
  have hE : ym_ext s.heap s.heap := ym_ext_rf
  have hPo := hP.sub (ws' := [(o, .inr (0, [.ref q]))]) [0] rfl
  have hPq := hP.sub (ws' := [(q, ym_ar dY f)]) [1] rfl
  have hPr0 := hP.sub (ws' := [(r0, .inr (1, [.int (ym_I (c0 / 12)), .int (ym_I (c0 % 12 + 1))]))]) [2] rfl
  have hPr1 := hP.sub (ws' := [(r1, .inr (1, [.int (ym_I (c1 / 12)), .int (ym_I (c1 % 12 + 1))]))]) [3] rfl
  have rr1 := ym_cm_ran ha1 ha2 hb1 hb2
  refine lv_aload_n hx hb dX1_order_0 rfl (lv_at hl 0 rfl) ?_
  refine va_get (D := D) (ci := 0) (v := .ref q) (C := RX1) (T := TX1) (N := 1) hx hb hts in_X1 hown hK hPo 0 rfl rfl 0 (by decide) (hts _ q142) (fun _ h9 => h9) rfl dX1_order_1 ?_
  refine ym_iconst hx hb dX1_order_4 ?_
  refine ym_aldq (C := "YearMonth") (i := ym_I 0) hx hb hK hPq 0 rfl (ym_in (by decide) (by decide) (by decide)) (by rw [ym_I_cl ⟨by decide, by decide⟩]; exact hf0) dX1_order_5 ?_
  refine lv_aload_n hx hb dX1_order_6 rfl (lv_at hl 0 rfl) ?_
  refine va_get (D := D) (ci := 0) (v := .ref q) (C := RX1) (T := TX1) (N := 1) hx hb hts in_X1 hown hK hPo 0 rfl rfl 0 (by decide) (hts _ q142) (fun _ h9 => h9) rfl dX1_order_7 ?_
  refine ym_iconst hx hb dX1_order_10 ?_
  refine ym_aldq (C := "YearMonth") (i := ym_I 1) hx hb hK hPq 0 rfl (ym_in (by decide) (by decide) (by decide)) (by rw [ym_I_cl ⟨by decide, by decide⟩]; exact hf1) dX1_order_11 ?_
  refine ym_callP (ym_rV (C := RX3) (As := [.ref r1]) (rest := []) hF (ym_compare l n0 ad D r0 (c0 / 12) (c0 % 12 + 1) r1 (c1 / 12) (c1 % 12 + 1) (by omega) (by omega) (by omega) (by omega) (by omega) (by omega) (by omega) (by omega)) (cwV 1 hts (lw_V q412 q413 q414 q5 q415) rfl rfl rfl (by decide +kernel) ⟨Nat.le_of_ble_eq_true rfl, Nat.le_of_ble_eq_true rfl⟩) ym_w_mv (ym_w_of hkw (hK.sub (tys' := []) [] rfl) (hPr0.app hPr1)) (va_recv hK hPr0 (ci := 1) (q0 := 0) rfl rfl) rfl hl.1 rfl (Nat.le_of_ble_eq_true rfl) dX1_order_12 ⟨Nat.le_of_ble_eq_true rfl, Nat.le_of_ble_eq_true rfl⟩) ?_
  refine lv_istore_n (lv' := [(1, .int (ym_I (ym_cm (c0 / 12) (c0 % 12 + 1) (c1 / 12) (c1 % 12 + 1)))), (0, .ref o)]) hx hb dX1_order_15 rfl hl (by decide) rfl (fun ls hl => ?_)
  refine lv_iload_n hx hb dX1_order_16 rfl (lv_at hl 0 rfl) ?_
  refine ym_if_ge (tgt := 24) hx hb ⟨by omega, by omega⟩ dX1_order_17 (by decide) (fun c_1 => ?_) (fun c_1 => ?_)
  · refine lv_iload_n hx hb dX1_order_24 rfl (lv_at hl 0 rfl) ?_
    refine ym_if_le (tgt := 32) hx hb ⟨by omega, by omega⟩ dX1_order_25 (by decide) (fun c_2 => ?_) (fun c_2 => ?_)
    · refine ym_iconst hx hb dX1_order_32 ?_
      exact ym_retI hx hb hr hlocks (ym_zPI (ym_or_eq c_1 c_2)) (fun _ h => absurd h List.not_mem_nil) dX1_order_33
    · refine ym_iconst hx hb dX1_order_28 ?_
      refine lv_goto (tgt := 33) hx hb dX1_order_29 (by decide) ?_
      exact ym_retI hx hb hr hlocks (ym_zPI (ym_or_gt c_2)) (fun _ h => absurd h List.not_mem_nil) dX1_order_33
  · refine ym_iconst hx hb dX1_order_20 ?_
    refine lv_goto (tgt := 33) hx hb dX1_order_21 (by decide) ?_
    exact ym_retI hx hb hr hlocks (ym_zPI (ym_or_lt c_1)) (fun _ h => absurd h List.not_mem_nil) dX1_order_33
set_option maxHeartbeats 4000000 in
set_option maxRecDepth 100000 in
/-- a month set -/
theorem ym_dSet (l : Launch) (n0 : Nat) (ad : Nat → Nat) (D : va_G) (dY : ClassId) (o : Nat) (q : Nat) (r : Nat) (f : Nat → Option Nat) (cn : Int) (wh : Int) (a : Int) (b : Int) (hf : f (wh % 2).toNat = some r) (hqr : q ≠ r) (hc1 : -50000000 ≤ cn) (hc2 : cn ≤ 50000000) (ha1 : -2147483648 ≤ a) (ha2 : a ≤ 2147483647) (hb1 : -2147483648 ≤ b) (hb2 : b ≤ 2147483647) : Met l yX1_set (ws_ yX1_set cX1_set 4 none) ({ frames := 5, cells := 1, slots := 2, locals := 108 }) (va_Pc [.ref o, .int (ym_I wh), .int (ym_I a), .int (ym_I b)] (ym_G (ym_w n0 ad D [(dY, .object "YearMonth")] [(o, .inr (0, [.ref q])), (q, ym_ar dY f), (r, .inr (1, [.int (ym_I (cn / 12)), .int (ym_I (cn % 12 + 1))]))]))) (ym_Q (ym_zM D dY q f (wh % 2).toNat r (12 * Int.tmod a 1000000 + ym_rs b) none)) 1 2 (fun x => x = q) := by
  refine Met.ofW (cc := cX1_set) (maxL := 4) (ret := none) (by decide) rfl ?_
  intro p e s m args below meth c s₁ B hml hv
  obtain ⟨rfl, hkw, hK, hP⟩ := hv
  have hx := B.exec
  have hb := B.bytes
  have hr := B.returns
  have hts := atoms_spec (ws := ws_ yX1_set cX1_set 4 none) B.pre
  have hts : ∀ w ∈ lw_all, w.before _ s = true := fun w h => hts w (List.mem_cons_of_mem _ h)
  have hown : s.vm.findClass RX1 = some m.cls := findClass_of_methodNamed B.named
  have hlocks := B.notSynchronized
  have hF : CallFix p m c cX1_set 4 s _ lw_all RX1 := ⟨hx, hb, hml, hown, hts⟩
  have hl := lv_entry ([.ref o, .int (ym_I wh), .int (ym_I a), .int (ym_I b)]) (n := 4) (Nat.le_of_ble_eq_true rfl)
  rw [lg_entry_eq]
  generalize (lg_sl ([.ref o, .int (ym_I wh), .int (ym_I a), .int (ym_I b)]) ++ List.replicate (4 - (lg_sl ([.ref o, .int (ym_I wh), .int (ym_I a), .int (ym_I b)])).length) Slot.unset).toArray = ls at hl ⊢
  have hl : lv_has ls 4 [(0, .ref o), (1, .int (ym_I wh)), (2, .int (ym_I a)), (3, .int (ym_I b))] := hl
  have hE : ym_ext s.heap s.heap := ym_ext_rf
  have hPo := hP.sub (ws' := [(o, .inr (0, [.ref q]))]) [0] rfl
  have hPq := hP.sub (ws' := [(q, ym_ar dY f)]) [1] rfl
  have hPr := hP.sub (ws' := [(r, .inr (1, [.int (ym_I (cn / 12)), .int (ym_I (cn % 12 + 1))]))]) [2] rfl
  have t1 := ym_trem a
  have t2 := ym_rs_ran b
  refine lv_aload_n hx hb dX1_set_0 rfl (lv_at hl 0 rfl) ?_
  refine va_get (D := D) (ci := 0) (v := .ref q) (C := RX1) (T := TX1) (N := 1) hx hb hts in_X1 hown hK hPo 0 rfl rfl 0 (by decide) (hts _ q142) (fun _ h9 => h9) rfl dX1_set_1 ?_
  refine lv_iload_n hx hb dX1_set_4 rfl (lv_at hl 1 rfl) ?_
  refine ym_iconst hx hb dX1_set_5 ?_
  refine ym_iand1 hx hb dX1_set_6 ?_
  refine lv_iload_n hx hb dX1_set_7 rfl (lv_at hl 2 rfl) ?_
  refine ym_ldc 1000000 hx hb hown (hts _ q150) (by decide) dX1_set_8 ?_
  refine ym_irem hx hb ⟨by omega, by omega⟩ ⟨by omega, by omega⟩ (by omega) dX1_set_10 ?_
  refine ym_iconst hx hb dX1_set_11 ?_
  refine lv_iload_n hx hb dX1_set_12 rfl (lv_at hl 3 rfl) ?_
  refine ym_ldc 2147483647 hx hb hown (hts _ q151) (by decide) dX1_set_13 ?_
  refine ym_iandM hx hb dX1_set_15 ?_
  refine ym_bipush 12 hx hb dX1_set_16 (by decide) ?_
  refine ym_irem hx hb ⟨by omega, by omega⟩ ⟨by omega, by omega⟩ (by omega) dX1_set_18 ?_
  refine ym_seti (ym_rs b) (ym_rs_of b) ?_
  refine ym_iadd hx hb dX1_set_19 ?_
  refine ym_callZ (ym_rS (As := [.int (ym_I (Int.tmod a 1000000)), .int (ym_I (1 + (ym_rs b)))]) (rest := [.int (ym_I (wh % 2)), .ref q]) hF (ym_ofYM l n0 ad D (Int.tmod a 1000000) (1 + (ym_rs b)) (by omega) (by omega) (by omega) (by omega)) (va_cwS 2 hts (lw_S q29 q30 q5 q31) rfl rfl rfl (by decide +kernel) ⟨Nat.le_of_ble_eq_true rfl, Nat.le_of_ble_eq_true rfl⟩) ym_w_mv (ym_w_of hkw (hK.sub (tys' := []) [] rfl) ym_P0) rfl hl.1 rfl (Nat.le_of_ble_eq_true rfl) dX1_set_20 ⟨Nat.le_of_ble_eq_true rfl, Nat.le_of_ble_eq_true rfl⟩) (fun _ h => h.elim) (fun v H_1 hz => ?_)
  obtain ⟨a_3, rfl, hPa_4, ha_5, hE_2⟩ := hz
  have hkw := ym_ext_kw hE_2 hkw
  have hP_6 := ym_ext_P hE_2 hPo
  have hP_7 := ym_ext_P hE_2 hPq
  have hP_8 := ym_ext_P hE_2 hPr
  have hE_9 := ym_ext_tr hE hE_2
  refine W.eq (g2 := F0 m 23 ls [.ref a_3, .int (ym_I (wh % 2)), .ref q]) rfl ?_
  have ha_10 : a_3 = r ∨ s.heap.size ≤ a_3 := Or.inr (by rcases ha_5 with h9 | h9; exact h9.elim; exact h9)
  refine ym_aast hx hb hK hP_7 0 rfl hPa_4 (ym_ixin wh) (ym_ixc wh) dX1_set_23 (fun H_11 hPq_12 hz_13 hk_14 => ?_)
  have hPv_15_n : a_3 ≠ q := ym_vne ha_10 hqr ((hPq 0 _ rfl).lt)
  have hPv_15 := ym_Pc (y2 := (12 * Int.tmod a 1000000 + ym_rs b) / 12) (m2 := (12 * Int.tmod a 1000000 + ym_rs b) % 12 + 1) (by omega) (by omega) (hPa_4.kept (H1 := H_11) (fun k x hx2 => by rw [show x.1 = a_3 by cases k with | zero => cases hx2; rfl | succ k => simp at hx2]; exact hk_14 _ hPv_15_n))
  exact ym_retV hx hb hr hlocks ⟨rfl, a_3, hPq_12, hPv_15, ha_10, by rw [hz_13]; exact hE_9.1, fun x hx2 hne => (hk_14 x hne).trans (hE_9.2 x hx2)⟩ (fun x h => by simp at h; rw [h]) dX1_set_24
set_option maxHeartbeats 4000000 in
set_option maxRecDepth 100000 in
/-- moved by months -/
theorem ym_dMonths (l : Launch) (n0 : Nat) (ad : Nat → Nat) (D : va_G) (dY : ClassId) (o : Nat) (q : Nat) (r : Nat) (f : Nat → Option Nat) (cn : Int) (wh : Int) (a : Int) (hf : f (wh % 2).toNat = some r) (hqr : q ≠ r) (hc1 : -50000000 ≤ cn) (hc2 : cn ≤ 50000000) (ha1 : -2147483648 ≤ a) (ha2 : a ≤ 2147483647) : Met l yX1_months (ws_ yX1_months cX1_months 3 none) ({ frames := 6, cells := 1, slots := 2, locals := 137 }) (va_Pc [.ref o, .int (ym_I wh), .int (ym_I a)] (ym_G (ym_w n0 ad D [(dY, .object "YearMonth")] [(o, .inr (0, [.ref q])), (q, ym_ar dY f), (r, .inr (1, [.int (ym_I (cn / 12)), .int (ym_I (cn % 12 + 1))]))]))) (ym_Q (ym_zM D dY q f (wh % 2).toNat r (cn + Int.tmod a 1000000) none)) 1 2 (fun x => x = q) := by
  refine Met.ofW (cc := cX1_months) (maxL := 3) (ret := none) (by decide) rfl ?_
  intro p e s m args below meth c s₁ B hml hv
  obtain ⟨rfl, hkw, hK, hP⟩ := hv
  have hx := B.exec
  have hb := B.bytes
  have hr := B.returns
  have hts := atoms_spec (ws := ws_ yX1_months cX1_months 3 none) B.pre
  have hts : ∀ w ∈ lw_all, w.before _ s = true := fun w h => hts w (List.mem_cons_of_mem _ h)
  have hown : s.vm.findClass RX1 = some m.cls := findClass_of_methodNamed B.named
  have hlocks := B.notSynchronized
  have hF : CallFix p m c cX1_months 3 s _ lw_all RX1 := ⟨hx, hb, hml, hown, hts⟩
  have hl := lv_entry ([.ref o, .int (ym_I wh), .int (ym_I a)]) (n := 3) (Nat.le_of_ble_eq_true rfl)
  rw [lg_entry_eq]
  generalize (lg_sl ([.ref o, .int (ym_I wh), .int (ym_I a)]) ++ List.replicate (3 - (lg_sl ([.ref o, .int (ym_I wh), .int (ym_I a)])).length) Slot.unset).toArray = ls at hl ⊢
  have hl : lv_has ls 3 [(0, .ref o), (1, .int (ym_I wh)), (2, .int (ym_I a))] := hl
  have hE : ym_ext s.heap s.heap := ym_ext_rf
  have hPo := hP.sub (ws' := [(o, .inr (0, [.ref q]))]) [0] rfl
  have hPq := hP.sub (ws' := [(q, ym_ar dY f)]) [1] rfl
  have hPr := hP.sub (ws' := [(r, .inr (1, [.int (ym_I (cn / 12)), .int (ym_I (cn % 12 + 1))]))]) [2] rfl
  have t1 := ym_trem a
  refine lv_aload_n hx hb dX1_months_0 rfl (lv_at hl 0 rfl) ?_
  refine va_get (D := D) (ci := 0) (v := .ref q) (C := RX1) (T := TX1) (N := 1) hx hb hts in_X1 hown hK hPo 0 rfl rfl 0 (by decide) (hts _ q142) (fun _ h9 => h9) rfl dX1_months_1 ?_
  refine lv_iload_n hx hb dX1_months_4 rfl (lv_at hl 1 rfl) ?_
  refine ym_iconst hx hb dX1_months_5 ?_
  refine ym_iand1 hx hb dX1_months_6 ?_
  refine lv_aload_n hx hb dX1_months_7 rfl (lv_at hl 0 rfl) ?_
  refine va_get (D := D) (ci := 0) (v := .ref q) (C := RX1) (T := TX1) (N := 1) hx hb hts in_X1 hown hK hPo 0 rfl rfl 0 (by decide) (hts _ q142) (fun _ h9 => h9) rfl dX1_months_8 ?_
  refine lv_iload_n hx hb dX1_months_11 rfl (lv_at hl 1 rfl) ?_
  refine ym_iconst hx hb dX1_months_12 ?_
  refine ym_iand1 hx hb dX1_months_13 ?_
  refine ym_aldq (C := "YearMonth") hx hb hK hPq 0 rfl (ym_ixin wh) (ym_ixf hf) dX1_months_14 ?_
  refine lv_iload_n hx hb dX1_months_15 rfl (lv_at hl 2 rfl) ?_
  refine ym_ldc 1000000 hx hb hown (hts _ q150) (by decide) dX1_months_16 ?_
  refine ym_irem hx hb ⟨by omega, by omega⟩ ⟨by omega, by omega⟩ (by omega) dX1_months_18 ?_
  refine ym_Wi2l hx hb ⟨by omega, by omega⟩ dX1_months_19 ?_
  refine ym_callZ (ym_rV (C := RX3) (As := [.long (ym_L (Int.tmod a 1000000))]) (rest := [.int (ym_I (wh % 2)), .ref q]) hF (ym_plusMonths l n0 ad D r (cn / 12) (cn % 12 + 1) (Int.tmod a 1000000) (by omega) (by omega) (by omega) (by omega) (by omega) (by omega)) (cwV 1 hts (lw_V q156 q157 q158 q5 q159) rfl rfl rfl (by decide +kernel) ⟨Nat.le_of_ble_eq_true rfl, Nat.le_of_ble_eq_true rfl⟩) ym_w_mv (ym_w_of hkw (hK.sub (tys' := []) [] rfl) hPr) (va_recv hK hPr (ci := 1) (q0 := 0) rfl rfl) rfl hl.1 rfl (Nat.le_of_ble_eq_true rfl) dX1_months_20 ⟨Nat.le_of_ble_eq_true rfl, Nat.le_of_ble_eq_true rfl⟩) (fun _ h => h.elim) (fun v H_1 hz => ?_)
  obtain ⟨a_3, rfl, hPa_4, ha_5, hE_2⟩ := hz
  have hkw := ym_ext_kw hE_2 hkw
  have hP_6 := ym_ext_P hE_2 hPo
  have hP_7 := ym_ext_P hE_2 hPq
  have hP_8 := ym_ext_P hE_2 hPr
  have hE_9 := ym_ext_tr hE hE_2
  refine W.eq (g2 := F0 m 23 ls [.ref a_3, .int (ym_I (wh % 2)), .ref q]) rfl ?_
  refine ym_aast hx hb hK hP_7 0 rfl hPa_4 (ym_ixin wh) (ym_ixc wh) dX1_months_23 (fun H_10 hPq_11 hz_12 hk_13 => ?_)
  have hPv_14_n : a_3 ≠ q := ym_vne ha_5 hqr ((hPq 0 _ rfl).lt)
  have hPv_14 := ym_Pc (y2 := (cn + Int.tmod a 1000000) / 12) (m2 := (cn + Int.tmod a 1000000) % 12 + 1) (by omega) (by omega) (hPa_4.kept (H1 := H_10) (fun k x hx2 => by rw [show x.1 = a_3 by cases k with | zero => cases hx2; rfl | succ k => simp at hx2]; exact hk_13 _ hPv_14_n))
  exact ym_retV hx hb hr hlocks ⟨rfl, a_3, hPq_11, hPv_14, ha_5, by rw [hz_12]; exact hE_9.1, fun x hx2 hne => (hk_13 x hne).trans (hE_9.2 x hx2)⟩ (fun x h => by simp at h; rw [h]) dX1_months_24
set_option maxHeartbeats 4000000 in
set_option maxRecDepth 100000 in
/-- another month -/
theorem ym_dWithMonth (l : Launch) (n0 : Nat) (ad : Nat → Nat) (D : va_G) (dY : ClassId) (o : Nat) (q : Nat) (r : Nat) (f : Nat → Option Nat) (cn : Int) (wh : Int) (a : Int) (hf : f (wh % 2).toNat = some r) (hqr : q ≠ r) (hc1 : -50000000 ≤ cn) (hc2 : cn ≤ 50000000) (ha1 : -2147483648 ≤ a) (ha2 : a ≤ 2147483647) : Met l yX1_withMonth (ws_ yX1_withMonth cX1_withMonth 3 none) ({ frames := 5, cells := 1, slots := 2, locals := 108 }) (va_Pc [.ref o, .int (ym_I wh), .int (ym_I a)] (ym_G (ym_w n0 ad D [(dY, .object "YearMonth")] [(o, .inr (0, [.ref q])), (q, ym_ar dY f), (r, .inr (1, [.int (ym_I (cn / 12)), .int (ym_I (cn % 12 + 1))]))]))) (ym_Q (ym_zM D dY q f (wh % 2).toNat r (12 * (cn / 12) + ym_rs a) none)) 1 2 (fun x => x = q) := by
  refine Met.ofW (cc := cX1_withMonth) (maxL := 3) (ret := none) (by decide) rfl ?_
  intro p e s m args below meth c s₁ B hml hv
  obtain ⟨rfl, hkw, hK, hP⟩ := hv
  have hx := B.exec
  have hb := B.bytes
  have hr := B.returns
  have hts := atoms_spec (ws := ws_ yX1_withMonth cX1_withMonth 3 none) B.pre
  have hts : ∀ w ∈ lw_all, w.before _ s = true := fun w h => hts w (List.mem_cons_of_mem _ h)
  have hown : s.vm.findClass RX1 = some m.cls := findClass_of_methodNamed B.named
  have hlocks := B.notSynchronized
  have hF : CallFix p m c cX1_withMonth 3 s _ lw_all RX1 := ⟨hx, hb, hml, hown, hts⟩
  have hl := lv_entry ([.ref o, .int (ym_I wh), .int (ym_I a)]) (n := 3) (Nat.le_of_ble_eq_true rfl)
  rw [lg_entry_eq]
  generalize (lg_sl ([.ref o, .int (ym_I wh), .int (ym_I a)]) ++ List.replicate (3 - (lg_sl ([.ref o, .int (ym_I wh), .int (ym_I a)])).length) Slot.unset).toArray = ls at hl ⊢
  have hl : lv_has ls 3 [(0, .ref o), (1, .int (ym_I wh)), (2, .int (ym_I a))] := hl
  have hE : ym_ext s.heap s.heap := ym_ext_rf
  have hPo := hP.sub (ws' := [(o, .inr (0, [.ref q]))]) [0] rfl
  have hPq := hP.sub (ws' := [(q, ym_ar dY f)]) [1] rfl
  have hPr := hP.sub (ws' := [(r, .inr (1, [.int (ym_I (cn / 12)), .int (ym_I (cn % 12 + 1))]))]) [2] rfl
  have t2 := ym_rs_ran a
  refine lv_aload_n hx hb dX1_withMonth_0 rfl (lv_at hl 0 rfl) ?_
  refine va_get (D := D) (ci := 0) (v := .ref q) (C := RX1) (T := TX1) (N := 1) hx hb hts in_X1 hown hK hPo 0 rfl rfl 0 (by decide) (hts _ q142) (fun _ h9 => h9) rfl dX1_withMonth_1 ?_
  refine lv_iload_n hx hb dX1_withMonth_4 rfl (lv_at hl 1 rfl) ?_
  refine ym_iconst hx hb dX1_withMonth_5 ?_
  refine ym_iand1 hx hb dX1_withMonth_6 ?_
  refine lv_aload_n hx hb dX1_withMonth_7 rfl (lv_at hl 0 rfl) ?_
  refine va_get (D := D) (ci := 0) (v := .ref q) (C := RX1) (T := TX1) (N := 1) hx hb hts in_X1 hown hK hPo 0 rfl rfl 0 (by decide) (hts _ q142) (fun _ h9 => h9) rfl dX1_withMonth_8 ?_
  refine lv_iload_n hx hb dX1_withMonth_11 rfl (lv_at hl 1 rfl) ?_
  refine ym_iconst hx hb dX1_withMonth_12 ?_
  refine ym_iand1 hx hb dX1_withMonth_13 ?_
  refine ym_aldq (C := "YearMonth") hx hb hK hPq 0 rfl (ym_ixin wh) (ym_ixf hf) dX1_withMonth_14 ?_
  refine ym_iconst hx hb dX1_withMonth_15 ?_
  refine lv_iload_n hx hb dX1_withMonth_16 rfl (lv_at hl 2 rfl) ?_
  refine ym_ldc 2147483647 hx hb hown (hts _ q151) (by decide) dX1_withMonth_17 ?_
  refine ym_iandM hx hb dX1_withMonth_19 ?_
  refine ym_bipush 12 hx hb dX1_withMonth_20 (by decide) ?_
  refine ym_irem hx hb ⟨by omega, by omega⟩ ⟨by omega, by omega⟩ (by omega) dX1_withMonth_22 ?_
  refine ym_seti (ym_rs a) (ym_rs_of a) ?_
  refine ym_iadd hx hb dX1_withMonth_23 ?_
  refine ym_callZ (ym_rV (C := RX3) (As := [.int (ym_I (1 + (ym_rs a)))]) (rest := [.int (ym_I (wh % 2)), .ref q]) hF (ym_withMonth l n0 ad D r (cn / 12) (cn % 12 + 1) (1 + (ym_rs a)) (by omega) (by omega) (by omega) (by omega) (by omega) (by omega)) (cwV 1 hts (lw_V q207 q208 q209 q5 q210) rfl rfl rfl (by decide +kernel) ⟨Nat.le_of_ble_eq_true rfl, Nat.le_of_ble_eq_true rfl⟩) ym_w_mv (ym_w_of hkw (hK.sub (tys' := []) [] rfl) hPr) (va_recv hK hPr (ci := 1) (q0 := 0) rfl rfl) rfl hl.1 rfl (Nat.le_of_ble_eq_true rfl) dX1_withMonth_24 ⟨Nat.le_of_ble_eq_true rfl, Nat.le_of_ble_eq_true rfl⟩) (fun _ h => h.elim) (fun v H_1 hz => ?_)
  obtain ⟨a_3, rfl, hPa_4, ha_5, hE_2⟩ := hz
  have hkw := ym_ext_kw hE_2 hkw
  have hP_6 := ym_ext_P hE_2 hPo
  have hP_7 := ym_ext_P hE_2 hPq
  have hP_8 := ym_ext_P hE_2 hPr
  have hE_9 := ym_ext_tr hE hE_2
  refine W.eq (g2 := F0 m 27 ls [.ref a_3, .int (ym_I (wh % 2)), .ref q]) rfl ?_
  refine ym_aast hx hb hK hP_7 0 rfl hPa_4 (ym_ixin wh) (ym_ixc wh) dX1_withMonth_27 (fun H_10 hPq_11 hz_12 hk_13 => ?_)
  have hPv_14_n : a_3 ≠ q := ym_vne ha_5 hqr ((hPq 0 _ rfl).lt)
  have hPv_14 := ym_Pc (y2 := (12 * (cn / 12) + ym_rs a) / 12) (m2 := (12 * (cn / 12) + ym_rs a) % 12 + 1) (by omega) (by omega) (hPa_4.kept (H1 := H_10) (fun k x hx2 => by rw [show x.1 = a_3 by cases k with | zero => cases hx2; rfl | succ k => simp at hx2]; exact hk_13 _ hPv_14_n))
  exact ym_retV hx hb hr hlocks ⟨rfl, a_3, hPq_11, hPv_14, ha_5, by rw [hz_12]; exact hE_9.1, fun x hx2 hne => (hk_13 x hne).trans (hE_9.2 x hx2)⟩ (fun x h => by simp at h; rw [h]) dX1_withMonth_28
set_option maxHeartbeats 4000000 in
set_option maxRecDepth 100000 in
/-- another year -/
theorem ym_dWithYear (l : Launch) (n0 : Nat) (ad : Nat → Nat) (D : va_G) (dY : ClassId) (o : Nat) (q : Nat) (r : Nat) (f : Nat → Option Nat) (cn : Int) (wh : Int) (a : Int) (hf : f (wh % 2).toNat = some r) (hqr : q ≠ r) (hc1 : -50000000 ≤ cn) (hc2 : cn ≤ 50000000) (ha1 : -2147483648 ≤ a) (ha2 : a ≤ 2147483647) : Met l yX1_withYear (ws_ yX1_withYear cX1_withYear 3 none) ({ frames := 5, cells := 1, slots := 2, locals := 108 }) (va_Pc [.ref o, .int (ym_I wh), .int (ym_I a)] (ym_G (ym_w n0 ad D [(dY, .object "YearMonth")] [(o, .inr (0, [.ref q])), (q, ym_ar dY f), (r, .inr (1, [.int (ym_I (cn / 12)), .int (ym_I (cn % 12 + 1))]))]))) (ym_Q (ym_zM D dY q f (wh % 2).toNat r (cn + 12 * (Int.tmod a 1000000 - cn / 12)) none)) 1 2 (fun x => x = q) := by
  refine Met.ofW (cc := cX1_withYear) (maxL := 3) (ret := none) (by decide) rfl ?_
  intro p e s m args below meth c s₁ B hml hv
  obtain ⟨rfl, hkw, hK, hP⟩ := hv
  have hx := B.exec
  have hb := B.bytes
  have hr := B.returns
  have hts := atoms_spec (ws := ws_ yX1_withYear cX1_withYear 3 none) B.pre
  have hts : ∀ w ∈ lw_all, w.before _ s = true := fun w h => hts w (List.mem_cons_of_mem _ h)
  have hown : s.vm.findClass RX1 = some m.cls := findClass_of_methodNamed B.named
  have hlocks := B.notSynchronized
  have hF : CallFix p m c cX1_withYear 3 s _ lw_all RX1 := ⟨hx, hb, hml, hown, hts⟩
  have hl := lv_entry ([.ref o, .int (ym_I wh), .int (ym_I a)]) (n := 3) (Nat.le_of_ble_eq_true rfl)
  rw [lg_entry_eq]
  generalize (lg_sl ([.ref o, .int (ym_I wh), .int (ym_I a)]) ++ List.replicate (3 - (lg_sl ([.ref o, .int (ym_I wh), .int (ym_I a)])).length) Slot.unset).toArray = ls at hl ⊢
  have hl : lv_has ls 3 [(0, .ref o), (1, .int (ym_I wh)), (2, .int (ym_I a))] := hl
  have hE : ym_ext s.heap s.heap := ym_ext_rf
  have hPo := hP.sub (ws' := [(o, .inr (0, [.ref q]))]) [0] rfl
  have hPq := hP.sub (ws' := [(q, ym_ar dY f)]) [1] rfl
  have hPr := hP.sub (ws' := [(r, .inr (1, [.int (ym_I (cn / 12)), .int (ym_I (cn % 12 + 1))]))]) [2] rfl
  have t1 := ym_trem a
  refine lv_aload_n hx hb dX1_withYear_0 rfl (lv_at hl 0 rfl) ?_
  refine va_get (D := D) (ci := 0) (v := .ref q) (C := RX1) (T := TX1) (N := 1) hx hb hts in_X1 hown hK hPo 0 rfl rfl 0 (by decide) (hts _ q142) (fun _ h9 => h9) rfl dX1_withYear_1 ?_
  refine lv_iload_n hx hb dX1_withYear_4 rfl (lv_at hl 1 rfl) ?_
  refine ym_iconst hx hb dX1_withYear_5 ?_
  refine ym_iand1 hx hb dX1_withYear_6 ?_
  refine lv_aload_n hx hb dX1_withYear_7 rfl (lv_at hl 0 rfl) ?_
  refine va_get (D := D) (ci := 0) (v := .ref q) (C := RX1) (T := TX1) (N := 1) hx hb hts in_X1 hown hK hPo 0 rfl rfl 0 (by decide) (hts _ q142) (fun _ h9 => h9) rfl dX1_withYear_8 ?_
  refine lv_iload_n hx hb dX1_withYear_11 rfl (lv_at hl 1 rfl) ?_
  refine ym_iconst hx hb dX1_withYear_12 ?_
  refine ym_iand1 hx hb dX1_withYear_13 ?_
  refine ym_aldq (C := "YearMonth") hx hb hK hPq 0 rfl (ym_ixin wh) (ym_ixf hf) dX1_withYear_14 ?_
  refine lv_iload_n hx hb dX1_withYear_15 rfl (lv_at hl 2 rfl) ?_
  refine ym_ldc 1000000 hx hb hown (hts _ q150) (by decide) dX1_withYear_16 ?_
  refine ym_irem hx hb ⟨by omega, by omega⟩ ⟨by omega, by omega⟩ (by omega) dX1_withYear_18 ?_
  refine ym_callZ (ym_rV (C := RX3) (As := [.int (ym_I (Int.tmod a 1000000))]) (rest := [.int (ym_I (wh % 2)), .ref q]) hF (ym_withYear l n0 ad D r (cn / 12) (cn % 12 + 1) (Int.tmod a 1000000) (by omega) (by omega) (by omega) (by omega) (by omega) (by omega)) (cwV 1 hts (lw_V q215 q216 q217 q5 q218) rfl rfl rfl (by decide +kernel) ⟨Nat.le_of_ble_eq_true rfl, Nat.le_of_ble_eq_true rfl⟩) ym_w_mv (ym_w_of hkw (hK.sub (tys' := []) [] rfl) hPr) (va_recv hK hPr (ci := 1) (q0 := 0) rfl rfl) rfl hl.1 rfl (Nat.le_of_ble_eq_true rfl) dX1_withYear_19 ⟨Nat.le_of_ble_eq_true rfl, Nat.le_of_ble_eq_true rfl⟩) (fun _ h => h.elim) (fun v H_1 hz => ?_)
  obtain ⟨a_3, rfl, hPa_4, ha_5, hE_2⟩ := hz
  have hkw := ym_ext_kw hE_2 hkw
  have hP_6 := ym_ext_P hE_2 hPo
  have hP_7 := ym_ext_P hE_2 hPq
  have hP_8 := ym_ext_P hE_2 hPr
  have hE_9 := ym_ext_tr hE hE_2
  refine W.eq (g2 := F0 m 22 ls [.ref a_3, .int (ym_I (wh % 2)), .ref q]) rfl ?_
  refine ym_aast hx hb hK hP_7 0 rfl hPa_4 (ym_ixin wh) (ym_ixc wh) dX1_withYear_22 (fun H_10 hPq_11 hz_12 hk_13 => ?_)
  have hPv_14_n : a_3 ≠ q := ym_vne ha_5 hqr ((hPq 0 _ rfl).lt)
  have hPv_14 := ym_Pc (y2 := (cn + 12 * (Int.tmod a 1000000 - cn / 12)) / 12) (m2 := (cn + 12 * (Int.tmod a 1000000 - cn / 12)) % 12 + 1) (by omega) (by omega) (hPa_4.kept (H1 := H_10) (fun k x hx2 => by rw [show x.1 = a_3 by cases k with | zero => cases hx2; rfl | succ k => simp at hx2]; exact hk_13 _ hPv_14_n))
  exact ym_retV hx hb hr hlocks ⟨rfl, a_3, hPq_11, hPv_14, ha_5, by rw [hz_12]; exact hE_9.1, fun x hx2 hne => (hk_13 x hne).trans (hE_9.2 x hx2)⟩ (fun x h => by simp at h; rw [h]) dX1_withYear_23
set_option maxHeartbeats 4000000 in
set_option maxRecDepth 100000 in
/-- moved by years -/
theorem ym_dYears (l : Launch) (n0 : Nat) (ad : Nat → Nat) (D : va_G) (dY : ClassId) (o : Nat) (q : Nat) (r : Nat) (f : Nat → Option Nat) (cn : Int) (wh : Int) (a : Int) (hf : f (wh % 2).toNat = some r) (hqr : q ≠ r) (hc1 : -50000000 ≤ cn) (hc2 : cn ≤ 50000000) (ha1 : -2147483648 ≤ a) (ha2 : a ≤ 2147483647) : Met l yX1_years (ws_ yX1_years cX1_years 4 none) ({ frames := 6, cells := 1, slots := 2, locals := 132 }) (va_Pc [.ref o, .int (ym_I wh), .int (ym_I a)] (ym_G (ym_w n0 ad D [(dY, .object "YearMonth")] [(o, .inr (0, [.ref q])), (q, ym_ar dY f), (r, .inr (1, [.int (ym_I (cn / 12)), .int (ym_I (cn % 12 + 1))]))]))) (ym_Q (ym_zM D dY q f (wh % 2).toNat r (ym_ys cn (Int.tmod a 1000000)) none)) 1 2 (fun x => x = q) := by
  refine Met.ofW (cc := cX1_years) (maxL := 4) (ret := none) (by decide) rfl ?_
  intro p e s m args below meth c s₁ B hml hv
  obtain ⟨rfl, hkw, hK, hP⟩ := hv
  have hx := B.exec
  have hb := B.bytes
  have hr := B.returns
  have hts := atoms_spec (ws := ws_ yX1_years cX1_years 4 none) B.pre
  have hts : ∀ w ∈ lw_all, w.before _ s = true := fun w h => hts w (List.mem_cons_of_mem _ h)
  have hown : s.vm.findClass RX1 = some m.cls := findClass_of_methodNamed B.named
  have hlocks := B.notSynchronized
  have hF : CallFix p m c cX1_years 4 s _ lw_all RX1 := ⟨hx, hb, hml, hown, hts⟩
  have hl := lv_entry ([.ref o, .int (ym_I wh), .int (ym_I a)]) (n := 4) (Nat.le_of_ble_eq_true rfl)
  rw [lg_entry_eq]
  generalize (lg_sl ([.ref o, .int (ym_I wh), .int (ym_I a)]) ++ List.replicate (4 - (lg_sl ([.ref o, .int (ym_I wh), .int (ym_I a)])).length) Slot.unset).toArray = ls at hl ⊢
  have hl : lv_has ls 4 [(0, .ref o), (1, .int (ym_I wh)), (2, .int (ym_I a))] := hl
  have hE : ym_ext s.heap s.heap := ym_ext_rf
  have hPo := hP.sub (ws' := [(o, .inr (0, [.ref q]))]) [0] rfl
  have hPq := hP.sub (ws' := [(q, ym_ar dY f)]) [1] rfl
  have hPr := hP.sub (ws' := [(r, .inr (1, [.int (ym_I (cn / 12)), .int (ym_I (cn % 12 + 1))]))]) [2] rfl
  have t1 := ym_trem a
  refine lv_aload_n hx hb dX1_years_0 rfl (lv_at hl 0 rfl) ?_
  refine va_get (D := D) (ci := 0) (v := .ref q) (C := RX1) (T := TX1) (N := 1) hx hb hts in_X1 hown hK hPo 0 rfl rfl 0 (by decide) (hts _ q142) (fun _ h9 => h9) rfl dX1_years_1 ?_
  refine lv_iload_n hx hb dX1_years_4 rfl (lv_at hl 1 rfl) ?_
  refine ym_iconst hx hb dX1_years_5 ?_
  refine ym_iand1 hx hb dX1_years_6 ?_
  refine ym_aldq (C := "YearMonth") hx hb hK hPq 0 rfl (ym_ixin wh) (ym_ixf hf) dX1_years_7 ?_
  refine ym_callP (ym_rV (C := RX3) (As := []) (rest := []) hF (ym_getYear l n0 ad D r (cn / 12) (cn % 12 + 1)) (cwV 0 hts (lw_V q193 q194 q195 q5 q196) rfl rfl rfl (by decide +kernel) ⟨Nat.le_of_ble_eq_true rfl, Nat.le_of_ble_eq_true rfl⟩) ym_w_mv (ym_w_of hkw (hK.sub (tys' := []) [] rfl) hPr) (va_recv hK hPr (ci := 1) (q0 := 0) rfl rfl) rfl hl.1 rfl (Nat.le_of_ble_eq_true rfl) dX1_years_8 ⟨Nat.le_of_ble_eq_true rfl, Nat.le_of_ble_eq_true rfl⟩) ?_
  refine lv_iload_n hx hb dX1_years_11 rfl (lv_at hl 2 rfl) ?_
  refine ym_ldc 1000000 hx hb hown (hts _ q150) (by decide) dX1_years_12 ?_
  refine ym_irem hx hb ⟨by omega, by omega⟩ ⟨by omega, by omega⟩ (by omega) dX1_years_14 ?_
  refine ym_iadd hx hb dX1_years_15 ?_
  refine lv_istore_n (lv' := [(3, .int (ym_I ((cn / 12) + (Int.tmod a 1000000)))), (0, .ref o), (1, .int (ym_I wh)), (2, .int (ym_I a))]) hx hb dX1_years_16 rfl hl (by decide) rfl (fun ls hl => ?_)
  refine lv_iload_n hx hb dX1_years_17 rfl (lv_at hl 0 rfl) ?_
  refine ym_ldc (-999999) hx hb hown (hts _ q197) (by decide) dX1_years_18 ?_
  refine ym_icmp_le (tgt := 53) hx hb ⟨by omega, by omega⟩ ⟨by omega, by omega⟩ dX1_years_20 (by decide) (fun c_1 => ?_) (fun c_1 => ?_)
  · refine W.widen (k := 1) (n := 2) (Nat.le_of_ble_eq_true rfl) (Nat.le_of_ble_eq_true rfl) ?_
    exact ym_retV hx hb hr hlocks ⟨rfl, r, (by rw [ym_upid hf]; exact hPq), (ym_Pc (by rw [ym_ys_f (by omega)]) (by rw [ym_ys_f (by omega)]) hPr), Or.inl rfl, Nat.le_refl _, fun x _ _ => rfl⟩ (fun x h => by simp at h; try rw [h]) dX1_years_53
  · refine lv_iload_n hx hb dX1_years_23 rfl (lv_at hl 0 rfl) ?_
    refine ym_ldc 999999 hx hb hown (hts _ q198) (by decide) dX1_years_24 ?_
    refine ym_icmp_ge (tgt := 53) hx hb ⟨by omega, by omega⟩ ⟨by omega, by omega⟩ dX1_years_26 (by decide) (fun c_2 => ?_) (fun c_2 => ?_)
    · refine W.widen (k := 1) (n := 2) (Nat.le_of_ble_eq_true rfl) (Nat.le_of_ble_eq_true rfl) ?_
      exact ym_retV hx hb hr hlocks ⟨rfl, r, (by rw [ym_upid hf]; exact hPq), (ym_Pc (by rw [ym_ys_f (by omega)]) (by rw [ym_ys_f (by omega)]) hPr), Or.inl rfl, Nat.le_refl _, fun x _ _ => rfl⟩ (fun x h => by simp at h; try rw [h]) dX1_years_53
    · refine lv_aload_n hx hb dX1_years_29 rfl (lv_at hl 1 rfl) ?_
      refine va_get (D := D) (ci := 0) (v := .ref q) (C := RX1) (T := TX1) (N := 1) hx hb hts in_X1 hown hK hPo 0 rfl rfl 0 (by decide) (hts _ q142) (fun _ h9 => h9) rfl dX1_years_30 ?_
      refine lv_iload_n hx hb dX1_years_33 rfl (lv_at hl 2 rfl) ?_
      refine ym_iconst hx hb dX1_years_34 ?_
      refine ym_iand1 hx hb dX1_years_35 ?_
      refine lv_aload_n hx hb dX1_years_36 rfl (lv_at hl 1 rfl) ?_
      refine va_get (D := D) (ci := 0) (v := .ref q) (C := RX1) (T := TX1) (N := 1) hx hb hts in_X1 hown hK hPo 0 rfl rfl 0 (by decide) (hts _ q142) (fun _ h9 => h9) rfl dX1_years_37 ?_
      refine lv_iload_n hx hb dX1_years_40 rfl (lv_at hl 2 rfl) ?_
      refine ym_iconst hx hb dX1_years_41 ?_
      refine ym_iand1 hx hb dX1_years_42 ?_
      refine ym_aldq (C := "YearMonth") hx hb hK hPq 0 rfl (ym_ixin wh) (ym_ixf hf) dX1_years_43 ?_
      refine lv_iload_n hx hb dX1_years_44 rfl (lv_at hl 3 rfl) ?_
      refine ym_ldc 1000000 hx hb hown (hts _ q150) (by decide) dX1_years_45 ?_
      refine ym_irem hx hb ⟨by omega, by omega⟩ ⟨by omega, by omega⟩ (by omega) dX1_years_47 ?_
      refine ym_Wi2l hx hb ⟨by omega, by omega⟩ dX1_years_48 ?_
      refine ym_callZ (ym_rV (C := RX3) (As := [.long (ym_L (Int.tmod a 1000000))]) (rest := [.int (ym_I (wh % 2)), .ref q]) hF (ym_plusYears l n0 ad D r (cn / 12) (cn % 12 + 1) (Int.tmod a 1000000) (by omega) (by omega) (by omega) (by omega) (by omega) (by omega)) (cwV 1 hts (lw_V q199 q200 q201 q5 q202) rfl rfl rfl (by decide +kernel) ⟨Nat.le_of_ble_eq_true rfl, Nat.le_of_ble_eq_true rfl⟩) ym_w_mv (ym_w_of hkw (hK.sub (tys' := []) [] rfl) hPr) (va_recv hK hPr (ci := 1) (q0 := 0) rfl rfl) rfl hl.1 rfl (Nat.le_of_ble_eq_true rfl) dX1_years_49 ⟨Nat.le_of_ble_eq_true rfl, Nat.le_of_ble_eq_true rfl⟩) (fun _ h => h.elim) (fun v H_3 hz => ?_)
      obtain ⟨a_5, rfl, hPa_6, ha_7, hE_4⟩ := hz
      have hkw := ym_ext_kw hE_4 hkw
      have hP_8 := ym_ext_P hE_4 hPo
      have hP_9 := ym_ext_P hE_4 hPq
      have hP_10 := ym_ext_P hE_4 hPr
      have hE_11 := ym_ext_tr hE hE_4
      refine W.eq (g2 := F0 m 52 ls [.ref a_5, .int (ym_I (wh % 2)), .ref q]) rfl ?_
      refine ym_aast hx hb hK hP_9 0 rfl hPa_6 (ym_ixin wh) (ym_ixc wh) dX1_years_52 (fun H_12 hPq_13 hz_14 hk_15 => ?_)
      have hPv_16_n : a_5 ≠ q := ym_vne ha_7 hqr ((hPq 0 _ rfl).lt)
      have hPv_16 := ym_Pc (y2 := (cn + 12 * Int.tmod a 1000000) / 12) (m2 := (cn + 12 * Int.tmod a 1000000) % 12 + 1) (by omega) (by omega) (hPa_6.kept (H1 := H_12) (fun k x hx2 => by rw [show x.1 = a_5 by cases k with | zero => cases hx2; rfl | succ k => simp at hx2]; exact hk_15 _ hPv_16_n))
      exact ym_retV hx hb hr hlocks ⟨rfl, a_5, hPq_13, (ym_Pc (by rw [ym_ys_t (by omega) (by omega)]) (by rw [ym_ys_t (by omega) (by omega)]) hPv_16), ha_7, by rw [hz_14]; exact hE_11.1, fun x hx2 hne => (hk_15 x hne).trans (hE_11.2 x hx2)⟩ (fun x h => by simp at h; try rw [h]) dX1_years_53
set_option maxHeartbeats 4000000 in
set_option maxRecDepth 100000 in
/-- kept, or put back -/
theorem ym_dKeep (l : Launch) (n0 : Nat) (ad : Nat → Nat) (D : va_G) (dY : ClassId) (o : Nat) (q : Nat) (r : Nat) (f : Nat → Option Nat) (cn : Int) (wh : Int) (hf : f (wh % 2).toNat = some r) (hqr : q ≠ r) (hc1 : -50000000 ≤ cn) (hc2 : cn ≤ 50000000) : Met l yX1_keep (ws_ yX1_keep cX1_keep 3 (some .boolean)) ({ frames := 5, cells := 1, slots := 2, locals := 108 }) (va_Pc [.ref o, .int (ym_I wh)] (ym_G (ym_w n0 ad D [(dY, .object "YearMonth")] [(o, .inr (0, [.ref q])), (q, ym_ar dY f), (r, .inr (1, [.int (ym_I (cn / 12)), .int (ym_I (cn % 12 + 1))]))]))) (ym_Q (ym_zM D dY q f (wh % 2).toNat r (ym_kc cn) (some (.int (ym_I (ym_kp cn)))))) 1 2 (fun x => x = q) := by
  refine Met.ofW (cc := cX1_keep) (maxL := 3) (ret := (some .boolean)) (by decide) rfl ?_
  intro p e s m args below meth c s₁ B hml hv
  obtain ⟨rfl, hkw, hK, hP⟩ := hv
  have hx := B.exec
  have hb := B.bytes
  have hr := B.returns
  have hts := atoms_spec (ws := ws_ yX1_keep cX1_keep 3 (some .boolean)) B.pre
  have hts : ∀ w ∈ lw_all, w.before _ s = true := fun w h => hts w (List.mem_cons_of_mem _ h)
  have hown : s.vm.findClass RX1 = some m.cls := findClass_of_methodNamed B.named
  have hlocks := B.notSynchronized
  have hF : CallFix p m c cX1_keep 3 s _ lw_all RX1 := ⟨hx, hb, hml, hown, hts⟩
  have hl := lv_entry ([.ref o, .int (ym_I wh)]) (n := 3) (Nat.le_of_ble_eq_true rfl)
  rw [lg_entry_eq]
  generalize (lg_sl ([.ref o, .int (ym_I wh)]) ++ List.replicate (3 - (lg_sl ([.ref o, .int (ym_I wh)])).length) Slot.unset).toArray = ls at hl ⊢
  have hl : lv_has ls 3 [(0, .ref o), (1, .int (ym_I wh))] := hl
  have hE : ym_ext s.heap s.heap := ym_ext_rf
  have hPo := hP.sub (ws' := [(o, .inr (0, [.ref q]))]) [0] rfl
  have hPq := hP.sub (ws' := [(q, ym_ar dY f)]) [1] rfl
  have hPr := hP.sub (ws' := [(r, .inr (1, [.int (ym_I (cn / 12)), .int (ym_I (cn % 12 + 1))]))]) [2] rfl
  refine lv_aload_n hx hb dX1_keep_0 rfl (lv_at hl 0 rfl) ?_
  refine va_get (D := D) (ci := 0) (v := .ref q) (C := RX1) (T := TX1) (N := 1) hx hb hts in_X1 hown hK hPo 0 rfl rfl 0 (by decide) (hts _ q142) (fun _ h9 => h9) rfl dX1_keep_1 ?_
  refine lv_iload_n hx hb dX1_keep_4 rfl (lv_at hl 1 rfl) ?_
  refine ym_iconst hx hb dX1_keep_5 ?_
  refine ym_iand1 hx hb dX1_keep_6 ?_
  refine ym_aldq (C := "YearMonth") hx hb hK hPq 0 rfl (ym_ixin wh) (ym_ixf hf) dX1_keep_7 ?_
  refine ym_callP (ym_rV (C := RX3) (As := []) (rest := []) hF (ym_getYear l n0 ad D r (cn / 12) (cn % 12 + 1)) (cwV 0 hts (lw_V q193 q194 q195 q5 q196) rfl rfl rfl (by decide +kernel) ⟨Nat.le_of_ble_eq_true rfl, Nat.le_of_ble_eq_true rfl⟩) ym_w_mv (ym_w_of hkw (hK.sub (tys' := []) [] rfl) hPr) (va_recv hK hPr (ci := 1) (q0 := 0) rfl rfl) rfl hl.1 rfl (Nat.le_of_ble_eq_true rfl) dX1_keep_8 ⟨Nat.le_of_ble_eq_true rfl, Nat.le_of_ble_eq_true rfl⟩) ?_
  refine lv_istore_n (lv' := [(2, .int (ym_I (cn / 12))), (0, .ref o), (1, .int (ym_I wh))]) hx hb dX1_keep_11 rfl hl (by decide) rfl (fun ls hl => ?_)
  refine lv_iload_n hx hb dX1_keep_12 rfl (lv_at hl 0 rfl) ?_
  refine ym_ldc 900000 hx hb hown (hts _ q223) (by decide) dX1_keep_13 ?_
  refine ym_icmp_gt (tgt := 24) hx hb ⟨by omega, by omega⟩ ⟨by omega, by omega⟩ dX1_keep_15 (by decide) (fun c_1 => ?_) (fun c_1 => ?_)
  · refine lv_aload_n hx hb dX1_keep_24 rfl (lv_at hl 1 rfl) ?_
    refine va_get (D := D) (ci := 0) (v := .ref q) (C := RX1) (T := TX1) (N := 1) hx hb hts in_X1 hown hK hPo 0 rfl rfl 0 (by decide) (hts _ q142) (fun _ h9 => h9) rfl dX1_keep_25 ?_
    refine lv_iload_n hx hb dX1_keep_28 rfl (lv_at hl 2 rfl) ?_
    refine ym_iconst hx hb dX1_keep_29 ?_
    refine ym_iand1 hx hb dX1_keep_30 ?_
    refine ym_sipush 2000 hx hb dX1_keep_31 (by decide) ?_
    refine ym_iconst hx hb dX1_keep_34 ?_
    refine ym_callZ (ym_rS (As := [.int (ym_I 2000), .int (ym_I 1)]) (rest := [.int (ym_I (wh % 2)), .ref q]) hF (ym_ofYM l n0 ad D 2000 1 (by omega) (by omega) (by omega) (by omega)) (va_cwS 2 hts (lw_S q29 q30 q5 q31) rfl rfl rfl (by decide +kernel) ⟨Nat.le_of_ble_eq_true rfl, Nat.le_of_ble_eq_true rfl⟩) ym_w_mv (ym_w_of hkw (hK.sub (tys' := []) [] rfl) ym_P0) rfl hl.1 rfl (Nat.le_of_ble_eq_true rfl) dX1_keep_35 ⟨Nat.le_of_ble_eq_true rfl, Nat.le_of_ble_eq_true rfl⟩) (fun _ h => h.elim) (fun v H_2 hz => ?_)
    obtain ⟨a_4, rfl, hPa_5, ha_6, hE_3⟩ := hz
    have hkw := ym_ext_kw hE_3 hkw
    have hP_7 := ym_ext_P hE_3 hPo
    have hP_8 := ym_ext_P hE_3 hPq
    have hP_9 := ym_ext_P hE_3 hPr
    have hE_10 := ym_ext_tr hE hE_3
    refine W.eq (g2 := F0 m 38 ls [.ref a_4, .int (ym_I (wh % 2)), .ref q]) rfl ?_
    have ha_11 : a_4 = r ∨ s.heap.size ≤ a_4 := Or.inr (by rcases ha_6 with h9 | h9; exact h9.elim; exact h9)
    refine ym_aast hx hb hK hP_8 0 rfl hPa_5 (ym_ixin wh) (ym_ixc wh) dX1_keep_38 (fun H_12 hPq_13 hz_14 hk_15 => ?_)
    have hPv_16_n : a_4 ≠ q := ym_vne ha_11 hqr ((hPq 0 _ rfl).lt)
    have hPv_16 := ym_Pc (y2 := (24000) / 12) (m2 := (24000) % 12 + 1) (by omega) (by omega) (hPa_5.kept (H1 := H_12) (fun k x hx2 => by rw [show x.1 = a_4 by cases k with | zero => cases hx2; rfl | succ k => simp at hx2]; exact hk_15 _ hPv_16_n))
    refine ym_iconst hx hb dX1_keep_39 ?_
    exact ym_retZ hx hb hr hlocks rfl ⟨by rw [(ym_k_f (c := cn) (by omega)).1], a_4, hPq_13, (ym_Pc (by rw [← (ym_k_f (c := cn) (by omega)).2]) (by rw [← (ym_k_f (c := cn) (by omega)).2]) hPv_16), Or.inr (by rcases ha_6 with h9 | h9; exact h9.elim; exact h9), by rw [hz_14]; exact hE_10.1, fun x hx2 hne => (hk_15 x hne).trans (hE_10.2 x hx2)⟩ (fun x h => by simp at h; try rw [h]) dX1_keep_40
  · refine lv_iload_n hx hb dX1_keep_18 rfl (lv_at hl 0 rfl) ?_
    refine ym_ldc (-900000) hx hb hown (hts _ q224) (by decide) dX1_keep_19 ?_
    refine ym_icmp_ge (tgt := 41) hx hb ⟨by omega, by omega⟩ ⟨by omega, by omega⟩ dX1_keep_21 (by decide) (fun c_17 => ?_) (fun c_17 => ?_)
    · refine ym_iconst hx hb dX1_keep_41 ?_
      refine W.widen (k := 1) (n := 2) (Nat.le_of_ble_eq_true rfl) (Nat.le_of_ble_eq_true rfl) ?_
      exact ym_retZ hx hb hr hlocks rfl ⟨by rw [(ym_k_t (c := cn) (by omega)).1], r, (by rw [ym_upid hf]; exact hPq), (ym_Pc (by rw [← (ym_k_t (c := cn) (by omega)).2]) (by rw [← (ym_k_t (c := cn) (by omega)).2]) hPr), Or.inl rfl, Nat.le_refl _, fun x _ _ => rfl⟩ (fun x h => by simp at h; try rw [h]) dX1_keep_42
    · refine lv_aload_n hx hb dX1_keep_24 rfl (lv_at hl 1 rfl) ?_
      refine va_get (D := D) (ci := 0) (v := .ref q) (C := RX1) (T := TX1) (N := 1) hx hb hts in_X1 hown hK hPo 0 rfl rfl 0 (by decide) (hts _ q142) (fun _ h9 => h9) rfl dX1_keep_25 ?_
      refine lv_iload_n hx hb dX1_keep_28 rfl (lv_at hl 2 rfl) ?_
      refine ym_iconst hx hb dX1_keep_29 ?_
      refine ym_iand1 hx hb dX1_keep_30 ?_
      refine ym_sipush 2000 hx hb dX1_keep_31 (by decide) ?_
      refine ym_iconst hx hb dX1_keep_34 ?_
      refine ym_callZ (ym_rS (As := [.int (ym_I 2000), .int (ym_I 1)]) (rest := [.int (ym_I (wh % 2)), .ref q]) hF (ym_ofYM l n0 ad D 2000 1 (by omega) (by omega) (by omega) (by omega)) (va_cwS 2 hts (lw_S q29 q30 q5 q31) rfl rfl rfl (by decide +kernel) ⟨Nat.le_of_ble_eq_true rfl, Nat.le_of_ble_eq_true rfl⟩) ym_w_mv (ym_w_of hkw (hK.sub (tys' := []) [] rfl) ym_P0) rfl hl.1 rfl (Nat.le_of_ble_eq_true rfl) dX1_keep_35 ⟨Nat.le_of_ble_eq_true rfl, Nat.le_of_ble_eq_true rfl⟩) (fun _ h => h.elim) (fun v H_18 hz => ?_)
      obtain ⟨a_20, rfl, hPa_21, ha_22, hE_19⟩ := hz
      have hkw := ym_ext_kw hE_19 hkw
      have hP_23 := ym_ext_P hE_19 hPo
      have hP_24 := ym_ext_P hE_19 hPq
      have hP_25 := ym_ext_P hE_19 hPr
      have hE_26 := ym_ext_tr hE hE_19
      refine W.eq (g2 := F0 m 38 ls [.ref a_20, .int (ym_I (wh % 2)), .ref q]) rfl ?_
      have ha_27 : a_20 = r ∨ s.heap.size ≤ a_20 := Or.inr (by rcases ha_22 with h9 | h9; exact h9.elim; exact h9)
      refine ym_aast hx hb hK hP_24 0 rfl hPa_21 (ym_ixin wh) (ym_ixc wh) dX1_keep_38 (fun H_28 hPq_29 hz_30 hk_31 => ?_)
      have hPv_32_n : a_20 ≠ q := ym_vne ha_27 hqr ((hPq 0 _ rfl).lt)
      have hPv_32 := ym_Pc (y2 := (24000) / 12) (m2 := (24000) % 12 + 1) (by omega) (by omega) (hPa_21.kept (H1 := H_28) (fun k x hx2 => by rw [show x.1 = a_20 by cases k with | zero => cases hx2; rfl | succ k => simp at hx2]; exact hk_31 _ hPv_32_n))
      refine ym_iconst hx hb dX1_keep_39 ?_
      exact ym_retZ hx hb hr hlocks rfl ⟨by rw [(ym_k_f (c := cn) (by omega)).1], a_20, hPq_29, (ym_Pc (by rw [← (ym_k_f (c := cn) (by omega)).2]) (by rw [← (ym_k_f (c := cn) (by omega)).2]) hPv_32), Or.inr (by rcases ha_22 with h9 | h9; exact h9.elim; exact h9), by rw [hz_30]; exact hE_26.1, fun x hx2 hne => (hk_31 x hne).trans (hE_26.2 x hx2)⟩ (fun x h => by simp at h; try rw [h]) dX1_keep_40
end
section
/-! MonthDesk(), and the law's own helpers -/
theorem ym_ext_wr {H0 H H1 : Heap} {q : Nat} (h : ym_ext H0 H) (hz : H1.size = H.size) (hk : ∀ x : Nat, x ≠ q → H1[x]? = H[x]?) (hq : H0.size ≤ q) : ym_ext H0 H1 :=
  ⟨by rw [hz]; exact h.1, fun x hx => (hk x (by omega)).trans (h.2 x hx)⟩
theorem ym_kept1 {D : va_G} {a q : Nat} {e : va_E} {H H1 : Heap} (h : va_P D vwCl [(a, e)] H) (hne : a ≠ q) (hk : ∀ x : Nat, x ≠ q → H1[x]? = H[x]?) : va_P D vwCl [(a, e)] H1 := h.kept (fun k x hx => by
  have hz : k < 1 := (List.getElem?_eq_some_iff.mp hx).1
  rw [show k = 0 by omega] at hx
  cases hx
  exact hk _ hne)
theorem ym_lt1 {D : va_G} {a : Nat} {e : va_E} {H : Heap} (h : va_P D vwCl [(a, e)] H) : a < H.size := (h 0 _ rfl).lt
/-- a desk is made: two months of count 24000 -/
def ym_zD (D : va_G) (dY : ClassId) (h0 : Nat) : Option Value → Heap → Heap → Prop := fun v H H1 =>
  v = none ∧ ∃ (q a0 a1 : Nat) (f : Nat → Option Nat), va_P D vwCl [(h0, .inr (0, [.ref q]))] H1 ∧ va_P D vwCl [(q, ym_ar dY f)] H1 ∧ va_P D vwCl [(a0, .inr (1, [.int (ym_I 2000), .int (ym_I 1)]))] H1 ∧ va_P D vwCl [(a1, .inr (1, [.int (ym_I 2000), .int (ym_I 1)]))] H1 ∧ f 0 = some a0 ∧ f 1 = some a1 ∧ H.size ≤ q ∧ q < a0 ∧ q < a1 ∧ H.size ≤ H1.size ∧ ∀ x : Nat, x < H.size → x ≠ h0 → H1[x]? = H[x]?
def ym_ce (xs : Nat → Int32) (L : Nat) (k : Int) : Int := if k < L then (xs k.toNat).toInt else 0
theorem ym_ce_t {xs : Nat → Int32} {L : Nat} {k : Int} (h : k < L) : (xs k.toNat).toInt = ym_ce xs L k := (if_pos h).symm
theorem ym_ce_f {xs : Nat → Int32} {L : Nat} {k : Int} (h : (L : Int) ≤ k) : 0 = ym_ce xs L k := (if_neg (by omega)).symm
theorem ym_ce_ran (xs : Nat → Int32) (L : Nat) (k : Int) : ym_i (ym_ce xs L k) := by
  unfold ym_ce
  split
  · exact ym_I_ran _
  · exact ym_i0
theorem ym_X_mv {b L : Nat} {xs : Nat → Int32} : ym_mv (fun U H => va_X b L xs U H) := fun _ _ _ hvm h => va_X.moved hvm h
theorem ym_ln_w {y m v : Int} (h1 : m = 2 → v = 28 + ym_lp y) (h2 : m ≠ 2 → (m = 4 ∨ m = 6 ∨ m = 9 ∨ m = 11) → v = 30) (h3 : m ≠ 2 → ¬ (m = 4 ∨ m = 6 ∨ m = 9 ∨ m = 11) → v = 31) : v = ym_ln y m := by
  unfold ym_ln ym_lb
  by_cases q : m = 2
  · rw [if_pos q]; exact h1 q
  · rw [if_neg q]
    by_cases r : m = 4 ∨ m = 6 ∨ m = 9 ∨ m = 11
    · rw [if_pos r]; exact h2 q r
    · rw [if_neg r]; exact h3 q r
theorem ym_sm_s (y : Int) (k : Int) (hk : 1 ≤ k) : ym_sm y (k - 1).toNat + ym_ln y k = ym_sm y (k + 1 - 1).toNat := by
  have e : (k + 1 - 1).toNat = (k - 1).toNat + 1 := by omega
  rw [e]
  show _ = ym_sm y (k - 1).toNat + ym_ln y (((k - 1).toNat : Int) + 1)
  rw [Int.toNat_of_nonneg (by omega), Int.sub_add_cancel]
theorem ym_f1_ran {y : Int} (h1 : -6000000 ≤ y) (h2 : y ≤ 6000000) : -3000000000 ≤ ym_f1 y ∧ ym_f1 y ≤ 3000000000 := by
  unfold ym_f1
  omega
theorem ym_fd_ran {y m : Int} (h1 : -6000000 ≤ y) (h2 : y ≤ 6000000) (h3 : 1 ≤ m) (h4 : m ≤ 12) : -3000000000 ≤ ym_fd y m ∧ ym_fd y m ≤ 3000001000 := by
  have a := ym_f1_ran h1 h2
  have b := ym_sm_ran y (m - 1).toNat
  unfold ym_fd
  omega
section YG
variable {p : Program} {l : Launch} {e : Env} {R : Room} {s : State} {m : MethodId} {args : Array Value} {below : List Frame} {meth : Method} {c : Code} {H : Heap} {locs : List Loc} {cells slots : Nat} {Q : State → Prop} {cc : ByteArray} {pc : Nat} {ls : Array Slot} {rest : List Value} {D : va_G} {tys : List (ClassId × FieldType)}
theorem ym_anew (hx : p.tables.exec = Jvm.exec) (hb : c.code = cc) {own C : String} {index : Nat} (hown : s.vm.findClass own = some m.cls) (hclink : (Cond.classLink own index C).before args s = true) (hover : va_AO C s) (hK : va_K D vwCl tys s) {dY : ClassId} (t0 : Nat) (ht : tys[t0]? = some (dY, .object C))
    {n : Int32} {N' : Nat} (hn : ¬ n < 0) (hN : n.toNatClampNeg = N') (hbytes : N' * 4 ≤ 536870912) (hcells : cells + 1 ≤ R.cells) (hslots : slots + N' ≤ R.slots) (hdg : decode cc pc = .ok (.anewarray index, 3))
    (kk : ∀ (q : Nat) (H1 : Heap), q = H.size → ym_ext H H1 → va_P D vwCl [(q, .inl (dY, N', .inr (.inr (.inr (.inr (fun _ => none))))))] H1 → W p l e R s m args below meth c H1 locs (cells + 1) (slots + N') Q (F0 m (pc + 3) ls (.ref q :: rest))) : W p l e R s m args below meth c H locs cells slots Q (F0 m pc ls (.int n :: rest)) := by
  subst hN
  refine W.anew hx hb hown hclink (va_AO.use hover) rfl hdg rfl hn hbytes hcells hslots fun cA kA comp f1 f2 f3 f4 => ?_
  obtain ⟨kA', comp', -, -, -, g4⟩ := (hK.2 t0 _ ht).2
  have hd : cA = dY := Option.some.inj (f1.symm.trans g4)
  subst hd
  generalize hH1 : H.push ({ cls := cA, slots := Array.replicate n.toNatClampNeg .null, vm := .none } : Cell) = H1
  have z1 : H1.size = H.size + 1 := by rw [← hH1, Array.size_push]
  have e1 : H1[H.size]? = some (arrV cA n.toNatClampNeg (fun _ => .null)) := by rw [← hH1, Array.getElem?_push_size, ← arrV_new]
  have o1 : ∀ q : Nat, q < H.size → H1[q]? = H[q]? := fun q hq => by rw [← hH1, Array.getElem?_push, if_neg (Nat.ne_of_lt hq)]
  refine kk H.size H1 rfl ⟨by omega, o1⟩ (ym_P1 ?_)
  show H1[H.size]? = some (vp_cell _ _)
  rw [vp_cell_q]
  exact e1
theorem ym_slen (hx : p.tables.exec = Jvm.exec) (hb : c.code = cc) {b L : Nat} {xs : Nat → Int32} (hX : va_X b L xs s H) (hdg : decode cc pc = .ok (.arraylength, 1))
    (kk : W p l e R s m args below meth c H locs cells slots Q (F0 m (pc + 1) ls (.int (ym_I L) :: rest))) : W p l e R s m args below meth c H locs cells slots Q (F0 m pc ls (.ref b :: rest)) := by
  obtain ⟨scr, h1, h2, h3, h4, h5⟩ := hX
  exact W.alen (n := ym_I L) hx hb h1 h2 (by rw [h4]; exact ym_I_nat L) rfl rfl hdg kk
theorem ym_sld (hx : p.tables.exec = Jvm.exec) (hb : c.code = cc) {b L : Nat} {xs : Nat → Int32} (hX : va_X b L xs s H) {k : Int} (h0 : 0 ≤ k) (hk : k < L) (hL : L < 2 ^ 31) (hdg : decode cc pc = .ok (.iaload, 1))
    (kk : W p l e R s m args below meth c H locs cells slots Q (F0 m (pc + 1) ls (.int (ym_I (xs k.toNat).toInt) :: rest))) : W p l e R s m args below meth c H locs cells slots Q (F0 m pc ls (.int (ym_I k) :: .ref b :: rest)) := by
  obtain ⟨scr, h1, h2, h3, h4, h5⟩ := hX
  have hc : (ym_I k).toNatClampNeg = k.toNat := ym_I_cl ⟨by omega, by omega⟩
  rw [← ym_I_of] at kk
  exact W.iald (v := .int (xs k.toNat)) hx hb h1 h2 h3 (by rw [h4]; exact ym_in h0 hk hL) (by rw [hc]; exact h5 _ (by omega)) rfl rfl hdg kk
theorem ym_lald (hx : p.tables.exec = Jvm.exec) (hb : c.code = cc) (hK : va_K D vwCl tys s) {a n : Nat} {cA : ClassId} {g : Nat → Int64} (hP : va_P D vwCl [(a, .inl (cA, n, .inr (.inl g)))] H) (t0 : Nat) (ht : tys[t0]? = some (cA, .long)) {i : Int32} (hin : vp_in i n) {v : Int} (hg : g i.toNatClampNeg = ym_L v) (hdg : decode cc pc = .ok (.laload, 1))
    (kk : W p l e R s m args below meth c H locs cells slots Q (F0 m (pc + 1) ls (.long (ym_L v) :: rest))) : W p l e R s m args below meth c H locs cells slots Q (F0 m pc ls (.int i :: .ref a :: rest)) := va_lald hx hb hK hP 0 t0 rfl ht hin hdg (by rw [hg]; exact kk)
theorem ym_last (hx : p.tables.exec = Jvm.exec) (hb : c.code = cc) (hK : va_K D vwCl tys s) {a n k : Nat} {cA : ClassId} {g : Nat → Int64} (hP : va_P D vwCl [(a, .inl (cA, n, .inr (.inl g)))] H) (t0 : Nat) (ht : tys[t0]? = some (cA, .long)) {i : Int32} {v : Int64} (hin : vp_in i n) (hk : i.toNatClampNeg = k) (hdg : decode cc pc = .ok (.lastore, 1))
    (kk : ∀ (H1 : Heap), va_P D vwCl [(a, .inl (cA, n, .inr (.inl (vp_updL g k v))))] H1 → H1.size = H.size → (∀ x : Nat, x ≠ a → H1[x]? = H[x]?) → W p l e R s m args below meth c H1 (locs ++ [⟨a, k⟩]) cells slots Q (F0 m (pc + 1) ls rest)) : W p l e R s m args below meth c H locs cells slots Q (F0 m pc ls (.long v :: .int i :: .ref a :: rest)) := by
  subst hk
  refine W.last hx hb (hP 0 _ rfl) ((hK.2 t0 _ ht).1 n (fun j => .long (g j))) (fun q => by cases q) (by show ¬ (i < 0 ∨ (arrV _ _ _).slots.size ≤ _); rw [arrV_size]; exact hin) rfl rfl hdg fun H1 e z oq => ?_
  refine kk H1 (ym_P1 ?_) z oq
  show H1[a]? = some (vp_cell _ _)
  rw [e]
  rw [vp_cell_l, vp_cell_l, arrV_store]
  congr 2
  funext q
  by_cases hq : q = i.toNatClampNeg
  · subst hq
    simp [updV, vp_updL]
  · simp [updV, vp_updL, hq]
end YG
set_option maxHeartbeats 4000000 in
set_option maxRecDepth 100000 in
/-- MonthDesk() -/
theorem ym_dInit (l : Launch) (n0 : Nat) (ad : Nat → Nat) (D : va_G) (dY : ClassId) (h0 : Nat) : Met l yX1_init (ws_ yX1_init cX1_init 1 none) ({ frames := 5, cells := 3, slots := 6, locals := 108 }) (va_Pc [.ref h0] (ym_G (ym_w n0 ad D [(dY, .object "YearMonth")] [(h0, .inr (0, [.null]))]))) (ym_Q (ym_zD D dY h0)) 3 6 (fun x => x = h0) := by
  refine Met.ofW (cc := cX1_init) (maxL := 1) (ret := none) (by decide) rfl ?_
  intro p e s m args below meth c s₁ B hml hv
  obtain ⟨rfl, hkw, hK, hP⟩ := hv
  have hx := B.exec
  have hb := B.bytes
  have hr := B.returns
  have hts := atoms_spec (ws := ws_ yX1_init cX1_init 1 none) B.pre
  have hts : ∀ w ∈ lw_all, w.before _ s = true := fun w h => hts w (List.mem_cons_of_mem _ h)
  have hown : s.vm.findClass RX1 = some m.cls := findClass_of_methodNamed B.named
  have hlocks := B.notSynchronized
  have hin : meth.name = "<init>" := (name_of_methodNamed B.named B.method).1
  have hF : CallFix p m c cX1_init 1 s _ lw_all RX1 := ⟨hx, hb, hml, hown, hts⟩
  have hl := lv_entry ([.ref h0]) (n := 1) (Nat.le_of_ble_eq_true rfl)
  rw [lg_entry_eq]
  generalize (lg_sl ([.ref h0]) ++ List.replicate (1 - (lg_sl ([.ref h0])).length) Slot.unset).toArray = ls at hl ⊢
  have hl : lv_has ls 1 [(0, .ref h0)] := hl
  have hE : ym_ext s.heap s.heap := ym_ext_rf
  have hPh0 := hP.sub (ws' := [(h0, .inr (0, [.null]))]) [0] rfl
  have hkws := hkw
  refine lv_aload_n hx hb dX1_init_0 rfl (lv_at hl 0 rfl) ?_
  refine W.objInit hx hb hown (hts _ q24) (hts _ q25) (hts _ q26) rfl (by rw [hml]; exact hl.1) rfl dX1_init_1 (Nat.le_of_ble_eq_true rfl) (Nat.le_of_ble_eq_true rfl) ?_
  refine W.eq (g2 := F0 m 4 ls []) rfl ?_
  refine lv_aload_n hx hb dX1_init_4 rfl (lv_at hl 0 rfl) ?_
  refine ym_iconst hx hb dX1_init_5 ?_
  refine ym_anew (C := "YearMonth") (N' := 2) hx hb hown (hts _ q27) hkw.2.2.2.2.2.2 hK 0 rfl (by decide) (by decide) (by decide) (Nat.le_of_ble_eq_true rfl) (Nat.le_of_ble_eq_true rfl) dX1_init_6 (fun q_1 H_2 hq_3 hE_4 hPq_5 => ?_)
  have hql : s.heap.size ≤ q_1 := by rw [hq_3]; exact hE.1
  have hkw := ym_ext_kw hE_4 hkw
  have hP_6 := ym_ext_P hE_4 hPh0
  have hE_7 := ym_ext_tr hE hE_4
  refine lv_dup hx hb dX1_init_9 rfl ?_
  refine ym_iconst hx hb dX1_init_10 ?_
  refine ym_sipush 2000 hx hb dX1_init_11 (by decide) ?_
  refine ym_iconst hx hb dX1_init_14 ?_
  refine ym_callZ (ym_rS (As := [.int (ym_I 2000), .int (ym_I 1)]) (rest := [.int (ym_I 0), .ref q_1, .ref q_1, .ref h0]) hF (ym_ofYM l n0 ad D 2000 1 (by omega) (by omega) (by omega) (by omega)) (va_cwS 2 hts (lw_S q29 q30 q5 q31) rfl rfl rfl (by decide +kernel) ⟨Nat.le_of_ble_eq_true rfl, Nat.le_of_ble_eq_true rfl⟩) ym_w_mv (ym_w_of hkw (hK.sub (tys' := []) [] rfl) ym_P0) rfl hl.1 rfl (Nat.le_of_ble_eq_true rfl) dX1_init_15 ⟨Nat.le_of_ble_eq_true rfl, Nat.le_of_ble_eq_true rfl⟩) (fun _ h => h.elim) (fun v H_8 hz => ?_)
  obtain ⟨a_10, rfl, hPa_11, ha_12, hE_9⟩ := hz
  have hkw := ym_ext_kw hE_9 hkw
  have hP_13 := ym_ext_P hE_9 hP_6
  have hP_14 := ym_ext_P hE_9 hPq_5
  have hE_15 := ym_ext_tr hE_7 hE_9
  refine W.eq (g2 := F0 m 18 ls [.ref a_10, .int (ym_I 0), .ref q_1, .ref q_1, .ref h0]) rfl ?_
  have hlt_16 : q_1 < a_10 := by rcases ha_12 with h9 | h9; exact h9.elim; exact Nat.lt_of_lt_of_le (ym_lt1 hPq_5) h9
  refine ym_aast (k := 0) hx hb hK hP_14 0 rfl hPa_11 (ym_in (by decide) (by decide) (by decide)) (by rw [ym_I_cl ⟨by decide, by decide⟩]; rfl) dX1_init_18 (fun H_17 hPq_18 hz_19 hk_20 => ?_)
  refine W.forget (L := [⟨q_1, 0⟩]) (fun x h => by simp at h; rw [h]; exact hql) ?_
  have hE_21 := ym_ext_wr hE_15 hz_19 hk_20 hql
  have hkw := ym_ext_kw hE_21 hkws
  have hP_22 := ym_ext_P hE_21 hPh0
  have hP_23 := ym_kept1 hPa_11 (Nat.ne_of_gt hlt_16) hk_20
  refine lv_dup hx hb dX1_init_19 rfl ?_
  refine ym_iconst hx hb dX1_init_20 ?_
  refine ym_sipush 2000 hx hb dX1_init_21 (by decide) ?_
  refine ym_iconst hx hb dX1_init_24 ?_
  refine ym_callZ (ym_rS (As := [.int (ym_I 2000), .int (ym_I 1)]) (rest := [.int (ym_I 1), .ref q_1, .ref q_1, .ref h0]) hF (ym_ofYM l n0 ad D 2000 1 (by omega) (by omega) (by omega) (by omega)) (va_cwS 2 hts (lw_S q29 q30 q5 q31) rfl rfl rfl (by decide +kernel) ⟨Nat.le_of_ble_eq_true rfl, Nat.le_of_ble_eq_true rfl⟩) ym_w_mv (ym_w_of hkw (hK.sub (tys' := []) [] rfl) ym_P0) rfl hl.1 rfl (Nat.le_of_ble_eq_true rfl) dX1_init_25 ⟨Nat.le_of_ble_eq_true rfl, Nat.le_of_ble_eq_true rfl⟩) (fun _ h => h.elim) (fun v H_24 hz => ?_)
  obtain ⟨a_26, rfl, hPa_27, ha_28, hE_25⟩ := hz
  have hkw := ym_ext_kw hE_25 hkw
  have hP_29 := ym_ext_P hE_25 hP_22
  have hP_30 := ym_ext_P hE_25 hPq_18
  have hP_31 := ym_ext_P hE_25 hP_23
  have hE_32 := ym_ext_tr hE_21 hE_25
  refine W.eq (g2 := F0 m 28 ls [.ref a_26, .int (ym_I 1), .ref q_1, .ref q_1, .ref h0]) rfl ?_
  have hlt_33 : q_1 < a_26 := by rcases ha_28 with h9 | h9; exact h9.elim; exact Nat.lt_of_lt_of_le (ym_lt1 hPq_18) h9
  refine ym_aast (k := 1) hx hb hK hP_30 0 rfl hPa_27 (ym_in (by decide) (by decide) (by decide)) (by rw [ym_I_cl ⟨by decide, by decide⟩]; rfl) dX1_init_28 (fun H_34 hPq_35 hz_36 hk_37 => ?_)
  refine W.forget (L := [⟨q_1, 1⟩]) (fun x h => by simp at h; rw [h]; exact hql) ?_
  have hE_38 := ym_ext_wr hE_32 hz_36 hk_37 hql
  have hkw := ym_ext_kw hE_38 hkws
  have hP_39 := ym_ext_P hE_38 hPh0
  have hP_40 := ym_kept1 hP_31 (Nat.ne_of_gt hlt_16) hk_37
  have hP_41 := ym_kept1 hPa_27 (Nat.ne_of_gt hlt_33) hk_37
  refine ym_putF (C := RX1) (T := TX1) (N := 1) (ci := 0) (ty := .array (.object "YearMonth")) hx hb hts in_X1 tyX1 tyX1_ok nmX1 hown hK hP_39 rfl 0 (by decide) (hts _ q142) (fun _ h9 => h9) rfl hin rfl (by decide +kernel) rfl rfl (Nat.le_of_ble_eq_true rfl) dX1_init_29 (fun H_42 x_43 hP_44 hz_45 hk_46 => ?_)
  have h0l := ym_lt1 hPh0
  have hP_44_h : va_P D vwCl [(h0, .inr (0, [.ref q_1]))] H_42 := hP_44
  have hP_47 := ym_kept1 hPq_35 (by omega : q_1 ≠ h0) hk_46
  have hP_48 := ym_kept1 hP_40 (by omega : a_10 ≠ h0) hk_46
  have hP_49 := ym_kept1 hP_41 (by omega : a_26 ≠ h0) hk_46
  exact ym_retV hx hb hr hlocks ⟨rfl, q_1, a_10, a_26, (va_up (va_up (fun _ => none) 0 (some a_10)) 1 (some a_26)), hP_44_h, hP_47, hP_48, hP_49, rfl, rfl, hql, hlt_16, hlt_33, by rw [hz_45]; exact hE_38.1, fun x hx2 hne => (hk_46 x hne).trans (hE_38.2 x hx2)⟩ (fun x h => by simp at h; rw [h]) dX1_init_32
set_option maxHeartbeats 4000000 in
set_option maxRecDepth 100000 in
/-- the script at a place, or 0 -/
theorem ym_cell (l : Launch) (n0 : Nat) (ad : Nat → Nat) (D : va_G) (b : Nat) (L : Nat) (xs : Nat → Int32) (k : Int) (hk1 : 0 ≤ k) (hk2 : k ≤ 1000) (hL : L ≤ 1000) : Met l yX0_cell (ws_ yX0_cell cX0_cell 2 (some .int)) ({ frames := 0, cells := 0, slots := 0, locals := 0 }) (va_Pc [.ref b, .int (ym_I k)] (ym_G (fun U H => va_X b L xs U H))) (ym_Q (ym_zP (.int (ym_I (ym_ce xs L k))))) 0 0 (fun _ => False) := by
  refine Met.ofW (cc := cX0_cell) (maxL := 2) (ret := (some .int)) (by decide) rfl ?_
  intro p e s m args below meth c s₁ B hml hv
  obtain ⟨rfl, hX⟩ := hv
  have hX : va_X b L xs s s.heap := hX
  have hx := B.exec
  have hb := B.bytes
  have hr := B.returns
  have hts := atoms_spec (ws := ws_ yX0_cell cX0_cell 2 (some .int)) B.pre
  have hts : ∀ w ∈ lw_all, w.before _ s = true := fun w h => hts w (List.mem_cons_of_mem _ h)
  have hown : s.vm.findClass RX0 = some m.cls := findClass_of_methodNamed B.named
  have hlocks := B.notSynchronized
  have hF : CallFix p m c cX0_cell 2 s _ lw_all RX0 := ⟨hx, hb, hml, hown, hts⟩
  have hl := lv_entry ([.ref b, .int (ym_I k)]) (n := 2) (Nat.le_of_ble_eq_true rfl)
  rw [lg_entry_eq]
  generalize (lg_sl ([.ref b, .int (ym_I k)]) ++ List.replicate (2 - (lg_sl ([.ref b, .int (ym_I k)])).length) Slot.unset).toArray = ls at hl ⊢
  have hl : lv_has ls 2 [(0, .ref b), (1, .int (ym_I k))] := hl
  have hE : ym_ext s.heap s.heap := ym_ext_rf
  refine lv_iload_n hx hb dX0_cell_0 rfl (lv_at hl 1 rfl) ?_
  refine lv_aload_n hx hb dX0_cell_1 rfl (lv_at hl 0 rfl) ?_
  refine ym_slen hx hb hX dX0_cell_2 ?_
  refine ym_icmp_ge (tgt := 12) hx hb ⟨by omega, by omega⟩ ⟨by omega, by omega⟩ dX0_cell_3 (by decide) (fun c_1 => ?_) (fun c_1 => ?_)
  · refine ym_iconst hx hb dX0_cell_12 ?_
    exact ym_retI hx hb hr hlocks (ym_zPI (ym_ce_f (by omega))) (fun _ h => absurd h List.not_mem_nil) dX0_cell_13
  · refine lv_aload_n hx hb dX0_cell_6 rfl (lv_at hl 0 rfl) ?_
    refine lv_iload_n hx hb dX0_cell_7 rfl (lv_at hl 1 rfl) ?_
    refine ym_sld hx hb hX (by omega) (by omega) (by omega) dX0_cell_8 ?_
    refine lv_goto (tgt := 13) hx hb dX0_cell_9 (by decide) ?_
    exact ym_retI hx hb hr hlocks (ym_zPI (ym_ce_t (by omega))) (fun _ h => absurd h List.not_mem_nil) dX0_cell_13
set_option maxHeartbeats 4000000 in
set_option maxRecDepth 100000 in
/-- the law's rest -/
theorem ym_rest (l : Launch) (n0 : Nat) (ad : Nat → Nat) (D : va_G) (v : Int) (n : Int) (hn1 : 1 ≤ n) (hn2 : n ≤ 100) : Met l yX0_rest (ws_ yX0_rest cX0_rest 2 (some .int)) ({ frames := 0, cells := 0, slots := 0, locals := 0 }) (va_Pc [.int (ym_I v), .int (ym_I n)] (ym_G (ym_w n0 ad D [] []))) (ym_Q (ym_zP (.int (ym_I (v % 2147483648 % n))))) 0 0 (fun _ => False) := by
  refine Met.ofW (cc := cX0_rest) (maxL := 2) (ret := (some .int)) (by decide) rfl ?_
  intro p e s m args below meth c s₁ B hml hv
  obtain ⟨rfl, hkw, hK, hP⟩ := hv
  have hx := B.exec
  have hb := B.bytes
  have hr := B.returns
  have hts := atoms_spec (ws := ws_ yX0_rest cX0_rest 2 (some .int)) B.pre
  have hts : ∀ w ∈ lw_all, w.before _ s = true := fun w h => hts w (List.mem_cons_of_mem _ h)
  have hown : s.vm.findClass RX0 = some m.cls := findClass_of_methodNamed B.named
  have hlocks := B.notSynchronized
  have hF : CallFix p m c cX0_rest 2 s _ lw_all RX0 := ⟨hx, hb, hml, hown, hts⟩
  have hl := lv_entry ([.int (ym_I v), .int (ym_I n)]) (n := 2) (Nat.le_of_ble_eq_true rfl)
  rw [lg_entry_eq]
  generalize (lg_sl ([.int (ym_I v), .int (ym_I n)]) ++ List.replicate (2 - (lg_sl ([.int (ym_I v), .int (ym_I n)])).length) Slot.unset).toArray = ls at hl ⊢
  have hl : lv_has ls 2 [(0, .int (ym_I v)), (1, .int (ym_I n))] := hl
  have hE : ym_ext s.heap s.heap := ym_ext_rf
  refine lv_iload_n hx hb dX0_rest_0 rfl (lv_at hl 0 rfl) ?_
  refine ym_ldc 2147483647 hx hb hown (hts _ q231) (by decide) dX0_rest_1 ?_
  refine ym_iandM hx hb dX0_rest_3 ?_
  refine lv_iload_n hx hb dX0_rest_4 rfl (lv_at hl 1 rfl) ?_
  refine ym_irem hx hb ⟨by omega, by omega⟩ ⟨by omega, by omega⟩ (by omega) dX0_rest_5 ?_
  exact ym_retI hx hb hr hlocks (ym_zPI (Int.tmod_eq_emod_of_nonneg (by omega))) (fun _ h => absurd h List.not_mem_nil) dX0_rest_6
set_option maxHeartbeats 4000000 in
set_option maxRecDepth 100000 in
/-- the law's floor -/
theorem ym_lfloor (l : Launch) (n0 : Nat) (ad : Nat → Nat) (D : va_G) (v : Int) (n : Int) (hv1 : -1000000000000 ≤ v) (hv2 : v ≤ 1000000000000) (hn1 : 1 ≤ n) (hn2 : n ≤ 1000) : Met l yX0_floor (ws_ yX0_floor cX0_floor 4 (some .long)) ({ frames := 0, cells := 0, slots := 0, locals := 0 }) (va_Pc [.long (ym_L v), .long (ym_L n)] (ym_G (ym_w n0 ad D [] []))) (ym_Q (ym_zP (.long (ym_L (v / n))))) 0 0 (fun _ => False) := by
  refine Met.ofW (cc := cX0_floor) (maxL := 4) (ret := (some .long)) (by decide) rfl ?_
  intro p e s m args below meth c s₁ B hml hv
  obtain ⟨rfl, hkw, hK, hP⟩ := hv
  have hx := B.exec
  have hb := B.bytes
  have hr := B.returns
  have hts := atoms_spec (ws := ws_ yX0_floor cX0_floor 4 (some .long)) B.pre
  have hts : ∀ w ∈ lw_all, w.before _ s = true := fun w h => hts w (List.mem_cons_of_mem _ h)
  have hown : s.vm.findClass RX0 = some m.cls := findClass_of_methodNamed B.named
  have hlocks := B.notSynchronized
  have hF : CallFix p m c cX0_floor 4 s _ lw_all RX0 := ⟨hx, hb, hml, hown, hts⟩
  have hl := lv_entry ([.long (ym_L v), .long (ym_L n)]) (n := 4) (Nat.le_of_ble_eq_true rfl)
  rw [lg_entry_eq]
  generalize (lg_sl ([.long (ym_L v), .long (ym_L n)]) ++ List.replicate (4 - (lg_sl ([.long (ym_L v), .long (ym_L n)])).length) Slot.unset).toArray = ls at hl ⊢
  have hl : lv_has ls 4 [(0, .long (ym_L v)), (2, .long (ym_L n))] := hl
  have hE : ym_ext s.heap s.heap := ym_ext_rf
  have t1 := ym_tmz v (d := n) (by omega)
  refine lv_lload_n hx hb dX0_floor_0 rfl (lv_at hl 0 rfl) ?_
  refine lv_lload_n hx hb dX0_floor_1 rfl (lv_at hl 1 rfl) ?_
  refine ym_lrem hx hb ⟨by omega, by omega⟩ ⟨by omega, by omega⟩ (by omega) dX0_floor_2 ?_
  refine ym_lconst 0 hx hb dX0_floor_3 (by decide) ?_
  refine ym_lcmp_ge (tgt := 16) hx hb ⟨by omega, by omega⟩ ⟨by omega, by omega⟩ dX0_floor_4 dX0_floor_5 (by decide) (fun c_1 => ?_) (fun c_1 => ?_)
  · refine lv_lload_n hx hb dX0_floor_16 rfl (lv_at hl 0 rfl) ?_
    refine lv_lload_n hx hb dX0_floor_17 rfl (lv_at hl 1 rfl) ?_
    refine ym_ldiv hx hb ⟨by omega, by omega⟩ ⟨by omega, by omega⟩ (by omega) dX0_floor_18 ?_
    exact ym_retL hx hb hr hlocks (ym_zPL ((ym_floor v (by omega)).2 c_1)) (fun _ h => absurd h List.not_mem_nil) dX0_floor_19
  · refine lv_lload_n hx hb dX0_floor_8 rfl (lv_at hl 0 rfl) ?_
    refine lv_lload_n hx hb dX0_floor_9 rfl (lv_at hl 1 rfl) ?_
    refine ym_ldiv hx hb ⟨by omega, by omega⟩ ⟨by omega, by omega⟩ (by omega) dX0_floor_10 ?_
    refine ym_lconst 1 hx hb dX0_floor_11 (by decide) ?_
    refine ym_lsub hx hb dX0_floor_12 ?_
    refine lv_goto (tgt := 19) hx hb dX0_floor_13 (by decide) ?_
    exact ym_retL hx hb hr hlocks (ym_zPL ((ym_floor v (by omega)).1 c_1)) (fun _ h => absurd h List.not_mem_nil) dX0_floor_19
set_option maxHeartbeats 4000000 in
set_option maxRecDepth 100000 in
/-- the law's leap -/
theorem ym_lleap (l : Launch) (n0 : Nat) (ad : Nat → Nat) (D : va_G) (y : Int) (hy1 : -6000000 ≤ y) (hy2 : y ≤ 6000000) : Met l yX0_leap (ws_ yX0_leap cX0_leap 2 (some .boolean)) ({ frames := 0, cells := 0, slots := 0, locals := 0 }) (va_Pc [.long (ym_L y)] (ym_G (ym_w n0 ad D [] []))) (ym_Q (ym_zP (.int (ym_I (ym_lp y))))) 0 0 (fun _ => False) := by
  refine Met.ofW (cc := cX0_leap) (maxL := 2) (ret := (some .boolean)) (by decide) rfl ?_
  intro p e s m args below meth c s₁ B hml hv
  obtain ⟨rfl, hkw, hK, hP⟩ := hv
  have hx := B.exec
  have hb := B.bytes
  have hr := B.returns
  have hts := atoms_spec (ws := ws_ yX0_leap cX0_leap 2 (some .boolean)) B.pre
  have hts : ∀ w ∈ lw_all, w.before _ s = true := fun w h => hts w (List.mem_cons_of_mem _ h)
  have hown : s.vm.findClass RX0 = some m.cls := findClass_of_methodNamed B.named
  have hlocks := B.notSynchronized
  have hF : CallFix p m c cX0_leap 2 s _ lw_all RX0 := ⟨hx, hb, hml, hown, hts⟩
  have hl := lv_entry ([.long (ym_L y)]) (n := 2) (Nat.le_of_ble_eq_true rfl)
  rw [lg_entry_eq]
  generalize (lg_sl ([.long (ym_L y)]) ++ List.replicate (2 - (lg_sl ([.long (ym_L y)])).length) Slot.unset).toArray = ls at hl ⊢
  have hl : lv_has ls 2 [(0, .long (ym_L y))] := hl
  have hE : ym_ext s.heap s.heap := ym_ext_rf
  have t1 := ym_tmz y (d := 4) (by decide)
  have t2 := ym_tmz y (d := 100) (by decide)
  have t3 := ym_tmz y (d := 400) (by decide)
  refine lv_lload_n hx hb dX0_leap_0 rfl (lv_at hl 0 rfl) ?_
  refine ym_ldc2 4 hx hb hown (hts _ q248) (by decide) dX0_leap_1 ?_
  refine ym_lrem hx hb ⟨by omega, by omega⟩ ⟨by omega, by omega⟩ (by omega) dX0_leap_4 ?_
  refine ym_lconst 0 hx hb dX0_leap_5 (by decide) ?_
  refine ym_lcmp_ne (tgt := 20) hx hb ⟨by omega, by omega⟩ ⟨by omega, by omega⟩ dX0_leap_6 dX0_leap_7 (by decide) (fun c_1 => ?_) (fun c_1 => ?_)
  · refine lv_lload_n hx hb dX0_leap_20 rfl (lv_at hl 0 rfl) ?_
    refine ym_ldc2 400 hx hb hown (hts _ q250) (by decide) dX0_leap_21 ?_
    refine ym_lrem hx hb ⟨by omega, by omega⟩ ⟨by omega, by omega⟩ (by omega) dX0_leap_24 ?_
    refine ym_lconst 0 hx hb dX0_leap_25 (by decide) ?_
    refine ym_lcmp_ne (tgt := 34) hx hb ⟨by omega, by omega⟩ ⟨by omega, by omega⟩ dX0_leap_26 dX0_leap_27 (by decide) (fun c_2 => ?_) (fun c_2 => ?_)
    · refine ym_iconst hx hb dX0_leap_34 ?_
      exact ym_retZ hx hb hr hlocks rfl (ym_zPI (ym_lp0 (by omega))) (fun _ h => absurd h List.not_mem_nil) dX0_leap_35
    · refine ym_iconst hx hb dX0_leap_30 ?_
      refine lv_goto (tgt := 35) hx hb dX0_leap_31 (by decide) ?_
      exact ym_retZ hx hb hr hlocks rfl (ym_zPI (ym_lp1 (by omega))) (fun _ h => absurd h List.not_mem_nil) dX0_leap_35
  · refine lv_lload_n hx hb dX0_leap_10 rfl (lv_at hl 0 rfl) ?_
    refine ym_ldc2 100 hx hb hown (hts _ q249) (by decide) dX0_leap_11 ?_
    refine ym_lrem hx hb ⟨by omega, by omega⟩ ⟨by omega, by omega⟩ (by omega) dX0_leap_14 ?_
    refine ym_lconst 0 hx hb dX0_leap_15 (by decide) ?_
    refine ym_lcmp_ne (tgt := 30) hx hb ⟨by omega, by omega⟩ ⟨by omega, by omega⟩ dX0_leap_16 dX0_leap_17 (by decide) (fun c_3 => ?_) (fun c_3 => ?_)
    · refine ym_iconst hx hb dX0_leap_30 ?_
      refine lv_goto (tgt := 35) hx hb dX0_leap_31 (by decide) ?_
      exact ym_retZ hx hb hr hlocks rfl (ym_zPI (ym_lp1 (by omega))) (fun _ h => absurd h List.not_mem_nil) dX0_leap_35
    · refine lv_lload_n hx hb dX0_leap_20 rfl (lv_at hl 0 rfl) ?_
      refine ym_ldc2 400 hx hb hown (hts _ q250) (by decide) dX0_leap_21 ?_
      refine ym_lrem hx hb ⟨by omega, by omega⟩ ⟨by omega, by omega⟩ (by omega) dX0_leap_24 ?_
      refine ym_lconst 0 hx hb dX0_leap_25 (by decide) ?_
      refine ym_lcmp_ne (tgt := 34) hx hb ⟨by omega, by omega⟩ ⟨by omega, by omega⟩ dX0_leap_26 dX0_leap_27 (by decide) (fun c_4 => ?_) (fun c_4 => ?_)
      · refine ym_iconst hx hb dX0_leap_34 ?_
        exact ym_retZ hx hb hr hlocks rfl (ym_zPI (ym_lp0 (by omega))) (fun _ h => absurd h List.not_mem_nil) dX0_leap_35
      · refine ym_iconst hx hb dX0_leap_30 ?_
        refine lv_goto (tgt := 35) hx hb dX0_leap_31 (by decide) ?_
        exact ym_retZ hx hb hr hlocks rfl (ym_zPI (ym_lp1 (by omega))) (fun _ h => absurd h List.not_mem_nil) dX0_leap_35
set_option maxHeartbeats 4000000 in
set_option maxRecDepth 100000 in
/-- the law's length -/
theorem ym_llength (l : Launch) (n0 : Nat) (ad : Nat → Nat) (D : va_G) (y : Int) (mo : Int) (hy1 : -6000000 ≤ y) (hy2 : y ≤ 6000000) (hm1 : 1 ≤ mo) (hm2 : mo ≤ 12) : Met l yX0_length (ws_ yX0_length cX0_length 3 (some .int)) ({ frames := 1, cells := 0, slots := 0, locals := 21 }) (va_Pc [.long (ym_L y), .int (ym_I mo)] (ym_G (ym_w n0 ad D [] []))) (ym_Q (ym_zP (.int (ym_I (ym_ln y mo))))) 0 0 (fun _ => False) := by
  refine Met.ofW (cc := cX0_length) (maxL := 3) (ret := (some .int)) (by decide) rfl ?_
  intro p e s m args below meth c s₁ B hml hv
  obtain ⟨rfl, hkw, hK, hP⟩ := hv
  have hx := B.exec
  have hb := B.bytes
  have hr := B.returns
  have hts := atoms_spec (ws := ws_ yX0_length cX0_length 3 (some .int)) B.pre
  have hts : ∀ w ∈ lw_all, w.before _ s = true := fun w h => hts w (List.mem_cons_of_mem _ h)
  have hown : s.vm.findClass RX0 = some m.cls := findClass_of_methodNamed B.named
  have hlocks := B.notSynchronized
  have hF : CallFix p m c cX0_length 3 s _ lw_all RX0 := ⟨hx, hb, hml, hown, hts⟩
  have hl := lv_entry ([.long (ym_L y), .int (ym_I mo)]) (n := 3) (Nat.le_of_ble_eq_true rfl)
  rw [lg_entry_eq]
  generalize (lg_sl ([.long (ym_L y), .int (ym_I mo)]) ++ List.replicate (3 - (lg_sl ([.long (ym_L y), .int (ym_I mo)])).length) Slot.unset).toArray = ls at hl ⊢
  have hl : lv_has ls 3 [(0, .long (ym_L y)), (2, .int (ym_I mo))] := hl
  have hE : ym_ext s.heap s.heap := ym_ext_rf
  have r2 := ym_lp_01 y
  refine lv_iload_n hx hb dX0_length_0 rfl (lv_at hl 1 rfl) ?_
  refine ym_iconst hx hb dX0_length_1 ?_
  refine ym_icmp_ne (tgt := 22) hx hb ⟨by omega, by omega⟩ ⟨by omega, by omega⟩ dX0_length_2 (by decide) (fun c_1 => ?_) (fun c_1 => ?_)
  · refine lv_iload_n hx hb dX0_length_22 rfl (lv_at hl 1 rfl) ?_
    refine ym_iconst hx hb dX0_length_23 ?_
    refine ym_icmp_eq (tgt := 45) hx hb ⟨by omega, by omega⟩ ⟨by omega, by omega⟩ dX0_length_24 (by decide) (fun c_2 => ?_) (fun c_2 => ?_)
    · refine ym_bipush 30 hx hb dX0_length_45 (by decide) ?_
      refine lv_goto (tgt := 52) hx hb dX0_length_47 (by decide) ?_
      exact ym_retI hx hb hr hlocks (ym_zPI (ym_ln_w (fun h => by omega) (fun h h2 => by omega) (fun h h2 => by omega))) (fun _ h => absurd h List.not_mem_nil) dX0_length_52
    · refine lv_iload_n hx hb dX0_length_27 rfl (lv_at hl 1 rfl) ?_
      refine ym_bipush 6 hx hb dX0_length_28 (by decide) ?_
      refine ym_icmp_eq (tgt := 45) hx hb ⟨by omega, by omega⟩ ⟨by omega, by omega⟩ dX0_length_30 (by decide) (fun c_3 => ?_) (fun c_3 => ?_)
      · refine ym_bipush 30 hx hb dX0_length_45 (by decide) ?_
        refine lv_goto (tgt := 52) hx hb dX0_length_47 (by decide) ?_
        exact ym_retI hx hb hr hlocks (ym_zPI (ym_ln_w (fun h => by omega) (fun h h2 => by omega) (fun h h2 => by omega))) (fun _ h => absurd h List.not_mem_nil) dX0_length_52
      · refine lv_iload_n hx hb dX0_length_33 rfl (lv_at hl 1 rfl) ?_
        refine ym_bipush 9 hx hb dX0_length_34 (by decide) ?_
        refine ym_icmp_eq (tgt := 45) hx hb ⟨by omega, by omega⟩ ⟨by omega, by omega⟩ dX0_length_36 (by decide) (fun c_4 => ?_) (fun c_4 => ?_)
        · refine ym_bipush 30 hx hb dX0_length_45 (by decide) ?_
          refine lv_goto (tgt := 52) hx hb dX0_length_47 (by decide) ?_
          exact ym_retI hx hb hr hlocks (ym_zPI (ym_ln_w (fun h => by omega) (fun h h2 => by omega) (fun h h2 => by omega))) (fun _ h => absurd h List.not_mem_nil) dX0_length_52
        · refine lv_iload_n hx hb dX0_length_39 rfl (lv_at hl 1 rfl) ?_
          refine ym_bipush 11 hx hb dX0_length_40 (by decide) ?_
          refine ym_icmp_ne (tgt := 50) hx hb ⟨by omega, by omega⟩ ⟨by omega, by omega⟩ dX0_length_42 (by decide) (fun c_5 => ?_) (fun c_5 => ?_)
          · refine ym_bipush 31 hx hb dX0_length_50 (by decide) ?_
            exact ym_retI hx hb hr hlocks (ym_zPI (ym_ln_w (fun h => by omega) (fun h h2 => by omega) (fun h h2 => by omega))) (fun _ h => absurd h List.not_mem_nil) dX0_length_52
          · refine ym_bipush 30 hx hb dX0_length_45 (by decide) ?_
            refine lv_goto (tgt := 52) hx hb dX0_length_47 (by decide) ?_
            exact ym_retI hx hb hr hlocks (ym_zPI (ym_ln_w (fun h => by omega) (fun h h2 => by omega) (fun h h2 => by omega))) (fun _ h => absurd h List.not_mem_nil) dX0_length_52
  · refine lv_lload_n hx hb dX0_length_5 rfl (lv_at hl 0 rfl) ?_
    refine ym_callP (ym_rS (As := [.long (ym_L y)]) (rest := []) hF (ym_lleap l n0 ad D y hy1 hy2) (va_cwS 1 hts (lw_S q245 q246 q2 q247) rfl rfl rfl (by decide +kernel) ⟨Nat.le_of_ble_eq_true rfl, Nat.le_of_ble_eq_true rfl⟩) ym_w_mv (ym_w_of hkw (hK.sub (tys' := []) [] rfl) ym_P0) rfl hl.1 rfl (Nat.le_of_ble_eq_true rfl) dX0_length_6 ⟨Nat.le_of_ble_eq_true rfl, Nat.le_of_ble_eq_true rfl⟩) ?_
    refine ym_if_eq (tgt := 17) hx hb ⟨by omega, by omega⟩ dX0_length_9 (by decide) (fun c_6 => ?_) (fun c_6 => ?_)
    · refine ym_bipush 28 hx hb dX0_length_17 (by decide) ?_
      refine lv_goto (tgt := 52) hx hb dX0_length_19 (by decide) ?_
      exact ym_retI hx hb hr hlocks (ym_zPI (ym_ln_w (fun h => by omega) (fun h h2 => by omega) (fun h h2 => by omega))) (fun _ h => absurd h List.not_mem_nil) dX0_length_52
    · refine ym_bipush 29 hx hb dX0_length_12 (by decide) ?_
      refine lv_goto (tgt := 52) hx hb dX0_length_14 (by decide) ?_
      exact ym_retI hx hb hr hlocks (ym_zPI (ym_ln_w (fun h => by omega) (fun h h2 => by omega) (fun h h2 => by omega))) (fun _ h => absurd h List.not_mem_nil) dX0_length_52
set_option maxHeartbeats 4000000 in
set_option maxRecDepth 100000 in
/-- the law's first day -/
theorem ym_lfirst (l : Launch) (n0 : Nat) (ad : Nat → Nat) (D : va_G) (y : Int) (mo : Int) (hy1 : -6000000 ≤ y) (hy2 : y ≤ 6000000) (hm1 : 1 ≤ mo) (hm2 : mo ≤ 12) : Met l yX0_first (ws_ yX0_first cX0_first 8 (some .long)) ({ frames := 2, cells := 0, slots := 0, locals := 43 }) (va_Pc [.long (ym_L y), .int (ym_I mo)] (ym_G (ym_w n0 ad D [] []))) (ym_Q (ym_zP (.long (ym_L (ym_fd y mo))))) 0 0 (fun _ => False) := by
  refine Met.ofW (cc := cX0_first) (maxL := 8) (ret := (some .long)) (by decide) rfl ?_
  intro p e s m args below meth c s₁ B hml hv
  obtain ⟨rfl, hkw, hK, hP⟩ := hv
  have hx := B.exec
  have hb := B.bytes
  have hr := B.returns
  have hts := atoms_spec (ws := ws_ yX0_first cX0_first 8 (some .long)) B.pre
  have hts : ∀ w ∈ lw_all, w.before _ s = true := fun w h => hts w (List.mem_cons_of_mem _ h)
  have hown : s.vm.findClass RX0 = some m.cls := findClass_of_methodNamed B.named
  have hlocks := B.notSynchronized
  have hF : CallFix p m c cX0_first 8 s _ lw_all RX0 := ⟨hx, hb, hml, hown, hts⟩
  have hl := lv_entry ([.long (ym_L y), .int (ym_I mo)]) (n := 8) (Nat.le_of_ble_eq_true rfl)
  rw [lg_entry_eq]
  generalize (lg_sl ([.long (ym_L y), .int (ym_I mo)]) ++ List.replicate (8 - (lg_sl ([.long (ym_L y), .int (ym_I mo)])).length) Slot.unset).toArray = ls at hl ⊢
  have hl : lv_has ls 8 [(0, .long (ym_L y)), (2, .int (ym_I mo))] := hl
  have hE : ym_ext s.heap s.heap := ym_ext_rf
  refine lv_lload_n hx hb dX0_first_0 rfl (lv_at hl 0 rfl) ?_
  refine ym_lconst 1 hx hb dX0_first_1 (by decide) ?_
  refine ym_lsub hx hb dX0_first_2 ?_
  refine lv_lstore_n (lv' := [(3, .long (ym_L (y - 1))), (0, .long (ym_L y)), (2, .int (ym_I mo))]) hx hb dX0_first_3 rfl hl (by decide) rfl (fun ls hl => ?_)
  refine ym_ldc2 365 hx hb hown (hts _ q254) (by decide) dX0_first_4 ?_
  refine lv_lload_n hx hb dX0_first_7 rfl (lv_at hl 0 rfl) ?_
  refine ym_lmul hx hb dX0_first_8 ?_
  refine lv_lload_n hx hb dX0_first_9 rfl (lv_at hl 0 rfl) ?_
  refine ym_ldc2 4 hx hb hown (hts _ q248) (by decide) dX0_first_10 ?_
  refine ym_callP (ym_rS (As := [.long (ym_L (y - 1)), .long (ym_L 4)]) (rest := [.long (ym_L (365 * (y - 1)))]) hF (ym_lfloor l n0 ad D (y - 1) 4 (by omega) (by omega) (by omega) (by omega)) (va_cwS 2 hts (lw_S q232 q233 q2 q234) rfl rfl rfl (by decide +kernel) ⟨Nat.le_of_ble_eq_true rfl, Nat.le_of_ble_eq_true rfl⟩) ym_w_mv (ym_w_of hkw (hK.sub (tys' := []) [] rfl) ym_P0) rfl hl.1 rfl (Nat.le_of_ble_eq_true rfl) dX0_first_13 ⟨Nat.le_of_ble_eq_true rfl, Nat.le_of_ble_eq_true rfl⟩) ?_
  refine ym_ladd hx hb dX0_first_16 ?_
  refine lv_lload_n hx hb dX0_first_17 rfl (lv_at hl 0 rfl) ?_
  refine ym_ldc2 100 hx hb hown (hts _ q249) (by decide) dX0_first_18 ?_
  refine ym_callP (ym_rS (As := [.long (ym_L (y - 1)), .long (ym_L 100)]) (rest := [.long (ym_L ((365 * (y - 1)) + ((y - 1) / 4)))]) hF (ym_lfloor l n0 ad D (y - 1) 100 (by omega) (by omega) (by omega) (by omega)) (va_cwS 2 hts (lw_S q232 q233 q2 q234) rfl rfl rfl (by decide +kernel) ⟨Nat.le_of_ble_eq_true rfl, Nat.le_of_ble_eq_true rfl⟩) ym_w_mv (ym_w_of hkw (hK.sub (tys' := []) [] rfl) ym_P0) rfl hl.1 rfl (Nat.le_of_ble_eq_true rfl) dX0_first_21 ⟨Nat.le_of_ble_eq_true rfl, Nat.le_of_ble_eq_true rfl⟩) ?_
  refine ym_lsub hx hb dX0_first_24 ?_
  refine lv_lload_n hx hb dX0_first_25 rfl (lv_at hl 0 rfl) ?_
  refine ym_ldc2 400 hx hb hown (hts _ q250) (by decide) dX0_first_26 ?_
  refine ym_callP (ym_rS (As := [.long (ym_L (y - 1)), .long (ym_L 400)]) (rest := [.long (ym_L (((365 * (y - 1)) + ((y - 1) / 4)) - ((y - 1) / 100)))]) hF (ym_lfloor l n0 ad D (y - 1) 400 (by omega) (by omega) (by omega) (by omega)) (va_cwS 2 hts (lw_S q232 q233 q2 q234) rfl rfl rfl (by decide +kernel) ⟨Nat.le_of_ble_eq_true rfl, Nat.le_of_ble_eq_true rfl⟩) ym_w_mv (ym_w_of hkw (hK.sub (tys' := []) [] rfl) ym_P0) rfl hl.1 rfl (Nat.le_of_ble_eq_true rfl) dX0_first_29 ⟨Nat.le_of_ble_eq_true rfl, Nat.le_of_ble_eq_true rfl⟩) ?_
  refine ym_ladd hx hb dX0_first_32 ?_
  refine ym_ldc2 719162 hx hb hown (hts _ q255) (by decide) dX0_first_33 ?_
  refine ym_lsub hx hb dX0_first_36 ?_
  refine ym_setl (ym_f1 y + ym_sm y (1 - 1 : Int).toNat) (by show _ = ym_f1 y + 0; unfold ym_f1; omega) ?_
  refine lv_lstore (lv' := [(5, .long (ym_L (ym_f1 y + ym_sm y (1 - 1 : Int).toNat))), (3, .long (ym_L (y - 1))), (0, .long (ym_L y)), (2, .int (ym_I mo))]) hx hb dX0_first_37 hl (by decide) rfl (fun ls hl => ?_)
  refine ym_iconst hx hb dX0_first_39 ?_
  refine lv_istore (lv' := [(7, .int (ym_I 1)), (5, .long (ym_L (ym_f1 y + ym_sm y (1 - 1 : Int).toNat))), (3, .long (ym_L (y - 1))), (0, .long (ym_L y)), (2, .int (ym_I mo))]) hx hb dX0_first_40 hl (by decide) rfl (fun ls hl => ?_)
  have hsum : 365 * (y - 1) + (y - 1) / 4 - (y - 1) / 100 + (y - 1) / 400 - 719162 = ym_f1 y := rfl
  have lp9 : ∀ (n : Nat) (k : Int), 1 ≤ k → k + n = mo → ∀ ls, lv_has ls 8 [(7, .int (ym_I k)), (5, .long (ym_L (ym_f1 y + ym_sm y (k - 1).toNat))), (2, .int (ym_I mo)), (0, .long (ym_L y))] → W p l e (headSpec (ws_ yX0_first cX0_first 8 (some .long)) ({ frames := 2, cells := 0, slots := 0, locals := 43 })).room s m ([.long (ym_L y), .int (ym_I mo)] : List Value).toArray below meth c s.heap [] 0 0 (MQ below (ym_Q (ym_zP (.long (ym_L (ym_fd y mo))))) ([.long (ym_L y), .int (ym_I mo)] : List Value).toArray s 0 0 (fun _ => False)) (F0 m 42 ls []) := by
    intro n
    induction n with
    | zero =>
      intro k hk1 hk2 ls hl
      have r1 := ym_ln_ran y k
      have r3 := ym_sm_ran y (k - 1).toNat
      have r4 := ym_f1_ran hy1 hy2
      refine lv_iload hx hb dX0_first_42 (lv_at hl 0 rfl) ?_
      refine lv_iload_n hx hb dX0_first_44 rfl (lv_at hl 2 rfl) ?_
      refine ym_icmp_ge (tgt := 66) hx hb ⟨by omega, by omega⟩ ⟨by omega, by omega⟩ dX0_first_45 (by decide) (fun c_1 => ?_) (fun c_1 => ?_)
      · refine lv_lload hx hb dX0_first_66 (lv_at hl 1 rfl) ?_
        exact ym_retL hx hb hr hlocks (ym_zPL (by have e9 : k = mo := (by omega); rw [e9]; rfl)) (fun _ h => absurd h List.not_mem_nil) dX0_first_68
      · exact absurd c_1 (by omega)
    | succ n ih =>
      intro k hk1 hk2 ls hl
      have r1 := ym_ln_ran y k
      have r3 := ym_sm_ran y (k - 1).toNat
      have r4 := ym_f1_ran hy1 hy2
      refine lv_iload hx hb dX0_first_42 (lv_at hl 0 rfl) ?_
      refine lv_iload_n hx hb dX0_first_44 rfl (lv_at hl 2 rfl) ?_
      refine ym_icmp_ge (tgt := 66) hx hb ⟨by omega, by omega⟩ ⟨by omega, by omega⟩ dX0_first_45 (by decide) (fun c_2 => ?_) (fun c_2 => ?_)
      · exact absurd c_2 (by omega)
      · refine lv_lload hx hb dX0_first_48 (lv_at hl 1 rfl) ?_
        refine lv_lload_n hx hb dX0_first_50 rfl (lv_at hl 3 rfl) ?_
        refine lv_iload hx hb dX0_first_51 (lv_at hl 0 rfl) ?_
        refine ym_callP (ym_rS (As := [.long (ym_L y), .int (ym_I k)]) (rest := [.long (ym_L (ym_f1 y + ym_sm y (k - 1).toNat))]) hF (ym_llength l n0 ad D y k (by omega) (by omega) (by omega) (by omega)) (va_cwS 2 hts (lw_S q242 q243 q2 q244) rfl rfl rfl (by decide +kernel) ⟨Nat.le_of_ble_eq_true rfl, Nat.le_of_ble_eq_true rfl⟩) ym_w_mv (ym_w_of hkw (hK.sub (tys' := []) [] rfl) ym_P0) rfl hl.1 rfl (Nat.le_of_ble_eq_true rfl) dX0_first_53 ⟨Nat.le_of_ble_eq_true rfl, Nat.le_of_ble_eq_true rfl⟩) ?_
        refine ym_Wi2l hx hb ⟨by omega, by omega⟩ dX0_first_56 ?_
        refine ym_ladd hx hb dX0_first_57 ?_
        refine ym_setl (ym_f1 y + ym_sm y (k + 1 - 1).toNat) (by rw [Int.add_assoc, ym_sm_s y k hk1]) ?_
        refine lv_lstore (lv' := [(5, .long (ym_L (ym_f1 y + ym_sm y (k + 1 - 1).toNat))), (7, .int (ym_I k)), (2, .int (ym_I mo)), (0, .long (ym_L y))]) hx hb dX0_first_58 hl (by decide) rfl (fun ls hl => ?_)
        refine lv_iinc (v := ym_I (k + 1)) (lv' := [(7, .int (ym_I (k + 1))), (5, .long (ym_L (ym_f1 y + ym_sm y (k + 1 - 1).toNat))), (2, .int (ym_I mo)), (0, .long (ym_L y))]) hx hb dX0_first_60 hl (k := 1) rfl (ym_I_add _ _) (by decide) rfl (fun ls hl => ?_)
        refine lv_goto (tgt := 42) hx hb dX0_first_63 (by decide) ?_
        exact ih (k + 1) (by omega) (by omega) ls (lv_sub hl [0, 1, 2, 3] rfl)
  exact lp9 (mo - 1).toNat 1 (by omega) (by omega) ls (lv_sub hl [0, 1, 4, 3] rfl)
end
section
/-! tells and stands -/
theorem ym_or1 {c0 c1 : Int} (h : c0 < c1) : -1 = ym_or c0 c1 := by
  unfold ym_or
  rw [if_pos h]
theorem ym_or2 {c0 c1 : Int} (h : c1 < c0) : 1 = ym_or c0 c1 := by
  unfold ym_or
  rw [if_neg (by omega), if_pos h]
theorem ym_or3 {c0 c1 : Int} (h : c0 = c1) : 0 = ym_or c0 c1 := by
  unfold ym_or
  rw [if_neg (by omega), if_neg (by omega)]
theorem ym_or_ran (c0 c1 : Int) : -1 ≤ ym_or c0 c1 ∧ ym_or c0 c1 ≤ 1 := by
  unfold ym_or
  split
  · omega
  · split <;> omega
set_option maxHeartbeats 4000000 in
set_option maxRecDepth 100000 in
/-- the law's tells: all that it asks of a place holds -/
theorem ym_tells (l : Launch) (n0 : Nat) (ad : Nat → Nat) (D : va_G) (dY : ClassId) (o : Nat) (q : Nat) (r : Nat) (f : Nat → Option Nat) (cn : Int) (wh : Int) (hf : f (wh % 2).toNat = some r) (hc1 : -50000000 ≤ cn) (hc2 : cn ≤ 50000000) : Met l yX0_tells (ws_ yX0_tells cX0_tells 11 (some .boolean)) ({ frames := 9, cells := 2, slots := 6, locals := 181 }) (va_Pc [.ref o, .int (ym_I wh), .long (ym_L cn)] (ym_G (ym_w n0 ad D [(dY, .object "YearMonth")] [(o, .inr (0, [.ref q])), (q, ym_ar dY f), (r, .inr (1, [.int (ym_I (cn / 12)), .int (ym_I (cn % 12 + 1))]))]))) (ym_Q (ym_zX (.int (ym_I 1)))) 2 6 (fun _ => False) := by
  refine Met.ofW (cc := cX0_tells) (maxL := 11) (ret := (some .boolean)) (by decide) rfl ?_
  intro p e s m args below meth c s₁ B hml hv
  obtain ⟨rfl, hkw, hK, hP⟩ := hv
  have hx := B.exec
  have hb := B.bytes
  have hr := B.returns
  have hts := atoms_spec (ws := ws_ yX0_tells cX0_tells 11 (some .boolean)) B.pre
  have hts : ∀ w ∈ lw_all, w.before _ s = true := fun w h => hts w (List.mem_cons_of_mem _ h)
  have hown : s.vm.findClass RX0 = some m.cls := findClass_of_methodNamed B.named
  have hlocks := B.notSynchronized
  have hF : CallFix p m c cX0_tells 11 s _ lw_all RX0 := ⟨hx, hb, hml, hown, hts⟩
  have hl := lv_entry ([.ref o, .int (ym_I wh), .long (ym_L cn)]) (n := 11) (Nat.le_of_ble_eq_true rfl)
  rw [lg_entry_eq]
  generalize (lg_sl ([.ref o, .int (ym_I wh), .long (ym_L cn)]) ++ List.replicate (11 - (lg_sl ([.ref o, .int (ym_I wh), .long (ym_L cn)])).length) Slot.unset).toArray = ls at hl ⊢
  have hl : lv_has ls 11 [(0, .ref o), (1, .int (ym_I wh)), (2, .long (ym_L cn))] := hl
  have hE : ym_ext s.heap s.heap := ym_ext_rf
  have hPo := hP.sub (ws' := [(o, .inr (0, [.ref q]))]) [0] rfl
  have hPq := hP.sub (ws' := [(q, ym_ar dY f)]) [1] rfl
  have hPr := hP.sub (ws' := [(r, .inr (1, [.int (ym_I (cn / 12)), .int (ym_I (cn % 12 + 1))]))]) [2] rfl
  have r1 := ym_ln_ran (cn / 12) (cn % 12 + 1)
  have r2 := ym_lp_01 (cn / 12)
  have r3 := ym_fd_ran (y := cn / 12) (m := cn % 12 + 1) (by omega) (by omega) (by omega) (by omega)
  refine lv_lload_n hx hb dX0_tells_0 rfl (lv_at hl 2 rfl) ?_
  refine ym_ldc2 12 hx hb hown (hts _ q241) (by decide) dX0_tells_1 ?_
  refine ym_callP (ym_rS (As := [.long (ym_L cn), .long (ym_L 12)]) (rest := []) hF (ym_lfloor l n0 ad D cn 12 (by omega) (by omega) (by omega) (by omega)) (va_cwS 2 hts (lw_S q232 q233 q2 q234) rfl rfl rfl (by decide +kernel) ⟨Nat.le_of_ble_eq_true rfl, Nat.le_of_ble_eq_true rfl⟩) ym_w_mv (ym_w_of hkw (hK.sub (tys' := []) [] rfl) ym_P0) rfl hl.1 rfl (Nat.le_of_ble_eq_true rfl) dX0_tells_4 ⟨Nat.le_of_ble_eq_true rfl, Nat.le_of_ble_eq_true rfl⟩) ?_
  refine lv_lstore (lv' := [(4, .long (ym_L (cn / 12))), (0, .ref o), (1, .int (ym_I wh)), (2, .long (ym_L cn))]) hx hb dX0_tells_7 hl (by decide) rfl (fun ls hl => ?_)
  refine lv_lload_n hx hb dX0_tells_9 rfl (lv_at hl 3 rfl) ?_
  refine ym_ldc2 12 hx hb hown (hts _ q241) (by decide) dX0_tells_10 ?_
  refine lv_lload hx hb dX0_tells_13 (lv_at hl 0 rfl) ?_
  refine ym_lmul hx hb dX0_tells_15 ?_
  refine ym_lsub hx hb dX0_tells_16 ?_
  refine ym_Wl2i hx hb dX0_tells_17 ?_
  refine ym_iconst hx hb dX0_tells_18 ?_
  refine ym_iadd hx hb dX0_tells_19 ?_
  refine ym_seti (cn % 12 + 1) (by omega) ?_
  refine lv_istore (lv' := [(6, .int (ym_I (cn % 12 + 1))), (4, .long (ym_L (cn / 12))), (0, .ref o), (1, .int (ym_I wh)), (2, .long (ym_L cn))]) hx hb dX0_tells_20 hl (by decide) rfl (fun ls hl => ?_)
  refine lv_lload hx hb dX0_tells_22 (lv_at hl 1 rfl) ?_
  refine lv_iload hx hb dX0_tells_24 (lv_at hl 0 rfl) ?_
  refine ym_callP (ym_rS (As := [.long (ym_L (cn / 12)), .int (ym_I (cn % 12 + 1))]) (rest := []) hF (ym_llength l n0 ad D (cn / 12) (cn % 12 + 1) (by omega) (by omega) (by omega) (by omega)) (va_cwS 2 hts (lw_S q242 q243 q2 q244) rfl rfl rfl (by decide +kernel) ⟨Nat.le_of_ble_eq_true rfl, Nat.le_of_ble_eq_true rfl⟩) ym_w_mv (ym_w_of hkw (hK.sub (tys' := []) [] rfl) ym_P0) rfl hl.1 rfl (Nat.le_of_ble_eq_true rfl) dX0_tells_26 ⟨Nat.le_of_ble_eq_true rfl, Nat.le_of_ble_eq_true rfl⟩) ?_
  refine lv_istore (lv' := [(7, .int (ym_I (ym_ln (cn / 12) (cn % 12 + 1)))), (6, .int (ym_I (cn % 12 + 1))), (4, .long (ym_L (cn / 12))), (0, .ref o), (1, .int (ym_I wh)), (2, .long (ym_L cn))]) hx hb dX0_tells_29 hl (by decide) rfl (fun ls hl => ?_)
  refine lv_lload hx hb dX0_tells_31 (lv_at hl 2 rfl) ?_
  refine lv_iload hx hb dX0_tells_33 (lv_at hl 1 rfl) ?_
  refine ym_callP (ym_rS (As := [.long (ym_L (cn / 12)), .int (ym_I (cn % 12 + 1))]) (rest := []) hF (ym_lfirst l n0 ad D (cn / 12) (cn % 12 + 1) (by omega) (by omega) (by omega) (by omega)) (va_cwS 2 hts (lw_S q251 q252 q2 q253) rfl rfl rfl (by decide +kernel) ⟨Nat.le_of_ble_eq_true rfl, Nat.le_of_ble_eq_true rfl⟩) ym_w_mv (ym_w_of hkw (hK.sub (tys' := []) [] rfl) ym_P0) rfl hl.1 rfl (Nat.le_of_ble_eq_true rfl) dX0_tells_35 ⟨Nat.le_of_ble_eq_true rfl, Nat.le_of_ble_eq_true rfl⟩) ?_
  refine lv_lstore (lv' := [(8, .long (ym_L (ym_fd (cn / 12) (cn % 12 + 1)))), (7, .int (ym_I (ym_ln (cn / 12) (cn % 12 + 1)))), (6, .int (ym_I (cn % 12 + 1))), (4, .long (ym_L (cn / 12))), (0, .ref o), (1, .int (ym_I wh)), (2, .long (ym_L cn))]) hx hb dX0_tells_38 hl (by decide) rfl (fun ls hl => ?_)
  refine lv_aload_n hx hb dX0_tells_40 rfl (lv_at hl 4 rfl) ?_
  refine lv_iload_n hx hb dX0_tells_41 rfl (lv_at hl 5 rfl) ?_
  refine ym_callP (ym_rV (C := RX1) (As := [.int (ym_I wh)]) (rest := []) hF (ym_dYear l n0 ad D dY o q r f cn wh hf) (cwV 1 hts (lw_V q256 q257 q258 q3 q259) rfl rfl rfl (by decide +kernel) ⟨Nat.le_of_ble_eq_true rfl, Nat.le_of_ble_eq_true rfl⟩) ym_w_mv (ym_w_of hkw hK ((hPo.app hPq).app hPr)) (va_recv hK hPo (ci := 0) (q0 := 0) rfl rfl) rfl hl.1 rfl (Nat.le_of_ble_eq_true rfl) dX0_tells_42 ⟨Nat.le_of_ble_eq_true rfl, Nat.le_of_ble_eq_true rfl⟩) ?_
  refine ym_Wi2l hx hb ⟨by omega, by omega⟩ dX0_tells_45 ?_
  refine lv_lload hx hb dX0_tells_46 (lv_at hl 3 rfl) ?_
  refine ym_lcmp_ne (tgt := 114) hx hb ⟨by omega, by omega⟩ ⟨by omega, by omega⟩ dX0_tells_48 dX0_tells_49 (by decide) (fun c_1 => ?_) (fun c_1 => ?_)
  · exact absurd c_1 (by omega)
  · refine lv_aload_n hx hb dX0_tells_52 rfl (lv_at hl 4 rfl) ?_
    refine lv_iload_n hx hb dX0_tells_53 rfl (lv_at hl 5 rfl) ?_
    refine ym_callP (ym_rV (C := RX1) (As := [.int (ym_I wh)]) (rest := []) hF (ym_dMonth l n0 ad D dY o q r f cn wh hf) (cwV 1 hts (lw_V q260 q261 q262 q3 q263) rfl rfl rfl (by decide +kernel) ⟨Nat.le_of_ble_eq_true rfl, Nat.le_of_ble_eq_true rfl⟩) ym_w_mv (ym_w_of hkw hK ((hPo.app hPq).app hPr)) (va_recv hK hPo (ci := 0) (q0 := 0) rfl rfl) rfl hl.1 rfl (Nat.le_of_ble_eq_true rfl) dX0_tells_54 ⟨Nat.le_of_ble_eq_true rfl, Nat.le_of_ble_eq_true rfl⟩) ?_
    refine lv_iload hx hb dX0_tells_57 (lv_at hl 2 rfl) ?_
    refine ym_icmp_ne (tgt := 114) hx hb ⟨by omega, by omega⟩ ⟨by omega, by omega⟩ dX0_tells_59 (by decide) (fun c_2 => ?_) (fun c_2 => ?_)
    · exact absurd c_2 (by omega)
    · refine lv_aload_n hx hb dX0_tells_62 rfl (lv_at hl 4 rfl) ?_
      refine lv_iload_n hx hb dX0_tells_63 rfl (lv_at hl 5 rfl) ?_
      refine ym_callP (ym_rV (C := RX1) (As := [.int (ym_I wh)]) (rest := []) hF (ym_dLength l n0 ad D dY o q r f cn wh hf (by omega) (by omega)) (cwV 1 hts (lw_V q268 q269 q270 q3 q271) rfl rfl rfl (by decide +kernel) ⟨Nat.le_of_ble_eq_true rfl, Nat.le_of_ble_eq_true rfl⟩) ym_w_mv (ym_w_of hkw hK ((hPo.app hPq).app hPr)) (va_recv hK hPo (ci := 0) (q0 := 0) rfl rfl) rfl hl.1 rfl (Nat.le_of_ble_eq_true rfl) dX0_tells_64 ⟨Nat.le_of_ble_eq_true rfl, Nat.le_of_ble_eq_true rfl⟩) ?_
      refine lv_iload hx hb dX0_tells_67 (lv_at hl 1 rfl) ?_
      refine ym_icmp_ne (tgt := 114) hx hb ⟨by omega, by omega⟩ ⟨by omega, by omega⟩ dX0_tells_69 (by decide) (fun c_3 => ?_) (fun c_3 => ?_)
      · exact absurd c_3 (by omega)
      · refine lv_aload_n hx hb dX0_tells_72 rfl (lv_at hl 4 rfl) ?_
        refine lv_iload_n hx hb dX0_tells_73 rfl (lv_at hl 5 rfl) ?_
        refine ym_callP (ym_rV (C := RX1) (As := [.int (ym_I wh)]) (rest := []) hF (ym_dLeap l n0 ad D dY o q r f cn wh hf (by omega) (by omega)) (cwV 1 hts (lw_V q311 q312 q313 q3 q314) rfl rfl rfl (by decide +kernel) ⟨Nat.le_of_ble_eq_true rfl, Nat.le_of_ble_eq_true rfl⟩) ym_w_mv (ym_w_of hkw hK ((hPo.app hPq).app hPr)) (va_recv hK hPo (ci := 0) (q0 := 0) rfl rfl) rfl hl.1 rfl (Nat.le_of_ble_eq_true rfl) dX0_tells_74 ⟨Nat.le_of_ble_eq_true rfl, Nat.le_of_ble_eq_true rfl⟩) ?_
        refine lv_lload hx hb dX0_tells_77 (lv_at hl 3 rfl) ?_
        refine ym_callP (ym_rS (As := [.long (ym_L (cn / 12))]) (rest := [.int (ym_I (ym_lp (cn / 12)))]) hF (ym_lleap l n0 ad D (cn / 12) (by omega) (by omega)) (va_cwS 1 hts (lw_S q245 q246 q2 q247) rfl rfl rfl (by decide +kernel) ⟨Nat.le_of_ble_eq_true rfl, Nat.le_of_ble_eq_true rfl⟩) ym_w_mv (ym_w_of hkw (hK.sub (tys' := []) [] rfl) ym_P0) rfl hl.1 rfl (Nat.le_of_ble_eq_true rfl) dX0_tells_79 ⟨Nat.le_of_ble_eq_true rfl, Nat.le_of_ble_eq_true rfl⟩) ?_
        refine ym_icmp_ne (tgt := 114) hx hb ⟨by omega, by omega⟩ ⟨by omega, by omega⟩ dX0_tells_82 (by decide) (fun c_4 => ?_) (fun c_4 => ?_)
        · exact absurd c_4 (by omega)
        · refine lv_aload_n hx hb dX0_tells_85 rfl (lv_at hl 4 rfl) ?_
          refine lv_iload_n hx hb dX0_tells_86 rfl (lv_at hl 5 rfl) ?_
          refine ym_callP (ym_rV (C := RX1) (As := [.int (ym_I wh)]) (rest := []) hF (ym_dYearLen l n0 ad D dY o q r f cn wh hf (by omega) (by omega)) (cwV 1 hts (lw_V q316 q317 q318 q3 q319) rfl rfl rfl (by decide +kernel) ⟨Nat.le_of_ble_eq_true rfl, Nat.le_of_ble_eq_true rfl⟩) ym_w_mv (ym_w_of hkw hK ((hPo.app hPq).app hPr)) (va_recv hK hPo (ci := 0) (q0 := 0) rfl rfl) rfl hl.1 rfl (Nat.le_of_ble_eq_true rfl) dX0_tells_87 ⟨Nat.le_of_ble_eq_true rfl, Nat.le_of_ble_eq_true rfl⟩) ?_
          refine lv_lload hx hb dX0_tells_90 (lv_at hl 3 rfl) ?_
          refine ym_callP (ym_rS (As := [.long (ym_L (cn / 12))]) (rest := [.int (ym_I (365 + ym_lp (cn / 12)))]) hF (ym_lleap l n0 ad D (cn / 12) (by omega) (by omega)) (va_cwS 1 hts (lw_S q245 q246 q2 q247) rfl rfl rfl (by decide +kernel) ⟨Nat.le_of_ble_eq_true rfl, Nat.le_of_ble_eq_true rfl⟩) ym_w_mv (ym_w_of hkw (hK.sub (tys' := []) [] rfl) ym_P0) rfl hl.1 rfl (Nat.le_of_ble_eq_true rfl) dX0_tells_92 ⟨Nat.le_of_ble_eq_true rfl, Nat.le_of_ble_eq_true rfl⟩) ?_
          refine ym_if_eq (tgt := 104) hx hb ⟨by omega, by omega⟩ dX0_tells_95 (by decide) (fun c_5 => ?_) (fun c_5 => ?_)
          · refine ym_sipush 365 hx hb dX0_tells_104 (by decide) ?_
            refine ym_icmp_ne (tgt := 114) hx hb ⟨by omega, by omega⟩ ⟨by omega, by omega⟩ dX0_tells_107 (by decide) (fun c_6 => ?_) (fun c_6 => ?_)
            · exact absurd c_6 (by omega)
            · refine ym_iconst hx hb dX0_tells_110 ?_
              refine lv_goto (tgt := 115) hx hb dX0_tells_111 (by decide) ?_
              refine lv_istore (lv' := [(10, .int (ym_I 1)), (8, .long (ym_L (ym_fd (cn / 12) (cn % 12 + 1)))), (7, .int (ym_I (ym_ln (cn / 12) (cn % 12 + 1)))), (6, .int (ym_I (cn % 12 + 1))), (4, .long (ym_L (cn / 12))), (0, .ref o), (1, .int (ym_I wh)), (2, .long (ym_L cn))]) hx hb dX0_tells_115 hl (by decide) rfl (fun ls hl => ?_)
              refine lv_iload hx hb dX0_tells_117 (lv_at hl 0 rfl) ?_
              refine ym_if_eq (tgt := 154) hx hb ⟨by omega, by omega⟩ dX0_tells_119 (by decide) (fun c_7 => ?_) (fun c_7 => ?_)
              · exact absurd c_7 (by omega)
              · refine lv_aload_n hx hb dX0_tells_122 rfl (lv_at hl 5 rfl) ?_
                refine lv_iload_n hx hb dX0_tells_123 rfl (lv_at hl 6 rfl) ?_
                refine ym_callZ (ym_rV (C := RX1) (As := [.int (ym_I wh)]) (rest := []) hF (ym_dFirst l n0 ad D dY o q r f cn wh hf (by omega) (by omega)) (cwV 1 hts (lw_V q324 q325 q326 q3 q327) rfl rfl rfl (by decide +kernel) ⟨Nat.le_of_ble_eq_true rfl, Nat.le_of_ble_eq_true rfl⟩) ym_w_mv (ym_w_of hkw hK ((hPo.app hPq).app hPr)) (va_recv hK hPo (ci := 0) (q0 := 0) rfl rfl) rfl hl.1 rfl (Nat.le_of_ble_eq_true rfl) dX0_tells_124 ⟨Nat.le_of_ble_eq_true rfl, Nat.le_of_ble_eq_true rfl⟩) (fun _ h => h.elim) (fun v H_8 hz => ?_)
                obtain ⟨rfl, hE_9⟩ := hz
                have hkw := ym_ext_kw hE_9 hkw
                have hP_10 := ym_ext_P hE_9 hPo
                have hP_11 := ym_ext_P hE_9 hPq
                have hP_12 := ym_ext_P hE_9 hPr
                have hE_13 := ym_ext_tr hE hE_9
                refine W.eq (g2 := F0 m 127 ls [.long (ym_L (ym_fd (cn / 12) (cn % 12 + 1) + 1 - 1))]) rfl ?_
                refine lv_lload hx hb dX0_tells_127 (lv_at hl 1 rfl) ?_
                refine ym_lcmp_ne (tgt := 154) hx hb ⟨by omega, by omega⟩ ⟨by omega, by omega⟩ dX0_tells_129 dX0_tells_130 (by decide) (fun c_14 => ?_) (fun c_14 => ?_)
                · exact absurd c_14 (by omega)
                · refine lv_aload_n hx hb dX0_tells_133 rfl (lv_at hl 5 rfl) ?_
                  refine lv_iload_n hx hb dX0_tells_134 rfl (lv_at hl 6 rfl) ?_
                  refine ym_callZ (ym_rV (C := RX1) (As := [.int (ym_I wh)]) (rest := []) hF (ym_dLast l n0 ad D dY o q r f cn wh hf (by omega) (by omega)) (cwV 1 hts (lw_V q399 q400 q401 q3 q402) rfl rfl rfl (by decide +kernel) ⟨Nat.le_of_ble_eq_true rfl, Nat.le_of_ble_eq_true rfl⟩) ym_w_mv (ym_w_of hkw hK ((hP_10.app hP_11).app hP_12)) (va_recv hK hP_10 (ci := 0) (q0 := 0) rfl rfl) rfl hl.1 rfl (Nat.le_of_ble_eq_true rfl) dX0_tells_135 ⟨Nat.le_of_ble_eq_true rfl, Nat.le_of_ble_eq_true rfl⟩) (fun _ h => h.elim) (fun v H_15 hz => ?_)
                  obtain ⟨rfl, hE_16⟩ := hz
                  have hkw := ym_ext_kw hE_16 hkw
                  have hP_17 := ym_ext_P hE_16 hP_10
                  have hP_18 := ym_ext_P hE_16 hP_11
                  have hP_19 := ym_ext_P hE_16 hP_12
                  have hE_20 := ym_ext_tr hE_13 hE_16
                  refine W.eq (g2 := F0 m 138 ls [.long (ym_L (ym_fd (cn / 12) (cn % 12 + 1) + ym_ln (cn / 12) (cn % 12 + 1) - 1))]) rfl ?_
                  refine lv_lload hx hb dX0_tells_138 (lv_at hl 1 rfl) ?_
                  refine lv_iload hx hb dX0_tells_140 (lv_at hl 2 rfl) ?_
                  refine ym_Wi2l hx hb ⟨by omega, by omega⟩ dX0_tells_142 ?_
                  refine ym_ladd hx hb dX0_tells_143 ?_
                  refine ym_lconst 1 hx hb dX0_tells_144 (by decide) ?_
                  refine ym_lsub hx hb dX0_tells_145 ?_
                  refine ym_lcmp_ne (tgt := 154) hx hb ⟨by omega, by omega⟩ ⟨by omega, by omega⟩ dX0_tells_146 dX0_tells_147 (by decide) (fun c_21 => ?_) (fun c_21 => ?_)
                  · exact absurd c_21 (by omega)
                  · refine ym_iconst hx hb dX0_tells_150 ?_
                    refine lv_goto (tgt := 155) hx hb dX0_tells_151 (by decide) ?_
                    exact ym_retZ hx hb hr hlocks rfl ⟨rfl, hE_20⟩ (fun _ h => absurd h List.not_mem_nil) dX0_tells_155
          · refine ym_sipush 366 hx hb dX0_tells_98 (by decide) ?_
            refine lv_goto (tgt := 107) hx hb dX0_tells_101 (by decide) ?_
            refine ym_icmp_ne (tgt := 114) hx hb ⟨by omega, by omega⟩ ⟨by omega, by omega⟩ dX0_tells_107 (by decide) (fun c_22 => ?_) (fun c_22 => ?_)
            · exact absurd c_22 (by omega)
            · refine ym_iconst hx hb dX0_tells_110 ?_
              refine lv_goto (tgt := 115) hx hb dX0_tells_111 (by decide) ?_
              refine lv_istore (lv' := [(10, .int (ym_I 1)), (8, .long (ym_L (ym_fd (cn / 12) (cn % 12 + 1)))), (7, .int (ym_I (ym_ln (cn / 12) (cn % 12 + 1)))), (6, .int (ym_I (cn % 12 + 1))), (4, .long (ym_L (cn / 12))), (0, .ref o), (1, .int (ym_I wh)), (2, .long (ym_L cn))]) hx hb dX0_tells_115 hl (by decide) rfl (fun ls hl => ?_)
              refine lv_iload hx hb dX0_tells_117 (lv_at hl 0 rfl) ?_
              refine ym_if_eq (tgt := 154) hx hb ⟨by omega, by omega⟩ dX0_tells_119 (by decide) (fun c_23 => ?_) (fun c_23 => ?_)
              · exact absurd c_23 (by omega)
              · refine lv_aload_n hx hb dX0_tells_122 rfl (lv_at hl 5 rfl) ?_
                refine lv_iload_n hx hb dX0_tells_123 rfl (lv_at hl 6 rfl) ?_
                refine ym_callZ (ym_rV (C := RX1) (As := [.int (ym_I wh)]) (rest := []) hF (ym_dFirst l n0 ad D dY o q r f cn wh hf (by omega) (by omega)) (cwV 1 hts (lw_V q324 q325 q326 q3 q327) rfl rfl rfl (by decide +kernel) ⟨Nat.le_of_ble_eq_true rfl, Nat.le_of_ble_eq_true rfl⟩) ym_w_mv (ym_w_of hkw hK ((hPo.app hPq).app hPr)) (va_recv hK hPo (ci := 0) (q0 := 0) rfl rfl) rfl hl.1 rfl (Nat.le_of_ble_eq_true rfl) dX0_tells_124 ⟨Nat.le_of_ble_eq_true rfl, Nat.le_of_ble_eq_true rfl⟩) (fun _ h => h.elim) (fun v H_24 hz => ?_)
                obtain ⟨rfl, hE_25⟩ := hz
                have hkw := ym_ext_kw hE_25 hkw
                have hP_26 := ym_ext_P hE_25 hPo
                have hP_27 := ym_ext_P hE_25 hPq
                have hP_28 := ym_ext_P hE_25 hPr
                have hE_29 := ym_ext_tr hE hE_25
                refine W.eq (g2 := F0 m 127 ls [.long (ym_L (ym_fd (cn / 12) (cn % 12 + 1) + 1 - 1))]) rfl ?_
                refine lv_lload hx hb dX0_tells_127 (lv_at hl 1 rfl) ?_
                refine ym_lcmp_ne (tgt := 154) hx hb ⟨by omega, by omega⟩ ⟨by omega, by omega⟩ dX0_tells_129 dX0_tells_130 (by decide) (fun c_30 => ?_) (fun c_30 => ?_)
                · exact absurd c_30 (by omega)
                · refine lv_aload_n hx hb dX0_tells_133 rfl (lv_at hl 5 rfl) ?_
                  refine lv_iload_n hx hb dX0_tells_134 rfl (lv_at hl 6 rfl) ?_
                  refine ym_callZ (ym_rV (C := RX1) (As := [.int (ym_I wh)]) (rest := []) hF (ym_dLast l n0 ad D dY o q r f cn wh hf (by omega) (by omega)) (cwV 1 hts (lw_V q399 q400 q401 q3 q402) rfl rfl rfl (by decide +kernel) ⟨Nat.le_of_ble_eq_true rfl, Nat.le_of_ble_eq_true rfl⟩) ym_w_mv (ym_w_of hkw hK ((hP_26.app hP_27).app hP_28)) (va_recv hK hP_26 (ci := 0) (q0 := 0) rfl rfl) rfl hl.1 rfl (Nat.le_of_ble_eq_true rfl) dX0_tells_135 ⟨Nat.le_of_ble_eq_true rfl, Nat.le_of_ble_eq_true rfl⟩) (fun _ h => h.elim) (fun v H_31 hz => ?_)
                  obtain ⟨rfl, hE_32⟩ := hz
                  have hkw := ym_ext_kw hE_32 hkw
                  have hP_33 := ym_ext_P hE_32 hP_26
                  have hP_34 := ym_ext_P hE_32 hP_27
                  have hP_35 := ym_ext_P hE_32 hP_28
                  have hE_36 := ym_ext_tr hE_29 hE_32
                  refine W.eq (g2 := F0 m 138 ls [.long (ym_L (ym_fd (cn / 12) (cn % 12 + 1) + ym_ln (cn / 12) (cn % 12 + 1) - 1))]) rfl ?_
                  refine lv_lload hx hb dX0_tells_138 (lv_at hl 1 rfl) ?_
                  refine lv_iload hx hb dX0_tells_140 (lv_at hl 2 rfl) ?_
                  refine ym_Wi2l hx hb ⟨by omega, by omega⟩ dX0_tells_142 ?_
                  refine ym_ladd hx hb dX0_tells_143 ?_
                  refine ym_lconst 1 hx hb dX0_tells_144 (by decide) ?_
                  refine ym_lsub hx hb dX0_tells_145 ?_
                  refine ym_lcmp_ne (tgt := 154) hx hb ⟨by omega, by omega⟩ ⟨by omega, by omega⟩ dX0_tells_146 dX0_tells_147 (by decide) (fun c_37 => ?_) (fun c_37 => ?_)
                  · exact absurd c_37 (by omega)
                  · refine ym_iconst hx hb dX0_tells_150 ?_
                    refine lv_goto (tgt := 155) hx hb dX0_tells_151 (by decide) ?_
                    exact ym_retZ hx hb hr hlocks rfl ⟨rfl, hE_36⟩ (fun _ h => absurd h List.not_mem_nil) dX0_tells_155
set_option maxHeartbeats 4000000 in
set_option maxRecDepth 100000 in
/-- the law's stands: all that it asks holds -/
theorem ym_stands (l : Launch) (n0 : Nat) (ad : Nat → Nat) (D : va_G) (dY : ClassId) (dL : ClassId) (o : Nat) (q : Nat) (r0 : Nat) (r1 : Nat) (ca : Nat) (f : Nat → Option Nat) (g : Nat → Int64) (c0 : Int) (c1 : Int) (t : Int) (hf0 : f 0 = some r0) (hf1 : f 1 = some r1) (hg0 : g 0 = ym_L c0) (hg1 : g 1 = ym_L c1) (ha1 : -50000000 ≤ c0) (ha2 : c0 ≤ 50000000) (hb1 : -50000000 ≤ c1) (hb2 : c1 ≤ 50000000) : Met l yX0_stands (ws_ yX0_stands cX0_stands 4 (some .boolean)) ({ frames := 10, cells := 8, slots := 24, locals := 211 }) (va_Pc [.ref o, .ref ca, .int (ym_I t)] (ym_G (ym_w n0 ad D [(dY, .object "YearMonth"), (dL, .long)] [(o, .inr (0, [.ref q])), (q, ym_ar dY f), (r0, .inr (1, [.int (ym_I (c0 / 12)), .int (ym_I (c0 % 12 + 1))])), (r1, .inr (1, [.int (ym_I (c1 / 12)), .int (ym_I (c1 % 12 + 1))])), (ca, .inl (dL, 2, .inr (.inl g)))]))) (ym_Q (ym_zX (.int (ym_I 1)))) 8 24 (fun _ => False) := by
  refine Met.ofW (cc := cX0_stands) (maxL := 4) (ret := (some .boolean)) (by decide) rfl ?_
  intro p e s m args below meth c s₁ B hml hv
  obtain ⟨rfl, hkw, hK, hP⟩ := hv
  have hx := B.exec
  have hb := B.bytes
  have hr := B.returns
  have hts := atoms_spec (ws := ws_ yX0_stands cX0_stands 4 (some .boolean)) B.pre
  have hts : ∀ w ∈ lw_all, w.before _ s = true := fun w h => hts w (List.mem_cons_of_mem _ h)
  have hown : s.vm.findClass RX0 = some m.cls := findClass_of_methodNamed B.named
  have hlocks := B.notSynchronized
  have hF : CallFix p m c cX0_stands 4 s _ lw_all RX0 := ⟨hx, hb, hml, hown, hts⟩
  have hl := lv_entry ([.ref o, .ref ca, .int (ym_I t)]) (n := 4) (Nat.le_of_ble_eq_true rfl)
  rw [lg_entry_eq]
  generalize (lg_sl ([.ref o, .ref ca, .int (ym_I t)]) ++ List.replicate (4 - (lg_sl ([.ref o, .ref ca, .int (ym_I t)])).length) Slot.unset).toArray = ls at hl ⊢
  have hl : lv_has ls 4 [(0, .ref o), (1, .ref ca), (2, .int (ym_I t))] := hl
  have hE : ym_ext s.heap s.heap := ym_ext_rf
  have hPo := hP.sub (ws' := [(o, .inr (0, [.ref q]))]) [0] rfl
  have hPq := hP.sub (ws' := [(q, ym_ar dY f)]) [1] rfl
  have hPr0 := hP.sub (ws' := [(r0, .inr (1, [.int (ym_I (c0 / 12)), .int (ym_I (c0 % 12 + 1))]))]) [2] rfl
  have hPr1 := hP.sub (ws' := [(r1, .inr (1, [.int (ym_I (c1 / 12)), .int (ym_I (c1 % 12 + 1))]))]) [3] rfl
  have hPca := hP.sub (ws' := [(ca, .inl (dL, 2, .inr (.inl g)))]) [4] rfl
  have r9 := ym_or_ran c0 c1
  refine lv_aload_n hx hb dX0_stands_0 rfl (lv_at hl 1 rfl) ?_
  refine ym_iconst hx hb dX0_stands_1 ?_
  refine ym_lald (i := ym_I 0) (v := c0) hx hb hK hPca 1 rfl (ym_in (by decide) (by decide) (by decide)) (by rw [ym_I_cl ⟨by decide, by decide⟩]; exact hg0) dX0_stands_2 ?_
  refine lv_aload_n hx hb dX0_stands_3 rfl (lv_at hl 1 rfl) ?_
  refine ym_iconst hx hb dX0_stands_4 ?_
  refine ym_lald (i := ym_I 1) (v := c1) hx hb hK hPca 1 rfl (ym_in (by decide) (by decide) (by decide)) (by rw [ym_I_cl ⟨by decide, by decide⟩]; exact hg1) dX0_stands_5 ?_
  refine ym_lcmp_ge (tgt := 14) hx hb ⟨by omega, by omega⟩ ⟨by omega, by omega⟩ dX0_stands_6 dX0_stands_7 (by decide) (fun c_1 => ?_) (fun c_1 => ?_)
  · refine lv_aload_n hx hb dX0_stands_14 rfl (lv_at hl 1 rfl) ?_
    refine ym_iconst hx hb dX0_stands_15 ?_
    refine ym_lald (i := ym_I 0) (v := c0) hx hb hK hPca 1 rfl (ym_in (by decide) (by decide) (by decide)) (by rw [ym_I_cl ⟨by decide, by decide⟩]; exact hg0) dX0_stands_16 ?_
    refine lv_aload_n hx hb dX0_stands_17 rfl (lv_at hl 1 rfl) ?_
    refine ym_iconst hx hb dX0_stands_18 ?_
    refine ym_lald (i := ym_I 1) (v := c1) hx hb hK hPca 1 rfl (ym_in (by decide) (by decide) (by decide)) (by rw [ym_I_cl ⟨by decide, by decide⟩]; exact hg1) dX0_stands_19 ?_
    refine ym_lcmp_le (tgt := 28) hx hb ⟨by omega, by omega⟩ ⟨by omega, by omega⟩ dX0_stands_20 dX0_stands_21 (by decide) (fun c_2 => ?_) (fun c_2 => ?_)
    · refine ym_iconst hx hb dX0_stands_28 ?_
      refine ym_seti (ym_or c0 c1) (ym_or3 (by omega)) ?_
      refine lv_istore_n (lv' := [(3, .int (ym_I (ym_or c0 c1))), (0, .ref o), (1, .ref ca), (2, .int (ym_I t))]) hx hb dX0_stands_29 rfl hl (by decide) rfl (fun ls hl => ?_)
      refine lv_aload_n hx hb dX0_stands_30 rfl (lv_at hl 1 rfl) ?_
      refine ym_iconst hx hb dX0_stands_31 ?_
      refine lv_aload_n hx hb dX0_stands_32 rfl (lv_at hl 2 rfl) ?_
      refine ym_iconst hx hb dX0_stands_33 ?_
      refine ym_lald (i := ym_I 0) (v := c0) hx hb hK hPca 1 rfl (ym_in (by decide) (by decide) (by decide)) (by rw [ym_I_cl ⟨by decide, by decide⟩]; exact hg0) dX0_stands_34 ?_
      refine ym_callZ (ym_rS (As := [.ref o, .int (ym_I 0), .long (ym_L c0)]) (rest := []) hF (ym_tells l n0 ad D dY o q r0 f c0 0 hf0 (by omega) (by omega)) (va_cwS 3 hts (lw_S q238 q239 q2 q240) rfl rfl rfl (by decide +kernel) ⟨Nat.le_of_ble_eq_true rfl, Nat.le_of_ble_eq_true rfl⟩) ym_w_mv (ym_w_of hkw (hK.sub (tys' := [(dY, .object "YearMonth")]) [0] rfl) ((hPo.app hPq).app hPr0)) rfl hl.1 rfl (Nat.le_of_ble_eq_true rfl) dX0_stands_35 ⟨Nat.le_of_ble_eq_true rfl, Nat.le_of_ble_eq_true rfl⟩) (fun _ h => h.elim) (fun v H_3 hz => ?_)
      obtain ⟨rfl, hE_4⟩ := hz
      have hkw := ym_ext_kw hE_4 hkw
      have hP_5 := ym_ext_P hE_4 hPo
      have hP_6 := ym_ext_P hE_4 hPq
      have hP_7 := ym_ext_P hE_4 hPr0
      have hP_8 := ym_ext_P hE_4 hPr1
      have hP_9 := ym_ext_P hE_4 hPca
      have hE_10 := ym_ext_tr hE hE_4
      refine W.eq (g2 := F0 m 38 ls [.int (ym_I 1)]) rfl ?_
      refine ym_if_eq (tgt := 92) hx hb ⟨by omega, by omega⟩ dX0_stands_38 (by decide) (fun c_11 => ?_) (fun c_11 => ?_)
      · exact absurd c_11 (by omega)
      · refine lv_aload_n hx hb dX0_stands_41 rfl (lv_at hl 1 rfl) ?_
        refine ym_iconst hx hb dX0_stands_42 ?_
        refine lv_aload_n hx hb dX0_stands_43 rfl (lv_at hl 2 rfl) ?_
        refine ym_iconst hx hb dX0_stands_44 ?_
        refine ym_lald (i := ym_I 1) (v := c1) hx hb hK hP_9 1 rfl (ym_in (by decide) (by decide) (by decide)) (by rw [ym_I_cl ⟨by decide, by decide⟩]; exact hg1) dX0_stands_45 ?_
        refine ym_callZ (ym_rS (As := [.ref o, .int (ym_I 1), .long (ym_L c1)]) (rest := []) hF (ym_tells l n0 ad D dY o q r1 f c1 1 hf1 (by omega) (by omega)) (va_cwS 3 hts (lw_S q238 q239 q2 q240) rfl rfl rfl (by decide +kernel) ⟨Nat.le_of_ble_eq_true rfl, Nat.le_of_ble_eq_true rfl⟩) ym_w_mv (ym_w_of hkw (hK.sub (tys' := [(dY, .object "YearMonth")]) [0] rfl) ((hP_5.app hP_6).app hP_8)) rfl hl.1 rfl (Nat.le_of_ble_eq_true rfl) dX0_stands_46 ⟨Nat.le_of_ble_eq_true rfl, Nat.le_of_ble_eq_true rfl⟩) (fun _ h => h.elim) (fun v H_12 hz => ?_)
        obtain ⟨rfl, hE_13⟩ := hz
        have hkw := ym_ext_kw hE_13 hkw
        have hP_14 := ym_ext_P hE_13 hP_5
        have hP_15 := ym_ext_P hE_13 hP_6
        have hP_16 := ym_ext_P hE_13 hP_7
        have hP_17 := ym_ext_P hE_13 hP_8
        have hP_18 := ym_ext_P hE_13 hP_9
        have hE_19 := ym_ext_tr hE_10 hE_13
        refine W.eq (g2 := F0 m 49 ls [.int (ym_I 1)]) rfl ?_
        refine ym_if_eq (tgt := 92) hx hb ⟨by omega, by omega⟩ dX0_stands_49 (by decide) (fun c_20 => ?_) (fun c_20 => ?_)
        · exact absurd c_20 (by omega)
        · refine lv_aload_n hx hb dX0_stands_52 rfl (lv_at hl 1 rfl) ?_
          refine ym_callP (ym_rV (C := RX1) (As := []) (rest := []) hF (ym_dOrder l n0 ad D dY o q r0 r1 f c0 c1 hf0 hf1 (by omega) (by omega) (by omega) (by omega)) (cwV 0 hts (lw_V q408 q409 q410 q3 q411) rfl rfl rfl (by decide +kernel) ⟨Nat.le_of_ble_eq_true rfl, Nat.le_of_ble_eq_true rfl⟩) ym_w_mv (ym_w_of hkw (hK.sub (tys' := [(dY, .object "YearMonth")]) [0] rfl) (((hP_14.app hP_15).app hP_16).app hP_17)) (va_recv hK hP_14 (ci := 0) (q0 := 0) rfl rfl) rfl hl.1 rfl (Nat.le_of_ble_eq_true rfl) dX0_stands_53 ⟨Nat.le_of_ble_eq_true rfl, Nat.le_of_ble_eq_true rfl⟩) ?_
          refine lv_iload_n hx hb dX0_stands_56 rfl (lv_at hl 0 rfl) ?_
          refine ym_icmp_ne (tgt := 92) hx hb ⟨by omega, by omega⟩ ⟨by omega, by omega⟩ dX0_stands_57 (by decide) (fun c_21 => ?_) (fun c_21 => ?_)
          · exact absurd c_21 (by omega)
          · refine lv_aload_n hx hb dX0_stands_60 rfl (lv_at hl 1 rfl) ?_
            refine ym_iconst hx hb dX0_stands_61 ?_
            refine lv_iload_n hx hb dX0_stands_62 rfl (lv_at hl 3 rfl) ?_
            refine ym_imul hx hb dX0_stands_63 ?_
            refine lv_aload_n hx hb dX0_stands_64 rfl (lv_at hl 2 rfl) ?_
            refine ym_iconst hx hb dX0_stands_65 ?_
            refine ym_lald (i := ym_I 0) (v := c0) hx hb hK hP_18 1 rfl (ym_in (by decide) (by decide) (by decide)) (by rw [ym_I_cl ⟨by decide, by decide⟩]; exact hg0) dX0_stands_66 ?_
            refine ym_callZ (ym_rS (As := [.ref o, .int (ym_I (2 * t)), .long (ym_L c0)]) (rest := []) hF (ym_tells l n0 ad D dY o q r0 f c0 (2 * t) (by rw [show (2 * t % 2).toNat = 0 by omega]; exact hf0) (by omega) (by omega)) (va_cwS 3 hts (lw_S q238 q239 q2 q240) rfl rfl rfl (by decide +kernel) ⟨Nat.le_of_ble_eq_true rfl, Nat.le_of_ble_eq_true rfl⟩) ym_w_mv (ym_w_of hkw (hK.sub (tys' := [(dY, .object "YearMonth")]) [0] rfl) ((hP_14.app hP_15).app hP_16)) rfl hl.1 rfl (Nat.le_of_ble_eq_true rfl) dX0_stands_67 ⟨Nat.le_of_ble_eq_true rfl, Nat.le_of_ble_eq_true rfl⟩) (fun _ h => h.elim) (fun v H_22 hz => ?_)
            obtain ⟨rfl, hE_23⟩ := hz
            have hkw := ym_ext_kw hE_23 hkw
            have hP_24 := ym_ext_P hE_23 hP_14
            have hP_25 := ym_ext_P hE_23 hP_15
            have hP_26 := ym_ext_P hE_23 hP_16
            have hP_27 := ym_ext_P hE_23 hP_17
            have hP_28 := ym_ext_P hE_23 hP_18
            have hE_29 := ym_ext_tr hE_19 hE_23
            refine W.eq (g2 := F0 m 70 ls [.int (ym_I 1)]) rfl ?_
            refine ym_if_eq (tgt := 92) hx hb ⟨by omega, by omega⟩ dX0_stands_70 (by decide) (fun c_30 => ?_) (fun c_30 => ?_)
            · exact absurd c_30 (by omega)
            · refine lv_aload_n hx hb dX0_stands_73 rfl (lv_at hl 1 rfl) ?_
              refine ym_iconst hx hb dX0_stands_74 ?_
              refine lv_iload_n hx hb dX0_stands_75 rfl (lv_at hl 3 rfl) ?_
              refine ym_imul hx hb dX0_stands_76 ?_
              refine ym_iconst hx hb dX0_stands_77 ?_
              refine ym_iadd hx hb dX0_stands_78 ?_
              refine lv_aload_n hx hb dX0_stands_79 rfl (lv_at hl 2 rfl) ?_
              refine ym_iconst hx hb dX0_stands_80 ?_
              refine ym_lald (i := ym_I 1) (v := c1) hx hb hK hP_28 1 rfl (ym_in (by decide) (by decide) (by decide)) (by rw [ym_I_cl ⟨by decide, by decide⟩]; exact hg1) dX0_stands_81 ?_
              refine ym_callZ (ym_rS (As := [.ref o, .int (ym_I ((2 * t) + 1)), .long (ym_L c1)]) (rest := []) hF (ym_tells l n0 ad D dY o q r1 f c1 ((2 * t) + 1) (by rw [show (((2 * t) + 1) % 2).toNat = 1 by omega]; exact hf1) (by omega) (by omega)) (va_cwS 3 hts (lw_S q238 q239 q2 q240) rfl rfl rfl (by decide +kernel) ⟨Nat.le_of_ble_eq_true rfl, Nat.le_of_ble_eq_true rfl⟩) ym_w_mv (ym_w_of hkw (hK.sub (tys' := [(dY, .object "YearMonth")]) [0] rfl) ((hP_24.app hP_25).app hP_27)) rfl hl.1 rfl (Nat.le_of_ble_eq_true rfl) dX0_stands_82 ⟨Nat.le_of_ble_eq_true rfl, Nat.le_of_ble_eq_true rfl⟩) (fun _ h => h.elim) (fun v H_31 hz => ?_)
              obtain ⟨rfl, hE_32⟩ := hz
              have hkw := ym_ext_kw hE_32 hkw
              have hP_33 := ym_ext_P hE_32 hP_24
              have hP_34 := ym_ext_P hE_32 hP_25
              have hP_35 := ym_ext_P hE_32 hP_26
              have hP_36 := ym_ext_P hE_32 hP_27
              have hP_37 := ym_ext_P hE_32 hP_28
              have hE_38 := ym_ext_tr hE_29 hE_32
              refine W.eq (g2 := F0 m 85 ls [.int (ym_I 1)]) rfl ?_
              refine ym_if_eq (tgt := 92) hx hb ⟨by omega, by omega⟩ dX0_stands_85 (by decide) (fun c_39 => ?_) (fun c_39 => ?_)
              · exact absurd c_39 (by omega)
              · refine ym_iconst hx hb dX0_stands_88 ?_
                refine lv_goto (tgt := 93) hx hb dX0_stands_89 (by decide) ?_
                exact ym_retZ hx hb hr hlocks rfl ⟨rfl, hE_38⟩ (fun _ h => absurd h List.not_mem_nil) dX0_stands_93
    · refine ym_iconst hx hb dX0_stands_24 ?_
      refine lv_goto (tgt := 29) hx hb dX0_stands_25 (by decide) ?_
      refine ym_seti (ym_or c0 c1) (ym_or2 (by omega)) ?_
      refine lv_istore_n (lv' := [(3, .int (ym_I (ym_or c0 c1))), (0, .ref o), (1, .ref ca), (2, .int (ym_I t))]) hx hb dX0_stands_29 rfl hl (by decide) rfl (fun ls hl => ?_)
      refine lv_aload_n hx hb dX0_stands_30 rfl (lv_at hl 1 rfl) ?_
      refine ym_iconst hx hb dX0_stands_31 ?_
      refine lv_aload_n hx hb dX0_stands_32 rfl (lv_at hl 2 rfl) ?_
      refine ym_iconst hx hb dX0_stands_33 ?_
      refine ym_lald (i := ym_I 0) (v := c0) hx hb hK hPca 1 rfl (ym_in (by decide) (by decide) (by decide)) (by rw [ym_I_cl ⟨by decide, by decide⟩]; exact hg0) dX0_stands_34 ?_
      refine ym_callZ (ym_rS (As := [.ref o, .int (ym_I 0), .long (ym_L c0)]) (rest := []) hF (ym_tells l n0 ad D dY o q r0 f c0 0 hf0 (by omega) (by omega)) (va_cwS 3 hts (lw_S q238 q239 q2 q240) rfl rfl rfl (by decide +kernel) ⟨Nat.le_of_ble_eq_true rfl, Nat.le_of_ble_eq_true rfl⟩) ym_w_mv (ym_w_of hkw (hK.sub (tys' := [(dY, .object "YearMonth")]) [0] rfl) ((hPo.app hPq).app hPr0)) rfl hl.1 rfl (Nat.le_of_ble_eq_true rfl) dX0_stands_35 ⟨Nat.le_of_ble_eq_true rfl, Nat.le_of_ble_eq_true rfl⟩) (fun _ h => h.elim) (fun v H_40 hz => ?_)
      obtain ⟨rfl, hE_41⟩ := hz
      have hkw := ym_ext_kw hE_41 hkw
      have hP_42 := ym_ext_P hE_41 hPo
      have hP_43 := ym_ext_P hE_41 hPq
      have hP_44 := ym_ext_P hE_41 hPr0
      have hP_45 := ym_ext_P hE_41 hPr1
      have hP_46 := ym_ext_P hE_41 hPca
      have hE_47 := ym_ext_tr hE hE_41
      refine W.eq (g2 := F0 m 38 ls [.int (ym_I 1)]) rfl ?_
      refine ym_if_eq (tgt := 92) hx hb ⟨by omega, by omega⟩ dX0_stands_38 (by decide) (fun c_48 => ?_) (fun c_48 => ?_)
      · exact absurd c_48 (by omega)
      · refine lv_aload_n hx hb dX0_stands_41 rfl (lv_at hl 1 rfl) ?_
        refine ym_iconst hx hb dX0_stands_42 ?_
        refine lv_aload_n hx hb dX0_stands_43 rfl (lv_at hl 2 rfl) ?_
        refine ym_iconst hx hb dX0_stands_44 ?_
        refine ym_lald (i := ym_I 1) (v := c1) hx hb hK hP_46 1 rfl (ym_in (by decide) (by decide) (by decide)) (by rw [ym_I_cl ⟨by decide, by decide⟩]; exact hg1) dX0_stands_45 ?_
        refine ym_callZ (ym_rS (As := [.ref o, .int (ym_I 1), .long (ym_L c1)]) (rest := []) hF (ym_tells l n0 ad D dY o q r1 f c1 1 hf1 (by omega) (by omega)) (va_cwS 3 hts (lw_S q238 q239 q2 q240) rfl rfl rfl (by decide +kernel) ⟨Nat.le_of_ble_eq_true rfl, Nat.le_of_ble_eq_true rfl⟩) ym_w_mv (ym_w_of hkw (hK.sub (tys' := [(dY, .object "YearMonth")]) [0] rfl) ((hP_42.app hP_43).app hP_45)) rfl hl.1 rfl (Nat.le_of_ble_eq_true rfl) dX0_stands_46 ⟨Nat.le_of_ble_eq_true rfl, Nat.le_of_ble_eq_true rfl⟩) (fun _ h => h.elim) (fun v H_49 hz => ?_)
        obtain ⟨rfl, hE_50⟩ := hz
        have hkw := ym_ext_kw hE_50 hkw
        have hP_51 := ym_ext_P hE_50 hP_42
        have hP_52 := ym_ext_P hE_50 hP_43
        have hP_53 := ym_ext_P hE_50 hP_44
        have hP_54 := ym_ext_P hE_50 hP_45
        have hP_55 := ym_ext_P hE_50 hP_46
        have hE_56 := ym_ext_tr hE_47 hE_50
        refine W.eq (g2 := F0 m 49 ls [.int (ym_I 1)]) rfl ?_
        refine ym_if_eq (tgt := 92) hx hb ⟨by omega, by omega⟩ dX0_stands_49 (by decide) (fun c_57 => ?_) (fun c_57 => ?_)
        · exact absurd c_57 (by omega)
        · refine lv_aload_n hx hb dX0_stands_52 rfl (lv_at hl 1 rfl) ?_
          refine ym_callP (ym_rV (C := RX1) (As := []) (rest := []) hF (ym_dOrder l n0 ad D dY o q r0 r1 f c0 c1 hf0 hf1 (by omega) (by omega) (by omega) (by omega)) (cwV 0 hts (lw_V q408 q409 q410 q3 q411) rfl rfl rfl (by decide +kernel) ⟨Nat.le_of_ble_eq_true rfl, Nat.le_of_ble_eq_true rfl⟩) ym_w_mv (ym_w_of hkw (hK.sub (tys' := [(dY, .object "YearMonth")]) [0] rfl) (((hP_51.app hP_52).app hP_53).app hP_54)) (va_recv hK hP_51 (ci := 0) (q0 := 0) rfl rfl) rfl hl.1 rfl (Nat.le_of_ble_eq_true rfl) dX0_stands_53 ⟨Nat.le_of_ble_eq_true rfl, Nat.le_of_ble_eq_true rfl⟩) ?_
          refine lv_iload_n hx hb dX0_stands_56 rfl (lv_at hl 0 rfl) ?_
          refine ym_icmp_ne (tgt := 92) hx hb ⟨by omega, by omega⟩ ⟨by omega, by omega⟩ dX0_stands_57 (by decide) (fun c_58 => ?_) (fun c_58 => ?_)
          · exact absurd c_58 (by omega)
          · refine lv_aload_n hx hb dX0_stands_60 rfl (lv_at hl 1 rfl) ?_
            refine ym_iconst hx hb dX0_stands_61 ?_
            refine lv_iload_n hx hb dX0_stands_62 rfl (lv_at hl 3 rfl) ?_
            refine ym_imul hx hb dX0_stands_63 ?_
            refine lv_aload_n hx hb dX0_stands_64 rfl (lv_at hl 2 rfl) ?_
            refine ym_iconst hx hb dX0_stands_65 ?_
            refine ym_lald (i := ym_I 0) (v := c0) hx hb hK hP_55 1 rfl (ym_in (by decide) (by decide) (by decide)) (by rw [ym_I_cl ⟨by decide, by decide⟩]; exact hg0) dX0_stands_66 ?_
            refine ym_callZ (ym_rS (As := [.ref o, .int (ym_I (2 * t)), .long (ym_L c0)]) (rest := []) hF (ym_tells l n0 ad D dY o q r0 f c0 (2 * t) (by rw [show (2 * t % 2).toNat = 0 by omega]; exact hf0) (by omega) (by omega)) (va_cwS 3 hts (lw_S q238 q239 q2 q240) rfl rfl rfl (by decide +kernel) ⟨Nat.le_of_ble_eq_true rfl, Nat.le_of_ble_eq_true rfl⟩) ym_w_mv (ym_w_of hkw (hK.sub (tys' := [(dY, .object "YearMonth")]) [0] rfl) ((hP_51.app hP_52).app hP_53)) rfl hl.1 rfl (Nat.le_of_ble_eq_true rfl) dX0_stands_67 ⟨Nat.le_of_ble_eq_true rfl, Nat.le_of_ble_eq_true rfl⟩) (fun _ h => h.elim) (fun v H_59 hz => ?_)
            obtain ⟨rfl, hE_60⟩ := hz
            have hkw := ym_ext_kw hE_60 hkw
            have hP_61 := ym_ext_P hE_60 hP_51
            have hP_62 := ym_ext_P hE_60 hP_52
            have hP_63 := ym_ext_P hE_60 hP_53
            have hP_64 := ym_ext_P hE_60 hP_54
            have hP_65 := ym_ext_P hE_60 hP_55
            have hE_66 := ym_ext_tr hE_56 hE_60
            refine W.eq (g2 := F0 m 70 ls [.int (ym_I 1)]) rfl ?_
            refine ym_if_eq (tgt := 92) hx hb ⟨by omega, by omega⟩ dX0_stands_70 (by decide) (fun c_67 => ?_) (fun c_67 => ?_)
            · exact absurd c_67 (by omega)
            · refine lv_aload_n hx hb dX0_stands_73 rfl (lv_at hl 1 rfl) ?_
              refine ym_iconst hx hb dX0_stands_74 ?_
              refine lv_iload_n hx hb dX0_stands_75 rfl (lv_at hl 3 rfl) ?_
              refine ym_imul hx hb dX0_stands_76 ?_
              refine ym_iconst hx hb dX0_stands_77 ?_
              refine ym_iadd hx hb dX0_stands_78 ?_
              refine lv_aload_n hx hb dX0_stands_79 rfl (lv_at hl 2 rfl) ?_
              refine ym_iconst hx hb dX0_stands_80 ?_
              refine ym_lald (i := ym_I 1) (v := c1) hx hb hK hP_65 1 rfl (ym_in (by decide) (by decide) (by decide)) (by rw [ym_I_cl ⟨by decide, by decide⟩]; exact hg1) dX0_stands_81 ?_
              refine ym_callZ (ym_rS (As := [.ref o, .int (ym_I ((2 * t) + 1)), .long (ym_L c1)]) (rest := []) hF (ym_tells l n0 ad D dY o q r1 f c1 ((2 * t) + 1) (by rw [show (((2 * t) + 1) % 2).toNat = 1 by omega]; exact hf1) (by omega) (by omega)) (va_cwS 3 hts (lw_S q238 q239 q2 q240) rfl rfl rfl (by decide +kernel) ⟨Nat.le_of_ble_eq_true rfl, Nat.le_of_ble_eq_true rfl⟩) ym_w_mv (ym_w_of hkw (hK.sub (tys' := [(dY, .object "YearMonth")]) [0] rfl) ((hP_61.app hP_62).app hP_64)) rfl hl.1 rfl (Nat.le_of_ble_eq_true rfl) dX0_stands_82 ⟨Nat.le_of_ble_eq_true rfl, Nat.le_of_ble_eq_true rfl⟩) (fun _ h => h.elim) (fun v H_68 hz => ?_)
              obtain ⟨rfl, hE_69⟩ := hz
              have hkw := ym_ext_kw hE_69 hkw
              have hP_70 := ym_ext_P hE_69 hP_61
              have hP_71 := ym_ext_P hE_69 hP_62
              have hP_72 := ym_ext_P hE_69 hP_63
              have hP_73 := ym_ext_P hE_69 hP_64
              have hP_74 := ym_ext_P hE_69 hP_65
              have hE_75 := ym_ext_tr hE_66 hE_69
              refine W.eq (g2 := F0 m 85 ls [.int (ym_I 1)]) rfl ?_
              refine ym_if_eq (tgt := 92) hx hb ⟨by omega, by omega⟩ dX0_stands_85 (by decide) (fun c_76 => ?_) (fun c_76 => ?_)
              · exact absurd c_76 (by omega)
              · refine ym_iconst hx hb dX0_stands_88 ?_
                refine lv_goto (tgt := 93) hx hb dX0_stands_89 (by decide) ?_
                exact ym_retZ hx hb hr hlocks rfl ⟨rfl, hE_75⟩ (fun _ h => absurd h List.not_mem_nil) dX0_stands_93
  · refine ym_iconst hx hb dX0_stands_10 ?_
    refine lv_goto (tgt := 29) hx hb dX0_stands_11 (by decide) ?_
    refine ym_seti (ym_or c0 c1) (ym_or1 (by omega)) ?_
    refine lv_istore_n (lv' := [(3, .int (ym_I (ym_or c0 c1))), (0, .ref o), (1, .ref ca), (2, .int (ym_I t))]) hx hb dX0_stands_29 rfl hl (by decide) rfl (fun ls hl => ?_)
    refine lv_aload_n hx hb dX0_stands_30 rfl (lv_at hl 1 rfl) ?_
    refine ym_iconst hx hb dX0_stands_31 ?_
    refine lv_aload_n hx hb dX0_stands_32 rfl (lv_at hl 2 rfl) ?_
    refine ym_iconst hx hb dX0_stands_33 ?_
    refine ym_lald (i := ym_I 0) (v := c0) hx hb hK hPca 1 rfl (ym_in (by decide) (by decide) (by decide)) (by rw [ym_I_cl ⟨by decide, by decide⟩]; exact hg0) dX0_stands_34 ?_
    refine ym_callZ (ym_rS (As := [.ref o, .int (ym_I 0), .long (ym_L c0)]) (rest := []) hF (ym_tells l n0 ad D dY o q r0 f c0 0 hf0 (by omega) (by omega)) (va_cwS 3 hts (lw_S q238 q239 q2 q240) rfl rfl rfl (by decide +kernel) ⟨Nat.le_of_ble_eq_true rfl, Nat.le_of_ble_eq_true rfl⟩) ym_w_mv (ym_w_of hkw (hK.sub (tys' := [(dY, .object "YearMonth")]) [0] rfl) ((hPo.app hPq).app hPr0)) rfl hl.1 rfl (Nat.le_of_ble_eq_true rfl) dX0_stands_35 ⟨Nat.le_of_ble_eq_true rfl, Nat.le_of_ble_eq_true rfl⟩) (fun _ h => h.elim) (fun v H_77 hz => ?_)
    obtain ⟨rfl, hE_78⟩ := hz
    have hkw := ym_ext_kw hE_78 hkw
    have hP_79 := ym_ext_P hE_78 hPo
    have hP_80 := ym_ext_P hE_78 hPq
    have hP_81 := ym_ext_P hE_78 hPr0
    have hP_82 := ym_ext_P hE_78 hPr1
    have hP_83 := ym_ext_P hE_78 hPca
    have hE_84 := ym_ext_tr hE hE_78
    refine W.eq (g2 := F0 m 38 ls [.int (ym_I 1)]) rfl ?_
    refine ym_if_eq (tgt := 92) hx hb ⟨by omega, by omega⟩ dX0_stands_38 (by decide) (fun c_85 => ?_) (fun c_85 => ?_)
    · exact absurd c_85 (by omega)
    · refine lv_aload_n hx hb dX0_stands_41 rfl (lv_at hl 1 rfl) ?_
      refine ym_iconst hx hb dX0_stands_42 ?_
      refine lv_aload_n hx hb dX0_stands_43 rfl (lv_at hl 2 rfl) ?_
      refine ym_iconst hx hb dX0_stands_44 ?_
      refine ym_lald (i := ym_I 1) (v := c1) hx hb hK hP_83 1 rfl (ym_in (by decide) (by decide) (by decide)) (by rw [ym_I_cl ⟨by decide, by decide⟩]; exact hg1) dX0_stands_45 ?_
      refine ym_callZ (ym_rS (As := [.ref o, .int (ym_I 1), .long (ym_L c1)]) (rest := []) hF (ym_tells l n0 ad D dY o q r1 f c1 1 hf1 (by omega) (by omega)) (va_cwS 3 hts (lw_S q238 q239 q2 q240) rfl rfl rfl (by decide +kernel) ⟨Nat.le_of_ble_eq_true rfl, Nat.le_of_ble_eq_true rfl⟩) ym_w_mv (ym_w_of hkw (hK.sub (tys' := [(dY, .object "YearMonth")]) [0] rfl) ((hP_79.app hP_80).app hP_82)) rfl hl.1 rfl (Nat.le_of_ble_eq_true rfl) dX0_stands_46 ⟨Nat.le_of_ble_eq_true rfl, Nat.le_of_ble_eq_true rfl⟩) (fun _ h => h.elim) (fun v H_86 hz => ?_)
      obtain ⟨rfl, hE_87⟩ := hz
      have hkw := ym_ext_kw hE_87 hkw
      have hP_88 := ym_ext_P hE_87 hP_79
      have hP_89 := ym_ext_P hE_87 hP_80
      have hP_90 := ym_ext_P hE_87 hP_81
      have hP_91 := ym_ext_P hE_87 hP_82
      have hP_92 := ym_ext_P hE_87 hP_83
      have hE_93 := ym_ext_tr hE_84 hE_87
      refine W.eq (g2 := F0 m 49 ls [.int (ym_I 1)]) rfl ?_
      refine ym_if_eq (tgt := 92) hx hb ⟨by omega, by omega⟩ dX0_stands_49 (by decide) (fun c_94 => ?_) (fun c_94 => ?_)
      · exact absurd c_94 (by omega)
      · refine lv_aload_n hx hb dX0_stands_52 rfl (lv_at hl 1 rfl) ?_
        refine ym_callP (ym_rV (C := RX1) (As := []) (rest := []) hF (ym_dOrder l n0 ad D dY o q r0 r1 f c0 c1 hf0 hf1 (by omega) (by omega) (by omega) (by omega)) (cwV 0 hts (lw_V q408 q409 q410 q3 q411) rfl rfl rfl (by decide +kernel) ⟨Nat.le_of_ble_eq_true rfl, Nat.le_of_ble_eq_true rfl⟩) ym_w_mv (ym_w_of hkw (hK.sub (tys' := [(dY, .object "YearMonth")]) [0] rfl) (((hP_88.app hP_89).app hP_90).app hP_91)) (va_recv hK hP_88 (ci := 0) (q0 := 0) rfl rfl) rfl hl.1 rfl (Nat.le_of_ble_eq_true rfl) dX0_stands_53 ⟨Nat.le_of_ble_eq_true rfl, Nat.le_of_ble_eq_true rfl⟩) ?_
        refine lv_iload_n hx hb dX0_stands_56 rfl (lv_at hl 0 rfl) ?_
        refine ym_icmp_ne (tgt := 92) hx hb ⟨by omega, by omega⟩ ⟨by omega, by omega⟩ dX0_stands_57 (by decide) (fun c_95 => ?_) (fun c_95 => ?_)
        · exact absurd c_95 (by omega)
        · refine lv_aload_n hx hb dX0_stands_60 rfl (lv_at hl 1 rfl) ?_
          refine ym_iconst hx hb dX0_stands_61 ?_
          refine lv_iload_n hx hb dX0_stands_62 rfl (lv_at hl 3 rfl) ?_
          refine ym_imul hx hb dX0_stands_63 ?_
          refine lv_aload_n hx hb dX0_stands_64 rfl (lv_at hl 2 rfl) ?_
          refine ym_iconst hx hb dX0_stands_65 ?_
          refine ym_lald (i := ym_I 0) (v := c0) hx hb hK hP_92 1 rfl (ym_in (by decide) (by decide) (by decide)) (by rw [ym_I_cl ⟨by decide, by decide⟩]; exact hg0) dX0_stands_66 ?_
          refine ym_callZ (ym_rS (As := [.ref o, .int (ym_I (2 * t)), .long (ym_L c0)]) (rest := []) hF (ym_tells l n0 ad D dY o q r0 f c0 (2 * t) (by rw [show (2 * t % 2).toNat = 0 by omega]; exact hf0) (by omega) (by omega)) (va_cwS 3 hts (lw_S q238 q239 q2 q240) rfl rfl rfl (by decide +kernel) ⟨Nat.le_of_ble_eq_true rfl, Nat.le_of_ble_eq_true rfl⟩) ym_w_mv (ym_w_of hkw (hK.sub (tys' := [(dY, .object "YearMonth")]) [0] rfl) ((hP_88.app hP_89).app hP_90)) rfl hl.1 rfl (Nat.le_of_ble_eq_true rfl) dX0_stands_67 ⟨Nat.le_of_ble_eq_true rfl, Nat.le_of_ble_eq_true rfl⟩) (fun _ h => h.elim) (fun v H_96 hz => ?_)
          obtain ⟨rfl, hE_97⟩ := hz
          have hkw := ym_ext_kw hE_97 hkw
          have hP_98 := ym_ext_P hE_97 hP_88
          have hP_99 := ym_ext_P hE_97 hP_89
          have hP_100 := ym_ext_P hE_97 hP_90
          have hP_101 := ym_ext_P hE_97 hP_91
          have hP_102 := ym_ext_P hE_97 hP_92
          have hE_103 := ym_ext_tr hE_93 hE_97
          refine W.eq (g2 := F0 m 70 ls [.int (ym_I 1)]) rfl ?_
          refine ym_if_eq (tgt := 92) hx hb ⟨by omega, by omega⟩ dX0_stands_70 (by decide) (fun c_104 => ?_) (fun c_104 => ?_)
          · exact absurd c_104 (by omega)
          · refine lv_aload_n hx hb dX0_stands_73 rfl (lv_at hl 1 rfl) ?_
            refine ym_iconst hx hb dX0_stands_74 ?_
            refine lv_iload_n hx hb dX0_stands_75 rfl (lv_at hl 3 rfl) ?_
            refine ym_imul hx hb dX0_stands_76 ?_
            refine ym_iconst hx hb dX0_stands_77 ?_
            refine ym_iadd hx hb dX0_stands_78 ?_
            refine lv_aload_n hx hb dX0_stands_79 rfl (lv_at hl 2 rfl) ?_
            refine ym_iconst hx hb dX0_stands_80 ?_
            refine ym_lald (i := ym_I 1) (v := c1) hx hb hK hP_102 1 rfl (ym_in (by decide) (by decide) (by decide)) (by rw [ym_I_cl ⟨by decide, by decide⟩]; exact hg1) dX0_stands_81 ?_
            refine ym_callZ (ym_rS (As := [.ref o, .int (ym_I ((2 * t) + 1)), .long (ym_L c1)]) (rest := []) hF (ym_tells l n0 ad D dY o q r1 f c1 ((2 * t) + 1) (by rw [show (((2 * t) + 1) % 2).toNat = 1 by omega]; exact hf1) (by omega) (by omega)) (va_cwS 3 hts (lw_S q238 q239 q2 q240) rfl rfl rfl (by decide +kernel) ⟨Nat.le_of_ble_eq_true rfl, Nat.le_of_ble_eq_true rfl⟩) ym_w_mv (ym_w_of hkw (hK.sub (tys' := [(dY, .object "YearMonth")]) [0] rfl) ((hP_98.app hP_99).app hP_101)) rfl hl.1 rfl (Nat.le_of_ble_eq_true rfl) dX0_stands_82 ⟨Nat.le_of_ble_eq_true rfl, Nat.le_of_ble_eq_true rfl⟩) (fun _ h => h.elim) (fun v H_105 hz => ?_)
            obtain ⟨rfl, hE_106⟩ := hz
            have hkw := ym_ext_kw hE_106 hkw
            have hP_107 := ym_ext_P hE_106 hP_98
            have hP_108 := ym_ext_P hE_106 hP_99
            have hP_109 := ym_ext_P hE_106 hP_100
            have hP_110 := ym_ext_P hE_106 hP_101
            have hP_111 := ym_ext_P hE_106 hP_102
            have hE_112 := ym_ext_tr hE_103 hE_106
            refine W.eq (g2 := F0 m 85 ls [.int (ym_I 1)]) rfl ?_
            refine ym_if_eq (tgt := 92) hx hb ⟨by omega, by omega⟩ dX0_stands_85 (by decide) (fun c_113 => ?_) (fun c_113 => ?_)
            · exact absurd c_113 (by omega)
            · refine ym_iconst hx hb dX0_stands_88 ?_
              refine lv_goto (tgt := 93) hx hb dX0_stands_89 (by decide) ?_
              exact ym_retZ hx hb hr hlocks rfl ⟨rfl, hE_112⟩ (fun _ h => absurd h List.not_mem_nil) dX0_stands_93
end
section
/-! The law's turn: what stands at the head of its loop, and how each act moves it -/
theorem ym_rmc {a : Nat} (h : a ≤ 100000) : a ≤ room_1.cells := Nat.le_trans h (Nat.le_of_ble_eq_true rfl)
theorem ym_rms {a : Nat} (h : a ≤ 100000) : a ≤ room_1.slots := Nat.le_trans h (Nat.le_of_ble_eq_true rfl)
/-- the law's world: the constants, the script, the desk o with its array q, the counts ca; place j of the desk holds the count cn j, of the law's array the count cg j -/
def ym_LS (s : State) (ad : Nat → Nat) (D : va_G) (dY dL : ClassId) (b Ln : Nat) (xs : Nat → Int32) (o q ca : Nat) (f : Nat → Option Nat) (g : Nat → Int64) (r : Nat → Nat) (cn cg : Nat → Int) (B : Int) (H : Heap) : Prop :=
  ym_kw s.heap.size ad s H ∧ va_X b Ln xs s H ∧ va_P D vwCl [(o, .inr (0, [.ref q]))] H ∧ va_P D vwCl [(q, ym_ar dY f)] H ∧ va_P D vwCl [(ca, .inl (dL, 2, .inr (.inl g)))] H ∧
  (∀ j, j < 2 → f j = some (r j) ∧ va_P D vwCl [(r j, .inr (1, [.int (ym_I (cn j / 12)), .int (ym_I (cn j % 12 + 1))]))] H ∧ q ≠ r j ∧ ca ≠ r j ∧ g j = ym_L (cg j) ∧ -B ≤ cn j ∧ cn j ≤ B) ∧
  s.heap.size ≤ q ∧ s.heap.size ≤ ca ∧ b < s.heap.size ∧ o ≠ q ∧ o ≠ ca ∧ q ≠ ca ∧ s.heap.size ≤ H.size
section YH
variable {s : State} {ad : Nat → Nat} {D : va_G} {dY dL : ClassId} {b Ln : Nat} {xs : Nat → Int32} {o q ca : Nat} {f : Nat → Option Nat} {g : Nat → Int64} {r : Nat → Nat} {cn cg : Nat → Int} {B : Int} {H H1 : Heap}
theorem ym_LS_at (h : ym_LS s ad D dY dL b Ln xs o q ca f g r cn cg B H) {k : Nat} (hk : k < 2) {z : Int} (hz : cn k = z) : f k = some (r k) ∧ va_P D vwCl [(r k, .inr (1, [.int (ym_I (z / 12)), .int (ym_I (z % 12 + 1))]))] H ∧ q ≠ r k ∧ -B ≤ z ∧ z ≤ B := by
  subst hz
  obtain ⟨-, -, -, -, -, h, -⟩ := h
  obtain ⟨h1, h2, h3, -, -, h4, h5⟩ := h k hk
  exact ⟨h1, h2, h3, h4, h5⟩
theorem ym_LS_g (h : ym_LS s ad D dY dL b Ln xs o q ca f g r cn cg B H) {k : Nat} (hk : k < 2) {z : Int} (hz : cg k = z) : g k = ym_L z := by
  subst hz
  obtain ⟨-, -, -, -, -, h, -⟩ := h
  exact (h k hk).2.2.2.2.1
theorem ym_LS_M (h : ym_LS s ad D dY dL b Ln xs o q ca f g r cn cg B H) {k : Nat} (hk : k < 2) {c2 : Int} {rv v : Option Value} (hz : ym_zM D dY q f k (r k) c2 rv v H H1) {B2 : Int} (hB : B ≤ B2) (h1 : -B2 ≤ c2) (h2 : c2 ≤ B2) : ∃ (f2 : Nat → Option Nat) (r2 : Nat → Nat), ym_LS s ad D dY dL b Ln xs o q ca f2 g r2 (va_up cn k c2) cg B2 H1 := by
  obtain ⟨hkw, hX, hPo, hPq, hPc, hS, e1, e2, e3, e4, e5, e6, e7⟩ := h
  obtain ⟨-, a, ha1, ha2, ha3, ha4, ha5⟩ := hz
  have lq := ym_lt1 hPq
  have lc := ym_lt1 hPc
  have lo := ym_lt1 hPo
  obtain ⟨-, -, k3, k4, -⟩ := hS k hk
  have hqa : q ≠ a := by
    rcases ha3 with q9 | q9
    · rw [q9]; exact k3
    · omega
  have hca : ca ≠ a := by
    rcases ha3 with q9 | q9
    · rw [q9]; exact k4
    · omega
  have kp : ∀ {x : Nat} {en : va_E}, va_P D vwCl [(x, en)] H → x ≠ q → va_P D vwCl [(x, en)] H1 := fun {x en} hp hne => hp.kept (fun i y hy => by
    have hz : i < 1 := (List.getElem?_eq_some_iff.mp hy).1
    rw [show i = 0 by omega] at hy
    cases hy
    exact ha5 _ (ym_lt1 hp) hne)
  refine ⟨va_up f k (some a), va_up r k a, ym_kw_kept hkw (fun x hx hA => ha5 x hx (fun e9 => hA (by show s.heap.size ≤ x; rw [e9]; exact e1))), hX.kept (ha5 b (by omega) (by omega)), kp hPo e4, ha1, kp hPc (fun e9 => e6 e9.symm), fun j hj => ?_, e1, e2, e3, e4, e5, e6, Nat.le_trans e7 ha4⟩
  obtain ⟨s1, s2, s3, s4, s5, s6, s7⟩ := hS j hj
  by_cases hjk : j = k
  · subst hjk
    have u1 : va_up f j (some a) j = some a := if_pos rfl
    have u2 : va_up r j a j = a := if_pos rfl
    have u3 : va_up cn j c2 j = c2 := if_pos rfl
    rw [u1, u2, u3]
    exact ⟨rfl, ha2, hqa, hca, s5, h1, h2⟩
  · have u1 : va_up f k (some a) j = f j := if_neg hjk
    have u2 : va_up r k a j = r j := if_neg hjk
    have u3 : va_up cn k c2 j = cn j := if_neg hjk
    rw [u1, u2, u3]
    exact ⟨s1, kp s2 (fun e9 => s3 e9.symm), s3, s4, s5, by omega, by omega⟩
theorem ym_LS_W (h : ym_LS s ad D dY dL b Ln xs o q ca f g r cn cg B H) {k : Nat} {c2 : Int} (hP : va_P D vwCl [(ca, .inl (dL, 2, .inr (.inl (vp_updL g k (ym_L c2)))))] H1) (hz : H1.size = H.size) (hk : ∀ x : Nat, x ≠ ca → H1[x]? = H[x]?) : ym_LS s ad D dY dL b Ln xs o q ca f (vp_updL g k (ym_L c2)) r cn (va_up cg k c2) B H1 := by
  obtain ⟨hkw, hX, hPo, hPq, hPc, hS, e1, e2, e3, e4, e5, e6, e7⟩ := h
  refine ⟨ym_kw_kept hkw (fun x hx hA => hk x (fun e9 => hA (by show s.heap.size ≤ x; rw [e9]; exact e2))), hX.kept (hk b (by omega)), ym_kept1 hPo e5 hk, ym_kept1 hPq e6 hk, hP, fun j hj => ?_, e1, e2, e3, e4, e5, e6, by rw [hz]; exact e7⟩
  obtain ⟨s1, s2, s3, s4, s5, s6, s7⟩ := hS j hj
  refine ⟨s1, ym_kept1 s2 (fun e9 => s4 e9.symm) hk, s3, s4, ?_, s6, s7⟩
  by_cases hjk : j = k
  · subst hjk
    have u1 : vp_updL g j (ym_L c2) j = ym_L c2 := if_pos rfl
    have u2 : va_up cg j c2 j = c2 := if_pos rfl
    rw [u1, u2]
  · have u1 : vp_updL g k (ym_L c2) j = g j := if_neg hjk
    have u2 : va_up cg k c2 j = cg j := if_neg hjk
    rw [u1, u2]
    exact s5
theorem ym_LS_E (h : ym_LS s ad D dY dL b Ln xs o q ca f g r cn cg B H) (hE : ym_ext H H1) : ym_LS s ad D dY dL b Ln xs o q ca f g r cn cg B H1 := by
  obtain ⟨hkw, hX, hPo, hPq, hPc, hS, e1, e2, e3, e4, e5, e6, e7⟩ := h
  refine ⟨ym_ext_kw hE hkw, ym_ext_X hE hX, ym_ext_P hE hPo, ym_ext_P hE hPq, ym_ext_P hE hPc, fun j hj => ?_, e1, e2, e3, e4, e5, e6, Nat.le_trans e7 hE.1⟩
  obtain ⟨s1, s2, s3, s4, s5, s6, s7⟩ := hS j hj
  exact ⟨s1, ym_ext_P hE s2, s3, s4, s5, s6, s7⟩
theorem ym_LS_c {cn2 : Nat → Int} (h : ym_LS s ad D dY dL b Ln xs o q ca f g r cn2 cg B H) (e : ∀ j, cn2 j = cg j) : ym_LS s ad D dY dL b Ln xs o q ca f g r cg cg B H := by
  have e9 : cn2 = cg := funext e
  rw [e9] at h
  exact h
theorem ym_LS_B (h : ym_LS s ad D dY dL b Ln xs o q ca f g r cn cg B H) {B2 : Int} (hB : B ≤ B2) : ym_LS s ad D dY dL b Ln xs o q ca f g r cn cg B2 H := by
  obtain ⟨hkw, hX, hPo, hPq, hPc, hS, e⟩ := h
  refine ⟨hkw, hX, hPo, hPq, hPc, fun j hj => ?_, e⟩
  obtain ⟨s1, s2, s3, s4, s5, s6, s7⟩ := hS j hj
  exact ⟨s1, s2, s3, s4, s5, by omega, by omega⟩
end YH
theorem ym_up_same {cn : Nat → Int} {k : Nat} {c2 z : Int} (h : cn k = z) (e : c2 = z) : ∀ j, va_up cn k c2 j = cn j := fun j => by
  unfold va_up
  by_cases q : j = k
  · rw [if_pos q, q, h, e]
  · rw [if_neg q]
theorem ym_up_eq {cn : Nat → Int} {k : Nat} {c2 c3 : Int} (e : c2 = c3) : ∀ j, va_up cn k c2 j = va_up cn k c3 j := fun j => by rw [e]
theorem ym_up_at {cn : Nat → Int} {k : Nat} {c2 : Int} : va_up cn k c2 k = c2 := if_pos rfl
theorem ym_up_2 {cn : Nat → Int} {k : Nat} {c2 c3 : Int} : va_up (va_up cn k c2) k c3 = va_up cn k c3 := by
  funext j
  unfold va_up
  by_cases q : j = k
  · rw [if_pos q, if_pos q]
  · rw [if_neg q, if_neg q, if_neg q]
theorem ym_tmn (a : Int) : Int.tmod (-(Int.tmod a 1000000)) 1000000 = -(Int.tmod a 1000000) := by
  have h := ym_trem a
  have h2 := ym_tmod (-(Int.tmod a 1000000)) (d := 1000000) (by decide)
  rcases Int.le_total 0 (-(Int.tmod a 1000000)) with q | q
  · have := h2.1 q
    omega
  · have := h2.2 q
    omega
theorem ym_tm12 : Int.tmod 12 1000000 = 12 := by decide
theorem ym_ys_ran {c n B : Int} (hB : 12000000 ≤ B) (h1 : -B ≤ c) (h2 : c ≤ B) : -B ≤ ym_ys c n ∧ ym_ys c n ≤ B := by
  unfold ym_ys
  split <;> omega
theorem ym_kc_ran {c B : Int} (hB : 12000000 ≤ B) (h1 : -B ≤ c) (h2 : c ≤ B) : -B ≤ ym_kc c ∧ ym_kc c ≤ B := by
  unfold ym_kc
  split <;> omega
set_option maxHeartbeats 8000000 in
set_option maxRecDepth 100000 in
/-- a turn's end: the law asks of both places, and goes on -/
theorem ym_tail {p : Program} {e : Env} {s : State} {m : MethodId} {below : List Frame} {meth : Method} {c : Code} {Q : State → Prop} (l : Launch) {b Ln : Nat} {xs : Nat → Int32} {ad : Nat → Nat} {D : va_G} {dY dL : ClassId} {o q ca : Nat} (hx : p.tables.exec = Jvm.exec) (hb : c.code = code) (hml : c.maxLocals = 12) (hown : s.vm.findClass RX0 = some m.cls) (hts : ∀ w ∈ lw_all, w.before #[Value.ref b] s = true) (hK : va_K D vwCl [(dY, .object "YearMonth"), (dL, .long)] s) (k vb : Int) {B : Int} (hk1 : 0 ≤ k) (hk9 : k < 32) (hB1 : 12000000 ≤ B) (hB2 : B ≤ 48000000) {cells slots : Nat} (hcc : cells ≤ 1000) (hss : slots ≤ 3000) {f : Nat → Option Nat} {g : Nat → Int64} {r : Nat → Nat} {cn : Nat → Int} {H : Heap} (hLS : ym_LS s ad D dY dL b Ln xs o q ca f g r cn cn (B + 1000000) H) (cont : ∀ (f : Nat → Option Nat) (g : Nat → Int64) (r : Nat → Nat) (cn : Nat → Int) (H : Heap) (ls : Array Slot), ym_LS s ad D dY dL b Ln xs o q ca f g r cn cn (B + 1000000) H → lv_has ls 12 [(3, .int (ym_I (k + 1))), (2, .ref ca), (1, .ref o), (0, .ref b)] → W p l e room_1 s m #[Value.ref b] below meth c H [] (cells + 11) (slots + 30) Q (F0 m 43 ls [])) {ls : Array Slot} (hl : lv_has ls 12 [(7, .int (ym_I vb)), (3, .int (ym_I k)), (2, .ref ca), (1, .ref o), (0, .ref b)]) : W p l e room_1 s m #[Value.ref b] below meth c H [] (cells + 3) (slots + 6) Q (F0 m 431 ls []) := by
  have hF : CallFix p m c cL_law 12 s #[Value.ref b] lw_all RX0 := ⟨hx, hb, hml, hown, hts⟩
  have hkw := hLS.1
  have hX := hLS.2.1
  have hPo := hLS.2.2.1
  have hPq := hLS.2.2.2.1
  have hPca := hLS.2.2.2.2.1
  obtain ⟨hf0, hP0, -, hb01, hb02⟩ := ym_LS_at hLS (k := 0) (by decide) rfl
  obtain ⟨hf1, hP1, -, hb11, hb12⟩ := ym_LS_at hLS (k := 1) (by decide) rfl
  have hg0 := ym_LS_g hLS (k := 0) (by decide) rfl
  have hg1 := ym_LS_g hLS (k := 1) (by decide) rfl
  refine lv_aload_n hx hb dL_law_431 rfl (lv_at hl 3 rfl) ?_
  refine lv_aload_n hx hb dL_law_432 rfl (lv_at hl 2 rfl) ?_
  refine lv_iload hx hb dL_law_433 (lv_at hl 0 rfl) ?_
  refine ym_iconst hx hb dL_law_435 ?_
  refine ym_ishr hx hb dL_law_436 (fun sh_1 hsh_1 => ?_)
  refine ym_callZ (ym_rS (As := [.ref o, .ref ca, .int (ym_I sh_1)]) (rest := []) hF (ym_stands l s.heap.size ad D dY dL o q (r 0) (r 1) ca f g (cn 0) (cn 1) sh_1 hf0 hf1 hg0 hg1 (by omega) (by omega) (by omega) (by omega)) (va_cwS 3 hts (lw_S q235 q236 q2 q237) rfl rfl rfl (by decide +kernel) ⟨Nat.le_of_ble_eq_true rfl, Nat.le_of_ble_eq_true rfl⟩) ym_w_mv (ym_w_of hkw hK ((((hPo.app hPq).app hP0).app hP1).app hPca)) rfl hl.1 rfl (Nat.le_of_ble_eq_true rfl) dL_law_437 ⟨ym_rmc (by omega), ym_rms (by omega)⟩) (fun _ h => h.elim) (fun v H_2 hz => ?_)
  obtain ⟨rfl, hE_3⟩ := hz
  have hLS := ym_LS_E hLS hE_3
  refine W.eq (g2 := F0 m 440 ls [.int (ym_I 1)]) rfl ?_
  refine ym_if_ne (tgt := 445) hx hb ⟨by omega, by omega⟩ dL_law_440 (by decide) (fun c_4 => ?_) (fun c_4 => ?_)
  · refine lv_iinc (v := ym_I (k + 1)) (lv' := [(3, .int (ym_I (k + 1))), (7, .int (ym_I vb)), (2, .ref ca), (1, .ref o), (0, .ref b)]) hx hb dL_law_445 hl (k := 1) rfl (ym_I_add _ _) (by decide) rfl (fun ls hl => ?_)
    refine lv_goto (tgt := 43) hx hb dL_law_448 (by decide) ?_
    exact cont f g r cn _ ls hLS (lv_sub hl [0, 2, 3, 4] rfl)
  · exact absurd c_4 (by omega)
set_option maxHeartbeats 8000000 in
set_option maxRecDepth 100000 in
/-- one turn of the law's loop -/
theorem ym_turn {p : Program} {e : Env} {s : State} {m : MethodId} {below : List Frame} {meth : Method} {c : Code} {Q : State → Prop} (l : Launch) {b Ln : Nat} {xs : Nat → Int32} {ad : Nat → Nat} {D : va_G} {dY dL : ClassId} {o q ca : Nat} (hx : p.tables.exec = Jvm.exec) (hb : c.code = code) (hml : c.maxLocals = 12) (hown : s.vm.findClass RX0 = some m.cls) (hts : ∀ w ∈ lw_all, w.before #[Value.ref b] s = true) (hK : va_K D vwCl [(dY, .object "YearMonth"), (dL, .long)] s) (hLn : Ln ≤ 96) {cells slots : Nat} (hcc : cells ≤ 1000) (hss : slots ≤ 3000) (k : Int) {B : Int} (hk1 : 0 ≤ k) (hk9 : k < 32) (hB1 : 12000000 ≤ B) (hB2 : B ≤ 48000000) {f : Nat → Option Nat} {g : Nat → Int64} {r : Nat → Nat} {cn : Nat → Int} {H : Heap} (hLS : ym_LS s ad D dY dL b Ln xs o q ca f g r cn cn B H) (cont : ∀ (f : Nat → Option Nat) (g : Nat → Int64) (r : Nat → Nat) (cn : Nat → Int) (H : Heap) (ls : Array Slot), ym_LS s ad D dY dL b Ln xs o q ca f g r cn cn (B + 1000000) H → lv_has ls 12 [(3, .int (ym_I (k + 1))), (2, .ref ca), (1, .ref o), (0, .ref b)] → W p l e room_1 s m #[Value.ref b] below meth c H [] (cells + 11) (slots + 30) Q (F0 m 43 ls [])) {ls : Array Slot} (hl : lv_has ls 12 [(3, .int (ym_I k)), (2, .ref ca), (1, .ref o), (0, .ref b)]) : W p l e room_1 s m #[Value.ref b] below meth c H [] cells slots Q (F0 m 43 ls []) := by
  have hF : CallFix p m c cL_law 12 s #[Value.ref b] lw_all RX0 := ⟨hx, hb, hml, hown, hts⟩
  have hql : s.heap.size ≤ q := hLS.2.2.2.2.2.2.1
  have hqc : s.heap.size ≤ ca := hLS.2.2.2.2.2.2.2.1
  have hX := hLS.2.1
  refine lv_iload_n hx hb dL_law_43 rfl (lv_at hl 0 rfl) ?_
  refine ym_bipush 32 hx hb dL_law_44 (by decide) ?_
  refine ym_icmp_ge (tgt := 451) hx hb ⟨by omega, by omega⟩ ⟨by omega, by omega⟩ dL_law_46 (by decide) (fun c_1 => ?_) (fun c_1 => ?_)
  · exact absurd c_1 (by omega)
  · refine lv_aload_n hx hb dL_law_49 rfl (lv_at hl 3 rfl) ?_
    refine ym_iconst hx hb dL_law_50 ?_
    refine lv_iload_n hx hb dL_law_51 rfl (lv_at hl 0 rfl) ?_
    refine ym_imul hx hb dL_law_52 ?_
    refine ym_callP (ym_rS (As := [.ref b, .int (ym_I (3 * k))]) (rest := []) hF (ym_cell l s.heap.size ad D b Ln xs (3 * k) (by omega) (by omega) (by omega)) (va_cwS 2 hts (lw_S q225 q226 q2 q227) rfl rfl rfl (by decide +kernel) ⟨Nat.le_of_ble_eq_true rfl, Nat.le_of_ble_eq_true rfl⟩) ym_X_mv hX rfl hl.1 rfl (Nat.le_of_ble_eq_true rfl) dL_law_53 ⟨ym_rmc (by omega), ym_rms (by omega)⟩) ?_
    obtain ⟨vw, hvw⟩ : ∃ z : Int, z = ym_ce xs Ln (3 * k) := ⟨_, rfl⟩
    have hvw1 : -2147483648 ≤ vw ∧ vw ≤ 2147483647 := by rw [hvw]; exact ym_ce_ran _ _ _
    refine ym_seti vw hvw.symm ?_
    refine lv_istore (lv' := [(4, .int (ym_I vw)), (3, .int (ym_I k)), (2, .ref ca), (1, .ref o), (0, .ref b)]) hx hb dL_law_56 hl (by decide) rfl (fun ls hl => ?_)
    refine lv_iload hx hb dL_law_58 (lv_at hl 0 rfl) ?_
    refine ym_iconst hx hb dL_law_60 ?_
    refine ym_ishr hx hb dL_law_61 (fun sh_2 hsh_2 => ?_)
    obtain ⟨wh, hwh⟩ : ∃ z : Int, z = sh_2 := ⟨_, rfl⟩
    refine ym_seti wh hwh.symm ?_
    refine lv_istore (lv' := [(5, .int (ym_I wh)), (4, .int (ym_I vw)), (3, .int (ym_I k)), (2, .ref ca), (1, .ref o), (0, .ref b)]) hx hb dL_law_62 hl (by decide) rfl (fun ls hl => ?_)
    refine lv_aload_n hx hb dL_law_64 rfl (lv_at hl 5 rfl) ?_
    refine ym_iconst hx hb dL_law_65 ?_
    refine lv_iload_n hx hb dL_law_66 rfl (lv_at hl 2 rfl) ?_
    refine ym_imul hx hb dL_law_67 ?_
    refine ym_iconst hx hb dL_law_68 ?_
    refine ym_iadd hx hb dL_law_69 ?_
    refine ym_callP (ym_rS (As := [.ref b, .int (ym_I ((3 * k) + 1))]) (rest := []) hF (ym_cell l s.heap.size ad D b Ln xs ((3 * k) + 1) (by omega) (by omega) (by omega)) (va_cwS 2 hts (lw_S q225 q226 q2 q227) rfl rfl rfl (by decide +kernel) ⟨Nat.le_of_ble_eq_true rfl, Nat.le_of_ble_eq_true rfl⟩) ym_X_mv hX rfl hl.1 rfl (Nat.le_of_ble_eq_true rfl) dL_law_70 ⟨ym_rmc (by omega), ym_rms (by omega)⟩) ?_
    obtain ⟨va, hva⟩ : ∃ z : Int, z = ym_ce xs Ln ((3 * k) + 1) := ⟨_, rfl⟩
    have hva1 : -2147483648 ≤ va ∧ va ≤ 2147483647 := by rw [hva]; exact ym_ce_ran _ _ _
    refine ym_seti va hva.symm ?_
    have t1 := ym_trem va
    have t2 := ym_rs_ran va
    have t4 := ym_tmn va
    have t5 := ym_tm12
    refine lv_istore (lv' := [(6, .int (ym_I va)), (5, .int (ym_I wh)), (4, .int (ym_I vw)), (3, .int (ym_I k)), (2, .ref ca), (1, .ref o), (0, .ref b)]) hx hb dL_law_73 hl (by decide) rfl (fun ls hl => ?_)
    refine lv_aload_n hx hb dL_law_75 rfl (lv_at hl 6 rfl) ?_
    refine ym_iconst hx hb dL_law_76 ?_
    refine lv_iload_n hx hb dL_law_77 rfl (lv_at hl 3 rfl) ?_
    refine ym_imul hx hb dL_law_78 ?_
    refine ym_iconst hx hb dL_law_79 ?_
    refine ym_iadd hx hb dL_law_80 ?_
    refine ym_callP (ym_rS (As := [.ref b, .int (ym_I ((3 * k) + 2))]) (rest := []) hF (ym_cell l s.heap.size ad D b Ln xs ((3 * k) + 2) (by omega) (by omega) (by omega)) (va_cwS 2 hts (lw_S q225 q226 q2 q227) rfl rfl rfl (by decide +kernel) ⟨Nat.le_of_ble_eq_true rfl, Nat.le_of_ble_eq_true rfl⟩) ym_X_mv hX rfl hl.1 rfl (Nat.le_of_ble_eq_true rfl) dL_law_81 ⟨ym_rmc (by omega), ym_rms (by omega)⟩) ?_
    obtain ⟨vb, hvb⟩ : ∃ z : Int, z = ym_ce xs Ln ((3 * k) + 2) := ⟨_, rfl⟩
    have hvb1 : -2147483648 ≤ vb ∧ vb ≤ 2147483647 := by rw [hvb]; exact ym_ce_ran _ _ _
    refine ym_seti vb hvb.symm ?_
    have t3 := ym_rs_ran vb
    refine lv_istore (lv' := [(7, .int (ym_I vb)), (6, .int (ym_I va)), (5, .int (ym_I wh)), (4, .int (ym_I vw)), (3, .int (ym_I k)), (2, .ref ca), (1, .ref o), (0, .ref b)]) hx hb dL_law_84 hl (by decide) rfl (fun ls hl => ?_)
    have tail : ∀ (f : Nat → Option Nat) (g : Nat → Int64) (r : Nat → Nat) (cn : Nat → Int) (H : Heap), ym_LS s ad D dY dL b Ln xs o q ca f g r cn cn (B + 1000000) H → ∀ ls, lv_has ls 12 [(7, .int (ym_I vb)), (3, .int (ym_I k)), (2, .ref ca), (1, .ref o), (0, .ref b)] → W p l e room_1 s m #[Value.ref b] below meth c H [] (cells + 3) (slots + 6) Q (F0 m 431 ls []) := fun f g r cn H h ls hl => ym_tail l hx hb hml hown hts hK k vb hk1 hk9 hB1 hB2 hcc hss h cont hl
    refine lv_iload hx hb dL_law_86 (lv_at hl 2 rfl) ?_
    refine ym_iconst hx hb dL_law_88 ?_
    refine ym_iand1 hx hb dL_law_89 ?_
    refine lv_istore (lv' := [(8, .int (ym_I (wh % 2))), (7, .int (ym_I vb)), (6, .int (ym_I va)), (5, .int (ym_I wh)), (4, .int (ym_I vw)), (3, .int (ym_I k)), (2, .ref ca), (1, .ref o), (0, .ref b)]) hx hb dL_law_90 hl (by decide) rfl (fun ls hl => ?_)
    obtain ⟨kk, hkk⟩ : ∃ z : Nat, z = (wh % 2).toNat := ⟨_, rfl⟩
    have hk2 : kk < 2 := (by omega)
    obtain ⟨cc, hcc0⟩ : ∃ z : Int, cn kk = z := ⟨_, rfl⟩
    have hkw := hLS.1
    have hX := hLS.2.1
    have hPo := hLS.2.2.1
    have hPq := hLS.2.2.2.1
    have hPca := hLS.2.2.2.2.1
    obtain ⟨hfk, hPk, hqk, hb1, hb2⟩ := ym_LS_at hLS hk2 (show (cn) kk = cc from hcc0)
    have hgk := ym_LS_g hLS hk2 hcc0
    have t6 := ym_ys_ran (c := cc) (n := Int.tmod va 1000000) hB1 hb1 hb2
    have t7 := ym_kc_ran (c := cc) hB1 hb1 hb2
    refine lv_aload_n hx hb dL_law_92 rfl (lv_at hl 6 rfl) ?_
    refine lv_iload hx hb dL_law_93 (lv_at hl 0 rfl) ?_
    refine ym_lald (v := cc) hx hb hK hPca 1 rfl (ym_ixin wh) (by rw [ym_ixc, ← hkk]; exact hgk) dL_law_95 ?_
    refine ym_ldc2 12 hx hb hown (hts _ q241) (by decide) dL_law_96 ?_
    refine ym_callP (ym_rS (As := [.long (ym_L cc), .long (ym_L 12)]) (rest := []) hF (ym_lfloor l s.heap.size ad D cc 12 (by omega) (by omega) (by omega) (by omega)) (va_cwS 2 hts (lw_S q232 q233 q2 q234) rfl rfl rfl (by decide +kernel) ⟨Nat.le_of_ble_eq_true rfl, Nat.le_of_ble_eq_true rfl⟩) ym_w_mv (ym_w_of hkw (hK.sub (tys' := []) [] rfl) ym_P0) rfl hl.1 rfl (Nat.le_of_ble_eq_true rfl) dL_law_99 ⟨ym_rmc (by omega), ym_rms (by omega)⟩) ?_
    refine lv_lstore (lv' := [(9, .long (ym_L (cc / 12))), (8, .int (ym_I (wh % 2))), (7, .int (ym_I vb)), (6, .int (ym_I va)), (5, .int (ym_I wh)), (4, .int (ym_I vw)), (3, .int (ym_I k)), (2, .ref ca), (1, .ref o), (0, .ref b)]) hx hb dL_law_102 hl (by decide) rfl (fun ls hl => ?_)
    refine lv_iload hx hb dL_law_104 (lv_at hl 5 rfl) ?_
    refine ym_bipush 8 hx hb dL_law_106 (by decide) ?_
    refine ym_callP (ym_rS (As := [.int (ym_I vw), .int (ym_I 8)]) (rest := []) hF (ym_rest l s.heap.size ad D vw 8 (by omega) (by omega)) (va_cwS 2 hts (lw_S q228 q229 q2 q230) rfl rfl rfl (by decide +kernel) ⟨Nat.le_of_ble_eq_true rfl, Nat.le_of_ble_eq_true rfl⟩) ym_w_mv (ym_w_of hkw (hK.sub (tys' := []) [] rfl) ym_P0) rfl hl.1 rfl (Nat.le_of_ble_eq_true rfl) dL_law_108 ⟨ym_rmc (by omega), ym_rms (by omega)⟩) ?_
    obtain ⟨sw, hsw⟩ : ∃ z : Int, z = vw % 2147483648 % 8 := ⟨_, rfl⟩
    refine ym_seti sw hsw.symm ?_
    have hsw1 : 0 ≤ sw ∧ sw ≤ 7 := (by omega)
    have h8 : sw = 0 ∨ sw = 1 ∨ sw = 2 ∨ sw = 3 ∨ sw = 4 ∨ sw = 5 ∨ sw = 6 ∨ sw = 7 := (by omega)
    clear hsw hsw1
    rcases h8 with rfl | rfl | rfl | rfl | rfl | rfl | rfl | rfl
    · refine lv_tableIn (off := 41) (tgt := 152) hx hb dL_law_111 (by decide) (by decide) (by decide) (by decide) ?_
      refine lv_aload_n hx hb dL_law_152 rfl (lv_at hl 8 rfl) ?_
      refine lv_iload hx hb dL_law_153 (lv_at hl 4 rfl) ?_
      refine lv_iload hx hb dL_law_155 (lv_at hl 3 rfl) ?_
      refine lv_iload hx hb dL_law_157 (lv_at hl 2 rfl) ?_
      refine ym_callZ (ym_rV (C := RX1) (As := [.int (ym_I wh), .int (ym_I va), .int (ym_I vb)]) (rest := []) hF (ym_dSet l s.heap.size ad D dY o q (r kk) f cc wh va vb (by rw [← hkk]; exact hfk) hqk (by omega) (by omega) (by omega) (by omega) (by omega) (by omega)) (cwV 3 hts (lw_V q146 q147 q148 q3 q149) rfl rfl rfl (by decide +kernel) ⟨Nat.le_of_ble_eq_true rfl, Nat.le_of_ble_eq_true rfl⟩) ym_w_mv (ym_w_of hkw (hK.sub (tys' := [(dY, .object "YearMonth")]) [0] rfl) ((hPo.app hPq).app hPk)) (va_recv hK hPo (ci := 0) (q0 := 0) rfl rfl) rfl hl.1 rfl (Nat.le_of_ble_eq_true rfl) dL_law_159 ⟨ym_rmc (by omega), ym_rms (by omega)⟩) (fun x h => Nat.le_trans hql (Nat.le_of_eq (Eq.symm h))) (fun v H_3 hz => ?_)
      rw [← hkk] at hz
      have hv9 : v = none := hz.1
      subst hv9
      obtain ⟨f_4, r_5, hLS⟩ := ym_LS_M hLS hk2 hz (B2 := B + 1000000) (by omega) (by omega) (by omega)
      have hkw := hLS.1
      have hX := hLS.2.1
      have hPo := hLS.2.2.1
      have hPq := hLS.2.2.2.1
      have hPca := hLS.2.2.2.2.1
      obtain ⟨hfk, hPk, hqk, hb1, hb2⟩ := ym_LS_at hLS hk2 (show (va_up cn kk (12 * Int.tmod va 1000000 + ym_rs vb)) kk = 12 * Int.tmod va 1000000 + ym_rs vb from ym_up_at)
      have hgk := ym_LS_g hLS hk2 hcc0
      refine W.eq (g2 := F0 m 162 ls []) rfl ?_
      refine lv_aload_n hx hb dL_law_162 rfl (lv_at hl 7 rfl) ?_
      refine lv_iload hx hb dL_law_163 (lv_at hl 1 rfl) ?_
      refine ym_ldc2 12 hx hb hown (hts _ q241) (by decide) dL_law_165 ?_
      refine lv_iload hx hb dL_law_168 (lv_at hl 3 rfl) ?_
      refine ym_ldc 1000000 hx hb hown (hts _ q417) (by decide) dL_law_170 ?_
      refine ym_irem hx hb ⟨by omega, by omega⟩ ⟨by omega, by omega⟩ (by omega) dL_law_172 ?_
      refine ym_Wi2l hx hb ⟨by omega, by omega⟩ dL_law_173 ?_
      refine ym_lmul hx hb dL_law_174 ?_
      refine lv_iload hx hb dL_law_175 (lv_at hl 2 rfl) ?_
      refine ym_bipush 12 hx hb dL_law_177 (by decide) ?_
      refine ym_callP (ym_rS (As := [.int (ym_I vb), .int (ym_I 12)]) (rest := [.long (ym_L (12 * (Int.tmod va 1000000))), .int (ym_I (wh % 2)), .ref ca]) hF (ym_rest l s.heap.size ad D vb 12 (by omega) (by omega)) (va_cwS 2 hts (lw_S q228 q229 q2 q230) rfl rfl rfl (by decide +kernel) ⟨Nat.le_of_ble_eq_true rfl, Nat.le_of_ble_eq_true rfl⟩) ym_w_mv (ym_w_of hkw (hK.sub (tys' := []) [] rfl) ym_P0) rfl hl.1 rfl (Nat.le_of_ble_eq_true rfl) dL_law_179 ⟨ym_rmc (by omega), ym_rms (by omega)⟩) ?_
      refine ym_seti (ym_rs vb) rfl ?_
      refine ym_Wi2l hx hb ⟨by omega, by omega⟩ dL_law_182 ?_
      refine ym_ladd hx hb dL_law_183 ?_
      refine ym_setl (12 * Int.tmod va 1000000 + ym_rs vb) (by omega) ?_
      refine ym_last (k := kk) hx hb hK hPca 1 rfl (ym_ixin wh) (by rw [ym_ixc]; exact hkk.symm) dL_law_184 (fun H_6 hPc_7 hz_8 hk_9 => ?_)
      refine W.forget (L := [⟨ca, kk⟩]) (fun x h => by simp at h; rw [h]; exact hqc) ?_
      have hLS := ym_LS_W hLS hPc_7 hz_8 hk_9
      refine lv_goto (tgt := 431) hx hb dL_law_185 (by decide) ?_
      refine W.widen (k := cells + 3) (n := slots + 6) (by omega) (by omega) ?_
      exact tail _ _ _ _ _ (ym_LS_c hLS (fun j => rfl)) ls (lv_sub hl [2, 6, 7, 8, 9] rfl)
    · refine lv_tableIn (off := 77) (tgt := 188) hx hb dL_law_111 (by decide) (by decide) (by decide) (by decide) ?_
      refine lv_aload_n hx hb dL_law_188 rfl (lv_at hl 8 rfl) ?_
      refine lv_iload hx hb dL_law_189 (lv_at hl 4 rfl) ?_
      refine lv_iload hx hb dL_law_191 (lv_at hl 3 rfl) ?_
      refine ym_callZ (ym_rV (C := RX1) (As := [.int (ym_I wh), .int (ym_I va)]) (rest := []) hF (ym_dMonths l s.heap.size ad D dY o q (r kk) f cc wh va (by rw [← hkk]; exact hfk) hqk (by omega) (by omega) (by omega) (by omega)) (cwV 2 hts (lw_V q152 q153 q154 q3 q155) rfl rfl rfl (by decide +kernel) ⟨Nat.le_of_ble_eq_true rfl, Nat.le_of_ble_eq_true rfl⟩) ym_w_mv (ym_w_of hkw (hK.sub (tys' := [(dY, .object "YearMonth")]) [0] rfl) ((hPo.app hPq).app hPk)) (va_recv hK hPo (ci := 0) (q0 := 0) rfl rfl) rfl hl.1 rfl (Nat.le_of_ble_eq_true rfl) dL_law_193 ⟨ym_rmc (by omega), ym_rms (by omega)⟩) (fun x h => Nat.le_trans hql (Nat.le_of_eq (Eq.symm h))) (fun v H_10 hz => ?_)
      rw [← hkk] at hz
      have hv9 : v = none := hz.1
      subst hv9
      obtain ⟨f_11, r_12, hLS⟩ := ym_LS_M hLS hk2 hz (B2 := B + 1000000) (by omega) (by omega) (by omega)
      have hkw := hLS.1
      have hX := hLS.2.1
      have hPo := hLS.2.2.1
      have hPq := hLS.2.2.2.1
      have hPca := hLS.2.2.2.2.1
      obtain ⟨hfk, hPk, hqk, hb1, hb2⟩ := ym_LS_at hLS hk2 (show (va_up cn kk (cc + Int.tmod va 1000000)) kk = cc + Int.tmod va 1000000 from ym_up_at)
      have hgk := ym_LS_g hLS hk2 hcc0
      refine W.eq (g2 := F0 m 196 ls []) rfl ?_
      refine lv_aload_n hx hb dL_law_196 rfl (lv_at hl 7 rfl) ?_
      refine lv_iload hx hb dL_law_197 (lv_at hl 1 rfl) ?_
      refine lv_dup2_11 hx hb dL_law_199 rfl rfl ?_
      refine ym_lald (v := cc) hx hb hK hPca 1 rfl (ym_ixin wh) (by rw [ym_ixc, ← hkk]; exact hgk) dL_law_200 ?_
      refine lv_iload hx hb dL_law_201 (lv_at hl 3 rfl) ?_
      refine ym_ldc 1000000 hx hb hown (hts _ q417) (by decide) dL_law_203 ?_
      refine ym_irem hx hb ⟨by omega, by omega⟩ ⟨by omega, by omega⟩ (by omega) dL_law_205 ?_
      refine ym_Wi2l hx hb ⟨by omega, by omega⟩ dL_law_206 ?_
      refine ym_ladd hx hb dL_law_207 ?_
      refine ym_setl (cc + Int.tmod va 1000000) (by omega) ?_
      refine ym_last (k := kk) hx hb hK hPca 1 rfl (ym_ixin wh) (by rw [ym_ixc]; exact hkk.symm) dL_law_208 (fun H_13 hPc_14 hz_15 hk_16 => ?_)
      refine W.forget (L := [⟨ca, kk⟩]) (fun x h => by simp at h; rw [h]; exact hqc) ?_
      have hLS := ym_LS_W hLS hPc_14 hz_15 hk_16
      refine lv_goto (tgt := 431) hx hb dL_law_209 (by decide) ?_
      refine W.widen (k := cells + 3) (n := slots + 6) (by omega) (by omega) ?_
      exact tail _ _ _ _ _ (ym_LS_c hLS (fun j => rfl)) ls (lv_sub hl [2, 6, 7, 8, 9] rfl)
    · refine lv_tableIn (off := 77) (tgt := 188) hx hb dL_law_111 (by decide) (by decide) (by decide) (by decide) ?_
      refine lv_aload_n hx hb dL_law_188 rfl (lv_at hl 8 rfl) ?_
      refine lv_iload hx hb dL_law_189 (lv_at hl 4 rfl) ?_
      refine lv_iload hx hb dL_law_191 (lv_at hl 3 rfl) ?_
      refine ym_callZ (ym_rV (C := RX1) (As := [.int (ym_I wh), .int (ym_I va)]) (rest := []) hF (ym_dMonths l s.heap.size ad D dY o q (r kk) f cc wh va (by rw [← hkk]; exact hfk) hqk (by omega) (by omega) (by omega) (by omega)) (cwV 2 hts (lw_V q152 q153 q154 q3 q155) rfl rfl rfl (by decide +kernel) ⟨Nat.le_of_ble_eq_true rfl, Nat.le_of_ble_eq_true rfl⟩) ym_w_mv (ym_w_of hkw (hK.sub (tys' := [(dY, .object "YearMonth")]) [0] rfl) ((hPo.app hPq).app hPk)) (va_recv hK hPo (ci := 0) (q0 := 0) rfl rfl) rfl hl.1 rfl (Nat.le_of_ble_eq_true rfl) dL_law_193 ⟨ym_rmc (by omega), ym_rms (by omega)⟩) (fun x h => Nat.le_trans hql (Nat.le_of_eq (Eq.symm h))) (fun v H_17 hz => ?_)
      rw [← hkk] at hz
      have hv9 : v = none := hz.1
      subst hv9
      obtain ⟨f_18, r_19, hLS⟩ := ym_LS_M hLS hk2 hz (B2 := B + 1000000) (by omega) (by omega) (by omega)
      have hkw := hLS.1
      have hX := hLS.2.1
      have hPo := hLS.2.2.1
      have hPq := hLS.2.2.2.1
      have hPca := hLS.2.2.2.2.1
      obtain ⟨hfk, hPk, hqk, hb1, hb2⟩ := ym_LS_at hLS hk2 (show (va_up cn kk (cc + Int.tmod va 1000000)) kk = cc + Int.tmod va 1000000 from ym_up_at)
      have hgk := ym_LS_g hLS hk2 hcc0
      refine W.eq (g2 := F0 m 196 ls []) rfl ?_
      refine lv_aload_n hx hb dL_law_196 rfl (lv_at hl 7 rfl) ?_
      refine lv_iload hx hb dL_law_197 (lv_at hl 1 rfl) ?_
      refine lv_dup2_11 hx hb dL_law_199 rfl rfl ?_
      refine ym_lald (v := cc) hx hb hK hPca 1 rfl (ym_ixin wh) (by rw [ym_ixc, ← hkk]; exact hgk) dL_law_200 ?_
      refine lv_iload hx hb dL_law_201 (lv_at hl 3 rfl) ?_
      refine ym_ldc 1000000 hx hb hown (hts _ q417) (by decide) dL_law_203 ?_
      refine ym_irem hx hb ⟨by omega, by omega⟩ ⟨by omega, by omega⟩ (by omega) dL_law_205 ?_
      refine ym_Wi2l hx hb ⟨by omega, by omega⟩ dL_law_206 ?_
      refine ym_ladd hx hb dL_law_207 ?_
      refine ym_setl (cc + Int.tmod va 1000000) (by omega) ?_
      refine ym_last (k := kk) hx hb hK hPca 1 rfl (ym_ixin wh) (by rw [ym_ixc]; exact hkk.symm) dL_law_208 (fun H_20 hPc_21 hz_22 hk_23 => ?_)
      refine W.forget (L := [⟨ca, kk⟩]) (fun x h => by simp at h; rw [h]; exact hqc) ?_
      have hLS := ym_LS_W hLS hPc_21 hz_22 hk_23
      refine lv_goto (tgt := 431) hx hb dL_law_209 (by decide) ?_
      refine W.widen (k := cells + 3) (n := slots + 6) (by omega) (by omega) ?_
      exact tail _ _ _ _ _ (ym_LS_c hLS (fun j => rfl)) ls (lv_sub hl [2, 6, 7, 8, 9] rfl)
    · refine lv_tableIn (off := 101) (tgt := 212) hx hb dL_law_111 (by decide) (by decide) (by decide) (by decide) ?_
      refine lv_aload_n hx hb dL_law_212 rfl (lv_at hl 8 rfl) ?_
      refine lv_iload hx hb dL_law_213 (lv_at hl 4 rfl) ?_
      refine lv_iload hx hb dL_law_215 (lv_at hl 3 rfl) ?_
      refine ym_callZ (ym_rV (C := RX1) (As := [.int (ym_I wh), .int (ym_I va)]) (rest := []) hF (ym_dYears l s.heap.size ad D dY o q (r kk) f cc wh va (by rw [← hkk]; exact hfk) hqk (by omega) (by omega) (by omega) (by omega)) (cwV 2 hts (lw_V q189 q190 q191 q3 q192) rfl rfl rfl (by decide +kernel) ⟨Nat.le_of_ble_eq_true rfl, Nat.le_of_ble_eq_true rfl⟩) ym_w_mv (ym_w_of hkw (hK.sub (tys' := [(dY, .object "YearMonth")]) [0] rfl) ((hPo.app hPq).app hPk)) (va_recv hK hPo (ci := 0) (q0 := 0) rfl rfl) rfl hl.1 rfl (Nat.le_of_ble_eq_true rfl) dL_law_217 ⟨ym_rmc (by omega), ym_rms (by omega)⟩) (fun x h => Nat.le_trans hql (Nat.le_of_eq (Eq.symm h))) (fun v H_24 hz => ?_)
      rw [← hkk] at hz
      have hv9 : v = none := hz.1
      subst hv9
      obtain ⟨f_25, r_26, hLS⟩ := ym_LS_M hLS hk2 hz (B2 := B + 1000000) (by omega) (by omega) (by omega)
      have hkw := hLS.1
      have hX := hLS.2.1
      have hPo := hLS.2.2.1
      have hPq := hLS.2.2.2.1
      have hPca := hLS.2.2.2.2.1
      obtain ⟨hfk, hPk, hqk, hb1, hb2⟩ := ym_LS_at hLS hk2 (show (va_up cn kk (ym_ys cc (Int.tmod va 1000000))) kk = ym_ys cc (Int.tmod va 1000000) from ym_up_at)
      have hgk := ym_LS_g hLS hk2 hcc0
      refine W.eq (g2 := F0 m 220 ls []) rfl ?_
      refine lv_lload hx hb dL_law_220 (lv_at hl 0 rfl) ?_
      refine lv_iload hx hb dL_law_222 (lv_at hl 3 rfl) ?_
      refine ym_ldc 1000000 hx hb hown (hts _ q417) (by decide) dL_law_224 ?_
      refine ym_irem hx hb ⟨by omega, by omega⟩ ⟨by omega, by omega⟩ (by omega) dL_law_226 ?_
      refine ym_Wi2l hx hb ⟨by omega, by omega⟩ dL_law_227 ?_
      refine ym_ladd hx hb dL_law_228 ?_
      refine ym_ldc2 (-999999) hx hb hown (hts _ q418) (by decide) dL_law_229 ?_
      refine ym_lcmp_le (tgt := 431) hx hb ⟨by omega, by omega⟩ ⟨by omega, by omega⟩ dL_law_232 dL_law_233 (by decide) (fun c_27 => ?_) (fun c_27 => ?_)
      · refine W.widen (k := cells + 3) (n := slots + 6) (by omega) (by omega) ?_
        exact tail _ _ _ _ _ (ym_LS_c hLS (ym_up_same hcc0 (ym_ys_f (by omega)))) ls (lv_sub hl [2, 6, 7, 8, 9] rfl)
      · refine lv_lload hx hb dL_law_236 (lv_at hl 0 rfl) ?_
        refine lv_iload hx hb dL_law_238 (lv_at hl 3 rfl) ?_
        refine ym_ldc 1000000 hx hb hown (hts _ q417) (by decide) dL_law_240 ?_
        refine ym_irem hx hb ⟨by omega, by omega⟩ ⟨by omega, by omega⟩ (by omega) dL_law_242 ?_
        refine ym_Wi2l hx hb ⟨by omega, by omega⟩ dL_law_243 ?_
        refine ym_ladd hx hb dL_law_244 ?_
        refine ym_ldc2 999999 hx hb hown (hts _ q419) (by decide) dL_law_245 ?_
        refine ym_lcmp_ge (tgt := 431) hx hb ⟨by omega, by omega⟩ ⟨by omega, by omega⟩ dL_law_248 dL_law_249 (by decide) (fun c_28 => ?_) (fun c_28 => ?_)
        · refine W.widen (k := cells + 3) (n := slots + 6) (by omega) (by omega) ?_
          exact tail _ _ _ _ _ (ym_LS_c hLS (ym_up_same hcc0 (ym_ys_f (by omega)))) ls (lv_sub hl [2, 6, 7, 8, 9] rfl)
        · refine lv_aload_n hx hb dL_law_252 rfl (lv_at hl 7 rfl) ?_
          refine lv_iload hx hb dL_law_253 (lv_at hl 1 rfl) ?_
          refine lv_dup2_11 hx hb dL_law_255 rfl rfl ?_
          refine ym_lald (v := cc) hx hb hK hPca 1 rfl (ym_ixin wh) (by rw [ym_ixc, ← hkk]; exact hgk) dL_law_256 ?_
          refine ym_ldc2 12 hx hb hown (hts _ q241) (by decide) dL_law_257 ?_
          refine lv_iload hx hb dL_law_260 (lv_at hl 3 rfl) ?_
          refine ym_ldc 1000000 hx hb hown (hts _ q417) (by decide) dL_law_262 ?_
          refine ym_irem hx hb ⟨by omega, by omega⟩ ⟨by omega, by omega⟩ (by omega) dL_law_264 ?_
          refine ym_Wi2l hx hb ⟨by omega, by omega⟩ dL_law_265 ?_
          refine ym_lmul hx hb dL_law_266 ?_
          refine ym_ladd hx hb dL_law_267 ?_
          refine ym_setl (ym_ys cc (Int.tmod va 1000000)) (by rw [ym_ys_t (by omega) (by omega)]) ?_
          refine ym_last (k := kk) hx hb hK hPca 1 rfl (ym_ixin wh) (by rw [ym_ixc]; exact hkk.symm) dL_law_268 (fun H_29 hPc_30 hz_31 hk_32 => ?_)
          refine W.forget (L := [⟨ca, kk⟩]) (fun x h => by simp at h; rw [h]; exact hqc) ?_
          have hLS := ym_LS_W hLS hPc_30 hz_31 hk_32
          refine lv_goto (tgt := 431) hx hb dL_law_269 (by decide) ?_
          refine W.widen (k := cells + 3) (n := slots + 6) (by omega) (by omega) ?_
          exact tail _ _ _ _ _ (ym_LS_c hLS (fun j => rfl)) ls (lv_sub hl [2, 6, 7, 8, 9] rfl)
    · refine lv_tableIn (off := 161) (tgt := 272) hx hb dL_law_111 (by decide) (by decide) (by decide) (by decide) ?_
      refine lv_aload_n hx hb dL_law_272 rfl (lv_at hl 8 rfl) ?_
      refine lv_iload hx hb dL_law_273 (lv_at hl 4 rfl) ?_
      refine lv_iload hx hb dL_law_275 (lv_at hl 3 rfl) ?_
      refine ym_callZ (ym_rV (C := RX1) (As := [.int (ym_I wh), .int (ym_I va)]) (rest := []) hF (ym_dWithMonth l s.heap.size ad D dY o q (r kk) f cc wh va (by rw [← hkk]; exact hfk) hqk (by omega) (by omega) (by omega) (by omega)) (cwV 2 hts (lw_V q203 q204 q205 q3 q206) rfl rfl rfl (by decide +kernel) ⟨Nat.le_of_ble_eq_true rfl, Nat.le_of_ble_eq_true rfl⟩) ym_w_mv (ym_w_of hkw (hK.sub (tys' := [(dY, .object "YearMonth")]) [0] rfl) ((hPo.app hPq).app hPk)) (va_recv hK hPo (ci := 0) (q0 := 0) rfl rfl) rfl hl.1 rfl (Nat.le_of_ble_eq_true rfl) dL_law_277 ⟨ym_rmc (by omega), ym_rms (by omega)⟩) (fun x h => Nat.le_trans hql (Nat.le_of_eq (Eq.symm h))) (fun v H_33 hz => ?_)
      rw [← hkk] at hz
      have hv9 : v = none := hz.1
      subst hv9
      obtain ⟨f_34, r_35, hLS⟩ := ym_LS_M hLS hk2 hz (B2 := B + 1000000) (by omega) (by omega) (by omega)
      have hkw := hLS.1
      have hX := hLS.2.1
      have hPo := hLS.2.2.1
      have hPq := hLS.2.2.2.1
      have hPca := hLS.2.2.2.2.1
      obtain ⟨hfk, hPk, hqk, hb1, hb2⟩ := ym_LS_at hLS hk2 (show (va_up cn kk (12 * (cc / 12) + ym_rs va)) kk = 12 * (cc / 12) + ym_rs va from ym_up_at)
      have hgk := ym_LS_g hLS hk2 hcc0
      refine W.eq (g2 := F0 m 280 ls []) rfl ?_
      refine lv_aload_n hx hb dL_law_280 rfl (lv_at hl 7 rfl) ?_
      refine lv_iload hx hb dL_law_281 (lv_at hl 1 rfl) ?_
      refine ym_ldc2 12 hx hb hown (hts _ q241) (by decide) dL_law_283 ?_
      refine lv_lload hx hb dL_law_286 (lv_at hl 0 rfl) ?_
      refine ym_lmul hx hb dL_law_288 ?_
      refine lv_iload hx hb dL_law_289 (lv_at hl 3 rfl) ?_
      refine ym_bipush 12 hx hb dL_law_291 (by decide) ?_
      refine ym_callP (ym_rS (As := [.int (ym_I va), .int (ym_I 12)]) (rest := [.long (ym_L (12 * (cc / 12))), .int (ym_I (wh % 2)), .ref ca]) hF (ym_rest l s.heap.size ad D va 12 (by omega) (by omega)) (va_cwS 2 hts (lw_S q228 q229 q2 q230) rfl rfl rfl (by decide +kernel) ⟨Nat.le_of_ble_eq_true rfl, Nat.le_of_ble_eq_true rfl⟩) ym_w_mv (ym_w_of hkw (hK.sub (tys' := []) [] rfl) ym_P0) rfl hl.1 rfl (Nat.le_of_ble_eq_true rfl) dL_law_293 ⟨ym_rmc (by omega), ym_rms (by omega)⟩) ?_
      refine ym_seti (ym_rs va) rfl ?_
      refine ym_Wi2l hx hb ⟨by omega, by omega⟩ dL_law_296 ?_
      refine ym_ladd hx hb dL_law_297 ?_
      refine ym_setl (12 * (cc / 12) + ym_rs va) (by omega) ?_
      refine ym_last (k := kk) hx hb hK hPca 1 rfl (ym_ixin wh) (by rw [ym_ixc]; exact hkk.symm) dL_law_298 (fun H_36 hPc_37 hz_38 hk_39 => ?_)
      refine W.forget (L := [⟨ca, kk⟩]) (fun x h => by simp at h; rw [h]; exact hqc) ?_
      have hLS := ym_LS_W hLS hPc_37 hz_38 hk_39
      refine lv_goto (tgt := 431) hx hb dL_law_299 (by decide) ?_
      refine W.widen (k := cells + 3) (n := slots + 6) (by omega) (by omega) ?_
      exact tail _ _ _ _ _ (ym_LS_c hLS (fun j => rfl)) ls (lv_sub hl [2, 6, 7, 8, 9] rfl)
    · refine lv_tableIn (off := 191) (tgt := 302) hx hb dL_law_111 (by decide) (by decide) (by decide) (by decide) ?_
      refine lv_aload_n hx hb dL_law_302 rfl (lv_at hl 8 rfl) ?_
      refine lv_iload hx hb dL_law_303 (lv_at hl 4 rfl) ?_
      refine lv_iload hx hb dL_law_305 (lv_at hl 3 rfl) ?_
      refine ym_callZ (ym_rV (C := RX1) (As := [.int (ym_I wh), .int (ym_I va)]) (rest := []) hF (ym_dWithYear l s.heap.size ad D dY o q (r kk) f cc wh va (by rw [← hkk]; exact hfk) hqk (by omega) (by omega) (by omega) (by omega)) (cwV 2 hts (lw_V q211 q212 q213 q3 q214) rfl rfl rfl (by decide +kernel) ⟨Nat.le_of_ble_eq_true rfl, Nat.le_of_ble_eq_true rfl⟩) ym_w_mv (ym_w_of hkw (hK.sub (tys' := [(dY, .object "YearMonth")]) [0] rfl) ((hPo.app hPq).app hPk)) (va_recv hK hPo (ci := 0) (q0 := 0) rfl rfl) rfl hl.1 rfl (Nat.le_of_ble_eq_true rfl) dL_law_307 ⟨ym_rmc (by omega), ym_rms (by omega)⟩) (fun x h => Nat.le_trans hql (Nat.le_of_eq (Eq.symm h))) (fun v H_40 hz => ?_)
      rw [← hkk] at hz
      have hv9 : v = none := hz.1
      subst hv9
      obtain ⟨f_41, r_42, hLS⟩ := ym_LS_M hLS hk2 hz (B2 := B + 1000000) (by omega) (by omega) (by omega)
      have hkw := hLS.1
      have hX := hLS.2.1
      have hPo := hLS.2.2.1
      have hPq := hLS.2.2.2.1
      have hPca := hLS.2.2.2.2.1
      obtain ⟨hfk, hPk, hqk, hb1, hb2⟩ := ym_LS_at hLS hk2 (show (va_up cn kk (cc + 12 * (Int.tmod va 1000000 - cc / 12))) kk = cc + 12 * (Int.tmod va 1000000 - cc / 12) from ym_up_at)
      have hgk := ym_LS_g hLS hk2 hcc0
      refine W.eq (g2 := F0 m 310 ls []) rfl ?_
      refine lv_aload_n hx hb dL_law_310 rfl (lv_at hl 7 rfl) ?_
      refine lv_iload hx hb dL_law_311 (lv_at hl 1 rfl) ?_
      refine lv_dup2_11 hx hb dL_law_313 rfl rfl ?_
      refine ym_lald (v := cc) hx hb hK hPca 1 rfl (ym_ixin wh) (by rw [ym_ixc, ← hkk]; exact hgk) dL_law_314 ?_
      refine ym_ldc2 12 hx hb hown (hts _ q241) (by decide) dL_law_315 ?_
      refine lv_iload hx hb dL_law_318 (lv_at hl 3 rfl) ?_
      refine ym_ldc 1000000 hx hb hown (hts _ q417) (by decide) dL_law_320 ?_
      refine ym_irem hx hb ⟨by omega, by omega⟩ ⟨by omega, by omega⟩ (by omega) dL_law_322 ?_
      refine ym_Wi2l hx hb ⟨by omega, by omega⟩ dL_law_323 ?_
      refine lv_lload hx hb dL_law_324 (lv_at hl 0 rfl) ?_
      refine ym_lsub hx hb dL_law_326 ?_
      refine ym_lmul hx hb dL_law_327 ?_
      refine ym_ladd hx hb dL_law_328 ?_
      refine ym_setl (cc + 12 * (Int.tmod va 1000000 - cc / 12)) (by omega) ?_
      refine ym_last (k := kk) hx hb hK hPca 1 rfl (ym_ixin wh) (by rw [ym_ixc]; exact hkk.symm) dL_law_329 (fun H_43 hPc_44 hz_45 hk_46 => ?_)
      refine W.forget (L := [⟨ca, kk⟩]) (fun x h => by simp at h; rw [h]; exact hqc) ?_
      have hLS := ym_LS_W hLS hPc_44 hz_45 hk_46
      refine lv_goto (tgt := 431) hx hb dL_law_330 (by decide) ?_
      refine W.widen (k := cells + 3) (n := slots + 6) (by omega) (by omega) ?_
      exact tail _ _ _ _ _ (ym_LS_c hLS (fun j => rfl)) ls (lv_sub hl [2, 6, 7, 8, 9] rfl)
    · refine lv_tableIn (off := 222) (tgt := 333) hx hb dL_law_111 (by decide) (by decide) (by decide) (by decide) ?_
      refine lv_aload_n hx hb dL_law_333 rfl (lv_at hl 8 rfl) ?_
      refine lv_iload hx hb dL_law_334 (lv_at hl 4 rfl) ?_
      refine lv_iload hx hb dL_law_336 (lv_at hl 3 rfl) ?_
      refine ym_callZ (ym_rV (C := RX1) (As := [.int (ym_I wh), .int (ym_I va)]) (rest := []) hF (ym_dMonths l s.heap.size ad D dY o q (r kk) f cc wh va (by rw [← hkk]; exact hfk) hqk (by omega) (by omega) (by omega) (by omega)) (cwV 2 hts (lw_V q152 q153 q154 q3 q155) rfl rfl rfl (by decide +kernel) ⟨Nat.le_of_ble_eq_true rfl, Nat.le_of_ble_eq_true rfl⟩) ym_w_mv (ym_w_of hkw (hK.sub (tys' := [(dY, .object "YearMonth")]) [0] rfl) ((hPo.app hPq).app hPk)) (va_recv hK hPo (ci := 0) (q0 := 0) rfl rfl) rfl hl.1 rfl (Nat.le_of_ble_eq_true rfl) dL_law_338 ⟨ym_rmc (by omega), ym_rms (by omega)⟩) (fun x h => Nat.le_trans hql (Nat.le_of_eq (Eq.symm h))) (fun v H_47 hz => ?_)
      rw [← hkk] at hz
      have hv9 : v = none := hz.1
      subst hv9
      obtain ⟨f_48, r_49, hLS⟩ := ym_LS_M hLS hk2 hz (B2 := B + 1000000) (by omega) (by omega) (by omega)
      have hkw := hLS.1
      have hX := hLS.2.1
      have hPo := hLS.2.2.1
      have hPq := hLS.2.2.2.1
      have hPca := hLS.2.2.2.2.1
      obtain ⟨hfk, hPk, hqk, hb1, hb2⟩ := ym_LS_at hLS hk2 (show (va_up cn kk (cc + Int.tmod va 1000000)) kk = cc + Int.tmod va 1000000 from ym_up_at)
      have hgk := ym_LS_g hLS hk2 hcc0
      refine W.eq (g2 := F0 m 341 ls []) rfl ?_
      refine lv_aload_n hx hb dL_law_341 rfl (lv_at hl 8 rfl) ?_
      refine lv_iload hx hb dL_law_342 (lv_at hl 4 rfl) ?_
      refine lv_iload hx hb dL_law_344 (lv_at hl 3 rfl) ?_
      refine ym_ldc 1000000 hx hb hown (hts _ q417) (by decide) dL_law_346 ?_
      refine ym_irem hx hb ⟨by omega, by omega⟩ ⟨by omega, by omega⟩ (by omega) dL_law_348 ?_
      refine ym_ineg hx hb dL_law_349 ?_
      refine ym_callZ (ym_rV (C := RX1) (As := [.int (ym_I wh), .int (ym_I (-(Int.tmod va 1000000)))]) (rest := []) hF (ym_dMonths l s.heap.size ad D dY o q (r_49 kk) f_48 (cc + Int.tmod va 1000000) wh (-(Int.tmod va 1000000)) (by rw [← hkk]; exact hfk) hqk (by omega) (by omega) (by omega) (by omega)) (cwV 2 hts (lw_V q152 q153 q154 q3 q155) rfl rfl rfl (by decide +kernel) ⟨Nat.le_of_ble_eq_true rfl, Nat.le_of_ble_eq_true rfl⟩) ym_w_mv (ym_w_of hkw (hK.sub (tys' := [(dY, .object "YearMonth")]) [0] rfl) ((hPo.app hPq).app hPk)) (va_recv hK hPo (ci := 0) (q0 := 0) rfl rfl) rfl hl.1 rfl (Nat.le_of_ble_eq_true rfl) dL_law_350 ⟨ym_rmc (by omega), ym_rms (by omega)⟩) (fun x h => Nat.le_trans hql (Nat.le_of_eq (Eq.symm h))) (fun v H_50 hz => ?_)
      rw [← hkk] at hz
      have hv9 : v = none := hz.1
      subst hv9
      obtain ⟨f_51, r_52, hLS⟩ := ym_LS_M hLS hk2 hz (B2 := B + 1000000) (by omega) (by omega) (by omega)
      rw [ym_up_2] at hLS
      have hkw := hLS.1
      have hX := hLS.2.1
      have hPo := hLS.2.2.1
      have hPq := hLS.2.2.2.1
      have hPca := hLS.2.2.2.2.1
      obtain ⟨hfk, hPk, hqk, hb1, hb2⟩ := ym_LS_at hLS hk2 (show (va_up cn kk ((cc + Int.tmod va 1000000) + Int.tmod (-(Int.tmod va 1000000)) 1000000)) kk = (cc + Int.tmod va 1000000) + Int.tmod (-(Int.tmod va 1000000)) 1000000 from ym_up_at)
      have hgk := ym_LS_g hLS hk2 hcc0
      refine W.eq (g2 := F0 m 353 ls []) rfl ?_
      refine lv_aload_n hx hb dL_law_353 rfl (lv_at hl 8 rfl) ?_
      refine lv_iload hx hb dL_law_354 (lv_at hl 4 rfl) ?_
      refine ym_bipush 12 hx hb dL_law_356 (by decide) ?_
      refine ym_callZ (ym_rV (C := RX1) (As := [.int (ym_I wh), .int (ym_I 12)]) (rest := []) hF (ym_dMonths l s.heap.size ad D dY o q (r_52 kk) f_51 ((cc + Int.tmod va 1000000) + Int.tmod (-(Int.tmod va 1000000)) 1000000) wh 12 (by rw [← hkk]; exact hfk) hqk (by omega) (by omega) (by omega) (by omega)) (cwV 2 hts (lw_V q152 q153 q154 q3 q155) rfl rfl rfl (by decide +kernel) ⟨Nat.le_of_ble_eq_true rfl, Nat.le_of_ble_eq_true rfl⟩) ym_w_mv (ym_w_of hkw (hK.sub (tys' := [(dY, .object "YearMonth")]) [0] rfl) ((hPo.app hPq).app hPk)) (va_recv hK hPo (ci := 0) (q0 := 0) rfl rfl) rfl hl.1 rfl (Nat.le_of_ble_eq_true rfl) dL_law_358 ⟨ym_rmc (by omega), ym_rms (by omega)⟩) (fun x h => Nat.le_trans hql (Nat.le_of_eq (Eq.symm h))) (fun v H_53 hz => ?_)
      rw [← hkk] at hz
      have hv9 : v = none := hz.1
      subst hv9
      obtain ⟨f_54, r_55, hLS⟩ := ym_LS_M hLS hk2 hz (B2 := B + 1000000) (by omega) (by omega) (by omega)
      rw [ym_up_2] at hLS
      have hkw := hLS.1
      have hX := hLS.2.1
      have hPo := hLS.2.2.1
      have hPq := hLS.2.2.2.1
      have hPca := hLS.2.2.2.2.1
      obtain ⟨hfk, hPk, hqk, hb1, hb2⟩ := ym_LS_at hLS hk2 (show (va_up cn kk (((cc + Int.tmod va 1000000) + Int.tmod (-(Int.tmod va 1000000)) 1000000) + Int.tmod 12 1000000)) kk = ((cc + Int.tmod va 1000000) + Int.tmod (-(Int.tmod va 1000000)) 1000000) + Int.tmod 12 1000000 from ym_up_at)
      have hgk := ym_LS_g hLS hk2 hcc0
      refine W.eq (g2 := F0 m 361 ls []) rfl ?_
      refine lv_aload_n hx hb dL_law_361 rfl (lv_at hl 7 rfl) ?_
      refine lv_iload hx hb dL_law_362 (lv_at hl 1 rfl) ?_
      refine lv_dup2_11 hx hb dL_law_364 rfl rfl ?_
      refine ym_lald (v := cc) hx hb hK hPca 1 rfl (ym_ixin wh) (by rw [ym_ixc, ← hkk]; exact hgk) dL_law_365 ?_
      refine ym_ldc2 12 hx hb hown (hts _ q241) (by decide) dL_law_366 ?_
      refine ym_ladd hx hb dL_law_369 ?_
      refine ym_last (k := kk) hx hb hK hPca 1 rfl (ym_ixin wh) (by rw [ym_ixc]; exact hkk.symm) dL_law_370 (fun H_56 hPc_57 hz_58 hk_59 => ?_)
      refine W.forget (L := [⟨ca, kk⟩]) (fun x h => by simp at h; rw [h]; exact hqc) ?_
      have hLS := ym_LS_W hLS hPc_57 hz_58 hk_59
      refine lv_goto (tgt := 431) hx hb dL_law_371 (by decide) ?_
      refine W.widen (k := cells + 3) (n := slots + 6) (by omega) (by omega) ?_
      exact tail _ _ _ _ _ (ym_LS_c hLS (ym_up_eq (by rw [ym_tmn, ym_tm12]; omega))) ls (lv_sub hl [2, 6, 7, 8, 9] rfl)
    · refine lv_tableOut (tgt := 374) hx hb dL_law_111 (by decide) (by decide) ?_
      refine lv_lload hx hb dL_law_374 (lv_at hl 0 rfl) ?_
      refine ym_ldc2 (-900000) hx hb hown (hts _ q420) (by decide) dL_law_376 ?_
      refine ym_lcmp_lt (tgt := 396) hx hb ⟨by omega, by omega⟩ ⟨by omega, by omega⟩ dL_law_379 dL_law_380 (by decide) (fun c_60 => ?_) (fun c_60 => ?_)
      · refine ym_iconst hx hb dL_law_396 ?_
        have hkp := ym_k_f (c := cc) (by omega)
        refine lv_istore (lv' := [(11, .int (ym_I 0)), (9, .long (ym_L (cc / 12))), (8, .int (ym_I (wh % 2))), (7, .int (ym_I vb)), (6, .int (ym_I va)), (5, .int (ym_I wh)), (4, .int (ym_I vw)), (3, .int (ym_I k)), (2, .ref ca), (1, .ref o), (0, .ref b)]) hx hb dL_law_397 hl (by decide) rfl (fun ls hl => ?_)
        refine lv_aload_n hx hb dL_law_399 rfl (lv_at hl 9 rfl) ?_
        refine lv_iload hx hb dL_law_400 (lv_at hl 5 rfl) ?_
        refine ym_callZ (ym_rV (C := RX1) (As := [.int (ym_I wh)]) (rest := []) hF (ym_dKeep l s.heap.size ad D dY o q (r kk) f cc wh (by rw [← hkk]; exact hfk) hqk (by omega) (by omega)) (cwV 1 hts (lw_V q219 q220 q221 q3 q222) rfl rfl rfl (by decide +kernel) ⟨Nat.le_of_ble_eq_true rfl, Nat.le_of_ble_eq_true rfl⟩) ym_w_mv (ym_w_of hkw (hK.sub (tys' := [(dY, .object "YearMonth")]) [0] rfl) ((hPo.app hPq).app hPk)) (va_recv hK hPo (ci := 0) (q0 := 0) rfl rfl) rfl hl.1 rfl (Nat.le_of_ble_eq_true rfl) dL_law_402 ⟨ym_rmc (by omega), ym_rms (by omega)⟩) (fun x h => Nat.le_trans hql (Nat.le_of_eq (Eq.symm h))) (fun v H_61 hz => ?_)
        rw [← hkk] at hz
        have hv9 : v = (some (.int (ym_I (ym_kp cc)))) := hz.1
        subst hv9
        obtain ⟨f_62, r_63, hLS⟩ := ym_LS_M hLS hk2 hz (B2 := B + 1000000) (by omega) (by omega) (by omega)
        have hkw := hLS.1
        have hX := hLS.2.1
        have hPo := hLS.2.2.1
        have hPq := hLS.2.2.2.1
        have hPca := hLS.2.2.2.2.1
        obtain ⟨hfk, hPk, hqk, hb1, hb2⟩ := ym_LS_at hLS hk2 (show (va_up cn kk (ym_kc cc)) kk = ym_kc cc from ym_up_at)
        have hgk := ym_LS_g hLS hk2 hcc0
        refine W.eq (g2 := F0 m 405 ls [.int (ym_I (ym_kp cc))]) rfl ?_
        refine lv_iload hx hb dL_law_405 (lv_at hl 0 rfl) ?_
        refine ym_icmp_eq (tgt := 412) hx hb ⟨by omega, by omega⟩ ⟨by omega, by omega⟩ dL_law_407 (by decide) (fun c_64 => ?_) (fun c_64 => ?_)
        · refine lv_aload_n hx hb dL_law_412 rfl (lv_at hl 8 rfl) ?_
          refine lv_iload hx hb dL_law_413 (lv_at hl 2 rfl) ?_
          refine lv_iload hx hb dL_law_415 (lv_at hl 0 rfl) ?_
          refine ym_if_eq (tgt := 427) hx hb ⟨by omega, by omega⟩ dL_law_417 (by decide) (fun c_65 => ?_) (fun c_65 => ?_)
          · refine ym_ldc2 24000 hx hb hown (hts _ q416) (by decide) dL_law_427 ?_
            refine ym_setl (ym_kc cc) (by omega) ?_
            refine ym_last (k := kk) hx hb hK hPca 1 rfl (ym_ixin wh) (by rw [ym_ixc]; exact hkk.symm) dL_law_430 (fun H_66 hPc_67 hz_68 hk_69 => ?_)
            refine W.forget (L := [⟨ca, kk⟩]) (fun x h => by simp at h; rw [h]; exact hqc) ?_
            have hLS := ym_LS_W hLS hPc_67 hz_68 hk_69
            refine W.widen (k := cells + 3) (n := slots + 6) (by omega) (by omega) ?_
            exact tail _ _ _ _ _ (ym_LS_c hLS (fun j => rfl)) ls (lv_sub hl [3, 7, 8, 9, 10] rfl)
          · exact absurd c_65 (by omega)
        · exact absurd c_64 (by omega)
      · refine lv_lload hx hb dL_law_383 (lv_at hl 0 rfl) ?_
        refine ym_ldc2 900000 hx hb hown (hts _ q421) (by decide) dL_law_385 ?_
        refine ym_lcmp_gt (tgt := 396) hx hb ⟨by omega, by omega⟩ ⟨by omega, by omega⟩ dL_law_388 dL_law_389 (by decide) (fun c_70 => ?_) (fun c_70 => ?_)
        · refine ym_iconst hx hb dL_law_396 ?_
          have hkp := ym_k_f (c := cc) (by omega)
          refine lv_istore (lv' := [(11, .int (ym_I 0)), (9, .long (ym_L (cc / 12))), (8, .int (ym_I (wh % 2))), (7, .int (ym_I vb)), (6, .int (ym_I va)), (5, .int (ym_I wh)), (4, .int (ym_I vw)), (3, .int (ym_I k)), (2, .ref ca), (1, .ref o), (0, .ref b)]) hx hb dL_law_397 hl (by decide) rfl (fun ls hl => ?_)
          refine lv_aload_n hx hb dL_law_399 rfl (lv_at hl 9 rfl) ?_
          refine lv_iload hx hb dL_law_400 (lv_at hl 5 rfl) ?_
          refine ym_callZ (ym_rV (C := RX1) (As := [.int (ym_I wh)]) (rest := []) hF (ym_dKeep l s.heap.size ad D dY o q (r kk) f cc wh (by rw [← hkk]; exact hfk) hqk (by omega) (by omega)) (cwV 1 hts (lw_V q219 q220 q221 q3 q222) rfl rfl rfl (by decide +kernel) ⟨Nat.le_of_ble_eq_true rfl, Nat.le_of_ble_eq_true rfl⟩) ym_w_mv (ym_w_of hkw (hK.sub (tys' := [(dY, .object "YearMonth")]) [0] rfl) ((hPo.app hPq).app hPk)) (va_recv hK hPo (ci := 0) (q0 := 0) rfl rfl) rfl hl.1 rfl (Nat.le_of_ble_eq_true rfl) dL_law_402 ⟨ym_rmc (by omega), ym_rms (by omega)⟩) (fun x h => Nat.le_trans hql (Nat.le_of_eq (Eq.symm h))) (fun v H_71 hz => ?_)
          rw [← hkk] at hz
          have hv9 : v = (some (.int (ym_I (ym_kp cc)))) := hz.1
          subst hv9
          obtain ⟨f_72, r_73, hLS⟩ := ym_LS_M hLS hk2 hz (B2 := B + 1000000) (by omega) (by omega) (by omega)
          have hkw := hLS.1
          have hX := hLS.2.1
          have hPo := hLS.2.2.1
          have hPq := hLS.2.2.2.1
          have hPca := hLS.2.2.2.2.1
          obtain ⟨hfk, hPk, hqk, hb1, hb2⟩ := ym_LS_at hLS hk2 (show (va_up cn kk (ym_kc cc)) kk = ym_kc cc from ym_up_at)
          have hgk := ym_LS_g hLS hk2 hcc0
          refine W.eq (g2 := F0 m 405 ls [.int (ym_I (ym_kp cc))]) rfl ?_
          refine lv_iload hx hb dL_law_405 (lv_at hl 0 rfl) ?_
          refine ym_icmp_eq (tgt := 412) hx hb ⟨by omega, by omega⟩ ⟨by omega, by omega⟩ dL_law_407 (by decide) (fun c_74 => ?_) (fun c_74 => ?_)
          · refine lv_aload_n hx hb dL_law_412 rfl (lv_at hl 8 rfl) ?_
            refine lv_iload hx hb dL_law_413 (lv_at hl 2 rfl) ?_
            refine lv_iload hx hb dL_law_415 (lv_at hl 0 rfl) ?_
            refine ym_if_eq (tgt := 427) hx hb ⟨by omega, by omega⟩ dL_law_417 (by decide) (fun c_75 => ?_) (fun c_75 => ?_)
            · refine ym_ldc2 24000 hx hb hown (hts _ q416) (by decide) dL_law_427 ?_
              refine ym_setl (ym_kc cc) (by omega) ?_
              refine ym_last (k := kk) hx hb hK hPca 1 rfl (ym_ixin wh) (by rw [ym_ixc]; exact hkk.symm) dL_law_430 (fun H_76 hPc_77 hz_78 hk_79 => ?_)
              refine W.forget (L := [⟨ca, kk⟩]) (fun x h => by simp at h; rw [h]; exact hqc) ?_
              have hLS := ym_LS_W hLS hPc_77 hz_78 hk_79
              refine W.widen (k := cells + 3) (n := slots + 6) (by omega) (by omega) ?_
              exact tail _ _ _ _ _ (ym_LS_c hLS (fun j => rfl)) ls (lv_sub hl [3, 7, 8, 9, 10] rfl)
            · exact absurd c_75 (by omega)
          · exact absurd c_74 (by omega)
        · refine ym_iconst hx hb dL_law_392 ?_
          refine lv_goto (tgt := 397) hx hb dL_law_393 (by decide) ?_
          have hkp := ym_k_t (c := cc) (by omega)
          refine lv_istore (lv' := [(11, .int (ym_I 1)), (9, .long (ym_L (cc / 12))), (8, .int (ym_I (wh % 2))), (7, .int (ym_I vb)), (6, .int (ym_I va)), (5, .int (ym_I wh)), (4, .int (ym_I vw)), (3, .int (ym_I k)), (2, .ref ca), (1, .ref o), (0, .ref b)]) hx hb dL_law_397 hl (by decide) rfl (fun ls hl => ?_)
          refine lv_aload_n hx hb dL_law_399 rfl (lv_at hl 9 rfl) ?_
          refine lv_iload hx hb dL_law_400 (lv_at hl 5 rfl) ?_
          refine ym_callZ (ym_rV (C := RX1) (As := [.int (ym_I wh)]) (rest := []) hF (ym_dKeep l s.heap.size ad D dY o q (r kk) f cc wh (by rw [← hkk]; exact hfk) hqk (by omega) (by omega)) (cwV 1 hts (lw_V q219 q220 q221 q3 q222) rfl rfl rfl (by decide +kernel) ⟨Nat.le_of_ble_eq_true rfl, Nat.le_of_ble_eq_true rfl⟩) ym_w_mv (ym_w_of hkw (hK.sub (tys' := [(dY, .object "YearMonth")]) [0] rfl) ((hPo.app hPq).app hPk)) (va_recv hK hPo (ci := 0) (q0 := 0) rfl rfl) rfl hl.1 rfl (Nat.le_of_ble_eq_true rfl) dL_law_402 ⟨ym_rmc (by omega), ym_rms (by omega)⟩) (fun x h => Nat.le_trans hql (Nat.le_of_eq (Eq.symm h))) (fun v H_80 hz => ?_)
          rw [← hkk] at hz
          have hv9 : v = (some (.int (ym_I (ym_kp cc)))) := hz.1
          subst hv9
          obtain ⟨f_81, r_82, hLS⟩ := ym_LS_M hLS hk2 hz (B2 := B + 1000000) (by omega) (by omega) (by omega)
          have hkw := hLS.1
          have hX := hLS.2.1
          have hPo := hLS.2.2.1
          have hPq := hLS.2.2.2.1
          have hPca := hLS.2.2.2.2.1
          obtain ⟨hfk, hPk, hqk, hb1, hb2⟩ := ym_LS_at hLS hk2 (show (va_up cn kk (ym_kc cc)) kk = ym_kc cc from ym_up_at)
          have hgk := ym_LS_g hLS hk2 hcc0
          refine W.eq (g2 := F0 m 405 ls [.int (ym_I (ym_kp cc))]) rfl ?_
          refine lv_iload hx hb dL_law_405 (lv_at hl 0 rfl) ?_
          refine ym_icmp_eq (tgt := 412) hx hb ⟨by omega, by omega⟩ ⟨by omega, by omega⟩ dL_law_407 (by decide) (fun c_83 => ?_) (fun c_83 => ?_)
          · refine lv_aload_n hx hb dL_law_412 rfl (lv_at hl 8 rfl) ?_
            refine lv_iload hx hb dL_law_413 (lv_at hl 2 rfl) ?_
            refine lv_iload hx hb dL_law_415 (lv_at hl 0 rfl) ?_
            refine ym_if_eq (tgt := 427) hx hb ⟨by omega, by omega⟩ dL_law_417 (by decide) (fun c_84 => ?_) (fun c_84 => ?_)
            · exact absurd c_84 (by omega)
            · refine lv_aload_n hx hb dL_law_420 rfl (lv_at hl 8 rfl) ?_
              refine lv_iload hx hb dL_law_421 (lv_at hl 2 rfl) ?_
              refine ym_lald (v := cc) hx hb hK hPca 1 rfl (ym_ixin wh) (by rw [ym_ixc, ← hkk]; exact hgk) dL_law_423 ?_
              refine lv_goto (tgt := 430) hx hb dL_law_424 (by decide) ?_
              refine ym_setl (ym_kc cc) (by omega) ?_
              refine ym_last (k := kk) hx hb hK hPca 1 rfl (ym_ixin wh) (by rw [ym_ixc]; exact hkk.symm) dL_law_430 (fun H_85 hPc_86 hz_87 hk_88 => ?_)
              refine W.forget (L := [⟨ca, kk⟩]) (fun x h => by simp at h; rw [h]; exact hqc) ?_
              have hLS := ym_LS_W hLS hPc_86 hz_87 hk_88
              refine W.widen (k := cells + 3) (n := slots + 6) (by omega) (by omega) ?_
              exact tail _ _ _ _ _ (ym_LS_c hLS (fun j => rfl)) ls (lv_sub hl [3, 7, 8, 9, 10] rfl)
          · exact absurd c_83 (by omega)
end
section
/-! THE CLAIM OUT OF ONE WALK OF THE LAW'S BODY. Your part is whole_start (and what it stands on); all else here is the same for every law, but numbers. -/
def R_law : String := "MonthDeskLaw"
def lw_P (b : Addr) (xs : List Int32) (args : Array Value) (s : State) : Prop := args = #[.ref b] ∧ s.IntsAt b xs ∧ xs.length ≤ 96 ∧ (Jvm.Cond.and given_1 narrow_1).before args s = true
def lw_Q (_ : Array Value) (s : State) (o : Outcome) (t : State) : Prop := o = .returned (some (.int 1)) ∧ Framed s o t [] 1200192 5500522
def lw_Z (below : List Frame) (a : Array Value) (s : State) : State → Prop := fun t => ∃ o, t.status = .running ∧ Ended t below o ∧ lw_Q a s o t
/-- the law's own end, with 1 on the stack, nothing written that was there before, its room as the claim has it -/
theorem lw_ret {p : Program} {l : Launch} {e : Env} {s : State} {m : MethodId} {below : List Frame} {meth : Method} {c : Code} {b : Nat} (hx : p.tables.exec = Jvm.exec) (hb : c.code = code) (hr : meth.sig.returnType = ret) (hlocks : meth.locks = false) {pc : Nat} {H : Heap} {ls : Array Slot} (hdg : decode code pc = .ok (.ireturn, 1)) : W p l e room_1 s m #[Value.ref b] below meth c H [] 1200192 5500522 (lw_Z below #[Value.ref b] s) (F0 m pc ls [.int 1]) := by
  intro T hT X
  obtain ⟨fs, hret, hrun, hended, hW, hframe⟩ := X.leave (v := some (.int 1)) (hlocks := hlocks) (fun h => by rw [hr] at h; cases h)
  have hmeth' : T.vm.method? m = some meth := X.method'
  refine ⟨T.setFrames fs, ?_, .returned (some (.int 1)), hrun, hended, rfl, ⟨_, rfl⟩, hW, hframe⟩
  jvm_step X.here [X.here.top, hx, hb, hdg, hmeth', hr, ret, narrow_b1]
  (try refine ⟨rfl, ?_⟩); (try refine ⟨rfl, ?_⟩)
  first | (intro acts; rw [hret _ acts rfl rfl rfl]) | rw [hret _ _ rfl rfl rfl]
  exact Steps.refl _
/-- what holds at the law's entry: the machine, the code, the tables' words (any of lw_tbl by 'hts w (by decide +kernel)'), the script of L ints xs at the cell b, what the Statement gives of the start (any of its parts by flat_of_before) -/
def lw_At (p : Program) (s : State) (m : MethodId) (meth : Method) (c : Code) (b L : Nat) (xs : Nat → Int32) : Prop :=
  p.tables.exec = Jvm.exec ∧ c.code = code ∧ meth.sig.returnType = ret ∧ c.maxLocals = 12 ∧ s.vm.findClass R_law = some m.cls ∧ (∀ w ∈ lw_tbl, w.before #[Value.ref b] s = true) ∧ va_X b L xs s s.heap ∧ b < s.heap.size ∧ meth.locks = false ∧ (Jvm.Cond.and given_1 narrow_1).before #[Value.ref b] s = true
/-! THE START: the constants, as the Statement has them; the classes -/
theorem ym_exO {args : Array Value} {s : State} {t : Term} {cls : String} {A : Nat → Prop} (h : (Cond.exactly t cls).before args s = true) (hA : ∀ a : Nat, a < s.heap.size → ¬ A a) : ∃ a : Nat, t.eval args s none [] s = some (.ref a) ∧ va_O cls a A s s.heap := by
  obtain ⟨a, c, cell, k, q1, q2, q3, q4, q5, q6, -⟩ := Cond.exactly_spec h
  exact ⟨a, q1, cell, q3, q5, by rw [q6]; exact q2, hA a (Array.getElem?_eq_some_iff.mp q3).1⟩
theorem ym_cf {args : Array Value} {s : State} {t : Term} {o n d : String} {a : Nat} {v : Value} {A : Nat → Prop} (ht : t.eval args s none [] s = some (.ref a)) (hv : (Term.field t o n d).eval args s none [] s = some v) (hA : ∀ a : Nat, a < s.heap.size → ¬ A a) : va_OF o n d v a A s s.heap := by
  cases hfo : s.fieldFound? o n d with
  | none =>
    rw [va_fe ht] at hv
    simp [State.fieldOf?, State.fieldNamed?, hfo] at hv
  | some x =>
    obtain ⟨cf, k, fi, f⟩ := x
    obtain ⟨g1, cell, g2, g3, -, -, g6⟩ := Term.field_spec hfo ht hv
    exact ⟨cf, k, fi, f, cell, hfo, g1, g2, g3, g6, hA _ (Array.getElem?_eq_some_iff.mp g2).1⟩
def ym_mn : List String := ["JANUARY", "FEBRUARY", "MARCH", "APRIL", "MAY", "JUNE", "JULY", "AUGUST", "SEPTEMBER", "OCTOBER", "NOVEMBER", "DECEMBER"]
abbrev ym_tc (k : Nat) : Term := .static "ChronoField" (ym_nm k) "LChronoField;"
abbrev ym_tr (k : Nat) : Term := .field (ym_tc k) "ChronoField" "range" "LValueRange;"
abbrev ym_tm (j : Nat) : Term := .static "Month" (ym_mn.getD j "") "LMonth;"
abbrev ym_te : Term := .static "Month" "ENUMS" "[LMonth;"
abbrev ym_ti : Term := .static "IsoChronology" "INSTANCE" "LIsoChronology;"
theorem ym_s1 : ∀ k, k < 3 → Cond.exactly (ym_tc k) "ChronoField" ∈ flatC (Jvm.Cond.and given_1 narrow_1) := by decide +kernel
theorem ym_s2 : ∀ k, k < 3 → Cond.exactly (ym_tr k) "ValueRange" ∈ flatC (Jvm.Cond.and given_1 narrow_1) := by decide +kernel
theorem ym_s3 : ∀ k, k < 3 → Cond.eq (.field (ym_tr k) "ValueRange" "minSmallest" "J") (.long (ym_L (ym_lo k))) ∈ flatC (Jvm.Cond.and given_1 narrow_1) := by decide +kernel
theorem ym_s4 : ∀ k, k < 3 → Cond.eq (.field (ym_tr k) "ValueRange" "maxLargest" "J") (.long (ym_L (ym_hi k))) ∈ flatC (Jvm.Cond.and given_1 narrow_1) := by decide +kernel
theorem ym_s5 : ∀ j, j < 12 → Cond.exactly (ym_tm j) "Month" ∈ flatC (Jvm.Cond.and given_1 narrow_1) := by decide +kernel
theorem ym_s6 : ∀ j, j < 12 → Cond.eq (.field (ym_tm j) "java/lang/Enum" "ordinal" "I") (.int (ym_I j)) ∈ flatC (Jvm.Cond.and given_1 narrow_1) := by decide +kernel
theorem ym_s7 : ∀ j, j < 12 → Cond.eq (.elem ym_te (.int (Int32.ofNat j))) (ym_tm j) ∈ flatC (Jvm.Cond.and given_1 narrow_1) := by decide +kernel
theorem ym_s8 : Cond.arrayOf ym_te (.object "Month") ∈ flatC (Jvm.Cond.and given_1 narrow_1) := by decide +kernel
theorem ym_s9 : Cond.eq (.length ym_te) (.int (Int32.ofNat 12)) ∈ flatC (Jvm.Cond.and given_1 narrow_1) := by decide +kernel
theorem ym_s10 : Cond.exactly ym_ti "IsoChronology" ∈ flatC (Jvm.Cond.and given_1 narrow_1) := by decide +kernel
theorem ym_s11 : ∀ k, k < 3 → Cond.laysStatic "ChronoField" (ym_nm k) "LChronoField;" ∈ lw_tbl := fun k hk => match k, hk with
  | 0, _ => q33
  | 1, _ => q125
  | 2, _ => q339
/-- the addresses: the months, the fields, their ranges, the chronology, the months' table -/
def ym_ad (am ac ar : Nat → Nat) (ai ae : Nat) : Nat → Nat := fun i => if i < 12 then am i else if i < 15 then ac (i - 12) else if i < 18 then ar (i - 15) else if i = 18 then ai else ae
section YJ
variable {am ac ar : Nat → Nat} {ai ae : Nat}
theorem ym_ad_m {j : Nat} (h : j < 12) : ym_ad am ac ar ai ae j = am j := if_pos h
theorem ym_ad_c {k : Nat} (h : k < 3) : ym_ad am ac ar ai ae (12 + k) = ac k := by
  unfold ym_ad
  rw [if_neg (by omega), if_pos (by omega), Nat.add_sub_cancel_left]
theorem ym_ad_r {k : Nat} (h : k < 3) : ym_ad am ac ar ai ae (15 + k) = ar k := by
  unfold ym_ad
  rw [if_neg (by omega), if_neg (by omega), if_pos (by omega), Nat.add_sub_cancel_left]
theorem ym_ad_i : ym_ad am ac ar ai ae 18 = ai := rfl
theorem ym_ad_e : ym_ad am ac ar ai ae 19 = ae := rfl
end YJ
set_option maxHeartbeats 4000000 in
theorem ym_start_kw {args : Array Value} {s : State} (hts : ∀ w ∈ lw_tbl, w.before args s = true) (hgv : (Jvm.Cond.and given_1 narrow_1).before args s = true) : ∃ ad : Nat → Nat, ym_kw s.heap.size ad s s.heap := by
  have hs := flat_of_before _ hgv
  have hA : ∀ a : Nat, a < s.heap.size → ¬ ym_A s.heap.size a := fun a h q => absurd (show s.heap.size ≤ a from q) (by omega)
  have hm : ∀ j : Nat, ∃ a : Nat, j < 12 → (ym_tm j).eval args s none [] s = some (.ref a) ∧ va_O "Month" a (ym_A s.heap.size) s s.heap := by
    intro j
    by_cases hj : j < 12
    · obtain ⟨a, h⟩ := ym_exO (hs _ (ym_s5 j hj)) hA
      exact ⟨a, fun _ => h⟩
    · exact ⟨0, fun h => absurd h hj⟩
  obtain ⟨am, ham⟩ := Classical.axiomOfChoice hm
  have hc : ∀ k : Nat, ∃ a : Nat, k < 3 → (ym_tc k).eval args s none [] s = some (.ref a) ∧ va_O "ChronoField" a (ym_A s.heap.size) s s.heap := by
    intro k
    by_cases hk : k < 3
    · obtain ⟨a, h⟩ := ym_exO (hs _ (ym_s1 k hk)) hA
      exact ⟨a, fun _ => h⟩
    · exact ⟨0, fun h => absurd h hk⟩
  obtain ⟨ac, hac⟩ := Classical.axiomOfChoice hc
  have hr : ∀ k : Nat, ∃ a : Nat, k < 3 → (ym_tr k).eval args s none [] s = some (.ref a) ∧ va_O "ValueRange" a (ym_A s.heap.size) s s.heap := by
    intro k
    by_cases hk : k < 3
    · obtain ⟨a, h⟩ := ym_exO (hs _ (ym_s2 k hk)) hA
      exact ⟨a, fun _ => h⟩
    · exact ⟨0, fun h => absurd h hk⟩
  obtain ⟨ar, har⟩ := Classical.axiomOfChoice hr
  obtain ⟨ai, hi1, hi2⟩ := ym_exO (hs _ ym_s10) hA
  obtain ⟨ae, he1, he2⟩ := va_Tof (N := 12) (f := fun j => .ref (am j)) (by decide) (hs _ ym_s8) (va_eqt (hs _ ym_s9)) (fun j hj => va_eqv (hs _ (ym_s7 j hj)) (ham j hj).1) hA
  refine ⟨ym_ad am ac ar ai ae, fun k hk => ?_, fun j hj => ?_, ?_, ?_, ?_, ?_, va_AO.of (hts _ q28)⟩
  · obtain ⟨c1, c2⟩ := hac k hk
    obtain ⟨r1, r2⟩ := har k hk
    have e1 := ym_cf c1 r1 hA
    have e2 := ym_cf r1 (va_eqtl (hs _ (ym_s3 k hk))) hA
    have e3 := ym_cf r1 (va_eqtl (hs _ (ym_s4 k hk))) hA
    have e0 := va_Zref (hts _ (ym_s11 k hk)) (hts _ (lw_all_tbl q7)) c1 hA
    unfold ym_kf
    rw [ym_ad_c hk, ym_ad_r hk]
    exact ⟨e0, c2, e1, r2, e2, e3⟩
  · obtain ⟨m1, m2⟩ := ham j hj
    unfold ym_km
    rw [ym_ad_m hj]
    exact ⟨m2, ym_cf m1 (va_eqt (hs _ (ym_s6 j hj))) hA⟩
  · rw [ym_ad_i]
    exact va_Zref (hts _ q293) (hts _ (lw_all_tbl q14)) hi1 hA
  · rw [ym_ad_i]
    exact hi2
  · rw [ym_ad_e]
    exact va_Zref (hts _ q287) (hts _ (lw_all_tbl q12)) he1 hA
  · rw [ym_ad_e]
    obtain ⟨cell, t1, t2, t3, t4, t5, t6, t7⟩ := he2
    exact ⟨cell, t1, t2, t3, t4, t5, fun j hj => by
      show cell.slots[j]? = some (.ref (ym_ad am ac ar ai ae j))
      rw [ym_ad_m hj]
      exact t6 j hj, t7⟩
theorem ym_start_K {args : Array Value} {s : State} (hts : ∀ w ∈ lw_tbl, w.before args s = true) : ∃ (D : va_G) (dY : ClassId), va_K D vwCl [(dY, .object "YearMonth")] s := by
  have hta : ∀ w ∈ lw_all, w.before args s = true := fun w h => hts w (lw_all_tbl h)
  obtain ⟨c1, i1, h1⟩ := u_known hta in_X1 (hta _ q20)
  obtain ⟨c3, i3, h3⟩ := u_known hta in_X3 (hta _ q127)
  obtain ⟨c10, i10, h10⟩ := u_known hta in_X10 (hta _ q351)
  obtain ⟨comp, c, k, f1, f2, f3, f4, f5⟩ := Cond.arrayOver_spec (hts _ q28)
  refine ⟨(fun j => match j with | 0 => c1 | 1 => c3 | _ => c10, fun j => match j with | 0 => i1 | 1 => i3 | _ => i10), c, fun j q hq => ?_, fun j q hq => ?_⟩
  · match j, hq with
    | 0, hq => cases hq; exact h1
    | 1, hq => cases hq; exact h3
    | 2, hq => cases hq; exact h10
    | n + 3, hq => simp at hq
  · match j, hq with
    | 0, hq =>
      cases hq
      exact ⟨fun n z => ⟨fun k h => (by cases h), k, f3, comp, f4⟩, k, comp, f3, f4, f1, f5⟩
    | n + 1, hq => simp at hq
end
section
/-! The law's start and its loop -/
section YK
variable {p : Program} {l : Launch} {e : Env} {R : Room} {s : State} {m : MethodId} {args : Array Value} {below : List Frame} {meth : Method} {c : Code} {H : Heap} {locs : List Loc} {cells slots : Nat} {Q : State → Prop} {cc : ByteArray} {pc : Nat} {ls : Array Slot} {rest : List Value} {D : va_G} {tys : List (ClassId × FieldType)}
theorem ym_newl (hx : p.tables.exec = Jvm.exec) (hb : c.code = cc) (harr : (Cond.arrayClass .long).before args s = true) (hK : va_K D vwCl tys s) {n : Int32} {N : Nat} (hn : ¬ n < 0) (hN : n.toNatClampNeg = N) (hbytes : N * componentBytes .long ≤ 536870912) (hcells : cells + 1 ≤ R.cells) (hslots : slots + N ≤ R.slots) (hdg : decode cc pc = .ok (.newarray .long, 2))
    (kk : ∀ (q : Nat) (dL : ClassId) (H1 : Heap), q = H.size → ym_ext H H1 → va_K D vwCl (tys ++ [(dL, .long)]) s → va_P D vwCl [(q, .inl (dL, N, .inr (.inl fun _ => 0)))] H1 → W p l e R s m args below meth c H1 locs (cells + 1) (slots + N) Q (F0 m (pc + 2) ls (.ref q :: rest))) : W p l e R s m args below meth c H locs cells slots Q (F0 m pc ls (.int n :: rest)) := by
  refine va_newaK hx hb (atype := .long) harr rfl hdg rfl hn hN hbytes hcells hslots rfl fun H1 cA e1 z1 o1 hAr hNm => ?_
  refine kk H.size cA H1 rfl ⟨by omega, o1⟩ ⟨hK.1, fun k x hx => ?_⟩ (ym_P1 ?_)
  · by_cases hl : k < tys.length
    · rw [List.getElem?_append_left hl] at hx
      exact hK.2 k x hx
    · rw [List.getElem?_append_right (by omega)] at hx
      have hz : k - tys.length < 1 := (List.getElem?_eq_some_iff.mp hx).1
      rw [show k - tys.length = 0 by omega] at hx
      cases hx
      exact ⟨hAr, hNm⟩
  · show H1[H.size]? = some (vp_cell _ _)
    rw [vp_cell_l]
    exact e1
end YK
theorem ym_init_ext2 {H H1 H2 : Heap} {q : Nat} (hq : q = H.size) (hE : ym_ext H H1) (hz : H1.size ≤ H2.size) (hk : ∀ x : Nat, x < H1.size → x ≠ q → H2[x]? = H1[x]?) : ym_ext H H2 :=
  ⟨Nat.le_trans hE.1 hz, fun x hx => (hk x (Nat.lt_of_lt_of_le hx hE.1) (by omega)).trans (hE.2 x hx)⟩
/-- the law's world at the head of its loop, as the start leaves it -/
theorem ym_LS_mk {s : State} {ad : Nat → Nat} {D : va_G} {dY dL : ClassId} {b Ln : Nat} {xs : Nat → Int32} {o q ca a0 a1 : Nat} {f : Nat → Option Nat} {g : Nat → Int64} {H2 H3 H5 : Heap} (hkw : ym_kw s.heap.size ad s s.heap) (hX : va_X b Ln xs s s.heap) (hbl : b < s.heap.size) (hE : ym_ext s.heap H2) (hPo : va_P D vwCl [(o, .inr (0, [.ref q]))] H2) (hPq : va_P D vwCl [(q, ym_ar dY f)] H2) (hP0 : va_P D vwCl [(a0, .inr (1, [.int (ym_I 2000), .int (ym_I 1)]))] H2) (hP1 : va_P D vwCl [(a1, .inr (1, [.int (ym_I 2000), .int (ym_I 1)]))] H2) (hf0 : f 0 = some a0) (hf1 : f 1 = some a1) (hoq : o < q) (hq : s.heap.size ≤ q) (hq0 : q < a0) (hq1 : q < a1) (hc : ca = H2.size) (hE3 : ym_ext H2 H3) (hz : H5.size = H3.size) (hk : ∀ x : Nat, x ≠ ca → H5[x]? = H3[x]?) (hPc : va_P D vwCl [(ca, .inl (dL, 2, .inr (.inl g)))] H5) (hg0 : g 0 = ym_L 24000) (hg1 : g 1 = ym_L 24000) : ∃ r : Nat → Nat, ym_LS s ad D dY dL b Ln xs o q ca f g r (fun _ => 24000) (fun _ => 24000) 12000000 H5 := by
  have hE5 : ym_ext H2 H5 := ⟨by rw [hz]; exact hE3.1, fun x hx => (hk x (by omega)).trans (hE3.2 x hx)⟩
  have hEs : ym_ext s.heap H5 := ym_ext_tr hE hE5
  have l1 := ym_lt1 hPo
  have l2 := ym_lt1 hPq
  have l3 := ym_lt1 hP0
  have l4 := ym_lt1 hP1
  have e1 : (24000 : Int) / 12 = 2000 := by decide
  have e2 : (24000 : Int) % 12 + 1 = 1 := by decide
  refine ⟨fun j => if j = 0 then a0 else a1, ym_ext_kw hEs hkw, ym_ext_X hEs hX, ym_ext_P hE5 hPo, ym_ext_P hE5 hPq, hPc, fun j hj => ?_, hq, by rw [hc]; exact hE.1, hbl, by omega, by omega, by omega, hEs.1⟩
  show f j = some (if j = 0 then a0 else a1) ∧ va_P D vwCl [((if j = 0 then a0 else a1), .inr (1, [.int (ym_I ((24000 : Int) / 12)), .int (ym_I ((24000 : Int) % 12 + 1))]))] H5 ∧ q ≠ (if j = 0 then a0 else a1) ∧ ca ≠ (if j = 0 then a0 else a1) ∧ g j = ym_L 24000 ∧ -12000000 ≤ (24000 : Int) ∧ (24000 : Int) ≤ 12000000
  rw [e1, e2]
  match j, hj with
  | 0, _ =>
    rw [if_pos rfl]
    exact ⟨hf0, ym_ext_P hE5 hP0, by omega, by omega, hg0, by decide, by decide⟩
  | 1, _ =>
    rw [if_neg (by decide)]
    exact ⟨hf1, ym_ext_P hE5 hP1, by omega, by omega, hg1, by decide, by decide⟩
set_option maxHeartbeats 4000000 in
/-- the loop: n turns are left -/
theorem ym_loop {p : Program} {e : Env} {s : State} {m : MethodId} {below : List Frame} {meth : Method} {c : Code} (l : Launch) {b Ln : Nat} {xs : Nat → Int32} {ad : Nat → Nat} {D : va_G} {dY dL : ClassId} {o q ca : Nat} (hx : p.tables.exec = Jvm.exec) (hb : c.code = code) (hr : meth.sig.returnType = ret) (hlocks : meth.locks = false) (hml : c.maxLocals = 12) (hown : s.vm.findClass RX0 = some m.cls) (hts : ∀ w ∈ lw_all, w.before #[Value.ref b] s = true) (hK : va_K D vwCl [(dY, .object "YearMonth"), (dL, .long)] s) (hLn : Ln ≤ 96) (n : Nat) : ∀ (k B : Int) (cells slots : Nat) (f : Nat → Option Nat) (g : Nat → Int64) (r : Nat → Nat) (cn : Nat → Int) (H : Heap) (ls : Array Slot), k + n = 32 → 0 ≤ k → cells + 11 * n ≤ 1000 → slots + 30 * n ≤ 3000 → 12000000 ≤ B → B + 1000000 * n ≤ 48000000 → ym_LS s ad D dY dL b Ln xs o q ca f g r cn cn B H → lv_has ls 12 [(3, .int (ym_I k)), (2, .ref ca), (1, .ref o), (0, .ref b)] → W p l e room_1 s m #[Value.ref b] below meth c H [] cells slots (lw_Z below #[Value.ref b] s) (F0 m 43 ls []) := by
  induction n with
  | zero =>
    intro k B cells slots f g r cn H ls hk h0 hc hs hB1 hB2 hLS hl
    refine lv_iload_n hx hb dL_law_43 rfl (lv_at hl 0 rfl) ?_
    refine ym_bipush 32 hx hb dL_law_44 (by decide) ?_
    refine ym_icmp_ge (tgt := 451) hx hb ⟨by omega, by omega⟩ ⟨by omega, by omega⟩ dL_law_46 (by decide) (fun c_1 => ?_) (fun c_1 => ?_)
    · refine lv_iconst (v := 1) hx hb dL_law_451 (by decide) ?_
      refine W.widen (k := 1200192) (n := 5500522) (by omega) (by omega) ?_
      exact lw_ret hx hb hr hlocks dL_law_452
    · exact absurd c_1 (by omega)
  | succ n ih =>
    intro k B cells slots f g r cn H ls hk h0 hc hs hB1 hB2 hLS hl
    refine ym_turn l hx hb hml hown hts hK hLn (by omega) (by omega) k h0 (by omega) hB1 (by omega) hLS (fun f2 g2 r2 cn2 H2 ls2 h2 hl2 => ?_) hl
    exact ih (k + 1) (B + 1000000) (cells + 11) (slots + 30) f2 g2 r2 cn2 H2 ls2 (by omega) (by omega) (by omega) (by omega) (by omega) (by omega) h2 hl2
set_option maxHeartbeats 4000000 in
set_option maxRecDepth 100000 in
theorem whole_start {p : Program} {e : Env} {s : State} {m : MethodId} {below : List Frame} {meth : Method} {c : Code} (l : Launch) (hflags : l.flags = flags0) {b L : Nat} {xs : Nat → Int32} (hL : L ≤ 96) (C0 : lw_At p s m meth c b L xs) : W p l e room_1 s m #[Value.ref b] below meth c s.heap [] 0 0 (lw_Z below #[Value.ref b] s) (entryFrame m ([Value.ref b] : List Value).toArray 12) := by
  obtain ⟨hx, hb, hr, hml, hown0, hts0, hX, hbl, hlocks, hgv⟩ := C0
  have hown : s.vm.findClass RX0 = some m.cls := hown0
  have hts : ∀ w ∈ lw_all, w.before #[Value.ref b] s = true := fun w h => hts0 w (lw_all_tbl h)
  have hF : CallFix p m c cL_law 12 s #[Value.ref b] lw_all RX0 := ⟨hx, hb, hml, hown, hts⟩
  obtain ⟨ad, hkw⟩ := ym_start_kw hts0 hgv
  obtain ⟨D, dY, hK⟩ := ym_start_K hts0
  have hl := lv_entry ([.ref b]) (n := 12) (Nat.le_of_ble_eq_true rfl)
  rw [lg_entry_eq]
  generalize (lg_sl ([.ref b]) ++ List.replicate (12 - (lg_sl ([.ref b])).length) Slot.unset).toArray = ls at hl ⊢
  have hl : lv_has ls 12 [(0, .ref b)] := hl
  refine ym_new (ci := 0) (fs := [.null]) (C := RX1) (T := TX1) (N := 1) hx hb hts in_X1 tyX1 tyX1_ok hown (hts _ q19) (hts _ q20) (hts _ q3) hK rfl (ym_fs1) (ym_rmc (by omega)) (ym_rms (by omega)) dL_law_0 (fun o H1 ho hE1 hPn => ?_)
  have hol : s.heap.size ≤ o := Nat.le_of_eq ho.symm
  refine lv_dup hx hb dL_law_3 rfl ?_
  refine ym_callZ (ym_rI (As := []) (rest := [.ref o]) hF (ym_dInit l s.heap.size ad D dY o) (cwI 0 hts (lw_meth q23) rfl rfl rfl (hts _ q3) (hts _ q21) (hts _ q22) rfl (by decide +kernel) ⟨Nat.le_of_ble_eq_true rfl, Nat.le_of_ble_eq_true rfl⟩) ym_w_mv (ym_w_of (ym_ext_kw hE1 hkw) hK hPn) rfl hl.1 rfl (Nat.le_of_ble_eq_true rfl) dL_law_4 ⟨ym_rmc (by omega), ym_rms (by omega)⟩) (fun x h => Nat.le_trans hol (Nat.le_of_eq (Eq.symm h))) (fun v H2 hz => ?_)
  obtain ⟨rfl, q, a0, a1, f, hPo, hPq, hP0, hP1, hf0, hf1, hq, hq0, hq1, hz2, hk2⟩ := hz
  have hE2 := ym_init_ext2 ho hE1 hz2 hk2
  have hoq : o < q := Nat.lt_of_lt_of_le (ym_lt1 hPn) hq
  refine W.eq (g2 := F0 m 7 ls [.ref o]) rfl ?_
  refine lv_astore_n (lv' := [(1, .ref o), (0, .ref b)]) hx hb dL_law_7 rfl hl (by decide) rfl (fun ls hl => ?_)
  refine ym_iconst hx hb dL_law_8 ?_
  refine ym_newl (N := 2) hx hb (hts _ q422) hK (by decide) (by decide) (by decide) (ym_rmc (by omega)) (ym_rms (by omega)) dL_law_9 (fun ca dL H3 hc hE3 hK hPc => ?_)
  have hcl : s.heap.size ≤ ca := by rw [hc]; exact hE2.1
  have hK : va_K D vwCl [(dY, .object "YearMonth"), (dL, .long)] s := hK
  refine lv_dup hx hb dL_law_11 rfl ?_
  refine ym_iconst hx hb dL_law_12 ?_
  refine ym_ldc2 24000 hx hb hown (hts _ q416) (by decide) dL_law_13 ?_
  refine ym_last (k := 0) hx hb hK hPc 1 rfl (ym_in (by decide) (by decide) (by decide)) (by decide) dL_law_16 (fun H4 hPc4 hz4 hk4 => ?_)
  refine W.forget (L := [⟨ca, 0⟩]) (fun x h => by simp at h; rw [h]; exact hcl) ?_
  refine lv_dup hx hb dL_law_17 rfl ?_
  refine ym_iconst hx hb dL_law_18 ?_
  refine ym_ldc2 24000 hx hb hown (hts _ q416) (by decide) dL_law_19 ?_
  refine ym_last (k := 1) hx hb hK hPc4 1 rfl (ym_in (by decide) (by decide) (by decide)) (by decide) dL_law_22 (fun H5 hPc5 hz5 hk5 => ?_)
  refine W.forget (L := [⟨ca, 1⟩]) (fun x h => by simp at h; rw [h]; exact hcl) ?_
  obtain ⟨r, hLS⟩ := ym_LS_mk hkw hX hbl hE2 hPo hPq hP0 hP1 hf0 hf1 hoq (by omega) hq0 hq1 hc hE3 (hz5.trans hz4) (fun x hx => (hk5 x hx).trans (hk4 x hx)) hPc5 rfl rfl
  have hkw := hLS.1
  have hX := hLS.2.1
  have hPo := hLS.2.2.1
  have hPq := hLS.2.2.2.1
  have hPca := hLS.2.2.2.2.1
  obtain ⟨hf0, hP0, -, hb01, hb02⟩ := ym_LS_at hLS (k := 0) (by decide) rfl
  obtain ⟨hf1, hP1, -, hb11, hb12⟩ := ym_LS_at hLS (k := 1) (by decide) rfl
  have hg0 := ym_LS_g hLS (k := 0) (by decide) rfl
  have hg1 := ym_LS_g hLS (k := 1) (by decide) rfl
  refine lv_astore_n (lv' := [(2, .ref ca), (1, .ref o), (0, .ref b)]) hx hb dL_law_23 rfl hl (by decide) rfl (fun ls hl => ?_)
  refine lv_aload_n hx hb dL_law_24 rfl (lv_at hl 1 rfl) ?_
  refine lv_aload_n hx hb dL_law_25 rfl (lv_at hl 0 rfl) ?_
  refine lv_aload_n hx hb dL_law_26 rfl (lv_at hl 2 rfl) ?_
  refine ym_iconst hx hb dL_law_27 ?_
  refine ym_callP (ym_rS (As := [.ref b, .int (ym_I 0)]) (rest := [.ref ca, .ref o]) hF (ym_cell l s.heap.size ad D b L xs 0 (by omega) (by omega) (by omega)) (va_cwS 2 hts (lw_S q225 q226 q2 q227) rfl rfl rfl (by decide +kernel) ⟨Nat.le_of_ble_eq_true rfl, Nat.le_of_ble_eq_true rfl⟩) ym_X_mv hX rfl hl.1 rfl (Nat.le_of_ble_eq_true rfl) dL_law_28 ⟨ym_rmc (by omega), ym_rms (by omega)⟩) ?_
  refine ym_iconst hx hb dL_law_31 ?_
  refine ym_ishr hx hb dL_law_32 (fun sh hsh => ?_)
  refine ym_callZ (ym_rS (As := [.ref o, .ref ca, .int (ym_I sh)]) (rest := []) hF (ym_stands l s.heap.size ad D dY dL o q (r 0) (r 1) ca f _ _ _ sh hf0 hf1 hg0 hg1 (by omega) (by omega) (by omega) (by omega)) (va_cwS 3 hts (lw_S q235 q236 q2 q237) rfl rfl rfl (by decide +kernel) ⟨Nat.le_of_ble_eq_true rfl, Nat.le_of_ble_eq_true rfl⟩) ym_w_mv (ym_w_of hkw hK ((((hPo.app hPq).app hP0).app hP1).app hPca)) rfl hl.1 rfl (Nat.le_of_ble_eq_true rfl) dL_law_33 ⟨ym_rmc (by omega), ym_rms (by omega)⟩) (fun _ h => h.elim) (fun v H6 hz => ?_)
  obtain ⟨rfl, hE6⟩ := hz
  have hLS := ym_LS_E hLS hE6
  refine W.eq (g2 := F0 m 36 ls [.int (ym_I 1)]) rfl ?_
  refine ym_if_ne (tgt := 41) hx hb ⟨by omega, by omega⟩ dL_law_36 (by decide) (fun c_4 => ?_) (fun c_4 => ?_)
  · refine ym_iconst hx hb dL_law_41 ?_
    refine lv_istore_n (lv' := [(3, .int (ym_I 0)), (2, .ref ca), (1, .ref o), (0, .ref b)]) hx hb dL_law_42 rfl hl (by decide) rfl (fun ls hl => ?_)
    exact ym_loop l hx hb hr hlocks hml hown hts hK hL 32 0 12000000 _ _ f _ r _ H6 ls (by decide) (by decide) (by omega) (by omega) (by decide) (by decide) hLS hl
  · exact absurd c_4 (by omega)
end
section
set_option maxHeartbeats 4000000 in
theorem lw_walk (l : Launch) (hflags : l.flags = flags0) (b : Addr) (xs : List Int32) : MetFree l x (headSpec (Jvm.Cond.code x code maxLocals ret :: tables_1) room_1) (lw_P b xs) (fun _ _ _ _ _ => True) lw_Q := by
  refine MetFree.of_bodyS (code := code) (maxLocals := maxLocals) (ret := ret) (by decide) ?_ ?_
  · intro args s m h hn
    obtain ⟨meth, c, h1, h2, h3, h4, h5, h6, -, -⟩ := Cond.code_spec hn (atoms_spec (ws := Jvm.Cond.code x code maxLocals ret :: tables_1) h _ List.mem_cons_self)
    exact ⟨meth, c, h1, h2, h3, h4, h5, h6⟩
  · intro p e s m args below meth c s₁ B hml0 hP _
    obtain ⟨rfl, hx, hbd, hgv⟩ := hP
    obtain ⟨scr, harrAt, hlist, hof, hsmall⟩ := hx
    obtain ⟨hcb, hkn, -, -⟩ := State.arrayAt?_spec harrAt
    have hown : s.vm.findClass R_law = some m.cls := findClass_of_methodNamed B.named
    have hts0 : ∀ c ∈ (Jvm.Cond.code x code maxLocals ret :: tables_1), c.before #[Value.ref b] s = true := atoms_spec (ws := Jvm.Cond.code x code maxLocals ret :: tables_1) B.pre
    have hts : ∀ w ∈ lw_tbl, w.before #[Value.ref b] s = true := k2_hts_sels lw_privs (fun w hw => hts0 w (List.mem_cons_of_mem _ hw)) lw_privs_ok
    have hml : c.maxLocals = 12 := B.maxLocals_eq (hts0 _ List.mem_cons_self)
    have X₀ : Stand p l e room_1 s m #[Value.ref b] below meth c s₁ [] 0 0 := Stand.of_body B
    have hh0 : s₁.heap = s.heap := by rw [B.state]; rfl
    have hsz : scr.slots.size = xs.length := by rw [← Array.length_toList, hlist, List.length_map]
    have hval : ∀ j : Nat, j < xs.length → scr.slots[j]? = some (.int (xs.getD j 0)) := fun j hj => by
      rw [← Array.getElem?_toList, hlist]
      simp [hj]
    have hbl : b < s.heap.size := (Array.getElem?_eq_some_iff.mp hcb).1
    have hX : va_X b xs.length (fun j => xs.getD j 0) s s.heap := ⟨scr, hcb, hof, hkn, hsz, hval⟩
    have K : W p l e room_1 s m #[Value.ref b] below meth c s₁.heap [] 0 0 (lw_Z below #[Value.ref b] s) (entryFrame m ([Value.ref b] : List Value).toArray 12) := by
      rw [hh0]
      exact whole_start l hflags hbd ⟨B.exec, B.bytes, B.returns, hml, hown, hts, hX, hbl, B.notSynchronized, hgv⟩
    obtain ⟨t, a1, o, b1, b2, b3⟩ := K s₁ rfl X₀
    exact ⟨t, o, a1, b1, b2, b3⟩
theorem lw_pre_spec {args : Array Value} {s : State} (h : (Jvm.Cond.and given_1 narrow_1).before args s = true) (hr : rest_1_c.before args s = true) : ∃ (b : Addr) (xs : List Int32), lw_P b xs args s := by
  have hs := flat_of_before _ h
  have hq := flat_of_before _ hr
  have hc : (Cond.count 1).before args s = true := hs _ (by decide +kernel)
  have harr : (Cond.arrayOf (.arg 0) .int).before args s = true := hs _ (by decide +kernel)
  have hle : (Cond.le (.length (.arg 0)) (.int 96)).before args s = true := hs _ (by decide +kernel)
  have hlen : (Cond.isInt (.length (.arg 0))).before args s = true := hq _ (by decide +kernel)
  have hall : (Cond.all (.arg 0) (.isInt (.elem (.arg 0) (.index 0)))).before args s = true := hq _ (by decide +kernel)
  obtain ⟨b, xs, hb, hx⟩ := State.ints_of_pre rfl harr hlen hall
  have hsm : xs.length < 2 ^ 31 := hx.choose_spec.2.2.2
  have hev : (Term.length (.arg 0)).eval args s none [] s = some (.int xs.length.toInt32) := hx.length_eval hb
  have hv := Cond.le_ints hev (show (Term.int 96).eval args s none [] s = some (.int 96) from rfl)
  have hd : xs.length.toInt32 ≤ 96 := by
    simpa [Cond.before, Cond.holds, hv] using hle
  have hN : xs.length ≤ 96 := (Int32.ofNat_le_ofNat hsm (by decide)).mp (show Int32.ofNat xs.length ≤ Int32.ofNat 96 from hd)
  exact ⟨b, xs, Cond.one_arg hc (show args[0]? = some (.ref b) from hb), hx, hN, h⟩
theorem lw_comes (l : Launch) (hflags : l.flags = flags0) : Comes l x (Jvm.Cond.code x code maxLocals ret :: tables_1) room_1 (fun tb e args s => Calls_1 tb e args s ∧ rest_1 tb e args s ∧ Pre_1 tb e args s)
    (fun _ _ args s o t => lw_Q args s o t) := by
  intro p e ha hc hk s m args below hf hfit hheap happ hpre
  obtain ⟨b, xs, hP⟩ := lw_pre_spec hpre.2.2 hpre.2.1
  obtain ⟨k, o, h1, h2, h3, hQ⟩ := lw_walk l hflags b xs p e ha hc hk s m args below hf ((Spec.applies_iff_loose hf).mp happ).1 hP trivial
  exact ⟨k, o, h1, h2, h3, hQ⟩
theorem lw_frame {s t : State} {o : Outcome} {args : Array Value} (h : Framed s o t [] 1200192 5500522) :
    Framed s o t (fieldLocs frame_1_writes args s ++ arrayLocs frame_1_arrays args s ++ staticLocs frame_1_statics s) 1200192 5500522 := h
theorem lw_limb (L : Cond) (hL : ∀ (args : Array Value) (s t : State), L.after args s (.returned (some (.int 1))) t = true) :
    ArmFor flags0 classFile x code maxLocals ret World_1 tables_1 room_1 Calls_1 rest_1 Pre_1
      (fun tb e a s o t => postC L tb e a s o t ∧ Framed s o t (fieldLocs frame_1_writes a s ++ arrayLocs frame_1_arrays a s ++ staticLocs frame_1_statics s) 1200192 5500522) := by
  intro l hflags _ _ p e ha hc hk s m args below hf hfit hheap happ hpre
  obtain ⟨k, o, h1, h2, h3, rfl, hF⟩ := lw_comes l hflags p e ha hc hk s m args below hf hfit hheap happ hpre
  exact ⟨k, _, h1, h2, h3, hL args s _, lw_frame hF⟩
theorem i_vc : Claimed_1_1 ∧ Claimed_1_2 := ⟨lw_limb limb_1_1 (fun args s t => by simp [limb_1_1, Cond.after, Cond.holds, Cond.value]), lw_limb limb_1_2 (fun args s t => Cond.after_iff.mpr (by
  first | (rw [show limb_1_2 = Cond.eq .result (.int 1) from rfl, Cond.eq_ints (x := 1) (y := 1) rfl rfl]; simp; done) | (simp [limb_1_2, Cond.value, Term.eval]; done)))⟩
end
