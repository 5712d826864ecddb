section
-- ===== PART A: goes FIRST, ahead of the names: the tables' words, and 'selects' of the private methods out of them =====
/-- a private method of a class that the tables say can be made, by its rows of tables_1 -/
def lw_okq (q : MethodName × Nat) : Prop := (q.1.cls ≠ "java/lang/invoke/MethodHandle" ∧ q.1.cls ≠ "java/lang/invoke/VarHandle") ∧ Cond.instantiable q.1.cls q.2 ∈ tables_1 ∧ Cond.privateMethod q.1 ∈ tables_1 ∧ Cond.instanceMethod q.1 ∈ tables_1
set_option maxRecDepth 100000
theorem lw_p0 : lw_okq (⟨"IndirectSortDesk", "from", "(I)I"⟩, 2) := ⟨⟨by decide +kernel, by decide +kernel⟩, List.mem_of_getElem? (i := 9) rfl, List.mem_of_getElem? (i := 51) rfl, List.mem_of_getElem? (i := 52) rfl⟩
theorem lw_p1 : lw_okq (⟨"IndirectSortDesk", "to", "(II)I"⟩, 2) := ⟨⟨by decide +kernel, by decide +kernel⟩, List.mem_of_getElem? (i := 9) rfl, List.mem_of_getElem? (i := 55) rfl, List.mem_of_getElem? (i := 56) rfl⟩
theorem lw_p2 : lw_okq (⟨"IndirectSortDesk", "fresh", "(II)V"⟩, 2) := ⟨⟨by decide +kernel, by decide +kernel⟩, List.mem_of_getElem? (i := 9) rfl, List.mem_of_getElem? (i := 59) rfl, List.mem_of_getElem? (i := 60) rfl⟩
theorem lw_p3 : lw_okq (⟨"IndirectSortDeskModel", "order", "(II)V"⟩, 2) := ⟨⟨by decide +kernel, by decide +kernel⟩, List.mem_of_getElem? (i := 114) rfl, List.mem_of_getElem? (i := 162) rfl, List.mem_of_getElem? (i := 163) rfl⟩
def lw_privs_1 : List (MethodName × Nat) := [(⟨"IndirectSortDesk", "from", "(I)I"⟩, 2), (⟨"IndirectSortDesk", "to", "(II)I"⟩, 2), (⟨"IndirectSortDesk", "fresh", "(II)V"⟩, 2), (⟨"IndirectSortDeskModel", "order", "(II)V"⟩, 2)]
theorem lw_r1 : ∀ q ∈ lw_privs_1, lw_okq q := List.forall_mem_cons.mpr ⟨lw_p0, List.forall_mem_cons.mpr ⟨lw_p1, List.forall_mem_cons.mpr ⟨lw_p2, List.forall_mem_cons.mpr ⟨lw_p3, fun _ h => absurd h List.not_mem_nil⟩⟩⟩⟩
def lw_privs : List (MethodName × Nat) := lw_privs_1
def lw_tbl : List Cond := k2_sels lw_privs ++ tables_1
theorem lw_privs_ok : ∀ q ∈ lw_privs, lw_okq q := lw_r1
-- ===== ONE list of words for every method: the tables' words that hold all through a run =====
def lw_all : List Cond := lw_tbl.filter goodWord
/-- a word of the tables by its place: claim/WORDS.tsv -/
theorem lw_w {w : Cond} (i : Nat) (h : lw_tbl[i]? = some w) (g : goodWord w = true) : w ∈ lw_all := List.mem_filter.mpr ⟨List.mem_of_getElem? h, g⟩
theorem lw_all_tbl {w : Cond} (h : w ∈ lw_all) : w ∈ lw_tbl := (List.mem_filter.mp h).1
theorem lw_self : GoodIn lw_all lw_all := fun w h => ⟨h, good_of_word (List.mem_filter.mp h).2⟩
/-- a class's field words, by their places -/
theorem lw_in (ws : List Cond) (ps : List Nat) (hp : ws = ps.filterMap (fun i => lw_tbl[i]?)) (hg : ws.all goodWord = true) : ∀ w ∈ ws, w ∈ lw_all := by
  intro w h
  have h1 := List.all_eq_true.mp hg w h
  rw [hp] at h
  obtain ⟨i, -, hi⟩ := List.mem_filterMap.mp h
  exact lw_w i hi h1
/-- the words of a contract for the method y with code b, L locals, answer r -/
abbrev ws_ (y : MethodName) (b : ByteArray) (L : Nat) (r : Option FieldType) : List Cond := Cond.code y b L r :: lw_all
theorem lw_meth {y : MethodName} {b : ByteArray} {L : Nat} {r : Option FieldType} (h : Cond.code y b L r ∈ lw_all) : GoodIn lw_all (ws_ y b L r) := by
  intro w hw
  rcases List.mem_cons.mp hw with e | e
  · rw [e]
    exact lw_self _ h
  · exact lw_self _ e
theorem lw_app {a c : List Cond} (ha : ∀ w ∈ a, w ∈ lw_all) (hc : GoodIn lw_all c) : GoodIn lw_all (a ++ c) := by
  intro w hw
  rcases List.mem_append.mp hw with e | e
  · exact lw_self w (ha w e)
  · exact hc w e
/-- what a call through an object asks: cwV n hts (lw_V ..) -/
theorem lw_V {own : String} {idx : Nat} {C : String} {y : MethodName} {b : ByteArray} {L : Nat} {r : Option FieldType} (h1 : Cond.methodLink own idx y ∈ lw_all) (h2 : Cond.instanceMethod y ∈ lw_all) (h3 : Cond.selects C y y ∈ lw_all) (h4 : Cond.initialized C ∈ lw_all) (h5 : Cond.code y b L r ∈ lw_all) : GoodIn lw_all (wsV own idx C y (ws_ y b L r)) := by
  refine lw_app ?_ (lw_meth h5)
  intro w hw
  simp only [List.mem_cons, List.not_mem_nil, or_false] at hw
  rcases hw with e | e | e | e
  · rw [e]; exact h1
  · rw [e]; exact h2
  · rw [e]; exact h3
  · rw [e]; exact h4
/-- what a static call asks: va_cwS n hts (lw_S ..) -/
theorem lw_S {own : String} {idx : Nat} {y : MethodName} {b : ByteArray} {L : Nat} {r : Option FieldType} (h1 : Cond.methodLink own idx y ∈ lw_all) (h2 : Cond.static y ∈ lw_all) (h3 : Cond.initialized y.cls ∈ lw_all) (h4 : Cond.code y b L r ∈ lw_all) : GoodIn lw_all (va_wsS own idx y (ws_ y b L r)) := by
  refine lw_app ?_ (lw_meth h4)
  intro w hw
  simp only [List.mem_cons, List.not_mem_nil, or_false] at hw
  rcases hw with e | e | e
  · rw [e]; exact h1
  · rw [e]; exact h2
  · rw [e]; exact h3
/-- the words of a contract for a method WITH HANDLERS (hh: its table) -/
abbrev wsW_ (y : MethodName) (b : ByteArray) (L : Nat) (r : Option FieldType) (hh : List (Nat × Nat × Nat × Nat)) : List Cond := Cond.codeWith y b L r hh :: lw_all
theorem lw_methW {y : MethodName} {b : ByteArray} {L : Nat} {r : Option FieldType} {hh : List (Nat × Nat × Nat × Nat)} (h : Cond.codeWith y b L r hh ∈ lw_all) : GoodIn lw_all (wsW_ y b L r hh) := by
  intro w hw
  rcases List.mem_cons.mp hw with e | e
  · rw [e]
    exact lw_self _ h
  · exact lw_self _ e
/-- any list of words by their places (lw_in), good -/
theorem lw_good {ws : List Cond} (h : ∀ w ∈ ws, w ∈ lw_all) : GoodIn lw_all ws := fun w hw => lw_self w (h w hw)
/-- what a call of a method with handlers asks: vx_cwVW n hts (lw_VW ..), vx_cwSW n hts (lw_SW ..) -/
theorem lw_VW {own : String} {idx : Nat} {C : String} {y : MethodName} {b : ByteArray} {L : Nat} {r : Option FieldType} {hh : List (Nat × Nat × Nat × Nat)} (h1 : Cond.methodLink own idx y ∈ lw_all) (h2 : Cond.instanceMethod y ∈ lw_all) (h3 : Cond.selects C y y ∈ lw_all) (h4 : Cond.initialized C ∈ lw_all) (h5 : Cond.codeWith y b L r hh ∈ lw_all) : GoodIn lw_all (wsV own idx C y (wsW_ y b L r hh)) := by
  refine lw_app ?_ (lw_methW h5)
  intro w hw
  simp only [List.mem_cons, List.not_mem_nil, or_false] at hw
  rcases hw with e | e | e | e
  · rw [e]; exact h1
  · rw [e]; exact h2
  · rw [e]; exact h3
  · rw [e]; exact h4
theorem lw_SW {own : String} {idx : Nat} {y : MethodName} {b : ByteArray} {L : Nat} {r : Option FieldType} {hh : List (Nat × Nat × Nat × Nat)} (h1 : Cond.methodLink own idx y ∈ lw_all) (h2 : Cond.static y ∈ lw_all) (h3 : Cond.initialized y.cls ∈ lw_all) (h4 : Cond.codeWith y b L r hh ∈ lw_all) : GoodIn lw_all (va_wsS own idx y (wsW_ y b L r hh)) := by
  refine lw_app ?_ (lw_methW h4)
  intro w hw
  simp only [List.mem_cons, List.not_mem_nil, or_false] at hw
  rcases hw with e | e | e
  · rw [e]; exact h1
  · rw [e]; exact h2
  · rw [e]; exact h3
/-- a word by its place in its run of the tables -/
theorem lw_at {r : List Cond} (hr : ∀ w ∈ r, w ∈ lw_tbl) {w : Cond} (i : Nat) (h : r[i]? = some w) : w ∈ lw_tbl := hr w (List.mem_of_getElem? h)
theorem lw_g {w : Cond} (h : w ∈ lw_tbl) (g : goodWord w = true) : w ∈ lw_all := List.mem_filter.mpr ⟨h, g⟩
theorem lw_ms : ∀ w ∈ k2_sels lw_privs, w ∈ lw_tbl := fun w h => show w ∈ k2_sels lw_privs ++ tables_1 from List.mem_append_left _ h
theorem lw_m0 : ∀ w ∈ tables_1, w ∈ lw_tbl := fun w h => show w ∈ k2_sels lw_privs ++ tables_1 from List.mem_append_right (k2_sels lw_privs) h
theorem qs0 : (Cond.selects "IndirectSortDesk" ⟨"IndirectSortDesk", "from", "(I)I"⟩ ⟨"IndirectSortDesk", "from", "(I)I"⟩) ∈ lw_all := lw_g (lw_at lw_ms 0 rfl) rfl
theorem qs1 : (Cond.selects "IndirectSortDesk" ⟨"IndirectSortDesk", "to", "(II)I"⟩ ⟨"IndirectSortDesk", "to", "(II)I"⟩) ∈ lw_all := lw_g (lw_at lw_ms 1 rfl) rfl
theorem qs2 : (Cond.selects "IndirectSortDesk" ⟨"IndirectSortDesk", "fresh", "(II)V"⟩ ⟨"IndirectSortDesk", "fresh", "(II)V"⟩) ∈ lw_all := lw_g (lw_at lw_ms 2 rfl) rfl
theorem qs3 : (Cond.selects "IndirectSortDeskModel" ⟨"IndirectSortDeskModel", "order", "(II)V"⟩ ⟨"IndirectSortDeskModel", "order", "(II)V"⟩) ∈ lw_all := lw_g (lw_at lw_ms 3 rfl) rfl
-- ===== end of PART A; then your names; then what follows =====
/-! DECODE ROWS BY BYTES: one lemma an opcode; a method's code is cut into short pieces once, and a row reads its own piece alone. -/
set_option maxRecDepth 100000
/-- the code has just these bytes from pc on -/
def DkAt (code : ByteArray) (pc : Nat) (bs : List UInt8) : Prop := ∀ (j : Nat) (b : UInt8), bs[j]? = some b → code.data.toList[pc + j]? = some b
/-- the piece W has the bytes bs from its place j on -/
def dkIn (W : List UInt8) (j : Nat) (bs : List UInt8) : Bool := decide ((W.drop j).take bs.length = bs)
theorem dk_seg {l W T : List UInt8} {o o2 : Nat} (h : l.drop o = W ++ T) (n : Nat) (hn : W.length = n) (ho : o + n = o2) : l.drop o2 = T := by
  subst ho
  rw [← List.drop_drop, h, List.drop_left' hn]
theorem dk_at {code : ByteArray} {W T bs : List UInt8} {o pc : Nat} (h : code.data.toList.drop o = W ++ T) (j : Nat) (hp : o + j = pc) (hw : dkIn W j bs = true) : DkAt code pc bs := by
  subst hp
  intro i b e
  have h1 := of_decide_eq_true hw
  have h2 : i < bs.length := (List.getElem?_eq_some_iff.mp e).1
  have h3 : W[j + i]? = some b := by
    rw [← h1, List.getElem?_take, if_pos h2, List.getElem?_drop] at e
    exact e
  have h4 : j + i < W.length := (List.getElem?_eq_some_iff.mp h3).1
  have h5 : (code.data.toList.drop o)[j + i]? = some b := by
    rw [h, List.getElem?_append_left h4]
    exact h3
  rw [List.getElem?_drop, ← Nat.add_assoc] at h5
  exact h5
theorem dk_u1 {A : ByteArray} {p : Nat} {b : UInt8} (h : A.data.toList[p]? = some b) : (Reader.u1 : Reader DecodeError Nat) A p = .ok (b.toNat, p + 1) := by
  obtain ⟨h1, h2⟩ := List.getElem?_eq_some_iff.mp h
  have h3 : p < A.size := by simpa using h1
  have h4 : A[p]'h3 = b := h2
  have e : (Reader.u1 : Reader DecodeError Nat) A p = (if h : p < A.size then .ok (A[p].toNat, p + 1) else .error (HasTruncated.truncated p)) := by
    show (do if h : p < A.size then do set (p + 1); Pure.pure A[p].toNat else MonadExcept.throw (HasTruncated.truncated p) : Reader DecodeError Nat) A p = _
    by_cases hi : p < A.size
    · rw [dif_pos hi, dif_pos hi]; rfl
    · rw [dif_neg hi, dif_neg hi]; rfl
  rw [e, dif_pos h3, h4]
theorem dk_bind {α β : Type} {r : Reader DecodeError α} {f : α → Reader DecodeError β} {A : ByteArray} {p s : Nat} {a : α} (h : r A p = .ok (a, s)) : (r >>= f) A p = f a A s := by
  show (do let (a, s) ← r A p; f a A s : Except DecodeError (β × Nat)) = _
  rw [h]
  rfl
theorem dk_map {α β : Type} {r : Reader DecodeError α} {g : α → β} {A : ByteArray} {p s : Nat} {a : α} (h : r A p = .ok (a, s)) : (g <$> r) A p = .ok (g a, s) := by
  show (do let (a, s) ← r A p; .ok (g a, s) : Except DecodeError (β × Nat)) = _
  rw [h]
  rfl
theorem dk_u2 {A : ByteArray} {p : Nat} {a b : UInt8} (h : A.data.toList[p]? = some a) (h2 : A.data.toList[p + 1]? = some b) : (Reader.u2 : Reader DecodeError Nat) A p = .ok (a.toNat * 256 + b.toNat, p + 2) := by
  show (Reader.u1 >>= fun hi => Reader.u1 >>= fun lo => Pure.pure (hi * 256 + lo) : Reader DecodeError Nat) A p = _
  rw [dk_bind (dk_u1 h), dk_bind (dk_u1 h2)]
  rfl
theorem dk_of {code : ByteArray} {pc n : Nat} {i : Instr} (h : Decoder.instr pc code pc = .ok (i, pc + n)) : decode code pc = .ok (i, n) := by
  have e : decode code pc = (match Decoder.instr pc code pc with | .error x => .error x | .ok (j, s) => .ok (j, s - pc)) := by
    show (do let (j, s) ← Decoder.instr pc code pc; Pure.pure (j, s - pc) : Except DecodeError (Instr × Nat)) = _
    cases Decoder.instr pc code pc <;> rfl
  rw [e, h]
  show Except.ok (i, pc + n - pc) = _
  rw [Nat.add_sub_cancel_left]
theorem dk_1 {code : ByteArray} {pc : Nat} (h : DkAt code pc [1]) : decode code pc = .ok (.aconst_null, 1) := dk_of ((dk_bind (dk_u1 (h 0 _ rfl))).trans rfl)
theorem dk_2 {code : ByteArray} {pc : Nat} (h : DkAt code pc [2]) : decode code pc = .ok (.iconst (-1), 1) := dk_of ((dk_bind (dk_u1 (h 0 _ rfl))).trans rfl)
theorem dk_3 {code : ByteArray} {pc : Nat} (h : DkAt code pc [3]) : decode code pc = .ok (.iconst 0, 1) := dk_of ((dk_bind (dk_u1 (h 0 _ rfl))).trans rfl)
theorem dk_4 {code : ByteArray} {pc : Nat} (h : DkAt code pc [4]) : decode code pc = .ok (.iconst 1, 1) := dk_of ((dk_bind (dk_u1 (h 0 _ rfl))).trans rfl)
theorem dk_5 {code : ByteArray} {pc : Nat} (h : DkAt code pc [5]) : decode code pc = .ok (.iconst 2, 1) := dk_of ((dk_bind (dk_u1 (h 0 _ rfl))).trans rfl)
theorem dk_6 {code : ByteArray} {pc : Nat} (h : DkAt code pc [6]) : decode code pc = .ok (.iconst 3, 1) := dk_of ((dk_bind (dk_u1 (h 0 _ rfl))).trans rfl)
theorem dk_7 {code : ByteArray} {pc : Nat} (h : DkAt code pc [7]) : decode code pc = .ok (.iconst 4, 1) := dk_of ((dk_bind (dk_u1 (h 0 _ rfl))).trans rfl)
theorem dk_16 {code : ByteArray} {pc : Nat} (a : UInt8) (h : DkAt code pc [16, a]) : decode code pc = .ok (.bipush (Reader.signed 8 a.toNat), 2) := dk_of ((dk_bind (dk_u1 (h 0 _ rfl))).trans ((dk_bind (dk_map (dk_u1 (h 1 _ rfl)))).trans rfl))
theorem dk_17 {code : ByteArray} {pc : Nat} (a b : UInt8) (h : DkAt code pc [17, a, b]) : decode code pc = .ok (.sipush (Reader.signed 16 (a.toNat * 256 + b.toNat)), 3) := dk_of ((dk_bind (dk_u1 (h 0 _ rfl))).trans ((dk_bind (dk_map (dk_u2 (h 1 _ rfl) (h 2 _ rfl)))).trans rfl))
theorem dk_18 {code : ByteArray} {pc : Nat} (a : UInt8) (h : DkAt code pc [18, a]) : decode code pc = .ok (.ldc a.toNat, 2) := dk_of ((dk_bind (dk_u1 (h 0 _ rfl))).trans ((dk_bind (dk_u1 (h 1 _ rfl))).trans rfl))
theorem dk_21 {code : ByteArray} {pc : Nat} (a : UInt8) (h : DkAt code pc [21, a]) : decode code pc = .ok (.iload a.toNat, 2) := dk_of ((dk_bind (dk_u1 (h 0 _ rfl))).trans ((dk_bind (dk_u1 (h 1 _ rfl))).trans rfl))
theorem dk_25 {code : ByteArray} {pc : Nat} (a : UInt8) (h : DkAt code pc [25, a]) : decode code pc = .ok (.aload a.toNat, 2) := dk_of ((dk_bind (dk_u1 (h 0 _ rfl))).trans ((dk_bind (dk_u1 (h 1 _ rfl))).trans rfl))
theorem dk_26 {code : ByteArray} {pc : Nat} (h : DkAt code pc [26]) : decode code pc = .ok (.iload_n 0, 1) := dk_of ((dk_bind (dk_u1 (h 0 _ rfl))).trans rfl)
theorem dk_27 {code : ByteArray} {pc : Nat} (h : DkAt code pc [27]) : decode code pc = .ok (.iload_n 1, 1) := dk_of ((dk_bind (dk_u1 (h 0 _ rfl))).trans rfl)
theorem dk_28 {code : ByteArray} {pc : Nat} (h : DkAt code pc [28]) : decode code pc = .ok (.iload_n 2, 1) := dk_of ((dk_bind (dk_u1 (h 0 _ rfl))).trans rfl)
theorem dk_29 {code : ByteArray} {pc : Nat} (h : DkAt code pc [29]) : decode code pc = .ok (.iload_n 3, 1) := dk_of ((dk_bind (dk_u1 (h 0 _ rfl))).trans rfl)
theorem dk_42 {code : ByteArray} {pc : Nat} (h : DkAt code pc [42]) : decode code pc = .ok (.aload_n 0, 1) := dk_of ((dk_bind (dk_u1 (h 0 _ rfl))).trans rfl)
theorem dk_43 {code : ByteArray} {pc : Nat} (h : DkAt code pc [43]) : decode code pc = .ok (.aload_n 1, 1) := dk_of ((dk_bind (dk_u1 (h 0 _ rfl))).trans rfl)
theorem dk_44 {code : ByteArray} {pc : Nat} (h : DkAt code pc [44]) : decode code pc = .ok (.aload_n 2, 1) := dk_of ((dk_bind (dk_u1 (h 0 _ rfl))).trans rfl)
theorem dk_46 {code : ByteArray} {pc : Nat} (h : DkAt code pc [46]) : decode code pc = .ok (.iaload, 1) := dk_of ((dk_bind (dk_u1 (h 0 _ rfl))).trans rfl)
theorem dk_54 {code : ByteArray} {pc : Nat} (a : UInt8) (h : DkAt code pc [54, a]) : decode code pc = .ok (.istore a.toNat, 2) := dk_of ((dk_bind (dk_u1 (h 0 _ rfl))).trans ((dk_bind (dk_u1 (h 1 _ rfl))).trans rfl))
theorem dk_58 {code : ByteArray} {pc : Nat} (a : UInt8) (h : DkAt code pc [58, a]) : decode code pc = .ok (.astore a.toNat, 2) := dk_of ((dk_bind (dk_u1 (h 0 _ rfl))).trans ((dk_bind (dk_u1 (h 1 _ rfl))).trans rfl))
theorem dk_60 {code : ByteArray} {pc : Nat} (h : DkAt code pc [60]) : decode code pc = .ok (.istore_n 1, 1) := dk_of ((dk_bind (dk_u1 (h 0 _ rfl))).trans rfl)
theorem dk_61 {code : ByteArray} {pc : Nat} (h : DkAt code pc [61]) : decode code pc = .ok (.istore_n 2, 1) := dk_of ((dk_bind (dk_u1 (h 0 _ rfl))).trans rfl)
theorem dk_62 {code : ByteArray} {pc : Nat} (h : DkAt code pc [62]) : decode code pc = .ok (.istore_n 3, 1) := dk_of ((dk_bind (dk_u1 (h 0 _ rfl))).trans rfl)
theorem dk_76 {code : ByteArray} {pc : Nat} (h : DkAt code pc [76]) : decode code pc = .ok (.astore_n 1, 1) := dk_of ((dk_bind (dk_u1 (h 0 _ rfl))).trans rfl)
theorem dk_77 {code : ByteArray} {pc : Nat} (h : DkAt code pc [77]) : decode code pc = .ok (.astore_n 2, 1) := dk_of ((dk_bind (dk_u1 (h 0 _ rfl))).trans rfl)
theorem dk_79 {code : ByteArray} {pc : Nat} (h : DkAt code pc [79]) : decode code pc = .ok (.iastore, 1) := dk_of ((dk_bind (dk_u1 (h 0 _ rfl))).trans rfl)
theorem dk_89 {code : ByteArray} {pc : Nat} (h : DkAt code pc [89]) : decode code pc = .ok (.dup, 1) := dk_of ((dk_bind (dk_u1 (h 0 _ rfl))).trans rfl)
theorem dk_91 {code : ByteArray} {pc : Nat} (h : DkAt code pc [91]) : decode code pc = .ok (.dup_x2, 1) := dk_of ((dk_bind (dk_u1 (h 0 _ rfl))).trans rfl)
theorem dk_92 {code : ByteArray} {pc : Nat} (h : DkAt code pc [92]) : decode code pc = .ok (.dup2, 1) := dk_of ((dk_bind (dk_u1 (h 0 _ rfl))).trans rfl)
theorem dk_96 {code : ByteArray} {pc : Nat} (h : DkAt code pc [96]) : decode code pc = .ok (.iadd, 1) := dk_of ((dk_bind (dk_u1 (h 0 _ rfl))).trans rfl)
theorem dk_100 {code : ByteArray} {pc : Nat} (h : DkAt code pc [100]) : decode code pc = .ok (.isub, 1) := dk_of ((dk_bind (dk_u1 (h 0 _ rfl))).trans rfl)
theorem dk_104 {code : ByteArray} {pc : Nat} (h : DkAt code pc [104]) : decode code pc = .ok (.imul, 1) := dk_of ((dk_bind (dk_u1 (h 0 _ rfl))).trans rfl)
theorem dk_108 {code : ByteArray} {pc : Nat} (h : DkAt code pc [108]) : decode code pc = .ok (.idiv, 1) := dk_of ((dk_bind (dk_u1 (h 0 _ rfl))).trans rfl)
theorem dk_112 {code : ByteArray} {pc : Nat} (h : DkAt code pc [112]) : decode code pc = .ok (.irem, 1) := dk_of ((dk_bind (dk_u1 (h 0 _ rfl))).trans rfl)
theorem dk_124 {code : ByteArray} {pc : Nat} (h : DkAt code pc [124]) : decode code pc = .ok (.iushr, 1) := dk_of ((dk_bind (dk_u1 (h 0 _ rfl))).trans rfl)
theorem dk_126 {code : ByteArray} {pc : Nat} (h : DkAt code pc [126]) : decode code pc = .ok (.iand, 1) := dk_of ((dk_bind (dk_u1 (h 0 _ rfl))).trans rfl)
theorem dk_130 {code : ByteArray} {pc : Nat} (h : DkAt code pc [130]) : decode code pc = .ok (.ixor, 1) := dk_of ((dk_bind (dk_u1 (h 0 _ rfl))).trans rfl)
theorem dk_132 {code : ByteArray} {pc : Nat} (a b : UInt8) (h : DkAt code pc [132, a, b]) : decode code pc = .ok (.iinc a.toNat (Reader.signed 8 b.toNat), 3) := dk_of ((dk_bind (dk_u1 (h 0 _ rfl))).trans ((dk_bind (dk_u1 (h 1 _ rfl))).trans ((dk_bind (dk_map (dk_u1 (h 2 _ rfl)))).trans rfl)))
theorem dk_153 {code : ByteArray} {pc : Nat} (a b : UInt8) (h : DkAt code pc [153, a, b]) : decode code pc = .ok (.ifCond .eq (Reader.signed 16 (a.toNat * 256 + b.toNat)), 3) := dk_of ((dk_bind (dk_u1 (h 0 _ rfl))).trans ((dk_bind (dk_map (dk_u2 (h 1 _ rfl) (h 2 _ rfl)))).trans rfl))
theorem dk_154 {code : ByteArray} {pc : Nat} (a b : UInt8) (h : DkAt code pc [154, a, b]) : decode code pc = .ok (.ifCond .ne (Reader.signed 16 (a.toNat * 256 + b.toNat)), 3) := dk_of ((dk_bind (dk_u1 (h 0 _ rfl))).trans ((dk_bind (dk_map (dk_u2 (h 1 _ rfl) (h 2 _ rfl)))).trans rfl))
theorem dk_155 {code : ByteArray} {pc : Nat} (a b : UInt8) (h : DkAt code pc [155, a, b]) : decode code pc = .ok (.ifCond .lt (Reader.signed 16 (a.toNat * 256 + b.toNat)), 3) := dk_of ((dk_bind (dk_u1 (h 0 _ rfl))).trans ((dk_bind (dk_map (dk_u2 (h 1 _ rfl) (h 2 _ rfl)))).trans rfl))
theorem dk_156 {code : ByteArray} {pc : Nat} (a b : UInt8) (h : DkAt code pc [156, a, b]) : decode code pc = .ok (.ifCond .ge (Reader.signed 16 (a.toNat * 256 + b.toNat)), 3) := dk_of ((dk_bind (dk_u1 (h 0 _ rfl))).trans ((dk_bind (dk_map (dk_u2 (h 1 _ rfl) (h 2 _ rfl)))).trans rfl))
theorem dk_157 {code : ByteArray} {pc : Nat} (a b : UInt8) (h : DkAt code pc [157, a, b]) : decode code pc = .ok (.ifCond .gt (Reader.signed 16 (a.toNat * 256 + b.toNat)), 3) := dk_of ((dk_bind (dk_u1 (h 0 _ rfl))).trans ((dk_bind (dk_map (dk_u2 (h 1 _ rfl) (h 2 _ rfl)))).trans rfl))
theorem dk_158 {code : ByteArray} {pc : Nat} (a b : UInt8) (h : DkAt code pc [158, a, b]) : decode code pc = .ok (.ifCond .le (Reader.signed 16 (a.toNat * 256 + b.toNat)), 3) := dk_of ((dk_bind (dk_u1 (h 0 _ rfl))).trans ((dk_bind (dk_map (dk_u2 (h 1 _ rfl) (h 2 _ rfl)))).trans rfl))
theorem dk_159 {code : ByteArray} {pc : Nat} (a b : UInt8) (h : DkAt code pc [159, a, b]) : decode code pc = .ok (.if_icmp .eq (Reader.signed 16 (a.toNat * 256 + b.toNat)), 3) := dk_of ((dk_bind (dk_u1 (h 0 _ rfl))).trans ((dk_bind (dk_map (dk_u2 (h 1 _ rfl) (h 2 _ rfl)))).trans rfl))
theorem dk_160 {code : ByteArray} {pc : Nat} (a b : UInt8) (h : DkAt code pc [160, a, b]) : decode code pc = .ok (.if_icmp .ne (Reader.signed 16 (a.toNat * 256 + b.toNat)), 3) := dk_of ((dk_bind (dk_u1 (h 0 _ rfl))).trans ((dk_bind (dk_map (dk_u2 (h 1 _ rfl) (h 2 _ rfl)))).trans rfl))
theorem dk_161 {code : ByteArray} {pc : Nat} (a b : UInt8) (h : DkAt code pc [161, a, b]) : decode code pc = .ok (.if_icmp .lt (Reader.signed 16 (a.toNat * 256 + b.toNat)), 3) := dk_of ((dk_bind (dk_u1 (h 0 _ rfl))).trans ((dk_bind (dk_map (dk_u2 (h 1 _ rfl) (h 2 _ rfl)))).trans rfl))
theorem dk_162 {code : ByteArray} {pc : Nat} (a b : UInt8) (h : DkAt code pc [162, a, b]) : decode code pc = .ok (.if_icmp .ge (Reader.signed 16 (a.toNat * 256 + b.toNat)), 3) := dk_of ((dk_bind (dk_u1 (h 0 _ rfl))).trans ((dk_bind (dk_map (dk_u2 (h 1 _ rfl) (h 2 _ rfl)))).trans rfl))
theorem dk_163 {code : ByteArray} {pc : Nat} (a b : UInt8) (h : DkAt code pc [163, a, b]) : decode code pc = .ok (.if_icmp .gt (Reader.signed 16 (a.toNat * 256 + b.toNat)), 3) := dk_of ((dk_bind (dk_u1 (h 0 _ rfl))).trans ((dk_bind (dk_map (dk_u2 (h 1 _ rfl) (h 2 _ rfl)))).trans rfl))
theorem dk_164 {code : ByteArray} {pc : Nat} (a b : UInt8) (h : DkAt code pc [164, a, b]) : decode code pc = .ok (.if_icmp .le (Reader.signed 16 (a.toNat * 256 + b.toNat)), 3) := dk_of ((dk_bind (dk_u1 (h 0 _ rfl))).trans ((dk_bind (dk_map (dk_u2 (h 1 _ rfl) (h 2 _ rfl)))).trans rfl))
theorem dk_167 {code : ByteArray} {pc : Nat} (a b : UInt8) (h : DkAt code pc [167, a, b]) : decode code pc = .ok (.goto (Reader.signed 16 (a.toNat * 256 + b.toNat)), 3) := dk_of ((dk_bind (dk_u1 (h 0 _ rfl))).trans ((dk_bind (dk_map (dk_u2 (h 1 _ rfl) (h 2 _ rfl)))).trans rfl))
theorem dk_172 {code : ByteArray} {pc : Nat} (h : DkAt code pc [172]) : decode code pc = .ok (.ireturn, 1) := dk_of ((dk_bind (dk_u1 (h 0 _ rfl))).trans rfl)
theorem dk_177 {code : ByteArray} {pc : Nat} (h : DkAt code pc [177]) : decode code pc = .ok (.return_, 1) := dk_of ((dk_bind (dk_u1 (h 0 _ rfl))).trans rfl)
theorem dk_180 {code : ByteArray} {pc : Nat} (a b : UInt8) (h : DkAt code pc [180, a, b]) : decode code pc = .ok (.getfield (a.toNat * 256 + b.toNat), 3) := dk_of ((dk_bind (dk_u1 (h 0 _ rfl))).trans ((dk_bind (dk_u2 (h 1 _ rfl) (h 2 _ rfl))).trans rfl))
theorem dk_181 {code : ByteArray} {pc : Nat} (a b : UInt8) (h : DkAt code pc [181, a, b]) : decode code pc = .ok (.putfield (a.toNat * 256 + b.toNat), 3) := dk_of ((dk_bind (dk_u1 (h 0 _ rfl))).trans ((dk_bind (dk_u2 (h 1 _ rfl) (h 2 _ rfl))).trans rfl))
theorem dk_182 {code : ByteArray} {pc : Nat} (a b : UInt8) (h : DkAt code pc [182, a, b]) : decode code pc = .ok (.invokevirtual (a.toNat * 256 + b.toNat), 3) := dk_of ((dk_bind (dk_u1 (h 0 _ rfl))).trans ((dk_bind (dk_u2 (h 1 _ rfl) (h 2 _ rfl))).trans rfl))
theorem dk_183 {code : ByteArray} {pc : Nat} (a b : UInt8) (h : DkAt code pc [183, a, b]) : decode code pc = .ok (.invokespecial (a.toNat * 256 + b.toNat), 3) := dk_of ((dk_bind (dk_u1 (h 0 _ rfl))).trans ((dk_bind (dk_u2 (h 1 _ rfl) (h 2 _ rfl))).trans rfl))
theorem dk_184 {code : ByteArray} {pc : Nat} (a b : UInt8) (h : DkAt code pc [184, a, b]) : decode code pc = .ok (.invokestatic (a.toNat * 256 + b.toNat), 3) := dk_of ((dk_bind (dk_u1 (h 0 _ rfl))).trans ((dk_bind (dk_u2 (h 1 _ rfl) (h 2 _ rfl))).trans rfl))
theorem dk_187 {code : ByteArray} {pc : Nat} (a b : UInt8) (h : DkAt code pc [187, a, b]) : decode code pc = .ok (.new (a.toNat * 256 + b.toNat), 3) := dk_of ((dk_bind (dk_u1 (h 0 _ rfl))).trans ((dk_bind (dk_u2 (h 1 _ rfl) (h 2 _ rfl))).trans rfl))
theorem dk_188_10 {code : ByteArray} {pc : Nat} (h : DkAt code pc [188, 10]) : decode code pc = .ok (.newarray .int, 2) := dk_of ((dk_bind (dk_u1 (h 0 _ rfl))).trans ((dk_bind (dk_u1 (h 1 _ rfl))).trans rfl))
theorem dk_190 {code : ByteArray} {pc : Nat} (h : DkAt code pc [190]) : decode code pc = .ok (.arraylength, 1) := dk_of ((dk_bind (dk_u1 (h 0 _ rfl))).trans rfl)
theorem q31 : (Jvm.Cond.arrayClass Jvm.ClassFile.FieldType.int) ∈ lw_all := lw_g (lw_at lw_m0 27 rfl) rfl
set_option maxRecDepth 100000
theorem q4 : (Jvm.Cond.initialized "IndirectSortDeskLaw") ∈ lw_all := lw_g (lw_at lw_m0 0 rfl) rfl
set_option maxRecDepth 100000
theorem q12 : (Jvm.Cond.classLink "IndirectSortDeskLaw" (7 : Nat) "IndirectSortDesk") ∈ lw_all := lw_g (lw_at lw_m0 8 rfl) rfl
theorem q14 : (Jvm.Cond.methodLink "IndirectSortDeskLaw" (9 : Nat) ({ cls := "IndirectSortDesk", name := "<init>", desc := "()V" } : Jvm.MethodName)) ∈ lw_all := lw_g (lw_at lw_m0 10 rfl) rfl
theorem q32 : (Jvm.Cond.methodLink "IndirectSortDeskLaw" (13 : Nat) ({ cls := "IndirectSortDesk", name := "anew", desc := "()V" } : Jvm.MethodName)) ∈ lw_all := lw_g (lw_at lw_m0 28 rfl) rfl
theorem q33 : (Jvm.Cond.methodLink "IndirectSortDeskLaw" (17 : Nat) ({ cls := "IndirectSortDesk", name := "set", desc := "(II)V" } : Jvm.MethodName)) ∈ lw_all := lw_g (lw_at lw_m0 29 rfl) rfl
theorem q38 : (Jvm.Cond.methodLink "IndirectSortDeskLaw" (22 : Nat) ({ cls := "IndirectSortDesk", name := "few", desc := "(II)V" } : Jvm.MethodName)) ∈ lw_all := lw_g (lw_at lw_m0 34 rfl) rfl
theorem q42 : (Jvm.Cond.methodLink "IndirectSortDeskLaw" (26 : Nat) ({ cls := "IndirectSortDesk", name := "get", desc := "(I)I" } : Jvm.MethodName)) ∈ lw_all := lw_g (lw_at lw_m0 38 rfl) rfl
theorem q46 : (Jvm.Cond.methodLink "IndirectSortDeskLaw" (31 : Nat) ({ cls := "IndirectSortDesk", name := "place", desc := "(I)I" } : Jvm.MethodName)) ∈ lw_all := lw_g (lw_at lw_m0 42 rfl) rfl
theorem q50 : (Jvm.Cond.methodLink "IndirectSortDeskLaw" (35 : Nat) ({ cls := "IndirectSortDesk", name := "radix", desc := "(II)V" } : Jvm.MethodName)) ∈ lw_all := lw_g (lw_at lw_m0 46 rfl) rfl
theorem q111 : (Jvm.Cond.methodLink "IndirectSortDeskLaw" (39 : Nat) ({ cls := "IndirectSortDesk", name := "quick", desc := "(II)V" } : Jvm.MethodName)) ∈ lw_all := lw_g (lw_at lw_m0 107 rfl) rfl
theorem q117 : (Jvm.Cond.classLink "IndirectSortDeskLaw" (10 : Nat) "IndirectSortDeskModel") ∈ lw_all := lw_g (lw_at lw_m0 113 rfl) rfl
theorem q119 : (Jvm.Cond.methodLink "IndirectSortDeskLaw" (12 : Nat) ({ cls := "IndirectSortDeskModel", name := "<init>", desc := "()V" } : Jvm.MethodName)) ∈ lw_all := lw_g (lw_at lw_m0 115 rfl) rfl
theorem q134 : (Jvm.Cond.methodLink "IndirectSortDeskLaw" (16 : Nat) ({ cls := "IndirectSortDeskModel", name := "anew", desc := "()V" } : Jvm.MethodName)) ∈ lw_all := lw_g (lw_at lw_m0 130 rfl) rfl
theorem q135 : (Jvm.Cond.methodLink "IndirectSortDeskLaw" (21 : Nat) ({ cls := "IndirectSortDeskModel", name := "set", desc := "(II)V" } : Jvm.MethodName)) ∈ lw_all := lw_g (lw_at lw_m0 131 rfl) rfl
theorem q143 : (Jvm.Cond.methodLink "IndirectSortDeskLaw" (25 : Nat) ({ cls := "IndirectSortDeskModel", name := "few", desc := "(II)V" } : Jvm.MethodName)) ∈ lw_all := lw_g (lw_at lw_m0 139 rfl) rfl
theorem q147 : (Jvm.Cond.methodLink "IndirectSortDeskLaw" (30 : Nat) ({ cls := "IndirectSortDeskModel", name := "get", desc := "(I)I" } : Jvm.MethodName)) ∈ lw_all := lw_g (lw_at lw_m0 143 rfl) rfl
theorem q151 : (Jvm.Cond.methodLink "IndirectSortDeskLaw" (34 : Nat) ({ cls := "IndirectSortDeskModel", name := "place", desc := "(I)I" } : Jvm.MethodName)) ∈ lw_all := lw_g (lw_at lw_m0 147 rfl) rfl
theorem q155 : (Jvm.Cond.methodLink "IndirectSortDeskLaw" (38 : Nat) ({ cls := "IndirectSortDeskModel", name := "radix", desc := "(II)V" } : Jvm.MethodName)) ∈ lw_all := lw_g (lw_at lw_m0 151 rfl) rfl
theorem q169 : (Jvm.Cond.methodLink "IndirectSortDeskLaw" (42 : Nat) ({ cls := "IndirectSortDeskModel", name := "quick", desc := "(II)V" } : Jvm.MethodName)) ∈ lw_all := lw_g (lw_at lw_m0 165 rfl) rfl
/-! java/lang/Integer -/
set_option maxRecDepth 100000
def RJ0 : String := "java/lang/Integer"
abbrev cJ0_compare : ByteArray := prog_6_method_40_code
def yJ0_compare : MethodName := ⟨RJ0, "compare", "(II)I"⟩
def dkwJ0_compare_0 : List UInt8 := [26, 27, 162, 0, 7, 2, 167, 0, 13, 26, 27, 160, 0, 7, 3, 167, 0, 4, 4, 172]
abbrev dktJ0_compare_0 : List UInt8 := dkwJ0_compare_0 ++ []
theorem dksJ0_compare_0 : cJ0_compare.data.toList.drop 0 = dktJ0_compare_0 := by decide +kernel
theorem dJ0_compare_0 : decode cJ0_compare 0 = .ok (.iload_n 0, 1) := dk_26 (dk_at dksJ0_compare_0 0 rfl rfl)
theorem dJ0_compare_1 : decode cJ0_compare 1 = .ok (.iload_n 1, 1) := dk_27 (dk_at dksJ0_compare_0 1 rfl rfl)
theorem dJ0_compare_2 : decode cJ0_compare 2 = .ok (.if_icmp .ge 7, 3) := dk_162 0 7 (dk_at dksJ0_compare_0 2 rfl rfl)
theorem dJ0_compare_5 : decode cJ0_compare 5 = .ok (.iconst (-1), 1) := dk_2 (dk_at dksJ0_compare_0 5 rfl rfl)
theorem dJ0_compare_6 : decode cJ0_compare 6 = .ok (.goto 13, 3) := dk_167 0 13 (dk_at dksJ0_compare_0 6 rfl rfl)
theorem dJ0_compare_9 : decode cJ0_compare 9 = .ok (.iload_n 0, 1) := dk_26 (dk_at dksJ0_compare_0 9 rfl rfl)
theorem dJ0_compare_10 : decode cJ0_compare 10 = .ok (.iload_n 1, 1) := dk_27 (dk_at dksJ0_compare_0 10 rfl rfl)
theorem dJ0_compare_11 : decode cJ0_compare 11 = .ok (.if_icmp .ne 7, 3) := dk_160 0 7 (dk_at dksJ0_compare_0 11 rfl rfl)
theorem dJ0_compare_14 : decode cJ0_compare 14 = .ok (.iconst 0, 1) := dk_3 (dk_at dksJ0_compare_0 14 rfl rfl)
theorem dJ0_compare_15 : decode cJ0_compare 15 = .ok (.goto 4, 3) := dk_167 0 4 (dk_at dksJ0_compare_0 15 rfl rfl)
theorem dJ0_compare_18 : decode cJ0_compare 18 = .ok (.iconst 1, 1) := dk_4 (dk_at dksJ0_compare_0 18 rfl rfl)
theorem dJ0_compare_19 : decode cJ0_compare 19 = .ok (.ireturn, 1) := dk_172 (dk_at dksJ0_compare_0 19 rfl rfl)
theorem q8 : (Jvm.Cond.initialized "java/lang/Integer") ∈ lw_all := lw_g (lw_at lw_m0 4 rfl) rfl
theorem q79 : (Jvm.Cond.static ({ cls := "java/lang/Integer", name := "compare", desc := "(II)I" } : Jvm.MethodName)) ∈ lw_all := lw_g (lw_at lw_m0 75 rfl) rfl
theorem q80 : (Jvm.Cond.code ({ cls := "java/lang/Integer", name := "compare", desc := "(II)I" } : Jvm.MethodName) prog_6_method_40_code (2 : Nat) (Option.some Jvm.ClassFile.FieldType.int)) ∈ lw_all := lw_g (lw_at lw_m0 76 rfl) rfl
/-! java/lang/Math -/
set_option maxRecDepth 100000
def RJ1 : String := "java/lang/Math"
abbrev cJ1_min : ByteArray := prog_7_method_69_code
def yJ1_min : MethodName := ⟨RJ1, "min", "(II)I"⟩
def dkwJ1_min_0 : List UInt8 := [26, 27, 163, 0, 7, 26, 167, 0, 4, 27, 172]
abbrev dktJ1_min_0 : List UInt8 := dkwJ1_min_0 ++ []
theorem dksJ1_min_0 : cJ1_min.data.toList.drop 0 = dktJ1_min_0 := by decide +kernel
theorem dJ1_min_0 : decode cJ1_min 0 = .ok (.iload_n 0, 1) := dk_26 (dk_at dksJ1_min_0 0 rfl rfl)
theorem dJ1_min_1 : decode cJ1_min 1 = .ok (.iload_n 1, 1) := dk_27 (dk_at dksJ1_min_0 1 rfl rfl)
theorem dJ1_min_2 : decode cJ1_min 2 = .ok (.if_icmp .gt 7, 3) := dk_163 0 7 (dk_at dksJ1_min_0 2 rfl rfl)
theorem dJ1_min_5 : decode cJ1_min 5 = .ok (.iload_n 0, 1) := dk_26 (dk_at dksJ1_min_0 5 rfl rfl)
theorem dJ1_min_6 : decode cJ1_min 6 = .ok (.goto 4, 3) := dk_167 0 4 (dk_at dksJ1_min_0 6 rfl rfl)
theorem dJ1_min_9 : decode cJ1_min 9 = .ok (.iload_n 1, 1) := dk_27 (dk_at dksJ1_min_0 9 rfl rfl)
theorem dJ1_min_10 : decode cJ1_min 10 = .ok (.ireturn, 1) := dk_172 (dk_at dksJ1_min_0 10 rfl rfl)
theorem q9 : (Jvm.Cond.initialized "java/lang/Math") ∈ lw_all := lw_g (lw_at lw_m0 5 rfl) rfl
theorem q85 : (Jvm.Cond.static ({ cls := "java/lang/Math", name := "min", desc := "(II)I" } : Jvm.MethodName)) ∈ lw_all := lw_g (lw_at lw_m0 81 rfl) rfl
theorem q86 : (Jvm.Cond.code ({ cls := "java/lang/Math", name := "min", desc := "(II)I" } : Jvm.MethodName) prog_7_method_69_code (2 : Nat) (Option.some Jvm.ClassFile.FieldType.int)) ∈ lw_all := lw_g (lw_at lw_m0 82 rfl) rfl
/-! java/lang/Object -/
set_option maxRecDepth 100000
def RJ3 : String := "java/lang/Object"
abbrev cJ3_init : ByteArray := object_method_1_code
def yJ3_init : MethodName := ⟨RJ3, "<init>", "()V"⟩
theorem dJ3_init_0 : decode cJ3_init 0 = .ok (.return_, 1) := by decide +kernel
theorem q18 : (Jvm.Cond.instanceMethod ({ cls := "java/lang/Object", name := "<init>", desc := "()V" } : Jvm.MethodName)) ∈ lw_all := lw_g (lw_at lw_m0 14 rfl) rfl
theorem q19 : (Jvm.Cond.code ({ cls := "java/lang/Object", name := "<init>", desc := "()V" } : Jvm.MethodName) object_method_1_code (1 : Nat) (Option.none : Option Jvm.ClassFile.FieldType)) ∈ lw_all := lw_g (lw_at lw_m0 15 rfl) rfl
end
section
/-! IndirectSortDesk -/
set_option maxRecDepth 100000
def RX0 : String := "IndirectSortDesk"
def TX0 : u_T := fun k => match k with
  | 0 => ("IndirectSortDesk", "row", "[I", true)
  | _ => ("IndirectSortDesk", "places", "[I", true)
def tyX0 : Nat → FieldType := fun k => match k with
  | 0 => .array .int
  | _ => .array .int
abbrev wsX00 : List Cond := u_ws RX0 TX0 2
theorem nmX0 : ∀ a, a < 2 → ∀ b, b < 2 → a ≠ b → (TX0 a).2.1 ≠ (TX0 b).2.1 := by decide +kernel
theorem tyX0_ok : ∀ k, k < 2 → parseFieldDescriptor (TX0 k).2.2.1 = some (tyX0 k) := by decide +kernel
abbrev cX0_init : ByteArray := prog_1_method_1_code
def yX0_init : MethodName := ⟨RX0, "<init>", "()V"⟩
def dkwX0_init_1 : List UInt8 := [177]
abbrev dktX0_init_1 : List UInt8 := dkwX0_init_1 ++ []
def dkwX0_init_0 : List UInt8 := [42, 183, 0, 1, 42, 16, 48, 188, 10, 181, 0, 7, 42, 16, 48, 188, 10, 181, 0, 13, 42, 182, 0, 16]
abbrev dktX0_init_0 : List UInt8 := dkwX0_init_0 ++ dktX0_init_1
theorem dksX0_init_0 : cX0_init.data.toList.drop 0 = dktX0_init_0 := by decide +kernel
theorem dksX0_init_1 : cX0_init.data.toList.drop 24 = dktX0_init_1 := dk_seg dksX0_init_0 24 rfl rfl
theorem dX0_init_0 : decode cX0_init 0 = .ok (.aload_n 0, 1) := dk_42 (dk_at dksX0_init_0 0 rfl rfl)
theorem dX0_init_1 : decode cX0_init 1 = .ok (.invokespecial 1, 3) := dk_183 0 1 (dk_at dksX0_init_0 1 rfl rfl)
theorem dX0_init_4 : decode cX0_init 4 = .ok (.aload_n 0, 1) := dk_42 (dk_at dksX0_init_0 4 rfl rfl)
theorem dX0_init_5 : decode cX0_init 5 = .ok (.bipush 48, 2) := dk_16 48 (dk_at dksX0_init_0 5 rfl rfl)
theorem dX0_init_7 : decode cX0_init 7 = .ok (.newarray .int, 2) := dk_188_10 (dk_at dksX0_init_0 7 rfl rfl)
theorem dX0_init_9 : decode cX0_init 9 = .ok (.putfield 7, 3) := dk_181 0 7 (dk_at dksX0_init_0 9 rfl rfl)
theorem dX0_init_12 : decode cX0_init 12 = .ok (.aload_n 0, 1) := dk_42 (dk_at dksX0_init_0 12 rfl rfl)
theorem dX0_init_13 : decode cX0_init 13 = .ok (.bipush 48, 2) := dk_16 48 (dk_at dksX0_init_0 13 rfl rfl)
theorem dX0_init_15 : decode cX0_init 15 = .ok (.newarray .int, 2) := dk_188_10 (dk_at dksX0_init_0 15 rfl rfl)
theorem dX0_init_17 : decode cX0_init 17 = .ok (.putfield 13, 3) := dk_181 0 13 (dk_at dksX0_init_0 17 rfl rfl)
theorem dX0_init_20 : decode cX0_init 20 = .ok (.aload_n 0, 1) := dk_42 (dk_at dksX0_init_0 20 rfl rfl)
theorem dX0_init_21 : decode cX0_init 21 = .ok (.invokevirtual 16, 3) := dk_182 0 16 (dk_at dksX0_init_0 21 rfl rfl)
theorem dX0_init_24 : decode cX0_init 24 = .ok (.return_, 1) := dk_177 (dk_at dksX0_init_1 0 rfl rfl)
abbrev cX0_anew : ByteArray := prog_1_method_2_code
def yX0_anew : MethodName := ⟨RX0, "anew", "()V"⟩
def dkwX0_anew_0 : List UInt8 := [3, 60, 27, 16, 48, 162, 0, 16, 42, 180, 0, 13, 27, 27, 79, 132, 1, 1, 167, 255, 240, 177]
abbrev dktX0_anew_0 : List UInt8 := dkwX0_anew_0 ++ []
theorem dksX0_anew_0 : cX0_anew.data.toList.drop 0 = dktX0_anew_0 := by decide +kernel
theorem dX0_anew_0 : decode cX0_anew 0 = .ok (.iconst 0, 1) := dk_3 (dk_at dksX0_anew_0 0 rfl rfl)
theorem dX0_anew_1 : decode cX0_anew 1 = .ok (.istore_n 1, 1) := dk_60 (dk_at dksX0_anew_0 1 rfl rfl)
theorem dX0_anew_2 : decode cX0_anew 2 = .ok (.iload_n 1, 1) := dk_27 (dk_at dksX0_anew_0 2 rfl rfl)
theorem dX0_anew_3 : decode cX0_anew 3 = .ok (.bipush 48, 2) := dk_16 48 (dk_at dksX0_anew_0 3 rfl rfl)
theorem dX0_anew_5 : decode cX0_anew 5 = .ok (.if_icmp .ge 16, 3) := dk_162 0 16 (dk_at dksX0_anew_0 5 rfl rfl)
theorem dX0_anew_8 : decode cX0_anew 8 = .ok (.aload_n 0, 1) := dk_42 (dk_at dksX0_anew_0 8 rfl rfl)
theorem dX0_anew_9 : decode cX0_anew 9 = .ok (.getfield 13, 3) := dk_180 0 13 (dk_at dksX0_anew_0 9 rfl rfl)
theorem dX0_anew_12 : decode cX0_anew 12 = .ok (.iload_n 1, 1) := dk_27 (dk_at dksX0_anew_0 12 rfl rfl)
theorem dX0_anew_13 : decode cX0_anew 13 = .ok (.iload_n 1, 1) := dk_27 (dk_at dksX0_anew_0 13 rfl rfl)
theorem dX0_anew_14 : decode cX0_anew 14 = .ok (.iastore, 1) := dk_79 (dk_at dksX0_anew_0 14 rfl rfl)
theorem dX0_anew_15 : decode cX0_anew 15 = .ok (.iinc 1 1, 3) := dk_132 1 1 (dk_at dksX0_anew_0 15 rfl rfl)
theorem dX0_anew_18 : decode cX0_anew 18 = .ok (.goto (-16), 3) := dk_167 255 240 (dk_at dksX0_anew_0 18 rfl rfl)
theorem dX0_anew_21 : decode cX0_anew 21 = .ok (.return_, 1) := dk_177 (dk_at dksX0_anew_0 21 rfl rfl)
abbrev cX0_set : ByteArray := prog_1_method_3_code
def yX0_set : MethodName := ⟨RX0, "set", "(II)V"⟩
def dkwX0_set_0 : List UInt8 := [42, 180, 0, 7, 27, 18, 19, 126, 16, 48, 112, 28, 79, 177]
abbrev dktX0_set_0 : List UInt8 := dkwX0_set_0 ++ []
theorem dksX0_set_0 : cX0_set.data.toList.drop 0 = dktX0_set_0 := by decide +kernel
theorem dX0_set_0 : decode cX0_set 0 = .ok (.aload_n 0, 1) := dk_42 (dk_at dksX0_set_0 0 rfl rfl)
theorem dX0_set_1 : decode cX0_set 1 = .ok (.getfield 7, 3) := dk_180 0 7 (dk_at dksX0_set_0 1 rfl rfl)
theorem dX0_set_4 : decode cX0_set 4 = .ok (.iload_n 1, 1) := dk_27 (dk_at dksX0_set_0 4 rfl rfl)
theorem dX0_set_5 : decode cX0_set 5 = .ok (.ldc 19, 2) := dk_18 19 (dk_at dksX0_set_0 5 rfl rfl)
theorem dX0_set_7 : decode cX0_set 7 = .ok (.iand, 1) := dk_126 (dk_at dksX0_set_0 7 rfl rfl)
theorem dX0_set_8 : decode cX0_set 8 = .ok (.bipush 48, 2) := dk_16 48 (dk_at dksX0_set_0 8 rfl rfl)
theorem dX0_set_10 : decode cX0_set 10 = .ok (.irem, 1) := dk_112 (dk_at dksX0_set_0 10 rfl rfl)
theorem dX0_set_11 : decode cX0_set 11 = .ok (.iload_n 2, 1) := dk_28 (dk_at dksX0_set_0 11 rfl rfl)
theorem dX0_set_12 : decode cX0_set 12 = .ok (.iastore, 1) := dk_79 (dk_at dksX0_set_0 12 rfl rfl)
theorem dX0_set_13 : decode cX0_set 13 = .ok (.return_, 1) := dk_177 (dk_at dksX0_set_0 13 rfl rfl)
abbrev cX0_few : ByteArray := prog_1_method_4_code
def yX0_few : MethodName := ⟨RX0, "few", "(II)V"⟩
def dkwX0_few_0 : List UInt8 := [42, 180, 0, 7, 27, 18, 19, 126, 16, 48, 112, 28, 6, 126, 79, 177]
abbrev dktX0_few_0 : List UInt8 := dkwX0_few_0 ++ []
theorem dksX0_few_0 : cX0_few.data.toList.drop 0 = dktX0_few_0 := by decide +kernel
theorem dX0_few_0 : decode cX0_few 0 = .ok (.aload_n 0, 1) := dk_42 (dk_at dksX0_few_0 0 rfl rfl)
theorem dX0_few_1 : decode cX0_few 1 = .ok (.getfield 7, 3) := dk_180 0 7 (dk_at dksX0_few_0 1 rfl rfl)
theorem dX0_few_4 : decode cX0_few 4 = .ok (.iload_n 1, 1) := dk_27 (dk_at dksX0_few_0 4 rfl rfl)
theorem dX0_few_5 : decode cX0_few 5 = .ok (.ldc 19, 2) := dk_18 19 (dk_at dksX0_few_0 5 rfl rfl)
theorem dX0_few_7 : decode cX0_few 7 = .ok (.iand, 1) := dk_126 (dk_at dksX0_few_0 7 rfl rfl)
theorem dX0_few_8 : decode cX0_few 8 = .ok (.bipush 48, 2) := dk_16 48 (dk_at dksX0_few_0 8 rfl rfl)
theorem dX0_few_10 : decode cX0_few 10 = .ok (.irem, 1) := dk_112 (dk_at dksX0_few_0 10 rfl rfl)
theorem dX0_few_11 : decode cX0_few 11 = .ok (.iload_n 2, 1) := dk_28 (dk_at dksX0_few_0 11 rfl rfl)
theorem dX0_few_12 : decode cX0_few 12 = .ok (.iconst 3, 1) := dk_6 (dk_at dksX0_few_0 12 rfl rfl)
theorem dX0_few_13 : decode cX0_few 13 = .ok (.iand, 1) := dk_126 (dk_at dksX0_few_0 13 rfl rfl)
theorem dX0_few_14 : decode cX0_few 14 = .ok (.iastore, 1) := dk_79 (dk_at dksX0_few_0 14 rfl rfl)
theorem dX0_few_15 : decode cX0_few 15 = .ok (.return_, 1) := dk_177 (dk_at dksX0_few_0 15 rfl rfl)
abbrev cX0_get : ByteArray := prog_1_method_5_code
def yX0_get : MethodName := ⟨RX0, "get", "(I)I"⟩
def dkwX0_get_0 : List UInt8 := [42, 180, 0, 7, 27, 18, 19, 126, 16, 48, 112, 46, 172]
abbrev dktX0_get_0 : List UInt8 := dkwX0_get_0 ++ []
theorem dksX0_get_0 : cX0_get.data.toList.drop 0 = dktX0_get_0 := by decide +kernel
theorem dX0_get_0 : decode cX0_get 0 = .ok (.aload_n 0, 1) := dk_42 (dk_at dksX0_get_0 0 rfl rfl)
theorem dX0_get_1 : decode cX0_get 1 = .ok (.getfield 7, 3) := dk_180 0 7 (dk_at dksX0_get_0 1 rfl rfl)
theorem dX0_get_4 : decode cX0_get 4 = .ok (.iload_n 1, 1) := dk_27 (dk_at dksX0_get_0 4 rfl rfl)
theorem dX0_get_5 : decode cX0_get 5 = .ok (.ldc 19, 2) := dk_18 19 (dk_at dksX0_get_0 5 rfl rfl)
theorem dX0_get_7 : decode cX0_get 7 = .ok (.iand, 1) := dk_126 (dk_at dksX0_get_0 7 rfl rfl)
theorem dX0_get_8 : decode cX0_get 8 = .ok (.bipush 48, 2) := dk_16 48 (dk_at dksX0_get_0 8 rfl rfl)
theorem dX0_get_10 : decode cX0_get 10 = .ok (.irem, 1) := dk_112 (dk_at dksX0_get_0 10 rfl rfl)
theorem dX0_get_11 : decode cX0_get 11 = .ok (.iaload, 1) := dk_46 (dk_at dksX0_get_0 11 rfl rfl)
theorem dX0_get_12 : decode cX0_get 12 = .ok (.ireturn, 1) := dk_172 (dk_at dksX0_get_0 12 rfl rfl)
abbrev cX0_place : ByteArray := prog_1_method_6_code
def yX0_place : MethodName := ⟨RX0, "place", "(I)I"⟩
def dkwX0_place_0 : List UInt8 := [42, 180, 0, 13, 27, 18, 19, 126, 16, 48, 112, 46, 172]
abbrev dktX0_place_0 : List UInt8 := dkwX0_place_0 ++ []
theorem dksX0_place_0 : cX0_place.data.toList.drop 0 = dktX0_place_0 := by decide +kernel
theorem dX0_place_0 : decode cX0_place 0 = .ok (.aload_n 0, 1) := dk_42 (dk_at dksX0_place_0 0 rfl rfl)
theorem dX0_place_1 : decode cX0_place 1 = .ok (.getfield 13, 3) := dk_180 0 13 (dk_at dksX0_place_0 1 rfl rfl)
theorem dX0_place_4 : decode cX0_place 4 = .ok (.iload_n 1, 1) := dk_27 (dk_at dksX0_place_0 4 rfl rfl)
theorem dX0_place_5 : decode cX0_place 5 = .ok (.ldc 19, 2) := dk_18 19 (dk_at dksX0_place_0 5 rfl rfl)
theorem dX0_place_7 : decode cX0_place 7 = .ok (.iand, 1) := dk_126 (dk_at dksX0_place_0 7 rfl rfl)
theorem dX0_place_8 : decode cX0_place 8 = .ok (.bipush 48, 2) := dk_16 48 (dk_at dksX0_place_0 8 rfl rfl)
theorem dX0_place_10 : decode cX0_place 10 = .ok (.irem, 1) := dk_112 (dk_at dksX0_place_0 10 rfl rfl)
theorem dX0_place_11 : decode cX0_place 11 = .ok (.iaload, 1) := dk_46 (dk_at dksX0_place_0 11 rfl rfl)
theorem dX0_place_12 : decode cX0_place 12 = .ok (.ireturn, 1) := dk_172 (dk_at dksX0_place_0 12 rfl rfl)
abbrev cX0_radix : ByteArray := prog_1_method_10_code
def yX0_radix : MethodName := ⟨RX0, "radix", "(II)V"⟩
def dkwX0_radix_1 : List UInt8 := [180, 0, 13, 42, 180, 0, 7, 29, 21, 4, 4, 184, 0, 32, 177]
abbrev dktX0_radix_1 : List UInt8 := dkwX0_radix_1 ++ []
def dkwX0_radix_0 : List UInt8 := [42, 27, 182, 0, 20, 62, 42, 29, 28, 182, 0, 24, 54, 4, 42, 29, 21, 4, 182, 0, 28, 42]
abbrev dktX0_radix_0 : List UInt8 := dkwX0_radix_0 ++ dktX0_radix_1
theorem dksX0_radix_0 : cX0_radix.data.toList.drop 0 = dktX0_radix_0 := by decide +kernel
theorem dksX0_radix_1 : cX0_radix.data.toList.drop 22 = dktX0_radix_1 := dk_seg dksX0_radix_0 22 rfl rfl
theorem dX0_radix_0 : decode cX0_radix 0 = .ok (.aload_n 0, 1) := dk_42 (dk_at dksX0_radix_0 0 rfl rfl)
theorem dX0_radix_1 : decode cX0_radix 1 = .ok (.iload_n 1, 1) := dk_27 (dk_at dksX0_radix_0 1 rfl rfl)
theorem dX0_radix_2 : decode cX0_radix 2 = .ok (.invokevirtual 20, 3) := dk_182 0 20 (dk_at dksX0_radix_0 2 rfl rfl)
theorem dX0_radix_5 : decode cX0_radix 5 = .ok (.istore_n 3, 1) := dk_62 (dk_at dksX0_radix_0 5 rfl rfl)
theorem dX0_radix_6 : decode cX0_radix 6 = .ok (.aload_n 0, 1) := dk_42 (dk_at dksX0_radix_0 6 rfl rfl)
theorem dX0_radix_7 : decode cX0_radix 7 = .ok (.iload_n 3, 1) := dk_29 (dk_at dksX0_radix_0 7 rfl rfl)
theorem dX0_radix_8 : decode cX0_radix 8 = .ok (.iload_n 2, 1) := dk_28 (dk_at dksX0_radix_0 8 rfl rfl)
theorem dX0_radix_9 : decode cX0_radix 9 = .ok (.invokevirtual 24, 3) := dk_182 0 24 (dk_at dksX0_radix_0 9 rfl rfl)
theorem dX0_radix_12 : decode cX0_radix 12 = .ok (.istore 4, 2) := dk_54 4 (dk_at dksX0_radix_0 12 rfl rfl)
theorem dX0_radix_14 : decode cX0_radix 14 = .ok (.aload_n 0, 1) := dk_42 (dk_at dksX0_radix_0 14 rfl rfl)
theorem dX0_radix_15 : decode cX0_radix 15 = .ok (.iload_n 3, 1) := dk_29 (dk_at dksX0_radix_0 15 rfl rfl)
theorem dX0_radix_16 : decode cX0_radix 16 = .ok (.iload 4, 2) := dk_21 4 (dk_at dksX0_radix_0 16 rfl rfl)
theorem dX0_radix_18 : decode cX0_radix 18 = .ok (.invokevirtual 28, 3) := dk_182 0 28 (dk_at dksX0_radix_0 18 rfl rfl)
theorem dX0_radix_21 : decode cX0_radix 21 = .ok (.aload_n 0, 1) := dk_42 (dk_at dksX0_radix_0 21 rfl rfl)
theorem dX0_radix_22 : decode cX0_radix 22 = .ok (.getfield 13, 3) := dk_180 0 13 (dk_at dksX0_radix_1 0 rfl rfl)
theorem dX0_radix_25 : decode cX0_radix 25 = .ok (.aload_n 0, 1) := dk_42 (dk_at dksX0_radix_1 3 rfl rfl)
theorem dX0_radix_26 : decode cX0_radix 26 = .ok (.getfield 7, 3) := dk_180 0 7 (dk_at dksX0_radix_1 4 rfl rfl)
theorem dX0_radix_29 : decode cX0_radix 29 = .ok (.iload_n 3, 1) := dk_29 (dk_at dksX0_radix_1 7 rfl rfl)
theorem dX0_radix_30 : decode cX0_radix 30 = .ok (.iload 4, 2) := dk_21 4 (dk_at dksX0_radix_1 8 rfl rfl)
theorem dX0_radix_32 : decode cX0_radix 32 = .ok (.iconst 1, 1) := dk_4 (dk_at dksX0_radix_1 10 rfl rfl)
theorem dX0_radix_33 : decode cX0_radix 33 = .ok (.invokestatic 32, 3) := dk_184 0 32 (dk_at dksX0_radix_1 11 rfl rfl)
theorem dX0_radix_36 : decode cX0_radix 36 = .ok (.return_, 1) := dk_177 (dk_at dksX0_radix_1 14 rfl rfl)
abbrev cX0_from : ByteArray := prog_1_method_7_code
def yX0_from : MethodName := ⟨RX0, "from", "(I)I"⟩
def dkwX0_from_0 : List UInt8 := [27, 18, 19, 126, 16, 49, 112, 172]
abbrev dktX0_from_0 : List UInt8 := dkwX0_from_0 ++ []
theorem dksX0_from_0 : cX0_from.data.toList.drop 0 = dktX0_from_0 := by decide +kernel
theorem dX0_from_0 : decode cX0_from 0 = .ok (.iload_n 1, 1) := dk_27 (dk_at dksX0_from_0 0 rfl rfl)
theorem dX0_from_1 : decode cX0_from 1 = .ok (.ldc 19, 2) := dk_18 19 (dk_at dksX0_from_0 1 rfl rfl)
theorem dX0_from_3 : decode cX0_from 3 = .ok (.iand, 1) := dk_126 (dk_at dksX0_from_0 3 rfl rfl)
theorem dX0_from_4 : decode cX0_from 4 = .ok (.bipush 49, 2) := dk_16 49 (dk_at dksX0_from_0 4 rfl rfl)
theorem dX0_from_6 : decode cX0_from 6 = .ok (.irem, 1) := dk_112 (dk_at dksX0_from_0 6 rfl rfl)
theorem dX0_from_7 : decode cX0_from 7 = .ok (.ireturn, 1) := dk_172 (dk_at dksX0_from_0 7 rfl rfl)
abbrev cX0_to : ByteArray := prog_1_method_8_code
def yX0_to : MethodName := ⟨RX0, "to", "(II)I"⟩
def dkwX0_to_0 : List UInt8 := [27, 28, 18, 19, 126, 16, 49, 27, 100, 112, 96, 172]
abbrev dktX0_to_0 : List UInt8 := dkwX0_to_0 ++ []
theorem dksX0_to_0 : cX0_to.data.toList.drop 0 = dktX0_to_0 := by decide +kernel
theorem dX0_to_0 : decode cX0_to 0 = .ok (.iload_n 1, 1) := dk_27 (dk_at dksX0_to_0 0 rfl rfl)
theorem dX0_to_1 : decode cX0_to 1 = .ok (.iload_n 2, 1) := dk_28 (dk_at dksX0_to_0 1 rfl rfl)
theorem dX0_to_2 : decode cX0_to 2 = .ok (.ldc 19, 2) := dk_18 19 (dk_at dksX0_to_0 2 rfl rfl)
theorem dX0_to_4 : decode cX0_to 4 = .ok (.iand, 1) := dk_126 (dk_at dksX0_to_0 4 rfl rfl)
theorem dX0_to_5 : decode cX0_to 5 = .ok (.bipush 49, 2) := dk_16 49 (dk_at dksX0_to_0 5 rfl rfl)
theorem dX0_to_7 : decode cX0_to 7 = .ok (.iload_n 1, 1) := dk_27 (dk_at dksX0_to_0 7 rfl rfl)
theorem dX0_to_8 : decode cX0_to 8 = .ok (.isub, 1) := dk_100 (dk_at dksX0_to_0 8 rfl rfl)
theorem dX0_to_9 : decode cX0_to 9 = .ok (.irem, 1) := dk_112 (dk_at dksX0_to_0 9 rfl rfl)
theorem dX0_to_10 : decode cX0_to 10 = .ok (.iadd, 1) := dk_96 (dk_at dksX0_to_0 10 rfl rfl)
theorem dX0_to_11 : decode cX0_to 11 = .ok (.ireturn, 1) := dk_172 (dk_at dksX0_to_0 11 rfl rfl)
abbrev cX0_fresh : ByteArray := prog_1_method_9_code
def yX0_fresh : MethodName := ⟨RX0, "fresh", "(II)V"⟩
def dkwX0_fresh_0 : List UInt8 := [27, 62, 29, 28, 162, 0, 16, 42, 180, 0, 13, 29, 29, 79, 132, 3, 1, 167, 255, 241, 177]
abbrev dktX0_fresh_0 : List UInt8 := dkwX0_fresh_0 ++ []
theorem dksX0_fresh_0 : cX0_fresh.data.toList.drop 0 = dktX0_fresh_0 := by decide +kernel
theorem dX0_fresh_0 : decode cX0_fresh 0 = .ok (.iload_n 1, 1) := dk_27 (dk_at dksX0_fresh_0 0 rfl rfl)
theorem dX0_fresh_1 : decode cX0_fresh 1 = .ok (.istore_n 3, 1) := dk_62 (dk_at dksX0_fresh_0 1 rfl rfl)
theorem dX0_fresh_2 : decode cX0_fresh 2 = .ok (.iload_n 3, 1) := dk_29 (dk_at dksX0_fresh_0 2 rfl rfl)
theorem dX0_fresh_3 : decode cX0_fresh 3 = .ok (.iload_n 2, 1) := dk_28 (dk_at dksX0_fresh_0 3 rfl rfl)
theorem dX0_fresh_4 : decode cX0_fresh 4 = .ok (.if_icmp .ge 16, 3) := dk_162 0 16 (dk_at dksX0_fresh_0 4 rfl rfl)
theorem dX0_fresh_7 : decode cX0_fresh 7 = .ok (.aload_n 0, 1) := dk_42 (dk_at dksX0_fresh_0 7 rfl rfl)
theorem dX0_fresh_8 : decode cX0_fresh 8 = .ok (.getfield 13, 3) := dk_180 0 13 (dk_at dksX0_fresh_0 8 rfl rfl)
theorem dX0_fresh_11 : decode cX0_fresh 11 = .ok (.iload_n 3, 1) := dk_29 (dk_at dksX0_fresh_0 11 rfl rfl)
theorem dX0_fresh_12 : decode cX0_fresh 12 = .ok (.iload_n 3, 1) := dk_29 (dk_at dksX0_fresh_0 12 rfl rfl)
theorem dX0_fresh_13 : decode cX0_fresh 13 = .ok (.iastore, 1) := dk_79 (dk_at dksX0_fresh_0 13 rfl rfl)
theorem dX0_fresh_14 : decode cX0_fresh 14 = .ok (.iinc 3 1, 3) := dk_132 3 1 (dk_at dksX0_fresh_0 14 rfl rfl)
theorem dX0_fresh_17 : decode cX0_fresh 17 = .ok (.goto (-15), 3) := dk_167 255 241 (dk_at dksX0_fresh_0 17 rfl rfl)
theorem dX0_fresh_20 : decode cX0_fresh 20 = .ok (.return_, 1) := dk_177 (dk_at dksX0_fresh_0 20 rfl rfl)
abbrev cX0_quick : ByteArray := prog_1_method_11_code
def yX0_quick : MethodName := ⟨RX0, "quick", "(II)V"⟩
def dkwX0_quick_2 : List UInt8 := [184, 0, 42, 177]
abbrev dktX0_quick_2 : List UInt8 := dkwX0_quick_2 ++ []
def dkwX0_quick_1 : List UInt8 := [180, 0, 13, 42, 180, 0, 7, 29, 21, 4, 184, 0, 38, 42, 180, 0, 13, 42, 180, 0, 7, 29, 21, 4]
abbrev dktX0_quick_1 : List UInt8 := dkwX0_quick_1 ++ dktX0_quick_2
def dkwX0_quick_0 : List UInt8 := [42, 27, 182, 0, 20, 62, 42, 29, 28, 182, 0, 24, 54, 4, 42, 29, 21, 4, 182, 0, 28, 42]
abbrev dktX0_quick_0 : List UInt8 := dkwX0_quick_0 ++ dktX0_quick_1
theorem dksX0_quick_0 : cX0_quick.data.toList.drop 0 = dktX0_quick_0 := by decide +kernel
theorem dksX0_quick_1 : cX0_quick.data.toList.drop 22 = dktX0_quick_1 := dk_seg dksX0_quick_0 22 rfl rfl
theorem dksX0_quick_2 : cX0_quick.data.toList.drop 46 = dktX0_quick_2 := dk_seg dksX0_quick_1 24 rfl rfl
theorem dX0_quick_0 : decode cX0_quick 0 = .ok (.aload_n 0, 1) := dk_42 (dk_at dksX0_quick_0 0 rfl rfl)
theorem dX0_quick_1 : decode cX0_quick 1 = .ok (.iload_n 1, 1) := dk_27 (dk_at dksX0_quick_0 1 rfl rfl)
theorem dX0_quick_2 : decode cX0_quick 2 = .ok (.invokevirtual 20, 3) := dk_182 0 20 (dk_at dksX0_quick_0 2 rfl rfl)
theorem dX0_quick_5 : decode cX0_quick 5 = .ok (.istore_n 3, 1) := dk_62 (dk_at dksX0_quick_0 5 rfl rfl)
theorem dX0_quick_6 : decode cX0_quick 6 = .ok (.aload_n 0, 1) := dk_42 (dk_at dksX0_quick_0 6 rfl rfl)
theorem dX0_quick_7 : decode cX0_quick 7 = .ok (.iload_n 3, 1) := dk_29 (dk_at dksX0_quick_0 7 rfl rfl)
theorem dX0_quick_8 : decode cX0_quick 8 = .ok (.iload_n 2, 1) := dk_28 (dk_at dksX0_quick_0 8 rfl rfl)
theorem dX0_quick_9 : decode cX0_quick 9 = .ok (.invokevirtual 24, 3) := dk_182 0 24 (dk_at dksX0_quick_0 9 rfl rfl)
theorem dX0_quick_12 : decode cX0_quick 12 = .ok (.istore 4, 2) := dk_54 4 (dk_at dksX0_quick_0 12 rfl rfl)
theorem dX0_quick_14 : decode cX0_quick 14 = .ok (.aload_n 0, 1) := dk_42 (dk_at dksX0_quick_0 14 rfl rfl)
theorem dX0_quick_15 : decode cX0_quick 15 = .ok (.iload_n 3, 1) := dk_29 (dk_at dksX0_quick_0 15 rfl rfl)
theorem dX0_quick_16 : decode cX0_quick 16 = .ok (.iload 4, 2) := dk_21 4 (dk_at dksX0_quick_0 16 rfl rfl)
theorem dX0_quick_18 : decode cX0_quick 18 = .ok (.invokevirtual 28, 3) := dk_182 0 28 (dk_at dksX0_quick_0 18 rfl rfl)
theorem dX0_quick_21 : decode cX0_quick 21 = .ok (.aload_n 0, 1) := dk_42 (dk_at dksX0_quick_0 21 rfl rfl)
theorem dX0_quick_22 : decode cX0_quick 22 = .ok (.getfield 13, 3) := dk_180 0 13 (dk_at dksX0_quick_1 0 rfl rfl)
theorem dX0_quick_25 : decode cX0_quick 25 = .ok (.aload_n 0, 1) := dk_42 (dk_at dksX0_quick_1 3 rfl rfl)
theorem dX0_quick_26 : decode cX0_quick 26 = .ok (.getfield 7, 3) := dk_180 0 7 (dk_at dksX0_quick_1 4 rfl rfl)
theorem dX0_quick_29 : decode cX0_quick 29 = .ok (.iload_n 3, 1) := dk_29 (dk_at dksX0_quick_1 7 rfl rfl)
theorem dX0_quick_30 : decode cX0_quick 30 = .ok (.iload 4, 2) := dk_21 4 (dk_at dksX0_quick_1 8 rfl rfl)
theorem dX0_quick_32 : decode cX0_quick 32 = .ok (.invokestatic 38, 3) := dk_184 0 38 (dk_at dksX0_quick_1 10 rfl rfl)
theorem dX0_quick_35 : decode cX0_quick 35 = .ok (.aload_n 0, 1) := dk_42 (dk_at dksX0_quick_1 13 rfl rfl)
theorem dX0_quick_36 : decode cX0_quick 36 = .ok (.getfield 13, 3) := dk_180 0 13 (dk_at dksX0_quick_1 14 rfl rfl)
theorem dX0_quick_39 : decode cX0_quick 39 = .ok (.aload_n 0, 1) := dk_42 (dk_at dksX0_quick_1 17 rfl rfl)
theorem dX0_quick_40 : decode cX0_quick 40 = .ok (.getfield 7, 3) := dk_180 0 7 (dk_at dksX0_quick_1 18 rfl rfl)
theorem dX0_quick_43 : decode cX0_quick 43 = .ok (.iload_n 3, 1) := dk_29 (dk_at dksX0_quick_1 21 rfl rfl)
theorem dX0_quick_44 : decode cX0_quick 44 = .ok (.iload 4, 2) := dk_21 4 (dk_at dksX0_quick_1 22 rfl rfl)
theorem dX0_quick_46 : decode cX0_quick 46 = .ok (.invokestatic 42, 3) := dk_184 0 42 (dk_at dksX0_quick_2 0 rfl rfl)
theorem dX0_quick_49 : decode cX0_quick 49 = .ok (.return_, 1) := dk_177 (dk_at dksX0_quick_2 3 rfl rfl)
theorem q5 : (Jvm.Cond.initialized "IndirectSortDesk") ∈ lw_all := lw_g (lw_at lw_m0 1 rfl) rfl
theorem q13 : (Jvm.Cond.instantiable "IndirectSortDesk" (2 : Nat)) ∈ lw_all := lw_g (lw_at lw_m0 9 rfl) rfl
theorem q15 : (Jvm.Cond.instanceMethod ({ cls := "IndirectSortDesk", name := "<init>", desc := "()V" } : Jvm.MethodName)) ∈ lw_all := lw_g (lw_at lw_m0 11 rfl) rfl
theorem q16 : (Jvm.Cond.code ({ cls := "IndirectSortDesk", name := "<init>", desc := "()V" } : Jvm.MethodName) prog_1_method_1_code (1 : Nat) (Option.none : Option Jvm.ClassFile.FieldType)) ∈ lw_all := lw_g (lw_at lw_m0 12 rfl) rfl
theorem q17 : (Jvm.Cond.methodLink "IndirectSortDesk" (1 : Nat) ({ cls := "java/lang/Object", name := "<init>", desc := "()V" } : Jvm.MethodName)) ∈ lw_all := lw_g (lw_at lw_m0 13 rfl) rfl
theorem q20 : (Jvm.Cond.methodLink "IndirectSortDesk" (16 : Nat) ({ cls := "IndirectSortDesk", name := "anew", desc := "()V" } : Jvm.MethodName)) ∈ lw_all := lw_g (lw_at lw_m0 16 rfl) rfl
theorem q21 : (Jvm.Cond.instanceMethod ({ cls := "IndirectSortDesk", name := "anew", desc := "()V" } : Jvm.MethodName)) ∈ lw_all := lw_g (lw_at lw_m0 17 rfl) rfl
theorem q22 : (Jvm.Cond.selects "IndirectSortDesk" ({ cls := "IndirectSortDesk", name := "anew", desc := "()V" } : Jvm.MethodName) ({ cls := "IndirectSortDesk", name := "anew", desc := "()V" } : Jvm.MethodName)) ∈ lw_all := lw_g (lw_at lw_m0 18 rfl) rfl
theorem q23 : (Jvm.Cond.code ({ cls := "IndirectSortDesk", name := "anew", desc := "()V" } : Jvm.MethodName) prog_1_method_2_code (2 : Nat) (Option.none : Option Jvm.ClassFile.FieldType)) ∈ lw_all := lw_g (lw_at lw_m0 19 rfl) rfl
theorem q24 : (Jvm.Cond.fieldLink "IndirectSortDesk" (7 : Nat) "IndirectSortDesk" "row" "[I") ∈ lw_all := lw_g (lw_at lw_m0 20 rfl) rfl
theorem q25 : (Jvm.Cond.fieldLink "IndirectSortDesk" (13 : Nat) "IndirectSortDesk" "places" "[I") ∈ lw_all := lw_g (lw_at lw_m0 21 rfl) rfl
theorem q26 : (Jvm.Cond.laysFinal "IndirectSortDesk" "IndirectSortDesk" "row" "[I") ∈ lw_all := lw_g (lw_at lw_m0 22 rfl) rfl
theorem q27 : (Jvm.Cond.soleField "IndirectSortDesk" "row") ∈ lw_all := lw_g (lw_at lw_m0 23 rfl) rfl
theorem q28 : (Jvm.Cond.laysFinal "IndirectSortDesk" "IndirectSortDesk" "places" "[I") ∈ lw_all := lw_g (lw_at lw_m0 24 rfl) rfl
theorem q29 : (Jvm.Cond.soleField "IndirectSortDesk" "places") ∈ lw_all := lw_g (lw_at lw_m0 25 rfl) rfl
theorem q30 : (Jvm.Cond.superclass "IndirectSortDesk" "java/lang/Object") ∈ lw_all := lw_g (lw_at lw_m0 26 rfl) rfl
theorem q34 : (Jvm.Cond.instanceMethod ({ cls := "IndirectSortDesk", name := "set", desc := "(II)V" } : Jvm.MethodName)) ∈ lw_all := lw_g (lw_at lw_m0 30 rfl) rfl
theorem q35 : (Jvm.Cond.selects "IndirectSortDesk" ({ cls := "IndirectSortDesk", name := "set", desc := "(II)V" } : Jvm.MethodName) ({ cls := "IndirectSortDesk", name := "set", desc := "(II)V" } : Jvm.MethodName)) ∈ lw_all := lw_g (lw_at lw_m0 31 rfl) rfl
theorem q36 : (Jvm.Cond.code ({ cls := "IndirectSortDesk", name := "set", desc := "(II)V" } : Jvm.MethodName) prog_1_method_3_code (3 : Nat) (Option.none : Option Jvm.ClassFile.FieldType)) ∈ lw_all := lw_g (lw_at lw_m0 32 rfl) rfl
theorem q37 : (Jvm.Cond.constant "IndirectSortDesk" (19 : Nat) (2147483647 : Int32)) ∈ lw_all := lw_g (lw_at lw_m0 33 rfl) rfl
theorem q39 : (Jvm.Cond.instanceMethod ({ cls := "IndirectSortDesk", name := "few", desc := "(II)V" } : Jvm.MethodName)) ∈ lw_all := lw_g (lw_at lw_m0 35 rfl) rfl
theorem q40 : (Jvm.Cond.selects "IndirectSortDesk" ({ cls := "IndirectSortDesk", name := "few", desc := "(II)V" } : Jvm.MethodName) ({ cls := "IndirectSortDesk", name := "few", desc := "(II)V" } : Jvm.MethodName)) ∈ lw_all := lw_g (lw_at lw_m0 36 rfl) rfl
theorem q41 : (Jvm.Cond.code ({ cls := "IndirectSortDesk", name := "few", desc := "(II)V" } : Jvm.MethodName) prog_1_method_4_code (3 : Nat) (Option.none : Option Jvm.ClassFile.FieldType)) ∈ lw_all := lw_g (lw_at lw_m0 37 rfl) rfl
theorem q43 : (Jvm.Cond.instanceMethod ({ cls := "IndirectSortDesk", name := "get", desc := "(I)I" } : Jvm.MethodName)) ∈ lw_all := lw_g (lw_at lw_m0 39 rfl) rfl
theorem q44 : (Jvm.Cond.selects "IndirectSortDesk" ({ cls := "IndirectSortDesk", name := "get", desc := "(I)I" } : Jvm.MethodName) ({ cls := "IndirectSortDesk", name := "get", desc := "(I)I" } : Jvm.MethodName)) ∈ lw_all := lw_g (lw_at lw_m0 40 rfl) rfl
theorem q45 : (Jvm.Cond.code ({ cls := "IndirectSortDesk", name := "get", desc := "(I)I" } : Jvm.MethodName) prog_1_method_5_code (2 : Nat) (Option.some Jvm.ClassFile.FieldType.int)) ∈ lw_all := lw_g (lw_at lw_m0 41 rfl) rfl
theorem q47 : (Jvm.Cond.instanceMethod ({ cls := "IndirectSortDesk", name := "place", desc := "(I)I" } : Jvm.MethodName)) ∈ lw_all := lw_g (lw_at lw_m0 43 rfl) rfl
theorem q48 : (Jvm.Cond.selects "IndirectSortDesk" ({ cls := "IndirectSortDesk", name := "place", desc := "(I)I" } : Jvm.MethodName) ({ cls := "IndirectSortDesk", name := "place", desc := "(I)I" } : Jvm.MethodName)) ∈ lw_all := lw_g (lw_at lw_m0 44 rfl) rfl
theorem q49 : (Jvm.Cond.code ({ cls := "IndirectSortDesk", name := "place", desc := "(I)I" } : Jvm.MethodName) prog_1_method_6_code (2 : Nat) (Option.some Jvm.ClassFile.FieldType.int)) ∈ lw_all := lw_g (lw_at lw_m0 45 rfl) rfl
theorem q51 : (Jvm.Cond.instanceMethod ({ cls := "IndirectSortDesk", name := "radix", desc := "(II)V" } : Jvm.MethodName)) ∈ lw_all := lw_g (lw_at lw_m0 47 rfl) rfl
theorem q52 : (Jvm.Cond.selects "IndirectSortDesk" ({ cls := "IndirectSortDesk", name := "radix", desc := "(II)V" } : Jvm.MethodName) ({ cls := "IndirectSortDesk", name := "radix", desc := "(II)V" } : Jvm.MethodName)) ∈ lw_all := lw_g (lw_at lw_m0 48 rfl) rfl
theorem q53 : (Jvm.Cond.code ({ cls := "IndirectSortDesk", name := "radix", desc := "(II)V" } : Jvm.MethodName) prog_1_method_10_code (5 : Nat) (Option.none : Option Jvm.ClassFile.FieldType)) ∈ lw_all := lw_g (lw_at lw_m0 49 rfl) rfl
theorem q54 : (Jvm.Cond.methodLink "IndirectSortDesk" (20 : Nat) ({ cls := "IndirectSortDesk", name := "from", desc := "(I)I" } : Jvm.MethodName)) ∈ lw_all := lw_g (lw_at lw_m0 50 rfl) rfl
theorem q55 : (Jvm.Cond.privateMethod ({ cls := "IndirectSortDesk", name := "from", desc := "(I)I" } : Jvm.MethodName)) ∈ lw_tbl := lw_at lw_m0 51 rfl
theorem q56 : (Jvm.Cond.instanceMethod ({ cls := "IndirectSortDesk", name := "from", desc := "(I)I" } : Jvm.MethodName)) ∈ lw_all := lw_g (lw_at lw_m0 52 rfl) rfl
theorem q57 : (Jvm.Cond.code ({ cls := "IndirectSortDesk", name := "from", desc := "(I)I" } : Jvm.MethodName) prog_1_method_7_code (2 : Nat) (Option.some Jvm.ClassFile.FieldType.int)) ∈ lw_all := lw_g (lw_at lw_m0 53 rfl) rfl
theorem q58 : (Jvm.Cond.methodLink "IndirectSortDesk" (24 : Nat) ({ cls := "IndirectSortDesk", name := "to", desc := "(II)I" } : Jvm.MethodName)) ∈ lw_all := lw_g (lw_at lw_m0 54 rfl) rfl
theorem q59 : (Jvm.Cond.privateMethod ({ cls := "IndirectSortDesk", name := "to", desc := "(II)I" } : Jvm.MethodName)) ∈ lw_tbl := lw_at lw_m0 55 rfl
theorem q60 : (Jvm.Cond.instanceMethod ({ cls := "IndirectSortDesk", name := "to", desc := "(II)I" } : Jvm.MethodName)) ∈ lw_all := lw_g (lw_at lw_m0 56 rfl) rfl
theorem q61 : (Jvm.Cond.code ({ cls := "IndirectSortDesk", name := "to", desc := "(II)I" } : Jvm.MethodName) prog_1_method_8_code (3 : Nat) (Option.some Jvm.ClassFile.FieldType.int)) ∈ lw_all := lw_g (lw_at lw_m0 57 rfl) rfl
theorem q62 : (Jvm.Cond.methodLink "IndirectSortDesk" (28 : Nat) ({ cls := "IndirectSortDesk", name := "fresh", desc := "(II)V" } : Jvm.MethodName)) ∈ lw_all := lw_g (lw_at lw_m0 58 rfl) rfl
theorem q63 : (Jvm.Cond.privateMethod ({ cls := "IndirectSortDesk", name := "fresh", desc := "(II)V" } : Jvm.MethodName)) ∈ lw_tbl := lw_at lw_m0 59 rfl
theorem q64 : (Jvm.Cond.instanceMethod ({ cls := "IndirectSortDesk", name := "fresh", desc := "(II)V" } : Jvm.MethodName)) ∈ lw_all := lw_g (lw_at lw_m0 60 rfl) rfl
theorem q65 : (Jvm.Cond.code ({ cls := "IndirectSortDesk", name := "fresh", desc := "(II)V" } : Jvm.MethodName) prog_1_method_9_code (4 : Nat) (Option.none : Option Jvm.ClassFile.FieldType)) ∈ lw_all := lw_g (lw_at lw_m0 61 rfl) rfl
theorem q66 : (Jvm.Cond.methodLink "IndirectSortDesk" (32 : Nat) ({ cls := "IntArrays", name := "radixSortIndirect", desc := "([I[IIIZ)V" } : Jvm.MethodName)) ∈ lw_all := lw_g (lw_at lw_m0 62 rfl) rfl
theorem q112 : (Jvm.Cond.instanceMethod ({ cls := "IndirectSortDesk", name := "quick", desc := "(II)V" } : Jvm.MethodName)) ∈ lw_all := lw_g (lw_at lw_m0 108 rfl) rfl
theorem q113 : (Jvm.Cond.selects "IndirectSortDesk" ({ cls := "IndirectSortDesk", name := "quick", desc := "(II)V" } : Jvm.MethodName) ({ cls := "IndirectSortDesk", name := "quick", desc := "(II)V" } : Jvm.MethodName)) ∈ lw_all := lw_g (lw_at lw_m0 109 rfl) rfl
theorem q114 : (Jvm.Cond.code ({ cls := "IndirectSortDesk", name := "quick", desc := "(II)V" } : Jvm.MethodName) prog_1_method_11_code (5 : Nat) (Option.none : Option Jvm.ClassFile.FieldType)) ∈ lw_all := lw_g (lw_at lw_m0 110 rfl) rfl
theorem q115 : (Jvm.Cond.methodLink "IndirectSortDesk" (38 : Nat) ({ cls := "IntArrays", name := "quickSortIndirect", desc := "([I[III)V" } : Jvm.MethodName)) ∈ lw_all := lw_g (lw_at lw_m0 111 rfl) rfl
theorem q116 : (Jvm.Cond.methodLink "IndirectSortDesk" (42 : Nat) ({ cls := "IntArrays", name := "stabilize", desc := "([I[III)V" } : Jvm.MethodName)) ∈ lw_all := lw_g (lw_at lw_m0 112 rfl) rfl
theorem in_X0 : ∀ w ∈ wsX00, w ∈ lw_all := lw_in wsX00 [26, 28] (by decide +kernel) (by decide +kernel)
/-! IndirectSortDeskModel -/
set_option maxRecDepth 100000
def RX1 : String := "IndirectSortDeskModel"
def TX1 : u_T := fun k => match k with
  | 0 => ("IndirectSortDeskModel", "row", "[I", true)
  | _ => ("IndirectSortDeskModel", "places", "[I", true)
def tyX1 : Nat → FieldType := fun k => match k with
  | 0 => .array .int
  | _ => .array .int
abbrev wsX10 : List Cond := u_ws RX1 TX1 2
theorem nmX1 : ∀ a, a < 2 → ∀ b, b < 2 → a ≠ b → (TX1 a).2.1 ≠ (TX1 b).2.1 := by decide +kernel
theorem tyX1_ok : ∀ k, k < 2 → parseFieldDescriptor (TX1 k).2.2.1 = some (tyX1 k) := by decide +kernel
abbrev cX1_init : ByteArray := prog_3_method_1_code
def yX1_init : MethodName := ⟨RX1, "<init>", "()V"⟩
def dkwX1_init_1 : List UInt8 := [177]
abbrev dktX1_init_1 : List UInt8 := dkwX1_init_1 ++ []
def dkwX1_init_0 : List UInt8 := [42, 183, 0, 1, 42, 16, 48, 188, 10, 181, 0, 9, 42, 16, 48, 188, 10, 181, 0, 13, 42, 182, 0, 16]
abbrev dktX1_init_0 : List UInt8 := dkwX1_init_0 ++ dktX1_init_1
theorem dksX1_init_0 : cX1_init.data.toList.drop 0 = dktX1_init_0 := by decide +kernel
theorem dksX1_init_1 : cX1_init.data.toList.drop 24 = dktX1_init_1 := dk_seg dksX1_init_0 24 rfl rfl
theorem dX1_init_0 : decode cX1_init 0 = .ok (.aload_n 0, 1) := dk_42 (dk_at dksX1_init_0 0 rfl rfl)
theorem dX1_init_1 : decode cX1_init 1 = .ok (.invokespecial 1, 3) := dk_183 0 1 (dk_at dksX1_init_0 1 rfl rfl)
theorem dX1_init_4 : decode cX1_init 4 = .ok (.aload_n 0, 1) := dk_42 (dk_at dksX1_init_0 4 rfl rfl)
theorem dX1_init_5 : decode cX1_init 5 = .ok (.bipush 48, 2) := dk_16 48 (dk_at dksX1_init_0 5 rfl rfl)
theorem dX1_init_7 : decode cX1_init 7 = .ok (.newarray .int, 2) := dk_188_10 (dk_at dksX1_init_0 7 rfl rfl)
theorem dX1_init_9 : decode cX1_init 9 = .ok (.putfield 9, 3) := dk_181 0 9 (dk_at dksX1_init_0 9 rfl rfl)
theorem dX1_init_12 : decode cX1_init 12 = .ok (.aload_n 0, 1) := dk_42 (dk_at dksX1_init_0 12 rfl rfl)
theorem dX1_init_13 : decode cX1_init 13 = .ok (.bipush 48, 2) := dk_16 48 (dk_at dksX1_init_0 13 rfl rfl)
theorem dX1_init_15 : decode cX1_init 15 = .ok (.newarray .int, 2) := dk_188_10 (dk_at dksX1_init_0 15 rfl rfl)
theorem dX1_init_17 : decode cX1_init 17 = .ok (.putfield 13, 3) := dk_181 0 13 (dk_at dksX1_init_0 17 rfl rfl)
theorem dX1_init_20 : decode cX1_init 20 = .ok (.aload_n 0, 1) := dk_42 (dk_at dksX1_init_0 20 rfl rfl)
theorem dX1_init_21 : decode cX1_init 21 = .ok (.invokevirtual 16, 3) := dk_182 0 16 (dk_at dksX1_init_0 21 rfl rfl)
theorem dX1_init_24 : decode cX1_init 24 = .ok (.return_, 1) := dk_177 (dk_at dksX1_init_1 0 rfl rfl)
abbrev cX1_anew : ByteArray := prog_3_method_5_code
def yX1_anew : MethodName := ⟨RX1, "anew", "()V"⟩
def dkwX1_anew_0 : List UInt8 := [3, 60, 27, 16, 48, 162, 0, 16, 42, 180, 0, 13, 27, 27, 79, 132, 1, 1, 167, 255, 240, 177]
abbrev dktX1_anew_0 : List UInt8 := dkwX1_anew_0 ++ []
theorem dksX1_anew_0 : cX1_anew.data.toList.drop 0 = dktX1_anew_0 := by decide +kernel
theorem dX1_anew_0 : decode cX1_anew 0 = .ok (.iconst 0, 1) := dk_3 (dk_at dksX1_anew_0 0 rfl rfl)
theorem dX1_anew_1 : decode cX1_anew 1 = .ok (.istore_n 1, 1) := dk_60 (dk_at dksX1_anew_0 1 rfl rfl)
theorem dX1_anew_2 : decode cX1_anew 2 = .ok (.iload_n 1, 1) := dk_27 (dk_at dksX1_anew_0 2 rfl rfl)
theorem dX1_anew_3 : decode cX1_anew 3 = .ok (.bipush 48, 2) := dk_16 48 (dk_at dksX1_anew_0 3 rfl rfl)
theorem dX1_anew_5 : decode cX1_anew 5 = .ok (.if_icmp .ge 16, 3) := dk_162 0 16 (dk_at dksX1_anew_0 5 rfl rfl)
theorem dX1_anew_8 : decode cX1_anew 8 = .ok (.aload_n 0, 1) := dk_42 (dk_at dksX1_anew_0 8 rfl rfl)
theorem dX1_anew_9 : decode cX1_anew 9 = .ok (.getfield 13, 3) := dk_180 0 13 (dk_at dksX1_anew_0 9 rfl rfl)
theorem dX1_anew_12 : decode cX1_anew 12 = .ok (.iload_n 1, 1) := dk_27 (dk_at dksX1_anew_0 12 rfl rfl)
theorem dX1_anew_13 : decode cX1_anew 13 = .ok (.iload_n 1, 1) := dk_27 (dk_at dksX1_anew_0 13 rfl rfl)
theorem dX1_anew_14 : decode cX1_anew 14 = .ok (.iastore, 1) := dk_79 (dk_at dksX1_anew_0 14 rfl rfl)
theorem dX1_anew_15 : decode cX1_anew 15 = .ok (.iinc 1 1, 3) := dk_132 1 1 (dk_at dksX1_anew_0 15 rfl rfl)
theorem dX1_anew_18 : decode cX1_anew 18 = .ok (.goto (-16), 3) := dk_167 255 240 (dk_at dksX1_anew_0 18 rfl rfl)
theorem dX1_anew_21 : decode cX1_anew 21 = .ok (.return_, 1) := dk_177 (dk_at dksX1_anew_0 21 rfl rfl)
abbrev cX1_set : ByteArray := prog_3_method_6_code
def yX1_set : MethodName := ⟨RX1, "set", "(II)V"⟩
def dkwX1_set_0 : List UInt8 := [42, 180, 0, 9, 27, 184, 0, 20, 28, 79, 177]
abbrev dktX1_set_0 : List UInt8 := dkwX1_set_0 ++ []
theorem dksX1_set_0 : cX1_set.data.toList.drop 0 = dktX1_set_0 := by decide +kernel
theorem dX1_set_0 : decode cX1_set 0 = .ok (.aload_n 0, 1) := dk_42 (dk_at dksX1_set_0 0 rfl rfl)
theorem dX1_set_1 : decode cX1_set 1 = .ok (.getfield 9, 3) := dk_180 0 9 (dk_at dksX1_set_0 1 rfl rfl)
theorem dX1_set_4 : decode cX1_set 4 = .ok (.iload_n 1, 1) := dk_27 (dk_at dksX1_set_0 4 rfl rfl)
theorem dX1_set_5 : decode cX1_set 5 = .ok (.invokestatic 20, 3) := dk_184 0 20 (dk_at dksX1_set_0 5 rfl rfl)
theorem dX1_set_8 : decode cX1_set 8 = .ok (.iload_n 2, 1) := dk_28 (dk_at dksX1_set_0 8 rfl rfl)
theorem dX1_set_9 : decode cX1_set 9 = .ok (.iastore, 1) := dk_79 (dk_at dksX1_set_0 9 rfl rfl)
theorem dX1_set_10 : decode cX1_set 10 = .ok (.return_, 1) := dk_177 (dk_at dksX1_set_0 10 rfl rfl)
abbrev cX1_cell : ByteArray := prog_3_method_2_code
def yX1_cell : MethodName := ⟨RX1, "cell", "(I)I"⟩
def dkwX1_cell_0 : List UInt8 := [26, 18, 19, 126, 16, 48, 112, 172]
abbrev dktX1_cell_0 : List UInt8 := dkwX1_cell_0 ++ []
theorem dksX1_cell_0 : cX1_cell.data.toList.drop 0 = dktX1_cell_0 := by decide +kernel
theorem dX1_cell_0 : decode cX1_cell 0 = .ok (.iload_n 0, 1) := dk_26 (dk_at dksX1_cell_0 0 rfl rfl)
theorem dX1_cell_1 : decode cX1_cell 1 = .ok (.ldc 19, 2) := dk_18 19 (dk_at dksX1_cell_0 1 rfl rfl)
theorem dX1_cell_3 : decode cX1_cell 3 = .ok (.iand, 1) := dk_126 (dk_at dksX1_cell_0 3 rfl rfl)
theorem dX1_cell_4 : decode cX1_cell 4 = .ok (.bipush 48, 2) := dk_16 48 (dk_at dksX1_cell_0 4 rfl rfl)
theorem dX1_cell_6 : decode cX1_cell 6 = .ok (.irem, 1) := dk_112 (dk_at dksX1_cell_0 6 rfl rfl)
theorem dX1_cell_7 : decode cX1_cell 7 = .ok (.ireturn, 1) := dk_172 (dk_at dksX1_cell_0 7 rfl rfl)
abbrev cX1_few : ByteArray := prog_3_method_7_code
def yX1_few : MethodName := ⟨RX1, "few", "(II)V"⟩
def dkwX1_few_0 : List UInt8 := [42, 180, 0, 9, 27, 184, 0, 20, 28, 6, 126, 79, 177]
abbrev dktX1_few_0 : List UInt8 := dkwX1_few_0 ++ []
theorem dksX1_few_0 : cX1_few.data.toList.drop 0 = dktX1_few_0 := by decide +kernel
theorem dX1_few_0 : decode cX1_few 0 = .ok (.aload_n 0, 1) := dk_42 (dk_at dksX1_few_0 0 rfl rfl)
theorem dX1_few_1 : decode cX1_few 1 = .ok (.getfield 9, 3) := dk_180 0 9 (dk_at dksX1_few_0 1 rfl rfl)
theorem dX1_few_4 : decode cX1_few 4 = .ok (.iload_n 1, 1) := dk_27 (dk_at dksX1_few_0 4 rfl rfl)
theorem dX1_few_5 : decode cX1_few 5 = .ok (.invokestatic 20, 3) := dk_184 0 20 (dk_at dksX1_few_0 5 rfl rfl)
theorem dX1_few_8 : decode cX1_few 8 = .ok (.iload_n 2, 1) := dk_28 (dk_at dksX1_few_0 8 rfl rfl)
theorem dX1_few_9 : decode cX1_few 9 = .ok (.iconst 3, 1) := dk_6 (dk_at dksX1_few_0 9 rfl rfl)
theorem dX1_few_10 : decode cX1_few 10 = .ok (.iand, 1) := dk_126 (dk_at dksX1_few_0 10 rfl rfl)
theorem dX1_few_11 : decode cX1_few 11 = .ok (.iastore, 1) := dk_79 (dk_at dksX1_few_0 11 rfl rfl)
theorem dX1_few_12 : decode cX1_few 12 = .ok (.return_, 1) := dk_177 (dk_at dksX1_few_0 12 rfl rfl)
abbrev cX1_get : ByteArray := prog_3_method_8_code
def yX1_get : MethodName := ⟨RX1, "get", "(I)I"⟩
def dkwX1_get_0 : List UInt8 := [42, 180, 0, 9, 27, 184, 0, 20, 46, 172]
abbrev dktX1_get_0 : List UInt8 := dkwX1_get_0 ++ []
theorem dksX1_get_0 : cX1_get.data.toList.drop 0 = dktX1_get_0 := by decide +kernel
theorem dX1_get_0 : decode cX1_get 0 = .ok (.aload_n 0, 1) := dk_42 (dk_at dksX1_get_0 0 rfl rfl)
theorem dX1_get_1 : decode cX1_get 1 = .ok (.getfield 9, 3) := dk_180 0 9 (dk_at dksX1_get_0 1 rfl rfl)
theorem dX1_get_4 : decode cX1_get 4 = .ok (.iload_n 1, 1) := dk_27 (dk_at dksX1_get_0 4 rfl rfl)
theorem dX1_get_5 : decode cX1_get 5 = .ok (.invokestatic 20, 3) := dk_184 0 20 (dk_at dksX1_get_0 5 rfl rfl)
theorem dX1_get_8 : decode cX1_get 8 = .ok (.iaload, 1) := dk_46 (dk_at dksX1_get_0 8 rfl rfl)
theorem dX1_get_9 : decode cX1_get 9 = .ok (.ireturn, 1) := dk_172 (dk_at dksX1_get_0 9 rfl rfl)
abbrev cX1_place : ByteArray := prog_3_method_9_code
def yX1_place : MethodName := ⟨RX1, "place", "(I)I"⟩
def dkwX1_place_0 : List UInt8 := [42, 180, 0, 13, 27, 184, 0, 20, 46, 172]
abbrev dktX1_place_0 : List UInt8 := dkwX1_place_0 ++ []
theorem dksX1_place_0 : cX1_place.data.toList.drop 0 = dktX1_place_0 := by decide +kernel
theorem dX1_place_0 : decode cX1_place 0 = .ok (.aload_n 0, 1) := dk_42 (dk_at dksX1_place_0 0 rfl rfl)
theorem dX1_place_1 : decode cX1_place 1 = .ok (.getfield 13, 3) := dk_180 0 13 (dk_at dksX1_place_0 1 rfl rfl)
theorem dX1_place_4 : decode cX1_place 4 = .ok (.iload_n 1, 1) := dk_27 (dk_at dksX1_place_0 4 rfl rfl)
theorem dX1_place_5 : decode cX1_place 5 = .ok (.invokestatic 20, 3) := dk_184 0 20 (dk_at dksX1_place_0 5 rfl rfl)
theorem dX1_place_8 : decode cX1_place 8 = .ok (.iaload, 1) := dk_46 (dk_at dksX1_place_0 8 rfl rfl)
theorem dX1_place_9 : decode cX1_place 9 = .ok (.ireturn, 1) := dk_172 (dk_at dksX1_place_0 9 rfl rfl)
abbrev cX1_radix : ByteArray := prog_3_method_11_code
def yX1_radix : MethodName := ⟨RX1, "radix", "(II)V"⟩
def dkwX1_radix_0 : List UInt8 := [27, 184, 0, 24, 62, 42, 29, 29, 28, 184, 0, 27, 182, 0, 31, 177]
abbrev dktX1_radix_0 : List UInt8 := dkwX1_radix_0 ++ []
theorem dksX1_radix_0 : cX1_radix.data.toList.drop 0 = dktX1_radix_0 := by decide +kernel
theorem dX1_radix_0 : decode cX1_radix 0 = .ok (.iload_n 1, 1) := dk_27 (dk_at dksX1_radix_0 0 rfl rfl)
theorem dX1_radix_1 : decode cX1_radix 1 = .ok (.invokestatic 24, 3) := dk_184 0 24 (dk_at dksX1_radix_0 1 rfl rfl)
theorem dX1_radix_4 : decode cX1_radix 4 = .ok (.istore_n 3, 1) := dk_62 (dk_at dksX1_radix_0 4 rfl rfl)
theorem dX1_radix_5 : decode cX1_radix 5 = .ok (.aload_n 0, 1) := dk_42 (dk_at dksX1_radix_0 5 rfl rfl)
theorem dX1_radix_6 : decode cX1_radix 6 = .ok (.iload_n 3, 1) := dk_29 (dk_at dksX1_radix_0 6 rfl rfl)
theorem dX1_radix_7 : decode cX1_radix 7 = .ok (.iload_n 3, 1) := dk_29 (dk_at dksX1_radix_0 7 rfl rfl)
theorem dX1_radix_8 : decode cX1_radix 8 = .ok (.iload_n 2, 1) := dk_28 (dk_at dksX1_radix_0 8 rfl rfl)
theorem dX1_radix_9 : decode cX1_radix 9 = .ok (.invokestatic 27, 3) := dk_184 0 27 (dk_at dksX1_radix_0 9 rfl rfl)
theorem dX1_radix_12 : decode cX1_radix 12 = .ok (.invokevirtual 31, 3) := dk_182 0 31 (dk_at dksX1_radix_0 12 rfl rfl)
theorem dX1_radix_15 : decode cX1_radix 15 = .ok (.return_, 1) := dk_177 (dk_at dksX1_radix_0 15 rfl rfl)
abbrev cX1_from : ByteArray := prog_3_method_3_code
def yX1_from : MethodName := ⟨RX1, "from", "(I)I"⟩
def dkwX1_from_0 : List UInt8 := [26, 18, 19, 126, 16, 49, 112, 172]
abbrev dktX1_from_0 : List UInt8 := dkwX1_from_0 ++ []
theorem dksX1_from_0 : cX1_from.data.toList.drop 0 = dktX1_from_0 := by decide +kernel
theorem dX1_from_0 : decode cX1_from 0 = .ok (.iload_n 0, 1) := dk_26 (dk_at dksX1_from_0 0 rfl rfl)
theorem dX1_from_1 : decode cX1_from 1 = .ok (.ldc 19, 2) := dk_18 19 (dk_at dksX1_from_0 1 rfl rfl)
theorem dX1_from_3 : decode cX1_from 3 = .ok (.iand, 1) := dk_126 (dk_at dksX1_from_0 3 rfl rfl)
theorem dX1_from_4 : decode cX1_from 4 = .ok (.bipush 49, 2) := dk_16 49 (dk_at dksX1_from_0 4 rfl rfl)
theorem dX1_from_6 : decode cX1_from 6 = .ok (.irem, 1) := dk_112 (dk_at dksX1_from_0 6 rfl rfl)
theorem dX1_from_7 : decode cX1_from 7 = .ok (.ireturn, 1) := dk_172 (dk_at dksX1_from_0 7 rfl rfl)
abbrev cX1_to : ByteArray := prog_3_method_4_code
def yX1_to : MethodName := ⟨RX1, "to", "(II)I"⟩
def dkwX1_to_0 : List UInt8 := [26, 27, 18, 19, 126, 16, 49, 26, 100, 112, 96, 172]
abbrev dktX1_to_0 : List UInt8 := dkwX1_to_0 ++ []
theorem dksX1_to_0 : cX1_to.data.toList.drop 0 = dktX1_to_0 := by decide +kernel
theorem dX1_to_0 : decode cX1_to 0 = .ok (.iload_n 0, 1) := dk_26 (dk_at dksX1_to_0 0 rfl rfl)
theorem dX1_to_1 : decode cX1_to 1 = .ok (.iload_n 1, 1) := dk_27 (dk_at dksX1_to_0 1 rfl rfl)
theorem dX1_to_2 : decode cX1_to 2 = .ok (.ldc 19, 2) := dk_18 19 (dk_at dksX1_to_0 2 rfl rfl)
theorem dX1_to_4 : decode cX1_to 4 = .ok (.iand, 1) := dk_126 (dk_at dksX1_to_0 4 rfl rfl)
theorem dX1_to_5 : decode cX1_to 5 = .ok (.bipush 49, 2) := dk_16 49 (dk_at dksX1_to_0 5 rfl rfl)
theorem dX1_to_7 : decode cX1_to 7 = .ok (.iload_n 0, 1) := dk_26 (dk_at dksX1_to_0 7 rfl rfl)
theorem dX1_to_8 : decode cX1_to 8 = .ok (.isub, 1) := dk_100 (dk_at dksX1_to_0 8 rfl rfl)
theorem dX1_to_9 : decode cX1_to 9 = .ok (.irem, 1) := dk_112 (dk_at dksX1_to_0 9 rfl rfl)
theorem dX1_to_10 : decode cX1_to 10 = .ok (.iadd, 1) := dk_96 (dk_at dksX1_to_0 10 rfl rfl)
theorem dX1_to_11 : decode cX1_to 11 = .ok (.ireturn, 1) := dk_172 (dk_at dksX1_to_0 11 rfl rfl)
abbrev cX1_order : ByteArray := prog_3_method_10_code
def yX1_order : MethodName := ⟨RX1, "order", "(II)V"⟩
def dkwX1_order_3 : List UInt8 := [132, 5, 1, 167, 255, 199, 42, 180, 0, 13, 27, 21, 4, 96, 29, 79, 132, 3, 1, 167, 255, 172, 177]
abbrev dktX1_order_3 : List UInt8 := dkwX1_order_3 ++ []
def dkwX1_order_2 : List UInt8 := [180, 0, 9, 29, 46, 160, 0, 13, 21, 5, 29, 162, 0, 7, 4, 167, 0, 4, 3, 96, 54, 4]
abbrev dktX1_order_2 : List UInt8 := dkwX1_order_2 ++ dktX1_order_3
def dkwX1_order_1 : List UInt8 := [180, 0, 9, 21, 5, 46, 42, 180, 0, 9, 29, 46, 161, 0, 25, 42, 180, 0, 9, 21, 5, 46, 42]
abbrev dktX1_order_1 : List UInt8 := dkwX1_order_1 ++ dktX1_order_2
def dkwX1_order_0 : List UInt8 := [27, 62, 29, 28, 162, 0, 85, 3, 54, 4, 27, 54, 5, 21, 5, 28, 162, 0, 57, 21, 4, 42]
abbrev dktX1_order_0 : List UInt8 := dkwX1_order_0 ++ dktX1_order_1
theorem dksX1_order_0 : cX1_order.data.toList.drop 0 = dktX1_order_0 := by decide +kernel
theorem dksX1_order_1 : cX1_order.data.toList.drop 22 = dktX1_order_1 := dk_seg dksX1_order_0 22 rfl rfl
theorem dksX1_order_2 : cX1_order.data.toList.drop 45 = dktX1_order_2 := dk_seg dksX1_order_1 23 rfl rfl
theorem dksX1_order_3 : cX1_order.data.toList.drop 67 = dktX1_order_3 := dk_seg dksX1_order_2 22 rfl rfl
theorem dX1_order_0 : decode cX1_order 0 = .ok (.iload_n 1, 1) := dk_27 (dk_at dksX1_order_0 0 rfl rfl)
theorem dX1_order_1 : decode cX1_order 1 = .ok (.istore_n 3, 1) := dk_62 (dk_at dksX1_order_0 1 rfl rfl)
theorem dX1_order_2 : decode cX1_order 2 = .ok (.iload_n 3, 1) := dk_29 (dk_at dksX1_order_0 2 rfl rfl)
theorem dX1_order_3 : decode cX1_order 3 = .ok (.iload_n 2, 1) := dk_28 (dk_at dksX1_order_0 3 rfl rfl)
theorem dX1_order_4 : decode cX1_order 4 = .ok (.if_icmp .ge 85, 3) := dk_162 0 85 (dk_at dksX1_order_0 4 rfl rfl)
theorem dX1_order_7 : decode cX1_order 7 = .ok (.iconst 0, 1) := dk_3 (dk_at dksX1_order_0 7 rfl rfl)
theorem dX1_order_8 : decode cX1_order 8 = .ok (.istore 4, 2) := dk_54 4 (dk_at dksX1_order_0 8 rfl rfl)
theorem dX1_order_10 : decode cX1_order 10 = .ok (.iload_n 1, 1) := dk_27 (dk_at dksX1_order_0 10 rfl rfl)
theorem dX1_order_11 : decode cX1_order 11 = .ok (.istore 5, 2) := dk_54 5 (dk_at dksX1_order_0 11 rfl rfl)
theorem dX1_order_13 : decode cX1_order 13 = .ok (.iload 5, 2) := dk_21 5 (dk_at dksX1_order_0 13 rfl rfl)
theorem dX1_order_15 : decode cX1_order 15 = .ok (.iload_n 2, 1) := dk_28 (dk_at dksX1_order_0 15 rfl rfl)
theorem dX1_order_16 : decode cX1_order 16 = .ok (.if_icmp .ge 57, 3) := dk_162 0 57 (dk_at dksX1_order_0 16 rfl rfl)
theorem dX1_order_19 : decode cX1_order 19 = .ok (.iload 4, 2) := dk_21 4 (dk_at dksX1_order_0 19 rfl rfl)
theorem dX1_order_21 : decode cX1_order 21 = .ok (.aload_n 0, 1) := dk_42 (dk_at dksX1_order_0 21 rfl rfl)
theorem dX1_order_22 : decode cX1_order 22 = .ok (.getfield 9, 3) := dk_180 0 9 (dk_at dksX1_order_1 0 rfl rfl)
theorem dX1_order_25 : decode cX1_order 25 = .ok (.iload 5, 2) := dk_21 5 (dk_at dksX1_order_1 3 rfl rfl)
theorem dX1_order_27 : decode cX1_order 27 = .ok (.iaload, 1) := dk_46 (dk_at dksX1_order_1 5 rfl rfl)
theorem dX1_order_28 : decode cX1_order 28 = .ok (.aload_n 0, 1) := dk_42 (dk_at dksX1_order_1 6 rfl rfl)
theorem dX1_order_29 : decode cX1_order 29 = .ok (.getfield 9, 3) := dk_180 0 9 (dk_at dksX1_order_1 7 rfl rfl)
theorem dX1_order_32 : decode cX1_order 32 = .ok (.iload_n 3, 1) := dk_29 (dk_at dksX1_order_1 10 rfl rfl)
theorem dX1_order_33 : decode cX1_order 33 = .ok (.iaload, 1) := dk_46 (dk_at dksX1_order_1 11 rfl rfl)
theorem dX1_order_34 : decode cX1_order 34 = .ok (.if_icmp .lt 25, 3) := dk_161 0 25 (dk_at dksX1_order_1 12 rfl rfl)
theorem dX1_order_37 : decode cX1_order 37 = .ok (.aload_n 0, 1) := dk_42 (dk_at dksX1_order_1 15 rfl rfl)
theorem dX1_order_38 : decode cX1_order 38 = .ok (.getfield 9, 3) := dk_180 0 9 (dk_at dksX1_order_1 16 rfl rfl)
theorem dX1_order_41 : decode cX1_order 41 = .ok (.iload 5, 2) := dk_21 5 (dk_at dksX1_order_1 19 rfl rfl)
theorem dX1_order_43 : decode cX1_order 43 = .ok (.iaload, 1) := dk_46 (dk_at dksX1_order_1 21 rfl rfl)
theorem dX1_order_44 : decode cX1_order 44 = .ok (.aload_n 0, 1) := dk_42 (dk_at dksX1_order_1 22 rfl rfl)
theorem dX1_order_45 : decode cX1_order 45 = .ok (.getfield 9, 3) := dk_180 0 9 (dk_at dksX1_order_2 0 rfl rfl)
theorem dX1_order_48 : decode cX1_order 48 = .ok (.iload_n 3, 1) := dk_29 (dk_at dksX1_order_2 3 rfl rfl)
theorem dX1_order_49 : decode cX1_order 49 = .ok (.iaload, 1) := dk_46 (dk_at dksX1_order_2 4 rfl rfl)
theorem dX1_order_50 : decode cX1_order 50 = .ok (.if_icmp .ne 13, 3) := dk_160 0 13 (dk_at dksX1_order_2 5 rfl rfl)
theorem dX1_order_53 : decode cX1_order 53 = .ok (.iload 5, 2) := dk_21 5 (dk_at dksX1_order_2 8 rfl rfl)
theorem dX1_order_55 : decode cX1_order 55 = .ok (.iload_n 3, 1) := dk_29 (dk_at dksX1_order_2 10 rfl rfl)
theorem dX1_order_56 : decode cX1_order 56 = .ok (.if_icmp .ge 7, 3) := dk_162 0 7 (dk_at dksX1_order_2 11 rfl rfl)
theorem dX1_order_59 : decode cX1_order 59 = .ok (.iconst 1, 1) := dk_4 (dk_at dksX1_order_2 14 rfl rfl)
theorem dX1_order_60 : decode cX1_order 60 = .ok (.goto 4, 3) := dk_167 0 4 (dk_at dksX1_order_2 15 rfl rfl)
theorem dX1_order_63 : decode cX1_order 63 = .ok (.iconst 0, 1) := dk_3 (dk_at dksX1_order_2 18 rfl rfl)
theorem dX1_order_64 : decode cX1_order 64 = .ok (.iadd, 1) := dk_96 (dk_at dksX1_order_2 19 rfl rfl)
theorem dX1_order_65 : decode cX1_order 65 = .ok (.istore 4, 2) := dk_54 4 (dk_at dksX1_order_2 20 rfl rfl)
theorem dX1_order_67 : decode cX1_order 67 = .ok (.iinc 5 1, 3) := dk_132 5 1 (dk_at dksX1_order_3 0 rfl rfl)
theorem dX1_order_70 : decode cX1_order 70 = .ok (.goto (-57), 3) := dk_167 255 199 (dk_at dksX1_order_3 3 rfl rfl)
theorem dX1_order_73 : decode cX1_order 73 = .ok (.aload_n 0, 1) := dk_42 (dk_at dksX1_order_3 6 rfl rfl)
theorem dX1_order_74 : decode cX1_order 74 = .ok (.getfield 13, 3) := dk_180 0 13 (dk_at dksX1_order_3 7 rfl rfl)
theorem dX1_order_77 : decode cX1_order 77 = .ok (.iload_n 1, 1) := dk_27 (dk_at dksX1_order_3 10 rfl rfl)
theorem dX1_order_78 : decode cX1_order 78 = .ok (.iload 4, 2) := dk_21 4 (dk_at dksX1_order_3 11 rfl rfl)
theorem dX1_order_80 : decode cX1_order 80 = .ok (.iadd, 1) := dk_96 (dk_at dksX1_order_3 13 rfl rfl)
theorem dX1_order_81 : decode cX1_order 81 = .ok (.iload_n 3, 1) := dk_29 (dk_at dksX1_order_3 14 rfl rfl)
theorem dX1_order_82 : decode cX1_order 82 = .ok (.iastore, 1) := dk_79 (dk_at dksX1_order_3 15 rfl rfl)
theorem dX1_order_83 : decode cX1_order 83 = .ok (.iinc 3 1, 3) := dk_132 3 1 (dk_at dksX1_order_3 16 rfl rfl)
theorem dX1_order_86 : decode cX1_order 86 = .ok (.goto (-84), 3) := dk_167 255 172 (dk_at dksX1_order_3 19 rfl rfl)
theorem dX1_order_89 : decode cX1_order 89 = .ok (.return_, 1) := dk_177 (dk_at dksX1_order_3 22 rfl rfl)
abbrev cX1_quick : ByteArray := prog_3_method_12_code
def yX1_quick : MethodName := ⟨RX1, "quick", "(II)V"⟩
def dkwX1_quick_0 : List UInt8 := [27, 184, 0, 24, 62, 42, 29, 29, 28, 184, 0, 27, 182, 0, 31, 177]
abbrev dktX1_quick_0 : List UInt8 := dkwX1_quick_0 ++ []
theorem dksX1_quick_0 : cX1_quick.data.toList.drop 0 = dktX1_quick_0 := by decide +kernel
theorem dX1_quick_0 : decode cX1_quick 0 = .ok (.iload_n 1, 1) := dk_27 (dk_at dksX1_quick_0 0 rfl rfl)
theorem dX1_quick_1 : decode cX1_quick 1 = .ok (.invokestatic 24, 3) := dk_184 0 24 (dk_at dksX1_quick_0 1 rfl rfl)
theorem dX1_quick_4 : decode cX1_quick 4 = .ok (.istore_n 3, 1) := dk_62 (dk_at dksX1_quick_0 4 rfl rfl)
theorem dX1_quick_5 : decode cX1_quick 5 = .ok (.aload_n 0, 1) := dk_42 (dk_at dksX1_quick_0 5 rfl rfl)
theorem dX1_quick_6 : decode cX1_quick 6 = .ok (.iload_n 3, 1) := dk_29 (dk_at dksX1_quick_0 6 rfl rfl)
theorem dX1_quick_7 : decode cX1_quick 7 = .ok (.iload_n 3, 1) := dk_29 (dk_at dksX1_quick_0 7 rfl rfl)
theorem dX1_quick_8 : decode cX1_quick 8 = .ok (.iload_n 2, 1) := dk_28 (dk_at dksX1_quick_0 8 rfl rfl)
theorem dX1_quick_9 : decode cX1_quick 9 = .ok (.invokestatic 27, 3) := dk_184 0 27 (dk_at dksX1_quick_0 9 rfl rfl)
theorem dX1_quick_12 : decode cX1_quick 12 = .ok (.invokevirtual 31, 3) := dk_182 0 31 (dk_at dksX1_quick_0 12 rfl rfl)
theorem dX1_quick_15 : decode cX1_quick 15 = .ok (.return_, 1) := dk_177 (dk_at dksX1_quick_0 15 rfl rfl)
theorem q6 : (Jvm.Cond.initialized "IndirectSortDeskModel") ∈ lw_all := lw_g (lw_at lw_m0 2 rfl) rfl
theorem q118 : (Jvm.Cond.instantiable "IndirectSortDeskModel" (2 : Nat)) ∈ lw_all := lw_g (lw_at lw_m0 114 rfl) rfl
theorem q120 : (Jvm.Cond.instanceMethod ({ cls := "IndirectSortDeskModel", name := "<init>", desc := "()V" } : Jvm.MethodName)) ∈ lw_all := lw_g (lw_at lw_m0 116 rfl) rfl
theorem q121 : (Jvm.Cond.code ({ cls := "IndirectSortDeskModel", name := "<init>", desc := "()V" } : Jvm.MethodName) prog_3_method_1_code (1 : Nat) (Option.none : Option Jvm.ClassFile.FieldType)) ∈ lw_all := lw_g (lw_at lw_m0 117 rfl) rfl
theorem q122 : (Jvm.Cond.methodLink "IndirectSortDeskModel" (1 : Nat) ({ cls := "java/lang/Object", name := "<init>", desc := "()V" } : Jvm.MethodName)) ∈ lw_all := lw_g (lw_at lw_m0 118 rfl) rfl
theorem q123 : (Jvm.Cond.methodLink "IndirectSortDeskModel" (16 : Nat) ({ cls := "IndirectSortDeskModel", name := "anew", desc := "()V" } : Jvm.MethodName)) ∈ lw_all := lw_g (lw_at lw_m0 119 rfl) rfl
theorem q124 : (Jvm.Cond.instanceMethod ({ cls := "IndirectSortDeskModel", name := "anew", desc := "()V" } : Jvm.MethodName)) ∈ lw_all := lw_g (lw_at lw_m0 120 rfl) rfl
theorem q125 : (Jvm.Cond.selects "IndirectSortDeskModel" ({ cls := "IndirectSortDeskModel", name := "anew", desc := "()V" } : Jvm.MethodName) ({ cls := "IndirectSortDeskModel", name := "anew", desc := "()V" } : Jvm.MethodName)) ∈ lw_all := lw_g (lw_at lw_m0 121 rfl) rfl
theorem q126 : (Jvm.Cond.code ({ cls := "IndirectSortDeskModel", name := "anew", desc := "()V" } : Jvm.MethodName) prog_3_method_5_code (2 : Nat) (Option.none : Option Jvm.ClassFile.FieldType)) ∈ lw_all := lw_g (lw_at lw_m0 122 rfl) rfl
theorem q127 : (Jvm.Cond.fieldLink "IndirectSortDeskModel" (9 : Nat) "IndirectSortDeskModel" "row" "[I") ∈ lw_all := lw_g (lw_at lw_m0 123 rfl) rfl
theorem q128 : (Jvm.Cond.fieldLink "IndirectSortDeskModel" (13 : Nat) "IndirectSortDeskModel" "places" "[I") ∈ lw_all := lw_g (lw_at lw_m0 124 rfl) rfl
theorem q129 : (Jvm.Cond.laysFinal "IndirectSortDeskModel" "IndirectSortDeskModel" "row" "[I") ∈ lw_all := lw_g (lw_at lw_m0 125 rfl) rfl
theorem q130 : (Jvm.Cond.soleField "IndirectSortDeskModel" "row") ∈ lw_all := lw_g (lw_at lw_m0 126 rfl) rfl
theorem q131 : (Jvm.Cond.laysFinal "IndirectSortDeskModel" "IndirectSortDeskModel" "places" "[I") ∈ lw_all := lw_g (lw_at lw_m0 127 rfl) rfl
theorem q132 : (Jvm.Cond.soleField "IndirectSortDeskModel" "places") ∈ lw_all := lw_g (lw_at lw_m0 128 rfl) rfl
theorem q133 : (Jvm.Cond.superclass "IndirectSortDeskModel" "java/lang/Object") ∈ lw_all := lw_g (lw_at lw_m0 129 rfl) rfl
theorem q136 : (Jvm.Cond.instanceMethod ({ cls := "IndirectSortDeskModel", name := "set", desc := "(II)V" } : Jvm.MethodName)) ∈ lw_all := lw_g (lw_at lw_m0 132 rfl) rfl
theorem q137 : (Jvm.Cond.selects "IndirectSortDeskModel" ({ cls := "IndirectSortDeskModel", name := "set", desc := "(II)V" } : Jvm.MethodName) ({ cls := "IndirectSortDeskModel", name := "set", desc := "(II)V" } : Jvm.MethodName)) ∈ lw_all := lw_g (lw_at lw_m0 133 rfl) rfl
theorem q138 : (Jvm.Cond.code ({ cls := "IndirectSortDeskModel", name := "set", desc := "(II)V" } : Jvm.MethodName) prog_3_method_6_code (3 : Nat) (Option.none : Option Jvm.ClassFile.FieldType)) ∈ lw_all := lw_g (lw_at lw_m0 134 rfl) rfl
theorem q139 : (Jvm.Cond.methodLink "IndirectSortDeskModel" (20 : Nat) ({ cls := "IndirectSortDeskModel", name := "cell", desc := "(I)I" } : Jvm.MethodName)) ∈ lw_all := lw_g (lw_at lw_m0 135 rfl) rfl
theorem q140 : (Jvm.Cond.static ({ cls := "IndirectSortDeskModel", name := "cell", desc := "(I)I" } : Jvm.MethodName)) ∈ lw_all := lw_g (lw_at lw_m0 136 rfl) rfl
theorem q141 : (Jvm.Cond.code ({ cls := "IndirectSortDeskModel", name := "cell", desc := "(I)I" } : Jvm.MethodName) prog_3_method_2_code (1 : Nat) (Option.some Jvm.ClassFile.FieldType.int)) ∈ lw_all := lw_g (lw_at lw_m0 137 rfl) rfl
theorem q142 : (Jvm.Cond.constant "IndirectSortDeskModel" (19 : Nat) (2147483647 : Int32)) ∈ lw_all := lw_g (lw_at lw_m0 138 rfl) rfl
theorem q144 : (Jvm.Cond.instanceMethod ({ cls := "IndirectSortDeskModel", name := "few", desc := "(II)V" } : Jvm.MethodName)) ∈ lw_all := lw_g (lw_at lw_m0 140 rfl) rfl
theorem q145 : (Jvm.Cond.selects "IndirectSortDeskModel" ({ cls := "IndirectSortDeskModel", name := "few", desc := "(II)V" } : Jvm.MethodName) ({ cls := "IndirectSortDeskModel", name := "few", desc := "(II)V" } : Jvm.MethodName)) ∈ lw_all := lw_g (lw_at lw_m0 141 rfl) rfl
theorem q146 : (Jvm.Cond.code ({ cls := "IndirectSortDeskModel", name := "few", desc := "(II)V" } : Jvm.MethodName) prog_3_method_7_code (3 : Nat) (Option.none : Option Jvm.ClassFile.FieldType)) ∈ lw_all := lw_g (lw_at lw_m0 142 rfl) rfl
theorem q148 : (Jvm.Cond.instanceMethod ({ cls := "IndirectSortDeskModel", name := "get", desc := "(I)I" } : Jvm.MethodName)) ∈ lw_all := lw_g (lw_at lw_m0 144 rfl) rfl
theorem q149 : (Jvm.Cond.selects "IndirectSortDeskModel" ({ cls := "IndirectSortDeskModel", name := "get", desc := "(I)I" } : Jvm.MethodName) ({ cls := "IndirectSortDeskModel", name := "get", desc := "(I)I" } : Jvm.MethodName)) ∈ lw_all := lw_g (lw_at lw_m0 145 rfl) rfl
theorem q150 : (Jvm.Cond.code ({ cls := "IndirectSortDeskModel", name := "get", desc := "(I)I" } : Jvm.MethodName) prog_3_method_8_code (2 : Nat) (Option.some Jvm.ClassFile.FieldType.int)) ∈ lw_all := lw_g (lw_at lw_m0 146 rfl) rfl
theorem q152 : (Jvm.Cond.instanceMethod ({ cls := "IndirectSortDeskModel", name := "place", desc := "(I)I" } : Jvm.MethodName)) ∈ lw_all := lw_g (lw_at lw_m0 148 rfl) rfl
theorem q153 : (Jvm.Cond.selects "IndirectSortDeskModel" ({ cls := "IndirectSortDeskModel", name := "place", desc := "(I)I" } : Jvm.MethodName) ({ cls := "IndirectSortDeskModel", name := "place", desc := "(I)I" } : Jvm.MethodName)) ∈ lw_all := lw_g (lw_at lw_m0 149 rfl) rfl
theorem q154 : (Jvm.Cond.code ({ cls := "IndirectSortDeskModel", name := "place", desc := "(I)I" } : Jvm.MethodName) prog_3_method_9_code (2 : Nat) (Option.some Jvm.ClassFile.FieldType.int)) ∈ lw_all := lw_g (lw_at lw_m0 150 rfl) rfl
theorem q156 : (Jvm.Cond.instanceMethod ({ cls := "IndirectSortDeskModel", name := "radix", desc := "(II)V" } : Jvm.MethodName)) ∈ lw_all := lw_g (lw_at lw_m0 152 rfl) rfl
theorem q157 : (Jvm.Cond.selects "IndirectSortDeskModel" ({ cls := "IndirectSortDeskModel", name := "radix", desc := "(II)V" } : Jvm.MethodName) ({ cls := "IndirectSortDeskModel", name := "radix", desc := "(II)V" } : Jvm.MethodName)) ∈ lw_all := lw_g (lw_at lw_m0 153 rfl) rfl
theorem q158 : (Jvm.Cond.code ({ cls := "IndirectSortDeskModel", name := "radix", desc := "(II)V" } : Jvm.MethodName) prog_3_method_11_code (4 : Nat) (Option.none : Option Jvm.ClassFile.FieldType)) ∈ lw_all := lw_g (lw_at lw_m0 154 rfl) rfl
theorem q159 : (Jvm.Cond.methodLink "IndirectSortDeskModel" (24 : Nat) ({ cls := "IndirectSortDeskModel", name := "from", desc := "(I)I" } : Jvm.MethodName)) ∈ lw_all := lw_g (lw_at lw_m0 155 rfl) rfl
theorem q160 : (Jvm.Cond.static ({ cls := "IndirectSortDeskModel", name := "from", desc := "(I)I" } : Jvm.MethodName)) ∈ lw_all := lw_g (lw_at lw_m0 156 rfl) rfl
theorem q161 : (Jvm.Cond.code ({ cls := "IndirectSortDeskModel", name := "from", desc := "(I)I" } : Jvm.MethodName) prog_3_method_3_code (1 : Nat) (Option.some Jvm.ClassFile.FieldType.int)) ∈ lw_all := lw_g (lw_at lw_m0 157 rfl) rfl
theorem q162 : (Jvm.Cond.methodLink "IndirectSortDeskModel" (27 : Nat) ({ cls := "IndirectSortDeskModel", name := "to", desc := "(II)I" } : Jvm.MethodName)) ∈ lw_all := lw_g (lw_at lw_m0 158 rfl) rfl
theorem q163 : (Jvm.Cond.static ({ cls := "IndirectSortDeskModel", name := "to", desc := "(II)I" } : Jvm.MethodName)) ∈ lw_all := lw_g (lw_at lw_m0 159 rfl) rfl
theorem q164 : (Jvm.Cond.code ({ cls := "IndirectSortDeskModel", name := "to", desc := "(II)I" } : Jvm.MethodName) prog_3_method_4_code (2 : Nat) (Option.some Jvm.ClassFile.FieldType.int)) ∈ lw_all := lw_g (lw_at lw_m0 160 rfl) rfl
theorem q165 : (Jvm.Cond.methodLink "IndirectSortDeskModel" (31 : Nat) ({ cls := "IndirectSortDeskModel", name := "order", desc := "(II)V" } : Jvm.MethodName)) ∈ lw_all := lw_g (lw_at lw_m0 161 rfl) rfl
theorem q166 : (Jvm.Cond.privateMethod ({ cls := "IndirectSortDeskModel", name := "order", desc := "(II)V" } : Jvm.MethodName)) ∈ lw_tbl := lw_at lw_m0 162 rfl
theorem q167 : (Jvm.Cond.instanceMethod ({ cls := "IndirectSortDeskModel", name := "order", desc := "(II)V" } : Jvm.MethodName)) ∈ lw_all := lw_g (lw_at lw_m0 163 rfl) rfl
theorem q168 : (Jvm.Cond.code ({ cls := "IndirectSortDeskModel", name := "order", desc := "(II)V" } : Jvm.MethodName) prog_3_method_10_code (6 : Nat) (Option.none : Option Jvm.ClassFile.FieldType)) ∈ lw_all := lw_g (lw_at lw_m0 164 rfl) rfl
theorem q170 : (Jvm.Cond.instanceMethod ({ cls := "IndirectSortDeskModel", name := "quick", desc := "(II)V" } : Jvm.MethodName)) ∈ lw_all := lw_g (lw_at lw_m0 166 rfl) rfl
theorem q171 : (Jvm.Cond.selects "IndirectSortDeskModel" ({ cls := "IndirectSortDeskModel", name := "quick", desc := "(II)V" } : Jvm.MethodName) ({ cls := "IndirectSortDeskModel", name := "quick", desc := "(II)V" } : Jvm.MethodName)) ∈ lw_all := lw_g (lw_at lw_m0 167 rfl) rfl
theorem q172 : (Jvm.Cond.code ({ cls := "IndirectSortDeskModel", name := "quick", desc := "(II)V" } : Jvm.MethodName) prog_3_method_12_code (4 : Nat) (Option.none : Option Jvm.ClassFile.FieldType)) ∈ lw_all := lw_g (lw_at lw_m0 168 rfl) rfl
theorem in_X1 : ∀ w ∈ wsX10, w ∈ lw_all := lw_in wsX10 [129, 131] (by decide +kernel) (by decide +kernel)
/-! the law's own entry -/
set_option maxRecDepth 100000
abbrev cL_law : ByteArray := code
def dkwL_law_10 : List UInt8 := [29, 4, 96, 46, 42, 29, 5, 96, 46, 182, 0, 42, 167, 0, 3, 132, 3, 6, 167, 255, 14, 4, 172]
abbrev dktL_law_10 : List UInt8 := dkwL_law_10 ++ []
def dkwL_law_9 : List UInt8 := [96, 46, 182, 0, 38, 167, 0, 34, 43, 42, 29, 4, 96, 46, 42, 29, 5, 96, 46, 182, 0, 39, 44, 42]
abbrev dktL_law_9 : List UInt8 := dkwL_law_9 ++ dktL_law_10
def dkwL_law_8 : List UInt8 := [172, 43, 42, 29, 4, 96, 46, 42, 29, 5, 96, 46, 182, 0, 35, 44, 42, 29, 4, 96, 46, 42, 29, 5]
abbrev dktL_law_8 : List UInt8 := dkwL_law_8 ++ dktL_law_9
def dkwL_law_7 : List UInt8 := [3, 172, 43, 42, 29, 4, 96, 46, 182, 0, 31, 44, 42, 29, 4, 96, 46, 182, 0, 34, 159, 0, 67, 3]
abbrev dktL_law_7 : List UInt8 := dkwL_law_7 ++ dktL_law_8
def dkwL_law_6 : List UInt8 := [167, 0, 111, 43, 42, 29, 4, 96, 46, 182, 0, 26, 44, 42, 29, 4, 96, 46, 182, 0, 30, 159, 0, 90]
abbrev dktL_law_6 : List UInt8 := dkwL_law_6 ++ dktL_law_7
def dkwL_law_5 : List UInt8 := [96, 46, 42, 29, 5, 96, 46, 182, 0, 22, 44, 42, 29, 4, 96, 46, 42, 29, 5, 96, 46, 182, 0, 25]
abbrev dktL_law_5 : List UInt8 := dkwL_law_5 ++ dktL_law_6
def dkwL_law_4 : List UInt8 := [182, 0, 17, 44, 42, 29, 4, 96, 46, 42, 29, 5, 96, 46, 182, 0, 21, 167, 0, 142, 43, 42, 29, 4]
abbrev dktL_law_4 : List UInt8 := dkwL_law_4 ++ dktL_law_5
def dkwL_law_3 : List UInt8 := [43, 182, 0, 13, 44, 182, 0, 16, 167, 0, 173, 43, 42, 29, 4, 96, 46, 42, 29, 5, 96, 46]
abbrev dktL_law_3 : List UInt8 := dkwL_law_3 ++ dktL_law_4
def dkwL_law_2 : List UInt8 := [170, 0, 0, 0, 0, 0, 224, 0, 0, 0, 0, 0, 0, 0, 6, 0, 0, 0, 43, 0, 0, 0, 54, 0, 0, 0, 85, 0, 0, 0, 116, 0, 0, 0, 139, 0, 0, 0, 162, 0, 0, 0, 193]
abbrev dktL_law_2 : List UInt8 := dkwL_law_2 ++ dktL_law_3
def dkwL_law_1 : List UInt8 := [163, 0, 239, 42, 29, 46, 16, 7, 126]
abbrev dktL_law_1 : List UInt8 := dkwL_law_1 ++ dktL_law_2
def dkwL_law_0 : List UInt8 := [187, 0, 7, 89, 183, 0, 9, 76, 187, 0, 10, 89, 183, 0, 12, 77, 3, 62, 29, 42, 190, 16, 6, 100]
abbrev dktL_law_0 : List UInt8 := dkwL_law_0 ++ dktL_law_1
theorem dksL_law_0 : cL_law.data.toList.drop 0 = dktL_law_0 := by decide +kernel
theorem dksL_law_1 : cL_law.data.toList.drop 24 = dktL_law_1 := dk_seg dksL_law_0 24 rfl rfl
theorem dksL_law_2 : cL_law.data.toList.drop 33 = dktL_law_2 := dk_seg dksL_law_1 9 rfl rfl
theorem dksL_law_3 : cL_law.data.toList.drop 76 = dktL_law_3 := dk_seg dksL_law_2 43 rfl rfl
theorem dksL_law_4 : cL_law.data.toList.drop 98 = dktL_law_4 := dk_seg dksL_law_3 22 rfl rfl
theorem dksL_law_5 : cL_law.data.toList.drop 122 = dktL_law_5 := dk_seg dksL_law_4 24 rfl rfl
theorem dksL_law_6 : cL_law.data.toList.drop 146 = dktL_law_6 := dk_seg dksL_law_5 24 rfl rfl
theorem dksL_law_7 : cL_law.data.toList.drop 170 = dktL_law_7 := dk_seg dksL_law_6 24 rfl rfl
theorem dksL_law_8 : cL_law.data.toList.drop 194 = dktL_law_8 := dk_seg dksL_law_7 24 rfl rfl
theorem dksL_law_9 : cL_law.data.toList.drop 218 = dktL_law_9 := dk_seg dksL_law_8 24 rfl rfl
theorem dksL_law_10 : cL_law.data.toList.drop 242 = dktL_law_10 := dk_seg dksL_law_9 24 rfl rfl
theorem dL_law_0 : decode cL_law 0 = .ok (.new 7, 3) := dk_187 0 7 (dk_at dksL_law_0 0 rfl rfl)
theorem dL_law_3 : decode cL_law 3 = .ok (.dup, 1) := dk_89 (dk_at dksL_law_0 3 rfl rfl)
theorem dL_law_4 : decode cL_law 4 = .ok (.invokespecial 9, 3) := dk_183 0 9 (dk_at dksL_law_0 4 rfl rfl)
theorem dL_law_7 : decode cL_law 7 = .ok (.astore_n 1, 1) := dk_76 (dk_at dksL_law_0 7 rfl rfl)
theorem dL_law_8 : decode cL_law 8 = .ok (.new 10, 3) := dk_187 0 10 (dk_at dksL_law_0 8 rfl rfl)
theorem dL_law_11 : decode cL_law 11 = .ok (.dup, 1) := dk_89 (dk_at dksL_law_0 11 rfl rfl)
theorem dL_law_12 : decode cL_law 12 = .ok (.invokespecial 12, 3) := dk_183 0 12 (dk_at dksL_law_0 12 rfl rfl)
theorem dL_law_15 : decode cL_law 15 = .ok (.astore_n 2, 1) := dk_77 (dk_at dksL_law_0 15 rfl rfl)
theorem dL_law_16 : decode cL_law 16 = .ok (.iconst 0, 1) := dk_3 (dk_at dksL_law_0 16 rfl rfl)
theorem dL_law_17 : decode cL_law 17 = .ok (.istore_n 3, 1) := dk_62 (dk_at dksL_law_0 17 rfl rfl)
theorem dL_law_18 : decode cL_law 18 = .ok (.iload_n 3, 1) := dk_29 (dk_at dksL_law_0 18 rfl rfl)
theorem dL_law_19 : decode cL_law 19 = .ok (.aload_n 0, 1) := dk_42 (dk_at dksL_law_0 19 rfl rfl)
theorem dL_law_20 : decode cL_law 20 = .ok (.arraylength, 1) := dk_190 (dk_at dksL_law_0 20 rfl rfl)
theorem dL_law_21 : decode cL_law 21 = .ok (.bipush 6, 2) := dk_16 6 (dk_at dksL_law_0 21 rfl rfl)
theorem dL_law_23 : decode cL_law 23 = .ok (.isub, 1) := dk_100 (dk_at dksL_law_0 23 rfl rfl)
theorem dL_law_24 : decode cL_law 24 = .ok (.if_icmp .gt 239, 3) := dk_163 0 239 (dk_at dksL_law_1 0 rfl rfl)
theorem dL_law_27 : decode cL_law 27 = .ok (.aload_n 0, 1) := dk_42 (dk_at dksL_law_1 3 rfl rfl)
theorem dL_law_28 : decode cL_law 28 = .ok (.iload_n 3, 1) := dk_29 (dk_at dksL_law_1 4 rfl rfl)
theorem dL_law_29 : decode cL_law 29 = .ok (.iaload, 1) := dk_46 (dk_at dksL_law_1 5 rfl rfl)
theorem dL_law_30 : decode cL_law 30 = .ok (.bipush 7, 2) := dk_16 7 (dk_at dksL_law_1 6 rfl rfl)
theorem dL_law_32 : decode cL_law 32 = .ok (.iand, 1) := dk_126 (dk_at dksL_law_1 8 rfl rfl)
theorem dL_law_33 : decode cL_law 33 = .ok (.tableswitch 224 0 6 #[43, 54, 85, 116, 139, 162, 193], 43) := by decide +kernel
theorem dL_law_76 : decode cL_law 76 = .ok (.aload_n 1, 1) := dk_43 (dk_at dksL_law_3 0 rfl rfl)
theorem dL_law_77 : decode cL_law 77 = .ok (.invokevirtual 13, 3) := dk_182 0 13 (dk_at dksL_law_3 1 rfl rfl)
theorem dL_law_80 : decode cL_law 80 = .ok (.aload_n 2, 1) := dk_44 (dk_at dksL_law_3 4 rfl rfl)
theorem dL_law_81 : decode cL_law 81 = .ok (.invokevirtual 16, 3) := dk_182 0 16 (dk_at dksL_law_3 5 rfl rfl)
theorem dL_law_84 : decode cL_law 84 = .ok (.goto 173, 3) := dk_167 0 173 (dk_at dksL_law_3 8 rfl rfl)
theorem dL_law_87 : decode cL_law 87 = .ok (.aload_n 1, 1) := dk_43 (dk_at dksL_law_3 11 rfl rfl)
theorem dL_law_88 : decode cL_law 88 = .ok (.aload_n 0, 1) := dk_42 (dk_at dksL_law_3 12 rfl rfl)
theorem dL_law_89 : decode cL_law 89 = .ok (.iload_n 3, 1) := dk_29 (dk_at dksL_law_3 13 rfl rfl)
theorem dL_law_90 : decode cL_law 90 = .ok (.iconst 1, 1) := dk_4 (dk_at dksL_law_3 14 rfl rfl)
theorem dL_law_91 : decode cL_law 91 = .ok (.iadd, 1) := dk_96 (dk_at dksL_law_3 15 rfl rfl)
theorem dL_law_92 : decode cL_law 92 = .ok (.iaload, 1) := dk_46 (dk_at dksL_law_3 16 rfl rfl)
theorem dL_law_93 : decode cL_law 93 = .ok (.aload_n 0, 1) := dk_42 (dk_at dksL_law_3 17 rfl rfl)
theorem dL_law_94 : decode cL_law 94 = .ok (.iload_n 3, 1) := dk_29 (dk_at dksL_law_3 18 rfl rfl)
theorem dL_law_95 : decode cL_law 95 = .ok (.iconst 2, 1) := dk_5 (dk_at dksL_law_3 19 rfl rfl)
theorem dL_law_96 : decode cL_law 96 = .ok (.iadd, 1) := dk_96 (dk_at dksL_law_3 20 rfl rfl)
theorem dL_law_97 : decode cL_law 97 = .ok (.iaload, 1) := dk_46 (dk_at dksL_law_3 21 rfl rfl)
theorem dL_law_98 : decode cL_law 98 = .ok (.invokevirtual 17, 3) := dk_182 0 17 (dk_at dksL_law_4 0 rfl rfl)
theorem dL_law_101 : decode cL_law 101 = .ok (.aload_n 2, 1) := dk_44 (dk_at dksL_law_4 3 rfl rfl)
theorem dL_law_102 : decode cL_law 102 = .ok (.aload_n 0, 1) := dk_42 (dk_at dksL_law_4 4 rfl rfl)
theorem dL_law_103 : decode cL_law 103 = .ok (.iload_n 3, 1) := dk_29 (dk_at dksL_law_4 5 rfl rfl)
theorem dL_law_104 : decode cL_law 104 = .ok (.iconst 1, 1) := dk_4 (dk_at dksL_law_4 6 rfl rfl)
theorem dL_law_105 : decode cL_law 105 = .ok (.iadd, 1) := dk_96 (dk_at dksL_law_4 7 rfl rfl)
theorem dL_law_106 : decode cL_law 106 = .ok (.iaload, 1) := dk_46 (dk_at dksL_law_4 8 rfl rfl)
theorem dL_law_107 : decode cL_law 107 = .ok (.aload_n 0, 1) := dk_42 (dk_at dksL_law_4 9 rfl rfl)
theorem dL_law_108 : decode cL_law 108 = .ok (.iload_n 3, 1) := dk_29 (dk_at dksL_law_4 10 rfl rfl)
theorem dL_law_109 : decode cL_law 109 = .ok (.iconst 2, 1) := dk_5 (dk_at dksL_law_4 11 rfl rfl)
theorem dL_law_110 : decode cL_law 110 = .ok (.iadd, 1) := dk_96 (dk_at dksL_law_4 12 rfl rfl)
theorem dL_law_111 : decode cL_law 111 = .ok (.iaload, 1) := dk_46 (dk_at dksL_law_4 13 rfl rfl)
theorem dL_law_112 : decode cL_law 112 = .ok (.invokevirtual 21, 3) := dk_182 0 21 (dk_at dksL_law_4 14 rfl rfl)
theorem dL_law_115 : decode cL_law 115 = .ok (.goto 142, 3) := dk_167 0 142 (dk_at dksL_law_4 17 rfl rfl)
theorem dL_law_118 : decode cL_law 118 = .ok (.aload_n 1, 1) := dk_43 (dk_at dksL_law_4 20 rfl rfl)
theorem dL_law_119 : decode cL_law 119 = .ok (.aload_n 0, 1) := dk_42 (dk_at dksL_law_4 21 rfl rfl)
theorem dL_law_120 : decode cL_law 120 = .ok (.iload_n 3, 1) := dk_29 (dk_at dksL_law_4 22 rfl rfl)
theorem dL_law_121 : decode cL_law 121 = .ok (.iconst 1, 1) := dk_4 (dk_at dksL_law_4 23 rfl rfl)
theorem dL_law_122 : decode cL_law 122 = .ok (.iadd, 1) := dk_96 (dk_at dksL_law_5 0 rfl rfl)
theorem dL_law_123 : decode cL_law 123 = .ok (.iaload, 1) := dk_46 (dk_at dksL_law_5 1 rfl rfl)
theorem dL_law_124 : decode cL_law 124 = .ok (.aload_n 0, 1) := dk_42 (dk_at dksL_law_5 2 rfl rfl)
theorem dL_law_125 : decode cL_law 125 = .ok (.iload_n 3, 1) := dk_29 (dk_at dksL_law_5 3 rfl rfl)
theorem dL_law_126 : decode cL_law 126 = .ok (.iconst 2, 1) := dk_5 (dk_at dksL_law_5 4 rfl rfl)
theorem dL_law_127 : decode cL_law 127 = .ok (.iadd, 1) := dk_96 (dk_at dksL_law_5 5 rfl rfl)
theorem dL_law_128 : decode cL_law 128 = .ok (.iaload, 1) := dk_46 (dk_at dksL_law_5 6 rfl rfl)
theorem dL_law_129 : decode cL_law 129 = .ok (.invokevirtual 22, 3) := dk_182 0 22 (dk_at dksL_law_5 7 rfl rfl)
theorem dL_law_132 : decode cL_law 132 = .ok (.aload_n 2, 1) := dk_44 (dk_at dksL_law_5 10 rfl rfl)
theorem dL_law_133 : decode cL_law 133 = .ok (.aload_n 0, 1) := dk_42 (dk_at dksL_law_5 11 rfl rfl)
theorem dL_law_134 : decode cL_law 134 = .ok (.iload_n 3, 1) := dk_29 (dk_at dksL_law_5 12 rfl rfl)
theorem dL_law_135 : decode cL_law 135 = .ok (.iconst 1, 1) := dk_4 (dk_at dksL_law_5 13 rfl rfl)
theorem dL_law_136 : decode cL_law 136 = .ok (.iadd, 1) := dk_96 (dk_at dksL_law_5 14 rfl rfl)
theorem dL_law_137 : decode cL_law 137 = .ok (.iaload, 1) := dk_46 (dk_at dksL_law_5 15 rfl rfl)
theorem dL_law_138 : decode cL_law 138 = .ok (.aload_n 0, 1) := dk_42 (dk_at dksL_law_5 16 rfl rfl)
theorem dL_law_139 : decode cL_law 139 = .ok (.iload_n 3, 1) := dk_29 (dk_at dksL_law_5 17 rfl rfl)
theorem dL_law_140 : decode cL_law 140 = .ok (.iconst 2, 1) := dk_5 (dk_at dksL_law_5 18 rfl rfl)
theorem dL_law_141 : decode cL_law 141 = .ok (.iadd, 1) := dk_96 (dk_at dksL_law_5 19 rfl rfl)
theorem dL_law_142 : decode cL_law 142 = .ok (.iaload, 1) := dk_46 (dk_at dksL_law_5 20 rfl rfl)
theorem dL_law_143 : decode cL_law 143 = .ok (.invokevirtual 25, 3) := dk_182 0 25 (dk_at dksL_law_5 21 rfl rfl)
theorem dL_law_146 : decode cL_law 146 = .ok (.goto 111, 3) := dk_167 0 111 (dk_at dksL_law_6 0 rfl rfl)
theorem dL_law_149 : decode cL_law 149 = .ok (.aload_n 1, 1) := dk_43 (dk_at dksL_law_6 3 rfl rfl)
theorem dL_law_150 : decode cL_law 150 = .ok (.aload_n 0, 1) := dk_42 (dk_at dksL_law_6 4 rfl rfl)
theorem dL_law_151 : decode cL_law 151 = .ok (.iload_n 3, 1) := dk_29 (dk_at dksL_law_6 5 rfl rfl)
theorem dL_law_152 : decode cL_law 152 = .ok (.iconst 1, 1) := dk_4 (dk_at dksL_law_6 6 rfl rfl)
theorem dL_law_153 : decode cL_law 153 = .ok (.iadd, 1) := dk_96 (dk_at dksL_law_6 7 rfl rfl)
theorem dL_law_154 : decode cL_law 154 = .ok (.iaload, 1) := dk_46 (dk_at dksL_law_6 8 rfl rfl)
theorem dL_law_155 : decode cL_law 155 = .ok (.invokevirtual 26, 3) := dk_182 0 26 (dk_at dksL_law_6 9 rfl rfl)
theorem dL_law_158 : decode cL_law 158 = .ok (.aload_n 2, 1) := dk_44 (dk_at dksL_law_6 12 rfl rfl)
theorem dL_law_159 : decode cL_law 159 = .ok (.aload_n 0, 1) := dk_42 (dk_at dksL_law_6 13 rfl rfl)
theorem dL_law_160 : decode cL_law 160 = .ok (.iload_n 3, 1) := dk_29 (dk_at dksL_law_6 14 rfl rfl)
theorem dL_law_161 : decode cL_law 161 = .ok (.iconst 1, 1) := dk_4 (dk_at dksL_law_6 15 rfl rfl)
theorem dL_law_162 : decode cL_law 162 = .ok (.iadd, 1) := dk_96 (dk_at dksL_law_6 16 rfl rfl)
theorem dL_law_163 : decode cL_law 163 = .ok (.iaload, 1) := dk_46 (dk_at dksL_law_6 17 rfl rfl)
theorem dL_law_164 : decode cL_law 164 = .ok (.invokevirtual 30, 3) := dk_182 0 30 (dk_at dksL_law_6 18 rfl rfl)
theorem dL_law_167 : decode cL_law 167 = .ok (.if_icmp .eq 90, 3) := dk_159 0 90 (dk_at dksL_law_6 21 rfl rfl)
theorem dL_law_170 : decode cL_law 170 = .ok (.iconst 0, 1) := dk_3 (dk_at dksL_law_7 0 rfl rfl)
theorem dL_law_171 : decode cL_law 171 = .ok (.ireturn, 1) := dk_172 (dk_at dksL_law_7 1 rfl rfl)
theorem dL_law_172 : decode cL_law 172 = .ok (.aload_n 1, 1) := dk_43 (dk_at dksL_law_7 2 rfl rfl)
theorem dL_law_173 : decode cL_law 173 = .ok (.aload_n 0, 1) := dk_42 (dk_at dksL_law_7 3 rfl rfl)
theorem dL_law_174 : decode cL_law 174 = .ok (.iload_n 3, 1) := dk_29 (dk_at dksL_law_7 4 rfl rfl)
theorem dL_law_175 : decode cL_law 175 = .ok (.iconst 1, 1) := dk_4 (dk_at dksL_law_7 5 rfl rfl)
theorem dL_law_176 : decode cL_law 176 = .ok (.iadd, 1) := dk_96 (dk_at dksL_law_7 6 rfl rfl)
theorem dL_law_177 : decode cL_law 177 = .ok (.iaload, 1) := dk_46 (dk_at dksL_law_7 7 rfl rfl)
theorem dL_law_178 : decode cL_law 178 = .ok (.invokevirtual 31, 3) := dk_182 0 31 (dk_at dksL_law_7 8 rfl rfl)
theorem dL_law_181 : decode cL_law 181 = .ok (.aload_n 2, 1) := dk_44 (dk_at dksL_law_7 11 rfl rfl)
theorem dL_law_182 : decode cL_law 182 = .ok (.aload_n 0, 1) := dk_42 (dk_at dksL_law_7 12 rfl rfl)
theorem dL_law_183 : decode cL_law 183 = .ok (.iload_n 3, 1) := dk_29 (dk_at dksL_law_7 13 rfl rfl)
theorem dL_law_184 : decode cL_law 184 = .ok (.iconst 1, 1) := dk_4 (dk_at dksL_law_7 14 rfl rfl)
theorem dL_law_185 : decode cL_law 185 = .ok (.iadd, 1) := dk_96 (dk_at dksL_law_7 15 rfl rfl)
theorem dL_law_186 : decode cL_law 186 = .ok (.iaload, 1) := dk_46 (dk_at dksL_law_7 16 rfl rfl)
theorem dL_law_187 : decode cL_law 187 = .ok (.invokevirtual 34, 3) := dk_182 0 34 (dk_at dksL_law_7 17 rfl rfl)
theorem dL_law_190 : decode cL_law 190 = .ok (.if_icmp .eq 67, 3) := dk_159 0 67 (dk_at dksL_law_7 20 rfl rfl)
theorem dL_law_193 : decode cL_law 193 = .ok (.iconst 0, 1) := dk_3 (dk_at dksL_law_7 23 rfl rfl)
theorem dL_law_194 : decode cL_law 194 = .ok (.ireturn, 1) := dk_172 (dk_at dksL_law_8 0 rfl rfl)
theorem dL_law_195 : decode cL_law 195 = .ok (.aload_n 1, 1) := dk_43 (dk_at dksL_law_8 1 rfl rfl)
theorem dL_law_196 : decode cL_law 196 = .ok (.aload_n 0, 1) := dk_42 (dk_at dksL_law_8 2 rfl rfl)
theorem dL_law_197 : decode cL_law 197 = .ok (.iload_n 3, 1) := dk_29 (dk_at dksL_law_8 3 rfl rfl)
theorem dL_law_198 : decode cL_law 198 = .ok (.iconst 1, 1) := dk_4 (dk_at dksL_law_8 4 rfl rfl)
theorem dL_law_199 : decode cL_law 199 = .ok (.iadd, 1) := dk_96 (dk_at dksL_law_8 5 rfl rfl)
theorem dL_law_200 : decode cL_law 200 = .ok (.iaload, 1) := dk_46 (dk_at dksL_law_8 6 rfl rfl)
theorem dL_law_201 : decode cL_law 201 = .ok (.aload_n 0, 1) := dk_42 (dk_at dksL_law_8 7 rfl rfl)
theorem dL_law_202 : decode cL_law 202 = .ok (.iload_n 3, 1) := dk_29 (dk_at dksL_law_8 8 rfl rfl)
theorem dL_law_203 : decode cL_law 203 = .ok (.iconst 2, 1) := dk_5 (dk_at dksL_law_8 9 rfl rfl)
theorem dL_law_204 : decode cL_law 204 = .ok (.iadd, 1) := dk_96 (dk_at dksL_law_8 10 rfl rfl)
theorem dL_law_205 : decode cL_law 205 = .ok (.iaload, 1) := dk_46 (dk_at dksL_law_8 11 rfl rfl)
theorem dL_law_206 : decode cL_law 206 = .ok (.invokevirtual 35, 3) := dk_182 0 35 (dk_at dksL_law_8 12 rfl rfl)
theorem dL_law_209 : decode cL_law 209 = .ok (.aload_n 2, 1) := dk_44 (dk_at dksL_law_8 15 rfl rfl)
theorem dL_law_210 : decode cL_law 210 = .ok (.aload_n 0, 1) := dk_42 (dk_at dksL_law_8 16 rfl rfl)
theorem dL_law_211 : decode cL_law 211 = .ok (.iload_n 3, 1) := dk_29 (dk_at dksL_law_8 17 rfl rfl)
theorem dL_law_212 : decode cL_law 212 = .ok (.iconst 1, 1) := dk_4 (dk_at dksL_law_8 18 rfl rfl)
theorem dL_law_213 : decode cL_law 213 = .ok (.iadd, 1) := dk_96 (dk_at dksL_law_8 19 rfl rfl)
theorem dL_law_214 : decode cL_law 214 = .ok (.iaload, 1) := dk_46 (dk_at dksL_law_8 20 rfl rfl)
theorem dL_law_215 : decode cL_law 215 = .ok (.aload_n 0, 1) := dk_42 (dk_at dksL_law_8 21 rfl rfl)
theorem dL_law_216 : decode cL_law 216 = .ok (.iload_n 3, 1) := dk_29 (dk_at dksL_law_8 22 rfl rfl)
theorem dL_law_217 : decode cL_law 217 = .ok (.iconst 2, 1) := dk_5 (dk_at dksL_law_8 23 rfl rfl)
theorem dL_law_218 : decode cL_law 218 = .ok (.iadd, 1) := dk_96 (dk_at dksL_law_9 0 rfl rfl)
theorem dL_law_219 : decode cL_law 219 = .ok (.iaload, 1) := dk_46 (dk_at dksL_law_9 1 rfl rfl)
theorem dL_law_220 : decode cL_law 220 = .ok (.invokevirtual 38, 3) := dk_182 0 38 (dk_at dksL_law_9 2 rfl rfl)
theorem dL_law_223 : decode cL_law 223 = .ok (.goto 34, 3) := dk_167 0 34 (dk_at dksL_law_9 5 rfl rfl)
theorem dL_law_226 : decode cL_law 226 = .ok (.aload_n 1, 1) := dk_43 (dk_at dksL_law_9 8 rfl rfl)
theorem dL_law_227 : decode cL_law 227 = .ok (.aload_n 0, 1) := dk_42 (dk_at dksL_law_9 9 rfl rfl)
theorem dL_law_228 : decode cL_law 228 = .ok (.iload_n 3, 1) := dk_29 (dk_at dksL_law_9 10 rfl rfl)
theorem dL_law_229 : decode cL_law 229 = .ok (.iconst 1, 1) := dk_4 (dk_at dksL_law_9 11 rfl rfl)
theorem dL_law_230 : decode cL_law 230 = .ok (.iadd, 1) := dk_96 (dk_at dksL_law_9 12 rfl rfl)
theorem dL_law_231 : decode cL_law 231 = .ok (.iaload, 1) := dk_46 (dk_at dksL_law_9 13 rfl rfl)
theorem dL_law_232 : decode cL_law 232 = .ok (.aload_n 0, 1) := dk_42 (dk_at dksL_law_9 14 rfl rfl)
theorem dL_law_233 : decode cL_law 233 = .ok (.iload_n 3, 1) := dk_29 (dk_at dksL_law_9 15 rfl rfl)
theorem dL_law_234 : decode cL_law 234 = .ok (.iconst 2, 1) := dk_5 (dk_at dksL_law_9 16 rfl rfl)
theorem dL_law_235 : decode cL_law 235 = .ok (.iadd, 1) := dk_96 (dk_at dksL_law_9 17 rfl rfl)
theorem dL_law_236 : decode cL_law 236 = .ok (.iaload, 1) := dk_46 (dk_at dksL_law_9 18 rfl rfl)
theorem dL_law_237 : decode cL_law 237 = .ok (.invokevirtual 39, 3) := dk_182 0 39 (dk_at dksL_law_9 19 rfl rfl)
theorem dL_law_240 : decode cL_law 240 = .ok (.aload_n 2, 1) := dk_44 (dk_at dksL_law_9 22 rfl rfl)
theorem dL_law_241 : decode cL_law 241 = .ok (.aload_n 0, 1) := dk_42 (dk_at dksL_law_9 23 rfl rfl)
theorem dL_law_242 : decode cL_law 242 = .ok (.iload_n 3, 1) := dk_29 (dk_at dksL_law_10 0 rfl rfl)
theorem dL_law_243 : decode cL_law 243 = .ok (.iconst 1, 1) := dk_4 (dk_at dksL_law_10 1 rfl rfl)
theorem dL_law_244 : decode cL_law 244 = .ok (.iadd, 1) := dk_96 (dk_at dksL_law_10 2 rfl rfl)
theorem dL_law_245 : decode cL_law 245 = .ok (.iaload, 1) := dk_46 (dk_at dksL_law_10 3 rfl rfl)
theorem dL_law_246 : decode cL_law 246 = .ok (.aload_n 0, 1) := dk_42 (dk_at dksL_law_10 4 rfl rfl)
theorem dL_law_247 : decode cL_law 247 = .ok (.iload_n 3, 1) := dk_29 (dk_at dksL_law_10 5 rfl rfl)
theorem dL_law_248 : decode cL_law 248 = .ok (.iconst 2, 1) := dk_5 (dk_at dksL_law_10 6 rfl rfl)
theorem dL_law_249 : decode cL_law 249 = .ok (.iadd, 1) := dk_96 (dk_at dksL_law_10 7 rfl rfl)
theorem dL_law_250 : decode cL_law 250 = .ok (.iaload, 1) := dk_46 (dk_at dksL_law_10 8 rfl rfl)
theorem dL_law_251 : decode cL_law 251 = .ok (.invokevirtual 42, 3) := dk_182 0 42 (dk_at dksL_law_10 9 rfl rfl)
theorem dL_law_254 : decode cL_law 254 = .ok (.goto 3, 3) := dk_167 0 3 (dk_at dksL_law_10 12 rfl rfl)
theorem dL_law_257 : decode cL_law 257 = .ok (.iinc 3 6, 3) := dk_132 3 6 (dk_at dksL_law_10 15 rfl rfl)
theorem dL_law_260 : decode cL_law 260 = .ok (.goto (-242), 3) := dk_167 255 14 (dk_at dksL_law_10 18 rfl rfl)
theorem dL_law_263 : decode cL_law 263 = .ok (.iconst 1, 1) := dk_4 (dk_at dksL_law_10 21 rfl rfl)
theorem dL_law_264 : decode cL_law 264 = .ok (.ireturn, 1) := dk_172 (dk_at dksL_law_10 22 rfl rfl)
end
section
/-! IntArrays -/
set_option maxRecDepth 100000
def RX2 : String := "IntArrays"
abbrev cX2_radixSortIndirect : ByteArray := prog_4_method_16_code
def yX2_radixSortIndirect : MethodName := ⟨RX2, "radixSortIndirect", "([I[IIIZ)V"⟩
def dkwX2_radixSortIndirect_29 : List UInt8 := [21, 20, 46, 96, 54, 19, 25, 9, 21, 20, 3, 79, 167, 255, 52, 167, 253, 182, 177]
abbrev dktX2_radixSortIndirect_29 : List UInt8 := dkwX2_radixSortIndirect_29 ++ []
def dkwX2_radixSortIndirect_28 : List UInt8 := [21, 5, 25, 9, 21, 20, 46, 79, 25, 8, 21, 5, 132, 5, 1, 21, 14, 4, 96, 79, 21, 19, 25, 9]
abbrev dktX2_radixSortIndirect_28 : List UInt8 := dkwX2_radixSortIndirect_28 ++ dktX2_radixSortIndirect_29
def dkwX2_radixSortIndirect_27 : List UInt8 := [21, 19, 25, 9, 21, 20, 46, 96, 184, 0, 53, 167, 0, 32, 25, 6, 21, 5, 21, 19, 79, 25, 7]
abbrev dktX2_radixSortIndirect_27 : List UInt8 := dkwX2_radixSortIndirect_27 ++ dktX2_radixSortIndirect_28
def dkwX2_radixSortIndirect_26 : List UInt8 := [43, 21, 19, 21, 19, 25, 9, 21, 20, 46, 96, 184, 0, 47, 21, 4, 153, 0, 50, 42, 43, 21, 19]
abbrev dktX2_radixSortIndirect_26 : List UInt8 := dkwX2_radixSortIndirect_26 ++ dktX2_radixSortIndirect_27
def dkwX2_radixSortIndirect_25 : List UInt8 := [162, 0, 90, 25, 9, 21, 20, 46, 4, 164, 0, 81, 25, 9, 21, 20, 46, 17, 4, 0, 162, 0, 41, 42]
abbrev dktX2_radixSortIndirect_25 : List UInt8 := dkwX2_radixSortIndirect_25 ++ dktX2_radixSortIndirect_26
def dkwX2_radixSortIndirect_24 : List UInt8 := [21, 16, 124, 17, 0, 255, 126, 21, 15, 130, 54, 20, 167, 255, 206, 42, 21, 19, 21, 22, 79, 21, 14, 6]
abbrev dktX2_radixSortIndirect_24 : List UInt8 := dkwX2_radixSortIndirect_24 ++ dktX2_radixSortIndirect_25
def dkwX2_radixSortIndirect_23 : List UInt8 := [164, 0, 38, 21, 22, 54, 23, 42, 21, 21, 46, 54, 22, 42, 21, 21, 21, 23, 79, 43, 21, 22, 46]
abbrev dktX2_radixSortIndirect_23 : List UInt8 := dkwX2_radixSortIndirect_23 ++ dktX2_radixSortIndirect_24
def dkwX2_radixSortIndirect_22 : List UInt8 := [54, 20, 21, 19, 21, 18, 162, 0, 62, 25, 10, 21, 20, 92, 46, 4, 100, 91, 79, 89, 54, 21, 21, 19]
abbrev dktX2_radixSortIndirect_22 : List UInt8 := dkwX2_radixSortIndirect_22 ++ dktX2_radixSortIndirect_23
def dkwX2_radixSortIndirect_21 : List UInt8 := [163, 0, 203, 42, 21, 19, 46, 54, 22, 43, 21, 22, 46, 21, 16, 124, 17, 0, 255, 126, 21, 15, 130]
abbrev dktX2_radixSortIndirect_21 : List UInt8 := dkwX2_radixSortIndirect_21 ++ dktX2_radixSortIndirect_22
def dkwX2_radixSortIndirect_20 : List UInt8 := [21, 13, 96, 25, 9, 21, 17, 46, 100, 54, 18, 21, 12, 54, 19, 2, 54, 20, 21, 19, 21, 18]
abbrev dktX2_radixSortIndirect_20 : List UInt8 := dkwX2_radixSortIndirect_20 ++ dktX2_radixSortIndirect_21
def dkwX2_radixSortIndirect_19 : List UInt8 := [21, 18, 46, 96, 54, 19, 132, 18, 1, 167, 255, 143, 25, 9, 3, 184, 0, 62, 167, 0, 230, 21, 12]
abbrev dktX2_radixSortIndirect_19 : List UInt8 := dkwX2_radixSortIndirect_19 ++ dktX2_radixSortIndirect_20
def dkwX2_radixSortIndirect_18 : List UInt8 := [21, 5, 25, 9, 21, 18, 46, 79, 25, 8, 21, 5, 132, 5, 1, 21, 14, 4, 96, 79, 21, 19, 25, 9]
abbrev dktX2_radixSortIndirect_18 : List UInt8 := dkwX2_radixSortIndirect_18 ++ dktX2_radixSortIndirect_19
def dkwX2_radixSortIndirect_17 : List UInt8 := [21, 19, 25, 9, 21, 18, 46, 96, 184, 0, 53, 167, 0, 32, 25, 6, 21, 5, 21, 19, 79, 25, 7]
abbrev dktX2_radixSortIndirect_17 : List UInt8 := dkwX2_radixSortIndirect_17 ++ dktX2_radixSortIndirect_18
def dkwX2_radixSortIndirect_16 : List UInt8 := [43, 21, 19, 21, 19, 25, 9, 21, 18, 46, 96, 184, 0, 47, 21, 4, 153, 0, 50, 42, 43, 21, 19]
abbrev dktX2_radixSortIndirect_16 : List UInt8 := dkwX2_radixSortIndirect_16 ++ dktX2_radixSortIndirect_17
def dkwX2_radixSortIndirect_15 : List UInt8 := [162, 0, 90, 25, 9, 21, 18, 46, 4, 164, 0, 81, 25, 9, 21, 18, 46, 17, 4, 0, 162, 0, 41, 42]
abbrev dktX2_radixSortIndirect_15 : List UInt8 := dkwX2_radixSortIndirect_15 ++ dktX2_radixSortIndirect_16
def dkwX2_radixSortIndirect_14 : List UInt8 := [21, 13, 184, 0, 56, 3, 54, 18, 21, 12, 54, 19, 21, 18, 21, 17, 163, 0, 112, 21, 14, 6]
abbrev dktX2_radixSortIndirect_14 : List UInt8 := dkwX2_radixSortIndirect_14 ++ dktX2_radixSortIndirect_15
def dkwX2_radixSortIndirect_13 : List UInt8 := [126, 21, 15, 130, 92, 46, 4, 100, 91, 79, 42, 21, 18, 46, 79, 167, 255, 215, 25, 11, 3, 42, 21, 12]
abbrev dktX2_radixSortIndirect_13 : List UInt8 := dkwX2_radixSortIndirect_13 ++ dktX2_radixSortIndirect_14
def dkwX2_radixSortIndirect_12 : List UInt8 := [132, 18, 255, 21, 12, 159, 0, 37, 25, 11, 25, 10, 43, 42, 21, 18, 46, 46, 21, 16, 124, 17, 0, 255]
abbrev dktX2_radixSortIndirect_12 : List UInt8 := dkwX2_radixSortIndirect_12 ++ dktX2_radixSortIndirect_13
def dkwX2_radixSortIndirect_11 : List UInt8 := [89, 54, 19, 79, 132, 18, 1, 167, 255, 217, 21, 4, 153, 0, 197, 21, 12, 21, 13, 96, 54, 18, 21, 18]
abbrev dktX2_radixSortIndirect_11 : List UInt8 := dkwX2_radixSortIndirect_11 ++ dktX2_radixSortIndirect_12
def dkwX2_radixSortIndirect_10 : List UInt8 := [25, 9, 21, 18, 46, 153, 0, 7, 21, 18, 54, 17, 25, 10, 21, 18, 21, 19, 25, 9, 21, 18, 46, 96]
abbrev dktX2_radixSortIndirect_10 : List UInt8 := dkwX2_radixSortIndirect_10 ++ dktX2_radixSortIndirect_11
def dkwX2_radixSortIndirect_9 : List UInt8 := [54, 18, 21, 4, 153, 0, 7, 3, 167, 0, 5, 21, 12, 54, 19, 21, 18, 17, 1, 0, 162, 0, 37]
abbrev dktX2_radixSortIndirect_9 : List UInt8 := dkwX2_radixSortIndirect_9 ++ dktX2_radixSortIndirect_10
def dkwX2_radixSortIndirect_8 : List UInt8 := [46, 21, 16, 124, 17, 0, 255, 126, 21, 15, 130, 92, 46, 4, 96, 79, 167, 255, 223, 2, 54, 17, 3]
abbrev dktX2_radixSortIndirect_8 : List UInt8 := dkwX2_radixSortIndirect_8 ++ dktX2_radixSortIndirect_9
def dkwX2_radixSortIndirect_7 : List UInt8 := [21, 12, 21, 13, 96, 54, 17, 21, 17, 132, 17, 255, 21, 12, 159, 0, 29, 25, 9, 43, 42, 21, 17, 46]
abbrev dktX2_radixSortIndirect_7 : List UInt8 := dkwX2_radixSortIndirect_7 ++ dktX2_radixSortIndirect_8
def dkwX2_radixSortIndirect_6 : List UInt8 := [154, 0, 9, 17, 0, 128, 167, 0, 4, 3, 54, 15, 6, 21, 14, 7, 112, 100, 16, 8, 104, 54, 16]
abbrev dktX2_radixSortIndirect_6 : List UInt8 := dkwX2_radixSortIndirect_6 ++ dktX2_radixSortIndirect_7
def dkwX2_radixSortIndirect_5 : List UInt8 := [21, 5, 46, 54, 12, 25, 7, 21, 5, 46, 54, 13, 25, 8, 21, 5, 46, 54, 14, 21, 14, 7, 112]
abbrev dktX2_radixSortIndirect_5 : List UInt8 := dkwX2_radixSortIndirect_5 ++ dktX2_radixSortIndirect_6
def dkwX2_radixSortIndirect_4 : List UInt8 := [153, 0, 10, 42, 190, 188, 10, 167, 0, 4, 1, 58, 11, 21, 5, 158, 2, 75, 25, 6, 132, 5, 255]
abbrev dktX2_radixSortIndirect_4 : List UInt8 := dkwX2_radixSortIndirect_4 ++ dktX2_radixSortIndirect_5
def dkwX2_radixSortIndirect_3 : List UInt8 := [21, 5, 132, 5, 1, 3, 79, 17, 1, 0, 188, 10, 58, 9, 17, 1, 0, 188, 10, 58, 10, 21, 4]
abbrev dktX2_radixSortIndirect_3 : List UInt8 := dkwX2_radixSortIndirect_3 ++ dktX2_radixSortIndirect_4
def dkwX2_radixSortIndirect_2 : List UInt8 := [17, 2, 254, 188, 10, 58, 8, 25, 6, 21, 5, 28, 79, 25, 7, 21, 5, 29, 28, 100, 79, 25, 8]
abbrev dktX2_radixSortIndirect_2 : List UInt8 := dkwX2_radixSortIndirect_2 ++ dktX2_radixSortIndirect_3
def dkwX2_radixSortIndirect_1 : List UInt8 := [29, 184, 0, 53, 177, 3, 54, 5, 17, 2, 254, 188, 10, 58, 6, 17, 2, 254, 188, 10, 58, 7]
abbrev dktX2_radixSortIndirect_1 : List UInt8 := dkwX2_radixSortIndirect_1 ++ dktX2_radixSortIndirect_2
def dkwX2_radixSortIndirect_0 : List UInt8 := [29, 28, 100, 17, 4, 0, 162, 0, 23, 42, 43, 28, 29, 184, 0, 47, 21, 4, 153, 0, 10, 42, 43, 28]
abbrev dktX2_radixSortIndirect_0 : List UInt8 := dkwX2_radixSortIndirect_0 ++ dktX2_radixSortIndirect_1
theorem dksX2_radixSortIndirect_0 : cX2_radixSortIndirect.data.toList.drop 0 = dktX2_radixSortIndirect_0 := by decide +kernel
theorem dksX2_radixSortIndirect_1 : cX2_radixSortIndirect.data.toList.drop 24 = dktX2_radixSortIndirect_1 := dk_seg dksX2_radixSortIndirect_0 24 rfl rfl
theorem dksX2_radixSortIndirect_2 : cX2_radixSortIndirect.data.toList.drop 46 = dktX2_radixSortIndirect_2 := dk_seg dksX2_radixSortIndirect_1 22 rfl rfl
theorem dksX2_radixSortIndirect_3 : cX2_radixSortIndirect.data.toList.drop 69 = dktX2_radixSortIndirect_3 := dk_seg dksX2_radixSortIndirect_2 23 rfl rfl
theorem dksX2_radixSortIndirect_4 : cX2_radixSortIndirect.data.toList.drop 92 = dktX2_radixSortIndirect_4 := dk_seg dksX2_radixSortIndirect_3 23 rfl rfl
theorem dksX2_radixSortIndirect_5 : cX2_radixSortIndirect.data.toList.drop 115 = dktX2_radixSortIndirect_5 := dk_seg dksX2_radixSortIndirect_4 23 rfl rfl
theorem dksX2_radixSortIndirect_6 : cX2_radixSortIndirect.data.toList.drop 138 = dktX2_radixSortIndirect_6 := dk_seg dksX2_radixSortIndirect_5 23 rfl rfl
theorem dksX2_radixSortIndirect_7 : cX2_radixSortIndirect.data.toList.drop 161 = dktX2_radixSortIndirect_7 := dk_seg dksX2_radixSortIndirect_6 23 rfl rfl
theorem dksX2_radixSortIndirect_8 : cX2_radixSortIndirect.data.toList.drop 185 = dktX2_radixSortIndirect_8 := dk_seg dksX2_radixSortIndirect_7 24 rfl rfl
theorem dksX2_radixSortIndirect_9 : cX2_radixSortIndirect.data.toList.drop 208 = dktX2_radixSortIndirect_9 := dk_seg dksX2_radixSortIndirect_8 23 rfl rfl
theorem dksX2_radixSortIndirect_10 : cX2_radixSortIndirect.data.toList.drop 231 = dktX2_radixSortIndirect_10 := dk_seg dksX2_radixSortIndirect_9 23 rfl rfl
theorem dksX2_radixSortIndirect_11 : cX2_radixSortIndirect.data.toList.drop 255 = dktX2_radixSortIndirect_11 := dk_seg dksX2_radixSortIndirect_10 24 rfl rfl
theorem dksX2_radixSortIndirect_12 : cX2_radixSortIndirect.data.toList.drop 279 = dktX2_radixSortIndirect_12 := dk_seg dksX2_radixSortIndirect_11 24 rfl rfl
theorem dksX2_radixSortIndirect_13 : cX2_radixSortIndirect.data.toList.drop 303 = dktX2_radixSortIndirect_13 := dk_seg dksX2_radixSortIndirect_12 24 rfl rfl
theorem dksX2_radixSortIndirect_14 : cX2_radixSortIndirect.data.toList.drop 327 = dktX2_radixSortIndirect_14 := dk_seg dksX2_radixSortIndirect_13 24 rfl rfl
theorem dksX2_radixSortIndirect_15 : cX2_radixSortIndirect.data.toList.drop 349 = dktX2_radixSortIndirect_15 := dk_seg dksX2_radixSortIndirect_14 22 rfl rfl
theorem dksX2_radixSortIndirect_16 : cX2_radixSortIndirect.data.toList.drop 373 = dktX2_radixSortIndirect_16 := dk_seg dksX2_radixSortIndirect_15 24 rfl rfl
theorem dksX2_radixSortIndirect_17 : cX2_radixSortIndirect.data.toList.drop 396 = dktX2_radixSortIndirect_17 := dk_seg dksX2_radixSortIndirect_16 23 rfl rfl
theorem dksX2_radixSortIndirect_18 : cX2_radixSortIndirect.data.toList.drop 419 = dktX2_radixSortIndirect_18 := dk_seg dksX2_radixSortIndirect_17 23 rfl rfl
theorem dksX2_radixSortIndirect_19 : cX2_radixSortIndirect.data.toList.drop 443 = dktX2_radixSortIndirect_19 := dk_seg dksX2_radixSortIndirect_18 24 rfl rfl
theorem dksX2_radixSortIndirect_20 : cX2_radixSortIndirect.data.toList.drop 466 = dktX2_radixSortIndirect_20 := dk_seg dksX2_radixSortIndirect_19 23 rfl rfl
theorem dksX2_radixSortIndirect_21 : cX2_radixSortIndirect.data.toList.drop 488 = dktX2_radixSortIndirect_21 := dk_seg dksX2_radixSortIndirect_20 22 rfl rfl
theorem dksX2_radixSortIndirect_22 : cX2_radixSortIndirect.data.toList.drop 511 = dktX2_radixSortIndirect_22 := dk_seg dksX2_radixSortIndirect_21 23 rfl rfl
theorem dksX2_radixSortIndirect_23 : cX2_radixSortIndirect.data.toList.drop 535 = dktX2_radixSortIndirect_23 := dk_seg dksX2_radixSortIndirect_22 24 rfl rfl
theorem dksX2_radixSortIndirect_24 : cX2_radixSortIndirect.data.toList.drop 558 = dktX2_radixSortIndirect_24 := dk_seg dksX2_radixSortIndirect_23 23 rfl rfl
theorem dksX2_radixSortIndirect_25 : cX2_radixSortIndirect.data.toList.drop 582 = dktX2_radixSortIndirect_25 := dk_seg dksX2_radixSortIndirect_24 24 rfl rfl
theorem dksX2_radixSortIndirect_26 : cX2_radixSortIndirect.data.toList.drop 606 = dktX2_radixSortIndirect_26 := dk_seg dksX2_radixSortIndirect_25 24 rfl rfl
theorem dksX2_radixSortIndirect_27 : cX2_radixSortIndirect.data.toList.drop 629 = dktX2_radixSortIndirect_27 := dk_seg dksX2_radixSortIndirect_26 23 rfl rfl
theorem dksX2_radixSortIndirect_28 : cX2_radixSortIndirect.data.toList.drop 652 = dktX2_radixSortIndirect_28 := dk_seg dksX2_radixSortIndirect_27 23 rfl rfl
theorem dksX2_radixSortIndirect_29 : cX2_radixSortIndirect.data.toList.drop 676 = dktX2_radixSortIndirect_29 := dk_seg dksX2_radixSortIndirect_28 24 rfl rfl
theorem dX2_radixSortIndirect_0 : decode cX2_radixSortIndirect 0 = .ok (.iload_n 3, 1) := dk_29 (dk_at dksX2_radixSortIndirect_0 0 rfl rfl)
theorem dX2_radixSortIndirect_1 : decode cX2_radixSortIndirect 1 = .ok (.iload_n 2, 1) := dk_28 (dk_at dksX2_radixSortIndirect_0 1 rfl rfl)
theorem dX2_radixSortIndirect_2 : decode cX2_radixSortIndirect 2 = .ok (.isub, 1) := dk_100 (dk_at dksX2_radixSortIndirect_0 2 rfl rfl)
theorem dX2_radixSortIndirect_3 : decode cX2_radixSortIndirect 3 = .ok (.sipush 1024, 3) := dk_17 4 0 (dk_at dksX2_radixSortIndirect_0 3 rfl rfl)
theorem dX2_radixSortIndirect_6 : decode cX2_radixSortIndirect 6 = .ok (.if_icmp .ge 23, 3) := dk_162 0 23 (dk_at dksX2_radixSortIndirect_0 6 rfl rfl)
theorem dX2_radixSortIndirect_9 : decode cX2_radixSortIndirect 9 = .ok (.aload_n 0, 1) := dk_42 (dk_at dksX2_radixSortIndirect_0 9 rfl rfl)
theorem dX2_radixSortIndirect_10 : decode cX2_radixSortIndirect 10 = .ok (.aload_n 1, 1) := dk_43 (dk_at dksX2_radixSortIndirect_0 10 rfl rfl)
theorem dX2_radixSortIndirect_11 : decode cX2_radixSortIndirect 11 = .ok (.iload_n 2, 1) := dk_28 (dk_at dksX2_radixSortIndirect_0 11 rfl rfl)
theorem dX2_radixSortIndirect_12 : decode cX2_radixSortIndirect 12 = .ok (.iload_n 3, 1) := dk_29 (dk_at dksX2_radixSortIndirect_0 12 rfl rfl)
theorem dX2_radixSortIndirect_13 : decode cX2_radixSortIndirect 13 = .ok (.invokestatic 47, 3) := dk_184 0 47 (dk_at dksX2_radixSortIndirect_0 13 rfl rfl)
theorem dX2_radixSortIndirect_16 : decode cX2_radixSortIndirect 16 = .ok (.iload 4, 2) := dk_21 4 (dk_at dksX2_radixSortIndirect_0 16 rfl rfl)
theorem dX2_radixSortIndirect_18 : decode cX2_radixSortIndirect 18 = .ok (.ifCond .eq 10, 3) := dk_153 0 10 (dk_at dksX2_radixSortIndirect_0 18 rfl rfl)
theorem dX2_radixSortIndirect_21 : decode cX2_radixSortIndirect 21 = .ok (.aload_n 0, 1) := dk_42 (dk_at dksX2_radixSortIndirect_0 21 rfl rfl)
theorem dX2_radixSortIndirect_22 : decode cX2_radixSortIndirect 22 = .ok (.aload_n 1, 1) := dk_43 (dk_at dksX2_radixSortIndirect_0 22 rfl rfl)
theorem dX2_radixSortIndirect_23 : decode cX2_radixSortIndirect 23 = .ok (.iload_n 2, 1) := dk_28 (dk_at dksX2_radixSortIndirect_0 23 rfl rfl)
theorem dX2_radixSortIndirect_24 : decode cX2_radixSortIndirect 24 = .ok (.iload_n 3, 1) := dk_29 (dk_at dksX2_radixSortIndirect_1 0 rfl rfl)
theorem dX2_radixSortIndirect_25 : decode cX2_radixSortIndirect 25 = .ok (.invokestatic 53, 3) := dk_184 0 53 (dk_at dksX2_radixSortIndirect_1 1 rfl rfl)
theorem dX2_radixSortIndirect_28 : decode cX2_radixSortIndirect 28 = .ok (.return_, 1) := dk_177 (dk_at dksX2_radixSortIndirect_1 4 rfl rfl)
abbrev cX2_quickSortIndirect : ByteArray := prog_4_method_12_code
def yX2_quickSortIndirect : MethodName := ⟨RX2, "quickSortIndirect", "([I[III)V"⟩
def dkwX2_quickSortIndirect_15 : List UInt8 := [4, 164, 0, 13, 42, 43, 29, 21, 13, 100, 29, 184, 0, 47, 177]
abbrev dktX2_quickSortIndirect_15 : List UInt8 := dkwX2_quickSortIndirect_15 ++ []
def dkwX2_quickSortIndirect_14 : List UInt8 := [54, 13, 4, 164, 0, 13, 42, 43, 28, 28, 21, 13, 96, 184, 0, 47, 21, 12, 21, 11, 100, 89, 54, 13]
abbrev dktX2_quickSortIndirect_14 : List UInt8 := dkwX2_quickSortIndirect_14 ++ dktX2_quickSortIndirect_15
def dkwX2_quickSortIndirect_13 : List UInt8 := [184, 0, 28, 54, 13, 42, 21, 10, 29, 21, 13, 100, 21, 13, 184, 0, 33, 21, 10, 21, 9, 100, 89]
abbrev dktX2_quickSortIndirect_13 : List UInt8 := dkwX2_quickSortIndirect_13 ++ dktX2_quickSortIndirect_14
def dkwX2_quickSortIndirect_12 : List UInt8 := [28, 21, 10, 21, 13, 100, 21, 13, 184, 0, 33, 21, 12, 21, 11, 100, 29, 21, 12, 100, 4, 100]
abbrev dktX2_quickSortIndirect_12 : List UInt8 := dkwX2_quickSortIndirect_12 ++ dktX2_quickSortIndirect_13
def dkwX2_quickSortIndirect_11 : List UInt8 := [132, 11, 255, 184, 0, 5, 167, 255, 140, 21, 9, 28, 100, 21, 10, 21, 9, 100, 184, 0, 28, 54, 13, 42]
abbrev dktX2_quickSortIndirect_11 : List UInt8 := dkwX2_quickSortIndirect_11 ++ dktX2_quickSortIndirect_12
def dkwX2_quickSortIndirect_10 : List UInt8 := [132, 11, 255, 167, 255, 213, 21, 10, 21, 11, 164, 0, 6, 167, 0, 20, 42, 21, 10, 132, 10, 1, 21, 11]
abbrev dktX2_quickSortIndirect_10 : List UInt8 := dkwX2_quickSortIndirect_10 ++ dktX2_quickSortIndirect_11
def dkwX2_quickSortIndirect_9 : List UInt8 := [89, 54, 13, 155, 0, 25, 21, 13, 154, 0, 14, 42, 21, 11, 21, 12, 132, 12, 255, 184, 0, 5]
abbrev dktX2_quickSortIndirect_9 : List UInt8 := dkwX2_quickSortIndirect_9 ++ dktX2_quickSortIndirect_10
def dkwX2_quickSortIndirect_8 : List UInt8 := [132, 10, 1, 167, 255, 213, 21, 11, 21, 10, 161, 0, 42, 43, 42, 21, 11, 46, 46, 21, 8, 184, 0, 17]
abbrev dktX2_quickSortIndirect_8 : List UInt8 := dkwX2_quickSortIndirect_8 ++ dktX2_quickSortIndirect_9
def dkwX2_quickSortIndirect_7 : List UInt8 := [89, 54, 13, 157, 0, 25, 21, 13, 154, 0, 14, 42, 21, 9, 132, 9, 1, 21, 10, 184, 0, 5]
abbrev dktX2_quickSortIndirect_7 : List UInt8 := dkwX2_quickSortIndirect_7 ++ dktX2_quickSortIndirect_8
def dkwX2_quickSortIndirect_6 : List UInt8 := [54, 11, 21, 11, 54, 12, 21, 10, 21, 11, 163, 0, 42, 43, 42, 21, 10, 46, 46, 21, 8, 184, 0, 17]
abbrev dktX2_quickSortIndirect_6 : List UInt8 := dkwX2_quickSortIndirect_6 ++ dktX2_quickSortIndirect_7
def dkwX2_quickSortIndirect_5 : List UInt8 := [184, 0, 43, 54, 5, 43, 42, 21, 5, 46, 46, 54, 8, 28, 54, 9, 21, 9, 54, 10, 29, 4, 100]
abbrev dktX2_quickSortIndirect_5 : List UInt8 := dkwX2_quickSortIndirect_5 ++ dktX2_quickSortIndirect_6
def dkwX2_quickSortIndirect_4 : List UInt8 := [21, 8, 104, 100, 21, 7, 21, 8, 100, 21, 7, 184, 0, 43, 54, 7, 42, 43, 21, 6, 21, 5, 21, 7]
abbrev dktX2_quickSortIndirect_4 : List UInt8 := dkwX2_quickSortIndirect_4 ++ dktX2_quickSortIndirect_5
def dkwX2_quickSortIndirect_3 : List UInt8 := [42, 43, 21, 5, 21, 8, 100, 21, 5, 21, 5, 21, 8, 96, 184, 0, 43, 54, 5, 42, 43, 21, 7, 5]
abbrev dktX2_quickSortIndirect_3 : List UInt8 := dkwX2_quickSortIndirect_3 ++ dktX2_quickSortIndirect_4
def dkwX2_quickSortIndirect_2 : List UInt8 := [108, 54, 8, 42, 43, 21, 6, 21, 6, 21, 8, 96, 21, 6, 5, 21, 8, 104, 96, 184, 0, 43, 54, 6]
abbrev dktX2_quickSortIndirect_2 : List UInt8 := dkwX2_quickSortIndirect_2 ++ dktX2_quickSortIndirect_3
def dkwX2_quickSortIndirect_1 : List UInt8 := [108, 96, 54, 5, 28, 54, 6, 29, 4, 100, 54, 7, 21, 4, 17, 0, 128, 164, 0, 71, 21, 4, 16, 8]
abbrev dktX2_quickSortIndirect_1 : List UInt8 := dkwX2_quickSortIndirect_1 ++ dktX2_quickSortIndirect_2
def dkwX2_quickSortIndirect_0 : List UInt8 := [29, 28, 100, 54, 4, 21, 4, 16, 16, 162, 0, 11, 42, 43, 28, 29, 184, 0, 39, 177, 28, 21, 4, 5]
abbrev dktX2_quickSortIndirect_0 : List UInt8 := dkwX2_quickSortIndirect_0 ++ dktX2_quickSortIndirect_1
theorem dksX2_quickSortIndirect_0 : cX2_quickSortIndirect.data.toList.drop 0 = dktX2_quickSortIndirect_0 := by decide +kernel
theorem dksX2_quickSortIndirect_1 : cX2_quickSortIndirect.data.toList.drop 24 = dktX2_quickSortIndirect_1 := dk_seg dksX2_quickSortIndirect_0 24 rfl rfl
theorem dksX2_quickSortIndirect_2 : cX2_quickSortIndirect.data.toList.drop 48 = dktX2_quickSortIndirect_2 := dk_seg dksX2_quickSortIndirect_1 24 rfl rfl
theorem dksX2_quickSortIndirect_3 : cX2_quickSortIndirect.data.toList.drop 72 = dktX2_quickSortIndirect_3 := dk_seg dksX2_quickSortIndirect_2 24 rfl rfl
theorem dksX2_quickSortIndirect_4 : cX2_quickSortIndirect.data.toList.drop 96 = dktX2_quickSortIndirect_4 := dk_seg dksX2_quickSortIndirect_3 24 rfl rfl
theorem dksX2_quickSortIndirect_5 : cX2_quickSortIndirect.data.toList.drop 120 = dktX2_quickSortIndirect_5 := dk_seg dksX2_quickSortIndirect_4 24 rfl rfl
theorem dksX2_quickSortIndirect_6 : cX2_quickSortIndirect.data.toList.drop 143 = dktX2_quickSortIndirect_6 := dk_seg dksX2_quickSortIndirect_5 23 rfl rfl
theorem dksX2_quickSortIndirect_7 : cX2_quickSortIndirect.data.toList.drop 167 = dktX2_quickSortIndirect_7 := dk_seg dksX2_quickSortIndirect_6 24 rfl rfl
theorem dksX2_quickSortIndirect_8 : cX2_quickSortIndirect.data.toList.drop 189 = dktX2_quickSortIndirect_8 := dk_seg dksX2_quickSortIndirect_7 22 rfl rfl
theorem dksX2_quickSortIndirect_9 : cX2_quickSortIndirect.data.toList.drop 213 = dktX2_quickSortIndirect_9 := dk_seg dksX2_quickSortIndirect_8 24 rfl rfl
theorem dksX2_quickSortIndirect_10 : cX2_quickSortIndirect.data.toList.drop 235 = dktX2_quickSortIndirect_10 := dk_seg dksX2_quickSortIndirect_9 22 rfl rfl
theorem dksX2_quickSortIndirect_11 : cX2_quickSortIndirect.data.toList.drop 259 = dktX2_quickSortIndirect_11 := dk_seg dksX2_quickSortIndirect_10 24 rfl rfl
theorem dksX2_quickSortIndirect_12 : cX2_quickSortIndirect.data.toList.drop 283 = dktX2_quickSortIndirect_12 := dk_seg dksX2_quickSortIndirect_11 24 rfl rfl
theorem dksX2_quickSortIndirect_13 : cX2_quickSortIndirect.data.toList.drop 305 = dktX2_quickSortIndirect_13 := dk_seg dksX2_quickSortIndirect_12 22 rfl rfl
theorem dksX2_quickSortIndirect_14 : cX2_quickSortIndirect.data.toList.drop 328 = dktX2_quickSortIndirect_14 := dk_seg dksX2_quickSortIndirect_13 23 rfl rfl
theorem dksX2_quickSortIndirect_15 : cX2_quickSortIndirect.data.toList.drop 352 = dktX2_quickSortIndirect_15 := dk_seg dksX2_quickSortIndirect_14 24 rfl rfl
theorem dX2_quickSortIndirect_0 : decode cX2_quickSortIndirect 0 = .ok (.iload_n 3, 1) := dk_29 (dk_at dksX2_quickSortIndirect_0 0 rfl rfl)
theorem dX2_quickSortIndirect_1 : decode cX2_quickSortIndirect 1 = .ok (.iload_n 2, 1) := dk_28 (dk_at dksX2_quickSortIndirect_0 1 rfl rfl)
theorem dX2_quickSortIndirect_2 : decode cX2_quickSortIndirect 2 = .ok (.isub, 1) := dk_100 (dk_at dksX2_quickSortIndirect_0 2 rfl rfl)
theorem dX2_quickSortIndirect_3 : decode cX2_quickSortIndirect 3 = .ok (.istore 4, 2) := dk_54 4 (dk_at dksX2_quickSortIndirect_0 3 rfl rfl)
theorem dX2_quickSortIndirect_5 : decode cX2_quickSortIndirect 5 = .ok (.iload 4, 2) := dk_21 4 (dk_at dksX2_quickSortIndirect_0 5 rfl rfl)
theorem dX2_quickSortIndirect_7 : decode cX2_quickSortIndirect 7 = .ok (.bipush 16, 2) := dk_16 16 (dk_at dksX2_quickSortIndirect_0 7 rfl rfl)
theorem dX2_quickSortIndirect_9 : decode cX2_quickSortIndirect 9 = .ok (.if_icmp .ge 11, 3) := dk_162 0 11 (dk_at dksX2_quickSortIndirect_0 9 rfl rfl)
theorem dX2_quickSortIndirect_12 : decode cX2_quickSortIndirect 12 = .ok (.aload_n 0, 1) := dk_42 (dk_at dksX2_quickSortIndirect_0 12 rfl rfl)
theorem dX2_quickSortIndirect_13 : decode cX2_quickSortIndirect 13 = .ok (.aload_n 1, 1) := dk_43 (dk_at dksX2_quickSortIndirect_0 13 rfl rfl)
theorem dX2_quickSortIndirect_14 : decode cX2_quickSortIndirect 14 = .ok (.iload_n 2, 1) := dk_28 (dk_at dksX2_quickSortIndirect_0 14 rfl rfl)
theorem dX2_quickSortIndirect_15 : decode cX2_quickSortIndirect 15 = .ok (.iload_n 3, 1) := dk_29 (dk_at dksX2_quickSortIndirect_0 15 rfl rfl)
theorem dX2_quickSortIndirect_16 : decode cX2_quickSortIndirect 16 = .ok (.invokestatic 39, 3) := dk_184 0 39 (dk_at dksX2_quickSortIndirect_0 16 rfl rfl)
theorem dX2_quickSortIndirect_19 : decode cX2_quickSortIndirect 19 = .ok (.return_, 1) := dk_177 (dk_at dksX2_quickSortIndirect_0 19 rfl rfl)
theorem dX2_quickSortIndirect_20 : decode cX2_quickSortIndirect 20 = .ok (.iload_n 2, 1) := dk_28 (dk_at dksX2_quickSortIndirect_0 20 rfl rfl)
theorem dX2_quickSortIndirect_21 : decode cX2_quickSortIndirect 21 = .ok (.iload 4, 2) := dk_21 4 (dk_at dksX2_quickSortIndirect_0 21 rfl rfl)
theorem dX2_quickSortIndirect_23 : decode cX2_quickSortIndirect 23 = .ok (.iconst 2, 1) := dk_5 (dk_at dksX2_quickSortIndirect_0 23 rfl rfl)
theorem dX2_quickSortIndirect_24 : decode cX2_quickSortIndirect 24 = .ok (.idiv, 1) := dk_108 (dk_at dksX2_quickSortIndirect_1 0 rfl rfl)
theorem dX2_quickSortIndirect_25 : decode cX2_quickSortIndirect 25 = .ok (.iadd, 1) := dk_96 (dk_at dksX2_quickSortIndirect_1 1 rfl rfl)
theorem dX2_quickSortIndirect_26 : decode cX2_quickSortIndirect 26 = .ok (.istore 5, 2) := dk_54 5 (dk_at dksX2_quickSortIndirect_1 2 rfl rfl)
theorem dX2_quickSortIndirect_28 : decode cX2_quickSortIndirect 28 = .ok (.iload_n 2, 1) := dk_28 (dk_at dksX2_quickSortIndirect_1 4 rfl rfl)
theorem dX2_quickSortIndirect_29 : decode cX2_quickSortIndirect 29 = .ok (.istore 6, 2) := dk_54 6 (dk_at dksX2_quickSortIndirect_1 5 rfl rfl)
theorem dX2_quickSortIndirect_31 : decode cX2_quickSortIndirect 31 = .ok (.iload_n 3, 1) := dk_29 (dk_at dksX2_quickSortIndirect_1 7 rfl rfl)
theorem dX2_quickSortIndirect_32 : decode cX2_quickSortIndirect 32 = .ok (.iconst 1, 1) := dk_4 (dk_at dksX2_quickSortIndirect_1 8 rfl rfl)
theorem dX2_quickSortIndirect_33 : decode cX2_quickSortIndirect 33 = .ok (.isub, 1) := dk_100 (dk_at dksX2_quickSortIndirect_1 9 rfl rfl)
theorem dX2_quickSortIndirect_34 : decode cX2_quickSortIndirect 34 = .ok (.istore 7, 2) := dk_54 7 (dk_at dksX2_quickSortIndirect_1 10 rfl rfl)
theorem dX2_quickSortIndirect_36 : decode cX2_quickSortIndirect 36 = .ok (.iload 4, 2) := dk_21 4 (dk_at dksX2_quickSortIndirect_1 12 rfl rfl)
theorem dX2_quickSortIndirect_38 : decode cX2_quickSortIndirect 38 = .ok (.sipush 128, 3) := dk_17 0 128 (dk_at dksX2_quickSortIndirect_1 14 rfl rfl)
theorem dX2_quickSortIndirect_41 : decode cX2_quickSortIndirect 41 = .ok (.if_icmp .le 71, 3) := dk_164 0 71 (dk_at dksX2_quickSortIndirect_1 17 rfl rfl)
theorem dX2_quickSortIndirect_44 : decode cX2_quickSortIndirect 44 = .ok (.iload 4, 2) := dk_21 4 (dk_at dksX2_quickSortIndirect_1 20 rfl rfl)
theorem dX2_quickSortIndirect_46 : decode cX2_quickSortIndirect 46 = .ok (.bipush 8, 2) := dk_16 8 (dk_at dksX2_quickSortIndirect_1 22 rfl rfl)
theorem dX2_quickSortIndirect_48 : decode cX2_quickSortIndirect 48 = .ok (.idiv, 1) := dk_108 (dk_at dksX2_quickSortIndirect_2 0 rfl rfl)
theorem dX2_quickSortIndirect_49 : decode cX2_quickSortIndirect 49 = .ok (.istore 8, 2) := dk_54 8 (dk_at dksX2_quickSortIndirect_2 1 rfl rfl)
theorem dX2_quickSortIndirect_51 : decode cX2_quickSortIndirect 51 = .ok (.aload_n 0, 1) := dk_42 (dk_at dksX2_quickSortIndirect_2 3 rfl rfl)
theorem dX2_quickSortIndirect_52 : decode cX2_quickSortIndirect 52 = .ok (.aload_n 1, 1) := dk_43 (dk_at dksX2_quickSortIndirect_2 4 rfl rfl)
theorem dX2_quickSortIndirect_53 : decode cX2_quickSortIndirect 53 = .ok (.iload 6, 2) := dk_21 6 (dk_at dksX2_quickSortIndirect_2 5 rfl rfl)
theorem dX2_quickSortIndirect_55 : decode cX2_quickSortIndirect 55 = .ok (.iload 6, 2) := dk_21 6 (dk_at dksX2_quickSortIndirect_2 7 rfl rfl)
theorem dX2_quickSortIndirect_57 : decode cX2_quickSortIndirect 57 = .ok (.iload 8, 2) := dk_21 8 (dk_at dksX2_quickSortIndirect_2 9 rfl rfl)
theorem dX2_quickSortIndirect_59 : decode cX2_quickSortIndirect 59 = .ok (.iadd, 1) := dk_96 (dk_at dksX2_quickSortIndirect_2 11 rfl rfl)
theorem dX2_quickSortIndirect_60 : decode cX2_quickSortIndirect 60 = .ok (.iload 6, 2) := dk_21 6 (dk_at dksX2_quickSortIndirect_2 12 rfl rfl)
theorem dX2_quickSortIndirect_62 : decode cX2_quickSortIndirect 62 = .ok (.iconst 2, 1) := dk_5 (dk_at dksX2_quickSortIndirect_2 14 rfl rfl)
theorem dX2_quickSortIndirect_63 : decode cX2_quickSortIndirect 63 = .ok (.iload 8, 2) := dk_21 8 (dk_at dksX2_quickSortIndirect_2 15 rfl rfl)
theorem dX2_quickSortIndirect_65 : decode cX2_quickSortIndirect 65 = .ok (.imul, 1) := dk_104 (dk_at dksX2_quickSortIndirect_2 17 rfl rfl)
theorem dX2_quickSortIndirect_66 : decode cX2_quickSortIndirect 66 = .ok (.iadd, 1) := dk_96 (dk_at dksX2_quickSortIndirect_2 18 rfl rfl)
theorem dX2_quickSortIndirect_67 : decode cX2_quickSortIndirect 67 = .ok (.invokestatic 43, 3) := dk_184 0 43 (dk_at dksX2_quickSortIndirect_2 19 rfl rfl)
theorem dX2_quickSortIndirect_70 : decode cX2_quickSortIndirect 70 = .ok (.istore 6, 2) := dk_54 6 (dk_at dksX2_quickSortIndirect_2 22 rfl rfl)
theorem dX2_quickSortIndirect_72 : decode cX2_quickSortIndirect 72 = .ok (.aload_n 0, 1) := dk_42 (dk_at dksX2_quickSortIndirect_3 0 rfl rfl)
theorem dX2_quickSortIndirect_73 : decode cX2_quickSortIndirect 73 = .ok (.aload_n 1, 1) := dk_43 (dk_at dksX2_quickSortIndirect_3 1 rfl rfl)
theorem dX2_quickSortIndirect_74 : decode cX2_quickSortIndirect 74 = .ok (.iload 5, 2) := dk_21 5 (dk_at dksX2_quickSortIndirect_3 2 rfl rfl)
theorem dX2_quickSortIndirect_76 : decode cX2_quickSortIndirect 76 = .ok (.iload 8, 2) := dk_21 8 (dk_at dksX2_quickSortIndirect_3 4 rfl rfl)
theorem dX2_quickSortIndirect_78 : decode cX2_quickSortIndirect 78 = .ok (.isub, 1) := dk_100 (dk_at dksX2_quickSortIndirect_3 6 rfl rfl)
theorem dX2_quickSortIndirect_79 : decode cX2_quickSortIndirect 79 = .ok (.iload 5, 2) := dk_21 5 (dk_at dksX2_quickSortIndirect_3 7 rfl rfl)
theorem dX2_quickSortIndirect_81 : decode cX2_quickSortIndirect 81 = .ok (.iload 5, 2) := dk_21 5 (dk_at dksX2_quickSortIndirect_3 9 rfl rfl)
theorem dX2_quickSortIndirect_83 : decode cX2_quickSortIndirect 83 = .ok (.iload 8, 2) := dk_21 8 (dk_at dksX2_quickSortIndirect_3 11 rfl rfl)
theorem dX2_quickSortIndirect_85 : decode cX2_quickSortIndirect 85 = .ok (.iadd, 1) := dk_96 (dk_at dksX2_quickSortIndirect_3 13 rfl rfl)
theorem dX2_quickSortIndirect_86 : decode cX2_quickSortIndirect 86 = .ok (.invokestatic 43, 3) := dk_184 0 43 (dk_at dksX2_quickSortIndirect_3 14 rfl rfl)
theorem dX2_quickSortIndirect_89 : decode cX2_quickSortIndirect 89 = .ok (.istore 5, 2) := dk_54 5 (dk_at dksX2_quickSortIndirect_3 17 rfl rfl)
theorem dX2_quickSortIndirect_91 : decode cX2_quickSortIndirect 91 = .ok (.aload_n 0, 1) := dk_42 (dk_at dksX2_quickSortIndirect_3 19 rfl rfl)
theorem dX2_quickSortIndirect_92 : decode cX2_quickSortIndirect 92 = .ok (.aload_n 1, 1) := dk_43 (dk_at dksX2_quickSortIndirect_3 20 rfl rfl)
theorem dX2_quickSortIndirect_93 : decode cX2_quickSortIndirect 93 = .ok (.iload 7, 2) := dk_21 7 (dk_at dksX2_quickSortIndirect_3 21 rfl rfl)
theorem dX2_quickSortIndirect_95 : decode cX2_quickSortIndirect 95 = .ok (.iconst 2, 1) := dk_5 (dk_at dksX2_quickSortIndirect_3 23 rfl rfl)
theorem dX2_quickSortIndirect_96 : decode cX2_quickSortIndirect 96 = .ok (.iload 8, 2) := dk_21 8 (dk_at dksX2_quickSortIndirect_4 0 rfl rfl)
theorem dX2_quickSortIndirect_98 : decode cX2_quickSortIndirect 98 = .ok (.imul, 1) := dk_104 (dk_at dksX2_quickSortIndirect_4 2 rfl rfl)
theorem dX2_quickSortIndirect_99 : decode cX2_quickSortIndirect 99 = .ok (.isub, 1) := dk_100 (dk_at dksX2_quickSortIndirect_4 3 rfl rfl)
theorem dX2_quickSortIndirect_100 : decode cX2_quickSortIndirect 100 = .ok (.iload 7, 2) := dk_21 7 (dk_at dksX2_quickSortIndirect_4 4 rfl rfl)
theorem dX2_quickSortIndirect_102 : decode cX2_quickSortIndirect 102 = .ok (.iload 8, 2) := dk_21 8 (dk_at dksX2_quickSortIndirect_4 6 rfl rfl)
theorem dX2_quickSortIndirect_104 : decode cX2_quickSortIndirect 104 = .ok (.isub, 1) := dk_100 (dk_at dksX2_quickSortIndirect_4 8 rfl rfl)
theorem dX2_quickSortIndirect_105 : decode cX2_quickSortIndirect 105 = .ok (.iload 7, 2) := dk_21 7 (dk_at dksX2_quickSortIndirect_4 9 rfl rfl)
theorem dX2_quickSortIndirect_107 : decode cX2_quickSortIndirect 107 = .ok (.invokestatic 43, 3) := dk_184 0 43 (dk_at dksX2_quickSortIndirect_4 11 rfl rfl)
theorem dX2_quickSortIndirect_110 : decode cX2_quickSortIndirect 110 = .ok (.istore 7, 2) := dk_54 7 (dk_at dksX2_quickSortIndirect_4 14 rfl rfl)
theorem dX2_quickSortIndirect_112 : decode cX2_quickSortIndirect 112 = .ok (.aload_n 0, 1) := dk_42 (dk_at dksX2_quickSortIndirect_4 16 rfl rfl)
theorem dX2_quickSortIndirect_113 : decode cX2_quickSortIndirect 113 = .ok (.aload_n 1, 1) := dk_43 (dk_at dksX2_quickSortIndirect_4 17 rfl rfl)
theorem dX2_quickSortIndirect_114 : decode cX2_quickSortIndirect 114 = .ok (.iload 6, 2) := dk_21 6 (dk_at dksX2_quickSortIndirect_4 18 rfl rfl)
theorem dX2_quickSortIndirect_116 : decode cX2_quickSortIndirect 116 = .ok (.iload 5, 2) := dk_21 5 (dk_at dksX2_quickSortIndirect_4 20 rfl rfl)
theorem dX2_quickSortIndirect_118 : decode cX2_quickSortIndirect 118 = .ok (.iload 7, 2) := dk_21 7 (dk_at dksX2_quickSortIndirect_4 22 rfl rfl)
theorem dX2_quickSortIndirect_120 : decode cX2_quickSortIndirect 120 = .ok (.invokestatic 43, 3) := dk_184 0 43 (dk_at dksX2_quickSortIndirect_5 0 rfl rfl)
theorem dX2_quickSortIndirect_123 : decode cX2_quickSortIndirect 123 = .ok (.istore 5, 2) := dk_54 5 (dk_at dksX2_quickSortIndirect_5 3 rfl rfl)
theorem dX2_quickSortIndirect_125 : decode cX2_quickSortIndirect 125 = .ok (.aload_n 1, 1) := dk_43 (dk_at dksX2_quickSortIndirect_5 5 rfl rfl)
theorem dX2_quickSortIndirect_126 : decode cX2_quickSortIndirect 126 = .ok (.aload_n 0, 1) := dk_42 (dk_at dksX2_quickSortIndirect_5 6 rfl rfl)
theorem dX2_quickSortIndirect_127 : decode cX2_quickSortIndirect 127 = .ok (.iload 5, 2) := dk_21 5 (dk_at dksX2_quickSortIndirect_5 7 rfl rfl)
theorem dX2_quickSortIndirect_129 : decode cX2_quickSortIndirect 129 = .ok (.iaload, 1) := dk_46 (dk_at dksX2_quickSortIndirect_5 9 rfl rfl)
theorem dX2_quickSortIndirect_130 : decode cX2_quickSortIndirect 130 = .ok (.iaload, 1) := dk_46 (dk_at dksX2_quickSortIndirect_5 10 rfl rfl)
theorem dX2_quickSortIndirect_131 : decode cX2_quickSortIndirect 131 = .ok (.istore 8, 2) := dk_54 8 (dk_at dksX2_quickSortIndirect_5 11 rfl rfl)
theorem dX2_quickSortIndirect_133 : decode cX2_quickSortIndirect 133 = .ok (.iload_n 2, 1) := dk_28 (dk_at dksX2_quickSortIndirect_5 13 rfl rfl)
theorem dX2_quickSortIndirect_134 : decode cX2_quickSortIndirect 134 = .ok (.istore 9, 2) := dk_54 9 (dk_at dksX2_quickSortIndirect_5 14 rfl rfl)
theorem dX2_quickSortIndirect_136 : decode cX2_quickSortIndirect 136 = .ok (.iload 9, 2) := dk_21 9 (dk_at dksX2_quickSortIndirect_5 16 rfl rfl)
theorem dX2_quickSortIndirect_138 : decode cX2_quickSortIndirect 138 = .ok (.istore 10, 2) := dk_54 10 (dk_at dksX2_quickSortIndirect_5 18 rfl rfl)
theorem dX2_quickSortIndirect_140 : decode cX2_quickSortIndirect 140 = .ok (.iload_n 3, 1) := dk_29 (dk_at dksX2_quickSortIndirect_5 20 rfl rfl)
theorem dX2_quickSortIndirect_141 : decode cX2_quickSortIndirect 141 = .ok (.iconst 1, 1) := dk_4 (dk_at dksX2_quickSortIndirect_5 21 rfl rfl)
theorem dX2_quickSortIndirect_142 : decode cX2_quickSortIndirect 142 = .ok (.isub, 1) := dk_100 (dk_at dksX2_quickSortIndirect_5 22 rfl rfl)
theorem dX2_quickSortIndirect_143 : decode cX2_quickSortIndirect 143 = .ok (.istore 11, 2) := dk_54 11 (dk_at dksX2_quickSortIndirect_6 0 rfl rfl)
theorem dX2_quickSortIndirect_145 : decode cX2_quickSortIndirect 145 = .ok (.iload 11, 2) := dk_21 11 (dk_at dksX2_quickSortIndirect_6 2 rfl rfl)
theorem dX2_quickSortIndirect_147 : decode cX2_quickSortIndirect 147 = .ok (.istore 12, 2) := dk_54 12 (dk_at dksX2_quickSortIndirect_6 4 rfl rfl)
theorem dX2_quickSortIndirect_149 : decode cX2_quickSortIndirect 149 = .ok (.iload 10, 2) := dk_21 10 (dk_at dksX2_quickSortIndirect_6 6 rfl rfl)
theorem dX2_quickSortIndirect_151 : decode cX2_quickSortIndirect 151 = .ok (.iload 11, 2) := dk_21 11 (dk_at dksX2_quickSortIndirect_6 8 rfl rfl)
theorem dX2_quickSortIndirect_153 : decode cX2_quickSortIndirect 153 = .ok (.if_icmp .gt 42, 3) := dk_163 0 42 (dk_at dksX2_quickSortIndirect_6 10 rfl rfl)
theorem dX2_quickSortIndirect_156 : decode cX2_quickSortIndirect 156 = .ok (.aload_n 1, 1) := dk_43 (dk_at dksX2_quickSortIndirect_6 13 rfl rfl)
theorem dX2_quickSortIndirect_157 : decode cX2_quickSortIndirect 157 = .ok (.aload_n 0, 1) := dk_42 (dk_at dksX2_quickSortIndirect_6 14 rfl rfl)
theorem dX2_quickSortIndirect_158 : decode cX2_quickSortIndirect 158 = .ok (.iload 10, 2) := dk_21 10 (dk_at dksX2_quickSortIndirect_6 15 rfl rfl)
theorem dX2_quickSortIndirect_160 : decode cX2_quickSortIndirect 160 = .ok (.iaload, 1) := dk_46 (dk_at dksX2_quickSortIndirect_6 17 rfl rfl)
theorem dX2_quickSortIndirect_161 : decode cX2_quickSortIndirect 161 = .ok (.iaload, 1) := dk_46 (dk_at dksX2_quickSortIndirect_6 18 rfl rfl)
theorem dX2_quickSortIndirect_162 : decode cX2_quickSortIndirect 162 = .ok (.iload 8, 2) := dk_21 8 (dk_at dksX2_quickSortIndirect_6 19 rfl rfl)
theorem dX2_quickSortIndirect_164 : decode cX2_quickSortIndirect 164 = .ok (.invokestatic 17, 3) := dk_184 0 17 (dk_at dksX2_quickSortIndirect_6 21 rfl rfl)
theorem dX2_quickSortIndirect_167 : decode cX2_quickSortIndirect 167 = .ok (.dup, 1) := dk_89 (dk_at dksX2_quickSortIndirect_7 0 rfl rfl)
theorem dX2_quickSortIndirect_168 : decode cX2_quickSortIndirect 168 = .ok (.istore 13, 2) := dk_54 13 (dk_at dksX2_quickSortIndirect_7 1 rfl rfl)
theorem dX2_quickSortIndirect_170 : decode cX2_quickSortIndirect 170 = .ok (.ifCond .gt 25, 3) := dk_157 0 25 (dk_at dksX2_quickSortIndirect_7 3 rfl rfl)
theorem dX2_quickSortIndirect_173 : decode cX2_quickSortIndirect 173 = .ok (.iload 13, 2) := dk_21 13 (dk_at dksX2_quickSortIndirect_7 6 rfl rfl)
theorem dX2_quickSortIndirect_175 : decode cX2_quickSortIndirect 175 = .ok (.ifCond .ne 14, 3) := dk_154 0 14 (dk_at dksX2_quickSortIndirect_7 8 rfl rfl)
theorem dX2_quickSortIndirect_178 : decode cX2_quickSortIndirect 178 = .ok (.aload_n 0, 1) := dk_42 (dk_at dksX2_quickSortIndirect_7 11 rfl rfl)
theorem dX2_quickSortIndirect_179 : decode cX2_quickSortIndirect 179 = .ok (.iload 9, 2) := dk_21 9 (dk_at dksX2_quickSortIndirect_7 12 rfl rfl)
theorem dX2_quickSortIndirect_181 : decode cX2_quickSortIndirect 181 = .ok (.iinc 9 1, 3) := dk_132 9 1 (dk_at dksX2_quickSortIndirect_7 14 rfl rfl)
theorem dX2_quickSortIndirect_184 : decode cX2_quickSortIndirect 184 = .ok (.iload 10, 2) := dk_21 10 (dk_at dksX2_quickSortIndirect_7 17 rfl rfl)
theorem dX2_quickSortIndirect_186 : decode cX2_quickSortIndirect 186 = .ok (.invokestatic 5, 3) := dk_184 0 5 (dk_at dksX2_quickSortIndirect_7 19 rfl rfl)
theorem dX2_quickSortIndirect_189 : decode cX2_quickSortIndirect 189 = .ok (.iinc 10 1, 3) := dk_132 10 1 (dk_at dksX2_quickSortIndirect_8 0 rfl rfl)
theorem dX2_quickSortIndirect_192 : decode cX2_quickSortIndirect 192 = .ok (.goto (-43), 3) := dk_167 255 213 (dk_at dksX2_quickSortIndirect_8 3 rfl rfl)
theorem dX2_quickSortIndirect_195 : decode cX2_quickSortIndirect 195 = .ok (.iload 11, 2) := dk_21 11 (dk_at dksX2_quickSortIndirect_8 6 rfl rfl)
theorem dX2_quickSortIndirect_197 : decode cX2_quickSortIndirect 197 = .ok (.iload 10, 2) := dk_21 10 (dk_at dksX2_quickSortIndirect_8 8 rfl rfl)
theorem dX2_quickSortIndirect_199 : decode cX2_quickSortIndirect 199 = .ok (.if_icmp .lt 42, 3) := dk_161 0 42 (dk_at dksX2_quickSortIndirect_8 10 rfl rfl)
theorem dX2_quickSortIndirect_202 : decode cX2_quickSortIndirect 202 = .ok (.aload_n 1, 1) := dk_43 (dk_at dksX2_quickSortIndirect_8 13 rfl rfl)
theorem dX2_quickSortIndirect_203 : decode cX2_quickSortIndirect 203 = .ok (.aload_n 0, 1) := dk_42 (dk_at dksX2_quickSortIndirect_8 14 rfl rfl)
theorem dX2_quickSortIndirect_204 : decode cX2_quickSortIndirect 204 = .ok (.iload 11, 2) := dk_21 11 (dk_at dksX2_quickSortIndirect_8 15 rfl rfl)
theorem dX2_quickSortIndirect_206 : decode cX2_quickSortIndirect 206 = .ok (.iaload, 1) := dk_46 (dk_at dksX2_quickSortIndirect_8 17 rfl rfl)
theorem dX2_quickSortIndirect_207 : decode cX2_quickSortIndirect 207 = .ok (.iaload, 1) := dk_46 (dk_at dksX2_quickSortIndirect_8 18 rfl rfl)
theorem dX2_quickSortIndirect_208 : decode cX2_quickSortIndirect 208 = .ok (.iload 8, 2) := dk_21 8 (dk_at dksX2_quickSortIndirect_8 19 rfl rfl)
theorem dX2_quickSortIndirect_210 : decode cX2_quickSortIndirect 210 = .ok (.invokestatic 17, 3) := dk_184 0 17 (dk_at dksX2_quickSortIndirect_8 21 rfl rfl)
theorem dX2_quickSortIndirect_213 : decode cX2_quickSortIndirect 213 = .ok (.dup, 1) := dk_89 (dk_at dksX2_quickSortIndirect_9 0 rfl rfl)
theorem dX2_quickSortIndirect_214 : decode cX2_quickSortIndirect 214 = .ok (.istore 13, 2) := dk_54 13 (dk_at dksX2_quickSortIndirect_9 1 rfl rfl)
theorem dX2_quickSortIndirect_216 : decode cX2_quickSortIndirect 216 = .ok (.ifCond .lt 25, 3) := dk_155 0 25 (dk_at dksX2_quickSortIndirect_9 3 rfl rfl)
theorem dX2_quickSortIndirect_219 : decode cX2_quickSortIndirect 219 = .ok (.iload 13, 2) := dk_21 13 (dk_at dksX2_quickSortIndirect_9 6 rfl rfl)
theorem dX2_quickSortIndirect_221 : decode cX2_quickSortIndirect 221 = .ok (.ifCond .ne 14, 3) := dk_154 0 14 (dk_at dksX2_quickSortIndirect_9 8 rfl rfl)
theorem dX2_quickSortIndirect_224 : decode cX2_quickSortIndirect 224 = .ok (.aload_n 0, 1) := dk_42 (dk_at dksX2_quickSortIndirect_9 11 rfl rfl)
theorem dX2_quickSortIndirect_225 : decode cX2_quickSortIndirect 225 = .ok (.iload 11, 2) := dk_21 11 (dk_at dksX2_quickSortIndirect_9 12 rfl rfl)
theorem dX2_quickSortIndirect_227 : decode cX2_quickSortIndirect 227 = .ok (.iload 12, 2) := dk_21 12 (dk_at dksX2_quickSortIndirect_9 14 rfl rfl)
theorem dX2_quickSortIndirect_229 : decode cX2_quickSortIndirect 229 = .ok (.iinc 12 (-1), 3) := dk_132 12 255 (dk_at dksX2_quickSortIndirect_9 16 rfl rfl)
theorem dX2_quickSortIndirect_232 : decode cX2_quickSortIndirect 232 = .ok (.invokestatic 5, 3) := dk_184 0 5 (dk_at dksX2_quickSortIndirect_9 19 rfl rfl)
theorem dX2_quickSortIndirect_235 : decode cX2_quickSortIndirect 235 = .ok (.iinc 11 (-1), 3) := dk_132 11 255 (dk_at dksX2_quickSortIndirect_10 0 rfl rfl)
theorem dX2_quickSortIndirect_238 : decode cX2_quickSortIndirect 238 = .ok (.goto (-43), 3) := dk_167 255 213 (dk_at dksX2_quickSortIndirect_10 3 rfl rfl)
theorem dX2_quickSortIndirect_241 : decode cX2_quickSortIndirect 241 = .ok (.iload 10, 2) := dk_21 10 (dk_at dksX2_quickSortIndirect_10 6 rfl rfl)
theorem dX2_quickSortIndirect_243 : decode cX2_quickSortIndirect 243 = .ok (.iload 11, 2) := dk_21 11 (dk_at dksX2_quickSortIndirect_10 8 rfl rfl)
theorem dX2_quickSortIndirect_245 : decode cX2_quickSortIndirect 245 = .ok (.if_icmp .le 6, 3) := dk_164 0 6 (dk_at dksX2_quickSortIndirect_10 10 rfl rfl)
theorem dX2_quickSortIndirect_248 : decode cX2_quickSortIndirect 248 = .ok (.goto 20, 3) := dk_167 0 20 (dk_at dksX2_quickSortIndirect_10 13 rfl rfl)
theorem dX2_quickSortIndirect_251 : decode cX2_quickSortIndirect 251 = .ok (.aload_n 0, 1) := dk_42 (dk_at dksX2_quickSortIndirect_10 16 rfl rfl)
theorem dX2_quickSortIndirect_252 : decode cX2_quickSortIndirect 252 = .ok (.iload 10, 2) := dk_21 10 (dk_at dksX2_quickSortIndirect_10 17 rfl rfl)
theorem dX2_quickSortIndirect_254 : decode cX2_quickSortIndirect 254 = .ok (.iinc 10 1, 3) := dk_132 10 1 (dk_at dksX2_quickSortIndirect_10 19 rfl rfl)
theorem dX2_quickSortIndirect_257 : decode cX2_quickSortIndirect 257 = .ok (.iload 11, 2) := dk_21 11 (dk_at dksX2_quickSortIndirect_10 22 rfl rfl)
theorem dX2_quickSortIndirect_259 : decode cX2_quickSortIndirect 259 = .ok (.iinc 11 (-1), 3) := dk_132 11 255 (dk_at dksX2_quickSortIndirect_11 0 rfl rfl)
theorem dX2_quickSortIndirect_262 : decode cX2_quickSortIndirect 262 = .ok (.invokestatic 5, 3) := dk_184 0 5 (dk_at dksX2_quickSortIndirect_11 3 rfl rfl)
theorem dX2_quickSortIndirect_265 : decode cX2_quickSortIndirect 265 = .ok (.goto (-116), 3) := dk_167 255 140 (dk_at dksX2_quickSortIndirect_11 6 rfl rfl)
theorem dX2_quickSortIndirect_268 : decode cX2_quickSortIndirect 268 = .ok (.iload 9, 2) := dk_21 9 (dk_at dksX2_quickSortIndirect_11 9 rfl rfl)
theorem dX2_quickSortIndirect_270 : decode cX2_quickSortIndirect 270 = .ok (.iload_n 2, 1) := dk_28 (dk_at dksX2_quickSortIndirect_11 11 rfl rfl)
theorem dX2_quickSortIndirect_271 : decode cX2_quickSortIndirect 271 = .ok (.isub, 1) := dk_100 (dk_at dksX2_quickSortIndirect_11 12 rfl rfl)
theorem dX2_quickSortIndirect_272 : decode cX2_quickSortIndirect 272 = .ok (.iload 10, 2) := dk_21 10 (dk_at dksX2_quickSortIndirect_11 13 rfl rfl)
theorem dX2_quickSortIndirect_274 : decode cX2_quickSortIndirect 274 = .ok (.iload 9, 2) := dk_21 9 (dk_at dksX2_quickSortIndirect_11 15 rfl rfl)
theorem dX2_quickSortIndirect_276 : decode cX2_quickSortIndirect 276 = .ok (.isub, 1) := dk_100 (dk_at dksX2_quickSortIndirect_11 17 rfl rfl)
theorem dX2_quickSortIndirect_277 : decode cX2_quickSortIndirect 277 = .ok (.invokestatic 28, 3) := dk_184 0 28 (dk_at dksX2_quickSortIndirect_11 18 rfl rfl)
theorem dX2_quickSortIndirect_280 : decode cX2_quickSortIndirect 280 = .ok (.istore 13, 2) := dk_54 13 (dk_at dksX2_quickSortIndirect_11 21 rfl rfl)
theorem dX2_quickSortIndirect_282 : decode cX2_quickSortIndirect 282 = .ok (.aload_n 0, 1) := dk_42 (dk_at dksX2_quickSortIndirect_11 23 rfl rfl)
theorem dX2_quickSortIndirect_283 : decode cX2_quickSortIndirect 283 = .ok (.iload_n 2, 1) := dk_28 (dk_at dksX2_quickSortIndirect_12 0 rfl rfl)
theorem dX2_quickSortIndirect_284 : decode cX2_quickSortIndirect 284 = .ok (.iload 10, 2) := dk_21 10 (dk_at dksX2_quickSortIndirect_12 1 rfl rfl)
theorem dX2_quickSortIndirect_286 : decode cX2_quickSortIndirect 286 = .ok (.iload 13, 2) := dk_21 13 (dk_at dksX2_quickSortIndirect_12 3 rfl rfl)
theorem dX2_quickSortIndirect_288 : decode cX2_quickSortIndirect 288 = .ok (.isub, 1) := dk_100 (dk_at dksX2_quickSortIndirect_12 5 rfl rfl)
theorem dX2_quickSortIndirect_289 : decode cX2_quickSortIndirect 289 = .ok (.iload 13, 2) := dk_21 13 (dk_at dksX2_quickSortIndirect_12 6 rfl rfl)
theorem dX2_quickSortIndirect_291 : decode cX2_quickSortIndirect 291 = .ok (.invokestatic 33, 3) := dk_184 0 33 (dk_at dksX2_quickSortIndirect_12 8 rfl rfl)
theorem dX2_quickSortIndirect_294 : decode cX2_quickSortIndirect 294 = .ok (.iload 12, 2) := dk_21 12 (dk_at dksX2_quickSortIndirect_12 11 rfl rfl)
theorem dX2_quickSortIndirect_296 : decode cX2_quickSortIndirect 296 = .ok (.iload 11, 2) := dk_21 11 (dk_at dksX2_quickSortIndirect_12 13 rfl rfl)
theorem dX2_quickSortIndirect_298 : decode cX2_quickSortIndirect 298 = .ok (.isub, 1) := dk_100 (dk_at dksX2_quickSortIndirect_12 15 rfl rfl)
theorem dX2_quickSortIndirect_299 : decode cX2_quickSortIndirect 299 = .ok (.iload_n 3, 1) := dk_29 (dk_at dksX2_quickSortIndirect_12 16 rfl rfl)
theorem dX2_quickSortIndirect_300 : decode cX2_quickSortIndirect 300 = .ok (.iload 12, 2) := dk_21 12 (dk_at dksX2_quickSortIndirect_12 17 rfl rfl)
theorem dX2_quickSortIndirect_302 : decode cX2_quickSortIndirect 302 = .ok (.isub, 1) := dk_100 (dk_at dksX2_quickSortIndirect_12 19 rfl rfl)
theorem dX2_quickSortIndirect_303 : decode cX2_quickSortIndirect 303 = .ok (.iconst 1, 1) := dk_4 (dk_at dksX2_quickSortIndirect_12 20 rfl rfl)
theorem dX2_quickSortIndirect_304 : decode cX2_quickSortIndirect 304 = .ok (.isub, 1) := dk_100 (dk_at dksX2_quickSortIndirect_12 21 rfl rfl)
theorem dX2_quickSortIndirect_305 : decode cX2_quickSortIndirect 305 = .ok (.invokestatic 28, 3) := dk_184 0 28 (dk_at dksX2_quickSortIndirect_13 0 rfl rfl)
theorem dX2_quickSortIndirect_308 : decode cX2_quickSortIndirect 308 = .ok (.istore 13, 2) := dk_54 13 (dk_at dksX2_quickSortIndirect_13 3 rfl rfl)
theorem dX2_quickSortIndirect_310 : decode cX2_quickSortIndirect 310 = .ok (.aload_n 0, 1) := dk_42 (dk_at dksX2_quickSortIndirect_13 5 rfl rfl)
theorem dX2_quickSortIndirect_311 : decode cX2_quickSortIndirect 311 = .ok (.iload 10, 2) := dk_21 10 (dk_at dksX2_quickSortIndirect_13 6 rfl rfl)
theorem dX2_quickSortIndirect_313 : decode cX2_quickSortIndirect 313 = .ok (.iload_n 3, 1) := dk_29 (dk_at dksX2_quickSortIndirect_13 8 rfl rfl)
theorem dX2_quickSortIndirect_314 : decode cX2_quickSortIndirect 314 = .ok (.iload 13, 2) := dk_21 13 (dk_at dksX2_quickSortIndirect_13 9 rfl rfl)
theorem dX2_quickSortIndirect_316 : decode cX2_quickSortIndirect 316 = .ok (.isub, 1) := dk_100 (dk_at dksX2_quickSortIndirect_13 11 rfl rfl)
theorem dX2_quickSortIndirect_317 : decode cX2_quickSortIndirect 317 = .ok (.iload 13, 2) := dk_21 13 (dk_at dksX2_quickSortIndirect_13 12 rfl rfl)
theorem dX2_quickSortIndirect_319 : decode cX2_quickSortIndirect 319 = .ok (.invokestatic 33, 3) := dk_184 0 33 (dk_at dksX2_quickSortIndirect_13 14 rfl rfl)
theorem dX2_quickSortIndirect_322 : decode cX2_quickSortIndirect 322 = .ok (.iload 10, 2) := dk_21 10 (dk_at dksX2_quickSortIndirect_13 17 rfl rfl)
theorem dX2_quickSortIndirect_324 : decode cX2_quickSortIndirect 324 = .ok (.iload 9, 2) := dk_21 9 (dk_at dksX2_quickSortIndirect_13 19 rfl rfl)
theorem dX2_quickSortIndirect_326 : decode cX2_quickSortIndirect 326 = .ok (.isub, 1) := dk_100 (dk_at dksX2_quickSortIndirect_13 21 rfl rfl)
theorem dX2_quickSortIndirect_327 : decode cX2_quickSortIndirect 327 = .ok (.dup, 1) := dk_89 (dk_at dksX2_quickSortIndirect_13 22 rfl rfl)
theorem dX2_quickSortIndirect_328 : decode cX2_quickSortIndirect 328 = .ok (.istore 13, 2) := dk_54 13 (dk_at dksX2_quickSortIndirect_14 0 rfl rfl)
theorem dX2_quickSortIndirect_330 : decode cX2_quickSortIndirect 330 = .ok (.iconst 1, 1) := dk_4 (dk_at dksX2_quickSortIndirect_14 2 rfl rfl)
theorem dX2_quickSortIndirect_331 : decode cX2_quickSortIndirect 331 = .ok (.if_icmp .le 13, 3) := dk_164 0 13 (dk_at dksX2_quickSortIndirect_14 3 rfl rfl)
theorem dX2_quickSortIndirect_334 : decode cX2_quickSortIndirect 334 = .ok (.aload_n 0, 1) := dk_42 (dk_at dksX2_quickSortIndirect_14 6 rfl rfl)
theorem dX2_quickSortIndirect_335 : decode cX2_quickSortIndirect 335 = .ok (.aload_n 1, 1) := dk_43 (dk_at dksX2_quickSortIndirect_14 7 rfl rfl)
theorem dX2_quickSortIndirect_336 : decode cX2_quickSortIndirect 336 = .ok (.iload_n 2, 1) := dk_28 (dk_at dksX2_quickSortIndirect_14 8 rfl rfl)
theorem dX2_quickSortIndirect_337 : decode cX2_quickSortIndirect 337 = .ok (.iload_n 2, 1) := dk_28 (dk_at dksX2_quickSortIndirect_14 9 rfl rfl)
theorem dX2_quickSortIndirect_338 : decode cX2_quickSortIndirect 338 = .ok (.iload 13, 2) := dk_21 13 (dk_at dksX2_quickSortIndirect_14 10 rfl rfl)
theorem dX2_quickSortIndirect_340 : decode cX2_quickSortIndirect 340 = .ok (.iadd, 1) := dk_96 (dk_at dksX2_quickSortIndirect_14 12 rfl rfl)
theorem dX2_quickSortIndirect_341 : decode cX2_quickSortIndirect 341 = .ok (.invokestatic 47, 3) := dk_184 0 47 (dk_at dksX2_quickSortIndirect_14 13 rfl rfl)
theorem dX2_quickSortIndirect_344 : decode cX2_quickSortIndirect 344 = .ok (.iload 12, 2) := dk_21 12 (dk_at dksX2_quickSortIndirect_14 16 rfl rfl)
theorem dX2_quickSortIndirect_346 : decode cX2_quickSortIndirect 346 = .ok (.iload 11, 2) := dk_21 11 (dk_at dksX2_quickSortIndirect_14 18 rfl rfl)
theorem dX2_quickSortIndirect_348 : decode cX2_quickSortIndirect 348 = .ok (.isub, 1) := dk_100 (dk_at dksX2_quickSortIndirect_14 20 rfl rfl)
theorem dX2_quickSortIndirect_349 : decode cX2_quickSortIndirect 349 = .ok (.dup, 1) := dk_89 (dk_at dksX2_quickSortIndirect_14 21 rfl rfl)
theorem dX2_quickSortIndirect_350 : decode cX2_quickSortIndirect 350 = .ok (.istore 13, 2) := dk_54 13 (dk_at dksX2_quickSortIndirect_14 22 rfl rfl)
theorem dX2_quickSortIndirect_352 : decode cX2_quickSortIndirect 352 = .ok (.iconst 1, 1) := dk_4 (dk_at dksX2_quickSortIndirect_15 0 rfl rfl)
theorem dX2_quickSortIndirect_353 : decode cX2_quickSortIndirect 353 = .ok (.if_icmp .le 13, 3) := dk_164 0 13 (dk_at dksX2_quickSortIndirect_15 1 rfl rfl)
theorem dX2_quickSortIndirect_356 : decode cX2_quickSortIndirect 356 = .ok (.aload_n 0, 1) := dk_42 (dk_at dksX2_quickSortIndirect_15 4 rfl rfl)
theorem dX2_quickSortIndirect_357 : decode cX2_quickSortIndirect 357 = .ok (.aload_n 1, 1) := dk_43 (dk_at dksX2_quickSortIndirect_15 5 rfl rfl)
theorem dX2_quickSortIndirect_358 : decode cX2_quickSortIndirect 358 = .ok (.iload_n 3, 1) := dk_29 (dk_at dksX2_quickSortIndirect_15 6 rfl rfl)
theorem dX2_quickSortIndirect_359 : decode cX2_quickSortIndirect 359 = .ok (.iload 13, 2) := dk_21 13 (dk_at dksX2_quickSortIndirect_15 7 rfl rfl)
theorem dX2_quickSortIndirect_361 : decode cX2_quickSortIndirect 361 = .ok (.isub, 1) := dk_100 (dk_at dksX2_quickSortIndirect_15 9 rfl rfl)
theorem dX2_quickSortIndirect_362 : decode cX2_quickSortIndirect 362 = .ok (.iload_n 3, 1) := dk_29 (dk_at dksX2_quickSortIndirect_15 10 rfl rfl)
theorem dX2_quickSortIndirect_363 : decode cX2_quickSortIndirect 363 = .ok (.invokestatic 47, 3) := dk_184 0 47 (dk_at dksX2_quickSortIndirect_15 11 rfl rfl)
theorem dX2_quickSortIndirect_366 : decode cX2_quickSortIndirect 366 = .ok (.return_, 1) := dk_177 (dk_at dksX2_quickSortIndirect_15 14 rfl rfl)
abbrev cX2_insertionSortIndirect : ByteArray := prog_4_method_11_code
def yX2_insertionSortIndirect : MethodName := ⟨RX2, "insertionSortIndirect", "([I[III)V"⟩
def dkwX2_insertionSortIndirect_3 : List UInt8 := [54, 7, 167, 255, 214, 42, 21, 6, 21, 5, 79, 167, 255, 178, 177]
abbrev dktX2_insertionSortIndirect_3 : List UInt8 := dkwX2_insertionSortIndirect_3 ++ []
def dkwX2_insertionSortIndirect_2 : List UInt8 := [28, 21, 6, 4, 100, 160, 0, 9, 132, 6, 255, 167, 0, 17, 42, 132, 6, 255, 21, 6, 4, 100, 46]
abbrev dktX2_insertionSortIndirect_2 : List UInt8 := dkwX2_insertionSortIndirect_2 ++ dktX2_insertionSortIndirect_3
def dkwX2_insertionSortIndirect_1 : List UInt8 := [21, 6, 4, 100, 46, 54, 7, 43, 21, 5, 46, 43, 21, 7, 46, 162, 0, 37, 42, 21, 6, 21, 7, 79]
abbrev dktX2_insertionSortIndirect_1 : List UInt8 := dkwX2_insertionSortIndirect_1 ++ dktX2_insertionSortIndirect_2
def dkwX2_insertionSortIndirect_0 : List UInt8 := [28, 54, 4, 132, 4, 1, 21, 4, 29, 162, 0, 75, 42, 21, 4, 46, 54, 5, 21, 4, 54, 6, 42]
abbrev dktX2_insertionSortIndirect_0 : List UInt8 := dkwX2_insertionSortIndirect_0 ++ dktX2_insertionSortIndirect_1
theorem dksX2_insertionSortIndirect_0 : cX2_insertionSortIndirect.data.toList.drop 0 = dktX2_insertionSortIndirect_0 := by decide +kernel
theorem dksX2_insertionSortIndirect_1 : cX2_insertionSortIndirect.data.toList.drop 23 = dktX2_insertionSortIndirect_1 := dk_seg dksX2_insertionSortIndirect_0 23 rfl rfl
theorem dksX2_insertionSortIndirect_2 : cX2_insertionSortIndirect.data.toList.drop 47 = dktX2_insertionSortIndirect_2 := dk_seg dksX2_insertionSortIndirect_1 24 rfl rfl
theorem dksX2_insertionSortIndirect_3 : cX2_insertionSortIndirect.data.toList.drop 70 = dktX2_insertionSortIndirect_3 := dk_seg dksX2_insertionSortIndirect_2 23 rfl rfl
theorem dX2_insertionSortIndirect_0 : decode cX2_insertionSortIndirect 0 = .ok (.iload_n 2, 1) := dk_28 (dk_at dksX2_insertionSortIndirect_0 0 rfl rfl)
theorem dX2_insertionSortIndirect_1 : decode cX2_insertionSortIndirect 1 = .ok (.istore 4, 2) := dk_54 4 (dk_at dksX2_insertionSortIndirect_0 1 rfl rfl)
theorem dX2_insertionSortIndirect_3 : decode cX2_insertionSortIndirect 3 = .ok (.iinc 4 1, 3) := dk_132 4 1 (dk_at dksX2_insertionSortIndirect_0 3 rfl rfl)
theorem dX2_insertionSortIndirect_6 : decode cX2_insertionSortIndirect 6 = .ok (.iload 4, 2) := dk_21 4 (dk_at dksX2_insertionSortIndirect_0 6 rfl rfl)
theorem dX2_insertionSortIndirect_8 : decode cX2_insertionSortIndirect 8 = .ok (.iload_n 3, 1) := dk_29 (dk_at dksX2_insertionSortIndirect_0 8 rfl rfl)
theorem dX2_insertionSortIndirect_9 : decode cX2_insertionSortIndirect 9 = .ok (.if_icmp .ge 75, 3) := dk_162 0 75 (dk_at dksX2_insertionSortIndirect_0 9 rfl rfl)
theorem dX2_insertionSortIndirect_12 : decode cX2_insertionSortIndirect 12 = .ok (.aload_n 0, 1) := dk_42 (dk_at dksX2_insertionSortIndirect_0 12 rfl rfl)
theorem dX2_insertionSortIndirect_13 : decode cX2_insertionSortIndirect 13 = .ok (.iload 4, 2) := dk_21 4 (dk_at dksX2_insertionSortIndirect_0 13 rfl rfl)
theorem dX2_insertionSortIndirect_15 : decode cX2_insertionSortIndirect 15 = .ok (.iaload, 1) := dk_46 (dk_at dksX2_insertionSortIndirect_0 15 rfl rfl)
theorem dX2_insertionSortIndirect_16 : decode cX2_insertionSortIndirect 16 = .ok (.istore 5, 2) := dk_54 5 (dk_at dksX2_insertionSortIndirect_0 16 rfl rfl)
theorem dX2_insertionSortIndirect_18 : decode cX2_insertionSortIndirect 18 = .ok (.iload 4, 2) := dk_21 4 (dk_at dksX2_insertionSortIndirect_0 18 rfl rfl)
theorem dX2_insertionSortIndirect_20 : decode cX2_insertionSortIndirect 20 = .ok (.istore 6, 2) := dk_54 6 (dk_at dksX2_insertionSortIndirect_0 20 rfl rfl)
theorem dX2_insertionSortIndirect_22 : decode cX2_insertionSortIndirect 22 = .ok (.aload_n 0, 1) := dk_42 (dk_at dksX2_insertionSortIndirect_0 22 rfl rfl)
theorem dX2_insertionSortIndirect_23 : decode cX2_insertionSortIndirect 23 = .ok (.iload 6, 2) := dk_21 6 (dk_at dksX2_insertionSortIndirect_1 0 rfl rfl)
theorem dX2_insertionSortIndirect_25 : decode cX2_insertionSortIndirect 25 = .ok (.iconst 1, 1) := dk_4 (dk_at dksX2_insertionSortIndirect_1 2 rfl rfl)
theorem dX2_insertionSortIndirect_26 : decode cX2_insertionSortIndirect 26 = .ok (.isub, 1) := dk_100 (dk_at dksX2_insertionSortIndirect_1 3 rfl rfl)
theorem dX2_insertionSortIndirect_27 : decode cX2_insertionSortIndirect 27 = .ok (.iaload, 1) := dk_46 (dk_at dksX2_insertionSortIndirect_1 4 rfl rfl)
theorem dX2_insertionSortIndirect_28 : decode cX2_insertionSortIndirect 28 = .ok (.istore 7, 2) := dk_54 7 (dk_at dksX2_insertionSortIndirect_1 5 rfl rfl)
theorem dX2_insertionSortIndirect_30 : decode cX2_insertionSortIndirect 30 = .ok (.aload_n 1, 1) := dk_43 (dk_at dksX2_insertionSortIndirect_1 7 rfl rfl)
theorem dX2_insertionSortIndirect_31 : decode cX2_insertionSortIndirect 31 = .ok (.iload 5, 2) := dk_21 5 (dk_at dksX2_insertionSortIndirect_1 8 rfl rfl)
theorem dX2_insertionSortIndirect_33 : decode cX2_insertionSortIndirect 33 = .ok (.iaload, 1) := dk_46 (dk_at dksX2_insertionSortIndirect_1 10 rfl rfl)
theorem dX2_insertionSortIndirect_34 : decode cX2_insertionSortIndirect 34 = .ok (.aload_n 1, 1) := dk_43 (dk_at dksX2_insertionSortIndirect_1 11 rfl rfl)
theorem dX2_insertionSortIndirect_35 : decode cX2_insertionSortIndirect 35 = .ok (.iload 7, 2) := dk_21 7 (dk_at dksX2_insertionSortIndirect_1 12 rfl rfl)
theorem dX2_insertionSortIndirect_37 : decode cX2_insertionSortIndirect 37 = .ok (.iaload, 1) := dk_46 (dk_at dksX2_insertionSortIndirect_1 14 rfl rfl)
theorem dX2_insertionSortIndirect_38 : decode cX2_insertionSortIndirect 38 = .ok (.if_icmp .ge 37, 3) := dk_162 0 37 (dk_at dksX2_insertionSortIndirect_1 15 rfl rfl)
theorem dX2_insertionSortIndirect_41 : decode cX2_insertionSortIndirect 41 = .ok (.aload_n 0, 1) := dk_42 (dk_at dksX2_insertionSortIndirect_1 18 rfl rfl)
theorem dX2_insertionSortIndirect_42 : decode cX2_insertionSortIndirect 42 = .ok (.iload 6, 2) := dk_21 6 (dk_at dksX2_insertionSortIndirect_1 19 rfl rfl)
theorem dX2_insertionSortIndirect_44 : decode cX2_insertionSortIndirect 44 = .ok (.iload 7, 2) := dk_21 7 (dk_at dksX2_insertionSortIndirect_1 21 rfl rfl)
theorem dX2_insertionSortIndirect_46 : decode cX2_insertionSortIndirect 46 = .ok (.iastore, 1) := dk_79 (dk_at dksX2_insertionSortIndirect_1 23 rfl rfl)
theorem dX2_insertionSortIndirect_47 : decode cX2_insertionSortIndirect 47 = .ok (.iload_n 2, 1) := dk_28 (dk_at dksX2_insertionSortIndirect_2 0 rfl rfl)
theorem dX2_insertionSortIndirect_48 : decode cX2_insertionSortIndirect 48 = .ok (.iload 6, 2) := dk_21 6 (dk_at dksX2_insertionSortIndirect_2 1 rfl rfl)
theorem dX2_insertionSortIndirect_50 : decode cX2_insertionSortIndirect 50 = .ok (.iconst 1, 1) := dk_4 (dk_at dksX2_insertionSortIndirect_2 3 rfl rfl)
theorem dX2_insertionSortIndirect_51 : decode cX2_insertionSortIndirect 51 = .ok (.isub, 1) := dk_100 (dk_at dksX2_insertionSortIndirect_2 4 rfl rfl)
theorem dX2_insertionSortIndirect_52 : decode cX2_insertionSortIndirect 52 = .ok (.if_icmp .ne 9, 3) := dk_160 0 9 (dk_at dksX2_insertionSortIndirect_2 5 rfl rfl)
theorem dX2_insertionSortIndirect_55 : decode cX2_insertionSortIndirect 55 = .ok (.iinc 6 (-1), 3) := dk_132 6 255 (dk_at dksX2_insertionSortIndirect_2 8 rfl rfl)
theorem dX2_insertionSortIndirect_58 : decode cX2_insertionSortIndirect 58 = .ok (.goto 17, 3) := dk_167 0 17 (dk_at dksX2_insertionSortIndirect_2 11 rfl rfl)
theorem dX2_insertionSortIndirect_61 : decode cX2_insertionSortIndirect 61 = .ok (.aload_n 0, 1) := dk_42 (dk_at dksX2_insertionSortIndirect_2 14 rfl rfl)
theorem dX2_insertionSortIndirect_62 : decode cX2_insertionSortIndirect 62 = .ok (.iinc 6 (-1), 3) := dk_132 6 255 (dk_at dksX2_insertionSortIndirect_2 15 rfl rfl)
theorem dX2_insertionSortIndirect_65 : decode cX2_insertionSortIndirect 65 = .ok (.iload 6, 2) := dk_21 6 (dk_at dksX2_insertionSortIndirect_2 18 rfl rfl)
theorem dX2_insertionSortIndirect_67 : decode cX2_insertionSortIndirect 67 = .ok (.iconst 1, 1) := dk_4 (dk_at dksX2_insertionSortIndirect_2 20 rfl rfl)
theorem dX2_insertionSortIndirect_68 : decode cX2_insertionSortIndirect 68 = .ok (.isub, 1) := dk_100 (dk_at dksX2_insertionSortIndirect_2 21 rfl rfl)
theorem dX2_insertionSortIndirect_69 : decode cX2_insertionSortIndirect 69 = .ok (.iaload, 1) := dk_46 (dk_at dksX2_insertionSortIndirect_2 22 rfl rfl)
theorem dX2_insertionSortIndirect_70 : decode cX2_insertionSortIndirect 70 = .ok (.istore 7, 2) := dk_54 7 (dk_at dksX2_insertionSortIndirect_3 0 rfl rfl)
theorem dX2_insertionSortIndirect_72 : decode cX2_insertionSortIndirect 72 = .ok (.goto (-42), 3) := dk_167 255 214 (dk_at dksX2_insertionSortIndirect_3 2 rfl rfl)
theorem dX2_insertionSortIndirect_75 : decode cX2_insertionSortIndirect 75 = .ok (.aload_n 0, 1) := dk_42 (dk_at dksX2_insertionSortIndirect_3 5 rfl rfl)
theorem dX2_insertionSortIndirect_76 : decode cX2_insertionSortIndirect 76 = .ok (.iload 6, 2) := dk_21 6 (dk_at dksX2_insertionSortIndirect_3 6 rfl rfl)
theorem dX2_insertionSortIndirect_78 : decode cX2_insertionSortIndirect 78 = .ok (.iload 5, 2) := dk_21 5 (dk_at dksX2_insertionSortIndirect_3 8 rfl rfl)
theorem dX2_insertionSortIndirect_80 : decode cX2_insertionSortIndirect 80 = .ok (.iastore, 1) := dk_79 (dk_at dksX2_insertionSortIndirect_3 10 rfl rfl)
theorem dX2_insertionSortIndirect_81 : decode cX2_insertionSortIndirect 81 = .ok (.goto (-78), 3) := dk_167 255 178 (dk_at dksX2_insertionSortIndirect_3 11 rfl rfl)
theorem dX2_insertionSortIndirect_84 : decode cX2_insertionSortIndirect 84 = .ok (.return_, 1) := dk_177 (dk_at dksX2_insertionSortIndirect_3 14 rfl rfl)
abbrev cX2_med3Indirect : ByteArray := prog_4_method_10_code
def yX2_med3Indirect : MethodName := ⟨RX2, "med3Indirect", "([I[IIII)I"⟩
def dkwX2_med3Indirect_4 : List UInt8 := [167, 0, 4, 28, 172]
abbrev dktX2_med3Indirect_4 : List UInt8 := dkwX2_med3Indirect_4 ++ []
def dkwX2_med3Indirect_3 : List UInt8 := [167, 0, 27, 28, 167, 0, 23, 21, 10, 158, 0, 7, 29, 167, 0, 14, 21, 9, 158, 0, 8, 21, 4]
abbrev dktX2_med3Indirect_3 : List UInt8 := dkwX2_med3Indirect_3 ++ dktX2_med3Indirect_4
def dkwX2_med3Indirect_2 : List UInt8 := [54, 10, 21, 8, 156, 0, 26, 21, 10, 156, 0, 7, 29, 167, 0, 37, 21, 9, 156, 0, 8, 21, 4]
abbrev dktX2_med3Indirect_2 : List UInt8 := dkwX2_med3Indirect_2 ++ dktX2_med3Indirect_3
def dkwX2_med3Indirect_1 : List UInt8 := [21, 6, 184, 0, 17, 54, 8, 21, 5, 21, 7, 184, 0, 17, 54, 9, 21, 6, 21, 7, 184, 0, 17]
abbrev dktX2_med3Indirect_1 : List UInt8 := dkwX2_med3Indirect_1 ++ dktX2_med3Indirect_2
def dkwX2_med3Indirect_0 : List UInt8 := [43, 42, 28, 46, 46, 54, 5, 43, 42, 29, 46, 46, 54, 6, 43, 42, 21, 4, 46, 46, 54, 7, 21, 5]
abbrev dktX2_med3Indirect_0 : List UInt8 := dkwX2_med3Indirect_0 ++ dktX2_med3Indirect_1
theorem dksX2_med3Indirect_0 : cX2_med3Indirect.data.toList.drop 0 = dktX2_med3Indirect_0 := by decide +kernel
theorem dksX2_med3Indirect_1 : cX2_med3Indirect.data.toList.drop 24 = dktX2_med3Indirect_1 := dk_seg dksX2_med3Indirect_0 24 rfl rfl
theorem dksX2_med3Indirect_2 : cX2_med3Indirect.data.toList.drop 47 = dktX2_med3Indirect_2 := dk_seg dksX2_med3Indirect_1 23 rfl rfl
theorem dksX2_med3Indirect_3 : cX2_med3Indirect.data.toList.drop 70 = dktX2_med3Indirect_3 := dk_seg dksX2_med3Indirect_2 23 rfl rfl
theorem dksX2_med3Indirect_4 : cX2_med3Indirect.data.toList.drop 93 = dktX2_med3Indirect_4 := dk_seg dksX2_med3Indirect_3 23 rfl rfl
theorem dX2_med3Indirect_0 : decode cX2_med3Indirect 0 = .ok (.aload_n 1, 1) := dk_43 (dk_at dksX2_med3Indirect_0 0 rfl rfl)
theorem dX2_med3Indirect_1 : decode cX2_med3Indirect 1 = .ok (.aload_n 0, 1) := dk_42 (dk_at dksX2_med3Indirect_0 1 rfl rfl)
theorem dX2_med3Indirect_2 : decode cX2_med3Indirect 2 = .ok (.iload_n 2, 1) := dk_28 (dk_at dksX2_med3Indirect_0 2 rfl rfl)
theorem dX2_med3Indirect_3 : decode cX2_med3Indirect 3 = .ok (.iaload, 1) := dk_46 (dk_at dksX2_med3Indirect_0 3 rfl rfl)
theorem dX2_med3Indirect_4 : decode cX2_med3Indirect 4 = .ok (.iaload, 1) := dk_46 (dk_at dksX2_med3Indirect_0 4 rfl rfl)
theorem dX2_med3Indirect_5 : decode cX2_med3Indirect 5 = .ok (.istore 5, 2) := dk_54 5 (dk_at dksX2_med3Indirect_0 5 rfl rfl)
theorem dX2_med3Indirect_7 : decode cX2_med3Indirect 7 = .ok (.aload_n 1, 1) := dk_43 (dk_at dksX2_med3Indirect_0 7 rfl rfl)
theorem dX2_med3Indirect_8 : decode cX2_med3Indirect 8 = .ok (.aload_n 0, 1) := dk_42 (dk_at dksX2_med3Indirect_0 8 rfl rfl)
theorem dX2_med3Indirect_9 : decode cX2_med3Indirect 9 = .ok (.iload_n 3, 1) := dk_29 (dk_at dksX2_med3Indirect_0 9 rfl rfl)
theorem dX2_med3Indirect_10 : decode cX2_med3Indirect 10 = .ok (.iaload, 1) := dk_46 (dk_at dksX2_med3Indirect_0 10 rfl rfl)
theorem dX2_med3Indirect_11 : decode cX2_med3Indirect 11 = .ok (.iaload, 1) := dk_46 (dk_at dksX2_med3Indirect_0 11 rfl rfl)
theorem dX2_med3Indirect_12 : decode cX2_med3Indirect 12 = .ok (.istore 6, 2) := dk_54 6 (dk_at dksX2_med3Indirect_0 12 rfl rfl)
theorem dX2_med3Indirect_14 : decode cX2_med3Indirect 14 = .ok (.aload_n 1, 1) := dk_43 (dk_at dksX2_med3Indirect_0 14 rfl rfl)
theorem dX2_med3Indirect_15 : decode cX2_med3Indirect 15 = .ok (.aload_n 0, 1) := dk_42 (dk_at dksX2_med3Indirect_0 15 rfl rfl)
theorem dX2_med3Indirect_16 : decode cX2_med3Indirect 16 = .ok (.iload 4, 2) := dk_21 4 (dk_at dksX2_med3Indirect_0 16 rfl rfl)
theorem dX2_med3Indirect_18 : decode cX2_med3Indirect 18 = .ok (.iaload, 1) := dk_46 (dk_at dksX2_med3Indirect_0 18 rfl rfl)
theorem dX2_med3Indirect_19 : decode cX2_med3Indirect 19 = .ok (.iaload, 1) := dk_46 (dk_at dksX2_med3Indirect_0 19 rfl rfl)
theorem dX2_med3Indirect_20 : decode cX2_med3Indirect 20 = .ok (.istore 7, 2) := dk_54 7 (dk_at dksX2_med3Indirect_0 20 rfl rfl)
theorem dX2_med3Indirect_22 : decode cX2_med3Indirect 22 = .ok (.iload 5, 2) := dk_21 5 (dk_at dksX2_med3Indirect_0 22 rfl rfl)
theorem dX2_med3Indirect_24 : decode cX2_med3Indirect 24 = .ok (.iload 6, 2) := dk_21 6 (dk_at dksX2_med3Indirect_1 0 rfl rfl)
theorem dX2_med3Indirect_26 : decode cX2_med3Indirect 26 = .ok (.invokestatic 17, 3) := dk_184 0 17 (dk_at dksX2_med3Indirect_1 2 rfl rfl)
theorem dX2_med3Indirect_29 : decode cX2_med3Indirect 29 = .ok (.istore 8, 2) := dk_54 8 (dk_at dksX2_med3Indirect_1 5 rfl rfl)
theorem dX2_med3Indirect_31 : decode cX2_med3Indirect 31 = .ok (.iload 5, 2) := dk_21 5 (dk_at dksX2_med3Indirect_1 7 rfl rfl)
theorem dX2_med3Indirect_33 : decode cX2_med3Indirect 33 = .ok (.iload 7, 2) := dk_21 7 (dk_at dksX2_med3Indirect_1 9 rfl rfl)
theorem dX2_med3Indirect_35 : decode cX2_med3Indirect 35 = .ok (.invokestatic 17, 3) := dk_184 0 17 (dk_at dksX2_med3Indirect_1 11 rfl rfl)
theorem dX2_med3Indirect_38 : decode cX2_med3Indirect 38 = .ok (.istore 9, 2) := dk_54 9 (dk_at dksX2_med3Indirect_1 14 rfl rfl)
theorem dX2_med3Indirect_40 : decode cX2_med3Indirect 40 = .ok (.iload 6, 2) := dk_21 6 (dk_at dksX2_med3Indirect_1 16 rfl rfl)
theorem dX2_med3Indirect_42 : decode cX2_med3Indirect 42 = .ok (.iload 7, 2) := dk_21 7 (dk_at dksX2_med3Indirect_1 18 rfl rfl)
theorem dX2_med3Indirect_44 : decode cX2_med3Indirect 44 = .ok (.invokestatic 17, 3) := dk_184 0 17 (dk_at dksX2_med3Indirect_1 20 rfl rfl)
theorem dX2_med3Indirect_47 : decode cX2_med3Indirect 47 = .ok (.istore 10, 2) := dk_54 10 (dk_at dksX2_med3Indirect_2 0 rfl rfl)
theorem dX2_med3Indirect_49 : decode cX2_med3Indirect 49 = .ok (.iload 8, 2) := dk_21 8 (dk_at dksX2_med3Indirect_2 2 rfl rfl)
theorem dX2_med3Indirect_51 : decode cX2_med3Indirect 51 = .ok (.ifCond .ge 26, 3) := dk_156 0 26 (dk_at dksX2_med3Indirect_2 4 rfl rfl)
theorem dX2_med3Indirect_54 : decode cX2_med3Indirect 54 = .ok (.iload 10, 2) := dk_21 10 (dk_at dksX2_med3Indirect_2 7 rfl rfl)
theorem dX2_med3Indirect_56 : decode cX2_med3Indirect 56 = .ok (.ifCond .ge 7, 3) := dk_156 0 7 (dk_at dksX2_med3Indirect_2 9 rfl rfl)
theorem dX2_med3Indirect_59 : decode cX2_med3Indirect 59 = .ok (.iload_n 3, 1) := dk_29 (dk_at dksX2_med3Indirect_2 12 rfl rfl)
theorem dX2_med3Indirect_60 : decode cX2_med3Indirect 60 = .ok (.goto 37, 3) := dk_167 0 37 (dk_at dksX2_med3Indirect_2 13 rfl rfl)
theorem dX2_med3Indirect_63 : decode cX2_med3Indirect 63 = .ok (.iload 9, 2) := dk_21 9 (dk_at dksX2_med3Indirect_2 16 rfl rfl)
theorem dX2_med3Indirect_65 : decode cX2_med3Indirect 65 = .ok (.ifCond .ge 8, 3) := dk_156 0 8 (dk_at dksX2_med3Indirect_2 18 rfl rfl)
theorem dX2_med3Indirect_68 : decode cX2_med3Indirect 68 = .ok (.iload 4, 2) := dk_21 4 (dk_at dksX2_med3Indirect_2 21 rfl rfl)
theorem dX2_med3Indirect_70 : decode cX2_med3Indirect 70 = .ok (.goto 27, 3) := dk_167 0 27 (dk_at dksX2_med3Indirect_3 0 rfl rfl)
theorem dX2_med3Indirect_73 : decode cX2_med3Indirect 73 = .ok (.iload_n 2, 1) := dk_28 (dk_at dksX2_med3Indirect_3 3 rfl rfl)
theorem dX2_med3Indirect_74 : decode cX2_med3Indirect 74 = .ok (.goto 23, 3) := dk_167 0 23 (dk_at dksX2_med3Indirect_3 4 rfl rfl)
theorem dX2_med3Indirect_77 : decode cX2_med3Indirect 77 = .ok (.iload 10, 2) := dk_21 10 (dk_at dksX2_med3Indirect_3 7 rfl rfl)
theorem dX2_med3Indirect_79 : decode cX2_med3Indirect 79 = .ok (.ifCond .le 7, 3) := dk_158 0 7 (dk_at dksX2_med3Indirect_3 9 rfl rfl)
theorem dX2_med3Indirect_82 : decode cX2_med3Indirect 82 = .ok (.iload_n 3, 1) := dk_29 (dk_at dksX2_med3Indirect_3 12 rfl rfl)
theorem dX2_med3Indirect_83 : decode cX2_med3Indirect 83 = .ok (.goto 14, 3) := dk_167 0 14 (dk_at dksX2_med3Indirect_3 13 rfl rfl)
theorem dX2_med3Indirect_86 : decode cX2_med3Indirect 86 = .ok (.iload 9, 2) := dk_21 9 (dk_at dksX2_med3Indirect_3 16 rfl rfl)
theorem dX2_med3Indirect_88 : decode cX2_med3Indirect 88 = .ok (.ifCond .le 8, 3) := dk_158 0 8 (dk_at dksX2_med3Indirect_3 18 rfl rfl)
theorem dX2_med3Indirect_91 : decode cX2_med3Indirect 91 = .ok (.iload 4, 2) := dk_21 4 (dk_at dksX2_med3Indirect_3 21 rfl rfl)
theorem dX2_med3Indirect_93 : decode cX2_med3Indirect 93 = .ok (.goto 4, 3) := dk_167 0 4 (dk_at dksX2_med3Indirect_4 0 rfl rfl)
theorem dX2_med3Indirect_96 : decode cX2_med3Indirect 96 = .ok (.iload_n 2, 1) := dk_28 (dk_at dksX2_med3Indirect_4 3 rfl rfl)
theorem dX2_med3Indirect_97 : decode cX2_med3Indirect 97 = .ok (.ireturn, 1) := dk_172 (dk_at dksX2_med3Indirect_4 4 rfl rfl)
abbrev cX2_swap : ByteArray := prog_4_method_1_code
def yX2_swap : MethodName := ⟨RX2, "swap", "([III)V"⟩
def dkwX2_swap_0 : List UInt8 := [42, 27, 46, 62, 42, 27, 42, 28, 46, 79, 42, 28, 29, 79, 177]
abbrev dktX2_swap_0 : List UInt8 := dkwX2_swap_0 ++ []
theorem dksX2_swap_0 : cX2_swap.data.toList.drop 0 = dktX2_swap_0 := by decide +kernel
theorem dX2_swap_0 : decode cX2_swap 0 = .ok (.aload_n 0, 1) := dk_42 (dk_at dksX2_swap_0 0 rfl rfl)
theorem dX2_swap_1 : decode cX2_swap 1 = .ok (.iload_n 1, 1) := dk_27 (dk_at dksX2_swap_0 1 rfl rfl)
theorem dX2_swap_2 : decode cX2_swap 2 = .ok (.iaload, 1) := dk_46 (dk_at dksX2_swap_0 2 rfl rfl)
theorem dX2_swap_3 : decode cX2_swap 3 = .ok (.istore_n 3, 1) := dk_62 (dk_at dksX2_swap_0 3 rfl rfl)
theorem dX2_swap_4 : decode cX2_swap 4 = .ok (.aload_n 0, 1) := dk_42 (dk_at dksX2_swap_0 4 rfl rfl)
theorem dX2_swap_5 : decode cX2_swap 5 = .ok (.iload_n 1, 1) := dk_27 (dk_at dksX2_swap_0 5 rfl rfl)
theorem dX2_swap_6 : decode cX2_swap 6 = .ok (.aload_n 0, 1) := dk_42 (dk_at dksX2_swap_0 6 rfl rfl)
theorem dX2_swap_7 : decode cX2_swap 7 = .ok (.iload_n 2, 1) := dk_28 (dk_at dksX2_swap_0 7 rfl rfl)
theorem dX2_swap_8 : decode cX2_swap 8 = .ok (.iaload, 1) := dk_46 (dk_at dksX2_swap_0 8 rfl rfl)
theorem dX2_swap_9 : decode cX2_swap 9 = .ok (.iastore, 1) := dk_79 (dk_at dksX2_swap_0 9 rfl rfl)
theorem dX2_swap_10 : decode cX2_swap 10 = .ok (.aload_n 0, 1) := dk_42 (dk_at dksX2_swap_0 10 rfl rfl)
theorem dX2_swap_11 : decode cX2_swap 11 = .ok (.iload_n 2, 1) := dk_28 (dk_at dksX2_swap_0 11 rfl rfl)
theorem dX2_swap_12 : decode cX2_swap 12 = .ok (.iload_n 3, 1) := dk_29 (dk_at dksX2_swap_0 12 rfl rfl)
theorem dX2_swap_13 : decode cX2_swap 13 = .ok (.iastore, 1) := dk_79 (dk_at dksX2_swap_0 13 rfl rfl)
theorem dX2_swap_14 : decode cX2_swap 14 = .ok (.return_, 1) := dk_177 (dk_at dksX2_swap_0 14 rfl rfl)
abbrev cX2_swap_2 : ByteArray := prog_4_method_2_code
def yX2_swap_2 : MethodName := ⟨RX2, "swap", "([IIII)V"⟩
def dkwX2_swap_2_1 : List UInt8 := [167, 255, 235, 177]
abbrev dktX2_swap_2_1 : List UInt8 := dkwX2_swap_2_1 ++ []
def dkwX2_swap_2_0 : List UInt8 := [3, 54, 4, 21, 4, 29, 162, 0, 21, 42, 27, 28, 184, 0, 5, 132, 4, 1, 132, 1, 1, 132, 2, 1]
abbrev dktX2_swap_2_0 : List UInt8 := dkwX2_swap_2_0 ++ dktX2_swap_2_1
theorem dksX2_swap_2_0 : cX2_swap_2.data.toList.drop 0 = dktX2_swap_2_0 := by decide +kernel
theorem dksX2_swap_2_1 : cX2_swap_2.data.toList.drop 24 = dktX2_swap_2_1 := dk_seg dksX2_swap_2_0 24 rfl rfl
theorem dX2_swap_2_0 : decode cX2_swap_2 0 = .ok (.iconst 0, 1) := dk_3 (dk_at dksX2_swap_2_0 0 rfl rfl)
theorem dX2_swap_2_1 : decode cX2_swap_2 1 = .ok (.istore 4, 2) := dk_54 4 (dk_at dksX2_swap_2_0 1 rfl rfl)
theorem dX2_swap_2_3 : decode cX2_swap_2 3 = .ok (.iload 4, 2) := dk_21 4 (dk_at dksX2_swap_2_0 3 rfl rfl)
theorem dX2_swap_2_5 : decode cX2_swap_2 5 = .ok (.iload_n 3, 1) := dk_29 (dk_at dksX2_swap_2_0 5 rfl rfl)
theorem dX2_swap_2_6 : decode cX2_swap_2 6 = .ok (.if_icmp .ge 21, 3) := dk_162 0 21 (dk_at dksX2_swap_2_0 6 rfl rfl)
theorem dX2_swap_2_9 : decode cX2_swap_2 9 = .ok (.aload_n 0, 1) := dk_42 (dk_at dksX2_swap_2_0 9 rfl rfl)
theorem dX2_swap_2_10 : decode cX2_swap_2 10 = .ok (.iload_n 1, 1) := dk_27 (dk_at dksX2_swap_2_0 10 rfl rfl)
theorem dX2_swap_2_11 : decode cX2_swap_2 11 = .ok (.iload_n 2, 1) := dk_28 (dk_at dksX2_swap_2_0 11 rfl rfl)
theorem dX2_swap_2_12 : decode cX2_swap_2 12 = .ok (.invokestatic 5, 3) := dk_184 0 5 (dk_at dksX2_swap_2_0 12 rfl rfl)
theorem dX2_swap_2_15 : decode cX2_swap_2 15 = .ok (.iinc 4 1, 3) := dk_132 4 1 (dk_at dksX2_swap_2_0 15 rfl rfl)
theorem dX2_swap_2_18 : decode cX2_swap_2 18 = .ok (.iinc 1 1, 3) := dk_132 1 1 (dk_at dksX2_swap_2_0 18 rfl rfl)
theorem dX2_swap_2_21 : decode cX2_swap_2 21 = .ok (.iinc 2 1, 3) := dk_132 2 1 (dk_at dksX2_swap_2_0 21 rfl rfl)
theorem dX2_swap_2_24 : decode cX2_swap_2 24 = .ok (.goto (-21), 3) := dk_167 255 235 (dk_at dksX2_swap_2_1 0 rfl rfl)
theorem dX2_swap_2_27 : decode cX2_swap_2 27 = .ok (.return_, 1) := dk_177 (dk_at dksX2_swap_2_1 3 rfl rfl)
abbrev cX2_stabilize : ByteArray := prog_4_method_13_code
def yX2_stabilize : MethodName := ⟨RX2, "stabilize", "([I[III)V"⟩
def dkwX2_stabilize_2 : List UInt8 := [54, 4, 132, 5, 1, 167, 255, 211, 29, 21, 4, 100, 4, 164, 0, 10, 42, 21, 4, 29, 184, 0, 50, 177]
abbrev dktX2_stabilize_2 : List UInt8 := dkwX2_stabilize_2 ++ []
def dkwX2_stabilize_1 : List UInt8 := [46, 46, 159, 0, 24, 21, 5, 21, 4, 100, 4, 164, 0, 11, 42, 21, 4, 21, 5, 184, 0, 50, 21, 5]
abbrev dktX2_stabilize_1 : List UInt8 := dkwX2_stabilize_1 ++ dktX2_stabilize_2
def dkwX2_stabilize_0 : List UInt8 := [28, 54, 4, 28, 4, 96, 54, 5, 21, 5, 29, 162, 0, 45, 43, 42, 21, 5, 46, 46, 43, 42, 21, 4]
abbrev dktX2_stabilize_0 : List UInt8 := dkwX2_stabilize_0 ++ dktX2_stabilize_1
theorem dksX2_stabilize_0 : cX2_stabilize.data.toList.drop 0 = dktX2_stabilize_0 := by decide +kernel
theorem dksX2_stabilize_1 : cX2_stabilize.data.toList.drop 24 = dktX2_stabilize_1 := dk_seg dksX2_stabilize_0 24 rfl rfl
theorem dksX2_stabilize_2 : cX2_stabilize.data.toList.drop 48 = dktX2_stabilize_2 := dk_seg dksX2_stabilize_1 24 rfl rfl
theorem dX2_stabilize_0 : decode cX2_stabilize 0 = .ok (.iload_n 2, 1) := dk_28 (dk_at dksX2_stabilize_0 0 rfl rfl)
theorem dX2_stabilize_1 : decode cX2_stabilize 1 = .ok (.istore 4, 2) := dk_54 4 (dk_at dksX2_stabilize_0 1 rfl rfl)
theorem dX2_stabilize_3 : decode cX2_stabilize 3 = .ok (.iload_n 2, 1) := dk_28 (dk_at dksX2_stabilize_0 3 rfl rfl)
theorem dX2_stabilize_4 : decode cX2_stabilize 4 = .ok (.iconst 1, 1) := dk_4 (dk_at dksX2_stabilize_0 4 rfl rfl)
theorem dX2_stabilize_5 : decode cX2_stabilize 5 = .ok (.iadd, 1) := dk_96 (dk_at dksX2_stabilize_0 5 rfl rfl)
theorem dX2_stabilize_6 : decode cX2_stabilize 6 = .ok (.istore 5, 2) := dk_54 5 (dk_at dksX2_stabilize_0 6 rfl rfl)
theorem dX2_stabilize_8 : decode cX2_stabilize 8 = .ok (.iload 5, 2) := dk_21 5 (dk_at dksX2_stabilize_0 8 rfl rfl)
theorem dX2_stabilize_10 : decode cX2_stabilize 10 = .ok (.iload_n 3, 1) := dk_29 (dk_at dksX2_stabilize_0 10 rfl rfl)
theorem dX2_stabilize_11 : decode cX2_stabilize 11 = .ok (.if_icmp .ge 45, 3) := dk_162 0 45 (dk_at dksX2_stabilize_0 11 rfl rfl)
theorem dX2_stabilize_14 : decode cX2_stabilize 14 = .ok (.aload_n 1, 1) := dk_43 (dk_at dksX2_stabilize_0 14 rfl rfl)
theorem dX2_stabilize_15 : decode cX2_stabilize 15 = .ok (.aload_n 0, 1) := dk_42 (dk_at dksX2_stabilize_0 15 rfl rfl)
theorem dX2_stabilize_16 : decode cX2_stabilize 16 = .ok (.iload 5, 2) := dk_21 5 (dk_at dksX2_stabilize_0 16 rfl rfl)
theorem dX2_stabilize_18 : decode cX2_stabilize 18 = .ok (.iaload, 1) := dk_46 (dk_at dksX2_stabilize_0 18 rfl rfl)
theorem dX2_stabilize_19 : decode cX2_stabilize 19 = .ok (.iaload, 1) := dk_46 (dk_at dksX2_stabilize_0 19 rfl rfl)
theorem dX2_stabilize_20 : decode cX2_stabilize 20 = .ok (.aload_n 1, 1) := dk_43 (dk_at dksX2_stabilize_0 20 rfl rfl)
theorem dX2_stabilize_21 : decode cX2_stabilize 21 = .ok (.aload_n 0, 1) := dk_42 (dk_at dksX2_stabilize_0 21 rfl rfl)
theorem dX2_stabilize_22 : decode cX2_stabilize 22 = .ok (.iload 4, 2) := dk_21 4 (dk_at dksX2_stabilize_0 22 rfl rfl)
theorem dX2_stabilize_24 : decode cX2_stabilize 24 = .ok (.iaload, 1) := dk_46 (dk_at dksX2_stabilize_1 0 rfl rfl)
theorem dX2_stabilize_25 : decode cX2_stabilize 25 = .ok (.iaload, 1) := dk_46 (dk_at dksX2_stabilize_1 1 rfl rfl)
theorem dX2_stabilize_26 : decode cX2_stabilize 26 = .ok (.if_icmp .eq 24, 3) := dk_159 0 24 (dk_at dksX2_stabilize_1 2 rfl rfl)
theorem dX2_stabilize_29 : decode cX2_stabilize 29 = .ok (.iload 5, 2) := dk_21 5 (dk_at dksX2_stabilize_1 5 rfl rfl)
theorem dX2_stabilize_31 : decode cX2_stabilize 31 = .ok (.iload 4, 2) := dk_21 4 (dk_at dksX2_stabilize_1 7 rfl rfl)
theorem dX2_stabilize_33 : decode cX2_stabilize 33 = .ok (.isub, 1) := dk_100 (dk_at dksX2_stabilize_1 9 rfl rfl)
theorem dX2_stabilize_34 : decode cX2_stabilize 34 = .ok (.iconst 1, 1) := dk_4 (dk_at dksX2_stabilize_1 10 rfl rfl)
theorem dX2_stabilize_35 : decode cX2_stabilize 35 = .ok (.if_icmp .le 11, 3) := dk_164 0 11 (dk_at dksX2_stabilize_1 11 rfl rfl)
theorem dX2_stabilize_38 : decode cX2_stabilize 38 = .ok (.aload_n 0, 1) := dk_42 (dk_at dksX2_stabilize_1 14 rfl rfl)
theorem dX2_stabilize_39 : decode cX2_stabilize 39 = .ok (.iload 4, 2) := dk_21 4 (dk_at dksX2_stabilize_1 15 rfl rfl)
theorem dX2_stabilize_41 : decode cX2_stabilize 41 = .ok (.iload 5, 2) := dk_21 5 (dk_at dksX2_stabilize_1 17 rfl rfl)
theorem dX2_stabilize_43 : decode cX2_stabilize 43 = .ok (.invokestatic 50, 3) := dk_184 0 50 (dk_at dksX2_stabilize_1 19 rfl rfl)
theorem dX2_stabilize_46 : decode cX2_stabilize 46 = .ok (.iload 5, 2) := dk_21 5 (dk_at dksX2_stabilize_1 22 rfl rfl)
theorem dX2_stabilize_48 : decode cX2_stabilize 48 = .ok (.istore 4, 2) := dk_54 4 (dk_at dksX2_stabilize_2 0 rfl rfl)
theorem dX2_stabilize_50 : decode cX2_stabilize 50 = .ok (.iinc 5 1, 3) := dk_132 5 1 (dk_at dksX2_stabilize_2 2 rfl rfl)
theorem dX2_stabilize_53 : decode cX2_stabilize 53 = .ok (.goto (-45), 3) := dk_167 255 211 (dk_at dksX2_stabilize_2 5 rfl rfl)
theorem dX2_stabilize_56 : decode cX2_stabilize 56 = .ok (.iload_n 3, 1) := dk_29 (dk_at dksX2_stabilize_2 8 rfl rfl)
theorem dX2_stabilize_57 : decode cX2_stabilize 57 = .ok (.iload 4, 2) := dk_21 4 (dk_at dksX2_stabilize_2 9 rfl rfl)
theorem dX2_stabilize_59 : decode cX2_stabilize 59 = .ok (.isub, 1) := dk_100 (dk_at dksX2_stabilize_2 11 rfl rfl)
theorem dX2_stabilize_60 : decode cX2_stabilize 60 = .ok (.iconst 1, 1) := dk_4 (dk_at dksX2_stabilize_2 12 rfl rfl)
theorem dX2_stabilize_61 : decode cX2_stabilize 61 = .ok (.if_icmp .le 10, 3) := dk_164 0 10 (dk_at dksX2_stabilize_2 13 rfl rfl)
theorem dX2_stabilize_64 : decode cX2_stabilize 64 = .ok (.aload_n 0, 1) := dk_42 (dk_at dksX2_stabilize_2 16 rfl rfl)
theorem dX2_stabilize_65 : decode cX2_stabilize 65 = .ok (.iload 4, 2) := dk_21 4 (dk_at dksX2_stabilize_2 17 rfl rfl)
theorem dX2_stabilize_67 : decode cX2_stabilize 67 = .ok (.iload_n 3, 1) := dk_29 (dk_at dksX2_stabilize_2 19 rfl rfl)
theorem dX2_stabilize_68 : decode cX2_stabilize 68 = .ok (.invokestatic 50, 3) := dk_184 0 50 (dk_at dksX2_stabilize_2 20 rfl rfl)
theorem dX2_stabilize_71 : decode cX2_stabilize 71 = .ok (.return_, 1) := dk_177 (dk_at dksX2_stabilize_2 23 rfl rfl)
abbrev cX2_parallelQuickSort : ByteArray := prog_4_method_9_code
def yX2_parallelQuickSort : MethodName := ⟨RX2, "parallelQuickSort", "([III)V"⟩
def dkwX2_parallelQuickSort_0 : List UInt8 := [42, 27, 28, 184, 0, 36, 177]
abbrev dktX2_parallelQuickSort_0 : List UInt8 := dkwX2_parallelQuickSort_0 ++ []
theorem dksX2_parallelQuickSort_0 : cX2_parallelQuickSort.data.toList.drop 0 = dktX2_parallelQuickSort_0 := by decide +kernel
theorem dX2_parallelQuickSort_0 : decode cX2_parallelQuickSort 0 = .ok (.aload_n 0, 1) := dk_42 (dk_at dksX2_parallelQuickSort_0 0 rfl rfl)
theorem dX2_parallelQuickSort_1 : decode cX2_parallelQuickSort 1 = .ok (.iload_n 1, 1) := dk_27 (dk_at dksX2_parallelQuickSort_0 1 rfl rfl)
theorem dX2_parallelQuickSort_2 : decode cX2_parallelQuickSort 2 = .ok (.iload_n 2, 1) := dk_28 (dk_at dksX2_parallelQuickSort_0 2 rfl rfl)
theorem dX2_parallelQuickSort_3 : decode cX2_parallelQuickSort 3 = .ok (.invokestatic 36, 3) := dk_184 0 36 (dk_at dksX2_parallelQuickSort_0 3 rfl rfl)
theorem dX2_parallelQuickSort_6 : decode cX2_parallelQuickSort 6 = .ok (.return_, 1) := dk_177 (dk_at dksX2_parallelQuickSort_0 6 rfl rfl)
abbrev cX2_quickSort : ByteArray := prog_4_method_7_code
def yX2_quickSort : MethodName := ⟨RX2, "quickSort", "([III)V"⟩
def dkwX2_quickSort_14 : List UInt8 := [89, 54, 12, 4, 164, 0, 12, 42, 28, 21, 12, 100, 28, 184, 0, 36, 177]
abbrev dktX2_quickSort_14 : List UInt8 := dkwX2_quickSort_14 ++ []
def dkwX2_quickSort_13 : List UInt8 := [21, 8, 100, 89, 54, 12, 4, 164, 0, 12, 42, 27, 27, 21, 12, 96, 184, 0, 36, 21, 11, 21, 10, 100]
abbrev dktX2_quickSort_13 : List UInt8 := dkwX2_quickSort_13 ++ dktX2_quickSort_14
def dkwX2_quickSort_12 : List UInt8 := [21, 11, 100, 4, 100, 184, 0, 28, 54, 12, 42, 21, 9, 28, 21, 12, 100, 21, 12, 184, 0, 33, 21, 9]
abbrev dktX2_quickSort_12 : List UInt8 := dkwX2_quickSort_12 ++ dktX2_quickSort_13
def dkwX2_quickSort_11 : List UInt8 := [100, 184, 0, 28, 54, 12, 42, 27, 21, 9, 21, 12, 100, 21, 12, 184, 0, 33, 21, 11, 21, 10, 100, 28]
abbrev dktX2_quickSort_11 : List UInt8 := dkwX2_quickSort_11 ++ dktX2_quickSort_12
def dkwX2_quickSort_10 : List UInt8 := [21, 9, 132, 9, 1, 21, 10, 132, 10, 255, 184, 0, 5, 167, 255, 144, 21, 8, 27, 100, 21, 9, 21, 8]
abbrev dktX2_quickSort_10 : List UInt8 := dkwX2_quickSort_10 ++ dktX2_quickSort_11
def dkwX2_quickSort_9 : List UInt8 := [132, 11, 255, 184, 0, 5, 132, 10, 255, 167, 255, 215, 21, 9, 21, 10, 164, 0, 6, 167, 0, 20, 42]
abbrev dktX2_quickSort_9 : List UInt8 := dkwX2_quickSort_9 ++ dktX2_quickSort_10
def dkwX2_quickSort_8 : List UInt8 := [21, 10, 46, 21, 7, 184, 0, 17, 89, 54, 12, 155, 0, 25, 21, 12, 154, 0, 14, 42, 21, 10, 21, 11]
abbrev dktX2_quickSort_8 : List UInt8 := dkwX2_quickSort_8 ++ dktX2_quickSort_9
def dkwX2_quickSort_7 : List UInt8 := [21, 8, 132, 8, 1, 21, 9, 184, 0, 5, 132, 9, 1, 167, 255, 215, 21, 10, 21, 9, 161, 0, 40, 42]
abbrev dktX2_quickSort_7 : List UInt8 := dkwX2_quickSort_7 ++ dktX2_quickSort_8
def dkwX2_quickSort_6 : List UInt8 := [163, 0, 40, 42, 21, 9, 46, 21, 7, 184, 0, 17, 89, 54, 12, 157, 0, 25, 21, 12, 154, 0, 14, 42]
abbrev dktX2_quickSort_6 : List UInt8 := dkwX2_quickSort_6 ++ dktX2_quickSort_7
def dkwX2_quickSort_5 : List UInt8 := [54, 7, 27, 54, 8, 21, 8, 54, 9, 28, 4, 100, 54, 10, 21, 10, 54, 11, 21, 9, 21, 10]
abbrev dktX2_quickSort_5 : List UInt8 := dkwX2_quickSort_5 ++ dktX2_quickSort_6
def dkwX2_quickSort_4 : List UInt8 := [100, 21, 6, 184, 0, 24, 54, 6, 42, 21, 5, 21, 4, 21, 6, 184, 0, 24, 54, 4, 42, 21, 4, 46]
abbrev dktX2_quickSort_4 : List UInt8 := dkwX2_quickSort_4 ++ dktX2_quickSort_5
def dkwX2_quickSort_3 : List UInt8 := [21, 4, 21, 4, 21, 7, 96, 184, 0, 24, 54, 4, 42, 21, 6, 5, 21, 7, 104, 100, 21, 6, 21, 7]
abbrev dktX2_quickSort_3 : List UInt8 := dkwX2_quickSort_3 ++ dktX2_quickSort_4
def dkwX2_quickSort_2 : List UInt8 := [21, 5, 21, 7, 96, 21, 5, 5, 21, 7, 104, 96, 184, 0, 24, 54, 5, 42, 21, 4, 21, 7, 100]
abbrev dktX2_quickSort_2 : List UInt8 := dkwX2_quickSort_2 ++ dktX2_quickSort_3
def dkwX2_quickSort_1 : List UInt8 := [27, 54, 5, 28, 4, 100, 54, 6, 29, 17, 0, 128, 164, 0, 67, 29, 16, 8, 108, 54, 7, 42, 21, 5]
abbrev dktX2_quickSort_1 : List UInt8 := dkwX2_quickSort_1 ++ dktX2_quickSort_2
def dkwX2_quickSort_0 : List UInt8 := [28, 27, 100, 62, 29, 16, 16, 162, 0, 10, 42, 27, 28, 184, 0, 21, 177, 27, 29, 5, 108, 96, 54, 4]
abbrev dktX2_quickSort_0 : List UInt8 := dkwX2_quickSort_0 ++ dktX2_quickSort_1
theorem dksX2_quickSort_0 : cX2_quickSort.data.toList.drop 0 = dktX2_quickSort_0 := by decide +kernel
theorem dksX2_quickSort_1 : cX2_quickSort.data.toList.drop 24 = dktX2_quickSort_1 := dk_seg dksX2_quickSort_0 24 rfl rfl
theorem dksX2_quickSort_2 : cX2_quickSort.data.toList.drop 48 = dktX2_quickSort_2 := dk_seg dksX2_quickSort_1 24 rfl rfl
theorem dksX2_quickSort_3 : cX2_quickSort.data.toList.drop 71 = dktX2_quickSort_3 := dk_seg dksX2_quickSort_2 23 rfl rfl
theorem dksX2_quickSort_4 : cX2_quickSort.data.toList.drop 95 = dktX2_quickSort_4 := dk_seg dksX2_quickSort_3 24 rfl rfl
theorem dksX2_quickSort_5 : cX2_quickSort.data.toList.drop 119 = dktX2_quickSort_5 := dk_seg dksX2_quickSort_4 24 rfl rfl
theorem dksX2_quickSort_6 : cX2_quickSort.data.toList.drop 141 = dktX2_quickSort_6 := dk_seg dksX2_quickSort_5 22 rfl rfl
theorem dksX2_quickSort_7 : cX2_quickSort.data.toList.drop 165 = dktX2_quickSort_7 := dk_seg dksX2_quickSort_6 24 rfl rfl
theorem dksX2_quickSort_8 : cX2_quickSort.data.toList.drop 189 = dktX2_quickSort_8 := dk_seg dksX2_quickSort_7 24 rfl rfl
theorem dksX2_quickSort_9 : cX2_quickSort.data.toList.drop 213 = dktX2_quickSort_9 := dk_seg dksX2_quickSort_8 24 rfl rfl
theorem dksX2_quickSort_10 : cX2_quickSort.data.toList.drop 236 = dktX2_quickSort_10 := dk_seg dksX2_quickSort_9 23 rfl rfl
theorem dksX2_quickSort_11 : cX2_quickSort.data.toList.drop 260 = dktX2_quickSort_11 := dk_seg dksX2_quickSort_10 24 rfl rfl
theorem dksX2_quickSort_12 : cX2_quickSort.data.toList.drop 284 = dktX2_quickSort_12 := dk_seg dksX2_quickSort_11 24 rfl rfl
theorem dksX2_quickSort_13 : cX2_quickSort.data.toList.drop 308 = dktX2_quickSort_13 := dk_seg dksX2_quickSort_12 24 rfl rfl
theorem dksX2_quickSort_14 : cX2_quickSort.data.toList.drop 332 = dktX2_quickSort_14 := dk_seg dksX2_quickSort_13 24 rfl rfl
theorem dX2_quickSort_0 : decode cX2_quickSort 0 = .ok (.iload_n 2, 1) := dk_28 (dk_at dksX2_quickSort_0 0 rfl rfl)
theorem dX2_quickSort_1 : decode cX2_quickSort 1 = .ok (.iload_n 1, 1) := dk_27 (dk_at dksX2_quickSort_0 1 rfl rfl)
theorem dX2_quickSort_2 : decode cX2_quickSort 2 = .ok (.isub, 1) := dk_100 (dk_at dksX2_quickSort_0 2 rfl rfl)
theorem dX2_quickSort_3 : decode cX2_quickSort 3 = .ok (.istore_n 3, 1) := dk_62 (dk_at dksX2_quickSort_0 3 rfl rfl)
theorem dX2_quickSort_4 : decode cX2_quickSort 4 = .ok (.iload_n 3, 1) := dk_29 (dk_at dksX2_quickSort_0 4 rfl rfl)
theorem dX2_quickSort_5 : decode cX2_quickSort 5 = .ok (.bipush 16, 2) := dk_16 16 (dk_at dksX2_quickSort_0 5 rfl rfl)
theorem dX2_quickSort_7 : decode cX2_quickSort 7 = .ok (.if_icmp .ge 10, 3) := dk_162 0 10 (dk_at dksX2_quickSort_0 7 rfl rfl)
theorem dX2_quickSort_10 : decode cX2_quickSort 10 = .ok (.aload_n 0, 1) := dk_42 (dk_at dksX2_quickSort_0 10 rfl rfl)
theorem dX2_quickSort_11 : decode cX2_quickSort 11 = .ok (.iload_n 1, 1) := dk_27 (dk_at dksX2_quickSort_0 11 rfl rfl)
theorem dX2_quickSort_12 : decode cX2_quickSort 12 = .ok (.iload_n 2, 1) := dk_28 (dk_at dksX2_quickSort_0 12 rfl rfl)
theorem dX2_quickSort_13 : decode cX2_quickSort 13 = .ok (.invokestatic 21, 3) := dk_184 0 21 (dk_at dksX2_quickSort_0 13 rfl rfl)
theorem dX2_quickSort_16 : decode cX2_quickSort 16 = .ok (.return_, 1) := dk_177 (dk_at dksX2_quickSort_0 16 rfl rfl)
theorem dX2_quickSort_17 : decode cX2_quickSort 17 = .ok (.iload_n 1, 1) := dk_27 (dk_at dksX2_quickSort_0 17 rfl rfl)
theorem dX2_quickSort_18 : decode cX2_quickSort 18 = .ok (.iload_n 3, 1) := dk_29 (dk_at dksX2_quickSort_0 18 rfl rfl)
theorem dX2_quickSort_19 : decode cX2_quickSort 19 = .ok (.iconst 2, 1) := dk_5 (dk_at dksX2_quickSort_0 19 rfl rfl)
theorem dX2_quickSort_20 : decode cX2_quickSort 20 = .ok (.idiv, 1) := dk_108 (dk_at dksX2_quickSort_0 20 rfl rfl)
theorem dX2_quickSort_21 : decode cX2_quickSort 21 = .ok (.iadd, 1) := dk_96 (dk_at dksX2_quickSort_0 21 rfl rfl)
theorem dX2_quickSort_22 : decode cX2_quickSort 22 = .ok (.istore 4, 2) := dk_54 4 (dk_at dksX2_quickSort_0 22 rfl rfl)
theorem dX2_quickSort_24 : decode cX2_quickSort 24 = .ok (.iload_n 1, 1) := dk_27 (dk_at dksX2_quickSort_1 0 rfl rfl)
theorem dX2_quickSort_25 : decode cX2_quickSort 25 = .ok (.istore 5, 2) := dk_54 5 (dk_at dksX2_quickSort_1 1 rfl rfl)
theorem dX2_quickSort_27 : decode cX2_quickSort 27 = .ok (.iload_n 2, 1) := dk_28 (dk_at dksX2_quickSort_1 3 rfl rfl)
theorem dX2_quickSort_28 : decode cX2_quickSort 28 = .ok (.iconst 1, 1) := dk_4 (dk_at dksX2_quickSort_1 4 rfl rfl)
theorem dX2_quickSort_29 : decode cX2_quickSort 29 = .ok (.isub, 1) := dk_100 (dk_at dksX2_quickSort_1 5 rfl rfl)
theorem dX2_quickSort_30 : decode cX2_quickSort 30 = .ok (.istore 6, 2) := dk_54 6 (dk_at dksX2_quickSort_1 6 rfl rfl)
theorem dX2_quickSort_32 : decode cX2_quickSort 32 = .ok (.iload_n 3, 1) := dk_29 (dk_at dksX2_quickSort_1 8 rfl rfl)
theorem dX2_quickSort_33 : decode cX2_quickSort 33 = .ok (.sipush 128, 3) := dk_17 0 128 (dk_at dksX2_quickSort_1 9 rfl rfl)
theorem dX2_quickSort_36 : decode cX2_quickSort 36 = .ok (.if_icmp .le 67, 3) := dk_164 0 67 (dk_at dksX2_quickSort_1 12 rfl rfl)
theorem dX2_quickSort_39 : decode cX2_quickSort 39 = .ok (.iload_n 3, 1) := dk_29 (dk_at dksX2_quickSort_1 15 rfl rfl)
theorem dX2_quickSort_40 : decode cX2_quickSort 40 = .ok (.bipush 8, 2) := dk_16 8 (dk_at dksX2_quickSort_1 16 rfl rfl)
theorem dX2_quickSort_42 : decode cX2_quickSort 42 = .ok (.idiv, 1) := dk_108 (dk_at dksX2_quickSort_1 18 rfl rfl)
theorem dX2_quickSort_43 : decode cX2_quickSort 43 = .ok (.istore 7, 2) := dk_54 7 (dk_at dksX2_quickSort_1 19 rfl rfl)
theorem dX2_quickSort_45 : decode cX2_quickSort 45 = .ok (.aload_n 0, 1) := dk_42 (dk_at dksX2_quickSort_1 21 rfl rfl)
theorem dX2_quickSort_46 : decode cX2_quickSort 46 = .ok (.iload 5, 2) := dk_21 5 (dk_at dksX2_quickSort_1 22 rfl rfl)
theorem dX2_quickSort_48 : decode cX2_quickSort 48 = .ok (.iload 5, 2) := dk_21 5 (dk_at dksX2_quickSort_2 0 rfl rfl)
theorem dX2_quickSort_50 : decode cX2_quickSort 50 = .ok (.iload 7, 2) := dk_21 7 (dk_at dksX2_quickSort_2 2 rfl rfl)
theorem dX2_quickSort_52 : decode cX2_quickSort 52 = .ok (.iadd, 1) := dk_96 (dk_at dksX2_quickSort_2 4 rfl rfl)
theorem dX2_quickSort_53 : decode cX2_quickSort 53 = .ok (.iload 5, 2) := dk_21 5 (dk_at dksX2_quickSort_2 5 rfl rfl)
theorem dX2_quickSort_55 : decode cX2_quickSort 55 = .ok (.iconst 2, 1) := dk_5 (dk_at dksX2_quickSort_2 7 rfl rfl)
theorem dX2_quickSort_56 : decode cX2_quickSort 56 = .ok (.iload 7, 2) := dk_21 7 (dk_at dksX2_quickSort_2 8 rfl rfl)
theorem dX2_quickSort_58 : decode cX2_quickSort 58 = .ok (.imul, 1) := dk_104 (dk_at dksX2_quickSort_2 10 rfl rfl)
theorem dX2_quickSort_59 : decode cX2_quickSort 59 = .ok (.iadd, 1) := dk_96 (dk_at dksX2_quickSort_2 11 rfl rfl)
theorem dX2_quickSort_60 : decode cX2_quickSort 60 = .ok (.invokestatic 24, 3) := dk_184 0 24 (dk_at dksX2_quickSort_2 12 rfl rfl)
theorem dX2_quickSort_63 : decode cX2_quickSort 63 = .ok (.istore 5, 2) := dk_54 5 (dk_at dksX2_quickSort_2 15 rfl rfl)
theorem dX2_quickSort_65 : decode cX2_quickSort 65 = .ok (.aload_n 0, 1) := dk_42 (dk_at dksX2_quickSort_2 17 rfl rfl)
theorem dX2_quickSort_66 : decode cX2_quickSort 66 = .ok (.iload 4, 2) := dk_21 4 (dk_at dksX2_quickSort_2 18 rfl rfl)
theorem dX2_quickSort_68 : decode cX2_quickSort 68 = .ok (.iload 7, 2) := dk_21 7 (dk_at dksX2_quickSort_2 20 rfl rfl)
theorem dX2_quickSort_70 : decode cX2_quickSort 70 = .ok (.isub, 1) := dk_100 (dk_at dksX2_quickSort_2 22 rfl rfl)
theorem dX2_quickSort_71 : decode cX2_quickSort 71 = .ok (.iload 4, 2) := dk_21 4 (dk_at dksX2_quickSort_3 0 rfl rfl)
theorem dX2_quickSort_73 : decode cX2_quickSort 73 = .ok (.iload 4, 2) := dk_21 4 (dk_at dksX2_quickSort_3 2 rfl rfl)
theorem dX2_quickSort_75 : decode cX2_quickSort 75 = .ok (.iload 7, 2) := dk_21 7 (dk_at dksX2_quickSort_3 4 rfl rfl)
theorem dX2_quickSort_77 : decode cX2_quickSort 77 = .ok (.iadd, 1) := dk_96 (dk_at dksX2_quickSort_3 6 rfl rfl)
theorem dX2_quickSort_78 : decode cX2_quickSort 78 = .ok (.invokestatic 24, 3) := dk_184 0 24 (dk_at dksX2_quickSort_3 7 rfl rfl)
theorem dX2_quickSort_81 : decode cX2_quickSort 81 = .ok (.istore 4, 2) := dk_54 4 (dk_at dksX2_quickSort_3 10 rfl rfl)
theorem dX2_quickSort_83 : decode cX2_quickSort 83 = .ok (.aload_n 0, 1) := dk_42 (dk_at dksX2_quickSort_3 12 rfl rfl)
theorem dX2_quickSort_84 : decode cX2_quickSort 84 = .ok (.iload 6, 2) := dk_21 6 (dk_at dksX2_quickSort_3 13 rfl rfl)
theorem dX2_quickSort_86 : decode cX2_quickSort 86 = .ok (.iconst 2, 1) := dk_5 (dk_at dksX2_quickSort_3 15 rfl rfl)
theorem dX2_quickSort_87 : decode cX2_quickSort 87 = .ok (.iload 7, 2) := dk_21 7 (dk_at dksX2_quickSort_3 16 rfl rfl)
theorem dX2_quickSort_89 : decode cX2_quickSort 89 = .ok (.imul, 1) := dk_104 (dk_at dksX2_quickSort_3 18 rfl rfl)
theorem dX2_quickSort_90 : decode cX2_quickSort 90 = .ok (.isub, 1) := dk_100 (dk_at dksX2_quickSort_3 19 rfl rfl)
theorem dX2_quickSort_91 : decode cX2_quickSort 91 = .ok (.iload 6, 2) := dk_21 6 (dk_at dksX2_quickSort_3 20 rfl rfl)
theorem dX2_quickSort_93 : decode cX2_quickSort 93 = .ok (.iload 7, 2) := dk_21 7 (dk_at dksX2_quickSort_3 22 rfl rfl)
theorem dX2_quickSort_95 : decode cX2_quickSort 95 = .ok (.isub, 1) := dk_100 (dk_at dksX2_quickSort_4 0 rfl rfl)
theorem dX2_quickSort_96 : decode cX2_quickSort 96 = .ok (.iload 6, 2) := dk_21 6 (dk_at dksX2_quickSort_4 1 rfl rfl)
theorem dX2_quickSort_98 : decode cX2_quickSort 98 = .ok (.invokestatic 24, 3) := dk_184 0 24 (dk_at dksX2_quickSort_4 3 rfl rfl)
theorem dX2_quickSort_101 : decode cX2_quickSort 101 = .ok (.istore 6, 2) := dk_54 6 (dk_at dksX2_quickSort_4 6 rfl rfl)
theorem dX2_quickSort_103 : decode cX2_quickSort 103 = .ok (.aload_n 0, 1) := dk_42 (dk_at dksX2_quickSort_4 8 rfl rfl)
theorem dX2_quickSort_104 : decode cX2_quickSort 104 = .ok (.iload 5, 2) := dk_21 5 (dk_at dksX2_quickSort_4 9 rfl rfl)
theorem dX2_quickSort_106 : decode cX2_quickSort 106 = .ok (.iload 4, 2) := dk_21 4 (dk_at dksX2_quickSort_4 11 rfl rfl)
theorem dX2_quickSort_108 : decode cX2_quickSort 108 = .ok (.iload 6, 2) := dk_21 6 (dk_at dksX2_quickSort_4 13 rfl rfl)
theorem dX2_quickSort_110 : decode cX2_quickSort 110 = .ok (.invokestatic 24, 3) := dk_184 0 24 (dk_at dksX2_quickSort_4 15 rfl rfl)
theorem dX2_quickSort_113 : decode cX2_quickSort 113 = .ok (.istore 4, 2) := dk_54 4 (dk_at dksX2_quickSort_4 18 rfl rfl)
theorem dX2_quickSort_115 : decode cX2_quickSort 115 = .ok (.aload_n 0, 1) := dk_42 (dk_at dksX2_quickSort_4 20 rfl rfl)
theorem dX2_quickSort_116 : decode cX2_quickSort 116 = .ok (.iload 4, 2) := dk_21 4 (dk_at dksX2_quickSort_4 21 rfl rfl)
theorem dX2_quickSort_118 : decode cX2_quickSort 118 = .ok (.iaload, 1) := dk_46 (dk_at dksX2_quickSort_4 23 rfl rfl)
theorem dX2_quickSort_119 : decode cX2_quickSort 119 = .ok (.istore 7, 2) := dk_54 7 (dk_at dksX2_quickSort_5 0 rfl rfl)
theorem dX2_quickSort_121 : decode cX2_quickSort 121 = .ok (.iload_n 1, 1) := dk_27 (dk_at dksX2_quickSort_5 2 rfl rfl)
theorem dX2_quickSort_122 : decode cX2_quickSort 122 = .ok (.istore 8, 2) := dk_54 8 (dk_at dksX2_quickSort_5 3 rfl rfl)
theorem dX2_quickSort_124 : decode cX2_quickSort 124 = .ok (.iload 8, 2) := dk_21 8 (dk_at dksX2_quickSort_5 5 rfl rfl)
theorem dX2_quickSort_126 : decode cX2_quickSort 126 = .ok (.istore 9, 2) := dk_54 9 (dk_at dksX2_quickSort_5 7 rfl rfl)
theorem dX2_quickSort_128 : decode cX2_quickSort 128 = .ok (.iload_n 2, 1) := dk_28 (dk_at dksX2_quickSort_5 9 rfl rfl)
theorem dX2_quickSort_129 : decode cX2_quickSort 129 = .ok (.iconst 1, 1) := dk_4 (dk_at dksX2_quickSort_5 10 rfl rfl)
theorem dX2_quickSort_130 : decode cX2_quickSort 130 = .ok (.isub, 1) := dk_100 (dk_at dksX2_quickSort_5 11 rfl rfl)
theorem dX2_quickSort_131 : decode cX2_quickSort 131 = .ok (.istore 10, 2) := dk_54 10 (dk_at dksX2_quickSort_5 12 rfl rfl)
theorem dX2_quickSort_133 : decode cX2_quickSort 133 = .ok (.iload 10, 2) := dk_21 10 (dk_at dksX2_quickSort_5 14 rfl rfl)
theorem dX2_quickSort_135 : decode cX2_quickSort 135 = .ok (.istore 11, 2) := dk_54 11 (dk_at dksX2_quickSort_5 16 rfl rfl)
theorem dX2_quickSort_137 : decode cX2_quickSort 137 = .ok (.iload 9, 2) := dk_21 9 (dk_at dksX2_quickSort_5 18 rfl rfl)
theorem dX2_quickSort_139 : decode cX2_quickSort 139 = .ok (.iload 10, 2) := dk_21 10 (dk_at dksX2_quickSort_5 20 rfl rfl)
theorem dX2_quickSort_141 : decode cX2_quickSort 141 = .ok (.if_icmp .gt 40, 3) := dk_163 0 40 (dk_at dksX2_quickSort_6 0 rfl rfl)
theorem dX2_quickSort_144 : decode cX2_quickSort 144 = .ok (.aload_n 0, 1) := dk_42 (dk_at dksX2_quickSort_6 3 rfl rfl)
theorem dX2_quickSort_145 : decode cX2_quickSort 145 = .ok (.iload 9, 2) := dk_21 9 (dk_at dksX2_quickSort_6 4 rfl rfl)
theorem dX2_quickSort_147 : decode cX2_quickSort 147 = .ok (.iaload, 1) := dk_46 (dk_at dksX2_quickSort_6 6 rfl rfl)
theorem dX2_quickSort_148 : decode cX2_quickSort 148 = .ok (.iload 7, 2) := dk_21 7 (dk_at dksX2_quickSort_6 7 rfl rfl)
theorem dX2_quickSort_150 : decode cX2_quickSort 150 = .ok (.invokestatic 17, 3) := dk_184 0 17 (dk_at dksX2_quickSort_6 9 rfl rfl)
theorem dX2_quickSort_153 : decode cX2_quickSort 153 = .ok (.dup, 1) := dk_89 (dk_at dksX2_quickSort_6 12 rfl rfl)
theorem dX2_quickSort_154 : decode cX2_quickSort 154 = .ok (.istore 12, 2) := dk_54 12 (dk_at dksX2_quickSort_6 13 rfl rfl)
theorem dX2_quickSort_156 : decode cX2_quickSort 156 = .ok (.ifCond .gt 25, 3) := dk_157 0 25 (dk_at dksX2_quickSort_6 15 rfl rfl)
theorem dX2_quickSort_159 : decode cX2_quickSort 159 = .ok (.iload 12, 2) := dk_21 12 (dk_at dksX2_quickSort_6 18 rfl rfl)
theorem dX2_quickSort_161 : decode cX2_quickSort 161 = .ok (.ifCond .ne 14, 3) := dk_154 0 14 (dk_at dksX2_quickSort_6 20 rfl rfl)
theorem dX2_quickSort_164 : decode cX2_quickSort 164 = .ok (.aload_n 0, 1) := dk_42 (dk_at dksX2_quickSort_6 23 rfl rfl)
theorem dX2_quickSort_165 : decode cX2_quickSort 165 = .ok (.iload 8, 2) := dk_21 8 (dk_at dksX2_quickSort_7 0 rfl rfl)
theorem dX2_quickSort_167 : decode cX2_quickSort 167 = .ok (.iinc 8 1, 3) := dk_132 8 1 (dk_at dksX2_quickSort_7 2 rfl rfl)
theorem dX2_quickSort_170 : decode cX2_quickSort 170 = .ok (.iload 9, 2) := dk_21 9 (dk_at dksX2_quickSort_7 5 rfl rfl)
theorem dX2_quickSort_172 : decode cX2_quickSort 172 = .ok (.invokestatic 5, 3) := dk_184 0 5 (dk_at dksX2_quickSort_7 7 rfl rfl)
theorem dX2_quickSort_175 : decode cX2_quickSort 175 = .ok (.iinc 9 1, 3) := dk_132 9 1 (dk_at dksX2_quickSort_7 10 rfl rfl)
theorem dX2_quickSort_178 : decode cX2_quickSort 178 = .ok (.goto (-41), 3) := dk_167 255 215 (dk_at dksX2_quickSort_7 13 rfl rfl)
theorem dX2_quickSort_181 : decode cX2_quickSort 181 = .ok (.iload 10, 2) := dk_21 10 (dk_at dksX2_quickSort_7 16 rfl rfl)
theorem dX2_quickSort_183 : decode cX2_quickSort 183 = .ok (.iload 9, 2) := dk_21 9 (dk_at dksX2_quickSort_7 18 rfl rfl)
theorem dX2_quickSort_185 : decode cX2_quickSort 185 = .ok (.if_icmp .lt 40, 3) := dk_161 0 40 (dk_at dksX2_quickSort_7 20 rfl rfl)
theorem dX2_quickSort_188 : decode cX2_quickSort 188 = .ok (.aload_n 0, 1) := dk_42 (dk_at dksX2_quickSort_7 23 rfl rfl)
theorem dX2_quickSort_189 : decode cX2_quickSort 189 = .ok (.iload 10, 2) := dk_21 10 (dk_at dksX2_quickSort_8 0 rfl rfl)
theorem dX2_quickSort_191 : decode cX2_quickSort 191 = .ok (.iaload, 1) := dk_46 (dk_at dksX2_quickSort_8 2 rfl rfl)
theorem dX2_quickSort_192 : decode cX2_quickSort 192 = .ok (.iload 7, 2) := dk_21 7 (dk_at dksX2_quickSort_8 3 rfl rfl)
theorem dX2_quickSort_194 : decode cX2_quickSort 194 = .ok (.invokestatic 17, 3) := dk_184 0 17 (dk_at dksX2_quickSort_8 5 rfl rfl)
theorem dX2_quickSort_197 : decode cX2_quickSort 197 = .ok (.dup, 1) := dk_89 (dk_at dksX2_quickSort_8 8 rfl rfl)
theorem dX2_quickSort_198 : decode cX2_quickSort 198 = .ok (.istore 12, 2) := dk_54 12 (dk_at dksX2_quickSort_8 9 rfl rfl)
theorem dX2_quickSort_200 : decode cX2_quickSort 200 = .ok (.ifCond .lt 25, 3) := dk_155 0 25 (dk_at dksX2_quickSort_8 11 rfl rfl)
theorem dX2_quickSort_203 : decode cX2_quickSort 203 = .ok (.iload 12, 2) := dk_21 12 (dk_at dksX2_quickSort_8 14 rfl rfl)
theorem dX2_quickSort_205 : decode cX2_quickSort 205 = .ok (.ifCond .ne 14, 3) := dk_154 0 14 (dk_at dksX2_quickSort_8 16 rfl rfl)
theorem dX2_quickSort_208 : decode cX2_quickSort 208 = .ok (.aload_n 0, 1) := dk_42 (dk_at dksX2_quickSort_8 19 rfl rfl)
theorem dX2_quickSort_209 : decode cX2_quickSort 209 = .ok (.iload 10, 2) := dk_21 10 (dk_at dksX2_quickSort_8 20 rfl rfl)
theorem dX2_quickSort_211 : decode cX2_quickSort 211 = .ok (.iload 11, 2) := dk_21 11 (dk_at dksX2_quickSort_8 22 rfl rfl)
theorem dX2_quickSort_213 : decode cX2_quickSort 213 = .ok (.iinc 11 (-1), 3) := dk_132 11 255 (dk_at dksX2_quickSort_9 0 rfl rfl)
theorem dX2_quickSort_216 : decode cX2_quickSort 216 = .ok (.invokestatic 5, 3) := dk_184 0 5 (dk_at dksX2_quickSort_9 3 rfl rfl)
theorem dX2_quickSort_219 : decode cX2_quickSort 219 = .ok (.iinc 10 (-1), 3) := dk_132 10 255 (dk_at dksX2_quickSort_9 6 rfl rfl)
theorem dX2_quickSort_222 : decode cX2_quickSort 222 = .ok (.goto (-41), 3) := dk_167 255 215 (dk_at dksX2_quickSort_9 9 rfl rfl)
theorem dX2_quickSort_225 : decode cX2_quickSort 225 = .ok (.iload 9, 2) := dk_21 9 (dk_at dksX2_quickSort_9 12 rfl rfl)
theorem dX2_quickSort_227 : decode cX2_quickSort 227 = .ok (.iload 10, 2) := dk_21 10 (dk_at dksX2_quickSort_9 14 rfl rfl)
theorem dX2_quickSort_229 : decode cX2_quickSort 229 = .ok (.if_icmp .le 6, 3) := dk_164 0 6 (dk_at dksX2_quickSort_9 16 rfl rfl)
theorem dX2_quickSort_232 : decode cX2_quickSort 232 = .ok (.goto 20, 3) := dk_167 0 20 (dk_at dksX2_quickSort_9 19 rfl rfl)
theorem dX2_quickSort_235 : decode cX2_quickSort 235 = .ok (.aload_n 0, 1) := dk_42 (dk_at dksX2_quickSort_9 22 rfl rfl)
theorem dX2_quickSort_236 : decode cX2_quickSort 236 = .ok (.iload 9, 2) := dk_21 9 (dk_at dksX2_quickSort_10 0 rfl rfl)
theorem dX2_quickSort_238 : decode cX2_quickSort 238 = .ok (.iinc 9 1, 3) := dk_132 9 1 (dk_at dksX2_quickSort_10 2 rfl rfl)
theorem dX2_quickSort_241 : decode cX2_quickSort 241 = .ok (.iload 10, 2) := dk_21 10 (dk_at dksX2_quickSort_10 5 rfl rfl)
theorem dX2_quickSort_243 : decode cX2_quickSort 243 = .ok (.iinc 10 (-1), 3) := dk_132 10 255 (dk_at dksX2_quickSort_10 7 rfl rfl)
theorem dX2_quickSort_246 : decode cX2_quickSort 246 = .ok (.invokestatic 5, 3) := dk_184 0 5 (dk_at dksX2_quickSort_10 10 rfl rfl)
theorem dX2_quickSort_249 : decode cX2_quickSort 249 = .ok (.goto (-112), 3) := dk_167 255 144 (dk_at dksX2_quickSort_10 13 rfl rfl)
theorem dX2_quickSort_252 : decode cX2_quickSort 252 = .ok (.iload 8, 2) := dk_21 8 (dk_at dksX2_quickSort_10 16 rfl rfl)
theorem dX2_quickSort_254 : decode cX2_quickSort 254 = .ok (.iload_n 1, 1) := dk_27 (dk_at dksX2_quickSort_10 18 rfl rfl)
theorem dX2_quickSort_255 : decode cX2_quickSort 255 = .ok (.isub, 1) := dk_100 (dk_at dksX2_quickSort_10 19 rfl rfl)
theorem dX2_quickSort_256 : decode cX2_quickSort 256 = .ok (.iload 9, 2) := dk_21 9 (dk_at dksX2_quickSort_10 20 rfl rfl)
theorem dX2_quickSort_258 : decode cX2_quickSort 258 = .ok (.iload 8, 2) := dk_21 8 (dk_at dksX2_quickSort_10 22 rfl rfl)
theorem dX2_quickSort_260 : decode cX2_quickSort 260 = .ok (.isub, 1) := dk_100 (dk_at dksX2_quickSort_11 0 rfl rfl)
theorem dX2_quickSort_261 : decode cX2_quickSort 261 = .ok (.invokestatic 28, 3) := dk_184 0 28 (dk_at dksX2_quickSort_11 1 rfl rfl)
theorem dX2_quickSort_264 : decode cX2_quickSort 264 = .ok (.istore 12, 2) := dk_54 12 (dk_at dksX2_quickSort_11 4 rfl rfl)
theorem dX2_quickSort_266 : decode cX2_quickSort 266 = .ok (.aload_n 0, 1) := dk_42 (dk_at dksX2_quickSort_11 6 rfl rfl)
theorem dX2_quickSort_267 : decode cX2_quickSort 267 = .ok (.iload_n 1, 1) := dk_27 (dk_at dksX2_quickSort_11 7 rfl rfl)
theorem dX2_quickSort_268 : decode cX2_quickSort 268 = .ok (.iload 9, 2) := dk_21 9 (dk_at dksX2_quickSort_11 8 rfl rfl)
theorem dX2_quickSort_270 : decode cX2_quickSort 270 = .ok (.iload 12, 2) := dk_21 12 (dk_at dksX2_quickSort_11 10 rfl rfl)
theorem dX2_quickSort_272 : decode cX2_quickSort 272 = .ok (.isub, 1) := dk_100 (dk_at dksX2_quickSort_11 12 rfl rfl)
theorem dX2_quickSort_273 : decode cX2_quickSort 273 = .ok (.iload 12, 2) := dk_21 12 (dk_at dksX2_quickSort_11 13 rfl rfl)
theorem dX2_quickSort_275 : decode cX2_quickSort 275 = .ok (.invokestatic 33, 3) := dk_184 0 33 (dk_at dksX2_quickSort_11 15 rfl rfl)
theorem dX2_quickSort_278 : decode cX2_quickSort 278 = .ok (.iload 11, 2) := dk_21 11 (dk_at dksX2_quickSort_11 18 rfl rfl)
theorem dX2_quickSort_280 : decode cX2_quickSort 280 = .ok (.iload 10, 2) := dk_21 10 (dk_at dksX2_quickSort_11 20 rfl rfl)
theorem dX2_quickSort_282 : decode cX2_quickSort 282 = .ok (.isub, 1) := dk_100 (dk_at dksX2_quickSort_11 22 rfl rfl)
theorem dX2_quickSort_283 : decode cX2_quickSort 283 = .ok (.iload_n 2, 1) := dk_28 (dk_at dksX2_quickSort_11 23 rfl rfl)
theorem dX2_quickSort_284 : decode cX2_quickSort 284 = .ok (.iload 11, 2) := dk_21 11 (dk_at dksX2_quickSort_12 0 rfl rfl)
theorem dX2_quickSort_286 : decode cX2_quickSort 286 = .ok (.isub, 1) := dk_100 (dk_at dksX2_quickSort_12 2 rfl rfl)
theorem dX2_quickSort_287 : decode cX2_quickSort 287 = .ok (.iconst 1, 1) := dk_4 (dk_at dksX2_quickSort_12 3 rfl rfl)
theorem dX2_quickSort_288 : decode cX2_quickSort 288 = .ok (.isub, 1) := dk_100 (dk_at dksX2_quickSort_12 4 rfl rfl)
theorem dX2_quickSort_289 : decode cX2_quickSort 289 = .ok (.invokestatic 28, 3) := dk_184 0 28 (dk_at dksX2_quickSort_12 5 rfl rfl)
theorem dX2_quickSort_292 : decode cX2_quickSort 292 = .ok (.istore 12, 2) := dk_54 12 (dk_at dksX2_quickSort_12 8 rfl rfl)
theorem dX2_quickSort_294 : decode cX2_quickSort 294 = .ok (.aload_n 0, 1) := dk_42 (dk_at dksX2_quickSort_12 10 rfl rfl)
theorem dX2_quickSort_295 : decode cX2_quickSort 295 = .ok (.iload 9, 2) := dk_21 9 (dk_at dksX2_quickSort_12 11 rfl rfl)
theorem dX2_quickSort_297 : decode cX2_quickSort 297 = .ok (.iload_n 2, 1) := dk_28 (dk_at dksX2_quickSort_12 13 rfl rfl)
theorem dX2_quickSort_298 : decode cX2_quickSort 298 = .ok (.iload 12, 2) := dk_21 12 (dk_at dksX2_quickSort_12 14 rfl rfl)
theorem dX2_quickSort_300 : decode cX2_quickSort 300 = .ok (.isub, 1) := dk_100 (dk_at dksX2_quickSort_12 16 rfl rfl)
theorem dX2_quickSort_301 : decode cX2_quickSort 301 = .ok (.iload 12, 2) := dk_21 12 (dk_at dksX2_quickSort_12 17 rfl rfl)
theorem dX2_quickSort_303 : decode cX2_quickSort 303 = .ok (.invokestatic 33, 3) := dk_184 0 33 (dk_at dksX2_quickSort_12 19 rfl rfl)
theorem dX2_quickSort_306 : decode cX2_quickSort 306 = .ok (.iload 9, 2) := dk_21 9 (dk_at dksX2_quickSort_12 22 rfl rfl)
theorem dX2_quickSort_308 : decode cX2_quickSort 308 = .ok (.iload 8, 2) := dk_21 8 (dk_at dksX2_quickSort_13 0 rfl rfl)
theorem dX2_quickSort_310 : decode cX2_quickSort 310 = .ok (.isub, 1) := dk_100 (dk_at dksX2_quickSort_13 2 rfl rfl)
theorem dX2_quickSort_311 : decode cX2_quickSort 311 = .ok (.dup, 1) := dk_89 (dk_at dksX2_quickSort_13 3 rfl rfl)
theorem dX2_quickSort_312 : decode cX2_quickSort 312 = .ok (.istore 12, 2) := dk_54 12 (dk_at dksX2_quickSort_13 4 rfl rfl)
theorem dX2_quickSort_314 : decode cX2_quickSort 314 = .ok (.iconst 1, 1) := dk_4 (dk_at dksX2_quickSort_13 6 rfl rfl)
theorem dX2_quickSort_315 : decode cX2_quickSort 315 = .ok (.if_icmp .le 12, 3) := dk_164 0 12 (dk_at dksX2_quickSort_13 7 rfl rfl)
theorem dX2_quickSort_318 : decode cX2_quickSort 318 = .ok (.aload_n 0, 1) := dk_42 (dk_at dksX2_quickSort_13 10 rfl rfl)
theorem dX2_quickSort_319 : decode cX2_quickSort 319 = .ok (.iload_n 1, 1) := dk_27 (dk_at dksX2_quickSort_13 11 rfl rfl)
theorem dX2_quickSort_320 : decode cX2_quickSort 320 = .ok (.iload_n 1, 1) := dk_27 (dk_at dksX2_quickSort_13 12 rfl rfl)
theorem dX2_quickSort_321 : decode cX2_quickSort 321 = .ok (.iload 12, 2) := dk_21 12 (dk_at dksX2_quickSort_13 13 rfl rfl)
theorem dX2_quickSort_323 : decode cX2_quickSort 323 = .ok (.iadd, 1) := dk_96 (dk_at dksX2_quickSort_13 15 rfl rfl)
theorem dX2_quickSort_324 : decode cX2_quickSort 324 = .ok (.invokestatic 36, 3) := dk_184 0 36 (dk_at dksX2_quickSort_13 16 rfl rfl)
theorem dX2_quickSort_327 : decode cX2_quickSort 327 = .ok (.iload 11, 2) := dk_21 11 (dk_at dksX2_quickSort_13 19 rfl rfl)
theorem dX2_quickSort_329 : decode cX2_quickSort 329 = .ok (.iload 10, 2) := dk_21 10 (dk_at dksX2_quickSort_13 21 rfl rfl)
theorem dX2_quickSort_331 : decode cX2_quickSort 331 = .ok (.isub, 1) := dk_100 (dk_at dksX2_quickSort_13 23 rfl rfl)
theorem dX2_quickSort_332 : decode cX2_quickSort 332 = .ok (.dup, 1) := dk_89 (dk_at dksX2_quickSort_14 0 rfl rfl)
theorem dX2_quickSort_333 : decode cX2_quickSort 333 = .ok (.istore 12, 2) := dk_54 12 (dk_at dksX2_quickSort_14 1 rfl rfl)
theorem dX2_quickSort_335 : decode cX2_quickSort 335 = .ok (.iconst 1, 1) := dk_4 (dk_at dksX2_quickSort_14 3 rfl rfl)
theorem dX2_quickSort_336 : decode cX2_quickSort 336 = .ok (.if_icmp .le 12, 3) := dk_164 0 12 (dk_at dksX2_quickSort_14 4 rfl rfl)
theorem dX2_quickSort_339 : decode cX2_quickSort 339 = .ok (.aload_n 0, 1) := dk_42 (dk_at dksX2_quickSort_14 7 rfl rfl)
theorem dX2_quickSort_340 : decode cX2_quickSort 340 = .ok (.iload_n 2, 1) := dk_28 (dk_at dksX2_quickSort_14 8 rfl rfl)
theorem dX2_quickSort_341 : decode cX2_quickSort 341 = .ok (.iload 12, 2) := dk_21 12 (dk_at dksX2_quickSort_14 9 rfl rfl)
theorem dX2_quickSort_343 : decode cX2_quickSort 343 = .ok (.isub, 1) := dk_100 (dk_at dksX2_quickSort_14 11 rfl rfl)
theorem dX2_quickSort_344 : decode cX2_quickSort 344 = .ok (.iload_n 2, 1) := dk_28 (dk_at dksX2_quickSort_14 12 rfl rfl)
theorem dX2_quickSort_345 : decode cX2_quickSort 345 = .ok (.invokestatic 36, 3) := dk_184 0 36 (dk_at dksX2_quickSort_14 13 rfl rfl)
theorem dX2_quickSort_348 : decode cX2_quickSort 348 = .ok (.return_, 1) := dk_177 (dk_at dksX2_quickSort_14 16 rfl rfl)
abbrev cX2_selectionSort : ByteArray := prog_4_method_6_code
def yX2_selectionSort : MethodName := ⟨RX2, "selectionSort", "([III)V"⟩
def dkwX2_selectionSort_3 : List UInt8 := [167, 255, 187, 177]
abbrev dktX2_selectionSort_3 : List UInt8 := dkwX2_selectionSort_3 ++ []
def dkwX2_selectionSort_2 : List UInt8 := [159, 0, 21, 42, 29, 46, 54, 5, 42, 29, 42, 21, 4, 46, 79, 42, 21, 4, 21, 5, 79, 132, 3, 1]
abbrev dktX2_selectionSort_2 : List UInt8 := dkwX2_selectionSort_2 ++ dktX2_selectionSort_3
def dkwX2_selectionSort_1 : List UInt8 := [21, 5, 46, 42, 21, 4, 46, 162, 0, 7, 21, 5, 54, 4, 132, 5, 1, 167, 255, 232, 21, 4, 29]
abbrev dktX2_selectionSort_1 : List UInt8 := dkwX2_selectionSort_1 ++ dktX2_selectionSort_2
def dkwX2_selectionSort_0 : List UInt8 := [27, 62, 29, 28, 4, 100, 162, 0, 68, 29, 54, 4, 29, 4, 96, 54, 5, 21, 5, 28, 162, 0, 24, 42]
abbrev dktX2_selectionSort_0 : List UInt8 := dkwX2_selectionSort_0 ++ dktX2_selectionSort_1
theorem dksX2_selectionSort_0 : cX2_selectionSort.data.toList.drop 0 = dktX2_selectionSort_0 := by decide +kernel
theorem dksX2_selectionSort_1 : cX2_selectionSort.data.toList.drop 24 = dktX2_selectionSort_1 := dk_seg dksX2_selectionSort_0 24 rfl rfl
theorem dksX2_selectionSort_2 : cX2_selectionSort.data.toList.drop 47 = dktX2_selectionSort_2 := dk_seg dksX2_selectionSort_1 23 rfl rfl
theorem dksX2_selectionSort_3 : cX2_selectionSort.data.toList.drop 71 = dktX2_selectionSort_3 := dk_seg dksX2_selectionSort_2 24 rfl rfl
theorem dX2_selectionSort_0 : decode cX2_selectionSort 0 = .ok (.iload_n 1, 1) := dk_27 (dk_at dksX2_selectionSort_0 0 rfl rfl)
theorem dX2_selectionSort_1 : decode cX2_selectionSort 1 = .ok (.istore_n 3, 1) := dk_62 (dk_at dksX2_selectionSort_0 1 rfl rfl)
theorem dX2_selectionSort_2 : decode cX2_selectionSort 2 = .ok (.iload_n 3, 1) := dk_29 (dk_at dksX2_selectionSort_0 2 rfl rfl)
theorem dX2_selectionSort_3 : decode cX2_selectionSort 3 = .ok (.iload_n 2, 1) := dk_28 (dk_at dksX2_selectionSort_0 3 rfl rfl)
theorem dX2_selectionSort_4 : decode cX2_selectionSort 4 = .ok (.iconst 1, 1) := dk_4 (dk_at dksX2_selectionSort_0 4 rfl rfl)
theorem dX2_selectionSort_5 : decode cX2_selectionSort 5 = .ok (.isub, 1) := dk_100 (dk_at dksX2_selectionSort_0 5 rfl rfl)
theorem dX2_selectionSort_6 : decode cX2_selectionSort 6 = .ok (.if_icmp .ge 68, 3) := dk_162 0 68 (dk_at dksX2_selectionSort_0 6 rfl rfl)
theorem dX2_selectionSort_9 : decode cX2_selectionSort 9 = .ok (.iload_n 3, 1) := dk_29 (dk_at dksX2_selectionSort_0 9 rfl rfl)
theorem dX2_selectionSort_10 : decode cX2_selectionSort 10 = .ok (.istore 4, 2) := dk_54 4 (dk_at dksX2_selectionSort_0 10 rfl rfl)
theorem dX2_selectionSort_12 : decode cX2_selectionSort 12 = .ok (.iload_n 3, 1) := dk_29 (dk_at dksX2_selectionSort_0 12 rfl rfl)
theorem dX2_selectionSort_13 : decode cX2_selectionSort 13 = .ok (.iconst 1, 1) := dk_4 (dk_at dksX2_selectionSort_0 13 rfl rfl)
theorem dX2_selectionSort_14 : decode cX2_selectionSort 14 = .ok (.iadd, 1) := dk_96 (dk_at dksX2_selectionSort_0 14 rfl rfl)
theorem dX2_selectionSort_15 : decode cX2_selectionSort 15 = .ok (.istore 5, 2) := dk_54 5 (dk_at dksX2_selectionSort_0 15 rfl rfl)
theorem dX2_selectionSort_17 : decode cX2_selectionSort 17 = .ok (.iload 5, 2) := dk_21 5 (dk_at dksX2_selectionSort_0 17 rfl rfl)
theorem dX2_selectionSort_19 : decode cX2_selectionSort 19 = .ok (.iload_n 2, 1) := dk_28 (dk_at dksX2_selectionSort_0 19 rfl rfl)
theorem dX2_selectionSort_20 : decode cX2_selectionSort 20 = .ok (.if_icmp .ge 24, 3) := dk_162 0 24 (dk_at dksX2_selectionSort_0 20 rfl rfl)
theorem dX2_selectionSort_23 : decode cX2_selectionSort 23 = .ok (.aload_n 0, 1) := dk_42 (dk_at dksX2_selectionSort_0 23 rfl rfl)
theorem dX2_selectionSort_24 : decode cX2_selectionSort 24 = .ok (.iload 5, 2) := dk_21 5 (dk_at dksX2_selectionSort_1 0 rfl rfl)
theorem dX2_selectionSort_26 : decode cX2_selectionSort 26 = .ok (.iaload, 1) := dk_46 (dk_at dksX2_selectionSort_1 2 rfl rfl)
theorem dX2_selectionSort_27 : decode cX2_selectionSort 27 = .ok (.aload_n 0, 1) := dk_42 (dk_at dksX2_selectionSort_1 3 rfl rfl)
theorem dX2_selectionSort_28 : decode cX2_selectionSort 28 = .ok (.iload 4, 2) := dk_21 4 (dk_at dksX2_selectionSort_1 4 rfl rfl)
theorem dX2_selectionSort_30 : decode cX2_selectionSort 30 = .ok (.iaload, 1) := dk_46 (dk_at dksX2_selectionSort_1 6 rfl rfl)
theorem dX2_selectionSort_31 : decode cX2_selectionSort 31 = .ok (.if_icmp .ge 7, 3) := dk_162 0 7 (dk_at dksX2_selectionSort_1 7 rfl rfl)
theorem dX2_selectionSort_34 : decode cX2_selectionSort 34 = .ok (.iload 5, 2) := dk_21 5 (dk_at dksX2_selectionSort_1 10 rfl rfl)
theorem dX2_selectionSort_36 : decode cX2_selectionSort 36 = .ok (.istore 4, 2) := dk_54 4 (dk_at dksX2_selectionSort_1 12 rfl rfl)
theorem dX2_selectionSort_38 : decode cX2_selectionSort 38 = .ok (.iinc 5 1, 3) := dk_132 5 1 (dk_at dksX2_selectionSort_1 14 rfl rfl)
theorem dX2_selectionSort_41 : decode cX2_selectionSort 41 = .ok (.goto (-24), 3) := dk_167 255 232 (dk_at dksX2_selectionSort_1 17 rfl rfl)
theorem dX2_selectionSort_44 : decode cX2_selectionSort 44 = .ok (.iload 4, 2) := dk_21 4 (dk_at dksX2_selectionSort_1 20 rfl rfl)
theorem dX2_selectionSort_46 : decode cX2_selectionSort 46 = .ok (.iload_n 3, 1) := dk_29 (dk_at dksX2_selectionSort_1 22 rfl rfl)
theorem dX2_selectionSort_47 : decode cX2_selectionSort 47 = .ok (.if_icmp .eq 21, 3) := dk_159 0 21 (dk_at dksX2_selectionSort_2 0 rfl rfl)
theorem dX2_selectionSort_50 : decode cX2_selectionSort 50 = .ok (.aload_n 0, 1) := dk_42 (dk_at dksX2_selectionSort_2 3 rfl rfl)
theorem dX2_selectionSort_51 : decode cX2_selectionSort 51 = .ok (.iload_n 3, 1) := dk_29 (dk_at dksX2_selectionSort_2 4 rfl rfl)
theorem dX2_selectionSort_52 : decode cX2_selectionSort 52 = .ok (.iaload, 1) := dk_46 (dk_at dksX2_selectionSort_2 5 rfl rfl)
theorem dX2_selectionSort_53 : decode cX2_selectionSort 53 = .ok (.istore 5, 2) := dk_54 5 (dk_at dksX2_selectionSort_2 6 rfl rfl)
theorem dX2_selectionSort_55 : decode cX2_selectionSort 55 = .ok (.aload_n 0, 1) := dk_42 (dk_at dksX2_selectionSort_2 8 rfl rfl)
theorem dX2_selectionSort_56 : decode cX2_selectionSort 56 = .ok (.iload_n 3, 1) := dk_29 (dk_at dksX2_selectionSort_2 9 rfl rfl)
theorem dX2_selectionSort_57 : decode cX2_selectionSort 57 = .ok (.aload_n 0, 1) := dk_42 (dk_at dksX2_selectionSort_2 10 rfl rfl)
theorem dX2_selectionSort_58 : decode cX2_selectionSort 58 = .ok (.iload 4, 2) := dk_21 4 (dk_at dksX2_selectionSort_2 11 rfl rfl)
theorem dX2_selectionSort_60 : decode cX2_selectionSort 60 = .ok (.iaload, 1) := dk_46 (dk_at dksX2_selectionSort_2 13 rfl rfl)
theorem dX2_selectionSort_61 : decode cX2_selectionSort 61 = .ok (.iastore, 1) := dk_79 (dk_at dksX2_selectionSort_2 14 rfl rfl)
theorem dX2_selectionSort_62 : decode cX2_selectionSort 62 = .ok (.aload_n 0, 1) := dk_42 (dk_at dksX2_selectionSort_2 15 rfl rfl)
theorem dX2_selectionSort_63 : decode cX2_selectionSort 63 = .ok (.iload 4, 2) := dk_21 4 (dk_at dksX2_selectionSort_2 16 rfl rfl)
theorem dX2_selectionSort_65 : decode cX2_selectionSort 65 = .ok (.iload 5, 2) := dk_21 5 (dk_at dksX2_selectionSort_2 18 rfl rfl)
theorem dX2_selectionSort_67 : decode cX2_selectionSort 67 = .ok (.iastore, 1) := dk_79 (dk_at dksX2_selectionSort_2 20 rfl rfl)
theorem dX2_selectionSort_68 : decode cX2_selectionSort 68 = .ok (.iinc 3 1, 3) := dk_132 3 1 (dk_at dksX2_selectionSort_2 21 rfl rfl)
theorem dX2_selectionSort_71 : decode cX2_selectionSort 71 = .ok (.goto (-69), 3) := dk_167 255 187 (dk_at dksX2_selectionSort_3 0 rfl rfl)
theorem dX2_selectionSort_74 : decode cX2_selectionSort 74 = .ok (.return_, 1) := dk_177 (dk_at dksX2_selectionSort_3 3 rfl rfl)
abbrev cX2_med3 : ByteArray := prog_4_method_5_code
def yX2_med3 : MethodName := ⟨RX2, "med3", "([IIII)I"⟩
def dkwX2_med3_3 : List UInt8 := [158, 0, 7, 29, 167, 0, 4, 27, 172]
abbrev dktX2_med3_3 : List UInt8 := dkwX2_med3_3 ++ []
def dkwX2_med3_2 : List UInt8 := [21, 5, 156, 0, 7, 29, 167, 0, 26, 27, 167, 0, 22, 21, 6, 158, 0, 7, 28, 167, 0, 13, 21, 5]
abbrev dktX2_med3_2 : List UInt8 := dkwX2_med3_2 ++ dktX2_med3_3
def dkwX2_med3_1 : List UInt8 := [46, 42, 29, 46, 184, 0, 17, 54, 6, 21, 4, 156, 0, 25, 21, 6, 156, 0, 7, 28, 167, 0, 35]
abbrev dktX2_med3_1 : List UInt8 := dkwX2_med3_1 ++ dktX2_med3_2
def dkwX2_med3_0 : List UInt8 := [42, 27, 46, 42, 28, 46, 184, 0, 17, 54, 4, 42, 27, 46, 42, 29, 46, 184, 0, 17, 54, 5, 42, 28]
abbrev dktX2_med3_0 : List UInt8 := dkwX2_med3_0 ++ dktX2_med3_1
theorem dksX2_med3_0 : cX2_med3.data.toList.drop 0 = dktX2_med3_0 := by decide +kernel
theorem dksX2_med3_1 : cX2_med3.data.toList.drop 24 = dktX2_med3_1 := dk_seg dksX2_med3_0 24 rfl rfl
theorem dksX2_med3_2 : cX2_med3.data.toList.drop 47 = dktX2_med3_2 := dk_seg dksX2_med3_1 23 rfl rfl
theorem dksX2_med3_3 : cX2_med3.data.toList.drop 71 = dktX2_med3_3 := dk_seg dksX2_med3_2 24 rfl rfl
theorem dX2_med3_0 : decode cX2_med3 0 = .ok (.aload_n 0, 1) := dk_42 (dk_at dksX2_med3_0 0 rfl rfl)
theorem dX2_med3_1 : decode cX2_med3 1 = .ok (.iload_n 1, 1) := dk_27 (dk_at dksX2_med3_0 1 rfl rfl)
theorem dX2_med3_2 : decode cX2_med3 2 = .ok (.iaload, 1) := dk_46 (dk_at dksX2_med3_0 2 rfl rfl)
theorem dX2_med3_3 : decode cX2_med3 3 = .ok (.aload_n 0, 1) := dk_42 (dk_at dksX2_med3_0 3 rfl rfl)
theorem dX2_med3_4 : decode cX2_med3 4 = .ok (.iload_n 2, 1) := dk_28 (dk_at dksX2_med3_0 4 rfl rfl)
theorem dX2_med3_5 : decode cX2_med3 5 = .ok (.iaload, 1) := dk_46 (dk_at dksX2_med3_0 5 rfl rfl)
theorem dX2_med3_6 : decode cX2_med3 6 = .ok (.invokestatic 17, 3) := dk_184 0 17 (dk_at dksX2_med3_0 6 rfl rfl)
theorem dX2_med3_9 : decode cX2_med3 9 = .ok (.istore 4, 2) := dk_54 4 (dk_at dksX2_med3_0 9 rfl rfl)
theorem dX2_med3_11 : decode cX2_med3 11 = .ok (.aload_n 0, 1) := dk_42 (dk_at dksX2_med3_0 11 rfl rfl)
theorem dX2_med3_12 : decode cX2_med3 12 = .ok (.iload_n 1, 1) := dk_27 (dk_at dksX2_med3_0 12 rfl rfl)
theorem dX2_med3_13 : decode cX2_med3 13 = .ok (.iaload, 1) := dk_46 (dk_at dksX2_med3_0 13 rfl rfl)
theorem dX2_med3_14 : decode cX2_med3 14 = .ok (.aload_n 0, 1) := dk_42 (dk_at dksX2_med3_0 14 rfl rfl)
theorem dX2_med3_15 : decode cX2_med3 15 = .ok (.iload_n 3, 1) := dk_29 (dk_at dksX2_med3_0 15 rfl rfl)
theorem dX2_med3_16 : decode cX2_med3 16 = .ok (.iaload, 1) := dk_46 (dk_at dksX2_med3_0 16 rfl rfl)
theorem dX2_med3_17 : decode cX2_med3 17 = .ok (.invokestatic 17, 3) := dk_184 0 17 (dk_at dksX2_med3_0 17 rfl rfl)
theorem dX2_med3_20 : decode cX2_med3 20 = .ok (.istore 5, 2) := dk_54 5 (dk_at dksX2_med3_0 20 rfl rfl)
theorem dX2_med3_22 : decode cX2_med3 22 = .ok (.aload_n 0, 1) := dk_42 (dk_at dksX2_med3_0 22 rfl rfl)
theorem dX2_med3_23 : decode cX2_med3 23 = .ok (.iload_n 2, 1) := dk_28 (dk_at dksX2_med3_0 23 rfl rfl)
theorem dX2_med3_24 : decode cX2_med3 24 = .ok (.iaload, 1) := dk_46 (dk_at dksX2_med3_1 0 rfl rfl)
theorem dX2_med3_25 : decode cX2_med3 25 = .ok (.aload_n 0, 1) := dk_42 (dk_at dksX2_med3_1 1 rfl rfl)
theorem dX2_med3_26 : decode cX2_med3 26 = .ok (.iload_n 3, 1) := dk_29 (dk_at dksX2_med3_1 2 rfl rfl)
theorem dX2_med3_27 : decode cX2_med3 27 = .ok (.iaload, 1) := dk_46 (dk_at dksX2_med3_1 3 rfl rfl)
theorem dX2_med3_28 : decode cX2_med3 28 = .ok (.invokestatic 17, 3) := dk_184 0 17 (dk_at dksX2_med3_1 4 rfl rfl)
theorem dX2_med3_31 : decode cX2_med3 31 = .ok (.istore 6, 2) := dk_54 6 (dk_at dksX2_med3_1 7 rfl rfl)
theorem dX2_med3_33 : decode cX2_med3 33 = .ok (.iload 4, 2) := dk_21 4 (dk_at dksX2_med3_1 9 rfl rfl)
theorem dX2_med3_35 : decode cX2_med3 35 = .ok (.ifCond .ge 25, 3) := dk_156 0 25 (dk_at dksX2_med3_1 11 rfl rfl)
theorem dX2_med3_38 : decode cX2_med3 38 = .ok (.iload 6, 2) := dk_21 6 (dk_at dksX2_med3_1 14 rfl rfl)
theorem dX2_med3_40 : decode cX2_med3 40 = .ok (.ifCond .ge 7, 3) := dk_156 0 7 (dk_at dksX2_med3_1 16 rfl rfl)
theorem dX2_med3_43 : decode cX2_med3 43 = .ok (.iload_n 2, 1) := dk_28 (dk_at dksX2_med3_1 19 rfl rfl)
theorem dX2_med3_44 : decode cX2_med3 44 = .ok (.goto 35, 3) := dk_167 0 35 (dk_at dksX2_med3_1 20 rfl rfl)
theorem dX2_med3_47 : decode cX2_med3 47 = .ok (.iload 5, 2) := dk_21 5 (dk_at dksX2_med3_2 0 rfl rfl)
theorem dX2_med3_49 : decode cX2_med3 49 = .ok (.ifCond .ge 7, 3) := dk_156 0 7 (dk_at dksX2_med3_2 2 rfl rfl)
theorem dX2_med3_52 : decode cX2_med3 52 = .ok (.iload_n 3, 1) := dk_29 (dk_at dksX2_med3_2 5 rfl rfl)
theorem dX2_med3_53 : decode cX2_med3 53 = .ok (.goto 26, 3) := dk_167 0 26 (dk_at dksX2_med3_2 6 rfl rfl)
theorem dX2_med3_56 : decode cX2_med3 56 = .ok (.iload_n 1, 1) := dk_27 (dk_at dksX2_med3_2 9 rfl rfl)
theorem dX2_med3_57 : decode cX2_med3 57 = .ok (.goto 22, 3) := dk_167 0 22 (dk_at dksX2_med3_2 10 rfl rfl)
theorem dX2_med3_60 : decode cX2_med3 60 = .ok (.iload 6, 2) := dk_21 6 (dk_at dksX2_med3_2 13 rfl rfl)
theorem dX2_med3_62 : decode cX2_med3 62 = .ok (.ifCond .le 7, 3) := dk_158 0 7 (dk_at dksX2_med3_2 15 rfl rfl)
theorem dX2_med3_65 : decode cX2_med3 65 = .ok (.iload_n 2, 1) := dk_28 (dk_at dksX2_med3_2 18 rfl rfl)
theorem dX2_med3_66 : decode cX2_med3 66 = .ok (.goto 13, 3) := dk_167 0 13 (dk_at dksX2_med3_2 19 rfl rfl)
theorem dX2_med3_69 : decode cX2_med3 69 = .ok (.iload 5, 2) := dk_21 5 (dk_at dksX2_med3_2 22 rfl rfl)
theorem dX2_med3_71 : decode cX2_med3 71 = .ok (.ifCond .le 7, 3) := dk_158 0 7 (dk_at dksX2_med3_3 0 rfl rfl)
theorem dX2_med3_74 : decode cX2_med3 74 = .ok (.iload_n 3, 1) := dk_29 (dk_at dksX2_med3_3 3 rfl rfl)
theorem dX2_med3_75 : decode cX2_med3 75 = .ok (.goto 4, 3) := dk_167 0 4 (dk_at dksX2_med3_3 4 rfl rfl)
theorem dX2_med3_78 : decode cX2_med3 78 = .ok (.iload_n 1, 1) := dk_27 (dk_at dksX2_med3_3 7 rfl rfl)
theorem dX2_med3_79 : decode cX2_med3 79 = .ok (.ireturn, 1) := dk_172 (dk_at dksX2_med3_3 8 rfl rfl)
theorem q7 : (Jvm.Cond.initialized "IntArrays") ∈ lw_all := lw_g (lw_at lw_m0 3 rfl) rfl
theorem q67 : (Jvm.Cond.static ({ cls := "IntArrays", name := "radixSortIndirect", desc := "([I[IIIZ)V" } : Jvm.MethodName)) ∈ lw_all := lw_g (lw_at lw_m0 63 rfl) rfl
theorem q68 : (Jvm.Cond.code ({ cls := "IntArrays", name := "radixSortIndirect", desc := "([I[IIIZ)V" } : Jvm.MethodName) prog_4_method_16_code (24 : Nat) (Option.none : Option Jvm.ClassFile.FieldType)) ∈ lw_all := lw_g (lw_at lw_m0 64 rfl) rfl
theorem q69 : (Jvm.Cond.methodLink "IntArrays" (47 : Nat) ({ cls := "IntArrays", name := "quickSortIndirect", desc := "([I[III)V" } : Jvm.MethodName)) ∈ lw_all := lw_g (lw_at lw_m0 65 rfl) rfl
theorem q70 : (Jvm.Cond.static ({ cls := "IntArrays", name := "quickSortIndirect", desc := "([I[III)V" } : Jvm.MethodName)) ∈ lw_all := lw_g (lw_at lw_m0 66 rfl) rfl
theorem q71 : (Jvm.Cond.code ({ cls := "IntArrays", name := "quickSortIndirect", desc := "([I[III)V" } : Jvm.MethodName) prog_4_method_12_code (14 : Nat) (Option.none : Option Jvm.ClassFile.FieldType)) ∈ lw_all := lw_g (lw_at lw_m0 67 rfl) rfl
theorem q72 : (Jvm.Cond.methodLink "IntArrays" (39 : Nat) ({ cls := "IntArrays", name := "insertionSortIndirect", desc := "([I[III)V" } : Jvm.MethodName)) ∈ lw_all := lw_g (lw_at lw_m0 68 rfl) rfl
theorem q73 : (Jvm.Cond.static ({ cls := "IntArrays", name := "insertionSortIndirect", desc := "([I[III)V" } : Jvm.MethodName)) ∈ lw_all := lw_g (lw_at lw_m0 69 rfl) rfl
theorem q74 : (Jvm.Cond.code ({ cls := "IntArrays", name := "insertionSortIndirect", desc := "([I[III)V" } : Jvm.MethodName) prog_4_method_11_code (8 : Nat) (Option.none : Option Jvm.ClassFile.FieldType)) ∈ lw_all := lw_g (lw_at lw_m0 70 rfl) rfl
theorem q75 : (Jvm.Cond.methodLink "IntArrays" (43 : Nat) ({ cls := "IntArrays", name := "med3Indirect", desc := "([I[IIII)I" } : Jvm.MethodName)) ∈ lw_all := lw_g (lw_at lw_m0 71 rfl) rfl
theorem q76 : (Jvm.Cond.static ({ cls := "IntArrays", name := "med3Indirect", desc := "([I[IIII)I" } : Jvm.MethodName)) ∈ lw_all := lw_g (lw_at lw_m0 72 rfl) rfl
theorem q77 : (Jvm.Cond.code ({ cls := "IntArrays", name := "med3Indirect", desc := "([I[IIII)I" } : Jvm.MethodName) prog_4_method_10_code (11 : Nat) (Option.some Jvm.ClassFile.FieldType.int)) ∈ lw_all := lw_g (lw_at lw_m0 73 rfl) rfl
theorem q78 : (Jvm.Cond.methodLink "IntArrays" (17 : Nat) ({ cls := "java/lang/Integer", name := "compare", desc := "(II)I" } : Jvm.MethodName)) ∈ lw_all := lw_g (lw_at lw_m0 74 rfl) rfl
theorem q81 : (Jvm.Cond.methodLink "IntArrays" (5 : Nat) ({ cls := "IntArrays", name := "swap", desc := "([III)V" } : Jvm.MethodName)) ∈ lw_all := lw_g (lw_at lw_m0 77 rfl) rfl
theorem q82 : (Jvm.Cond.static ({ cls := "IntArrays", name := "swap", desc := "([III)V" } : Jvm.MethodName)) ∈ lw_all := lw_g (lw_at lw_m0 78 rfl) rfl
theorem q83 : (Jvm.Cond.code ({ cls := "IntArrays", name := "swap", desc := "([III)V" } : Jvm.MethodName) prog_4_method_1_code (4 : Nat) (Option.none : Option Jvm.ClassFile.FieldType)) ∈ lw_all := lw_g (lw_at lw_m0 79 rfl) rfl
theorem q84 : (Jvm.Cond.methodLink "IntArrays" (28 : Nat) ({ cls := "java/lang/Math", name := "min", desc := "(II)I" } : Jvm.MethodName)) ∈ lw_all := lw_g (lw_at lw_m0 80 rfl) rfl
theorem q87 : (Jvm.Cond.methodLink "IntArrays" (33 : Nat) ({ cls := "IntArrays", name := "swap", desc := "([IIII)V" } : Jvm.MethodName)) ∈ lw_all := lw_g (lw_at lw_m0 83 rfl) rfl
theorem q88 : (Jvm.Cond.static ({ cls := "IntArrays", name := "swap", desc := "([IIII)V" } : Jvm.MethodName)) ∈ lw_all := lw_g (lw_at lw_m0 84 rfl) rfl
theorem q89 : (Jvm.Cond.code ({ cls := "IntArrays", name := "swap", desc := "([IIII)V" } : Jvm.MethodName) prog_4_method_2_code (5 : Nat) (Option.none : Option Jvm.ClassFile.FieldType)) ∈ lw_all := lw_g (lw_at lw_m0 85 rfl) rfl
theorem q90 : (Jvm.Cond.methodLink "IntArrays" (53 : Nat) ({ cls := "IntArrays", name := "stabilize", desc := "([I[III)V" } : Jvm.MethodName)) ∈ lw_all := lw_g (lw_at lw_m0 86 rfl) rfl
theorem q91 : (Jvm.Cond.static ({ cls := "IntArrays", name := "stabilize", desc := "([I[III)V" } : Jvm.MethodName)) ∈ lw_all := lw_g (lw_at lw_m0 87 rfl) rfl
theorem q92 : (Jvm.Cond.code ({ cls := "IntArrays", name := "stabilize", desc := "([I[III)V" } : Jvm.MethodName) prog_4_method_13_code (6 : Nat) (Option.none : Option Jvm.ClassFile.FieldType)) ∈ lw_all := lw_g (lw_at lw_m0 88 rfl) rfl
theorem q93 : (Jvm.Cond.methodLink "IntArrays" (50 : Nat) ({ cls := "IntArrays", name := "parallelQuickSort", desc := "([III)V" } : Jvm.MethodName)) ∈ lw_all := lw_g (lw_at lw_m0 89 rfl) rfl
theorem q94 : (Jvm.Cond.static ({ cls := "IntArrays", name := "parallelQuickSort", desc := "([III)V" } : Jvm.MethodName)) ∈ lw_all := lw_g (lw_at lw_m0 90 rfl) rfl
theorem q95 : (Jvm.Cond.code ({ cls := "IntArrays", name := "parallelQuickSort", desc := "([III)V" } : Jvm.MethodName) prog_4_method_9_code (3 : Nat) (Option.none : Option Jvm.ClassFile.FieldType)) ∈ lw_all := lw_g (lw_at lw_m0 91 rfl) rfl
theorem q96 : (Jvm.Cond.methodLink "IntArrays" (36 : Nat) ({ cls := "IntArrays", name := "quickSort", desc := "([III)V" } : Jvm.MethodName)) ∈ lw_all := lw_g (lw_at lw_m0 92 rfl) rfl
theorem q97 : (Jvm.Cond.static ({ cls := "IntArrays", name := "quickSort", desc := "([III)V" } : Jvm.MethodName)) ∈ lw_all := lw_g (lw_at lw_m0 93 rfl) rfl
theorem q98 : (Jvm.Cond.code ({ cls := "IntArrays", name := "quickSort", desc := "([III)V" } : Jvm.MethodName) prog_4_method_7_code (13 : Nat) (Option.none : Option Jvm.ClassFile.FieldType)) ∈ lw_all := lw_g (lw_at lw_m0 94 rfl) rfl
theorem q99 : (Jvm.Cond.methodLink "IntArrays" (21 : Nat) ({ cls := "IntArrays", name := "selectionSort", desc := "([III)V" } : Jvm.MethodName)) ∈ lw_all := lw_g (lw_at lw_m0 95 rfl) rfl
theorem q100 : (Jvm.Cond.static ({ cls := "IntArrays", name := "selectionSort", desc := "([III)V" } : Jvm.MethodName)) ∈ lw_all := lw_g (lw_at lw_m0 96 rfl) rfl
theorem q101 : (Jvm.Cond.code ({ cls := "IntArrays", name := "selectionSort", desc := "([III)V" } : Jvm.MethodName) prog_4_method_6_code (6 : Nat) (Option.none : Option Jvm.ClassFile.FieldType)) ∈ lw_all := lw_g (lw_at lw_m0 97 rfl) rfl
theorem q102 : (Jvm.Cond.methodLink "IntArrays" (24 : Nat) ({ cls := "IntArrays", name := "med3", desc := "([IIII)I" } : Jvm.MethodName)) ∈ lw_all := lw_g (lw_at lw_m0 98 rfl) rfl
theorem q103 : (Jvm.Cond.static ({ cls := "IntArrays", name := "med3", desc := "([IIII)I" } : Jvm.MethodName)) ∈ lw_all := lw_g (lw_at lw_m0 99 rfl) rfl
theorem q104 : (Jvm.Cond.code ({ cls := "IntArrays", name := "med3", desc := "([IIII)I" } : Jvm.MethodName) prog_4_method_5_code (7 : Nat) (Option.some Jvm.ClassFile.FieldType.int)) ∈ lw_all := lw_g (lw_at lw_m0 100 rfl) rfl
theorem q105 : (Jvm.Cond.methodLink "IntArrays" (56 : Nat) ({ cls := "java/lang/System", name := "arraycopy", desc := "(Ljava/lang/Object;ILjava/lang/Object;II)V" } : Jvm.MethodName)) ∈ lw_all := lw_g (lw_at lw_m0 101 rfl) rfl
theorem q108 : (Jvm.Cond.methodLink "IntArrays" (62 : Nat) ({ cls := "java/util/Arrays", name := "fill", desc := "([II)V" } : Jvm.MethodName)) ∈ lw_all := lw_g (lw_at lw_m0 104 rfl) rfl
end
section
/-! PLAIN LAW of the sorts, no program in sight: an array is a function of its places; a move within a range is a swap; 'is_R lo hi f g': g comes from f by swaps within [lo, hi) -/
def is_sw (f : Nat → Int32) (a b : Nat) : Nat → Int32 := upd (upd f a (f b)) b (f a)
theorem is_sw_at (f : Nat → Int32) (a b q : Nat) : is_sw f a b q = if q = b then f a else if q = a then f b else f q := rfl
def is_R (lo hi : Nat) (f g : Nat → Int32) : Prop := ∀ P : (Nat → Int32) → Prop, P f → (∀ h a b, lo ≤ a → a < hi → lo ≤ b → b < hi → P h → P (is_sw h a b)) → P g
theorem is_R_rf {lo hi : Nat} {f : Nat → Int32} : is_R lo hi f f := fun _ h _ => h
theorem is_R_tr {lo hi : Nat} {f g k : Nat → Int32} (h1 : is_R lo hi f g) (h2 : is_R lo hi g k) : is_R lo hi f k := fun P hf hs => h2 P (h1 P hf hs) hs
theorem is_R_st {lo hi a b : Nat} {f g : Nat → Int32} (h : is_R lo hi f g) (ha : lo ≤ a) (ha2 : a < hi) (hb : lo ≤ b) (hb2 : b < hi) : is_R lo hi f (is_sw g a b) := fun P hf hs => hs g a b ha ha2 hb hb2 (h P hf hs)
theorem is_R_mo {lo hi lo2 hi2 : Nat} {f g : Nat → Int32} (h : is_R lo hi f g) (h1 : lo2 ≤ lo) (h2 : hi ≤ hi2) : is_R lo2 hi2 f g := fun P hf hs => h P hf (fun k a b x1 x2 x3 x4 hk => hs k a b (Nat.le_trans h1 x1) (Nat.lt_of_lt_of_le x2 h2) (Nat.le_trans h1 x3) (Nat.lt_of_lt_of_le x4 h2) hk)
theorem is_R_out {lo hi : Nat} {f g : Nat → Int32} (h : is_R lo hi f g) : ∀ q, (q < lo ∨ hi ≤ q) → g q = f q := by
  refine h (fun k => ∀ q, (q < lo ∨ hi ≤ q) → k q = f q) (fun _ _ => rfl) ?_
  intro k a b h1 h2 h3 h4 hk q hq
  show is_sw k a b q = f q
  rw [is_sw_at, if_neg (by omega), if_neg (by omega)]
  exact hk q hq
theorem is_R_fr {lo hi : Nat} {f g : Nat → Int32} (h : is_R lo hi f g) : ∀ q, lo ≤ q → q < hi → ∃ r, lo ≤ r ∧ r < hi ∧ g q = f r := by
  refine h (fun k => ∀ q, lo ≤ q → q < hi → ∃ r, lo ≤ r ∧ r < hi ∧ k q = f r) (fun q h1 h2 => ⟨q, h1, h2, rfl⟩) ?_
  intro k a b h1 h2 h3 h4 hk q hq hq2
  show ∃ r, lo ≤ r ∧ r < hi ∧ is_sw k a b q = f r
  rw [is_sw_at]
  by_cases e1 : q = b
  · rw [if_pos e1]
    exact hk a h1 h2
  · rw [if_neg e1]
    by_cases e2 : q = a
    · rw [if_pos e2]
      exact hk b h3 h4
    · rw [if_neg e2]
      exact hk q hq hq2
theorem is_R_on {lo hi : Nat} {f g : Nat → Int32} (h : is_R lo hi f g) : ∀ q, lo ≤ q → q < hi → ∃ r, lo ≤ r ∧ r < hi ∧ g r = f q := by
  refine h (fun k => ∀ q, lo ≤ q → q < hi → ∃ r, lo ≤ r ∧ r < hi ∧ k r = f q) (fun q h1 h2 => ⟨q, h1, h2, rfl⟩) ?_
  intro k a b h1 h2 h3 h4 hk q hq hq2
  show ∃ r, lo ≤ r ∧ r < hi ∧ is_sw k a b r = f q
  obtain ⟨r, r1, r2, r3⟩ := hk q hq hq2
  by_cases e1 : r = a
  · refine ⟨b, h3, h4, ?_⟩
    rw [is_sw_at, if_pos rfl, ← e1]
    exact r3
  · by_cases e2 : r = b
    · refine ⟨a, h1, h2, ?_⟩
      rw [is_sw_at]
      by_cases e3 : a = b
      · exact absurd (e2.trans e3.symm) e1
      · rw [if_neg e3, if_pos rfl, ← e2]
        exact r3
    · refine ⟨r, r1, r2, ?_⟩
      rw [is_sw_at, if_neg e2, if_neg e1]
      exact r3
theorem is_R_inj {lo hi : Nat} {f g : Nat → Int32} (h : is_R lo hi f g) (hf : ∀ q r, lo ≤ q → q < hi → lo ≤ r → r < hi → f q = f r → q = r) : ∀ q r, lo ≤ q → q < hi → lo ≤ r → r < hi → g q = g r → q = r := by
  refine h (fun k => ∀ q r, lo ≤ q → q < hi → lo ≤ r → r < hi → k q = k r → q = r) hf ?_
  intro k a b h1 h2 h3 h4 hk q r q1 q2 r1 r2 e
  have e : is_sw k a b q = is_sw k a b r := e
  rw [is_sw_at, is_sw_at] at e
  by_cases c1 : q = b
  · rw [if_pos c1] at e
    by_cases c2 : r = b
    · rw [c1, c2]
    · rw [if_neg c2] at e
      by_cases c3 : r = a
      · rw [if_pos c3] at e
        have := hk a b h1 h2 h3 h4 e
        omega
      · rw [if_neg c3] at e
        have := hk a r h1 h2 r1 r2 e
        omega
  · rw [if_neg c1] at e
    by_cases c4 : q = a
    · rw [if_pos c4] at e
      by_cases c2 : r = b
      · rw [if_pos c2] at e
        have := hk b a h3 h4 h1 h2 e
        omega
      · rw [if_neg c2] at e
        by_cases c3 : r = a
        · omega
        · rw [if_neg c3] at e
          have := hk b r h3 h4 r1 r2 e
          omega
    · rw [if_neg c4] at e
      by_cases c2 : r = b
      · rw [if_pos c2] at e
        have := hk q a q1 q2 h1 h2 e
        omega
      · rw [if_neg c2] at e
        by_cases c3 : r = a
        · rw [if_pos c3] at e
          have := hk q b q1 q2 h3 h4 e
          omega
        · rw [if_neg c3] at e
          exact hk q r q1 q2 r1 r2 e
/-- what holds of every value of the range stays -/
theorem is_R_all {lo hi : Nat} {f g : Nat → Int32} (h : is_R lo hi f g) {p : Int32 → Prop} (hf : ∀ q, lo ≤ q → q < hi → p (f q)) : ∀ q, lo ≤ q → q < hi → p (g q) := by
  intro q h1 h2
  obtain ⟨r, r1, r2, r3⟩ := is_R_fr h q h1 h2
  rw [r3]
  exact hf r r1 r2
/-- what holds of every value of a greater range stays -/
theorem is_R_all2 {lo hi lo2 hi2 : Nat} {f g : Nat → Int32} (h : is_R lo hi f g) (h1 : lo2 ≤ lo) (h2 : hi ≤ hi2) {p : Int32 → Prop} (hf : ∀ q, lo2 ≤ q → q < hi2 → p (f q)) : ∀ q, lo2 ≤ q → q < hi2 → p (g q) := is_R_all (is_R_mo h h1 h2) hf
/-- sorted by the key K on [lo, hi) -/
def is_S (K : Int32 → Int) (f : Nat → Int32) (lo hi : Nat) : Prop := ∀ q r, lo ≤ q → q < r → r < hi → K (f q) ≤ K (f r)
theorem is_S_1 {K : Int32 → Int} {f : Nat → Int32} {lo hi : Nat} (h : hi ≤ lo + 1) : is_S K f lo hi := fun q r h1 h2 h3 => by omega
theorem is_upd_self (f : Nat → Int32) (k : Nat) : upd f k (f k) = f := by
  funext q
  unfold upd
  by_cases h : q = k
  · rw [if_pos h, h]
  · rw [if_neg h]
theorem is_upd_at (f : Nat → Int32) (k : Nat) (x : Int32) (q : Nat) : upd f k x q = if q = k then x else f q := rfl
/-! insertion: t is out of the row, its place is j -/
def is_I (K : Int32 → Int) (f0 h : Nat → Int32) (t : Int32) (lo hi i j : Nat) : Prop := is_R lo hi f0 (upd h j t) ∧ (∀ q r, lo ≤ q → q < r → r ≤ i → q ≠ j → r ≠ j → K (h q) ≤ K (h r)) ∧ (∀ r, j < r → r ≤ i → K t < K (h r))
theorem is_I_0 {K : Int32 → Int} {f0 f : Nat → Int32} {lo hi i : Nat} (h : is_R lo hi f0 f) (hs : is_S K f lo i) : is_I K f0 f (f i) lo hi i i := by
  refine ⟨by rw [is_upd_self]; exact h, fun q r h1 h2 h3 h4 h5 => hs q r h1 h2 (by omega), fun r h1 h2 => by omega⟩
theorem is_I_st {K : Int32 → Int} {f0 h : Nat → Int32} {t : Int32} {lo hi i j : Nat} (hI : is_I K f0 h t lo hi i j) (h1 : lo < j) (h2 : j ≤ i) (h3 : i < hi) (hk : K t < K (h (j - 1))) : is_I K f0 (upd h j (h (j - 1))) t lo hi i (j - 1) := by
  obtain ⟨a1, a2, a3⟩ := hI
  have ne : j - 1 ≠ j := by omega
  refine ⟨?_, ?_, ?_⟩
  · have e : upd (upd h j (h (j - 1))) (j - 1) t = is_sw (upd h j t) (j - 1) j := by
      funext q
      rw [is_sw_at, is_upd_at, is_upd_at, is_upd_at, is_upd_at, is_upd_at]
      by_cases c1 : q = j - 1
      · rw [if_pos c1, if_neg (show ¬ q = j by omega), if_pos c1, if_pos rfl]
      · rw [if_neg c1]
        by_cases c2 : q = j
        · rw [if_pos c2, if_pos c2, if_neg ne]
        · rw [if_neg c2, if_neg c2, if_neg c1, if_neg c2]
    rw [e]
    exact is_R_st a1 (by omega) (by omega) (by omega) (by omega)
  · intro q r q1 q2 q3 q4 q5
    rw [is_upd_at, is_upd_at]
    by_cases c1 : q = j
    · rw [if_pos c1, if_neg (show ¬ r = j by omega)]
      exact a2 (j - 1) r (by omega) (by omega) q3 (by omega) (by omega)
    · rw [if_neg c1]
      by_cases c2 : r = j
      · rw [if_pos c2]
        exact a2 q (j - 1) q1 (by omega) (by omega) c1 ne
      · rw [if_neg c2]
        exact a2 q r q1 q2 q3 c1 c2
  · intro r r1 r2
    rw [is_upd_at]
    by_cases c2 : r = j
    · rw [if_pos c2]
      exact hk
    · rw [if_neg c2]
      exact a3 r (by omega) r2
theorem is_I_end {K : Int32 → Int} {f0 h : Nat → Int32} {t : Int32} {lo hi i j : Nat} (hI : is_I K f0 h t lo hi i j) (h1 : lo ≤ j) (h2 : j ≤ i) (hk : j = lo ∨ K (h (j - 1)) ≤ K t) : is_R lo hi f0 (upd h j t) ∧ is_S K (upd h j t) lo (i + 1) := by
  obtain ⟨a1, a2, a3⟩ := hI
  refine ⟨a1, ?_⟩
  intro q r q1 q2 q3
  rw [is_upd_at, is_upd_at]
  by_cases c1 : q = j
  · rw [if_pos c1, if_neg (show ¬ r = j by omega)]
    exact Int.le_of_lt (a3 r (by omega) (by omega))
  · rw [if_neg c1]
    by_cases c2 : r = j
    · rw [if_pos c2]
      rcases hk with e | e
      · omega
      · by_cases c3 : q = j - 1
        · rw [c3]
          exact e
        · exact Int.le_trans (a2 q (j - 1) q1 (by omega) (by omega) c1 (by omega)) e
    · rw [if_neg c2]
      exact a2 q r q1 q2 (by omega) c1 c2
/-! selection: the first ones are the least -/
def is_T (K : Int32 → Int) (f : Nat → Int32) (lo i hi : Nat) : Prop := ∀ q r, lo ≤ q → q < i → q < r → r < hi → K (f q) ≤ K (f r)
theorem is_T_0 {K : Int32 → Int} {f : Nat → Int32} {lo hi : Nat} : is_T K f lo lo hi := fun q r h1 h2 => by omega
theorem is_T_st {K : Int32 → Int} {f : Nat → Int32} {lo i hi m : Nat} (h : is_T K f lo i hi) (h1 : lo ≤ i) (h2 : i ≤ m) (h3 : m < hi) (hm : ∀ q, i ≤ q → q < hi → K (f m) ≤ K (f q)) : is_T K (is_sw f i m) lo (i + 1) hi := by
  intro q r q1 q2 q3 q4
  rw [is_sw_at, is_sw_at]
  by_cases c1 : q = i
  · have e : (if q = m then f i else if q = i then f m else f q) = f m := by
      by_cases c2 : q = m
      · rw [if_pos c2, ← c2, c1]
      · rw [if_neg c2, if_pos c1]
    rw [e]
    by_cases c2 : r = m
    · rw [if_pos c2]
      exact hm i (Nat.le_refl i) (by omega)
    · rw [if_neg c2, if_neg (show ¬ r = i by omega)]
      exact hm r (by omega) q4
  · rw [if_neg (show ¬ q = m by omega), if_neg c1]
    by_cases c2 : r = m
    · rw [if_pos c2]
      exact h q i q1 (by omega) (by omega) (by omega)
    · rw [if_neg c2]
      by_cases c3 : r = i
      · rw [if_pos c3]
        exact h q m q1 (by omega) (by omega) h3
      · rw [if_neg c3]
        exact h q r q1 (by omega) q3 q4
theorem is_T_same {K : Int32 → Int} {f : Nat → Int32} {lo i hi : Nat} (h : is_T K f lo i hi) (h1 : lo ≤ i) (hm : ∀ q, i ≤ q → q < hi → K (f i) ≤ K (f q)) : is_T K f lo (i + 1) hi := by
  intro q r q1 q2 q3 q4
  by_cases c1 : q = i
  · rw [c1]
    exact hm r (by omega) q4
  · exact h q r q1 (by omega) q3 q4
theorem is_T_S {K : Int32 → Int} {f : Nat → Int32} {lo i hi : Nat} (h : is_T K f lo i hi) (h1 : hi ≤ i + 1) : is_S K f lo hi := fun q r q1 q2 q3 => h q r q1 (by omega) q2 q3
/-! partition in four: like v, less, (open), greater, like v -/
def is_P (K : Int32 → Int) (v : Int) (f0 f : Nat → Int32) (lo hi a b c d : Nat) : Prop := is_R lo hi f0 f ∧ (lo ≤ a ∧ a ≤ b ∧ b ≤ c ∧ c ≤ d ∧ d ≤ hi) ∧ (∀ q, lo ≤ q → q < a → K (f q) = v) ∧ (∀ q, a ≤ q → q < b → K (f q) < v) ∧ (∀ q, c ≤ q → q < d → v < K (f q)) ∧ (∀ q, d ≤ q → q < hi → K (f q) = v)
theorem is_P_0 {K : Int32 → Int} {v : Int} {f0 : Nat → Int32} {lo hi : Nat} (h : lo ≤ hi) : is_P K v f0 f0 lo hi lo lo hi hi := ⟨is_R_rf, ⟨Nat.le_refl _, Nat.le_refl _, h, Nat.le_refl _, Nat.le_refl _⟩, fun q h1 h2 => by omega, fun q h1 h2 => by omega, fun q h1 h2 => by omega, fun q h1 h2 => by omega⟩
theorem is_P_eqb {K : Int32 → Int} {v : Int} {f0 f : Nat → Int32} {lo hi a b c d : Nat} (h : is_P K v f0 f lo hi a b c d) (h1 : b < c) (hk : K (f b) = v) : is_P K v f0 (is_sw f a b) lo hi (a + 1) (b + 1) c d := by
  obtain ⟨e0, ⟨e1, e2, e3, e4, e5⟩, e6, e7, e8, e9⟩ := h
  refine ⟨is_R_st e0 e1 (by omega) (by omega) (by omega), ⟨by omega, by omega, by omega, by omega, by omega⟩, ?_, ?_, ?_, ?_⟩
  · intro q q1 q2
    rw [is_sw_at]
    by_cases c1 : q = b
    · rw [if_pos c1]
      have : a = b := by omega
      rw [this]
      exact hk
    · rw [if_neg c1]
      by_cases c2 : q = a
      · rw [if_pos c2]
        exact hk
      · rw [if_neg c2]
        exact e6 q q1 (by omega)
  · intro q q1 q2
    rw [is_sw_at]
    by_cases c1 : q = b
    · rw [if_pos c1]
      exact e7 a (Nat.le_refl a) (by omega)
    · rw [if_neg c1, if_neg (by omega)]
      exact e7 q (by omega) (by omega)
  · intro q q1 q2
    rw [is_sw_at, if_neg (by omega), if_neg (by omega)]
    exact e8 q q1 q2
  · intro q q1 q2
    rw [is_sw_at, if_neg (by omega), if_neg (by omega)]
    exact e9 q q1 q2
theorem is_P_ltb {K : Int32 → Int} {v : Int} {f0 f : Nat → Int32} {lo hi a b c d : Nat} (h : is_P K v f0 f lo hi a b c d) (h1 : b < c) (hk : K (f b) < v) : is_P K v f0 f lo hi a (b + 1) c d := by
  obtain ⟨e0, ⟨e1, e2, e3, e4, e5⟩, e6, e7, e8, e9⟩ := h
  refine ⟨e0, ⟨by omega, by omega, by omega, by omega, by omega⟩, e6, ?_, e8, e9⟩
  intro q q1 q2
  by_cases c1 : q = b
  · rw [c1]
    exact hk
  · exact e7 q q1 (by omega)
theorem is_P_eqc {K : Int32 → Int} {v : Int} {f0 f : Nat → Int32} {lo hi a b c d : Nat} (h : is_P K v f0 f lo hi a b (c + 1) (d + 1)) (h1 : b ≤ c) (hk : K (f c) = v) : is_P K v f0 (is_sw f c d) lo hi a b c d := by
  obtain ⟨e0, ⟨e1, e2, e3, e4, e5⟩, e6, e7, e8, e9⟩ := h
  refine ⟨is_R_st e0 (by omega) (by omega) (by omega) (by omega), ⟨by omega, by omega, by omega, by omega, by omega⟩, ?_, ?_, ?_, ?_⟩
  · intro q q1 q2
    rw [is_sw_at, if_neg (by omega), if_neg (by omega)]
    exact e6 q q1 q2
  · intro q q1 q2
    rw [is_sw_at, if_neg (by omega), if_neg (by omega)]
    exact e7 q q1 q2
  · intro q q1 q2
    rw [is_sw_at, if_neg (by omega)]
    by_cases c2 : q = c
    · rw [if_pos c2]
      exact e8 d (by omega) (by omega)
    · rw [if_neg c2]
      exact e8 q (by omega) (by omega)
  · intro q q1 q2
    rw [is_sw_at]
    by_cases c1 : q = d
    · rw [if_pos c1]
      exact hk
    · rw [if_neg c1, if_neg (by omega)]
      exact e9 q (by omega) q2
theorem is_P_gtc {K : Int32 → Int} {v : Int} {f0 f : Nat → Int32} {lo hi a b c d : Nat} (h : is_P K v f0 f lo hi a b (c + 1) d) (h1 : b ≤ c) (hk : v < K (f c)) : is_P K v f0 f lo hi a b c d := by
  obtain ⟨e0, ⟨e1, e2, e3, e4, e5⟩, e6, e7, e8, e9⟩ := h
  refine ⟨e0, ⟨by omega, by omega, by omega, by omega, by omega⟩, e6, e7, ?_, e9⟩
  intro q q1 q2
  by_cases c1 : q = c
  · rw [c1]
    exact hk
  · exact e8 q (by omega) q2
theorem is_P_x {K : Int32 → Int} {v : Int} {f0 f : Nat → Int32} {lo hi a b c d : Nat} (h : is_P K v f0 f lo hi a b (c + 1) d) (h1 : b ≤ c) (hk : v < K (f b)) (hk2 : K (f c) < v) : b < c ∧ is_P K v f0 (is_sw f b c) lo hi a (b + 1) c d := by
  obtain ⟨e0, ⟨e1, e2, e3, e4, e5⟩, e6, e7, e8, e9⟩ := h
  have hne : b ≠ c := by
    intro e
    rw [e] at hk
    omega
  refine ⟨by omega, is_R_st e0 (by omega) (by omega) (by omega) (by omega), ⟨by omega, by omega, by omega, by omega, by omega⟩, ?_, ?_, ?_, ?_⟩
  · intro q q1 q2
    rw [is_sw_at, if_neg (by omega), if_neg (by omega)]
    exact e6 q q1 q2
  · intro q q1 q2
    rw [is_sw_at, if_neg (by omega)]
    by_cases c2 : q = b
    · rw [if_pos c2]
      exact hk2
    · rw [if_neg c2]
      exact e7 q q1 (by omega)
  · intro q q1 q2
    rw [is_sw_at]
    by_cases c1 : q = c
    · rw [if_pos c1]
      exact hk
    · rw [if_neg c1, if_neg (by omega)]
      exact e8 q (by omega) q2
  · intro q q1 q2
    rw [is_sw_at, if_neg (by omega), if_neg (by omega)]
    exact e9 q q1 q2
/-! two blocks of n change places -/
def is_B (f : Nat → Int32) (a b n : Nat) : Nat → Int32 := fun q => if a ≤ q ∧ q < a + n then f (q - a + b) else if b ≤ q ∧ q < b + n then f (q - b + a) else f q
theorem is_B_0 (f : Nat → Int32) (a b : Nat) : is_B f a b 0 = f := by
  funext q
  unfold is_B
  rw [if_neg (by omega), if_neg (by omega)]
theorem is_B_st (f : Nat → Int32) {a b n i : Nat} (h : a + n ≤ b) (hi : i < n) : is_sw (is_B f a b i) (a + i) (b + i) = is_B f a b (i + 1) := by
  funext q
  rw [is_sw_at]
  unfold is_B
  by_cases c1 : q = b + i
  · rw [if_pos c1, if_neg (by omega), if_neg (by omega), if_neg (by omega), if_pos (by omega)]
    congr 1
    omega
  · rw [if_neg c1]
    by_cases c2 : q = a + i
    · rw [if_pos c2, if_neg (by omega), if_neg (by omega), if_pos (by omega)]
      congr 1
      omega
    · rw [if_neg c2]
      by_cases c3 : a ≤ q ∧ q < a + i
      · rw [if_pos c3, if_pos (by omega)]
      · rw [if_neg c3, if_neg (show ¬ (a ≤ q ∧ q < a + (i + 1)) by omega)]
        by_cases c4 : b ≤ q ∧ q < b + i
        · rw [if_pos c4, if_pos (by omega)]
        · rw [if_neg c4, if_neg (by omega)]
theorem is_B_R (f : Nat → Int32) {a b n lo hi : Nat} (h : a + n ≤ b) (h1 : lo ≤ a) (h2 : b + n ≤ hi) : ∀ i, i ≤ n → is_R lo hi f (is_B f a b i) := by
  intro i
  induction i with
  | zero =>
    intro _
    rw [is_B_0]
    exact is_R_rf
  | succ i ih =>
    intro hi2
    rw [← is_B_st f h (by omega)]
    exact is_R_st (ih (by omega)) (by omega) (by omega) (by omega) (by omega)
/-- the partition's end: the two like parts go to the middle -/
theorem is_fin {K : Int32 → Int} {v : Int} {f0 f : Nat → Int32} {lo hi a b c d s1 s2 : Nat} (h : is_P K v f0 f lo hi a b c d) (hbc : b = c) (h1 : s1 ≤ a - lo) (h2 : s1 ≤ b - a) (h3 : s1 = a - lo ∨ s1 = b - a) (h4 : s2 ≤ d - c) (h5 : s2 ≤ hi - d) (h6 : s2 = d - c ∨ s2 = hi - d) :
    is_R lo hi f0 (is_B (is_B f lo (b - s1) s1) b (hi - s2) s2) ∧ (∀ q, lo ≤ q → q < lo + (b - a) → K (is_B (is_B f lo (b - s1) s1) b (hi - s2) s2 q) < v) ∧ (∀ q, lo + (b - a) ≤ q → q < hi - (d - c) → K (is_B (is_B f lo (b - s1) s1) b (hi - s2) s2 q) = v) ∧ (∀ q, hi - (d - c) ≤ q → q < hi → v < K (is_B (is_B f lo (b - s1) s1) b (hi - s2) s2 q)) := by
  obtain ⟨e0, ⟨e1, e2, e3, e4, e5⟩, e6, e7, e8, e9⟩ := h
  subst hbc
  refine ⟨is_R_tr (is_R_tr e0 (is_B_R f (n := s1) (lo := lo) (hi := hi) (by omega) (Nat.le_refl lo) (by omega) s1 (Nat.le_refl _))) (is_B_R _ (n := s2) (lo := lo) (hi := hi) (by omega) (by omega) (by omega) s2 (Nat.le_refl _)), ?_, ?_, ?_⟩
  · intro q q1 q2
    have o1 : is_B (is_B f lo (b - s1) s1) b (hi - s2) s2 q = is_B f lo (b - s1) s1 q := by
      rw [is_B, if_neg (by omega), if_neg (by omega)]
    rw [o1, is_B]
    by_cases c1 : lo ≤ q ∧ q < lo + s1
    · rw [if_pos c1]
      exact e7 _ (by omega) (by omega)
    · rw [if_neg c1, if_neg (by omega)]
      exact e7 _ (by omega) (by omega)
  · intro q q1 q2
    by_cases c0 : q < b
    · have o1 : is_B (is_B f lo (b - s1) s1) b (hi - s2) s2 q = is_B f lo (b - s1) s1 q := by
        rw [is_B, if_neg (by omega), if_neg (by omega)]
      rw [o1, is_B]
      by_cases c1 : lo ≤ q ∧ q < lo + s1
      · omega
      · rw [if_neg c1]
        by_cases c2 : b - s1 ≤ q ∧ q < b - s1 + s1
        · rw [if_pos c2]
          exact e6 _ (by omega) (by omega)
        · rw [if_neg c2]
          exact e6 _ (by omega) (by omega)
    · have o2 : ∀ r, b ≤ r → is_B f lo (b - s1) s1 r = f r := by
        intro r hr
        rw [is_B, if_neg (by omega), if_neg (by omega)]
      rw [is_B]
      by_cases c1 : b ≤ q ∧ q < b + s2
      · rw [if_pos c1, o2 _ (by omega)]
        exact e9 _ (by omega) (by omega)
      · rw [if_neg c1, if_neg (by omega), o2 _ (by omega)]
        exact e9 _ (by omega) (by omega)
  · intro q q1 q2
    have o2 : ∀ r, b ≤ r → is_B f lo (b - s1) s1 r = f r := by
      intro r hr
      rw [is_B, if_neg (by omega), if_neg (by omega)]
    rw [is_B]
    by_cases c1 : b ≤ q ∧ q < b + s2
    · omega
    · rw [if_neg c1]
      by_cases c2 : hi - s2 ≤ q ∧ q < hi - s2 + s2
      · rw [if_pos c2, o2 _ (by omega)]
        exact e8 _ (by omega) (by omega)
      · rw [if_neg c2, o2 _ (by omega)]
        exact e8 _ (by omega) (by omega)
/-- the two halves are shorter -/
theorem is_less {K : Int32 → Int} {v : Int} {f0 f : Nat → Int32} {lo hi a b c d p : Nat} (h : is_P K v f0 f lo hi a b c d) (hbc : b = c) (h1 : lo ≤ p) (h2 : p < hi) (hp : K (f0 p) = v) : (b - a) + (d - c) < hi - lo := by
  obtain ⟨e0, ⟨e1, e2, e3, e4, e5⟩, e6, e7, e8, e9⟩ := h
  obtain ⟨r, r1, r2, r3⟩ := is_R_on e0 p h1 h2
  have hr : K (f r) = v := by rw [r3]; exact hp
  by_cases c1 : a ≤ r ∧ r < b
  · have := e7 r c1.1 c1.2
    omega
  · by_cases c2 : c ≤ r ∧ r < d
    · have := e8 r c2.1 c2.2
      omega
    · omega
/-- the sorted halves and the middle -/
theorem is_cat {K : Int32 → Int} {v : Int} {g g1 g2 : Nat → Int32} {lo hi x y : Nat} (hxy : x + y ≤ hi - lo) (hlh : lo ≤ hi) (k1 : ∀ q, lo ≤ q → q < lo + x → K (g q) < v) (k2 : ∀ q, lo + x ≤ q → q < hi - y → K (g q) = v) (k3 : ∀ q, hi - y ≤ q → q < hi → v < K (g q))
    (r1 : is_R lo (lo + x) g g1) (s1 : is_S K g1 lo (lo + x)) (r2 : is_R (hi - y) hi g1 g2) (s2 : is_S K g2 (hi - y) hi) : is_S K g2 lo hi := by
  have m1 : ∀ q, lo ≤ q → q < lo + x → K (g1 q) < v := is_R_all r1 (p := fun z => K z < v) k1
  have m2 : ∀ q, lo + x ≤ q → q < hi - y → K (g1 q) = v := fun q q1 q2 => by
    rw [is_R_out r1 q (Or.inr q1)]
    exact k2 q q1 q2
  have m3 : ∀ q, hi - y ≤ q → q < hi → v < K (g1 q) := fun q q1 q2 => by
    rw [is_R_out r1 q (Or.inr (by omega))]
    exact k3 q q1 q2
  have n3 : ∀ q, hi - y ≤ q → q < hi → v < K (g2 q) := is_R_all r2 (p := fun z => v < K z) m3
  have n0 : ∀ q, q < hi - y → g2 q = g1 q := fun q q1 => is_R_out r2 q (Or.inl q1)
  intro q r q1 q2 q3
  by_cases c1 : r < lo + x
  · rw [n0 q (by omega), n0 r (by omega)]
    exact s1 q r q1 q2 c1
  · by_cases c2 : r < hi - y
    · rw [n0 q (by omega), n0 r c2, m2 r (by omega) c2]
      by_cases c3 : q < lo + x
      · exact Int.le_of_lt (m1 q q1 c3)
      · rw [m2 q (by omega) (by omega)]
        exact Int.le_refl _
    · have hr := n3 r (by omega) q3
      by_cases c3 : q < lo + x
      · rw [n0 q (by omega)]
        have := m1 q q1 c3
        omega
      · by_cases c4 : q < hi - y
        · rw [n0 q c4, m2 q (by omega) c4]
          omega
        · exact s2 q r (by omega) q2 q3
end
section
/-! PLAIN LAW, second part: runs of like keys put in order; counting; who stands where -/
/-- sorted by the key K, and where the keys are alike by the values themselves -/
def is_L (K : Int32 → Int) (f : Nat → Int32) (lo hi : Nat) : Prop := ∀ q r, lo ≤ q → q < r → r < hi → K (f q) < K (f r) ∨ (K (f q) = K (f r) ∧ (f q).toInt ≤ (f r).toInt)
/-- stabilize's own: runs [lo, cu) are done, [cu, i) is one run -/
def is_Z (K : Int32 → Int) (f0 f : Nat → Int32) (lo hi cu i : Nat) : Prop := is_R lo hi f0 f ∧ (lo ≤ cu ∧ cu < i ∧ (i ≤ hi ∨ (hi ≤ lo ∧ i = lo + 1))) ∧ is_S K f lo hi ∧ is_L K f lo cu ∧ (∀ q r, lo ≤ q → q < cu → cu ≤ r → r < hi → K (f q) < K (f r)) ∧ (∀ q, cu ≤ q → q < i → K (f q) = K (f cu))
theorem is_Z_0 {K : Int32 → Int} {f : Nat → Int32} {lo hi : Nat} (hs : is_S K f lo hi) : is_Z K f f lo hi lo (lo + 1) := by
  refine ⟨is_R_rf, ⟨Nat.le_refl _, by omega, by omega⟩, hs, fun q r h1 h2 h3 => by omega, fun q r h1 h2 => by omega, fun q h1 h2 => ?_⟩
  have : q = lo := by omega
  rw [this]
theorem is_Z_eq {K : Int32 → Int} {f0 f : Nat → Int32} {lo hi cu i : Nat} (h : is_Z K f0 f lo hi cu i) (hi1 : i < hi) (hk : K (f i) = K (f cu)) : is_Z K f0 f lo hi cu (i + 1) := by
  obtain ⟨e0, ⟨e1, e2, e3⟩, e4, e5, e6, e7⟩ := h
  refine ⟨e0, ⟨e1, by omega, by omega⟩, e4, e5, e6, fun q h1 h2 => ?_⟩
  by_cases c : q = i
  · rw [c]
    exact hk
  · exact e7 q h1 (by omega)
/-- a run [cu, i) is put in order -/
theorem is_Z_run {K : Int32 → Int} {f0 f g : Nat → Int32} {lo hi cu i : Nat} (h : is_Z K f0 f lo hi cu i) (hi1 : i ≤ hi) (hr : is_R cu i f g) (hg : is_S (fun z => z.toInt) g cu i) :
    is_R lo hi f0 g ∧ is_S K g lo hi ∧ is_L K g lo i := by
  obtain ⟨e0, ⟨e1, e2, e3⟩, e4, e5, e6, e7⟩ := h
  have ou : ∀ q, (q < cu ∨ i ≤ q) → g q = f q := is_R_out hr
  have kq : ∀ q, cu ≤ q → q < i → K (g q) = K (f cu) := is_R_all hr (p := fun z => K z = K (f cu)) e7
  have same : ∀ q, K (g q) = K (f q) := by
    intro q
    by_cases c : cu ≤ q ∧ q < i
    · rw [kq q c.1 c.2, e7 q c.1 c.2]
    · rw [ou q (by omega)]
  refine ⟨is_R_tr e0 (is_R_mo hr e1 hi1), ?_, ?_⟩
  · intro q r h1 h2 h3
    rw [same, same]
    exact e4 q r h1 h2 h3
  · intro q r h1 h2 h3
    by_cases c1 : r < cu
    · rw [ou q (by omega), ou r (by omega)]
      exact e5 q r h1 h2 c1
    · by_cases c2 : q < cu
      · rw [same, same]
        exact Or.inl (e6 q r h1 c2 (by omega) (by omega))
      · refine Or.inr ⟨?_, hg q r (by omega) h2 h3⟩
        rw [kq q (by omega) (by omega), kq r (by omega) h3]
theorem is_Z_ne {K : Int32 → Int} {f0 f g : Nat → Int32} {lo hi cu i : Nat} (h : is_Z K f0 f lo hi cu i) (hi1 : i < hi) (hk : ¬ K (f i) = K (f cu)) (hr : is_R cu i f g) (hg : is_S (fun z => z.toInt) g cu i) : is_Z K f0 g lo hi i (i + 1) := by
  obtain ⟨r1, r2, r3⟩ := is_Z_run h (by omega) hr hg
  obtain ⟨e0, ⟨e1, e2, e3⟩, e4, e5, e6, e7⟩ := h
  refine ⟨r1, ⟨by omega, by omega, by omega⟩, r2, r3, ?_, ?_⟩
  · have ou : ∀ q, (q < cu ∨ i ≤ q) → g q = f q := is_R_out hr
    have kq : ∀ q, cu ≤ q → q < i → K (g q) = K (f cu) := is_R_all hr (p := fun z => K z = K (f cu)) e7
    have hlt : K (f cu) < K (f i) := by
      have := e4 cu i e1 e2 hi1
      omega
    have up : ∀ r, i ≤ r → r < hi → K (f i) ≤ K (f r) := by
      intro r h1 h2
      by_cases c : r = i
      · rw [c]
        exact Int.le_refl _
      · exact e4 i r (by omega) (by omega) h2
    intro q r h1 h2 h3 h4
    rw [ou r (Or.inr h3)]
    by_cases c : q < cu
    · rw [ou q (Or.inl c)]
      exact e6 q r h1 c (by omega) h4
    · rw [kq q (by omega) h2]
      have := up r h3 h4
      omega
  · intro q h1 h2
    have : q = i := by omega
    rw [this]
/-! counting: the sum of w over the n values from lo on -/
def is_cn (w : Int32 → Nat) (f : Nat → Int32) (lo : Nat) : Nat → Nat
  | 0 => 0
  | n + 1 => is_cn w f lo n + w (f (lo + n))
theorem is_cn_s (w : Int32 → Nat) (f : Nat → Int32) (lo n : Nat) : is_cn w f lo (n + 1) = is_cn w f lo n + w (f (lo + n)) := rfl
theorem is_cn_out (w : Int32 → Nat) (f : Nat → Int32) (lo a : Nat) (x : Int32) : ∀ n, (a < lo ∨ lo + n ≤ a) → is_cn w (upd f a x) lo n = is_cn w f lo n := by
  intro n
  induction n with
  | zero => intro _; rfl
  | succ n ih =>
    intro h
    rw [is_cn_s, is_cn_s, ih (by omega), is_upd_at, if_neg (by omega)]
theorem is_cn_upd (w : Int32 → Nat) (f : Nat → Int32) (lo a : Nat) (x : Int32) : ∀ n, lo ≤ a → a < lo + n → is_cn w (upd f a x) lo n + w (f a) = is_cn w f lo n + w x := by
  intro n
  induction n with
  | zero => intro h1 h2; omega
  | succ n ih =>
    intro h1 h2
    rw [is_cn_s, is_cn_s]
    by_cases c : a = lo + n
    · rw [is_cn_out w f lo a x n (by omega), is_upd_at, if_pos c.symm, c]
      omega
    · rw [is_upd_at, if_neg (show ¬ lo + n = a by omega)]
      have := ih h1 (by omega)
      omega
theorem is_cn_sw (w : Int32 → Nat) (f : Nat → Int32) (lo n a b : Nat) (h1 : lo ≤ a) (h2 : a < lo + n) (h3 : lo ≤ b) (h4 : b < lo + n) : is_cn w (is_sw f a b) lo n = is_cn w f lo n := by
  have e1 := is_cn_upd w (upd f a (f b)) lo b (f a) n h3 h4
  have e2 := is_cn_upd w f lo a (f b) n h1 h2
  have e3 : upd f a (f b) b = f b := by
    rw [is_upd_at]
    by_cases c : b = a
    · rw [if_pos c]
    · rw [if_neg c]
  rw [e3] at e1
  show is_cn w (upd (upd f a (f b)) b (f a)) lo n = _
  omega
theorem is_cn_R {w : Int32 → Nat} {f g : Nat → Int32} {lo hi n : Nat} (hn : lo + n = hi) (h : is_R lo hi f g) : is_cn w g lo n = is_cn w f lo n := by
  refine h (fun k => is_cn w k lo n = is_cn w f lo n) rfl ?_
  intro k a b h1 h2 h3 h4 hk
  show is_cn w (is_sw k a b) lo n = is_cn w f lo n
  rw [is_cn_sw w k lo n a b h1 (by omega) h3 (by omega)]
  exact hk
theorem is_cn_cong {w w2 : Int32 → Nat} {f g : Nat → Int32} {lo : Nat} : ∀ n, (∀ q, lo ≤ q → q < lo + n → w (f q) = w2 (g q)) → is_cn w f lo n = is_cn w2 g lo n := by
  intro n
  induction n with
  | zero => intro _; rfl
  | succ n ih =>
    intro h
    rw [is_cn_s, is_cn_s, ih (fun q h1 h2 => h q h1 (by omega)), h (lo + n) (by omega) (by omega)]
theorem is_cn_zero {w : Int32 → Nat} {f : Nat → Int32} {lo : Nat} : ∀ n, (∀ q, lo ≤ q → q < lo + n → w (f q) = 0) → is_cn w f lo n = 0 := by
  intro n
  induction n with
  | zero => intro _; rfl
  | succ n ih =>
    intro h
    rw [is_cn_s, ih (fun q h1 h2 => h q h1 (by omega)), h (lo + n) (by omega) (by omega)]
theorem is_cn_le {w : Int32 → Nat} {f : Nat → Int32} {lo : Nat} (hw : ∀ v, w v ≤ 1) : ∀ n, is_cn w f lo n ≤ n := by
  intro n
  induction n with
  | zero => exact Nat.le_refl 0
  | succ n ih =>
    rw [is_cn_s]
    have := hw (f (lo + n))
    omega
/-- just the first m values count -/
theorem is_cn_first {w : Int32 → Nat} {f : Nat → Int32} {lo m : Nat} (h1 : ∀ q, lo ≤ q → q < lo + m → w (f q) = 1) : ∀ n, m ≤ n → (∀ q, lo + m ≤ q → q < lo + n → w (f q) = 0) → is_cn w f lo n = m := by
  have base : ∀ k, k ≤ m → is_cn w f lo k = k := by
    intro k
    induction k with
    | zero => intro _; rfl
    | succ k ih =>
      intro hk
      rw [is_cn_s, ih (by omega), h1 (lo + k) (by omega) (by omega)]
  intro n
  induction n with
  | zero => intro hm _; have : m = 0 := by omega
            rw [this]; rfl
  | succ n ih =>
    intro hm h0
    by_cases c : m = n + 1
    · rw [← c]
      exact base m (Nat.le_refl m)
    · rw [is_cn_s, ih (by omega) (fun q h1 h2 => h0 q h1 (by omega)), h0 (lo + n) (by omega) (by omega)]
      omega
/-- 1 where v goes ahead of z: a lesser key, or a like one and a lesser value -/
def is_w (K : Int32 → Int) (z v : Int32) : Nat := if K v < K z ∨ (K v = K z ∧ v.toInt < z.toInt) then 1 else 0
theorem is_w_le (K : Int32 → Int) (z v : Int32) : is_w K z v ≤ 1 := by
  unfold is_w
  by_cases c : K v < K z ∨ (K v = K z ∧ v.toInt < z.toInt)
  · rw [if_pos c]
    exact Nat.le_refl 1
  · rw [if_neg c]
    omega
/-- in a row in order, each value stands behind as many as go ahead of it -/
theorem is_rank {K : Int32 → Int} {f g : Nat → Int32} {lo hi : Nat} (hr : is_R lo hi f g) (hf : ∀ q r, lo ≤ q → q < hi → lo ≤ r → r < hi → f q = f r → q = r) (hL : is_L K g lo hi) {q : Nat} (h1 : lo ≤ q) (h2 : q < hi) : lo + is_cn (is_w K (g q)) f lo (hi - lo) = q := by
  have hi2 := is_R_inj hr hf
  rw [← is_cn_R (w := is_w K (g q)) (n := hi - lo) (by omega) hr]
  rw [is_cn_first (m := q - lo) (fun r r1 r2 => ?_) (hi - lo) (by omega) (fun r r1 r2 => ?_)]
  · omega
  · have hl := hL r q r1 (by omega) h2
    have ne : (g r).toInt ≠ (g q).toInt := by
      intro e
      have := hi2 r q r1 (by omega) h1 h2 (Int32.toInt_inj.mp e)
      omega
    unfold is_w
    rw [if_pos (by omega)]
  · unfold is_w
    by_cases c : r = q
    · rw [c, if_neg (by omega)]
    · have hl := hL q r h1 (by omega) (by omega)
      rw [if_neg (by omega)]
/-! the reference: each k of the range goes to the place lo + (how many go ahead of it) -/
def is_to (K : Int32 → Int) (id_ : Nat → Int32) (lo hi k : Nat) : Nat := lo + is_cn (is_w K (id_ k)) id_ lo (hi - lo)
/-- what the reference's row holds when it has done k in [lo, i) -/
def is_M (K : Int32 → Int) (id_ p0 p : Nat → Int32) (lo hi i : Nat) : Prop := ∀ q, (∃ k, lo ≤ k ∧ k < i ∧ q = is_to K id_ lo hi k ∧ p q = id_ k) ∨ ((∀ k, lo ≤ k → k < i → q ≠ is_to K id_ lo hi k) ∧ p q = p0 q)
theorem is_M_0 {K : Int32 → Int} {id_ p0 : Nat → Int32} {lo hi : Nat} : is_M K id_ p0 p0 lo hi lo := fun q => Or.inr ⟨fun k h1 h2 => by omega, rfl⟩
theorem is_M_st {K : Int32 → Int} {id_ p0 p : Nat → Int32} {lo hi i : Nat} (h : is_M K id_ p0 p lo hi i) (h1 : lo ≤ i) : is_M K id_ p0 (upd p (is_to K id_ lo hi i) (id_ i)) lo hi (i + 1) := by
  intro q
  rw [is_upd_at]
  by_cases c : q = is_to K id_ lo hi i
  · rw [if_pos c]
    exact Or.inl ⟨i, h1, by omega, c, rfl⟩
  · rw [if_neg c]
    rcases h q with ⟨k, k1, k2, k3, k4⟩ | ⟨k1, k2⟩
    · exact Or.inl ⟨k, k1, by omega, k3, k4⟩
    · refine Or.inr ⟨fun k h1 h2 => ?_, k2⟩
      by_cases c2 : k = i
      · rw [c2]
        exact c
      · exact k1 k h1 (by omega)
/-- BOTH ARE ONE: what the sorts make of the range's own places is what the reference makes -/
theorem is_same {K : Int32 → Int} {id_ p0 f g p : Nat → Int32} {lo hi : Nat} (hid : ∀ q r, lo ≤ q → q < hi → lo ≤ r → r < hi → id_ q = id_ r → q = r) (hf : ∀ q, lo ≤ q → q < hi → f q = id_ q) (hf2 : ∀ q, (q < lo ∨ hi ≤ q) → f q = p0 q) (hr : is_R lo hi f g) (hL : is_L K g lo hi) (hM : is_M K id_ p0 p lo hi hi) : g = p := by
  have hfi : ∀ q r, lo ≤ q → q < hi → lo ≤ r → r < hi → f q = f r → q = r := fun q r a b c d e => hid q r a b c d (by rw [← hf q a b, ← hf r c d]; exact e)
  have rk : ∀ q k, lo ≤ q → q < hi → lo ≤ k → k < hi → g q = id_ k → is_to K id_ lo hi k = q := by
    intro q k a b c d e
    have h := is_rank hr hfi hL a b
    rw [is_cn_cong (w2 := is_w K (g q)) (g := id_) (hi - lo) (fun r r1 r2 => by rw [hf r r1 (by omega)])] at h
    rw [is_to, ← e]
    exact h
  funext q
  rcases hM q with ⟨k, k1, k2, k3, k4⟩ | ⟨k1, k2⟩
  · obtain ⟨r, r1, r2, r3⟩ := is_R_on hr k k1 k2
    rw [hf k k1 k2] at r3
    have := rk r k r1 r2 k1 k2 r3
    rw [k4, ← r3, k3, this]
  · rw [k2]
    by_cases c : lo ≤ q ∧ q < hi
    · obtain ⟨r, r1, r2, r3⟩ := is_R_fr hr q c.1 c.2
      rw [hf r r1 r2] at r3
      exact absurd (rk q r c.1 c.2 r1 r2 r3).symm (k1 r r1 r2)
    · rw [is_R_out hr q (by omega), hf2 q (by omega)]
end
section
/-! ROWS OF OURS: ints as whole numbers (iz_ z), so that omega reckons with them -/
def iz_ (z : Int) : Int32 := Int32.ofInt z
theorem iz_add (a b : Int) : iz_ a + iz_ b = iz_ (a + b) := (Int32.ofInt_add a b).symm
theorem iz_sub (a b : Int) : iz_ a - iz_ b = iz_ (a - b) := (Int32.ofInt_sub a b).symm
theorem iz_t {z : Int} (h : -2147483648 ≤ z ∧ z < 2147483648) : (iz_ z).toInt = z := Int32.toInt_ofInt_of_le (by omega) (by omega)
theorem iz_inj {a b : Int} (ha : -2147483648 ≤ a ∧ a < 2147483648) (hb : -2147483648 ≤ b ∧ b < 2147483648) (h : iz_ a = iz_ b) : a = b := by
  have := congrArg Int32.toInt h
  rw [iz_t ha, iz_t hb] at this
  exact this
theorem iz_cl {z : Int} {k : Nat} (h : z = (k : Int)) (h2 : k < 2147483648) : (iz_ z).toNatClampNeg = k := by
  have e : (iz_ z).toNatClampNeg = z.toNat := Int32.toNatClampNeg_ofInt_of_le (by omega) (by omega)
  rw [e]
  omega
theorem iz_in {z : Int} {k n : Nat} (h : z = (k : Int)) (hk : k < n) (h2 : k < 2147483648) : vp_in (iz_ z) n := by
  intro q
  rcases q with q | q
  · rw [Int32.lt_iff_toInt_lt, iz_t (by omega)] at q
    have : (0 : Int32).toInt = 0 := by decide
    omega
  · rw [iz_cl h h2] at q
    omega
/-- the outcome of Integer.compare -/
def iw_cp (x y r : Int32) : Prop := (r.toInt < 0 ↔ x.toInt < y.toInt) ∧ (r.toInt = 0 ↔ x.toInt = y.toInt)
theorem iw_z0 : (0 : Int32).toInt = 0 := by decide
section
variable {p : Program} {l : Launch} {e : Env} {R : Room} {s : State} {m : MethodId} {args : Array Value} {below : List Frame} {meth : Method} {c : Code} {H : Heap} {locs : List Loc} {cells slots : Nat} {Q : State → Prop}
variable {cc : ByteArray} {pc : Nat} {ls : Array Slot} {rest : List Value}
theorem lz_iconst (hexec : p.tables.exec = Jvm.exec) (hb : c.code = cc) {n : Int} (hdg : decode cc pc = .ok (.iconst n, 1)) (k : W p l e R s m args below meth c H locs cells slots Q (F0 m (pc + 1) ls (.int (iz_ n) :: rest))) : W p l e R s m args below meth c H locs cells slots Q (F0 m pc ls rest) := lv_iconst hexec hb hdg rfl k
theorem lz_iadd (hexec : p.tables.exec = Jvm.exec) (hb : c.code = cc) {a b z : Int} (hdg : decode cc pc = .ok (.iadd, 1)) (hz : a + b = z) (k : W p l e R s m args below meth c H locs cells slots Q (F0 m (pc + 1) ls (.int (iz_ z) :: rest))) : W p l e R s m args below meth c H locs cells slots Q (F0 m pc ls (.int (iz_ b) :: .int (iz_ a) :: rest)) := lv_iadd hexec hb hdg (by rw [iz_add, hz]; exact k)
theorem lz_isub (hexec : p.tables.exec = Jvm.exec) (hb : c.code = cc) {a b z : Int} (hdg : decode cc pc = .ok (.isub, 1)) (hz : a - b = z) (k : W p l e R s m args below meth c H locs cells slots Q (F0 m (pc + 1) ls (.int (iz_ z) :: rest))) : W p l e R s m args below meth c H locs cells slots Q (F0 m pc ls (.int (iz_ b) :: .int (iz_ a) :: rest)) := lv_isub hexec hb hdg (by rw [iz_sub, hz]; exact k)
theorem lz_iinc (hexec : p.tables.exec = Jvm.exec) (hb : c.code = cc) {i nL k : Nat} {n x z : Int} {lv lv' : List (Nat × Value)} (hdg : decode cc pc = .ok (.iinc i n, 3)) (h : lv_has ls nL lv) (hk : lv[k]? = some (i, .int (iz_ x))) (hz : x + n = z) (hn : i < nL) (hl : (i, Value.int (iz_ z)) :: lv.filter (fun q => !(q.1 == i) && !(q.1 + 1 == i && q.2.category == 2)) = lv')
    (kk : ∀ ls' : Array Slot, lv_has ls' nL lv' → W p l e R s m args below meth c H locs cells slots Q (F0 m (pc + 3) ls' rest)) : W p l e R s m args below meth c H locs cells slots Q (F0 m pc ls rest) :=
  lv_iinc (v := iz_ z) hexec hb hdg h hk (by show iz_ x + iz_ n = iz_ z; rw [iz_add, hz]) hn hl kk
theorem lz_if_eq (hexec : p.tables.exec = Jvm.exec) (hb : c.code = cc) {x : Int32} {a : Int} {off : Int} {tgt : Nat} (hdg : decode cc pc = .ok (.ifCond .eq off, 3)) (ht : (pc : Int) + off = (tgt : Int)) (ha : x.toInt = a)
    (kt : a = 0 → W p l e R s m args below meth c H locs cells slots Q (F0 m tgt ls rest)) (kf : a ≠ 0 → W p l e R s m args below meth c H locs cells slots Q (F0 m (pc + 3) ls rest)) : W p l e R s m args below meth c H locs cells slots Q (F0 m pc ls (.int x :: rest)) :=
  lv_if_eq hexec hb hdg ht (fun h => kt (by rw [← ha, h]; exact iw_z0)) (fun h => kf (fun q => h (Int32.toInt_inj.mp (by rw [ha, q, iw_z0]))))
theorem lz_if_ne (hexec : p.tables.exec = Jvm.exec) (hb : c.code = cc) {x : Int32} {a : Int} {off : Int} {tgt : Nat} (hdg : decode cc pc = .ok (.ifCond .ne off, 3)) (ht : (pc : Int) + off = (tgt : Int)) (ha : x.toInt = a)
    (kt : a ≠ 0 → W p l e R s m args below meth c H locs cells slots Q (F0 m tgt ls rest)) (kf : a = 0 → W p l e R s m args below meth c H locs cells slots Q (F0 m (pc + 3) ls rest)) : W p l e R s m args below meth c H locs cells slots Q (F0 m pc ls (.int x :: rest)) :=
  lv_if_ne hexec hb hdg ht (fun h => kt (fun q => h (Int32.toInt_inj.mp (by rw [ha, q, iw_z0])))) (fun h => kf (by rw [← ha, h]; exact iw_z0))
theorem lz_if_lt (hexec : p.tables.exec = Jvm.exec) (hb : c.code = cc) {x : Int32} {a : Int} {off : Int} {tgt : Nat} (hdg : decode cc pc = .ok (.ifCond .lt off, 3)) (ht : (pc : Int) + off = (tgt : Int)) (ha : x.toInt = a)
    (kt : a < 0 → W p l e R s m args below meth c H locs cells slots Q (F0 m tgt ls rest)) (kf : 0 ≤ a → W p l e R s m args below meth c H locs cells slots Q (F0 m (pc + 3) ls rest)) : W p l e R s m args below meth c H locs cells slots Q (F0 m pc ls (.int x :: rest)) :=
  lv_if_lt hexec hb hdg ht (fun h => kt (by rw [Int32.lt_iff_toInt_lt, ha, iw_z0] at h; exact h)) (fun h => kf (by rw [Int32.lt_iff_toInt_lt, ha, iw_z0] at h; omega))
theorem lz_if_ge (hexec : p.tables.exec = Jvm.exec) (hb : c.code = cc) {x : Int32} {a : Int} {off : Int} {tgt : Nat} (hdg : decode cc pc = .ok (.ifCond .ge off, 3)) (ht : (pc : Int) + off = (tgt : Int)) (ha : x.toInt = a)
    (kt : 0 ≤ a → W p l e R s m args below meth c H locs cells slots Q (F0 m tgt ls rest)) (kf : a < 0 → W p l e R s m args below meth c H locs cells slots Q (F0 m (pc + 3) ls rest)) : W p l e R s m args below meth c H locs cells slots Q (F0 m pc ls (.int x :: rest)) :=
  lv_if_ge hexec hb hdg ht (fun h => kt (by rw [Int32.le_iff_toInt_le, ha, iw_z0] at h; exact h)) (fun h => kf (by rw [Int32.le_iff_toInt_le, ha, iw_z0] at h; omega))
theorem lz_if_gt (hexec : p.tables.exec = Jvm.exec) (hb : c.code = cc) {x : Int32} {a : Int} {off : Int} {tgt : Nat} (hdg : decode cc pc = .ok (.ifCond .gt off, 3)) (ht : (pc : Int) + off = (tgt : Int)) (ha : x.toInt = a)
    (kt : 0 < a → W p l e R s m args below meth c H locs cells slots Q (F0 m tgt ls rest)) (kf : a ≤ 0 → W p l e R s m args below meth c H locs cells slots Q (F0 m (pc + 3) ls rest)) : W p l e R s m args below meth c H locs cells slots Q (F0 m pc ls (.int x :: rest)) :=
  lv_if_gt hexec hb hdg ht (fun h => kt (by rw [Int32.lt_iff_toInt_lt, ha, iw_z0] at h; exact h)) (fun h => kf (by rw [Int32.lt_iff_toInt_lt, ha, iw_z0] at h; omega))
theorem lz_if_le (hexec : p.tables.exec = Jvm.exec) (hb : c.code = cc) {x : Int32} {a : Int} {off : Int} {tgt : Nat} (hdg : decode cc pc = .ok (.ifCond .le off, 3)) (ht : (pc : Int) + off = (tgt : Int)) (ha : x.toInt = a)
    (kt : a ≤ 0 → W p l e R s m args below meth c H locs cells slots Q (F0 m tgt ls rest)) (kf : 0 < a → W p l e R s m args below meth c H locs cells slots Q (F0 m (pc + 3) ls rest)) : W p l e R s m args below meth c H locs cells slots Q (F0 m pc ls (.int x :: rest)) :=
  lv_if_le hexec hb hdg ht (fun h => kt (by rw [Int32.le_iff_toInt_le, ha, iw_z0] at h; exact h)) (fun h => kf (by rw [Int32.le_iff_toInt_le, ha, iw_z0] at h; omega))
theorem lz_icmp_eq (hexec : p.tables.exec = Jvm.exec) (hb : c.code = cc) {x y : Int32} {a b : Int} {off : Int} {tgt : Nat} (hdg : decode cc pc = .ok (.if_icmp .eq off, 3)) (ht : (pc : Int) + off = (tgt : Int)) (ha : x.toInt = a) (hb' : y.toInt = b)
    (kt : a = b → W p l e R s m args below meth c H locs cells slots Q (F0 m tgt ls rest)) (kf : a ≠ b → W p l e R s m args below meth c H locs cells slots Q (F0 m (pc + 3) ls rest)) : W p l e R s m args below meth c H locs cells slots Q (F0 m pc ls (.int y :: .int x :: rest)) :=
  lv_icmp_eq hexec hb hdg ht (fun h => kt (by rw [← ha, ← hb', h])) (fun h => kf (fun q => h (Int32.toInt_inj.mp (by rw [ha, hb', q]))))
theorem lz_icmp_ne (hexec : p.tables.exec = Jvm.exec) (hb : c.code = cc) {x y : Int32} {a b : Int} {off : Int} {tgt : Nat} (hdg : decode cc pc = .ok (.if_icmp .ne off, 3)) (ht : (pc : Int) + off = (tgt : Int)) (ha : x.toInt = a) (hb' : y.toInt = b)
    (kt : a ≠ b → W p l e R s m args below meth c H locs cells slots Q (F0 m tgt ls rest)) (kf : a = b → W p l e R s m args below meth c H locs cells slots Q (F0 m (pc + 3) ls rest)) : W p l e R s m args below meth c H locs cells slots Q (F0 m pc ls (.int y :: .int x :: rest)) :=
  lv_icmp_ne hexec hb hdg ht (fun h => kt (fun q => h (Int32.toInt_inj.mp (by rw [ha, hb', q])))) (fun h => kf (by rw [← ha, ← hb', h]))
theorem lz_icmp_lt (hexec : p.tables.exec = Jvm.exec) (hb : c.code = cc) {x y : Int32} {a b : Int} {off : Int} {tgt : Nat} (hdg : decode cc pc = .ok (.if_icmp .lt off, 3)) (ht : (pc : Int) + off = (tgt : Int)) (ha : x.toInt = a) (hb' : y.toInt = b)
    (kt : a < b → W p l e R s m args below meth c H locs cells slots Q (F0 m tgt ls rest)) (kf : b ≤ a → W p l e R s m args below meth c H locs cells slots Q (F0 m (pc + 3) ls rest)) : W p l e R s m args below meth c H locs cells slots Q (F0 m pc ls (.int y :: .int x :: rest)) :=
  lv_icmp_lt hexec hb hdg ht (fun h => kt (by rw [Int32.lt_iff_toInt_lt, ha, hb'] at h; exact h)) (fun h => kf (by rw [Int32.lt_iff_toInt_lt, ha, hb'] at h; omega))
theorem lz_icmp_ge (hexec : p.tables.exec = Jvm.exec) (hb : c.code = cc) {x y : Int32} {a b : Int} {off : Int} {tgt : Nat} (hdg : decode cc pc = .ok (.if_icmp .ge off, 3)) (ht : (pc : Int) + off = (tgt : Int)) (ha : x.toInt = a) (hb' : y.toInt = b)
    (kt : b ≤ a → W p l e R s m args below meth c H locs cells slots Q (F0 m tgt ls rest)) (kf : a < b → W p l e R s m args below meth c H locs cells slots Q (F0 m (pc + 3) ls rest)) : W p l e R s m args below meth c H locs cells slots Q (F0 m pc ls (.int y :: .int x :: rest)) :=
  lv_icmp_ge hexec hb hdg ht (fun h => kt (by rw [Int32.le_iff_toInt_le, ha, hb'] at h; exact h)) (fun h => kf (by rw [Int32.le_iff_toInt_le, ha, hb'] at h; omega))
theorem lz_icmp_gt (hexec : p.tables.exec = Jvm.exec) (hb : c.code = cc) {x y : Int32} {a b : Int} {off : Int} {tgt : Nat} (hdg : decode cc pc = .ok (.if_icmp .gt off, 3)) (ht : (pc : Int) + off = (tgt : Int)) (ha : x.toInt = a) (hb' : y.toInt = b)
    (kt : b < a → W p l e R s m args below meth c H locs cells slots Q (F0 m tgt ls rest)) (kf : a ≤ b → W p l e R s m args below meth c H locs cells slots Q (F0 m (pc + 3) ls rest)) : W p l e R s m args below meth c H locs cells slots Q (F0 m pc ls (.int y :: .int x :: rest)) :=
  lv_icmp_gt hexec hb hdg ht (fun h => kt (by rw [Int32.lt_iff_toInt_lt, ha, hb'] at h; exact h)) (fun h => kf (by rw [Int32.lt_iff_toInt_lt, ha, hb'] at h; omega))
theorem lz_icmp_le (hexec : p.tables.exec = Jvm.exec) (hb : c.code = cc) {x y : Int32} {a b : Int} {off : Int} {tgt : Nat} (hdg : decode cc pc = .ok (.if_icmp .le off, 3)) (ht : (pc : Int) + off = (tgt : Int)) (ha : x.toInt = a) (hb' : y.toInt = b)
    (kt : a ≤ b → W p l e R s m args below meth c H locs cells slots Q (F0 m tgt ls rest)) (kf : b < a → W p l e R s m args below meth c H locs cells slots Q (F0 m (pc + 3) ls rest)) : W p l e R s m args below meth c H locs cells slots Q (F0 m pc ls (.int y :: .int x :: rest)) :=
  lv_icmp_le hexec hb hdg ht (fun h => kt (by rw [Int32.le_iff_toInt_le, ha, hb'] at h; exact h)) (fun h => kf (by rw [Int32.le_iff_toInt_le, ha, hb'] at h; omega))
variable {D : va_G} {cl : List vw_C} {A : Nat → Prop} {a : Nat} {tys : List (ClassId × FieldType)} {ws : va_W} {H0 : Heap}
theorem lz_iald (hexec : p.tables.exec = Jvm.exec) (hb : c.code = cc) (hK : va_K D cl tys s) (hP : va_P D cl ws H) (q0 t0 : Nat) {cA : ClassId} {n : Nat} {f : Nat → Int32} (ha : ws[q0]? = some (a, .inl (cA, n, .inl f))) (ht : tys[t0]? = some (cA, .int)) {z : Int} {k : Nat} (hz : z = (k : Int)) (hk : k < n) (h2 : k < 2147483648) (hdg : decode cc pc = .ok (.iaload, 1))
    (kk : W p l e R s m args below meth c H locs cells slots Q (F0 m (pc + 1) ls (.int (f k) :: rest))) : W p l e R s m args below meth c H locs cells slots Q (F0 m pc ls (.int (iz_ z) :: .ref a :: rest)) :=
  va_iald hexec hb hK hP q0 t0 ha ht (iz_in hz hk h2) hdg (by rw [iz_cl hz h2]; exact kk)
theorem lz_iast (hexec : p.tables.exec = Jvm.exec) (hb : c.code = cc) (hK : va_K D cl tys s) (hP : va_P D cl ws H) (hD : va_D A ws) (hS : va_S A H0 H locs) (q0 t0 : Nat) {cA : ClassId} {n : Nat} {f : Nat → Int32} (ha : ws[q0]? = some (a, .inl (cA, n, .inl f))) (ht : tys[t0]? = some (cA, .int)) {z : Int} {x : Int32} {k : Nat} (hz : z = (k : Int)) (hk : k < n) (h2 : k < 2147483648) (hdg : decode cc pc = .ok (.iastore, 1))
    (kk : ∀ (H1 : Heap) (locs1 : List Loc), va_P D cl (ws.set q0 (a, .inl (cA, n, .inl (upd f k x)))) H1 → va_D A (ws.set q0 (a, .inl (cA, n, .inl (upd f k x)))) → va_S A H0 H1 locs1 → W p l e R s m args below meth c H1 locs1 cells slots Q (F0 m (pc + 1) ls rest)) : W p l e R s m args below meth c H locs cells slots Q (F0 m pc ls (.int x :: .int (iz_ z) :: .ref a :: rest)) :=
  va_iast hexec hb hK hP hD hS q0 t0 ha ht (iz_in hz hk h2) hdg (by rw [iz_cl hz h2]; exact kk)
end
/-! worlds and frames of the methods -/
def iw_B (D : va_G) (cl : List vw_C) (ws : va_W) (tys : List (ClassId × FieldType)) : State → Prop := fun U => va_P D cl ws U.heap ∧ va_K D cl tys U ∧ va_D (fun _ => True) ws
theorem iw_blind {av : List Value} {D : va_G} {cl : List vw_C} {ws : va_W} {tys : List (ClassId × FieldType)} : FrameBlind (va_Pc av (iw_B D cl ws tys)) := fun a U g mk q => ⟨q.1, q.2.1, va_K.moved (u := U) (U := U.calling g mk a) (Vm.Alike.refl U.vm) q.2.2.1, q.2.2.2⟩
theorem iw_blind0 {av : List Value} : FrameBlind (va_Pc av (fun _ => True)) := fun _ _ _ _ q => ⟨q.1, trivial⟩
def iw_A (ws : va_W) : Nat → Prop := fun q => ∃ (k : Nat) (x : Nat × va_E), ws[k]? = some x ∧ x.1 = q
theorem iw_Dself {ws : va_W} (h : va_D (fun _ => True) ws) : va_D (iw_A ws) ws := ⟨h.1, fun k q hk => ⟨k, q, hk, rfl⟩⟩
theorem iw_put {D : va_G} {cl : List vw_C} {A : Nat → Prop} {ws : va_W} {a q0 : Nat} {e0 e : va_E} {H H1 : Heap} {B : Nat → Prop} (h : va_P D cl ws H) (hD : va_D A ws) (hp : ws[q0]? = some (a, e0)) (he : va_at D cl (a, e) H1) (hk : ∀ q : Nat, q < H.size → ¬ B q → H1[q]? = H[q]?) (hB : ∀ (k : Nat) (x : Nat × va_E), ws[k]? = some x → k ≠ q0 → B x.1 → va_at D cl x H1) : va_P D cl (ws.set q0 (a, e)) H1 := by
  have hl := (List.getElem?_eq_some_iff.mp hp).1
  intro k q hq
  by_cases hkp : k = q0
  · subst hkp
    rw [List.getElem?_set_self hl] at hq
    cases hq
    exact he
  · rw [List.getElem?_set_ne (Ne.symm hkp)] at hq
    by_cases hb : B q.1
    · exact hB k q hq hkp hb
    · exact (h k q hq).kept (hk q.1 (h k q hq).lt hb)
section
variable {p : Program} {l : Launch} {e : Env} {R : Room} {s : State} {m : MethodId} {args : Array Value} {below : List Frame} {meth : Method} {c : Code} {H : Heap} {locs : List Loc} {cells slots : Nat} {Q : State → Prop}
variable {pc : Nat} {ls : Array Slot} {rest st0 : List Value} {ar : Array Value} {A : Nat → Prop} {H0 : Heap} {D : va_G} {cl : List vw_C} {ws : va_W} {a b n nx : Nat} {d : ClassId} {P X : Nat → Int32}
/-- a call that changes one array, the world of which is that array alone -/
theorem iw_set1 {post : (Nat → Int32) → Prop} (hr : va_Run p l e R s m args below meth c H locs cells slots 0 0 (F0 m pc ls st0) rest (va_Qv post (fun P' t => va_P D cl [(a, .inl (d, n, .inl P'))] t.heap) (iw_A [(a, .inl (d, n, .inl P))]) ar) (iw_A [(a, .inl (d, n, .inl P))])) (hP : va_P D cl ws H) (hD : va_D A ws) (hS : va_S A H0 H locs) (q0 : Nat) (ha : ws[q0]? = some (a, .inl (d, n, .inl P)))
    (kk : ∀ (P' : Nat → Int32) (H1 : Heap) (locs1 : List Loc), post P' → va_P D cl (ws.set q0 (a, .inl (d, n, .inl P'))) H1 → va_D A (ws.set q0 (a, .inl (d, n, .inl P'))) → va_S A H0 H1 locs1 → W p l e R s m args below meth c H1 locs1 cells slots Q (F0 m (pc + 3) ls rest)) : W p l e R s m args below meth c H locs cells slots Q (F0 m pc ls st0) := by
  have hin : ∀ q, iw_A [(a, .inl (d, n, .inl P))] q → q = a := by
    rintro q ⟨k, x, h1, h2⟩
    have hz : k < 1 := (List.getElem?_eq_some_iff.mp h1).1
    obtain rfl : k = 0 := by omega
    cases h1
    exact h2.symm
  have haA : A a := hD.2 q0 _ ha
  refine va_callv hr hS (fun q _ h => by rw [hin q h]; exact haA) (fun q h => by rw [hin q h]; exact haA) (fun P' t H1 locs1 ht _ hp hB hz hk hS1 => ?_)
  subst ht
  refine kk P' _ locs1 hp (iw_put (B := iw_A [(a, .inl (d, n, .inl P))]) hP hD ha (hB 0 _ rfl) hk (fun k x hx hne hb => ?_)) (hD.set ha) hS1
  exact absurd (hD.1 k q0 x _ hx ha (hin _ hb)) hne
/-- a call that changes the first of two arrays; the second one is only read -/
theorem iw_set2 {post : (Nat → Int32) → Prop} (hr : va_Run p l e R s m args below meth c H locs cells slots 0 0 (F0 m pc ls st0) rest (va_Qv post (fun P' t => va_P D cl [(a, .inl (d, n, .inl P')), (b, .inl (d, nx, .inl X))] t.heap) (iw_A [(a, .inl (d, n, .inl P)), (b, .inl (d, nx, .inl X))]) ar) (iw_A [(a, .inl (d, n, .inl P)), (b, .inl (d, nx, .inl X))])) (hP : va_P D cl ws H) (hD : va_D A ws) (hS : va_S A H0 H locs) (q0 q1 : Nat) (ha : ws[q0]? = some (a, .inl (d, n, .inl P))) (hb : ws[q1]? = some (b, .inl (d, nx, .inl X)))
    (kk : ∀ (P' : Nat → Int32) (H1 : Heap) (locs1 : List Loc), post P' → va_P D cl (ws.set q0 (a, .inl (d, n, .inl P'))) H1 → va_D A (ws.set q0 (a, .inl (d, n, .inl P'))) → va_S A H0 H1 locs1 → W p l e R s m args below meth c H1 locs1 cells slots Q (F0 m (pc + 3) ls rest)) : W p l e R s m args below meth c H locs cells slots Q (F0 m pc ls st0) := by
  have hin : ∀ q, iw_A [(a, .inl (d, n, .inl P)), (b, .inl (d, nx, .inl X))] q → q = a ∨ q = b := by
    rintro q ⟨k, x, h1, h2⟩
    have hz : k < 2 := (List.getElem?_eq_some_iff.mp h1).1
    rcases (show k = 0 ∨ k = 1 by omega) with rfl | rfl
    · cases h1
      exact Or.inl h2.symm
    · cases h1
      exact Or.inr h2.symm
  have haA : A a := hD.2 q0 _ ha
  have hbA : A b := hD.2 q1 _ hb
  have hall : ∀ q, iw_A [(a, .inl (d, n, .inl P)), (b, .inl (d, nx, .inl X))] q → A q := by
    intro q h
    rcases hin q h with e1 | e1
    · rw [e1]; exact haA
    · rw [e1]; exact hbA
  refine va_callv hr hS (fun q _ h => hall q h) hall (fun P' t H1 locs1 ht _ hp hB hz hk hS1 => ?_)
  subst ht
  refine kk P' _ locs1 hp (iw_put (B := iw_A [(a, .inl (d, n, .inl P)), (b, .inl (d, nx, .inl X))]) hP hD ha (hB 0 _ rfl) hk (fun k x hx hne hq => ?_)) (hD.set ha) hS1
  rcases hin _ hq with e1 | e1
  · exact absurd (hD.1 k q0 x _ hx ha e1) hne
  · have e2 := hD.1 k q1 x _ hx hb e1
    subst e2
    rw [hb] at hx
    cases hx
    exact hB 1 _ rfl
end
end
section
/-! THE LEAVES of IntArrays: contracts, and a row for each call of them from IntArrays -/
set_option maxHeartbeats 4000000 in
set_option maxRecDepth 100000 in
theorem met_compare (l : Launch) (x y : Int32) : Met l yJ0_compare (ws_ yJ0_compare cJ0_compare 2 (some .int)) ({ frames := 0, cells := 0, slots := 0, locals := 0 }) (va_Pc [.int x, .int y] (fun _ => True)) (vp_Si (fun r => iw_cp x y r)) 0 0 (fun _ => False) := by
  refine Met.ofW (cc := cJ0_compare) (maxL := 2) (ret := (some .int)) (by decide) rfl ?_
  intro p e s m args below meth c s₁ B hml hv
  obtain ⟨rfl, -⟩ := hv
  have hx := B.exec
  have hb := B.bytes
  have hr := B.returns
  have hlocks := B.notSynchronized
  have hl := lv_entry ([.int x, .int y]) (n := 2) (Nat.le_of_ble_eq_true rfl)
  rw [lg_entry_eq]
  generalize (lg_sl ([.int x, .int y]) ++ List.replicate (2 - (lg_sl ([.int x, .int y])).length) Slot.unset).toArray = ls at hl ⊢
  have hl : lv_has ls 2 [(0, .int x), (1, .int y)] := hl
  refine lv_iload_n hx hb dJ0_compare_0 rfl (lv_at hl 0 rfl) ?_
  refine lv_iload_n hx hb dJ0_compare_1 rfl (lv_at hl 1 rfl) ?_
  refine lz_icmp_ge (tgt := 9) hx hb dJ0_compare_2 (by decide) rfl rfl (fun c1 => ?_) (fun c2 => ?_)
  · refine lv_iload_n hx hb dJ0_compare_9 rfl (lv_at hl 0 rfl) ?_
    refine lv_iload_n hx hb dJ0_compare_10 rfl (lv_at hl 1 rfl) ?_
    refine lz_icmp_ne (tgt := 18) hx hb dJ0_compare_11 (by decide) rfl rfl (fun c3 => ?_) (fun c4 => ?_)
    · refine lz_iconst hx hb dJ0_compare_18 ?_
      exact W.iret (v := iz_ 1) hx hb hr (fun t ht hW => ⟨_, rfl, by show iw_cp x y _; unfold iw_cp; rw [iz_t (by omega)]; omega, ht⟩) (fun _ h => by cases h) dJ0_compare_19
    · refine lz_iconst hx hb dJ0_compare_14 ?_
      refine lv_goto (tgt := 19) hx hb dJ0_compare_15 (by decide) ?_
      exact W.iret (v := iz_ 0) hx hb hr (fun t ht hW => ⟨_, rfl, by show iw_cp x y _; unfold iw_cp; rw [iz_t (by omega)]; omega, ht⟩) (fun _ h => by cases h) dJ0_compare_19
  · refine lz_iconst hx hb dJ0_compare_5 ?_
    refine lv_goto (tgt := 19) hx hb dJ0_compare_6 (by decide) ?_
    exact W.iret (v := iz_ (-1)) hx hb hr (fun t ht hW => ⟨_, rfl, by show iw_cp x y _; unfold iw_cp; rw [iz_t (by omega)]; omega, ht⟩) (fun _ h => by cases h) dJ0_compare_19
set_option maxHeartbeats 4000000 in
set_option maxRecDepth 100000 in
theorem met_swap (l : Launch) (D : va_G) (cl : List vw_C) (rp : Nat) (d : ClassId) (n : Nat) (P : Nat → Int32) (a b : Nat) (ha : a < n) (hb2 : b < n) (hn : n ≤ 1000) : Met l yX2_swap (ws_ yX2_swap cX2_swap 4 none) ({ frames := 0, cells := 0, slots := 0, locals := 0 }) (va_Pc [.ref rp, .int (iz_ ((a : Nat) : Int)), .int (iz_ ((b : Nat) : Int))] (iw_B D cl [(rp, .inl (d, n, .inl P))] [(d, .int)])) (va_Qv (fun P' : Nat → Int32 => P' = is_sw P a b) (fun P' t => va_P D cl [(rp, .inl (d, n, .inl P'))] t.heap) (iw_A [(rp, .inl (d, n, .inl P))])) 0 0 (iw_A [(rp, .inl (d, n, .inl P))]) := by
  refine Met.ofW (cc := cX2_swap) (maxL := 4) (ret := none) (by decide) rfl ?_
  intro p e s m args below meth c s₁ B hml hv
  obtain ⟨rfl, hP, hK, hD0⟩ := hv
  have hx := B.exec
  have hb := B.bytes
  have hr := B.returns
  have hlocks := B.notSynchronized
  have hD := iw_Dself hD0
  generalize hAe : iw_A [(rp, .inl (d, n, .inl P))] = A at hD ⊢
  have hS : va_S A s.heap s.heap [] := va_S.rf
  have hl := lv_entry ([.ref rp, .int (iz_ ((a : Nat) : Int)), .int (iz_ ((b : Nat) : Int))]) (n := 4) (Nat.le_of_ble_eq_true rfl)
  rw [lg_entry_eq]
  generalize (lg_sl ([.ref rp, .int (iz_ ((a : Nat) : Int)), .int (iz_ ((b : Nat) : Int))]) ++ List.replicate (4 - (lg_sl ([.ref rp, .int (iz_ ((a : Nat) : Int)), .int (iz_ ((b : Nat) : Int))])).length) Slot.unset).toArray = ls at hl ⊢
  have hl : lv_has ls 4 [(0, .ref rp), (1, .int (iz_ ((a : Nat) : Int))), (2, .int (iz_ ((b : Nat) : Int)))] := hl
  refine lv_aload_n hx hb dX2_swap_0 rfl (lv_at hl 0 rfl) ?_
  refine lv_iload_n hx hb dX2_swap_1 rfl (lv_at hl 1 rfl) ?_
  refine lz_iald (k := a) hx hb hK hP 0 0 rfl rfl (by omega) (by omega) (by omega) dX2_swap_2 ?_
  refine lv_istore_n (lv' := [(3, .int (P a)), (0, .ref rp), (1, .int (iz_ ((a : Nat) : Int))), (2, .int (iz_ ((b : Nat) : Int)))]) hx hb dX2_swap_3 rfl hl (by decide) rfl (fun ls hl => ?_)
  refine lv_aload_n hx hb dX2_swap_4 rfl (lv_at hl 1 rfl) ?_
  refine lv_iload_n hx hb dX2_swap_5 rfl (lv_at hl 2 rfl) ?_
  refine lv_aload_n hx hb dX2_swap_6 rfl (lv_at hl 1 rfl) ?_
  refine lv_iload_n hx hb dX2_swap_7 rfl (lv_at hl 3 rfl) ?_
  refine lz_iald (k := b) hx hb hK hP 0 0 rfl rfl (by omega) (by omega) (by omega) dX2_swap_8 ?_
  refine lz_iast (k := a) hx hb hK hP hD hS 0 0 rfl rfl (by omega) (by omega) (by omega) dX2_swap_9 (fun H locs hP hD hS => ?_)
  have hP : va_P D cl [(rp, .inl (d, n, .inl (upd P (a) ((P b)))))] H := hP
  have hD : va_D A [(rp, .inl (d, n, .inl (upd P (a) ((P b)))))] := hD
  refine lv_aload_n hx hb dX2_swap_10 rfl (lv_at hl 1 rfl) ?_
  refine lv_iload_n hx hb dX2_swap_11 rfl (lv_at hl 3 rfl) ?_
  refine lv_iload_n hx hb dX2_swap_12 rfl (lv_at hl 0 rfl) ?_
  refine lz_iast (k := b) hx hb hK hP hD hS 0 0 rfl rfl (by omega) (by omega) (by omega) dX2_swap_13 (fun H locs hP hD hS => ?_)
  have hP : va_P D cl [(rp, .inl (d, n, .inl (upd (upd P (a) ((P b))) (b) ((P a)))))] H := hP
  have hD : va_D A [(rp, .inl (d, n, .inl (upd (upd P (a) ((P b))) (b) ((P a)))))] := hD
  exact W.vret hx hb hr (fun t ht hW => ⟨⟨_, rfl, rfl, by show va_P D cl _ t.heap; rw [ht]; exact hP⟩, hS.F ht⟩) hS.2.2 dX2_swap_14
section
variable {p : Program} {l : Launch} {e : Env} {R : Room} {s : State} {m : MethodId} {args : Array Value} {below : List Frame} {meth : Method} {c : Code} {H : Heap} {locs : List Loc} {Q : State → Prop}
variable {cc : ByteArray} {nL pc : Nat} {ls : Array Slot} {A : Nat → Prop} {H0 : Heap} {D : va_G} {cl : List vw_C} {ws : va_W} {rp rx n nx : Nat} {d : ClassId} {P X : Nat → Int32}
/-- a world of one cell, and of two, for a callee -/
theorem iw_pre1 {U : State} {q0 : Nat} {x : Nat × va_E} {av : List Value} (hK : va_K D cl [(d, .int)] s) (hP : va_P D cl ws H) (h0 : ws[q0]? = some x) (hU : U.heap = H) (hW : s.WarmedH U.vm) : va_Pc av (iw_B D cl [x] [(d, .int)]) av.toArray U := by
  refine ⟨rfl, fun k y hk => ?_, va_K.moved hW.alike hK, ⟨fun i j y z h1 h2 _ => ?_, fun _ _ _ => trivial⟩⟩
  · have hz : k < 1 := (List.getElem?_eq_some_iff.mp hk).1
    obtain rfl : k = 0 := by omega
    cases hk
    rw [hU]
    exact hP q0 _ h0
  · have hz1 : i < 1 := (List.getElem?_eq_some_iff.mp h1).1
    have hz2 : j < 1 := (List.getElem?_eq_some_iff.mp h2).1
    omega
theorem iw_pre2 {U : State} {q0 q1 : Nat} {x y : Nat × va_E} {av : List Value} (hK : va_K D cl [(d, .int)] s) (hP : va_P D cl ws H) (hD : va_D A ws) (h0 : ws[q0]? = some x) (h1 : ws[q1]? = some y) (hne : q0 ≠ q1) (hU : U.heap = H) (hW : s.WarmedH U.vm) : va_Pc av (iw_B D cl [x, y] [(d, .int)]) av.toArray U := by
  refine ⟨rfl, fun k z hk => ?_, va_K.moved hW.alike hK, ⟨fun i j u v g1 g2 g3 => ?_, fun _ _ _ => trivial⟩⟩
  · have hz : k < 2 := (List.getElem?_eq_some_iff.mp hk).1
    rw [hU]
    rcases (show k = 0 ∨ k = 1 by omega) with rfl | rfl
    · cases hk
      exact hP q0 _ h0
    · cases hk
      exact hP q1 _ h1
  · have hz1 : i < 2 := (List.getElem?_eq_some_iff.mp g1).1
    have hz2 : j < 2 := (List.getElem?_eq_some_iff.mp g2).1
    rcases (show i = 0 ∨ i = 1 by omega) with rfl | rfl
    · rcases (show j = 0 ∨ j = 1 by omega) with rfl | rfl
      · rfl
      · cases g1
        cases g2
        exact absurd (hD.1 q0 q1 _ _ h0 h1 g3) hne
    · rcases (show j = 0 ∨ j = 1 by omega) with rfl | rfl
      · cases g1
        cases g2
        exact absurd (hD.1 q0 q1 _ _ h0 h1 g3.symm) hne
      · rfl
theorem iw_cmp {cells slots : Nat} (hC : CallFix p m c cc nL s args lw_all RX2) (hl : ls.size = nL) (hRf : 1 ≤ R.frames) (hRl : 23 ≤ R.locals) (hcs : cells ≤ R.cells ∧ slots ≤ R.slots) {x y : Int32} (hdg : decode cc pc = .ok (.invokestatic 17, 3)) (kk : ∀ r : Int32, iw_cp x y r → W p l e R s m args below meth c H locs cells slots Q (F0 m (pc + 3) ls [.int r])) : W p l e R s m args below meth c H locs cells slots Q (F0 m pc ls [.int y, .int x]) :=
  vp_callSi (va_Run.run (va_runS (As := [.int x, .int y]) (rest := []) hC (met_compare l x y) (va_cwS 2 hC.2.2.2.2 (lw_S q78 q79 q8 q80) rfl rfl rfl (by decide +kernel) ⟨hRf, Nat.le_trans (Nat.le_of_ble_eq_true rfl) hRl⟩) ⟨iw_blind0, fun U hU hW => ⟨rfl, trivial⟩⟩ rfl rfl hl rfl (lv_room (Nat.le_of_ble_eq_true rfl)) hdg hcs)) kk
theorem iw_min {cells slots : Nat} (hC : CallFix p m c cc nL s args lw_all RX2) (hl : ls.size = nL) (hRf : 1 ≤ R.frames) (hRl : 23 ≤ R.locals) (hcs : cells ≤ R.cells ∧ slots ≤ R.slots) {x y : Int} (hx1 : 0 ≤ x ∧ x < 2147483648) (hy1 : 0 ≤ y ∧ y < 2147483648) (hdg : decode cc pc = .ok (.invokestatic 28, 3)) (kk : ∀ k : Nat, ((k : Int) ≤ x ∧ (k : Int) ≤ y ∧ ((k : Int) = x ∨ (k : Int) = y)) → W p l e R s m args below meth c H locs cells slots Q (F0 m (pc + 3) ls [.int (iz_ (k : Int))])) : W p l e R s m args below meth c H locs cells slots Q (F0 m pc ls [.int (iz_ y), .int (iz_ x)]) := by
  refine va_mmin hC.1 hC.2.1 (hC.2.2.1.trans hl.symm) hC.2.2.2.1 (hC.2.2.2.2 _ q84) (hC.2.2.2.2 _ q85) (hC.2.2.2.2 _ q9) (hC.2.2.2.2 _ q86) hRf (Nat.le_trans (Nat.le_of_ble_eq_true rfl) hRl) hcs.1 hcs.2 hdg ?_
  have e : (if iz_ y < iz_ x then iz_ y else iz_ x) = iz_ (((if y < x then y else x).toNat : Nat) : Int) := by
    by_cases h : y < x
    · rw [if_pos h, if_pos (by rw [Int32.lt_iff_toInt_lt, iz_t (by omega), iz_t (by omega)]; exact h)]
      congr 1
      omega
    · rw [if_neg h, if_neg (by rw [Int32.lt_iff_toInt_lt, iz_t (by omega), iz_t (by omega)]; exact h)]
      congr 1
      omega
  rw [e]
  refine kk _ ?_
  by_cases h : y < x
  · rw [if_pos h]
    omega
  · rw [if_neg h]
    omega
theorem iw_swap (hC : CallFix p m c cc nL s args lw_all RX2) (hl : ls.size = nL) (hRf : 1 ≤ R.frames) (hRl : 23 ≤ R.locals) (hK : va_K D cl [(d, .int)] s) (hP : va_P D cl ws H) (hD : va_D A ws) (hS : va_S A H0 H locs) (q0 : Nat) (h0 : ws[q0]? = some (rp, .inl (d, n, .inl P))) {x y : Int} {a b : Nat} (hx1 : x = (a : Int)) (hy1 : y = (b : Int)) (ha : a < n) (hb2 : b < n) (hn : n ≤ 1000) (hdg : decode cc pc = .ok (.invokestatic 5, 3))
    (kk : ∀ (H1 : Heap) (locs1 : List Loc), va_P D cl (ws.set q0 (rp, .inl (d, n, .inl (is_sw P a b)))) H1 → va_D A (ws.set q0 (rp, .inl (d, n, .inl (is_sw P a b)))) → va_S A H0 H1 locs1 → W p l e R s m args below meth c H1 locs1 0 0 Q (F0 m (pc + 3) ls [])) : W p l e R s m args below meth c H locs 0 0 Q (F0 m pc ls [.int (iz_ y), .int (iz_ x), .ref rp]) := by
  subst hx1
  subst hy1
  refine iw_set1 (va_runS (As := [.ref rp, .int (iz_ (a : Int)), .int (iz_ (b : Int))]) (rest := []) hC (met_swap l D cl rp d n P a b ha hb2 hn) (va_cwS 3 hC.2.2.2.2 (lw_S q81 q82 q7 q83) rfl rfl rfl (by decide +kernel) ⟨hRf, Nat.le_trans (Nat.le_of_ble_eq_true rfl) hRl⟩) ⟨iw_blind, fun U hU hW => iw_pre1 hK hP h0 hU hW⟩ rfl rfl hl rfl (lv_room (Nat.le_of_ble_eq_true rfl)) hdg ⟨Nat.zero_le _, Nat.zero_le _⟩) hP hD hS q0 h0 (fun P' H1 locs1 hp h1 h2 h3 => ?_)
  subst hp
  exact kk H1 locs1 h1 h2 h3
end
end
section
/-! SMALL SORTS of IntArrays -/
abbrev iw_1 (D : va_G) (cl : List vw_C) (A : Nat → Prop) (s : State) (rp : Nat) (d : ClassId) (n : Nat) (P : Nat → Int32) (H : Heap) (locs : List Loc) : Prop := va_P D cl [(rp, .inl (d, n, .inl P))] H ∧ va_D A [(rp, .inl (d, n, .inl P))] ∧ va_S A s.heap H locs
abbrev iw_2 (D : va_G) (cl : List vw_C) (A : Nat → Prop) (s : State) (rp rx : Nat) (d : ClassId) (n nx : Nat) (P X : Nat → Int32) (H : Heap) (locs : List Loc) : Prop := va_P D cl [(rp, .inl (d, n, .inl P)), (rx, .inl (d, nx, .inl X))] H ∧ va_D A [(rp, .inl (d, n, .inl P)), (rx, .inl (d, nx, .inl X))] ∧ va_S A s.heap H locs
/-- the key of an indirect sort: the value that the permutation's value points to -/
def is_K (X : Nat → Int32) (v : Int32) : Int := (X v.toNatClampNeg).toInt
section
variable {p : Program} {l : Launch} {e : Env} {R : Room} {s : State} {m : MethodId} {args : Array Value} {below : List Frame} {meth : Method} {c : Code} {Q : State → Prop} {D : va_G} {cl : List vw_C} {A : Nat → Prop} {rp rx : Nat} {d : ClassId} {n nx : Nat} {P0 X : Nat → Int32}
set_option maxHeartbeats 4000000 in
set_option maxRecDepth 100000 in
theorem iw_swap2_loop (hC : CallFix p m c cX2_swap_2 5 s args lw_all RX2) (hRf : 1 ≤ R.frames) (hRl : 23 ≤ R.locals) (hK : va_K D cl [(d, .int)] s) {P : Nat → Int32} {a b k : Nat} (hab : a + k ≤ b) (hbn : b + k ≤ n) (hn : n ≤ 1000)
    (kexit : ∀ (H : Heap) (locs : List Loc) (ls : Array Slot), iw_1 D cl A s rp d n (is_B P a b k) H locs → W p l e R s m args below meth c H locs 0 0 Q (F0 m 27 ls [])) :
    ∀ (t i : Nat), k + 1 ≤ i + t → i ≤ k → ∀ (H : Heap) (locs : List Loc) (ls : Array Slot), iw_1 D cl A s rp d n (is_B P a b i) H locs → lv_has ls 5 [(0, .ref rp), (1, .int (iz_ (((a : Nat) : Int) + ((i : Nat) : Int)))), (2, .int (iz_ (((b : Nat) : Int) + ((i : Nat) : Int)))), (3, .int (iz_ ((k : Nat) : Int))), (4, .int (iz_ ((i : Nat) : Int)))] → W p l e R s m args below meth c H locs 0 0 Q (F0 m 3 ls []) := by
  have hx := hC.1
  have hb := hC.2.1
  intro t
  induction t with
  | zero =>
    intro i h1 h2
    exact absurd h1 (by omega)
  | succ t ih =>
    intro i hik hi H locs ls hw hl
    obtain ⟨hP, hD, hS⟩ := hw
    refine lv_iload hx hb dX2_swap_2_3 (lv_at hl 4 rfl) ?_
    refine lv_iload_n hx hb dX2_swap_2_5 rfl (lv_at hl 3 rfl) ?_
    refine lz_icmp_ge (tgt := 27) hx hb dX2_swap_2_6 (by decide) (iz_t (by omega)) (iz_t (by omega)) (fun c1 => ?_) (fun c2 => ?_)
    · obtain rfl : i = k := by omega
      exact kexit H locs ls ⟨hP, hD, hS⟩
    · refine lv_aload_n hx hb dX2_swap_2_9 rfl (lv_at hl 0 rfl) ?_
      refine lv_iload_n hx hb dX2_swap_2_10 rfl (lv_at hl 1 rfl) ?_
      refine lv_iload_n hx hb dX2_swap_2_11 rfl (lv_at hl 2 rfl) ?_
      refine iw_swap hC hl.1 hRf hRl hK hP hD hS 0 rfl (a := a + i) (b := b + i) (by omega) (by omega) (by omega) (by omega) hn dX2_swap_2_12 (fun H locs hP hD hS => ?_)
      have hP : va_P D cl [(rp, .inl (d, n, .inl (is_sw (is_B P a b i) (a + i) (b + i))))] H := hP
      have hD : va_D A [(rp, .inl (d, n, .inl (is_sw (is_B P a b i) (a + i) (b + i))))] := hD
      rw [is_B_st P hab (by omega)] at hP hD
      refine lz_iinc (lv' := [(4, .int (iz_ ((i + 1 : Nat) : Int))), (0, .ref rp), (1, .int (iz_ (((a : Nat) : Int) + ((i : Nat) : Int)))), (2, .int (iz_ (((b : Nat) : Int) + ((i : Nat) : Int)))), (3, .int (iz_ ((k : Nat) : Int)))]) (k := 4) (z := ((i + 1 : Nat) : Int)) hx hb dX2_swap_2_15 hl rfl (by omega) (by decide) rfl (fun ls hl => ?_)
      refine lz_iinc (lv' := [(1, .int (iz_ (((a : Nat) : Int) + ((i + 1 : Nat) : Int)))), (4, .int (iz_ ((i + 1 : Nat) : Int))), (0, .ref rp), (2, .int (iz_ (((b : Nat) : Int) + ((i : Nat) : Int)))), (3, .int (iz_ ((k : Nat) : Int)))]) (k := 2) (z := (((a : Nat) : Int) + ((i + 1 : Nat) : Int))) hx hb dX2_swap_2_18 hl rfl (by omega) (by decide) rfl (fun ls hl => ?_)
      refine lz_iinc (lv' := [(2, .int (iz_ (((b : Nat) : Int) + ((i + 1 : Nat) : Int)))), (1, .int (iz_ (((a : Nat) : Int) + ((i + 1 : Nat) : Int)))), (4, .int (iz_ ((i + 1 : Nat) : Int))), (0, .ref rp), (3, .int (iz_ ((k : Nat) : Int)))]) (k := 3) (z := (((b : Nat) : Int) + ((i + 1 : Nat) : Int))) hx hb dX2_swap_2_21 hl rfl (by omega) (by decide) rfl (fun ls hl => ?_)
      refine lv_goto (tgt := 3) hx hb dX2_swap_2_24 (by decide) ?_
      exact ih (i + 1) (by omega) (by omega) H locs ls ⟨hP, hD, hS⟩ (lv_sub hl [3, 1, 0, 4, 2] rfl)
set_option maxHeartbeats 4000000 in
set_option maxRecDepth 100000 in
theorem iw_sel_in (hC : CallFix p m c cX2_selectionSort 6 s args lw_all RX2) (hK : va_K D cl [(d, .int)] s) {P : Nat → Int32} {lo hi i : Nat} (hih : i < hi) (hin : hi ≤ n) (hn : n ≤ 1000) {H : Heap} {locs : List Loc} (hw : iw_1 D cl A s rp d n P H locs)
    (kexit : ∀ (mm : Nat) (ls : Array Slot), i ≤ mm → mm < hi → (∀ q, i ≤ q → q < hi → (P mm).toInt ≤ (P q).toInt) → lv_has ls 6 [(0, .ref rp), (1, .int (iz_ ((lo : Nat) : Int))), (2, .int (iz_ ((hi : Nat) : Int))), (3, .int (iz_ ((i : Nat) : Int))), (4, .int (iz_ ((mm : Nat) : Int)))] → W p l e R s m args below meth c H locs 0 0 Q (F0 m 44 ls [])) :
    ∀ (t j mm : Nat), hi + 1 ≤ j + t → i < j → j ≤ hi → i ≤ mm → mm < j → (∀ q, i ≤ q → q < j → (P mm).toInt ≤ (P q).toInt) → ∀ (ls : Array Slot), lv_has ls 6 [(0, .ref rp), (1, .int (iz_ ((lo : Nat) : Int))), (2, .int (iz_ ((hi : Nat) : Int))), (3, .int (iz_ ((i : Nat) : Int))), (4, .int (iz_ ((mm : Nat) : Int))), (5, .int (iz_ ((j : Nat) : Int)))] → W p l e R s m args below meth c H locs 0 0 Q (F0 m 17 ls []) := by
  have hx := hC.1
  have hb := hC.2.1
  obtain ⟨hP, hD, hS⟩ := hw
  intro t
  induction t with
  | zero =>
    intro j mm h1 h2
    omega
  | succ t ih =>
    intro j mm h1 h2 h3 h4 h5 hm ls hl
    refine lv_iload hx hb dX2_selectionSort_17 (lv_at hl 5 rfl) ?_
    refine lv_iload_n hx hb dX2_selectionSort_19 rfl (lv_at hl 2 rfl) ?_
    refine lz_icmp_ge (tgt := 44) hx hb dX2_selectionSort_20 (by decide) (iz_t (by omega)) (iz_t (by omega)) (fun c1 => ?_) (fun c2 => ?_)
    · obtain rfl : j = hi := by omega
      exact kexit mm ls h4 h5 hm (lv_sub hl [0, 1, 2, 3, 4] rfl)
    · refine lv_aload_n hx hb dX2_selectionSort_23 rfl (lv_at hl 0 rfl) ?_
      refine lv_iload hx hb dX2_selectionSort_24 (lv_at hl 5 rfl) ?_
      refine lz_iald (k := j) hx hb hK hP 0 0 rfl rfl (by omega) (by omega) (by omega) dX2_selectionSort_26 ?_
      refine lv_aload_n hx hb dX2_selectionSort_27 rfl (lv_at hl 0 rfl) ?_
      refine lv_iload hx hb dX2_selectionSort_28 (lv_at hl 4 rfl) ?_
      refine lz_iald (k := mm) hx hb hK hP 0 0 rfl rfl (by omega) (by omega) (by omega) dX2_selectionSort_30 ?_
      refine lz_icmp_ge (tgt := 38) hx hb dX2_selectionSort_31 (by decide) rfl rfl (fun c3 => ?_) (fun c4 => ?_)
      · refine lz_iinc (lv' := [(5, .int (iz_ ((j + 1 : Nat) : Int))), (0, .ref rp), (1, .int (iz_ ((lo : Nat) : Int))), (2, .int (iz_ ((hi : Nat) : Int))), (3, .int (iz_ ((i : Nat) : Int))), (4, .int (iz_ ((mm : Nat) : Int)))]) (k := 5) (z := ((j + 1 : Nat) : Int)) hx hb dX2_selectionSort_38 hl rfl (by omega) (by decide) rfl (fun ls hl => ?_)
        refine lv_goto (tgt := 17) hx hb dX2_selectionSort_41 (by decide) ?_
        refine ih (j + 1) mm (by omega) (by omega) (by omega) h4 (by omega) (fun q q1 q2 => ?_) ls (lv_sub hl [1, 2, 3, 4, 5, 0] rfl)
        by_cases e1 : q = j
        · rw [e1]; exact c3
        · exact hm q q1 (by omega)
      · refine lv_iload hx hb dX2_selectionSort_34 (lv_at hl 5 rfl) ?_
        refine lv_istore (lv' := [(4, .int (iz_ ((j : Nat) : Int))), (0, .ref rp), (1, .int (iz_ ((lo : Nat) : Int))), (2, .int (iz_ ((hi : Nat) : Int))), (3, .int (iz_ ((i : Nat) : Int))), (5, .int (iz_ ((j : Nat) : Int)))]) hx hb dX2_selectionSort_36 hl (by decide) rfl (fun ls hl => ?_)
        refine lz_iinc (lv' := [(5, .int (iz_ ((j + 1 : Nat) : Int))), (4, .int (iz_ ((j : Nat) : Int))), (0, .ref rp), (1, .int (iz_ ((lo : Nat) : Int))), (2, .int (iz_ ((hi : Nat) : Int))), (3, .int (iz_ ((i : Nat) : Int)))]) (k := 5) (z := ((j + 1 : Nat) : Int)) hx hb dX2_selectionSort_38 hl rfl (by omega) (by decide) rfl (fun ls hl => ?_)
        refine lv_goto (tgt := 17) hx hb dX2_selectionSort_41 (by decide) ?_
        refine ih (j + 1) j (by omega) (by omega) (by omega) (by omega) (by omega) (fun q q1 q2 => ?_) ls (lv_sub hl [2, 3, 4, 5, 1, 0] rfl)
        by_cases e1 : q = j
        · rw [e1]; exact Int.le_refl _
        · exact Int.le_trans (Int.le_of_lt c4) (hm q q1 (by omega))
set_option maxHeartbeats 4000000 in
set_option maxRecDepth 100000 in
theorem iw_sel_out (hC : CallFix p m c cX2_selectionSort 6 s args lw_all RX2) (hK : va_K D cl [(d, .int)] s) {lo hi : Nat} (hlh : lo ≤ hi) (hin : hi ≤ n) (hn : n ≤ 1000)
    (kexit : ∀ (P : Nat → Int32) (H : Heap) (locs : List Loc) (ls : Array Slot), iw_1 D cl A s rp d n P H locs → is_R lo hi P0 P → is_S (fun z => z.toInt) P lo hi → W p l e R s m args below meth c H locs 0 0 Q (F0 m 74 ls [])) :
    ∀ (t i : Nat), hi + 1 ≤ i + t → lo ≤ i → i ≤ hi → ∀ (P : Nat → Int32) (H : Heap) (locs : List Loc) (ls : Array Slot), iw_1 D cl A s rp d n P H locs → is_R lo hi P0 P → is_T (fun z => z.toInt) P lo i hi → lv_has ls 6 [(0, .ref rp), (1, .int (iz_ ((lo : Nat) : Int))), (2, .int (iz_ ((hi : Nat) : Int))), (3, .int (iz_ ((i : Nat) : Int)))] → W p l e R s m args below meth c H locs 0 0 Q (F0 m 2 ls []) := by
  have hx := hC.1
  have hb := hC.2.1
  intro t
  induction t with
  | zero =>
    intro i h1 h2 h3
    omega
  | succ t ih =>
    intro i h1 h2 h3 P H locs ls hw hR hT hl
    obtain ⟨hP, hD, hS⟩ := hw
    refine lv_iload_n hx hb dX2_selectionSort_2 rfl (lv_at hl 3 rfl) ?_
    refine lv_iload_n hx hb dX2_selectionSort_3 rfl (lv_at hl 2 rfl) ?_
    refine lz_iconst hx hb dX2_selectionSort_4 ?_
    refine lz_isub (z := (((hi : Nat) : Int) - 1)) hx hb dX2_selectionSort_5 (by omega) ?_
    refine lz_icmp_ge (tgt := 74) hx hb dX2_selectionSort_6 (by decide) (iz_t (by omega)) (iz_t (by omega)) (fun c1 => ?_) (fun c2 => ?_)
    · exact kexit P H locs ls ⟨hP, hD, hS⟩ hR (is_T_S hT (by omega))
    · refine lv_iload_n hx hb dX2_selectionSort_9 rfl (lv_at hl 3 rfl) ?_
      refine lv_istore (lv' := [(4, .int (iz_ ((i : Nat) : Int))), (0, .ref rp), (1, .int (iz_ ((lo : Nat) : Int))), (2, .int (iz_ ((hi : Nat) : Int))), (3, .int (iz_ ((i : Nat) : Int)))]) hx hb dX2_selectionSort_10 hl (by decide) rfl (fun ls hl => ?_)
      refine lv_iload_n hx hb dX2_selectionSort_12 rfl (lv_at hl 4 rfl) ?_
      refine lz_iconst hx hb dX2_selectionSort_13 ?_
      refine lz_iadd (z := ((i + 1 : Nat) : Int)) hx hb dX2_selectionSort_14 (by omega) ?_
      refine lv_istore (lv' := [(5, .int (iz_ ((i + 1 : Nat) : Int))), (4, .int (iz_ ((i : Nat) : Int))), (0, .ref rp), (1, .int (iz_ ((lo : Nat) : Int))), (2, .int (iz_ ((hi : Nat) : Int))), (3, .int (iz_ ((i : Nat) : Int)))]) hx hb dX2_selectionSort_15 hl (by decide) rfl (fun ls hl => ?_)
      refine iw_sel_in (t := hi + 1) (j := i + 1) (mm := i) hC hK (P := P) (i := i) (lo := lo) (by omega) hin hn ⟨hP, hD, hS⟩ (fun mm ls m1 m2 hm hl => ?_) (by omega) (by omega) (by omega) (by omega) (by omega) (fun q q1 q2 => ?_) ls (lv_sub hl [2, 3, 4, 5, 1, 0] rfl)
      · refine lv_iload hx hb dX2_selectionSort_44 (lv_at hl 4 rfl) ?_
        refine lv_iload_n hx hb dX2_selectionSort_46 rfl (lv_at hl 3 rfl) ?_
        refine lz_icmp_eq (tgt := 68) hx hb dX2_selectionSort_47 (by decide) (iz_t (by omega)) (iz_t (by omega)) (fun c3 => ?_) (fun c4 => ?_)
        · obtain rfl : mm = i := by omega
          refine lz_iinc (lv' := [(3, .int (iz_ ((mm + 1 : Nat) : Int))), (0, .ref rp), (1, .int (iz_ ((lo : Nat) : Int))), (2, .int (iz_ ((hi : Nat) : Int))), (4, .int (iz_ ((mm : Nat) : Int)))]) (k := 3) (z := ((mm + 1 : Nat) : Int)) hx hb dX2_selectionSort_68 hl rfl (by omega) (by decide) rfl (fun ls hl => ?_)
          refine lv_goto (tgt := 2) hx hb dX2_selectionSort_71 (by decide) ?_
          exact ih (mm + 1) (by omega) (by omega) (by omega) P H locs ls ⟨hP, hD, hS⟩ hR (is_T_same hT h2 hm) (lv_sub hl [1, 2, 3, 0] rfl)
        · refine lv_aload_n hx hb dX2_selectionSort_50 rfl (lv_at hl 0 rfl) ?_
          refine lv_iload_n hx hb dX2_selectionSort_51 rfl (lv_at hl 3 rfl) ?_
          refine lz_iald (k := i) hx hb hK hP 0 0 rfl rfl (by omega) (by omega) (by omega) dX2_selectionSort_52 ?_
          refine lv_istore (lv' := [(5, .int (P i)), (0, .ref rp), (1, .int (iz_ ((lo : Nat) : Int))), (2, .int (iz_ ((hi : Nat) : Int))), (3, .int (iz_ ((i : Nat) : Int))), (4, .int (iz_ ((mm : Nat) : Int)))]) hx hb dX2_selectionSort_53 hl (by decide) rfl (fun ls hl => ?_)
          refine lv_aload_n hx hb dX2_selectionSort_55 rfl (lv_at hl 1 rfl) ?_
          refine lv_iload_n hx hb dX2_selectionSort_56 rfl (lv_at hl 4 rfl) ?_
          refine lv_aload_n hx hb dX2_selectionSort_57 rfl (lv_at hl 1 rfl) ?_
          refine lv_iload hx hb dX2_selectionSort_58 (lv_at hl 5 rfl) ?_
          refine lz_iald (k := mm) hx hb hK hP 0 0 rfl rfl (by omega) (by omega) (by omega) dX2_selectionSort_60 ?_
          refine lz_iast (k := i) hx hb hK hP hD hS 0 0 rfl rfl (by omega) (by omega) (by omega) dX2_selectionSort_61 (fun H locs hP hD hS => ?_)
          have hP : va_P D cl [(rp, .inl (d, n, .inl (upd P (i) ((P mm)))))] H := hP
          have hD : va_D A [(rp, .inl (d, n, .inl (upd P (i) ((P mm)))))] := hD
          refine lv_aload_n hx hb dX2_selectionSort_62 rfl (lv_at hl 1 rfl) ?_
          refine lv_iload hx hb dX2_selectionSort_63 (lv_at hl 5 rfl) ?_
          refine lv_iload hx hb dX2_selectionSort_65 (lv_at hl 0 rfl) ?_
          refine lz_iast (k := mm) hx hb hK hP hD hS 0 0 rfl rfl (by omega) (by omega) (by omega) dX2_selectionSort_67 (fun H locs hP hD hS => ?_)
          have hP : va_P D cl [(rp, .inl (d, n, .inl (upd (upd P (i) ((P mm))) (mm) ((P i)))))] H := hP
          have hD : va_D A [(rp, .inl (d, n, .inl (upd (upd P (i) ((P mm))) (mm) ((P i)))))] := hD
          refine lz_iinc (lv' := [(3, .int (iz_ ((i + 1 : Nat) : Int))), (5, .int (P i)), (0, .ref rp), (1, .int (iz_ ((lo : Nat) : Int))), (2, .int (iz_ ((hi : Nat) : Int))), (4, .int (iz_ ((mm : Nat) : Int)))]) (k := 4) (z := ((i + 1 : Nat) : Int)) hx hb dX2_selectionSort_68 hl rfl (by omega) (by decide) rfl (fun ls hl => ?_)
          refine lv_goto (tgt := 2) hx hb dX2_selectionSort_71 (by decide) ?_
          exact ih (i + 1) (by omega) (by omega) (by omega) (is_sw P i mm) H locs ls ⟨hP, hD, hS⟩ (is_R_st hR h2 (by omega) (by omega) m2) (is_T_st hT h2 m1 m2 hm) (lv_sub hl [2, 3, 4, 0] rfl)
      · obtain rfl : q = i := by omega
        exact Int.le_refl _
set_option maxHeartbeats 4000000 in
set_option maxRecDepth 100000 in
theorem iw_ins_in (hC : CallFix p m c cX2_insertionSortIndirect 8 s args lw_all RX2) (hK : va_K D cl [(d, .int)] s) {lo hi i : Nat} {tt : Int32} (hli : lo ≤ i) (hih : i < hi) (hin : hi ≤ n) (hn : n ≤ 1000) (htt : vp_in tt nx)
    (kexit : ∀ (h : Nat → Int32) (j : Nat) (H : Heap) (locs : List Loc) (ls : Array Slot), iw_2 D cl A s rp rx d n nx h X H locs → lo ≤ j → j ≤ i → is_R lo hi P0 (upd h j tt) → is_S (is_K X) (upd h j tt) lo (i + 1) → lv_has ls 8 [(0, .ref rp), (1, .ref rx), (2, .int (iz_ ((lo : Nat) : Int))), (3, .int (iz_ ((hi : Nat) : Int))), (4, .int (iz_ ((i : Nat) : Int))), (5, .int tt), (6, .int (iz_ ((j : Nat) : Int)))] → W p l e R s m args below meth c H locs 0 0 Q (F0 m 75 ls [])) :
    ∀ (t j : Nat), j ≤ lo + t → lo < j → j ≤ i → ∀ (h : Nat → Int32) (H : Heap) (locs : List Loc) (ls : Array Slot), iw_2 D cl A s rp rx d n nx h X H locs → (∀ q, lo ≤ q → q < hi → vp_in (h q) nx) → is_I (is_K X) P0 h tt lo hi i j → lv_has ls 8 [(0, .ref rp), (1, .ref rx), (2, .int (iz_ ((lo : Nat) : Int))), (3, .int (iz_ ((hi : Nat) : Int))), (4, .int (iz_ ((i : Nat) : Int))), (5, .int tt), (6, .int (iz_ ((j : Nat) : Int))), (7, .int (h (j - 1)))] → W p l e R s m args below meth c H locs 0 0 Q (F0 m 30 ls []) := by
  have hx := hC.1
  have hb := hC.2.1
  intro t
  induction t with
  | zero =>
    intro j h1 h2 h3
    omega
  | succ t ih =>
    intro j h1 h2 h3 h H locs ls hw hv hI hl
    obtain ⟨hP, hD, hS⟩ := hw
    refine lv_aload_n hx hb dX2_insertionSortIndirect_30 rfl (lv_at hl 1 rfl) ?_
    refine lv_iload hx hb dX2_insertionSortIndirect_31 (lv_at hl 5 rfl) ?_
    refine va_iald hx hb hK hP 1 0 rfl rfl htt dX2_insertionSortIndirect_33 ?_
    refine lv_aload_n hx hb dX2_insertionSortIndirect_34 rfl (lv_at hl 1 rfl) ?_
    refine lv_iload hx hb dX2_insertionSortIndirect_35 (lv_at hl 7 rfl) ?_
    refine va_iald hx hb hK hP 1 0 rfl rfl (hv (j - 1) (by omega) (by omega)) dX2_insertionSortIndirect_37 ?_
    refine lz_icmp_ge (tgt := 75) hx hb dX2_insertionSortIndirect_38 (by decide) rfl rfl (fun c1 => ?_) (fun c2 => ?_)
    · obtain ⟨g1, g2⟩ := is_I_end hI (by omega) h3 (Or.inr c1)
      exact kexit h j H locs ls ⟨hP, hD, hS⟩ (by omega) h3 g1 g2 (lv_sub hl [0, 1, 2, 3, 4, 5, 6] rfl)
    · have hI2 := is_I_st hI h2 h3 hih c2
      refine lv_aload_n hx hb dX2_insertionSortIndirect_41 rfl (lv_at hl 0 rfl) ?_
      refine lv_iload hx hb dX2_insertionSortIndirect_42 (lv_at hl 6 rfl) ?_
      refine lv_iload hx hb dX2_insertionSortIndirect_44 (lv_at hl 7 rfl) ?_
      refine lz_iast (k := j) hx hb hK hP hD hS 0 0 rfl rfl (by omega) (by omega) (by omega) dX2_insertionSortIndirect_46 (fun H locs hP hD hS => ?_)
      have hP : va_P D cl [(rp, .inl (d, n, .inl (upd h j (h (j - 1))))), (rx, .inl (d, nx, .inl X))] H := hP
      have hD : va_D A [(rp, .inl (d, n, .inl (upd h j (h (j - 1))))), (rx, .inl (d, nx, .inl X))] := hD
      have hv2 : ∀ q, lo ≤ q → q < hi → vp_in (upd h j (h (j - 1)) q) nx := by
        intro q q1 q2
        rw [is_upd_at]
        by_cases e1 : q = j
        · rw [if_pos e1]; exact hv (j - 1) (by omega) (by omega)
        · rw [if_neg e1]; exact hv q q1 q2
      refine lv_iload_n hx hb dX2_insertionSortIndirect_47 rfl (lv_at hl 2 rfl) ?_
      refine lv_iload hx hb dX2_insertionSortIndirect_48 (lv_at hl 6 rfl) ?_
      refine lz_iconst hx hb dX2_insertionSortIndirect_50 ?_
      refine lz_isub (z := (((j : Nat) : Int) - 1)) hx hb dX2_insertionSortIndirect_51 (by omega) ?_
      refine lz_icmp_ne (tgt := 61) hx hb dX2_insertionSortIndirect_52 (by decide) (iz_t (by omega)) (iz_t (by omega)) (fun c3 => ?_) (fun c4 => ?_)
      · refine lv_aload_n hx hb dX2_insertionSortIndirect_61 rfl (lv_at hl 0 rfl) ?_
        refine lz_iinc (lv' := [(6, .int (iz_ ((j - 1 : Nat) : Int))), (0, .ref rp), (1, .ref rx), (2, .int (iz_ ((lo : Nat) : Int))), (3, .int (iz_ ((hi : Nat) : Int))), (4, .int (iz_ ((i : Nat) : Int))), (5, .int tt), (7, .int (h (j - 1)))]) (k := 6) (z := ((j - 1 : Nat) : Int)) hx hb dX2_insertionSortIndirect_62 hl rfl (by omega) (by decide) rfl (fun ls hl => ?_)
        refine lv_iload hx hb dX2_insertionSortIndirect_65 (lv_at hl 0 rfl) ?_
        refine lz_iconst hx hb dX2_insertionSortIndirect_67 ?_
        refine lz_isub (z := (((j - 1 : Nat) : Int) - 1)) hx hb dX2_insertionSortIndirect_68 (by omega) ?_
        refine lz_iald (k := j - 1 - 1) hx hb hK hP 0 0 rfl rfl (by omega) (by omega) (by omega) dX2_insertionSortIndirect_69 ?_
        refine lv_istore (lv' := [(7, .int (upd h j (h (j - 1)) (j - 1 - 1))), (6, .int (iz_ ((j - 1 : Nat) : Int))), (0, .ref rp), (1, .ref rx), (2, .int (iz_ ((lo : Nat) : Int))), (3, .int (iz_ ((hi : Nat) : Int))), (4, .int (iz_ ((i : Nat) : Int))), (5, .int tt)]) hx hb dX2_insertionSortIndirect_70 hl (by decide) rfl (fun ls hl => ?_)
        refine lv_goto (tgt := 30) hx hb dX2_insertionSortIndirect_72 (by decide) ?_
        exact ih (j - 1) (by omega) (by omega) (by omega) _ H locs ls ⟨hP, hD, hS⟩ hv2 hI2 (lv_sub hl [2, 3, 4, 5, 6, 7, 1, 0] rfl)
      · refine lz_iinc (lv' := [(6, .int (iz_ ((j - 1 : Nat) : Int))), (0, .ref rp), (1, .ref rx), (2, .int (iz_ ((lo : Nat) : Int))), (3, .int (iz_ ((hi : Nat) : Int))), (4, .int (iz_ ((i : Nat) : Int))), (5, .int tt), (7, .int (h (j - 1)))]) (k := 6) (z := ((j - 1 : Nat) : Int)) hx hb dX2_insertionSortIndirect_55 hl rfl (by omega) (by decide) rfl (fun ls hl => ?_)
        refine lv_goto (tgt := 75) hx hb dX2_insertionSortIndirect_58 (by decide) ?_
        obtain ⟨g1, g2⟩ := is_I_end hI2 (by omega) (by omega) (Or.inl (by omega))
        exact kexit _ (j - 1) H locs ls ⟨hP, hD, hS⟩ (by omega) (by omega) g1 g2 (lv_sub hl [1, 2, 3, 4, 5, 6, 0] rfl)
set_option maxHeartbeats 4000000 in
set_option maxRecDepth 100000 in
theorem iw_ins_out (hC : CallFix p m c cX2_insertionSortIndirect 8 s args lw_all RX2) (hK : va_K D cl [(d, .int)] s) {lo hi : Nat} (hlh : lo ≤ hi) (hin : hi ≤ n) (hn : n ≤ 1000) (hv0 : ∀ q, lo ≤ q → q < hi → vp_in (P0 q) nx)
    (kexit : ∀ (P : Nat → Int32) (H : Heap) (locs : List Loc) (ls : Array Slot), iw_2 D cl A s rp rx d n nx P X H locs → is_R lo hi P0 P → is_S (is_K X) P lo hi → W p l e R s m args below meth c H locs 0 0 Q (F0 m 84 ls [])) :
    ∀ (t i : Nat), hi + 1 ≤ i + t → lo ≤ i → i ≤ hi → ∀ (P : Nat → Int32) (H : Heap) (locs : List Loc) (ls : Array Slot), iw_2 D cl A s rp rx d n nx P X H locs → is_R lo hi P0 P → is_S (is_K X) P lo (i + 1) → lv_has ls 8 [(0, .ref rp), (1, .ref rx), (2, .int (iz_ ((lo : Nat) : Int))), (3, .int (iz_ ((hi : Nat) : Int))), (4, .int (iz_ ((i : Nat) : Int)))] → W p l e R s m args below meth c H locs 0 0 Q (F0 m 3 ls []) := by
  have hx := hC.1
  have hb := hC.2.1
  intro t
  induction t with
  | zero =>
    intro i h1 h2 h3
    omega
  | succ t ih =>
    intro i h1 h2 h3 P H locs ls hw hR hs hl
    have hv := is_R_all hR (p := fun z => vp_in z nx) hv0
    obtain ⟨hP, hD, hS⟩ := hw
    refine lz_iinc (lv' := [(4, .int (iz_ ((i + 1 : Nat) : Int))), (0, .ref rp), (1, .ref rx), (2, .int (iz_ ((lo : Nat) : Int))), (3, .int (iz_ ((hi : Nat) : Int)))]) (k := 4) (z := ((i + 1 : Nat) : Int)) hx hb dX2_insertionSortIndirect_3 hl rfl (by omega) (by decide) rfl (fun ls hl => ?_)
    refine lv_iload hx hb dX2_insertionSortIndirect_6 (lv_at hl 0 rfl) ?_
    refine lv_iload_n hx hb dX2_insertionSortIndirect_8 rfl (lv_at hl 4 rfl) ?_
    refine lz_icmp_ge (tgt := 84) hx hb dX2_insertionSortIndirect_9 (by decide) (iz_t (by omega)) (iz_t (by omega)) (fun c1 => ?_) (fun c2 => ?_)
    · exact kexit P H locs ls ⟨hP, hD, hS⟩ hR (fun q r q1 q2 q3 => hs q r q1 q2 (by omega))
    · refine lv_aload_n hx hb dX2_insertionSortIndirect_12 rfl (lv_at hl 1 rfl) ?_
      refine lv_iload hx hb dX2_insertionSortIndirect_13 (lv_at hl 0 rfl) ?_
      refine lz_iald (k := (i + 1)) hx hb hK hP 0 0 rfl rfl (by omega) (by omega) (by omega) dX2_insertionSortIndirect_15 ?_
      refine lv_istore (lv' := [(5, .int (P ((i + 1)))), (4, .int (iz_ ((i + 1 : Nat) : Int))), (0, .ref rp), (1, .ref rx), (2, .int (iz_ ((lo : Nat) : Int))), (3, .int (iz_ ((hi : Nat) : Int)))]) hx hb dX2_insertionSortIndirect_16 hl (by decide) rfl (fun ls hl => ?_)
      refine lv_iload hx hb dX2_insertionSortIndirect_18 (lv_at hl 1 rfl) ?_
      refine lv_istore (lv' := [(6, .int (iz_ ((i + 1 : Nat) : Int))), (5, .int (P ((i + 1)))), (4, .int (iz_ ((i + 1 : Nat) : Int))), (0, .ref rp), (1, .ref rx), (2, .int (iz_ ((lo : Nat) : Int))), (3, .int (iz_ ((hi : Nat) : Int)))]) hx hb dX2_insertionSortIndirect_20 hl (by decide) rfl (fun ls hl => ?_)
      refine lv_aload_n hx hb dX2_insertionSortIndirect_22 rfl (lv_at hl 3 rfl) ?_
      refine lv_iload hx hb dX2_insertionSortIndirect_23 (lv_at hl 0 rfl) ?_
      refine lz_iconst hx hb dX2_insertionSortIndirect_25 ?_
      refine lz_isub (z := (((i + 1 : Nat) : Int) - 1)) hx hb dX2_insertionSortIndirect_26 (by omega) ?_
      refine lz_iald (k := i + 1 - 1) hx hb hK hP 0 0 rfl rfl (by omega) (by omega) (by omega) dX2_insertionSortIndirect_27 ?_
      refine lv_istore (lv' := [(7, .int (P (i + 1 - 1))), (6, .int (iz_ ((i + 1 : Nat) : Int))), (5, .int (P ((i + 1)))), (4, .int (iz_ ((i + 1 : Nat) : Int))), (0, .ref rp), (1, .ref rx), (2, .int (iz_ ((lo : Nat) : Int))), (3, .int (iz_ ((hi : Nat) : Int)))]) hx hb dX2_insertionSortIndirect_28 hl (by decide) rfl (fun ls hl => ?_)
      refine iw_ins_in (t := hi) (j := i + 1) hC hK (P0 := P0) (X := X) (lo := lo) (hi := hi) (i := i + 1) (tt := P (i + 1)) (by omega) (by omega) hin hn (hv (i + 1) (by omega) (by omega)) (fun h j H locs ls hw j1 j2 g1 g2 hl => ?_) (by omega) (by omega) (by omega) P H locs ls ⟨hP, hD, hS⟩ hv (is_I_0 hR hs) (lv_sub hl [4, 5, 6, 7, 3, 2, 1, 0] rfl)
      obtain ⟨hP, hD, hS⟩ := hw
      refine lv_aload_n hx hb dX2_insertionSortIndirect_75 rfl (lv_at hl 0 rfl) ?_
      refine lv_iload hx hb dX2_insertionSortIndirect_76 (lv_at hl 6 rfl) ?_
      refine lv_iload hx hb dX2_insertionSortIndirect_78 (lv_at hl 5 rfl) ?_
      refine lz_iast (k := j) hx hb hK hP hD hS 0 0 rfl rfl (by omega) (by omega) (by omega) dX2_insertionSortIndirect_80 (fun H locs hP hD hS => ?_)
      have hP : va_P D cl [(rp, .inl (d, n, .inl (upd h j (P (i + 1))))), (rx, .inl (d, nx, .inl X))] H := hP
      have hD : va_D A [(rp, .inl (d, n, .inl (upd h j (P (i + 1))))), (rx, .inl (d, nx, .inl X))] := hD
      refine lv_goto (tgt := 3) hx hb dX2_insertionSortIndirect_81 (by decide) ?_
      exact ih (i + 1) (by omega) (by omega) (by omega) _ H locs ls ⟨hP, hD, hS⟩ g1 g2 (lv_sub hl [0, 1, 2, 3, 4] rfl)
end
set_option maxHeartbeats 4000000 in
set_option maxRecDepth 100000 in
/-- the k values from a on and the k values from b on change places -/
theorem met_swap2 (l : Launch) (D : va_G) (cl : List vw_C) (rp : Nat) (d : ClassId) (n : Nat) (P : Nat → Int32) (a b k : Nat) (hab : a + k ≤ b) (hbn : b + k ≤ n) (hn : n ≤ 1000) : Met l yX2_swap_2 (ws_ yX2_swap_2 cX2_swap_2 5 none) ({ frames := 1, cells := 0, slots := 0, locals := 23 }) (va_Pc [.ref rp, .int (iz_ ((a : Nat) : Int)), .int (iz_ ((b : Nat) : Int)), .int (iz_ ((k : Nat) : Int))] (iw_B D cl [(rp, .inl (d, n, .inl P))] [(d, .int)])) (va_Qv (fun P' : Nat → Int32 => P' = is_B P a b k) (fun P' t => va_P D cl [(rp, .inl (d, n, .inl P'))] t.heap) (iw_A [(rp, .inl (d, n, .inl P))])) 0 0 (iw_A [(rp, .inl (d, n, .inl P))]) := by
  refine Met.ofW (cc := cX2_swap_2) (maxL := 5) (ret := none) (by decide) rfl ?_
  intro p e s m args below meth c s₁ B hml hv
  obtain ⟨rfl, hP, hK, hD0⟩ := hv
  have hx := B.exec
  have hb := B.bytes
  have hr := B.returns
  have hlocks := B.notSynchronized
  have hts0 := atoms_spec B.pre
  have hts : ∀ w ∈ lw_all, w.before _ s = true := fun w h => hts0 w (List.mem_cons_of_mem _ h)
  have hown : s.vm.findClass RX2 = some m.cls := findClass_of_methodNamed B.named
  have hC : CallFix p m c cX2_swap_2 5 s _ lw_all RX2 := ⟨hx, hb, hml, hown, hts⟩
  have hD := iw_Dself hD0
  generalize hAe : iw_A [(rp, .inl (d, n, .inl P))] = A at hD ⊢
  have hS : va_S A s.heap s.heap [] := va_S.rf
  have hl := lv_entry ([.ref rp, .int (iz_ ((a : Nat) : Int)), .int (iz_ ((b : Nat) : Int)), .int (iz_ ((k : Nat) : Int))]) (n := 5) (Nat.le_of_ble_eq_true rfl)
  rw [lg_entry_eq]
  generalize (lg_sl ([.ref rp, .int (iz_ ((a : Nat) : Int)), .int (iz_ ((b : Nat) : Int)), .int (iz_ ((k : Nat) : Int))]) ++ List.replicate (5 - (lg_sl ([.ref rp, .int (iz_ ((a : Nat) : Int)), .int (iz_ ((b : Nat) : Int)), .int (iz_ ((k : Nat) : Int))])).length) Slot.unset).toArray = ls at hl ⊢
  have hl : lv_has ls 5 [(0, .ref rp), (1, .int (iz_ ((a : Nat) : Int))), (2, .int (iz_ ((b : Nat) : Int))), (3, .int (iz_ ((k : Nat) : Int)))] := hl
  refine lz_iconst hx hb dX2_swap_2_0 ?_
  refine lv_istore (lv' := [(4, .int (iz_ ((0 : Int)))), (0, .ref rp), (1, .int (iz_ ((a : Nat) : Int))), (2, .int (iz_ ((b : Nat) : Int))), (3, .int (iz_ ((k : Nat) : Int)))]) hx hb dX2_swap_2_1 hl (by decide) rfl (fun ls hl => ?_)
  refine iw_swap2_loop (t := k + 1) (i := 0) hC (Nat.le_of_ble_eq_true rfl) (Nat.le_of_ble_eq_true rfl) hK (P := P) (a := a) (b := b) (k := k) hab hbn hn (fun H locs ls hw => ?_) (by omega) (Nat.zero_le _) s.heap [] ls (by rw [is_B_0]; exact ⟨hP, hD, hS⟩) (lv_sub hl [1, 2, 3, 4, 0] rfl)
  obtain ⟨hP, hD, hS⟩ := hw
  exact W.vret hx hb hr (fun t ht hW => ⟨⟨_, rfl, rfl, by show va_P D cl _ t.heap; rw [ht]; exact hP⟩, hS.F ht⟩) hS.2.2 dX2_swap_2_27
set_option maxHeartbeats 4000000 in
set_option maxRecDepth 100000 in
/-- selectionSort: the values of [lo, hi) in order -/
theorem met_selsort (l : Launch) (D : va_G) (cl : List vw_C) (rp : Nat) (d : ClassId) (n : Nat) (P : Nat → Int32) (lo hi : Nat) (hlh : lo ≤ hi) (hhn : hi ≤ n) (hn : n ≤ 1000) : Met l yX2_selectionSort (ws_ yX2_selectionSort cX2_selectionSort 6 none) ({ frames := 0, cells := 0, slots := 0, locals := 0 }) (va_Pc [.ref rp, .int (iz_ ((lo : Nat) : Int)), .int (iz_ ((hi : Nat) : Int))] (iw_B D cl [(rp, .inl (d, n, .inl P))] [(d, .int)])) (va_Qv (fun P' : Nat → Int32 => is_R lo hi P P' ∧ is_S (fun z => z.toInt) P' lo hi) (fun P' t => va_P D cl [(rp, .inl (d, n, .inl P'))] t.heap) (iw_A [(rp, .inl (d, n, .inl P))])) 0 0 (iw_A [(rp, .inl (d, n, .inl P))]) := by
  refine Met.ofW (cc := cX2_selectionSort) (maxL := 6) (ret := none) (by decide) rfl ?_
  intro p e s m args below meth c s₁ B hml hv
  obtain ⟨rfl, hP, hK, hD0⟩ := hv
  have hx := B.exec
  have hb := B.bytes
  have hr := B.returns
  have hlocks := B.notSynchronized
  have hts0 := atoms_spec B.pre
  have hts : ∀ w ∈ lw_all, w.before _ s = true := fun w h => hts0 w (List.mem_cons_of_mem _ h)
  have hown : s.vm.findClass RX2 = some m.cls := findClass_of_methodNamed B.named
  have hC : CallFix p m c cX2_selectionSort 6 s _ lw_all RX2 := ⟨hx, hb, hml, hown, hts⟩
  have hD := iw_Dself hD0
  generalize hAe : iw_A [(rp, .inl (d, n, .inl P))] = A at hD ⊢
  have hS : va_S A s.heap s.heap [] := va_S.rf
  have hl := lv_entry ([.ref rp, .int (iz_ ((lo : Nat) : Int)), .int (iz_ ((hi : Nat) : Int))]) (n := 6) (Nat.le_of_ble_eq_true rfl)
  rw [lg_entry_eq]
  generalize (lg_sl ([.ref rp, .int (iz_ ((lo : Nat) : Int)), .int (iz_ ((hi : Nat) : Int))]) ++ List.replicate (6 - (lg_sl ([.ref rp, .int (iz_ ((lo : Nat) : Int)), .int (iz_ ((hi : Nat) : Int))])).length) Slot.unset).toArray = ls at hl ⊢
  have hl : lv_has ls 6 [(0, .ref rp), (1, .int (iz_ ((lo : Nat) : Int))), (2, .int (iz_ ((hi : Nat) : Int)))] := hl
  refine lv_iload_n hx hb dX2_selectionSort_0 rfl (lv_at hl 1 rfl) ?_
  refine lv_istore_n (lv' := [(3, .int (iz_ ((lo : Nat) : Int))), (0, .ref rp), (1, .int (iz_ ((lo : Nat) : Int))), (2, .int (iz_ ((hi : Nat) : Int)))]) hx hb dX2_selectionSort_1 rfl hl (by decide) rfl (fun ls hl => ?_)
  refine iw_sel_out (t := hi + 1) (i := lo) hC hK (P0 := P) (lo := lo) (hi := hi) hlh hhn hn (fun Pn H locs ls hw hR hT => ?_) (by omega) (Nat.le_refl _) hlh P s.heap [] ls ⟨hP, hD, hS⟩ is_R_rf is_T_0 (lv_sub hl [1, 2, 3, 0] rfl)
  obtain ⟨hP, hD, hS⟩ := hw
  exact W.vret hx hb hr (fun t ht hW => ⟨⟨_, rfl, ⟨hR, hT⟩, by show va_P D cl _ t.heap; rw [ht]; exact hP⟩, hS.F ht⟩) hS.2.2 dX2_selectionSort_74
set_option maxHeartbeats 4000000 in
set_option maxRecDepth 100000 in
/-- insertionSortIndirect: the values of [lo, hi) in the order of their keys -/
theorem met_inssort (l : Launch) (D : va_G) (cl : List vw_C) (rp rx : Nat) (d : ClassId) (n nx : Nat) (P X : Nat → Int32) (lo hi : Nat) (hlh : lo ≤ hi) (hhn : hi ≤ n) (hn : n ≤ 1000) (hv : ∀ q, lo ≤ q → q < hi → vp_in (P q) nx) : Met l yX2_insertionSortIndirect (ws_ yX2_insertionSortIndirect cX2_insertionSortIndirect 8 none) ({ frames := 0, cells := 0, slots := 0, locals := 0 }) (va_Pc [.ref rp, .ref rx, .int (iz_ ((lo : Nat) : Int)), .int (iz_ ((hi : Nat) : Int))] (iw_B D cl [(rp, .inl (d, n, .inl P)), (rx, .inl (d, nx, .inl X))] [(d, .int)])) (va_Qv (fun P' : Nat → Int32 => is_R lo hi P P' ∧ is_S (is_K X) P' lo hi) (fun P' t => va_P D cl [(rp, .inl (d, n, .inl P')), (rx, .inl (d, nx, .inl X))] t.heap) (iw_A [(rp, .inl (d, n, .inl P)), (rx, .inl (d, nx, .inl X))])) 0 0 (iw_A [(rp, .inl (d, n, .inl P)), (rx, .inl (d, nx, .inl X))]) := by
  refine Met.ofW (cc := cX2_insertionSortIndirect) (maxL := 8) (ret := none) (by decide) rfl ?_
  intro p e s m args below meth c s₁ B hml hv
  obtain ⟨rfl, hP, hK, hD0⟩ := hv
  have hx := B.exec
  have hb := B.bytes
  have hr := B.returns
  have hlocks := B.notSynchronized
  have hts0 := atoms_spec B.pre
  have hts : ∀ w ∈ lw_all, w.before _ s = true := fun w h => hts0 w (List.mem_cons_of_mem _ h)
  have hown : s.vm.findClass RX2 = some m.cls := findClass_of_methodNamed B.named
  have hC : CallFix p m c cX2_insertionSortIndirect 8 s _ lw_all RX2 := ⟨hx, hb, hml, hown, hts⟩
  have hD := iw_Dself hD0
  generalize hAe : iw_A [(rp, .inl (d, n, .inl P)), (rx, .inl (d, nx, .inl X))] = A at hD ⊢
  have hS : va_S A s.heap s.heap [] := va_S.rf
  have hl := lv_entry ([.ref rp, .ref rx, .int (iz_ ((lo : Nat) : Int)), .int (iz_ ((hi : Nat) : Int))]) (n := 8) (Nat.le_of_ble_eq_true rfl)
  rw [lg_entry_eq]
  generalize (lg_sl ([.ref rp, .ref rx, .int (iz_ ((lo : Nat) : Int)), .int (iz_ ((hi : Nat) : Int))]) ++ List.replicate (8 - (lg_sl ([.ref rp, .ref rx, .int (iz_ ((lo : Nat) : Int)), .int (iz_ ((hi : Nat) : Int))])).length) Slot.unset).toArray = ls at hl ⊢
  have hl : lv_has ls 8 [(0, .ref rp), (1, .ref rx), (2, .int (iz_ ((lo : Nat) : Int))), (3, .int (iz_ ((hi : Nat) : Int)))] := hl
  refine lv_iload_n hx hb dX2_insertionSortIndirect_0 rfl (lv_at hl 2 rfl) ?_
  refine lv_istore (lv' := [(4, .int (iz_ ((lo : Nat) : Int))), (0, .ref rp), (1, .ref rx), (2, .int (iz_ ((lo : Nat) : Int))), (3, .int (iz_ ((hi : Nat) : Int)))]) hx hb dX2_insertionSortIndirect_1 hl (by decide) rfl (fun ls hl => ?_)
  refine iw_ins_out (t := hi + 1) (i := lo) hC hK (P0 := P) (X := X) (nx := nx) (lo := lo) (hi := hi) hlh hhn hn hv (fun Pn H locs ls hw hR hT => ?_) (by omega) (Nat.le_refl _) hlh P s.heap [] ls ⟨hP, hD, hS⟩ is_R_rf (is_S_1 (Nat.le_refl _)) (lv_sub hl [1, 2, 3, 4, 0] rfl)
  obtain ⟨hP, hD, hS⟩ := hw
  exact W.vret hx hb hr (fun t ht hW => ⟨⟨_, rfl, ⟨hR, hT⟩, by show va_P D cl _ t.heap; rw [ht]; exact hP⟩, hS.F ht⟩) hS.2.2 dX2_insertionSortIndirect_84
set_option maxHeartbeats 4000000 in
set_option maxRecDepth 100000 in
/-- one of the three places -/
theorem met_med3 (l : Launch) (D : va_G) (cl : List vw_C) (rp : Nat) (d : ClassId) (n : Nat) (P : Nat → Int32) (a b k : Nat) (ha : a < n) (hb2 : b < n) (hk : k < n) (hn : n ≤ 1000) : Met l yX2_med3 (ws_ yX2_med3 cX2_med3 7 (some .int)) ({ frames := 1, cells := 0, slots := 0, locals := 23 }) (va_Pc [.ref rp, .int (iz_ ((a : Nat) : Int)), .int (iz_ ((b : Nat) : Int)), .int (iz_ ((k : Nat) : Int))] (iw_B D cl [(rp, .inl (d, n, .inl P))] [(d, .int)])) (vp_Si (fun r => r = iz_ (a : Int) ∨ r = iz_ (b : Int) ∨ r = iz_ (k : Int))) 0 0 (fun _ => False) := by
  refine Met.ofW (cc := cX2_med3) (maxL := 7) (ret := (some .int)) (by decide) rfl ?_
  intro p e s m args below meth c s₁ B hml hv
  obtain ⟨rfl, hP, hK, hD0⟩ := hv
  have hx := B.exec
  have hb := B.bytes
  have hr := B.returns
  have hlocks := B.notSynchronized
  have hts0 := atoms_spec B.pre
  have hts : ∀ w ∈ lw_all, w.before _ s = true := fun w h => hts0 w (List.mem_cons_of_mem _ h)
  have hown : s.vm.findClass RX2 = some m.cls := findClass_of_methodNamed B.named
  have hC : CallFix p m c cX2_med3 7 s _ lw_all RX2 := ⟨hx, hb, hml, hown, hts⟩
  have hD := iw_Dself hD0
  generalize hAe : iw_A [(rp, .inl (d, n, .inl P))] = A at hD ⊢
  have hS : va_S A s.heap s.heap [] := va_S.rf
  have hl := lv_entry ([.ref rp, .int (iz_ ((a : Nat) : Int)), .int (iz_ ((b : Nat) : Int)), .int (iz_ ((k : Nat) : Int))]) (n := 7) (Nat.le_of_ble_eq_true rfl)
  rw [lg_entry_eq]
  generalize (lg_sl ([.ref rp, .int (iz_ ((a : Nat) : Int)), .int (iz_ ((b : Nat) : Int)), .int (iz_ ((k : Nat) : Int))]) ++ List.replicate (7 - (lg_sl ([.ref rp, .int (iz_ ((a : Nat) : Int)), .int (iz_ ((b : Nat) : Int)), .int (iz_ ((k : Nat) : Int))])).length) Slot.unset).toArray = ls at hl ⊢
  have hl : lv_has ls 7 [(0, .ref rp), (1, .int (iz_ ((a : Nat) : Int))), (2, .int (iz_ ((b : Nat) : Int))), (3, .int (iz_ ((k : Nat) : Int)))] := hl
  have hRf : 1 ≤ (headSpec (ws_ yX2_med3 cX2_med3 7 (some .int)) ({ frames := 1, cells := 0, slots := 0, locals := 23 })).room.frames := Nat.le_of_ble_eq_true rfl
  have hRl : 23 ≤ (headSpec (ws_ yX2_med3 cX2_med3 7 (some .int)) ({ frames := 1, cells := 0, slots := 0, locals := 23 })).room.locals := Nat.le_of_ble_eq_true rfl
  refine lv_aload_n hx hb dX2_med3_0 rfl (lv_at hl 0 rfl) ?_
  refine lv_iload_n hx hb dX2_med3_1 rfl (lv_at hl 1 rfl) ?_
  refine lz_iald (k := a) hx hb hK hP 0 0 rfl rfl (by omega) (by omega) (by omega) dX2_med3_2 ?_
  refine lv_aload_n hx hb dX2_med3_3 rfl (lv_at hl 0 rfl) ?_
  refine lv_iload_n hx hb dX2_med3_4 rfl (lv_at hl 2 rfl) ?_
  refine lz_iald (k := b) hx hb hK hP 0 0 rfl rfl (by omega) (by omega) (by omega) dX2_med3_5 ?_
  refine iw_cmp hC hl.1 hRf hRl ⟨Nat.zero_le _, Nat.zero_le _⟩ dX2_med3_6 (fun r1 hr1 => ?_)
  refine lv_istore (lv' := [(4, .int r1), (0, .ref rp), (1, .int (iz_ ((a : Nat) : Int))), (2, .int (iz_ ((b : Nat) : Int))), (3, .int (iz_ ((k : Nat) : Int)))]) hx hb dX2_med3_9 hl (by decide) rfl (fun ls hl => ?_)
  refine lv_aload_n hx hb dX2_med3_11 rfl (lv_at hl 1 rfl) ?_
  refine lv_iload_n hx hb dX2_med3_12 rfl (lv_at hl 2 rfl) ?_
  refine lz_iald (k := a) hx hb hK hP 0 0 rfl rfl (by omega) (by omega) (by omega) dX2_med3_13 ?_
  refine lv_aload_n hx hb dX2_med3_14 rfl (lv_at hl 1 rfl) ?_
  refine lv_iload_n hx hb dX2_med3_15 rfl (lv_at hl 4 rfl) ?_
  refine lz_iald (k := k) hx hb hK hP 0 0 rfl rfl (by omega) (by omega) (by omega) dX2_med3_16 ?_
  refine iw_cmp hC hl.1 hRf hRl ⟨Nat.zero_le _, Nat.zero_le _⟩ dX2_med3_17 (fun r2 hr2 => ?_)
  refine lv_istore (lv' := [(5, .int r2), (4, .int r1), (0, .ref rp), (1, .int (iz_ ((a : Nat) : Int))), (2, .int (iz_ ((b : Nat) : Int))), (3, .int (iz_ ((k : Nat) : Int)))]) hx hb dX2_med3_20 hl (by decide) rfl (fun ls hl => ?_)
  refine lv_aload_n hx hb dX2_med3_22 rfl (lv_at hl 2 rfl) ?_
  refine lv_iload_n hx hb dX2_med3_23 rfl (lv_at hl 4 rfl) ?_
  refine lz_iald (k := b) hx hb hK hP 0 0 rfl rfl (by omega) (by omega) (by omega) dX2_med3_24 ?_
  refine lv_aload_n hx hb dX2_med3_25 rfl (lv_at hl 2 rfl) ?_
  refine lv_iload_n hx hb dX2_med3_26 rfl (lv_at hl 5 rfl) ?_
  refine lz_iald (k := k) hx hb hK hP 0 0 rfl rfl (by omega) (by omega) (by omega) dX2_med3_27 ?_
  refine iw_cmp hC hl.1 hRf hRl ⟨Nat.zero_le _, Nat.zero_le _⟩ dX2_med3_28 (fun r3 hr3 => ?_)
  refine lv_istore (lv' := [(6, .int r3), (5, .int r2), (4, .int r1), (0, .ref rp), (1, .int (iz_ ((a : Nat) : Int))), (2, .int (iz_ ((b : Nat) : Int))), (3, .int (iz_ ((k : Nat) : Int)))]) hx hb dX2_med3_31 hl (by decide) rfl (fun ls hl => ?_)
  refine lv_iload hx hb dX2_med3_33 (lv_at hl 2 rfl) ?_
  refine lz_if_ge (tgt := 60) hx hb dX2_med3_35 (by decide) rfl (fun c1 => ?_) (fun c2 => ?_)
  · refine lv_iload hx hb dX2_med3_60 (lv_at hl 0 rfl) ?_
    refine lz_if_le (tgt := 69) hx hb dX2_med3_62 (by decide) rfl (fun c1 => ?_) (fun c2 => ?_)
    · refine lv_iload hx hb dX2_med3_69 (lv_at hl 1 rfl) ?_
      refine lz_if_le (tgt := 78) hx hb dX2_med3_71 (by decide) rfl (fun c1 => ?_) (fun c2 => ?_)
      · refine lv_iload_n hx hb dX2_med3_78 rfl (lv_at hl 4 rfl) ?_
        exact W.iret (v := iz_ ((a : Nat) : Int)) hx hb hr (fun t ht hW => ⟨_, rfl, Or.inl rfl, ht⟩) (fun _ h => by cases h) dX2_med3_79
      · refine lv_iload_n hx hb dX2_med3_74 rfl (lv_at hl 6 rfl) ?_
        refine lv_goto (tgt := 79) hx hb dX2_med3_75 (by decide) ?_
        exact W.iret (v := iz_ ((k : Nat) : Int)) hx hb hr (fun t ht hW => ⟨_, rfl, Or.inr (Or.inr rfl), ht⟩) (fun _ h => by cases h) dX2_med3_79
    · refine lv_iload_n hx hb dX2_med3_65 rfl (lv_at hl 5 rfl) ?_
      refine lv_goto (tgt := 79) hx hb dX2_med3_66 (by decide) ?_
      exact W.iret (v := iz_ ((b : Nat) : Int)) hx hb hr (fun t ht hW => ⟨_, rfl, Or.inr (Or.inl rfl), ht⟩) (fun _ h => by cases h) dX2_med3_79
  · refine lv_iload hx hb dX2_med3_38 (lv_at hl 0 rfl) ?_
    refine lz_if_ge (tgt := 47) hx hb dX2_med3_40 (by decide) rfl (fun c1 => ?_) (fun c2 => ?_)
    · refine lv_iload hx hb dX2_med3_47 (lv_at hl 1 rfl) ?_
      refine lz_if_ge (tgt := 56) hx hb dX2_med3_49 (by decide) rfl (fun c1 => ?_) (fun c2 => ?_)
      · refine lv_iload_n hx hb dX2_med3_56 rfl (lv_at hl 4 rfl) ?_
        refine lv_goto (tgt := 79) hx hb dX2_med3_57 (by decide) ?_
        exact W.iret (v := iz_ ((a : Nat) : Int)) hx hb hr (fun t ht hW => ⟨_, rfl, Or.inl rfl, ht⟩) (fun _ h => by cases h) dX2_med3_79
      · refine lv_iload_n hx hb dX2_med3_52 rfl (lv_at hl 6 rfl) ?_
        refine lv_goto (tgt := 79) hx hb dX2_med3_53 (by decide) ?_
        exact W.iret (v := iz_ ((k : Nat) : Int)) hx hb hr (fun t ht hW => ⟨_, rfl, Or.inr (Or.inr rfl), ht⟩) (fun _ h => by cases h) dX2_med3_79
    · refine lv_iload_n hx hb dX2_med3_43 rfl (lv_at hl 5 rfl) ?_
      refine lv_goto (tgt := 79) hx hb dX2_med3_44 (by decide) ?_
      exact W.iret (v := iz_ ((b : Nat) : Int)) hx hb hr (fun t ht hW => ⟨_, rfl, Or.inr (Or.inl rfl), ht⟩) (fun _ h => by cases h) dX2_med3_79
set_option maxHeartbeats 4000000 in
set_option maxRecDepth 100000 in
/-- one of the three places -/
theorem met_med3i (l : Launch) (D : va_G) (cl : List vw_C) (rp rx : Nat) (d : ClassId) (n nx : Nat) (P X : Nat → Int32) (a b k : Nat) (ha : a < n) (hb2 : b < n) (hk : k < n) (hn : n ≤ 1000) (va : vp_in (P a) nx) (vb : vp_in (P b) nx) (vk : vp_in (P k) nx) : Met l yX2_med3Indirect (ws_ yX2_med3Indirect cX2_med3Indirect 11 (some .int)) ({ frames := 1, cells := 0, slots := 0, locals := 23 }) (va_Pc [.ref rp, .ref rx, .int (iz_ ((a : Nat) : Int)), .int (iz_ ((b : Nat) : Int)), .int (iz_ ((k : Nat) : Int))] (iw_B D cl [(rp, .inl (d, n, .inl P)), (rx, .inl (d, nx, .inl X))] [(d, .int)])) (vp_Si (fun r => r = iz_ (a : Int) ∨ r = iz_ (b : Int) ∨ r = iz_ (k : Int))) 0 0 (fun _ => False) := by
  refine Met.ofW (cc := cX2_med3Indirect) (maxL := 11) (ret := (some .int)) (by decide) rfl ?_
  intro p e s m args below meth c s₁ B hml hv
  obtain ⟨rfl, hP, hK, hD0⟩ := hv
  have hx := B.exec
  have hb := B.bytes
  have hr := B.returns
  have hlocks := B.notSynchronized
  have hts0 := atoms_spec B.pre
  have hts : ∀ w ∈ lw_all, w.before _ s = true := fun w h => hts0 w (List.mem_cons_of_mem _ h)
  have hown : s.vm.findClass RX2 = some m.cls := findClass_of_methodNamed B.named
  have hC : CallFix p m c cX2_med3Indirect 11 s _ lw_all RX2 := ⟨hx, hb, hml, hown, hts⟩
  have hD := iw_Dself hD0
  generalize hAe : iw_A [(rp, .inl (d, n, .inl P)), (rx, .inl (d, nx, .inl X))] = A at hD ⊢
  have hS : va_S A s.heap s.heap [] := va_S.rf
  have hl := lv_entry ([.ref rp, .ref rx, .int (iz_ ((a : Nat) : Int)), .int (iz_ ((b : Nat) : Int)), .int (iz_ ((k : Nat) : Int))]) (n := 11) (Nat.le_of_ble_eq_true rfl)
  rw [lg_entry_eq]
  generalize (lg_sl ([.ref rp, .ref rx, .int (iz_ ((a : Nat) : Int)), .int (iz_ ((b : Nat) : Int)), .int (iz_ ((k : Nat) : Int))]) ++ List.replicate (11 - (lg_sl ([.ref rp, .ref rx, .int (iz_ ((a : Nat) : Int)), .int (iz_ ((b : Nat) : Int)), .int (iz_ ((k : Nat) : Int))])).length) Slot.unset).toArray = ls at hl ⊢
  have hl : lv_has ls 11 [(0, .ref rp), (1, .ref rx), (2, .int (iz_ ((a : Nat) : Int))), (3, .int (iz_ ((b : Nat) : Int))), (4, .int (iz_ ((k : Nat) : Int)))] := hl
  have hRf : 1 ≤ (headSpec (ws_ yX2_med3Indirect cX2_med3Indirect 11 (some .int)) ({ frames := 1, cells := 0, slots := 0, locals := 23 })).room.frames := Nat.le_of_ble_eq_true rfl
  have hRl : 23 ≤ (headSpec (ws_ yX2_med3Indirect cX2_med3Indirect 11 (some .int)) ({ frames := 1, cells := 0, slots := 0, locals := 23 })).room.locals := Nat.le_of_ble_eq_true rfl
  refine lv_aload_n hx hb dX2_med3Indirect_0 rfl (lv_at hl 1 rfl) ?_
  refine lv_aload_n hx hb dX2_med3Indirect_1 rfl (lv_at hl 0 rfl) ?_
  refine lv_iload_n hx hb dX2_med3Indirect_2 rfl (lv_at hl 2 rfl) ?_
  refine lz_iald (k := a) hx hb hK hP 0 0 rfl rfl (by omega) (by omega) (by omega) dX2_med3Indirect_3 ?_
  refine va_iald hx hb hK hP 1 0 rfl rfl va dX2_med3Indirect_4 ?_
  refine lv_istore (lv' := [(5, .int (X (P a).toNatClampNeg)), (0, .ref rp), (1, .ref rx), (2, .int (iz_ ((a : Nat) : Int))), (3, .int (iz_ ((b : Nat) : Int))), (4, .int (iz_ ((k : Nat) : Int)))]) hx hb dX2_med3Indirect_5 hl (by decide) rfl (fun ls hl => ?_)
  refine lv_aload_n hx hb dX2_med3Indirect_7 rfl (lv_at hl 2 rfl) ?_
  refine lv_aload_n hx hb dX2_med3Indirect_8 rfl (lv_at hl 1 rfl) ?_
  refine lv_iload_n hx hb dX2_med3Indirect_9 rfl (lv_at hl 4 rfl) ?_
  refine lz_iald (k := b) hx hb hK hP 0 0 rfl rfl (by omega) (by omega) (by omega) dX2_med3Indirect_10 ?_
  refine va_iald hx hb hK hP 1 0 rfl rfl vb dX2_med3Indirect_11 ?_
  refine lv_istore (lv' := [(6, .int (X (P b).toNatClampNeg)), (5, .int (X (P a).toNatClampNeg)), (0, .ref rp), (1, .ref rx), (2, .int (iz_ ((a : Nat) : Int))), (3, .int (iz_ ((b : Nat) : Int))), (4, .int (iz_ ((k : Nat) : Int)))]) hx hb dX2_med3Indirect_12 hl (by decide) rfl (fun ls hl => ?_)
  refine lv_aload_n hx hb dX2_med3Indirect_14 rfl (lv_at hl 3 rfl) ?_
  refine lv_aload_n hx hb dX2_med3Indirect_15 rfl (lv_at hl 2 rfl) ?_
  refine lv_iload hx hb dX2_med3Indirect_16 (lv_at hl 6 rfl) ?_
  refine lz_iald (k := k) hx hb hK hP 0 0 rfl rfl (by omega) (by omega) (by omega) dX2_med3Indirect_18 ?_
  refine va_iald hx hb hK hP 1 0 rfl rfl vk dX2_med3Indirect_19 ?_
  refine lv_istore (lv' := [(7, .int (X (P k).toNatClampNeg)), (6, .int (X (P b).toNatClampNeg)), (5, .int (X (P a).toNatClampNeg)), (0, .ref rp), (1, .ref rx), (2, .int (iz_ ((a : Nat) : Int))), (3, .int (iz_ ((b : Nat) : Int))), (4, .int (iz_ ((k : Nat) : Int)))]) hx hb dX2_med3Indirect_20 hl (by decide) rfl (fun ls hl => ?_)
  refine lv_iload hx hb dX2_med3Indirect_22 (lv_at hl 2 rfl) ?_
  refine lv_iload hx hb dX2_med3Indirect_24 (lv_at hl 1 rfl) ?_
  refine iw_cmp hC hl.1 hRf hRl ⟨Nat.zero_le _, Nat.zero_le _⟩ dX2_med3Indirect_26 (fun r1 hr1 => ?_)
  refine lv_istore (lv' := [(8, .int r1), (7, .int (X (P k).toNatClampNeg)), (6, .int (X (P b).toNatClampNeg)), (5, .int (X (P a).toNatClampNeg)), (0, .ref rp), (1, .ref rx), (2, .int (iz_ ((a : Nat) : Int))), (3, .int (iz_ ((b : Nat) : Int))), (4, .int (iz_ ((k : Nat) : Int)))]) hx hb dX2_med3Indirect_29 hl (by decide) rfl (fun ls hl => ?_)
  refine lv_iload hx hb dX2_med3Indirect_31 (lv_at hl 3 rfl) ?_
  refine lv_iload hx hb dX2_med3Indirect_33 (lv_at hl 1 rfl) ?_
  refine iw_cmp hC hl.1 hRf hRl ⟨Nat.zero_le _, Nat.zero_le _⟩ dX2_med3Indirect_35 (fun r2 hr2 => ?_)
  refine lv_istore (lv' := [(9, .int r2), (8, .int r1), (7, .int (X (P k).toNatClampNeg)), (6, .int (X (P b).toNatClampNeg)), (5, .int (X (P a).toNatClampNeg)), (0, .ref rp), (1, .ref rx), (2, .int (iz_ ((a : Nat) : Int))), (3, .int (iz_ ((b : Nat) : Int))), (4, .int (iz_ ((k : Nat) : Int)))]) hx hb dX2_med3Indirect_38 hl (by decide) rfl (fun ls hl => ?_)
  refine lv_iload hx hb dX2_med3Indirect_40 (lv_at hl 3 rfl) ?_
  refine lv_iload hx hb dX2_med3Indirect_42 (lv_at hl 2 rfl) ?_
  refine iw_cmp hC hl.1 hRf hRl ⟨Nat.zero_le _, Nat.zero_le _⟩ dX2_med3Indirect_44 (fun r3 hr3 => ?_)
  refine lv_istore (lv' := [(10, .int r3), (9, .int r2), (8, .int r1), (7, .int (X (P k).toNatClampNeg)), (6, .int (X (P b).toNatClampNeg)), (5, .int (X (P a).toNatClampNeg)), (0, .ref rp), (1, .ref rx), (2, .int (iz_ ((a : Nat) : Int))), (3, .int (iz_ ((b : Nat) : Int))), (4, .int (iz_ ((k : Nat) : Int)))]) hx hb dX2_med3Indirect_47 hl (by decide) rfl (fun ls hl => ?_)
  refine lv_iload hx hb dX2_med3Indirect_49 (lv_at hl 2 rfl) ?_
  refine lz_if_ge (tgt := 77) hx hb dX2_med3Indirect_51 (by decide) rfl (fun c1 => ?_) (fun c2 => ?_)
  · refine lv_iload hx hb dX2_med3Indirect_77 (lv_at hl 0 rfl) ?_
    refine lz_if_le (tgt := 86) hx hb dX2_med3Indirect_79 (by decide) rfl (fun c1 => ?_) (fun c2 => ?_)
    · refine lv_iload hx hb dX2_med3Indirect_86 (lv_at hl 1 rfl) ?_
      refine lz_if_le (tgt := 96) hx hb dX2_med3Indirect_88 (by decide) rfl (fun c1 => ?_) (fun c2 => ?_)
      · refine lv_iload_n hx hb dX2_med3Indirect_96 rfl (lv_at hl 8 rfl) ?_
        exact W.iret (v := iz_ ((a : Nat) : Int)) hx hb hr (fun t ht hW => ⟨_, rfl, Or.inl rfl, ht⟩) (fun _ h => by cases h) dX2_med3Indirect_97
      · refine lv_iload hx hb dX2_med3Indirect_91 (lv_at hl 10 rfl) ?_
        refine lv_goto (tgt := 97) hx hb dX2_med3Indirect_93 (by decide) ?_
        exact W.iret (v := iz_ ((k : Nat) : Int)) hx hb hr (fun t ht hW => ⟨_, rfl, Or.inr (Or.inr rfl), ht⟩) (fun _ h => by cases h) dX2_med3Indirect_97
    · refine lv_iload_n hx hb dX2_med3Indirect_82 rfl (lv_at hl 9 rfl) ?_
      refine lv_goto (tgt := 97) hx hb dX2_med3Indirect_83 (by decide) ?_
      exact W.iret (v := iz_ ((b : Nat) : Int)) hx hb hr (fun t ht hW => ⟨_, rfl, Or.inr (Or.inl rfl), ht⟩) (fun _ h => by cases h) dX2_med3Indirect_97
  · refine lv_iload hx hb dX2_med3Indirect_54 (lv_at hl 0 rfl) ?_
    refine lz_if_ge (tgt := 63) hx hb dX2_med3Indirect_56 (by decide) rfl (fun c1 => ?_) (fun c2 => ?_)
    · refine lv_iload hx hb dX2_med3Indirect_63 (lv_at hl 1 rfl) ?_
      refine lz_if_ge (tgt := 73) hx hb dX2_med3Indirect_65 (by decide) rfl (fun c1 => ?_) (fun c2 => ?_)
      · refine lv_iload_n hx hb dX2_med3Indirect_73 rfl (lv_at hl 8 rfl) ?_
        refine lv_goto (tgt := 97) hx hb dX2_med3Indirect_74 (by decide) ?_
        exact W.iret (v := iz_ ((a : Nat) : Int)) hx hb hr (fun t ht hW => ⟨_, rfl, Or.inl rfl, ht⟩) (fun _ h => by cases h) dX2_med3Indirect_97
      · refine lv_iload hx hb dX2_med3Indirect_68 (lv_at hl 10 rfl) ?_
        refine lv_goto (tgt := 97) hx hb dX2_med3Indirect_70 (by decide) ?_
        exact W.iret (v := iz_ ((k : Nat) : Int)) hx hb hr (fun t ht hW => ⟨_, rfl, Or.inr (Or.inr rfl), ht⟩) (fun _ h => by cases h) dX2_med3Indirect_97
    · refine lv_iload_n hx hb dX2_med3Indirect_59 rfl (lv_at hl 9 rfl) ?_
      refine lv_goto (tgt := 97) hx hb dX2_med3Indirect_60 (by decide) ?_
      exact W.iret (v := iz_ ((b : Nat) : Int)) hx hb hr (fun t ht hW => ⟨_, rfl, Or.inr (Or.inl rfl), ht⟩) (fun _ h => by cases h) dX2_med3Indirect_97
end
section
/-! THE PARTITION of quickSort and of quickSortIndirect: a, b, c + 1, d + 1 are the borders -/
section
variable {p : Program} {l : Launch} {e : Env} {R : Room} {s : State} {m : MethodId} {args : Array Value} {below : List Frame} {meth : Method} {c : Code} {Q : State → Prop} {D : va_G} {cl : List vw_C} {A : Nat → Prop} {rp rx : Nat} {d : ClassId} {n nx : Nat} {P0 X : Nat → Int32}
set_option maxHeartbeats 4000000 in
set_option maxRecDepth 100000 in
theorem iw_qs_up (hC : CallFix p m c cX2_quickSort 13 s args lw_all RX2) (hRf : 1 ≤ R.frames) (hRl : 23 ≤ R.locals) (hK : va_K D cl [(d, .int)] s) {lo hi : Nat} {vv : Int32} (hin : hi ≤ n) (hn : n ≤ 1000) {a0 b0 ec dd : Nat}
    (kexit : ∀ (a b : Nat) (f : Nat → Int32) (H : Heap) (locs : List Loc) (ls : Array Slot), b0 ≤ b → is_P (fun z : Int32 => z.toInt) vv.toInt P0 f lo hi a b ec dd → (ec ≤ b ∨ vv.toInt < (f b).toInt) → iw_1 D cl A s rp d n f H locs → lv_has ls 13 [(0, .ref rp), (1, .int (iz_ ((lo : Nat) : Int))), (2, .int (iz_ ((hi : Nat) : Int))), (7, .int vv), (8, .int (iz_ ((a : Nat) : Int))), (9, .int (iz_ ((b : Nat) : Int))), (10, .int (iz_ (((ec : Nat) : Int) - 1))), (11, .int (iz_ (((dd : Nat) : Int) - 1)))] → W p l e R s m args below meth c H locs 0 0 Q (F0 m 181 ls [])) :
    ∀ (t a b : Nat), ec + 1 ≤ b + t → b0 ≤ b → ∀ (f : Nat → Int32) (H : Heap) (locs : List Loc) (ls : Array Slot), is_P (fun z : Int32 => z.toInt) vv.toInt P0 f lo hi a b ec dd → iw_1 D cl A s rp d n f H locs → lv_has ls 13 [(0, .ref rp), (1, .int (iz_ ((lo : Nat) : Int))), (2, .int (iz_ ((hi : Nat) : Int))), (7, .int vv), (8, .int (iz_ ((a : Nat) : Int))), (9, .int (iz_ ((b : Nat) : Int))), (10, .int (iz_ (((ec : Nat) : Int) - 1))), (11, .int (iz_ (((dd : Nat) : Int) - 1)))] → W p l e R s m args below meth c H locs 0 0 Q (F0 m 137 ls []) := by
  have hx := hC.1
  have hb := hC.2.1
  intro t
  induction t with
  | zero =>
    intro a b h1 h2 f H locs ls hp
    have := hp.2.1
    omega
  | succ t ih =>
    intro a b h1 h2 f H locs ls hp hw hl
    have ho := hp.2.1
    have ho2 := ho
    obtain ⟨hP, hD, hS⟩ := hw
    refine lv_iload hx hb dX2_quickSort_137 (lv_at hl 5 rfl) ?_
    refine lv_iload hx hb dX2_quickSort_139 (lv_at hl 6 rfl) ?_
    refine lz_icmp_gt (tgt := 181) hx hb dX2_quickSort_141 (by decide) (iz_t (by omega)) (iz_t (by omega)) (fun c1 => ?_) (fun c2 => ?_)
    · exact kexit a b f H locs ls h2 hp (Or.inl (by omega)) ⟨hP, hD, hS⟩ (lv_sub hl [0, 1, 2, 3, 4, 5, 6, 7] rfl)
    · refine lv_aload_n hx hb dX2_quickSort_144 rfl (lv_at hl 0 rfl) ?_
      refine lv_iload hx hb dX2_quickSort_145 (lv_at hl 5 rfl) ?_
      refine lz_iald (k := b) hx hb hK hP 0 0 rfl rfl (by omega) (by omega) (by omega) dX2_quickSort_147 ?_
      refine lv_iload hx hb dX2_quickSort_148 (lv_at hl 3 rfl) ?_
      refine iw_cmp hC hl.1 hRf hRl ⟨Nat.zero_le _, Nat.zero_le _⟩ dX2_quickSort_150 (fun r1 hr1 => ?_)
      have hr1 : (r1.toInt < 0 ↔ (f b).toInt < vv.toInt) ∧ (r1.toInt = 0 ↔ (f b).toInt = vv.toInt) := hr1
      refine lv_dup hx hb dX2_quickSort_153 rfl ?_
      refine lv_istore (lv' := [(12, .int r1), (0, .ref rp), (1, .int (iz_ ((lo : Nat) : Int))), (2, .int (iz_ ((hi : Nat) : Int))), (7, .int vv), (8, .int (iz_ ((a : Nat) : Int))), (9, .int (iz_ ((b : Nat) : Int))), (10, .int (iz_ (((ec : Nat) : Int) - 1))), (11, .int (iz_ (((dd : Nat) : Int) - 1)))]) hx hb dX2_quickSort_154 hl (by decide) rfl (fun ls hl => ?_)
      refine lz_if_gt (tgt := 181) hx hb dX2_quickSort_156 (by decide) rfl (fun c3 => ?_) (fun c4 => ?_)
      · exact kexit a b f H locs ls h2 hp (Or.inr (by omega)) ⟨hP, hD, hS⟩ (lv_sub hl [1, 2, 3, 4, 5, 6, 7, 8] rfl)
      · refine lv_iload hx hb dX2_quickSort_159 (lv_at hl 0 rfl) ?_
        refine lz_if_ne (tgt := 175) hx hb dX2_quickSort_161 (by decide) rfl (fun c5 => ?_) (fun c6 => ?_)
        · refine lz_iinc (lv' := [(9, .int (iz_ ((b + 1 : Nat) : Int))), (12, .int r1), (0, .ref rp), (1, .int (iz_ ((lo : Nat) : Int))), (2, .int (iz_ ((hi : Nat) : Int))), (7, .int vv), (8, .int (iz_ ((a : Nat) : Int))), (10, .int (iz_ (((ec : Nat) : Int) - 1))), (11, .int (iz_ (((dd : Nat) : Int) - 1)))]) (k := 6) (z := ((b + 1 : Nat) : Int)) hx hb dX2_quickSort_175 hl rfl (by omega) (by decide) rfl (fun ls hl => ?_)
          refine lv_goto (tgt := 137) hx hb dX2_quickSort_178 (by decide) ?_
          exact ih a (b + 1) (by omega) (by omega) f H locs ls (is_P_ltb hp (by omega) (show (f b).toInt < vv.toInt by omega)) ⟨hP, hD, hS⟩ (lv_sub hl [2, 3, 4, 5, 6, 0, 7, 8] rfl)
        · refine lv_aload_n hx hb dX2_quickSort_164 rfl (lv_at hl 1 rfl) ?_
          refine lv_iload hx hb dX2_quickSort_165 (lv_at hl 5 rfl) ?_
          refine lz_iinc (lv' := [(8, .int (iz_ ((a + 1 : Nat) : Int))), (12, .int r1), (0, .ref rp), (1, .int (iz_ ((lo : Nat) : Int))), (2, .int (iz_ ((hi : Nat) : Int))), (7, .int vv), (9, .int (iz_ ((b : Nat) : Int))), (10, .int (iz_ (((ec : Nat) : Int) - 1))), (11, .int (iz_ (((dd : Nat) : Int) - 1)))]) (k := 5) (z := ((a + 1 : Nat) : Int)) hx hb dX2_quickSort_167 hl rfl (by omega) (by decide) rfl (fun ls hl => ?_)
          refine lv_iload hx hb dX2_quickSort_170 (lv_at hl 6 rfl) ?_
          refine iw_swap hC hl.1 hRf hRl hK hP hD hS 0 rfl (a := a) (b := b) (by omega) (by omega) (by omega) (by omega) hn dX2_quickSort_172 (fun H locs hP hD hS => ?_)
          have hP : va_P D cl [(rp, .inl (d, n, .inl (is_sw f (a) (b))))] H := hP
          have hD : va_D A [(rp, .inl (d, n, .inl (is_sw f (a) (b))))] := hD
          refine lz_iinc (lv' := [(9, .int (iz_ ((b + 1 : Nat) : Int))), (8, .int (iz_ ((a + 1 : Nat) : Int))), (12, .int r1), (0, .ref rp), (1, .int (iz_ ((lo : Nat) : Int))), (2, .int (iz_ ((hi : Nat) : Int))), (7, .int vv), (10, .int (iz_ (((ec : Nat) : Int) - 1))), (11, .int (iz_ (((dd : Nat) : Int) - 1)))]) (k := 6) (z := ((b + 1 : Nat) : Int)) hx hb dX2_quickSort_175 hl rfl (by omega) (by decide) rfl (fun ls hl => ?_)
          refine lv_goto (tgt := 137) hx hb dX2_quickSort_178 (by decide) ?_
          exact ih (a + 1) (b + 1) (by omega) (by omega) _ H locs ls (is_P_eqb hp (by omega) (show (f b).toInt = vv.toInt by omega)) ⟨hP, hD, hS⟩ (lv_sub hl [3, 4, 5, 6, 1, 0, 7, 8] rfl)
set_option maxHeartbeats 4000000 in
set_option maxRecDepth 100000 in
theorem iw_qs_dn (hC : CallFix p m c cX2_quickSort 13 s args lw_all RX2) (hRf : 1 ≤ R.frames) (hRl : 23 ≤ R.locals) (hK : va_K D cl [(d, .int)] s) {lo hi : Nat} {vv : Int32} (hin : hi ≤ n) (hn : n ≤ 1000) {a b ec0 : Nat}
    (kexit : ∀ (ec dd : Nat) (f : Nat → Int32) (H : Heap) (locs : List Loc) (ls : Array Slot), ec ≤ ec0 → is_P (fun z : Int32 => z.toInt) vv.toInt P0 f lo hi a b ec dd → (ec ≤ b ∨ vv.toInt < (f b).toInt) → (ec ≤ b ∨ (f (ec - 1)).toInt < vv.toInt) → iw_1 D cl A s rp d n f H locs → lv_has ls 13 [(0, .ref rp), (1, .int (iz_ ((lo : Nat) : Int))), (2, .int (iz_ ((hi : Nat) : Int))), (7, .int vv), (8, .int (iz_ ((a : Nat) : Int))), (9, .int (iz_ ((b : Nat) : Int))), (10, .int (iz_ (((ec : Nat) : Int) - 1))), (11, .int (iz_ (((dd : Nat) : Int) - 1)))] → W p l e R s m args below meth c H locs 0 0 Q (F0 m 225 ls [])) :
    ∀ (t ec dd : Nat), ec + 1 ≤ b + t → ec ≤ ec0 → ∀ (f : Nat → Int32) (H : Heap) (locs : List Loc) (ls : Array Slot), is_P (fun z : Int32 => z.toInt) vv.toInt P0 f lo hi a b ec dd → (ec ≤ b ∨ vv.toInt < (f b).toInt) → iw_1 D cl A s rp d n f H locs → lv_has ls 13 [(0, .ref rp), (1, .int (iz_ ((lo : Nat) : Int))), (2, .int (iz_ ((hi : Nat) : Int))), (7, .int vv), (8, .int (iz_ ((a : Nat) : Int))), (9, .int (iz_ ((b : Nat) : Int))), (10, .int (iz_ (((ec : Nat) : Int) - 1))), (11, .int (iz_ (((dd : Nat) : Int) - 1)))] → W p l e R s m args below meth c H locs 0 0 Q (F0 m 181 ls []) := by
  have hx := hC.1
  have hb := hC.2.1
  intro t
  induction t with
  | zero =>
    intro ec dd h1 h2 f H locs ls hp
    have := hp.2.1
    omega
  | succ t ih =>
    intro ec dd h1 h2 f H locs ls hp hgt hw hl
    have ho := hp.2.1
    have ho2 := ho
    obtain ⟨hP, hD, hS⟩ := hw
    refine lv_iload hx hb dX2_quickSort_181 (lv_at hl 6 rfl) ?_
    refine lv_iload hx hb dX2_quickSort_183 (lv_at hl 5 rfl) ?_
    refine lz_icmp_lt (tgt := 225) hx hb dX2_quickSort_185 (by decide) (iz_t (by omega)) (iz_t (by omega)) (fun c1 => ?_) (fun c2 => ?_)
    · exact kexit ec dd f H locs ls h2 hp (Or.inl (by omega)) (Or.inl (by omega)) ⟨hP, hD, hS⟩ (lv_sub hl [0, 1, 2, 3, 4, 5, 6, 7] rfl)
    · obtain ⟨ec, rfl⟩ : ∃ z, ec = z + 1 := ⟨ec - 1, by omega⟩
      obtain ⟨dd, rfl⟩ : ∃ z, dd = z + 1 := ⟨dd - 1, by omega⟩
      refine lv_aload_n hx hb dX2_quickSort_188 rfl (lv_at hl 0 rfl) ?_
      refine lv_iload hx hb dX2_quickSort_189 (lv_at hl 6 rfl) ?_
      refine lz_iald (k := ec) hx hb hK hP 0 0 rfl rfl (by omega) (by omega) (by omega) dX2_quickSort_191 ?_
      refine lv_iload hx hb dX2_quickSort_192 (lv_at hl 3 rfl) ?_
      refine iw_cmp hC hl.1 hRf hRl ⟨Nat.zero_le _, Nat.zero_le _⟩ dX2_quickSort_194 (fun r1 hr1 => ?_)
      have hr1 : (r1.toInt < 0 ↔ (f ec).toInt < vv.toInt) ∧ (r1.toInt = 0 ↔ (f ec).toInt = vv.toInt) := hr1
      refine lv_dup hx hb dX2_quickSort_197 rfl ?_
      refine lv_istore (lv' := [(12, .int r1), (0, .ref rp), (1, .int (iz_ ((lo : Nat) : Int))), (2, .int (iz_ ((hi : Nat) : Int))), (7, .int vv), (8, .int (iz_ ((a : Nat) : Int))), (9, .int (iz_ ((b : Nat) : Int))), (10, .int (iz_ (((ec + 1 : Nat) : Int) - 1))), (11, .int (iz_ (((dd + 1 : Nat) : Int) - 1)))]) hx hb dX2_quickSort_198 hl (by decide) rfl (fun ls hl => ?_)
      refine lz_if_lt (tgt := 225) hx hb dX2_quickSort_200 (by decide) rfl (fun c3 => ?_) (fun c4 => ?_)
      · exact kexit (ec + 1) (dd + 1) f H locs ls h2 hp hgt (Or.inr (show (f ec).toInt < vv.toInt by omega)) ⟨hP, hD, hS⟩ (lv_sub hl [1, 2, 3, 4, 5, 6, 7, 8] rfl)
      · refine lv_iload hx hb dX2_quickSort_203 (lv_at hl 0 rfl) ?_
        refine lz_if_ne (tgt := 219) hx hb dX2_quickSort_205 (by decide) rfl (fun c5 => ?_) (fun c6 => ?_)
        · refine lz_iinc (lv' := [(10, .int (iz_ (((ec : Nat) : Int) - 1))), (12, .int r1), (0, .ref rp), (1, .int (iz_ ((lo : Nat) : Int))), (2, .int (iz_ ((hi : Nat) : Int))), (7, .int vv), (8, .int (iz_ ((a : Nat) : Int))), (9, .int (iz_ ((b : Nat) : Int))), (11, .int (iz_ (((dd + 1 : Nat) : Int) - 1)))]) (k := 7) (z := (((ec : Nat) : Int) - 1)) hx hb dX2_quickSort_219 hl rfl (by omega) (by decide) rfl (fun ls hl => ?_)
          refine lv_goto (tgt := 181) hx hb dX2_quickSort_222 (by decide) ?_
          exact ih ec (dd + 1) (by omega) (by omega) f H locs ls (is_P_gtc hp (by omega) (show vv.toInt < (f ec).toInt by omega)) (Or.imp (fun h => by omega) (fun h => h) hgt) ⟨hP, hD, hS⟩ (lv_sub hl [2, 3, 4, 5, 6, 7, 0, 8] rfl)
        · refine lv_aload_n hx hb dX2_quickSort_208 rfl (lv_at hl 1 rfl) ?_
          refine lv_iload hx hb dX2_quickSort_209 (lv_at hl 7 rfl) ?_
          refine lv_iload hx hb dX2_quickSort_211 (lv_at hl 8 rfl) ?_
          refine lz_iinc (lv' := [(11, .int (iz_ (((dd : Nat) : Int) - 1))), (12, .int r1), (0, .ref rp), (1, .int (iz_ ((lo : Nat) : Int))), (2, .int (iz_ ((hi : Nat) : Int))), (7, .int vv), (8, .int (iz_ ((a : Nat) : Int))), (9, .int (iz_ ((b : Nat) : Int))), (10, .int (iz_ (((ec + 1 : Nat) : Int) - 1)))]) (k := 8) (z := (((dd : Nat) : Int) - 1)) hx hb dX2_quickSort_213 hl rfl (by omega) (by decide) rfl (fun ls hl => ?_)
          refine iw_swap hC hl.1 hRf hRl hK hP hD hS 0 rfl (a := ec) (b := dd) (by omega) (by omega) (by omega) (by omega) hn dX2_quickSort_216 (fun H locs hP hD hS => ?_)
          have hP : va_P D cl [(rp, .inl (d, n, .inl (is_sw f (ec) (dd))))] H := hP
          have hD : va_D A [(rp, .inl (d, n, .inl (is_sw f (ec) (dd))))] := hD
          refine lz_iinc (lv' := [(10, .int (iz_ (((ec : Nat) : Int) - 1))), (11, .int (iz_ (((dd : Nat) : Int) - 1))), (12, .int r1), (0, .ref rp), (1, .int (iz_ ((lo : Nat) : Int))), (2, .int (iz_ ((hi : Nat) : Int))), (7, .int vv), (8, .int (iz_ ((a : Nat) : Int))), (9, .int (iz_ ((b : Nat) : Int)))]) (k := 8) (z := (((ec : Nat) : Int) - 1)) hx hb dX2_quickSort_219 hl rfl (by omega) (by decide) rfl (fun ls hl => ?_)
          refine lv_goto (tgt := 181) hx hb dX2_quickSort_222 (by decide) ?_
          refine ih ec dd (by omega) (by omega) _ H locs ls (is_P_eqc hp (by omega) (show (f ec).toInt = vv.toInt by omega)) ?_ ⟨hP, hD, hS⟩ (lv_sub hl [3, 4, 5, 6, 7, 8, 0, 1] rfl)
          by_cases e1 : ec ≤ b
          · exact Or.inl e1
          · rw [is_sw_at, if_neg (by omega), if_neg (by omega)]
            exact Or.imp (fun h => by omega) (fun h => h) hgt
set_option maxHeartbeats 4000000 in
set_option maxRecDepth 100000 in
theorem iw_qs_part (hC : CallFix p m c cX2_quickSort 13 s args lw_all RX2) (hRf : 1 ≤ R.frames) (hRl : 23 ≤ R.locals) (hK : va_K D cl [(d, .int)] s) {lo hi : Nat} {vv : Int32} (hin : hi ≤ n) (hn : n ≤ 1000)
    (kexit : ∀ (a b ec dd : Nat) (f : Nat → Int32) (H : Heap) (locs : List Loc) (ls : Array Slot), b = ec → is_P (fun z : Int32 => z.toInt) vv.toInt P0 f lo hi a b ec dd → iw_1 D cl A s rp d n f H locs → lv_has ls 13 [(0, .ref rp), (1, .int (iz_ ((lo : Nat) : Int))), (2, .int (iz_ ((hi : Nat) : Int))), (7, .int vv), (8, .int (iz_ ((a : Nat) : Int))), (9, .int (iz_ ((b : Nat) : Int))), (10, .int (iz_ (((ec : Nat) : Int) - 1))), (11, .int (iz_ (((dd : Nat) : Int) - 1)))] → W p l e R s m args below meth c H locs 0 0 Q (F0 m 252 ls [])) :
    ∀ (t a b ec dd : Nat), ec + 1 ≤ b + t → ∀ (f : Nat → Int32) (H : Heap) (locs : List Loc) (ls : Array Slot), is_P (fun z : Int32 => z.toInt) vv.toInt P0 f lo hi a b ec dd → iw_1 D cl A s rp d n f H locs → lv_has ls 13 [(0, .ref rp), (1, .int (iz_ ((lo : Nat) : Int))), (2, .int (iz_ ((hi : Nat) : Int))), (7, .int vv), (8, .int (iz_ ((a : Nat) : Int))), (9, .int (iz_ ((b : Nat) : Int))), (10, .int (iz_ (((ec : Nat) : Int) - 1))), (11, .int (iz_ (((dd : Nat) : Int) - 1)))] → W p l e R s m args below meth c H locs 0 0 Q (F0 m 137 ls []) := by
  have hx := hC.1
  have hb := hC.2.1
  intro t
  induction t with
  | zero =>
    intro a b ec dd h1 f H locs ls hp
    have := hp.2.1
    omega
  | succ t ih =>
    intro a b ec dd h1 f H locs ls hp hw hl
    refine iw_qs_up (t := ec + 1) (a := a) (b := b) (b0 := b) (a0 := a) hC hRf hRl hK hin hn (fun a b1 f H locs ls hbb hp hgt hw hl => ?_) (by omega) (Nat.le_refl _) f H locs ls hp hw hl
    refine iw_qs_dn (t := ec + 1) (ec := ec) (dd := dd) (ec0 := ec) hC hRf hRl hK hin hn (fun ec1 dd f H locs ls hcc hp hgt hlt hw hl => ?_) (by omega) (Nat.le_refl _) f H locs ls hp hgt hw hl
    have ho := hp.2.1
    obtain ⟨hP, hD, hS⟩ := hw
    refine lv_iload hx hb dX2_quickSort_225 (lv_at hl 5 rfl) ?_
    refine lv_iload hx hb dX2_quickSort_227 (lv_at hl 6 rfl) ?_
    refine lz_icmp_le (tgt := 235) hx hb dX2_quickSort_229 (by decide) (iz_t (by omega)) (iz_t (by omega)) (fun c1 => ?_) (fun c2 => ?_)
    · obtain ⟨ec1, rfl⟩ : ∃ z, ec1 = z + 1 := ⟨ec1 - 1, by omega⟩
      have k1 : vv.toInt < (f b1).toInt := hgt.resolve_left (by omega)
      have k2 : (f ec1).toInt < vv.toInt := hlt.resolve_left (by omega)
      obtain ⟨k3, k4⟩ := is_P_x hp (by omega) k1 k2
      refine lv_aload_n hx hb dX2_quickSort_235 rfl (lv_at hl 0 rfl) ?_
      refine lv_iload hx hb dX2_quickSort_236 (lv_at hl 5 rfl) ?_
      refine lz_iinc (lv' := [(9, .int (iz_ ((b1 + 1 : Nat) : Int))), (0, .ref rp), (1, .int (iz_ ((lo : Nat) : Int))), (2, .int (iz_ ((hi : Nat) : Int))), (7, .int vv), (8, .int (iz_ ((a : Nat) : Int))), (10, .int (iz_ (((ec1 + 1 : Nat) : Int) - 1))), (11, .int (iz_ (((dd : Nat) : Int) - 1)))]) (k := 5) (z := ((b1 + 1 : Nat) : Int)) hx hb dX2_quickSort_238 hl rfl (by omega) (by decide) rfl (fun ls hl => ?_)
      refine lv_iload hx hb dX2_quickSort_241 (lv_at hl 6 rfl) ?_
      refine lz_iinc (lv' := [(10, .int (iz_ (((ec1 : Nat) : Int) - 1))), (9, .int (iz_ ((b1 + 1 : Nat) : Int))), (0, .ref rp), (1, .int (iz_ ((lo : Nat) : Int))), (2, .int (iz_ ((hi : Nat) : Int))), (7, .int vv), (8, .int (iz_ ((a : Nat) : Int))), (11, .int (iz_ (((dd : Nat) : Int) - 1)))]) (k := 6) (z := (((ec1 : Nat) : Int) - 1)) hx hb dX2_quickSort_243 hl rfl (by omega) (by decide) rfl (fun ls hl => ?_)
      refine iw_swap hC hl.1 hRf hRl hK hP hD hS 0 rfl (a := b1) (b := ec1) (by omega) (by omega) (by omega) (by omega) hn dX2_quickSort_246 (fun H locs hP hD hS => ?_)
      have hP : va_P D cl [(rp, .inl (d, n, .inl (is_sw f (b1) (ec1))))] H := hP
      have hD : va_D A [(rp, .inl (d, n, .inl (is_sw f (b1) (ec1))))] := hD
      refine lv_goto (tgt := 137) hx hb dX2_quickSort_249 (by decide) ?_
      exact ih a (b1 + 1) ec1 dd (by omega) _ H locs ls k4 ⟨hP, hD, hS⟩ (lv_sub hl [2, 3, 4, 5, 6, 1, 0, 7] rfl)
    · have e1 : b1 = ec1 := by omega
      refine lv_goto (tgt := 252) hx hb dX2_quickSort_232 (by decide) ?_
      exact kexit a b1 ec1 dd f H locs ls e1 hp ⟨hP, hD, hS⟩ (lv_sub hl [0, 1, 2, 3, 4, 5, 6, 7] rfl)
set_option maxHeartbeats 4000000 in
set_option maxRecDepth 100000 in
theorem iw_qi_up (hC : CallFix p m c cX2_quickSortIndirect 14 s args lw_all RX2) (hRf : 1 ≤ R.frames) (hRl : 23 ≤ R.locals) (hK : va_K D cl [(d, .int)] s) {lo hi : Nat} {vv : Int32} (hin : hi ≤ n) (hn : n ≤ 1000) (hv0 : ∀ q, lo ≤ q → q < hi → vp_in (P0 q) nx) {a0 b0 ec dd : Nat}
    (kexit : ∀ (a b : Nat) (f : Nat → Int32) (H : Heap) (locs : List Loc) (ls : Array Slot), b0 ≤ b → is_P (is_K X) vv.toInt P0 f lo hi a b ec dd → (ec ≤ b ∨ vv.toInt < is_K X (f b)) → iw_2 D cl A s rp rx d n nx f X H locs → lv_has ls 14 [(0, .ref rp), (1, .ref rx), (2, .int (iz_ ((lo : Nat) : Int))), (3, .int (iz_ ((hi : Nat) : Int))), (8, .int vv), (9, .int (iz_ ((a : Nat) : Int))), (10, .int (iz_ ((b : Nat) : Int))), (11, .int (iz_ (((ec : Nat) : Int) - 1))), (12, .int (iz_ (((dd : Nat) : Int) - 1)))] → W p l e R s m args below meth c H locs 0 0 Q (F0 m 195 ls [])) :
    ∀ (t a b : Nat), ec + 1 ≤ b + t → b0 ≤ b → ∀ (f : Nat → Int32) (H : Heap) (locs : List Loc) (ls : Array Slot), is_P (is_K X) vv.toInt P0 f lo hi a b ec dd → iw_2 D cl A s rp rx d n nx f X H locs → lv_has ls 14 [(0, .ref rp), (1, .ref rx), (2, .int (iz_ ((lo : Nat) : Int))), (3, .int (iz_ ((hi : Nat) : Int))), (8, .int vv), (9, .int (iz_ ((a : Nat) : Int))), (10, .int (iz_ ((b : Nat) : Int))), (11, .int (iz_ (((ec : Nat) : Int) - 1))), (12, .int (iz_ (((dd : Nat) : Int) - 1)))] → W p l e R s m args below meth c H locs 0 0 Q (F0 m 149 ls []) := by
  have hx := hC.1
  have hb := hC.2.1
  intro t
  induction t with
  | zero =>
    intro a b h1 h2 f H locs ls hp
    have := hp.2.1
    omega
  | succ t ih =>
    intro a b h1 h2 f H locs ls hp hw hl
    have ho := hp.2.1
    have hv := is_R_all hp.1 (p := fun z => vp_in z nx) hv0
    obtain ⟨hP, hD, hS⟩ := hw
    refine lv_iload hx hb dX2_quickSortIndirect_149 (lv_at hl 6 rfl) ?_
    refine lv_iload hx hb dX2_quickSortIndirect_151 (lv_at hl 7 rfl) ?_
    refine lz_icmp_gt (tgt := 195) hx hb dX2_quickSortIndirect_153 (by decide) (iz_t (by omega)) (iz_t (by omega)) (fun c1 => ?_) (fun c2 => ?_)
    · exact kexit a b f H locs ls h2 hp (Or.inl (by omega)) ⟨hP, hD, hS⟩ (lv_sub hl [0, 1, 2, 3, 4, 5, 6, 7, 8] rfl)
    · refine lv_aload_n hx hb dX2_quickSortIndirect_156 rfl (lv_at hl 1 rfl) ?_
      refine lv_aload_n hx hb dX2_quickSortIndirect_157 rfl (lv_at hl 0 rfl) ?_
      refine lv_iload hx hb dX2_quickSortIndirect_158 (lv_at hl 6 rfl) ?_
      refine lz_iald (k := b) hx hb hK hP 0 0 rfl rfl (by omega) (by omega) (by omega) dX2_quickSortIndirect_160 ?_
      refine va_iald hx hb hK hP 1 0 rfl rfl (hv (b) (by omega) (by omega)) dX2_quickSortIndirect_161 ?_
      refine lv_iload hx hb dX2_quickSortIndirect_162 (lv_at hl 4 rfl) ?_
      refine iw_cmp hC hl.1 hRf hRl ⟨Nat.zero_le _, Nat.zero_le _⟩ dX2_quickSortIndirect_164 (fun r1 hr1 => ?_)
      have hr1 : (r1.toInt < 0 ↔ is_K X (f b) < vv.toInt) ∧ (r1.toInt = 0 ↔ is_K X (f b) = vv.toInt) := hr1
      refine lv_dup hx hb dX2_quickSortIndirect_167 rfl ?_
      refine lv_istore (lv' := [(13, .int r1), (0, .ref rp), (1, .ref rx), (2, .int (iz_ ((lo : Nat) : Int))), (3, .int (iz_ ((hi : Nat) : Int))), (8, .int vv), (9, .int (iz_ ((a : Nat) : Int))), (10, .int (iz_ ((b : Nat) : Int))), (11, .int (iz_ (((ec : Nat) : Int) - 1))), (12, .int (iz_ (((dd : Nat) : Int) - 1)))]) hx hb dX2_quickSortIndirect_168 hl (by decide) rfl (fun ls hl => ?_)
      refine lz_if_gt (tgt := 195) hx hb dX2_quickSortIndirect_170 (by decide) rfl (fun c3 => ?_) (fun c4 => ?_)
      · exact kexit a b f H locs ls h2 hp (Or.inr (by omega)) ⟨hP, hD, hS⟩ (lv_sub hl [1, 2, 3, 4, 5, 6, 7, 8, 9] rfl)
      · refine lv_iload hx hb dX2_quickSortIndirect_173 (lv_at hl 0 rfl) ?_
        refine lz_if_ne (tgt := 189) hx hb dX2_quickSortIndirect_175 (by decide) rfl (fun c5 => ?_) (fun c6 => ?_)
        · refine lz_iinc (lv' := [(10, .int (iz_ ((b + 1 : Nat) : Int))), (13, .int r1), (0, .ref rp), (1, .ref rx), (2, .int (iz_ ((lo : Nat) : Int))), (3, .int (iz_ ((hi : Nat) : Int))), (8, .int vv), (9, .int (iz_ ((a : Nat) : Int))), (11, .int (iz_ (((ec : Nat) : Int) - 1))), (12, .int (iz_ (((dd : Nat) : Int) - 1)))]) (k := 7) (z := ((b + 1 : Nat) : Int)) hx hb dX2_quickSortIndirect_189 hl rfl (by omega) (by decide) rfl (fun ls hl => ?_)
          refine lv_goto (tgt := 149) hx hb dX2_quickSortIndirect_192 (by decide) ?_
          exact ih a (b + 1) (by omega) (by omega) f H locs ls (is_P_ltb hp (by omega) (show is_K X (f b) < vv.toInt by omega)) ⟨hP, hD, hS⟩ (lv_sub hl [2, 3, 4, 5, 6, 7, 0, 8, 9] rfl)
        · refine lv_aload_n hx hb dX2_quickSortIndirect_178 rfl (lv_at hl 1 rfl) ?_
          refine lv_iload hx hb dX2_quickSortIndirect_179 (lv_at hl 6 rfl) ?_
          refine lz_iinc (lv' := [(9, .int (iz_ ((a + 1 : Nat) : Int))), (13, .int r1), (0, .ref rp), (1, .ref rx), (2, .int (iz_ ((lo : Nat) : Int))), (3, .int (iz_ ((hi : Nat) : Int))), (8, .int vv), (10, .int (iz_ ((b : Nat) : Int))), (11, .int (iz_ (((ec : Nat) : Int) - 1))), (12, .int (iz_ (((dd : Nat) : Int) - 1)))]) (k := 6) (z := ((a + 1 : Nat) : Int)) hx hb dX2_quickSortIndirect_181 hl rfl (by omega) (by decide) rfl (fun ls hl => ?_)
          refine lv_iload hx hb dX2_quickSortIndirect_184 (lv_at hl 7 rfl) ?_
          refine iw_swap hC hl.1 hRf hRl hK hP hD hS 0 rfl (a := a) (b := b) (by omega) (by omega) (by omega) (by omega) hn dX2_quickSortIndirect_186 (fun H locs hP hD hS => ?_)
          have hP : va_P D cl [(rp, .inl (d, n, .inl (is_sw f (a) (b)))), (rx, .inl (d, nx, .inl X))] H := hP
          have hD : va_D A [(rp, .inl (d, n, .inl (is_sw f (a) (b)))), (rx, .inl (d, nx, .inl X))] := hD
          refine lz_iinc (lv' := [(10, .int (iz_ ((b + 1 : Nat) : Int))), (9, .int (iz_ ((a + 1 : Nat) : Int))), (13, .int r1), (0, .ref rp), (1, .ref rx), (2, .int (iz_ ((lo : Nat) : Int))), (3, .int (iz_ ((hi : Nat) : Int))), (8, .int vv), (11, .int (iz_ (((ec : Nat) : Int) - 1))), (12, .int (iz_ (((dd : Nat) : Int) - 1)))]) (k := 7) (z := ((b + 1 : Nat) : Int)) hx hb dX2_quickSortIndirect_189 hl rfl (by omega) (by decide) rfl (fun ls hl => ?_)
          refine lv_goto (tgt := 149) hx hb dX2_quickSortIndirect_192 (by decide) ?_
          exact ih (a + 1) (b + 1) (by omega) (by omega) _ H locs ls (is_P_eqb hp (by omega) (show is_K X (f b) = vv.toInt by omega)) ⟨hP, hD, hS⟩ (lv_sub hl [3, 4, 5, 6, 7, 1, 0, 8, 9] rfl)
set_option maxHeartbeats 4000000 in
set_option maxRecDepth 100000 in
theorem iw_qi_dn (hC : CallFix p m c cX2_quickSortIndirect 14 s args lw_all RX2) (hRf : 1 ≤ R.frames) (hRl : 23 ≤ R.locals) (hK : va_K D cl [(d, .int)] s) {lo hi : Nat} {vv : Int32} (hin : hi ≤ n) (hn : n ≤ 1000) (hv0 : ∀ q, lo ≤ q → q < hi → vp_in (P0 q) nx) {a b ec0 : Nat}
    (kexit : ∀ (ec dd : Nat) (f : Nat → Int32) (H : Heap) (locs : List Loc) (ls : Array Slot), ec ≤ ec0 → is_P (is_K X) vv.toInt P0 f lo hi a b ec dd → (ec ≤ b ∨ vv.toInt < is_K X (f b)) → (ec ≤ b ∨ is_K X (f (ec - 1)) < vv.toInt) → iw_2 D cl A s rp rx d n nx f X H locs → lv_has ls 14 [(0, .ref rp), (1, .ref rx), (2, .int (iz_ ((lo : Nat) : Int))), (3, .int (iz_ ((hi : Nat) : Int))), (8, .int vv), (9, .int (iz_ ((a : Nat) : Int))), (10, .int (iz_ ((b : Nat) : Int))), (11, .int (iz_ (((ec : Nat) : Int) - 1))), (12, .int (iz_ (((dd : Nat) : Int) - 1)))] → W p l e R s m args below meth c H locs 0 0 Q (F0 m 241 ls [])) :
    ∀ (t ec dd : Nat), ec + 1 ≤ b + t → ec ≤ ec0 → ∀ (f : Nat → Int32) (H : Heap) (locs : List Loc) (ls : Array Slot), is_P (is_K X) vv.toInt P0 f lo hi a b ec dd → (ec ≤ b ∨ vv.toInt < is_K X (f b)) → iw_2 D cl A s rp rx d n nx f X H locs → lv_has ls 14 [(0, .ref rp), (1, .ref rx), (2, .int (iz_ ((lo : Nat) : Int))), (3, .int (iz_ ((hi : Nat) : Int))), (8, .int vv), (9, .int (iz_ ((a : Nat) : Int))), (10, .int (iz_ ((b : Nat) : Int))), (11, .int (iz_ (((ec : Nat) : Int) - 1))), (12, .int (iz_ (((dd : Nat) : Int) - 1)))] → W p l e R s m args below meth c H locs 0 0 Q (F0 m 195 ls []) := by
  have hx := hC.1
  have hb := hC.2.1
  intro t
  induction t with
  | zero =>
    intro ec dd h1 h2 f H locs ls hp
    have := hp.2.1
    omega
  | succ t ih =>
    intro ec dd h1 h2 f H locs ls hp hgt hw hl
    have ho := hp.2.1
    have hv := is_R_all hp.1 (p := fun z => vp_in z nx) hv0
    obtain ⟨hP, hD, hS⟩ := hw
    refine lv_iload hx hb dX2_quickSortIndirect_195 (lv_at hl 7 rfl) ?_
    refine lv_iload hx hb dX2_quickSortIndirect_197 (lv_at hl 6 rfl) ?_
    refine lz_icmp_lt (tgt := 241) hx hb dX2_quickSortIndirect_199 (by decide) (iz_t (by omega)) (iz_t (by omega)) (fun c1 => ?_) (fun c2 => ?_)
    · exact kexit ec dd f H locs ls h2 hp (Or.inl (by omega)) (Or.inl (by omega)) ⟨hP, hD, hS⟩ (lv_sub hl [0, 1, 2, 3, 4, 5, 6, 7, 8] rfl)
    · obtain ⟨ec, rfl⟩ : ∃ z, ec = z + 1 := ⟨ec - 1, by omega⟩
      obtain ⟨dd, rfl⟩ : ∃ z, dd = z + 1 := ⟨dd - 1, by omega⟩
      refine lv_aload_n hx hb dX2_quickSortIndirect_202 rfl (lv_at hl 1 rfl) ?_
      refine lv_aload_n hx hb dX2_quickSortIndirect_203 rfl (lv_at hl 0 rfl) ?_
      refine lv_iload hx hb dX2_quickSortIndirect_204 (lv_at hl 7 rfl) ?_
      refine lz_iald (k := ec) hx hb hK hP 0 0 rfl rfl (by omega) (by omega) (by omega) dX2_quickSortIndirect_206 ?_
      refine va_iald hx hb hK hP 1 0 rfl rfl (hv (ec) (by omega) (by omega)) dX2_quickSortIndirect_207 ?_
      refine lv_iload hx hb dX2_quickSortIndirect_208 (lv_at hl 4 rfl) ?_
      refine iw_cmp hC hl.1 hRf hRl ⟨Nat.zero_le _, Nat.zero_le _⟩ dX2_quickSortIndirect_210 (fun r1 hr1 => ?_)
      have hr1 : (r1.toInt < 0 ↔ is_K X (f ec) < vv.toInt) ∧ (r1.toInt = 0 ↔ is_K X (f ec) = vv.toInt) := hr1
      refine lv_dup hx hb dX2_quickSortIndirect_213 rfl ?_
      refine lv_istore (lv' := [(13, .int r1), (0, .ref rp), (1, .ref rx), (2, .int (iz_ ((lo : Nat) : Int))), (3, .int (iz_ ((hi : Nat) : Int))), (8, .int vv), (9, .int (iz_ ((a : Nat) : Int))), (10, .int (iz_ ((b : Nat) : Int))), (11, .int (iz_ (((ec + 1 : Nat) : Int) - 1))), (12, .int (iz_ (((dd + 1 : Nat) : Int) - 1)))]) hx hb dX2_quickSortIndirect_214 hl (by decide) rfl (fun ls hl => ?_)
      refine lz_if_lt (tgt := 241) hx hb dX2_quickSortIndirect_216 (by decide) rfl (fun c3 => ?_) (fun c4 => ?_)
      · exact kexit (ec + 1) (dd + 1) f H locs ls h2 hp hgt (Or.inr (show is_K X (f ec) < vv.toInt by omega)) ⟨hP, hD, hS⟩ (lv_sub hl [1, 2, 3, 4, 5, 6, 7, 8, 9] rfl)
      · refine lv_iload hx hb dX2_quickSortIndirect_219 (lv_at hl 0 rfl) ?_
        refine lz_if_ne (tgt := 235) hx hb dX2_quickSortIndirect_221 (by decide) rfl (fun c5 => ?_) (fun c6 => ?_)
        · refine lz_iinc (lv' := [(11, .int (iz_ (((ec : Nat) : Int) - 1))), (13, .int r1), (0, .ref rp), (1, .ref rx), (2, .int (iz_ ((lo : Nat) : Int))), (3, .int (iz_ ((hi : Nat) : Int))), (8, .int vv), (9, .int (iz_ ((a : Nat) : Int))), (10, .int (iz_ ((b : Nat) : Int))), (12, .int (iz_ (((dd + 1 : Nat) : Int) - 1)))]) (k := 8) (z := (((ec : Nat) : Int) - 1)) hx hb dX2_quickSortIndirect_235 hl rfl (by omega) (by decide) rfl (fun ls hl => ?_)
          refine lv_goto (tgt := 195) hx hb dX2_quickSortIndirect_238 (by decide) ?_
          exact ih ec (dd + 1) (by omega) (by omega) f H locs ls (is_P_gtc hp (by omega) (show vv.toInt < is_K X (f ec) by omega)) (Or.imp (fun h => by omega) (fun h => h) hgt) ⟨hP, hD, hS⟩ (lv_sub hl [2, 3, 4, 5, 6, 7, 8, 0, 9] rfl)
        · refine lv_aload_n hx hb dX2_quickSortIndirect_224 rfl (lv_at hl 1 rfl) ?_
          refine lv_iload hx hb dX2_quickSortIndirect_225 (lv_at hl 8 rfl) ?_
          refine lv_iload hx hb dX2_quickSortIndirect_227 (lv_at hl 9 rfl) ?_
          refine lz_iinc (lv' := [(12, .int (iz_ (((dd : Nat) : Int) - 1))), (13, .int r1), (0, .ref rp), (1, .ref rx), (2, .int (iz_ ((lo : Nat) : Int))), (3, .int (iz_ ((hi : Nat) : Int))), (8, .int vv), (9, .int (iz_ ((a : Nat) : Int))), (10, .int (iz_ ((b : Nat) : Int))), (11, .int (iz_ (((ec + 1 : Nat) : Int) - 1)))]) (k := 9) (z := (((dd : Nat) : Int) - 1)) hx hb dX2_quickSortIndirect_229 hl rfl (by omega) (by decide) rfl (fun ls hl => ?_)
          refine iw_swap hC hl.1 hRf hRl hK hP hD hS 0 rfl (a := ec) (b := dd) (by omega) (by omega) (by omega) (by omega) hn dX2_quickSortIndirect_232 (fun H locs hP hD hS => ?_)
          have hP : va_P D cl [(rp, .inl (d, n, .inl (is_sw f (ec) (dd)))), (rx, .inl (d, nx, .inl X))] H := hP
          have hD : va_D A [(rp, .inl (d, n, .inl (is_sw f (ec) (dd)))), (rx, .inl (d, nx, .inl X))] := hD
          refine lz_iinc (lv' := [(11, .int (iz_ (((ec : Nat) : Int) - 1))), (12, .int (iz_ (((dd : Nat) : Int) - 1))), (13, .int r1), (0, .ref rp), (1, .ref rx), (2, .int (iz_ ((lo : Nat) : Int))), (3, .int (iz_ ((hi : Nat) : Int))), (8, .int vv), (9, .int (iz_ ((a : Nat) : Int))), (10, .int (iz_ ((b : Nat) : Int)))]) (k := 9) (z := (((ec : Nat) : Int) - 1)) hx hb dX2_quickSortIndirect_235 hl rfl (by omega) (by decide) rfl (fun ls hl => ?_)
          refine lv_goto (tgt := 195) hx hb dX2_quickSortIndirect_238 (by decide) ?_
          refine ih ec dd (by omega) (by omega) _ H locs ls (is_P_eqc hp (by omega) (show is_K X (f ec) = vv.toInt by omega)) ?_ ⟨hP, hD, hS⟩ (lv_sub hl [3, 4, 5, 6, 7, 8, 9, 0, 1] rfl)
          by_cases e1 : ec ≤ b
          · exact Or.inl e1
          · rw [is_sw_at, if_neg (by omega), if_neg (by omega)]
            exact Or.imp (fun h => by omega) (fun h => h) hgt
set_option maxHeartbeats 4000000 in
set_option maxRecDepth 100000 in
theorem iw_qi_part (hC : CallFix p m c cX2_quickSortIndirect 14 s args lw_all RX2) (hRf : 1 ≤ R.frames) (hRl : 23 ≤ R.locals) (hK : va_K D cl [(d, .int)] s) {lo hi : Nat} {vv : Int32} (hin : hi ≤ n) (hn : n ≤ 1000) (hv0 : ∀ q, lo ≤ q → q < hi → vp_in (P0 q) nx)
    (kexit : ∀ (a b ec dd : Nat) (f : Nat → Int32) (H : Heap) (locs : List Loc) (ls : Array Slot), b = ec → is_P (is_K X) vv.toInt P0 f lo hi a b ec dd → iw_2 D cl A s rp rx d n nx f X H locs → lv_has ls 14 [(0, .ref rp), (1, .ref rx), (2, .int (iz_ ((lo : Nat) : Int))), (3, .int (iz_ ((hi : Nat) : Int))), (8, .int vv), (9, .int (iz_ ((a : Nat) : Int))), (10, .int (iz_ ((b : Nat) : Int))), (11, .int (iz_ (((ec : Nat) : Int) - 1))), (12, .int (iz_ (((dd : Nat) : Int) - 1)))] → W p l e R s m args below meth c H locs 0 0 Q (F0 m 268 ls [])) :
    ∀ (t a b ec dd : Nat), ec + 1 ≤ b + t → ∀ (f : Nat → Int32) (H : Heap) (locs : List Loc) (ls : Array Slot), is_P (is_K X) vv.toInt P0 f lo hi a b ec dd → iw_2 D cl A s rp rx d n nx f X H locs → lv_has ls 14 [(0, .ref rp), (1, .ref rx), (2, .int (iz_ ((lo : Nat) : Int))), (3, .int (iz_ ((hi : Nat) : Int))), (8, .int vv), (9, .int (iz_ ((a : Nat) : Int))), (10, .int (iz_ ((b : Nat) : Int))), (11, .int (iz_ (((ec : Nat) : Int) - 1))), (12, .int (iz_ (((dd : Nat) : Int) - 1)))] → W p l e R s m args below meth c H locs 0 0 Q (F0 m 149 ls []) := by
  have hx := hC.1
  have hb := hC.2.1
  intro t
  induction t with
  | zero =>
    intro a b ec dd h1 f H locs ls hp
    have := hp.2.1
    omega
  | succ t ih =>
    intro a b ec dd h1 f H locs ls hp hw hl
    refine iw_qi_up (t := ec + 1) (a := a) (b := b) (b0 := b) (a0 := a) hC hRf hRl hK hin hn hv0 (fun a b1 f H locs ls hbb hp hgt hw hl => ?_) (by omega) (Nat.le_refl _) f H locs ls hp hw hl
    refine iw_qi_dn (t := ec + 1) (ec := ec) (dd := dd) (ec0 := ec) hC hRf hRl hK hin hn hv0 (fun ec1 dd f H locs ls hcc hp hgt hlt hw hl => ?_) (by omega) (Nat.le_refl _) f H locs ls hp hgt hw hl
    have ho := hp.2.1
    obtain ⟨hP, hD, hS⟩ := hw
    refine lv_iload hx hb dX2_quickSortIndirect_241 (lv_at hl 6 rfl) ?_
    refine lv_iload hx hb dX2_quickSortIndirect_243 (lv_at hl 7 rfl) ?_
    refine lz_icmp_le (tgt := 251) hx hb dX2_quickSortIndirect_245 (by decide) (iz_t (by omega)) (iz_t (by omega)) (fun c1 => ?_) (fun c2 => ?_)
    · obtain ⟨ec1, rfl⟩ : ∃ z, ec1 = z + 1 := ⟨ec1 - 1, by omega⟩
      have k1 : vv.toInt < is_K X (f b1) := hgt.resolve_left (by omega)
      have k2 : is_K X (f ec1) < vv.toInt := hlt.resolve_left (by omega)
      obtain ⟨k3, k4⟩ := is_P_x hp (by omega) k1 k2
      refine lv_aload_n hx hb dX2_quickSortIndirect_251 rfl (lv_at hl 0 rfl) ?_
      refine lv_iload hx hb dX2_quickSortIndirect_252 (lv_at hl 6 rfl) ?_
      refine lz_iinc (lv' := [(10, .int (iz_ ((b1 + 1 : Nat) : Int))), (0, .ref rp), (1, .ref rx), (2, .int (iz_ ((lo : Nat) : Int))), (3, .int (iz_ ((hi : Nat) : Int))), (8, .int vv), (9, .int (iz_ ((a : Nat) : Int))), (11, .int (iz_ (((ec1 + 1 : Nat) : Int) - 1))), (12, .int (iz_ (((dd : Nat) : Int) - 1)))]) (k := 6) (z := ((b1 + 1 : Nat) : Int)) hx hb dX2_quickSortIndirect_254 hl rfl (by omega) (by decide) rfl (fun ls hl => ?_)
      refine lv_iload hx hb dX2_quickSortIndirect_257 (lv_at hl 7 rfl) ?_
      refine lz_iinc (lv' := [(11, .int (iz_ (((ec1 : Nat) : Int) - 1))), (10, .int (iz_ ((b1 + 1 : Nat) : Int))), (0, .ref rp), (1, .ref rx), (2, .int (iz_ ((lo : Nat) : Int))), (3, .int (iz_ ((hi : Nat) : Int))), (8, .int vv), (9, .int (iz_ ((a : Nat) : Int))), (12, .int (iz_ (((dd : Nat) : Int) - 1)))]) (k := 7) (z := (((ec1 : Nat) : Int) - 1)) hx hb dX2_quickSortIndirect_259 hl rfl (by omega) (by decide) rfl (fun ls hl => ?_)
      refine iw_swap hC hl.1 hRf hRl hK hP hD hS 0 rfl (a := b1) (b := ec1) (by omega) (by omega) (by omega) (by omega) hn dX2_quickSortIndirect_262 (fun H locs hP hD hS => ?_)
      have hP : va_P D cl [(rp, .inl (d, n, .inl (is_sw f (b1) (ec1)))), (rx, .inl (d, nx, .inl X))] H := hP
      have hD : va_D A [(rp, .inl (d, n, .inl (is_sw f (b1) (ec1)))), (rx, .inl (d, nx, .inl X))] := hD
      refine lv_goto (tgt := 149) hx hb dX2_quickSortIndirect_265 (by decide) ?_
      exact ih a (b1 + 1) ec1 dd (by omega) _ H locs ls k4 ⟨hP, hD, hS⟩ (lv_sub hl [2, 3, 4, 5, 6, 7, 1, 0, 8] rfl)
    · have e1 : b1 = ec1 := by omega
      refine lv_goto (tgt := 268) hx hb dX2_quickSortIndirect_248 (by decide) ?_
      exact kexit a b1 ec1 dd f H locs ls e1 hp ⟨hP, hD, hS⟩ (lv_sub hl [0, 1, 2, 3, 4, 5, 6, 7, 8] rfl)
end
end
section
/-! ROWS OF OURS: halves, remainders, masks -/
theorem iz_nI (n : Nat) : nI n = iz_ (n : Int) := Int32.ofInt_eq_ofNat.symm
theorem iz_div {a b : Int} (ha : 0 ≤ a ∧ a < 2147483648) (hb : 1 ≤ b ∧ b < 2147483648) : iz_ a / iz_ b = iz_ (a / b) := by
  have e1 : Int32.minValue.toInt = -2147483648 := by decide +kernel
  have e2 : Int32.maxValue.toInt = 2147483647 := by decide +kernel
  have h1 : Int32.ofInt (a.tdiv b) = Int32.ofInt a / Int32.ofInt b := Int32.ofInt_tdiv (by omega) (by omega) (by omega) (by omega)
  rw [Int.tdiv_eq_ediv_of_nonneg ha.1] at h1
  exact h1.symm
theorem iz_mul (a b : Int) : iz_ a * iz_ b = iz_ (a * b) := (Int32.ofInt_mul a b).symm
theorem iz_rem {a b : Int} (ha : 0 ≤ a ∧ a < 2147483648) (hb : 1 ≤ b ∧ b < 2147483648) : iz_ a - iz_ a / iz_ b * iz_ b = iz_ (a % b) := by
  rw [iz_div ha hb, iz_mul, iz_sub]
  congr 1
  have := Int.emod_add_mul_ediv a b
  have h2 : a / b * b = b * (a / b) := Int.mul_comm _ _
  omega
/-- f & 2147483647, as a natural number -/
def is_m (x : Int32) : Nat := x.toBitVec.toNat % 2147483648
theorem is_m_lt (x : Int32) : is_m x < 2147483648 := Nat.mod_lt _ (by decide)
theorem iz_mask (x : Int32) : x &&& 2147483647 = iz_ (is_m x : Int) := by
  rw [← iz_nI]
  exact pk_and x (m := 2147483647) 31 (by decide +kernel)
section
variable {p : Program} {l : Launch} {e : Env} {R : Room} {s : State} {m : MethodId} {args : Array Value} {below : List Frame} {meth : Method} {c : Code} {H : Heap} {locs : List Loc} {cells slots : Nat} {Q : State → Prop}
variable {cc : ByteArray} {pc : Nat} {ls : Array Slot} {rest : List Value}
theorem lz_half (hexec : p.tables.exec = Jvm.exec) (hb : c.code = cc) {a : Int} (ha : 0 ≤ a ∧ a < 2147483648) (hdg : decode cc pc = .ok (.idiv, 1)) (kk : ∀ k : Nat, (2 * (k : Int) ≤ a ∧ a < 2 * (k : Int) + 2) → W p l e R s m args below meth c H locs cells slots Q (F0 m (pc + 1) ls (.int (iz_ (k : Int)) :: rest))) : W p l e R s m args below meth c H locs cells slots Q (F0 m pc ls (.int (iz_ (2 : Int)) :: .int (iz_ a) :: rest)) := by
  refine lv_idiv hexec hb hdg (by decide +kernel) ?_
  have e : iz_ a / iz_ 2 = iz_ (((a / 2).toNat : Nat) : Int) := by
    rw [iz_div ha (by omega)]
    congr 1
    omega
  rw [e]
  exact kk _ (by omega)
/-- (f & 2147483647) % b -/
theorem lz_mask (hexec : p.tables.exec = Jvm.exec) (hb : c.code = cc) {x : Int32} (hdg : decode cc pc = .ok (.iand, 1)) (kk : W p l e R s m args below meth c H locs cells slots Q (F0 m (pc + 1) ls (.int (iz_ (is_m x : Int)) :: rest))) : W p l e R s m args below meth c H locs cells slots Q (F0 m pc ls (.int 2147483647 :: .int x :: rest)) :=
  lv_iand hexec hb hdg (by rw [iz_mask]; exact kk)
theorem lz_rem (hexec : p.tables.exec = Jvm.exec) (hb : c.code = cc) {a b : Int} {k : Nat} (ha : 0 ≤ a ∧ a < 2147483648) (hb1 : 1 ≤ b ∧ b < 2147483648) (hk : a % b = (k : Int)) (hdg : decode cc pc = .ok (.irem, 1)) (kk : W p l e R s m args below meth c H locs cells slots Q (F0 m (pc + 1) ls (.int (iz_ (k : Int)) :: rest))) : W p l e R s m args below meth c H locs cells slots Q (F0 m pc ls (.int (iz_ b) :: .int (iz_ a) :: rest)) := by
  refine lv_irem hexec hb hdg (fun h => ?_) ?_
  · have h2 := congrArg Int32.toInt h
    rw [iz_t (by omega), iw_z0] at h2
    omega
  · rw [iz_rem ha hb1, hk]
    exact kk
end
end
section
/-! THE QUICK SORTS -/
section
variable {p : Program} {l : Launch} {e : Env} {R : Room} {s : State} {m : MethodId} {args : Array Value} {below : List Frame} {meth : Method} {c : Code} {H : Heap} {locs : List Loc} {Q : State → Prop}
variable {cc : ByteArray} {nL pc : Nat} {ls : Array Slot} {A : Nat → Prop} {H0 : Heap} {D : va_G} {cl : List vw_C} {ws : va_W} {rp rx n nx : Nat} {d : ClassId} {P X : Nat → Int32}
theorem iw_swap2 (hC : CallFix p m c cc nL s args lw_all RX2) (hl : ls.size = nL) (hRf : 3 ≤ R.frames) (hRl : 66 ≤ R.locals) (hK : va_K D cl [(d, .int)] s) (hP : va_P D cl ws H) (hD : va_D A ws) (hS : va_S A H0 H locs) (q0 : Nat) (h0 : ws[q0]? = some (rp, .inl (d, n, .inl P))) {x y z : Int} {a b k : Nat} (hx1 : x = (a : Int)) (hy1 : y = (b : Int)) (hz1 : z = (k : Int)) (hab : a + k ≤ b) (hbn : b + k ≤ n) (hn : n ≤ 1000) (hdg : decode cc pc = .ok (.invokestatic 33, 3))
    (kk : ∀ (H1 : Heap) (locs1 : List Loc), va_P D cl (ws.set q0 (rp, .inl (d, n, .inl (is_B P a b k)))) H1 → va_D A (ws.set q0 (rp, .inl (d, n, .inl (is_B P a b k)))) → va_S A H0 H1 locs1 → W p l e R s m args below meth c H1 locs1 0 0 Q (F0 m (pc + 3) ls [])) : W p l e R s m args below meth c H locs 0 0 Q (F0 m pc ls [.int (iz_ z), .int (iz_ y), .int (iz_ x), .ref rp]) := by
  subst hx1
  subst hy1
  subst hz1
  refine iw_set1 (va_runS (As := [.ref rp, .int (iz_ (a : Int)), .int (iz_ (b : Int)), .int (iz_ (k : Int))]) (rest := []) hC (met_swap2 l D cl rp d n P a b k hab hbn hn) (va_cwS 4 hC.2.2.2.2 (lw_S q87 q88 q7 q89) rfl rfl rfl (by decide +kernel) ⟨Nat.le_trans (Nat.le_of_ble_eq_true rfl) hRf, Nat.le_trans (Nat.le_of_ble_eq_true rfl) hRl⟩) ⟨iw_blind, fun U hU hW => iw_pre1 hK hP h0 hU hW⟩ rfl rfl hl rfl (lv_room (Nat.le_of_ble_eq_true rfl)) hdg ⟨Nat.zero_le _, Nat.zero_le _⟩) hP hD hS q0 h0 (fun P' H1 locs1 hp h1 h2 h3 => ?_)
  subst hp
  exact kk H1 locs1 h1 h2 h3
theorem iw_sel (hC : CallFix p m c cc nL s args lw_all RX2) (hl : ls.size = nL) (hRf : 3 ≤ R.frames) (hRl : 66 ≤ R.locals) (hK : va_K D cl [(d, .int)] s) (hP : va_P D cl ws H) (hD : va_D A ws) (hS : va_S A H0 H locs) (q0 : Nat) (h0 : ws[q0]? = some (rp, .inl (d, n, .inl P))) {lo hi : Nat} (hlh : lo ≤ hi) (hhn : hi ≤ n) (hn : n ≤ 1000) (hdg : decode cc pc = .ok (.invokestatic 21, 3))
    (kk : ∀ (P' : Nat → Int32) (H1 : Heap) (locs1 : List Loc), (is_R lo hi P P' ∧ is_S (fun z => z.toInt) P' lo hi) → va_P D cl (ws.set q0 (rp, .inl (d, n, .inl P'))) H1 → va_D A (ws.set q0 (rp, .inl (d, n, .inl P'))) → va_S A H0 H1 locs1 → W p l e R s m args below meth c H1 locs1 0 0 Q (F0 m (pc + 3) ls [])) : W p l e R s m args below meth c H locs 0 0 Q (F0 m pc ls [.int (iz_ (hi : Int)), .int (iz_ (lo : Int)), .ref rp]) :=
  iw_set1 (va_runS (As := [.ref rp, .int (iz_ (lo : Int)), .int (iz_ (hi : Int))]) (rest := []) hC (met_selsort l D cl rp d n P lo hi hlh hhn hn) (va_cwS 3 hC.2.2.2.2 (lw_S q99 q100 q7 q101) rfl rfl rfl (by decide +kernel) ⟨Nat.le_trans (Nat.le_of_ble_eq_true rfl) hRf, Nat.le_trans (Nat.le_of_ble_eq_true rfl) hRl⟩) ⟨iw_blind, fun U hU hW => iw_pre1 hK hP h0 hU hW⟩ rfl rfl hl rfl (lv_room (Nat.le_of_ble_eq_true rfl)) hdg ⟨Nat.zero_le _, Nat.zero_le _⟩) hP hD hS q0 h0 kk
theorem iw_ins (hC : CallFix p m c cc nL s args lw_all RX2) (hl : ls.size = nL) (hRf : 3 ≤ R.frames) (hRl : 66 ≤ R.locals) (hK : va_K D cl [(d, .int)] s) (hP : va_P D cl ws H) (hD : va_D A ws) (hS : va_S A H0 H locs) (q0 q1 : Nat) (h0 : ws[q0]? = some (rp, .inl (d, n, .inl P))) (h1 : ws[q1]? = some (rx, .inl (d, nx, .inl X))) (hne : q0 ≠ q1) {lo hi : Nat} (hlh : lo ≤ hi) (hhn : hi ≤ n) (hn : n ≤ 1000) (hv : ∀ q, lo ≤ q → q < hi → vp_in (P q) nx) (hdg : decode cc pc = .ok (.invokestatic 39, 3))
    (kk : ∀ (P' : Nat → Int32) (H1 : Heap) (locs1 : List Loc), (is_R lo hi P P' ∧ is_S (is_K X) P' lo hi) → va_P D cl (ws.set q0 (rp, .inl (d, n, .inl P'))) H1 → va_D A (ws.set q0 (rp, .inl (d, n, .inl P'))) → va_S A H0 H1 locs1 → W p l e R s m args below meth c H1 locs1 0 0 Q (F0 m (pc + 3) ls [])) : W p l e R s m args below meth c H locs 0 0 Q (F0 m pc ls [.int (iz_ (hi : Int)), .int (iz_ (lo : Int)), .ref rx, .ref rp]) :=
  iw_set2 (va_runS (As := [.ref rp, .ref rx, .int (iz_ (lo : Int)), .int (iz_ (hi : Int))]) (rest := []) hC (met_inssort l D cl rp rx d n nx P X lo hi hlh hhn hn hv) (va_cwS 4 hC.2.2.2.2 (lw_S q72 q73 q7 q74) rfl rfl rfl (by decide +kernel) ⟨Nat.le_trans (Nat.le_of_ble_eq_true rfl) hRf, Nat.le_trans (Nat.le_of_ble_eq_true rfl) hRl⟩) ⟨iw_blind, fun U hU hW => iw_pre2 hK hP hD h0 h1 hne hU hW⟩ rfl rfl hl rfl (lv_room (Nat.le_of_ble_eq_true rfl)) hdg ⟨Nat.zero_le _, Nat.zero_le _⟩) hP hD hS q0 q1 h0 h1 kk
theorem iw_med3 (hC : CallFix p m c cc nL s args lw_all RX2) (hl : ls.size = nL) (hRf : 3 ≤ R.frames) (hRl : 66 ≤ R.locals) (hK : va_K D cl [(d, .int)] s) (hP : va_P D cl ws H) (q0 : Nat) (h0 : ws[q0]? = some (rp, .inl (d, n, .inl P))) {x y z : Int} {a b k : Nat} (hx1 : x = (a : Int)) (hy1 : y = (b : Int)) (hz1 : z = (k : Int)) (ha : a < n) (hb2 : b < n) (hk : k < n) (hn : n ≤ 1000) (hdg : decode cc pc = .ok (.invokestatic 24, 3))
    (kk : ∀ j : Nat, (j = a ∨ j = b ∨ j = k) → W p l e R s m args below meth c H locs 0 0 Q (F0 m (pc + 3) ls [.int (iz_ (j : Int))])) : W p l e R s m args below meth c H locs 0 0 Q (F0 m pc ls [.int (iz_ z), .int (iz_ y), .int (iz_ x), .ref rp]) := by
  subst hx1
  subst hy1
  subst hz1
  refine vp_callSi (va_Run.run (va_runS (As := [.ref rp, .int (iz_ (a : Int)), .int (iz_ (b : Int)), .int (iz_ (k : Int))]) (rest := []) hC (met_med3 l D cl rp d n P a b k ha hb2 hk hn) (va_cwS 4 hC.2.2.2.2 (lw_S q102 q103 q7 q104) rfl rfl rfl (by decide +kernel) ⟨Nat.le_trans (Nat.le_of_ble_eq_true rfl) hRf, Nat.le_trans (Nat.le_of_ble_eq_true rfl) hRl⟩) ⟨iw_blind, fun U hU hW => iw_pre1 hK hP h0 hU hW⟩ rfl rfl hl rfl (lv_room (Nat.le_of_ble_eq_true rfl)) hdg ⟨Nat.zero_le _, Nat.zero_le _⟩)) (fun r hr => ?_)
  rcases hr with rfl | rfl | rfl
  · exact kk a (Or.inl rfl)
  · exact kk b (Or.inr (Or.inl rfl))
  · exact kk k (Or.inr (Or.inr rfl))
theorem iw_med3i (hC : CallFix p m c cc nL s args lw_all RX2) (hl : ls.size = nL) (hRf : 3 ≤ R.frames) (hRl : 66 ≤ R.locals) (hK : va_K D cl [(d, .int)] s) (hP : va_P D cl ws H) (hD : va_D A ws) (q0 q1 : Nat) (h0 : ws[q0]? = some (rp, .inl (d, n, .inl P))) (h1 : ws[q1]? = some (rx, .inl (d, nx, .inl X))) (hne : q0 ≠ q1) {x y z : Int} {a b k : Nat} (hx1 : x = (a : Int)) (hy1 : y = (b : Int)) (hz1 : z = (k : Int)) (ha : a < n) (hb2 : b < n) (hk : k < n) (hn : n ≤ 1000) (va : vp_in (P a) nx) (vb : vp_in (P b) nx) (vk : vp_in (P k) nx) (hdg : decode cc pc = .ok (.invokestatic 43, 3))
    (kk : ∀ j : Nat, (j = a ∨ j = b ∨ j = k) → W p l e R s m args below meth c H locs 0 0 Q (F0 m (pc + 3) ls [.int (iz_ (j : Int))])) : W p l e R s m args below meth c H locs 0 0 Q (F0 m pc ls [.int (iz_ z), .int (iz_ y), .int (iz_ x), .ref rx, .ref rp]) := by
  subst hx1
  subst hy1
  subst hz1
  refine vp_callSi (va_Run.run (va_runS (As := [.ref rp, .ref rx, .int (iz_ (a : Int)), .int (iz_ (b : Int)), .int (iz_ (k : Int))]) (rest := []) hC (met_med3i l D cl rp rx d n nx P X a b k ha hb2 hk hn va vb vk) (va_cwS 5 hC.2.2.2.2 (lw_S q75 q76 q7 q77) rfl rfl rfl (by decide +kernel) ⟨Nat.le_trans (Nat.le_of_ble_eq_true rfl) hRf, Nat.le_trans (Nat.le_of_ble_eq_true rfl) hRl⟩) ⟨iw_blind, fun U hU hW => iw_pre2 hK hP hD h0 h1 hne hU hW⟩ rfl rfl hl rfl (lv_room (Nat.le_of_ble_eq_true rfl)) hdg ⟨Nat.zero_le _, Nat.zero_le _⟩)) (fun r hr => ?_)
  rcases hr with rfl | rfl | rfl
  · exact kk a (Or.inl rfl)
  · exact kk b (Or.inr (Or.inl rfl))
  · exact kk k (Or.inr (Or.inr rfl))
end
/-- quickSort, for ranges of at most len, in the room rm: the range in order, by swaps within it -/
def iw_QS (rm : Room) (len : Nat) : Prop := ∀ (l : Launch) (D : va_G) (cl : List vw_C) (rp : Nat) (d : ClassId) (n : Nat) (P : Nat → Int32) (lo hi : Nat), lo ≤ hi → hi ≤ n → n ≤ 1000 → hi - lo ≤ 128 → hi - lo ≤ len → Met l yX2_quickSort (ws_ yX2_quickSort cX2_quickSort 13 none) rm (va_Pc [.ref rp, .int (iz_ ((lo : Nat) : Int)), .int (iz_ ((hi : Nat) : Int))] (iw_B D cl [(rp, .inl (d, n, .inl P))] [(d, .int)])) (va_Qv (fun P' : Nat → Int32 => is_R lo hi P P' ∧ is_S (fun z : Int32 => z.toInt) P' lo hi) (fun P' t => va_P D cl [(rp, .inl (d, n, .inl P'))] t.heap) (iw_A [(rp, .inl (d, n, .inl P))])) 0 0 (iw_A [(rp, .inl (d, n, .inl P))])
section
variable {p : Program} {l : Launch} {e : Env} {R : Room} {s : State} {m : MethodId} {args : Array Value} {below : List Frame} {meth : Method} {c : Code} {Q : State → Prop} {D : va_G} {cl : List vw_C} {A : Nat → Prop} {rp rx : Nat} {d : ClassId} {n nx : Nat} {P0 X : Nat → Int32}
set_option maxHeartbeats 4000000 in
set_option maxRecDepth 100000 in
theorem iw_qs_tail (hC : CallFix p m c cX2_quickSort 13 s args lw_all RX2) (hRf : 3 ≤ R.frames) (hRl : 66 ≤ R.locals) (hK : va_K D cl [(d, .int)] s) {lo hi pm len : Nat} {vv : Int32} (hin : hi ≤ n) (hn : n ≤ 1000) (h128 : hi - lo ≤ 128) (hlen : hi - lo ≤ len) (hpm : lo ≤ pm ∧ pm < hi) (hpv : (P0 pm).toInt = vv.toInt) {rm2 : Room} (hrm : rm2.cells = 0 ∧ rm2.slots = 0 ∧ rm2.frames + 1 ≤ R.frames ∧ 33 + rm2.locals ≤ R.locals) (hrec : 0 < len → iw_QS rm2 (len - 1))
    (kexit : ∀ (P : Nat → Int32) (H : Heap) (locs : List Loc) (ls : Array Slot), iw_1 D cl A s rp d n P H locs → is_R lo hi P0 P → is_S (fun z : Int32 => z.toInt) P lo hi → W p l e R s m args below meth c H locs 0 0 Q (F0 m 348 ls []))
    {a b ec dd : Nat} {f : Nat → Int32} {H : Heap} {locs : List Loc} {ls : Array Slot} (hbc : b = ec) (hp : is_P (fun z : Int32 => z.toInt) vv.toInt P0 f lo hi a b ec dd) (hw : iw_1 D cl A s rp d n f H locs) (hl : lv_has ls 13 [(0, .ref rp), (1, .int (iz_ ((lo : Nat) : Int))), (2, .int (iz_ ((hi : Nat) : Int))), (7, .int vv), (8, .int (iz_ ((a : Nat) : Int))), (9, .int (iz_ ((b : Nat) : Int))), (10, .int (iz_ (((ec : Nat) : Int) - 1))), (11, .int (iz_ (((dd : Nat) : Int) - 1)))]) : W p l e R s m args below meth c H locs 0 0 Q (F0 m 252 ls []) := by
  have hx := hC.1
  have hb := hC.2.1
  have hRf1 : 1 ≤ R.frames := by omega
  have hRl1 : 23 ≤ R.locals := by omega
  have ho := hp.2.1
  have hlt := is_less hp hbc hpm.1 hpm.2 hpv
  obtain ⟨hP, hD, hS⟩ := hw
  refine lv_iload hx hb dX2_quickSort_252 (lv_at hl 4 rfl) ?_
  refine lv_iload_n hx hb dX2_quickSort_254 rfl (lv_at hl 1 rfl) ?_
  refine lz_isub (z := (((a : Nat) : Int) - ((lo : Nat) : Int))) hx hb dX2_quickSort_255 (by omega) ?_
  refine lv_iload hx hb dX2_quickSort_256 (lv_at hl 5 rfl) ?_
  refine lv_iload hx hb dX2_quickSort_258 (lv_at hl 4 rfl) ?_
  refine lz_isub (z := (((b : Nat) : Int) - ((a : Nat) : Int))) hx hb dX2_quickSort_260 (by omega) ?_
  refine iw_min hC hl.1 hRf1 hRl1 ⟨Nat.zero_le _, Nat.zero_le _⟩ (by omega) (by omega) dX2_quickSort_261 (fun s1 hs1 => ?_)
  refine lv_istore (lv' := [(12, .int (iz_ ((s1 : Nat) : Int))), (0, .ref rp), (1, .int (iz_ ((lo : Nat) : Int))), (2, .int (iz_ ((hi : Nat) : Int))), (7, .int vv), (8, .int (iz_ ((a : Nat) : Int))), (9, .int (iz_ ((b : Nat) : Int))), (10, .int (iz_ (((ec : Nat) : Int) - 1))), (11, .int (iz_ (((dd : Nat) : Int) - 1)))]) hx hb dX2_quickSort_264 hl (by decide) rfl (fun ls hl => ?_)
  refine lv_aload_n hx hb dX2_quickSort_266 rfl (lv_at hl 1 rfl) ?_
  refine lv_iload_n hx hb dX2_quickSort_267 rfl (lv_at hl 2 rfl) ?_
  refine lv_iload hx hb dX2_quickSort_268 (lv_at hl 6 rfl) ?_
  refine lv_iload hx hb dX2_quickSort_270 (lv_at hl 0 rfl) ?_
  refine lz_isub (z := ((b - s1 : Nat) : Int)) hx hb dX2_quickSort_272 (by omega) ?_
  refine lv_iload hx hb dX2_quickSort_273 (lv_at hl 0 rfl) ?_
  refine iw_swap2 hC hl.1 hRf hRl hK hP hD hS 0 rfl (a := lo) (b := b - s1) (k := s1) (by omega) (by omega) (by omega) (by omega) (by omega) hn dX2_quickSort_275 (fun H locs hP hD hS => ?_)
  have hP : va_P D cl [(rp, .inl (d, n, .inl (is_B f (lo) (b - s1) (s1))))] H := hP
  have hD : va_D A [(rp, .inl (d, n, .inl (is_B f (lo) (b - s1) (s1))))] := hD
  refine lv_iload hx hb dX2_quickSort_278 (lv_at hl 8 rfl) ?_
  refine lv_iload hx hb dX2_quickSort_280 (lv_at hl 7 rfl) ?_
  refine lz_isub (z := (((dd : Nat) : Int) - ((ec : Nat) : Int))) hx hb dX2_quickSort_282 (by omega) ?_
  refine lv_iload_n hx hb dX2_quickSort_283 rfl (lv_at hl 3 rfl) ?_
  refine lv_iload hx hb dX2_quickSort_284 (lv_at hl 8 rfl) ?_
  refine lz_isub (z := (((hi : Nat) : Int) - ((dd : Nat) : Int) + 1)) hx hb dX2_quickSort_286 (by omega) ?_
  refine lz_iconst hx hb dX2_quickSort_287 ?_
  refine lz_isub (z := (((hi : Nat) : Int) - ((dd : Nat) : Int))) hx hb dX2_quickSort_288 (by omega) ?_
  refine iw_min hC hl.1 hRf1 hRl1 ⟨Nat.zero_le _, Nat.zero_le _⟩ (by omega) (by omega) dX2_quickSort_289 (fun s2 hs2 => ?_)
  refine lv_istore (lv' := [(12, .int (iz_ ((s2 : Nat) : Int))), (0, .ref rp), (1, .int (iz_ ((lo : Nat) : Int))), (2, .int (iz_ ((hi : Nat) : Int))), (7, .int vv), (8, .int (iz_ ((a : Nat) : Int))), (9, .int (iz_ ((b : Nat) : Int))), (10, .int (iz_ (((ec : Nat) : Int) - 1))), (11, .int (iz_ (((dd : Nat) : Int) - 1)))]) hx hb dX2_quickSort_292 hl (by decide) rfl (fun ls hl => ?_)
  refine lv_aload_n hx hb dX2_quickSort_294 rfl (lv_at hl 1 rfl) ?_
  refine lv_iload hx hb dX2_quickSort_295 (lv_at hl 6 rfl) ?_
  refine lv_iload_n hx hb dX2_quickSort_297 rfl (lv_at hl 3 rfl) ?_
  refine lv_iload hx hb dX2_quickSort_298 (lv_at hl 0 rfl) ?_
  refine lz_isub (z := ((hi - s2 : Nat) : Int)) hx hb dX2_quickSort_300 (by omega) ?_
  refine lv_iload hx hb dX2_quickSort_301 (lv_at hl 0 rfl) ?_
  refine iw_swap2 hC hl.1 hRf hRl hK hP hD hS 0 rfl (a := b) (b := hi - s2) (k := s2) (by omega) (by omega) (by omega) (by omega) (by omega) hn dX2_quickSort_303 (fun H locs hP hD hS => ?_)
  have hP : va_P D cl [(rp, .inl (d, n, .inl (is_B (is_B f (lo) (b - s1) (s1)) (b) (hi - s2) (s2))))] H := hP
  have hD : va_D A [(rp, .inl (d, n, .inl (is_B (is_B f (lo) (b - s1) (s1)) (b) (hi - s2) (s2))))] := hD
  obtain ⟨g0, g1, g2, g3⟩ := is_fin hp hbc (s1 := s1) (s2 := s2) (by omega) (by omega) (by omega) (by omega) (by omega) (by omega)
  generalize hge : is_B (is_B f lo (b - s1) s1) b (hi - s2) s2 = g at hP hD g0 g1 g2 g3
  have k344 : ∀ (h : Nat → Int32) (H : Heap) (locs : List Loc) (ls : Array Slot), iw_1 D cl A s rp d n h H locs → is_R lo (lo + (b - a)) g h → is_S (fun z : Int32 => z.toInt) h lo (lo + (b - a)) → lv_has ls 13 [(0, .ref rp), (1, .int (iz_ ((lo : Nat) : Int))), (2, .int (iz_ ((hi : Nat) : Int))), (8, .int (iz_ ((a : Nat) : Int))), (9, .int (iz_ ((b : Nat) : Int))), (10, .int (iz_ (((ec : Nat) : Int) - 1))), (11, .int (iz_ (((dd : Nat) : Int) - 1)))] → W p l e R s m args below meth c H locs 0 0 Q (F0 m 327 ls []) := by
    intro h H locs ls hw r1 s1 hl
    obtain ⟨hP, hD, hS⟩ := hw
    refine lv_iload hx hb dX2_quickSort_327 (lv_at hl 6 rfl) ?_
    refine lv_iload hx hb dX2_quickSort_329 (lv_at hl 5 rfl) ?_
    refine lz_isub (z := (((dd : Nat) : Int) - ((ec : Nat) : Int))) hx hb dX2_quickSort_331 (by omega) ?_
    refine lv_dup hx hb dX2_quickSort_332 rfl ?_
    refine lv_istore (lv' := [(12, .int (iz_ (((dd : Nat) : Int) - ((ec : Nat) : Int)))), (0, .ref rp), (1, .int (iz_ ((lo : Nat) : Int))), (2, .int (iz_ ((hi : Nat) : Int))), (8, .int (iz_ ((a : Nat) : Int))), (9, .int (iz_ ((b : Nat) : Int))), (10, .int (iz_ (((ec : Nat) : Int) - 1))), (11, .int (iz_ (((dd : Nat) : Int) - 1)))]) hx hb dX2_quickSort_333 hl (by decide) rfl (fun ls hl => ?_)
    refine lz_iconst hx hb dX2_quickSort_335 ?_
    refine lz_icmp_le (tgt := 348) hx hb dX2_quickSort_336 (by decide) (iz_t (by omega)) (iz_t (by omega)) (fun c1 => ?_) (fun c2 => ?_)
    · exact kexit h H locs ls ⟨hP, hD, hS⟩ (is_R_tr g0 (is_R_mo r1 (Nat.le_refl _) (by omega))) (is_cat (x := b - a) (y := dd - ec) (by omega) (by omega) g1 g2 g3 r1 s1 is_R_rf (is_S_1 (by omega)))
    · refine lv_aload_n hx hb dX2_quickSort_339 rfl (lv_at hl 1 rfl) ?_
      refine lv_iload_n hx hb dX2_quickSort_340 rfl (lv_at hl 3 rfl) ?_
      refine lv_iload hx hb dX2_quickSort_341 (lv_at hl 0 rfl) ?_
      refine lz_isub (z := ((hi - (dd - ec) : Nat) : Int)) hx hb dX2_quickSort_343 (by omega) ?_
      refine lv_iload_n hx hb dX2_quickSort_344 rfl (lv_at hl 3 rfl) ?_
      refine iw_set1 (va_runS (As := [.ref rp, .int (iz_ ((hi - (dd - ec) : Nat) : Int)), .int (iz_ ((hi : Nat) : Int))]) (rest := []) hC (hrec (by omega) l D cl rp d n h (hi - (dd - ec)) (hi) (by omega) (by omega) hn (by omega) (by omega)) (va_cwS 3 hC.2.2.2.2 (lw_S q96 q97 q7 q98) rfl hrm.1 hrm.2.1 (by decide +kernel) ⟨hrm.2.2.1, Nat.le_trans (Nat.add_le_add_right (Nat.le_of_ble_eq_true rfl) _) hrm.2.2.2⟩) ⟨iw_blind, fun U hU hW => iw_pre1 hK hP (q0 := 0) rfl hU hW⟩ rfl rfl hl.1 rfl (lv_room (Nat.le_of_ble_eq_true rfl)) dX2_quickSort_345 ⟨Nat.zero_le _, Nat.zero_le _⟩) hP hD hS 0 rfl (fun hh H locs hg hP hD hS => ?_)
      have hP : va_P D cl [(rp, .inl (d, n, .inl hh))] H := hP
      have hD : va_D A [(rp, .inl (d, n, .inl hh))] := hD
      exact kexit hh H locs ls ⟨hP, hD, hS⟩ (is_R_tr g0 (is_R_tr (is_R_mo r1 (Nat.le_refl _) (by omega)) (is_R_mo hg.1 (by omega) (Nat.le_refl _)))) (is_cat (x := b - a) (y := dd - ec) (by omega) (by omega) g1 g2 g3 r1 s1 hg.1 hg.2)
  refine lv_iload hx hb dX2_quickSort_306 (lv_at hl 6 rfl) ?_
  refine lv_iload hx hb dX2_quickSort_308 (lv_at hl 5 rfl) ?_
  refine lz_isub (z := (((b : Nat) : Int) - ((a : Nat) : Int))) hx hb dX2_quickSort_310 (by omega) ?_
  refine lv_dup hx hb dX2_quickSort_311 rfl ?_
  refine lv_istore (lv' := [(12, .int (iz_ (((b : Nat) : Int) - ((a : Nat) : Int)))), (0, .ref rp), (1, .int (iz_ ((lo : Nat) : Int))), (2, .int (iz_ ((hi : Nat) : Int))), (7, .int vv), (8, .int (iz_ ((a : Nat) : Int))), (9, .int (iz_ ((b : Nat) : Int))), (10, .int (iz_ (((ec : Nat) : Int) - 1))), (11, .int (iz_ (((dd : Nat) : Int) - 1)))]) hx hb dX2_quickSort_312 hl (by decide) rfl (fun ls hl => ?_)
  refine lz_iconst hx hb dX2_quickSort_314 ?_
  refine lz_icmp_le (tgt := 327) hx hb dX2_quickSort_315 (by decide) (iz_t (by omega)) (iz_t (by omega)) (fun c1 => ?_) (fun c2 => ?_)
  · exact k344 g H locs ls ⟨hP, hD, hS⟩ is_R_rf (is_S_1 (by omega)) (lv_sub hl [1, 2, 3, 5, 6, 7, 8] rfl)
  · refine lv_aload_n hx hb dX2_quickSort_318 rfl (lv_at hl 1 rfl) ?_
    refine lv_iload_n hx hb dX2_quickSort_319 rfl (lv_at hl 2 rfl) ?_
    refine lv_iload_n hx hb dX2_quickSort_320 rfl (lv_at hl 2 rfl) ?_
    refine lv_iload hx hb dX2_quickSort_321 (lv_at hl 0 rfl) ?_
    refine lz_iadd (z := ((lo + (b - a) : Nat) : Int)) hx hb dX2_quickSort_323 (by omega) ?_
    refine iw_set1 (va_runS (As := [.ref rp, .int (iz_ ((lo : Nat) : Int)), .int (iz_ ((lo + (b - a) : Nat) : Int))]) (rest := []) hC (hrec (by omega) l D cl rp d n g (lo) (lo + (b - a)) (by omega) (by omega) hn (by omega) (by omega)) (va_cwS 3 hC.2.2.2.2 (lw_S q96 q97 q7 q98) rfl hrm.1 hrm.2.1 (by decide +kernel) ⟨hrm.2.2.1, Nat.le_trans (Nat.add_le_add_right (Nat.le_of_ble_eq_true rfl) _) hrm.2.2.2⟩) ⟨iw_blind, fun U hU hW => iw_pre1 hK hP (q0 := 0) rfl hU hW⟩ rfl rfl hl.1 rfl (lv_room (Nat.le_of_ble_eq_true rfl)) dX2_quickSort_324 ⟨Nat.zero_le _, Nat.zero_le _⟩) hP hD hS 0 rfl (fun hh H locs hg hP hD hS => ?_)
    have hP : va_P D cl [(rp, .inl (d, n, .inl hh))] H := hP
    have hD : va_D A [(rp, .inl (d, n, .inl hh))] := hD
    exact k344 hh H locs ls ⟨hP, hD, hS⟩ hg.1 hg.2 (lv_sub hl [1, 2, 3, 5, 6, 7, 8] rfl)
end
set_option maxHeartbeats 4000000 in
set_option maxRecDepth 100000 in
theorem iw_qs_step {rf rl len : Nat} {rm2 : Room} (hrf : 3 ≤ rf) (hrl : 66 ≤ rl) (hrm : rm2.cells = 0 ∧ rm2.slots = 0 ∧ rm2.frames + 1 ≤ rf ∧ 33 + rm2.locals ≤ rl) (hrec : 0 < len → iw_QS rm2 (len - 1)) : iw_QS ({ frames := rf, cells := 0, slots := 0, locals := rl }) len := by
  intro l D cl rp d n P lo hi hlh hin hn h128 hlen
  refine Met.ofW (cc := cX2_quickSort) (maxL := 13) (ret := none) (by decide) rfl ?_
  intro p e s m args below meth c s₁ B hml hv
  obtain ⟨rfl, hP, hK, hD0⟩ := hv
  have hx := B.exec
  have hb := B.bytes
  have hr := B.returns
  have hlocks := B.notSynchronized
  have hts0 := atoms_spec B.pre
  have hts : ∀ w ∈ lw_all, w.before _ s = true := fun w h => hts0 w (List.mem_cons_of_mem _ h)
  have hown : s.vm.findClass RX2 = some m.cls := findClass_of_methodNamed B.named
  have hC : CallFix p m c cX2_quickSort 13 s _ lw_all RX2 := ⟨hx, hb, hml, hown, hts⟩
  have hD := iw_Dself hD0
  generalize hAe : iw_A [(rp, .inl (d, n, .inl P))] = A at hD ⊢
  have hS : va_S A s.heap s.heap [] := va_S.rf
  have hl := lv_entry ([.ref rp, .int (iz_ ((lo : Nat) : Int)), .int (iz_ ((hi : Nat) : Int))]) (n := 13) (Nat.le_of_ble_eq_true rfl)
  rw [lg_entry_eq]
  generalize (lg_sl ([.ref rp, .int (iz_ ((lo : Nat) : Int)), .int (iz_ ((hi : Nat) : Int))]) ++ List.replicate (13 - (lg_sl ([.ref rp, .int (iz_ ((lo : Nat) : Int)), .int (iz_ ((hi : Nat) : Int))])).length) Slot.unset).toArray = ls at hl ⊢
  have hl : lv_has ls 13 [(0, .ref rp), (1, .int (iz_ ((lo : Nat) : Int))), (2, .int (iz_ ((hi : Nat) : Int)))] := hl
  have hRf : 3 ≤ (headSpec (ws_ yX2_quickSort cX2_quickSort 13 none) ({ frames := rf, cells := 0, slots := 0, locals := rl })).room.frames := hrf
  have hRl : 66 ≤ (headSpec (ws_ yX2_quickSort cX2_quickSort 13 none) ({ frames := rf, cells := 0, slots := 0, locals := rl })).room.locals := hrl
  have hRm : rm2.cells = 0 ∧ rm2.slots = 0 ∧ rm2.frames + 1 ≤ (headSpec (ws_ yX2_quickSort cX2_quickSort 13 none) ({ frames := rf, cells := 0, slots := 0, locals := rl })).room.frames ∧ 33 + rm2.locals ≤ (headSpec (ws_ yX2_quickSort cX2_quickSort 13 none) ({ frames := rf, cells := 0, slots := 0, locals := rl })).room.locals := hrm
  refine lv_iload_n hx hb dX2_quickSort_0 rfl (lv_at hl 2 rfl) ?_
  refine lv_iload_n hx hb dX2_quickSort_1 rfl (lv_at hl 1 rfl) ?_
  refine lz_isub (z := (((hi : Nat) : Int) - ((lo : Nat) : Int))) hx hb dX2_quickSort_2 (by omega) ?_
  refine lv_istore_n (lv' := [(3, .int (iz_ (((hi : Nat) : Int) - ((lo : Nat) : Int)))), (0, .ref rp), (1, .int (iz_ ((lo : Nat) : Int))), (2, .int (iz_ ((hi : Nat) : Int)))]) hx hb dX2_quickSort_3 rfl hl (by decide) rfl (fun ls hl => ?_)
  refine lv_iload_n hx hb dX2_quickSort_4 rfl (lv_at hl 0 rfl) ?_
  refine lv_bipush (v := iz_ ((16 : Int))) hx hb dX2_quickSort_5 (by decide +kernel) ?_
  refine lz_icmp_ge (tgt := 17) hx hb dX2_quickSort_7 (by decide) (iz_t (by omega)) (iz_t (by omega)) (fun c1 => ?_) (fun c2 => ?_)
  · refine lv_iload_n hx hb dX2_quickSort_17 rfl (lv_at hl 2 rfl) ?_
    refine lv_iload_n hx hb dX2_quickSort_18 rfl (lv_at hl 0 rfl) ?_
    refine lz_iconst hx hb dX2_quickSort_19 ?_
    refine lz_half hx hb (by omega) dX2_quickSort_20 (fun hf hh => ?_)
    refine lz_iadd (z := (((hf : Nat) : Int) + ((lo : Nat) : Int))) hx hb dX2_quickSort_21 (by omega) ?_
    refine lv_istore (lv' := [(4, .int (iz_ (((hf : Nat) : Int) + ((lo : Nat) : Int)))), (3, .int (iz_ (((hi : Nat) : Int) - ((lo : Nat) : Int)))), (0, .ref rp), (1, .int (iz_ ((lo : Nat) : Int))), (2, .int (iz_ ((hi : Nat) : Int)))]) hx hb dX2_quickSort_22 hl (by decide) rfl (fun ls hl => ?_)
    refine lv_iload_n hx hb dX2_quickSort_24 rfl (lv_at hl 3 rfl) ?_
    refine lv_istore (lv' := [(5, .int (iz_ ((lo : Nat) : Int))), (4, .int (iz_ (((hf : Nat) : Int) + ((lo : Nat) : Int)))), (3, .int (iz_ (((hi : Nat) : Int) - ((lo : Nat) : Int)))), (0, .ref rp), (1, .int (iz_ ((lo : Nat) : Int))), (2, .int (iz_ ((hi : Nat) : Int)))]) hx hb dX2_quickSort_25 hl (by decide) rfl (fun ls hl => ?_)
    refine lv_iload_n hx hb dX2_quickSort_27 rfl (lv_at hl 5 rfl) ?_
    refine lz_iconst hx hb dX2_quickSort_28 ?_
    refine lz_isub (z := (((hi : Nat) : Int) - 1)) hx hb dX2_quickSort_29 (by omega) ?_
    refine lv_istore (lv' := [(6, .int (iz_ (((hi : Nat) : Int) - 1))), (5, .int (iz_ ((lo : Nat) : Int))), (4, .int (iz_ (((hf : Nat) : Int) + ((lo : Nat) : Int)))), (3, .int (iz_ (((hi : Nat) : Int) - ((lo : Nat) : Int)))), (0, .ref rp), (1, .int (iz_ ((lo : Nat) : Int))), (2, .int (iz_ ((hi : Nat) : Int)))]) hx hb dX2_quickSort_30 hl (by decide) rfl (fun ls hl => ?_)
    refine lv_iload_n hx hb dX2_quickSort_32 rfl (lv_at hl 3 rfl) ?_
    refine lv_sipush (v := iz_ ((128 : Int))) hx hb dX2_quickSort_33 (by decide +kernel) ?_
    refine lz_icmp_le (tgt := 103) hx hb dX2_quickSort_36 (by decide) (iz_t (by omega)) (iz_t (by omega)) (fun c3 => ?_) (fun c4 => ?_)
    · refine lv_aload_n hx hb dX2_quickSort_103 rfl (lv_at hl 4 rfl) ?_
      refine lv_iload hx hb dX2_quickSort_104 (lv_at hl 1 rfl) ?_
      refine lv_iload hx hb dX2_quickSort_106 (lv_at hl 2 rfl) ?_
      refine lv_iload hx hb dX2_quickSort_108 (lv_at hl 0 rfl) ?_
      refine iw_med3 hC hl.1 hRf hRl hK hP 0 rfl (a := lo) (b := lo + hf) (k := hi - 1) (by omega) (by omega) (by omega) (by omega) (by omega) (by omega) hn dX2_quickSort_110 (fun pm hpm => ?_)
      refine lv_istore (lv' := [(4, .int (iz_ ((pm : Nat) : Int))), (6, .int (iz_ (((hi : Nat) : Int) - 1))), (5, .int (iz_ ((lo : Nat) : Int))), (3, .int (iz_ (((hi : Nat) : Int) - ((lo : Nat) : Int)))), (0, .ref rp), (1, .int (iz_ ((lo : Nat) : Int))), (2, .int (iz_ ((hi : Nat) : Int)))]) hx hb dX2_quickSort_113 hl (by decide) rfl (fun ls hl => ?_)
      refine lv_aload_n hx hb dX2_quickSort_115 rfl (lv_at hl 4 rfl) ?_
      refine lv_iload hx hb dX2_quickSort_116 (lv_at hl 0 rfl) ?_
      refine lz_iald (k := pm) hx hb hK hP 0 0 rfl rfl (by omega) (by omega) (by omega) dX2_quickSort_118 ?_
      refine lv_topi (fun vv hvv => ?_)
      refine lv_istore (lv' := [(7, .int vv), (4, .int (iz_ ((pm : Nat) : Int))), (6, .int (iz_ (((hi : Nat) : Int) - 1))), (5, .int (iz_ ((lo : Nat) : Int))), (3, .int (iz_ (((hi : Nat) : Int) - ((lo : Nat) : Int)))), (0, .ref rp), (1, .int (iz_ ((lo : Nat) : Int))), (2, .int (iz_ ((hi : Nat) : Int)))]) hx hb dX2_quickSort_119 hl (by decide) rfl (fun ls hl => ?_)
      refine lv_iload_n hx hb dX2_quickSort_121 rfl (lv_at hl 6 rfl) ?_
      refine lv_istore (lv' := [(8, .int (iz_ ((lo : Nat) : Int))), (7, .int vv), (4, .int (iz_ ((pm : Nat) : Int))), (6, .int (iz_ (((hi : Nat) : Int) - 1))), (5, .int (iz_ ((lo : Nat) : Int))), (3, .int (iz_ (((hi : Nat) : Int) - ((lo : Nat) : Int)))), (0, .ref rp), (1, .int (iz_ ((lo : Nat) : Int))), (2, .int (iz_ ((hi : Nat) : Int)))]) hx hb dX2_quickSort_122 hl (by decide) rfl (fun ls hl => ?_)
      refine lv_iload hx hb dX2_quickSort_124 (lv_at hl 0 rfl) ?_
      refine lv_istore (lv' := [(9, .int (iz_ ((lo : Nat) : Int))), (8, .int (iz_ ((lo : Nat) : Int))), (7, .int vv), (4, .int (iz_ ((pm : Nat) : Int))), (6, .int (iz_ (((hi : Nat) : Int) - 1))), (5, .int (iz_ ((lo : Nat) : Int))), (3, .int (iz_ (((hi : Nat) : Int) - ((lo : Nat) : Int)))), (0, .ref rp), (1, .int (iz_ ((lo : Nat) : Int))), (2, .int (iz_ ((hi : Nat) : Int)))]) hx hb dX2_quickSort_126 hl (by decide) rfl (fun ls hl => ?_)
      refine lv_iload_n hx hb dX2_quickSort_128 rfl (lv_at hl 9 rfl) ?_
      refine lz_iconst hx hb dX2_quickSort_129 ?_
      refine lz_isub (z := (((hi : Nat) : Int) - 1)) hx hb dX2_quickSort_130 (by omega) ?_
      refine lv_istore (lv' := [(10, .int (iz_ (((hi : Nat) : Int) - 1))), (9, .int (iz_ ((lo : Nat) : Int))), (8, .int (iz_ ((lo : Nat) : Int))), (7, .int vv), (4, .int (iz_ ((pm : Nat) : Int))), (6, .int (iz_ (((hi : Nat) : Int) - 1))), (5, .int (iz_ ((lo : Nat) : Int))), (3, .int (iz_ (((hi : Nat) : Int) - ((lo : Nat) : Int)))), (0, .ref rp), (1, .int (iz_ ((lo : Nat) : Int))), (2, .int (iz_ ((hi : Nat) : Int)))]) hx hb dX2_quickSort_131 hl (by decide) rfl (fun ls hl => ?_)
      refine lv_iload hx hb dX2_quickSort_133 (lv_at hl 0 rfl) ?_
      refine lv_istore (lv' := [(11, .int (iz_ (((hi : Nat) : Int) - 1))), (10, .int (iz_ (((hi : Nat) : Int) - 1))), (9, .int (iz_ ((lo : Nat) : Int))), (8, .int (iz_ ((lo : Nat) : Int))), (7, .int vv), (4, .int (iz_ ((pm : Nat) : Int))), (6, .int (iz_ (((hi : Nat) : Int) - 1))), (5, .int (iz_ ((lo : Nat) : Int))), (3, .int (iz_ (((hi : Nat) : Int) - ((lo : Nat) : Int)))), (0, .ref rp), (1, .int (iz_ ((lo : Nat) : Int))), (2, .int (iz_ ((hi : Nat) : Int)))]) hx hb dX2_quickSort_135 hl (by decide) rfl (fun ls hl => ?_)
      have hp0 : is_P (fun z : Int32 => z.toInt) vv.toInt P P lo hi lo lo hi hi := is_P_0 hlh
      refine iw_qs_part (P0 := P) (t := hi + 1) (lo := lo) (hi := hi) (vv := vv) (a := lo) (b := lo) (ec := hi) (dd := hi) hC (Nat.le_trans (Nat.le_of_ble_eq_true rfl) hRf) (Nat.le_trans (Nat.le_of_ble_eq_true rfl) hRl) hK hin hn (fun a b ec dd f H locs ls hbc hp hw hl => ?_) (by omega) P s.heap [] ls hp0 ⟨hP, hD, hS⟩ (lv_sub hl [9, 10, 11, 4, 3, 2, 1, 0] rfl)
      refine iw_qs_tail (P0 := P) (pm := pm) (len := len) hC hRf hRl hK hin hn h128 hlen (by omega) (by rw [hvv]) hRm hrec (fun Pn H locs ls hw hR hT => ?_) hbc hp hw hl
      obtain ⟨hP, hD, hS⟩ := hw
      exact W.vret hx hb hr (fun t ht hW => ⟨⟨_, rfl, ⟨hR, hT⟩, by show va_P D cl _ t.heap; rw [ht]; exact hP⟩, hS.F ht⟩) hS.2.2 dX2_quickSort_348
    · omega
  · refine lv_aload_n hx hb dX2_quickSort_10 rfl (lv_at hl 1 rfl) ?_
    refine lv_iload_n hx hb dX2_quickSort_11 rfl (lv_at hl 2 rfl) ?_
    refine lv_iload_n hx hb dX2_quickSort_12 rfl (lv_at hl 3 rfl) ?_
    refine iw_sel hC hl.1 hRf hRl hK hP hD hS 0 rfl hlh hin hn dX2_quickSort_13 (fun Pn H locs hg hP hD hS => ?_)
    have hP : va_P D cl [(rp, .inl (d, n, .inl Pn))] H := hP
    have hD : va_D A [(rp, .inl (d, n, .inl Pn))] := hD
    exact W.vret hx hb hr (fun t ht hW => ⟨⟨_, rfl, hg, by show va_P D cl _ t.heap; rw [ht]; exact hP⟩, hS.F ht⟩) hS.2.2 dX2_quickSort_16
/-- quickSort at every depth -/
theorem met_qs : ∀ k : Nat, iw_QS ({ frames := k + 3, cells := 0, slots := 0, locals := 33 * (k + 2) }) k := by
  intro k
  induction k with
  | zero => exact iw_qs_step (rm2 := { frames := 0, cells := 0, slots := 0, locals := 0 }) (by omega) (by omega) ⟨rfl, rfl, Nat.le_of_ble_eq_true rfl, Nat.le_of_ble_eq_true rfl⟩ (fun h => absurd h (by omega))
  | succ k ih => exact iw_qs_step (rm2 := { frames := k + 3, cells := 0, slots := 0, locals := 33 * (k + 2) }) (by omega) (by omega) ⟨rfl, rfl, by show k + 3 + 1 ≤ k + 1 + 3; omega, by show 33 + 33 * (k + 2) ≤ 33 * (k + 1 + 2); omega⟩ (fun _ => ih)
/-- quickSortIndirect, for ranges of at most len, in the room rm: the range in order, by swaps within it -/
def iw_QI (rm : Room) (len : Nat) : Prop := ∀ (l : Launch) (D : va_G) (cl : List vw_C) (rp rx : Nat) (d : ClassId) (n nx : Nat) (P X : Nat → Int32) (lo hi : Nat), lo ≤ hi → hi ≤ n → n ≤ 1000 → hi - lo ≤ 128 → hi - lo ≤ len → (∀ q, lo ≤ q → q < hi → vp_in (P q) nx) → Met l yX2_quickSortIndirect (ws_ yX2_quickSortIndirect cX2_quickSortIndirect 14 none) rm (va_Pc [.ref rp, .ref rx, .int (iz_ ((lo : Nat) : Int)), .int (iz_ ((hi : Nat) : Int))] (iw_B D cl [(rp, .inl (d, n, .inl P)), (rx, .inl (d, nx, .inl X))] [(d, .int)])) (va_Qv (fun P' : Nat → Int32 => is_R lo hi P P' ∧ is_S (is_K X) P' lo hi) (fun P' t => va_P D cl [(rp, .inl (d, n, .inl P')), (rx, .inl (d, nx, .inl X))] t.heap) (iw_A [(rp, .inl (d, n, .inl P)), (rx, .inl (d, nx, .inl X))])) 0 0 (iw_A [(rp, .inl (d, n, .inl P)), (rx, .inl (d, nx, .inl X))])
section
variable {p : Program} {l : Launch} {e : Env} {R : Room} {s : State} {m : MethodId} {args : Array Value} {below : List Frame} {meth : Method} {c : Code} {Q : State → Prop} {D : va_G} {cl : List vw_C} {A : Nat → Prop} {rp rx : Nat} {d : ClassId} {n nx : Nat} {P0 X : Nat → Int32}
set_option maxHeartbeats 4000000 in
set_option maxRecDepth 100000 in
theorem iw_qi_tail (hC : CallFix p m c cX2_quickSortIndirect 14 s args lw_all RX2) (hRf : 3 ≤ R.frames) (hRl : 66 ≤ R.locals) (hK : va_K D cl [(d, .int)] s) {lo hi pm len : Nat} {vv : Int32} (hin : hi ≤ n) (hn : n ≤ 1000) (h128 : hi - lo ≤ 128) (hlen : hi - lo ≤ len) (hv0 : (∀ q, lo ≤ q → q < hi → vp_in (P0 q) nx)) (hpm : lo ≤ pm ∧ pm < hi) (hpv : is_K X (P0 pm) = vv.toInt) {rm2 : Room} (hrm : rm2.cells = 0 ∧ rm2.slots = 0 ∧ rm2.frames + 1 ≤ R.frames ∧ 33 + rm2.locals ≤ R.locals) (hrec : 0 < len → iw_QI rm2 (len - 1))
    (kexit : ∀ (P : Nat → Int32) (H : Heap) (locs : List Loc) (ls : Array Slot), iw_2 D cl A s rp rx d n nx P X H locs → is_R lo hi P0 P → is_S (is_K X) P lo hi → W p l e R s m args below meth c H locs 0 0 Q (F0 m 366 ls []))
    {a b ec dd : Nat} {f : Nat → Int32} {H : Heap} {locs : List Loc} {ls : Array Slot} (hbc : b = ec) (hp : is_P (is_K X) vv.toInt P0 f lo hi a b ec dd) (hw : iw_2 D cl A s rp rx d n nx f X H locs) (hl : lv_has ls 14 [(0, .ref rp), (1, .ref rx), (2, .int (iz_ ((lo : Nat) : Int))), (3, .int (iz_ ((hi : Nat) : Int))), (8, .int vv), (9, .int (iz_ ((a : Nat) : Int))), (10, .int (iz_ ((b : Nat) : Int))), (11, .int (iz_ (((ec : Nat) : Int) - 1))), (12, .int (iz_ (((dd : Nat) : Int) - 1)))]) : W p l e R s m args below meth c H locs 0 0 Q (F0 m 268 ls []) := by
  have hx := hC.1
  have hb := hC.2.1
  have hRf1 : 1 ≤ R.frames := by omega
  have hRl1 : 23 ≤ R.locals := by omega
  have ho := hp.2.1
  have hlt := is_less hp hbc hpm.1 hpm.2 hpv
  obtain ⟨hP, hD, hS⟩ := hw
  refine lv_iload hx hb dX2_quickSortIndirect_268 (lv_at hl 5 rfl) ?_
  refine lv_iload_n hx hb dX2_quickSortIndirect_270 rfl (lv_at hl 2 rfl) ?_
  refine lz_isub (z := (((a : Nat) : Int) - ((lo : Nat) : Int))) hx hb dX2_quickSortIndirect_271 (by omega) ?_
  refine lv_iload hx hb dX2_quickSortIndirect_272 (lv_at hl 6 rfl) ?_
  refine lv_iload hx hb dX2_quickSortIndirect_274 (lv_at hl 5 rfl) ?_
  refine lz_isub (z := (((b : Nat) : Int) - ((a : Nat) : Int))) hx hb dX2_quickSortIndirect_276 (by omega) ?_
  refine iw_min hC hl.1 hRf1 hRl1 ⟨Nat.zero_le _, Nat.zero_le _⟩ (by omega) (by omega) dX2_quickSortIndirect_277 (fun s1 hs1 => ?_)
  refine lv_istore (lv' := [(13, .int (iz_ ((s1 : Nat) : Int))), (0, .ref rp), (1, .ref rx), (2, .int (iz_ ((lo : Nat) : Int))), (3, .int (iz_ ((hi : Nat) : Int))), (8, .int vv), (9, .int (iz_ ((a : Nat) : Int))), (10, .int (iz_ ((b : Nat) : Int))), (11, .int (iz_ (((ec : Nat) : Int) - 1))), (12, .int (iz_ (((dd : Nat) : Int) - 1)))]) hx hb dX2_quickSortIndirect_280 hl (by decide) rfl (fun ls hl => ?_)
  refine lv_aload_n hx hb dX2_quickSortIndirect_282 rfl (lv_at hl 1 rfl) ?_
  refine lv_iload_n hx hb dX2_quickSortIndirect_283 rfl (lv_at hl 3 rfl) ?_
  refine lv_iload hx hb dX2_quickSortIndirect_284 (lv_at hl 7 rfl) ?_
  refine lv_iload hx hb dX2_quickSortIndirect_286 (lv_at hl 0 rfl) ?_
  refine lz_isub (z := ((b - s1 : Nat) : Int)) hx hb dX2_quickSortIndirect_288 (by omega) ?_
  refine lv_iload hx hb dX2_quickSortIndirect_289 (lv_at hl 0 rfl) ?_
  refine iw_swap2 hC hl.1 hRf hRl hK hP hD hS 0 rfl (a := lo) (b := b - s1) (k := s1) (by omega) (by omega) (by omega) (by omega) (by omega) hn dX2_quickSortIndirect_291 (fun H locs hP hD hS => ?_)
  have hP : va_P D cl [(rp, .inl (d, n, .inl (is_B f (lo) (b - s1) (s1)))), (rx, .inl (d, nx, .inl X))] H := hP
  have hD : va_D A [(rp, .inl (d, n, .inl (is_B f (lo) (b - s1) (s1)))), (rx, .inl (d, nx, .inl X))] := hD
  refine lv_iload hx hb dX2_quickSortIndirect_294 (lv_at hl 9 rfl) ?_
  refine lv_iload hx hb dX2_quickSortIndirect_296 (lv_at hl 8 rfl) ?_
  refine lz_isub (z := (((dd : Nat) : Int) - ((ec : Nat) : Int))) hx hb dX2_quickSortIndirect_298 (by omega) ?_
  refine lv_iload_n hx hb dX2_quickSortIndirect_299 rfl (lv_at hl 4 rfl) ?_
  refine lv_iload hx hb dX2_quickSortIndirect_300 (lv_at hl 9 rfl) ?_
  refine lz_isub (z := (((hi : Nat) : Int) - ((dd : Nat) : Int) + 1)) hx hb dX2_quickSortIndirect_302 (by omega) ?_
  refine lz_iconst hx hb dX2_quickSortIndirect_303 ?_
  refine lz_isub (z := (((hi : Nat) : Int) - ((dd : Nat) : Int))) hx hb dX2_quickSortIndirect_304 (by omega) ?_
  refine iw_min hC hl.1 hRf1 hRl1 ⟨Nat.zero_le _, Nat.zero_le _⟩ (by omega) (by omega) dX2_quickSortIndirect_305 (fun s2 hs2 => ?_)
  refine lv_istore (lv' := [(13, .int (iz_ ((s2 : Nat) : Int))), (0, .ref rp), (1, .ref rx), (2, .int (iz_ ((lo : Nat) : Int))), (3, .int (iz_ ((hi : Nat) : Int))), (8, .int vv), (9, .int (iz_ ((a : Nat) : Int))), (10, .int (iz_ ((b : Nat) : Int))), (11, .int (iz_ (((ec : Nat) : Int) - 1))), (12, .int (iz_ (((dd : Nat) : Int) - 1)))]) hx hb dX2_quickSortIndirect_308 hl (by decide) rfl (fun ls hl => ?_)
  refine lv_aload_n hx hb dX2_quickSortIndirect_310 rfl (lv_at hl 1 rfl) ?_
  refine lv_iload hx hb dX2_quickSortIndirect_311 (lv_at hl 7 rfl) ?_
  refine lv_iload_n hx hb dX2_quickSortIndirect_313 rfl (lv_at hl 4 rfl) ?_
  refine lv_iload hx hb dX2_quickSortIndirect_314 (lv_at hl 0 rfl) ?_
  refine lz_isub (z := ((hi - s2 : Nat) : Int)) hx hb dX2_quickSortIndirect_316 (by omega) ?_
  refine lv_iload hx hb dX2_quickSortIndirect_317 (lv_at hl 0 rfl) ?_
  refine iw_swap2 hC hl.1 hRf hRl hK hP hD hS 0 rfl (a := b) (b := hi - s2) (k := s2) (by omega) (by omega) (by omega) (by omega) (by omega) hn dX2_quickSortIndirect_319 (fun H locs hP hD hS => ?_)
  have hP : va_P D cl [(rp, .inl (d, n, .inl (is_B (is_B f (lo) (b - s1) (s1)) (b) (hi - s2) (s2)))), (rx, .inl (d, nx, .inl X))] H := hP
  have hD : va_D A [(rp, .inl (d, n, .inl (is_B (is_B f (lo) (b - s1) (s1)) (b) (hi - s2) (s2)))), (rx, .inl (d, nx, .inl X))] := hD
  obtain ⟨g0, g1, g2, g3⟩ := is_fin hp hbc (s1 := s1) (s2 := s2) (by omega) (by omega) (by omega) (by omega) (by omega) (by omega)
  generalize hge : is_B (is_B f lo (b - s1) s1) b (hi - s2) s2 = g at hP hD g0 g1 g2 g3
  have hv := is_R_all g0 (p := fun z => vp_in z nx) hv0
  have k344 : ∀ (h : Nat → Int32) (H : Heap) (locs : List Loc) (ls : Array Slot), iw_2 D cl A s rp rx d n nx h X H locs → is_R lo (lo + (b - a)) g h → is_S (is_K X) h lo (lo + (b - a)) → lv_has ls 14 [(0, .ref rp), (1, .ref rx), (2, .int (iz_ ((lo : Nat) : Int))), (3, .int (iz_ ((hi : Nat) : Int))), (9, .int (iz_ ((a : Nat) : Int))), (10, .int (iz_ ((b : Nat) : Int))), (11, .int (iz_ (((ec : Nat) : Int) - 1))), (12, .int (iz_ (((dd : Nat) : Int) - 1)))] → W p l e R s m args below meth c H locs 0 0 Q (F0 m 344 ls []) := by
    intro h H locs ls hw r1 s1 hl
    obtain ⟨hP, hD, hS⟩ := hw
    refine lv_iload hx hb dX2_quickSortIndirect_344 (lv_at hl 7 rfl) ?_
    refine lv_iload hx hb dX2_quickSortIndirect_346 (lv_at hl 6 rfl) ?_
    refine lz_isub (z := (((dd : Nat) : Int) - ((ec : Nat) : Int))) hx hb dX2_quickSortIndirect_348 (by omega) ?_
    refine lv_dup hx hb dX2_quickSortIndirect_349 rfl ?_
    refine lv_istore (lv' := [(13, .int (iz_ (((dd : Nat) : Int) - ((ec : Nat) : Int)))), (0, .ref rp), (1, .ref rx), (2, .int (iz_ ((lo : Nat) : Int))), (3, .int (iz_ ((hi : Nat) : Int))), (9, .int (iz_ ((a : Nat) : Int))), (10, .int (iz_ ((b : Nat) : Int))), (11, .int (iz_ (((ec : Nat) : Int) - 1))), (12, .int (iz_ (((dd : Nat) : Int) - 1)))]) hx hb dX2_quickSortIndirect_350 hl (by decide) rfl (fun ls hl => ?_)
    refine lz_iconst hx hb dX2_quickSortIndirect_352 ?_
    refine lz_icmp_le (tgt := 366) hx hb dX2_quickSortIndirect_353 (by decide) (iz_t (by omega)) (iz_t (by omega)) (fun c1 => ?_) (fun c2 => ?_)
    · exact kexit h H locs ls ⟨hP, hD, hS⟩ (is_R_tr g0 (is_R_mo r1 (Nat.le_refl _) (by omega))) (is_cat (x := b - a) (y := dd - ec) (by omega) (by omega) g1 g2 g3 r1 s1 is_R_rf (is_S_1 (by omega)))
    · refine lv_aload_n hx hb dX2_quickSortIndirect_356 rfl (lv_at hl 1 rfl) ?_
      refine lv_aload_n hx hb dX2_quickSortIndirect_357 rfl (lv_at hl 2 rfl) ?_
      refine lv_iload_n hx hb dX2_quickSortIndirect_358 rfl (lv_at hl 4 rfl) ?_
      refine lv_iload hx hb dX2_quickSortIndirect_359 (lv_at hl 0 rfl) ?_
      refine lz_isub (z := ((hi - (dd - ec) : Nat) : Int)) hx hb dX2_quickSortIndirect_361 (by omega) ?_
      refine lv_iload_n hx hb dX2_quickSortIndirect_362 rfl (lv_at hl 4 rfl) ?_
      refine iw_set2 (va_runS (As := [.ref rp, .ref rx, .int (iz_ ((hi - (dd - ec) : Nat) : Int)), .int (iz_ ((hi : Nat) : Int))]) (rest := []) hC (hrec (by omega) l D cl rp rx d n nx h X (hi - (dd - ec)) (hi) (by omega) (by omega) hn (by omega) (by omega) (fun q q1 q2 => is_R_all2 r1 (Nat.le_refl _) (by omega) (p := fun z => vp_in z nx) hv q (by omega) q2)) (va_cwS 4 hC.2.2.2.2 (lw_S q69 q70 q7 q71) rfl hrm.1 hrm.2.1 (by decide +kernel) ⟨hrm.2.2.1, Nat.le_trans (Nat.add_le_add_right (Nat.le_of_ble_eq_true rfl) _) hrm.2.2.2⟩) ⟨iw_blind, fun U hU hW => iw_pre2 hK hP hD (q0 := 0) (q1 := 1) rfl rfl (by decide) hU hW⟩ rfl rfl hl.1 rfl (lv_room (Nat.le_of_ble_eq_true rfl)) dX2_quickSortIndirect_363 ⟨Nat.zero_le _, Nat.zero_le _⟩) hP hD hS 0 1 rfl rfl (fun hh H locs hg hP hD hS => ?_)
      have hP : va_P D cl [(rp, .inl (d, n, .inl hh)), (rx, .inl (d, nx, .inl X))] H := hP
      have hD : va_D A [(rp, .inl (d, n, .inl hh)), (rx, .inl (d, nx, .inl X))] := hD
      exact kexit hh H locs ls ⟨hP, hD, hS⟩ (is_R_tr g0 (is_R_tr (is_R_mo r1 (Nat.le_refl _) (by omega)) (is_R_mo hg.1 (by omega) (Nat.le_refl _)))) (is_cat (x := b - a) (y := dd - ec) (by omega) (by omega) g1 g2 g3 r1 s1 hg.1 hg.2)
  refine lv_iload hx hb dX2_quickSortIndirect_322 (lv_at hl 7 rfl) ?_
  refine lv_iload hx hb dX2_quickSortIndirect_324 (lv_at hl 6 rfl) ?_
  refine lz_isub (z := (((b : Nat) : Int) - ((a : Nat) : Int))) hx hb dX2_quickSortIndirect_326 (by omega) ?_
  refine lv_dup hx hb dX2_quickSortIndirect_327 rfl ?_
  refine lv_istore (lv' := [(13, .int (iz_ (((b : Nat) : Int) - ((a : Nat) : Int)))), (0, .ref rp), (1, .ref rx), (2, .int (iz_ ((lo : Nat) : Int))), (3, .int (iz_ ((hi : Nat) : Int))), (8, .int vv), (9, .int (iz_ ((a : Nat) : Int))), (10, .int (iz_ ((b : Nat) : Int))), (11, .int (iz_ (((ec : Nat) : Int) - 1))), (12, .int (iz_ (((dd : Nat) : Int) - 1)))]) hx hb dX2_quickSortIndirect_328 hl (by decide) rfl (fun ls hl => ?_)
  refine lz_iconst hx hb dX2_quickSortIndirect_330 ?_
  refine lz_icmp_le (tgt := 344) hx hb dX2_quickSortIndirect_331 (by decide) (iz_t (by omega)) (iz_t (by omega)) (fun c1 => ?_) (fun c2 => ?_)
  · exact k344 g H locs ls ⟨hP, hD, hS⟩ is_R_rf (is_S_1 (by omega)) (lv_sub hl [1, 2, 3, 4, 6, 7, 8, 9] rfl)
  · refine lv_aload_n hx hb dX2_quickSortIndirect_334 rfl (lv_at hl 1 rfl) ?_
    refine lv_aload_n hx hb dX2_quickSortIndirect_335 rfl (lv_at hl 2 rfl) ?_
    refine lv_iload_n hx hb dX2_quickSortIndirect_336 rfl (lv_at hl 3 rfl) ?_
    refine lv_iload_n hx hb dX2_quickSortIndirect_337 rfl (lv_at hl 3 rfl) ?_
    refine lv_iload hx hb dX2_quickSortIndirect_338 (lv_at hl 0 rfl) ?_
    refine lz_iadd (z := ((lo + (b - a) : Nat) : Int)) hx hb dX2_quickSortIndirect_340 (by omega) ?_
    refine iw_set2 (va_runS (As := [.ref rp, .ref rx, .int (iz_ ((lo : Nat) : Int)), .int (iz_ ((lo + (b - a) : Nat) : Int))]) (rest := []) hC (hrec (by omega) l D cl rp rx d n nx g X (lo) (lo + (b - a)) (by omega) (by omega) hn (by omega) (by omega) (fun q q1 q2 => hv q q1 (by omega))) (va_cwS 4 hC.2.2.2.2 (lw_S q69 q70 q7 q71) rfl hrm.1 hrm.2.1 (by decide +kernel) ⟨hrm.2.2.1, Nat.le_trans (Nat.add_le_add_right (Nat.le_of_ble_eq_true rfl) _) hrm.2.2.2⟩) ⟨iw_blind, fun U hU hW => iw_pre2 hK hP hD (q0 := 0) (q1 := 1) rfl rfl (by decide) hU hW⟩ rfl rfl hl.1 rfl (lv_room (Nat.le_of_ble_eq_true rfl)) dX2_quickSortIndirect_341 ⟨Nat.zero_le _, Nat.zero_le _⟩) hP hD hS 0 1 rfl rfl (fun hh H locs hg hP hD hS => ?_)
    have hP : va_P D cl [(rp, .inl (d, n, .inl hh)), (rx, .inl (d, nx, .inl X))] H := hP
    have hD : va_D A [(rp, .inl (d, n, .inl hh)), (rx, .inl (d, nx, .inl X))] := hD
    exact k344 hh H locs ls ⟨hP, hD, hS⟩ hg.1 hg.2 (lv_sub hl [1, 2, 3, 4, 6, 7, 8, 9] rfl)
end
set_option maxHeartbeats 4000000 in
set_option maxRecDepth 100000 in
theorem iw_qi_step {rf rl len : Nat} {rm2 : Room} (hrf : 3 ≤ rf) (hrl : 66 ≤ rl) (hrm : rm2.cells = 0 ∧ rm2.slots = 0 ∧ rm2.frames + 1 ≤ rf ∧ 33 + rm2.locals ≤ rl) (hrec : 0 < len → iw_QI rm2 (len - 1)) : iw_QI ({ frames := rf, cells := 0, slots := 0, locals := rl }) len := by
  intro l D cl rp rx d n nx P X lo hi hlh hin hn h128 hlen hv0
  refine Met.ofW (cc := cX2_quickSortIndirect) (maxL := 14) (ret := none) (by decide) rfl ?_
  intro p e s m args below meth c s₁ B hml hv
  obtain ⟨rfl, hP, hK, hD0⟩ := hv
  have hx := B.exec
  have hb := B.bytes
  have hr := B.returns
  have hlocks := B.notSynchronized
  have hts0 := atoms_spec B.pre
  have hts : ∀ w ∈ lw_all, w.before _ s = true := fun w h => hts0 w (List.mem_cons_of_mem _ h)
  have hown : s.vm.findClass RX2 = some m.cls := findClass_of_methodNamed B.named
  have hC : CallFix p m c cX2_quickSortIndirect 14 s _ lw_all RX2 := ⟨hx, hb, hml, hown, hts⟩
  have hD := iw_Dself hD0
  generalize hAe : iw_A [(rp, .inl (d, n, .inl P)), (rx, .inl (d, nx, .inl X))] = A at hD ⊢
  have hS : va_S A s.heap s.heap [] := va_S.rf
  have hl := lv_entry ([.ref rp, .ref rx, .int (iz_ ((lo : Nat) : Int)), .int (iz_ ((hi : Nat) : Int))]) (n := 14) (Nat.le_of_ble_eq_true rfl)
  rw [lg_entry_eq]
  generalize (lg_sl ([.ref rp, .ref rx, .int (iz_ ((lo : Nat) : Int)), .int (iz_ ((hi : Nat) : Int))]) ++ List.replicate (14 - (lg_sl ([.ref rp, .ref rx, .int (iz_ ((lo : Nat) : Int)), .int (iz_ ((hi : Nat) : Int))])).length) Slot.unset).toArray = ls at hl ⊢
  have hl : lv_has ls 14 [(0, .ref rp), (1, .ref rx), (2, .int (iz_ ((lo : Nat) : Int))), (3, .int (iz_ ((hi : Nat) : Int)))] := hl
  have hRf : 3 ≤ (headSpec (ws_ yX2_quickSortIndirect cX2_quickSortIndirect 14 none) ({ frames := rf, cells := 0, slots := 0, locals := rl })).room.frames := hrf
  have hRl : 66 ≤ (headSpec (ws_ yX2_quickSortIndirect cX2_quickSortIndirect 14 none) ({ frames := rf, cells := 0, slots := 0, locals := rl })).room.locals := hrl
  have hRm : rm2.cells = 0 ∧ rm2.slots = 0 ∧ rm2.frames + 1 ≤ (headSpec (ws_ yX2_quickSortIndirect cX2_quickSortIndirect 14 none) ({ frames := rf, cells := 0, slots := 0, locals := rl })).room.frames ∧ 33 + rm2.locals ≤ (headSpec (ws_ yX2_quickSortIndirect cX2_quickSortIndirect 14 none) ({ frames := rf, cells := 0, slots := 0, locals := rl })).room.locals := hrm
  refine lv_iload_n hx hb dX2_quickSortIndirect_0 rfl (lv_at hl 3 rfl) ?_
  refine lv_iload_n hx hb dX2_quickSortIndirect_1 rfl (lv_at hl 2 rfl) ?_
  refine lz_isub (z := (((hi : Nat) : Int) - ((lo : Nat) : Int))) hx hb dX2_quickSortIndirect_2 (by omega) ?_
  refine lv_istore (lv' := [(4, .int (iz_ (((hi : Nat) : Int) - ((lo : Nat) : Int)))), (0, .ref rp), (1, .ref rx), (2, .int (iz_ ((lo : Nat) : Int))), (3, .int (iz_ ((hi : Nat) : Int)))]) hx hb dX2_quickSortIndirect_3 hl (by decide) rfl (fun ls hl => ?_)
  refine lv_iload hx hb dX2_quickSortIndirect_5 (lv_at hl 0 rfl) ?_
  refine lv_bipush (v := iz_ ((16 : Int))) hx hb dX2_quickSortIndirect_7 (by decide +kernel) ?_
  refine lz_icmp_ge (tgt := 20) hx hb dX2_quickSortIndirect_9 (by decide) (iz_t (by omega)) (iz_t (by omega)) (fun c1 => ?_) (fun c2 => ?_)
  · refine lv_iload_n hx hb dX2_quickSortIndirect_20 rfl (lv_at hl 3 rfl) ?_
    refine lv_iload hx hb dX2_quickSortIndirect_21 (lv_at hl 0 rfl) ?_
    refine lz_iconst hx hb dX2_quickSortIndirect_23 ?_
    refine lz_half hx hb (by omega) dX2_quickSortIndirect_24 (fun hf hh => ?_)
    refine lz_iadd (z := (((hf : Nat) : Int) + ((lo : Nat) : Int))) hx hb dX2_quickSortIndirect_25 (by omega) ?_
    refine lv_istore (lv' := [(5, .int (iz_ (((hf : Nat) : Int) + ((lo : Nat) : Int)))), (4, .int (iz_ (((hi : Nat) : Int) - ((lo : Nat) : Int)))), (0, .ref rp), (1, .ref rx), (2, .int (iz_ ((lo : Nat) : Int))), (3, .int (iz_ ((hi : Nat) : Int)))]) hx hb dX2_quickSortIndirect_26 hl (by decide) rfl (fun ls hl => ?_)
    refine lv_iload_n hx hb dX2_quickSortIndirect_28 rfl (lv_at hl 4 rfl) ?_
    refine lv_istore (lv' := [(6, .int (iz_ ((lo : Nat) : Int))), (5, .int (iz_ (((hf : Nat) : Int) + ((lo : Nat) : Int)))), (4, .int (iz_ (((hi : Nat) : Int) - ((lo : Nat) : Int)))), (0, .ref rp), (1, .ref rx), (2, .int (iz_ ((lo : Nat) : Int))), (3, .int (iz_ ((hi : Nat) : Int)))]) hx hb dX2_quickSortIndirect_29 hl (by decide) rfl (fun ls hl => ?_)
    refine lv_iload_n hx hb dX2_quickSortIndirect_31 rfl (lv_at hl 6 rfl) ?_
    refine lz_iconst hx hb dX2_quickSortIndirect_32 ?_
    refine lz_isub (z := (((hi : Nat) : Int) - 1)) hx hb dX2_quickSortIndirect_33 (by omega) ?_
    refine lv_istore (lv' := [(7, .int (iz_ (((hi : Nat) : Int) - 1))), (6, .int (iz_ ((lo : Nat) : Int))), (5, .int (iz_ (((hf : Nat) : Int) + ((lo : Nat) : Int)))), (4, .int (iz_ (((hi : Nat) : Int) - ((lo : Nat) : Int)))), (0, .ref rp), (1, .ref rx), (2, .int (iz_ ((lo : Nat) : Int))), (3, .int (iz_ ((hi : Nat) : Int)))]) hx hb dX2_quickSortIndirect_34 hl (by decide) rfl (fun ls hl => ?_)
    refine lv_iload hx hb dX2_quickSortIndirect_36 (lv_at hl 3 rfl) ?_
    refine lv_sipush (v := iz_ ((128 : Int))) hx hb dX2_quickSortIndirect_38 (by decide +kernel) ?_
    refine lz_icmp_le (tgt := 112) hx hb dX2_quickSortIndirect_41 (by decide) (iz_t (by omega)) (iz_t (by omega)) (fun c3 => ?_) (fun c4 => ?_)
    · refine lv_aload_n hx hb dX2_quickSortIndirect_112 rfl (lv_at hl 4 rfl) ?_
      refine lv_aload_n hx hb dX2_quickSortIndirect_113 rfl (lv_at hl 5 rfl) ?_
      refine lv_iload hx hb dX2_quickSortIndirect_114 (lv_at hl 1 rfl) ?_
      refine lv_iload hx hb dX2_quickSortIndirect_116 (lv_at hl 2 rfl) ?_
      refine lv_iload hx hb dX2_quickSortIndirect_118 (lv_at hl 0 rfl) ?_
      refine iw_med3i hC hl.1 hRf hRl hK hP hD 0 1 rfl rfl (by decide) (a := lo) (b := lo + hf) (k := hi - 1) (by omega) (by omega) (by omega) (by omega) (by omega) (by omega) hn (hv0 lo (by omega) (by omega)) (hv0 (lo + hf) (by omega) (by omega)) (hv0 (hi - 1) (by omega) (by omega)) dX2_quickSortIndirect_120 (fun pm hpm => ?_)
      refine lv_istore (lv' := [(5, .int (iz_ ((pm : Nat) : Int))), (7, .int (iz_ (((hi : Nat) : Int) - 1))), (6, .int (iz_ ((lo : Nat) : Int))), (4, .int (iz_ (((hi : Nat) : Int) - ((lo : Nat) : Int)))), (0, .ref rp), (1, .ref rx), (2, .int (iz_ ((lo : Nat) : Int))), (3, .int (iz_ ((hi : Nat) : Int)))]) hx hb dX2_quickSortIndirect_123 hl (by decide) rfl (fun ls hl => ?_)
      refine lv_aload_n hx hb dX2_quickSortIndirect_125 rfl (lv_at hl 5 rfl) ?_
      refine lv_aload_n hx hb dX2_quickSortIndirect_126 rfl (lv_at hl 4 rfl) ?_
      refine lv_iload hx hb dX2_quickSortIndirect_127 (lv_at hl 0 rfl) ?_
      refine lz_iald (k := pm) hx hb hK hP 0 0 rfl rfl (by omega) (by omega) (by omega) dX2_quickSortIndirect_129 ?_
      refine va_iald hx hb hK hP 1 0 rfl rfl (hv0 (pm) (by omega) (by omega)) dX2_quickSortIndirect_130 ?_
      refine lv_topi (fun vv hvv => ?_)
      refine lv_istore (lv' := [(8, .int vv), (5, .int (iz_ ((pm : Nat) : Int))), (7, .int (iz_ (((hi : Nat) : Int) - 1))), (6, .int (iz_ ((lo : Nat) : Int))), (4, .int (iz_ (((hi : Nat) : Int) - ((lo : Nat) : Int)))), (0, .ref rp), (1, .ref rx), (2, .int (iz_ ((lo : Nat) : Int))), (3, .int (iz_ ((hi : Nat) : Int)))]) hx hb dX2_quickSortIndirect_131 hl (by decide) rfl (fun ls hl => ?_)
      refine lv_iload_n hx hb dX2_quickSortIndirect_133 rfl (lv_at hl 7 rfl) ?_
      refine lv_istore (lv' := [(9, .int (iz_ ((lo : Nat) : Int))), (8, .int vv), (5, .int (iz_ ((pm : Nat) : Int))), (7, .int (iz_ (((hi : Nat) : Int) - 1))), (6, .int (iz_ ((lo : Nat) : Int))), (4, .int (iz_ (((hi : Nat) : Int) - ((lo : Nat) : Int)))), (0, .ref rp), (1, .ref rx), (2, .int (iz_ ((lo : Nat) : Int))), (3, .int (iz_ ((hi : Nat) : Int)))]) hx hb dX2_quickSortIndirect_134 hl (by decide) rfl (fun ls hl => ?_)
      refine lv_iload hx hb dX2_quickSortIndirect_136 (lv_at hl 0 rfl) ?_
      refine lv_istore (lv' := [(10, .int (iz_ ((lo : Nat) : Int))), (9, .int (iz_ ((lo : Nat) : Int))), (8, .int vv), (5, .int (iz_ ((pm : Nat) : Int))), (7, .int (iz_ (((hi : Nat) : Int) - 1))), (6, .int (iz_ ((lo : Nat) : Int))), (4, .int (iz_ (((hi : Nat) : Int) - ((lo : Nat) : Int)))), (0, .ref rp), (1, .ref rx), (2, .int (iz_ ((lo : Nat) : Int))), (3, .int (iz_ ((hi : Nat) : Int)))]) hx hb dX2_quickSortIndirect_138 hl (by decide) rfl (fun ls hl => ?_)
      refine lv_iload_n hx hb dX2_quickSortIndirect_140 rfl (lv_at hl 10 rfl) ?_
      refine lz_iconst hx hb dX2_quickSortIndirect_141 ?_
      refine lz_isub (z := (((hi : Nat) : Int) - 1)) hx hb dX2_quickSortIndirect_142 (by omega) ?_
      refine lv_istore (lv' := [(11, .int (iz_ (((hi : Nat) : Int) - 1))), (10, .int (iz_ ((lo : Nat) : Int))), (9, .int (iz_ ((lo : Nat) : Int))), (8, .int vv), (5, .int (iz_ ((pm : Nat) : Int))), (7, .int (iz_ (((hi : Nat) : Int) - 1))), (6, .int (iz_ ((lo : Nat) : Int))), (4, .int (iz_ (((hi : Nat) : Int) - ((lo : Nat) : Int)))), (0, .ref rp), (1, .ref rx), (2, .int (iz_ ((lo : Nat) : Int))), (3, .int (iz_ ((hi : Nat) : Int)))]) hx hb dX2_quickSortIndirect_143 hl (by decide) rfl (fun ls hl => ?_)
      refine lv_iload hx hb dX2_quickSortIndirect_145 (lv_at hl 0 rfl) ?_
      refine lv_istore (lv' := [(12, .int (iz_ (((hi : Nat) : Int) - 1))), (11, .int (iz_ (((hi : Nat) : Int) - 1))), (10, .int (iz_ ((lo : Nat) : Int))), (9, .int (iz_ ((lo : Nat) : Int))), (8, .int vv), (5, .int (iz_ ((pm : Nat) : Int))), (7, .int (iz_ (((hi : Nat) : Int) - 1))), (6, .int (iz_ ((lo : Nat) : Int))), (4, .int (iz_ (((hi : Nat) : Int) - ((lo : Nat) : Int)))), (0, .ref rp), (1, .ref rx), (2, .int (iz_ ((lo : Nat) : Int))), (3, .int (iz_ ((hi : Nat) : Int)))]) hx hb dX2_quickSortIndirect_147 hl (by decide) rfl (fun ls hl => ?_)
      have hp0 : is_P (is_K X) vv.toInt P P lo hi lo lo hi hi := is_P_0 hlh
      refine iw_qi_part (P0 := P) (X := X) (nx := nx) (t := hi + 1) (lo := lo) (hi := hi) (vv := vv) (a := lo) (b := lo) (ec := hi) (dd := hi) hC (Nat.le_trans (Nat.le_of_ble_eq_true rfl) hRf) (Nat.le_trans (Nat.le_of_ble_eq_true rfl) hRl) hK hin hn hv0 (fun a b ec dd f H locs ls hbc hp hw hl => ?_) (by omega) P s.heap [] ls hp0 ⟨hP, hD, hS⟩ (lv_sub hl [9, 10, 11, 12, 4, 3, 2, 1, 0] rfl)
      refine iw_qi_tail (P0 := P) (X := X) (nx := nx) (pm := pm) (len := len) hC hRf hRl hK hin hn h128 hlen hv0 (by omega) (by rw [hvv]; rfl) hRm hrec (fun Pn H locs ls hw hR hT => ?_) hbc hp hw hl
      obtain ⟨hP, hD, hS⟩ := hw
      exact W.vret hx hb hr (fun t ht hW => ⟨⟨_, rfl, ⟨hR, hT⟩, by show va_P D cl _ t.heap; rw [ht]; exact hP⟩, hS.F ht⟩) hS.2.2 dX2_quickSortIndirect_366
    · omega
  · refine lv_aload_n hx hb dX2_quickSortIndirect_12 rfl (lv_at hl 1 rfl) ?_
    refine lv_aload_n hx hb dX2_quickSortIndirect_13 rfl (lv_at hl 2 rfl) ?_
    refine lv_iload_n hx hb dX2_quickSortIndirect_14 rfl (lv_at hl 3 rfl) ?_
    refine lv_iload_n hx hb dX2_quickSortIndirect_15 rfl (lv_at hl 4 rfl) ?_
    refine iw_ins hC hl.1 hRf hRl hK hP hD hS 0 1 rfl rfl (by decide) hlh hin hn hv0 dX2_quickSortIndirect_16 (fun Pn H locs hg hP hD hS => ?_)
    have hP : va_P D cl [(rp, .inl (d, n, .inl Pn)), (rx, .inl (d, nx, .inl X))] H := hP
    have hD : va_D A [(rp, .inl (d, n, .inl Pn)), (rx, .inl (d, nx, .inl X))] := hD
    exact W.vret hx hb hr (fun t ht hW => ⟨⟨_, rfl, hg, by show va_P D cl _ t.heap; rw [ht]; exact hP⟩, hS.F ht⟩) hS.2.2 dX2_quickSortIndirect_19
/-- quickSortIndirect at every depth -/
theorem met_qi : ∀ k : Nat, iw_QI ({ frames := k + 3, cells := 0, slots := 0, locals := 33 * (k + 2) }) k := by
  intro k
  induction k with
  | zero => exact iw_qi_step (rm2 := { frames := 0, cells := 0, slots := 0, locals := 0 }) (by omega) (by omega) ⟨rfl, rfl, Nat.le_of_ble_eq_true rfl, Nat.le_of_ble_eq_true rfl⟩ (fun h => absurd h (by omega))
  | succ k ih => exact iw_qi_step (rm2 := { frames := k + 3, cells := 0, slots := 0, locals := 33 * (k + 2) }) (by omega) (by omega) ⟨rfl, rfl, by show k + 3 + 1 ≤ k + 1 + 3; omega, by show 33 + 33 * (k + 2) ≤ 33 * (k + 1 + 2); omega⟩ (fun _ => ih)
end
section
/-! STABLE: parallelQuickSort, stabilize, radixSortIndirect for short ranges -/
theorem is_Z_end {K : Int32 → Int} {f0 f g : Nat → Int32} {lo hi cu i : Nat} (h : is_Z K f0 f lo hi cu i) (hi1 : hi ≤ i) (hr : is_R cu hi f g) (hg : is_S (fun z => z.toInt) g cu hi) : is_R lo hi f0 g ∧ is_L K g lo hi := by
  have ho := h.2.1
  by_cases e1 : i = hi
  · subst e1
    obtain ⟨r1, r2, r3⟩ := is_Z_run h (Nat.le_refl _) hr hg
    exact ⟨r1, r3⟩
  · exact ⟨is_R_tr h.1 (is_R_mo hr ho.1 (Nat.le_refl _)), fun q r q1 q2 q3 => by omega⟩
set_option maxHeartbeats 4000000 in
set_option maxRecDepth 100000 in
/-- parallelQuickSort: the values of [lo, hi) in order -/
theorem met_pq (l : Launch) (D : va_G) (cl : List vw_C) (rp : Nat) (d : ClassId) (n : Nat) (P : Nat → Int32) (lo hi : Nat) (hlh : lo ≤ hi) (hhn : hi ≤ n) (hn : n ≤ 1000) (h48 : hi - lo ≤ 48) : Met l yX2_parallelQuickSort (ws_ yX2_parallelQuickSort cX2_parallelQuickSort 3 none) ({ frames := 52, cells := 0, slots := 0, locals := 1682 }) (va_Pc [.ref rp, .int (iz_ ((lo : Nat) : Int)), .int (iz_ ((hi : Nat) : Int))] (iw_B D cl [(rp, .inl (d, n, .inl P))] [(d, .int)])) (va_Qv (fun P' : Nat → Int32 => is_R lo hi P P' ∧ is_S (fun z => z.toInt) P' lo hi) (fun P' t => va_P D cl [(rp, .inl (d, n, .inl P'))] t.heap) (iw_A [(rp, .inl (d, n, .inl P))])) 0 0 (iw_A [(rp, .inl (d, n, .inl P))]) := by
  refine Met.ofW (cc := cX2_parallelQuickSort) (maxL := 3) (ret := none) (by decide) rfl ?_
  intro p e s m args below meth c s₁ B hml hv
  obtain ⟨rfl, hP, hK, hD0⟩ := hv
  have hx := B.exec
  have hb := B.bytes
  have hr := B.returns
  have hlocks := B.notSynchronized
  have hts0 := atoms_spec B.pre
  have hts : ∀ w ∈ lw_all, w.before _ s = true := fun w h => hts0 w (List.mem_cons_of_mem _ h)
  have hown : s.vm.findClass RX2 = some m.cls := findClass_of_methodNamed B.named
  have hC : CallFix p m c cX2_parallelQuickSort 3 s _ lw_all RX2 := ⟨hx, hb, hml, hown, hts⟩
  have hD := iw_Dself hD0
  generalize hAe : iw_A [(rp, .inl (d, n, .inl P))] = A at hD ⊢
  have hS : va_S A s.heap s.heap [] := va_S.rf
  have hl := lv_entry ([.ref rp, .int (iz_ ((lo : Nat) : Int)), .int (iz_ ((hi : Nat) : Int))]) (n := 3) (Nat.le_of_ble_eq_true rfl)
  rw [lg_entry_eq]
  generalize (lg_sl ([.ref rp, .int (iz_ ((lo : Nat) : Int)), .int (iz_ ((hi : Nat) : Int))]) ++ List.replicate (3 - (lg_sl ([.ref rp, .int (iz_ ((lo : Nat) : Int)), .int (iz_ ((hi : Nat) : Int))])).length) Slot.unset).toArray = ls at hl ⊢
  have hl : lv_has ls 3 [(0, .ref rp), (1, .int (iz_ ((lo : Nat) : Int))), (2, .int (iz_ ((hi : Nat) : Int)))] := hl
  refine lv_aload_n hx hb dX2_parallelQuickSort_0 rfl (lv_at hl 0 rfl) ?_
  refine lv_iload_n hx hb dX2_parallelQuickSort_1 rfl (lv_at hl 1 rfl) ?_
  refine lv_iload_n hx hb dX2_parallelQuickSort_2 rfl (lv_at hl 2 rfl) ?_
  refine iw_set1 (va_runS (As := [.ref rp, .int (iz_ (lo : Int)), .int (iz_ (hi : Int))]) (rest := []) hC (met_qs 48 l D cl rp d n P lo hi hlh hhn hn (by omega) (by omega)) (va_cwS 3 hC.2.2.2.2 (lw_S q96 q97 q7 q98) rfl rfl rfl (by decide +kernel) ⟨Nat.le_of_ble_eq_true rfl, Nat.le_of_ble_eq_true rfl⟩) ⟨iw_blind, fun U hU hW => iw_pre1 hK hP (q0 := 0) rfl hU hW⟩ rfl rfl hl.1 rfl (lv_room (Nat.le_of_ble_eq_true rfl)) dX2_parallelQuickSort_3 ⟨Nat.zero_le _, Nat.zero_le _⟩) hP hD hS 0 rfl (fun Pn H locs hg hP hD hS => ?_)
  have hP : va_P D cl [(rp, .inl (d, n, .inl Pn))] H := hP
  have hD : va_D A [(rp, .inl (d, n, .inl Pn))] := hD
  exact W.vret hx hb hr (fun t ht hW => ⟨⟨_, rfl, hg, by show va_P D cl _ t.heap; rw [ht]; exact hP⟩, hS.F ht⟩) hS.2.2 dX2_parallelQuickSort_6
section
variable {p : Program} {l : Launch} {e : Env} {R : Room} {s : State} {m : MethodId} {args : Array Value} {below : List Frame} {meth : Method} {c : Code} {H : Heap} {locs : List Loc} {Q : State → Prop}
variable {cc : ByteArray} {nL pc : Nat} {ls : Array Slot} {A : Nat → Prop} {H0 : Heap} {D : va_G} {cl : List vw_C} {ws : va_W} {rp rx n nx : Nat} {d : ClassId} {P X : Nat → Int32}
theorem iw_pq (hC : CallFix p m c cc nL s args lw_all RX2) (hl : ls.size = nL) (hRf : 53 ≤ R.frames) (hRl : 1704 ≤ R.locals) (hK : va_K D cl [(d, .int)] s) (hP : va_P D cl ws H) (hD : va_D A ws) (hS : va_S A H0 H locs) (q0 : Nat) (h0 : ws[q0]? = some (rp, .inl (d, n, .inl P))) {lo hi : Nat} (hlh : lo ≤ hi) (hhn : hi ≤ n) (hn : n ≤ 1000) (h48 : hi - lo ≤ 48) (hdg : decode cc pc = .ok (.invokestatic 50, 3))
    (kk : ∀ (P' : Nat → Int32) (H1 : Heap) (locs1 : List Loc), (is_R lo hi P P' ∧ is_S (fun z => z.toInt) P' lo hi) → va_P D cl (ws.set q0 (rp, .inl (d, n, .inl P'))) H1 → va_D A (ws.set q0 (rp, .inl (d, n, .inl P'))) → va_S A H0 H1 locs1 → W p l e R s m args below meth c H1 locs1 0 0 Q (F0 m (pc + 3) ls [])) : W p l e R s m args below meth c H locs 0 0 Q (F0 m pc ls [.int (iz_ (hi : Int)), .int (iz_ (lo : Int)), .ref rp]) :=
  iw_set1 (va_runS (As := [.ref rp, .int (iz_ (lo : Int)), .int (iz_ (hi : Int))]) (rest := []) hC (met_pq l D cl rp d n P lo hi hlh hhn hn h48) (va_cwS 3 hC.2.2.2.2 (lw_S q93 q94 q7 q95) rfl rfl rfl (by decide +kernel) ⟨hRf, Nat.le_trans (Nat.le_of_ble_eq_true rfl) hRl⟩) ⟨iw_blind, fun U hU hW => iw_pre1 hK hP h0 hU hW⟩ rfl rfl hl rfl (lv_room (Nat.le_of_ble_eq_true rfl)) hdg ⟨Nat.zero_le _, Nat.zero_le _⟩) hP hD hS q0 h0 kk
end
section
variable {p : Program} {l : Launch} {e : Env} {R : Room} {s : State} {m : MethodId} {args : Array Value} {below : List Frame} {meth : Method} {c : Code} {Q : State → Prop} {D : va_G} {cl : List vw_C} {A : Nat → Prop} {rp rx : Nat} {d : ClassId} {n nx : Nat} {P0 X : Nat → Int32}
set_option maxHeartbeats 4000000 in
set_option maxRecDepth 100000 in
theorem iw_stab_loop (hC : CallFix p m c cX2_stabilize 6 s args lw_all RX2) (hRf : 53 ≤ R.frames) (hRl : 1704 ≤ R.locals) (hK : va_K D cl [(d, .int)] s) {lo hi : Nat} (hlh : lo ≤ hi) (hin : hi ≤ n) (hn : n ≤ 1000) (h48 : hi - lo ≤ 48) (hv0 : ∀ q, lo ≤ q → q < hi → vp_in (P0 q) nx)
    (kexit : ∀ (cu i : Nat) (f : Nat → Int32) (H : Heap) (locs : List Loc) (ls : Array Slot), hi ≤ i → is_Z (is_K X) P0 f lo hi cu i → iw_2 D cl A s rp rx d n nx f X H locs → lv_has ls 6 [(0, .ref rp), (1, .ref rx), (2, .int (iz_ ((lo : Nat) : Int))), (3, .int (iz_ ((hi : Nat) : Int))), (4, .int (iz_ ((cu : Nat) : Int))), (5, .int (iz_ ((i : Nat) : Int)))] → W p l e R s m args below meth c H locs 0 0 Q (F0 m 56 ls [])) :
    ∀ (t cu i : Nat), hi + 2 ≤ i + t → ∀ (f : Nat → Int32) (H : Heap) (locs : List Loc) (ls : Array Slot), is_Z (is_K X) P0 f lo hi cu i → iw_2 D cl A s rp rx d n nx f X H locs → lv_has ls 6 [(0, .ref rp), (1, .ref rx), (2, .int (iz_ ((lo : Nat) : Int))), (3, .int (iz_ ((hi : Nat) : Int))), (4, .int (iz_ ((cu : Nat) : Int))), (5, .int (iz_ ((i : Nat) : Int)))] → W p l e R s m args below meth c H locs 0 0 Q (F0 m 8 ls []) := by
  have hx := hC.1
  have hb := hC.2.1
  intro t
  induction t with
  | zero =>
    intro cu i h1 f H locs ls hz hw hl
    exact absurd hl (fun _ => by
      have := hz.2.1
      omega)
  | succ t ih =>
    intro cu i h1 f H locs ls hz hw hl
    have ho := hz.2.1
    have hv := is_R_all hz.1 (p := fun z => vp_in z nx) hv0
    obtain ⟨hP, hD, hS⟩ := hw
    refine lv_iload hx hb dX2_stabilize_8 (lv_at hl 5 rfl) ?_
    refine lv_iload_n hx hb dX2_stabilize_10 rfl (lv_at hl 3 rfl) ?_
    refine lz_icmp_ge (tgt := 56) hx hb dX2_stabilize_11 (by decide) (iz_t (by omega)) (iz_t (by omega)) (fun c1 => ?_) (fun c2 => ?_)
    · exact kexit cu i f H locs ls (by omega) hz ⟨hP, hD, hS⟩ (lv_sub hl [0, 1, 2, 3, 4, 5] rfl)
    · have k46 : ∀ (g : Nat → Int32) (H : Heap) (locs : List Loc) (ls : Array Slot), ¬ is_K X (f i) = is_K X (f cu) → is_R cu i f g → is_S (fun z => z.toInt) g cu i → iw_2 D cl A s rp rx d n nx g X H locs → lv_has ls 6 [(0, .ref rp), (1, .ref rx), (2, .int (iz_ ((lo : Nat) : Int))), (3, .int (iz_ ((hi : Nat) : Int))), (4, .int (iz_ ((cu : Nat) : Int))), (5, .int (iz_ ((i : Nat) : Int)))] → W p l e R s m args below meth c H locs 0 0 Q (F0 m 46 ls []) := by
        intro g H locs ls hne hr hs hw hl
        refine lv_iload hx hb dX2_stabilize_46 (lv_at hl 5 rfl) ?_
        refine lv_istore (lv' := [(4, .int (iz_ ((i : Nat) : Int))), (0, .ref rp), (1, .ref rx), (2, .int (iz_ ((lo : Nat) : Int))), (3, .int (iz_ ((hi : Nat) : Int))), (5, .int (iz_ ((i : Nat) : Int)))]) hx hb dX2_stabilize_48 hl (by decide) rfl (fun ls hl => ?_)
        refine lz_iinc (lv' := [(5, .int (iz_ ((i + 1 : Nat) : Int))), (4, .int (iz_ ((i : Nat) : Int))), (0, .ref rp), (1, .ref rx), (2, .int (iz_ ((lo : Nat) : Int))), (3, .int (iz_ ((hi : Nat) : Int)))]) (k := 5) (z := ((i + 1 : Nat) : Int)) hx hb dX2_stabilize_50 hl rfl (by omega) (by decide) rfl (fun ls hl => ?_)
        refine lv_goto (tgt := 8) hx hb dX2_stabilize_53 (by decide) ?_
        exact ih i (i + 1) (by omega) g H locs ls (is_Z_ne hz (by omega) hne hr hs) hw (lv_sub hl [2, 3, 4, 5, 1, 0] rfl)
      refine lv_aload_n hx hb dX2_stabilize_14 rfl (lv_at hl 1 rfl) ?_
      refine lv_aload_n hx hb dX2_stabilize_15 rfl (lv_at hl 0 rfl) ?_
      refine lv_iload hx hb dX2_stabilize_16 (lv_at hl 5 rfl) ?_
      refine lz_iald (k := i) hx hb hK hP 0 0 rfl rfl (by omega) (by omega) (by omega) dX2_stabilize_18 ?_
      refine va_iald hx hb hK hP 1 0 rfl rfl (hv (i) (by omega) (by omega)) dX2_stabilize_19 ?_
      refine lv_aload_n hx hb dX2_stabilize_20 rfl (lv_at hl 1 rfl) ?_
      refine lv_aload_n hx hb dX2_stabilize_21 rfl (lv_at hl 0 rfl) ?_
      refine lv_iload hx hb dX2_stabilize_22 (lv_at hl 4 rfl) ?_
      refine lz_iald (k := cu) hx hb hK hP 0 0 rfl rfl (by omega) (by omega) (by omega) dX2_stabilize_24 ?_
      refine va_iald hx hb hK hP 1 0 rfl rfl (hv (cu) (by omega) (by omega)) dX2_stabilize_25 ?_
      refine lz_icmp_eq (tgt := 50) hx hb dX2_stabilize_26 (by decide) rfl rfl (fun c3 => ?_) (fun c4 => ?_)
      · refine lz_iinc (lv' := [(5, .int (iz_ ((i + 1 : Nat) : Int))), (0, .ref rp), (1, .ref rx), (2, .int (iz_ ((lo : Nat) : Int))), (3, .int (iz_ ((hi : Nat) : Int))), (4, .int (iz_ ((cu : Nat) : Int)))]) (k := 5) (z := ((i + 1 : Nat) : Int)) hx hb dX2_stabilize_50 hl rfl (by omega) (by decide) rfl (fun ls hl => ?_)
        refine lv_goto (tgt := 8) hx hb dX2_stabilize_53 (by decide) ?_
        exact ih cu (i + 1) (by omega) f H locs ls (is_Z_eq hz (by omega) c3) ⟨hP, hD, hS⟩ (lv_sub hl [1, 2, 3, 4, 5, 0] rfl)
      · refine lv_iload hx hb dX2_stabilize_29 (lv_at hl 5 rfl) ?_
        refine lv_iload hx hb dX2_stabilize_31 (lv_at hl 4 rfl) ?_
        refine lz_isub (z := (((i : Nat) : Int) - ((cu : Nat) : Int))) hx hb dX2_stabilize_33 (by omega) ?_
        refine lz_iconst hx hb dX2_stabilize_34 ?_
        refine lz_icmp_le (tgt := 46) hx hb dX2_stabilize_35 (by decide) (iz_t (by omega)) (iz_t (by omega)) (fun c5 => ?_) (fun c6 => ?_)
        · exact k46 f H locs ls c4 is_R_rf (is_S_1 (by omega)) ⟨hP, hD, hS⟩ (lv_sub hl [0, 1, 2, 3, 4, 5] rfl)
        · refine lv_aload_n hx hb dX2_stabilize_38 rfl (lv_at hl 0 rfl) ?_
          refine lv_iload hx hb dX2_stabilize_39 (lv_at hl 4 rfl) ?_
          refine lv_iload hx hb dX2_stabilize_41 (lv_at hl 5 rfl) ?_
          refine iw_pq hC hl.1 hRf hRl hK hP hD hS 0 rfl (lo := cu) (hi := i) (by omega) (by omega) hn (by omega) dX2_stabilize_43 (fun g H locs hg hP hD hS => ?_)
          have hP : va_P D cl [(rp, .inl (d, n, .inl g)), (rx, .inl (d, nx, .inl X))] H := hP
          have hD : va_D A [(rp, .inl (d, n, .inl g)), (rx, .inl (d, nx, .inl X))] := hD
          exact k46 g H locs ls c4 hg.1 hg.2 ⟨hP, hD, hS⟩ (lv_sub hl [0, 1, 2, 3, 4, 5] rfl)
end
set_option maxHeartbeats 4000000 in
set_option maxRecDepth 100000 in
/-- stabilize: a range in the order of its keys comes to stand in the order of its keys, like ones by value -/
theorem met_stab (l : Launch) (D : va_G) (cl : List vw_C) (rp rx : Nat) (d : ClassId) (n nx : Nat) (P X : Nat → Int32) (lo hi : Nat) (hlh : lo ≤ hi) (hhn : hi ≤ n) (hn : n ≤ 1000) (h48 : hi - lo ≤ 48) (hv : ∀ q, lo ≤ q → q < hi → vp_in (P q) nx) (hs0 : is_S (is_K X) P lo hi) : Met l yX2_stabilize (ws_ yX2_stabilize cX2_stabilize 6 none) ({ frames := 53, cells := 0, slots := 0, locals := 1704 }) (va_Pc [.ref rp, .ref rx, .int (iz_ ((lo : Nat) : Int)), .int (iz_ ((hi : Nat) : Int))] (iw_B D cl [(rp, .inl (d, n, .inl P)), (rx, .inl (d, nx, .inl X))] [(d, .int)])) (va_Qv (fun P' : Nat → Int32 => is_R lo hi P P' ∧ is_L (is_K X) P' lo hi) (fun P' t => va_P D cl [(rp, .inl (d, n, .inl P')), (rx, .inl (d, nx, .inl X))] t.heap) (iw_A [(rp, .inl (d, n, .inl P)), (rx, .inl (d, nx, .inl X))])) 0 0 (iw_A [(rp, .inl (d, n, .inl P)), (rx, .inl (d, nx, .inl X))]) := by
  refine Met.ofW (cc := cX2_stabilize) (maxL := 6) (ret := none) (by decide) rfl ?_
  intro p e s m args below meth c s₁ B hml hv
  obtain ⟨rfl, hP, hK, hD0⟩ := hv
  have hx := B.exec
  have hb := B.bytes
  have hr := B.returns
  have hlocks := B.notSynchronized
  have hts0 := atoms_spec B.pre
  have hts : ∀ w ∈ lw_all, w.before _ s = true := fun w h => hts0 w (List.mem_cons_of_mem _ h)
  have hown : s.vm.findClass RX2 = some m.cls := findClass_of_methodNamed B.named
  have hC : CallFix p m c cX2_stabilize 6 s _ lw_all RX2 := ⟨hx, hb, hml, hown, hts⟩
  have hD := iw_Dself hD0
  generalize hAe : iw_A [(rp, .inl (d, n, .inl P)), (rx, .inl (d, nx, .inl X))] = A at hD ⊢
  have hS : va_S A s.heap s.heap [] := va_S.rf
  have hl := lv_entry ([.ref rp, .ref rx, .int (iz_ ((lo : Nat) : Int)), .int (iz_ ((hi : Nat) : Int))]) (n := 6) (Nat.le_of_ble_eq_true rfl)
  rw [lg_entry_eq]
  generalize (lg_sl ([.ref rp, .ref rx, .int (iz_ ((lo : Nat) : Int)), .int (iz_ ((hi : Nat) : Int))]) ++ List.replicate (6 - (lg_sl ([.ref rp, .ref rx, .int (iz_ ((lo : Nat) : Int)), .int (iz_ ((hi : Nat) : Int))])).length) Slot.unset).toArray = ls at hl ⊢
  have hl : lv_has ls 6 [(0, .ref rp), (1, .ref rx), (2, .int (iz_ ((lo : Nat) : Int))), (3, .int (iz_ ((hi : Nat) : Int)))] := hl
  have hRf : 53 ≤ (headSpec (ws_ yX2_stabilize cX2_stabilize 6 none) ({ frames := 53, cells := 0, slots := 0, locals := 1704 })).room.frames := Nat.le_of_ble_eq_true rfl
  have hRl : 1704 ≤ (headSpec (ws_ yX2_stabilize cX2_stabilize 6 none) ({ frames := 53, cells := 0, slots := 0, locals := 1704 })).room.locals := Nat.le_of_ble_eq_true rfl
  refine lv_iload_n hx hb dX2_stabilize_0 rfl (lv_at hl 2 rfl) ?_
  refine lv_istore (lv' := [(4, .int (iz_ ((lo : Nat) : Int))), (0, .ref rp), (1, .ref rx), (2, .int (iz_ ((lo : Nat) : Int))), (3, .int (iz_ ((hi : Nat) : Int)))]) hx hb dX2_stabilize_1 hl (by decide) rfl (fun ls hl => ?_)
  refine lv_iload_n hx hb dX2_stabilize_3 rfl (lv_at hl 3 rfl) ?_
  refine lz_iconst hx hb dX2_stabilize_4 ?_
  refine lz_iadd (z := (((lo : Nat) : Int) + 1)) hx hb dX2_stabilize_5 (by omega) ?_
  refine lv_istore (lv' := [(5, .int (iz_ (((lo : Nat) : Int) + 1))), (4, .int (iz_ ((lo : Nat) : Int))), (0, .ref rp), (1, .ref rx), (2, .int (iz_ ((lo : Nat) : Int))), (3, .int (iz_ ((hi : Nat) : Int)))]) hx hb dX2_stabilize_6 hl (by decide) rfl (fun ls hl => ?_)
  refine iw_stab_loop (t := hi + 1) (cu := lo) (i := lo + 1) hC hRf hRl hK (P0 := P) (X := X) (nx := nx) (lo := lo) (hi := hi) hlh hhn hn h48 hv (fun cu i f H locs ls hie hz hw hl => ?_) (by omega) P s.heap [] ls (is_Z_0 hs0) ⟨hP, hD, hS⟩ (lv_sub hl [2, 3, 4, 5, 1, 0] rfl)
  have ho := hz.2.1
  obtain ⟨hP, hD, hS⟩ := hw
  refine lv_iload_n hx hb dX2_stabilize_56 rfl (lv_at hl 3 rfl) ?_
  refine lv_iload hx hb dX2_stabilize_57 (lv_at hl 4 rfl) ?_
  refine lz_isub (z := (((hi : Nat) : Int) - ((cu : Nat) : Int))) hx hb dX2_stabilize_59 (by omega) ?_
  refine lz_iconst hx hb dX2_stabilize_60 ?_
  refine lz_icmp_le (tgt := 71) hx hb dX2_stabilize_61 (by decide) (iz_t (by omega)) (iz_t (by omega)) (fun c1 => ?_) (fun c2 => ?_)
  · have he := is_Z_end hz hie is_R_rf (is_S_1 (by omega))
    exact W.vret hx hb hr (fun t ht hW => ⟨⟨_, rfl, he, by show va_P D cl _ t.heap; rw [ht]; exact hP⟩, hS.F ht⟩) hS.2.2 dX2_stabilize_71
  · refine lv_aload_n hx hb dX2_stabilize_64 rfl (lv_at hl 0 rfl) ?_
    refine lv_iload hx hb dX2_stabilize_65 (lv_at hl 4 rfl) ?_
    refine lv_iload_n hx hb dX2_stabilize_67 rfl (lv_at hl 3 rfl) ?_
    refine iw_pq hC hl.1 hRf hRl hK hP hD hS 0 rfl (lo := cu) (hi := hi) (by omega) (by omega) hn (by omega) dX2_stabilize_68 (fun g H locs hg hP hD hS => ?_)
    have hP : va_P D cl [(rp, .inl (d, n, .inl g)), (rx, .inl (d, nx, .inl X))] H := hP
    have hD : va_D A [(rp, .inl (d, n, .inl g)), (rx, .inl (d, nx, .inl X))] := hD
    have he := is_Z_end hz hie hg.1 hg.2
    exact W.vret hx hb hr (fun t ht hW => ⟨⟨_, rfl, he, by show va_P D cl _ t.heap; rw [ht]; exact hP⟩, hS.F ht⟩) hS.2.2 dX2_stabilize_71
set_option maxHeartbeats 4000000 in
set_option maxRecDepth 100000 in
/-- radixSortIndirect, stable, of a short range: in the order of its keys, like ones by value -/
theorem met_radix (l : Launch) (D : va_G) (cl : List vw_C) (rp rx : Nat) (d : ClassId) (n nx : Nat) (P X : Nat → Int32) (lo hi : Nat) (hlh : lo ≤ hi) (hhn : hi ≤ n) (hn : n ≤ 1000) (h48 : hi - lo ≤ 48) (hv : ∀ q, lo ≤ q → q < hi → vp_in (P q) nx) : Met l yX2_radixSortIndirect (ws_ yX2_radixSortIndirect cX2_radixSortIndirect 24 none) ({ frames := 54, cells := 0, slots := 0, locals := 1729 }) (va_Pc [.ref rp, .ref rx, .int (iz_ ((lo : Nat) : Int)), .int (iz_ ((hi : Nat) : Int)), .int (iz_ ((1 : Int)))] (iw_B D cl [(rp, .inl (d, n, .inl P)), (rx, .inl (d, nx, .inl X))] [(d, .int)])) (va_Qv (fun P' : Nat → Int32 => is_R lo hi P P' ∧ is_L (is_K X) P' lo hi) (fun P' t => va_P D cl [(rp, .inl (d, n, .inl P')), (rx, .inl (d, nx, .inl X))] t.heap) (iw_A [(rp, .inl (d, n, .inl P)), (rx, .inl (d, nx, .inl X))])) 0 0 (iw_A [(rp, .inl (d, n, .inl P)), (rx, .inl (d, nx, .inl X))]) := by
  refine Met.ofW (cc := cX2_radixSortIndirect) (maxL := 24) (ret := none) (by decide) rfl ?_
  intro p e s m args below meth c s₁ B hml hv
  obtain ⟨rfl, hP, hK, hD0⟩ := hv
  have hx := B.exec
  have hb := B.bytes
  have hr := B.returns
  have hlocks := B.notSynchronized
  have hts0 := atoms_spec B.pre
  have hts : ∀ w ∈ lw_all, w.before _ s = true := fun w h => hts0 w (List.mem_cons_of_mem _ h)
  have hown : s.vm.findClass RX2 = some m.cls := findClass_of_methodNamed B.named
  have hC : CallFix p m c cX2_radixSortIndirect 24 s _ lw_all RX2 := ⟨hx, hb, hml, hown, hts⟩
  have hD := iw_Dself hD0
  generalize hAe : iw_A [(rp, .inl (d, n, .inl P)), (rx, .inl (d, nx, .inl X))] = A at hD ⊢
  have hS : va_S A s.heap s.heap [] := va_S.rf
  have hl := lv_entry ([.ref rp, .ref rx, .int (iz_ ((lo : Nat) : Int)), .int (iz_ ((hi : Nat) : Int)), .int (iz_ ((1 : Int)))]) (n := 24) (Nat.le_of_ble_eq_true rfl)
  rw [lg_entry_eq]
  generalize (lg_sl ([.ref rp, .ref rx, .int (iz_ ((lo : Nat) : Int)), .int (iz_ ((hi : Nat) : Int)), .int (iz_ ((1 : Int)))]) ++ List.replicate (24 - (lg_sl ([.ref rp, .ref rx, .int (iz_ ((lo : Nat) : Int)), .int (iz_ ((hi : Nat) : Int)), .int (iz_ ((1 : Int)))])).length) Slot.unset).toArray = ls at hl ⊢
  have hl : lv_has ls 24 [(0, .ref rp), (1, .ref rx), (2, .int (iz_ ((lo : Nat) : Int))), (3, .int (iz_ ((hi : Nat) : Int))), (4, .int (iz_ ((1 : Int))))] := hl
  refine lv_iload_n hx hb dX2_radixSortIndirect_0 rfl (lv_at hl 3 rfl) ?_
  refine lv_iload_n hx hb dX2_radixSortIndirect_1 rfl (lv_at hl 2 rfl) ?_
  refine lz_isub (z := (((hi : Nat) : Int) - ((lo : Nat) : Int))) hx hb dX2_radixSortIndirect_2 (by omega) ?_
  refine lv_sipush (v := iz_ ((1024 : Int))) hx hb dX2_radixSortIndirect_3 (by decide +kernel) ?_
  refine lz_icmp_ge (tgt := 29) hx hb dX2_radixSortIndirect_6 (by decide) (iz_t (by omega)) (iz_t (by omega)) (fun c1 => ?_) (fun c2 => ?_)
  · exfalso
    omega
  · refine lv_aload_n hx hb dX2_radixSortIndirect_9 rfl (lv_at hl 0 rfl) ?_
    refine lv_aload_n hx hb dX2_radixSortIndirect_10 rfl (lv_at hl 1 rfl) ?_
    refine lv_iload_n hx hb dX2_radixSortIndirect_11 rfl (lv_at hl 2 rfl) ?_
    refine lv_iload_n hx hb dX2_radixSortIndirect_12 rfl (lv_at hl 3 rfl) ?_
    refine iw_set2 (va_runS (As := [.ref rp, .ref rx, .int (iz_ (lo : Int)), .int (iz_ (hi : Int))]) (rest := []) hC (met_qi 48 l D cl rp rx d n nx P X lo hi hlh hhn hn (by omega) (by omega) hv) (va_cwS 4 hC.2.2.2.2 (lw_S q69 q70 q7 q71) rfl rfl rfl (by decide +kernel) ⟨Nat.le_of_ble_eq_true rfl, Nat.le_of_ble_eq_true rfl⟩) ⟨iw_blind, fun U hU hW => iw_pre2 hK hP hD (q0 := 0) (q1 := 1) rfl rfl (by decide) hU hW⟩ rfl rfl hl.1 rfl (lv_room (Nat.le_of_ble_eq_true rfl)) dX2_radixSortIndirect_13 ⟨Nat.zero_le _, Nat.zero_le _⟩) hP hD hS 0 1 rfl rfl (fun f H locs hf hP hD hS => ?_)
    have hP : va_P D cl [(rp, .inl (d, n, .inl f)), (rx, .inl (d, nx, .inl X))] H := hP
    have hD : va_D A [(rp, .inl (d, n, .inl f)), (rx, .inl (d, nx, .inl X))] := hD
    refine lv_iload hx hb dX2_radixSortIndirect_16 (lv_at hl 4 rfl) ?_
    refine lz_if_eq (tgt := 28) hx hb dX2_radixSortIndirect_18 (by decide) (iz_t (by omega)) (fun c3 => ?_) (fun c4 => ?_)
    · exact absurd c3 (by decide)
    · refine lv_aload_n hx hb dX2_radixSortIndirect_21 rfl (lv_at hl 0 rfl) ?_
      refine lv_aload_n hx hb dX2_radixSortIndirect_22 rfl (lv_at hl 1 rfl) ?_
      refine lv_iload_n hx hb dX2_radixSortIndirect_23 rfl (lv_at hl 2 rfl) ?_
      refine lv_iload_n hx hb dX2_radixSortIndirect_24 rfl (lv_at hl 3 rfl) ?_
      refine iw_set2 (va_runS (As := [.ref rp, .ref rx, .int (iz_ (lo : Int)), .int (iz_ (hi : Int))]) (rest := []) hC (met_stab l D cl rp rx d n nx f X lo hi hlh hhn hn h48 (is_R_all hf.1 (p := fun z => vp_in z nx) hv) hf.2) (va_cwS 4 hC.2.2.2.2 (lw_S q90 q91 q7 q92) rfl rfl rfl (by decide +kernel) ⟨Nat.le_of_ble_eq_true rfl, Nat.le_of_ble_eq_true rfl⟩) ⟨iw_blind, fun U hU hW => iw_pre2 hK hP hD (q0 := 0) (q1 := 1) rfl rfl (by decide) hU hW⟩ rfl rfl hl.1 rfl (lv_room (Nat.le_of_ble_eq_true rfl)) dX2_radixSortIndirect_25 ⟨Nat.zero_le _, Nat.zero_le _⟩) hP hD hS 0 1 rfl rfl (fun g H locs hg hP hD hS => ?_)
      have hP : va_P D cl [(rp, .inl (d, n, .inl g)), (rx, .inl (d, nx, .inl X))] H := hP
      have hD : va_D A [(rp, .inl (d, n, .inl g)), (rx, .inl (d, nx, .inl X))] := hD
      exact W.vret hx hb hr (fun t ht hW => ⟨⟨_, rfl, ⟨is_R_tr hf.1 hg.1, hg.2⟩, by show va_P D cl _ t.heap; rw [ht]; exact hP⟩, hS.F ht⟩) hS.2.2 dX2_radixSortIndirect_28
end
section
/-! THE TWO OBJECTS: their worlds, what they compute; IndirectSortDesk -/
abbrev iw_cl : List vw_C := [(RX0, TX0, 2), (RX1, TX1, 2)]
/-- an object of the class ci, its row and its places -/
abbrev iw_W (ci o r q : Nat) (d : ClassId) (R P : Nat → Int32) : va_W := [(o, .inr (ci, [.ref r, .ref q])), (r, .inl (d, 48, .inl R)), (q, .inl (d, 48, .inl P))]
abbrev iw_3 (D : va_G) (A : Nat → Prop) (s : State) (ci o r q : Nat) (d : ClassId) (R P : Nat → Int32) (H : Heap) (locs : List Loc) : Prop := va_P D iw_cl (iw_W ci o r q d R P) H ∧ va_D A (iw_W ci o r q d R P) ∧ va_S A s.heap H locs
def is_cl (i : Int32) : Nat := is_m i % 48
theorem is_cl_lt (i : Int32) : is_cl i < 48 := Nat.mod_lt _ (by decide)
def is_fm (f : Int32) : Nat := is_m f % 49
theorem is_fm_lt (f : Int32) : is_fm f ≤ 48 := by
  have : is_m f % 49 < 49 := Nat.mod_lt _ (by decide)
  unfold is_fm
  omega
def is_tt (a : Nat) (t : Int32) : Nat := a + is_m t % (49 - a)
theorem is_tt_le {a : Nat} (t : Int32) (h : a ≤ 48) : a ≤ is_tt a t ∧ is_tt a t ≤ 48 := by
  have : is_m t % (49 - a) < 49 - a := Nat.mod_lt _ (by omega)
  unfold is_tt
  omega
/-- the places from lo on, below i, hold themselves -/
def is_up (P : Nat → Int32) (lo i : Nat) : Nat → Int32 := fun q => if lo ≤ q ∧ q < i then iz_ (q : Int) else P q
theorem is_up_0 (P : Nat → Int32) (lo : Nat) : is_up P lo lo = P := by
  funext q
  unfold is_up
  rw [if_neg (by omega)]
theorem is_up_st (P : Nat → Int32) {lo i : Nat} (h : lo ≤ i) : upd (is_up P lo i) i (iz_ (i : Int)) = is_up P lo (i + 1) := by
  funext q
  rw [is_upd_at]
  unfold is_up
  by_cases c1 : q = i
  · rw [if_pos c1, if_pos (by omega), c1]
  · rw [if_neg c1]
    by_cases c2 : lo ≤ q ∧ q < i
    · rw [if_pos c2, if_pos (by omega)]
    · rw [if_neg c2, if_neg (by omega)]
section
variable {p : Program} {l : Launch} {e : Env} {Rm : Room} {s : State} {m : MethodId} {args : Array Value} {below : List Frame} {meth : Method} {c : Code} {H : Heap} {locs : List Loc} {cells slots : Nat} {Q : State → Prop}
variable {pc : Nat} {ls : Array Slot} {rest st0 : List Value} {ar : Array Value} {A : Nat → Prop} {H0 : Heap} {D : va_G} {ws : va_W} {ci o r q : Nat} {d : ClassId} {R P : Nat → Int32}
theorem iw_pre3 {U : State} {q0 q1 q2 : Nat} {x y z : Nat × va_E} {av : List Value} (hK : va_K D iw_cl [(d, .int)] s) (hP : va_P D iw_cl ws H) (hD : va_D A ws) (h0 : ws[q0]? = some x) (h1 : ws[q1]? = some y) (h2 : ws[q2]? = some z) (h01 : q0 ≠ q1) (h02 : q0 ≠ q2) (h12 : q1 ≠ q2) (hU : U.heap = H) (hW : s.WarmedH U.vm) : va_Pc av (iw_B D iw_cl [x, y, z] [(d, .int)]) av.toArray U := by
  have key : ∀ (k : Nat) (w : Nat × va_E), ([x, y, z] : va_W)[k]? = some w → ∃ j, ws[j]? = some w ∧ (k = 0 ∧ j = q0 ∨ k = 1 ∧ j = q1 ∨ k = 2 ∧ j = q2) := by
    intro k w hk
    have hz : k < 3 := (List.getElem?_eq_some_iff.mp hk).1
    rcases (show k = 0 ∨ k = 1 ∨ k = 2 by omega) with rfl | rfl | rfl
    · cases hk
      exact ⟨q0, h0, Or.inl ⟨rfl, rfl⟩⟩
    · cases hk
      exact ⟨q1, h1, Or.inr (Or.inl ⟨rfl, rfl⟩)⟩
    · cases hk
      exact ⟨q2, h2, Or.inr (Or.inr ⟨rfl, rfl⟩)⟩
  refine ⟨rfl, fun k w hk => ?_, va_K.moved hW.alike hK, ⟨fun i j u v g1 g2 g3 => ?_, fun _ _ _ => trivial⟩⟩
  · obtain ⟨j, hj, -⟩ := key k w hk
    rw [hU]
    exact hP j _ hj
  · obtain ⟨i2, e1, e2⟩ := key i u g1
    obtain ⟨j2, e3, e4⟩ := key j v g2
    have := hD.1 i2 j2 u v e1 e3 g3
    omega
/-- a call through an object that may change its two arrays -/
theorem iw_set3 {post : (Nat → Int32) × (Nat → Int32) → Prop} (hr : va_Run p l e Rm s m args below meth c H locs cells slots 0 0 (F0 m pc ls st0) rest (va_Qv post (fun u t => va_P D iw_cl (iw_W ci o r q d u.1 u.2) t.heap) (iw_A (iw_W ci o r q d R P)) ar) (iw_A (iw_W ci o r q d R P))) (hP : va_P D iw_cl ws H) (hD : va_D A ws) (hS : va_S A H0 H locs) (q0 q1 q2 : Nat) (h0 : ws[q0]? = some (o, .inr (ci, [.ref r, .ref q]))) (h1 : ws[q1]? = some (r, .inl (d, 48, .inl R))) (h2 : ws[q2]? = some (q, .inl (d, 48, .inl P))) (h12 : q1 ≠ q2)
    (kk : ∀ (u : (Nat → Int32) × (Nat → Int32)) (H1 : Heap) (locs1 : List Loc), post u → va_P D iw_cl ((ws.set q1 (r, .inl (d, 48, .inl u.1))).set q2 (q, .inl (d, 48, .inl u.2))) H1 → va_D A ((ws.set q1 (r, .inl (d, 48, .inl u.1))).set q2 (q, .inl (d, 48, .inl u.2))) → va_S A H0 H1 locs1 → W p l e Rm s m args below meth c H1 locs1 cells slots Q (F0 m (pc + 3) ls rest)) : W p l e Rm s m args below meth c H locs cells slots Q (F0 m pc ls st0) := by
  have hin : ∀ x, iw_A (iw_W ci o r q d R P) x → x = o ∨ x = r ∨ x = q := by
    rintro x ⟨k, y, g1, g2⟩
    have hz : k < 3 := (List.getElem?_eq_some_iff.mp g1).1
    rcases (show k = 0 ∨ k = 1 ∨ k = 2 by omega) with rfl | rfl | rfl
    · cases g1
      exact Or.inl g2.symm
    · cases g1
      exact Or.inr (Or.inl g2.symm)
    · cases g1
      exact Or.inr (Or.inr g2.symm)
  have hall : ∀ x, iw_A (iw_W ci o r q d R P) x → A x := by
    intro x h
    rcases hin x h with e1 | e1 | e1
    · rw [e1]
      exact hD.2 q0 _ h0
    · rw [e1]
      exact hD.2 q1 _ h1
    · rw [e1]
      exact hD.2 q2 _ h2
  refine va_callv hr hS (fun x _ h => hall x h) hall (fun u t H1 locs1 ht _ hp hB hz hk hS1 => ?_)
  subst ht
  have l1 := (List.getElem?_eq_some_iff.mp h1).1
  have l2 := (List.getElem?_eq_some_iff.mp h2).1
  have h2' : (ws.set q1 (r, .inl (d, 48, .inl u.1)))[q2]? = some (q, .inl (d, 48, .inl P)) := by
    rw [List.getElem?_set_ne h12]
    exact h2
  refine kk u _ locs1 hp ?_ ((hD.set h1).set h2') hS1
  intro k x hx
  by_cases e2 : k = q2
  · subst e2
    rw [List.getElem?_set_self (by rw [List.length_set]; exact l2)] at hx
    cases hx
    exact hB 2 _ rfl
  · rw [List.getElem?_set_ne (Ne.symm e2)] at hx
    by_cases e1 : k = q1
    · subst e1
      rw [List.getElem?_set_self l1] at hx
      cases hx
      exact hB 1 _ rfl
    · rw [List.getElem?_set_ne (Ne.symm e1)] at hx
      by_cases hb : iw_A (iw_W ci o r q d R P) x.1
      · rcases hin _ hb with f1 | f1 | f1
        · have f2 := hD.1 k q0 x _ hx h0 f1
          subst f2
          rw [h0] at hx
          cases hx
          exact hB 0 _ rfl
        · exact absurd (hD.1 k q1 x _ hx h1 f1) e1
        · exact absurd (hD.1 k q2 x _ hx h2 f1) e2
      · exact (hP k x hx).kept (hk x.1 (hP k x hx).lt hb)
end
section
variable {p : Program} {l : Launch} {e : Env} {Rm : Room} {s : State} {m : MethodId} {args : Array Value} {below : List Frame} {meth : Method} {c : Code} {Q : State → Prop} {D : va_G} {A : Nat → Prop} {o r q : Nat} {d : ClassId} {R P : Nat → Int32}
set_option maxHeartbeats 4000000 in
set_option maxRecDepth 100000 in
theorem iw_anew0 (hC : CallFix p m c cX0_anew 2 s args lw_all RX0) (hK : va_K D iw_cl [(d, .int)] s) 
    (kexit : ∀ (H : Heap) (locs : List Loc) (ls : Array Slot), iw_3 D A s 0 o r q d R (is_up P 0 48) H locs → W p l e Rm s m args below meth c H locs 0 0 Q (F0 m 21 ls [])) :
    ∀ (t i : Nat), 48 + 1 ≤ i + t → 0 ≤ i → i ≤ 48 → ∀ (H : Heap) (locs : List Loc) (ls : Array Slot), iw_3 D A s 0 o r q d R (is_up P 0 i) H locs → lv_has ls 2 [(0, .ref o), (1, .int (iz_ ((i : Nat) : Int)))] → W p l e Rm s m args below meth c H locs 0 0 Q (F0 m 2 ls []) := by
  have hx := hC.1
  have hb := hC.2.1
  have hown := hC.2.2.2.1
  have hts := hC.2.2.2.2
  intro t
  induction t with
  | zero =>
    intro i h1 h2 h3
    omega
  | succ t ih =>
    intro i h1 h2 h3 H locs ls hw hl
    obtain ⟨hP, hD, hS⟩ := hw
    refine lv_iload_n hx hb dX0_anew_2 rfl (lv_at hl 1 rfl) ?_
    refine lv_bipush (v := iz_ ((48 : Int))) hx hb dX0_anew_3 (by decide +kernel) ?_
    refine lz_icmp_ge (tgt := 21) hx hb dX0_anew_5 (by decide) (iz_t (by omega)) (iz_t (by omega)) (fun c1 => ?_) (fun c2 => ?_)
    · obtain rfl : i = 48 := by omega
      exact kexit H locs ls ⟨hP, hD, hS⟩
    · refine lv_aload_n hx hb dX0_anew_8 rfl (lv_at hl 0 rfl) ?_
      refine va_get (D := D) (ci := 0) (v := .ref q) (C := RX0) (T := TX0) (N := 2) hx hb hts in_X0 hown hK hP 0 rfl rfl 1 (by decide) (hts _ q25) (fun _ h9 => h9) rfl dX0_anew_9 ?_
      refine lv_iload_n hx hb dX0_anew_12 rfl (lv_at hl 1 rfl) ?_
      refine lv_iload_n hx hb dX0_anew_13 rfl (lv_at hl 1 rfl) ?_
      refine lz_iast (k := i) hx hb hK hP hD hS 2 0 rfl rfl (by omega) (by omega) (by omega) dX0_anew_14 (fun H locs hP hD hS => ?_)
      have hP : va_P D iw_cl [(o, .inr (0, [.ref r, .ref q])), (r, .inl (d, 48, .inl R)), (q, .inl (d, 48, .inl (upd (is_up P 0 i) i (iz_ (i : Int)))))] H := hP
      have hD : va_D A [(o, .inr (0, [.ref r, .ref q])), (r, .inl (d, 48, .inl R)), (q, .inl (d, 48, .inl (upd (is_up P 0 i) i (iz_ (i : Int)))))] := hD
      rw [is_up_st P (by omega)] at hP hD
      refine lz_iinc (lv' := [(1, .int (iz_ ((i + 1 : Nat) : Int))), (0, .ref o)]) (k := 1) (z := ((i + 1 : Nat) : Int)) hx hb dX0_anew_15 hl rfl (by omega) (by decide) rfl (fun ls hl => ?_)
      refine lv_goto (tgt := 2) hx hb dX0_anew_18 (by decide) ?_
      exact ih (i + 1) (by omega) (by omega) (by omega) H locs ls ⟨hP, hD, hS⟩ (lv_sub hl [1, 0] rfl)
set_option maxHeartbeats 4000000 in
set_option maxRecDepth 100000 in
theorem iw_fresh (hC : CallFix p m c cX0_fresh 4 s args lw_all RX0) (hK : va_K D iw_cl [(d, .int)] s) {a b : Nat} (hab : a ≤ b) (hbn : b ≤ 48)
    (kexit : ∀ (H : Heap) (locs : List Loc) (ls : Array Slot), iw_3 D A s 0 o r q d R (is_up P a b) H locs → W p l e Rm s m args below meth c H locs 0 0 Q (F0 m 20 ls [])) :
    ∀ (t i : Nat), b + 1 ≤ i + t → a ≤ i → i ≤ b → ∀ (H : Heap) (locs : List Loc) (ls : Array Slot), iw_3 D A s 0 o r q d R (is_up P a i) H locs → lv_has ls 4 [(0, .ref o), (1, .int (iz_ ((a : Nat) : Int))), (2, .int (iz_ ((b : Nat) : Int))), (3, .int (iz_ ((i : Nat) : Int)))] → W p l e Rm s m args below meth c H locs 0 0 Q (F0 m 2 ls []) := by
  have hx := hC.1
  have hb := hC.2.1
  have hown := hC.2.2.2.1
  have hts := hC.2.2.2.2
  intro t
  induction t with
  | zero =>
    intro i h1 h2 h3
    omega
  | succ t ih =>
    intro i h1 h2 h3 H locs ls hw hl
    obtain ⟨hP, hD, hS⟩ := hw
    refine lv_iload_n hx hb dX0_fresh_2 rfl (lv_at hl 3 rfl) ?_
    refine lv_iload_n hx hb dX0_fresh_3 rfl (lv_at hl 2 rfl) ?_
    refine lz_icmp_ge (tgt := 20) hx hb dX0_fresh_4 (by decide) (iz_t (by omega)) (iz_t (by omega)) (fun c1 => ?_) (fun c2 => ?_)
    · obtain rfl : i = b := by omega
      exact kexit H locs ls ⟨hP, hD, hS⟩
    · refine lv_aload_n hx hb dX0_fresh_7 rfl (lv_at hl 0 rfl) ?_
      refine va_get (D := D) (ci := 0) (v := .ref q) (C := RX0) (T := TX0) (N := 2) hx hb hts in_X0 hown hK hP 0 rfl rfl 1 (by decide) (hts _ q25) (fun _ h9 => h9) rfl dX0_fresh_8 ?_
      refine lv_iload_n hx hb dX0_fresh_11 rfl (lv_at hl 3 rfl) ?_
      refine lv_iload_n hx hb dX0_fresh_12 rfl (lv_at hl 3 rfl) ?_
      refine lz_iast (k := i) hx hb hK hP hD hS 2 0 rfl rfl (by omega) (by omega) (by omega) dX0_fresh_13 (fun H locs hP hD hS => ?_)
      have hP : va_P D iw_cl [(o, .inr (0, [.ref r, .ref q])), (r, .inl (d, 48, .inl R)), (q, .inl (d, 48, .inl (upd (is_up P a i) i (iz_ (i : Int)))))] H := hP
      have hD : va_D A [(o, .inr (0, [.ref r, .ref q])), (r, .inl (d, 48, .inl R)), (q, .inl (d, 48, .inl (upd (is_up P a i) i (iz_ (i : Int)))))] := hD
      rw [is_up_st P (by omega)] at hP hD
      refine lz_iinc (lv' := [(3, .int (iz_ ((i + 1 : Nat) : Int))), (0, .ref o), (1, .int (iz_ ((a : Nat) : Int))), (2, .int (iz_ ((b : Nat) : Int)))]) (k := 3) (z := ((i + 1 : Nat) : Int)) hx hb dX0_fresh_14 hl rfl (by omega) (by decide) rfl (fun ls hl => ?_)
      refine lv_goto (tgt := 2) hx hb dX0_fresh_17 (by decide) ?_
      exact ih (i + 1) (by omega) (by omega) (by omega) H locs ls ⟨hP, hD, hS⟩ (lv_sub hl [1, 2, 3, 0] rfl)
end
set_option maxHeartbeats 4000000 in
set_option maxRecDepth 100000 in
/-- each place i holds i -/
theorem met0_anew (l : Launch) (D : va_G) (o r q : Nat) (d : ClassId) (R P : Nat → Int32) : Met l yX0_anew (ws_ yX0_anew cX0_anew 2 none) ({ frames := 0, cells := 0, slots := 0, locals := 0 }) (va_Pc [.ref o] (iw_B D iw_cl (iw_W 0 o r q d R P) [(d, .int)])) (va_Qv (fun u : (Nat → Int32) × (Nat → Int32) => u = (R, is_up P 0 48)) (fun u t => va_P D iw_cl (iw_W 0 o r q d u.1 u.2) t.heap) (iw_A (iw_W 0 o r q d R P))) 0 0 (iw_A (iw_W 0 o r q d R P)) := by
  refine Met.ofW (cc := cX0_anew) (maxL := 2) (ret := none) (by decide) rfl ?_
  intro p e s m args below meth c s₁ B hml hv
  obtain ⟨rfl, hP, hK, hD0⟩ := hv
  have hx := B.exec
  have hb := B.bytes
  have hr := B.returns
  have hlocks := B.notSynchronized
  have hts0 := atoms_spec B.pre
  have hts : ∀ w ∈ lw_all, w.before _ s = true := fun w h => hts0 w (List.mem_cons_of_mem _ h)
  have hown : s.vm.findClass RX0 = some m.cls := findClass_of_methodNamed B.named
  have hC : CallFix p m c cX0_anew 2 s _ lw_all RX0 := ⟨hx, hb, hml, hown, hts⟩
  have hD := iw_Dself hD0
  generalize hAe : iw_A (iw_W 0 o r q d R P) = A at hD ⊢
  have hS : va_S A s.heap s.heap [] := va_S.rf
  have hl := lv_entry ([.ref o]) (n := 2) (Nat.le_of_ble_eq_true rfl)
  rw [lg_entry_eq]
  generalize (lg_sl ([.ref o]) ++ List.replicate (2 - (lg_sl ([.ref o])).length) Slot.unset).toArray = ls at hl ⊢
  have hl : lv_has ls 2 [(0, .ref o)] := hl
  refine lz_iconst hx hb dX0_anew_0 ?_
  refine lv_istore_n (lv' := [(1, .int (iz_ ((0 : Int)))), (0, .ref o)]) hx hb dX0_anew_1 rfl hl (by decide) rfl (fun ls hl => ?_)
  refine iw_anew0 (t := 49) (i := 0) (R := R) (P := P) hC hK (fun H locs ls hw => ?_) (by omega) (by omega) (by omega) s.heap [] ls (by rw [is_up_0]; exact ⟨hP, hD, hS⟩) (lv_sub hl [1, 0] rfl)
  obtain ⟨hP, hD, hS⟩ := hw
  exact W.vret hx hb hr (fun t ht hW => ⟨⟨(R, is_up P 0 48), rfl, rfl, by show va_P D iw_cl _ t.heap; rw [ht]; exact hP⟩, hS.F ht⟩) hS.2.2 dX0_anew_21
set_option maxHeartbeats 4000000 in
set_option maxRecDepth 100000 in
/-- row[cell(i)] = v -/
theorem met0_set (l : Launch) (D : va_G) (o r q : Nat) (d : ClassId) (R P : Nat → Int32) (i v : Int32) : Met l yX0_set (ws_ yX0_set cX0_set 3 none) ({ frames := 0, cells := 0, slots := 0, locals := 0 }) (va_Pc [.ref o, .int i, .int v] (iw_B D iw_cl (iw_W 0 o r q d R P) [(d, .int)])) (va_Qv (fun u : (Nat → Int32) × (Nat → Int32) => u = (upd R (is_cl i) v, P)) (fun u t => va_P D iw_cl (iw_W 0 o r q d u.1 u.2) t.heap) (iw_A (iw_W 0 o r q d R P))) 0 0 (iw_A (iw_W 0 o r q d R P)) := by
  refine Met.ofW (cc := cX0_set) (maxL := 3) (ret := none) (by decide) rfl ?_
  intro p e s m args below meth c s₁ B hml hv
  obtain ⟨rfl, hP, hK, hD0⟩ := hv
  have hx := B.exec
  have hb := B.bytes
  have hr := B.returns
  have hlocks := B.notSynchronized
  have hts0 := atoms_spec B.pre
  have hts : ∀ w ∈ lw_all, w.before _ s = true := fun w h => hts0 w (List.mem_cons_of_mem _ h)
  have hown : s.vm.findClass RX0 = some m.cls := findClass_of_methodNamed B.named
  have hC : CallFix p m c cX0_set 3 s _ lw_all RX0 := ⟨hx, hb, hml, hown, hts⟩
  have hD := iw_Dself hD0
  generalize hAe : iw_A (iw_W 0 o r q d R P) = A at hD ⊢
  have hS : va_S A s.heap s.heap [] := va_S.rf
  have hl := lv_entry ([.ref o, .int i, .int v]) (n := 3) (Nat.le_of_ble_eq_true rfl)
  rw [lg_entry_eq]
  generalize (lg_sl ([.ref o, .int i, .int v]) ++ List.replicate (3 - (lg_sl ([.ref o, .int i, .int v])).length) Slot.unset).toArray = ls at hl ⊢
  have hl : lv_has ls 3 [(0, .ref o), (1, .int i), (2, .int v)] := hl
  refine lv_aload_n hx hb dX0_set_0 rfl (lv_at hl 0 rfl) ?_
  refine va_get (D := D) (ci := 0) (v := .ref r) (C := RX0) (T := TX0) (N := 2) hx hb hts in_X0 hown hK hP 0 rfl rfl 0 (by decide) (hts _ q24) (fun _ h9 => h9) rfl dX0_set_1 ?_
  refine lv_iload_n hx hb dX0_set_4 rfl (lv_at hl 1 rfl) ?_
  refine lv_ldc hx hb hown (hts _ q37) dX0_set_5 ?_
  refine lz_mask hx hb dX0_set_7 ?_
  refine lv_bipush (v := iz_ ((48 : Int))) hx hb dX0_set_8 (by decide +kernel) ?_
  refine lz_rem (k := is_cl i) hx hb (by have := is_m_lt i; omega) (by omega) (by unfold is_cl; omega) dX0_set_10 ?_
  refine lv_iload_n hx hb dX0_set_11 rfl (lv_at hl 2 rfl) ?_
  have hcl := is_cl_lt i
  refine lz_iast (k := is_cl i) hx hb hK hP hD hS 1 0 rfl rfl (by omega) (by omega) (by omega) dX0_set_12 (fun H locs hP hD hS => ?_)
  have hP : va_P D iw_cl [(o, .inr (0, [.ref r, .ref q])), (r, .inl (d, 48, .inl (upd R (is_cl i) v))), (q, .inl (d, 48, .inl P))] H := hP
  have hD : va_D A [(o, .inr (0, [.ref r, .ref q])), (r, .inl (d, 48, .inl (upd R (is_cl i) v))), (q, .inl (d, 48, .inl P))] := hD
  exact W.vret hx hb hr (fun t ht hW => ⟨⟨(upd R (is_cl i) v, P), rfl, rfl, by show va_P D iw_cl _ t.heap; rw [ht]; exact hP⟩, hS.F ht⟩) hS.2.2 dX0_set_13
set_option maxHeartbeats 4000000 in
set_option maxRecDepth 100000 in
/-- row[cell(i)] = v & 3 -/
theorem met0_few (l : Launch) (D : va_G) (o r q : Nat) (d : ClassId) (R P : Nat → Int32) (i v : Int32) : Met l yX0_few (ws_ yX0_few cX0_few 3 none) ({ frames := 0, cells := 0, slots := 0, locals := 0 }) (va_Pc [.ref o, .int i, .int v] (iw_B D iw_cl (iw_W 0 o r q d R P) [(d, .int)])) (va_Qv (fun u : (Nat → Int32) × (Nat → Int32) => u = (upd R (is_cl i) (v &&& iz_ (3 : Int)), P)) (fun u t => va_P D iw_cl (iw_W 0 o r q d u.1 u.2) t.heap) (iw_A (iw_W 0 o r q d R P))) 0 0 (iw_A (iw_W 0 o r q d R P)) := by
  refine Met.ofW (cc := cX0_few) (maxL := 3) (ret := none) (by decide) rfl ?_
  intro p e s m args below meth c s₁ B hml hv
  obtain ⟨rfl, hP, hK, hD0⟩ := hv
  have hx := B.exec
  have hb := B.bytes
  have hr := B.returns
  have hlocks := B.notSynchronized
  have hts0 := atoms_spec B.pre
  have hts : ∀ w ∈ lw_all, w.before _ s = true := fun w h => hts0 w (List.mem_cons_of_mem _ h)
  have hown : s.vm.findClass RX0 = some m.cls := findClass_of_methodNamed B.named
  have hC : CallFix p m c cX0_few 3 s _ lw_all RX0 := ⟨hx, hb, hml, hown, hts⟩
  have hD := iw_Dself hD0
  generalize hAe : iw_A (iw_W 0 o r q d R P) = A at hD ⊢
  have hS : va_S A s.heap s.heap [] := va_S.rf
  have hl := lv_entry ([.ref o, .int i, .int v]) (n := 3) (Nat.le_of_ble_eq_true rfl)
  rw [lg_entry_eq]
  generalize (lg_sl ([.ref o, .int i, .int v]) ++ List.replicate (3 - (lg_sl ([.ref o, .int i, .int v])).length) Slot.unset).toArray = ls at hl ⊢
  have hl : lv_has ls 3 [(0, .ref o), (1, .int i), (2, .int v)] := hl
  refine lv_aload_n hx hb dX0_few_0 rfl (lv_at hl 0 rfl) ?_
  refine va_get (D := D) (ci := 0) (v := .ref r) (C := RX0) (T := TX0) (N := 2) hx hb hts in_X0 hown hK hP 0 rfl rfl 0 (by decide) (hts _ q24) (fun _ h9 => h9) rfl dX0_few_1 ?_
  refine lv_iload_n hx hb dX0_few_4 rfl (lv_at hl 1 rfl) ?_
  refine lv_ldc hx hb hown (hts _ q37) dX0_few_5 ?_
  refine lz_mask hx hb dX0_few_7 ?_
  refine lv_bipush (v := iz_ ((48 : Int))) hx hb dX0_few_8 (by decide +kernel) ?_
  refine lz_rem (k := is_cl i) hx hb (by have := is_m_lt i; omega) (by omega) (by unfold is_cl; omega) dX0_few_10 ?_
  refine lv_iload_n hx hb dX0_few_11 rfl (lv_at hl 2 rfl) ?_
  refine lz_iconst hx hb dX0_few_12 ?_
  refine lv_iand hx hb dX0_few_13 ?_
  have hcl := is_cl_lt i
  refine lz_iast (k := is_cl i) hx hb hK hP hD hS 1 0 rfl rfl (by omega) (by omega) (by omega) dX0_few_14 (fun H locs hP hD hS => ?_)
  have hP : va_P D iw_cl [(o, .inr (0, [.ref r, .ref q])), (r, .inl (d, 48, .inl (upd R (is_cl i) (v &&& iz_ (3 : Int))))), (q, .inl (d, 48, .inl P))] H := hP
  have hD : va_D A [(o, .inr (0, [.ref r, .ref q])), (r, .inl (d, 48, .inl (upd R (is_cl i) (v &&& iz_ (3 : Int))))), (q, .inl (d, 48, .inl P))] := hD
  exact W.vret hx hb hr (fun t ht hW => ⟨⟨(upd R (is_cl i) (v &&& iz_ (3 : Int)), P), rfl, rfl, by show va_P D iw_cl _ t.heap; rw [ht]; exact hP⟩, hS.F ht⟩) hS.2.2 dX0_few_15
set_option maxHeartbeats 4000000 in
set_option maxRecDepth 100000 in
/-- row[cell(i)] -/
theorem met0_get (l : Launch) (D : va_G) (o r q : Nat) (d : ClassId) (R P : Nat → Int32) (i : Int32) : Met l yX0_get (ws_ yX0_get cX0_get 2 (some .int)) ({ frames := 0, cells := 0, slots := 0, locals := 0 }) (va_Pc [.ref o, .int i] (iw_B D iw_cl (iw_W 0 o r q d R P) [(d, .int)])) (vp_Si (fun z => z = R (is_cl i))) 0 0 (fun _ => False) := by
  refine Met.ofW (cc := cX0_get) (maxL := 2) (ret := (some .int)) (by decide) rfl ?_
  intro p e s m args below meth c s₁ B hml hv
  obtain ⟨rfl, hP, hK, hD0⟩ := hv
  have hx := B.exec
  have hb := B.bytes
  have hr := B.returns
  have hlocks := B.notSynchronized
  have hts0 := atoms_spec B.pre
  have hts : ∀ w ∈ lw_all, w.before _ s = true := fun w h => hts0 w (List.mem_cons_of_mem _ h)
  have hown : s.vm.findClass RX0 = some m.cls := findClass_of_methodNamed B.named
  have hC : CallFix p m c cX0_get 2 s _ lw_all RX0 := ⟨hx, hb, hml, hown, hts⟩
  have hD := iw_Dself hD0
  generalize hAe : iw_A (iw_W 0 o r q d R P) = A at hD ⊢
  have hS : va_S A s.heap s.heap [] := va_S.rf
  have hl := lv_entry ([.ref o, .int i]) (n := 2) (Nat.le_of_ble_eq_true rfl)
  rw [lg_entry_eq]
  generalize (lg_sl ([.ref o, .int i]) ++ List.replicate (2 - (lg_sl ([.ref o, .int i])).length) Slot.unset).toArray = ls at hl ⊢
  have hl : lv_has ls 2 [(0, .ref o), (1, .int i)] := hl
  refine lv_aload_n hx hb dX0_get_0 rfl (lv_at hl 0 rfl) ?_
  refine va_get (D := D) (ci := 0) (v := .ref r) (C := RX0) (T := TX0) (N := 2) hx hb hts in_X0 hown hK hP 0 rfl rfl 0 (by decide) (hts _ q24) (fun _ h9 => h9) rfl dX0_get_1 ?_
  refine lv_iload_n hx hb dX0_get_4 rfl (lv_at hl 1 rfl) ?_
  refine lv_ldc hx hb hown (hts _ q37) dX0_get_5 ?_
  refine lz_mask hx hb dX0_get_7 ?_
  refine lv_bipush (v := iz_ ((48 : Int))) hx hb dX0_get_8 (by decide +kernel) ?_
  refine lz_rem (k := is_cl i) hx hb (by have := is_m_lt i; omega) (by omega) (by unfold is_cl; omega) dX0_get_10 ?_
  have hcl := is_cl_lt i
  refine lz_iald (k := is_cl i) hx hb hK hP 1 0 rfl rfl (by omega) (by omega) (by omega) dX0_get_11 ?_
  exact W.iret (v := R (is_cl i)) hx hb hr (fun t ht hW => ⟨_, rfl, rfl, ht⟩) (fun _ h => by cases h) dX0_get_12
set_option maxHeartbeats 4000000 in
set_option maxRecDepth 100000 in
/-- places[cell(i)] -/
theorem met0_place (l : Launch) (D : va_G) (o r q : Nat) (d : ClassId) (R P : Nat → Int32) (i : Int32) : Met l yX0_place (ws_ yX0_place cX0_place 2 (some .int)) ({ frames := 0, cells := 0, slots := 0, locals := 0 }) (va_Pc [.ref o, .int i] (iw_B D iw_cl (iw_W 0 o r q d R P) [(d, .int)])) (vp_Si (fun z => z = P (is_cl i))) 0 0 (fun _ => False) := by
  refine Met.ofW (cc := cX0_place) (maxL := 2) (ret := (some .int)) (by decide) rfl ?_
  intro p e s m args below meth c s₁ B hml hv
  obtain ⟨rfl, hP, hK, hD0⟩ := hv
  have hx := B.exec
  have hb := B.bytes
  have hr := B.returns
  have hlocks := B.notSynchronized
  have hts0 := atoms_spec B.pre
  have hts : ∀ w ∈ lw_all, w.before _ s = true := fun w h => hts0 w (List.mem_cons_of_mem _ h)
  have hown : s.vm.findClass RX0 = some m.cls := findClass_of_methodNamed B.named
  have hC : CallFix p m c cX0_place 2 s _ lw_all RX0 := ⟨hx, hb, hml, hown, hts⟩
  have hD := iw_Dself hD0
  generalize hAe : iw_A (iw_W 0 o r q d R P) = A at hD ⊢
  have hS : va_S A s.heap s.heap [] := va_S.rf
  have hl := lv_entry ([.ref o, .int i]) (n := 2) (Nat.le_of_ble_eq_true rfl)
  rw [lg_entry_eq]
  generalize (lg_sl ([.ref o, .int i]) ++ List.replicate (2 - (lg_sl ([.ref o, .int i])).length) Slot.unset).toArray = ls at hl ⊢
  have hl : lv_has ls 2 [(0, .ref o), (1, .int i)] := hl
  refine lv_aload_n hx hb dX0_place_0 rfl (lv_at hl 0 rfl) ?_
  refine va_get (D := D) (ci := 0) (v := .ref q) (C := RX0) (T := TX0) (N := 2) hx hb hts in_X0 hown hK hP 0 rfl rfl 1 (by decide) (hts _ q25) (fun _ h9 => h9) rfl dX0_place_1 ?_
  refine lv_iload_n hx hb dX0_place_4 rfl (lv_at hl 1 rfl) ?_
  refine lv_ldc hx hb hown (hts _ q37) dX0_place_5 ?_
  refine lz_mask hx hb dX0_place_7 ?_
  refine lv_bipush (v := iz_ ((48 : Int))) hx hb dX0_place_8 (by decide +kernel) ?_
  refine lz_rem (k := is_cl i) hx hb (by have := is_m_lt i; omega) (by omega) (by unfold is_cl; omega) dX0_place_10 ?_
  have hcl := is_cl_lt i
  refine lz_iald (k := is_cl i) hx hb hK hP 2 0 rfl rfl (by omega) (by omega) (by omega) dX0_place_11 ?_
  exact W.iret (v := P (is_cl i)) hx hb hr (fun t ht hW => ⟨_, rfl, rfl, ht⟩) (fun _ h => by cases h) dX0_place_12
set_option maxHeartbeats 4000000 in
set_option maxRecDepth 100000 in
/-- from -/
theorem met0_from (l : Launch) (D : va_G) (o r q : Nat) (d : ClassId) (R P : Nat → Int32) (f : Int32) : Met l yX0_from (ws_ yX0_from cX0_from 2 (some .int)) ({ frames := 0, cells := 0, slots := 0, locals := 0 }) (va_Pc [.ref o, .int f] (iw_B D iw_cl (iw_W 0 o r q d R P) [(d, .int)])) (vp_Si (fun z => z = iz_ (is_fm f : Int))) 0 0 (fun _ => False) := by
  refine Met.ofW (cc := cX0_from) (maxL := 2) (ret := (some .int)) (by decide) rfl ?_
  intro p e s m args below meth c s₁ B hml hv
  obtain ⟨rfl, hP, hK, hD0⟩ := hv
  have hx := B.exec
  have hb := B.bytes
  have hr := B.returns
  have hlocks := B.notSynchronized
  have hts0 := atoms_spec B.pre
  have hts : ∀ w ∈ lw_all, w.before _ s = true := fun w h => hts0 w (List.mem_cons_of_mem _ h)
  have hown : s.vm.findClass RX0 = some m.cls := findClass_of_methodNamed B.named
  have hC : CallFix p m c cX0_from 2 s _ lw_all RX0 := ⟨hx, hb, hml, hown, hts⟩
  have hD := iw_Dself hD0
  generalize hAe : iw_A (iw_W 0 o r q d R P) = A at hD ⊢
  have hS : va_S A s.heap s.heap [] := va_S.rf
  have hl := lv_entry ([.ref o, .int f]) (n := 2) (Nat.le_of_ble_eq_true rfl)
  rw [lg_entry_eq]
  generalize (lg_sl ([.ref o, .int f]) ++ List.replicate (2 - (lg_sl ([.ref o, .int f])).length) Slot.unset).toArray = ls at hl ⊢
  have hl : lv_has ls 2 [(0, .ref o), (1, .int f)] := hl
  refine lv_iload_n hx hb dX0_from_0 rfl (lv_at hl 1 rfl) ?_
  refine lv_ldc hx hb hown (hts _ q37) dX0_from_1 ?_
  refine lz_mask hx hb dX0_from_3 ?_
  refine lv_bipush (v := iz_ ((49 : Int))) hx hb dX0_from_4 (by decide +kernel) ?_
  refine lz_rem (k := is_fm f) hx hb (by have := is_m_lt f; omega) (by omega) (by unfold is_fm; omega) dX0_from_6 ?_
  exact W.iret (v := iz_ (is_fm f : Int)) hx hb hr (fun t ht hW => ⟨_, rfl, rfl, ht⟩) (fun _ h => by cases h) dX0_from_7
set_option maxHeartbeats 4000000 in
set_option maxRecDepth 100000 in
/-- to -/
theorem met0_to (l : Launch) (D : va_G) (o r q : Nat) (d : ClassId) (R P : Nat → Int32) (a : Nat) (t : Int32) (ha : a ≤ 48) : Met l yX0_to (ws_ yX0_to cX0_to 3 (some .int)) ({ frames := 0, cells := 0, slots := 0, locals := 0 }) (va_Pc [.ref o, .int (iz_ ((a : Nat) : Int)), .int t] (iw_B D iw_cl (iw_W 0 o r q d R P) [(d, .int)])) (vp_Si (fun z => z = iz_ (is_tt a t : Int))) 0 0 (fun _ => False) := by
  refine Met.ofW (cc := cX0_to) (maxL := 3) (ret := (some .int)) (by decide) rfl ?_
  intro p e s m args below meth c s₁ B hml hv
  obtain ⟨rfl, hP, hK, hD0⟩ := hv
  have hx := B.exec
  have hb := B.bytes
  have hr := B.returns
  have hlocks := B.notSynchronized
  have hts0 := atoms_spec B.pre
  have hts : ∀ w ∈ lw_all, w.before _ s = true := fun w h => hts0 w (List.mem_cons_of_mem _ h)
  have hown : s.vm.findClass RX0 = some m.cls := findClass_of_methodNamed B.named
  have hC : CallFix p m c cX0_to 3 s _ lw_all RX0 := ⟨hx, hb, hml, hown, hts⟩
  have hD := iw_Dself hD0
  generalize hAe : iw_A (iw_W 0 o r q d R P) = A at hD ⊢
  have hS : va_S A s.heap s.heap [] := va_S.rf
  have hl := lv_entry ([.ref o, .int (iz_ ((a : Nat) : Int)), .int t]) (n := 3) (Nat.le_of_ble_eq_true rfl)
  rw [lg_entry_eq]
  generalize (lg_sl ([.ref o, .int (iz_ ((a : Nat) : Int)), .int t]) ++ List.replicate (3 - (lg_sl ([.ref o, .int (iz_ ((a : Nat) : Int)), .int t])).length) Slot.unset).toArray = ls at hl ⊢
  have hl : lv_has ls 3 [(0, .ref o), (1, .int (iz_ ((a : Nat) : Int))), (2, .int t)] := hl
  refine lv_iload_n hx hb dX0_to_0 rfl (lv_at hl 1 rfl) ?_
  refine lv_iload_n hx hb dX0_to_1 rfl (lv_at hl 2 rfl) ?_
  refine lv_ldc hx hb hown (hts _ q37) dX0_to_2 ?_
  refine lz_mask hx hb dX0_to_4 ?_
  refine lv_bipush (v := iz_ ((49 : Int))) hx hb dX0_to_5 (by decide +kernel) ?_
  refine lv_iload_n hx hb dX0_to_7 rfl (lv_at hl 1 rfl) ?_
  refine lz_isub (z := (49 - ((a : Nat) : Int))) hx hb dX0_to_8 (by omega) ?_
  have hk : ((is_m t : Nat) : Int) % (49 - ((a : Nat) : Int)) = ((is_m t % (49 - a) : Nat) : Int) := by
    rw [show (49 : Int) - ((a : Nat) : Int) = ((49 - a : Nat) : Int) by omega]
    rfl
  have hm := is_m_lt t
  refine lz_rem (b := 49 - ((a : Nat) : Int)) (k := is_m t % (49 - a)) hx hb (by omega) (by omega) hk dX0_to_9 ?_
  refine lz_iadd (z := ((is_tt a t : Nat) : Int)) hx hb dX0_to_10 (by unfold is_tt; omega) ?_
  exact W.iret (v := iz_ (is_tt a t : Int)) hx hb hr (fun t ht hW => ⟨_, rfl, rfl, ht⟩) (fun _ h => by cases h) dX0_to_11
set_option maxHeartbeats 4000000 in
set_option maxRecDepth 100000 in
/-- the places of [a, b) hold themselves -/
theorem met0_fresh (l : Launch) (D : va_G) (o r q : Nat) (d : ClassId) (R P : Nat → Int32) (a b : Nat) (hab : a ≤ b) (hb48 : b ≤ 48) : Met l yX0_fresh (ws_ yX0_fresh cX0_fresh 4 none) ({ frames := 0, cells := 0, slots := 0, locals := 0 }) (va_Pc [.ref o, .int (iz_ ((a : Nat) : Int)), .int (iz_ ((b : Nat) : Int))] (iw_B D iw_cl (iw_W 0 o r q d R P) [(d, .int)])) (va_Qv (fun u : (Nat → Int32) × (Nat → Int32) => u = (R, is_up P a b)) (fun u t => va_P D iw_cl (iw_W 0 o r q d u.1 u.2) t.heap) (iw_A (iw_W 0 o r q d R P))) 0 0 (iw_A (iw_W 0 o r q d R P)) := by
  refine Met.ofW (cc := cX0_fresh) (maxL := 4) (ret := none) (by decide) rfl ?_
  intro p e s m args below meth c s₁ B hml hv
  obtain ⟨rfl, hP, hK, hD0⟩ := hv
  have hx := B.exec
  have hb := B.bytes
  have hr := B.returns
  have hlocks := B.notSynchronized
  have hts0 := atoms_spec B.pre
  have hts : ∀ w ∈ lw_all, w.before _ s = true := fun w h => hts0 w (List.mem_cons_of_mem _ h)
  have hown : s.vm.findClass RX0 = some m.cls := findClass_of_methodNamed B.named
  have hC : CallFix p m c cX0_fresh 4 s _ lw_all RX0 := ⟨hx, hb, hml, hown, hts⟩
  have hD := iw_Dself hD0
  generalize hAe : iw_A (iw_W 0 o r q d R P) = A at hD ⊢
  have hS : va_S A s.heap s.heap [] := va_S.rf
  have hl := lv_entry ([.ref o, .int (iz_ ((a : Nat) : Int)), .int (iz_ ((b : Nat) : Int))]) (n := 4) (Nat.le_of_ble_eq_true rfl)
  rw [lg_entry_eq]
  generalize (lg_sl ([.ref o, .int (iz_ ((a : Nat) : Int)), .int (iz_ ((b : Nat) : Int))]) ++ List.replicate (4 - (lg_sl ([.ref o, .int (iz_ ((a : Nat) : Int)), .int (iz_ ((b : Nat) : Int))])).length) Slot.unset).toArray = ls at hl ⊢
  have hl : lv_has ls 4 [(0, .ref o), (1, .int (iz_ ((a : Nat) : Int))), (2, .int (iz_ ((b : Nat) : Int)))] := hl
  refine lv_iload_n hx hb dX0_fresh_0 rfl (lv_at hl 1 rfl) ?_
  refine lv_istore_n (lv' := [(3, .int (iz_ ((a : Nat) : Int))), (0, .ref o), (1, .int (iz_ ((a : Nat) : Int))), (2, .int (iz_ ((b : Nat) : Int)))]) hx hb dX0_fresh_1 rfl hl (by decide) rfl (fun ls hl => ?_)
  refine iw_fresh (t := 49) (i := a) (R := R) (P := P) (a := a) (b := b) hC hK hab hb48 (fun H locs ls hw => ?_) (by omega) (by omega) (by omega) s.heap [] ls (by rw [is_up_0]; exact ⟨hP, hD, hS⟩) (lv_sub hl [1, 2, 3, 0] rfl)
  obtain ⟨hP, hD, hS⟩ := hw
  exact W.vret hx hb hr (fun t ht hW => ⟨⟨(R, is_up P a b), rfl, rfl, by show va_P D iw_cl _ t.heap; rw [ht]; exact hP⟩, hS.F ht⟩) hS.2.2 dX0_fresh_20
set_option maxHeartbeats 4000000 in
set_option maxRecDepth 100000 in
/-- the range of places in the order of the row's numbers, like ones by place -/
theorem met0_radix (l : Launch) (D : va_G) (o r q : Nat) (d : ClassId) (R P : Nat → Int32) (f t : Int32) : Met l yX0_radix (ws_ yX0_radix cX0_radix 5 none) ({ frames := 55, cells := 0, slots := 0, locals := 1772 }) (va_Pc [.ref o, .int f, .int t] (iw_B D iw_cl (iw_W 0 o r q d R P) [(d, .int)])) (va_Qv (fun u : (Nat → Int32) × (Nat → Int32) => u.1 = R ∧ is_R (is_fm f) (is_tt (is_fm f) t) (is_up P (is_fm f) (is_tt (is_fm f) t)) u.2 ∧ is_L (is_K R) u.2 (is_fm f) (is_tt (is_fm f) t)) (fun u t => va_P D iw_cl (iw_W 0 o r q d u.1 u.2) t.heap) (iw_A (iw_W 0 o r q d R P))) 0 0 (iw_A (iw_W 0 o r q d R P)) := by
  refine Met.ofW (cc := cX0_radix) (maxL := 5) (ret := none) (by decide) rfl ?_
  intro p e s m args below meth c s₁ B hml hv
  obtain ⟨rfl, hP, hK, hD0⟩ := hv
  have hx := B.exec
  have hb := B.bytes
  have hr := B.returns
  have hlocks := B.notSynchronized
  have hts0 := atoms_spec B.pre
  have hts : ∀ w ∈ lw_all, w.before _ s = true := fun w h => hts0 w (List.mem_cons_of_mem _ h)
  have hown : s.vm.findClass RX0 = some m.cls := findClass_of_methodNamed B.named
  have hC : CallFix p m c cX0_radix 5 s _ lw_all RX0 := ⟨hx, hb, hml, hown, hts⟩
  have hD := iw_Dself hD0
  generalize hAe : iw_A (iw_W 0 o r q d R P) = A at hD ⊢
  have hS : va_S A s.heap s.heap [] := va_S.rf
  have hl := lv_entry ([.ref o, .int f, .int t]) (n := 5) (Nat.le_of_ble_eq_true rfl)
  rw [lg_entry_eq]
  generalize (lg_sl ([.ref o, .int f, .int t]) ++ List.replicate (5 - (lg_sl ([.ref o, .int f, .int t])).length) Slot.unset).toArray = ls at hl ⊢
  have hl : lv_has ls 5 [(0, .ref o), (1, .int f), (2, .int t)] := hl
  refine lv_aload_n hx hb dX0_radix_0 rfl (lv_at hl 0 rfl) ?_
  refine lv_iload_n hx hb dX0_radix_1 rfl (lv_at hl 1 rfl) ?_
  refine vp_callSi (va_Run.run (va_runV (As := [.int f]) (rest := []) hC (met0_from l D o r q d R P f) (cwV 1 hts (lw_V q54 q56 qs0 q5 q57) rfl rfl rfl (by decide +kernel) ⟨Nat.le_of_ble_eq_true rfl, Nat.le_of_ble_eq_true rfl⟩) ⟨iw_blind, va_recv hK hP (ci := 0) (q0 := 0) rfl rfl, fun U hU hW => iw_pre3 hK hP hD (q0 := 0) (q1 := 1) (q2 := 2) rfl rfl rfl (by decide) (by decide) (by decide) hU hW⟩ rfl rfl hl.1 rfl (lv_room (Nat.le_of_ble_eq_true rfl)) dX0_radix_2 ⟨Nat.zero_le _, Nat.zero_le _⟩)) (fun z hz => ?_)
  subst hz
  have hfm := is_fm_lt f
  refine lv_istore_n (lv' := [(3, .int (iz_ ((is_fm f : Nat) : Int))), (0, .ref o), (1, .int f), (2, .int t)]) hx hb dX0_radix_5 rfl hl (by decide) rfl (fun ls hl => ?_)
  refine lv_aload_n hx hb dX0_radix_6 rfl (lv_at hl 1 rfl) ?_
  refine lv_iload_n hx hb dX0_radix_7 rfl (lv_at hl 0 rfl) ?_
  refine lv_iload_n hx hb dX0_radix_8 rfl (lv_at hl 3 rfl) ?_
  refine vp_callSi (va_Run.run (va_runV (As := [.int (iz_ (is_fm f : Int)), .int t]) (rest := []) hC (met0_to l D o r q d R P (is_fm f) t hfm) (cwV 2 hts (lw_V q58 q60 qs1 q5 q61) rfl rfl rfl (by decide +kernel) ⟨Nat.le_of_ble_eq_true rfl, Nat.le_of_ble_eq_true rfl⟩) ⟨iw_blind, va_recv hK hP (ci := 0) (q0 := 0) rfl rfl, fun U hU hW => iw_pre3 hK hP hD (q0 := 0) (q1 := 1) (q2 := 2) rfl rfl rfl (by decide) (by decide) (by decide) hU hW⟩ rfl rfl hl.1 rfl (lv_room (Nat.le_of_ble_eq_true rfl)) dX0_radix_9 ⟨Nat.zero_le _, Nat.zero_le _⟩)) (fun z hz => ?_)
  subst hz
  have htt := is_tt_le t hfm
  refine lv_istore (lv' := [(4, .int (iz_ ((is_tt (is_fm f) t : Nat) : Int))), (3, .int (iz_ ((is_fm f : Nat) : Int))), (0, .ref o), (1, .int f), (2, .int t)]) hx hb dX0_radix_12 hl (by decide) rfl (fun ls hl => ?_)
  refine lv_aload_n hx hb dX0_radix_14 rfl (lv_at hl 2 rfl) ?_
  refine lv_iload_n hx hb dX0_radix_15 rfl (lv_at hl 1 rfl) ?_
  refine lv_iload hx hb dX0_radix_16 (lv_at hl 0 rfl) ?_
  refine iw_set3 (va_runV (As := [.int (iz_ (is_fm f : Int)), .int (iz_ (is_tt (is_fm f) t : Int))]) (rest := []) hC (met0_fresh l D o r q d R P (is_fm f) (is_tt (is_fm f) t) htt.1 htt.2) (cwV 2 hts (lw_V q62 q64 qs2 q5 q65) rfl rfl rfl (by decide +kernel) ⟨Nat.le_of_ble_eq_true rfl, Nat.le_of_ble_eq_true rfl⟩) ⟨iw_blind, va_recv hK hP (ci := 0) (q0 := 0) rfl rfl, fun U hU hW => iw_pre3 hK hP hD (q0 := 0) (q1 := 1) (q2 := 2) rfl rfl rfl (by decide) (by decide) (by decide) hU hW⟩ rfl rfl hl.1 rfl (lv_room (Nat.le_of_ble_eq_true rfl)) dX0_radix_18 ⟨Nat.zero_le _, Nat.zero_le _⟩) hP hD hS 0 1 2 rfl rfl rfl (by decide) (fun u H locs hu hP hD hS => ?_)
  subst hu
  have hP : va_P D iw_cl [(o, .inr (0, [.ref r, .ref q])), (r, .inl (d, 48, .inl R)), (q, .inl (d, 48, .inl (is_up P (is_fm f) (is_tt (is_fm f) t))))] H := hP
  have hD : va_D A [(o, .inr (0, [.ref r, .ref q])), (r, .inl (d, 48, .inl R)), (q, .inl (d, 48, .inl (is_up P (is_fm f) (is_tt (is_fm f) t))))] := hD
  have hv : ∀ j, is_fm f ≤ j → j < is_tt (is_fm f) t → vp_in (is_up P (is_fm f) (is_tt (is_fm f) t) j) 48 := by
    intro j j1 j2
    unfold is_up
    rw [if_pos ⟨j1, j2⟩]
    exact iz_in rfl (by omega) (by omega)
  refine lv_aload_n hx hb dX0_radix_21 rfl (lv_at hl 2 rfl) ?_
  refine va_get (D := D) (ci := 0) (v := .ref q) (C := RX0) (T := TX0) (N := 2) hx hb hts in_X0 hown hK hP 0 rfl rfl 1 (by decide) (hts _ q25) (fun _ h9 => h9) rfl dX0_radix_22 ?_
  refine lv_aload_n hx hb dX0_radix_25 rfl (lv_at hl 2 rfl) ?_
  refine va_get (D := D) (ci := 0) (v := .ref r) (C := RX0) (T := TX0) (N := 2) hx hb hts in_X0 hown hK hP 0 rfl rfl 0 (by decide) (hts _ q24) (fun _ h9 => h9) rfl dX0_radix_26 ?_
  refine lv_iload_n hx hb dX0_radix_29 rfl (lv_at hl 1 rfl) ?_
  refine lv_iload hx hb dX0_radix_30 (lv_at hl 0 rfl) ?_
  refine lz_iconst hx hb dX0_radix_32 ?_
  refine iw_set2 (va_runS (As := [.ref q, .ref r, .int (iz_ (is_fm f : Int)), .int (iz_ (is_tt (is_fm f) t : Int)), .int (iz_ (1 : Int))]) (rest := []) hC (met_radix l D iw_cl q r d 48 48 (is_up P (is_fm f) (is_tt (is_fm f) t)) R (is_fm f) (is_tt (is_fm f) t) htt.1 htt.2 (by omega) (by omega) hv) (va_cwS 5 hts (lw_S q66 q67 q7 q68) rfl rfl rfl (by decide +kernel) ⟨Nat.le_of_ble_eq_true rfl, Nat.le_of_ble_eq_true rfl⟩) ⟨iw_blind, fun U hU hW => iw_pre2 hK hP hD (q0 := 2) (q1 := 1) rfl rfl (by decide) hU hW⟩ rfl rfl hl.1 rfl (lv_room (Nat.le_of_ble_eq_true rfl)) dX0_radix_33 ⟨Nat.zero_le _, Nat.zero_le _⟩) hP hD hS 2 1 rfl rfl (fun g H locs hg hP hD hS => ?_)
  have hP : va_P D iw_cl [(o, .inr (0, [.ref r, .ref q])), (r, .inl (d, 48, .inl R)), (q, .inl (d, 48, .inl g))] H := hP
  have hD : va_D A [(o, .inr (0, [.ref r, .ref q])), (r, .inl (d, 48, .inl R)), (q, .inl (d, 48, .inl g))] := hD
  exact W.vret hx hb hr (fun t ht hW => ⟨⟨(R, g), rfl, ⟨rfl, hg.1, hg.2⟩, by show va_P D iw_cl _ t.heap; rw [ht]; exact hP⟩, hS.F ht⟩) hS.2.2 dX0_radix_36
set_option maxHeartbeats 4000000 in
set_option maxRecDepth 100000 in
/-- the range of places in the order of the row's numbers, like ones by place -/
theorem met0_quick (l : Launch) (D : va_G) (o r q : Nat) (d : ClassId) (R P : Nat → Int32) (f t : Int32) : Met l yX0_quick (ws_ yX0_quick cX0_quick 5 none) ({ frames := 55, cells := 0, slots := 0, locals := 1772 }) (va_Pc [.ref o, .int f, .int t] (iw_B D iw_cl (iw_W 0 o r q d R P) [(d, .int)])) (va_Qv (fun u : (Nat → Int32) × (Nat → Int32) => u.1 = R ∧ is_R (is_fm f) (is_tt (is_fm f) t) (is_up P (is_fm f) (is_tt (is_fm f) t)) u.2 ∧ is_L (is_K R) u.2 (is_fm f) (is_tt (is_fm f) t)) (fun u t => va_P D iw_cl (iw_W 0 o r q d u.1 u.2) t.heap) (iw_A (iw_W 0 o r q d R P))) 0 0 (iw_A (iw_W 0 o r q d R P)) := by
  refine Met.ofW (cc := cX0_quick) (maxL := 5) (ret := none) (by decide) rfl ?_
  intro p e s m args below meth c s₁ B hml hv
  obtain ⟨rfl, hP, hK, hD0⟩ := hv
  have hx := B.exec
  have hb := B.bytes
  have hr := B.returns
  have hlocks := B.notSynchronized
  have hts0 := atoms_spec B.pre
  have hts : ∀ w ∈ lw_all, w.before _ s = true := fun w h => hts0 w (List.mem_cons_of_mem _ h)
  have hown : s.vm.findClass RX0 = some m.cls := findClass_of_methodNamed B.named
  have hC : CallFix p m c cX0_quick 5 s _ lw_all RX0 := ⟨hx, hb, hml, hown, hts⟩
  have hD := iw_Dself hD0
  generalize hAe : iw_A (iw_W 0 o r q d R P) = A at hD ⊢
  have hS : va_S A s.heap s.heap [] := va_S.rf
  have hl := lv_entry ([.ref o, .int f, .int t]) (n := 5) (Nat.le_of_ble_eq_true rfl)
  rw [lg_entry_eq]
  generalize (lg_sl ([.ref o, .int f, .int t]) ++ List.replicate (5 - (lg_sl ([.ref o, .int f, .int t])).length) Slot.unset).toArray = ls at hl ⊢
  have hl : lv_has ls 5 [(0, .ref o), (1, .int f), (2, .int t)] := hl
  refine lv_aload_n hx hb dX0_quick_0 rfl (lv_at hl 0 rfl) ?_
  refine lv_iload_n hx hb dX0_quick_1 rfl (lv_at hl 1 rfl) ?_
  refine vp_callSi (va_Run.run (va_runV (As := [.int f]) (rest := []) hC (met0_from l D o r q d R P f) (cwV 1 hts (lw_V q54 q56 qs0 q5 q57) rfl rfl rfl (by decide +kernel) ⟨Nat.le_of_ble_eq_true rfl, Nat.le_of_ble_eq_true rfl⟩) ⟨iw_blind, va_recv hK hP (ci := 0) (q0 := 0) rfl rfl, fun U hU hW => iw_pre3 hK hP hD (q0 := 0) (q1 := 1) (q2 := 2) rfl rfl rfl (by decide) (by decide) (by decide) hU hW⟩ rfl rfl hl.1 rfl (lv_room (Nat.le_of_ble_eq_true rfl)) dX0_quick_2 ⟨Nat.zero_le _, Nat.zero_le _⟩)) (fun z hz => ?_)
  subst hz
  have hfm := is_fm_lt f
  refine lv_istore_n (lv' := [(3, .int (iz_ ((is_fm f : Nat) : Int))), (0, .ref o), (1, .int f), (2, .int t)]) hx hb dX0_quick_5 rfl hl (by decide) rfl (fun ls hl => ?_)
  refine lv_aload_n hx hb dX0_quick_6 rfl (lv_at hl 1 rfl) ?_
  refine lv_iload_n hx hb dX0_quick_7 rfl (lv_at hl 0 rfl) ?_
  refine lv_iload_n hx hb dX0_quick_8 rfl (lv_at hl 3 rfl) ?_
  refine vp_callSi (va_Run.run (va_runV (As := [.int (iz_ (is_fm f : Int)), .int t]) (rest := []) hC (met0_to l D o r q d R P (is_fm f) t hfm) (cwV 2 hts (lw_V q58 q60 qs1 q5 q61) rfl rfl rfl (by decide +kernel) ⟨Nat.le_of_ble_eq_true rfl, Nat.le_of_ble_eq_true rfl⟩) ⟨iw_blind, va_recv hK hP (ci := 0) (q0 := 0) rfl rfl, fun U hU hW => iw_pre3 hK hP hD (q0 := 0) (q1 := 1) (q2 := 2) rfl rfl rfl (by decide) (by decide) (by decide) hU hW⟩ rfl rfl hl.1 rfl (lv_room (Nat.le_of_ble_eq_true rfl)) dX0_quick_9 ⟨Nat.zero_le _, Nat.zero_le _⟩)) (fun z hz => ?_)
  subst hz
  have htt := is_tt_le t hfm
  refine lv_istore (lv' := [(4, .int (iz_ ((is_tt (is_fm f) t : Nat) : Int))), (3, .int (iz_ ((is_fm f : Nat) : Int))), (0, .ref o), (1, .int f), (2, .int t)]) hx hb dX0_quick_12 hl (by decide) rfl (fun ls hl => ?_)
  refine lv_aload_n hx hb dX0_quick_14 rfl (lv_at hl 2 rfl) ?_
  refine lv_iload_n hx hb dX0_quick_15 rfl (lv_at hl 1 rfl) ?_
  refine lv_iload hx hb dX0_quick_16 (lv_at hl 0 rfl) ?_
  refine iw_set3 (va_runV (As := [.int (iz_ (is_fm f : Int)), .int (iz_ (is_tt (is_fm f) t : Int))]) (rest := []) hC (met0_fresh l D o r q d R P (is_fm f) (is_tt (is_fm f) t) htt.1 htt.2) (cwV 2 hts (lw_V q62 q64 qs2 q5 q65) rfl rfl rfl (by decide +kernel) ⟨Nat.le_of_ble_eq_true rfl, Nat.le_of_ble_eq_true rfl⟩) ⟨iw_blind, va_recv hK hP (ci := 0) (q0 := 0) rfl rfl, fun U hU hW => iw_pre3 hK hP hD (q0 := 0) (q1 := 1) (q2 := 2) rfl rfl rfl (by decide) (by decide) (by decide) hU hW⟩ rfl rfl hl.1 rfl (lv_room (Nat.le_of_ble_eq_true rfl)) dX0_quick_18 ⟨Nat.zero_le _, Nat.zero_le _⟩) hP hD hS 0 1 2 rfl rfl rfl (by decide) (fun u H locs hu hP hD hS => ?_)
  subst hu
  have hP : va_P D iw_cl [(o, .inr (0, [.ref r, .ref q])), (r, .inl (d, 48, .inl R)), (q, .inl (d, 48, .inl (is_up P (is_fm f) (is_tt (is_fm f) t))))] H := hP
  have hD : va_D A [(o, .inr (0, [.ref r, .ref q])), (r, .inl (d, 48, .inl R)), (q, .inl (d, 48, .inl (is_up P (is_fm f) (is_tt (is_fm f) t))))] := hD
  have hv : ∀ j, is_fm f ≤ j → j < is_tt (is_fm f) t → vp_in (is_up P (is_fm f) (is_tt (is_fm f) t) j) 48 := by
    intro j j1 j2
    unfold is_up
    rw [if_pos ⟨j1, j2⟩]
    exact iz_in rfl (by omega) (by omega)
  refine lv_aload_n hx hb dX0_quick_21 rfl (lv_at hl 2 rfl) ?_
  refine va_get (D := D) (ci := 0) (v := .ref q) (C := RX0) (T := TX0) (N := 2) hx hb hts in_X0 hown hK hP 0 rfl rfl 1 (by decide) (hts _ q25) (fun _ h9 => h9) rfl dX0_quick_22 ?_
  refine lv_aload_n hx hb dX0_quick_25 rfl (lv_at hl 2 rfl) ?_
  refine va_get (D := D) (ci := 0) (v := .ref r) (C := RX0) (T := TX0) (N := 2) hx hb hts in_X0 hown hK hP 0 rfl rfl 0 (by decide) (hts _ q24) (fun _ h9 => h9) rfl dX0_quick_26 ?_
  refine lv_iload_n hx hb dX0_quick_29 rfl (lv_at hl 1 rfl) ?_
  refine lv_iload hx hb dX0_quick_30 (lv_at hl 0 rfl) ?_
  refine iw_set2 (va_runS (As := [.ref q, .ref r, .int (iz_ (is_fm f : Int)), .int (iz_ (is_tt (is_fm f) t : Int))]) (rest := []) hC (met_qi 48 l D iw_cl q r d 48 48 (is_up P (is_fm f) (is_tt (is_fm f) t)) R (is_fm f) (is_tt (is_fm f) t) htt.1 htt.2 (by omega) (by omega) (by omega) hv) (va_cwS 4 hts (lw_S q115 q70 q7 q71) rfl rfl rfl (by decide +kernel) ⟨Nat.le_of_ble_eq_true rfl, Nat.le_of_ble_eq_true rfl⟩) ⟨iw_blind, fun U hU hW => iw_pre2 hK hP hD (q0 := 2) (q1 := 1) rfl rfl (by decide) hU hW⟩ rfl rfl hl.1 rfl (lv_room (Nat.le_of_ble_eq_true rfl)) dX0_quick_32 ⟨Nat.zero_le _, Nat.zero_le _⟩) hP hD hS 2 1 rfl rfl (fun f1 H locs hf1 hP hD hS => ?_)
  have hP : va_P D iw_cl [(o, .inr (0, [.ref r, .ref q])), (r, .inl (d, 48, .inl R)), (q, .inl (d, 48, .inl f1))] H := hP
  have hD : va_D A [(o, .inr (0, [.ref r, .ref q])), (r, .inl (d, 48, .inl R)), (q, .inl (d, 48, .inl f1))] := hD
  refine lv_aload_n hx hb dX0_quick_35 rfl (lv_at hl 2 rfl) ?_
  refine va_get (D := D) (ci := 0) (v := .ref q) (C := RX0) (T := TX0) (N := 2) hx hb hts in_X0 hown hK hP 0 rfl rfl 1 (by decide) (hts _ q25) (fun _ h9 => h9) rfl dX0_quick_36 ?_
  refine lv_aload_n hx hb dX0_quick_39 rfl (lv_at hl 2 rfl) ?_
  refine va_get (D := D) (ci := 0) (v := .ref r) (C := RX0) (T := TX0) (N := 2) hx hb hts in_X0 hown hK hP 0 rfl rfl 0 (by decide) (hts _ q24) (fun _ h9 => h9) rfl dX0_quick_40 ?_
  refine lv_iload_n hx hb dX0_quick_43 rfl (lv_at hl 1 rfl) ?_
  refine lv_iload hx hb dX0_quick_44 (lv_at hl 0 rfl) ?_
  refine iw_set2 (va_runS (As := [.ref q, .ref r, .int (iz_ (is_fm f : Int)), .int (iz_ (is_tt (is_fm f) t : Int))]) (rest := []) hC (met_stab l D iw_cl q r d 48 48 f1 R (is_fm f) (is_tt (is_fm f) t) htt.1 htt.2 (by omega) (by omega) (is_R_all hf1.1 (p := fun z => vp_in z 48) hv) hf1.2) (va_cwS 4 hts (lw_S q116 q91 q7 q92) rfl rfl rfl (by decide +kernel) ⟨Nat.le_of_ble_eq_true rfl, Nat.le_of_ble_eq_true rfl⟩) ⟨iw_blind, fun U hU hW => iw_pre2 hK hP hD (q0 := 2) (q1 := 1) rfl rfl (by decide) hU hW⟩ rfl rfl hl.1 rfl (lv_room (Nat.le_of_ble_eq_true rfl)) dX0_quick_46 ⟨Nat.zero_le _, Nat.zero_le _⟩) hP hD hS 2 1 rfl rfl (fun g H locs hg hP hD hS => ?_)
  have hP : va_P D iw_cl [(o, .inr (0, [.ref r, .ref q])), (r, .inl (d, 48, .inl R)), (q, .inl (d, 48, .inl g))] H := hP
  have hD : va_D A [(o, .inr (0, [.ref r, .ref q])), (r, .inl (d, 48, .inl R)), (q, .inl (d, 48, .inl g))] := hD
  exact W.vret hx hb hr (fun t ht hW => ⟨⟨(R, g), rfl, ⟨rfl, is_R_tr hf1.1 hg.1, hg.2⟩, by show va_P D iw_cl _ t.heap; rw [ht]; exact hP⟩, hS.F ht⟩) hS.2.2 dX0_quick_49
end
section
/-! IndirectSortDeskModel, the reference -/
section
variable {p : Program} {l : Launch} {e : Env} {Rm : Room} {s : State} {m : MethodId} {args : Array Value} {below : List Frame} {meth : Method} {c : Code} {Q : State → Prop} {D : va_G} {A : Nat → Prop} {o r q : Nat} {d : ClassId} {R P : Nat → Int32}
set_option maxHeartbeats 4000000 in
set_option maxRecDepth 100000 in
theorem iw_anew1 (hC : CallFix p m c cX1_anew 2 s args lw_all RX1) (hK : va_K D iw_cl [(d, .int)] s) 
    (kexit : ∀ (H : Heap) (locs : List Loc) (ls : Array Slot), iw_3 D A s 1 o r q d R (is_up P 0 48) H locs → W p l e Rm s m args below meth c H locs 0 0 Q (F0 m 21 ls [])) :
    ∀ (t i : Nat), 48 + 1 ≤ i + t → 0 ≤ i → i ≤ 48 → ∀ (H : Heap) (locs : List Loc) (ls : Array Slot), iw_3 D A s 1 o r q d R (is_up P 0 i) H locs → lv_has ls 2 [(0, .ref o), (1, .int (iz_ ((i : Nat) : Int)))] → W p l e Rm s m args below meth c H locs 0 0 Q (F0 m 2 ls []) := by
  have hx := hC.1
  have hb := hC.2.1
  have hown := hC.2.2.2.1
  have hts := hC.2.2.2.2
  intro t
  induction t with
  | zero =>
    intro i h1 h2 h3
    omega
  | succ t ih =>
    intro i h1 h2 h3 H locs ls hw hl
    obtain ⟨hP, hD, hS⟩ := hw
    refine lv_iload_n hx hb dX1_anew_2 rfl (lv_at hl 1 rfl) ?_
    refine lv_bipush (v := iz_ ((48 : Int))) hx hb dX1_anew_3 (by decide +kernel) ?_
    refine lz_icmp_ge (tgt := 21) hx hb dX1_anew_5 (by decide) (iz_t (by omega)) (iz_t (by omega)) (fun c1 => ?_) (fun c2 => ?_)
    · obtain rfl : i = 48 := by omega
      exact kexit H locs ls ⟨hP, hD, hS⟩
    · refine lv_aload_n hx hb dX1_anew_8 rfl (lv_at hl 0 rfl) ?_
      refine va_get (D := D) (ci := 1) (v := .ref q) (C := RX1) (T := TX1) (N := 2) hx hb hts in_X1 hown hK hP 0 rfl rfl 1 (by decide) (hts _ q128) (fun _ h9 => h9) rfl dX1_anew_9 ?_
      refine lv_iload_n hx hb dX1_anew_12 rfl (lv_at hl 1 rfl) ?_
      refine lv_iload_n hx hb dX1_anew_13 rfl (lv_at hl 1 rfl) ?_
      refine lz_iast (k := i) hx hb hK hP hD hS 2 0 rfl rfl (by omega) (by omega) (by omega) dX1_anew_14 (fun H locs hP hD hS => ?_)
      have hP : va_P D iw_cl [(o, .inr (1, [.ref r, .ref q])), (r, .inl (d, 48, .inl R)), (q, .inl (d, 48, .inl (upd (is_up P 0 i) i (iz_ (i : Int)))))] H := hP
      have hD : va_D A [(o, .inr (1, [.ref r, .ref q])), (r, .inl (d, 48, .inl R)), (q, .inl (d, 48, .inl (upd (is_up P 0 i) i (iz_ (i : Int)))))] := hD
      rw [is_up_st P (by omega)] at hP hD
      refine lz_iinc (lv' := [(1, .int (iz_ ((i + 1 : Nat) : Int))), (0, .ref o)]) (k := 1) (z := ((i + 1 : Nat) : Int)) hx hb dX1_anew_15 hl rfl (by omega) (by decide) rfl (fun ls hl => ?_)
      refine lv_goto (tgt := 2) hx hb dX1_anew_18 (by decide) ?_
      exact ih (i + 1) (by omega) (by omega) (by omega) H locs ls ⟨hP, hD, hS⟩ (lv_sub hl [1, 0] rfl)
end
set_option maxHeartbeats 4000000 in
set_option maxRecDepth 100000 in
/-- each place i holds i -/
theorem met1_anew (l : Launch) (D : va_G) (o r q : Nat) (d : ClassId) (R P : Nat → Int32) : Met l yX1_anew (ws_ yX1_anew cX1_anew 2 none) ({ frames := 0, cells := 0, slots := 0, locals := 0 }) (va_Pc [.ref o] (iw_B D iw_cl (iw_W 1 o r q d R P) [(d, .int)])) (va_Qv (fun u : (Nat → Int32) × (Nat → Int32) => u = (R, is_up P 0 48)) (fun u t => va_P D iw_cl (iw_W 1 o r q d u.1 u.2) t.heap) (iw_A (iw_W 1 o r q d R P))) 0 0 (iw_A (iw_W 1 o r q d R P)) := by
  refine Met.ofW (cc := cX1_anew) (maxL := 2) (ret := none) (by decide) rfl ?_
  intro p e s m args below meth c s₁ B hml hv
  obtain ⟨rfl, hP, hK, hD0⟩ := hv
  have hx := B.exec
  have hb := B.bytes
  have hr := B.returns
  have hlocks := B.notSynchronized
  have hts0 := atoms_spec B.pre
  have hts : ∀ w ∈ lw_all, w.before _ s = true := fun w h => hts0 w (List.mem_cons_of_mem _ h)
  have hown : s.vm.findClass RX1 = some m.cls := findClass_of_methodNamed B.named
  have hC : CallFix p m c cX1_anew 2 s _ lw_all RX1 := ⟨hx, hb, hml, hown, hts⟩
  have hD := iw_Dself hD0
  generalize hAe : iw_A (iw_W 1 o r q d R P) = A at hD ⊢
  have hS : va_S A s.heap s.heap [] := va_S.rf
  have hl := lv_entry ([.ref o]) (n := 2) (Nat.le_of_ble_eq_true rfl)
  rw [lg_entry_eq]
  generalize (lg_sl ([.ref o]) ++ List.replicate (2 - (lg_sl ([.ref o])).length) Slot.unset).toArray = ls at hl ⊢
  have hl : lv_has ls 2 [(0, .ref o)] := hl
  refine lz_iconst hx hb dX1_anew_0 ?_
  refine lv_istore_n (lv' := [(1, .int (iz_ ((0 : Int)))), (0, .ref o)]) hx hb dX1_anew_1 rfl hl (by decide) rfl (fun ls hl => ?_)
  refine iw_anew1 (t := 49) (i := 0) (R := R) (P := P) hC hK (fun H locs ls hw => ?_) (by omega) (by omega) (by omega) s.heap [] ls (by rw [is_up_0]; exact ⟨hP, hD, hS⟩) (lv_sub hl [1, 0] rfl)
  obtain ⟨hP, hD, hS⟩ := hw
  exact W.vret hx hb hr (fun t ht hW => ⟨⟨(R, is_up P 0 48), rfl, rfl, by show va_P D iw_cl _ t.heap; rw [ht]; exact hP⟩, hS.F ht⟩) hS.2.2 dX1_anew_21
set_option maxHeartbeats 4000000 in
set_option maxRecDepth 100000 in
theorem met1_cell (l : Launch) (i : Int32) : Met l yX1_cell (ws_ yX1_cell cX1_cell 1 (some .int)) ({ frames := 0, cells := 0, slots := 0, locals := 0 }) (va_Pc [.int i] (fun _ => True)) (vp_Si (fun z => z = iz_ (is_cl i : Int))) 0 0 (fun _ => False) := by
  refine Met.ofW (cc := cX1_cell) (maxL := 1) (ret := (some .int)) (by decide) rfl ?_
  intro p e s m args below meth c s₁ B hml hv
  obtain ⟨rfl, -⟩ := hv
  have hx := B.exec
  have hb := B.bytes
  have hr := B.returns
  have hlocks := B.notSynchronized
  have hts0 := atoms_spec B.pre
  have hts : ∀ w ∈ lw_all, w.before _ s = true := fun w h => hts0 w (List.mem_cons_of_mem _ h)
  have hown : s.vm.findClass RX1 = some m.cls := findClass_of_methodNamed B.named
  have hC : CallFix p m c cX1_cell 1 s _ lw_all RX1 := ⟨hx, hb, hml, hown, hts⟩
  have hl := lv_entry ([.int i]) (n := 1) (Nat.le_of_ble_eq_true rfl)
  rw [lg_entry_eq]
  generalize (lg_sl ([.int i]) ++ List.replicate (1 - (lg_sl ([.int i])).length) Slot.unset).toArray = ls at hl ⊢
  have hl : lv_has ls 1 [(0, .int i)] := hl
  refine lv_iload_n hx hb dX1_cell_0 rfl (lv_at hl 0 rfl) ?_
  refine lv_ldc hx hb hown (hts _ q142) dX1_cell_1 ?_
  refine lz_mask hx hb dX1_cell_3 ?_
  refine lv_bipush (v := iz_ ((48 : Int))) hx hb dX1_cell_4 (by decide +kernel) ?_
  refine lz_rem (k := is_cl i) hx hb (by have := is_m_lt i; omega) (by omega) (by unfold is_cl; omega) dX1_cell_6 ?_
  exact W.iret (v := iz_ (is_cl i : Int)) hx hb hr (fun t ht hW => ⟨_, rfl, rfl, ht⟩) (fun _ h => by cases h) dX1_cell_7
set_option maxHeartbeats 4000000 in
set_option maxRecDepth 100000 in
theorem met1_from (l : Launch) (f : Int32) : Met l yX1_from (ws_ yX1_from cX1_from 1 (some .int)) ({ frames := 0, cells := 0, slots := 0, locals := 0 }) (va_Pc [.int f] (fun _ => True)) (vp_Si (fun z => z = iz_ (is_fm f : Int))) 0 0 (fun _ => False) := by
  refine Met.ofW (cc := cX1_from) (maxL := 1) (ret := (some .int)) (by decide) rfl ?_
  intro p e s m args below meth c s₁ B hml hv
  obtain ⟨rfl, -⟩ := hv
  have hx := B.exec
  have hb := B.bytes
  have hr := B.returns
  have hlocks := B.notSynchronized
  have hts0 := atoms_spec B.pre
  have hts : ∀ w ∈ lw_all, w.before _ s = true := fun w h => hts0 w (List.mem_cons_of_mem _ h)
  have hown : s.vm.findClass RX1 = some m.cls := findClass_of_methodNamed B.named
  have hC : CallFix p m c cX1_from 1 s _ lw_all RX1 := ⟨hx, hb, hml, hown, hts⟩
  have hl := lv_entry ([.int f]) (n := 1) (Nat.le_of_ble_eq_true rfl)
  rw [lg_entry_eq]
  generalize (lg_sl ([.int f]) ++ List.replicate (1 - (lg_sl ([.int f])).length) Slot.unset).toArray = ls at hl ⊢
  have hl : lv_has ls 1 [(0, .int f)] := hl
  refine lv_iload_n hx hb dX1_from_0 rfl (lv_at hl 0 rfl) ?_
  refine lv_ldc hx hb hown (hts _ q142) dX1_from_1 ?_
  refine lz_mask hx hb dX1_from_3 ?_
  refine lv_bipush (v := iz_ ((49 : Int))) hx hb dX1_from_4 (by decide +kernel) ?_
  refine lz_rem (k := is_fm f) hx hb (by have := is_m_lt f; omega) (by omega) (by unfold is_fm; omega) dX1_from_6 ?_
  exact W.iret (v := iz_ (is_fm f : Int)) hx hb hr (fun t ht hW => ⟨_, rfl, rfl, ht⟩) (fun _ h => by cases h) dX1_from_7
set_option maxHeartbeats 4000000 in
set_option maxRecDepth 100000 in
theorem met1_to (l : Launch) (a : Nat) (t : Int32) (ha : a ≤ 48) : Met l yX1_to (ws_ yX1_to cX1_to 2 (some .int)) ({ frames := 0, cells := 0, slots := 0, locals := 0 }) (va_Pc [.int (iz_ ((a : Nat) : Int)), .int t] (fun _ => True)) (vp_Si (fun z => z = iz_ (is_tt a t : Int))) 0 0 (fun _ => False) := by
  refine Met.ofW (cc := cX1_to) (maxL := 2) (ret := (some .int)) (by decide) rfl ?_
  intro p e s m args below meth c s₁ B hml hv
  obtain ⟨rfl, -⟩ := hv
  have hx := B.exec
  have hb := B.bytes
  have hr := B.returns
  have hlocks := B.notSynchronized
  have hts0 := atoms_spec B.pre
  have hts : ∀ w ∈ lw_all, w.before _ s = true := fun w h => hts0 w (List.mem_cons_of_mem _ h)
  have hown : s.vm.findClass RX1 = some m.cls := findClass_of_methodNamed B.named
  have hC : CallFix p m c cX1_to 2 s _ lw_all RX1 := ⟨hx, hb, hml, hown, hts⟩
  have hl := lv_entry ([.int (iz_ ((a : Nat) : Int)), .int t]) (n := 2) (Nat.le_of_ble_eq_true rfl)
  rw [lg_entry_eq]
  generalize (lg_sl ([.int (iz_ ((a : Nat) : Int)), .int t]) ++ List.replicate (2 - (lg_sl ([.int (iz_ ((a : Nat) : Int)), .int t])).length) Slot.unset).toArray = ls at hl ⊢
  have hl : lv_has ls 2 [(0, .int (iz_ ((a : Nat) : Int))), (1, .int t)] := hl
  refine lv_iload_n hx hb dX1_to_0 rfl (lv_at hl 0 rfl) ?_
  refine lv_iload_n hx hb dX1_to_1 rfl (lv_at hl 1 rfl) ?_
  refine lv_ldc hx hb hown (hts _ q142) dX1_to_2 ?_
  refine lz_mask hx hb dX1_to_4 ?_
  refine lv_bipush (v := iz_ ((49 : Int))) hx hb dX1_to_5 (by decide +kernel) ?_
  refine lv_iload_n hx hb dX1_to_7 rfl (lv_at hl 0 rfl) ?_
  refine lz_isub (z := (49 - ((a : Nat) : Int))) hx hb dX1_to_8 (by omega) ?_
  have hk : ((is_m t : Nat) : Int) % (49 - ((a : Nat) : Int)) = ((is_m t % (49 - a) : Nat) : Int) := by
    rw [show (49 : Int) - ((a : Nat) : Int) = ((49 - a : Nat) : Int) by omega]
    rfl
  have hm := is_m_lt t
  refine lz_rem (b := 49 - ((a : Nat) : Int)) (k := is_m t % (49 - a)) hx hb (by omega) (by omega) hk dX1_to_9 ?_
  refine lz_iadd (z := ((is_tt a t : Nat) : Int)) hx hb dX1_to_10 (by unfold is_tt; omega) ?_
  exact W.iret (v := iz_ (is_tt a t : Int)) hx hb hr (fun t ht hW => ⟨_, rfl, rfl, ht⟩) (fun _ h => by cases h) dX1_to_11
set_option maxHeartbeats 4000000 in
set_option maxRecDepth 100000 in
/-- row[cell(i)] = v -/
theorem met1_set (l : Launch) (D : va_G) (o r q : Nat) (d : ClassId) (R P : Nat → Int32) (i v : Int32) : Met l yX1_set (ws_ yX1_set cX1_set 3 none) ({ frames := 1, cells := 0, slots := 0, locals := 20 }) (va_Pc [.ref o, .int i, .int v] (iw_B D iw_cl (iw_W 1 o r q d R P) [(d, .int)])) (va_Qv (fun u : (Nat → Int32) × (Nat → Int32) => u = (upd R (is_cl i) v, P)) (fun u t => va_P D iw_cl (iw_W 1 o r q d u.1 u.2) t.heap) (iw_A (iw_W 1 o r q d R P))) 0 0 (iw_A (iw_W 1 o r q d R P)) := by
  refine Met.ofW (cc := cX1_set) (maxL := 3) (ret := none) (by decide) rfl ?_
  intro p e s m args below meth c s₁ B hml hv
  obtain ⟨rfl, hP, hK, hD0⟩ := hv
  have hx := B.exec
  have hb := B.bytes
  have hr := B.returns
  have hlocks := B.notSynchronized
  have hts0 := atoms_spec B.pre
  have hts : ∀ w ∈ lw_all, w.before _ s = true := fun w h => hts0 w (List.mem_cons_of_mem _ h)
  have hown : s.vm.findClass RX1 = some m.cls := findClass_of_methodNamed B.named
  have hC : CallFix p m c cX1_set 3 s _ lw_all RX1 := ⟨hx, hb, hml, hown, hts⟩
  have hD := iw_Dself hD0
  generalize hAe : iw_A (iw_W 1 o r q d R P) = A at hD ⊢
  have hS : va_S A s.heap s.heap [] := va_S.rf
  have hl := lv_entry ([.ref o, .int i, .int v]) (n := 3) (Nat.le_of_ble_eq_true rfl)
  rw [lg_entry_eq]
  generalize (lg_sl ([.ref o, .int i, .int v]) ++ List.replicate (3 - (lg_sl ([.ref o, .int i, .int v])).length) Slot.unset).toArray = ls at hl ⊢
  have hl : lv_has ls 3 [(0, .ref o), (1, .int i), (2, .int v)] := hl
  refine lv_aload_n hx hb dX1_set_0 rfl (lv_at hl 0 rfl) ?_
  refine va_get (D := D) (ci := 1) (v := .ref r) (C := RX1) (T := TX1) (N := 2) hx hb hts in_X1 hown hK hP 0 rfl rfl 0 (by decide) (hts _ q127) (fun _ h9 => h9) rfl dX1_set_1 ?_
  refine lv_iload_n hx hb dX1_set_4 rfl (lv_at hl 1 rfl) ?_
  refine vp_callSi (va_Run.run (va_runS (As := [.int i]) (rest := [.ref r]) hC (met1_cell l i) (va_cwS 1 hts (lw_S q139 q140 q6 q141) rfl rfl rfl (by decide +kernel) ⟨Nat.le_of_ble_eq_true rfl, Nat.le_of_ble_eq_true rfl⟩) ⟨iw_blind0, fun U hU hW => ⟨rfl, trivial⟩⟩ rfl rfl hl.1 rfl (lv_room (Nat.le_of_ble_eq_true rfl)) dX1_set_5 ⟨Nat.zero_le _, Nat.zero_le _⟩)) (fun z hz => ?_)
  subst hz
  have hcl := is_cl_lt i
  refine lv_iload_n hx hb dX1_set_8 rfl (lv_at hl 2 rfl) ?_
  refine lz_iast (k := is_cl i) hx hb hK hP hD hS 1 0 rfl rfl (by omega) (by omega) (by omega) dX1_set_9 (fun H locs hP hD hS => ?_)
  have hP : va_P D iw_cl [(o, .inr (1, [.ref r, .ref q])), (r, .inl (d, 48, .inl (upd R (is_cl i) v))), (q, .inl (d, 48, .inl P))] H := hP
  have hD : va_D A [(o, .inr (1, [.ref r, .ref q])), (r, .inl (d, 48, .inl (upd R (is_cl i) v))), (q, .inl (d, 48, .inl P))] := hD
  exact W.vret hx hb hr (fun t ht hW => ⟨⟨(upd R (is_cl i) v, P), rfl, rfl, by show va_P D iw_cl _ t.heap; rw [ht]; exact hP⟩, hS.F ht⟩) hS.2.2 dX1_set_10
set_option maxHeartbeats 4000000 in
set_option maxRecDepth 100000 in
/-- row[cell(i)] = v & 3 -/
theorem met1_few (l : Launch) (D : va_G) (o r q : Nat) (d : ClassId) (R P : Nat → Int32) (i v : Int32) : Met l yX1_few (ws_ yX1_few cX1_few 3 none) ({ frames := 1, cells := 0, slots := 0, locals := 20 }) (va_Pc [.ref o, .int i, .int v] (iw_B D iw_cl (iw_W 1 o r q d R P) [(d, .int)])) (va_Qv (fun u : (Nat → Int32) × (Nat → Int32) => u = (upd R (is_cl i) (v &&& iz_ (3 : Int)), P)) (fun u t => va_P D iw_cl (iw_W 1 o r q d u.1 u.2) t.heap) (iw_A (iw_W 1 o r q d R P))) 0 0 (iw_A (iw_W 1 o r q d R P)) := by
  refine Met.ofW (cc := cX1_few) (maxL := 3) (ret := none) (by decide) rfl ?_
  intro p e s m args below meth c s₁ B hml hv
  obtain ⟨rfl, hP, hK, hD0⟩ := hv
  have hx := B.exec
  have hb := B.bytes
  have hr := B.returns
  have hlocks := B.notSynchronized
  have hts0 := atoms_spec B.pre
  have hts : ∀ w ∈ lw_all, w.before _ s = true := fun w h => hts0 w (List.mem_cons_of_mem _ h)
  have hown : s.vm.findClass RX1 = some m.cls := findClass_of_methodNamed B.named
  have hC : CallFix p m c cX1_few 3 s _ lw_all RX1 := ⟨hx, hb, hml, hown, hts⟩
  have hD := iw_Dself hD0
  generalize hAe : iw_A (iw_W 1 o r q d R P) = A at hD ⊢
  have hS : va_S A s.heap s.heap [] := va_S.rf
  have hl := lv_entry ([.ref o, .int i, .int v]) (n := 3) (Nat.le_of_ble_eq_true rfl)
  rw [lg_entry_eq]
  generalize (lg_sl ([.ref o, .int i, .int v]) ++ List.replicate (3 - (lg_sl ([.ref o, .int i, .int v])).length) Slot.unset).toArray = ls at hl ⊢
  have hl : lv_has ls 3 [(0, .ref o), (1, .int i), (2, .int v)] := hl
  refine lv_aload_n hx hb dX1_few_0 rfl (lv_at hl 0 rfl) ?_
  refine va_get (D := D) (ci := 1) (v := .ref r) (C := RX1) (T := TX1) (N := 2) hx hb hts in_X1 hown hK hP 0 rfl rfl 0 (by decide) (hts _ q127) (fun _ h9 => h9) rfl dX1_few_1 ?_
  refine lv_iload_n hx hb dX1_few_4 rfl (lv_at hl 1 rfl) ?_
  refine vp_callSi (va_Run.run (va_runS (As := [.int i]) (rest := [.ref r]) hC (met1_cell l i) (va_cwS 1 hts (lw_S q139 q140 q6 q141) rfl rfl rfl (by decide +kernel) ⟨Nat.le_of_ble_eq_true rfl, Nat.le_of_ble_eq_true rfl⟩) ⟨iw_blind0, fun U hU hW => ⟨rfl, trivial⟩⟩ rfl rfl hl.1 rfl (lv_room (Nat.le_of_ble_eq_true rfl)) dX1_few_5 ⟨Nat.zero_le _, Nat.zero_le _⟩)) (fun z hz => ?_)
  subst hz
  have hcl := is_cl_lt i
  refine lv_iload_n hx hb dX1_few_8 rfl (lv_at hl 2 rfl) ?_
  refine lz_iconst hx hb dX1_few_9 ?_
  refine lv_iand hx hb dX1_few_10 ?_
  refine lz_iast (k := is_cl i) hx hb hK hP hD hS 1 0 rfl rfl (by omega) (by omega) (by omega) dX1_few_11 (fun H locs hP hD hS => ?_)
  have hP : va_P D iw_cl [(o, .inr (1, [.ref r, .ref q])), (r, .inl (d, 48, .inl (upd R (is_cl i) (v &&& iz_ (3 : Int))))), (q, .inl (d, 48, .inl P))] H := hP
  have hD : va_D A [(o, .inr (1, [.ref r, .ref q])), (r, .inl (d, 48, .inl (upd R (is_cl i) (v &&& iz_ (3 : Int))))), (q, .inl (d, 48, .inl P))] := hD
  exact W.vret hx hb hr (fun t ht hW => ⟨⟨(upd R (is_cl i) (v &&& iz_ (3 : Int)), P), rfl, rfl, by show va_P D iw_cl _ t.heap; rw [ht]; exact hP⟩, hS.F ht⟩) hS.2.2 dX1_few_12
set_option maxHeartbeats 4000000 in
set_option maxRecDepth 100000 in
/-- row[cell(i)] -/
theorem met1_get (l : Launch) (D : va_G) (o r q : Nat) (d : ClassId) (R P : Nat → Int32) (i : Int32) : Met l yX1_get (ws_ yX1_get cX1_get 2 (some .int)) ({ frames := 1, cells := 0, slots := 0, locals := 20 }) (va_Pc [.ref o, .int i] (iw_B D iw_cl (iw_W 1 o r q d R P) [(d, .int)])) (vp_Si (fun z => z = R (is_cl i))) 0 0 (fun _ => False) := by
  refine Met.ofW (cc := cX1_get) (maxL := 2) (ret := (some .int)) (by decide) rfl ?_
  intro p e s m args below meth c s₁ B hml hv
  obtain ⟨rfl, hP, hK, hD0⟩ := hv
  have hx := B.exec
  have hb := B.bytes
  have hr := B.returns
  have hlocks := B.notSynchronized
  have hts0 := atoms_spec B.pre
  have hts : ∀ w ∈ lw_all, w.before _ s = true := fun w h => hts0 w (List.mem_cons_of_mem _ h)
  have hown : s.vm.findClass RX1 = some m.cls := findClass_of_methodNamed B.named
  have hC : CallFix p m c cX1_get 2 s _ lw_all RX1 := ⟨hx, hb, hml, hown, hts⟩
  have hD := iw_Dself hD0
  generalize hAe : iw_A (iw_W 1 o r q d R P) = A at hD ⊢
  have hS : va_S A s.heap s.heap [] := va_S.rf
  have hl := lv_entry ([.ref o, .int i]) (n := 2) (Nat.le_of_ble_eq_true rfl)
  rw [lg_entry_eq]
  generalize (lg_sl ([.ref o, .int i]) ++ List.replicate (2 - (lg_sl ([.ref o, .int i])).length) Slot.unset).toArray = ls at hl ⊢
  have hl : lv_has ls 2 [(0, .ref o), (1, .int i)] := hl
  refine lv_aload_n hx hb dX1_get_0 rfl (lv_at hl 0 rfl) ?_
  refine va_get (D := D) (ci := 1) (v := .ref r) (C := RX1) (T := TX1) (N := 2) hx hb hts in_X1 hown hK hP 0 rfl rfl 0 (by decide) (hts _ q127) (fun _ h9 => h9) rfl dX1_get_1 ?_
  refine lv_iload_n hx hb dX1_get_4 rfl (lv_at hl 1 rfl) ?_
  refine vp_callSi (va_Run.run (va_runS (As := [.int i]) (rest := [.ref r]) hC (met1_cell l i) (va_cwS 1 hts (lw_S q139 q140 q6 q141) rfl rfl rfl (by decide +kernel) ⟨Nat.le_of_ble_eq_true rfl, Nat.le_of_ble_eq_true rfl⟩) ⟨iw_blind0, fun U hU hW => ⟨rfl, trivial⟩⟩ rfl rfl hl.1 rfl (lv_room (Nat.le_of_ble_eq_true rfl)) dX1_get_5 ⟨Nat.zero_le _, Nat.zero_le _⟩)) (fun z hz => ?_)
  subst hz
  have hcl := is_cl_lt i
  refine lz_iald (k := is_cl i) hx hb hK hP 1 0 rfl rfl (by omega) (by omega) (by omega) dX1_get_8 ?_
  exact W.iret (v := R (is_cl i)) hx hb hr (fun t ht hW => ⟨_, rfl, rfl, ht⟩) (fun _ h => by cases h) dX1_get_9
set_option maxHeartbeats 4000000 in
set_option maxRecDepth 100000 in
/-- places[cell(i)] -/
theorem met1_place (l : Launch) (D : va_G) (o r q : Nat) (d : ClassId) (R P : Nat → Int32) (i : Int32) : Met l yX1_place (ws_ yX1_place cX1_place 2 (some .int)) ({ frames := 1, cells := 0, slots := 0, locals := 20 }) (va_Pc [.ref o, .int i] (iw_B D iw_cl (iw_W 1 o r q d R P) [(d, .int)])) (vp_Si (fun z => z = P (is_cl i))) 0 0 (fun _ => False) := by
  refine Met.ofW (cc := cX1_place) (maxL := 2) (ret := (some .int)) (by decide) rfl ?_
  intro p e s m args below meth c s₁ B hml hv
  obtain ⟨rfl, hP, hK, hD0⟩ := hv
  have hx := B.exec
  have hb := B.bytes
  have hr := B.returns
  have hlocks := B.notSynchronized
  have hts0 := atoms_spec B.pre
  have hts : ∀ w ∈ lw_all, w.before _ s = true := fun w h => hts0 w (List.mem_cons_of_mem _ h)
  have hown : s.vm.findClass RX1 = some m.cls := findClass_of_methodNamed B.named
  have hC : CallFix p m c cX1_place 2 s _ lw_all RX1 := ⟨hx, hb, hml, hown, hts⟩
  have hD := iw_Dself hD0
  generalize hAe : iw_A (iw_W 1 o r q d R P) = A at hD ⊢
  have hS : va_S A s.heap s.heap [] := va_S.rf
  have hl := lv_entry ([.ref o, .int i]) (n := 2) (Nat.le_of_ble_eq_true rfl)
  rw [lg_entry_eq]
  generalize (lg_sl ([.ref o, .int i]) ++ List.replicate (2 - (lg_sl ([.ref o, .int i])).length) Slot.unset).toArray = ls at hl ⊢
  have hl : lv_has ls 2 [(0, .ref o), (1, .int i)] := hl
  refine lv_aload_n hx hb dX1_place_0 rfl (lv_at hl 0 rfl) ?_
  refine va_get (D := D) (ci := 1) (v := .ref q) (C := RX1) (T := TX1) (N := 2) hx hb hts in_X1 hown hK hP 0 rfl rfl 1 (by decide) (hts _ q128) (fun _ h9 => h9) rfl dX1_place_1 ?_
  refine lv_iload_n hx hb dX1_place_4 rfl (lv_at hl 1 rfl) ?_
  refine vp_callSi (va_Run.run (va_runS (As := [.int i]) (rest := [.ref q]) hC (met1_cell l i) (va_cwS 1 hts (lw_S q139 q140 q6 q141) rfl rfl rfl (by decide +kernel) ⟨Nat.le_of_ble_eq_true rfl, Nat.le_of_ble_eq_true rfl⟩) ⟨iw_blind0, fun U hU hW => ⟨rfl, trivial⟩⟩ rfl rfl hl.1 rfl (lv_room (Nat.le_of_ble_eq_true rfl)) dX1_place_5 ⟨Nat.zero_le _, Nat.zero_le _⟩)) (fun z hz => ?_)
  subst hz
  have hcl := is_cl_lt i
  refine lz_iald (k := is_cl i) hx hb hK hP 2 0 rfl rfl (by omega) (by omega) (by omega) dX1_place_8 ?_
  exact W.iret (v := P (is_cl i)) hx hb hr (fun t ht hW => ⟨_, rfl, rfl, ht⟩) (fun _ h => by cases h) dX1_place_9
/-- the places themselves -/
def is_id (k : Nat) : Int32 := iz_ (k : Int)
theorem is_id_inj {q r : Nat} (hq : q < 1000) (hr : r < 1000) (h : is_id q = is_id r) : q = r := by
  have := iz_inj (by omega) (by omega) h
  omega
theorem is_K_id (R : Nat → Int32) {k : Nat} (hk : k < 1000) : is_K R (is_id k) = (R k).toInt := by
  show (R (iz_ (k : Int)).toNatClampNeg).toInt = (R k).toInt
  rw [iz_cl rfl (by omega)]
theorem is_w_id (R : Nat → Int32) {i k : Nat} (hi : i < 1000) (hk : k < 1000) : is_w (is_K R) (is_id i) (is_id k) = if (R k).toInt < (R i).toInt ∨ ((R k).toInt = (R i).toInt ∧ k < i) then 1 else 0 := by
  have e1 : (is_id i).toInt = (i : Int) := iz_t (by omega)
  have e2 : (is_id k).toInt = (k : Int) := iz_t (by omega)
  unfold is_w
  rw [is_K_id R hi, is_K_id R hk, e1, e2]
  by_cases c : (R k).toInt < (R i).toInt ∨ ((R k).toInt = (R i).toInt ∧ k < i)
  · rw [if_pos c, if_pos (by omega)]
  · rw [if_neg c, if_neg (by omega)]
theorem is_cn_lt {w : Int32 → Nat} {f : Nat → Int32} {lo a : Nat} (hw : ∀ v, w v ≤ 1) (h0 : w (f a) = 0) : ∀ n, lo ≤ a → a < lo + n → is_cn w f lo n < n := by
  intro n
  induction n with
  | zero => intro h1 h2; omega
  | succ n ih =>
    intro h1 h2
    rw [is_cn_s]
    by_cases c : a = lo + n
    · rw [← c, h0]
      have := is_cn_le (f := f) (lo := lo) hw n
      omega
    · have := ih h1 (by omega)
      have := hw (f (lo + n))
      omega
theorem is_to_lt (R : Nat → Int32) {lo hi i : Nat} (h1 : lo ≤ i) (h2 : i < hi) (h3 : hi < 1000) : is_cn (is_w (is_K R) (is_id i)) is_id lo (hi - lo) < hi - lo := by
  refine is_cn_lt (a := i) (is_w_le _ _) ?_ (hi - lo) h1 (by omega)
  rw [is_w_id R (by omega) (by omega), if_neg (by omega)]
section
variable {p : Program} {l : Launch} {e : Env} {Rm : Room} {s : State} {m : MethodId} {args : Array Value} {below : List Frame} {meth : Method} {c : Code} {Q : State → Prop} {D : va_G} {A : Nat → Prop} {o r q : Nat} {d : ClassId} {R P : Nat → Int32}
set_option maxHeartbeats 4000000 in
set_option maxRecDepth 100000 in
theorem iw_order_in (hC : CallFix p m c cX1_order 6 s args lw_all RX1) (hK : va_K D iw_cl [(d, .int)] s) {a b i : Nat} {P : Nat → Int32} (hai : a ≤ i) (hib : i < b) (hb48 : b ≤ 48) {H : Heap} {locs : List Loc} (hw : iw_3 D A s 1 o r q d R P H locs)
    (kexit : ∀ (aj : Nat) (ls : Array Slot), aj = is_cn (is_w (is_K R) (is_id i)) is_id a (b - a) → lv_has ls 6 [(0, .ref o), (1, .int (iz_ ((a : Nat) : Int))), (2, .int (iz_ ((b : Nat) : Int))), (3, .int (iz_ ((i : Nat) : Int))), (4, .int (iz_ ((aj : Nat) : Int)))] → W p l e Rm s m args below meth c H locs 0 0 Q (F0 m 73 ls [])) :
    ∀ (t j aj : Nat), b + 1 ≤ a + j + t → a + j ≤ b → aj = is_cn (is_w (is_K R) (is_id i)) is_id a j → ∀ (ls : Array Slot), lv_has ls 6 [(0, .ref o), (1, .int (iz_ ((a : Nat) : Int))), (2, .int (iz_ ((b : Nat) : Int))), (3, .int (iz_ ((i : Nat) : Int))), (4, .int (iz_ ((aj : Nat) : Int))), (5, .int (iz_ (((a : Nat) : Int) + ((j : Nat) : Int))))] → W p l e Rm s m args below meth c H locs 0 0 Q (F0 m 13 ls []) := by
  have hx := hC.1
  have hb := hC.2.1
  have hown := hC.2.2.2.1
  have hts := hC.2.2.2.2
  obtain ⟨hP, hD, hS⟩ := hw
  intro t
  induction t with
  | zero =>
    intro j aj h1 h2
    omega
  | succ t ih =>
    intro j aj h1 h2 haj ls hl
    have hle := is_cn_le (w := is_w (is_K R) (is_id i)) (f := is_id) (lo := a) (is_w_le _ _) j
    refine lv_iload hx hb dX1_order_13 (lv_at hl 5 rfl) ?_
    refine lv_iload_n hx hb dX1_order_15 rfl (lv_at hl 2 rfl) ?_
    refine lz_icmp_ge (tgt := 73) hx hb dX1_order_16 (by decide) (iz_t (by omega)) (iz_t (by omega)) (fun c1 => ?_) (fun c2 => ?_)
    · obtain rfl : j = b - a := by omega
      exact kexit aj ls haj (lv_sub hl [0, 1, 2, 3, 4] rfl)
    · have hwj := is_w_id R (i := i) (k := a + j) (by omega) (by omega)
      have k64 : ∀ (z : Nat), z = is_w (is_K R) (is_id i) (is_id (a + j)) → W p l e Rm s m args below meth c H locs 0 0 Q (F0 m 64 ls [.int (iz_ ((z : Nat) : Int)), .int (iz_ ((aj : Nat) : Int))]) := by
        intro z hz
        refine lz_iadd (z := (((aj : Nat) : Int) + ((z : Nat) : Int))) hx hb dX1_order_64 (by omega) ?_
        refine lv_istore (lv' := [(4, .int (iz_ (((aj : Nat) : Int) + ((z : Nat) : Int)))), (0, .ref o), (1, .int (iz_ ((a : Nat) : Int))), (2, .int (iz_ ((b : Nat) : Int))), (3, .int (iz_ ((i : Nat) : Int))), (5, .int (iz_ (((a : Nat) : Int) + ((j : Nat) : Int))))]) hx hb dX1_order_65 hl (by decide) rfl (fun ls hl => ?_)
        refine lz_iinc (lv' := [(5, .int (iz_ (((a : Nat) : Int) + ((j + 1 : Nat) : Int)))), (4, .int (iz_ (((aj : Nat) : Int) + ((z : Nat) : Int)))), (0, .ref o), (1, .int (iz_ ((a : Nat) : Int))), (2, .int (iz_ ((b : Nat) : Int))), (3, .int (iz_ ((i : Nat) : Int)))]) (k := 5) (z := (((a : Nat) : Int) + ((j + 1 : Nat) : Int))) hx hb dX1_order_67 hl rfl (by omega) (by decide) rfl (fun ls hl => ?_)
        refine lv_goto (tgt := 13) hx hb dX1_order_70 (by decide) ?_
        refine ih (j + 1) (aj + z) (by omega) (by omega) ?_ ls (lv_sub hl [2, 3, 4, 5, 1, 0] rfl)
        rw [is_cn_s, hz, haj]
      refine lv_iload hx hb dX1_order_19 (lv_at hl 4 rfl) ?_
      refine lv_aload_n hx hb dX1_order_21 rfl (lv_at hl 0 rfl) ?_
      refine va_get (D := D) (ci := 1) (v := .ref r) (C := RX1) (T := TX1) (N := 2) hx hb hts in_X1 hown hK hP 0 rfl rfl 0 (by decide) (hts _ q127) (fun _ h9 => h9) rfl dX1_order_22 ?_
      refine lv_iload hx hb dX1_order_25 (lv_at hl 5 rfl) ?_
      refine lz_iald (k := a + j) hx hb hK hP 1 0 rfl rfl (by omega) (by omega) (by omega) dX1_order_27 ?_
      refine lv_aload_n hx hb dX1_order_28 rfl (lv_at hl 0 rfl) ?_
      refine va_get (D := D) (ci := 1) (v := .ref r) (C := RX1) (T := TX1) (N := 2) hx hb hts in_X1 hown hK hP 0 rfl rfl 0 (by decide) (hts _ q127) (fun _ h9 => h9) rfl dX1_order_29 ?_
      refine lv_iload_n hx hb dX1_order_32 rfl (lv_at hl 3 rfl) ?_
      refine lz_iald (k := i) hx hb hK hP 1 0 rfl rfl (by omega) (by omega) (by omega) dX1_order_33 ?_
      refine lz_icmp_lt (tgt := 59) hx hb dX1_order_34 (by decide) rfl rfl (fun c3 => ?_) (fun c4 => ?_)
      · refine lz_iconst hx hb dX1_order_59 ?_
        refine lv_goto (tgt := 64) hx hb dX1_order_60 (by decide) ?_
        exact k64 1 (by rw [hwj, if_pos (by omega)])
      · refine lv_aload_n hx hb dX1_order_37 rfl (lv_at hl 0 rfl) ?_
        refine va_get (D := D) (ci := 1) (v := .ref r) (C := RX1) (T := TX1) (N := 2) hx hb hts in_X1 hown hK hP 0 rfl rfl 0 (by decide) (hts _ q127) (fun _ h9 => h9) rfl dX1_order_38 ?_
        refine lv_iload hx hb dX1_order_41 (lv_at hl 5 rfl) ?_
        refine lz_iald (k := a + j) hx hb hK hP 1 0 rfl rfl (by omega) (by omega) (by omega) dX1_order_43 ?_
        refine lv_aload_n hx hb dX1_order_44 rfl (lv_at hl 0 rfl) ?_
        refine va_get (D := D) (ci := 1) (v := .ref r) (C := RX1) (T := TX1) (N := 2) hx hb hts in_X1 hown hK hP 0 rfl rfl 0 (by decide) (hts _ q127) (fun _ h9 => h9) rfl dX1_order_45 ?_
        refine lv_iload_n hx hb dX1_order_48 rfl (lv_at hl 3 rfl) ?_
        refine lz_iald (k := i) hx hb hK hP 1 0 rfl rfl (by omega) (by omega) (by omega) dX1_order_49 ?_
        refine lz_icmp_ne (tgt := 63) hx hb dX1_order_50 (by decide) rfl rfl (fun c5 => ?_) (fun c6 => ?_)
        · refine lz_iconst hx hb dX1_order_63 ?_
          exact k64 0 (by rw [hwj, if_neg (by omega)])
        · refine lv_iload hx hb dX1_order_53 (lv_at hl 5 rfl) ?_
          refine lv_iload_n hx hb dX1_order_55 rfl (lv_at hl 3 rfl) ?_
          refine lz_icmp_ge (tgt := 63) hx hb dX1_order_56 (by decide) (iz_t (by omega)) (iz_t (by omega)) (fun c7 => ?_) (fun c8 => ?_)
          · refine lz_iconst hx hb dX1_order_63 ?_
            exact k64 0 (by rw [hwj, if_neg (by omega)])
          · refine lz_iconst hx hb dX1_order_59 ?_
            refine lv_goto (tgt := 64) hx hb dX1_order_60 (by decide) ?_
            exact k64 1 (by rw [hwj, if_pos (by omega)])
set_option maxHeartbeats 4000000 in
set_option maxRecDepth 100000 in
theorem iw_order_out (hC : CallFix p m c cX1_order 6 s args lw_all RX1) (hK : va_K D iw_cl [(d, .int)] s) {a b : Nat} {P0 : Nat → Int32} (hab : a ≤ b) (hb48 : b ≤ 48)
    (kexit : ∀ (P : Nat → Int32) (H : Heap) (locs : List Loc) (ls : Array Slot), iw_3 D A s 1 o r q d R P H locs → is_M (is_K R) is_id P0 P a b b → W p l e Rm s m args below meth c H locs 0 0 Q (F0 m 89 ls [])) :
    ∀ (t i : Nat), b + 1 ≤ i + t → a ≤ i → i ≤ b → ∀ (P : Nat → Int32) (H : Heap) (locs : List Loc) (ls : Array Slot), iw_3 D A s 1 o r q d R P H locs → is_M (is_K R) is_id P0 P a b i → lv_has ls 6 [(0, .ref o), (1, .int (iz_ ((a : Nat) : Int))), (2, .int (iz_ ((b : Nat) : Int))), (3, .int (iz_ ((i : Nat) : Int)))] → W p l e Rm s m args below meth c H locs 0 0 Q (F0 m 2 ls []) := by
  have hx := hC.1
  have hb := hC.2.1
  have hown := hC.2.2.2.1
  have hts := hC.2.2.2.2
  intro t
  induction t with
  | zero =>
    intro i h1 h2 h3
    omega
  | succ t ih =>
    intro i h1 h2 h3 P H locs ls hw hM hl
    obtain ⟨hP, hD, hS⟩ := hw
    refine lv_iload_n hx hb dX1_order_2 rfl (lv_at hl 3 rfl) ?_
    refine lv_iload_n hx hb dX1_order_3 rfl (lv_at hl 2 rfl) ?_
    refine lz_icmp_ge (tgt := 89) hx hb dX1_order_4 (by decide) (iz_t (by omega)) (iz_t (by omega)) (fun c1 => ?_) (fun c2 => ?_)
    · obtain rfl : i = b := by omega
      exact kexit P H locs ls ⟨hP, hD, hS⟩ hM
    · refine lz_iconst hx hb dX1_order_7 ?_
      refine lv_istore (lv' := [(4, .int (iz_ ((0 : Int)))), (0, .ref o), (1, .int (iz_ ((a : Nat) : Int))), (2, .int (iz_ ((b : Nat) : Int))), (3, .int (iz_ ((i : Nat) : Int)))]) hx hb dX1_order_8 hl (by decide) rfl (fun ls hl => ?_)
      refine lv_iload_n hx hb dX1_order_10 rfl (lv_at hl 2 rfl) ?_
      refine lv_istore (lv' := [(5, .int (iz_ ((a : Nat) : Int))), (4, .int (iz_ ((0 : Int)))), (0, .ref o), (1, .int (iz_ ((a : Nat) : Int))), (2, .int (iz_ ((b : Nat) : Int))), (3, .int (iz_ ((i : Nat) : Int)))]) hx hb dX1_order_11 hl (by decide) rfl (fun ls hl => ?_)
      refine iw_order_in (t := b + 1) (j := 0) (aj := 0) (P := P) (i := i) (a := a) (b := b) hC hK h2 (by omega) hb48 ⟨hP, hD, hS⟩ (fun aj ls haj hl => ?_) (by omega) (by omega) rfl ls (lv_sub hl [2, 3, 4, 5, 1, 0] rfl)
      have hlt := is_to_lt R (lo := a) (hi := b) (i := i) h2 (by omega) (by omega)
      rw [← haj] at hlt
      refine lv_aload_n hx hb dX1_order_73 rfl (lv_at hl 0 rfl) ?_
      refine va_get (D := D) (ci := 1) (v := .ref q) (C := RX1) (T := TX1) (N := 2) hx hb hts in_X1 hown hK hP 0 rfl rfl 1 (by decide) (hts _ q128) (fun _ h9 => h9) rfl dX1_order_74 ?_
      refine lv_iload_n hx hb dX1_order_77 rfl (lv_at hl 1 rfl) ?_
      refine lv_iload hx hb dX1_order_78 (lv_at hl 4 rfl) ?_
      refine lz_iadd (z := (((a : Nat) : Int) + ((aj : Nat) : Int))) hx hb dX1_order_80 (by omega) ?_
      refine lv_iload_n hx hb dX1_order_81 rfl (lv_at hl 3 rfl) ?_
      refine lz_iast (k := a + aj) hx hb hK hP hD hS 2 0 rfl rfl (by omega) (by omega) (by omega) dX1_order_82 (fun H locs hP hD hS => ?_)
      have hP : va_P D iw_cl [(o, .inr (1, [.ref r, .ref q])), (r, .inl (d, 48, .inl R)), (q, .inl (d, 48, .inl (upd P (a + aj) (iz_ (i : Int)))))] H := hP
      have hD : va_D A [(o, .inr (1, [.ref r, .ref q])), (r, .inl (d, 48, .inl R)), (q, .inl (d, 48, .inl (upd P (a + aj) (iz_ (i : Int)))))] := hD
      refine lz_iinc (lv' := [(3, .int (iz_ ((i + 1 : Nat) : Int))), (0, .ref o), (1, .int (iz_ ((a : Nat) : Int))), (2, .int (iz_ ((b : Nat) : Int))), (4, .int (iz_ ((aj : Nat) : Int)))]) (k := 3) (z := ((i + 1 : Nat) : Int)) hx hb dX1_order_83 hl rfl (by omega) (by decide) rfl (fun ls hl => ?_)
      refine lv_goto (tgt := 2) hx hb dX1_order_86 (by decide) ?_
      have hM2 := is_M_st hM h2
      rw [is_to, ← haj] at hM2
      exact ih (i + 1) (by omega) (by omega) (by omega) _ H locs ls ⟨hP, hD, hS⟩ hM2 (lv_sub hl [1, 2, 3, 0] rfl)
end
set_option maxHeartbeats 4000000 in
set_option maxRecDepth 100000 in
/-- each k of [a, b) goes to its place -/
theorem met1_order (l : Launch) (D : va_G) (o r q : Nat) (d : ClassId) (R P : Nat → Int32) (a b : Nat) (hab : a ≤ b) (hb48 : b ≤ 48) : Met l yX1_order (ws_ yX1_order cX1_order 6 none) ({ frames := 0, cells := 0, slots := 0, locals := 0 }) (va_Pc [.ref o, .int (iz_ ((a : Nat) : Int)), .int (iz_ ((b : Nat) : Int))] (iw_B D iw_cl (iw_W 1 o r q d R P) [(d, .int)])) (va_Qv (fun u : (Nat → Int32) × (Nat → Int32) => u.1 = R ∧ is_M (is_K R) is_id P u.2 a b b) (fun u t => va_P D iw_cl (iw_W 1 o r q d u.1 u.2) t.heap) (iw_A (iw_W 1 o r q d R P))) 0 0 (iw_A (iw_W 1 o r q d R P)) := by
  refine Met.ofW (cc := cX1_order) (maxL := 6) (ret := none) (by decide) rfl ?_
  intro p e s m args below meth c s₁ B hml hv
  obtain ⟨rfl, hP, hK, hD0⟩ := hv
  have hx := B.exec
  have hb := B.bytes
  have hr := B.returns
  have hlocks := B.notSynchronized
  have hts0 := atoms_spec B.pre
  have hts : ∀ w ∈ lw_all, w.before _ s = true := fun w h => hts0 w (List.mem_cons_of_mem _ h)
  have hown : s.vm.findClass RX1 = some m.cls := findClass_of_methodNamed B.named
  have hC : CallFix p m c cX1_order 6 s _ lw_all RX1 := ⟨hx, hb, hml, hown, hts⟩
  have hD := iw_Dself hD0
  generalize hAe : iw_A (iw_W 1 o r q d R P) = A at hD ⊢
  have hS : va_S A s.heap s.heap [] := va_S.rf
  have hl := lv_entry ([.ref o, .int (iz_ ((a : Nat) : Int)), .int (iz_ ((b : Nat) : Int))]) (n := 6) (Nat.le_of_ble_eq_true rfl)
  rw [lg_entry_eq]
  generalize (lg_sl ([.ref o, .int (iz_ ((a : Nat) : Int)), .int (iz_ ((b : Nat) : Int))]) ++ List.replicate (6 - (lg_sl ([.ref o, .int (iz_ ((a : Nat) : Int)), .int (iz_ ((b : Nat) : Int))])).length) Slot.unset).toArray = ls at hl ⊢
  have hl : lv_has ls 6 [(0, .ref o), (1, .int (iz_ ((a : Nat) : Int))), (2, .int (iz_ ((b : Nat) : Int)))] := hl
  refine lv_iload_n hx hb dX1_order_0 rfl (lv_at hl 1 rfl) ?_
  refine lv_istore_n (lv' := [(3, .int (iz_ ((a : Nat) : Int))), (0, .ref o), (1, .int (iz_ ((a : Nat) : Int))), (2, .int (iz_ ((b : Nat) : Int)))]) hx hb dX1_order_1 rfl hl (by decide) rfl (fun ls hl => ?_)
  refine iw_order_out (t := 49) (i := a) (R := R) (P0 := P) (a := a) (b := b) hC hK hab hb48 (fun g H locs ls hw hM => ?_) (by omega) (by omega) hab P s.heap [] ls ⟨hP, hD, hS⟩ is_M_0 (lv_sub hl [1, 2, 3, 0] rfl)
  obtain ⟨hP, hD, hS⟩ := hw
  exact W.vret hx hb hr (fun t ht hW => ⟨⟨(R, g), rfl, ⟨rfl, hM⟩, by show va_P D iw_cl _ t.heap; rw [ht]; exact hP⟩, hS.F ht⟩) hS.2.2 dX1_order_89
set_option maxHeartbeats 4000000 in
set_option maxRecDepth 100000 in
/-- the reference puts the range in order -/
theorem met1_radix (l : Launch) (D : va_G) (o r q : Nat) (d : ClassId) (R P : Nat → Int32) (f t : Int32) : Met l yX1_radix (ws_ yX1_radix cX1_radix 4 none) ({ frames := 2, cells := 0, slots := 0, locals := 40 }) (va_Pc [.ref o, .int f, .int t] (iw_B D iw_cl (iw_W 1 o r q d R P) [(d, .int)])) (va_Qv (fun u : (Nat → Int32) × (Nat → Int32) => u.1 = R ∧ is_M (is_K R) is_id P u.2 (is_fm f) (is_tt (is_fm f) t) (is_tt (is_fm f) t)) (fun u t => va_P D iw_cl (iw_W 1 o r q d u.1 u.2) t.heap) (iw_A (iw_W 1 o r q d R P))) 0 0 (iw_A (iw_W 1 o r q d R P)) := by
  refine Met.ofW (cc := cX1_radix) (maxL := 4) (ret := none) (by decide) rfl ?_
  intro p e s m args below meth c s₁ B hml hv
  obtain ⟨rfl, hP, hK, hD0⟩ := hv
  have hx := B.exec
  have hb := B.bytes
  have hr := B.returns
  have hlocks := B.notSynchronized
  have hts0 := atoms_spec B.pre
  have hts : ∀ w ∈ lw_all, w.before _ s = true := fun w h => hts0 w (List.mem_cons_of_mem _ h)
  have hown : s.vm.findClass RX1 = some m.cls := findClass_of_methodNamed B.named
  have hC : CallFix p m c cX1_radix 4 s _ lw_all RX1 := ⟨hx, hb, hml, hown, hts⟩
  have hD := iw_Dself hD0
  generalize hAe : iw_A (iw_W 1 o r q d R P) = A at hD ⊢
  have hS : va_S A s.heap s.heap [] := va_S.rf
  have hl := lv_entry ([.ref o, .int f, .int t]) (n := 4) (Nat.le_of_ble_eq_true rfl)
  rw [lg_entry_eq]
  generalize (lg_sl ([.ref o, .int f, .int t]) ++ List.replicate (4 - (lg_sl ([.ref o, .int f, .int t])).length) Slot.unset).toArray = ls at hl ⊢
  have hl : lv_has ls 4 [(0, .ref o), (1, .int f), (2, .int t)] := hl
  refine lv_iload_n hx hb dX1_radix_0 rfl (lv_at hl 1 rfl) ?_
  refine vp_callSi (va_Run.run (va_runS (As := [.int f]) (rest := []) hC (met1_from l f) (va_cwS 1 hts (lw_S q159 q160 q6 q161) rfl rfl rfl (by decide +kernel) ⟨Nat.le_of_ble_eq_true rfl, Nat.le_of_ble_eq_true rfl⟩) ⟨iw_blind0, fun U hU hW => ⟨rfl, trivial⟩⟩ rfl rfl hl.1 rfl (lv_room (Nat.le_of_ble_eq_true rfl)) dX1_radix_1 ⟨Nat.zero_le _, Nat.zero_le _⟩)) (fun z hz => ?_)
  subst hz
  have hfm := is_fm_lt f
  refine lv_istore_n (lv' := [(3, .int (iz_ ((is_fm f : Nat) : Int))), (0, .ref o), (1, .int f), (2, .int t)]) hx hb dX1_radix_4 rfl hl (by decide) rfl (fun ls hl => ?_)
  refine lv_aload_n hx hb dX1_radix_5 rfl (lv_at hl 1 rfl) ?_
  refine lv_iload_n hx hb dX1_radix_6 rfl (lv_at hl 0 rfl) ?_
  refine lv_iload_n hx hb dX1_radix_7 rfl (lv_at hl 0 rfl) ?_
  refine lv_iload_n hx hb dX1_radix_8 rfl (lv_at hl 3 rfl) ?_
  refine vp_callSi (va_Run.run (va_runS (As := [.int (iz_ (is_fm f : Int)), .int t]) (rest := [.int (iz_ ((is_fm f : Nat) : Int)), .ref o]) hC (met1_to l (is_fm f) t hfm) (va_cwS 2 hts (lw_S q162 q163 q6 q164) rfl rfl rfl (by decide +kernel) ⟨Nat.le_of_ble_eq_true rfl, Nat.le_of_ble_eq_true rfl⟩) ⟨iw_blind0, fun U hU hW => ⟨rfl, trivial⟩⟩ rfl rfl hl.1 rfl (lv_room (Nat.le_of_ble_eq_true rfl)) dX1_radix_9 ⟨Nat.zero_le _, Nat.zero_le _⟩)) (fun z hz => ?_)
  subst hz
  have htt := is_tt_le t hfm
  refine iw_set3 (va_runV (As := [.int (iz_ (is_fm f : Int)), .int (iz_ (is_tt (is_fm f) t : Int))]) (rest := []) hC (met1_order l D o r q d R P (is_fm f) (is_tt (is_fm f) t) htt.1 htt.2) (cwV 2 hts (lw_V q165 q167 qs3 q6 q168) rfl rfl rfl (by decide +kernel) ⟨Nat.le_of_ble_eq_true rfl, Nat.le_of_ble_eq_true rfl⟩) ⟨iw_blind, va_recv hK hP (ci := 1) (q0 := 0) rfl rfl, fun U hU hW => iw_pre3 hK hP hD (q0 := 0) (q1 := 1) (q2 := 2) rfl rfl rfl (by decide) (by decide) (by decide) hU hW⟩ rfl rfl hl.1 rfl (lv_room (Nat.le_of_ble_eq_true rfl)) dX1_radix_12 ⟨Nat.zero_le _, Nat.zero_le _⟩) hP hD hS 0 1 2 rfl rfl rfl (by decide) (fun u H locs hu hP hD hS => ?_)
  exact W.vret hx hb hr (fun t ht hW => ⟨⟨u, rfl, hu, by show va_P D iw_cl _ t.heap; rw [ht]; exact hP⟩, hS.F ht⟩) hS.2.2 dX1_radix_15
set_option maxHeartbeats 4000000 in
set_option maxRecDepth 100000 in
/-- the reference puts the range in order -/
theorem met1_quick (l : Launch) (D : va_G) (o r q : Nat) (d : ClassId) (R P : Nat → Int32) (f t : Int32) : Met l yX1_quick (ws_ yX1_quick cX1_quick 4 none) ({ frames := 2, cells := 0, slots := 0, locals := 40 }) (va_Pc [.ref o, .int f, .int t] (iw_B D iw_cl (iw_W 1 o r q d R P) [(d, .int)])) (va_Qv (fun u : (Nat → Int32) × (Nat → Int32) => u.1 = R ∧ is_M (is_K R) is_id P u.2 (is_fm f) (is_tt (is_fm f) t) (is_tt (is_fm f) t)) (fun u t => va_P D iw_cl (iw_W 1 o r q d u.1 u.2) t.heap) (iw_A (iw_W 1 o r q d R P))) 0 0 (iw_A (iw_W 1 o r q d R P)) := by
  refine Met.ofW (cc := cX1_quick) (maxL := 4) (ret := none) (by decide) rfl ?_
  intro p e s m args below meth c s₁ B hml hv
  obtain ⟨rfl, hP, hK, hD0⟩ := hv
  have hx := B.exec
  have hb := B.bytes
  have hr := B.returns
  have hlocks := B.notSynchronized
  have hts0 := atoms_spec B.pre
  have hts : ∀ w ∈ lw_all, w.before _ s = true := fun w h => hts0 w (List.mem_cons_of_mem _ h)
  have hown : s.vm.findClass RX1 = some m.cls := findClass_of_methodNamed B.named
  have hC : CallFix p m c cX1_quick 4 s _ lw_all RX1 := ⟨hx, hb, hml, hown, hts⟩
  have hD := iw_Dself hD0
  generalize hAe : iw_A (iw_W 1 o r q d R P) = A at hD ⊢
  have hS : va_S A s.heap s.heap [] := va_S.rf
  have hl := lv_entry ([.ref o, .int f, .int t]) (n := 4) (Nat.le_of_ble_eq_true rfl)
  rw [lg_entry_eq]
  generalize (lg_sl ([.ref o, .int f, .int t]) ++ List.replicate (4 - (lg_sl ([.ref o, .int f, .int t])).length) Slot.unset).toArray = ls at hl ⊢
  have hl : lv_has ls 4 [(0, .ref o), (1, .int f), (2, .int t)] := hl
  refine lv_iload_n hx hb dX1_quick_0 rfl (lv_at hl 1 rfl) ?_
  refine vp_callSi (va_Run.run (va_runS (As := [.int f]) (rest := []) hC (met1_from l f) (va_cwS 1 hts (lw_S q159 q160 q6 q161) rfl rfl rfl (by decide +kernel) ⟨Nat.le_of_ble_eq_true rfl, Nat.le_of_ble_eq_true rfl⟩) ⟨iw_blind0, fun U hU hW => ⟨rfl, trivial⟩⟩ rfl rfl hl.1 rfl (lv_room (Nat.le_of_ble_eq_true rfl)) dX1_quick_1 ⟨Nat.zero_le _, Nat.zero_le _⟩)) (fun z hz => ?_)
  subst hz
  have hfm := is_fm_lt f
  refine lv_istore_n (lv' := [(3, .int (iz_ ((is_fm f : Nat) : Int))), (0, .ref o), (1, .int f), (2, .int t)]) hx hb dX1_quick_4 rfl hl (by decide) rfl (fun ls hl => ?_)
  refine lv_aload_n hx hb dX1_quick_5 rfl (lv_at hl 1 rfl) ?_
  refine lv_iload_n hx hb dX1_quick_6 rfl (lv_at hl 0 rfl) ?_
  refine lv_iload_n hx hb dX1_quick_7 rfl (lv_at hl 0 rfl) ?_
  refine lv_iload_n hx hb dX1_quick_8 rfl (lv_at hl 3 rfl) ?_
  refine vp_callSi (va_Run.run (va_runS (As := [.int (iz_ (is_fm f : Int)), .int t]) (rest := [.int (iz_ ((is_fm f : Nat) : Int)), .ref o]) hC (met1_to l (is_fm f) t hfm) (va_cwS 2 hts (lw_S q162 q163 q6 q164) rfl rfl rfl (by decide +kernel) ⟨Nat.le_of_ble_eq_true rfl, Nat.le_of_ble_eq_true rfl⟩) ⟨iw_blind0, fun U hU hW => ⟨rfl, trivial⟩⟩ rfl rfl hl.1 rfl (lv_room (Nat.le_of_ble_eq_true rfl)) dX1_quick_9 ⟨Nat.zero_le _, Nat.zero_le _⟩)) (fun z hz => ?_)
  subst hz
  have htt := is_tt_le t hfm
  refine iw_set3 (va_runV (As := [.int (iz_ (is_fm f : Int)), .int (iz_ (is_tt (is_fm f) t : Int))]) (rest := []) hC (met1_order l D o r q d R P (is_fm f) (is_tt (is_fm f) t) htt.1 htt.2) (cwV 2 hts (lw_V q165 q167 qs3 q6 q168) rfl rfl rfl (by decide +kernel) ⟨Nat.le_of_ble_eq_true rfl, Nat.le_of_ble_eq_true rfl⟩) ⟨iw_blind, va_recv hK hP (ci := 1) (q0 := 0) rfl rfl, fun U hU hW => iw_pre3 hK hP hD (q0 := 0) (q1 := 1) (q2 := 2) rfl rfl rfl (by decide) (by decide) (by decide) hU hW⟩ rfl rfl hl.1 rfl (lv_room (Nat.le_of_ble_eq_true rfl)) dX1_quick_12 ⟨Nat.zero_le _, Nat.zero_le _⟩) hP hD hS 0 1 2 rfl rfl rfl (by decide) (fun u H locs hu hP hD hS => ?_)
  exact W.vret hx hb hr (fun t ht hW => ⟨⟨u, rfl, hu, by show va_P D iw_cl _ t.heap; rw [ht]; exact hP⟩, hS.F ht⟩) hS.2.2 dX1_quick_15
end
section
/-! THE CONSTRUCTORS: two new arrays of 48, then anew -/
set_option maxHeartbeats 4000000 in
set_option maxRecDepth 100000 in
/-- a new object: a row of zeros, each place holds itself -/
theorem met0_init (l : Launch) (D : va_G) (o sz : Nat) (d : ClassId) : Met l yX0_init (ws_ yX0_init cX0_init 1 none) ({ frames := 1, cells := 2, slots := 96, locals := 32 }) (va_Pc [.ref o] (fun U => U.heap.size = sz ∧ va_P D iw_cl [(o, .inr (0, [.null, .null]))] U.heap ∧ va_K D iw_cl [(d, .int)] U ∧ va_D (fun _ => True) [(o, .inr (0, [.null, .null]))])) (va_Qv (fun _ : Nat × Nat => True) (fun u t => va_P D iw_cl (iw_W 0 o u.1 u.2 d (fun _ => 0) (is_up (fun _ => 0) 0 48)) t.heap ∧ va_D (va_A [(o, .inr (0, [.null, .null]))] sz) (iw_W 0 o u.1 u.2 d (fun _ => 0) (is_up (fun _ => 0) 0 48))) (va_A [(o, .inr (0, [.null, .null]))] sz)) 2 96 (va_A [(o, .inr (0, [.null, .null]))] sz) := by
  refine Met.ofW (cc := cX0_init) (maxL := 1) (ret := none) (by decide) rfl ?_
  intro p e s m args below meth c s₁ B hml hv
  obtain ⟨rfl, hsz, hP, hK, hD0⟩ := hv
  have hx := B.exec
  have hb := B.bytes
  have hr := B.returns
  have hlocks := B.notSynchronized
  have hts0 := atoms_spec B.pre
  have hts : ∀ w ∈ lw_all, w.before _ s = true := fun w h => hts0 w (List.mem_cons_of_mem _ h)
  have hown : s.vm.findClass RX0 = some m.cls := findClass_of_methodNamed B.named
  have hin : meth.name = "<init>" := (name_of_methodNamed B.named B.method).1
  have hC : CallFix p m c cX0_init 1 s _ lw_all RX0 := ⟨hx, hb, hml, hown, hts⟩
  subst hsz
  have hD := hD0.self (sz := s.heap.size)
  generalize hAe : va_A [(o, .inr (0, [.null, .null]))] s.heap.size = A at hD ⊢
  have hA : ∀ q : Nat, s.heap.size ≤ q → A q := fun q h => by rw [← hAe]; exact Or.inr h
  have hS : va_S A s.heap s.heap [] := va_S.rf
  have hl := lv_entry ([.ref o]) (n := 1) (Nat.le_of_ble_eq_true rfl)
  rw [lg_entry_eq]
  generalize (lg_sl ([.ref o]) ++ List.replicate (1 - (lg_sl ([.ref o])).length) Slot.unset).toArray = ls at hl ⊢
  have hl : lv_has ls 1 [(0, .ref o)] := hl
  refine lv_aload_n hx hb dX0_init_0 rfl (lv_at hl 0 rfl) ?_
  refine W.objInit hx hb hown (hts _ q17) (hts _ q18) (hts _ q19) rfl (by rw [hml]; exact hl.1) rfl dX0_init_1 (Nat.le_of_ble_eq_true rfl) (Nat.le_of_ble_eq_true rfl) ?_
  refine W.eq (g2 := F0 m 4 ls []) rfl ?_
  refine lv_aload_n hx hb dX0_init_4 rfl (lv_at hl 0 rfl) ?_
  refine lv_bipush (v := iz_ (48 : Int)) hx hb dX0_init_5 (by decide +kernel) ?_
  refine va_newa (atype := .int) (ty := .int) (N' := 48) (a0 := (48, .inl (fun _ => 0))) hx hb (hts _ q31) rfl hK hP hD hS hA (fun _ => rfl) (by decide +kernel) (by decide +kernel) (by decide) (Nat.le_of_ble_eq_true rfl) (Nat.le_of_ble_eq_true rfl) dX0_init_7 (fun r cA H hK hP hD hS => ?_)
  have hcd : d = cA := Option.some.inj ((show s.vm.findClass ("[" ++ FieldType.int.toString) = some d from (hK.2 0 _ rfl).2).symm.trans (show s.vm.findClass ("[" ++ FieldType.int.toString) = some cA from (hK.2 1 _ rfl).2))
  subst hcd
  have hK : va_K D iw_cl [(d, .int)] s := hK.sub [0] rfl
  have hP : va_P D iw_cl [(o, .inr (0, [.null, .null])), (r, .inl (d, 48, .inl (fun _ => 0)))] H := hP
  have hD : va_D A [(o, .inr (0, [.null, .null])), (r, .inl (d, 48, .inl (fun _ => 0)))] := hD
  refine va_putF (D := D) (ci := 0) (v := .ref r) (ty := .array .int) (C := RX0) (T := TX0) (N := 2) hx hb hts in_X0 tyX0 tyX0_ok nmX0 hown hK hP hD hS 0 rfl rfl 0 (by decide) (hts _ q24) (fun _ h9 => h9) rfl hin rfl (by decide +kernel) rfl rfl (Nat.le_of_ble_eq_true rfl) dX0_init_9 (fun H locs hP hD hS => ?_)
  have hP : va_P D iw_cl [(o, .inr (0, [.ref r, .null])), (r, .inl (d, 48, .inl (fun _ => 0)))] H := hP
  have hD : va_D A [(o, .inr (0, [.ref r, .null])), (r, .inl (d, 48, .inl (fun _ => 0)))] := hD
  refine lv_aload_n hx hb dX0_init_12 rfl (lv_at hl 0 rfl) ?_
  refine lv_bipush (v := iz_ (48 : Int)) hx hb dX0_init_13 (by decide +kernel) ?_
  refine va_newa (atype := .int) (ty := .int) (N' := 48) (a0 := (48, .inl (fun _ => 0))) hx hb (hts _ q31) rfl hK hP hD hS hA (fun _ => rfl) (by decide +kernel) (by decide +kernel) (by decide) (Nat.le_of_ble_eq_true rfl) (Nat.le_of_ble_eq_true rfl) dX0_init_15 (fun q cA H hK hP hD hS => ?_)
  have hcd : d = cA := Option.some.inj ((show s.vm.findClass ("[" ++ FieldType.int.toString) = some d from (hK.2 0 _ rfl).2).symm.trans (show s.vm.findClass ("[" ++ FieldType.int.toString) = some cA from (hK.2 1 _ rfl).2))
  subst hcd
  have hK : va_K D iw_cl [(d, .int)] s := hK.sub [0] rfl
  have hP : va_P D iw_cl [(o, .inr (0, [.ref r, .null])), (r, .inl (d, 48, .inl (fun _ => 0))), (q, .inl (d, 48, .inl (fun _ => 0)))] H := hP
  have hD : va_D A [(o, .inr (0, [.ref r, .null])), (r, .inl (d, 48, .inl (fun _ => 0))), (q, .inl (d, 48, .inl (fun _ => 0)))] := hD
  refine va_putF (D := D) (ci := 0) (v := .ref q) (ty := .array .int) (C := RX0) (T := TX0) (N := 2) hx hb hts in_X0 tyX0 tyX0_ok nmX0 hown hK hP hD hS 0 rfl rfl 1 (by decide) (hts _ q25) (fun _ h9 => h9) rfl hin rfl (by decide +kernel) rfl rfl (Nat.le_of_ble_eq_true rfl) dX0_init_17 (fun H locs hP hD hS => ?_)
  have hP : va_P D iw_cl [(o, .inr (0, [.ref r, .ref q])), (r, .inl (d, 48, .inl (fun _ => 0))), (q, .inl (d, 48, .inl (fun _ => 0)))] H := hP
  have hD : va_D A [(o, .inr (0, [.ref r, .ref q])), (r, .inl (d, 48, .inl (fun _ => 0))), (q, .inl (d, 48, .inl (fun _ => 0)))] := hD
  refine lv_aload_n hx hb dX0_init_20 rfl (lv_at hl 0 rfl) ?_
  refine iw_set3 (va_runV (As := []) (rest := []) hC (met0_anew l D o r q d (fun _ => 0) (fun _ => 0)) (cwV 0 hts (lw_V q20 q21 q22 q5 q23) rfl rfl rfl (by decide +kernel) ⟨Nat.le_of_ble_eq_true rfl, Nat.le_of_ble_eq_true rfl⟩) ⟨iw_blind, va_recv hK hP (ci := 0) (q0 := 0) rfl rfl, fun U hU hW => iw_pre3 hK hP hD (q0 := 0) (q1 := 1) (q2 := 2) rfl rfl rfl (by decide) (by decide) (by decide) hU hW⟩ rfl rfl hl.1 rfl (lv_room (Nat.le_of_ble_eq_true rfl)) dX0_init_21 ⟨Nat.le_of_ble_eq_true rfl, Nat.le_of_ble_eq_true rfl⟩) hP hD hS 0 1 2 rfl rfl rfl (by decide) (fun u H locs hu hP hD hS => ?_)
  subst hu
  refine W.widen (k := 2) (n := 96) (Nat.le_of_ble_eq_true rfl) (Nat.le_of_ble_eq_true rfl) ?_
  exact W.vret hx hb hr (fun t ht hW => ⟨⟨(r, q), rfl, trivial, by rw [ht]; exact hP, hD⟩, hS.F ht⟩) hS.2.2 dX0_init_24
set_option maxHeartbeats 4000000 in
set_option maxRecDepth 100000 in
/-- a new object: a row of zeros, each place holds itself -/
theorem met1_init (l : Launch) (D : va_G) (o sz : Nat) (d : ClassId) : Met l yX1_init (ws_ yX1_init cX1_init 1 none) ({ frames := 1, cells := 2, slots := 96, locals := 32 }) (va_Pc [.ref o] (fun U => U.heap.size = sz ∧ va_P D iw_cl [(o, .inr (1, [.null, .null]))] U.heap ∧ va_K D iw_cl [(d, .int)] U ∧ va_D (fun _ => True) [(o, .inr (1, [.null, .null]))])) (va_Qv (fun _ : Nat × Nat => True) (fun u t => va_P D iw_cl (iw_W 1 o u.1 u.2 d (fun _ => 0) (is_up (fun _ => 0) 0 48)) t.heap ∧ va_D (va_A [(o, .inr (1, [.null, .null]))] sz) (iw_W 1 o u.1 u.2 d (fun _ => 0) (is_up (fun _ => 0) 0 48))) (va_A [(o, .inr (1, [.null, .null]))] sz)) 2 96 (va_A [(o, .inr (1, [.null, .null]))] sz) := by
  refine Met.ofW (cc := cX1_init) (maxL := 1) (ret := none) (by decide) rfl ?_
  intro p e s m args below meth c s₁ B hml hv
  obtain ⟨rfl, hsz, hP, hK, hD0⟩ := hv
  have hx := B.exec
  have hb := B.bytes
  have hr := B.returns
  have hlocks := B.notSynchronized
  have hts0 := atoms_spec B.pre
  have hts : ∀ w ∈ lw_all, w.before _ s = true := fun w h => hts0 w (List.mem_cons_of_mem _ h)
  have hown : s.vm.findClass RX1 = some m.cls := findClass_of_methodNamed B.named
  have hin : meth.name = "<init>" := (name_of_methodNamed B.named B.method).1
  have hC : CallFix p m c cX1_init 1 s _ lw_all RX1 := ⟨hx, hb, hml, hown, hts⟩
  subst hsz
  have hD := hD0.self (sz := s.heap.size)
  generalize hAe : va_A [(o, .inr (1, [.null, .null]))] s.heap.size = A at hD ⊢
  have hA : ∀ q : Nat, s.heap.size ≤ q → A q := fun q h => by rw [← hAe]; exact Or.inr h
  have hS : va_S A s.heap s.heap [] := va_S.rf
  have hl := lv_entry ([.ref o]) (n := 1) (Nat.le_of_ble_eq_true rfl)
  rw [lg_entry_eq]
  generalize (lg_sl ([.ref o]) ++ List.replicate (1 - (lg_sl ([.ref o])).length) Slot.unset).toArray = ls at hl ⊢
  have hl : lv_has ls 1 [(0, .ref o)] := hl
  refine lv_aload_n hx hb dX1_init_0 rfl (lv_at hl 0 rfl) ?_
  refine W.objInit hx hb hown (hts _ q122) (hts _ q18) (hts _ q19) rfl (by rw [hml]; exact hl.1) rfl dX1_init_1 (Nat.le_of_ble_eq_true rfl) (Nat.le_of_ble_eq_true rfl) ?_
  refine W.eq (g2 := F0 m 4 ls []) rfl ?_
  refine lv_aload_n hx hb dX1_init_4 rfl (lv_at hl 0 rfl) ?_
  refine lv_bipush (v := iz_ (48 : Int)) hx hb dX1_init_5 (by decide +kernel) ?_
  refine va_newa (atype := .int) (ty := .int) (N' := 48) (a0 := (48, .inl (fun _ => 0))) hx hb (hts _ q31) rfl hK hP hD hS hA (fun _ => rfl) (by decide +kernel) (by decide +kernel) (by decide) (Nat.le_of_ble_eq_true rfl) (Nat.le_of_ble_eq_true rfl) dX1_init_7 (fun r cA H hK hP hD hS => ?_)
  have hcd : d = cA := Option.some.inj ((show s.vm.findClass ("[" ++ FieldType.int.toString) = some d from (hK.2 0 _ rfl).2).symm.trans (show s.vm.findClass ("[" ++ FieldType.int.toString) = some cA from (hK.2 1 _ rfl).2))
  subst hcd
  have hK : va_K D iw_cl [(d, .int)] s := hK.sub [0] rfl
  have hP : va_P D iw_cl [(o, .inr (1, [.null, .null])), (r, .inl (d, 48, .inl (fun _ => 0)))] H := hP
  have hD : va_D A [(o, .inr (1, [.null, .null])), (r, .inl (d, 48, .inl (fun _ => 0)))] := hD
  refine va_putF (D := D) (ci := 1) (v := .ref r) (ty := .array .int) (C := RX1) (T := TX1) (N := 2) hx hb hts in_X1 tyX1 tyX1_ok nmX1 hown hK hP hD hS 0 rfl rfl 0 (by decide) (hts _ q127) (fun _ h9 => h9) rfl hin rfl (by decide +kernel) rfl rfl (Nat.le_of_ble_eq_true rfl) dX1_init_9 (fun H locs hP hD hS => ?_)
  have hP : va_P D iw_cl [(o, .inr (1, [.ref r, .null])), (r, .inl (d, 48, .inl (fun _ => 0)))] H := hP
  have hD : va_D A [(o, .inr (1, [.ref r, .null])), (r, .inl (d, 48, .inl (fun _ => 0)))] := hD
  refine lv_aload_n hx hb dX1_init_12 rfl (lv_at hl 0 rfl) ?_
  refine lv_bipush (v := iz_ (48 : Int)) hx hb dX1_init_13 (by decide +kernel) ?_
  refine va_newa (atype := .int) (ty := .int) (N' := 48) (a0 := (48, .inl (fun _ => 0))) hx hb (hts _ q31) rfl hK hP hD hS hA (fun _ => rfl) (by decide +kernel) (by decide +kernel) (by decide) (Nat.le_of_ble_eq_true rfl) (Nat.le_of_ble_eq_true rfl) dX1_init_15 (fun q cA H hK hP hD hS => ?_)
  have hcd : d = cA := Option.some.inj ((show s.vm.findClass ("[" ++ FieldType.int.toString) = some d from (hK.2 0 _ rfl).2).symm.trans (show s.vm.findClass ("[" ++ FieldType.int.toString) = some cA from (hK.2 1 _ rfl).2))
  subst hcd
  have hK : va_K D iw_cl [(d, .int)] s := hK.sub [0] rfl
  have hP : va_P D iw_cl [(o, .inr (1, [.ref r, .null])), (r, .inl (d, 48, .inl (fun _ => 0))), (q, .inl (d, 48, .inl (fun _ => 0)))] H := hP
  have hD : va_D A [(o, .inr (1, [.ref r, .null])), (r, .inl (d, 48, .inl (fun _ => 0))), (q, .inl (d, 48, .inl (fun _ => 0)))] := hD
  refine va_putF (D := D) (ci := 1) (v := .ref q) (ty := .array .int) (C := RX1) (T := TX1) (N := 2) hx hb hts in_X1 tyX1 tyX1_ok nmX1 hown hK hP hD hS 0 rfl rfl 1 (by decide) (hts _ q128) (fun _ h9 => h9) rfl hin rfl (by decide +kernel) rfl rfl (Nat.le_of_ble_eq_true rfl) dX1_init_17 (fun H locs hP hD hS => ?_)
  have hP : va_P D iw_cl [(o, .inr (1, [.ref r, .ref q])), (r, .inl (d, 48, .inl (fun _ => 0))), (q, .inl (d, 48, .inl (fun _ => 0)))] H := hP
  have hD : va_D A [(o, .inr (1, [.ref r, .ref q])), (r, .inl (d, 48, .inl (fun _ => 0))), (q, .inl (d, 48, .inl (fun _ => 0)))] := hD
  refine lv_aload_n hx hb dX1_init_20 rfl (lv_at hl 0 rfl) ?_
  refine iw_set3 (va_runV (As := []) (rest := []) hC (met1_anew l D o r q d (fun _ => 0) (fun _ => 0)) (cwV 0 hts (lw_V q123 q124 q125 q6 q126) rfl rfl rfl (by decide +kernel) ⟨Nat.le_of_ble_eq_true rfl, Nat.le_of_ble_eq_true rfl⟩) ⟨iw_blind, va_recv hK hP (ci := 1) (q0 := 0) rfl rfl, fun U hU hW => iw_pre3 hK hP hD (q0 := 0) (q1 := 1) (q2 := 2) rfl rfl rfl (by decide) (by decide) (by decide) hU hW⟩ rfl rfl hl.1 rfl (lv_room (Nat.le_of_ble_eq_true rfl)) dX1_init_21 ⟨Nat.le_of_ble_eq_true rfl, Nat.le_of_ble_eq_true rfl⟩) hP hD hS 0 1 2 rfl rfl rfl (by decide) (fun u H locs hu hP hD hS => ?_)
  subst hu
  refine W.widen (k := 2) (n := 96) (Nat.le_of_ble_eq_true rfl) (Nat.le_of_ble_eq_true rfl) ?_
  exact W.vret hx hb hr (fun t ht hW => ⟨⟨(r, q), rfl, trivial, by rw [ht]; exact hP, hD⟩, hS.F ht⟩) hS.2.2 dX1_init_24
end
section
/-! THE LAW: its loop over the script; both objects hold the same row and the same places -/
section
variable {p : Program} {l : Launch} {e : Env} {R : Room} {s : State} {m : MethodId} {args : Array Value} {below : List Frame} {meth : Method} {c : Code} {H : Heap} {locs : List Loc} {cells slots : Nat} {Q : State → Prop}
variable {cc : ByteArray} {pc : Nat} {ls : Array Slot} {rest : List Value} {A : Nat → Prop} {H0 : Heap}
theorem lz_sld (hexec : p.tables.exec = Jvm.exec) (hb : c.code = cc) {b L : Nat} {xs : Nat → Int32} (hX : va_X b L xs s H0) (hbl : b < H0.size) (hbA : ¬ A b) (hS : va_S A H0 H locs) {z : Int} {k : Nat} (hz : z = (k : Int)) (hk : k < L) (h2 : k < 2147483648) (hdg : decode cc pc = .ok (.iaload, 1))
    (kk : W p l e R s m args below meth c H locs cells slots Q (F0 m (pc + 1) ls (.int (xs k) :: rest))) : W p l e R s m args below meth c H locs cells slots Q (F0 m pc ls (.int (iz_ z) :: .ref b :: rest)) :=
  va_sld hexec hb hX hbl hbA hS (iz_in hz hk h2) hdg (by rw [iz_cl hz h2]; exact kk)
theorem lz_slen (hexec : p.tables.exec = Jvm.exec) (hb : c.code = cc) {b L : Nat} {xs : Nat → Int32} (hX : va_X b L xs s H0) (hbl : b < H0.size) (hbA : ¬ A b) (hS : va_S A H0 H locs) (hdg : decode cc pc = .ok (.arraylength, 1))
    (kk : W p l e R s m args below meth c H locs cells slots Q (F0 m (pc + 1) ls (.int (iz_ (L : Int)) :: rest))) : W p l e R s m args below meth c H locs cells slots Q (F0 m pc ls (.ref b :: rest)) :=
  va_slen hexec hb hX hbl hbA hS hdg (by rw [show Int32.ofNat L = iz_ (L : Int) from iz_nI L]; exact kk)
theorem lz_and7 (hexec : p.tables.exec = Jvm.exec) (hb : c.code = cc) {x : Int32} (hdg : decode cc pc = .ok (.iand, 1)) (kk : ∀ k : Nat, k < 8 → W p l e R s m args below meth c H locs cells slots Q (F0 m (pc + 1) ls (.int (nI k) :: rest))) : W p l e R s m args below meth c H locs cells slots Q (F0 m pc ls (.int (iz_ (7 : Int)) :: .int x :: rest)) :=
  lv_iand hexec hb hdg (by rw [pk_and x (m := iz_ (7 : Int)) 3 (by decide +kernel)]; exact kk _ (Nat.mod_lt _ (by decide)))
end
/-- what the desk and the reference make of a range is one and the same -/
theorem law_same {R P g h : Nat → Int32} {f t : Int32} (h1 : is_R (is_fm f) (is_tt (is_fm f) t) (is_up P (is_fm f) (is_tt (is_fm f) t)) g ∧ is_L (is_K R) g (is_fm f) (is_tt (is_fm f) t)) (h2 : is_M (is_K R) is_id P h (is_fm f) (is_tt (is_fm f) t) (is_tt (is_fm f) t)) : g = h := by
  have htt := is_tt_le t (is_fm_lt f)
  refine is_same (id_ := is_id) (p0 := P) (f := is_up P (is_fm f) (is_tt (is_fm f) t)) (fun q r a b c d e => is_id_inj (by omega) (by omega) e) (fun q a b => ?_) (fun q a => ?_) h1.1 h1.2 h2
  · unfold is_up
    rw [if_pos ⟨a, b⟩]
    rfl
  · unfold is_up
    rw [if_neg (by omega)]
section
variable {p : Program} {l : Launch} {e : Env} {s : State} {m : MethodId} {args : Array Value} {below : List Frame} {meth : Method} {c : Code} {Q : State → Prop} {D : va_G} {A : Nat → Prop} {o1 r1 q1 o2 r2 q2 b L : Nat} {d : ClassId} {xs : Nat → Int32}
set_option maxHeartbeats 4000000 in
set_option maxRecDepth 100000 in
theorem law_loop (hC : CallFix p m c cL_law 4 s args lw_all "IndirectSortDeskLaw") (hK : va_K D iw_cl [(d, .int)] s) (hX : va_X b L xs s s.heap) (hbl : b < s.heap.size) (hbA : ¬ A b) (hL : L ≤ 288)
    (kexit : ∀ (H : Heap) (locs : List Loc) (ls : Array Slot), va_S A s.heap H locs → W p l e room_1 s m args below meth c H locs 6 196 Q (F0 m 263 ls [])) :
    ∀ (t i : Nat), L + 1 ≤ i + t → i ≤ L + 6 → ∀ (R P : Nat → Int32) (H : Heap) (locs : List Loc) (ls : Array Slot), va_P D iw_cl [(o1, .inr (0, [.ref r1, .ref q1])), (r1, .inl (d, 48, .inl R)), (q1, .inl (d, 48, .inl P)), (o2, .inr (1, [.ref r2, .ref q2])), (r2, .inl (d, 48, .inl R)), (q2, .inl (d, 48, .inl P))] H → va_D A [(o1, .inr (0, [.ref r1, .ref q1])), (r1, .inl (d, 48, .inl R)), (q1, .inl (d, 48, .inl P)), (o2, .inr (1, [.ref r2, .ref q2])), (r2, .inl (d, 48, .inl R)), (q2, .inl (d, 48, .inl P))] → va_S A s.heap H locs → lv_has ls 4 [(0, .ref b), (1, .ref o1), (2, .ref o2), (3, .int (iz_ ((i : Nat) : Int)))] → W p l e room_1 s m args below meth c H locs 6 196 Q (F0 m 18 ls []) := by
  have hx := hC.1
  have hb := hC.2.1
  have hts := hC.2.2.2.2
  intro t
  induction t with
  | zero =>
    intro i h1 h2 R P H locs ls hP hD hS hl
    refine lv_iload_n hx hb dL_law_18 rfl (lv_at hl 3 rfl) ?_
    refine lv_aload_n hx hb dL_law_19 rfl (lv_at hl 0 rfl) ?_
    refine lz_slen hx hb hX hbl hbA hS dL_law_20 ?_
    refine lv_bipush (v := iz_ ((6 : Int))) hx hb dL_law_21 (by decide +kernel) ?_
    refine lz_isub (z := (((L : Nat) : Int) - 6)) hx hb dL_law_23 (by omega) ?_
    refine lz_icmp_gt (tgt := 263) hx hb dL_law_24 (by decide) (iz_t (by omega)) (iz_t (by omega)) (fun c1 => ?_) (fun c2 => ?_)
    · exact kexit H locs ls hS
    · omega
  | succ t ih =>
    intro i h1 h2 R P H locs ls hP hD hS hl
    refine lv_iload_n hx hb dL_law_18 rfl (lv_at hl 3 rfl) ?_
    refine lv_aload_n hx hb dL_law_19 rfl (lv_at hl 0 rfl) ?_
    refine lz_slen hx hb hX hbl hbA hS dL_law_20 ?_
    refine lv_bipush (v := iz_ ((6 : Int))) hx hb dL_law_21 (by decide +kernel) ?_
    refine lz_isub (z := (((L : Nat) : Int) - 6)) hx hb dL_law_23 (by omega) ?_
    refine lz_icmp_gt (tgt := 263) hx hb dL_law_24 (by decide) (iz_t (by omega)) (iz_t (by omega)) (fun c1 => ?_) (fun c2 => ?_)
    · exact kexit H locs ls hS
    · have k257 : ∀ (R P : Nat → Int32) (H : Heap) (locs : List Loc) (ls : Array Slot), va_P D iw_cl [(o1, .inr (0, [.ref r1, .ref q1])), (r1, .inl (d, 48, .inl R)), (q1, .inl (d, 48, .inl P)), (o2, .inr (1, [.ref r2, .ref q2])), (r2, .inl (d, 48, .inl R)), (q2, .inl (d, 48, .inl P))] H → va_D A [(o1, .inr (0, [.ref r1, .ref q1])), (r1, .inl (d, 48, .inl R)), (q1, .inl (d, 48, .inl P)), (o2, .inr (1, [.ref r2, .ref q2])), (r2, .inl (d, 48, .inl R)), (q2, .inl (d, 48, .inl P))] → va_S A s.heap H locs → lv_has ls 4 [(0, .ref b), (1, .ref o1), (2, .ref o2), (3, .int (iz_ ((i : Nat) : Int)))] → W p l e room_1 s m args below meth c H locs 6 196 Q (F0 m 257 ls []) := by
        intro R P H locs ls hP hD hS hl
        refine lz_iinc (lv' := [(3, .int (iz_ ((i + 6 : Nat) : Int))), (0, .ref b), (1, .ref o1), (2, .ref o2)]) (k := 3) (z := ((i + 6 : Nat) : Int)) hx hb dL_law_257 hl rfl (by omega) (by decide) rfl (fun ls hl => ?_)
        refine lv_goto (tgt := 18) hx hb dL_law_260 (by decide) ?_
        exact ih (i + 6) (by omega) (by omega) R P H locs ls hP hD hS (lv_sub hl [1, 2, 3, 0] rfl)
      refine lv_aload_n hx hb dL_law_27 rfl (lv_at hl 0 rfl) ?_
      refine lv_iload_n hx hb dL_law_28 rfl (lv_at hl 3 rfl) ?_
      refine lz_sld (k := i) hx hb hX hbl hbA hS (by omega) (by omega) (by omega) dL_law_29 ?_
      refine lv_bipush (v := iz_ (7 : Int)) hx hb dL_law_30 (by decide +kernel) ?_
      refine lz_and7 hx hb dL_law_32 (fun k hk => ?_)
      rcases (show k = 0 ∨ k = 1 ∨ k = 2 ∨ k = 3 ∨ k = 4 ∨ k = 5 ∨ k = 6 ∨ k = 7 by omega) with rfl | rfl | rfl | rfl | rfl | rfl | rfl | rfl
      · refine lv_tableIn (off := 43) (tgt := 76) hx hb dL_law_33 (by decide +kernel) (by decide +kernel) (by decide +kernel) (by decide) ?_
        refine lv_aload_n hx hb dL_law_76 rfl (lv_at hl 1 rfl) ?_
        refine iw_set3 (va_runV (As := []) (rest := []) hC (met0_anew l D o1 r1 q1 d R P) (cwV 0 hts (lw_V q32 q21 q22 q5 q23) rfl rfl rfl (by decide +kernel) ⟨Nat.le_of_ble_eq_true rfl, Nat.le_of_ble_eq_true rfl⟩) ⟨iw_blind, va_recv hK hP (ci := 0) (q0 := 0) rfl rfl, fun U hU hW => iw_pre3 hK hP hD (q0 := 0) (q1 := 1) (q2 := 2) rfl rfl rfl (by decide) (by decide) (by decide) hU hW⟩ rfl rfl hl.1 rfl (lv_room (Nat.le_of_ble_eq_true rfl)) dL_law_77 ⟨Nat.le_of_ble_eq_true rfl, Nat.le_of_ble_eq_true rfl⟩) hP hD hS 0 1 2 rfl rfl rfl (by decide) (fun u0 H locs hu0 hP hD hS => ?_)
        subst hu0
        have hP : va_P D iw_cl [(o1, .inr (0, [.ref r1, .ref q1])), (r1, .inl (d, 48, .inl R)), (q1, .inl (d, 48, .inl (is_up P 0 48))), (o2, .inr (1, [.ref r2, .ref q2])), (r2, .inl (d, 48, .inl R)), (q2, .inl (d, 48, .inl P))] H := hP
        have hD : va_D A [(o1, .inr (0, [.ref r1, .ref q1])), (r1, .inl (d, 48, .inl R)), (q1, .inl (d, 48, .inl (is_up P 0 48))), (o2, .inr (1, [.ref r2, .ref q2])), (r2, .inl (d, 48, .inl R)), (q2, .inl (d, 48, .inl P))] := hD
        refine lv_aload_n hx hb dL_law_80 rfl (lv_at hl 2 rfl) ?_
        refine iw_set3 (va_runV (As := []) (rest := []) hC (met1_anew l D o2 r2 q2 d R P) (cwV 0 hts (lw_V q134 q124 q125 q6 q126) rfl rfl rfl (by decide +kernel) ⟨Nat.le_of_ble_eq_true rfl, Nat.le_of_ble_eq_true rfl⟩) ⟨iw_blind, va_recv hK hP (ci := 1) (q0 := 3) rfl rfl, fun U hU hW => iw_pre3 hK hP hD (q0 := 3) (q1 := 4) (q2 := 5) rfl rfl rfl (by decide) (by decide) (by decide) hU hW⟩ rfl rfl hl.1 rfl (lv_room (Nat.le_of_ble_eq_true rfl)) dL_law_81 ⟨Nat.le_of_ble_eq_true rfl, Nat.le_of_ble_eq_true rfl⟩) hP hD hS 3 4 5 rfl rfl rfl (by decide) (fun u1 H locs hu1 hP hD hS => ?_)
        subst hu1
        have hP : va_P D iw_cl [(o1, .inr (0, [.ref r1, .ref q1])), (r1, .inl (d, 48, .inl R)), (q1, .inl (d, 48, .inl (is_up P 0 48))), (o2, .inr (1, [.ref r2, .ref q2])), (r2, .inl (d, 48, .inl R)), (q2, .inl (d, 48, .inl (is_up P 0 48)))] H := hP
        have hD : va_D A [(o1, .inr (0, [.ref r1, .ref q1])), (r1, .inl (d, 48, .inl R)), (q1, .inl (d, 48, .inl (is_up P 0 48))), (o2, .inr (1, [.ref r2, .ref q2])), (r2, .inl (d, 48, .inl R)), (q2, .inl (d, 48, .inl (is_up P 0 48)))] := hD
        refine lv_goto (tgt := 257) hx hb dL_law_84 (by decide) ?_
        exact k257 R (is_up P 0 48) H locs ls hP hD hS (lv_sub hl [0, 1, 2, 3] rfl)
      · refine lv_tableIn (off := 54) (tgt := 87) hx hb dL_law_33 (by decide +kernel) (by decide +kernel) (by decide +kernel) (by decide) ?_
        refine lv_aload_n hx hb dL_law_87 rfl (lv_at hl 1 rfl) ?_
        refine lv_aload_n hx hb dL_law_88 rfl (lv_at hl 0 rfl) ?_
        refine lv_iload_n hx hb dL_law_89 rfl (lv_at hl 3 rfl) ?_
        refine lz_iconst hx hb dL_law_90 ?_
        refine lz_iadd (z := (((i : Nat) : Int) + 1)) hx hb dL_law_91 (by omega) ?_
        refine lz_sld (k := i + 1) hx hb hX hbl hbA hS (by omega) (by omega) (by omega) dL_law_92 ?_
        refine lv_aload_n hx hb dL_law_93 rfl (lv_at hl 0 rfl) ?_
        refine lv_iload_n hx hb dL_law_94 rfl (lv_at hl 3 rfl) ?_
        refine lz_iconst hx hb dL_law_95 ?_
        refine lz_iadd (z := (((i : Nat) : Int) + 2)) hx hb dL_law_96 (by omega) ?_
        refine lz_sld (k := i + 2) hx hb hX hbl hbA hS (by omega) (by omega) (by omega) dL_law_97 ?_
        refine iw_set3 (va_runV (As := [.int (xs (i + 1)), .int (xs (i + 2))]) (rest := []) hC (met0_set l D o1 r1 q1 d R P (xs (i + 1)) (xs (i + 2))) (cwV 2 hts (lw_V q33 q34 q35 q5 q36) rfl rfl rfl (by decide +kernel) ⟨Nat.le_of_ble_eq_true rfl, Nat.le_of_ble_eq_true rfl⟩) ⟨iw_blind, va_recv hK hP (ci := 0) (q0 := 0) rfl rfl, fun U hU hW => iw_pre3 hK hP hD (q0 := 0) (q1 := 1) (q2 := 2) rfl rfl rfl (by decide) (by decide) (by decide) hU hW⟩ rfl rfl hl.1 rfl (lv_room (Nat.le_of_ble_eq_true rfl)) dL_law_98 ⟨Nat.le_of_ble_eq_true rfl, Nat.le_of_ble_eq_true rfl⟩) hP hD hS 0 1 2 rfl rfl rfl (by decide) (fun u0 H locs hu0 hP hD hS => ?_)
        subst hu0
        have hP : va_P D iw_cl [(o1, .inr (0, [.ref r1, .ref q1])), (r1, .inl (d, 48, .inl (upd R (is_cl (xs (i + 1))) (xs (i + 2))))), (q1, .inl (d, 48, .inl P)), (o2, .inr (1, [.ref r2, .ref q2])), (r2, .inl (d, 48, .inl R)), (q2, .inl (d, 48, .inl P))] H := hP
        have hD : va_D A [(o1, .inr (0, [.ref r1, .ref q1])), (r1, .inl (d, 48, .inl (upd R (is_cl (xs (i + 1))) (xs (i + 2))))), (q1, .inl (d, 48, .inl P)), (o2, .inr (1, [.ref r2, .ref q2])), (r2, .inl (d, 48, .inl R)), (q2, .inl (d, 48, .inl P))] := hD
        refine lv_aload_n hx hb dL_law_101 rfl (lv_at hl 2 rfl) ?_
        refine lv_aload_n hx hb dL_law_102 rfl (lv_at hl 0 rfl) ?_
        refine lv_iload_n hx hb dL_law_103 rfl (lv_at hl 3 rfl) ?_
        refine lz_iconst hx hb dL_law_104 ?_
        refine lz_iadd (z := (((i : Nat) : Int) + 1)) hx hb dL_law_105 (by omega) ?_
        refine lz_sld (k := i + 1) hx hb hX hbl hbA hS (by omega) (by omega) (by omega) dL_law_106 ?_
        refine lv_aload_n hx hb dL_law_107 rfl (lv_at hl 0 rfl) ?_
        refine lv_iload_n hx hb dL_law_108 rfl (lv_at hl 3 rfl) ?_
        refine lz_iconst hx hb dL_law_109 ?_
        refine lz_iadd (z := (((i : Nat) : Int) + 2)) hx hb dL_law_110 (by omega) ?_
        refine lz_sld (k := i + 2) hx hb hX hbl hbA hS (by omega) (by omega) (by omega) dL_law_111 ?_
        refine iw_set3 (va_runV (As := [.int (xs (i + 1)), .int (xs (i + 2))]) (rest := []) hC (met1_set l D o2 r2 q2 d R P (xs (i + 1)) (xs (i + 2))) (cwV 2 hts (lw_V q135 q136 q137 q6 q138) rfl rfl rfl (by decide +kernel) ⟨Nat.le_of_ble_eq_true rfl, Nat.le_of_ble_eq_true rfl⟩) ⟨iw_blind, va_recv hK hP (ci := 1) (q0 := 3) rfl rfl, fun U hU hW => iw_pre3 hK hP hD (q0 := 3) (q1 := 4) (q2 := 5) rfl rfl rfl (by decide) (by decide) (by decide) hU hW⟩ rfl rfl hl.1 rfl (lv_room (Nat.le_of_ble_eq_true rfl)) dL_law_112 ⟨Nat.le_of_ble_eq_true rfl, Nat.le_of_ble_eq_true rfl⟩) hP hD hS 3 4 5 rfl rfl rfl (by decide) (fun u1 H locs hu1 hP hD hS => ?_)
        subst hu1
        have hP : va_P D iw_cl [(o1, .inr (0, [.ref r1, .ref q1])), (r1, .inl (d, 48, .inl (upd R (is_cl (xs (i + 1))) (xs (i + 2))))), (q1, .inl (d, 48, .inl P)), (o2, .inr (1, [.ref r2, .ref q2])), (r2, .inl (d, 48, .inl (upd R (is_cl (xs (i + 1))) (xs (i + 2))))), (q2, .inl (d, 48, .inl P))] H := hP
        have hD : va_D A [(o1, .inr (0, [.ref r1, .ref q1])), (r1, .inl (d, 48, .inl (upd R (is_cl (xs (i + 1))) (xs (i + 2))))), (q1, .inl (d, 48, .inl P)), (o2, .inr (1, [.ref r2, .ref q2])), (r2, .inl (d, 48, .inl (upd R (is_cl (xs (i + 1))) (xs (i + 2))))), (q2, .inl (d, 48, .inl P))] := hD
        refine lv_goto (tgt := 257) hx hb dL_law_115 (by decide) ?_
        exact k257 (upd R (is_cl (xs (i + 1))) (xs (i + 2))) P H locs ls hP hD hS (lv_sub hl [0, 1, 2, 3] rfl)
      · refine lv_tableIn (off := 85) (tgt := 118) hx hb dL_law_33 (by decide +kernel) (by decide +kernel) (by decide +kernel) (by decide) ?_
        refine lv_aload_n hx hb dL_law_118 rfl (lv_at hl 1 rfl) ?_
        refine lv_aload_n hx hb dL_law_119 rfl (lv_at hl 0 rfl) ?_
        refine lv_iload_n hx hb dL_law_120 rfl (lv_at hl 3 rfl) ?_
        refine lz_iconst hx hb dL_law_121 ?_
        refine lz_iadd (z := (((i : Nat) : Int) + 1)) hx hb dL_law_122 (by omega) ?_
        refine lz_sld (k := i + 1) hx hb hX hbl hbA hS (by omega) (by omega) (by omega) dL_law_123 ?_
        refine lv_aload_n hx hb dL_law_124 rfl (lv_at hl 0 rfl) ?_
        refine lv_iload_n hx hb dL_law_125 rfl (lv_at hl 3 rfl) ?_
        refine lz_iconst hx hb dL_law_126 ?_
        refine lz_iadd (z := (((i : Nat) : Int) + 2)) hx hb dL_law_127 (by omega) ?_
        refine lz_sld (k := i + 2) hx hb hX hbl hbA hS (by omega) (by omega) (by omega) dL_law_128 ?_
        refine iw_set3 (va_runV (As := [.int (xs (i + 1)), .int (xs (i + 2))]) (rest := []) hC (met0_few l D o1 r1 q1 d R P (xs (i + 1)) (xs (i + 2))) (cwV 2 hts (lw_V q38 q39 q40 q5 q41) rfl rfl rfl (by decide +kernel) ⟨Nat.le_of_ble_eq_true rfl, Nat.le_of_ble_eq_true rfl⟩) ⟨iw_blind, va_recv hK hP (ci := 0) (q0 := 0) rfl rfl, fun U hU hW => iw_pre3 hK hP hD (q0 := 0) (q1 := 1) (q2 := 2) rfl rfl rfl (by decide) (by decide) (by decide) hU hW⟩ rfl rfl hl.1 rfl (lv_room (Nat.le_of_ble_eq_true rfl)) dL_law_129 ⟨Nat.le_of_ble_eq_true rfl, Nat.le_of_ble_eq_true rfl⟩) hP hD hS 0 1 2 rfl rfl rfl (by decide) (fun u0 H locs hu0 hP hD hS => ?_)
        subst hu0
        have hP : va_P D iw_cl [(o1, .inr (0, [.ref r1, .ref q1])), (r1, .inl (d, 48, .inl (upd R (is_cl (xs (i + 1))) ((xs (i + 2) &&& iz_ (3 : Int)))))), (q1, .inl (d, 48, .inl P)), (o2, .inr (1, [.ref r2, .ref q2])), (r2, .inl (d, 48, .inl R)), (q2, .inl (d, 48, .inl P))] H := hP
        have hD : va_D A [(o1, .inr (0, [.ref r1, .ref q1])), (r1, .inl (d, 48, .inl (upd R (is_cl (xs (i + 1))) ((xs (i + 2) &&& iz_ (3 : Int)))))), (q1, .inl (d, 48, .inl P)), (o2, .inr (1, [.ref r2, .ref q2])), (r2, .inl (d, 48, .inl R)), (q2, .inl (d, 48, .inl P))] := hD
        refine lv_aload_n hx hb dL_law_132 rfl (lv_at hl 2 rfl) ?_
        refine lv_aload_n hx hb dL_law_133 rfl (lv_at hl 0 rfl) ?_
        refine lv_iload_n hx hb dL_law_134 rfl (lv_at hl 3 rfl) ?_
        refine lz_iconst hx hb dL_law_135 ?_
        refine lz_iadd (z := (((i : Nat) : Int) + 1)) hx hb dL_law_136 (by omega) ?_
        refine lz_sld (k := i + 1) hx hb hX hbl hbA hS (by omega) (by omega) (by omega) dL_law_137 ?_
        refine lv_aload_n hx hb dL_law_138 rfl (lv_at hl 0 rfl) ?_
        refine lv_iload_n hx hb dL_law_139 rfl (lv_at hl 3 rfl) ?_
        refine lz_iconst hx hb dL_law_140 ?_
        refine lz_iadd (z := (((i : Nat) : Int) + 2)) hx hb dL_law_141 (by omega) ?_
        refine lz_sld (k := i + 2) hx hb hX hbl hbA hS (by omega) (by omega) (by omega) dL_law_142 ?_
        refine iw_set3 (va_runV (As := [.int (xs (i + 1)), .int (xs (i + 2))]) (rest := []) hC (met1_few l D o2 r2 q2 d R P (xs (i + 1)) (xs (i + 2))) (cwV 2 hts (lw_V q143 q144 q145 q6 q146) rfl rfl rfl (by decide +kernel) ⟨Nat.le_of_ble_eq_true rfl, Nat.le_of_ble_eq_true rfl⟩) ⟨iw_blind, va_recv hK hP (ci := 1) (q0 := 3) rfl rfl, fun U hU hW => iw_pre3 hK hP hD (q0 := 3) (q1 := 4) (q2 := 5) rfl rfl rfl (by decide) (by decide) (by decide) hU hW⟩ rfl rfl hl.1 rfl (lv_room (Nat.le_of_ble_eq_true rfl)) dL_law_143 ⟨Nat.le_of_ble_eq_true rfl, Nat.le_of_ble_eq_true rfl⟩) hP hD hS 3 4 5 rfl rfl rfl (by decide) (fun u1 H locs hu1 hP hD hS => ?_)
        subst hu1
        have hP : va_P D iw_cl [(o1, .inr (0, [.ref r1, .ref q1])), (r1, .inl (d, 48, .inl (upd R (is_cl (xs (i + 1))) ((xs (i + 2) &&& iz_ (3 : Int)))))), (q1, .inl (d, 48, .inl P)), (o2, .inr (1, [.ref r2, .ref q2])), (r2, .inl (d, 48, .inl (upd R (is_cl (xs (i + 1))) ((xs (i + 2) &&& iz_ (3 : Int)))))), (q2, .inl (d, 48, .inl P))] H := hP
        have hD : va_D A [(o1, .inr (0, [.ref r1, .ref q1])), (r1, .inl (d, 48, .inl (upd R (is_cl (xs (i + 1))) ((xs (i + 2) &&& iz_ (3 : Int)))))), (q1, .inl (d, 48, .inl P)), (o2, .inr (1, [.ref r2, .ref q2])), (r2, .inl (d, 48, .inl (upd R (is_cl (xs (i + 1))) ((xs (i + 2) &&& iz_ (3 : Int)))))), (q2, .inl (d, 48, .inl P))] := hD
        refine lv_goto (tgt := 257) hx hb dL_law_146 (by decide) ?_
        exact k257 (upd R (is_cl (xs (i + 1))) ((xs (i + 2) &&& iz_ (3 : Int)))) P H locs ls hP hD hS (lv_sub hl [0, 1, 2, 3] rfl)
      · refine lv_tableIn (off := 116) (tgt := 149) hx hb dL_law_33 (by decide +kernel) (by decide +kernel) (by decide +kernel) (by decide) ?_
        refine lv_aload_n hx hb dL_law_149 rfl (lv_at hl 1 rfl) ?_
        refine lv_aload_n hx hb dL_law_150 rfl (lv_at hl 0 rfl) ?_
        refine lv_iload_n hx hb dL_law_151 rfl (lv_at hl 3 rfl) ?_
        refine lz_iconst hx hb dL_law_152 ?_
        refine lz_iadd (z := (((i : Nat) : Int) + 1)) hx hb dL_law_153 (by omega) ?_
        refine lz_sld (k := i + 1) hx hb hX hbl hbA hS (by omega) (by omega) (by omega) dL_law_154 ?_
        refine vp_callSi (va_Run.run (va_runV (As := [.int (xs (i + 1))]) (rest := []) hC (met0_get l D o1 r1 q1 d R P (xs (i + 1))) (cwV 1 hts (lw_V q42 q43 q44 q5 q45) rfl rfl rfl (by decide +kernel) ⟨Nat.le_of_ble_eq_true rfl, Nat.le_of_ble_eq_true rfl⟩) ⟨iw_blind, va_recv hK hP (ci := 0) (q0 := 0) rfl rfl, fun U hU hW => iw_pre3 hK hP hD (q0 := 0) (q1 := 1) (q2 := 2) rfl rfl rfl (by decide) (by decide) (by decide) hU hW⟩ rfl rfl hl.1 rfl (lv_room (Nat.le_of_ble_eq_true rfl)) dL_law_155 ⟨Nat.le_of_ble_eq_true rfl, Nat.le_of_ble_eq_true rfl⟩)) (fun z0 hz0 => ?_)
        subst hz0
        refine lv_aload_n hx hb dL_law_158 rfl (lv_at hl 2 rfl) ?_
        refine lv_aload_n hx hb dL_law_159 rfl (lv_at hl 0 rfl) ?_
        refine lv_iload_n hx hb dL_law_160 rfl (lv_at hl 3 rfl) ?_
        refine lz_iconst hx hb dL_law_161 ?_
        refine lz_iadd (z := (((i : Nat) : Int) + 1)) hx hb dL_law_162 (by omega) ?_
        refine lz_sld (k := i + 1) hx hb hX hbl hbA hS (by omega) (by omega) (by omega) dL_law_163 ?_
        refine vp_callSi (va_Run.run (va_runV (As := [.int (xs (i + 1))]) (rest := [.int (R (is_cl (xs (i + 1))))]) hC (met1_get l D o2 r2 q2 d R P (xs (i + 1))) (cwV 1 hts (lw_V q147 q148 q149 q6 q150) rfl rfl rfl (by decide +kernel) ⟨Nat.le_of_ble_eq_true rfl, Nat.le_of_ble_eq_true rfl⟩) ⟨iw_blind, va_recv hK hP (ci := 1) (q0 := 3) rfl rfl, fun U hU hW => iw_pre3 hK hP hD (q0 := 3) (q1 := 4) (q2 := 5) rfl rfl rfl (by decide) (by decide) (by decide) hU hW⟩ rfl rfl hl.1 rfl (lv_room (Nat.le_of_ble_eq_true rfl)) dL_law_164 ⟨Nat.le_of_ble_eq_true rfl, Nat.le_of_ble_eq_true rfl⟩)) (fun z1 hz1 => ?_)
        subst hz1
        refine lz_icmp_eq (tgt := 257) hx hb dL_law_167 (by decide) rfl rfl (fun c3 => ?_) (fun c4 => ?_)
        · exact k257 R P H locs ls hP hD hS (lv_sub hl [0, 1, 2, 3] rfl)
        · exact absurd rfl c4
      · refine lv_tableIn (off := 139) (tgt := 172) hx hb dL_law_33 (by decide +kernel) (by decide +kernel) (by decide +kernel) (by decide) ?_
        refine lv_aload_n hx hb dL_law_172 rfl (lv_at hl 1 rfl) ?_
        refine lv_aload_n hx hb dL_law_173 rfl (lv_at hl 0 rfl) ?_
        refine lv_iload_n hx hb dL_law_174 rfl (lv_at hl 3 rfl) ?_
        refine lz_iconst hx hb dL_law_175 ?_
        refine lz_iadd (z := (((i : Nat) : Int) + 1)) hx hb dL_law_176 (by omega) ?_
        refine lz_sld (k := i + 1) hx hb hX hbl hbA hS (by omega) (by omega) (by omega) dL_law_177 ?_
        refine vp_callSi (va_Run.run (va_runV (As := [.int (xs (i + 1))]) (rest := []) hC (met0_place l D o1 r1 q1 d R P (xs (i + 1))) (cwV 1 hts (lw_V q46 q47 q48 q5 q49) rfl rfl rfl (by decide +kernel) ⟨Nat.le_of_ble_eq_true rfl, Nat.le_of_ble_eq_true rfl⟩) ⟨iw_blind, va_recv hK hP (ci := 0) (q0 := 0) rfl rfl, fun U hU hW => iw_pre3 hK hP hD (q0 := 0) (q1 := 1) (q2 := 2) rfl rfl rfl (by decide) (by decide) (by decide) hU hW⟩ rfl rfl hl.1 rfl (lv_room (Nat.le_of_ble_eq_true rfl)) dL_law_178 ⟨Nat.le_of_ble_eq_true rfl, Nat.le_of_ble_eq_true rfl⟩)) (fun z0 hz0 => ?_)
        subst hz0
        refine lv_aload_n hx hb dL_law_181 rfl (lv_at hl 2 rfl) ?_
        refine lv_aload_n hx hb dL_law_182 rfl (lv_at hl 0 rfl) ?_
        refine lv_iload_n hx hb dL_law_183 rfl (lv_at hl 3 rfl) ?_
        refine lz_iconst hx hb dL_law_184 ?_
        refine lz_iadd (z := (((i : Nat) : Int) + 1)) hx hb dL_law_185 (by omega) ?_
        refine lz_sld (k := i + 1) hx hb hX hbl hbA hS (by omega) (by omega) (by omega) dL_law_186 ?_
        refine vp_callSi (va_Run.run (va_runV (As := [.int (xs (i + 1))]) (rest := [.int (P (is_cl (xs (i + 1))))]) hC (met1_place l D o2 r2 q2 d R P (xs (i + 1))) (cwV 1 hts (lw_V q151 q152 q153 q6 q154) rfl rfl rfl (by decide +kernel) ⟨Nat.le_of_ble_eq_true rfl, Nat.le_of_ble_eq_true rfl⟩) ⟨iw_blind, va_recv hK hP (ci := 1) (q0 := 3) rfl rfl, fun U hU hW => iw_pre3 hK hP hD (q0 := 3) (q1 := 4) (q2 := 5) rfl rfl rfl (by decide) (by decide) (by decide) hU hW⟩ rfl rfl hl.1 rfl (lv_room (Nat.le_of_ble_eq_true rfl)) dL_law_187 ⟨Nat.le_of_ble_eq_true rfl, Nat.le_of_ble_eq_true rfl⟩)) (fun z1 hz1 => ?_)
        subst hz1
        refine lz_icmp_eq (tgt := 257) hx hb dL_law_190 (by decide) rfl rfl (fun c3 => ?_) (fun c4 => ?_)
        · exact k257 R P H locs ls hP hD hS (lv_sub hl [0, 1, 2, 3] rfl)
        · exact absurd rfl c4
      · refine lv_tableIn (off := 162) (tgt := 195) hx hb dL_law_33 (by decide +kernel) (by decide +kernel) (by decide +kernel) (by decide) ?_
        refine lv_aload_n hx hb dL_law_195 rfl (lv_at hl 1 rfl) ?_
        refine lv_aload_n hx hb dL_law_196 rfl (lv_at hl 0 rfl) ?_
        refine lv_iload_n hx hb dL_law_197 rfl (lv_at hl 3 rfl) ?_
        refine lz_iconst hx hb dL_law_198 ?_
        refine lz_iadd (z := (((i : Nat) : Int) + 1)) hx hb dL_law_199 (by omega) ?_
        refine lz_sld (k := i + 1) hx hb hX hbl hbA hS (by omega) (by omega) (by omega) dL_law_200 ?_
        refine lv_aload_n hx hb dL_law_201 rfl (lv_at hl 0 rfl) ?_
        refine lv_iload_n hx hb dL_law_202 rfl (lv_at hl 3 rfl) ?_
        refine lz_iconst hx hb dL_law_203 ?_
        refine lz_iadd (z := (((i : Nat) : Int) + 2)) hx hb dL_law_204 (by omega) ?_
        refine lz_sld (k := i + 2) hx hb hX hbl hbA hS (by omega) (by omega) (by omega) dL_law_205 ?_
        refine iw_set3 (va_runV (As := [.int (xs (i + 1)), .int (xs (i + 2))]) (rest := []) hC (met0_radix l D o1 r1 q1 d R P (xs (i + 1)) (xs (i + 2))) (cwV 2 hts (lw_V q50 q51 q52 q5 q53) rfl rfl rfl (by decide +kernel) ⟨Nat.le_of_ble_eq_true rfl, Nat.le_of_ble_eq_true rfl⟩) ⟨iw_blind, va_recv hK hP (ci := 0) (q0 := 0) rfl rfl, fun U hU hW => iw_pre3 hK hP hD (q0 := 0) (q1 := 1) (q2 := 2) rfl rfl rfl (by decide) (by decide) (by decide) hU hW⟩ rfl rfl hl.1 rfl (lv_room (Nat.le_of_ble_eq_true rfl)) dL_law_206 ⟨Nat.le_of_ble_eq_true rfl, Nat.le_of_ble_eq_true rfl⟩) hP hD hS 0 1 2 rfl rfl rfl (by decide) (fun u0 H locs hu0 hP hD hS => ?_)
        have hP : va_P D iw_cl [(o1, .inr (0, [.ref r1, .ref q1])), (r1, .inl (d, 48, .inl u0.1)), (q1, .inl (d, 48, .inl u0.2)), (o2, .inr (1, [.ref r2, .ref q2])), (r2, .inl (d, 48, .inl R)), (q2, .inl (d, 48, .inl P))] H := hP
        have hD : va_D A [(o1, .inr (0, [.ref r1, .ref q1])), (r1, .inl (d, 48, .inl u0.1)), (q1, .inl (d, 48, .inl u0.2)), (o2, .inr (1, [.ref r2, .ref q2])), (r2, .inl (d, 48, .inl R)), (q2, .inl (d, 48, .inl P))] := hD
        refine lv_aload_n hx hb dL_law_209 rfl (lv_at hl 2 rfl) ?_
        refine lv_aload_n hx hb dL_law_210 rfl (lv_at hl 0 rfl) ?_
        refine lv_iload_n hx hb dL_law_211 rfl (lv_at hl 3 rfl) ?_
        refine lz_iconst hx hb dL_law_212 ?_
        refine lz_iadd (z := (((i : Nat) : Int) + 1)) hx hb dL_law_213 (by omega) ?_
        refine lz_sld (k := i + 1) hx hb hX hbl hbA hS (by omega) (by omega) (by omega) dL_law_214 ?_
        refine lv_aload_n hx hb dL_law_215 rfl (lv_at hl 0 rfl) ?_
        refine lv_iload_n hx hb dL_law_216 rfl (lv_at hl 3 rfl) ?_
        refine lz_iconst hx hb dL_law_217 ?_
        refine lz_iadd (z := (((i : Nat) : Int) + 2)) hx hb dL_law_218 (by omega) ?_
        refine lz_sld (k := i + 2) hx hb hX hbl hbA hS (by omega) (by omega) (by omega) dL_law_219 ?_
        refine iw_set3 (va_runV (As := [.int (xs (i + 1)), .int (xs (i + 2))]) (rest := []) hC (met1_radix l D o2 r2 q2 d R P (xs (i + 1)) (xs (i + 2))) (cwV 2 hts (lw_V q155 q156 q157 q6 q158) rfl rfl rfl (by decide +kernel) ⟨Nat.le_of_ble_eq_true rfl, Nat.le_of_ble_eq_true rfl⟩) ⟨iw_blind, va_recv hK hP (ci := 1) (q0 := 3) rfl rfl, fun U hU hW => iw_pre3 hK hP hD (q0 := 3) (q1 := 4) (q2 := 5) rfl rfl rfl (by decide) (by decide) (by decide) hU hW⟩ rfl rfl hl.1 rfl (lv_room (Nat.le_of_ble_eq_true rfl)) dL_law_220 ⟨Nat.le_of_ble_eq_true rfl, Nat.le_of_ble_eq_true rfl⟩) hP hD hS 3 4 5 rfl rfl rfl (by decide) (fun u1 H locs hu1 hP hD hS => ?_)
        have hP : va_P D iw_cl [(o1, .inr (0, [.ref r1, .ref q1])), (r1, .inl (d, 48, .inl u0.1)), (q1, .inl (d, 48, .inl u0.2)), (o2, .inr (1, [.ref r2, .ref q2])), (r2, .inl (d, 48, .inl u1.1)), (q2, .inl (d, 48, .inl u1.2))] H := hP
        have hD : va_D A [(o1, .inr (0, [.ref r1, .ref q1])), (r1, .inl (d, 48, .inl u0.1)), (q1, .inl (d, 48, .inl u0.2)), (o2, .inr (1, [.ref r2, .ref q2])), (r2, .inl (d, 48, .inl u1.1)), (q2, .inl (d, 48, .inl u1.2))] := hD
        have e2 : u0.2 = u1.2 := law_same hu0.2 hu1.2
        have e3 : u0.1 = R := hu0.1
        have e4 : u1.1 = R := hu1.1
        rw [← e2, e3, e4] at hP hD
        refine lv_goto (tgt := 257) hx hb dL_law_223 (by decide) ?_
        exact k257 R u0.2 H locs ls hP hD hS (lv_sub hl [0, 1, 2, 3] rfl)
      · refine lv_tableIn (off := 193) (tgt := 226) hx hb dL_law_33 (by decide +kernel) (by decide +kernel) (by decide +kernel) (by decide) ?_
        refine lv_aload_n hx hb dL_law_226 rfl (lv_at hl 1 rfl) ?_
        refine lv_aload_n hx hb dL_law_227 rfl (lv_at hl 0 rfl) ?_
        refine lv_iload_n hx hb dL_law_228 rfl (lv_at hl 3 rfl) ?_
        refine lz_iconst hx hb dL_law_229 ?_
        refine lz_iadd (z := (((i : Nat) : Int) + 1)) hx hb dL_law_230 (by omega) ?_
        refine lz_sld (k := i + 1) hx hb hX hbl hbA hS (by omega) (by omega) (by omega) dL_law_231 ?_
        refine lv_aload_n hx hb dL_law_232 rfl (lv_at hl 0 rfl) ?_
        refine lv_iload_n hx hb dL_law_233 rfl (lv_at hl 3 rfl) ?_
        refine lz_iconst hx hb dL_law_234 ?_
        refine lz_iadd (z := (((i : Nat) : Int) + 2)) hx hb dL_law_235 (by omega) ?_
        refine lz_sld (k := i + 2) hx hb hX hbl hbA hS (by omega) (by omega) (by omega) dL_law_236 ?_
        refine iw_set3 (va_runV (As := [.int (xs (i + 1)), .int (xs (i + 2))]) (rest := []) hC (met0_quick l D o1 r1 q1 d R P (xs (i + 1)) (xs (i + 2))) (cwV 2 hts (lw_V q111 q112 q113 q5 q114) rfl rfl rfl (by decide +kernel) ⟨Nat.le_of_ble_eq_true rfl, Nat.le_of_ble_eq_true rfl⟩) ⟨iw_blind, va_recv hK hP (ci := 0) (q0 := 0) rfl rfl, fun U hU hW => iw_pre3 hK hP hD (q0 := 0) (q1 := 1) (q2 := 2) rfl rfl rfl (by decide) (by decide) (by decide) hU hW⟩ rfl rfl hl.1 rfl (lv_room (Nat.le_of_ble_eq_true rfl)) dL_law_237 ⟨Nat.le_of_ble_eq_true rfl, Nat.le_of_ble_eq_true rfl⟩) hP hD hS 0 1 2 rfl rfl rfl (by decide) (fun u0 H locs hu0 hP hD hS => ?_)
        have hP : va_P D iw_cl [(o1, .inr (0, [.ref r1, .ref q1])), (r1, .inl (d, 48, .inl u0.1)), (q1, .inl (d, 48, .inl u0.2)), (o2, .inr (1, [.ref r2, .ref q2])), (r2, .inl (d, 48, .inl R)), (q2, .inl (d, 48, .inl P))] H := hP
        have hD : va_D A [(o1, .inr (0, [.ref r1, .ref q1])), (r1, .inl (d, 48, .inl u0.1)), (q1, .inl (d, 48, .inl u0.2)), (o2, .inr (1, [.ref r2, .ref q2])), (r2, .inl (d, 48, .inl R)), (q2, .inl (d, 48, .inl P))] := hD
        refine lv_aload_n hx hb dL_law_240 rfl (lv_at hl 2 rfl) ?_
        refine lv_aload_n hx hb dL_law_241 rfl (lv_at hl 0 rfl) ?_
        refine lv_iload_n hx hb dL_law_242 rfl (lv_at hl 3 rfl) ?_
        refine lz_iconst hx hb dL_law_243 ?_
        refine lz_iadd (z := (((i : Nat) : Int) + 1)) hx hb dL_law_244 (by omega) ?_
        refine lz_sld (k := i + 1) hx hb hX hbl hbA hS (by omega) (by omega) (by omega) dL_law_245 ?_
        refine lv_aload_n hx hb dL_law_246 rfl (lv_at hl 0 rfl) ?_
        refine lv_iload_n hx hb dL_law_247 rfl (lv_at hl 3 rfl) ?_
        refine lz_iconst hx hb dL_law_248 ?_
        refine lz_iadd (z := (((i : Nat) : Int) + 2)) hx hb dL_law_249 (by omega) ?_
        refine lz_sld (k := i + 2) hx hb hX hbl hbA hS (by omega) (by omega) (by omega) dL_law_250 ?_
        refine iw_set3 (va_runV (As := [.int (xs (i + 1)), .int (xs (i + 2))]) (rest := []) hC (met1_quick l D o2 r2 q2 d R P (xs (i + 1)) (xs (i + 2))) (cwV 2 hts (lw_V q169 q170 q171 q6 q172) rfl rfl rfl (by decide +kernel) ⟨Nat.le_of_ble_eq_true rfl, Nat.le_of_ble_eq_true rfl⟩) ⟨iw_blind, va_recv hK hP (ci := 1) (q0 := 3) rfl rfl, fun U hU hW => iw_pre3 hK hP hD (q0 := 3) (q1 := 4) (q2 := 5) rfl rfl rfl (by decide) (by decide) (by decide) hU hW⟩ rfl rfl hl.1 rfl (lv_room (Nat.le_of_ble_eq_true rfl)) dL_law_251 ⟨Nat.le_of_ble_eq_true rfl, Nat.le_of_ble_eq_true rfl⟩) hP hD hS 3 4 5 rfl rfl rfl (by decide) (fun u1 H locs hu1 hP hD hS => ?_)
        have hP : va_P D iw_cl [(o1, .inr (0, [.ref r1, .ref q1])), (r1, .inl (d, 48, .inl u0.1)), (q1, .inl (d, 48, .inl u0.2)), (o2, .inr (1, [.ref r2, .ref q2])), (r2, .inl (d, 48, .inl u1.1)), (q2, .inl (d, 48, .inl u1.2))] H := hP
        have hD : va_D A [(o1, .inr (0, [.ref r1, .ref q1])), (r1, .inl (d, 48, .inl u0.1)), (q1, .inl (d, 48, .inl u0.2)), (o2, .inr (1, [.ref r2, .ref q2])), (r2, .inl (d, 48, .inl u1.1)), (q2, .inl (d, 48, .inl u1.2))] := hD
        have e2 : u0.2 = u1.2 := law_same hu0.2 hu1.2
        have e3 : u0.1 = R := hu0.1
        have e4 : u1.1 = R := hu1.1
        rw [← e2, e3, e4] at hP hD
        refine lv_goto (tgt := 257) hx hb dL_law_254 (by decide) ?_
        exact k257 R u0.2 H locs ls hP hD hS (lv_sub hl [0, 1, 2, 3] rfl)
      · refine lv_tableOut (tgt := 257) hx hb dL_law_33 (by decide +kernel) (by decide) ?_
        exact k257 R P H locs ls hP hD hS (lv_sub hl [0, 1, 2, 3] rfl)
end
end
section
/-! THE CLAIM OUT OF ONE WALK OF THE LAW'S BODY. Your part is whole_start (and what it stands on); all else here is the same for every law, but numbers. -/
def R_law : String := "IndirectSortDeskLaw"
def lw_P (b : Addr) (xs : List Int32) (args : Array Value) (s : State) : Prop := args = #[.ref b] ∧ s.IntsAt b xs ∧ xs.length ≤ 288 ∧ (Jvm.Cond.and given_1 narrow_1).before args s = true
def lw_Q (_ : Array Value) (s : State) (o : Outcome) (t : State) : Prop := o = .returned (some (.int 1)) ∧ Framed s o t [] 1200000 5502250
def lw_Z (below : List Frame) (a : Array Value) (s : State) : State → Prop := fun t => ∃ o, t.status = .running ∧ Ended t below o ∧ lw_Q a s o t
/-- the law's own end, with 1 on the stack, nothing written that was there before, its room as the claim has it -/
theorem lw_ret {p : Program} {l : Launch} {e : Env} {s : State} {m : MethodId} {below : List Frame} {meth : Method} {c : Code} {b : Nat} (hx : p.tables.exec = Jvm.exec) (hb : c.code = code) (hr : meth.sig.returnType = ret) (hlocks : meth.locks = false) {pc : Nat} {H : Heap} {ls : Array Slot} (hdg : decode code pc = .ok (.ireturn, 1)) : W p l e room_1 s m #[Value.ref b] below meth c H [] 1200000 5502250 (lw_Z below #[Value.ref b] s) (F0 m pc ls [.int 1]) := by
  intro T hT X
  obtain ⟨fs, hret, hrun, hended, hW, hframe⟩ := X.leave (v := some (.int 1)) (hlocks := hlocks) (fun h => by rw [hr] at h; cases h)
  have hmeth' : T.vm.method? m = some meth := X.method'
  refine ⟨T.setFrames fs, ?_, .returned (some (.int 1)), hrun, hended, rfl, ⟨_, rfl⟩, hW, hframe⟩
  jvm_step X.here [X.here.top, hx, hb, hdg, hmeth', hr, ret, narrow_b1]
  (try refine ⟨rfl, ?_⟩); (try refine ⟨rfl, ?_⟩)
  first | (intro acts; rw [hret _ acts rfl rfl rfl]) | rw [hret _ _ rfl rfl rfl]
  exact Steps.refl _
/-- what holds at the law's entry: the machine, the code, the tables' words (any of lw_tbl by 'hts w (by decide +kernel)'), the script of L ints xs at the cell b, what the Statement gives of the start (any of its parts by flat_of_before) -/
def lw_At (p : Program) (s : State) (m : MethodId) (meth : Method) (c : Code) (b L : Nat) (xs : Nat → Int32) : Prop :=
  p.tables.exec = Jvm.exec ∧ c.code = code ∧ meth.sig.returnType = ret ∧ c.maxLocals = 4 ∧ s.vm.findClass R_law = some m.cls ∧ (∀ w ∈ lw_tbl, w.before #[Value.ref b] s = true) ∧ va_X b L xs s s.heap ∧ b < s.heap.size ∧ meth.locks = false ∧ (Jvm.Cond.and given_1 narrow_1).before #[Value.ref b] s = true
/-- the classes and the class of int arrays, known at the start -/
theorem law_known {s : State} {b : Addr} (ht0 : ∀ w ∈ lw_tbl, w.before #[Value.ref b] s = true) : ∃ (d : ClassId) (D : va_G), va_K D iw_cl [(d, .int)] s := by
  obtain ⟨c0_, iS0, hKn0⟩ := u_known (C := RX0) (T := TX0) (N := 2) (n := 2) ht0 (fun w h => lw_all_tbl (in_X0 w h)) (ht0 _ (lw_all_tbl q13))
  obtain ⟨c1_, iS1, hKn1⟩ := u_known (C := RX1) (T := TX1) (N := 2) (n := 2) ht0 (fun w h => lw_all_tbl (in_X1 w h)) (ht0 _ (lw_all_tbl q118))
  obtain ⟨cA, kA, comp, h1, h2, h3⟩ := Cond.arrayClass_spec (ht0 _ (lw_all_tbl q31))
  refine ⟨cA, (fun k => if k = 0 then c0_ else c1_, fun k => if k = 0 then iS0 else iS1), ?_, ?_⟩
  · intro k q hq
    match k, hq with
    | 0, hq => cases hq; exact hKn0
    | 1, hq => cases hq; exact hKn1
    | k + 2, hq => simp [iw_cl] at hq
  · intro k q hq
    have hz : k < 1 := (List.getElem?_eq_some_iff.mp hq).1
    obtain rfl : k = 0 := by omega
    cases hq
    exact ⟨fun n z => ⟨fun k h => (by cases h), kA, h2, comp, h3⟩, h1⟩
-- ===== YOUR PART BEGINS =====
set_option maxHeartbeats 4000000 in
set_option maxRecDepth 100000 in
/-- from the entry to the end -/
theorem whole_start {p : Program} {e : Env} {s : State} {m : MethodId} {below : List Frame} {meth : Method} {c : Code} (l : Launch) (hflags : l.flags = flags0) {b L : Nat} {xs : Nat → Int32} (hL : L ≤ 288) (C0 : lw_At p s m meth c b L xs) : W p l e room_1 s m #[Value.ref b] below meth c s.heap [] 0 0 (lw_Z below #[Value.ref b] s) (entryFrame m ([Value.ref b] : List Value).toArray 4) := by
  obtain ⟨hx, hb, hr, hml, hown, hts0, hX, hbl, hlocks, -⟩ := C0
  have hts : ∀ w ∈ lw_all, w.before #[Value.ref b] s = true := fun w h => hts0 w (lw_all_tbl h)
  have hC : CallFix p m c cL_law 4 s #[Value.ref b] lw_all "IndirectSortDeskLaw" := ⟨hx, hb, hml, hown, hts⟩
  obtain ⟨d, hK⟩ := law_known hts0
  obtain ⟨D, hK⟩ := hK
  have hP : va_P D iw_cl [] s.heap := fun k q h => by simp at h
  have hbA : ¬ s.heap.size ≤ b := Nat.not_le.mpr hbl
  have hA : ∀ q : Nat, s.heap.size ≤ q → s.heap.size ≤ q := fun _ h => h
  generalize hAe : (fun q : Nat => s.heap.size ≤ q) = A
  have hA : ∀ q : Nat, s.heap.size ≤ q → A q := fun q h => by rw [← hAe]; exact h
  have hA2 : ∀ q : Nat, A q → s.heap.size ≤ q := fun q h => by rw [← hAe] at h; exact h
  have hbA : ¬ A b := fun h => hbA (hA2 b h)
  have hD : va_D A [] := ⟨fun i j p q h => by simp at h, fun k q h => by simp at h⟩
  have hS : va_S A s.heap s.heap [] := va_S.rf
  have hl := lv_entry ([.ref b]) (n := 4) (Nat.le_of_ble_eq_true rfl)
  rw [lg_entry_eq]
  generalize (lg_sl ([.ref b]) ++ List.replicate (4 - (lg_sl ([.ref b])).length) Slot.unset).toArray = ls at hl ⊢
  have hl : lv_has ls 4 [(0, .ref b)] := hl
  refine va_new (D := D) (ci := 0) (fs := [.null, .null]) (C := RX0) (T := TX0) (N := 2) hx hb hts in_X0 tyX0 tyX0_ok hown (hts _ q12) (hts _ q13) (hts _ q5) hK hP hD hS hA rfl (fun j hj => by rcases (show j = 0 ∨ j = 1 by omega) with rfl | rfl <;> rfl) (Nat.le_of_ble_eq_true rfl) (Nat.le_of_ble_eq_true rfl) dL_law_0 (fun o1 H hP hD hS => ?_)
  have hP : va_P D iw_cl [(o1, .inr (0, [.null, .null]))] H := hP
  have hD : va_D A [(o1, .inr (0, [.null, .null]))] := hD
  refine lv_dup hx hb dL_law_3 rfl ?_
  have hPc := hP.sub (ws' := [(o1, .inr (0, [.null, .null]))]) [0] rfl
  have hDc := hD.sub (ws' := [(o1, .inr (0, [.null, .null]))]) [0] (by decide) rfl
  have hFc := va_free (wc := [(o1, .inr (0, [.null, .null]))]) hD hS hA [0] rfl
  refine va_callv (va_runI (As := []) (rest := [.ref o1]) hC (met0_init l D o1 H.size d) (cwI 0 hts (lw_meth q16) rfl rfl rfl (hts _ q5) (hts _ q14) (hts _ q15) rfl (by decide +kernel) ⟨Nat.le_of_ble_eq_true rfl, Nat.le_of_ble_eq_true rfl⟩) ⟨fun a U g mk q => by obtain ⟨q0, q1, qP, qK, qD⟩ := q; exact ⟨q0, q1, qP, va_K.moved (u := U) (U := U.calling g mk a) (Vm.Alike.refl U.vm) qK, qD⟩, fun U hU hW => ⟨rfl, by rw [hU], by rw [hU]; exact hPc, va_K.moved hW.alike hK, hDc.weaken (fun _ _ _ _ => trivial)⟩⟩ rfl rfl hl.1 rfl (lv_room (Nat.le_of_ble_eq_true rfl)) dL_law_4 ⟨Nat.le_of_ble_eq_true rfl, Nat.le_of_ble_eq_true rfl⟩) hS (fun q _ h => hFc q h) hFc (fun u t H1 locs ht hvm _ hB hz1 hk1 hS => ?_)
  obtain ⟨r1, q1⟩ := u
  obtain ⟨hP1, hD1⟩ := hB
  rw [ht] at hP1
  obtain ⟨hP, hD⟩ := va_join (wr := []) (w1 := (iw_W 0 o1 r1 q1 d (fun _ => 0) (is_up (fun _ => 0) 0 48))) hP hD [0] [] rfl rfl (by decide) (by decide) hk1 hFc hP1 hD1
  generalize H1 = H at hP hS ⊢
  have hP : va_P D iw_cl [(o1, .inr (0, [.ref r1, .ref q1])), (r1, .inl (d, 48, .inl (fun _ => 0))), (q1, .inl (d, 48, .inl (is_up (fun _ => 0) 0 48)))] H := hP
  have hD : va_D A [(o1, .inr (0, [.ref r1, .ref q1])), (r1, .inl (d, 48, .inl (fun _ => 0))), (q1, .inl (d, 48, .inl (is_up (fun _ => 0) 0 48)))] := hD
  refine lv_astore_n (lv' := [(1, .ref o1), (0, .ref b)]) hx hb dL_law_7 rfl hl (by decide) rfl (fun ls hl => ?_)
  refine va_new (D := D) (ci := 1) (fs := [.null, .null]) (C := RX1) (T := TX1) (N := 2) hx hb hts in_X1 tyX1 tyX1_ok hown (hts _ q117) (hts _ q118) (hts _ q6) hK hP hD hS hA rfl (fun j hj => by rcases (show j = 0 ∨ j = 1 by omega) with rfl | rfl <;> rfl) (Nat.le_of_ble_eq_true rfl) (Nat.le_of_ble_eq_true rfl) dL_law_8 (fun o2 H hP hD hS => ?_)
  have hP : va_P D iw_cl [(o1, .inr (0, [.ref r1, .ref q1])), (r1, .inl (d, 48, .inl (fun _ => 0))), (q1, .inl (d, 48, .inl (is_up (fun _ => 0) 0 48))), (o2, .inr (1, [.null, .null]))] H := hP
  have hD : va_D A [(o1, .inr (0, [.ref r1, .ref q1])), (r1, .inl (d, 48, .inl (fun _ => 0))), (q1, .inl (d, 48, .inl (is_up (fun _ => 0) 0 48))), (o2, .inr (1, [.null, .null]))] := hD
  refine lv_dup hx hb dL_law_11 rfl ?_
  have hPc := hP.sub (ws' := [(o2, .inr (1, [.null, .null]))]) [3] rfl
  have hDc := hD.sub (ws' := [(o2, .inr (1, [.null, .null]))]) [3] (by decide) rfl
  have hFc := va_free (wc := [(o2, .inr (1, [.null, .null]))]) hD hS hA [3] rfl
  refine va_callv (va_runI (As := []) (rest := [.ref o2]) hC (met1_init l D o2 H.size d) (cwI 0 hts (lw_meth q121) rfl rfl rfl (hts _ q6) (hts _ q119) (hts _ q120) rfl (by decide +kernel) ⟨Nat.le_of_ble_eq_true rfl, Nat.le_of_ble_eq_true rfl⟩) ⟨fun a U g mk q => by obtain ⟨q0, q1, qP, qK, qD⟩ := q; exact ⟨q0, q1, qP, va_K.moved (u := U) (U := U.calling g mk a) (Vm.Alike.refl U.vm) qK, qD⟩, fun U hU hW => ⟨rfl, by rw [hU], by rw [hU]; exact hPc, va_K.moved hW.alike hK, hDc.weaken (fun _ _ _ _ => trivial)⟩⟩ rfl rfl hl.1 rfl (lv_room (Nat.le_of_ble_eq_true rfl)) dL_law_12 ⟨Nat.le_of_ble_eq_true rfl, Nat.le_of_ble_eq_true rfl⟩) hS (fun q _ h => hFc q h) hFc (fun u t H1 locs ht hvm _ hB hz1 hk1 hS => ?_)
  obtain ⟨r2, q2⟩ := u
  obtain ⟨hP1, hD1⟩ := hB
  rw [ht] at hP1
  obtain ⟨hP, hD⟩ := va_join (wr := [(o1, .inr (0, [.ref r1, .ref q1])), (r1, .inl (d, 48, .inl (fun _ => 0))), (q1, .inl (d, 48, .inl (is_up (fun _ => 0) 0 48)))]) (w1 := (iw_W 1 o2 r2 q2 d (fun _ => 0) (is_up (fun _ => 0) 0 48))) hP hD [3] [0, 1, 2] rfl rfl (by decide) (by decide) hk1 hFc hP1 hD1
  generalize H1 = H at hP hS ⊢
  have hP : va_P D iw_cl [(o1, .inr (0, [.ref r1, .ref q1])), (r1, .inl (d, 48, .inl (fun _ => 0))), (q1, .inl (d, 48, .inl (is_up (fun _ => 0) 0 48))), (o2, .inr (1, [.ref r2, .ref q2])), (r2, .inl (d, 48, .inl (fun _ => 0))), (q2, .inl (d, 48, .inl (is_up (fun _ => 0) 0 48)))] H := hP
  have hD : va_D A [(o1, .inr (0, [.ref r1, .ref q1])), (r1, .inl (d, 48, .inl (fun _ => 0))), (q1, .inl (d, 48, .inl (is_up (fun _ => 0) 0 48))), (o2, .inr (1, [.ref r2, .ref q2])), (r2, .inl (d, 48, .inl (fun _ => 0))), (q2, .inl (d, 48, .inl (is_up (fun _ => 0) 0 48)))] := hD
  refine lv_astore_n (lv' := [(2, .ref o2), (1, .ref o1), (0, .ref b)]) hx hb dL_law_15 rfl hl (by decide) rfl (fun ls hl => ?_)
  refine lz_iconst hx hb dL_law_16 ?_
  refine lv_istore_n (lv' := [(3, .int (iz_ ((0 : Nat) : Int))), (2, .ref o2), (1, .ref o1), (0, .ref b)]) hx hb dL_law_17 rfl hl (by decide) rfl (fun ls hl => ?_)
  refine W.widen (k := 6) (n := 196) (Nat.le_of_ble_eq_true rfl) (Nat.le_of_ble_eq_true rfl) ?_
  refine law_loop hC hK hX hbl hbA hL (fun H locs ls hS => ?_) (L + 1) 0 (by omega) (by omega) (fun _ => 0) (is_up (fun _ => 0) 0 48) H locs ls hP hD hS (lv_sub hl [3, 2, 1, 0] rfl)
  refine lv_iconst (v := 1) hx hb dL_law_263 (by decide) ?_
  refine va_forget (fun q h => hA2 _ (hS.2.2 q h)) ?_
  refine W.widen (k := 1200000) (n := 5502250) (Nat.le_of_ble_eq_true rfl) (Nat.le_of_ble_eq_true rfl) ?_
  exact lw_ret hx hb hr hlocks dL_law_264
-- ===== YOUR PART ENDS =====
set_option maxHeartbeats 4000000 in
theorem lw_walk (l : Launch) (hflags : l.flags = flags0) (b : Addr) (xs : List Int32) : MetFree l x (headSpec (Jvm.Cond.code x code maxLocals ret :: tables_1) room_1) (lw_P b xs) (fun _ _ _ _ _ => True) lw_Q := by
  refine MetFree.of_bodyS (code := code) (maxLocals := maxLocals) (ret := ret) (by decide) ?_ ?_
  · intro args s m h hn
    obtain ⟨meth, c, h1, h2, h3, h4, h5, h6, -, -⟩ := Cond.code_spec hn (atoms_spec (ws := Jvm.Cond.code x code maxLocals ret :: tables_1) h _ List.mem_cons_self)
    exact ⟨meth, c, h1, h2, h3, h4, h5, h6⟩
  · intro p e s m args below meth c s₁ B hml0 hP _
    obtain ⟨rfl, hx, hbd, hgv⟩ := hP
    obtain ⟨scr, harrAt, hlist, hof, hsmall⟩ := hx
    obtain ⟨hcb, hkn, -, -⟩ := State.arrayAt?_spec harrAt
    have hown : s.vm.findClass R_law = some m.cls := findClass_of_methodNamed B.named
    have hts0 : ∀ c ∈ (Jvm.Cond.code x code maxLocals ret :: tables_1), c.before #[Value.ref b] s = true := atoms_spec (ws := Jvm.Cond.code x code maxLocals ret :: tables_1) B.pre
    have hts : ∀ w ∈ lw_tbl, w.before #[Value.ref b] s = true := k2_hts_sels lw_privs (fun w hw => hts0 w (List.mem_cons_of_mem _ hw)) lw_privs_ok
    have hml : c.maxLocals = 4 := B.maxLocals_eq (hts0 _ List.mem_cons_self)
    have X₀ : Stand p l e room_1 s m #[Value.ref b] below meth c s₁ [] 0 0 := Stand.of_body B
    have hh0 : s₁.heap = s.heap := by rw [B.state]; rfl
    have hsz : scr.slots.size = xs.length := by rw [← Array.length_toList, hlist, List.length_map]
    have hval : ∀ j : Nat, j < xs.length → scr.slots[j]? = some (.int (xs.getD j 0)) := fun j hj => by
      rw [← Array.getElem?_toList, hlist]
      simp [hj]
    have hbl : b < s.heap.size := (Array.getElem?_eq_some_iff.mp hcb).1
    have hX : va_X b xs.length (fun j => xs.getD j 0) s s.heap := ⟨scr, hcb, hof, hkn, hsz, hval⟩
    have K : W p l e room_1 s m #[Value.ref b] below meth c s₁.heap [] 0 0 (lw_Z below #[Value.ref b] s) (entryFrame m ([Value.ref b] : List Value).toArray 4) := by
      rw [hh0]
      exact whole_start l hflags hbd ⟨B.exec, B.bytes, B.returns, hml, hown, hts, hX, hbl, B.notSynchronized, hgv⟩
    obtain ⟨t, a1, o, b1, b2, b3⟩ := K s₁ rfl X₀
    exact ⟨t, o, a1, b1, b2, b3⟩
theorem lw_pre_spec {args : Array Value} {s : State} (h : (Jvm.Cond.and given_1 narrow_1).before args s = true) (hr : rest_1_c.before args s = true) : ∃ (b : Addr) (xs : List Int32), lw_P b xs args s := by
  have hs := flat_of_before _ h
  have hq := flat_of_before _ hr
  have hc : (Cond.count 1).before args s = true := hs _ (by decide +kernel)
  have harr : (Cond.arrayOf (.arg 0) .int).before args s = true := hs _ (by decide +kernel)
  have hle : (Cond.le (.length (.arg 0)) (.int 288)).before args s = true := hs _ (by decide +kernel)
  have hlen : (Cond.isInt (.length (.arg 0))).before args s = true := hq _ (by decide +kernel)
  have hall : (Cond.all (.arg 0) (.isInt (.elem (.arg 0) (.index 0)))).before args s = true := hq _ (by decide +kernel)
  obtain ⟨b, xs, hb, hx⟩ := State.ints_of_pre rfl harr hlen hall
  have hsm : xs.length < 2 ^ 31 := hx.choose_spec.2.2.2
  have hev : (Term.length (.arg 0)).eval args s none [] s = some (.int xs.length.toInt32) := hx.length_eval hb
  have hv := Cond.le_ints hev (show (Term.int 288).eval args s none [] s = some (.int 288) from rfl)
  have hd : xs.length.toInt32 ≤ 288 := by
    simpa [Cond.before, Cond.holds, hv] using hle
  have hN : xs.length ≤ 288 := (Int32.ofNat_le_ofNat hsm (by decide)).mp (show Int32.ofNat xs.length ≤ Int32.ofNat 288 from hd)
  exact ⟨b, xs, Cond.one_arg hc (show args[0]? = some (.ref b) from hb), hx, hN, h⟩
theorem lw_comes (l : Launch) (hflags : l.flags = flags0) : Comes l x (Jvm.Cond.code x code maxLocals ret :: tables_1) room_1 (fun tb e args s => Calls_1 tb e args s ∧ rest_1 tb e args s ∧ Pre_1 tb e args s)
    (fun _ _ args s o t => lw_Q args s o t) := by
  intro p e ha hc hk s m args below hf hfit hheap happ hpre
  obtain ⟨b, xs, hP⟩ := lw_pre_spec hpre.2.2 hpre.2.1
  obtain ⟨k, o, h1, h2, h3, hQ⟩ := lw_walk l hflags b xs p e ha hc hk s m args below hf ((Spec.applies_iff_loose hf).mp happ).1 hP trivial
  exact ⟨k, o, h1, h2, h3, hQ⟩
theorem lw_frame {s t : State} {o : Outcome} {args : Array Value} (h : Framed s o t [] 1200000 5502250) :
    Framed s o t (fieldLocs frame_1_writes args s ++ arrayLocs frame_1_arrays args s ++ staticLocs frame_1_statics s) 1200000 5502250 := h
theorem lw_limb (L : Cond) (hL : ∀ (args : Array Value) (s t : State), L.after args s (.returned (some (.int 1))) t = true) :
    ArmFor flags0 classFile x code maxLocals ret World_1 tables_1 room_1 Calls_1 rest_1 Pre_1
      (fun tb e a s o t => postC L tb e a s o t ∧ Framed s o t (fieldLocs frame_1_writes a s ++ arrayLocs frame_1_arrays a s ++ staticLocs frame_1_statics s) 1200000 5502250) := by
  intro l hflags _ _ p e ha hc hk s m args below hf hfit hheap happ hpre
  obtain ⟨k, o, h1, h2, h3, rfl, hF⟩ := lw_comes l hflags p e ha hc hk s m args below hf hfit hheap happ hpre
  exact ⟨k, _, h1, h2, h3, hL args s _, lw_frame hF⟩
theorem i_vc : Claimed_1_1 ∧ Claimed_1_2 := ⟨lw_limb limb_1_1 (fun args s t => by simp [limb_1_1, Cond.after, Cond.holds, Cond.value]), lw_limb limb_1_2 (fun args s t => Cond.after_iff.mpr (by
  first | (rw [show limb_1_2 = Cond.eq .result (.int 1) from rfl, Cond.eq_ints (x := 1) (y := 1) rfl rfl]; simp; done) | (simp [limb_1_2, Cond.value, Term.eval]; done)))⟩
end
