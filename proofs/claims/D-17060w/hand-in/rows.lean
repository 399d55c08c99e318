section
-- ===== PART A: goes FIRST, ahead of the names: the tables' words, and 'selects' of the private methods out of them =====
/-- a private method of a class that the tables say can be made, by its rows of tables_1 -/
def lw_okq (q : MethodName × Nat) : Prop := (q.1.cls ≠ "java/lang/invoke/MethodHandle" ∧ q.1.cls ≠ "java/lang/invoke/VarHandle") ∧ Cond.instantiable q.1.cls q.2 ∈ tables_1 ∧ Cond.privateMethod q.1 ∈ tables_1 ∧ Cond.instanceMethod q.1 ∈ tables_1
set_option maxRecDepth 100000
theorem lw_p0 : lw_okq (⟨"SortDesk", "from", "(I)I"⟩, 2) := ⟨⟨by decide +kernel, by decide +kernel⟩, List.mem_of_getElem? (i := 9) rfl, List.mem_of_getElem? (i := 50) rfl, List.mem_of_getElem? (i := 51) rfl⟩
theorem lw_p1 : lw_okq (⟨"SortDesk", "to", "(II)I"⟩, 2) := ⟨⟨by decide +kernel, by decide +kernel⟩, List.mem_of_getElem? (i := 9) rfl, List.mem_of_getElem? (i := 54) rfl, List.mem_of_getElem? (i := 55) rfl⟩
theorem lw_p2 : lw_okq (⟨"SortDeskModel", "sort", "(II)V"⟩, 3) := ⟨⟨by decide +kernel, by decide +kernel⟩, List.mem_of_getElem? (i := 139) rfl, List.mem_of_getElem? (i := 180) rfl, List.mem_of_getElem? (i := 181) rfl⟩
def lw_privs_1 : List (MethodName × Nat) := [(⟨"SortDesk", "from", "(I)I"⟩, 2), (⟨"SortDesk", "to", "(II)I"⟩, 2), (⟨"SortDeskModel", "sort", "(II)V"⟩, 3)]
theorem lw_r1 : ∀ q ∈ lw_privs_1, lw_okq q := List.forall_mem_cons.mpr ⟨lw_p0, List.forall_mem_cons.mpr ⟨lw_p1, List.forall_mem_cons.mpr ⟨lw_p2, fun _ h => absurd h List.not_mem_nil⟩⟩⟩
def lw_privs : List (MethodName × Nat) := lw_privs_1
def lw_tbl : List Cond := k2_sels lw_privs ++ tables_1
theorem lw_privs_ok : ∀ q ∈ lw_privs, lw_okq q := lw_r1
-- ===== ONE list of words for every method: the tables' words that hold all through a run =====
def lw_all : List Cond := lw_tbl.filter goodWord
/-- a word of the tables by its place: claim/WORDS.tsv -/
theorem lw_w {w : Cond} (i : Nat) (h : lw_tbl[i]? = some w) (g : goodWord w = true) : w ∈ lw_all := List.mem_filter.mpr ⟨List.mem_of_getElem? h, g⟩
theorem lw_all_tbl {w : Cond} (h : w ∈ lw_all) : w ∈ lw_tbl := (List.mem_filter.mp h).1
theorem lw_self : GoodIn lw_all lw_all := fun w h => ⟨h, good_of_word (List.mem_filter.mp h).2⟩
/-- a class's field words, by their places -/
theorem lw_in (ws : List Cond) (ps : List Nat) (hp : ws = ps.filterMap (fun i => lw_tbl[i]?)) (hg : ws.all goodWord = true) : ∀ w ∈ ws, w ∈ lw_all := by
  intro w h
  have h1 := List.all_eq_true.mp hg w h
  rw [hp] at h
  obtain ⟨i, -, hi⟩ := List.mem_filterMap.mp h
  exact lw_w i hi h1
/-- the words of a contract for the method y with code b, L locals, answer r -/
abbrev ws_ (y : MethodName) (b : ByteArray) (L : Nat) (r : Option FieldType) : List Cond := Cond.code y b L r :: lw_all
theorem lw_meth {y : MethodName} {b : ByteArray} {L : Nat} {r : Option FieldType} (h : Cond.code y b L r ∈ lw_all) : GoodIn lw_all (ws_ y b L r) := by
  intro w hw
  rcases List.mem_cons.mp hw with e | e
  · rw [e]
    exact lw_self _ h
  · exact lw_self _ e
theorem lw_app {a c : List Cond} (ha : ∀ w ∈ a, w ∈ lw_all) (hc : GoodIn lw_all c) : GoodIn lw_all (a ++ c) := by
  intro w hw
  rcases List.mem_append.mp hw with e | e
  · exact lw_self w (ha w e)
  · exact hc w e
/-- what a call through an object asks: cwV n hts (lw_V ..) -/
theorem lw_V {own : String} {idx : Nat} {C : String} {y : MethodName} {b : ByteArray} {L : Nat} {r : Option FieldType} (h1 : Cond.methodLink own idx y ∈ lw_all) (h2 : Cond.instanceMethod y ∈ lw_all) (h3 : Cond.selects C y y ∈ lw_all) (h4 : Cond.initialized C ∈ lw_all) (h5 : Cond.code y b L r ∈ lw_all) : GoodIn lw_all (wsV own idx C y (ws_ y b L r)) := by
  refine lw_app ?_ (lw_meth h5)
  intro w hw
  simp only [List.mem_cons, List.not_mem_nil, or_false] at hw
  rcases hw with e | e | e | e
  · rw [e]; exact h1
  · rw [e]; exact h2
  · rw [e]; exact h3
  · rw [e]; exact h4
/-- what a static call asks: va_cwS n hts (lw_S ..) -/
theorem lw_S {own : String} {idx : Nat} {y : MethodName} {b : ByteArray} {L : Nat} {r : Option FieldType} (h1 : Cond.methodLink own idx y ∈ lw_all) (h2 : Cond.static y ∈ lw_all) (h3 : Cond.initialized y.cls ∈ lw_all) (h4 : Cond.code y b L r ∈ lw_all) : GoodIn lw_all (va_wsS own idx y (ws_ y b L r)) := by
  refine lw_app ?_ (lw_meth h4)
  intro w hw
  simp only [List.mem_cons, List.not_mem_nil, or_false] at hw
  rcases hw with e | e | e
  · rw [e]; exact h1
  · rw [e]; exact h2
  · rw [e]; exact h3
/-- the words of a contract for a method WITH HANDLERS (hh: its table) -/
abbrev wsW_ (y : MethodName) (b : ByteArray) (L : Nat) (r : Option FieldType) (hh : List (Nat × Nat × Nat × Nat)) : List Cond := Cond.codeWith y b L r hh :: lw_all
theorem lw_methW {y : MethodName} {b : ByteArray} {L : Nat} {r : Option FieldType} {hh : List (Nat × Nat × Nat × Nat)} (h : Cond.codeWith y b L r hh ∈ lw_all) : GoodIn lw_all (wsW_ y b L r hh) := by
  intro w hw
  rcases List.mem_cons.mp hw with e | e
  · rw [e]
    exact lw_self _ h
  · exact lw_self _ e
/-- any list of words by their places (lw_in), good -/
theorem lw_good {ws : List Cond} (h : ∀ w ∈ ws, w ∈ lw_all) : GoodIn lw_all ws := fun w hw => lw_self w (h w hw)
/-- what a call of a method with handlers asks: vx_cwVW n hts (lw_VW ..), vx_cwSW n hts (lw_SW ..) -/
theorem lw_VW {own : String} {idx : Nat} {C : String} {y : MethodName} {b : ByteArray} {L : Nat} {r : Option FieldType} {hh : List (Nat × Nat × Nat × Nat)} (h1 : Cond.methodLink own idx y ∈ lw_all) (h2 : Cond.instanceMethod y ∈ lw_all) (h3 : Cond.selects C y y ∈ lw_all) (h4 : Cond.initialized C ∈ lw_all) (h5 : Cond.codeWith y b L r hh ∈ lw_all) : GoodIn lw_all (wsV own idx C y (wsW_ y b L r hh)) := by
  refine lw_app ?_ (lw_methW h5)
  intro w hw
  simp only [List.mem_cons, List.not_mem_nil, or_false] at hw
  rcases hw with e | e | e | e
  · rw [e]; exact h1
  · rw [e]; exact h2
  · rw [e]; exact h3
  · rw [e]; exact h4
theorem lw_SW {own : String} {idx : Nat} {y : MethodName} {b : ByteArray} {L : Nat} {r : Option FieldType} {hh : List (Nat × Nat × Nat × Nat)} (h1 : Cond.methodLink own idx y ∈ lw_all) (h2 : Cond.static y ∈ lw_all) (h3 : Cond.initialized y.cls ∈ lw_all) (h4 : Cond.codeWith y b L r hh ∈ lw_all) : GoodIn lw_all (va_wsS own idx y (wsW_ y b L r hh)) := by
  refine lw_app ?_ (lw_methW h4)
  intro w hw
  simp only [List.mem_cons, List.not_mem_nil, or_false] at hw
  rcases hw with e | e | e
  · rw [e]; exact h1
  · rw [e]; exact h2
  · rw [e]; exact h3
/-- a word by its place in its run of the tables -/
theorem lw_at {r : List Cond} (hr : ∀ w ∈ r, w ∈ lw_tbl) {w : Cond} (i : Nat) (h : r[i]? = some w) : w ∈ lw_tbl := hr w (List.mem_of_getElem? h)
theorem lw_g {w : Cond} (h : w ∈ lw_tbl) (g : goodWord w = true) : w ∈ lw_all := List.mem_filter.mpr ⟨h, g⟩
theorem lw_ms : ∀ w ∈ k2_sels lw_privs, w ∈ lw_tbl := fun w h => show w ∈ k2_sels lw_privs ++ tables_1 from List.mem_append_left _ h
theorem lw_m0 : ∀ w ∈ tables_1, w ∈ lw_tbl := fun w h => show w ∈ k2_sels lw_privs ++ tables_1 from List.mem_append_right (k2_sels lw_privs) h
theorem qs0 : (Cond.selects "SortDesk" ⟨"SortDesk", "from", "(I)I"⟩ ⟨"SortDesk", "from", "(I)I"⟩) ∈ lw_all := lw_g (lw_at lw_ms 0 rfl) rfl
theorem qs1 : (Cond.selects "SortDesk" ⟨"SortDesk", "to", "(II)I"⟩ ⟨"SortDesk", "to", "(II)I"⟩) ∈ lw_all := lw_g (lw_at lw_ms 1 rfl) rfl
theorem qs2 : (Cond.selects "SortDeskModel" ⟨"SortDeskModel", "sort", "(II)V"⟩ ⟨"SortDeskModel", "sort", "(II)V"⟩) ∈ lw_all := lw_g (lw_at lw_ms 2 rfl) rfl
-- ===== end of PART A; then your names; then what follows =====
end
section
/-! DECODE ROWS BY BYTES: one lemma an opcode; a method's code is cut into short pieces once, and a row reads its own piece alone. -/
set_option maxRecDepth 100000
/-- the code has just these bytes from pc on -/
def DkAt (code : ByteArray) (pc : Nat) (bs : List UInt8) : Prop := ∀ (j : Nat) (b : UInt8), bs[j]? = some b → code.data.toList[pc + j]? = some b
/-- the piece W has the bytes bs from its place j on -/
def dkIn (W : List UInt8) (j : Nat) (bs : List UInt8) : Bool := decide ((W.drop j).take bs.length = bs)
theorem dk_seg {l W T : List UInt8} {o o2 : Nat} (h : l.drop o = W ++ T) (n : Nat) (hn : W.length = n) (ho : o + n = o2) : l.drop o2 = T := by
  subst ho
  rw [← List.drop_drop, h, List.drop_left' hn]
theorem dk_at {code : ByteArray} {W T bs : List UInt8} {o pc : Nat} (h : code.data.toList.drop o = W ++ T) (j : Nat) (hp : o + j = pc) (hw : dkIn W j bs = true) : DkAt code pc bs := by
  subst hp
  intro i b e
  have h1 := of_decide_eq_true hw
  have h2 : i < bs.length := (List.getElem?_eq_some_iff.mp e).1
  have h3 : W[j + i]? = some b := by
    rw [← h1, List.getElem?_take, if_pos h2, List.getElem?_drop] at e
    exact e
  have h4 : j + i < W.length := (List.getElem?_eq_some_iff.mp h3).1
  have h5 : (code.data.toList.drop o)[j + i]? = some b := by
    rw [h, List.getElem?_append_left h4]
    exact h3
  rw [List.getElem?_drop, ← Nat.add_assoc] at h5
  exact h5
theorem dk_u1 {A : ByteArray} {p : Nat} {b : UInt8} (h : A.data.toList[p]? = some b) : (Reader.u1 : Reader DecodeError Nat) A p = .ok (b.toNat, p + 1) := by
  obtain ⟨h1, h2⟩ := List.getElem?_eq_some_iff.mp h
  have h3 : p < A.size := by simpa using h1
  have h4 : A[p]'h3 = b := h2
  have e : (Reader.u1 : Reader DecodeError Nat) A p = (if h : p < A.size then .ok (A[p].toNat, p + 1) else .error (HasTruncated.truncated p)) := by
    show (do if h : p < A.size then do set (p + 1); Pure.pure A[p].toNat else MonadExcept.throw (HasTruncated.truncated p) : Reader DecodeError Nat) A p = _
    by_cases hi : p < A.size
    · rw [dif_pos hi, dif_pos hi]; rfl
    · rw [dif_neg hi, dif_neg hi]; rfl
  rw [e, dif_pos h3, h4]
theorem dk_bind {α β : Type} {r : Reader DecodeError α} {f : α → Reader DecodeError β} {A : ByteArray} {p s : Nat} {a : α} (h : r A p = .ok (a, s)) : (r >>= f) A p = f a A s := by
  show (do let (a, s) ← r A p; f a A s : Except DecodeError (β × Nat)) = _
  rw [h]
  rfl
theorem dk_map {α β : Type} {r : Reader DecodeError α} {g : α → β} {A : ByteArray} {p s : Nat} {a : α} (h : r A p = .ok (a, s)) : (g <$> r) A p = .ok (g a, s) := by
  show (do let (a, s) ← r A p; .ok (g a, s) : Except DecodeError (β × Nat)) = _
  rw [h]
  rfl
theorem dk_u2 {A : ByteArray} {p : Nat} {a b : UInt8} (h : A.data.toList[p]? = some a) (h2 : A.data.toList[p + 1]? = some b) : (Reader.u2 : Reader DecodeError Nat) A p = .ok (a.toNat * 256 + b.toNat, p + 2) := by
  show (Reader.u1 >>= fun hi => Reader.u1 >>= fun lo => Pure.pure (hi * 256 + lo) : Reader DecodeError Nat) A p = _
  rw [dk_bind (dk_u1 h), dk_bind (dk_u1 h2)]
  rfl
theorem dk_of {code : ByteArray} {pc n : Nat} {i : Instr} (h : Decoder.instr pc code pc = .ok (i, pc + n)) : decode code pc = .ok (i, n) := by
  have e : decode code pc = (match Decoder.instr pc code pc with | .error x => .error x | .ok (j, s) => .ok (j, s - pc)) := by
    show (do let (j, s) ← Decoder.instr pc code pc; Pure.pure (j, s - pc) : Except DecodeError (Instr × Nat)) = _
    cases Decoder.instr pc code pc <;> rfl
  rw [e, h]
  show Except.ok (i, pc + n - pc) = _
  rw [Nat.add_sub_cancel_left]
theorem dk_1 {code : ByteArray} {pc : Nat} (h : DkAt code pc [1]) : decode code pc = .ok (.aconst_null, 1) := dk_of ((dk_bind (dk_u1 (h 0 _ rfl))).trans rfl)
theorem dk_2 {code : ByteArray} {pc : Nat} (h : DkAt code pc [2]) : decode code pc = .ok (.iconst (-1), 1) := dk_of ((dk_bind (dk_u1 (h 0 _ rfl))).trans rfl)
theorem dk_3 {code : ByteArray} {pc : Nat} (h : DkAt code pc [3]) : decode code pc = .ok (.iconst 0, 1) := dk_of ((dk_bind (dk_u1 (h 0 _ rfl))).trans rfl)
theorem dk_4 {code : ByteArray} {pc : Nat} (h : DkAt code pc [4]) : decode code pc = .ok (.iconst 1, 1) := dk_of ((dk_bind (dk_u1 (h 0 _ rfl))).trans rfl)
theorem dk_5 {code : ByteArray} {pc : Nat} (h : DkAt code pc [5]) : decode code pc = .ok (.iconst 2, 1) := dk_of ((dk_bind (dk_u1 (h 0 _ rfl))).trans rfl)
theorem dk_6 {code : ByteArray} {pc : Nat} (h : DkAt code pc [6]) : decode code pc = .ok (.iconst 3, 1) := dk_of ((dk_bind (dk_u1 (h 0 _ rfl))).trans rfl)
theorem dk_7 {code : ByteArray} {pc : Nat} (h : DkAt code pc [7]) : decode code pc = .ok (.iconst 4, 1) := dk_of ((dk_bind (dk_u1 (h 0 _ rfl))).trans rfl)
theorem dk_16 {code : ByteArray} {pc : Nat} (a : UInt8) (h : DkAt code pc [16, a]) : decode code pc = .ok (.bipush (Reader.signed 8 a.toNat), 2) := dk_of ((dk_bind (dk_u1 (h 0 _ rfl))).trans ((dk_bind (dk_map (dk_u1 (h 1 _ rfl)))).trans rfl))
theorem dk_17 {code : ByteArray} {pc : Nat} (a b : UInt8) (h : DkAt code pc [17, a, b]) : decode code pc = .ok (.sipush (Reader.signed 16 (a.toNat * 256 + b.toNat)), 3) := dk_of ((dk_bind (dk_u1 (h 0 _ rfl))).trans ((dk_bind (dk_map (dk_u2 (h 1 _ rfl) (h 2 _ rfl)))).trans rfl))
theorem dk_18 {code : ByteArray} {pc : Nat} (a : UInt8) (h : DkAt code pc [18, a]) : decode code pc = .ok (.ldc a.toNat, 2) := dk_of ((dk_bind (dk_u1 (h 0 _ rfl))).trans ((dk_bind (dk_u1 (h 1 _ rfl))).trans rfl))
theorem dk_21 {code : ByteArray} {pc : Nat} (a : UInt8) (h : DkAt code pc [21, a]) : decode code pc = .ok (.iload a.toNat, 2) := dk_of ((dk_bind (dk_u1 (h 0 _ rfl))).trans ((dk_bind (dk_u1 (h 1 _ rfl))).trans rfl))
theorem dk_25 {code : ByteArray} {pc : Nat} (a : UInt8) (h : DkAt code pc [25, a]) : decode code pc = .ok (.aload a.toNat, 2) := dk_of ((dk_bind (dk_u1 (h 0 _ rfl))).trans ((dk_bind (dk_u1 (h 1 _ rfl))).trans rfl))
theorem dk_26 {code : ByteArray} {pc : Nat} (h : DkAt code pc [26]) : decode code pc = .ok (.iload_n 0, 1) := dk_of ((dk_bind (dk_u1 (h 0 _ rfl))).trans rfl)
theorem dk_27 {code : ByteArray} {pc : Nat} (h : DkAt code pc [27]) : decode code pc = .ok (.iload_n 1, 1) := dk_of ((dk_bind (dk_u1 (h 0 _ rfl))).trans rfl)
theorem dk_28 {code : ByteArray} {pc : Nat} (h : DkAt code pc [28]) : decode code pc = .ok (.iload_n 2, 1) := dk_of ((dk_bind (dk_u1 (h 0 _ rfl))).trans rfl)
theorem dk_29 {code : ByteArray} {pc : Nat} (h : DkAt code pc [29]) : decode code pc = .ok (.iload_n 3, 1) := dk_of ((dk_bind (dk_u1 (h 0 _ rfl))).trans rfl)
theorem dk_42 {code : ByteArray} {pc : Nat} (h : DkAt code pc [42]) : decode code pc = .ok (.aload_n 0, 1) := dk_of ((dk_bind (dk_u1 (h 0 _ rfl))).trans rfl)
theorem dk_43 {code : ByteArray} {pc : Nat} (h : DkAt code pc [43]) : decode code pc = .ok (.aload_n 1, 1) := dk_of ((dk_bind (dk_u1 (h 0 _ rfl))).trans rfl)
theorem dk_44 {code : ByteArray} {pc : Nat} (h : DkAt code pc [44]) : decode code pc = .ok (.aload_n 2, 1) := dk_of ((dk_bind (dk_u1 (h 0 _ rfl))).trans rfl)
theorem dk_45 {code : ByteArray} {pc : Nat} (h : DkAt code pc [45]) : decode code pc = .ok (.aload_n 3, 1) := dk_of ((dk_bind (dk_u1 (h 0 _ rfl))).trans rfl)
theorem dk_46 {code : ByteArray} {pc : Nat} (h : DkAt code pc [46]) : decode code pc = .ok (.iaload, 1) := dk_of ((dk_bind (dk_u1 (h 0 _ rfl))).trans rfl)
theorem dk_54 {code : ByteArray} {pc : Nat} (a : UInt8) (h : DkAt code pc [54, a]) : decode code pc = .ok (.istore a.toNat, 2) := dk_of ((dk_bind (dk_u1 (h 0 _ rfl))).trans ((dk_bind (dk_u1 (h 1 _ rfl))).trans rfl))
theorem dk_58 {code : ByteArray} {pc : Nat} (a : UInt8) (h : DkAt code pc [58, a]) : decode code pc = .ok (.astore a.toNat, 2) := dk_of ((dk_bind (dk_u1 (h 0 _ rfl))).trans ((dk_bind (dk_u1 (h 1 _ rfl))).trans rfl))
theorem dk_60 {code : ByteArray} {pc : Nat} (h : DkAt code pc [60]) : decode code pc = .ok (.istore_n 1, 1) := dk_of ((dk_bind (dk_u1 (h 0 _ rfl))).trans rfl)
theorem dk_61 {code : ByteArray} {pc : Nat} (h : DkAt code pc [61]) : decode code pc = .ok (.istore_n 2, 1) := dk_of ((dk_bind (dk_u1 (h 0 _ rfl))).trans rfl)
theorem dk_62 {code : ByteArray} {pc : Nat} (h : DkAt code pc [62]) : decode code pc = .ok (.istore_n 3, 1) := dk_of ((dk_bind (dk_u1 (h 0 _ rfl))).trans rfl)
theorem dk_76 {code : ByteArray} {pc : Nat} (h : DkAt code pc [76]) : decode code pc = .ok (.astore_n 1, 1) := dk_of ((dk_bind (dk_u1 (h 0 _ rfl))).trans rfl)
theorem dk_77 {code : ByteArray} {pc : Nat} (h : DkAt code pc [77]) : decode code pc = .ok (.astore_n 2, 1) := dk_of ((dk_bind (dk_u1 (h 0 _ rfl))).trans rfl)
theorem dk_78 {code : ByteArray} {pc : Nat} (h : DkAt code pc [78]) : decode code pc = .ok (.astore_n 3, 1) := dk_of ((dk_bind (dk_u1 (h 0 _ rfl))).trans rfl)
theorem dk_79 {code : ByteArray} {pc : Nat} (h : DkAt code pc [79]) : decode code pc = .ok (.iastore, 1) := dk_of ((dk_bind (dk_u1 (h 0 _ rfl))).trans rfl)
theorem dk_87 {code : ByteArray} {pc : Nat} (h : DkAt code pc [87]) : decode code pc = .ok (.pop, 1) := dk_of ((dk_bind (dk_u1 (h 0 _ rfl))).trans rfl)
theorem dk_89 {code : ByteArray} {pc : Nat} (h : DkAt code pc [89]) : decode code pc = .ok (.dup, 1) := dk_of ((dk_bind (dk_u1 (h 0 _ rfl))).trans rfl)
theorem dk_91 {code : ByteArray} {pc : Nat} (h : DkAt code pc [91]) : decode code pc = .ok (.dup_x2, 1) := dk_of ((dk_bind (dk_u1 (h 0 _ rfl))).trans rfl)
theorem dk_92 {code : ByteArray} {pc : Nat} (h : DkAt code pc [92]) : decode code pc = .ok (.dup2, 1) := dk_of ((dk_bind (dk_u1 (h 0 _ rfl))).trans rfl)
theorem dk_96 {code : ByteArray} {pc : Nat} (h : DkAt code pc [96]) : decode code pc = .ok (.iadd, 1) := dk_of ((dk_bind (dk_u1 (h 0 _ rfl))).trans rfl)
theorem dk_100 {code : ByteArray} {pc : Nat} (h : DkAt code pc [100]) : decode code pc = .ok (.isub, 1) := dk_of ((dk_bind (dk_u1 (h 0 _ rfl))).trans rfl)
theorem dk_104 {code : ByteArray} {pc : Nat} (h : DkAt code pc [104]) : decode code pc = .ok (.imul, 1) := dk_of ((dk_bind (dk_u1 (h 0 _ rfl))).trans rfl)
theorem dk_108 {code : ByteArray} {pc : Nat} (h : DkAt code pc [108]) : decode code pc = .ok (.idiv, 1) := dk_of ((dk_bind (dk_u1 (h 0 _ rfl))).trans rfl)
theorem dk_112 {code : ByteArray} {pc : Nat} (h : DkAt code pc [112]) : decode code pc = .ok (.irem, 1) := dk_of ((dk_bind (dk_u1 (h 0 _ rfl))).trans rfl)
theorem dk_116 {code : ByteArray} {pc : Nat} (h : DkAt code pc [116]) : decode code pc = .ok (.ineg, 1) := dk_of ((dk_bind (dk_u1 (h 0 _ rfl))).trans rfl)
theorem dk_124 {code : ByteArray} {pc : Nat} (h : DkAt code pc [124]) : decode code pc = .ok (.iushr, 1) := dk_of ((dk_bind (dk_u1 (h 0 _ rfl))).trans rfl)
theorem dk_126 {code : ByteArray} {pc : Nat} (h : DkAt code pc [126]) : decode code pc = .ok (.iand, 1) := dk_of ((dk_bind (dk_u1 (h 0 _ rfl))).trans rfl)
theorem dk_130 {code : ByteArray} {pc : Nat} (h : DkAt code pc [130]) : decode code pc = .ok (.ixor, 1) := dk_of ((dk_bind (dk_u1 (h 0 _ rfl))).trans rfl)
theorem dk_132 {code : ByteArray} {pc : Nat} (a b : UInt8) (h : DkAt code pc [132, a, b]) : decode code pc = .ok (.iinc a.toNat (Reader.signed 8 b.toNat), 3) := dk_of ((dk_bind (dk_u1 (h 0 _ rfl))).trans ((dk_bind (dk_u1 (h 1 _ rfl))).trans ((dk_bind (dk_map (dk_u1 (h 2 _ rfl)))).trans rfl)))
theorem dk_153 {code : ByteArray} {pc : Nat} (a b : UInt8) (h : DkAt code pc [153, a, b]) : decode code pc = .ok (.ifCond .eq (Reader.signed 16 (a.toNat * 256 + b.toNat)), 3) := dk_of ((dk_bind (dk_u1 (h 0 _ rfl))).trans ((dk_bind (dk_map (dk_u2 (h 1 _ rfl) (h 2 _ rfl)))).trans rfl))
theorem dk_154 {code : ByteArray} {pc : Nat} (a b : UInt8) (h : DkAt code pc [154, a, b]) : decode code pc = .ok (.ifCond .ne (Reader.signed 16 (a.toNat * 256 + b.toNat)), 3) := dk_of ((dk_bind (dk_u1 (h 0 _ rfl))).trans ((dk_bind (dk_map (dk_u2 (h 1 _ rfl) (h 2 _ rfl)))).trans rfl))
theorem dk_155 {code : ByteArray} {pc : Nat} (a b : UInt8) (h : DkAt code pc [155, a, b]) : decode code pc = .ok (.ifCond .lt (Reader.signed 16 (a.toNat * 256 + b.toNat)), 3) := dk_of ((dk_bind (dk_u1 (h 0 _ rfl))).trans ((dk_bind (dk_map (dk_u2 (h 1 _ rfl) (h 2 _ rfl)))).trans rfl))
theorem dk_156 {code : ByteArray} {pc : Nat} (a b : UInt8) (h : DkAt code pc [156, a, b]) : decode code pc = .ok (.ifCond .ge (Reader.signed 16 (a.toNat * 256 + b.toNat)), 3) := dk_of ((dk_bind (dk_u1 (h 0 _ rfl))).trans ((dk_bind (dk_map (dk_u2 (h 1 _ rfl) (h 2 _ rfl)))).trans rfl))
theorem dk_157 {code : ByteArray} {pc : Nat} (a b : UInt8) (h : DkAt code pc [157, a, b]) : decode code pc = .ok (.ifCond .gt (Reader.signed 16 (a.toNat * 256 + b.toNat)), 3) := dk_of ((dk_bind (dk_u1 (h 0 _ rfl))).trans ((dk_bind (dk_map (dk_u2 (h 1 _ rfl) (h 2 _ rfl)))).trans rfl))
theorem dk_158 {code : ByteArray} {pc : Nat} (a b : UInt8) (h : DkAt code pc [158, a, b]) : decode code pc = .ok (.ifCond .le (Reader.signed 16 (a.toNat * 256 + b.toNat)), 3) := dk_of ((dk_bind (dk_u1 (h 0 _ rfl))).trans ((dk_bind (dk_map (dk_u2 (h 1 _ rfl) (h 2 _ rfl)))).trans rfl))
theorem dk_159 {code : ByteArray} {pc : Nat} (a b : UInt8) (h : DkAt code pc [159, a, b]) : decode code pc = .ok (.if_icmp .eq (Reader.signed 16 (a.toNat * 256 + b.toNat)), 3) := dk_of ((dk_bind (dk_u1 (h 0 _ rfl))).trans ((dk_bind (dk_map (dk_u2 (h 1 _ rfl) (h 2 _ rfl)))).trans rfl))
theorem dk_160 {code : ByteArray} {pc : Nat} (a b : UInt8) (h : DkAt code pc [160, a, b]) : decode code pc = .ok (.if_icmp .ne (Reader.signed 16 (a.toNat * 256 + b.toNat)), 3) := dk_of ((dk_bind (dk_u1 (h 0 _ rfl))).trans ((dk_bind (dk_map (dk_u2 (h 1 _ rfl) (h 2 _ rfl)))).trans rfl))
theorem dk_161 {code : ByteArray} {pc : Nat} (a b : UInt8) (h : DkAt code pc [161, a, b]) : decode code pc = .ok (.if_icmp .lt (Reader.signed 16 (a.toNat * 256 + b.toNat)), 3) := dk_of ((dk_bind (dk_u1 (h 0 _ rfl))).trans ((dk_bind (dk_map (dk_u2 (h 1 _ rfl) (h 2 _ rfl)))).trans rfl))
theorem dk_162 {code : ByteArray} {pc : Nat} (a b : UInt8) (h : DkAt code pc [162, a, b]) : decode code pc = .ok (.if_icmp .ge (Reader.signed 16 (a.toNat * 256 + b.toNat)), 3) := dk_of ((dk_bind (dk_u1 (h 0 _ rfl))).trans ((dk_bind (dk_map (dk_u2 (h 1 _ rfl) (h 2 _ rfl)))).trans rfl))
theorem dk_163 {code : ByteArray} {pc : Nat} (a b : UInt8) (h : DkAt code pc [163, a, b]) : decode code pc = .ok (.if_icmp .gt (Reader.signed 16 (a.toNat * 256 + b.toNat)), 3) := dk_of ((dk_bind (dk_u1 (h 0 _ rfl))).trans ((dk_bind (dk_map (dk_u2 (h 1 _ rfl) (h 2 _ rfl)))).trans rfl))
theorem dk_164 {code : ByteArray} {pc : Nat} (a b : UInt8) (h : DkAt code pc [164, a, b]) : decode code pc = .ok (.if_icmp .le (Reader.signed 16 (a.toNat * 256 + b.toNat)), 3) := dk_of ((dk_bind (dk_u1 (h 0 _ rfl))).trans ((dk_bind (dk_map (dk_u2 (h 1 _ rfl) (h 2 _ rfl)))).trans rfl))
theorem dk_167 {code : ByteArray} {pc : Nat} (a b : UInt8) (h : DkAt code pc [167, a, b]) : decode code pc = .ok (.goto (Reader.signed 16 (a.toNat * 256 + b.toNat)), 3) := dk_of ((dk_bind (dk_u1 (h 0 _ rfl))).trans ((dk_bind (dk_map (dk_u2 (h 1 _ rfl) (h 2 _ rfl)))).trans rfl))
theorem dk_172 {code : ByteArray} {pc : Nat} (h : DkAt code pc [172]) : decode code pc = .ok (.ireturn, 1) := dk_of ((dk_bind (dk_u1 (h 0 _ rfl))).trans rfl)
theorem dk_176 {code : ByteArray} {pc : Nat} (h : DkAt code pc [176]) : decode code pc = .ok (.areturn, 1) := dk_of ((dk_bind (dk_u1 (h 0 _ rfl))).trans rfl)
theorem dk_177 {code : ByteArray} {pc : Nat} (h : DkAt code pc [177]) : decode code pc = .ok (.return_, 1) := dk_of ((dk_bind (dk_u1 (h 0 _ rfl))).trans rfl)
theorem dk_180 {code : ByteArray} {pc : Nat} (a b : UInt8) (h : DkAt code pc [180, a, b]) : decode code pc = .ok (.getfield (a.toNat * 256 + b.toNat), 3) := dk_of ((dk_bind (dk_u1 (h 0 _ rfl))).trans ((dk_bind (dk_u2 (h 1 _ rfl) (h 2 _ rfl))).trans rfl))
theorem dk_181 {code : ByteArray} {pc : Nat} (a b : UInt8) (h : DkAt code pc [181, a, b]) : decode code pc = .ok (.putfield (a.toNat * 256 + b.toNat), 3) := dk_of ((dk_bind (dk_u1 (h 0 _ rfl))).trans ((dk_bind (dk_u2 (h 1 _ rfl) (h 2 _ rfl))).trans rfl))
theorem dk_182 {code : ByteArray} {pc : Nat} (a b : UInt8) (h : DkAt code pc [182, a, b]) : decode code pc = .ok (.invokevirtual (a.toNat * 256 + b.toNat), 3) := dk_of ((dk_bind (dk_u1 (h 0 _ rfl))).trans ((dk_bind (dk_u2 (h 1 _ rfl) (h 2 _ rfl))).trans rfl))
theorem dk_183 {code : ByteArray} {pc : Nat} (a b : UInt8) (h : DkAt code pc [183, a, b]) : decode code pc = .ok (.invokespecial (a.toNat * 256 + b.toNat), 3) := dk_of ((dk_bind (dk_u1 (h 0 _ rfl))).trans ((dk_bind (dk_u2 (h 1 _ rfl) (h 2 _ rfl))).trans rfl))
theorem dk_184 {code : ByteArray} {pc : Nat} (a b : UInt8) (h : DkAt code pc [184, a, b]) : decode code pc = .ok (.invokestatic (a.toNat * 256 + b.toNat), 3) := dk_of ((dk_bind (dk_u1 (h 0 _ rfl))).trans ((dk_bind (dk_u2 (h 1 _ rfl) (h 2 _ rfl))).trans rfl))
theorem dk_187 {code : ByteArray} {pc : Nat} (a b : UInt8) (h : DkAt code pc [187, a, b]) : decode code pc = .ok (.new (a.toNat * 256 + b.toNat), 3) := dk_of ((dk_bind (dk_u1 (h 0 _ rfl))).trans ((dk_bind (dk_u2 (h 1 _ rfl) (h 2 _ rfl))).trans rfl))
theorem dk_188_10 {code : ByteArray} {pc : Nat} (h : DkAt code pc [188, 10]) : decode code pc = .ok (.newarray .int, 2) := dk_of ((dk_bind (dk_u1 (h 0 _ rfl))).trans ((dk_bind (dk_u1 (h 1 _ rfl))).trans rfl))
theorem dk_190 {code : ByteArray} {pc : Nat} (h : DkAt code pc [190]) : decode code pc = .ok (.arraylength, 1) := dk_of ((dk_bind (dk_u1 (h 0 _ rfl))).trans rfl)
theorem dk_192 {code : ByteArray} {pc : Nat} (a b : UInt8) (h : DkAt code pc [192, a, b]) : decode code pc = .ok (.checkcast (a.toNat * 256 + b.toNat), 3) := dk_of ((dk_bind (dk_u1 (h 0 _ rfl))).trans ((dk_bind (dk_u2 (h 1 _ rfl) (h 2 _ rfl))).trans rfl))
theorem dk_199 {code : ByteArray} {pc : Nat} (a b : UInt8) (h : DkAt code pc [199, a, b]) : decode code pc = .ok (.ifnonnull (Reader.signed 16 (a.toNat * 256 + b.toNat)), 3) := dk_of ((dk_bind (dk_u1 (h 0 _ rfl))).trans ((dk_bind (dk_map (dk_u2 (h 1 _ rfl) (h 2 _ rfl)))).trans rfl))
end
section
/-! java/lang/Integer -/
set_option maxRecDepth 100000
def RJ0 : String := "java/lang/Integer"
abbrev cJ0_compare : ByteArray := prog_6_method_40_code
def yJ0_compare : MethodName := ⟨RJ0, "compare", "(II)I"⟩
def dkwJ0_compare_0 : List UInt8 := [26, 27, 162, 0, 7, 2, 167, 0, 13, 26, 27, 160, 0, 7, 3, 167, 0, 4, 4, 172]
abbrev dktJ0_compare_0 : List UInt8 := dkwJ0_compare_0 ++ []
theorem dksJ0_compare_0 : cJ0_compare.data.toList.drop 0 = dktJ0_compare_0 := by decide +kernel
theorem dJ0_compare_0 : decode cJ0_compare 0 = .ok (.iload_n 0, 1) := dk_26 (dk_at dksJ0_compare_0 0 rfl rfl)
theorem dJ0_compare_1 : decode cJ0_compare 1 = .ok (.iload_n 1, 1) := dk_27 (dk_at dksJ0_compare_0 1 rfl rfl)
theorem dJ0_compare_2 : decode cJ0_compare 2 = .ok (.if_icmp .ge 7, 3) := dk_162 0 7 (dk_at dksJ0_compare_0 2 rfl rfl)
theorem dJ0_compare_5 : decode cJ0_compare 5 = .ok (.iconst (-1), 1) := dk_2 (dk_at dksJ0_compare_0 5 rfl rfl)
theorem dJ0_compare_6 : decode cJ0_compare 6 = .ok (.goto 13, 3) := dk_167 0 13 (dk_at dksJ0_compare_0 6 rfl rfl)
theorem dJ0_compare_9 : decode cJ0_compare 9 = .ok (.iload_n 0, 1) := dk_26 (dk_at dksJ0_compare_0 9 rfl rfl)
theorem dJ0_compare_10 : decode cJ0_compare 10 = .ok (.iload_n 1, 1) := dk_27 (dk_at dksJ0_compare_0 10 rfl rfl)
theorem dJ0_compare_11 : decode cJ0_compare 11 = .ok (.if_icmp .ne 7, 3) := dk_160 0 7 (dk_at dksJ0_compare_0 11 rfl rfl)
theorem dJ0_compare_14 : decode cJ0_compare 14 = .ok (.iconst 0, 1) := dk_3 (dk_at dksJ0_compare_0 14 rfl rfl)
theorem dJ0_compare_15 : decode cJ0_compare 15 = .ok (.goto 4, 3) := dk_167 0 4 (dk_at dksJ0_compare_0 15 rfl rfl)
theorem dJ0_compare_18 : decode cJ0_compare 18 = .ok (.iconst 1, 1) := dk_4 (dk_at dksJ0_compare_0 18 rfl rfl)
theorem dJ0_compare_19 : decode cJ0_compare 19 = .ok (.ireturn, 1) := dk_172 (dk_at dksJ0_compare_0 19 rfl rfl)
theorem q7 : (Jvm.Cond.initialized "java/lang/Integer") ∈ lw_all := lw_g (lw_at lw_m0 4 rfl) rfl
theorem q70 : (Jvm.Cond.static ({ cls := "java/lang/Integer", name := "compare", desc := "(II)I" } : Jvm.MethodName)) ∈ lw_all := lw_g (lw_at lw_m0 67 rfl) rfl
theorem q71 : (Jvm.Cond.code ({ cls := "java/lang/Integer", name := "compare", desc := "(II)I" } : Jvm.MethodName) prog_6_method_40_code (2 : Nat) (Option.some Jvm.ClassFile.FieldType.int)) ∈ lw_all := lw_g (lw_at lw_m0 68 rfl) rfl
/-! java/lang/Math -/
set_option maxRecDepth 100000
def RJ1 : String := "java/lang/Math"
abbrev cJ1_min : ByteArray := prog_7_method_69_code
def yJ1_min : MethodName := ⟨RJ1, "min", "(II)I"⟩
def dkwJ1_min_0 : List UInt8 := [26, 27, 163, 0, 7, 26, 167, 0, 4, 27, 172]
abbrev dktJ1_min_0 : List UInt8 := dkwJ1_min_0 ++ []
theorem dksJ1_min_0 : cJ1_min.data.toList.drop 0 = dktJ1_min_0 := by decide +kernel
theorem dJ1_min_0 : decode cJ1_min 0 = .ok (.iload_n 0, 1) := dk_26 (dk_at dksJ1_min_0 0 rfl rfl)
theorem dJ1_min_1 : decode cJ1_min 1 = .ok (.iload_n 1, 1) := dk_27 (dk_at dksJ1_min_0 1 rfl rfl)
theorem dJ1_min_2 : decode cJ1_min 2 = .ok (.if_icmp .gt 7, 3) := dk_163 0 7 (dk_at dksJ1_min_0 2 rfl rfl)
theorem dJ1_min_5 : decode cJ1_min 5 = .ok (.iload_n 0, 1) := dk_26 (dk_at dksJ1_min_0 5 rfl rfl)
theorem dJ1_min_6 : decode cJ1_min 6 = .ok (.goto 4, 3) := dk_167 0 4 (dk_at dksJ1_min_0 6 rfl rfl)
theorem dJ1_min_9 : decode cJ1_min 9 = .ok (.iload_n 1, 1) := dk_27 (dk_at dksJ1_min_0 9 rfl rfl)
theorem dJ1_min_10 : decode cJ1_min 10 = .ok (.ireturn, 1) := dk_172 (dk_at dksJ1_min_0 10 rfl rfl)
theorem q8 : (Jvm.Cond.initialized "java/lang/Math") ∈ lw_all := lw_g (lw_at lw_m0 5 rfl) rfl
theorem q76 : (Jvm.Cond.static ({ cls := "java/lang/Math", name := "min", desc := "(II)I" } : Jvm.MethodName)) ∈ lw_all := lw_g (lw_at lw_m0 73 rfl) rfl
theorem q77 : (Jvm.Cond.code ({ cls := "java/lang/Math", name := "min", desc := "(II)I" } : Jvm.MethodName) prog_7_method_69_code (2 : Nat) (Option.some Jvm.ClassFile.FieldType.int)) ∈ lw_all := lw_g (lw_at lw_m0 74 rfl) rfl
/-! java/util/Arrays -/
set_option maxRecDepth 100000
def RJ2 : String := "java/util/Arrays"
abbrev cJ2_copyOf : ByteArray := prog_9_method_123_code
def yJ2_copyOf : MethodName := ⟨RJ2, "copyOf", "([II)[I"⟩
def dkwJ2_copyOf_1 : List UInt8 := [27, 184, 1, 48, 184, 0, 150, 44, 176]
abbrev dktJ2_copyOf_1 : List UInt8 := dkwJ2_copyOf_1 ++ []
def dkwJ2_copyOf_0 : List UInt8 := [27, 42, 190, 160, 0, 11, 42, 182, 1, 60, 192, 1, 61, 176, 27, 188, 10, 77, 42, 3, 44, 3, 42, 190]
abbrev dktJ2_copyOf_0 : List UInt8 := dkwJ2_copyOf_0 ++ dktJ2_copyOf_1
theorem dksJ2_copyOf_0 : cJ2_copyOf.data.toList.drop 0 = dktJ2_copyOf_0 := by decide +kernel
theorem dksJ2_copyOf_1 : cJ2_copyOf.data.toList.drop 24 = dktJ2_copyOf_1 := dk_seg dksJ2_copyOf_0 24 rfl rfl
theorem dJ2_copyOf_0 : decode cJ2_copyOf 0 = .ok (.iload_n 1, 1) := dk_27 (dk_at dksJ2_copyOf_0 0 rfl rfl)
theorem dJ2_copyOf_1 : decode cJ2_copyOf 1 = .ok (.aload_n 0, 1) := dk_42 (dk_at dksJ2_copyOf_0 1 rfl rfl)
theorem dJ2_copyOf_2 : decode cJ2_copyOf 2 = .ok (.arraylength, 1) := dk_190 (dk_at dksJ2_copyOf_0 2 rfl rfl)
theorem dJ2_copyOf_3 : decode cJ2_copyOf 3 = .ok (.if_icmp .ne 11, 3) := dk_160 0 11 (dk_at dksJ2_copyOf_0 3 rfl rfl)
theorem dJ2_copyOf_6 : decode cJ2_copyOf 6 = .ok (.aload_n 0, 1) := dk_42 (dk_at dksJ2_copyOf_0 6 rfl rfl)
theorem dJ2_copyOf_7 : decode cJ2_copyOf 7 = .ok (.invokevirtual 316, 3) := dk_182 1 60 (dk_at dksJ2_copyOf_0 7 rfl rfl)
theorem dJ2_copyOf_10 : decode cJ2_copyOf 10 = .ok (.checkcast 317, 3) := dk_192 1 61 (dk_at dksJ2_copyOf_0 10 rfl rfl)
theorem dJ2_copyOf_13 : decode cJ2_copyOf 13 = .ok (.areturn, 1) := dk_176 (dk_at dksJ2_copyOf_0 13 rfl rfl)
theorem dJ2_copyOf_14 : decode cJ2_copyOf 14 = .ok (.iload_n 1, 1) := dk_27 (dk_at dksJ2_copyOf_0 14 rfl rfl)
theorem dJ2_copyOf_15 : decode cJ2_copyOf 15 = .ok (.newarray .int, 2) := dk_188_10 (dk_at dksJ2_copyOf_0 15 rfl rfl)
theorem dJ2_copyOf_17 : decode cJ2_copyOf 17 = .ok (.astore_n 2, 1) := dk_77 (dk_at dksJ2_copyOf_0 17 rfl rfl)
theorem dJ2_copyOf_18 : decode cJ2_copyOf 18 = .ok (.aload_n 0, 1) := dk_42 (dk_at dksJ2_copyOf_0 18 rfl rfl)
theorem dJ2_copyOf_19 : decode cJ2_copyOf 19 = .ok (.iconst 0, 1) := dk_3 (dk_at dksJ2_copyOf_0 19 rfl rfl)
theorem dJ2_copyOf_20 : decode cJ2_copyOf 20 = .ok (.aload_n 2, 1) := dk_44 (dk_at dksJ2_copyOf_0 20 rfl rfl)
theorem dJ2_copyOf_21 : decode cJ2_copyOf 21 = .ok (.iconst 0, 1) := dk_3 (dk_at dksJ2_copyOf_0 21 rfl rfl)
theorem dJ2_copyOf_22 : decode cJ2_copyOf 22 = .ok (.aload_n 0, 1) := dk_42 (dk_at dksJ2_copyOf_0 22 rfl rfl)
theorem dJ2_copyOf_23 : decode cJ2_copyOf 23 = .ok (.arraylength, 1) := dk_190 (dk_at dksJ2_copyOf_0 23 rfl rfl)
theorem dJ2_copyOf_24 : decode cJ2_copyOf 24 = .ok (.iload_n 1, 1) := dk_27 (dk_at dksJ2_copyOf_1 0 rfl rfl)
theorem dJ2_copyOf_25 : decode cJ2_copyOf 25 = .ok (.invokestatic 304, 3) := dk_184 1 48 (dk_at dksJ2_copyOf_1 1 rfl rfl)
theorem dJ2_copyOf_28 : decode cJ2_copyOf 28 = .ok (.invokestatic 150, 3) := dk_184 0 150 (dk_at dksJ2_copyOf_1 4 rfl rfl)
theorem dJ2_copyOf_31 : decode cJ2_copyOf 31 = .ok (.aload_n 2, 1) := dk_44 (dk_at dksJ2_copyOf_1 7 rfl rfl)
theorem dJ2_copyOf_32 : decode cJ2_copyOf 32 = .ok (.areturn, 1) := dk_176 (dk_at dksJ2_copyOf_1 8 rfl rfl)
theorem q9 : (Jvm.Cond.initialized "java/util/Arrays") ∈ lw_all := lw_g (lw_at lw_m0 6 rfl) rfl
theorem q97 : (Jvm.Cond.static ({ cls := "java/util/Arrays", name := "copyOf", desc := "([II)[I" } : Jvm.MethodName)) ∈ lw_all := lw_g (lw_at lw_m0 94 rfl) rfl
theorem q98 : (Jvm.Cond.code ({ cls := "java/util/Arrays", name := "copyOf", desc := "([II)[I" } : Jvm.MethodName) prog_9_method_123_code (3 : Nat) (Option.some (Jvm.ClassFile.FieldType.array Jvm.ClassFile.FieldType.int))) ∈ lw_all := lw_g (lw_at lw_m0 95 rfl) rfl
theorem q99 : (Jvm.Cond.methodLink "java/util/Arrays" (316 : Nat) ({ cls := "[I", name := "clone", desc := "()Ljava/lang/Object;" } : Jvm.MethodName)) ∈ lw_all := lw_g (lw_at lw_m0 96 rfl) rfl
theorem q105 : (Jvm.Cond.classLink "java/util/Arrays" (317 : Nat) "[I") ∈ lw_all := lw_g (lw_at lw_m0 102 rfl) rfl
theorem q106 : (Jvm.Cond.methodLink "java/util/Arrays" (304 : Nat) ({ cls := "java/lang/Math", name := "min", desc := "(II)I" } : Jvm.MethodName)) ∈ lw_all := lw_g (lw_at lw_m0 103 rfl) rfl
theorem q107 : (Jvm.Cond.methodLink "java/util/Arrays" (150 : Nat) ({ cls := "java/lang/System", name := "arraycopy", desc := "(Ljava/lang/Object;ILjava/lang/Object;II)V" } : Jvm.MethodName)) ∈ lw_all := lw_g (lw_at lw_m0 104 rfl) rfl
/-! java/lang/Object -/
set_option maxRecDepth 100000
def RJ3 : String := "java/lang/Object"
abbrev cJ3_init : ByteArray := object_method_1_code
def yJ3_init : MethodName := ⟨RJ3, "<init>", "()V"⟩
theorem dJ3_init_0 : decode cJ3_init 0 = .ok (.return_, 1) := by decide +kernel
theorem q17 : (Jvm.Cond.instanceMethod ({ cls := "java/lang/Object", name := "<init>", desc := "()V" } : Jvm.MethodName)) ∈ lw_all := lw_g (lw_at lw_m0 14 rfl) rfl
theorem q18 : (Jvm.Cond.code ({ cls := "java/lang/Object", name := "<init>", desc := "()V" } : Jvm.MethodName) object_method_1_code (1 : Nat) (Option.none : Option Jvm.ClassFile.FieldType)) ∈ lw_all := lw_g (lw_at lw_m0 15 rfl) rfl
theorem q101 : (Jvm.Cond.native ({ cls := "java/lang/Object", name := "clone", desc := "()Ljava/lang/Object;" } : Jvm.MethodName)) ∈ lw_all := lw_g (lw_at lw_m0 98 rfl) rfl
theorem q102 : (Jvm.Cond.instanceMethod ({ cls := "java/lang/Object", name := "clone", desc := "()Ljava/lang/Object;" } : Jvm.MethodName)) ∈ lw_all := lw_g (lw_at lw_m0 99 rfl) rfl
theorem q207 : (Jvm.Cond.initialized "java/lang/Object") ∈ lw_all := lw_g (lw_at lw_m0 204 rfl) rfl
theorem q3 : (Jvm.Cond.initialized "SortDeskLaw") ∈ lw_all := lw_g (lw_at lw_m0 0 rfl) rfl
set_option maxRecDepth 100000
theorem q11 : (Jvm.Cond.classLink "SortDeskLaw" (7 : Nat) "SortDesk") ∈ lw_all := lw_g (lw_at lw_m0 8 rfl) rfl
theorem q13 : (Jvm.Cond.methodLink "SortDeskLaw" (9 : Nat) ({ cls := "SortDesk", name := "<init>", desc := "()V" } : Jvm.MethodName)) ∈ lw_all := lw_g (lw_at lw_m0 10 rfl) rfl
theorem q27 : (Jvm.Cond.methodLink "SortDeskLaw" (13 : Nat) ({ cls := "SortDesk", name := "put", desc := "(IIII)Z" } : Jvm.MethodName)) ∈ lw_all := lw_g (lw_at lw_m0 24 rfl) rfl
theorem q31 : (Jvm.Cond.methodLink "SortDeskLaw" (18 : Nat) ({ cls := "SortDesk", name := "fill", desc := "(III)I" } : Jvm.MethodName)) ∈ lw_all := lw_g (lw_at lw_m0 28 rfl) rfl
theorem q36 : (Jvm.Cond.methodLink "SortDeskLaw" (23 : Nat) ({ cls := "SortDesk", name := "trim", desc := "(I)V" } : Jvm.MethodName)) ∈ lw_all := lw_g (lw_at lw_m0 33 rfl) rfl
theorem q40 : (Jvm.Cond.methodLink "SortDeskLaw" (28 : Nat) ({ cls := "SortDesk", name := "size", desc := "()I" } : Jvm.MethodName)) ∈ lw_all := lw_g (lw_at lw_m0 37 rfl) rfl
theorem q44 : (Jvm.Cond.methodLink "SortDeskLaw" (33 : Nat) ({ cls := "SortDesk", name := "at", desc := "(I)I" } : Jvm.MethodName)) ∈ lw_all := lw_g (lw_at lw_m0 41 rfl) rfl
theorem q48 : (Jvm.Cond.methodLink "SortDeskLaw" (38 : Nat) ({ cls := "SortDesk", name := "quick", desc := "(II)V" } : Jvm.MethodName)) ∈ lw_all := lw_g (lw_at lw_m0 45 rfl) rfl
theorem q82 : (Jvm.Cond.methodLink "SortDeskLaw" (43 : Nat) ({ cls := "SortDesk", name := "merge", desc := "(II)V" } : Jvm.MethodName)) ∈ lw_all := lw_g (lw_at lw_m0 79 rfl) rfl
theorem q111 : (Jvm.Cond.methodLink "SortDeskLaw" (47 : Nat) ({ cls := "SortDesk", name := "radix", desc := "(II)V" } : Jvm.MethodName)) ∈ lw_all := lw_g (lw_at lw_m0 108 rfl) rfl
theorem q118 : (Jvm.Cond.methodLink "SortDeskLaw" (51 : Nat) ({ cls := "SortDesk", name := "unstable", desc := "(II)V" } : Jvm.MethodName)) ∈ lw_all := lw_g (lw_at lw_m0 115 rfl) rfl
theorem q126 : (Jvm.Cond.methodLink "SortDeskLaw" (55 : Nat) ({ cls := "SortDesk", name := "reverse", desc := "(II)V" } : Jvm.MethodName)) ∈ lw_all := lw_g (lw_at lw_m0 123 rfl) rfl
theorem q133 : (Jvm.Cond.methodLink "SortDeskLaw" (59 : Nat) ({ cls := "SortDesk", name := "find", desc := "(III)I" } : Jvm.MethodName)) ∈ lw_all := lw_g (lw_at lw_m0 130 rfl) rfl
theorem q141 : (Jvm.Cond.classLink "SortDeskLaw" (10 : Nat) "SortDeskModel") ∈ lw_all := lw_g (lw_at lw_m0 138 rfl) rfl
theorem q143 : (Jvm.Cond.methodLink "SortDeskLaw" (12 : Nat) ({ cls := "SortDeskModel", name := "<init>", desc := "()V" } : Jvm.MethodName)) ∈ lw_all := lw_g (lw_at lw_m0 140 rfl) rfl
theorem q157 : (Jvm.Cond.methodLink "SortDeskLaw" (17 : Nat) ({ cls := "SortDeskModel", name := "put", desc := "(IIII)Z" } : Jvm.MethodName)) ∈ lw_all := lw_g (lw_at lw_m0 154 rfl) rfl
theorem q161 : (Jvm.Cond.methodLink "SortDeskLaw" (22 : Nat) ({ cls := "SortDeskModel", name := "fill", desc := "(III)I" } : Jvm.MethodName)) ∈ lw_all := lw_g (lw_at lw_m0 158 rfl) rfl
theorem q166 : (Jvm.Cond.methodLink "SortDeskLaw" (27 : Nat) ({ cls := "SortDeskModel", name := "trim", desc := "(I)V" } : Jvm.MethodName)) ∈ lw_all := lw_g (lw_at lw_m0 163 rfl) rfl
theorem q170 : (Jvm.Cond.methodLink "SortDeskLaw" (32 : Nat) ({ cls := "SortDeskModel", name := "size", desc := "()I" } : Jvm.MethodName)) ∈ lw_all := lw_g (lw_at lw_m0 167 rfl) rfl
theorem q174 : (Jvm.Cond.methodLink "SortDeskLaw" (37 : Nat) ({ cls := "SortDeskModel", name := "at", desc := "(I)I" } : Jvm.MethodName)) ∈ lw_all := lw_g (lw_at lw_m0 171 rfl) rfl
theorem q178 : (Jvm.Cond.methodLink "SortDeskLaw" (42 : Nat) ({ cls := "SortDeskModel", name := "quick", desc := "(II)V" } : Jvm.MethodName)) ∈ lw_all := lw_g (lw_at lw_m0 175 rfl) rfl
theorem q186 : (Jvm.Cond.methodLink "SortDeskLaw" (46 : Nat) ({ cls := "SortDeskModel", name := "merge", desc := "(II)V" } : Jvm.MethodName)) ∈ lw_all := lw_g (lw_at lw_m0 183 rfl) rfl
theorem q190 : (Jvm.Cond.methodLink "SortDeskLaw" (50 : Nat) ({ cls := "SortDeskModel", name := "radix", desc := "(II)V" } : Jvm.MethodName)) ∈ lw_all := lw_g (lw_at lw_m0 187 rfl) rfl
theorem q194 : (Jvm.Cond.methodLink "SortDeskLaw" (54 : Nat) ({ cls := "SortDeskModel", name := "unstable", desc := "(II)V" } : Jvm.MethodName)) ∈ lw_all := lw_g (lw_at lw_m0 191 rfl) rfl
theorem q198 : (Jvm.Cond.methodLink "SortDeskLaw" (58 : Nat) ({ cls := "SortDeskModel", name := "reverse", desc := "(II)V" } : Jvm.MethodName)) ∈ lw_all := lw_g (lw_at lw_m0 195 rfl) rfl
theorem q202 : (Jvm.Cond.methodLink "SortDeskLaw" (62 : Nat) ({ cls := "SortDeskModel", name := "find", desc := "(III)I" } : Jvm.MethodName)) ∈ lw_all := lw_g (lw_at lw_m0 199 rfl) rfl
theorem q100 : (Jvm.Cond.sameMethod "[I" "java/lang/Object" "clone" "()Ljava/lang/Object;") ∈ lw_all := lw_g (lw_at lw_m0 97 rfl) rfl
set_option maxRecDepth 100000
theorem q103 : (Jvm.Cond.selects "[I" ({ cls := "[I", name := "clone", desc := "()Ljava/lang/Object;" } : Jvm.MethodName) ({ cls := "java/lang/Object", name := "clone", desc := "()Ljava/lang/Object;" } : Jvm.MethodName)) ∈ lw_all := lw_g (lw_at lw_m0 100 rfl) rfl
theorem q104 : (Jvm.Cond.castable "[I" "java/lang/Cloneable") ∈ lw_tbl := lw_at lw_m0 101 rfl
theorem q10 : (Jvm.Cond.initialized "java/lang/System") ∈ lw_all := lw_g (lw_at lw_m0 7 rfl) rfl
set_option maxRecDepth 100000
theorem q108 : (Jvm.Cond.static ({ cls := "java/lang/System", name := "arraycopy", desc := "(Ljava/lang/Object;ILjava/lang/Object;II)V" } : Jvm.MethodName)) ∈ lw_all := lw_g (lw_at lw_m0 105 rfl) rfl
theorem q109 : (Jvm.Cond.native ({ cls := "java/lang/System", name := "arraycopy", desc := "(Ljava/lang/Object;ILjava/lang/Object;II)V" } : Jvm.MethodName)) ∈ lw_all := lw_g (lw_at lw_m0 106 rfl) rfl
theorem q26 : (Jvm.Cond.arrayClass Jvm.ClassFile.FieldType.int) ∈ lw_all := lw_g (lw_at lw_m0 23 rfl) rfl
set_option maxRecDepth 100000
end
section
/-! IntArrays -/
set_option maxRecDepth 100000
def RX2 : String := "IntArrays"
abbrev cX2_quickSort : ByteArray := prog_1_method_6_code
def yX2_quickSort : MethodName := ⟨RX2, "quickSort", "([III)V"⟩
def dkwX2_quickSort_14 : List UInt8 := [89, 54, 12, 4, 164, 0, 12, 42, 28, 21, 12, 100, 28, 184, 0, 28, 177]
abbrev dktX2_quickSort_14 : List UInt8 := dkwX2_quickSort_14 ++ []
def dkwX2_quickSort_13 : List UInt8 := [21, 8, 100, 89, 54, 12, 4, 164, 0, 12, 42, 27, 27, 21, 12, 96, 184, 0, 28, 21, 11, 21, 10, 100]
abbrev dktX2_quickSort_13 : List UInt8 := dkwX2_quickSort_13 ++ dktX2_quickSort_14
def dkwX2_quickSort_12 : List UInt8 := [21, 11, 100, 4, 100, 184, 0, 20, 54, 12, 42, 21, 9, 28, 21, 12, 100, 21, 12, 184, 0, 25, 21, 9]
abbrev dktX2_quickSort_12 : List UInt8 := dkwX2_quickSort_12 ++ dktX2_quickSort_13
def dkwX2_quickSort_11 : List UInt8 := [100, 184, 0, 20, 54, 12, 42, 27, 21, 9, 21, 12, 100, 21, 12, 184, 0, 25, 21, 11, 21, 10, 100, 28]
abbrev dktX2_quickSort_11 : List UInt8 := dkwX2_quickSort_11 ++ dktX2_quickSort_12
def dkwX2_quickSort_10 : List UInt8 := [21, 9, 132, 9, 1, 21, 10, 132, 10, 255, 184, 0, 5, 167, 255, 144, 21, 8, 27, 100, 21, 9, 21, 8]
abbrev dktX2_quickSort_10 : List UInt8 := dkwX2_quickSort_10 ++ dktX2_quickSort_11
def dkwX2_quickSort_9 : List UInt8 := [132, 11, 255, 184, 0, 5, 132, 10, 255, 167, 255, 215, 21, 9, 21, 10, 164, 0, 6, 167, 0, 20, 42]
abbrev dktX2_quickSort_9 : List UInt8 := dkwX2_quickSort_9 ++ dktX2_quickSort_10
def dkwX2_quickSort_8 : List UInt8 := [21, 10, 46, 21, 7, 184, 0, 9, 89, 54, 12, 155, 0, 25, 21, 12, 154, 0, 14, 42, 21, 10, 21, 11]
abbrev dktX2_quickSort_8 : List UInt8 := dkwX2_quickSort_8 ++ dktX2_quickSort_9
def dkwX2_quickSort_7 : List UInt8 := [21, 8, 132, 8, 1, 21, 9, 184, 0, 5, 132, 9, 1, 167, 255, 215, 21, 10, 21, 9, 161, 0, 40, 42]
abbrev dktX2_quickSort_7 : List UInt8 := dkwX2_quickSort_7 ++ dktX2_quickSort_8
def dkwX2_quickSort_6 : List UInt8 := [163, 0, 40, 42, 21, 9, 46, 21, 7, 184, 0, 9, 89, 54, 12, 157, 0, 25, 21, 12, 154, 0, 14, 42]
abbrev dktX2_quickSort_6 : List UInt8 := dkwX2_quickSort_6 ++ dktX2_quickSort_7
def dkwX2_quickSort_5 : List UInt8 := [54, 7, 27, 54, 8, 21, 8, 54, 9, 28, 4, 100, 54, 10, 21, 10, 54, 11, 21, 9, 21, 10]
abbrev dktX2_quickSort_5 : List UInt8 := dkwX2_quickSort_5 ++ dktX2_quickSort_6
def dkwX2_quickSort_4 : List UInt8 := [100, 21, 6, 184, 0, 16, 54, 6, 42, 21, 5, 21, 4, 21, 6, 184, 0, 16, 54, 4, 42, 21, 4, 46]
abbrev dktX2_quickSort_4 : List UInt8 := dkwX2_quickSort_4 ++ dktX2_quickSort_5
def dkwX2_quickSort_3 : List UInt8 := [21, 4, 21, 4, 21, 7, 96, 184, 0, 16, 54, 4, 42, 21, 6, 5, 21, 7, 104, 100, 21, 6, 21, 7]
abbrev dktX2_quickSort_3 : List UInt8 := dkwX2_quickSort_3 ++ dktX2_quickSort_4
def dkwX2_quickSort_2 : List UInt8 := [21, 5, 21, 7, 96, 21, 5, 5, 21, 7, 104, 96, 184, 0, 16, 54, 5, 42, 21, 4, 21, 7, 100]
abbrev dktX2_quickSort_2 : List UInt8 := dkwX2_quickSort_2 ++ dktX2_quickSort_3
def dkwX2_quickSort_1 : List UInt8 := [27, 54, 5, 28, 4, 100, 54, 6, 29, 17, 0, 128, 164, 0, 67, 29, 16, 8, 108, 54, 7, 42, 21, 5]
abbrev dktX2_quickSort_1 : List UInt8 := dkwX2_quickSort_1 ++ dktX2_quickSort_2
def dkwX2_quickSort_0 : List UInt8 := [28, 27, 100, 62, 29, 16, 16, 162, 0, 10, 42, 27, 28, 184, 0, 13, 177, 27, 29, 5, 108, 96, 54, 4]
abbrev dktX2_quickSort_0 : List UInt8 := dkwX2_quickSort_0 ++ dktX2_quickSort_1
theorem dksX2_quickSort_0 : cX2_quickSort.data.toList.drop 0 = dktX2_quickSort_0 := by decide +kernel
theorem dksX2_quickSort_1 : cX2_quickSort.data.toList.drop 24 = dktX2_quickSort_1 := dk_seg dksX2_quickSort_0 24 rfl rfl
theorem dksX2_quickSort_2 : cX2_quickSort.data.toList.drop 48 = dktX2_quickSort_2 := dk_seg dksX2_quickSort_1 24 rfl rfl
theorem dksX2_quickSort_3 : cX2_quickSort.data.toList.drop 71 = dktX2_quickSort_3 := dk_seg dksX2_quickSort_2 23 rfl rfl
theorem dksX2_quickSort_4 : cX2_quickSort.data.toList.drop 95 = dktX2_quickSort_4 := dk_seg dksX2_quickSort_3 24 rfl rfl
theorem dksX2_quickSort_5 : cX2_quickSort.data.toList.drop 119 = dktX2_quickSort_5 := dk_seg dksX2_quickSort_4 24 rfl rfl
theorem dksX2_quickSort_6 : cX2_quickSort.data.toList.drop 141 = dktX2_quickSort_6 := dk_seg dksX2_quickSort_5 22 rfl rfl
theorem dksX2_quickSort_7 : cX2_quickSort.data.toList.drop 165 = dktX2_quickSort_7 := dk_seg dksX2_quickSort_6 24 rfl rfl
theorem dksX2_quickSort_8 : cX2_quickSort.data.toList.drop 189 = dktX2_quickSort_8 := dk_seg dksX2_quickSort_7 24 rfl rfl
theorem dksX2_quickSort_9 : cX2_quickSort.data.toList.drop 213 = dktX2_quickSort_9 := dk_seg dksX2_quickSort_8 24 rfl rfl
theorem dksX2_quickSort_10 : cX2_quickSort.data.toList.drop 236 = dktX2_quickSort_10 := dk_seg dksX2_quickSort_9 23 rfl rfl
theorem dksX2_quickSort_11 : cX2_quickSort.data.toList.drop 260 = dktX2_quickSort_11 := dk_seg dksX2_quickSort_10 24 rfl rfl
theorem dksX2_quickSort_12 : cX2_quickSort.data.toList.drop 284 = dktX2_quickSort_12 := dk_seg dksX2_quickSort_11 24 rfl rfl
theorem dksX2_quickSort_13 : cX2_quickSort.data.toList.drop 308 = dktX2_quickSort_13 := dk_seg dksX2_quickSort_12 24 rfl rfl
theorem dksX2_quickSort_14 : cX2_quickSort.data.toList.drop 332 = dktX2_quickSort_14 := dk_seg dksX2_quickSort_13 24 rfl rfl
theorem dX2_quickSort_0 : decode cX2_quickSort 0 = .ok (.iload_n 2, 1) := dk_28 (dk_at dksX2_quickSort_0 0 rfl rfl)
theorem dX2_quickSort_1 : decode cX2_quickSort 1 = .ok (.iload_n 1, 1) := dk_27 (dk_at dksX2_quickSort_0 1 rfl rfl)
theorem dX2_quickSort_2 : decode cX2_quickSort 2 = .ok (.isub, 1) := dk_100 (dk_at dksX2_quickSort_0 2 rfl rfl)
theorem dX2_quickSort_3 : decode cX2_quickSort 3 = .ok (.istore_n 3, 1) := dk_62 (dk_at dksX2_quickSort_0 3 rfl rfl)
theorem dX2_quickSort_4 : decode cX2_quickSort 4 = .ok (.iload_n 3, 1) := dk_29 (dk_at dksX2_quickSort_0 4 rfl rfl)
theorem dX2_quickSort_5 : decode cX2_quickSort 5 = .ok (.bipush 16, 2) := dk_16 16 (dk_at dksX2_quickSort_0 5 rfl rfl)
theorem dX2_quickSort_7 : decode cX2_quickSort 7 = .ok (.if_icmp .ge 10, 3) := dk_162 0 10 (dk_at dksX2_quickSort_0 7 rfl rfl)
theorem dX2_quickSort_10 : decode cX2_quickSort 10 = .ok (.aload_n 0, 1) := dk_42 (dk_at dksX2_quickSort_0 10 rfl rfl)
theorem dX2_quickSort_11 : decode cX2_quickSort 11 = .ok (.iload_n 1, 1) := dk_27 (dk_at dksX2_quickSort_0 11 rfl rfl)
theorem dX2_quickSort_12 : decode cX2_quickSort 12 = .ok (.iload_n 2, 1) := dk_28 (dk_at dksX2_quickSort_0 12 rfl rfl)
theorem dX2_quickSort_13 : decode cX2_quickSort 13 = .ok (.invokestatic 13, 3) := dk_184 0 13 (dk_at dksX2_quickSort_0 13 rfl rfl)
theorem dX2_quickSort_16 : decode cX2_quickSort 16 = .ok (.return_, 1) := dk_177 (dk_at dksX2_quickSort_0 16 rfl rfl)
theorem dX2_quickSort_17 : decode cX2_quickSort 17 = .ok (.iload_n 1, 1) := dk_27 (dk_at dksX2_quickSort_0 17 rfl rfl)
theorem dX2_quickSort_18 : decode cX2_quickSort 18 = .ok (.iload_n 3, 1) := dk_29 (dk_at dksX2_quickSort_0 18 rfl rfl)
theorem dX2_quickSort_19 : decode cX2_quickSort 19 = .ok (.iconst 2, 1) := dk_5 (dk_at dksX2_quickSort_0 19 rfl rfl)
theorem dX2_quickSort_20 : decode cX2_quickSort 20 = .ok (.idiv, 1) := dk_108 (dk_at dksX2_quickSort_0 20 rfl rfl)
theorem dX2_quickSort_21 : decode cX2_quickSort 21 = .ok (.iadd, 1) := dk_96 (dk_at dksX2_quickSort_0 21 rfl rfl)
theorem dX2_quickSort_22 : decode cX2_quickSort 22 = .ok (.istore 4, 2) := dk_54 4 (dk_at dksX2_quickSort_0 22 rfl rfl)
theorem dX2_quickSort_24 : decode cX2_quickSort 24 = .ok (.iload_n 1, 1) := dk_27 (dk_at dksX2_quickSort_1 0 rfl rfl)
theorem dX2_quickSort_25 : decode cX2_quickSort 25 = .ok (.istore 5, 2) := dk_54 5 (dk_at dksX2_quickSort_1 1 rfl rfl)
theorem dX2_quickSort_27 : decode cX2_quickSort 27 = .ok (.iload_n 2, 1) := dk_28 (dk_at dksX2_quickSort_1 3 rfl rfl)
theorem dX2_quickSort_28 : decode cX2_quickSort 28 = .ok (.iconst 1, 1) := dk_4 (dk_at dksX2_quickSort_1 4 rfl rfl)
theorem dX2_quickSort_29 : decode cX2_quickSort 29 = .ok (.isub, 1) := dk_100 (dk_at dksX2_quickSort_1 5 rfl rfl)
theorem dX2_quickSort_30 : decode cX2_quickSort 30 = .ok (.istore 6, 2) := dk_54 6 (dk_at dksX2_quickSort_1 6 rfl rfl)
theorem dX2_quickSort_32 : decode cX2_quickSort 32 = .ok (.iload_n 3, 1) := dk_29 (dk_at dksX2_quickSort_1 8 rfl rfl)
theorem dX2_quickSort_33 : decode cX2_quickSort 33 = .ok (.sipush 128, 3) := dk_17 0 128 (dk_at dksX2_quickSort_1 9 rfl rfl)
theorem dX2_quickSort_36 : decode cX2_quickSort 36 = .ok (.if_icmp .le 67, 3) := dk_164 0 67 (dk_at dksX2_quickSort_1 12 rfl rfl)
theorem dX2_quickSort_39 : decode cX2_quickSort 39 = .ok (.iload_n 3, 1) := dk_29 (dk_at dksX2_quickSort_1 15 rfl rfl)
theorem dX2_quickSort_40 : decode cX2_quickSort 40 = .ok (.bipush 8, 2) := dk_16 8 (dk_at dksX2_quickSort_1 16 rfl rfl)
theorem dX2_quickSort_42 : decode cX2_quickSort 42 = .ok (.idiv, 1) := dk_108 (dk_at dksX2_quickSort_1 18 rfl rfl)
theorem dX2_quickSort_43 : decode cX2_quickSort 43 = .ok (.istore 7, 2) := dk_54 7 (dk_at dksX2_quickSort_1 19 rfl rfl)
theorem dX2_quickSort_45 : decode cX2_quickSort 45 = .ok (.aload_n 0, 1) := dk_42 (dk_at dksX2_quickSort_1 21 rfl rfl)
theorem dX2_quickSort_46 : decode cX2_quickSort 46 = .ok (.iload 5, 2) := dk_21 5 (dk_at dksX2_quickSort_1 22 rfl rfl)
theorem dX2_quickSort_48 : decode cX2_quickSort 48 = .ok (.iload 5, 2) := dk_21 5 (dk_at dksX2_quickSort_2 0 rfl rfl)
theorem dX2_quickSort_50 : decode cX2_quickSort 50 = .ok (.iload 7, 2) := dk_21 7 (dk_at dksX2_quickSort_2 2 rfl rfl)
theorem dX2_quickSort_52 : decode cX2_quickSort 52 = .ok (.iadd, 1) := dk_96 (dk_at dksX2_quickSort_2 4 rfl rfl)
theorem dX2_quickSort_53 : decode cX2_quickSort 53 = .ok (.iload 5, 2) := dk_21 5 (dk_at dksX2_quickSort_2 5 rfl rfl)
theorem dX2_quickSort_55 : decode cX2_quickSort 55 = .ok (.iconst 2, 1) := dk_5 (dk_at dksX2_quickSort_2 7 rfl rfl)
theorem dX2_quickSort_56 : decode cX2_quickSort 56 = .ok (.iload 7, 2) := dk_21 7 (dk_at dksX2_quickSort_2 8 rfl rfl)
theorem dX2_quickSort_58 : decode cX2_quickSort 58 = .ok (.imul, 1) := dk_104 (dk_at dksX2_quickSort_2 10 rfl rfl)
theorem dX2_quickSort_59 : decode cX2_quickSort 59 = .ok (.iadd, 1) := dk_96 (dk_at dksX2_quickSort_2 11 rfl rfl)
theorem dX2_quickSort_60 : decode cX2_quickSort 60 = .ok (.invokestatic 16, 3) := dk_184 0 16 (dk_at dksX2_quickSort_2 12 rfl rfl)
theorem dX2_quickSort_63 : decode cX2_quickSort 63 = .ok (.istore 5, 2) := dk_54 5 (dk_at dksX2_quickSort_2 15 rfl rfl)
theorem dX2_quickSort_65 : decode cX2_quickSort 65 = .ok (.aload_n 0, 1) := dk_42 (dk_at dksX2_quickSort_2 17 rfl rfl)
theorem dX2_quickSort_66 : decode cX2_quickSort 66 = .ok (.iload 4, 2) := dk_21 4 (dk_at dksX2_quickSort_2 18 rfl rfl)
theorem dX2_quickSort_68 : decode cX2_quickSort 68 = .ok (.iload 7, 2) := dk_21 7 (dk_at dksX2_quickSort_2 20 rfl rfl)
theorem dX2_quickSort_70 : decode cX2_quickSort 70 = .ok (.isub, 1) := dk_100 (dk_at dksX2_quickSort_2 22 rfl rfl)
theorem dX2_quickSort_71 : decode cX2_quickSort 71 = .ok (.iload 4, 2) := dk_21 4 (dk_at dksX2_quickSort_3 0 rfl rfl)
theorem dX2_quickSort_73 : decode cX2_quickSort 73 = .ok (.iload 4, 2) := dk_21 4 (dk_at dksX2_quickSort_3 2 rfl rfl)
theorem dX2_quickSort_75 : decode cX2_quickSort 75 = .ok (.iload 7, 2) := dk_21 7 (dk_at dksX2_quickSort_3 4 rfl rfl)
theorem dX2_quickSort_77 : decode cX2_quickSort 77 = .ok (.iadd, 1) := dk_96 (dk_at dksX2_quickSort_3 6 rfl rfl)
theorem dX2_quickSort_78 : decode cX2_quickSort 78 = .ok (.invokestatic 16, 3) := dk_184 0 16 (dk_at dksX2_quickSort_3 7 rfl rfl)
theorem dX2_quickSort_81 : decode cX2_quickSort 81 = .ok (.istore 4, 2) := dk_54 4 (dk_at dksX2_quickSort_3 10 rfl rfl)
theorem dX2_quickSort_83 : decode cX2_quickSort 83 = .ok (.aload_n 0, 1) := dk_42 (dk_at dksX2_quickSort_3 12 rfl rfl)
theorem dX2_quickSort_84 : decode cX2_quickSort 84 = .ok (.iload 6, 2) := dk_21 6 (dk_at dksX2_quickSort_3 13 rfl rfl)
theorem dX2_quickSort_86 : decode cX2_quickSort 86 = .ok (.iconst 2, 1) := dk_5 (dk_at dksX2_quickSort_3 15 rfl rfl)
theorem dX2_quickSort_87 : decode cX2_quickSort 87 = .ok (.iload 7, 2) := dk_21 7 (dk_at dksX2_quickSort_3 16 rfl rfl)
theorem dX2_quickSort_89 : decode cX2_quickSort 89 = .ok (.imul, 1) := dk_104 (dk_at dksX2_quickSort_3 18 rfl rfl)
theorem dX2_quickSort_90 : decode cX2_quickSort 90 = .ok (.isub, 1) := dk_100 (dk_at dksX2_quickSort_3 19 rfl rfl)
theorem dX2_quickSort_91 : decode cX2_quickSort 91 = .ok (.iload 6, 2) := dk_21 6 (dk_at dksX2_quickSort_3 20 rfl rfl)
theorem dX2_quickSort_93 : decode cX2_quickSort 93 = .ok (.iload 7, 2) := dk_21 7 (dk_at dksX2_quickSort_3 22 rfl rfl)
theorem dX2_quickSort_95 : decode cX2_quickSort 95 = .ok (.isub, 1) := dk_100 (dk_at dksX2_quickSort_4 0 rfl rfl)
theorem dX2_quickSort_96 : decode cX2_quickSort 96 = .ok (.iload 6, 2) := dk_21 6 (dk_at dksX2_quickSort_4 1 rfl rfl)
theorem dX2_quickSort_98 : decode cX2_quickSort 98 = .ok (.invokestatic 16, 3) := dk_184 0 16 (dk_at dksX2_quickSort_4 3 rfl rfl)
theorem dX2_quickSort_101 : decode cX2_quickSort 101 = .ok (.istore 6, 2) := dk_54 6 (dk_at dksX2_quickSort_4 6 rfl rfl)
theorem dX2_quickSort_103 : decode cX2_quickSort 103 = .ok (.aload_n 0, 1) := dk_42 (dk_at dksX2_quickSort_4 8 rfl rfl)
theorem dX2_quickSort_104 : decode cX2_quickSort 104 = .ok (.iload 5, 2) := dk_21 5 (dk_at dksX2_quickSort_4 9 rfl rfl)
theorem dX2_quickSort_106 : decode cX2_quickSort 106 = .ok (.iload 4, 2) := dk_21 4 (dk_at dksX2_quickSort_4 11 rfl rfl)
theorem dX2_quickSort_108 : decode cX2_quickSort 108 = .ok (.iload 6, 2) := dk_21 6 (dk_at dksX2_quickSort_4 13 rfl rfl)
theorem dX2_quickSort_110 : decode cX2_quickSort 110 = .ok (.invokestatic 16, 3) := dk_184 0 16 (dk_at dksX2_quickSort_4 15 rfl rfl)
theorem dX2_quickSort_113 : decode cX2_quickSort 113 = .ok (.istore 4, 2) := dk_54 4 (dk_at dksX2_quickSort_4 18 rfl rfl)
theorem dX2_quickSort_115 : decode cX2_quickSort 115 = .ok (.aload_n 0, 1) := dk_42 (dk_at dksX2_quickSort_4 20 rfl rfl)
theorem dX2_quickSort_116 : decode cX2_quickSort 116 = .ok (.iload 4, 2) := dk_21 4 (dk_at dksX2_quickSort_4 21 rfl rfl)
theorem dX2_quickSort_118 : decode cX2_quickSort 118 = .ok (.iaload, 1) := dk_46 (dk_at dksX2_quickSort_4 23 rfl rfl)
theorem dX2_quickSort_119 : decode cX2_quickSort 119 = .ok (.istore 7, 2) := dk_54 7 (dk_at dksX2_quickSort_5 0 rfl rfl)
theorem dX2_quickSort_121 : decode cX2_quickSort 121 = .ok (.iload_n 1, 1) := dk_27 (dk_at dksX2_quickSort_5 2 rfl rfl)
theorem dX2_quickSort_122 : decode cX2_quickSort 122 = .ok (.istore 8, 2) := dk_54 8 (dk_at dksX2_quickSort_5 3 rfl rfl)
theorem dX2_quickSort_124 : decode cX2_quickSort 124 = .ok (.iload 8, 2) := dk_21 8 (dk_at dksX2_quickSort_5 5 rfl rfl)
theorem dX2_quickSort_126 : decode cX2_quickSort 126 = .ok (.istore 9, 2) := dk_54 9 (dk_at dksX2_quickSort_5 7 rfl rfl)
theorem dX2_quickSort_128 : decode cX2_quickSort 128 = .ok (.iload_n 2, 1) := dk_28 (dk_at dksX2_quickSort_5 9 rfl rfl)
theorem dX2_quickSort_129 : decode cX2_quickSort 129 = .ok (.iconst 1, 1) := dk_4 (dk_at dksX2_quickSort_5 10 rfl rfl)
theorem dX2_quickSort_130 : decode cX2_quickSort 130 = .ok (.isub, 1) := dk_100 (dk_at dksX2_quickSort_5 11 rfl rfl)
theorem dX2_quickSort_131 : decode cX2_quickSort 131 = .ok (.istore 10, 2) := dk_54 10 (dk_at dksX2_quickSort_5 12 rfl rfl)
theorem dX2_quickSort_133 : decode cX2_quickSort 133 = .ok (.iload 10, 2) := dk_21 10 (dk_at dksX2_quickSort_5 14 rfl rfl)
theorem dX2_quickSort_135 : decode cX2_quickSort 135 = .ok (.istore 11, 2) := dk_54 11 (dk_at dksX2_quickSort_5 16 rfl rfl)
theorem dX2_quickSort_137 : decode cX2_quickSort 137 = .ok (.iload 9, 2) := dk_21 9 (dk_at dksX2_quickSort_5 18 rfl rfl)
theorem dX2_quickSort_139 : decode cX2_quickSort 139 = .ok (.iload 10, 2) := dk_21 10 (dk_at dksX2_quickSort_5 20 rfl rfl)
theorem dX2_quickSort_141 : decode cX2_quickSort 141 = .ok (.if_icmp .gt 40, 3) := dk_163 0 40 (dk_at dksX2_quickSort_6 0 rfl rfl)
theorem dX2_quickSort_144 : decode cX2_quickSort 144 = .ok (.aload_n 0, 1) := dk_42 (dk_at dksX2_quickSort_6 3 rfl rfl)
theorem dX2_quickSort_145 : decode cX2_quickSort 145 = .ok (.iload 9, 2) := dk_21 9 (dk_at dksX2_quickSort_6 4 rfl rfl)
theorem dX2_quickSort_147 : decode cX2_quickSort 147 = .ok (.iaload, 1) := dk_46 (dk_at dksX2_quickSort_6 6 rfl rfl)
theorem dX2_quickSort_148 : decode cX2_quickSort 148 = .ok (.iload 7, 2) := dk_21 7 (dk_at dksX2_quickSort_6 7 rfl rfl)
theorem dX2_quickSort_150 : decode cX2_quickSort 150 = .ok (.invokestatic 9, 3) := dk_184 0 9 (dk_at dksX2_quickSort_6 9 rfl rfl)
theorem dX2_quickSort_153 : decode cX2_quickSort 153 = .ok (.dup, 1) := dk_89 (dk_at dksX2_quickSort_6 12 rfl rfl)
theorem dX2_quickSort_154 : decode cX2_quickSort 154 = .ok (.istore 12, 2) := dk_54 12 (dk_at dksX2_quickSort_6 13 rfl rfl)
theorem dX2_quickSort_156 : decode cX2_quickSort 156 = .ok (.ifCond .gt 25, 3) := dk_157 0 25 (dk_at dksX2_quickSort_6 15 rfl rfl)
theorem dX2_quickSort_159 : decode cX2_quickSort 159 = .ok (.iload 12, 2) := dk_21 12 (dk_at dksX2_quickSort_6 18 rfl rfl)
theorem dX2_quickSort_161 : decode cX2_quickSort 161 = .ok (.ifCond .ne 14, 3) := dk_154 0 14 (dk_at dksX2_quickSort_6 20 rfl rfl)
theorem dX2_quickSort_164 : decode cX2_quickSort 164 = .ok (.aload_n 0, 1) := dk_42 (dk_at dksX2_quickSort_6 23 rfl rfl)
theorem dX2_quickSort_165 : decode cX2_quickSort 165 = .ok (.iload 8, 2) := dk_21 8 (dk_at dksX2_quickSort_7 0 rfl rfl)
theorem dX2_quickSort_167 : decode cX2_quickSort 167 = .ok (.iinc 8 1, 3) := dk_132 8 1 (dk_at dksX2_quickSort_7 2 rfl rfl)
theorem dX2_quickSort_170 : decode cX2_quickSort 170 = .ok (.iload 9, 2) := dk_21 9 (dk_at dksX2_quickSort_7 5 rfl rfl)
theorem dX2_quickSort_172 : decode cX2_quickSort 172 = .ok (.invokestatic 5, 3) := dk_184 0 5 (dk_at dksX2_quickSort_7 7 rfl rfl)
theorem dX2_quickSort_175 : decode cX2_quickSort 175 = .ok (.iinc 9 1, 3) := dk_132 9 1 (dk_at dksX2_quickSort_7 10 rfl rfl)
theorem dX2_quickSort_178 : decode cX2_quickSort 178 = .ok (.goto (-41), 3) := dk_167 255 215 (dk_at dksX2_quickSort_7 13 rfl rfl)
theorem dX2_quickSort_181 : decode cX2_quickSort 181 = .ok (.iload 10, 2) := dk_21 10 (dk_at dksX2_quickSort_7 16 rfl rfl)
theorem dX2_quickSort_183 : decode cX2_quickSort 183 = .ok (.iload 9, 2) := dk_21 9 (dk_at dksX2_quickSort_7 18 rfl rfl)
theorem dX2_quickSort_185 : decode cX2_quickSort 185 = .ok (.if_icmp .lt 40, 3) := dk_161 0 40 (dk_at dksX2_quickSort_7 20 rfl rfl)
theorem dX2_quickSort_188 : decode cX2_quickSort 188 = .ok (.aload_n 0, 1) := dk_42 (dk_at dksX2_quickSort_7 23 rfl rfl)
theorem dX2_quickSort_189 : decode cX2_quickSort 189 = .ok (.iload 10, 2) := dk_21 10 (dk_at dksX2_quickSort_8 0 rfl rfl)
theorem dX2_quickSort_191 : decode cX2_quickSort 191 = .ok (.iaload, 1) := dk_46 (dk_at dksX2_quickSort_8 2 rfl rfl)
theorem dX2_quickSort_192 : decode cX2_quickSort 192 = .ok (.iload 7, 2) := dk_21 7 (dk_at dksX2_quickSort_8 3 rfl rfl)
theorem dX2_quickSort_194 : decode cX2_quickSort 194 = .ok (.invokestatic 9, 3) := dk_184 0 9 (dk_at dksX2_quickSort_8 5 rfl rfl)
theorem dX2_quickSort_197 : decode cX2_quickSort 197 = .ok (.dup, 1) := dk_89 (dk_at dksX2_quickSort_8 8 rfl rfl)
theorem dX2_quickSort_198 : decode cX2_quickSort 198 = .ok (.istore 12, 2) := dk_54 12 (dk_at dksX2_quickSort_8 9 rfl rfl)
theorem dX2_quickSort_200 : decode cX2_quickSort 200 = .ok (.ifCond .lt 25, 3) := dk_155 0 25 (dk_at dksX2_quickSort_8 11 rfl rfl)
theorem dX2_quickSort_203 : decode cX2_quickSort 203 = .ok (.iload 12, 2) := dk_21 12 (dk_at dksX2_quickSort_8 14 rfl rfl)
theorem dX2_quickSort_205 : decode cX2_quickSort 205 = .ok (.ifCond .ne 14, 3) := dk_154 0 14 (dk_at dksX2_quickSort_8 16 rfl rfl)
theorem dX2_quickSort_208 : decode cX2_quickSort 208 = .ok (.aload_n 0, 1) := dk_42 (dk_at dksX2_quickSort_8 19 rfl rfl)
theorem dX2_quickSort_209 : decode cX2_quickSort 209 = .ok (.iload 10, 2) := dk_21 10 (dk_at dksX2_quickSort_8 20 rfl rfl)
theorem dX2_quickSort_211 : decode cX2_quickSort 211 = .ok (.iload 11, 2) := dk_21 11 (dk_at dksX2_quickSort_8 22 rfl rfl)
theorem dX2_quickSort_213 : decode cX2_quickSort 213 = .ok (.iinc 11 (-1), 3) := dk_132 11 255 (dk_at dksX2_quickSort_9 0 rfl rfl)
theorem dX2_quickSort_216 : decode cX2_quickSort 216 = .ok (.invokestatic 5, 3) := dk_184 0 5 (dk_at dksX2_quickSort_9 3 rfl rfl)
theorem dX2_quickSort_219 : decode cX2_quickSort 219 = .ok (.iinc 10 (-1), 3) := dk_132 10 255 (dk_at dksX2_quickSort_9 6 rfl rfl)
theorem dX2_quickSort_222 : decode cX2_quickSort 222 = .ok (.goto (-41), 3) := dk_167 255 215 (dk_at dksX2_quickSort_9 9 rfl rfl)
theorem dX2_quickSort_225 : decode cX2_quickSort 225 = .ok (.iload 9, 2) := dk_21 9 (dk_at dksX2_quickSort_9 12 rfl rfl)
theorem dX2_quickSort_227 : decode cX2_quickSort 227 = .ok (.iload 10, 2) := dk_21 10 (dk_at dksX2_quickSort_9 14 rfl rfl)
theorem dX2_quickSort_229 : decode cX2_quickSort 229 = .ok (.if_icmp .le 6, 3) := dk_164 0 6 (dk_at dksX2_quickSort_9 16 rfl rfl)
theorem dX2_quickSort_232 : decode cX2_quickSort 232 = .ok (.goto 20, 3) := dk_167 0 20 (dk_at dksX2_quickSort_9 19 rfl rfl)
theorem dX2_quickSort_235 : decode cX2_quickSort 235 = .ok (.aload_n 0, 1) := dk_42 (dk_at dksX2_quickSort_9 22 rfl rfl)
theorem dX2_quickSort_236 : decode cX2_quickSort 236 = .ok (.iload 9, 2) := dk_21 9 (dk_at dksX2_quickSort_10 0 rfl rfl)
theorem dX2_quickSort_238 : decode cX2_quickSort 238 = .ok (.iinc 9 1, 3) := dk_132 9 1 (dk_at dksX2_quickSort_10 2 rfl rfl)
theorem dX2_quickSort_241 : decode cX2_quickSort 241 = .ok (.iload 10, 2) := dk_21 10 (dk_at dksX2_quickSort_10 5 rfl rfl)
theorem dX2_quickSort_243 : decode cX2_quickSort 243 = .ok (.iinc 10 (-1), 3) := dk_132 10 255 (dk_at dksX2_quickSort_10 7 rfl rfl)
theorem dX2_quickSort_246 : decode cX2_quickSort 246 = .ok (.invokestatic 5, 3) := dk_184 0 5 (dk_at dksX2_quickSort_10 10 rfl rfl)
theorem dX2_quickSort_249 : decode cX2_quickSort 249 = .ok (.goto (-112), 3) := dk_167 255 144 (dk_at dksX2_quickSort_10 13 rfl rfl)
theorem dX2_quickSort_252 : decode cX2_quickSort 252 = .ok (.iload 8, 2) := dk_21 8 (dk_at dksX2_quickSort_10 16 rfl rfl)
theorem dX2_quickSort_254 : decode cX2_quickSort 254 = .ok (.iload_n 1, 1) := dk_27 (dk_at dksX2_quickSort_10 18 rfl rfl)
theorem dX2_quickSort_255 : decode cX2_quickSort 255 = .ok (.isub, 1) := dk_100 (dk_at dksX2_quickSort_10 19 rfl rfl)
theorem dX2_quickSort_256 : decode cX2_quickSort 256 = .ok (.iload 9, 2) := dk_21 9 (dk_at dksX2_quickSort_10 20 rfl rfl)
theorem dX2_quickSort_258 : decode cX2_quickSort 258 = .ok (.iload 8, 2) := dk_21 8 (dk_at dksX2_quickSort_10 22 rfl rfl)
theorem dX2_quickSort_260 : decode cX2_quickSort 260 = .ok (.isub, 1) := dk_100 (dk_at dksX2_quickSort_11 0 rfl rfl)
theorem dX2_quickSort_261 : decode cX2_quickSort 261 = .ok (.invokestatic 20, 3) := dk_184 0 20 (dk_at dksX2_quickSort_11 1 rfl rfl)
theorem dX2_quickSort_264 : decode cX2_quickSort 264 = .ok (.istore 12, 2) := dk_54 12 (dk_at dksX2_quickSort_11 4 rfl rfl)
theorem dX2_quickSort_266 : decode cX2_quickSort 266 = .ok (.aload_n 0, 1) := dk_42 (dk_at dksX2_quickSort_11 6 rfl rfl)
theorem dX2_quickSort_267 : decode cX2_quickSort 267 = .ok (.iload_n 1, 1) := dk_27 (dk_at dksX2_quickSort_11 7 rfl rfl)
theorem dX2_quickSort_268 : decode cX2_quickSort 268 = .ok (.iload 9, 2) := dk_21 9 (dk_at dksX2_quickSort_11 8 rfl rfl)
theorem dX2_quickSort_270 : decode cX2_quickSort 270 = .ok (.iload 12, 2) := dk_21 12 (dk_at dksX2_quickSort_11 10 rfl rfl)
theorem dX2_quickSort_272 : decode cX2_quickSort 272 = .ok (.isub, 1) := dk_100 (dk_at dksX2_quickSort_11 12 rfl rfl)
theorem dX2_quickSort_273 : decode cX2_quickSort 273 = .ok (.iload 12, 2) := dk_21 12 (dk_at dksX2_quickSort_11 13 rfl rfl)
theorem dX2_quickSort_275 : decode cX2_quickSort 275 = .ok (.invokestatic 25, 3) := dk_184 0 25 (dk_at dksX2_quickSort_11 15 rfl rfl)
theorem dX2_quickSort_278 : decode cX2_quickSort 278 = .ok (.iload 11, 2) := dk_21 11 (dk_at dksX2_quickSort_11 18 rfl rfl)
theorem dX2_quickSort_280 : decode cX2_quickSort 280 = .ok (.iload 10, 2) := dk_21 10 (dk_at dksX2_quickSort_11 20 rfl rfl)
theorem dX2_quickSort_282 : decode cX2_quickSort 282 = .ok (.isub, 1) := dk_100 (dk_at dksX2_quickSort_11 22 rfl rfl)
theorem dX2_quickSort_283 : decode cX2_quickSort 283 = .ok (.iload_n 2, 1) := dk_28 (dk_at dksX2_quickSort_11 23 rfl rfl)
theorem dX2_quickSort_284 : decode cX2_quickSort 284 = .ok (.iload 11, 2) := dk_21 11 (dk_at dksX2_quickSort_12 0 rfl rfl)
theorem dX2_quickSort_286 : decode cX2_quickSort 286 = .ok (.isub, 1) := dk_100 (dk_at dksX2_quickSort_12 2 rfl rfl)
theorem dX2_quickSort_287 : decode cX2_quickSort 287 = .ok (.iconst 1, 1) := dk_4 (dk_at dksX2_quickSort_12 3 rfl rfl)
theorem dX2_quickSort_288 : decode cX2_quickSort 288 = .ok (.isub, 1) := dk_100 (dk_at dksX2_quickSort_12 4 rfl rfl)
theorem dX2_quickSort_289 : decode cX2_quickSort 289 = .ok (.invokestatic 20, 3) := dk_184 0 20 (dk_at dksX2_quickSort_12 5 rfl rfl)
theorem dX2_quickSort_292 : decode cX2_quickSort 292 = .ok (.istore 12, 2) := dk_54 12 (dk_at dksX2_quickSort_12 8 rfl rfl)
theorem dX2_quickSort_294 : decode cX2_quickSort 294 = .ok (.aload_n 0, 1) := dk_42 (dk_at dksX2_quickSort_12 10 rfl rfl)
theorem dX2_quickSort_295 : decode cX2_quickSort 295 = .ok (.iload 9, 2) := dk_21 9 (dk_at dksX2_quickSort_12 11 rfl rfl)
theorem dX2_quickSort_297 : decode cX2_quickSort 297 = .ok (.iload_n 2, 1) := dk_28 (dk_at dksX2_quickSort_12 13 rfl rfl)
theorem dX2_quickSort_298 : decode cX2_quickSort 298 = .ok (.iload 12, 2) := dk_21 12 (dk_at dksX2_quickSort_12 14 rfl rfl)
theorem dX2_quickSort_300 : decode cX2_quickSort 300 = .ok (.isub, 1) := dk_100 (dk_at dksX2_quickSort_12 16 rfl rfl)
theorem dX2_quickSort_301 : decode cX2_quickSort 301 = .ok (.iload 12, 2) := dk_21 12 (dk_at dksX2_quickSort_12 17 rfl rfl)
theorem dX2_quickSort_303 : decode cX2_quickSort 303 = .ok (.invokestatic 25, 3) := dk_184 0 25 (dk_at dksX2_quickSort_12 19 rfl rfl)
theorem dX2_quickSort_306 : decode cX2_quickSort 306 = .ok (.iload 9, 2) := dk_21 9 (dk_at dksX2_quickSort_12 22 rfl rfl)
theorem dX2_quickSort_308 : decode cX2_quickSort 308 = .ok (.iload 8, 2) := dk_21 8 (dk_at dksX2_quickSort_13 0 rfl rfl)
theorem dX2_quickSort_310 : decode cX2_quickSort 310 = .ok (.isub, 1) := dk_100 (dk_at dksX2_quickSort_13 2 rfl rfl)
theorem dX2_quickSort_311 : decode cX2_quickSort 311 = .ok (.dup, 1) := dk_89 (dk_at dksX2_quickSort_13 3 rfl rfl)
theorem dX2_quickSort_312 : decode cX2_quickSort 312 = .ok (.istore 12, 2) := dk_54 12 (dk_at dksX2_quickSort_13 4 rfl rfl)
theorem dX2_quickSort_314 : decode cX2_quickSort 314 = .ok (.iconst 1, 1) := dk_4 (dk_at dksX2_quickSort_13 6 rfl rfl)
theorem dX2_quickSort_315 : decode cX2_quickSort 315 = .ok (.if_icmp .le 12, 3) := dk_164 0 12 (dk_at dksX2_quickSort_13 7 rfl rfl)
theorem dX2_quickSort_318 : decode cX2_quickSort 318 = .ok (.aload_n 0, 1) := dk_42 (dk_at dksX2_quickSort_13 10 rfl rfl)
theorem dX2_quickSort_319 : decode cX2_quickSort 319 = .ok (.iload_n 1, 1) := dk_27 (dk_at dksX2_quickSort_13 11 rfl rfl)
theorem dX2_quickSort_320 : decode cX2_quickSort 320 = .ok (.iload_n 1, 1) := dk_27 (dk_at dksX2_quickSort_13 12 rfl rfl)
theorem dX2_quickSort_321 : decode cX2_quickSort 321 = .ok (.iload 12, 2) := dk_21 12 (dk_at dksX2_quickSort_13 13 rfl rfl)
theorem dX2_quickSort_323 : decode cX2_quickSort 323 = .ok (.iadd, 1) := dk_96 (dk_at dksX2_quickSort_13 15 rfl rfl)
theorem dX2_quickSort_324 : decode cX2_quickSort 324 = .ok (.invokestatic 28, 3) := dk_184 0 28 (dk_at dksX2_quickSort_13 16 rfl rfl)
theorem dX2_quickSort_327 : decode cX2_quickSort 327 = .ok (.iload 11, 2) := dk_21 11 (dk_at dksX2_quickSort_13 19 rfl rfl)
theorem dX2_quickSort_329 : decode cX2_quickSort 329 = .ok (.iload 10, 2) := dk_21 10 (dk_at dksX2_quickSort_13 21 rfl rfl)
theorem dX2_quickSort_331 : decode cX2_quickSort 331 = .ok (.isub, 1) := dk_100 (dk_at dksX2_quickSort_13 23 rfl rfl)
theorem dX2_quickSort_332 : decode cX2_quickSort 332 = .ok (.dup, 1) := dk_89 (dk_at dksX2_quickSort_14 0 rfl rfl)
theorem dX2_quickSort_333 : decode cX2_quickSort 333 = .ok (.istore 12, 2) := dk_54 12 (dk_at dksX2_quickSort_14 1 rfl rfl)
theorem dX2_quickSort_335 : decode cX2_quickSort 335 = .ok (.iconst 1, 1) := dk_4 (dk_at dksX2_quickSort_14 3 rfl rfl)
theorem dX2_quickSort_336 : decode cX2_quickSort 336 = .ok (.if_icmp .le 12, 3) := dk_164 0 12 (dk_at dksX2_quickSort_14 4 rfl rfl)
theorem dX2_quickSort_339 : decode cX2_quickSort 339 = .ok (.aload_n 0, 1) := dk_42 (dk_at dksX2_quickSort_14 7 rfl rfl)
theorem dX2_quickSort_340 : decode cX2_quickSort 340 = .ok (.iload_n 2, 1) := dk_28 (dk_at dksX2_quickSort_14 8 rfl rfl)
theorem dX2_quickSort_341 : decode cX2_quickSort 341 = .ok (.iload 12, 2) := dk_21 12 (dk_at dksX2_quickSort_14 9 rfl rfl)
theorem dX2_quickSort_343 : decode cX2_quickSort 343 = .ok (.isub, 1) := dk_100 (dk_at dksX2_quickSort_14 11 rfl rfl)
theorem dX2_quickSort_344 : decode cX2_quickSort 344 = .ok (.iload_n 2, 1) := dk_28 (dk_at dksX2_quickSort_14 12 rfl rfl)
theorem dX2_quickSort_345 : decode cX2_quickSort 345 = .ok (.invokestatic 28, 3) := dk_184 0 28 (dk_at dksX2_quickSort_14 13 rfl rfl)
theorem dX2_quickSort_348 : decode cX2_quickSort 348 = .ok (.return_, 1) := dk_177 (dk_at dksX2_quickSort_14 16 rfl rfl)
abbrev cX2_selectionSort : ByteArray := prog_1_method_4_code
def yX2_selectionSort : MethodName := ⟨RX2, "selectionSort", "([III)V"⟩
def dkwX2_selectionSort_3 : List UInt8 := [167, 255, 187, 177]
abbrev dktX2_selectionSort_3 : List UInt8 := dkwX2_selectionSort_3 ++ []
def dkwX2_selectionSort_2 : List UInt8 := [159, 0, 21, 42, 29, 46, 54, 5, 42, 29, 42, 21, 4, 46, 79, 42, 21, 4, 21, 5, 79, 132, 3, 1]
abbrev dktX2_selectionSort_2 : List UInt8 := dkwX2_selectionSort_2 ++ dktX2_selectionSort_3
def dkwX2_selectionSort_1 : List UInt8 := [21, 5, 46, 42, 21, 4, 46, 162, 0, 7, 21, 5, 54, 4, 132, 5, 1, 167, 255, 232, 21, 4, 29]
abbrev dktX2_selectionSort_1 : List UInt8 := dkwX2_selectionSort_1 ++ dktX2_selectionSort_2
def dkwX2_selectionSort_0 : List UInt8 := [27, 62, 29, 28, 4, 100, 162, 0, 68, 29, 54, 4, 29, 4, 96, 54, 5, 21, 5, 28, 162, 0, 24, 42]
abbrev dktX2_selectionSort_0 : List UInt8 := dkwX2_selectionSort_0 ++ dktX2_selectionSort_1
theorem dksX2_selectionSort_0 : cX2_selectionSort.data.toList.drop 0 = dktX2_selectionSort_0 := by decide +kernel
theorem dksX2_selectionSort_1 : cX2_selectionSort.data.toList.drop 24 = dktX2_selectionSort_1 := dk_seg dksX2_selectionSort_0 24 rfl rfl
theorem dksX2_selectionSort_2 : cX2_selectionSort.data.toList.drop 47 = dktX2_selectionSort_2 := dk_seg dksX2_selectionSort_1 23 rfl rfl
theorem dksX2_selectionSort_3 : cX2_selectionSort.data.toList.drop 71 = dktX2_selectionSort_3 := dk_seg dksX2_selectionSort_2 24 rfl rfl
theorem dX2_selectionSort_0 : decode cX2_selectionSort 0 = .ok (.iload_n 1, 1) := dk_27 (dk_at dksX2_selectionSort_0 0 rfl rfl)
theorem dX2_selectionSort_1 : decode cX2_selectionSort 1 = .ok (.istore_n 3, 1) := dk_62 (dk_at dksX2_selectionSort_0 1 rfl rfl)
theorem dX2_selectionSort_2 : decode cX2_selectionSort 2 = .ok (.iload_n 3, 1) := dk_29 (dk_at dksX2_selectionSort_0 2 rfl rfl)
theorem dX2_selectionSort_3 : decode cX2_selectionSort 3 = .ok (.iload_n 2, 1) := dk_28 (dk_at dksX2_selectionSort_0 3 rfl rfl)
theorem dX2_selectionSort_4 : decode cX2_selectionSort 4 = .ok (.iconst 1, 1) := dk_4 (dk_at dksX2_selectionSort_0 4 rfl rfl)
theorem dX2_selectionSort_5 : decode cX2_selectionSort 5 = .ok (.isub, 1) := dk_100 (dk_at dksX2_selectionSort_0 5 rfl rfl)
theorem dX2_selectionSort_6 : decode cX2_selectionSort 6 = .ok (.if_icmp .ge 68, 3) := dk_162 0 68 (dk_at dksX2_selectionSort_0 6 rfl rfl)
theorem dX2_selectionSort_9 : decode cX2_selectionSort 9 = .ok (.iload_n 3, 1) := dk_29 (dk_at dksX2_selectionSort_0 9 rfl rfl)
theorem dX2_selectionSort_10 : decode cX2_selectionSort 10 = .ok (.istore 4, 2) := dk_54 4 (dk_at dksX2_selectionSort_0 10 rfl rfl)
theorem dX2_selectionSort_12 : decode cX2_selectionSort 12 = .ok (.iload_n 3, 1) := dk_29 (dk_at dksX2_selectionSort_0 12 rfl rfl)
theorem dX2_selectionSort_13 : decode cX2_selectionSort 13 = .ok (.iconst 1, 1) := dk_4 (dk_at dksX2_selectionSort_0 13 rfl rfl)
theorem dX2_selectionSort_14 : decode cX2_selectionSort 14 = .ok (.iadd, 1) := dk_96 (dk_at dksX2_selectionSort_0 14 rfl rfl)
theorem dX2_selectionSort_15 : decode cX2_selectionSort 15 = .ok (.istore 5, 2) := dk_54 5 (dk_at dksX2_selectionSort_0 15 rfl rfl)
theorem dX2_selectionSort_17 : decode cX2_selectionSort 17 = .ok (.iload 5, 2) := dk_21 5 (dk_at dksX2_selectionSort_0 17 rfl rfl)
theorem dX2_selectionSort_19 : decode cX2_selectionSort 19 = .ok (.iload_n 2, 1) := dk_28 (dk_at dksX2_selectionSort_0 19 rfl rfl)
theorem dX2_selectionSort_20 : decode cX2_selectionSort 20 = .ok (.if_icmp .ge 24, 3) := dk_162 0 24 (dk_at dksX2_selectionSort_0 20 rfl rfl)
theorem dX2_selectionSort_23 : decode cX2_selectionSort 23 = .ok (.aload_n 0, 1) := dk_42 (dk_at dksX2_selectionSort_0 23 rfl rfl)
theorem dX2_selectionSort_24 : decode cX2_selectionSort 24 = .ok (.iload 5, 2) := dk_21 5 (dk_at dksX2_selectionSort_1 0 rfl rfl)
theorem dX2_selectionSort_26 : decode cX2_selectionSort 26 = .ok (.iaload, 1) := dk_46 (dk_at dksX2_selectionSort_1 2 rfl rfl)
theorem dX2_selectionSort_27 : decode cX2_selectionSort 27 = .ok (.aload_n 0, 1) := dk_42 (dk_at dksX2_selectionSort_1 3 rfl rfl)
theorem dX2_selectionSort_28 : decode cX2_selectionSort 28 = .ok (.iload 4, 2) := dk_21 4 (dk_at dksX2_selectionSort_1 4 rfl rfl)
theorem dX2_selectionSort_30 : decode cX2_selectionSort 30 = .ok (.iaload, 1) := dk_46 (dk_at dksX2_selectionSort_1 6 rfl rfl)
theorem dX2_selectionSort_31 : decode cX2_selectionSort 31 = .ok (.if_icmp .ge 7, 3) := dk_162 0 7 (dk_at dksX2_selectionSort_1 7 rfl rfl)
theorem dX2_selectionSort_34 : decode cX2_selectionSort 34 = .ok (.iload 5, 2) := dk_21 5 (dk_at dksX2_selectionSort_1 10 rfl rfl)
theorem dX2_selectionSort_36 : decode cX2_selectionSort 36 = .ok (.istore 4, 2) := dk_54 4 (dk_at dksX2_selectionSort_1 12 rfl rfl)
theorem dX2_selectionSort_38 : decode cX2_selectionSort 38 = .ok (.iinc 5 1, 3) := dk_132 5 1 (dk_at dksX2_selectionSort_1 14 rfl rfl)
theorem dX2_selectionSort_41 : decode cX2_selectionSort 41 = .ok (.goto (-24), 3) := dk_167 255 232 (dk_at dksX2_selectionSort_1 17 rfl rfl)
theorem dX2_selectionSort_44 : decode cX2_selectionSort 44 = .ok (.iload 4, 2) := dk_21 4 (dk_at dksX2_selectionSort_1 20 rfl rfl)
theorem dX2_selectionSort_46 : decode cX2_selectionSort 46 = .ok (.iload_n 3, 1) := dk_29 (dk_at dksX2_selectionSort_1 22 rfl rfl)
theorem dX2_selectionSort_47 : decode cX2_selectionSort 47 = .ok (.if_icmp .eq 21, 3) := dk_159 0 21 (dk_at dksX2_selectionSort_2 0 rfl rfl)
theorem dX2_selectionSort_50 : decode cX2_selectionSort 50 = .ok (.aload_n 0, 1) := dk_42 (dk_at dksX2_selectionSort_2 3 rfl rfl)
theorem dX2_selectionSort_51 : decode cX2_selectionSort 51 = .ok (.iload_n 3, 1) := dk_29 (dk_at dksX2_selectionSort_2 4 rfl rfl)
theorem dX2_selectionSort_52 : decode cX2_selectionSort 52 = .ok (.iaload, 1) := dk_46 (dk_at dksX2_selectionSort_2 5 rfl rfl)
theorem dX2_selectionSort_53 : decode cX2_selectionSort 53 = .ok (.istore 5, 2) := dk_54 5 (dk_at dksX2_selectionSort_2 6 rfl rfl)
theorem dX2_selectionSort_55 : decode cX2_selectionSort 55 = .ok (.aload_n 0, 1) := dk_42 (dk_at dksX2_selectionSort_2 8 rfl rfl)
theorem dX2_selectionSort_56 : decode cX2_selectionSort 56 = .ok (.iload_n 3, 1) := dk_29 (dk_at dksX2_selectionSort_2 9 rfl rfl)
theorem dX2_selectionSort_57 : decode cX2_selectionSort 57 = .ok (.aload_n 0, 1) := dk_42 (dk_at dksX2_selectionSort_2 10 rfl rfl)
theorem dX2_selectionSort_58 : decode cX2_selectionSort 58 = .ok (.iload 4, 2) := dk_21 4 (dk_at dksX2_selectionSort_2 11 rfl rfl)
theorem dX2_selectionSort_60 : decode cX2_selectionSort 60 = .ok (.iaload, 1) := dk_46 (dk_at dksX2_selectionSort_2 13 rfl rfl)
theorem dX2_selectionSort_61 : decode cX2_selectionSort 61 = .ok (.iastore, 1) := dk_79 (dk_at dksX2_selectionSort_2 14 rfl rfl)
theorem dX2_selectionSort_62 : decode cX2_selectionSort 62 = .ok (.aload_n 0, 1) := dk_42 (dk_at dksX2_selectionSort_2 15 rfl rfl)
theorem dX2_selectionSort_63 : decode cX2_selectionSort 63 = .ok (.iload 4, 2) := dk_21 4 (dk_at dksX2_selectionSort_2 16 rfl rfl)
theorem dX2_selectionSort_65 : decode cX2_selectionSort 65 = .ok (.iload 5, 2) := dk_21 5 (dk_at dksX2_selectionSort_2 18 rfl rfl)
theorem dX2_selectionSort_67 : decode cX2_selectionSort 67 = .ok (.iastore, 1) := dk_79 (dk_at dksX2_selectionSort_2 20 rfl rfl)
theorem dX2_selectionSort_68 : decode cX2_selectionSort 68 = .ok (.iinc 3 1, 3) := dk_132 3 1 (dk_at dksX2_selectionSort_2 21 rfl rfl)
theorem dX2_selectionSort_71 : decode cX2_selectionSort 71 = .ok (.goto (-69), 3) := dk_167 255 187 (dk_at dksX2_selectionSort_3 0 rfl rfl)
theorem dX2_selectionSort_74 : decode cX2_selectionSort 74 = .ok (.return_, 1) := dk_177 (dk_at dksX2_selectionSort_3 3 rfl rfl)
abbrev cX2_med3 : ByteArray := prog_1_method_3_code
def yX2_med3 : MethodName := ⟨RX2, "med3", "([IIII)I"⟩
def dkwX2_med3_3 : List UInt8 := [158, 0, 7, 29, 167, 0, 4, 27, 172]
abbrev dktX2_med3_3 : List UInt8 := dkwX2_med3_3 ++ []
def dkwX2_med3_2 : List UInt8 := [21, 5, 156, 0, 7, 29, 167, 0, 26, 27, 167, 0, 22, 21, 6, 158, 0, 7, 28, 167, 0, 13, 21, 5]
abbrev dktX2_med3_2 : List UInt8 := dkwX2_med3_2 ++ dktX2_med3_3
def dkwX2_med3_1 : List UInt8 := [46, 42, 29, 46, 184, 0, 9, 54, 6, 21, 4, 156, 0, 25, 21, 6, 156, 0, 7, 28, 167, 0, 35]
abbrev dktX2_med3_1 : List UInt8 := dkwX2_med3_1 ++ dktX2_med3_2
def dkwX2_med3_0 : List UInt8 := [42, 27, 46, 42, 28, 46, 184, 0, 9, 54, 4, 42, 27, 46, 42, 29, 46, 184, 0, 9, 54, 5, 42, 28]
abbrev dktX2_med3_0 : List UInt8 := dkwX2_med3_0 ++ dktX2_med3_1
theorem dksX2_med3_0 : cX2_med3.data.toList.drop 0 = dktX2_med3_0 := by decide +kernel
theorem dksX2_med3_1 : cX2_med3.data.toList.drop 24 = dktX2_med3_1 := dk_seg dksX2_med3_0 24 rfl rfl
theorem dksX2_med3_2 : cX2_med3.data.toList.drop 47 = dktX2_med3_2 := dk_seg dksX2_med3_1 23 rfl rfl
theorem dksX2_med3_3 : cX2_med3.data.toList.drop 71 = dktX2_med3_3 := dk_seg dksX2_med3_2 24 rfl rfl
theorem dX2_med3_0 : decode cX2_med3 0 = .ok (.aload_n 0, 1) := dk_42 (dk_at dksX2_med3_0 0 rfl rfl)
theorem dX2_med3_1 : decode cX2_med3 1 = .ok (.iload_n 1, 1) := dk_27 (dk_at dksX2_med3_0 1 rfl rfl)
theorem dX2_med3_2 : decode cX2_med3 2 = .ok (.iaload, 1) := dk_46 (dk_at dksX2_med3_0 2 rfl rfl)
theorem dX2_med3_3 : decode cX2_med3 3 = .ok (.aload_n 0, 1) := dk_42 (dk_at dksX2_med3_0 3 rfl rfl)
theorem dX2_med3_4 : decode cX2_med3 4 = .ok (.iload_n 2, 1) := dk_28 (dk_at dksX2_med3_0 4 rfl rfl)
theorem dX2_med3_5 : decode cX2_med3 5 = .ok (.iaload, 1) := dk_46 (dk_at dksX2_med3_0 5 rfl rfl)
theorem dX2_med3_6 : decode cX2_med3 6 = .ok (.invokestatic 9, 3) := dk_184 0 9 (dk_at dksX2_med3_0 6 rfl rfl)
theorem dX2_med3_9 : decode cX2_med3 9 = .ok (.istore 4, 2) := dk_54 4 (dk_at dksX2_med3_0 9 rfl rfl)
theorem dX2_med3_11 : decode cX2_med3 11 = .ok (.aload_n 0, 1) := dk_42 (dk_at dksX2_med3_0 11 rfl rfl)
theorem dX2_med3_12 : decode cX2_med3 12 = .ok (.iload_n 1, 1) := dk_27 (dk_at dksX2_med3_0 12 rfl rfl)
theorem dX2_med3_13 : decode cX2_med3 13 = .ok (.iaload, 1) := dk_46 (dk_at dksX2_med3_0 13 rfl rfl)
theorem dX2_med3_14 : decode cX2_med3 14 = .ok (.aload_n 0, 1) := dk_42 (dk_at dksX2_med3_0 14 rfl rfl)
theorem dX2_med3_15 : decode cX2_med3 15 = .ok (.iload_n 3, 1) := dk_29 (dk_at dksX2_med3_0 15 rfl rfl)
theorem dX2_med3_16 : decode cX2_med3 16 = .ok (.iaload, 1) := dk_46 (dk_at dksX2_med3_0 16 rfl rfl)
theorem dX2_med3_17 : decode cX2_med3 17 = .ok (.invokestatic 9, 3) := dk_184 0 9 (dk_at dksX2_med3_0 17 rfl rfl)
theorem dX2_med3_20 : decode cX2_med3 20 = .ok (.istore 5, 2) := dk_54 5 (dk_at dksX2_med3_0 20 rfl rfl)
theorem dX2_med3_22 : decode cX2_med3 22 = .ok (.aload_n 0, 1) := dk_42 (dk_at dksX2_med3_0 22 rfl rfl)
theorem dX2_med3_23 : decode cX2_med3 23 = .ok (.iload_n 2, 1) := dk_28 (dk_at dksX2_med3_0 23 rfl rfl)
theorem dX2_med3_24 : decode cX2_med3 24 = .ok (.iaload, 1) := dk_46 (dk_at dksX2_med3_1 0 rfl rfl)
theorem dX2_med3_25 : decode cX2_med3 25 = .ok (.aload_n 0, 1) := dk_42 (dk_at dksX2_med3_1 1 rfl rfl)
theorem dX2_med3_26 : decode cX2_med3 26 = .ok (.iload_n 3, 1) := dk_29 (dk_at dksX2_med3_1 2 rfl rfl)
theorem dX2_med3_27 : decode cX2_med3 27 = .ok (.iaload, 1) := dk_46 (dk_at dksX2_med3_1 3 rfl rfl)
theorem dX2_med3_28 : decode cX2_med3 28 = .ok (.invokestatic 9, 3) := dk_184 0 9 (dk_at dksX2_med3_1 4 rfl rfl)
theorem dX2_med3_31 : decode cX2_med3 31 = .ok (.istore 6, 2) := dk_54 6 (dk_at dksX2_med3_1 7 rfl rfl)
theorem dX2_med3_33 : decode cX2_med3 33 = .ok (.iload 4, 2) := dk_21 4 (dk_at dksX2_med3_1 9 rfl rfl)
theorem dX2_med3_35 : decode cX2_med3 35 = .ok (.ifCond .ge 25, 3) := dk_156 0 25 (dk_at dksX2_med3_1 11 rfl rfl)
theorem dX2_med3_38 : decode cX2_med3 38 = .ok (.iload 6, 2) := dk_21 6 (dk_at dksX2_med3_1 14 rfl rfl)
theorem dX2_med3_40 : decode cX2_med3 40 = .ok (.ifCond .ge 7, 3) := dk_156 0 7 (dk_at dksX2_med3_1 16 rfl rfl)
theorem dX2_med3_43 : decode cX2_med3 43 = .ok (.iload_n 2, 1) := dk_28 (dk_at dksX2_med3_1 19 rfl rfl)
theorem dX2_med3_44 : decode cX2_med3 44 = .ok (.goto 35, 3) := dk_167 0 35 (dk_at dksX2_med3_1 20 rfl rfl)
theorem dX2_med3_47 : decode cX2_med3 47 = .ok (.iload 5, 2) := dk_21 5 (dk_at dksX2_med3_2 0 rfl rfl)
theorem dX2_med3_49 : decode cX2_med3 49 = .ok (.ifCond .ge 7, 3) := dk_156 0 7 (dk_at dksX2_med3_2 2 rfl rfl)
theorem dX2_med3_52 : decode cX2_med3 52 = .ok (.iload_n 3, 1) := dk_29 (dk_at dksX2_med3_2 5 rfl rfl)
theorem dX2_med3_53 : decode cX2_med3 53 = .ok (.goto 26, 3) := dk_167 0 26 (dk_at dksX2_med3_2 6 rfl rfl)
theorem dX2_med3_56 : decode cX2_med3 56 = .ok (.iload_n 1, 1) := dk_27 (dk_at dksX2_med3_2 9 rfl rfl)
theorem dX2_med3_57 : decode cX2_med3 57 = .ok (.goto 22, 3) := dk_167 0 22 (dk_at dksX2_med3_2 10 rfl rfl)
theorem dX2_med3_60 : decode cX2_med3 60 = .ok (.iload 6, 2) := dk_21 6 (dk_at dksX2_med3_2 13 rfl rfl)
theorem dX2_med3_62 : decode cX2_med3 62 = .ok (.ifCond .le 7, 3) := dk_158 0 7 (dk_at dksX2_med3_2 15 rfl rfl)
theorem dX2_med3_65 : decode cX2_med3 65 = .ok (.iload_n 2, 1) := dk_28 (dk_at dksX2_med3_2 18 rfl rfl)
theorem dX2_med3_66 : decode cX2_med3 66 = .ok (.goto 13, 3) := dk_167 0 13 (dk_at dksX2_med3_2 19 rfl rfl)
theorem dX2_med3_69 : decode cX2_med3 69 = .ok (.iload 5, 2) := dk_21 5 (dk_at dksX2_med3_2 22 rfl rfl)
theorem dX2_med3_71 : decode cX2_med3 71 = .ok (.ifCond .le 7, 3) := dk_158 0 7 (dk_at dksX2_med3_3 0 rfl rfl)
theorem dX2_med3_74 : decode cX2_med3 74 = .ok (.iload_n 3, 1) := dk_29 (dk_at dksX2_med3_3 3 rfl rfl)
theorem dX2_med3_75 : decode cX2_med3 75 = .ok (.goto 4, 3) := dk_167 0 4 (dk_at dksX2_med3_3 4 rfl rfl)
theorem dX2_med3_78 : decode cX2_med3 78 = .ok (.iload_n 1, 1) := dk_27 (dk_at dksX2_med3_3 7 rfl rfl)
theorem dX2_med3_79 : decode cX2_med3 79 = .ok (.ireturn, 1) := dk_172 (dk_at dksX2_med3_3 8 rfl rfl)
abbrev cX2_swap : ByteArray := prog_1_method_1_code
def yX2_swap : MethodName := ⟨RX2, "swap", "([III)V"⟩
def dkwX2_swap_0 : List UInt8 := [42, 27, 46, 62, 42, 27, 42, 28, 46, 79, 42, 28, 29, 79, 177]
abbrev dktX2_swap_0 : List UInt8 := dkwX2_swap_0 ++ []
theorem dksX2_swap_0 : cX2_swap.data.toList.drop 0 = dktX2_swap_0 := by decide +kernel
theorem dX2_swap_0 : decode cX2_swap 0 = .ok (.aload_n 0, 1) := dk_42 (dk_at dksX2_swap_0 0 rfl rfl)
theorem dX2_swap_1 : decode cX2_swap 1 = .ok (.iload_n 1, 1) := dk_27 (dk_at dksX2_swap_0 1 rfl rfl)
theorem dX2_swap_2 : decode cX2_swap 2 = .ok (.iaload, 1) := dk_46 (dk_at dksX2_swap_0 2 rfl rfl)
theorem dX2_swap_3 : decode cX2_swap 3 = .ok (.istore_n 3, 1) := dk_62 (dk_at dksX2_swap_0 3 rfl rfl)
theorem dX2_swap_4 : decode cX2_swap 4 = .ok (.aload_n 0, 1) := dk_42 (dk_at dksX2_swap_0 4 rfl rfl)
theorem dX2_swap_5 : decode cX2_swap 5 = .ok (.iload_n 1, 1) := dk_27 (dk_at dksX2_swap_0 5 rfl rfl)
theorem dX2_swap_6 : decode cX2_swap 6 = .ok (.aload_n 0, 1) := dk_42 (dk_at dksX2_swap_0 6 rfl rfl)
theorem dX2_swap_7 : decode cX2_swap 7 = .ok (.iload_n 2, 1) := dk_28 (dk_at dksX2_swap_0 7 rfl rfl)
theorem dX2_swap_8 : decode cX2_swap 8 = .ok (.iaload, 1) := dk_46 (dk_at dksX2_swap_0 8 rfl rfl)
theorem dX2_swap_9 : decode cX2_swap 9 = .ok (.iastore, 1) := dk_79 (dk_at dksX2_swap_0 9 rfl rfl)
theorem dX2_swap_10 : decode cX2_swap 10 = .ok (.aload_n 0, 1) := dk_42 (dk_at dksX2_swap_0 10 rfl rfl)
theorem dX2_swap_11 : decode cX2_swap 11 = .ok (.iload_n 2, 1) := dk_28 (dk_at dksX2_swap_0 11 rfl rfl)
theorem dX2_swap_12 : decode cX2_swap 12 = .ok (.iload_n 3, 1) := dk_29 (dk_at dksX2_swap_0 12 rfl rfl)
theorem dX2_swap_13 : decode cX2_swap 13 = .ok (.iastore, 1) := dk_79 (dk_at dksX2_swap_0 13 rfl rfl)
theorem dX2_swap_14 : decode cX2_swap 14 = .ok (.return_, 1) := dk_177 (dk_at dksX2_swap_0 14 rfl rfl)
abbrev cX2_swap_2 : ByteArray := prog_1_method_2_code
def yX2_swap_2 : MethodName := ⟨RX2, "swap", "([IIII)V"⟩
def dkwX2_swap_2_1 : List UInt8 := [167, 255, 235, 177]
abbrev dktX2_swap_2_1 : List UInt8 := dkwX2_swap_2_1 ++ []
def dkwX2_swap_2_0 : List UInt8 := [3, 54, 4, 21, 4, 29, 162, 0, 21, 42, 27, 28, 184, 0, 5, 132, 4, 1, 132, 1, 1, 132, 2, 1]
abbrev dktX2_swap_2_0 : List UInt8 := dkwX2_swap_2_0 ++ dktX2_swap_2_1
theorem dksX2_swap_2_0 : cX2_swap_2.data.toList.drop 0 = dktX2_swap_2_0 := by decide +kernel
theorem dksX2_swap_2_1 : cX2_swap_2.data.toList.drop 24 = dktX2_swap_2_1 := dk_seg dksX2_swap_2_0 24 rfl rfl
theorem dX2_swap_2_0 : decode cX2_swap_2 0 = .ok (.iconst 0, 1) := dk_3 (dk_at dksX2_swap_2_0 0 rfl rfl)
theorem dX2_swap_2_1 : decode cX2_swap_2 1 = .ok (.istore 4, 2) := dk_54 4 (dk_at dksX2_swap_2_0 1 rfl rfl)
theorem dX2_swap_2_3 : decode cX2_swap_2 3 = .ok (.iload 4, 2) := dk_21 4 (dk_at dksX2_swap_2_0 3 rfl rfl)
theorem dX2_swap_2_5 : decode cX2_swap_2 5 = .ok (.iload_n 3, 1) := dk_29 (dk_at dksX2_swap_2_0 5 rfl rfl)
theorem dX2_swap_2_6 : decode cX2_swap_2 6 = .ok (.if_icmp .ge 21, 3) := dk_162 0 21 (dk_at dksX2_swap_2_0 6 rfl rfl)
theorem dX2_swap_2_9 : decode cX2_swap_2 9 = .ok (.aload_n 0, 1) := dk_42 (dk_at dksX2_swap_2_0 9 rfl rfl)
theorem dX2_swap_2_10 : decode cX2_swap_2 10 = .ok (.iload_n 1, 1) := dk_27 (dk_at dksX2_swap_2_0 10 rfl rfl)
theorem dX2_swap_2_11 : decode cX2_swap_2 11 = .ok (.iload_n 2, 1) := dk_28 (dk_at dksX2_swap_2_0 11 rfl rfl)
theorem dX2_swap_2_12 : decode cX2_swap_2 12 = .ok (.invokestatic 5, 3) := dk_184 0 5 (dk_at dksX2_swap_2_0 12 rfl rfl)
theorem dX2_swap_2_15 : decode cX2_swap_2 15 = .ok (.iinc 4 1, 3) := dk_132 4 1 (dk_at dksX2_swap_2_0 15 rfl rfl)
theorem dX2_swap_2_18 : decode cX2_swap_2 18 = .ok (.iinc 1 1, 3) := dk_132 1 1 (dk_at dksX2_swap_2_0 18 rfl rfl)
theorem dX2_swap_2_21 : decode cX2_swap_2 21 = .ok (.iinc 2 1, 3) := dk_132 2 1 (dk_at dksX2_swap_2_0 21 rfl rfl)
theorem dX2_swap_2_24 : decode cX2_swap_2 24 = .ok (.goto (-21), 3) := dk_167 255 235 (dk_at dksX2_swap_2_1 0 rfl rfl)
theorem dX2_swap_2_27 : decode cX2_swap_2 27 = .ok (.return_, 1) := dk_177 (dk_at dksX2_swap_2_1 3 rfl rfl)
abbrev cX2_mergeSort : ByteArray := prog_1_method_9_code
def yX2_mergeSort : MethodName := ⟨RX2, "mergeSort", "([III)V"⟩
def dkwX2_mergeSort_0 : List UInt8 := [42, 27, 28, 1, 192, 0, 53, 184, 0, 43, 177]
abbrev dktX2_mergeSort_0 : List UInt8 := dkwX2_mergeSort_0 ++ []
theorem dksX2_mergeSort_0 : cX2_mergeSort.data.toList.drop 0 = dktX2_mergeSort_0 := by decide +kernel
theorem dX2_mergeSort_0 : decode cX2_mergeSort 0 = .ok (.aload_n 0, 1) := dk_42 (dk_at dksX2_mergeSort_0 0 rfl rfl)
theorem dX2_mergeSort_1 : decode cX2_mergeSort 1 = .ok (.iload_n 1, 1) := dk_27 (dk_at dksX2_mergeSort_0 1 rfl rfl)
theorem dX2_mergeSort_2 : decode cX2_mergeSort 2 = .ok (.iload_n 2, 1) := dk_28 (dk_at dksX2_mergeSort_0 2 rfl rfl)
theorem dX2_mergeSort_3 : decode cX2_mergeSort 3 = .ok (.aconst_null, 1) := dk_1 (dk_at dksX2_mergeSort_0 3 rfl rfl)
theorem dX2_mergeSort_4 : decode cX2_mergeSort 4 = .ok (.checkcast 53, 3) := dk_192 0 53 (dk_at dksX2_mergeSort_0 4 rfl rfl)
theorem dX2_mergeSort_7 : decode cX2_mergeSort 7 = .ok (.invokestatic 43, 3) := dk_184 0 43 (dk_at dksX2_mergeSort_0 7 rfl rfl)
theorem dX2_mergeSort_10 : decode cX2_mergeSort 10 = .ok (.return_, 1) := dk_177 (dk_at dksX2_mergeSort_0 10 rfl rfl)
abbrev cX2_mergeSort_2 : ByteArray := prog_1_method_8_code
def yX2_mergeSort_2 : MethodName := ⟨RX2, "mergeSort", "([III[I)V"⟩
def dkwX2_mergeSort_2_6 : List UInt8 := [132, 6, 1, 167, 255, 198, 177]
abbrev dktX2_mergeSort_2_6 : List UInt8 := dkwX2_mergeSort_2_6 ++ []
def dkwX2_mergeSort_2_5 : List UInt8 := [45, 21, 7, 132, 7, 1, 46, 79, 167, 0, 14, 42, 21, 6, 45, 21, 8, 132, 8, 1, 46, 79]
abbrev dktX2_mergeSort_2_5 : List UInt8 := dkwX2_mergeSort_2_5 ++ dktX2_mergeSort_2_6
def dkwX2_mergeSort_2_4 : List UInt8 := [162, 0, 21, 21, 7, 21, 5, 162, 0, 28, 45, 21, 7, 46, 45, 21, 8, 46, 163, 0, 17, 42, 21, 6]
abbrev dktX2_mergeSort_2_4 : List UInt8 := dkwX2_mergeSort_2_4 ++ dktX2_mergeSort_2_5
def dkwX2_mergeSort_2_3 : List UInt8 := [184, 0, 47, 177, 27, 54, 6, 27, 54, 7, 21, 5, 54, 8, 21, 6, 28, 162, 0, 58, 21, 8, 28]
abbrev dktX2_mergeSort_2_3 : List UInt8 := dkwX2_mergeSort_2_3 ++ dktX2_mergeSort_2_4
def dkwX2_mergeSort_2_2 : List UInt8 := [42, 184, 0, 43, 45, 21, 5, 4, 100, 46, 45, 21, 5, 46, 163, 0, 13, 45, 27, 42, 27, 21, 4]
abbrev dktX2_mergeSort_2_2 : List UInt8 := dkwX2_mergeSort_2_2 ++ dktX2_mergeSort_2_3
def dkwX2_mergeSort_2_1 : List UInt8 := [28, 184, 0, 37, 78, 27, 28, 96, 4, 124, 54, 5, 45, 27, 21, 5, 42, 184, 0, 43, 45, 21, 5, 28]
abbrev dktX2_mergeSort_2_1 : List UInt8 := dkwX2_mergeSort_2_1 ++ dktX2_mergeSort_2_2
def dkwX2_mergeSort_2_0 : List UInt8 := [28, 27, 100, 54, 4, 21, 4, 16, 16, 162, 0, 10, 42, 27, 28, 184, 0, 34, 177, 45, 199, 0, 9, 42]
abbrev dktX2_mergeSort_2_0 : List UInt8 := dkwX2_mergeSort_2_0 ++ dktX2_mergeSort_2_1
theorem dksX2_mergeSort_2_0 : cX2_mergeSort_2.data.toList.drop 0 = dktX2_mergeSort_2_0 := by decide +kernel
theorem dksX2_mergeSort_2_1 : cX2_mergeSort_2.data.toList.drop 24 = dktX2_mergeSort_2_1 := dk_seg dksX2_mergeSort_2_0 24 rfl rfl
theorem dksX2_mergeSort_2_2 : cX2_mergeSort_2.data.toList.drop 48 = dktX2_mergeSort_2_2 := dk_seg dksX2_mergeSort_2_1 24 rfl rfl
theorem dksX2_mergeSort_2_3 : cX2_mergeSort_2.data.toList.drop 71 = dktX2_mergeSort_2_3 := dk_seg dksX2_mergeSort_2_2 23 rfl rfl
theorem dksX2_mergeSort_2_4 : cX2_mergeSort_2.data.toList.drop 94 = dktX2_mergeSort_2_4 := dk_seg dksX2_mergeSort_2_3 23 rfl rfl
theorem dksX2_mergeSort_2_5 : cX2_mergeSort_2.data.toList.drop 118 = dktX2_mergeSort_2_5 := dk_seg dksX2_mergeSort_2_4 24 rfl rfl
theorem dksX2_mergeSort_2_6 : cX2_mergeSort_2.data.toList.drop 140 = dktX2_mergeSort_2_6 := dk_seg dksX2_mergeSort_2_5 22 rfl rfl
theorem dX2_mergeSort_2_0 : decode cX2_mergeSort_2 0 = .ok (.iload_n 2, 1) := dk_28 (dk_at dksX2_mergeSort_2_0 0 rfl rfl)
theorem dX2_mergeSort_2_1 : decode cX2_mergeSort_2 1 = .ok (.iload_n 1, 1) := dk_27 (dk_at dksX2_mergeSort_2_0 1 rfl rfl)
theorem dX2_mergeSort_2_2 : decode cX2_mergeSort_2 2 = .ok (.isub, 1) := dk_100 (dk_at dksX2_mergeSort_2_0 2 rfl rfl)
theorem dX2_mergeSort_2_3 : decode cX2_mergeSort_2 3 = .ok (.istore 4, 2) := dk_54 4 (dk_at dksX2_mergeSort_2_0 3 rfl rfl)
theorem dX2_mergeSort_2_5 : decode cX2_mergeSort_2 5 = .ok (.iload 4, 2) := dk_21 4 (dk_at dksX2_mergeSort_2_0 5 rfl rfl)
theorem dX2_mergeSort_2_7 : decode cX2_mergeSort_2 7 = .ok (.bipush 16, 2) := dk_16 16 (dk_at dksX2_mergeSort_2_0 7 rfl rfl)
theorem dX2_mergeSort_2_9 : decode cX2_mergeSort_2 9 = .ok (.if_icmp .ge 10, 3) := dk_162 0 10 (dk_at dksX2_mergeSort_2_0 9 rfl rfl)
theorem dX2_mergeSort_2_12 : decode cX2_mergeSort_2 12 = .ok (.aload_n 0, 1) := dk_42 (dk_at dksX2_mergeSort_2_0 12 rfl rfl)
theorem dX2_mergeSort_2_13 : decode cX2_mergeSort_2 13 = .ok (.iload_n 1, 1) := dk_27 (dk_at dksX2_mergeSort_2_0 13 rfl rfl)
theorem dX2_mergeSort_2_14 : decode cX2_mergeSort_2 14 = .ok (.iload_n 2, 1) := dk_28 (dk_at dksX2_mergeSort_2_0 14 rfl rfl)
theorem dX2_mergeSort_2_15 : decode cX2_mergeSort_2 15 = .ok (.invokestatic 34, 3) := dk_184 0 34 (dk_at dksX2_mergeSort_2_0 15 rfl rfl)
theorem dX2_mergeSort_2_18 : decode cX2_mergeSort_2 18 = .ok (.return_, 1) := dk_177 (dk_at dksX2_mergeSort_2_0 18 rfl rfl)
theorem dX2_mergeSort_2_19 : decode cX2_mergeSort_2 19 = .ok (.aload_n 3, 1) := dk_45 (dk_at dksX2_mergeSort_2_0 19 rfl rfl)
theorem dX2_mergeSort_2_20 : decode cX2_mergeSort_2 20 = .ok (.ifnonnull 9, 3) := dk_199 0 9 (dk_at dksX2_mergeSort_2_0 20 rfl rfl)
theorem dX2_mergeSort_2_23 : decode cX2_mergeSort_2 23 = .ok (.aload_n 0, 1) := dk_42 (dk_at dksX2_mergeSort_2_0 23 rfl rfl)
theorem dX2_mergeSort_2_24 : decode cX2_mergeSort_2 24 = .ok (.iload_n 2, 1) := dk_28 (dk_at dksX2_mergeSort_2_1 0 rfl rfl)
theorem dX2_mergeSort_2_25 : decode cX2_mergeSort_2 25 = .ok (.invokestatic 37, 3) := dk_184 0 37 (dk_at dksX2_mergeSort_2_1 1 rfl rfl)
theorem dX2_mergeSort_2_28 : decode cX2_mergeSort_2 28 = .ok (.astore_n 3, 1) := dk_78 (dk_at dksX2_mergeSort_2_1 4 rfl rfl)
theorem dX2_mergeSort_2_29 : decode cX2_mergeSort_2 29 = .ok (.iload_n 1, 1) := dk_27 (dk_at dksX2_mergeSort_2_1 5 rfl rfl)
theorem dX2_mergeSort_2_30 : decode cX2_mergeSort_2 30 = .ok (.iload_n 2, 1) := dk_28 (dk_at dksX2_mergeSort_2_1 6 rfl rfl)
theorem dX2_mergeSort_2_31 : decode cX2_mergeSort_2 31 = .ok (.iadd, 1) := dk_96 (dk_at dksX2_mergeSort_2_1 7 rfl rfl)
theorem dX2_mergeSort_2_32 : decode cX2_mergeSort_2 32 = .ok (.iconst 1, 1) := dk_4 (dk_at dksX2_mergeSort_2_1 8 rfl rfl)
theorem dX2_mergeSort_2_33 : decode cX2_mergeSort_2 33 = .ok (.iushr, 1) := dk_124 (dk_at dksX2_mergeSort_2_1 9 rfl rfl)
theorem dX2_mergeSort_2_34 : decode cX2_mergeSort_2 34 = .ok (.istore 5, 2) := dk_54 5 (dk_at dksX2_mergeSort_2_1 10 rfl rfl)
theorem dX2_mergeSort_2_36 : decode cX2_mergeSort_2 36 = .ok (.aload_n 3, 1) := dk_45 (dk_at dksX2_mergeSort_2_1 12 rfl rfl)
theorem dX2_mergeSort_2_37 : decode cX2_mergeSort_2 37 = .ok (.iload_n 1, 1) := dk_27 (dk_at dksX2_mergeSort_2_1 13 rfl rfl)
theorem dX2_mergeSort_2_38 : decode cX2_mergeSort_2 38 = .ok (.iload 5, 2) := dk_21 5 (dk_at dksX2_mergeSort_2_1 14 rfl rfl)
theorem dX2_mergeSort_2_40 : decode cX2_mergeSort_2 40 = .ok (.aload_n 0, 1) := dk_42 (dk_at dksX2_mergeSort_2_1 16 rfl rfl)
theorem dX2_mergeSort_2_41 : decode cX2_mergeSort_2 41 = .ok (.invokestatic 43, 3) := dk_184 0 43 (dk_at dksX2_mergeSort_2_1 17 rfl rfl)
theorem dX2_mergeSort_2_44 : decode cX2_mergeSort_2 44 = .ok (.aload_n 3, 1) := dk_45 (dk_at dksX2_mergeSort_2_1 20 rfl rfl)
theorem dX2_mergeSort_2_45 : decode cX2_mergeSort_2 45 = .ok (.iload 5, 2) := dk_21 5 (dk_at dksX2_mergeSort_2_1 21 rfl rfl)
theorem dX2_mergeSort_2_47 : decode cX2_mergeSort_2 47 = .ok (.iload_n 2, 1) := dk_28 (dk_at dksX2_mergeSort_2_1 23 rfl rfl)
theorem dX2_mergeSort_2_48 : decode cX2_mergeSort_2 48 = .ok (.aload_n 0, 1) := dk_42 (dk_at dksX2_mergeSort_2_2 0 rfl rfl)
theorem dX2_mergeSort_2_49 : decode cX2_mergeSort_2 49 = .ok (.invokestatic 43, 3) := dk_184 0 43 (dk_at dksX2_mergeSort_2_2 1 rfl rfl)
theorem dX2_mergeSort_2_52 : decode cX2_mergeSort_2 52 = .ok (.aload_n 3, 1) := dk_45 (dk_at dksX2_mergeSort_2_2 4 rfl rfl)
theorem dX2_mergeSort_2_53 : decode cX2_mergeSort_2 53 = .ok (.iload 5, 2) := dk_21 5 (dk_at dksX2_mergeSort_2_2 5 rfl rfl)
theorem dX2_mergeSort_2_55 : decode cX2_mergeSort_2 55 = .ok (.iconst 1, 1) := dk_4 (dk_at dksX2_mergeSort_2_2 7 rfl rfl)
theorem dX2_mergeSort_2_56 : decode cX2_mergeSort_2 56 = .ok (.isub, 1) := dk_100 (dk_at dksX2_mergeSort_2_2 8 rfl rfl)
theorem dX2_mergeSort_2_57 : decode cX2_mergeSort_2 57 = .ok (.iaload, 1) := dk_46 (dk_at dksX2_mergeSort_2_2 9 rfl rfl)
theorem dX2_mergeSort_2_58 : decode cX2_mergeSort_2 58 = .ok (.aload_n 3, 1) := dk_45 (dk_at dksX2_mergeSort_2_2 10 rfl rfl)
theorem dX2_mergeSort_2_59 : decode cX2_mergeSort_2 59 = .ok (.iload 5, 2) := dk_21 5 (dk_at dksX2_mergeSort_2_2 11 rfl rfl)
theorem dX2_mergeSort_2_61 : decode cX2_mergeSort_2 61 = .ok (.iaload, 1) := dk_46 (dk_at dksX2_mergeSort_2_2 13 rfl rfl)
theorem dX2_mergeSort_2_62 : decode cX2_mergeSort_2 62 = .ok (.if_icmp .gt 13, 3) := dk_163 0 13 (dk_at dksX2_mergeSort_2_2 14 rfl rfl)
theorem dX2_mergeSort_2_65 : decode cX2_mergeSort_2 65 = .ok (.aload_n 3, 1) := dk_45 (dk_at dksX2_mergeSort_2_2 17 rfl rfl)
theorem dX2_mergeSort_2_66 : decode cX2_mergeSort_2 66 = .ok (.iload_n 1, 1) := dk_27 (dk_at dksX2_mergeSort_2_2 18 rfl rfl)
theorem dX2_mergeSort_2_67 : decode cX2_mergeSort_2 67 = .ok (.aload_n 0, 1) := dk_42 (dk_at dksX2_mergeSort_2_2 19 rfl rfl)
theorem dX2_mergeSort_2_68 : decode cX2_mergeSort_2 68 = .ok (.iload_n 1, 1) := dk_27 (dk_at dksX2_mergeSort_2_2 20 rfl rfl)
theorem dX2_mergeSort_2_69 : decode cX2_mergeSort_2 69 = .ok (.iload 4, 2) := dk_21 4 (dk_at dksX2_mergeSort_2_2 21 rfl rfl)
theorem dX2_mergeSort_2_71 : decode cX2_mergeSort_2 71 = .ok (.invokestatic 47, 3) := dk_184 0 47 (dk_at dksX2_mergeSort_2_3 0 rfl rfl)
theorem dX2_mergeSort_2_74 : decode cX2_mergeSort_2 74 = .ok (.return_, 1) := dk_177 (dk_at dksX2_mergeSort_2_3 3 rfl rfl)
theorem dX2_mergeSort_2_75 : decode cX2_mergeSort_2 75 = .ok (.iload_n 1, 1) := dk_27 (dk_at dksX2_mergeSort_2_3 4 rfl rfl)
theorem dX2_mergeSort_2_76 : decode cX2_mergeSort_2 76 = .ok (.istore 6, 2) := dk_54 6 (dk_at dksX2_mergeSort_2_3 5 rfl rfl)
theorem dX2_mergeSort_2_78 : decode cX2_mergeSort_2 78 = .ok (.iload_n 1, 1) := dk_27 (dk_at dksX2_mergeSort_2_3 7 rfl rfl)
theorem dX2_mergeSort_2_79 : decode cX2_mergeSort_2 79 = .ok (.istore 7, 2) := dk_54 7 (dk_at dksX2_mergeSort_2_3 8 rfl rfl)
theorem dX2_mergeSort_2_81 : decode cX2_mergeSort_2 81 = .ok (.iload 5, 2) := dk_21 5 (dk_at dksX2_mergeSort_2_3 10 rfl rfl)
theorem dX2_mergeSort_2_83 : decode cX2_mergeSort_2 83 = .ok (.istore 8, 2) := dk_54 8 (dk_at dksX2_mergeSort_2_3 12 rfl rfl)
theorem dX2_mergeSort_2_85 : decode cX2_mergeSort_2 85 = .ok (.iload 6, 2) := dk_21 6 (dk_at dksX2_mergeSort_2_3 14 rfl rfl)
theorem dX2_mergeSort_2_87 : decode cX2_mergeSort_2 87 = .ok (.iload_n 2, 1) := dk_28 (dk_at dksX2_mergeSort_2_3 16 rfl rfl)
theorem dX2_mergeSort_2_88 : decode cX2_mergeSort_2 88 = .ok (.if_icmp .ge 58, 3) := dk_162 0 58 (dk_at dksX2_mergeSort_2_3 17 rfl rfl)
theorem dX2_mergeSort_2_91 : decode cX2_mergeSort_2 91 = .ok (.iload 8, 2) := dk_21 8 (dk_at dksX2_mergeSort_2_3 20 rfl rfl)
theorem dX2_mergeSort_2_93 : decode cX2_mergeSort_2 93 = .ok (.iload_n 2, 1) := dk_28 (dk_at dksX2_mergeSort_2_3 22 rfl rfl)
theorem dX2_mergeSort_2_94 : decode cX2_mergeSort_2 94 = .ok (.if_icmp .ge 21, 3) := dk_162 0 21 (dk_at dksX2_mergeSort_2_4 0 rfl rfl)
theorem dX2_mergeSort_2_97 : decode cX2_mergeSort_2 97 = .ok (.iload 7, 2) := dk_21 7 (dk_at dksX2_mergeSort_2_4 3 rfl rfl)
theorem dX2_mergeSort_2_99 : decode cX2_mergeSort_2 99 = .ok (.iload 5, 2) := dk_21 5 (dk_at dksX2_mergeSort_2_4 5 rfl rfl)
theorem dX2_mergeSort_2_101 : decode cX2_mergeSort_2 101 = .ok (.if_icmp .ge 28, 3) := dk_162 0 28 (dk_at dksX2_mergeSort_2_4 7 rfl rfl)
theorem dX2_mergeSort_2_104 : decode cX2_mergeSort_2 104 = .ok (.aload_n 3, 1) := dk_45 (dk_at dksX2_mergeSort_2_4 10 rfl rfl)
theorem dX2_mergeSort_2_105 : decode cX2_mergeSort_2 105 = .ok (.iload 7, 2) := dk_21 7 (dk_at dksX2_mergeSort_2_4 11 rfl rfl)
theorem dX2_mergeSort_2_107 : decode cX2_mergeSort_2 107 = .ok (.iaload, 1) := dk_46 (dk_at dksX2_mergeSort_2_4 13 rfl rfl)
theorem dX2_mergeSort_2_108 : decode cX2_mergeSort_2 108 = .ok (.aload_n 3, 1) := dk_45 (dk_at dksX2_mergeSort_2_4 14 rfl rfl)
theorem dX2_mergeSort_2_109 : decode cX2_mergeSort_2 109 = .ok (.iload 8, 2) := dk_21 8 (dk_at dksX2_mergeSort_2_4 15 rfl rfl)
theorem dX2_mergeSort_2_111 : decode cX2_mergeSort_2 111 = .ok (.iaload, 1) := dk_46 (dk_at dksX2_mergeSort_2_4 17 rfl rfl)
theorem dX2_mergeSort_2_112 : decode cX2_mergeSort_2 112 = .ok (.if_icmp .gt 17, 3) := dk_163 0 17 (dk_at dksX2_mergeSort_2_4 18 rfl rfl)
theorem dX2_mergeSort_2_115 : decode cX2_mergeSort_2 115 = .ok (.aload_n 0, 1) := dk_42 (dk_at dksX2_mergeSort_2_4 21 rfl rfl)
theorem dX2_mergeSort_2_116 : decode cX2_mergeSort_2 116 = .ok (.iload 6, 2) := dk_21 6 (dk_at dksX2_mergeSort_2_4 22 rfl rfl)
theorem dX2_mergeSort_2_118 : decode cX2_mergeSort_2 118 = .ok (.aload_n 3, 1) := dk_45 (dk_at dksX2_mergeSort_2_5 0 rfl rfl)
theorem dX2_mergeSort_2_119 : decode cX2_mergeSort_2 119 = .ok (.iload 7, 2) := dk_21 7 (dk_at dksX2_mergeSort_2_5 1 rfl rfl)
theorem dX2_mergeSort_2_121 : decode cX2_mergeSort_2 121 = .ok (.iinc 7 1, 3) := dk_132 7 1 (dk_at dksX2_mergeSort_2_5 3 rfl rfl)
theorem dX2_mergeSort_2_124 : decode cX2_mergeSort_2 124 = .ok (.iaload, 1) := dk_46 (dk_at dksX2_mergeSort_2_5 6 rfl rfl)
theorem dX2_mergeSort_2_125 : decode cX2_mergeSort_2 125 = .ok (.iastore, 1) := dk_79 (dk_at dksX2_mergeSort_2_5 7 rfl rfl)
theorem dX2_mergeSort_2_126 : decode cX2_mergeSort_2 126 = .ok (.goto 14, 3) := dk_167 0 14 (dk_at dksX2_mergeSort_2_5 8 rfl rfl)
theorem dX2_mergeSort_2_129 : decode cX2_mergeSort_2 129 = .ok (.aload_n 0, 1) := dk_42 (dk_at dksX2_mergeSort_2_5 11 rfl rfl)
theorem dX2_mergeSort_2_130 : decode cX2_mergeSort_2 130 = .ok (.iload 6, 2) := dk_21 6 (dk_at dksX2_mergeSort_2_5 12 rfl rfl)
theorem dX2_mergeSort_2_132 : decode cX2_mergeSort_2 132 = .ok (.aload_n 3, 1) := dk_45 (dk_at dksX2_mergeSort_2_5 14 rfl rfl)
theorem dX2_mergeSort_2_133 : decode cX2_mergeSort_2 133 = .ok (.iload 8, 2) := dk_21 8 (dk_at dksX2_mergeSort_2_5 15 rfl rfl)
theorem dX2_mergeSort_2_135 : decode cX2_mergeSort_2 135 = .ok (.iinc 8 1, 3) := dk_132 8 1 (dk_at dksX2_mergeSort_2_5 17 rfl rfl)
theorem dX2_mergeSort_2_138 : decode cX2_mergeSort_2 138 = .ok (.iaload, 1) := dk_46 (dk_at dksX2_mergeSort_2_5 20 rfl rfl)
theorem dX2_mergeSort_2_139 : decode cX2_mergeSort_2 139 = .ok (.iastore, 1) := dk_79 (dk_at dksX2_mergeSort_2_5 21 rfl rfl)
theorem dX2_mergeSort_2_140 : decode cX2_mergeSort_2 140 = .ok (.iinc 6 1, 3) := dk_132 6 1 (dk_at dksX2_mergeSort_2_6 0 rfl rfl)
theorem dX2_mergeSort_2_143 : decode cX2_mergeSort_2 143 = .ok (.goto (-58), 3) := dk_167 255 198 (dk_at dksX2_mergeSort_2_6 3 rfl rfl)
theorem dX2_mergeSort_2_146 : decode cX2_mergeSort_2 146 = .ok (.return_, 1) := dk_177 (dk_at dksX2_mergeSort_2_6 6 rfl rfl)
abbrev cX2_insertionSort : ByteArray := prog_1_method_5_code
def yX2_insertionSort : MethodName := ⟨RX2, "insertionSort", "([III)V"⟩
def dkwX2_insertionSort_3 : List UInt8 := [21, 4, 79, 167, 255, 185, 177]
abbrev dktX2_insertionSort_3 : List UInt8 := dkwX2_insertionSort_3 ++ []
def dkwX2_insertionSort_2 : List UInt8 := [132, 5, 255, 167, 0, 17, 42, 132, 5, 255, 21, 5, 4, 100, 46, 54, 6, 167, 255, 218, 42, 21, 5]
abbrev dktX2_insertionSort_2 : List UInt8 := dkwX2_insertionSort_2 ++ dktX2_insertionSort_3
def dkwX2_insertionSort_1 : List UInt8 := [54, 6, 21, 4, 21, 6, 162, 0, 37, 42, 21, 5, 21, 6, 79, 27, 21, 5, 4, 100, 160, 0, 9]
abbrev dktX2_insertionSort_1 : List UInt8 := dkwX2_insertionSort_1 ++ dktX2_insertionSort_2
def dkwX2_insertionSort_0 : List UInt8 := [27, 62, 132, 3, 1, 29, 28, 162, 0, 69, 42, 29, 46, 54, 4, 29, 54, 5, 42, 21, 5, 4, 100, 46]
abbrev dktX2_insertionSort_0 : List UInt8 := dkwX2_insertionSort_0 ++ dktX2_insertionSort_1
theorem dksX2_insertionSort_0 : cX2_insertionSort.data.toList.drop 0 = dktX2_insertionSort_0 := by decide +kernel
theorem dksX2_insertionSort_1 : cX2_insertionSort.data.toList.drop 24 = dktX2_insertionSort_1 := dk_seg dksX2_insertionSort_0 24 rfl rfl
theorem dksX2_insertionSort_2 : cX2_insertionSort.data.toList.drop 47 = dktX2_insertionSort_2 := dk_seg dksX2_insertionSort_1 23 rfl rfl
theorem dksX2_insertionSort_3 : cX2_insertionSort.data.toList.drop 70 = dktX2_insertionSort_3 := dk_seg dksX2_insertionSort_2 23 rfl rfl
theorem dX2_insertionSort_0 : decode cX2_insertionSort 0 = .ok (.iload_n 1, 1) := dk_27 (dk_at dksX2_insertionSort_0 0 rfl rfl)
theorem dX2_insertionSort_1 : decode cX2_insertionSort 1 = .ok (.istore_n 3, 1) := dk_62 (dk_at dksX2_insertionSort_0 1 rfl rfl)
theorem dX2_insertionSort_2 : decode cX2_insertionSort 2 = .ok (.iinc 3 1, 3) := dk_132 3 1 (dk_at dksX2_insertionSort_0 2 rfl rfl)
theorem dX2_insertionSort_5 : decode cX2_insertionSort 5 = .ok (.iload_n 3, 1) := dk_29 (dk_at dksX2_insertionSort_0 5 rfl rfl)
theorem dX2_insertionSort_6 : decode cX2_insertionSort 6 = .ok (.iload_n 2, 1) := dk_28 (dk_at dksX2_insertionSort_0 6 rfl rfl)
theorem dX2_insertionSort_7 : decode cX2_insertionSort 7 = .ok (.if_icmp .ge 69, 3) := dk_162 0 69 (dk_at dksX2_insertionSort_0 7 rfl rfl)
theorem dX2_insertionSort_10 : decode cX2_insertionSort 10 = .ok (.aload_n 0, 1) := dk_42 (dk_at dksX2_insertionSort_0 10 rfl rfl)
theorem dX2_insertionSort_11 : decode cX2_insertionSort 11 = .ok (.iload_n 3, 1) := dk_29 (dk_at dksX2_insertionSort_0 11 rfl rfl)
theorem dX2_insertionSort_12 : decode cX2_insertionSort 12 = .ok (.iaload, 1) := dk_46 (dk_at dksX2_insertionSort_0 12 rfl rfl)
theorem dX2_insertionSort_13 : decode cX2_insertionSort 13 = .ok (.istore 4, 2) := dk_54 4 (dk_at dksX2_insertionSort_0 13 rfl rfl)
theorem dX2_insertionSort_15 : decode cX2_insertionSort 15 = .ok (.iload_n 3, 1) := dk_29 (dk_at dksX2_insertionSort_0 15 rfl rfl)
theorem dX2_insertionSort_16 : decode cX2_insertionSort 16 = .ok (.istore 5, 2) := dk_54 5 (dk_at dksX2_insertionSort_0 16 rfl rfl)
theorem dX2_insertionSort_18 : decode cX2_insertionSort 18 = .ok (.aload_n 0, 1) := dk_42 (dk_at dksX2_insertionSort_0 18 rfl rfl)
theorem dX2_insertionSort_19 : decode cX2_insertionSort 19 = .ok (.iload 5, 2) := dk_21 5 (dk_at dksX2_insertionSort_0 19 rfl rfl)
theorem dX2_insertionSort_21 : decode cX2_insertionSort 21 = .ok (.iconst 1, 1) := dk_4 (dk_at dksX2_insertionSort_0 21 rfl rfl)
theorem dX2_insertionSort_22 : decode cX2_insertionSort 22 = .ok (.isub, 1) := dk_100 (dk_at dksX2_insertionSort_0 22 rfl rfl)
theorem dX2_insertionSort_23 : decode cX2_insertionSort 23 = .ok (.iaload, 1) := dk_46 (dk_at dksX2_insertionSort_0 23 rfl rfl)
theorem dX2_insertionSort_24 : decode cX2_insertionSort 24 = .ok (.istore 6, 2) := dk_54 6 (dk_at dksX2_insertionSort_1 0 rfl rfl)
theorem dX2_insertionSort_26 : decode cX2_insertionSort 26 = .ok (.iload 4, 2) := dk_21 4 (dk_at dksX2_insertionSort_1 2 rfl rfl)
theorem dX2_insertionSort_28 : decode cX2_insertionSort 28 = .ok (.iload 6, 2) := dk_21 6 (dk_at dksX2_insertionSort_1 4 rfl rfl)
theorem dX2_insertionSort_30 : decode cX2_insertionSort 30 = .ok (.if_icmp .ge 37, 3) := dk_162 0 37 (dk_at dksX2_insertionSort_1 6 rfl rfl)
theorem dX2_insertionSort_33 : decode cX2_insertionSort 33 = .ok (.aload_n 0, 1) := dk_42 (dk_at dksX2_insertionSort_1 9 rfl rfl)
theorem dX2_insertionSort_34 : decode cX2_insertionSort 34 = .ok (.iload 5, 2) := dk_21 5 (dk_at dksX2_insertionSort_1 10 rfl rfl)
theorem dX2_insertionSort_36 : decode cX2_insertionSort 36 = .ok (.iload 6, 2) := dk_21 6 (dk_at dksX2_insertionSort_1 12 rfl rfl)
theorem dX2_insertionSort_38 : decode cX2_insertionSort 38 = .ok (.iastore, 1) := dk_79 (dk_at dksX2_insertionSort_1 14 rfl rfl)
theorem dX2_insertionSort_39 : decode cX2_insertionSort 39 = .ok (.iload_n 1, 1) := dk_27 (dk_at dksX2_insertionSort_1 15 rfl rfl)
theorem dX2_insertionSort_40 : decode cX2_insertionSort 40 = .ok (.iload 5, 2) := dk_21 5 (dk_at dksX2_insertionSort_1 16 rfl rfl)
theorem dX2_insertionSort_42 : decode cX2_insertionSort 42 = .ok (.iconst 1, 1) := dk_4 (dk_at dksX2_insertionSort_1 18 rfl rfl)
theorem dX2_insertionSort_43 : decode cX2_insertionSort 43 = .ok (.isub, 1) := dk_100 (dk_at dksX2_insertionSort_1 19 rfl rfl)
theorem dX2_insertionSort_44 : decode cX2_insertionSort 44 = .ok (.if_icmp .ne 9, 3) := dk_160 0 9 (dk_at dksX2_insertionSort_1 20 rfl rfl)
theorem dX2_insertionSort_47 : decode cX2_insertionSort 47 = .ok (.iinc 5 (-1), 3) := dk_132 5 255 (dk_at dksX2_insertionSort_2 0 rfl rfl)
theorem dX2_insertionSort_50 : decode cX2_insertionSort 50 = .ok (.goto 17, 3) := dk_167 0 17 (dk_at dksX2_insertionSort_2 3 rfl rfl)
theorem dX2_insertionSort_53 : decode cX2_insertionSort 53 = .ok (.aload_n 0, 1) := dk_42 (dk_at dksX2_insertionSort_2 6 rfl rfl)
theorem dX2_insertionSort_54 : decode cX2_insertionSort 54 = .ok (.iinc 5 (-1), 3) := dk_132 5 255 (dk_at dksX2_insertionSort_2 7 rfl rfl)
theorem dX2_insertionSort_57 : decode cX2_insertionSort 57 = .ok (.iload 5, 2) := dk_21 5 (dk_at dksX2_insertionSort_2 10 rfl rfl)
theorem dX2_insertionSort_59 : decode cX2_insertionSort 59 = .ok (.iconst 1, 1) := dk_4 (dk_at dksX2_insertionSort_2 12 rfl rfl)
theorem dX2_insertionSort_60 : decode cX2_insertionSort 60 = .ok (.isub, 1) := dk_100 (dk_at dksX2_insertionSort_2 13 rfl rfl)
theorem dX2_insertionSort_61 : decode cX2_insertionSort 61 = .ok (.iaload, 1) := dk_46 (dk_at dksX2_insertionSort_2 14 rfl rfl)
theorem dX2_insertionSort_62 : decode cX2_insertionSort 62 = .ok (.istore 6, 2) := dk_54 6 (dk_at dksX2_insertionSort_2 15 rfl rfl)
theorem dX2_insertionSort_64 : decode cX2_insertionSort 64 = .ok (.goto (-38), 3) := dk_167 255 218 (dk_at dksX2_insertionSort_2 17 rfl rfl)
theorem dX2_insertionSort_67 : decode cX2_insertionSort 67 = .ok (.aload_n 0, 1) := dk_42 (dk_at dksX2_insertionSort_2 20 rfl rfl)
theorem dX2_insertionSort_68 : decode cX2_insertionSort 68 = .ok (.iload 5, 2) := dk_21 5 (dk_at dksX2_insertionSort_2 21 rfl rfl)
theorem dX2_insertionSort_70 : decode cX2_insertionSort 70 = .ok (.iload 4, 2) := dk_21 4 (dk_at dksX2_insertionSort_3 0 rfl rfl)
theorem dX2_insertionSort_72 : decode cX2_insertionSort 72 = .ok (.iastore, 1) := dk_79 (dk_at dksX2_insertionSort_3 2 rfl rfl)
theorem dX2_insertionSort_73 : decode cX2_insertionSort 73 = .ok (.goto (-71), 3) := dk_167 255 185 (dk_at dksX2_insertionSort_3 3 rfl rfl)
theorem dX2_insertionSort_76 : decode cX2_insertionSort 76 = .ok (.return_, 1) := dk_177 (dk_at dksX2_insertionSort_3 6 rfl rfl)
abbrev cX2_radixSort : ByteArray := prog_1_method_11_code
def yX2_radixSort : MethodName := ⟨RX2, "radixSort", "([III)V"⟩
def dkwX2_radixSort_17 : List UInt8 := [21, 16, 25, 7, 21, 17, 46, 96, 54, 16, 25, 7, 21, 17, 3, 79, 167, 255, 80, 167, 254, 168, 177]
abbrev dktX2_radixSort_17 : List UInt8 := dkwX2_radixSort_17 ++ []
def dkwX2_radixSort_16 : List UInt8 := [21, 16, 79, 25, 5, 29, 25, 7, 21, 17, 46, 79, 25, 6, 29, 132, 3, 1, 21, 11, 4, 96, 79]
abbrev dktX2_radixSort_16 : List UInt8 := dkwX2_radixSort_16 ++ dktX2_radixSort_17
def dkwX2_radixSort_15 : List UInt8 := [162, 0, 20, 42, 21, 16, 21, 16, 25, 7, 21, 17, 46, 96, 184, 0, 28, 167, 0, 29, 25, 4, 29]
abbrev dktX2_radixSort_15 : List UInt8 := dkwX2_radixSort_15 ++ dktX2_radixSort_16
def dkwX2_radixSort_14 : List UInt8 := [21, 11, 6, 162, 0, 66, 25, 7, 21, 17, 46, 4, 164, 0, 57, 25, 7, 21, 17, 46, 17, 4, 0]
abbrev dktX2_radixSort_14 : List UInt8 := dkwX2_radixSort_14 ++ dktX2_radixSort_15
def dkwX2_radixSort_13 : List UInt8 := [21, 19, 21, 13, 124, 17, 0, 255, 126, 21, 12, 130, 54, 17, 167, 255, 208, 42, 21, 16, 21, 19, 79]
abbrev dktX2_radixSort_13 : List UInt8 := dkwX2_radixSort_13 ++ dktX2_radixSort_14
def dkwX2_radixSort_12 : List UInt8 := [54, 18, 21, 16, 164, 0, 36, 21, 19, 54, 20, 42, 21, 18, 46, 54, 19, 42, 21, 18, 21, 20, 79]
abbrev dktX2_radixSort_12 : List UInt8 := dkwX2_radixSort_12 ++ dktX2_radixSort_13
def dkwX2_radixSort_11 : List UInt8 := [21, 12, 130, 54, 17, 21, 16, 21, 15, 162, 0, 60, 25, 8, 21, 17, 92, 46, 4, 100, 91, 79, 89]
abbrev dktX2_radixSort_11 : List UInt8 := dkwX2_radixSort_11 ++ dktX2_radixSort_12
def dkwX2_radixSort_10 : List UInt8 := [54, 17, 21, 16, 21, 15, 163, 0, 175, 42, 21, 16, 46, 54, 19, 21, 19, 21, 13, 124, 17, 0, 255, 126]
abbrev dktX2_radixSort_10 : List UInt8 := dkwX2_radixSort_10 ++ dktX2_radixSort_11
def dkwX2_radixSort_9 : List UInt8 := [132, 15, 1, 167, 255, 217, 21, 9, 21, 10, 96, 25, 7, 21, 14, 46, 100, 54, 15, 21, 9, 54, 16, 2]
abbrev dktX2_radixSort_9 : List UInt8 := dkwX2_radixSort_9 ++ dktX2_radixSort_10
def dkwX2_radixSort_8 : List UInt8 := [153, 0, 7, 21, 15, 54, 14, 25, 8, 21, 15, 21, 16, 25, 7, 21, 15, 46, 96, 89, 54, 16, 79]
abbrev dktX2_radixSort_8 : List UInt8 := dkwX2_radixSort_8 ++ dktX2_radixSort_9
def dkwX2_radixSort_7 : List UInt8 := [2, 54, 14, 3, 54, 15, 21, 9, 54, 16, 21, 15, 17, 1, 0, 162, 0, 37, 25, 7, 21, 15, 46]
abbrev dktX2_radixSort_7 : List UInt8 := dkwX2_radixSort_7 ++ dktX2_radixSort_8
def dkwX2_radixSort_6 : List UInt8 := [25, 7, 42, 21, 14, 46, 21, 13, 124, 17, 0, 255, 126, 21, 12, 130, 92, 46, 4, 96, 79, 167, 255, 225]
abbrev dktX2_radixSort_6 : List UInt8 := dkwX2_radixSort_6 ++ dktX2_radixSort_7
def dkwX2_radixSort_5 : List UInt8 := [100, 16, 8, 104, 54, 13, 21, 9, 21, 10, 96, 54, 14, 21, 14, 132, 14, 255, 21, 9, 159, 0, 27]
abbrev dktX2_radixSort_5 : List UInt8 := dkwX2_radixSort_5 ++ dktX2_radixSort_6
def dkwX2_radixSort_4 : List UInt8 := [46, 54, 11, 21, 11, 7, 112, 154, 0, 9, 17, 0, 128, 167, 0, 4, 3, 54, 12, 6, 21, 11, 7, 112]
abbrev dktX2_radixSort_4 : List UInt8 := dkwX2_radixSort_4 ++ dktX2_radixSort_5
def dkwX2_radixSort_3 : List UInt8 := [58, 8, 29, 158, 1, 90, 25, 4, 132, 3, 255, 29, 46, 54, 9, 25, 5, 29, 46, 54, 10, 25, 6, 29]
abbrev dktX2_radixSort_3 : List UInt8 := dkwX2_radixSort_3 ++ dktX2_radixSort_4
def dkwX2_radixSort_2 : List UInt8 := [28, 27, 100, 79, 25, 6, 29, 132, 3, 1, 3, 79, 17, 1, 0, 188, 10, 58, 7, 17, 1, 0, 188, 10]
abbrev dktX2_radixSort_2 : List UInt8 := dkwX2_radixSort_2 ++ dktX2_radixSort_3
def dkwX2_radixSort_1 : List UInt8 := [58, 4, 17, 2, 254, 188, 10, 58, 5, 17, 2, 254, 188, 10, 58, 6, 25, 4, 29, 27, 79, 25, 5, 29]
abbrev dktX2_radixSort_1 : List UInt8 := dkwX2_radixSort_1 ++ dktX2_radixSort_2
def dkwX2_radixSort_0 : List UInt8 := [28, 27, 100, 17, 4, 0, 162, 0, 10, 42, 27, 28, 184, 0, 28, 177, 3, 62, 17, 2, 254, 188, 10]
abbrev dktX2_radixSort_0 : List UInt8 := dkwX2_radixSort_0 ++ dktX2_radixSort_1
theorem dksX2_radixSort_0 : cX2_radixSort.data.toList.drop 0 = dktX2_radixSort_0 := by decide +kernel
theorem dksX2_radixSort_1 : cX2_radixSort.data.toList.drop 23 = dktX2_radixSort_1 := dk_seg dksX2_radixSort_0 23 rfl rfl
theorem dksX2_radixSort_2 : cX2_radixSort.data.toList.drop 47 = dktX2_radixSort_2 := dk_seg dksX2_radixSort_1 24 rfl rfl
theorem dksX2_radixSort_3 : cX2_radixSort.data.toList.drop 71 = dktX2_radixSort_3 := dk_seg dksX2_radixSort_2 24 rfl rfl
theorem dksX2_radixSort_4 : cX2_radixSort.data.toList.drop 95 = dktX2_radixSort_4 := dk_seg dksX2_radixSort_3 24 rfl rfl
theorem dksX2_radixSort_5 : cX2_radixSort.data.toList.drop 119 = dktX2_radixSort_5 := dk_seg dksX2_radixSort_4 24 rfl rfl
theorem dksX2_radixSort_6 : cX2_radixSort.data.toList.drop 142 = dktX2_radixSort_6 := dk_seg dksX2_radixSort_5 23 rfl rfl
theorem dksX2_radixSort_7 : cX2_radixSort.data.toList.drop 166 = dktX2_radixSort_7 := dk_seg dksX2_radixSort_6 24 rfl rfl
theorem dksX2_radixSort_8 : cX2_radixSort.data.toList.drop 189 = dktX2_radixSort_8 := dk_seg dksX2_radixSort_7 23 rfl rfl
theorem dksX2_radixSort_9 : cX2_radixSort.data.toList.drop 212 = dktX2_radixSort_9 := dk_seg dksX2_radixSort_8 23 rfl rfl
theorem dksX2_radixSort_10 : cX2_radixSort.data.toList.drop 236 = dktX2_radixSort_10 := dk_seg dksX2_radixSort_9 24 rfl rfl
theorem dksX2_radixSort_11 : cX2_radixSort.data.toList.drop 260 = dktX2_radixSort_11 := dk_seg dksX2_radixSort_10 24 rfl rfl
theorem dksX2_radixSort_12 : cX2_radixSort.data.toList.drop 283 = dktX2_radixSort_12 := dk_seg dksX2_radixSort_11 23 rfl rfl
theorem dksX2_radixSort_13 : cX2_radixSort.data.toList.drop 306 = dktX2_radixSort_13 := dk_seg dksX2_radixSort_12 23 rfl rfl
theorem dksX2_radixSort_14 : cX2_radixSort.data.toList.drop 329 = dktX2_radixSort_14 := dk_seg dksX2_radixSort_13 23 rfl rfl
theorem dksX2_radixSort_15 : cX2_radixSort.data.toList.drop 352 = dktX2_radixSort_15 := dk_seg dksX2_radixSort_14 23 rfl rfl
theorem dksX2_radixSort_16 : cX2_radixSort.data.toList.drop 375 = dktX2_radixSort_16 := dk_seg dksX2_radixSort_15 23 rfl rfl
theorem dksX2_radixSort_17 : cX2_radixSort.data.toList.drop 398 = dktX2_radixSort_17 := dk_seg dksX2_radixSort_16 23 rfl rfl
theorem dX2_radixSort_0 : decode cX2_radixSort 0 = .ok (.iload_n 2, 1) := dk_28 (dk_at dksX2_radixSort_0 0 rfl rfl)
theorem dX2_radixSort_1 : decode cX2_radixSort 1 = .ok (.iload_n 1, 1) := dk_27 (dk_at dksX2_radixSort_0 1 rfl rfl)
theorem dX2_radixSort_2 : decode cX2_radixSort 2 = .ok (.isub, 1) := dk_100 (dk_at dksX2_radixSort_0 2 rfl rfl)
theorem dX2_radixSort_3 : decode cX2_radixSort 3 = .ok (.sipush 1024, 3) := dk_17 4 0 (dk_at dksX2_radixSort_0 3 rfl rfl)
theorem dX2_radixSort_6 : decode cX2_radixSort 6 = .ok (.if_icmp .ge 10, 3) := dk_162 0 10 (dk_at dksX2_radixSort_0 6 rfl rfl)
theorem dX2_radixSort_9 : decode cX2_radixSort 9 = .ok (.aload_n 0, 1) := dk_42 (dk_at dksX2_radixSort_0 9 rfl rfl)
theorem dX2_radixSort_10 : decode cX2_radixSort 10 = .ok (.iload_n 1, 1) := dk_27 (dk_at dksX2_radixSort_0 10 rfl rfl)
theorem dX2_radixSort_11 : decode cX2_radixSort 11 = .ok (.iload_n 2, 1) := dk_28 (dk_at dksX2_radixSort_0 11 rfl rfl)
theorem dX2_radixSort_12 : decode cX2_radixSort 12 = .ok (.invokestatic 28, 3) := dk_184 0 28 (dk_at dksX2_radixSort_0 12 rfl rfl)
theorem dX2_radixSort_15 : decode cX2_radixSort 15 = .ok (.return_, 1) := dk_177 (dk_at dksX2_radixSort_0 15 rfl rfl)
theorem dX2_radixSort_16 : decode cX2_radixSort 16 = .ok (.iconst 0, 1) := dk_3 (dk_at dksX2_radixSort_0 16 rfl rfl)
theorem dX2_radixSort_17 : decode cX2_radixSort 17 = .ok (.istore_n 3, 1) := dk_62 (dk_at dksX2_radixSort_0 17 rfl rfl)
theorem dX2_radixSort_18 : decode cX2_radixSort 18 = .ok (.sipush 766, 3) := dk_17 2 254 (dk_at dksX2_radixSort_0 18 rfl rfl)
theorem dX2_radixSort_21 : decode cX2_radixSort 21 = .ok (.newarray .int, 2) := dk_188_10 (dk_at dksX2_radixSort_0 21 rfl rfl)
theorem dX2_radixSort_23 : decode cX2_radixSort 23 = .ok (.astore 4, 2) := dk_58 4 (dk_at dksX2_radixSort_1 0 rfl rfl)
theorem dX2_radixSort_25 : decode cX2_radixSort 25 = .ok (.sipush 766, 3) := dk_17 2 254 (dk_at dksX2_radixSort_1 2 rfl rfl)
theorem dX2_radixSort_28 : decode cX2_radixSort 28 = .ok (.newarray .int, 2) := dk_188_10 (dk_at dksX2_radixSort_1 5 rfl rfl)
theorem dX2_radixSort_30 : decode cX2_radixSort 30 = .ok (.astore 5, 2) := dk_58 5 (dk_at dksX2_radixSort_1 7 rfl rfl)
theorem dX2_radixSort_32 : decode cX2_radixSort 32 = .ok (.sipush 766, 3) := dk_17 2 254 (dk_at dksX2_radixSort_1 9 rfl rfl)
theorem dX2_radixSort_35 : decode cX2_radixSort 35 = .ok (.newarray .int, 2) := dk_188_10 (dk_at dksX2_radixSort_1 12 rfl rfl)
theorem dX2_radixSort_37 : decode cX2_radixSort 37 = .ok (.astore 6, 2) := dk_58 6 (dk_at dksX2_radixSort_1 14 rfl rfl)
theorem dX2_radixSort_39 : decode cX2_radixSort 39 = .ok (.aload 4, 2) := dk_25 4 (dk_at dksX2_radixSort_1 16 rfl rfl)
theorem dX2_radixSort_41 : decode cX2_radixSort 41 = .ok (.iload_n 3, 1) := dk_29 (dk_at dksX2_radixSort_1 18 rfl rfl)
theorem dX2_radixSort_42 : decode cX2_radixSort 42 = .ok (.iload_n 1, 1) := dk_27 (dk_at dksX2_radixSort_1 19 rfl rfl)
theorem dX2_radixSort_43 : decode cX2_radixSort 43 = .ok (.iastore, 1) := dk_79 (dk_at dksX2_radixSort_1 20 rfl rfl)
theorem dX2_radixSort_44 : decode cX2_radixSort 44 = .ok (.aload 5, 2) := dk_25 5 (dk_at dksX2_radixSort_1 21 rfl rfl)
theorem dX2_radixSort_46 : decode cX2_radixSort 46 = .ok (.iload_n 3, 1) := dk_29 (dk_at dksX2_radixSort_1 23 rfl rfl)
theorem dX2_radixSort_47 : decode cX2_radixSort 47 = .ok (.iload_n 2, 1) := dk_28 (dk_at dksX2_radixSort_2 0 rfl rfl)
theorem dX2_radixSort_48 : decode cX2_radixSort 48 = .ok (.iload_n 1, 1) := dk_27 (dk_at dksX2_radixSort_2 1 rfl rfl)
theorem dX2_radixSort_49 : decode cX2_radixSort 49 = .ok (.isub, 1) := dk_100 (dk_at dksX2_radixSort_2 2 rfl rfl)
theorem dX2_radixSort_50 : decode cX2_radixSort 50 = .ok (.iastore, 1) := dk_79 (dk_at dksX2_radixSort_2 3 rfl rfl)
theorem dX2_radixSort_51 : decode cX2_radixSort 51 = .ok (.aload 6, 2) := dk_25 6 (dk_at dksX2_radixSort_2 4 rfl rfl)
theorem dX2_radixSort_53 : decode cX2_radixSort 53 = .ok (.iload_n 3, 1) := dk_29 (dk_at dksX2_radixSort_2 6 rfl rfl)
theorem dX2_radixSort_54 : decode cX2_radixSort 54 = .ok (.iinc 3 1, 3) := dk_132 3 1 (dk_at dksX2_radixSort_2 7 rfl rfl)
theorem dX2_radixSort_57 : decode cX2_radixSort 57 = .ok (.iconst 0, 1) := dk_3 (dk_at dksX2_radixSort_2 10 rfl rfl)
theorem dX2_radixSort_58 : decode cX2_radixSort 58 = .ok (.iastore, 1) := dk_79 (dk_at dksX2_radixSort_2 11 rfl rfl)
theorem dX2_radixSort_59 : decode cX2_radixSort 59 = .ok (.sipush 256, 3) := dk_17 1 0 (dk_at dksX2_radixSort_2 12 rfl rfl)
theorem dX2_radixSort_62 : decode cX2_radixSort 62 = .ok (.newarray .int, 2) := dk_188_10 (dk_at dksX2_radixSort_2 15 rfl rfl)
theorem dX2_radixSort_64 : decode cX2_radixSort 64 = .ok (.astore 7, 2) := dk_58 7 (dk_at dksX2_radixSort_2 17 rfl rfl)
theorem dX2_radixSort_66 : decode cX2_radixSort 66 = .ok (.sipush 256, 3) := dk_17 1 0 (dk_at dksX2_radixSort_2 19 rfl rfl)
theorem dX2_radixSort_69 : decode cX2_radixSort 69 = .ok (.newarray .int, 2) := dk_188_10 (dk_at dksX2_radixSort_2 22 rfl rfl)
theorem dX2_radixSort_71 : decode cX2_radixSort 71 = .ok (.astore 8, 2) := dk_58 8 (dk_at dksX2_radixSort_3 0 rfl rfl)
theorem dX2_radixSort_73 : decode cX2_radixSort 73 = .ok (.iload_n 3, 1) := dk_29 (dk_at dksX2_radixSort_3 2 rfl rfl)
theorem dX2_radixSort_74 : decode cX2_radixSort 74 = .ok (.ifCond .le 346, 3) := dk_158 1 90 (dk_at dksX2_radixSort_3 3 rfl rfl)
theorem dX2_radixSort_77 : decode cX2_radixSort 77 = .ok (.aload 4, 2) := dk_25 4 (dk_at dksX2_radixSort_3 6 rfl rfl)
theorem dX2_radixSort_79 : decode cX2_radixSort 79 = .ok (.iinc 3 (-1), 3) := dk_132 3 255 (dk_at dksX2_radixSort_3 8 rfl rfl)
theorem dX2_radixSort_82 : decode cX2_radixSort 82 = .ok (.iload_n 3, 1) := dk_29 (dk_at dksX2_radixSort_3 11 rfl rfl)
theorem dX2_radixSort_83 : decode cX2_radixSort 83 = .ok (.iaload, 1) := dk_46 (dk_at dksX2_radixSort_3 12 rfl rfl)
theorem dX2_radixSort_84 : decode cX2_radixSort 84 = .ok (.istore 9, 2) := dk_54 9 (dk_at dksX2_radixSort_3 13 rfl rfl)
theorem dX2_radixSort_86 : decode cX2_radixSort 86 = .ok (.aload 5, 2) := dk_25 5 (dk_at dksX2_radixSort_3 15 rfl rfl)
theorem dX2_radixSort_88 : decode cX2_radixSort 88 = .ok (.iload_n 3, 1) := dk_29 (dk_at dksX2_radixSort_3 17 rfl rfl)
theorem dX2_radixSort_89 : decode cX2_radixSort 89 = .ok (.iaload, 1) := dk_46 (dk_at dksX2_radixSort_3 18 rfl rfl)
theorem dX2_radixSort_90 : decode cX2_radixSort 90 = .ok (.istore 10, 2) := dk_54 10 (dk_at dksX2_radixSort_3 19 rfl rfl)
theorem dX2_radixSort_92 : decode cX2_radixSort 92 = .ok (.aload 6, 2) := dk_25 6 (dk_at dksX2_radixSort_3 21 rfl rfl)
theorem dX2_radixSort_94 : decode cX2_radixSort 94 = .ok (.iload_n 3, 1) := dk_29 (dk_at dksX2_radixSort_3 23 rfl rfl)
theorem dX2_radixSort_95 : decode cX2_radixSort 95 = .ok (.iaload, 1) := dk_46 (dk_at dksX2_radixSort_4 0 rfl rfl)
theorem dX2_radixSort_96 : decode cX2_radixSort 96 = .ok (.istore 11, 2) := dk_54 11 (dk_at dksX2_radixSort_4 1 rfl rfl)
theorem dX2_radixSort_98 : decode cX2_radixSort 98 = .ok (.iload 11, 2) := dk_21 11 (dk_at dksX2_radixSort_4 3 rfl rfl)
theorem dX2_radixSort_100 : decode cX2_radixSort 100 = .ok (.iconst 4, 1) := dk_7 (dk_at dksX2_radixSort_4 5 rfl rfl)
theorem dX2_radixSort_101 : decode cX2_radixSort 101 = .ok (.irem, 1) := dk_112 (dk_at dksX2_radixSort_4 6 rfl rfl)
theorem dX2_radixSort_102 : decode cX2_radixSort 102 = .ok (.ifCond .ne 9, 3) := dk_154 0 9 (dk_at dksX2_radixSort_4 7 rfl rfl)
theorem dX2_radixSort_105 : decode cX2_radixSort 105 = .ok (.sipush 128, 3) := dk_17 0 128 (dk_at dksX2_radixSort_4 10 rfl rfl)
theorem dX2_radixSort_108 : decode cX2_radixSort 108 = .ok (.goto 4, 3) := dk_167 0 4 (dk_at dksX2_radixSort_4 13 rfl rfl)
theorem dX2_radixSort_111 : decode cX2_radixSort 111 = .ok (.iconst 0, 1) := dk_3 (dk_at dksX2_radixSort_4 16 rfl rfl)
theorem dX2_radixSort_112 : decode cX2_radixSort 112 = .ok (.istore 12, 2) := dk_54 12 (dk_at dksX2_radixSort_4 17 rfl rfl)
theorem dX2_radixSort_114 : decode cX2_radixSort 114 = .ok (.iconst 3, 1) := dk_6 (dk_at dksX2_radixSort_4 19 rfl rfl)
theorem dX2_radixSort_115 : decode cX2_radixSort 115 = .ok (.iload 11, 2) := dk_21 11 (dk_at dksX2_radixSort_4 20 rfl rfl)
theorem dX2_radixSort_117 : decode cX2_radixSort 117 = .ok (.iconst 4, 1) := dk_7 (dk_at dksX2_radixSort_4 22 rfl rfl)
theorem dX2_radixSort_118 : decode cX2_radixSort 118 = .ok (.irem, 1) := dk_112 (dk_at dksX2_radixSort_4 23 rfl rfl)
theorem dX2_radixSort_119 : decode cX2_radixSort 119 = .ok (.isub, 1) := dk_100 (dk_at dksX2_radixSort_5 0 rfl rfl)
theorem dX2_radixSort_120 : decode cX2_radixSort 120 = .ok (.bipush 8, 2) := dk_16 8 (dk_at dksX2_radixSort_5 1 rfl rfl)
theorem dX2_radixSort_122 : decode cX2_radixSort 122 = .ok (.imul, 1) := dk_104 (dk_at dksX2_radixSort_5 3 rfl rfl)
theorem dX2_radixSort_123 : decode cX2_radixSort 123 = .ok (.istore 13, 2) := dk_54 13 (dk_at dksX2_radixSort_5 4 rfl rfl)
theorem dX2_radixSort_125 : decode cX2_radixSort 125 = .ok (.iload 9, 2) := dk_21 9 (dk_at dksX2_radixSort_5 6 rfl rfl)
theorem dX2_radixSort_127 : decode cX2_radixSort 127 = .ok (.iload 10, 2) := dk_21 10 (dk_at dksX2_radixSort_5 8 rfl rfl)
theorem dX2_radixSort_129 : decode cX2_radixSort 129 = .ok (.iadd, 1) := dk_96 (dk_at dksX2_radixSort_5 10 rfl rfl)
theorem dX2_radixSort_130 : decode cX2_radixSort 130 = .ok (.istore 14, 2) := dk_54 14 (dk_at dksX2_radixSort_5 11 rfl rfl)
theorem dX2_radixSort_132 : decode cX2_radixSort 132 = .ok (.iload 14, 2) := dk_21 14 (dk_at dksX2_radixSort_5 13 rfl rfl)
theorem dX2_radixSort_134 : decode cX2_radixSort 134 = .ok (.iinc 14 (-1), 3) := dk_132 14 255 (dk_at dksX2_radixSort_5 15 rfl rfl)
theorem dX2_radixSort_137 : decode cX2_radixSort 137 = .ok (.iload 9, 2) := dk_21 9 (dk_at dksX2_radixSort_5 18 rfl rfl)
theorem dX2_radixSort_139 : decode cX2_radixSort 139 = .ok (.if_icmp .eq 27, 3) := dk_159 0 27 (dk_at dksX2_radixSort_5 20 rfl rfl)
theorem dX2_radixSort_142 : decode cX2_radixSort 142 = .ok (.aload 7, 2) := dk_25 7 (dk_at dksX2_radixSort_6 0 rfl rfl)
theorem dX2_radixSort_144 : decode cX2_radixSort 144 = .ok (.aload_n 0, 1) := dk_42 (dk_at dksX2_radixSort_6 2 rfl rfl)
theorem dX2_radixSort_145 : decode cX2_radixSort 145 = .ok (.iload 14, 2) := dk_21 14 (dk_at dksX2_radixSort_6 3 rfl rfl)
theorem dX2_radixSort_147 : decode cX2_radixSort 147 = .ok (.iaload, 1) := dk_46 (dk_at dksX2_radixSort_6 5 rfl rfl)
theorem dX2_radixSort_148 : decode cX2_radixSort 148 = .ok (.iload 13, 2) := dk_21 13 (dk_at dksX2_radixSort_6 6 rfl rfl)
theorem dX2_radixSort_150 : decode cX2_radixSort 150 = .ok (.iushr, 1) := dk_124 (dk_at dksX2_radixSort_6 8 rfl rfl)
theorem dX2_radixSort_151 : decode cX2_radixSort 151 = .ok (.sipush 255, 3) := dk_17 0 255 (dk_at dksX2_radixSort_6 9 rfl rfl)
theorem dX2_radixSort_154 : decode cX2_radixSort 154 = .ok (.iand, 1) := dk_126 (dk_at dksX2_radixSort_6 12 rfl rfl)
theorem dX2_radixSort_155 : decode cX2_radixSort 155 = .ok (.iload 12, 2) := dk_21 12 (dk_at dksX2_radixSort_6 13 rfl rfl)
theorem dX2_radixSort_157 : decode cX2_radixSort 157 = .ok (.ixor, 1) := dk_130 (dk_at dksX2_radixSort_6 15 rfl rfl)
theorem dX2_radixSort_158 : decode cX2_radixSort 158 = .ok (.dup2, 1) := dk_92 (dk_at dksX2_radixSort_6 16 rfl rfl)
theorem dX2_radixSort_159 : decode cX2_radixSort 159 = .ok (.iaload, 1) := dk_46 (dk_at dksX2_radixSort_6 17 rfl rfl)
theorem dX2_radixSort_160 : decode cX2_radixSort 160 = .ok (.iconst 1, 1) := dk_4 (dk_at dksX2_radixSort_6 18 rfl rfl)
theorem dX2_radixSort_161 : decode cX2_radixSort 161 = .ok (.iadd, 1) := dk_96 (dk_at dksX2_radixSort_6 19 rfl rfl)
theorem dX2_radixSort_162 : decode cX2_radixSort 162 = .ok (.iastore, 1) := dk_79 (dk_at dksX2_radixSort_6 20 rfl rfl)
theorem dX2_radixSort_163 : decode cX2_radixSort 163 = .ok (.goto (-31), 3) := dk_167 255 225 (dk_at dksX2_radixSort_6 21 rfl rfl)
theorem dX2_radixSort_166 : decode cX2_radixSort 166 = .ok (.iconst (-1), 1) := dk_2 (dk_at dksX2_radixSort_7 0 rfl rfl)
theorem dX2_radixSort_167 : decode cX2_radixSort 167 = .ok (.istore 14, 2) := dk_54 14 (dk_at dksX2_radixSort_7 1 rfl rfl)
theorem dX2_radixSort_169 : decode cX2_radixSort 169 = .ok (.iconst 0, 1) := dk_3 (dk_at dksX2_radixSort_7 3 rfl rfl)
theorem dX2_radixSort_170 : decode cX2_radixSort 170 = .ok (.istore 15, 2) := dk_54 15 (dk_at dksX2_radixSort_7 4 rfl rfl)
theorem dX2_radixSort_172 : decode cX2_radixSort 172 = .ok (.iload 9, 2) := dk_21 9 (dk_at dksX2_radixSort_7 6 rfl rfl)
theorem dX2_radixSort_174 : decode cX2_radixSort 174 = .ok (.istore 16, 2) := dk_54 16 (dk_at dksX2_radixSort_7 8 rfl rfl)
theorem dX2_radixSort_176 : decode cX2_radixSort 176 = .ok (.iload 15, 2) := dk_21 15 (dk_at dksX2_radixSort_7 10 rfl rfl)
theorem dX2_radixSort_178 : decode cX2_radixSort 178 = .ok (.sipush 256, 3) := dk_17 1 0 (dk_at dksX2_radixSort_7 12 rfl rfl)
theorem dX2_radixSort_181 : decode cX2_radixSort 181 = .ok (.if_icmp .ge 37, 3) := dk_162 0 37 (dk_at dksX2_radixSort_7 15 rfl rfl)
theorem dX2_radixSort_184 : decode cX2_radixSort 184 = .ok (.aload 7, 2) := dk_25 7 (dk_at dksX2_radixSort_7 18 rfl rfl)
theorem dX2_radixSort_186 : decode cX2_radixSort 186 = .ok (.iload 15, 2) := dk_21 15 (dk_at dksX2_radixSort_7 20 rfl rfl)
theorem dX2_radixSort_188 : decode cX2_radixSort 188 = .ok (.iaload, 1) := dk_46 (dk_at dksX2_radixSort_7 22 rfl rfl)
theorem dX2_radixSort_189 : decode cX2_radixSort 189 = .ok (.ifCond .eq 7, 3) := dk_153 0 7 (dk_at dksX2_radixSort_8 0 rfl rfl)
theorem dX2_radixSort_192 : decode cX2_radixSort 192 = .ok (.iload 15, 2) := dk_21 15 (dk_at dksX2_radixSort_8 3 rfl rfl)
theorem dX2_radixSort_194 : decode cX2_radixSort 194 = .ok (.istore 14, 2) := dk_54 14 (dk_at dksX2_radixSort_8 5 rfl rfl)
theorem dX2_radixSort_196 : decode cX2_radixSort 196 = .ok (.aload 8, 2) := dk_25 8 (dk_at dksX2_radixSort_8 7 rfl rfl)
theorem dX2_radixSort_198 : decode cX2_radixSort 198 = .ok (.iload 15, 2) := dk_21 15 (dk_at dksX2_radixSort_8 9 rfl rfl)
theorem dX2_radixSort_200 : decode cX2_radixSort 200 = .ok (.iload 16, 2) := dk_21 16 (dk_at dksX2_radixSort_8 11 rfl rfl)
theorem dX2_radixSort_202 : decode cX2_radixSort 202 = .ok (.aload 7, 2) := dk_25 7 (dk_at dksX2_radixSort_8 13 rfl rfl)
theorem dX2_radixSort_204 : decode cX2_radixSort 204 = .ok (.iload 15, 2) := dk_21 15 (dk_at dksX2_radixSort_8 15 rfl rfl)
theorem dX2_radixSort_206 : decode cX2_radixSort 206 = .ok (.iaload, 1) := dk_46 (dk_at dksX2_radixSort_8 17 rfl rfl)
theorem dX2_radixSort_207 : decode cX2_radixSort 207 = .ok (.iadd, 1) := dk_96 (dk_at dksX2_radixSort_8 18 rfl rfl)
theorem dX2_radixSort_208 : decode cX2_radixSort 208 = .ok (.dup, 1) := dk_89 (dk_at dksX2_radixSort_8 19 rfl rfl)
theorem dX2_radixSort_209 : decode cX2_radixSort 209 = .ok (.istore 16, 2) := dk_54 16 (dk_at dksX2_radixSort_8 20 rfl rfl)
theorem dX2_radixSort_211 : decode cX2_radixSort 211 = .ok (.iastore, 1) := dk_79 (dk_at dksX2_radixSort_8 22 rfl rfl)
theorem dX2_radixSort_212 : decode cX2_radixSort 212 = .ok (.iinc 15 1, 3) := dk_132 15 1 (dk_at dksX2_radixSort_9 0 rfl rfl)
theorem dX2_radixSort_215 : decode cX2_radixSort 215 = .ok (.goto (-39), 3) := dk_167 255 217 (dk_at dksX2_radixSort_9 3 rfl rfl)
theorem dX2_radixSort_218 : decode cX2_radixSort 218 = .ok (.iload 9, 2) := dk_21 9 (dk_at dksX2_radixSort_9 6 rfl rfl)
theorem dX2_radixSort_220 : decode cX2_radixSort 220 = .ok (.iload 10, 2) := dk_21 10 (dk_at dksX2_radixSort_9 8 rfl rfl)
theorem dX2_radixSort_222 : decode cX2_radixSort 222 = .ok (.iadd, 1) := dk_96 (dk_at dksX2_radixSort_9 10 rfl rfl)
theorem dX2_radixSort_223 : decode cX2_radixSort 223 = .ok (.aload 7, 2) := dk_25 7 (dk_at dksX2_radixSort_9 11 rfl rfl)
theorem dX2_radixSort_225 : decode cX2_radixSort 225 = .ok (.iload 14, 2) := dk_21 14 (dk_at dksX2_radixSort_9 13 rfl rfl)
theorem dX2_radixSort_227 : decode cX2_radixSort 227 = .ok (.iaload, 1) := dk_46 (dk_at dksX2_radixSort_9 15 rfl rfl)
theorem dX2_radixSort_228 : decode cX2_radixSort 228 = .ok (.isub, 1) := dk_100 (dk_at dksX2_radixSort_9 16 rfl rfl)
theorem dX2_radixSort_229 : decode cX2_radixSort 229 = .ok (.istore 15, 2) := dk_54 15 (dk_at dksX2_radixSort_9 17 rfl rfl)
theorem dX2_radixSort_231 : decode cX2_radixSort 231 = .ok (.iload 9, 2) := dk_21 9 (dk_at dksX2_radixSort_9 19 rfl rfl)
theorem dX2_radixSort_233 : decode cX2_radixSort 233 = .ok (.istore 16, 2) := dk_54 16 (dk_at dksX2_radixSort_9 21 rfl rfl)
theorem dX2_radixSort_235 : decode cX2_radixSort 235 = .ok (.iconst (-1), 1) := dk_2 (dk_at dksX2_radixSort_9 23 rfl rfl)
theorem dX2_radixSort_236 : decode cX2_radixSort 236 = .ok (.istore 17, 2) := dk_54 17 (dk_at dksX2_radixSort_10 0 rfl rfl)
theorem dX2_radixSort_238 : decode cX2_radixSort 238 = .ok (.iload 16, 2) := dk_21 16 (dk_at dksX2_radixSort_10 2 rfl rfl)
theorem dX2_radixSort_240 : decode cX2_radixSort 240 = .ok (.iload 15, 2) := dk_21 15 (dk_at dksX2_radixSort_10 4 rfl rfl)
theorem dX2_radixSort_242 : decode cX2_radixSort 242 = .ok (.if_icmp .gt 175, 3) := dk_163 0 175 (dk_at dksX2_radixSort_10 6 rfl rfl)
theorem dX2_radixSort_245 : decode cX2_radixSort 245 = .ok (.aload_n 0, 1) := dk_42 (dk_at dksX2_radixSort_10 9 rfl rfl)
theorem dX2_radixSort_246 : decode cX2_radixSort 246 = .ok (.iload 16, 2) := dk_21 16 (dk_at dksX2_radixSort_10 10 rfl rfl)
theorem dX2_radixSort_248 : decode cX2_radixSort 248 = .ok (.iaload, 1) := dk_46 (dk_at dksX2_radixSort_10 12 rfl rfl)
theorem dX2_radixSort_249 : decode cX2_radixSort 249 = .ok (.istore 19, 2) := dk_54 19 (dk_at dksX2_radixSort_10 13 rfl rfl)
theorem dX2_radixSort_251 : decode cX2_radixSort 251 = .ok (.iload 19, 2) := dk_21 19 (dk_at dksX2_radixSort_10 15 rfl rfl)
theorem dX2_radixSort_253 : decode cX2_radixSort 253 = .ok (.iload 13, 2) := dk_21 13 (dk_at dksX2_radixSort_10 17 rfl rfl)
theorem dX2_radixSort_255 : decode cX2_radixSort 255 = .ok (.iushr, 1) := dk_124 (dk_at dksX2_radixSort_10 19 rfl rfl)
theorem dX2_radixSort_256 : decode cX2_radixSort 256 = .ok (.sipush 255, 3) := dk_17 0 255 (dk_at dksX2_radixSort_10 20 rfl rfl)
theorem dX2_radixSort_259 : decode cX2_radixSort 259 = .ok (.iand, 1) := dk_126 (dk_at dksX2_radixSort_10 23 rfl rfl)
theorem dX2_radixSort_260 : decode cX2_radixSort 260 = .ok (.iload 12, 2) := dk_21 12 (dk_at dksX2_radixSort_11 0 rfl rfl)
theorem dX2_radixSort_262 : decode cX2_radixSort 262 = .ok (.ixor, 1) := dk_130 (dk_at dksX2_radixSort_11 2 rfl rfl)
theorem dX2_radixSort_263 : decode cX2_radixSort 263 = .ok (.istore 17, 2) := dk_54 17 (dk_at dksX2_radixSort_11 3 rfl rfl)
theorem dX2_radixSort_265 : decode cX2_radixSort 265 = .ok (.iload 16, 2) := dk_21 16 (dk_at dksX2_radixSort_11 5 rfl rfl)
theorem dX2_radixSort_267 : decode cX2_radixSort 267 = .ok (.iload 15, 2) := dk_21 15 (dk_at dksX2_radixSort_11 7 rfl rfl)
theorem dX2_radixSort_269 : decode cX2_radixSort 269 = .ok (.if_icmp .ge 60, 3) := dk_162 0 60 (dk_at dksX2_radixSort_11 9 rfl rfl)
theorem dX2_radixSort_272 : decode cX2_radixSort 272 = .ok (.aload 8, 2) := dk_25 8 (dk_at dksX2_radixSort_11 12 rfl rfl)
theorem dX2_radixSort_274 : decode cX2_radixSort 274 = .ok (.iload 17, 2) := dk_21 17 (dk_at dksX2_radixSort_11 14 rfl rfl)
theorem dX2_radixSort_276 : decode cX2_radixSort 276 = .ok (.dup2, 1) := dk_92 (dk_at dksX2_radixSort_11 16 rfl rfl)
theorem dX2_radixSort_277 : decode cX2_radixSort 277 = .ok (.iaload, 1) := dk_46 (dk_at dksX2_radixSort_11 17 rfl rfl)
theorem dX2_radixSort_278 : decode cX2_radixSort 278 = .ok (.iconst 1, 1) := dk_4 (dk_at dksX2_radixSort_11 18 rfl rfl)
theorem dX2_radixSort_279 : decode cX2_radixSort 279 = .ok (.isub, 1) := dk_100 (dk_at dksX2_radixSort_11 19 rfl rfl)
theorem dX2_radixSort_280 : decode cX2_radixSort 280 = .ok (.dup_x2, 1) := dk_91 (dk_at dksX2_radixSort_11 20 rfl rfl)
theorem dX2_radixSort_281 : decode cX2_radixSort 281 = .ok (.iastore, 1) := dk_79 (dk_at dksX2_radixSort_11 21 rfl rfl)
theorem dX2_radixSort_282 : decode cX2_radixSort 282 = .ok (.dup, 1) := dk_89 (dk_at dksX2_radixSort_11 22 rfl rfl)
theorem dX2_radixSort_283 : decode cX2_radixSort 283 = .ok (.istore 18, 2) := dk_54 18 (dk_at dksX2_radixSort_12 0 rfl rfl)
theorem dX2_radixSort_285 : decode cX2_radixSort 285 = .ok (.iload 16, 2) := dk_21 16 (dk_at dksX2_radixSort_12 2 rfl rfl)
theorem dX2_radixSort_287 : decode cX2_radixSort 287 = .ok (.if_icmp .le 36, 3) := dk_164 0 36 (dk_at dksX2_radixSort_12 4 rfl rfl)
theorem dX2_radixSort_290 : decode cX2_radixSort 290 = .ok (.iload 19, 2) := dk_21 19 (dk_at dksX2_radixSort_12 7 rfl rfl)
theorem dX2_radixSort_292 : decode cX2_radixSort 292 = .ok (.istore 20, 2) := dk_54 20 (dk_at dksX2_radixSort_12 9 rfl rfl)
theorem dX2_radixSort_294 : decode cX2_radixSort 294 = .ok (.aload_n 0, 1) := dk_42 (dk_at dksX2_radixSort_12 11 rfl rfl)
theorem dX2_radixSort_295 : decode cX2_radixSort 295 = .ok (.iload 18, 2) := dk_21 18 (dk_at dksX2_radixSort_12 12 rfl rfl)
theorem dX2_radixSort_297 : decode cX2_radixSort 297 = .ok (.iaload, 1) := dk_46 (dk_at dksX2_radixSort_12 14 rfl rfl)
theorem dX2_radixSort_298 : decode cX2_radixSort 298 = .ok (.istore 19, 2) := dk_54 19 (dk_at dksX2_radixSort_12 15 rfl rfl)
theorem dX2_radixSort_300 : decode cX2_radixSort 300 = .ok (.aload_n 0, 1) := dk_42 (dk_at dksX2_radixSort_12 17 rfl rfl)
theorem dX2_radixSort_301 : decode cX2_radixSort 301 = .ok (.iload 18, 2) := dk_21 18 (dk_at dksX2_radixSort_12 18 rfl rfl)
theorem dX2_radixSort_303 : decode cX2_radixSort 303 = .ok (.iload 20, 2) := dk_21 20 (dk_at dksX2_radixSort_12 20 rfl rfl)
theorem dX2_radixSort_305 : decode cX2_radixSort 305 = .ok (.iastore, 1) := dk_79 (dk_at dksX2_radixSort_12 22 rfl rfl)
theorem dX2_radixSort_306 : decode cX2_radixSort 306 = .ok (.iload 19, 2) := dk_21 19 (dk_at dksX2_radixSort_13 0 rfl rfl)
theorem dX2_radixSort_308 : decode cX2_radixSort 308 = .ok (.iload 13, 2) := dk_21 13 (dk_at dksX2_radixSort_13 2 rfl rfl)
theorem dX2_radixSort_310 : decode cX2_radixSort 310 = .ok (.iushr, 1) := dk_124 (dk_at dksX2_radixSort_13 4 rfl rfl)
theorem dX2_radixSort_311 : decode cX2_radixSort 311 = .ok (.sipush 255, 3) := dk_17 0 255 (dk_at dksX2_radixSort_13 5 rfl rfl)
theorem dX2_radixSort_314 : decode cX2_radixSort 314 = .ok (.iand, 1) := dk_126 (dk_at dksX2_radixSort_13 8 rfl rfl)
theorem dX2_radixSort_315 : decode cX2_radixSort 315 = .ok (.iload 12, 2) := dk_21 12 (dk_at dksX2_radixSort_13 9 rfl rfl)
theorem dX2_radixSort_317 : decode cX2_radixSort 317 = .ok (.ixor, 1) := dk_130 (dk_at dksX2_radixSort_13 11 rfl rfl)
theorem dX2_radixSort_318 : decode cX2_radixSort 318 = .ok (.istore 17, 2) := dk_54 17 (dk_at dksX2_radixSort_13 12 rfl rfl)
theorem dX2_radixSort_320 : decode cX2_radixSort 320 = .ok (.goto (-48), 3) := dk_167 255 208 (dk_at dksX2_radixSort_13 14 rfl rfl)
theorem dX2_radixSort_323 : decode cX2_radixSort 323 = .ok (.aload_n 0, 1) := dk_42 (dk_at dksX2_radixSort_13 17 rfl rfl)
theorem dX2_radixSort_324 : decode cX2_radixSort 324 = .ok (.iload 16, 2) := dk_21 16 (dk_at dksX2_radixSort_13 18 rfl rfl)
theorem dX2_radixSort_326 : decode cX2_radixSort 326 = .ok (.iload 19, 2) := dk_21 19 (dk_at dksX2_radixSort_13 20 rfl rfl)
theorem dX2_radixSort_328 : decode cX2_radixSort 328 = .ok (.iastore, 1) := dk_79 (dk_at dksX2_radixSort_13 22 rfl rfl)
theorem dX2_radixSort_329 : decode cX2_radixSort 329 = .ok (.iload 11, 2) := dk_21 11 (dk_at dksX2_radixSort_14 0 rfl rfl)
theorem dX2_radixSort_331 : decode cX2_radixSort 331 = .ok (.iconst 3, 1) := dk_6 (dk_at dksX2_radixSort_14 2 rfl rfl)
theorem dX2_radixSort_332 : decode cX2_radixSort 332 = .ok (.if_icmp .ge 66, 3) := dk_162 0 66 (dk_at dksX2_radixSort_14 3 rfl rfl)
theorem dX2_radixSort_335 : decode cX2_radixSort 335 = .ok (.aload 7, 2) := dk_25 7 (dk_at dksX2_radixSort_14 6 rfl rfl)
theorem dX2_radixSort_337 : decode cX2_radixSort 337 = .ok (.iload 17, 2) := dk_21 17 (dk_at dksX2_radixSort_14 8 rfl rfl)
theorem dX2_radixSort_339 : decode cX2_radixSort 339 = .ok (.iaload, 1) := dk_46 (dk_at dksX2_radixSort_14 10 rfl rfl)
theorem dX2_radixSort_340 : decode cX2_radixSort 340 = .ok (.iconst 1, 1) := dk_4 (dk_at dksX2_radixSort_14 11 rfl rfl)
theorem dX2_radixSort_341 : decode cX2_radixSort 341 = .ok (.if_icmp .le 57, 3) := dk_164 0 57 (dk_at dksX2_radixSort_14 12 rfl rfl)
theorem dX2_radixSort_344 : decode cX2_radixSort 344 = .ok (.aload 7, 2) := dk_25 7 (dk_at dksX2_radixSort_14 15 rfl rfl)
theorem dX2_radixSort_346 : decode cX2_radixSort 346 = .ok (.iload 17, 2) := dk_21 17 (dk_at dksX2_radixSort_14 17 rfl rfl)
theorem dX2_radixSort_348 : decode cX2_radixSort 348 = .ok (.iaload, 1) := dk_46 (dk_at dksX2_radixSort_14 19 rfl rfl)
theorem dX2_radixSort_349 : decode cX2_radixSort 349 = .ok (.sipush 1024, 3) := dk_17 4 0 (dk_at dksX2_radixSort_14 20 rfl rfl)
theorem dX2_radixSort_352 : decode cX2_radixSort 352 = .ok (.if_icmp .ge 20, 3) := dk_162 0 20 (dk_at dksX2_radixSort_15 0 rfl rfl)
theorem dX2_radixSort_355 : decode cX2_radixSort 355 = .ok (.aload_n 0, 1) := dk_42 (dk_at dksX2_radixSort_15 3 rfl rfl)
theorem dX2_radixSort_356 : decode cX2_radixSort 356 = .ok (.iload 16, 2) := dk_21 16 (dk_at dksX2_radixSort_15 4 rfl rfl)
theorem dX2_radixSort_358 : decode cX2_radixSort 358 = .ok (.iload 16, 2) := dk_21 16 (dk_at dksX2_radixSort_15 6 rfl rfl)
theorem dX2_radixSort_360 : decode cX2_radixSort 360 = .ok (.aload 7, 2) := dk_25 7 (dk_at dksX2_radixSort_15 8 rfl rfl)
theorem dX2_radixSort_362 : decode cX2_radixSort 362 = .ok (.iload 17, 2) := dk_21 17 (dk_at dksX2_radixSort_15 10 rfl rfl)
theorem dX2_radixSort_364 : decode cX2_radixSort 364 = .ok (.iaload, 1) := dk_46 (dk_at dksX2_radixSort_15 12 rfl rfl)
theorem dX2_radixSort_365 : decode cX2_radixSort 365 = .ok (.iadd, 1) := dk_96 (dk_at dksX2_radixSort_15 13 rfl rfl)
theorem dX2_radixSort_366 : decode cX2_radixSort 366 = .ok (.invokestatic 28, 3) := dk_184 0 28 (dk_at dksX2_radixSort_15 14 rfl rfl)
theorem dX2_radixSort_369 : decode cX2_radixSort 369 = .ok (.goto 29, 3) := dk_167 0 29 (dk_at dksX2_radixSort_15 17 rfl rfl)
theorem dX2_radixSort_372 : decode cX2_radixSort 372 = .ok (.aload 4, 2) := dk_25 4 (dk_at dksX2_radixSort_15 20 rfl rfl)
theorem dX2_radixSort_374 : decode cX2_radixSort 374 = .ok (.iload_n 3, 1) := dk_29 (dk_at dksX2_radixSort_15 22 rfl rfl)
theorem dX2_radixSort_375 : decode cX2_radixSort 375 = .ok (.iload 16, 2) := dk_21 16 (dk_at dksX2_radixSort_16 0 rfl rfl)
theorem dX2_radixSort_377 : decode cX2_radixSort 377 = .ok (.iastore, 1) := dk_79 (dk_at dksX2_radixSort_16 2 rfl rfl)
theorem dX2_radixSort_378 : decode cX2_radixSort 378 = .ok (.aload 5, 2) := dk_25 5 (dk_at dksX2_radixSort_16 3 rfl rfl)
theorem dX2_radixSort_380 : decode cX2_radixSort 380 = .ok (.iload_n 3, 1) := dk_29 (dk_at dksX2_radixSort_16 5 rfl rfl)
theorem dX2_radixSort_381 : decode cX2_radixSort 381 = .ok (.aload 7, 2) := dk_25 7 (dk_at dksX2_radixSort_16 6 rfl rfl)
theorem dX2_radixSort_383 : decode cX2_radixSort 383 = .ok (.iload 17, 2) := dk_21 17 (dk_at dksX2_radixSort_16 8 rfl rfl)
theorem dX2_radixSort_385 : decode cX2_radixSort 385 = .ok (.iaload, 1) := dk_46 (dk_at dksX2_radixSort_16 10 rfl rfl)
theorem dX2_radixSort_386 : decode cX2_radixSort 386 = .ok (.iastore, 1) := dk_79 (dk_at dksX2_radixSort_16 11 rfl rfl)
theorem dX2_radixSort_387 : decode cX2_radixSort 387 = .ok (.aload 6, 2) := dk_25 6 (dk_at dksX2_radixSort_16 12 rfl rfl)
theorem dX2_radixSort_389 : decode cX2_radixSort 389 = .ok (.iload_n 3, 1) := dk_29 (dk_at dksX2_radixSort_16 14 rfl rfl)
theorem dX2_radixSort_390 : decode cX2_radixSort 390 = .ok (.iinc 3 1, 3) := dk_132 3 1 (dk_at dksX2_radixSort_16 15 rfl rfl)
theorem dX2_radixSort_393 : decode cX2_radixSort 393 = .ok (.iload 11, 2) := dk_21 11 (dk_at dksX2_radixSort_16 18 rfl rfl)
theorem dX2_radixSort_395 : decode cX2_radixSort 395 = .ok (.iconst 1, 1) := dk_4 (dk_at dksX2_radixSort_16 20 rfl rfl)
theorem dX2_radixSort_396 : decode cX2_radixSort 396 = .ok (.iadd, 1) := dk_96 (dk_at dksX2_radixSort_16 21 rfl rfl)
theorem dX2_radixSort_397 : decode cX2_radixSort 397 = .ok (.iastore, 1) := dk_79 (dk_at dksX2_radixSort_16 22 rfl rfl)
theorem dX2_radixSort_398 : decode cX2_radixSort 398 = .ok (.iload 16, 2) := dk_21 16 (dk_at dksX2_radixSort_17 0 rfl rfl)
theorem dX2_radixSort_400 : decode cX2_radixSort 400 = .ok (.aload 7, 2) := dk_25 7 (dk_at dksX2_radixSort_17 2 rfl rfl)
theorem dX2_radixSort_402 : decode cX2_radixSort 402 = .ok (.iload 17, 2) := dk_21 17 (dk_at dksX2_radixSort_17 4 rfl rfl)
theorem dX2_radixSort_404 : decode cX2_radixSort 404 = .ok (.iaload, 1) := dk_46 (dk_at dksX2_radixSort_17 6 rfl rfl)
theorem dX2_radixSort_405 : decode cX2_radixSort 405 = .ok (.iadd, 1) := dk_96 (dk_at dksX2_radixSort_17 7 rfl rfl)
theorem dX2_radixSort_406 : decode cX2_radixSort 406 = .ok (.istore 16, 2) := dk_54 16 (dk_at dksX2_radixSort_17 8 rfl rfl)
theorem dX2_radixSort_408 : decode cX2_radixSort 408 = .ok (.aload 7, 2) := dk_25 7 (dk_at dksX2_radixSort_17 10 rfl rfl)
theorem dX2_radixSort_410 : decode cX2_radixSort 410 = .ok (.iload 17, 2) := dk_21 17 (dk_at dksX2_radixSort_17 12 rfl rfl)
theorem dX2_radixSort_412 : decode cX2_radixSort 412 = .ok (.iconst 0, 1) := dk_3 (dk_at dksX2_radixSort_17 14 rfl rfl)
theorem dX2_radixSort_413 : decode cX2_radixSort 413 = .ok (.iastore, 1) := dk_79 (dk_at dksX2_radixSort_17 15 rfl rfl)
theorem dX2_radixSort_414 : decode cX2_radixSort 414 = .ok (.goto (-176), 3) := dk_167 255 80 (dk_at dksX2_radixSort_17 16 rfl rfl)
theorem dX2_radixSort_417 : decode cX2_radixSort 417 = .ok (.goto (-344), 3) := dk_167 254 168 (dk_at dksX2_radixSort_17 19 rfl rfl)
theorem dX2_radixSort_420 : decode cX2_radixSort 420 = .ok (.return_, 1) := dk_177 (dk_at dksX2_radixSort_17 22 rfl rfl)
abbrev cX2_unstableSort : ByteArray := prog_1_method_7_code
def yX2_unstableSort : MethodName := ⟨RX2, "unstableSort", "([III)V"⟩
def dkwX2_unstableSort_1 : List UInt8 := [177]
abbrev dktX2_unstableSort_1 : List UInt8 := dkwX2_unstableSort_1 ++ []
def dkwX2_unstableSort_0 : List UInt8 := [28, 27, 100, 17, 7, 208, 161, 0, 12, 42, 27, 28, 184, 0, 31, 167, 0, 9, 42, 27, 28, 184, 0, 28]
abbrev dktX2_unstableSort_0 : List UInt8 := dkwX2_unstableSort_0 ++ dktX2_unstableSort_1
theorem dksX2_unstableSort_0 : cX2_unstableSort.data.toList.drop 0 = dktX2_unstableSort_0 := by decide +kernel
theorem dksX2_unstableSort_1 : cX2_unstableSort.data.toList.drop 24 = dktX2_unstableSort_1 := dk_seg dksX2_unstableSort_0 24 rfl rfl
theorem dX2_unstableSort_0 : decode cX2_unstableSort 0 = .ok (.iload_n 2, 1) := dk_28 (dk_at dksX2_unstableSort_0 0 rfl rfl)
theorem dX2_unstableSort_1 : decode cX2_unstableSort 1 = .ok (.iload_n 1, 1) := dk_27 (dk_at dksX2_unstableSort_0 1 rfl rfl)
theorem dX2_unstableSort_2 : decode cX2_unstableSort 2 = .ok (.isub, 1) := dk_100 (dk_at dksX2_unstableSort_0 2 rfl rfl)
theorem dX2_unstableSort_3 : decode cX2_unstableSort 3 = .ok (.sipush 2000, 3) := dk_17 7 208 (dk_at dksX2_unstableSort_0 3 rfl rfl)
theorem dX2_unstableSort_6 : decode cX2_unstableSort 6 = .ok (.if_icmp .lt 12, 3) := dk_161 0 12 (dk_at dksX2_unstableSort_0 6 rfl rfl)
theorem dX2_unstableSort_9 : decode cX2_unstableSort 9 = .ok (.aload_n 0, 1) := dk_42 (dk_at dksX2_unstableSort_0 9 rfl rfl)
theorem dX2_unstableSort_10 : decode cX2_unstableSort 10 = .ok (.iload_n 1, 1) := dk_27 (dk_at dksX2_unstableSort_0 10 rfl rfl)
theorem dX2_unstableSort_11 : decode cX2_unstableSort 11 = .ok (.iload_n 2, 1) := dk_28 (dk_at dksX2_unstableSort_0 11 rfl rfl)
theorem dX2_unstableSort_12 : decode cX2_unstableSort 12 = .ok (.invokestatic 31, 3) := dk_184 0 31 (dk_at dksX2_unstableSort_0 12 rfl rfl)
theorem dX2_unstableSort_15 : decode cX2_unstableSort 15 = .ok (.goto 9, 3) := dk_167 0 9 (dk_at dksX2_unstableSort_0 15 rfl rfl)
theorem dX2_unstableSort_18 : decode cX2_unstableSort 18 = .ok (.aload_n 0, 1) := dk_42 (dk_at dksX2_unstableSort_0 18 rfl rfl)
theorem dX2_unstableSort_19 : decode cX2_unstableSort 19 = .ok (.iload_n 1, 1) := dk_27 (dk_at dksX2_unstableSort_0 19 rfl rfl)
theorem dX2_unstableSort_20 : decode cX2_unstableSort 20 = .ok (.iload_n 2, 1) := dk_28 (dk_at dksX2_unstableSort_0 20 rfl rfl)
theorem dX2_unstableSort_21 : decode cX2_unstableSort 21 = .ok (.invokestatic 28, 3) := dk_184 0 28 (dk_at dksX2_unstableSort_0 21 rfl rfl)
theorem dX2_unstableSort_24 : decode cX2_unstableSort 24 = .ok (.return_, 1) := dk_177 (dk_at dksX2_unstableSort_1 0 rfl rfl)
abbrev cX2_reverse : ByteArray := prog_1_method_12_code
def yX2_reverse : MethodName := ⟨RX2, "reverse", "([III)[I"⟩
def dkwX2_reverse_2 : List UInt8 := [21, 4, 96, 21, 5, 79, 167, 255, 212, 42, 176]
abbrev dktX2_reverse_2 : List UInt8 := dkwX2_reverse_2 ++ []
def dkwX2_reverse_1 : List UInt8 := [4, 100, 46, 54, 5, 42, 27, 29, 96, 21, 4, 100, 4, 100, 42, 27, 21, 4, 96, 46, 79, 42, 27]
abbrev dktX2_reverse_1 : List UInt8 := dkwX2_reverse_1 ++ dktX2_reverse_2
def dkwX2_reverse_0 : List UInt8 := [28, 27, 100, 62, 29, 5, 108, 54, 4, 21, 4, 132, 4, 255, 153, 0, 42, 42, 27, 29, 96, 21, 4, 100]
abbrev dktX2_reverse_0 : List UInt8 := dkwX2_reverse_0 ++ dktX2_reverse_1
theorem dksX2_reverse_0 : cX2_reverse.data.toList.drop 0 = dktX2_reverse_0 := by decide +kernel
theorem dksX2_reverse_1 : cX2_reverse.data.toList.drop 24 = dktX2_reverse_1 := dk_seg dksX2_reverse_0 24 rfl rfl
theorem dksX2_reverse_2 : cX2_reverse.data.toList.drop 47 = dktX2_reverse_2 := dk_seg dksX2_reverse_1 23 rfl rfl
theorem dX2_reverse_0 : decode cX2_reverse 0 = .ok (.iload_n 2, 1) := dk_28 (dk_at dksX2_reverse_0 0 rfl rfl)
theorem dX2_reverse_1 : decode cX2_reverse 1 = .ok (.iload_n 1, 1) := dk_27 (dk_at dksX2_reverse_0 1 rfl rfl)
theorem dX2_reverse_2 : decode cX2_reverse 2 = .ok (.isub, 1) := dk_100 (dk_at dksX2_reverse_0 2 rfl rfl)
theorem dX2_reverse_3 : decode cX2_reverse 3 = .ok (.istore_n 3, 1) := dk_62 (dk_at dksX2_reverse_0 3 rfl rfl)
theorem dX2_reverse_4 : decode cX2_reverse 4 = .ok (.iload_n 3, 1) := dk_29 (dk_at dksX2_reverse_0 4 rfl rfl)
theorem dX2_reverse_5 : decode cX2_reverse 5 = .ok (.iconst 2, 1) := dk_5 (dk_at dksX2_reverse_0 5 rfl rfl)
theorem dX2_reverse_6 : decode cX2_reverse 6 = .ok (.idiv, 1) := dk_108 (dk_at dksX2_reverse_0 6 rfl rfl)
theorem dX2_reverse_7 : decode cX2_reverse 7 = .ok (.istore 4, 2) := dk_54 4 (dk_at dksX2_reverse_0 7 rfl rfl)
theorem dX2_reverse_9 : decode cX2_reverse 9 = .ok (.iload 4, 2) := dk_21 4 (dk_at dksX2_reverse_0 9 rfl rfl)
theorem dX2_reverse_11 : decode cX2_reverse 11 = .ok (.iinc 4 (-1), 3) := dk_132 4 255 (dk_at dksX2_reverse_0 11 rfl rfl)
theorem dX2_reverse_14 : decode cX2_reverse 14 = .ok (.ifCond .eq 42, 3) := dk_153 0 42 (dk_at dksX2_reverse_0 14 rfl rfl)
theorem dX2_reverse_17 : decode cX2_reverse 17 = .ok (.aload_n 0, 1) := dk_42 (dk_at dksX2_reverse_0 17 rfl rfl)
theorem dX2_reverse_18 : decode cX2_reverse 18 = .ok (.iload_n 1, 1) := dk_27 (dk_at dksX2_reverse_0 18 rfl rfl)
theorem dX2_reverse_19 : decode cX2_reverse 19 = .ok (.iload_n 3, 1) := dk_29 (dk_at dksX2_reverse_0 19 rfl rfl)
theorem dX2_reverse_20 : decode cX2_reverse 20 = .ok (.iadd, 1) := dk_96 (dk_at dksX2_reverse_0 20 rfl rfl)
theorem dX2_reverse_21 : decode cX2_reverse 21 = .ok (.iload 4, 2) := dk_21 4 (dk_at dksX2_reverse_0 21 rfl rfl)
theorem dX2_reverse_23 : decode cX2_reverse 23 = .ok (.isub, 1) := dk_100 (dk_at dksX2_reverse_0 23 rfl rfl)
theorem dX2_reverse_24 : decode cX2_reverse 24 = .ok (.iconst 1, 1) := dk_4 (dk_at dksX2_reverse_1 0 rfl rfl)
theorem dX2_reverse_25 : decode cX2_reverse 25 = .ok (.isub, 1) := dk_100 (dk_at dksX2_reverse_1 1 rfl rfl)
theorem dX2_reverse_26 : decode cX2_reverse 26 = .ok (.iaload, 1) := dk_46 (dk_at dksX2_reverse_1 2 rfl rfl)
theorem dX2_reverse_27 : decode cX2_reverse 27 = .ok (.istore 5, 2) := dk_54 5 (dk_at dksX2_reverse_1 3 rfl rfl)
theorem dX2_reverse_29 : decode cX2_reverse 29 = .ok (.aload_n 0, 1) := dk_42 (dk_at dksX2_reverse_1 5 rfl rfl)
theorem dX2_reverse_30 : decode cX2_reverse 30 = .ok (.iload_n 1, 1) := dk_27 (dk_at dksX2_reverse_1 6 rfl rfl)
theorem dX2_reverse_31 : decode cX2_reverse 31 = .ok (.iload_n 3, 1) := dk_29 (dk_at dksX2_reverse_1 7 rfl rfl)
theorem dX2_reverse_32 : decode cX2_reverse 32 = .ok (.iadd, 1) := dk_96 (dk_at dksX2_reverse_1 8 rfl rfl)
theorem dX2_reverse_33 : decode cX2_reverse 33 = .ok (.iload 4, 2) := dk_21 4 (dk_at dksX2_reverse_1 9 rfl rfl)
theorem dX2_reverse_35 : decode cX2_reverse 35 = .ok (.isub, 1) := dk_100 (dk_at dksX2_reverse_1 11 rfl rfl)
theorem dX2_reverse_36 : decode cX2_reverse 36 = .ok (.iconst 1, 1) := dk_4 (dk_at dksX2_reverse_1 12 rfl rfl)
theorem dX2_reverse_37 : decode cX2_reverse 37 = .ok (.isub, 1) := dk_100 (dk_at dksX2_reverse_1 13 rfl rfl)
theorem dX2_reverse_38 : decode cX2_reverse 38 = .ok (.aload_n 0, 1) := dk_42 (dk_at dksX2_reverse_1 14 rfl rfl)
theorem dX2_reverse_39 : decode cX2_reverse 39 = .ok (.iload_n 1, 1) := dk_27 (dk_at dksX2_reverse_1 15 rfl rfl)
theorem dX2_reverse_40 : decode cX2_reverse 40 = .ok (.iload 4, 2) := dk_21 4 (dk_at dksX2_reverse_1 16 rfl rfl)
theorem dX2_reverse_42 : decode cX2_reverse 42 = .ok (.iadd, 1) := dk_96 (dk_at dksX2_reverse_1 18 rfl rfl)
theorem dX2_reverse_43 : decode cX2_reverse 43 = .ok (.iaload, 1) := dk_46 (dk_at dksX2_reverse_1 19 rfl rfl)
theorem dX2_reverse_44 : decode cX2_reverse 44 = .ok (.iastore, 1) := dk_79 (dk_at dksX2_reverse_1 20 rfl rfl)
theorem dX2_reverse_45 : decode cX2_reverse 45 = .ok (.aload_n 0, 1) := dk_42 (dk_at dksX2_reverse_1 21 rfl rfl)
theorem dX2_reverse_46 : decode cX2_reverse 46 = .ok (.iload_n 1, 1) := dk_27 (dk_at dksX2_reverse_1 22 rfl rfl)
theorem dX2_reverse_47 : decode cX2_reverse 47 = .ok (.iload 4, 2) := dk_21 4 (dk_at dksX2_reverse_2 0 rfl rfl)
theorem dX2_reverse_49 : decode cX2_reverse 49 = .ok (.iadd, 1) := dk_96 (dk_at dksX2_reverse_2 2 rfl rfl)
theorem dX2_reverse_50 : decode cX2_reverse 50 = .ok (.iload 5, 2) := dk_21 5 (dk_at dksX2_reverse_2 3 rfl rfl)
theorem dX2_reverse_52 : decode cX2_reverse 52 = .ok (.iastore, 1) := dk_79 (dk_at dksX2_reverse_2 5 rfl rfl)
theorem dX2_reverse_53 : decode cX2_reverse 53 = .ok (.goto (-44), 3) := dk_167 255 212 (dk_at dksX2_reverse_2 6 rfl rfl)
theorem dX2_reverse_56 : decode cX2_reverse 56 = .ok (.aload_n 0, 1) := dk_42 (dk_at dksX2_reverse_2 9 rfl rfl)
theorem dX2_reverse_57 : decode cX2_reverse 57 = .ok (.areturn, 1) := dk_176 (dk_at dksX2_reverse_2 10 rfl rfl)
abbrev cX2_binarySearch : ByteArray := prog_1_method_10_code
def yX2_binarySearch : MethodName := ⟨RX2, "binarySearch", "([IIII)I"⟩
def dkwX2_binarySearch_2 : List UInt8 := [167, 0, 6, 21, 5, 172, 167, 255, 207, 27, 4, 96, 116, 172]
abbrev dktX2_binarySearch_2 : List UInt8 := dkwX2_binarySearch_2 ++ []
def dkwX2_binarySearch_1 : List UInt8 := [162, 0, 11, 21, 5, 4, 96, 60, 167, 0, 20, 21, 4, 29, 164, 0, 11, 21, 5, 4, 100, 61]
abbrev dktX2_binarySearch_1 : List UInt8 := dkwX2_binarySearch_1 ++ dktX2_binarySearch_2
def dkwX2_binarySearch_0 : List UInt8 := [132, 2, 255, 27, 28, 163, 0, 50, 27, 28, 96, 4, 124, 54, 5, 42, 21, 5, 46, 54, 4, 21, 4, 29]
abbrev dktX2_binarySearch_0 : List UInt8 := dkwX2_binarySearch_0 ++ dktX2_binarySearch_1
theorem dksX2_binarySearch_0 : cX2_binarySearch.data.toList.drop 0 = dktX2_binarySearch_0 := by decide +kernel
theorem dksX2_binarySearch_1 : cX2_binarySearch.data.toList.drop 24 = dktX2_binarySearch_1 := dk_seg dksX2_binarySearch_0 24 rfl rfl
theorem dksX2_binarySearch_2 : cX2_binarySearch.data.toList.drop 46 = dktX2_binarySearch_2 := dk_seg dksX2_binarySearch_1 22 rfl rfl
theorem dX2_binarySearch_0 : decode cX2_binarySearch 0 = .ok (.iinc 2 (-1), 3) := dk_132 2 255 (dk_at dksX2_binarySearch_0 0 rfl rfl)
theorem dX2_binarySearch_3 : decode cX2_binarySearch 3 = .ok (.iload_n 1, 1) := dk_27 (dk_at dksX2_binarySearch_0 3 rfl rfl)
theorem dX2_binarySearch_4 : decode cX2_binarySearch 4 = .ok (.iload_n 2, 1) := dk_28 (dk_at dksX2_binarySearch_0 4 rfl rfl)
theorem dX2_binarySearch_5 : decode cX2_binarySearch 5 = .ok (.if_icmp .gt 50, 3) := dk_163 0 50 (dk_at dksX2_binarySearch_0 5 rfl rfl)
theorem dX2_binarySearch_8 : decode cX2_binarySearch 8 = .ok (.iload_n 1, 1) := dk_27 (dk_at dksX2_binarySearch_0 8 rfl rfl)
theorem dX2_binarySearch_9 : decode cX2_binarySearch 9 = .ok (.iload_n 2, 1) := dk_28 (dk_at dksX2_binarySearch_0 9 rfl rfl)
theorem dX2_binarySearch_10 : decode cX2_binarySearch 10 = .ok (.iadd, 1) := dk_96 (dk_at dksX2_binarySearch_0 10 rfl rfl)
theorem dX2_binarySearch_11 : decode cX2_binarySearch 11 = .ok (.iconst 1, 1) := dk_4 (dk_at dksX2_binarySearch_0 11 rfl rfl)
theorem dX2_binarySearch_12 : decode cX2_binarySearch 12 = .ok (.iushr, 1) := dk_124 (dk_at dksX2_binarySearch_0 12 rfl rfl)
theorem dX2_binarySearch_13 : decode cX2_binarySearch 13 = .ok (.istore 5, 2) := dk_54 5 (dk_at dksX2_binarySearch_0 13 rfl rfl)
theorem dX2_binarySearch_15 : decode cX2_binarySearch 15 = .ok (.aload_n 0, 1) := dk_42 (dk_at dksX2_binarySearch_0 15 rfl rfl)
theorem dX2_binarySearch_16 : decode cX2_binarySearch 16 = .ok (.iload 5, 2) := dk_21 5 (dk_at dksX2_binarySearch_0 16 rfl rfl)
theorem dX2_binarySearch_18 : decode cX2_binarySearch 18 = .ok (.iaload, 1) := dk_46 (dk_at dksX2_binarySearch_0 18 rfl rfl)
theorem dX2_binarySearch_19 : decode cX2_binarySearch 19 = .ok (.istore 4, 2) := dk_54 4 (dk_at dksX2_binarySearch_0 19 rfl rfl)
theorem dX2_binarySearch_21 : decode cX2_binarySearch 21 = .ok (.iload 4, 2) := dk_21 4 (dk_at dksX2_binarySearch_0 21 rfl rfl)
theorem dX2_binarySearch_23 : decode cX2_binarySearch 23 = .ok (.iload_n 3, 1) := dk_29 (dk_at dksX2_binarySearch_0 23 rfl rfl)
theorem dX2_binarySearch_24 : decode cX2_binarySearch 24 = .ok (.if_icmp .ge 11, 3) := dk_162 0 11 (dk_at dksX2_binarySearch_1 0 rfl rfl)
theorem dX2_binarySearch_27 : decode cX2_binarySearch 27 = .ok (.iload 5, 2) := dk_21 5 (dk_at dksX2_binarySearch_1 3 rfl rfl)
theorem dX2_binarySearch_29 : decode cX2_binarySearch 29 = .ok (.iconst 1, 1) := dk_4 (dk_at dksX2_binarySearch_1 5 rfl rfl)
theorem dX2_binarySearch_30 : decode cX2_binarySearch 30 = .ok (.iadd, 1) := dk_96 (dk_at dksX2_binarySearch_1 6 rfl rfl)
theorem dX2_binarySearch_31 : decode cX2_binarySearch 31 = .ok (.istore_n 1, 1) := dk_60 (dk_at dksX2_binarySearch_1 7 rfl rfl)
theorem dX2_binarySearch_32 : decode cX2_binarySearch 32 = .ok (.goto 20, 3) := dk_167 0 20 (dk_at dksX2_binarySearch_1 8 rfl rfl)
theorem dX2_binarySearch_35 : decode cX2_binarySearch 35 = .ok (.iload 4, 2) := dk_21 4 (dk_at dksX2_binarySearch_1 11 rfl rfl)
theorem dX2_binarySearch_37 : decode cX2_binarySearch 37 = .ok (.iload_n 3, 1) := dk_29 (dk_at dksX2_binarySearch_1 13 rfl rfl)
theorem dX2_binarySearch_38 : decode cX2_binarySearch 38 = .ok (.if_icmp .le 11, 3) := dk_164 0 11 (dk_at dksX2_binarySearch_1 14 rfl rfl)
theorem dX2_binarySearch_41 : decode cX2_binarySearch 41 = .ok (.iload 5, 2) := dk_21 5 (dk_at dksX2_binarySearch_1 17 rfl rfl)
theorem dX2_binarySearch_43 : decode cX2_binarySearch 43 = .ok (.iconst 1, 1) := dk_4 (dk_at dksX2_binarySearch_1 19 rfl rfl)
theorem dX2_binarySearch_44 : decode cX2_binarySearch 44 = .ok (.isub, 1) := dk_100 (dk_at dksX2_binarySearch_1 20 rfl rfl)
theorem dX2_binarySearch_45 : decode cX2_binarySearch 45 = .ok (.istore_n 2, 1) := dk_61 (dk_at dksX2_binarySearch_1 21 rfl rfl)
theorem dX2_binarySearch_46 : decode cX2_binarySearch 46 = .ok (.goto 6, 3) := dk_167 0 6 (dk_at dksX2_binarySearch_2 0 rfl rfl)
theorem dX2_binarySearch_49 : decode cX2_binarySearch 49 = .ok (.iload 5, 2) := dk_21 5 (dk_at dksX2_binarySearch_2 3 rfl rfl)
theorem dX2_binarySearch_51 : decode cX2_binarySearch 51 = .ok (.ireturn, 1) := dk_172 (dk_at dksX2_binarySearch_2 5 rfl rfl)
theorem dX2_binarySearch_52 : decode cX2_binarySearch 52 = .ok (.goto (-49), 3) := dk_167 255 207 (dk_at dksX2_binarySearch_2 6 rfl rfl)
theorem dX2_binarySearch_55 : decode cX2_binarySearch 55 = .ok (.iload_n 1, 1) := dk_27 (dk_at dksX2_binarySearch_2 9 rfl rfl)
theorem dX2_binarySearch_56 : decode cX2_binarySearch 56 = .ok (.iconst 1, 1) := dk_4 (dk_at dksX2_binarySearch_2 10 rfl rfl)
theorem dX2_binarySearch_57 : decode cX2_binarySearch 57 = .ok (.iadd, 1) := dk_96 (dk_at dksX2_binarySearch_2 11 rfl rfl)
theorem dX2_binarySearch_58 : decode cX2_binarySearch 58 = .ok (.ineg, 1) := dk_116 (dk_at dksX2_binarySearch_2 12 rfl rfl)
theorem dX2_binarySearch_59 : decode cX2_binarySearch 59 = .ok (.ireturn, 1) := dk_172 (dk_at dksX2_binarySearch_2 13 rfl rfl)
theorem q6 : (Jvm.Cond.initialized "IntArrays") ∈ lw_all := lw_g (lw_at lw_m0 3 rfl) rfl
theorem q61 : (Jvm.Cond.static ({ cls := "IntArrays", name := "quickSort", desc := "([III)V" } : Jvm.MethodName)) ∈ lw_all := lw_g (lw_at lw_m0 58 rfl) rfl
theorem q62 : (Jvm.Cond.code ({ cls := "IntArrays", name := "quickSort", desc := "([III)V" } : Jvm.MethodName) prog_1_method_6_code (13 : Nat) (Option.none : Option Jvm.ClassFile.FieldType)) ∈ lw_all := lw_g (lw_at lw_m0 59 rfl) rfl
theorem q63 : (Jvm.Cond.methodLink "IntArrays" (13 : Nat) ({ cls := "IntArrays", name := "selectionSort", desc := "([III)V" } : Jvm.MethodName)) ∈ lw_all := lw_g (lw_at lw_m0 60 rfl) rfl
theorem q64 : (Jvm.Cond.static ({ cls := "IntArrays", name := "selectionSort", desc := "([III)V" } : Jvm.MethodName)) ∈ lw_all := lw_g (lw_at lw_m0 61 rfl) rfl
theorem q65 : (Jvm.Cond.code ({ cls := "IntArrays", name := "selectionSort", desc := "([III)V" } : Jvm.MethodName) prog_1_method_4_code (6 : Nat) (Option.none : Option Jvm.ClassFile.FieldType)) ∈ lw_all := lw_g (lw_at lw_m0 62 rfl) rfl
theorem q66 : (Jvm.Cond.methodLink "IntArrays" (16 : Nat) ({ cls := "IntArrays", name := "med3", desc := "([IIII)I" } : Jvm.MethodName)) ∈ lw_all := lw_g (lw_at lw_m0 63 rfl) rfl
theorem q67 : (Jvm.Cond.static ({ cls := "IntArrays", name := "med3", desc := "([IIII)I" } : Jvm.MethodName)) ∈ lw_all := lw_g (lw_at lw_m0 64 rfl) rfl
theorem q68 : (Jvm.Cond.code ({ cls := "IntArrays", name := "med3", desc := "([IIII)I" } : Jvm.MethodName) prog_1_method_3_code (7 : Nat) (Option.some Jvm.ClassFile.FieldType.int)) ∈ lw_all := lw_g (lw_at lw_m0 65 rfl) rfl
theorem q69 : (Jvm.Cond.methodLink "IntArrays" (9 : Nat) ({ cls := "java/lang/Integer", name := "compare", desc := "(II)I" } : Jvm.MethodName)) ∈ lw_all := lw_g (lw_at lw_m0 66 rfl) rfl
theorem q72 : (Jvm.Cond.methodLink "IntArrays" (5 : Nat) ({ cls := "IntArrays", name := "swap", desc := "([III)V" } : Jvm.MethodName)) ∈ lw_all := lw_g (lw_at lw_m0 69 rfl) rfl
theorem q73 : (Jvm.Cond.static ({ cls := "IntArrays", name := "swap", desc := "([III)V" } : Jvm.MethodName)) ∈ lw_all := lw_g (lw_at lw_m0 70 rfl) rfl
theorem q74 : (Jvm.Cond.code ({ cls := "IntArrays", name := "swap", desc := "([III)V" } : Jvm.MethodName) prog_1_method_1_code (4 : Nat) (Option.none : Option Jvm.ClassFile.FieldType)) ∈ lw_all := lw_g (lw_at lw_m0 71 rfl) rfl
theorem q75 : (Jvm.Cond.methodLink "IntArrays" (20 : Nat) ({ cls := "java/lang/Math", name := "min", desc := "(II)I" } : Jvm.MethodName)) ∈ lw_all := lw_g (lw_at lw_m0 72 rfl) rfl
theorem q78 : (Jvm.Cond.methodLink "IntArrays" (25 : Nat) ({ cls := "IntArrays", name := "swap", desc := "([IIII)V" } : Jvm.MethodName)) ∈ lw_all := lw_g (lw_at lw_m0 75 rfl) rfl
theorem q79 : (Jvm.Cond.static ({ cls := "IntArrays", name := "swap", desc := "([IIII)V" } : Jvm.MethodName)) ∈ lw_all := lw_g (lw_at lw_m0 76 rfl) rfl
theorem q80 : (Jvm.Cond.code ({ cls := "IntArrays", name := "swap", desc := "([IIII)V" } : Jvm.MethodName) prog_1_method_2_code (5 : Nat) (Option.none : Option Jvm.ClassFile.FieldType)) ∈ lw_all := lw_g (lw_at lw_m0 77 rfl) rfl
theorem q81 : (Jvm.Cond.methodLink "IntArrays" (28 : Nat) ({ cls := "IntArrays", name := "quickSort", desc := "([III)V" } : Jvm.MethodName)) ∈ lw_all := lw_g (lw_at lw_m0 78 rfl) rfl
theorem q87 : (Jvm.Cond.static ({ cls := "IntArrays", name := "mergeSort", desc := "([III)V" } : Jvm.MethodName)) ∈ lw_all := lw_g (lw_at lw_m0 84 rfl) rfl
theorem q88 : (Jvm.Cond.code ({ cls := "IntArrays", name := "mergeSort", desc := "([III)V" } : Jvm.MethodName) prog_1_method_9_code (3 : Nat) (Option.none : Option Jvm.ClassFile.FieldType)) ∈ lw_all := lw_g (lw_at lw_m0 85 rfl) rfl
theorem q89 : (Jvm.Cond.classLink "IntArrays" (53 : Nat) "[I") ∈ lw_all := lw_g (lw_at lw_m0 86 rfl) rfl
theorem q90 : (Jvm.Cond.methodLink "IntArrays" (43 : Nat) ({ cls := "IntArrays", name := "mergeSort", desc := "([III[I)V" } : Jvm.MethodName)) ∈ lw_all := lw_g (lw_at lw_m0 87 rfl) rfl
theorem q91 : (Jvm.Cond.static ({ cls := "IntArrays", name := "mergeSort", desc := "([III[I)V" } : Jvm.MethodName)) ∈ lw_all := lw_g (lw_at lw_m0 88 rfl) rfl
theorem q92 : (Jvm.Cond.code ({ cls := "IntArrays", name := "mergeSort", desc := "([III[I)V" } : Jvm.MethodName) prog_1_method_8_code (9 : Nat) (Option.none : Option Jvm.ClassFile.FieldType)) ∈ lw_all := lw_g (lw_at lw_m0 89 rfl) rfl
theorem q93 : (Jvm.Cond.methodLink "IntArrays" (34 : Nat) ({ cls := "IntArrays", name := "insertionSort", desc := "([III)V" } : Jvm.MethodName)) ∈ lw_all := lw_g (lw_at lw_m0 90 rfl) rfl
theorem q94 : (Jvm.Cond.static ({ cls := "IntArrays", name := "insertionSort", desc := "([III)V" } : Jvm.MethodName)) ∈ lw_all := lw_g (lw_at lw_m0 91 rfl) rfl
theorem q95 : (Jvm.Cond.code ({ cls := "IntArrays", name := "insertionSort", desc := "([III)V" } : Jvm.MethodName) prog_1_method_5_code (7 : Nat) (Option.none : Option Jvm.ClassFile.FieldType)) ∈ lw_all := lw_g (lw_at lw_m0 92 rfl) rfl
theorem q96 : (Jvm.Cond.methodLink "IntArrays" (37 : Nat) ({ cls := "java/util/Arrays", name := "copyOf", desc := "([II)[I" } : Jvm.MethodName)) ∈ lw_all := lw_g (lw_at lw_m0 93 rfl) rfl
theorem q110 : (Jvm.Cond.methodLink "IntArrays" (47 : Nat) ({ cls := "java/lang/System", name := "arraycopy", desc := "(Ljava/lang/Object;ILjava/lang/Object;II)V" } : Jvm.MethodName)) ∈ lw_all := lw_g (lw_at lw_m0 107 rfl) rfl
theorem q116 : (Jvm.Cond.static ({ cls := "IntArrays", name := "radixSort", desc := "([III)V" } : Jvm.MethodName)) ∈ lw_all := lw_g (lw_at lw_m0 113 rfl) rfl
theorem q117 : (Jvm.Cond.code ({ cls := "IntArrays", name := "radixSort", desc := "([III)V" } : Jvm.MethodName) prog_1_method_11_code (21 : Nat) (Option.none : Option Jvm.ClassFile.FieldType)) ∈ lw_all := lw_g (lw_at lw_m0 114 rfl) rfl
theorem q123 : (Jvm.Cond.static ({ cls := "IntArrays", name := "unstableSort", desc := "([III)V" } : Jvm.MethodName)) ∈ lw_all := lw_g (lw_at lw_m0 120 rfl) rfl
theorem q124 : (Jvm.Cond.code ({ cls := "IntArrays", name := "unstableSort", desc := "([III)V" } : Jvm.MethodName) prog_1_method_7_code (3 : Nat) (Option.none : Option Jvm.ClassFile.FieldType)) ∈ lw_all := lw_g (lw_at lw_m0 121 rfl) rfl
theorem q125 : (Jvm.Cond.methodLink "IntArrays" (31 : Nat) ({ cls := "IntArrays", name := "radixSort", desc := "([III)V" } : Jvm.MethodName)) ∈ lw_all := lw_g (lw_at lw_m0 122 rfl) rfl
theorem q131 : (Jvm.Cond.static ({ cls := "IntArrays", name := "reverse", desc := "([III)[I" } : Jvm.MethodName)) ∈ lw_all := lw_g (lw_at lw_m0 128 rfl) rfl
theorem q132 : (Jvm.Cond.code ({ cls := "IntArrays", name := "reverse", desc := "([III)[I" } : Jvm.MethodName) prog_1_method_12_code (6 : Nat) (Option.some (Jvm.ClassFile.FieldType.array Jvm.ClassFile.FieldType.int))) ∈ lw_all := lw_g (lw_at lw_m0 129 rfl) rfl
theorem q139 : (Jvm.Cond.static ({ cls := "IntArrays", name := "binarySearch", desc := "([IIII)I" } : Jvm.MethodName)) ∈ lw_all := lw_g (lw_at lw_m0 136 rfl) rfl
theorem q140 : (Jvm.Cond.code ({ cls := "IntArrays", name := "binarySearch", desc := "([IIII)I" } : Jvm.MethodName) prog_1_method_10_code (6 : Nat) (Option.some Jvm.ClassFile.FieldType.int)) ∈ lw_all := lw_g (lw_at lw_m0 137 rfl) rfl
end
section
/-! SortDesk -/
set_option maxRecDepth 100000
def RX0 : String := "SortDesk"
def TX0 : u_T := fun k => match k with
  | 0 => ("SortDesk", "row", "[I", true)
  | _ => ("SortDesk", "size", "I", false)
def tyX0 : Nat → FieldType := fun k => match k with
  | 0 => .array .int
  | _ => .int
abbrev wsX00 : List Cond := u_ws RX0 TX0 2
theorem nmX0 : ∀ a, a < 2 → ∀ b, b < 2 → a ≠ b → (TX0 a).2.1 ≠ (TX0 b).2.1 := by decide +kernel
theorem tyX0_ok : ∀ k, k < 2 → parseFieldDescriptor (TX0 k).2.2.1 = some (tyX0 k) := by decide +kernel
abbrev cX0_init : ByteArray := prog_2_method_1_code
def yX0_init : MethodName := ⟨RX0, "<init>", "()V"⟩
def dkwX0_init_0 : List UInt8 := [42, 183, 0, 1, 42, 17, 8, 0, 188, 10, 181, 0, 7, 177]
abbrev dktX0_init_0 : List UInt8 := dkwX0_init_0 ++ []
theorem dksX0_init_0 : cX0_init.data.toList.drop 0 = dktX0_init_0 := by decide +kernel
theorem dX0_init_0 : decode cX0_init 0 = .ok (.aload_n 0, 1) := dk_42 (dk_at dksX0_init_0 0 rfl rfl)
theorem dX0_init_1 : decode cX0_init 1 = .ok (.invokespecial 1, 3) := dk_183 0 1 (dk_at dksX0_init_0 1 rfl rfl)
theorem dX0_init_4 : decode cX0_init 4 = .ok (.aload_n 0, 1) := dk_42 (dk_at dksX0_init_0 4 rfl rfl)
theorem dX0_init_5 : decode cX0_init 5 = .ok (.sipush 2048, 3) := dk_17 8 0 (dk_at dksX0_init_0 5 rfl rfl)
theorem dX0_init_8 : decode cX0_init 8 = .ok (.newarray .int, 2) := dk_188_10 (dk_at dksX0_init_0 8 rfl rfl)
theorem dX0_init_10 : decode cX0_init 10 = .ok (.putfield 7, 3) := dk_181 0 7 (dk_at dksX0_init_0 10 rfl rfl)
theorem dX0_init_13 : decode cX0_init 13 = .ok (.return_, 1) := dk_177 (dk_at dksX0_init_0 13 rfl rfl)
abbrev cX0_put : ByteArray := prog_2_method_2_code
def yX0_put : MethodName := ⟨RX0, "put", "(IIII)Z"⟩
def dkwX0_put_3 : List UInt8 := [181, 0, 13, 4, 172]
abbrev dktX0_put_3 : List UInt8 := dkwX0_put_3 ++ []
def dkwX0_put_2 : List UInt8 := [29, 79, 42, 180, 0, 7, 42, 180, 0, 13, 6, 96, 21, 4, 79, 42, 89, 180, 0, 13, 7, 96]
abbrev dktX0_put_2 : List UInt8 := dkwX0_put_2 ++ dktX0_put_3
def dkwX0_put_1 : List UInt8 := [27, 79, 42, 180, 0, 7, 42, 180, 0, 13, 4, 96, 28, 79, 42, 180, 0, 7, 42, 180, 0, 13, 5, 96]
abbrev dktX0_put_1 : List UInt8 := dkwX0_put_1 ++ dktX0_put_2
def dkwX0_put_0 : List UInt8 := [42, 180, 0, 13, 42, 180, 0, 7, 190, 7, 100, 164, 0, 5, 3, 172, 42, 180, 0, 7, 42, 180, 0, 13]
abbrev dktX0_put_0 : List UInt8 := dkwX0_put_0 ++ dktX0_put_1
theorem dksX0_put_0 : cX0_put.data.toList.drop 0 = dktX0_put_0 := by decide +kernel
theorem dksX0_put_1 : cX0_put.data.toList.drop 24 = dktX0_put_1 := dk_seg dksX0_put_0 24 rfl rfl
theorem dksX0_put_2 : cX0_put.data.toList.drop 48 = dktX0_put_2 := dk_seg dksX0_put_1 24 rfl rfl
theorem dksX0_put_3 : cX0_put.data.toList.drop 70 = dktX0_put_3 := dk_seg dksX0_put_2 22 rfl rfl
theorem dX0_put_0 : decode cX0_put 0 = .ok (.aload_n 0, 1) := dk_42 (dk_at dksX0_put_0 0 rfl rfl)
theorem dX0_put_1 : decode cX0_put 1 = .ok (.getfield 13, 3) := dk_180 0 13 (dk_at dksX0_put_0 1 rfl rfl)
theorem dX0_put_4 : decode cX0_put 4 = .ok (.aload_n 0, 1) := dk_42 (dk_at dksX0_put_0 4 rfl rfl)
theorem dX0_put_5 : decode cX0_put 5 = .ok (.getfield 7, 3) := dk_180 0 7 (dk_at dksX0_put_0 5 rfl rfl)
theorem dX0_put_8 : decode cX0_put 8 = .ok (.arraylength, 1) := dk_190 (dk_at dksX0_put_0 8 rfl rfl)
theorem dX0_put_9 : decode cX0_put 9 = .ok (.iconst 4, 1) := dk_7 (dk_at dksX0_put_0 9 rfl rfl)
theorem dX0_put_10 : decode cX0_put 10 = .ok (.isub, 1) := dk_100 (dk_at dksX0_put_0 10 rfl rfl)
theorem dX0_put_11 : decode cX0_put 11 = .ok (.if_icmp .le 5, 3) := dk_164 0 5 (dk_at dksX0_put_0 11 rfl rfl)
theorem dX0_put_14 : decode cX0_put 14 = .ok (.iconst 0, 1) := dk_3 (dk_at dksX0_put_0 14 rfl rfl)
theorem dX0_put_15 : decode cX0_put 15 = .ok (.ireturn, 1) := dk_172 (dk_at dksX0_put_0 15 rfl rfl)
theorem dX0_put_16 : decode cX0_put 16 = .ok (.aload_n 0, 1) := dk_42 (dk_at dksX0_put_0 16 rfl rfl)
theorem dX0_put_17 : decode cX0_put 17 = .ok (.getfield 7, 3) := dk_180 0 7 (dk_at dksX0_put_0 17 rfl rfl)
theorem dX0_put_20 : decode cX0_put 20 = .ok (.aload_n 0, 1) := dk_42 (dk_at dksX0_put_0 20 rfl rfl)
theorem dX0_put_21 : decode cX0_put 21 = .ok (.getfield 13, 3) := dk_180 0 13 (dk_at dksX0_put_0 21 rfl rfl)
theorem dX0_put_24 : decode cX0_put 24 = .ok (.iload_n 1, 1) := dk_27 (dk_at dksX0_put_1 0 rfl rfl)
theorem dX0_put_25 : decode cX0_put 25 = .ok (.iastore, 1) := dk_79 (dk_at dksX0_put_1 1 rfl rfl)
theorem dX0_put_26 : decode cX0_put 26 = .ok (.aload_n 0, 1) := dk_42 (dk_at dksX0_put_1 2 rfl rfl)
theorem dX0_put_27 : decode cX0_put 27 = .ok (.getfield 7, 3) := dk_180 0 7 (dk_at dksX0_put_1 3 rfl rfl)
theorem dX0_put_30 : decode cX0_put 30 = .ok (.aload_n 0, 1) := dk_42 (dk_at dksX0_put_1 6 rfl rfl)
theorem dX0_put_31 : decode cX0_put 31 = .ok (.getfield 13, 3) := dk_180 0 13 (dk_at dksX0_put_1 7 rfl rfl)
theorem dX0_put_34 : decode cX0_put 34 = .ok (.iconst 1, 1) := dk_4 (dk_at dksX0_put_1 10 rfl rfl)
theorem dX0_put_35 : decode cX0_put 35 = .ok (.iadd, 1) := dk_96 (dk_at dksX0_put_1 11 rfl rfl)
theorem dX0_put_36 : decode cX0_put 36 = .ok (.iload_n 2, 1) := dk_28 (dk_at dksX0_put_1 12 rfl rfl)
theorem dX0_put_37 : decode cX0_put 37 = .ok (.iastore, 1) := dk_79 (dk_at dksX0_put_1 13 rfl rfl)
theorem dX0_put_38 : decode cX0_put 38 = .ok (.aload_n 0, 1) := dk_42 (dk_at dksX0_put_1 14 rfl rfl)
theorem dX0_put_39 : decode cX0_put 39 = .ok (.getfield 7, 3) := dk_180 0 7 (dk_at dksX0_put_1 15 rfl rfl)
theorem dX0_put_42 : decode cX0_put 42 = .ok (.aload_n 0, 1) := dk_42 (dk_at dksX0_put_1 18 rfl rfl)
theorem dX0_put_43 : decode cX0_put 43 = .ok (.getfield 13, 3) := dk_180 0 13 (dk_at dksX0_put_1 19 rfl rfl)
theorem dX0_put_46 : decode cX0_put 46 = .ok (.iconst 2, 1) := dk_5 (dk_at dksX0_put_1 22 rfl rfl)
theorem dX0_put_47 : decode cX0_put 47 = .ok (.iadd, 1) := dk_96 (dk_at dksX0_put_1 23 rfl rfl)
theorem dX0_put_48 : decode cX0_put 48 = .ok (.iload_n 3, 1) := dk_29 (dk_at dksX0_put_2 0 rfl rfl)
theorem dX0_put_49 : decode cX0_put 49 = .ok (.iastore, 1) := dk_79 (dk_at dksX0_put_2 1 rfl rfl)
theorem dX0_put_50 : decode cX0_put 50 = .ok (.aload_n 0, 1) := dk_42 (dk_at dksX0_put_2 2 rfl rfl)
theorem dX0_put_51 : decode cX0_put 51 = .ok (.getfield 7, 3) := dk_180 0 7 (dk_at dksX0_put_2 3 rfl rfl)
theorem dX0_put_54 : decode cX0_put 54 = .ok (.aload_n 0, 1) := dk_42 (dk_at dksX0_put_2 6 rfl rfl)
theorem dX0_put_55 : decode cX0_put 55 = .ok (.getfield 13, 3) := dk_180 0 13 (dk_at dksX0_put_2 7 rfl rfl)
theorem dX0_put_58 : decode cX0_put 58 = .ok (.iconst 3, 1) := dk_6 (dk_at dksX0_put_2 10 rfl rfl)
theorem dX0_put_59 : decode cX0_put 59 = .ok (.iadd, 1) := dk_96 (dk_at dksX0_put_2 11 rfl rfl)
theorem dX0_put_60 : decode cX0_put 60 = .ok (.iload 4, 2) := dk_21 4 (dk_at dksX0_put_2 12 rfl rfl)
theorem dX0_put_62 : decode cX0_put 62 = .ok (.iastore, 1) := dk_79 (dk_at dksX0_put_2 14 rfl rfl)
theorem dX0_put_63 : decode cX0_put 63 = .ok (.aload_n 0, 1) := dk_42 (dk_at dksX0_put_2 15 rfl rfl)
theorem dX0_put_64 : decode cX0_put 64 = .ok (.dup, 1) := dk_89 (dk_at dksX0_put_2 16 rfl rfl)
theorem dX0_put_65 : decode cX0_put 65 = .ok (.getfield 13, 3) := dk_180 0 13 (dk_at dksX0_put_2 17 rfl rfl)
theorem dX0_put_68 : decode cX0_put 68 = .ok (.iconst 4, 1) := dk_7 (dk_at dksX0_put_2 20 rfl rfl)
theorem dX0_put_69 : decode cX0_put 69 = .ok (.iadd, 1) := dk_96 (dk_at dksX0_put_2 21 rfl rfl)
theorem dX0_put_70 : decode cX0_put 70 = .ok (.putfield 13, 3) := dk_181 0 13 (dk_at dksX0_put_3 0 rfl rfl)
theorem dX0_put_73 : decode cX0_put 73 = .ok (.iconst 1, 1) := dk_4 (dk_at dksX0_put_3 3 rfl rfl)
theorem dX0_put_74 : decode cX0_put 74 = .ok (.ireturn, 1) := dk_172 (dk_at dksX0_put_3 4 rfl rfl)
abbrev cX0_fill : ByteArray := prog_2_method_3_code
def yX0_fill : MethodName := ⟨RX0, "fill", "(III)I"⟩
def dkwX0_fill_3 : List UInt8 := [167, 255, 228, 42, 89, 180, 0, 13, 21, 4, 96, 181, 0, 13, 21, 4, 172]
abbrev dktX0_fill_3 : List UInt8 := dkwX0_fill_3 ++ []
def dkwX0_fill_2 : List UInt8 := [162, 0, 27, 42, 180, 0, 7, 42, 180, 0, 13, 21, 5, 96, 27, 28, 21, 5, 104, 96, 79, 132, 5, 1]
abbrev dktX0_fill_2 : List UInt8 := dkwX0_fill_2 ++ dktX0_fill_3
def dkwX0_fill_1 : List UInt8 := [164, 0, 15, 42, 180, 0, 7, 190, 42, 180, 0, 13, 100, 54, 4, 3, 54, 5, 21, 5, 21, 4]
abbrev dktX0_fill_1 : List UInt8 := dkwX0_fill_1 ++ dktX0_fill_2
def dkwX0_fill_0 : List UInt8 := [29, 18, 17, 126, 17, 2, 1, 112, 54, 4, 21, 4, 42, 180, 0, 7, 190, 42, 180, 0, 13, 100]
abbrev dktX0_fill_0 : List UInt8 := dkwX0_fill_0 ++ dktX0_fill_1
theorem dksX0_fill_0 : cX0_fill.data.toList.drop 0 = dktX0_fill_0 := by decide +kernel
theorem dksX0_fill_1 : cX0_fill.data.toList.drop 22 = dktX0_fill_1 := dk_seg dksX0_fill_0 22 rfl rfl
theorem dksX0_fill_2 : cX0_fill.data.toList.drop 44 = dktX0_fill_2 := dk_seg dksX0_fill_1 22 rfl rfl
theorem dksX0_fill_3 : cX0_fill.data.toList.drop 68 = dktX0_fill_3 := dk_seg dksX0_fill_2 24 rfl rfl
theorem dX0_fill_0 : decode cX0_fill 0 = .ok (.iload_n 3, 1) := dk_29 (dk_at dksX0_fill_0 0 rfl rfl)
theorem dX0_fill_1 : decode cX0_fill 1 = .ok (.ldc 17, 2) := dk_18 17 (dk_at dksX0_fill_0 1 rfl rfl)
theorem dX0_fill_3 : decode cX0_fill 3 = .ok (.iand, 1) := dk_126 (dk_at dksX0_fill_0 3 rfl rfl)
theorem dX0_fill_4 : decode cX0_fill 4 = .ok (.sipush 513, 3) := dk_17 2 1 (dk_at dksX0_fill_0 4 rfl rfl)
theorem dX0_fill_7 : decode cX0_fill 7 = .ok (.irem, 1) := dk_112 (dk_at dksX0_fill_0 7 rfl rfl)
theorem dX0_fill_8 : decode cX0_fill 8 = .ok (.istore 4, 2) := dk_54 4 (dk_at dksX0_fill_0 8 rfl rfl)
theorem dX0_fill_10 : decode cX0_fill 10 = .ok (.iload 4, 2) := dk_21 4 (dk_at dksX0_fill_0 10 rfl rfl)
theorem dX0_fill_12 : decode cX0_fill 12 = .ok (.aload_n 0, 1) := dk_42 (dk_at dksX0_fill_0 12 rfl rfl)
theorem dX0_fill_13 : decode cX0_fill 13 = .ok (.getfield 7, 3) := dk_180 0 7 (dk_at dksX0_fill_0 13 rfl rfl)
theorem dX0_fill_16 : decode cX0_fill 16 = .ok (.arraylength, 1) := dk_190 (dk_at dksX0_fill_0 16 rfl rfl)
theorem dX0_fill_17 : decode cX0_fill 17 = .ok (.aload_n 0, 1) := dk_42 (dk_at dksX0_fill_0 17 rfl rfl)
theorem dX0_fill_18 : decode cX0_fill 18 = .ok (.getfield 13, 3) := dk_180 0 13 (dk_at dksX0_fill_0 18 rfl rfl)
theorem dX0_fill_21 : decode cX0_fill 21 = .ok (.isub, 1) := dk_100 (dk_at dksX0_fill_0 21 rfl rfl)
theorem dX0_fill_22 : decode cX0_fill 22 = .ok (.if_icmp .le 15, 3) := dk_164 0 15 (dk_at dksX0_fill_1 0 rfl rfl)
theorem dX0_fill_25 : decode cX0_fill 25 = .ok (.aload_n 0, 1) := dk_42 (dk_at dksX0_fill_1 3 rfl rfl)
theorem dX0_fill_26 : decode cX0_fill 26 = .ok (.getfield 7, 3) := dk_180 0 7 (dk_at dksX0_fill_1 4 rfl rfl)
theorem dX0_fill_29 : decode cX0_fill 29 = .ok (.arraylength, 1) := dk_190 (dk_at dksX0_fill_1 7 rfl rfl)
theorem dX0_fill_30 : decode cX0_fill 30 = .ok (.aload_n 0, 1) := dk_42 (dk_at dksX0_fill_1 8 rfl rfl)
theorem dX0_fill_31 : decode cX0_fill 31 = .ok (.getfield 13, 3) := dk_180 0 13 (dk_at dksX0_fill_1 9 rfl rfl)
theorem dX0_fill_34 : decode cX0_fill 34 = .ok (.isub, 1) := dk_100 (dk_at dksX0_fill_1 12 rfl rfl)
theorem dX0_fill_35 : decode cX0_fill 35 = .ok (.istore 4, 2) := dk_54 4 (dk_at dksX0_fill_1 13 rfl rfl)
theorem dX0_fill_37 : decode cX0_fill 37 = .ok (.iconst 0, 1) := dk_3 (dk_at dksX0_fill_1 15 rfl rfl)
theorem dX0_fill_38 : decode cX0_fill 38 = .ok (.istore 5, 2) := dk_54 5 (dk_at dksX0_fill_1 16 rfl rfl)
theorem dX0_fill_40 : decode cX0_fill 40 = .ok (.iload 5, 2) := dk_21 5 (dk_at dksX0_fill_1 18 rfl rfl)
theorem dX0_fill_42 : decode cX0_fill 42 = .ok (.iload 4, 2) := dk_21 4 (dk_at dksX0_fill_1 20 rfl rfl)
theorem dX0_fill_44 : decode cX0_fill 44 = .ok (.if_icmp .ge 27, 3) := dk_162 0 27 (dk_at dksX0_fill_2 0 rfl rfl)
theorem dX0_fill_47 : decode cX0_fill 47 = .ok (.aload_n 0, 1) := dk_42 (dk_at dksX0_fill_2 3 rfl rfl)
theorem dX0_fill_48 : decode cX0_fill 48 = .ok (.getfield 7, 3) := dk_180 0 7 (dk_at dksX0_fill_2 4 rfl rfl)
theorem dX0_fill_51 : decode cX0_fill 51 = .ok (.aload_n 0, 1) := dk_42 (dk_at dksX0_fill_2 7 rfl rfl)
theorem dX0_fill_52 : decode cX0_fill 52 = .ok (.getfield 13, 3) := dk_180 0 13 (dk_at dksX0_fill_2 8 rfl rfl)
theorem dX0_fill_55 : decode cX0_fill 55 = .ok (.iload 5, 2) := dk_21 5 (dk_at dksX0_fill_2 11 rfl rfl)
theorem dX0_fill_57 : decode cX0_fill 57 = .ok (.iadd, 1) := dk_96 (dk_at dksX0_fill_2 13 rfl rfl)
theorem dX0_fill_58 : decode cX0_fill 58 = .ok (.iload_n 1, 1) := dk_27 (dk_at dksX0_fill_2 14 rfl rfl)
theorem dX0_fill_59 : decode cX0_fill 59 = .ok (.iload_n 2, 1) := dk_28 (dk_at dksX0_fill_2 15 rfl rfl)
theorem dX0_fill_60 : decode cX0_fill 60 = .ok (.iload 5, 2) := dk_21 5 (dk_at dksX0_fill_2 16 rfl rfl)
theorem dX0_fill_62 : decode cX0_fill 62 = .ok (.imul, 1) := dk_104 (dk_at dksX0_fill_2 18 rfl rfl)
theorem dX0_fill_63 : decode cX0_fill 63 = .ok (.iadd, 1) := dk_96 (dk_at dksX0_fill_2 19 rfl rfl)
theorem dX0_fill_64 : decode cX0_fill 64 = .ok (.iastore, 1) := dk_79 (dk_at dksX0_fill_2 20 rfl rfl)
theorem dX0_fill_65 : decode cX0_fill 65 = .ok (.iinc 5 1, 3) := dk_132 5 1 (dk_at dksX0_fill_2 21 rfl rfl)
theorem dX0_fill_68 : decode cX0_fill 68 = .ok (.goto (-28), 3) := dk_167 255 228 (dk_at dksX0_fill_3 0 rfl rfl)
theorem dX0_fill_71 : decode cX0_fill 71 = .ok (.aload_n 0, 1) := dk_42 (dk_at dksX0_fill_3 3 rfl rfl)
theorem dX0_fill_72 : decode cX0_fill 72 = .ok (.dup, 1) := dk_89 (dk_at dksX0_fill_3 4 rfl rfl)
theorem dX0_fill_73 : decode cX0_fill 73 = .ok (.getfield 13, 3) := dk_180 0 13 (dk_at dksX0_fill_3 5 rfl rfl)
theorem dX0_fill_76 : decode cX0_fill 76 = .ok (.iload 4, 2) := dk_21 4 (dk_at dksX0_fill_3 8 rfl rfl)
theorem dX0_fill_78 : decode cX0_fill 78 = .ok (.iadd, 1) := dk_96 (dk_at dksX0_fill_3 10 rfl rfl)
theorem dX0_fill_79 : decode cX0_fill 79 = .ok (.putfield 13, 3) := dk_181 0 13 (dk_at dksX0_fill_3 11 rfl rfl)
theorem dX0_fill_82 : decode cX0_fill 82 = .ok (.iload 4, 2) := dk_21 4 (dk_at dksX0_fill_3 14 rfl rfl)
theorem dX0_fill_84 : decode cX0_fill 84 = .ok (.ireturn, 1) := dk_172 (dk_at dksX0_fill_3 16 rfl rfl)
abbrev cX0_trim : ByteArray := prog_2_method_4_code
def yX0_trim : MethodName := ⟨RX0, "trim", "(I)V"⟩
def dkwX0_trim_0 : List UInt8 := [42, 27, 18, 17, 126, 42, 180, 0, 13, 4, 96, 112, 181, 0, 13, 177]
abbrev dktX0_trim_0 : List UInt8 := dkwX0_trim_0 ++ []
theorem dksX0_trim_0 : cX0_trim.data.toList.drop 0 = dktX0_trim_0 := by decide +kernel
theorem dX0_trim_0 : decode cX0_trim 0 = .ok (.aload_n 0, 1) := dk_42 (dk_at dksX0_trim_0 0 rfl rfl)
theorem dX0_trim_1 : decode cX0_trim 1 = .ok (.iload_n 1, 1) := dk_27 (dk_at dksX0_trim_0 1 rfl rfl)
theorem dX0_trim_2 : decode cX0_trim 2 = .ok (.ldc 17, 2) := dk_18 17 (dk_at dksX0_trim_0 2 rfl rfl)
theorem dX0_trim_4 : decode cX0_trim 4 = .ok (.iand, 1) := dk_126 (dk_at dksX0_trim_0 4 rfl rfl)
theorem dX0_trim_5 : decode cX0_trim 5 = .ok (.aload_n 0, 1) := dk_42 (dk_at dksX0_trim_0 5 rfl rfl)
theorem dX0_trim_6 : decode cX0_trim 6 = .ok (.getfield 13, 3) := dk_180 0 13 (dk_at dksX0_trim_0 6 rfl rfl)
theorem dX0_trim_9 : decode cX0_trim 9 = .ok (.iconst 1, 1) := dk_4 (dk_at dksX0_trim_0 9 rfl rfl)
theorem dX0_trim_10 : decode cX0_trim 10 = .ok (.iadd, 1) := dk_96 (dk_at dksX0_trim_0 10 rfl rfl)
theorem dX0_trim_11 : decode cX0_trim 11 = .ok (.irem, 1) := dk_112 (dk_at dksX0_trim_0 11 rfl rfl)
theorem dX0_trim_12 : decode cX0_trim 12 = .ok (.putfield 13, 3) := dk_181 0 13 (dk_at dksX0_trim_0 12 rfl rfl)
theorem dX0_trim_15 : decode cX0_trim 15 = .ok (.return_, 1) := dk_177 (dk_at dksX0_trim_0 15 rfl rfl)
abbrev cX0_size : ByteArray := prog_2_method_5_code
def yX0_size : MethodName := ⟨RX0, "size", "()I"⟩
theorem dX0_size_0 : decode cX0_size 0 = .ok (.aload_n 0, 1) := by decide +kernel
theorem dX0_size_1 : decode cX0_size 1 = .ok (.getfield 13, 3) := by decide +kernel
theorem dX0_size_4 : decode cX0_size 4 = .ok (.ireturn, 1) := by decide +kernel
abbrev cX0_at : ByteArray := prog_2_method_6_code
def yX0_at : MethodName := ⟨RX0, "at", "(I)I"⟩
def dkwX0_at_1 : List UInt8 := [46, 172]
abbrev dktX0_at_1 : List UInt8 := dkwX0_at_1 ++ []
def dkwX0_at_0 : List UInt8 := [42, 180, 0, 13, 154, 0, 7, 3, 167, 0, 17, 42, 180, 0, 7, 27, 18, 17, 126, 42, 180, 0, 13, 112]
abbrev dktX0_at_0 : List UInt8 := dkwX0_at_0 ++ dktX0_at_1
theorem dksX0_at_0 : cX0_at.data.toList.drop 0 = dktX0_at_0 := by decide +kernel
theorem dksX0_at_1 : cX0_at.data.toList.drop 24 = dktX0_at_1 := dk_seg dksX0_at_0 24 rfl rfl
theorem dX0_at_0 : decode cX0_at 0 = .ok (.aload_n 0, 1) := dk_42 (dk_at dksX0_at_0 0 rfl rfl)
theorem dX0_at_1 : decode cX0_at 1 = .ok (.getfield 13, 3) := dk_180 0 13 (dk_at dksX0_at_0 1 rfl rfl)
theorem dX0_at_4 : decode cX0_at 4 = .ok (.ifCond .ne 7, 3) := dk_154 0 7 (dk_at dksX0_at_0 4 rfl rfl)
theorem dX0_at_7 : decode cX0_at 7 = .ok (.iconst 0, 1) := dk_3 (dk_at dksX0_at_0 7 rfl rfl)
theorem dX0_at_8 : decode cX0_at 8 = .ok (.goto 17, 3) := dk_167 0 17 (dk_at dksX0_at_0 8 rfl rfl)
theorem dX0_at_11 : decode cX0_at 11 = .ok (.aload_n 0, 1) := dk_42 (dk_at dksX0_at_0 11 rfl rfl)
theorem dX0_at_12 : decode cX0_at 12 = .ok (.getfield 7, 3) := dk_180 0 7 (dk_at dksX0_at_0 12 rfl rfl)
theorem dX0_at_15 : decode cX0_at 15 = .ok (.iload_n 1, 1) := dk_27 (dk_at dksX0_at_0 15 rfl rfl)
theorem dX0_at_16 : decode cX0_at 16 = .ok (.ldc 17, 2) := dk_18 17 (dk_at dksX0_at_0 16 rfl rfl)
theorem dX0_at_18 : decode cX0_at 18 = .ok (.iand, 1) := dk_126 (dk_at dksX0_at_0 18 rfl rfl)
theorem dX0_at_19 : decode cX0_at 19 = .ok (.aload_n 0, 1) := dk_42 (dk_at dksX0_at_0 19 rfl rfl)
theorem dX0_at_20 : decode cX0_at 20 = .ok (.getfield 13, 3) := dk_180 0 13 (dk_at dksX0_at_0 20 rfl rfl)
theorem dX0_at_23 : decode cX0_at 23 = .ok (.irem, 1) := dk_112 (dk_at dksX0_at_0 23 rfl rfl)
theorem dX0_at_24 : decode cX0_at 24 = .ok (.iaload, 1) := dk_46 (dk_at dksX0_at_1 0 rfl rfl)
theorem dX0_at_25 : decode cX0_at 25 = .ok (.ireturn, 1) := dk_172 (dk_at dksX0_at_1 1 rfl rfl)
abbrev cX0_quick : ByteArray := prog_2_method_9_code
def yX0_quick : MethodName := ⟨RX0, "quick", "(II)V"⟩
def dkwX0_quick_0 : List UInt8 := [42, 27, 182, 0, 18, 62, 42, 180, 0, 7, 29, 42, 29, 28, 182, 0, 22, 184, 0, 26, 177]
abbrev dktX0_quick_0 : List UInt8 := dkwX0_quick_0 ++ []
theorem dksX0_quick_0 : cX0_quick.data.toList.drop 0 = dktX0_quick_0 := by decide +kernel
theorem dX0_quick_0 : decode cX0_quick 0 = .ok (.aload_n 0, 1) := dk_42 (dk_at dksX0_quick_0 0 rfl rfl)
theorem dX0_quick_1 : decode cX0_quick 1 = .ok (.iload_n 1, 1) := dk_27 (dk_at dksX0_quick_0 1 rfl rfl)
theorem dX0_quick_2 : decode cX0_quick 2 = .ok (.invokevirtual 18, 3) := dk_182 0 18 (dk_at dksX0_quick_0 2 rfl rfl)
theorem dX0_quick_5 : decode cX0_quick 5 = .ok (.istore_n 3, 1) := dk_62 (dk_at dksX0_quick_0 5 rfl rfl)
theorem dX0_quick_6 : decode cX0_quick 6 = .ok (.aload_n 0, 1) := dk_42 (dk_at dksX0_quick_0 6 rfl rfl)
theorem dX0_quick_7 : decode cX0_quick 7 = .ok (.getfield 7, 3) := dk_180 0 7 (dk_at dksX0_quick_0 7 rfl rfl)
theorem dX0_quick_10 : decode cX0_quick 10 = .ok (.iload_n 3, 1) := dk_29 (dk_at dksX0_quick_0 10 rfl rfl)
theorem dX0_quick_11 : decode cX0_quick 11 = .ok (.aload_n 0, 1) := dk_42 (dk_at dksX0_quick_0 11 rfl rfl)
theorem dX0_quick_12 : decode cX0_quick 12 = .ok (.iload_n 3, 1) := dk_29 (dk_at dksX0_quick_0 12 rfl rfl)
theorem dX0_quick_13 : decode cX0_quick 13 = .ok (.iload_n 2, 1) := dk_28 (dk_at dksX0_quick_0 13 rfl rfl)
theorem dX0_quick_14 : decode cX0_quick 14 = .ok (.invokevirtual 22, 3) := dk_182 0 22 (dk_at dksX0_quick_0 14 rfl rfl)
theorem dX0_quick_17 : decode cX0_quick 17 = .ok (.invokestatic 26, 3) := dk_184 0 26 (dk_at dksX0_quick_0 17 rfl rfl)
theorem dX0_quick_20 : decode cX0_quick 20 = .ok (.return_, 1) := dk_177 (dk_at dksX0_quick_0 20 rfl rfl)
abbrev cX0_from : ByteArray := prog_2_method_7_code
def yX0_from : MethodName := ⟨RX0, "from", "(I)I"⟩
def dkwX0_from_0 : List UInt8 := [27, 18, 17, 126, 42, 180, 0, 13, 4, 96, 112, 172]
abbrev dktX0_from_0 : List UInt8 := dkwX0_from_0 ++ []
theorem dksX0_from_0 : cX0_from.data.toList.drop 0 = dktX0_from_0 := by decide +kernel
theorem dX0_from_0 : decode cX0_from 0 = .ok (.iload_n 1, 1) := dk_27 (dk_at dksX0_from_0 0 rfl rfl)
theorem dX0_from_1 : decode cX0_from 1 = .ok (.ldc 17, 2) := dk_18 17 (dk_at dksX0_from_0 1 rfl rfl)
theorem dX0_from_3 : decode cX0_from 3 = .ok (.iand, 1) := dk_126 (dk_at dksX0_from_0 3 rfl rfl)
theorem dX0_from_4 : decode cX0_from 4 = .ok (.aload_n 0, 1) := dk_42 (dk_at dksX0_from_0 4 rfl rfl)
theorem dX0_from_5 : decode cX0_from 5 = .ok (.getfield 13, 3) := dk_180 0 13 (dk_at dksX0_from_0 5 rfl rfl)
theorem dX0_from_8 : decode cX0_from 8 = .ok (.iconst 1, 1) := dk_4 (dk_at dksX0_from_0 8 rfl rfl)
theorem dX0_from_9 : decode cX0_from 9 = .ok (.iadd, 1) := dk_96 (dk_at dksX0_from_0 9 rfl rfl)
theorem dX0_from_10 : decode cX0_from 10 = .ok (.irem, 1) := dk_112 (dk_at dksX0_from_0 10 rfl rfl)
theorem dX0_from_11 : decode cX0_from 11 = .ok (.ireturn, 1) := dk_172 (dk_at dksX0_from_0 11 rfl rfl)
abbrev cX0_to : ByteArray := prog_2_method_8_code
def yX0_to : MethodName := ⟨RX0, "to", "(II)I"⟩
def dkwX0_to_0 : List UInt8 := [27, 28, 18, 17, 126, 42, 180, 0, 13, 27, 100, 4, 96, 112, 96, 172]
abbrev dktX0_to_0 : List UInt8 := dkwX0_to_0 ++ []
theorem dksX0_to_0 : cX0_to.data.toList.drop 0 = dktX0_to_0 := by decide +kernel
theorem dX0_to_0 : decode cX0_to 0 = .ok (.iload_n 1, 1) := dk_27 (dk_at dksX0_to_0 0 rfl rfl)
theorem dX0_to_1 : decode cX0_to 1 = .ok (.iload_n 2, 1) := dk_28 (dk_at dksX0_to_0 1 rfl rfl)
theorem dX0_to_2 : decode cX0_to 2 = .ok (.ldc 17, 2) := dk_18 17 (dk_at dksX0_to_0 2 rfl rfl)
theorem dX0_to_4 : decode cX0_to 4 = .ok (.iand, 1) := dk_126 (dk_at dksX0_to_0 4 rfl rfl)
theorem dX0_to_5 : decode cX0_to 5 = .ok (.aload_n 0, 1) := dk_42 (dk_at dksX0_to_0 5 rfl rfl)
theorem dX0_to_6 : decode cX0_to 6 = .ok (.getfield 13, 3) := dk_180 0 13 (dk_at dksX0_to_0 6 rfl rfl)
theorem dX0_to_9 : decode cX0_to 9 = .ok (.iload_n 1, 1) := dk_27 (dk_at dksX0_to_0 9 rfl rfl)
theorem dX0_to_10 : decode cX0_to 10 = .ok (.isub, 1) := dk_100 (dk_at dksX0_to_0 10 rfl rfl)
theorem dX0_to_11 : decode cX0_to 11 = .ok (.iconst 1, 1) := dk_4 (dk_at dksX0_to_0 11 rfl rfl)
theorem dX0_to_12 : decode cX0_to 12 = .ok (.iadd, 1) := dk_96 (dk_at dksX0_to_0 12 rfl rfl)
theorem dX0_to_13 : decode cX0_to 13 = .ok (.irem, 1) := dk_112 (dk_at dksX0_to_0 13 rfl rfl)
theorem dX0_to_14 : decode cX0_to 14 = .ok (.iadd, 1) := dk_96 (dk_at dksX0_to_0 14 rfl rfl)
theorem dX0_to_15 : decode cX0_to 15 = .ok (.ireturn, 1) := dk_172 (dk_at dksX0_to_0 15 rfl rfl)
abbrev cX0_merge : ByteArray := prog_2_method_10_code
def yX0_merge : MethodName := ⟨RX0, "merge", "(II)V"⟩
def dkwX0_merge_0 : List UInt8 := [42, 27, 182, 0, 18, 62, 42, 180, 0, 7, 29, 42, 29, 28, 182, 0, 22, 184, 0, 32, 177]
abbrev dktX0_merge_0 : List UInt8 := dkwX0_merge_0 ++ []
theorem dksX0_merge_0 : cX0_merge.data.toList.drop 0 = dktX0_merge_0 := by decide +kernel
theorem dX0_merge_0 : decode cX0_merge 0 = .ok (.aload_n 0, 1) := dk_42 (dk_at dksX0_merge_0 0 rfl rfl)
theorem dX0_merge_1 : decode cX0_merge 1 = .ok (.iload_n 1, 1) := dk_27 (dk_at dksX0_merge_0 1 rfl rfl)
theorem dX0_merge_2 : decode cX0_merge 2 = .ok (.invokevirtual 18, 3) := dk_182 0 18 (dk_at dksX0_merge_0 2 rfl rfl)
theorem dX0_merge_5 : decode cX0_merge 5 = .ok (.istore_n 3, 1) := dk_62 (dk_at dksX0_merge_0 5 rfl rfl)
theorem dX0_merge_6 : decode cX0_merge 6 = .ok (.aload_n 0, 1) := dk_42 (dk_at dksX0_merge_0 6 rfl rfl)
theorem dX0_merge_7 : decode cX0_merge 7 = .ok (.getfield 7, 3) := dk_180 0 7 (dk_at dksX0_merge_0 7 rfl rfl)
theorem dX0_merge_10 : decode cX0_merge 10 = .ok (.iload_n 3, 1) := dk_29 (dk_at dksX0_merge_0 10 rfl rfl)
theorem dX0_merge_11 : decode cX0_merge 11 = .ok (.aload_n 0, 1) := dk_42 (dk_at dksX0_merge_0 11 rfl rfl)
theorem dX0_merge_12 : decode cX0_merge 12 = .ok (.iload_n 3, 1) := dk_29 (dk_at dksX0_merge_0 12 rfl rfl)
theorem dX0_merge_13 : decode cX0_merge 13 = .ok (.iload_n 2, 1) := dk_28 (dk_at dksX0_merge_0 13 rfl rfl)
theorem dX0_merge_14 : decode cX0_merge 14 = .ok (.invokevirtual 22, 3) := dk_182 0 22 (dk_at dksX0_merge_0 14 rfl rfl)
theorem dX0_merge_17 : decode cX0_merge 17 = .ok (.invokestatic 32, 3) := dk_184 0 32 (dk_at dksX0_merge_0 17 rfl rfl)
theorem dX0_merge_20 : decode cX0_merge 20 = .ok (.return_, 1) := dk_177 (dk_at dksX0_merge_0 20 rfl rfl)
abbrev cX0_radix : ByteArray := prog_2_method_11_code
def yX0_radix : MethodName := ⟨RX0, "radix", "(II)V"⟩
def dkwX0_radix_0 : List UInt8 := [42, 27, 182, 0, 18, 62, 42, 180, 0, 7, 29, 42, 29, 28, 182, 0, 22, 184, 0, 35, 177]
abbrev dktX0_radix_0 : List UInt8 := dkwX0_radix_0 ++ []
theorem dksX0_radix_0 : cX0_radix.data.toList.drop 0 = dktX0_radix_0 := by decide +kernel
theorem dX0_radix_0 : decode cX0_radix 0 = .ok (.aload_n 0, 1) := dk_42 (dk_at dksX0_radix_0 0 rfl rfl)
theorem dX0_radix_1 : decode cX0_radix 1 = .ok (.iload_n 1, 1) := dk_27 (dk_at dksX0_radix_0 1 rfl rfl)
theorem dX0_radix_2 : decode cX0_radix 2 = .ok (.invokevirtual 18, 3) := dk_182 0 18 (dk_at dksX0_radix_0 2 rfl rfl)
theorem dX0_radix_5 : decode cX0_radix 5 = .ok (.istore_n 3, 1) := dk_62 (dk_at dksX0_radix_0 5 rfl rfl)
theorem dX0_radix_6 : decode cX0_radix 6 = .ok (.aload_n 0, 1) := dk_42 (dk_at dksX0_radix_0 6 rfl rfl)
theorem dX0_radix_7 : decode cX0_radix 7 = .ok (.getfield 7, 3) := dk_180 0 7 (dk_at dksX0_radix_0 7 rfl rfl)
theorem dX0_radix_10 : decode cX0_radix 10 = .ok (.iload_n 3, 1) := dk_29 (dk_at dksX0_radix_0 10 rfl rfl)
theorem dX0_radix_11 : decode cX0_radix 11 = .ok (.aload_n 0, 1) := dk_42 (dk_at dksX0_radix_0 11 rfl rfl)
theorem dX0_radix_12 : decode cX0_radix 12 = .ok (.iload_n 3, 1) := dk_29 (dk_at dksX0_radix_0 12 rfl rfl)
theorem dX0_radix_13 : decode cX0_radix 13 = .ok (.iload_n 2, 1) := dk_28 (dk_at dksX0_radix_0 13 rfl rfl)
theorem dX0_radix_14 : decode cX0_radix 14 = .ok (.invokevirtual 22, 3) := dk_182 0 22 (dk_at dksX0_radix_0 14 rfl rfl)
theorem dX0_radix_17 : decode cX0_radix 17 = .ok (.invokestatic 35, 3) := dk_184 0 35 (dk_at dksX0_radix_0 17 rfl rfl)
theorem dX0_radix_20 : decode cX0_radix 20 = .ok (.return_, 1) := dk_177 (dk_at dksX0_radix_0 20 rfl rfl)
abbrev cX0_unstable : ByteArray := prog_2_method_12_code
def yX0_unstable : MethodName := ⟨RX0, "unstable", "(II)V"⟩
def dkwX0_unstable_0 : List UInt8 := [42, 27, 182, 0, 18, 62, 42, 180, 0, 7, 29, 42, 29, 28, 182, 0, 22, 184, 0, 38, 177]
abbrev dktX0_unstable_0 : List UInt8 := dkwX0_unstable_0 ++ []
theorem dksX0_unstable_0 : cX0_unstable.data.toList.drop 0 = dktX0_unstable_0 := by decide +kernel
theorem dX0_unstable_0 : decode cX0_unstable 0 = .ok (.aload_n 0, 1) := dk_42 (dk_at dksX0_unstable_0 0 rfl rfl)
theorem dX0_unstable_1 : decode cX0_unstable 1 = .ok (.iload_n 1, 1) := dk_27 (dk_at dksX0_unstable_0 1 rfl rfl)
theorem dX0_unstable_2 : decode cX0_unstable 2 = .ok (.invokevirtual 18, 3) := dk_182 0 18 (dk_at dksX0_unstable_0 2 rfl rfl)
theorem dX0_unstable_5 : decode cX0_unstable 5 = .ok (.istore_n 3, 1) := dk_62 (dk_at dksX0_unstable_0 5 rfl rfl)
theorem dX0_unstable_6 : decode cX0_unstable 6 = .ok (.aload_n 0, 1) := dk_42 (dk_at dksX0_unstable_0 6 rfl rfl)
theorem dX0_unstable_7 : decode cX0_unstable 7 = .ok (.getfield 7, 3) := dk_180 0 7 (dk_at dksX0_unstable_0 7 rfl rfl)
theorem dX0_unstable_10 : decode cX0_unstable 10 = .ok (.iload_n 3, 1) := dk_29 (dk_at dksX0_unstable_0 10 rfl rfl)
theorem dX0_unstable_11 : decode cX0_unstable 11 = .ok (.aload_n 0, 1) := dk_42 (dk_at dksX0_unstable_0 11 rfl rfl)
theorem dX0_unstable_12 : decode cX0_unstable 12 = .ok (.iload_n 3, 1) := dk_29 (dk_at dksX0_unstable_0 12 rfl rfl)
theorem dX0_unstable_13 : decode cX0_unstable 13 = .ok (.iload_n 2, 1) := dk_28 (dk_at dksX0_unstable_0 13 rfl rfl)
theorem dX0_unstable_14 : decode cX0_unstable 14 = .ok (.invokevirtual 22, 3) := dk_182 0 22 (dk_at dksX0_unstable_0 14 rfl rfl)
theorem dX0_unstable_17 : decode cX0_unstable 17 = .ok (.invokestatic 38, 3) := dk_184 0 38 (dk_at dksX0_unstable_0 17 rfl rfl)
theorem dX0_unstable_20 : decode cX0_unstable 20 = .ok (.return_, 1) := dk_177 (dk_at dksX0_unstable_0 20 rfl rfl)
abbrev cX0_reverse : ByteArray := prog_2_method_13_code
def yX0_reverse : MethodName := ⟨RX0, "reverse", "(II)V"⟩
def dkwX0_reverse_0 : List UInt8 := [42, 27, 182, 0, 18, 62, 42, 180, 0, 7, 29, 42, 29, 28, 182, 0, 22, 184, 0, 41, 87, 177]
abbrev dktX0_reverse_0 : List UInt8 := dkwX0_reverse_0 ++ []
theorem dksX0_reverse_0 : cX0_reverse.data.toList.drop 0 = dktX0_reverse_0 := by decide +kernel
theorem dX0_reverse_0 : decode cX0_reverse 0 = .ok (.aload_n 0, 1) := dk_42 (dk_at dksX0_reverse_0 0 rfl rfl)
theorem dX0_reverse_1 : decode cX0_reverse 1 = .ok (.iload_n 1, 1) := dk_27 (dk_at dksX0_reverse_0 1 rfl rfl)
theorem dX0_reverse_2 : decode cX0_reverse 2 = .ok (.invokevirtual 18, 3) := dk_182 0 18 (dk_at dksX0_reverse_0 2 rfl rfl)
theorem dX0_reverse_5 : decode cX0_reverse 5 = .ok (.istore_n 3, 1) := dk_62 (dk_at dksX0_reverse_0 5 rfl rfl)
theorem dX0_reverse_6 : decode cX0_reverse 6 = .ok (.aload_n 0, 1) := dk_42 (dk_at dksX0_reverse_0 6 rfl rfl)
theorem dX0_reverse_7 : decode cX0_reverse 7 = .ok (.getfield 7, 3) := dk_180 0 7 (dk_at dksX0_reverse_0 7 rfl rfl)
theorem dX0_reverse_10 : decode cX0_reverse 10 = .ok (.iload_n 3, 1) := dk_29 (dk_at dksX0_reverse_0 10 rfl rfl)
theorem dX0_reverse_11 : decode cX0_reverse 11 = .ok (.aload_n 0, 1) := dk_42 (dk_at dksX0_reverse_0 11 rfl rfl)
theorem dX0_reverse_12 : decode cX0_reverse 12 = .ok (.iload_n 3, 1) := dk_29 (dk_at dksX0_reverse_0 12 rfl rfl)
theorem dX0_reverse_13 : decode cX0_reverse 13 = .ok (.iload_n 2, 1) := dk_28 (dk_at dksX0_reverse_0 13 rfl rfl)
theorem dX0_reverse_14 : decode cX0_reverse 14 = .ok (.invokevirtual 22, 3) := dk_182 0 22 (dk_at dksX0_reverse_0 14 rfl rfl)
theorem dX0_reverse_17 : decode cX0_reverse 17 = .ok (.invokestatic 41, 3) := dk_184 0 41 (dk_at dksX0_reverse_0 17 rfl rfl)
theorem dX0_reverse_20 : decode cX0_reverse 20 = .ok (.pop, 1) := dk_87 (dk_at dksX0_reverse_0 20 rfl rfl)
theorem dX0_reverse_21 : decode cX0_reverse 21 = .ok (.return_, 1) := dk_177 (dk_at dksX0_reverse_0 21 rfl rfl)
abbrev cX0_find : ByteArray := prog_2_method_14_code
def yX0_find : MethodName := ⟨RX0, "find", "(III)I"⟩
def dkwX0_find_2 : List UInt8 := [18, 45, 172, 132, 6, 1, 167, 255, 224, 42, 180, 0, 7, 21, 4, 21, 5, 29, 184, 0, 46, 172]
abbrev dktX0_find_2 : List UInt8 := dkwX0_find_2 ++ []
def dkwX0_find_1 : List UInt8 := [21, 5, 162, 0, 31, 42, 180, 0, 7, 21, 6, 4, 100, 46, 42, 180, 0, 7, 21, 6, 46, 161, 0, 6]
abbrev dktX0_find_1 : List UInt8 := dkwX0_find_1 ++ dktX0_find_2
def dkwX0_find_0 : List UInt8 := [42, 27, 182, 0, 18, 54, 4, 42, 21, 4, 28, 182, 0, 22, 54, 5, 21, 4, 4, 96, 54, 6, 21, 6]
abbrev dktX0_find_0 : List UInt8 := dkwX0_find_0 ++ dktX0_find_1
theorem dksX0_find_0 : cX0_find.data.toList.drop 0 = dktX0_find_0 := by decide +kernel
theorem dksX0_find_1 : cX0_find.data.toList.drop 24 = dktX0_find_1 := dk_seg dksX0_find_0 24 rfl rfl
theorem dksX0_find_2 : cX0_find.data.toList.drop 48 = dktX0_find_2 := dk_seg dksX0_find_1 24 rfl rfl
theorem dX0_find_0 : decode cX0_find 0 = .ok (.aload_n 0, 1) := dk_42 (dk_at dksX0_find_0 0 rfl rfl)
theorem dX0_find_1 : decode cX0_find 1 = .ok (.iload_n 1, 1) := dk_27 (dk_at dksX0_find_0 1 rfl rfl)
theorem dX0_find_2 : decode cX0_find 2 = .ok (.invokevirtual 18, 3) := dk_182 0 18 (dk_at dksX0_find_0 2 rfl rfl)
theorem dX0_find_5 : decode cX0_find 5 = .ok (.istore 4, 2) := dk_54 4 (dk_at dksX0_find_0 5 rfl rfl)
theorem dX0_find_7 : decode cX0_find 7 = .ok (.aload_n 0, 1) := dk_42 (dk_at dksX0_find_0 7 rfl rfl)
theorem dX0_find_8 : decode cX0_find 8 = .ok (.iload 4, 2) := dk_21 4 (dk_at dksX0_find_0 8 rfl rfl)
theorem dX0_find_10 : decode cX0_find 10 = .ok (.iload_n 2, 1) := dk_28 (dk_at dksX0_find_0 10 rfl rfl)
theorem dX0_find_11 : decode cX0_find 11 = .ok (.invokevirtual 22, 3) := dk_182 0 22 (dk_at dksX0_find_0 11 rfl rfl)
theorem dX0_find_14 : decode cX0_find 14 = .ok (.istore 5, 2) := dk_54 5 (dk_at dksX0_find_0 14 rfl rfl)
theorem dX0_find_16 : decode cX0_find 16 = .ok (.iload 4, 2) := dk_21 4 (dk_at dksX0_find_0 16 rfl rfl)
theorem dX0_find_18 : decode cX0_find 18 = .ok (.iconst 1, 1) := dk_4 (dk_at dksX0_find_0 18 rfl rfl)
theorem dX0_find_19 : decode cX0_find 19 = .ok (.iadd, 1) := dk_96 (dk_at dksX0_find_0 19 rfl rfl)
theorem dX0_find_20 : decode cX0_find 20 = .ok (.istore 6, 2) := dk_54 6 (dk_at dksX0_find_0 20 rfl rfl)
theorem dX0_find_22 : decode cX0_find 22 = .ok (.iload 6, 2) := dk_21 6 (dk_at dksX0_find_0 22 rfl rfl)
theorem dX0_find_24 : decode cX0_find 24 = .ok (.iload 5, 2) := dk_21 5 (dk_at dksX0_find_1 0 rfl rfl)
theorem dX0_find_26 : decode cX0_find 26 = .ok (.if_icmp .ge 31, 3) := dk_162 0 31 (dk_at dksX0_find_1 2 rfl rfl)
theorem dX0_find_29 : decode cX0_find 29 = .ok (.aload_n 0, 1) := dk_42 (dk_at dksX0_find_1 5 rfl rfl)
theorem dX0_find_30 : decode cX0_find 30 = .ok (.getfield 7, 3) := dk_180 0 7 (dk_at dksX0_find_1 6 rfl rfl)
theorem dX0_find_33 : decode cX0_find 33 = .ok (.iload 6, 2) := dk_21 6 (dk_at dksX0_find_1 9 rfl rfl)
theorem dX0_find_35 : decode cX0_find 35 = .ok (.iconst 1, 1) := dk_4 (dk_at dksX0_find_1 11 rfl rfl)
theorem dX0_find_36 : decode cX0_find 36 = .ok (.isub, 1) := dk_100 (dk_at dksX0_find_1 12 rfl rfl)
theorem dX0_find_37 : decode cX0_find 37 = .ok (.iaload, 1) := dk_46 (dk_at dksX0_find_1 13 rfl rfl)
theorem dX0_find_38 : decode cX0_find 38 = .ok (.aload_n 0, 1) := dk_42 (dk_at dksX0_find_1 14 rfl rfl)
theorem dX0_find_39 : decode cX0_find 39 = .ok (.getfield 7, 3) := dk_180 0 7 (dk_at dksX0_find_1 15 rfl rfl)
theorem dX0_find_42 : decode cX0_find 42 = .ok (.iload 6, 2) := dk_21 6 (dk_at dksX0_find_1 18 rfl rfl)
theorem dX0_find_44 : decode cX0_find 44 = .ok (.iaload, 1) := dk_46 (dk_at dksX0_find_1 20 rfl rfl)
theorem dX0_find_45 : decode cX0_find 45 = .ok (.if_icmp .lt 6, 3) := dk_161 0 6 (dk_at dksX0_find_1 21 rfl rfl)
theorem dX0_find_48 : decode cX0_find 48 = .ok (.ldc 45, 2) := dk_18 45 (dk_at dksX0_find_2 0 rfl rfl)
theorem dX0_find_50 : decode cX0_find 50 = .ok (.ireturn, 1) := dk_172 (dk_at dksX0_find_2 2 rfl rfl)
theorem dX0_find_51 : decode cX0_find 51 = .ok (.iinc 6 1, 3) := dk_132 6 1 (dk_at dksX0_find_2 3 rfl rfl)
theorem dX0_find_54 : decode cX0_find 54 = .ok (.goto (-32), 3) := dk_167 255 224 (dk_at dksX0_find_2 6 rfl rfl)
theorem dX0_find_57 : decode cX0_find 57 = .ok (.aload_n 0, 1) := dk_42 (dk_at dksX0_find_2 9 rfl rfl)
theorem dX0_find_58 : decode cX0_find 58 = .ok (.getfield 7, 3) := dk_180 0 7 (dk_at dksX0_find_2 10 rfl rfl)
theorem dX0_find_61 : decode cX0_find 61 = .ok (.iload 4, 2) := dk_21 4 (dk_at dksX0_find_2 13 rfl rfl)
theorem dX0_find_63 : decode cX0_find 63 = .ok (.iload 5, 2) := dk_21 5 (dk_at dksX0_find_2 15 rfl rfl)
theorem dX0_find_65 : decode cX0_find 65 = .ok (.iload_n 3, 1) := dk_29 (dk_at dksX0_find_2 17 rfl rfl)
theorem dX0_find_66 : decode cX0_find 66 = .ok (.invokestatic 46, 3) := dk_184 0 46 (dk_at dksX0_find_2 18 rfl rfl)
theorem dX0_find_69 : decode cX0_find 69 = .ok (.ireturn, 1) := dk_172 (dk_at dksX0_find_2 21 rfl rfl)
theorem q4 : (Jvm.Cond.initialized "SortDesk") ∈ lw_all := lw_g (lw_at lw_m0 1 rfl) rfl
theorem q12 : (Jvm.Cond.instantiable "SortDesk" (2 : Nat)) ∈ lw_all := lw_g (lw_at lw_m0 9 rfl) rfl
theorem q14 : (Jvm.Cond.instanceMethod ({ cls := "SortDesk", name := "<init>", desc := "()V" } : Jvm.MethodName)) ∈ lw_all := lw_g (lw_at lw_m0 11 rfl) rfl
theorem q15 : (Jvm.Cond.code ({ cls := "SortDesk", name := "<init>", desc := "()V" } : Jvm.MethodName) prog_2_method_1_code (1 : Nat) (Option.none : Option Jvm.ClassFile.FieldType)) ∈ lw_all := lw_g (lw_at lw_m0 12 rfl) rfl
theorem q16 : (Jvm.Cond.methodLink "SortDesk" (1 : Nat) ({ cls := "java/lang/Object", name := "<init>", desc := "()V" } : Jvm.MethodName)) ∈ lw_all := lw_g (lw_at lw_m0 13 rfl) rfl
theorem q19 : (Jvm.Cond.fieldLink "SortDesk" (7 : Nat) "SortDesk" "row" "[I") ∈ lw_all := lw_g (lw_at lw_m0 16 rfl) rfl
theorem q20 : (Jvm.Cond.fieldLink "SortDesk" (13 : Nat) "SortDesk" "size" "I") ∈ lw_all := lw_g (lw_at lw_m0 17 rfl) rfl
theorem q21 : (Jvm.Cond.laysFinal "SortDesk" "SortDesk" "row" "[I") ∈ lw_all := lw_g (lw_at lw_m0 18 rfl) rfl
theorem q22 : (Jvm.Cond.soleField "SortDesk" "row") ∈ lw_all := lw_g (lw_at lw_m0 19 rfl) rfl
theorem q23 : (Jvm.Cond.lays "SortDesk" "SortDesk" "size" "I") ∈ lw_all := lw_g (lw_at lw_m0 20 rfl) rfl
theorem q24 : (Jvm.Cond.soleField "SortDesk" "size") ∈ lw_all := lw_g (lw_at lw_m0 21 rfl) rfl
theorem q25 : (Jvm.Cond.superclass "SortDesk" "java/lang/Object") ∈ lw_all := lw_g (lw_at lw_m0 22 rfl) rfl
theorem q28 : (Jvm.Cond.instanceMethod ({ cls := "SortDesk", name := "put", desc := "(IIII)Z" } : Jvm.MethodName)) ∈ lw_all := lw_g (lw_at lw_m0 25 rfl) rfl
theorem q29 : (Jvm.Cond.selects "SortDesk" ({ cls := "SortDesk", name := "put", desc := "(IIII)Z" } : Jvm.MethodName) ({ cls := "SortDesk", name := "put", desc := "(IIII)Z" } : Jvm.MethodName)) ∈ lw_all := lw_g (lw_at lw_m0 26 rfl) rfl
theorem q30 : (Jvm.Cond.code ({ cls := "SortDesk", name := "put", desc := "(IIII)Z" } : Jvm.MethodName) prog_2_method_2_code (5 : Nat) (Option.some Jvm.ClassFile.FieldType.boolean)) ∈ lw_all := lw_g (lw_at lw_m0 27 rfl) rfl
theorem q32 : (Jvm.Cond.instanceMethod ({ cls := "SortDesk", name := "fill", desc := "(III)I" } : Jvm.MethodName)) ∈ lw_all := lw_g (lw_at lw_m0 29 rfl) rfl
theorem q33 : (Jvm.Cond.selects "SortDesk" ({ cls := "SortDesk", name := "fill", desc := "(III)I" } : Jvm.MethodName) ({ cls := "SortDesk", name := "fill", desc := "(III)I" } : Jvm.MethodName)) ∈ lw_all := lw_g (lw_at lw_m0 30 rfl) rfl
theorem q34 : (Jvm.Cond.code ({ cls := "SortDesk", name := "fill", desc := "(III)I" } : Jvm.MethodName) prog_2_method_3_code (6 : Nat) (Option.some Jvm.ClassFile.FieldType.int)) ∈ lw_all := lw_g (lw_at lw_m0 31 rfl) rfl
theorem q35 : (Jvm.Cond.constant "SortDesk" (17 : Nat) (2147483647 : Int32)) ∈ lw_all := lw_g (lw_at lw_m0 32 rfl) rfl
theorem q37 : (Jvm.Cond.instanceMethod ({ cls := "SortDesk", name := "trim", desc := "(I)V" } : Jvm.MethodName)) ∈ lw_all := lw_g (lw_at lw_m0 34 rfl) rfl
theorem q38 : (Jvm.Cond.selects "SortDesk" ({ cls := "SortDesk", name := "trim", desc := "(I)V" } : Jvm.MethodName) ({ cls := "SortDesk", name := "trim", desc := "(I)V" } : Jvm.MethodName)) ∈ lw_all := lw_g (lw_at lw_m0 35 rfl) rfl
theorem q39 : (Jvm.Cond.code ({ cls := "SortDesk", name := "trim", desc := "(I)V" } : Jvm.MethodName) prog_2_method_4_code (2 : Nat) (Option.none : Option Jvm.ClassFile.FieldType)) ∈ lw_all := lw_g (lw_at lw_m0 36 rfl) rfl
theorem q41 : (Jvm.Cond.instanceMethod ({ cls := "SortDesk", name := "size", desc := "()I" } : Jvm.MethodName)) ∈ lw_all := lw_g (lw_at lw_m0 38 rfl) rfl
theorem q42 : (Jvm.Cond.selects "SortDesk" ({ cls := "SortDesk", name := "size", desc := "()I" } : Jvm.MethodName) ({ cls := "SortDesk", name := "size", desc := "()I" } : Jvm.MethodName)) ∈ lw_all := lw_g (lw_at lw_m0 39 rfl) rfl
theorem q43 : (Jvm.Cond.code ({ cls := "SortDesk", name := "size", desc := "()I" } : Jvm.MethodName) prog_2_method_5_code (1 : Nat) (Option.some Jvm.ClassFile.FieldType.int)) ∈ lw_all := lw_g (lw_at lw_m0 40 rfl) rfl
theorem q45 : (Jvm.Cond.instanceMethod ({ cls := "SortDesk", name := "at", desc := "(I)I" } : Jvm.MethodName)) ∈ lw_all := lw_g (lw_at lw_m0 42 rfl) rfl
theorem q46 : (Jvm.Cond.selects "SortDesk" ({ cls := "SortDesk", name := "at", desc := "(I)I" } : Jvm.MethodName) ({ cls := "SortDesk", name := "at", desc := "(I)I" } : Jvm.MethodName)) ∈ lw_all := lw_g (lw_at lw_m0 43 rfl) rfl
theorem q47 : (Jvm.Cond.code ({ cls := "SortDesk", name := "at", desc := "(I)I" } : Jvm.MethodName) prog_2_method_6_code (2 : Nat) (Option.some Jvm.ClassFile.FieldType.int)) ∈ lw_all := lw_g (lw_at lw_m0 44 rfl) rfl
theorem q49 : (Jvm.Cond.instanceMethod ({ cls := "SortDesk", name := "quick", desc := "(II)V" } : Jvm.MethodName)) ∈ lw_all := lw_g (lw_at lw_m0 46 rfl) rfl
theorem q50 : (Jvm.Cond.selects "SortDesk" ({ cls := "SortDesk", name := "quick", desc := "(II)V" } : Jvm.MethodName) ({ cls := "SortDesk", name := "quick", desc := "(II)V" } : Jvm.MethodName)) ∈ lw_all := lw_g (lw_at lw_m0 47 rfl) rfl
theorem q51 : (Jvm.Cond.code ({ cls := "SortDesk", name := "quick", desc := "(II)V" } : Jvm.MethodName) prog_2_method_9_code (4 : Nat) (Option.none : Option Jvm.ClassFile.FieldType)) ∈ lw_all := lw_g (lw_at lw_m0 48 rfl) rfl
theorem q52 : (Jvm.Cond.methodLink "SortDesk" (18 : Nat) ({ cls := "SortDesk", name := "from", desc := "(I)I" } : Jvm.MethodName)) ∈ lw_all := lw_g (lw_at lw_m0 49 rfl) rfl
theorem q53 : (Jvm.Cond.privateMethod ({ cls := "SortDesk", name := "from", desc := "(I)I" } : Jvm.MethodName)) ∈ lw_tbl := lw_at lw_m0 50 rfl
theorem q54 : (Jvm.Cond.instanceMethod ({ cls := "SortDesk", name := "from", desc := "(I)I" } : Jvm.MethodName)) ∈ lw_all := lw_g (lw_at lw_m0 51 rfl) rfl
theorem q55 : (Jvm.Cond.code ({ cls := "SortDesk", name := "from", desc := "(I)I" } : Jvm.MethodName) prog_2_method_7_code (2 : Nat) (Option.some Jvm.ClassFile.FieldType.int)) ∈ lw_all := lw_g (lw_at lw_m0 52 rfl) rfl
theorem q56 : (Jvm.Cond.methodLink "SortDesk" (22 : Nat) ({ cls := "SortDesk", name := "to", desc := "(II)I" } : Jvm.MethodName)) ∈ lw_all := lw_g (lw_at lw_m0 53 rfl) rfl
theorem q57 : (Jvm.Cond.privateMethod ({ cls := "SortDesk", name := "to", desc := "(II)I" } : Jvm.MethodName)) ∈ lw_tbl := lw_at lw_m0 54 rfl
theorem q58 : (Jvm.Cond.instanceMethod ({ cls := "SortDesk", name := "to", desc := "(II)I" } : Jvm.MethodName)) ∈ lw_all := lw_g (lw_at lw_m0 55 rfl) rfl
theorem q59 : (Jvm.Cond.code ({ cls := "SortDesk", name := "to", desc := "(II)I" } : Jvm.MethodName) prog_2_method_8_code (3 : Nat) (Option.some Jvm.ClassFile.FieldType.int)) ∈ lw_all := lw_g (lw_at lw_m0 56 rfl) rfl
theorem q60 : (Jvm.Cond.methodLink "SortDesk" (26 : Nat) ({ cls := "IntArrays", name := "quickSort", desc := "([III)V" } : Jvm.MethodName)) ∈ lw_all := lw_g (lw_at lw_m0 57 rfl) rfl
theorem q83 : (Jvm.Cond.instanceMethod ({ cls := "SortDesk", name := "merge", desc := "(II)V" } : Jvm.MethodName)) ∈ lw_all := lw_g (lw_at lw_m0 80 rfl) rfl
theorem q84 : (Jvm.Cond.selects "SortDesk" ({ cls := "SortDesk", name := "merge", desc := "(II)V" } : Jvm.MethodName) ({ cls := "SortDesk", name := "merge", desc := "(II)V" } : Jvm.MethodName)) ∈ lw_all := lw_g (lw_at lw_m0 81 rfl) rfl
theorem q85 : (Jvm.Cond.code ({ cls := "SortDesk", name := "merge", desc := "(II)V" } : Jvm.MethodName) prog_2_method_10_code (4 : Nat) (Option.none : Option Jvm.ClassFile.FieldType)) ∈ lw_all := lw_g (lw_at lw_m0 82 rfl) rfl
theorem q86 : (Jvm.Cond.methodLink "SortDesk" (32 : Nat) ({ cls := "IntArrays", name := "mergeSort", desc := "([III)V" } : Jvm.MethodName)) ∈ lw_all := lw_g (lw_at lw_m0 83 rfl) rfl
theorem q112 : (Jvm.Cond.instanceMethod ({ cls := "SortDesk", name := "radix", desc := "(II)V" } : Jvm.MethodName)) ∈ lw_all := lw_g (lw_at lw_m0 109 rfl) rfl
theorem q113 : (Jvm.Cond.selects "SortDesk" ({ cls := "SortDesk", name := "radix", desc := "(II)V" } : Jvm.MethodName) ({ cls := "SortDesk", name := "radix", desc := "(II)V" } : Jvm.MethodName)) ∈ lw_all := lw_g (lw_at lw_m0 110 rfl) rfl
theorem q114 : (Jvm.Cond.code ({ cls := "SortDesk", name := "radix", desc := "(II)V" } : Jvm.MethodName) prog_2_method_11_code (4 : Nat) (Option.none : Option Jvm.ClassFile.FieldType)) ∈ lw_all := lw_g (lw_at lw_m0 111 rfl) rfl
theorem q115 : (Jvm.Cond.methodLink "SortDesk" (35 : Nat) ({ cls := "IntArrays", name := "radixSort", desc := "([III)V" } : Jvm.MethodName)) ∈ lw_all := lw_g (lw_at lw_m0 112 rfl) rfl
theorem q119 : (Jvm.Cond.instanceMethod ({ cls := "SortDesk", name := "unstable", desc := "(II)V" } : Jvm.MethodName)) ∈ lw_all := lw_g (lw_at lw_m0 116 rfl) rfl
theorem q120 : (Jvm.Cond.selects "SortDesk" ({ cls := "SortDesk", name := "unstable", desc := "(II)V" } : Jvm.MethodName) ({ cls := "SortDesk", name := "unstable", desc := "(II)V" } : Jvm.MethodName)) ∈ lw_all := lw_g (lw_at lw_m0 117 rfl) rfl
theorem q121 : (Jvm.Cond.code ({ cls := "SortDesk", name := "unstable", desc := "(II)V" } : Jvm.MethodName) prog_2_method_12_code (4 : Nat) (Option.none : Option Jvm.ClassFile.FieldType)) ∈ lw_all := lw_g (lw_at lw_m0 118 rfl) rfl
theorem q122 : (Jvm.Cond.methodLink "SortDesk" (38 : Nat) ({ cls := "IntArrays", name := "unstableSort", desc := "([III)V" } : Jvm.MethodName)) ∈ lw_all := lw_g (lw_at lw_m0 119 rfl) rfl
theorem q127 : (Jvm.Cond.instanceMethod ({ cls := "SortDesk", name := "reverse", desc := "(II)V" } : Jvm.MethodName)) ∈ lw_all := lw_g (lw_at lw_m0 124 rfl) rfl
theorem q128 : (Jvm.Cond.selects "SortDesk" ({ cls := "SortDesk", name := "reverse", desc := "(II)V" } : Jvm.MethodName) ({ cls := "SortDesk", name := "reverse", desc := "(II)V" } : Jvm.MethodName)) ∈ lw_all := lw_g (lw_at lw_m0 125 rfl) rfl
theorem q129 : (Jvm.Cond.code ({ cls := "SortDesk", name := "reverse", desc := "(II)V" } : Jvm.MethodName) prog_2_method_13_code (4 : Nat) (Option.none : Option Jvm.ClassFile.FieldType)) ∈ lw_all := lw_g (lw_at lw_m0 126 rfl) rfl
theorem q130 : (Jvm.Cond.methodLink "SortDesk" (41 : Nat) ({ cls := "IntArrays", name := "reverse", desc := "([III)[I" } : Jvm.MethodName)) ∈ lw_all := lw_g (lw_at lw_m0 127 rfl) rfl
theorem q134 : (Jvm.Cond.instanceMethod ({ cls := "SortDesk", name := "find", desc := "(III)I" } : Jvm.MethodName)) ∈ lw_all := lw_g (lw_at lw_m0 131 rfl) rfl
theorem q135 : (Jvm.Cond.selects "SortDesk" ({ cls := "SortDesk", name := "find", desc := "(III)I" } : Jvm.MethodName) ({ cls := "SortDesk", name := "find", desc := "(III)I" } : Jvm.MethodName)) ∈ lw_all := lw_g (lw_at lw_m0 132 rfl) rfl
theorem q136 : (Jvm.Cond.code ({ cls := "SortDesk", name := "find", desc := "(III)I" } : Jvm.MethodName) prog_2_method_14_code (7 : Nat) (Option.some Jvm.ClassFile.FieldType.int)) ∈ lw_all := lw_g (lw_at lw_m0 133 rfl) rfl
theorem q137 : (Jvm.Cond.constant "SortDesk" (45 : Nat) (-1000000 : Int32)) ∈ lw_all := lw_g (lw_at lw_m0 134 rfl) rfl
theorem q138 : (Jvm.Cond.methodLink "SortDesk" (46 : Nat) ({ cls := "IntArrays", name := "binarySearch", desc := "([IIII)I" } : Jvm.MethodName)) ∈ lw_all := lw_g (lw_at lw_m0 135 rfl) rfl
theorem in_X0 : ∀ w ∈ wsX00, w ∈ lw_all := lw_in wsX00 [21, 23] (by decide +kernel) (by decide +kernel)
end
section
/-! SortDeskModel -/
set_option maxRecDepth 100000
def RX1 : String := "SortDeskModel"
def TX1 : u_T := fun k => match k with
  | 0 => ("SortDeskModel", "row", "[I", true)
  | 1 => ("SortDeskModel", "other", "[I", true)
  | _ => ("SortDeskModel", "size", "I", false)
def tyX1 : Nat → FieldType := fun k => match k with
  | 0 => .array .int
  | 1 => .array .int
  | _ => .int
abbrev wsX10 : List Cond := u_ws RX1 TX1 3
theorem nmX1 : ∀ a, a < 3 → ∀ b, b < 3 → a ≠ b → (TX1 a).2.1 ≠ (TX1 b).2.1 := by decide +kernel
theorem tyX1_ok : ∀ k, k < 3 → parseFieldDescriptor (TX1 k).2.2.1 = some (tyX1 k) := by decide +kernel
abbrev cX1_init : ByteArray := prog_4_method_1_code
def yX1_init : MethodName := ⟨RX1, "<init>", "()V"⟩
def dkwX1_init_0 : List UInt8 := [42, 183, 0, 1, 42, 17, 8, 0, 188, 10, 181, 0, 7, 42, 17, 8, 0, 188, 10, 181, 0, 13, 177]
abbrev dktX1_init_0 : List UInt8 := dkwX1_init_0 ++ []
theorem dksX1_init_0 : cX1_init.data.toList.drop 0 = dktX1_init_0 := by decide +kernel
theorem dX1_init_0 : decode cX1_init 0 = .ok (.aload_n 0, 1) := dk_42 (dk_at dksX1_init_0 0 rfl rfl)
theorem dX1_init_1 : decode cX1_init 1 = .ok (.invokespecial 1, 3) := dk_183 0 1 (dk_at dksX1_init_0 1 rfl rfl)
theorem dX1_init_4 : decode cX1_init 4 = .ok (.aload_n 0, 1) := dk_42 (dk_at dksX1_init_0 4 rfl rfl)
theorem dX1_init_5 : decode cX1_init 5 = .ok (.sipush 2048, 3) := dk_17 8 0 (dk_at dksX1_init_0 5 rfl rfl)
theorem dX1_init_8 : decode cX1_init 8 = .ok (.newarray .int, 2) := dk_188_10 (dk_at dksX1_init_0 8 rfl rfl)
theorem dX1_init_10 : decode cX1_init 10 = .ok (.putfield 7, 3) := dk_181 0 7 (dk_at dksX1_init_0 10 rfl rfl)
theorem dX1_init_13 : decode cX1_init 13 = .ok (.aload_n 0, 1) := dk_42 (dk_at dksX1_init_0 13 rfl rfl)
theorem dX1_init_14 : decode cX1_init 14 = .ok (.sipush 2048, 3) := dk_17 8 0 (dk_at dksX1_init_0 14 rfl rfl)
theorem dX1_init_17 : decode cX1_init 17 = .ok (.newarray .int, 2) := dk_188_10 (dk_at dksX1_init_0 17 rfl rfl)
theorem dX1_init_19 : decode cX1_init 19 = .ok (.putfield 13, 3) := dk_181 0 13 (dk_at dksX1_init_0 19 rfl rfl)
theorem dX1_init_22 : decode cX1_init 22 = .ok (.return_, 1) := dk_177 (dk_at dksX1_init_0 22 rfl rfl)
abbrev cX1_put : ByteArray := prog_4_method_2_code
def yX1_put : MethodName := ⟨RX1, "put", "(IIII)Z"⟩
def dkwX1_put_3 : List UInt8 := [167, 255, 204, 42, 42, 180, 0, 16, 7, 96, 181, 0, 16, 4, 172]
abbrev dktX1_put_3 : List UInt8 := dkwX1_put_3 ++ []
def dkwX1_put_2 : List UInt8 := [160, 0, 7, 28, 167, 0, 15, 21, 5, 5, 160, 0, 7, 29, 167, 0, 5, 21, 4, 79, 132, 5, 1]
abbrev dktX1_put_2 : List UInt8 := dkwX1_put_2 ++ dktX1_put_3
def dkwX1_put_1 : List UInt8 := [180, 0, 7, 42, 180, 0, 16, 21, 5, 96, 21, 5, 154, 0, 7, 27, 167, 0, 25, 21, 5, 4]
abbrev dktX1_put_1 : List UInt8 := dkwX1_put_1 ++ dktX1_put_2
def dkwX1_put_0 : List UInt8 := [42, 180, 0, 16, 7, 96, 17, 8, 0, 164, 0, 5, 3, 172, 3, 54, 5, 21, 5, 7, 162, 0, 52, 42]
abbrev dktX1_put_0 : List UInt8 := dkwX1_put_0 ++ dktX1_put_1
theorem dksX1_put_0 : cX1_put.data.toList.drop 0 = dktX1_put_0 := by decide +kernel
theorem dksX1_put_1 : cX1_put.data.toList.drop 24 = dktX1_put_1 := dk_seg dksX1_put_0 24 rfl rfl
theorem dksX1_put_2 : cX1_put.data.toList.drop 46 = dktX1_put_2 := dk_seg dksX1_put_1 22 rfl rfl
theorem dksX1_put_3 : cX1_put.data.toList.drop 69 = dktX1_put_3 := dk_seg dksX1_put_2 23 rfl rfl
theorem dX1_put_0 : decode cX1_put 0 = .ok (.aload_n 0, 1) := dk_42 (dk_at dksX1_put_0 0 rfl rfl)
theorem dX1_put_1 : decode cX1_put 1 = .ok (.getfield 16, 3) := dk_180 0 16 (dk_at dksX1_put_0 1 rfl rfl)
theorem dX1_put_4 : decode cX1_put 4 = .ok (.iconst 4, 1) := dk_7 (dk_at dksX1_put_0 4 rfl rfl)
theorem dX1_put_5 : decode cX1_put 5 = .ok (.iadd, 1) := dk_96 (dk_at dksX1_put_0 5 rfl rfl)
theorem dX1_put_6 : decode cX1_put 6 = .ok (.sipush 2048, 3) := dk_17 8 0 (dk_at dksX1_put_0 6 rfl rfl)
theorem dX1_put_9 : decode cX1_put 9 = .ok (.if_icmp .le 5, 3) := dk_164 0 5 (dk_at dksX1_put_0 9 rfl rfl)
theorem dX1_put_12 : decode cX1_put 12 = .ok (.iconst 0, 1) := dk_3 (dk_at dksX1_put_0 12 rfl rfl)
theorem dX1_put_13 : decode cX1_put 13 = .ok (.ireturn, 1) := dk_172 (dk_at dksX1_put_0 13 rfl rfl)
theorem dX1_put_14 : decode cX1_put 14 = .ok (.iconst 0, 1) := dk_3 (dk_at dksX1_put_0 14 rfl rfl)
theorem dX1_put_15 : decode cX1_put 15 = .ok (.istore 5, 2) := dk_54 5 (dk_at dksX1_put_0 15 rfl rfl)
theorem dX1_put_17 : decode cX1_put 17 = .ok (.iload 5, 2) := dk_21 5 (dk_at dksX1_put_0 17 rfl rfl)
theorem dX1_put_19 : decode cX1_put 19 = .ok (.iconst 4, 1) := dk_7 (dk_at dksX1_put_0 19 rfl rfl)
theorem dX1_put_20 : decode cX1_put 20 = .ok (.if_icmp .ge 52, 3) := dk_162 0 52 (dk_at dksX1_put_0 20 rfl rfl)
theorem dX1_put_23 : decode cX1_put 23 = .ok (.aload_n 0, 1) := dk_42 (dk_at dksX1_put_0 23 rfl rfl)
theorem dX1_put_24 : decode cX1_put 24 = .ok (.getfield 7, 3) := dk_180 0 7 (dk_at dksX1_put_1 0 rfl rfl)
theorem dX1_put_27 : decode cX1_put 27 = .ok (.aload_n 0, 1) := dk_42 (dk_at dksX1_put_1 3 rfl rfl)
theorem dX1_put_28 : decode cX1_put 28 = .ok (.getfield 16, 3) := dk_180 0 16 (dk_at dksX1_put_1 4 rfl rfl)
theorem dX1_put_31 : decode cX1_put 31 = .ok (.iload 5, 2) := dk_21 5 (dk_at dksX1_put_1 7 rfl rfl)
theorem dX1_put_33 : decode cX1_put 33 = .ok (.iadd, 1) := dk_96 (dk_at dksX1_put_1 9 rfl rfl)
theorem dX1_put_34 : decode cX1_put 34 = .ok (.iload 5, 2) := dk_21 5 (dk_at dksX1_put_1 10 rfl rfl)
theorem dX1_put_36 : decode cX1_put 36 = .ok (.ifCond .ne 7, 3) := dk_154 0 7 (dk_at dksX1_put_1 12 rfl rfl)
theorem dX1_put_39 : decode cX1_put 39 = .ok (.iload_n 1, 1) := dk_27 (dk_at dksX1_put_1 15 rfl rfl)
theorem dX1_put_40 : decode cX1_put 40 = .ok (.goto 25, 3) := dk_167 0 25 (dk_at dksX1_put_1 16 rfl rfl)
theorem dX1_put_43 : decode cX1_put 43 = .ok (.iload 5, 2) := dk_21 5 (dk_at dksX1_put_1 19 rfl rfl)
theorem dX1_put_45 : decode cX1_put 45 = .ok (.iconst 1, 1) := dk_4 (dk_at dksX1_put_1 21 rfl rfl)
theorem dX1_put_46 : decode cX1_put 46 = .ok (.if_icmp .ne 7, 3) := dk_160 0 7 (dk_at dksX1_put_2 0 rfl rfl)
theorem dX1_put_49 : decode cX1_put 49 = .ok (.iload_n 2, 1) := dk_28 (dk_at dksX1_put_2 3 rfl rfl)
theorem dX1_put_50 : decode cX1_put 50 = .ok (.goto 15, 3) := dk_167 0 15 (dk_at dksX1_put_2 4 rfl rfl)
theorem dX1_put_53 : decode cX1_put 53 = .ok (.iload 5, 2) := dk_21 5 (dk_at dksX1_put_2 7 rfl rfl)
theorem dX1_put_55 : decode cX1_put 55 = .ok (.iconst 2, 1) := dk_5 (dk_at dksX1_put_2 9 rfl rfl)
theorem dX1_put_56 : decode cX1_put 56 = .ok (.if_icmp .ne 7, 3) := dk_160 0 7 (dk_at dksX1_put_2 10 rfl rfl)
theorem dX1_put_59 : decode cX1_put 59 = .ok (.iload_n 3, 1) := dk_29 (dk_at dksX1_put_2 13 rfl rfl)
theorem dX1_put_60 : decode cX1_put 60 = .ok (.goto 5, 3) := dk_167 0 5 (dk_at dksX1_put_2 14 rfl rfl)
theorem dX1_put_63 : decode cX1_put 63 = .ok (.iload 4, 2) := dk_21 4 (dk_at dksX1_put_2 17 rfl rfl)
theorem dX1_put_65 : decode cX1_put 65 = .ok (.iastore, 1) := dk_79 (dk_at dksX1_put_2 19 rfl rfl)
theorem dX1_put_66 : decode cX1_put 66 = .ok (.iinc 5 1, 3) := dk_132 5 1 (dk_at dksX1_put_2 20 rfl rfl)
theorem dX1_put_69 : decode cX1_put 69 = .ok (.goto (-52), 3) := dk_167 255 204 (dk_at dksX1_put_3 0 rfl rfl)
theorem dX1_put_72 : decode cX1_put 72 = .ok (.aload_n 0, 1) := dk_42 (dk_at dksX1_put_3 3 rfl rfl)
theorem dX1_put_73 : decode cX1_put 73 = .ok (.aload_n 0, 1) := dk_42 (dk_at dksX1_put_3 4 rfl rfl)
theorem dX1_put_74 : decode cX1_put 74 = .ok (.getfield 16, 3) := dk_180 0 16 (dk_at dksX1_put_3 5 rfl rfl)
theorem dX1_put_77 : decode cX1_put 77 = .ok (.iconst 4, 1) := dk_7 (dk_at dksX1_put_3 8 rfl rfl)
theorem dX1_put_78 : decode cX1_put 78 = .ok (.iadd, 1) := dk_96 (dk_at dksX1_put_3 9 rfl rfl)
theorem dX1_put_79 : decode cX1_put 79 = .ok (.putfield 16, 3) := dk_181 0 16 (dk_at dksX1_put_3 10 rfl rfl)
theorem dX1_put_82 : decode cX1_put 82 = .ok (.iconst 1, 1) := dk_4 (dk_at dksX1_put_3 13 rfl rfl)
theorem dX1_put_83 : decode cX1_put 83 = .ok (.ireturn, 1) := dk_172 (dk_at dksX1_put_3 14 rfl rfl)
abbrev cX1_fill : ByteArray := prog_4_method_3_code
def yX1_fill : MethodName := ⟨RX1, "fill", "(III)I"⟩
def dkwX1_fill_3 : List UInt8 := [54, 5, 132, 6, 1, 167, 255, 219, 21, 4, 172]
abbrev dktX1_fill_3 : List UInt8 := dkwX1_fill_3 ++ []
def dkwX1_fill_2 : List UInt8 := [180, 0, 7, 42, 180, 0, 16, 21, 5, 79, 42, 42, 180, 0, 16, 4, 96, 181, 0, 16, 21, 5, 28, 96]
abbrev dktX1_fill_2 : List UInt8 := dkwX1_fill_2 ++ dktX1_fill_3
def dkwX1_fill_1 : List UInt8 := [17, 8, 0, 42, 180, 0, 16, 100, 54, 4, 27, 54, 5, 3, 54, 6, 21, 6, 21, 4, 162, 0, 36, 42]
abbrev dktX1_fill_1 : List UInt8 := dkwX1_fill_1 ++ dktX1_fill_2
def dkwX1_fill_0 : List UInt8 := [29, 18, 20, 126, 17, 2, 1, 112, 54, 4, 42, 180, 0, 16, 21, 4, 96, 17, 8, 0, 164, 0, 13]
abbrev dktX1_fill_0 : List UInt8 := dkwX1_fill_0 ++ dktX1_fill_1
theorem dksX1_fill_0 : cX1_fill.data.toList.drop 0 = dktX1_fill_0 := by decide +kernel
theorem dksX1_fill_1 : cX1_fill.data.toList.drop 23 = dktX1_fill_1 := dk_seg dksX1_fill_0 23 rfl rfl
theorem dksX1_fill_2 : cX1_fill.data.toList.drop 47 = dktX1_fill_2 := dk_seg dksX1_fill_1 24 rfl rfl
theorem dksX1_fill_3 : cX1_fill.data.toList.drop 71 = dktX1_fill_3 := dk_seg dksX1_fill_2 24 rfl rfl
theorem dX1_fill_0 : decode cX1_fill 0 = .ok (.iload_n 3, 1) := dk_29 (dk_at dksX1_fill_0 0 rfl rfl)
theorem dX1_fill_1 : decode cX1_fill 1 = .ok (.ldc 20, 2) := dk_18 20 (dk_at dksX1_fill_0 1 rfl rfl)
theorem dX1_fill_3 : decode cX1_fill 3 = .ok (.iand, 1) := dk_126 (dk_at dksX1_fill_0 3 rfl rfl)
theorem dX1_fill_4 : decode cX1_fill 4 = .ok (.sipush 513, 3) := dk_17 2 1 (dk_at dksX1_fill_0 4 rfl rfl)
theorem dX1_fill_7 : decode cX1_fill 7 = .ok (.irem, 1) := dk_112 (dk_at dksX1_fill_0 7 rfl rfl)
theorem dX1_fill_8 : decode cX1_fill 8 = .ok (.istore 4, 2) := dk_54 4 (dk_at dksX1_fill_0 8 rfl rfl)
theorem dX1_fill_10 : decode cX1_fill 10 = .ok (.aload_n 0, 1) := dk_42 (dk_at dksX1_fill_0 10 rfl rfl)
theorem dX1_fill_11 : decode cX1_fill 11 = .ok (.getfield 16, 3) := dk_180 0 16 (dk_at dksX1_fill_0 11 rfl rfl)
theorem dX1_fill_14 : decode cX1_fill 14 = .ok (.iload 4, 2) := dk_21 4 (dk_at dksX1_fill_0 14 rfl rfl)
theorem dX1_fill_16 : decode cX1_fill 16 = .ok (.iadd, 1) := dk_96 (dk_at dksX1_fill_0 16 rfl rfl)
theorem dX1_fill_17 : decode cX1_fill 17 = .ok (.sipush 2048, 3) := dk_17 8 0 (dk_at dksX1_fill_0 17 rfl rfl)
theorem dX1_fill_20 : decode cX1_fill 20 = .ok (.if_icmp .le 13, 3) := dk_164 0 13 (dk_at dksX1_fill_0 20 rfl rfl)
theorem dX1_fill_23 : decode cX1_fill 23 = .ok (.sipush 2048, 3) := dk_17 8 0 (dk_at dksX1_fill_1 0 rfl rfl)
theorem dX1_fill_26 : decode cX1_fill 26 = .ok (.aload_n 0, 1) := dk_42 (dk_at dksX1_fill_1 3 rfl rfl)
theorem dX1_fill_27 : decode cX1_fill 27 = .ok (.getfield 16, 3) := dk_180 0 16 (dk_at dksX1_fill_1 4 rfl rfl)
theorem dX1_fill_30 : decode cX1_fill 30 = .ok (.isub, 1) := dk_100 (dk_at dksX1_fill_1 7 rfl rfl)
theorem dX1_fill_31 : decode cX1_fill 31 = .ok (.istore 4, 2) := dk_54 4 (dk_at dksX1_fill_1 8 rfl rfl)
theorem dX1_fill_33 : decode cX1_fill 33 = .ok (.iload_n 1, 1) := dk_27 (dk_at dksX1_fill_1 10 rfl rfl)
theorem dX1_fill_34 : decode cX1_fill 34 = .ok (.istore 5, 2) := dk_54 5 (dk_at dksX1_fill_1 11 rfl rfl)
theorem dX1_fill_36 : decode cX1_fill 36 = .ok (.iconst 0, 1) := dk_3 (dk_at dksX1_fill_1 13 rfl rfl)
theorem dX1_fill_37 : decode cX1_fill 37 = .ok (.istore 6, 2) := dk_54 6 (dk_at dksX1_fill_1 14 rfl rfl)
theorem dX1_fill_39 : decode cX1_fill 39 = .ok (.iload 6, 2) := dk_21 6 (dk_at dksX1_fill_1 16 rfl rfl)
theorem dX1_fill_41 : decode cX1_fill 41 = .ok (.iload 4, 2) := dk_21 4 (dk_at dksX1_fill_1 18 rfl rfl)
theorem dX1_fill_43 : decode cX1_fill 43 = .ok (.if_icmp .ge 36, 3) := dk_162 0 36 (dk_at dksX1_fill_1 20 rfl rfl)
theorem dX1_fill_46 : decode cX1_fill 46 = .ok (.aload_n 0, 1) := dk_42 (dk_at dksX1_fill_1 23 rfl rfl)
theorem dX1_fill_47 : decode cX1_fill 47 = .ok (.getfield 7, 3) := dk_180 0 7 (dk_at dksX1_fill_2 0 rfl rfl)
theorem dX1_fill_50 : decode cX1_fill 50 = .ok (.aload_n 0, 1) := dk_42 (dk_at dksX1_fill_2 3 rfl rfl)
theorem dX1_fill_51 : decode cX1_fill 51 = .ok (.getfield 16, 3) := dk_180 0 16 (dk_at dksX1_fill_2 4 rfl rfl)
theorem dX1_fill_54 : decode cX1_fill 54 = .ok (.iload 5, 2) := dk_21 5 (dk_at dksX1_fill_2 7 rfl rfl)
theorem dX1_fill_56 : decode cX1_fill 56 = .ok (.iastore, 1) := dk_79 (dk_at dksX1_fill_2 9 rfl rfl)
theorem dX1_fill_57 : decode cX1_fill 57 = .ok (.aload_n 0, 1) := dk_42 (dk_at dksX1_fill_2 10 rfl rfl)
theorem dX1_fill_58 : decode cX1_fill 58 = .ok (.aload_n 0, 1) := dk_42 (dk_at dksX1_fill_2 11 rfl rfl)
theorem dX1_fill_59 : decode cX1_fill 59 = .ok (.getfield 16, 3) := dk_180 0 16 (dk_at dksX1_fill_2 12 rfl rfl)
theorem dX1_fill_62 : decode cX1_fill 62 = .ok (.iconst 1, 1) := dk_4 (dk_at dksX1_fill_2 15 rfl rfl)
theorem dX1_fill_63 : decode cX1_fill 63 = .ok (.iadd, 1) := dk_96 (dk_at dksX1_fill_2 16 rfl rfl)
theorem dX1_fill_64 : decode cX1_fill 64 = .ok (.putfield 16, 3) := dk_181 0 16 (dk_at dksX1_fill_2 17 rfl rfl)
theorem dX1_fill_67 : decode cX1_fill 67 = .ok (.iload 5, 2) := dk_21 5 (dk_at dksX1_fill_2 20 rfl rfl)
theorem dX1_fill_69 : decode cX1_fill 69 = .ok (.iload_n 2, 1) := dk_28 (dk_at dksX1_fill_2 22 rfl rfl)
theorem dX1_fill_70 : decode cX1_fill 70 = .ok (.iadd, 1) := dk_96 (dk_at dksX1_fill_2 23 rfl rfl)
theorem dX1_fill_71 : decode cX1_fill 71 = .ok (.istore 5, 2) := dk_54 5 (dk_at dksX1_fill_3 0 rfl rfl)
theorem dX1_fill_73 : decode cX1_fill 73 = .ok (.iinc 6 1, 3) := dk_132 6 1 (dk_at dksX1_fill_3 2 rfl rfl)
theorem dX1_fill_76 : decode cX1_fill 76 = .ok (.goto (-37), 3) := dk_167 255 219 (dk_at dksX1_fill_3 5 rfl rfl)
theorem dX1_fill_79 : decode cX1_fill 79 = .ok (.iload 4, 2) := dk_21 4 (dk_at dksX1_fill_3 8 rfl rfl)
theorem dX1_fill_81 : decode cX1_fill 81 = .ok (.ireturn, 1) := dk_172 (dk_at dksX1_fill_3 10 rfl rfl)
abbrev cX1_trim : ByteArray := prog_4_method_4_code
def yX1_trim : MethodName := ⟨RX1, "trim", "(I)V"⟩
def dkwX1_trim_0 : List UInt8 := [42, 27, 18, 20, 126, 42, 180, 0, 16, 4, 96, 112, 181, 0, 16, 177]
abbrev dktX1_trim_0 : List UInt8 := dkwX1_trim_0 ++ []
theorem dksX1_trim_0 : cX1_trim.data.toList.drop 0 = dktX1_trim_0 := by decide +kernel
theorem dX1_trim_0 : decode cX1_trim 0 = .ok (.aload_n 0, 1) := dk_42 (dk_at dksX1_trim_0 0 rfl rfl)
theorem dX1_trim_1 : decode cX1_trim 1 = .ok (.iload_n 1, 1) := dk_27 (dk_at dksX1_trim_0 1 rfl rfl)
theorem dX1_trim_2 : decode cX1_trim 2 = .ok (.ldc 20, 2) := dk_18 20 (dk_at dksX1_trim_0 2 rfl rfl)
theorem dX1_trim_4 : decode cX1_trim 4 = .ok (.iand, 1) := dk_126 (dk_at dksX1_trim_0 4 rfl rfl)
theorem dX1_trim_5 : decode cX1_trim 5 = .ok (.aload_n 0, 1) := dk_42 (dk_at dksX1_trim_0 5 rfl rfl)
theorem dX1_trim_6 : decode cX1_trim 6 = .ok (.getfield 16, 3) := dk_180 0 16 (dk_at dksX1_trim_0 6 rfl rfl)
theorem dX1_trim_9 : decode cX1_trim 9 = .ok (.iconst 1, 1) := dk_4 (dk_at dksX1_trim_0 9 rfl rfl)
theorem dX1_trim_10 : decode cX1_trim 10 = .ok (.iadd, 1) := dk_96 (dk_at dksX1_trim_0 10 rfl rfl)
theorem dX1_trim_11 : decode cX1_trim 11 = .ok (.irem, 1) := dk_112 (dk_at dksX1_trim_0 11 rfl rfl)
theorem dX1_trim_12 : decode cX1_trim 12 = .ok (.putfield 16, 3) := dk_181 0 16 (dk_at dksX1_trim_0 12 rfl rfl)
theorem dX1_trim_15 : decode cX1_trim 15 = .ok (.return_, 1) := dk_177 (dk_at dksX1_trim_0 15 rfl rfl)
abbrev cX1_size : ByteArray := prog_4_method_5_code
def yX1_size : MethodName := ⟨RX1, "size", "()I"⟩
theorem dX1_size_0 : decode cX1_size 0 = .ok (.aload_n 0, 1) := by decide +kernel
theorem dX1_size_1 : decode cX1_size 1 = .ok (.getfield 16, 3) := by decide +kernel
theorem dX1_size_4 : decode cX1_size 4 = .ok (.ireturn, 1) := by decide +kernel
abbrev cX1_at : ByteArray := prog_4_method_6_code
def yX1_at : MethodName := ⟨RX1, "at", "(I)I"⟩
def dkwX1_at_1 : List UInt8 := [46, 172]
abbrev dktX1_at_1 : List UInt8 := dkwX1_at_1 ++ []
def dkwX1_at_0 : List UInt8 := [42, 180, 0, 16, 154, 0, 7, 3, 167, 0, 17, 42, 180, 0, 7, 27, 18, 20, 126, 42, 180, 0, 16, 112]
abbrev dktX1_at_0 : List UInt8 := dkwX1_at_0 ++ dktX1_at_1
theorem dksX1_at_0 : cX1_at.data.toList.drop 0 = dktX1_at_0 := by decide +kernel
theorem dksX1_at_1 : cX1_at.data.toList.drop 24 = dktX1_at_1 := dk_seg dksX1_at_0 24 rfl rfl
theorem dX1_at_0 : decode cX1_at 0 = .ok (.aload_n 0, 1) := dk_42 (dk_at dksX1_at_0 0 rfl rfl)
theorem dX1_at_1 : decode cX1_at 1 = .ok (.getfield 16, 3) := dk_180 0 16 (dk_at dksX1_at_0 1 rfl rfl)
theorem dX1_at_4 : decode cX1_at 4 = .ok (.ifCond .ne 7, 3) := dk_154 0 7 (dk_at dksX1_at_0 4 rfl rfl)
theorem dX1_at_7 : decode cX1_at 7 = .ok (.iconst 0, 1) := dk_3 (dk_at dksX1_at_0 7 rfl rfl)
theorem dX1_at_8 : decode cX1_at 8 = .ok (.goto 17, 3) := dk_167 0 17 (dk_at dksX1_at_0 8 rfl rfl)
theorem dX1_at_11 : decode cX1_at 11 = .ok (.aload_n 0, 1) := dk_42 (dk_at dksX1_at_0 11 rfl rfl)
theorem dX1_at_12 : decode cX1_at 12 = .ok (.getfield 7, 3) := dk_180 0 7 (dk_at dksX1_at_0 12 rfl rfl)
theorem dX1_at_15 : decode cX1_at 15 = .ok (.iload_n 1, 1) := dk_27 (dk_at dksX1_at_0 15 rfl rfl)
theorem dX1_at_16 : decode cX1_at 16 = .ok (.ldc 20, 2) := dk_18 20 (dk_at dksX1_at_0 16 rfl rfl)
theorem dX1_at_18 : decode cX1_at 18 = .ok (.iand, 1) := dk_126 (dk_at dksX1_at_0 18 rfl rfl)
theorem dX1_at_19 : decode cX1_at 19 = .ok (.aload_n 0, 1) := dk_42 (dk_at dksX1_at_0 19 rfl rfl)
theorem dX1_at_20 : decode cX1_at 20 = .ok (.getfield 16, 3) := dk_180 0 16 (dk_at dksX1_at_0 20 rfl rfl)
theorem dX1_at_23 : decode cX1_at 23 = .ok (.irem, 1) := dk_112 (dk_at dksX1_at_0 23 rfl rfl)
theorem dX1_at_24 : decode cX1_at 24 = .ok (.iaload, 1) := dk_46 (dk_at dksX1_at_1 0 rfl rfl)
theorem dX1_at_25 : decode cX1_at 25 = .ok (.ireturn, 1) := dk_172 (dk_at dksX1_at_1 1 rfl rfl)
abbrev cX1_quick : ByteArray := prog_4_method_8_code
def yX1_quick : MethodName := ⟨RX1, "quick", "(II)V"⟩
def dkwX1_quick_0 : List UInt8 := [42, 27, 28, 182, 0, 21, 177]
abbrev dktX1_quick_0 : List UInt8 := dkwX1_quick_0 ++ []
theorem dksX1_quick_0 : cX1_quick.data.toList.drop 0 = dktX1_quick_0 := by decide +kernel
theorem dX1_quick_0 : decode cX1_quick 0 = .ok (.aload_n 0, 1) := dk_42 (dk_at dksX1_quick_0 0 rfl rfl)
theorem dX1_quick_1 : decode cX1_quick 1 = .ok (.iload_n 1, 1) := dk_27 (dk_at dksX1_quick_0 1 rfl rfl)
theorem dX1_quick_2 : decode cX1_quick 2 = .ok (.iload_n 2, 1) := dk_28 (dk_at dksX1_quick_0 2 rfl rfl)
theorem dX1_quick_3 : decode cX1_quick 3 = .ok (.invokevirtual 21, 3) := dk_182 0 21 (dk_at dksX1_quick_0 3 rfl rfl)
theorem dX1_quick_6 : decode cX1_quick 6 = .ok (.return_, 1) := dk_177 (dk_at dksX1_quick_0 6 rfl rfl)
abbrev cX1_sort : ByteArray := prog_4_method_7_code
def yX1_sort : MethodName := ⟨RX1, "sort", "(II)V"⟩
def dkwX1_sort_10 : List UInt8 := [167, 255, 232, 21, 5, 5, 104, 54, 5, 167, 255, 46, 177]
abbrev dktX1_sort_10 : List UInt8 := dkwX1_sort_10 ++ []
def dkwX1_sort_9 : List UInt8 := [21, 4, 162, 0, 23, 42, 180, 0, 7, 21, 6, 42, 180, 0, 13, 21, 6, 46, 79, 132, 6, 1]
abbrev dktX1_sort_9 : List UInt8 := dkwX1_sort_9 ++ dktX1_sort_10
def dkwX1_sort_8 : List UInt8 := [132, 11, 1, 167, 255, 172, 21, 6, 5, 21, 5, 104, 96, 54, 6, 167, 255, 97, 29, 54, 6, 21, 6]
abbrev dktX1_sort_8 : List UInt8 := dkwX1_sort_8 ++ dktX1_sort_9
def dkwX1_sort_7 : List UInt8 := [167, 0, 23, 42, 180, 0, 13, 21, 11, 42, 180, 0, 7, 21, 10, 46, 79, 21, 10, 4, 96, 54, 10]
abbrev dktX1_sort_7 : List UInt8 := dkwX1_sort_7 ++ dktX1_sort_8
def dkwX1_sort_6 : List UInt8 := [163, 0, 26, 42, 180, 0, 13, 21, 11, 42, 180, 0, 7, 21, 9, 46, 79, 21, 9, 4, 96, 54, 9]
abbrev dktX1_sort_6 : List UInt8 := dkwX1_sort_6 ++ dktX1_sort_7
def dkwX1_sort_5 : List UInt8 := [159, 0, 27, 21, 9, 21, 7, 162, 0, 43, 42, 180, 0, 7, 21, 9, 46, 42, 180, 0, 7, 21, 10, 46]
abbrev dktX1_sort_5 : List UInt8 := dkwX1_sort_5 ++ dktX1_sort_6
def dkwX1_sort_4 : List UInt8 := [21, 6, 54, 9, 21, 7, 54, 10, 21, 6, 54, 11, 21, 11, 21, 8, 162, 0, 83, 21, 10, 21, 8]
abbrev dktX1_sort_4 : List UInt8 := dkwX1_sort_4 ++ dktX1_sort_5
def dkwX1_sort_3 : List UInt8 := [54, 7, 21, 7, 21, 5, 96, 21, 4, 162, 0, 11, 21, 7, 21, 5, 96, 167, 0, 5, 21, 4, 54, 8]
abbrev dktX1_sort_3 : List UInt8 := dkwX1_sort_3 ++ dktX1_sort_4
def dkwX1_sort_2 : List UInt8 := [162, 0, 158, 21, 6, 21, 5, 96, 21, 4, 162, 0, 11, 21, 6, 21, 5, 96, 167, 0, 5, 21, 4]
abbrev dktX1_sort_2 : List UInt8 := dkwX1_sort_2 ++ dktX1_sort_3
def dkwX1_sort_1 : List UInt8 := [96, 112, 96, 54, 4, 4, 54, 5, 21, 5, 21, 4, 29, 100, 162, 0, 207, 29, 54, 6, 21, 6, 21, 4]
abbrev dktX1_sort_1 : List UInt8 := dkwX1_sort_1 ++ dktX1_sort_2
def dkwX1_sort_0 : List UInt8 := [27, 18, 20, 126, 42, 180, 0, 16, 4, 96, 112, 62, 29, 28, 18, 20, 126, 42, 180, 0, 16, 29, 100, 4]
abbrev dktX1_sort_0 : List UInt8 := dkwX1_sort_0 ++ dktX1_sort_1
theorem dksX1_sort_0 : cX1_sort.data.toList.drop 0 = dktX1_sort_0 := by decide +kernel
theorem dksX1_sort_1 : cX1_sort.data.toList.drop 24 = dktX1_sort_1 := dk_seg dksX1_sort_0 24 rfl rfl
theorem dksX1_sort_2 : cX1_sort.data.toList.drop 48 = dktX1_sort_2 := dk_seg dksX1_sort_1 24 rfl rfl
theorem dksX1_sort_3 : cX1_sort.data.toList.drop 71 = dktX1_sort_3 := dk_seg dksX1_sort_2 23 rfl rfl
theorem dksX1_sort_4 : cX1_sort.data.toList.drop 95 = dktX1_sort_4 := dk_seg dksX1_sort_3 24 rfl rfl
theorem dksX1_sort_5 : cX1_sort.data.toList.drop 118 = dktX1_sort_5 := dk_seg dksX1_sort_4 23 rfl rfl
theorem dksX1_sort_6 : cX1_sort.data.toList.drop 142 = dktX1_sort_6 := dk_seg dksX1_sort_5 24 rfl rfl
theorem dksX1_sort_7 : cX1_sort.data.toList.drop 165 = dktX1_sort_7 := dk_seg dksX1_sort_6 23 rfl rfl
theorem dksX1_sort_8 : cX1_sort.data.toList.drop 188 = dktX1_sort_8 := dk_seg dksX1_sort_7 23 rfl rfl
theorem dksX1_sort_9 : cX1_sort.data.toList.drop 211 = dktX1_sort_9 := dk_seg dksX1_sort_8 23 rfl rfl
theorem dksX1_sort_10 : cX1_sort.data.toList.drop 233 = dktX1_sort_10 := dk_seg dksX1_sort_9 22 rfl rfl
theorem dX1_sort_0 : decode cX1_sort 0 = .ok (.iload_n 1, 1) := dk_27 (dk_at dksX1_sort_0 0 rfl rfl)
theorem dX1_sort_1 : decode cX1_sort 1 = .ok (.ldc 20, 2) := dk_18 20 (dk_at dksX1_sort_0 1 rfl rfl)
theorem dX1_sort_3 : decode cX1_sort 3 = .ok (.iand, 1) := dk_126 (dk_at dksX1_sort_0 3 rfl rfl)
theorem dX1_sort_4 : decode cX1_sort 4 = .ok (.aload_n 0, 1) := dk_42 (dk_at dksX1_sort_0 4 rfl rfl)
theorem dX1_sort_5 : decode cX1_sort 5 = .ok (.getfield 16, 3) := dk_180 0 16 (dk_at dksX1_sort_0 5 rfl rfl)
theorem dX1_sort_8 : decode cX1_sort 8 = .ok (.iconst 1, 1) := dk_4 (dk_at dksX1_sort_0 8 rfl rfl)
theorem dX1_sort_9 : decode cX1_sort 9 = .ok (.iadd, 1) := dk_96 (dk_at dksX1_sort_0 9 rfl rfl)
theorem dX1_sort_10 : decode cX1_sort 10 = .ok (.irem, 1) := dk_112 (dk_at dksX1_sort_0 10 rfl rfl)
theorem dX1_sort_11 : decode cX1_sort 11 = .ok (.istore_n 3, 1) := dk_62 (dk_at dksX1_sort_0 11 rfl rfl)
theorem dX1_sort_12 : decode cX1_sort 12 = .ok (.iload_n 3, 1) := dk_29 (dk_at dksX1_sort_0 12 rfl rfl)
theorem dX1_sort_13 : decode cX1_sort 13 = .ok (.iload_n 2, 1) := dk_28 (dk_at dksX1_sort_0 13 rfl rfl)
theorem dX1_sort_14 : decode cX1_sort 14 = .ok (.ldc 20, 2) := dk_18 20 (dk_at dksX1_sort_0 14 rfl rfl)
theorem dX1_sort_16 : decode cX1_sort 16 = .ok (.iand, 1) := dk_126 (dk_at dksX1_sort_0 16 rfl rfl)
theorem dX1_sort_17 : decode cX1_sort 17 = .ok (.aload_n 0, 1) := dk_42 (dk_at dksX1_sort_0 17 rfl rfl)
theorem dX1_sort_18 : decode cX1_sort 18 = .ok (.getfield 16, 3) := dk_180 0 16 (dk_at dksX1_sort_0 18 rfl rfl)
theorem dX1_sort_21 : decode cX1_sort 21 = .ok (.iload_n 3, 1) := dk_29 (dk_at dksX1_sort_0 21 rfl rfl)
theorem dX1_sort_22 : decode cX1_sort 22 = .ok (.isub, 1) := dk_100 (dk_at dksX1_sort_0 22 rfl rfl)
theorem dX1_sort_23 : decode cX1_sort 23 = .ok (.iconst 1, 1) := dk_4 (dk_at dksX1_sort_0 23 rfl rfl)
theorem dX1_sort_24 : decode cX1_sort 24 = .ok (.iadd, 1) := dk_96 (dk_at dksX1_sort_1 0 rfl rfl)
theorem dX1_sort_25 : decode cX1_sort 25 = .ok (.irem, 1) := dk_112 (dk_at dksX1_sort_1 1 rfl rfl)
theorem dX1_sort_26 : decode cX1_sort 26 = .ok (.iadd, 1) := dk_96 (dk_at dksX1_sort_1 2 rfl rfl)
theorem dX1_sort_27 : decode cX1_sort 27 = .ok (.istore 4, 2) := dk_54 4 (dk_at dksX1_sort_1 3 rfl rfl)
theorem dX1_sort_29 : decode cX1_sort 29 = .ok (.iconst 1, 1) := dk_4 (dk_at dksX1_sort_1 5 rfl rfl)
theorem dX1_sort_30 : decode cX1_sort 30 = .ok (.istore 5, 2) := dk_54 5 (dk_at dksX1_sort_1 6 rfl rfl)
theorem dX1_sort_32 : decode cX1_sort 32 = .ok (.iload 5, 2) := dk_21 5 (dk_at dksX1_sort_1 8 rfl rfl)
theorem dX1_sort_34 : decode cX1_sort 34 = .ok (.iload 4, 2) := dk_21 4 (dk_at dksX1_sort_1 10 rfl rfl)
theorem dX1_sort_36 : decode cX1_sort 36 = .ok (.iload_n 3, 1) := dk_29 (dk_at dksX1_sort_1 12 rfl rfl)
theorem dX1_sort_37 : decode cX1_sort 37 = .ok (.isub, 1) := dk_100 (dk_at dksX1_sort_1 13 rfl rfl)
theorem dX1_sort_38 : decode cX1_sort 38 = .ok (.if_icmp .ge 207, 3) := dk_162 0 207 (dk_at dksX1_sort_1 14 rfl rfl)
theorem dX1_sort_41 : decode cX1_sort 41 = .ok (.iload_n 3, 1) := dk_29 (dk_at dksX1_sort_1 17 rfl rfl)
theorem dX1_sort_42 : decode cX1_sort 42 = .ok (.istore 6, 2) := dk_54 6 (dk_at dksX1_sort_1 18 rfl rfl)
theorem dX1_sort_44 : decode cX1_sort 44 = .ok (.iload 6, 2) := dk_21 6 (dk_at dksX1_sort_1 20 rfl rfl)
theorem dX1_sort_46 : decode cX1_sort 46 = .ok (.iload 4, 2) := dk_21 4 (dk_at dksX1_sort_1 22 rfl rfl)
theorem dX1_sort_48 : decode cX1_sort 48 = .ok (.if_icmp .ge 158, 3) := dk_162 0 158 (dk_at dksX1_sort_2 0 rfl rfl)
theorem dX1_sort_51 : decode cX1_sort 51 = .ok (.iload 6, 2) := dk_21 6 (dk_at dksX1_sort_2 3 rfl rfl)
theorem dX1_sort_53 : decode cX1_sort 53 = .ok (.iload 5, 2) := dk_21 5 (dk_at dksX1_sort_2 5 rfl rfl)
theorem dX1_sort_55 : decode cX1_sort 55 = .ok (.iadd, 1) := dk_96 (dk_at dksX1_sort_2 7 rfl rfl)
theorem dX1_sort_56 : decode cX1_sort 56 = .ok (.iload 4, 2) := dk_21 4 (dk_at dksX1_sort_2 8 rfl rfl)
theorem dX1_sort_58 : decode cX1_sort 58 = .ok (.if_icmp .ge 11, 3) := dk_162 0 11 (dk_at dksX1_sort_2 10 rfl rfl)
theorem dX1_sort_61 : decode cX1_sort 61 = .ok (.iload 6, 2) := dk_21 6 (dk_at dksX1_sort_2 13 rfl rfl)
theorem dX1_sort_63 : decode cX1_sort 63 = .ok (.iload 5, 2) := dk_21 5 (dk_at dksX1_sort_2 15 rfl rfl)
theorem dX1_sort_65 : decode cX1_sort 65 = .ok (.iadd, 1) := dk_96 (dk_at dksX1_sort_2 17 rfl rfl)
theorem dX1_sort_66 : decode cX1_sort 66 = .ok (.goto 5, 3) := dk_167 0 5 (dk_at dksX1_sort_2 18 rfl rfl)
theorem dX1_sort_69 : decode cX1_sort 69 = .ok (.iload 4, 2) := dk_21 4 (dk_at dksX1_sort_2 21 rfl rfl)
theorem dX1_sort_71 : decode cX1_sort 71 = .ok (.istore 7, 2) := dk_54 7 (dk_at dksX1_sort_3 0 rfl rfl)
theorem dX1_sort_73 : decode cX1_sort 73 = .ok (.iload 7, 2) := dk_21 7 (dk_at dksX1_sort_3 2 rfl rfl)
theorem dX1_sort_75 : decode cX1_sort 75 = .ok (.iload 5, 2) := dk_21 5 (dk_at dksX1_sort_3 4 rfl rfl)
theorem dX1_sort_77 : decode cX1_sort 77 = .ok (.iadd, 1) := dk_96 (dk_at dksX1_sort_3 6 rfl rfl)
theorem dX1_sort_78 : decode cX1_sort 78 = .ok (.iload 4, 2) := dk_21 4 (dk_at dksX1_sort_3 7 rfl rfl)
theorem dX1_sort_80 : decode cX1_sort 80 = .ok (.if_icmp .ge 11, 3) := dk_162 0 11 (dk_at dksX1_sort_3 9 rfl rfl)
theorem dX1_sort_83 : decode cX1_sort 83 = .ok (.iload 7, 2) := dk_21 7 (dk_at dksX1_sort_3 12 rfl rfl)
theorem dX1_sort_85 : decode cX1_sort 85 = .ok (.iload 5, 2) := dk_21 5 (dk_at dksX1_sort_3 14 rfl rfl)
theorem dX1_sort_87 : decode cX1_sort 87 = .ok (.iadd, 1) := dk_96 (dk_at dksX1_sort_3 16 rfl rfl)
theorem dX1_sort_88 : decode cX1_sort 88 = .ok (.goto 5, 3) := dk_167 0 5 (dk_at dksX1_sort_3 17 rfl rfl)
theorem dX1_sort_91 : decode cX1_sort 91 = .ok (.iload 4, 2) := dk_21 4 (dk_at dksX1_sort_3 20 rfl rfl)
theorem dX1_sort_93 : decode cX1_sort 93 = .ok (.istore 8, 2) := dk_54 8 (dk_at dksX1_sort_3 22 rfl rfl)
theorem dX1_sort_95 : decode cX1_sort 95 = .ok (.iload 6, 2) := dk_21 6 (dk_at dksX1_sort_4 0 rfl rfl)
theorem dX1_sort_97 : decode cX1_sort 97 = .ok (.istore 9, 2) := dk_54 9 (dk_at dksX1_sort_4 2 rfl rfl)
theorem dX1_sort_99 : decode cX1_sort 99 = .ok (.iload 7, 2) := dk_21 7 (dk_at dksX1_sort_4 4 rfl rfl)
theorem dX1_sort_101 : decode cX1_sort 101 = .ok (.istore 10, 2) := dk_54 10 (dk_at dksX1_sort_4 6 rfl rfl)
theorem dX1_sort_103 : decode cX1_sort 103 = .ok (.iload 6, 2) := dk_21 6 (dk_at dksX1_sort_4 8 rfl rfl)
theorem dX1_sort_105 : decode cX1_sort 105 = .ok (.istore 11, 2) := dk_54 11 (dk_at dksX1_sort_4 10 rfl rfl)
theorem dX1_sort_107 : decode cX1_sort 107 = .ok (.iload 11, 2) := dk_21 11 (dk_at dksX1_sort_4 12 rfl rfl)
theorem dX1_sort_109 : decode cX1_sort 109 = .ok (.iload 8, 2) := dk_21 8 (dk_at dksX1_sort_4 14 rfl rfl)
theorem dX1_sort_111 : decode cX1_sort 111 = .ok (.if_icmp .ge 83, 3) := dk_162 0 83 (dk_at dksX1_sort_4 16 rfl rfl)
theorem dX1_sort_114 : decode cX1_sort 114 = .ok (.iload 10, 2) := dk_21 10 (dk_at dksX1_sort_4 19 rfl rfl)
theorem dX1_sort_116 : decode cX1_sort 116 = .ok (.iload 8, 2) := dk_21 8 (dk_at dksX1_sort_4 21 rfl rfl)
theorem dX1_sort_118 : decode cX1_sort 118 = .ok (.if_icmp .eq 27, 3) := dk_159 0 27 (dk_at dksX1_sort_5 0 rfl rfl)
theorem dX1_sort_121 : decode cX1_sort 121 = .ok (.iload 9, 2) := dk_21 9 (dk_at dksX1_sort_5 3 rfl rfl)
theorem dX1_sort_123 : decode cX1_sort 123 = .ok (.iload 7, 2) := dk_21 7 (dk_at dksX1_sort_5 5 rfl rfl)
theorem dX1_sort_125 : decode cX1_sort 125 = .ok (.if_icmp .ge 43, 3) := dk_162 0 43 (dk_at dksX1_sort_5 7 rfl rfl)
theorem dX1_sort_128 : decode cX1_sort 128 = .ok (.aload_n 0, 1) := dk_42 (dk_at dksX1_sort_5 10 rfl rfl)
theorem dX1_sort_129 : decode cX1_sort 129 = .ok (.getfield 7, 3) := dk_180 0 7 (dk_at dksX1_sort_5 11 rfl rfl)
theorem dX1_sort_132 : decode cX1_sort 132 = .ok (.iload 9, 2) := dk_21 9 (dk_at dksX1_sort_5 14 rfl rfl)
theorem dX1_sort_134 : decode cX1_sort 134 = .ok (.iaload, 1) := dk_46 (dk_at dksX1_sort_5 16 rfl rfl)
theorem dX1_sort_135 : decode cX1_sort 135 = .ok (.aload_n 0, 1) := dk_42 (dk_at dksX1_sort_5 17 rfl rfl)
theorem dX1_sort_136 : decode cX1_sort 136 = .ok (.getfield 7, 3) := dk_180 0 7 (dk_at dksX1_sort_5 18 rfl rfl)
theorem dX1_sort_139 : decode cX1_sort 139 = .ok (.iload 10, 2) := dk_21 10 (dk_at dksX1_sort_5 21 rfl rfl)
theorem dX1_sort_141 : decode cX1_sort 141 = .ok (.iaload, 1) := dk_46 (dk_at dksX1_sort_5 23 rfl rfl)
theorem dX1_sort_142 : decode cX1_sort 142 = .ok (.if_icmp .gt 26, 3) := dk_163 0 26 (dk_at dksX1_sort_6 0 rfl rfl)
theorem dX1_sort_145 : decode cX1_sort 145 = .ok (.aload_n 0, 1) := dk_42 (dk_at dksX1_sort_6 3 rfl rfl)
theorem dX1_sort_146 : decode cX1_sort 146 = .ok (.getfield 13, 3) := dk_180 0 13 (dk_at dksX1_sort_6 4 rfl rfl)
theorem dX1_sort_149 : decode cX1_sort 149 = .ok (.iload 11, 2) := dk_21 11 (dk_at dksX1_sort_6 7 rfl rfl)
theorem dX1_sort_151 : decode cX1_sort 151 = .ok (.aload_n 0, 1) := dk_42 (dk_at dksX1_sort_6 9 rfl rfl)
theorem dX1_sort_152 : decode cX1_sort 152 = .ok (.getfield 7, 3) := dk_180 0 7 (dk_at dksX1_sort_6 10 rfl rfl)
theorem dX1_sort_155 : decode cX1_sort 155 = .ok (.iload 9, 2) := dk_21 9 (dk_at dksX1_sort_6 13 rfl rfl)
theorem dX1_sort_157 : decode cX1_sort 157 = .ok (.iaload, 1) := dk_46 (dk_at dksX1_sort_6 15 rfl rfl)
theorem dX1_sort_158 : decode cX1_sort 158 = .ok (.iastore, 1) := dk_79 (dk_at dksX1_sort_6 16 rfl rfl)
theorem dX1_sort_159 : decode cX1_sort 159 = .ok (.iload 9, 2) := dk_21 9 (dk_at dksX1_sort_6 17 rfl rfl)
theorem dX1_sort_161 : decode cX1_sort 161 = .ok (.iconst 1, 1) := dk_4 (dk_at dksX1_sort_6 19 rfl rfl)
theorem dX1_sort_162 : decode cX1_sort 162 = .ok (.iadd, 1) := dk_96 (dk_at dksX1_sort_6 20 rfl rfl)
theorem dX1_sort_163 : decode cX1_sort 163 = .ok (.istore 9, 2) := dk_54 9 (dk_at dksX1_sort_6 21 rfl rfl)
theorem dX1_sort_165 : decode cX1_sort 165 = .ok (.goto 23, 3) := dk_167 0 23 (dk_at dksX1_sort_7 0 rfl rfl)
theorem dX1_sort_168 : decode cX1_sort 168 = .ok (.aload_n 0, 1) := dk_42 (dk_at dksX1_sort_7 3 rfl rfl)
theorem dX1_sort_169 : decode cX1_sort 169 = .ok (.getfield 13, 3) := dk_180 0 13 (dk_at dksX1_sort_7 4 rfl rfl)
theorem dX1_sort_172 : decode cX1_sort 172 = .ok (.iload 11, 2) := dk_21 11 (dk_at dksX1_sort_7 7 rfl rfl)
theorem dX1_sort_174 : decode cX1_sort 174 = .ok (.aload_n 0, 1) := dk_42 (dk_at dksX1_sort_7 9 rfl rfl)
theorem dX1_sort_175 : decode cX1_sort 175 = .ok (.getfield 7, 3) := dk_180 0 7 (dk_at dksX1_sort_7 10 rfl rfl)
theorem dX1_sort_178 : decode cX1_sort 178 = .ok (.iload 10, 2) := dk_21 10 (dk_at dksX1_sort_7 13 rfl rfl)
theorem dX1_sort_180 : decode cX1_sort 180 = .ok (.iaload, 1) := dk_46 (dk_at dksX1_sort_7 15 rfl rfl)
theorem dX1_sort_181 : decode cX1_sort 181 = .ok (.iastore, 1) := dk_79 (dk_at dksX1_sort_7 16 rfl rfl)
theorem dX1_sort_182 : decode cX1_sort 182 = .ok (.iload 10, 2) := dk_21 10 (dk_at dksX1_sort_7 17 rfl rfl)
theorem dX1_sort_184 : decode cX1_sort 184 = .ok (.iconst 1, 1) := dk_4 (dk_at dksX1_sort_7 19 rfl rfl)
theorem dX1_sort_185 : decode cX1_sort 185 = .ok (.iadd, 1) := dk_96 (dk_at dksX1_sort_7 20 rfl rfl)
theorem dX1_sort_186 : decode cX1_sort 186 = .ok (.istore 10, 2) := dk_54 10 (dk_at dksX1_sort_7 21 rfl rfl)
theorem dX1_sort_188 : decode cX1_sort 188 = .ok (.iinc 11 1, 3) := dk_132 11 1 (dk_at dksX1_sort_8 0 rfl rfl)
theorem dX1_sort_191 : decode cX1_sort 191 = .ok (.goto (-84), 3) := dk_167 255 172 (dk_at dksX1_sort_8 3 rfl rfl)
theorem dX1_sort_194 : decode cX1_sort 194 = .ok (.iload 6, 2) := dk_21 6 (dk_at dksX1_sort_8 6 rfl rfl)
theorem dX1_sort_196 : decode cX1_sort 196 = .ok (.iconst 2, 1) := dk_5 (dk_at dksX1_sort_8 8 rfl rfl)
theorem dX1_sort_197 : decode cX1_sort 197 = .ok (.iload 5, 2) := dk_21 5 (dk_at dksX1_sort_8 9 rfl rfl)
theorem dX1_sort_199 : decode cX1_sort 199 = .ok (.imul, 1) := dk_104 (dk_at dksX1_sort_8 11 rfl rfl)
theorem dX1_sort_200 : decode cX1_sort 200 = .ok (.iadd, 1) := dk_96 (dk_at dksX1_sort_8 12 rfl rfl)
theorem dX1_sort_201 : decode cX1_sort 201 = .ok (.istore 6, 2) := dk_54 6 (dk_at dksX1_sort_8 13 rfl rfl)
theorem dX1_sort_203 : decode cX1_sort 203 = .ok (.goto (-159), 3) := dk_167 255 97 (dk_at dksX1_sort_8 15 rfl rfl)
theorem dX1_sort_206 : decode cX1_sort 206 = .ok (.iload_n 3, 1) := dk_29 (dk_at dksX1_sort_8 18 rfl rfl)
theorem dX1_sort_207 : decode cX1_sort 207 = .ok (.istore 6, 2) := dk_54 6 (dk_at dksX1_sort_8 19 rfl rfl)
theorem dX1_sort_209 : decode cX1_sort 209 = .ok (.iload 6, 2) := dk_21 6 (dk_at dksX1_sort_8 21 rfl rfl)
theorem dX1_sort_211 : decode cX1_sort 211 = .ok (.iload 4, 2) := dk_21 4 (dk_at dksX1_sort_9 0 rfl rfl)
theorem dX1_sort_213 : decode cX1_sort 213 = .ok (.if_icmp .ge 23, 3) := dk_162 0 23 (dk_at dksX1_sort_9 2 rfl rfl)
theorem dX1_sort_216 : decode cX1_sort 216 = .ok (.aload_n 0, 1) := dk_42 (dk_at dksX1_sort_9 5 rfl rfl)
theorem dX1_sort_217 : decode cX1_sort 217 = .ok (.getfield 7, 3) := dk_180 0 7 (dk_at dksX1_sort_9 6 rfl rfl)
theorem dX1_sort_220 : decode cX1_sort 220 = .ok (.iload 6, 2) := dk_21 6 (dk_at dksX1_sort_9 9 rfl rfl)
theorem dX1_sort_222 : decode cX1_sort 222 = .ok (.aload_n 0, 1) := dk_42 (dk_at dksX1_sort_9 11 rfl rfl)
theorem dX1_sort_223 : decode cX1_sort 223 = .ok (.getfield 13, 3) := dk_180 0 13 (dk_at dksX1_sort_9 12 rfl rfl)
theorem dX1_sort_226 : decode cX1_sort 226 = .ok (.iload 6, 2) := dk_21 6 (dk_at dksX1_sort_9 15 rfl rfl)
theorem dX1_sort_228 : decode cX1_sort 228 = .ok (.iaload, 1) := dk_46 (dk_at dksX1_sort_9 17 rfl rfl)
theorem dX1_sort_229 : decode cX1_sort 229 = .ok (.iastore, 1) := dk_79 (dk_at dksX1_sort_9 18 rfl rfl)
theorem dX1_sort_230 : decode cX1_sort 230 = .ok (.iinc 6 1, 3) := dk_132 6 1 (dk_at dksX1_sort_9 19 rfl rfl)
theorem dX1_sort_233 : decode cX1_sort 233 = .ok (.goto (-24), 3) := dk_167 255 232 (dk_at dksX1_sort_10 0 rfl rfl)
theorem dX1_sort_236 : decode cX1_sort 236 = .ok (.iload 5, 2) := dk_21 5 (dk_at dksX1_sort_10 3 rfl rfl)
theorem dX1_sort_238 : decode cX1_sort 238 = .ok (.iconst 2, 1) := dk_5 (dk_at dksX1_sort_10 5 rfl rfl)
theorem dX1_sort_239 : decode cX1_sort 239 = .ok (.imul, 1) := dk_104 (dk_at dksX1_sort_10 6 rfl rfl)
theorem dX1_sort_240 : decode cX1_sort 240 = .ok (.istore 5, 2) := dk_54 5 (dk_at dksX1_sort_10 7 rfl rfl)
theorem dX1_sort_242 : decode cX1_sort 242 = .ok (.goto (-210), 3) := dk_167 255 46 (dk_at dksX1_sort_10 9 rfl rfl)
theorem dX1_sort_245 : decode cX1_sort 245 = .ok (.return_, 1) := dk_177 (dk_at dksX1_sort_10 12 rfl rfl)
abbrev cX1_merge : ByteArray := prog_4_method_9_code
def yX1_merge : MethodName := ⟨RX1, "merge", "(II)V"⟩
def dkwX1_merge_0 : List UInt8 := [42, 27, 28, 182, 0, 21, 177]
abbrev dktX1_merge_0 : List UInt8 := dkwX1_merge_0 ++ []
theorem dksX1_merge_0 : cX1_merge.data.toList.drop 0 = dktX1_merge_0 := by decide +kernel
theorem dX1_merge_0 : decode cX1_merge 0 = .ok (.aload_n 0, 1) := dk_42 (dk_at dksX1_merge_0 0 rfl rfl)
theorem dX1_merge_1 : decode cX1_merge 1 = .ok (.iload_n 1, 1) := dk_27 (dk_at dksX1_merge_0 1 rfl rfl)
theorem dX1_merge_2 : decode cX1_merge 2 = .ok (.iload_n 2, 1) := dk_28 (dk_at dksX1_merge_0 2 rfl rfl)
theorem dX1_merge_3 : decode cX1_merge 3 = .ok (.invokevirtual 21, 3) := dk_182 0 21 (dk_at dksX1_merge_0 3 rfl rfl)
theorem dX1_merge_6 : decode cX1_merge 6 = .ok (.return_, 1) := dk_177 (dk_at dksX1_merge_0 6 rfl rfl)
abbrev cX1_radix : ByteArray := prog_4_method_10_code
def yX1_radix : MethodName := ⟨RX1, "radix", "(II)V"⟩
def dkwX1_radix_0 : List UInt8 := [42, 27, 28, 182, 0, 21, 177]
abbrev dktX1_radix_0 : List UInt8 := dkwX1_radix_0 ++ []
theorem dksX1_radix_0 : cX1_radix.data.toList.drop 0 = dktX1_radix_0 := by decide +kernel
theorem dX1_radix_0 : decode cX1_radix 0 = .ok (.aload_n 0, 1) := dk_42 (dk_at dksX1_radix_0 0 rfl rfl)
theorem dX1_radix_1 : decode cX1_radix 1 = .ok (.iload_n 1, 1) := dk_27 (dk_at dksX1_radix_0 1 rfl rfl)
theorem dX1_radix_2 : decode cX1_radix 2 = .ok (.iload_n 2, 1) := dk_28 (dk_at dksX1_radix_0 2 rfl rfl)
theorem dX1_radix_3 : decode cX1_radix 3 = .ok (.invokevirtual 21, 3) := dk_182 0 21 (dk_at dksX1_radix_0 3 rfl rfl)
theorem dX1_radix_6 : decode cX1_radix 6 = .ok (.return_, 1) := dk_177 (dk_at dksX1_radix_0 6 rfl rfl)
abbrev cX1_unstable : ByteArray := prog_4_method_11_code
def yX1_unstable : MethodName := ⟨RX1, "unstable", "(II)V"⟩
def dkwX1_unstable_0 : List UInt8 := [42, 27, 28, 182, 0, 21, 177]
abbrev dktX1_unstable_0 : List UInt8 := dkwX1_unstable_0 ++ []
theorem dksX1_unstable_0 : cX1_unstable.data.toList.drop 0 = dktX1_unstable_0 := by decide +kernel
theorem dX1_unstable_0 : decode cX1_unstable 0 = .ok (.aload_n 0, 1) := dk_42 (dk_at dksX1_unstable_0 0 rfl rfl)
theorem dX1_unstable_1 : decode cX1_unstable 1 = .ok (.iload_n 1, 1) := dk_27 (dk_at dksX1_unstable_0 1 rfl rfl)
theorem dX1_unstable_2 : decode cX1_unstable 2 = .ok (.iload_n 2, 1) := dk_28 (dk_at dksX1_unstable_0 2 rfl rfl)
theorem dX1_unstable_3 : decode cX1_unstable 3 = .ok (.invokevirtual 21, 3) := dk_182 0 21 (dk_at dksX1_unstable_0 3 rfl rfl)
theorem dX1_unstable_6 : decode cX1_unstable 6 = .ok (.return_, 1) := dk_177 (dk_at dksX1_unstable_0 6 rfl rfl)
abbrev cX1_reverse : ByteArray := prog_4_method_12_code
def yX1_reverse : MethodName := ⟨RX1, "reverse", "(II)V"⟩
def dkwX1_reverse_4 : List UInt8 := [167, 255, 232, 177]
abbrev dktX1_reverse_4 : List UInt8 := dkwX1_reverse_4 ++ []
def dkwX1_reverse_3 : List UInt8 := [21, 5, 21, 4, 162, 0, 23, 42, 180, 0, 7, 21, 5, 42, 180, 0, 13, 21, 5, 46, 79, 132, 5, 1]
abbrev dktX1_reverse_3 : List UInt8 := dkwX1_reverse_3 ++ dktX1_reverse_4
def dkwX1_reverse_2 : List UInt8 := [180, 0, 7, 29, 21, 4, 96, 4, 100, 21, 5, 100, 46, 79, 132, 5, 1, 167, 255, 225, 29, 54, 5]
abbrev dktX1_reverse_2 : List UInt8 := dkwX1_reverse_2 ++ dktX1_reverse_3
def dkwX1_reverse_1 : List UInt8 := [96, 112, 96, 54, 4, 29, 54, 5, 21, 5, 21, 4, 162, 0, 30, 42, 180, 0, 13, 21, 5, 42]
abbrev dktX1_reverse_1 : List UInt8 := dkwX1_reverse_1 ++ dktX1_reverse_2
def dkwX1_reverse_0 : List UInt8 := [27, 18, 20, 126, 42, 180, 0, 16, 4, 96, 112, 62, 29, 28, 18, 20, 126, 42, 180, 0, 16, 29, 100, 4]
abbrev dktX1_reverse_0 : List UInt8 := dkwX1_reverse_0 ++ dktX1_reverse_1
theorem dksX1_reverse_0 : cX1_reverse.data.toList.drop 0 = dktX1_reverse_0 := by decide +kernel
theorem dksX1_reverse_1 : cX1_reverse.data.toList.drop 24 = dktX1_reverse_1 := dk_seg dksX1_reverse_0 24 rfl rfl
theorem dksX1_reverse_2 : cX1_reverse.data.toList.drop 46 = dktX1_reverse_2 := dk_seg dksX1_reverse_1 22 rfl rfl
theorem dksX1_reverse_3 : cX1_reverse.data.toList.drop 69 = dktX1_reverse_3 := dk_seg dksX1_reverse_2 23 rfl rfl
theorem dksX1_reverse_4 : cX1_reverse.data.toList.drop 93 = dktX1_reverse_4 := dk_seg dksX1_reverse_3 24 rfl rfl
theorem dX1_reverse_0 : decode cX1_reverse 0 = .ok (.iload_n 1, 1) := dk_27 (dk_at dksX1_reverse_0 0 rfl rfl)
theorem dX1_reverse_1 : decode cX1_reverse 1 = .ok (.ldc 20, 2) := dk_18 20 (dk_at dksX1_reverse_0 1 rfl rfl)
theorem dX1_reverse_3 : decode cX1_reverse 3 = .ok (.iand, 1) := dk_126 (dk_at dksX1_reverse_0 3 rfl rfl)
theorem dX1_reverse_4 : decode cX1_reverse 4 = .ok (.aload_n 0, 1) := dk_42 (dk_at dksX1_reverse_0 4 rfl rfl)
theorem dX1_reverse_5 : decode cX1_reverse 5 = .ok (.getfield 16, 3) := dk_180 0 16 (dk_at dksX1_reverse_0 5 rfl rfl)
theorem dX1_reverse_8 : decode cX1_reverse 8 = .ok (.iconst 1, 1) := dk_4 (dk_at dksX1_reverse_0 8 rfl rfl)
theorem dX1_reverse_9 : decode cX1_reverse 9 = .ok (.iadd, 1) := dk_96 (dk_at dksX1_reverse_0 9 rfl rfl)
theorem dX1_reverse_10 : decode cX1_reverse 10 = .ok (.irem, 1) := dk_112 (dk_at dksX1_reverse_0 10 rfl rfl)
theorem dX1_reverse_11 : decode cX1_reverse 11 = .ok (.istore_n 3, 1) := dk_62 (dk_at dksX1_reverse_0 11 rfl rfl)
theorem dX1_reverse_12 : decode cX1_reverse 12 = .ok (.iload_n 3, 1) := dk_29 (dk_at dksX1_reverse_0 12 rfl rfl)
theorem dX1_reverse_13 : decode cX1_reverse 13 = .ok (.iload_n 2, 1) := dk_28 (dk_at dksX1_reverse_0 13 rfl rfl)
theorem dX1_reverse_14 : decode cX1_reverse 14 = .ok (.ldc 20, 2) := dk_18 20 (dk_at dksX1_reverse_0 14 rfl rfl)
theorem dX1_reverse_16 : decode cX1_reverse 16 = .ok (.iand, 1) := dk_126 (dk_at dksX1_reverse_0 16 rfl rfl)
theorem dX1_reverse_17 : decode cX1_reverse 17 = .ok (.aload_n 0, 1) := dk_42 (dk_at dksX1_reverse_0 17 rfl rfl)
theorem dX1_reverse_18 : decode cX1_reverse 18 = .ok (.getfield 16, 3) := dk_180 0 16 (dk_at dksX1_reverse_0 18 rfl rfl)
theorem dX1_reverse_21 : decode cX1_reverse 21 = .ok (.iload_n 3, 1) := dk_29 (dk_at dksX1_reverse_0 21 rfl rfl)
theorem dX1_reverse_22 : decode cX1_reverse 22 = .ok (.isub, 1) := dk_100 (dk_at dksX1_reverse_0 22 rfl rfl)
theorem dX1_reverse_23 : decode cX1_reverse 23 = .ok (.iconst 1, 1) := dk_4 (dk_at dksX1_reverse_0 23 rfl rfl)
theorem dX1_reverse_24 : decode cX1_reverse 24 = .ok (.iadd, 1) := dk_96 (dk_at dksX1_reverse_1 0 rfl rfl)
theorem dX1_reverse_25 : decode cX1_reverse 25 = .ok (.irem, 1) := dk_112 (dk_at dksX1_reverse_1 1 rfl rfl)
theorem dX1_reverse_26 : decode cX1_reverse 26 = .ok (.iadd, 1) := dk_96 (dk_at dksX1_reverse_1 2 rfl rfl)
theorem dX1_reverse_27 : decode cX1_reverse 27 = .ok (.istore 4, 2) := dk_54 4 (dk_at dksX1_reverse_1 3 rfl rfl)
theorem dX1_reverse_29 : decode cX1_reverse 29 = .ok (.iload_n 3, 1) := dk_29 (dk_at dksX1_reverse_1 5 rfl rfl)
theorem dX1_reverse_30 : decode cX1_reverse 30 = .ok (.istore 5, 2) := dk_54 5 (dk_at dksX1_reverse_1 6 rfl rfl)
theorem dX1_reverse_32 : decode cX1_reverse 32 = .ok (.iload 5, 2) := dk_21 5 (dk_at dksX1_reverse_1 8 rfl rfl)
theorem dX1_reverse_34 : decode cX1_reverse 34 = .ok (.iload 4, 2) := dk_21 4 (dk_at dksX1_reverse_1 10 rfl rfl)
theorem dX1_reverse_36 : decode cX1_reverse 36 = .ok (.if_icmp .ge 30, 3) := dk_162 0 30 (dk_at dksX1_reverse_1 12 rfl rfl)
theorem dX1_reverse_39 : decode cX1_reverse 39 = .ok (.aload_n 0, 1) := dk_42 (dk_at dksX1_reverse_1 15 rfl rfl)
theorem dX1_reverse_40 : decode cX1_reverse 40 = .ok (.getfield 13, 3) := dk_180 0 13 (dk_at dksX1_reverse_1 16 rfl rfl)
theorem dX1_reverse_43 : decode cX1_reverse 43 = .ok (.iload 5, 2) := dk_21 5 (dk_at dksX1_reverse_1 19 rfl rfl)
theorem dX1_reverse_45 : decode cX1_reverse 45 = .ok (.aload_n 0, 1) := dk_42 (dk_at dksX1_reverse_1 21 rfl rfl)
theorem dX1_reverse_46 : decode cX1_reverse 46 = .ok (.getfield 7, 3) := dk_180 0 7 (dk_at dksX1_reverse_2 0 rfl rfl)
theorem dX1_reverse_49 : decode cX1_reverse 49 = .ok (.iload_n 3, 1) := dk_29 (dk_at dksX1_reverse_2 3 rfl rfl)
theorem dX1_reverse_50 : decode cX1_reverse 50 = .ok (.iload 4, 2) := dk_21 4 (dk_at dksX1_reverse_2 4 rfl rfl)
theorem dX1_reverse_52 : decode cX1_reverse 52 = .ok (.iadd, 1) := dk_96 (dk_at dksX1_reverse_2 6 rfl rfl)
theorem dX1_reverse_53 : decode cX1_reverse 53 = .ok (.iconst 1, 1) := dk_4 (dk_at dksX1_reverse_2 7 rfl rfl)
theorem dX1_reverse_54 : decode cX1_reverse 54 = .ok (.isub, 1) := dk_100 (dk_at dksX1_reverse_2 8 rfl rfl)
theorem dX1_reverse_55 : decode cX1_reverse 55 = .ok (.iload 5, 2) := dk_21 5 (dk_at dksX1_reverse_2 9 rfl rfl)
theorem dX1_reverse_57 : decode cX1_reverse 57 = .ok (.isub, 1) := dk_100 (dk_at dksX1_reverse_2 11 rfl rfl)
theorem dX1_reverse_58 : decode cX1_reverse 58 = .ok (.iaload, 1) := dk_46 (dk_at dksX1_reverse_2 12 rfl rfl)
theorem dX1_reverse_59 : decode cX1_reverse 59 = .ok (.iastore, 1) := dk_79 (dk_at dksX1_reverse_2 13 rfl rfl)
theorem dX1_reverse_60 : decode cX1_reverse 60 = .ok (.iinc 5 1, 3) := dk_132 5 1 (dk_at dksX1_reverse_2 14 rfl rfl)
theorem dX1_reverse_63 : decode cX1_reverse 63 = .ok (.goto (-31), 3) := dk_167 255 225 (dk_at dksX1_reverse_2 17 rfl rfl)
theorem dX1_reverse_66 : decode cX1_reverse 66 = .ok (.iload_n 3, 1) := dk_29 (dk_at dksX1_reverse_2 20 rfl rfl)
theorem dX1_reverse_67 : decode cX1_reverse 67 = .ok (.istore 5, 2) := dk_54 5 (dk_at dksX1_reverse_2 21 rfl rfl)
theorem dX1_reverse_69 : decode cX1_reverse 69 = .ok (.iload 5, 2) := dk_21 5 (dk_at dksX1_reverse_3 0 rfl rfl)
theorem dX1_reverse_71 : decode cX1_reverse 71 = .ok (.iload 4, 2) := dk_21 4 (dk_at dksX1_reverse_3 2 rfl rfl)
theorem dX1_reverse_73 : decode cX1_reverse 73 = .ok (.if_icmp .ge 23, 3) := dk_162 0 23 (dk_at dksX1_reverse_3 4 rfl rfl)
theorem dX1_reverse_76 : decode cX1_reverse 76 = .ok (.aload_n 0, 1) := dk_42 (dk_at dksX1_reverse_3 7 rfl rfl)
theorem dX1_reverse_77 : decode cX1_reverse 77 = .ok (.getfield 7, 3) := dk_180 0 7 (dk_at dksX1_reverse_3 8 rfl rfl)
theorem dX1_reverse_80 : decode cX1_reverse 80 = .ok (.iload 5, 2) := dk_21 5 (dk_at dksX1_reverse_3 11 rfl rfl)
theorem dX1_reverse_82 : decode cX1_reverse 82 = .ok (.aload_n 0, 1) := dk_42 (dk_at dksX1_reverse_3 13 rfl rfl)
theorem dX1_reverse_83 : decode cX1_reverse 83 = .ok (.getfield 13, 3) := dk_180 0 13 (dk_at dksX1_reverse_3 14 rfl rfl)
theorem dX1_reverse_86 : decode cX1_reverse 86 = .ok (.iload 5, 2) := dk_21 5 (dk_at dksX1_reverse_3 17 rfl rfl)
theorem dX1_reverse_88 : decode cX1_reverse 88 = .ok (.iaload, 1) := dk_46 (dk_at dksX1_reverse_3 19 rfl rfl)
theorem dX1_reverse_89 : decode cX1_reverse 89 = .ok (.iastore, 1) := dk_79 (dk_at dksX1_reverse_3 20 rfl rfl)
theorem dX1_reverse_90 : decode cX1_reverse 90 = .ok (.iinc 5 1, 3) := dk_132 5 1 (dk_at dksX1_reverse_3 21 rfl rfl)
theorem dX1_reverse_93 : decode cX1_reverse 93 = .ok (.goto (-24), 3) := dk_167 255 232 (dk_at dksX1_reverse_4 0 rfl rfl)
theorem dX1_reverse_96 : decode cX1_reverse 96 = .ok (.return_, 1) := dk_177 (dk_at dksX1_reverse_4 3 rfl rfl)
abbrev cX1_find : ByteArray := prog_4_method_13_code
def yX1_find : MethodName := ⟨RX1, "find", "(III)I"⟩
def dkwX1_find_5 : List UInt8 := [21, 6, 46, 29, 160, 0, 8, 21, 6, 167, 0, 8, 21, 6, 116, 4, 100, 172]
abbrev dktX1_find_5 : List UInt8 := dkwX1_find_5 ++ []
def dkwX1_find_4 : List UInt8 := [162, 0, 12, 21, 6, 4, 96, 54, 6, 167, 255, 232, 21, 6, 21, 5, 162, 0, 19, 42, 180, 0, 7]
abbrev dktX1_find_4 : List UInt8 := dkwX1_find_4 ++ dktX1_find_5
def dkwX1_find_3 : List UInt8 := [167, 255, 222, 21, 4, 54, 6, 21, 6, 21, 5, 162, 0, 23, 42, 180, 0, 7, 21, 6, 46, 29]
abbrev dktX1_find_3 : List UInt8 := dkwX1_find_3 ++ dktX1_find_4
def dkwX1_find_2 : List UInt8 := [180, 0, 7, 21, 6, 46, 42, 180, 0, 7, 21, 6, 4, 96, 46, 161, 0, 6, 18, 25, 172, 132, 6, 1]
abbrev dktX1_find_2 : List UInt8 := dkwX1_find_2 ++ dktX1_find_3
def dkwX1_find_1 : List UInt8 := [21, 4, 100, 4, 96, 112, 96, 54, 5, 21, 4, 54, 6, 21, 6, 4, 96, 21, 5, 162, 0, 31, 42]
abbrev dktX1_find_1 : List UInt8 := dkwX1_find_1 ++ dktX1_find_2
def dkwX1_find_0 : List UInt8 := [27, 18, 20, 126, 42, 180, 0, 16, 4, 96, 112, 54, 4, 21, 4, 28, 18, 20, 126, 42, 180, 0, 16]
abbrev dktX1_find_0 : List UInt8 := dkwX1_find_0 ++ dktX1_find_1
theorem dksX1_find_0 : cX1_find.data.toList.drop 0 = dktX1_find_0 := by decide +kernel
theorem dksX1_find_1 : cX1_find.data.toList.drop 23 = dktX1_find_1 := dk_seg dksX1_find_0 23 rfl rfl
theorem dksX1_find_2 : cX1_find.data.toList.drop 46 = dktX1_find_2 := dk_seg dksX1_find_1 23 rfl rfl
theorem dksX1_find_3 : cX1_find.data.toList.drop 70 = dktX1_find_3 := dk_seg dksX1_find_2 24 rfl rfl
theorem dksX1_find_4 : cX1_find.data.toList.drop 92 = dktX1_find_4 := dk_seg dksX1_find_3 22 rfl rfl
theorem dksX1_find_5 : cX1_find.data.toList.drop 115 = dktX1_find_5 := dk_seg dksX1_find_4 23 rfl rfl
theorem dX1_find_0 : decode cX1_find 0 = .ok (.iload_n 1, 1) := dk_27 (dk_at dksX1_find_0 0 rfl rfl)
theorem dX1_find_1 : decode cX1_find 1 = .ok (.ldc 20, 2) := dk_18 20 (dk_at dksX1_find_0 1 rfl rfl)
theorem dX1_find_3 : decode cX1_find 3 = .ok (.iand, 1) := dk_126 (dk_at dksX1_find_0 3 rfl rfl)
theorem dX1_find_4 : decode cX1_find 4 = .ok (.aload_n 0, 1) := dk_42 (dk_at dksX1_find_0 4 rfl rfl)
theorem dX1_find_5 : decode cX1_find 5 = .ok (.getfield 16, 3) := dk_180 0 16 (dk_at dksX1_find_0 5 rfl rfl)
theorem dX1_find_8 : decode cX1_find 8 = .ok (.iconst 1, 1) := dk_4 (dk_at dksX1_find_0 8 rfl rfl)
theorem dX1_find_9 : decode cX1_find 9 = .ok (.iadd, 1) := dk_96 (dk_at dksX1_find_0 9 rfl rfl)
theorem dX1_find_10 : decode cX1_find 10 = .ok (.irem, 1) := dk_112 (dk_at dksX1_find_0 10 rfl rfl)
theorem dX1_find_11 : decode cX1_find 11 = .ok (.istore 4, 2) := dk_54 4 (dk_at dksX1_find_0 11 rfl rfl)
theorem dX1_find_13 : decode cX1_find 13 = .ok (.iload 4, 2) := dk_21 4 (dk_at dksX1_find_0 13 rfl rfl)
theorem dX1_find_15 : decode cX1_find 15 = .ok (.iload_n 2, 1) := dk_28 (dk_at dksX1_find_0 15 rfl rfl)
theorem dX1_find_16 : decode cX1_find 16 = .ok (.ldc 20, 2) := dk_18 20 (dk_at dksX1_find_0 16 rfl rfl)
theorem dX1_find_18 : decode cX1_find 18 = .ok (.iand, 1) := dk_126 (dk_at dksX1_find_0 18 rfl rfl)
theorem dX1_find_19 : decode cX1_find 19 = .ok (.aload_n 0, 1) := dk_42 (dk_at dksX1_find_0 19 rfl rfl)
theorem dX1_find_20 : decode cX1_find 20 = .ok (.getfield 16, 3) := dk_180 0 16 (dk_at dksX1_find_0 20 rfl rfl)
theorem dX1_find_23 : decode cX1_find 23 = .ok (.iload 4, 2) := dk_21 4 (dk_at dksX1_find_1 0 rfl rfl)
theorem dX1_find_25 : decode cX1_find 25 = .ok (.isub, 1) := dk_100 (dk_at dksX1_find_1 2 rfl rfl)
theorem dX1_find_26 : decode cX1_find 26 = .ok (.iconst 1, 1) := dk_4 (dk_at dksX1_find_1 3 rfl rfl)
theorem dX1_find_27 : decode cX1_find 27 = .ok (.iadd, 1) := dk_96 (dk_at dksX1_find_1 4 rfl rfl)
theorem dX1_find_28 : decode cX1_find 28 = .ok (.irem, 1) := dk_112 (dk_at dksX1_find_1 5 rfl rfl)
theorem dX1_find_29 : decode cX1_find 29 = .ok (.iadd, 1) := dk_96 (dk_at dksX1_find_1 6 rfl rfl)
theorem dX1_find_30 : decode cX1_find 30 = .ok (.istore 5, 2) := dk_54 5 (dk_at dksX1_find_1 7 rfl rfl)
theorem dX1_find_32 : decode cX1_find 32 = .ok (.iload 4, 2) := dk_21 4 (dk_at dksX1_find_1 9 rfl rfl)
theorem dX1_find_34 : decode cX1_find 34 = .ok (.istore 6, 2) := dk_54 6 (dk_at dksX1_find_1 11 rfl rfl)
theorem dX1_find_36 : decode cX1_find 36 = .ok (.iload 6, 2) := dk_21 6 (dk_at dksX1_find_1 13 rfl rfl)
theorem dX1_find_38 : decode cX1_find 38 = .ok (.iconst 1, 1) := dk_4 (dk_at dksX1_find_1 15 rfl rfl)
theorem dX1_find_39 : decode cX1_find 39 = .ok (.iadd, 1) := dk_96 (dk_at dksX1_find_1 16 rfl rfl)
theorem dX1_find_40 : decode cX1_find 40 = .ok (.iload 5, 2) := dk_21 5 (dk_at dksX1_find_1 17 rfl rfl)
theorem dX1_find_42 : decode cX1_find 42 = .ok (.if_icmp .ge 31, 3) := dk_162 0 31 (dk_at dksX1_find_1 19 rfl rfl)
theorem dX1_find_45 : decode cX1_find 45 = .ok (.aload_n 0, 1) := dk_42 (dk_at dksX1_find_1 22 rfl rfl)
theorem dX1_find_46 : decode cX1_find 46 = .ok (.getfield 7, 3) := dk_180 0 7 (dk_at dksX1_find_2 0 rfl rfl)
theorem dX1_find_49 : decode cX1_find 49 = .ok (.iload 6, 2) := dk_21 6 (dk_at dksX1_find_2 3 rfl rfl)
theorem dX1_find_51 : decode cX1_find 51 = .ok (.iaload, 1) := dk_46 (dk_at dksX1_find_2 5 rfl rfl)
theorem dX1_find_52 : decode cX1_find 52 = .ok (.aload_n 0, 1) := dk_42 (dk_at dksX1_find_2 6 rfl rfl)
theorem dX1_find_53 : decode cX1_find 53 = .ok (.getfield 7, 3) := dk_180 0 7 (dk_at dksX1_find_2 7 rfl rfl)
theorem dX1_find_56 : decode cX1_find 56 = .ok (.iload 6, 2) := dk_21 6 (dk_at dksX1_find_2 10 rfl rfl)
theorem dX1_find_58 : decode cX1_find 58 = .ok (.iconst 1, 1) := dk_4 (dk_at dksX1_find_2 12 rfl rfl)
theorem dX1_find_59 : decode cX1_find 59 = .ok (.iadd, 1) := dk_96 (dk_at dksX1_find_2 13 rfl rfl)
theorem dX1_find_60 : decode cX1_find 60 = .ok (.iaload, 1) := dk_46 (dk_at dksX1_find_2 14 rfl rfl)
theorem dX1_find_61 : decode cX1_find 61 = .ok (.if_icmp .lt 6, 3) := dk_161 0 6 (dk_at dksX1_find_2 15 rfl rfl)
theorem dX1_find_64 : decode cX1_find 64 = .ok (.ldc 25, 2) := dk_18 25 (dk_at dksX1_find_2 18 rfl rfl)
theorem dX1_find_66 : decode cX1_find 66 = .ok (.ireturn, 1) := dk_172 (dk_at dksX1_find_2 20 rfl rfl)
theorem dX1_find_67 : decode cX1_find 67 = .ok (.iinc 6 1, 3) := dk_132 6 1 (dk_at dksX1_find_2 21 rfl rfl)
theorem dX1_find_70 : decode cX1_find 70 = .ok (.goto (-34), 3) := dk_167 255 222 (dk_at dksX1_find_3 0 rfl rfl)
theorem dX1_find_73 : decode cX1_find 73 = .ok (.iload 4, 2) := dk_21 4 (dk_at dksX1_find_3 3 rfl rfl)
theorem dX1_find_75 : decode cX1_find 75 = .ok (.istore 6, 2) := dk_54 6 (dk_at dksX1_find_3 5 rfl rfl)
theorem dX1_find_77 : decode cX1_find 77 = .ok (.iload 6, 2) := dk_21 6 (dk_at dksX1_find_3 7 rfl rfl)
theorem dX1_find_79 : decode cX1_find 79 = .ok (.iload 5, 2) := dk_21 5 (dk_at dksX1_find_3 9 rfl rfl)
theorem dX1_find_81 : decode cX1_find 81 = .ok (.if_icmp .ge 23, 3) := dk_162 0 23 (dk_at dksX1_find_3 11 rfl rfl)
theorem dX1_find_84 : decode cX1_find 84 = .ok (.aload_n 0, 1) := dk_42 (dk_at dksX1_find_3 14 rfl rfl)
theorem dX1_find_85 : decode cX1_find 85 = .ok (.getfield 7, 3) := dk_180 0 7 (dk_at dksX1_find_3 15 rfl rfl)
theorem dX1_find_88 : decode cX1_find 88 = .ok (.iload 6, 2) := dk_21 6 (dk_at dksX1_find_3 18 rfl rfl)
theorem dX1_find_90 : decode cX1_find 90 = .ok (.iaload, 1) := dk_46 (dk_at dksX1_find_3 20 rfl rfl)
theorem dX1_find_91 : decode cX1_find 91 = .ok (.iload_n 3, 1) := dk_29 (dk_at dksX1_find_3 21 rfl rfl)
theorem dX1_find_92 : decode cX1_find 92 = .ok (.if_icmp .ge 12, 3) := dk_162 0 12 (dk_at dksX1_find_4 0 rfl rfl)
theorem dX1_find_95 : decode cX1_find 95 = .ok (.iload 6, 2) := dk_21 6 (dk_at dksX1_find_4 3 rfl rfl)
theorem dX1_find_97 : decode cX1_find 97 = .ok (.iconst 1, 1) := dk_4 (dk_at dksX1_find_4 5 rfl rfl)
theorem dX1_find_98 : decode cX1_find 98 = .ok (.iadd, 1) := dk_96 (dk_at dksX1_find_4 6 rfl rfl)
theorem dX1_find_99 : decode cX1_find 99 = .ok (.istore 6, 2) := dk_54 6 (dk_at dksX1_find_4 7 rfl rfl)
theorem dX1_find_101 : decode cX1_find 101 = .ok (.goto (-24), 3) := dk_167 255 232 (dk_at dksX1_find_4 9 rfl rfl)
theorem dX1_find_104 : decode cX1_find 104 = .ok (.iload 6, 2) := dk_21 6 (dk_at dksX1_find_4 12 rfl rfl)
theorem dX1_find_106 : decode cX1_find 106 = .ok (.iload 5, 2) := dk_21 5 (dk_at dksX1_find_4 14 rfl rfl)
theorem dX1_find_108 : decode cX1_find 108 = .ok (.if_icmp .ge 19, 3) := dk_162 0 19 (dk_at dksX1_find_4 16 rfl rfl)
theorem dX1_find_111 : decode cX1_find 111 = .ok (.aload_n 0, 1) := dk_42 (dk_at dksX1_find_4 19 rfl rfl)
theorem dX1_find_112 : decode cX1_find 112 = .ok (.getfield 7, 3) := dk_180 0 7 (dk_at dksX1_find_4 20 rfl rfl)
theorem dX1_find_115 : decode cX1_find 115 = .ok (.iload 6, 2) := dk_21 6 (dk_at dksX1_find_5 0 rfl rfl)
theorem dX1_find_117 : decode cX1_find 117 = .ok (.iaload, 1) := dk_46 (dk_at dksX1_find_5 2 rfl rfl)
theorem dX1_find_118 : decode cX1_find 118 = .ok (.iload_n 3, 1) := dk_29 (dk_at dksX1_find_5 3 rfl rfl)
theorem dX1_find_119 : decode cX1_find 119 = .ok (.if_icmp .ne 8, 3) := dk_160 0 8 (dk_at dksX1_find_5 4 rfl rfl)
theorem dX1_find_122 : decode cX1_find 122 = .ok (.iload 6, 2) := dk_21 6 (dk_at dksX1_find_5 7 rfl rfl)
theorem dX1_find_124 : decode cX1_find 124 = .ok (.goto 8, 3) := dk_167 0 8 (dk_at dksX1_find_5 9 rfl rfl)
theorem dX1_find_127 : decode cX1_find 127 = .ok (.iload 6, 2) := dk_21 6 (dk_at dksX1_find_5 12 rfl rfl)
theorem dX1_find_129 : decode cX1_find 129 = .ok (.ineg, 1) := dk_116 (dk_at dksX1_find_5 14 rfl rfl)
theorem dX1_find_130 : decode cX1_find 130 = .ok (.iconst 1, 1) := dk_4 (dk_at dksX1_find_5 15 rfl rfl)
theorem dX1_find_131 : decode cX1_find 131 = .ok (.isub, 1) := dk_100 (dk_at dksX1_find_5 16 rfl rfl)
theorem dX1_find_132 : decode cX1_find 132 = .ok (.ireturn, 1) := dk_172 (dk_at dksX1_find_5 17 rfl rfl)
theorem q5 : (Jvm.Cond.initialized "SortDeskModel") ∈ lw_all := lw_g (lw_at lw_m0 2 rfl) rfl
theorem q142 : (Jvm.Cond.instantiable "SortDeskModel" (3 : Nat)) ∈ lw_all := lw_g (lw_at lw_m0 139 rfl) rfl
theorem q144 : (Jvm.Cond.instanceMethod ({ cls := "SortDeskModel", name := "<init>", desc := "()V" } : Jvm.MethodName)) ∈ lw_all := lw_g (lw_at lw_m0 141 rfl) rfl
theorem q145 : (Jvm.Cond.code ({ cls := "SortDeskModel", name := "<init>", desc := "()V" } : Jvm.MethodName) prog_4_method_1_code (1 : Nat) (Option.none : Option Jvm.ClassFile.FieldType)) ∈ lw_all := lw_g (lw_at lw_m0 142 rfl) rfl
theorem q146 : (Jvm.Cond.methodLink "SortDeskModel" (1 : Nat) ({ cls := "java/lang/Object", name := "<init>", desc := "()V" } : Jvm.MethodName)) ∈ lw_all := lw_g (lw_at lw_m0 143 rfl) rfl
theorem q147 : (Jvm.Cond.fieldLink "SortDeskModel" (7 : Nat) "SortDeskModel" "row" "[I") ∈ lw_all := lw_g (lw_at lw_m0 144 rfl) rfl
theorem q148 : (Jvm.Cond.fieldLink "SortDeskModel" (13 : Nat) "SortDeskModel" "other" "[I") ∈ lw_all := lw_g (lw_at lw_m0 145 rfl) rfl
theorem q149 : (Jvm.Cond.fieldLink "SortDeskModel" (16 : Nat) "SortDeskModel" "size" "I") ∈ lw_all := lw_g (lw_at lw_m0 146 rfl) rfl
theorem q150 : (Jvm.Cond.laysFinal "SortDeskModel" "SortDeskModel" "row" "[I") ∈ lw_all := lw_g (lw_at lw_m0 147 rfl) rfl
theorem q151 : (Jvm.Cond.soleField "SortDeskModel" "row") ∈ lw_all := lw_g (lw_at lw_m0 148 rfl) rfl
theorem q152 : (Jvm.Cond.laysFinal "SortDeskModel" "SortDeskModel" "other" "[I") ∈ lw_all := lw_g (lw_at lw_m0 149 rfl) rfl
theorem q153 : (Jvm.Cond.soleField "SortDeskModel" "other") ∈ lw_all := lw_g (lw_at lw_m0 150 rfl) rfl
theorem q154 : (Jvm.Cond.lays "SortDeskModel" "SortDeskModel" "size" "I") ∈ lw_all := lw_g (lw_at lw_m0 151 rfl) rfl
theorem q155 : (Jvm.Cond.soleField "SortDeskModel" "size") ∈ lw_all := lw_g (lw_at lw_m0 152 rfl) rfl
theorem q156 : (Jvm.Cond.superclass "SortDeskModel" "java/lang/Object") ∈ lw_all := lw_g (lw_at lw_m0 153 rfl) rfl
theorem q158 : (Jvm.Cond.instanceMethod ({ cls := "SortDeskModel", name := "put", desc := "(IIII)Z" } : Jvm.MethodName)) ∈ lw_all := lw_g (lw_at lw_m0 155 rfl) rfl
theorem q159 : (Jvm.Cond.selects "SortDeskModel" ({ cls := "SortDeskModel", name := "put", desc := "(IIII)Z" } : Jvm.MethodName) ({ cls := "SortDeskModel", name := "put", desc := "(IIII)Z" } : Jvm.MethodName)) ∈ lw_all := lw_g (lw_at lw_m0 156 rfl) rfl
theorem q160 : (Jvm.Cond.code ({ cls := "SortDeskModel", name := "put", desc := "(IIII)Z" } : Jvm.MethodName) prog_4_method_2_code (6 : Nat) (Option.some Jvm.ClassFile.FieldType.boolean)) ∈ lw_all := lw_g (lw_at lw_m0 157 rfl) rfl
theorem q162 : (Jvm.Cond.instanceMethod ({ cls := "SortDeskModel", name := "fill", desc := "(III)I" } : Jvm.MethodName)) ∈ lw_all := lw_g (lw_at lw_m0 159 rfl) rfl
theorem q163 : (Jvm.Cond.selects "SortDeskModel" ({ cls := "SortDeskModel", name := "fill", desc := "(III)I" } : Jvm.MethodName) ({ cls := "SortDeskModel", name := "fill", desc := "(III)I" } : Jvm.MethodName)) ∈ lw_all := lw_g (lw_at lw_m0 160 rfl) rfl
theorem q164 : (Jvm.Cond.code ({ cls := "SortDeskModel", name := "fill", desc := "(III)I" } : Jvm.MethodName) prog_4_method_3_code (7 : Nat) (Option.some Jvm.ClassFile.FieldType.int)) ∈ lw_all := lw_g (lw_at lw_m0 161 rfl) rfl
theorem q165 : (Jvm.Cond.constant "SortDeskModel" (20 : Nat) (2147483647 : Int32)) ∈ lw_all := lw_g (lw_at lw_m0 162 rfl) rfl
theorem q167 : (Jvm.Cond.instanceMethod ({ cls := "SortDeskModel", name := "trim", desc := "(I)V" } : Jvm.MethodName)) ∈ lw_all := lw_g (lw_at lw_m0 164 rfl) rfl
theorem q168 : (Jvm.Cond.selects "SortDeskModel" ({ cls := "SortDeskModel", name := "trim", desc := "(I)V" } : Jvm.MethodName) ({ cls := "SortDeskModel", name := "trim", desc := "(I)V" } : Jvm.MethodName)) ∈ lw_all := lw_g (lw_at lw_m0 165 rfl) rfl
theorem q169 : (Jvm.Cond.code ({ cls := "SortDeskModel", name := "trim", desc := "(I)V" } : Jvm.MethodName) prog_4_method_4_code (2 : Nat) (Option.none : Option Jvm.ClassFile.FieldType)) ∈ lw_all := lw_g (lw_at lw_m0 166 rfl) rfl
theorem q171 : (Jvm.Cond.instanceMethod ({ cls := "SortDeskModel", name := "size", desc := "()I" } : Jvm.MethodName)) ∈ lw_all := lw_g (lw_at lw_m0 168 rfl) rfl
theorem q172 : (Jvm.Cond.selects "SortDeskModel" ({ cls := "SortDeskModel", name := "size", desc := "()I" } : Jvm.MethodName) ({ cls := "SortDeskModel", name := "size", desc := "()I" } : Jvm.MethodName)) ∈ lw_all := lw_g (lw_at lw_m0 169 rfl) rfl
theorem q173 : (Jvm.Cond.code ({ cls := "SortDeskModel", name := "size", desc := "()I" } : Jvm.MethodName) prog_4_method_5_code (1 : Nat) (Option.some Jvm.ClassFile.FieldType.int)) ∈ lw_all := lw_g (lw_at lw_m0 170 rfl) rfl
theorem q175 : (Jvm.Cond.instanceMethod ({ cls := "SortDeskModel", name := "at", desc := "(I)I" } : Jvm.MethodName)) ∈ lw_all := lw_g (lw_at lw_m0 172 rfl) rfl
theorem q176 : (Jvm.Cond.selects "SortDeskModel" ({ cls := "SortDeskModel", name := "at", desc := "(I)I" } : Jvm.MethodName) ({ cls := "SortDeskModel", name := "at", desc := "(I)I" } : Jvm.MethodName)) ∈ lw_all := lw_g (lw_at lw_m0 173 rfl) rfl
theorem q177 : (Jvm.Cond.code ({ cls := "SortDeskModel", name := "at", desc := "(I)I" } : Jvm.MethodName) prog_4_method_6_code (2 : Nat) (Option.some Jvm.ClassFile.FieldType.int)) ∈ lw_all := lw_g (lw_at lw_m0 174 rfl) rfl
theorem q179 : (Jvm.Cond.instanceMethod ({ cls := "SortDeskModel", name := "quick", desc := "(II)V" } : Jvm.MethodName)) ∈ lw_all := lw_g (lw_at lw_m0 176 rfl) rfl
theorem q180 : (Jvm.Cond.selects "SortDeskModel" ({ cls := "SortDeskModel", name := "quick", desc := "(II)V" } : Jvm.MethodName) ({ cls := "SortDeskModel", name := "quick", desc := "(II)V" } : Jvm.MethodName)) ∈ lw_all := lw_g (lw_at lw_m0 177 rfl) rfl
theorem q181 : (Jvm.Cond.code ({ cls := "SortDeskModel", name := "quick", desc := "(II)V" } : Jvm.MethodName) prog_4_method_8_code (3 : Nat) (Option.none : Option Jvm.ClassFile.FieldType)) ∈ lw_all := lw_g (lw_at lw_m0 178 rfl) rfl
theorem q182 : (Jvm.Cond.methodLink "SortDeskModel" (21 : Nat) ({ cls := "SortDeskModel", name := "sort", desc := "(II)V" } : Jvm.MethodName)) ∈ lw_all := lw_g (lw_at lw_m0 179 rfl) rfl
theorem q183 : (Jvm.Cond.privateMethod ({ cls := "SortDeskModel", name := "sort", desc := "(II)V" } : Jvm.MethodName)) ∈ lw_tbl := lw_at lw_m0 180 rfl
theorem q184 : (Jvm.Cond.instanceMethod ({ cls := "SortDeskModel", name := "sort", desc := "(II)V" } : Jvm.MethodName)) ∈ lw_all := lw_g (lw_at lw_m0 181 rfl) rfl
theorem q185 : (Jvm.Cond.code ({ cls := "SortDeskModel", name := "sort", desc := "(II)V" } : Jvm.MethodName) prog_4_method_7_code (12 : Nat) (Option.none : Option Jvm.ClassFile.FieldType)) ∈ lw_all := lw_g (lw_at lw_m0 182 rfl) rfl
theorem q187 : (Jvm.Cond.instanceMethod ({ cls := "SortDeskModel", name := "merge", desc := "(II)V" } : Jvm.MethodName)) ∈ lw_all := lw_g (lw_at lw_m0 184 rfl) rfl
theorem q188 : (Jvm.Cond.selects "SortDeskModel" ({ cls := "SortDeskModel", name := "merge", desc := "(II)V" } : Jvm.MethodName) ({ cls := "SortDeskModel", name := "merge", desc := "(II)V" } : Jvm.MethodName)) ∈ lw_all := lw_g (lw_at lw_m0 185 rfl) rfl
theorem q189 : (Jvm.Cond.code ({ cls := "SortDeskModel", name := "merge", desc := "(II)V" } : Jvm.MethodName) prog_4_method_9_code (3 : Nat) (Option.none : Option Jvm.ClassFile.FieldType)) ∈ lw_all := lw_g (lw_at lw_m0 186 rfl) rfl
theorem q191 : (Jvm.Cond.instanceMethod ({ cls := "SortDeskModel", name := "radix", desc := "(II)V" } : Jvm.MethodName)) ∈ lw_all := lw_g (lw_at lw_m0 188 rfl) rfl
theorem q192 : (Jvm.Cond.selects "SortDeskModel" ({ cls := "SortDeskModel", name := "radix", desc := "(II)V" } : Jvm.MethodName) ({ cls := "SortDeskModel", name := "radix", desc := "(II)V" } : Jvm.MethodName)) ∈ lw_all := lw_g (lw_at lw_m0 189 rfl) rfl
theorem q193 : (Jvm.Cond.code ({ cls := "SortDeskModel", name := "radix", desc := "(II)V" } : Jvm.MethodName) prog_4_method_10_code (3 : Nat) (Option.none : Option Jvm.ClassFile.FieldType)) ∈ lw_all := lw_g (lw_at lw_m0 190 rfl) rfl
theorem q195 : (Jvm.Cond.instanceMethod ({ cls := "SortDeskModel", name := "unstable", desc := "(II)V" } : Jvm.MethodName)) ∈ lw_all := lw_g (lw_at lw_m0 192 rfl) rfl
theorem q196 : (Jvm.Cond.selects "SortDeskModel" ({ cls := "SortDeskModel", name := "unstable", desc := "(II)V" } : Jvm.MethodName) ({ cls := "SortDeskModel", name := "unstable", desc := "(II)V" } : Jvm.MethodName)) ∈ lw_all := lw_g (lw_at lw_m0 193 rfl) rfl
theorem q197 : (Jvm.Cond.code ({ cls := "SortDeskModel", name := "unstable", desc := "(II)V" } : Jvm.MethodName) prog_4_method_11_code (3 : Nat) (Option.none : Option Jvm.ClassFile.FieldType)) ∈ lw_all := lw_g (lw_at lw_m0 194 rfl) rfl
theorem q199 : (Jvm.Cond.instanceMethod ({ cls := "SortDeskModel", name := "reverse", desc := "(II)V" } : Jvm.MethodName)) ∈ lw_all := lw_g (lw_at lw_m0 196 rfl) rfl
theorem q200 : (Jvm.Cond.selects "SortDeskModel" ({ cls := "SortDeskModel", name := "reverse", desc := "(II)V" } : Jvm.MethodName) ({ cls := "SortDeskModel", name := "reverse", desc := "(II)V" } : Jvm.MethodName)) ∈ lw_all := lw_g (lw_at lw_m0 197 rfl) rfl
theorem q201 : (Jvm.Cond.code ({ cls := "SortDeskModel", name := "reverse", desc := "(II)V" } : Jvm.MethodName) prog_4_method_12_code (6 : Nat) (Option.none : Option Jvm.ClassFile.FieldType)) ∈ lw_all := lw_g (lw_at lw_m0 198 rfl) rfl
theorem q203 : (Jvm.Cond.instanceMethod ({ cls := "SortDeskModel", name := "find", desc := "(III)I" } : Jvm.MethodName)) ∈ lw_all := lw_g (lw_at lw_m0 200 rfl) rfl
theorem q204 : (Jvm.Cond.selects "SortDeskModel" ({ cls := "SortDeskModel", name := "find", desc := "(III)I" } : Jvm.MethodName) ({ cls := "SortDeskModel", name := "find", desc := "(III)I" } : Jvm.MethodName)) ∈ lw_all := lw_g (lw_at lw_m0 201 rfl) rfl
theorem q205 : (Jvm.Cond.code ({ cls := "SortDeskModel", name := "find", desc := "(III)I" } : Jvm.MethodName) prog_4_method_13_code (7 : Nat) (Option.some Jvm.ClassFile.FieldType.int)) ∈ lw_all := lw_g (lw_at lw_m0 202 rfl) rfl
theorem q206 : (Jvm.Cond.constant "SortDeskModel" (25 : Nat) (-1000000 : Int32)) ∈ lw_all := lw_g (lw_at lw_m0 203 rfl) rfl
theorem in_X1 : ∀ w ∈ wsX10, w ∈ lw_all := lw_in wsX10 [150, 152, 154] (by decide +kernel) (by decide +kernel)
end
section
/-! the law's own entry -/
set_option maxRecDepth 100000
abbrev cL_law : ByteArray := code
def dkwL_law_18 : List UInt8 := [167, 254, 84, 4, 172]
abbrev dktL_law_18 : List UInt8 := dkwL_law_18 ++ []
def dkwL_law_17 : List UInt8 := [46, 42, 29, 5, 96, 46, 42, 29, 6, 96, 46, 182, 0, 62, 159, 0, 5, 3, 172, 132, 3, 6]
abbrev dktL_law_17 : List UInt8 := dkwL_law_17 ++ dktL_law_18
def dkwL_law_16 : List UInt8 := [43, 42, 29, 4, 96, 46, 42, 29, 5, 96, 46, 42, 29, 6, 96, 46, 182, 0, 59, 44, 42, 29, 4, 96]
abbrev dktL_law_16 : List UInt8 := dkwL_law_16 ++ dktL_law_17
def dkwL_law_15 : List UInt8 := [29, 5, 96, 46, 182, 0, 55, 44, 42, 29, 4, 96, 46, 42, 29, 5, 96, 46, 182, 0, 58, 167, 0, 46]
abbrev dktL_law_15 : List UInt8 := dkwL_law_15 ++ dktL_law_16
def dkwL_law_14 : List UInt8 := [44, 42, 29, 4, 96, 46, 42, 29, 5, 96, 46, 182, 0, 54, 167, 0, 77, 43, 42, 29, 4, 96, 46, 42]
abbrev dktL_law_14 : List UInt8 := dkwL_law_14 ++ dktL_law_15
def dkwL_law_13 : List UInt8 := [29, 5, 96, 46, 182, 0, 50, 167, 0, 108, 43, 42, 29, 4, 96, 46, 42, 29, 5, 96, 46, 182, 0, 51]
abbrev dktL_law_13 : List UInt8 := dkwL_law_13 ++ dktL_law_14
def dkwL_law_12 : List UInt8 := [167, 0, 139, 43, 42, 29, 4, 96, 46, 42, 29, 5, 96, 46, 182, 0, 47, 44, 42, 29, 4, 96, 46, 42]
abbrev dktL_law_12 : List UInt8 := dkwL_law_12 ++ dktL_law_13
def dkwL_law_11 : List UInt8 := [96, 46, 42, 29, 5, 96, 46, 182, 0, 43, 44, 42, 29, 4, 96, 46, 42, 29, 5, 96, 46, 182, 0, 46]
abbrev dktL_law_11 : List UInt8 := dkwL_law_11 ++ dktL_law_12
def dkwL_law_10 : List UInt8 := [182, 0, 38, 44, 42, 29, 4, 96, 46, 42, 29, 5, 96, 46, 182, 0, 42, 167, 0, 170, 43, 42, 29, 4]
abbrev dktL_law_10 : List UInt8 := dkwL_law_10 ++ dktL_law_11
def dkwL_law_9 : List UInt8 := [4, 96, 46, 182, 0, 37, 159, 0, 203, 3, 172, 43, 42, 29, 4, 96, 46, 42, 29, 5, 96, 46]
abbrev dktL_law_9 : List UInt8 := dkwL_law_9 ++ dktL_law_10
def dkwL_law_8 : List UInt8 := [182, 0, 28, 44, 182, 0, 32, 159, 0, 226, 3, 172, 43, 42, 29, 4, 96, 46, 182, 0, 33, 44, 42, 29]
abbrev dktL_law_8 : List UInt8 := dkwL_law_8 ++ dktL_law_9
def dkwL_law_7 : List UInt8 := [43, 42, 29, 4, 96, 46, 182, 0, 23, 44, 42, 29, 4, 96, 46, 182, 0, 27, 167, 0, 237, 43]
abbrev dktL_law_7 : List UInt8 := dkwL_law_7 ++ dktL_law_8
def dkwL_law_6 : List UInt8 := [44, 42, 29, 4, 96, 46, 42, 29, 5, 96, 46, 42, 29, 6, 96, 46, 182, 0, 22, 159, 1, 4, 3, 172]
abbrev dktL_law_6 : List UInt8 := dkwL_law_6 ++ dktL_law_7
def dkwL_law_5 : List UInt8 := [159, 1, 47, 3, 172, 43, 42, 29, 4, 96, 46, 42, 29, 5, 96, 46, 42, 29, 6, 96, 46, 182, 0, 18]
abbrev dktL_law_5 : List UInt8 := dkwL_law_5 ++ dktL_law_6
def dkwL_law_4 : List UInt8 := [44, 42, 29, 4, 96, 46, 42, 29, 5, 96, 46, 42, 29, 6, 96, 46, 42, 29, 7, 96, 46, 182, 0, 17]
abbrev dktL_law_4 : List UInt8 := dkwL_law_4 ++ dktL_law_5
def dkwL_law_3 : List UInt8 := [43, 42, 29, 4, 96, 46, 42, 29, 5, 96, 46, 42, 29, 6, 96, 46, 42, 29, 7, 96, 46, 182, 0, 13]
abbrev dktL_law_3 : List UInt8 := dkwL_law_3 ++ dktL_law_4
def dkwL_law_2 : List UInt8 := [170, 0, 0, 0, 0, 1, 154, 0, 0, 0, 0, 0, 0, 0, 10, 0, 0, 0, 59, 0, 0, 0, 112, 0, 0, 0, 155, 0, 0, 0, 176, 0, 0, 0, 189, 0, 0, 0, 212, 0, 0, 0, 243, 0, 0, 1, 18, 0, 0, 1, 49, 0, 0, 1, 80, 0, 0, 1, 111]
abbrev dktL_law_2 : List UInt8 := dkwL_law_2 ++ dktL_law_3
def dkwL_law_1 : List UInt8 := [163, 1, 169, 42, 29, 46, 16, 15, 126]
abbrev dktL_law_1 : List UInt8 := dkwL_law_1 ++ dktL_law_2
def dkwL_law_0 : List UInt8 := [187, 0, 7, 89, 183, 0, 9, 76, 187, 0, 10, 89, 183, 0, 12, 77, 3, 62, 29, 42, 190, 16, 6, 100]
abbrev dktL_law_0 : List UInt8 := dkwL_law_0 ++ dktL_law_1
theorem dksL_law_0 : cL_law.data.toList.drop 0 = dktL_law_0 := by decide +kernel
theorem dksL_law_1 : cL_law.data.toList.drop 24 = dktL_law_1 := dk_seg dksL_law_0 24 rfl rfl
theorem dksL_law_2 : cL_law.data.toList.drop 33 = dktL_law_2 := dk_seg dksL_law_1 9 rfl rfl
theorem dksL_law_3 : cL_law.data.toList.drop 92 = dktL_law_3 := dk_seg dksL_law_2 59 rfl rfl
theorem dksL_law_4 : cL_law.data.toList.drop 116 = dktL_law_4 := dk_seg dksL_law_3 24 rfl rfl
theorem dksL_law_5 : cL_law.data.toList.drop 140 = dktL_law_5 := dk_seg dksL_law_4 24 rfl rfl
theorem dksL_law_6 : cL_law.data.toList.drop 164 = dktL_law_6 := dk_seg dksL_law_5 24 rfl rfl
theorem dksL_law_7 : cL_law.data.toList.drop 188 = dktL_law_7 := dk_seg dksL_law_6 24 rfl rfl
theorem dksL_law_8 : cL_law.data.toList.drop 210 = dktL_law_8 := dk_seg dksL_law_7 22 rfl rfl
theorem dksL_law_9 : cL_law.data.toList.drop 234 = dktL_law_9 := dk_seg dksL_law_8 24 rfl rfl
theorem dksL_law_10 : cL_law.data.toList.drop 256 = dktL_law_10 := dk_seg dksL_law_9 22 rfl rfl
theorem dksL_law_11 : cL_law.data.toList.drop 280 = dktL_law_11 := dk_seg dksL_law_10 24 rfl rfl
theorem dksL_law_12 : cL_law.data.toList.drop 304 = dktL_law_12 := dk_seg dksL_law_11 24 rfl rfl
theorem dksL_law_13 : cL_law.data.toList.drop 328 = dktL_law_13 := dk_seg dksL_law_12 24 rfl rfl
theorem dksL_law_14 : cL_law.data.toList.drop 352 = dktL_law_14 := dk_seg dksL_law_13 24 rfl rfl
theorem dksL_law_15 : cL_law.data.toList.drop 376 = dktL_law_15 := dk_seg dksL_law_14 24 rfl rfl
theorem dksL_law_16 : cL_law.data.toList.drop 400 = dktL_law_16 := dk_seg dksL_law_15 24 rfl rfl
theorem dksL_law_17 : cL_law.data.toList.drop 424 = dktL_law_17 := dk_seg dksL_law_16 24 rfl rfl
theorem dksL_law_18 : cL_law.data.toList.drop 446 = dktL_law_18 := dk_seg dksL_law_17 22 rfl rfl
theorem dL_law_0 : decode cL_law 0 = .ok (.new 7, 3) := dk_187 0 7 (dk_at dksL_law_0 0 rfl rfl)
theorem dL_law_3 : decode cL_law 3 = .ok (.dup, 1) := dk_89 (dk_at dksL_law_0 3 rfl rfl)
theorem dL_law_4 : decode cL_law 4 = .ok (.invokespecial 9, 3) := dk_183 0 9 (dk_at dksL_law_0 4 rfl rfl)
theorem dL_law_7 : decode cL_law 7 = .ok (.astore_n 1, 1) := dk_76 (dk_at dksL_law_0 7 rfl rfl)
theorem dL_law_8 : decode cL_law 8 = .ok (.new 10, 3) := dk_187 0 10 (dk_at dksL_law_0 8 rfl rfl)
theorem dL_law_11 : decode cL_law 11 = .ok (.dup, 1) := dk_89 (dk_at dksL_law_0 11 rfl rfl)
theorem dL_law_12 : decode cL_law 12 = .ok (.invokespecial 12, 3) := dk_183 0 12 (dk_at dksL_law_0 12 rfl rfl)
theorem dL_law_15 : decode cL_law 15 = .ok (.astore_n 2, 1) := dk_77 (dk_at dksL_law_0 15 rfl rfl)
theorem dL_law_16 : decode cL_law 16 = .ok (.iconst 0, 1) := dk_3 (dk_at dksL_law_0 16 rfl rfl)
theorem dL_law_17 : decode cL_law 17 = .ok (.istore_n 3, 1) := dk_62 (dk_at dksL_law_0 17 rfl rfl)
theorem dL_law_18 : decode cL_law 18 = .ok (.iload_n 3, 1) := dk_29 (dk_at dksL_law_0 18 rfl rfl)
theorem dL_law_19 : decode cL_law 19 = .ok (.aload_n 0, 1) := dk_42 (dk_at dksL_law_0 19 rfl rfl)
theorem dL_law_20 : decode cL_law 20 = .ok (.arraylength, 1) := dk_190 (dk_at dksL_law_0 20 rfl rfl)
theorem dL_law_21 : decode cL_law 21 = .ok (.bipush 6, 2) := dk_16 6 (dk_at dksL_law_0 21 rfl rfl)
theorem dL_law_23 : decode cL_law 23 = .ok (.isub, 1) := dk_100 (dk_at dksL_law_0 23 rfl rfl)
theorem dL_law_24 : decode cL_law 24 = .ok (.if_icmp .gt 425, 3) := dk_163 1 169 (dk_at dksL_law_1 0 rfl rfl)
theorem dL_law_27 : decode cL_law 27 = .ok (.aload_n 0, 1) := dk_42 (dk_at dksL_law_1 3 rfl rfl)
theorem dL_law_28 : decode cL_law 28 = .ok (.iload_n 3, 1) := dk_29 (dk_at dksL_law_1 4 rfl rfl)
theorem dL_law_29 : decode cL_law 29 = .ok (.iaload, 1) := dk_46 (dk_at dksL_law_1 5 rfl rfl)
theorem dL_law_30 : decode cL_law 30 = .ok (.bipush 15, 2) := dk_16 15 (dk_at dksL_law_1 6 rfl rfl)
theorem dL_law_32 : decode cL_law 32 = .ok (.iand, 1) := dk_126 (dk_at dksL_law_1 8 rfl rfl)
theorem dL_law_33 : decode cL_law 33 = .ok (.tableswitch 410 0 10 #[59, 112, 155, 176, 189, 212, 243, 274, 305, 336, 367], 59) := by decide +kernel
theorem dL_law_92 : decode cL_law 92 = .ok (.aload_n 1, 1) := dk_43 (dk_at dksL_law_3 0 rfl rfl)
theorem dL_law_93 : decode cL_law 93 = .ok (.aload_n 0, 1) := dk_42 (dk_at dksL_law_3 1 rfl rfl)
theorem dL_law_94 : decode cL_law 94 = .ok (.iload_n 3, 1) := dk_29 (dk_at dksL_law_3 2 rfl rfl)
theorem dL_law_95 : decode cL_law 95 = .ok (.iconst 1, 1) := dk_4 (dk_at dksL_law_3 3 rfl rfl)
theorem dL_law_96 : decode cL_law 96 = .ok (.iadd, 1) := dk_96 (dk_at dksL_law_3 4 rfl rfl)
theorem dL_law_97 : decode cL_law 97 = .ok (.iaload, 1) := dk_46 (dk_at dksL_law_3 5 rfl rfl)
theorem dL_law_98 : decode cL_law 98 = .ok (.aload_n 0, 1) := dk_42 (dk_at dksL_law_3 6 rfl rfl)
theorem dL_law_99 : decode cL_law 99 = .ok (.iload_n 3, 1) := dk_29 (dk_at dksL_law_3 7 rfl rfl)
theorem dL_law_100 : decode cL_law 100 = .ok (.iconst 2, 1) := dk_5 (dk_at dksL_law_3 8 rfl rfl)
theorem dL_law_101 : decode cL_law 101 = .ok (.iadd, 1) := dk_96 (dk_at dksL_law_3 9 rfl rfl)
theorem dL_law_102 : decode cL_law 102 = .ok (.iaload, 1) := dk_46 (dk_at dksL_law_3 10 rfl rfl)
theorem dL_law_103 : decode cL_law 103 = .ok (.aload_n 0, 1) := dk_42 (dk_at dksL_law_3 11 rfl rfl)
theorem dL_law_104 : decode cL_law 104 = .ok (.iload_n 3, 1) := dk_29 (dk_at dksL_law_3 12 rfl rfl)
theorem dL_law_105 : decode cL_law 105 = .ok (.iconst 3, 1) := dk_6 (dk_at dksL_law_3 13 rfl rfl)
theorem dL_law_106 : decode cL_law 106 = .ok (.iadd, 1) := dk_96 (dk_at dksL_law_3 14 rfl rfl)
theorem dL_law_107 : decode cL_law 107 = .ok (.iaload, 1) := dk_46 (dk_at dksL_law_3 15 rfl rfl)
theorem dL_law_108 : decode cL_law 108 = .ok (.aload_n 0, 1) := dk_42 (dk_at dksL_law_3 16 rfl rfl)
theorem dL_law_109 : decode cL_law 109 = .ok (.iload_n 3, 1) := dk_29 (dk_at dksL_law_3 17 rfl rfl)
theorem dL_law_110 : decode cL_law 110 = .ok (.iconst 4, 1) := dk_7 (dk_at dksL_law_3 18 rfl rfl)
theorem dL_law_111 : decode cL_law 111 = .ok (.iadd, 1) := dk_96 (dk_at dksL_law_3 19 rfl rfl)
theorem dL_law_112 : decode cL_law 112 = .ok (.iaload, 1) := dk_46 (dk_at dksL_law_3 20 rfl rfl)
theorem dL_law_113 : decode cL_law 113 = .ok (.invokevirtual 13, 3) := dk_182 0 13 (dk_at dksL_law_3 21 rfl rfl)
theorem dL_law_116 : decode cL_law 116 = .ok (.aload_n 2, 1) := dk_44 (dk_at dksL_law_4 0 rfl rfl)
theorem dL_law_117 : decode cL_law 117 = .ok (.aload_n 0, 1) := dk_42 (dk_at dksL_law_4 1 rfl rfl)
theorem dL_law_118 : decode cL_law 118 = .ok (.iload_n 3, 1) := dk_29 (dk_at dksL_law_4 2 rfl rfl)
theorem dL_law_119 : decode cL_law 119 = .ok (.iconst 1, 1) := dk_4 (dk_at dksL_law_4 3 rfl rfl)
theorem dL_law_120 : decode cL_law 120 = .ok (.iadd, 1) := dk_96 (dk_at dksL_law_4 4 rfl rfl)
theorem dL_law_121 : decode cL_law 121 = .ok (.iaload, 1) := dk_46 (dk_at dksL_law_4 5 rfl rfl)
theorem dL_law_122 : decode cL_law 122 = .ok (.aload_n 0, 1) := dk_42 (dk_at dksL_law_4 6 rfl rfl)
theorem dL_law_123 : decode cL_law 123 = .ok (.iload_n 3, 1) := dk_29 (dk_at dksL_law_4 7 rfl rfl)
theorem dL_law_124 : decode cL_law 124 = .ok (.iconst 2, 1) := dk_5 (dk_at dksL_law_4 8 rfl rfl)
theorem dL_law_125 : decode cL_law 125 = .ok (.iadd, 1) := dk_96 (dk_at dksL_law_4 9 rfl rfl)
theorem dL_law_126 : decode cL_law 126 = .ok (.iaload, 1) := dk_46 (dk_at dksL_law_4 10 rfl rfl)
theorem dL_law_127 : decode cL_law 127 = .ok (.aload_n 0, 1) := dk_42 (dk_at dksL_law_4 11 rfl rfl)
theorem dL_law_128 : decode cL_law 128 = .ok (.iload_n 3, 1) := dk_29 (dk_at dksL_law_4 12 rfl rfl)
theorem dL_law_129 : decode cL_law 129 = .ok (.iconst 3, 1) := dk_6 (dk_at dksL_law_4 13 rfl rfl)
theorem dL_law_130 : decode cL_law 130 = .ok (.iadd, 1) := dk_96 (dk_at dksL_law_4 14 rfl rfl)
theorem dL_law_131 : decode cL_law 131 = .ok (.iaload, 1) := dk_46 (dk_at dksL_law_4 15 rfl rfl)
theorem dL_law_132 : decode cL_law 132 = .ok (.aload_n 0, 1) := dk_42 (dk_at dksL_law_4 16 rfl rfl)
theorem dL_law_133 : decode cL_law 133 = .ok (.iload_n 3, 1) := dk_29 (dk_at dksL_law_4 17 rfl rfl)
theorem dL_law_134 : decode cL_law 134 = .ok (.iconst 4, 1) := dk_7 (dk_at dksL_law_4 18 rfl rfl)
theorem dL_law_135 : decode cL_law 135 = .ok (.iadd, 1) := dk_96 (dk_at dksL_law_4 19 rfl rfl)
theorem dL_law_136 : decode cL_law 136 = .ok (.iaload, 1) := dk_46 (dk_at dksL_law_4 20 rfl rfl)
theorem dL_law_137 : decode cL_law 137 = .ok (.invokevirtual 17, 3) := dk_182 0 17 (dk_at dksL_law_4 21 rfl rfl)
theorem dL_law_140 : decode cL_law 140 = .ok (.if_icmp .eq 303, 3) := dk_159 1 47 (dk_at dksL_law_5 0 rfl rfl)
theorem dL_law_143 : decode cL_law 143 = .ok (.iconst 0, 1) := dk_3 (dk_at dksL_law_5 3 rfl rfl)
theorem dL_law_144 : decode cL_law 144 = .ok (.ireturn, 1) := dk_172 (dk_at dksL_law_5 4 rfl rfl)
theorem dL_law_145 : decode cL_law 145 = .ok (.aload_n 1, 1) := dk_43 (dk_at dksL_law_5 5 rfl rfl)
theorem dL_law_146 : decode cL_law 146 = .ok (.aload_n 0, 1) := dk_42 (dk_at dksL_law_5 6 rfl rfl)
theorem dL_law_147 : decode cL_law 147 = .ok (.iload_n 3, 1) := dk_29 (dk_at dksL_law_5 7 rfl rfl)
theorem dL_law_148 : decode cL_law 148 = .ok (.iconst 1, 1) := dk_4 (dk_at dksL_law_5 8 rfl rfl)
theorem dL_law_149 : decode cL_law 149 = .ok (.iadd, 1) := dk_96 (dk_at dksL_law_5 9 rfl rfl)
theorem dL_law_150 : decode cL_law 150 = .ok (.iaload, 1) := dk_46 (dk_at dksL_law_5 10 rfl rfl)
theorem dL_law_151 : decode cL_law 151 = .ok (.aload_n 0, 1) := dk_42 (dk_at dksL_law_5 11 rfl rfl)
theorem dL_law_152 : decode cL_law 152 = .ok (.iload_n 3, 1) := dk_29 (dk_at dksL_law_5 12 rfl rfl)
theorem dL_law_153 : decode cL_law 153 = .ok (.iconst 2, 1) := dk_5 (dk_at dksL_law_5 13 rfl rfl)
theorem dL_law_154 : decode cL_law 154 = .ok (.iadd, 1) := dk_96 (dk_at dksL_law_5 14 rfl rfl)
theorem dL_law_155 : decode cL_law 155 = .ok (.iaload, 1) := dk_46 (dk_at dksL_law_5 15 rfl rfl)
theorem dL_law_156 : decode cL_law 156 = .ok (.aload_n 0, 1) := dk_42 (dk_at dksL_law_5 16 rfl rfl)
theorem dL_law_157 : decode cL_law 157 = .ok (.iload_n 3, 1) := dk_29 (dk_at dksL_law_5 17 rfl rfl)
theorem dL_law_158 : decode cL_law 158 = .ok (.iconst 3, 1) := dk_6 (dk_at dksL_law_5 18 rfl rfl)
theorem dL_law_159 : decode cL_law 159 = .ok (.iadd, 1) := dk_96 (dk_at dksL_law_5 19 rfl rfl)
theorem dL_law_160 : decode cL_law 160 = .ok (.iaload, 1) := dk_46 (dk_at dksL_law_5 20 rfl rfl)
theorem dL_law_161 : decode cL_law 161 = .ok (.invokevirtual 18, 3) := dk_182 0 18 (dk_at dksL_law_5 21 rfl rfl)
theorem dL_law_164 : decode cL_law 164 = .ok (.aload_n 2, 1) := dk_44 (dk_at dksL_law_6 0 rfl rfl)
theorem dL_law_165 : decode cL_law 165 = .ok (.aload_n 0, 1) := dk_42 (dk_at dksL_law_6 1 rfl rfl)
theorem dL_law_166 : decode cL_law 166 = .ok (.iload_n 3, 1) := dk_29 (dk_at dksL_law_6 2 rfl rfl)
theorem dL_law_167 : decode cL_law 167 = .ok (.iconst 1, 1) := dk_4 (dk_at dksL_law_6 3 rfl rfl)
theorem dL_law_168 : decode cL_law 168 = .ok (.iadd, 1) := dk_96 (dk_at dksL_law_6 4 rfl rfl)
theorem dL_law_169 : decode cL_law 169 = .ok (.iaload, 1) := dk_46 (dk_at dksL_law_6 5 rfl rfl)
theorem dL_law_170 : decode cL_law 170 = .ok (.aload_n 0, 1) := dk_42 (dk_at dksL_law_6 6 rfl rfl)
theorem dL_law_171 : decode cL_law 171 = .ok (.iload_n 3, 1) := dk_29 (dk_at dksL_law_6 7 rfl rfl)
theorem dL_law_172 : decode cL_law 172 = .ok (.iconst 2, 1) := dk_5 (dk_at dksL_law_6 8 rfl rfl)
theorem dL_law_173 : decode cL_law 173 = .ok (.iadd, 1) := dk_96 (dk_at dksL_law_6 9 rfl rfl)
theorem dL_law_174 : decode cL_law 174 = .ok (.iaload, 1) := dk_46 (dk_at dksL_law_6 10 rfl rfl)
theorem dL_law_175 : decode cL_law 175 = .ok (.aload_n 0, 1) := dk_42 (dk_at dksL_law_6 11 rfl rfl)
theorem dL_law_176 : decode cL_law 176 = .ok (.iload_n 3, 1) := dk_29 (dk_at dksL_law_6 12 rfl rfl)
theorem dL_law_177 : decode cL_law 177 = .ok (.iconst 3, 1) := dk_6 (dk_at dksL_law_6 13 rfl rfl)
theorem dL_law_178 : decode cL_law 178 = .ok (.iadd, 1) := dk_96 (dk_at dksL_law_6 14 rfl rfl)
theorem dL_law_179 : decode cL_law 179 = .ok (.iaload, 1) := dk_46 (dk_at dksL_law_6 15 rfl rfl)
theorem dL_law_180 : decode cL_law 180 = .ok (.invokevirtual 22, 3) := dk_182 0 22 (dk_at dksL_law_6 16 rfl rfl)
theorem dL_law_183 : decode cL_law 183 = .ok (.if_icmp .eq 260, 3) := dk_159 1 4 (dk_at dksL_law_6 19 rfl rfl)
theorem dL_law_186 : decode cL_law 186 = .ok (.iconst 0, 1) := dk_3 (dk_at dksL_law_6 22 rfl rfl)
theorem dL_law_187 : decode cL_law 187 = .ok (.ireturn, 1) := dk_172 (dk_at dksL_law_6 23 rfl rfl)
theorem dL_law_188 : decode cL_law 188 = .ok (.aload_n 1, 1) := dk_43 (dk_at dksL_law_7 0 rfl rfl)
theorem dL_law_189 : decode cL_law 189 = .ok (.aload_n 0, 1) := dk_42 (dk_at dksL_law_7 1 rfl rfl)
theorem dL_law_190 : decode cL_law 190 = .ok (.iload_n 3, 1) := dk_29 (dk_at dksL_law_7 2 rfl rfl)
theorem dL_law_191 : decode cL_law 191 = .ok (.iconst 1, 1) := dk_4 (dk_at dksL_law_7 3 rfl rfl)
theorem dL_law_192 : decode cL_law 192 = .ok (.iadd, 1) := dk_96 (dk_at dksL_law_7 4 rfl rfl)
theorem dL_law_193 : decode cL_law 193 = .ok (.iaload, 1) := dk_46 (dk_at dksL_law_7 5 rfl rfl)
theorem dL_law_194 : decode cL_law 194 = .ok (.invokevirtual 23, 3) := dk_182 0 23 (dk_at dksL_law_7 6 rfl rfl)
theorem dL_law_197 : decode cL_law 197 = .ok (.aload_n 2, 1) := dk_44 (dk_at dksL_law_7 9 rfl rfl)
theorem dL_law_198 : decode cL_law 198 = .ok (.aload_n 0, 1) := dk_42 (dk_at dksL_law_7 10 rfl rfl)
theorem dL_law_199 : decode cL_law 199 = .ok (.iload_n 3, 1) := dk_29 (dk_at dksL_law_7 11 rfl rfl)
theorem dL_law_200 : decode cL_law 200 = .ok (.iconst 1, 1) := dk_4 (dk_at dksL_law_7 12 rfl rfl)
theorem dL_law_201 : decode cL_law 201 = .ok (.iadd, 1) := dk_96 (dk_at dksL_law_7 13 rfl rfl)
theorem dL_law_202 : decode cL_law 202 = .ok (.iaload, 1) := dk_46 (dk_at dksL_law_7 14 rfl rfl)
theorem dL_law_203 : decode cL_law 203 = .ok (.invokevirtual 27, 3) := dk_182 0 27 (dk_at dksL_law_7 15 rfl rfl)
theorem dL_law_206 : decode cL_law 206 = .ok (.goto 237, 3) := dk_167 0 237 (dk_at dksL_law_7 18 rfl rfl)
theorem dL_law_209 : decode cL_law 209 = .ok (.aload_n 1, 1) := dk_43 (dk_at dksL_law_7 21 rfl rfl)
theorem dL_law_210 : decode cL_law 210 = .ok (.invokevirtual 28, 3) := dk_182 0 28 (dk_at dksL_law_8 0 rfl rfl)
theorem dL_law_213 : decode cL_law 213 = .ok (.aload_n 2, 1) := dk_44 (dk_at dksL_law_8 3 rfl rfl)
theorem dL_law_214 : decode cL_law 214 = .ok (.invokevirtual 32, 3) := dk_182 0 32 (dk_at dksL_law_8 4 rfl rfl)
theorem dL_law_217 : decode cL_law 217 = .ok (.if_icmp .eq 226, 3) := dk_159 0 226 (dk_at dksL_law_8 7 rfl rfl)
theorem dL_law_220 : decode cL_law 220 = .ok (.iconst 0, 1) := dk_3 (dk_at dksL_law_8 10 rfl rfl)
theorem dL_law_221 : decode cL_law 221 = .ok (.ireturn, 1) := dk_172 (dk_at dksL_law_8 11 rfl rfl)
theorem dL_law_222 : decode cL_law 222 = .ok (.aload_n 1, 1) := dk_43 (dk_at dksL_law_8 12 rfl rfl)
theorem dL_law_223 : decode cL_law 223 = .ok (.aload_n 0, 1) := dk_42 (dk_at dksL_law_8 13 rfl rfl)
theorem dL_law_224 : decode cL_law 224 = .ok (.iload_n 3, 1) := dk_29 (dk_at dksL_law_8 14 rfl rfl)
theorem dL_law_225 : decode cL_law 225 = .ok (.iconst 1, 1) := dk_4 (dk_at dksL_law_8 15 rfl rfl)
theorem dL_law_226 : decode cL_law 226 = .ok (.iadd, 1) := dk_96 (dk_at dksL_law_8 16 rfl rfl)
theorem dL_law_227 : decode cL_law 227 = .ok (.iaload, 1) := dk_46 (dk_at dksL_law_8 17 rfl rfl)
theorem dL_law_228 : decode cL_law 228 = .ok (.invokevirtual 33, 3) := dk_182 0 33 (dk_at dksL_law_8 18 rfl rfl)
theorem dL_law_231 : decode cL_law 231 = .ok (.aload_n 2, 1) := dk_44 (dk_at dksL_law_8 21 rfl rfl)
theorem dL_law_232 : decode cL_law 232 = .ok (.aload_n 0, 1) := dk_42 (dk_at dksL_law_8 22 rfl rfl)
theorem dL_law_233 : decode cL_law 233 = .ok (.iload_n 3, 1) := dk_29 (dk_at dksL_law_8 23 rfl rfl)
theorem dL_law_234 : decode cL_law 234 = .ok (.iconst 1, 1) := dk_4 (dk_at dksL_law_9 0 rfl rfl)
theorem dL_law_235 : decode cL_law 235 = .ok (.iadd, 1) := dk_96 (dk_at dksL_law_9 1 rfl rfl)
theorem dL_law_236 : decode cL_law 236 = .ok (.iaload, 1) := dk_46 (dk_at dksL_law_9 2 rfl rfl)
theorem dL_law_237 : decode cL_law 237 = .ok (.invokevirtual 37, 3) := dk_182 0 37 (dk_at dksL_law_9 3 rfl rfl)
theorem dL_law_240 : decode cL_law 240 = .ok (.if_icmp .eq 203, 3) := dk_159 0 203 (dk_at dksL_law_9 6 rfl rfl)
theorem dL_law_243 : decode cL_law 243 = .ok (.iconst 0, 1) := dk_3 (dk_at dksL_law_9 9 rfl rfl)
theorem dL_law_244 : decode cL_law 244 = .ok (.ireturn, 1) := dk_172 (dk_at dksL_law_9 10 rfl rfl)
theorem dL_law_245 : decode cL_law 245 = .ok (.aload_n 1, 1) := dk_43 (dk_at dksL_law_9 11 rfl rfl)
theorem dL_law_246 : decode cL_law 246 = .ok (.aload_n 0, 1) := dk_42 (dk_at dksL_law_9 12 rfl rfl)
theorem dL_law_247 : decode cL_law 247 = .ok (.iload_n 3, 1) := dk_29 (dk_at dksL_law_9 13 rfl rfl)
theorem dL_law_248 : decode cL_law 248 = .ok (.iconst 1, 1) := dk_4 (dk_at dksL_law_9 14 rfl rfl)
theorem dL_law_249 : decode cL_law 249 = .ok (.iadd, 1) := dk_96 (dk_at dksL_law_9 15 rfl rfl)
theorem dL_law_250 : decode cL_law 250 = .ok (.iaload, 1) := dk_46 (dk_at dksL_law_9 16 rfl rfl)
theorem dL_law_251 : decode cL_law 251 = .ok (.aload_n 0, 1) := dk_42 (dk_at dksL_law_9 17 rfl rfl)
theorem dL_law_252 : decode cL_law 252 = .ok (.iload_n 3, 1) := dk_29 (dk_at dksL_law_9 18 rfl rfl)
theorem dL_law_253 : decode cL_law 253 = .ok (.iconst 2, 1) := dk_5 (dk_at dksL_law_9 19 rfl rfl)
theorem dL_law_254 : decode cL_law 254 = .ok (.iadd, 1) := dk_96 (dk_at dksL_law_9 20 rfl rfl)
theorem dL_law_255 : decode cL_law 255 = .ok (.iaload, 1) := dk_46 (dk_at dksL_law_9 21 rfl rfl)
theorem dL_law_256 : decode cL_law 256 = .ok (.invokevirtual 38, 3) := dk_182 0 38 (dk_at dksL_law_10 0 rfl rfl)
theorem dL_law_259 : decode cL_law 259 = .ok (.aload_n 2, 1) := dk_44 (dk_at dksL_law_10 3 rfl rfl)
theorem dL_law_260 : decode cL_law 260 = .ok (.aload_n 0, 1) := dk_42 (dk_at dksL_law_10 4 rfl rfl)
theorem dL_law_261 : decode cL_law 261 = .ok (.iload_n 3, 1) := dk_29 (dk_at dksL_law_10 5 rfl rfl)
theorem dL_law_262 : decode cL_law 262 = .ok (.iconst 1, 1) := dk_4 (dk_at dksL_law_10 6 rfl rfl)
theorem dL_law_263 : decode cL_law 263 = .ok (.iadd, 1) := dk_96 (dk_at dksL_law_10 7 rfl rfl)
theorem dL_law_264 : decode cL_law 264 = .ok (.iaload, 1) := dk_46 (dk_at dksL_law_10 8 rfl rfl)
theorem dL_law_265 : decode cL_law 265 = .ok (.aload_n 0, 1) := dk_42 (dk_at dksL_law_10 9 rfl rfl)
theorem dL_law_266 : decode cL_law 266 = .ok (.iload_n 3, 1) := dk_29 (dk_at dksL_law_10 10 rfl rfl)
theorem dL_law_267 : decode cL_law 267 = .ok (.iconst 2, 1) := dk_5 (dk_at dksL_law_10 11 rfl rfl)
theorem dL_law_268 : decode cL_law 268 = .ok (.iadd, 1) := dk_96 (dk_at dksL_law_10 12 rfl rfl)
theorem dL_law_269 : decode cL_law 269 = .ok (.iaload, 1) := dk_46 (dk_at dksL_law_10 13 rfl rfl)
theorem dL_law_270 : decode cL_law 270 = .ok (.invokevirtual 42, 3) := dk_182 0 42 (dk_at dksL_law_10 14 rfl rfl)
theorem dL_law_273 : decode cL_law 273 = .ok (.goto 170, 3) := dk_167 0 170 (dk_at dksL_law_10 17 rfl rfl)
theorem dL_law_276 : decode cL_law 276 = .ok (.aload_n 1, 1) := dk_43 (dk_at dksL_law_10 20 rfl rfl)
theorem dL_law_277 : decode cL_law 277 = .ok (.aload_n 0, 1) := dk_42 (dk_at dksL_law_10 21 rfl rfl)
theorem dL_law_278 : decode cL_law 278 = .ok (.iload_n 3, 1) := dk_29 (dk_at dksL_law_10 22 rfl rfl)
theorem dL_law_279 : decode cL_law 279 = .ok (.iconst 1, 1) := dk_4 (dk_at dksL_law_10 23 rfl rfl)
theorem dL_law_280 : decode cL_law 280 = .ok (.iadd, 1) := dk_96 (dk_at dksL_law_11 0 rfl rfl)
theorem dL_law_281 : decode cL_law 281 = .ok (.iaload, 1) := dk_46 (dk_at dksL_law_11 1 rfl rfl)
theorem dL_law_282 : decode cL_law 282 = .ok (.aload_n 0, 1) := dk_42 (dk_at dksL_law_11 2 rfl rfl)
theorem dL_law_283 : decode cL_law 283 = .ok (.iload_n 3, 1) := dk_29 (dk_at dksL_law_11 3 rfl rfl)
theorem dL_law_284 : decode cL_law 284 = .ok (.iconst 2, 1) := dk_5 (dk_at dksL_law_11 4 rfl rfl)
theorem dL_law_285 : decode cL_law 285 = .ok (.iadd, 1) := dk_96 (dk_at dksL_law_11 5 rfl rfl)
theorem dL_law_286 : decode cL_law 286 = .ok (.iaload, 1) := dk_46 (dk_at dksL_law_11 6 rfl rfl)
theorem dL_law_287 : decode cL_law 287 = .ok (.invokevirtual 43, 3) := dk_182 0 43 (dk_at dksL_law_11 7 rfl rfl)
theorem dL_law_290 : decode cL_law 290 = .ok (.aload_n 2, 1) := dk_44 (dk_at dksL_law_11 10 rfl rfl)
theorem dL_law_291 : decode cL_law 291 = .ok (.aload_n 0, 1) := dk_42 (dk_at dksL_law_11 11 rfl rfl)
theorem dL_law_292 : decode cL_law 292 = .ok (.iload_n 3, 1) := dk_29 (dk_at dksL_law_11 12 rfl rfl)
theorem dL_law_293 : decode cL_law 293 = .ok (.iconst 1, 1) := dk_4 (dk_at dksL_law_11 13 rfl rfl)
theorem dL_law_294 : decode cL_law 294 = .ok (.iadd, 1) := dk_96 (dk_at dksL_law_11 14 rfl rfl)
theorem dL_law_295 : decode cL_law 295 = .ok (.iaload, 1) := dk_46 (dk_at dksL_law_11 15 rfl rfl)
theorem dL_law_296 : decode cL_law 296 = .ok (.aload_n 0, 1) := dk_42 (dk_at dksL_law_11 16 rfl rfl)
theorem dL_law_297 : decode cL_law 297 = .ok (.iload_n 3, 1) := dk_29 (dk_at dksL_law_11 17 rfl rfl)
theorem dL_law_298 : decode cL_law 298 = .ok (.iconst 2, 1) := dk_5 (dk_at dksL_law_11 18 rfl rfl)
theorem dL_law_299 : decode cL_law 299 = .ok (.iadd, 1) := dk_96 (dk_at dksL_law_11 19 rfl rfl)
theorem dL_law_300 : decode cL_law 300 = .ok (.iaload, 1) := dk_46 (dk_at dksL_law_11 20 rfl rfl)
theorem dL_law_301 : decode cL_law 301 = .ok (.invokevirtual 46, 3) := dk_182 0 46 (dk_at dksL_law_11 21 rfl rfl)
theorem dL_law_304 : decode cL_law 304 = .ok (.goto 139, 3) := dk_167 0 139 (dk_at dksL_law_12 0 rfl rfl)
theorem dL_law_307 : decode cL_law 307 = .ok (.aload_n 1, 1) := dk_43 (dk_at dksL_law_12 3 rfl rfl)
theorem dL_law_308 : decode cL_law 308 = .ok (.aload_n 0, 1) := dk_42 (dk_at dksL_law_12 4 rfl rfl)
theorem dL_law_309 : decode cL_law 309 = .ok (.iload_n 3, 1) := dk_29 (dk_at dksL_law_12 5 rfl rfl)
theorem dL_law_310 : decode cL_law 310 = .ok (.iconst 1, 1) := dk_4 (dk_at dksL_law_12 6 rfl rfl)
theorem dL_law_311 : decode cL_law 311 = .ok (.iadd, 1) := dk_96 (dk_at dksL_law_12 7 rfl rfl)
theorem dL_law_312 : decode cL_law 312 = .ok (.iaload, 1) := dk_46 (dk_at dksL_law_12 8 rfl rfl)
theorem dL_law_313 : decode cL_law 313 = .ok (.aload_n 0, 1) := dk_42 (dk_at dksL_law_12 9 rfl rfl)
theorem dL_law_314 : decode cL_law 314 = .ok (.iload_n 3, 1) := dk_29 (dk_at dksL_law_12 10 rfl rfl)
theorem dL_law_315 : decode cL_law 315 = .ok (.iconst 2, 1) := dk_5 (dk_at dksL_law_12 11 rfl rfl)
theorem dL_law_316 : decode cL_law 316 = .ok (.iadd, 1) := dk_96 (dk_at dksL_law_12 12 rfl rfl)
theorem dL_law_317 : decode cL_law 317 = .ok (.iaload, 1) := dk_46 (dk_at dksL_law_12 13 rfl rfl)
theorem dL_law_318 : decode cL_law 318 = .ok (.invokevirtual 47, 3) := dk_182 0 47 (dk_at dksL_law_12 14 rfl rfl)
theorem dL_law_321 : decode cL_law 321 = .ok (.aload_n 2, 1) := dk_44 (dk_at dksL_law_12 17 rfl rfl)
theorem dL_law_322 : decode cL_law 322 = .ok (.aload_n 0, 1) := dk_42 (dk_at dksL_law_12 18 rfl rfl)
theorem dL_law_323 : decode cL_law 323 = .ok (.iload_n 3, 1) := dk_29 (dk_at dksL_law_12 19 rfl rfl)
theorem dL_law_324 : decode cL_law 324 = .ok (.iconst 1, 1) := dk_4 (dk_at dksL_law_12 20 rfl rfl)
theorem dL_law_325 : decode cL_law 325 = .ok (.iadd, 1) := dk_96 (dk_at dksL_law_12 21 rfl rfl)
theorem dL_law_326 : decode cL_law 326 = .ok (.iaload, 1) := dk_46 (dk_at dksL_law_12 22 rfl rfl)
theorem dL_law_327 : decode cL_law 327 = .ok (.aload_n 0, 1) := dk_42 (dk_at dksL_law_12 23 rfl rfl)
theorem dL_law_328 : decode cL_law 328 = .ok (.iload_n 3, 1) := dk_29 (dk_at dksL_law_13 0 rfl rfl)
theorem dL_law_329 : decode cL_law 329 = .ok (.iconst 2, 1) := dk_5 (dk_at dksL_law_13 1 rfl rfl)
theorem dL_law_330 : decode cL_law 330 = .ok (.iadd, 1) := dk_96 (dk_at dksL_law_13 2 rfl rfl)
theorem dL_law_331 : decode cL_law 331 = .ok (.iaload, 1) := dk_46 (dk_at dksL_law_13 3 rfl rfl)
theorem dL_law_332 : decode cL_law 332 = .ok (.invokevirtual 50, 3) := dk_182 0 50 (dk_at dksL_law_13 4 rfl rfl)
theorem dL_law_335 : decode cL_law 335 = .ok (.goto 108, 3) := dk_167 0 108 (dk_at dksL_law_13 7 rfl rfl)
theorem dL_law_338 : decode cL_law 338 = .ok (.aload_n 1, 1) := dk_43 (dk_at dksL_law_13 10 rfl rfl)
theorem dL_law_339 : decode cL_law 339 = .ok (.aload_n 0, 1) := dk_42 (dk_at dksL_law_13 11 rfl rfl)
theorem dL_law_340 : decode cL_law 340 = .ok (.iload_n 3, 1) := dk_29 (dk_at dksL_law_13 12 rfl rfl)
theorem dL_law_341 : decode cL_law 341 = .ok (.iconst 1, 1) := dk_4 (dk_at dksL_law_13 13 rfl rfl)
theorem dL_law_342 : decode cL_law 342 = .ok (.iadd, 1) := dk_96 (dk_at dksL_law_13 14 rfl rfl)
theorem dL_law_343 : decode cL_law 343 = .ok (.iaload, 1) := dk_46 (dk_at dksL_law_13 15 rfl rfl)
theorem dL_law_344 : decode cL_law 344 = .ok (.aload_n 0, 1) := dk_42 (dk_at dksL_law_13 16 rfl rfl)
theorem dL_law_345 : decode cL_law 345 = .ok (.iload_n 3, 1) := dk_29 (dk_at dksL_law_13 17 rfl rfl)
theorem dL_law_346 : decode cL_law 346 = .ok (.iconst 2, 1) := dk_5 (dk_at dksL_law_13 18 rfl rfl)
theorem dL_law_347 : decode cL_law 347 = .ok (.iadd, 1) := dk_96 (dk_at dksL_law_13 19 rfl rfl)
theorem dL_law_348 : decode cL_law 348 = .ok (.iaload, 1) := dk_46 (dk_at dksL_law_13 20 rfl rfl)
theorem dL_law_349 : decode cL_law 349 = .ok (.invokevirtual 51, 3) := dk_182 0 51 (dk_at dksL_law_13 21 rfl rfl)
theorem dL_law_352 : decode cL_law 352 = .ok (.aload_n 2, 1) := dk_44 (dk_at dksL_law_14 0 rfl rfl)
theorem dL_law_353 : decode cL_law 353 = .ok (.aload_n 0, 1) := dk_42 (dk_at dksL_law_14 1 rfl rfl)
theorem dL_law_354 : decode cL_law 354 = .ok (.iload_n 3, 1) := dk_29 (dk_at dksL_law_14 2 rfl rfl)
theorem dL_law_355 : decode cL_law 355 = .ok (.iconst 1, 1) := dk_4 (dk_at dksL_law_14 3 rfl rfl)
theorem dL_law_356 : decode cL_law 356 = .ok (.iadd, 1) := dk_96 (dk_at dksL_law_14 4 rfl rfl)
theorem dL_law_357 : decode cL_law 357 = .ok (.iaload, 1) := dk_46 (dk_at dksL_law_14 5 rfl rfl)
theorem dL_law_358 : decode cL_law 358 = .ok (.aload_n 0, 1) := dk_42 (dk_at dksL_law_14 6 rfl rfl)
theorem dL_law_359 : decode cL_law 359 = .ok (.iload_n 3, 1) := dk_29 (dk_at dksL_law_14 7 rfl rfl)
theorem dL_law_360 : decode cL_law 360 = .ok (.iconst 2, 1) := dk_5 (dk_at dksL_law_14 8 rfl rfl)
theorem dL_law_361 : decode cL_law 361 = .ok (.iadd, 1) := dk_96 (dk_at dksL_law_14 9 rfl rfl)
theorem dL_law_362 : decode cL_law 362 = .ok (.iaload, 1) := dk_46 (dk_at dksL_law_14 10 rfl rfl)
theorem dL_law_363 : decode cL_law 363 = .ok (.invokevirtual 54, 3) := dk_182 0 54 (dk_at dksL_law_14 11 rfl rfl)
theorem dL_law_366 : decode cL_law 366 = .ok (.goto 77, 3) := dk_167 0 77 (dk_at dksL_law_14 14 rfl rfl)
theorem dL_law_369 : decode cL_law 369 = .ok (.aload_n 1, 1) := dk_43 (dk_at dksL_law_14 17 rfl rfl)
theorem dL_law_370 : decode cL_law 370 = .ok (.aload_n 0, 1) := dk_42 (dk_at dksL_law_14 18 rfl rfl)
theorem dL_law_371 : decode cL_law 371 = .ok (.iload_n 3, 1) := dk_29 (dk_at dksL_law_14 19 rfl rfl)
theorem dL_law_372 : decode cL_law 372 = .ok (.iconst 1, 1) := dk_4 (dk_at dksL_law_14 20 rfl rfl)
theorem dL_law_373 : decode cL_law 373 = .ok (.iadd, 1) := dk_96 (dk_at dksL_law_14 21 rfl rfl)
theorem dL_law_374 : decode cL_law 374 = .ok (.iaload, 1) := dk_46 (dk_at dksL_law_14 22 rfl rfl)
theorem dL_law_375 : decode cL_law 375 = .ok (.aload_n 0, 1) := dk_42 (dk_at dksL_law_14 23 rfl rfl)
theorem dL_law_376 : decode cL_law 376 = .ok (.iload_n 3, 1) := dk_29 (dk_at dksL_law_15 0 rfl rfl)
theorem dL_law_377 : decode cL_law 377 = .ok (.iconst 2, 1) := dk_5 (dk_at dksL_law_15 1 rfl rfl)
theorem dL_law_378 : decode cL_law 378 = .ok (.iadd, 1) := dk_96 (dk_at dksL_law_15 2 rfl rfl)
theorem dL_law_379 : decode cL_law 379 = .ok (.iaload, 1) := dk_46 (dk_at dksL_law_15 3 rfl rfl)
theorem dL_law_380 : decode cL_law 380 = .ok (.invokevirtual 55, 3) := dk_182 0 55 (dk_at dksL_law_15 4 rfl rfl)
theorem dL_law_383 : decode cL_law 383 = .ok (.aload_n 2, 1) := dk_44 (dk_at dksL_law_15 7 rfl rfl)
theorem dL_law_384 : decode cL_law 384 = .ok (.aload_n 0, 1) := dk_42 (dk_at dksL_law_15 8 rfl rfl)
theorem dL_law_385 : decode cL_law 385 = .ok (.iload_n 3, 1) := dk_29 (dk_at dksL_law_15 9 rfl rfl)
theorem dL_law_386 : decode cL_law 386 = .ok (.iconst 1, 1) := dk_4 (dk_at dksL_law_15 10 rfl rfl)
theorem dL_law_387 : decode cL_law 387 = .ok (.iadd, 1) := dk_96 (dk_at dksL_law_15 11 rfl rfl)
theorem dL_law_388 : decode cL_law 388 = .ok (.iaload, 1) := dk_46 (dk_at dksL_law_15 12 rfl rfl)
theorem dL_law_389 : decode cL_law 389 = .ok (.aload_n 0, 1) := dk_42 (dk_at dksL_law_15 13 rfl rfl)
theorem dL_law_390 : decode cL_law 390 = .ok (.iload_n 3, 1) := dk_29 (dk_at dksL_law_15 14 rfl rfl)
theorem dL_law_391 : decode cL_law 391 = .ok (.iconst 2, 1) := dk_5 (dk_at dksL_law_15 15 rfl rfl)
theorem dL_law_392 : decode cL_law 392 = .ok (.iadd, 1) := dk_96 (dk_at dksL_law_15 16 rfl rfl)
theorem dL_law_393 : decode cL_law 393 = .ok (.iaload, 1) := dk_46 (dk_at dksL_law_15 17 rfl rfl)
theorem dL_law_394 : decode cL_law 394 = .ok (.invokevirtual 58, 3) := dk_182 0 58 (dk_at dksL_law_15 18 rfl rfl)
theorem dL_law_397 : decode cL_law 397 = .ok (.goto 46, 3) := dk_167 0 46 (dk_at dksL_law_15 21 rfl rfl)
theorem dL_law_400 : decode cL_law 400 = .ok (.aload_n 1, 1) := dk_43 (dk_at dksL_law_16 0 rfl rfl)
theorem dL_law_401 : decode cL_law 401 = .ok (.aload_n 0, 1) := dk_42 (dk_at dksL_law_16 1 rfl rfl)
theorem dL_law_402 : decode cL_law 402 = .ok (.iload_n 3, 1) := dk_29 (dk_at dksL_law_16 2 rfl rfl)
theorem dL_law_403 : decode cL_law 403 = .ok (.iconst 1, 1) := dk_4 (dk_at dksL_law_16 3 rfl rfl)
theorem dL_law_404 : decode cL_law 404 = .ok (.iadd, 1) := dk_96 (dk_at dksL_law_16 4 rfl rfl)
theorem dL_law_405 : decode cL_law 405 = .ok (.iaload, 1) := dk_46 (dk_at dksL_law_16 5 rfl rfl)
theorem dL_law_406 : decode cL_law 406 = .ok (.aload_n 0, 1) := dk_42 (dk_at dksL_law_16 6 rfl rfl)
theorem dL_law_407 : decode cL_law 407 = .ok (.iload_n 3, 1) := dk_29 (dk_at dksL_law_16 7 rfl rfl)
theorem dL_law_408 : decode cL_law 408 = .ok (.iconst 2, 1) := dk_5 (dk_at dksL_law_16 8 rfl rfl)
theorem dL_law_409 : decode cL_law 409 = .ok (.iadd, 1) := dk_96 (dk_at dksL_law_16 9 rfl rfl)
theorem dL_law_410 : decode cL_law 410 = .ok (.iaload, 1) := dk_46 (dk_at dksL_law_16 10 rfl rfl)
theorem dL_law_411 : decode cL_law 411 = .ok (.aload_n 0, 1) := dk_42 (dk_at dksL_law_16 11 rfl rfl)
theorem dL_law_412 : decode cL_law 412 = .ok (.iload_n 3, 1) := dk_29 (dk_at dksL_law_16 12 rfl rfl)
theorem dL_law_413 : decode cL_law 413 = .ok (.iconst 3, 1) := dk_6 (dk_at dksL_law_16 13 rfl rfl)
theorem dL_law_414 : decode cL_law 414 = .ok (.iadd, 1) := dk_96 (dk_at dksL_law_16 14 rfl rfl)
theorem dL_law_415 : decode cL_law 415 = .ok (.iaload, 1) := dk_46 (dk_at dksL_law_16 15 rfl rfl)
theorem dL_law_416 : decode cL_law 416 = .ok (.invokevirtual 59, 3) := dk_182 0 59 (dk_at dksL_law_16 16 rfl rfl)
theorem dL_law_419 : decode cL_law 419 = .ok (.aload_n 2, 1) := dk_44 (dk_at dksL_law_16 19 rfl rfl)
theorem dL_law_420 : decode cL_law 420 = .ok (.aload_n 0, 1) := dk_42 (dk_at dksL_law_16 20 rfl rfl)
theorem dL_law_421 : decode cL_law 421 = .ok (.iload_n 3, 1) := dk_29 (dk_at dksL_law_16 21 rfl rfl)
theorem dL_law_422 : decode cL_law 422 = .ok (.iconst 1, 1) := dk_4 (dk_at dksL_law_16 22 rfl rfl)
theorem dL_law_423 : decode cL_law 423 = .ok (.iadd, 1) := dk_96 (dk_at dksL_law_16 23 rfl rfl)
theorem dL_law_424 : decode cL_law 424 = .ok (.iaload, 1) := dk_46 (dk_at dksL_law_17 0 rfl rfl)
theorem dL_law_425 : decode cL_law 425 = .ok (.aload_n 0, 1) := dk_42 (dk_at dksL_law_17 1 rfl rfl)
theorem dL_law_426 : decode cL_law 426 = .ok (.iload_n 3, 1) := dk_29 (dk_at dksL_law_17 2 rfl rfl)
theorem dL_law_427 : decode cL_law 427 = .ok (.iconst 2, 1) := dk_5 (dk_at dksL_law_17 3 rfl rfl)
theorem dL_law_428 : decode cL_law 428 = .ok (.iadd, 1) := dk_96 (dk_at dksL_law_17 4 rfl rfl)
theorem dL_law_429 : decode cL_law 429 = .ok (.iaload, 1) := dk_46 (dk_at dksL_law_17 5 rfl rfl)
theorem dL_law_430 : decode cL_law 430 = .ok (.aload_n 0, 1) := dk_42 (dk_at dksL_law_17 6 rfl rfl)
theorem dL_law_431 : decode cL_law 431 = .ok (.iload_n 3, 1) := dk_29 (dk_at dksL_law_17 7 rfl rfl)
theorem dL_law_432 : decode cL_law 432 = .ok (.iconst 3, 1) := dk_6 (dk_at dksL_law_17 8 rfl rfl)
theorem dL_law_433 : decode cL_law 433 = .ok (.iadd, 1) := dk_96 (dk_at dksL_law_17 9 rfl rfl)
theorem dL_law_434 : decode cL_law 434 = .ok (.iaload, 1) := dk_46 (dk_at dksL_law_17 10 rfl rfl)
theorem dL_law_435 : decode cL_law 435 = .ok (.invokevirtual 62, 3) := dk_182 0 62 (dk_at dksL_law_17 11 rfl rfl)
theorem dL_law_438 : decode cL_law 438 = .ok (.if_icmp .eq 5, 3) := dk_159 0 5 (dk_at dksL_law_17 14 rfl rfl)
theorem dL_law_441 : decode cL_law 441 = .ok (.iconst 0, 1) := dk_3 (dk_at dksL_law_17 17 rfl rfl)
theorem dL_law_442 : decode cL_law 442 = .ok (.ireturn, 1) := dk_172 (dk_at dksL_law_17 18 rfl rfl)
theorem dL_law_443 : decode cL_law 443 = .ok (.iinc 3 6, 3) := dk_132 3 6 (dk_at dksL_law_17 19 rfl rfl)
theorem dL_law_446 : decode cL_law 446 = .ok (.goto (-428), 3) := dk_167 254 84 (dk_at dksL_law_18 0 rfl rfl)
theorem dL_law_449 : decode cL_law 449 = .ok (.iconst 1, 1) := dk_4 (dk_at dksL_law_18 3 rfl rfl)
theorem dL_law_450 : decode cL_law 450 = .ok (.ireturn, 1) := dk_172 (dk_at dksL_law_18 4 rfl rfl)
end
section
/-! PURE: counts on a range, sorted ranges, permuted ranges (an int array is its contents Nat → Int32) -/
section SdPure
variable {f g h : Nat → Int32} {P : Int32 → Bool} {lo mid hi k a b : Nat} {x : Int32}
/-- how many of the n places from lo on hold P -/
def sd_cr (f : Nat → Int32) (P : Int32 → Bool) (lo : Nat) : Nat → Nat
  | 0 => 0
  | n + 1 => sd_cr f P lo n + (P (f (lo + n))).toNat
/-- how many of the places lo .. hi-1 hold P -/
def sd_ct (f : Nat → Int32) (P : Int32 → Bool) (lo hi : Nat) : Nat := sd_cr f P lo (hi - lo)
theorem sd_tn (b : Bool) : b.toNat ≤ 1 := by cases b <;> decide
theorem sd_ct0 (e : hi ≤ lo) : sd_ct f P lo hi = 0 := by
  unfold sd_ct
  rw [Nat.sub_eq_zero_of_le e]
  rfl
theorem sd_ctS (e : lo ≤ hi) : sd_ct f P lo (hi + 1) = sd_ct f P lo hi + (P (f hi)).toNat := by
  unfold sd_ct
  rw [show hi + 1 - lo = (hi - lo) + 1 by omega]
  show sd_cr f P lo (hi - lo) + (P (f (lo + (hi - lo)))).toNat = _
  rw [show lo + (hi - lo) = hi by omega]
theorem sd_ct1 : sd_ct f P k (k + 1) = (P (f k)).toNat := by
  rw [sd_ctS (Nat.le_refl k), sd_ct0 (Nat.le_refl k), Nat.zero_add]
theorem sd_ctA (h1 : lo ≤ mid) (h2 : mid ≤ hi) : sd_ct f P lo hi = sd_ct f P lo mid + sd_ct f P mid hi := by
  induction hi with
  | zero => rw [sd_ct0 (show 0 ≤ lo by omega), sd_ct0 (show mid ≤ lo by omega), sd_ct0 (show 0 ≤ mid by omega)]
  | succ n ih =>
    by_cases hk : mid ≤ n
    · rw [sd_ctS (show lo ≤ n by omega), sd_ctS hk, ih hk]
      omega
    · have e : mid = n + 1 := by omega
      subst e
      rw [sd_ct0 (f := f) (P := P) (Nat.le_refl (n + 1))]
      rfl
theorem sd_ctC (e : ∀ i, lo ≤ i → i < hi → f i = g i) : sd_ct f P lo hi = sd_ct g P lo hi := by
  induction hi with
  | zero => rw [sd_ct0 (Nat.zero_le _), sd_ct0 (Nat.zero_le _)]
  | succ n ih =>
    by_cases hk : lo ≤ n
    · rw [sd_ctS hk, sd_ctS hk, ih (fun i a b => e i a (by omega)), e n hk (by omega)]
    · rw [sd_ct0 (show n + 1 ≤ lo by omega), sd_ct0 (show n + 1 ≤ lo by omega)]
theorem sd_ctLe : sd_ct f P lo hi ≤ hi - lo := by
  induction hi with
  | zero => rw [sd_ct0 (Nat.zero_le _)]; omega
  | succ n ih =>
    by_cases hk : lo ≤ n
    · rw [sd_ctS hk]
      have := sd_tn (P (f n))
      omega
    · rw [sd_ct0 (show n + 1 ≤ lo by omega)]; omega
theorem sd_ctT (e : ∀ i, lo ≤ i → i < hi → P (f i) = true) : sd_ct f P lo hi = hi - lo := by
  induction hi with
  | zero => rw [sd_ct0 (Nat.zero_le _)]; omega
  | succ n ih =>
    by_cases hk : lo ≤ n
    · rw [sd_ctS hk, ih (fun i a b => e i a (by omega)), e n hk (by omega)]
      show n - lo + 1 = n + 1 - lo
      omega
    · rw [sd_ct0 (show n + 1 ≤ lo by omega)]; omega
theorem sd_ctF (e : ∀ i, lo ≤ i → i < hi → P (f i) = false) : sd_ct f P lo hi = 0 := by
  induction hi with
  | zero => rw [sd_ct0 (Nat.zero_le _)]
  | succ n ih =>
    by_cases hk : lo ≤ n
    · rw [sd_ctS hk, ih (fun i a b => e i a (by omega)), e n hk (by omega)]
      rfl
    · rw [sd_ct0 (show n + 1 ≤ lo by omega)]
theorem sd_ctT' (e : sd_ct f P lo hi = hi - lo) : ∀ i, lo ≤ i → i < hi → P (f i) = true := by
  intro i h1 h2
  cases hp : P (f i) with
  | true => rfl
  | false =>
    have e1 := sd_ctA (f := f) (P := P) h1 (show i ≤ hi by omega)
    have e2 := sd_ctA (f := f) (P := P) (show i ≤ i + 1 by omega) (show i + 1 ≤ hi by omega)
    have e3 : sd_ct f P i (i + 1) = 0 := by rw [sd_ct1, hp]; rfl
    have e4 := sd_ctLe (f := f) (P := P) (lo := lo) (hi := i)
    have e5 := sd_ctLe (f := f) (P := P) (lo := i + 1) (hi := hi)
    omega
theorem sd_ctO (e : k < lo ∨ hi ≤ k) : sd_ct (upd f k x) P lo hi = sd_ct f P lo hi :=
  sd_ctC (fun i a b => pk_un (by omega))
theorem sd_ctU (h1 : lo ≤ k) (h2 : k < hi) : sd_ct (upd f k x) P lo hi + (P (f k)).toNat = sd_ct f P lo hi + (P x).toNat := by
  have a1 := sd_ctA (f := upd f k x) (P := P) h1 (show k ≤ hi by omega)
  have a2 := sd_ctA (f := upd f k x) (P := P) (show k ≤ k + 1 by omega) (show k + 1 ≤ hi by omega)
  have b1 := sd_ctA (f := f) (P := P) h1 (show k ≤ hi by omega)
  have b2 := sd_ctA (f := f) (P := P) (show k ≤ k + 1 by omega) (show k + 1 ≤ hi by omega)
  have c1 : sd_ct (upd f k x) P lo k = sd_ct f P lo k := sd_ctO (Or.inr (Nat.le_refl k))
  have c2 : sd_ct (upd f k x) P (k + 1) hi = sd_ct f P (k + 1) hi := sd_ctO (Or.inl (Nat.lt_succ_self k))
  have c3 : sd_ct (upd f k x) P k (k + 1) = (P x).toNat := by rw [sd_ct1, pk_us]
  have c4 : sd_ct f P k (k + 1) = (P (f k)).toNat := sd_ct1
  omega
/-- sorted on lo .. hi-1 -/
def sd_Srt (f : Nat → Int32) (lo hi : Nat) : Prop := ∀ i j, lo ≤ i → i ≤ j → j < hi → (f i).toInt ≤ (f j).toInt
/-- g is f with the places lo .. hi-1 permuted -/
def sd_Prm (g f : Nat → Int32) (lo hi : Nat) : Prop := (∀ i, i < lo ∨ hi ≤ i → g i = f i) ∧ ∀ P, sd_ct g P lo hi = sd_ct f P lo hi
theorem sd_Prm.rf : sd_Prm f f lo hi := ⟨fun _ _ => rfl, fun _ => rfl⟩
theorem sd_Prm.tr (h1 : sd_Prm h g lo hi) (h2 : sd_Prm g f lo hi) : sd_Prm h f lo hi := ⟨fun i e => (h1.1 i e).trans (h2.1 i e), fun P => (h1.2 P).trans (h2.2 P)⟩
theorem sd_Prm.wd {lo' hi' : Nat} (e : sd_Prm g f lo hi) (h1 : lo' ≤ lo) (h2 : lo ≤ hi) (h3 : hi ≤ hi') : sd_Prm g f lo' hi' := by
  refine ⟨fun i o => e.1 i (by omega), fun P => ?_⟩
  have a1 := sd_ctA (f := g) (P := P) h1 (show lo ≤ hi' by omega)
  have a2 := sd_ctA (f := g) (P := P) h2 h3
  have b1 := sd_ctA (f := f) (P := P) h1 (show lo ≤ hi' by omega)
  have b2 := sd_ctA (f := f) (P := P) h2 h3
  have c1 : sd_ct g P lo' lo = sd_ct f P lo' lo := sd_ctC (fun i _ q => e.1 i (Or.inl q))
  have c2 : sd_ct g P hi hi' = sd_ct f P hi hi' := sd_ctC (fun i q _ => e.1 i (Or.inr q))
  have c3 := e.2 P
  omega
/-- two places exchanged -/
def sd_swp (f : Nat → Int32) (a b : Nat) : Nat → Int32 := upd (upd f a (f b)) b (f a)
theorem sd_swp_b : sd_swp f a b b = f a := pk_us
theorem sd_swp_a : sd_swp f a b a = f b := by
  unfold sd_swp
  by_cases e : a = b
  · subst e; exact pk_us
  · rw [pk_un e, pk_us]
theorem sd_swp_o (h1 : k ≠ a) (h2 : k ≠ b) : sd_swp f a b k = f k := by
  unfold sd_swp
  rw [pk_un h2, pk_un h1]
theorem sd_swp_c (f : Nat → Int32) (a b k : Nat) : (k = a ∧ sd_swp f a b k = f b) ∨ (k = b ∧ sd_swp f a b k = f a) ∨ (k ≠ a ∧ k ≠ b ∧ sd_swp f a b k = f k) := by
  by_cases h1 : k = a
  · subst h1; exact Or.inl ⟨rfl, sd_swp_a⟩
  · by_cases h2 : k = b
    · subst h2; exact Or.inr (Or.inl ⟨rfl, sd_swp_b⟩)
    · exact Or.inr (Or.inr ⟨h1, h2, sd_swp_o h1 h2⟩)
theorem sd_swp_s : sd_swp f a a = f := by
  funext k
  rcases sd_swp_c f a a k with ⟨h1, h2⟩ | ⟨h1, h2⟩ | ⟨-, -, h2⟩
  · rw [h2, h1]
  · rw [h2, h1]
  · exact h2
theorem sd_Prm.sw (h1 : lo ≤ a) (h2 : a < hi) (h3 : lo ≤ b) (h4 : b < hi) : sd_Prm (sd_swp f a b) f lo hi := by
  refine ⟨fun i o => sd_swp_o (by omega) (by omega), fun P => ?_⟩
  have e1 := sd_ctU (f := f) (P := P) (x := f b) h1 h2
  have e2 := sd_ctU (f := upd f a (f b)) (P := P) (x := f a) h3 h4
  have e3 : upd f a (f b) b = f b := by
    by_cases e : b = a
    · subst e; exact pk_us
    · exact pk_un e
  rw [e3] at e2
  show sd_ct (upd (upd f a (f b)) b (f a)) P lo hi = _
  omega
theorem sd_Prm.al (e : sd_Prm g f lo hi) (hp : ∀ i, lo ≤ i → i < hi → P (f i) = true) : ∀ i, lo ≤ i → i < hi → P (g i) = true :=
  sd_ctT' ((e.2 P).trans (sd_ctT hp))
theorem sd_Prm.all {p : Int32 → Prop} (e : sd_Prm g f lo hi) (hp : ∀ i, lo ≤ i → i < hi → p (f i)) : ∀ i, lo ≤ i → i < hi → p (g i) := fun i h1 h2 =>
  @of_decide_eq_true _ (Classical.propDecidable _) (e.al (P := fun y => @decide (p y) (Classical.propDecidable _)) (fun j a b => @decide_eq_true _ (Classical.propDecidable _) (hp j a b)) i h1 h2)
theorem sd_uq_aux (hf : sd_Srt f lo hi) (hg : sd_Srt g lo hi) (hc : ∀ P, sd_ct f P lo hi = sd_ct g P lo hi) (i : Nat) (h1 : lo ≤ i) (h2 : i < hi) : ¬ (f i).toInt < (g i).toInt := by
  intro hl
  have e0 := hc (fun y => decide (y.toInt ≤ (f i).toInt))
  have a1 := sd_ctA (f := f) (P := fun y => decide (y.toInt ≤ (f i).toInt)) (show lo ≤ i + 1 by omega) (show i + 1 ≤ hi by omega)
  have a2 : sd_ct f (fun y => decide (y.toInt ≤ (f i).toInt)) lo (i + 1) = i + 1 - lo := sd_ctT (fun j q1 q2 => decide_eq_true (hf j i q1 (by omega) h2))
  have b1 := sd_ctA (f := g) (P := fun y => decide (y.toInt ≤ (f i).toInt)) h1 (show i ≤ hi by omega)
  have b2 := sd_ctLe (f := g) (P := fun y => decide (y.toInt ≤ (f i).toInt)) (lo := lo) (hi := i)
  have b3 : sd_ct g (fun y => decide (y.toInt ≤ (f i).toInt)) i hi = 0 := sd_ctF (fun j q1 q2 => decide_eq_false (by have := hg i j h1 q1 q2; omega))
  omega
/-- two sorted ranges with the same counts are the same -/
theorem sd_uq (hf : sd_Srt f lo hi) (hg : sd_Srt g lo hi) (hc : ∀ P, sd_ct f P lo hi = sd_ct g P lo hi) (i : Nat) (h1 : lo ≤ i) (h2 : i < hi) : f i = g i := by
  have q1 := sd_uq_aux hf hg hc i h1 h2
  have q2 := sd_uq_aux hg hf (fun P => (hc P).symm) i h1 h2
  exact Int32.toInt_inj.mp (by omega)
theorem sd_Srt.nil (e : hi ≤ lo + 1) : sd_Srt f lo hi := fun i j h1 h2 h3 => by
  have e : i = j := by omega
  subst e
  exact Int.le_refl _
theorem sd_Srt.sub {lo' hi' : Nat} (e : sd_Srt f lo hi) (h1 : lo ≤ lo') (h2 : hi' ≤ hi) : sd_Srt f lo' hi' := fun i j q1 q2 q3 => e i j (by omega) q2 (by omega)
theorem sd_Srt.cg (e : sd_Srt f lo hi) (hc : ∀ i, lo ≤ i → i < hi → g i = f i) : sd_Srt g lo hi := fun i j h1 h2 h3 => by
  rw [hc i h1 (by omega), hc j (by omega) h3]
  exact e i j h1 h2 h3
/-- two sorted ranges side by side, the first's values not above the second's -/
theorem sd_Srt.app (h1 : sd_Srt f lo mid) (h2 : sd_Srt f mid hi) (hx : ∀ i j, lo ≤ i → i < mid → mid ≤ j → j < hi → (f i).toInt ≤ (f j).toInt) : sd_Srt f lo hi := fun i j q1 q2 q3 => by
  by_cases c1 : j < mid
  · exact h1 i j q1 q2 c1
  · by_cases c2 : i < mid
    · exact hx i j q1 c2 (by omega) q3
    · exact h2 i j (by omega) q2 q3
end SdPure
end
section
/-! OWN ROWS: the world in one bundle, ints as nI k (places) or as their toInt, calls of a static method over one int array -/
abbrev sdCl : List vw_C := [(RX0, TX0, 2), (RX1, TX1, 3)]
/-- an int array of length n with the contents f -/
abbrev sd_ar (h : Nat) (d : ClassId) (n : Nat) (f : Nat → Int32) : Nat × va_E := (h, .inl (d, n, .inl f))
/-- the world: tables, cells, apart, frame -/
def sd_G (D : va_G) (A : Nat → Prop) (H0 : Heap) (s : State) (tys : List (ClassId × FieldType)) (ws : va_W) (H : Heap) (locs : List Loc) : Prop := va_K D sdCl tys s ∧ va_P D sdCl ws H ∧ va_D A ws ∧ va_S A H0 H locs
/-- k - 1, that may be -1 -/
def sd_m (k : Nat) : Int32 := nI k - 1
theorem sd_nT {k : Nat} (h : k < 2 ^ 31) : (nI k).toInt = (k : Int) := nI_toInt h
theorem sd_mS (k : Nat) : sd_m (k + 1) = nI k := nI_pred k
theorem sd_mP {k : Nat} (h : 0 < k) : sd_m k = nI (k - 1) := by
  rw [← sd_mS (k - 1), show k - 1 + 1 = k by omega]
theorem sd_mT {k : Nat} (h : k < 2 ^ 31) : (sd_m k).toInt = (k : Int) - 1 := by
  cases k with
  | zero => decide +kernel
  | succ k =>
    rw [sd_mS, nI_toInt (by omega)]
    omega
theorem sd_i1 (k : Nat) : nI k + Int32.ofInt 1 = nI (k + 1) := nI_1 k
theorem sd_d1 {k : Nat} (h : 0 < k) : nI k + Int32.ofInt (-1) = nI (k - 1) := sb_m1 h
theorem sd_s1 (k : Nat) : nI k - nI 1 = sd_m k := rfl
theorem sd_dm (k : Nat) : nI k + Int32.ofInt (-1) = sd_m k := by
  show nI k + (-1) = nI k - 1
  rw [Int32.sub_eq_add_neg]
theorem sd_mm {k : Nat} (h : 0 < k) : sd_m k + Int32.ofInt (-1) = sd_m (k - 1) := by
  rw [sd_mP h, sd_dm]
section SdRows
variable {p : Program} {l : Launch} {e : Env} {R : Room} {s : State} {m : MethodId} {args : Array Value} {below : List Frame} {meth : Method} {c : Code} {H : Heap} {locs : List Loc} {cells slots : Nat} {Q : State → Prop}
variable {cc : ByteArray} {pc : Nat} {ls : Array Slot} {rest : List Value} {A : Nat → Prop} {H0 : Heap} {D : va_G} {tys : List (ClassId × FieldType)} {ws : va_W}
theorem sd_top {x y : Int32} (h : x = y) (k : W p l e R s m args below meth c H locs cells slots Q (F0 m pc ls (.int y :: rest))) : W p l e R s m args below meth c H locs cells slots Q (F0 m pc ls (.int x :: rest)) := by
  subst h
  exact k
theorem sd_lt (hexec : p.tables.exec = Jvm.exec) (hb : c.code = cc) {x y : Int32} {zx zy : Int} {off : Int} {tgt : Nat} (hdg : decode cc pc = .ok (.if_icmp .lt off, 3)) (ht : (pc : Int) + off = (tgt : Int)) (ex : x.toInt = zx) (ey : y.toInt = zy)
    (kt : zx < zy → W p l e R s m args below meth c H locs cells slots Q (F0 m tgt ls rest)) (kf : zy ≤ zx → W p l e R s m args below meth c H locs cells slots Q (F0 m (pc + 3) ls rest)) : W p l e R s m args below meth c H locs cells slots Q (F0 m pc ls (.int y :: .int x :: rest)) := by
  subst ex; subst ey
  exact lv_icmp_lt hexec hb hdg ht (fun h => kt (Int32.lt_iff_toInt_lt.mp h)) (fun h => kf (by rw [Int32.lt_iff_toInt_lt] at h; omega))
theorem sd_ge (hexec : p.tables.exec = Jvm.exec) (hb : c.code = cc) {x y : Int32} {zx zy : Int} {off : Int} {tgt : Nat} (hdg : decode cc pc = .ok (.if_icmp .ge off, 3)) (ht : (pc : Int) + off = (tgt : Int)) (ex : x.toInt = zx) (ey : y.toInt = zy)
    (kt : zy ≤ zx → W p l e R s m args below meth c H locs cells slots Q (F0 m tgt ls rest)) (kf : zx < zy → W p l e R s m args below meth c H locs cells slots Q (F0 m (pc + 3) ls rest)) : W p l e R s m args below meth c H locs cells slots Q (F0 m pc ls (.int y :: .int x :: rest)) := by
  subst ex; subst ey
  exact lv_icmp_ge hexec hb hdg ht (fun h => kt (Int32.le_iff_toInt_le.mp h)) (fun h => kf (by rw [Int32.le_iff_toInt_le] at h; omega))
theorem sd_gt (hexec : p.tables.exec = Jvm.exec) (hb : c.code = cc) {x y : Int32} {zx zy : Int} {off : Int} {tgt : Nat} (hdg : decode cc pc = .ok (.if_icmp .gt off, 3)) (ht : (pc : Int) + off = (tgt : Int)) (ex : x.toInt = zx) (ey : y.toInt = zy)
    (kt : zy < zx → W p l e R s m args below meth c H locs cells slots Q (F0 m tgt ls rest)) (kf : zx ≤ zy → W p l e R s m args below meth c H locs cells slots Q (F0 m (pc + 3) ls rest)) : W p l e R s m args below meth c H locs cells slots Q (F0 m pc ls (.int y :: .int x :: rest)) := by
  subst ex; subst ey
  exact lv_icmp_gt hexec hb hdg ht (fun h => kt (Int32.lt_iff_toInt_lt.mp h)) (fun h => kf (by rw [Int32.lt_iff_toInt_lt] at h; omega))
theorem sd_le (hexec : p.tables.exec = Jvm.exec) (hb : c.code = cc) {x y : Int32} {zx zy : Int} {off : Int} {tgt : Nat} (hdg : decode cc pc = .ok (.if_icmp .le off, 3)) (ht : (pc : Int) + off = (tgt : Int)) (ex : x.toInt = zx) (ey : y.toInt = zy)
    (kt : zx ≤ zy → W p l e R s m args below meth c H locs cells slots Q (F0 m tgt ls rest)) (kf : zy < zx → W p l e R s m args below meth c H locs cells slots Q (F0 m (pc + 3) ls rest)) : W p l e R s m args below meth c H locs cells slots Q (F0 m pc ls (.int y :: .int x :: rest)) := by
  subst ex; subst ey
  exact lv_icmp_le hexec hb hdg ht (fun h => kt (Int32.le_iff_toInt_le.mp h)) (fun h => kf (by rw [Int32.le_iff_toInt_le] at h; omega))
theorem sd_eq (hexec : p.tables.exec = Jvm.exec) (hb : c.code = cc) {x y : Int32} {zx zy : Int} {off : Int} {tgt : Nat} (hdg : decode cc pc = .ok (.if_icmp .eq off, 3)) (ht : (pc : Int) + off = (tgt : Int)) (ex : x.toInt = zx) (ey : y.toInt = zy)
    (kt : zx = zy → W p l e R s m args below meth c H locs cells slots Q (F0 m tgt ls rest)) (kf : zx ≠ zy → W p l e R s m args below meth c H locs cells slots Q (F0 m (pc + 3) ls rest)) : W p l e R s m args below meth c H locs cells slots Q (F0 m pc ls (.int y :: .int x :: rest)) := by
  subst ex; subst ey
  exact lv_icmp_eq hexec hb hdg ht (fun h => kt (by rw [h])) (fun h => kf (fun q => h (Int32.toInt_inj.mp q)))
theorem sd_ne (hexec : p.tables.exec = Jvm.exec) (hb : c.code = cc) {x y : Int32} {zx zy : Int} {off : Int} {tgt : Nat} (hdg : decode cc pc = .ok (.if_icmp .ne off, 3)) (ht : (pc : Int) + off = (tgt : Int)) (ex : x.toInt = zx) (ey : y.toInt = zy)
    (kt : zx ≠ zy → W p l e R s m args below meth c H locs cells slots Q (F0 m tgt ls rest)) (kf : zx = zy → W p l e R s m args below meth c H locs cells slots Q (F0 m (pc + 3) ls rest)) : W p l e R s m args below meth c H locs cells slots Q (F0 m pc ls (.int y :: .int x :: rest)) := by
  subst ex; subst ey
  exact lv_icmp_ne hexec hb hdg ht (fun h => kt (fun q => h (Int32.toInt_inj.mp q))) (fun h => kf (by rw [h]))
theorem sd_zeq (hexec : p.tables.exec = Jvm.exec) (hb : c.code = cc) {x : Int32} {zx : Int} {off : Int} {tgt : Nat} (hdg : decode cc pc = .ok (.ifCond .eq off, 3)) (ht : (pc : Int) + off = (tgt : Int)) (ex : x.toInt = zx)
    (kt : zx = 0 → W p l e R s m args below meth c H locs cells slots Q (F0 m tgt ls rest)) (kf : zx ≠ 0 → W p l e R s m args below meth c H locs cells slots Q (F0 m (pc + 3) ls rest)) : W p l e R s m args below meth c H locs cells slots Q (F0 m pc ls (.int x :: rest)) := by
  subst ex
  exact lv_if_eq hexec hb hdg ht (fun h => kt (by rw [h]; exact Int32.toInt_zero)) (fun h => kf (fun q => h (Int32.toInt_inj.mp (by rw [q, Int32.toInt_zero]))))
theorem sd_zne (hexec : p.tables.exec = Jvm.exec) (hb : c.code = cc) {x : Int32} {zx : Int} {off : Int} {tgt : Nat} (hdg : decode cc pc = .ok (.ifCond .ne off, 3)) (ht : (pc : Int) + off = (tgt : Int)) (ex : x.toInt = zx)
    (kt : zx ≠ 0 → W p l e R s m args below meth c H locs cells slots Q (F0 m tgt ls rest)) (kf : zx = 0 → W p l e R s m args below meth c H locs cells slots Q (F0 m (pc + 3) ls rest)) : W p l e R s m args below meth c H locs cells slots Q (F0 m pc ls (.int x :: rest)) := by
  subst ex
  exact lv_if_ne hexec hb hdg ht (fun h => kt (fun q => h (Int32.toInt_inj.mp (by rw [q, Int32.toInt_zero])))) (fun h => kf (by rw [h]; exact Int32.toInt_zero))
theorem sd_zgt (hexec : p.tables.exec = Jvm.exec) (hb : c.code = cc) {x : Int32} {zx : Int} {off : Int} {tgt : Nat} (hdg : decode cc pc = .ok (.ifCond .gt off, 3)) (ht : (pc : Int) + off = (tgt : Int)) (ex : x.toInt = zx)
    (kt : 0 < zx → W p l e R s m args below meth c H locs cells slots Q (F0 m tgt ls rest)) (kf : zx ≤ 0 → W p l e R s m args below meth c H locs cells slots Q (F0 m (pc + 3) ls rest)) : W p l e R s m args below meth c H locs cells slots Q (F0 m pc ls (.int x :: rest)) := by
  subst ex
  exact lv_if_gt hexec hb hdg ht (fun h => kt (by rw [Int32.lt_iff_toInt_lt, Int32.toInt_zero] at h; exact h)) (fun h => kf (by rw [Int32.lt_iff_toInt_lt, Int32.toInt_zero] at h; omega))
theorem sd_zlt (hexec : p.tables.exec = Jvm.exec) (hb : c.code = cc) {x : Int32} {zx : Int} {off : Int} {tgt : Nat} (hdg : decode cc pc = .ok (.ifCond .lt off, 3)) (ht : (pc : Int) + off = (tgt : Int)) (ex : x.toInt = zx)
    (kt : zx < 0 → W p l e R s m args below meth c H locs cells slots Q (F0 m tgt ls rest)) (kf : 0 ≤ zx → W p l e R s m args below meth c H locs cells slots Q (F0 m (pc + 3) ls rest)) : W p l e R s m args below meth c H locs cells slots Q (F0 m pc ls (.int x :: rest)) := by
  subst ex
  exact lv_if_lt hexec hb hdg ht (fun h => kt (by rw [Int32.lt_iff_toInt_lt, Int32.toInt_zero] at h; exact h)) (fun h => kf (by rw [Int32.lt_iff_toInt_lt, Int32.toInt_zero] at h; omega))
theorem sd_zle (hexec : p.tables.exec = Jvm.exec) (hb : c.code = cc) {x : Int32} {zx : Int} {off : Int} {tgt : Nat} (hdg : decode cc pc = .ok (.ifCond .le off, 3)) (ht : (pc : Int) + off = (tgt : Int)) (ex : x.toInt = zx)
    (kt : zx ≤ 0 → W p l e R s m args below meth c H locs cells slots Q (F0 m tgt ls rest)) (kf : 0 < zx → W p l e R s m args below meth c H locs cells slots Q (F0 m (pc + 3) ls rest)) : W p l e R s m args below meth c H locs cells slots Q (F0 m pc ls (.int x :: rest)) := by
  subst ex
  exact lv_if_le hexec hb hdg ht (fun h => kt (by rw [Int32.le_iff_toInt_le, Int32.toInt_zero] at h; exact h)) (fun h => kf (by rw [Int32.le_iff_toInt_le, Int32.toInt_zero] at h; omega))
theorem sd_zge (hexec : p.tables.exec = Jvm.exec) (hb : c.code = cc) {x : Int32} {zx : Int} {off : Int} {tgt : Nat} (hdg : decode cc pc = .ok (.ifCond .ge off, 3)) (ht : (pc : Int) + off = (tgt : Int)) (ex : x.toInt = zx)
    (kt : 0 ≤ zx → W p l e R s m args below meth c H locs cells slots Q (F0 m tgt ls rest)) (kf : zx < 0 → W p l e R s m args below meth c H locs cells slots Q (F0 m (pc + 3) ls rest)) : W p l e R s m args below meth c H locs cells slots Q (F0 m pc ls (.int x :: rest)) := by
  subst ex
  exact lv_if_ge hexec hb hdg ht (fun h => kt (by rw [Int32.le_iff_toInt_le, Int32.toInt_zero] at h; exact h)) (fun h => kf (by rw [Int32.le_iff_toInt_le, Int32.toInt_zero] at h; omega))
theorem sd_iadd (hexec : p.tables.exec = Jvm.exec) (hb : c.code = cc) {i j : Nat} (hdg : decode cc pc = .ok (.iadd, 1)) (k : W p l e R s m args below meth c H locs cells slots Q (F0 m (pc + 1) ls (.int (nI (i + j)) :: rest))) : W p l e R s m args below meth c H locs cells slots Q (F0 m pc ls (.int (nI j) :: .int (nI i) :: rest)) :=
  lv_iadd hexec hb hdg (by rw [nI_add]; exact k)
theorem sd_isub (hexec : p.tables.exec = Jvm.exec) (hb : c.code = cc) {i j : Nat} (h : j ≤ i) (hdg : decode cc pc = .ok (.isub, 1)) (k : W p l e R s m args below meth c H locs cells slots Q (F0 m (pc + 1) ls (.int (nI (i - j)) :: rest))) : W p l e R s m args below meth c H locs cells slots Q (F0 m pc ls (.int (nI j) :: .int (nI i) :: rest)) :=
  lv_isub hexec hb hdg (by rw [pk_sub h]; exact k)
theorem sd_isub1 (hexec : p.tables.exec = Jvm.exec) (hb : c.code = cc) {i : Nat} (hdg : decode cc pc = .ok (.isub, 1)) (k : W p l e R s m args below meth c H locs cells slots Q (F0 m (pc + 1) ls (.int (sd_m i) :: rest))) : W p l e R s m args below meth c H locs cells slots Q (F0 m pc ls (.int (nI 1) :: .int (nI i) :: rest)) :=
  lv_isub hexec hb hdg (by rw [sd_s1]; exact k)
theorem sd_imul (hexec : p.tables.exec = Jvm.exec) (hb : c.code = cc) {i j : Nat} (hdg : decode cc pc = .ok (.imul, 1)) (k : W p l e R s m args below meth c H locs cells slots Q (F0 m (pc + 1) ls (.int (nI (i * j)) :: rest))) : W p l e R s m args below meth c H locs cells slots Q (F0 m pc ls (.int (nI j) :: .int (nI i) :: rest)) :=
  lv_imul hexec hb hdg (by rw [pk_mul]; exact k)
theorem sd_idiv (hexec : p.tables.exec = Jvm.exec) (hb : c.code = cc) {i j : Nat} (hi : i < 2 ^ 31) (h0 : 0 < j) (hj : j < 2 ^ 31) (hdg : decode cc pc = .ok (.idiv, 1)) (k : W p l e R s m args below meth c H locs cells slots Q (F0 m (pc + 1) ls (.int (nI (i / j)) :: rest))) : W p l e R s m args below meth c H locs cells slots Q (F0 m pc ls (.int (nI j) :: .int (nI i) :: rest)) :=
  lv_idiv hexec hb hdg (nI_ne0 h0 hj) (by rw [pk_div hi h0 hj]; exact k)
theorem sd_irem (hexec : p.tables.exec = Jvm.exec) (hb : c.code = cc) {i j : Nat} (hi : i < 2 ^ 31) (h0 : 0 < j) (hj : j < 2 ^ 31) (hdg : decode cc pc = .ok (.irem, 1)) (k : W p l e R s m args below meth c H locs cells slots Q (F0 m (pc + 1) ls (.int (nI (i % j)) :: rest))) : W p l e R s m args below meth c H locs cells slots Q (F0 m pc ls (.int (nI j) :: .int (nI i) :: rest)) :=
  lv_irem hexec hb hdg (nI_ne0 h0 hj) (by rw [pk_rem hi h0 hj]; exact k)
/-- a half, by the unsigned shift -/
theorem sd_half (hexec : p.tables.exec = Jvm.exec) (hb : c.code = cc) {i : Nat} (hi : i < 2 ^ 31) (hdg : decode cc pc = .ok (.iushr, 1)) (k : W p l e R s m args below meth c H locs cells slots Q (F0 m (pc + 1) ls (.int (nI (i / 2)) :: rest))) : W p l e R s m args below meth c H locs cells slots Q (F0 m pc ls (.int (nI 1) :: .int (nI i) :: rest)) :=
  lv_iushr hexec hb hdg (pk_ushrN (by omega) (nI 1) 1 (by decide +kernel)) k
/-- x & 2147483647, as a number -/
def sd_u (x : Int32) : Nat := x.toBitVec.toNat % 2 ^ 31
theorem sd_uLt (x : Int32) : sd_u x < 2 ^ 31 := Nat.mod_lt _ (by decide)
theorem sd_iand (hexec : p.tables.exec = Jvm.exec) (hb : c.code = cc) {x : Int32} (hdg : decode cc pc = .ok (.iand, 1)) (k : W p l e R s m args below meth c H locs cells slots Q (F0 m (pc + 1) ls (.int (nI (sd_u x)) :: rest))) : W p l e R s m args below meth c H locs cells slots Q (F0 m pc ls (.int 2147483647 :: .int x :: rest)) :=
  lv_iand hexec hb hdg (by rw [pk_and x 31 (by decide +kernel)]; exact k)
theorem sd_iald (hexec : p.tables.exec = Jvm.exec) (hb : c.code = cc) (hG : sd_G D A H0 s tys ws H locs) (q0 t0 : Nat) {h n : Nat} {d : ClassId} {f : Nat → Int32} (ha : ws[q0]? = some (sd_ar h d n f)) (ht : tys[t0]? = some (d, .int)) {i : Nat} (hi : i < n) (hn : n < 2 ^ 31) (hdg : decode cc pc = .ok (.iaload, 1))
    (kk : W p l e R s m args below meth c H locs cells slots Q (F0 m (pc + 1) ls (.int (f i) :: rest))) : W p l e R s m args below meth c H locs cells slots Q (F0 m pc ls (.int (nI i) :: .ref h :: rest)) := by
  refine va_iald hexec hb hG.1 hG.2.1 q0 t0 ha ht (vp_in_nI hi hn) hdg ?_
  rw [nI_clamp (Nat.lt_trans hi hn)]
  exact kk
theorem sd_iast (hexec : p.tables.exec = Jvm.exec) (hb : c.code = cc) (hG : sd_G D A H0 s tys ws H locs) (q0 t0 : Nat) {h n : Nat} {d : ClassId} {f : Nat → Int32} (ha : ws[q0]? = some (sd_ar h d n f)) (ht : tys[t0]? = some (d, .int)) {i : Nat} {x : Int32} (hi : i < n) (hn : n < 2 ^ 31) (hdg : decode cc pc = .ok (.iastore, 1))
    (kk : ∀ (H1 : Heap) (locs1 : List Loc), sd_G D A H0 s tys (ws.set q0 (sd_ar h d n (upd f i x))) H1 locs1 → W p l e R s m args below meth c H1 locs1 cells slots Q (F0 m (pc + 1) ls rest)) : W p l e R s m args below meth c H locs cells slots Q (F0 m pc ls (.int x :: .int (nI i) :: .ref h :: rest)) := by
  refine va_iast hexec hb hG.1 hG.2.1 hG.2.2.1 hG.2.2.2 q0 t0 ha ht (vp_in_nI hi hn) hdg ?_
  rw [nI_clamp (Nat.lt_trans hi hn)]
  exact fun H1 locs1 a1 a2 a3 => kk H1 locs1 ⟨hG.1, a1, a2, a3⟩
theorem sd_alen (hexec : p.tables.exec = Jvm.exec) (hb : c.code = cc) (hG : sd_G D A H0 s tys ws H locs) (q0 t0 : Nat) {h n : Nat} {d : ClassId} {f : Nat → Int32} (ha : ws[q0]? = some (sd_ar h d n f)) (ht : tys[t0]? = some (d, .int)) (hdg : decode cc pc = .ok (.arraylength, 1))
    (kk : W p l e R s m args below meth c H locs cells slots Q (F0 m (pc + 1) ls (.int (nI n) :: rest))) : W p l e R s m args below meth c H locs cells slots Q (F0 m pc ls (.ref h :: rest)) :=
  va_alen (v := nI n) hexec hb hG.1 hG.2.1 q0 t0 ha ht rfl hdg kk
/-- behind a call: one cell of the world is new, the rest stays -/
theorem sd_setP {cl : List vw_C} {H1 : Heap} {q0 h : Nat} {e0 e1 : va_E} (hP : va_P D cl ws H) (hD : va_D A ws) (ha : ws[q0]? = some (h, e0)) (hk : ∀ q : Nat, q < H.size → ¬ va_A [(h, e0)] H.size q → H1[q]? = H[q]?) (hn : va_at D cl (h, e1) H1) : va_P D cl (ws.set q0 (h, e1)) H1 := by
  have hl := (List.getElem?_eq_some_iff.mp ha).1
  intro k q hq
  by_cases hkp : k = q0
  · subst hkp
    rw [List.getElem?_set_self hl] at hq
    cases hq
    exact hn
  · rw [List.getElem?_set_ne (Ne.symm hkp)] at hq
    refine (hP k q hq).kept (hk q.1 (hP k q hq).lt ?_)
    intro hz
    rcases hz with ⟨j, e9, hj⟩ | hj
    · have hj0 : j < 1 := (List.getElem?_eq_some_iff.mp hj).1
      rw [show j = 0 by omega] at hj
      cases hj
      exact hkp (hD.1 k q0 q (q.1, e0) hq ha rfl)
    · exact absurd (hP k q hq).lt (Nat.not_lt.mpr hj)
theorem sd_one {cl : List vw_C} {q0 : Nat} {x : Nat × va_E} (hP : va_P D cl ws H) (ha : ws[q0]? = some x) : va_P D cl [x] H := by
  intro k q hk
  have hk0 : k < 1 := (List.getElem?_eq_some_iff.mp hk).1
  rw [show k = 0 by omega] at hk
  cases hk
  exact hP q0 _ ha
theorem sd_oneD {B : Nat → Prop} {x : Nat × va_E} (hx : B x.1) : va_D B [x] := by
  refine ⟨fun i j y z hi hj _ => ?_, fun k q hk => ?_⟩
  · have h1 : i < 1 := (List.getElem?_eq_some_iff.mp hi).1
    have h2 : j < 1 := (List.getElem?_eq_some_iff.mp hj).1
    omega
  · have hk0 : k < 1 := (List.getElem?_eq_some_iff.mp hk).1
    rw [show k = 0 by omega] at hk
    cases hk
    exact hx
theorem sd_oneK {cl : List vw_C} {t0 : Nat} {x : ClassId × FieldType} (hK : va_K D cl tys s) (ht : tys[t0]? = some x) : va_K D cl [x] s := by
  refine ⟨hK.1, fun k q hk => ?_⟩
  have hk0 : k < 1 := (List.getElem?_eq_some_iff.mp hk).1
  rw [show k = 0 by omega] at hk
  cases hk
  exact hK.2 t0 _ ht
theorem sd_oneA {q0 : Nat} {x : Nat × va_E} (hD : va_D A ws) (hS : va_S A H0 H locs) (hA : ∀ q, H0.size ≤ q → A q) (ha : ws[q0]? = some x) : ∀ q, va_A [x] H.size q → A q := by
  intro q hq
  rcases hq with ⟨k, e9, hk⟩ | hq
  · have hk0 : k < 1 := (List.getElem?_eq_some_iff.mp hk).1
    rw [show k = 0 by omega] at hk
    cases hk
    exact hD.2 q0 _ ha
  · exact hA q (Nat.le_trans hS.1 hq)
end SdRows
/-- a method's start over one int array -/
def sd_Pa (D : va_G) (h : Nat) (d : ClassId) (n : Nat) (f : Nat → Int32) (sz : Nat) (U : State) : Prop := U.heap.size = sz ∧ va_P D sdCl [sd_ar h d n f] U.heap ∧ va_K D sdCl [(d, .int)] U ∧ va_D (fun _ => True) [sd_ar h d n f]
/-- a method's end over one int array -/
def sd_Ba (D : va_G) (A : Nat → Prop) (h : Nat) (d : ClassId) (n : Nat) (f : Nat → Int32) (t : State) : Prop := va_P D sdCl [sd_ar h d n f] t.heap ∧ va_K D sdCl [(d, .int)] t ∧ va_D A [sd_ar h d n f]
/-- the CONTRACT of a static void method y over the int array h: with the arguments as, from the contents f, it returns; the contents are then some f' with post f'; no new cells; fr frames and lo words of locals of room -/
def sd_Mv (l : Launch) (y : MethodName) (b : ByteArray) (L fr lo : Nat) (D : va_G) (h : Nat) (d : ClassId) (n : Nat) (f : Nat → Int32) (as : List Value) (post : (Nat → Int32) → Prop) : Prop :=
  ∀ sz : Nat, Met l y (ws_ y b L none) { frames := fr, cells := 0, slots := 0, locals := lo } (va_Pc as (sd_Pa D h d n f sz)) (va_Qv post (sd_Ba D (va_A [sd_ar h d n f] sz) h d n) (va_A [sd_ar h d n f] sz)) 0 0 (va_A [sd_ar h d n f] sz)
/-- the same, with an int for answer -/
def sd_Mi (l : Launch) (y : MethodName) (b : ByteArray) (L fr lo : Nat) (D : va_G) (h : Nat) (d : ClassId) (n : Nat) (f : Nat → Int32) (as : List Value) (post : Int32 → (Nat → Int32) → Prop) : Prop :=
  ∀ sz : Nat, Met l y (ws_ y b L (some .int)) { frames := fr, cells := 0, slots := 0, locals := lo } (va_Pc as (sd_Pa D h d n f sz)) (va_Qi post (sd_Ba D (va_A [sd_ar h d n f] sz) h d n) (va_A [sd_ar h d n f] sz)) 0 0 (va_A [sd_ar h d n f] sz)
/-- the contract of a static method of ints alone, with an int for answer -/
def sd_M0 (l : Launch) (y : MethodName) (b : ByteArray) (L fr lo : Nat) (as : List Value) (post : Int32 → Prop) : Prop :=
  ∀ sz : Nat, Met l y (ws_ y b L (some .int)) { frames := fr, cells := 0, slots := 0, locals := lo } (va_Pc as (fun U => U.heap.size = sz)) (va_Qi (fun r (_ : Unit) => post r) (fun _ _ => True) (va_A [] sz)) 0 0 (va_A [] sz)
section SdCalls
variable {p : Program} {l : Launch} {e : Env} {R : Room} {s : State} {m : MethodId} {args : Array Value} {below : List Frame} {meth : Method} {c : Code} {H : Heap} {locs : List Loc} {cells slots : Nat} {Q : State → Prop}
variable {cc : ByteArray} {pc nL : Nat} {ls : Array Slot} {rest st : List Value} {A : Nat → Prop} {H0 : Heap} {D : va_G} {tys : List (ClassId × FieldType)} {ws : va_W}
variable {own : String} {index nn : Nat} {y : MethodName} {b : ByteArray} {L fr lo h n : Nat} {d : ClassId} {f : Nat → Int32} {as : List Value}
theorem sd_callv {post : (Nat → Int32) → Prop} (S : CallFix p m c cc nL s args lw_all own) (hM : sd_Mv l y b L fr lo D h d n f as post) (hT : GoodIn lw_all (va_wsS own index y (ws_ y b L none)))
    (hd : y.cls ≠ "java/lang/invoke/MethodHandle" ∧ y.cls ≠ "java/lang/invoke/VarHandle" ∧ (parseMethodDescriptor y.desc).map (fun d => d.parameters.length) = some nn) (hn : as.length = nn) (hR : fr + 1 ≤ R.frames ∧ 8 + (L + 11) + lo ≤ R.locals) (hf : cells ≤ R.cells ∧ slots ≤ R.slots)
    (hG : sd_G D A H0 s tys ws H locs) (hA : ∀ q, H0.size ≤ q → A q) (q0 t0 : Nat) (ha : ws[q0]? = some (sd_ar h d n f)) (ht : tys[t0]? = some (d, .int)) (hls : ls.size = nL) (hst : st = as.reverse ++ rest) (hW : (rest.map fun v => v.category).sum ≤ 8) (hdg : decode cc pc = .ok (.invokestatic index, 3))
    (kk : ∀ (f' : Nat → Int32) (H1 : Heap) (locs1 : List Loc), post f' → sd_G D A H0 s tys (ws.set q0 (sd_ar h d n f')) H1 locs1 → W p l e R s m args below meth c H1 locs1 cells slots Q (F0 m (pc + 3) ls rest)) : W p l e R s m args below meth c H locs cells slots Q (F0 m pc ls st) := by
  obtain ⟨hK, hP, hD, hS⟩ := hG
  have hPc := sd_one hP ha
  have hDc : va_D (fun _ => True) [sd_ar h d n f] := sd_oneD trivial
  have hKc := sd_oneK hK ht
  have hFc := sd_oneA hD hS hA ha
  refine va_callv (va_runS (As := as) (rest := rest) S (hM H.size) (va_cwS nn S.2.2.2.2 hT rfl rfl rfl hd hR) ⟨fun a U g mk q => by obtain ⟨q0, q1, qP, qK, qD⟩ := q; exact ⟨q0, q1, qP, va_K.moved (u := U) (U := U.calling g mk a) (Vm.Alike.refl U.vm) qK, qD⟩, fun U hU hW => ⟨rfl, by rw [hU], by rw [hU]; exact hPc, va_K.moved hW.alike hKc, hDc⟩⟩ rfl hn hls hst (lv_room hW) hdg ⟨hf.1, hf.2⟩) hS (fun q _ h => hFc q h) hFc (fun u t H1 locs1 ht hvm hw hB hz1 hk1 hS1 => ?_)
  obtain ⟨hP1, hK1, hD1⟩ := hB
  rw [ht] at hP1
  exact kk u H1 locs1 hw ⟨hK, sd_setP hP hD ha hk1 (hP1 0 _ rfl), hD.set ha, hS1⟩
theorem sd_calli {post : Int32 → (Nat → Int32) → Prop} (S : CallFix p m c cc nL s args lw_all own) (hM : sd_Mi l y b L fr lo D h d n f as post) (hT : GoodIn lw_all (va_wsS own index y (ws_ y b L (some .int))))
    (hd : y.cls ≠ "java/lang/invoke/MethodHandle" ∧ y.cls ≠ "java/lang/invoke/VarHandle" ∧ (parseMethodDescriptor y.desc).map (fun d => d.parameters.length) = some nn) (hn : as.length = nn) (hR : fr + 1 ≤ R.frames ∧ 8 + (L + 11) + lo ≤ R.locals) (hf : cells ≤ R.cells ∧ slots ≤ R.slots)
    (hG : sd_G D A H0 s tys ws H locs) (hA : ∀ q, H0.size ≤ q → A q) (q0 t0 : Nat) (ha : ws[q0]? = some (sd_ar h d n f)) (ht : tys[t0]? = some (d, .int)) (hls : ls.size = nL) (hst : st = as.reverse ++ rest) (hW : (rest.map fun v => v.category).sum ≤ 8) (hdg : decode cc pc = .ok (.invokestatic index, 3))
    (kk : ∀ (r : Int32) (f' : Nat → Int32) (H1 : Heap) (locs1 : List Loc), post r f' → sd_G D A H0 s tys (ws.set q0 (sd_ar h d n f')) H1 locs1 → W p l e R s m args below meth c H1 locs1 cells slots Q (F0 m (pc + 3) ls (.int r :: rest))) : W p l e R s m args below meth c H locs cells slots Q (F0 m pc ls st) := by
  obtain ⟨hK, hP, hD, hS⟩ := hG
  have hPc := sd_one hP ha
  have hDc : va_D (fun _ => True) [sd_ar h d n f] := sd_oneD trivial
  have hKc := sd_oneK hK ht
  have hFc := sd_oneA hD hS hA ha
  refine va_calli (va_runS (As := as) (rest := rest) S (hM H.size) (va_cwS nn S.2.2.2.2 hT rfl rfl rfl hd hR) ⟨fun a U g mk q => by obtain ⟨q0, q1, qP, qK, qD⟩ := q; exact ⟨q0, q1, qP, va_K.moved (u := U) (U := U.calling g mk a) (Vm.Alike.refl U.vm) qK, qD⟩, fun U hU hW => ⟨rfl, by rw [hU], by rw [hU]; exact hPc, va_K.moved hW.alike hKc, hDc⟩⟩ rfl hn hls hst (lv_room hW) hdg ⟨hf.1, hf.2⟩) hS (fun q _ h => hFc q h) hFc (fun r u t H1 locs1 ht hvm hw hB hz1 hk1 hS1 => ?_)
  obtain ⟨hP1, hK1, hD1⟩ := hB
  rw [ht] at hP1
  exact kk r u H1 locs1 hw ⟨hK, sd_setP hP hD ha hk1 (hP1 0 _ rfl), hD.set ha, hS1⟩
theorem sd_call0 {post : Int32 → Prop} (S : CallFix p m c cc nL s args lw_all own) (hM : sd_M0 l y b L fr lo as post) (hT : GoodIn lw_all (va_wsS own index y (ws_ y b L (some .int))))
    (hd : y.cls ≠ "java/lang/invoke/MethodHandle" ∧ y.cls ≠ "java/lang/invoke/VarHandle" ∧ (parseMethodDescriptor y.desc).map (fun d => d.parameters.length) = some nn) (hn : as.length = nn) (hR : fr + 1 ≤ R.frames ∧ 8 + (L + 11) + lo ≤ R.locals) (hf : cells ≤ R.cells ∧ slots ≤ R.slots)
    (hG : sd_G D A H0 s tys ws H locs) (hA : ∀ q, H0.size ≤ q → A q) (hls : ls.size = nL) (hst : st = as.reverse ++ rest) (hW : (rest.map fun v => v.category).sum ≤ 8) (hdg : decode cc pc = .ok (.invokestatic index, 3))
    (kk : ∀ (r : Int32) (H1 : Heap) (locs1 : List Loc), post r → sd_G D A H0 s tys ws H1 locs1 → W p l e R s m args below meth c H1 locs1 cells slots Q (F0 m (pc + 3) ls (.int r :: rest))) : W p l e R s m args below meth c H locs cells slots Q (F0 m pc ls st) := by
  obtain ⟨hK, hP, hD, hS⟩ := hG
  have hN : ∀ q : Nat, va_A [] H.size q → H.size ≤ q := fun q hq => by
    rcases hq with ⟨k, e9, hk⟩ | hq
    · simp at hk
    · exact hq
  have hFc : ∀ q : Nat, va_A [] H.size q → A q := fun q hq => hA q (Nat.le_trans hS.1 (hN q hq))
  refine va_calli (va_runS (As := as) (rest := rest) S (hM H.size) (va_cwS nn S.2.2.2.2 hT rfl rfl rfl hd hR) ⟨fun a U g mk q => q, fun U hU hW => ⟨rfl, by show U.heap.size = H.size; rw [hU]⟩⟩ rfl hn hls hst (lv_room hW) hdg ⟨hf.1, hf.2⟩) hS (fun q _ h => hFc q h) hFc (fun r u t H1 locs1 ht hvm hw hB hz1 hk1 hS1 => ?_)
  exact kk r H1 locs1 hw ⟨hK, fun k q hk => (hP k q hk).kept (hk1 q.1 (hP k q hk).lt (fun z => absurd (hP k q hk).lt (Nat.not_lt.mpr (hN _ z)))), hD, hS1⟩
end SdCalls
section SdEntry
variable {l : Launch} {y : MethodName} {b : ByteArray} {L fr lo h n : Nat} {D : va_G} {d : ClassId} {f : Nat → Int32} {as : List Value}
/-- what a body of a static method has at its start -/
abbrev sd_S (p : Program) (m : MethodId) (c : Code) (b : ByteArray) (L : Nat) (s : State) (as : List Value) (y : MethodName) : Prop := CallFix p m c b L s as.toArray lw_all y.cls
/-- a void method over one array, by its body: Q is any end; 'ret' leaves -/
theorem sd_Mv.of {post : (Nat → Int32) → Prop} (hy : plainName y.cls = true) (hL : (lg_sl as).length ≤ L)
    (body : ∀ (p : Program) (e : Env) (s : State) (m : MethodId) (below : List Frame) (meth : Method) (c : Code) (A : Nat → Prop) (ls : Array Slot) (Q : State → Prop), sd_S p m c b L s as y → (∀ q : Nat, s.heap.size ≤ q → A q) → sd_G D A s.heap s [(d, .int)] [sd_ar h d n f] s.heap [] → lv_has ls L (lv_args 0 as) →
      (∀ (pc : Nat) (H : Heap) (locs : List Loc) (ls : Array Slot) (f' : Nat → Int32), decode b pc = .ok (.return_, 1) → sd_G D A s.heap s [(d, .int)] [sd_ar h d n f'] H locs → post f' → W p l e { frames := fr, cells := 0, slots := 0, locals := lo } s m as.toArray below meth c H locs 0 0 Q (F0 m pc ls [])) →
      W p l e { frames := fr, cells := 0, slots := 0, locals := lo } s m as.toArray below meth c s.heap [] 0 0 Q (F0 m 0 ls [])) : sd_Mv l y b L fr lo D h d n f as post := by
  intro sz
  refine Met.ofW (cc := b) (maxL := L) (ret := none) hy rfl ?_
  intro p e s m args below meth c s₁ B hml hv
  obtain ⟨rfl, hsz, hP, hK, hD0⟩ := hv
  have hts := atoms_spec (ws := ws_ y b L none) B.pre
  have hts : ∀ w ∈ lw_all, w.before _ s = true := fun w h => hts w (List.mem_cons_of_mem _ h)
  have hown : s.vm.findClass y.cls = some m.cls := findClass_of_methodNamed B.named
  have hlocks := B.notSynchronized
  subst hsz
  have hD := hD0.self (sz := s.heap.size)
  have hl := lv_entry as (n := L) hL
  rw [lg_entry_eq]
  generalize (lg_sl as ++ List.replicate (L - (lg_sl as).length) Slot.unset).toArray = ls at hl ⊢
  refine body p e s m below meth c (va_A [sd_ar h d n f] s.heap.size) ls _ ⟨B.exec, B.bytes, hml, hown, hts⟩ (fun q hq => Or.inr hq) ⟨hK, hP, hD, va_S.rf⟩ hl ?_
  intro pc H locs ls' f' hdg hG hp
  exact W.vret B.exec B.bytes B.returns (fun t ht hW => ⟨⟨f', rfl, hp, by rw [ht]; exact hG.2.1, va_K.moved hW.alike hG.1, hG.2.2.1⟩, hG.2.2.2.F ht⟩) hG.2.2.2.2.2 hdg
theorem sd_Mi.of {post : Int32 → (Nat → Int32) → Prop} (hy : plainName y.cls = true) (hL : (lg_sl as).length ≤ L)
    (body : ∀ (p : Program) (e : Env) (s : State) (m : MethodId) (below : List Frame) (meth : Method) (c : Code) (A : Nat → Prop) (ls : Array Slot) (Q : State → Prop), sd_S p m c b L s as y → (∀ q : Nat, s.heap.size ≤ q → A q) → sd_G D A s.heap s [(d, .int)] [sd_ar h d n f] s.heap [] → lv_has ls L (lv_args 0 as) →
      (∀ (pc : Nat) (H : Heap) (locs : List Loc) (ls : Array Slot) (r : Int32) (f' : Nat → Int32), decode b pc = .ok (.ireturn, 1) → sd_G D A s.heap s [(d, .int)] [sd_ar h d n f'] H locs → post r f' → W p l e { frames := fr, cells := 0, slots := 0, locals := lo } s m as.toArray below meth c H locs 0 0 Q (F0 m pc ls [.int r])) →
      W p l e { frames := fr, cells := 0, slots := 0, locals := lo } s m as.toArray below meth c s.heap [] 0 0 Q (F0 m 0 ls [])) : sd_Mi l y b L fr lo D h d n f as post := by
  intro sz
  refine Met.ofW (cc := b) (maxL := L) (ret := some .int) hy rfl ?_
  intro p e s m args below meth c s₁ B hml hv
  obtain ⟨rfl, hsz, hP, hK, hD0⟩ := hv
  have hts := atoms_spec (ws := ws_ y b L (some .int)) B.pre
  have hts : ∀ w ∈ lw_all, w.before _ s = true := fun w h => hts w (List.mem_cons_of_mem _ h)
  have hown : s.vm.findClass y.cls = some m.cls := findClass_of_methodNamed B.named
  have hlocks := B.notSynchronized
  subst hsz
  have hD := hD0.self (sz := s.heap.size)
  have hl := lv_entry as (n := L) hL
  rw [lg_entry_eq]
  generalize (lg_sl as ++ List.replicate (L - (lg_sl as).length) Slot.unset).toArray = ls at hl ⊢
  refine body p e s m below meth c (va_A [sd_ar h d n f] s.heap.size) ls _ ⟨B.exec, B.bytes, hml, hown, hts⟩ (fun q hq => Or.inr hq) ⟨hK, hP, hD, va_S.rf⟩ hl ?_
  intro pc H locs ls' r f' hdg hG hp
  exact W.iret (v := r) B.exec B.bytes B.returns (fun t ht hW => ⟨⟨r, f', rfl, hp, by rw [ht]; exact hG.2.1, va_K.moved hW.alike hG.1, hG.2.2.1⟩, hG.2.2.2.F ht⟩) hG.2.2.2.2.2 hdg
theorem sd_M0.of {post : Int32 → Prop} (hy : plainName y.cls = true) (hL : (lg_sl as).length ≤ L)
    (body : ∀ (p : Program) (e : Env) (s : State) (m : MethodId) (below : List Frame) (meth : Method) (c : Code) (ls : Array Slot) (Q : State → Prop), sd_S p m c b L s as y → lv_has ls L (lv_args 0 as) →
      (∀ (pc : Nat) (ls : Array Slot) (r : Int32), decode b pc = .ok (.ireturn, 1) → post r → W p l e { frames := fr, cells := 0, slots := 0, locals := lo } s m as.toArray below meth c s.heap [] 0 0 Q (F0 m pc ls [.int r])) →
      W p l e { frames := fr, cells := 0, slots := 0, locals := lo } s m as.toArray below meth c s.heap [] 0 0 Q (F0 m 0 ls [])) : sd_M0 l y b L fr lo as post := by
  intro sz
  refine Met.ofW (cc := b) (maxL := L) (ret := some .int) hy rfl ?_
  intro p e s m args below meth c s₁ B hml hv
  obtain ⟨rfl, hsz⟩ := hv
  have hts := atoms_spec (ws := ws_ y b L (some .int)) B.pre
  have hts : ∀ w ∈ lw_all, w.before _ s = true := fun w h => hts w (List.mem_cons_of_mem _ h)
  have hown : s.vm.findClass y.cls = some m.cls := findClass_of_methodNamed B.named
  have hlocks := B.notSynchronized
  have hl := lv_entry as (n := L) hL
  rw [lg_entry_eq]
  generalize (lg_sl as ++ List.replicate (L - (lg_sl as).length) Slot.unset).toArray = ls at hl ⊢
  refine body p e s m below meth c ls _ ⟨B.exec, B.bytes, hml, hown, hts⟩ hl ?_
  intro pc ls' r hdg hp
  have hS : va_S (va_A [] sz) s.heap s.heap [] := va_S.rf
  exact W.iret (v := r) B.exec B.bytes B.returns (fun t ht hW => ⟨⟨r, (), rfl, hp, trivial⟩, hS.F ht⟩) hS.2.2 hdg
end SdEntry
end
section
/-- Integer.compare(x, y) -/
def sd_cmp (x y : Int32) (r : Int32) : Prop := (x.toInt < y.toInt ∧ r.toInt = -1) ∨ (x.toInt = y.toInt ∧ r.toInt = 0) ∨ (y.toInt < x.toInt ∧ r.toInt = 1)
set_option maxHeartbeats 4000000 in
set_option maxRecDepth 100000 in
theorem sd_compare (l : Launch) (x y : Int32) : sd_M0 l yJ0_compare cJ0_compare 2 0 0 [.int x, .int y] (sd_cmp x y) := by
  refine sd_M0.of (by decide) (Nat.le_of_ble_eq_true rfl) ?_
  intro p e s m below meth c ls Q S hl ret
  have hl : lv_has ls 2 [(0, .int x), (1, .int y)] := hl
  refine lv_iload_n S.1 S.2.1 dJ0_compare_0 rfl (lv_at hl 0 rfl) ?_
  refine lv_iload_n S.1 S.2.1 dJ0_compare_1 rfl (lv_at hl 1 rfl) ?_
  refine sd_ge (tgt := 9) S.1 S.2.1 dJ0_compare_2 (by decide) rfl rfl (fun c1 => ?_) (fun c1 => ?_)
  · refine lv_iload_n S.1 S.2.1 dJ0_compare_9 rfl (lv_at hl 0 rfl) ?_
    refine lv_iload_n S.1 S.2.1 dJ0_compare_10 rfl (lv_at hl 1 rfl) ?_
    refine sd_ne (tgt := 18) S.1 S.2.1 dJ0_compare_11 (by decide) rfl rfl (fun c2 => ?_) (fun c2 => ?_)
    · refine lv_iconst (v := nI 1) S.1 S.2.1 dJ0_compare_18 (by decide +kernel) ?_
      exact ret _ _ _ dJ0_compare_19 (Or.inr (Or.inr ⟨by omega, by decide +kernel⟩))
    · refine lv_iconst (v := nI 0) S.1 S.2.1 dJ0_compare_14 (by decide +kernel) ?_
      refine lv_goto (tgt := 19) S.1 S.2.1 dJ0_compare_15 (by decide) ?_
      exact ret _ _ _ dJ0_compare_19 (Or.inr (Or.inl ⟨by omega, by decide +kernel⟩))
  · refine lv_iconst (v := (-1)) S.1 S.2.1 dJ0_compare_5 (by decide +kernel) ?_
    refine lv_goto (tgt := 19) S.1 S.2.1 dJ0_compare_6 (by decide) ?_
    exact ret _ _ _ dJ0_compare_19 (Or.inl ⟨by omega, by decide +kernel⟩)
set_option maxHeartbeats 4000000 in
set_option maxRecDepth 100000 in
/-- IntArrays.swap(x, a, b) -/
theorem sd_swap (l : Launch) (D : va_G) (h : Nat) (d : ClassId) (n : Nat) (f : Nat → Int32) (a b : Nat) (ha : a < n) (hb : b < n) (hn : n < 2 ^ 30) : sd_Mv l yX2_swap cX2_swap 4 0 0 D h d n f [.ref h, .int (nI a), .int (nI b)] (fun f' => f' = sd_swp f a b) := by
  refine sd_Mv.of (by decide) (Nat.le_of_ble_eq_true rfl) ?_
  intro p e s m below meth c A ls Q S hA hG hl ret
  have hl : lv_has ls 4 [(0, .ref h), (1, .int (nI a)), (2, .int (nI b))] := hl
  refine lv_aload_n S.1 S.2.1 dX2_swap_0 rfl (lv_at hl 0 rfl) ?_
  refine lv_iload_n S.1 S.2.1 dX2_swap_1 rfl (lv_at hl 1 rfl) ?_
  refine sd_iald S.1 S.2.1 hG 0 0 rfl rfl (by omega) (by omega) dX2_swap_2 ?_
  refine lv_istore_n (lv' := [(3, .int (f a)), (0, .ref h), (1, .int (nI a)), (2, .int (nI b))]) S.1 S.2.1 dX2_swap_3 rfl hl (by decide) rfl (fun ls hl => ?_)
  refine lv_aload_n S.1 S.2.1 dX2_swap_4 rfl (lv_at hl 1 rfl) ?_
  refine lv_iload_n S.1 S.2.1 dX2_swap_5 rfl (lv_at hl 2 rfl) ?_
  refine lv_aload_n S.1 S.2.1 dX2_swap_6 rfl (lv_at hl 1 rfl) ?_
  refine lv_iload_n S.1 S.2.1 dX2_swap_7 rfl (lv_at hl 3 rfl) ?_
  refine sd_iald S.1 S.2.1 hG 0 0 rfl rfl (by omega) (by omega) dX2_swap_8 ?_
  refine sd_iast S.1 S.2.1 hG 0 0 rfl rfl (by omega) (by omega) dX2_swap_9 (fun H locs hG => ?_)
  have hG : sd_G D A s.heap s [(d, .int)] [sd_ar h d n (upd f a (f b))] H locs := hG
  refine lv_aload_n S.1 S.2.1 dX2_swap_10 rfl (lv_at hl 1 rfl) ?_
  refine lv_iload_n S.1 S.2.1 dX2_swap_11 rfl (lv_at hl 3 rfl) ?_
  refine lv_iload_n S.1 S.2.1 dX2_swap_12 rfl (lv_at hl 0 rfl) ?_
  refine sd_iast S.1 S.2.1 hG 0 0 rfl rfl (by omega) (by omega) dX2_swap_13 (fun H locs hG => ?_)
  have hG : sd_G D A s.heap s [(d, .int)] [sd_ar h d n (upd (upd f a (f b)) b (f a))] H locs := hG
  exact ret _ _ _ _ _ dX2_swap_14 hG rfl
/-- k places from a on exchanged with k from b on -/
def sd_bsw (f : Nat → Int32) (a b : Nat) : Nat → Nat → Int32
  | 0 => f
  | k + 1 => sd_swp (sd_bsw f a b k) (a + k) (b + k)
set_option maxHeartbeats 4000000 in
set_option maxRecDepth 100000 in
theorem sd_swap2_loop {p : Program} {l : Launch} {e : Env} {R : Room} {s : State} {m : MethodId} {args : Array Value} {below : List Frame} {meth : Method} {c : Code} {Q : State → Prop} {cells slots : Nat} {D : va_G} {A : Nat → Prop} {H0 : Heap} {h n : Nat} {d : ClassId} {f : Nat → Int32} (a b k : Nat) (ha : a + k ≤ n) (hb : b + k ≤ n) (hn : n < 2 ^ 30) (hR : 1 ≤ R.frames ∧ 23 ≤ R.locals) (hC : cells ≤ R.cells ∧ slots ≤ R.slots) (S : CallFix p m c cX2_swap_2 5 s args lw_all RX2) (hA : ∀ q : Nat, H0.size ≤ q → A q)
    (K : ∀ (H : Heap) (locs : List Loc) (ls : Array Slot), sd_G D A H0 s [(d, .int)] [sd_ar h d n (sd_bsw f a b k)] H locs → W p l e R s m args below meth c H locs cells slots Q (F0 m 27 ls [])) :
    ∀ (g i : Nat), i ≤ k → k - i < g → ∀ (H : Heap) (locs : List Loc) (ls : Array Slot), sd_G D A H0 s [(d, .int)] [sd_ar h d n (sd_bsw f a b i)] H locs → lv_has ls 5 [(0, .ref h), (1, .int (nI (a + i))), (2, .int (nI (b + i))), (3, .int (nI k)), (4, .int (nI i))] → W p l e R s m args below meth c H locs cells slots Q (F0 m 3 ls []) := by
  intro g
  induction g with
  | zero => intro i h1 h2; exact absurd h2 (Nat.not_lt_zero _)
  | succ g ih =>
    intro i hi hg H locs ls hG hl
    refine lv_iload S.1 S.2.1 dX2_swap_2_3 (lv_at hl 4 rfl) ?_
    refine lv_iload_n S.1 S.2.1 dX2_swap_2_5 rfl (lv_at hl 3 rfl) ?_
    refine sd_ge (tgt := 27) S.1 S.2.1 dX2_swap_2_6 (by decide) (sd_nT (by omega)) (sd_nT (by omega)) (fun c1 => ?_) (fun c1 => ?_)
    · have hik : i = k := by omega
      subst hik
      exact K H locs ls hG
    · refine lv_aload_n S.1 S.2.1 dX2_swap_2_9 rfl (lv_at hl 0 rfl) ?_
      refine lv_iload_n S.1 S.2.1 dX2_swap_2_10 rfl (lv_at hl 1 rfl) ?_
      refine lv_iload_n S.1 S.2.1 dX2_swap_2_11 rfl (lv_at hl 2 rfl) ?_
      refine sd_callv (nn := 3) (rest := []) S (sd_swap l D h d n (sd_bsw f a b i) (a + i) (b + i) (by omega) (by omega) hn) (lw_S q72 q73 q6 q74) (by decide +kernel) rfl ⟨by omega, by omega⟩ hC hG hA 0 0 rfl rfl hl.1 rfl (Nat.le_of_ble_eq_true rfl) dX2_swap_2_12 (fun f' H locs ef' hG => ?_)
      have hG : sd_G D A H0 s [(d, .int)] [sd_ar h d n f'] H locs := hG
      subst ef'
      have hG : sd_G D A H0 s [(d, .int)] [sd_ar h d n (sd_bsw f a b (i + 1))] H locs := hG
      refine lv_iinc (v := nI (i + 1)) (lv' := [(4, .int (nI (i + 1))), (0, .ref h), (1, .int (nI (a + i))), (2, .int (nI (b + i))), (3, .int (nI k))]) S.1 S.2.1 dX2_swap_2_15 hl (k := 4) rfl (sd_i1 _) (by decide) rfl (fun ls hl => ?_)
      refine lv_iinc (v := nI (a + i + 1)) (lv' := [(1, .int (nI (a + i + 1))), (4, .int (nI (i + 1))), (0, .ref h), (2, .int (nI (b + i))), (3, .int (nI k))]) S.1 S.2.1 dX2_swap_2_18 hl (k := 2) rfl (sd_i1 _) (by decide) rfl (fun ls hl => ?_)
      refine lv_iinc (v := nI (b + i + 1)) (lv' := [(2, .int (nI (b + i + 1))), (1, .int (nI (a + i + 1))), (4, .int (nI (i + 1))), (0, .ref h), (3, .int (nI k))]) S.1 S.2.1 dX2_swap_2_21 hl (k := 3) rfl (sd_i1 _) (by decide) rfl (fun ls hl => ?_)
      refine lv_goto (tgt := 3) S.1 S.2.1 dX2_swap_2_24 (by decide) ?_
      exact ih (i + 1) (by omega) (by omega) H locs ls hG (lv_sub hl [3, 1, 0, 4, 2] rfl)
set_option maxHeartbeats 4000000 in
set_option maxRecDepth 100000 in
/-- IntArrays.swap(x, a, b, k) -/
theorem sd_swap2 (l : Launch) (D : va_G) (h : Nat) (d : ClassId) (n : Nat) (f : Nat → Int32) (a b k : Nat) (ha : a + k ≤ n) (hb : b + k ≤ n) (hn : n < 2 ^ 30) : sd_Mv l yX2_swap_2 cX2_swap_2 5 1 23 D h d n f [.ref h, .int (nI a), .int (nI b), .int (nI k)] (fun f' => f' = sd_bsw f a b k) := by
  refine sd_Mv.of (by decide) (Nat.le_of_ble_eq_true rfl) ?_
  intro p e s m below meth c A ls Q S hA hG hl ret
  have hl : lv_has ls 5 [(0, .ref h), (1, .int (nI a)), (2, .int (nI b)), (3, .int (nI k))] := hl
  refine lv_iconst (v := nI 0) S.1 S.2.1 dX2_swap_2_0 (by decide +kernel) ?_
  refine lv_istore (lv' := [(4, .int (nI 0)), (0, .ref h), (1, .int (nI a)), (2, .int (nI b)), (3, .int (nI k))]) S.1 S.2.1 dX2_swap_2_1 hl (by decide) rfl (fun ls hl => ?_)
  exact sd_swap2_loop a b k ha hb hn ⟨Nat.le_refl _, Nat.le_refl _⟩ ⟨Nat.le_refl _, Nat.le_refl _⟩ S hA (fun H locs ls hG => ret _ _ _ _ _ dX2_swap_2_27 hG rfl) (k + 1) 0 (Nat.zero_le _) (by omega) _ _ _ hG (lv_sub hl [1, 2, 3, 4, 0] rfl)
set_option maxHeartbeats 4000000 in
set_option maxRecDepth 100000 in
/-- IntArrays.med3(x, a, b, k): one of the three places -/
theorem sd_med3 (l : Launch) (D : va_G) (h : Nat) (d : ClassId) (n : Nat) (f : Nat → Int32) (a b k : Nat) (ha : a < n) (hb : b < n) (hk : k < n) (hn : n < 2 ^ 30) : sd_Mi l yX2_med3 cX2_med3 7 1 21 D h d n f [.ref h, .int (nI a), .int (nI b), .int (nI k)] (fun r f' => f' = f ∧ ∃ j, (j = a ∨ j = b ∨ j = k) ∧ r = nI j) := by
  refine sd_Mi.of (by decide) (Nat.le_of_ble_eq_true rfl) ?_
  intro p e s m below meth c A ls Q S hA hG hl ret
  have hl : lv_has ls 7 [(0, .ref h), (1, .int (nI a)), (2, .int (nI b)), (3, .int (nI k))] := hl
  refine lv_aload_n S.1 S.2.1 dX2_med3_0 rfl (lv_at hl 0 rfl) ?_
  refine lv_iload_n S.1 S.2.1 dX2_med3_1 rfl (lv_at hl 1 rfl) ?_
  refine sd_iald S.1 S.2.1 hG 0 0 rfl rfl (by omega) (by omega) dX2_med3_2 ?_
  refine lv_aload_n S.1 S.2.1 dX2_med3_3 rfl (lv_at hl 0 rfl) ?_
  refine lv_iload_n S.1 S.2.1 dX2_med3_4 rfl (lv_at hl 2 rfl) ?_
  refine sd_iald S.1 S.2.1 hG 0 0 rfl rfl (by omega) (by omega) dX2_med3_5 ?_
  refine sd_call0 (nn := 2) (rest := []) S (sd_compare l (f a) (f b)) (lw_S q69 q70 q7 q71) (by decide +kernel) rfl ⟨Nat.le_of_ble_eq_true rfl, Nat.le_of_ble_eq_true rfl⟩ ⟨Nat.le_refl _, Nat.le_refl _⟩ hG hA hl.1 rfl (Nat.le_of_ble_eq_true rfl) dX2_med3_6 (fun r1 H locs e1 hG => ?_)
  have hG : sd_G D A s.heap s [(d, .int)] [sd_ar h d n f] H locs := hG
  refine lv_istore (lv' := [(4, .int r1), (0, .ref h), (1, .int (nI a)), (2, .int (nI b)), (3, .int (nI k))]) S.1 S.2.1 dX2_med3_9 hl (by decide) rfl (fun ls hl => ?_)
  refine lv_aload_n S.1 S.2.1 dX2_med3_11 rfl (lv_at hl 1 rfl) ?_
  refine lv_iload_n S.1 S.2.1 dX2_med3_12 rfl (lv_at hl 2 rfl) ?_
  refine sd_iald S.1 S.2.1 hG 0 0 rfl rfl (by omega) (by omega) dX2_med3_13 ?_
  refine lv_aload_n S.1 S.2.1 dX2_med3_14 rfl (lv_at hl 1 rfl) ?_
  refine lv_iload_n S.1 S.2.1 dX2_med3_15 rfl (lv_at hl 4 rfl) ?_
  refine sd_iald S.1 S.2.1 hG 0 0 rfl rfl (by omega) (by omega) dX2_med3_16 ?_
  refine sd_call0 (nn := 2) (rest := []) S (sd_compare l (f a) (f k)) (lw_S q69 q70 q7 q71) (by decide +kernel) rfl ⟨Nat.le_of_ble_eq_true rfl, Nat.le_of_ble_eq_true rfl⟩ ⟨Nat.le_refl _, Nat.le_refl _⟩ hG hA hl.1 rfl (Nat.le_of_ble_eq_true rfl) dX2_med3_17 (fun r2 H locs e2 hG => ?_)
  have hG : sd_G D A s.heap s [(d, .int)] [sd_ar h d n f] H locs := hG
  refine lv_istore (lv' := [(5, .int r2), (4, .int r1), (0, .ref h), (1, .int (nI a)), (2, .int (nI b)), (3, .int (nI k))]) S.1 S.2.1 dX2_med3_20 hl (by decide) rfl (fun ls hl => ?_)
  refine lv_aload_n S.1 S.2.1 dX2_med3_22 rfl (lv_at hl 2 rfl) ?_
  refine lv_iload_n S.1 S.2.1 dX2_med3_23 rfl (lv_at hl 4 rfl) ?_
  refine sd_iald S.1 S.2.1 hG 0 0 rfl rfl (by omega) (by omega) dX2_med3_24 ?_
  refine lv_aload_n S.1 S.2.1 dX2_med3_25 rfl (lv_at hl 2 rfl) ?_
  refine lv_iload_n S.1 S.2.1 dX2_med3_26 rfl (lv_at hl 5 rfl) ?_
  refine sd_iald S.1 S.2.1 hG 0 0 rfl rfl (by omega) (by omega) dX2_med3_27 ?_
  refine sd_call0 (nn := 2) (rest := []) S (sd_compare l (f b) (f k)) (lw_S q69 q70 q7 q71) (by decide +kernel) rfl ⟨Nat.le_of_ble_eq_true rfl, Nat.le_of_ble_eq_true rfl⟩ ⟨Nat.le_refl _, Nat.le_refl _⟩ hG hA hl.1 rfl (Nat.le_of_ble_eq_true rfl) dX2_med3_28 (fun r3 H locs e3 hG => ?_)
  have hG : sd_G D A s.heap s [(d, .int)] [sd_ar h d n f] H locs := hG
  refine lv_istore (lv' := [(6, .int r3), (5, .int r2), (4, .int r1), (0, .ref h), (1, .int (nI a)), (2, .int (nI b)), (3, .int (nI k))]) S.1 S.2.1 dX2_med3_31 hl (by decide) rfl (fun ls hl => ?_)
  refine lv_iload S.1 S.2.1 dX2_med3_33 (lv_at hl 2 rfl) ?_
  refine sd_zge (tgt := 60) S.1 S.2.1 dX2_med3_35 (by decide) rfl (fun c1 => ?_) (fun c1 => ?_)
  · refine lv_iload S.1 S.2.1 dX2_med3_60 (lv_at hl 0 rfl) ?_
    refine sd_zle (tgt := 69) S.1 S.2.1 dX2_med3_62 (by decide) rfl (fun c2 => ?_) (fun c2 => ?_)
    · refine lv_iload S.1 S.2.1 dX2_med3_69 (lv_at hl 1 rfl) ?_
      refine sd_zle (tgt := 78) S.1 S.2.1 dX2_med3_71 (by decide) rfl (fun c3 => ?_) (fun c3 => ?_)
      · refine lv_iload_n S.1 S.2.1 dX2_med3_78 rfl (lv_at hl 4 rfl) ?_
        exact ret _ _ _ _ _ _ dX2_med3_79 hG ⟨rfl, a, Or.inl rfl, rfl⟩
      · refine lv_iload_n S.1 S.2.1 dX2_med3_74 rfl (lv_at hl 6 rfl) ?_
        refine lv_goto (tgt := 79) S.1 S.2.1 dX2_med3_75 (by decide) ?_
        exact ret _ _ _ _ _ _ dX2_med3_79 hG ⟨rfl, k, Or.inr (Or.inr rfl), rfl⟩
    · refine lv_iload_n S.1 S.2.1 dX2_med3_65 rfl (lv_at hl 5 rfl) ?_
      refine lv_goto (tgt := 79) S.1 S.2.1 dX2_med3_66 (by decide) ?_
      exact ret _ _ _ _ _ _ dX2_med3_79 hG ⟨rfl, b, Or.inr (Or.inl rfl), rfl⟩
  · refine lv_iload S.1 S.2.1 dX2_med3_38 (lv_at hl 0 rfl) ?_
    refine sd_zge (tgt := 47) S.1 S.2.1 dX2_med3_40 (by decide) rfl (fun c2 => ?_) (fun c2 => ?_)
    · refine lv_iload S.1 S.2.1 dX2_med3_47 (lv_at hl 1 rfl) ?_
      refine sd_zge (tgt := 56) S.1 S.2.1 dX2_med3_49 (by decide) rfl (fun c3 => ?_) (fun c3 => ?_)
      · refine lv_iload_n S.1 S.2.1 dX2_med3_56 rfl (lv_at hl 4 rfl) ?_
        refine lv_goto (tgt := 79) S.1 S.2.1 dX2_med3_57 (by decide) ?_
        exact ret _ _ _ _ _ _ dX2_med3_79 hG ⟨rfl, a, Or.inl rfl, rfl⟩
      · refine lv_iload_n S.1 S.2.1 dX2_med3_52 rfl (lv_at hl 6 rfl) ?_
        refine lv_goto (tgt := 79) S.1 S.2.1 dX2_med3_53 (by decide) ?_
        exact ret _ _ _ _ _ _ dX2_med3_79 hG ⟨rfl, k, Or.inr (Or.inr rfl), rfl⟩
    · refine lv_iload_n S.1 S.2.1 dX2_med3_43 rfl (lv_at hl 5 rfl) ?_
      refine lv_goto (tgt := 79) S.1 S.2.1 dX2_med3_44 (by decide) ?_
      exact ret _ _ _ _ _ _ dX2_med3_79 hG ⟨rfl, b, Or.inr (Or.inl rfl), rfl⟩
end
section
/-! PURE: selection sort and insertion sort, step by step -/
section SdSel
variable {f f0 : Nat → Int32} {lo hi i j k : Nat} {t : Int32}
/-- selection sort's outer state: the i least stand sorted ahead -/
def sd_Sel (f0 f : Nat → Int32) (lo i hi : Nat) : Prop := sd_Prm f f0 lo hi ∧ sd_Srt f lo i ∧ ∀ p q, lo ≤ p → p < i → i ≤ q → q < hi → (f p).toInt ≤ (f q).toInt
theorem sd_Sel.st : sd_Sel f f lo lo hi := ⟨sd_Prm.rf, sd_Srt.nil (by omega), fun p q h1 h2 => absurd h2 (by omega)⟩
theorem sd_Sel.go (h : sd_Sel f0 f lo i hi) (h1 : lo ≤ i) (h2 : i ≤ k) (h3 : k < hi) (hm : ∀ q, i ≤ q → q < hi → (f k).toInt ≤ (f q).toInt) : sd_Sel f0 (sd_swp f i k) lo (i + 1) hi := by
  obtain ⟨hp, hs, hx⟩ := h
  refine ⟨(sd_Prm.sw h1 (by omega) (by omega) h3).tr hp, ?_, ?_⟩
  · intro p q a1 a2 a3
    by_cases hq : q = i
    · subst hq
      rw [sd_swp_a]
      by_cases hpq : p = q
      · subst hpq; rw [sd_swp_a]; exact Int.le_refl _
      · rw [sd_swp_o hpq (by omega)]
        exact hx p k a1 (by omega) h2 h3
    · rw [sd_swp_o (show p ≠ i by omega) (show p ≠ k by omega), sd_swp_o hq (by omega)]
      exact hs p q a1 a2 (by omega)
  · intro p q a1 a2 a3 a4
    have key : ∀ q, i < q → q < hi → (f k).toInt ≤ (sd_swp f i k q).toInt ∧ ∀ p, lo ≤ p → p < i → (f p).toInt ≤ (sd_swp f i k q).toInt := by
      intro q b1 b2
      rcases sd_swp_c f i k q with ⟨e, -⟩ | ⟨-, e⟩ | ⟨-, -, e⟩
      · omega
      · rw [e]; exact ⟨hm i (Nat.le_refl i) (by omega), fun p c1 c2 => hx p i c1 c2 (Nat.le_refl i) (by omega)⟩
      · rw [e]; exact ⟨hm q (by omega) b2, fun p c1 c2 => hx p q c1 c2 (by omega) b2⟩
    have kq := key q (by omega) a4
    by_cases hp : p = i
    · subst hp
      rw [sd_swp_a]
      exact kq.1
    · rw [sd_swp_o hp (by omega)]
      exact kq.2 p a1 (by omega)
theorem sd_Sel.en (h : sd_Sel f0 f lo i hi) (h1 : hi ≤ i + 1) : sd_Srt f lo hi ∧ sd_Prm f f0 lo hi := by
  refine ⟨?_, h.1⟩
  by_cases hh : lo ≤ i
  · refine sd_Srt.app (mid := i) h.2.1 (sd_Srt.nil h1) h.2.2
  · exact sd_Srt.nil (by omega)
/-- insertion sort's inner state: t is out of its place, the hole is j, what stands behind it up to i is above t -/
def sd_Ins (f0 f : Nat → Int32) (lo i hi j : Nat) (t : Int32) : Prop := sd_Prm (upd f j t) f0 lo hi ∧ sd_Srt f lo j ∧ sd_Srt f (j + 1) (i + 1) ∧ (∀ p q, lo ≤ p → p < j → j < q → q ≤ i → (f p).toInt ≤ (f q).toInt) ∧ ∀ q, j < q → q ≤ i → t.toInt ≤ (f q).toInt
theorem sd_upd_s : upd f j (f j) = f := by
  funext q
  by_cases e : q = j
  · subst e; exact pk_us
  · exact pk_un e
theorem sd_Ins.st (hp : sd_Prm f f0 lo hi) (hs : sd_Srt f lo i) : sd_Ins f0 f lo i hi i (f i) := by
  refine ⟨by rw [sd_upd_s]; exact hp, hs, sd_Srt.nil (by omega), fun p q _ _ a b => absurd a (by omega), fun q a b => absurd a (by omega)⟩
theorem sd_Ins.go (h : sd_Ins f0 f lo i hi (j + 1) t) (h1 : lo ≤ j) (h2 : j + 1 ≤ i) (h3 : i < hi) (ht : t.toInt < (f j).toInt) : sd_Ins f0 (upd f (j + 1) (f j)) lo i hi j t := by
  obtain ⟨hp, hs, hs2, hx, hq⟩ := h
  have ej : ∀ q, q ≠ j + 1 → upd f (j + 1) (f j) q = f q := fun q e => pk_un e
  have ej1 : upd f (j + 1) (f j) (j + 1) = f j := pk_us
  refine ⟨?_, ?_, ?_, ?_, ?_⟩
  · have e : upd (upd f (j + 1) (f j)) j t = sd_swp (upd f (j + 1) t) (j + 1) j := by
      funext q
      rcases sd_swp_c (upd f (j + 1) t) (j + 1) j q with ⟨a, b⟩ | ⟨a, b⟩ | ⟨a1, a2, b⟩
      · rw [b, pk_un (show j ≠ j + 1 by omega), a, pk_un (show j + 1 ≠ j by omega), pk_us]
      · rw [b, pk_us, a, pk_us]
      · rw [b, pk_un a2, pk_un a1, pk_un a1]
    rw [e]
    exact (sd_Prm.sw (by omega) (by omega) h1 (by omega)).tr hp
  · exact (hs.sub (Nat.le_refl lo) (show j ≤ j + 1 by omega)).cg (fun q _ b => ej q (by omega))
  · intro p q a1 a2 a3
    by_cases e : p = j + 1
    · subst e
      rw [ej1]
      by_cases e2 : q = j + 1
      · subst e2; rw [ej1]; exact Int.le_refl _
      · rw [ej q e2]
        exact hx j q h1 (by omega) (by omega) (by omega)
    · rw [ej p e, ej q (by omega)]
      exact hs2 p q (by omega) a2 a3
  · intro p q a1 a2 a3 a4
    rw [ej p (by omega)]
    by_cases e : q = j + 1
    · subst e; rw [ej1]; exact hs p j a1 (by omega) (by omega)
    · rw [ej q e]; exact hx p q a1 (by omega) (by omega) a4
  · intro q a1 a2
    by_cases e : q = j + 1
    · subst e; rw [ej1]; omega
    · rw [ej q e]; exact hq q (by omega) a2
theorem sd_Ins.en (h : sd_Ins f0 f lo i hi j t) (h1 : lo ≤ j) (h2 : j ≤ i) (ht : ∀ p, lo ≤ p → p < j → (f p).toInt ≤ t.toInt) : sd_Prm (upd f j t) f0 lo hi ∧ sd_Srt (upd f j t) lo (i + 1) := by
  obtain ⟨hp, hs, hs2, hx, hq⟩ := h
  refine ⟨hp, ?_⟩
  have ej : ∀ q, q ≠ j → upd f j t q = f q := fun q e => pk_un e
  intro p q a1 a2 a3
  by_cases e1 : p = j
  · subst e1
    rw [pk_us]
    by_cases e2 : q = p
    · subst e2; rw [pk_us]; exact Int.le_refl _
    · rw [ej q e2]; exact hq q (by omega) (by omega)
  · rw [ej p e1]
    by_cases e2 : q = j
    · subst e2; rw [pk_us]; exact ht p a1 (by omega)
    · rw [ej q e2]
      by_cases c1 : q < j
      · exact hs p q a1 a2 c1
      · by_cases c2 : p < j
        · exact hx p q a1 c2 (by omega) (by omega)
        · exact hs2 p q (by omega) a2 a3
end SdSel
end
section
set_option maxHeartbeats 4000000 in
set_option maxRecDepth 100000 in
theorem sd_sel_in {p : Program} {l : Launch} {e : Env} {R : Room} {s : State} {m : MethodId} {args : Array Value} {below : List Frame} {meth : Method} {c : Code} {Q : State → Prop} {cells slots : Nat} {D : va_G} {A : Nat → Prop} {H0 : Heap} {h n : Nat} {d : ClassId} {f0 : Nat → Int32} (lo hi : Nat) (hh : hi ≤ n) (hn : n < 2 ^ 30) (S : CallFix p m c cX2_selectionSort 6 s args lw_all RX2) {f : Nat → Int32} {H : Heap} {locs : List Loc} (i : Nat) (hi1 : i < hi) (hG : sd_G D A H0 s [(d, .int)] [sd_ar h d n f] H locs)
    (K : ∀ (mm : Nat) (ls : Array Slot), i ≤ mm → mm < hi → (∀ q, i ≤ q → q < hi → (f mm).toInt ≤ (f q).toInt) → lv_has ls 6 [(0, .ref h), (1, .int (nI lo)), (2, .int (nI hi)), (3, .int (nI i)), (4, .int (nI mm))] → W p l e R s m args below meth c H locs cells slots Q (F0 m 44 ls [])) :
    ∀ (g j mm : Nat), i ≤ mm → mm < j → j ≤ hi → (∀ q, i ≤ q → q < j → (f mm).toInt ≤ (f q).toInt) → hi - j < g → ∀ (ls : Array Slot), lv_has ls 6 [(0, .ref h), (1, .int (nI lo)), (2, .int (nI hi)), (3, .int (nI i)), (4, .int (nI mm)), (5, .int (nI j))] → W p l e R s m args below meth c H locs cells slots Q (F0 m 17 ls []) := by
  intro g
  induction g with
  | zero => intro j mm h1 h2 h3 h4 h5; exact absurd h5 (Nat.not_lt_zero _)
  | succ g ih =>
    intro j mm h1 h2 h3 h4 h5 ls hl
    refine lv_iload S.1 S.2.1 dX2_selectionSort_17 (lv_at hl 5 rfl) ?_
    refine lv_iload_n S.1 S.2.1 dX2_selectionSort_19 rfl (lv_at hl 2 rfl) ?_
    refine sd_ge (tgt := 44) S.1 S.2.1 dX2_selectionSort_20 (by decide) (sd_nT (by omega)) (sd_nT (by omega)) (fun c1 => ?_) (fun c1 => ?_)
    · exact K mm ls h1 (by omega) (fun q a1 a2 => h4 q a1 (by omega)) (lv_sub hl [0, 1, 2, 3, 4] rfl)
    · refine lv_aload_n S.1 S.2.1 dX2_selectionSort_23 rfl (lv_at hl 0 rfl) ?_
      refine lv_iload S.1 S.2.1 dX2_selectionSort_24 (lv_at hl 5 rfl) ?_
      refine sd_iald S.1 S.2.1 hG 0 0 rfl rfl (by omega) (by omega) dX2_selectionSort_26 ?_
      refine lv_aload_n S.1 S.2.1 dX2_selectionSort_27 rfl (lv_at hl 0 rfl) ?_
      refine lv_iload S.1 S.2.1 dX2_selectionSort_28 (lv_at hl 4 rfl) ?_
      refine sd_iald S.1 S.2.1 hG 0 0 rfl rfl (by omega) (by omega) dX2_selectionSort_30 ?_
      refine sd_ge (tgt := 38) S.1 S.2.1 dX2_selectionSort_31 (by decide) rfl rfl (fun c2 => ?_) (fun c2 => ?_)
      · refine lv_iinc (v := nI (j + 1)) (lv' := [(5, .int (nI (j + 1))), (0, .ref h), (1, .int (nI lo)), (2, .int (nI hi)), (3, .int (nI i)), (4, .int (nI mm))]) S.1 S.2.1 dX2_selectionSort_38 hl (k := 5) rfl (sd_i1 _) (by decide) rfl (fun ls hl => ?_)
        refine lv_goto (tgt := 17) S.1 S.2.1 dX2_selectionSort_41 (by decide) ?_
        exact ih (j + 1) mm h1 (by omega) (by omega) (fun q a1 a2 => by
            by_cases e : q = j
            · subst e; omega
            · exact h4 q a1 (by omega)) (by omega) ls (lv_sub hl [1, 2, 3, 4, 5, 0] rfl)
      · refine lv_iload S.1 S.2.1 dX2_selectionSort_34 (lv_at hl 5 rfl) ?_
        refine lv_istore (lv' := [(4, .int (nI j)), (0, .ref h), (1, .int (nI lo)), (2, .int (nI hi)), (3, .int (nI i)), (5, .int (nI j))]) S.1 S.2.1 dX2_selectionSort_36 hl (by decide) rfl (fun ls hl => ?_)
        refine lv_iinc (v := nI (j + 1)) (lv' := [(5, .int (nI (j + 1))), (4, .int (nI j)), (0, .ref h), (1, .int (nI lo)), (2, .int (nI hi)), (3, .int (nI i))]) S.1 S.2.1 dX2_selectionSort_38 hl (k := 5) rfl (sd_i1 _) (by decide) rfl (fun ls hl => ?_)
        refine lv_goto (tgt := 17) S.1 S.2.1 dX2_selectionSort_41 (by decide) ?_
        exact ih (j + 1) j (by omega) (by omega) (by omega) (fun q a1 a2 => by
            by_cases e : q = j
            · subst e; omega
            · have := h4 q a1 (by omega)
              omega) (by omega) ls (lv_sub hl [2, 3, 4, 5, 1, 0] rfl)
set_option maxHeartbeats 4000000 in
set_option maxRecDepth 100000 in
theorem sd_sel_out {p : Program} {l : Launch} {e : Env} {R : Room} {s : State} {m : MethodId} {args : Array Value} {below : List Frame} {meth : Method} {c : Code} {Q : State → Prop} {cells slots : Nat} {D : va_G} {A : Nat → Prop} {H0 : Heap} {h n : Nat} {d : ClassId} {f0 : Nat → Int32} (lo hi : Nat) (hh : hi ≤ n) (hn : n < 2 ^ 30) (S : CallFix p m c cX2_selectionSort 6 s args lw_all RX2)
    (K : ∀ (f : Nat → Int32) (H : Heap) (locs : List Loc) (ls : Array Slot), sd_Srt f lo hi ∧ sd_Prm f f0 lo hi → sd_G D A H0 s [(d, .int)] [sd_ar h d n f] H locs → W p l e R s m args below meth c H locs cells slots Q (F0 m 74 ls [])) :
    ∀ (g i : Nat) (f : Nat → Int32), lo ≤ i → i ≤ hi → sd_Sel f0 f lo i hi → hi - i < g → ∀ (H : Heap) (locs : List Loc) (ls : Array Slot), sd_G D A H0 s [(d, .int)] [sd_ar h d n f] H locs → lv_has ls 6 [(0, .ref h), (1, .int (nI lo)), (2, .int (nI hi)), (3, .int (nI i))] → W p l e R s m args below meth c H locs cells slots Q (F0 m 2 ls []) := by
  intro g
  induction g with
  | zero => intro i f h1 h2 h3 h4; exact absurd h4 (Nat.not_lt_zero _)
  | succ g ih =>
    intro i f h1 h2 h3 h4 H locs ls hG hl
    refine lv_iload_n S.1 S.2.1 dX2_selectionSort_2 rfl (lv_at hl 3 rfl) ?_
    refine lv_iload_n S.1 S.2.1 dX2_selectionSort_3 rfl (lv_at hl 2 rfl) ?_
    refine lv_iconst (v := nI 1) S.1 S.2.1 dX2_selectionSort_4 (by decide +kernel) ?_
    refine sd_isub1 S.1 S.2.1 dX2_selectionSort_5 ?_
    refine sd_ge (tgt := 74) S.1 S.2.1 dX2_selectionSort_6 (by decide) (sd_nT (by omega)) (sd_mT (by omega)) (fun c1 => ?_) (fun c1 => ?_)
    · exact K f H locs ls (h3.en (by omega)) hG
    · refine lv_iload_n S.1 S.2.1 dX2_selectionSort_9 rfl (lv_at hl 3 rfl) ?_
      refine lv_istore (lv' := [(4, .int (nI i)), (0, .ref h), (1, .int (nI lo)), (2, .int (nI hi)), (3, .int (nI i))]) S.1 S.2.1 dX2_selectionSort_10 hl (by decide) rfl (fun ls hl => ?_)
      refine lv_iload_n S.1 S.2.1 dX2_selectionSort_12 rfl (lv_at hl 4 rfl) ?_
      refine lv_iconst (v := nI 1) S.1 S.2.1 dX2_selectionSort_13 (by decide +kernel) ?_
      refine sd_iadd S.1 S.2.1 dX2_selectionSort_14 ?_
      refine lv_istore (lv' := [(5, .int (nI (i + 1))), (4, .int (nI i)), (0, .ref h), (1, .int (nI lo)), (2, .int (nI hi)), (3, .int (nI i))]) S.1 S.2.1 dX2_selectionSort_15 hl (by decide) rfl (fun ls hl => ?_)
      refine sd_sel_in (f0 := f0) lo hi hh hn S i (by omega) hG (fun mm ls b1 b2 b3 hl => ?_) (hi + 1) (i + 1) i (Nat.le_refl i) (by omega) (by omega) (fun q a1 a2 => by rw [show q = i by omega]; exact Int.le_refl _) (by omega) ls (lv_sub hl [2, 3, 4, 5, 1, 0] rfl)
      refine lv_iload S.1 S.2.1 dX2_selectionSort_44 (lv_at hl 4 rfl) ?_
      refine lv_iload_n S.1 S.2.1 dX2_selectionSort_46 rfl (lv_at hl 3 rfl) ?_
      refine sd_eq (tgt := 68) S.1 S.2.1 dX2_selectionSort_47 (by decide) (sd_nT (by omega)) (sd_nT (by omega)) (fun c2 => ?_) (fun c2 => ?_)
      · have e : mm = i := by omega
        subst e
        refine lv_iinc (v := nI (mm + 1)) (lv' := [(3, .int (nI (mm + 1))), (0, .ref h), (1, .int (nI lo)), (2, .int (nI hi)), (4, .int (nI mm))]) S.1 S.2.1 dX2_selectionSort_68 hl (k := 3) rfl (sd_i1 _) (by decide) rfl (fun ls hl => ?_)
        refine lv_goto (tgt := 2) S.1 S.2.1 dX2_selectionSort_71 (by decide) ?_
        have h5 := h3.go (k := mm) h1 (Nat.le_refl mm) (by omega) b3
        rw [sd_swp_s] at h5
        exact ih (mm + 1) f (by omega) (by omega) h5 (by omega) H locs ls hG (lv_sub hl [1, 2, 3, 0] rfl)
      · refine lv_aload_n S.1 S.2.1 dX2_selectionSort_50 rfl (lv_at hl 0 rfl) ?_
        refine lv_iload_n S.1 S.2.1 dX2_selectionSort_51 rfl (lv_at hl 3 rfl) ?_
        refine sd_iald S.1 S.2.1 hG 0 0 rfl rfl (by omega) (by omega) dX2_selectionSort_52 ?_
        refine lv_istore (lv' := [(5, .int (f i)), (0, .ref h), (1, .int (nI lo)), (2, .int (nI hi)), (3, .int (nI i)), (4, .int (nI mm))]) S.1 S.2.1 dX2_selectionSort_53 hl (by decide) rfl (fun ls hl => ?_)
        refine lv_aload_n S.1 S.2.1 dX2_selectionSort_55 rfl (lv_at hl 1 rfl) ?_
        refine lv_iload_n S.1 S.2.1 dX2_selectionSort_56 rfl (lv_at hl 4 rfl) ?_
        refine lv_aload_n S.1 S.2.1 dX2_selectionSort_57 rfl (lv_at hl 1 rfl) ?_
        refine lv_iload S.1 S.2.1 dX2_selectionSort_58 (lv_at hl 5 rfl) ?_
        refine sd_iald S.1 S.2.1 hG 0 0 rfl rfl (by omega) (by omega) dX2_selectionSort_60 ?_
        refine sd_iast S.1 S.2.1 hG 0 0 rfl rfl (by omega) (by omega) dX2_selectionSort_61 (fun H locs hG => ?_)
        have hG : sd_G D A H0 s [(d, .int)] [sd_ar h d n (upd f i (f mm))] H locs := hG
        refine lv_aload_n S.1 S.2.1 dX2_selectionSort_62 rfl (lv_at hl 1 rfl) ?_
        refine lv_iload S.1 S.2.1 dX2_selectionSort_63 (lv_at hl 5 rfl) ?_
        refine lv_iload S.1 S.2.1 dX2_selectionSort_65 (lv_at hl 0 rfl) ?_
        refine sd_iast S.1 S.2.1 hG 0 0 rfl rfl (by omega) (by omega) dX2_selectionSort_67 (fun H locs hG => ?_)
        have hG : sd_G D A H0 s [(d, .int)] [sd_ar h d n (upd (upd f i (f mm)) mm (f i))] H locs := hG
        refine lv_iinc (v := nI (i + 1)) (lv' := [(3, .int (nI (i + 1))), (5, .int (f i)), (0, .ref h), (1, .int (nI lo)), (2, .int (nI hi)), (4, .int (nI mm))]) S.1 S.2.1 dX2_selectionSort_68 hl (k := 4) rfl (sd_i1 _) (by decide) rfl (fun ls hl => ?_)
        refine lv_goto (tgt := 2) S.1 S.2.1 dX2_selectionSort_71 (by decide) ?_
        exact ih (i + 1) (sd_swp f i mm) (by omega) (by omega) (h3.go h1 b1 b2 b3) (by omega) H locs ls hG (lv_sub hl [2, 3, 4, 0] rfl)
set_option maxHeartbeats 4000000 in
set_option maxRecDepth 100000 in
/-- IntArrays.selectionSort(a, lo, hi) -/
theorem sd_selectionSort (l : Launch) (D : va_G) (h : Nat) (d : ClassId) (n : Nat) (f : Nat → Int32) (lo hi : Nat) (h1 : lo ≤ hi) (hh : hi ≤ n) (hn : n < 2 ^ 30) : sd_Mv l yX2_selectionSort cX2_selectionSort 6 0 0 D h d n f [.ref h, .int (nI lo), .int (nI hi)] (fun f' => sd_Srt f' lo hi ∧ sd_Prm f' f lo hi) := by
  refine sd_Mv.of (by decide) (Nat.le_of_ble_eq_true rfl) ?_
  intro p e s m below meth c A ls Q S hA hG hl ret
  have hl : lv_has ls 6 [(0, .ref h), (1, .int (nI lo)), (2, .int (nI hi))] := hl
  refine lv_iload_n S.1 S.2.1 dX2_selectionSort_0 rfl (lv_at hl 1 rfl) ?_
  refine lv_istore_n (lv' := [(3, .int (nI lo)), (0, .ref h), (1, .int (nI lo)), (2, .int (nI hi))]) S.1 S.2.1 dX2_selectionSort_1 rfl hl (by decide) rfl (fun ls hl => ?_)
  exact sd_sel_out lo hi hh hn S (fun f H locs ls hp hG => ret _ _ _ _ _ dX2_selectionSort_74 hG hp) (hi + 1) lo f (Nat.le_refl lo) h1 sd_Sel.st (by omega) _ _ _ hG (lv_sub hl [1, 2, 3, 0] rfl)
set_option maxHeartbeats 4000000 in
set_option maxRecDepth 100000 in
theorem sd_ins_in {p : Program} {l : Launch} {e : Env} {R : Room} {s : State} {m : MethodId} {args : Array Value} {below : List Frame} {meth : Method} {c : Code} {Q : State → Prop} {cells slots : Nat} {D : va_G} {A : Nat → Prop} {H0 : Heap} {h n : Nat} {d : ClassId} {f0 : Nat → Int32} (lo hi : Nat) (hh : hi ≤ n) (hn : n < 2 ^ 30) (S : CallFix p m c cX2_insertionSort 7 s args lw_all RX2) {t : Int32} (i : Nat) (hi1 : i < hi)
    (K : ∀ (j : Nat) (f : Nat → Int32) (H : Heap) (locs : List Loc) (ls : Array Slot), lo ≤ j → j ≤ i → sd_Ins f0 f lo i hi j t → (∀ q, lo ≤ q → q < j → (f q).toInt ≤ t.toInt) → sd_G D A H0 s [(d, .int)] [sd_ar h d n f] H locs → lv_has ls 7 [(0, .ref h), (1, .int (nI lo)), (2, .int (nI hi)), (3, .int (nI i)), (4, .int t), (5, .int (nI j))] → W p l e R s m args below meth c H locs cells slots Q (F0 m 67 ls [])) :
    ∀ (g j : Nat) (f : Nat → Int32), lo ≤ j → j + 1 ≤ i → sd_Ins f0 f lo i hi (j + 1) t → j < g → ∀ (H : Heap) (locs : List Loc) (ls : Array Slot), sd_G D A H0 s [(d, .int)] [sd_ar h d n f] H locs → lv_has ls 7 [(0, .ref h), (1, .int (nI lo)), (2, .int (nI hi)), (3, .int (nI i)), (4, .int t), (5, .int (nI (j + 1))), (6, .int (f j))] → W p l e R s m args below meth c H locs cells slots Q (F0 m 26 ls []) := by
  intro g
  induction g with
  | zero => intro j f h1 h2 h3 h4; exact absurd h4 (Nat.not_lt_zero _)
  | succ g ih =>
    intro j f h1 h2 h3 h4 H locs ls hG hl
    refine lv_iload S.1 S.2.1 dX2_insertionSort_26 (lv_at hl 4 rfl) ?_
    refine lv_iload S.1 S.2.1 dX2_insertionSort_28 (lv_at hl 6 rfl) ?_
    refine sd_ge (tgt := 67) S.1 S.2.1 dX2_insertionSort_30 (by decide) rfl rfl (fun c1 => ?_) (fun c1 => ?_)
    · exact K (j + 1) f H locs ls (by omega) h2 h3 (fun q a1 a2 => Int.le_trans (h3.2.1 q j a1 (by omega) (by omega)) c1) hG (lv_sub hl [0, 1, 2, 3, 4, 5] rfl)
    · have h5 := h3.go h1 h2 hi1 c1
      refine lv_aload_n S.1 S.2.1 dX2_insertionSort_33 rfl (lv_at hl 0 rfl) ?_
      refine lv_iload S.1 S.2.1 dX2_insertionSort_34 (lv_at hl 5 rfl) ?_
      refine lv_iload S.1 S.2.1 dX2_insertionSort_36 (lv_at hl 6 rfl) ?_
      refine sd_iast S.1 S.2.1 hG 0 0 rfl rfl (by omega) (by omega) dX2_insertionSort_38 (fun H locs hG => ?_)
      have hG : sd_G D A H0 s [(d, .int)] [sd_ar h d n (upd f (j + 1) (f j))] H locs := hG
      refine lv_iload_n S.1 S.2.1 dX2_insertionSort_39 rfl (lv_at hl 1 rfl) ?_
      refine lv_iload S.1 S.2.1 dX2_insertionSort_40 (lv_at hl 5 rfl) ?_
      refine lv_iconst (v := nI 1) S.1 S.2.1 dX2_insertionSort_42 (by decide +kernel) ?_
      refine sd_isub S.1 S.2.1 (by omega) dX2_insertionSort_43 ?_
      refine sd_ne (tgt := 53) S.1 S.2.1 dX2_insertionSort_44 (by decide) (sd_nT (by omega)) (sd_nT (by omega)) (fun c2 => ?_) (fun c2 => ?_)
      · obtain ⟨j', rfl⟩ : ∃ j', j = j' + 1 := ⟨j - 1, by omega⟩
        refine lv_aload_n S.1 S.2.1 dX2_insertionSort_53 rfl (lv_at hl 0 rfl) ?_
        refine lv_iinc (v := nI (j' + 1)) (lv' := [(5, .int (nI (j' + 1))), (0, .ref h), (1, .int (nI lo)), (2, .int (nI hi)), (3, .int (nI i)), (4, .int t), (6, .int (f (j' + 1)))]) S.1 S.2.1 dX2_insertionSort_54 hl (k := 5) rfl (pk_m1 _) (by decide) rfl (fun ls hl => ?_)
        refine lv_iload S.1 S.2.1 dX2_insertionSort_57 (lv_at hl 0 rfl) ?_
        refine lv_iconst (v := nI 1) S.1 S.2.1 dX2_insertionSort_59 (by decide +kernel) ?_
        refine sd_isub S.1 S.2.1 (by omega) dX2_insertionSort_60 ?_
        refine sd_iald S.1 S.2.1 hG 0 0 rfl rfl (by omega) (by omega) dX2_insertionSort_61 ?_
        refine lv_istore (lv' := [(6, .int ((upd f (j' + 1 + 1) (f (j' + 1))) ((j' + 1) - 1))), (5, .int (nI (j' + 1))), (0, .ref h), (1, .int (nI lo)), (2, .int (nI hi)), (3, .int (nI i)), (4, .int t)]) S.1 S.2.1 dX2_insertionSort_62 hl (by decide) rfl (fun ls hl => ?_)
        refine lv_goto (tgt := 26) S.1 S.2.1 dX2_insertionSort_64 (by decide) ?_
        exact ih j' _ (by omega) (by omega) h5 (by omega) H locs ls hG (lv_sub hl [2, 3, 4, 5, 6, 1, 0] rfl)
      · refine lv_iinc (v := nI j) (lv' := [(5, .int (nI j)), (0, .ref h), (1, .int (nI lo)), (2, .int (nI hi)), (3, .int (nI i)), (4, .int t), (6, .int (f j))]) S.1 S.2.1 dX2_insertionSort_47 hl (k := 5) rfl (pk_m1 _) (by decide) rfl (fun ls hl => ?_)
        refine lv_goto (tgt := 67) S.1 S.2.1 dX2_insertionSort_50 (by decide) ?_
        exact K j _ H locs ls h1 (by omega) h5 (fun q a1 a2 => absurd a1 (by omega)) hG (lv_sub hl [1, 2, 3, 4, 5, 0] rfl)
set_option maxHeartbeats 4000000 in
set_option maxRecDepth 100000 in
theorem sd_ins_out {p : Program} {l : Launch} {e : Env} {R : Room} {s : State} {m : MethodId} {args : Array Value} {below : List Frame} {meth : Method} {c : Code} {Q : State → Prop} {cells slots : Nat} {D : va_G} {A : Nat → Prop} {H0 : Heap} {h n : Nat} {d : ClassId} {f0 : Nat → Int32} (lo hi : Nat) (hh : hi ≤ n) (hn : n < 2 ^ 30) (S : CallFix p m c cX2_insertionSort 7 s args lw_all RX2)
    (K : ∀ (f : Nat → Int32) (H : Heap) (locs : List Loc) (ls : Array Slot), sd_Srt f lo hi ∧ sd_Prm f f0 lo hi → sd_G D A H0 s [(d, .int)] [sd_ar h d n f] H locs → W p l e R s m args below meth c H locs cells slots Q (F0 m 76 ls [])) :
    ∀ (g i : Nat) (f : Nat → Int32), lo ≤ i → i ≤ hi → sd_Prm f f0 lo hi → sd_Srt f lo (i + 1) → hi - i < g → ∀ (H : Heap) (locs : List Loc) (ls : Array Slot), sd_G D A H0 s [(d, .int)] [sd_ar h d n f] H locs → lv_has ls 7 [(0, .ref h), (1, .int (nI lo)), (2, .int (nI hi)), (3, .int (nI i))] → W p l e R s m args below meth c H locs cells slots Q (F0 m 2 ls []) := by
  intro g
  induction g with
  | zero => intro i f h1 h2 h3 h4 h5; exact absurd h5 (Nat.not_lt_zero _)
  | succ g ih =>
    intro i f h1 h2 h3 h4 h5 H locs ls hG hl
    refine lv_iinc (v := nI (i + 1)) (lv' := [(3, .int (nI (i + 1))), (0, .ref h), (1, .int (nI lo)), (2, .int (nI hi))]) S.1 S.2.1 dX2_insertionSort_2 hl (k := 3) rfl (sd_i1 _) (by decide) rfl (fun ls hl => ?_)
    refine lv_iload_n S.1 S.2.1 dX2_insertionSort_5 rfl (lv_at hl 0 rfl) ?_
    refine lv_iload_n S.1 S.2.1 dX2_insertionSort_6 rfl (lv_at hl 3 rfl) ?_
    refine sd_ge (tgt := 76) S.1 S.2.1 dX2_insertionSort_7 (by decide) (sd_nT (by omega)) (sd_nT (by omega)) (fun c1 => ?_) (fun c1 => ?_)
    · exact K f H locs ls ⟨h4.sub (Nat.le_refl lo) (by omega), h3⟩ hG
    · refine lv_aload_n S.1 S.2.1 dX2_insertionSort_10 rfl (lv_at hl 1 rfl) ?_
      refine lv_iload_n S.1 S.2.1 dX2_insertionSort_11 rfl (lv_at hl 0 rfl) ?_
      refine sd_iald S.1 S.2.1 hG 0 0 rfl rfl (by omega) (by omega) dX2_insertionSort_12 ?_
      refine lv_istore (lv' := [(4, .int (f (i + 1))), (3, .int (nI (i + 1))), (0, .ref h), (1, .int (nI lo)), (2, .int (nI hi))]) S.1 S.2.1 dX2_insertionSort_13 hl (by decide) rfl (fun ls hl => ?_)
      refine lv_iload_n S.1 S.2.1 dX2_insertionSort_15 rfl (lv_at hl 1 rfl) ?_
      refine lv_istore (lv' := [(5, .int (nI (i + 1))), (4, .int (f (i + 1))), (3, .int (nI (i + 1))), (0, .ref h), (1, .int (nI lo)), (2, .int (nI hi))]) S.1 S.2.1 dX2_insertionSort_16 hl (by decide) rfl (fun ls hl => ?_)
      refine lv_aload_n S.1 S.2.1 dX2_insertionSort_18 rfl (lv_at hl 3 rfl) ?_
      refine lv_iload S.1 S.2.1 dX2_insertionSort_19 (lv_at hl 0 rfl) ?_
      refine lv_iconst (v := nI 1) S.1 S.2.1 dX2_insertionSort_21 (by decide +kernel) ?_
      refine sd_isub S.1 S.2.1 (by omega) dX2_insertionSort_22 ?_
      refine sd_iald S.1 S.2.1 hG 0 0 rfl rfl (by omega) (by omega) dX2_insertionSort_23 ?_
      refine lv_istore (lv' := [(6, .int (f ((i + 1) - 1))), (5, .int (nI (i + 1))), (4, .int (f (i + 1))), (3, .int (nI (i + 1))), (0, .ref h), (1, .int (nI lo)), (2, .int (nI hi))]) S.1 S.2.1 dX2_insertionSort_24 hl (by decide) rfl (fun ls hl => ?_)
      refine sd_ins_in lo hi hh hn S (t := f (i + 1)) (i + 1) (by omega) (fun j f9 H locs ls b1 b2 b3 b4 hG hl => ?_) (i + 1) i f h1 (by omega) (sd_Ins.st h3 h4) (by omega) H locs ls hG (lv_sub hl [4, 5, 6, 3, 2, 1, 0] rfl)
      refine lv_aload_n S.1 S.2.1 dX2_insertionSort_67 rfl (lv_at hl 0 rfl) ?_
      refine lv_iload S.1 S.2.1 dX2_insertionSort_68 (lv_at hl 5 rfl) ?_
      refine lv_iload S.1 S.2.1 dX2_insertionSort_70 (lv_at hl 4 rfl) ?_
      refine sd_iast S.1 S.2.1 hG 0 0 rfl rfl (by omega) (by omega) dX2_insertionSort_72 (fun H locs hG => ?_)
      have hG : sd_G D A H0 s [(d, .int)] [sd_ar h d n (upd f9 j (f (i + 1)))] H locs := hG
      refine lv_goto (tgt := 2) S.1 S.2.1 dX2_insertionSort_73 (by decide) ?_
      have h6 := b3.en b1 b2 b4
      exact ih (i + 1) _ (by omega) (by omega) h6.1 h6.2 (by omega) H locs ls hG (lv_sub hl [0, 1, 2, 3] rfl)
set_option maxHeartbeats 4000000 in
set_option maxRecDepth 100000 in
/-- IntArrays.insertionSort(a, lo, hi) -/
theorem sd_insertionSort (l : Launch) (D : va_G) (h : Nat) (d : ClassId) (n : Nat) (f : Nat → Int32) (lo hi : Nat) (h1 : lo ≤ hi) (hh : hi ≤ n) (hn : n < 2 ^ 30) : sd_Mv l yX2_insertionSort cX2_insertionSort 7 0 0 D h d n f [.ref h, .int (nI lo), .int (nI hi)] (fun f' => sd_Srt f' lo hi ∧ sd_Prm f' f lo hi) := by
  refine sd_Mv.of (by decide) (Nat.le_of_ble_eq_true rfl) ?_
  intro p e s m below meth c A ls Q S hA hG hl ret
  have hl : lv_has ls 7 [(0, .ref h), (1, .int (nI lo)), (2, .int (nI hi))] := hl
  refine lv_iload_n S.1 S.2.1 dX2_insertionSort_0 rfl (lv_at hl 1 rfl) ?_
  refine lv_istore_n (lv' := [(3, .int (nI lo)), (0, .ref h), (1, .int (nI lo)), (2, .int (nI hi))]) S.1 S.2.1 dX2_insertionSort_1 rfl hl (by decide) rfl (fun ls hl => ?_)
  exact sd_ins_out lo hi hh hn S (fun f H locs ls hp hG => ret _ _ _ _ _ dX2_insertionSort_76 hG hp) (hi + 1) lo f (Nat.le_refl lo) h1 sd_Prm.rf (sd_Srt.nil (Nat.le_refl _)) (by omega) _ _ _ hG (lv_sub hl [1, 2, 3, 0] rfl)
end
section
/-! PURE: quicksort's partition (c, d: one behind), block exchange -/
section SdQs
variable {f f0 : Nat → Int32} {lo hi a b c d k i : Nat} {v : Int32}
/-- [lo,a) = v, [a,b) < v, [c,d) > v, [d,hi) = v -/
def sd_Qs (f0 f : Nat → Int32) (v : Int32) (lo a b c d hi : Nat) : Prop := (lo ≤ a ∧ a ≤ b ∧ b ≤ c ∧ c ≤ d ∧ d ≤ hi) ∧ sd_Prm f f0 lo hi ∧ (∀ i, lo ≤ i → i < a → (f i).toInt = v.toInt) ∧ (∀ i, a ≤ i → i < b → (f i).toInt < v.toInt) ∧ (∀ i, c ≤ i → i < d → v.toInt < (f i).toInt) ∧ ∀ i, d ≤ i → i < hi → (f i).toInt = v.toInt
theorem sd_Qs.st (h : lo ≤ hi) : sd_Qs f f v lo lo lo hi hi hi := ⟨by omega, sd_Prm.rf, fun i a b => absurd b (by omega), fun i a b => absurd b (by omega), fun i a b => absurd b (by omega), fun i a b => absurd b (by omega)⟩
theorem sd_Qs.bLt (h : sd_Qs f0 f v lo a b c d hi) (h1 : b < c) (hv : (f b).toInt < v.toInt) : sd_Qs f0 f v lo a (b + 1) c d hi := by
  obtain ⟨o, hp, e1, e2, e3, e4⟩ := h
  refine ⟨by omega, hp, e1, fun i q1 q2 => ?_, e3, e4⟩
  by_cases e : i = b
  · subst e; exact hv
  · exact e2 i q1 (by omega)
theorem sd_Qs.bEq (h : sd_Qs f0 f v lo a b c d hi) (h1 : b < c) (hv : (f b).toInt = v.toInt) : sd_Qs f0 (sd_swp f a b) v lo (a + 1) (b + 1) c d hi := by
  obtain ⟨o, hp, e1, e2, e3, e4⟩ := h
  refine ⟨by omega, (sd_Prm.sw (by omega) (by omega) (by omega) (by omega)).tr hp, fun i q1 q2 => ?_, fun i q1 q2 => ?_, fun i q1 q2 => ?_, fun i q1 q2 => ?_⟩
  · by_cases e : i = a
    · subst e; rw [sd_swp_a]; exact hv
    · rw [sd_swp_o e (by omega)]; exact e1 i q1 (by omega)
  · by_cases e : i = b
    · subst e; rw [sd_swp_b]; exact e2 a (by omega) (by omega)
    · rw [sd_swp_o (by omega) e]; exact e2 i (by omega) (by omega)
  · rw [sd_swp_o (by omega) (by omega)]; exact e3 i q1 q2
  · rw [sd_swp_o (by omega) (by omega)]; exact e4 i q1 q2
theorem sd_Qs.cGt (h : sd_Qs f0 f v lo a b c d hi) (h1 : b < c) (hv : v.toInt < (f (c - 1)).toInt) : sd_Qs f0 f v lo a b (c - 1) d hi := by
  obtain ⟨o, hp, e1, e2, e3, e4⟩ := h
  refine ⟨by omega, hp, e1, e2, fun i q1 q2 => ?_, e4⟩
  by_cases e : i = c - 1
  · subst e; exact hv
  · exact e3 i (by omega) q2
theorem sd_Qs.cEq (h : sd_Qs f0 f v lo a b c d hi) (h1 : b < c) (hv : (f (c - 1)).toInt = v.toInt) : sd_Qs f0 (sd_swp f (c - 1) (d - 1)) v lo a b (c - 1) (d - 1) hi := by
  obtain ⟨o, hp, e1, e2, e3, e4⟩ := h
  refine ⟨by omega, (sd_Prm.sw (by omega) (by omega) (by omega) (by omega)).tr hp, fun i q1 q2 => ?_, fun i q1 q2 => ?_, fun i q1 q2 => ?_, fun i q1 q2 => ?_⟩
  · rw [sd_swp_o (by omega) (by omega)]; exact e1 i q1 q2
  · rw [sd_swp_o (by omega) (by omega)]; exact e2 i q1 q2
  · by_cases e : i = c - 1
    · subst e; rw [sd_swp_a]; exact e3 (d - 1) (by omega) (by omega)
    · rw [sd_swp_o e (by omega)]; exact e3 i (by omega) (by omega)
  · by_cases e : i = d - 1
    · subst e; rw [sd_swp_b]; exact hv
    · rw [sd_swp_o (by omega) e]; exact e4 i (by omega) q2
theorem sd_Qs.sw (h : sd_Qs f0 f v lo a b c d hi) (h1 : b + 1 < c) (hb : v.toInt < (f b).toInt) (hc : (f (c - 1)).toInt < v.toInt) : sd_Qs f0 (sd_swp f b (c - 1)) v lo a (b + 1) (c - 1) d hi := by
  obtain ⟨o, hp, e1, e2, e3, e4⟩ := h
  refine ⟨by omega, (sd_Prm.sw (by omega) (by omega) (by omega) (by omega)).tr hp, fun i q1 q2 => ?_, fun i q1 q2 => ?_, fun i q1 q2 => ?_, fun i q1 q2 => ?_⟩
  · rw [sd_swp_o (by omega) (by omega)]; exact e1 i q1 q2
  · by_cases e : i = b
    · subst e; rw [sd_swp_a]; exact hc
    · rw [sd_swp_o e (by omega)]; exact e2 i q1 (by omega)
  · by_cases e : i = c - 1
    · subst e; rw [sd_swp_b]; exact hb
    · rw [sd_swp_o (by omega) e]; exact e3 i (by omega) q2
  · rw [sd_swp_o (by omega) (by omega)]; exact e4 i q1 q2
theorem sd_bsw_at (h : a + k ≤ b) : (∀ i, i < k → sd_bsw f a b k (a + i) = f (b + i)) ∧ (∀ i, i < k → sd_bsw f a b k (b + i) = f (a + i)) ∧ ∀ i, (i < a ∨ a + k ≤ i) → (i < b ∨ b + k ≤ i) → sd_bsw f a b k i = f i := by
  induction k with
  | zero => exact ⟨fun i q => absurd q (Nat.not_lt_zero _), fun i q => absurd q (Nat.not_lt_zero _), fun i _ _ => rfl⟩
  | succ k ih =>
    obtain ⟨h1, h2, h3⟩ := ih (by omega)
    refine ⟨fun i q => ?_, fun i q => ?_, fun i q1 q2 => ?_⟩
    · show sd_swp (sd_bsw f a b k) (a + k) (b + k) (a + i) = _
      by_cases e : i = k
      · subst e; rw [sd_swp_a]; exact h3 _ (Or.inr (by omega)) (Or.inr (by omega))
      · rw [sd_swp_o (by omega) (by omega)]; exact h1 i (by omega)
    · show sd_swp (sd_bsw f a b k) (a + k) (b + k) (b + i) = _
      by_cases e : i = k
      · subst e; rw [sd_swp_b]; exact h3 _ (Or.inr (by omega)) (Or.inl (by omega))
      · rw [sd_swp_o (by omega) (by omega)]; exact h2 i (by omega)
    · show sd_swp (sd_bsw f a b k) (a + k) (b + k) i = _
      rw [sd_swp_o (by omega) (by omega)]
      exact h3 i (by omega) (by omega)
theorem sd_bsw_prm (h1 : lo ≤ a) (h2 : a + k ≤ hi) (h3 : lo ≤ b) (h4 : b + k ≤ hi) : sd_Prm (sd_bsw f a b k) f lo hi := by
  induction k with
  | zero => exact sd_Prm.rf
  | succ k ih => exact (sd_Prm.sw (by omega) (by omega) (by omega) (by omega)).tr (ih (by omega) (by omega))
/-- the lesser block is brought ahead: [lo,a) with q, [a,b) with p, k the lesser length -/
theorem sd_bsw_rot {p q : Int32 → Prop} (h1 : lo ≤ a) (h2 : a ≤ b) (hk : k = min (a - lo) (b - a)) (hq : ∀ i, lo ≤ i → i < a → q (f i)) (hp : ∀ i, a ≤ i → i < b → p (f i)) :
    (∀ i, lo ≤ i → i < lo + (b - a) → p (sd_bsw f lo (b - k) k i)) ∧ (∀ i, lo + (b - a) ≤ i → i < b → q (sd_bsw f lo (b - k) k i)) ∧ ∀ i, (i < lo ∨ b ≤ i) → sd_bsw f lo (b - k) k i = f i := by
  have k1 : k ≤ a - lo := by omega
  have k2 : k ≤ b - a := by omega
  have k3 : k = a - lo ∨ k = b - a := by omega
  obtain ⟨e1, e2, e3⟩ := sd_bsw_at (f := f) (a := lo) (b := b - k) (k := k) (by omega)
  refine ⟨fun i q1 q2 => ?_, fun i q1 q2 => ?_, fun i q1 => e3 i (by omega) (by omega)⟩
  · by_cases c1 : i < lo + k
    · have := e1 (i - lo) (by omega)
      rw [show lo + (i - lo) = i by omega] at this
      rw [this]
      exact hp _ (by omega) (by omega)
    · rw [e3 i (by omega) (by omega)]
      exact hp i (by omega) (by omega)
  · by_cases c1 : b - k ≤ i
    · have := e2 (i - (b - k)) (by omega)
      rw [show b - k + (i - (b - k)) = i by omega] at this
      rw [this]
      exact hq _ (by omega) (by omega)
    · rw [e3 i (by omega) (by omega)]
      exact hq i (by omega) (by omega)
/-- three parts: [lo,p) < v, [p,q) = v, [q,hi) > v -/
def sd_Pt (f : Nat → Int32) (v : Int32) (lo p q hi : Nat) : Prop := (∀ i, lo ≤ i → i < p → (f i).toInt < v.toInt) ∧ (∀ i, p ≤ i → i < q → (f i).toInt = v.toInt) ∧ ∀ i, q ≤ i → i < hi → v.toInt < (f i).toInt
/-- the two exchanges behind the partition -/
theorem sd_Qs.en {k1 k2 : Nat} (h : sd_Qs f0 f v lo a b b d hi) (e1 : k1 = min (a - lo) (b - a)) (e2 : k2 = min (d - b) (hi - d)) :
    sd_Prm (sd_bsw (sd_bsw f lo (b - k1) k1) b (hi - k2) k2) f0 lo hi ∧ sd_Pt (sd_bsw (sd_bsw f lo (b - k1) k1) b (hi - k2) k2) v lo (lo + (b - a)) (hi - (d - b)) hi := by
  obtain ⟨o, hp, q1, q2, q3, q4⟩ := h
  obtain ⟨r1, r2, r3⟩ := sd_bsw_rot (f := f) (p := fun x => x.toInt < v.toInt) (q := fun x => x.toInt = v.toInt) (lo := lo) (a := a) (b := b) (by omega) (by omega) e1 q1 q2
  obtain ⟨t1, t2, t3⟩ := sd_bsw_rot (f := sd_bsw f lo (b - k1) k1) (p := fun x => x.toInt = v.toInt) (q := fun x => v.toInt < x.toInt) (lo := b) (a := d) (b := hi) (by omega) (by omega) e2 (fun i a1 a2 => by rw [r3 i (by omega)]; exact q3 i a1 a2) (fun i a1 a2 => by rw [r3 i (by omega)]; exact q4 i a1 a2)
  refine ⟨(sd_bsw_prm (by omega) (by omega) (by omega) (by omega)).tr ((sd_bsw_prm (by omega) (by omega) (by omega) (by omega)).tr hp), fun i a1 a2 => ?_, fun i a1 a2 => ?_, fun i a1 a2 => ?_⟩
  · rw [t3 i (by omega)]; exact r1 i a1 a2
  · by_cases c1 : i < b
    · rw [t3 i (by omega)]; exact r2 i a1 c1
    · exact t1 i (by omega) (by omega)
  · exact t2 i (by omega) a2
/-- a value that is there: one of the outer blocks isn't empty -/
theorem sd_Qs.lt {j : Nat} (h : sd_Qs f0 f v lo a b b d hi) (h1 : lo ≤ j) (h2 : j < hi) (hv : f0 j = v) : b - a < hi - lo ∧ d - b < hi - lo := by
  obtain ⟨o, hp, q1, q2, q3, q4⟩ := h
  by_cases c1 : lo < a ∨ d < hi
  · omega
  · exfalso
    have hn : ∀ i, lo ≤ i → i < hi → (f i).toInt ≠ v.toInt := fun i a1 a2 => by
      by_cases c2 : i < b
      · have := q2 i (by omega) c2; omega
      · have := q3 i (by omega) (by omega); omega
    have hp' : sd_Prm f0 f lo hi := ⟨fun i e => (hp.1 i e).symm, fun P => (hp.2 P).symm⟩
    exact hp'.all (p := fun x => x.toInt ≠ v.toInt) hn j h1 h2 (by rw [hv])
theorem sd_Pt.kp {g : Nat → Int32} {p q x y : Nat} (h : sd_Pt f v lo p q hi) (hg : sd_Prm g f x y) (hx : (lo ≤ x ∧ y ≤ p) ∨ (q ≤ x ∧ y ≤ hi)) (h1 : lo ≤ p) (h2 : p ≤ q) (h3 : q ≤ hi) : sd_Pt g v lo p q hi := by
  refine ⟨fun i a1 a2 => ?_, fun i a1 a2 => ?_, fun i a1 a2 => ?_⟩
  · by_cases c1 : x ≤ i ∧ i < y
    · rcases hx with hx | hx
      · exact hg.all (p := fun z => z.toInt < v.toInt) (fun j b1 b2 => h.1 j (by omega) (by omega)) i c1.1 c1.2
      · omega
    · rw [hg.1 i (by omega)]; exact h.1 i a1 a2
  · rw [hg.1 i (by omega)]; exact h.2.1 i a1 a2
  · by_cases c1 : x ≤ i ∧ i < y
    · rcases hx with hx | hx
      · omega
      · exact hg.all (p := fun z => v.toInt < z.toInt) (fun j b1 b2 => h.2.2 j (by omega) (by omega)) i c1.1 c1.2
    · rw [hg.1 i (by omega)]; exact h.2.2 i a1 a2
theorem sd_Pt.srt {p q : Nat} (h : sd_Pt f v lo p q hi) (h1 : lo ≤ p) (h2 : p ≤ q) (h3 : q ≤ hi) (s1 : sd_Srt f lo p) (s2 : sd_Srt f q hi) : sd_Srt f lo hi := by
  have s0 : sd_Srt f p q := fun i j a1 a2 a3 => by rw [h.2.1 i a1 (by omega), h.2.1 j (by omega) a3]; exact Int.le_refl _
  have s3 : sd_Srt f p hi := s0.app s2 (fun i j a1 a2 a3 a4 => by have := h.2.1 i a1 a2; have := h.2.2 j a3 a4; omega)
  exact s1.app s3 (fun i j a1 a2 a3 a4 => by
    have := h.1 i a1 a2
    by_cases c1 : j < q
    · have := h.2.1 j a3 c1; omega
    · have := h.2.2 j (by omega) a4; omega)
end SdQs
end
section
theorem sd_msub {x y : Nat} (h : y ≤ x) : sd_m x - sd_m y = nI (x - y) := by
  rw [← pk_sub h]
  unfold sd_m
  grind
theorem sd_nmsub {x y : Nat} (h : y ≤ x) : nI x - sd_m y = nI (x - y + 1) := by
  rw [← nI_1, ← pk_sub h]
  unfold sd_m
  grind
set_option maxHeartbeats 4000000 in
set_option maxRecDepth 100000 in
/-- Math.min(x, y) of two numbers -/
theorem sd_mmin {p : Program} {l : Launch} {e : Env} {R : Room} {s : State} {m : MethodId} {args : Array Value} {below : List Frame} {meth : Method} {c : Code} {Q : State → Prop} {cells slots : Nat} {H : Heap} {locs : List Loc} {cc : ByteArray} {pc nL index : Nat} {ls : Array Slot} {rest : List Value} {own : String} {x y : Nat} (hx : x < 2 ^ 31) (hy : y < 2 ^ 31) (S : CallFix p m c cc nL s args lw_all own) (hls : ls.size = nL) (hq : Cond.methodLink own index yJ1_min ∈ lw_all) (hR : 1 ≤ R.frames ∧ (rest.map fun v => v.category).sum + 13 ≤ R.locals) (hC : cells ≤ R.cells ∧ slots ≤ R.slots) (hdg : decode cc pc = .ok (.invokestatic index, 3))
    (kk : W p l e R s m args below meth c H locs cells slots Q (F0 m (pc + 3) ls (.int (nI (min x y)) :: rest))) : W p l e R s m args below meth c H locs cells slots Q (F0 m pc ls (.int (nI y) :: .int (nI x) :: rest)) := by
  refine va_mmin S.1 S.2.1 (by rw [S.2.2.1, hls]) S.2.2.2.1 (S.2.2.2.2 _ hq) (S.2.2.2.2 _ q76) (S.2.2.2.2 _ q8) (S.2.2.2.2 _ q77) hR.1 hR.2 hC.1 hC.2 hdg ?_
  refine sd_top (y := nI (min x y)) ?_ kk
  by_cases e : y < x
  · rw [if_pos (nI_lt e hx), Nat.min_eq_right (by omega)]
  · rw [if_neg (nI_nlt (by omega) hy), Nat.min_eq_left (by omega)]
set_option maxHeartbeats 4000000 in
set_option maxRecDepth 100000 in
theorem sd_qs_part {p : Program} {l : Launch} {e : Env} {R : Room} {s : State} {m : MethodId} {args : Array Value} {below : List Frame} {meth : Method} {c : Code} {Q : State → Prop} {cells slots : Nat} {D : va_G} {A : Nat → Prop} {H0 : Heap} {h n : Nat} {d : ClassId} {f0 : Nat → Int32} (lo hi : Nat) (hh : hi ≤ n) (hn : n < 2 ^ 30) (hC : cells ≤ R.cells ∧ slots ≤ R.slots) (S : CallFix p m c cX2_quickSort 13 s args lw_all RX2) (hA : ∀ q : Nat, H0.size ≤ q → A q) {v : Int32} (hR : 1 ≤ R.frames ∧ 47 ≤ R.locals)
    (K : ∀ (f : Nat → Int32) (a b dx : Nat) (H : Heap) (locs : List Loc) (ls : Array Slot), sd_Qs f0 f v lo a b b dx hi → sd_G D A H0 s [(d, .int)] [sd_ar h d n f] H locs → lv_has ls 13 [(0, .ref h), (1, .int (nI lo)), (2, .int (nI hi)), (7, .int v), (8, .int (nI a)), (9, .int (nI b)), (10, .int (sd_m b)), (11, .int (sd_m dx))] → W p l e R s m args below meth c H locs cells slots Q (F0 m 252 ls [])) :
    ∀ g : Nat, (∀ (f : Nat → Int32) (a b cx dx : Nat) (H : Heap) (locs : List Loc) (ls : Array Slot), sd_Qs f0 f v lo a b cx dx hi → (b < cx → v.toInt < (f b).toInt) → cx - b < g → sd_G D A H0 s [(d, .int)] [sd_ar h d n f] H locs → lv_has ls 13 [(0, .ref h), (1, .int (nI lo)), (2, .int (nI hi)), (7, .int v), (8, .int (nI a)), (9, .int (nI b)), (10, .int (sd_m cx)), (11, .int (sd_m dx))] → W p l e R s m args below meth c H locs cells slots Q (F0 m 181 ls [])) ∧
      (∀ (f : Nat → Int32) (a b cx dx : Nat) (H : Heap) (locs : List Loc) (ls : Array Slot), sd_Qs f0 f v lo a b cx dx hi → cx - b < g → sd_G D A H0 s [(d, .int)] [sd_ar h d n f] H locs → lv_has ls 13 [(0, .ref h), (1, .int (nI lo)), (2, .int (nI hi)), (7, .int v), (8, .int (nI a)), (9, .int (nI b)), (10, .int (sd_m cx)), (11, .int (sd_m dx))] → W p l e R s m args below meth c H locs cells slots Q (F0 m 137 ls [])) := by
  intro g
  induction g with
  | zero => exact ⟨fun f a b cx dx H locs ls h1 h2 h3 => absurd h3 (Nat.not_lt_zero _), fun f a b cx dx H locs ls h1 h3 => absurd h3 (Nat.not_lt_zero _)⟩
  | succ g ih =>
    obtain ⟨ihB, ihA⟩ := ih
    have HB : ∀ (f : Nat → Int32) (a b cx dx : Nat) (H : Heap) (locs : List Loc) (ls : Array Slot), sd_Qs f0 f v lo a b cx dx hi → (b < cx → v.toInt < (f b).toInt) → cx - b < g + 1 → sd_G D A H0 s [(d, .int)] [sd_ar h d n f] H locs → lv_has ls 13 [(0, .ref h), (1, .int (nI lo)), (2, .int (nI hi)), (7, .int v), (8, .int (nI a)), (9, .int (nI b)), (10, .int (sd_m cx)), (11, .int (sd_m dx))] → W p l e R s m args below meth c H locs cells slots Q (F0 m 181 ls []) := by
      intro f a b cx dx H locs ls h1 h2 h3 hG hl
      have ho := h1.1
      refine lv_iload S.1 S.2.1 dX2_quickSort_181 (lv_at hl 6 rfl) ?_
      refine lv_iload S.1 S.2.1 dX2_quickSort_183 (lv_at hl 5 rfl) ?_
      refine sd_lt (tgt := 225) S.1 S.2.1 dX2_quickSort_185 (by decide) (sd_mT (by omega)) (sd_nT (by omega)) (fun c1 => ?_) (fun c1 => ?_)
      · refine lv_iload S.1 S.2.1 dX2_quickSort_225 (lv_at hl 5 rfl) ?_
        refine lv_iload S.1 S.2.1 dX2_quickSort_227 (lv_at hl 6 rfl) ?_
        refine sd_le (tgt := 235) S.1 S.2.1 dX2_quickSort_229 (by decide) (sd_nT (by omega)) (sd_mT (by omega)) (fun c9 => ?_) (fun c9 => ?_)
        · exact absurd c9 (by omega)
        · refine lv_goto (tgt := 252) S.1 S.2.1 dX2_quickSort_232 (by decide) ?_
          have e : cx = b := by omega
          subst e
          exact K f a cx dx H locs ls h1 hG (lv_sub hl [0, 1, 2, 3, 4, 5, 6, 7] rfl)
      · refine lv_aload_n S.1 S.2.1 dX2_quickSort_188 rfl (lv_at hl 0 rfl) ?_
        refine lv_iload S.1 S.2.1 dX2_quickSort_189 (lv_at hl 6 rfl) ?_
        refine sd_top (sd_mP (by omega)) ?_
        refine sd_iald S.1 S.2.1 hG 0 0 rfl rfl (by omega) (by omega) dX2_quickSort_191 ?_
        refine lv_iload S.1 S.2.1 dX2_quickSort_192 (lv_at hl 3 rfl) ?_
        refine sd_call0 (nn := 2) (rest := []) S (sd_compare l (f (cx - 1)) v) (lw_S q69 q70 q7 q71) (by decide +kernel) rfl ⟨by omega, by omega⟩ hC hG hA hl.1 rfl (Nat.le_of_ble_eq_true rfl) dX2_quickSort_194 (fun r H locs er hG => ?_)
        have hG : sd_G D A H0 s [(d, .int)] [sd_ar h d n f] H locs := hG
        refine lv_dup S.1 S.2.1 dX2_quickSort_197 rfl ?_
        refine lv_istore (lv' := [(12, .int r), (0, .ref h), (1, .int (nI lo)), (2, .int (nI hi)), (7, .int v), (8, .int (nI a)), (9, .int (nI b)), (10, .int (sd_m cx)), (11, .int (sd_m dx))]) S.1 S.2.1 dX2_quickSort_198 hl (by decide) rfl (fun ls hl => ?_)
        refine sd_zlt (tgt := 225) S.1 S.2.1 dX2_quickSort_200 (by decide) rfl (fun c3 => ?_) (fun c3 => ?_)
        · have hcv : (f (cx - 1)).toInt < v.toInt := by rcases er with q | q | q <;> omega
          have hbc : b + 1 < cx := by
            rcases Nat.lt_or_ge (b + 1) cx with q | q
            · exact q
            · have hb := h2 (by omega)
              rw [show cx - 1 = b by omega] at hcv
              omega
          refine lv_iload S.1 S.2.1 dX2_quickSort_225 (lv_at hl 6 rfl) ?_
          refine lv_iload S.1 S.2.1 dX2_quickSort_227 (lv_at hl 7 rfl) ?_
          refine sd_le (tgt := 235) S.1 S.2.1 dX2_quickSort_229 (by decide) (sd_nT (by omega)) (sd_mT (by omega)) (fun c9 => ?_) (fun c9 => ?_)
          · refine lv_aload_n S.1 S.2.1 dX2_quickSort_235 rfl (lv_at hl 1 rfl) ?_
            refine lv_iload S.1 S.2.1 dX2_quickSort_236 (lv_at hl 6 rfl) ?_
            refine lv_iinc (v := nI (b + 1)) (lv' := [(9, .int (nI (b + 1))), (12, .int r), (0, .ref h), (1, .int (nI lo)), (2, .int (nI hi)), (7, .int v), (8, .int (nI a)), (10, .int (sd_m cx)), (11, .int (sd_m dx))]) S.1 S.2.1 dX2_quickSort_238 hl (k := 6) rfl (sd_i1 _) (by decide) rfl (fun ls hl => ?_)
            refine lv_iload S.1 S.2.1 dX2_quickSort_241 (lv_at hl 7 rfl) ?_
            refine lv_iinc (v := sd_m (cx - 1)) (lv' := [(10, .int (sd_m (cx - 1))), (9, .int (nI (b + 1))), (12, .int r), (0, .ref h), (1, .int (nI lo)), (2, .int (nI hi)), (7, .int v), (8, .int (nI a)), (11, .int (sd_m dx))]) S.1 S.2.1 dX2_quickSort_243 hl (k := 7) rfl (sd_mm (by omega)) (by decide) rfl (fun ls hl => ?_)
            rw [sd_mP (k := cx) (by omega)]
            refine sd_callv (nn := 3) (rest := []) S (sd_swap l D h d n f b (cx - 1) (by omega) (by omega) hn) (lw_S q72 q73 q6 q74) (by decide +kernel) rfl ⟨by omega, by omega⟩ hC hG hA 0 0 rfl rfl hl.1 rfl (Nat.le_of_ble_eq_true rfl) dX2_quickSort_246 (fun f' H locs ef' hG => ?_)
            have hG : sd_G D A H0 s [(d, .int)] [sd_ar h d n f'] H locs := hG
            subst ef'
            have hG : sd_G D A H0 s [(d, .int)] [sd_ar h d n (sd_swp f b (cx - 1))] H locs := hG
            refine lv_goto (tgt := 137) S.1 S.2.1 dX2_quickSort_249 (by decide) ?_
            exact ihA _ a (b + 1) (cx - 1) dx H locs ls (h1.sw hbc (h2 (by omega)) hcv) (by omega) hG (lv_sub hl [3, 4, 5, 6, 7, 1, 0, 8] rfl)
          · exact absurd c9 (by omega)
        · refine lv_iload S.1 S.2.1 dX2_quickSort_203 (lv_at hl 0 rfl) ?_
          refine sd_zne (tgt := 219) S.1 S.2.1 dX2_quickSort_205 (by decide) rfl (fun c4 => ?_) (fun c4 => ?_)
          · have hcv : v.toInt < (f (cx - 1)).toInt := by rcases er with q | q | q <;> omega
            refine lv_iinc (v := sd_m (cx - 1)) (lv' := [(10, .int (sd_m (cx - 1))), (12, .int r), (0, .ref h), (1, .int (nI lo)), (2, .int (nI hi)), (7, .int v), (8, .int (nI a)), (9, .int (nI b)), (11, .int (sd_m dx))]) S.1 S.2.1 dX2_quickSort_219 hl (k := 7) rfl (sd_mm (by omega)) (by decide) rfl (fun ls hl => ?_)
            refine lv_goto (tgt := 181) S.1 S.2.1 dX2_quickSort_222 (by decide) ?_
            exact ihB f a b (cx - 1) dx H locs ls (h1.cGt (by omega) hcv) (fun q => h2 (by omega)) (by omega) hG (lv_sub hl [2, 3, 4, 5, 6, 7, 0, 8] rfl)
          · have hcv : (f (cx - 1)).toInt = v.toInt := by rcases er with q | q | q <;> omega
            have hbc : b ≠ cx - 1 := fun q => by
              have hb := h2 (by omega)
              rw [← q] at hcv
              omega
            refine lv_aload_n S.1 S.2.1 dX2_quickSort_208 rfl (lv_at hl 1 rfl) ?_
            refine lv_iload S.1 S.2.1 dX2_quickSort_209 (lv_at hl 7 rfl) ?_
            refine lv_iload S.1 S.2.1 dX2_quickSort_211 (lv_at hl 8 rfl) ?_
            refine lv_iinc (v := sd_m (dx - 1)) (lv' := [(11, .int (sd_m (dx - 1))), (12, .int r), (0, .ref h), (1, .int (nI lo)), (2, .int (nI hi)), (7, .int v), (8, .int (nI a)), (9, .int (nI b)), (10, .int (sd_m cx))]) S.1 S.2.1 dX2_quickSort_213 hl (k := 8) rfl (sd_mm (by omega)) (by decide) rfl (fun ls hl => ?_)
            rw [sd_mP (k := cx) (by omega)]
            rw [sd_mP (k := dx) (by omega)]
            refine sd_callv (nn := 3) (rest := []) S (sd_swap l D h d n f (cx - 1) (dx - 1) (by omega) (by omega) hn) (lw_S q72 q73 q6 q74) (by decide +kernel) rfl ⟨by omega, by omega⟩ hC hG hA 0 0 rfl rfl hl.1 rfl (Nat.le_of_ble_eq_true rfl) dX2_quickSort_216 (fun f' H locs ef' hG => ?_)
            have hG : sd_G D A H0 s [(d, .int)] [sd_ar h d n f'] H locs := hG
            subst ef'
            have hG : sd_G D A H0 s [(d, .int)] [sd_ar h d n (sd_swp f (cx - 1) (dx - 1))] H locs := hG
            refine lv_iinc (v := sd_m (cx - 1)) (lv' := [(10, .int (sd_m (cx - 1))), (11, .int (sd_m (dx - 1))), (12, .int r), (0, .ref h), (1, .int (nI lo)), (2, .int (nI hi)), (7, .int v), (8, .int (nI a)), (9, .int (nI b))]) S.1 S.2.1 dX2_quickSort_219 hl (k := 8) rfl (sd_mm (by omega)) (by decide) rfl (fun ls hl => ?_)
            refine lv_goto (tgt := 181) S.1 S.2.1 dX2_quickSort_222 (by decide) ?_
            exact ihB _ a b (cx - 1) (dx - 1) H locs ls (h1.cEq (by omega) hcv) (fun q => by rw [sd_swp_o hbc (by omega)]; exact h2 (by omega)) (by omega) hG (lv_sub hl [3, 4, 5, 6, 7, 8, 0, 1] rfl)
    refine ⟨HB, ?_⟩
    intro f a b cx dx H locs ls h1 h3 hG hl
    have ho := h1.1
    refine lv_iload S.1 S.2.1 dX2_quickSort_137 (lv_at hl 5 rfl) ?_
    refine lv_iload S.1 S.2.1 dX2_quickSort_139 (lv_at hl 6 rfl) ?_
    refine sd_gt (tgt := 181) S.1 S.2.1 dX2_quickSort_141 (by decide) (sd_nT (by omega)) (sd_mT (by omega)) (fun c1 => ?_) (fun c1 => ?_)
    · exact HB f a b cx dx H locs ls h1 (fun q => absurd q (by omega)) h3 hG (lv_sub hl [0, 1, 2, 3, 4, 5, 6, 7] rfl)
    · refine lv_aload_n S.1 S.2.1 dX2_quickSort_144 rfl (lv_at hl 0 rfl) ?_
      refine lv_iload S.1 S.2.1 dX2_quickSort_145 (lv_at hl 5 rfl) ?_
      refine sd_iald S.1 S.2.1 hG 0 0 rfl rfl (by omega) (by omega) dX2_quickSort_147 ?_
      refine lv_iload S.1 S.2.1 dX2_quickSort_148 (lv_at hl 3 rfl) ?_
      refine sd_call0 (nn := 2) (rest := []) S (sd_compare l (f b) v) (lw_S q69 q70 q7 q71) (by decide +kernel) rfl ⟨by omega, by omega⟩ hC hG hA hl.1 rfl (Nat.le_of_ble_eq_true rfl) dX2_quickSort_150 (fun r H locs er hG => ?_)
      have hG : sd_G D A H0 s [(d, .int)] [sd_ar h d n f] H locs := hG
      refine lv_dup S.1 S.2.1 dX2_quickSort_153 rfl ?_
      refine lv_istore (lv' := [(12, .int r), (0, .ref h), (1, .int (nI lo)), (2, .int (nI hi)), (7, .int v), (8, .int (nI a)), (9, .int (nI b)), (10, .int (sd_m cx)), (11, .int (sd_m dx))]) S.1 S.2.1 dX2_quickSort_154 hl (by decide) rfl (fun ls hl => ?_)
      refine sd_zgt (tgt := 181) S.1 S.2.1 dX2_quickSort_156 (by decide) rfl (fun c3 => ?_) (fun c3 => ?_)
      · exact HB f a b cx dx H locs ls h1 (fun _ => by rcases er with q | q | q <;> omega) h3 hG (lv_sub hl [1, 2, 3, 4, 5, 6, 7, 8] rfl)
      · refine lv_iload S.1 S.2.1 dX2_quickSort_159 (lv_at hl 0 rfl) ?_
        refine sd_zne (tgt := 175) S.1 S.2.1 dX2_quickSort_161 (by decide) rfl (fun c4 => ?_) (fun c4 => ?_)
        · have hbv : (f b).toInt < v.toInt := by rcases er with q | q | q <;> omega
          refine lv_iinc (v := nI (b + 1)) (lv' := [(9, .int (nI (b + 1))), (12, .int r), (0, .ref h), (1, .int (nI lo)), (2, .int (nI hi)), (7, .int v), (8, .int (nI a)), (10, .int (sd_m cx)), (11, .int (sd_m dx))]) S.1 S.2.1 dX2_quickSort_175 hl (k := 6) rfl (sd_i1 _) (by decide) rfl (fun ls hl => ?_)
          refine lv_goto (tgt := 137) S.1 S.2.1 dX2_quickSort_178 (by decide) ?_
          exact ihA f a (b + 1) cx dx H locs ls (h1.bLt (by omega) hbv) (by omega) hG (lv_sub hl [2, 3, 4, 5, 6, 0, 7, 8] rfl)
        · have hbv : (f b).toInt = v.toInt := by rcases er with q | q | q <;> omega
          refine lv_aload_n S.1 S.2.1 dX2_quickSort_164 rfl (lv_at hl 1 rfl) ?_
          refine lv_iload S.1 S.2.1 dX2_quickSort_165 (lv_at hl 5 rfl) ?_
          refine lv_iinc (v := nI (a + 1)) (lv' := [(8, .int (nI (a + 1))), (12, .int r), (0, .ref h), (1, .int (nI lo)), (2, .int (nI hi)), (7, .int v), (9, .int (nI b)), (10, .int (sd_m cx)), (11, .int (sd_m dx))]) S.1 S.2.1 dX2_quickSort_167 hl (k := 5) rfl (sd_i1 _) (by decide) rfl (fun ls hl => ?_)
          refine lv_iload S.1 S.2.1 dX2_quickSort_170 (lv_at hl 6 rfl) ?_
          refine sd_callv (nn := 3) (rest := []) S (sd_swap l D h d n f a b (by omega) (by omega) hn) (lw_S q72 q73 q6 q74) (by decide +kernel) rfl ⟨by omega, by omega⟩ hC hG hA 0 0 rfl rfl hl.1 rfl (Nat.le_of_ble_eq_true rfl) dX2_quickSort_172 (fun f' H locs ef' hG => ?_)
          have hG : sd_G D A H0 s [(d, .int)] [sd_ar h d n f'] H locs := hG
          subst ef'
          have hG : sd_G D A H0 s [(d, .int)] [sd_ar h d n (sd_swp f a b)] H locs := hG
          refine lv_iinc (v := nI (b + 1)) (lv' := [(9, .int (nI (b + 1))), (8, .int (nI (a + 1))), (12, .int r), (0, .ref h), (1, .int (nI lo)), (2, .int (nI hi)), (7, .int v), (10, .int (sd_m cx)), (11, .int (sd_m dx))]) S.1 S.2.1 dX2_quickSort_175 hl (k := 6) rfl (sd_i1 _) (by decide) rfl (fun ls hl => ?_)
          refine lv_goto (tgt := 137) S.1 S.2.1 dX2_quickSort_178 (by decide) ?_
          exact ihA _ (a + 1) (b + 1) cx dx H locs ls (h1.bEq (by omega) hbv) (by omega) hG (lv_sub hl [3, 4, 5, 6, 1, 0, 7, 8] rfl)
set_option maxHeartbeats 4000000 in
set_option maxRecDepth 100000 in
theorem sd_qs_tail {p : Program} {l : Launch} {e : Env} {R : Room} {s : State} {m : MethodId} {args : Array Value} {below : List Frame} {meth : Method} {c : Code} {Q : State → Prop} {cells slots : Nat} {D : va_G} {A : Nat → Prop} {H0 : Heap} {h n : Nat} {d : ClassId} {f0 : Nat → Int32} (lo hi : Nat) (hh : hi ≤ n) (hn : n < 2 ^ 30) (hC : cells ≤ R.cells ∧ slots ≤ R.slots) (S : CallFix p m c cX2_quickSort 13 s args lw_all RX2) (hA : ∀ q : Nat, H0.size ≤ q → A q) {v : Int32} (dd j : Nat) (IH : ∀ (f : Nat → Int32) (lo hi : Nat), lo ≤ hi → hi ≤ n → hi - lo ≤ dd + 15 → sd_Mv l yX2_quickSort cX2_quickSort 13 (dd + 2) (32 * dd + 47) D h d n f [.ref h, .int (nI lo), .int (nI hi)] (fun f' => sd_Srt f' lo hi ∧ sd_Prm f' f lo hi)) (hR : dd + 3 ≤ R.frames ∧ 32 * dd + 79 ≤ R.locals) (hlen : hi - lo ≤ dd + 16) (h16 : lo + 16 ≤ hi) (hj1 : lo ≤ j) (hj2 : j < hi) (hv : f0 j = v)
    (K : ∀ (f : Nat → Int32) (H : Heap) (locs : List Loc) (ls : Array Slot), sd_Srt f lo hi ∧ sd_Prm f f0 lo hi → sd_G D A H0 s [(d, .int)] [sd_ar h d n f] H locs → W p l e R s m args below meth c H locs cells slots Q (F0 m 348 ls []))
    (f : Nat → Int32) (a b dx : Nat) (H : Heap) (locs : List Loc) (ls : Array Slot) (h1 : sd_Qs f0 f v lo a b b dx hi) (hG : sd_G D A H0 s [(d, .int)] [sd_ar h d n f] H locs) (hl : lv_has ls 13 [(0, .ref h), (1, .int (nI lo)), (2, .int (nI hi)), (7, .int v), (8, .int (nI a)), (9, .int (nI b)), (10, .int (sd_m b)), (11, .int (sd_m dx))]) : W p l e R s m args below meth c H locs cells slots Q (F0 m 252 ls []) := by
  have ho := h1.1
  have hlt := h1.lt hj1 hj2 hv
  refine lv_iload S.1 S.2.1 dX2_quickSort_252 (lv_at hl 4 rfl) ?_
  refine lv_iload_n S.1 S.2.1 dX2_quickSort_254 rfl (lv_at hl 1 rfl) ?_
  refine sd_isub S.1 S.2.1 (by omega) dX2_quickSort_255 ?_
  refine lv_iload S.1 S.2.1 dX2_quickSort_256 (lv_at hl 5 rfl) ?_
  refine lv_iload S.1 S.2.1 dX2_quickSort_258 (lv_at hl 4 rfl) ?_
  refine sd_isub S.1 S.2.1 (by omega) dX2_quickSort_260 ?_
  refine sd_mmin (by omega) (by omega) S hl.1 q75 ⟨by omega, by show 0 + 13 ≤ _; omega⟩ hC dX2_quickSort_261 ?_
  obtain ⟨k1, hk1⟩ : ∃ k1, k1 = min (a - lo) (b - a) := ⟨_, rfl⟩
  rw [← hk1]
  refine lv_istore (lv' := [(12, .int (nI k1)), (0, .ref h), (1, .int (nI lo)), (2, .int (nI hi)), (7, .int v), (8, .int (nI a)), (9, .int (nI b)), (10, .int (sd_m b)), (11, .int (sd_m dx))]) S.1 S.2.1 dX2_quickSort_264 hl (by decide) rfl (fun ls hl => ?_)
  refine lv_aload_n S.1 S.2.1 dX2_quickSort_266 rfl (lv_at hl 1 rfl) ?_
  refine lv_iload_n S.1 S.2.1 dX2_quickSort_267 rfl (lv_at hl 2 rfl) ?_
  refine lv_iload S.1 S.2.1 dX2_quickSort_268 (lv_at hl 6 rfl) ?_
  refine lv_iload S.1 S.2.1 dX2_quickSort_270 (lv_at hl 0 rfl) ?_
  refine sd_isub S.1 S.2.1 (by omega) dX2_quickSort_272 ?_
  refine lv_iload S.1 S.2.1 dX2_quickSort_273 (lv_at hl 0 rfl) ?_
  refine sd_callv (nn := 4) (rest := []) S (sd_swap2 l D h d n f lo (b - k1) k1 (by omega) (by omega) hn) (lw_S q78 q79 q6 q80) (by decide +kernel) rfl ⟨by omega, by omega⟩ hC hG hA 0 0 rfl rfl hl.1 rfl (Nat.le_of_ble_eq_true rfl) dX2_quickSort_275 (fun f' H locs ef' hG => ?_)
  have hG : sd_G D A H0 s [(d, .int)] [sd_ar h d n f'] H locs := hG
  subst ef'
  have hG : sd_G D A H0 s [(d, .int)] [sd_ar h d n (sd_bsw f lo (b - k1) k1)] H locs := hG
  refine lv_iload S.1 S.2.1 dX2_quickSort_278 (lv_at hl 8 rfl) ?_
  refine lv_iload S.1 S.2.1 dX2_quickSort_280 (lv_at hl 7 rfl) ?_
  refine lv_isub S.1 S.2.1 dX2_quickSort_282 ?_
  refine sd_top (sd_msub (by omega)) ?_
  refine lv_iload_n S.1 S.2.1 dX2_quickSort_283 rfl (lv_at hl 3 rfl) ?_
  refine lv_iload S.1 S.2.1 dX2_quickSort_284 (lv_at hl 8 rfl) ?_
  refine lv_isub S.1 S.2.1 dX2_quickSort_286 ?_
  refine sd_top (sd_nmsub (by omega)) ?_
  refine lv_iconst (v := nI 1) S.1 S.2.1 dX2_quickSort_287 (by decide +kernel) ?_
  refine sd_isub S.1 S.2.1 (by omega) dX2_quickSort_288 ?_
  refine sd_top (show nI (hi - dx + 1 - 1) = nI (hi - dx) from rfl) ?_
  refine sd_mmin (by omega) (by omega) S hl.1 q75 ⟨by omega, by show 0 + 13 ≤ _; omega⟩ hC dX2_quickSort_289 ?_
  obtain ⟨k2, hk2⟩ : ∃ k2, k2 = min (dx - b) (hi - dx) := ⟨_, rfl⟩
  rw [← hk2]
  refine lv_istore (lv' := [(12, .int (nI k2)), (0, .ref h), (1, .int (nI lo)), (2, .int (nI hi)), (7, .int v), (8, .int (nI a)), (9, .int (nI b)), (10, .int (sd_m b)), (11, .int (sd_m dx))]) S.1 S.2.1 dX2_quickSort_292 hl (by decide) rfl (fun ls hl => ?_)
  refine lv_aload_n S.1 S.2.1 dX2_quickSort_294 rfl (lv_at hl 1 rfl) ?_
  refine lv_iload S.1 S.2.1 dX2_quickSort_295 (lv_at hl 6 rfl) ?_
  refine lv_iload_n S.1 S.2.1 dX2_quickSort_297 rfl (lv_at hl 3 rfl) ?_
  refine lv_iload S.1 S.2.1 dX2_quickSort_298 (lv_at hl 0 rfl) ?_
  refine sd_isub S.1 S.2.1 (by omega) dX2_quickSort_300 ?_
  refine lv_iload S.1 S.2.1 dX2_quickSort_301 (lv_at hl 0 rfl) ?_
  refine sd_callv (nn := 4) (rest := []) S (sd_swap2 l D h d n (sd_bsw f lo (b - k1) k1) b (hi - k2) k2 (by omega) (by omega) hn) (lw_S q78 q79 q6 q80) (by decide +kernel) rfl ⟨by omega, by omega⟩ hC hG hA 0 0 rfl rfl hl.1 rfl (Nat.le_of_ble_eq_true rfl) dX2_quickSort_303 (fun f' H locs ef' hG => ?_)
  have hG : sd_G D A H0 s [(d, .int)] [sd_ar h d n f'] H locs := hG
  subst ef'
  have hG : sd_G D A H0 s [(d, .int)] [sd_ar h d n (sd_bsw (sd_bsw f lo (b - k1) k1) b (hi - k2) k2)] H locs := hG
  have he := h1.en hk1 hk2
  generalize sd_bsw (sd_bsw f lo (b - k1) k1) b (hi - k2) k2 = f1 at he hG
  obtain ⟨hp1, ht1⟩ := he
  have half : ∀ (f : Nat → Int32) (H : Heap) (locs : List Loc) (ls : Array Slot), sd_Prm f f0 lo hi → sd_Pt f v lo (lo + (b - a)) (hi - (dx - b)) hi → sd_Srt f lo (lo + (b - a)) → sd_G D A H0 s [(d, .int)] [sd_ar h d n f] H locs → lv_has ls 13 [(0, .ref h), (1, .int (nI lo)), (2, .int (nI hi)), (7, .int v), (8, .int (nI a)), (9, .int (nI b)), (10, .int (sd_m b)), (11, .int (sd_m dx))] → W p l e R s m args below meth c H locs cells slots Q (F0 m 327 ls []) := by
    intro f H locs ls hp ht hs hG hl
    refine lv_iload S.1 S.2.1 dX2_quickSort_327 (lv_at hl 7 rfl) ?_
    refine lv_iload S.1 S.2.1 dX2_quickSort_329 (lv_at hl 6 rfl) ?_
    refine lv_isub S.1 S.2.1 dX2_quickSort_331 ?_
    refine sd_top (sd_msub (by omega)) ?_
    refine lv_dup S.1 S.2.1 dX2_quickSort_332 rfl ?_
    refine lv_istore (lv' := [(12, .int (nI (dx - b))), (0, .ref h), (1, .int (nI lo)), (2, .int (nI hi)), (7, .int v), (8, .int (nI a)), (9, .int (nI b)), (10, .int (sd_m b)), (11, .int (sd_m dx))]) S.1 S.2.1 dX2_quickSort_333 hl (by decide) rfl (fun ls hl => ?_)
    refine lv_iconst (v := nI 1) S.1 S.2.1 dX2_quickSort_335 (by decide +kernel) ?_
    refine sd_le (tgt := 348) S.1 S.2.1 dX2_quickSort_336 (by decide) (sd_nT (by omega)) (sd_nT (by omega)) (fun c2 => ?_) (fun c2 => ?_)
    · exact K f H locs ls ⟨ht.srt (by omega) (by omega) (by omega) hs (sd_Srt.nil (by omega)), hp⟩ hG
    · refine lv_aload_n S.1 S.2.1 dX2_quickSort_339 rfl (lv_at hl 1 rfl) ?_
      refine lv_iload_n S.1 S.2.1 dX2_quickSort_340 rfl (lv_at hl 3 rfl) ?_
      refine lv_iload S.1 S.2.1 dX2_quickSort_341 (lv_at hl 0 rfl) ?_
      refine sd_isub S.1 S.2.1 (by omega) dX2_quickSort_343 ?_
      refine lv_iload_n S.1 S.2.1 dX2_quickSort_344 rfl (lv_at hl 3 rfl) ?_
      refine sd_callv (nn := 3) (rest := []) S (IH f (hi - (dx - b)) hi (by omega) hh (by omega)) (lw_S q81 q61 q6 q62) (by decide +kernel) rfl ⟨by omega, by omega⟩ hC hG hA 0 0 rfl rfl hl.1 rfl (Nat.le_of_ble_eq_true rfl) dX2_quickSort_345 (fun f' H locs ef' hG => ?_)
      have hG : sd_G D A H0 s [(d, .int)] [sd_ar h d n f'] H locs := hG
      exact K f' H locs ls ⟨(ht.kp ef'.2 (Or.inr ⟨by omega, by omega⟩) (by omega) (by omega) (by omega)).srt (by omega) (by omega) (by omega) (hs.cg (fun i a1 a2 => ef'.2.1 i (by omega))) ef'.1, (ef'.2.wd (by omega) (by omega) (by omega)).tr hp⟩ hG
  refine lv_iload S.1 S.2.1 dX2_quickSort_306 (lv_at hl 6 rfl) ?_
  refine lv_iload S.1 S.2.1 dX2_quickSort_308 (lv_at hl 5 rfl) ?_
  refine sd_isub S.1 S.2.1 (by omega) dX2_quickSort_310 ?_
  refine lv_dup S.1 S.2.1 dX2_quickSort_311 rfl ?_
  refine lv_istore (lv' := [(12, .int (nI (b - a))), (0, .ref h), (1, .int (nI lo)), (2, .int (nI hi)), (7, .int v), (8, .int (nI a)), (9, .int (nI b)), (10, .int (sd_m b)), (11, .int (sd_m dx))]) S.1 S.2.1 dX2_quickSort_312 hl (by decide) rfl (fun ls hl => ?_)
  refine lv_iconst (v := nI 1) S.1 S.2.1 dX2_quickSort_314 (by decide +kernel) ?_
  refine sd_le (tgt := 327) S.1 S.2.1 dX2_quickSort_315 (by decide) (sd_nT (by omega)) (sd_nT (by omega)) (fun c2 => ?_) (fun c2 => ?_)
  · exact half f1 H locs ls hp1 ht1 (sd_Srt.nil (by omega)) hG (lv_sub hl [1, 2, 3, 4, 5, 6, 7, 8] rfl)
  · refine lv_aload_n S.1 S.2.1 dX2_quickSort_318 rfl (lv_at hl 1 rfl) ?_
    refine lv_iload_n S.1 S.2.1 dX2_quickSort_319 rfl (lv_at hl 2 rfl) ?_
    refine lv_iload_n S.1 S.2.1 dX2_quickSort_320 rfl (lv_at hl 2 rfl) ?_
    refine lv_iload S.1 S.2.1 dX2_quickSort_321 (lv_at hl 0 rfl) ?_
    refine sd_iadd S.1 S.2.1 dX2_quickSort_323 ?_
    refine sd_callv (nn := 3) (rest := []) S (IH f1 lo (lo + (b - a)) (by omega) (by omega) (by omega)) (lw_S q81 q61 q6 q62) (by decide +kernel) rfl ⟨by omega, by omega⟩ hC hG hA 0 0 rfl rfl hl.1 rfl (Nat.le_of_ble_eq_true rfl) dX2_quickSort_324 (fun f' H locs ef' hG => ?_)
    have hG : sd_G D A H0 s [(d, .int)] [sd_ar h d n f'] H locs := hG
    exact half f' H locs ls ((ef'.2.wd (by omega) (by omega) (by omega)).tr hp1) (ht1.kp ef'.2 (Or.inl ⟨by omega, by omega⟩) (by omega) (by omega) (by omega)) ef'.1 hG (lv_sub hl [1, 2, 3, 4, 5, 6, 7, 8] rfl)
set_option maxHeartbeats 4000000 in
set_option maxRecDepth 100000 in
theorem sd_qs_103 {p : Program} {l : Launch} {e : Env} {R : Room} {s : State} {m : MethodId} {args : Array Value} {below : List Frame} {meth : Method} {c : Code} {Q : State → Prop} {cells slots : Nat} {D : va_G} {A : Nat → Prop} {H0 : Heap} {h n : Nat} {d : ClassId} {f0 : Nat → Int32} (lo hi : Nat) (hh : hi ≤ n) (hn : n < 2 ^ 30) (hC : cells ≤ R.cells ∧ slots ≤ R.slots) (S : CallFix p m c cX2_quickSort 13 s args lw_all RX2) (hA : ∀ q : Nat, H0.size ≤ q → A q) (dd : Nat) (IH : ∀ (f : Nat → Int32) (lo hi : Nat), lo ≤ hi → hi ≤ n → hi - lo ≤ dd + 15 → sd_Mv l yX2_quickSort cX2_quickSort 13 (dd + 2) (32 * dd + 47) D h d n f [.ref h, .int (nI lo), .int (nI hi)] (fun f' => sd_Srt f' lo hi ∧ sd_Prm f' f lo hi)) (hR : dd + 3 ≤ R.frames ∧ 32 * dd + 79 ≤ R.locals) (hlen : hi - lo ≤ dd + 16) (h16 : lo + 16 ≤ hi)
    (K : ∀ (f : Nat → Int32) (H : Heap) (locs : List Loc) (ls : Array Slot), sd_Srt f lo hi ∧ sd_Prm f f0 lo hi → sd_G D A H0 s [(d, .int)] [sd_ar h d n f] H locs → W p l e R s m args below meth c H locs cells slots Q (F0 m 348 ls []))
    (m1 l1 n1 : Nat) (hm : lo ≤ m1 ∧ m1 < hi) (hl1 : lo ≤ l1 ∧ l1 < hi) (hn1 : lo ≤ n1 ∧ n1 < hi) (H : Heap) (locs : List Loc) (ls : Array Slot) (hG : sd_G D A H0 s [(d, .int)] [sd_ar h d n f0] H locs) (hl : lv_has ls 13 [(0, .ref h), (1, .int (nI lo)), (2, .int (nI hi)), (4, .int (nI m1)), (5, .int (nI l1)), (6, .int (nI n1))]) : W p l e R s m args below meth c H locs cells slots Q (F0 m 103 ls []) := by
  refine lv_aload_n S.1 S.2.1 dX2_quickSort_103 rfl (lv_at hl 0 rfl) ?_
  refine lv_iload S.1 S.2.1 dX2_quickSort_104 (lv_at hl 4 rfl) ?_
  refine lv_iload S.1 S.2.1 dX2_quickSort_106 (lv_at hl 3 rfl) ?_
  refine lv_iload S.1 S.2.1 dX2_quickSort_108 (lv_at hl 5 rfl) ?_
  refine sd_calli (nn := 4) (rest := []) S (sd_med3 l D h d n f0 l1 m1 n1 (by omega) (by omega) (by omega) hn) (lw_S q66 q67 q6 q68) (by decide +kernel) rfl ⟨by omega, by omega⟩ hC hG hA 0 0 rfl rfl hl.1 rfl (Nat.le_of_ble_eq_true rfl) dX2_quickSort_110 (fun r f' H locs er hG => ?_)
  have hG : sd_G D A H0 s [(d, .int)] [sd_ar h d n f'] H locs := hG
  obtain ⟨rfl, j, hj, rfl⟩ := er
  have hj1 : lo ≤ j := by omega
  have hj2 : j < hi := by omega
  refine lv_istore (lv' := [(4, .int (nI j)), (0, .ref h), (1, .int (nI lo)), (2, .int (nI hi)), (5, .int (nI l1)), (6, .int (nI n1))]) S.1 S.2.1 dX2_quickSort_113 hl (by decide) rfl (fun ls hl => ?_)
  refine lv_aload_n S.1 S.2.1 dX2_quickSort_115 rfl (lv_at hl 1 rfl) ?_
  refine lv_iload S.1 S.2.1 dX2_quickSort_116 (lv_at hl 0 rfl) ?_
  refine sd_iald S.1 S.2.1 hG 0 0 rfl rfl (by omega) (by omega) dX2_quickSort_118 ?_
  refine lv_istore (lv' := [(7, .int (f' j)), (4, .int (nI j)), (0, .ref h), (1, .int (nI lo)), (2, .int (nI hi)), (5, .int (nI l1)), (6, .int (nI n1))]) S.1 S.2.1 dX2_quickSort_119 hl (by decide) rfl (fun ls hl => ?_)
  refine lv_iload_n S.1 S.2.1 dX2_quickSort_121 rfl (lv_at hl 3 rfl) ?_
  refine lv_istore (lv' := [(8, .int (nI lo)), (7, .int (f' j)), (4, .int (nI j)), (0, .ref h), (1, .int (nI lo)), (2, .int (nI hi)), (5, .int (nI l1)), (6, .int (nI n1))]) S.1 S.2.1 dX2_quickSort_122 hl (by decide) rfl (fun ls hl => ?_)
  refine lv_iload S.1 S.2.1 dX2_quickSort_124 (lv_at hl 0 rfl) ?_
  refine lv_istore (lv' := [(9, .int (nI lo)), (8, .int (nI lo)), (7, .int (f' j)), (4, .int (nI j)), (0, .ref h), (1, .int (nI lo)), (2, .int (nI hi)), (5, .int (nI l1)), (6, .int (nI n1))]) S.1 S.2.1 dX2_quickSort_126 hl (by decide) rfl (fun ls hl => ?_)
  refine lv_iload_n S.1 S.2.1 dX2_quickSort_128 rfl (lv_at hl 6 rfl) ?_
  refine lv_iconst (v := nI 1) S.1 S.2.1 dX2_quickSort_129 (by decide +kernel) ?_
  refine sd_isub1 S.1 S.2.1 dX2_quickSort_130 ?_
  refine lv_istore (lv' := [(10, .int (sd_m hi)), (9, .int (nI lo)), (8, .int (nI lo)), (7, .int (f' j)), (4, .int (nI j)), (0, .ref h), (1, .int (nI lo)), (2, .int (nI hi)), (5, .int (nI l1)), (6, .int (nI n1))]) S.1 S.2.1 dX2_quickSort_131 hl (by decide) rfl (fun ls hl => ?_)
  refine lv_iload S.1 S.2.1 dX2_quickSort_133 (lv_at hl 0 rfl) ?_
  refine lv_istore (lv' := [(11, .int (sd_m hi)), (10, .int (sd_m hi)), (9, .int (nI lo)), (8, .int (nI lo)), (7, .int (f' j)), (4, .int (nI j)), (0, .ref h), (1, .int (nI lo)), (2, .int (nI hi)), (5, .int (nI l1)), (6, .int (nI n1))]) S.1 S.2.1 dX2_quickSort_135 hl (by decide) rfl (fun ls hl => ?_)
  exact (sd_qs_part lo hi hh hn hC S hA (v := f' j) ⟨by omega, by omega⟩ (fun f a b dx H locs ls h1 hG hl => sd_qs_tail lo hi hh hn hC S hA dd j IH hR hlen h16 hj1 hj2 rfl K f a b dx H locs ls h1 hG hl) (hi + 1)).2 f' lo lo hi hi H locs ls (sd_Qs.st (by omega)) (by omega) hG (lv_sub hl [6, 7, 8, 4, 3, 2, 1, 0] rfl)
set_option maxHeartbeats 4000000 in
set_option maxRecDepth 100000 in
/-- IntArrays.quickSort(x, lo, hi): of at most dd + 15 ints, dd its depth -/
theorem sd_quickSort (l : Launch) (D : va_G) (h : Nat) (d : ClassId) (n : Nat) (hn : n < 2 ^ 30) : ∀ (dd : Nat) (f : Nat → Int32) (lo hi : Nat), lo ≤ hi → hi ≤ n → hi - lo ≤ dd + 15 → sd_Mv l yX2_quickSort cX2_quickSort 13 (dd + 2) (32 * dd + 47) D h d n f [.ref h, .int (nI lo), .int (nI hi)] (fun f' => sd_Srt f' lo hi ∧ sd_Prm f' f lo hi) := by
  intro dd
  induction dd with
  | zero =>
    intro f lo hi h1 hh hlen
    refine sd_Mv.of (by decide) (Nat.le_of_ble_eq_true rfl) ?_
    intro p e s m below meth c A ls Q S hA hG hl ret
    have hl : lv_has ls 13 [(0, .ref h), (1, .int (nI lo)), (2, .int (nI hi))] := hl
    refine lv_iload_n S.1 S.2.1 dX2_quickSort_0 rfl (lv_at hl 2 rfl) ?_
    refine lv_iload_n S.1 S.2.1 dX2_quickSort_1 rfl (lv_at hl 1 rfl) ?_
    refine sd_isub S.1 S.2.1 (by omega) dX2_quickSort_2 ?_
    refine lv_istore_n (lv' := [(3, .int (nI (hi - lo))), (0, .ref h), (1, .int (nI lo)), (2, .int (nI hi))]) S.1 S.2.1 dX2_quickSort_3 rfl hl (by decide) rfl (fun ls hl => ?_)
    refine lv_iload_n S.1 S.2.1 dX2_quickSort_4 rfl (lv_at hl 0 rfl) ?_
    refine lv_bipush (v := nI 16) S.1 S.2.1 dX2_quickSort_5 (by decide +kernel) ?_
    refine sd_ge (tgt := 17) S.1 S.2.1 dX2_quickSort_7 (by decide) (sd_nT (by omega)) (sd_nT (by omega)) (fun c1 => ?_) (fun c1 => ?_)
    · exact absurd c1 (by omega)
    · refine lv_aload_n S.1 S.2.1 dX2_quickSort_10 rfl (lv_at hl 1 rfl) ?_
      refine lv_iload_n S.1 S.2.1 dX2_quickSort_11 rfl (lv_at hl 2 rfl) ?_
      refine lv_iload_n S.1 S.2.1 dX2_quickSort_12 rfl (lv_at hl 3 rfl) ?_
      refine sd_callv (nn := 3) (rest := []) S (sd_selectionSort l D h d n f lo hi h1 hh hn) (lw_S q63 q64 q6 q65) (by decide +kernel) rfl ⟨Nat.le_of_ble_eq_true rfl, Nat.le_of_ble_eq_true rfl⟩ ⟨Nat.le_refl _, Nat.le_refl _⟩ hG hA 0 0 rfl rfl hl.1 rfl (Nat.le_of_ble_eq_true rfl) dX2_quickSort_13 (fun f' H locs ef' hG => ?_)
      have hG : sd_G D A s.heap s [(d, .int)] [sd_ar h d n f'] H locs := hG
      exact ret _ _ _ _ _ dX2_quickSort_16 hG ef'
  | succ dd ih =>
    intro f lo hi h1 hh hlen
    refine sd_Mv.of (by decide) (Nat.le_of_ble_eq_true rfl) ?_
    intro p e s m below meth c A ls Q S hA hG hl ret
    have hl : lv_has ls 13 [(0, .ref h), (1, .int (nI lo)), (2, .int (nI hi))] := hl
    refine lv_iload_n S.1 S.2.1 dX2_quickSort_0 rfl (lv_at hl 2 rfl) ?_
    refine lv_iload_n S.1 S.2.1 dX2_quickSort_1 rfl (lv_at hl 1 rfl) ?_
    refine sd_isub S.1 S.2.1 (by omega) dX2_quickSort_2 ?_
    refine lv_istore_n (lv' := [(3, .int (nI (hi - lo))), (0, .ref h), (1, .int (nI lo)), (2, .int (nI hi))]) S.1 S.2.1 dX2_quickSort_3 rfl hl (by decide) rfl (fun ls hl => ?_)
    refine lv_iload_n S.1 S.2.1 dX2_quickSort_4 rfl (lv_at hl 0 rfl) ?_
    refine lv_bipush (v := nI 16) S.1 S.2.1 dX2_quickSort_5 (by decide +kernel) ?_
    refine sd_ge (tgt := 17) S.1 S.2.1 dX2_quickSort_7 (by decide) (sd_nT (by omega)) (sd_nT (by omega)) (fun c1 => ?_) (fun c1 => ?_)
    · refine lv_iload_n S.1 S.2.1 dX2_quickSort_17 rfl (lv_at hl 2 rfl) ?_
      refine lv_iload_n S.1 S.2.1 dX2_quickSort_18 rfl (lv_at hl 0 rfl) ?_
      refine lv_iconst (v := nI 2) S.1 S.2.1 dX2_quickSort_19 (by decide +kernel) ?_
      refine sd_idiv S.1 S.2.1 (by omega) (by omega) (by omega) dX2_quickSort_20 ?_
      refine sd_iadd S.1 S.2.1 dX2_quickSort_21 ?_
      refine lv_istore (lv' := [(4, .int (nI (lo + ((hi - lo) / 2)))), (3, .int (nI (hi - lo))), (0, .ref h), (1, .int (nI lo)), (2, .int (nI hi))]) S.1 S.2.1 dX2_quickSort_22 hl (by decide) rfl (fun ls hl => ?_)
      refine lv_iload_n S.1 S.2.1 dX2_quickSort_24 rfl (lv_at hl 3 rfl) ?_
      refine lv_istore (lv' := [(5, .int (nI lo)), (4, .int (nI (lo + ((hi - lo) / 2)))), (3, .int (nI (hi - lo))), (0, .ref h), (1, .int (nI lo)), (2, .int (nI hi))]) S.1 S.2.1 dX2_quickSort_25 hl (by decide) rfl (fun ls hl => ?_)
      refine lv_iload_n S.1 S.2.1 dX2_quickSort_27 rfl (lv_at hl 5 rfl) ?_
      refine lv_iconst (v := nI 1) S.1 S.2.1 dX2_quickSort_28 (by decide +kernel) ?_
      refine sd_isub S.1 S.2.1 (by omega) dX2_quickSort_29 ?_
      refine lv_istore (lv' := [(6, .int (nI (hi - 1))), (5, .int (nI lo)), (4, .int (nI (lo + ((hi - lo) / 2)))), (3, .int (nI (hi - lo))), (0, .ref h), (1, .int (nI lo)), (2, .int (nI hi))]) S.1 S.2.1 dX2_quickSort_30 hl (by decide) rfl (fun ls hl => ?_)
      refine lv_iload_n S.1 S.2.1 dX2_quickSort_32 rfl (lv_at hl 3 rfl) ?_
      refine lv_sipush (v := nI 128) S.1 S.2.1 dX2_quickSort_33 (by decide +kernel) ?_
      refine sd_le (tgt := 103) S.1 S.2.1 dX2_quickSort_36 (by decide) (sd_nT (by omega)) (sd_nT (by omega)) (fun c2 => ?_) (fun c2 => ?_)
      · exact sd_qs_103 lo hi hh hn ⟨Nat.le_refl _, Nat.le_refl _⟩ S hA dd ih ⟨by show dd + 3 ≤ dd + 1 + 2; omega, by show 32 * dd + 79 ≤ 32 * (dd + 1) + 47; omega⟩ (by omega) (by omega) (fun f H locs ls hp hG => ret _ _ _ _ _ dX2_quickSort_348 hG hp) (lo + (hi - lo) / 2) lo (hi - 1) ⟨by omega, by omega⟩ ⟨by omega, by omega⟩ ⟨by omega, by omega⟩ _ _ _ hG (lv_sub hl [4, 5, 6, 2, 1, 0] rfl)
      · refine lv_iload_n S.1 S.2.1 dX2_quickSort_39 rfl (lv_at hl 3 rfl) ?_
        refine lv_bipush (v := nI 8) S.1 S.2.1 dX2_quickSort_40 (by decide +kernel) ?_
        refine sd_idiv S.1 S.2.1 (by omega) (by omega) (by omega) dX2_quickSort_42 ?_
        refine lv_istore (lv' := [(7, .int (nI ((hi - lo) / 8))), (6, .int (nI (hi - 1))), (5, .int (nI lo)), (4, .int (nI (lo + ((hi - lo) / 2)))), (3, .int (nI (hi - lo))), (0, .ref h), (1, .int (nI lo)), (2, .int (nI hi))]) S.1 S.2.1 dX2_quickSort_43 hl (by decide) rfl (fun ls hl => ?_)
        refine lv_aload_n S.1 S.2.1 dX2_quickSort_45 rfl (lv_at hl 5 rfl) ?_
        refine lv_iload S.1 S.2.1 dX2_quickSort_46 (lv_at hl 2 rfl) ?_
        refine lv_iload S.1 S.2.1 dX2_quickSort_48 (lv_at hl 2 rfl) ?_
        refine lv_iload S.1 S.2.1 dX2_quickSort_50 (lv_at hl 0 rfl) ?_
        refine sd_iadd S.1 S.2.1 dX2_quickSort_52 ?_
        refine lv_iload S.1 S.2.1 dX2_quickSort_53 (lv_at hl 2 rfl) ?_
        refine lv_iconst (v := nI 2) S.1 S.2.1 dX2_quickSort_55 (by decide +kernel) ?_
        refine lv_iload S.1 S.2.1 dX2_quickSort_56 (lv_at hl 0 rfl) ?_
        refine sd_imul S.1 S.2.1 dX2_quickSort_58 ?_
        refine sd_iadd S.1 S.2.1 dX2_quickSort_59 ?_
        have hs8 : (hi - lo) / 8 * 8 ≤ hi - lo := Nat.div_mul_le_self _ _
        obtain ⟨sx, hsx⟩ : ∃ sx, sx = (hi - lo) / 8 := ⟨_, rfl⟩
        rw [← hsx] at hs8 hl ⊢
        refine sd_calli (nn := 4) (rest := []) S (sd_med3 l D h d n f lo (lo + sx) (lo + 2 * sx) (by omega) (by omega) (by omega) hn) (lw_S q66 q67 q6 q68) (by decide +kernel) rfl ⟨by show 1 + 1 ≤ dd + 1 + 2; omega, by show 8 + (7 + 11) + 21 ≤ 32 * (dd + 1) + 47; omega⟩ ⟨Nat.le_refl _, Nat.le_refl _⟩ hG hA 0 0 rfl rfl hl.1 rfl (Nat.le_of_ble_eq_true rfl) dX2_quickSort_60 (fun r f' H locs er hG => ?_)
        have hG : sd_G D A s.heap s [(d, .int)] [sd_ar h d n f'] H locs := hG
        obtain ⟨e9, j0, hj0, rfl⟩ := er
        rw [e9] at hG
        have hG : sd_G D A s.heap s [(d, .int)] [sd_ar h d n f] H locs := hG
        refine lv_istore (lv' := [(5, .int (nI j0)), (7, .int (nI sx)), (6, .int (nI (hi - 1))), (4, .int (nI (lo + ((hi - lo) / 2)))), (3, .int (nI (hi - lo))), (0, .ref h), (1, .int (nI lo)), (2, .int (nI hi))]) S.1 S.2.1 dX2_quickSort_63 hl (by decide) rfl (fun ls hl => ?_)
        refine lv_aload_n S.1 S.2.1 dX2_quickSort_65 rfl (lv_at hl 5 rfl) ?_
        refine lv_iload S.1 S.2.1 dX2_quickSort_66 (lv_at hl 3 rfl) ?_
        refine lv_iload S.1 S.2.1 dX2_quickSort_68 (lv_at hl 1 rfl) ?_
        refine sd_isub S.1 S.2.1 (by omega) dX2_quickSort_70 ?_
        refine lv_iload S.1 S.2.1 dX2_quickSort_71 (lv_at hl 3 rfl) ?_
        refine lv_iload S.1 S.2.1 dX2_quickSort_73 (lv_at hl 3 rfl) ?_
        refine lv_iload S.1 S.2.1 dX2_quickSort_75 (lv_at hl 1 rfl) ?_
        refine sd_iadd S.1 S.2.1 dX2_quickSort_77 ?_
        refine sd_calli (nn := 4) (rest := []) S (sd_med3 l D h d n f (lo + (hi - lo) / 2 - sx) (lo + (hi - lo) / 2) (lo + (hi - lo) / 2 + sx) (by omega) (by omega) (by omega) hn) (lw_S q66 q67 q6 q68) (by decide +kernel) rfl ⟨by show 1 + 1 ≤ dd + 1 + 2; omega, by show 8 + (7 + 11) + 21 ≤ 32 * (dd + 1) + 47; omega⟩ ⟨Nat.le_refl _, Nat.le_refl _⟩ hG hA 0 0 rfl rfl hl.1 rfl (Nat.le_of_ble_eq_true rfl) dX2_quickSort_78 (fun r f' H locs er hG => ?_)
        have hG : sd_G D A s.heap s [(d, .int)] [sd_ar h d n f'] H locs := hG
        obtain ⟨e9, j1, hj1, rfl⟩ := er
        rw [e9] at hG
        have hG : sd_G D A s.heap s [(d, .int)] [sd_ar h d n f] H locs := hG
        refine lv_istore (lv' := [(4, .int (nI j1)), (5, .int (nI j0)), (7, .int (nI sx)), (6, .int (nI (hi - 1))), (3, .int (nI (hi - lo))), (0, .ref h), (1, .int (nI lo)), (2, .int (nI hi))]) S.1 S.2.1 dX2_quickSort_81 hl (by decide) rfl (fun ls hl => ?_)
        refine lv_aload_n S.1 S.2.1 dX2_quickSort_83 rfl (lv_at hl 5 rfl) ?_
        refine lv_iload S.1 S.2.1 dX2_quickSort_84 (lv_at hl 3 rfl) ?_
        refine lv_iconst (v := nI 2) S.1 S.2.1 dX2_quickSort_86 (by decide +kernel) ?_
        refine lv_iload S.1 S.2.1 dX2_quickSort_87 (lv_at hl 2 rfl) ?_
        refine sd_imul S.1 S.2.1 dX2_quickSort_89 ?_
        refine sd_isub S.1 S.2.1 (by omega) dX2_quickSort_90 ?_
        refine lv_iload S.1 S.2.1 dX2_quickSort_91 (lv_at hl 3 rfl) ?_
        refine lv_iload S.1 S.2.1 dX2_quickSort_93 (lv_at hl 2 rfl) ?_
        refine sd_isub S.1 S.2.1 (by omega) dX2_quickSort_95 ?_
        refine lv_iload S.1 S.2.1 dX2_quickSort_96 (lv_at hl 3 rfl) ?_
        refine sd_calli (nn := 4) (rest := []) S (sd_med3 l D h d n f (hi - 1 - 2 * sx) (hi - 1 - sx) (hi - 1) (by omega) (by omega) (by omega) hn) (lw_S q66 q67 q6 q68) (by decide +kernel) rfl ⟨by show 1 + 1 ≤ dd + 1 + 2; omega, by show 8 + (7 + 11) + 21 ≤ 32 * (dd + 1) + 47; omega⟩ ⟨Nat.le_refl _, Nat.le_refl _⟩ hG hA 0 0 rfl rfl hl.1 rfl (Nat.le_of_ble_eq_true rfl) dX2_quickSort_98 (fun r f' H locs er hG => ?_)
        have hG : sd_G D A s.heap s [(d, .int)] [sd_ar h d n f'] H locs := hG
        obtain ⟨e9, j2, hj2, rfl⟩ := er
        rw [e9] at hG
        have hG : sd_G D A s.heap s [(d, .int)] [sd_ar h d n f] H locs := hG
        refine lv_istore (lv' := [(6, .int (nI j2)), (4, .int (nI j1)), (5, .int (nI j0)), (7, .int (nI sx)), (3, .int (nI (hi - lo))), (0, .ref h), (1, .int (nI lo)), (2, .int (nI hi))]) S.1 S.2.1 dX2_quickSort_101 hl (by decide) rfl (fun ls hl => ?_)
        exact sd_qs_103 lo hi hh hn ⟨Nat.le_refl _, Nat.le_refl _⟩ S hA dd ih ⟨by show dd + 3 ≤ dd + 1 + 2; omega, by show 32 * dd + 79 ≤ 32 * (dd + 1) + 47; omega⟩ (by omega) (by omega) (fun f H locs ls hp hG => ret _ _ _ _ _ dX2_quickSort_348 hG hp) j1 j0 j2 ⟨by omega, by omega⟩ ⟨by omega, by omega⟩ ⟨by omega, by omega⟩ H locs ls hG (lv_sub hl [5, 6, 7, 1, 2, 0] rfl)
    · refine lv_aload_n S.1 S.2.1 dX2_quickSort_10 rfl (lv_at hl 1 rfl) ?_
      refine lv_iload_n S.1 S.2.1 dX2_quickSort_11 rfl (lv_at hl 2 rfl) ?_
      refine lv_iload_n S.1 S.2.1 dX2_quickSort_12 rfl (lv_at hl 3 rfl) ?_
      refine sd_callv (nn := 3) (rest := []) S (sd_selectionSort l D h d n f lo hi h1 hh hn) (lw_S q63 q64 q6 q65) (by decide +kernel) rfl ⟨by show 0 + 1 ≤ dd + 1 + 2; omega, by show 8 + (6 + 11) + 0 ≤ 32 * (dd + 1) + 47; omega⟩ ⟨Nat.le_refl _, Nat.le_refl _⟩ hG hA 0 0 rfl rfl hl.1 rfl (Nat.le_of_ble_eq_true rfl) dX2_quickSort_13 (fun f' H locs ef' hG => ?_)
      have hG : sd_G D A s.heap s [(d, .int)] [sd_ar h d n f'] H locs := hG
      exact ret _ _ _ _ _ dX2_quickSort_16 hG ef'
end
section
/-! PURE: merging two sorted ranges of s into g -/
section SdMg
variable {g0 g s : Nat → Int32} {lo mid hi i p q : Nat}
/-- i places of the target are laid: p - lo of the first range, q - mid of the second -/
def sd_Mg (g0 s g : Nat → Int32) (lo mid hi i p q : Nat) : Prop := (lo ≤ p ∧ p ≤ mid ∧ mid ≤ q ∧ q ≤ hi ∧ i + mid = p + q) ∧ (∀ j, j < lo ∨ hi ≤ j → g j = g0 j) ∧ (∀ P, sd_ct g P lo i = sd_ct s P lo p + sd_ct s P mid q) ∧ sd_Srt g lo i ∧ (∀ j k, lo ≤ j → j < i → p ≤ k → k < mid → (g j).toInt ≤ (s k).toInt) ∧ ∀ j k, lo ≤ j → j < i → q ≤ k → k < hi → (g j).toInt ≤ (s k).toInt
theorem sd_Mg.st (h1 : lo ≤ mid) (h2 : mid ≤ hi) : sd_Mg g s g lo mid hi lo lo mid :=
  ⟨by omega, fun _ _ => rfl, fun P => by rw [sd_ct0 (Nat.le_refl lo), sd_ct0 (Nat.le_refl lo), sd_ct0 (Nat.le_refl mid)], sd_Srt.nil (by omega), fun j k _ a => absurd a (by omega), fun j k _ a => absurd a (by omega)⟩
theorem sd_Mg.lay {x : Int32} (h : sd_Mg g0 s g lo mid hi i p q) (hi1 : lo ≤ i) (hx : ∀ j, lo ≤ j → j < i → (g j).toInt ≤ x.toInt) : (∀ P, sd_ct (upd g i x) P lo (i + 1) = sd_ct g P lo i + (P x).toNat) ∧ sd_Srt (upd g i x) lo (i + 1) := by
  refine ⟨fun P => ?_, ?_⟩
  · rw [sd_ctS hi1, sd_ctO (Or.inr (Nat.le_refl i)), pk_us]
  · intro a b q1 q2 q3
    by_cases e : b = i
    · subst e
      rw [pk_us]
      by_cases e2 : a = b
      · subst e2; rw [pk_us]; exact Int.le_refl _
      · rw [pk_un e2]; exact hx a q1 (by omega)
    · rw [pk_un e, pk_un (show a ≠ i by omega)]
      exact h.2.2.2.1 a b q1 q2 (by omega)
theorem sd_Mg.fst (h : sd_Mg g0 s g lo mid hi i p q) (h1 : p < mid) (hs1 : sd_Srt s lo mid) (hs2 : sd_Srt s mid hi) (hc : q < hi → (s p).toInt ≤ (s q).toInt) : sd_Mg g0 s (upd g i (s p)) lo mid hi (i + 1) (p + 1) q := by
  have hl := h.lay (x := s p) (by have := h.1; omega) (fun j a b => h.2.2.2.2.1 j p a b (Nat.le_refl p) h1)
  obtain ⟨o, e0, e1, e2, e3, e4⟩ := h
  refine ⟨by omega, fun j a => by rw [pk_un (by omega)]; exact e0 j a, fun P => ?_, hl.2, fun j k a b c d => ?_, fun j k a b c d => ?_⟩
  · rw [hl.1, e1, sd_ctS (show lo ≤ p by omega)]; omega
  · by_cases e : j = i
    · subst e; rw [pk_us]; exact hs1 p k (by omega) (by omega) d
    · rw [pk_un e]; exact e3 j k a (by omega) (by omega) d
  · by_cases e : j = i
    · subst e; rw [pk_us]
      have r1 := hc (by omega)
      have r2 := hs2 q k (by omega) c d
      omega
    · rw [pk_un e]; exact e4 j k a (by omega) c d
theorem sd_Mg.snd (h : sd_Mg g0 s g lo mid hi i p q) (h1 : q < hi) (hs1 : sd_Srt s lo mid) (hs2 : sd_Srt s mid hi) (hc : p < mid → (s q).toInt ≤ (s p).toInt) : sd_Mg g0 s (upd g i (s q)) lo mid hi (i + 1) p (q + 1) := by
  have hl := h.lay (x := s q) (by have := h.1; omega) (fun j a b => h.2.2.2.2.2 j q a b (Nat.le_refl q) h1)
  obtain ⟨o, e0, e1, e2, e3, e4⟩ := h
  refine ⟨by omega, fun j a => by rw [pk_un (by omega)]; exact e0 j a, fun P => ?_, hl.2, fun j k a b c d => ?_, fun j k a b c d => ?_⟩
  · rw [hl.1, e1, sd_ctS (show mid ≤ q by omega)]; omega
  · by_cases e : j = i
    · subst e; rw [pk_us]
      have r1 := hc (by omega)
      have r2 := hs1 p k (by omega) c d
      omega
    · rw [pk_un e]; exact e3 j k a (by omega) c d
  · by_cases e : j = i
    · subst e; rw [pk_us]; exact hs2 q k (by omega) (by omega) d
    · rw [pk_un e]; exact e4 j k a (by omega) (by omega) d
theorem sd_Mg.en (h : sd_Mg g0 s g lo mid hi hi p q) : sd_Srt g lo hi ∧ (∀ j, j < lo ∨ hi ≤ j → g j = g0 j) ∧ ∀ P, sd_ct g P lo hi = sd_ct s P lo hi := by
  obtain ⟨o, e0, e1, e2, e3, e4⟩ := h
  have hp : p = mid := by omega
  have hq : q = hi := by omega
  subst hp; subst hq
  exact ⟨e2, e0, fun P => by rw [e1, sd_ctA (show lo ≤ p by omega) (show p ≤ q by omega)]⟩
end SdMg
end
section
/-! contracts over two int arrays; contracts with new cells -/
def sd_P2 (D : va_G) (h : Nat) (d : ClassId) (n : Nat) (f : Nat → Int32) (h' : Nat) (d' : ClassId) (n' : Nat) (f' : Nat → Int32) (sz : Nat) (U : State) : Prop := U.heap.size = sz ∧ va_P D sdCl [sd_ar h d n f, sd_ar h' d' n' f'] U.heap ∧ va_K D sdCl [(d, .int), (d', .int)] U ∧ va_D (fun _ => True) [sd_ar h d n f, sd_ar h' d' n' f']
def sd_B2 (D : va_G) (A : Nat → Prop) (h : Nat) (d : ClassId) (n : Nat) (h' : Nat) (d' : ClassId) (n' : Nat) (u : (Nat → Int32) × (Nat → Int32)) (t : State) : Prop := va_P D sdCl [sd_ar h d n u.1, sd_ar h' d' n' u.2] t.heap ∧ va_K D sdCl [(d, .int), (d', .int)] t ∧ va_D A [sd_ar h d n u.1, sd_ar h' d' n' u.2]
/-- the contract of a static void method over two int arrays; no new cells -/
def sd_M2 (l : Launch) (y : MethodName) (b : ByteArray) (L fr lo : Nat) (D : va_G) (h : Nat) (d : ClassId) (n : Nat) (f : Nat → Int32) (h' : Nat) (d' : ClassId) (n' : Nat) (f' : Nat → Int32) (as : List Value) (post : (Nat → Int32) × (Nat → Int32) → Prop) : Prop :=
  ∀ sz : Nat, Met l y (ws_ y b L none) { frames := fr, cells := 0, slots := 0, locals := lo } (va_Pc as (sd_P2 D h d n f h' d' n' f' sz)) (va_Qv post (sd_B2 D (va_A [sd_ar h d n f, sd_ar h' d' n' f'] sz) h d n h' d' n') (va_A [sd_ar h d n f, sd_ar h' d' n' f'] sz)) 0 0 (va_A [sd_ar h d n f, sd_ar h' d' n' f'] sz)
/-- the contract of a static void method over one int array that makes at most mc cells of ms slots -/
def sd_Mw (l : Launch) (y : MethodName) (b : ByteArray) (L fr lo mc ms : Nat) (D : va_G) (h : Nat) (d : ClassId) (n : Nat) (f : Nat → Int32) (as : List Value) (post : (Nat → Int32) → Prop) : Prop :=
  ∀ sz : Nat, Met l y (ws_ y b L none) { frames := fr, cells := mc, slots := ms, locals := lo } (va_Pc as (sd_Pa D h d n f sz)) (va_Qv post (sd_Ba D (va_A [sd_ar h d n f] sz) h d n) (va_A [sd_ar h d n f] sz)) mc ms (va_A [sd_ar h d n f] sz)
section SdCalls2
variable {p : Program} {l : Launch} {e : Env} {R : Room} {s : State} {m : MethodId} {args : Array Value} {below : List Frame} {meth : Method} {c : Code} {H : Heap} {locs : List Loc} {cells slots : Nat} {Q : State → Prop}
variable {cc : ByteArray} {pc nL : Nat} {ls : Array Slot} {rest st : List Value} {A : Nat → Prop} {H0 : Heap} {D : va_G} {tys : List (ClassId × FieldType)} {ws : va_W}
variable {own : String} {index nn : Nat} {y : MethodName} {b : ByteArray} {L fr lo mc ms h n h' n' : Nat} {d d' : ClassId} {f f' : Nat → Int32} {as : List Value}
theorem sd_two {k : Nat} {x z q : Nat × va_E} (hk : [x, z][k]? = some q) : (k = 0 ∧ q = x) ∨ (k = 1 ∧ q = z) := by
  have hk0 : k < 2 := (List.getElem?_eq_some_iff.mp hk).1
  rcases (show k = 0 ∨ k = 1 by omega) with rfl | rfl
  · cases hk; exact Or.inl ⟨rfl, rfl⟩
  · cases hk; exact Or.inr ⟨rfl, rfl⟩
theorem sd_callw {post : (Nat → Int32) → Prop} (S : CallFix p m c cc nL s args lw_all own) (hM : sd_Mw l y b L fr lo mc ms D h d n f as post) (hT : GoodIn lw_all (va_wsS own index y (ws_ y b L none)))
    (hd : y.cls ≠ "java/lang/invoke/MethodHandle" ∧ y.cls ≠ "java/lang/invoke/VarHandle" ∧ (parseMethodDescriptor y.desc).map (fun d => d.parameters.length) = some nn) (hn : as.length = nn) (hR : fr + 1 ≤ R.frames ∧ 8 + (L + 11) + lo ≤ R.locals) (hf : cells + mc ≤ R.cells ∧ slots + ms ≤ R.slots)
    (hG : sd_G D A H0 s tys ws H locs) (hA : ∀ q, H0.size ≤ q → A q) (q0 t0 : Nat) (ha : ws[q0]? = some (sd_ar h d n f)) (ht : tys[t0]? = some (d, .int)) (hls : ls.size = nL) (hst : st = as.reverse ++ rest) (hW : (rest.map fun v => v.category).sum ≤ 8) (hdg : decode cc pc = .ok (.invokestatic index, 3))
    (kk : ∀ (f' : Nat → Int32) (H1 : Heap) (locs1 : List Loc), post f' → sd_G D A H0 s tys (ws.set q0 (sd_ar h d n f')) H1 locs1 → W p l e R s m args below meth c H1 locs1 (cells + mc) (slots + ms) Q (F0 m (pc + 3) ls rest)) : W p l e R s m args below meth c H locs cells slots Q (F0 m pc ls st) := by
  obtain ⟨hK, hP, hD, hS⟩ := hG
  have hPc := sd_one hP ha
  have hDc : va_D (fun _ => True) [sd_ar h d n f] := sd_oneD trivial
  have hKc := sd_oneK hK ht
  have hFc := sd_oneA hD hS hA ha
  refine va_callv (va_runS (As := as) (rest := rest) S (hM H.size) (va_cwS nn S.2.2.2.2 hT rfl rfl rfl hd hR) ⟨fun a U g mk q => by obtain ⟨q0, q1, qP, qK, qD⟩ := q; exact ⟨q0, q1, qP, va_K.moved (u := U) (U := U.calling g mk a) (Vm.Alike.refl U.vm) qK, qD⟩, fun U hU hW => ⟨rfl, by rw [hU], by rw [hU]; exact hPc, va_K.moved hW.alike hKc, hDc⟩⟩ rfl hn hls hst (lv_room hW) hdg hf) hS (fun q _ h => hFc q h) hFc (fun u t H1 locs1 ht hvm hw hB hz1 hk1 hS1 => ?_)
  obtain ⟨hP1, hK1, hD1⟩ := hB
  rw [ht] at hP1
  exact kk u H1 locs1 hw ⟨hK, sd_setP hP hD ha hk1 (hP1 0 _ rfl), hD.set ha, hS1⟩
theorem sd_call2 {post : (Nat → Int32) × (Nat → Int32) → Prop} (S : CallFix p m c cc nL s args lw_all own) (hM : sd_M2 l y b L fr lo D h d n f h' d' n' f' as post) (hT : GoodIn lw_all (va_wsS own index y (ws_ y b L none)))
    (hd : y.cls ≠ "java/lang/invoke/MethodHandle" ∧ y.cls ≠ "java/lang/invoke/VarHandle" ∧ (parseMethodDescriptor y.desc).map (fun d => d.parameters.length) = some nn) (hn : as.length = nn) (hR : fr + 1 ≤ R.frames ∧ 8 + (L + 11) + lo ≤ R.locals) (hf : cells ≤ R.cells ∧ slots ≤ R.slots)
    (hG : sd_G D A H0 s tys ws H locs) (hA : ∀ q, H0.size ≤ q → A q) (q0 q1 t0 t1 : Nat) (hne : q0 ≠ q1) (ha : ws[q0]? = some (sd_ar h d n f)) (ha1 : ws[q1]? = some (sd_ar h' d' n' f')) (ht : tys[t0]? = some (d, .int)) (ht1 : tys[t1]? = some (d', .int)) (hls : ls.size = nL) (hst : st = as.reverse ++ rest) (hW : (rest.map fun v => v.category).sum ≤ 8) (hdg : decode cc pc = .ok (.invokestatic index, 3))
    (kk : ∀ (g g' : Nat → Int32) (H1 : Heap) (locs1 : List Loc), post (g, g') → sd_G D A H0 s tys ((ws.set q0 (sd_ar h d n g)).set q1 (sd_ar h' d' n' g')) H1 locs1 → W p l e R s m args below meth c H1 locs1 cells slots Q (F0 m (pc + 3) ls rest)) : W p l e R s m args below meth c H locs cells slots Q (F0 m pc ls st) := by
  obtain ⟨hK, hP, hD, hS⟩ := hG
  have hPc : va_P D sdCl [sd_ar h d n f, sd_ar h' d' n' f'] H := fun k q hk => by
    rcases sd_two hk with ⟨-, rfl⟩ | ⟨-, rfl⟩
    · exact hP q0 _ ha
    · exact hP q1 _ ha1
  have hDc : va_D (fun _ => True) [sd_ar h d n f, sd_ar h' d' n' f'] := ⟨fun i j x z hi hj hxz => by
    rcases sd_two hi with ⟨rfl, rfl⟩ | ⟨rfl, rfl⟩ <;> rcases sd_two hj with ⟨rfl, rfl⟩ | ⟨rfl, rfl⟩
    · rfl
    · exact absurd (hD.1 _ _ _ _ ha ha1 hxz) hne
    · exact absurd (hD.1 _ _ _ _ ha ha1 hxz.symm) hne
    · rfl, fun _ _ _ => trivial⟩
  have hKc : va_K D sdCl [(d, .int), (d', .int)] s := ⟨hK.1, fun k q hk => by
    have hk0 : k < 2 := (List.getElem?_eq_some_iff.mp hk).1
    rcases (show k = 0 ∨ k = 1 by omega) with rfl | rfl
    · cases hk; exact hK.2 t0 _ ht
    · cases hk; exact hK.2 t1 _ ht1⟩
  have hFc : ∀ q, va_A [sd_ar h d n f, sd_ar h' d' n' f'] H.size q → A q := fun q hq => by
    rcases hq with ⟨k, e9, hk⟩ | hq
    · rcases sd_two hk with ⟨-, e⟩ | ⟨-, e⟩
      · cases e; exact hD.2 q0 _ ha
      · cases e; exact hD.2 q1 _ ha1
    · exact hA q (Nat.le_trans hS.1 hq)
  refine va_callv (va_runS (As := as) (rest := rest) S (hM H.size) (va_cwS nn S.2.2.2.2 hT rfl rfl rfl hd hR) ⟨fun a U g mk q => by obtain ⟨q0, q1, qP, qK, qD⟩ := q; exact ⟨q0, q1, qP, va_K.moved (u := U) (U := U.calling g mk a) (Vm.Alike.refl U.vm) qK, qD⟩, fun U hU hW => ⟨rfl, by rw [hU], by rw [hU]; exact hPc, va_K.moved hW.alike hKc, hDc⟩⟩ rfl hn hls hst (lv_room hW) hdg ⟨hf.1, hf.2⟩) hS (fun q _ h => hFc q h) hFc (fun u t H1 locs1 ht hvm hw hB hz1 hk1 hS1 => ?_)
  obtain ⟨hP1, hK1, hD1⟩ := hB
  rw [ht] at hP1
  have hl0 := (List.getElem?_eq_some_iff.mp ha).1
  have hl1 := (List.getElem?_eq_some_iff.mp ha1).1
  have ha1' : (ws.set q0 (sd_ar h d n u.1))[q1]? = some (sd_ar h' d' n' f') := by rw [List.getElem?_set_ne hne]; exact ha1
  refine kk u.1 u.2 H1 locs1 hw ⟨hK, fun k q hk => ?_, (hD.set ha).set ha1', hS1⟩
  by_cases e1 : k = q1
  · subst e1
    rw [List.getElem?_set_self (by rw [List.length_set]; exact hl1)] at hk
    cases hk
    exact hP1 1 _ rfl
  · rw [List.getElem?_set_ne (Ne.symm e1)] at hk
    by_cases e0 : k = q0
    · subst e0
      rw [List.getElem?_set_self hl0] at hk
      cases hk
      exact hP1 0 _ rfl
    · rw [List.getElem?_set_ne (Ne.symm e0)] at hk
      refine (hP k q hk).kept (hk1 q.1 (hP k q hk).lt ?_)
      intro hz
      rcases hz with ⟨j, e9, hj⟩ | hj
      · rcases sd_two hj with ⟨-, e⟩ | ⟨-, e⟩
        · exact e0 (hD.1 k q0 q _ hk ha (Prod.mk.inj e).1)
        · exact e1 (hD.1 k q1 q _ hk ha1 (Prod.mk.inj e).1)
      · exact absurd (hP k q hk).lt (Nat.not_lt.mpr hj)
end SdCalls2
section SdEntry2
variable {l : Launch} {y : MethodName} {b : ByteArray} {L fr lo mc ms h n h' n' : Nat} {D : va_G} {d d' : ClassId} {f f' : Nat → Int32} {as : List Value}
theorem sd_M2.of {post : (Nat → Int32) × (Nat → Int32) → Prop} (hy : plainName y.cls = true) (hL : (lg_sl as).length ≤ L)
    (body : ∀ (p : Program) (e : Env) (s : State) (m : MethodId) (below : List Frame) (meth : Method) (c : Code) (A : Nat → Prop) (ls : Array Slot) (Q : State → Prop), sd_S p m c b L s as y → (∀ q : Nat, s.heap.size ≤ q → A q) → sd_G D A s.heap s [(d, .int), (d', .int)] [sd_ar h d n f, sd_ar h' d' n' f'] s.heap [] → lv_has ls L (lv_args 0 as) →
      (∀ (pc : Nat) (H : Heap) (locs : List Loc) (ls : Array Slot) (g g' : Nat → Int32), decode b pc = .ok (.return_, 1) → sd_G D A s.heap s [(d, .int), (d', .int)] [sd_ar h d n g, sd_ar h' d' n' g'] H locs → post (g, g') → W p l e { frames := fr, cells := 0, slots := 0, locals := lo } s m as.toArray below meth c H locs 0 0 Q (F0 m pc ls [])) →
      W p l e { frames := fr, cells := 0, slots := 0, locals := lo } s m as.toArray below meth c s.heap [] 0 0 Q (F0 m 0 ls [])) : sd_M2 l y b L fr lo D h d n f h' d' n' f' as post := by
  intro sz
  refine Met.ofW (cc := b) (maxL := L) (ret := none) hy rfl ?_
  intro p e s m args below meth c s₁ B hml hv
  obtain ⟨rfl, hsz, hP, hK, hD0⟩ := hv
  have hts := atoms_spec (ws := ws_ y b L none) B.pre
  have hts : ∀ w ∈ lw_all, w.before _ s = true := fun w h => hts w (List.mem_cons_of_mem _ h)
  have hown : s.vm.findClass y.cls = some m.cls := findClass_of_methodNamed B.named
  have hlocks := B.notSynchronized
  subst hsz
  have hD := hD0.self (sz := s.heap.size)
  have hl := lv_entry as (n := L) hL
  rw [lg_entry_eq]
  generalize (lg_sl as ++ List.replicate (L - (lg_sl as).length) Slot.unset).toArray = ls at hl ⊢
  refine body p e s m below meth c (va_A [sd_ar h d n f, sd_ar h' d' n' f'] s.heap.size) ls _ ⟨B.exec, B.bytes, hml, hown, hts⟩ (fun q hq => Or.inr hq) ⟨hK, hP, hD, va_S.rf⟩ hl ?_
  intro pc H locs ls' g g' hdg hG hp
  exact W.vret B.exec B.bytes B.returns (fun t ht hW => ⟨⟨(g, g'), rfl, hp, by rw [ht]; exact hG.2.1, va_K.moved hW.alike hG.1, hG.2.2.1⟩, hG.2.2.2.F ht⟩) hG.2.2.2.2.2 hdg
/-- a void method over one array that makes cells; nothing else of the launch is asked but what Pc says: 'ex' is a word of the tables that doesn't ride in the lists -/
theorem sd_Mw.of {post : (Nat → Int32) → Prop} (hy : plainName y.cls = true) (hL : (lg_sl as).length ≤ L)
    (body : ∀ (p : Program) (e : Env) (s : State) (m : MethodId) (below : List Frame) (meth : Method) (c : Code) (A : Nat → Prop) (ls : Array Slot) (Q : State → Prop), sd_S p m c b L s as y → (∀ q : Nat, s.heap.size ≤ q → A q) → sd_G D A s.heap s [(d, .int)] [sd_ar h d n f] s.heap [] → lv_has ls L (lv_args 0 as) →
      (∀ (pc : Nat) (H : Heap) (locs : List Loc) (ls : Array Slot) (f' : Nat → Int32), decode b pc = .ok (.return_, 1) → sd_G D A s.heap s [(d, .int)] [sd_ar h d n f'] H locs → post f' → W p l e { frames := fr, cells := mc, slots := ms, locals := lo } s m as.toArray below meth c H locs mc ms Q (F0 m pc ls [])) →
      W p l e { frames := fr, cells := mc, slots := ms, locals := lo } s m as.toArray below meth c s.heap [] 0 0 Q (F0 m 0 ls [])) : sd_Mw l y b L fr lo mc ms D h d n f as post := by
  intro sz
  refine Met.ofW (cc := b) (maxL := L) (ret := none) hy rfl ?_
  intro p e s m args below meth c s₁ B hml hv
  obtain ⟨rfl, hsz, hP, hK, hD0⟩ := hv
  have hts := atoms_spec (ws := ws_ y b L none) B.pre
  have hts : ∀ w ∈ lw_all, w.before _ s = true := fun w h => hts w (List.mem_cons_of_mem _ h)
  have hown : s.vm.findClass y.cls = some m.cls := findClass_of_methodNamed B.named
  have hlocks := B.notSynchronized
  subst hsz
  have hD := hD0.self (sz := s.heap.size)
  have hl := lv_entry as (n := L) hL
  rw [lg_entry_eq]
  generalize (lg_sl as ++ List.replicate (L - (lg_sl as).length) Slot.unset).toArray = ls at hl ⊢
  refine body p e s m below meth c (va_A [sd_ar h d n f] s.heap.size) ls _ ⟨B.exec, B.bytes, hml, hown, hts⟩ (fun q hq => Or.inr hq) ⟨hK, hP, hD, va_S.rf⟩ hl ?_
  intro pc H locs ls' f' hdg hG hp
  exact W.vret B.exec B.bytes B.returns (fun t ht hW => ⟨⟨f', rfl, hp, by rw [ht]; exact hG.2.1, va_K.moved hW.alike hG.1, hG.2.2.1⟩, hG.2.2.2.F ht⟩) hG.2.2.2.2.2 hdg
end SdEntry2
end
section
/-! System.arraycopy of ints -/
theorem sd_acw : nativeFrameWords "java/lang/System" "arraycopy" 5 + 11 ≤ 60 := by decide +kernel
section SdAc
variable {p : Program} {l : Launch} {e : Env} {R : Room} {s : State} {m : MethodId} {args : Array Value} {below : List Frame} {meth : Method} {c : Code} {H : Heap} {locs : List Loc} {cells slots : Nat} {Q : State → Prop}
variable {cc : ByteArray} {pc nL : Nat} {ls : Array Slot} {rest st : List Value} {A : Nat → Prop} {H0 : Heap} {D : va_G} {tys : List (ClassId × FieldType)} {ws : va_W}
theorem sd_acopy {own : String} {index : Nat} (S : CallFix p m c cc nL s args lw_all own) (hls : ls.size = nL) (hq : Cond.methodLink own index ⟨"java/lang/System", "arraycopy", "(Ljava/lang/Object;ILjava/lang/Object;II)V"⟩ ∈ lw_all) (hG : sd_G D A H0 s tys ws H locs) (q0 q1 t0 t1 : Nat) {h0 n0 h1 n1 : Nat} {d0 d1 : ClassId} {f g : Nat → Int32} (ha0 : ws[q0]? = some (sd_ar h0 d0 n0 f)) (ha1 : ws[q1]? = some (sd_ar h1 d1 n1 g)) (ht0 : tys[t0]? = some (d0, .int)) (ht1 : tys[t1]? = some (d1, .int)) {sp dp k : Nat} (b1 : sp + k ≤ n0) (b2 : dp + k ≤ n1) (hn0 : n0 < 2 ^ 31) (hn1 : n1 < 2 ^ 31)
    (hR : 1 ≤ R.frames ∧ (rest.map fun v => v.category).sum + 60 ≤ R.locals) (hdg : decode cc pc = .ok (.invokestatic index, 3))
    (kk : ∀ (H1 : Heap) (locs1 : List Loc), sd_G D A H0 s tys (ws.set q1 (sd_ar h1 d1 n1 (va_cpy f g sp dp k))) H1 locs1 → W p l e R s m args below meth c H1 locs1 cells slots Q (F0 m (pc + 3) ls rest)) : W p l e R s m args below meth c H locs cells slots Q (F0 m pc ls (.int (nI k) :: .int (nI dp) :: .ref h1 :: .int (nI sp) :: .ref h0 :: rest)) := by
  have c1 : (nI sp).toNatClampNeg = sp := nI_clamp (by omega)
  have c2 : (nI dp).toNatClampNeg = dp := nI_clamp (by omega)
  have c3 : (nI k).toNatClampNeg = k := nI_clamp (by omega)
  refine va_copyi S.1 S.2.1 (by rw [S.2.2.1, hls]) S.2.2.2.1 (S.2.2.2.2 _ hq) (S.2.2.2.2 _ q109) (S.2.2.2.2 _ q108) (S.2.2.2.2 _ q10) hG.1 hG.2.1 hG.2.2.1 hG.2.2.2 q0 q1 t0 t1 ha0 ha1 ht0 ht1 rfl (nI_pos (by omega)) (nI_pos (by omega)) (nI_pos (by omega)) (by rw [c1, c3]; exact b1) (by rw [c2, c3]; exact b2) (fun _ _ => rfl) hR.1 (by have := sd_acw; omega) hdg ?_
  rw [c1, c2, c3]
  exact fun H1 locs1 a1 a2 a3 => kk H1 locs1 ⟨hG.1, a1, a2, a3⟩
end SdAc
section SdMsP
variable {fa fs g1 g2 : Nat → Int32} {lo mid hi : Nat}
theorem sd_ms_ct (h1 : lo ≤ mid) (h2 : mid ≤ hi) (e1 : sd_Prm g1 fs lo mid) (e2 : sd_Prm g2 g1 mid hi) (he : ∀ i, lo ≤ i → i < hi → fs i = fa i) : ∀ P, sd_ct g2 P lo hi = sd_ct fa P lo hi := fun P =>
  (((e2.wd h1 h2 (Nat.le_refl hi)).tr (e1.wd (Nat.le_refl lo) h1 h2)).2 P).trans (sd_ctC he)
end SdMsP
end
section
set_option maxHeartbeats 4000000 in
set_option maxRecDepth 100000 in
theorem sd_ms_loop {p : Program} {l : Launch} {e : Env} {R : Room} {s : State} {m : MethodId} {args : Array Value} {below : List Frame} {meth : Method} {c : Code} {Q : State → Prop} {cells slots : Nat} {D : va_G} {A : Nat → Prop} {H0 : Heap} {h n k n2 : Nat} {d e0 : ClassId} (lo hi : Nat) (hh : hi ≤ n) (hh2 : hi ≤ n2) (hn : n < 2 ^ 30) (hn2 : n2 < 2 ^ 30) (S : CallFix p m c cX2_mergeSort_2 9 s args lw_all RX2) (mid : Nat) (hm : lo ≤ mid ∧ mid ≤ hi) {g0 u : Nat → Int32} (hs1 : sd_Srt u lo mid) (hs2 : sd_Srt u mid hi)
    (K : ∀ (g : Nat → Int32) (H : Heap) (locs : List Loc) (ls : Array Slot), (sd_Srt g lo hi ∧ (∀ j, j < lo ∨ hi ≤ j → g j = g0 j) ∧ ∀ P, sd_ct g P lo hi = sd_ct u P lo hi) → sd_G D A H0 s [(d, .int), (e0, .int)] [sd_ar h d n g, sd_ar k e0 n2 u] H locs → W p l e R s m args below meth c H locs cells slots Q (F0 m 146 ls [])) :
    ∀ (z i p1 q1 : Nat) (g : Nat → Int32), sd_Mg g0 u g lo mid hi i p1 q1 → hi - i < z → ∀ (H : Heap) (locs : List Loc) (ls : Array Slot), sd_G D A H0 s [(d, .int), (e0, .int)] [sd_ar h d n g, sd_ar k e0 n2 u] H locs → lv_has ls 9 [(0, .ref h), (1, .int (nI lo)), (2, .int (nI hi)), (3, .ref k), (5, .int (nI mid)), (6, .int (nI i)), (7, .int (nI p1)), (8, .int (nI q1))] → W p l e R s m args below meth c H locs cells slots Q (F0 m 85 ls []) := by
  intro z
  induction z with
  | zero => intro i p1 q1 g h1 h2; exact absurd h2 (Nat.not_lt_zero _)
  | succ z ih =>
    intro i p1 q1 g h1 h2 H locs ls hG hl
    have ho := h1.1
    refine lv_iload S.1 S.2.1 dX2_mergeSort_2_85 (lv_at hl 5 rfl) ?_
    refine lv_iload_n S.1 S.2.1 dX2_mergeSort_2_87 rfl (lv_at hl 2 rfl) ?_
    refine sd_ge (tgt := 146) S.1 S.2.1 dX2_mergeSort_2_88 (by decide) (sd_nT (by omega)) (sd_nT (by omega)) (fun c1 => ?_) (fun c1 => ?_)
    · have e : i = hi := by omega
      subst e
      exact K g H locs ls h1.en hG
    · refine lv_iload S.1 S.2.1 dX2_mergeSort_2_91 (lv_at hl 7 rfl) ?_
      refine lv_iload_n S.1 S.2.1 dX2_mergeSort_2_93 rfl (lv_at hl 2 rfl) ?_
      refine sd_ge (tgt := 115) S.1 S.2.1 dX2_mergeSort_2_94 (by decide) (sd_nT (by omega)) (sd_nT (by omega)) (fun c2 => ?_) (fun c2 => ?_)
      · refine lv_aload_n S.1 S.2.1 dX2_mergeSort_2_115 rfl (lv_at hl 0 rfl) ?_
        refine lv_iload S.1 S.2.1 dX2_mergeSort_2_116 (lv_at hl 5 rfl) ?_
        refine lv_aload_n S.1 S.2.1 dX2_mergeSort_2_118 rfl (lv_at hl 3 rfl) ?_
        refine lv_iload S.1 S.2.1 dX2_mergeSort_2_119 (lv_at hl 6 rfl) ?_
        refine lv_iinc (v := nI (p1 + 1)) (lv' := [(7, .int (nI (p1 + 1))), (0, .ref h), (1, .int (nI lo)), (2, .int (nI hi)), (3, .ref k), (5, .int (nI mid)), (6, .int (nI i)), (8, .int (nI q1))]) S.1 S.2.1 dX2_mergeSort_2_121 hl (k := 6) rfl (sd_i1 _) (by decide) rfl (fun ls hl => ?_)
        refine sd_iald S.1 S.2.1 hG 1 1 rfl rfl (by omega) (by omega) dX2_mergeSort_2_124 ?_
        refine sd_iast S.1 S.2.1 hG 0 0 rfl rfl (by omega) (by omega) dX2_mergeSort_2_125 (fun H locs hG => ?_)
        have hG : sd_G D A H0 s [(d, .int), (e0, .int)] [sd_ar h d n (upd g i (u p1)), sd_ar k e0 n2 u] H locs := hG
        refine lv_goto (tgt := 140) S.1 S.2.1 dX2_mergeSort_2_126 (by decide) ?_
        refine lv_iinc (v := nI (i + 1)) (lv' := [(6, .int (nI (i + 1))), (7, .int (nI (p1 + 1))), (0, .ref h), (1, .int (nI lo)), (2, .int (nI hi)), (3, .ref k), (5, .int (nI mid)), (8, .int (nI q1))]) S.1 S.2.1 dX2_mergeSort_2_140 hl (k := 6) rfl (sd_i1 _) (by decide) rfl (fun ls hl => ?_)
        refine lv_goto (tgt := 85) S.1 S.2.1 dX2_mergeSort_2_143 (by decide) ?_
        exact ih (i + 1) (p1 + 1) q1 _ (h1.fst (by omega) hs1 hs2 (fun q => absurd q (by omega))) (by omega) H locs ls hG (lv_sub hl [2, 3, 4, 5, 6, 0, 1, 7] rfl)
      · refine lv_iload S.1 S.2.1 dX2_mergeSort_2_97 (lv_at hl 6 rfl) ?_
        refine lv_iload S.1 S.2.1 dX2_mergeSort_2_99 (lv_at hl 4 rfl) ?_
        refine sd_ge (tgt := 129) S.1 S.2.1 dX2_mergeSort_2_101 (by decide) (sd_nT (by omega)) (sd_nT (by omega)) (fun c3 => ?_) (fun c3 => ?_)
        · refine lv_aload_n S.1 S.2.1 dX2_mergeSort_2_129 rfl (lv_at hl 0 rfl) ?_
          refine lv_iload S.1 S.2.1 dX2_mergeSort_2_130 (lv_at hl 5 rfl) ?_
          refine lv_aload_n S.1 S.2.1 dX2_mergeSort_2_132 rfl (lv_at hl 3 rfl) ?_
          refine lv_iload S.1 S.2.1 dX2_mergeSort_2_133 (lv_at hl 7 rfl) ?_
          refine lv_iinc (v := nI (q1 + 1)) (lv' := [(8, .int (nI (q1 + 1))), (0, .ref h), (1, .int (nI lo)), (2, .int (nI hi)), (3, .ref k), (5, .int (nI mid)), (6, .int (nI i)), (7, .int (nI p1))]) S.1 S.2.1 dX2_mergeSort_2_135 hl (k := 7) rfl (sd_i1 _) (by decide) rfl (fun ls hl => ?_)
          refine sd_iald S.1 S.2.1 hG 1 1 rfl rfl (by omega) (by omega) dX2_mergeSort_2_138 ?_
          refine sd_iast S.1 S.2.1 hG 0 0 rfl rfl (by omega) (by omega) dX2_mergeSort_2_139 (fun H locs hG => ?_)
          have hG : sd_G D A H0 s [(d, .int), (e0, .int)] [sd_ar h d n (upd g i (u q1)), sd_ar k e0 n2 u] H locs := hG
          refine lv_iinc (v := nI (i + 1)) (lv' := [(6, .int (nI (i + 1))), (8, .int (nI (q1 + 1))), (0, .ref h), (1, .int (nI lo)), (2, .int (nI hi)), (3, .ref k), (5, .int (nI mid)), (7, .int (nI p1))]) S.1 S.2.1 dX2_mergeSort_2_140 hl (k := 6) rfl (sd_i1 _) (by decide) rfl (fun ls hl => ?_)
          refine lv_goto (tgt := 85) S.1 S.2.1 dX2_mergeSort_2_143 (by decide) ?_
          exact ih (i + 1) p1 (q1 + 1) _ (h1.snd (by omega) hs1 hs2 (fun q => absurd q (by omega))) (by omega) H locs ls hG (lv_sub hl [2, 3, 4, 5, 6, 0, 7, 1] rfl)
        · refine lv_aload_n S.1 S.2.1 dX2_mergeSort_2_104 rfl (lv_at hl 3 rfl) ?_
          refine lv_iload S.1 S.2.1 dX2_mergeSort_2_105 (lv_at hl 6 rfl) ?_
          refine sd_iald S.1 S.2.1 hG 1 1 rfl rfl (by omega) (by omega) dX2_mergeSort_2_107 ?_
          refine lv_aload_n S.1 S.2.1 dX2_mergeSort_2_108 rfl (lv_at hl 3 rfl) ?_
          refine lv_iload S.1 S.2.1 dX2_mergeSort_2_109 (lv_at hl 7 rfl) ?_
          refine sd_iald S.1 S.2.1 hG 1 1 rfl rfl (by omega) (by omega) dX2_mergeSort_2_111 ?_
          refine sd_gt (tgt := 129) S.1 S.2.1 dX2_mergeSort_2_112 (by decide) rfl rfl (fun c4 => ?_) (fun c4 => ?_)
          · refine lv_aload_n S.1 S.2.1 dX2_mergeSort_2_129 rfl (lv_at hl 0 rfl) ?_
            refine lv_iload S.1 S.2.1 dX2_mergeSort_2_130 (lv_at hl 5 rfl) ?_
            refine lv_aload_n S.1 S.2.1 dX2_mergeSort_2_132 rfl (lv_at hl 3 rfl) ?_
            refine lv_iload S.1 S.2.1 dX2_mergeSort_2_133 (lv_at hl 7 rfl) ?_
            refine lv_iinc (v := nI (q1 + 1)) (lv' := [(8, .int (nI (q1 + 1))), (0, .ref h), (1, .int (nI lo)), (2, .int (nI hi)), (3, .ref k), (5, .int (nI mid)), (6, .int (nI i)), (7, .int (nI p1))]) S.1 S.2.1 dX2_mergeSort_2_135 hl (k := 7) rfl (sd_i1 _) (by decide) rfl (fun ls hl => ?_)
            refine sd_iald S.1 S.2.1 hG 1 1 rfl rfl (by omega) (by omega) dX2_mergeSort_2_138 ?_
            refine sd_iast S.1 S.2.1 hG 0 0 rfl rfl (by omega) (by omega) dX2_mergeSort_2_139 (fun H locs hG => ?_)
            have hG : sd_G D A H0 s [(d, .int), (e0, .int)] [sd_ar h d n (upd g i (u q1)), sd_ar k e0 n2 u] H locs := hG
            refine lv_iinc (v := nI (i + 1)) (lv' := [(6, .int (nI (i + 1))), (8, .int (nI (q1 + 1))), (0, .ref h), (1, .int (nI lo)), (2, .int (nI hi)), (3, .ref k), (5, .int (nI mid)), (7, .int (nI p1))]) S.1 S.2.1 dX2_mergeSort_2_140 hl (k := 6) rfl (sd_i1 _) (by decide) rfl (fun ls hl => ?_)
            refine lv_goto (tgt := 85) S.1 S.2.1 dX2_mergeSort_2_143 (by decide) ?_
            exact ih (i + 1) p1 (q1 + 1) _ (h1.snd (by omega) hs1 hs2 (fun _ => by omega)) (by omega) H locs ls hG (lv_sub hl [2, 3, 4, 5, 6, 0, 7, 1] rfl)
          · refine lv_aload_n S.1 S.2.1 dX2_mergeSort_2_115 rfl (lv_at hl 0 rfl) ?_
            refine lv_iload S.1 S.2.1 dX2_mergeSort_2_116 (lv_at hl 5 rfl) ?_
            refine lv_aload_n S.1 S.2.1 dX2_mergeSort_2_118 rfl (lv_at hl 3 rfl) ?_
            refine lv_iload S.1 S.2.1 dX2_mergeSort_2_119 (lv_at hl 6 rfl) ?_
            refine lv_iinc (v := nI (p1 + 1)) (lv' := [(7, .int (nI (p1 + 1))), (0, .ref h), (1, .int (nI lo)), (2, .int (nI hi)), (3, .ref k), (5, .int (nI mid)), (6, .int (nI i)), (8, .int (nI q1))]) S.1 S.2.1 dX2_mergeSort_2_121 hl (k := 6) rfl (sd_i1 _) (by decide) rfl (fun ls hl => ?_)
            refine sd_iald S.1 S.2.1 hG 1 1 rfl rfl (by omega) (by omega) dX2_mergeSort_2_124 ?_
            refine sd_iast S.1 S.2.1 hG 0 0 rfl rfl (by omega) (by omega) dX2_mergeSort_2_125 (fun H locs hG => ?_)
            have hG : sd_G D A H0 s [(d, .int), (e0, .int)] [sd_ar h d n (upd g i (u p1)), sd_ar k e0 n2 u] H locs := hG
            refine lv_goto (tgt := 140) S.1 S.2.1 dX2_mergeSort_2_126 (by decide) ?_
            refine lv_iinc (v := nI (i + 1)) (lv' := [(6, .int (nI (i + 1))), (7, .int (nI (p1 + 1))), (0, .ref h), (1, .int (nI lo)), (2, .int (nI hi)), (3, .ref k), (5, .int (nI mid)), (8, .int (nI q1))]) S.1 S.2.1 dX2_mergeSort_2_140 hl (k := 6) rfl (sd_i1 _) (by decide) rfl (fun ls hl => ?_)
            refine lv_goto (tgt := 85) S.1 S.2.1 dX2_mergeSort_2_143 (by decide) ?_
            exact ih (i + 1) (p1 + 1) q1 _ (h1.fst (by omega) hs1 hs2 (fun _ => c4)) (by omega) H locs ls hG (lv_sub hl [2, 3, 4, 5, 6, 0, 1, 7] rfl)
set_option maxHeartbeats 4000000 in
set_option maxRecDepth 100000 in
theorem sd_ms_29 {p : Program} {l : Launch} {e : Env} {R : Room} {s : State} {m : MethodId} {args : Array Value} {below : List Frame} {meth : Method} {c : Code} {Q : State → Prop} {cells slots : Nat} {D : va_G} {A : Nat → Prop} {H0 : Heap} {h n k n2 : Nat} {d e0 : ClassId} (lo hi : Nat) (hh : hi ≤ n) (hh2 : hi ≤ n2) (hn : n < 2 ^ 30) (hn2 : n2 < 2 ^ 30) (S : CallFix p m c cX2_mergeSort_2 9 s args lw_all RX2) (hC : cells ≤ R.cells ∧ slots ≤ R.slots) (hA : ∀ q : Nat, H0.size ≤ q → A q) (dd : Nat)
    (IH : ∀ (h : Nat) (d : ClassId) (n : Nat) (f : Nat → Int32) (k : Nat) (e0 : ClassId) (n2 : Nat) (g : Nat → Int32) (lo hi : Nat), lo ≤ hi → hi ≤ n → hi ≤ n2 → n < 2 ^ 30 → n2 < 2 ^ 30 → (∀ i, lo ≤ i → i < hi → f i = g i) → hi - lo ≤ dd + 15 → sd_M2 l yX2_mergeSort_2 cX2_mergeSort_2 9 (dd + 1) (28 * dd + 60) D h d n f k e0 n2 g [.ref h, .int (nI lo), .int (nI hi), .ref k] (fun u => sd_Srt u.1 lo hi ∧ sd_Prm u.1 f lo hi ∧ ∀ i, i < lo ∨ hi ≤ i → u.2 i = g i)) (hR : dd + 2 ≤ R.frames ∧ 28 * dd + 88 ≤ R.locals) (hlen : hi - lo ≤ dd + 16) (h16 : lo + 16 ≤ hi) {f g : Nat → Int32} (hfg : ∀ i, lo ≤ i → i < hi → f i = g i)
    (K : ∀ (pc : Nat) (g1 g2 : Nat → Int32) (H : Heap) (locs : List Loc) (ls : Array Slot), decode cX2_mergeSort_2 pc = .ok (.return_, 1) → (sd_Srt g1 lo hi ∧ sd_Prm g1 f lo hi ∧ ∀ i, i < lo ∨ hi ≤ i → g2 i = g i) → sd_G D A H0 s [(d, .int), (e0, .int)] [sd_ar h d n g1, sd_ar k e0 n2 g2] H locs → W p l e R s m args below meth c H locs cells slots Q (F0 m pc ls []))
    (H : Heap) (locs : List Loc) (ls : Array Slot) (hG : sd_G D A H0 s [(d, .int), (e0, .int)] [sd_ar h d n f, sd_ar k e0 n2 g] H locs) (hl : lv_has ls 9 [(0, .ref h), (1, .int (nI lo)), (2, .int (nI hi)), (3, .ref k), (4, .int (nI (hi - lo)))]) : W p l e R s m args below meth c H locs cells slots Q (F0 m 29 ls []) := by
  refine lv_iload_n S.1 S.2.1 dX2_mergeSort_2_29 rfl (lv_at hl 1 rfl) ?_
  refine lv_iload_n S.1 S.2.1 dX2_mergeSort_2_30 rfl (lv_at hl 2 rfl) ?_
  refine sd_iadd S.1 S.2.1 dX2_mergeSort_2_31 ?_
  refine lv_iconst (v := nI 1) S.1 S.2.1 dX2_mergeSort_2_32 (by decide +kernel) ?_
  refine sd_half S.1 S.2.1 (by omega) dX2_mergeSort_2_33 ?_
  obtain ⟨mid, hmid⟩ : ∃ mid, mid = (lo + hi) / 2 := ⟨_, rfl⟩
  rw [← hmid]
  have hm1 : lo + 8 ≤ mid := by omega
  have hm2 : mid + 8 ≤ hi := by omega
  refine lv_istore (lv' := [(5, .int (nI mid)), (0, .ref h), (1, .int (nI lo)), (2, .int (nI hi)), (3, .ref k), (4, .int (nI (hi - lo)))]) S.1 S.2.1 dX2_mergeSort_2_34 hl (by decide) rfl (fun ls hl => ?_)
  refine lv_aload_n S.1 S.2.1 dX2_mergeSort_2_36 rfl (lv_at hl 4 rfl) ?_
  refine lv_iload_n S.1 S.2.1 dX2_mergeSort_2_37 rfl (lv_at hl 2 rfl) ?_
  refine lv_iload S.1 S.2.1 dX2_mergeSort_2_38 (lv_at hl 0 rfl) ?_
  refine lv_aload_n S.1 S.2.1 dX2_mergeSort_2_40 rfl (lv_at hl 1 rfl) ?_
  refine sd_call2 (nn := 4) (rest := []) S (IH k e0 n2 g h d n f lo mid (by omega) (by omega) (by omega) hn2 hn (fun i a b => (hfg i a (by omega)).symm) (by omega)) (lw_S q90 q91 q6 q92) (by decide +kernel) rfl ⟨by omega, by omega⟩ hC hG hA 1 0 1 0 (by decide) rfl rfl rfl rfl hl.1 rfl (Nat.le_of_ble_eq_true rfl) dX2_mergeSort_2_41 (fun s1 a1 H locs e1 hG => ?_)
  have hG : sd_G D A H0 s [(d, .int), (e0, .int)] [sd_ar h d n a1, sd_ar k e0 n2 s1] H locs := hG
  dsimp only at e1
  refine lv_aload_n S.1 S.2.1 dX2_mergeSort_2_44 rfl (lv_at hl 4 rfl) ?_
  refine lv_iload S.1 S.2.1 dX2_mergeSort_2_45 (lv_at hl 0 rfl) ?_
  refine lv_iload_n S.1 S.2.1 dX2_mergeSort_2_47 rfl (lv_at hl 3 rfl) ?_
  refine lv_aload_n S.1 S.2.1 dX2_mergeSort_2_48 rfl (lv_at hl 1 rfl) ?_
  refine sd_call2 (nn := 4) (rest := []) S (IH k e0 n2 s1 h d n a1 mid hi (by omega) (by omega) (by omega) hn2 hn (fun i a b => by rw [e1.2.1.1 i (by omega), e1.2.2 i (by omega)]; exact (hfg i (by omega) b).symm) (by omega)) (lw_S q90 q91 q6 q92) (by decide +kernel) rfl ⟨by omega, by omega⟩ hC hG hA 1 0 1 0 (by decide) rfl rfl rfl rfl hl.1 rfl (Nat.le_of_ble_eq_true rfl) dX2_mergeSort_2_49 (fun s2 a2 H locs e2 hG => ?_)
  have hG : sd_G D A H0 s [(d, .int), (e0, .int)] [sd_ar h d n a2, sd_ar k e0 n2 s2] H locs := hG
  dsimp only at e2
  have hct : ∀ P, sd_ct s2 P lo hi = sd_ct f P lo hi := sd_ms_ct (by omega) (by omega) e1.2.1 e2.2.1 (fun i a b => (hfg i a b).symm)
  have hs1 : sd_Srt s2 lo mid := e1.1.cg (fun i a b => e2.2.1.1 i (by omega))
  have hs2 : sd_Srt s2 mid hi := e2.1
  have ho1 : ∀ i, i < lo ∨ hi ≤ i → a2 i = f i := fun i q => (e2.2.2 i (by omega)).trans (e1.2.2 i (by omega))
  have ho2 : ∀ i, i < lo ∨ hi ≤ i → s2 i = g i := fun i q => (e2.2.1.1 i (by omega)).trans (e1.2.1.1 i (by omega))
  refine lv_aload_n S.1 S.2.1 dX2_mergeSort_2_52 rfl (lv_at hl 4 rfl) ?_
  refine lv_iload S.1 S.2.1 dX2_mergeSort_2_53 (lv_at hl 0 rfl) ?_
  refine lv_iconst (v := nI 1) S.1 S.2.1 dX2_mergeSort_2_55 (by decide +kernel) ?_
  refine sd_isub S.1 S.2.1 (by omega) dX2_mergeSort_2_56 ?_
  refine sd_iald S.1 S.2.1 hG 1 1 rfl rfl (by omega) (by omega) dX2_mergeSort_2_57 ?_
  refine lv_aload_n S.1 S.2.1 dX2_mergeSort_2_58 rfl (lv_at hl 4 rfl) ?_
  refine lv_iload S.1 S.2.1 dX2_mergeSort_2_59 (lv_at hl 0 rfl) ?_
  refine sd_iald S.1 S.2.1 hG 1 1 rfl rfl (by omega) (by omega) dX2_mergeSort_2_61 ?_
  refine sd_gt (tgt := 75) S.1 S.2.1 dX2_mergeSort_2_62 (by decide) rfl rfl (fun c1 => ?_) (fun c1 => ?_)
  · refine lv_iload_n S.1 S.2.1 dX2_mergeSort_2_75 rfl (lv_at hl 2 rfl) ?_
    refine lv_istore (lv' := [(6, .int (nI lo)), (5, .int (nI mid)), (0, .ref h), (1, .int (nI lo)), (2, .int (nI hi)), (3, .ref k), (4, .int (nI (hi - lo)))]) S.1 S.2.1 dX2_mergeSort_2_76 hl (by decide) rfl (fun ls hl => ?_)
    refine lv_iload_n S.1 S.2.1 dX2_mergeSort_2_78 rfl (lv_at hl 3 rfl) ?_
    refine lv_istore (lv' := [(7, .int (nI lo)), (6, .int (nI lo)), (5, .int (nI mid)), (0, .ref h), (1, .int (nI lo)), (2, .int (nI hi)), (3, .ref k), (4, .int (nI (hi - lo)))]) S.1 S.2.1 dX2_mergeSort_2_79 hl (by decide) rfl (fun ls hl => ?_)
    refine lv_iload S.1 S.2.1 dX2_mergeSort_2_81 (lv_at hl 2 rfl) ?_
    refine lv_istore (lv' := [(8, .int (nI mid)), (7, .int (nI lo)), (6, .int (nI lo)), (5, .int (nI mid)), (0, .ref h), (1, .int (nI lo)), (2, .int (nI hi)), (3, .ref k), (4, .int (nI (hi - lo)))]) S.1 S.2.1 dX2_mergeSort_2_83 hl (by decide) rfl (fun ls hl => ?_)
    exact sd_ms_loop lo hi hh hh2 hn hn2 S mid ⟨by omega, by omega⟩ hs1 hs2 (fun g9 H locs ls q hG => K 146 g9 s2 H locs ls dX2_mergeSort_2_146 ⟨q.1, ⟨fun j o => (q.2.1 j o).trans (ho1 j o), fun P => (q.2.2 P).trans (hct P)⟩, ho2⟩ hG) (hi + 1) lo lo mid a2 (sd_Mg.st (by omega) (by omega)) (by omega) H locs ls hG (lv_sub hl [4, 5, 6, 7, 3, 2, 1, 0] rfl)
  · refine lv_aload_n S.1 S.2.1 dX2_mergeSort_2_65 rfl (lv_at hl 4 rfl) ?_
    refine lv_iload_n S.1 S.2.1 dX2_mergeSort_2_66 rfl (lv_at hl 2 rfl) ?_
    refine lv_aload_n S.1 S.2.1 dX2_mergeSort_2_67 rfl (lv_at hl 1 rfl) ?_
    refine lv_iload_n S.1 S.2.1 dX2_mergeSort_2_68 rfl (lv_at hl 2 rfl) ?_
    refine lv_iload S.1 S.2.1 dX2_mergeSort_2_69 (lv_at hl 5 rfl) ?_
    refine sd_acopy S hl.1 q110 hG 1 0 1 0 rfl rfl rfl rfl (by omega) (by omega) (by omega) (by omega) ⟨by omega, by show 0 + 60 ≤ _; omega⟩ dX2_mergeSort_2_71 (fun H locs hG => ?_)
    have hG : sd_G D A H0 s [(d, .int), (e0, .int)] [sd_ar h d n (va_cpy s2 a2 lo lo (hi - lo)), sd_ar k e0 n2 s2] H locs := hG
    have hin : ∀ j, lo ≤ j → j < hi → va_cpy s2 a2 lo lo (hi - lo) j = s2 j := fun j a b => by rw [pk_cpy_in a (by omega), show lo + (j - lo) = j by omega]
    have hout : ∀ j, j < lo ∨ hi ≤ j → va_cpy s2 a2 lo lo (hi - lo) j = a2 j := fun j a => pk_cpy_out (by omega)
    have hall : sd_Srt s2 lo hi := hs1.app hs2 (fun i j a1 b1 a2 b2 => Int.le_trans (hs1 i (mid - 1) a1 (by omega) (by omega)) (Int.le_trans c1 (hs2 mid j (Nat.le_refl mid) a2 b2)))
    exact K 74 _ s2 H locs ls dX2_mergeSort_2_74 ⟨hall.cg hin, ⟨fun j o => (hout j o).trans (ho1 j o), fun P => (sd_ctC hin).trans (hct P)⟩, ho2⟩ hG
set_option maxHeartbeats 4000000 in
set_option maxRecDepth 100000 in
/-- IntArrays.mergeSort(a, lo, hi, supp): supp holds the same there -/
theorem sd_mergeSort2 (l : Launch) (D : va_G) : ∀ (dd : Nat) (h : Nat) (d : ClassId) (n : Nat) (f : Nat → Int32) (k : Nat) (e0 : ClassId) (n2 : Nat) (g : Nat → Int32) (lo hi : Nat), lo ≤ hi → hi ≤ n → hi ≤ n2 → n < 2 ^ 30 → n2 < 2 ^ 30 → (∀ i, lo ≤ i → i < hi → f i = g i) → hi - lo ≤ dd + 15 → sd_M2 l yX2_mergeSort_2 cX2_mergeSort_2 9 (dd + 1) (28 * dd + 60) D h d n f k e0 n2 g [.ref h, .int (nI lo), .int (nI hi), .ref k] (fun u => sd_Srt u.1 lo hi ∧ sd_Prm u.1 f lo hi ∧ ∀ i, i < lo ∨ hi ≤ i → u.2 i = g i) := by
  intro dd
  induction dd with
  | zero =>
    intro h d n f k e0 n2 g lo hi h1 hh hh2 hn hn2 hfg hlen
    refine sd_M2.of (by decide) (Nat.le_of_ble_eq_true rfl) ?_
    intro p e s m below meth c A ls Q S hA hG hl ret
    have hl : lv_has ls 9 [(0, .ref h), (1, .int (nI lo)), (2, .int (nI hi)), (3, .ref k)] := hl
    refine lv_iload_n S.1 S.2.1 dX2_mergeSort_2_0 rfl (lv_at hl 2 rfl) ?_
    refine lv_iload_n S.1 S.2.1 dX2_mergeSort_2_1 rfl (lv_at hl 1 rfl) ?_
    refine sd_isub S.1 S.2.1 (by omega) dX2_mergeSort_2_2 ?_
    refine lv_istore (lv' := [(4, .int (nI (hi - lo))), (0, .ref h), (1, .int (nI lo)), (2, .int (nI hi)), (3, .ref k)]) S.1 S.2.1 dX2_mergeSort_2_3 hl (by decide) rfl (fun ls hl => ?_)
    refine lv_iload S.1 S.2.1 dX2_mergeSort_2_5 (lv_at hl 0 rfl) ?_
    refine lv_bipush (v := nI 16) S.1 S.2.1 dX2_mergeSort_2_7 (by decide +kernel) ?_
    refine sd_ge (tgt := 19) S.1 S.2.1 dX2_mergeSort_2_9 (by decide) (sd_nT (by omega)) (sd_nT (by omega)) (fun c1 => ?_) (fun c1 => ?_)
    · exact absurd c1 (by omega)
    · refine lv_aload_n S.1 S.2.1 dX2_mergeSort_2_12 rfl (lv_at hl 1 rfl) ?_
      refine lv_iload_n S.1 S.2.1 dX2_mergeSort_2_13 rfl (lv_at hl 2 rfl) ?_
      refine lv_iload_n S.1 S.2.1 dX2_mergeSort_2_14 rfl (lv_at hl 3 rfl) ?_
      refine sd_callv (nn := 3) (rest := []) S (sd_insertionSort l D h d n f lo hi h1 hh hn) (lw_S q93 q94 q6 q95) (by decide +kernel) rfl ⟨Nat.le_of_ble_eq_true rfl, Nat.le_of_ble_eq_true rfl⟩ ⟨Nat.le_refl _, Nat.le_refl _⟩ hG hA 0 0 rfl rfl hl.1 rfl (Nat.le_of_ble_eq_true rfl) dX2_mergeSort_2_15 (fun f' H locs ef' hG => ?_)
      have hG : sd_G D A s.heap s [(d, .int), (e0, .int)] [sd_ar h d n f', sd_ar k e0 n2 g] H locs := hG
      exact ret _ _ _ _ _ _ dX2_mergeSort_2_18 hG ⟨ef'.1, ef'.2, fun _ _ => rfl⟩
  | succ dd ih =>
    intro h d n f k e0 n2 g lo hi h1 hh hh2 hn hn2 hfg hlen
    refine sd_M2.of (by decide) (Nat.le_of_ble_eq_true rfl) ?_
    intro p e s m below meth c A ls Q S hA hG hl ret
    have hl : lv_has ls 9 [(0, .ref h), (1, .int (nI lo)), (2, .int (nI hi)), (3, .ref k)] := hl
    refine lv_iload_n S.1 S.2.1 dX2_mergeSort_2_0 rfl (lv_at hl 2 rfl) ?_
    refine lv_iload_n S.1 S.2.1 dX2_mergeSort_2_1 rfl (lv_at hl 1 rfl) ?_
    refine sd_isub S.1 S.2.1 (by omega) dX2_mergeSort_2_2 ?_
    refine lv_istore (lv' := [(4, .int (nI (hi - lo))), (0, .ref h), (1, .int (nI lo)), (2, .int (nI hi)), (3, .ref k)]) S.1 S.2.1 dX2_mergeSort_2_3 hl (by decide) rfl (fun ls hl => ?_)
    refine lv_iload S.1 S.2.1 dX2_mergeSort_2_5 (lv_at hl 0 rfl) ?_
    refine lv_bipush (v := nI 16) S.1 S.2.1 dX2_mergeSort_2_7 (by decide +kernel) ?_
    refine sd_ge (tgt := 19) S.1 S.2.1 dX2_mergeSort_2_9 (by decide) (sd_nT (by omega)) (sd_nT (by omega)) (fun c1 => ?_) (fun c1 => ?_)
    · refine lv_aload_n S.1 S.2.1 dX2_mergeSort_2_19 rfl (lv_at hl 4 rfl) ?_
      refine lv_ifnonnull (tgt := 29) S.1 S.2.1 dX2_mergeSort_2_20 (by decide) ?_
      exact sd_ms_29 lo hi hh hh2 hn hn2 S ⟨Nat.le_refl _, Nat.le_refl _⟩ hA dd ih ⟨by show dd + 2 ≤ dd + 1 + 1; omega, by show 28 * dd + 88 ≤ 28 * (dd + 1) + 60; omega⟩ (by omega) (by omega) hfg (fun pc g1 g2 H locs ls hd hp hG => ret _ _ _ _ _ _ hd hG hp) _ _ _ hG (lv_sub hl [1, 2, 3, 4, 0] rfl)
    · refine lv_aload_n S.1 S.2.1 dX2_mergeSort_2_12 rfl (lv_at hl 1 rfl) ?_
      refine lv_iload_n S.1 S.2.1 dX2_mergeSort_2_13 rfl (lv_at hl 2 rfl) ?_
      refine lv_iload_n S.1 S.2.1 dX2_mergeSort_2_14 rfl (lv_at hl 3 rfl) ?_
      refine sd_callv (nn := 3) (rest := []) S (sd_insertionSort l D h d n f lo hi h1 hh hn) (lw_S q93 q94 q6 q95) (by decide +kernel) rfl ⟨by show 0 + 1 ≤ dd + 1 + 1; omega, by show 8 + (7 + 11) + 0 ≤ 28 * (dd + 1) + 60; omega⟩ ⟨Nat.le_refl _, Nat.le_refl _⟩ hG hA 0 0 rfl rfl hl.1 rfl (Nat.le_of_ble_eq_true rfl) dX2_mergeSort_2_15 (fun f' H locs ef' hG => ?_)
      have hG : sd_G D A s.heap s [(d, .int), (e0, .int)] [sd_ar h d n f', sd_ar k e0 n2 g] H locs := hG
      exact ret _ _ _ _ _ _ dX2_mergeSort_2_18 hG ⟨ef'.1, ef'.2, fun _ _ => rfl⟩
end
section
/-! contracts that carry the word castable "[I" Cloneable (for clone, in Arrays.copyOf) -/
def sd_cst (U : State) : Prop := va_Nw (.castable "[I" "java/lang/Cloneable") U
def sd_Mc (l : Launch) (y : MethodName) (b : ByteArray) (L fr lo mc ms : Nat) (D : va_G) (h : Nat) (d : ClassId) (n : Nat) (f : Nat → Int32) (as : List Value) (post : (Nat → Int32) → Prop) : Prop :=
  ∀ sz : Nat, Met l y (ws_ y b L none) { frames := fr, cells := mc, slots := ms, locals := lo } (va_Pc as (fun U => sd_cst U ∧ sd_Pa D h d n f sz U)) (va_Qv post (sd_Ba D (va_A [sd_ar h d n f] sz) h d n) (va_A [sd_ar h d n f] sz)) mc ms (va_A [sd_ar h d n f] sz)
section SdCalls3
variable {p : Program} {l : Launch} {e : Env} {R : Room} {s : State} {m : MethodId} {args : Array Value} {below : List Frame} {meth : Method} {c : Code} {H : Heap} {locs : List Loc} {cells slots : Nat} {Q : State → Prop}
variable {cc : ByteArray} {pc nL : Nat} {ls : Array Slot} {rest st : List Value} {A : Nat → Prop} {H0 : Heap} {D : va_G} {tys : List (ClassId × FieldType)} {ws : va_W}
variable {own : String} {index nn : Nat} {y : MethodName} {b : ByteArray} {L fr lo mc ms h n h' n' : Nat} {d d' : ClassId} {f f' : Nat → Int32} {as : List Value}
theorem sd_callc {post : (Nat → Int32) → Prop} (S : CallFix p m c cc nL s args lw_all own) (hM : sd_Mc l y b L fr lo mc ms D h d n f as post) (hT : GoodIn lw_all (va_wsS own index y (ws_ y b L none)))
    (hd : y.cls ≠ "java/lang/invoke/MethodHandle" ∧ y.cls ≠ "java/lang/invoke/VarHandle" ∧ (parseMethodDescriptor y.desc).map (fun d => d.parameters.length) = some nn) (hn : as.length = nn) (hR : fr + 1 ≤ R.frames ∧ 8 + (L + 11) + lo ≤ R.locals) (hf : cells + mc ≤ R.cells ∧ slots + ms ≤ R.slots)
    (hcs : sd_cst s) (hG : sd_G D A H0 s tys ws H locs) (hA : ∀ q, H0.size ≤ q → A q) (q0 t0 : Nat) (ha : ws[q0]? = some (sd_ar h d n f)) (ht : tys[t0]? = some (d, .int)) (hls : ls.size = nL) (hst : st = as.reverse ++ rest) (hW : (rest.map fun v => v.category).sum ≤ 8) (hdg : decode cc pc = .ok (.invokestatic index, 3))
    (kk : ∀ (f' : Nat → Int32) (H1 : Heap) (locs1 : List Loc), post f' → sd_G D A H0 s tys (ws.set q0 (sd_ar h d n f')) H1 locs1 → W p l e R s m args below meth c H1 locs1 (cells + mc) (slots + ms) Q (F0 m (pc + 3) ls rest)) : W p l e R s m args below meth c H locs cells slots Q (F0 m pc ls st) := by
  obtain ⟨hK, hP, hD, hS⟩ := hG
  have hPc := sd_one hP ha
  have hDc : va_D (fun _ => True) [sd_ar h d n f] := sd_oneD trivial
  have hKc := sd_oneK hK ht
  have hFc := sd_oneA hD hS hA ha
  refine va_callv (va_runS (As := as) (rest := rest) S (hM H.size) (va_cwS nn S.2.2.2.2 hT rfl rfl rfl hd hR) ⟨fun a U g mk q => by obtain ⟨q0, qc, q1, qP, qK, qD⟩ := q; exact ⟨q0, va_Nw.same rfl rfl qc, q1, qP, va_K.moved (u := U) (U := U.calling g mk a) (Vm.Alike.refl U.vm) qK, qD⟩, fun U hU hW => ⟨rfl, va_Nw.warmC hW hcs, by rw [hU], by rw [hU]; exact hPc, va_K.moved hW.alike hKc, hDc⟩⟩ rfl hn hls hst (lv_room hW) hdg hf) hS (fun q _ h => hFc q h) hFc (fun u t H1 locs1 ht hvm hw hB hz1 hk1 hS1 => ?_)
  obtain ⟨hP1, hK1, hD1⟩ := hB
  rw [ht] at hP1
  exact kk u H1 locs1 hw ⟨hK, sd_setP hP hD ha hk1 (hP1 0 _ rfl), hD.set ha, hS1⟩
end SdCalls3
section SdEntry3
variable {l : Launch} {y : MethodName} {b : ByteArray} {L fr lo mc ms h n h' n' : Nat} {D : va_G} {d d' : ClassId} {f f' : Nat → Int32} {as : List Value}
/-- a void method over one array that makes cells; nothing else of the launch is asked but what Pc says: 'ex' is a word of the tables that doesn't ride in the lists -/
theorem sd_Mc.of {post : (Nat → Int32) → Prop} (hy : plainName y.cls = true) (hL : (lg_sl as).length ≤ L)
    (body : ∀ (p : Program) (e : Env) (s : State) (m : MethodId) (below : List Frame) (meth : Method) (c : Code) (A : Nat → Prop) (ls : Array Slot) (Q : State → Prop), sd_S p m c b L s as y → sd_cst s → (∀ q : Nat, s.heap.size ≤ q → A q) → sd_G D A s.heap s [(d, .int)] [sd_ar h d n f] s.heap [] → lv_has ls L (lv_args 0 as) →
      (∀ (pc : Nat) (H : Heap) (locs : List Loc) (ls : Array Slot) (f' : Nat → Int32), decode b pc = .ok (.return_, 1) → sd_G D A s.heap s [(d, .int)] [sd_ar h d n f'] H locs → post f' → W p l e { frames := fr, cells := mc, slots := ms, locals := lo } s m as.toArray below meth c H locs mc ms Q (F0 m pc ls [])) →
      W p l e { frames := fr, cells := mc, slots := ms, locals := lo } s m as.toArray below meth c s.heap [] 0 0 Q (F0 m 0 ls [])) : sd_Mc l y b L fr lo mc ms D h d n f as post := by
  intro sz
  refine Met.ofW (cc := b) (maxL := L) (ret := none) hy rfl ?_
  intro p e s m args below meth c s₁ B hml hv
  obtain ⟨rfl, hcs, hsz, hP, hK, hD0⟩ := hv
  have hts := atoms_spec (ws := ws_ y b L none) B.pre
  have hts : ∀ w ∈ lw_all, w.before _ s = true := fun w h => hts w (List.mem_cons_of_mem _ h)
  have hown : s.vm.findClass y.cls = some m.cls := findClass_of_methodNamed B.named
  have hlocks := B.notSynchronized
  subst hsz
  have hD := hD0.self (sz := s.heap.size)
  have hl := lv_entry as (n := L) hL
  rw [lg_entry_eq]
  generalize (lg_sl as ++ List.replicate (L - (lg_sl as).length) Slot.unset).toArray = ls at hl ⊢
  refine body p e s m below meth c (va_A [sd_ar h d n f] s.heap.size) ls _ ⟨B.exec, B.bytes, hml, hown, hts⟩ hcs (fun q hq => Or.inr hq) ⟨hK, hP, hD, va_S.rf⟩ hl ?_
  intro pc H locs ls' f' hdg hG hp
  exact W.vret B.exec B.bytes B.returns (fun t ht hW => ⟨⟨f', rfl, hp, by rw [ht]; exact hG.2.1, va_K.moved hW.alike hG.1, hG.2.2.1⟩, hG.2.2.2.F ht⟩) hG.2.2.2.2.2 hdg
end SdEntry3
end
section
/-- what Arrays.copyOf leaves: the old array, and a new one of k places -/
def sd_Bc (D : va_G) (A : Nat → Prop) (h : Nat) (d : ClassId) (n : Nat) (f : Nat → Int32) (k : Nat) (u : (Nat → Int32) × ClassId) (a : Nat) (t : State) : Prop := va_P D sdCl [sd_ar h d n f, sd_ar a u.2 k u.1] t.heap ∧ va_K D sdCl [(d, .int), (u.2, .int)] t ∧ va_D A [sd_ar h d n f, sd_ar a u.2 k u.1]
def sd_Cp (l : Launch) (D : va_G) (h : Nat) (d : ClassId) (n : Nat) (f : Nat → Int32) (k : Nat) : Prop := ∀ sz : Nat, Met l yJ2_copyOf (ws_ yJ2_copyOf cJ2_copyOf 3 (some (.array .int))) { frames := 1, cells := 1, slots := 2048, locals := 64 } (va_Pc [.ref h, .int (nI k)] (fun U => sd_cst U ∧ sd_Pa D h d n f sz U)) (va_Qr (fun u : (Nat → Int32) × ClassId => ∀ j, j < k → u.1 j = f j) (sd_Bc D (va_A [sd_ar h d n f] sz) h d n f k) (va_A [sd_ar h d n f] sz)) 1 2048 (va_A [sd_ar h d n f] sz)
set_option maxHeartbeats 4000000 in
set_option maxRecDepth 100000 in
/-- Arrays.copyOf(a, k), k at most its length -/
theorem sd_copyOf (l : Launch) (D : va_G) (h : Nat) (d : ClassId) (n : Nat) (f : Nat → Int32) (k : Nat) (hk : k ≤ n) (hn : n ≤ 2048) : sd_Cp l D h d n f k := by
  intro sz
  refine Met.ofW (cc := cJ2_copyOf) (maxL := 3) (ret := some (.array .int)) (by decide) rfl ?_
  intro p e s m args below meth c s₁ B hml hv
  obtain ⟨rfl, hcs, hsz, hP, hK, hD0⟩ := hv
  have hts := atoms_spec (ws := ws_ yJ2_copyOf cJ2_copyOf 3 (some (.array .int))) B.pre
  have hts : ∀ w ∈ lw_all, w.before _ s = true := fun w h => hts w (List.mem_cons_of_mem _ h)
  have hown : s.vm.findClass RJ2 = some m.cls := findClass_of_methodNamed B.named
  have hlocks := B.notSynchronized
  subst hsz
  have hD := hD0.self (sz := s.heap.size)
  have hl := lv_entry ([.ref h, .int (nI k)]) (n := 3) (Nat.le_of_ble_eq_true rfl)
  rw [lg_entry_eq]
  generalize (lg_sl ([.ref h, .int (nI k)]) ++ List.replicate (3 - (lg_sl ([.ref h, .int (nI k)])).length) Slot.unset).toArray = ls at hl ⊢
  obtain ⟨A, hAe⟩ : ∃ A, A = va_A [sd_ar h d n f] s.heap.size := ⟨_, rfl⟩
  rw [← hAe] at hD ⊢
  have hA : ∀ q : Nat, s.heap.size ≤ q → A q := fun q hq => by rw [hAe]; exact Or.inr hq
  have hG : sd_G D A s.heap s [(d, .int)] [sd_ar h d n f] s.heap [] := ⟨hK, hP, hD, va_S.rf⟩
  have S : CallFix p m c cJ2_copyOf 3 s ([.ref h, .int (nI k)] : List Value).toArray lw_all RJ2 := ⟨B.exec, B.bytes, hml, hown, hts⟩
  have hnm : s.vm.findClass "[I" = some d := (hK.2 0 _ rfl).2
  have hl : lv_has ls 3 [(0, .ref h), (1, .int (nI k))] := hl
  refine lv_iload_n S.1 S.2.1 dJ2_copyOf_0 rfl (lv_at hl 1 rfl) ?_
  refine lv_aload_n S.1 S.2.1 dJ2_copyOf_1 rfl (lv_at hl 0 rfl) ?_
  refine sd_alen S.1 S.2.1 hG 0 0 rfl rfl dJ2_copyOf_2 ?_
  refine sd_ne (tgt := 14) S.1 S.2.1 dJ2_copyOf_3 (by decide) (sd_nT (by omega)) (sd_nT (by omega)) (fun c1 => ?_) (fun c1 => ?_)
  · refine lv_iload_n S.1 S.2.1 dJ2_copyOf_14 rfl (lv_at hl 1 rfl) ?_
    refine va_newa (atype := .int) S.1 S.2.1 (S.2.2.2.2 _ q26) rfl hG.1 hG.2.1 hG.2.2.1 hG.2.2.2 hA (a0 := (k, .inl (fun _ => 0))) (fun _ => rfl) (nI_pos (by omega)) (nI_clamp (by omega)) (by show k * 4 ≤ _; omega) (Nat.le_of_ble_eq_true rfl) (by show 0 + k ≤ 2048; omega) dJ2_copyOf_15 (fun a d2 H hK hP hD hS => ?_)
    have hG : sd_G D A s.heap s [(d, .int), (d2, .int)] [sd_ar h d n f, sd_ar a d2 k (fun _ => 0)] H [] := ⟨hK, hP, hD, hS⟩
    refine lv_astore_n (lv' := [(2, .ref a), (0, .ref h), (1, .int (nI k))]) S.1 S.2.1 dJ2_copyOf_17 rfl hl (by decide) rfl (fun ls hl => ?_)
    refine lv_aload_n S.1 S.2.1 dJ2_copyOf_18 rfl (lv_at hl 1 rfl) ?_
    refine lv_iconst (v := nI 0) S.1 S.2.1 dJ2_copyOf_19 (by decide +kernel) ?_
    refine lv_aload_n S.1 S.2.1 dJ2_copyOf_20 rfl (lv_at hl 0 rfl) ?_
    refine lv_iconst (v := nI 0) S.1 S.2.1 dJ2_copyOf_21 (by decide +kernel) ?_
    refine lv_aload_n S.1 S.2.1 dJ2_copyOf_22 rfl (lv_at hl 1 rfl) ?_
    refine sd_alen S.1 S.2.1 hG 0 0 rfl rfl dJ2_copyOf_23 ?_
    refine lv_iload_n S.1 S.2.1 dJ2_copyOf_24 rfl (lv_at hl 2 rfl) ?_
    refine sd_mmin (by omega) (by omega) S hl.1 q106 ⟨Nat.le_of_ble_eq_true rfl, Nat.le_of_ble_eq_true rfl⟩ ⟨Nat.le_of_ble_eq_true rfl, by show 0 + k ≤ 2048; omega⟩ dJ2_copyOf_25 ?_
    rw [Nat.min_eq_right hk]
    refine sd_acopy S hl.1 q107 hG 0 1 0 1 rfl rfl rfl rfl (by omega) (by omega) (by omega) (by omega) ⟨Nat.le_of_ble_eq_true rfl, Nat.le_of_ble_eq_true rfl⟩ dJ2_copyOf_28 (fun H locs hG => ?_)
    have hG : sd_G D A s.heap s [(d, .int), (d2, .int)] [sd_ar h d n f, sd_ar a d2 k (va_cpy f (fun _ => 0) 0 0 k)] H locs := hG
    refine lv_aload_n S.1 S.2.1 dJ2_copyOf_31 rfl (lv_at hl 0 rfl) ?_
    refine W.widen (k := 1) (n := 2048) (by omega) (by omega) ?_
    exact W.aret (v := .ref a) S.1 S.2.1 B.returns (Or.inr ⟨_, rfl⟩) (Or.inr ⟨_, rfl⟩) (fun t ht hW => ⟨⟨(va_cpy f (fun _ => 0) 0 0 k, d2), a, rfl, fun j hj => by show va_cpy f (fun _ => 0) 0 0 k j = f j; rw [pk_cpy_in (Nat.zero_le _) (by omega)]; simp, by rw [ht]; exact hG.2.1, va_K.moved hW.alike hG.1, hG.2.2.1⟩, hG.2.2.2.F ht⟩) hG.2.2.2.2.2 dJ2_copyOf_32
  · refine lv_aload_n S.1 S.2.1 dJ2_copyOf_6 rfl (lv_at hl 0 rfl) ?_
    have hkn : k = n := by omega
    subst hkn
    refine va_clone S.1 S.2.1 (by rw [S.2.2.1, hl.1]) S.2.2.2.1 (S.2.2.2.2 _ q99) (S.2.2.2.2 _ q100) (S.2.2.2.2 _ q101) (S.2.2.2.2 _ q102) (S.2.2.2.2 _ q103) hcs hG.1 hG.2.1 hG.2.2.1 hG.2.2.2 hA 0 0 rfl rfl hnm (fun i v hv => ?_) (Nat.le_of_ble_eq_true rfl) (Nat.le_of_ble_eq_true rfl) (Nat.le_of_ble_eq_true rfl) (by show 0 + k ≤ 2048; omega) dJ2_copyOf_7 (fun a H hK hP hD hS => ?_)
    · have hi : i < k := by
        have := (Array.getElem?_eq_some_iff.mp hv).1
        rw [vp_cell_i, arrV_size] at this
        exact this
      rw [vp_cell_i, arrV_read _ _ hi] at hv
      cases hv
      rfl
    have hG : sd_G D A s.heap s [(d, .int), (d, .int)] [sd_ar h d k f, sd_ar a d k f] H [] := ⟨hK, hP, hD, hS⟩
    refine va_castA S.1 S.2.1 S.2.2.2.1 (S.2.2.2.2 _ q105) hG.2.1 1 rfl hnm dJ2_copyOf_10 ?_
    refine W.widen (k := 1) (n := 2048) (by omega) (by show 0 + k ≤ 2048; omega) ?_
    exact W.aret (v := .ref a) S.1 S.2.1 B.returns (Or.inr ⟨_, rfl⟩) (Or.inr ⟨_, rfl⟩) (fun t ht hW => ⟨⟨(f, d), a, rfl, fun _ _ => rfl, by rw [ht]; exact hG.2.1, va_K.moved hW.alike hG.1, hG.2.2.1⟩, hG.2.2.2.F ht⟩) hG.2.2.2.2.2 dJ2_copyOf_13
end
section
set_option maxHeartbeats 4000000 in
set_option maxRecDepth 100000 in
/-- IntArrays.mergeSort(a, lo, hi, null) -/
theorem sd_mergeSortN (l : Launch) (D : va_G) (h : Nat) (d : ClassId) (n : Nat) (f : Nat → Int32) (lo hi : Nat) (h1 : lo ≤ hi) (hh : hi ≤ n) (hn : n ≤ 2048) : sd_Mc l yX2_mergeSort_2 cX2_mergeSort_2 9 2035 57012 1 2048 D h d n f [.ref h, .int (nI lo), .int (nI hi), .null] (fun f' => sd_Srt f' lo hi ∧ sd_Prm f' f lo hi) := by
  refine sd_Mc.of (by decide) (Nat.le_of_ble_eq_true rfl) ?_
  intro p e s m below meth c A ls Q S hcs hA hG hl ret
  have hl : lv_has ls 9 [(0, .ref h), (1, .int (nI lo)), (2, .int (nI hi)), (3, .null)] := hl
  refine lv_iload_n S.1 S.2.1 dX2_mergeSort_2_0 rfl (lv_at hl 2 rfl) ?_
  refine lv_iload_n S.1 S.2.1 dX2_mergeSort_2_1 rfl (lv_at hl 1 rfl) ?_
  refine sd_isub S.1 S.2.1 (by omega) dX2_mergeSort_2_2 ?_
  refine lv_istore (lv' := [(4, .int (nI (hi - lo))), (0, .ref h), (1, .int (nI lo)), (2, .int (nI hi)), (3, .null)]) S.1 S.2.1 dX2_mergeSort_2_3 hl (by decide) rfl (fun ls hl => ?_)
  refine lv_iload S.1 S.2.1 dX2_mergeSort_2_5 (lv_at hl 0 rfl) ?_
  refine lv_bipush (v := nI 16) S.1 S.2.1 dX2_mergeSort_2_7 (by decide +kernel) ?_
  refine sd_ge (tgt := 19) S.1 S.2.1 dX2_mergeSort_2_9 (by decide) (sd_nT (by omega)) (sd_nT (by omega)) (fun c1 => ?_) (fun c1 => ?_)
  · refine lv_aload_nN S.1 S.2.1 dX2_mergeSort_2_19 rfl (lv_at hl 4 rfl) ?_
    refine lv_ifnonnullN S.1 S.2.1 dX2_mergeSort_2_20 ?_
    refine lv_aload_n S.1 S.2.1 dX2_mergeSort_2_23 rfl (lv_at hl 1 rfl) ?_
    refine lv_iload_n S.1 S.2.1 dX2_mergeSort_2_24 rfl (lv_at hl 3 rfl) ?_
    have hFc := sd_oneA (q0 := 0) hG.2.2.1 hG.2.2.2 hA rfl
    have hDc : va_D (fun _ => True) [sd_ar h d n f] := sd_oneD trivial
    refine va_callr (va_runS (As := [.ref h, .int (nI hi)]) (rest := []) S (sd_copyOf l D h d n f hi hh hn s.heap.size) (va_cwS 2 S.2.2.2.2 (lw_S q96 q97 q9 q98) rfl rfl rfl (by decide +kernel) ⟨Nat.le_of_ble_eq_true rfl, Nat.le_of_ble_eq_true rfl⟩) ⟨fun a U g mk q => by obtain ⟨q0, qc, q1, qP, qK, qD⟩ := q; exact ⟨q0, va_Nw.same rfl rfl qc, q1, qP, va_K.moved (u := U) (U := U.calling g mk a) (Vm.Alike.refl U.vm) qK, qD⟩, fun U hU hW => ⟨rfl, va_Nw.warmC hW hcs, by rw [hU], by rw [hU]; exact hG.2.1, va_K.moved hW.alike hG.1, hDc⟩⟩ rfl rfl hl.1 rfl (lv_room (Nat.le_of_ble_eq_true rfl)) dX2_mergeSort_2_25 ⟨Nat.le_of_ble_eq_true rfl, Nat.le_of_ble_eq_true rfl⟩) hG.2.2.2 (fun q _ h => hFc q h) hFc (fun u a t H locs ht hvm hw hB hz1 hk1 hS => ?_)
    obtain ⟨g, d2⟩ := u
    have hw : ∀ j, j < hi → g j = f j := hw
    have hG : sd_G D A s.heap s [(d, .int), (d2, .int)] [sd_ar h d n f, sd_ar a d2 hi g] H locs := ⟨va_K.moved hvm.symm hB.2.1, by rw [← ht]; exact hB.1, hB.2.2.weaken (fun _ _ _ h => hFc _ h), hS⟩
    refine lv_astore_n (lv' := [(3, .ref a), (4, .int (nI (hi - lo))), (0, .ref h), (1, .int (nI lo)), (2, .int (nI hi))]) S.1 S.2.1 dX2_mergeSort_2_28 rfl hl (by decide) rfl (fun ls hl => ?_)
    exact sd_ms_29 lo hi hh (Nat.le_refl hi) (by omega) (by omega) S ⟨Nat.le_of_ble_eq_true rfl, Nat.le_of_ble_eq_true rfl⟩ hA 2033 (sd_mergeSort2 l D 2033) ⟨Nat.le_of_ble_eq_true rfl, Nat.le_of_ble_eq_true rfl⟩ (by omega) (by omega) (fun i _ b => (hw i b).symm) (fun pc g1 g2 H locs ls hd hp hG => ret _ _ _ _ _ hd ⟨hG.1.sub [0] rfl, hG.2.1.sub [0] rfl, hG.2.2.1.sub [0] (by decide) rfl, hG.2.2.2⟩ ⟨hp.1, hp.2.1⟩) _ _ _ hG (lv_sub hl [2, 3, 4, 0, 1] rfl)
  · refine lv_aload_n S.1 S.2.1 dX2_mergeSort_2_12 rfl (lv_at hl 1 rfl) ?_
    refine lv_iload_n S.1 S.2.1 dX2_mergeSort_2_13 rfl (lv_at hl 2 rfl) ?_
    refine lv_iload_n S.1 S.2.1 dX2_mergeSort_2_14 rfl (lv_at hl 3 rfl) ?_
    refine sd_callv (nn := 3) (rest := []) S (sd_insertionSort l D h d n f lo hi h1 hh (by omega)) (lw_S q93 q94 q6 q95) (by decide +kernel) rfl ⟨Nat.le_of_ble_eq_true rfl, Nat.le_of_ble_eq_true rfl⟩ ⟨Nat.le_of_ble_eq_true rfl, Nat.le_of_ble_eq_true rfl⟩ hG hA 0 0 rfl rfl hl.1 rfl (Nat.le_of_ble_eq_true rfl) dX2_mergeSort_2_15 (fun f' H locs ef' hG => ?_)
    have hG : sd_G D A s.heap s [(d, .int)] [sd_ar h d n f'] H locs := hG
    refine W.widen (k := 1) (n := 2048) (Nat.le_of_ble_eq_true rfl) (Nat.le_of_ble_eq_true rfl) ?_
    exact ret _ _ _ _ _ dX2_mergeSort_2_18 hG ef'
set_option maxHeartbeats 4000000 in
set_option maxRecDepth 100000 in
/-- IntArrays.mergeSort(a, lo, hi) -/
theorem sd_mergeSort (l : Launch) (D : va_G) (h : Nat) (d : ClassId) (n : Nat) (f : Nat → Int32) (lo hi : Nat) (h1 : lo ≤ hi) (hh : hi ≤ n) (hn : n ≤ 2048) : sd_Mc l yX2_mergeSort cX2_mergeSort 3 2036 57040 1 2048 D h d n f [.ref h, .int (nI lo), .int (nI hi)] (fun f' => sd_Srt f' lo hi ∧ sd_Prm f' f lo hi) := by
  refine sd_Mc.of (by decide) (Nat.le_of_ble_eq_true rfl) ?_
  intro p e s m below meth c A ls Q S hcs hA hG hl ret
  have hl : lv_has ls 3 [(0, .ref h), (1, .int (nI lo)), (2, .int (nI hi))] := hl
  refine lv_aload_n S.1 S.2.1 dX2_mergeSort_0 rfl (lv_at hl 0 rfl) ?_
  refine lv_iload_n S.1 S.2.1 dX2_mergeSort_1 rfl (lv_at hl 1 rfl) ?_
  refine lv_iload_n S.1 S.2.1 dX2_mergeSort_2 rfl (lv_at hl 2 rfl) ?_
  refine lv_null S.1 S.2.1 dX2_mergeSort_3 ?_
  refine lv_castN S.1 S.2.1 dX2_mergeSort_4 ?_
  refine sd_callc (nn := 4) (rest := []) S (sd_mergeSortN l D h d n f lo hi h1 hh hn) (lw_S q90 q91 q6 q92) (by decide +kernel) rfl ⟨Nat.le_of_ble_eq_true rfl, Nat.le_of_ble_eq_true rfl⟩ ⟨Nat.le_of_ble_eq_true rfl, Nat.le_of_ble_eq_true rfl⟩ hcs hG hA 0 0 rfl rfl hl.1 rfl (Nat.le_of_ble_eq_true rfl) dX2_mergeSort_7 (fun f' H locs ef' hG => ?_)
  have hG : sd_G D A s.heap s [(d, .int)] [sd_ar h d n f'] H locs := hG
  exact ret _ _ _ _ _ dX2_mergeSort_10 hG ef'
end
section
/-- what binarySearch answers: the place of key, or (by its complement) where it would stand -/
def sd_Bs (f : Nat → Int32) (lo hi : Nat) (key r : Int32) : Prop := (∃ j, lo ≤ j ∧ j < hi ∧ (f j).toInt = key.toInt ∧ r = nI j) ∨ ∃ j, lo ≤ j ∧ j ≤ hi ∧ (∀ i, lo ≤ i → i < j → (f i).toInt < key.toInt) ∧ (∀ i, j ≤ i → i < hi → key.toInt < (f i).toInt) ∧ r = -nI (j + 1)
set_option maxHeartbeats 4000000 in
set_option maxRecDepth 100000 in
theorem sd_bs_loop {p : Program} {l : Launch} {e : Env} {R : Room} {s : State} {m : MethodId} {args : Array Value} {below : List Frame} {meth : Method} {c : Code} {Q : State → Prop} {cells slots : Nat} {D : va_G} {A : Nat → Prop} {H0 : Heap} {h n : Nat} {d : ClassId} {f : Nat → Int32} {H : Heap} {locs : List Loc} (lo hi : Nat) (key : Int32) (hh : hi ≤ n) (hn : n < 2 ^ 30) (hs : sd_Srt f lo hi) (S : CallFix p m c cX2_binarySearch 6 s args lw_all RX2) (hG : sd_G D A H0 s [(d, .int)] [sd_ar h d n f] H locs)
    (K : ∀ (pc : Nat) (ls : Array Slot) (r : Int32), decode cX2_binarySearch pc = .ok (.ireturn, 1) → sd_Bs f lo hi key r → W p l e R s m args below meth c H locs cells slots Q (F0 m pc ls [.int r])) :
    ∀ (g a b : Nat), (lo ≤ a ∧ a ≤ b ∧ b ≤ hi) → (∀ i, lo ≤ i → i < a → (f i).toInt < key.toInt) → (∀ i, b ≤ i → i < hi → key.toInt < (f i).toInt) → b - a < g → ∀ (ls : Array Slot), lv_has ls 6 [(0, .ref h), (1, .int (nI a)), (2, .int (sd_m b)), (3, .int key)] → W p l e R s m args below meth c H locs cells slots Q (F0 m 3 ls []) := by
  intro g
  induction g with
  | zero => intro a b h1 h2 h3 h4; exact absurd h4 (Nat.not_lt_zero _)
  | succ g ih =>
    intro a b h1 h2 h3 h4 ls hl
    refine lv_iload_n S.1 S.2.1 dX2_binarySearch_3 rfl (lv_at hl 1 rfl) ?_
    refine lv_iload_n S.1 S.2.1 dX2_binarySearch_4 rfl (lv_at hl 2 rfl) ?_
    refine sd_gt (tgt := 55) S.1 S.2.1 dX2_binarySearch_5 (by decide) (sd_nT (by omega)) (sd_mT (by omega)) (fun c1 => ?_) (fun c1 => ?_)
    · refine lv_iload_n S.1 S.2.1 dX2_binarySearch_55 rfl (lv_at hl 1 rfl) ?_
      refine lv_iconst (v := nI 1) S.1 S.2.1 dX2_binarySearch_56 (by decide +kernel) ?_
      refine sd_iadd S.1 S.2.1 dX2_binarySearch_57 ?_
      refine lv_ineg S.1 S.2.1 dX2_binarySearch_58 ?_
      exact K _ _ _ dX2_binarySearch_59 (Or.inr ⟨a, h1.1, by omega, h2, fun i q1 q2 => h3 i (by omega) q2, rfl⟩)
    · refine lv_iload_n S.1 S.2.1 dX2_binarySearch_8 rfl (lv_at hl 1 rfl) ?_
      refine lv_iload_n S.1 S.2.1 dX2_binarySearch_9 rfl (lv_at hl 2 rfl) ?_
      refine sd_top (sd_mP (by omega)) ?_
      refine sd_iadd S.1 S.2.1 dX2_binarySearch_10 ?_
      refine lv_iconst (v := nI 1) S.1 S.2.1 dX2_binarySearch_11 (by decide +kernel) ?_
      refine sd_half S.1 S.2.1 (by omega) dX2_binarySearch_12 ?_
      obtain ⟨md, hmd⟩ : ∃ md, md = (a + (b - 1)) / 2 := ⟨_, rfl⟩
      rw [← hmd]
      refine lv_istore (lv' := [(5, .int (nI md)), (0, .ref h), (1, .int (nI a)), (2, .int (sd_m b)), (3, .int key)]) S.1 S.2.1 dX2_binarySearch_13 hl (by decide) rfl (fun ls hl => ?_)
      refine lv_aload_n S.1 S.2.1 dX2_binarySearch_15 rfl (lv_at hl 1 rfl) ?_
      refine lv_iload S.1 S.2.1 dX2_binarySearch_16 (lv_at hl 0 rfl) ?_
      refine sd_iald S.1 S.2.1 hG 0 0 rfl rfl (by omega) (by omega) dX2_binarySearch_18 ?_
      refine lv_istore (lv' := [(4, .int (f md)), (5, .int (nI md)), (0, .ref h), (1, .int (nI a)), (2, .int (sd_m b)), (3, .int key)]) S.1 S.2.1 dX2_binarySearch_19 hl (by decide) rfl (fun ls hl => ?_)
      refine lv_iload S.1 S.2.1 dX2_binarySearch_21 (lv_at hl 0 rfl) ?_
      refine lv_iload_n S.1 S.2.1 dX2_binarySearch_23 rfl (lv_at hl 5 rfl) ?_
      refine sd_ge (tgt := 35) S.1 S.2.1 dX2_binarySearch_24 (by decide) rfl rfl (fun c2 => ?_) (fun c2 => ?_)
      · refine lv_iload S.1 S.2.1 dX2_binarySearch_35 (lv_at hl 0 rfl) ?_
        refine lv_iload_n S.1 S.2.1 dX2_binarySearch_37 rfl (lv_at hl 5 rfl) ?_
        refine sd_le (tgt := 49) S.1 S.2.1 dX2_binarySearch_38 (by decide) rfl rfl (fun c3 => ?_) (fun c3 => ?_)
        · refine lv_iload S.1 S.2.1 dX2_binarySearch_49 (lv_at hl 1 rfl) ?_
          exact K _ _ _ dX2_binarySearch_51 (Or.inl ⟨md, by omega, by omega, by omega, rfl⟩)
        · refine lv_iload S.1 S.2.1 dX2_binarySearch_41 (lv_at hl 1 rfl) ?_
          refine lv_iconst (v := nI 1) S.1 S.2.1 dX2_binarySearch_43 (by decide +kernel) ?_
          refine sd_isub1 S.1 S.2.1 dX2_binarySearch_44 ?_
          refine lv_istore_n (lv' := [(2, .int (sd_m md)), (4, .int (f md)), (5, .int (nI md)), (0, .ref h), (1, .int (nI a)), (3, .int key)]) S.1 S.2.1 dX2_binarySearch_45 rfl hl (by decide) rfl (fun ls hl => ?_)
          refine lv_goto (tgt := 52) S.1 S.2.1 dX2_binarySearch_46 (by decide) ?_
          refine lv_goto (tgt := 3) S.1 S.2.1 dX2_binarySearch_52 (by decide) ?_
          exact ih a md (by omega) h2 (fun i q1 q2 => by have := hs md i (by omega) q1 q2; omega) (by omega) ls (lv_sub hl [3, 4, 0, 5] rfl)
      · refine lv_iload S.1 S.2.1 dX2_binarySearch_27 (lv_at hl 1 rfl) ?_
        refine lv_iconst (v := nI 1) S.1 S.2.1 dX2_binarySearch_29 (by decide +kernel) ?_
        refine sd_iadd S.1 S.2.1 dX2_binarySearch_30 ?_
        refine lv_istore_n (lv' := [(1, .int (nI (md + 1))), (4, .int (f md)), (5, .int (nI md)), (0, .ref h), (2, .int (sd_m b)), (3, .int key)]) S.1 S.2.1 dX2_binarySearch_31 rfl hl (by decide) rfl (fun ls hl => ?_)
        refine lv_goto (tgt := 52) S.1 S.2.1 dX2_binarySearch_32 (by decide) ?_
        refine lv_goto (tgt := 3) S.1 S.2.1 dX2_binarySearch_52 (by decide) ?_
        exact ih (md + 1) b (by omega) (fun i q1 q2 => by have := hs i md q1 (by omega) (by omega); omega) h3 (by omega) ls (lv_sub hl [3, 0, 4, 5] rfl)
set_option maxHeartbeats 4000000 in
set_option maxRecDepth 100000 in
/-- IntArrays.binarySearch(a, lo, hi, key), sorted there -/
theorem sd_binarySearch (l : Launch) (D : va_G) (h : Nat) (d : ClassId) (n : Nat) (f : Nat → Int32) (lo hi : Nat) (key : Int32) (h1 : lo ≤ hi) (hh : hi ≤ n) (hn : n < 2 ^ 30) (hs : sd_Srt f lo hi) : sd_Mi l yX2_binarySearch cX2_binarySearch 6 0 0 D h d n f [.ref h, .int (nI lo), .int (nI hi), .int key] (fun r f' => f' = f ∧ sd_Bs f lo hi key r) := by
  refine sd_Mi.of (by decide) (Nat.le_of_ble_eq_true rfl) ?_
  intro p e s m below meth c A ls Q S hA hG hl ret
  have hl : lv_has ls 6 [(0, .ref h), (1, .int (nI lo)), (2, .int (nI hi)), (3, .int key)] := hl
  refine lv_iinc (v := sd_m hi) (lv' := [(2, .int (sd_m hi)), (0, .ref h), (1, .int (nI lo)), (3, .int key)]) S.1 S.2.1 dX2_binarySearch_0 hl (k := 2) rfl (sd_dm _) (by decide) rfl (fun ls hl => ?_)
  exact sd_bs_loop lo hi key hh hn hs S hG (fun pc ls r hd hp => ret _ _ _ _ _ _ hd hG ⟨rfl, hp⟩) (hi + 1) lo hi ⟨Nat.le_refl lo, h1, Nat.le_refl hi⟩ (fun i q1 q2 => absurd q2 (by omega)) (fun i q1 q2 => absurd q2 (by omega)) (by omega) ls (lv_sub hl [1, 2, 0, 3] rfl)
/-- g is f turned round on lo .. hi-1 -/
def sd_Rev (g f : Nat → Int32) (lo hi : Nat) : Prop := (∀ j, lo ≤ j → j < hi → g j = f (lo + hi - 1 - j)) ∧ ∀ j, j < lo ∨ hi ≤ j → g j = f j
def sd_Mr (l : Launch) (y : MethodName) (b : ByteArray) (L fr lo : Nat) (D : va_G) (h : Nat) (d : ClassId) (n : Nat) (f : Nat → Int32) (as : List Value) (post : (Nat → Int32) → Prop) : Prop :=
  ∀ sz : Nat, Met l y (ws_ y b L (some (.array .int))) { frames := fr, cells := 0, slots := 0, locals := lo } (va_Pc as (sd_Pa D h d n f sz)) (va_Qr post (fun u a t => a = h ∧ sd_Ba D (va_A [sd_ar h d n f] sz) h d n u t) (va_A [sd_ar h d n f] sz)) 0 0 (va_A [sd_ar h d n f] sz)
theorem sd_rev_go {f g : Nat → Int32} {lo hi i : Nat} (h0 : lo + i + 1 + i + 1 ≤ hi + 0) (h1 : ∀ j, lo + (i + 1) ≤ j → j < hi - (i + 1) → g j = f (lo + hi - 1 - j)) (h2 : ∀ j, j < lo + (i + 1) ∨ hi - (i + 1) ≤ j → g j = f j) :
    (∀ j, lo + i ≤ j → j < hi - i → sd_swp g (hi - i - 1) (lo + i) j = f (lo + hi - 1 - j)) ∧ ∀ j, j < lo + i ∨ hi - i ≤ j → sd_swp g (hi - i - 1) (lo + i) j = f j := by
  refine ⟨fun j a b => ?_, fun j a => ?_⟩
  · rcases sd_swp_c g (hi - i - 1) (lo + i) j with ⟨e1, e2⟩ | ⟨e1, e2⟩ | ⟨e1, e2, e3⟩
    · rw [e2, h2 _ (Or.inl (by omega)), show lo + i = lo + hi - 1 - j by omega]
    · rw [e2, h2 _ (Or.inr (by omega)), show hi - i - 1 = lo + hi - 1 - j by omega]
    · rw [e3]; exact h1 j (by omega) (by omega)
  · rw [sd_swp_o (by omega) (by omega)]
    exact h2 j (by omega)
set_option maxHeartbeats 4000000 in
set_option maxRecDepth 100000 in
theorem sd_rev_loop {p : Program} {l : Launch} {e : Env} {R : Room} {s : State} {m : MethodId} {args : Array Value} {below : List Frame} {meth : Method} {c : Code} {Q : State → Prop} {cells slots : Nat} {D : va_G} {A : Nat → Prop} {H0 : Heap} {h n : Nat} {d : ClassId} {f : Nat → Int32} (lo hi : Nat) (hlh : lo ≤ hi) (hh : hi ≤ n) (hn : n < 2 ^ 30) (S : CallFix p m c cX2_reverse 6 s args lw_all RX2)
    (K : ∀ (g : Nat → Int32) (H : Heap) (locs : List Loc) (ls : Array Slot), sd_Rev g f lo hi → sd_G D A H0 s [(d, .int)] [sd_ar h d n g] H locs → W p l e R s m args below meth c H locs cells slots Q (F0 m 57 ls [.ref h])) :
    ∀ (i : Nat) (g : Nat → Int32), i ≤ (hi - lo) / 2 → (∀ j, lo + i ≤ j → j < hi - i → g j = f (lo + hi - 1 - j)) → (∀ j, j < lo + i ∨ hi - i ≤ j → g j = f j) → ∀ (H : Heap) (locs : List Loc) (ls : Array Slot), sd_G D A H0 s [(d, .int)] [sd_ar h d n g] H locs → lv_has ls 6 [(0, .ref h), (1, .int (nI lo)), (2, .int (nI hi)), (3, .int (nI (hi - lo))), (4, .int (nI i))] → W p l e R s m args below meth c H locs cells slots Q (F0 m 9 ls []) := by
  intro i
  induction i with
  | zero =>
    intro g hi2 h1 h2 H locs ls hG hl
    refine lv_iload S.1 S.2.1 dX2_reverse_9 (lv_at hl 4 rfl) ?_
    refine lv_iinc (v := sd_m 0) (lv' := [(4, .int (sd_m 0)), (0, .ref h), (1, .int (nI lo)), (2, .int (nI hi)), (3, .int (nI (hi - lo)))]) S.1 S.2.1 dX2_reverse_11 hl (k := 4) rfl (sd_dm _) (by decide) rfl (fun ls hl => ?_)
    refine sd_zeq (tgt := 56) S.1 S.2.1 dX2_reverse_14 (by decide) (sd_nT (by omega)) (fun c1 => ?_) (fun c1 => ?_)
    · refine lv_aload_n S.1 S.2.1 dX2_reverse_56 rfl (lv_at hl 1 rfl) ?_
      exact K g H locs ls ⟨fun j a b => h1 j (by omega) (by omega), fun j a => h2 j (by omega)⟩ hG
    · exact absurd c1 (by decide)
  | succ i ih =>
    intro g hi2 h1 h2 H locs ls hG hl
    refine lv_iload S.1 S.2.1 dX2_reverse_9 (lv_at hl 4 rfl) ?_
    refine lv_iinc (v := nI i) (lv' := [(4, .int (nI i)), (0, .ref h), (1, .int (nI lo)), (2, .int (nI hi)), (3, .int (nI (hi - lo)))]) S.1 S.2.1 dX2_reverse_11 hl (k := 4) rfl (pk_m1 _) (by decide) rfl (fun ls hl => ?_)
    refine sd_zeq (tgt := 56) S.1 S.2.1 dX2_reverse_14 (by decide) (sd_nT (by omega)) (fun c1 => ?_) (fun c1 => ?_)
    · exact absurd c1 (by omega)
    · have hq := sd_rev_go (f := f) (g := g) (lo := lo) (hi := hi) (i := i) (by omega) h1 h2
      have ex : hi - i - 1 = lo + (hi - lo) - i - 1 := by omega
      rw [ex] at hq
      refine lv_aload_n S.1 S.2.1 dX2_reverse_17 rfl (lv_at hl 1 rfl) ?_
      refine lv_iload_n S.1 S.2.1 dX2_reverse_18 rfl (lv_at hl 2 rfl) ?_
      refine lv_iload_n S.1 S.2.1 dX2_reverse_19 rfl (lv_at hl 4 rfl) ?_
      refine sd_iadd S.1 S.2.1 dX2_reverse_20 ?_
      refine lv_iload S.1 S.2.1 dX2_reverse_21 (lv_at hl 0 rfl) ?_
      refine sd_isub S.1 S.2.1 (by omega) dX2_reverse_23 ?_
      refine lv_iconst (v := nI 1) S.1 S.2.1 dX2_reverse_24 (by decide +kernel) ?_
      refine sd_isub S.1 S.2.1 (by omega) dX2_reverse_25 ?_
      refine sd_iald S.1 S.2.1 hG 0 0 rfl rfl (by omega) (by omega) dX2_reverse_26 ?_
      refine lv_istore (lv' := [(5, .int (g (((lo + (hi - lo)) - i) - 1))), (4, .int (nI i)), (0, .ref h), (1, .int (nI lo)), (2, .int (nI hi)), (3, .int (nI (hi - lo)))]) S.1 S.2.1 dX2_reverse_27 hl (by decide) rfl (fun ls hl => ?_)
      refine lv_aload_n S.1 S.2.1 dX2_reverse_29 rfl (lv_at hl 2 rfl) ?_
      refine lv_iload_n S.1 S.2.1 dX2_reverse_30 rfl (lv_at hl 3 rfl) ?_
      refine lv_iload_n S.1 S.2.1 dX2_reverse_31 rfl (lv_at hl 5 rfl) ?_
      refine sd_iadd S.1 S.2.1 dX2_reverse_32 ?_
      refine lv_iload S.1 S.2.1 dX2_reverse_33 (lv_at hl 1 rfl) ?_
      refine sd_isub S.1 S.2.1 (by omega) dX2_reverse_35 ?_
      refine lv_iconst (v := nI 1) S.1 S.2.1 dX2_reverse_36 (by decide +kernel) ?_
      refine sd_isub S.1 S.2.1 (by omega) dX2_reverse_37 ?_
      refine lv_aload_n S.1 S.2.1 dX2_reverse_38 rfl (lv_at hl 2 rfl) ?_
      refine lv_iload_n S.1 S.2.1 dX2_reverse_39 rfl (lv_at hl 3 rfl) ?_
      refine lv_iload S.1 S.2.1 dX2_reverse_40 (lv_at hl 1 rfl) ?_
      refine sd_iadd S.1 S.2.1 dX2_reverse_42 ?_
      refine sd_iald S.1 S.2.1 hG 0 0 rfl rfl (by omega) (by omega) dX2_reverse_43 ?_
      refine sd_iast S.1 S.2.1 hG 0 0 rfl rfl (by omega) (by omega) dX2_reverse_44 (fun H locs hG => ?_)
      have hG : sd_G D A H0 s [(d, .int)] [sd_ar h d n (upd g (((lo + (hi - lo)) - i) - 1) (g (lo + i)))] H locs := hG
      refine lv_aload_n S.1 S.2.1 dX2_reverse_45 rfl (lv_at hl 2 rfl) ?_
      refine lv_iload_n S.1 S.2.1 dX2_reverse_46 rfl (lv_at hl 3 rfl) ?_
      refine lv_iload S.1 S.2.1 dX2_reverse_47 (lv_at hl 1 rfl) ?_
      refine sd_iadd S.1 S.2.1 dX2_reverse_49 ?_
      refine lv_iload S.1 S.2.1 dX2_reverse_50 (lv_at hl 0 rfl) ?_
      refine sd_iast S.1 S.2.1 hG 0 0 rfl rfl (by omega) (by omega) dX2_reverse_52 (fun H locs hG => ?_)
      have hG : sd_G D A H0 s [(d, .int)] [sd_ar h d n (upd (upd g (((lo + (hi - lo)) - i) - 1) (g (lo + i))) (lo + i) (g (((lo + (hi - lo)) - i) - 1)))] H locs := hG
      refine lv_goto (tgt := 9) S.1 S.2.1 dX2_reverse_53 (by decide) ?_
      exact ih _ (by omega) hq.1 hq.2 H locs ls hG (lv_sub hl [2, 3, 4, 5, 1] rfl)
set_option maxHeartbeats 4000000 in
set_option maxRecDepth 100000 in
/-- IntArrays.reverse(a, lo, hi): answers a -/
theorem sd_reverse (l : Launch) (D : va_G) (h : Nat) (d : ClassId) (n : Nat) (f : Nat → Int32) (lo hi : Nat) (h1 : lo ≤ hi) (hh : hi ≤ n) (hn : n < 2 ^ 30) : sd_Mr l yX2_reverse cX2_reverse 6 0 0 D h d n f [.ref h, .int (nI lo), .int (nI hi)] (fun f' => sd_Rev f' f lo hi) := by
  intro sz
  refine Met.ofW (cc := cX2_reverse) (maxL := 6) (ret := some (.array .int)) (by decide) rfl ?_
  intro p e s m args below meth c s₁ B hml hv
  obtain ⟨rfl, hsz, hP, hK, hD0⟩ := hv
  have hts := atoms_spec (ws := ws_ yX2_reverse cX2_reverse 6 (some (.array .int))) B.pre
  have hts : ∀ w ∈ lw_all, w.before _ s = true := fun w h => hts w (List.mem_cons_of_mem _ h)
  have hown : s.vm.findClass RX2 = some m.cls := findClass_of_methodNamed B.named
  have hlocks := B.notSynchronized
  subst hsz
  have hD := hD0.self (sz := s.heap.size)
  have hl := lv_entry ([.ref h, .int (nI lo), .int (nI hi)]) (n := 6) (Nat.le_of_ble_eq_true rfl)
  rw [lg_entry_eq]
  generalize (lg_sl ([.ref h, .int (nI lo), .int (nI hi)]) ++ List.replicate (6 - (lg_sl ([.ref h, .int (nI lo), .int (nI hi)])).length) Slot.unset).toArray = ls at hl ⊢
  obtain ⟨A, hAe⟩ : ∃ A, A = va_A [sd_ar h d n f] s.heap.size := ⟨_, rfl⟩
  rw [← hAe] at hD ⊢
  have hA : ∀ q : Nat, s.heap.size ≤ q → A q := fun q hq => by rw [hAe]; exact Or.inr hq
  have hG : sd_G D A s.heap s [(d, .int)] [sd_ar h d n f] s.heap [] := ⟨hK, hP, hD, va_S.rf⟩
  have S : CallFix p m c cX2_reverse 6 s ([.ref h, .int (nI lo), .int (nI hi)] : List Value).toArray lw_all RX2 := ⟨B.exec, B.bytes, hml, hown, hts⟩
  have hl : lv_has ls 6 [(0, .ref h), (1, .int (nI lo)), (2, .int (nI hi))] := hl
  refine lv_iload_n S.1 S.2.1 dX2_reverse_0 rfl (lv_at hl 2 rfl) ?_
  refine lv_iload_n S.1 S.2.1 dX2_reverse_1 rfl (lv_at hl 1 rfl) ?_
  refine sd_isub S.1 S.2.1 (by omega) dX2_reverse_2 ?_
  refine lv_istore_n (lv' := [(3, .int (nI (hi - lo))), (0, .ref h), (1, .int (nI lo)), (2, .int (nI hi))]) S.1 S.2.1 dX2_reverse_3 rfl hl (by decide) rfl (fun ls hl => ?_)
  refine lv_iload_n S.1 S.2.1 dX2_reverse_4 rfl (lv_at hl 0 rfl) ?_
  refine lv_iconst (v := nI 2) S.1 S.2.1 dX2_reverse_5 (by decide +kernel) ?_
  refine sd_idiv S.1 S.2.1 (by omega) (by omega) (by omega) dX2_reverse_6 ?_
  refine lv_istore (lv' := [(4, .int (nI ((hi - lo) / 2))), (3, .int (nI (hi - lo))), (0, .ref h), (1, .int (nI lo)), (2, .int (nI hi))]) S.1 S.2.1 dX2_reverse_7 hl (by decide) rfl (fun ls hl => ?_)
  refine sd_rev_loop (f := f) lo hi h1 hh hn S (fun g H locs ls hp hG => ?_) ((hi - lo) / 2) f (Nat.le_refl _) (fun j a b => by rw [show lo + hi - 1 - j = j by omega]) (fun _ _ => rfl) _ _ _ hG (lv_sub hl [2, 3, 4, 1, 0] rfl)
  exact W.aret (v := .ref h) S.1 S.2.1 B.returns (Or.inr ⟨_, rfl⟩) (Or.inr ⟨_, rfl⟩) (fun t ht hW => ⟨⟨g, h, rfl, hp, rfl, by rw [ht]; exact hG.2.1, va_K.moved hW.alike hG.1, hG.2.2.1⟩, hG.2.2.2.F ht⟩) hG.2.2.2.2.2 dX2_reverse_57
end
section
/-! PURE: digits of an int, sums, buckets, the American flag pass -/
section SdDg
variable {x y : Int32} {v : Nat}
/-- an int's place in the order, as a number -/
def sd_key (x : Int32) : Nat := (x.toInt + 2147483648).toNat
/-- digit v of it, 0 the highest -/
def sd_dg (v : Nat) (x : Int32) : Nat := sd_key x / 2 ^ ((3 - v) * 8) % 256
/-- the sign's mask at digit v -/
def sd_sg (v : Nat) : Nat := if v = 0 then 128 else 0
/-- the test for digit k -/
def sd_dp (v k : Nat) : Int32 → Bool := fun x => decide (sd_dg v x = k)
theorem sd_dgLt : sd_dg v x < 256 := Nat.mod_lt _ (by decide)
theorem sd_keyT (x : Int32) : (sd_key x : Int) = x.toInt + 2147483648 ∧ sd_key x < 4294967296 := by
  have h1 := x.toInt_lt
  have h2 := x.le_toInt
  unfold sd_key
  omega
theorem sd_keyN (x : Int32) : sd_key x = (x.toBitVec.toNat + 2147483648) % 4294967296 := by
  have e : x.toInt = x.toBitVec.toInt := rfl
  have e2 := BitVec.toInt_eq_toNat_cond x.toBitVec
  have e3 := x.toBitVec.isLt
  unfold sd_key
  rw [e, e2]
  split <;> omega
theorem sd_dg0 : sd_dg 0 x = sd_key x / 16777216 % 256 := rfl
theorem sd_dg1 : sd_dg 1 x = sd_key x / 65536 % 256 := rfl
theorem sd_dg2 : sd_dg 2 x = sd_key x / 256 % 256 := rfl
theorem sd_dg3 : sd_dg 3 x = sd_key x / 1 % 256 := rfl
theorem sd_keyD (x : Int32) : sd_key x = sd_dg 0 x * 16777216 + sd_dg 1 x * 65536 + sd_dg 2 x * 256 + sd_dg 3 x := by
  have h := (sd_keyT x).2
  rw [sd_dg0, sd_dg1, sd_dg2, sd_dg3]
  omega
theorem sd_nxor (a b : Nat) : nI a ^^^ nI b = nI (a ^^^ b) := by
  apply Int32.toBitVec_inj.1
  show BitVec.ofNat 32 a ^^^ BitVec.ofNat 32 b = BitVec.ofNat 32 (a ^^^ b)
  apply BitVec.eq_of_getLsbD_eq
  intro i hi
  simp [hi]
theorem sd_x128 : ∀ q : Fin 256, q.val ^^^ 128 = (q.val + 128) % 256 := by decide +kernel
/-- the digit as the code computes it -/
theorem sd_dgv (hv : v ≤ 3) (x : Int32) : (((x.toUInt32 >>> ((nI ((3 - v) * 8)).toUInt32 &&& Int32.toUInt32 31)).toInt32 &&& nI 255) ^^^ nI (sd_sg v)) = nI (sd_dg v x) := by
  have hk := sd_keyN x
  have hl := x.toBitVec.isLt
  rw [pk_and _ 8 (by decide +kernel), sd_nxor]
  refine congrArg nI ?_
  rcases (show v = 0 ∨ v = 1 ∨ v = 2 ∨ v = 3 by omega) with rfl | rfl | rfl | rfl
  · rw [pk_ushr x _ 24 (by decide +kernel), sd_dg0]
    have h1 := sd_x128 ⟨x.toBitVec.toNat / 2 ^ 24 % 2 ^ 8, Nat.mod_lt _ (by decide)⟩
    have h2 : (x.toBitVec.toNat / 2 ^ 24 % 2 ^ 8) ^^^ sd_sg 0 = (x.toBitVec.toNat / 2 ^ 24 % 2 ^ 8 + 128) % 256 := h1
    rw [h2]
    omega
  · rw [pk_ushr x _ 16 (by decide +kernel), sd_dg1]
    show (x.toBitVec.toNat / 2 ^ 16 % 2 ^ 8) ^^^ 0 = _
    rw [Nat.xor_zero]
    omega
  · rw [pk_ushr x _ 8 (by decide +kernel), sd_dg2]
    show (x.toBitVec.toNat / 2 ^ 8 % 2 ^ 8) ^^^ 0 = _
    rw [Nat.xor_zero]
    omega
  · rw [pk_ushr x _ 0 (by decide +kernel), sd_dg3]
    show (x.toBitVec.toNat / 2 ^ 0 % 2 ^ 8) ^^^ 0 = _
    rw [Nat.xor_zero]
    omega
/-- the first v digits are the same -/
def sd_Pre (v : Nat) (x y : Int32) : Prop := ∀ w, w < v → sd_dg w x = sd_dg w y
theorem sd_Pre.lt (h : sd_Pre v x y) (hv : v ≤ 3) (hd : sd_dg v x < sd_dg v y) : x.toInt < y.toInt := by
  have k1 := sd_keyD x
  have k2 := sd_keyD y
  have t1 := (sd_keyT x).1
  have t2 := (sd_keyT y).1
  have a1 := sd_dgLt (v := 1) (x := x)
  have a2 := sd_dgLt (v := 2) (x := x)
  have a3 := sd_dgLt (v := 3) (x := x)
  have b1 := sd_dgLt (v := 1) (x := y)
  have b2 := sd_dgLt (v := 2) (x := y)
  have b3 := sd_dgLt (v := 3) (x := y)
  rcases (show v = 0 ∨ v = 1 ∨ v = 2 ∨ v = 3 by omega) with rfl | rfl | rfl | rfl
  · omega
  · have c0 := h 0 (by omega)
    omega
  · have c0 := h 0 (by omega)
    have c1 := h 1 (by omega)
    omega
  · have c0 := h 0 (by omega)
    have c1 := h 1 (by omega)
    have c2 := h 2 (by omega)
    omega
theorem sd_Pre.eq (h : sd_Pre 4 x y) : x = y := by
  have k1 := sd_keyD x
  have k2 := sd_keyD y
  have t1 := (sd_keyT x).1
  have t2 := (sd_keyT y).1
  have c0 := h 0 (by omega)
  have c1 := h 1 (by omega)
  have c2 := h 2 (by omega)
  have c3 := h 3 (by omega)
  exact Int32.toInt_inj.mp (by omega)
theorem sd_Pre.su (h : sd_Pre v x y) (e : sd_dg v x = sd_dg v y) : sd_Pre (v + 1) x y := fun w hw => by
  by_cases z : w = v
  · rw [z]; exact e
  · exact h w (by omega)
end SdDg
section SdSm
variable {a b q : Nat → Nat} {n k c d u L v sp : Nat}
/-- the sum of the first n -/
def sd_sm (q : Nat → Nat) : Nat → Nat
  | 0 => 0
  | n + 1 => sd_sm q n + q n
/-- one place of a table of numbers set anew -/
def sd_un (q : Nat → Nat) (k x : Nat) : Nat → Nat := fun j => if j = k then x else q j
theorem sd_unS {x : Nat} : sd_un q k x k = x := if_pos rfl
theorem sd_unO {x j : Nat} (h : j ≠ k) : sd_un q k x j = q j := if_neg h
theorem sd_smS : sd_sm q (n + 1) = sd_sm q n + q n := rfl
theorem sd_smM (h : c ≤ d) : sd_sm q c ≤ sd_sm q d := by
  induction d with
  | zero => rw [show c = 0 by omega]; exact Nat.le_refl _
  | succ d ih =>
    by_cases e : c ≤ d
    · exact Nat.le_trans (ih e) (Nat.le_add_right _ _)
    · rw [show c = d + 1 by omega]; exact Nat.le_refl _
theorem sd_smC (h : ∀ i, i < n → a i = b i) : sd_sm a n = sd_sm b n := by
  induction n with
  | zero => rfl
  | succ n ih => rw [sd_smS, sd_smS, ih (fun i e => h i (by omega)), h n (by omega)]
theorem sd_smAdd : sd_sm (fun i => a i + b i) n = sd_sm a n + sd_sm b n := by
  induction n with
  | zero => rfl
  | succ n ih => rw [sd_smS, sd_smS, sd_smS, ih]; omega
theorem sd_sm0 : sd_sm (fun _ => 0) n = 0 := by
  induction n with
  | zero => rfl
  | succ n ih => rw [sd_smS, ih]
theorem sd_smOne : sd_sm (fun i => (decide (k = i)).toNat) n = (decide (k < n)).toNat := by
  induction n with
  | zero => exact (congrArg Bool.toNat (decide_eq_false (Nat.not_lt_zero k))).symm
  | succ n ih =>
    rw [sd_smS, ih]
    rcases Nat.lt_trichotomy k n with e | e | e
    · have h1 : (decide (k < n)).toNat = 1 := by rw [decide_eq_true e]; rfl
      have h2 : (decide (k = n)).toNat = 0 := by rw [decide_eq_false (show ¬ k = n by omega)]; rfl
      have h3 : (decide (k < n + 1)).toNat = 1 := by rw [decide_eq_true (show k < n + 1 by omega)]; rfl
      rw [h1, h2, h3]
    · have h1 : (decide (k < n)).toNat = 0 := by rw [decide_eq_false (show ¬ k < n by omega)]; rfl
      have h2 : (decide (k = n)).toNat = 1 := by rw [decide_eq_true e]; rfl
      have h3 : (decide (k < n + 1)).toNat = 1 := by rw [decide_eq_true (show k < n + 1 by omega)]; rfl
      rw [h1, h2, h3]
    · have h1 : (decide (k < n)).toNat = 0 := by rw [decide_eq_false (show ¬ k < n by omega)]; rfl
      have h2 : (decide (k = n)).toNat = 0 := by rw [decide_eq_false (show ¬ k = n by omega)]; rfl
      have h3 : (decide (k < n + 1)).toNat = 0 := by rw [decide_eq_false (show ¬ k < n + 1 by omega)]; rfl
      rw [h1, h2, h3]
theorem sd_smD (hc : c < n) (h1 : a c < b c) (h2 : ∀ k, k ≠ c → a k = b k) : sd_sm a n < sd_sm b n := by
  induction n with
  | zero => exact absurd hc (Nat.not_lt_zero _)
  | succ n ih =>
    rw [sd_smS, sd_smS]
    by_cases e : c = n
    · have e1 : sd_sm a n = sd_sm b n := sd_smC (fun i z => h2 i (by omega))
      rw [e] at h1
      omega
    · have e1 := ih (by omega)
      have e2 := h2 n (by omega)
      omega
theorem sd_smZ (hu : u < n) (hz : ∀ c, u < c → c < n → q c = 0) : sd_sm q n = sd_sm q u + q u := by
  induction n with
  | zero => exact absurd hu (Nat.not_lt_zero _)
  | succ n ih =>
    rw [sd_smS]
    by_cases e : u = n
    · rw [e]
    · have e1 := ih (by omega) (fun c z1 z2 => hz c z1 (by omega))
      have e2 := hz n (by omega) (by omega)
      omega
/-- the open work: each range's length by the levels that are left -/
def sd_ms (l w : Nat → Nat) (sp : Nat) : Nat := sd_sm (fun k => l k * (4 - w k)) sp
theorem sd_msS {l w : Nat → Nat} : sd_ms l w (sp + 1) = sd_ms l w sp + l sp * (4 - w sp) := rfl
theorem sd_msP {l w : Nat → Nat} : sd_ms (sd_un l sp L) (sd_un w sp (v + 1)) (sp + 1) = sd_ms l w sp + L * (3 - v) := by
  rw [sd_msS, sd_unS, sd_unS, show 4 - (v + 1) = 3 - v by omega]
  refine congrArg (· + L * (3 - v)) ?_
  refine sd_smC (fun k z => ?_)
  show sd_un l sp L k * (4 - sd_un w sp (v + 1) k) = l k * (4 - w k)
  rw [sd_unO (by omega), sd_unO (by omega)]
end SdSm
section SdAf
variable {f g f0 : Nat → Int32} {P : Int32 → Bool} {cn pz : Nat → Nat} {lo hi a b i y v fs E c d u : Nat}
theorem sd_ctSum (h : lo ≤ hi) : sd_sm (fun k => sd_ct f (sd_dp v k) lo hi) 256 = hi - lo := by
  induction hi with
  | zero =>
    rw [sd_smC (b := fun _ => 0) (fun k _ => sd_ct0 (Nat.zero_le _)), sd_sm0]
    omega
  | succ n ih =>
    by_cases e : lo ≤ n
    · have e1 : sd_sm (fun k => sd_ct f (sd_dp v k) lo (n + 1)) 256 = sd_sm (fun k => sd_ct f (sd_dp v k) lo n + (decide (sd_dg v (f n) = k)).toNat) 256 := sd_smC (fun k _ => sd_ctS e)
      rw [e1, sd_smAdd, ih e, sd_smOne, decide_eq_true (sd_dgLt (v := v) (x := f n))]
      show n - lo + 1 = _
      omega
    · rw [sd_smC (b := fun _ => 0) (fun k _ => sd_ct0 (by omega)), sd_sm0]
      omega
theorem sd_ctM (h1 : lo ≤ a) (h2 : a ≤ b) (h3 : b ≤ hi) (hp : ∀ j, a ≤ j → j < b → P (f j) = true) (h4 : lo ≤ i) (h5 : i < hi) (h6 : i < a ∨ b ≤ i) (h7 : P (f i) = true) : b - a + 1 ≤ sd_ct f P lo hi := by
  have e1 : sd_ct f P i (i + 1) = 1 := by rw [sd_ct1, h7]; rfl
  have e2 : sd_ct f P a b = b - a := sd_ctT hp
  rcases h6 with h6 | h6
  · have q1 := sd_ctA (f := f) (P := P) h4 (show i ≤ hi by omega)
    have q2 := sd_ctA (f := f) (P := P) (show i ≤ i + 1 by omega) (show i + 1 ≤ hi by omega)
    have q3 := sd_ctA (f := f) (P := P) (show i + 1 ≤ a by omega) (show a ≤ hi by omega)
    have q4 := sd_ctA (f := f) (P := P) h2 h3
    omega
  · have q1 := sd_ctA (f := f) (P := P) h1 (show a ≤ hi by omega)
    have q2 := sd_ctA (f := f) (P := P) h2 h3
    have q3 := sd_ctA (f := f) (P := P) h6 (show i ≤ hi by omega)
    have q4 := sd_ctA (f := f) (P := P) (show i ≤ i + 1 by omega) (show i + 1 ≤ hi by omega)
    omega
/-- where bucket c begins -/
def sd_st (cn : Nat → Nat) (fs c : Nat) : Nat := fs + sd_sm cn c
theorem sd_stM (h : c ≤ d) : sd_st cn fs c ≤ sd_st cn fs d := Nat.add_le_add_left (sd_smM h) fs
theorem sd_stS : sd_st cn fs (c + 1) = sd_st cn fs c + cn c := (Nat.add_assoc _ _ _).symm
theorem sd_stG : fs ≤ sd_st cn fs c := Nat.le_add_right _ _
theorem sd_stB (hi : i = sd_st cn fs b) (h : sd_st cn fs c < i) : sd_st cn fs (c + 1) ≤ i := by
  rcases Nat.lt_or_ge c b with z | z
  · have := sd_stM (cn := cn) (fs := fs) (show c + 1 ≤ b from z)
    omega
  · have := sd_stM (cn := cn) (fs := fs) z
    omega
/-- within the pass: the buckets that begin ahead of i are in place; of the others the ends from pz on -/
def sd_Af (v fs E i : Nat) (cn pz : Nat → Nat) (g : Nat → Int32) : Prop :=
  sd_st cn fs 256 = E ∧ (∀ c, c < 256 → sd_ct g (sd_dp v c) fs E = cn c) ∧ (∃ b, b ≤ 256 ∧ i = sd_st cn fs b) ∧
  (∀ c, c < 256 → i ≤ sd_st cn fs c → sd_st cn fs c ≤ pz c ∧ pz c ≤ sd_st cn fs (c + 1) ∧ ∀ j, pz c ≤ j → j < sd_st cn fs (c + 1) → sd_dg v (g j) = c) ∧
  ∀ c, c < 256 → sd_st cn fs c < i → ∀ j, sd_st cn fs c ≤ j → j < sd_st cn fs (c + 1) → sd_dg v (g j) = c
theorem sd_Af.st (hE : sd_st cn fs 256 = E) (hc : ∀ c, c < 256 → sd_ct g (sd_dp v c) fs E = cn c) : sd_Af v fs E fs cn (fun c => sd_st cn fs (c + 1)) g :=
  ⟨hE, hc, ⟨0, by omega, rfl⟩, fun c _ _ => ⟨sd_stM (by omega), Nat.le_refl _, fun j a b => absurd a (Nat.not_le.mpr b)⟩, fun c _ q => absurd q (Nat.not_lt.mpr sd_stG)⟩
theorem sd_Af.ge (h : sd_Af v fs E i cn pz g) (h1 : i ≤ y) (h2 : y < E) : i ≤ sd_st cn fs (sd_dg v (g y)) ∧ 1 ≤ cn (sd_dg v (g y)) := by
  obtain ⟨hE, hc, ⟨b, hb, hi⟩, h4, h5⟩ := h
  have hd := sd_dgLt (v := v) (x := g y)
  have hfs : fs ≤ i := by rw [hi]; exact sd_stG
  have hp : sd_dp v (sd_dg v (g y)) (g y) = true := decide_eq_true rfl
  generalize hk : sd_dg v (g y) = k at hd hp ⊢
  have e4 := hc k hd
  constructor
  · rcases Nat.lt_or_ge (sd_st cn fs k) i with q | q
    · exfalso
      have e1 := sd_stB hi q
      have e2 := sd_stS (cn := cn) (fs := fs) (c := k)
      have e3 := sd_ctM (f := g) (P := sd_dp v k) (lo := fs) (hi := E) (a := sd_st cn fs k) (b := sd_st cn fs (k + 1)) (i := y) sd_stG (by omega) (by omega) (fun j a1 a2 => decide_eq_true (h5 _ hd q j a1 a2)) (by omega) h2 (Or.inr (by omega)) hp
      omega
    · exact q
  · have e3 := sd_ctM (f := g) (P := sd_dp v k) (lo := fs) (hi := E) (a := fs) (b := fs) (i := y) (Nat.le_refl _) (Nat.le_refl _) (by omega) (fun j a1 a2 => absurd a2 (by omega)) (by omega) h2 (Or.inr (by omega)) hp
    omega
theorem sd_Af.go (h : sd_Af v fs E i cn pz g) (hi : i < E) (hcd : sd_dg v (g i) = c) (hq : i + 1 < pz c) : c < 256 ∧ i ≤ sd_st cn fs c ∧ pz c ≤ E ∧ sd_Af v fs E i cn (sd_un pz c (pz c - 1)) (sd_swp g i (pz c - 1)) ∧ sd_sm (sd_un pz c (pz c - 1)) 256 < sd_sm pz 256 := by
  obtain ⟨h1, h2⟩ := h.ge (Nat.le_refl i) hi
  rw [hcd] at h1 h2
  have hd : c < 256 := by rw [← hcd]; exact sd_dgLt
  obtain ⟨hE, hc, ⟨b, hb, hib⟩, h4, h5⟩ := h
  obtain ⟨a1, a2, a3⟩ := h4 c hd h1
  have hS := sd_stS (cn := cn) (fs := fs) (c := c)
  have hM := sd_stM (cn := cn) (fs := fs) (show c + 1 ≤ 256 by omega)
  have hfs : fs ≤ i := by rw [hib]; exact sd_stG
  have e4 := hc c hd
  have hp1 : sd_st cn fs c + 1 ≤ pz c := by
    rcases Nat.lt_or_ge (sd_st cn fs c) (pz c) with z | z
    · exact z
    · exfalso
      have e3 := sd_ctM (f := g) (P := sd_dp v c) (lo := fs) (hi := E) (a := sd_st cn fs c) (b := sd_st cn fs (c + 1)) (i := i) sd_stG (by omega) (by omega) (fun j b1 b2 => decide_eq_true (a3 j (by omega) b2)) hfs hi (Or.inl (by omega)) (decide_eq_true hcd)
      omega
  refine ⟨hd, h1, by omega, ⟨hE, fun c' q => ?_, ⟨b, hb, hib⟩, fun c' q1 q2 => ?_, fun c' q1 q2 j q3 q4 => ?_⟩, ?_⟩
  · rw [← hc c' q]
    exact (sd_Prm.sw hfs hi (by omega) (by omega)).2 _
  · by_cases e : c' = c
    · rw [e, sd_unS]
      refine ⟨by omega, by omega, fun j b1 b2 => ?_⟩
      by_cases z : j = pz c - 1
      · rw [z, sd_swp_b]; exact hcd
      · rw [sd_swp_o (by omega) z]; exact a3 j (by omega) b2
    · rw [sd_unO e]
      obtain ⟨b1, b2, b3⟩ := h4 c' q1 q2
      refine ⟨b1, b2, fun j d1 d2 => ?_⟩
      have b4 := b3 j d1 d2
      have n1 : j ≠ i := fun z => e (by rw [z] at b4; exact b4.symm.trans hcd)
      have n2 : j ≠ pz c - 1 := fun z => by
        rcases Nat.lt_or_ge c c' with w | w
        · have := sd_stM (cn := cn) (fs := fs) (show c + 1 ≤ c' from w)
          omega
        · have := sd_stM (cn := cn) (fs := fs) (show c' + 1 ≤ c by omega)
          omega
      rw [sd_swp_o n1 n2]
      exact b4
  · have e1 := sd_stB hib q2
    rw [sd_swp_o (by omega) (by omega)]
    exact h5 c' q1 q2 j q3 q4
  · exact sd_smD hd (by rw [sd_unS]; omega) (fun k z => sd_unO z)
theorem sd_Af.out (h : sd_Af v fs E i cn pz g) (hi : i < E) (hcd : sd_dg v (g i) = c) (hq : pz c ≤ i + 1) : (c < 256 ∧ sd_st cn fs c = i ∧ 1 ≤ cn c ∧ i + cn c ≤ E) ∧ (∀ j, i ≤ j → j < i + cn c → sd_dg v (g j) = c) ∧ sd_Af v fs E (i + cn c) cn pz g := by
  obtain ⟨h1, h2⟩ := h.ge (Nat.le_refl i) hi
  rw [hcd] at h1 h2
  have hd : c < 256 := by rw [← hcd]; exact sd_dgLt
  obtain ⟨hE, hc, ⟨b, hb, hib⟩, h4, h5⟩ := h
  obtain ⟨a1, a2, a3⟩ := h4 c hd h1
  have hS := sd_stS (cn := cn) (fs := fs) (c := c)
  have hM := sd_stM (cn := cn) (fs := fs) (show c + 1 ≤ 256 by omega)
  have hfs : fs ≤ i := by rw [hib]; exact sd_stG
  have e4 := hc c hd
  have hst : sd_st cn fs c = i := by
    rcases Nat.lt_or_ge i (sd_st cn fs c) with z | z
    · exfalso
      have e3 := sd_ctM (f := g) (P := sd_dp v c) (lo := fs) (hi := E) (a := sd_st cn fs c) (b := sd_st cn fs (c + 1)) (i := i) sd_stG (by omega) (by omega) (fun j b1 b2 => decide_eq_true (a3 j (by omega) b2)) hfs hi (Or.inl z) (decide_eq_true hcd)
      omega
    · omega
  have hal : ∀ j, i ≤ j → j < i + cn c → sd_dg v (g j) = c := fun j b1 b2 => by
    by_cases z : j = i
    · rw [z]; exact hcd
    · exact a3 j (by omega) (by omega)
  refine ⟨⟨hd, hst, h2, by omega⟩, hal, hE, hc, ⟨c + 1, by omega, by omega⟩, fun c' q1 q2 => h4 c' q1 (by omega), fun c' q1 q2 j q3 q4 => ?_⟩
  rcases Nat.lt_or_ge (sd_st cn fs c') i with z | z
  · exact h5 c' q1 z j q3 q4
  · have w : c' ≤ c := by
      rcases Nat.lt_or_ge c c' with w | w
      · have := sd_stM (cn := cn) (fs := fs) (show c + 1 ≤ c' from w)
        omega
      · exact w
    by_cases e : c' = c
    · rw [e] at q3 q4 ⊢
      exact hal j (by omega) (by omega)
    · have := sd_stM (cn := cn) (fs := fs) (show c' + 1 ≤ c by omega)
      exact absurd q4 (by omega)
theorem sd_Af.last (h : sd_Af v fs E i cn pz g) (hu : u < 256) (hi : i = sd_st cn fs u) (h0 : cn u ≠ 0) (hz : ∀ c, u < c → c < 256 → cn c = 0) : i < E ∧ i + cn u = E ∧ ∀ j, i ≤ j → j < E → sd_dg v (g j) = u := by
  have hE : sd_st cn fs 256 = sd_st cn fs u + cn u := by
    show fs + sd_sm cn 256 = fs + sd_sm cn u + cn u
    rw [sd_smZ hu hz, Nat.add_assoc]
  have hE2 := h.1
  refine ⟨by omega, by omega, fun j q1 q2 => ?_⟩
  obtain ⟨g1, g2⟩ := h.ge q1 q2
  have hd := sd_dgLt (v := v) (x := g j)
  generalize sd_dg v (g j) = k at g1 g2 hd ⊢
  rcases Nat.lt_trichotomy k u with e | e | e
  · have e1 := sd_stM (cn := cn) (fs := fs) (show k + 1 ≤ u from e)
    have e2 := sd_stS (cn := cn) (fs := fs) (c := k)
    omega
  · exact e
  · have e1 := hz k e hd
    omega
/-- the table of counts within the pass: nought for the buckets that begin ahead of i -/
def sd_Cn (C : Nat → Int32) (cn : Nat → Nat) (fs i : Nat) : Prop := ∀ c, c < 256 → (i ≤ sd_st cn fs c → C c = nI (cn c)) ∧ (sd_st cn fs c < i → C c = nI 0)
theorem sd_Cn.st {C : Nat → Int32} (h : ∀ c, c < 256 → C c = nI (cn c)) : sd_Cn C cn fs fs := fun c q => ⟨fun _ => h c q, fun z => absurd z (Nat.not_lt.mpr sd_stG)⟩
theorem sd_Cn.go {C : Nat → Int32} (h : sd_Cn C cn fs i) (hc : c < 256) (hs : sd_st cn fs c = i) (h1 : 1 ≤ cn c) : sd_Cn (upd C c (nI 0)) cn fs (i + cn c) := fun k hk => by
  have e1 := sd_stS (cn := cn) (fs := fs) (c := c)
  have e2 := sd_stS (cn := cn) (fs := fs) (c := k)
  refine ⟨fun z => ?_, fun z => ?_⟩
  · rw [pk_un (fun w => by rw [w] at z; omega)]
    exact (h k hk).1 (by omega)
  · by_cases e : k = c
    · rw [e]; exact pk_us
    · rw [pk_un e]
      rcases Nat.lt_or_ge (sd_st cn fs k) i with w | w
      · exact (h k hk).2 w
      · have e3 := (h k hk).1 w
        have e4 : cn k = 0 := by
          rcases Nat.lt_or_ge k c with q | q
          · have := sd_stM (cn := cn) (fs := fs) (show k + 1 ≤ c from q)
            omega
          · have := sd_stM (cn := cn) (fs := fs) (show c + 1 ≤ k by omega)
            omega
        rw [e3, e4]
theorem sd_Cn.en {C : Nat → Int32} (h : sd_Cn C cn fs E) (hE : sd_st cn fs 256 = E) : ∀ c, c < 256 → C c = nI 0 := fun c hc => by
  have e1 := sd_stM (cn := cn) (fs := fs) (show c + 1 ≤ 256 from hc)
  have e2 := sd_stS (cn := cn) (fs := fs) (c := c)
  rcases Nat.lt_or_ge (sd_st cn fs c) E with w | w
  · exact (h c hc).2 w
  · rw [(h c hc).1 w, show cn c = 0 by omega]
/-- the last bucket that isn't empty, of the first b -/
def sd_Lu (cn : Nat → Nat) (b : Nat) (lu : Int32) : Prop := (∀ k, k < b → cn k = 0) ∨ ∃ u, u < b ∧ lu = nI u ∧ cn u ≠ 0 ∧ ∀ k, u < k → k < b → cn k = 0
theorem sd_Lu.z {lu : Int32} (h : sd_Lu cn b lu) (e : cn b = 0) : sd_Lu cn (b + 1) lu := by
  rcases h with h | ⟨u, h1, h2, h3, h4⟩
  · refine Or.inl (fun k hk => ?_)
    by_cases w : k = b
    · rw [w]; exact e
    · exact h k (by omega)
  · refine Or.inr ⟨u, by omega, h2, h3, fun k q1 q2 => ?_⟩
    by_cases w : k = b
    · rw [w]; exact e
    · exact h4 k q1 (by omega)
theorem sd_Lu.n (e : cn b ≠ 0) : sd_Lu cn (b + 1) (nI b) := Or.inr ⟨b, by omega, rfl, e, fun k q1 q2 => absurd q1 (by omega)⟩
theorem sd_Lu.en {lu : Int32} (h : sd_Lu cn 256 lu) (hs : sd_st cn fs 256 = E) (hE : fs < E) : ∃ u, u < 256 ∧ lu = nI u ∧ cn u ≠ 0 ∧ (∀ k, u < k → k < 256 → cn k = 0) ∧ sd_st cn fs u + cn u = E := by
  rcases h with h | ⟨u, h1, h2, h3, h4⟩
  · exfalso
    have e1 : sd_sm cn 256 = 0 := (sd_smC (b := fun _ => 0) h).trans sd_sm0
    have e2 : fs + sd_sm cn 256 = E := hs
    omega
  · refine ⟨u, h1, h2, h3, h4, ?_⟩
    rw [← hs]
    show fs + sd_sm cn u + cn u = fs + sd_sm cn 256
    rw [sd_smZ h1 h4, Nat.add_assoc]
end SdAf
end
section
/-! PURE: the radix sort's open ranges (a stack of them, ordered by place, and the one in hand from i to E) -/
section SdRI
variable {f g f0 : Nat → Int32} {lo hi i j E v sp L : Nat} {o l w : Nat → Nat}
def sd_RI (f0 f : Nat → Int32) (lo hi i E v sp : Nat) (o l w : Nat → Nat) : Prop :=
  (lo ≤ i ∧ i ≤ E ∧ E ≤ hi) ∧ sd_Prm f f0 lo hi ∧
  (∀ k, k < sp → (w k ≤ 3 ∧ 1024 ≤ l k ∧ lo + 1024 * k ≤ o k ∧ o k + l k ≤ i) ∧ (∀ x y, o k ≤ x → x < o k + l k → o k ≤ y → y < o k + l k → sd_Pre (w k) (f x) (f y)) ∧ ∀ k', k' < k → o k' + l k' ≤ o k) ∧
  (∀ x y, lo ≤ x → x ≤ y → y < hi → (∃ k, k < sp ∧ o k ≤ x ∧ y < o k + l k) ∨ (i ≤ x ∧ y < E) ∨ (f x).toInt ≤ (f y).toInt) ∧
  ∀ x y, i ≤ x → x < E → i ≤ y → y < E → sd_Pre v (f x) (f y)
theorem sd_RI.st (h : lo + 1024 ≤ hi) : sd_RI f f lo hi hi hi v 1 (fun _ => lo) (fun _ => hi - lo) (fun _ => 0) := by
  refine ⟨by omega, sd_Prm.rf, fun k hk => ⟨?_, fun x y _ _ _ _ w hw => absurd hw (Nat.not_lt_zero _), fun k' hk' => absurd hk' (by omega)⟩, fun x y a b c => Or.inl ⟨0, by omega, a, ?_⟩, fun x y a b => absurd b (by omega)⟩
  · show 0 ≤ 3 ∧ 1024 ≤ hi - lo ∧ lo + 1024 * k ≤ lo ∧ lo + (hi - lo) ≤ hi
    omega
  · show y < lo + (hi - lo)
    omega
theorem sd_RI.pop {v' : Nat} (h : sd_RI f0 f lo hi hi hi v' (sp + 1) o l w) : (w sp ≤ 3 ∧ 1024 ≤ l sp) ∧ sd_RI f0 f lo hi (o sp) (o sp + l sp) (w sp) sp o l w := by
  obtain ⟨h0, hp, hs, hw, -⟩ := h
  obtain ⟨⟨a1, a2, a3, a4⟩, a5, a6⟩ := hs sp (by omega)
  refine ⟨⟨a1, a2⟩, by omega, hp, fun k hk => ?_, fun x y q1 q2 q3 => ?_, a5⟩
  · obtain ⟨⟨b1, b2, b3, b4⟩, b5, b6⟩ := hs k (by omega)
    have b7 := a6 k hk
    exact ⟨⟨b1, b2, b3, b7⟩, b5, b6⟩
  · rcases hw x y q1 q2 q3 with ⟨k, k1, k2, k3⟩ | ⟨k1, k2⟩ | q
    · by_cases e : k = sp
      · rw [e] at k2 k3
        exact Or.inr (Or.inl ⟨k2, k3⟩)
      · exact Or.inl ⟨k, by omega, k2, k3⟩
    · exact absurd k1 (by omega)
    · exact Or.inr (Or.inr q)
theorem sd_RI.up {v' : Nat} (h : sd_RI f0 f lo hi E E v sp o l w) : sd_RI f0 f lo hi hi hi v' sp o l w := by
  obtain ⟨h0, hp, hs, hw, -⟩ := h
  refine ⟨by omega, hp, fun k hk => ?_, fun x y q1 q2 q3 => ?_, fun x y a b => absurd b (by omega)⟩
  · obtain ⟨⟨b1, b2, b3, b4⟩, b5, b6⟩ := hs k hk
    exact ⟨⟨b1, b2, b3, by omega⟩, b5, b6⟩
  · rcases hw x y q1 q2 q3 with q | ⟨k1, k2⟩ | q
    · exact Or.inl q
    · exact absurd k1 (by omega)
    · exact Or.inr (Or.inr q)
theorem sd_RI.en (h : sd_RI f0 f lo hi hi hi v 0 o l w) : sd_Srt f lo hi ∧ sd_Prm f f0 lo hi := by
  obtain ⟨h0, hp, hs, hw, -⟩ := h
  refine ⟨fun x y q1 q2 q3 => ?_, hp⟩
  rcases hw x y q1 q2 q3 with ⟨k, k1, -⟩ | ⟨k1, k2⟩ | q
  · exact absurd k1 (Nat.not_lt_zero _)
  · exact absurd k1 (by omega)
  · exact q
/-- the range in hand is permuted -/
theorem sd_RI.prm (h : sd_RI f0 f lo hi i E v sp o l w) (hg : sd_Prm g f i E) : sd_RI f0 g lo hi i E v sp o l w := by
  obtain ⟨h0, hp, hs, hw, hv⟩ := h
  have hk : ∀ k x y, k < sp → i ≤ y → ¬ (o k ≤ x ∧ y < o k + l k) := fun k x y k1 k2 k3 => by
    have := (hs k k1).1
    omega
  refine ⟨h0, (hg.wd h0.1 h0.2.1 h0.2.2).tr hp, fun k hk => ?_, fun x y q1 q2 q3 => ?_, fun x y q1 q2 q3 q4 => ?_⟩
  · obtain ⟨⟨b1, b2, b3, b4⟩, b5, b6⟩ := hs k hk
    refine ⟨⟨b1, b2, b3, b4⟩, fun x y q1 q2 q3 q4 => ?_, b6⟩
    rw [hg.1 x (by omega), hg.1 y (by omega)]
    exact b5 x y q1 q2 q3 q4
  · by_cases c1 : y < i
    · rw [hg.1 x (by omega), hg.1 y (by omega)]
      exact hw x y q1 q2 q3
    · by_cases c2 : y < E
      · by_cases c3 : i ≤ x
        · exact Or.inr (Or.inl ⟨c3, c2⟩)
        · refine Or.inr (Or.inr ?_)
          rw [hg.1 x (by omega)]
          refine hg.all (p := fun z => (f x).toInt ≤ z.toInt) (fun y' z1 z2 => ?_) y (by omega) c2
          rcases hw x y' q1 (by omega) (by omega) with ⟨k, k1, k2⟩ | ⟨k1, k2⟩ | q
          · exact absurd k2 (hk k x y' k1 z1)
          · exact absurd k1 c3
          · exact q
      · refine Or.inr (Or.inr ?_)
        rw [hg.1 y (by omega)]
        by_cases c3 : i ≤ x ∧ x < E
        · refine hg.all (p := fun z => z.toInt ≤ (f y).toInt) (fun x' z1 z2 => ?_) x c3.1 c3.2
          rcases hw x' y (by omega) (by omega) q3 with ⟨k, k1, k2⟩ | ⟨k1, k2⟩ | q
          · exact absurd k2 (hk k x' y k1 (by omega))
          · exact absurd k2 c2
          · exact q
        · rw [hg.1 x (by omega)]
          rcases hw x y q1 q2 q3 with ⟨k, k1, k2⟩ | ⟨k1, k2⟩ | q
          · exact absurd k2 (hk k x y k1 (by omega))
          · exact absurd k2 c2
          · exact q
  · refine hg.all (p := fun z => sd_Pre v z (g y)) (fun x' z1 z2 => ?_) x q1 q2
    exact hg.all (p := fun z => sd_Pre v (f x') z) (fun y' z3 z4 => hv x' y' z1 z2 z3 z4) y q3 q4
/-- the first part of the range in hand is sorted, and not above the rest -/
theorem sd_RI.cut (h : sd_RI f0 f lo hi i E v sp o l w) (h1 : i ≤ j) (h2 : j ≤ E) (hs : sd_Srt f i j) (hl : ∀ x y, i ≤ x → x < j → j ≤ y → y < E → (f x).toInt ≤ (f y).toInt) : sd_RI f0 f lo hi j E v sp o l w := by
  obtain ⟨h0, hp, hk, hw, hv⟩ := h
  refine ⟨by omega, hp, fun k z => ?_, fun x y q1 q2 q3 => ?_, fun x y q1 q2 q3 q4 => hv x y (by omega) q2 (by omega) q4⟩
  · obtain ⟨⟨b1, b2, b3, b4⟩, b5, b6⟩ := hk k z
    exact ⟨⟨b1, b2, b3, by omega⟩, b5, b6⟩
  · rcases hw x y q1 q2 q3 with q | ⟨k1, k2⟩ | q
    · exact Or.inl q
    · refine Or.inr ?_
      by_cases c1 : j ≤ x
      · exact Or.inl ⟨c1, k2⟩
      · by_cases c2 : y < j
        · exact Or.inr (hs x y k1 q2 c2)
        · exact Or.inr (hl x y k1 (by omega) (by omega) k2)
    · exact Or.inr (Or.inr q)
/-- how many ranges are open -/
theorem sd_RI.sz (h : sd_RI f0 f lo hi i E v sp o l w) : lo + 1024 * sp ≤ i := by
  obtain ⟨h0, hp, hk, hw, hv⟩ := h
  cases sp with
  | zero => omega
  | succ sp =>
    have := (hk sp (by omega)).1
    omega
/-- the first part of the range in hand is laid onto the stack -/
theorem sd_RI.psh (h : sd_RI f0 f lo hi i E v sp o l w) (hL : 1024 ≤ L) (h2 : i + L ≤ E) (hv3 : v < 3) (hs : ∀ x y, i ≤ x → x < i + L → i ≤ y → y < i + L → sd_Pre (v + 1) (f x) (f y)) (hl : ∀ x y, i ≤ x → x < i + L → i + L ≤ y → y < E → (f x).toInt ≤ (f y).toInt) : sd_RI f0 f lo hi (i + L) E v (sp + 1) (sd_un o sp i) (sd_un l sp L) (sd_un w sp (v + 1)) := by
  have hz := h.sz
  obtain ⟨h0, hp, hk, hw, hv⟩ := h
  refine ⟨by omega, hp, fun k z => ?_, fun x y q1 q2 q3 => ?_, fun x y q1 q2 q3 q4 => hv x y (by omega) q2 (by omega) q4⟩
  · by_cases e : k = sp
    · rw [e, sd_unS, sd_unS, sd_unS]
      refine ⟨by omega, hs, fun k' z' => ?_⟩
      rw [sd_unO (by omega), sd_unO (by omega)]
      have := (hk k' z').1
      omega
    · obtain ⟨⟨b1, b2, b3, b4⟩, b5, b6⟩ := hk k (by omega)
      rw [sd_unO e, sd_unO e, sd_unO e]
      refine ⟨⟨b1, b2, b3, by omega⟩, b5, fun k' z' => ?_⟩
      rw [sd_unO (by omega), sd_unO (by omega)]
      exact b6 k' z'
  · rcases hw x y q1 q2 q3 with ⟨k, k1, k2, k3⟩ | ⟨k1, k2⟩ | q
    · refine Or.inl ⟨k, by omega, ?_⟩
      rw [sd_unO (by omega), sd_unO (by omega)]
      exact ⟨k2, k3⟩
    · by_cases c1 : i + L ≤ x
      · exact Or.inr (Or.inl ⟨c1, k2⟩)
      · by_cases c2 : y < i + L
        · refine Or.inl ⟨sp, by omega, ?_⟩
          rw [sd_unS, sd_unS]
          exact ⟨k1, c2⟩
        · exact Or.inr (Or.inr (hl x y k1 (by omega) (by omega) k2))
    · exact Or.inr (Or.inr q)
/-- the stack's three tables hold it -/
def sd_Sk (sp : Nat) (o l w : Nat → Nat) (Of Lf Vf : Nat → Int32) : Prop := ∀ k, k < sp → Of k = nI (o k) ∧ Lf k = nI (l k) ∧ Vf k = nI (w k)
theorem sd_Sk.psh {Of Lf Vf : Nat → Int32} {a b c : Nat} (h : sd_Sk sp o l w Of Lf Vf) : sd_Sk (sp + 1) (sd_un o sp a) (sd_un l sp b) (sd_un w sp c) (upd Of sp (nI a)) (upd Lf sp (nI b)) (upd Vf sp (nI c)) := fun k hk => by
  by_cases e : k = sp
  · rw [e, sd_unS, sd_unS, sd_unS]
    exact ⟨pk_us, pk_us, pk_us⟩
  · rw [sd_unO e, sd_unO e, sd_unO e, pk_un e, pk_un e, pk_un e]
    exact h k (by omega)
/-- a bucket's values stand below those of the later ones -/
theorem sd_RI.lt {cn pz : Nat → Nat} {fs c : Nat} (h : sd_RI f0 f lo hi i E v sp o l w) (hv : v ≤ 3) (ha : sd_Af v fs E (i + cn c) cn pz f) (hc : c < 256) (hst : sd_st cn fs c = i) (h1 : ∀ x, i ≤ x → x < i + cn c → sd_dg v (f x) = c) : ∀ x y, i ≤ x → x < i + cn c → i + cn c ≤ y → y < E → (f x).toInt ≤ (f y).toInt := by
  intro x y q1 q2 q3 q4
  have e1 := (ha.ge q3 q4).1
  have e2 := h1 x q1 q2
  have e3 : c < sd_dg v (f y) := by
    rcases Nat.lt_or_ge c (sd_dg v (f y)) with z | z
    · exact z
    · have := sd_stM (cn := cn) (fs := fs) z
      omega
  have e4 := (h.2.2.2.2 x y q1 (by omega) (by omega) q4).lt hv (by omega)
  omega
end SdRI
end
section
/-! a new int array; small laws of the radix sort's walk -/
section SdNewa
variable {p : Program} {l : Launch} {e : Env} {R : Room} {s : State} {m : MethodId} {args : Array Value} {below : List Frame} {meth : Method} {c : Code} {H : Heap} {locs : List Loc} {cells slots : Nat} {Q : State → Prop}
variable {cc : ByteArray} {pc nL : Nat} {ls : Array Slot} {rest : List Value} {A : Nat → Prop} {H0 : Heap} {D : va_G} {tys : List (ClassId × FieldType)} {ws : va_W} {own : String} {d : ClassId}
theorem sd_newa (S : CallFix p m c cc nL s args lw_all own) (hG : sd_G D A H0 s tys ws H locs) (hA : ∀ q, H0.size ≤ q → A q) (t0 : Nat) (ht : tys[t0]? = some (d, .int)) {N : Nat} (hN : N ≤ 2048) (hC : cells + 1 ≤ R.cells ∧ slots + N ≤ R.slots) (hdg : decode cc pc = .ok (.newarray .int, 2))
    (kk : ∀ (q : Nat) (H1 : Heap), sd_G D A H0 s tys (ws ++ [sd_ar q d N (fun _ => 0)]) H1 locs → W p l e R s m args below meth c H1 locs (cells + 1) (slots + N) Q (F0 m (pc + 2) ls (.ref q :: rest))) : W p l e R s m args below meth c H locs cells slots Q (F0 m pc ls (.int (nI N) :: rest)) := by
  refine va_newa (atype := .int) S.1 S.2.1 (S.2.2.2.2 _ q26) rfl hG.1 hG.2.1 hG.2.2.1 hG.2.2.2 hA (a0 := (N, .inl (fun _ => 0))) (fun _ => rfl) (nI_pos (by omega)) (nI_clamp (by omega)) (by show N * 4 ≤ _; omega) hC.1 hC.2 hdg (fun q cA H1 hK hP hD hS => ?_)
  have e1 : s.vm.findClass "[I" = some d := (hG.1.2 t0 _ ht).2
  have e2 : s.vm.findClass "[I" = some cA := (hK.2 tys.length (cA, .int) (by simp; rfl)).2
  have e3 : cA = d := Option.some.inj (e2.symm.trans e1)
  subst e3
  exact kk q H1 ⟨hG.1, hP, hD, hS⟩
end SdNewa
section SdRxP
variable {f C P : Nat → Int32} {cn pz : Nat → Nat} {v i j E k q fs : Nat} {t : Int32}
theorem sd_updS : upd f i (f i) = f := by
  funext j
  by_cases e : j = i
  · rw [e]; exact pk_us
  · exact pk_un e
theorem sd_in_eq (h : i ≠ q) : upd (upd f q t) i (f q) = sd_swp (upd f i t) i q := by
  funext j
  by_cases e1 : j = i
  · rw [e1, pk_us, sd_swp_a, pk_un (Ne.symm h)]
  · by_cases e2 : j = q
    · rw [e2, pk_un (Ne.symm h), pk_us, sd_swp_b, pk_us]
    · rw [pk_un e1, pk_un e2, sd_swp_o e1 e2, pk_un e1]
theorem sd_cnt_go (h : ∀ k, k < 256 → C k = nI (sd_ct f (sd_dp v k) i E)) (h1 : 0 < i) (h2 : i ≤ E) : ∀ k, k < 256 → upd C (sd_dg v (f (i - 1))) (C (sd_dg v (f (i - 1))) + nI 1) k = nI (sd_ct f (sd_dp v k) (i - 1) E) := by
  intro k hk
  have e1 := sd_ctA (f := f) (P := sd_dp v k) (show i - 1 ≤ i by omega) h2
  have e2 : sd_ct f (sd_dp v k) (i - 1) (i - 1 + 1) = (sd_dp v k (f (i - 1))).toNat := sd_ct1
  rw [show i - 1 + 1 = i by omega] at e2
  rw [e1, e2]
  by_cases e : k = sd_dg v (f (i - 1))
  · have e3 : sd_dp v k (f (i - 1)) = true := decide_eq_true e.symm
    rw [e3, ← e, pk_us, h k hk, nI_add]
    exact congrArg nI (Nat.add_comm _ _)
  · have e3 : sd_dp v k (f (i - 1)) = false := decide_eq_false (fun z => e z.symm)
    rw [e3, pk_un e, h k hk]
    exact congrArg nI (Nat.zero_add _).symm
theorem sd_Af.le {g : Nat → Int32} {c : Nat} (h : sd_Af v fs E i cn pz g) (hc : c < 256) (hi : i ≤ sd_st cn fs c) : pz c ≤ E := by
  have e1 := (h.2.2.2.1 c hc hi).2.1
  have e2 := sd_stM (cn := cn) (fs := fs) (show c + 1 ≤ 256 from hc)
  have e3 := h.1
  omega
/-- a finished bucket is permuted within itself -/
theorem sd_Af.prm {f' : Nat → Int32} {c x : Nat} (h : sd_Af v fs E (i + x) cn pz f) (hfs : fs ≤ i) (hx : i + x ≤ E) (hb : ∀ j, i ≤ j → j < i + x → sd_dg v (f j) = c) (hp : sd_Prm f' f i (i + x)) : sd_Af v fs E (i + x) cn pz f' := by
  have hb' := hp.all (p := fun z => sd_dg v z = c) hb
  obtain ⟨hE, hc, ⟨b, hb1, hib⟩, h4, h5⟩ := h
  refine ⟨hE, fun c' q => ?_, ⟨b, hb1, hib⟩, fun c' q1 q2 => ?_, fun c' q1 q2 j q3 q4 => ?_⟩
  · rw [← hc c' q]
    exact (hp.wd hfs (by omega) hx).2 _
  · obtain ⟨b1, b2, b3⟩ := h4 c' q1 q2
    refine ⟨b1, b2, fun j d1 d2 => ?_⟩
    rw [hp.1 j (by omega)]
    exact b3 j d1 d2
  · have e1 := sd_stB hib q2
    by_cases e : i ≤ j
    · have r1 := hb j e (by omega)
      have r2 := h5 c' q1 q2 j q3 q4
      exact (hb' j e (by omega)).trans (r1.symm.trans r2)
    · rw [hp.1 j (by omega)]
      exact h5 c' q1 q2 j q3 q4
theorem sd_m1 {a M x q : Nat} (h : a + (E - i) * q ≤ M) : a + (E - (i + x)) * q ≤ M := by
  have e : (E - (i + x)) * q ≤ (E - i) * q := Nat.mul_le_mul_right q (by omega)
  omega
theorem sd_m2 {a M x q : Nat} (h : a + (E - i) * q ≤ M) (hx : i + x ≤ E) : a + x * q + (E - (i + x)) * q ≤ M := by
  have e : (E - i) * q = x * q + (E - (i + x)) * q := by
    rw [← Nat.add_mul, show x + (E - (i + x)) = E - i by omega]
  omega
end SdRxP
end
section
set_option maxHeartbeats 4000000 in
set_option maxRecDepth 100000 in
theorem sd_rx_cnt {p : Program} {l : Launch} {e : Env} {R : Room} {s : State} {m : MethodId} {args : Array Value} {below : List Frame} {meth : Method} {c : Code} {Q : State → Prop} {cells slots : Nat} {D : va_G} {A : Nat → Prop} {H0 : Heap} {h n h4 h5 h6 h7 h8 : Nat} {d : ClassId} (hn : n < 2 ^ 30) (S : CallFix p m c cX2_radixSort 21 s args lw_all RX2) {f Of Lf Vf P : Nat → Int32} (v fs E sp ln : Nat) (hv : v ≤ 3) (hE : E ≤ n)
    (K : ∀ (C : Nat → Int32) (H : Heap) (locs : List Loc) (ls : Array Slot), (∀ k, k < 256 → C k = nI (sd_ct f (sd_dp v k) fs E)) → sd_G D A H0 s [(d, .int)] [sd_ar h d n f, sd_ar h4 d 766 Of, sd_ar h5 d 766 Lf, sd_ar h6 d 766 Vf, sd_ar h7 d 256 C, sd_ar h8 d 256 P] H locs → lv_has ls 21 [(0, .ref h), (3, .int (nI sp)), (4, .ref h4), (5, .ref h5), (6, .ref h6), (7, .ref h7), (8, .ref h8), (9, .int (nI fs)), (10, .int (nI ln)), (11, .int (nI v)), (12, .int (nI (sd_sg v))), (13, .int (nI ((3 - v) * 8)))] → W p l e R s m args below meth c H locs cells slots Q (F0 m 166 ls [])) :
    ∀ (z i : Nat) (C : Nat → Int32), fs ≤ i → i ≤ E → i < z → (∀ k, k < 256 → C k = nI (sd_ct f (sd_dp v k) i E)) → ∀ (H : Heap) (locs : List Loc) (ls : Array Slot), sd_G D A H0 s [(d, .int)] [sd_ar h d n f, sd_ar h4 d 766 Of, sd_ar h5 d 766 Lf, sd_ar h6 d 766 Vf, sd_ar h7 d 256 C, sd_ar h8 d 256 P] H locs → lv_has ls 21 [(0, .ref h), (3, .int (nI sp)), (4, .ref h4), (5, .ref h5), (6, .ref h6), (7, .ref h7), (8, .ref h8), (9, .int (nI fs)), (10, .int (nI ln)), (11, .int (nI v)), (12, .int (nI (sd_sg v))), (13, .int (nI ((3 - v) * 8))), (14, .int (nI i))] → W p l e R s m args below meth c H locs cells slots Q (F0 m 132 ls []) := by
  intro z
  induction z with
  | zero => intro i C h1 h2 h3; exact absurd h3 (Nat.not_lt_zero _)
  | succ z ih =>
    intro i C h1 h2 h3 hC H locs ls hG hl
    refine lv_iload S.1 S.2.1 dX2_radixSort_132 (lv_at hl 12 rfl) ?_
    refine lv_iinc (v := sd_m i) (lv' := [(14, .int (sd_m i)), (0, .ref h), (3, .int (nI sp)), (4, .ref h4), (5, .ref h5), (6, .ref h6), (7, .ref h7), (8, .ref h8), (9, .int (nI fs)), (10, .int (nI ln)), (11, .int (nI v)), (12, .int (nI (sd_sg v))), (13, .int (nI ((3 - v) * 8)))]) S.1 S.2.1 dX2_radixSort_134 hl (k := 12) rfl (sd_dm _) (by decide) rfl (fun ls hl => ?_)
    refine lv_iload S.1 S.2.1 dX2_radixSort_137 (lv_at hl 8 rfl) ?_
    refine sd_eq (tgt := 166) S.1 S.2.1 dX2_radixSort_139 (by decide) (sd_nT (by omega)) (sd_nT (by omega)) (fun c1 => ?_) (fun c1 => ?_)
    · have e1 : i = fs := by omega
      rw [e1] at hC
      exact K C H locs ls hC hG (lv_sub hl [1, 2, 3, 4, 5, 6, 7, 8, 9, 10, 11, 12] rfl)
    · refine lv_aload S.1 S.2.1 dX2_radixSort_142 (lv_at hl 6 rfl) ?_
      refine lv_aload_n S.1 S.2.1 dX2_radixSort_144 rfl (lv_at hl 1 rfl) ?_
      refine lv_iload S.1 S.2.1 dX2_radixSort_145 (lv_at hl 0 rfl) ?_
      refine sd_top (sd_mP (by omega)) ?_
      refine sd_iald S.1 S.2.1 hG 0 0 rfl rfl (by omega) (by omega) dX2_radixSort_147 ?_
      refine lv_iload S.1 S.2.1 dX2_radixSort_148 (lv_at hl 12 rfl) ?_
      refine lv_iushr S.1 S.2.1 dX2_radixSort_150 rfl ?_
      refine lv_sipush (v := nI 255) S.1 S.2.1 dX2_radixSort_151 (by decide +kernel) ?_
      refine lv_iand S.1 S.2.1 dX2_radixSort_154 ?_
      refine lv_iload S.1 S.2.1 dX2_radixSort_155 (lv_at hl 11 rfl) ?_
      refine lv_ixor S.1 S.2.1 dX2_radixSort_157 ?_
      refine sd_top (sd_dgv hv (f (i - 1))) ?_
      refine lv_dup2_11 S.1 S.2.1 dX2_radixSort_158 rfl rfl ?_
      refine sd_iald S.1 S.2.1 hG 4 0 rfl rfl (sd_dgLt) (by omega) dX2_radixSort_159 ?_
      refine lv_iconst (v := nI 1) S.1 S.2.1 dX2_radixSort_160 (by decide +kernel) ?_
      refine lv_iadd S.1 S.2.1 dX2_radixSort_161 ?_
      refine sd_iast S.1 S.2.1 hG 4 0 rfl rfl (sd_dgLt) (by omega) dX2_radixSort_162 (fun H locs hG => ?_)
      have hG : sd_G D A H0 s [(d, .int)] [sd_ar h d n f, sd_ar h4 d 766 Of, sd_ar h5 d 766 Lf, sd_ar h6 d 766 Vf, sd_ar h7 d 256 (upd C (sd_dg v (f (i - 1))) ((C (sd_dg v (f (i - 1)))) + nI 1)), sd_ar h8 d 256 P] H locs := hG
      refine lv_goto (tgt := 132) S.1 S.2.1 dX2_radixSort_163 (by decide) ?_
      rw [sd_mP (show 0 < i by omega)] at hl
      exact ih (i - 1) _ (by omega) (by omega) (by omega) (sd_cnt_go hC (by omega) h2) H locs ls hG (lv_sub hl [1, 2, 3, 4, 5, 6, 7, 8, 9, 10, 11, 12, 0] rfl)
set_option maxHeartbeats 4000000 in
set_option maxRecDepth 100000 in
theorem sd_rx_pre {p : Program} {l : Launch} {e : Env} {R : Room} {s : State} {m : MethodId} {args : Array Value} {below : List Frame} {meth : Method} {c : Code} {Q : State → Prop} {cells slots : Nat} {D : va_G} {A : Nat → Prop} {H0 : Heap} {h n h4 h5 h6 h7 h8 : Nat} {d : ClassId} (hn : n < 2 ^ 30) (S : CallFix p m c cX2_radixSort 21 s args lw_all RX2) {f Of Lf Vf C : Nat → Int32} (cn : Nat → Nat) (v fs sp ln : Nat) (hC : ∀ k, k < 256 → C k = nI (cn k)) (hcb : ∀ k, k < 256 → cn k < 2 ^ 30)
    (K : ∀ (P : Nat → Int32) (lu : Int32) (H : Heap) (locs : List Loc) (ls : Array Slot), (∀ k, k < 256 → P k = nI (sd_st cn fs (k + 1))) → sd_Lu cn 256 lu → sd_G D A H0 s [(d, .int)] [sd_ar h d n f, sd_ar h4 d 766 Of, sd_ar h5 d 766 Lf, sd_ar h6 d 766 Vf, sd_ar h7 d 256 C, sd_ar h8 d 256 P] H locs → lv_has ls 21 [(0, .ref h), (3, .int (nI sp)), (4, .ref h4), (5, .ref h5), (6, .ref h6), (7, .ref h7), (8, .ref h8), (9, .int (nI fs)), (10, .int (nI ln)), (11, .int (nI v)), (12, .int (nI (sd_sg v))), (13, .int (nI ((3 - v) * 8))), (14, .int lu)] → W p l e R s m args below meth c H locs cells slots Q (F0 m 218 ls [])) :
    ∀ (z b : Nat) (P : Nat → Int32) (lu : Int32), b ≤ 256 → 256 - b < z → (∀ k, k < b → P k = nI (sd_st cn fs (k + 1))) → sd_Lu cn b lu → ∀ (H : Heap) (locs : List Loc) (ls : Array Slot), sd_G D A H0 s [(d, .int)] [sd_ar h d n f, sd_ar h4 d 766 Of, sd_ar h5 d 766 Lf, sd_ar h6 d 766 Vf, sd_ar h7 d 256 C, sd_ar h8 d 256 P] H locs → lv_has ls 21 [(0, .ref h), (3, .int (nI sp)), (4, .ref h4), (5, .ref h5), (6, .ref h6), (7, .ref h7), (8, .ref h8), (9, .int (nI fs)), (10, .int (nI ln)), (11, .int (nI v)), (12, .int (nI (sd_sg v))), (13, .int (nI ((3 - v) * 8))), (14, .int lu), (15, .int (nI b)), (16, .int (nI (sd_st cn fs b)))] → W p l e R s m args below meth c H locs cells slots Q (F0 m 176 ls []) := by
  intro z
  induction z with
  | zero => intro b P lu h1 h2; exact absurd h2 (Nat.not_lt_zero _)
  | succ z ih =>
    intro b P lu h1 h2 hP hu H locs ls hG hl
    refine lv_iload S.1 S.2.1 dX2_radixSort_176 (lv_at hl 13 rfl) ?_
    refine lv_sipush (v := nI 256) S.1 S.2.1 dX2_radixSort_178 (by decide +kernel) ?_
    refine sd_ge (tgt := 218) S.1 S.2.1 dX2_radixSort_181 (by decide) (sd_nT (by omega)) (sd_nT (by omega)) (fun c1 => ?_) (fun c1 => ?_)
    · have e1 : b = 256 := by omega
      rw [e1] at hP hu
      exact K P lu H locs ls hP hu hG (lv_sub hl [0, 1, 2, 3, 4, 5, 6, 7, 8, 9, 10, 11, 12] rfl)
    · refine lv_aload S.1 S.2.1 dX2_radixSort_184 (lv_at hl 5 rfl) ?_
      refine lv_iload S.1 S.2.1 dX2_radixSort_186 (lv_at hl 13 rfl) ?_
      refine sd_iald S.1 S.2.1 hG 4 0 rfl rfl (by omega) (by omega) dX2_radixSort_188 ?_
      refine sd_top (hC b (by omega)) ?_
      refine sd_zeq (tgt := 196) S.1 S.2.1 dX2_radixSort_189 (by decide) (sd_nT (by have := hcb b (by omega); omega)) (fun c2 => ?_) (fun c2 => ?_)
      · refine lv_aload S.1 S.2.1 dX2_radixSort_196 (lv_at hl 6 rfl) ?_
        refine lv_iload S.1 S.2.1 dX2_radixSort_198 (lv_at hl 13 rfl) ?_
        refine lv_iload S.1 S.2.1 dX2_radixSort_200 (lv_at hl 14 rfl) ?_
        refine lv_aload S.1 S.2.1 dX2_radixSort_202 (lv_at hl 5 rfl) ?_
        refine lv_iload S.1 S.2.1 dX2_radixSort_204 (lv_at hl 13 rfl) ?_
        refine sd_iald S.1 S.2.1 hG 4 0 rfl rfl (by omega) (by omega) dX2_radixSort_206 ?_
        refine sd_top (hC b (by omega)) ?_
        refine sd_iadd S.1 S.2.1 dX2_radixSort_207 ?_
        refine sd_top (congrArg nI sd_stS.symm) ?_
        refine lv_dup S.1 S.2.1 dX2_radixSort_208 rfl ?_
        refine lv_istore (lv' := [(16, .int (nI (sd_st cn fs (b + 1)))), (0, .ref h), (3, .int (nI sp)), (4, .ref h4), (5, .ref h5), (6, .ref h6), (7, .ref h7), (8, .ref h8), (9, .int (nI fs)), (10, .int (nI ln)), (11, .int (nI v)), (12, .int (nI (sd_sg v))), (13, .int (nI ((3 - v) * 8))), (14, .int lu), (15, .int (nI b))]) S.1 S.2.1 dX2_radixSort_209 hl (by decide) rfl (fun ls hl => ?_)
        refine sd_iast S.1 S.2.1 hG 5 0 rfl rfl (by omega) (by omega) dX2_radixSort_211 (fun H locs hG => ?_)
        have hG : sd_G D A H0 s [(d, .int)] [sd_ar h d n f, sd_ar h4 d 766 Of, sd_ar h5 d 766 Lf, sd_ar h6 d 766 Vf, sd_ar h7 d 256 C, sd_ar h8 d 256 (upd P b (nI (sd_st cn fs (b + 1))))] H locs := hG
        refine lv_iinc (v := nI (b + 1)) (lv' := [(15, .int (nI (b + 1))), (16, .int (nI (sd_st cn fs (b + 1)))), (0, .ref h), (3, .int (nI sp)), (4, .ref h4), (5, .ref h5), (6, .ref h6), (7, .ref h7), (8, .ref h8), (9, .int (nI fs)), (10, .int (nI ln)), (11, .int (nI v)), (12, .int (nI (sd_sg v))), (13, .int (nI ((3 - v) * 8))), (14, .int lu)]) S.1 S.2.1 dX2_radixSort_212 hl (k := 14) rfl (sd_i1 _) (by decide) rfl (fun ls hl => ?_)
        refine lv_goto (tgt := 176) S.1 S.2.1 dX2_radixSort_215 (by decide) ?_
        refine ih (b + 1) _ _ (by omega) (by omega) (fun k hk => ?_) (hu.z (by omega)) H locs ls hG (lv_sub hl [2, 3, 4, 5, 6, 7, 8, 9, 10, 11, 12, 13, 14, 0, 1] rfl)
        by_cases e : k = b
        · rw [e]; exact pk_us
        · rw [pk_un e]; exact hP k (by omega)
      · refine lv_iload S.1 S.2.1 dX2_radixSort_192 (lv_at hl 13 rfl) ?_
        refine lv_istore (lv' := [(14, .int (nI b)), (0, .ref h), (3, .int (nI sp)), (4, .ref h4), (5, .ref h5), (6, .ref h6), (7, .ref h7), (8, .ref h8), (9, .int (nI fs)), (10, .int (nI ln)), (11, .int (nI v)), (12, .int (nI (sd_sg v))), (13, .int (nI ((3 - v) * 8))), (15, .int (nI b)), (16, .int (nI (sd_st cn fs b)))]) S.1 S.2.1 dX2_radixSort_194 hl (by decide) rfl (fun ls hl => ?_)
        refine lv_aload S.1 S.2.1 dX2_radixSort_196 (lv_at hl 7 rfl) ?_
        refine lv_iload S.1 S.2.1 dX2_radixSort_198 (lv_at hl 13 rfl) ?_
        refine lv_iload S.1 S.2.1 dX2_radixSort_200 (lv_at hl 14 rfl) ?_
        refine lv_aload S.1 S.2.1 dX2_radixSort_202 (lv_at hl 6 rfl) ?_
        refine lv_iload S.1 S.2.1 dX2_radixSort_204 (lv_at hl 13 rfl) ?_
        refine sd_iald S.1 S.2.1 hG 4 0 rfl rfl (by omega) (by omega) dX2_radixSort_206 ?_
        refine sd_top (hC b (by omega)) ?_
        refine sd_iadd S.1 S.2.1 dX2_radixSort_207 ?_
        refine sd_top (congrArg nI sd_stS.symm) ?_
        refine lv_dup S.1 S.2.1 dX2_radixSort_208 rfl ?_
        refine lv_istore (lv' := [(16, .int (nI (sd_st cn fs (b + 1)))), (14, .int (nI b)), (0, .ref h), (3, .int (nI sp)), (4, .ref h4), (5, .ref h5), (6, .ref h6), (7, .ref h7), (8, .ref h8), (9, .int (nI fs)), (10, .int (nI ln)), (11, .int (nI v)), (12, .int (nI (sd_sg v))), (13, .int (nI ((3 - v) * 8))), (15, .int (nI b))]) S.1 S.2.1 dX2_radixSort_209 hl (by decide) rfl (fun ls hl => ?_)
        refine sd_iast S.1 S.2.1 hG 5 0 rfl rfl (by omega) (by omega) dX2_radixSort_211 (fun H locs hG => ?_)
        have hG : sd_G D A H0 s [(d, .int)] [sd_ar h d n f, sd_ar h4 d 766 Of, sd_ar h5 d 766 Lf, sd_ar h6 d 766 Vf, sd_ar h7 d 256 C, sd_ar h8 d 256 (upd P b (nI (sd_st cn fs (b + 1))))] H locs := hG
        refine lv_iinc (v := nI (b + 1)) (lv' := [(15, .int (nI (b + 1))), (16, .int (nI (sd_st cn fs (b + 1)))), (14, .int (nI b)), (0, .ref h), (3, .int (nI sp)), (4, .ref h4), (5, .ref h5), (6, .ref h6), (7, .ref h7), (8, .ref h8), (9, .int (nI fs)), (10, .int (nI ln)), (11, .int (nI v)), (12, .int (nI (sd_sg v))), (13, .int (nI ((3 - v) * 8)))]) S.1 S.2.1 dX2_radixSort_212 hl (k := 14) rfl (sd_i1 _) (by decide) rfl (fun ls hl => ?_)
        refine lv_goto (tgt := 176) S.1 S.2.1 dX2_radixSort_215 (by decide) ?_
        refine ih (b + 1) _ _ (by omega) (by omega) (fun k hk => ?_) (sd_Lu.n (by omega)) H locs ls hG (lv_sub hl [3, 4, 5, 6, 7, 8, 9, 10, 11, 12, 13, 14, 2, 0, 1] rfl)
        by_cases e : k = b
        · rw [e]; exact pk_us
        · rw [pk_un e]; exact hP k (by omega)
set_option maxHeartbeats 4000000 in
set_option maxRecDepth 100000 in
theorem sd_rx_in {p : Program} {l : Launch} {e : Env} {R : Room} {s : State} {m : MethodId} {args : Array Value} {below : List Frame} {meth : Method} {c : Code} {Q : State → Prop} {cells slots : Nat} {D : va_G} {A : Nat → Prop} {H0 : Heap} {h n h4 h5 h6 h7 h8 : Nat} {d : ClassId} (hn : n < 2 ^ 30) (S : CallFix p m c cX2_radixSort 21 s args lw_all RX2) {f1 Of Lf Vf C : Nat → Int32} (cn : Nat → Nat) (v fs E i sp ln en : Nat) (hv : v ≤ 3) (hE : E ≤ n) (hiE : i < E)
    (K : ∀ (pz : Nat → Nat) (f P : Nat → Int32) (t : Int32) (k : Nat) (H : Heap) (locs : List Loc) (ls : Array Slot), (k < 256 ∧ sd_st cn fs k = i ∧ 1 ≤ cn k ∧ i + cn k ≤ E) → (∀ j, i ≤ j → j < i + cn k → sd_dg v (upd f i t j) = k) → sd_Af v fs E (i + cn k) cn pz (upd f i t) → (∀ q, q < 256 → i + cn k ≤ sd_st cn fs q → P q = nI (pz q)) → sd_Prm (upd f i t) f1 i E → sd_G D A H0 s [(d, .int)] [sd_ar h d n f, sd_ar h4 d 766 Of, sd_ar h5 d 766 Lf, sd_ar h6 d 766 Vf, sd_ar h7 d 256 C, sd_ar h8 d 256 P] H locs → lv_has ls 21 [(0, .ref h), (3, .int (nI sp)), (4, .ref h4), (5, .ref h5), (6, .ref h6), (7, .ref h7), (8, .ref h8), (9, .int (nI fs)), (10, .int (nI ln)), (11, .int (nI v)), (12, .int (nI (sd_sg v))), (13, .int (nI ((3 - v) * 8))), (15, .int (nI en)), (16, .int (nI i)), (17, .int (nI k)), (19, .int t)] → W p l e R s m args below meth c H locs cells slots Q (F0 m 323 ls [])) :
    ∀ (z : Nat) (pz : Nat → Nat) (f P : Nat → Int32) (t : Int32), sd_sm pz 256 < z → sd_Af v fs E i cn pz (upd f i t) → (∀ q, q < 256 → i ≤ sd_st cn fs q → P q = nI (pz q)) → sd_Prm (upd f i t) f1 i E → ∀ (H : Heap) (locs : List Loc) (ls : Array Slot), sd_G D A H0 s [(d, .int)] [sd_ar h d n f, sd_ar h4 d 766 Of, sd_ar h5 d 766 Lf, sd_ar h6 d 766 Vf, sd_ar h7 d 256 C, sd_ar h8 d 256 P] H locs → lv_has ls 21 [(0, .ref h), (3, .int (nI sp)), (4, .ref h4), (5, .ref h5), (6, .ref h6), (7, .ref h7), (8, .ref h8), (9, .int (nI fs)), (10, .int (nI ln)), (11, .int (nI v)), (12, .int (nI (sd_sg v))), (13, .int (nI ((3 - v) * 8))), (15, .int (nI en)), (16, .int (nI i)), (17, .int (nI (sd_dg v t))), (19, .int t)] → W p l e R s m args below meth c H locs cells slots Q (F0 m 272 ls []) := by
  intro z
  induction z with
  | zero => intro pz f P t h1; exact absurd h1 (Nat.not_lt_zero _)
  | succ z ih =>
    intro pz f P t h1 hAf hP hp H locs ls hG hl
    obtain ⟨k, hk⟩ : ∃ k, k = sd_dg v t := ⟨_, rfl⟩
    rw [← hk] at hl
    have hcd : sd_dg v (upd f i t i) = k := by rw [pk_us]; exact hk.symm
    have hk1 : k < 256 := by rw [hk]; exact sd_dgLt
    have hk2 := (hAf.ge (Nat.le_refl i) hiE).1
    rw [hcd] at hk2
    have hP1 := hP k hk1 hk2
    have hqE := hAf.le hk1 hk2
    obtain ⟨q, hq⟩ : ∃ q, q = pz k := ⟨_, rfl⟩
    rw [← hq] at hP1 hqE
    refine lv_aload S.1 S.2.1 dX2_radixSort_272 (lv_at hl 6 rfl) ?_
    refine lv_iload S.1 S.2.1 dX2_radixSort_274 (lv_at hl 14 rfl) ?_
    refine lv_dup2_11 S.1 S.2.1 dX2_radixSort_276 rfl rfl ?_
    refine sd_iald S.1 S.2.1 hG 5 0 rfl rfl (by omega) (by omega) dX2_radixSort_277 ?_
    refine sd_top hP1 ?_
    refine lv_iconst (v := nI 1) S.1 S.2.1 dX2_radixSort_278 (by decide +kernel) ?_
    refine sd_isub1 S.1 S.2.1 dX2_radixSort_279 ?_
    refine lv_dup_x2 S.1 S.2.1 dX2_radixSort_280 rfl rfl rfl ?_
    refine sd_iast S.1 S.2.1 hG 5 0 rfl rfl (by omega) (by omega) dX2_radixSort_281 (fun H locs hG => ?_)
    have hG : sd_G D A H0 s [(d, .int)] [sd_ar h d n f, sd_ar h4 d 766 Of, sd_ar h5 d 766 Lf, sd_ar h6 d 766 Vf, sd_ar h7 d 256 C, sd_ar h8 d 256 (upd P k (sd_m q))] H locs := hG
    refine lv_dup S.1 S.2.1 dX2_radixSort_282 rfl ?_
    refine lv_istore (lv' := [(18, .int (sd_m q)), (0, .ref h), (3, .int (nI sp)), (4, .ref h4), (5, .ref h5), (6, .ref h6), (7, .ref h7), (8, .ref h8), (9, .int (nI fs)), (10, .int (nI ln)), (11, .int (nI v)), (12, .int (nI (sd_sg v))), (13, .int (nI ((3 - v) * 8))), (15, .int (nI en)), (16, .int (nI i)), (17, .int (nI k)), (19, .int t)]) S.1 S.2.1 dX2_radixSort_283 hl (by decide) rfl (fun ls hl => ?_)
    refine lv_iload S.1 S.2.1 dX2_radixSort_285 (lv_at hl 14 rfl) ?_
    refine sd_le (tgt := 323) S.1 S.2.1 dX2_radixSort_287 (by decide) (sd_mT (by omega)) (sd_nT (by omega)) (fun c1 => ?_) (fun c1 => ?_)
    · have ho := hAf.out hiE hcd (by omega)
      exact K pz f _ t k H locs ls ho.1 ho.2.1 ho.2.2 (fun r a1 a2 => by rw [pk_un (fun y => by rw [y] at a2; omega)]; exact hP r a1 (by omega)) hp hG (lv_sub hl [1, 2, 3, 4, 5, 6, 7, 8, 9, 10, 11, 12, 13, 14, 15, 16] rfl)
    · have ho := hAf.go hiE hcd (by omega)
      rw [← hq] at ho
      rw [sd_mP (show 0 < q by omega)] at hl hG
      refine lv_iload S.1 S.2.1 dX2_radixSort_290 (lv_at hl 16 rfl) ?_
      refine lv_istore (lv' := [(20, .int t), (18, .int (nI (q - 1))), (0, .ref h), (3, .int (nI sp)), (4, .ref h4), (5, .ref h5), (6, .ref h6), (7, .ref h7), (8, .ref h8), (9, .int (nI fs)), (10, .int (nI ln)), (11, .int (nI v)), (12, .int (nI (sd_sg v))), (13, .int (nI ((3 - v) * 8))), (15, .int (nI en)), (16, .int (nI i)), (17, .int (nI k)), (19, .int t)]) S.1 S.2.1 dX2_radixSort_292 hl (by decide) rfl (fun ls hl => ?_)
      refine lv_aload_n S.1 S.2.1 dX2_radixSort_294 rfl (lv_at hl 2 rfl) ?_
      refine lv_iload S.1 S.2.1 dX2_radixSort_295 (lv_at hl 1 rfl) ?_
      refine sd_iald S.1 S.2.1 hG 0 0 rfl rfl (by omega) (by omega) dX2_radixSort_297 ?_
      refine lv_istore (lv' := [(19, .int (f (q - 1))), (20, .int t), (18, .int (nI (q - 1))), (0, .ref h), (3, .int (nI sp)), (4, .ref h4), (5, .ref h5), (6, .ref h6), (7, .ref h7), (8, .ref h8), (9, .int (nI fs)), (10, .int (nI ln)), (11, .int (nI v)), (12, .int (nI (sd_sg v))), (13, .int (nI ((3 - v) * 8))), (15, .int (nI en)), (16, .int (nI i)), (17, .int (nI k))]) S.1 S.2.1 dX2_radixSort_298 hl (by decide) rfl (fun ls hl => ?_)
      refine lv_aload_n S.1 S.2.1 dX2_radixSort_300 rfl (lv_at hl 3 rfl) ?_
      refine lv_iload S.1 S.2.1 dX2_radixSort_301 (lv_at hl 2 rfl) ?_
      refine lv_iload S.1 S.2.1 dX2_radixSort_303 (lv_at hl 1 rfl) ?_
      refine sd_iast S.1 S.2.1 hG 0 0 rfl rfl (by omega) (by omega) dX2_radixSort_305 (fun H locs hG => ?_)
      have hG : sd_G D A H0 s [(d, .int)] [sd_ar h d n (upd f (q - 1) t), sd_ar h4 d 766 Of, sd_ar h5 d 766 Lf, sd_ar h6 d 766 Vf, sd_ar h7 d 256 C, sd_ar h8 d 256 (upd P k (nI (q - 1)))] H locs := hG
      refine lv_iload S.1 S.2.1 dX2_radixSort_306 (lv_at hl 0 rfl) ?_
      refine lv_iload S.1 S.2.1 dX2_radixSort_308 (lv_at hl 14 rfl) ?_
      refine lv_iushr S.1 S.2.1 dX2_radixSort_310 rfl ?_
      refine lv_sipush (v := nI 255) S.1 S.2.1 dX2_radixSort_311 (by decide +kernel) ?_
      refine lv_iand S.1 S.2.1 dX2_radixSort_314 ?_
      refine lv_iload S.1 S.2.1 dX2_radixSort_315 (lv_at hl 13 rfl) ?_
      refine lv_ixor S.1 S.2.1 dX2_radixSort_317 ?_
      refine sd_top (sd_dgv hv (f (q - 1))) ?_
      refine lv_istore (lv' := [(17, .int (nI (sd_dg v (f (q - 1))))), (19, .int (f (q - 1))), (20, .int t), (18, .int (nI (q - 1))), (0, .ref h), (3, .int (nI sp)), (4, .ref h4), (5, .ref h5), (6, .ref h6), (7, .ref h7), (8, .ref h8), (9, .int (nI fs)), (10, .int (nI ln)), (11, .int (nI v)), (12, .int (nI (sd_sg v))), (13, .int (nI ((3 - v) * 8))), (15, .int (nI en)), (16, .int (nI i))]) S.1 S.2.1 dX2_radixSort_318 hl (by decide) rfl (fun ls hl => ?_)
      refine lv_goto (tgt := 272) S.1 S.2.1 dX2_radixSort_320 (by decide) ?_
      have hne : i ≠ q - 1 := by omega
      refine ih (sd_un pz k (q - 1)) _ _ _ (by omega) (by rw [sd_in_eq hne]; exact ho.2.2.2.1) (fun r a1 a2 => ?_) (by rw [sd_in_eq hne]; exact (sd_Prm.sw (Nat.le_refl i) hiE (by omega) (by omega)).tr hp) H locs ls hG (lv_sub hl [4, 5, 6, 7, 8, 9, 10, 11, 12, 13, 14, 15, 16, 17, 0, 1] rfl)
      by_cases e : r = k
      · rw [e, sd_unS]; exact pk_us
      · rw [sd_unO e, pk_un e]; exact hP r a1 a2
end
section
set_option maxHeartbeats 4000000 in
set_option maxRecDepth 100000 in
theorem sd_rx_398 {p : Program} {l : Launch} {e : Env} {R : Room} {s : State} {m : MethodId} {args : Array Value} {below : List Frame} {meth : Method} {c : Code} {Q : State → Prop} {cells slots : Nat} {D : va_G} {A : Nat → Prop} {H0 : Heap} {h n h4 h5 h6 h7 h8 : Nat} {d : ClassId} (hn : n < 2 ^ 30) (S : CallFix p m c cX2_radixSort 21 s args lw_all RX2) {f Of Lf Vf C P : Nat → Int32} (v fs i k x sp ln en : Nat) (hk : k < 256) (hCk : C k = nI x)
    (K : ∀ (H : Heap) (locs : List Loc) (ls : Array Slot), sd_G D A H0 s [(d, .int)] [sd_ar h d n f, sd_ar h4 d 766 Of, sd_ar h5 d 766 Lf, sd_ar h6 d 766 Vf, sd_ar h7 d 256 (upd C k (nI 0)), sd_ar h8 d 256 P] H locs → lv_has ls 21 [(0, .ref h), (3, .int (nI sp)), (4, .ref h4), (5, .ref h5), (6, .ref h6), (7, .ref h7), (8, .ref h8), (9, .int (nI fs)), (10, .int (nI ln)), (11, .int (nI v)), (12, .int (nI (sd_sg v))), (13, .int (nI ((3 - v) * 8))), (15, .int (nI en)), (16, .int (nI (i + x)))] → W p l e R s m args below meth c H locs cells slots Q (F0 m 238 ls [])) (H : Heap) (locs : List Loc) (ls : Array Slot) (hG : sd_G D A H0 s [(d, .int)] [sd_ar h d n f, sd_ar h4 d 766 Of, sd_ar h5 d 766 Lf, sd_ar h6 d 766 Vf, sd_ar h7 d 256 C, sd_ar h8 d 256 P] H locs) (hl : lv_has ls 21 [(0, .ref h), (3, .int (nI sp)), (4, .ref h4), (5, .ref h5), (6, .ref h6), (7, .ref h7), (8, .ref h8), (9, .int (nI fs)), (10, .int (nI ln)), (11, .int (nI v)), (12, .int (nI (sd_sg v))), (13, .int (nI ((3 - v) * 8))), (15, .int (nI en)), (16, .int (nI i)), (17, .int (nI k))]) : W p l e R s m args below meth c H locs cells slots Q (F0 m 398 ls []) := by
  refine lv_iload S.1 S.2.1 dX2_radixSort_398 (lv_at hl 13 rfl) ?_
  refine lv_aload S.1 S.2.1 dX2_radixSort_400 (lv_at hl 5 rfl) ?_
  refine lv_iload S.1 S.2.1 dX2_radixSort_402 (lv_at hl 14 rfl) ?_
  refine sd_iald S.1 S.2.1 hG 4 0 rfl rfl (by omega) (by omega) dX2_radixSort_404 ?_
  refine sd_top hCk ?_
  refine sd_iadd S.1 S.2.1 dX2_radixSort_405 ?_
  refine lv_istore (lv' := [(16, .int (nI (i + x))), (0, .ref h), (3, .int (nI sp)), (4, .ref h4), (5, .ref h5), (6, .ref h6), (7, .ref h7), (8, .ref h8), (9, .int (nI fs)), (10, .int (nI ln)), (11, .int (nI v)), (12, .int (nI (sd_sg v))), (13, .int (nI ((3 - v) * 8))), (15, .int (nI en)), (17, .int (nI k))]) S.1 S.2.1 dX2_radixSort_406 hl (by decide) rfl (fun ls hl => ?_)
  refine lv_aload S.1 S.2.1 dX2_radixSort_408 (lv_at hl 6 rfl) ?_
  refine lv_iload S.1 S.2.1 dX2_radixSort_410 (lv_at hl 14 rfl) ?_
  refine lv_iconst (v := nI 0) S.1 S.2.1 dX2_radixSort_412 (by decide +kernel) ?_
  refine sd_iast S.1 S.2.1 hG 4 0 rfl rfl (by omega) (by omega) dX2_radixSort_413 (fun H locs hG => ?_)
  have hG : sd_G D A H0 s [(d, .int)] [sd_ar h d n f, sd_ar h4 d 766 Of, sd_ar h5 d 766 Lf, sd_ar h6 d 766 Vf, sd_ar h7 d 256 (upd C k (nI 0)), sd_ar h8 d 256 P] H locs := hG
  refine lv_goto (tgt := 238) S.1 S.2.1 dX2_radixSort_414 (by decide) ?_
  exact K H locs ls hG (lv_sub hl [1, 2, 3, 4, 5, 6, 7, 8, 9, 10, 11, 12, 13, 0] rfl)
set_option maxHeartbeats 4000000 in
set_option maxRecDepth 100000 in
theorem sd_rx_329 {p : Program} {l : Launch} {e : Env} {R : Room} {s : State} {m : MethodId} {args : Array Value} {below : List Frame} {meth : Method} {c : Code} {Q : State → Prop} {cells slots : Nat} {D : va_G} {A : Nat → Prop} {H0 : Heap} {h n h4 h5 h6 h7 h8 : Nat} {d : ClassId} (hn : n < 2 ^ 30) (S : CallFix p m c cX2_radixSort 21 s args lw_all RX2) {f0 f Of Lf Vf C P : Nat → Int32} {o lz w : Nat → Nat} (lo hi v E fs i k x sp ln en M1 : Nat) (hv : v ≤ 3) (hn2 : n ≤ 2048) (hh : hi ≤ n) (hR : 1012 ≤ R.frames ∧ 32367 ≤ R.locals) (hCC : cells ≤ R.cells ∧ slots ≤ R.slots) (hA : ∀ q : Nat, H0.size ≤ q → A q) (hk : k < 256) (hx : i + x ≤ E) (hCk : C k = nI x)
    (hRI : sd_RI f0 f lo hi i E v sp o lz w) (hSk : sd_Sk sp o lz w Of Lf Vf) (hM : sd_ms lz w sp + (E - i) * (3 - v) ≤ M1) (hb : ∀ j, i ≤ j → j < i + x → sd_dg v (f j) = k) (hlt : ∀ a b, i ≤ a → a < i + x → i + x ≤ b → b < E → (f a).toInt ≤ (f b).toInt)
    (K : ∀ (f' Of Lf Vf : Nat → Int32) (o lz w : Nat → Nat) (sp : Nat) (H : Heap) (locs : List Loc) (ls : Array Slot), sd_Prm f' f i (i + x) → sd_RI f0 f' lo hi (i + x) E v sp o lz w → sd_Sk sp o lz w Of Lf Vf → sd_ms lz w sp + (E - (i + x)) * (3 - v) ≤ M1 → sd_G D A H0 s [(d, .int)] [sd_ar h d n f', sd_ar h4 d 766 Of, sd_ar h5 d 766 Lf, sd_ar h6 d 766 Vf, sd_ar h7 d 256 (upd C k (nI 0)), sd_ar h8 d 256 P] H locs → lv_has ls 21 [(0, .ref h), (3, .int (nI sp)), (4, .ref h4), (5, .ref h5), (6, .ref h6), (7, .ref h7), (8, .ref h8), (9, .int (nI fs)), (10, .int (nI ln)), (11, .int (nI v)), (12, .int (nI (sd_sg v))), (13, .int (nI ((3 - v) * 8))), (15, .int (nI en)), (16, .int (nI (i + x)))] → W p l e R s m args below meth c H locs cells slots Q (F0 m 238 ls [])) (H : Heap) (locs : List Loc) (ls : Array Slot) (hG : sd_G D A H0 s [(d, .int)] [sd_ar h d n f, sd_ar h4 d 766 Of, sd_ar h5 d 766 Lf, sd_ar h6 d 766 Vf, sd_ar h7 d 256 C, sd_ar h8 d 256 P] H locs) (hl : lv_has ls 21 [(0, .ref h), (3, .int (nI sp)), (4, .ref h4), (5, .ref h5), (6, .ref h6), (7, .ref h7), (8, .ref h8), (9, .int (nI fs)), (10, .int (nI ln)), (11, .int (nI v)), (12, .int (nI (sd_sg v))), (13, .int (nI ((3 - v) * 8))), (15, .int (nI en)), (16, .int (nI i)), (17, .int (nI k))]) : W p l e R s m args below meth c H locs cells slots Q (F0 m 329 ls []) := by
  have h0 := hRI.1
  have hpre : ∀ a b, i ≤ a → a < i + x → i ≤ b → b < i + x → sd_Pre (v + 1) (f a) (f b) := fun a b a1 a2 b1 b2 => (hRI.2.2.2.2 a b a1 (by omega) b1 (by omega)).su ((hb a a1 a2).trans (hb b b1 b2).symm)
  refine lv_iload S.1 S.2.1 dX2_radixSort_329 (lv_at hl 9 rfl) ?_
  refine lv_iconst (v := nI 3) S.1 S.2.1 dX2_radixSort_331 (by decide +kernel) ?_
  refine sd_ge (tgt := 398) S.1 S.2.1 dX2_radixSort_332 (by decide) (sd_nT (by omega)) (sd_nT (by omega)) (fun c1 => ?_) (fun c1 => ?_)
  · have hsr : sd_Srt f i (i + x) := fun a b a1 a2 a3 => by
      have hq := hpre a b a1 (by omega) (by omega) a3
      rw [show v = 3 by omega] at hq
      rw [hq.eq]
      exact Int.le_refl _
    exact sd_rx_398 hn S v fs i k x sp ln en hk hCk (fun H locs ls hG hl => K _ _ _ _ _ _ _ _ H locs ls sd_Prm.rf (hRI.cut (by omega) hx hsr hlt) hSk (sd_m1 hM) hG hl) H locs ls hG (lv_sub hl [0, 1, 2, 3, 4, 5, 6, 7, 8, 9, 10, 11, 12, 13, 14] rfl)
  · refine lv_aload S.1 S.2.1 dX2_radixSort_335 (lv_at hl 5 rfl) ?_
    refine lv_iload S.1 S.2.1 dX2_radixSort_337 (lv_at hl 14 rfl) ?_
    refine sd_iald S.1 S.2.1 hG 4 0 rfl rfl (by omega) (by omega) dX2_radixSort_339 ?_
    refine sd_top hCk ?_
    refine lv_iconst (v := nI 1) S.1 S.2.1 dX2_radixSort_340 (by decide +kernel) ?_
    refine sd_le (tgt := 398) S.1 S.2.1 dX2_radixSort_341 (by decide) (sd_nT (by omega)) (sd_nT (by omega)) (fun c2 => ?_) (fun c2 => ?_)
    · exact sd_rx_398 hn S v fs i k x sp ln en hk hCk (fun H locs ls hG hl => K _ _ _ _ _ _ _ _ H locs ls sd_Prm.rf (hRI.cut (by omega) hx (sd_Srt.nil (by omega)) hlt) hSk (sd_m1 hM) hG hl) H locs ls hG (lv_sub hl [0, 1, 2, 3, 4, 5, 6, 7, 8, 9, 10, 11, 12, 13, 14] rfl)
    · refine lv_aload S.1 S.2.1 dX2_radixSort_344 (lv_at hl 5 rfl) ?_
      refine lv_iload S.1 S.2.1 dX2_radixSort_346 (lv_at hl 14 rfl) ?_
      refine sd_iald S.1 S.2.1 hG 4 0 rfl rfl (by omega) (by omega) dX2_radixSort_348 ?_
      refine sd_top hCk ?_
      refine lv_sipush (v := nI 1024) S.1 S.2.1 dX2_radixSort_349 (by decide +kernel) ?_
      refine sd_ge (tgt := 372) S.1 S.2.1 dX2_radixSort_352 (by decide) (sd_nT (by omega)) (sd_nT (by omega)) (fun c3 => ?_) (fun c3 => ?_)
      · have hz := hRI.sz
        refine lv_aload S.1 S.2.1 dX2_radixSort_372 (lv_at hl 2 rfl) ?_
        refine lv_iload_n S.1 S.2.1 dX2_radixSort_374 rfl (lv_at hl 1 rfl) ?_
        refine lv_iload S.1 S.2.1 dX2_radixSort_375 (lv_at hl 13 rfl) ?_
        refine sd_iast S.1 S.2.1 hG 1 0 rfl rfl (by omega) (by omega) dX2_radixSort_377 (fun H locs hG => ?_)
        have hG : sd_G D A H0 s [(d, .int)] [sd_ar h d n f, sd_ar h4 d 766 (upd Of sp (nI i)), sd_ar h5 d 766 Lf, sd_ar h6 d 766 Vf, sd_ar h7 d 256 C, sd_ar h8 d 256 P] H locs := hG
        refine lv_aload S.1 S.2.1 dX2_radixSort_378 (lv_at hl 3 rfl) ?_
        refine lv_iload_n S.1 S.2.1 dX2_radixSort_380 rfl (lv_at hl 1 rfl) ?_
        refine lv_aload S.1 S.2.1 dX2_radixSort_381 (lv_at hl 5 rfl) ?_
        refine lv_iload S.1 S.2.1 dX2_radixSort_383 (lv_at hl 14 rfl) ?_
        refine sd_iald S.1 S.2.1 hG 4 0 rfl rfl (by omega) (by omega) dX2_radixSort_385 ?_
        refine sd_top hCk ?_
        refine sd_iast S.1 S.2.1 hG 2 0 rfl rfl (by omega) (by omega) dX2_radixSort_386 (fun H locs hG => ?_)
        have hG : sd_G D A H0 s [(d, .int)] [sd_ar h d n f, sd_ar h4 d 766 (upd Of sp (nI i)), sd_ar h5 d 766 (upd Lf sp (nI x)), sd_ar h6 d 766 Vf, sd_ar h7 d 256 C, sd_ar h8 d 256 P] H locs := hG
        refine lv_aload S.1 S.2.1 dX2_radixSort_387 (lv_at hl 4 rfl) ?_
        refine lv_iload_n S.1 S.2.1 dX2_radixSort_389 rfl (lv_at hl 1 rfl) ?_
        refine lv_iinc (v := nI (sp + 1)) (lv' := [(3, .int (nI (sp + 1))), (0, .ref h), (4, .ref h4), (5, .ref h5), (6, .ref h6), (7, .ref h7), (8, .ref h8), (9, .int (nI fs)), (10, .int (nI ln)), (11, .int (nI v)), (12, .int (nI (sd_sg v))), (13, .int (nI ((3 - v) * 8))), (15, .int (nI en)), (16, .int (nI i)), (17, .int (nI k))]) S.1 S.2.1 dX2_radixSort_390 hl (k := 1) rfl (sd_i1 _) (by decide) rfl (fun ls hl => ?_)
        refine lv_iload S.1 S.2.1 dX2_radixSort_393 (lv_at hl 9 rfl) ?_
        refine lv_iconst (v := nI 1) S.1 S.2.1 dX2_radixSort_395 (by decide +kernel) ?_
        refine sd_iadd S.1 S.2.1 dX2_radixSort_396 ?_
        refine sd_iast S.1 S.2.1 hG 3 0 rfl rfl (by omega) (by omega) dX2_radixSort_397 (fun H locs hG => ?_)
        have hG : sd_G D A H0 s [(d, .int)] [sd_ar h d n f, sd_ar h4 d 766 (upd Of sp (nI i)), sd_ar h5 d 766 (upd Lf sp (nI x)), sd_ar h6 d 766 (upd Vf sp (nI (v + 1))), sd_ar h7 d 256 C, sd_ar h8 d 256 P] H locs := hG
        exact sd_rx_398 hn S v fs i k x (sp + 1) ln en hk hCk (fun H locs ls hG hl => K _ _ _ _ _ _ _ _ H locs ls sd_Prm.rf (hRI.psh (L := x) (by omega) hx (by omega) hpre hlt) hSk.psh (by rw [sd_msP]; exact sd_m2 hM hx) hG hl) H locs ls hG (lv_sub hl [1, 0, 2, 3, 4, 5, 6, 7, 8, 9, 10, 11, 12, 13, 14] rfl)
      · refine lv_aload_n S.1 S.2.1 dX2_radixSort_355 rfl (lv_at hl 0 rfl) ?_
        refine lv_iload S.1 S.2.1 dX2_radixSort_356 (lv_at hl 13 rfl) ?_
        refine lv_iload S.1 S.2.1 dX2_radixSort_358 (lv_at hl 13 rfl) ?_
        refine lv_aload S.1 S.2.1 dX2_radixSort_360 (lv_at hl 5 rfl) ?_
        refine lv_iload S.1 S.2.1 dX2_radixSort_362 (lv_at hl 14 rfl) ?_
        refine sd_iald S.1 S.2.1 hG 4 0 rfl rfl (by omega) (by omega) dX2_radixSort_364 ?_
        refine sd_top hCk ?_
        refine sd_iadd S.1 S.2.1 dX2_radixSort_365 ?_
        refine sd_callv (nn := 3) (rest := []) S (sd_quickSort l D h d n hn 1009 f i (i + x) (by omega) (by omega) (by omega)) (lw_S q81 q61 q6 q62) (by decide +kernel) rfl ⟨by omega, by omega⟩ hCC hG hA 0 0 rfl rfl hl.1 rfl (Nat.le_of_ble_eq_true rfl) dX2_radixSort_366 (fun f' H locs ef' hG => ?_)
        have hG : sd_G D A H0 s [(d, .int)] [sd_ar h d n f', sd_ar h4 d 766 Of, sd_ar h5 d 766 Lf, sd_ar h6 d 766 Vf, sd_ar h7 d 256 C, sd_ar h8 d 256 P] H locs := hG
        refine lv_goto (tgt := 398) S.1 S.2.1 dX2_radixSort_369 (by decide) ?_
        have hlt' : ∀ a b, i ≤ a → a < i + x → i + x ≤ b → b < E → (f' a).toInt ≤ (f' b).toInt := fun a b a1 a2 b1 b2 => by
          rw [ef'.2.1 b (by omega)]
          exact ef'.2.all (p := fun y => y.toInt ≤ (f b).toInt) (fun j j1 j2 => hlt j b j1 j2 b1 b2) a a1 a2
        exact sd_rx_398 hn S v fs i k x sp ln en hk hCk (fun H locs ls hG hl => K _ _ _ _ _ _ _ _ H locs ls ef'.2 ((hRI.prm (ef'.2.wd (Nat.le_refl i) (by omega) hx)).cut (by omega) hx ef'.1 hlt') hSk (sd_m1 hM) hG hl) H locs ls hG (lv_sub hl [0, 1, 2, 3, 4, 5, 6, 7, 8, 9, 10, 11, 12, 13, 14] rfl)
set_option maxHeartbeats 4000000 in
set_option maxRecDepth 100000 in
theorem sd_rx_main {p : Program} {l : Launch} {e : Env} {R : Room} {s : State} {m : MethodId} {args : Array Value} {below : List Frame} {meth : Method} {c : Code} {Q : State → Prop} {cells slots : Nat} {D : va_G} {A : Nat → Prop} {H0 : Heap} {h n h4 h5 h6 h7 h8 : Nat} {d : ClassId} (hn : n < 2 ^ 30) (S : CallFix p m c cX2_radixSort 21 s args lw_all RX2) {f0 : Nat → Int32} (cn : Nat → Nat) (lo hi v E fs ln u M1 : Nat) (hv : v ≤ 3) (hn2 : n ≤ 2048) (hh : hi ≤ n) (hR : 1012 ≤ R.frames ∧ 32367 ≤ R.locals) (hCC : cells ≤ R.cells ∧ slots ≤ R.slots) (hA : ∀ q : Nat, H0.size ≤ q → A q)
    (hE : sd_st cn fs 256 = E) (hE2 : sd_st cn fs u + cn u = E) (hu : u < 256) (hu0 : cn u ≠ 0) (huz : ∀ k, u < k → k < 256 → cn k = 0)
    (K : ∀ (f Of Lf Vf C P : Nat → Int32) (o lz w : Nat → Nat) (sp : Nat) (H : Heap) (locs : List Loc) (ls : Array Slot), sd_RI f0 f lo hi E E v sp o lz w → sd_Sk sp o lz w Of Lf Vf → (∀ k, k < 256 → C k = nI 0) → sd_ms lz w sp ≤ M1 → sd_G D A H0 s [(d, .int)] [sd_ar h d n f, sd_ar h4 d 766 Of, sd_ar h5 d 766 Lf, sd_ar h6 d 766 Vf, sd_ar h7 d 256 C, sd_ar h8 d 256 P] H locs → lv_has ls 21 [(0, .ref h), (3, .int (nI sp)), (4, .ref h4), (5, .ref h5), (6, .ref h6), (7, .ref h7), (8, .ref h8)] → W p l e R s m args below meth c H locs cells slots Q (F0 m 417 ls [])) :
    ∀ (z i sp : Nat) (f Of Lf Vf C P : Nat → Int32) (pz o lz w : Nat → Nat), E - i < z → fs ≤ i → sd_RI f0 f lo hi i E v sp o lz w → sd_Sk sp o lz w Of Lf Vf → sd_Cn C cn fs i → (i < E → sd_Af v fs E i cn pz f) → (i < E → ∀ q, q < 256 → i ≤ sd_st cn fs q → P q = nI (pz q)) → sd_ms lz w sp + (E - i) * (3 - v) ≤ M1 → ∀ (H : Heap) (locs : List Loc) (ls : Array Slot), sd_G D A H0 s [(d, .int)] [sd_ar h d n f, sd_ar h4 d 766 Of, sd_ar h5 d 766 Lf, sd_ar h6 d 766 Vf, sd_ar h7 d 256 C, sd_ar h8 d 256 P] H locs → lv_has ls 21 [(0, .ref h), (3, .int (nI sp)), (4, .ref h4), (5, .ref h5), (6, .ref h6), (7, .ref h7), (8, .ref h8), (9, .int (nI fs)), (10, .int (nI ln)), (11, .int (nI v)), (12, .int (nI (sd_sg v))), (13, .int (nI ((3 - v) * 8))), (15, .int (nI (sd_st cn fs u))), (16, .int (nI i))] → W p l e R s m args below meth c H locs cells slots Q (F0 m 238 ls []) := by
  intro z
  induction z with
  | zero => intro i sp f Of Lf Vf C P pz o lz w h1; exact absurd h1 (Nat.not_lt_zero _)
  | succ z ih =>
    intro i sp f Of Lf Vf C P pz o lz w h1 hfi hRI hSk hCn hAf hP hM H locs ls hG hl
    have h0 := hRI.1
    obtain ⟨en, hen⟩ : ∃ en, en = sd_st cn fs u := ⟨_, rfl⟩
    rw [← hen] at hl hE2
    refine lv_iload S.1 S.2.1 dX2_radixSort_238 (lv_at hl 13 rfl) ?_
    refine lv_iload S.1 S.2.1 dX2_radixSort_240 (lv_at hl 12 rfl) ?_
    refine sd_gt (tgt := 417) S.1 S.2.1 dX2_radixSort_242 (by decide) (sd_nT (by omega)) (sd_nT (by omega)) (fun c1 => ?_) (fun c1 => ?_)
    · have e1 : i = E := by
        rcases Nat.lt_or_ge i E with y | y
        · obtain ⟨b, -, hb⟩ := (hAf y).2.2.1
          have e2 := sd_stB hb (show sd_st cn fs u < i by omega)
          have e3 := sd_stS (cn := cn) (fs := fs) (c := u)
          omega
        · omega
      subst e1
      exact K f Of Lf Vf C P o lz w sp H locs ls hRI hSk (hCn.en hE) (by omega) hG (lv_sub hl [0, 1, 2, 3, 4, 5, 6] rfl)
    · have hiE : i < E := by omega
      have hAf := hAf hiE
      have hP := hP hiE
      refine lv_aload_n S.1 S.2.1 dX2_radixSort_245 rfl (lv_at hl 0 rfl) ?_
      refine lv_iload S.1 S.2.1 dX2_radixSort_246 (lv_at hl 13 rfl) ?_
      refine sd_iald S.1 S.2.1 hG 0 0 rfl rfl (by omega) (by omega) dX2_radixSort_248 ?_
      refine lv_istore (lv' := [(19, .int (f i)), (0, .ref h), (3, .int (nI sp)), (4, .ref h4), (5, .ref h5), (6, .ref h6), (7, .ref h7), (8, .ref h8), (9, .int (nI fs)), (10, .int (nI ln)), (11, .int (nI v)), (12, .int (nI (sd_sg v))), (13, .int (nI ((3 - v) * 8))), (15, .int (nI en)), (16, .int (nI i))]) S.1 S.2.1 dX2_radixSort_249 hl (by decide) rfl (fun ls hl => ?_)
      refine lv_iload S.1 S.2.1 dX2_radixSort_251 (lv_at hl 0 rfl) ?_
      refine lv_iload S.1 S.2.1 dX2_radixSort_253 (lv_at hl 12 rfl) ?_
      refine lv_iushr S.1 S.2.1 dX2_radixSort_255 rfl ?_
      refine lv_sipush (v := nI 255) S.1 S.2.1 dX2_radixSort_256 (by decide +kernel) ?_
      refine lv_iand S.1 S.2.1 dX2_radixSort_259 ?_
      refine lv_iload S.1 S.2.1 dX2_radixSort_260 (lv_at hl 11 rfl) ?_
      refine lv_ixor S.1 S.2.1 dX2_radixSort_262 ?_
      refine sd_top (sd_dgv hv (f i)) ?_
      refine lv_istore (lv' := [(17, .int (nI (sd_dg v (f i)))), (19, .int (f i)), (0, .ref h), (3, .int (nI sp)), (4, .ref h4), (5, .ref h5), (6, .ref h6), (7, .ref h7), (8, .ref h8), (9, .int (nI fs)), (10, .int (nI ln)), (11, .int (nI v)), (12, .int (nI (sd_sg v))), (13, .int (nI ((3 - v) * 8))), (15, .int (nI en)), (16, .int (nI i))]) S.1 S.2.1 dX2_radixSort_263 hl (by decide) rfl (fun ls hl => ?_)
      refine lv_iload S.1 S.2.1 dX2_radixSort_265 (lv_at hl 15 rfl) ?_
      refine lv_iload S.1 S.2.1 dX2_radixSort_267 (lv_at hl 14 rfl) ?_
      refine sd_ge (tgt := 329) S.1 S.2.1 dX2_radixSort_269 (by decide) (sd_nT (by omega)) (sd_nT (by omega)) (fun c2 => ?_) (fun c2 => ?_)
      · have hie : i = sd_st cn fs u := by omega
        have hla := hAf.last hu hie hu0 huz
        have hku : sd_dg v (f i) = u := hla.2.2 i (Nat.le_refl i) hiE
        rw [hku] at hl
        have hCu : C u = nI (cn u) := (hCn u hu).1 (by omega)
        refine sd_rx_329 hn S lo hi v E fs i u (cn u) sp ln en M1 hv hn2 hh hR hCC hA hu (by omega) hCu hRI hSk hM (fun j a1 a2 => hla.2.2 j a1 (by omega)) (fun a b a1 a2 b1 b2 => absurd b2 (by omega)) (fun f' Of Lf Vf o lz w sp H locs ls hp hRI hSk hM hG hl => ?_) H locs ls hG (lv_sub hl [2, 3, 4, 5, 6, 7, 8, 9, 10, 11, 12, 13, 14, 15, 0] rfl)
        rw [hen] at hl
        exact ih (i + cn u) sp f' Of Lf Vf _ P pz o lz w (by omega) (by omega) hRI hSk (hCn.go hu hie.symm (by omega)) (fun y => absurd y (by omega)) (fun y => absurd y (by omega)) hM H locs ls hG hl
      · refine sd_rx_in (f1 := f) hn S cn v fs E i sp ln en hv (by omega) hiE (fun pz f9 P t k H locs ls hk hb hAf hP hp hG hl => ?_) (sd_sm pz 256 + 1) pz f P (f i) (Nat.lt_succ_self _) (by rw [sd_updS]; exact hAf) hP (by rw [sd_updS]; exact sd_Prm.rf) H locs ls hG (lv_sub hl [2, 3, 4, 5, 6, 7, 8, 9, 10, 11, 12, 13, 14, 15, 0, 1] rfl)
        refine lv_aload_n S.1 S.2.1 dX2_radixSort_323 rfl (lv_at hl 0 rfl) ?_
        refine lv_iload S.1 S.2.1 dX2_radixSort_324 (lv_at hl 13 rfl) ?_
        refine lv_iload S.1 S.2.1 dX2_radixSort_326 (lv_at hl 15 rfl) ?_
        refine sd_iast S.1 S.2.1 hG 0 0 rfl rfl (by omega) (by omega) dX2_radixSort_328 (fun H locs hG => ?_)
        have hG : sd_G D A H0 s [(d, .int)] [sd_ar h d n (upd f9 i t), sd_ar h4 d 766 Of, sd_ar h5 d 766 Lf, sd_ar h6 d 766 Vf, sd_ar h7 d 256 C, sd_ar h8 d 256 P] H locs := hG
        generalize upd f9 i t = f2 at hb hAf hp hG
        have hRI := hRI.prm hp
        have hCk : C k = nI (cn k) := (hCn k hk.1).1 (by omega)
        refine sd_rx_329 hn S lo hi v E fs i k (cn k) sp ln en M1 hv hn2 hh hR hCC hA hk.1 hk.2.2.2 hCk hRI hSk hM hb (hRI.lt hv hAf hk.1 hk.2.1 hb) (fun f' Of Lf Vf o lz w sp H locs ls hp hRI hSk hM hG hl => ?_) H locs ls hG (lv_sub hl [0, 1, 2, 3, 4, 5, 6, 7, 8, 9, 10, 11, 12, 13, 14] rfl)
        rw [hen] at hl
        exact ih (i + cn k) sp f' Of Lf Vf _ P pz o lz w (by omega) (by omega) hRI hSk (hCn.go hk.1 hk.2.1 hk.2.2.1) (fun _ => hAf.prm hfi hk.2.2.2 hb hp) (fun _ => hP) hM H locs ls hG hl
set_option maxHeartbeats 4000000 in
set_option maxRecDepth 100000 in
theorem sd_rx_outer {p : Program} {l : Launch} {e : Env} {R : Room} {s : State} {m : MethodId} {args : Array Value} {below : List Frame} {meth : Method} {c : Code} {Q : State → Prop} {cells slots : Nat} {D : va_G} {A : Nat → Prop} {H0 : Heap} {h n h4 h5 h6 h7 h8 : Nat} {d : ClassId} (hn : n < 2 ^ 30) (S : CallFix p m c cX2_radixSort 21 s args lw_all RX2) {f0 : Nat → Int32} (lo hi : Nat) (hn2 : n ≤ 2048) (hh : hi ≤ n) (hR : 1012 ≤ R.frames ∧ 32367 ≤ R.locals) (hCC : cells ≤ R.cells ∧ slots ≤ R.slots) (hA : ∀ q : Nat, H0.size ≤ q → A q)
    (K : ∀ (f Of Lf Vf C P : Nat → Int32) (H : Heap) (locs : List Loc) (ls : Array Slot), sd_Srt f lo hi ∧ sd_Prm f f0 lo hi → sd_G D A H0 s [(d, .int)] [sd_ar h d n f, sd_ar h4 d 766 Of, sd_ar h5 d 766 Lf, sd_ar h6 d 766 Vf, sd_ar h7 d 256 C, sd_ar h8 d 256 P] H locs → W p l e R s m args below meth c H locs cells slots Q (F0 m 420 ls [])) :
    ∀ (z sp : Nat) (f Of Lf Vf C P : Nat → Int32) (o lz w : Nat → Nat), sd_ms lz w sp < z → sd_RI f0 f lo hi hi hi 0 sp o lz w → sd_Sk sp o lz w Of Lf Vf → (∀ k, k < 256 → C k = nI 0) → ∀ (H : Heap) (locs : List Loc) (ls : Array Slot), sd_G D A H0 s [(d, .int)] [sd_ar h d n f, sd_ar h4 d 766 Of, sd_ar h5 d 766 Lf, sd_ar h6 d 766 Vf, sd_ar h7 d 256 C, sd_ar h8 d 256 P] H locs → lv_has ls 21 [(0, .ref h), (3, .int (nI sp)), (4, .ref h4), (5, .ref h5), (6, .ref h6), (7, .ref h7), (8, .ref h8)] → W p l e R s m args below meth c H locs cells slots Q (F0 m 73 ls []) := by
  intro z
  induction z with
  | zero => intro sp f Of Lf Vf C P o lz w h1; exact absurd h1 (Nat.not_lt_zero _)
  | succ z ih =>
    intro sp f Of Lf Vf C P o lz w h1 hRI hSk hC H locs ls hG hl
    have hsz := hRI.sz
    refine lv_iload_n S.1 S.2.1 dX2_radixSort_73 rfl (lv_at hl 1 rfl) ?_
    refine sd_zle (tgt := 420) S.1 S.2.1 dX2_radixSort_74 (by decide) (sd_nT (by omega)) (fun c1 => ?_) (fun c1 => ?_)
    · have e1 : sp = 0 := by omega
      subst e1
      exact K f Of Lf Vf C P H locs ls hRI.en hG
    · obtain ⟨sp', rfl⟩ : ∃ sp', sp = sp' + 1 := ⟨sp - 1, by omega⟩
      have hpop := hRI.pop
      have hst := hSk sp' (Nat.lt_succ_self _)
      rw [sd_msS] at h1
      obtain ⟨fs, efs⟩ : ∃ y, y = o sp' := ⟨_, rfl⟩
      obtain ⟨ln, eln⟩ : ∃ y, y = lz sp' := ⟨_, rfl⟩
      obtain ⟨v, ev⟩ : ∃ y, y = w sp' := ⟨_, rfl⟩
      rw [← efs, ← eln, ← ev] at hpop hst
      rw [← eln, ← ev] at h1
      obtain ⟨⟨hv, hln⟩, hRI⟩ := hpop
      have h0 := hRI.1
      have hSk : sd_Sk sp' o lz w Of Lf Vf := fun k hk => hSk k (by omega)
      have hms : sd_ms lz w sp' + ln * (3 - v) < z := by
        have e9 : ln * (4 - v) = ln * (3 - v) + ln := by rw [show 4 - v = (3 - v) + 1 by omega, Nat.mul_succ]
        omega
      refine lv_aload S.1 S.2.1 dX2_radixSort_77 (lv_at hl 2 rfl) ?_
      refine lv_iinc (v := nI sp') (lv' := [(3, .int (nI sp')), (0, .ref h), (4, .ref h4), (5, .ref h5), (6, .ref h6), (7, .ref h7), (8, .ref h8)]) S.1 S.2.1 dX2_radixSort_79 hl (k := 1) rfl (pk_m1 _) (by decide) rfl (fun ls hl => ?_)
      refine lv_iload_n S.1 S.2.1 dX2_radixSort_82 rfl (lv_at hl 0 rfl) ?_
      refine sd_iald S.1 S.2.1 hG 1 0 rfl rfl (by omega) (by omega) dX2_radixSort_83 ?_
      refine sd_top hst.1 ?_
      refine lv_istore (lv' := [(9, .int (nI fs)), (3, .int (nI sp')), (0, .ref h), (4, .ref h4), (5, .ref h5), (6, .ref h6), (7, .ref h7), (8, .ref h8)]) S.1 S.2.1 dX2_radixSort_84 hl (by decide) rfl (fun ls hl => ?_)
      refine lv_aload S.1 S.2.1 dX2_radixSort_86 (lv_at hl 4 rfl) ?_
      refine lv_iload_n S.1 S.2.1 dX2_radixSort_88 rfl (lv_at hl 1 rfl) ?_
      refine sd_iald S.1 S.2.1 hG 2 0 rfl rfl (by omega) (by omega) dX2_radixSort_89 ?_
      refine sd_top hst.2.1 ?_
      refine lv_istore (lv' := [(10, .int (nI ln)), (9, .int (nI fs)), (3, .int (nI sp')), (0, .ref h), (4, .ref h4), (5, .ref h5), (6, .ref h6), (7, .ref h7), (8, .ref h8)]) S.1 S.2.1 dX2_radixSort_90 hl (by decide) rfl (fun ls hl => ?_)
      refine lv_aload S.1 S.2.1 dX2_radixSort_92 (lv_at hl 6 rfl) ?_
      refine lv_iload_n S.1 S.2.1 dX2_radixSort_94 rfl (lv_at hl 2 rfl) ?_
      refine sd_iald S.1 S.2.1 hG 3 0 rfl rfl (by omega) (by omega) dX2_radixSort_95 ?_
      refine sd_top hst.2.2 ?_
      refine lv_istore (lv' := [(11, .int (nI v)), (10, .int (nI ln)), (9, .int (nI fs)), (3, .int (nI sp')), (0, .ref h), (4, .ref h4), (5, .ref h5), (6, .ref h6), (7, .ref h7), (8, .ref h8)]) S.1 S.2.1 dX2_radixSort_96 hl (by decide) rfl (fun ls hl => ?_)
      have tail : ∀ (ls : Array Slot), lv_has ls 21 [(0, .ref h), (3, .int (nI sp')), (4, .ref h4), (5, .ref h5), (6, .ref h6), (7, .ref h7), (8, .ref h8), (9, .int (nI fs)), (10, .int (nI ln)), (11, .int (nI v))] → W p l e R s m args below meth c H locs cells slots Q (F0 m 112 ls [.int (nI (sd_sg v))]) := by
        intro ls hl
        refine lv_istore (lv' := [(12, .int (nI (sd_sg v))), (0, .ref h), (3, .int (nI sp')), (4, .ref h4), (5, .ref h5), (6, .ref h6), (7, .ref h7), (8, .ref h8), (9, .int (nI fs)), (10, .int (nI ln)), (11, .int (nI v))]) S.1 S.2.1 dX2_radixSort_112 hl (by decide) rfl (fun ls hl => ?_)
        refine lv_iconst (v := nI 3) S.1 S.2.1 dX2_radixSort_114 (by decide +kernel) ?_
        refine lv_iload S.1 S.2.1 dX2_radixSort_115 (lv_at hl 10 rfl) ?_
        refine lv_iconst (v := nI 4) S.1 S.2.1 dX2_radixSort_117 (by decide +kernel) ?_
        refine sd_irem S.1 S.2.1 (by omega) (by omega) (by omega) dX2_radixSort_118 ?_
        refine sd_isub S.1 S.2.1 (by omega) dX2_radixSort_119 ?_
        refine lv_bipush (v := nI 8) S.1 S.2.1 dX2_radixSort_120 (by decide +kernel) ?_
        refine sd_imul S.1 S.2.1 dX2_radixSort_122 ?_
        refine sd_top (show nI ((3 - v % 4) * 8) = nI ((3 - v) * 8) by rw [Nat.mod_eq_of_lt (show v < 4 by omega)]) ?_
        refine lv_istore (lv' := [(13, .int (nI ((3 - v) * 8))), (12, .int (nI (sd_sg v))), (0, .ref h), (3, .int (nI sp')), (4, .ref h4), (5, .ref h5), (6, .ref h6), (7, .ref h7), (8, .ref h8), (9, .int (nI fs)), (10, .int (nI ln)), (11, .int (nI v))]) S.1 S.2.1 dX2_radixSort_123 hl (by decide) rfl (fun ls hl => ?_)
        refine lv_iload S.1 S.2.1 dX2_radixSort_125 (lv_at hl 9 rfl) ?_
        refine lv_iload S.1 S.2.1 dX2_radixSort_127 (lv_at hl 10 rfl) ?_
        refine sd_iadd S.1 S.2.1 dX2_radixSort_129 ?_
        refine lv_istore (lv' := [(14, .int (nI (fs + ln))), (13, .int (nI ((3 - v) * 8))), (12, .int (nI (sd_sg v))), (0, .ref h), (3, .int (nI sp')), (4, .ref h4), (5, .ref h5), (6, .ref h6), (7, .ref h7), (8, .ref h8), (9, .int (nI fs)), (10, .int (nI ln)), (11, .int (nI v))]) S.1 S.2.1 dX2_radixSort_130 hl (by decide) rfl (fun ls hl => ?_)
        refine sd_rx_cnt hn S v fs (fs + ln) sp' ln hv (by omega) (fun C H locs ls hC hG hl => ?_) (fs + ln + 1) (fs + ln) C (by omega) (Nat.le_refl _) (by omega) (fun k hk => by rw [sd_ct0 (Nat.le_refl _)]; exact hC k hk) H locs ls hG (lv_sub hl [3, 4, 5, 6, 7, 8, 9, 10, 11, 12, 2, 1, 0] rfl)
        obtain ⟨cn, hcn⟩ : ∃ cn : Nat → Nat, cn = fun k => sd_ct f (sd_dp v k) fs (fs + ln) := ⟨_, rfl⟩
        have hct : ∀ k, k < 256 → sd_ct f (sd_dp v k) fs (fs + ln) = cn k := fun k _ => by rw [hcn]
        have hC : ∀ k, k < 256 → C k = nI (cn k) := fun k hk => by rw [← hct k hk]; exact hC k hk
        have hcb : ∀ k, k < 256 → cn k < 2 ^ 30 := fun k hk => by
          have e9 := sd_ctLe (f := f) (P := sd_dp v k) (lo := fs) (hi := fs + ln)
          rw [hct k hk] at e9
          omega
        have hE : sd_st cn fs 256 = fs + ln := by
          have e9 := sd_ctSum (f := f) (v := v) (show fs ≤ fs + ln by omega)
          rw [← hcn] at e9
          show fs + sd_sm cn 256 = fs + ln
          omega
        refine lv_iconst (v := (-1)) S.1 S.2.1 dX2_radixSort_166 (by decide +kernel) ?_
        refine lv_istore (lv' := [(14, .int (-1)), (0, .ref h), (3, .int (nI sp')), (4, .ref h4), (5, .ref h5), (6, .ref h6), (7, .ref h7), (8, .ref h8), (9, .int (nI fs)), (10, .int (nI ln)), (11, .int (nI v)), (12, .int (nI (sd_sg v))), (13, .int (nI ((3 - v) * 8)))]) S.1 S.2.1 dX2_radixSort_167 hl (by decide) rfl (fun ls hl => ?_)
        refine lv_iconst (v := nI 0) S.1 S.2.1 dX2_radixSort_169 (by decide +kernel) ?_
        refine lv_istore (lv' := [(15, .int (nI 0)), (14, .int (-1)), (0, .ref h), (3, .int (nI sp')), (4, .ref h4), (5, .ref h5), (6, .ref h6), (7, .ref h7), (8, .ref h8), (9, .int (nI fs)), (10, .int (nI ln)), (11, .int (nI v)), (12, .int (nI (sd_sg v))), (13, .int (nI ((3 - v) * 8)))]) S.1 S.2.1 dX2_radixSort_170 hl (by decide) rfl (fun ls hl => ?_)
        refine lv_iload S.1 S.2.1 dX2_radixSort_172 (lv_at hl 9 rfl) ?_
        refine lv_istore (lv' := [(16, .int (nI fs)), (15, .int (nI 0)), (14, .int (-1)), (0, .ref h), (3, .int (nI sp')), (4, .ref h4), (5, .ref h5), (6, .ref h6), (7, .ref h7), (8, .ref h8), (9, .int (nI fs)), (10, .int (nI ln)), (11, .int (nI v)), (12, .int (nI (sd_sg v))), (13, .int (nI ((3 - v) * 8)))]) S.1 S.2.1 dX2_radixSort_174 hl (by decide) rfl (fun ls hl => ?_)
        refine sd_rx_pre hn S cn v fs sp' ln hC hcb (fun P lu H locs ls hP hlu hG hl => ?_) 257 0 P (-1) (by omega) (by omega) (fun k hk => absurd hk (Nat.not_lt_zero _)) (Or.inl (fun k hk => absurd hk (Nat.not_lt_zero _))) H locs ls hG (lv_sub hl [3, 4, 5, 6, 7, 8, 9, 10, 11, 12, 13, 14, 2, 1, 0] rfl)
        obtain ⟨u, hu, rfl, hu0, huz, hE2⟩ := hlu.en hE (by omega)
        refine lv_iload S.1 S.2.1 dX2_radixSort_218 (lv_at hl 7 rfl) ?_
        refine lv_iload S.1 S.2.1 dX2_radixSort_220 (lv_at hl 8 rfl) ?_
        refine sd_iadd S.1 S.2.1 dX2_radixSort_222 ?_
        refine lv_aload S.1 S.2.1 dX2_radixSort_223 (lv_at hl 5 rfl) ?_
        refine lv_iload S.1 S.2.1 dX2_radixSort_225 (lv_at hl 12 rfl) ?_
        refine sd_iald S.1 S.2.1 hG 4 0 rfl rfl (by omega) (by omega) dX2_radixSort_227 ?_
        refine sd_top (hC u hu) ?_
        refine sd_isub S.1 S.2.1 (by omega) dX2_radixSort_228 ?_
        refine sd_top (show nI (fs + ln - cn u) = nI (sd_st cn fs u) from congrArg nI (by omega)) ?_
        refine lv_istore (lv' := [(15, .int (nI (sd_st cn fs u))), (0, .ref h), (3, .int (nI sp')), (4, .ref h4), (5, .ref h5), (6, .ref h6), (7, .ref h7), (8, .ref h8), (9, .int (nI fs)), (10, .int (nI ln)), (11, .int (nI v)), (12, .int (nI (sd_sg v))), (13, .int (nI ((3 - v) * 8))), (14, .int (nI u))]) S.1 S.2.1 dX2_radixSort_229 hl (by decide) rfl (fun ls hl => ?_)
        refine lv_iload S.1 S.2.1 dX2_radixSort_231 (lv_at hl 8 rfl) ?_
        refine lv_istore (lv' := [(16, .int (nI fs)), (15, .int (nI (sd_st cn fs u))), (0, .ref h), (3, .int (nI sp')), (4, .ref h4), (5, .ref h5), (6, .ref h6), (7, .ref h7), (8, .ref h8), (9, .int (nI fs)), (10, .int (nI ln)), (11, .int (nI v)), (12, .int (nI (sd_sg v))), (13, .int (nI ((3 - v) * 8))), (14, .int (nI u))]) S.1 S.2.1 dX2_radixSort_233 hl (by decide) rfl (fun ls hl => ?_)
        refine lv_iconst (v := (-1)) S.1 S.2.1 dX2_radixSort_235 (by decide +kernel) ?_
        refine lv_istore (lv' := [(17, .int (-1)), (16, .int (nI fs)), (15, .int (nI (sd_st cn fs u))), (0, .ref h), (3, .int (nI sp')), (4, .ref h4), (5, .ref h5), (6, .ref h6), (7, .ref h7), (8, .ref h8), (9, .int (nI fs)), (10, .int (nI ln)), (11, .int (nI v)), (12, .int (nI (sd_sg v))), (13, .int (nI ((3 - v) * 8))), (14, .int (nI u))]) S.1 S.2.1 dX2_radixSort_236 hl (by decide) rfl (fun ls hl => ?_)
        refine sd_rx_main hn S cn lo hi v (fs + ln) fs ln u (sd_ms lz w sp' + ln * (3 - v)) hv hn2 hh hR hCC hA hE hE2 hu hu0 huz (fun f Of Lf Vf C P o lz w sp H locs ls hRI hSk hC hM hG hl => ?_) (ln + 1) fs sp' f Of Lf Vf C P _ o lz w (by omega) (Nat.le_refl _) hRI hSk (sd_Cn.st hC) (fun _ => sd_Af.st hE hct) (fun _ r hr _ => hP r hr) (by rw [show fs + ln - fs = ln by omega]; exact Nat.le_refl _) H locs ls hG (lv_sub hl [3, 4, 5, 6, 7, 8, 9, 10, 11, 12, 13, 14, 2, 1] rfl)
        refine lv_goto (tgt := 73) S.1 S.2.1 dX2_radixSort_417 (by decide) ?_
        exact ih sp f Of Lf Vf C P o lz w (by omega) hRI.up hSk hC H locs ls hG hl
      refine lv_iload S.1 S.2.1 dX2_radixSort_98 (lv_at hl 0 rfl) ?_
      refine lv_iconst (v := nI 4) S.1 S.2.1 dX2_radixSort_100 (by decide +kernel) ?_
      refine sd_irem S.1 S.2.1 (by omega) (by omega) (by omega) dX2_radixSort_101 ?_
      refine sd_zne (tgt := 111) S.1 S.2.1 dX2_radixSort_102 (by decide) (sd_nT (by omega)) (fun c2 => ?_) (fun c2 => ?_)
      · refine lv_iconst (v := nI 0) S.1 S.2.1 dX2_radixSort_111 (by decide +kernel) ?_
        refine sd_top (show nI 0 = nI (sd_sg v) from congrArg nI (if_neg (by omega)).symm) ?_
        exact tail ls (lv_sub hl [4, 3, 5, 6, 7, 8, 9, 2, 1, 0] rfl)
      · refine lv_sipush (v := nI 128) S.1 S.2.1 dX2_radixSort_105 (by decide +kernel) ?_
        refine lv_goto (tgt := 112) S.1 S.2.1 dX2_radixSort_108 (by decide) ?_
        refine sd_top (show nI 128 = nI (sd_sg v) from congrArg nI (if_pos (by omega)).symm) ?_
        exact tail ls (lv_sub hl [4, 3, 5, 6, 7, 8, 9, 2, 1, 0] rfl)
set_option maxHeartbeats 4000000 in
set_option maxRecDepth 100000 in
/-- IntArrays.radixSort(a, lo, hi) -/
theorem sd_radixSort (l : Launch) (D : va_G) (h : Nat) (d : ClassId) (n : Nat) (f : Nat → Int32) (lo hi : Nat) (h1 : lo ≤ hi) (hh : hi ≤ n) (hn2 : n ≤ 2048) : sd_Mw l yX2_radixSort cX2_radixSort 21 1012 32367 5 2810 D h d n f [.ref h, .int (nI lo), .int (nI hi)] (fun f' => sd_Srt f' lo hi ∧ sd_Prm f' f lo hi) := by
  have hn : n < 2 ^ 30 := by omega
  refine sd_Mw.of (by decide) (Nat.le_of_ble_eq_true rfl) ?_
  intro p e s m below meth c A ls Q S hA hG hl ret
  have hl : lv_has ls 21 [(0, .ref h), (1, .int (nI lo)), (2, .int (nI hi))] := hl
  refine lv_iload_n S.1 S.2.1 dX2_radixSort_0 rfl (lv_at hl 2 rfl) ?_
  refine lv_iload_n S.1 S.2.1 dX2_radixSort_1 rfl (lv_at hl 1 rfl) ?_
  refine sd_isub S.1 S.2.1 (by omega) dX2_radixSort_2 ?_
  refine lv_sipush (v := nI 1024) S.1 S.2.1 dX2_radixSort_3 (by decide +kernel) ?_
  refine sd_ge (tgt := 16) S.1 S.2.1 dX2_radixSort_6 (by decide) (sd_nT (by omega)) (sd_nT (by omega)) (fun c1 => ?_) (fun c1 => ?_)
  · refine lv_iconst (v := nI 0) S.1 S.2.1 dX2_radixSort_16 (by decide +kernel) ?_
    refine lv_istore_n (lv' := [(3, .int (nI 0)), (0, .ref h), (1, .int (nI lo)), (2, .int (nI hi))]) S.1 S.2.1 dX2_radixSort_17 rfl hl (by decide) rfl (fun ls hl => ?_)
    refine lv_sipush (v := nI 766) S.1 S.2.1 dX2_radixSort_18 (by decide +kernel) ?_
    refine sd_newa S hG hA 0 rfl (by omega) ⟨Nat.le_of_ble_eq_true rfl, Nat.le_of_ble_eq_true rfl⟩ dX2_radixSort_21 (fun h4 H hG => ?_)
    have hG : sd_G D A s.heap s [(d, .int)] [sd_ar h d n f, sd_ar h4 d 766 (fun _ => 0)] H [] := hG
    refine lv_astore (lv' := [(4, .ref h4), (3, .int (nI 0)), (0, .ref h), (1, .int (nI lo)), (2, .int (nI hi))]) S.1 S.2.1 dX2_radixSort_23 hl (by decide) rfl (fun ls hl => ?_)
    refine lv_sipush (v := nI 766) S.1 S.2.1 dX2_radixSort_25 (by decide +kernel) ?_
    refine sd_newa S hG hA 0 rfl (by omega) ⟨Nat.le_of_ble_eq_true rfl, Nat.le_of_ble_eq_true rfl⟩ dX2_radixSort_28 (fun h5 H hG => ?_)
    have hG : sd_G D A s.heap s [(d, .int)] [sd_ar h d n f, sd_ar h4 d 766 (fun _ => 0), sd_ar h5 d 766 (fun _ => 0)] H [] := hG
    refine lv_astore (lv' := [(5, .ref h5), (4, .ref h4), (3, .int (nI 0)), (0, .ref h), (1, .int (nI lo)), (2, .int (nI hi))]) S.1 S.2.1 dX2_radixSort_30 hl (by decide) rfl (fun ls hl => ?_)
    refine lv_sipush (v := nI 766) S.1 S.2.1 dX2_radixSort_32 (by decide +kernel) ?_
    refine sd_newa S hG hA 0 rfl (by omega) ⟨Nat.le_of_ble_eq_true rfl, Nat.le_of_ble_eq_true rfl⟩ dX2_radixSort_35 (fun h6 H hG => ?_)
    have hG : sd_G D A s.heap s [(d, .int)] [sd_ar h d n f, sd_ar h4 d 766 (fun _ => 0), sd_ar h5 d 766 (fun _ => 0), sd_ar h6 d 766 (fun _ => 0)] H [] := hG
    refine lv_astore (lv' := [(6, .ref h6), (5, .ref h5), (4, .ref h4), (3, .int (nI 0)), (0, .ref h), (1, .int (nI lo)), (2, .int (nI hi))]) S.1 S.2.1 dX2_radixSort_37 hl (by decide) rfl (fun ls hl => ?_)
    refine lv_aload S.1 S.2.1 dX2_radixSort_39 (lv_at hl 2 rfl) ?_
    refine lv_iload_n S.1 S.2.1 dX2_radixSort_41 rfl (lv_at hl 3 rfl) ?_
    refine lv_iload_n S.1 S.2.1 dX2_radixSort_42 rfl (lv_at hl 5 rfl) ?_
    refine sd_iast S.1 S.2.1 hG 1 0 rfl rfl (by omega) (by omega) dX2_radixSort_43 (fun H locs hG => ?_)
    have hG : sd_G D A s.heap s [(d, .int)] [sd_ar h d n f, sd_ar h4 d 766 (upd (fun _ => 0) 0 (nI lo)), sd_ar h5 d 766 (fun _ => 0), sd_ar h6 d 766 (fun _ => 0)] H locs := hG
    refine lv_aload S.1 S.2.1 dX2_radixSort_44 (lv_at hl 1 rfl) ?_
    refine lv_iload_n S.1 S.2.1 dX2_radixSort_46 rfl (lv_at hl 3 rfl) ?_
    refine lv_iload_n S.1 S.2.1 dX2_radixSort_47 rfl (lv_at hl 6 rfl) ?_
    refine lv_iload_n S.1 S.2.1 dX2_radixSort_48 rfl (lv_at hl 5 rfl) ?_
    refine sd_isub S.1 S.2.1 (by omega) dX2_radixSort_49 ?_
    refine sd_iast S.1 S.2.1 hG 2 0 rfl rfl (by omega) (by omega) dX2_radixSort_50 (fun H locs hG => ?_)
    have hG : sd_G D A s.heap s [(d, .int)] [sd_ar h d n f, sd_ar h4 d 766 (upd (fun _ => 0) 0 (nI lo)), sd_ar h5 d 766 (upd (fun _ => 0) 0 (nI (hi - lo))), sd_ar h6 d 766 (fun _ => 0)] H locs := hG
    refine lv_aload S.1 S.2.1 dX2_radixSort_51 (lv_at hl 0 rfl) ?_
    refine lv_iload_n S.1 S.2.1 dX2_radixSort_53 rfl (lv_at hl 3 rfl) ?_
    refine lv_iinc (v := nI (0 + 1)) (lv' := [(3, .int (nI (0 + 1))), (6, .ref h6), (5, .ref h5), (4, .ref h4), (0, .ref h), (1, .int (nI lo)), (2, .int (nI hi))]) S.1 S.2.1 dX2_radixSort_54 hl (k := 3) rfl (sd_i1 _) (by decide) rfl (fun ls hl => ?_)
    refine lv_iconst (v := nI 0) S.1 S.2.1 dX2_radixSort_57 (by decide +kernel) ?_
    refine sd_iast S.1 S.2.1 hG 3 0 rfl rfl (by omega) (by omega) dX2_radixSort_58 (fun H locs hG => ?_)
    have hG : sd_G D A s.heap s [(d, .int)] [sd_ar h d n f, sd_ar h4 d 766 (upd (fun _ => 0) 0 (nI lo)), sd_ar h5 d 766 (upd (fun _ => 0) 0 (nI (hi - lo))), sd_ar h6 d 766 (upd (fun _ => 0) 0 (nI 0))] H locs := hG
    refine lv_sipush (v := nI 256) S.1 S.2.1 dX2_radixSort_59 (by decide +kernel) ?_
    refine sd_newa S hG hA 0 rfl (by omega) ⟨Nat.le_of_ble_eq_true rfl, Nat.le_of_ble_eq_true rfl⟩ dX2_radixSort_62 (fun h7 H hG => ?_)
    have hG : sd_G D A s.heap s [(d, .int)] [sd_ar h d n f, sd_ar h4 d 766 (upd (fun _ => 0) 0 (nI lo)), sd_ar h5 d 766 (upd (fun _ => 0) 0 (nI (hi - lo))), sd_ar h6 d 766 (upd (fun _ => 0) 0 (nI 0)), sd_ar h7 d 256 (fun _ => 0)] H locs := hG
    refine lv_astore (lv' := [(7, .ref h7), (3, .int (nI (0 + 1))), (6, .ref h6), (5, .ref h5), (4, .ref h4), (0, .ref h), (1, .int (nI lo)), (2, .int (nI hi))]) S.1 S.2.1 dX2_radixSort_64 hl (by decide) rfl (fun ls hl => ?_)
    refine lv_sipush (v := nI 256) S.1 S.2.1 dX2_radixSort_66 (by decide +kernel) ?_
    refine sd_newa S hG hA 0 rfl (by omega) ⟨Nat.le_of_ble_eq_true rfl, Nat.le_of_ble_eq_true rfl⟩ dX2_radixSort_69 (fun h8 H hG => ?_)
    have hG : sd_G D A s.heap s [(d, .int)] [sd_ar h d n f, sd_ar h4 d 766 (upd (fun _ => 0) 0 (nI lo)), sd_ar h5 d 766 (upd (fun _ => 0) 0 (nI (hi - lo))), sd_ar h6 d 766 (upd (fun _ => 0) 0 (nI 0)), sd_ar h7 d 256 (fun _ => 0), sd_ar h8 d 256 (fun _ => 0)] H locs := hG
    refine lv_astore (lv' := [(8, .ref h8), (7, .ref h7), (3, .int (nI (0 + 1))), (6, .ref h6), (5, .ref h5), (4, .ref h4), (0, .ref h), (1, .int (nI lo)), (2, .int (nI hi))]) S.1 S.2.1 dX2_radixSort_71 hl (by decide) rfl (fun ls hl => ?_)
    refine sd_rx_outer hn S lo hi hn2 hh ⟨Nat.le_of_ble_eq_true rfl, Nat.le_of_ble_eq_true rfl⟩ ⟨Nat.le_of_ble_eq_true rfl, Nat.le_of_ble_eq_true rfl⟩ hA (fun f' Of Lf Vf C P H locs ls hp hG => ?_) (sd_ms (fun _ => hi - lo) (fun _ => 0) 1 + 1) 1 f _ _ _ _ _ (fun _ => lo) (fun _ => hi - lo) (fun _ => 0) (Nat.lt_succ_self _) (sd_RI.st (by omega)) (fun k hk => ?_) (fun _ _ => rfl) H locs ls hG (lv_sub hl [6, 2, 5, 4, 3, 1, 0] rfl)
    · exact ret _ _ _ _ _ dX2_radixSort_420 ⟨hG.1.sub [0] rfl, hG.2.1.sub [0] rfl, hG.2.2.1.sub [0] (by decide) rfl, hG.2.2.2⟩ hp
    · have hk : k = 0 := by omega
      subst hk
      exact ⟨pk_us, pk_us, pk_us⟩
  · refine lv_aload_n S.1 S.2.1 dX2_radixSort_9 rfl (lv_at hl 0 rfl) ?_
    refine lv_iload_n S.1 S.2.1 dX2_radixSort_10 rfl (lv_at hl 1 rfl) ?_
    refine lv_iload_n S.1 S.2.1 dX2_radixSort_11 rfl (lv_at hl 2 rfl) ?_
    refine sd_callv (nn := 3) (rest := []) S (sd_quickSort l D h d n hn 1009 f lo hi h1 hh (by omega)) (lw_S q81 q61 q6 q62) (by decide +kernel) rfl ⟨Nat.le_of_ble_eq_true rfl, Nat.le_of_ble_eq_true rfl⟩ ⟨Nat.le_of_ble_eq_true rfl, Nat.le_of_ble_eq_true rfl⟩ hG hA 0 0 rfl rfl hl.1 rfl (Nat.le_of_ble_eq_true rfl) dX2_radixSort_12 (fun f' H locs ef' hG => ?_)
    have hG : sd_G D A s.heap s [(d, .int)] [sd_ar h d n f'] H locs := hG
    refine W.widen (k := 5) (n := 2810) (Nat.le_of_ble_eq_true rfl) (Nat.le_of_ble_eq_true rfl) ?_
    exact ret _ _ _ _ _ dX2_radixSort_15 hG ef'
set_option maxHeartbeats 4000000 in
set_option maxRecDepth 100000 in
/-- IntArrays.unstableSort(a, lo, hi) -/
theorem sd_unstableSort (l : Launch) (D : va_G) (h : Nat) (d : ClassId) (n : Nat) (f : Nat → Int32) (lo hi : Nat) (h1 : lo ≤ hi) (hh : hi ≤ n) (hn2 : n ≤ 2048) : sd_Mw l yX2_unstableSort cX2_unstableSort 3 2036 65135 5 2810 D h d n f [.ref h, .int (nI lo), .int (nI hi)] (fun f' => sd_Srt f' lo hi ∧ sd_Prm f' f lo hi) := by
  refine sd_Mw.of (by decide) (Nat.le_of_ble_eq_true rfl) ?_
  intro p e s m below meth c A ls Q S hA hG hl ret
  have hl : lv_has ls 3 [(0, .ref h), (1, .int (nI lo)), (2, .int (nI hi))] := hl
  refine lv_iload_n S.1 S.2.1 dX2_unstableSort_0 rfl (lv_at hl 2 rfl) ?_
  refine lv_iload_n S.1 S.2.1 dX2_unstableSort_1 rfl (lv_at hl 1 rfl) ?_
  refine sd_isub S.1 S.2.1 (by omega) dX2_unstableSort_2 ?_
  refine lv_sipush (v := nI 2000) S.1 S.2.1 dX2_unstableSort_3 (by decide +kernel) ?_
  refine sd_lt (tgt := 18) S.1 S.2.1 dX2_unstableSort_6 (by decide) (sd_nT (by omega)) (sd_nT (by omega)) (fun c1 => ?_) (fun c1 => ?_)
  · refine lv_aload_n S.1 S.2.1 dX2_unstableSort_18 rfl (lv_at hl 0 rfl) ?_
    refine lv_iload_n S.1 S.2.1 dX2_unstableSort_19 rfl (lv_at hl 1 rfl) ?_
    refine lv_iload_n S.1 S.2.1 dX2_unstableSort_20 rfl (lv_at hl 2 rfl) ?_
    refine sd_callv (nn := 3) (rest := []) S (sd_quickSort l D h d n (by omega) 2033 f lo hi h1 hh (by omega)) (lw_S q81 q61 q6 q62) (by decide +kernel) rfl ⟨Nat.le_of_ble_eq_true rfl, Nat.le_of_ble_eq_true rfl⟩ ⟨Nat.le_of_ble_eq_true rfl, Nat.le_of_ble_eq_true rfl⟩ hG hA 0 0 rfl rfl hl.1 rfl (Nat.le_of_ble_eq_true rfl) dX2_unstableSort_21 (fun f' H locs ef' hG => ?_)
    have hG : sd_G D A s.heap s [(d, .int)] [sd_ar h d n f'] H locs := hG
    refine W.widen (k := 5) (n := 2810) (Nat.le_of_ble_eq_true rfl) (Nat.le_of_ble_eq_true rfl) ?_
    exact ret _ _ _ _ _ dX2_unstableSort_24 hG ef'
  · refine lv_aload_n S.1 S.2.1 dX2_unstableSort_9 rfl (lv_at hl 0 rfl) ?_
    refine lv_iload_n S.1 S.2.1 dX2_unstableSort_10 rfl (lv_at hl 1 rfl) ?_
    refine lv_iload_n S.1 S.2.1 dX2_unstableSort_11 rfl (lv_at hl 2 rfl) ?_
    refine sd_callw (nn := 3) (rest := []) S (sd_radixSort l D h d n f lo hi h1 hh hn2) (lw_S q125 q116 q6 q117) (by decide +kernel) rfl ⟨Nat.le_of_ble_eq_true rfl, Nat.le_of_ble_eq_true rfl⟩ ⟨Nat.le_of_ble_eq_true rfl, Nat.le_of_ble_eq_true rfl⟩ hG hA 0 0 rfl rfl hl.1 rfl (Nat.le_of_ble_eq_true rfl) dX2_unstableSort_12 (fun f' H locs ef' hG => ?_)
    have hG : sd_G D A s.heap s [(d, .int)] [sd_ar h d n f'] H locs := hG
    refine lv_goto (tgt := 24) S.1 S.2.1 dX2_unstableSort_15 (by decide) ?_
    exact ret _ _ _ _ _ dX2_unstableSort_24 hG ef'
end
section
/-! contracts over a world of cells: an object with its arrays (w0 at the start, wf u at the end) -/
def sd_Wp (D : va_G) (d : ClassId) (w0 : va_W) (sz : Nat) (U : State) : Prop := sd_cst U ∧ U.heap.size = sz ∧ va_P D sdCl w0 U.heap ∧ va_K D sdCl [(d, .int)] U ∧ va_D (fun _ => True) w0
def sd_We {T : Type} (D : va_G) (d : ClassId) (A : Nat → Prop) (wf : T → va_W) (u : T) (t : State) : Prop := va_P D sdCl (wf u) t.heap ∧ va_K D sdCl [(d, .int)] t ∧ va_D A (wf u)
/-- the contract of a void method -/
def sd_Xv (l : Launch) (y : MethodName) (b : ByteArray) (L fr lo mc ms : Nat) (D : va_G) (d : ClassId) {T : Type} (w0 : va_W) (wf : T → va_W) (as : List Value) (post : T → Prop) : Prop :=
  ∀ sz : Nat, Met l y (ws_ y b L none) { frames := fr, cells := mc, slots := ms, locals := lo } (va_Pc as (sd_Wp D d w0 sz)) (va_Qv post (sd_We D d (va_A w0 sz) wf) (va_A w0 sz)) mc ms (va_A w0 sz)
/-- the contract of a method that answers an int (or a boolean: rt) -/
def sd_Xi (l : Launch) (y : MethodName) (b : ByteArray) (L : Nat) (rt : FieldType) (fr lo mc ms : Nat) (D : va_G) (d : ClassId) {T : Type} (w0 : va_W) (wf : T → va_W) (as : List Value) (post : Int32 → T → Prop) : Prop :=
  ∀ sz : Nat, Met l y (ws_ y b L (some rt)) { frames := fr, cells := mc, slots := ms, locals := lo } (va_Pc as (sd_Wp D d w0 sz)) (va_Qi post (sd_We D d (va_A w0 sz) wf) (va_A w0 sz)) mc ms (va_A w0 sz)
section SdCalls5
variable {p : Program} {l : Launch} {e : Env} {R : Room} {s : State} {m : MethodId} {args : Array Value} {below : List Frame} {meth : Method} {c : Code} {H : Heap} {locs : List Loc} {cells slots : Nat} {Q : State → Prop}
variable {cc : ByteArray} {pc nL : Nat} {ls : Array Slot} {rest st : List Value} {A : Nat → Prop} {H0 : Heap} {D : va_G} {tys : List (ClassId × FieldType)} {ws w0 wr : va_W}
variable {own C : String} {index nn : Nat} {y : MethodName} {b : ByteArray} {L fr lo mc ms h n q : Nat} {d : ClassId} {f : Nat → Int32} {as : List Value} {rt : FieldType} {T : Type} {wf : T → va_W}
/-- cells of the world, in another order -/
theorem sd_Gsub {ws' : va_W} (hG : sd_G D A H0 s tys ws H locs) (is : List Nat) (hn : va_nd is = true) (h1 : is.map (fun i => ws[i]?) = ws'.map some) (h2 : is.filterMap (fun i => ws[i]?) = ws') : sd_G D A H0 s tys ws' H locs := ⟨hG.1, hG.2.1.sub is h2, hG.2.2.1.sub is hn h1, hG.2.2.2⟩
theorem sd_callXv {post : T → Prop} (S : CallFix p m c cc nL s args lw_all own) (hM : sd_Xv l y b L fr lo mc ms D d w0 wf (.ref q :: as) post) (hT : GoodIn lw_all (wsV own index C y (ws_ y b L none)))
    (hd : y.cls = C ∧ y.cls ≠ "java/lang/invoke/MethodHandle" ∧ y.cls ≠ "java/lang/invoke/VarHandle" ∧ (parseMethodDescriptor y.desc).map (fun d => d.parameters.length) = some nn) (hn : as.length = nn) (hR : fr + 1 ≤ R.frames ∧ 8 + (L + 11) + lo ≤ R.locals) (hf : cells + mc ≤ R.cells ∧ slots + ms ≤ R.slots)
    (hcs : sd_cst s) (hG : sd_G D A H0 s tys ws H locs) (hA : ∀ q, H0.size ≤ q → A q) (t0 : Nat) (ht : tys[t0]? = some (d, .int)) (isC isR : List Nat) (hC : isC.map (fun i => ws[i]?) = w0.map some) (hC' : isC.filterMap (fun i => ws[i]?) = w0) (hRr : isR.map (fun i => ws[i]?) = wr.map some) (hnC : va_nd isC = true) (hnR : va_nd isR = true) (hdis : ∀ i ∈ isR, i ∉ isC)
    (ci : Nat) {qc : vw_C} (hci : sdCl[ci]? = some qc) (hqC : qc.1 = C) {fs : List Value} (hrv : w0[0]? = some (q, .inr (ci, fs))) (hls : ls.size = nL) (hst : st = as.reverse ++ .ref q :: rest) (hW : (rest.map fun v => v.category).sum ≤ 8) (hdg : decode cc pc = .ok (.invokevirtual index, 3))
    (kk : ∀ (u : T) (H1 : Heap) (locs1 : List Loc), post u → sd_G D A H0 s tys (wr ++ wf u) H1 locs1 → W p l e R s m args below meth c H1 locs1 (cells + mc) (slots + ms) Q (F0 m (pc + 3) ls rest)) : W p l e R s m args below meth c H locs cells slots Q (F0 m pc ls st) := by
  obtain ⟨hK, hP, hD, hS⟩ := hG
  have hPc := hP.sub isC hC'
  have hDc : va_D (fun _ => True) w0 := (hD.sub isC hnC hC).weaken (fun _ _ _ _ => trivial)
  have hKc := sd_oneK hK ht
  have hFc := va_free hD hS hA isC hC
  have hrc := va_recv hKc hPc hci hrv
  rw [hqC] at hrc
  refine va_callv (va_runV (As := as) (rest := rest) S (hM H.size) (cwV nn S.2.2.2.2 hT rfl rfl rfl hd hR) ⟨fun a U g mk q => by obtain ⟨q0, qc, q1, qP, qK, qD⟩ := q; exact ⟨q0, va_Nw.same rfl rfl qc, q1, qP, va_K.moved (u := U) (U := U.calling g mk a) (Vm.Alike.refl U.vm) qK, qD⟩, hrc, fun U hU hW => ⟨rfl, va_Nw.warmC hW hcs, by rw [hU], by rw [hU]; exact hPc, va_K.moved hW.alike hKc, hDc⟩⟩ rfl hn hls hst (lv_room hW) hdg hf) hS (fun q _ h => hFc q h) hFc (fun u t H1 locs1 ht hvm hw hB hz1 hk1 hS1 => ?_)
  obtain ⟨hP1, hK1, hD1⟩ := hB
  rw [ht] at hP1
  obtain ⟨hP2, hD2⟩ := va_join hP hD isC isR hC hRr hnR hdis hk1 hFc hP1 hD1
  exact kk u H1 locs1 hw ⟨hK, hP2, hD2, hS1⟩
theorem sd_callXi {post : Int32 → T → Prop} (S : CallFix p m c cc nL s args lw_all own) (hM : sd_Xi l y b L rt fr lo mc ms D d w0 wf (.ref q :: as) post) (hT : GoodIn lw_all (wsV own index C y (ws_ y b L (some rt))))
    (hd : y.cls = C ∧ y.cls ≠ "java/lang/invoke/MethodHandle" ∧ y.cls ≠ "java/lang/invoke/VarHandle" ∧ (parseMethodDescriptor y.desc).map (fun d => d.parameters.length) = some nn) (hn : as.length = nn) (hR : fr + 1 ≤ R.frames ∧ 8 + (L + 11) + lo ≤ R.locals) (hf : cells + mc ≤ R.cells ∧ slots + ms ≤ R.slots)
    (hcs : sd_cst s) (hG : sd_G D A H0 s tys ws H locs) (hA : ∀ q, H0.size ≤ q → A q) (t0 : Nat) (ht : tys[t0]? = some (d, .int)) (isC isR : List Nat) (hC : isC.map (fun i => ws[i]?) = w0.map some) (hC' : isC.filterMap (fun i => ws[i]?) = w0) (hRr : isR.map (fun i => ws[i]?) = wr.map some) (hnC : va_nd isC = true) (hnR : va_nd isR = true) (hdis : ∀ i ∈ isR, i ∉ isC)
    (ci : Nat) {qc : vw_C} (hci : sdCl[ci]? = some qc) (hqC : qc.1 = C) {fs : List Value} (hrv : w0[0]? = some (q, .inr (ci, fs))) (hls : ls.size = nL) (hst : st = as.reverse ++ .ref q :: rest) (hW : (rest.map fun v => v.category).sum ≤ 8) (hdg : decode cc pc = .ok (.invokevirtual index, 3))
    (kk : ∀ (r : Int32) (u : T) (H1 : Heap) (locs1 : List Loc), post r u → sd_G D A H0 s tys (wr ++ wf u) H1 locs1 → W p l e R s m args below meth c H1 locs1 (cells + mc) (slots + ms) Q (F0 m (pc + 3) ls (.int r :: rest))) : W p l e R s m args below meth c H locs cells slots Q (F0 m pc ls st) := by
  obtain ⟨hK, hP, hD, hS⟩ := hG
  have hPc := hP.sub isC hC'
  have hDc : va_D (fun _ => True) w0 := (hD.sub isC hnC hC).weaken (fun _ _ _ _ => trivial)
  have hKc := sd_oneK hK ht
  have hFc := va_free hD hS hA isC hC
  have hrc := va_recv hKc hPc hci hrv
  rw [hqC] at hrc
  refine va_calli (va_runV (As := as) (rest := rest) S (hM H.size) (cwV nn S.2.2.2.2 hT rfl rfl rfl hd hR) ⟨fun a U g mk q => by obtain ⟨q0, qc, q1, qP, qK, qD⟩ := q; exact ⟨q0, va_Nw.same rfl rfl qc, q1, qP, va_K.moved (u := U) (U := U.calling g mk a) (Vm.Alike.refl U.vm) qK, qD⟩, hrc, fun U hU hW => ⟨rfl, va_Nw.warmC hW hcs, by rw [hU], by rw [hU]; exact hPc, va_K.moved hW.alike hKc, hDc⟩⟩ rfl hn hls hst (lv_room hW) hdg hf) hS (fun q _ h => hFc q h) hFc (fun r u t H1 locs1 ht hvm hw hB hz1 hk1 hS1 => ?_)
  obtain ⟨hP1, hK1, hD1⟩ := hB
  rw [ht] at hP1
  obtain ⟨hP2, hD2⟩ := va_join hP hD isC isR hC hRr hnR hdis hk1 hFc hP1 hD1
  exact kk r u H1 locs1 hw ⟨hK, hP2, hD2, hS1⟩
/-- a constructor -/
theorem sd_callXc {post : T → Prop} (S : CallFix p m c cc nL s args lw_all own) (hM : sd_Xv l y b L fr lo mc ms D d w0 wf (.ref q :: as) post) (hT : Cond.code y b L none ∈ lw_all) (h1 : Cond.initialized y.cls ∈ lw_all) (h2 : Cond.methodLink own index y ∈ lw_all) (h3 : Cond.instanceMethod y ∈ lw_all) (h4 : y.name = "<init>")
    (hd : y.cls ≠ "java/lang/invoke/MethodHandle" ∧ y.cls ≠ "java/lang/invoke/VarHandle" ∧ (parseMethodDescriptor y.desc).map (fun d => d.parameters.length) = some nn) (hn : as.length = nn) (hR : fr + 1 ≤ R.frames ∧ 8 + (L + 11) + lo ≤ R.locals) (hf : cells + mc ≤ R.cells ∧ slots + ms ≤ R.slots)
    (hcs : sd_cst s) (hG : sd_G D A H0 s tys ws H locs) (hA : ∀ q, H0.size ≤ q → A q) (t0 : Nat) (ht : tys[t0]? = some (d, .int)) (isC isR : List Nat) (hC : isC.map (fun i => ws[i]?) = w0.map some) (hC' : isC.filterMap (fun i => ws[i]?) = w0) (hRr : isR.map (fun i => ws[i]?) = wr.map some) (hnC : va_nd isC = true) (hnR : va_nd isR = true) (hdis : ∀ i ∈ isR, i ∉ isC)
    (hls : ls.size = nL) (hst : st = as.reverse ++ .ref q :: rest) (hW : (rest.map fun v => v.category).sum ≤ 8) (hdg : decode cc pc = .ok (.invokespecial index, 3))
    (kk : ∀ (u : T) (H1 : Heap) (locs1 : List Loc), post u → sd_G D A H0 s tys (wr ++ wf u) H1 locs1 → W p l e R s m args below meth c H1 locs1 (cells + mc) (slots + ms) Q (F0 m (pc + 3) ls rest)) : W p l e R s m args below meth c H locs cells slots Q (F0 m pc ls st) := by
  obtain ⟨hK, hP, hD, hS⟩ := hG
  have hPc := hP.sub isC hC'
  have hDc : va_D (fun _ => True) w0 := (hD.sub isC hnC hC).weaken (fun _ _ _ _ => trivial)
  have hKc := sd_oneK hK ht
  have hFc := va_free hD hS hA isC hC
  refine va_callv (va_runI (As := as) (rest := rest) S (hM H.size) (cwI nn S.2.2.2.2 (lw_meth hT) rfl rfl rfl (S.2.2.2.2 _ h1) (S.2.2.2.2 _ h2) (S.2.2.2.2 _ h3) h4 hd hR) ⟨fun a U g mk q => by obtain ⟨q0, qc, q1, qP, qK, qD⟩ := q; exact ⟨q0, va_Nw.same rfl rfl qc, q1, qP, va_K.moved (u := U) (U := U.calling g mk a) (Vm.Alike.refl U.vm) qK, qD⟩, fun U hU hW => ⟨rfl, va_Nw.warmC hW hcs, by rw [hU], by rw [hU]; exact hPc, va_K.moved hW.alike hKc, hDc⟩⟩ rfl hn hls hst (lv_room hW) hdg hf) hS (fun q _ h => hFc q h) hFc (fun u t H1 locs1 ht hvm hw hB hz1 hk1 hS1 => ?_)
  obtain ⟨hP1, hK1, hD1⟩ := hB
  rw [ht] at hP1
  obtain ⟨hP2, hD2⟩ := va_join hP hD isC isR hC hRr hnR hdis hk1 hFc hP1 hD1
  exact kk u H1 locs1 hw ⟨hK, hP2, hD2, hS1⟩
/-- IntArrays.reverse, that answers its array -/
theorem sd_callr {post : (Nat → Int32) → Prop} (S : CallFix p m c cc nL s args lw_all own) (hM : sd_Mr l y b L fr lo D h d n f as post) (hT : GoodIn lw_all (va_wsS own index y (ws_ y b L (some (.array .int)))))
    (hd : y.cls ≠ "java/lang/invoke/MethodHandle" ∧ y.cls ≠ "java/lang/invoke/VarHandle" ∧ (parseMethodDescriptor y.desc).map (fun d => d.parameters.length) = some nn) (hn : as.length = nn) (hR : fr + 1 ≤ R.frames ∧ 8 + (L + 11) + lo ≤ R.locals) (hf : cells ≤ R.cells ∧ slots ≤ R.slots)
    (hG : sd_G D A H0 s tys ws H locs) (hA : ∀ q, H0.size ≤ q → A q) (q0 t0 : Nat) (ha : ws[q0]? = some (sd_ar h d n f)) (ht : tys[t0]? = some (d, .int)) (hls : ls.size = nL) (hst : st = as.reverse ++ rest) (hW : (rest.map fun v => v.category).sum ≤ 8) (hdg : decode cc pc = .ok (.invokestatic index, 3))
    (kk : ∀ (f' : Nat → Int32) (H1 : Heap) (locs1 : List Loc), post f' → sd_G D A H0 s tys (ws.set q0 (sd_ar h d n f')) H1 locs1 → W p l e R s m args below meth c H1 locs1 cells slots Q (F0 m (pc + 3) ls (.ref h :: rest))) : W p l e R s m args below meth c H locs cells slots Q (F0 m pc ls st) := by
  obtain ⟨hK, hP, hD, hS⟩ := hG
  have hPc := sd_one hP ha
  have hDc : va_D (fun _ => True) [sd_ar h d n f] := sd_oneD trivial
  have hKc := sd_oneK hK ht
  have hFc := sd_oneA hD hS hA ha
  refine va_callr (va_runS (As := as) (rest := rest) S (hM H.size) (va_cwS nn S.2.2.2.2 hT rfl rfl rfl hd hR) ⟨fun a U g mk q => by obtain ⟨q0, q1, qP, qK, qD⟩ := q; exact ⟨q0, q1, qP, va_K.moved (u := U) (U := U.calling g mk a) (Vm.Alike.refl U.vm) qK, qD⟩, fun U hU hW => ⟨rfl, by rw [hU], by rw [hU]; exact hPc, va_K.moved hW.alike hKc, hDc⟩⟩ rfl hn hls hst (lv_room hW) hdg ⟨hf.1, hf.2⟩) hS (fun q _ h => hFc q h) hFc (fun u ra t H1 locs1 ht hvm hw hB hz1 hk1 hS1 => ?_)
  obtain ⟨rfl, hP1, hK1, hD1⟩ := hB
  rw [ht] at hP1
  exact kk u H1 locs1 hw ⟨hK, sd_setP hP hD ha hk1 (hP1 0 _ rfl), hD.set ha, hS1⟩
/-- the class of int arrays -/
theorem sd_arrd {a0 : Array Value} (h : (Cond.arrayClass .int).before a0 s = true) : ∃ d : ClassId, ArrOfT s d .int ∧ va_RA s d .int := by
  obtain ⟨cA, kA, comp, h1, h2, h3⟩ := Cond.arrayClass_spec h
  exact ⟨cA, fun n z => ⟨fun k h => (by cases h), kA, h2, comp, h3⟩, h1⟩
end SdCalls5
section SdEntry5
variable {l : Launch} {y : MethodName} {b : ByteArray} {L fr lo mc ms : Nat} {D : va_G} {d : ClassId} {as : List Value} {rt : FieldType} {T : Type} {w0 : va_W} {wf : T → va_W}
theorem sd_Xv.of {post : T → Prop} (hy : plainName y.cls = true) (hL : (lg_sl as).length ≤ L)
    (body : ∀ (p : Program) (e : Env) (s : State) (m : MethodId) (below : List Frame) (meth : Method) (c : Code) (A : Nat → Prop) (ls : Array Slot) (Q : State → Prop), sd_S p m c b L s as y → meth.name = y.name → sd_cst s → (∀ q : Nat, s.heap.size ≤ q → A q) → sd_G D A s.heap s [(d, .int)] w0 s.heap [] → lv_has ls L (lv_args 0 as) →
      (∀ (pc : Nat) (H : Heap) (locs : List Loc) (ls : Array Slot) (u : T), decode b pc = .ok (.return_, 1) → sd_G D A s.heap s [(d, .int)] (wf u) H locs → post u → W p l e { frames := fr, cells := mc, slots := ms, locals := lo } s m as.toArray below meth c H locs mc ms Q (F0 m pc ls [])) →
      W p l e { frames := fr, cells := mc, slots := ms, locals := lo } s m as.toArray below meth c s.heap [] 0 0 Q (F0 m 0 ls [])) : sd_Xv l y b L fr lo mc ms D d w0 wf as post := by
  intro sz
  refine Met.ofW (cc := b) (maxL := L) (ret := none) hy rfl ?_
  intro p e s m args below meth c s₁ B hml hv
  obtain ⟨rfl, hcs, hsz, hP, hK, hD0⟩ := hv
  have hts := atoms_spec (ws := ws_ y b L none) B.pre
  have hts : ∀ w ∈ lw_all, w.before _ s = true := fun w h => hts w (List.mem_cons_of_mem _ h)
  have hown : s.vm.findClass y.cls = some m.cls := findClass_of_methodNamed B.named
  have hlocks := B.notSynchronized
  have hin : meth.name = y.name := (name_of_methodNamed B.named B.method).1
  subst hsz
  have hD := hD0.self (sz := s.heap.size)
  have hl := lv_entry as (n := L) hL
  rw [lg_entry_eq]
  generalize (lg_sl as ++ List.replicate (L - (lg_sl as).length) Slot.unset).toArray = ls at hl ⊢
  refine body p e s m below meth c (va_A w0 s.heap.size) ls _ ⟨B.exec, B.bytes, hml, hown, hts⟩ hin hcs (fun q hq => Or.inr hq) ⟨hK, hP, hD, va_S.rf⟩ hl ?_
  intro pc H locs ls' u hdg hG hp
  exact W.vret B.exec B.bytes B.returns (fun t ht hW => ⟨⟨u, rfl, hp, by rw [ht]; exact hG.2.1, va_K.moved hW.alike hG.1, hG.2.2.1⟩, hG.2.2.2.F ht⟩) hG.2.2.2.2.2 hdg
theorem sd_Xi.of {post : Int32 → T → Prop} (hy : plainName y.cls = true) (hL : (lg_sl as).length ≤ L)
    (body : ∀ (p : Program) (e : Env) (s : State) (m : MethodId) (below : List Frame) (meth : Method) (c : Code) (A : Nat → Prop) (ls : Array Slot) (Q : State → Prop), sd_S p m c b L s as y → sd_cst s → (∀ q : Nat, s.heap.size ≤ q → A q) → sd_G D A s.heap s [(d, .int)] w0 s.heap [] → lv_has ls L (lv_args 0 as) →
      (∀ (pc : Nat) (H : Heap) (locs : List Loc) (ls : Array Slot) (r : Int32) (u : T), decode b pc = .ok (.ireturn, 1) → narrow rt (.int r) = .int r → sd_G D A s.heap s [(d, .int)] (wf u) H locs → post r u → W p l e { frames := fr, cells := mc, slots := ms, locals := lo } s m as.toArray below meth c H locs mc ms Q (F0 m pc ls [.int r])) →
      W p l e { frames := fr, cells := mc, slots := ms, locals := lo } s m as.toArray below meth c s.heap [] 0 0 Q (F0 m 0 ls [])) : sd_Xi l y b L rt fr lo mc ms D d w0 wf as post := by
  intro sz
  refine Met.ofW (cc := b) (maxL := L) (ret := some rt) hy rfl ?_
  intro p e s m args below meth c s₁ B hml hv
  obtain ⟨rfl, hcs, hsz, hP, hK, hD0⟩ := hv
  have hts := atoms_spec (ws := ws_ y b L (some rt)) B.pre
  have hts : ∀ w ∈ lw_all, w.before _ s = true := fun w h => hts w (List.mem_cons_of_mem _ h)
  have hown : s.vm.findClass y.cls = some m.cls := findClass_of_methodNamed B.named
  have hlocks := B.notSynchronized
  subst hsz
  have hD := hD0.self (sz := s.heap.size)
  have hl := lv_entry as (n := L) hL
  rw [lg_entry_eq]
  generalize (lg_sl as ++ List.replicate (L - (lg_sl as).length) Slot.unset).toArray = ls at hl ⊢
  refine body p e s m below meth c (va_A w0 s.heap.size) ls _ ⟨B.exec, B.bytes, hml, hown, hts⟩ hcs (fun q hq => Or.inr hq) ⟨hK, hP, hD, va_S.rf⟩ hl ?_
  intro pc H locs ls' r u hdg hnr hG hp
  exact W.zret (v := r) B.exec B.bytes B.returns hnr (fun t ht hW => ⟨⟨r, u, rfl, hp, by rw [ht]; exact hG.2.1, va_K.moved hW.alike hG.1, hG.2.2.1⟩, hG.2.2.2.F ht⟩) hG.2.2.2.2.2 hdg
end SdEntry5
end
section
/-! PURE: the desk's places; what put, fill, sorts, reverse and find leave and answer; two desks that agree on [0,k) -/
section SdDesk
variable {f g f' g' : Nat → Int32} {k k' n a b i j : Nat} {x y key r r' : Int32}
def sd_fr (k : Nat) (x : Int32) : Nat := sd_u x % (k + 1)
def sd_to (k a : Nat) (x : Int32) : Nat := a + sd_u x % (k - a + 1)
theorem sd_frLe : sd_fr k x ≤ k := Nat.le_of_lt_succ (Nat.mod_lt _ (Nat.succ_pos k))
theorem sd_toLe (h : a ≤ k) : a ≤ sd_to k a x ∧ sd_to k a x ≤ k := by
  have e := Nat.mod_lt (sd_u x) (show 0 < k - a + 1 by omega)
  unfold sd_to
  omega
/-- four ints laid from k on -/
def sd_p4 (f : Nat → Int32) (k : Nat) (a b c e : Int32) : Nat → Int32 := upd (upd (upd (upd f k a) (k + 1) b) (k + 2) c) (k + 3) e
/-- n ints laid from k on: x, x + y, x + 2 y .. -/
def sd_fl (f : Nat → Int32) (k : Nat) (x y : Int32) : Nat → Nat → Int32
  | 0 => f
  | n + 1 => upd (sd_fl f k x y n) (k + n) (x + y * nI n)
theorem sd_flS (x y : Int32) (n : Nat) : x + y * nI n + y = x + y * nI (n + 1) := by
  rw [← nI_1 n]
  grind
theorem sd_fl0 (x y : Int32) : x = x + y * nI 0 := by
  rw [show nI 0 = 0 from rfl]
  grind
theorem sd_ng (j : Nat) : -nI j - nI 1 = -nI (j + 1) := by
  rw [← nI_add j 1]
  grind
/-- the same on [0,k) -/
def sd_Ag (f g : Nat → Int32) (k : Nat) : Prop := ∀ i, i < k → f i = g i
theorem sd_Ag.sy (h : sd_Ag f g k) : sd_Ag g f k := fun i q => (h i q).symm
theorem sd_Ag.mo (h : sd_Ag f g k) (hk : k' ≤ k) : sd_Ag f g k' := fun i q => h i (by omega)
theorem sd_Ag.up (h : sd_Ag f g k) : sd_Ag (upd f k x) (upd g k x) (k + 1) := fun i q => by
  by_cases e : i = k
  · rw [e, pk_us, pk_us]
  · rw [pk_un e, pk_un e]; exact h i (by omega)
theorem sd_Ag.p4 {c e : Int32} (h : sd_Ag f g k) : sd_Ag (sd_p4 f k x y c e) (sd_p4 g k x y c e) (k + 4) := h.up.up.up.up
theorem sd_Ag.fl (h : sd_Ag f g k) : ∀ n, sd_Ag (sd_fl f k x y n) (sd_fl g k x y n) (k + n)
  | 0 => h
  | n + 1 => (sd_Ag.fl h n).up
theorem sd_Ag.srt (h : sd_Ag f g k) (hb : b ≤ k) (h1 : sd_Srt f' a b) (h2 : sd_Prm f' f a b) (h3 : sd_Srt g' a b) (h4 : sd_Prm g' g a b) : sd_Ag f' g' k := fun i q => by
  by_cases e : a ≤ i ∧ i < b
  · exact sd_uq h1 h3 (fun P => (h2.2 P).trans ((sd_ctC (fun j _ z => h j (by omega))).trans (h4.2 P).symm)) i e.1 e.2
  · rw [h2.1 i (by omega), h4.1 i (by omega)]; exact h i q
theorem sd_Ag.rev (h : sd_Ag f g k) (hb : b ≤ k) (h1 : sd_Rev f' f a b) (h2 : sd_Rev g' g a b) : sd_Ag f' g' k := fun i q => by
  by_cases e : a ≤ i ∧ i < b
  · rw [h1.1 i e.1 e.2, h2.1 i e.1 e.2]; exact h _ (by omega)
  · rw [h1.2 i (by omega), h2.2 i (by omega)]; exact h i q
/-- each int of a .. b-1 below the next -/
def sd_As (f : Nat → Int32) (a b : Nat) : Prop := ∀ i, a ≤ i → i + 1 < b → (f i).toInt < (f (i + 1)).toInt
theorem sd_As.lt (h : sd_As f a b) (h1 : a ≤ i) (h2 : i < j) (h3 : j < b) : (f i).toInt < (f j).toInt := by
  induction j with
  | zero => exact absurd h2 (Nat.not_lt_zero _)
  | succ j ih =>
    have e1 := h j (by omega) h3
    by_cases e : i = j
    · rw [e]; exact e1
    · have e2 := ih (by omega) (by omega)
      omega
theorem sd_As.srt (h : sd_As f a b) : sd_Srt f a b := fun i j h1 h2 h3 => by
  by_cases e : i = j
  · rw [e]; exact Int.le_refl _
  · have := h.lt h1 (show i < j by omega) h3
    omega
theorem sd_As.cg (h : sd_As f a b) (hg : sd_Ag f g k) (hb : b ≤ k) : sd_As g a b := fun i h1 h2 => by
  rw [← hg i (by omega), ← hg (i + 1) (by omega)]
  exact h i h1 h2
theorem sd_Bs.cg (h : sd_Bs f a b key r) (hg : sd_Ag f g k) (hb : b ≤ k) : sd_Bs g a b key r := by
  rcases h with ⟨j, h1, h2, h3, h4⟩ | ⟨j, h1, h2, h3, h4, h5⟩
  · exact Or.inl ⟨j, h1, h2, by rw [← hg j (by omega)]; exact h3, h4⟩
  · exact Or.inr ⟨j, h1, h2, fun i q1 q2 => by rw [← hg i (by omega)]; exact h3 i q1 q2, fun i q1 q2 => by rw [← hg i (by omega)]; exact h4 i q1 q2, h5⟩
theorem sd_Bs.uq (ha : sd_As f a b) (h : sd_Bs f a b key r) (h' : sd_Bs f a b key r') : r = r' := by
  rcases h with ⟨j, h1, h2, h3, h4⟩ | ⟨j, h1, h2, h3, h4, h5⟩ <;> rcases h' with ⟨i, g1, g2, g3, g4⟩ | ⟨i, g1, g2, g3, g4, g5⟩
  · have e : j = i := by
      rcases Nat.lt_trichotomy j i with q | q | q
      · have := ha.lt h1 q g2
        omega
      · exact q
      · have := ha.lt g1 q h2
        omega
    rw [h4, g4, e]
  · exfalso
    rcases Nat.lt_or_ge j i with q | q
    · have := g3 j h1 q
      omega
    · have := g4 j q h2
      omega
  · exfalso
    rcases Nat.lt_or_ge i j with q | q
    · have := h3 i g1 q
      omega
    · have := h4 i q g2
      omega
  · have e : j = i := by
      rcases Nat.lt_trichotomy j i with q | q | q
      · have := g3 j h1 q
        have := h4 j (Nat.le_refl j) (by omega)
        omega
      · exact q
      · have := h3 i g1 q
        have := g4 i (Nat.le_refl i) (by omega)
        omega
    rw [h5, g5, e]
/-- what find answers -/
def sd_Fd (f : Nat → Int32) (a b : Nat) (key r : Int32) : Prop := (¬ sd_As f a b ∧ r = -1000000) ∨ (sd_As f a b ∧ sd_Bs f a b key r)
theorem sd_Fd.uq (hg : sd_Ag f g k) (hb : b ≤ k) (h : sd_Fd f a b key r) (h' : sd_Fd g a b key r') : r = r' := by
  rcases h with ⟨h1, h2⟩ | ⟨h1, h2⟩ <;> rcases h' with ⟨g1, g2⟩ | ⟨g1, g2⟩
  · rw [h2, g2]
  · exact absurd (g1.cg hg.sy hb) h1
  · exact absurd (h1.cg hg hb) g1
  · exact h2.uq h1 (g2.cg hg.sy hb)
end SdDesk
section SdRn
variable {f g o f' : Nat → Int32} {a b w t T x e : Nat}
/-- the ranges of w ints from a on are sorted -/
def sd_Rn (f : Nat → Int32) (a b w : Nat) : Prop := ∀ t, sd_Srt f (a + t * w) (min (a + t * w + w) b)
theorem sd_Rn.one : sd_Rn f a b 1 := fun t => sd_Srt.nil (by omega)
theorem sd_Rn.en (h : sd_Rn f a b w) (hw : b ≤ a + w) : sd_Srt f a b := by
  have h0 := h 0
  rw [Nat.zero_mul] at h0
  exact h0.sub (by omega) (by omega)
/-- T pairs of ranges are laid together into o -/
def sd_Ps (f o : Nat → Int32) (a b w T : Nat) : Prop := (∀ t, t < T → sd_Srt o (a + t * (2 * w)) (min (a + t * (2 * w) + 2 * w) b)) ∧ ∀ P, sd_ct o P a (min (a + T * (2 * w)) b) = sd_ct f P a (min (a + T * (2 * w)) b)
theorem sd_Ps.st : sd_Ps f o a b w 0 := ⟨fun t h => absurd h (Nat.not_lt_zero _), fun P => by rw [Nat.zero_mul, sd_ct0 (show min (a + 0) b ≤ a by omega), sd_ct0 (show min (a + 0) b ≤ a by omega)]⟩
theorem sd_Ps.go (h : sd_Ps f o a b w T) (hx : x = a + T * (2 * w)) (hxb : x < b) (he : e = min (x + 2 * w) b) (h1 : sd_Srt g x e) (h2 : ∀ j, j < x ∨ e ≤ j → g j = o j) (h3 : ∀ P, sd_ct g P x e = sd_ct f P x e) : sd_Ps f g a b w (T + 1) := by
  obtain ⟨p1, p2⟩ := h
  have hs : (T + 1) * (2 * w) = T * (2 * w) + 2 * w := Nat.succ_mul _ _
  refine ⟨fun t ht => ?_, fun P => ?_⟩
  · by_cases c1 : t = T
    · rw [c1, ← hx, ← he]; exact h1
    · have m1 : (t + 1) * (2 * w) ≤ T * (2 * w) := Nat.mul_le_mul_right _ (by omega)
      have m2 : (t + 1) * (2 * w) = t * (2 * w) + 2 * w := Nat.succ_mul _ _
      exact (p1 t (by omega)).cg (fun i q1 q2 => h2 i (Or.inl (by omega)))
  · have q := p2 P
    rw [← hx, show min x b = x by omega] at q
    rw [hs, show min (a + (T * (2 * w) + 2 * w)) b = e by omega, sd_ctA (show a ≤ x by omega) (show x ≤ e by omega), sd_ctA (f := f) (show a ≤ x by omega) (show x ≤ e by omega), h3 P, ← q]
    rw [sd_ctC (f := g) (g := o) (fun i _ z => h2 i (Or.inl z))]
theorem sd_Ps.en (h : sd_Ps f o a b w T) (hx : b ≤ a + T * (2 * w)) : sd_Rn o a b (2 * w) ∧ ∀ P, sd_ct o P a b = sd_ct f P a b := by
  obtain ⟨p1, p2⟩ := h
  refine ⟨fun t => ?_, fun P => ?_⟩
  · by_cases c1 : t < T
    · exact p1 t c1
    · have m1 : T * (2 * w) ≤ t * (2 * w) := Nat.mul_le_mul_right _ (by omega)
      exact sd_Srt.nil (by omega)
  · have q := p2 P
    rw [show min (a + T * (2 * w)) b = b by omega] at q
    exact q
/-- the two ranges that are laid together next -/
theorem sd_Rn.two (h : sd_Rn f a b w) (hx : x = a + T * (2 * w)) : sd_Srt f x (min (x + w) b) ∧ sd_Srt f (x + w) (min (x + 2 * w) b) := by
  have e1 : (2 * T) * w = T * (2 * w) := by rw [Nat.mul_comm 2 T, Nat.mul_assoc]
  have e2 : (2 * T + 1) * w = T * (2 * w) + w := by rw [Nat.succ_mul, e1]
  have h1 := h (2 * T)
  have h2 := h (2 * T + 1)
  rw [e1, ← hx] at h1
  rw [e2, ← Nat.add_assoc, ← hx] at h2
  exact ⟨h1, h2.sub (Nat.le_refl _) (by omega)⟩
/-- laid back -/
theorem sd_Rn.bk (h : sd_Rn o a b w) (hc : ∀ P, sd_ct o P a b = sd_ct f P a b) (h1 : ∀ i, a ≤ i → i < b → f' i = o i) (h2 : ∀ i, i < a ∨ b ≤ i → f' i = f i) : sd_Rn f' a b w ∧ sd_Prm f' f a b :=
  ⟨fun t => (h t).cg (fun i q1 q2 => h1 i (by omega) (by omega)), h2, fun P => (sd_ctC h1).trans (hc P)⟩
end SdRn
end
section
/-- SortDesk's world: the desk at q with k ints in its row h -/
abbrev sd_w (q h : Nat) (d : ClassId) (k : Nat) (f : Nat → Int32) : va_W := [(q, .inr (0, [.ref h, .int (nI k)])), sd_ar h d 2048 f]
abbrev sd_wf (q h : Nat) (d : ClassId) (u : Nat × (Nat → Int32)) : va_W := sd_w q h d u.1 u.2
theorem sd_nwi (r : Int32) : narrow .int (.int r) = .int r := rfl
set_option maxHeartbeats 4000000 in
set_option maxRecDepth 100000 in
/-- size() -/
theorem sd_x_size (l : Launch) (D : va_G) (q h : Nat) (d : ClassId) (k : Nat) (f : Nat → Int32) (hk : k ≤ 2048) : sd_Xi l yX0_size cX0_size 1 .int 0 0 0 0 D d (sd_w q h d k f) (sd_wf q h d) [.ref q] (fun r u => r = nI k ∧ u = (k, f)) := by
  refine sd_Xi.of (by decide) (Nat.le_of_ble_eq_true rfl) ?_
  intro p e s m below meth c A ls Q S hcs hA hG hl ret
  have hl : lv_has ls 1 [(0, .ref q)] := hl
  refine lv_aload_n S.1 S.2.1 dX0_size_0 rfl (lv_at hl 0 rfl) ?_
  refine va_get (D := D) (ci := 0) (v := .int (nI k)) (C := RX0) (T := TX0) (N := 2) S.1 S.2.1 S.2.2.2.2 in_X0 S.2.2.2.1 hG.1 hG.2.1 0 rfl rfl 1 (by decide) (S.2.2.2.2 _ q20) (fun _ h9 => h9) rfl dX0_size_1 ?_
  exact ret _ _ _ _ _ (k, f) dX0_size_4 (sd_nwi _) hG ⟨rfl, rfl⟩
set_option maxHeartbeats 4000000 in
set_option maxRecDepth 100000 in
/-- at(i) -/
theorem sd_x_at (l : Launch) (D : va_G) (q h : Nat) (d : ClassId) (k : Nat) (f : Nat → Int32) (hk : k ≤ 2048) (i : Int32) : sd_Xi l yX0_at cX0_at 2 .int 0 0 0 0 D d (sd_w q h d k f) (sd_wf q h d) [.ref q, .int i] (fun r u => ((k = 0 ∧ r = nI 0) ∨ (0 < k ∧ r = f (sd_u i % k))) ∧ u = (k, f)) := by
  refine sd_Xi.of (by decide) (Nat.le_of_ble_eq_true rfl) ?_
  intro p e s m below meth c A ls Q S hcs hA hG hl ret
  have hl : lv_has ls 2 [(0, .ref q), (1, .int i)] := hl
  refine lv_aload_n S.1 S.2.1 dX0_at_0 rfl (lv_at hl 0 rfl) ?_
  refine va_get (D := D) (ci := 0) (v := .int (nI k)) (C := RX0) (T := TX0) (N := 2) S.1 S.2.1 S.2.2.2.2 in_X0 S.2.2.2.1 hG.1 hG.2.1 0 rfl rfl 1 (by decide) (S.2.2.2.2 _ q20) (fun _ h9 => h9) rfl dX0_at_1 ?_
  refine sd_zne (tgt := 11) S.1 S.2.1 dX0_at_4 (by decide) (sd_nT (by omega)) (fun c1 => ?_) (fun c1 => ?_)
  · refine lv_aload_n S.1 S.2.1 dX0_at_11 rfl (lv_at hl 0 rfl) ?_
    refine va_get (D := D) (ci := 0) (v := .ref h) (C := RX0) (T := TX0) (N := 2) S.1 S.2.1 S.2.2.2.2 in_X0 S.2.2.2.1 hG.1 hG.2.1 0 rfl rfl 0 (by decide) (S.2.2.2.2 _ q19) (fun _ h9 => h9) rfl dX0_at_12 ?_
    refine lv_iload_n S.1 S.2.1 dX0_at_15 rfl (lv_at hl 1 rfl) ?_
    refine lv_ldc (v := 2147483647) S.1 S.2.1 S.2.2.2.1 (S.2.2.2.2 _ q35) dX0_at_16 ?_
    refine sd_iand S.1 S.2.1 dX0_at_18 ?_
    refine lv_aload_n S.1 S.2.1 dX0_at_19 rfl (lv_at hl 0 rfl) ?_
    refine va_get (D := D) (ci := 0) (v := .int (nI k)) (C := RX0) (T := TX0) (N := 2) S.1 S.2.1 S.2.2.2.2 in_X0 S.2.2.2.1 hG.1 hG.2.1 0 rfl rfl 1 (by decide) (S.2.2.2.2 _ q20) (fun _ h9 => h9) rfl dX0_at_20 ?_
    refine sd_irem S.1 S.2.1 (sd_uLt _) (by omega) (by omega) dX0_at_23 ?_
    have hm := Nat.mod_lt (sd_u i) (show 0 < k by omega)
    refine sd_iald S.1 S.2.1 hG 1 0 rfl rfl (by omega) (by omega) dX0_at_24 ?_
    exact ret _ _ _ _ _ (k, f) dX0_at_25 (sd_nwi _) hG ⟨Or.inr ⟨by omega, rfl⟩, rfl⟩
  · refine lv_iconst (v := nI 0) S.1 S.2.1 dX0_at_7 (by decide +kernel) ?_
    refine lv_goto (tgt := 25) S.1 S.2.1 dX0_at_8 (by decide) ?_
    exact ret _ _ _ _ _ (k, f) dX0_at_25 (sd_nwi _) hG ⟨Or.inl ⟨by omega, rfl⟩, rfl⟩
set_option maxHeartbeats 4000000 in
set_option maxRecDepth 100000 in
/-- trim(n) -/
theorem sd_x_trim (l : Launch) (D : va_G) (q h : Nat) (d : ClassId) (k : Nat) (f : Nat → Int32) (hk : k ≤ 2048) (i : Int32) : sd_Xv l yX0_trim cX0_trim 2 0 0 0 0 D d (sd_w q h d k f) (sd_wf q h d) [.ref q, .int i] (fun u => u = (sd_u i % (k + 1), f)) := by
  refine sd_Xv.of (by decide) (Nat.le_of_ble_eq_true rfl) ?_
  intro p e s m below meth c A ls Q S hin hcs hA hG hl ret
  have hl : lv_has ls 2 [(0, .ref q), (1, .int i)] := hl
  refine lv_aload_n S.1 S.2.1 dX0_trim_0 rfl (lv_at hl 0 rfl) ?_
  refine lv_iload_n S.1 S.2.1 dX0_trim_1 rfl (lv_at hl 1 rfl) ?_
  refine lv_ldc (v := 2147483647) S.1 S.2.1 S.2.2.2.1 (S.2.2.2.2 _ q35) dX0_trim_2 ?_
  refine sd_iand S.1 S.2.1 dX0_trim_4 ?_
  refine lv_aload_n S.1 S.2.1 dX0_trim_5 rfl (lv_at hl 0 rfl) ?_
  refine va_get (D := D) (ci := 0) (v := .int (nI k)) (C := RX0) (T := TX0) (N := 2) S.1 S.2.1 S.2.2.2.2 in_X0 S.2.2.2.1 hG.1 hG.2.1 0 rfl rfl 1 (by decide) (S.2.2.2.2 _ q20) (fun _ h9 => h9) rfl dX0_trim_6 ?_
  refine lv_iconst (v := nI 1) S.1 S.2.1 dX0_trim_9 (by decide +kernel) ?_
  refine sd_iadd S.1 S.2.1 dX0_trim_10 ?_
  refine sd_irem S.1 S.2.1 (sd_uLt _) (by omega) (by omega) dX0_trim_11 ?_
  refine va_put (D := D) (ci := 0) (v := .int (nI ((sd_u i) % (k + 1)))) (ty := .int) (C := RX0) (T := TX0) (N := 2) S.1 S.2.1 S.2.2.2.2 in_X0 tyX0 tyX0_ok nmX0 S.2.2.2.1 hG.1 hG.2.1 hG.2.2.1 hG.2.2.2 0 rfl rfl 1 (by decide) (S.2.2.2.2 _ q20) (fun _ h9 => h9) rfl (by decide +kernel) rfl rfl (Nat.le_of_ble_eq_true rfl) dX0_trim_12 (fun H locs hP hD hS => ?_)
  have hG : sd_G D A s.heap s [(d, .int)] [(q, .inr (0, [.ref h, .int (nI ((sd_u i) % (k + 1)))])), sd_ar h d 2048 f] H locs := ⟨hG.1, hP, hD, hS⟩
  exact ret _ _ _ _ (sd_u i % (k + 1), f) dX0_trim_15 hG rfl
set_option maxHeartbeats 4000000 in
set_option maxRecDepth 100000 in
/-- put(a, b, c, d) -/
theorem sd_x_put (l : Launch) (D : va_G) (q h : Nat) (d : ClassId) (k : Nat) (f : Nat → Int32) (hk : k ≤ 2048) (a1 a2 a3 a4 : Int32) : sd_Xi l yX0_put cX0_put 5 .boolean 0 0 0 0 D d (sd_w q h d k f) (sd_wf q h d) [.ref q, .int a1, .int a2, .int a3, .int a4] (fun r u => (2044 < k ∧ r = nI 0 ∧ u = (k, f)) ∨ (k ≤ 2044 ∧ r = nI 1 ∧ u = (k + 4, sd_p4 f k a1 a2 a3 a4))) := by
  refine sd_Xi.of (by decide) (Nat.le_of_ble_eq_true rfl) ?_
  intro p e s m below meth c A ls Q S hcs hA hG hl ret
  have hl : lv_has ls 5 [(0, .ref q), (1, .int a1), (2, .int a2), (3, .int a3), (4, .int a4)] := hl
  refine lv_aload_n S.1 S.2.1 dX0_put_0 rfl (lv_at hl 0 rfl) ?_
  refine va_get (D := D) (ci := 0) (v := .int (nI k)) (C := RX0) (T := TX0) (N := 2) S.1 S.2.1 S.2.2.2.2 in_X0 S.2.2.2.1 hG.1 hG.2.1 0 rfl rfl 1 (by decide) (S.2.2.2.2 _ q20) (fun _ h9 => h9) rfl dX0_put_1 ?_
  refine lv_aload_n S.1 S.2.1 dX0_put_4 rfl (lv_at hl 0 rfl) ?_
  refine va_get (D := D) (ci := 0) (v := .ref h) (C := RX0) (T := TX0) (N := 2) S.1 S.2.1 S.2.2.2.2 in_X0 S.2.2.2.1 hG.1 hG.2.1 0 rfl rfl 0 (by decide) (S.2.2.2.2 _ q19) (fun _ h9 => h9) rfl dX0_put_5 ?_
  refine sd_alen S.1 S.2.1 hG 1 0 rfl rfl dX0_put_8 ?_
  refine lv_iconst (v := nI 4) S.1 S.2.1 dX0_put_9 (by decide +kernel) ?_
  refine sd_isub S.1 S.2.1 (by omega) dX0_put_10 ?_
  refine sd_le (tgt := 16) S.1 S.2.1 dX0_put_11 (by decide) (sd_nT (by omega)) (sd_nT (by omega)) (fun c1 => ?_) (fun c1 => ?_)
  · refine lv_aload_n S.1 S.2.1 dX0_put_16 rfl (lv_at hl 0 rfl) ?_
    refine va_get (D := D) (ci := 0) (v := .ref h) (C := RX0) (T := TX0) (N := 2) S.1 S.2.1 S.2.2.2.2 in_X0 S.2.2.2.1 hG.1 hG.2.1 0 rfl rfl 0 (by decide) (S.2.2.2.2 _ q19) (fun _ h9 => h9) rfl dX0_put_17 ?_
    refine lv_aload_n S.1 S.2.1 dX0_put_20 rfl (lv_at hl 0 rfl) ?_
    refine va_get (D := D) (ci := 0) (v := .int (nI k)) (C := RX0) (T := TX0) (N := 2) S.1 S.2.1 S.2.2.2.2 in_X0 S.2.2.2.1 hG.1 hG.2.1 0 rfl rfl 1 (by decide) (S.2.2.2.2 _ q20) (fun _ h9 => h9) rfl dX0_put_21 ?_
    refine lv_iload_n S.1 S.2.1 dX0_put_24 rfl (lv_at hl 1 rfl) ?_
    refine sd_iast S.1 S.2.1 hG 1 0 rfl rfl (by omega) (by omega) dX0_put_25 (fun H locs hG => ?_)
    have hG : sd_G D A s.heap s [(d, .int)] [(q, .inr (0, [.ref h, .int (nI k)])), sd_ar h d 2048 (upd f k a1)] H locs := hG
    refine lv_aload_n S.1 S.2.1 dX0_put_26 rfl (lv_at hl 0 rfl) ?_
    refine va_get (D := D) (ci := 0) (v := .ref h) (C := RX0) (T := TX0) (N := 2) S.1 S.2.1 S.2.2.2.2 in_X0 S.2.2.2.1 hG.1 hG.2.1 0 rfl rfl 0 (by decide) (S.2.2.2.2 _ q19) (fun _ h9 => h9) rfl dX0_put_27 ?_
    refine lv_aload_n S.1 S.2.1 dX0_put_30 rfl (lv_at hl 0 rfl) ?_
    refine va_get (D := D) (ci := 0) (v := .int (nI k)) (C := RX0) (T := TX0) (N := 2) S.1 S.2.1 S.2.2.2.2 in_X0 S.2.2.2.1 hG.1 hG.2.1 0 rfl rfl 1 (by decide) (S.2.2.2.2 _ q20) (fun _ h9 => h9) rfl dX0_put_31 ?_
    refine lv_iconst (v := nI 1) S.1 S.2.1 dX0_put_34 (by decide +kernel) ?_
    refine sd_iadd S.1 S.2.1 dX0_put_35 ?_
    refine lv_iload_n S.1 S.2.1 dX0_put_36 rfl (lv_at hl 2 rfl) ?_
    refine sd_iast S.1 S.2.1 hG 1 0 rfl rfl (by omega) (by omega) dX0_put_37 (fun H locs hG => ?_)
    have hG : sd_G D A s.heap s [(d, .int)] [(q, .inr (0, [.ref h, .int (nI k)])), sd_ar h d 2048 (upd (upd f k a1) (k + 1) a2)] H locs := hG
    refine lv_aload_n S.1 S.2.1 dX0_put_38 rfl (lv_at hl 0 rfl) ?_
    refine va_get (D := D) (ci := 0) (v := .ref h) (C := RX0) (T := TX0) (N := 2) S.1 S.2.1 S.2.2.2.2 in_X0 S.2.2.2.1 hG.1 hG.2.1 0 rfl rfl 0 (by decide) (S.2.2.2.2 _ q19) (fun _ h9 => h9) rfl dX0_put_39 ?_
    refine lv_aload_n S.1 S.2.1 dX0_put_42 rfl (lv_at hl 0 rfl) ?_
    refine va_get (D := D) (ci := 0) (v := .int (nI k)) (C := RX0) (T := TX0) (N := 2) S.1 S.2.1 S.2.2.2.2 in_X0 S.2.2.2.1 hG.1 hG.2.1 0 rfl rfl 1 (by decide) (S.2.2.2.2 _ q20) (fun _ h9 => h9) rfl dX0_put_43 ?_
    refine lv_iconst (v := nI 2) S.1 S.2.1 dX0_put_46 (by decide +kernel) ?_
    refine sd_iadd S.1 S.2.1 dX0_put_47 ?_
    refine lv_iload_n S.1 S.2.1 dX0_put_48 rfl (lv_at hl 3 rfl) ?_
    refine sd_iast S.1 S.2.1 hG 1 0 rfl rfl (by omega) (by omega) dX0_put_49 (fun H locs hG => ?_)
    have hG : sd_G D A s.heap s [(d, .int)] [(q, .inr (0, [.ref h, .int (nI k)])), sd_ar h d 2048 (upd (upd (upd f k a1) (k + 1) a2) (k + 2) a3)] H locs := hG
    refine lv_aload_n S.1 S.2.1 dX0_put_50 rfl (lv_at hl 0 rfl) ?_
    refine va_get (D := D) (ci := 0) (v := .ref h) (C := RX0) (T := TX0) (N := 2) S.1 S.2.1 S.2.2.2.2 in_X0 S.2.2.2.1 hG.1 hG.2.1 0 rfl rfl 0 (by decide) (S.2.2.2.2 _ q19) (fun _ h9 => h9) rfl dX0_put_51 ?_
    refine lv_aload_n S.1 S.2.1 dX0_put_54 rfl (lv_at hl 0 rfl) ?_
    refine va_get (D := D) (ci := 0) (v := .int (nI k)) (C := RX0) (T := TX0) (N := 2) S.1 S.2.1 S.2.2.2.2 in_X0 S.2.2.2.1 hG.1 hG.2.1 0 rfl rfl 1 (by decide) (S.2.2.2.2 _ q20) (fun _ h9 => h9) rfl dX0_put_55 ?_
    refine lv_iconst (v := nI 3) S.1 S.2.1 dX0_put_58 (by decide +kernel) ?_
    refine sd_iadd S.1 S.2.1 dX0_put_59 ?_
    refine lv_iload S.1 S.2.1 dX0_put_60 (lv_at hl 4 rfl) ?_
    refine sd_iast S.1 S.2.1 hG 1 0 rfl rfl (by omega) (by omega) dX0_put_62 (fun H locs hG => ?_)
    have hG : sd_G D A s.heap s [(d, .int)] [(q, .inr (0, [.ref h, .int (nI k)])), sd_ar h d 2048 (upd (upd (upd (upd f k a1) (k + 1) a2) (k + 2) a3) (k + 3) a4)] H locs := hG
    refine lv_aload_n S.1 S.2.1 dX0_put_63 rfl (lv_at hl 0 rfl) ?_
    refine lv_dup S.1 S.2.1 dX0_put_64 rfl ?_
    refine va_get (D := D) (ci := 0) (v := .int (nI k)) (C := RX0) (T := TX0) (N := 2) S.1 S.2.1 S.2.2.2.2 in_X0 S.2.2.2.1 hG.1 hG.2.1 0 rfl rfl 1 (by decide) (S.2.2.2.2 _ q20) (fun _ h9 => h9) rfl dX0_put_65 ?_
    refine lv_iconst (v := nI 4) S.1 S.2.1 dX0_put_68 (by decide +kernel) ?_
    refine sd_iadd S.1 S.2.1 dX0_put_69 ?_
    refine va_put (D := D) (ci := 0) (v := .int (nI (k + 4))) (ty := .int) (C := RX0) (T := TX0) (N := 2) S.1 S.2.1 S.2.2.2.2 in_X0 tyX0 tyX0_ok nmX0 S.2.2.2.1 hG.1 hG.2.1 hG.2.2.1 hG.2.2.2 0 rfl rfl 1 (by decide) (S.2.2.2.2 _ q20) (fun _ h9 => h9) rfl (by decide +kernel) rfl rfl (Nat.le_of_ble_eq_true rfl) dX0_put_70 (fun H locs hP hD hS => ?_)
    have hG : sd_G D A s.heap s [(d, .int)] [(q, .inr (0, [.ref h, .int (nI (k + 4))])), sd_ar h d 2048 (upd (upd (upd (upd f k a1) (k + 1) a2) (k + 2) a3) (k + 3) a4)] H locs := ⟨hG.1, hP, hD, hS⟩
    refine lv_iconst (v := nI 1) S.1 S.2.1 dX0_put_73 (by decide +kernel) ?_
    exact ret _ _ _ _ _ (k + 4, sd_p4 f k a1 a2 a3 a4) dX0_put_74 (by decide +kernel) hG (Or.inr ⟨by omega, rfl, rfl⟩)
  · refine lv_iconst (v := nI 0) S.1 S.2.1 dX0_put_14 (by decide +kernel) ?_
    exact ret _ _ _ _ _ (k, f) dX0_put_15 (by decide +kernel) hG (Or.inl ⟨by omega, rfl, rfl⟩)
set_option maxHeartbeats 4000000 in
set_option maxRecDepth 100000 in
theorem sd_x_fill_loop {p : Program} {l : Launch} {e : Env} {R : Room} {s : State} {m : MethodId} {args : Array Value} {below : List Frame} {meth : Method} {c : Code} {Q : State → Prop} {cells slots : Nat} {D : va_G} {A : Nat → Prop} {H0 : Heap} {q h : Nat} {d : ClassId} {f : Nat → Int32} (k n : Nat) (a1 a2 : Int32) (hn : k + n ≤ 2048) (S : CallFix p m c cX0_fill 6 s args lw_all RX0)
    (K : ∀ (H : Heap) (locs : List Loc) (ls : Array Slot), sd_G D A H0 s [(d, .int)] (sd_w q h d k (sd_fl f k a1 a2 n)) H locs → lv_has ls 6 [(0, .ref q), (4, .int (nI n))] → W p l e R s m args below meth c H locs cells slots Q (F0 m 71 ls [])) :
    ∀ (z i : Nat), i ≤ n → n - i < z → ∀ (H : Heap) (locs : List Loc) (ls : Array Slot), sd_G D A H0 s [(d, .int)] (sd_w q h d k (sd_fl f k a1 a2 i)) H locs → lv_has ls 6 [(0, .ref q), (1, .int a1), (2, .int a2), (4, .int (nI n)), (5, .int (nI i))] → W p l e R s m args below meth c H locs cells slots Q (F0 m 40 ls []) := by
  intro z
  induction z with
  | zero => intro i h1 h2; exact absurd h2 (Nat.not_lt_zero _)
  | succ z ih =>
    intro i h1 h2 H locs ls hG hl
    refine lv_iload S.1 S.2.1 dX0_fill_40 (lv_at hl 4 rfl) ?_
    refine lv_iload S.1 S.2.1 dX0_fill_42 (lv_at hl 3 rfl) ?_
    refine sd_ge (tgt := 71) S.1 S.2.1 dX0_fill_44 (by decide) (sd_nT (by omega)) (sd_nT (by omega)) (fun c1 => ?_) (fun c1 => ?_)
    · have e1 : i = n := by omega
      subst e1
      exact K H locs ls hG (lv_sub hl [0, 3] rfl)
    · refine lv_aload_n S.1 S.2.1 dX0_fill_47 rfl (lv_at hl 0 rfl) ?_
      refine va_get (D := D) (ci := 0) (v := .ref h) (C := RX0) (T := TX0) (N := 2) S.1 S.2.1 S.2.2.2.2 in_X0 S.2.2.2.1 hG.1 hG.2.1 0 rfl rfl 0 (by decide) (S.2.2.2.2 _ q19) (fun _ h9 => h9) rfl dX0_fill_48 ?_
      refine lv_aload_n S.1 S.2.1 dX0_fill_51 rfl (lv_at hl 0 rfl) ?_
      refine va_get (D := D) (ci := 0) (v := .int (nI k)) (C := RX0) (T := TX0) (N := 2) S.1 S.2.1 S.2.2.2.2 in_X0 S.2.2.2.1 hG.1 hG.2.1 0 rfl rfl 1 (by decide) (S.2.2.2.2 _ q20) (fun _ h9 => h9) rfl dX0_fill_52 ?_
      refine lv_iload S.1 S.2.1 dX0_fill_55 (lv_at hl 4 rfl) ?_
      refine sd_iadd S.1 S.2.1 dX0_fill_57 ?_
      refine lv_iload_n S.1 S.2.1 dX0_fill_58 rfl (lv_at hl 1 rfl) ?_
      refine lv_iload_n S.1 S.2.1 dX0_fill_59 rfl (lv_at hl 2 rfl) ?_
      refine lv_iload S.1 S.2.1 dX0_fill_60 (lv_at hl 4 rfl) ?_
      refine lv_imul S.1 S.2.1 dX0_fill_62 ?_
      refine lv_iadd S.1 S.2.1 dX0_fill_63 ?_
      refine sd_iast S.1 S.2.1 hG 1 0 rfl rfl (by omega) (by omega) dX0_fill_64 (fun H locs hG => ?_)
      have hG : sd_G D A H0 s [(d, .int)] [(q, .inr (0, [.ref h, .int (nI k)])), sd_ar h d 2048 (upd (sd_fl f k a1 a2 i) (k + i) (a1 + (a2 * nI i)))] H locs := hG
      refine lv_iinc (v := nI (i + 1)) (lv' := [(5, .int (nI (i + 1))), (0, .ref q), (1, .int a1), (2, .int a2), (4, .int (nI n))]) S.1 S.2.1 dX0_fill_65 hl (k := 4) rfl (sd_i1 _) (by decide) rfl (fun ls hl => ?_)
      refine lv_goto (tgt := 40) S.1 S.2.1 dX0_fill_68 (by decide) ?_
      exact ih (i + 1) (by omega) (by omega) H locs ls hG (lv_sub hl [1, 2, 3, 4, 0] rfl)
set_option maxHeartbeats 4000000 in
set_option maxRecDepth 100000 in
/-- fill(first, step, count) -/
theorem sd_x_fill (l : Launch) (D : va_G) (q h : Nat) (d : ClassId) (k : Nat) (f : Nat → Int32) (hk : k ≤ 2048) (a1 a2 a3 : Int32) : sd_Xi l yX0_fill cX0_fill 6 .int 0 0 0 0 D d (sd_w q h d k f) (sd_wf q h d) [.ref q, .int a1, .int a2, .int a3] (fun r u => r = nI (min (sd_u a3 % 513) (2048 - k)) ∧ u = (k + min (sd_u a3 % 513) (2048 - k), sd_fl f k a1 a2 (min (sd_u a3 % 513) (2048 - k)))) := by
  refine sd_Xi.of (by decide) (Nat.le_of_ble_eq_true rfl) ?_
  intro p e s m below meth c A ls Q S hcs hA hG hl ret
  obtain ⟨n, hn⟩ : ∃ n, n = min (sd_u a3 % 513) (2048 - k) := ⟨_, rfl⟩
  rw [← hn] at ret
  have hl : lv_has ls 6 [(0, .ref q), (1, .int a1), (2, .int a2), (3, .int a3)] := hl
  have tail : ∀ ls : Array Slot, lv_has ls 6 [(0, .ref q), (1, .int a1), (2, .int a2), (4, .int (nI n))] → W p l e { frames := 0, cells := 0, slots := 0, locals := 0 } s m ([.ref q, .int a1, .int a2, .int a3] : List Value).toArray below meth c s.heap [] 0 0 Q (F0 m 37 ls []) := by
    intro ls hl
    refine lv_iconst (v := nI 0) S.1 S.2.1 dX0_fill_37 (by decide +kernel) ?_
    refine lv_istore (lv' := [(5, .int (nI 0)), (0, .ref q), (1, .int a1), (2, .int a2), (4, .int (nI n))]) S.1 S.2.1 dX0_fill_38 hl (by decide) rfl (fun ls hl => ?_)
    refine sd_x_fill_loop (f := f) k n a1 a2 (by omega) S (fun H locs ls hG hl => ?_) (n + 1) 0 (Nat.zero_le _) (by omega) _ _ _ hG (lv_sub hl [1, 2, 3, 4, 0] rfl)
    refine lv_aload_n S.1 S.2.1 dX0_fill_71 rfl (lv_at hl 0 rfl) ?_
    refine lv_dup S.1 S.2.1 dX0_fill_72 rfl ?_
    refine va_get (D := D) (ci := 0) (v := .int (nI k)) (C := RX0) (T := TX0) (N := 2) S.1 S.2.1 S.2.2.2.2 in_X0 S.2.2.2.1 hG.1 hG.2.1 0 rfl rfl 1 (by decide) (S.2.2.2.2 _ q20) (fun _ h9 => h9) rfl dX0_fill_73 ?_
    refine lv_iload S.1 S.2.1 dX0_fill_76 (lv_at hl 1 rfl) ?_
    refine sd_iadd S.1 S.2.1 dX0_fill_78 ?_
    refine va_put (D := D) (ci := 0) (v := .int (nI (k + n))) (ty := .int) (C := RX0) (T := TX0) (N := 2) S.1 S.2.1 S.2.2.2.2 in_X0 tyX0 tyX0_ok nmX0 S.2.2.2.1 hG.1 hG.2.1 hG.2.2.1 hG.2.2.2 0 rfl rfl 1 (by decide) (S.2.2.2.2 _ q20) (fun _ h9 => h9) rfl (by decide +kernel) rfl rfl (Nat.le_of_ble_eq_true rfl) dX0_fill_79 (fun H locs hP hD hS => ?_)
    have hG : sd_G D A s.heap s [(d, .int)] [(q, .inr (0, [.ref h, .int (nI (k + n))])), sd_ar h d 2048 (sd_fl f k a1 a2 n)] H locs := ⟨hG.1, hP, hD, hS⟩
    refine lv_iload S.1 S.2.1 dX0_fill_82 (lv_at hl 1 rfl) ?_
    exact ret _ _ _ _ _ (k + n, sd_fl f k a1 a2 n) dX0_fill_84 (sd_nwi _) hG ⟨rfl, rfl⟩
  refine lv_iload_n S.1 S.2.1 dX0_fill_0 rfl (lv_at hl 3 rfl) ?_
  refine lv_ldc (v := 2147483647) S.1 S.2.1 S.2.2.2.1 (S.2.2.2.2 _ q35) dX0_fill_1 ?_
  refine sd_iand S.1 S.2.1 dX0_fill_3 ?_
  refine lv_sipush (v := nI 513) S.1 S.2.1 dX0_fill_4 (by decide +kernel) ?_
  refine sd_irem S.1 S.2.1 (sd_uLt _) (by omega) (by omega) dX0_fill_7 ?_
  refine lv_istore (lv' := [(4, .int (nI ((sd_u a3) % 513))), (0, .ref q), (1, .int a1), (2, .int a2), (3, .int a3)]) S.1 S.2.1 dX0_fill_8 hl (by decide) rfl (fun ls hl => ?_)
  refine lv_iload S.1 S.2.1 dX0_fill_10 (lv_at hl 0 rfl) ?_
  refine lv_aload_n S.1 S.2.1 dX0_fill_12 rfl (lv_at hl 1 rfl) ?_
  refine va_get (D := D) (ci := 0) (v := .ref h) (C := RX0) (T := TX0) (N := 2) S.1 S.2.1 S.2.2.2.2 in_X0 S.2.2.2.1 hG.1 hG.2.1 0 rfl rfl 0 (by decide) (S.2.2.2.2 _ q19) (fun _ h9 => h9) rfl dX0_fill_13 ?_
  refine sd_alen S.1 S.2.1 hG 1 0 rfl rfl dX0_fill_16 ?_
  refine lv_aload_n S.1 S.2.1 dX0_fill_17 rfl (lv_at hl 1 rfl) ?_
  refine va_get (D := D) (ci := 0) (v := .int (nI k)) (C := RX0) (T := TX0) (N := 2) S.1 S.2.1 S.2.2.2.2 in_X0 S.2.2.2.1 hG.1 hG.2.1 0 rfl rfl 1 (by decide) (S.2.2.2.2 _ q20) (fun _ h9 => h9) rfl dX0_fill_18 ?_
  refine sd_isub S.1 S.2.1 (by omega) dX0_fill_21 ?_
  refine sd_le (tgt := 37) S.1 S.2.1 dX0_fill_22 (by decide) (sd_nT (by have := Nat.mod_lt (sd_u a3) (show 0 < 513 by omega); omega)) (sd_nT (by have := Nat.mod_lt (sd_u a3) (show 0 < 513 by omega); omega)) (fun c1 => ?_) (fun c1 => ?_)
  · have e1 : sd_u a3 % 513 = n := by omega
    rw [e1] at hl
    exact tail ls (lv_sub hl [1, 2, 3, 0] rfl)
  · have e1 : 2048 - k = n := by omega
    refine lv_aload_n S.1 S.2.1 dX0_fill_25 rfl (lv_at hl 1 rfl) ?_
    refine va_get (D := D) (ci := 0) (v := .ref h) (C := RX0) (T := TX0) (N := 2) S.1 S.2.1 S.2.2.2.2 in_X0 S.2.2.2.1 hG.1 hG.2.1 0 rfl rfl 0 (by decide) (S.2.2.2.2 _ q19) (fun _ h9 => h9) rfl dX0_fill_26 ?_
    refine sd_alen S.1 S.2.1 hG 1 0 rfl rfl dX0_fill_29 ?_
    refine lv_aload_n S.1 S.2.1 dX0_fill_30 rfl (lv_at hl 1 rfl) ?_
    refine va_get (D := D) (ci := 0) (v := .int (nI k)) (C := RX0) (T := TX0) (N := 2) S.1 S.2.1 S.2.2.2.2 in_X0 S.2.2.2.1 hG.1 hG.2.1 0 rfl rfl 1 (by decide) (S.2.2.2.2 _ q20) (fun _ h9 => h9) rfl dX0_fill_31 ?_
    refine sd_isub S.1 S.2.1 (by omega) dX0_fill_34 ?_
    refine lv_istore (lv' := [(4, .int (nI (2048 - k))), (0, .ref q), (1, .int a1), (2, .int a2), (3, .int a3)]) S.1 S.2.1 dX0_fill_35 hl (by decide) rfl (fun ls hl => ?_)
    rw [e1] at hl
    exact tail ls (lv_sub hl [1, 2, 3, 0] rfl)
set_option maxHeartbeats 4000000 in
set_option maxRecDepth 100000 in
/-- from(x) -/
theorem sd_x_from (l : Launch) (D : va_G) (q h : Nat) (d : ClassId) (k : Nat) (hk : k ≤ 2048) (x : Int32) : sd_Xi l yX0_from cX0_from 2 .int 0 0 0 0 D d [(q, .inr (0, [.ref h, .int (nI k)]))] (fun _ : Unit => [(q, .inr (0, [.ref h, .int (nI k)]))]) [.ref q, .int x] (fun r _ => r = nI (sd_fr k x)) := by
  refine sd_Xi.of (by decide) (Nat.le_of_ble_eq_true rfl) ?_
  intro p e s m below meth c A ls Q S hcs hA hG hl ret
  have hl : lv_has ls 2 [(0, .ref q), (1, .int x)] := hl
  refine lv_iload_n S.1 S.2.1 dX0_from_0 rfl (lv_at hl 1 rfl) ?_
  refine lv_ldc (v := 2147483647) S.1 S.2.1 S.2.2.2.1 (S.2.2.2.2 _ q35) dX0_from_1 ?_
  refine sd_iand S.1 S.2.1 dX0_from_3 ?_
  refine lv_aload_n S.1 S.2.1 dX0_from_4 rfl (lv_at hl 0 rfl) ?_
  refine va_get (D := D) (ci := 0) (v := .int (nI k)) (C := RX0) (T := TX0) (N := 2) S.1 S.2.1 S.2.2.2.2 in_X0 S.2.2.2.1 hG.1 hG.2.1 0 rfl rfl 1 (by decide) (S.2.2.2.2 _ q20) (fun _ h9 => h9) rfl dX0_from_5 ?_
  refine lv_iconst (v := nI 1) S.1 S.2.1 dX0_from_8 (by decide +kernel) ?_
  refine sd_iadd S.1 S.2.1 dX0_from_9 ?_
  refine sd_irem S.1 S.2.1 (sd_uLt _) (by omega) (by omega) dX0_from_10 ?_
  exact ret _ _ _ _ _ () dX0_from_11 (sd_nwi _) hG rfl
set_option maxHeartbeats 4000000 in
set_option maxRecDepth 100000 in
/-- to(a, x) -/
theorem sd_x_to (l : Launch) (D : va_G) (q h : Nat) (d : ClassId) (k : Nat) (hk : k ≤ 2048) (a : Nat) (ha : a ≤ k) (x : Int32) : sd_Xi l yX0_to cX0_to 3 .int 0 0 0 0 D d [(q, .inr (0, [.ref h, .int (nI k)]))] (fun _ : Unit => [(q, .inr (0, [.ref h, .int (nI k)]))]) [.ref q, .int (nI a), .int x] (fun r _ => r = nI (sd_to k a x)) := by
  refine sd_Xi.of (by decide) (Nat.le_of_ble_eq_true rfl) ?_
  intro p e s m below meth c A ls Q S hcs hA hG hl ret
  have hl : lv_has ls 3 [(0, .ref q), (1, .int (nI a)), (2, .int x)] := hl
  refine lv_iload_n S.1 S.2.1 dX0_to_0 rfl (lv_at hl 1 rfl) ?_
  refine lv_iload_n S.1 S.2.1 dX0_to_1 rfl (lv_at hl 2 rfl) ?_
  refine lv_ldc (v := 2147483647) S.1 S.2.1 S.2.2.2.1 (S.2.2.2.2 _ q35) dX0_to_2 ?_
  refine sd_iand S.1 S.2.1 dX0_to_4 ?_
  refine lv_aload_n S.1 S.2.1 dX0_to_5 rfl (lv_at hl 0 rfl) ?_
  refine va_get (D := D) (ci := 0) (v := .int (nI k)) (C := RX0) (T := TX0) (N := 2) S.1 S.2.1 S.2.2.2.2 in_X0 S.2.2.2.1 hG.1 hG.2.1 0 rfl rfl 1 (by decide) (S.2.2.2.2 _ q20) (fun _ h9 => h9) rfl dX0_to_6 ?_
  refine lv_iload_n S.1 S.2.1 dX0_to_9 rfl (lv_at hl 1 rfl) ?_
  refine sd_isub S.1 S.2.1 (by omega) dX0_to_10 ?_
  refine lv_iconst (v := nI 1) S.1 S.2.1 dX0_to_11 (by decide +kernel) ?_
  refine sd_iadd S.1 S.2.1 dX0_to_12 ?_
  refine sd_irem S.1 S.2.1 (sd_uLt _) (by omega) (by omega) dX0_to_13 ?_
  refine sd_iadd S.1 S.2.1 dX0_to_14 ?_
  exact ret _ _ _ _ _ () dX0_to_15 (sd_nwi _) hG rfl
set_option maxHeartbeats 4000000 in
set_option maxRecDepth 100000 in
/-- quick(from, count) -/
theorem sd_x_quick (l : Launch) (D : va_G) (q h : Nat) (d : ClassId) (k : Nat) (f : Nat → Int32) (hk : k ≤ 2048) (a1 a2 : Int32) : sd_Xv l yX0_quick cX0_quick 4 2036 65135 0 0 D d (sd_w q h d k f) (sd_wf q h d) [.ref q, .int a1, .int a2] (fun u => u.1 = k ∧ sd_Srt u.2 (sd_fr k a1) (sd_to k (sd_fr k a1) a2) ∧ sd_Prm u.2 f (sd_fr k a1) (sd_to k (sd_fr k a1) a2)) := by
  refine sd_Xv.of (by decide) (Nat.le_of_ble_eq_true rfl) ?_
  intro p e s m below meth c A ls Q S hin hcs hA hG hl ret
  have hl : lv_has ls 4 [(0, .ref q), (1, .int a1), (2, .int a2)] := hl
  refine lv_aload_n S.1 S.2.1 dX0_quick_0 rfl (lv_at hl 0 rfl) ?_
  refine lv_iload_n S.1 S.2.1 dX0_quick_1 rfl (lv_at hl 1 rfl) ?_
  refine sd_callXi (nn := 1) (as := [.int a1]) (rest := []) (wr := [sd_ar h d 2048 f]) S (sd_x_from l D q h d k hk a1) (lw_V q52 q54 qs0 q4 q55) (by decide +kernel) rfl ⟨Nat.le_of_ble_eq_true rfl, Nat.le_of_ble_eq_true rfl⟩ ⟨Nat.le_of_ble_eq_true rfl, Nat.le_of_ble_eq_true rfl⟩ hcs hG hA 0 rfl [0] [1] rfl rfl rfl rfl rfl (by decide) 0 rfl rfl rfl hl.1 rfl (Nat.le_of_ble_eq_true rfl) dX0_quick_2 (fun r u H locs er hG => ?_)
  have hG : sd_G D A s.heap s [(d, .int)] [(q, .inr (0, [.ref h, .int (nI k)])), sd_ar h d 2048 f] H locs := sd_Gsub hG [1, 0] (by decide) rfl rfl
  obtain ⟨a, ha⟩ : ∃ y, y = sd_fr k a1 := ⟨_, rfl⟩
  rw [← ha] at er
  subst er
  have ha1 : a ≤ k := by rw [ha]; exact sd_frLe
  refine lv_istore_n (lv' := [(3, .int (nI a)), (0, .ref q), (1, .int a1), (2, .int a2)]) S.1 S.2.1 dX0_quick_5 rfl hl (by decide) rfl (fun ls hl => ?_)
  refine lv_aload_n S.1 S.2.1 dX0_quick_6 rfl (lv_at hl 1 rfl) ?_
  refine va_get (D := D) (ci := 0) (v := .ref h) (C := RX0) (T := TX0) (N := 2) S.1 S.2.1 S.2.2.2.2 in_X0 S.2.2.2.1 hG.1 hG.2.1 0 rfl rfl 0 (by decide) (S.2.2.2.2 _ q19) (fun _ h9 => h9) rfl dX0_quick_7 ?_
  refine lv_iload_n S.1 S.2.1 dX0_quick_10 rfl (lv_at hl 0 rfl) ?_
  refine lv_aload_n S.1 S.2.1 dX0_quick_11 rfl (lv_at hl 1 rfl) ?_
  refine lv_iload_n S.1 S.2.1 dX0_quick_12 rfl (lv_at hl 0 rfl) ?_
  refine lv_iload_n S.1 S.2.1 dX0_quick_13 rfl (lv_at hl 3 rfl) ?_
  refine sd_callXi (nn := 2) (as := [.int (nI a), .int a2]) (rest := [.int (nI a), .ref h]) (wr := [sd_ar h d 2048 f]) S (sd_x_to l D q h d k hk a ha1 a2) (lw_V q56 q58 qs1 q4 q59) (by decide +kernel) rfl ⟨Nat.le_of_ble_eq_true rfl, Nat.le_of_ble_eq_true rfl⟩ ⟨Nat.le_of_ble_eq_true rfl, Nat.le_of_ble_eq_true rfl⟩ hcs hG hA 0 rfl [0] [1] rfl rfl rfl rfl rfl (by decide) 0 rfl rfl rfl hl.1 rfl (Nat.le_of_ble_eq_true rfl) dX0_quick_14 (fun r u H locs er hG => ?_)
  have hG : sd_G D A s.heap s [(d, .int)] [(q, .inr (0, [.ref h, .int (nI k)])), sd_ar h d 2048 f] H locs := sd_Gsub hG [1, 0] (by decide) rfl rfl
  obtain ⟨b, hb⟩ : ∃ y, y = sd_to k a a2 := ⟨_, rfl⟩
  rw [← hb] at er
  subst er
  have hb1 : a ≤ b ∧ b ≤ k := by rw [hb]; exact sd_toLe ha1
  refine sd_callv (nn := 3) (rest := []) S (sd_quickSort l D h d 2048 (by omega) 2033 f a b hb1.1 (by omega) (by omega)) (lw_S q60 q61 q6 q62) (by decide +kernel) rfl ⟨Nat.le_of_ble_eq_true rfl, Nat.le_of_ble_eq_true rfl⟩ ⟨Nat.le_of_ble_eq_true rfl, Nat.le_of_ble_eq_true rfl⟩ hG hA 1 0 rfl rfl hl.1 rfl (Nat.le_of_ble_eq_true rfl) dX0_quick_17 (fun f' H locs ef' hG => ?_)
  have hG : sd_G D A s.heap s [(d, .int)] [(q, .inr (0, [.ref h, .int (nI k)])), sd_ar h d 2048 f'] H locs := hG
  rw [← ha, ← hb] at ret
  exact ret _ _ _ _ (k, f') dX0_quick_20 hG ⟨rfl, ef'⟩
set_option maxHeartbeats 4000000 in
set_option maxRecDepth 100000 in
/-- merge(from, count) -/
theorem sd_x_merge (l : Launch) (D : va_G) (q h : Nat) (d : ClassId) (k : Nat) (f : Nat → Int32) (hk : k ≤ 2048) (a1 a2 : Int32) : sd_Xv l yX0_merge cX0_merge 4 2037 57062 1 2048 D d (sd_w q h d k f) (sd_wf q h d) [.ref q, .int a1, .int a2] (fun u => u.1 = k ∧ sd_Srt u.2 (sd_fr k a1) (sd_to k (sd_fr k a1) a2) ∧ sd_Prm u.2 f (sd_fr k a1) (sd_to k (sd_fr k a1) a2)) := by
  refine sd_Xv.of (by decide) (Nat.le_of_ble_eq_true rfl) ?_
  intro p e s m below meth c A ls Q S hin hcs hA hG hl ret
  have hl : lv_has ls 4 [(0, .ref q), (1, .int a1), (2, .int a2)] := hl
  refine lv_aload_n S.1 S.2.1 dX0_merge_0 rfl (lv_at hl 0 rfl) ?_
  refine lv_iload_n S.1 S.2.1 dX0_merge_1 rfl (lv_at hl 1 rfl) ?_
  refine sd_callXi (nn := 1) (as := [.int a1]) (rest := []) (wr := [sd_ar h d 2048 f]) S (sd_x_from l D q h d k hk a1) (lw_V q52 q54 qs0 q4 q55) (by decide +kernel) rfl ⟨Nat.le_of_ble_eq_true rfl, Nat.le_of_ble_eq_true rfl⟩ ⟨Nat.le_of_ble_eq_true rfl, Nat.le_of_ble_eq_true rfl⟩ hcs hG hA 0 rfl [0] [1] rfl rfl rfl rfl rfl (by decide) 0 rfl rfl rfl hl.1 rfl (Nat.le_of_ble_eq_true rfl) dX0_merge_2 (fun r u H locs er hG => ?_)
  have hG : sd_G D A s.heap s [(d, .int)] [(q, .inr (0, [.ref h, .int (nI k)])), sd_ar h d 2048 f] H locs := sd_Gsub hG [1, 0] (by decide) rfl rfl
  obtain ⟨a, ha⟩ : ∃ y, y = sd_fr k a1 := ⟨_, rfl⟩
  rw [← ha] at er
  subst er
  have ha1 : a ≤ k := by rw [ha]; exact sd_frLe
  refine lv_istore_n (lv' := [(3, .int (nI a)), (0, .ref q), (1, .int a1), (2, .int a2)]) S.1 S.2.1 dX0_merge_5 rfl hl (by decide) rfl (fun ls hl => ?_)
  refine lv_aload_n S.1 S.2.1 dX0_merge_6 rfl (lv_at hl 1 rfl) ?_
  refine va_get (D := D) (ci := 0) (v := .ref h) (C := RX0) (T := TX0) (N := 2) S.1 S.2.1 S.2.2.2.2 in_X0 S.2.2.2.1 hG.1 hG.2.1 0 rfl rfl 0 (by decide) (S.2.2.2.2 _ q19) (fun _ h9 => h9) rfl dX0_merge_7 ?_
  refine lv_iload_n S.1 S.2.1 dX0_merge_10 rfl (lv_at hl 0 rfl) ?_
  refine lv_aload_n S.1 S.2.1 dX0_merge_11 rfl (lv_at hl 1 rfl) ?_
  refine lv_iload_n S.1 S.2.1 dX0_merge_12 rfl (lv_at hl 0 rfl) ?_
  refine lv_iload_n S.1 S.2.1 dX0_merge_13 rfl (lv_at hl 3 rfl) ?_
  refine sd_callXi (nn := 2) (as := [.int (nI a), .int a2]) (rest := [.int (nI a), .ref h]) (wr := [sd_ar h d 2048 f]) S (sd_x_to l D q h d k hk a ha1 a2) (lw_V q56 q58 qs1 q4 q59) (by decide +kernel) rfl ⟨Nat.le_of_ble_eq_true rfl, Nat.le_of_ble_eq_true rfl⟩ ⟨Nat.le_of_ble_eq_true rfl, Nat.le_of_ble_eq_true rfl⟩ hcs hG hA 0 rfl [0] [1] rfl rfl rfl rfl rfl (by decide) 0 rfl rfl rfl hl.1 rfl (Nat.le_of_ble_eq_true rfl) dX0_merge_14 (fun r u H locs er hG => ?_)
  have hG : sd_G D A s.heap s [(d, .int)] [(q, .inr (0, [.ref h, .int (nI k)])), sd_ar h d 2048 f] H locs := sd_Gsub hG [1, 0] (by decide) rfl rfl
  obtain ⟨b, hb⟩ : ∃ y, y = sd_to k a a2 := ⟨_, rfl⟩
  rw [← hb] at er
  subst er
  have hb1 : a ≤ b ∧ b ≤ k := by rw [hb]; exact sd_toLe ha1
  refine sd_callc (nn := 3) (rest := []) S (sd_mergeSort l D h d 2048 f a b hb1.1 (by omega) (Nat.le_refl _)) (lw_S q86 q87 q6 q88) (by decide +kernel) rfl ⟨Nat.le_of_ble_eq_true rfl, Nat.le_of_ble_eq_true rfl⟩ ⟨Nat.le_of_ble_eq_true rfl, Nat.le_of_ble_eq_true rfl⟩ hcs hG hA 1 0 rfl rfl hl.1 rfl (Nat.le_of_ble_eq_true rfl) dX0_merge_17 (fun f' H locs ef' hG => ?_)
  have hG : sd_G D A s.heap s [(d, .int)] [(q, .inr (0, [.ref h, .int (nI k)])), sd_ar h d 2048 f'] H locs := hG
  rw [← ha, ← hb] at ret
  exact ret _ _ _ _ (k, f') dX0_merge_20 hG ⟨rfl, ef'⟩
set_option maxHeartbeats 4000000 in
set_option maxRecDepth 100000 in
/-- radix(from, count) -/
theorem sd_x_radix (l : Launch) (D : va_G) (q h : Nat) (d : ClassId) (k : Nat) (f : Nat → Int32) (hk : k ≤ 2048) (a1 a2 : Int32) : sd_Xv l yX0_radix cX0_radix 4 1013 32407 5 2810 D d (sd_w q h d k f) (sd_wf q h d) [.ref q, .int a1, .int a2] (fun u => u.1 = k ∧ sd_Srt u.2 (sd_fr k a1) (sd_to k (sd_fr k a1) a2) ∧ sd_Prm u.2 f (sd_fr k a1) (sd_to k (sd_fr k a1) a2)) := by
  refine sd_Xv.of (by decide) (Nat.le_of_ble_eq_true rfl) ?_
  intro p e s m below meth c A ls Q S hin hcs hA hG hl ret
  have hl : lv_has ls 4 [(0, .ref q), (1, .int a1), (2, .int a2)] := hl
  refine lv_aload_n S.1 S.2.1 dX0_radix_0 rfl (lv_at hl 0 rfl) ?_
  refine lv_iload_n S.1 S.2.1 dX0_radix_1 rfl (lv_at hl 1 rfl) ?_
  refine sd_callXi (nn := 1) (as := [.int a1]) (rest := []) (wr := [sd_ar h d 2048 f]) S (sd_x_from l D q h d k hk a1) (lw_V q52 q54 qs0 q4 q55) (by decide +kernel) rfl ⟨Nat.le_of_ble_eq_true rfl, Nat.le_of_ble_eq_true rfl⟩ ⟨Nat.le_of_ble_eq_true rfl, Nat.le_of_ble_eq_true rfl⟩ hcs hG hA 0 rfl [0] [1] rfl rfl rfl rfl rfl (by decide) 0 rfl rfl rfl hl.1 rfl (Nat.le_of_ble_eq_true rfl) dX0_radix_2 (fun r u H locs er hG => ?_)
  have hG : sd_G D A s.heap s [(d, .int)] [(q, .inr (0, [.ref h, .int (nI k)])), sd_ar h d 2048 f] H locs := sd_Gsub hG [1, 0] (by decide) rfl rfl
  obtain ⟨a, ha⟩ : ∃ y, y = sd_fr k a1 := ⟨_, rfl⟩
  rw [← ha] at er
  subst er
  have ha1 : a ≤ k := by rw [ha]; exact sd_frLe
  refine lv_istore_n (lv' := [(3, .int (nI a)), (0, .ref q), (1, .int a1), (2, .int a2)]) S.1 S.2.1 dX0_radix_5 rfl hl (by decide) rfl (fun ls hl => ?_)
  refine lv_aload_n S.1 S.2.1 dX0_radix_6 rfl (lv_at hl 1 rfl) ?_
  refine va_get (D := D) (ci := 0) (v := .ref h) (C := RX0) (T := TX0) (N := 2) S.1 S.2.1 S.2.2.2.2 in_X0 S.2.2.2.1 hG.1 hG.2.1 0 rfl rfl 0 (by decide) (S.2.2.2.2 _ q19) (fun _ h9 => h9) rfl dX0_radix_7 ?_
  refine lv_iload_n S.1 S.2.1 dX0_radix_10 rfl (lv_at hl 0 rfl) ?_
  refine lv_aload_n S.1 S.2.1 dX0_radix_11 rfl (lv_at hl 1 rfl) ?_
  refine lv_iload_n S.1 S.2.1 dX0_radix_12 rfl (lv_at hl 0 rfl) ?_
  refine lv_iload_n S.1 S.2.1 dX0_radix_13 rfl (lv_at hl 3 rfl) ?_
  refine sd_callXi (nn := 2) (as := [.int (nI a), .int a2]) (rest := [.int (nI a), .ref h]) (wr := [sd_ar h d 2048 f]) S (sd_x_to l D q h d k hk a ha1 a2) (lw_V q56 q58 qs1 q4 q59) (by decide +kernel) rfl ⟨Nat.le_of_ble_eq_true rfl, Nat.le_of_ble_eq_true rfl⟩ ⟨Nat.le_of_ble_eq_true rfl, Nat.le_of_ble_eq_true rfl⟩ hcs hG hA 0 rfl [0] [1] rfl rfl rfl rfl rfl (by decide) 0 rfl rfl rfl hl.1 rfl (Nat.le_of_ble_eq_true rfl) dX0_radix_14 (fun r u H locs er hG => ?_)
  have hG : sd_G D A s.heap s [(d, .int)] [(q, .inr (0, [.ref h, .int (nI k)])), sd_ar h d 2048 f] H locs := sd_Gsub hG [1, 0] (by decide) rfl rfl
  obtain ⟨b, hb⟩ : ∃ y, y = sd_to k a a2 := ⟨_, rfl⟩
  rw [← hb] at er
  subst er
  have hb1 : a ≤ b ∧ b ≤ k := by rw [hb]; exact sd_toLe ha1
  refine sd_callw (nn := 3) (rest := []) S (sd_radixSort l D h d 2048 f a b hb1.1 (by omega) (Nat.le_refl _)) (lw_S q115 q116 q6 q117) (by decide +kernel) rfl ⟨Nat.le_of_ble_eq_true rfl, Nat.le_of_ble_eq_true rfl⟩ ⟨Nat.le_of_ble_eq_true rfl, Nat.le_of_ble_eq_true rfl⟩ hG hA 1 0 rfl rfl hl.1 rfl (Nat.le_of_ble_eq_true rfl) dX0_radix_17 (fun f' H locs ef' hG => ?_)
  have hG : sd_G D A s.heap s [(d, .int)] [(q, .inr (0, [.ref h, .int (nI k)])), sd_ar h d 2048 f'] H locs := hG
  rw [← ha, ← hb] at ret
  exact ret _ _ _ _ (k, f') dX0_radix_20 hG ⟨rfl, ef'⟩
set_option maxHeartbeats 4000000 in
set_option maxRecDepth 100000 in
/-- unstable(from, count) -/
theorem sd_x_unstable (l : Launch) (D : va_G) (q h : Nat) (d : ClassId) (k : Nat) (f : Nat → Int32) (hk : k ≤ 2048) (a1 a2 : Int32) : sd_Xv l yX0_unstable cX0_unstable 4 2037 65157 5 2810 D d (sd_w q h d k f) (sd_wf q h d) [.ref q, .int a1, .int a2] (fun u => u.1 = k ∧ sd_Srt u.2 (sd_fr k a1) (sd_to k (sd_fr k a1) a2) ∧ sd_Prm u.2 f (sd_fr k a1) (sd_to k (sd_fr k a1) a2)) := by
  refine sd_Xv.of (by decide) (Nat.le_of_ble_eq_true rfl) ?_
  intro p e s m below meth c A ls Q S hin hcs hA hG hl ret
  have hl : lv_has ls 4 [(0, .ref q), (1, .int a1), (2, .int a2)] := hl
  refine lv_aload_n S.1 S.2.1 dX0_unstable_0 rfl (lv_at hl 0 rfl) ?_
  refine lv_iload_n S.1 S.2.1 dX0_unstable_1 rfl (lv_at hl 1 rfl) ?_
  refine sd_callXi (nn := 1) (as := [.int a1]) (rest := []) (wr := [sd_ar h d 2048 f]) S (sd_x_from l D q h d k hk a1) (lw_V q52 q54 qs0 q4 q55) (by decide +kernel) rfl ⟨Nat.le_of_ble_eq_true rfl, Nat.le_of_ble_eq_true rfl⟩ ⟨Nat.le_of_ble_eq_true rfl, Nat.le_of_ble_eq_true rfl⟩ hcs hG hA 0 rfl [0] [1] rfl rfl rfl rfl rfl (by decide) 0 rfl rfl rfl hl.1 rfl (Nat.le_of_ble_eq_true rfl) dX0_unstable_2 (fun r u H locs er hG => ?_)
  have hG : sd_G D A s.heap s [(d, .int)] [(q, .inr (0, [.ref h, .int (nI k)])), sd_ar h d 2048 f] H locs := sd_Gsub hG [1, 0] (by decide) rfl rfl
  obtain ⟨a, ha⟩ : ∃ y, y = sd_fr k a1 := ⟨_, rfl⟩
  rw [← ha] at er
  subst er
  have ha1 : a ≤ k := by rw [ha]; exact sd_frLe
  refine lv_istore_n (lv' := [(3, .int (nI a)), (0, .ref q), (1, .int a1), (2, .int a2)]) S.1 S.2.1 dX0_unstable_5 rfl hl (by decide) rfl (fun ls hl => ?_)
  refine lv_aload_n S.1 S.2.1 dX0_unstable_6 rfl (lv_at hl 1 rfl) ?_
  refine va_get (D := D) (ci := 0) (v := .ref h) (C := RX0) (T := TX0) (N := 2) S.1 S.2.1 S.2.2.2.2 in_X0 S.2.2.2.1 hG.1 hG.2.1 0 rfl rfl 0 (by decide) (S.2.2.2.2 _ q19) (fun _ h9 => h9) rfl dX0_unstable_7 ?_
  refine lv_iload_n S.1 S.2.1 dX0_unstable_10 rfl (lv_at hl 0 rfl) ?_
  refine lv_aload_n S.1 S.2.1 dX0_unstable_11 rfl (lv_at hl 1 rfl) ?_
  refine lv_iload_n S.1 S.2.1 dX0_unstable_12 rfl (lv_at hl 0 rfl) ?_
  refine lv_iload_n S.1 S.2.1 dX0_unstable_13 rfl (lv_at hl 3 rfl) ?_
  refine sd_callXi (nn := 2) (as := [.int (nI a), .int a2]) (rest := [.int (nI a), .ref h]) (wr := [sd_ar h d 2048 f]) S (sd_x_to l D q h d k hk a ha1 a2) (lw_V q56 q58 qs1 q4 q59) (by decide +kernel) rfl ⟨Nat.le_of_ble_eq_true rfl, Nat.le_of_ble_eq_true rfl⟩ ⟨Nat.le_of_ble_eq_true rfl, Nat.le_of_ble_eq_true rfl⟩ hcs hG hA 0 rfl [0] [1] rfl rfl rfl rfl rfl (by decide) 0 rfl rfl rfl hl.1 rfl (Nat.le_of_ble_eq_true rfl) dX0_unstable_14 (fun r u H locs er hG => ?_)
  have hG : sd_G D A s.heap s [(d, .int)] [(q, .inr (0, [.ref h, .int (nI k)])), sd_ar h d 2048 f] H locs := sd_Gsub hG [1, 0] (by decide) rfl rfl
  obtain ⟨b, hb⟩ : ∃ y, y = sd_to k a a2 := ⟨_, rfl⟩
  rw [← hb] at er
  subst er
  have hb1 : a ≤ b ∧ b ≤ k := by rw [hb]; exact sd_toLe ha1
  refine sd_callw (nn := 3) (rest := []) S (sd_unstableSort l D h d 2048 f a b hb1.1 (by omega) (Nat.le_refl _)) (lw_S q122 q123 q6 q124) (by decide +kernel) rfl ⟨Nat.le_of_ble_eq_true rfl, Nat.le_of_ble_eq_true rfl⟩ ⟨Nat.le_of_ble_eq_true rfl, Nat.le_of_ble_eq_true rfl⟩ hG hA 1 0 rfl rfl hl.1 rfl (Nat.le_of_ble_eq_true rfl) dX0_unstable_17 (fun f' H locs ef' hG => ?_)
  have hG : sd_G D A s.heap s [(d, .int)] [(q, .inr (0, [.ref h, .int (nI k)])), sd_ar h d 2048 f'] H locs := hG
  rw [← ha, ← hb] at ret
  exact ret _ _ _ _ (k, f') dX0_unstable_20 hG ⟨rfl, ef'⟩
set_option maxHeartbeats 4000000 in
set_option maxRecDepth 100000 in
/-- reverse(from, count) -/
theorem sd_x_reverse (l : Launch) (D : va_G) (q h : Nat) (d : ClassId) (k : Nat) (f : Nat → Int32) (hk : k ≤ 2048) (a1 a2 : Int32) : sd_Xv l yX0_reverse cX0_reverse 4 1 25 0 0 D d (sd_w q h d k f) (sd_wf q h d) [.ref q, .int a1, .int a2] (fun u => u.1 = k ∧ sd_Rev u.2 f (sd_fr k a1) (sd_to k (sd_fr k a1) a2)) := by
  refine sd_Xv.of (by decide) (Nat.le_of_ble_eq_true rfl) ?_
  intro p e s m below meth c A ls Q S hin hcs hA hG hl ret
  have hl : lv_has ls 4 [(0, .ref q), (1, .int a1), (2, .int a2)] := hl
  refine lv_aload_n S.1 S.2.1 dX0_reverse_0 rfl (lv_at hl 0 rfl) ?_
  refine lv_iload_n S.1 S.2.1 dX0_reverse_1 rfl (lv_at hl 1 rfl) ?_
  refine sd_callXi (nn := 1) (as := [.int a1]) (rest := []) (wr := [sd_ar h d 2048 f]) S (sd_x_from l D q h d k hk a1) (lw_V q52 q54 qs0 q4 q55) (by decide +kernel) rfl ⟨Nat.le_of_ble_eq_true rfl, Nat.le_of_ble_eq_true rfl⟩ ⟨Nat.le_of_ble_eq_true rfl, Nat.le_of_ble_eq_true rfl⟩ hcs hG hA 0 rfl [0] [1] rfl rfl rfl rfl rfl (by decide) 0 rfl rfl rfl hl.1 rfl (Nat.le_of_ble_eq_true rfl) dX0_reverse_2 (fun r u H locs er hG => ?_)
  have hG : sd_G D A s.heap s [(d, .int)] [(q, .inr (0, [.ref h, .int (nI k)])), sd_ar h d 2048 f] H locs := sd_Gsub hG [1, 0] (by decide) rfl rfl
  obtain ⟨a, ha⟩ : ∃ y, y = sd_fr k a1 := ⟨_, rfl⟩
  rw [← ha] at er
  subst er
  have ha1 : a ≤ k := by rw [ha]; exact sd_frLe
  refine lv_istore_n (lv' := [(3, .int (nI a)), (0, .ref q), (1, .int a1), (2, .int a2)]) S.1 S.2.1 dX0_reverse_5 rfl hl (by decide) rfl (fun ls hl => ?_)
  refine lv_aload_n S.1 S.2.1 dX0_reverse_6 rfl (lv_at hl 1 rfl) ?_
  refine va_get (D := D) (ci := 0) (v := .ref h) (C := RX0) (T := TX0) (N := 2) S.1 S.2.1 S.2.2.2.2 in_X0 S.2.2.2.1 hG.1 hG.2.1 0 rfl rfl 0 (by decide) (S.2.2.2.2 _ q19) (fun _ h9 => h9) rfl dX0_reverse_7 ?_
  refine lv_iload_n S.1 S.2.1 dX0_reverse_10 rfl (lv_at hl 0 rfl) ?_
  refine lv_aload_n S.1 S.2.1 dX0_reverse_11 rfl (lv_at hl 1 rfl) ?_
  refine lv_iload_n S.1 S.2.1 dX0_reverse_12 rfl (lv_at hl 0 rfl) ?_
  refine lv_iload_n S.1 S.2.1 dX0_reverse_13 rfl (lv_at hl 3 rfl) ?_
  refine sd_callXi (nn := 2) (as := [.int (nI a), .int a2]) (rest := [.int (nI a), .ref h]) (wr := [sd_ar h d 2048 f]) S (sd_x_to l D q h d k hk a ha1 a2) (lw_V q56 q58 qs1 q4 q59) (by decide +kernel) rfl ⟨Nat.le_of_ble_eq_true rfl, Nat.le_of_ble_eq_true rfl⟩ ⟨Nat.le_of_ble_eq_true rfl, Nat.le_of_ble_eq_true rfl⟩ hcs hG hA 0 rfl [0] [1] rfl rfl rfl rfl rfl (by decide) 0 rfl rfl rfl hl.1 rfl (Nat.le_of_ble_eq_true rfl) dX0_reverse_14 (fun r u H locs er hG => ?_)
  have hG : sd_G D A s.heap s [(d, .int)] [(q, .inr (0, [.ref h, .int (nI k)])), sd_ar h d 2048 f] H locs := sd_Gsub hG [1, 0] (by decide) rfl rfl
  obtain ⟨b, hb⟩ : ∃ y, y = sd_to k a a2 := ⟨_, rfl⟩
  rw [← hb] at er
  subst er
  have hb1 : a ≤ b ∧ b ≤ k := by rw [hb]; exact sd_toLe ha1
  refine sd_callr (nn := 3) (rest := []) S (sd_reverse l D h d 2048 f a b hb1.1 (by omega) (by omega)) (lw_S q130 q131 q6 q132) (by decide +kernel) rfl ⟨Nat.le_of_ble_eq_true rfl, Nat.le_of_ble_eq_true rfl⟩ ⟨Nat.le_of_ble_eq_true rfl, Nat.le_of_ble_eq_true rfl⟩ hG hA 1 0 rfl rfl hl.1 rfl (Nat.le_of_ble_eq_true rfl) dX0_reverse_17 (fun f' H locs ef' hG => ?_)
  have hG : sd_G D A s.heap s [(d, .int)] [(q, .inr (0, [.ref h, .int (nI k)])), sd_ar h d 2048 f'] H locs := hG
  refine lv_pop S.1 S.2.1 dX0_reverse_20 rfl ?_
  rw [← ha, ← hb] at ret
  exact ret _ _ _ _ (k, f') dX0_reverse_21 hG ⟨rfl, ef'⟩
set_option maxHeartbeats 4000000 in
set_option maxRecDepth 100000 in
theorem sd_x_find_loop {p : Program} {l : Launch} {e : Env} {R : Room} {s : State} {m : MethodId} {args : Array Value} {below : List Frame} {meth : Method} {c : Code} {Q : State → Prop} {cells slots : Nat} {D : va_G} {A : Nat → Prop} {H0 : Heap} {q h : Nat} {d : ClassId} {f : Nat → Int32} {H : Heap} {locs : List Loc} (k a b : Nat) (key : Int32) (hab : a ≤ b) (hb : b ≤ 2048) (S : CallFix p m c cX0_find 7 s args lw_all RX0) (hG : sd_G D A H0 s [(d, .int)] (sd_w q h d k f) H locs)
    (K1 : ∀ (ls : Array Slot), ¬ sd_As f a b → W p l e R s m args below meth c H locs cells slots Q (F0 m 50 ls [.int (-1000000)]))
    (K2 : ∀ (ls : Array Slot), sd_As f a b → lv_has ls 7 [(0, .ref q), (3, .int key), (4, .int (nI a)), (5, .int (nI b))] → W p l e R s m args below meth c H locs cells slots Q (F0 m 57 ls [])) :
    ∀ (z i : Nat), a < i → (i ≤ b ∨ i = a + 1) → (∀ j, a ≤ j → j + 1 < i → (f j).toInt < (f (j + 1)).toInt) → b + 1 - i < z → ∀ (ls : Array Slot), lv_has ls 7 [(0, .ref q), (3, .int key), (4, .int (nI a)), (5, .int (nI b)), (6, .int (nI i))] → W p l e R s m args below meth c H locs cells slots Q (F0 m 22 ls []) := by
  intro z
  induction z with
  | zero => intro i h1 h2 h3 h4; exact absurd h4 (Nat.not_lt_zero _)
  | succ z ih =>
    intro i h1 h2 h3 h4 ls hl
    refine lv_iload S.1 S.2.1 dX0_find_22 (lv_at hl 4 rfl) ?_
    refine lv_iload S.1 S.2.1 dX0_find_24 (lv_at hl 3 rfl) ?_
    refine sd_ge (tgt := 57) S.1 S.2.1 dX0_find_26 (by decide) (sd_nT (by omega)) (sd_nT (by omega)) (fun c1 => ?_) (fun c1 => ?_)
    · exact K2 ls (fun j q1 q2 => h3 j q1 (by omega)) (lv_sub hl [0, 1, 2, 3] rfl)
    · refine lv_aload_n S.1 S.2.1 dX0_find_29 rfl (lv_at hl 0 rfl) ?_
      refine va_get (D := D) (ci := 0) (v := .ref h) (C := RX0) (T := TX0) (N := 2) S.1 S.2.1 S.2.2.2.2 in_X0 S.2.2.2.1 hG.1 hG.2.1 0 rfl rfl 0 (by decide) (S.2.2.2.2 _ q19) (fun _ h9 => h9) rfl dX0_find_30 ?_
      refine lv_iload S.1 S.2.1 dX0_find_33 (lv_at hl 4 rfl) ?_
      refine lv_iconst (v := nI 1) S.1 S.2.1 dX0_find_35 (by decide +kernel) ?_
      refine sd_isub S.1 S.2.1 (by omega) dX0_find_36 ?_
      refine sd_iald S.1 S.2.1 hG 1 0 rfl rfl (by omega) (by omega) dX0_find_37 ?_
      refine lv_aload_n S.1 S.2.1 dX0_find_38 rfl (lv_at hl 0 rfl) ?_
      refine va_get (D := D) (ci := 0) (v := .ref h) (C := RX0) (T := TX0) (N := 2) S.1 S.2.1 S.2.2.2.2 in_X0 S.2.2.2.1 hG.1 hG.2.1 0 rfl rfl 0 (by decide) (S.2.2.2.2 _ q19) (fun _ h9 => h9) rfl dX0_find_39 ?_
      refine lv_iload S.1 S.2.1 dX0_find_42 (lv_at hl 4 rfl) ?_
      refine sd_iald S.1 S.2.1 hG 1 0 rfl rfl (by omega) (by omega) dX0_find_44 ?_
      refine sd_lt (tgt := 51) S.1 S.2.1 dX0_find_45 (by decide) rfl rfl (fun c2 => ?_) (fun c2 => ?_)
      · refine lv_iinc (v := nI (i + 1)) (lv' := [(6, .int (nI (i + 1))), (0, .ref q), (3, .int key), (4, .int (nI a)), (5, .int (nI b))]) S.1 S.2.1 dX0_find_51 hl (k := 4) rfl (sd_i1 _) (by decide) rfl (fun ls hl => ?_)
        refine lv_goto (tgt := 22) S.1 S.2.1 dX0_find_54 (by decide) ?_
        refine ih (i + 1) (by omega) (by omega) (fun j q1 q2 => ?_) (by omega) ls (lv_sub hl [1, 2, 3, 4, 0] rfl)
        by_cases e9 : j + 1 = i
        · rw [e9, show j = i - 1 by omega]; exact c2
        · exact h3 j q1 (by omega)
      · refine lv_ldc (v := (-1000000)) S.1 S.2.1 S.2.2.2.1 (S.2.2.2.2 _ q137) dX0_find_48 ?_
        refine K1 ls (fun hs => ?_)
        have e9 := hs (i - 1) (by omega) (by omega)
        rw [show i - 1 + 1 = i by omega] at e9
        omega
set_option maxHeartbeats 4000000 in
set_option maxRecDepth 100000 in
/-- find(from, count, key) -/
theorem sd_x_find (l : Launch) (D : va_G) (q h : Nat) (d : ClassId) (k : Nat) (f : Nat → Int32) (hk : k ≤ 2048) (a1 a2 key : Int32) : sd_Xi l yX0_find cX0_find 7 .int 1 25 0 0 D d (sd_w q h d k f) (sd_wf q h d) [.ref q, .int a1, .int a2, .int key] (fun r u => sd_Fd f (sd_fr k a1) (sd_to k (sd_fr k a1) a2) key r ∧ u = (k, f)) := by
  refine sd_Xi.of (by decide) (Nat.le_of_ble_eq_true rfl) ?_
  intro p e s m below meth c A ls Q S hcs hA hG hl ret
  have hl : lv_has ls 7 [(0, .ref q), (1, .int a1), (2, .int a2), (3, .int key)] := hl
  refine lv_aload_n S.1 S.2.1 dX0_find_0 rfl (lv_at hl 0 rfl) ?_
  refine lv_iload_n S.1 S.2.1 dX0_find_1 rfl (lv_at hl 1 rfl) ?_
  refine sd_callXi (nn := 1) (as := [.int a1]) (rest := []) (wr := [sd_ar h d 2048 f]) S (sd_x_from l D q h d k hk a1) (lw_V q52 q54 qs0 q4 q55) (by decide +kernel) rfl ⟨Nat.le_of_ble_eq_true rfl, Nat.le_of_ble_eq_true rfl⟩ ⟨Nat.le_of_ble_eq_true rfl, Nat.le_of_ble_eq_true rfl⟩ hcs hG hA 0 rfl [0] [1] rfl rfl rfl rfl rfl (by decide) 0 rfl rfl rfl hl.1 rfl (Nat.le_of_ble_eq_true rfl) dX0_find_2 (fun r u H locs er hG => ?_)
  have hG : sd_G D A s.heap s [(d, .int)] [(q, .inr (0, [.ref h, .int (nI k)])), sd_ar h d 2048 f] H locs := sd_Gsub hG [1, 0] (by decide) rfl rfl
  obtain ⟨a, ha⟩ : ∃ y, y = sd_fr k a1 := ⟨_, rfl⟩
  rw [← ha] at er
  subst er
  have ha1 : a ≤ k := by rw [ha]; exact sd_frLe
  refine lv_istore (lv' := [(4, .int (nI a)), (0, .ref q), (1, .int a1), (2, .int a2), (3, .int key)]) S.1 S.2.1 dX0_find_5 hl (by decide) rfl (fun ls hl => ?_)
  refine lv_aload_n S.1 S.2.1 dX0_find_7 rfl (lv_at hl 1 rfl) ?_
  refine lv_iload S.1 S.2.1 dX0_find_8 (lv_at hl 0 rfl) ?_
  refine lv_iload_n S.1 S.2.1 dX0_find_10 rfl (lv_at hl 3 rfl) ?_
  refine sd_callXi (nn := 2) (as := [.int (nI a), .int a2]) (rest := []) (wr := [sd_ar h d 2048 f]) S (sd_x_to l D q h d k hk a ha1 a2) (lw_V q56 q58 qs1 q4 q59) (by decide +kernel) rfl ⟨Nat.le_of_ble_eq_true rfl, Nat.le_of_ble_eq_true rfl⟩ ⟨Nat.le_of_ble_eq_true rfl, Nat.le_of_ble_eq_true rfl⟩ hcs hG hA 0 rfl [0] [1] rfl rfl rfl rfl rfl (by decide) 0 rfl rfl rfl hl.1 rfl (Nat.le_of_ble_eq_true rfl) dX0_find_11 (fun r u H locs er hG => ?_)
  have hG : sd_G D A s.heap s [(d, .int)] [(q, .inr (0, [.ref h, .int (nI k)])), sd_ar h d 2048 f] H locs := sd_Gsub hG [1, 0] (by decide) rfl rfl
  obtain ⟨b, hb⟩ : ∃ y, y = sd_to k a a2 := ⟨_, rfl⟩
  rw [← hb] at er
  subst er
  have hb1 : a ≤ b ∧ b ≤ k := by rw [hb]; exact sd_toLe ha1
  refine lv_istore (lv' := [(5, .int (nI b)), (4, .int (nI a)), (0, .ref q), (1, .int a1), (2, .int a2), (3, .int key)]) S.1 S.2.1 dX0_find_14 hl (by decide) rfl (fun ls hl => ?_)
  refine lv_iload S.1 S.2.1 dX0_find_16 (lv_at hl 1 rfl) ?_
  refine lv_iconst (v := nI 1) S.1 S.2.1 dX0_find_18 (by decide +kernel) ?_
  refine sd_iadd S.1 S.2.1 dX0_find_19 ?_
  refine lv_istore (lv' := [(6, .int (nI (a + 1))), (5, .int (nI b)), (4, .int (nI a)), (0, .ref q), (1, .int a1), (2, .int a2), (3, .int key)]) S.1 S.2.1 dX0_find_20 hl (by decide) rfl (fun ls hl => ?_)
  rw [← ha, ← hb] at ret
  refine sd_x_find_loop k a b key hb1.1 (by omega) S hG (fun ls hs => ?_) (fun ls hs hl => ?_) (b + 2) (a + 1) (by omega) (Or.inr rfl) (fun j q1 q2 => absurd q2 (by omega)) (by omega) ls (lv_sub hl [3, 6, 2, 1, 0] rfl)
  · exact ret _ _ _ _ _ (k, f) dX0_find_50 (sd_nwi _) hG ⟨Or.inl ⟨hs, rfl⟩, rfl⟩
  · refine lv_aload_n S.1 S.2.1 dX0_find_57 rfl (lv_at hl 0 rfl) ?_
    refine va_get (D := D) (ci := 0) (v := .ref h) (C := RX0) (T := TX0) (N := 2) S.1 S.2.1 S.2.2.2.2 in_X0 S.2.2.2.1 hG.1 hG.2.1 0 rfl rfl 0 (by decide) (S.2.2.2.2 _ q19) (fun _ h9 => h9) rfl dX0_find_58 ?_
    refine lv_iload S.1 S.2.1 dX0_find_61 (lv_at hl 2 rfl) ?_
    refine lv_iload S.1 S.2.1 dX0_find_63 (lv_at hl 3 rfl) ?_
    refine lv_iload_n S.1 S.2.1 dX0_find_65 rfl (lv_at hl 1 rfl) ?_
    refine sd_calli (nn := 4) (rest := []) S (sd_binarySearch l D h d 2048 f a b key hb1.1 (by omega) (by omega) hs.srt) (lw_S q138 q139 q6 q140) (by decide +kernel) rfl ⟨Nat.le_of_ble_eq_true rfl, Nat.le_of_ble_eq_true rfl⟩ ⟨Nat.le_of_ble_eq_true rfl, Nat.le_of_ble_eq_true rfl⟩ hG hA 1 0 rfl rfl hl.1 rfl (Nat.le_of_ble_eq_true rfl) dX0_find_66 (fun r f' H locs er hG => ?_)
    have hG : sd_G D A s.heap s [(d, .int)] [(q, .inr (0, [.ref h, .int (nI k)])), sd_ar h d 2048 f'] H locs := hG
    obtain ⟨rfl, er⟩ := er
    exact ret _ _ _ _ _ (k, f') dX0_find_69 (sd_nwi _) hG ⟨Or.inr ⟨hs, er⟩, rfl⟩
set_option maxHeartbeats 4000000 in
set_option maxRecDepth 100000 in
/-- SortDesk() -/
theorem sd_x_init (l : Launch) (D : va_G) (q : Nat) (d : ClassId) : sd_Xv l yX0_init cX0_init 1 1 12 1 2048 D d [(q, .inr (0, [.null, .int 0]))] (fun h : Nat => sd_w q h d 0 (fun _ => 0)) [.ref q] (fun _ => True) := by
  refine sd_Xv.of (by decide) (Nat.le_of_ble_eq_true rfl) ?_
  intro p e s m below meth c A ls Q S hin hcs hA hG hl ret
  have hl : lv_has ls 1 [(0, .ref q)] := hl
  refine lv_aload_n S.1 S.2.1 dX0_init_0 rfl (lv_at hl 0 rfl) ?_
  refine W.objInit S.1 S.2.1 S.2.2.2.1 (S.2.2.2.2 _ q16) (S.2.2.2.2 _ q17) (S.2.2.2.2 _ q18) rfl (by rw [S.2.2.1]; exact hl.1) rfl dX0_init_1 (Nat.le_of_ble_eq_true rfl) (Nat.le_of_ble_eq_true rfl) ?_
  refine W.eq (g2 := F0 m 4 ls []) rfl ?_
  refine lv_aload_n S.1 S.2.1 dX0_init_4 rfl (lv_at hl 0 rfl) ?_
  refine lv_sipush (v := nI 2048) S.1 S.2.1 dX0_init_5 (by decide +kernel) ?_
  refine sd_newa S hG hA 0 rfl (Nat.le_refl _) ⟨Nat.le_of_ble_eq_true rfl, Nat.le_of_ble_eq_true rfl⟩ dX0_init_8 (fun h H hG => ?_)
  have hG : sd_G D A s.heap s [(d, .int)] [(q, .inr (0, [.null, .int 0])), sd_ar h d 2048 (fun _ => 0)] H [] := hG
  refine va_putF (D := D) (ci := 0) (v := .ref h) (ty := .array .int) (C := RX0) (T := TX0) (N := 2) S.1 S.2.1 S.2.2.2.2 in_X0 tyX0 tyX0_ok nmX0 S.2.2.2.1 hG.1 hG.2.1 hG.2.2.1 hG.2.2.2 0 rfl rfl 0 (by decide) (S.2.2.2.2 _ q19) (fun _ h9 => h9) rfl hin rfl (by decide +kernel) rfl rfl (Nat.le_of_ble_eq_true rfl) dX0_init_10 (fun H locs hP hD hS => ?_)
  have hG : sd_G D A s.heap s [(d, .int)] [(q, .inr (0, [.ref h, .int 0])), sd_ar h d 2048 (fun _ => 0)] H locs := ⟨hG.1, hP, hD, hS⟩
  exact ret _ _ _ _ h dX0_init_13 hG trivial
end
section
/-- SortDeskModel's world: the desk at q with k ints in its row h, and its second row h2 -/
abbrev sd_wm (q h hq : Nat) (d : ClassId) (k : Nat) (f o : Nat → Int32) : va_W := [(q, .inr (1, [.ref h, .ref hq, .int (nI k)])), sd_ar h d 2048 f, sd_ar hq d 2048 o]
abbrev sd_wmf (q h hq : Nat) (d : ClassId) (u : Nat × (Nat → Int32) × (Nat → Int32)) : va_W := sd_wm q h hq d u.1 u.2.1 u.2.2
set_option maxHeartbeats 4000000 in
set_option maxRecDepth 100000 in
/-- size() -/
theorem sd_y_size (l : Launch) (D : va_G) (q h hq : Nat) (d : ClassId) (k : Nat) (f o : Nat → Int32) (hk : k ≤ 2048) : sd_Xi l yX1_size cX1_size 1 .int 0 0 0 0 D d (sd_wm q h hq d k f o) (sd_wmf q h hq d) [.ref q] (fun r u => r = nI k ∧ u = (k, f, o)) := by
  refine sd_Xi.of (by decide) (Nat.le_of_ble_eq_true rfl) ?_
  intro p e s m below meth c A ls Q S hcs hA hG hl ret
  have hl : lv_has ls 1 [(0, .ref q)] := hl
  refine lv_aload_n S.1 S.2.1 dX1_size_0 rfl (lv_at hl 0 rfl) ?_
  refine va_get (D := D) (ci := 1) (v := .int (nI k)) (C := RX1) (T := TX1) (N := 3) S.1 S.2.1 S.2.2.2.2 in_X1 S.2.2.2.1 hG.1 hG.2.1 0 rfl rfl 2 (by decide) (S.2.2.2.2 _ q149) (fun _ h9 => h9) rfl dX1_size_1 ?_
  exact ret _ _ _ _ _ (k, f, o) dX1_size_4 (sd_nwi _) hG ⟨rfl, rfl⟩
set_option maxHeartbeats 4000000 in
set_option maxRecDepth 100000 in
/-- at(i) -/
theorem sd_y_at (l : Launch) (D : va_G) (q h hq : Nat) (d : ClassId) (k : Nat) (f o : Nat → Int32) (hk : k ≤ 2048) (i : Int32) : sd_Xi l yX1_at cX1_at 2 .int 0 0 0 0 D d (sd_wm q h hq d k f o) (sd_wmf q h hq d) [.ref q, .int i] (fun r u => ((k = 0 ∧ r = nI 0) ∨ (0 < k ∧ r = f (sd_u i % k))) ∧ u = (k, f, o)) := by
  refine sd_Xi.of (by decide) (Nat.le_of_ble_eq_true rfl) ?_
  intro p e s m below meth c A ls Q S hcs hA hG hl ret
  have hl : lv_has ls 2 [(0, .ref q), (1, .int i)] := hl
  refine lv_aload_n S.1 S.2.1 dX1_at_0 rfl (lv_at hl 0 rfl) ?_
  refine va_get (D := D) (ci := 1) (v := .int (nI k)) (C := RX1) (T := TX1) (N := 3) S.1 S.2.1 S.2.2.2.2 in_X1 S.2.2.2.1 hG.1 hG.2.1 0 rfl rfl 2 (by decide) (S.2.2.2.2 _ q149) (fun _ h9 => h9) rfl dX1_at_1 ?_
  refine sd_zne (tgt := 11) S.1 S.2.1 dX1_at_4 (by decide) (sd_nT (by omega)) (fun c1 => ?_) (fun c1 => ?_)
  · refine lv_aload_n S.1 S.2.1 dX1_at_11 rfl (lv_at hl 0 rfl) ?_
    refine va_get (D := D) (ci := 1) (v := .ref h) (C := RX1) (T := TX1) (N := 3) S.1 S.2.1 S.2.2.2.2 in_X1 S.2.2.2.1 hG.1 hG.2.1 0 rfl rfl 0 (by decide) (S.2.2.2.2 _ q147) (fun _ h9 => h9) rfl dX1_at_12 ?_
    refine lv_iload_n S.1 S.2.1 dX1_at_15 rfl (lv_at hl 1 rfl) ?_
    refine lv_ldc (v := 2147483647) S.1 S.2.1 S.2.2.2.1 (S.2.2.2.2 _ q165) dX1_at_16 ?_
    refine sd_iand S.1 S.2.1 dX1_at_18 ?_
    refine lv_aload_n S.1 S.2.1 dX1_at_19 rfl (lv_at hl 0 rfl) ?_
    refine va_get (D := D) (ci := 1) (v := .int (nI k)) (C := RX1) (T := TX1) (N := 3) S.1 S.2.1 S.2.2.2.2 in_X1 S.2.2.2.1 hG.1 hG.2.1 0 rfl rfl 2 (by decide) (S.2.2.2.2 _ q149) (fun _ h9 => h9) rfl dX1_at_20 ?_
    refine sd_irem S.1 S.2.1 (sd_uLt _) (by omega) (by omega) dX1_at_23 ?_
    have hm := Nat.mod_lt (sd_u i) (show 0 < k by omega)
    refine sd_iald S.1 S.2.1 hG 1 0 rfl rfl (by omega) (by omega) dX1_at_24 ?_
    exact ret _ _ _ _ _ (k, f, o) dX1_at_25 (sd_nwi _) hG ⟨Or.inr ⟨by omega, rfl⟩, rfl⟩
  · refine lv_iconst (v := nI 0) S.1 S.2.1 dX1_at_7 (by decide +kernel) ?_
    refine lv_goto (tgt := 25) S.1 S.2.1 dX1_at_8 (by decide) ?_
    exact ret _ _ _ _ _ (k, f, o) dX1_at_25 (sd_nwi _) hG ⟨Or.inl ⟨by omega, rfl⟩, rfl⟩
set_option maxHeartbeats 4000000 in
set_option maxRecDepth 100000 in
/-- trim(n) -/
theorem sd_y_trim (l : Launch) (D : va_G) (q h hq : Nat) (d : ClassId) (k : Nat) (f o : Nat → Int32) (hk : k ≤ 2048) (i : Int32) : sd_Xv l yX1_trim cX1_trim 2 0 0 0 0 D d (sd_wm q h hq d k f o) (sd_wmf q h hq d) [.ref q, .int i] (fun u => u = (sd_u i % (k + 1), f, o)) := by
  refine sd_Xv.of (by decide) (Nat.le_of_ble_eq_true rfl) ?_
  intro p e s m below meth c A ls Q S hin hcs hA hG hl ret
  have hl : lv_has ls 2 [(0, .ref q), (1, .int i)] := hl
  refine lv_aload_n S.1 S.2.1 dX1_trim_0 rfl (lv_at hl 0 rfl) ?_
  refine lv_iload_n S.1 S.2.1 dX1_trim_1 rfl (lv_at hl 1 rfl) ?_
  refine lv_ldc (v := 2147483647) S.1 S.2.1 S.2.2.2.1 (S.2.2.2.2 _ q165) dX1_trim_2 ?_
  refine sd_iand S.1 S.2.1 dX1_trim_4 ?_
  refine lv_aload_n S.1 S.2.1 dX1_trim_5 rfl (lv_at hl 0 rfl) ?_
  refine va_get (D := D) (ci := 1) (v := .int (nI k)) (C := RX1) (T := TX1) (N := 3) S.1 S.2.1 S.2.2.2.2 in_X1 S.2.2.2.1 hG.1 hG.2.1 0 rfl rfl 2 (by decide) (S.2.2.2.2 _ q149) (fun _ h9 => h9) rfl dX1_trim_6 ?_
  refine lv_iconst (v := nI 1) S.1 S.2.1 dX1_trim_9 (by decide +kernel) ?_
  refine sd_iadd S.1 S.2.1 dX1_trim_10 ?_
  refine sd_irem S.1 S.2.1 (sd_uLt _) (by omega) (by omega) dX1_trim_11 ?_
  refine va_put (D := D) (ci := 1) (v := .int (nI ((sd_u i) % (k + 1)))) (ty := .int) (C := RX1) (T := TX1) (N := 3) S.1 S.2.1 S.2.2.2.2 in_X1 tyX1 tyX1_ok nmX1 S.2.2.2.1 hG.1 hG.2.1 hG.2.2.1 hG.2.2.2 0 rfl rfl 2 (by decide) (S.2.2.2.2 _ q149) (fun _ h9 => h9) rfl (by decide +kernel) rfl rfl (Nat.le_of_ble_eq_true rfl) dX1_trim_12 (fun H locs hP hD hS => ?_)
  have hG : sd_G D A s.heap s [(d, .int)] [(q, .inr (1, [.ref h, .ref hq, .int (nI ((sd_u i) % (k + 1)))])), sd_ar h d 2048 f, sd_ar hq d 2048 o] H locs := ⟨hG.1, hP, hD, hS⟩
  exact ret _ _ _ _ (sd_u i % (k + 1), f, o) dX1_trim_15 hG rfl
set_option maxHeartbeats 4000000 in
set_option maxRecDepth 100000 in
/-- put(a, b, c, d) -/
theorem sd_y_put (l : Launch) (D : va_G) (q h hq : Nat) (d : ClassId) (k : Nat) (f o : Nat → Int32) (hk : k ≤ 2048) (a1 a2 a3 a4 : Int32) : sd_Xi l yX1_put cX1_put 6 .boolean 0 0 0 0 D d (sd_wm q h hq d k f o) (sd_wmf q h hq d) [.ref q, .int a1, .int a2, .int a3, .int a4] (fun r u => (2044 < k ∧ r = nI 0 ∧ u = (k, f, o)) ∨ (k ≤ 2044 ∧ r = nI 1 ∧ u = (k + 4, sd_p4 f k a1 a2 a3 a4, o))) := by
  refine sd_Xi.of (by decide) (Nat.le_of_ble_eq_true rfl) ?_
  intro p e s m below meth c A ls Q S hcs hA hG hl ret
  have hl : lv_has ls 6 [(0, .ref q), (1, .int a1), (2, .int a2), (3, .int a3), (4, .int a4)] := hl
  refine lv_aload_n S.1 S.2.1 dX1_put_0 rfl (lv_at hl 0 rfl) ?_
  refine va_get (D := D) (ci := 1) (v := .int (nI k)) (C := RX1) (T := TX1) (N := 3) S.1 S.2.1 S.2.2.2.2 in_X1 S.2.2.2.1 hG.1 hG.2.1 0 rfl rfl 2 (by decide) (S.2.2.2.2 _ q149) (fun _ h9 => h9) rfl dX1_put_1 ?_
  refine lv_iconst (v := nI 4) S.1 S.2.1 dX1_put_4 (by decide +kernel) ?_
  refine sd_iadd S.1 S.2.1 dX1_put_5 ?_
  refine lv_sipush (v := nI 2048) S.1 S.2.1 dX1_put_6 (by decide +kernel) ?_
  refine sd_le (tgt := 14) S.1 S.2.1 dX1_put_9 (by decide) (sd_nT (by omega)) (sd_nT (by omega)) (fun c1 => ?_) (fun c1 => ?_)
  · refine lv_iconst (v := nI 0) S.1 S.2.1 dX1_put_14 (by decide +kernel) ?_
    refine lv_istore (lv' := [(5, .int (nI 0)), (0, .ref q), (1, .int a1), (2, .int a2), (3, .int a3), (4, .int a4)]) S.1 S.2.1 dX1_put_15 hl (by decide) rfl (fun ls hl => ?_)
    refine lv_iload S.1 S.2.1 dX1_put_17 (lv_at hl 0 rfl) ?_
    refine lv_iconst (v := nI 4) S.1 S.2.1 dX1_put_19 (by decide +kernel) ?_
    refine sd_ge (tgt := 72) S.1 S.2.1 dX1_put_20 (by decide) (sd_nT (by omega)) (sd_nT (by omega)) (fun c2 => ?_) (fun c2 => ?_)
    · exact absurd c2 (by omega)
    · refine lv_aload_n S.1 S.2.1 dX1_put_23 rfl (lv_at hl 1 rfl) ?_
      refine va_get (D := D) (ci := 1) (v := .ref h) (C := RX1) (T := TX1) (N := 3) S.1 S.2.1 S.2.2.2.2 in_X1 S.2.2.2.1 hG.1 hG.2.1 0 rfl rfl 0 (by decide) (S.2.2.2.2 _ q147) (fun _ h9 => h9) rfl dX1_put_24 ?_
      refine lv_aload_n S.1 S.2.1 dX1_put_27 rfl (lv_at hl 1 rfl) ?_
      refine va_get (D := D) (ci := 1) (v := .int (nI k)) (C := RX1) (T := TX1) (N := 3) S.1 S.2.1 S.2.2.2.2 in_X1 S.2.2.2.1 hG.1 hG.2.1 0 rfl rfl 2 (by decide) (S.2.2.2.2 _ q149) (fun _ h9 => h9) rfl dX1_put_28 ?_
      refine lv_iload S.1 S.2.1 dX1_put_31 (lv_at hl 0 rfl) ?_
      refine sd_iadd S.1 S.2.1 dX1_put_33 ?_
      refine lv_iload S.1 S.2.1 dX1_put_34 (lv_at hl 0 rfl) ?_
      refine sd_zne (tgt := 43) S.1 S.2.1 dX1_put_36 (by decide) (sd_nT (by omega)) (fun c2 => ?_) (fun c2 => ?_)
      · exact absurd c2 (by omega)
      · refine lv_iload_n S.1 S.2.1 dX1_put_39 rfl (lv_at hl 2 rfl) ?_
        refine lv_goto (tgt := 65) S.1 S.2.1 dX1_put_40 (by decide) ?_
        refine sd_iast S.1 S.2.1 hG 1 0 rfl rfl (by omega) (by omega) dX1_put_65 (fun H locs hG => ?_)
        have hG : sd_G D A s.heap s [(d, .int)] [(q, .inr (1, [.ref h, .ref hq, .int (nI k)])), sd_ar h d 2048 (upd f (k + 0) a1), sd_ar hq d 2048 o] H locs := hG
        refine lv_iinc (v := nI 1) (lv' := [(5, .int (nI 1)), (0, .ref q), (1, .int a1), (2, .int a2), (3, .int a3), (4, .int a4)]) S.1 S.2.1 dX1_put_66 hl (k := 0) rfl (sd_i1 _) (by decide) rfl (fun ls hl => ?_)
        refine lv_goto (tgt := 17) S.1 S.2.1 dX1_put_69 (by decide) ?_
        refine lv_iload S.1 S.2.1 dX1_put_17 (lv_at hl 0 rfl) ?_
        refine lv_iconst (v := nI 4) S.1 S.2.1 dX1_put_19 (by decide +kernel) ?_
        refine sd_ge (tgt := 72) S.1 S.2.1 dX1_put_20 (by decide) (sd_nT (by omega)) (sd_nT (by omega)) (fun c2 => ?_) (fun c2 => ?_)
        · exact absurd c2 (by omega)
        · refine lv_aload_n S.1 S.2.1 dX1_put_23 rfl (lv_at hl 1 rfl) ?_
          refine va_get (D := D) (ci := 1) (v := .ref h) (C := RX1) (T := TX1) (N := 3) S.1 S.2.1 S.2.2.2.2 in_X1 S.2.2.2.1 hG.1 hG.2.1 0 rfl rfl 0 (by decide) (S.2.2.2.2 _ q147) (fun _ h9 => h9) rfl dX1_put_24 ?_
          refine lv_aload_n S.1 S.2.1 dX1_put_27 rfl (lv_at hl 1 rfl) ?_
          refine va_get (D := D) (ci := 1) (v := .int (nI k)) (C := RX1) (T := TX1) (N := 3) S.1 S.2.1 S.2.2.2.2 in_X1 S.2.2.2.1 hG.1 hG.2.1 0 rfl rfl 2 (by decide) (S.2.2.2.2 _ q149) (fun _ h9 => h9) rfl dX1_put_28 ?_
          refine lv_iload S.1 S.2.1 dX1_put_31 (lv_at hl 0 rfl) ?_
          refine sd_iadd S.1 S.2.1 dX1_put_33 ?_
          refine lv_iload S.1 S.2.1 dX1_put_34 (lv_at hl 0 rfl) ?_
          refine sd_zne (tgt := 43) S.1 S.2.1 dX1_put_36 (by decide) (sd_nT (by omega)) (fun c2 => ?_) (fun c2 => ?_)
          · refine lv_iload S.1 S.2.1 dX1_put_43 (lv_at hl 0 rfl) ?_
            refine lv_iconst (v := nI 1) S.1 S.2.1 dX1_put_45 (by decide +kernel) ?_
            refine sd_ne (tgt := 53) S.1 S.2.1 dX1_put_46 (by decide) (sd_nT (by omega)) (sd_nT (by omega)) (fun c2 => ?_) (fun c2 => ?_)
            · exact absurd c2 (by omega)
            · refine lv_iload_n S.1 S.2.1 dX1_put_49 rfl (lv_at hl 3 rfl) ?_
              refine lv_goto (tgt := 65) S.1 S.2.1 dX1_put_50 (by decide) ?_
              refine sd_iast S.1 S.2.1 hG 1 0 rfl rfl (by omega) (by omega) dX1_put_65 (fun H locs hG => ?_)
              have hG : sd_G D A s.heap s [(d, .int)] [(q, .inr (1, [.ref h, .ref hq, .int (nI k)])), sd_ar h d 2048 (upd (upd f (k + 0) a1) (k + 1) a2), sd_ar hq d 2048 o] H locs := hG
              refine lv_iinc (v := nI 2) (lv' := [(5, .int (nI 2)), (0, .ref q), (1, .int a1), (2, .int a2), (3, .int a3), (4, .int a4)]) S.1 S.2.1 dX1_put_66 hl (k := 0) rfl (sd_i1 _) (by decide) rfl (fun ls hl => ?_)
              refine lv_goto (tgt := 17) S.1 S.2.1 dX1_put_69 (by decide) ?_
              refine lv_iload S.1 S.2.1 dX1_put_17 (lv_at hl 0 rfl) ?_
              refine lv_iconst (v := nI 4) S.1 S.2.1 dX1_put_19 (by decide +kernel) ?_
              refine sd_ge (tgt := 72) S.1 S.2.1 dX1_put_20 (by decide) (sd_nT (by omega)) (sd_nT (by omega)) (fun c2 => ?_) (fun c2 => ?_)
              · exact absurd c2 (by omega)
              · refine lv_aload_n S.1 S.2.1 dX1_put_23 rfl (lv_at hl 1 rfl) ?_
                refine va_get (D := D) (ci := 1) (v := .ref h) (C := RX1) (T := TX1) (N := 3) S.1 S.2.1 S.2.2.2.2 in_X1 S.2.2.2.1 hG.1 hG.2.1 0 rfl rfl 0 (by decide) (S.2.2.2.2 _ q147) (fun _ h9 => h9) rfl dX1_put_24 ?_
                refine lv_aload_n S.1 S.2.1 dX1_put_27 rfl (lv_at hl 1 rfl) ?_
                refine va_get (D := D) (ci := 1) (v := .int (nI k)) (C := RX1) (T := TX1) (N := 3) S.1 S.2.1 S.2.2.2.2 in_X1 S.2.2.2.1 hG.1 hG.2.1 0 rfl rfl 2 (by decide) (S.2.2.2.2 _ q149) (fun _ h9 => h9) rfl dX1_put_28 ?_
                refine lv_iload S.1 S.2.1 dX1_put_31 (lv_at hl 0 rfl) ?_
                refine sd_iadd S.1 S.2.1 dX1_put_33 ?_
                refine lv_iload S.1 S.2.1 dX1_put_34 (lv_at hl 0 rfl) ?_
                refine sd_zne (tgt := 43) S.1 S.2.1 dX1_put_36 (by decide) (sd_nT (by omega)) (fun c2 => ?_) (fun c2 => ?_)
                · refine lv_iload S.1 S.2.1 dX1_put_43 (lv_at hl 0 rfl) ?_
                  refine lv_iconst (v := nI 1) S.1 S.2.1 dX1_put_45 (by decide +kernel) ?_
                  refine sd_ne (tgt := 53) S.1 S.2.1 dX1_put_46 (by decide) (sd_nT (by omega)) (sd_nT (by omega)) (fun c2 => ?_) (fun c2 => ?_)
                  · refine lv_iload S.1 S.2.1 dX1_put_53 (lv_at hl 0 rfl) ?_
                    refine lv_iconst (v := nI 2) S.1 S.2.1 dX1_put_55 (by decide +kernel) ?_
                    refine sd_ne (tgt := 63) S.1 S.2.1 dX1_put_56 (by decide) (sd_nT (by omega)) (sd_nT (by omega)) (fun c2 => ?_) (fun c2 => ?_)
                    · exact absurd c2 (by omega)
                    · refine lv_iload_n S.1 S.2.1 dX1_put_59 rfl (lv_at hl 4 rfl) ?_
                      refine lv_goto (tgt := 65) S.1 S.2.1 dX1_put_60 (by decide) ?_
                      refine sd_iast S.1 S.2.1 hG 1 0 rfl rfl (by omega) (by omega) dX1_put_65 (fun H locs hG => ?_)
                      have hG : sd_G D A s.heap s [(d, .int)] [(q, .inr (1, [.ref h, .ref hq, .int (nI k)])), sd_ar h d 2048 (upd (upd (upd f (k + 0) a1) (k + 1) a2) (k + 2) a3), sd_ar hq d 2048 o] H locs := hG
                      refine lv_iinc (v := nI 3) (lv' := [(5, .int (nI 3)), (0, .ref q), (1, .int a1), (2, .int a2), (3, .int a3), (4, .int a4)]) S.1 S.2.1 dX1_put_66 hl (k := 0) rfl (sd_i1 _) (by decide) rfl (fun ls hl => ?_)
                      refine lv_goto (tgt := 17) S.1 S.2.1 dX1_put_69 (by decide) ?_
                      refine lv_iload S.1 S.2.1 dX1_put_17 (lv_at hl 0 rfl) ?_
                      refine lv_iconst (v := nI 4) S.1 S.2.1 dX1_put_19 (by decide +kernel) ?_
                      refine sd_ge (tgt := 72) S.1 S.2.1 dX1_put_20 (by decide) (sd_nT (by omega)) (sd_nT (by omega)) (fun c2 => ?_) (fun c2 => ?_)
                      · exact absurd c2 (by omega)
                      · refine lv_aload_n S.1 S.2.1 dX1_put_23 rfl (lv_at hl 1 rfl) ?_
                        refine va_get (D := D) (ci := 1) (v := .ref h) (C := RX1) (T := TX1) (N := 3) S.1 S.2.1 S.2.2.2.2 in_X1 S.2.2.2.1 hG.1 hG.2.1 0 rfl rfl 0 (by decide) (S.2.2.2.2 _ q147) (fun _ h9 => h9) rfl dX1_put_24 ?_
                        refine lv_aload_n S.1 S.2.1 dX1_put_27 rfl (lv_at hl 1 rfl) ?_
                        refine va_get (D := D) (ci := 1) (v := .int (nI k)) (C := RX1) (T := TX1) (N := 3) S.1 S.2.1 S.2.2.2.2 in_X1 S.2.2.2.1 hG.1 hG.2.1 0 rfl rfl 2 (by decide) (S.2.2.2.2 _ q149) (fun _ h9 => h9) rfl dX1_put_28 ?_
                        refine lv_iload S.1 S.2.1 dX1_put_31 (lv_at hl 0 rfl) ?_
                        refine sd_iadd S.1 S.2.1 dX1_put_33 ?_
                        refine lv_iload S.1 S.2.1 dX1_put_34 (lv_at hl 0 rfl) ?_
                        refine sd_zne (tgt := 43) S.1 S.2.1 dX1_put_36 (by decide) (sd_nT (by omega)) (fun c2 => ?_) (fun c2 => ?_)
                        · refine lv_iload S.1 S.2.1 dX1_put_43 (lv_at hl 0 rfl) ?_
                          refine lv_iconst (v := nI 1) S.1 S.2.1 dX1_put_45 (by decide +kernel) ?_
                          refine sd_ne (tgt := 53) S.1 S.2.1 dX1_put_46 (by decide) (sd_nT (by omega)) (sd_nT (by omega)) (fun c2 => ?_) (fun c2 => ?_)
                          · refine lv_iload S.1 S.2.1 dX1_put_53 (lv_at hl 0 rfl) ?_
                            refine lv_iconst (v := nI 2) S.1 S.2.1 dX1_put_55 (by decide +kernel) ?_
                            refine sd_ne (tgt := 63) S.1 S.2.1 dX1_put_56 (by decide) (sd_nT (by omega)) (sd_nT (by omega)) (fun c2 => ?_) (fun c2 => ?_)
                            · refine lv_iload S.1 S.2.1 dX1_put_63 (lv_at hl 5 rfl) ?_
                              refine sd_iast S.1 S.2.1 hG 1 0 rfl rfl (by omega) (by omega) dX1_put_65 (fun H locs hG => ?_)
                              have hG : sd_G D A s.heap s [(d, .int)] [(q, .inr (1, [.ref h, .ref hq, .int (nI k)])), sd_ar h d 2048 (upd (upd (upd (upd f (k + 0) a1) (k + 1) a2) (k + 2) a3) (k + 3) a4), sd_ar hq d 2048 o] H locs := hG
                              refine lv_iinc (v := nI 4) (lv' := [(5, .int (nI 4)), (0, .ref q), (1, .int a1), (2, .int a2), (3, .int a3), (4, .int a4)]) S.1 S.2.1 dX1_put_66 hl (k := 0) rfl (sd_i1 _) (by decide) rfl (fun ls hl => ?_)
                              refine lv_goto (tgt := 17) S.1 S.2.1 dX1_put_69 (by decide) ?_
                              refine lv_iload S.1 S.2.1 dX1_put_17 (lv_at hl 0 rfl) ?_
                              refine lv_iconst (v := nI 4) S.1 S.2.1 dX1_put_19 (by decide +kernel) ?_
                              refine sd_ge (tgt := 72) S.1 S.2.1 dX1_put_20 (by decide) (sd_nT (by omega)) (sd_nT (by omega)) (fun c2 => ?_) (fun c2 => ?_)
                              · refine lv_aload_n S.1 S.2.1 dX1_put_72 rfl (lv_at hl 1 rfl) ?_
                                refine lv_aload_n S.1 S.2.1 dX1_put_73 rfl (lv_at hl 1 rfl) ?_
                                refine va_get (D := D) (ci := 1) (v := .int (nI k)) (C := RX1) (T := TX1) (N := 3) S.1 S.2.1 S.2.2.2.2 in_X1 S.2.2.2.1 hG.1 hG.2.1 0 rfl rfl 2 (by decide) (S.2.2.2.2 _ q149) (fun _ h9 => h9) rfl dX1_put_74 ?_
                                refine lv_iconst (v := nI 4) S.1 S.2.1 dX1_put_77 (by decide +kernel) ?_
                                refine sd_iadd S.1 S.2.1 dX1_put_78 ?_
                                refine va_put (D := D) (ci := 1) (v := .int (nI (k + 4))) (ty := .int) (C := RX1) (T := TX1) (N := 3) S.1 S.2.1 S.2.2.2.2 in_X1 tyX1 tyX1_ok nmX1 S.2.2.2.1 hG.1 hG.2.1 hG.2.2.1 hG.2.2.2 0 rfl rfl 2 (by decide) (S.2.2.2.2 _ q149) (fun _ h9 => h9) rfl (by decide +kernel) rfl rfl (Nat.le_of_ble_eq_true rfl) dX1_put_79 (fun H locs hP hD hS => ?_)
                                have hG : sd_G D A s.heap s [(d, .int)] [(q, .inr (1, [.ref h, .ref hq, .int (nI (k + 4))])), sd_ar h d 2048 (upd (upd (upd (upd f (k + 0) a1) (k + 1) a2) (k + 2) a3) (k + 3) a4), sd_ar hq d 2048 o] H locs := ⟨hG.1, hP, hD, hS⟩
                                refine lv_iconst (v := nI 1) S.1 S.2.1 dX1_put_82 (by decide +kernel) ?_
                                exact ret _ _ _ _ _ (k + 4, sd_p4 f k a1 a2 a3 a4, o) dX1_put_83 (by decide +kernel) hG (Or.inr ⟨by omega, rfl, rfl⟩)
                              · exact absurd c2 (by omega)
                            · exact absurd c2 (by omega)
                          · exact absurd c2 (by omega)
                        · exact absurd c2 (by omega)
                  · exact absurd c2 (by omega)
                · exact absurd c2 (by omega)
          · exact absurd c2 (by omega)
  · refine lv_iconst (v := nI 0) S.1 S.2.1 dX1_put_12 (by decide +kernel) ?_
    exact ret _ _ _ _ _ (k, f, o) dX1_put_13 (by decide +kernel) hG (Or.inl ⟨by omega, rfl, rfl⟩)
set_option maxHeartbeats 4000000 in
set_option maxRecDepth 100000 in
theorem sd_y_fill_loop {p : Program} {l : Launch} {e : Env} {R : Room} {s : State} {m : MethodId} {args : Array Value} {below : List Frame} {meth : Method} {c : Code} {Q : State → Prop} {cells slots : Nat} {D : va_G} {A : Nat → Prop} {H0 : Heap} {q h hq : Nat} {d : ClassId} {f o : Nat → Int32} (k n : Nat) (a1 a2 : Int32) (hn : k + n ≤ 2048) (S : CallFix p m c cX1_fill 7 s args lw_all RX1)
    (K : ∀ (H : Heap) (locs : List Loc) (ls : Array Slot), sd_G D A H0 s [(d, .int)] (sd_wm q h hq d (k + n) (sd_fl f k a1 a2 n) o) H locs → lv_has ls 7 [(0, .ref q), (4, .int (nI n))] → W p l e R s m args below meth c H locs cells slots Q (F0 m 79 ls [])) :
    ∀ (z i : Nat), i ≤ n → n - i < z → ∀ (H : Heap) (locs : List Loc) (ls : Array Slot), sd_G D A H0 s [(d, .int)] (sd_wm q h hq d (k + i) (sd_fl f k a1 a2 i) o) H locs → lv_has ls 7 [(0, .ref q), (2, .int a2), (4, .int (nI n)), (5, .int (a1 + a2 * nI i)), (6, .int (nI i))] → W p l e R s m args below meth c H locs cells slots Q (F0 m 39 ls []) := by
  intro z
  induction z with
  | zero => intro i h1 h2; exact absurd h2 (Nat.not_lt_zero _)
  | succ z ih =>
    intro i h1 h2 H locs ls hG hl
    refine lv_iload S.1 S.2.1 dX1_fill_39 (lv_at hl 4 rfl) ?_
    refine lv_iload S.1 S.2.1 dX1_fill_41 (lv_at hl 2 rfl) ?_
    refine sd_ge (tgt := 79) S.1 S.2.1 dX1_fill_43 (by decide) (sd_nT (by omega)) (sd_nT (by omega)) (fun c1 => ?_) (fun c1 => ?_)
    · have e1 : i = n := by omega
      subst e1
      exact K H locs ls hG (lv_sub hl [0, 2] rfl)
    · refine lv_aload_n S.1 S.2.1 dX1_fill_46 rfl (lv_at hl 0 rfl) ?_
      refine va_get (D := D) (ci := 1) (v := .ref h) (C := RX1) (T := TX1) (N := 3) S.1 S.2.1 S.2.2.2.2 in_X1 S.2.2.2.1 hG.1 hG.2.1 0 rfl rfl 0 (by decide) (S.2.2.2.2 _ q147) (fun _ h9 => h9) rfl dX1_fill_47 ?_
      refine lv_aload_n S.1 S.2.1 dX1_fill_50 rfl (lv_at hl 0 rfl) ?_
      refine va_get (D := D) (ci := 1) (v := .int (nI (k + i))) (C := RX1) (T := TX1) (N := 3) S.1 S.2.1 S.2.2.2.2 in_X1 S.2.2.2.1 hG.1 hG.2.1 0 rfl rfl 2 (by decide) (S.2.2.2.2 _ q149) (fun _ h9 => h9) rfl dX1_fill_51 ?_
      refine lv_iload S.1 S.2.1 dX1_fill_54 (lv_at hl 3 rfl) ?_
      refine sd_iast S.1 S.2.1 hG 1 0 rfl rfl (by omega) (by omega) dX1_fill_56 (fun H locs hG => ?_)
      have hG : sd_G D A H0 s [(d, .int)] [(q, .inr (1, [.ref h, .ref hq, .int (nI (k + i))])), sd_ar h d 2048 (upd (sd_fl f k a1 a2 i) (k + i) (a1 + a2 * nI i)), sd_ar hq d 2048 o] H locs := hG
      refine lv_aload_n S.1 S.2.1 dX1_fill_57 rfl (lv_at hl 0 rfl) ?_
      refine lv_aload_n S.1 S.2.1 dX1_fill_58 rfl (lv_at hl 0 rfl) ?_
      refine va_get (D := D) (ci := 1) (v := .int (nI (k + i))) (C := RX1) (T := TX1) (N := 3) S.1 S.2.1 S.2.2.2.2 in_X1 S.2.2.2.1 hG.1 hG.2.1 0 rfl rfl 2 (by decide) (S.2.2.2.2 _ q149) (fun _ h9 => h9) rfl dX1_fill_59 ?_
      refine lv_iconst (v := nI 1) S.1 S.2.1 dX1_fill_62 (by decide +kernel) ?_
      refine sd_iadd S.1 S.2.1 dX1_fill_63 ?_
      refine va_put (D := D) (ci := 1) (v := .int (nI ((k + i) + 1))) (ty := .int) (C := RX1) (T := TX1) (N := 3) S.1 S.2.1 S.2.2.2.2 in_X1 tyX1 tyX1_ok nmX1 S.2.2.2.1 hG.1 hG.2.1 hG.2.2.1 hG.2.2.2 0 rfl rfl 2 (by decide) (S.2.2.2.2 _ q149) (fun _ h9 => h9) rfl (by decide +kernel) rfl rfl (Nat.le_of_ble_eq_true rfl) dX1_fill_64 (fun H locs hP hD hS => ?_)
      have hG : sd_G D A H0 s [(d, .int)] [(q, .inr (1, [.ref h, .ref hq, .int (nI ((k + i) + 1))])), sd_ar h d 2048 (upd (sd_fl f k a1 a2 i) (k + i) (a1 + a2 * nI i)), sd_ar hq d 2048 o] H locs := ⟨hG.1, hP, hD, hS⟩
      refine lv_iload S.1 S.2.1 dX1_fill_67 (lv_at hl 3 rfl) ?_
      refine lv_iload_n S.1 S.2.1 dX1_fill_69 rfl (lv_at hl 1 rfl) ?_
      refine lv_iadd S.1 S.2.1 dX1_fill_70 ?_
      refine sd_top (sd_flS a1 a2 i) ?_
      refine lv_istore (lv' := [(5, .int (a1 + a2 * nI (i + 1))), (0, .ref q), (2, .int a2), (4, .int (nI n)), (6, .int (nI i))]) S.1 S.2.1 dX1_fill_71 hl (by decide) rfl (fun ls hl => ?_)
      refine lv_iinc (v := nI (i + 1)) (lv' := [(6, .int (nI (i + 1))), (5, .int (a1 + a2 * nI (i + 1))), (0, .ref q), (2, .int a2), (4, .int (nI n))]) S.1 S.2.1 dX1_fill_73 hl (k := 4) rfl (sd_i1 _) (by decide) rfl (fun ls hl => ?_)
      refine lv_goto (tgt := 39) S.1 S.2.1 dX1_fill_76 (by decide) ?_
      exact ih (i + 1) (by omega) (by omega) H locs ls hG (lv_sub hl [2, 3, 4, 1, 0] rfl)
set_option maxHeartbeats 4000000 in
set_option maxRecDepth 100000 in
/-- fill(first, step, count) -/
theorem sd_y_fill (l : Launch) (D : va_G) (q h hq : Nat) (d : ClassId) (k : Nat) (f o : Nat → Int32) (hk : k ≤ 2048) (a1 a2 a3 : Int32) : sd_Xi l yX1_fill cX1_fill 7 .int 0 0 0 0 D d (sd_wm q h hq d k f o) (sd_wmf q h hq d) [.ref q, .int a1, .int a2, .int a3] (fun r u => r = nI (min (sd_u a3 % 513) (2048 - k)) ∧ u = (k + min (sd_u a3 % 513) (2048 - k), sd_fl f k a1 a2 (min (sd_u a3 % 513) (2048 - k)), o)) := by
  refine sd_Xi.of (by decide) (Nat.le_of_ble_eq_true rfl) ?_
  intro p e s m below meth c A ls Q S hcs hA hG hl ret
  obtain ⟨n, hn⟩ : ∃ n, n = min (sd_u a3 % 513) (2048 - k) := ⟨_, rfl⟩
  rw [← hn] at ret
  have hl : lv_has ls 7 [(0, .ref q), (1, .int a1), (2, .int a2), (3, .int a3)] := hl
  have tail : ∀ ls : Array Slot, lv_has ls 7 [(0, .ref q), (1, .int a1), (2, .int a2), (4, .int (nI n))] → W p l e { frames := 0, cells := 0, slots := 0, locals := 0 } s m ([.ref q, .int a1, .int a2, .int a3] : List Value).toArray below meth c s.heap [] 0 0 Q (F0 m 33 ls []) := by
    intro ls hl
    refine lv_iload_n S.1 S.2.1 dX1_fill_33 rfl (lv_at hl 1 rfl) ?_
    refine sd_top (sd_fl0 a1 a2) ?_
    refine lv_istore (lv' := [(5, .int (a1 + a2 * nI 0)), (0, .ref q), (1, .int a1), (2, .int a2), (4, .int (nI n))]) S.1 S.2.1 dX1_fill_34 hl (by decide) rfl (fun ls hl => ?_)
    refine lv_iconst (v := nI 0) S.1 S.2.1 dX1_fill_36 (by decide +kernel) ?_
    refine lv_istore (lv' := [(6, .int (nI 0)), (5, .int (a1 + a2 * nI 0)), (0, .ref q), (1, .int a1), (2, .int a2), (4, .int (nI n))]) S.1 S.2.1 dX1_fill_37 hl (by decide) rfl (fun ls hl => ?_)
    refine sd_y_fill_loop (f := f) (o := o) k n a1 a2 (by omega) S (fun H locs ls hG hl => ?_) (n + 1) 0 (Nat.zero_le _) (by omega) _ _ _ hG (lv_sub hl [2, 4, 5, 1, 0] rfl)
    refine lv_iload S.1 S.2.1 dX1_fill_79 (lv_at hl 1 rfl) ?_
    exact ret _ _ _ _ _ (k + n, sd_fl f k a1 a2 n, o) dX1_fill_81 (sd_nwi _) hG ⟨rfl, rfl⟩
  refine lv_iload_n S.1 S.2.1 dX1_fill_0 rfl (lv_at hl 3 rfl) ?_
  refine lv_ldc (v := 2147483647) S.1 S.2.1 S.2.2.2.1 (S.2.2.2.2 _ q165) dX1_fill_1 ?_
  refine sd_iand S.1 S.2.1 dX1_fill_3 ?_
  refine lv_sipush (v := nI 513) S.1 S.2.1 dX1_fill_4 (by decide +kernel) ?_
  refine sd_irem S.1 S.2.1 (sd_uLt _) (by omega) (by omega) dX1_fill_7 ?_
  refine lv_istore (lv' := [(4, .int (nI ((sd_u a3) % 513))), (0, .ref q), (1, .int a1), (2, .int a2), (3, .int a3)]) S.1 S.2.1 dX1_fill_8 hl (by decide) rfl (fun ls hl => ?_)
  refine lv_aload_n S.1 S.2.1 dX1_fill_10 rfl (lv_at hl 1 rfl) ?_
  refine va_get (D := D) (ci := 1) (v := .int (nI k)) (C := RX1) (T := TX1) (N := 3) S.1 S.2.1 S.2.2.2.2 in_X1 S.2.2.2.1 hG.1 hG.2.1 0 rfl rfl 2 (by decide) (S.2.2.2.2 _ q149) (fun _ h9 => h9) rfl dX1_fill_11 ?_
  refine lv_iload S.1 S.2.1 dX1_fill_14 (lv_at hl 0 rfl) ?_
  refine sd_iadd S.1 S.2.1 dX1_fill_16 ?_
  refine lv_sipush (v := nI 2048) S.1 S.2.1 dX1_fill_17 (by decide +kernel) ?_
  refine sd_le (tgt := 33) S.1 S.2.1 dX1_fill_20 (by decide) (sd_nT (by have := Nat.mod_lt (sd_u a3) (show 0 < 513 by omega); omega)) (sd_nT (by have := Nat.mod_lt (sd_u a3) (show 0 < 513 by omega); omega)) (fun c1 => ?_) (fun c1 => ?_)
  · have e1 : sd_u a3 % 513 = n := by omega
    rw [e1] at hl
    exact tail ls (lv_sub hl [1, 2, 3, 0] rfl)
  · have e1 : 2048 - k = n := by omega
    refine lv_sipush (v := nI 2048) S.1 S.2.1 dX1_fill_23 (by decide +kernel) ?_
    refine lv_aload_n S.1 S.2.1 dX1_fill_26 rfl (lv_at hl 1 rfl) ?_
    refine va_get (D := D) (ci := 1) (v := .int (nI k)) (C := RX1) (T := TX1) (N := 3) S.1 S.2.1 S.2.2.2.2 in_X1 S.2.2.2.1 hG.1 hG.2.1 0 rfl rfl 2 (by decide) (S.2.2.2.2 _ q149) (fun _ h9 => h9) rfl dX1_fill_27 ?_
    refine sd_isub S.1 S.2.1 (by omega) dX1_fill_30 ?_
    refine lv_istore (lv' := [(4, .int (nI (2048 - k))), (0, .ref q), (1, .int a1), (2, .int a2), (3, .int a3)]) S.1 S.2.1 dX1_fill_31 hl (by decide) rfl (fun ls hl => ?_)
    rw [e1] at hl
    exact tail ls (lv_sub hl [1, 2, 3, 0] rfl)
set_option maxHeartbeats 4000000 in
set_option maxRecDepth 100000 in
theorem sd_y_mg {p : Program} {l : Launch} {e : Env} {R : Room} {s : State} {m : MethodId} {args : Array Value} {below : List Frame} {meth : Method} {c : Code} {Q : State → Prop} {cells slots : Nat} {D : va_G} {A : Nat → Prop} {H0 : Heap} {q h hq : Nat} {d : ClassId} {f o0 : Nat → Int32} (k a b w x md ee : Nat) (hb : b ≤ 2048) (hw : w ≤ 2048) (hm : x ≤ md ∧ md ≤ ee ∧ ee ≤ b) (hs1 : sd_Srt f x md) (hs2 : sd_Srt f md ee) (S : CallFix p m c cX1_sort 12 s args lw_all RX1)
    (K : ∀ (g : Nat → Int32) (H : Heap) (locs : List Loc) (ls : Array Slot), (sd_Srt g x ee ∧ (∀ j, j < x ∨ ee ≤ j → g j = o0 j) ∧ ∀ P, sd_ct g P x ee = sd_ct f P x ee) → sd_G D A H0 s [(d, .int)] (sd_wm q h hq d k f g) H locs → lv_has ls 12 [(0, .ref q), (3, .int (nI a)), (4, .int (nI b)), (5, .int (nI w)), (6, .int (nI x))] → W p l e R s m args below meth c H locs cells slots Q (F0 m 194 ls [])) :
    ∀ (z y i j : Nat) (g : Nat → Int32), sd_Mg o0 f g x md ee y i j → ee - y < z → ∀ (H : Heap) (locs : List Loc) (ls : Array Slot), sd_G D A H0 s [(d, .int)] (sd_wm q h hq d k f g) H locs → lv_has ls 12 [(0, .ref q), (3, .int (nI a)), (4, .int (nI b)), (5, .int (nI w)), (6, .int (nI x)), (7, .int (nI md)), (8, .int (nI ee)), (9, .int (nI i)), (10, .int (nI j)), (11, .int (nI y))] → W p l e R s m args below meth c H locs cells slots Q (F0 m 107 ls []) := by
  intro z
  induction z with
  | zero => intro y i j g h1 h2; exact absurd h2 (Nat.not_lt_zero _)
  | succ z ih =>
    intro y i j g h1 h2 H locs ls hG hl
    have ho := h1.1
    refine lv_iload S.1 S.2.1 dX1_sort_107 (lv_at hl 9 rfl) ?_
    refine lv_iload S.1 S.2.1 dX1_sort_109 (lv_at hl 6 rfl) ?_
    refine sd_ge (tgt := 194) S.1 S.2.1 dX1_sort_111 (by decide) (sd_nT (by omega)) (sd_nT (by omega)) (fun c1 => ?_) (fun c1 => ?_)
    · have e9 : y = ee := by omega
      rw [e9] at h1
      exact K g H locs ls h1.en hG (lv_sub hl [0, 1, 2, 3, 4] rfl)
    · refine lv_iload S.1 S.2.1 dX1_sort_114 (lv_at hl 8 rfl) ?_
      refine lv_iload S.1 S.2.1 dX1_sort_116 (lv_at hl 6 rfl) ?_
      refine sd_eq (tgt := 145) S.1 S.2.1 dX1_sort_118 (by decide) (sd_nT (by omega)) (sd_nT (by omega)) (fun c2 => ?_) (fun c2 => ?_)
      · refine lv_aload_n S.1 S.2.1 dX1_sort_145 rfl (lv_at hl 0 rfl) ?_
        refine va_get (D := D) (ci := 1) (v := .ref hq) (C := RX1) (T := TX1) (N := 3) S.1 S.2.1 S.2.2.2.2 in_X1 S.2.2.2.1 hG.1 hG.2.1 0 rfl rfl 1 (by decide) (S.2.2.2.2 _ q148) (fun _ h9 => h9) rfl dX1_sort_146 ?_
        refine lv_iload S.1 S.2.1 dX1_sort_149 (lv_at hl 9 rfl) ?_
        refine lv_aload_n S.1 S.2.1 dX1_sort_151 rfl (lv_at hl 0 rfl) ?_
        refine va_get (D := D) (ci := 1) (v := .ref h) (C := RX1) (T := TX1) (N := 3) S.1 S.2.1 S.2.2.2.2 in_X1 S.2.2.2.1 hG.1 hG.2.1 0 rfl rfl 0 (by decide) (S.2.2.2.2 _ q147) (fun _ h9 => h9) rfl dX1_sort_152 ?_
        refine lv_iload S.1 S.2.1 dX1_sort_155 (lv_at hl 7 rfl) ?_
        refine sd_iald S.1 S.2.1 hG 1 0 rfl rfl (by omega) (by omega) dX1_sort_157 ?_
        refine sd_iast S.1 S.2.1 hG 2 0 rfl rfl (by omega) (by omega) dX1_sort_158 (fun H locs hG => ?_)
        have hG : sd_G D A H0 s [(d, .int)] [(q, .inr (1, [.ref h, .ref hq, .int (nI k)])), sd_ar h d 2048 f, sd_ar hq d 2048 (upd g y (f i))] H locs := hG
        refine lv_iload S.1 S.2.1 dX1_sort_159 (lv_at hl 7 rfl) ?_
        refine lv_iconst (v := nI 1) S.1 S.2.1 dX1_sort_161 (by decide +kernel) ?_
        refine sd_iadd S.1 S.2.1 dX1_sort_162 ?_
        refine lv_istore (lv' := [(9, .int (nI (i + 1))), (0, .ref q), (3, .int (nI a)), (4, .int (nI b)), (5, .int (nI w)), (6, .int (nI x)), (7, .int (nI md)), (8, .int (nI ee)), (10, .int (nI j)), (11, .int (nI y))]) S.1 S.2.1 dX1_sort_163 hl (by decide) rfl (fun ls hl => ?_)
        refine lv_goto (tgt := 188) S.1 S.2.1 dX1_sort_165 (by decide) ?_
        refine lv_iinc (v := nI (y + 1)) (lv' := [(11, .int (nI (y + 1))), (9, .int (nI (i + 1))), (0, .ref q), (3, .int (nI a)), (4, .int (nI b)), (5, .int (nI w)), (6, .int (nI x)), (7, .int (nI md)), (8, .int (nI ee)), (10, .int (nI j))]) S.1 S.2.1 dX1_sort_188 hl (k := 9) rfl (sd_i1 _) (by decide) rfl (fun ls hl => ?_)
        refine lv_goto (tgt := 107) S.1 S.2.1 dX1_sort_191 (by decide) ?_
        exact ih (y + 1) (i + 1) j _ (h1.fst (by omega) hs1 hs2 (fun q => absurd q (by omega))) (by omega) H locs ls hG (lv_sub hl [2, 3, 4, 5, 6, 7, 8, 1, 9, 0] rfl)
      · refine lv_iload S.1 S.2.1 dX1_sort_121 (lv_at hl 7 rfl) ?_
        refine lv_iload S.1 S.2.1 dX1_sort_123 (lv_at hl 5 rfl) ?_
        refine sd_ge (tgt := 168) S.1 S.2.1 dX1_sort_125 (by decide) (sd_nT (by omega)) (sd_nT (by omega)) (fun c3 => ?_) (fun c3 => ?_)
        · refine lv_aload_n S.1 S.2.1 dX1_sort_168 rfl (lv_at hl 0 rfl) ?_
          refine va_get (D := D) (ci := 1) (v := .ref hq) (C := RX1) (T := TX1) (N := 3) S.1 S.2.1 S.2.2.2.2 in_X1 S.2.2.2.1 hG.1 hG.2.1 0 rfl rfl 1 (by decide) (S.2.2.2.2 _ q148) (fun _ h9 => h9) rfl dX1_sort_169 ?_
          refine lv_iload S.1 S.2.1 dX1_sort_172 (lv_at hl 9 rfl) ?_
          refine lv_aload_n S.1 S.2.1 dX1_sort_174 rfl (lv_at hl 0 rfl) ?_
          refine va_get (D := D) (ci := 1) (v := .ref h) (C := RX1) (T := TX1) (N := 3) S.1 S.2.1 S.2.2.2.2 in_X1 S.2.2.2.1 hG.1 hG.2.1 0 rfl rfl 0 (by decide) (S.2.2.2.2 _ q147) (fun _ h9 => h9) rfl dX1_sort_175 ?_
          refine lv_iload S.1 S.2.1 dX1_sort_178 (lv_at hl 8 rfl) ?_
          refine sd_iald S.1 S.2.1 hG 1 0 rfl rfl (by omega) (by omega) dX1_sort_180 ?_
          refine sd_iast S.1 S.2.1 hG 2 0 rfl rfl (by omega) (by omega) dX1_sort_181 (fun H locs hG => ?_)
          have hG : sd_G D A H0 s [(d, .int)] [(q, .inr (1, [.ref h, .ref hq, .int (nI k)])), sd_ar h d 2048 f, sd_ar hq d 2048 (upd g y (f j))] H locs := hG
          refine lv_iload S.1 S.2.1 dX1_sort_182 (lv_at hl 8 rfl) ?_
          refine lv_iconst (v := nI 1) S.1 S.2.1 dX1_sort_184 (by decide +kernel) ?_
          refine sd_iadd S.1 S.2.1 dX1_sort_185 ?_
          refine lv_istore (lv' := [(10, .int (nI (j + 1))), (0, .ref q), (3, .int (nI a)), (4, .int (nI b)), (5, .int (nI w)), (6, .int (nI x)), (7, .int (nI md)), (8, .int (nI ee)), (9, .int (nI i)), (11, .int (nI y))]) S.1 S.2.1 dX1_sort_186 hl (by decide) rfl (fun ls hl => ?_)
          refine lv_iinc (v := nI (y + 1)) (lv' := [(11, .int (nI (y + 1))), (10, .int (nI (j + 1))), (0, .ref q), (3, .int (nI a)), (4, .int (nI b)), (5, .int (nI w)), (6, .int (nI x)), (7, .int (nI md)), (8, .int (nI ee)), (9, .int (nI i))]) S.1 S.2.1 dX1_sort_188 hl (k := 9) rfl (sd_i1 _) (by decide) rfl (fun ls hl => ?_)
          refine lv_goto (tgt := 107) S.1 S.2.1 dX1_sort_191 (by decide) ?_
          exact ih (y + 1) i (j + 1) _ (h1.snd (by omega) hs1 hs2 (fun q => absurd q (by omega))) (by omega) H locs ls hG (lv_sub hl [2, 3, 4, 5, 6, 7, 8, 9, 1, 0] rfl)
        · refine lv_aload_n S.1 S.2.1 dX1_sort_128 rfl (lv_at hl 0 rfl) ?_
          refine va_get (D := D) (ci := 1) (v := .ref h) (C := RX1) (T := TX1) (N := 3) S.1 S.2.1 S.2.2.2.2 in_X1 S.2.2.2.1 hG.1 hG.2.1 0 rfl rfl 0 (by decide) (S.2.2.2.2 _ q147) (fun _ h9 => h9) rfl dX1_sort_129 ?_
          refine lv_iload S.1 S.2.1 dX1_sort_132 (lv_at hl 7 rfl) ?_
          refine sd_iald S.1 S.2.1 hG 1 0 rfl rfl (by omega) (by omega) dX1_sort_134 ?_
          refine lv_aload_n S.1 S.2.1 dX1_sort_135 rfl (lv_at hl 0 rfl) ?_
          refine va_get (D := D) (ci := 1) (v := .ref h) (C := RX1) (T := TX1) (N := 3) S.1 S.2.1 S.2.2.2.2 in_X1 S.2.2.2.1 hG.1 hG.2.1 0 rfl rfl 0 (by decide) (S.2.2.2.2 _ q147) (fun _ h9 => h9) rfl dX1_sort_136 ?_
          refine lv_iload S.1 S.2.1 dX1_sort_139 (lv_at hl 8 rfl) ?_
          refine sd_iald S.1 S.2.1 hG 1 0 rfl rfl (by omega) (by omega) dX1_sort_141 ?_
          refine sd_gt (tgt := 168) S.1 S.2.1 dX1_sort_142 (by decide) rfl rfl (fun c4 => ?_) (fun c4 => ?_)
          · refine lv_aload_n S.1 S.2.1 dX1_sort_168 rfl (lv_at hl 0 rfl) ?_
            refine va_get (D := D) (ci := 1) (v := .ref hq) (C := RX1) (T := TX1) (N := 3) S.1 S.2.1 S.2.2.2.2 in_X1 S.2.2.2.1 hG.1 hG.2.1 0 rfl rfl 1 (by decide) (S.2.2.2.2 _ q148) (fun _ h9 => h9) rfl dX1_sort_169 ?_
            refine lv_iload S.1 S.2.1 dX1_sort_172 (lv_at hl 9 rfl) ?_
            refine lv_aload_n S.1 S.2.1 dX1_sort_174 rfl (lv_at hl 0 rfl) ?_
            refine va_get (D := D) (ci := 1) (v := .ref h) (C := RX1) (T := TX1) (N := 3) S.1 S.2.1 S.2.2.2.2 in_X1 S.2.2.2.1 hG.1 hG.2.1 0 rfl rfl 0 (by decide) (S.2.2.2.2 _ q147) (fun _ h9 => h9) rfl dX1_sort_175 ?_
            refine lv_iload S.1 S.2.1 dX1_sort_178 (lv_at hl 8 rfl) ?_
            refine sd_iald S.1 S.2.1 hG 1 0 rfl rfl (by omega) (by omega) dX1_sort_180 ?_
            refine sd_iast S.1 S.2.1 hG 2 0 rfl rfl (by omega) (by omega) dX1_sort_181 (fun H locs hG => ?_)
            have hG : sd_G D A H0 s [(d, .int)] [(q, .inr (1, [.ref h, .ref hq, .int (nI k)])), sd_ar h d 2048 f, sd_ar hq d 2048 (upd g y (f j))] H locs := hG
            refine lv_iload S.1 S.2.1 dX1_sort_182 (lv_at hl 8 rfl) ?_
            refine lv_iconst (v := nI 1) S.1 S.2.1 dX1_sort_184 (by decide +kernel) ?_
            refine sd_iadd S.1 S.2.1 dX1_sort_185 ?_
            refine lv_istore (lv' := [(10, .int (nI (j + 1))), (0, .ref q), (3, .int (nI a)), (4, .int (nI b)), (5, .int (nI w)), (6, .int (nI x)), (7, .int (nI md)), (8, .int (nI ee)), (9, .int (nI i)), (11, .int (nI y))]) S.1 S.2.1 dX1_sort_186 hl (by decide) rfl (fun ls hl => ?_)
            refine lv_iinc (v := nI (y + 1)) (lv' := [(11, .int (nI (y + 1))), (10, .int (nI (j + 1))), (0, .ref q), (3, .int (nI a)), (4, .int (nI b)), (5, .int (nI w)), (6, .int (nI x)), (7, .int (nI md)), (8, .int (nI ee)), (9, .int (nI i))]) S.1 S.2.1 dX1_sort_188 hl (k := 9) rfl (sd_i1 _) (by decide) rfl (fun ls hl => ?_)
            refine lv_goto (tgt := 107) S.1 S.2.1 dX1_sort_191 (by decide) ?_
            exact ih (y + 1) i (j + 1) _ (h1.snd (by omega) hs1 hs2 (fun _ => by omega)) (by omega) H locs ls hG (lv_sub hl [2, 3, 4, 5, 6, 7, 8, 9, 1, 0] rfl)
          · refine lv_aload_n S.1 S.2.1 dX1_sort_145 rfl (lv_at hl 0 rfl) ?_
            refine va_get (D := D) (ci := 1) (v := .ref hq) (C := RX1) (T := TX1) (N := 3) S.1 S.2.1 S.2.2.2.2 in_X1 S.2.2.2.1 hG.1 hG.2.1 0 rfl rfl 1 (by decide) (S.2.2.2.2 _ q148) (fun _ h9 => h9) rfl dX1_sort_146 ?_
            refine lv_iload S.1 S.2.1 dX1_sort_149 (lv_at hl 9 rfl) ?_
            refine lv_aload_n S.1 S.2.1 dX1_sort_151 rfl (lv_at hl 0 rfl) ?_
            refine va_get (D := D) (ci := 1) (v := .ref h) (C := RX1) (T := TX1) (N := 3) S.1 S.2.1 S.2.2.2.2 in_X1 S.2.2.2.1 hG.1 hG.2.1 0 rfl rfl 0 (by decide) (S.2.2.2.2 _ q147) (fun _ h9 => h9) rfl dX1_sort_152 ?_
            refine lv_iload S.1 S.2.1 dX1_sort_155 (lv_at hl 7 rfl) ?_
            refine sd_iald S.1 S.2.1 hG 1 0 rfl rfl (by omega) (by omega) dX1_sort_157 ?_
            refine sd_iast S.1 S.2.1 hG 2 0 rfl rfl (by omega) (by omega) dX1_sort_158 (fun H locs hG => ?_)
            have hG : sd_G D A H0 s [(d, .int)] [(q, .inr (1, [.ref h, .ref hq, .int (nI k)])), sd_ar h d 2048 f, sd_ar hq d 2048 (upd g y (f i))] H locs := hG
            refine lv_iload S.1 S.2.1 dX1_sort_159 (lv_at hl 7 rfl) ?_
            refine lv_iconst (v := nI 1) S.1 S.2.1 dX1_sort_161 (by decide +kernel) ?_
            refine sd_iadd S.1 S.2.1 dX1_sort_162 ?_
            refine lv_istore (lv' := [(9, .int (nI (i + 1))), (0, .ref q), (3, .int (nI a)), (4, .int (nI b)), (5, .int (nI w)), (6, .int (nI x)), (7, .int (nI md)), (8, .int (nI ee)), (10, .int (nI j)), (11, .int (nI y))]) S.1 S.2.1 dX1_sort_163 hl (by decide) rfl (fun ls hl => ?_)
            refine lv_goto (tgt := 188) S.1 S.2.1 dX1_sort_165 (by decide) ?_
            refine lv_iinc (v := nI (y + 1)) (lv' := [(11, .int (nI (y + 1))), (9, .int (nI (i + 1))), (0, .ref q), (3, .int (nI a)), (4, .int (nI b)), (5, .int (nI w)), (6, .int (nI x)), (7, .int (nI md)), (8, .int (nI ee)), (10, .int (nI j))]) S.1 S.2.1 dX1_sort_188 hl (k := 9) rfl (sd_i1 _) (by decide) rfl (fun ls hl => ?_)
            refine lv_goto (tgt := 107) S.1 S.2.1 dX1_sort_191 (by decide) ?_
            exact ih (y + 1) (i + 1) j _ (h1.fst (by omega) hs1 hs2 (fun _ => c4)) (by omega) H locs ls hG (lv_sub hl [2, 3, 4, 5, 6, 7, 8, 1, 9, 0] rfl)
set_option maxHeartbeats 4000000 in
set_option maxRecDepth 100000 in
theorem sd_y_pairs {p : Program} {l : Launch} {e : Env} {R : Room} {s : State} {m : MethodId} {args : Array Value} {below : List Frame} {meth : Method} {c : Code} {Q : State → Prop} {cells slots : Nat} {D : va_G} {A : Nat → Prop} {H0 : Heap} {q h hq : Nat} {d : ClassId} {f : Nat → Int32} (k a b w : Nat) (hab : a ≤ b) (hb : b ≤ 2048) (hw0 : 0 < w) (hw : w ≤ 2048) (hr : sd_Rn f a b w) (S : CallFix p m c cX1_sort 12 s args lw_all RX1)
    (K : ∀ (o : Nat → Int32) (H : Heap) (locs : List Loc) (ls : Array Slot), sd_Rn o a b (2 * w) → (∀ P, sd_ct o P a b = sd_ct f P a b) → sd_G D A H0 s [(d, .int)] (sd_wm q h hq d k f o) H locs → lv_has ls 12 [(0, .ref q), (3, .int (nI a)), (4, .int (nI b)), (5, .int (nI w))] → W p l e R s m args below meth c H locs cells slots Q (F0 m 206 ls [])) :
    ∀ (z T x : Nat) (o : Nat → Int32), x = a + T * (2 * w) → x ≤ b + 2 * w → sd_Ps f o a b w T → b + 2 * w - x < z → ∀ (H : Heap) (locs : List Loc) (ls : Array Slot), sd_G D A H0 s [(d, .int)] (sd_wm q h hq d k f o) H locs → lv_has ls 12 [(0, .ref q), (3, .int (nI a)), (4, .int (nI b)), (5, .int (nI w)), (6, .int (nI x))] → W p l e R s m args below meth c H locs cells slots Q (F0 m 44 ls []) := by
  intro z
  induction z with
  | zero => intro T x o h1 h2 h3 h4; exact absurd h4 (Nat.not_lt_zero _)
  | succ z ih =>
    intro T x o h1 h2 h3 h4 H locs ls hG hl
    refine lv_iload S.1 S.2.1 dX1_sort_44 (lv_at hl 4 rfl) ?_
    refine lv_iload S.1 S.2.1 dX1_sort_46 (lv_at hl 2 rfl) ?_
    refine sd_ge (tgt := 206) S.1 S.2.1 dX1_sort_48 (by decide) (sd_nT (by omega)) (sd_nT (by omega)) (fun c1 => ?_) (fun c1 => ?_)
    · have e9 := h3.en (by omega)
      exact K o H locs ls e9.1 e9.2 hG (lv_sub hl [0, 1, 2, 3] rfl)
    · have htw := hr.two h1
      have t93 : ∀ (md ee : Nat) (ls : Array Slot), md = min (x + w) b → ee = min (x + 2 * w) b → lv_has ls 12 [(0, .ref q), (3, .int (nI a)), (4, .int (nI b)), (5, .int (nI w)), (6, .int (nI x)), (7, .int (nI md))] → W p l e R s m args below meth c H locs cells slots Q (F0 m 93 ls [.int (nI ee)]) := by
        intro md ee ls hmd hee hl
        refine lv_istore (lv' := [(8, .int (nI ee)), (0, .ref q), (3, .int (nI a)), (4, .int (nI b)), (5, .int (nI w)), (6, .int (nI x)), (7, .int (nI md))]) S.1 S.2.1 dX1_sort_93 hl (by decide) rfl (fun ls hl => ?_)
        refine lv_iload S.1 S.2.1 dX1_sort_95 (lv_at hl 5 rfl) ?_
        refine lv_istore (lv' := [(9, .int (nI x)), (8, .int (nI ee)), (0, .ref q), (3, .int (nI a)), (4, .int (nI b)), (5, .int (nI w)), (6, .int (nI x)), (7, .int (nI md))]) S.1 S.2.1 dX1_sort_97 hl (by decide) rfl (fun ls hl => ?_)
        refine lv_iload S.1 S.2.1 dX1_sort_99 (lv_at hl 7 rfl) ?_
        refine lv_istore (lv' := [(10, .int (nI md)), (9, .int (nI x)), (8, .int (nI ee)), (0, .ref q), (3, .int (nI a)), (4, .int (nI b)), (5, .int (nI w)), (6, .int (nI x)), (7, .int (nI md))]) S.1 S.2.1 dX1_sort_101 hl (by decide) rfl (fun ls hl => ?_)
        refine lv_iload S.1 S.2.1 dX1_sort_103 (lv_at hl 7 rfl) ?_
        refine lv_istore (lv' := [(11, .int (nI x)), (10, .int (nI md)), (9, .int (nI x)), (8, .int (nI ee)), (0, .ref q), (3, .int (nI a)), (4, .int (nI b)), (5, .int (nI w)), (6, .int (nI x)), (7, .int (nI md))]) S.1 S.2.1 dX1_sort_105 hl (by decide) rfl (fun ls hl => ?_)
        have hs1 : sd_Srt f x md := htw.1.sub (Nat.le_refl _) (by omega)
        have hs2 : sd_Srt f md ee := by
          by_cases c9 : x + w ≤ b
          · exact htw.2.sub (by omega) (by omega)
          · exact sd_Srt.nil (by omega)
        refine sd_y_mg k a b w x md ee hb hw (by omega) hs1 hs2 S (fun g H locs ls hg hG hl => ?_) (ee + 1) x x md o (sd_Mg.st (by omega) (by omega)) (by omega) H locs ls hG (lv_sub hl [4, 5, 6, 7, 8, 9, 3, 2, 1, 0] rfl)
        refine lv_iload S.1 S.2.1 dX1_sort_194 (lv_at hl 4 rfl) ?_
        refine lv_iconst (v := nI 2) S.1 S.2.1 dX1_sort_196 (by decide +kernel) ?_
        refine lv_iload S.1 S.2.1 dX1_sort_197 (lv_at hl 3 rfl) ?_
        refine sd_imul S.1 S.2.1 dX1_sort_199 ?_
        refine sd_iadd S.1 S.2.1 dX1_sort_200 ?_
        refine lv_istore (lv' := [(6, .int (nI (x + (2 * w)))), (0, .ref q), (3, .int (nI a)), (4, .int (nI b)), (5, .int (nI w))]) S.1 S.2.1 dX1_sort_201 hl (by decide) rfl (fun ls hl => ?_)
        refine lv_goto (tgt := 44) S.1 S.2.1 dX1_sort_203 (by decide) ?_
        exact ih (T + 1) (x + 2 * w) g (by rw [h1, show (T + 1) * (2 * w) = T * (2 * w) + 2 * w from Nat.succ_mul _ _, Nat.add_assoc]) (by omega) (h3.go h1 (by omega) hee hg.1 hg.2.1 hg.2.2) (by omega) H locs ls hG (lv_sub hl [1, 2, 3, 4, 0] rfl)
      have t71 : ∀ (md : Nat) (ls : Array Slot), md = min (x + w) b → lv_has ls 12 [(0, .ref q), (3, .int (nI a)), (4, .int (nI b)), (5, .int (nI w)), (6, .int (nI x))] → W p l e R s m args below meth c H locs cells slots Q (F0 m 71 ls [.int (nI md)]) := by
        intro md ls hmd hl
        refine lv_istore (lv' := [(7, .int (nI md)), (0, .ref q), (3, .int (nI a)), (4, .int (nI b)), (5, .int (nI w)), (6, .int (nI x))]) S.1 S.2.1 dX1_sort_71 hl (by decide) rfl (fun ls hl => ?_)
        refine lv_iload S.1 S.2.1 dX1_sort_73 (lv_at hl 0 rfl) ?_
        refine lv_iload S.1 S.2.1 dX1_sort_75 (lv_at hl 4 rfl) ?_
        refine sd_iadd S.1 S.2.1 dX1_sort_77 ?_
        refine lv_iload S.1 S.2.1 dX1_sort_78 (lv_at hl 3 rfl) ?_
        refine sd_ge (tgt := 91) S.1 S.2.1 dX1_sort_80 (by decide) (sd_nT (by omega)) (sd_nT (by omega)) (fun c3 => ?_) (fun c3 => ?_)
        · refine lv_iload S.1 S.2.1 dX1_sort_91 (lv_at hl 3 rfl) ?_
          exact t93 md b ls hmd (by omega) (lv_sub hl [1, 2, 3, 4, 5, 0] rfl)
        · refine lv_iload S.1 S.2.1 dX1_sort_83 (lv_at hl 0 rfl) ?_
          refine lv_iload S.1 S.2.1 dX1_sort_85 (lv_at hl 4 rfl) ?_
          refine sd_iadd S.1 S.2.1 dX1_sort_87 ?_
          refine lv_goto (tgt := 93) S.1 S.2.1 dX1_sort_88 (by decide) ?_
          exact t93 md (md + w) ls hmd (by omega) (lv_sub hl [1, 2, 3, 4, 5, 0] rfl)
      refine lv_iload S.1 S.2.1 dX1_sort_51 (lv_at hl 4 rfl) ?_
      refine lv_iload S.1 S.2.1 dX1_sort_53 (lv_at hl 3 rfl) ?_
      refine sd_iadd S.1 S.2.1 dX1_sort_55 ?_
      refine lv_iload S.1 S.2.1 dX1_sort_56 (lv_at hl 2 rfl) ?_
      refine sd_ge (tgt := 69) S.1 S.2.1 dX1_sort_58 (by decide) (sd_nT (by omega)) (sd_nT (by omega)) (fun c2 => ?_) (fun c2 => ?_)
      · refine lv_iload S.1 S.2.1 dX1_sort_69 (lv_at hl 2 rfl) ?_
        exact t71 b ls (by omega) (lv_sub hl [0, 1, 2, 3, 4] rfl)
      · refine lv_iload S.1 S.2.1 dX1_sort_61 (lv_at hl 4 rfl) ?_
        refine lv_iload S.1 S.2.1 dX1_sort_63 (lv_at hl 3 rfl) ?_
        refine sd_iadd S.1 S.2.1 dX1_sort_65 ?_
        refine lv_goto (tgt := 71) S.1 S.2.1 dX1_sort_66 (by decide) ?_
        exact t71 (x + w) ls (by omega) (lv_sub hl [0, 1, 2, 3, 4] rfl)
set_option maxHeartbeats 4000000 in
set_option maxRecDepth 100000 in
theorem sd_y_copy {p : Program} {l : Launch} {e : Env} {R : Room} {s : State} {m : MethodId} {args : Array Value} {below : List Frame} {meth : Method} {c : Code} {Q : State → Prop} {cells slots : Nat} {D : va_G} {A : Nat → Prop} {H0 : Heap} {q h hq : Nat} {d : ClassId} {f o : Nat → Int32} (k a b w : Nat) (hb : b ≤ 2048) (S : CallFix p m c cX1_sort 12 s args lw_all RX1)
    (K : ∀ (f' : Nat → Int32) (H : Heap) (locs : List Loc) (ls : Array Slot), (∀ i, a ≤ i → i < b → f' i = o i) → (∀ i, i < a ∨ b ≤ i → f' i = f i) → sd_G D A H0 s [(d, .int)] (sd_wm q h hq d k f' o) H locs → lv_has ls 12 [(0, .ref q), (3, .int (nI a)), (4, .int (nI b)), (5, .int (nI w))] → W p l e R s m args below meth c H locs cells slots Q (F0 m 236 ls [])) :
    ∀ (z y : Nat) (f' : Nat → Int32), a ≤ y → y ≤ b → (∀ i, a ≤ i → i < y → f' i = o i) → (∀ i, i < a ∨ y ≤ i → f' i = f i) → b - y < z → ∀ (H : Heap) (locs : List Loc) (ls : Array Slot), sd_G D A H0 s [(d, .int)] (sd_wm q h hq d k f' o) H locs → lv_has ls 12 [(0, .ref q), (3, .int (nI a)), (4, .int (nI b)), (5, .int (nI w)), (6, .int (nI y))] → W p l e R s m args below meth c H locs cells slots Q (F0 m 209 ls []) := by
  intro z
  induction z with
  | zero => intro y f' h1 h2 h3 h4 h5; exact absurd h5 (Nat.not_lt_zero _)
  | succ z ih =>
    intro y f' h1 h2 h3 h4 h5 H locs ls hG hl
    refine lv_iload S.1 S.2.1 dX1_sort_209 (lv_at hl 4 rfl) ?_
    refine lv_iload S.1 S.2.1 dX1_sort_211 (lv_at hl 2 rfl) ?_
    refine sd_ge (tgt := 236) S.1 S.2.1 dX1_sort_213 (by decide) (sd_nT (by omega)) (sd_nT (by omega)) (fun c1 => ?_) (fun c1 => ?_)
    · have e9 : y = b := by omega
      subst e9
      exact K f' H locs ls h3 h4 hG (lv_sub hl [0, 1, 2, 3] rfl)
    · refine lv_aload_n S.1 S.2.1 dX1_sort_216 rfl (lv_at hl 0 rfl) ?_
      refine va_get (D := D) (ci := 1) (v := .ref h) (C := RX1) (T := TX1) (N := 3) S.1 S.2.1 S.2.2.2.2 in_X1 S.2.2.2.1 hG.1 hG.2.1 0 rfl rfl 0 (by decide) (S.2.2.2.2 _ q147) (fun _ h9 => h9) rfl dX1_sort_217 ?_
      refine lv_iload S.1 S.2.1 dX1_sort_220 (lv_at hl 4 rfl) ?_
      refine lv_aload_n S.1 S.2.1 dX1_sort_222 rfl (lv_at hl 0 rfl) ?_
      refine va_get (D := D) (ci := 1) (v := .ref hq) (C := RX1) (T := TX1) (N := 3) S.1 S.2.1 S.2.2.2.2 in_X1 S.2.2.2.1 hG.1 hG.2.1 0 rfl rfl 1 (by decide) (S.2.2.2.2 _ q148) (fun _ h9 => h9) rfl dX1_sort_223 ?_
      refine lv_iload S.1 S.2.1 dX1_sort_226 (lv_at hl 4 rfl) ?_
      refine sd_iald S.1 S.2.1 hG 2 0 rfl rfl (by omega) (by omega) dX1_sort_228 ?_
      refine sd_iast S.1 S.2.1 hG 1 0 rfl rfl (by omega) (by omega) dX1_sort_229 (fun H locs hG => ?_)
      have hG : sd_G D A H0 s [(d, .int)] [(q, .inr (1, [.ref h, .ref hq, .int (nI k)])), sd_ar h d 2048 (upd f' y (o y)), sd_ar hq d 2048 o] H locs := hG
      refine lv_iinc (v := nI (y + 1)) (lv' := [(6, .int (nI (y + 1))), (0, .ref q), (3, .int (nI a)), (4, .int (nI b)), (5, .int (nI w))]) S.1 S.2.1 dX1_sort_230 hl (k := 4) rfl (sd_i1 _) (by decide) rfl (fun ls hl => ?_)
      refine lv_goto (tgt := 209) S.1 S.2.1 dX1_sort_233 (by decide) ?_
      refine ih (y + 1) _ (by omega) (by omega) (fun i q1 q2 => ?_) (fun i q1 => ?_) (by omega) H locs ls hG (lv_sub hl [1, 2, 3, 4, 0] rfl)
      · by_cases e9 : i = y
        · rw [e9]; exact pk_us
        · rw [pk_un e9]; exact h3 i q1 (by omega)
      · rw [pk_un (by omega)]; exact h4 i (by omega)
set_option maxHeartbeats 4000000 in
set_option maxRecDepth 100000 in
theorem sd_y_width {p : Program} {l : Launch} {e : Env} {R : Room} {s : State} {m : MethodId} {args : Array Value} {below : List Frame} {meth : Method} {c : Code} {Q : State → Prop} {cells slots : Nat} {D : va_G} {A : Nat → Prop} {H0 : Heap} {q h hq : Nat} {d : ClassId} {f0 : Nat → Int32} (k a b : Nat) (hab : a ≤ b) (hb : b ≤ 2048) (S : CallFix p m c cX1_sort 12 s args lw_all RX1)
    (K : ∀ (f o : Nat → Int32) (H : Heap) (locs : List Loc) (ls : Array Slot), sd_Srt f a b ∧ sd_Prm f f0 a b → sd_G D A H0 s [(d, .int)] (sd_wm q h hq d k f o) H locs → W p l e R s m args below meth c H locs cells slots Q (F0 m 245 ls [])) :
    ∀ (z w : Nat) (f o : Nat → Int32), 0 < w → w ≤ 4096 → sd_Rn f a b w → sd_Prm f f0 a b → (b - a) - w < z → ∀ (H : Heap) (locs : List Loc) (ls : Array Slot), sd_G D A H0 s [(d, .int)] (sd_wm q h hq d k f o) H locs → lv_has ls 12 [(0, .ref q), (3, .int (nI a)), (4, .int (nI b)), (5, .int (nI w))] → W p l e R s m args below meth c H locs cells slots Q (F0 m 32 ls []) := by
  intro z
  induction z with
  | zero => intro w f o h1 h2 h3 h4 h5; exact absurd h5 (Nat.not_lt_zero _)
  | succ z ih =>
    intro w f o h1 h2 h3 h4 h5 H locs ls hG hl
    refine lv_iload S.1 S.2.1 dX1_sort_32 (lv_at hl 3 rfl) ?_
    refine lv_iload S.1 S.2.1 dX1_sort_34 (lv_at hl 2 rfl) ?_
    refine lv_iload_n S.1 S.2.1 dX1_sort_36 rfl (lv_at hl 1 rfl) ?_
    refine sd_isub S.1 S.2.1 (by omega) dX1_sort_37 ?_
    refine sd_ge (tgt := 245) S.1 S.2.1 dX1_sort_38 (by decide) (sd_nT (by omega)) (sd_nT (by omega)) (fun c1 => ?_) (fun c1 => ?_)
    · exact K f o H locs ls ⟨h3.en (by omega), h4⟩ hG
    · refine lv_iload_n S.1 S.2.1 dX1_sort_41 rfl (lv_at hl 1 rfl) ?_
      refine lv_istore (lv' := [(6, .int (nI a)), (0, .ref q), (3, .int (nI a)), (4, .int (nI b)), (5, .int (nI w))]) S.1 S.2.1 dX1_sort_42 hl (by decide) rfl (fun ls hl => ?_)
      refine sd_y_pairs k a b w hab hb h1 (by omega) h3 S (fun o H locs ls hr hc hG hl => ?_) (b + 2 * w + 1) 0 a o (by omega) (by omega) sd_Ps.st (by omega) H locs ls hG (lv_sub hl [1, 2, 3, 4, 0] rfl)
      refine lv_iload_n S.1 S.2.1 dX1_sort_206 rfl (lv_at hl 1 rfl) ?_
      refine lv_istore (lv' := [(6, .int (nI a)), (0, .ref q), (3, .int (nI a)), (4, .int (nI b)), (5, .int (nI w))]) S.1 S.2.1 dX1_sort_207 hl (by decide) rfl (fun ls hl => ?_)
      refine sd_y_copy (f := f) (o := o) k a b w hb S (fun f' H locs ls e1 e2 hG hl => ?_) (b + 1) a f (Nat.le_refl a) hab (fun i q1 q2 => absurd q2 (by omega)) (fun i _ => rfl) (by omega) H locs ls hG (lv_sub hl [1, 2, 3, 4, 0] rfl)
      refine lv_iload S.1 S.2.1 dX1_sort_236 (lv_at hl 3 rfl) ?_
      refine lv_iconst (v := nI 2) S.1 S.2.1 dX1_sort_238 (by decide +kernel) ?_
      refine sd_imul S.1 S.2.1 dX1_sort_239 ?_
      refine lv_istore (lv' := [(5, .int (nI (w * 2))), (0, .ref q), (3, .int (nI a)), (4, .int (nI b))]) S.1 S.2.1 dX1_sort_240 hl (by decide) rfl (fun ls hl => ?_)
      refine lv_goto (tgt := 32) S.1 S.2.1 dX1_sort_242 (by decide) ?_
      have h6 := hr.bk hc e1 e2
      rw [Nat.mul_comm] at h6
      exact ih (w * 2) f' o (by omega) (by omega) h6.1 (h6.2.tr h4) (by omega) H locs ls hG (lv_sub hl [1, 2, 3, 0] rfl)
set_option maxHeartbeats 4000000 in
set_option maxRecDepth 100000 in
/-- sort(from, count) -/
theorem sd_y_sort (l : Launch) (D : va_G) (q h hq : Nat) (d : ClassId) (k : Nat) (f o : Nat → Int32) (hk : k ≤ 2048) (a1 a2 : Int32) : sd_Xv l yX1_sort cX1_sort 12 0 0 0 0 D d (sd_wm q h hq d k f o) (sd_wmf q h hq d) [.ref q, .int a1, .int a2] (fun u => u.1 = k ∧ sd_Srt u.2.1 (sd_fr k a1) (sd_to k (sd_fr k a1) a2) ∧ sd_Prm u.2.1 f (sd_fr k a1) (sd_to k (sd_fr k a1) a2)) := by
  refine sd_Xv.of (by decide) (Nat.le_of_ble_eq_true rfl) ?_
  intro p e s m below meth c A ls Q S hin hcs hA hG hl ret
  have hl : lv_has ls 12 [(0, .ref q), (1, .int a1), (2, .int a2)] := hl
  refine lv_iload_n S.1 S.2.1 dX1_sort_0 rfl (lv_at hl 1 rfl) ?_
  refine lv_ldc (v := 2147483647) S.1 S.2.1 S.2.2.2.1 (S.2.2.2.2 _ q165) dX1_sort_1 ?_
  refine sd_iand S.1 S.2.1 dX1_sort_3 ?_
  refine lv_aload_n S.1 S.2.1 dX1_sort_4 rfl (lv_at hl 0 rfl) ?_
  refine va_get (D := D) (ci := 1) (v := .int (nI k)) (C := RX1) (T := TX1) (N := 3) S.1 S.2.1 S.2.2.2.2 in_X1 S.2.2.2.1 hG.1 hG.2.1 0 rfl rfl 2 (by decide) (S.2.2.2.2 _ q149) (fun _ h9 => h9) rfl dX1_sort_5 ?_
  refine lv_iconst (v := nI 1) S.1 S.2.1 dX1_sort_8 (by decide +kernel) ?_
  refine sd_iadd S.1 S.2.1 dX1_sort_9 ?_
  refine sd_irem S.1 S.2.1 (sd_uLt _) (by omega) (by omega) dX1_sort_10 ?_
  refine sd_top (show nI (sd_u a1 % (k + 1)) = nI (sd_fr k a1) from rfl) ?_
  obtain ⟨a, ha⟩ : ∃ y, y = sd_fr k a1 := ⟨_, rfl⟩
  rw [← ha] at ret ⊢
  have ha1 : a ≤ k := by rw [ha]; exact sd_frLe
  refine lv_istore_n (lv' := [(3, .int (nI a)), (0, .ref q), (1, .int a1), (2, .int a2)]) S.1 S.2.1 dX1_sort_11 rfl hl (by decide) rfl (fun ls hl => ?_)
  refine lv_iload_n S.1 S.2.1 dX1_sort_12 rfl (lv_at hl 0 rfl) ?_
  refine lv_iload_n S.1 S.2.1 dX1_sort_13 rfl (lv_at hl 3 rfl) ?_
  refine lv_ldc (v := 2147483647) S.1 S.2.1 S.2.2.2.1 (S.2.2.2.2 _ q165) dX1_sort_14 ?_
  refine sd_iand S.1 S.2.1 dX1_sort_16 ?_
  refine lv_aload_n S.1 S.2.1 dX1_sort_17 rfl (lv_at hl 1 rfl) ?_
  refine va_get (D := D) (ci := 1) (v := .int (nI k)) (C := RX1) (T := TX1) (N := 3) S.1 S.2.1 S.2.2.2.2 in_X1 S.2.2.2.1 hG.1 hG.2.1 0 rfl rfl 2 (by decide) (S.2.2.2.2 _ q149) (fun _ h9 => h9) rfl dX1_sort_18 ?_
  refine lv_iload_n S.1 S.2.1 dX1_sort_21 rfl (lv_at hl 0 rfl) ?_
  refine sd_isub S.1 S.2.1 (by omega) dX1_sort_22 ?_
  refine lv_iconst (v := nI 1) S.1 S.2.1 dX1_sort_23 (by decide +kernel) ?_
  refine sd_iadd S.1 S.2.1 dX1_sort_24 ?_
  refine sd_irem S.1 S.2.1 (sd_uLt _) (by omega) (by omega) dX1_sort_25 ?_
  refine sd_iadd S.1 S.2.1 dX1_sort_26 ?_
  refine sd_top (show nI (a + sd_u a2 % (k - a + 1)) = nI (sd_to k a a2) from rfl) ?_
  obtain ⟨b, hb⟩ : ∃ y, y = sd_to k a a2 := ⟨_, rfl⟩
  rw [← hb] at ret ⊢
  have hb1 : a ≤ b ∧ b ≤ k := by rw [hb]; exact sd_toLe ha1
  refine lv_istore (lv' := [(4, .int (nI b)), (3, .int (nI a)), (0, .ref q), (1, .int a1), (2, .int a2)]) S.1 S.2.1 dX1_sort_27 hl (by decide) rfl (fun ls hl => ?_)
  refine lv_iconst (v := nI 1) S.1 S.2.1 dX1_sort_29 (by decide +kernel) ?_
  refine lv_istore (lv' := [(5, .int (nI 1)), (4, .int (nI b)), (3, .int (nI a)), (0, .ref q), (1, .int a1), (2, .int a2)]) S.1 S.2.1 dX1_sort_30 hl (by decide) rfl (fun ls hl => ?_)
  exact sd_y_width k a b hb1.1 (by omega) S (fun f' o' H locs ls hp hG => ret _ _ _ _ (k, f', o') dX1_sort_245 hG ⟨rfl, hp⟩) (b + 1) 1 f o (by omega) (by omega) sd_Rn.one sd_Prm.rf (by omega) _ _ _ hG (lv_sub hl [3, 2, 1, 0] rfl)
set_option maxHeartbeats 4000000 in
set_option maxRecDepth 100000 in
/-- quick(from, count) -/
theorem sd_y_quick (l : Launch) (D : va_G) (q h hq : Nat) (d : ClassId) (k : Nat) (f o : Nat → Int32) (hk : k ≤ 2048) (a1 a2 : Int32) : sd_Xv l yX1_quick cX1_quick 3 1 31 0 0 D d (sd_wm q h hq d k f o) (sd_wmf q h hq d) [.ref q, .int a1, .int a2] (fun u => u.1 = k ∧ sd_Srt u.2.1 (sd_fr k a1) (sd_to k (sd_fr k a1) a2) ∧ sd_Prm u.2.1 f (sd_fr k a1) (sd_to k (sd_fr k a1) a2)) := by
  refine sd_Xv.of (by decide) (Nat.le_of_ble_eq_true rfl) ?_
  intro p e s m below meth c A ls Q S hin hcs hA hG hl ret
  have hl : lv_has ls 3 [(0, .ref q), (1, .int a1), (2, .int a2)] := hl
  refine lv_aload_n S.1 S.2.1 dX1_quick_0 rfl (lv_at hl 0 rfl) ?_
  refine lv_iload_n S.1 S.2.1 dX1_quick_1 rfl (lv_at hl 1 rfl) ?_
  refine lv_iload_n S.1 S.2.1 dX1_quick_2 rfl (lv_at hl 2 rfl) ?_
  refine sd_callXv (nn := 2) (as := [.int a1, .int a2]) (rest := []) (wr := []) S (sd_y_sort l D q h hq d k f o hk a1 a2) (lw_V q182 q184 qs2 q5 q185) (by decide +kernel) rfl ⟨Nat.le_of_ble_eq_true rfl, Nat.le_of_ble_eq_true rfl⟩ ⟨Nat.le_of_ble_eq_true rfl, Nat.le_of_ble_eq_true rfl⟩ hcs hG hA 0 rfl [0, 1, 2] [] rfl rfl rfl rfl rfl (by decide) 1 rfl rfl rfl hl.1 rfl (Nat.le_of_ble_eq_true rfl) dX1_quick_3 (fun u H locs eu hG => ?_)
  exact ret _ _ _ _ u dX1_quick_6 hG eu
set_option maxHeartbeats 4000000 in
set_option maxRecDepth 100000 in
/-- merge(from, count) -/
theorem sd_y_merge (l : Launch) (D : va_G) (q h hq : Nat) (d : ClassId) (k : Nat) (f o : Nat → Int32) (hk : k ≤ 2048) (a1 a2 : Int32) : sd_Xv l yX1_merge cX1_merge 3 1 31 0 0 D d (sd_wm q h hq d k f o) (sd_wmf q h hq d) [.ref q, .int a1, .int a2] (fun u => u.1 = k ∧ sd_Srt u.2.1 (sd_fr k a1) (sd_to k (sd_fr k a1) a2) ∧ sd_Prm u.2.1 f (sd_fr k a1) (sd_to k (sd_fr k a1) a2)) := by
  refine sd_Xv.of (by decide) (Nat.le_of_ble_eq_true rfl) ?_
  intro p e s m below meth c A ls Q S hin hcs hA hG hl ret
  have hl : lv_has ls 3 [(0, .ref q), (1, .int a1), (2, .int a2)] := hl
  refine lv_aload_n S.1 S.2.1 dX1_merge_0 rfl (lv_at hl 0 rfl) ?_
  refine lv_iload_n S.1 S.2.1 dX1_merge_1 rfl (lv_at hl 1 rfl) ?_
  refine lv_iload_n S.1 S.2.1 dX1_merge_2 rfl (lv_at hl 2 rfl) ?_
  refine sd_callXv (nn := 2) (as := [.int a1, .int a2]) (rest := []) (wr := []) S (sd_y_sort l D q h hq d k f o hk a1 a2) (lw_V q182 q184 qs2 q5 q185) (by decide +kernel) rfl ⟨Nat.le_of_ble_eq_true rfl, Nat.le_of_ble_eq_true rfl⟩ ⟨Nat.le_of_ble_eq_true rfl, Nat.le_of_ble_eq_true rfl⟩ hcs hG hA 0 rfl [0, 1, 2] [] rfl rfl rfl rfl rfl (by decide) 1 rfl rfl rfl hl.1 rfl (Nat.le_of_ble_eq_true rfl) dX1_merge_3 (fun u H locs eu hG => ?_)
  exact ret _ _ _ _ u dX1_merge_6 hG eu
set_option maxHeartbeats 4000000 in
set_option maxRecDepth 100000 in
/-- radix(from, count) -/
theorem sd_y_radix (l : Launch) (D : va_G) (q h hq : Nat) (d : ClassId) (k : Nat) (f o : Nat → Int32) (hk : k ≤ 2048) (a1 a2 : Int32) : sd_Xv l yX1_radix cX1_radix 3 1 31 0 0 D d (sd_wm q h hq d k f o) (sd_wmf q h hq d) [.ref q, .int a1, .int a2] (fun u => u.1 = k ∧ sd_Srt u.2.1 (sd_fr k a1) (sd_to k (sd_fr k a1) a2) ∧ sd_Prm u.2.1 f (sd_fr k a1) (sd_to k (sd_fr k a1) a2)) := by
  refine sd_Xv.of (by decide) (Nat.le_of_ble_eq_true rfl) ?_
  intro p e s m below meth c A ls Q S hin hcs hA hG hl ret
  have hl : lv_has ls 3 [(0, .ref q), (1, .int a1), (2, .int a2)] := hl
  refine lv_aload_n S.1 S.2.1 dX1_radix_0 rfl (lv_at hl 0 rfl) ?_
  refine lv_iload_n S.1 S.2.1 dX1_radix_1 rfl (lv_at hl 1 rfl) ?_
  refine lv_iload_n S.1 S.2.1 dX1_radix_2 rfl (lv_at hl 2 rfl) ?_
  refine sd_callXv (nn := 2) (as := [.int a1, .int a2]) (rest := []) (wr := []) S (sd_y_sort l D q h hq d k f o hk a1 a2) (lw_V q182 q184 qs2 q5 q185) (by decide +kernel) rfl ⟨Nat.le_of_ble_eq_true rfl, Nat.le_of_ble_eq_true rfl⟩ ⟨Nat.le_of_ble_eq_true rfl, Nat.le_of_ble_eq_true rfl⟩ hcs hG hA 0 rfl [0, 1, 2] [] rfl rfl rfl rfl rfl (by decide) 1 rfl rfl rfl hl.1 rfl (Nat.le_of_ble_eq_true rfl) dX1_radix_3 (fun u H locs eu hG => ?_)
  exact ret _ _ _ _ u dX1_radix_6 hG eu
set_option maxHeartbeats 4000000 in
set_option maxRecDepth 100000 in
/-- unstable(from, count) -/
theorem sd_y_unstable (l : Launch) (D : va_G) (q h hq : Nat) (d : ClassId) (k : Nat) (f o : Nat → Int32) (hk : k ≤ 2048) (a1 a2 : Int32) : sd_Xv l yX1_unstable cX1_unstable 3 1 31 0 0 D d (sd_wm q h hq d k f o) (sd_wmf q h hq d) [.ref q, .int a1, .int a2] (fun u => u.1 = k ∧ sd_Srt u.2.1 (sd_fr k a1) (sd_to k (sd_fr k a1) a2) ∧ sd_Prm u.2.1 f (sd_fr k a1) (sd_to k (sd_fr k a1) a2)) := by
  refine sd_Xv.of (by decide) (Nat.le_of_ble_eq_true rfl) ?_
  intro p e s m below meth c A ls Q S hin hcs hA hG hl ret
  have hl : lv_has ls 3 [(0, .ref q), (1, .int a1), (2, .int a2)] := hl
  refine lv_aload_n S.1 S.2.1 dX1_unstable_0 rfl (lv_at hl 0 rfl) ?_
  refine lv_iload_n S.1 S.2.1 dX1_unstable_1 rfl (lv_at hl 1 rfl) ?_
  refine lv_iload_n S.1 S.2.1 dX1_unstable_2 rfl (lv_at hl 2 rfl) ?_
  refine sd_callXv (nn := 2) (as := [.int a1, .int a2]) (rest := []) (wr := []) S (sd_y_sort l D q h hq d k f o hk a1 a2) (lw_V q182 q184 qs2 q5 q185) (by decide +kernel) rfl ⟨Nat.le_of_ble_eq_true rfl, Nat.le_of_ble_eq_true rfl⟩ ⟨Nat.le_of_ble_eq_true rfl, Nat.le_of_ble_eq_true rfl⟩ hcs hG hA 0 rfl [0, 1, 2] [] rfl rfl rfl rfl rfl (by decide) 1 rfl rfl rfl hl.1 rfl (Nat.le_of_ble_eq_true rfl) dX1_unstable_3 (fun u H locs eu hG => ?_)
  exact ret _ _ _ _ u dX1_unstable_6 hG eu
set_option maxHeartbeats 4000000 in
set_option maxRecDepth 100000 in
theorem sd_y_rev1 {p : Program} {l : Launch} {e : Env} {R : Room} {s : State} {m : MethodId} {args : Array Value} {below : List Frame} {meth : Method} {c : Code} {Q : State → Prop} {cells slots : Nat} {D : va_G} {A : Nat → Prop} {H0 : Heap} {q h hq : Nat} {d : ClassId} {f : Nat → Int32} (k a b : Nat) (hab : a ≤ b) (hb : b ≤ 2048) (S : CallFix p m c cX1_reverse 6 s args lw_all RX1)
    (K : ∀ (o : Nat → Int32) (H : Heap) (locs : List Loc) (ls : Array Slot), (∀ j, a ≤ j → j < b → o j = f (a + b - 1 - j)) → sd_G D A H0 s [(d, .int)] (sd_wm q h hq d k f o) H locs → lv_has ls 6 [(0, .ref q), (3, .int (nI a)), (4, .int (nI b))] → W p l e R s m args below meth c H locs cells slots Q (F0 m 66 ls [])) :
    ∀ (z y : Nat) (o : Nat → Int32), a ≤ y → y ≤ b → (∀ j, a ≤ j → j < y → o j = f (a + b - 1 - j)) → b - y < z → ∀ (H : Heap) (locs : List Loc) (ls : Array Slot), sd_G D A H0 s [(d, .int)] (sd_wm q h hq d k f o) H locs → lv_has ls 6 [(0, .ref q), (3, .int (nI a)), (4, .int (nI b)), (5, .int (nI y))] → W p l e R s m args below meth c H locs cells slots Q (F0 m 32 ls []) := by
  intro z
  induction z with
  | zero => intro y o h1 h2 h3 h4; exact absurd h4 (Nat.not_lt_zero _)
  | succ z ih =>
    intro y o h1 h2 h3 h4 H locs ls hG hl
    refine lv_iload S.1 S.2.1 dX1_reverse_32 (lv_at hl 3 rfl) ?_
    refine lv_iload S.1 S.2.1 dX1_reverse_34 (lv_at hl 2 rfl) ?_
    refine sd_ge (tgt := 66) S.1 S.2.1 dX1_reverse_36 (by decide) (sd_nT (by omega)) (sd_nT (by omega)) (fun c1 => ?_) (fun c1 => ?_)
    · have e9 : y = b := by omega
      rw [e9] at h3
      exact K o H locs ls h3 hG (lv_sub hl [0, 1, 2] rfl)
    · refine lv_aload_n S.1 S.2.1 dX1_reverse_39 rfl (lv_at hl 0 rfl) ?_
      refine va_get (D := D) (ci := 1) (v := .ref hq) (C := RX1) (T := TX1) (N := 3) S.1 S.2.1 S.2.2.2.2 in_X1 S.2.2.2.1 hG.1 hG.2.1 0 rfl rfl 1 (by decide) (S.2.2.2.2 _ q148) (fun _ h9 => h9) rfl dX1_reverse_40 ?_
      refine lv_iload S.1 S.2.1 dX1_reverse_43 (lv_at hl 3 rfl) ?_
      refine lv_aload_n S.1 S.2.1 dX1_reverse_45 rfl (lv_at hl 0 rfl) ?_
      refine va_get (D := D) (ci := 1) (v := .ref h) (C := RX1) (T := TX1) (N := 3) S.1 S.2.1 S.2.2.2.2 in_X1 S.2.2.2.1 hG.1 hG.2.1 0 rfl rfl 0 (by decide) (S.2.2.2.2 _ q147) (fun _ h9 => h9) rfl dX1_reverse_46 ?_
      refine lv_iload_n S.1 S.2.1 dX1_reverse_49 rfl (lv_at hl 1 rfl) ?_
      refine lv_iload S.1 S.2.1 dX1_reverse_50 (lv_at hl 2 rfl) ?_
      refine sd_iadd S.1 S.2.1 dX1_reverse_52 ?_
      refine lv_iconst (v := nI 1) S.1 S.2.1 dX1_reverse_53 (by decide +kernel) ?_
      refine sd_isub S.1 S.2.1 (by omega) dX1_reverse_54 ?_
      refine lv_iload S.1 S.2.1 dX1_reverse_55 (lv_at hl 3 rfl) ?_
      refine sd_isub S.1 S.2.1 (by omega) dX1_reverse_57 ?_
      refine sd_iald S.1 S.2.1 hG 1 0 rfl rfl (by omega) (by omega) dX1_reverse_58 ?_
      refine sd_iast S.1 S.2.1 hG 2 0 rfl rfl (by omega) (by omega) dX1_reverse_59 (fun H locs hG => ?_)
      have hG : sd_G D A H0 s [(d, .int)] [(q, .inr (1, [.ref h, .ref hq, .int (nI k)])), sd_ar h d 2048 f, sd_ar hq d 2048 (upd o y (f (((a + b) - 1) - y)))] H locs := hG
      refine lv_iinc (v := nI (y + 1)) (lv' := [(5, .int (nI (y + 1))), (0, .ref q), (3, .int (nI a)), (4, .int (nI b))]) S.1 S.2.1 dX1_reverse_60 hl (k := 3) rfl (sd_i1 _) (by decide) rfl (fun ls hl => ?_)
      refine lv_goto (tgt := 32) S.1 S.2.1 dX1_reverse_63 (by decide) ?_
      refine ih (y + 1) _ (by omega) (by omega) (fun j q1 q2 => ?_) (by omega) H locs ls hG (lv_sub hl [1, 2, 3, 0] rfl)
      by_cases e9 : j = y
      · rw [e9]; exact pk_us
      · rw [pk_un e9]; exact h3 j q1 (by omega)
set_option maxHeartbeats 4000000 in
set_option maxRecDepth 100000 in
theorem sd_y_rev2 {p : Program} {l : Launch} {e : Env} {R : Room} {s : State} {m : MethodId} {args : Array Value} {below : List Frame} {meth : Method} {c : Code} {Q : State → Prop} {cells slots : Nat} {D : va_G} {A : Nat → Prop} {H0 : Heap} {q h hq : Nat} {d : ClassId} {f o : Nat → Int32} (k a b : Nat) (hb : b ≤ 2048) (S : CallFix p m c cX1_reverse 6 s args lw_all RX1)
    (K : ∀ (f' : Nat → Int32) (H : Heap) (locs : List Loc) (ls : Array Slot), (∀ i, a ≤ i → i < b → f' i = o i) → (∀ i, i < a ∨ b ≤ i → f' i = f i) → sd_G D A H0 s [(d, .int)] (sd_wm q h hq d k f' o) H locs → W p l e R s m args below meth c H locs cells slots Q (F0 m 96 ls [])) :
    ∀ (z y : Nat) (f' : Nat → Int32), a ≤ y → y ≤ b → (∀ i, a ≤ i → i < y → f' i = o i) → (∀ i, i < a ∨ y ≤ i → f' i = f i) → b - y < z → ∀ (H : Heap) (locs : List Loc) (ls : Array Slot), sd_G D A H0 s [(d, .int)] (sd_wm q h hq d k f' o) H locs → lv_has ls 6 [(0, .ref q), (3, .int (nI a)), (4, .int (nI b)), (5, .int (nI y))] → W p l e R s m args below meth c H locs cells slots Q (F0 m 69 ls []) := by
  intro z
  induction z with
  | zero => intro y f' h1 h2 h3 h4 h5; exact absurd h5 (Nat.not_lt_zero _)
  | succ z ih =>
    intro y f' h1 h2 h3 h4 h5 H locs ls hG hl
    refine lv_iload S.1 S.2.1 dX1_reverse_69 (lv_at hl 3 rfl) ?_
    refine lv_iload S.1 S.2.1 dX1_reverse_71 (lv_at hl 2 rfl) ?_
    refine sd_ge (tgt := 96) S.1 S.2.1 dX1_reverse_73 (by decide) (sd_nT (by omega)) (sd_nT (by omega)) (fun c1 => ?_) (fun c1 => ?_)
    · have e9 : y = b := by omega
      subst e9
      exact K f' H locs ls h3 h4 hG
    · refine lv_aload_n S.1 S.2.1 dX1_reverse_76 rfl (lv_at hl 0 rfl) ?_
      refine va_get (D := D) (ci := 1) (v := .ref h) (C := RX1) (T := TX1) (N := 3) S.1 S.2.1 S.2.2.2.2 in_X1 S.2.2.2.1 hG.1 hG.2.1 0 rfl rfl 0 (by decide) (S.2.2.2.2 _ q147) (fun _ h9 => h9) rfl dX1_reverse_77 ?_
      refine lv_iload S.1 S.2.1 dX1_reverse_80 (lv_at hl 3 rfl) ?_
      refine lv_aload_n S.1 S.2.1 dX1_reverse_82 rfl (lv_at hl 0 rfl) ?_
      refine va_get (D := D) (ci := 1) (v := .ref hq) (C := RX1) (T := TX1) (N := 3) S.1 S.2.1 S.2.2.2.2 in_X1 S.2.2.2.1 hG.1 hG.2.1 0 rfl rfl 1 (by decide) (S.2.2.2.2 _ q148) (fun _ h9 => h9) rfl dX1_reverse_83 ?_
      refine lv_iload S.1 S.2.1 dX1_reverse_86 (lv_at hl 3 rfl) ?_
      refine sd_iald S.1 S.2.1 hG 2 0 rfl rfl (by omega) (by omega) dX1_reverse_88 ?_
      refine sd_iast S.1 S.2.1 hG 1 0 rfl rfl (by omega) (by omega) dX1_reverse_89 (fun H locs hG => ?_)
      have hG : sd_G D A H0 s [(d, .int)] [(q, .inr (1, [.ref h, .ref hq, .int (nI k)])), sd_ar h d 2048 (upd f' y (o y)), sd_ar hq d 2048 o] H locs := hG
      refine lv_iinc (v := nI (y + 1)) (lv' := [(5, .int (nI (y + 1))), (0, .ref q), (3, .int (nI a)), (4, .int (nI b))]) S.1 S.2.1 dX1_reverse_90 hl (k := 3) rfl (sd_i1 _) (by decide) rfl (fun ls hl => ?_)
      refine lv_goto (tgt := 69) S.1 S.2.1 dX1_reverse_93 (by decide) ?_
      refine ih (y + 1) _ (by omega) (by omega) (fun i q1 q2 => ?_) (fun i q1 => ?_) (by omega) H locs ls hG (lv_sub hl [1, 2, 3, 0] rfl)
      · by_cases e9 : i = y
        · rw [e9]; exact pk_us
        · rw [pk_un e9]; exact h3 i q1 (by omega)
      · rw [pk_un (by omega)]; exact h4 i (by omega)
set_option maxHeartbeats 4000000 in
set_option maxRecDepth 100000 in
/-- reverse(from, count) -/
theorem sd_y_reverse (l : Launch) (D : va_G) (q h hq : Nat) (d : ClassId) (k : Nat) (f o : Nat → Int32) (hk : k ≤ 2048) (a1 a2 : Int32) : sd_Xv l yX1_reverse cX1_reverse 6 0 0 0 0 D d (sd_wm q h hq d k f o) (sd_wmf q h hq d) [.ref q, .int a1, .int a2] (fun u => u.1 = k ∧ sd_Rev u.2.1 f (sd_fr k a1) (sd_to k (sd_fr k a1) a2)) := by
  refine sd_Xv.of (by decide) (Nat.le_of_ble_eq_true rfl) ?_
  intro p e s m below meth c A ls Q S hin hcs hA hG hl ret
  have hl : lv_has ls 6 [(0, .ref q), (1, .int a1), (2, .int a2)] := hl
  refine lv_iload_n S.1 S.2.1 dX1_reverse_0 rfl (lv_at hl 1 rfl) ?_
  refine lv_ldc (v := 2147483647) S.1 S.2.1 S.2.2.2.1 (S.2.2.2.2 _ q165) dX1_reverse_1 ?_
  refine sd_iand S.1 S.2.1 dX1_reverse_3 ?_
  refine lv_aload_n S.1 S.2.1 dX1_reverse_4 rfl (lv_at hl 0 rfl) ?_
  refine va_get (D := D) (ci := 1) (v := .int (nI k)) (C := RX1) (T := TX1) (N := 3) S.1 S.2.1 S.2.2.2.2 in_X1 S.2.2.2.1 hG.1 hG.2.1 0 rfl rfl 2 (by decide) (S.2.2.2.2 _ q149) (fun _ h9 => h9) rfl dX1_reverse_5 ?_
  refine lv_iconst (v := nI 1) S.1 S.2.1 dX1_reverse_8 (by decide +kernel) ?_
  refine sd_iadd S.1 S.2.1 dX1_reverse_9 ?_
  refine sd_irem S.1 S.2.1 (sd_uLt _) (by omega) (by omega) dX1_reverse_10 ?_
  refine sd_top (show nI (sd_u a1 % (k + 1)) = nI (sd_fr k a1) from rfl) ?_
  obtain ⟨a, ha⟩ : ∃ y, y = sd_fr k a1 := ⟨_, rfl⟩
  rw [← ha] at ret ⊢
  have ha1 : a ≤ k := by rw [ha]; exact sd_frLe
  refine lv_istore_n (lv' := [(3, .int (nI a)), (0, .ref q), (1, .int a1), (2, .int a2)]) S.1 S.2.1 dX1_reverse_11 rfl hl (by decide) rfl (fun ls hl => ?_)
  refine lv_iload_n S.1 S.2.1 dX1_reverse_12 rfl (lv_at hl 0 rfl) ?_
  refine lv_iload_n S.1 S.2.1 dX1_reverse_13 rfl (lv_at hl 3 rfl) ?_
  refine lv_ldc (v := 2147483647) S.1 S.2.1 S.2.2.2.1 (S.2.2.2.2 _ q165) dX1_reverse_14 ?_
  refine sd_iand S.1 S.2.1 dX1_reverse_16 ?_
  refine lv_aload_n S.1 S.2.1 dX1_reverse_17 rfl (lv_at hl 1 rfl) ?_
  refine va_get (D := D) (ci := 1) (v := .int (nI k)) (C := RX1) (T := TX1) (N := 3) S.1 S.2.1 S.2.2.2.2 in_X1 S.2.2.2.1 hG.1 hG.2.1 0 rfl rfl 2 (by decide) (S.2.2.2.2 _ q149) (fun _ h9 => h9) rfl dX1_reverse_18 ?_
  refine lv_iload_n S.1 S.2.1 dX1_reverse_21 rfl (lv_at hl 0 rfl) ?_
  refine sd_isub S.1 S.2.1 (by omega) dX1_reverse_22 ?_
  refine lv_iconst (v := nI 1) S.1 S.2.1 dX1_reverse_23 (by decide +kernel) ?_
  refine sd_iadd S.1 S.2.1 dX1_reverse_24 ?_
  refine sd_irem S.1 S.2.1 (sd_uLt _) (by omega) (by omega) dX1_reverse_25 ?_
  refine sd_iadd S.1 S.2.1 dX1_reverse_26 ?_
  refine sd_top (show nI (a + sd_u a2 % (k - a + 1)) = nI (sd_to k a a2) from rfl) ?_
  obtain ⟨b, hb⟩ : ∃ y, y = sd_to k a a2 := ⟨_, rfl⟩
  rw [← hb] at ret ⊢
  have hb1 : a ≤ b ∧ b ≤ k := by rw [hb]; exact sd_toLe ha1
  refine lv_istore (lv' := [(4, .int (nI b)), (3, .int (nI a)), (0, .ref q), (1, .int a1), (2, .int a2)]) S.1 S.2.1 dX1_reverse_27 hl (by decide) rfl (fun ls hl => ?_)
  refine lv_iload_n S.1 S.2.1 dX1_reverse_29 rfl (lv_at hl 1 rfl) ?_
  refine lv_istore (lv' := [(5, .int (nI a)), (4, .int (nI b)), (3, .int (nI a)), (0, .ref q), (1, .int a1), (2, .int a2)]) S.1 S.2.1 dX1_reverse_30 hl (by decide) rfl (fun ls hl => ?_)
  refine sd_y_rev1 k a b hb1.1 (by omega) S (fun o H locs ls ho hG hl => ?_) (b + 1) a o (Nat.le_refl a) hb1.1 (fun j q1 q2 => absurd q2 (by omega)) (by omega) _ _ _ hG (lv_sub hl [3, 2, 1, 0] rfl)
  refine lv_iload_n S.1 S.2.1 dX1_reverse_66 rfl (lv_at hl 1 rfl) ?_
  refine lv_istore (lv' := [(5, .int (nI a)), (0, .ref q), (3, .int (nI a)), (4, .int (nI b))]) S.1 S.2.1 dX1_reverse_67 hl (by decide) rfl (fun ls hl => ?_)
  exact sd_y_rev2 (f := f) (o := o) k a b (by omega) S (fun f' H locs ls e1 e2 hG => ret _ _ _ _ (k, f', o) dX1_reverse_96 hG ⟨rfl, fun j q1 q2 => (e1 j q1 q2).trans (ho j q1 q2), e2⟩) (b + 1) a f (Nat.le_refl a) hb1.1 (fun i q1 q2 => absurd q2 (by omega)) (fun i _ => rfl) (by omega) H locs ls hG (lv_sub hl [1, 2, 3, 0] rfl)
set_option maxHeartbeats 4000000 in
set_option maxRecDepth 100000 in
theorem sd_y_find1 {p : Program} {l : Launch} {e : Env} {R : Room} {s : State} {m : MethodId} {args : Array Value} {below : List Frame} {meth : Method} {c : Code} {Q : State → Prop} {cells slots : Nat} {D : va_G} {A : Nat → Prop} {H0 : Heap} {q h hq : Nat} {d : ClassId} {f o : Nat → Int32} {H : Heap} {locs : List Loc} (k a b : Nat) (key : Int32) (hab : a ≤ b) (hb : b ≤ 2048) (S : CallFix p m c cX1_find 7 s args lw_all RX1) (hG : sd_G D A H0 s [(d, .int)] (sd_wm q h hq d k f o) H locs)
    (K1 : ∀ (ls : Array Slot), ¬ sd_As f a b → W p l e R s m args below meth c H locs cells slots Q (F0 m 66 ls [.int (-1000000)]))
    (K2 : ∀ (ls : Array Slot), sd_As f a b → lv_has ls 7 [(0, .ref q), (3, .int key), (4, .int (nI a)), (5, .int (nI b))] → W p l e R s m args below meth c H locs cells slots Q (F0 m 73 ls [])) :
    ∀ (z i : Nat), a ≤ i → i ≤ b → (∀ j, a ≤ j → j < i → (f j).toInt < (f (j + 1)).toInt) → b - i < z → ∀ (ls : Array Slot), lv_has ls 7 [(0, .ref q), (3, .int key), (4, .int (nI a)), (5, .int (nI b)), (6, .int (nI i))] → W p l e R s m args below meth c H locs cells slots Q (F0 m 36 ls []) := by
  intro z
  induction z with
  | zero => intro i h1 h2 h3 h4; exact absurd h4 (Nat.not_lt_zero _)
  | succ z ih =>
    intro i h1 h2 h3 h4 ls hl
    refine lv_iload S.1 S.2.1 dX1_find_36 (lv_at hl 4 rfl) ?_
    refine lv_iconst (v := nI 1) S.1 S.2.1 dX1_find_38 (by decide +kernel) ?_
    refine sd_iadd S.1 S.2.1 dX1_find_39 ?_
    refine lv_iload S.1 S.2.1 dX1_find_40 (lv_at hl 3 rfl) ?_
    refine sd_ge (tgt := 73) S.1 S.2.1 dX1_find_42 (by decide) (sd_nT (by omega)) (sd_nT (by omega)) (fun c1 => ?_) (fun c1 => ?_)
    · exact K2 ls (fun j q1 q2 => h3 j q1 (by omega)) (lv_sub hl [0, 1, 2, 3] rfl)
    · refine lv_aload_n S.1 S.2.1 dX1_find_45 rfl (lv_at hl 0 rfl) ?_
      refine va_get (D := D) (ci := 1) (v := .ref h) (C := RX1) (T := TX1) (N := 3) S.1 S.2.1 S.2.2.2.2 in_X1 S.2.2.2.1 hG.1 hG.2.1 0 rfl rfl 0 (by decide) (S.2.2.2.2 _ q147) (fun _ h9 => h9) rfl dX1_find_46 ?_
      refine lv_iload S.1 S.2.1 dX1_find_49 (lv_at hl 4 rfl) ?_
      refine sd_iald S.1 S.2.1 hG 1 0 rfl rfl (by omega) (by omega) dX1_find_51 ?_
      refine lv_aload_n S.1 S.2.1 dX1_find_52 rfl (lv_at hl 0 rfl) ?_
      refine va_get (D := D) (ci := 1) (v := .ref h) (C := RX1) (T := TX1) (N := 3) S.1 S.2.1 S.2.2.2.2 in_X1 S.2.2.2.1 hG.1 hG.2.1 0 rfl rfl 0 (by decide) (S.2.2.2.2 _ q147) (fun _ h9 => h9) rfl dX1_find_53 ?_
      refine lv_iload S.1 S.2.1 dX1_find_56 (lv_at hl 4 rfl) ?_
      refine lv_iconst (v := nI 1) S.1 S.2.1 dX1_find_58 (by decide +kernel) ?_
      refine sd_iadd S.1 S.2.1 dX1_find_59 ?_
      refine sd_iald S.1 S.2.1 hG 1 0 rfl rfl (by omega) (by omega) dX1_find_60 ?_
      refine sd_lt (tgt := 67) S.1 S.2.1 dX1_find_61 (by decide) rfl rfl (fun c2 => ?_) (fun c2 => ?_)
      · refine lv_iinc (v := nI (i + 1)) (lv' := [(6, .int (nI (i + 1))), (0, .ref q), (3, .int key), (4, .int (nI a)), (5, .int (nI b))]) S.1 S.2.1 dX1_find_67 hl (k := 4) rfl (sd_i1 _) (by decide) rfl (fun ls hl => ?_)
        refine lv_goto (tgt := 36) S.1 S.2.1 dX1_find_70 (by decide) ?_
        refine ih (i + 1) (by omega) (by omega) (fun j q1 q2 => ?_) (by omega) ls (lv_sub hl [1, 2, 3, 4, 0] rfl)
        by_cases e9 : j = i
        · rw [e9]; exact c2
        · exact h3 j q1 (by omega)
      · refine lv_ldc (v := (-1000000)) S.1 S.2.1 S.2.2.2.1 (S.2.2.2.2 _ q206) dX1_find_64 ?_
        refine K1 ls (fun hs => ?_)
        have e9 := hs i (by omega) (by omega)
        omega
set_option maxHeartbeats 4000000 in
set_option maxRecDepth 100000 in
theorem sd_y_find2 {p : Program} {l : Launch} {e : Env} {R : Room} {s : State} {m : MethodId} {args : Array Value} {below : List Frame} {meth : Method} {c : Code} {Q : State → Prop} {cells slots : Nat} {D : va_G} {A : Nat → Prop} {H0 : Heap} {q h hq : Nat} {d : ClassId} {f o : Nat → Int32} {H : Heap} {locs : List Loc} (k a b : Nat) (key : Int32) (hab : a ≤ b) (hb : b ≤ 2048) (S : CallFix p m c cX1_find 7 s args lw_all RX1) (hG : sd_G D A H0 s [(d, .int)] (sd_wm q h hq d k f o) H locs)
    (K : ∀ (i : Nat) (ls : Array Slot), a ≤ i → i ≤ b → (∀ j, a ≤ j → j < i → (f j).toInt < key.toInt) → (i < b → key.toInt ≤ (f i).toInt) → lv_has ls 7 [(0, .ref q), (3, .int key), (4, .int (nI a)), (5, .int (nI b)), (6, .int (nI i))] → W p l e R s m args below meth c H locs cells slots Q (F0 m 104 ls [])) :
    ∀ (z i : Nat), a ≤ i → i ≤ b → (∀ j, a ≤ j → j < i → (f j).toInt < key.toInt) → b - i < z → ∀ (ls : Array Slot), lv_has ls 7 [(0, .ref q), (3, .int key), (4, .int (nI a)), (5, .int (nI b)), (6, .int (nI i))] → W p l e R s m args below meth c H locs cells slots Q (F0 m 77 ls []) := by
  intro z
  induction z with
  | zero => intro i h1 h2 h3 h4; exact absurd h4 (Nat.not_lt_zero _)
  | succ z ih =>
    intro i h1 h2 h3 h4 ls hl
    refine lv_iload S.1 S.2.1 dX1_find_77 (lv_at hl 4 rfl) ?_
    refine lv_iload S.1 S.2.1 dX1_find_79 (lv_at hl 3 rfl) ?_
    refine sd_ge (tgt := 104) S.1 S.2.1 dX1_find_81 (by decide) (sd_nT (by omega)) (sd_nT (by omega)) (fun c1 => ?_) (fun c1 => ?_)
    · exact K i ls h1 h2 h3 (fun q9 => absurd q9 (by omega)) (lv_sub hl [0, 1, 2, 3, 4] rfl)
    · refine lv_aload_n S.1 S.2.1 dX1_find_84 rfl (lv_at hl 0 rfl) ?_
      refine va_get (D := D) (ci := 1) (v := .ref h) (C := RX1) (T := TX1) (N := 3) S.1 S.2.1 S.2.2.2.2 in_X1 S.2.2.2.1 hG.1 hG.2.1 0 rfl rfl 0 (by decide) (S.2.2.2.2 _ q147) (fun _ h9 => h9) rfl dX1_find_85 ?_
      refine lv_iload S.1 S.2.1 dX1_find_88 (lv_at hl 4 rfl) ?_
      refine sd_iald S.1 S.2.1 hG 1 0 rfl rfl (by omega) (by omega) dX1_find_90 ?_
      refine lv_iload_n S.1 S.2.1 dX1_find_91 rfl (lv_at hl 1 rfl) ?_
      refine sd_ge (tgt := 104) S.1 S.2.1 dX1_find_92 (by decide) rfl rfl (fun c2 => ?_) (fun c2 => ?_)
      · exact K i ls h1 h2 h3 (fun _ => c2) (lv_sub hl [0, 1, 2, 3, 4] rfl)
      · refine lv_iload S.1 S.2.1 dX1_find_95 (lv_at hl 4 rfl) ?_
        refine lv_iconst (v := nI 1) S.1 S.2.1 dX1_find_97 (by decide +kernel) ?_
        refine sd_iadd S.1 S.2.1 dX1_find_98 ?_
        refine lv_istore (lv' := [(6, .int (nI (i + 1))), (0, .ref q), (3, .int key), (4, .int (nI a)), (5, .int (nI b))]) S.1 S.2.1 dX1_find_99 hl (by decide) rfl (fun ls hl => ?_)
        refine lv_goto (tgt := 77) S.1 S.2.1 dX1_find_101 (by decide) ?_
        refine ih (i + 1) (by omega) (by omega) (fun j q1 q2 => ?_) (by omega) ls (lv_sub hl [1, 2, 3, 4, 0] rfl)
        by_cases e9 : j = i
        · rw [e9]; exact c2
        · exact h3 j q1 (by omega)
set_option maxHeartbeats 4000000 in
set_option maxRecDepth 100000 in
/-- find(from, count, key) -/
theorem sd_y_find (l : Launch) (D : va_G) (q h hq : Nat) (d : ClassId) (k : Nat) (f o : Nat → Int32) (hk : k ≤ 2048) (a1 a2 key : Int32) : sd_Xi l yX1_find cX1_find 7 .int 0 0 0 0 D d (sd_wm q h hq d k f o) (sd_wmf q h hq d) [.ref q, .int a1, .int a2, .int key] (fun r u => sd_Fd f (sd_fr k a1) (sd_to k (sd_fr k a1) a2) key r ∧ u = (k, f, o)) := by
  refine sd_Xi.of (by decide) (Nat.le_of_ble_eq_true rfl) ?_
  intro p e s m below meth c A ls Q S hcs hA hG hl ret
  have hl : lv_has ls 7 [(0, .ref q), (1, .int a1), (2, .int a2), (3, .int key)] := hl
  refine lv_iload_n S.1 S.2.1 dX1_find_0 rfl (lv_at hl 1 rfl) ?_
  refine lv_ldc (v := 2147483647) S.1 S.2.1 S.2.2.2.1 (S.2.2.2.2 _ q165) dX1_find_1 ?_
  refine sd_iand S.1 S.2.1 dX1_find_3 ?_
  refine lv_aload_n S.1 S.2.1 dX1_find_4 rfl (lv_at hl 0 rfl) ?_
  refine va_get (D := D) (ci := 1) (v := .int (nI k)) (C := RX1) (T := TX1) (N := 3) S.1 S.2.1 S.2.2.2.2 in_X1 S.2.2.2.1 hG.1 hG.2.1 0 rfl rfl 2 (by decide) (S.2.2.2.2 _ q149) (fun _ h9 => h9) rfl dX1_find_5 ?_
  refine lv_iconst (v := nI 1) S.1 S.2.1 dX1_find_8 (by decide +kernel) ?_
  refine sd_iadd S.1 S.2.1 dX1_find_9 ?_
  refine sd_irem S.1 S.2.1 (sd_uLt _) (by omega) (by omega) dX1_find_10 ?_
  refine sd_top (show nI (sd_u a1 % (k + 1)) = nI (sd_fr k a1) from rfl) ?_
  obtain ⟨a, ha⟩ : ∃ y, y = sd_fr k a1 := ⟨_, rfl⟩
  rw [← ha] at ret ⊢
  have ha1 : a ≤ k := by rw [ha]; exact sd_frLe
  refine lv_istore (lv' := [(4, .int (nI a)), (0, .ref q), (1, .int a1), (2, .int a2), (3, .int key)]) S.1 S.2.1 dX1_find_11 hl (by decide) rfl (fun ls hl => ?_)
  refine lv_iload S.1 S.2.1 dX1_find_13 (lv_at hl 0 rfl) ?_
  refine lv_iload_n S.1 S.2.1 dX1_find_15 rfl (lv_at hl 3 rfl) ?_
  refine lv_ldc (v := 2147483647) S.1 S.2.1 S.2.2.2.1 (S.2.2.2.2 _ q165) dX1_find_16 ?_
  refine sd_iand S.1 S.2.1 dX1_find_18 ?_
  refine lv_aload_n S.1 S.2.1 dX1_find_19 rfl (lv_at hl 1 rfl) ?_
  refine va_get (D := D) (ci := 1) (v := .int (nI k)) (C := RX1) (T := TX1) (N := 3) S.1 S.2.1 S.2.2.2.2 in_X1 S.2.2.2.1 hG.1 hG.2.1 0 rfl rfl 2 (by decide) (S.2.2.2.2 _ q149) (fun _ h9 => h9) rfl dX1_find_20 ?_
  refine lv_iload S.1 S.2.1 dX1_find_23 (lv_at hl 0 rfl) ?_
  refine sd_isub S.1 S.2.1 (by omega) dX1_find_25 ?_
  refine lv_iconst (v := nI 1) S.1 S.2.1 dX1_find_26 (by decide +kernel) ?_
  refine sd_iadd S.1 S.2.1 dX1_find_27 ?_
  refine sd_irem S.1 S.2.1 (sd_uLt _) (by omega) (by omega) dX1_find_28 ?_
  refine sd_iadd S.1 S.2.1 dX1_find_29 ?_
  refine sd_top (show nI (a + sd_u a2 % (k - a + 1)) = nI (sd_to k a a2) from rfl) ?_
  obtain ⟨b, hb⟩ : ∃ y, y = sd_to k a a2 := ⟨_, rfl⟩
  rw [← hb] at ret ⊢
  have hb1 : a ≤ b ∧ b ≤ k := by rw [hb]; exact sd_toLe ha1
  refine lv_istore (lv' := [(5, .int (nI b)), (4, .int (nI a)), (0, .ref q), (1, .int a1), (2, .int a2), (3, .int key)]) S.1 S.2.1 dX1_find_30 hl (by decide) rfl (fun ls hl => ?_)
  refine lv_iload S.1 S.2.1 dX1_find_32 (lv_at hl 1 rfl) ?_
  refine lv_istore (lv' := [(6, .int (nI a)), (5, .int (nI b)), (4, .int (nI a)), (0, .ref q), (1, .int a1), (2, .int a2), (3, .int key)]) S.1 S.2.1 dX1_find_34 hl (by decide) rfl (fun ls hl => ?_)
  refine sd_y_find1 k a b key hb1.1 (by omega) S hG (fun ls hs => ?_) (fun ls hs hl => ?_) (b + 1) a (Nat.le_refl a) hb1.1 (fun j q1 q2 => absurd q2 (by omega)) (by omega) _ (lv_sub hl [3, 6, 2, 1, 0] rfl)
  · exact ret _ _ _ _ _ (k, f, o) dX1_find_66 (sd_nwi _) hG ⟨Or.inl ⟨hs, rfl⟩, rfl⟩
  · refine lv_iload S.1 S.2.1 dX1_find_73 (lv_at hl 2 rfl) ?_
    refine lv_istore (lv' := [(6, .int (nI a)), (0, .ref q), (3, .int key), (4, .int (nI a)), (5, .int (nI b))]) S.1 S.2.1 dX1_find_75 hl (by decide) rfl (fun ls hl => ?_)
    refine sd_y_find2 k a b key hb1.1 (by omega) S hG (fun i ls h1 h2 h3 h4 hl => ?_) (b + 1) a (Nat.le_refl a) hb1.1 (fun j q1 q2 => absurd q2 (by omega)) (by omega) _ (lv_sub hl [1, 2, 3, 4, 0] rfl)
    have hsr := hs.srt
    refine lv_iload S.1 S.2.1 dX1_find_104 (lv_at hl 4 rfl) ?_
    refine lv_iload S.1 S.2.1 dX1_find_106 (lv_at hl 3 rfl) ?_
    refine sd_ge (tgt := 127) S.1 S.2.1 dX1_find_108 (by decide) (sd_nT (by omega)) (sd_nT (by omega)) (fun c1 => ?_) (fun c1 => ?_)
    · refine lv_iload S.1 S.2.1 dX1_find_127 (lv_at hl 4 rfl) ?_
      refine lv_ineg S.1 S.2.1 dX1_find_129 ?_
      refine lv_iconst (v := nI 1) S.1 S.2.1 dX1_find_130 (by decide +kernel) ?_
      refine lv_isub S.1 S.2.1 dX1_find_131 ?_
      exact ret _ _ _ _ _ (k, f, o) dX1_find_132 (sd_nwi _) hG ⟨Or.inr ⟨hs, Or.inr ⟨i, h1, h2, h3, fun j q1 q2 => absurd q2 (by omega), sd_ng i⟩⟩, rfl⟩
    · refine lv_aload_n S.1 S.2.1 dX1_find_111 rfl (lv_at hl 0 rfl) ?_
      refine va_get (D := D) (ci := 1) (v := .ref h) (C := RX1) (T := TX1) (N := 3) S.1 S.2.1 S.2.2.2.2 in_X1 S.2.2.2.1 hG.1 hG.2.1 0 rfl rfl 0 (by decide) (S.2.2.2.2 _ q147) (fun _ h9 => h9) rfl dX1_find_112 ?_
      refine lv_iload S.1 S.2.1 dX1_find_115 (lv_at hl 4 rfl) ?_
      refine sd_iald S.1 S.2.1 hG 1 0 rfl rfl (by omega) (by omega) dX1_find_117 ?_
      refine lv_iload_n S.1 S.2.1 dX1_find_118 rfl (lv_at hl 1 rfl) ?_
      refine sd_ne (tgt := 127) S.1 S.2.1 dX1_find_119 (by decide) rfl rfl (fun c2 => ?_) (fun c2 => ?_)
      · refine lv_iload S.1 S.2.1 dX1_find_127 (lv_at hl 4 rfl) ?_
        refine lv_ineg S.1 S.2.1 dX1_find_129 ?_
        refine lv_iconst (v := nI 1) S.1 S.2.1 dX1_find_130 (by decide +kernel) ?_
        refine lv_isub S.1 S.2.1 dX1_find_131 ?_
        exact ret _ _ _ _ _ (k, f, o) dX1_find_132 (sd_nwi _) hG ⟨Or.inr ⟨hs, Or.inr ⟨i, h1, h2, h3, fun j q1 q2 => by have := hsr i j h1 q1 q2; have := h4 (by omega); omega, sd_ng i⟩⟩, rfl⟩
      · refine lv_iload S.1 S.2.1 dX1_find_122 (lv_at hl 4 rfl) ?_
        refine lv_goto (tgt := 132) S.1 S.2.1 dX1_find_124 (by decide) ?_
        exact ret _ _ _ _ _ (k, f, o) dX1_find_132 (sd_nwi _) hG ⟨Or.inr ⟨hs, Or.inl ⟨i, h1, by omega, by omega, rfl⟩⟩, rfl⟩
set_option maxHeartbeats 4000000 in
set_option maxRecDepth 100000 in
/-- SortDeskModel() -/
theorem sd_y_init (l : Launch) (D : va_G) (q : Nat) (d : ClassId) : sd_Xv l yX1_init cX1_init 1 1 12 2 4096 D d [(q, .inr (1, [.null, .null, .int 0]))] (fun u : Nat × Nat => sd_wm q u.1 u.2 d 0 (fun _ => 0) (fun _ => 0)) [.ref q] (fun _ => True) := by
  refine sd_Xv.of (by decide) (Nat.le_of_ble_eq_true rfl) ?_
  intro p e s m below meth c A ls Q S hin hcs hA hG hl ret
  have hl : lv_has ls 1 [(0, .ref q)] := hl
  refine lv_aload_n S.1 S.2.1 dX1_init_0 rfl (lv_at hl 0 rfl) ?_
  refine W.objInit S.1 S.2.1 S.2.2.2.1 (S.2.2.2.2 _ q146) (S.2.2.2.2 _ q17) (S.2.2.2.2 _ q18) rfl (by rw [S.2.2.1]; exact hl.1) rfl dX1_init_1 (Nat.le_of_ble_eq_true rfl) (Nat.le_of_ble_eq_true rfl) ?_
  refine W.eq (g2 := F0 m 4 ls []) rfl ?_
  refine lv_aload_n S.1 S.2.1 dX1_init_4 rfl (lv_at hl 0 rfl) ?_
  refine lv_sipush (v := nI 2048) S.1 S.2.1 dX1_init_5 (by decide +kernel) ?_
  refine sd_newa S hG hA 0 rfl (Nat.le_refl _) ⟨Nat.le_of_ble_eq_true rfl, Nat.le_of_ble_eq_true rfl⟩ dX1_init_8 (fun h H hG => ?_)
  have hG : sd_G D A s.heap s [(d, .int)] [(q, .inr (1, [.null, .null, .int 0])), sd_ar h d 2048 (fun _ => 0)] H [] := hG
  refine va_putF (D := D) (ci := 1) (v := .ref h) (ty := .array .int) (C := RX1) (T := TX1) (N := 3) S.1 S.2.1 S.2.2.2.2 in_X1 tyX1 tyX1_ok nmX1 S.2.2.2.1 hG.1 hG.2.1 hG.2.2.1 hG.2.2.2 0 rfl rfl 0 (by decide) (S.2.2.2.2 _ q147) (fun _ h9 => h9) rfl hin rfl (by decide +kernel) rfl rfl (Nat.le_of_ble_eq_true rfl) dX1_init_10 (fun H locs hP hD hS => ?_)
  have hG : sd_G D A s.heap s [(d, .int)] [(q, .inr (1, [.ref h, .null, .int 0])), sd_ar h d 2048 (fun _ => 0)] H locs := ⟨hG.1, hP, hD, hS⟩
  refine lv_aload_n S.1 S.2.1 dX1_init_13 rfl (lv_at hl 0 rfl) ?_
  refine lv_sipush (v := nI 2048) S.1 S.2.1 dX1_init_14 (by decide +kernel) ?_
  refine sd_newa S hG hA 0 rfl (Nat.le_refl _) ⟨Nat.le_of_ble_eq_true rfl, Nat.le_of_ble_eq_true rfl⟩ dX1_init_17 (fun hq H hG => ?_)
  have hG : sd_G D A s.heap s [(d, .int)] [(q, .inr (1, [.ref h, .null, .int 0])), sd_ar h d 2048 (fun _ => 0), sd_ar hq d 2048 (fun _ => 0)] H locs := hG
  refine va_putF (D := D) (ci := 1) (v := .ref hq) (ty := .array .int) (C := RX1) (T := TX1) (N := 3) S.1 S.2.1 S.2.2.2.2 in_X1 tyX1 tyX1_ok nmX1 S.2.2.2.1 hG.1 hG.2.1 hG.2.2.1 hG.2.2.2 0 rfl rfl 1 (by decide) (S.2.2.2.2 _ q148) (fun _ h9 => h9) rfl hin rfl (by decide +kernel) rfl rfl (Nat.le_of_ble_eq_true rfl) dX1_init_19 (fun H locs hP hD hS => ?_)
  have hG : sd_G D A s.heap s [(d, .int)] [(q, .inr (1, [.ref h, .ref hq, .int 0])), sd_ar h d 2048 (fun _ => 0), sd_ar hq d 2048 (fun _ => 0)] H locs := ⟨hG.1, hP, hD, hS⟩
  exact ret _ _ _ _ (h, hq) dX1_init_22 hG trivial
end
section
/-! the law's script -/
theorem sd_lm6 {L : Nat} (h : L ≤ 384) : (nI L - nI 6).toInt = (L : Int) - 6 := by
  by_cases e : 6 ≤ L
  · rw [pk_sub e, sd_nT (by omega)]
    omega
  · rcases (show L = 0 ∨ L = 1 ∨ L = 2 ∨ L = 3 ∨ L = 4 ∨ L = 5 by omega) with rfl | rfl | rfl | rfl | rfl | rfl <;> decide +kernel
theorem sd_i6 (i : Nat) : nI i + Int32.ofInt 6 = nI (i + 6) := nI_add i 6
section SdScr
variable {p : Program} {l : Launch} {e : Env} {R : Room} {s : State} {m : MethodId} {args : Array Value} {below : List Frame} {meth : Method} {c : Code} {H : Heap} {locs : List Loc} {cells slots : Nat} {Q : State → Prop}
variable {cc : ByteArray} {pc nL : Nat} {ls : Array Slot} {rest : List Value} {A : Nat → Prop} {H0 : Heap} {D : va_G} {tys : List (ClassId × FieldType)} {ws : va_W}
theorem sd_sld (hexec : p.tables.exec = Jvm.exec) (hb : c.code = cc) {b L : Nat} {xs : Nat → Int32} (hX : va_X b L xs s H0) (hbl : b < H0.size) (hbA : ¬ A b) (hG : sd_G D A H0 s tys ws H locs) {j : Nat} (hj : j < L) (hL : L < 2 ^ 31) (hdg : decode cc pc = .ok (.iaload, 1))
    (kk : W p l e R s m args below meth c H locs cells slots Q (F0 m (pc + 1) ls (.int (xs j) :: rest))) : W p l e R s m args below meth c H locs cells slots Q (F0 m pc ls (.int (nI j) :: .ref b :: rest)) := by
  refine va_sld hexec hb hX hbl hbA hG.2.2.2 (vp_in_nI hj hL) hdg ?_
  rw [nI_clamp (Nat.lt_trans hj hL)]
  exact kk
theorem sd_slen (hexec : p.tables.exec = Jvm.exec) (hb : c.code = cc) {b L : Nat} {xs : Nat → Int32} (hX : va_X b L xs s H0) (hbl : b < H0.size) (hbA : ¬ A b) (hG : sd_G D A H0 s tys ws H locs) (hdg : decode cc pc = .ok (.arraylength, 1))
    (kk : W p l e R s m args below meth c H locs cells slots Q (F0 m (pc + 1) ls (.int (nI L) :: rest))) : W p l e R s m args below meth c H locs cells slots Q (F0 m pc ls (.ref b :: rest)) :=
  va_slen hexec hb hX hbl hbA hG.2.2.2 hdg kk
end SdScr
end
section
def R_law : String := "SortDeskLaw"
def lw_P (b : Addr) (xs : List Int32) (args : Array Value) (s : State) : Prop := args = #[.ref b] ∧ s.IntsAt b xs ∧ xs.length ≤ 384 ∧ (Jvm.Cond.and given_1 narrow_1).before args s = true
def lw_Q (_ : Array Value) (s : State) (o : Outcome) (t : State) : Prop := o = .returned (some (.int 1)) ∧ Framed s o t [] 600000 7302250
def lw_Z (below : List Frame) (a : Array Value) (s : State) : State → Prop := fun t => ∃ o, t.status = .running ∧ Ended t below o ∧ lw_Q a s o t
/-- the law's own end, with 1 on the stack, nothing written that was there before, its room as the claim has it -/
theorem lw_ret {p : Program} {l : Launch} {e : Env} {s : State} {m : MethodId} {below : List Frame} {meth : Method} {c : Code} {b : Nat} (hx : p.tables.exec = Jvm.exec) (hb : c.code = code) (hr : meth.sig.returnType = ret) (hlocks : meth.locks = false) {pc : Nat} {H : Heap} {ls : Array Slot} (hdg : decode code pc = .ok (.ireturn, 1)) : W p l e room_1 s m #[Value.ref b] below meth c H [] 600000 7302250 (lw_Z below #[Value.ref b] s) (F0 m pc ls [.int 1]) := by
  intro T hT X
  obtain ⟨fs, hret, hrun, hended, hW, hframe⟩ := X.leave (v := some (.int 1)) (hlocks := hlocks) (fun h => by rw [hr] at h; cases h)
  have hmeth' : T.vm.method? m = some meth := X.method'
  refine ⟨T.setFrames fs, ?_, .returned (some (.int 1)), hrun, hended, rfl, ⟨_, rfl⟩, hW, hframe⟩
  jvm_step X.here [X.here.top, hx, hb, hdg, hmeth', hr, ret, narrow_b1]
  (try refine ⟨rfl, ?_⟩); (try refine ⟨rfl, ?_⟩)
  first | (intro acts; rw [hret _ acts rfl rfl rfl]) | rw [hret _ _ rfl rfl rfl]
  exact Steps.refl _
/-- what holds at the law's entry: the machine, the code, the tables' words (any of lw_tbl by 'hts w (by decide +kernel)'), the script of L ints xs at the cell b, what the Statement gives of the start (any of its parts by flat_of_before) -/
def lw_At (p : Program) (s : State) (m : MethodId) (meth : Method) (c : Code) (b L : Nat) (xs : Nat → Int32) : Prop :=
  p.tables.exec = Jvm.exec ∧ c.code = code ∧ meth.sig.returnType = ret ∧ c.maxLocals = 4 ∧ s.vm.findClass R_law = some m.cls ∧ (∀ w ∈ lw_tbl, w.before #[Value.ref b] s = true) ∧ va_X b L xs s s.heap ∧ b < s.heap.size ∧ meth.locks = false ∧ (Jvm.Cond.and given_1 narrow_1).before #[Value.ref b] s = true
-- ===== YOUR PART BEGINS =====
end
section
set_option maxHeartbeats 4000000 in
set_option maxRecDepth 100000 in
theorem sd_l_put {p : Program} {l : Launch} {e : Env} {s : State} {m : MethodId} {below : List Frame} {meth : Method} {c : Code} {Q : State → Prop} {D : va_G} {A : Nat → Prop} {d : ClassId} {qx hx qm hm ho b L : Nat} {xs : Nat → Int32} (hX : va_X b L xs s s.heap) (hbl : b < s.heap.size) (hbA : ¬ A b) (hL : L ≤ 384) (S : CallFix p m c cL_law 4 s #[Value.ref b] lw_all "SortDeskLaw") (hcs : sd_cst s) (hA : ∀ q : Nat, s.heap.size ≤ q → A q) (i k : Nat) (f g o : Nat → Int32) (hi : i + 6 ≤ L) (hk : k ≤ 2048) (hag : sd_Ag f g k) {cells slots : Nat} (hC : cells + 5 ≤ 600000 ∧ slots + 2810 ≤ 7302250)
    (K : ∀ (k : Nat) (f g o : Nat → Int32) (H : Heap) (locs : List Loc) (ls : Array Slot), k ≤ 2048 → sd_Ag f g k → sd_G D A s.heap s [(d, .int)] [(qx, .inr (0, [.ref hx, .int (nI k)])), sd_ar hx d 2048 f, (qm, .inr (1, [.ref hm, .ref ho, .int (nI k)])), sd_ar hm d 2048 g, sd_ar ho d 2048 o] H locs → lv_has ls 4 [(0, .ref b), (1, .ref qx), (2, .ref qm), (3, .int (nI i))] → W p l e room_1 s m #[Value.ref b] below meth c H locs (cells + 5) (slots + 2810) Q (F0 m 443 ls []))
    (H : Heap) (locs : List Loc) (ls : Array Slot) (hG : sd_G D A s.heap s [(d, .int)] [(qx, .inr (0, [.ref hx, .int (nI k)])), sd_ar hx d 2048 f, (qm, .inr (1, [.ref hm, .ref ho, .int (nI k)])), sd_ar hm d 2048 g, sd_ar ho d 2048 o] H locs) (hl : lv_has ls 4 [(0, .ref b), (1, .ref qx), (2, .ref qm), (3, .int (nI i))]) : W p l e room_1 s m #[Value.ref b] below meth c H locs cells slots Q (F0 m 92 ls []) := by
  refine lv_aload_n S.1 S.2.1 dL_law_92 rfl (lv_at hl 1 rfl) ?_
  refine lv_aload_n S.1 S.2.1 dL_law_93 rfl (lv_at hl 0 rfl) ?_
  refine lv_iload_n S.1 S.2.1 dL_law_94 rfl (lv_at hl 3 rfl) ?_
  refine lv_iconst (v := nI 1) S.1 S.2.1 dL_law_95 (by decide +kernel) ?_
  refine sd_iadd S.1 S.2.1 dL_law_96 ?_
  refine sd_sld S.1 S.2.1 hX hbl hbA hG (by omega) (by omega) dL_law_97 ?_
  refine lv_aload_n S.1 S.2.1 dL_law_98 rfl (lv_at hl 0 rfl) ?_
  refine lv_iload_n S.1 S.2.1 dL_law_99 rfl (lv_at hl 3 rfl) ?_
  refine lv_iconst (v := nI 2) S.1 S.2.1 dL_law_100 (by decide +kernel) ?_
  refine sd_iadd S.1 S.2.1 dL_law_101 ?_
  refine sd_sld S.1 S.2.1 hX hbl hbA hG (by omega) (by omega) dL_law_102 ?_
  refine lv_aload_n S.1 S.2.1 dL_law_103 rfl (lv_at hl 0 rfl) ?_
  refine lv_iload_n S.1 S.2.1 dL_law_104 rfl (lv_at hl 3 rfl) ?_
  refine lv_iconst (v := nI 3) S.1 S.2.1 dL_law_105 (by decide +kernel) ?_
  refine sd_iadd S.1 S.2.1 dL_law_106 ?_
  refine sd_sld S.1 S.2.1 hX hbl hbA hG (by omega) (by omega) dL_law_107 ?_
  refine lv_aload_n S.1 S.2.1 dL_law_108 rfl (lv_at hl 0 rfl) ?_
  refine lv_iload_n S.1 S.2.1 dL_law_109 rfl (lv_at hl 3 rfl) ?_
  refine lv_iconst (v := nI 4) S.1 S.2.1 dL_law_110 (by decide +kernel) ?_
  refine sd_iadd S.1 S.2.1 dL_law_111 ?_
  refine sd_sld S.1 S.2.1 hX hbl hbA hG (by omega) (by omega) dL_law_112 ?_
  refine sd_callXi (nn := 4) (as := [.int (xs (i + 1)), .int (xs (i + 2)), .int (xs (i + 3)), .int (xs (i + 4))]) (rest := []) (wr := [(qm, .inr (1, [.ref hm, .ref ho, .int (nI k)])), sd_ar hm d 2048 g, sd_ar ho d 2048 o]) S (sd_x_put l D qx hx d k f hk (xs (i + 1)) (xs (i + 2)) (xs (i + 3)) (xs (i + 4))) (lw_V q27 q28 q29 q4 q30) (by decide +kernel) rfl ⟨Nat.le_of_ble_eq_true rfl, Nat.le_of_ble_eq_true rfl⟩ ⟨by show cells + 0 ≤ 600000; omega, by show slots + 0 ≤ 7302250; omega⟩ hcs hG hA 0 rfl [0, 1] [2, 3, 4] rfl rfl rfl rfl rfl (by decide) 0 rfl rfl rfl hl.1 rfl (Nat.le_of_ble_eq_true rfl) dL_law_113 (fun r1 u H locs er hG => ?_)
  obtain ⟨k1, f1⟩ := u
  have hG : sd_G D A s.heap s [(d, .int)] [(qx, .inr (0, [.ref hx, .int (nI k1)])), sd_ar hx d 2048 f1, (qm, .inr (1, [.ref hm, .ref ho, .int (nI k)])), sd_ar hm d 2048 g, sd_ar ho d 2048 o] H locs := sd_Gsub hG [3, 4, 0, 1, 2] (by decide) rfl rfl
  refine lv_aload_n S.1 S.2.1 dL_law_116 rfl (lv_at hl 2 rfl) ?_
  refine lv_aload_n S.1 S.2.1 dL_law_117 rfl (lv_at hl 0 rfl) ?_
  refine lv_iload_n S.1 S.2.1 dL_law_118 rfl (lv_at hl 3 rfl) ?_
  refine lv_iconst (v := nI 1) S.1 S.2.1 dL_law_119 (by decide +kernel) ?_
  refine sd_iadd S.1 S.2.1 dL_law_120 ?_
  refine sd_sld S.1 S.2.1 hX hbl hbA hG (by omega) (by omega) dL_law_121 ?_
  refine lv_aload_n S.1 S.2.1 dL_law_122 rfl (lv_at hl 0 rfl) ?_
  refine lv_iload_n S.1 S.2.1 dL_law_123 rfl (lv_at hl 3 rfl) ?_
  refine lv_iconst (v := nI 2) S.1 S.2.1 dL_law_124 (by decide +kernel) ?_
  refine sd_iadd S.1 S.2.1 dL_law_125 ?_
  refine sd_sld S.1 S.2.1 hX hbl hbA hG (by omega) (by omega) dL_law_126 ?_
  refine lv_aload_n S.1 S.2.1 dL_law_127 rfl (lv_at hl 0 rfl) ?_
  refine lv_iload_n S.1 S.2.1 dL_law_128 rfl (lv_at hl 3 rfl) ?_
  refine lv_iconst (v := nI 3) S.1 S.2.1 dL_law_129 (by decide +kernel) ?_
  refine sd_iadd S.1 S.2.1 dL_law_130 ?_
  refine sd_sld S.1 S.2.1 hX hbl hbA hG (by omega) (by omega) dL_law_131 ?_
  refine lv_aload_n S.1 S.2.1 dL_law_132 rfl (lv_at hl 0 rfl) ?_
  refine lv_iload_n S.1 S.2.1 dL_law_133 rfl (lv_at hl 3 rfl) ?_
  refine lv_iconst (v := nI 4) S.1 S.2.1 dL_law_134 (by decide +kernel) ?_
  refine sd_iadd S.1 S.2.1 dL_law_135 ?_
  refine sd_sld S.1 S.2.1 hX hbl hbA hG (by omega) (by omega) dL_law_136 ?_
  refine sd_callXi (nn := 4) (as := [.int (xs (i + 1)), .int (xs (i + 2)), .int (xs (i + 3)), .int (xs (i + 4))]) (rest := [.int r1]) (wr := [(qx, .inr (0, [.ref hx, .int (nI k1)])), sd_ar hx d 2048 f1]) S (sd_y_put l D qm hm ho d k g o hk (xs (i + 1)) (xs (i + 2)) (xs (i + 3)) (xs (i + 4))) (lw_V q157 q158 q159 q5 q160) (by decide +kernel) rfl ⟨Nat.le_of_ble_eq_true rfl, Nat.le_of_ble_eq_true rfl⟩ ⟨by show cells + 0 + 0 ≤ 600000; omega, by show slots + 0 + 0 ≤ 7302250; omega⟩ hcs hG hA 0 rfl [2, 3, 4] [0, 1] rfl rfl rfl rfl rfl (by decide) 1 rfl rfl rfl hl.1 rfl (Nat.le_of_ble_eq_true rfl) dL_law_137 (fun r2 u H locs em hG => ?_)
  obtain ⟨k2, g1, o1⟩ := u
  have hG : sd_G D A s.heap s [(d, .int)] [(qx, .inr (0, [.ref hx, .int (nI k1)])), sd_ar hx d 2048 f1, (qm, .inr (1, [.ref hm, .ref ho, .int (nI k2)])), sd_ar hm d 2048 g1, sd_ar ho d 2048 o1] H locs := hG
  try dsimp only at er em
  have key : r1 = r2 ∧ k2 = k1 ∧ k1 ≤ 2048 ∧ sd_Ag f1 g1 k1 := by
    rcases er with ⟨e1, e2, e3⟩ | ⟨e1, e2, e3⟩ <;> rcases em with ⟨m1, m2, m3⟩ | ⟨m1, m2, m3⟩
    · cases e3; cases m3; exact ⟨e2.trans m2.symm, rfl, hk, hag⟩
    · exact absurd m1 (by omega)
    · exact absurd m1 (by omega)
    · cases e3; cases m3; exact ⟨e2.trans m2.symm, rfl, by omega, hag.p4⟩
  obtain ⟨hr, hk2, hk1, hag⟩ := key
  refine sd_eq (tgt := 443) S.1 S.2.1 dL_law_140 (by decide) rfl rfl (fun c2 => ?_) (fun c2 => ?_)
  · subst hk2
    refine W.widen (k := cells + 5) (n := slots + 2810) (by omega) (by omega) ?_
    exact K _ _ _ _ H locs ls hk1 hag hG hl
  · exact absurd (by rw [hr]) c2
set_option maxHeartbeats 4000000 in
set_option maxRecDepth 100000 in
theorem sd_l_fill {p : Program} {l : Launch} {e : Env} {s : State} {m : MethodId} {below : List Frame} {meth : Method} {c : Code} {Q : State → Prop} {D : va_G} {A : Nat → Prop} {d : ClassId} {qx hx qm hm ho b L : Nat} {xs : Nat → Int32} (hX : va_X b L xs s s.heap) (hbl : b < s.heap.size) (hbA : ¬ A b) (hL : L ≤ 384) (S : CallFix p m c cL_law 4 s #[Value.ref b] lw_all "SortDeskLaw") (hcs : sd_cst s) (hA : ∀ q : Nat, s.heap.size ≤ q → A q) (i k : Nat) (f g o : Nat → Int32) (hi : i + 6 ≤ L) (hk : k ≤ 2048) (hag : sd_Ag f g k) {cells slots : Nat} (hC : cells + 5 ≤ 600000 ∧ slots + 2810 ≤ 7302250)
    (K : ∀ (k : Nat) (f g o : Nat → Int32) (H : Heap) (locs : List Loc) (ls : Array Slot), k ≤ 2048 → sd_Ag f g k → sd_G D A s.heap s [(d, .int)] [(qx, .inr (0, [.ref hx, .int (nI k)])), sd_ar hx d 2048 f, (qm, .inr (1, [.ref hm, .ref ho, .int (nI k)])), sd_ar hm d 2048 g, sd_ar ho d 2048 o] H locs → lv_has ls 4 [(0, .ref b), (1, .ref qx), (2, .ref qm), (3, .int (nI i))] → W p l e room_1 s m #[Value.ref b] below meth c H locs (cells + 5) (slots + 2810) Q (F0 m 443 ls []))
    (H : Heap) (locs : List Loc) (ls : Array Slot) (hG : sd_G D A s.heap s [(d, .int)] [(qx, .inr (0, [.ref hx, .int (nI k)])), sd_ar hx d 2048 f, (qm, .inr (1, [.ref hm, .ref ho, .int (nI k)])), sd_ar hm d 2048 g, sd_ar ho d 2048 o] H locs) (hl : lv_has ls 4 [(0, .ref b), (1, .ref qx), (2, .ref qm), (3, .int (nI i))]) : W p l e room_1 s m #[Value.ref b] below meth c H locs cells slots Q (F0 m 145 ls []) := by
  refine lv_aload_n S.1 S.2.1 dL_law_145 rfl (lv_at hl 1 rfl) ?_
  refine lv_aload_n S.1 S.2.1 dL_law_146 rfl (lv_at hl 0 rfl) ?_
  refine lv_iload_n S.1 S.2.1 dL_law_147 rfl (lv_at hl 3 rfl) ?_
  refine lv_iconst (v := nI 1) S.1 S.2.1 dL_law_148 (by decide +kernel) ?_
  refine sd_iadd S.1 S.2.1 dL_law_149 ?_
  refine sd_sld S.1 S.2.1 hX hbl hbA hG (by omega) (by omega) dL_law_150 ?_
  refine lv_aload_n S.1 S.2.1 dL_law_151 rfl (lv_at hl 0 rfl) ?_
  refine lv_iload_n S.1 S.2.1 dL_law_152 rfl (lv_at hl 3 rfl) ?_
  refine lv_iconst (v := nI 2) S.1 S.2.1 dL_law_153 (by decide +kernel) ?_
  refine sd_iadd S.1 S.2.1 dL_law_154 ?_
  refine sd_sld S.1 S.2.1 hX hbl hbA hG (by omega) (by omega) dL_law_155 ?_
  refine lv_aload_n S.1 S.2.1 dL_law_156 rfl (lv_at hl 0 rfl) ?_
  refine lv_iload_n S.1 S.2.1 dL_law_157 rfl (lv_at hl 3 rfl) ?_
  refine lv_iconst (v := nI 3) S.1 S.2.1 dL_law_158 (by decide +kernel) ?_
  refine sd_iadd S.1 S.2.1 dL_law_159 ?_
  refine sd_sld S.1 S.2.1 hX hbl hbA hG (by omega) (by omega) dL_law_160 ?_
  refine sd_callXi (nn := 3) (as := [.int (xs (i + 1)), .int (xs (i + 2)), .int (xs (i + 3))]) (rest := []) (wr := [(qm, .inr (1, [.ref hm, .ref ho, .int (nI k)])), sd_ar hm d 2048 g, sd_ar ho d 2048 o]) S (sd_x_fill l D qx hx d k f hk (xs (i + 1)) (xs (i + 2)) (xs (i + 3))) (lw_V q31 q32 q33 q4 q34) (by decide +kernel) rfl ⟨Nat.le_of_ble_eq_true rfl, Nat.le_of_ble_eq_true rfl⟩ ⟨by show cells + 0 ≤ 600000; omega, by show slots + 0 ≤ 7302250; omega⟩ hcs hG hA 0 rfl [0, 1] [2, 3, 4] rfl rfl rfl rfl rfl (by decide) 0 rfl rfl rfl hl.1 rfl (Nat.le_of_ble_eq_true rfl) dL_law_161 (fun r1 u H locs er hG => ?_)
  obtain ⟨k1, f1⟩ := u
  have hG : sd_G D A s.heap s [(d, .int)] [(qx, .inr (0, [.ref hx, .int (nI k1)])), sd_ar hx d 2048 f1, (qm, .inr (1, [.ref hm, .ref ho, .int (nI k)])), sd_ar hm d 2048 g, sd_ar ho d 2048 o] H locs := sd_Gsub hG [3, 4, 0, 1, 2] (by decide) rfl rfl
  refine lv_aload_n S.1 S.2.1 dL_law_164 rfl (lv_at hl 2 rfl) ?_
  refine lv_aload_n S.1 S.2.1 dL_law_165 rfl (lv_at hl 0 rfl) ?_
  refine lv_iload_n S.1 S.2.1 dL_law_166 rfl (lv_at hl 3 rfl) ?_
  refine lv_iconst (v := nI 1) S.1 S.2.1 dL_law_167 (by decide +kernel) ?_
  refine sd_iadd S.1 S.2.1 dL_law_168 ?_
  refine sd_sld S.1 S.2.1 hX hbl hbA hG (by omega) (by omega) dL_law_169 ?_
  refine lv_aload_n S.1 S.2.1 dL_law_170 rfl (lv_at hl 0 rfl) ?_
  refine lv_iload_n S.1 S.2.1 dL_law_171 rfl (lv_at hl 3 rfl) ?_
  refine lv_iconst (v := nI 2) S.1 S.2.1 dL_law_172 (by decide +kernel) ?_
  refine sd_iadd S.1 S.2.1 dL_law_173 ?_
  refine sd_sld S.1 S.2.1 hX hbl hbA hG (by omega) (by omega) dL_law_174 ?_
  refine lv_aload_n S.1 S.2.1 dL_law_175 rfl (lv_at hl 0 rfl) ?_
  refine lv_iload_n S.1 S.2.1 dL_law_176 rfl (lv_at hl 3 rfl) ?_
  refine lv_iconst (v := nI 3) S.1 S.2.1 dL_law_177 (by decide +kernel) ?_
  refine sd_iadd S.1 S.2.1 dL_law_178 ?_
  refine sd_sld S.1 S.2.1 hX hbl hbA hG (by omega) (by omega) dL_law_179 ?_
  refine sd_callXi (nn := 3) (as := [.int (xs (i + 1)), .int (xs (i + 2)), .int (xs (i + 3))]) (rest := [.int r1]) (wr := [(qx, .inr (0, [.ref hx, .int (nI k1)])), sd_ar hx d 2048 f1]) S (sd_y_fill l D qm hm ho d k g o hk (xs (i + 1)) (xs (i + 2)) (xs (i + 3))) (lw_V q161 q162 q163 q5 q164) (by decide +kernel) rfl ⟨Nat.le_of_ble_eq_true rfl, Nat.le_of_ble_eq_true rfl⟩ ⟨by show cells + 0 + 0 ≤ 600000; omega, by show slots + 0 + 0 ≤ 7302250; omega⟩ hcs hG hA 0 rfl [2, 3, 4] [0, 1] rfl rfl rfl rfl rfl (by decide) 1 rfl rfl rfl hl.1 rfl (Nat.le_of_ble_eq_true rfl) dL_law_180 (fun r2 u H locs em hG => ?_)
  obtain ⟨k2, g1, o1⟩ := u
  have hG : sd_G D A s.heap s [(d, .int)] [(qx, .inr (0, [.ref hx, .int (nI k1)])), sd_ar hx d 2048 f1, (qm, .inr (1, [.ref hm, .ref ho, .int (nI k2)])), sd_ar hm d 2048 g1, sd_ar ho d 2048 o1] H locs := hG
  try dsimp only at er em
  have key : r1 = r2 ∧ k2 = k1 ∧ k1 ≤ 2048 ∧ sd_Ag f1 g1 k1 := by
    obtain ⟨e2, e3⟩ := er
    obtain ⟨m2, m3⟩ := em
    cases e3; cases m3
    exact ⟨e2.trans m2.symm, rfl, by omega, hag.fl _⟩
  obtain ⟨hr, hk2, hk1, hag⟩ := key
  refine sd_eq (tgt := 443) S.1 S.2.1 dL_law_183 (by decide) rfl rfl (fun c2 => ?_) (fun c2 => ?_)
  · subst hk2
    refine W.widen (k := cells + 5) (n := slots + 2810) (by omega) (by omega) ?_
    exact K _ _ _ _ H locs ls hk1 hag hG hl
  · exact absurd (by rw [hr]) c2
set_option maxHeartbeats 4000000 in
set_option maxRecDepth 100000 in
theorem sd_l_trim {p : Program} {l : Launch} {e : Env} {s : State} {m : MethodId} {below : List Frame} {meth : Method} {c : Code} {Q : State → Prop} {D : va_G} {A : Nat → Prop} {d : ClassId} {qx hx qm hm ho b L : Nat} {xs : Nat → Int32} (hX : va_X b L xs s s.heap) (hbl : b < s.heap.size) (hbA : ¬ A b) (hL : L ≤ 384) (S : CallFix p m c cL_law 4 s #[Value.ref b] lw_all "SortDeskLaw") (hcs : sd_cst s) (hA : ∀ q : Nat, s.heap.size ≤ q → A q) (i k : Nat) (f g o : Nat → Int32) (hi : i + 6 ≤ L) (hk : k ≤ 2048) (hag : sd_Ag f g k) {cells slots : Nat} (hC : cells + 5 ≤ 600000 ∧ slots + 2810 ≤ 7302250)
    (K : ∀ (k : Nat) (f g o : Nat → Int32) (H : Heap) (locs : List Loc) (ls : Array Slot), k ≤ 2048 → sd_Ag f g k → sd_G D A s.heap s [(d, .int)] [(qx, .inr (0, [.ref hx, .int (nI k)])), sd_ar hx d 2048 f, (qm, .inr (1, [.ref hm, .ref ho, .int (nI k)])), sd_ar hm d 2048 g, sd_ar ho d 2048 o] H locs → lv_has ls 4 [(0, .ref b), (1, .ref qx), (2, .ref qm), (3, .int (nI i))] → W p l e room_1 s m #[Value.ref b] below meth c H locs (cells + 5) (slots + 2810) Q (F0 m 443 ls []))
    (H : Heap) (locs : List Loc) (ls : Array Slot) (hG : sd_G D A s.heap s [(d, .int)] [(qx, .inr (0, [.ref hx, .int (nI k)])), sd_ar hx d 2048 f, (qm, .inr (1, [.ref hm, .ref ho, .int (nI k)])), sd_ar hm d 2048 g, sd_ar ho d 2048 o] H locs) (hl : lv_has ls 4 [(0, .ref b), (1, .ref qx), (2, .ref qm), (3, .int (nI i))]) : W p l e room_1 s m #[Value.ref b] below meth c H locs cells slots Q (F0 m 188 ls []) := by
  refine lv_aload_n S.1 S.2.1 dL_law_188 rfl (lv_at hl 1 rfl) ?_
  refine lv_aload_n S.1 S.2.1 dL_law_189 rfl (lv_at hl 0 rfl) ?_
  refine lv_iload_n S.1 S.2.1 dL_law_190 rfl (lv_at hl 3 rfl) ?_
  refine lv_iconst (v := nI 1) S.1 S.2.1 dL_law_191 (by decide +kernel) ?_
  refine sd_iadd S.1 S.2.1 dL_law_192 ?_
  refine sd_sld S.1 S.2.1 hX hbl hbA hG (by omega) (by omega) dL_law_193 ?_
  refine sd_callXv (nn := 1) (as := [.int (xs (i + 1))]) (rest := []) (wr := [(qm, .inr (1, [.ref hm, .ref ho, .int (nI k)])), sd_ar hm d 2048 g, sd_ar ho d 2048 o]) S (sd_x_trim l D qx hx d k f hk (xs (i + 1))) (lw_V q36 q37 q38 q4 q39) (by decide +kernel) rfl ⟨Nat.le_of_ble_eq_true rfl, Nat.le_of_ble_eq_true rfl⟩ ⟨by show cells + 0 ≤ 600000; omega, by show slots + 0 ≤ 7302250; omega⟩ hcs hG hA 0 rfl [0, 1] [2, 3, 4] rfl rfl rfl rfl rfl (by decide) 0 rfl rfl rfl hl.1 rfl (Nat.le_of_ble_eq_true rfl) dL_law_194 (fun u H locs er hG => ?_)
  obtain ⟨k1, f1⟩ := u
  have hG : sd_G D A s.heap s [(d, .int)] [(qx, .inr (0, [.ref hx, .int (nI k1)])), sd_ar hx d 2048 f1, (qm, .inr (1, [.ref hm, .ref ho, .int (nI k)])), sd_ar hm d 2048 g, sd_ar ho d 2048 o] H locs := sd_Gsub hG [3, 4, 0, 1, 2] (by decide) rfl rfl
  refine lv_aload_n S.1 S.2.1 dL_law_197 rfl (lv_at hl 2 rfl) ?_
  refine lv_aload_n S.1 S.2.1 dL_law_198 rfl (lv_at hl 0 rfl) ?_
  refine lv_iload_n S.1 S.2.1 dL_law_199 rfl (lv_at hl 3 rfl) ?_
  refine lv_iconst (v := nI 1) S.1 S.2.1 dL_law_200 (by decide +kernel) ?_
  refine sd_iadd S.1 S.2.1 dL_law_201 ?_
  refine sd_sld S.1 S.2.1 hX hbl hbA hG (by omega) (by omega) dL_law_202 ?_
  refine sd_callXv (nn := 1) (as := [.int (xs (i + 1))]) (rest := []) (wr := [(qx, .inr (0, [.ref hx, .int (nI k1)])), sd_ar hx d 2048 f1]) S (sd_y_trim l D qm hm ho d k g o hk (xs (i + 1))) (lw_V q166 q167 q168 q5 q169) (by decide +kernel) rfl ⟨Nat.le_of_ble_eq_true rfl, Nat.le_of_ble_eq_true rfl⟩ ⟨by show cells + 0 + 0 ≤ 600000; omega, by show slots + 0 + 0 ≤ 7302250; omega⟩ hcs hG hA 0 rfl [2, 3, 4] [0, 1] rfl rfl rfl rfl rfl (by decide) 1 rfl rfl rfl hl.1 rfl (Nat.le_of_ble_eq_true rfl) dL_law_203 (fun u H locs em hG => ?_)
  obtain ⟨k2, g1, o1⟩ := u
  have hG : sd_G D A s.heap s [(d, .int)] [(qx, .inr (0, [.ref hx, .int (nI k1)])), sd_ar hx d 2048 f1, (qm, .inr (1, [.ref hm, .ref ho, .int (nI k2)])), sd_ar hm d 2048 g1, sd_ar ho d 2048 o1] H locs := hG
  try dsimp only at er em
  have key : k2 = k1 ∧ k1 ≤ 2048 ∧ sd_Ag f1 g1 k1 := by
    cases er; cases em
    have e9 : sd_u (xs (i + 1)) % (k + 1) ≤ k := sd_frLe
    exact ⟨rfl, by omega, hag.mo e9⟩
  obtain ⟨hk2, hk1, hag⟩ := key
  subst hk2
  refine lv_goto (tgt := 443) S.1 S.2.1 dL_law_206 (by decide) ?_
  refine W.widen (k := cells + 5) (n := slots + 2810) (by omega) (by omega) ?_
  exact K _ _ _ _ H locs ls hk1 hag hG hl
set_option maxHeartbeats 4000000 in
set_option maxRecDepth 100000 in
theorem sd_l_size {p : Program} {l : Launch} {e : Env} {s : State} {m : MethodId} {below : List Frame} {meth : Method} {c : Code} {Q : State → Prop} {D : va_G} {A : Nat → Prop} {d : ClassId} {qx hx qm hm ho b L : Nat} {xs : Nat → Int32} (hX : va_X b L xs s s.heap) (hbl : b < s.heap.size) (hbA : ¬ A b) (hL : L ≤ 384) (S : CallFix p m c cL_law 4 s #[Value.ref b] lw_all "SortDeskLaw") (hcs : sd_cst s) (hA : ∀ q : Nat, s.heap.size ≤ q → A q) (i k : Nat) (f g o : Nat → Int32) (hi : i + 6 ≤ L) (hk : k ≤ 2048) (hag : sd_Ag f g k) {cells slots : Nat} (hC : cells + 5 ≤ 600000 ∧ slots + 2810 ≤ 7302250)
    (K : ∀ (k : Nat) (f g o : Nat → Int32) (H : Heap) (locs : List Loc) (ls : Array Slot), k ≤ 2048 → sd_Ag f g k → sd_G D A s.heap s [(d, .int)] [(qx, .inr (0, [.ref hx, .int (nI k)])), sd_ar hx d 2048 f, (qm, .inr (1, [.ref hm, .ref ho, .int (nI k)])), sd_ar hm d 2048 g, sd_ar ho d 2048 o] H locs → lv_has ls 4 [(0, .ref b), (1, .ref qx), (2, .ref qm), (3, .int (nI i))] → W p l e room_1 s m #[Value.ref b] below meth c H locs (cells + 5) (slots + 2810) Q (F0 m 443 ls []))
    (H : Heap) (locs : List Loc) (ls : Array Slot) (hG : sd_G D A s.heap s [(d, .int)] [(qx, .inr (0, [.ref hx, .int (nI k)])), sd_ar hx d 2048 f, (qm, .inr (1, [.ref hm, .ref ho, .int (nI k)])), sd_ar hm d 2048 g, sd_ar ho d 2048 o] H locs) (hl : lv_has ls 4 [(0, .ref b), (1, .ref qx), (2, .ref qm), (3, .int (nI i))]) : W p l e room_1 s m #[Value.ref b] below meth c H locs cells slots Q (F0 m 209 ls []) := by
  refine lv_aload_n S.1 S.2.1 dL_law_209 rfl (lv_at hl 1 rfl) ?_
  refine sd_callXi (nn := 0) (as := []) (rest := []) (wr := [(qm, .inr (1, [.ref hm, .ref ho, .int (nI k)])), sd_ar hm d 2048 g, sd_ar ho d 2048 o]) S (sd_x_size l D qx hx d k f hk) (lw_V q40 q41 q42 q4 q43) (by decide +kernel) rfl ⟨Nat.le_of_ble_eq_true rfl, Nat.le_of_ble_eq_true rfl⟩ ⟨by show cells + 0 ≤ 600000; omega, by show slots + 0 ≤ 7302250; omega⟩ hcs hG hA 0 rfl [0, 1] [2, 3, 4] rfl rfl rfl rfl rfl (by decide) 0 rfl rfl rfl hl.1 rfl (Nat.le_of_ble_eq_true rfl) dL_law_210 (fun r1 u H locs er hG => ?_)
  obtain ⟨k1, f1⟩ := u
  have hG : sd_G D A s.heap s [(d, .int)] [(qx, .inr (0, [.ref hx, .int (nI k1)])), sd_ar hx d 2048 f1, (qm, .inr (1, [.ref hm, .ref ho, .int (nI k)])), sd_ar hm d 2048 g, sd_ar ho d 2048 o] H locs := sd_Gsub hG [3, 4, 0, 1, 2] (by decide) rfl rfl
  refine lv_aload_n S.1 S.2.1 dL_law_213 rfl (lv_at hl 2 rfl) ?_
  refine sd_callXi (nn := 0) (as := []) (rest := [.int r1]) (wr := [(qx, .inr (0, [.ref hx, .int (nI k1)])), sd_ar hx d 2048 f1]) S (sd_y_size l D qm hm ho d k g o hk) (lw_V q170 q171 q172 q5 q173) (by decide +kernel) rfl ⟨Nat.le_of_ble_eq_true rfl, Nat.le_of_ble_eq_true rfl⟩ ⟨by show cells + 0 + 0 ≤ 600000; omega, by show slots + 0 + 0 ≤ 7302250; omega⟩ hcs hG hA 0 rfl [2, 3, 4] [0, 1] rfl rfl rfl rfl rfl (by decide) 1 rfl rfl rfl hl.1 rfl (Nat.le_of_ble_eq_true rfl) dL_law_214 (fun r2 u H locs em hG => ?_)
  obtain ⟨k2, g1, o1⟩ := u
  have hG : sd_G D A s.heap s [(d, .int)] [(qx, .inr (0, [.ref hx, .int (nI k1)])), sd_ar hx d 2048 f1, (qm, .inr (1, [.ref hm, .ref ho, .int (nI k2)])), sd_ar hm d 2048 g1, sd_ar ho d 2048 o1] H locs := hG
  try dsimp only at er em
  have key : r1 = r2 ∧ k2 = k1 ∧ k1 ≤ 2048 ∧ sd_Ag f1 g1 k1 := by
    obtain ⟨e2, e3⟩ := er
    obtain ⟨m2, m3⟩ := em
    cases e3; cases m3
    exact ⟨e2.trans m2.symm, rfl, hk, hag⟩
  obtain ⟨hr, hk2, hk1, hag⟩ := key
  refine sd_eq (tgt := 443) S.1 S.2.1 dL_law_217 (by decide) rfl rfl (fun c2 => ?_) (fun c2 => ?_)
  · subst hk2
    refine W.widen (k := cells + 5) (n := slots + 2810) (by omega) (by omega) ?_
    exact K _ _ _ _ H locs ls hk1 hag hG hl
  · exact absurd (by rw [hr]) c2
set_option maxHeartbeats 4000000 in
set_option maxRecDepth 100000 in
theorem sd_l_at {p : Program} {l : Launch} {e : Env} {s : State} {m : MethodId} {below : List Frame} {meth : Method} {c : Code} {Q : State → Prop} {D : va_G} {A : Nat → Prop} {d : ClassId} {qx hx qm hm ho b L : Nat} {xs : Nat → Int32} (hX : va_X b L xs s s.heap) (hbl : b < s.heap.size) (hbA : ¬ A b) (hL : L ≤ 384) (S : CallFix p m c cL_law 4 s #[Value.ref b] lw_all "SortDeskLaw") (hcs : sd_cst s) (hA : ∀ q : Nat, s.heap.size ≤ q → A q) (i k : Nat) (f g o : Nat → Int32) (hi : i + 6 ≤ L) (hk : k ≤ 2048) (hag : sd_Ag f g k) {cells slots : Nat} (hC : cells + 5 ≤ 600000 ∧ slots + 2810 ≤ 7302250)
    (K : ∀ (k : Nat) (f g o : Nat → Int32) (H : Heap) (locs : List Loc) (ls : Array Slot), k ≤ 2048 → sd_Ag f g k → sd_G D A s.heap s [(d, .int)] [(qx, .inr (0, [.ref hx, .int (nI k)])), sd_ar hx d 2048 f, (qm, .inr (1, [.ref hm, .ref ho, .int (nI k)])), sd_ar hm d 2048 g, sd_ar ho d 2048 o] H locs → lv_has ls 4 [(0, .ref b), (1, .ref qx), (2, .ref qm), (3, .int (nI i))] → W p l e room_1 s m #[Value.ref b] below meth c H locs (cells + 5) (slots + 2810) Q (F0 m 443 ls []))
    (H : Heap) (locs : List Loc) (ls : Array Slot) (hG : sd_G D A s.heap s [(d, .int)] [(qx, .inr (0, [.ref hx, .int (nI k)])), sd_ar hx d 2048 f, (qm, .inr (1, [.ref hm, .ref ho, .int (nI k)])), sd_ar hm d 2048 g, sd_ar ho d 2048 o] H locs) (hl : lv_has ls 4 [(0, .ref b), (1, .ref qx), (2, .ref qm), (3, .int (nI i))]) : W p l e room_1 s m #[Value.ref b] below meth c H locs cells slots Q (F0 m 222 ls []) := by
  refine lv_aload_n S.1 S.2.1 dL_law_222 rfl (lv_at hl 1 rfl) ?_
  refine lv_aload_n S.1 S.2.1 dL_law_223 rfl (lv_at hl 0 rfl) ?_
  refine lv_iload_n S.1 S.2.1 dL_law_224 rfl (lv_at hl 3 rfl) ?_
  refine lv_iconst (v := nI 1) S.1 S.2.1 dL_law_225 (by decide +kernel) ?_
  refine sd_iadd S.1 S.2.1 dL_law_226 ?_
  refine sd_sld S.1 S.2.1 hX hbl hbA hG (by omega) (by omega) dL_law_227 ?_
  refine sd_callXi (nn := 1) (as := [.int (xs (i + 1))]) (rest := []) (wr := [(qm, .inr (1, [.ref hm, .ref ho, .int (nI k)])), sd_ar hm d 2048 g, sd_ar ho d 2048 o]) S (sd_x_at l D qx hx d k f hk (xs (i + 1))) (lw_V q44 q45 q46 q4 q47) (by decide +kernel) rfl ⟨Nat.le_of_ble_eq_true rfl, Nat.le_of_ble_eq_true rfl⟩ ⟨by show cells + 0 ≤ 600000; omega, by show slots + 0 ≤ 7302250; omega⟩ hcs hG hA 0 rfl [0, 1] [2, 3, 4] rfl rfl rfl rfl rfl (by decide) 0 rfl rfl rfl hl.1 rfl (Nat.le_of_ble_eq_true rfl) dL_law_228 (fun r1 u H locs er hG => ?_)
  obtain ⟨k1, f1⟩ := u
  have hG : sd_G D A s.heap s [(d, .int)] [(qx, .inr (0, [.ref hx, .int (nI k1)])), sd_ar hx d 2048 f1, (qm, .inr (1, [.ref hm, .ref ho, .int (nI k)])), sd_ar hm d 2048 g, sd_ar ho d 2048 o] H locs := sd_Gsub hG [3, 4, 0, 1, 2] (by decide) rfl rfl
  refine lv_aload_n S.1 S.2.1 dL_law_231 rfl (lv_at hl 2 rfl) ?_
  refine lv_aload_n S.1 S.2.1 dL_law_232 rfl (lv_at hl 0 rfl) ?_
  refine lv_iload_n S.1 S.2.1 dL_law_233 rfl (lv_at hl 3 rfl) ?_
  refine lv_iconst (v := nI 1) S.1 S.2.1 dL_law_234 (by decide +kernel) ?_
  refine sd_iadd S.1 S.2.1 dL_law_235 ?_
  refine sd_sld S.1 S.2.1 hX hbl hbA hG (by omega) (by omega) dL_law_236 ?_
  refine sd_callXi (nn := 1) (as := [.int (xs (i + 1))]) (rest := [.int r1]) (wr := [(qx, .inr (0, [.ref hx, .int (nI k1)])), sd_ar hx d 2048 f1]) S (sd_y_at l D qm hm ho d k g o hk (xs (i + 1))) (lw_V q174 q175 q176 q5 q177) (by decide +kernel) rfl ⟨Nat.le_of_ble_eq_true rfl, Nat.le_of_ble_eq_true rfl⟩ ⟨by show cells + 0 + 0 ≤ 600000; omega, by show slots + 0 + 0 ≤ 7302250; omega⟩ hcs hG hA 0 rfl [2, 3, 4] [0, 1] rfl rfl rfl rfl rfl (by decide) 1 rfl rfl rfl hl.1 rfl (Nat.le_of_ble_eq_true rfl) dL_law_237 (fun r2 u H locs em hG => ?_)
  obtain ⟨k2, g1, o1⟩ := u
  have hG : sd_G D A s.heap s [(d, .int)] [(qx, .inr (0, [.ref hx, .int (nI k1)])), sd_ar hx d 2048 f1, (qm, .inr (1, [.ref hm, .ref ho, .int (nI k2)])), sd_ar hm d 2048 g1, sd_ar ho d 2048 o1] H locs := hG
  try dsimp only at er em
  have key : r1 = r2 ∧ k2 = k1 ∧ k1 ≤ 2048 ∧ sd_Ag f1 g1 k1 := by
    obtain ⟨e2, e3⟩ := er
    obtain ⟨m2, m3⟩ := em
    cases e3; cases m3
    refine ⟨?_, rfl, hk, hag⟩
    rcases e2 with ⟨e1, e2⟩ | ⟨e1, e2⟩ <;> rcases m2 with ⟨m1, m2⟩ | ⟨m1, m2⟩
    · exact e2.trans m2.symm
    · exact absurd m1 (by omega)
    · exact absurd m1 (by omega)
    · rw [e2, m2]; exact hag _ (Nat.mod_lt _ e1)
  obtain ⟨hr, hk2, hk1, hag⟩ := key
  refine sd_eq (tgt := 443) S.1 S.2.1 dL_law_240 (by decide) rfl rfl (fun c2 => ?_) (fun c2 => ?_)
  · subst hk2
    refine W.widen (k := cells + 5) (n := slots + 2810) (by omega) (by omega) ?_
    exact K _ _ _ _ H locs ls hk1 hag hG hl
  · exact absurd (by rw [hr]) c2
set_option maxHeartbeats 4000000 in
set_option maxRecDepth 100000 in
theorem sd_l_quick {p : Program} {l : Launch} {e : Env} {s : State} {m : MethodId} {below : List Frame} {meth : Method} {c : Code} {Q : State → Prop} {D : va_G} {A : Nat → Prop} {d : ClassId} {qx hx qm hm ho b L : Nat} {xs : Nat → Int32} (hX : va_X b L xs s s.heap) (hbl : b < s.heap.size) (hbA : ¬ A b) (hL : L ≤ 384) (S : CallFix p m c cL_law 4 s #[Value.ref b] lw_all "SortDeskLaw") (hcs : sd_cst s) (hA : ∀ q : Nat, s.heap.size ≤ q → A q) (i k : Nat) (f g o : Nat → Int32) (hi : i + 6 ≤ L) (hk : k ≤ 2048) (hag : sd_Ag f g k) {cells slots : Nat} (hC : cells + 5 ≤ 600000 ∧ slots + 2810 ≤ 7302250)
    (K : ∀ (k : Nat) (f g o : Nat → Int32) (H : Heap) (locs : List Loc) (ls : Array Slot), k ≤ 2048 → sd_Ag f g k → sd_G D A s.heap s [(d, .int)] [(qx, .inr (0, [.ref hx, .int (nI k)])), sd_ar hx d 2048 f, (qm, .inr (1, [.ref hm, .ref ho, .int (nI k)])), sd_ar hm d 2048 g, sd_ar ho d 2048 o] H locs → lv_has ls 4 [(0, .ref b), (1, .ref qx), (2, .ref qm), (3, .int (nI i))] → W p l e room_1 s m #[Value.ref b] below meth c H locs (cells + 5) (slots + 2810) Q (F0 m 443 ls []))
    (H : Heap) (locs : List Loc) (ls : Array Slot) (hG : sd_G D A s.heap s [(d, .int)] [(qx, .inr (0, [.ref hx, .int (nI k)])), sd_ar hx d 2048 f, (qm, .inr (1, [.ref hm, .ref ho, .int (nI k)])), sd_ar hm d 2048 g, sd_ar ho d 2048 o] H locs) (hl : lv_has ls 4 [(0, .ref b), (1, .ref qx), (2, .ref qm), (3, .int (nI i))]) : W p l e room_1 s m #[Value.ref b] below meth c H locs cells slots Q (F0 m 245 ls []) := by
  refine lv_aload_n S.1 S.2.1 dL_law_245 rfl (lv_at hl 1 rfl) ?_
  refine lv_aload_n S.1 S.2.1 dL_law_246 rfl (lv_at hl 0 rfl) ?_
  refine lv_iload_n S.1 S.2.1 dL_law_247 rfl (lv_at hl 3 rfl) ?_
  refine lv_iconst (v := nI 1) S.1 S.2.1 dL_law_248 (by decide +kernel) ?_
  refine sd_iadd S.1 S.2.1 dL_law_249 ?_
  refine sd_sld S.1 S.2.1 hX hbl hbA hG (by omega) (by omega) dL_law_250 ?_
  refine lv_aload_n S.1 S.2.1 dL_law_251 rfl (lv_at hl 0 rfl) ?_
  refine lv_iload_n S.1 S.2.1 dL_law_252 rfl (lv_at hl 3 rfl) ?_
  refine lv_iconst (v := nI 2) S.1 S.2.1 dL_law_253 (by decide +kernel) ?_
  refine sd_iadd S.1 S.2.1 dL_law_254 ?_
  refine sd_sld S.1 S.2.1 hX hbl hbA hG (by omega) (by omega) dL_law_255 ?_
  refine sd_callXv (nn := 2) (as := [.int (xs (i + 1)), .int (xs (i + 2))]) (rest := []) (wr := [(qm, .inr (1, [.ref hm, .ref ho, .int (nI k)])), sd_ar hm d 2048 g, sd_ar ho d 2048 o]) S (sd_x_quick l D qx hx d k f hk (xs (i + 1)) (xs (i + 2))) (lw_V q48 q49 q50 q4 q51) (by decide +kernel) rfl ⟨Nat.le_of_ble_eq_true rfl, Nat.le_of_ble_eq_true rfl⟩ ⟨by show cells + 0 ≤ 600000; omega, by show slots + 0 ≤ 7302250; omega⟩ hcs hG hA 0 rfl [0, 1] [2, 3, 4] rfl rfl rfl rfl rfl (by decide) 0 rfl rfl rfl hl.1 rfl (Nat.le_of_ble_eq_true rfl) dL_law_256 (fun u H locs er hG => ?_)
  obtain ⟨k1, f1⟩ := u
  have hG : sd_G D A s.heap s [(d, .int)] [(qx, .inr (0, [.ref hx, .int (nI k1)])), sd_ar hx d 2048 f1, (qm, .inr (1, [.ref hm, .ref ho, .int (nI k)])), sd_ar hm d 2048 g, sd_ar ho d 2048 o] H locs := sd_Gsub hG [3, 4, 0, 1, 2] (by decide) rfl rfl
  refine lv_aload_n S.1 S.2.1 dL_law_259 rfl (lv_at hl 2 rfl) ?_
  refine lv_aload_n S.1 S.2.1 dL_law_260 rfl (lv_at hl 0 rfl) ?_
  refine lv_iload_n S.1 S.2.1 dL_law_261 rfl (lv_at hl 3 rfl) ?_
  refine lv_iconst (v := nI 1) S.1 S.2.1 dL_law_262 (by decide +kernel) ?_
  refine sd_iadd S.1 S.2.1 dL_law_263 ?_
  refine sd_sld S.1 S.2.1 hX hbl hbA hG (by omega) (by omega) dL_law_264 ?_
  refine lv_aload_n S.1 S.2.1 dL_law_265 rfl (lv_at hl 0 rfl) ?_
  refine lv_iload_n S.1 S.2.1 dL_law_266 rfl (lv_at hl 3 rfl) ?_
  refine lv_iconst (v := nI 2) S.1 S.2.1 dL_law_267 (by decide +kernel) ?_
  refine sd_iadd S.1 S.2.1 dL_law_268 ?_
  refine sd_sld S.1 S.2.1 hX hbl hbA hG (by omega) (by omega) dL_law_269 ?_
  refine sd_callXv (nn := 2) (as := [.int (xs (i + 1)), .int (xs (i + 2))]) (rest := []) (wr := [(qx, .inr (0, [.ref hx, .int (nI k1)])), sd_ar hx d 2048 f1]) S (sd_y_quick l D qm hm ho d k g o hk (xs (i + 1)) (xs (i + 2))) (lw_V q178 q179 q180 q5 q181) (by decide +kernel) rfl ⟨Nat.le_of_ble_eq_true rfl, Nat.le_of_ble_eq_true rfl⟩ ⟨by show cells + 0 + 0 ≤ 600000; omega, by show slots + 0 + 0 ≤ 7302250; omega⟩ hcs hG hA 0 rfl [2, 3, 4] [0, 1] rfl rfl rfl rfl rfl (by decide) 1 rfl rfl rfl hl.1 rfl (Nat.le_of_ble_eq_true rfl) dL_law_270 (fun u H locs em hG => ?_)
  obtain ⟨k2, g1, o1⟩ := u
  have hG : sd_G D A s.heap s [(d, .int)] [(qx, .inr (0, [.ref hx, .int (nI k1)])), sd_ar hx d 2048 f1, (qm, .inr (1, [.ref hm, .ref ho, .int (nI k2)])), sd_ar hm d 2048 g1, sd_ar ho d 2048 o1] H locs := hG
  try dsimp only at er em
  have key : k2 = k1 ∧ k1 ≤ 2048 ∧ sd_Ag f1 g1 k1 := by
    obtain ⟨e1, e2, e3⟩ := er
    obtain ⟨m1, m2, m3⟩ := em
    have e1 : k1 = k := e1
    have m1 : k2 = k := m1
    refine ⟨m1.trans e1.symm, by omega, ?_⟩
    rw [e1]
    exact hag.srt (sd_toLe sd_frLe).2 e2 e3 m2 m3
  obtain ⟨hk2, hk1, hag⟩ := key
  subst hk2
  refine lv_goto (tgt := 443) S.1 S.2.1 dL_law_273 (by decide) ?_
  refine W.widen (k := cells + 5) (n := slots + 2810) (by omega) (by omega) ?_
  exact K _ _ _ _ H locs ls hk1 hag hG hl
set_option maxHeartbeats 4000000 in
set_option maxRecDepth 100000 in
theorem sd_l_merge {p : Program} {l : Launch} {e : Env} {s : State} {m : MethodId} {below : List Frame} {meth : Method} {c : Code} {Q : State → Prop} {D : va_G} {A : Nat → Prop} {d : ClassId} {qx hx qm hm ho b L : Nat} {xs : Nat → Int32} (hX : va_X b L xs s s.heap) (hbl : b < s.heap.size) (hbA : ¬ A b) (hL : L ≤ 384) (S : CallFix p m c cL_law 4 s #[Value.ref b] lw_all "SortDeskLaw") (hcs : sd_cst s) (hA : ∀ q : Nat, s.heap.size ≤ q → A q) (i k : Nat) (f g o : Nat → Int32) (hi : i + 6 ≤ L) (hk : k ≤ 2048) (hag : sd_Ag f g k) {cells slots : Nat} (hC : cells + 5 ≤ 600000 ∧ slots + 2810 ≤ 7302250)
    (K : ∀ (k : Nat) (f g o : Nat → Int32) (H : Heap) (locs : List Loc) (ls : Array Slot), k ≤ 2048 → sd_Ag f g k → sd_G D A s.heap s [(d, .int)] [(qx, .inr (0, [.ref hx, .int (nI k)])), sd_ar hx d 2048 f, (qm, .inr (1, [.ref hm, .ref ho, .int (nI k)])), sd_ar hm d 2048 g, sd_ar ho d 2048 o] H locs → lv_has ls 4 [(0, .ref b), (1, .ref qx), (2, .ref qm), (3, .int (nI i))] → W p l e room_1 s m #[Value.ref b] below meth c H locs (cells + 5) (slots + 2810) Q (F0 m 443 ls []))
    (H : Heap) (locs : List Loc) (ls : Array Slot) (hG : sd_G D A s.heap s [(d, .int)] [(qx, .inr (0, [.ref hx, .int (nI k)])), sd_ar hx d 2048 f, (qm, .inr (1, [.ref hm, .ref ho, .int (nI k)])), sd_ar hm d 2048 g, sd_ar ho d 2048 o] H locs) (hl : lv_has ls 4 [(0, .ref b), (1, .ref qx), (2, .ref qm), (3, .int (nI i))]) : W p l e room_1 s m #[Value.ref b] below meth c H locs cells slots Q (F0 m 276 ls []) := by
  refine lv_aload_n S.1 S.2.1 dL_law_276 rfl (lv_at hl 1 rfl) ?_
  refine lv_aload_n S.1 S.2.1 dL_law_277 rfl (lv_at hl 0 rfl) ?_
  refine lv_iload_n S.1 S.2.1 dL_law_278 rfl (lv_at hl 3 rfl) ?_
  refine lv_iconst (v := nI 1) S.1 S.2.1 dL_law_279 (by decide +kernel) ?_
  refine sd_iadd S.1 S.2.1 dL_law_280 ?_
  refine sd_sld S.1 S.2.1 hX hbl hbA hG (by omega) (by omega) dL_law_281 ?_
  refine lv_aload_n S.1 S.2.1 dL_law_282 rfl (lv_at hl 0 rfl) ?_
  refine lv_iload_n S.1 S.2.1 dL_law_283 rfl (lv_at hl 3 rfl) ?_
  refine lv_iconst (v := nI 2) S.1 S.2.1 dL_law_284 (by decide +kernel) ?_
  refine sd_iadd S.1 S.2.1 dL_law_285 ?_
  refine sd_sld S.1 S.2.1 hX hbl hbA hG (by omega) (by omega) dL_law_286 ?_
  refine sd_callXv (nn := 2) (as := [.int (xs (i + 1)), .int (xs (i + 2))]) (rest := []) (wr := [(qm, .inr (1, [.ref hm, .ref ho, .int (nI k)])), sd_ar hm d 2048 g, sd_ar ho d 2048 o]) S (sd_x_merge l D qx hx d k f hk (xs (i + 1)) (xs (i + 2))) (lw_V q82 q83 q84 q4 q85) (by decide +kernel) rfl ⟨Nat.le_of_ble_eq_true rfl, Nat.le_of_ble_eq_true rfl⟩ ⟨by show cells + 1 ≤ 600000; omega, by show slots + 2048 ≤ 7302250; omega⟩ hcs hG hA 0 rfl [0, 1] [2, 3, 4] rfl rfl rfl rfl rfl (by decide) 0 rfl rfl rfl hl.1 rfl (Nat.le_of_ble_eq_true rfl) dL_law_287 (fun u H locs er hG => ?_)
  obtain ⟨k1, f1⟩ := u
  have hG : sd_G D A s.heap s [(d, .int)] [(qx, .inr (0, [.ref hx, .int (nI k1)])), sd_ar hx d 2048 f1, (qm, .inr (1, [.ref hm, .ref ho, .int (nI k)])), sd_ar hm d 2048 g, sd_ar ho d 2048 o] H locs := sd_Gsub hG [3, 4, 0, 1, 2] (by decide) rfl rfl
  refine lv_aload_n S.1 S.2.1 dL_law_290 rfl (lv_at hl 2 rfl) ?_
  refine lv_aload_n S.1 S.2.1 dL_law_291 rfl (lv_at hl 0 rfl) ?_
  refine lv_iload_n S.1 S.2.1 dL_law_292 rfl (lv_at hl 3 rfl) ?_
  refine lv_iconst (v := nI 1) S.1 S.2.1 dL_law_293 (by decide +kernel) ?_
  refine sd_iadd S.1 S.2.1 dL_law_294 ?_
  refine sd_sld S.1 S.2.1 hX hbl hbA hG (by omega) (by omega) dL_law_295 ?_
  refine lv_aload_n S.1 S.2.1 dL_law_296 rfl (lv_at hl 0 rfl) ?_
  refine lv_iload_n S.1 S.2.1 dL_law_297 rfl (lv_at hl 3 rfl) ?_
  refine lv_iconst (v := nI 2) S.1 S.2.1 dL_law_298 (by decide +kernel) ?_
  refine sd_iadd S.1 S.2.1 dL_law_299 ?_
  refine sd_sld S.1 S.2.1 hX hbl hbA hG (by omega) (by omega) dL_law_300 ?_
  refine sd_callXv (nn := 2) (as := [.int (xs (i + 1)), .int (xs (i + 2))]) (rest := []) (wr := [(qx, .inr (0, [.ref hx, .int (nI k1)])), sd_ar hx d 2048 f1]) S (sd_y_merge l D qm hm ho d k g o hk (xs (i + 1)) (xs (i + 2))) (lw_V q186 q187 q188 q5 q189) (by decide +kernel) rfl ⟨Nat.le_of_ble_eq_true rfl, Nat.le_of_ble_eq_true rfl⟩ ⟨by show cells + 1 + 0 ≤ 600000; omega, by show slots + 2048 + 0 ≤ 7302250; omega⟩ hcs hG hA 0 rfl [2, 3, 4] [0, 1] rfl rfl rfl rfl rfl (by decide) 1 rfl rfl rfl hl.1 rfl (Nat.le_of_ble_eq_true rfl) dL_law_301 (fun u H locs em hG => ?_)
  obtain ⟨k2, g1, o1⟩ := u
  have hG : sd_G D A s.heap s [(d, .int)] [(qx, .inr (0, [.ref hx, .int (nI k1)])), sd_ar hx d 2048 f1, (qm, .inr (1, [.ref hm, .ref ho, .int (nI k2)])), sd_ar hm d 2048 g1, sd_ar ho d 2048 o1] H locs := hG
  try dsimp only at er em
  have key : k2 = k1 ∧ k1 ≤ 2048 ∧ sd_Ag f1 g1 k1 := by
    obtain ⟨e1, e2, e3⟩ := er
    obtain ⟨m1, m2, m3⟩ := em
    have e1 : k1 = k := e1
    have m1 : k2 = k := m1
    refine ⟨m1.trans e1.symm, by omega, ?_⟩
    rw [e1]
    exact hag.srt (sd_toLe sd_frLe).2 e2 e3 m2 m3
  obtain ⟨hk2, hk1, hag⟩ := key
  subst hk2
  refine lv_goto (tgt := 443) S.1 S.2.1 dL_law_304 (by decide) ?_
  refine W.widen (k := cells + 5) (n := slots + 2810) (by omega) (by omega) ?_
  exact K _ _ _ _ H locs ls hk1 hag hG hl
set_option maxHeartbeats 4000000 in
set_option maxRecDepth 100000 in
theorem sd_l_radix {p : Program} {l : Launch} {e : Env} {s : State} {m : MethodId} {below : List Frame} {meth : Method} {c : Code} {Q : State → Prop} {D : va_G} {A : Nat → Prop} {d : ClassId} {qx hx qm hm ho b L : Nat} {xs : Nat → Int32} (hX : va_X b L xs s s.heap) (hbl : b < s.heap.size) (hbA : ¬ A b) (hL : L ≤ 384) (S : CallFix p m c cL_law 4 s #[Value.ref b] lw_all "SortDeskLaw") (hcs : sd_cst s) (hA : ∀ q : Nat, s.heap.size ≤ q → A q) (i k : Nat) (f g o : Nat → Int32) (hi : i + 6 ≤ L) (hk : k ≤ 2048) (hag : sd_Ag f g k) {cells slots : Nat} (hC : cells + 5 ≤ 600000 ∧ slots + 2810 ≤ 7302250)
    (K : ∀ (k : Nat) (f g o : Nat → Int32) (H : Heap) (locs : List Loc) (ls : Array Slot), k ≤ 2048 → sd_Ag f g k → sd_G D A s.heap s [(d, .int)] [(qx, .inr (0, [.ref hx, .int (nI k)])), sd_ar hx d 2048 f, (qm, .inr (1, [.ref hm, .ref ho, .int (nI k)])), sd_ar hm d 2048 g, sd_ar ho d 2048 o] H locs → lv_has ls 4 [(0, .ref b), (1, .ref qx), (2, .ref qm), (3, .int (nI i))] → W p l e room_1 s m #[Value.ref b] below meth c H locs (cells + 5) (slots + 2810) Q (F0 m 443 ls []))
    (H : Heap) (locs : List Loc) (ls : Array Slot) (hG : sd_G D A s.heap s [(d, .int)] [(qx, .inr (0, [.ref hx, .int (nI k)])), sd_ar hx d 2048 f, (qm, .inr (1, [.ref hm, .ref ho, .int (nI k)])), sd_ar hm d 2048 g, sd_ar ho d 2048 o] H locs) (hl : lv_has ls 4 [(0, .ref b), (1, .ref qx), (2, .ref qm), (3, .int (nI i))]) : W p l e room_1 s m #[Value.ref b] below meth c H locs cells slots Q (F0 m 307 ls []) := by
  refine lv_aload_n S.1 S.2.1 dL_law_307 rfl (lv_at hl 1 rfl) ?_
  refine lv_aload_n S.1 S.2.1 dL_law_308 rfl (lv_at hl 0 rfl) ?_
  refine lv_iload_n S.1 S.2.1 dL_law_309 rfl (lv_at hl 3 rfl) ?_
  refine lv_iconst (v := nI 1) S.1 S.2.1 dL_law_310 (by decide +kernel) ?_
  refine sd_iadd S.1 S.2.1 dL_law_311 ?_
  refine sd_sld S.1 S.2.1 hX hbl hbA hG (by omega) (by omega) dL_law_312 ?_
  refine lv_aload_n S.1 S.2.1 dL_law_313 rfl (lv_at hl 0 rfl) ?_
  refine lv_iload_n S.1 S.2.1 dL_law_314 rfl (lv_at hl 3 rfl) ?_
  refine lv_iconst (v := nI 2) S.1 S.2.1 dL_law_315 (by decide +kernel) ?_
  refine sd_iadd S.1 S.2.1 dL_law_316 ?_
  refine sd_sld S.1 S.2.1 hX hbl hbA hG (by omega) (by omega) dL_law_317 ?_
  refine sd_callXv (nn := 2) (as := [.int (xs (i + 1)), .int (xs (i + 2))]) (rest := []) (wr := [(qm, .inr (1, [.ref hm, .ref ho, .int (nI k)])), sd_ar hm d 2048 g, sd_ar ho d 2048 o]) S (sd_x_radix l D qx hx d k f hk (xs (i + 1)) (xs (i + 2))) (lw_V q111 q112 q113 q4 q114) (by decide +kernel) rfl ⟨Nat.le_of_ble_eq_true rfl, Nat.le_of_ble_eq_true rfl⟩ ⟨by show cells + 5 ≤ 600000; omega, by show slots + 2810 ≤ 7302250; omega⟩ hcs hG hA 0 rfl [0, 1] [2, 3, 4] rfl rfl rfl rfl rfl (by decide) 0 rfl rfl rfl hl.1 rfl (Nat.le_of_ble_eq_true rfl) dL_law_318 (fun u H locs er hG => ?_)
  obtain ⟨k1, f1⟩ := u
  have hG : sd_G D A s.heap s [(d, .int)] [(qx, .inr (0, [.ref hx, .int (nI k1)])), sd_ar hx d 2048 f1, (qm, .inr (1, [.ref hm, .ref ho, .int (nI k)])), sd_ar hm d 2048 g, sd_ar ho d 2048 o] H locs := sd_Gsub hG [3, 4, 0, 1, 2] (by decide) rfl rfl
  refine lv_aload_n S.1 S.2.1 dL_law_321 rfl (lv_at hl 2 rfl) ?_
  refine lv_aload_n S.1 S.2.1 dL_law_322 rfl (lv_at hl 0 rfl) ?_
  refine lv_iload_n S.1 S.2.1 dL_law_323 rfl (lv_at hl 3 rfl) ?_
  refine lv_iconst (v := nI 1) S.1 S.2.1 dL_law_324 (by decide +kernel) ?_
  refine sd_iadd S.1 S.2.1 dL_law_325 ?_
  refine sd_sld S.1 S.2.1 hX hbl hbA hG (by omega) (by omega) dL_law_326 ?_
  refine lv_aload_n S.1 S.2.1 dL_law_327 rfl (lv_at hl 0 rfl) ?_
  refine lv_iload_n S.1 S.2.1 dL_law_328 rfl (lv_at hl 3 rfl) ?_
  refine lv_iconst (v := nI 2) S.1 S.2.1 dL_law_329 (by decide +kernel) ?_
  refine sd_iadd S.1 S.2.1 dL_law_330 ?_
  refine sd_sld S.1 S.2.1 hX hbl hbA hG (by omega) (by omega) dL_law_331 ?_
  refine sd_callXv (nn := 2) (as := [.int (xs (i + 1)), .int (xs (i + 2))]) (rest := []) (wr := [(qx, .inr (0, [.ref hx, .int (nI k1)])), sd_ar hx d 2048 f1]) S (sd_y_radix l D qm hm ho d k g o hk (xs (i + 1)) (xs (i + 2))) (lw_V q190 q191 q192 q5 q193) (by decide +kernel) rfl ⟨Nat.le_of_ble_eq_true rfl, Nat.le_of_ble_eq_true rfl⟩ ⟨by show cells + 5 + 0 ≤ 600000; omega, by show slots + 2810 + 0 ≤ 7302250; omega⟩ hcs hG hA 0 rfl [2, 3, 4] [0, 1] rfl rfl rfl rfl rfl (by decide) 1 rfl rfl rfl hl.1 rfl (Nat.le_of_ble_eq_true rfl) dL_law_332 (fun u H locs em hG => ?_)
  obtain ⟨k2, g1, o1⟩ := u
  have hG : sd_G D A s.heap s [(d, .int)] [(qx, .inr (0, [.ref hx, .int (nI k1)])), sd_ar hx d 2048 f1, (qm, .inr (1, [.ref hm, .ref ho, .int (nI k2)])), sd_ar hm d 2048 g1, sd_ar ho d 2048 o1] H locs := hG
  try dsimp only at er em
  have key : k2 = k1 ∧ k1 ≤ 2048 ∧ sd_Ag f1 g1 k1 := by
    obtain ⟨e1, e2, e3⟩ := er
    obtain ⟨m1, m2, m3⟩ := em
    have e1 : k1 = k := e1
    have m1 : k2 = k := m1
    refine ⟨m1.trans e1.symm, by omega, ?_⟩
    rw [e1]
    exact hag.srt (sd_toLe sd_frLe).2 e2 e3 m2 m3
  obtain ⟨hk2, hk1, hag⟩ := key
  subst hk2
  refine lv_goto (tgt := 443) S.1 S.2.1 dL_law_335 (by decide) ?_
  refine W.widen (k := cells + 5) (n := slots + 2810) (by omega) (by omega) ?_
  exact K _ _ _ _ H locs ls hk1 hag hG hl
set_option maxHeartbeats 4000000 in
set_option maxRecDepth 100000 in
theorem sd_l_unstable {p : Program} {l : Launch} {e : Env} {s : State} {m : MethodId} {below : List Frame} {meth : Method} {c : Code} {Q : State → Prop} {D : va_G} {A : Nat → Prop} {d : ClassId} {qx hx qm hm ho b L : Nat} {xs : Nat → Int32} (hX : va_X b L xs s s.heap) (hbl : b < s.heap.size) (hbA : ¬ A b) (hL : L ≤ 384) (S : CallFix p m c cL_law 4 s #[Value.ref b] lw_all "SortDeskLaw") (hcs : sd_cst s) (hA : ∀ q : Nat, s.heap.size ≤ q → A q) (i k : Nat) (f g o : Nat → Int32) (hi : i + 6 ≤ L) (hk : k ≤ 2048) (hag : sd_Ag f g k) {cells slots : Nat} (hC : cells + 5 ≤ 600000 ∧ slots + 2810 ≤ 7302250)
    (K : ∀ (k : Nat) (f g o : Nat → Int32) (H : Heap) (locs : List Loc) (ls : Array Slot), k ≤ 2048 → sd_Ag f g k → sd_G D A s.heap s [(d, .int)] [(qx, .inr (0, [.ref hx, .int (nI k)])), sd_ar hx d 2048 f, (qm, .inr (1, [.ref hm, .ref ho, .int (nI k)])), sd_ar hm d 2048 g, sd_ar ho d 2048 o] H locs → lv_has ls 4 [(0, .ref b), (1, .ref qx), (2, .ref qm), (3, .int (nI i))] → W p l e room_1 s m #[Value.ref b] below meth c H locs (cells + 5) (slots + 2810) Q (F0 m 443 ls []))
    (H : Heap) (locs : List Loc) (ls : Array Slot) (hG : sd_G D A s.heap s [(d, .int)] [(qx, .inr (0, [.ref hx, .int (nI k)])), sd_ar hx d 2048 f, (qm, .inr (1, [.ref hm, .ref ho, .int (nI k)])), sd_ar hm d 2048 g, sd_ar ho d 2048 o] H locs) (hl : lv_has ls 4 [(0, .ref b), (1, .ref qx), (2, .ref qm), (3, .int (nI i))]) : W p l e room_1 s m #[Value.ref b] below meth c H locs cells slots Q (F0 m 338 ls []) := by
  refine lv_aload_n S.1 S.2.1 dL_law_338 rfl (lv_at hl 1 rfl) ?_
  refine lv_aload_n S.1 S.2.1 dL_law_339 rfl (lv_at hl 0 rfl) ?_
  refine lv_iload_n S.1 S.2.1 dL_law_340 rfl (lv_at hl 3 rfl) ?_
  refine lv_iconst (v := nI 1) S.1 S.2.1 dL_law_341 (by decide +kernel) ?_
  refine sd_iadd S.1 S.2.1 dL_law_342 ?_
  refine sd_sld S.1 S.2.1 hX hbl hbA hG (by omega) (by omega) dL_law_343 ?_
  refine lv_aload_n S.1 S.2.1 dL_law_344 rfl (lv_at hl 0 rfl) ?_
  refine lv_iload_n S.1 S.2.1 dL_law_345 rfl (lv_at hl 3 rfl) ?_
  refine lv_iconst (v := nI 2) S.1 S.2.1 dL_law_346 (by decide +kernel) ?_
  refine sd_iadd S.1 S.2.1 dL_law_347 ?_
  refine sd_sld S.1 S.2.1 hX hbl hbA hG (by omega) (by omega) dL_law_348 ?_
  refine sd_callXv (nn := 2) (as := [.int (xs (i + 1)), .int (xs (i + 2))]) (rest := []) (wr := [(qm, .inr (1, [.ref hm, .ref ho, .int (nI k)])), sd_ar hm d 2048 g, sd_ar ho d 2048 o]) S (sd_x_unstable l D qx hx d k f hk (xs (i + 1)) (xs (i + 2))) (lw_V q118 q119 q120 q4 q121) (by decide +kernel) rfl ⟨Nat.le_of_ble_eq_true rfl, Nat.le_of_ble_eq_true rfl⟩ ⟨by show cells + 5 ≤ 600000; omega, by show slots + 2810 ≤ 7302250; omega⟩ hcs hG hA 0 rfl [0, 1] [2, 3, 4] rfl rfl rfl rfl rfl (by decide) 0 rfl rfl rfl hl.1 rfl (Nat.le_of_ble_eq_true rfl) dL_law_349 (fun u H locs er hG => ?_)
  obtain ⟨k1, f1⟩ := u
  have hG : sd_G D A s.heap s [(d, .int)] [(qx, .inr (0, [.ref hx, .int (nI k1)])), sd_ar hx d 2048 f1, (qm, .inr (1, [.ref hm, .ref ho, .int (nI k)])), sd_ar hm d 2048 g, sd_ar ho d 2048 o] H locs := sd_Gsub hG [3, 4, 0, 1, 2] (by decide) rfl rfl
  refine lv_aload_n S.1 S.2.1 dL_law_352 rfl (lv_at hl 2 rfl) ?_
  refine lv_aload_n S.1 S.2.1 dL_law_353 rfl (lv_at hl 0 rfl) ?_
  refine lv_iload_n S.1 S.2.1 dL_law_354 rfl (lv_at hl 3 rfl) ?_
  refine lv_iconst (v := nI 1) S.1 S.2.1 dL_law_355 (by decide +kernel) ?_
  refine sd_iadd S.1 S.2.1 dL_law_356 ?_
  refine sd_sld S.1 S.2.1 hX hbl hbA hG (by omega) (by omega) dL_law_357 ?_
  refine lv_aload_n S.1 S.2.1 dL_law_358 rfl (lv_at hl 0 rfl) ?_
  refine lv_iload_n S.1 S.2.1 dL_law_359 rfl (lv_at hl 3 rfl) ?_
  refine lv_iconst (v := nI 2) S.1 S.2.1 dL_law_360 (by decide +kernel) ?_
  refine sd_iadd S.1 S.2.1 dL_law_361 ?_
  refine sd_sld S.1 S.2.1 hX hbl hbA hG (by omega) (by omega) dL_law_362 ?_
  refine sd_callXv (nn := 2) (as := [.int (xs (i + 1)), .int (xs (i + 2))]) (rest := []) (wr := [(qx, .inr (0, [.ref hx, .int (nI k1)])), sd_ar hx d 2048 f1]) S (sd_y_unstable l D qm hm ho d k g o hk (xs (i + 1)) (xs (i + 2))) (lw_V q194 q195 q196 q5 q197) (by decide +kernel) rfl ⟨Nat.le_of_ble_eq_true rfl, Nat.le_of_ble_eq_true rfl⟩ ⟨by show cells + 5 + 0 ≤ 600000; omega, by show slots + 2810 + 0 ≤ 7302250; omega⟩ hcs hG hA 0 rfl [2, 3, 4] [0, 1] rfl rfl rfl rfl rfl (by decide) 1 rfl rfl rfl hl.1 rfl (Nat.le_of_ble_eq_true rfl) dL_law_363 (fun u H locs em hG => ?_)
  obtain ⟨k2, g1, o1⟩ := u
  have hG : sd_G D A s.heap s [(d, .int)] [(qx, .inr (0, [.ref hx, .int (nI k1)])), sd_ar hx d 2048 f1, (qm, .inr (1, [.ref hm, .ref ho, .int (nI k2)])), sd_ar hm d 2048 g1, sd_ar ho d 2048 o1] H locs := hG
  try dsimp only at er em
  have key : k2 = k1 ∧ k1 ≤ 2048 ∧ sd_Ag f1 g1 k1 := by
    obtain ⟨e1, e2, e3⟩ := er
    obtain ⟨m1, m2, m3⟩ := em
    have e1 : k1 = k := e1
    have m1 : k2 = k := m1
    refine ⟨m1.trans e1.symm, by omega, ?_⟩
    rw [e1]
    exact hag.srt (sd_toLe sd_frLe).2 e2 e3 m2 m3
  obtain ⟨hk2, hk1, hag⟩ := key
  subst hk2
  refine lv_goto (tgt := 443) S.1 S.2.1 dL_law_366 (by decide) ?_
  refine W.widen (k := cells + 5) (n := slots + 2810) (by omega) (by omega) ?_
  exact K _ _ _ _ H locs ls hk1 hag hG hl
set_option maxHeartbeats 4000000 in
set_option maxRecDepth 100000 in
theorem sd_l_reverse {p : Program} {l : Launch} {e : Env} {s : State} {m : MethodId} {below : List Frame} {meth : Method} {c : Code} {Q : State → Prop} {D : va_G} {A : Nat → Prop} {d : ClassId} {qx hx qm hm ho b L : Nat} {xs : Nat → Int32} (hX : va_X b L xs s s.heap) (hbl : b < s.heap.size) (hbA : ¬ A b) (hL : L ≤ 384) (S : CallFix p m c cL_law 4 s #[Value.ref b] lw_all "SortDeskLaw") (hcs : sd_cst s) (hA : ∀ q : Nat, s.heap.size ≤ q → A q) (i k : Nat) (f g o : Nat → Int32) (hi : i + 6 ≤ L) (hk : k ≤ 2048) (hag : sd_Ag f g k) {cells slots : Nat} (hC : cells + 5 ≤ 600000 ∧ slots + 2810 ≤ 7302250)
    (K : ∀ (k : Nat) (f g o : Nat → Int32) (H : Heap) (locs : List Loc) (ls : Array Slot), k ≤ 2048 → sd_Ag f g k → sd_G D A s.heap s [(d, .int)] [(qx, .inr (0, [.ref hx, .int (nI k)])), sd_ar hx d 2048 f, (qm, .inr (1, [.ref hm, .ref ho, .int (nI k)])), sd_ar hm d 2048 g, sd_ar ho d 2048 o] H locs → lv_has ls 4 [(0, .ref b), (1, .ref qx), (2, .ref qm), (3, .int (nI i))] → W p l e room_1 s m #[Value.ref b] below meth c H locs (cells + 5) (slots + 2810) Q (F0 m 443 ls []))
    (H : Heap) (locs : List Loc) (ls : Array Slot) (hG : sd_G D A s.heap s [(d, .int)] [(qx, .inr (0, [.ref hx, .int (nI k)])), sd_ar hx d 2048 f, (qm, .inr (1, [.ref hm, .ref ho, .int (nI k)])), sd_ar hm d 2048 g, sd_ar ho d 2048 o] H locs) (hl : lv_has ls 4 [(0, .ref b), (1, .ref qx), (2, .ref qm), (3, .int (nI i))]) : W p l e room_1 s m #[Value.ref b] below meth c H locs cells slots Q (F0 m 369 ls []) := by
  refine lv_aload_n S.1 S.2.1 dL_law_369 rfl (lv_at hl 1 rfl) ?_
  refine lv_aload_n S.1 S.2.1 dL_law_370 rfl (lv_at hl 0 rfl) ?_
  refine lv_iload_n S.1 S.2.1 dL_law_371 rfl (lv_at hl 3 rfl) ?_
  refine lv_iconst (v := nI 1) S.1 S.2.1 dL_law_372 (by decide +kernel) ?_
  refine sd_iadd S.1 S.2.1 dL_law_373 ?_
  refine sd_sld S.1 S.2.1 hX hbl hbA hG (by omega) (by omega) dL_law_374 ?_
  refine lv_aload_n S.1 S.2.1 dL_law_375 rfl (lv_at hl 0 rfl) ?_
  refine lv_iload_n S.1 S.2.1 dL_law_376 rfl (lv_at hl 3 rfl) ?_
  refine lv_iconst (v := nI 2) S.1 S.2.1 dL_law_377 (by decide +kernel) ?_
  refine sd_iadd S.1 S.2.1 dL_law_378 ?_
  refine sd_sld S.1 S.2.1 hX hbl hbA hG (by omega) (by omega) dL_law_379 ?_
  refine sd_callXv (nn := 2) (as := [.int (xs (i + 1)), .int (xs (i + 2))]) (rest := []) (wr := [(qm, .inr (1, [.ref hm, .ref ho, .int (nI k)])), sd_ar hm d 2048 g, sd_ar ho d 2048 o]) S (sd_x_reverse l D qx hx d k f hk (xs (i + 1)) (xs (i + 2))) (lw_V q126 q127 q128 q4 q129) (by decide +kernel) rfl ⟨Nat.le_of_ble_eq_true rfl, Nat.le_of_ble_eq_true rfl⟩ ⟨by show cells + 0 ≤ 600000; omega, by show slots + 0 ≤ 7302250; omega⟩ hcs hG hA 0 rfl [0, 1] [2, 3, 4] rfl rfl rfl rfl rfl (by decide) 0 rfl rfl rfl hl.1 rfl (Nat.le_of_ble_eq_true rfl) dL_law_380 (fun u H locs er hG => ?_)
  obtain ⟨k1, f1⟩ := u
  have hG : sd_G D A s.heap s [(d, .int)] [(qx, .inr (0, [.ref hx, .int (nI k1)])), sd_ar hx d 2048 f1, (qm, .inr (1, [.ref hm, .ref ho, .int (nI k)])), sd_ar hm d 2048 g, sd_ar ho d 2048 o] H locs := sd_Gsub hG [3, 4, 0, 1, 2] (by decide) rfl rfl
  refine lv_aload_n S.1 S.2.1 dL_law_383 rfl (lv_at hl 2 rfl) ?_
  refine lv_aload_n S.1 S.2.1 dL_law_384 rfl (lv_at hl 0 rfl) ?_
  refine lv_iload_n S.1 S.2.1 dL_law_385 rfl (lv_at hl 3 rfl) ?_
  refine lv_iconst (v := nI 1) S.1 S.2.1 dL_law_386 (by decide +kernel) ?_
  refine sd_iadd S.1 S.2.1 dL_law_387 ?_
  refine sd_sld S.1 S.2.1 hX hbl hbA hG (by omega) (by omega) dL_law_388 ?_
  refine lv_aload_n S.1 S.2.1 dL_law_389 rfl (lv_at hl 0 rfl) ?_
  refine lv_iload_n S.1 S.2.1 dL_law_390 rfl (lv_at hl 3 rfl) ?_
  refine lv_iconst (v := nI 2) S.1 S.2.1 dL_law_391 (by decide +kernel) ?_
  refine sd_iadd S.1 S.2.1 dL_law_392 ?_
  refine sd_sld S.1 S.2.1 hX hbl hbA hG (by omega) (by omega) dL_law_393 ?_
  refine sd_callXv (nn := 2) (as := [.int (xs (i + 1)), .int (xs (i + 2))]) (rest := []) (wr := [(qx, .inr (0, [.ref hx, .int (nI k1)])), sd_ar hx d 2048 f1]) S (sd_y_reverse l D qm hm ho d k g o hk (xs (i + 1)) (xs (i + 2))) (lw_V q198 q199 q200 q5 q201) (by decide +kernel) rfl ⟨Nat.le_of_ble_eq_true rfl, Nat.le_of_ble_eq_true rfl⟩ ⟨by show cells + 0 + 0 ≤ 600000; omega, by show slots + 0 + 0 ≤ 7302250; omega⟩ hcs hG hA 0 rfl [2, 3, 4] [0, 1] rfl rfl rfl rfl rfl (by decide) 1 rfl rfl rfl hl.1 rfl (Nat.le_of_ble_eq_true rfl) dL_law_394 (fun u H locs em hG => ?_)
  obtain ⟨k2, g1, o1⟩ := u
  have hG : sd_G D A s.heap s [(d, .int)] [(qx, .inr (0, [.ref hx, .int (nI k1)])), sd_ar hx d 2048 f1, (qm, .inr (1, [.ref hm, .ref ho, .int (nI k2)])), sd_ar hm d 2048 g1, sd_ar ho d 2048 o1] H locs := hG
  try dsimp only at er em
  have key : k2 = k1 ∧ k1 ≤ 2048 ∧ sd_Ag f1 g1 k1 := by
    obtain ⟨e1, e2⟩ := er
    obtain ⟨m1, m2⟩ := em
    have e1 : k1 = k := e1
    have m1 : k2 = k := m1
    refine ⟨m1.trans e1.symm, by omega, ?_⟩
    rw [e1]
    exact hag.rev (sd_toLe sd_frLe).2 e2 m2
  obtain ⟨hk2, hk1, hag⟩ := key
  subst hk2
  refine lv_goto (tgt := 443) S.1 S.2.1 dL_law_397 (by decide) ?_
  refine W.widen (k := cells + 5) (n := slots + 2810) (by omega) (by omega) ?_
  exact K _ _ _ _ H locs ls hk1 hag hG hl
set_option maxHeartbeats 4000000 in
set_option maxRecDepth 100000 in
theorem sd_l_find {p : Program} {l : Launch} {e : Env} {s : State} {m : MethodId} {below : List Frame} {meth : Method} {c : Code} {Q : State → Prop} {D : va_G} {A : Nat → Prop} {d : ClassId} {qx hx qm hm ho b L : Nat} {xs : Nat → Int32} (hX : va_X b L xs s s.heap) (hbl : b < s.heap.size) (hbA : ¬ A b) (hL : L ≤ 384) (S : CallFix p m c cL_law 4 s #[Value.ref b] lw_all "SortDeskLaw") (hcs : sd_cst s) (hA : ∀ q : Nat, s.heap.size ≤ q → A q) (i k : Nat) (f g o : Nat → Int32) (hi : i + 6 ≤ L) (hk : k ≤ 2048) (hag : sd_Ag f g k) {cells slots : Nat} (hC : cells + 5 ≤ 600000 ∧ slots + 2810 ≤ 7302250)
    (K : ∀ (k : Nat) (f g o : Nat → Int32) (H : Heap) (locs : List Loc) (ls : Array Slot), k ≤ 2048 → sd_Ag f g k → sd_G D A s.heap s [(d, .int)] [(qx, .inr (0, [.ref hx, .int (nI k)])), sd_ar hx d 2048 f, (qm, .inr (1, [.ref hm, .ref ho, .int (nI k)])), sd_ar hm d 2048 g, sd_ar ho d 2048 o] H locs → lv_has ls 4 [(0, .ref b), (1, .ref qx), (2, .ref qm), (3, .int (nI i))] → W p l e room_1 s m #[Value.ref b] below meth c H locs (cells + 5) (slots + 2810) Q (F0 m 443 ls []))
    (H : Heap) (locs : List Loc) (ls : Array Slot) (hG : sd_G D A s.heap s [(d, .int)] [(qx, .inr (0, [.ref hx, .int (nI k)])), sd_ar hx d 2048 f, (qm, .inr (1, [.ref hm, .ref ho, .int (nI k)])), sd_ar hm d 2048 g, sd_ar ho d 2048 o] H locs) (hl : lv_has ls 4 [(0, .ref b), (1, .ref qx), (2, .ref qm), (3, .int (nI i))]) : W p l e room_1 s m #[Value.ref b] below meth c H locs cells slots Q (F0 m 400 ls []) := by
  refine lv_aload_n S.1 S.2.1 dL_law_400 rfl (lv_at hl 1 rfl) ?_
  refine lv_aload_n S.1 S.2.1 dL_law_401 rfl (lv_at hl 0 rfl) ?_
  refine lv_iload_n S.1 S.2.1 dL_law_402 rfl (lv_at hl 3 rfl) ?_
  refine lv_iconst (v := nI 1) S.1 S.2.1 dL_law_403 (by decide +kernel) ?_
  refine sd_iadd S.1 S.2.1 dL_law_404 ?_
  refine sd_sld S.1 S.2.1 hX hbl hbA hG (by omega) (by omega) dL_law_405 ?_
  refine lv_aload_n S.1 S.2.1 dL_law_406 rfl (lv_at hl 0 rfl) ?_
  refine lv_iload_n S.1 S.2.1 dL_law_407 rfl (lv_at hl 3 rfl) ?_
  refine lv_iconst (v := nI 2) S.1 S.2.1 dL_law_408 (by decide +kernel) ?_
  refine sd_iadd S.1 S.2.1 dL_law_409 ?_
  refine sd_sld S.1 S.2.1 hX hbl hbA hG (by omega) (by omega) dL_law_410 ?_
  refine lv_aload_n S.1 S.2.1 dL_law_411 rfl (lv_at hl 0 rfl) ?_
  refine lv_iload_n S.1 S.2.1 dL_law_412 rfl (lv_at hl 3 rfl) ?_
  refine lv_iconst (v := nI 3) S.1 S.2.1 dL_law_413 (by decide +kernel) ?_
  refine sd_iadd S.1 S.2.1 dL_law_414 ?_
  refine sd_sld S.1 S.2.1 hX hbl hbA hG (by omega) (by omega) dL_law_415 ?_
  refine sd_callXi (nn := 3) (as := [.int (xs (i + 1)), .int (xs (i + 2)), .int (xs (i + 3))]) (rest := []) (wr := [(qm, .inr (1, [.ref hm, .ref ho, .int (nI k)])), sd_ar hm d 2048 g, sd_ar ho d 2048 o]) S (sd_x_find l D qx hx d k f hk (xs (i + 1)) (xs (i + 2)) (xs (i + 3))) (lw_V q133 q134 q135 q4 q136) (by decide +kernel) rfl ⟨Nat.le_of_ble_eq_true rfl, Nat.le_of_ble_eq_true rfl⟩ ⟨by show cells + 0 ≤ 600000; omega, by show slots + 0 ≤ 7302250; omega⟩ hcs hG hA 0 rfl [0, 1] [2, 3, 4] rfl rfl rfl rfl rfl (by decide) 0 rfl rfl rfl hl.1 rfl (Nat.le_of_ble_eq_true rfl) dL_law_416 (fun r1 u H locs er hG => ?_)
  obtain ⟨k1, f1⟩ := u
  have hG : sd_G D A s.heap s [(d, .int)] [(qx, .inr (0, [.ref hx, .int (nI k1)])), sd_ar hx d 2048 f1, (qm, .inr (1, [.ref hm, .ref ho, .int (nI k)])), sd_ar hm d 2048 g, sd_ar ho d 2048 o] H locs := sd_Gsub hG [3, 4, 0, 1, 2] (by decide) rfl rfl
  refine lv_aload_n S.1 S.2.1 dL_law_419 rfl (lv_at hl 2 rfl) ?_
  refine lv_aload_n S.1 S.2.1 dL_law_420 rfl (lv_at hl 0 rfl) ?_
  refine lv_iload_n S.1 S.2.1 dL_law_421 rfl (lv_at hl 3 rfl) ?_
  refine lv_iconst (v := nI 1) S.1 S.2.1 dL_law_422 (by decide +kernel) ?_
  refine sd_iadd S.1 S.2.1 dL_law_423 ?_
  refine sd_sld S.1 S.2.1 hX hbl hbA hG (by omega) (by omega) dL_law_424 ?_
  refine lv_aload_n S.1 S.2.1 dL_law_425 rfl (lv_at hl 0 rfl) ?_
  refine lv_iload_n S.1 S.2.1 dL_law_426 rfl (lv_at hl 3 rfl) ?_
  refine lv_iconst (v := nI 2) S.1 S.2.1 dL_law_427 (by decide +kernel) ?_
  refine sd_iadd S.1 S.2.1 dL_law_428 ?_
  refine sd_sld S.1 S.2.1 hX hbl hbA hG (by omega) (by omega) dL_law_429 ?_
  refine lv_aload_n S.1 S.2.1 dL_law_430 rfl (lv_at hl 0 rfl) ?_
  refine lv_iload_n S.1 S.2.1 dL_law_431 rfl (lv_at hl 3 rfl) ?_
  refine lv_iconst (v := nI 3) S.1 S.2.1 dL_law_432 (by decide +kernel) ?_
  refine sd_iadd S.1 S.2.1 dL_law_433 ?_
  refine sd_sld S.1 S.2.1 hX hbl hbA hG (by omega) (by omega) dL_law_434 ?_
  refine sd_callXi (nn := 3) (as := [.int (xs (i + 1)), .int (xs (i + 2)), .int (xs (i + 3))]) (rest := [.int r1]) (wr := [(qx, .inr (0, [.ref hx, .int (nI k1)])), sd_ar hx d 2048 f1]) S (sd_y_find l D qm hm ho d k g o hk (xs (i + 1)) (xs (i + 2)) (xs (i + 3))) (lw_V q202 q203 q204 q5 q205) (by decide +kernel) rfl ⟨Nat.le_of_ble_eq_true rfl, Nat.le_of_ble_eq_true rfl⟩ ⟨by show cells + 0 + 0 ≤ 600000; omega, by show slots + 0 + 0 ≤ 7302250; omega⟩ hcs hG hA 0 rfl [2, 3, 4] [0, 1] rfl rfl rfl rfl rfl (by decide) 1 rfl rfl rfl hl.1 rfl (Nat.le_of_ble_eq_true rfl) dL_law_435 (fun r2 u H locs em hG => ?_)
  obtain ⟨k2, g1, o1⟩ := u
  have hG : sd_G D A s.heap s [(d, .int)] [(qx, .inr (0, [.ref hx, .int (nI k1)])), sd_ar hx d 2048 f1, (qm, .inr (1, [.ref hm, .ref ho, .int (nI k2)])), sd_ar hm d 2048 g1, sd_ar ho d 2048 o1] H locs := hG
  try dsimp only at er em
  have key : r1 = r2 ∧ k2 = k1 ∧ k1 ≤ 2048 ∧ sd_Ag f1 g1 k1 := by
    obtain ⟨e2, e3⟩ := er
    obtain ⟨m2, m3⟩ := em
    cases e3; cases m3
    exact ⟨sd_Fd.uq hag (sd_toLe sd_frLe).2 e2 m2, rfl, hk, hag⟩
  obtain ⟨hr, hk2, hk1, hag⟩ := key
  refine sd_eq (tgt := 443) S.1 S.2.1 dL_law_438 (by decide) rfl rfl (fun c2 => ?_) (fun c2 => ?_)
  · subst hk2
    refine W.widen (k := cells + 5) (n := slots + 2810) (by omega) (by omega) ?_
    exact K _ _ _ _ H locs ls hk1 hag hG hl
  · exact absurd (by rw [hr]) c2
end
section
set_option maxHeartbeats 4000000 in
set_option maxRecDepth 100000 in
theorem sd_l_loop {p : Program} {l : Launch} {e : Env} {s : State} {m : MethodId} {below : List Frame} {meth : Method} {c : Code} {D : va_G} {A : Nat → Prop} {d : ClassId} {qx hx qm hm ho b L : Nat} {xs : Nat → Int32} (hX : va_X b L xs s s.heap) (hbl : b < s.heap.size) (hbA : ¬ A b) (hL : L ≤ 384) (S : CallFix p m c cL_law 4 s #[Value.ref b] lw_all "SortDeskLaw") (hcs : sd_cst s) (hA : ∀ q : Nat, s.heap.size ≤ q → A q) (hr : meth.sig.returnType = ret) (hlocks : meth.locks = false) (hA' : ∀ q : Nat, A q → s.heap.size ≤ q) :
    ∀ (n t i k : Nat) (f g o : Nat → Int32), i = 6 * t → 65 - t < n → t ≤ 64 → k ≤ 2048 → sd_Ag f g k → ∀ (H : Heap) (locs : List Loc) (ls : Array Slot), sd_G D A s.heap s [(d, .int)] [(qx, .inr (0, [.ref hx, .int (nI k)])), sd_ar hx d 2048 f, (qm, .inr (1, [.ref hm, .ref ho, .int (nI k)])), sd_ar hm d 2048 g, sd_ar ho d 2048 o] H locs → lv_has ls 4 [(0, .ref b), (1, .ref qx), (2, .ref qm), (3, .int (nI i))] → W p l e room_1 s m #[Value.ref b] below meth c H locs (5 + 5 * t) (6149 + 2810 * t) (lw_Z below #[Value.ref b] s) (F0 m 18 ls []) := by
  intro n
  induction n with
  | zero => intro t i k f g o h1 h2; exact absurd h2 (Nat.not_lt_zero _)
  | succ n ih =>
    intro t i k f g o h1 h2 h3 hk hag H locs ls hG hl
    refine lv_iload_n S.1 S.2.1 dL_law_18 rfl (lv_at hl 3 rfl) ?_
    refine lv_aload_n S.1 S.2.1 dL_law_19 rfl (lv_at hl 0 rfl) ?_
    refine sd_slen S.1 S.2.1 hX hbl hbA hG dL_law_20 ?_
    refine lv_bipush (v := nI 6) S.1 S.2.1 dL_law_21 (by decide +kernel) ?_
    refine lv_isub S.1 S.2.1 dL_law_23 ?_
    refine sd_gt (tgt := 449) S.1 S.2.1 dL_law_24 (by decide) (sd_nT (by omega)) (sd_lm6 hL) (fun c1 => ?_) (fun c1 => ?_)
    · refine lv_iconst (v := 1) S.1 S.2.1 dL_law_449 (by decide) ?_
      refine va_forget (fun q hq => hA' _ (hG.2.2.2.2.2 q hq)) ?_
      refine W.widen (k := 600000) (n := 7302250) (by omega) (by omega) ?_
      exact lw_ret S.1 S.2.1 hr hlocks dL_law_450
    · have hi : i + 6 ≤ L := by omega
      have hC : 5 + 5 * t + 5 ≤ 600000 ∧ 6149 + 2810 * t + 2810 ≤ 7302250 := by omega
      have back : ∀ (k : Nat) (f g o : Nat → Int32) (H : Heap) (locs : List Loc) (ls : Array Slot), k ≤ 2048 → sd_Ag f g k → sd_G D A s.heap s [(d, .int)] [(qx, .inr (0, [.ref hx, .int (nI k)])), sd_ar hx d 2048 f, (qm, .inr (1, [.ref hm, .ref ho, .int (nI k)])), sd_ar hm d 2048 g, sd_ar ho d 2048 o] H locs → lv_has ls 4 [(0, .ref b), (1, .ref qx), (2, .ref qm), (3, .int (nI i))] → W p l e room_1 s m #[Value.ref b] below meth c H locs (5 + 5 * t + 5) (6149 + 2810 * t + 2810) (lw_Z below #[Value.ref b] s) (F0 m 443 ls []) := by
        intro k f g o H locs ls hk hag hG hl
        refine lv_iinc (v := nI (i + 6)) (lv' := [(3, .int (nI (i + 6))), (0, .ref b), (1, .ref qx), (2, .ref qm)]) S.1 S.2.1 dL_law_443 hl (k := 3) rfl (sd_i6 _) (by decide) rfl (fun ls hl => ?_)
        refine lv_goto (tgt := 18) S.1 S.2.1 dL_law_446 (by decide) ?_
        refine W.widen (k := 5 + 5 * (t + 1)) (n := 6149 + 2810 * (t + 1)) (by omega) (by omega) ?_
        exact ih (t + 1) (i + 6) k f g o (by omega) (by omega) (by omega) hk hag H locs ls hG (lv_sub hl [1, 2, 3, 0] rfl)
      refine lv_aload_n S.1 S.2.1 dL_law_27 rfl (lv_at hl 0 rfl) ?_
      refine lv_iload_n S.1 S.2.1 dL_law_28 rfl (lv_at hl 3 rfl) ?_
      refine sd_sld S.1 S.2.1 hX hbl hbA hG (by omega) (by omega) dL_law_29 ?_
      refine lv_bipush (v := nI 15) S.1 S.2.1 dL_law_30 (by decide +kernel) ?_
      refine lv_iand S.1 S.2.1 dL_law_32 ?_
      refine sd_top (pk_and (xs i) 4 (by decide +kernel)) ?_
      have hy : (xs i).toBitVec.toNat % 2 ^ 4 < 16 := Nat.mod_lt _ (by decide)
      generalize (xs i).toBitVec.toNat % 2 ^ 4 = y at hy ⊢
      by_cases h11 : 11 ≤ y
      · refine lv_tableOut (tgt := 443) S.1 S.2.1 dL_law_33 (Or.inr (by rw [sd_nT (by omega)]; omega)) (by decide) ?_
        refine W.widen (k := 5 + 5 * t + 5) (n := 6149 + 2810 * t + 2810) (by omega) (by omega) ?_
        exact back k f g o H locs ls hk hag hG hl
      rcases (show y = 0 ∨ y = 1 ∨ y = 2 ∨ y = 3 ∨ y = 4 ∨ y = 5 ∨ y = 6 ∨ y = 7 ∨ y = 8 ∨ y = 9 ∨ y = 10 by omega) with rfl | rfl | rfl | rfl | rfl | rfl | rfl | rfl | rfl | rfl | rfl
      · refine lv_tableIn (off := 59) (tgt := 92) S.1 S.2.1 dL_law_33 (by decide +kernel) (by decide +kernel) (by decide +kernel) (by decide) ?_
        exact sd_l_put hX hbl hbA hL S hcs hA i k f g o hi hk hag hC back H locs ls hG hl
      · refine lv_tableIn (off := 112) (tgt := 145) S.1 S.2.1 dL_law_33 (by decide +kernel) (by decide +kernel) (by decide +kernel) (by decide) ?_
        exact sd_l_fill hX hbl hbA hL S hcs hA i k f g o hi hk hag hC back H locs ls hG hl
      · refine lv_tableIn (off := 155) (tgt := 188) S.1 S.2.1 dL_law_33 (by decide +kernel) (by decide +kernel) (by decide +kernel) (by decide) ?_
        exact sd_l_trim hX hbl hbA hL S hcs hA i k f g o hi hk hag hC back H locs ls hG hl
      · refine lv_tableIn (off := 176) (tgt := 209) S.1 S.2.1 dL_law_33 (by decide +kernel) (by decide +kernel) (by decide +kernel) (by decide) ?_
        exact sd_l_size hX hbl hbA hL S hcs hA i k f g o hi hk hag hC back H locs ls hG hl
      · refine lv_tableIn (off := 189) (tgt := 222) S.1 S.2.1 dL_law_33 (by decide +kernel) (by decide +kernel) (by decide +kernel) (by decide) ?_
        exact sd_l_at hX hbl hbA hL S hcs hA i k f g o hi hk hag hC back H locs ls hG hl
      · refine lv_tableIn (off := 212) (tgt := 245) S.1 S.2.1 dL_law_33 (by decide +kernel) (by decide +kernel) (by decide +kernel) (by decide) ?_
        exact sd_l_quick hX hbl hbA hL S hcs hA i k f g o hi hk hag hC back H locs ls hG hl
      · refine lv_tableIn (off := 243) (tgt := 276) S.1 S.2.1 dL_law_33 (by decide +kernel) (by decide +kernel) (by decide +kernel) (by decide) ?_
        exact sd_l_merge hX hbl hbA hL S hcs hA i k f g o hi hk hag hC back H locs ls hG hl
      · refine lv_tableIn (off := 274) (tgt := 307) S.1 S.2.1 dL_law_33 (by decide +kernel) (by decide +kernel) (by decide +kernel) (by decide) ?_
        exact sd_l_radix hX hbl hbA hL S hcs hA i k f g o hi hk hag hC back H locs ls hG hl
      · refine lv_tableIn (off := 305) (tgt := 338) S.1 S.2.1 dL_law_33 (by decide +kernel) (by decide +kernel) (by decide +kernel) (by decide) ?_
        exact sd_l_unstable hX hbl hbA hL S hcs hA i k f g o hi hk hag hC back H locs ls hG hl
      · refine lv_tableIn (off := 336) (tgt := 369) S.1 S.2.1 dL_law_33 (by decide +kernel) (by decide +kernel) (by decide +kernel) (by decide) ?_
        exact sd_l_reverse hX hbl hbA hL S hcs hA i k f g o hi hk hag hC back H locs ls hG hl
      · refine lv_tableIn (off := 367) (tgt := 400) S.1 S.2.1 dL_law_33 (by decide +kernel) (by decide +kernel) (by decide +kernel) (by decide) ?_
        exact sd_l_find hX hbl hbA hL S hcs hA i k f g o hi hk hag hC back H locs ls hG hl
set_option maxHeartbeats 4000000 in
set_option maxRecDepth 100000 in
/-- from the entry, for every script of at most 384 ints, the law comes to its end with true -/
theorem whole_start {p : Program} {e : Env} {s : State} {m : MethodId} {below : List Frame} {meth : Method} {c : Code} (l : Launch) (hflags : l.flags = flags0) {b L : Nat} {xs : Nat → Int32} (hL : L ≤ 384) (C0 : lw_At p s m meth c b L xs) : W p l e room_1 s m #[Value.ref b] below meth c s.heap [] 0 0 (lw_Z below #[Value.ref b] s) (entryFrame m ([Value.ref b] : List Value).toArray 4) := by
  obtain ⟨hx, hb, hr, hml, hown, hts0, hX, hbl, hlocks, hgv⟩ := C0
  have hts : ∀ w ∈ lw_all, w.before #[Value.ref b] s = true := fun w h => hts0 w (lw_all_tbl h)
  have S : CallFix p m c cL_law 4 s #[Value.ref b] lw_all "SortDeskLaw" := ⟨hx, hb, hml, hown, hts⟩
  have hcs : sd_cst s := va_Nw.of rfl (hts0 _ q104)
  obtain ⟨A, hAe⟩ : ∃ A : Nat → Prop, A = fun q : Nat => s.heap.size ≤ q := ⟨_, rfl⟩
  have hA : ∀ q : Nat, s.heap.size ≤ q → A q := fun q h => by rw [hAe]; exact h
  have hA' : ∀ q : Nat, A q → s.heap.size ≤ q := fun q h => by rw [hAe] at h; exact h
  have hbA : ¬ A b := fun h => absurd (hA' b h) (Nat.not_le.mpr hbl)
  obtain ⟨c0_, iS0, hKn0⟩ := u_known (C := RX0) (T := TX0) (N := 2) (n := 2) hts0 (fun w h => lw_all_tbl (in_X0 w h)) (hts0 _ (lw_all_tbl q12))
  obtain ⟨c1_, iS1, hKn1⟩ := u_known (C := RX1) (T := TX1) (N := 3) (n := 3) hts0 (fun w h => lw_all_tbl (in_X1 w h)) (hts0 _ (lw_all_tbl q142))
  obtain ⟨D, hKc⟩ : ∃ D : va_G, ∀ (k : Nat) (q : vw_C), sdCl[k]? = some q → u_Kn s q.1 q.2.1 q.2.2 (D.1 k) (D.2 k) := by
    refine ⟨(fun k => if k = 0 then c0_ else c1_, fun k => if k = 0 then iS0 else iS1), ?_⟩
    intro k q hq
    match k, hq with
    | 0, hq => cases hq; exact hKn0
    | 1, hq => cases hq; exact hKn1
    | k + 2, hq => simp [sdCl] at hq
  obtain ⟨d, hd⟩ := sd_arrd (hts _ q26)
  have hK : va_K D sdCl [(d, .int)] s := ⟨hKc, fun k q hk => by
    have hk0 : k < 1 := (List.getElem?_eq_some_iff.mp hk).1
    rw [show k = 0 by omega] at hk
    cases hk
    exact hd⟩
  have hG : sd_G D A s.heap s [(d, .int)] [] s.heap [] := ⟨hK, fun k q h => by simp at h, ⟨fun i j p q h => by simp at h, fun k q h => by simp at h⟩, va_S.rf⟩
  have hl := lv_entry ([.ref b]) (n := 4) (Nat.le_of_ble_eq_true rfl)
  rw [lg_entry_eq]
  generalize (lg_sl ([.ref b]) ++ List.replicate (4 - (lg_sl ([.ref b])).length) Slot.unset).toArray = ls at hl ⊢
  have hl : lv_has ls 4 [(0, .ref b)] := hl
  refine va_new (ci := 0) (fs := [.null, .int 0]) (C := RX0) (T := TX0) (N := 2) S.1 S.2.1 hts in_X0 tyX0 tyX0_ok hown (hts _ q11) (hts _ q12) (hts _ q4) hG.1 hG.2.1 hG.2.2.1 hG.2.2.2 hA rfl (fun j hj => by rcases (show j = 0 ∨ j = 1 by omega) with rfl | rfl <;> rfl) (Nat.le_of_ble_eq_true rfl) (Nat.le_of_ble_eq_true rfl) dL_law_0 (fun qx H hP hD hS => ?_)
  have hG : sd_G D A s.heap s [(d, .int)] [(qx, .inr (0, [.null, .int 0]))] H [] := ⟨hG.1, hP, hD, hS⟩
  refine lv_dup S.1 S.2.1 dL_law_3 rfl ?_
  refine sd_callXc (nn := 0) (as := []) (rest := [.ref qx]) (wr := []) S (sd_x_init l D qx d) q15 q4 q13 q14 rfl (by decide +kernel) rfl ⟨Nat.le_of_ble_eq_true rfl, Nat.le_of_ble_eq_true rfl⟩ ⟨Nat.le_of_ble_eq_true rfl, Nat.le_of_ble_eq_true rfl⟩ hcs hG hA 0 rfl [0] [] rfl rfl rfl rfl rfl (by decide) hl.1 rfl (Nat.le_of_ble_eq_true rfl) dL_law_4 (fun hx H locs _ hG => ?_)
  have hG : sd_G D A s.heap s [(d, .int)] [(qx, .inr (0, [.ref hx, .int (nI 0)])), sd_ar hx d 2048 (fun _ => 0)] H locs := hG
  refine lv_astore_n (lv' := [(1, .ref qx), (0, .ref b)]) S.1 S.2.1 dL_law_7 rfl hl (by decide) rfl (fun ls hl => ?_)
  refine va_new (ci := 1) (fs := [.null, .null, .int 0]) (C := RX1) (T := TX1) (N := 3) S.1 S.2.1 hts in_X1 tyX1 tyX1_ok hown (hts _ q141) (hts _ q142) (hts _ q5) hG.1 hG.2.1 hG.2.2.1 hG.2.2.2 hA rfl (fun j hj => by rcases (show j = 0 ∨ j = 1 ∨ j = 2 by omega) with rfl | rfl | rfl <;> rfl) (Nat.le_of_ble_eq_true rfl) (Nat.le_of_ble_eq_true rfl) dL_law_8 (fun qm H hP hD hS => ?_)
  have hG : sd_G D A s.heap s [(d, .int)] [(qx, .inr (0, [.ref hx, .int (nI 0)])), sd_ar hx d 2048 (fun _ => 0), (qm, .inr (1, [.null, .null, .int 0]))] H locs := ⟨hG.1, hP, hD, hS⟩
  refine lv_dup S.1 S.2.1 dL_law_11 rfl ?_
  refine sd_callXc (nn := 0) (as := []) (rest := [.ref qm]) (wr := [(qx, .inr (0, [.ref hx, .int (nI 0)])), sd_ar hx d 2048 (fun _ => 0)]) S (sd_y_init l D qm d) q145 q5 q143 q144 rfl (by decide +kernel) rfl ⟨Nat.le_of_ble_eq_true rfl, Nat.le_of_ble_eq_true rfl⟩ ⟨Nat.le_of_ble_eq_true rfl, Nat.le_of_ble_eq_true rfl⟩ hcs hG hA 0 rfl [2] [0, 1] rfl rfl rfl rfl rfl (by decide) hl.1 rfl (Nat.le_of_ble_eq_true rfl) dL_law_12 (fun u H locs _ hG => ?_)
  obtain ⟨hm, ho⟩ := u
  have hG : sd_G D A s.heap s [(d, .int)] [(qx, .inr (0, [.ref hx, .int (nI 0)])), sd_ar hx d 2048 (fun _ => 0), (qm, .inr (1, [.ref hm, .ref ho, .int (nI 0)])), sd_ar hm d 2048 (fun _ => 0), sd_ar ho d 2048 (fun _ => 0)] H locs := hG
  refine lv_astore_n (lv' := [(2, .ref qm), (1, .ref qx), (0, .ref b)]) S.1 S.2.1 dL_law_15 rfl hl (by decide) rfl (fun ls hl => ?_)
  refine lv_iconst (v := nI 0) S.1 S.2.1 dL_law_16 (by decide +kernel) ?_
  refine lv_istore_n (lv' := [(3, .int (nI 0)), (2, .ref qm), (1, .ref qx), (0, .ref b)]) S.1 S.2.1 dL_law_17 rfl hl (by decide) rfl (fun ls hl => ?_)
  refine W.widen (k := 5 + 5 * 0) (n := 6149 + 2810 * 0) (Nat.le_of_ble_eq_true rfl) (Nat.le_of_ble_eq_true rfl) ?_
  exact sd_l_loop hX hbl hbA hL S hcs hA hr hlocks hA' 66 0 0 0 _ _ _ rfl (by omega) (by omega) (by omega) (fun i _ => rfl) H locs ls hG (lv_sub hl [3, 2, 1, 0] rfl)
end
section
-- ===== YOUR PART ENDS =====
set_option maxHeartbeats 4000000 in
theorem lw_walk (l : Launch) (hflags : l.flags = flags0) (b : Addr) (xs : List Int32) : MetFree l x (headSpec (Jvm.Cond.code x code maxLocals ret :: tables_1) room_1) (lw_P b xs) (fun _ _ _ _ _ => True) lw_Q := by
  refine MetFree.of_bodyS (code := code) (maxLocals := maxLocals) (ret := ret) (by decide) ?_ ?_
  · intro args s m h hn
    obtain ⟨meth, c, h1, h2, h3, h4, h5, h6, -, -⟩ := Cond.code_spec hn (atoms_spec (ws := Jvm.Cond.code x code maxLocals ret :: tables_1) h _ List.mem_cons_self)
    exact ⟨meth, c, h1, h2, h3, h4, h5, h6⟩
  · intro p e s m args below meth c s₁ B hml0 hP _
    obtain ⟨rfl, hx, hbd, hgv⟩ := hP
    obtain ⟨scr, harrAt, hlist, hof, hsmall⟩ := hx
    obtain ⟨hcb, hkn, -, -⟩ := State.arrayAt?_spec harrAt
    have hown : s.vm.findClass R_law = some m.cls := findClass_of_methodNamed B.named
    have hts0 : ∀ c ∈ (Jvm.Cond.code x code maxLocals ret :: tables_1), c.before #[Value.ref b] s = true := atoms_spec (ws := Jvm.Cond.code x code maxLocals ret :: tables_1) B.pre
    have hts : ∀ w ∈ lw_tbl, w.before #[Value.ref b] s = true := k2_hts_sels lw_privs (fun w hw => hts0 w (List.mem_cons_of_mem _ hw)) lw_privs_ok
    have hml : c.maxLocals = 4 := B.maxLocals_eq (hts0 _ List.mem_cons_self)
    have X₀ : Stand p l e room_1 s m #[Value.ref b] below meth c s₁ [] 0 0 := Stand.of_body B
    have hh0 : s₁.heap = s.heap := by rw [B.state]; rfl
    have hsz : scr.slots.size = xs.length := by rw [← Array.length_toList, hlist, List.length_map]
    have hval : ∀ j : Nat, j < xs.length → scr.slots[j]? = some (.int (xs.getD j 0)) := fun j hj => by
      rw [← Array.getElem?_toList, hlist]
      simp [hj]
    have hbl : b < s.heap.size := (Array.getElem?_eq_some_iff.mp hcb).1
    have hX : va_X b xs.length (fun j => xs.getD j 0) s s.heap := ⟨scr, hcb, hof, hkn, hsz, hval⟩
    have K : W p l e room_1 s m #[Value.ref b] below meth c s₁.heap [] 0 0 (lw_Z below #[Value.ref b] s) (entryFrame m ([Value.ref b] : List Value).toArray 4) := by
      rw [hh0]
      exact whole_start l hflags hbd ⟨B.exec, B.bytes, B.returns, hml, hown, hts, hX, hbl, B.notSynchronized, hgv⟩
    obtain ⟨t, a1, o, b1, b2, b3⟩ := K s₁ rfl X₀
    exact ⟨t, o, a1, b1, b2, b3⟩
theorem lw_pre_spec {args : Array Value} {s : State} (h : (Jvm.Cond.and given_1 narrow_1).before args s = true) (hr : rest_1_c.before args s = true) : ∃ (b : Addr) (xs : List Int32), lw_P b xs args s := by
  have hs := flat_of_before _ h
  have hq := flat_of_before _ hr
  have hc : (Cond.count 1).before args s = true := hs _ (by decide +kernel)
  have harr : (Cond.arrayOf (.arg 0) .int).before args s = true := hs _ (by decide +kernel)
  have hle : (Cond.le (.length (.arg 0)) (.int 384)).before args s = true := hs _ (by decide +kernel)
  have hlen : (Cond.isInt (.length (.arg 0))).before args s = true := hq _ (by decide +kernel)
  have hall : (Cond.all (.arg 0) (.isInt (.elem (.arg 0) (.index 0)))).before args s = true := hq _ (by decide +kernel)
  obtain ⟨b, xs, hb, hx⟩ := State.ints_of_pre rfl harr hlen hall
  have hsm : xs.length < 2 ^ 31 := hx.choose_spec.2.2.2
  have hev : (Term.length (.arg 0)).eval args s none [] s = some (.int xs.length.toInt32) := hx.length_eval hb
  have hv := Cond.le_ints hev (show (Term.int 384).eval args s none [] s = some (.int 384) from rfl)
  have hd : xs.length.toInt32 ≤ 384 := by
    simpa [Cond.before, Cond.holds, hv] using hle
  have hN : xs.length ≤ 384 := (Int32.ofNat_le_ofNat hsm (by decide)).mp (show Int32.ofNat xs.length ≤ Int32.ofNat 384 from hd)
  exact ⟨b, xs, Cond.one_arg hc (show args[0]? = some (.ref b) from hb), hx, hN, h⟩
theorem lw_comes (l : Launch) (hflags : l.flags = flags0) : Comes l x (Jvm.Cond.code x code maxLocals ret :: tables_1) room_1 (fun tb e args s => Calls_1 tb e args s ∧ rest_1 tb e args s ∧ Pre_1 tb e args s)
    (fun _ _ args s o t => lw_Q args s o t) := by
  intro p e ha hc hk s m args below hf hfit hheap happ hpre
  obtain ⟨b, xs, hP⟩ := lw_pre_spec hpre.2.2 hpre.2.1
  obtain ⟨k, o, h1, h2, h3, hQ⟩ := lw_walk l hflags b xs p e ha hc hk s m args below hf ((Spec.applies_iff_loose hf).mp happ).1 hP trivial
  exact ⟨k, o, h1, h2, h3, hQ⟩
theorem lw_frame {s t : State} {o : Outcome} {args : Array Value} (h : Framed s o t [] 600000 7302250) :
    Framed s o t (fieldLocs frame_1_writes args s ++ arrayLocs frame_1_arrays args s ++ staticLocs frame_1_statics s) 600000 7302250 := h
theorem lw_limb (L : Cond) (hL : ∀ (args : Array Value) (s t : State), L.after args s (.returned (some (.int 1))) t = true) :
    ArmFor flags0 classFile x code maxLocals ret World_1 tables_1 room_1 Calls_1 rest_1 Pre_1
      (fun tb e a s o t => postC L tb e a s o t ∧ Framed s o t (fieldLocs frame_1_writes a s ++ arrayLocs frame_1_arrays a s ++ staticLocs frame_1_statics s) 600000 7302250) := by
  intro l hflags _ _ p e ha hc hk s m args below hf hfit hheap happ hpre
  obtain ⟨k, o, h1, h2, h3, rfl, hF⟩ := lw_comes l hflags p e ha hc hk s m args below hf hfit hheap happ hpre
  exact ⟨k, _, h1, h2, h3, hL args s _, lw_frame hF⟩
theorem i_vc : Claimed_1_1 ∧ Claimed_1_2 := ⟨lw_limb limb_1_1 (fun args s t => by simp [limb_1_1, Cond.after, Cond.holds, Cond.value]), lw_limb limb_1_2 (fun args s t => Cond.after_iff.mpr (by
  first | (rw [show limb_1_2 = Cond.eq .result (.int 1) from rfl, Cond.eq_ints (x := 1) (y := 1) rfl rfl]; simp; done) | (simp [limb_1_2, Cond.value, Term.eval]; done)))⟩
end
