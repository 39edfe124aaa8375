section
-- ===== PART A: goes FIRST, ahead of the names: the tables' words, and 'selects' of the private methods out of them =====
/-- a private method of a class that the tables say can be made, by its rows of tables_1 -/
def lw_okq (q : MethodName × Nat) : Prop := (q.1.cls ≠ "java/lang/invoke/MethodHandle" ∧ q.1.cls ≠ "java/lang/invoke/VarHandle") ∧ Cond.instantiable q.1.cls q.2 ∈ tables_1 ∧ Cond.privateMethod q.1 ∈ tables_1 ∧ Cond.instanceMethod q.1 ∈ tables_1
set_option maxRecDepth 100000
theorem lw_p0 : lw_okq (⟨"ShortSortDesk", "from", "(I)I"⟩, 1) := ⟨⟨by decide +kernel, by decide +kernel⟩, List.mem_of_getElem? (i := 9) rfl, List.mem_of_getElem? (i := 35) rfl, List.mem_of_getElem? (i := 36) rfl⟩
theorem lw_p1 : lw_okq (⟨"ShortSortDesk", "to", "(II)I"⟩, 1) := ⟨⟨by decide +kernel, by decide +kernel⟩, List.mem_of_getElem? (i := 9) rfl, List.mem_of_getElem? (i := 39) rfl, List.mem_of_getElem? (i := 40) rfl⟩
theorem lw_p2 : lw_okq (⟨"ShortSortDeskModel", "ascending", "(II)V"⟩, 1) := ⟨⟨by decide +kernel, by decide +kernel⟩, List.mem_of_getElem? (i := 116) rfl, List.mem_of_getElem? (i := 154) rfl, List.mem_of_getElem? (i := 155) rfl⟩
def lw_privs_1 : List (MethodName × Nat) := [(⟨"ShortSortDesk", "from", "(I)I"⟩, 1), (⟨"ShortSortDesk", "to", "(II)I"⟩, 1), (⟨"ShortSortDeskModel", "ascending", "(II)V"⟩, 1)]
theorem lw_r1 : ∀ q ∈ lw_privs_1, lw_okq q := List.forall_mem_cons.mpr ⟨lw_p0, List.forall_mem_cons.mpr ⟨lw_p1, List.forall_mem_cons.mpr ⟨lw_p2, fun _ h => absurd h List.not_mem_nil⟩⟩⟩
def lw_privs : List (MethodName × Nat) := lw_privs_1
def lw_tbl : List Cond := k2_sels lw_privs ++ tables_1
theorem lw_privs_ok : ∀ q ∈ lw_privs, lw_okq q := lw_r1
-- ===== ONE list of words for every method: the tables' words that hold all through a run =====
def lw_all : List Cond := lw_tbl.filter goodWord
/-- a word of the tables by its place: claim/WORDS.tsv -/
theorem lw_w {w : Cond} (i : Nat) (h : lw_tbl[i]? = some w) (g : goodWord w = true) : w ∈ lw_all := List.mem_filter.mpr ⟨List.mem_of_getElem? h, g⟩
theorem lw_all_tbl {w : Cond} (h : w ∈ lw_all) : w ∈ lw_tbl := (List.mem_filter.mp h).1
theorem lw_self : GoodIn lw_all lw_all := fun w h => ⟨h, good_of_word (List.mem_filter.mp h).2⟩
/-- a class's field words, by their places -/
theorem lw_in (ws : List Cond) (ps : List Nat) (hp : ws = ps.filterMap (fun i => lw_tbl[i]?)) (hg : ws.all goodWord = true) : ∀ w ∈ ws, w ∈ lw_all := by
  intro w h
  have h1 := List.all_eq_true.mp hg w h
  rw [hp] at h
  obtain ⟨i, -, hi⟩ := List.mem_filterMap.mp h
  exact lw_w i hi h1
/-- the words of a contract for the method y with code b, L locals, answer r -/
abbrev ws_ (y : MethodName) (b : ByteArray) (L : Nat) (r : Option FieldType) : List Cond := Cond.code y b L r :: lw_all
theorem lw_meth {y : MethodName} {b : ByteArray} {L : Nat} {r : Option FieldType} (h : Cond.code y b L r ∈ lw_all) : GoodIn lw_all (ws_ y b L r) := by
  intro w hw
  rcases List.mem_cons.mp hw with e | e
  · rw [e]
    exact lw_self _ h
  · exact lw_self _ e
theorem lw_app {a c : List Cond} (ha : ∀ w ∈ a, w ∈ lw_all) (hc : GoodIn lw_all c) : GoodIn lw_all (a ++ c) := by
  intro w hw
  rcases List.mem_append.mp hw with e | e
  · exact lw_self w (ha w e)
  · exact hc w e
/-- what a call through an object asks: cwV n hts (lw_V ..) -/
theorem lw_V {own : String} {idx : Nat} {C : String} {y : MethodName} {b : ByteArray} {L : Nat} {r : Option FieldType} (h1 : Cond.methodLink own idx y ∈ lw_all) (h2 : Cond.instanceMethod y ∈ lw_all) (h3 : Cond.selects C y y ∈ lw_all) (h4 : Cond.initialized C ∈ lw_all) (h5 : Cond.code y b L r ∈ lw_all) : GoodIn lw_all (wsV own idx C y (ws_ y b L r)) := by
  refine lw_app ?_ (lw_meth h5)
  intro w hw
  simp only [List.mem_cons, List.not_mem_nil, or_false] at hw
  rcases hw with e | e | e | e
  · rw [e]; exact h1
  · rw [e]; exact h2
  · rw [e]; exact h3
  · rw [e]; exact h4
/-- what a static call asks: va_cwS n hts (lw_S ..) -/
theorem lw_S {own : String} {idx : Nat} {y : MethodName} {b : ByteArray} {L : Nat} {r : Option FieldType} (h1 : Cond.methodLink own idx y ∈ lw_all) (h2 : Cond.static y ∈ lw_all) (h3 : Cond.initialized y.cls ∈ lw_all) (h4 : Cond.code y b L r ∈ lw_all) : GoodIn lw_all (va_wsS own idx y (ws_ y b L r)) := by
  refine lw_app ?_ (lw_meth h4)
  intro w hw
  simp only [List.mem_cons, List.not_mem_nil, or_false] at hw
  rcases hw with e | e | e
  · rw [e]; exact h1
  · rw [e]; exact h2
  · rw [e]; exact h3
/-- the words of a contract for a method WITH HANDLERS (hh: its table) -/
abbrev wsW_ (y : MethodName) (b : ByteArray) (L : Nat) (r : Option FieldType) (hh : List (Nat × Nat × Nat × Nat)) : List Cond := Cond.codeWith y b L r hh :: lw_all
theorem lw_methW {y : MethodName} {b : ByteArray} {L : Nat} {r : Option FieldType} {hh : List (Nat × Nat × Nat × Nat)} (h : Cond.codeWith y b L r hh ∈ lw_all) : GoodIn lw_all (wsW_ y b L r hh) := by
  intro w hw
  rcases List.mem_cons.mp hw with e | e
  · rw [e]
    exact lw_self _ h
  · exact lw_self _ e
/-- any list of words by their places (lw_in), good -/
theorem lw_good {ws : List Cond} (h : ∀ w ∈ ws, w ∈ lw_all) : GoodIn lw_all ws := fun w hw => lw_self w (h w hw)
/-- what a call of a method with handlers asks: vx_cwVW n hts (lw_VW ..), vx_cwSW n hts (lw_SW ..) -/
theorem lw_VW {own : String} {idx : Nat} {C : String} {y : MethodName} {b : ByteArray} {L : Nat} {r : Option FieldType} {hh : List (Nat × Nat × Nat × Nat)} (h1 : Cond.methodLink own idx y ∈ lw_all) (h2 : Cond.instanceMethod y ∈ lw_all) (h3 : Cond.selects C y y ∈ lw_all) (h4 : Cond.initialized C ∈ lw_all) (h5 : Cond.codeWith y b L r hh ∈ lw_all) : GoodIn lw_all (wsV own idx C y (wsW_ y b L r hh)) := by
  refine lw_app ?_ (lw_methW h5)
  intro w hw
  simp only [List.mem_cons, List.not_mem_nil, or_false] at hw
  rcases hw with e | e | e | e
  · rw [e]; exact h1
  · rw [e]; exact h2
  · rw [e]; exact h3
  · rw [e]; exact h4
theorem lw_SW {own : String} {idx : Nat} {y : MethodName} {b : ByteArray} {L : Nat} {r : Option FieldType} {hh : List (Nat × Nat × Nat × Nat)} (h1 : Cond.methodLink own idx y ∈ lw_all) (h2 : Cond.static y ∈ lw_all) (h3 : Cond.initialized y.cls ∈ lw_all) (h4 : Cond.codeWith y b L r hh ∈ lw_all) : GoodIn lw_all (va_wsS own idx y (wsW_ y b L r hh)) := by
  refine lw_app ?_ (lw_methW h4)
  intro w hw
  simp only [List.mem_cons, List.not_mem_nil, or_false] at hw
  rcases hw with e | e | e
  · rw [e]; exact h1
  · rw [e]; exact h2
  · rw [e]; exact h3
/-- a word by its place in its run of the tables -/
theorem lw_at {r : List Cond} (hr : ∀ w ∈ r, w ∈ lw_tbl) {w : Cond} (i : Nat) (h : r[i]? = some w) : w ∈ lw_tbl := hr w (List.mem_of_getElem? h)
theorem lw_g {w : Cond} (h : w ∈ lw_tbl) (g : goodWord w = true) : w ∈ lw_all := List.mem_filter.mpr ⟨h, g⟩
theorem lw_ms : ∀ w ∈ k2_sels lw_privs, w ∈ lw_tbl := fun w h => show w ∈ k2_sels lw_privs ++ tables_1 from List.mem_append_left _ h
theorem lw_m0 : ∀ w ∈ tables_1, w ∈ lw_tbl := fun w h => show w ∈ k2_sels lw_privs ++ tables_1 from List.mem_append_right (k2_sels lw_privs) h
theorem qs0 : (Cond.selects "ShortSortDesk" ⟨"ShortSortDesk", "from", "(I)I"⟩ ⟨"ShortSortDesk", "from", "(I)I"⟩) ∈ lw_all := lw_g (lw_at lw_ms 0 rfl) rfl
theorem qs1 : (Cond.selects "ShortSortDesk" ⟨"ShortSortDesk", "to", "(II)I"⟩ ⟨"ShortSortDesk", "to", "(II)I"⟩) ∈ lw_all := lw_g (lw_at lw_ms 1 rfl) rfl
theorem qs2 : (Cond.selects "ShortSortDeskModel" ⟨"ShortSortDeskModel", "ascending", "(II)V"⟩ ⟨"ShortSortDeskModel", "ascending", "(II)V"⟩) ∈ lw_all := lw_g (lw_at lw_ms 2 rfl) rfl
end
section
/-! DECODE ROWS BY BYTES: one lemma an opcode; a method's code is cut into short pieces once, and a row reads its own piece alone. -/
set_option maxRecDepth 100000
/-- the code has just these bytes from pc on -/
def DkAt (code : ByteArray) (pc : Nat) (bs : List UInt8) : Prop := ∀ (j : Nat) (b : UInt8), bs[j]? = some b → code.data.toList[pc + j]? = some b
/-- the piece W has the bytes bs from its place j on -/
def dkIn (W : List UInt8) (j : Nat) (bs : List UInt8) : Bool := decide ((W.drop j).take bs.length = bs)
theorem dk_seg {l W T : List UInt8} {o o2 : Nat} (h : l.drop o = W ++ T) (n : Nat) (hn : W.length = n) (ho : o + n = o2) : l.drop o2 = T := by
  subst ho
  rw [← List.drop_drop, h, List.drop_left' hn]
theorem dk_at {code : ByteArray} {W T bs : List UInt8} {o pc : Nat} (h : code.data.toList.drop o = W ++ T) (j : Nat) (hp : o + j = pc) (hw : dkIn W j bs = true) : DkAt code pc bs := by
  subst hp
  intro i b e
  have h1 := of_decide_eq_true hw
  have h2 : i < bs.length := (List.getElem?_eq_some_iff.mp e).1
  have h3 : W[j + i]? = some b := by
    rw [← h1, List.getElem?_take, if_pos h2, List.getElem?_drop] at e
    exact e
  have h4 : j + i < W.length := (List.getElem?_eq_some_iff.mp h3).1
  have h5 : (code.data.toList.drop o)[j + i]? = some b := by
    rw [h, List.getElem?_append_left h4]
    exact h3
  rw [List.getElem?_drop, ← Nat.add_assoc] at h5
  exact h5
theorem dk_u1 {A : ByteArray} {p : Nat} {b : UInt8} (h : A.data.toList[p]? = some b) : (Reader.u1 : Reader DecodeError Nat) A p = .ok (b.toNat, p + 1) := by
  obtain ⟨h1, h2⟩ := List.getElem?_eq_some_iff.mp h
  have h3 : p < A.size := by simpa using h1
  have h4 : A[p]'h3 = b := h2
  have e : (Reader.u1 : Reader DecodeError Nat) A p = (if h : p < A.size then .ok (A[p].toNat, p + 1) else .error (HasTruncated.truncated p)) := by
    show (do if h : p < A.size then do set (p + 1); Pure.pure A[p].toNat else MonadExcept.throw (HasTruncated.truncated p) : Reader DecodeError Nat) A p = _
    by_cases hi : p < A.size
    · rw [dif_pos hi, dif_pos hi]; rfl
    · rw [dif_neg hi, dif_neg hi]; rfl
  rw [e, dif_pos h3, h4]
theorem dk_bind {α β : Type} {r : Reader DecodeError α} {f : α → Reader DecodeError β} {A : ByteArray} {p s : Nat} {a : α} (h : r A p = .ok (a, s)) : (r >>= f) A p = f a A s := by
  show (do let (a, s) ← r A p; f a A s : Except DecodeError (β × Nat)) = _
  rw [h]
  rfl
theorem dk_map {α β : Type} {r : Reader DecodeError α} {g : α → β} {A : ByteArray} {p s : Nat} {a : α} (h : r A p = .ok (a, s)) : (g <$> r) A p = .ok (g a, s) := by
  show (do let (a, s) ← r A p; .ok (g a, s) : Except DecodeError (β × Nat)) = _
  rw [h]
  rfl
theorem dk_u2 {A : ByteArray} {p : Nat} {a b : UInt8} (h : A.data.toList[p]? = some a) (h2 : A.data.toList[p + 1]? = some b) : (Reader.u2 : Reader DecodeError Nat) A p = .ok (a.toNat * 256 + b.toNat, p + 2) := by
  show (Reader.u1 >>= fun hi => Reader.u1 >>= fun lo => Pure.pure (hi * 256 + lo) : Reader DecodeError Nat) A p = _
  rw [dk_bind (dk_u1 h), dk_bind (dk_u1 h2)]
  rfl
theorem dk_of {code : ByteArray} {pc n : Nat} {i : Instr} (h : Decoder.instr pc code pc = .ok (i, pc + n)) : decode code pc = .ok (i, n) := by
  have e : decode code pc = (match Decoder.instr pc code pc with | .error x => .error x | .ok (j, s) => .ok (j, s - pc)) := by
    show (do let (j, s) ← Decoder.instr pc code pc; Pure.pure (j, s - pc) : Except DecodeError (Instr × Nat)) = _
    cases Decoder.instr pc code pc <;> rfl
  rw [e, h]
  show Except.ok (i, pc + n - pc) = _
  rw [Nat.add_sub_cancel_left]
theorem dk_1 {code : ByteArray} {pc : Nat} (h : DkAt code pc [1]) : decode code pc = .ok (.aconst_null, 1) := dk_of ((dk_bind (dk_u1 (h 0 _ rfl))).trans rfl)
theorem dk_2 {code : ByteArray} {pc : Nat} (h : DkAt code pc [2]) : decode code pc = .ok (.iconst (-1), 1) := dk_of ((dk_bind (dk_u1 (h 0 _ rfl))).trans rfl)
theorem dk_3 {code : ByteArray} {pc : Nat} (h : DkAt code pc [3]) : decode code pc = .ok (.iconst 0, 1) := dk_of ((dk_bind (dk_u1 (h 0 _ rfl))).trans rfl)
theorem dk_4 {code : ByteArray} {pc : Nat} (h : DkAt code pc [4]) : decode code pc = .ok (.iconst 1, 1) := dk_of ((dk_bind (dk_u1 (h 0 _ rfl))).trans rfl)
theorem dk_5 {code : ByteArray} {pc : Nat} (h : DkAt code pc [5]) : decode code pc = .ok (.iconst 2, 1) := dk_of ((dk_bind (dk_u1 (h 0 _ rfl))).trans rfl)
theorem dk_6 {code : ByteArray} {pc : Nat} (h : DkAt code pc [6]) : decode code pc = .ok (.iconst 3, 1) := dk_of ((dk_bind (dk_u1 (h 0 _ rfl))).trans rfl)
theorem dk_16 {code : ByteArray} {pc : Nat} (a : UInt8) (h : DkAt code pc [16, a]) : decode code pc = .ok (.bipush (Reader.signed 8 a.toNat), 2) := dk_of ((dk_bind (dk_u1 (h 0 _ rfl))).trans ((dk_bind (dk_map (dk_u1 (h 1 _ rfl)))).trans rfl))
theorem dk_17 {code : ByteArray} {pc : Nat} (a b : UInt8) (h : DkAt code pc [17, a, b]) : decode code pc = .ok (.sipush (Reader.signed 16 (a.toNat * 256 + b.toNat)), 3) := dk_of ((dk_bind (dk_u1 (h 0 _ rfl))).trans ((dk_bind (dk_map (dk_u2 (h 1 _ rfl) (h 2 _ rfl)))).trans rfl))
theorem dk_18 {code : ByteArray} {pc : Nat} (a : UInt8) (h : DkAt code pc [18, a]) : decode code pc = .ok (.ldc a.toNat, 2) := dk_of ((dk_bind (dk_u1 (h 0 _ rfl))).trans ((dk_bind (dk_u1 (h 1 _ rfl))).trans rfl))
theorem dk_21 {code : ByteArray} {pc : Nat} (a : UInt8) (h : DkAt code pc [21, a]) : decode code pc = .ok (.iload a.toNat, 2) := dk_of ((dk_bind (dk_u1 (h 0 _ rfl))).trans ((dk_bind (dk_u1 (h 1 _ rfl))).trans rfl))
theorem dk_25 {code : ByteArray} {pc : Nat} (a : UInt8) (h : DkAt code pc [25, a]) : decode code pc = .ok (.aload a.toNat, 2) := dk_of ((dk_bind (dk_u1 (h 0 _ rfl))).trans ((dk_bind (dk_u1 (h 1 _ rfl))).trans rfl))
theorem dk_26 {code : ByteArray} {pc : Nat} (h : DkAt code pc [26]) : decode code pc = .ok (.iload_n 0, 1) := dk_of ((dk_bind (dk_u1 (h 0 _ rfl))).trans rfl)
theorem dk_27 {code : ByteArray} {pc : Nat} (h : DkAt code pc [27]) : decode code pc = .ok (.iload_n 1, 1) := dk_of ((dk_bind (dk_u1 (h 0 _ rfl))).trans rfl)
theorem dk_28 {code : ByteArray} {pc : Nat} (h : DkAt code pc [28]) : decode code pc = .ok (.iload_n 2, 1) := dk_of ((dk_bind (dk_u1 (h 0 _ rfl))).trans rfl)
theorem dk_29 {code : ByteArray} {pc : Nat} (h : DkAt code pc [29]) : decode code pc = .ok (.iload_n 3, 1) := dk_of ((dk_bind (dk_u1 (h 0 _ rfl))).trans rfl)
theorem dk_42 {code : ByteArray} {pc : Nat} (h : DkAt code pc [42]) : decode code pc = .ok (.aload_n 0, 1) := dk_of ((dk_bind (dk_u1 (h 0 _ rfl))).trans rfl)
theorem dk_43 {code : ByteArray} {pc : Nat} (h : DkAt code pc [43]) : decode code pc = .ok (.aload_n 1, 1) := dk_of ((dk_bind (dk_u1 (h 0 _ rfl))).trans rfl)
theorem dk_44 {code : ByteArray} {pc : Nat} (h : DkAt code pc [44]) : decode code pc = .ok (.aload_n 2, 1) := dk_of ((dk_bind (dk_u1 (h 0 _ rfl))).trans rfl)
theorem dk_45 {code : ByteArray} {pc : Nat} (h : DkAt code pc [45]) : decode code pc = .ok (.aload_n 3, 1) := dk_of ((dk_bind (dk_u1 (h 0 _ rfl))).trans rfl)
theorem dk_46 {code : ByteArray} {pc : Nat} (h : DkAt code pc [46]) : decode code pc = .ok (.iaload, 1) := dk_of ((dk_bind (dk_u1 (h 0 _ rfl))).trans rfl)
theorem dk_53 {code : ByteArray} {pc : Nat} (h : DkAt code pc [53]) : decode code pc = .ok (.saload, 1) := dk_of ((dk_bind (dk_u1 (h 0 _ rfl))).trans rfl)
theorem dk_54 {code : ByteArray} {pc : Nat} (a : UInt8) (h : DkAt code pc [54, a]) : decode code pc = .ok (.istore a.toNat, 2) := dk_of ((dk_bind (dk_u1 (h 0 _ rfl))).trans ((dk_bind (dk_u1 (h 1 _ rfl))).trans rfl))
theorem dk_58 {code : ByteArray} {pc : Nat} (a : UInt8) (h : DkAt code pc [58, a]) : decode code pc = .ok (.astore a.toNat, 2) := dk_of ((dk_bind (dk_u1 (h 0 _ rfl))).trans ((dk_bind (dk_u1 (h 1 _ rfl))).trans rfl))
theorem dk_60 {code : ByteArray} {pc : Nat} (h : DkAt code pc [60]) : decode code pc = .ok (.istore_n 1, 1) := dk_of ((dk_bind (dk_u1 (h 0 _ rfl))).trans rfl)
theorem dk_61 {code : ByteArray} {pc : Nat} (h : DkAt code pc [61]) : decode code pc = .ok (.istore_n 2, 1) := dk_of ((dk_bind (dk_u1 (h 0 _ rfl))).trans rfl)
theorem dk_62 {code : ByteArray} {pc : Nat} (h : DkAt code pc [62]) : decode code pc = .ok (.istore_n 3, 1) := dk_of ((dk_bind (dk_u1 (h 0 _ rfl))).trans rfl)
theorem dk_76 {code : ByteArray} {pc : Nat} (h : DkAt code pc [76]) : decode code pc = .ok (.astore_n 1, 1) := dk_of ((dk_bind (dk_u1 (h 0 _ rfl))).trans rfl)
theorem dk_77 {code : ByteArray} {pc : Nat} (h : DkAt code pc [77]) : decode code pc = .ok (.astore_n 2, 1) := dk_of ((dk_bind (dk_u1 (h 0 _ rfl))).trans rfl)
theorem dk_78 {code : ByteArray} {pc : Nat} (h : DkAt code pc [78]) : decode code pc = .ok (.astore_n 3, 1) := dk_of ((dk_bind (dk_u1 (h 0 _ rfl))).trans rfl)
theorem dk_79 {code : ByteArray} {pc : Nat} (h : DkAt code pc [79]) : decode code pc = .ok (.iastore, 1) := dk_of ((dk_bind (dk_u1 (h 0 _ rfl))).trans rfl)
theorem dk_86 {code : ByteArray} {pc : Nat} (h : DkAt code pc [86]) : decode code pc = .ok (.sastore, 1) := dk_of ((dk_bind (dk_u1 (h 0 _ rfl))).trans rfl)
theorem dk_87 {code : ByteArray} {pc : Nat} (h : DkAt code pc [87]) : decode code pc = .ok (.pop, 1) := dk_of ((dk_bind (dk_u1 (h 0 _ rfl))).trans rfl)
theorem dk_89 {code : ByteArray} {pc : Nat} (h : DkAt code pc [89]) : decode code pc = .ok (.dup, 1) := dk_of ((dk_bind (dk_u1 (h 0 _ rfl))).trans rfl)
theorem dk_91 {code : ByteArray} {pc : Nat} (h : DkAt code pc [91]) : decode code pc = .ok (.dup_x2, 1) := dk_of ((dk_bind (dk_u1 (h 0 _ rfl))).trans rfl)
theorem dk_92 {code : ByteArray} {pc : Nat} (h : DkAt code pc [92]) : decode code pc = .ok (.dup2, 1) := dk_of ((dk_bind (dk_u1 (h 0 _ rfl))).trans rfl)
theorem dk_96 {code : ByteArray} {pc : Nat} (h : DkAt code pc [96]) : decode code pc = .ok (.iadd, 1) := dk_of ((dk_bind (dk_u1 (h 0 _ rfl))).trans rfl)
theorem dk_100 {code : ByteArray} {pc : Nat} (h : DkAt code pc [100]) : decode code pc = .ok (.isub, 1) := dk_of ((dk_bind (dk_u1 (h 0 _ rfl))).trans rfl)
theorem dk_104 {code : ByteArray} {pc : Nat} (h : DkAt code pc [104]) : decode code pc = .ok (.imul, 1) := dk_of ((dk_bind (dk_u1 (h 0 _ rfl))).trans rfl)
theorem dk_108 {code : ByteArray} {pc : Nat} (h : DkAt code pc [108]) : decode code pc = .ok (.idiv, 1) := dk_of ((dk_bind (dk_u1 (h 0 _ rfl))).trans rfl)
theorem dk_112 {code : ByteArray} {pc : Nat} (h : DkAt code pc [112]) : decode code pc = .ok (.irem, 1) := dk_of ((dk_bind (dk_u1 (h 0 _ rfl))).trans rfl)
theorem dk_116 {code : ByteArray} {pc : Nat} (h : DkAt code pc [116]) : decode code pc = .ok (.ineg, 1) := dk_of ((dk_bind (dk_u1 (h 0 _ rfl))).trans rfl)
theorem dk_124 {code : ByteArray} {pc : Nat} (h : DkAt code pc [124]) : decode code pc = .ok (.iushr, 1) := dk_of ((dk_bind (dk_u1 (h 0 _ rfl))).trans rfl)
theorem dk_126 {code : ByteArray} {pc : Nat} (h : DkAt code pc [126]) : decode code pc = .ok (.iand, 1) := dk_of ((dk_bind (dk_u1 (h 0 _ rfl))).trans rfl)
theorem dk_130 {code : ByteArray} {pc : Nat} (h : DkAt code pc [130]) : decode code pc = .ok (.ixor, 1) := dk_of ((dk_bind (dk_u1 (h 0 _ rfl))).trans rfl)
theorem dk_132 {code : ByteArray} {pc : Nat} (a b : UInt8) (h : DkAt code pc [132, a, b]) : decode code pc = .ok (.iinc a.toNat (Reader.signed 8 b.toNat), 3) := dk_of ((dk_bind (dk_u1 (h 0 _ rfl))).trans ((dk_bind (dk_u1 (h 1 _ rfl))).trans ((dk_bind (dk_map (dk_u1 (h 2 _ rfl)))).trans rfl)))
theorem dk_147 {code : ByteArray} {pc : Nat} (h : DkAt code pc [147]) : decode code pc = .ok (.i2s, 1) := dk_of ((dk_bind (dk_u1 (h 0 _ rfl))).trans rfl)
theorem dk_153 {code : ByteArray} {pc : Nat} (a b : UInt8) (h : DkAt code pc [153, a, b]) : decode code pc = .ok (.ifCond .eq (Reader.signed 16 (a.toNat * 256 + b.toNat)), 3) := dk_of ((dk_bind (dk_u1 (h 0 _ rfl))).trans ((dk_bind (dk_map (dk_u2 (h 1 _ rfl) (h 2 _ rfl)))).trans rfl))
theorem dk_154 {code : ByteArray} {pc : Nat} (a b : UInt8) (h : DkAt code pc [154, a, b]) : decode code pc = .ok (.ifCond .ne (Reader.signed 16 (a.toNat * 256 + b.toNat)), 3) := dk_of ((dk_bind (dk_u1 (h 0 _ rfl))).trans ((dk_bind (dk_map (dk_u2 (h 1 _ rfl) (h 2 _ rfl)))).trans rfl))
theorem dk_155 {code : ByteArray} {pc : Nat} (a b : UInt8) (h : DkAt code pc [155, a, b]) : decode code pc = .ok (.ifCond .lt (Reader.signed 16 (a.toNat * 256 + b.toNat)), 3) := dk_of ((dk_bind (dk_u1 (h 0 _ rfl))).trans ((dk_bind (dk_map (dk_u2 (h 1 _ rfl) (h 2 _ rfl)))).trans rfl))
theorem dk_156 {code : ByteArray} {pc : Nat} (a b : UInt8) (h : DkAt code pc [156, a, b]) : decode code pc = .ok (.ifCond .ge (Reader.signed 16 (a.toNat * 256 + b.toNat)), 3) := dk_of ((dk_bind (dk_u1 (h 0 _ rfl))).trans ((dk_bind (dk_map (dk_u2 (h 1 _ rfl) (h 2 _ rfl)))).trans rfl))
theorem dk_157 {code : ByteArray} {pc : Nat} (a b : UInt8) (h : DkAt code pc [157, a, b]) : decode code pc = .ok (.ifCond .gt (Reader.signed 16 (a.toNat * 256 + b.toNat)), 3) := dk_of ((dk_bind (dk_u1 (h 0 _ rfl))).trans ((dk_bind (dk_map (dk_u2 (h 1 _ rfl) (h 2 _ rfl)))).trans rfl))
theorem dk_158 {code : ByteArray} {pc : Nat} (a b : UInt8) (h : DkAt code pc [158, a, b]) : decode code pc = .ok (.ifCond .le (Reader.signed 16 (a.toNat * 256 + b.toNat)), 3) := dk_of ((dk_bind (dk_u1 (h 0 _ rfl))).trans ((dk_bind (dk_map (dk_u2 (h 1 _ rfl) (h 2 _ rfl)))).trans rfl))
theorem dk_159 {code : ByteArray} {pc : Nat} (a b : UInt8) (h : DkAt code pc [159, a, b]) : decode code pc = .ok (.if_icmp .eq (Reader.signed 16 (a.toNat * 256 + b.toNat)), 3) := dk_of ((dk_bind (dk_u1 (h 0 _ rfl))).trans ((dk_bind (dk_map (dk_u2 (h 1 _ rfl) (h 2 _ rfl)))).trans rfl))
theorem dk_160 {code : ByteArray} {pc : Nat} (a b : UInt8) (h : DkAt code pc [160, a, b]) : decode code pc = .ok (.if_icmp .ne (Reader.signed 16 (a.toNat * 256 + b.toNat)), 3) := dk_of ((dk_bind (dk_u1 (h 0 _ rfl))).trans ((dk_bind (dk_map (dk_u2 (h 1 _ rfl) (h 2 _ rfl)))).trans rfl))
theorem dk_161 {code : ByteArray} {pc : Nat} (a b : UInt8) (h : DkAt code pc [161, a, b]) : decode code pc = .ok (.if_icmp .lt (Reader.signed 16 (a.toNat * 256 + b.toNat)), 3) := dk_of ((dk_bind (dk_u1 (h 0 _ rfl))).trans ((dk_bind (dk_map (dk_u2 (h 1 _ rfl) (h 2 _ rfl)))).trans rfl))
theorem dk_162 {code : ByteArray} {pc : Nat} (a b : UInt8) (h : DkAt code pc [162, a, b]) : decode code pc = .ok (.if_icmp .ge (Reader.signed 16 (a.toNat * 256 + b.toNat)), 3) := dk_of ((dk_bind (dk_u1 (h 0 _ rfl))).trans ((dk_bind (dk_map (dk_u2 (h 1 _ rfl) (h 2 _ rfl)))).trans rfl))
theorem dk_163 {code : ByteArray} {pc : Nat} (a b : UInt8) (h : DkAt code pc [163, a, b]) : decode code pc = .ok (.if_icmp .gt (Reader.signed 16 (a.toNat * 256 + b.toNat)), 3) := dk_of ((dk_bind (dk_u1 (h 0 _ rfl))).trans ((dk_bind (dk_map (dk_u2 (h 1 _ rfl) (h 2 _ rfl)))).trans rfl))
theorem dk_164 {code : ByteArray} {pc : Nat} (a b : UInt8) (h : DkAt code pc [164, a, b]) : decode code pc = .ok (.if_icmp .le (Reader.signed 16 (a.toNat * 256 + b.toNat)), 3) := dk_of ((dk_bind (dk_u1 (h 0 _ rfl))).trans ((dk_bind (dk_map (dk_u2 (h 1 _ rfl) (h 2 _ rfl)))).trans rfl))
theorem dk_167 {code : ByteArray} {pc : Nat} (a b : UInt8) (h : DkAt code pc [167, a, b]) : decode code pc = .ok (.goto (Reader.signed 16 (a.toNat * 256 + b.toNat)), 3) := dk_of ((dk_bind (dk_u1 (h 0 _ rfl))).trans ((dk_bind (dk_map (dk_u2 (h 1 _ rfl) (h 2 _ rfl)))).trans rfl))
theorem dk_172 {code : ByteArray} {pc : Nat} (h : DkAt code pc [172]) : decode code pc = .ok (.ireturn, 1) := dk_of ((dk_bind (dk_u1 (h 0 _ rfl))).trans rfl)
theorem dk_176 {code : ByteArray} {pc : Nat} (h : DkAt code pc [176]) : decode code pc = .ok (.areturn, 1) := dk_of ((dk_bind (dk_u1 (h 0 _ rfl))).trans rfl)
theorem dk_177 {code : ByteArray} {pc : Nat} (h : DkAt code pc [177]) : decode code pc = .ok (.return_, 1) := dk_of ((dk_bind (dk_u1 (h 0 _ rfl))).trans rfl)
theorem dk_180 {code : ByteArray} {pc : Nat} (a b : UInt8) (h : DkAt code pc [180, a, b]) : decode code pc = .ok (.getfield (a.toNat * 256 + b.toNat), 3) := dk_of ((dk_bind (dk_u1 (h 0 _ rfl))).trans ((dk_bind (dk_u2 (h 1 _ rfl) (h 2 _ rfl))).trans rfl))
theorem dk_181 {code : ByteArray} {pc : Nat} (a b : UInt8) (h : DkAt code pc [181, a, b]) : decode code pc = .ok (.putfield (a.toNat * 256 + b.toNat), 3) := dk_of ((dk_bind (dk_u1 (h 0 _ rfl))).trans ((dk_bind (dk_u2 (h 1 _ rfl) (h 2 _ rfl))).trans rfl))
theorem dk_182 {code : ByteArray} {pc : Nat} (a b : UInt8) (h : DkAt code pc [182, a, b]) : decode code pc = .ok (.invokevirtual (a.toNat * 256 + b.toNat), 3) := dk_of ((dk_bind (dk_u1 (h 0 _ rfl))).trans ((dk_bind (dk_u2 (h 1 _ rfl) (h 2 _ rfl))).trans rfl))
theorem dk_183 {code : ByteArray} {pc : Nat} (a b : UInt8) (h : DkAt code pc [183, a, b]) : decode code pc = .ok (.invokespecial (a.toNat * 256 + b.toNat), 3) := dk_of ((dk_bind (dk_u1 (h 0 _ rfl))).trans ((dk_bind (dk_u2 (h 1 _ rfl) (h 2 _ rfl))).trans rfl))
theorem dk_184 {code : ByteArray} {pc : Nat} (a b : UInt8) (h : DkAt code pc [184, a, b]) : decode code pc = .ok (.invokestatic (a.toNat * 256 + b.toNat), 3) := dk_of ((dk_bind (dk_u1 (h 0 _ rfl))).trans ((dk_bind (dk_u2 (h 1 _ rfl) (h 2 _ rfl))).trans rfl))
theorem dk_187 {code : ByteArray} {pc : Nat} (a b : UInt8) (h : DkAt code pc [187, a, b]) : decode code pc = .ok (.new (a.toNat * 256 + b.toNat), 3) := dk_of ((dk_bind (dk_u1 (h 0 _ rfl))).trans ((dk_bind (dk_u2 (h 1 _ rfl) (h 2 _ rfl))).trans rfl))
theorem dk_188_9 {code : ByteArray} {pc : Nat} (h : DkAt code pc [188, 9]) : decode code pc = .ok (.newarray .short, 2) := dk_of ((dk_bind (dk_u1 (h 0 _ rfl))).trans ((dk_bind (dk_u1 (h 1 _ rfl))).trans rfl))
theorem dk_188_10 {code : ByteArray} {pc : Nat} (h : DkAt code pc [188, 10]) : decode code pc = .ok (.newarray .int, 2) := dk_of ((dk_bind (dk_u1 (h 0 _ rfl))).trans ((dk_bind (dk_u1 (h 1 _ rfl))).trans rfl))
theorem dk_190 {code : ByteArray} {pc : Nat} (h : DkAt code pc [190]) : decode code pc = .ok (.arraylength, 1) := dk_of ((dk_bind (dk_u1 (h 0 _ rfl))).trans rfl)
theorem dk_192 {code : ByteArray} {pc : Nat} (a b : UInt8) (h : DkAt code pc [192, a, b]) : decode code pc = .ok (.checkcast (a.toNat * 256 + b.toNat), 3) := dk_of ((dk_bind (dk_u1 (h 0 _ rfl))).trans ((dk_bind (dk_u2 (h 1 _ rfl) (h 2 _ rfl))).trans rfl))
theorem dk_199 {code : ByteArray} {pc : Nat} (a b : UInt8) (h : DkAt code pc [199, a, b]) : decode code pc = .ok (.ifnonnull (Reader.signed 16 (a.toNat * 256 + b.toNat)), 3) := dk_of ((dk_bind (dk_u1 (h 0 _ rfl))).trans ((dk_bind (dk_map (dk_u2 (h 1 _ rfl) (h 2 _ rfl)))).trans rfl))
/-! java/lang/Short -/
set_option maxRecDepth 100000
def RJ0 : String := "java/lang/Short"
abbrev cJ0_compare : ByteArray := prog_7_method_22_code
def yJ0_compare : MethodName := ⟨RJ0, "compare", "(SS)I"⟩
def dkwJ0_compare_0 : List UInt8 := [26, 27, 100, 172]
abbrev dktJ0_compare_0 : List UInt8 := dkwJ0_compare_0 ++ []
theorem dksJ0_compare_0 : cJ0_compare.data.toList.drop 0 = dktJ0_compare_0 := by decide +kernel
theorem dJ0_compare_0 : decode cJ0_compare 0 = .ok (.iload_n 0, 1) := dk_26 (dk_at dksJ0_compare_0 0 rfl rfl)
theorem dJ0_compare_1 : decode cJ0_compare 1 = .ok (.iload_n 1, 1) := dk_27 (dk_at dksJ0_compare_0 1 rfl rfl)
theorem dJ0_compare_2 : decode cJ0_compare 2 = .ok (.isub, 1) := dk_100 (dk_at dksJ0_compare_0 2 rfl rfl)
theorem dJ0_compare_3 : decode cJ0_compare 3 = .ok (.ireturn, 1) := dk_172 (dk_at dksJ0_compare_0 3 rfl rfl)
theorem q7 : (Jvm.Cond.initialized "java/lang/Short") ∈ lw_all := lw_g (lw_at lw_m0 4 rfl) rfl
theorem q55 : (Jvm.Cond.static ({ cls := "java/lang/Short", name := "compare", desc := "(SS)I" } : Jvm.MethodName)) ∈ lw_all := lw_g (lw_at lw_m0 52 rfl) rfl
theorem q56 : (Jvm.Cond.code ({ cls := "java/lang/Short", name := "compare", desc := "(SS)I" } : Jvm.MethodName) prog_7_method_22_code (2 : Nat) (Option.some Jvm.ClassFile.FieldType.int)) ∈ lw_all := lw_g (lw_at lw_m0 53 rfl) rfl
/-! java/lang/Math -/
set_option maxRecDepth 100000
def RJ1 : String := "java/lang/Math"
abbrev cJ1_min : ByteArray := prog_6_method_69_code
def yJ1_min : MethodName := ⟨RJ1, "min", "(II)I"⟩
def dkwJ1_min_0 : List UInt8 := [26, 27, 163, 0, 7, 26, 167, 0, 4, 27, 172]
abbrev dktJ1_min_0 : List UInt8 := dkwJ1_min_0 ++ []
theorem dksJ1_min_0 : cJ1_min.data.toList.drop 0 = dktJ1_min_0 := by decide +kernel
theorem dJ1_min_0 : decode cJ1_min 0 = .ok (.iload_n 0, 1) := dk_26 (dk_at dksJ1_min_0 0 rfl rfl)
theorem dJ1_min_1 : decode cJ1_min 1 = .ok (.iload_n 1, 1) := dk_27 (dk_at dksJ1_min_0 1 rfl rfl)
theorem dJ1_min_2 : decode cJ1_min 2 = .ok (.if_icmp .gt 7, 3) := dk_163 0 7 (dk_at dksJ1_min_0 2 rfl rfl)
theorem dJ1_min_5 : decode cJ1_min 5 = .ok (.iload_n 0, 1) := dk_26 (dk_at dksJ1_min_0 5 rfl rfl)
theorem dJ1_min_6 : decode cJ1_min 6 = .ok (.goto 4, 3) := dk_167 0 4 (dk_at dksJ1_min_0 6 rfl rfl)
theorem dJ1_min_9 : decode cJ1_min 9 = .ok (.iload_n 1, 1) := dk_27 (dk_at dksJ1_min_0 9 rfl rfl)
theorem dJ1_min_10 : decode cJ1_min 10 = .ok (.ireturn, 1) := dk_172 (dk_at dksJ1_min_0 10 rfl rfl)
theorem q8 : (Jvm.Cond.initialized "java/lang/Math") ∈ lw_all := lw_g (lw_at lw_m0 5 rfl) rfl
theorem q61 : (Jvm.Cond.static ({ cls := "java/lang/Math", name := "min", desc := "(II)I" } : Jvm.MethodName)) ∈ lw_all := lw_g (lw_at lw_m0 58 rfl) rfl
theorem q62 : (Jvm.Cond.code ({ cls := "java/lang/Math", name := "min", desc := "(II)I" } : Jvm.MethodName) prog_6_method_69_code (2 : Nat) (Option.some Jvm.ClassFile.FieldType.int)) ∈ lw_all := lw_g (lw_at lw_m0 59 rfl) rfl
/-! java/util/Arrays -/
set_option maxRecDepth 100000
def RJ2 : String := "java/util/Arrays"
abbrev cJ2_copyOf : ByteArray := prog_9_method_122_code
def yJ2_copyOf : MethodName := ⟨RJ2, "copyOf", "([SI)[S"⟩
def dkwJ2_copyOf_1 : List UInt8 := [27, 184, 1, 48, 184, 0, 150, 44, 176]
abbrev dktJ2_copyOf_1 : List UInt8 := dkwJ2_copyOf_1 ++ []
def dkwJ2_copyOf_0 : List UInt8 := [27, 42, 190, 160, 0, 11, 42, 182, 1, 57, 192, 1, 58, 176, 27, 188, 9, 77, 42, 3, 44, 3, 42, 190]
abbrev dktJ2_copyOf_0 : List UInt8 := dkwJ2_copyOf_0 ++ dktJ2_copyOf_1
theorem dksJ2_copyOf_0 : cJ2_copyOf.data.toList.drop 0 = dktJ2_copyOf_0 := by decide +kernel
theorem dksJ2_copyOf_1 : cJ2_copyOf.data.toList.drop 24 = dktJ2_copyOf_1 := dk_seg dksJ2_copyOf_0 24 rfl rfl
theorem dJ2_copyOf_0 : decode cJ2_copyOf 0 = .ok (.iload_n 1, 1) := dk_27 (dk_at dksJ2_copyOf_0 0 rfl rfl)
theorem dJ2_copyOf_1 : decode cJ2_copyOf 1 = .ok (.aload_n 0, 1) := dk_42 (dk_at dksJ2_copyOf_0 1 rfl rfl)
theorem dJ2_copyOf_2 : decode cJ2_copyOf 2 = .ok (.arraylength, 1) := dk_190 (dk_at dksJ2_copyOf_0 2 rfl rfl)
theorem dJ2_copyOf_3 : decode cJ2_copyOf 3 = .ok (.if_icmp .ne 11, 3) := dk_160 0 11 (dk_at dksJ2_copyOf_0 3 rfl rfl)
theorem dJ2_copyOf_6 : decode cJ2_copyOf 6 = .ok (.aload_n 0, 1) := dk_42 (dk_at dksJ2_copyOf_0 6 rfl rfl)
theorem dJ2_copyOf_7 : decode cJ2_copyOf 7 = .ok (.invokevirtual 313, 3) := dk_182 1 57 (dk_at dksJ2_copyOf_0 7 rfl rfl)
theorem dJ2_copyOf_10 : decode cJ2_copyOf 10 = .ok (.checkcast 314, 3) := dk_192 1 58 (dk_at dksJ2_copyOf_0 10 rfl rfl)
theorem dJ2_copyOf_13 : decode cJ2_copyOf 13 = .ok (.areturn, 1) := dk_176 (dk_at dksJ2_copyOf_0 13 rfl rfl)
theorem dJ2_copyOf_14 : decode cJ2_copyOf 14 = .ok (.iload_n 1, 1) := dk_27 (dk_at dksJ2_copyOf_0 14 rfl rfl)
theorem dJ2_copyOf_15 : decode cJ2_copyOf 15 = .ok (.newarray .short, 2) := dk_188_9 (dk_at dksJ2_copyOf_0 15 rfl rfl)
theorem dJ2_copyOf_17 : decode cJ2_copyOf 17 = .ok (.astore_n 2, 1) := dk_77 (dk_at dksJ2_copyOf_0 17 rfl rfl)
theorem dJ2_copyOf_18 : decode cJ2_copyOf 18 = .ok (.aload_n 0, 1) := dk_42 (dk_at dksJ2_copyOf_0 18 rfl rfl)
theorem dJ2_copyOf_19 : decode cJ2_copyOf 19 = .ok (.iconst 0, 1) := dk_3 (dk_at dksJ2_copyOf_0 19 rfl rfl)
theorem dJ2_copyOf_20 : decode cJ2_copyOf 20 = .ok (.aload_n 2, 1) := dk_44 (dk_at dksJ2_copyOf_0 20 rfl rfl)
theorem dJ2_copyOf_21 : decode cJ2_copyOf 21 = .ok (.iconst 0, 1) := dk_3 (dk_at dksJ2_copyOf_0 21 rfl rfl)
theorem dJ2_copyOf_22 : decode cJ2_copyOf 22 = .ok (.aload_n 0, 1) := dk_42 (dk_at dksJ2_copyOf_0 22 rfl rfl)
theorem dJ2_copyOf_23 : decode cJ2_copyOf 23 = .ok (.arraylength, 1) := dk_190 (dk_at dksJ2_copyOf_0 23 rfl rfl)
theorem dJ2_copyOf_24 : decode cJ2_copyOf 24 = .ok (.iload_n 1, 1) := dk_27 (dk_at dksJ2_copyOf_1 0 rfl rfl)
theorem dJ2_copyOf_25 : decode cJ2_copyOf 25 = .ok (.invokestatic 304, 3) := dk_184 1 48 (dk_at dksJ2_copyOf_1 1 rfl rfl)
theorem dJ2_copyOf_28 : decode cJ2_copyOf 28 = .ok (.invokestatic 150, 3) := dk_184 0 150 (dk_at dksJ2_copyOf_1 4 rfl rfl)
theorem dJ2_copyOf_31 : decode cJ2_copyOf 31 = .ok (.aload_n 2, 1) := dk_44 (dk_at dksJ2_copyOf_1 7 rfl rfl)
theorem dJ2_copyOf_32 : decode cJ2_copyOf 32 = .ok (.areturn, 1) := dk_176 (dk_at dksJ2_copyOf_1 8 rfl rfl)
theorem q9 : (Jvm.Cond.initialized "java/util/Arrays") ∈ lw_all := lw_g (lw_at lw_m0 6 rfl) rfl
theorem q82 : (Jvm.Cond.static ({ cls := "java/util/Arrays", name := "copyOf", desc := "([SI)[S" } : Jvm.MethodName)) ∈ lw_all := lw_g (lw_at lw_m0 79 rfl) rfl
theorem q83 : (Jvm.Cond.code ({ cls := "java/util/Arrays", name := "copyOf", desc := "([SI)[S" } : Jvm.MethodName) prog_9_method_122_code (3 : Nat) (Option.some (Jvm.ClassFile.FieldType.array Jvm.ClassFile.FieldType.short))) ∈ lw_all := lw_g (lw_at lw_m0 80 rfl) rfl
theorem q84 : (Jvm.Cond.methodLink "java/util/Arrays" (313 : Nat) ({ cls := "[S", name := "clone", desc := "()Ljava/lang/Object;" } : Jvm.MethodName)) ∈ lw_all := lw_g (lw_at lw_m0 81 rfl) rfl
theorem q90 : (Jvm.Cond.classLink "java/util/Arrays" (314 : Nat) "[S") ∈ lw_all := lw_g (lw_at lw_m0 87 rfl) rfl
theorem q91 : (Jvm.Cond.methodLink "java/util/Arrays" (304 : Nat) ({ cls := "java/lang/Math", name := "min", desc := "(II)I" } : Jvm.MethodName)) ∈ lw_all := lw_g (lw_at lw_m0 88 rfl) rfl
theorem q92 : (Jvm.Cond.methodLink "java/util/Arrays" (150 : Nat) ({ cls := "java/lang/System", name := "arraycopy", desc := "(Ljava/lang/Object;ILjava/lang/Object;II)V" } : Jvm.MethodName)) ∈ lw_all := lw_g (lw_at lw_m0 89 rfl) rfl
/-! java/lang/Object -/
set_option maxRecDepth 100000
def RJ3 : String := "java/lang/Object"
abbrev cJ3_init : ByteArray := object_method_1_code
def yJ3_init : MethodName := ⟨RJ3, "<init>", "()V"⟩
theorem dJ3_init_0 : decode cJ3_init 0 = .ok (.return_, 1) := by decide +kernel
theorem q17 : (Jvm.Cond.instanceMethod ({ cls := "java/lang/Object", name := "<init>", desc := "()V" } : Jvm.MethodName)) ∈ lw_all := lw_g (lw_at lw_m0 14 rfl) rfl
theorem q18 : (Jvm.Cond.code ({ cls := "java/lang/Object", name := "<init>", desc := "()V" } : Jvm.MethodName) object_method_1_code (1 : Nat) (Option.none : Option Jvm.ClassFile.FieldType)) ∈ lw_all := lw_g (lw_at lw_m0 15 rfl) rfl
theorem q86 : (Jvm.Cond.native ({ cls := "java/lang/Object", name := "clone", desc := "()Ljava/lang/Object;" } : Jvm.MethodName)) ∈ lw_all := lw_g (lw_at lw_m0 83 rfl) rfl
theorem q87 : (Jvm.Cond.instanceMethod ({ cls := "java/lang/Object", name := "clone", desc := "()Ljava/lang/Object;" } : Jvm.MethodName)) ∈ lw_all := lw_g (lw_at lw_m0 84 rfl) rfl
theorem q176 : (Jvm.Cond.initialized "java/lang/Object") ∈ lw_all := lw_g (lw_at lw_m0 173 rfl) rfl
theorem q23 : (Jvm.Cond.arrayClass Jvm.ClassFile.FieldType.short) ∈ lw_all := lw_g (lw_at lw_m0 20 rfl) rfl
set_option maxRecDepth 100000
theorem q103 : (Jvm.Cond.arrayClass Jvm.ClassFile.FieldType.int) ∈ lw_all := lw_g (lw_at lw_m0 100 rfl) rfl
theorem q85 : (Jvm.Cond.sameMethod "[S" "java/lang/Object" "clone" "()Ljava/lang/Object;") ∈ lw_all := lw_g (lw_at lw_m0 82 rfl) rfl
set_option maxRecDepth 100000
theorem q88 : (Jvm.Cond.selects "[S" ({ cls := "[S", name := "clone", desc := "()Ljava/lang/Object;" } : Jvm.MethodName) ({ cls := "java/lang/Object", name := "clone", desc := "()Ljava/lang/Object;" } : Jvm.MethodName)) ∈ lw_all := lw_g (lw_at lw_m0 85 rfl) rfl
theorem q89 : (Jvm.Cond.castable "[S" "java/lang/Cloneable") ∈ lw_tbl := lw_at lw_m0 86 rfl
theorem q10 : (Jvm.Cond.initialized "java/lang/System") ∈ lw_all := lw_g (lw_at lw_m0 7 rfl) rfl
set_option maxRecDepth 100000
theorem q93 : (Jvm.Cond.static ({ cls := "java/lang/System", name := "arraycopy", desc := "(Ljava/lang/Object;ILjava/lang/Object;II)V" } : Jvm.MethodName)) ∈ lw_all := lw_g (lw_at lw_m0 90 rfl) rfl
theorem q94 : (Jvm.Cond.native ({ cls := "java/lang/System", name := "arraycopy", desc := "(Ljava/lang/Object;ILjava/lang/Object;II)V" } : Jvm.MethodName)) ∈ lw_all := lw_g (lw_at lw_m0 91 rfl) rfl
end
section
/-! ShortArrays -/
set_option maxRecDepth 100000
def RX2 : String := "ShortArrays"
abbrev cX2_quickSort : ByteArray := prog_1_method_6_code
def yX2_quickSort : MethodName := ⟨RX2, "quickSort", "([SII)V"⟩
def dkwX2_quickSort_14 : List UInt8 := [89, 54, 12, 4, 164, 0, 12, 42, 28, 21, 12, 100, 28, 184, 0, 29, 177]
abbrev dktX2_quickSort_14 : List UInt8 := dkwX2_quickSort_14 ++ []
def dkwX2_quickSort_13 : List UInt8 := [21, 8, 100, 89, 54, 12, 4, 164, 0, 12, 42, 27, 27, 21, 12, 96, 184, 0, 29, 21, 11, 21, 10, 100]
abbrev dktX2_quickSort_13 : List UInt8 := dkwX2_quickSort_13 ++ dktX2_quickSort_14
def dkwX2_quickSort_12 : List UInt8 := [21, 11, 100, 4, 100, 184, 0, 20, 54, 12, 42, 21, 9, 28, 21, 12, 100, 21, 12, 184, 0, 26, 21, 9]
abbrev dktX2_quickSort_12 : List UInt8 := dkwX2_quickSort_12 ++ dktX2_quickSort_13
def dkwX2_quickSort_11 : List UInt8 := [100, 184, 0, 20, 54, 12, 42, 27, 21, 9, 21, 12, 100, 21, 12, 184, 0, 26, 21, 11, 21, 10, 100, 28]
abbrev dktX2_quickSort_11 : List UInt8 := dkwX2_quickSort_11 ++ dktX2_quickSort_12
def dkwX2_quickSort_10 : List UInt8 := [21, 9, 132, 9, 1, 21, 10, 132, 10, 255, 184, 0, 5, 167, 255, 144, 21, 8, 27, 100, 21, 9, 21, 8]
abbrev dktX2_quickSort_10 : List UInt8 := dkwX2_quickSort_10 ++ dktX2_quickSort_11
def dkwX2_quickSort_9 : List UInt8 := [132, 11, 255, 184, 0, 5, 132, 10, 255, 167, 255, 215, 21, 9, 21, 10, 164, 0, 6, 167, 0, 20, 42]
abbrev dktX2_quickSort_9 : List UInt8 := dkwX2_quickSort_9 ++ dktX2_quickSort_10
def dkwX2_quickSort_8 : List UInt8 := [21, 10, 53, 21, 7, 184, 0, 9, 89, 54, 12, 155, 0, 25, 21, 12, 154, 0, 14, 42, 21, 10, 21, 11]
abbrev dktX2_quickSort_8 : List UInt8 := dkwX2_quickSort_8 ++ dktX2_quickSort_9
def dkwX2_quickSort_7 : List UInt8 := [21, 8, 132, 8, 1, 21, 9, 184, 0, 5, 132, 9, 1, 167, 255, 215, 21, 10, 21, 9, 161, 0, 40, 42]
abbrev dktX2_quickSort_7 : List UInt8 := dkwX2_quickSort_7 ++ dktX2_quickSort_8
def dkwX2_quickSort_6 : List UInt8 := [163, 0, 40, 42, 21, 9, 53, 21, 7, 184, 0, 9, 89, 54, 12, 157, 0, 25, 21, 12, 154, 0, 14, 42]
abbrev dktX2_quickSort_6 : List UInt8 := dkwX2_quickSort_6 ++ dktX2_quickSort_7
def dkwX2_quickSort_5 : List UInt8 := [54, 7, 27, 54, 8, 21, 8, 54, 9, 28, 4, 100, 54, 10, 21, 10, 54, 11, 21, 9, 21, 10]
abbrev dktX2_quickSort_5 : List UInt8 := dkwX2_quickSort_5 ++ dktX2_quickSort_6
def dkwX2_quickSort_4 : List UInt8 := [100, 21, 6, 184, 0, 16, 54, 6, 42, 21, 5, 21, 4, 21, 6, 184, 0, 16, 54, 4, 42, 21, 4, 53]
abbrev dktX2_quickSort_4 : List UInt8 := dkwX2_quickSort_4 ++ dktX2_quickSort_5
def dkwX2_quickSort_3 : List UInt8 := [21, 4, 21, 4, 21, 7, 96, 184, 0, 16, 54, 4, 42, 21, 6, 5, 21, 7, 104, 100, 21, 6, 21, 7]
abbrev dktX2_quickSort_3 : List UInt8 := dkwX2_quickSort_3 ++ dktX2_quickSort_4
def dkwX2_quickSort_2 : List UInt8 := [21, 5, 21, 7, 96, 21, 5, 5, 21, 7, 104, 96, 184, 0, 16, 54, 5, 42, 21, 4, 21, 7, 100]
abbrev dktX2_quickSort_2 : List UInt8 := dkwX2_quickSort_2 ++ dktX2_quickSort_3
def dkwX2_quickSort_1 : List UInt8 := [27, 54, 5, 28, 4, 100, 54, 6, 29, 17, 0, 128, 164, 0, 67, 29, 16, 8, 108, 54, 7, 42, 21, 5]
abbrev dktX2_quickSort_1 : List UInt8 := dkwX2_quickSort_1 ++ dktX2_quickSort_2
def dkwX2_quickSort_0 : List UInt8 := [28, 27, 100, 62, 29, 16, 16, 162, 0, 10, 42, 27, 28, 184, 0, 13, 177, 27, 29, 5, 108, 96, 54, 4]
abbrev dktX2_quickSort_0 : List UInt8 := dkwX2_quickSort_0 ++ dktX2_quickSort_1
theorem dksX2_quickSort_0 : cX2_quickSort.data.toList.drop 0 = dktX2_quickSort_0 := by decide +kernel
theorem dksX2_quickSort_1 : cX2_quickSort.data.toList.drop 24 = dktX2_quickSort_1 := dk_seg dksX2_quickSort_0 24 rfl rfl
theorem dksX2_quickSort_2 : cX2_quickSort.data.toList.drop 48 = dktX2_quickSort_2 := dk_seg dksX2_quickSort_1 24 rfl rfl
theorem dksX2_quickSort_3 : cX2_quickSort.data.toList.drop 71 = dktX2_quickSort_3 := dk_seg dksX2_quickSort_2 23 rfl rfl
theorem dksX2_quickSort_4 : cX2_quickSort.data.toList.drop 95 = dktX2_quickSort_4 := dk_seg dksX2_quickSort_3 24 rfl rfl
theorem dksX2_quickSort_5 : cX2_quickSort.data.toList.drop 119 = dktX2_quickSort_5 := dk_seg dksX2_quickSort_4 24 rfl rfl
theorem dksX2_quickSort_6 : cX2_quickSort.data.toList.drop 141 = dktX2_quickSort_6 := dk_seg dksX2_quickSort_5 22 rfl rfl
theorem dksX2_quickSort_7 : cX2_quickSort.data.toList.drop 165 = dktX2_quickSort_7 := dk_seg dksX2_quickSort_6 24 rfl rfl
theorem dksX2_quickSort_8 : cX2_quickSort.data.toList.drop 189 = dktX2_quickSort_8 := dk_seg dksX2_quickSort_7 24 rfl rfl
theorem dksX2_quickSort_9 : cX2_quickSort.data.toList.drop 213 = dktX2_quickSort_9 := dk_seg dksX2_quickSort_8 24 rfl rfl
theorem dksX2_quickSort_10 : cX2_quickSort.data.toList.drop 236 = dktX2_quickSort_10 := dk_seg dksX2_quickSort_9 23 rfl rfl
theorem dksX2_quickSort_11 : cX2_quickSort.data.toList.drop 260 = dktX2_quickSort_11 := dk_seg dksX2_quickSort_10 24 rfl rfl
theorem dksX2_quickSort_12 : cX2_quickSort.data.toList.drop 284 = dktX2_quickSort_12 := dk_seg dksX2_quickSort_11 24 rfl rfl
theorem dksX2_quickSort_13 : cX2_quickSort.data.toList.drop 308 = dktX2_quickSort_13 := dk_seg dksX2_quickSort_12 24 rfl rfl
theorem dksX2_quickSort_14 : cX2_quickSort.data.toList.drop 332 = dktX2_quickSort_14 := dk_seg dksX2_quickSort_13 24 rfl rfl
theorem dX2_quickSort_0 : decode cX2_quickSort 0 = .ok (.iload_n 2, 1) := dk_28 (dk_at dksX2_quickSort_0 0 rfl rfl)
theorem dX2_quickSort_1 : decode cX2_quickSort 1 = .ok (.iload_n 1, 1) := dk_27 (dk_at dksX2_quickSort_0 1 rfl rfl)
theorem dX2_quickSort_2 : decode cX2_quickSort 2 = .ok (.isub, 1) := dk_100 (dk_at dksX2_quickSort_0 2 rfl rfl)
theorem dX2_quickSort_3 : decode cX2_quickSort 3 = .ok (.istore_n 3, 1) := dk_62 (dk_at dksX2_quickSort_0 3 rfl rfl)
theorem dX2_quickSort_4 : decode cX2_quickSort 4 = .ok (.iload_n 3, 1) := dk_29 (dk_at dksX2_quickSort_0 4 rfl rfl)
theorem dX2_quickSort_5 : decode cX2_quickSort 5 = .ok (.bipush 16, 2) := dk_16 16 (dk_at dksX2_quickSort_0 5 rfl rfl)
theorem dX2_quickSort_7 : decode cX2_quickSort 7 = .ok (.if_icmp .ge 10, 3) := dk_162 0 10 (dk_at dksX2_quickSort_0 7 rfl rfl)
theorem dX2_quickSort_10 : decode cX2_quickSort 10 = .ok (.aload_n 0, 1) := dk_42 (dk_at dksX2_quickSort_0 10 rfl rfl)
theorem dX2_quickSort_11 : decode cX2_quickSort 11 = .ok (.iload_n 1, 1) := dk_27 (dk_at dksX2_quickSort_0 11 rfl rfl)
theorem dX2_quickSort_12 : decode cX2_quickSort 12 = .ok (.iload_n 2, 1) := dk_28 (dk_at dksX2_quickSort_0 12 rfl rfl)
theorem dX2_quickSort_13 : decode cX2_quickSort 13 = .ok (.invokestatic 13, 3) := dk_184 0 13 (dk_at dksX2_quickSort_0 13 rfl rfl)
theorem dX2_quickSort_16 : decode cX2_quickSort 16 = .ok (.return_, 1) := dk_177 (dk_at dksX2_quickSort_0 16 rfl rfl)
theorem dX2_quickSort_17 : decode cX2_quickSort 17 = .ok (.iload_n 1, 1) := dk_27 (dk_at dksX2_quickSort_0 17 rfl rfl)
theorem dX2_quickSort_18 : decode cX2_quickSort 18 = .ok (.iload_n 3, 1) := dk_29 (dk_at dksX2_quickSort_0 18 rfl rfl)
theorem dX2_quickSort_19 : decode cX2_quickSort 19 = .ok (.iconst 2, 1) := dk_5 (dk_at dksX2_quickSort_0 19 rfl rfl)
theorem dX2_quickSort_20 : decode cX2_quickSort 20 = .ok (.idiv, 1) := dk_108 (dk_at dksX2_quickSort_0 20 rfl rfl)
theorem dX2_quickSort_21 : decode cX2_quickSort 21 = .ok (.iadd, 1) := dk_96 (dk_at dksX2_quickSort_0 21 rfl rfl)
theorem dX2_quickSort_22 : decode cX2_quickSort 22 = .ok (.istore 4, 2) := dk_54 4 (dk_at dksX2_quickSort_0 22 rfl rfl)
theorem dX2_quickSort_24 : decode cX2_quickSort 24 = .ok (.iload_n 1, 1) := dk_27 (dk_at dksX2_quickSort_1 0 rfl rfl)
theorem dX2_quickSort_25 : decode cX2_quickSort 25 = .ok (.istore 5, 2) := dk_54 5 (dk_at dksX2_quickSort_1 1 rfl rfl)
theorem dX2_quickSort_27 : decode cX2_quickSort 27 = .ok (.iload_n 2, 1) := dk_28 (dk_at dksX2_quickSort_1 3 rfl rfl)
theorem dX2_quickSort_28 : decode cX2_quickSort 28 = .ok (.iconst 1, 1) := dk_4 (dk_at dksX2_quickSort_1 4 rfl rfl)
theorem dX2_quickSort_29 : decode cX2_quickSort 29 = .ok (.isub, 1) := dk_100 (dk_at dksX2_quickSort_1 5 rfl rfl)
theorem dX2_quickSort_30 : decode cX2_quickSort 30 = .ok (.istore 6, 2) := dk_54 6 (dk_at dksX2_quickSort_1 6 rfl rfl)
theorem dX2_quickSort_32 : decode cX2_quickSort 32 = .ok (.iload_n 3, 1) := dk_29 (dk_at dksX2_quickSort_1 8 rfl rfl)
theorem dX2_quickSort_33 : decode cX2_quickSort 33 = .ok (.sipush 128, 3) := dk_17 0 128 (dk_at dksX2_quickSort_1 9 rfl rfl)
theorem dX2_quickSort_36 : decode cX2_quickSort 36 = .ok (.if_icmp .le 67, 3) := dk_164 0 67 (dk_at dksX2_quickSort_1 12 rfl rfl)
theorem dX2_quickSort_39 : decode cX2_quickSort 39 = .ok (.iload_n 3, 1) := dk_29 (dk_at dksX2_quickSort_1 15 rfl rfl)
theorem dX2_quickSort_40 : decode cX2_quickSort 40 = .ok (.bipush 8, 2) := dk_16 8 (dk_at dksX2_quickSort_1 16 rfl rfl)
theorem dX2_quickSort_42 : decode cX2_quickSort 42 = .ok (.idiv, 1) := dk_108 (dk_at dksX2_quickSort_1 18 rfl rfl)
theorem dX2_quickSort_43 : decode cX2_quickSort 43 = .ok (.istore 7, 2) := dk_54 7 (dk_at dksX2_quickSort_1 19 rfl rfl)
theorem dX2_quickSort_45 : decode cX2_quickSort 45 = .ok (.aload_n 0, 1) := dk_42 (dk_at dksX2_quickSort_1 21 rfl rfl)
theorem dX2_quickSort_46 : decode cX2_quickSort 46 = .ok (.iload 5, 2) := dk_21 5 (dk_at dksX2_quickSort_1 22 rfl rfl)
theorem dX2_quickSort_48 : decode cX2_quickSort 48 = .ok (.iload 5, 2) := dk_21 5 (dk_at dksX2_quickSort_2 0 rfl rfl)
theorem dX2_quickSort_50 : decode cX2_quickSort 50 = .ok (.iload 7, 2) := dk_21 7 (dk_at dksX2_quickSort_2 2 rfl rfl)
theorem dX2_quickSort_52 : decode cX2_quickSort 52 = .ok (.iadd, 1) := dk_96 (dk_at dksX2_quickSort_2 4 rfl rfl)
theorem dX2_quickSort_53 : decode cX2_quickSort 53 = .ok (.iload 5, 2) := dk_21 5 (dk_at dksX2_quickSort_2 5 rfl rfl)
theorem dX2_quickSort_55 : decode cX2_quickSort 55 = .ok (.iconst 2, 1) := dk_5 (dk_at dksX2_quickSort_2 7 rfl rfl)
theorem dX2_quickSort_56 : decode cX2_quickSort 56 = .ok (.iload 7, 2) := dk_21 7 (dk_at dksX2_quickSort_2 8 rfl rfl)
theorem dX2_quickSort_58 : decode cX2_quickSort 58 = .ok (.imul, 1) := dk_104 (dk_at dksX2_quickSort_2 10 rfl rfl)
theorem dX2_quickSort_59 : decode cX2_quickSort 59 = .ok (.iadd, 1) := dk_96 (dk_at dksX2_quickSort_2 11 rfl rfl)
theorem dX2_quickSort_60 : decode cX2_quickSort 60 = .ok (.invokestatic 16, 3) := dk_184 0 16 (dk_at dksX2_quickSort_2 12 rfl rfl)
theorem dX2_quickSort_63 : decode cX2_quickSort 63 = .ok (.istore 5, 2) := dk_54 5 (dk_at dksX2_quickSort_2 15 rfl rfl)
theorem dX2_quickSort_65 : decode cX2_quickSort 65 = .ok (.aload_n 0, 1) := dk_42 (dk_at dksX2_quickSort_2 17 rfl rfl)
theorem dX2_quickSort_66 : decode cX2_quickSort 66 = .ok (.iload 4, 2) := dk_21 4 (dk_at dksX2_quickSort_2 18 rfl rfl)
theorem dX2_quickSort_68 : decode cX2_quickSort 68 = .ok (.iload 7, 2) := dk_21 7 (dk_at dksX2_quickSort_2 20 rfl rfl)
theorem dX2_quickSort_70 : decode cX2_quickSort 70 = .ok (.isub, 1) := dk_100 (dk_at dksX2_quickSort_2 22 rfl rfl)
theorem dX2_quickSort_71 : decode cX2_quickSort 71 = .ok (.iload 4, 2) := dk_21 4 (dk_at dksX2_quickSort_3 0 rfl rfl)
theorem dX2_quickSort_73 : decode cX2_quickSort 73 = .ok (.iload 4, 2) := dk_21 4 (dk_at dksX2_quickSort_3 2 rfl rfl)
theorem dX2_quickSort_75 : decode cX2_quickSort 75 = .ok (.iload 7, 2) := dk_21 7 (dk_at dksX2_quickSort_3 4 rfl rfl)
theorem dX2_quickSort_77 : decode cX2_quickSort 77 = .ok (.iadd, 1) := dk_96 (dk_at dksX2_quickSort_3 6 rfl rfl)
theorem dX2_quickSort_78 : decode cX2_quickSort 78 = .ok (.invokestatic 16, 3) := dk_184 0 16 (dk_at dksX2_quickSort_3 7 rfl rfl)
theorem dX2_quickSort_81 : decode cX2_quickSort 81 = .ok (.istore 4, 2) := dk_54 4 (dk_at dksX2_quickSort_3 10 rfl rfl)
theorem dX2_quickSort_83 : decode cX2_quickSort 83 = .ok (.aload_n 0, 1) := dk_42 (dk_at dksX2_quickSort_3 12 rfl rfl)
theorem dX2_quickSort_84 : decode cX2_quickSort 84 = .ok (.iload 6, 2) := dk_21 6 (dk_at dksX2_quickSort_3 13 rfl rfl)
theorem dX2_quickSort_86 : decode cX2_quickSort 86 = .ok (.iconst 2, 1) := dk_5 (dk_at dksX2_quickSort_3 15 rfl rfl)
theorem dX2_quickSort_87 : decode cX2_quickSort 87 = .ok (.iload 7, 2) := dk_21 7 (dk_at dksX2_quickSort_3 16 rfl rfl)
theorem dX2_quickSort_89 : decode cX2_quickSort 89 = .ok (.imul, 1) := dk_104 (dk_at dksX2_quickSort_3 18 rfl rfl)
theorem dX2_quickSort_90 : decode cX2_quickSort 90 = .ok (.isub, 1) := dk_100 (dk_at dksX2_quickSort_3 19 rfl rfl)
theorem dX2_quickSort_91 : decode cX2_quickSort 91 = .ok (.iload 6, 2) := dk_21 6 (dk_at dksX2_quickSort_3 20 rfl rfl)
theorem dX2_quickSort_93 : decode cX2_quickSort 93 = .ok (.iload 7, 2) := dk_21 7 (dk_at dksX2_quickSort_3 22 rfl rfl)
theorem dX2_quickSort_95 : decode cX2_quickSort 95 = .ok (.isub, 1) := dk_100 (dk_at dksX2_quickSort_4 0 rfl rfl)
theorem dX2_quickSort_96 : decode cX2_quickSort 96 = .ok (.iload 6, 2) := dk_21 6 (dk_at dksX2_quickSort_4 1 rfl rfl)
theorem dX2_quickSort_98 : decode cX2_quickSort 98 = .ok (.invokestatic 16, 3) := dk_184 0 16 (dk_at dksX2_quickSort_4 3 rfl rfl)
theorem dX2_quickSort_101 : decode cX2_quickSort 101 = .ok (.istore 6, 2) := dk_54 6 (dk_at dksX2_quickSort_4 6 rfl rfl)
theorem dX2_quickSort_103 : decode cX2_quickSort 103 = .ok (.aload_n 0, 1) := dk_42 (dk_at dksX2_quickSort_4 8 rfl rfl)
theorem dX2_quickSort_104 : decode cX2_quickSort 104 = .ok (.iload 5, 2) := dk_21 5 (dk_at dksX2_quickSort_4 9 rfl rfl)
theorem dX2_quickSort_106 : decode cX2_quickSort 106 = .ok (.iload 4, 2) := dk_21 4 (dk_at dksX2_quickSort_4 11 rfl rfl)
theorem dX2_quickSort_108 : decode cX2_quickSort 108 = .ok (.iload 6, 2) := dk_21 6 (dk_at dksX2_quickSort_4 13 rfl rfl)
theorem dX2_quickSort_110 : decode cX2_quickSort 110 = .ok (.invokestatic 16, 3) := dk_184 0 16 (dk_at dksX2_quickSort_4 15 rfl rfl)
theorem dX2_quickSort_113 : decode cX2_quickSort 113 = .ok (.istore 4, 2) := dk_54 4 (dk_at dksX2_quickSort_4 18 rfl rfl)
theorem dX2_quickSort_115 : decode cX2_quickSort 115 = .ok (.aload_n 0, 1) := dk_42 (dk_at dksX2_quickSort_4 20 rfl rfl)
theorem dX2_quickSort_116 : decode cX2_quickSort 116 = .ok (.iload 4, 2) := dk_21 4 (dk_at dksX2_quickSort_4 21 rfl rfl)
theorem dX2_quickSort_118 : decode cX2_quickSort 118 = .ok (.saload, 1) := dk_53 (dk_at dksX2_quickSort_4 23 rfl rfl)
theorem dX2_quickSort_119 : decode cX2_quickSort 119 = .ok (.istore 7, 2) := dk_54 7 (dk_at dksX2_quickSort_5 0 rfl rfl)
theorem dX2_quickSort_121 : decode cX2_quickSort 121 = .ok (.iload_n 1, 1) := dk_27 (dk_at dksX2_quickSort_5 2 rfl rfl)
theorem dX2_quickSort_122 : decode cX2_quickSort 122 = .ok (.istore 8, 2) := dk_54 8 (dk_at dksX2_quickSort_5 3 rfl rfl)
theorem dX2_quickSort_124 : decode cX2_quickSort 124 = .ok (.iload 8, 2) := dk_21 8 (dk_at dksX2_quickSort_5 5 rfl rfl)
theorem dX2_quickSort_126 : decode cX2_quickSort 126 = .ok (.istore 9, 2) := dk_54 9 (dk_at dksX2_quickSort_5 7 rfl rfl)
theorem dX2_quickSort_128 : decode cX2_quickSort 128 = .ok (.iload_n 2, 1) := dk_28 (dk_at dksX2_quickSort_5 9 rfl rfl)
theorem dX2_quickSort_129 : decode cX2_quickSort 129 = .ok (.iconst 1, 1) := dk_4 (dk_at dksX2_quickSort_5 10 rfl rfl)
theorem dX2_quickSort_130 : decode cX2_quickSort 130 = .ok (.isub, 1) := dk_100 (dk_at dksX2_quickSort_5 11 rfl rfl)
theorem dX2_quickSort_131 : decode cX2_quickSort 131 = .ok (.istore 10, 2) := dk_54 10 (dk_at dksX2_quickSort_5 12 rfl rfl)
theorem dX2_quickSort_133 : decode cX2_quickSort 133 = .ok (.iload 10, 2) := dk_21 10 (dk_at dksX2_quickSort_5 14 rfl rfl)
theorem dX2_quickSort_135 : decode cX2_quickSort 135 = .ok (.istore 11, 2) := dk_54 11 (dk_at dksX2_quickSort_5 16 rfl rfl)
theorem dX2_quickSort_137 : decode cX2_quickSort 137 = .ok (.iload 9, 2) := dk_21 9 (dk_at dksX2_quickSort_5 18 rfl rfl)
theorem dX2_quickSort_139 : decode cX2_quickSort 139 = .ok (.iload 10, 2) := dk_21 10 (dk_at dksX2_quickSort_5 20 rfl rfl)
theorem dX2_quickSort_141 : decode cX2_quickSort 141 = .ok (.if_icmp .gt 40, 3) := dk_163 0 40 (dk_at dksX2_quickSort_6 0 rfl rfl)
theorem dX2_quickSort_144 : decode cX2_quickSort 144 = .ok (.aload_n 0, 1) := dk_42 (dk_at dksX2_quickSort_6 3 rfl rfl)
theorem dX2_quickSort_145 : decode cX2_quickSort 145 = .ok (.iload 9, 2) := dk_21 9 (dk_at dksX2_quickSort_6 4 rfl rfl)
theorem dX2_quickSort_147 : decode cX2_quickSort 147 = .ok (.saload, 1) := dk_53 (dk_at dksX2_quickSort_6 6 rfl rfl)
theorem dX2_quickSort_148 : decode cX2_quickSort 148 = .ok (.iload 7, 2) := dk_21 7 (dk_at dksX2_quickSort_6 7 rfl rfl)
theorem dX2_quickSort_150 : decode cX2_quickSort 150 = .ok (.invokestatic 9, 3) := dk_184 0 9 (dk_at dksX2_quickSort_6 9 rfl rfl)
theorem dX2_quickSort_153 : decode cX2_quickSort 153 = .ok (.dup, 1) := dk_89 (dk_at dksX2_quickSort_6 12 rfl rfl)
theorem dX2_quickSort_154 : decode cX2_quickSort 154 = .ok (.istore 12, 2) := dk_54 12 (dk_at dksX2_quickSort_6 13 rfl rfl)
theorem dX2_quickSort_156 : decode cX2_quickSort 156 = .ok (.ifCond .gt 25, 3) := dk_157 0 25 (dk_at dksX2_quickSort_6 15 rfl rfl)
theorem dX2_quickSort_159 : decode cX2_quickSort 159 = .ok (.iload 12, 2) := dk_21 12 (dk_at dksX2_quickSort_6 18 rfl rfl)
theorem dX2_quickSort_161 : decode cX2_quickSort 161 = .ok (.ifCond .ne 14, 3) := dk_154 0 14 (dk_at dksX2_quickSort_6 20 rfl rfl)
theorem dX2_quickSort_164 : decode cX2_quickSort 164 = .ok (.aload_n 0, 1) := dk_42 (dk_at dksX2_quickSort_6 23 rfl rfl)
theorem dX2_quickSort_165 : decode cX2_quickSort 165 = .ok (.iload 8, 2) := dk_21 8 (dk_at dksX2_quickSort_7 0 rfl rfl)
theorem dX2_quickSort_167 : decode cX2_quickSort 167 = .ok (.iinc 8 1, 3) := dk_132 8 1 (dk_at dksX2_quickSort_7 2 rfl rfl)
theorem dX2_quickSort_170 : decode cX2_quickSort 170 = .ok (.iload 9, 2) := dk_21 9 (dk_at dksX2_quickSort_7 5 rfl rfl)
theorem dX2_quickSort_172 : decode cX2_quickSort 172 = .ok (.invokestatic 5, 3) := dk_184 0 5 (dk_at dksX2_quickSort_7 7 rfl rfl)
theorem dX2_quickSort_175 : decode cX2_quickSort 175 = .ok (.iinc 9 1, 3) := dk_132 9 1 (dk_at dksX2_quickSort_7 10 rfl rfl)
theorem dX2_quickSort_178 : decode cX2_quickSort 178 = .ok (.goto (-41), 3) := dk_167 255 215 (dk_at dksX2_quickSort_7 13 rfl rfl)
theorem dX2_quickSort_181 : decode cX2_quickSort 181 = .ok (.iload 10, 2) := dk_21 10 (dk_at dksX2_quickSort_7 16 rfl rfl)
theorem dX2_quickSort_183 : decode cX2_quickSort 183 = .ok (.iload 9, 2) := dk_21 9 (dk_at dksX2_quickSort_7 18 rfl rfl)
theorem dX2_quickSort_185 : decode cX2_quickSort 185 = .ok (.if_icmp .lt 40, 3) := dk_161 0 40 (dk_at dksX2_quickSort_7 20 rfl rfl)
theorem dX2_quickSort_188 : decode cX2_quickSort 188 = .ok (.aload_n 0, 1) := dk_42 (dk_at dksX2_quickSort_7 23 rfl rfl)
theorem dX2_quickSort_189 : decode cX2_quickSort 189 = .ok (.iload 10, 2) := dk_21 10 (dk_at dksX2_quickSort_8 0 rfl rfl)
theorem dX2_quickSort_191 : decode cX2_quickSort 191 = .ok (.saload, 1) := dk_53 (dk_at dksX2_quickSort_8 2 rfl rfl)
theorem dX2_quickSort_192 : decode cX2_quickSort 192 = .ok (.iload 7, 2) := dk_21 7 (dk_at dksX2_quickSort_8 3 rfl rfl)
theorem dX2_quickSort_194 : decode cX2_quickSort 194 = .ok (.invokestatic 9, 3) := dk_184 0 9 (dk_at dksX2_quickSort_8 5 rfl rfl)
theorem dX2_quickSort_197 : decode cX2_quickSort 197 = .ok (.dup, 1) := dk_89 (dk_at dksX2_quickSort_8 8 rfl rfl)
theorem dX2_quickSort_198 : decode cX2_quickSort 198 = .ok (.istore 12, 2) := dk_54 12 (dk_at dksX2_quickSort_8 9 rfl rfl)
theorem dX2_quickSort_200 : decode cX2_quickSort 200 = .ok (.ifCond .lt 25, 3) := dk_155 0 25 (dk_at dksX2_quickSort_8 11 rfl rfl)
theorem dX2_quickSort_203 : decode cX2_quickSort 203 = .ok (.iload 12, 2) := dk_21 12 (dk_at dksX2_quickSort_8 14 rfl rfl)
theorem dX2_quickSort_205 : decode cX2_quickSort 205 = .ok (.ifCond .ne 14, 3) := dk_154 0 14 (dk_at dksX2_quickSort_8 16 rfl rfl)
theorem dX2_quickSort_208 : decode cX2_quickSort 208 = .ok (.aload_n 0, 1) := dk_42 (dk_at dksX2_quickSort_8 19 rfl rfl)
theorem dX2_quickSort_209 : decode cX2_quickSort 209 = .ok (.iload 10, 2) := dk_21 10 (dk_at dksX2_quickSort_8 20 rfl rfl)
theorem dX2_quickSort_211 : decode cX2_quickSort 211 = .ok (.iload 11, 2) := dk_21 11 (dk_at dksX2_quickSort_8 22 rfl rfl)
theorem dX2_quickSort_213 : decode cX2_quickSort 213 = .ok (.iinc 11 (-1), 3) := dk_132 11 255 (dk_at dksX2_quickSort_9 0 rfl rfl)
theorem dX2_quickSort_216 : decode cX2_quickSort 216 = .ok (.invokestatic 5, 3) := dk_184 0 5 (dk_at dksX2_quickSort_9 3 rfl rfl)
theorem dX2_quickSort_219 : decode cX2_quickSort 219 = .ok (.iinc 10 (-1), 3) := dk_132 10 255 (dk_at dksX2_quickSort_9 6 rfl rfl)
theorem dX2_quickSort_222 : decode cX2_quickSort 222 = .ok (.goto (-41), 3) := dk_167 255 215 (dk_at dksX2_quickSort_9 9 rfl rfl)
theorem dX2_quickSort_225 : decode cX2_quickSort 225 = .ok (.iload 9, 2) := dk_21 9 (dk_at dksX2_quickSort_9 12 rfl rfl)
theorem dX2_quickSort_227 : decode cX2_quickSort 227 = .ok (.iload 10, 2) := dk_21 10 (dk_at dksX2_quickSort_9 14 rfl rfl)
theorem dX2_quickSort_229 : decode cX2_quickSort 229 = .ok (.if_icmp .le 6, 3) := dk_164 0 6 (dk_at dksX2_quickSort_9 16 rfl rfl)
theorem dX2_quickSort_232 : decode cX2_quickSort 232 = .ok (.goto 20, 3) := dk_167 0 20 (dk_at dksX2_quickSort_9 19 rfl rfl)
theorem dX2_quickSort_235 : decode cX2_quickSort 235 = .ok (.aload_n 0, 1) := dk_42 (dk_at dksX2_quickSort_9 22 rfl rfl)
theorem dX2_quickSort_236 : decode cX2_quickSort 236 = .ok (.iload 9, 2) := dk_21 9 (dk_at dksX2_quickSort_10 0 rfl rfl)
theorem dX2_quickSort_238 : decode cX2_quickSort 238 = .ok (.iinc 9 1, 3) := dk_132 9 1 (dk_at dksX2_quickSort_10 2 rfl rfl)
theorem dX2_quickSort_241 : decode cX2_quickSort 241 = .ok (.iload 10, 2) := dk_21 10 (dk_at dksX2_quickSort_10 5 rfl rfl)
theorem dX2_quickSort_243 : decode cX2_quickSort 243 = .ok (.iinc 10 (-1), 3) := dk_132 10 255 (dk_at dksX2_quickSort_10 7 rfl rfl)
theorem dX2_quickSort_246 : decode cX2_quickSort 246 = .ok (.invokestatic 5, 3) := dk_184 0 5 (dk_at dksX2_quickSort_10 10 rfl rfl)
theorem dX2_quickSort_249 : decode cX2_quickSort 249 = .ok (.goto (-112), 3) := dk_167 255 144 (dk_at dksX2_quickSort_10 13 rfl rfl)
theorem dX2_quickSort_252 : decode cX2_quickSort 252 = .ok (.iload 8, 2) := dk_21 8 (dk_at dksX2_quickSort_10 16 rfl rfl)
theorem dX2_quickSort_254 : decode cX2_quickSort 254 = .ok (.iload_n 1, 1) := dk_27 (dk_at dksX2_quickSort_10 18 rfl rfl)
theorem dX2_quickSort_255 : decode cX2_quickSort 255 = .ok (.isub, 1) := dk_100 (dk_at dksX2_quickSort_10 19 rfl rfl)
theorem dX2_quickSort_256 : decode cX2_quickSort 256 = .ok (.iload 9, 2) := dk_21 9 (dk_at dksX2_quickSort_10 20 rfl rfl)
theorem dX2_quickSort_258 : decode cX2_quickSort 258 = .ok (.iload 8, 2) := dk_21 8 (dk_at dksX2_quickSort_10 22 rfl rfl)
theorem dX2_quickSort_260 : decode cX2_quickSort 260 = .ok (.isub, 1) := dk_100 (dk_at dksX2_quickSort_11 0 rfl rfl)
theorem dX2_quickSort_261 : decode cX2_quickSort 261 = .ok (.invokestatic 20, 3) := dk_184 0 20 (dk_at dksX2_quickSort_11 1 rfl rfl)
theorem dX2_quickSort_264 : decode cX2_quickSort 264 = .ok (.istore 12, 2) := dk_54 12 (dk_at dksX2_quickSort_11 4 rfl rfl)
theorem dX2_quickSort_266 : decode cX2_quickSort 266 = .ok (.aload_n 0, 1) := dk_42 (dk_at dksX2_quickSort_11 6 rfl rfl)
theorem dX2_quickSort_267 : decode cX2_quickSort 267 = .ok (.iload_n 1, 1) := dk_27 (dk_at dksX2_quickSort_11 7 rfl rfl)
theorem dX2_quickSort_268 : decode cX2_quickSort 268 = .ok (.iload 9, 2) := dk_21 9 (dk_at dksX2_quickSort_11 8 rfl rfl)
theorem dX2_quickSort_270 : decode cX2_quickSort 270 = .ok (.iload 12, 2) := dk_21 12 (dk_at dksX2_quickSort_11 10 rfl rfl)
theorem dX2_quickSort_272 : decode cX2_quickSort 272 = .ok (.isub, 1) := dk_100 (dk_at dksX2_quickSort_11 12 rfl rfl)
theorem dX2_quickSort_273 : decode cX2_quickSort 273 = .ok (.iload 12, 2) := dk_21 12 (dk_at dksX2_quickSort_11 13 rfl rfl)
theorem dX2_quickSort_275 : decode cX2_quickSort 275 = .ok (.invokestatic 26, 3) := dk_184 0 26 (dk_at dksX2_quickSort_11 15 rfl rfl)
theorem dX2_quickSort_278 : decode cX2_quickSort 278 = .ok (.iload 11, 2) := dk_21 11 (dk_at dksX2_quickSort_11 18 rfl rfl)
theorem dX2_quickSort_280 : decode cX2_quickSort 280 = .ok (.iload 10, 2) := dk_21 10 (dk_at dksX2_quickSort_11 20 rfl rfl)
theorem dX2_quickSort_282 : decode cX2_quickSort 282 = .ok (.isub, 1) := dk_100 (dk_at dksX2_quickSort_11 22 rfl rfl)
theorem dX2_quickSort_283 : decode cX2_quickSort 283 = .ok (.iload_n 2, 1) := dk_28 (dk_at dksX2_quickSort_11 23 rfl rfl)
theorem dX2_quickSort_284 : decode cX2_quickSort 284 = .ok (.iload 11, 2) := dk_21 11 (dk_at dksX2_quickSort_12 0 rfl rfl)
theorem dX2_quickSort_286 : decode cX2_quickSort 286 = .ok (.isub, 1) := dk_100 (dk_at dksX2_quickSort_12 2 rfl rfl)
theorem dX2_quickSort_287 : decode cX2_quickSort 287 = .ok (.iconst 1, 1) := dk_4 (dk_at dksX2_quickSort_12 3 rfl rfl)
theorem dX2_quickSort_288 : decode cX2_quickSort 288 = .ok (.isub, 1) := dk_100 (dk_at dksX2_quickSort_12 4 rfl rfl)
theorem dX2_quickSort_289 : decode cX2_quickSort 289 = .ok (.invokestatic 20, 3) := dk_184 0 20 (dk_at dksX2_quickSort_12 5 rfl rfl)
theorem dX2_quickSort_292 : decode cX2_quickSort 292 = .ok (.istore 12, 2) := dk_54 12 (dk_at dksX2_quickSort_12 8 rfl rfl)
theorem dX2_quickSort_294 : decode cX2_quickSort 294 = .ok (.aload_n 0, 1) := dk_42 (dk_at dksX2_quickSort_12 10 rfl rfl)
theorem dX2_quickSort_295 : decode cX2_quickSort 295 = .ok (.iload 9, 2) := dk_21 9 (dk_at dksX2_quickSort_12 11 rfl rfl)
theorem dX2_quickSort_297 : decode cX2_quickSort 297 = .ok (.iload_n 2, 1) := dk_28 (dk_at dksX2_quickSort_12 13 rfl rfl)
theorem dX2_quickSort_298 : decode cX2_quickSort 298 = .ok (.iload 12, 2) := dk_21 12 (dk_at dksX2_quickSort_12 14 rfl rfl)
theorem dX2_quickSort_300 : decode cX2_quickSort 300 = .ok (.isub, 1) := dk_100 (dk_at dksX2_quickSort_12 16 rfl rfl)
theorem dX2_quickSort_301 : decode cX2_quickSort 301 = .ok (.iload 12, 2) := dk_21 12 (dk_at dksX2_quickSort_12 17 rfl rfl)
theorem dX2_quickSort_303 : decode cX2_quickSort 303 = .ok (.invokestatic 26, 3) := dk_184 0 26 (dk_at dksX2_quickSort_12 19 rfl rfl)
theorem dX2_quickSort_306 : decode cX2_quickSort 306 = .ok (.iload 9, 2) := dk_21 9 (dk_at dksX2_quickSort_12 22 rfl rfl)
theorem dX2_quickSort_308 : decode cX2_quickSort 308 = .ok (.iload 8, 2) := dk_21 8 (dk_at dksX2_quickSort_13 0 rfl rfl)
theorem dX2_quickSort_310 : decode cX2_quickSort 310 = .ok (.isub, 1) := dk_100 (dk_at dksX2_quickSort_13 2 rfl rfl)
theorem dX2_quickSort_311 : decode cX2_quickSort 311 = .ok (.dup, 1) := dk_89 (dk_at dksX2_quickSort_13 3 rfl rfl)
theorem dX2_quickSort_312 : decode cX2_quickSort 312 = .ok (.istore 12, 2) := dk_54 12 (dk_at dksX2_quickSort_13 4 rfl rfl)
theorem dX2_quickSort_314 : decode cX2_quickSort 314 = .ok (.iconst 1, 1) := dk_4 (dk_at dksX2_quickSort_13 6 rfl rfl)
theorem dX2_quickSort_315 : decode cX2_quickSort 315 = .ok (.if_icmp .le 12, 3) := dk_164 0 12 (dk_at dksX2_quickSort_13 7 rfl rfl)
theorem dX2_quickSort_318 : decode cX2_quickSort 318 = .ok (.aload_n 0, 1) := dk_42 (dk_at dksX2_quickSort_13 10 rfl rfl)
theorem dX2_quickSort_319 : decode cX2_quickSort 319 = .ok (.iload_n 1, 1) := dk_27 (dk_at dksX2_quickSort_13 11 rfl rfl)
theorem dX2_quickSort_320 : decode cX2_quickSort 320 = .ok (.iload_n 1, 1) := dk_27 (dk_at dksX2_quickSort_13 12 rfl rfl)
theorem dX2_quickSort_321 : decode cX2_quickSort 321 = .ok (.iload 12, 2) := dk_21 12 (dk_at dksX2_quickSort_13 13 rfl rfl)
theorem dX2_quickSort_323 : decode cX2_quickSort 323 = .ok (.iadd, 1) := dk_96 (dk_at dksX2_quickSort_13 15 rfl rfl)
theorem dX2_quickSort_324 : decode cX2_quickSort 324 = .ok (.invokestatic 29, 3) := dk_184 0 29 (dk_at dksX2_quickSort_13 16 rfl rfl)
theorem dX2_quickSort_327 : decode cX2_quickSort 327 = .ok (.iload 11, 2) := dk_21 11 (dk_at dksX2_quickSort_13 19 rfl rfl)
theorem dX2_quickSort_329 : decode cX2_quickSort 329 = .ok (.iload 10, 2) := dk_21 10 (dk_at dksX2_quickSort_13 21 rfl rfl)
theorem dX2_quickSort_331 : decode cX2_quickSort 331 = .ok (.isub, 1) := dk_100 (dk_at dksX2_quickSort_13 23 rfl rfl)
theorem dX2_quickSort_332 : decode cX2_quickSort 332 = .ok (.dup, 1) := dk_89 (dk_at dksX2_quickSort_14 0 rfl rfl)
theorem dX2_quickSort_333 : decode cX2_quickSort 333 = .ok (.istore 12, 2) := dk_54 12 (dk_at dksX2_quickSort_14 1 rfl rfl)
theorem dX2_quickSort_335 : decode cX2_quickSort 335 = .ok (.iconst 1, 1) := dk_4 (dk_at dksX2_quickSort_14 3 rfl rfl)
theorem dX2_quickSort_336 : decode cX2_quickSort 336 = .ok (.if_icmp .le 12, 3) := dk_164 0 12 (dk_at dksX2_quickSort_14 4 rfl rfl)
theorem dX2_quickSort_339 : decode cX2_quickSort 339 = .ok (.aload_n 0, 1) := dk_42 (dk_at dksX2_quickSort_14 7 rfl rfl)
theorem dX2_quickSort_340 : decode cX2_quickSort 340 = .ok (.iload_n 2, 1) := dk_28 (dk_at dksX2_quickSort_14 8 rfl rfl)
theorem dX2_quickSort_341 : decode cX2_quickSort 341 = .ok (.iload 12, 2) := dk_21 12 (dk_at dksX2_quickSort_14 9 rfl rfl)
theorem dX2_quickSort_343 : decode cX2_quickSort 343 = .ok (.isub, 1) := dk_100 (dk_at dksX2_quickSort_14 11 rfl rfl)
theorem dX2_quickSort_344 : decode cX2_quickSort 344 = .ok (.iload_n 2, 1) := dk_28 (dk_at dksX2_quickSort_14 12 rfl rfl)
theorem dX2_quickSort_345 : decode cX2_quickSort 345 = .ok (.invokestatic 29, 3) := dk_184 0 29 (dk_at dksX2_quickSort_14 13 rfl rfl)
theorem dX2_quickSort_348 : decode cX2_quickSort 348 = .ok (.return_, 1) := dk_177 (dk_at dksX2_quickSort_14 16 rfl rfl)
abbrev cX2_selectionSort : ByteArray := prog_1_method_4_code
def yX2_selectionSort : MethodName := ⟨RX2, "selectionSort", "([SII)V"⟩
def dkwX2_selectionSort_3 : List UInt8 := [167, 255, 187, 177]
abbrev dktX2_selectionSort_3 : List UInt8 := dkwX2_selectionSort_3 ++ []
def dkwX2_selectionSort_2 : List UInt8 := [159, 0, 21, 42, 29, 53, 54, 5, 42, 29, 42, 21, 4, 53, 86, 42, 21, 4, 21, 5, 86, 132, 3, 1]
abbrev dktX2_selectionSort_2 : List UInt8 := dkwX2_selectionSort_2 ++ dktX2_selectionSort_3
def dkwX2_selectionSort_1 : List UInt8 := [21, 5, 53, 42, 21, 4, 53, 162, 0, 7, 21, 5, 54, 4, 132, 5, 1, 167, 255, 232, 21, 4, 29]
abbrev dktX2_selectionSort_1 : List UInt8 := dkwX2_selectionSort_1 ++ dktX2_selectionSort_2
def dkwX2_selectionSort_0 : List UInt8 := [27, 62, 29, 28, 4, 100, 162, 0, 68, 29, 54, 4, 29, 4, 96, 54, 5, 21, 5, 28, 162, 0, 24, 42]
abbrev dktX2_selectionSort_0 : List UInt8 := dkwX2_selectionSort_0 ++ dktX2_selectionSort_1
theorem dksX2_selectionSort_0 : cX2_selectionSort.data.toList.drop 0 = dktX2_selectionSort_0 := by decide +kernel
theorem dksX2_selectionSort_1 : cX2_selectionSort.data.toList.drop 24 = dktX2_selectionSort_1 := dk_seg dksX2_selectionSort_0 24 rfl rfl
theorem dksX2_selectionSort_2 : cX2_selectionSort.data.toList.drop 47 = dktX2_selectionSort_2 := dk_seg dksX2_selectionSort_1 23 rfl rfl
theorem dksX2_selectionSort_3 : cX2_selectionSort.data.toList.drop 71 = dktX2_selectionSort_3 := dk_seg dksX2_selectionSort_2 24 rfl rfl
theorem dX2_selectionSort_0 : decode cX2_selectionSort 0 = .ok (.iload_n 1, 1) := dk_27 (dk_at dksX2_selectionSort_0 0 rfl rfl)
theorem dX2_selectionSort_1 : decode cX2_selectionSort 1 = .ok (.istore_n 3, 1) := dk_62 (dk_at dksX2_selectionSort_0 1 rfl rfl)
theorem dX2_selectionSort_2 : decode cX2_selectionSort 2 = .ok (.iload_n 3, 1) := dk_29 (dk_at dksX2_selectionSort_0 2 rfl rfl)
theorem dX2_selectionSort_3 : decode cX2_selectionSort 3 = .ok (.iload_n 2, 1) := dk_28 (dk_at dksX2_selectionSort_0 3 rfl rfl)
theorem dX2_selectionSort_4 : decode cX2_selectionSort 4 = .ok (.iconst 1, 1) := dk_4 (dk_at dksX2_selectionSort_0 4 rfl rfl)
theorem dX2_selectionSort_5 : decode cX2_selectionSort 5 = .ok (.isub, 1) := dk_100 (dk_at dksX2_selectionSort_0 5 rfl rfl)
theorem dX2_selectionSort_6 : decode cX2_selectionSort 6 = .ok (.if_icmp .ge 68, 3) := dk_162 0 68 (dk_at dksX2_selectionSort_0 6 rfl rfl)
theorem dX2_selectionSort_9 : decode cX2_selectionSort 9 = .ok (.iload_n 3, 1) := dk_29 (dk_at dksX2_selectionSort_0 9 rfl rfl)
theorem dX2_selectionSort_10 : decode cX2_selectionSort 10 = .ok (.istore 4, 2) := dk_54 4 (dk_at dksX2_selectionSort_0 10 rfl rfl)
theorem dX2_selectionSort_12 : decode cX2_selectionSort 12 = .ok (.iload_n 3, 1) := dk_29 (dk_at dksX2_selectionSort_0 12 rfl rfl)
theorem dX2_selectionSort_13 : decode cX2_selectionSort 13 = .ok (.iconst 1, 1) := dk_4 (dk_at dksX2_selectionSort_0 13 rfl rfl)
theorem dX2_selectionSort_14 : decode cX2_selectionSort 14 = .ok (.iadd, 1) := dk_96 (dk_at dksX2_selectionSort_0 14 rfl rfl)
theorem dX2_selectionSort_15 : decode cX2_selectionSort 15 = .ok (.istore 5, 2) := dk_54 5 (dk_at dksX2_selectionSort_0 15 rfl rfl)
theorem dX2_selectionSort_17 : decode cX2_selectionSort 17 = .ok (.iload 5, 2) := dk_21 5 (dk_at dksX2_selectionSort_0 17 rfl rfl)
theorem dX2_selectionSort_19 : decode cX2_selectionSort 19 = .ok (.iload_n 2, 1) := dk_28 (dk_at dksX2_selectionSort_0 19 rfl rfl)
theorem dX2_selectionSort_20 : decode cX2_selectionSort 20 = .ok (.if_icmp .ge 24, 3) := dk_162 0 24 (dk_at dksX2_selectionSort_0 20 rfl rfl)
theorem dX2_selectionSort_23 : decode cX2_selectionSort 23 = .ok (.aload_n 0, 1) := dk_42 (dk_at dksX2_selectionSort_0 23 rfl rfl)
theorem dX2_selectionSort_24 : decode cX2_selectionSort 24 = .ok (.iload 5, 2) := dk_21 5 (dk_at dksX2_selectionSort_1 0 rfl rfl)
theorem dX2_selectionSort_26 : decode cX2_selectionSort 26 = .ok (.saload, 1) := dk_53 (dk_at dksX2_selectionSort_1 2 rfl rfl)
theorem dX2_selectionSort_27 : decode cX2_selectionSort 27 = .ok (.aload_n 0, 1) := dk_42 (dk_at dksX2_selectionSort_1 3 rfl rfl)
theorem dX2_selectionSort_28 : decode cX2_selectionSort 28 = .ok (.iload 4, 2) := dk_21 4 (dk_at dksX2_selectionSort_1 4 rfl rfl)
theorem dX2_selectionSort_30 : decode cX2_selectionSort 30 = .ok (.saload, 1) := dk_53 (dk_at dksX2_selectionSort_1 6 rfl rfl)
theorem dX2_selectionSort_31 : decode cX2_selectionSort 31 = .ok (.if_icmp .ge 7, 3) := dk_162 0 7 (dk_at dksX2_selectionSort_1 7 rfl rfl)
theorem dX2_selectionSort_34 : decode cX2_selectionSort 34 = .ok (.iload 5, 2) := dk_21 5 (dk_at dksX2_selectionSort_1 10 rfl rfl)
theorem dX2_selectionSort_36 : decode cX2_selectionSort 36 = .ok (.istore 4, 2) := dk_54 4 (dk_at dksX2_selectionSort_1 12 rfl rfl)
theorem dX2_selectionSort_38 : decode cX2_selectionSort 38 = .ok (.iinc 5 1, 3) := dk_132 5 1 (dk_at dksX2_selectionSort_1 14 rfl rfl)
theorem dX2_selectionSort_41 : decode cX2_selectionSort 41 = .ok (.goto (-24), 3) := dk_167 255 232 (dk_at dksX2_selectionSort_1 17 rfl rfl)
theorem dX2_selectionSort_44 : decode cX2_selectionSort 44 = .ok (.iload 4, 2) := dk_21 4 (dk_at dksX2_selectionSort_1 20 rfl rfl)
theorem dX2_selectionSort_46 : decode cX2_selectionSort 46 = .ok (.iload_n 3, 1) := dk_29 (dk_at dksX2_selectionSort_1 22 rfl rfl)
theorem dX2_selectionSort_47 : decode cX2_selectionSort 47 = .ok (.if_icmp .eq 21, 3) := dk_159 0 21 (dk_at dksX2_selectionSort_2 0 rfl rfl)
theorem dX2_selectionSort_50 : decode cX2_selectionSort 50 = .ok (.aload_n 0, 1) := dk_42 (dk_at dksX2_selectionSort_2 3 rfl rfl)
theorem dX2_selectionSort_51 : decode cX2_selectionSort 51 = .ok (.iload_n 3, 1) := dk_29 (dk_at dksX2_selectionSort_2 4 rfl rfl)
theorem dX2_selectionSort_52 : decode cX2_selectionSort 52 = .ok (.saload, 1) := dk_53 (dk_at dksX2_selectionSort_2 5 rfl rfl)
theorem dX2_selectionSort_53 : decode cX2_selectionSort 53 = .ok (.istore 5, 2) := dk_54 5 (dk_at dksX2_selectionSort_2 6 rfl rfl)
theorem dX2_selectionSort_55 : decode cX2_selectionSort 55 = .ok (.aload_n 0, 1) := dk_42 (dk_at dksX2_selectionSort_2 8 rfl rfl)
theorem dX2_selectionSort_56 : decode cX2_selectionSort 56 = .ok (.iload_n 3, 1) := dk_29 (dk_at dksX2_selectionSort_2 9 rfl rfl)
theorem dX2_selectionSort_57 : decode cX2_selectionSort 57 = .ok (.aload_n 0, 1) := dk_42 (dk_at dksX2_selectionSort_2 10 rfl rfl)
theorem dX2_selectionSort_58 : decode cX2_selectionSort 58 = .ok (.iload 4, 2) := dk_21 4 (dk_at dksX2_selectionSort_2 11 rfl rfl)
theorem dX2_selectionSort_60 : decode cX2_selectionSort 60 = .ok (.saload, 1) := dk_53 (dk_at dksX2_selectionSort_2 13 rfl rfl)
theorem dX2_selectionSort_61 : decode cX2_selectionSort 61 = .ok (.sastore, 1) := dk_86 (dk_at dksX2_selectionSort_2 14 rfl rfl)
theorem dX2_selectionSort_62 : decode cX2_selectionSort 62 = .ok (.aload_n 0, 1) := dk_42 (dk_at dksX2_selectionSort_2 15 rfl rfl)
theorem dX2_selectionSort_63 : decode cX2_selectionSort 63 = .ok (.iload 4, 2) := dk_21 4 (dk_at dksX2_selectionSort_2 16 rfl rfl)
theorem dX2_selectionSort_65 : decode cX2_selectionSort 65 = .ok (.iload 5, 2) := dk_21 5 (dk_at dksX2_selectionSort_2 18 rfl rfl)
theorem dX2_selectionSort_67 : decode cX2_selectionSort 67 = .ok (.sastore, 1) := dk_86 (dk_at dksX2_selectionSort_2 20 rfl rfl)
theorem dX2_selectionSort_68 : decode cX2_selectionSort 68 = .ok (.iinc 3 1, 3) := dk_132 3 1 (dk_at dksX2_selectionSort_2 21 rfl rfl)
theorem dX2_selectionSort_71 : decode cX2_selectionSort 71 = .ok (.goto (-69), 3) := dk_167 255 187 (dk_at dksX2_selectionSort_3 0 rfl rfl)
theorem dX2_selectionSort_74 : decode cX2_selectionSort 74 = .ok (.return_, 1) := dk_177 (dk_at dksX2_selectionSort_3 3 rfl rfl)
abbrev cX2_med3 : ByteArray := prog_1_method_3_code
def yX2_med3 : MethodName := ⟨RX2, "med3", "([SIII)I"⟩
def dkwX2_med3_3 : List UInt8 := [158, 0, 7, 29, 167, 0, 4, 27, 172]
abbrev dktX2_med3_3 : List UInt8 := dkwX2_med3_3 ++ []
def dkwX2_med3_2 : List UInt8 := [21, 5, 156, 0, 7, 29, 167, 0, 26, 27, 167, 0, 22, 21, 6, 158, 0, 7, 28, 167, 0, 13, 21, 5]
abbrev dktX2_med3_2 : List UInt8 := dkwX2_med3_2 ++ dktX2_med3_3
def dkwX2_med3_1 : List UInt8 := [53, 42, 29, 53, 184, 0, 9, 54, 6, 21, 4, 156, 0, 25, 21, 6, 156, 0, 7, 28, 167, 0, 35]
abbrev dktX2_med3_1 : List UInt8 := dkwX2_med3_1 ++ dktX2_med3_2
def dkwX2_med3_0 : List UInt8 := [42, 27, 53, 42, 28, 53, 184, 0, 9, 54, 4, 42, 27, 53, 42, 29, 53, 184, 0, 9, 54, 5, 42, 28]
abbrev dktX2_med3_0 : List UInt8 := dkwX2_med3_0 ++ dktX2_med3_1
theorem dksX2_med3_0 : cX2_med3.data.toList.drop 0 = dktX2_med3_0 := by decide +kernel
theorem dksX2_med3_1 : cX2_med3.data.toList.drop 24 = dktX2_med3_1 := dk_seg dksX2_med3_0 24 rfl rfl
theorem dksX2_med3_2 : cX2_med3.data.toList.drop 47 = dktX2_med3_2 := dk_seg dksX2_med3_1 23 rfl rfl
theorem dksX2_med3_3 : cX2_med3.data.toList.drop 71 = dktX2_med3_3 := dk_seg dksX2_med3_2 24 rfl rfl
theorem dX2_med3_0 : decode cX2_med3 0 = .ok (.aload_n 0, 1) := dk_42 (dk_at dksX2_med3_0 0 rfl rfl)
theorem dX2_med3_1 : decode cX2_med3 1 = .ok (.iload_n 1, 1) := dk_27 (dk_at dksX2_med3_0 1 rfl rfl)
theorem dX2_med3_2 : decode cX2_med3 2 = .ok (.saload, 1) := dk_53 (dk_at dksX2_med3_0 2 rfl rfl)
theorem dX2_med3_3 : decode cX2_med3 3 = .ok (.aload_n 0, 1) := dk_42 (dk_at dksX2_med3_0 3 rfl rfl)
theorem dX2_med3_4 : decode cX2_med3 4 = .ok (.iload_n 2, 1) := dk_28 (dk_at dksX2_med3_0 4 rfl rfl)
theorem dX2_med3_5 : decode cX2_med3 5 = .ok (.saload, 1) := dk_53 (dk_at dksX2_med3_0 5 rfl rfl)
theorem dX2_med3_6 : decode cX2_med3 6 = .ok (.invokestatic 9, 3) := dk_184 0 9 (dk_at dksX2_med3_0 6 rfl rfl)
theorem dX2_med3_9 : decode cX2_med3 9 = .ok (.istore 4, 2) := dk_54 4 (dk_at dksX2_med3_0 9 rfl rfl)
theorem dX2_med3_11 : decode cX2_med3 11 = .ok (.aload_n 0, 1) := dk_42 (dk_at dksX2_med3_0 11 rfl rfl)
theorem dX2_med3_12 : decode cX2_med3 12 = .ok (.iload_n 1, 1) := dk_27 (dk_at dksX2_med3_0 12 rfl rfl)
theorem dX2_med3_13 : decode cX2_med3 13 = .ok (.saload, 1) := dk_53 (dk_at dksX2_med3_0 13 rfl rfl)
theorem dX2_med3_14 : decode cX2_med3 14 = .ok (.aload_n 0, 1) := dk_42 (dk_at dksX2_med3_0 14 rfl rfl)
theorem dX2_med3_15 : decode cX2_med3 15 = .ok (.iload_n 3, 1) := dk_29 (dk_at dksX2_med3_0 15 rfl rfl)
theorem dX2_med3_16 : decode cX2_med3 16 = .ok (.saload, 1) := dk_53 (dk_at dksX2_med3_0 16 rfl rfl)
theorem dX2_med3_17 : decode cX2_med3 17 = .ok (.invokestatic 9, 3) := dk_184 0 9 (dk_at dksX2_med3_0 17 rfl rfl)
theorem dX2_med3_20 : decode cX2_med3 20 = .ok (.istore 5, 2) := dk_54 5 (dk_at dksX2_med3_0 20 rfl rfl)
theorem dX2_med3_22 : decode cX2_med3 22 = .ok (.aload_n 0, 1) := dk_42 (dk_at dksX2_med3_0 22 rfl rfl)
theorem dX2_med3_23 : decode cX2_med3 23 = .ok (.iload_n 2, 1) := dk_28 (dk_at dksX2_med3_0 23 rfl rfl)
theorem dX2_med3_24 : decode cX2_med3 24 = .ok (.saload, 1) := dk_53 (dk_at dksX2_med3_1 0 rfl rfl)
theorem dX2_med3_25 : decode cX2_med3 25 = .ok (.aload_n 0, 1) := dk_42 (dk_at dksX2_med3_1 1 rfl rfl)
theorem dX2_med3_26 : decode cX2_med3 26 = .ok (.iload_n 3, 1) := dk_29 (dk_at dksX2_med3_1 2 rfl rfl)
theorem dX2_med3_27 : decode cX2_med3 27 = .ok (.saload, 1) := dk_53 (dk_at dksX2_med3_1 3 rfl rfl)
theorem dX2_med3_28 : decode cX2_med3 28 = .ok (.invokestatic 9, 3) := dk_184 0 9 (dk_at dksX2_med3_1 4 rfl rfl)
theorem dX2_med3_31 : decode cX2_med3 31 = .ok (.istore 6, 2) := dk_54 6 (dk_at dksX2_med3_1 7 rfl rfl)
theorem dX2_med3_33 : decode cX2_med3 33 = .ok (.iload 4, 2) := dk_21 4 (dk_at dksX2_med3_1 9 rfl rfl)
theorem dX2_med3_35 : decode cX2_med3 35 = .ok (.ifCond .ge 25, 3) := dk_156 0 25 (dk_at dksX2_med3_1 11 rfl rfl)
theorem dX2_med3_38 : decode cX2_med3 38 = .ok (.iload 6, 2) := dk_21 6 (dk_at dksX2_med3_1 14 rfl rfl)
theorem dX2_med3_40 : decode cX2_med3 40 = .ok (.ifCond .ge 7, 3) := dk_156 0 7 (dk_at dksX2_med3_1 16 rfl rfl)
theorem dX2_med3_43 : decode cX2_med3 43 = .ok (.iload_n 2, 1) := dk_28 (dk_at dksX2_med3_1 19 rfl rfl)
theorem dX2_med3_44 : decode cX2_med3 44 = .ok (.goto 35, 3) := dk_167 0 35 (dk_at dksX2_med3_1 20 rfl rfl)
theorem dX2_med3_47 : decode cX2_med3 47 = .ok (.iload 5, 2) := dk_21 5 (dk_at dksX2_med3_2 0 rfl rfl)
theorem dX2_med3_49 : decode cX2_med3 49 = .ok (.ifCond .ge 7, 3) := dk_156 0 7 (dk_at dksX2_med3_2 2 rfl rfl)
theorem dX2_med3_52 : decode cX2_med3 52 = .ok (.iload_n 3, 1) := dk_29 (dk_at dksX2_med3_2 5 rfl rfl)
theorem dX2_med3_53 : decode cX2_med3 53 = .ok (.goto 26, 3) := dk_167 0 26 (dk_at dksX2_med3_2 6 rfl rfl)
theorem dX2_med3_56 : decode cX2_med3 56 = .ok (.iload_n 1, 1) := dk_27 (dk_at dksX2_med3_2 9 rfl rfl)
theorem dX2_med3_57 : decode cX2_med3 57 = .ok (.goto 22, 3) := dk_167 0 22 (dk_at dksX2_med3_2 10 rfl rfl)
theorem dX2_med3_60 : decode cX2_med3 60 = .ok (.iload 6, 2) := dk_21 6 (dk_at dksX2_med3_2 13 rfl rfl)
theorem dX2_med3_62 : decode cX2_med3 62 = .ok (.ifCond .le 7, 3) := dk_158 0 7 (dk_at dksX2_med3_2 15 rfl rfl)
theorem dX2_med3_65 : decode cX2_med3 65 = .ok (.iload_n 2, 1) := dk_28 (dk_at dksX2_med3_2 18 rfl rfl)
theorem dX2_med3_66 : decode cX2_med3 66 = .ok (.goto 13, 3) := dk_167 0 13 (dk_at dksX2_med3_2 19 rfl rfl)
theorem dX2_med3_69 : decode cX2_med3 69 = .ok (.iload 5, 2) := dk_21 5 (dk_at dksX2_med3_2 22 rfl rfl)
theorem dX2_med3_71 : decode cX2_med3 71 = .ok (.ifCond .le 7, 3) := dk_158 0 7 (dk_at dksX2_med3_3 0 rfl rfl)
theorem dX2_med3_74 : decode cX2_med3 74 = .ok (.iload_n 3, 1) := dk_29 (dk_at dksX2_med3_3 3 rfl rfl)
theorem dX2_med3_75 : decode cX2_med3 75 = .ok (.goto 4, 3) := dk_167 0 4 (dk_at dksX2_med3_3 4 rfl rfl)
theorem dX2_med3_78 : decode cX2_med3 78 = .ok (.iload_n 1, 1) := dk_27 (dk_at dksX2_med3_3 7 rfl rfl)
theorem dX2_med3_79 : decode cX2_med3 79 = .ok (.ireturn, 1) := dk_172 (dk_at dksX2_med3_3 8 rfl rfl)
abbrev cX2_swap : ByteArray := prog_1_method_1_code
def yX2_swap : MethodName := ⟨RX2, "swap", "([SII)V"⟩
def dkwX2_swap_0 : List UInt8 := [42, 27, 53, 62, 42, 27, 42, 28, 53, 86, 42, 28, 29, 86, 177]
abbrev dktX2_swap_0 : List UInt8 := dkwX2_swap_0 ++ []
theorem dksX2_swap_0 : cX2_swap.data.toList.drop 0 = dktX2_swap_0 := by decide +kernel
theorem dX2_swap_0 : decode cX2_swap 0 = .ok (.aload_n 0, 1) := dk_42 (dk_at dksX2_swap_0 0 rfl rfl)
theorem dX2_swap_1 : decode cX2_swap 1 = .ok (.iload_n 1, 1) := dk_27 (dk_at dksX2_swap_0 1 rfl rfl)
theorem dX2_swap_2 : decode cX2_swap 2 = .ok (.saload, 1) := dk_53 (dk_at dksX2_swap_0 2 rfl rfl)
theorem dX2_swap_3 : decode cX2_swap 3 = .ok (.istore_n 3, 1) := dk_62 (dk_at dksX2_swap_0 3 rfl rfl)
theorem dX2_swap_4 : decode cX2_swap 4 = .ok (.aload_n 0, 1) := dk_42 (dk_at dksX2_swap_0 4 rfl rfl)
theorem dX2_swap_5 : decode cX2_swap 5 = .ok (.iload_n 1, 1) := dk_27 (dk_at dksX2_swap_0 5 rfl rfl)
theorem dX2_swap_6 : decode cX2_swap 6 = .ok (.aload_n 0, 1) := dk_42 (dk_at dksX2_swap_0 6 rfl rfl)
theorem dX2_swap_7 : decode cX2_swap 7 = .ok (.iload_n 2, 1) := dk_28 (dk_at dksX2_swap_0 7 rfl rfl)
theorem dX2_swap_8 : decode cX2_swap 8 = .ok (.saload, 1) := dk_53 (dk_at dksX2_swap_0 8 rfl rfl)
theorem dX2_swap_9 : decode cX2_swap 9 = .ok (.sastore, 1) := dk_86 (dk_at dksX2_swap_0 9 rfl rfl)
theorem dX2_swap_10 : decode cX2_swap 10 = .ok (.aload_n 0, 1) := dk_42 (dk_at dksX2_swap_0 10 rfl rfl)
theorem dX2_swap_11 : decode cX2_swap 11 = .ok (.iload_n 2, 1) := dk_28 (dk_at dksX2_swap_0 11 rfl rfl)
theorem dX2_swap_12 : decode cX2_swap 12 = .ok (.iload_n 3, 1) := dk_29 (dk_at dksX2_swap_0 12 rfl rfl)
theorem dX2_swap_13 : decode cX2_swap 13 = .ok (.sastore, 1) := dk_86 (dk_at dksX2_swap_0 13 rfl rfl)
theorem dX2_swap_14 : decode cX2_swap 14 = .ok (.return_, 1) := dk_177 (dk_at dksX2_swap_0 14 rfl rfl)
abbrev cX2_swap_2 : ByteArray := prog_1_method_2_code
def yX2_swap_2 : MethodName := ⟨RX2, "swap", "([SIII)V"⟩
def dkwX2_swap_2_1 : List UInt8 := [167, 255, 235, 177]
abbrev dktX2_swap_2_1 : List UInt8 := dkwX2_swap_2_1 ++ []
def dkwX2_swap_2_0 : List UInt8 := [3, 54, 4, 21, 4, 29, 162, 0, 21, 42, 27, 28, 184, 0, 5, 132, 4, 1, 132, 1, 1, 132, 2, 1]
abbrev dktX2_swap_2_0 : List UInt8 := dkwX2_swap_2_0 ++ dktX2_swap_2_1
theorem dksX2_swap_2_0 : cX2_swap_2.data.toList.drop 0 = dktX2_swap_2_0 := by decide +kernel
theorem dksX2_swap_2_1 : cX2_swap_2.data.toList.drop 24 = dktX2_swap_2_1 := dk_seg dksX2_swap_2_0 24 rfl rfl
theorem dX2_swap_2_0 : decode cX2_swap_2 0 = .ok (.iconst 0, 1) := dk_3 (dk_at dksX2_swap_2_0 0 rfl rfl)
theorem dX2_swap_2_1 : decode cX2_swap_2 1 = .ok (.istore 4, 2) := dk_54 4 (dk_at dksX2_swap_2_0 1 rfl rfl)
theorem dX2_swap_2_3 : decode cX2_swap_2 3 = .ok (.iload 4, 2) := dk_21 4 (dk_at dksX2_swap_2_0 3 rfl rfl)
theorem dX2_swap_2_5 : decode cX2_swap_2 5 = .ok (.iload_n 3, 1) := dk_29 (dk_at dksX2_swap_2_0 5 rfl rfl)
theorem dX2_swap_2_6 : decode cX2_swap_2 6 = .ok (.if_icmp .ge 21, 3) := dk_162 0 21 (dk_at dksX2_swap_2_0 6 rfl rfl)
theorem dX2_swap_2_9 : decode cX2_swap_2 9 = .ok (.aload_n 0, 1) := dk_42 (dk_at dksX2_swap_2_0 9 rfl rfl)
theorem dX2_swap_2_10 : decode cX2_swap_2 10 = .ok (.iload_n 1, 1) := dk_27 (dk_at dksX2_swap_2_0 10 rfl rfl)
theorem dX2_swap_2_11 : decode cX2_swap_2 11 = .ok (.iload_n 2, 1) := dk_28 (dk_at dksX2_swap_2_0 11 rfl rfl)
theorem dX2_swap_2_12 : decode cX2_swap_2 12 = .ok (.invokestatic 5, 3) := dk_184 0 5 (dk_at dksX2_swap_2_0 12 rfl rfl)
theorem dX2_swap_2_15 : decode cX2_swap_2 15 = .ok (.iinc 4 1, 3) := dk_132 4 1 (dk_at dksX2_swap_2_0 15 rfl rfl)
theorem dX2_swap_2_18 : decode cX2_swap_2 18 = .ok (.iinc 1 1, 3) := dk_132 1 1 (dk_at dksX2_swap_2_0 18 rfl rfl)
theorem dX2_swap_2_21 : decode cX2_swap_2 21 = .ok (.iinc 2 1, 3) := dk_132 2 1 (dk_at dksX2_swap_2_0 21 rfl rfl)
theorem dX2_swap_2_24 : decode cX2_swap_2 24 = .ok (.goto (-21), 3) := dk_167 255 235 (dk_at dksX2_swap_2_1 0 rfl rfl)
theorem dX2_swap_2_27 : decode cX2_swap_2 27 = .ok (.return_, 1) := dk_177 (dk_at dksX2_swap_2_1 3 rfl rfl)
abbrev cX2_mergeSort : ByteArray := prog_1_method_8_code
def yX2_mergeSort : MethodName := ⟨RX2, "mergeSort", "([SII)V"⟩
def dkwX2_mergeSort_0 : List UInt8 := [42, 27, 28, 1, 192, 0, 51, 184, 0, 41, 177]
abbrev dktX2_mergeSort_0 : List UInt8 := dkwX2_mergeSort_0 ++ []
theorem dksX2_mergeSort_0 : cX2_mergeSort.data.toList.drop 0 = dktX2_mergeSort_0 := by decide +kernel
theorem dX2_mergeSort_0 : decode cX2_mergeSort 0 = .ok (.aload_n 0, 1) := dk_42 (dk_at dksX2_mergeSort_0 0 rfl rfl)
theorem dX2_mergeSort_1 : decode cX2_mergeSort 1 = .ok (.iload_n 1, 1) := dk_27 (dk_at dksX2_mergeSort_0 1 rfl rfl)
theorem dX2_mergeSort_2 : decode cX2_mergeSort 2 = .ok (.iload_n 2, 1) := dk_28 (dk_at dksX2_mergeSort_0 2 rfl rfl)
theorem dX2_mergeSort_3 : decode cX2_mergeSort 3 = .ok (.aconst_null, 1) := dk_1 (dk_at dksX2_mergeSort_0 3 rfl rfl)
theorem dX2_mergeSort_4 : decode cX2_mergeSort 4 = .ok (.checkcast 51, 3) := dk_192 0 51 (dk_at dksX2_mergeSort_0 4 rfl rfl)
theorem dX2_mergeSort_7 : decode cX2_mergeSort 7 = .ok (.invokestatic 41, 3) := dk_184 0 41 (dk_at dksX2_mergeSort_0 7 rfl rfl)
theorem dX2_mergeSort_10 : decode cX2_mergeSort 10 = .ok (.return_, 1) := dk_177 (dk_at dksX2_mergeSort_0 10 rfl rfl)
abbrev cX2_mergeSort_2 : ByteArray := prog_1_method_7_code
def yX2_mergeSort_2 : MethodName := ⟨RX2, "mergeSort", "([SII[S)V"⟩
def dkwX2_mergeSort_2_6 : List UInt8 := [132, 6, 1, 167, 255, 198, 177]
abbrev dktX2_mergeSort_2_6 : List UInt8 := dkwX2_mergeSort_2_6 ++ []
def dkwX2_mergeSort_2_5 : List UInt8 := [45, 21, 7, 132, 7, 1, 53, 86, 167, 0, 14, 42, 21, 6, 45, 21, 8, 132, 8, 1, 53, 86]
abbrev dktX2_mergeSort_2_5 : List UInt8 := dkwX2_mergeSort_2_5 ++ dktX2_mergeSort_2_6
def dkwX2_mergeSort_2_4 : List UInt8 := [162, 0, 21, 21, 7, 21, 5, 162, 0, 28, 45, 21, 7, 53, 45, 21, 8, 53, 163, 0, 17, 42, 21, 6]
abbrev dktX2_mergeSort_2_4 : List UInt8 := dkwX2_mergeSort_2_4 ++ dktX2_mergeSort_2_5
def dkwX2_mergeSort_2_3 : List UInt8 := [184, 0, 45, 177, 27, 54, 6, 27, 54, 7, 21, 5, 54, 8, 21, 6, 28, 162, 0, 58, 21, 8, 28]
abbrev dktX2_mergeSort_2_3 : List UInt8 := dkwX2_mergeSort_2_3 ++ dktX2_mergeSort_2_4
def dkwX2_mergeSort_2_2 : List UInt8 := [42, 184, 0, 41, 45, 21, 5, 4, 100, 53, 45, 21, 5, 53, 163, 0, 13, 45, 27, 42, 27, 21, 4]
abbrev dktX2_mergeSort_2_2 : List UInt8 := dkwX2_mergeSort_2_2 ++ dktX2_mergeSort_2_3
def dkwX2_mergeSort_2_1 : List UInt8 := [28, 184, 0, 35, 78, 27, 28, 96, 4, 124, 54, 5, 45, 27, 21, 5, 42, 184, 0, 41, 45, 21, 5, 28]
abbrev dktX2_mergeSort_2_1 : List UInt8 := dkwX2_mergeSort_2_1 ++ dktX2_mergeSort_2_2
def dkwX2_mergeSort_2_0 : List UInt8 := [28, 27, 100, 54, 4, 21, 4, 16, 16, 162, 0, 10, 42, 27, 28, 184, 0, 32, 177, 45, 199, 0, 9, 42]
abbrev dktX2_mergeSort_2_0 : List UInt8 := dkwX2_mergeSort_2_0 ++ dktX2_mergeSort_2_1
theorem dksX2_mergeSort_2_0 : cX2_mergeSort_2.data.toList.drop 0 = dktX2_mergeSort_2_0 := by decide +kernel
theorem dksX2_mergeSort_2_1 : cX2_mergeSort_2.data.toList.drop 24 = dktX2_mergeSort_2_1 := dk_seg dksX2_mergeSort_2_0 24 rfl rfl
theorem dksX2_mergeSort_2_2 : cX2_mergeSort_2.data.toList.drop 48 = dktX2_mergeSort_2_2 := dk_seg dksX2_mergeSort_2_1 24 rfl rfl
theorem dksX2_mergeSort_2_3 : cX2_mergeSort_2.data.toList.drop 71 = dktX2_mergeSort_2_3 := dk_seg dksX2_mergeSort_2_2 23 rfl rfl
theorem dksX2_mergeSort_2_4 : cX2_mergeSort_2.data.toList.drop 94 = dktX2_mergeSort_2_4 := dk_seg dksX2_mergeSort_2_3 23 rfl rfl
theorem dksX2_mergeSort_2_5 : cX2_mergeSort_2.data.toList.drop 118 = dktX2_mergeSort_2_5 := dk_seg dksX2_mergeSort_2_4 24 rfl rfl
theorem dksX2_mergeSort_2_6 : cX2_mergeSort_2.data.toList.drop 140 = dktX2_mergeSort_2_6 := dk_seg dksX2_mergeSort_2_5 22 rfl rfl
theorem dX2_mergeSort_2_0 : decode cX2_mergeSort_2 0 = .ok (.iload_n 2, 1) := dk_28 (dk_at dksX2_mergeSort_2_0 0 rfl rfl)
theorem dX2_mergeSort_2_1 : decode cX2_mergeSort_2 1 = .ok (.iload_n 1, 1) := dk_27 (dk_at dksX2_mergeSort_2_0 1 rfl rfl)
theorem dX2_mergeSort_2_2 : decode cX2_mergeSort_2 2 = .ok (.isub, 1) := dk_100 (dk_at dksX2_mergeSort_2_0 2 rfl rfl)
theorem dX2_mergeSort_2_3 : decode cX2_mergeSort_2 3 = .ok (.istore 4, 2) := dk_54 4 (dk_at dksX2_mergeSort_2_0 3 rfl rfl)
theorem dX2_mergeSort_2_5 : decode cX2_mergeSort_2 5 = .ok (.iload 4, 2) := dk_21 4 (dk_at dksX2_mergeSort_2_0 5 rfl rfl)
theorem dX2_mergeSort_2_7 : decode cX2_mergeSort_2 7 = .ok (.bipush 16, 2) := dk_16 16 (dk_at dksX2_mergeSort_2_0 7 rfl rfl)
theorem dX2_mergeSort_2_9 : decode cX2_mergeSort_2 9 = .ok (.if_icmp .ge 10, 3) := dk_162 0 10 (dk_at dksX2_mergeSort_2_0 9 rfl rfl)
theorem dX2_mergeSort_2_12 : decode cX2_mergeSort_2 12 = .ok (.aload_n 0, 1) := dk_42 (dk_at dksX2_mergeSort_2_0 12 rfl rfl)
theorem dX2_mergeSort_2_13 : decode cX2_mergeSort_2 13 = .ok (.iload_n 1, 1) := dk_27 (dk_at dksX2_mergeSort_2_0 13 rfl rfl)
theorem dX2_mergeSort_2_14 : decode cX2_mergeSort_2 14 = .ok (.iload_n 2, 1) := dk_28 (dk_at dksX2_mergeSort_2_0 14 rfl rfl)
theorem dX2_mergeSort_2_15 : decode cX2_mergeSort_2 15 = .ok (.invokestatic 32, 3) := dk_184 0 32 (dk_at dksX2_mergeSort_2_0 15 rfl rfl)
theorem dX2_mergeSort_2_18 : decode cX2_mergeSort_2 18 = .ok (.return_, 1) := dk_177 (dk_at dksX2_mergeSort_2_0 18 rfl rfl)
theorem dX2_mergeSort_2_19 : decode cX2_mergeSort_2 19 = .ok (.aload_n 3, 1) := dk_45 (dk_at dksX2_mergeSort_2_0 19 rfl rfl)
theorem dX2_mergeSort_2_20 : decode cX2_mergeSort_2 20 = .ok (.ifnonnull 9, 3) := dk_199 0 9 (dk_at dksX2_mergeSort_2_0 20 rfl rfl)
theorem dX2_mergeSort_2_23 : decode cX2_mergeSort_2 23 = .ok (.aload_n 0, 1) := dk_42 (dk_at dksX2_mergeSort_2_0 23 rfl rfl)
theorem dX2_mergeSort_2_24 : decode cX2_mergeSort_2 24 = .ok (.iload_n 2, 1) := dk_28 (dk_at dksX2_mergeSort_2_1 0 rfl rfl)
theorem dX2_mergeSort_2_25 : decode cX2_mergeSort_2 25 = .ok (.invokestatic 35, 3) := dk_184 0 35 (dk_at dksX2_mergeSort_2_1 1 rfl rfl)
theorem dX2_mergeSort_2_28 : decode cX2_mergeSort_2 28 = .ok (.astore_n 3, 1) := dk_78 (dk_at dksX2_mergeSort_2_1 4 rfl rfl)
theorem dX2_mergeSort_2_29 : decode cX2_mergeSort_2 29 = .ok (.iload_n 1, 1) := dk_27 (dk_at dksX2_mergeSort_2_1 5 rfl rfl)
theorem dX2_mergeSort_2_30 : decode cX2_mergeSort_2 30 = .ok (.iload_n 2, 1) := dk_28 (dk_at dksX2_mergeSort_2_1 6 rfl rfl)
theorem dX2_mergeSort_2_31 : decode cX2_mergeSort_2 31 = .ok (.iadd, 1) := dk_96 (dk_at dksX2_mergeSort_2_1 7 rfl rfl)
theorem dX2_mergeSort_2_32 : decode cX2_mergeSort_2 32 = .ok (.iconst 1, 1) := dk_4 (dk_at dksX2_mergeSort_2_1 8 rfl rfl)
theorem dX2_mergeSort_2_33 : decode cX2_mergeSort_2 33 = .ok (.iushr, 1) := dk_124 (dk_at dksX2_mergeSort_2_1 9 rfl rfl)
theorem dX2_mergeSort_2_34 : decode cX2_mergeSort_2 34 = .ok (.istore 5, 2) := dk_54 5 (dk_at dksX2_mergeSort_2_1 10 rfl rfl)
theorem dX2_mergeSort_2_36 : decode cX2_mergeSort_2 36 = .ok (.aload_n 3, 1) := dk_45 (dk_at dksX2_mergeSort_2_1 12 rfl rfl)
theorem dX2_mergeSort_2_37 : decode cX2_mergeSort_2 37 = .ok (.iload_n 1, 1) := dk_27 (dk_at dksX2_mergeSort_2_1 13 rfl rfl)
theorem dX2_mergeSort_2_38 : decode cX2_mergeSort_2 38 = .ok (.iload 5, 2) := dk_21 5 (dk_at dksX2_mergeSort_2_1 14 rfl rfl)
theorem dX2_mergeSort_2_40 : decode cX2_mergeSort_2 40 = .ok (.aload_n 0, 1) := dk_42 (dk_at dksX2_mergeSort_2_1 16 rfl rfl)
theorem dX2_mergeSort_2_41 : decode cX2_mergeSort_2 41 = .ok (.invokestatic 41, 3) := dk_184 0 41 (dk_at dksX2_mergeSort_2_1 17 rfl rfl)
theorem dX2_mergeSort_2_44 : decode cX2_mergeSort_2 44 = .ok (.aload_n 3, 1) := dk_45 (dk_at dksX2_mergeSort_2_1 20 rfl rfl)
theorem dX2_mergeSort_2_45 : decode cX2_mergeSort_2 45 = .ok (.iload 5, 2) := dk_21 5 (dk_at dksX2_mergeSort_2_1 21 rfl rfl)
theorem dX2_mergeSort_2_47 : decode cX2_mergeSort_2 47 = .ok (.iload_n 2, 1) := dk_28 (dk_at dksX2_mergeSort_2_1 23 rfl rfl)
theorem dX2_mergeSort_2_48 : decode cX2_mergeSort_2 48 = .ok (.aload_n 0, 1) := dk_42 (dk_at dksX2_mergeSort_2_2 0 rfl rfl)
theorem dX2_mergeSort_2_49 : decode cX2_mergeSort_2 49 = .ok (.invokestatic 41, 3) := dk_184 0 41 (dk_at dksX2_mergeSort_2_2 1 rfl rfl)
theorem dX2_mergeSort_2_52 : decode cX2_mergeSort_2 52 = .ok (.aload_n 3, 1) := dk_45 (dk_at dksX2_mergeSort_2_2 4 rfl rfl)
theorem dX2_mergeSort_2_53 : decode cX2_mergeSort_2 53 = .ok (.iload 5, 2) := dk_21 5 (dk_at dksX2_mergeSort_2_2 5 rfl rfl)
theorem dX2_mergeSort_2_55 : decode cX2_mergeSort_2 55 = .ok (.iconst 1, 1) := dk_4 (dk_at dksX2_mergeSort_2_2 7 rfl rfl)
theorem dX2_mergeSort_2_56 : decode cX2_mergeSort_2 56 = .ok (.isub, 1) := dk_100 (dk_at dksX2_mergeSort_2_2 8 rfl rfl)
theorem dX2_mergeSort_2_57 : decode cX2_mergeSort_2 57 = .ok (.saload, 1) := dk_53 (dk_at dksX2_mergeSort_2_2 9 rfl rfl)
theorem dX2_mergeSort_2_58 : decode cX2_mergeSort_2 58 = .ok (.aload_n 3, 1) := dk_45 (dk_at dksX2_mergeSort_2_2 10 rfl rfl)
theorem dX2_mergeSort_2_59 : decode cX2_mergeSort_2 59 = .ok (.iload 5, 2) := dk_21 5 (dk_at dksX2_mergeSort_2_2 11 rfl rfl)
theorem dX2_mergeSort_2_61 : decode cX2_mergeSort_2 61 = .ok (.saload, 1) := dk_53 (dk_at dksX2_mergeSort_2_2 13 rfl rfl)
theorem dX2_mergeSort_2_62 : decode cX2_mergeSort_2 62 = .ok (.if_icmp .gt 13, 3) := dk_163 0 13 (dk_at dksX2_mergeSort_2_2 14 rfl rfl)
theorem dX2_mergeSort_2_65 : decode cX2_mergeSort_2 65 = .ok (.aload_n 3, 1) := dk_45 (dk_at dksX2_mergeSort_2_2 17 rfl rfl)
theorem dX2_mergeSort_2_66 : decode cX2_mergeSort_2 66 = .ok (.iload_n 1, 1) := dk_27 (dk_at dksX2_mergeSort_2_2 18 rfl rfl)
theorem dX2_mergeSort_2_67 : decode cX2_mergeSort_2 67 = .ok (.aload_n 0, 1) := dk_42 (dk_at dksX2_mergeSort_2_2 19 rfl rfl)
theorem dX2_mergeSort_2_68 : decode cX2_mergeSort_2 68 = .ok (.iload_n 1, 1) := dk_27 (dk_at dksX2_mergeSort_2_2 20 rfl rfl)
theorem dX2_mergeSort_2_69 : decode cX2_mergeSort_2 69 = .ok (.iload 4, 2) := dk_21 4 (dk_at dksX2_mergeSort_2_2 21 rfl rfl)
theorem dX2_mergeSort_2_71 : decode cX2_mergeSort_2 71 = .ok (.invokestatic 45, 3) := dk_184 0 45 (dk_at dksX2_mergeSort_2_3 0 rfl rfl)
theorem dX2_mergeSort_2_74 : decode cX2_mergeSort_2 74 = .ok (.return_, 1) := dk_177 (dk_at dksX2_mergeSort_2_3 3 rfl rfl)
theorem dX2_mergeSort_2_75 : decode cX2_mergeSort_2 75 = .ok (.iload_n 1, 1) := dk_27 (dk_at dksX2_mergeSort_2_3 4 rfl rfl)
theorem dX2_mergeSort_2_76 : decode cX2_mergeSort_2 76 = .ok (.istore 6, 2) := dk_54 6 (dk_at dksX2_mergeSort_2_3 5 rfl rfl)
theorem dX2_mergeSort_2_78 : decode cX2_mergeSort_2 78 = .ok (.iload_n 1, 1) := dk_27 (dk_at dksX2_mergeSort_2_3 7 rfl rfl)
theorem dX2_mergeSort_2_79 : decode cX2_mergeSort_2 79 = .ok (.istore 7, 2) := dk_54 7 (dk_at dksX2_mergeSort_2_3 8 rfl rfl)
theorem dX2_mergeSort_2_81 : decode cX2_mergeSort_2 81 = .ok (.iload 5, 2) := dk_21 5 (dk_at dksX2_mergeSort_2_3 10 rfl rfl)
theorem dX2_mergeSort_2_83 : decode cX2_mergeSort_2 83 = .ok (.istore 8, 2) := dk_54 8 (dk_at dksX2_mergeSort_2_3 12 rfl rfl)
theorem dX2_mergeSort_2_85 : decode cX2_mergeSort_2 85 = .ok (.iload 6, 2) := dk_21 6 (dk_at dksX2_mergeSort_2_3 14 rfl rfl)
theorem dX2_mergeSort_2_87 : decode cX2_mergeSort_2 87 = .ok (.iload_n 2, 1) := dk_28 (dk_at dksX2_mergeSort_2_3 16 rfl rfl)
theorem dX2_mergeSort_2_88 : decode cX2_mergeSort_2 88 = .ok (.if_icmp .ge 58, 3) := dk_162 0 58 (dk_at dksX2_mergeSort_2_3 17 rfl rfl)
theorem dX2_mergeSort_2_91 : decode cX2_mergeSort_2 91 = .ok (.iload 8, 2) := dk_21 8 (dk_at dksX2_mergeSort_2_3 20 rfl rfl)
theorem dX2_mergeSort_2_93 : decode cX2_mergeSort_2 93 = .ok (.iload_n 2, 1) := dk_28 (dk_at dksX2_mergeSort_2_3 22 rfl rfl)
theorem dX2_mergeSort_2_94 : decode cX2_mergeSort_2 94 = .ok (.if_icmp .ge 21, 3) := dk_162 0 21 (dk_at dksX2_mergeSort_2_4 0 rfl rfl)
theorem dX2_mergeSort_2_97 : decode cX2_mergeSort_2 97 = .ok (.iload 7, 2) := dk_21 7 (dk_at dksX2_mergeSort_2_4 3 rfl rfl)
theorem dX2_mergeSort_2_99 : decode cX2_mergeSort_2 99 = .ok (.iload 5, 2) := dk_21 5 (dk_at dksX2_mergeSort_2_4 5 rfl rfl)
theorem dX2_mergeSort_2_101 : decode cX2_mergeSort_2 101 = .ok (.if_icmp .ge 28, 3) := dk_162 0 28 (dk_at dksX2_mergeSort_2_4 7 rfl rfl)
theorem dX2_mergeSort_2_104 : decode cX2_mergeSort_2 104 = .ok (.aload_n 3, 1) := dk_45 (dk_at dksX2_mergeSort_2_4 10 rfl rfl)
theorem dX2_mergeSort_2_105 : decode cX2_mergeSort_2 105 = .ok (.iload 7, 2) := dk_21 7 (dk_at dksX2_mergeSort_2_4 11 rfl rfl)
theorem dX2_mergeSort_2_107 : decode cX2_mergeSort_2 107 = .ok (.saload, 1) := dk_53 (dk_at dksX2_mergeSort_2_4 13 rfl rfl)
theorem dX2_mergeSort_2_108 : decode cX2_mergeSort_2 108 = .ok (.aload_n 3, 1) := dk_45 (dk_at dksX2_mergeSort_2_4 14 rfl rfl)
theorem dX2_mergeSort_2_109 : decode cX2_mergeSort_2 109 = .ok (.iload 8, 2) := dk_21 8 (dk_at dksX2_mergeSort_2_4 15 rfl rfl)
theorem dX2_mergeSort_2_111 : decode cX2_mergeSort_2 111 = .ok (.saload, 1) := dk_53 (dk_at dksX2_mergeSort_2_4 17 rfl rfl)
theorem dX2_mergeSort_2_112 : decode cX2_mergeSort_2 112 = .ok (.if_icmp .gt 17, 3) := dk_163 0 17 (dk_at dksX2_mergeSort_2_4 18 rfl rfl)
theorem dX2_mergeSort_2_115 : decode cX2_mergeSort_2 115 = .ok (.aload_n 0, 1) := dk_42 (dk_at dksX2_mergeSort_2_4 21 rfl rfl)
theorem dX2_mergeSort_2_116 : decode cX2_mergeSort_2 116 = .ok (.iload 6, 2) := dk_21 6 (dk_at dksX2_mergeSort_2_4 22 rfl rfl)
theorem dX2_mergeSort_2_118 : decode cX2_mergeSort_2 118 = .ok (.aload_n 3, 1) := dk_45 (dk_at dksX2_mergeSort_2_5 0 rfl rfl)
theorem dX2_mergeSort_2_119 : decode cX2_mergeSort_2 119 = .ok (.iload 7, 2) := dk_21 7 (dk_at dksX2_mergeSort_2_5 1 rfl rfl)
theorem dX2_mergeSort_2_121 : decode cX2_mergeSort_2 121 = .ok (.iinc 7 1, 3) := dk_132 7 1 (dk_at dksX2_mergeSort_2_5 3 rfl rfl)
theorem dX2_mergeSort_2_124 : decode cX2_mergeSort_2 124 = .ok (.saload, 1) := dk_53 (dk_at dksX2_mergeSort_2_5 6 rfl rfl)
theorem dX2_mergeSort_2_125 : decode cX2_mergeSort_2 125 = .ok (.sastore, 1) := dk_86 (dk_at dksX2_mergeSort_2_5 7 rfl rfl)
theorem dX2_mergeSort_2_126 : decode cX2_mergeSort_2 126 = .ok (.goto 14, 3) := dk_167 0 14 (dk_at dksX2_mergeSort_2_5 8 rfl rfl)
theorem dX2_mergeSort_2_129 : decode cX2_mergeSort_2 129 = .ok (.aload_n 0, 1) := dk_42 (dk_at dksX2_mergeSort_2_5 11 rfl rfl)
theorem dX2_mergeSort_2_130 : decode cX2_mergeSort_2 130 = .ok (.iload 6, 2) := dk_21 6 (dk_at dksX2_mergeSort_2_5 12 rfl rfl)
theorem dX2_mergeSort_2_132 : decode cX2_mergeSort_2 132 = .ok (.aload_n 3, 1) := dk_45 (dk_at dksX2_mergeSort_2_5 14 rfl rfl)
theorem dX2_mergeSort_2_133 : decode cX2_mergeSort_2 133 = .ok (.iload 8, 2) := dk_21 8 (dk_at dksX2_mergeSort_2_5 15 rfl rfl)
theorem dX2_mergeSort_2_135 : decode cX2_mergeSort_2 135 = .ok (.iinc 8 1, 3) := dk_132 8 1 (dk_at dksX2_mergeSort_2_5 17 rfl rfl)
theorem dX2_mergeSort_2_138 : decode cX2_mergeSort_2 138 = .ok (.saload, 1) := dk_53 (dk_at dksX2_mergeSort_2_5 20 rfl rfl)
theorem dX2_mergeSort_2_139 : decode cX2_mergeSort_2 139 = .ok (.sastore, 1) := dk_86 (dk_at dksX2_mergeSort_2_5 21 rfl rfl)
theorem dX2_mergeSort_2_140 : decode cX2_mergeSort_2 140 = .ok (.iinc 6 1, 3) := dk_132 6 1 (dk_at dksX2_mergeSort_2_6 0 rfl rfl)
theorem dX2_mergeSort_2_143 : decode cX2_mergeSort_2 143 = .ok (.goto (-58), 3) := dk_167 255 198 (dk_at dksX2_mergeSort_2_6 3 rfl rfl)
theorem dX2_mergeSort_2_146 : decode cX2_mergeSort_2 146 = .ok (.return_, 1) := dk_177 (dk_at dksX2_mergeSort_2_6 6 rfl rfl)
abbrev cX2_insertionSort : ByteArray := prog_1_method_5_code
def yX2_insertionSort : MethodName := ⟨RX2, "insertionSort", "([SII)V"⟩
def dkwX2_insertionSort_3 : List UInt8 := [21, 4, 86, 167, 255, 185, 177]
abbrev dktX2_insertionSort_3 : List UInt8 := dkwX2_insertionSort_3 ++ []
def dkwX2_insertionSort_2 : List UInt8 := [132, 5, 255, 167, 0, 17, 42, 132, 5, 255, 21, 5, 4, 100, 53, 54, 6, 167, 255, 218, 42, 21, 5]
abbrev dktX2_insertionSort_2 : List UInt8 := dkwX2_insertionSort_2 ++ dktX2_insertionSort_3
def dkwX2_insertionSort_1 : List UInt8 := [54, 6, 21, 4, 21, 6, 162, 0, 37, 42, 21, 5, 21, 6, 86, 27, 21, 5, 4, 100, 160, 0, 9]
abbrev dktX2_insertionSort_1 : List UInt8 := dkwX2_insertionSort_1 ++ dktX2_insertionSort_2
def dkwX2_insertionSort_0 : List UInt8 := [27, 62, 132, 3, 1, 29, 28, 162, 0, 69, 42, 29, 53, 54, 4, 29, 54, 5, 42, 21, 5, 4, 100, 53]
abbrev dktX2_insertionSort_0 : List UInt8 := dkwX2_insertionSort_0 ++ dktX2_insertionSort_1
theorem dksX2_insertionSort_0 : cX2_insertionSort.data.toList.drop 0 = dktX2_insertionSort_0 := by decide +kernel
theorem dksX2_insertionSort_1 : cX2_insertionSort.data.toList.drop 24 = dktX2_insertionSort_1 := dk_seg dksX2_insertionSort_0 24 rfl rfl
theorem dksX2_insertionSort_2 : cX2_insertionSort.data.toList.drop 47 = dktX2_insertionSort_2 := dk_seg dksX2_insertionSort_1 23 rfl rfl
theorem dksX2_insertionSort_3 : cX2_insertionSort.data.toList.drop 70 = dktX2_insertionSort_3 := dk_seg dksX2_insertionSort_2 23 rfl rfl
theorem dX2_insertionSort_0 : decode cX2_insertionSort 0 = .ok (.iload_n 1, 1) := dk_27 (dk_at dksX2_insertionSort_0 0 rfl rfl)
theorem dX2_insertionSort_1 : decode cX2_insertionSort 1 = .ok (.istore_n 3, 1) := dk_62 (dk_at dksX2_insertionSort_0 1 rfl rfl)
theorem dX2_insertionSort_2 : decode cX2_insertionSort 2 = .ok (.iinc 3 1, 3) := dk_132 3 1 (dk_at dksX2_insertionSort_0 2 rfl rfl)
theorem dX2_insertionSort_5 : decode cX2_insertionSort 5 = .ok (.iload_n 3, 1) := dk_29 (dk_at dksX2_insertionSort_0 5 rfl rfl)
theorem dX2_insertionSort_6 : decode cX2_insertionSort 6 = .ok (.iload_n 2, 1) := dk_28 (dk_at dksX2_insertionSort_0 6 rfl rfl)
theorem dX2_insertionSort_7 : decode cX2_insertionSort 7 = .ok (.if_icmp .ge 69, 3) := dk_162 0 69 (dk_at dksX2_insertionSort_0 7 rfl rfl)
theorem dX2_insertionSort_10 : decode cX2_insertionSort 10 = .ok (.aload_n 0, 1) := dk_42 (dk_at dksX2_insertionSort_0 10 rfl rfl)
theorem dX2_insertionSort_11 : decode cX2_insertionSort 11 = .ok (.iload_n 3, 1) := dk_29 (dk_at dksX2_insertionSort_0 11 rfl rfl)
theorem dX2_insertionSort_12 : decode cX2_insertionSort 12 = .ok (.saload, 1) := dk_53 (dk_at dksX2_insertionSort_0 12 rfl rfl)
theorem dX2_insertionSort_13 : decode cX2_insertionSort 13 = .ok (.istore 4, 2) := dk_54 4 (dk_at dksX2_insertionSort_0 13 rfl rfl)
theorem dX2_insertionSort_15 : decode cX2_insertionSort 15 = .ok (.iload_n 3, 1) := dk_29 (dk_at dksX2_insertionSort_0 15 rfl rfl)
theorem dX2_insertionSort_16 : decode cX2_insertionSort 16 = .ok (.istore 5, 2) := dk_54 5 (dk_at dksX2_insertionSort_0 16 rfl rfl)
theorem dX2_insertionSort_18 : decode cX2_insertionSort 18 = .ok (.aload_n 0, 1) := dk_42 (dk_at dksX2_insertionSort_0 18 rfl rfl)
theorem dX2_insertionSort_19 : decode cX2_insertionSort 19 = .ok (.iload 5, 2) := dk_21 5 (dk_at dksX2_insertionSort_0 19 rfl rfl)
theorem dX2_insertionSort_21 : decode cX2_insertionSort 21 = .ok (.iconst 1, 1) := dk_4 (dk_at dksX2_insertionSort_0 21 rfl rfl)
theorem dX2_insertionSort_22 : decode cX2_insertionSort 22 = .ok (.isub, 1) := dk_100 (dk_at dksX2_insertionSort_0 22 rfl rfl)
theorem dX2_insertionSort_23 : decode cX2_insertionSort 23 = .ok (.saload, 1) := dk_53 (dk_at dksX2_insertionSort_0 23 rfl rfl)
theorem dX2_insertionSort_24 : decode cX2_insertionSort 24 = .ok (.istore 6, 2) := dk_54 6 (dk_at dksX2_insertionSort_1 0 rfl rfl)
theorem dX2_insertionSort_26 : decode cX2_insertionSort 26 = .ok (.iload 4, 2) := dk_21 4 (dk_at dksX2_insertionSort_1 2 rfl rfl)
theorem dX2_insertionSort_28 : decode cX2_insertionSort 28 = .ok (.iload 6, 2) := dk_21 6 (dk_at dksX2_insertionSort_1 4 rfl rfl)
theorem dX2_insertionSort_30 : decode cX2_insertionSort 30 = .ok (.if_icmp .ge 37, 3) := dk_162 0 37 (dk_at dksX2_insertionSort_1 6 rfl rfl)
theorem dX2_insertionSort_33 : decode cX2_insertionSort 33 = .ok (.aload_n 0, 1) := dk_42 (dk_at dksX2_insertionSort_1 9 rfl rfl)
theorem dX2_insertionSort_34 : decode cX2_insertionSort 34 = .ok (.iload 5, 2) := dk_21 5 (dk_at dksX2_insertionSort_1 10 rfl rfl)
theorem dX2_insertionSort_36 : decode cX2_insertionSort 36 = .ok (.iload 6, 2) := dk_21 6 (dk_at dksX2_insertionSort_1 12 rfl rfl)
theorem dX2_insertionSort_38 : decode cX2_insertionSort 38 = .ok (.sastore, 1) := dk_86 (dk_at dksX2_insertionSort_1 14 rfl rfl)
theorem dX2_insertionSort_39 : decode cX2_insertionSort 39 = .ok (.iload_n 1, 1) := dk_27 (dk_at dksX2_insertionSort_1 15 rfl rfl)
theorem dX2_insertionSort_40 : decode cX2_insertionSort 40 = .ok (.iload 5, 2) := dk_21 5 (dk_at dksX2_insertionSort_1 16 rfl rfl)
theorem dX2_insertionSort_42 : decode cX2_insertionSort 42 = .ok (.iconst 1, 1) := dk_4 (dk_at dksX2_insertionSort_1 18 rfl rfl)
theorem dX2_insertionSort_43 : decode cX2_insertionSort 43 = .ok (.isub, 1) := dk_100 (dk_at dksX2_insertionSort_1 19 rfl rfl)
theorem dX2_insertionSort_44 : decode cX2_insertionSort 44 = .ok (.if_icmp .ne 9, 3) := dk_160 0 9 (dk_at dksX2_insertionSort_1 20 rfl rfl)
theorem dX2_insertionSort_47 : decode cX2_insertionSort 47 = .ok (.iinc 5 (-1), 3) := dk_132 5 255 (dk_at dksX2_insertionSort_2 0 rfl rfl)
theorem dX2_insertionSort_50 : decode cX2_insertionSort 50 = .ok (.goto 17, 3) := dk_167 0 17 (dk_at dksX2_insertionSort_2 3 rfl rfl)
theorem dX2_insertionSort_53 : decode cX2_insertionSort 53 = .ok (.aload_n 0, 1) := dk_42 (dk_at dksX2_insertionSort_2 6 rfl rfl)
theorem dX2_insertionSort_54 : decode cX2_insertionSort 54 = .ok (.iinc 5 (-1), 3) := dk_132 5 255 (dk_at dksX2_insertionSort_2 7 rfl rfl)
theorem dX2_insertionSort_57 : decode cX2_insertionSort 57 = .ok (.iload 5, 2) := dk_21 5 (dk_at dksX2_insertionSort_2 10 rfl rfl)
theorem dX2_insertionSort_59 : decode cX2_insertionSort 59 = .ok (.iconst 1, 1) := dk_4 (dk_at dksX2_insertionSort_2 12 rfl rfl)
theorem dX2_insertionSort_60 : decode cX2_insertionSort 60 = .ok (.isub, 1) := dk_100 (dk_at dksX2_insertionSort_2 13 rfl rfl)
theorem dX2_insertionSort_61 : decode cX2_insertionSort 61 = .ok (.saload, 1) := dk_53 (dk_at dksX2_insertionSort_2 14 rfl rfl)
theorem dX2_insertionSort_62 : decode cX2_insertionSort 62 = .ok (.istore 6, 2) := dk_54 6 (dk_at dksX2_insertionSort_2 15 rfl rfl)
theorem dX2_insertionSort_64 : decode cX2_insertionSort 64 = .ok (.goto (-38), 3) := dk_167 255 218 (dk_at dksX2_insertionSort_2 17 rfl rfl)
theorem dX2_insertionSort_67 : decode cX2_insertionSort 67 = .ok (.aload_n 0, 1) := dk_42 (dk_at dksX2_insertionSort_2 20 rfl rfl)
theorem dX2_insertionSort_68 : decode cX2_insertionSort 68 = .ok (.iload 5, 2) := dk_21 5 (dk_at dksX2_insertionSort_2 21 rfl rfl)
theorem dX2_insertionSort_70 : decode cX2_insertionSort 70 = .ok (.iload 4, 2) := dk_21 4 (dk_at dksX2_insertionSort_3 0 rfl rfl)
theorem dX2_insertionSort_72 : decode cX2_insertionSort 72 = .ok (.sastore, 1) := dk_86 (dk_at dksX2_insertionSort_3 2 rfl rfl)
theorem dX2_insertionSort_73 : decode cX2_insertionSort 73 = .ok (.goto (-71), 3) := dk_167 255 185 (dk_at dksX2_insertionSort_3 3 rfl rfl)
theorem dX2_insertionSort_76 : decode cX2_insertionSort 76 = .ok (.return_, 1) := dk_177 (dk_at dksX2_insertionSort_3 6 rfl rfl)
abbrev cX2_radixSort : ByteArray := prog_1_method_10_code
def yX2_radixSort : MethodName := ⟨RX2, "radixSort", "([SII)V"⟩
def dkwX2_radixSort_17 : List UInt8 := [21, 16, 25, 7, 21, 17, 46, 96, 54, 16, 25, 7, 21, 17, 3, 79, 167, 255, 80, 167, 254, 168, 177]
abbrev dktX2_radixSort_17 : List UInt8 := dkwX2_radixSort_17 ++ []
def dkwX2_radixSort_16 : List UInt8 := [21, 16, 79, 25, 5, 29, 25, 7, 21, 17, 46, 79, 25, 6, 29, 132, 3, 1, 21, 11, 4, 96, 79]
abbrev dktX2_radixSort_16 : List UInt8 := dkwX2_radixSort_16 ++ dktX2_radixSort_17
def dkwX2_radixSort_15 : List UInt8 := [162, 0, 20, 42, 21, 16, 21, 16, 25, 7, 21, 17, 46, 96, 184, 0, 29, 167, 0, 29, 25, 4, 29]
abbrev dktX2_radixSort_15 : List UInt8 := dkwX2_radixSort_15 ++ dktX2_radixSort_16
def dkwX2_radixSort_14 : List UInt8 := [21, 11, 4, 162, 0, 66, 25, 7, 21, 17, 46, 4, 164, 0, 57, 25, 7, 21, 17, 46, 17, 4, 0]
abbrev dktX2_radixSort_14 : List UInt8 := dkwX2_radixSort_14 ++ dktX2_radixSort_15
def dkwX2_radixSort_13 : List UInt8 := [21, 19, 21, 13, 124, 17, 0, 255, 126, 21, 12, 130, 54, 17, 167, 255, 208, 42, 21, 16, 21, 19, 86]
abbrev dktX2_radixSort_13 : List UInt8 := dkwX2_radixSort_13 ++ dktX2_radixSort_14
def dkwX2_radixSort_12 : List UInt8 := [54, 18, 21, 16, 164, 0, 36, 21, 19, 54, 20, 42, 21, 18, 53, 54, 19, 42, 21, 18, 21, 20, 86]
abbrev dktX2_radixSort_12 : List UInt8 := dkwX2_radixSort_12 ++ dktX2_radixSort_13
def dkwX2_radixSort_11 : List UInt8 := [21, 12, 130, 54, 17, 21, 16, 21, 15, 162, 0, 60, 25, 8, 21, 17, 92, 46, 4, 100, 91, 79, 89]
abbrev dktX2_radixSort_11 : List UInt8 := dkwX2_radixSort_11 ++ dktX2_radixSort_12
def dkwX2_radixSort_10 : List UInt8 := [54, 17, 21, 16, 21, 15, 163, 0, 175, 42, 21, 16, 53, 54, 19, 21, 19, 21, 13, 124, 17, 0, 255, 126]
abbrev dktX2_radixSort_10 : List UInt8 := dkwX2_radixSort_10 ++ dktX2_radixSort_11
def dkwX2_radixSort_9 : List UInt8 := [132, 15, 1, 167, 255, 217, 21, 9, 21, 10, 96, 25, 7, 21, 14, 46, 100, 54, 15, 21, 9, 54, 16, 2]
abbrev dktX2_radixSort_9 : List UInt8 := dkwX2_radixSort_9 ++ dktX2_radixSort_10
def dkwX2_radixSort_8 : List UInt8 := [153, 0, 7, 21, 15, 54, 14, 25, 8, 21, 15, 21, 16, 25, 7, 21, 15, 46, 96, 89, 54, 16, 79]
abbrev dktX2_radixSort_8 : List UInt8 := dkwX2_radixSort_8 ++ dktX2_radixSort_9
def dkwX2_radixSort_7 : List UInt8 := [2, 54, 14, 3, 54, 15, 21, 9, 54, 16, 21, 15, 17, 1, 0, 162, 0, 37, 25, 7, 21, 15, 46]
abbrev dktX2_radixSort_7 : List UInt8 := dkwX2_radixSort_7 ++ dktX2_radixSort_8
def dkwX2_radixSort_6 : List UInt8 := [25, 7, 42, 21, 14, 53, 21, 13, 124, 17, 0, 255, 126, 21, 12, 130, 92, 46, 4, 96, 79, 167, 255, 225]
abbrev dktX2_radixSort_6 : List UInt8 := dkwX2_radixSort_6 ++ dktX2_radixSort_7
def dkwX2_radixSort_5 : List UInt8 := [100, 16, 8, 104, 54, 13, 21, 9, 21, 10, 96, 54, 14, 21, 14, 132, 14, 255, 21, 9, 159, 0, 27]
abbrev dktX2_radixSort_5 : List UInt8 := dkwX2_radixSort_5 ++ dktX2_radixSort_6
def dkwX2_radixSort_4 : List UInt8 := [46, 54, 11, 21, 11, 5, 112, 154, 0, 9, 17, 0, 128, 167, 0, 4, 3, 54, 12, 4, 21, 11, 5, 112]
abbrev dktX2_radixSort_4 : List UInt8 := dkwX2_radixSort_4 ++ dktX2_radixSort_5
def dkwX2_radixSort_3 : List UInt8 := [58, 8, 29, 158, 1, 90, 25, 4, 132, 3, 255, 29, 46, 54, 9, 25, 5, 29, 46, 54, 10, 25, 6, 29]
abbrev dktX2_radixSort_3 : List UInt8 := dkwX2_radixSort_3 ++ dktX2_radixSort_4
def dkwX2_radixSort_2 : List UInt8 := [28, 27, 100, 79, 25, 6, 29, 132, 3, 1, 3, 79, 17, 1, 0, 188, 10, 58, 7, 17, 1, 0, 188, 10]
abbrev dktX2_radixSort_2 : List UInt8 := dkwX2_radixSort_2 ++ dktX2_radixSort_3
def dkwX2_radixSort_1 : List UInt8 := [58, 4, 17, 1, 0, 188, 10, 58, 5, 17, 1, 0, 188, 10, 58, 6, 25, 4, 29, 27, 79, 25, 5, 29]
abbrev dktX2_radixSort_1 : List UInt8 := dkwX2_radixSort_1 ++ dktX2_radixSort_2
def dkwX2_radixSort_0 : List UInt8 := [28, 27, 100, 17, 4, 0, 162, 0, 10, 42, 27, 28, 184, 0, 29, 177, 3, 62, 17, 1, 0, 188, 10]
abbrev dktX2_radixSort_0 : List UInt8 := dkwX2_radixSort_0 ++ dktX2_radixSort_1
theorem dksX2_radixSort_0 : cX2_radixSort.data.toList.drop 0 = dktX2_radixSort_0 := by decide +kernel
theorem dksX2_radixSort_1 : cX2_radixSort.data.toList.drop 23 = dktX2_radixSort_1 := dk_seg dksX2_radixSort_0 23 rfl rfl
theorem dksX2_radixSort_2 : cX2_radixSort.data.toList.drop 47 = dktX2_radixSort_2 := dk_seg dksX2_radixSort_1 24 rfl rfl
theorem dksX2_radixSort_3 : cX2_radixSort.data.toList.drop 71 = dktX2_radixSort_3 := dk_seg dksX2_radixSort_2 24 rfl rfl
theorem dksX2_radixSort_4 : cX2_radixSort.data.toList.drop 95 = dktX2_radixSort_4 := dk_seg dksX2_radixSort_3 24 rfl rfl
theorem dksX2_radixSort_5 : cX2_radixSort.data.toList.drop 119 = dktX2_radixSort_5 := dk_seg dksX2_radixSort_4 24 rfl rfl
theorem dksX2_radixSort_6 : cX2_radixSort.data.toList.drop 142 = dktX2_radixSort_6 := dk_seg dksX2_radixSort_5 23 rfl rfl
theorem dksX2_radixSort_7 : cX2_radixSort.data.toList.drop 166 = dktX2_radixSort_7 := dk_seg dksX2_radixSort_6 24 rfl rfl
theorem dksX2_radixSort_8 : cX2_radixSort.data.toList.drop 189 = dktX2_radixSort_8 := dk_seg dksX2_radixSort_7 23 rfl rfl
theorem dksX2_radixSort_9 : cX2_radixSort.data.toList.drop 212 = dktX2_radixSort_9 := dk_seg dksX2_radixSort_8 23 rfl rfl
theorem dksX2_radixSort_10 : cX2_radixSort.data.toList.drop 236 = dktX2_radixSort_10 := dk_seg dksX2_radixSort_9 24 rfl rfl
theorem dksX2_radixSort_11 : cX2_radixSort.data.toList.drop 260 = dktX2_radixSort_11 := dk_seg dksX2_radixSort_10 24 rfl rfl
theorem dksX2_radixSort_12 : cX2_radixSort.data.toList.drop 283 = dktX2_radixSort_12 := dk_seg dksX2_radixSort_11 23 rfl rfl
theorem dksX2_radixSort_13 : cX2_radixSort.data.toList.drop 306 = dktX2_radixSort_13 := dk_seg dksX2_radixSort_12 23 rfl rfl
theorem dksX2_radixSort_14 : cX2_radixSort.data.toList.drop 329 = dktX2_radixSort_14 := dk_seg dksX2_radixSort_13 23 rfl rfl
theorem dksX2_radixSort_15 : cX2_radixSort.data.toList.drop 352 = dktX2_radixSort_15 := dk_seg dksX2_radixSort_14 23 rfl rfl
theorem dksX2_radixSort_16 : cX2_radixSort.data.toList.drop 375 = dktX2_radixSort_16 := dk_seg dksX2_radixSort_15 23 rfl rfl
theorem dksX2_radixSort_17 : cX2_radixSort.data.toList.drop 398 = dktX2_radixSort_17 := dk_seg dksX2_radixSort_16 23 rfl rfl
theorem dX2_radixSort_0 : decode cX2_radixSort 0 = .ok (.iload_n 2, 1) := dk_28 (dk_at dksX2_radixSort_0 0 rfl rfl)
theorem dX2_radixSort_1 : decode cX2_radixSort 1 = .ok (.iload_n 1, 1) := dk_27 (dk_at dksX2_radixSort_0 1 rfl rfl)
theorem dX2_radixSort_2 : decode cX2_radixSort 2 = .ok (.isub, 1) := dk_100 (dk_at dksX2_radixSort_0 2 rfl rfl)
theorem dX2_radixSort_3 : decode cX2_radixSort 3 = .ok (.sipush 1024, 3) := dk_17 4 0 (dk_at dksX2_radixSort_0 3 rfl rfl)
theorem dX2_radixSort_6 : decode cX2_radixSort 6 = .ok (.if_icmp .ge 10, 3) := dk_162 0 10 (dk_at dksX2_radixSort_0 6 rfl rfl)
theorem dX2_radixSort_9 : decode cX2_radixSort 9 = .ok (.aload_n 0, 1) := dk_42 (dk_at dksX2_radixSort_0 9 rfl rfl)
theorem dX2_radixSort_10 : decode cX2_radixSort 10 = .ok (.iload_n 1, 1) := dk_27 (dk_at dksX2_radixSort_0 10 rfl rfl)
theorem dX2_radixSort_11 : decode cX2_radixSort 11 = .ok (.iload_n 2, 1) := dk_28 (dk_at dksX2_radixSort_0 11 rfl rfl)
theorem dX2_radixSort_12 : decode cX2_radixSort 12 = .ok (.invokestatic 29, 3) := dk_184 0 29 (dk_at dksX2_radixSort_0 12 rfl rfl)
theorem dX2_radixSort_15 : decode cX2_radixSort 15 = .ok (.return_, 1) := dk_177 (dk_at dksX2_radixSort_0 15 rfl rfl)
abbrev cX2_reverse : ByteArray := prog_1_method_11_code
def yX2_reverse : MethodName := ⟨RX2, "reverse", "([SII)[S"⟩
def dkwX2_reverse_2 : List UInt8 := [21, 4, 96, 21, 5, 86, 167, 255, 212, 42, 176]
abbrev dktX2_reverse_2 : List UInt8 := dkwX2_reverse_2 ++ []
def dkwX2_reverse_1 : List UInt8 := [4, 100, 53, 54, 5, 42, 27, 29, 96, 21, 4, 100, 4, 100, 42, 27, 21, 4, 96, 53, 86, 42, 27]
abbrev dktX2_reverse_1 : List UInt8 := dkwX2_reverse_1 ++ dktX2_reverse_2
def dkwX2_reverse_0 : List UInt8 := [28, 27, 100, 62, 29, 5, 108, 54, 4, 21, 4, 132, 4, 255, 153, 0, 42, 42, 27, 29, 96, 21, 4, 100]
abbrev dktX2_reverse_0 : List UInt8 := dkwX2_reverse_0 ++ dktX2_reverse_1
theorem dksX2_reverse_0 : cX2_reverse.data.toList.drop 0 = dktX2_reverse_0 := by decide +kernel
theorem dksX2_reverse_1 : cX2_reverse.data.toList.drop 24 = dktX2_reverse_1 := dk_seg dksX2_reverse_0 24 rfl rfl
theorem dksX2_reverse_2 : cX2_reverse.data.toList.drop 47 = dktX2_reverse_2 := dk_seg dksX2_reverse_1 23 rfl rfl
theorem dX2_reverse_0 : decode cX2_reverse 0 = .ok (.iload_n 2, 1) := dk_28 (dk_at dksX2_reverse_0 0 rfl rfl)
theorem dX2_reverse_1 : decode cX2_reverse 1 = .ok (.iload_n 1, 1) := dk_27 (dk_at dksX2_reverse_0 1 rfl rfl)
theorem dX2_reverse_2 : decode cX2_reverse 2 = .ok (.isub, 1) := dk_100 (dk_at dksX2_reverse_0 2 rfl rfl)
theorem dX2_reverse_3 : decode cX2_reverse 3 = .ok (.istore_n 3, 1) := dk_62 (dk_at dksX2_reverse_0 3 rfl rfl)
theorem dX2_reverse_4 : decode cX2_reverse 4 = .ok (.iload_n 3, 1) := dk_29 (dk_at dksX2_reverse_0 4 rfl rfl)
theorem dX2_reverse_5 : decode cX2_reverse 5 = .ok (.iconst 2, 1) := dk_5 (dk_at dksX2_reverse_0 5 rfl rfl)
theorem dX2_reverse_6 : decode cX2_reverse 6 = .ok (.idiv, 1) := dk_108 (dk_at dksX2_reverse_0 6 rfl rfl)
theorem dX2_reverse_7 : decode cX2_reverse 7 = .ok (.istore 4, 2) := dk_54 4 (dk_at dksX2_reverse_0 7 rfl rfl)
theorem dX2_reverse_9 : decode cX2_reverse 9 = .ok (.iload 4, 2) := dk_21 4 (dk_at dksX2_reverse_0 9 rfl rfl)
theorem dX2_reverse_11 : decode cX2_reverse 11 = .ok (.iinc 4 (-1), 3) := dk_132 4 255 (dk_at dksX2_reverse_0 11 rfl rfl)
theorem dX2_reverse_14 : decode cX2_reverse 14 = .ok (.ifCond .eq 42, 3) := dk_153 0 42 (dk_at dksX2_reverse_0 14 rfl rfl)
theorem dX2_reverse_17 : decode cX2_reverse 17 = .ok (.aload_n 0, 1) := dk_42 (dk_at dksX2_reverse_0 17 rfl rfl)
theorem dX2_reverse_18 : decode cX2_reverse 18 = .ok (.iload_n 1, 1) := dk_27 (dk_at dksX2_reverse_0 18 rfl rfl)
theorem dX2_reverse_19 : decode cX2_reverse 19 = .ok (.iload_n 3, 1) := dk_29 (dk_at dksX2_reverse_0 19 rfl rfl)
theorem dX2_reverse_20 : decode cX2_reverse 20 = .ok (.iadd, 1) := dk_96 (dk_at dksX2_reverse_0 20 rfl rfl)
theorem dX2_reverse_21 : decode cX2_reverse 21 = .ok (.iload 4, 2) := dk_21 4 (dk_at dksX2_reverse_0 21 rfl rfl)
theorem dX2_reverse_23 : decode cX2_reverse 23 = .ok (.isub, 1) := dk_100 (dk_at dksX2_reverse_0 23 rfl rfl)
theorem dX2_reverse_24 : decode cX2_reverse 24 = .ok (.iconst 1, 1) := dk_4 (dk_at dksX2_reverse_1 0 rfl rfl)
theorem dX2_reverse_25 : decode cX2_reverse 25 = .ok (.isub, 1) := dk_100 (dk_at dksX2_reverse_1 1 rfl rfl)
theorem dX2_reverse_26 : decode cX2_reverse 26 = .ok (.saload, 1) := dk_53 (dk_at dksX2_reverse_1 2 rfl rfl)
theorem dX2_reverse_27 : decode cX2_reverse 27 = .ok (.istore 5, 2) := dk_54 5 (dk_at dksX2_reverse_1 3 rfl rfl)
theorem dX2_reverse_29 : decode cX2_reverse 29 = .ok (.aload_n 0, 1) := dk_42 (dk_at dksX2_reverse_1 5 rfl rfl)
theorem dX2_reverse_30 : decode cX2_reverse 30 = .ok (.iload_n 1, 1) := dk_27 (dk_at dksX2_reverse_1 6 rfl rfl)
theorem dX2_reverse_31 : decode cX2_reverse 31 = .ok (.iload_n 3, 1) := dk_29 (dk_at dksX2_reverse_1 7 rfl rfl)
theorem dX2_reverse_32 : decode cX2_reverse 32 = .ok (.iadd, 1) := dk_96 (dk_at dksX2_reverse_1 8 rfl rfl)
theorem dX2_reverse_33 : decode cX2_reverse 33 = .ok (.iload 4, 2) := dk_21 4 (dk_at dksX2_reverse_1 9 rfl rfl)
theorem dX2_reverse_35 : decode cX2_reverse 35 = .ok (.isub, 1) := dk_100 (dk_at dksX2_reverse_1 11 rfl rfl)
theorem dX2_reverse_36 : decode cX2_reverse 36 = .ok (.iconst 1, 1) := dk_4 (dk_at dksX2_reverse_1 12 rfl rfl)
theorem dX2_reverse_37 : decode cX2_reverse 37 = .ok (.isub, 1) := dk_100 (dk_at dksX2_reverse_1 13 rfl rfl)
theorem dX2_reverse_38 : decode cX2_reverse 38 = .ok (.aload_n 0, 1) := dk_42 (dk_at dksX2_reverse_1 14 rfl rfl)
theorem dX2_reverse_39 : decode cX2_reverse 39 = .ok (.iload_n 1, 1) := dk_27 (dk_at dksX2_reverse_1 15 rfl rfl)
theorem dX2_reverse_40 : decode cX2_reverse 40 = .ok (.iload 4, 2) := dk_21 4 (dk_at dksX2_reverse_1 16 rfl rfl)
theorem dX2_reverse_42 : decode cX2_reverse 42 = .ok (.iadd, 1) := dk_96 (dk_at dksX2_reverse_1 18 rfl rfl)
theorem dX2_reverse_43 : decode cX2_reverse 43 = .ok (.saload, 1) := dk_53 (dk_at dksX2_reverse_1 19 rfl rfl)
theorem dX2_reverse_44 : decode cX2_reverse 44 = .ok (.sastore, 1) := dk_86 (dk_at dksX2_reverse_1 20 rfl rfl)
theorem dX2_reverse_45 : decode cX2_reverse 45 = .ok (.aload_n 0, 1) := dk_42 (dk_at dksX2_reverse_1 21 rfl rfl)
theorem dX2_reverse_46 : decode cX2_reverse 46 = .ok (.iload_n 1, 1) := dk_27 (dk_at dksX2_reverse_1 22 rfl rfl)
theorem dX2_reverse_47 : decode cX2_reverse 47 = .ok (.iload 4, 2) := dk_21 4 (dk_at dksX2_reverse_2 0 rfl rfl)
theorem dX2_reverse_49 : decode cX2_reverse 49 = .ok (.iadd, 1) := dk_96 (dk_at dksX2_reverse_2 2 rfl rfl)
theorem dX2_reverse_50 : decode cX2_reverse 50 = .ok (.iload 5, 2) := dk_21 5 (dk_at dksX2_reverse_2 3 rfl rfl)
theorem dX2_reverse_52 : decode cX2_reverse 52 = .ok (.sastore, 1) := dk_86 (dk_at dksX2_reverse_2 5 rfl rfl)
theorem dX2_reverse_53 : decode cX2_reverse 53 = .ok (.goto (-44), 3) := dk_167 255 212 (dk_at dksX2_reverse_2 6 rfl rfl)
theorem dX2_reverse_56 : decode cX2_reverse 56 = .ok (.aload_n 0, 1) := dk_42 (dk_at dksX2_reverse_2 9 rfl rfl)
theorem dX2_reverse_57 : decode cX2_reverse 57 = .ok (.areturn, 1) := dk_176 (dk_at dksX2_reverse_2 10 rfl rfl)
abbrev cX2_binarySearch : ByteArray := prog_1_method_9_code
def yX2_binarySearch : MethodName := ⟨RX2, "binarySearch", "([SIIS)I"⟩
def dkwX2_binarySearch_2 : List UInt8 := [167, 0, 6, 21, 5, 172, 167, 255, 207, 27, 4, 96, 116, 172]
abbrev dktX2_binarySearch_2 : List UInt8 := dkwX2_binarySearch_2 ++ []
def dkwX2_binarySearch_1 : List UInt8 := [162, 0, 11, 21, 5, 4, 96, 60, 167, 0, 20, 21, 4, 29, 164, 0, 11, 21, 5, 4, 100, 61]
abbrev dktX2_binarySearch_1 : List UInt8 := dkwX2_binarySearch_1 ++ dktX2_binarySearch_2
def dkwX2_binarySearch_0 : List UInt8 := [132, 2, 255, 27, 28, 163, 0, 50, 27, 28, 96, 4, 124, 54, 5, 42, 21, 5, 53, 54, 4, 21, 4, 29]
abbrev dktX2_binarySearch_0 : List UInt8 := dkwX2_binarySearch_0 ++ dktX2_binarySearch_1
theorem dksX2_binarySearch_0 : cX2_binarySearch.data.toList.drop 0 = dktX2_binarySearch_0 := by decide +kernel
theorem dksX2_binarySearch_1 : cX2_binarySearch.data.toList.drop 24 = dktX2_binarySearch_1 := dk_seg dksX2_binarySearch_0 24 rfl rfl
theorem dksX2_binarySearch_2 : cX2_binarySearch.data.toList.drop 46 = dktX2_binarySearch_2 := dk_seg dksX2_binarySearch_1 22 rfl rfl
theorem dX2_binarySearch_0 : decode cX2_binarySearch 0 = .ok (.iinc 2 (-1), 3) := dk_132 2 255 (dk_at dksX2_binarySearch_0 0 rfl rfl)
theorem dX2_binarySearch_3 : decode cX2_binarySearch 3 = .ok (.iload_n 1, 1) := dk_27 (dk_at dksX2_binarySearch_0 3 rfl rfl)
theorem dX2_binarySearch_4 : decode cX2_binarySearch 4 = .ok (.iload_n 2, 1) := dk_28 (dk_at dksX2_binarySearch_0 4 rfl rfl)
theorem dX2_binarySearch_5 : decode cX2_binarySearch 5 = .ok (.if_icmp .gt 50, 3) := dk_163 0 50 (dk_at dksX2_binarySearch_0 5 rfl rfl)
theorem dX2_binarySearch_8 : decode cX2_binarySearch 8 = .ok (.iload_n 1, 1) := dk_27 (dk_at dksX2_binarySearch_0 8 rfl rfl)
theorem dX2_binarySearch_9 : decode cX2_binarySearch 9 = .ok (.iload_n 2, 1) := dk_28 (dk_at dksX2_binarySearch_0 9 rfl rfl)
theorem dX2_binarySearch_10 : decode cX2_binarySearch 10 = .ok (.iadd, 1) := dk_96 (dk_at dksX2_binarySearch_0 10 rfl rfl)
theorem dX2_binarySearch_11 : decode cX2_binarySearch 11 = .ok (.iconst 1, 1) := dk_4 (dk_at dksX2_binarySearch_0 11 rfl rfl)
theorem dX2_binarySearch_12 : decode cX2_binarySearch 12 = .ok (.iushr, 1) := dk_124 (dk_at dksX2_binarySearch_0 12 rfl rfl)
theorem dX2_binarySearch_13 : decode cX2_binarySearch 13 = .ok (.istore 5, 2) := dk_54 5 (dk_at dksX2_binarySearch_0 13 rfl rfl)
theorem dX2_binarySearch_15 : decode cX2_binarySearch 15 = .ok (.aload_n 0, 1) := dk_42 (dk_at dksX2_binarySearch_0 15 rfl rfl)
theorem dX2_binarySearch_16 : decode cX2_binarySearch 16 = .ok (.iload 5, 2) := dk_21 5 (dk_at dksX2_binarySearch_0 16 rfl rfl)
theorem dX2_binarySearch_18 : decode cX2_binarySearch 18 = .ok (.saload, 1) := dk_53 (dk_at dksX2_binarySearch_0 18 rfl rfl)
theorem dX2_binarySearch_19 : decode cX2_binarySearch 19 = .ok (.istore 4, 2) := dk_54 4 (dk_at dksX2_binarySearch_0 19 rfl rfl)
theorem dX2_binarySearch_21 : decode cX2_binarySearch 21 = .ok (.iload 4, 2) := dk_21 4 (dk_at dksX2_binarySearch_0 21 rfl rfl)
theorem dX2_binarySearch_23 : decode cX2_binarySearch 23 = .ok (.iload_n 3, 1) := dk_29 (dk_at dksX2_binarySearch_0 23 rfl rfl)
theorem dX2_binarySearch_24 : decode cX2_binarySearch 24 = .ok (.if_icmp .ge 11, 3) := dk_162 0 11 (dk_at dksX2_binarySearch_1 0 rfl rfl)
theorem dX2_binarySearch_27 : decode cX2_binarySearch 27 = .ok (.iload 5, 2) := dk_21 5 (dk_at dksX2_binarySearch_1 3 rfl rfl)
theorem dX2_binarySearch_29 : decode cX2_binarySearch 29 = .ok (.iconst 1, 1) := dk_4 (dk_at dksX2_binarySearch_1 5 rfl rfl)
theorem dX2_binarySearch_30 : decode cX2_binarySearch 30 = .ok (.iadd, 1) := dk_96 (dk_at dksX2_binarySearch_1 6 rfl rfl)
theorem dX2_binarySearch_31 : decode cX2_binarySearch 31 = .ok (.istore_n 1, 1) := dk_60 (dk_at dksX2_binarySearch_1 7 rfl rfl)
theorem dX2_binarySearch_32 : decode cX2_binarySearch 32 = .ok (.goto 20, 3) := dk_167 0 20 (dk_at dksX2_binarySearch_1 8 rfl rfl)
theorem dX2_binarySearch_35 : decode cX2_binarySearch 35 = .ok (.iload 4, 2) := dk_21 4 (dk_at dksX2_binarySearch_1 11 rfl rfl)
theorem dX2_binarySearch_37 : decode cX2_binarySearch 37 = .ok (.iload_n 3, 1) := dk_29 (dk_at dksX2_binarySearch_1 13 rfl rfl)
theorem dX2_binarySearch_38 : decode cX2_binarySearch 38 = .ok (.if_icmp .le 11, 3) := dk_164 0 11 (dk_at dksX2_binarySearch_1 14 rfl rfl)
theorem dX2_binarySearch_41 : decode cX2_binarySearch 41 = .ok (.iload 5, 2) := dk_21 5 (dk_at dksX2_binarySearch_1 17 rfl rfl)
theorem dX2_binarySearch_43 : decode cX2_binarySearch 43 = .ok (.iconst 1, 1) := dk_4 (dk_at dksX2_binarySearch_1 19 rfl rfl)
theorem dX2_binarySearch_44 : decode cX2_binarySearch 44 = .ok (.isub, 1) := dk_100 (dk_at dksX2_binarySearch_1 20 rfl rfl)
theorem dX2_binarySearch_45 : decode cX2_binarySearch 45 = .ok (.istore_n 2, 1) := dk_61 (dk_at dksX2_binarySearch_1 21 rfl rfl)
theorem dX2_binarySearch_46 : decode cX2_binarySearch 46 = .ok (.goto 6, 3) := dk_167 0 6 (dk_at dksX2_binarySearch_2 0 rfl rfl)
theorem dX2_binarySearch_49 : decode cX2_binarySearch 49 = .ok (.iload 5, 2) := dk_21 5 (dk_at dksX2_binarySearch_2 3 rfl rfl)
theorem dX2_binarySearch_51 : decode cX2_binarySearch 51 = .ok (.ireturn, 1) := dk_172 (dk_at dksX2_binarySearch_2 5 rfl rfl)
theorem dX2_binarySearch_52 : decode cX2_binarySearch 52 = .ok (.goto (-49), 3) := dk_167 255 207 (dk_at dksX2_binarySearch_2 6 rfl rfl)
theorem dX2_binarySearch_55 : decode cX2_binarySearch 55 = .ok (.iload_n 1, 1) := dk_27 (dk_at dksX2_binarySearch_2 9 rfl rfl)
theorem dX2_binarySearch_56 : decode cX2_binarySearch 56 = .ok (.iconst 1, 1) := dk_4 (dk_at dksX2_binarySearch_2 10 rfl rfl)
theorem dX2_binarySearch_57 : decode cX2_binarySearch 57 = .ok (.iadd, 1) := dk_96 (dk_at dksX2_binarySearch_2 11 rfl rfl)
theorem dX2_binarySearch_58 : decode cX2_binarySearch 58 = .ok (.ineg, 1) := dk_116 (dk_at dksX2_binarySearch_2 12 rfl rfl)
theorem dX2_binarySearch_59 : decode cX2_binarySearch 59 = .ok (.ireturn, 1) := dk_172 (dk_at dksX2_binarySearch_2 13 rfl rfl)
theorem q6 : (Jvm.Cond.initialized "ShortArrays") ∈ lw_all := lw_g (lw_at lw_m0 3 rfl) rfl
theorem q46 : (Jvm.Cond.static ({ cls := "ShortArrays", name := "quickSort", desc := "([SII)V" } : Jvm.MethodName)) ∈ lw_all := lw_g (lw_at lw_m0 43 rfl) rfl
theorem q47 : (Jvm.Cond.code ({ cls := "ShortArrays", name := "quickSort", desc := "([SII)V" } : Jvm.MethodName) prog_1_method_6_code (13 : Nat) (Option.none : Option Jvm.ClassFile.FieldType)) ∈ lw_all := lw_g (lw_at lw_m0 44 rfl) rfl
theorem q48 : (Jvm.Cond.methodLink "ShortArrays" (13 : Nat) ({ cls := "ShortArrays", name := "selectionSort", desc := "([SII)V" } : Jvm.MethodName)) ∈ lw_all := lw_g (lw_at lw_m0 45 rfl) rfl
theorem q49 : (Jvm.Cond.static ({ cls := "ShortArrays", name := "selectionSort", desc := "([SII)V" } : Jvm.MethodName)) ∈ lw_all := lw_g (lw_at lw_m0 46 rfl) rfl
theorem q50 : (Jvm.Cond.code ({ cls := "ShortArrays", name := "selectionSort", desc := "([SII)V" } : Jvm.MethodName) prog_1_method_4_code (6 : Nat) (Option.none : Option Jvm.ClassFile.FieldType)) ∈ lw_all := lw_g (lw_at lw_m0 47 rfl) rfl
theorem q51 : (Jvm.Cond.methodLink "ShortArrays" (16 : Nat) ({ cls := "ShortArrays", name := "med3", desc := "([SIII)I" } : Jvm.MethodName)) ∈ lw_all := lw_g (lw_at lw_m0 48 rfl) rfl
theorem q52 : (Jvm.Cond.static ({ cls := "ShortArrays", name := "med3", desc := "([SIII)I" } : Jvm.MethodName)) ∈ lw_all := lw_g (lw_at lw_m0 49 rfl) rfl
theorem q53 : (Jvm.Cond.code ({ cls := "ShortArrays", name := "med3", desc := "([SIII)I" } : Jvm.MethodName) prog_1_method_3_code (7 : Nat) (Option.some Jvm.ClassFile.FieldType.int)) ∈ lw_all := lw_g (lw_at lw_m0 50 rfl) rfl
theorem q54 : (Jvm.Cond.methodLink "ShortArrays" (9 : Nat) ({ cls := "java/lang/Short", name := "compare", desc := "(SS)I" } : Jvm.MethodName)) ∈ lw_all := lw_g (lw_at lw_m0 51 rfl) rfl
theorem q57 : (Jvm.Cond.methodLink "ShortArrays" (5 : Nat) ({ cls := "ShortArrays", name := "swap", desc := "([SII)V" } : Jvm.MethodName)) ∈ lw_all := lw_g (lw_at lw_m0 54 rfl) rfl
theorem q58 : (Jvm.Cond.static ({ cls := "ShortArrays", name := "swap", desc := "([SII)V" } : Jvm.MethodName)) ∈ lw_all := lw_g (lw_at lw_m0 55 rfl) rfl
theorem q59 : (Jvm.Cond.code ({ cls := "ShortArrays", name := "swap", desc := "([SII)V" } : Jvm.MethodName) prog_1_method_1_code (4 : Nat) (Option.none : Option Jvm.ClassFile.FieldType)) ∈ lw_all := lw_g (lw_at lw_m0 56 rfl) rfl
theorem q60 : (Jvm.Cond.methodLink "ShortArrays" (20 : Nat) ({ cls := "java/lang/Math", name := "min", desc := "(II)I" } : Jvm.MethodName)) ∈ lw_all := lw_g (lw_at lw_m0 57 rfl) rfl
theorem q63 : (Jvm.Cond.methodLink "ShortArrays" (26 : Nat) ({ cls := "ShortArrays", name := "swap", desc := "([SIII)V" } : Jvm.MethodName)) ∈ lw_all := lw_g (lw_at lw_m0 60 rfl) rfl
theorem q64 : (Jvm.Cond.static ({ cls := "ShortArrays", name := "swap", desc := "([SIII)V" } : Jvm.MethodName)) ∈ lw_all := lw_g (lw_at lw_m0 61 rfl) rfl
theorem q65 : (Jvm.Cond.code ({ cls := "ShortArrays", name := "swap", desc := "([SIII)V" } : Jvm.MethodName) prog_1_method_2_code (5 : Nat) (Option.none : Option Jvm.ClassFile.FieldType)) ∈ lw_all := lw_g (lw_at lw_m0 62 rfl) rfl
theorem q66 : (Jvm.Cond.methodLink "ShortArrays" (29 : Nat) ({ cls := "ShortArrays", name := "quickSort", desc := "([SII)V" } : Jvm.MethodName)) ∈ lw_all := lw_g (lw_at lw_m0 63 rfl) rfl
theorem q72 : (Jvm.Cond.static ({ cls := "ShortArrays", name := "mergeSort", desc := "([SII)V" } : Jvm.MethodName)) ∈ lw_all := lw_g (lw_at lw_m0 69 rfl) rfl
theorem q73 : (Jvm.Cond.code ({ cls := "ShortArrays", name := "mergeSort", desc := "([SII)V" } : Jvm.MethodName) prog_1_method_8_code (3 : Nat) (Option.none : Option Jvm.ClassFile.FieldType)) ∈ lw_all := lw_g (lw_at lw_m0 70 rfl) rfl
theorem q74 : (Jvm.Cond.classLink "ShortArrays" (51 : Nat) "[S") ∈ lw_all := lw_g (lw_at lw_m0 71 rfl) rfl
theorem q75 : (Jvm.Cond.methodLink "ShortArrays" (41 : Nat) ({ cls := "ShortArrays", name := "mergeSort", desc := "([SII[S)V" } : Jvm.MethodName)) ∈ lw_all := lw_g (lw_at lw_m0 72 rfl) rfl
theorem q76 : (Jvm.Cond.static ({ cls := "ShortArrays", name := "mergeSort", desc := "([SII[S)V" } : Jvm.MethodName)) ∈ lw_all := lw_g (lw_at lw_m0 73 rfl) rfl
theorem q77 : (Jvm.Cond.code ({ cls := "ShortArrays", name := "mergeSort", desc := "([SII[S)V" } : Jvm.MethodName) prog_1_method_7_code (9 : Nat) (Option.none : Option Jvm.ClassFile.FieldType)) ∈ lw_all := lw_g (lw_at lw_m0 74 rfl) rfl
theorem q78 : (Jvm.Cond.methodLink "ShortArrays" (32 : Nat) ({ cls := "ShortArrays", name := "insertionSort", desc := "([SII)V" } : Jvm.MethodName)) ∈ lw_all := lw_g (lw_at lw_m0 75 rfl) rfl
theorem q79 : (Jvm.Cond.static ({ cls := "ShortArrays", name := "insertionSort", desc := "([SII)V" } : Jvm.MethodName)) ∈ lw_all := lw_g (lw_at lw_m0 76 rfl) rfl
theorem q80 : (Jvm.Cond.code ({ cls := "ShortArrays", name := "insertionSort", desc := "([SII)V" } : Jvm.MethodName) prog_1_method_5_code (7 : Nat) (Option.none : Option Jvm.ClassFile.FieldType)) ∈ lw_all := lw_g (lw_at lw_m0 77 rfl) rfl
theorem q81 : (Jvm.Cond.methodLink "ShortArrays" (35 : Nat) ({ cls := "java/util/Arrays", name := "copyOf", desc := "([SI)[S" } : Jvm.MethodName)) ∈ lw_all := lw_g (lw_at lw_m0 78 rfl) rfl
theorem q95 : (Jvm.Cond.methodLink "ShortArrays" (45 : Nat) ({ cls := "java/lang/System", name := "arraycopy", desc := "(Ljava/lang/Object;ILjava/lang/Object;II)V" } : Jvm.MethodName)) ∈ lw_all := lw_g (lw_at lw_m0 92 rfl) rfl
theorem q101 : (Jvm.Cond.static ({ cls := "ShortArrays", name := "radixSort", desc := "([SII)V" } : Jvm.MethodName)) ∈ lw_all := lw_g (lw_at lw_m0 98 rfl) rfl
theorem q102 : (Jvm.Cond.code ({ cls := "ShortArrays", name := "radixSort", desc := "([SII)V" } : Jvm.MethodName) prog_1_method_10_code (21 : Nat) (Option.none : Option Jvm.ClassFile.FieldType)) ∈ lw_all := lw_g (lw_at lw_m0 99 rfl) rfl
theorem q109 : (Jvm.Cond.static ({ cls := "ShortArrays", name := "reverse", desc := "([SII)[S" } : Jvm.MethodName)) ∈ lw_all := lw_g (lw_at lw_m0 106 rfl) rfl
theorem q110 : (Jvm.Cond.code ({ cls := "ShortArrays", name := "reverse", desc := "([SII)[S" } : Jvm.MethodName) prog_1_method_11_code (6 : Nat) (Option.some (Jvm.ClassFile.FieldType.array Jvm.ClassFile.FieldType.short))) ∈ lw_all := lw_g (lw_at lw_m0 107 rfl) rfl
theorem q116 : (Jvm.Cond.static ({ cls := "ShortArrays", name := "binarySearch", desc := "([SIIS)I" } : Jvm.MethodName)) ∈ lw_all := lw_g (lw_at lw_m0 113 rfl) rfl
theorem q117 : (Jvm.Cond.code ({ cls := "ShortArrays", name := "binarySearch", desc := "([SIIS)I" } : Jvm.MethodName) prog_1_method_9_code (6 : Nat) (Option.some Jvm.ClassFile.FieldType.int)) ∈ lw_all := lw_g (lw_at lw_m0 114 rfl) rfl
end
section
/-! ShortSortDesk -/
set_option maxRecDepth 100000
def RX0 : String := "ShortSortDesk"
def TX0 : u_T := fun k => match k with
  | _ => ("ShortSortDesk", "row", "[S", true)
def tyX0 : Nat → FieldType := fun k => match k with
  | _ => .array .short
abbrev wsX00 : List Cond := u_ws RX0 TX0 1
theorem nmX0 : ∀ a, a < 1 → ∀ b, b < 1 → a ≠ b → (TX0 a).2.1 ≠ (TX0 b).2.1 := by decide +kernel
theorem tyX0_ok : ∀ k, k < 1 → parseFieldDescriptor (TX0 k).2.2.1 = some (tyX0 k) := by decide +kernel
abbrev cX0_init : ByteArray := prog_2_method_1_code
def yX0_init : MethodName := ⟨RX0, "<init>", "()V"⟩
def dkwX0_init_0 : List UInt8 := [42, 183, 0, 1, 42, 16, 48, 188, 9, 181, 0, 7, 177]
abbrev dktX0_init_0 : List UInt8 := dkwX0_init_0 ++ []
theorem dksX0_init_0 : cX0_init.data.toList.drop 0 = dktX0_init_0 := by decide +kernel
theorem dX0_init_0 : decode cX0_init 0 = .ok (.aload_n 0, 1) := dk_42 (dk_at dksX0_init_0 0 rfl rfl)
theorem dX0_init_1 : decode cX0_init 1 = .ok (.invokespecial 1, 3) := dk_183 0 1 (dk_at dksX0_init_0 1 rfl rfl)
theorem dX0_init_4 : decode cX0_init 4 = .ok (.aload_n 0, 1) := dk_42 (dk_at dksX0_init_0 4 rfl rfl)
theorem dX0_init_5 : decode cX0_init 5 = .ok (.bipush 48, 2) := dk_16 48 (dk_at dksX0_init_0 5 rfl rfl)
theorem dX0_init_7 : decode cX0_init 7 = .ok (.newarray .short, 2) := dk_188_9 (dk_at dksX0_init_0 7 rfl rfl)
theorem dX0_init_9 : decode cX0_init 9 = .ok (.putfield 7, 3) := dk_181 0 7 (dk_at dksX0_init_0 9 rfl rfl)
theorem dX0_init_12 : decode cX0_init 12 = .ok (.return_, 1) := dk_177 (dk_at dksX0_init_0 12 rfl rfl)
abbrev cX0_set : ByteArray := prog_2_method_2_code
def yX0_set : MethodName := ⟨RX0, "set", "(II)V"⟩
def dkwX0_set_0 : List UInt8 := [42, 180, 0, 7, 27, 18, 13, 126, 16, 48, 112, 28, 147, 86, 177]
abbrev dktX0_set_0 : List UInt8 := dkwX0_set_0 ++ []
theorem dksX0_set_0 : cX0_set.data.toList.drop 0 = dktX0_set_0 := by decide +kernel
theorem dX0_set_0 : decode cX0_set 0 = .ok (.aload_n 0, 1) := dk_42 (dk_at dksX0_set_0 0 rfl rfl)
theorem dX0_set_1 : decode cX0_set 1 = .ok (.getfield 7, 3) := dk_180 0 7 (dk_at dksX0_set_0 1 rfl rfl)
theorem dX0_set_4 : decode cX0_set 4 = .ok (.iload_n 1, 1) := dk_27 (dk_at dksX0_set_0 4 rfl rfl)
theorem dX0_set_5 : decode cX0_set 5 = .ok (.ldc 13, 2) := dk_18 13 (dk_at dksX0_set_0 5 rfl rfl)
theorem dX0_set_7 : decode cX0_set 7 = .ok (.iand, 1) := dk_126 (dk_at dksX0_set_0 7 rfl rfl)
theorem dX0_set_8 : decode cX0_set 8 = .ok (.bipush 48, 2) := dk_16 48 (dk_at dksX0_set_0 8 rfl rfl)
theorem dX0_set_10 : decode cX0_set 10 = .ok (.irem, 1) := dk_112 (dk_at dksX0_set_0 10 rfl rfl)
theorem dX0_set_11 : decode cX0_set 11 = .ok (.iload_n 2, 1) := dk_28 (dk_at dksX0_set_0 11 rfl rfl)
theorem dX0_set_12 : decode cX0_set 12 = .ok (.i2s, 1) := dk_147 (dk_at dksX0_set_0 12 rfl rfl)
theorem dX0_set_13 : decode cX0_set 13 = .ok (.sastore, 1) := dk_86 (dk_at dksX0_set_0 13 rfl rfl)
theorem dX0_set_14 : decode cX0_set 14 = .ok (.return_, 1) := dk_177 (dk_at dksX0_set_0 14 rfl rfl)
abbrev cX0_get : ByteArray := prog_2_method_3_code
def yX0_get : MethodName := ⟨RX0, "get", "(I)I"⟩
def dkwX0_get_0 : List UInt8 := [42, 180, 0, 7, 27, 18, 13, 126, 16, 48, 112, 53, 172]
abbrev dktX0_get_0 : List UInt8 := dkwX0_get_0 ++ []
theorem dksX0_get_0 : cX0_get.data.toList.drop 0 = dktX0_get_0 := by decide +kernel
theorem dX0_get_0 : decode cX0_get 0 = .ok (.aload_n 0, 1) := dk_42 (dk_at dksX0_get_0 0 rfl rfl)
theorem dX0_get_1 : decode cX0_get 1 = .ok (.getfield 7, 3) := dk_180 0 7 (dk_at dksX0_get_0 1 rfl rfl)
theorem dX0_get_4 : decode cX0_get 4 = .ok (.iload_n 1, 1) := dk_27 (dk_at dksX0_get_0 4 rfl rfl)
theorem dX0_get_5 : decode cX0_get 5 = .ok (.ldc 13, 2) := dk_18 13 (dk_at dksX0_get_0 5 rfl rfl)
theorem dX0_get_7 : decode cX0_get 7 = .ok (.iand, 1) := dk_126 (dk_at dksX0_get_0 7 rfl rfl)
theorem dX0_get_8 : decode cX0_get 8 = .ok (.bipush 48, 2) := dk_16 48 (dk_at dksX0_get_0 8 rfl rfl)
theorem dX0_get_10 : decode cX0_get 10 = .ok (.irem, 1) := dk_112 (dk_at dksX0_get_0 10 rfl rfl)
theorem dX0_get_11 : decode cX0_get 11 = .ok (.saload, 1) := dk_53 (dk_at dksX0_get_0 11 rfl rfl)
theorem dX0_get_12 : decode cX0_get 12 = .ok (.ireturn, 1) := dk_172 (dk_at dksX0_get_0 12 rfl rfl)
abbrev cX0_quick : ByteArray := prog_2_method_6_code
def yX0_quick : MethodName := ⟨RX0, "quick", "(II)V"⟩
def dkwX0_quick_0 : List UInt8 := [42, 27, 182, 0, 14, 62, 42, 180, 0, 7, 29, 42, 29, 28, 182, 0, 18, 184, 0, 22, 177]
abbrev dktX0_quick_0 : List UInt8 := dkwX0_quick_0 ++ []
theorem dksX0_quick_0 : cX0_quick.data.toList.drop 0 = dktX0_quick_0 := by decide +kernel
theorem dX0_quick_0 : decode cX0_quick 0 = .ok (.aload_n 0, 1) := dk_42 (dk_at dksX0_quick_0 0 rfl rfl)
theorem dX0_quick_1 : decode cX0_quick 1 = .ok (.iload_n 1, 1) := dk_27 (dk_at dksX0_quick_0 1 rfl rfl)
theorem dX0_quick_2 : decode cX0_quick 2 = .ok (.invokevirtual 14, 3) := dk_182 0 14 (dk_at dksX0_quick_0 2 rfl rfl)
theorem dX0_quick_5 : decode cX0_quick 5 = .ok (.istore_n 3, 1) := dk_62 (dk_at dksX0_quick_0 5 rfl rfl)
theorem dX0_quick_6 : decode cX0_quick 6 = .ok (.aload_n 0, 1) := dk_42 (dk_at dksX0_quick_0 6 rfl rfl)
theorem dX0_quick_7 : decode cX0_quick 7 = .ok (.getfield 7, 3) := dk_180 0 7 (dk_at dksX0_quick_0 7 rfl rfl)
theorem dX0_quick_10 : decode cX0_quick 10 = .ok (.iload_n 3, 1) := dk_29 (dk_at dksX0_quick_0 10 rfl rfl)
theorem dX0_quick_11 : decode cX0_quick 11 = .ok (.aload_n 0, 1) := dk_42 (dk_at dksX0_quick_0 11 rfl rfl)
theorem dX0_quick_12 : decode cX0_quick 12 = .ok (.iload_n 3, 1) := dk_29 (dk_at dksX0_quick_0 12 rfl rfl)
theorem dX0_quick_13 : decode cX0_quick 13 = .ok (.iload_n 2, 1) := dk_28 (dk_at dksX0_quick_0 13 rfl rfl)
theorem dX0_quick_14 : decode cX0_quick 14 = .ok (.invokevirtual 18, 3) := dk_182 0 18 (dk_at dksX0_quick_0 14 rfl rfl)
theorem dX0_quick_17 : decode cX0_quick 17 = .ok (.invokestatic 22, 3) := dk_184 0 22 (dk_at dksX0_quick_0 17 rfl rfl)
theorem dX0_quick_20 : decode cX0_quick 20 = .ok (.return_, 1) := dk_177 (dk_at dksX0_quick_0 20 rfl rfl)
abbrev cX0_from : ByteArray := prog_2_method_4_code
def yX0_from : MethodName := ⟨RX0, "from", "(I)I"⟩
def dkwX0_from_0 : List UInt8 := [27, 18, 13, 126, 16, 49, 112, 172]
abbrev dktX0_from_0 : List UInt8 := dkwX0_from_0 ++ []
theorem dksX0_from_0 : cX0_from.data.toList.drop 0 = dktX0_from_0 := by decide +kernel
theorem dX0_from_0 : decode cX0_from 0 = .ok (.iload_n 1, 1) := dk_27 (dk_at dksX0_from_0 0 rfl rfl)
theorem dX0_from_1 : decode cX0_from 1 = .ok (.ldc 13, 2) := dk_18 13 (dk_at dksX0_from_0 1 rfl rfl)
theorem dX0_from_3 : decode cX0_from 3 = .ok (.iand, 1) := dk_126 (dk_at dksX0_from_0 3 rfl rfl)
theorem dX0_from_4 : decode cX0_from 4 = .ok (.bipush 49, 2) := dk_16 49 (dk_at dksX0_from_0 4 rfl rfl)
theorem dX0_from_6 : decode cX0_from 6 = .ok (.irem, 1) := dk_112 (dk_at dksX0_from_0 6 rfl rfl)
theorem dX0_from_7 : decode cX0_from 7 = .ok (.ireturn, 1) := dk_172 (dk_at dksX0_from_0 7 rfl rfl)
abbrev cX0_to : ByteArray := prog_2_method_5_code
def yX0_to : MethodName := ⟨RX0, "to", "(II)I"⟩
def dkwX0_to_0 : List UInt8 := [27, 28, 18, 13, 126, 16, 49, 27, 100, 112, 96, 172]
abbrev dktX0_to_0 : List UInt8 := dkwX0_to_0 ++ []
theorem dksX0_to_0 : cX0_to.data.toList.drop 0 = dktX0_to_0 := by decide +kernel
theorem dX0_to_0 : decode cX0_to 0 = .ok (.iload_n 1, 1) := dk_27 (dk_at dksX0_to_0 0 rfl rfl)
theorem dX0_to_1 : decode cX0_to 1 = .ok (.iload_n 2, 1) := dk_28 (dk_at dksX0_to_0 1 rfl rfl)
theorem dX0_to_2 : decode cX0_to 2 = .ok (.ldc 13, 2) := dk_18 13 (dk_at dksX0_to_0 2 rfl rfl)
theorem dX0_to_4 : decode cX0_to 4 = .ok (.iand, 1) := dk_126 (dk_at dksX0_to_0 4 rfl rfl)
theorem dX0_to_5 : decode cX0_to 5 = .ok (.bipush 49, 2) := dk_16 49 (dk_at dksX0_to_0 5 rfl rfl)
theorem dX0_to_7 : decode cX0_to 7 = .ok (.iload_n 1, 1) := dk_27 (dk_at dksX0_to_0 7 rfl rfl)
theorem dX0_to_8 : decode cX0_to 8 = .ok (.isub, 1) := dk_100 (dk_at dksX0_to_0 8 rfl rfl)
theorem dX0_to_9 : decode cX0_to 9 = .ok (.irem, 1) := dk_112 (dk_at dksX0_to_0 9 rfl rfl)
theorem dX0_to_10 : decode cX0_to 10 = .ok (.iadd, 1) := dk_96 (dk_at dksX0_to_0 10 rfl rfl)
theorem dX0_to_11 : decode cX0_to 11 = .ok (.ireturn, 1) := dk_172 (dk_at dksX0_to_0 11 rfl rfl)
abbrev cX0_merge : ByteArray := prog_2_method_7_code
def yX0_merge : MethodName := ⟨RX0, "merge", "(II)V"⟩
def dkwX0_merge_0 : List UInt8 := [42, 27, 182, 0, 14, 62, 42, 180, 0, 7, 29, 42, 29, 28, 182, 0, 18, 184, 0, 28, 177]
abbrev dktX0_merge_0 : List UInt8 := dkwX0_merge_0 ++ []
theorem dksX0_merge_0 : cX0_merge.data.toList.drop 0 = dktX0_merge_0 := by decide +kernel
theorem dX0_merge_0 : decode cX0_merge 0 = .ok (.aload_n 0, 1) := dk_42 (dk_at dksX0_merge_0 0 rfl rfl)
theorem dX0_merge_1 : decode cX0_merge 1 = .ok (.iload_n 1, 1) := dk_27 (dk_at dksX0_merge_0 1 rfl rfl)
theorem dX0_merge_2 : decode cX0_merge 2 = .ok (.invokevirtual 14, 3) := dk_182 0 14 (dk_at dksX0_merge_0 2 rfl rfl)
theorem dX0_merge_5 : decode cX0_merge 5 = .ok (.istore_n 3, 1) := dk_62 (dk_at dksX0_merge_0 5 rfl rfl)
theorem dX0_merge_6 : decode cX0_merge 6 = .ok (.aload_n 0, 1) := dk_42 (dk_at dksX0_merge_0 6 rfl rfl)
theorem dX0_merge_7 : decode cX0_merge 7 = .ok (.getfield 7, 3) := dk_180 0 7 (dk_at dksX0_merge_0 7 rfl rfl)
theorem dX0_merge_10 : decode cX0_merge 10 = .ok (.iload_n 3, 1) := dk_29 (dk_at dksX0_merge_0 10 rfl rfl)
theorem dX0_merge_11 : decode cX0_merge 11 = .ok (.aload_n 0, 1) := dk_42 (dk_at dksX0_merge_0 11 rfl rfl)
theorem dX0_merge_12 : decode cX0_merge 12 = .ok (.iload_n 3, 1) := dk_29 (dk_at dksX0_merge_0 12 rfl rfl)
theorem dX0_merge_13 : decode cX0_merge 13 = .ok (.iload_n 2, 1) := dk_28 (dk_at dksX0_merge_0 13 rfl rfl)
theorem dX0_merge_14 : decode cX0_merge 14 = .ok (.invokevirtual 18, 3) := dk_182 0 18 (dk_at dksX0_merge_0 14 rfl rfl)
theorem dX0_merge_17 : decode cX0_merge 17 = .ok (.invokestatic 28, 3) := dk_184 0 28 (dk_at dksX0_merge_0 17 rfl rfl)
theorem dX0_merge_20 : decode cX0_merge 20 = .ok (.return_, 1) := dk_177 (dk_at dksX0_merge_0 20 rfl rfl)
abbrev cX0_radix : ByteArray := prog_2_method_8_code
def yX0_radix : MethodName := ⟨RX0, "radix", "(II)V"⟩
def dkwX0_radix_0 : List UInt8 := [42, 27, 182, 0, 14, 62, 42, 180, 0, 7, 29, 42, 29, 28, 182, 0, 18, 184, 0, 31, 177]
abbrev dktX0_radix_0 : List UInt8 := dkwX0_radix_0 ++ []
theorem dksX0_radix_0 : cX0_radix.data.toList.drop 0 = dktX0_radix_0 := by decide +kernel
theorem dX0_radix_0 : decode cX0_radix 0 = .ok (.aload_n 0, 1) := dk_42 (dk_at dksX0_radix_0 0 rfl rfl)
theorem dX0_radix_1 : decode cX0_radix 1 = .ok (.iload_n 1, 1) := dk_27 (dk_at dksX0_radix_0 1 rfl rfl)
theorem dX0_radix_2 : decode cX0_radix 2 = .ok (.invokevirtual 14, 3) := dk_182 0 14 (dk_at dksX0_radix_0 2 rfl rfl)
theorem dX0_radix_5 : decode cX0_radix 5 = .ok (.istore_n 3, 1) := dk_62 (dk_at dksX0_radix_0 5 rfl rfl)
theorem dX0_radix_6 : decode cX0_radix 6 = .ok (.aload_n 0, 1) := dk_42 (dk_at dksX0_radix_0 6 rfl rfl)
theorem dX0_radix_7 : decode cX0_radix 7 = .ok (.getfield 7, 3) := dk_180 0 7 (dk_at dksX0_radix_0 7 rfl rfl)
theorem dX0_radix_10 : decode cX0_radix 10 = .ok (.iload_n 3, 1) := dk_29 (dk_at dksX0_radix_0 10 rfl rfl)
theorem dX0_radix_11 : decode cX0_radix 11 = .ok (.aload_n 0, 1) := dk_42 (dk_at dksX0_radix_0 11 rfl rfl)
theorem dX0_radix_12 : decode cX0_radix 12 = .ok (.iload_n 3, 1) := dk_29 (dk_at dksX0_radix_0 12 rfl rfl)
theorem dX0_radix_13 : decode cX0_radix 13 = .ok (.iload_n 2, 1) := dk_28 (dk_at dksX0_radix_0 13 rfl rfl)
theorem dX0_radix_14 : decode cX0_radix 14 = .ok (.invokevirtual 18, 3) := dk_182 0 18 (dk_at dksX0_radix_0 14 rfl rfl)
theorem dX0_radix_17 : decode cX0_radix 17 = .ok (.invokestatic 31, 3) := dk_184 0 31 (dk_at dksX0_radix_0 17 rfl rfl)
theorem dX0_radix_20 : decode cX0_radix 20 = .ok (.return_, 1) := dk_177 (dk_at dksX0_radix_0 20 rfl rfl)
abbrev cX0_reverse : ByteArray := prog_2_method_9_code
def yX0_reverse : MethodName := ⟨RX0, "reverse", "(II)V"⟩
def dkwX0_reverse_0 : List UInt8 := [42, 27, 182, 0, 14, 62, 42, 180, 0, 7, 29, 42, 29, 28, 182, 0, 18, 184, 0, 34, 87, 177]
abbrev dktX0_reverse_0 : List UInt8 := dkwX0_reverse_0 ++ []
theorem dksX0_reverse_0 : cX0_reverse.data.toList.drop 0 = dktX0_reverse_0 := by decide +kernel
theorem dX0_reverse_0 : decode cX0_reverse 0 = .ok (.aload_n 0, 1) := dk_42 (dk_at dksX0_reverse_0 0 rfl rfl)
theorem dX0_reverse_1 : decode cX0_reverse 1 = .ok (.iload_n 1, 1) := dk_27 (dk_at dksX0_reverse_0 1 rfl rfl)
theorem dX0_reverse_2 : decode cX0_reverse 2 = .ok (.invokevirtual 14, 3) := dk_182 0 14 (dk_at dksX0_reverse_0 2 rfl rfl)
theorem dX0_reverse_5 : decode cX0_reverse 5 = .ok (.istore_n 3, 1) := dk_62 (dk_at dksX0_reverse_0 5 rfl rfl)
theorem dX0_reverse_6 : decode cX0_reverse 6 = .ok (.aload_n 0, 1) := dk_42 (dk_at dksX0_reverse_0 6 rfl rfl)
theorem dX0_reverse_7 : decode cX0_reverse 7 = .ok (.getfield 7, 3) := dk_180 0 7 (dk_at dksX0_reverse_0 7 rfl rfl)
theorem dX0_reverse_10 : decode cX0_reverse 10 = .ok (.iload_n 3, 1) := dk_29 (dk_at dksX0_reverse_0 10 rfl rfl)
theorem dX0_reverse_11 : decode cX0_reverse 11 = .ok (.aload_n 0, 1) := dk_42 (dk_at dksX0_reverse_0 11 rfl rfl)
theorem dX0_reverse_12 : decode cX0_reverse 12 = .ok (.iload_n 3, 1) := dk_29 (dk_at dksX0_reverse_0 12 rfl rfl)
theorem dX0_reverse_13 : decode cX0_reverse 13 = .ok (.iload_n 2, 1) := dk_28 (dk_at dksX0_reverse_0 13 rfl rfl)
theorem dX0_reverse_14 : decode cX0_reverse 14 = .ok (.invokevirtual 18, 3) := dk_182 0 18 (dk_at dksX0_reverse_0 14 rfl rfl)
theorem dX0_reverse_17 : decode cX0_reverse 17 = .ok (.invokestatic 34, 3) := dk_184 0 34 (dk_at dksX0_reverse_0 17 rfl rfl)
theorem dX0_reverse_20 : decode cX0_reverse 20 = .ok (.pop, 1) := dk_87 (dk_at dksX0_reverse_0 20 rfl rfl)
theorem dX0_reverse_21 : decode cX0_reverse 21 = .ok (.return_, 1) := dk_177 (dk_at dksX0_reverse_0 21 rfl rfl)
abbrev cX0_find : ByteArray := prog_2_method_10_code
def yX0_find : MethodName := ⟨RX0, "find", "(III)I"⟩
def dkwX0_find_2 : List UInt8 := [16, 156, 172, 132, 6, 1, 167, 255, 224, 42, 180, 0, 7, 21, 4, 21, 5, 29, 147, 184, 0, 38, 172]
abbrev dktX0_find_2 : List UInt8 := dkwX0_find_2 ++ []
def dkwX0_find_1 : List UInt8 := [21, 5, 162, 0, 31, 42, 180, 0, 7, 21, 6, 4, 100, 53, 42, 180, 0, 7, 21, 6, 53, 161, 0, 6]
abbrev dktX0_find_1 : List UInt8 := dkwX0_find_1 ++ dktX0_find_2
def dkwX0_find_0 : List UInt8 := [42, 27, 182, 0, 14, 54, 4, 42, 21, 4, 28, 182, 0, 18, 54, 5, 21, 4, 4, 96, 54, 6, 21, 6]
abbrev dktX0_find_0 : List UInt8 := dkwX0_find_0 ++ dktX0_find_1
theorem dksX0_find_0 : cX0_find.data.toList.drop 0 = dktX0_find_0 := by decide +kernel
theorem dksX0_find_1 : cX0_find.data.toList.drop 24 = dktX0_find_1 := dk_seg dksX0_find_0 24 rfl rfl
theorem dksX0_find_2 : cX0_find.data.toList.drop 48 = dktX0_find_2 := dk_seg dksX0_find_1 24 rfl rfl
theorem dX0_find_0 : decode cX0_find 0 = .ok (.aload_n 0, 1) := dk_42 (dk_at dksX0_find_0 0 rfl rfl)
theorem dX0_find_1 : decode cX0_find 1 = .ok (.iload_n 1, 1) := dk_27 (dk_at dksX0_find_0 1 rfl rfl)
theorem dX0_find_2 : decode cX0_find 2 = .ok (.invokevirtual 14, 3) := dk_182 0 14 (dk_at dksX0_find_0 2 rfl rfl)
theorem dX0_find_5 : decode cX0_find 5 = .ok (.istore 4, 2) := dk_54 4 (dk_at dksX0_find_0 5 rfl rfl)
theorem dX0_find_7 : decode cX0_find 7 = .ok (.aload_n 0, 1) := dk_42 (dk_at dksX0_find_0 7 rfl rfl)
theorem dX0_find_8 : decode cX0_find 8 = .ok (.iload 4, 2) := dk_21 4 (dk_at dksX0_find_0 8 rfl rfl)
theorem dX0_find_10 : decode cX0_find 10 = .ok (.iload_n 2, 1) := dk_28 (dk_at dksX0_find_0 10 rfl rfl)
theorem dX0_find_11 : decode cX0_find 11 = .ok (.invokevirtual 18, 3) := dk_182 0 18 (dk_at dksX0_find_0 11 rfl rfl)
theorem dX0_find_14 : decode cX0_find 14 = .ok (.istore 5, 2) := dk_54 5 (dk_at dksX0_find_0 14 rfl rfl)
theorem dX0_find_16 : decode cX0_find 16 = .ok (.iload 4, 2) := dk_21 4 (dk_at dksX0_find_0 16 rfl rfl)
theorem dX0_find_18 : decode cX0_find 18 = .ok (.iconst 1, 1) := dk_4 (dk_at dksX0_find_0 18 rfl rfl)
theorem dX0_find_19 : decode cX0_find 19 = .ok (.iadd, 1) := dk_96 (dk_at dksX0_find_0 19 rfl rfl)
theorem dX0_find_20 : decode cX0_find 20 = .ok (.istore 6, 2) := dk_54 6 (dk_at dksX0_find_0 20 rfl rfl)
theorem dX0_find_22 : decode cX0_find 22 = .ok (.iload 6, 2) := dk_21 6 (dk_at dksX0_find_0 22 rfl rfl)
theorem dX0_find_24 : decode cX0_find 24 = .ok (.iload 5, 2) := dk_21 5 (dk_at dksX0_find_1 0 rfl rfl)
theorem dX0_find_26 : decode cX0_find 26 = .ok (.if_icmp .ge 31, 3) := dk_162 0 31 (dk_at dksX0_find_1 2 rfl rfl)
theorem dX0_find_29 : decode cX0_find 29 = .ok (.aload_n 0, 1) := dk_42 (dk_at dksX0_find_1 5 rfl rfl)
theorem dX0_find_30 : decode cX0_find 30 = .ok (.getfield 7, 3) := dk_180 0 7 (dk_at dksX0_find_1 6 rfl rfl)
theorem dX0_find_33 : decode cX0_find 33 = .ok (.iload 6, 2) := dk_21 6 (dk_at dksX0_find_1 9 rfl rfl)
theorem dX0_find_35 : decode cX0_find 35 = .ok (.iconst 1, 1) := dk_4 (dk_at dksX0_find_1 11 rfl rfl)
theorem dX0_find_36 : decode cX0_find 36 = .ok (.isub, 1) := dk_100 (dk_at dksX0_find_1 12 rfl rfl)
theorem dX0_find_37 : decode cX0_find 37 = .ok (.saload, 1) := dk_53 (dk_at dksX0_find_1 13 rfl rfl)
theorem dX0_find_38 : decode cX0_find 38 = .ok (.aload_n 0, 1) := dk_42 (dk_at dksX0_find_1 14 rfl rfl)
theorem dX0_find_39 : decode cX0_find 39 = .ok (.getfield 7, 3) := dk_180 0 7 (dk_at dksX0_find_1 15 rfl rfl)
theorem dX0_find_42 : decode cX0_find 42 = .ok (.iload 6, 2) := dk_21 6 (dk_at dksX0_find_1 18 rfl rfl)
theorem dX0_find_44 : decode cX0_find 44 = .ok (.saload, 1) := dk_53 (dk_at dksX0_find_1 20 rfl rfl)
theorem dX0_find_45 : decode cX0_find 45 = .ok (.if_icmp .lt 6, 3) := dk_161 0 6 (dk_at dksX0_find_1 21 rfl rfl)
theorem dX0_find_48 : decode cX0_find 48 = .ok (.bipush (-100), 2) := dk_16 156 (dk_at dksX0_find_2 0 rfl rfl)
theorem dX0_find_50 : decode cX0_find 50 = .ok (.ireturn, 1) := dk_172 (dk_at dksX0_find_2 2 rfl rfl)
theorem dX0_find_51 : decode cX0_find 51 = .ok (.iinc 6 1, 3) := dk_132 6 1 (dk_at dksX0_find_2 3 rfl rfl)
theorem dX0_find_54 : decode cX0_find 54 = .ok (.goto (-32), 3) := dk_167 255 224 (dk_at dksX0_find_2 6 rfl rfl)
theorem dX0_find_57 : decode cX0_find 57 = .ok (.aload_n 0, 1) := dk_42 (dk_at dksX0_find_2 9 rfl rfl)
theorem dX0_find_58 : decode cX0_find 58 = .ok (.getfield 7, 3) := dk_180 0 7 (dk_at dksX0_find_2 10 rfl rfl)
theorem dX0_find_61 : decode cX0_find 61 = .ok (.iload 4, 2) := dk_21 4 (dk_at dksX0_find_2 13 rfl rfl)
theorem dX0_find_63 : decode cX0_find 63 = .ok (.iload 5, 2) := dk_21 5 (dk_at dksX0_find_2 15 rfl rfl)
theorem dX0_find_65 : decode cX0_find 65 = .ok (.iload_n 3, 1) := dk_29 (dk_at dksX0_find_2 17 rfl rfl)
theorem dX0_find_66 : decode cX0_find 66 = .ok (.i2s, 1) := dk_147 (dk_at dksX0_find_2 18 rfl rfl)
theorem dX0_find_67 : decode cX0_find 67 = .ok (.invokestatic 38, 3) := dk_184 0 38 (dk_at dksX0_find_2 19 rfl rfl)
theorem dX0_find_70 : decode cX0_find 70 = .ok (.ireturn, 1) := dk_172 (dk_at dksX0_find_2 22 rfl rfl)
theorem q4 : (Jvm.Cond.initialized "ShortSortDesk") ∈ lw_all := lw_g (lw_at lw_m0 1 rfl) rfl
theorem q12 : (Jvm.Cond.instantiable "ShortSortDesk" (1 : Nat)) ∈ lw_all := lw_g (lw_at lw_m0 9 rfl) rfl
theorem q14 : (Jvm.Cond.instanceMethod ({ cls := "ShortSortDesk", name := "<init>", desc := "()V" } : Jvm.MethodName)) ∈ lw_all := lw_g (lw_at lw_m0 11 rfl) rfl
theorem q15 : (Jvm.Cond.code ({ cls := "ShortSortDesk", name := "<init>", desc := "()V" } : Jvm.MethodName) prog_2_method_1_code (1 : Nat) (Option.none : Option Jvm.ClassFile.FieldType)) ∈ lw_all := lw_g (lw_at lw_m0 12 rfl) rfl
theorem q16 : (Jvm.Cond.methodLink "ShortSortDesk" (1 : Nat) ({ cls := "java/lang/Object", name := "<init>", desc := "()V" } : Jvm.MethodName)) ∈ lw_all := lw_g (lw_at lw_m0 13 rfl) rfl
theorem q19 : (Jvm.Cond.fieldLink "ShortSortDesk" (7 : Nat) "ShortSortDesk" "row" "[S") ∈ lw_all := lw_g (lw_at lw_m0 16 rfl) rfl
theorem q20 : (Jvm.Cond.laysFinal "ShortSortDesk" "ShortSortDesk" "row" "[S") ∈ lw_all := lw_g (lw_at lw_m0 17 rfl) rfl
theorem q21 : (Jvm.Cond.soleField "ShortSortDesk" "row") ∈ lw_all := lw_g (lw_at lw_m0 18 rfl) rfl
theorem q22 : (Jvm.Cond.superclass "ShortSortDesk" "java/lang/Object") ∈ lw_all := lw_g (lw_at lw_m0 19 rfl) rfl
theorem q25 : (Jvm.Cond.instanceMethod ({ cls := "ShortSortDesk", name := "set", desc := "(II)V" } : Jvm.MethodName)) ∈ lw_all := lw_g (lw_at lw_m0 22 rfl) rfl
theorem q26 : (Jvm.Cond.selects "ShortSortDesk" ({ cls := "ShortSortDesk", name := "set", desc := "(II)V" } : Jvm.MethodName) ({ cls := "ShortSortDesk", name := "set", desc := "(II)V" } : Jvm.MethodName)) ∈ lw_all := lw_g (lw_at lw_m0 23 rfl) rfl
theorem q27 : (Jvm.Cond.code ({ cls := "ShortSortDesk", name := "set", desc := "(II)V" } : Jvm.MethodName) prog_2_method_2_code (3 : Nat) (Option.none : Option Jvm.ClassFile.FieldType)) ∈ lw_all := lw_g (lw_at lw_m0 24 rfl) rfl
theorem q28 : (Jvm.Cond.constant "ShortSortDesk" (13 : Nat) (2147483647 : Int32)) ∈ lw_all := lw_g (lw_at lw_m0 25 rfl) rfl
theorem q30 : (Jvm.Cond.instanceMethod ({ cls := "ShortSortDesk", name := "get", desc := "(I)I" } : Jvm.MethodName)) ∈ lw_all := lw_g (lw_at lw_m0 27 rfl) rfl
theorem q31 : (Jvm.Cond.selects "ShortSortDesk" ({ cls := "ShortSortDesk", name := "get", desc := "(I)I" } : Jvm.MethodName) ({ cls := "ShortSortDesk", name := "get", desc := "(I)I" } : Jvm.MethodName)) ∈ lw_all := lw_g (lw_at lw_m0 28 rfl) rfl
theorem q32 : (Jvm.Cond.code ({ cls := "ShortSortDesk", name := "get", desc := "(I)I" } : Jvm.MethodName) prog_2_method_3_code (2 : Nat) (Option.some Jvm.ClassFile.FieldType.int)) ∈ lw_all := lw_g (lw_at lw_m0 29 rfl) rfl
theorem q34 : (Jvm.Cond.instanceMethod ({ cls := "ShortSortDesk", name := "quick", desc := "(II)V" } : Jvm.MethodName)) ∈ lw_all := lw_g (lw_at lw_m0 31 rfl) rfl
theorem q35 : (Jvm.Cond.selects "ShortSortDesk" ({ cls := "ShortSortDesk", name := "quick", desc := "(II)V" } : Jvm.MethodName) ({ cls := "ShortSortDesk", name := "quick", desc := "(II)V" } : Jvm.MethodName)) ∈ lw_all := lw_g (lw_at lw_m0 32 rfl) rfl
theorem q36 : (Jvm.Cond.code ({ cls := "ShortSortDesk", name := "quick", desc := "(II)V" } : Jvm.MethodName) prog_2_method_6_code (4 : Nat) (Option.none : Option Jvm.ClassFile.FieldType)) ∈ lw_all := lw_g (lw_at lw_m0 33 rfl) rfl
theorem q37 : (Jvm.Cond.methodLink "ShortSortDesk" (14 : Nat) ({ cls := "ShortSortDesk", name := "from", desc := "(I)I" } : Jvm.MethodName)) ∈ lw_all := lw_g (lw_at lw_m0 34 rfl) rfl
theorem q38 : (Jvm.Cond.privateMethod ({ cls := "ShortSortDesk", name := "from", desc := "(I)I" } : Jvm.MethodName)) ∈ lw_tbl := lw_at lw_m0 35 rfl
theorem q39 : (Jvm.Cond.instanceMethod ({ cls := "ShortSortDesk", name := "from", desc := "(I)I" } : Jvm.MethodName)) ∈ lw_all := lw_g (lw_at lw_m0 36 rfl) rfl
theorem q40 : (Jvm.Cond.code ({ cls := "ShortSortDesk", name := "from", desc := "(I)I" } : Jvm.MethodName) prog_2_method_4_code (2 : Nat) (Option.some Jvm.ClassFile.FieldType.int)) ∈ lw_all := lw_g (lw_at lw_m0 37 rfl) rfl
theorem q41 : (Jvm.Cond.methodLink "ShortSortDesk" (18 : Nat) ({ cls := "ShortSortDesk", name := "to", desc := "(II)I" } : Jvm.MethodName)) ∈ lw_all := lw_g (lw_at lw_m0 38 rfl) rfl
theorem q42 : (Jvm.Cond.privateMethod ({ cls := "ShortSortDesk", name := "to", desc := "(II)I" } : Jvm.MethodName)) ∈ lw_tbl := lw_at lw_m0 39 rfl
theorem q43 : (Jvm.Cond.instanceMethod ({ cls := "ShortSortDesk", name := "to", desc := "(II)I" } : Jvm.MethodName)) ∈ lw_all := lw_g (lw_at lw_m0 40 rfl) rfl
theorem q44 : (Jvm.Cond.code ({ cls := "ShortSortDesk", name := "to", desc := "(II)I" } : Jvm.MethodName) prog_2_method_5_code (3 : Nat) (Option.some Jvm.ClassFile.FieldType.int)) ∈ lw_all := lw_g (lw_at lw_m0 41 rfl) rfl
theorem q45 : (Jvm.Cond.methodLink "ShortSortDesk" (22 : Nat) ({ cls := "ShortArrays", name := "quickSort", desc := "([SII)V" } : Jvm.MethodName)) ∈ lw_all := lw_g (lw_at lw_m0 42 rfl) rfl
theorem q68 : (Jvm.Cond.instanceMethod ({ cls := "ShortSortDesk", name := "merge", desc := "(II)V" } : Jvm.MethodName)) ∈ lw_all := lw_g (lw_at lw_m0 65 rfl) rfl
theorem q69 : (Jvm.Cond.selects "ShortSortDesk" ({ cls := "ShortSortDesk", name := "merge", desc := "(II)V" } : Jvm.MethodName) ({ cls := "ShortSortDesk", name := "merge", desc := "(II)V" } : Jvm.MethodName)) ∈ lw_all := lw_g (lw_at lw_m0 66 rfl) rfl
theorem q70 : (Jvm.Cond.code ({ cls := "ShortSortDesk", name := "merge", desc := "(II)V" } : Jvm.MethodName) prog_2_method_7_code (4 : Nat) (Option.none : Option Jvm.ClassFile.FieldType)) ∈ lw_all := lw_g (lw_at lw_m0 67 rfl) rfl
theorem q71 : (Jvm.Cond.methodLink "ShortSortDesk" (28 : Nat) ({ cls := "ShortArrays", name := "mergeSort", desc := "([SII)V" } : Jvm.MethodName)) ∈ lw_all := lw_g (lw_at lw_m0 68 rfl) rfl
theorem q97 : (Jvm.Cond.instanceMethod ({ cls := "ShortSortDesk", name := "radix", desc := "(II)V" } : Jvm.MethodName)) ∈ lw_all := lw_g (lw_at lw_m0 94 rfl) rfl
theorem q98 : (Jvm.Cond.selects "ShortSortDesk" ({ cls := "ShortSortDesk", name := "radix", desc := "(II)V" } : Jvm.MethodName) ({ cls := "ShortSortDesk", name := "radix", desc := "(II)V" } : Jvm.MethodName)) ∈ lw_all := lw_g (lw_at lw_m0 95 rfl) rfl
theorem q99 : (Jvm.Cond.code ({ cls := "ShortSortDesk", name := "radix", desc := "(II)V" } : Jvm.MethodName) prog_2_method_8_code (4 : Nat) (Option.none : Option Jvm.ClassFile.FieldType)) ∈ lw_all := lw_g (lw_at lw_m0 96 rfl) rfl
theorem q100 : (Jvm.Cond.methodLink "ShortSortDesk" (31 : Nat) ({ cls := "ShortArrays", name := "radixSort", desc := "([SII)V" } : Jvm.MethodName)) ∈ lw_all := lw_g (lw_at lw_m0 97 rfl) rfl
theorem q105 : (Jvm.Cond.instanceMethod ({ cls := "ShortSortDesk", name := "reverse", desc := "(II)V" } : Jvm.MethodName)) ∈ lw_all := lw_g (lw_at lw_m0 102 rfl) rfl
theorem q106 : (Jvm.Cond.selects "ShortSortDesk" ({ cls := "ShortSortDesk", name := "reverse", desc := "(II)V" } : Jvm.MethodName) ({ cls := "ShortSortDesk", name := "reverse", desc := "(II)V" } : Jvm.MethodName)) ∈ lw_all := lw_g (lw_at lw_m0 103 rfl) rfl
theorem q107 : (Jvm.Cond.code ({ cls := "ShortSortDesk", name := "reverse", desc := "(II)V" } : Jvm.MethodName) prog_2_method_9_code (4 : Nat) (Option.none : Option Jvm.ClassFile.FieldType)) ∈ lw_all := lw_g (lw_at lw_m0 104 rfl) rfl
theorem q108 : (Jvm.Cond.methodLink "ShortSortDesk" (34 : Nat) ({ cls := "ShortArrays", name := "reverse", desc := "([SII)[S" } : Jvm.MethodName)) ∈ lw_all := lw_g (lw_at lw_m0 105 rfl) rfl
theorem q112 : (Jvm.Cond.instanceMethod ({ cls := "ShortSortDesk", name := "find", desc := "(III)I" } : Jvm.MethodName)) ∈ lw_all := lw_g (lw_at lw_m0 109 rfl) rfl
theorem q113 : (Jvm.Cond.selects "ShortSortDesk" ({ cls := "ShortSortDesk", name := "find", desc := "(III)I" } : Jvm.MethodName) ({ cls := "ShortSortDesk", name := "find", desc := "(III)I" } : Jvm.MethodName)) ∈ lw_all := lw_g (lw_at lw_m0 110 rfl) rfl
theorem q114 : (Jvm.Cond.code ({ cls := "ShortSortDesk", name := "find", desc := "(III)I" } : Jvm.MethodName) prog_2_method_10_code (7 : Nat) (Option.some Jvm.ClassFile.FieldType.int)) ∈ lw_all := lw_g (lw_at lw_m0 111 rfl) rfl
theorem q115 : (Jvm.Cond.methodLink "ShortSortDesk" (38 : Nat) ({ cls := "ShortArrays", name := "binarySearch", desc := "([SIIS)I" } : Jvm.MethodName)) ∈ lw_all := lw_g (lw_at lw_m0 112 rfl) rfl
theorem in_X0 : ∀ w ∈ wsX00, w ∈ lw_all := lw_in wsX00 [20] (by decide +kernel) (by decide +kernel)
/-! ShortSortDeskModel -/
set_option maxRecDepth 100000
def RX1 : String := "ShortSortDeskModel"
def TX1 : u_T := fun k => match k with
  | _ => ("ShortSortDeskModel", "cells", "[I", true)
def tyX1 : Nat → FieldType := fun k => match k with
  | _ => .array .int
abbrev wsX10 : List Cond := u_ws RX1 TX1 1
theorem nmX1 : ∀ a, a < 1 → ∀ b, b < 1 → a ≠ b → (TX1 a).2.1 ≠ (TX1 b).2.1 := by decide +kernel
theorem tyX1_ok : ∀ k, k < 1 → parseFieldDescriptor (TX1 k).2.2.1 = some (tyX1 k) := by decide +kernel
abbrev cX1_init : ByteArray := prog_4_method_1_code
def yX1_init : MethodName := ⟨RX1, "<init>", "()V"⟩
def dkwX1_init_0 : List UInt8 := [42, 183, 0, 1, 42, 16, 48, 188, 10, 181, 0, 7, 177]
abbrev dktX1_init_0 : List UInt8 := dkwX1_init_0 ++ []
theorem dksX1_init_0 : cX1_init.data.toList.drop 0 = dktX1_init_0 := by decide +kernel
theorem dX1_init_0 : decode cX1_init 0 = .ok (.aload_n 0, 1) := dk_42 (dk_at dksX1_init_0 0 rfl rfl)
theorem dX1_init_1 : decode cX1_init 1 = .ok (.invokespecial 1, 3) := dk_183 0 1 (dk_at dksX1_init_0 1 rfl rfl)
theorem dX1_init_4 : decode cX1_init 4 = .ok (.aload_n 0, 1) := dk_42 (dk_at dksX1_init_0 4 rfl rfl)
theorem dX1_init_5 : decode cX1_init 5 = .ok (.bipush 48, 2) := dk_16 48 (dk_at dksX1_init_0 5 rfl rfl)
theorem dX1_init_7 : decode cX1_init 7 = .ok (.newarray .int, 2) := dk_188_10 (dk_at dksX1_init_0 7 rfl rfl)
theorem dX1_init_9 : decode cX1_init 9 = .ok (.putfield 7, 3) := dk_181 0 7 (dk_at dksX1_init_0 9 rfl rfl)
theorem dX1_init_12 : decode cX1_init 12 = .ok (.return_, 1) := dk_177 (dk_at dksX1_init_0 12 rfl rfl)
abbrev cX1_set : ByteArray := prog_4_method_6_code
def yX1_set : MethodName := ⟨RX1, "set", "(II)V"⟩
def dkwX1_set_0 : List UInt8 := [42, 180, 0, 7, 27, 184, 0, 17, 28, 184, 0, 21, 79, 177]
abbrev dktX1_set_0 : List UInt8 := dkwX1_set_0 ++ []
theorem dksX1_set_0 : cX1_set.data.toList.drop 0 = dktX1_set_0 := by decide +kernel
theorem dX1_set_0 : decode cX1_set 0 = .ok (.aload_n 0, 1) := dk_42 (dk_at dksX1_set_0 0 rfl rfl)
theorem dX1_set_1 : decode cX1_set 1 = .ok (.getfield 7, 3) := dk_180 0 7 (dk_at dksX1_set_0 1 rfl rfl)
theorem dX1_set_4 : decode cX1_set 4 = .ok (.iload_n 1, 1) := dk_27 (dk_at dksX1_set_0 4 rfl rfl)
theorem dX1_set_5 : decode cX1_set 5 = .ok (.invokestatic 17, 3) := dk_184 0 17 (dk_at dksX1_set_0 5 rfl rfl)
theorem dX1_set_8 : decode cX1_set 8 = .ok (.iload_n 2, 1) := dk_28 (dk_at dksX1_set_0 8 rfl rfl)
theorem dX1_set_9 : decode cX1_set 9 = .ok (.invokestatic 21, 3) := dk_184 0 21 (dk_at dksX1_set_0 9 rfl rfl)
theorem dX1_set_12 : decode cX1_set 12 = .ok (.iastore, 1) := dk_79 (dk_at dksX1_set_0 12 rfl rfl)
theorem dX1_set_13 : decode cX1_set 13 = .ok (.return_, 1) := dk_177 (dk_at dksX1_set_0 13 rfl rfl)
abbrev cX1_place : ByteArray := prog_4_method_3_code
def yX1_place : MethodName := ⟨RX1, "place", "(I)I"⟩
def dkwX1_place_0 : List UInt8 := [26, 18, 16, 126, 16, 48, 112, 172]
abbrev dktX1_place_0 : List UInt8 := dkwX1_place_0 ++ []
theorem dksX1_place_0 : cX1_place.data.toList.drop 0 = dktX1_place_0 := by decide +kernel
theorem dX1_place_0 : decode cX1_place 0 = .ok (.iload_n 0, 1) := dk_26 (dk_at dksX1_place_0 0 rfl rfl)
theorem dX1_place_1 : decode cX1_place 1 = .ok (.ldc 16, 2) := dk_18 16 (dk_at dksX1_place_0 1 rfl rfl)
theorem dX1_place_3 : decode cX1_place 3 = .ok (.iand, 1) := dk_126 (dk_at dksX1_place_0 3 rfl rfl)
theorem dX1_place_4 : decode cX1_place 4 = .ok (.bipush 48, 2) := dk_16 48 (dk_at dksX1_place_0 4 rfl rfl)
theorem dX1_place_6 : decode cX1_place 6 = .ok (.irem, 1) := dk_112 (dk_at dksX1_place_0 6 rfl rfl)
theorem dX1_place_7 : decode cX1_place 7 = .ok (.ireturn, 1) := dk_172 (dk_at dksX1_place_0 7 rfl rfl)
abbrev cX1_narrow : ByteArray := prog_4_method_2_code
def yX1_narrow : MethodName := ⟨RX1, "narrow", "(I)I"⟩
def dkwX1_narrow_0 : List UInt8 := [26, 18, 13, 126, 60, 27, 18, 14, 161, 0, 8, 27, 18, 15, 100, 172, 27, 172]
abbrev dktX1_narrow_0 : List UInt8 := dkwX1_narrow_0 ++ []
theorem dksX1_narrow_0 : cX1_narrow.data.toList.drop 0 = dktX1_narrow_0 := by decide +kernel
theorem dX1_narrow_0 : decode cX1_narrow 0 = .ok (.iload_n 0, 1) := dk_26 (dk_at dksX1_narrow_0 0 rfl rfl)
theorem dX1_narrow_1 : decode cX1_narrow 1 = .ok (.ldc 13, 2) := dk_18 13 (dk_at dksX1_narrow_0 1 rfl rfl)
theorem dX1_narrow_3 : decode cX1_narrow 3 = .ok (.iand, 1) := dk_126 (dk_at dksX1_narrow_0 3 rfl rfl)
theorem dX1_narrow_4 : decode cX1_narrow 4 = .ok (.istore_n 1, 1) := dk_60 (dk_at dksX1_narrow_0 4 rfl rfl)
theorem dX1_narrow_5 : decode cX1_narrow 5 = .ok (.iload_n 1, 1) := dk_27 (dk_at dksX1_narrow_0 5 rfl rfl)
theorem dX1_narrow_6 : decode cX1_narrow 6 = .ok (.ldc 14, 2) := dk_18 14 (dk_at dksX1_narrow_0 6 rfl rfl)
theorem dX1_narrow_8 : decode cX1_narrow 8 = .ok (.if_icmp .lt 8, 3) := dk_161 0 8 (dk_at dksX1_narrow_0 8 rfl rfl)
theorem dX1_narrow_11 : decode cX1_narrow 11 = .ok (.iload_n 1, 1) := dk_27 (dk_at dksX1_narrow_0 11 rfl rfl)
theorem dX1_narrow_12 : decode cX1_narrow 12 = .ok (.ldc 15, 2) := dk_18 15 (dk_at dksX1_narrow_0 12 rfl rfl)
theorem dX1_narrow_14 : decode cX1_narrow 14 = .ok (.isub, 1) := dk_100 (dk_at dksX1_narrow_0 14 rfl rfl)
theorem dX1_narrow_15 : decode cX1_narrow 15 = .ok (.ireturn, 1) := dk_172 (dk_at dksX1_narrow_0 15 rfl rfl)
theorem dX1_narrow_16 : decode cX1_narrow 16 = .ok (.iload_n 1, 1) := dk_27 (dk_at dksX1_narrow_0 16 rfl rfl)
theorem dX1_narrow_17 : decode cX1_narrow 17 = .ok (.ireturn, 1) := dk_172 (dk_at dksX1_narrow_0 17 rfl rfl)
abbrev cX1_get : ByteArray := prog_4_method_7_code
def yX1_get : MethodName := ⟨RX1, "get", "(I)I"⟩
def dkwX1_get_0 : List UInt8 := [42, 180, 0, 7, 27, 184, 0, 17, 46, 172]
abbrev dktX1_get_0 : List UInt8 := dkwX1_get_0 ++ []
theorem dksX1_get_0 : cX1_get.data.toList.drop 0 = dktX1_get_0 := by decide +kernel
theorem dX1_get_0 : decode cX1_get 0 = .ok (.aload_n 0, 1) := dk_42 (dk_at dksX1_get_0 0 rfl rfl)
theorem dX1_get_1 : decode cX1_get 1 = .ok (.getfield 7, 3) := dk_180 0 7 (dk_at dksX1_get_0 1 rfl rfl)
theorem dX1_get_4 : decode cX1_get 4 = .ok (.iload_n 1, 1) := dk_27 (dk_at dksX1_get_0 4 rfl rfl)
theorem dX1_get_5 : decode cX1_get 5 = .ok (.invokestatic 17, 3) := dk_184 0 17 (dk_at dksX1_get_0 5 rfl rfl)
theorem dX1_get_8 : decode cX1_get 8 = .ok (.iaload, 1) := dk_46 (dk_at dksX1_get_0 8 rfl rfl)
theorem dX1_get_9 : decode cX1_get 9 = .ok (.ireturn, 1) := dk_172 (dk_at dksX1_get_0 9 rfl rfl)
abbrev cX1_quick : ByteArray := prog_4_method_9_code
def yX1_quick : MethodName := ⟨RX1, "quick", "(II)V"⟩
def dkwX1_quick_0 : List UInt8 := [27, 184, 0, 24, 62, 42, 29, 29, 28, 184, 0, 27, 182, 0, 31, 177]
abbrev dktX1_quick_0 : List UInt8 := dkwX1_quick_0 ++ []
theorem dksX1_quick_0 : cX1_quick.data.toList.drop 0 = dktX1_quick_0 := by decide +kernel
theorem dX1_quick_0 : decode cX1_quick 0 = .ok (.iload_n 1, 1) := dk_27 (dk_at dksX1_quick_0 0 rfl rfl)
theorem dX1_quick_1 : decode cX1_quick 1 = .ok (.invokestatic 24, 3) := dk_184 0 24 (dk_at dksX1_quick_0 1 rfl rfl)
theorem dX1_quick_4 : decode cX1_quick 4 = .ok (.istore_n 3, 1) := dk_62 (dk_at dksX1_quick_0 4 rfl rfl)
theorem dX1_quick_5 : decode cX1_quick 5 = .ok (.aload_n 0, 1) := dk_42 (dk_at dksX1_quick_0 5 rfl rfl)
theorem dX1_quick_6 : decode cX1_quick 6 = .ok (.iload_n 3, 1) := dk_29 (dk_at dksX1_quick_0 6 rfl rfl)
theorem dX1_quick_7 : decode cX1_quick 7 = .ok (.iload_n 3, 1) := dk_29 (dk_at dksX1_quick_0 7 rfl rfl)
theorem dX1_quick_8 : decode cX1_quick 8 = .ok (.iload_n 2, 1) := dk_28 (dk_at dksX1_quick_0 8 rfl rfl)
theorem dX1_quick_9 : decode cX1_quick 9 = .ok (.invokestatic 27, 3) := dk_184 0 27 (dk_at dksX1_quick_0 9 rfl rfl)
theorem dX1_quick_12 : decode cX1_quick 12 = .ok (.invokevirtual 31, 3) := dk_182 0 31 (dk_at dksX1_quick_0 12 rfl rfl)
theorem dX1_quick_15 : decode cX1_quick 15 = .ok (.return_, 1) := dk_177 (dk_at dksX1_quick_0 15 rfl rfl)
abbrev cX1_start : ByteArray := prog_4_method_4_code
def yX1_start : MethodName := ⟨RX1, "start", "(I)I"⟩
def dkwX1_start_0 : List UInt8 := [26, 18, 16, 126, 16, 49, 112, 172]
abbrev dktX1_start_0 : List UInt8 := dkwX1_start_0 ++ []
theorem dksX1_start_0 : cX1_start.data.toList.drop 0 = dktX1_start_0 := by decide +kernel
theorem dX1_start_0 : decode cX1_start 0 = .ok (.iload_n 0, 1) := dk_26 (dk_at dksX1_start_0 0 rfl rfl)
theorem dX1_start_1 : decode cX1_start 1 = .ok (.ldc 16, 2) := dk_18 16 (dk_at dksX1_start_0 1 rfl rfl)
theorem dX1_start_3 : decode cX1_start 3 = .ok (.iand, 1) := dk_126 (dk_at dksX1_start_0 3 rfl rfl)
theorem dX1_start_4 : decode cX1_start 4 = .ok (.bipush 49, 2) := dk_16 49 (dk_at dksX1_start_0 4 rfl rfl)
theorem dX1_start_6 : decode cX1_start 6 = .ok (.irem, 1) := dk_112 (dk_at dksX1_start_0 6 rfl rfl)
theorem dX1_start_7 : decode cX1_start 7 = .ok (.ireturn, 1) := dk_172 (dk_at dksX1_start_0 7 rfl rfl)
abbrev cX1_end : ByteArray := prog_4_method_5_code
def yX1_end : MethodName := ⟨RX1, "end", "(II)I"⟩
def dkwX1_end_0 : List UInt8 := [26, 27, 18, 16, 126, 16, 49, 26, 100, 112, 96, 172]
abbrev dktX1_end_0 : List UInt8 := dkwX1_end_0 ++ []
theorem dksX1_end_0 : cX1_end.data.toList.drop 0 = dktX1_end_0 := by decide +kernel
theorem dX1_end_0 : decode cX1_end 0 = .ok (.iload_n 0, 1) := dk_26 (dk_at dksX1_end_0 0 rfl rfl)
theorem dX1_end_1 : decode cX1_end 1 = .ok (.iload_n 1, 1) := dk_27 (dk_at dksX1_end_0 1 rfl rfl)
theorem dX1_end_2 : decode cX1_end 2 = .ok (.ldc 16, 2) := dk_18 16 (dk_at dksX1_end_0 2 rfl rfl)
theorem dX1_end_4 : decode cX1_end 4 = .ok (.iand, 1) := dk_126 (dk_at dksX1_end_0 4 rfl rfl)
theorem dX1_end_5 : decode cX1_end 5 = .ok (.bipush 49, 2) := dk_16 49 (dk_at dksX1_end_0 5 rfl rfl)
theorem dX1_end_7 : decode cX1_end 7 = .ok (.iload_n 0, 1) := dk_26 (dk_at dksX1_end_0 7 rfl rfl)
theorem dX1_end_8 : decode cX1_end 8 = .ok (.isub, 1) := dk_100 (dk_at dksX1_end_0 8 rfl rfl)
theorem dX1_end_9 : decode cX1_end 9 = .ok (.irem, 1) := dk_112 (dk_at dksX1_end_0 9 rfl rfl)
theorem dX1_end_10 : decode cX1_end 10 = .ok (.iadd, 1) := dk_96 (dk_at dksX1_end_0 10 rfl rfl)
theorem dX1_end_11 : decode cX1_end 11 = .ok (.ireturn, 1) := dk_172 (dk_at dksX1_end_0 11 rfl rfl)
abbrev cX1_ascending : ByteArray := prog_4_method_8_code
def yX1_ascending : MethodName := ⟨RX1, "ascending", "(II)V"⟩
def dkwX1_ascending_3 : List UInt8 := [42, 180, 0, 7, 21, 4, 21, 5, 79, 132, 3, 1, 167, 255, 177, 177]
abbrev dktX1_ascending_3 : List UInt8 := dkwX1_ascending_3 ++ []
def dkwX1_ascending_2 : List UInt8 := [167, 255, 226, 42, 180, 0, 7, 29, 46, 54, 5, 42, 180, 0, 7, 29, 42, 180, 0, 7, 21, 4, 46, 79]
abbrev dktX1_ascending_2 : List UInt8 := dkwX1_ascending_2 ++ dktX1_ascending_3
def dkwX1_ascending_1 : List UInt8 := [180, 0, 7, 21, 5, 46, 42, 180, 0, 7, 21, 4, 46, 162, 0, 7, 21, 5, 54, 4, 132, 5, 1]
abbrev dktX1_ascending_1 : List UInt8 := dkwX1_ascending_1 ++ dktX1_ascending_2
def dkwX1_ascending_0 : List UInt8 := [27, 62, 29, 28, 162, 0, 80, 29, 54, 4, 29, 4, 96, 54, 5, 21, 5, 28, 162, 0, 30, 42]
abbrev dktX1_ascending_0 : List UInt8 := dkwX1_ascending_0 ++ dktX1_ascending_1
theorem dksX1_ascending_0 : cX1_ascending.data.toList.drop 0 = dktX1_ascending_0 := by decide +kernel
theorem dksX1_ascending_1 : cX1_ascending.data.toList.drop 22 = dktX1_ascending_1 := dk_seg dksX1_ascending_0 22 rfl rfl
theorem dksX1_ascending_2 : cX1_ascending.data.toList.drop 45 = dktX1_ascending_2 := dk_seg dksX1_ascending_1 23 rfl rfl
theorem dksX1_ascending_3 : cX1_ascending.data.toList.drop 69 = dktX1_ascending_3 := dk_seg dksX1_ascending_2 24 rfl rfl
theorem dX1_ascending_0 : decode cX1_ascending 0 = .ok (.iload_n 1, 1) := dk_27 (dk_at dksX1_ascending_0 0 rfl rfl)
theorem dX1_ascending_1 : decode cX1_ascending 1 = .ok (.istore_n 3, 1) := dk_62 (dk_at dksX1_ascending_0 1 rfl rfl)
theorem dX1_ascending_2 : decode cX1_ascending 2 = .ok (.iload_n 3, 1) := dk_29 (dk_at dksX1_ascending_0 2 rfl rfl)
theorem dX1_ascending_3 : decode cX1_ascending 3 = .ok (.iload_n 2, 1) := dk_28 (dk_at dksX1_ascending_0 3 rfl rfl)
theorem dX1_ascending_4 : decode cX1_ascending 4 = .ok (.if_icmp .ge 80, 3) := dk_162 0 80 (dk_at dksX1_ascending_0 4 rfl rfl)
theorem dX1_ascending_7 : decode cX1_ascending 7 = .ok (.iload_n 3, 1) := dk_29 (dk_at dksX1_ascending_0 7 rfl rfl)
theorem dX1_ascending_8 : decode cX1_ascending 8 = .ok (.istore 4, 2) := dk_54 4 (dk_at dksX1_ascending_0 8 rfl rfl)
theorem dX1_ascending_10 : decode cX1_ascending 10 = .ok (.iload_n 3, 1) := dk_29 (dk_at dksX1_ascending_0 10 rfl rfl)
theorem dX1_ascending_11 : decode cX1_ascending 11 = .ok (.iconst 1, 1) := dk_4 (dk_at dksX1_ascending_0 11 rfl rfl)
theorem dX1_ascending_12 : decode cX1_ascending 12 = .ok (.iadd, 1) := dk_96 (dk_at dksX1_ascending_0 12 rfl rfl)
theorem dX1_ascending_13 : decode cX1_ascending 13 = .ok (.istore 5, 2) := dk_54 5 (dk_at dksX1_ascending_0 13 rfl rfl)
theorem dX1_ascending_15 : decode cX1_ascending 15 = .ok (.iload 5, 2) := dk_21 5 (dk_at dksX1_ascending_0 15 rfl rfl)
theorem dX1_ascending_17 : decode cX1_ascending 17 = .ok (.iload_n 2, 1) := dk_28 (dk_at dksX1_ascending_0 17 rfl rfl)
theorem dX1_ascending_18 : decode cX1_ascending 18 = .ok (.if_icmp .ge 30, 3) := dk_162 0 30 (dk_at dksX1_ascending_0 18 rfl rfl)
theorem dX1_ascending_21 : decode cX1_ascending 21 = .ok (.aload_n 0, 1) := dk_42 (dk_at dksX1_ascending_0 21 rfl rfl)
theorem dX1_ascending_22 : decode cX1_ascending 22 = .ok (.getfield 7, 3) := dk_180 0 7 (dk_at dksX1_ascending_1 0 rfl rfl)
theorem dX1_ascending_25 : decode cX1_ascending 25 = .ok (.iload 5, 2) := dk_21 5 (dk_at dksX1_ascending_1 3 rfl rfl)
theorem dX1_ascending_27 : decode cX1_ascending 27 = .ok (.iaload, 1) := dk_46 (dk_at dksX1_ascending_1 5 rfl rfl)
theorem dX1_ascending_28 : decode cX1_ascending 28 = .ok (.aload_n 0, 1) := dk_42 (dk_at dksX1_ascending_1 6 rfl rfl)
theorem dX1_ascending_29 : decode cX1_ascending 29 = .ok (.getfield 7, 3) := dk_180 0 7 (dk_at dksX1_ascending_1 7 rfl rfl)
theorem dX1_ascending_32 : decode cX1_ascending 32 = .ok (.iload 4, 2) := dk_21 4 (dk_at dksX1_ascending_1 10 rfl rfl)
theorem dX1_ascending_34 : decode cX1_ascending 34 = .ok (.iaload, 1) := dk_46 (dk_at dksX1_ascending_1 12 rfl rfl)
theorem dX1_ascending_35 : decode cX1_ascending 35 = .ok (.if_icmp .ge 7, 3) := dk_162 0 7 (dk_at dksX1_ascending_1 13 rfl rfl)
theorem dX1_ascending_38 : decode cX1_ascending 38 = .ok (.iload 5, 2) := dk_21 5 (dk_at dksX1_ascending_1 16 rfl rfl)
theorem dX1_ascending_40 : decode cX1_ascending 40 = .ok (.istore 4, 2) := dk_54 4 (dk_at dksX1_ascending_1 18 rfl rfl)
theorem dX1_ascending_42 : decode cX1_ascending 42 = .ok (.iinc 5 1, 3) := dk_132 5 1 (dk_at dksX1_ascending_1 20 rfl rfl)
theorem dX1_ascending_45 : decode cX1_ascending 45 = .ok (.goto (-30), 3) := dk_167 255 226 (dk_at dksX1_ascending_2 0 rfl rfl)
theorem dX1_ascending_48 : decode cX1_ascending 48 = .ok (.aload_n 0, 1) := dk_42 (dk_at dksX1_ascending_2 3 rfl rfl)
theorem dX1_ascending_49 : decode cX1_ascending 49 = .ok (.getfield 7, 3) := dk_180 0 7 (dk_at dksX1_ascending_2 4 rfl rfl)
theorem dX1_ascending_52 : decode cX1_ascending 52 = .ok (.iload_n 3, 1) := dk_29 (dk_at dksX1_ascending_2 7 rfl rfl)
theorem dX1_ascending_53 : decode cX1_ascending 53 = .ok (.iaload, 1) := dk_46 (dk_at dksX1_ascending_2 8 rfl rfl)
theorem dX1_ascending_54 : decode cX1_ascending 54 = .ok (.istore 5, 2) := dk_54 5 (dk_at dksX1_ascending_2 9 rfl rfl)
theorem dX1_ascending_56 : decode cX1_ascending 56 = .ok (.aload_n 0, 1) := dk_42 (dk_at dksX1_ascending_2 11 rfl rfl)
theorem dX1_ascending_57 : decode cX1_ascending 57 = .ok (.getfield 7, 3) := dk_180 0 7 (dk_at dksX1_ascending_2 12 rfl rfl)
theorem dX1_ascending_60 : decode cX1_ascending 60 = .ok (.iload_n 3, 1) := dk_29 (dk_at dksX1_ascending_2 15 rfl rfl)
theorem dX1_ascending_61 : decode cX1_ascending 61 = .ok (.aload_n 0, 1) := dk_42 (dk_at dksX1_ascending_2 16 rfl rfl)
theorem dX1_ascending_62 : decode cX1_ascending 62 = .ok (.getfield 7, 3) := dk_180 0 7 (dk_at dksX1_ascending_2 17 rfl rfl)
theorem dX1_ascending_65 : decode cX1_ascending 65 = .ok (.iload 4, 2) := dk_21 4 (dk_at dksX1_ascending_2 20 rfl rfl)
theorem dX1_ascending_67 : decode cX1_ascending 67 = .ok (.iaload, 1) := dk_46 (dk_at dksX1_ascending_2 22 rfl rfl)
theorem dX1_ascending_68 : decode cX1_ascending 68 = .ok (.iastore, 1) := dk_79 (dk_at dksX1_ascending_2 23 rfl rfl)
theorem dX1_ascending_69 : decode cX1_ascending 69 = .ok (.aload_n 0, 1) := dk_42 (dk_at dksX1_ascending_3 0 rfl rfl)
theorem dX1_ascending_70 : decode cX1_ascending 70 = .ok (.getfield 7, 3) := dk_180 0 7 (dk_at dksX1_ascending_3 1 rfl rfl)
theorem dX1_ascending_73 : decode cX1_ascending 73 = .ok (.iload 4, 2) := dk_21 4 (dk_at dksX1_ascending_3 4 rfl rfl)
theorem dX1_ascending_75 : decode cX1_ascending 75 = .ok (.iload 5, 2) := dk_21 5 (dk_at dksX1_ascending_3 6 rfl rfl)
theorem dX1_ascending_77 : decode cX1_ascending 77 = .ok (.iastore, 1) := dk_79 (dk_at dksX1_ascending_3 8 rfl rfl)
theorem dX1_ascending_78 : decode cX1_ascending 78 = .ok (.iinc 3 1, 3) := dk_132 3 1 (dk_at dksX1_ascending_3 9 rfl rfl)
theorem dX1_ascending_81 : decode cX1_ascending 81 = .ok (.goto (-79), 3) := dk_167 255 177 (dk_at dksX1_ascending_3 12 rfl rfl)
theorem dX1_ascending_84 : decode cX1_ascending 84 = .ok (.return_, 1) := dk_177 (dk_at dksX1_ascending_3 15 rfl rfl)
abbrev cX1_merge : ByteArray := prog_4_method_10_code
def yX1_merge : MethodName := ⟨RX1, "merge", "(II)V"⟩
def dkwX1_merge_0 : List UInt8 := [27, 184, 0, 24, 62, 42, 29, 29, 28, 184, 0, 27, 182, 0, 31, 177]
abbrev dktX1_merge_0 : List UInt8 := dkwX1_merge_0 ++ []
theorem dksX1_merge_0 : cX1_merge.data.toList.drop 0 = dktX1_merge_0 := by decide +kernel
theorem dX1_merge_0 : decode cX1_merge 0 = .ok (.iload_n 1, 1) := dk_27 (dk_at dksX1_merge_0 0 rfl rfl)
theorem dX1_merge_1 : decode cX1_merge 1 = .ok (.invokestatic 24, 3) := dk_184 0 24 (dk_at dksX1_merge_0 1 rfl rfl)
theorem dX1_merge_4 : decode cX1_merge 4 = .ok (.istore_n 3, 1) := dk_62 (dk_at dksX1_merge_0 4 rfl rfl)
theorem dX1_merge_5 : decode cX1_merge 5 = .ok (.aload_n 0, 1) := dk_42 (dk_at dksX1_merge_0 5 rfl rfl)
theorem dX1_merge_6 : decode cX1_merge 6 = .ok (.iload_n 3, 1) := dk_29 (dk_at dksX1_merge_0 6 rfl rfl)
theorem dX1_merge_7 : decode cX1_merge 7 = .ok (.iload_n 3, 1) := dk_29 (dk_at dksX1_merge_0 7 rfl rfl)
theorem dX1_merge_8 : decode cX1_merge 8 = .ok (.iload_n 2, 1) := dk_28 (dk_at dksX1_merge_0 8 rfl rfl)
theorem dX1_merge_9 : decode cX1_merge 9 = .ok (.invokestatic 27, 3) := dk_184 0 27 (dk_at dksX1_merge_0 9 rfl rfl)
theorem dX1_merge_12 : decode cX1_merge 12 = .ok (.invokevirtual 31, 3) := dk_182 0 31 (dk_at dksX1_merge_0 12 rfl rfl)
theorem dX1_merge_15 : decode cX1_merge 15 = .ok (.return_, 1) := dk_177 (dk_at dksX1_merge_0 15 rfl rfl)
abbrev cX1_radix : ByteArray := prog_4_method_11_code
def yX1_radix : MethodName := ⟨RX1, "radix", "(II)V"⟩
def dkwX1_radix_0 : List UInt8 := [27, 184, 0, 24, 62, 42, 29, 29, 28, 184, 0, 27, 182, 0, 31, 177]
abbrev dktX1_radix_0 : List UInt8 := dkwX1_radix_0 ++ []
theorem dksX1_radix_0 : cX1_radix.data.toList.drop 0 = dktX1_radix_0 := by decide +kernel
theorem dX1_radix_0 : decode cX1_radix 0 = .ok (.iload_n 1, 1) := dk_27 (dk_at dksX1_radix_0 0 rfl rfl)
theorem dX1_radix_1 : decode cX1_radix 1 = .ok (.invokestatic 24, 3) := dk_184 0 24 (dk_at dksX1_radix_0 1 rfl rfl)
theorem dX1_radix_4 : decode cX1_radix 4 = .ok (.istore_n 3, 1) := dk_62 (dk_at dksX1_radix_0 4 rfl rfl)
theorem dX1_radix_5 : decode cX1_radix 5 = .ok (.aload_n 0, 1) := dk_42 (dk_at dksX1_radix_0 5 rfl rfl)
theorem dX1_radix_6 : decode cX1_radix 6 = .ok (.iload_n 3, 1) := dk_29 (dk_at dksX1_radix_0 6 rfl rfl)
theorem dX1_radix_7 : decode cX1_radix 7 = .ok (.iload_n 3, 1) := dk_29 (dk_at dksX1_radix_0 7 rfl rfl)
theorem dX1_radix_8 : decode cX1_radix 8 = .ok (.iload_n 2, 1) := dk_28 (dk_at dksX1_radix_0 8 rfl rfl)
theorem dX1_radix_9 : decode cX1_radix 9 = .ok (.invokestatic 27, 3) := dk_184 0 27 (dk_at dksX1_radix_0 9 rfl rfl)
theorem dX1_radix_12 : decode cX1_radix 12 = .ok (.invokevirtual 31, 3) := dk_182 0 31 (dk_at dksX1_radix_0 12 rfl rfl)
theorem dX1_radix_15 : decode cX1_radix 15 = .ok (.return_, 1) := dk_177 (dk_at dksX1_radix_0 15 rfl rfl)
abbrev cX1_reverse : ByteArray := prog_4_method_12_code
def yX1_reverse : MethodName := ⟨RX1, "reverse", "(II)V"⟩
def dkwX1_reverse_3 : List UInt8 := [21, 6, 100, 46, 79, 132, 6, 1, 167, 255, 227, 177]
abbrev dktX1_reverse_3 : List UInt8 := dkwX1_reverse_3 ++ []
def dkwX1_reverse_2 : List UInt8 := [54, 6, 21, 6, 21, 4, 162, 0, 28, 42, 180, 0, 7, 21, 6, 25, 5, 29, 21, 4, 96, 4, 100]
abbrev dktX1_reverse_2 : List UInt8 := dkwX1_reverse_2 ++ dktX1_reverse_3
def dkwX1_reverse_1 : List UInt8 := [21, 4, 162, 0, 21, 25, 5, 21, 6, 42, 180, 0, 7, 21, 6, 46, 79, 132, 6, 1, 167, 255, 234, 29]
abbrev dktX1_reverse_1 : List UInt8 := dkwX1_reverse_1 ++ dktX1_reverse_2
def dkwX1_reverse_0 : List UInt8 := [27, 184, 0, 24, 62, 29, 28, 184, 0, 27, 54, 4, 16, 48, 188, 10, 58, 5, 29, 54, 6, 21, 6]
abbrev dktX1_reverse_0 : List UInt8 := dkwX1_reverse_0 ++ dktX1_reverse_1
theorem dksX1_reverse_0 : cX1_reverse.data.toList.drop 0 = dktX1_reverse_0 := by decide +kernel
theorem dksX1_reverse_1 : cX1_reverse.data.toList.drop 23 = dktX1_reverse_1 := dk_seg dksX1_reverse_0 23 rfl rfl
theorem dksX1_reverse_2 : cX1_reverse.data.toList.drop 47 = dktX1_reverse_2 := dk_seg dksX1_reverse_1 24 rfl rfl
theorem dksX1_reverse_3 : cX1_reverse.data.toList.drop 70 = dktX1_reverse_3 := dk_seg dksX1_reverse_2 23 rfl rfl
theorem dX1_reverse_0 : decode cX1_reverse 0 = .ok (.iload_n 1, 1) := dk_27 (dk_at dksX1_reverse_0 0 rfl rfl)
theorem dX1_reverse_1 : decode cX1_reverse 1 = .ok (.invokestatic 24, 3) := dk_184 0 24 (dk_at dksX1_reverse_0 1 rfl rfl)
theorem dX1_reverse_4 : decode cX1_reverse 4 = .ok (.istore_n 3, 1) := dk_62 (dk_at dksX1_reverse_0 4 rfl rfl)
theorem dX1_reverse_5 : decode cX1_reverse 5 = .ok (.iload_n 3, 1) := dk_29 (dk_at dksX1_reverse_0 5 rfl rfl)
theorem dX1_reverse_6 : decode cX1_reverse 6 = .ok (.iload_n 2, 1) := dk_28 (dk_at dksX1_reverse_0 6 rfl rfl)
theorem dX1_reverse_7 : decode cX1_reverse 7 = .ok (.invokestatic 27, 3) := dk_184 0 27 (dk_at dksX1_reverse_0 7 rfl rfl)
theorem dX1_reverse_10 : decode cX1_reverse 10 = .ok (.istore 4, 2) := dk_54 4 (dk_at dksX1_reverse_0 10 rfl rfl)
theorem dX1_reverse_12 : decode cX1_reverse 12 = .ok (.bipush 48, 2) := dk_16 48 (dk_at dksX1_reverse_0 12 rfl rfl)
theorem dX1_reverse_14 : decode cX1_reverse 14 = .ok (.newarray .int, 2) := dk_188_10 (dk_at dksX1_reverse_0 14 rfl rfl)
theorem dX1_reverse_16 : decode cX1_reverse 16 = .ok (.astore 5, 2) := dk_58 5 (dk_at dksX1_reverse_0 16 rfl rfl)
theorem dX1_reverse_18 : decode cX1_reverse 18 = .ok (.iload_n 3, 1) := dk_29 (dk_at dksX1_reverse_0 18 rfl rfl)
theorem dX1_reverse_19 : decode cX1_reverse 19 = .ok (.istore 6, 2) := dk_54 6 (dk_at dksX1_reverse_0 19 rfl rfl)
theorem dX1_reverse_21 : decode cX1_reverse 21 = .ok (.iload 6, 2) := dk_21 6 (dk_at dksX1_reverse_0 21 rfl rfl)
theorem dX1_reverse_23 : decode cX1_reverse 23 = .ok (.iload 4, 2) := dk_21 4 (dk_at dksX1_reverse_1 0 rfl rfl)
theorem dX1_reverse_25 : decode cX1_reverse 25 = .ok (.if_icmp .ge 21, 3) := dk_162 0 21 (dk_at dksX1_reverse_1 2 rfl rfl)
theorem dX1_reverse_28 : decode cX1_reverse 28 = .ok (.aload 5, 2) := dk_25 5 (dk_at dksX1_reverse_1 5 rfl rfl)
theorem dX1_reverse_30 : decode cX1_reverse 30 = .ok (.iload 6, 2) := dk_21 6 (dk_at dksX1_reverse_1 7 rfl rfl)
theorem dX1_reverse_32 : decode cX1_reverse 32 = .ok (.aload_n 0, 1) := dk_42 (dk_at dksX1_reverse_1 9 rfl rfl)
theorem dX1_reverse_33 : decode cX1_reverse 33 = .ok (.getfield 7, 3) := dk_180 0 7 (dk_at dksX1_reverse_1 10 rfl rfl)
theorem dX1_reverse_36 : decode cX1_reverse 36 = .ok (.iload 6, 2) := dk_21 6 (dk_at dksX1_reverse_1 13 rfl rfl)
theorem dX1_reverse_38 : decode cX1_reverse 38 = .ok (.iaload, 1) := dk_46 (dk_at dksX1_reverse_1 15 rfl rfl)
theorem dX1_reverse_39 : decode cX1_reverse 39 = .ok (.iastore, 1) := dk_79 (dk_at dksX1_reverse_1 16 rfl rfl)
theorem dX1_reverse_40 : decode cX1_reverse 40 = .ok (.iinc 6 1, 3) := dk_132 6 1 (dk_at dksX1_reverse_1 17 rfl rfl)
theorem dX1_reverse_43 : decode cX1_reverse 43 = .ok (.goto (-22), 3) := dk_167 255 234 (dk_at dksX1_reverse_1 20 rfl rfl)
theorem dX1_reverse_46 : decode cX1_reverse 46 = .ok (.iload_n 3, 1) := dk_29 (dk_at dksX1_reverse_1 23 rfl rfl)
theorem dX1_reverse_47 : decode cX1_reverse 47 = .ok (.istore 6, 2) := dk_54 6 (dk_at dksX1_reverse_2 0 rfl rfl)
theorem dX1_reverse_49 : decode cX1_reverse 49 = .ok (.iload 6, 2) := dk_21 6 (dk_at dksX1_reverse_2 2 rfl rfl)
theorem dX1_reverse_51 : decode cX1_reverse 51 = .ok (.iload 4, 2) := dk_21 4 (dk_at dksX1_reverse_2 4 rfl rfl)
theorem dX1_reverse_53 : decode cX1_reverse 53 = .ok (.if_icmp .ge 28, 3) := dk_162 0 28 (dk_at dksX1_reverse_2 6 rfl rfl)
theorem dX1_reverse_56 : decode cX1_reverse 56 = .ok (.aload_n 0, 1) := dk_42 (dk_at dksX1_reverse_2 9 rfl rfl)
theorem dX1_reverse_57 : decode cX1_reverse 57 = .ok (.getfield 7, 3) := dk_180 0 7 (dk_at dksX1_reverse_2 10 rfl rfl)
theorem dX1_reverse_60 : decode cX1_reverse 60 = .ok (.iload 6, 2) := dk_21 6 (dk_at dksX1_reverse_2 13 rfl rfl)
theorem dX1_reverse_62 : decode cX1_reverse 62 = .ok (.aload 5, 2) := dk_25 5 (dk_at dksX1_reverse_2 15 rfl rfl)
theorem dX1_reverse_64 : decode cX1_reverse 64 = .ok (.iload_n 3, 1) := dk_29 (dk_at dksX1_reverse_2 17 rfl rfl)
theorem dX1_reverse_65 : decode cX1_reverse 65 = .ok (.iload 4, 2) := dk_21 4 (dk_at dksX1_reverse_2 18 rfl rfl)
theorem dX1_reverse_67 : decode cX1_reverse 67 = .ok (.iadd, 1) := dk_96 (dk_at dksX1_reverse_2 20 rfl rfl)
theorem dX1_reverse_68 : decode cX1_reverse 68 = .ok (.iconst 1, 1) := dk_4 (dk_at dksX1_reverse_2 21 rfl rfl)
theorem dX1_reverse_69 : decode cX1_reverse 69 = .ok (.isub, 1) := dk_100 (dk_at dksX1_reverse_2 22 rfl rfl)
theorem dX1_reverse_70 : decode cX1_reverse 70 = .ok (.iload 6, 2) := dk_21 6 (dk_at dksX1_reverse_3 0 rfl rfl)
theorem dX1_reverse_72 : decode cX1_reverse 72 = .ok (.isub, 1) := dk_100 (dk_at dksX1_reverse_3 2 rfl rfl)
theorem dX1_reverse_73 : decode cX1_reverse 73 = .ok (.iaload, 1) := dk_46 (dk_at dksX1_reverse_3 3 rfl rfl)
theorem dX1_reverse_74 : decode cX1_reverse 74 = .ok (.iastore, 1) := dk_79 (dk_at dksX1_reverse_3 4 rfl rfl)
theorem dX1_reverse_75 : decode cX1_reverse 75 = .ok (.iinc 6 1, 3) := dk_132 6 1 (dk_at dksX1_reverse_3 5 rfl rfl)
theorem dX1_reverse_78 : decode cX1_reverse 78 = .ok (.goto (-29), 3) := dk_167 255 227 (dk_at dksX1_reverse_3 8 rfl rfl)
theorem dX1_reverse_81 : decode cX1_reverse 81 = .ok (.return_, 1) := dk_177 (dk_at dksX1_reverse_3 11 rfl rfl)
abbrev cX1_find : ByteArray := prog_4_method_13_code
def yX1_find : MethodName := ⟨RX1, "find", "(III)I"⟩
def dkwX1_find_4 : List UInt8 := [162, 0, 18, 42, 180, 0, 7, 21, 7, 46, 21, 6, 160, 0, 6, 21, 7, 172, 21, 7, 116, 4, 100, 172]
abbrev dktX1_find_4 : List UInt8 := dkwX1_find_4 ++ []
def dkwX1_find_3 : List UInt8 := [42, 180, 0, 7, 21, 7, 46, 21, 6, 162, 0, 9, 132, 7, 1, 167, 255, 234, 21, 7, 21, 5]
abbrev dktX1_find_3 : List UInt8 := dkwX1_find_3 ++ dktX1_find_4
def dkwX1_find_2 : List UInt8 := [172, 132, 6, 1, 167, 255, 222, 29, 184, 0, 21, 54, 6, 21, 4, 54, 7, 21, 7, 21, 5, 162, 0, 21]
abbrev dktX1_find_2 : List UInt8 := dkwX1_find_2 ++ dktX1_find_3
def dkwX1_find_1 : List UInt8 := [162, 0, 31, 42, 180, 0, 7, 21, 6, 46, 42, 180, 0, 7, 21, 6, 4, 96, 46, 161, 0, 6, 16, 156]
abbrev dktX1_find_1 : List UInt8 := dkwX1_find_1 ++ dktX1_find_2
def dkwX1_find_0 : List UInt8 := [27, 184, 0, 24, 54, 4, 21, 4, 28, 184, 0, 27, 54, 5, 21, 4, 54, 6, 21, 6, 4, 96, 21, 5]
abbrev dktX1_find_0 : List UInt8 := dkwX1_find_0 ++ dktX1_find_1
theorem dksX1_find_0 : cX1_find.data.toList.drop 0 = dktX1_find_0 := by decide +kernel
theorem dksX1_find_1 : cX1_find.data.toList.drop 24 = dktX1_find_1 := dk_seg dksX1_find_0 24 rfl rfl
theorem dksX1_find_2 : cX1_find.data.toList.drop 48 = dktX1_find_2 := dk_seg dksX1_find_1 24 rfl rfl
theorem dksX1_find_3 : cX1_find.data.toList.drop 72 = dktX1_find_3 := dk_seg dksX1_find_2 24 rfl rfl
theorem dksX1_find_4 : cX1_find.data.toList.drop 94 = dktX1_find_4 := dk_seg dksX1_find_3 22 rfl rfl
theorem dX1_find_0 : decode cX1_find 0 = .ok (.iload_n 1, 1) := dk_27 (dk_at dksX1_find_0 0 rfl rfl)
theorem dX1_find_1 : decode cX1_find 1 = .ok (.invokestatic 24, 3) := dk_184 0 24 (dk_at dksX1_find_0 1 rfl rfl)
theorem dX1_find_4 : decode cX1_find 4 = .ok (.istore 4, 2) := dk_54 4 (dk_at dksX1_find_0 4 rfl rfl)
theorem dX1_find_6 : decode cX1_find 6 = .ok (.iload 4, 2) := dk_21 4 (dk_at dksX1_find_0 6 rfl rfl)
theorem dX1_find_8 : decode cX1_find 8 = .ok (.iload_n 2, 1) := dk_28 (dk_at dksX1_find_0 8 rfl rfl)
theorem dX1_find_9 : decode cX1_find 9 = .ok (.invokestatic 27, 3) := dk_184 0 27 (dk_at dksX1_find_0 9 rfl rfl)
theorem dX1_find_12 : decode cX1_find 12 = .ok (.istore 5, 2) := dk_54 5 (dk_at dksX1_find_0 12 rfl rfl)
theorem dX1_find_14 : decode cX1_find 14 = .ok (.iload 4, 2) := dk_21 4 (dk_at dksX1_find_0 14 rfl rfl)
theorem dX1_find_16 : decode cX1_find 16 = .ok (.istore 6, 2) := dk_54 6 (dk_at dksX1_find_0 16 rfl rfl)
theorem dX1_find_18 : decode cX1_find 18 = .ok (.iload 6, 2) := dk_21 6 (dk_at dksX1_find_0 18 rfl rfl)
theorem dX1_find_20 : decode cX1_find 20 = .ok (.iconst 1, 1) := dk_4 (dk_at dksX1_find_0 20 rfl rfl)
theorem dX1_find_21 : decode cX1_find 21 = .ok (.iadd, 1) := dk_96 (dk_at dksX1_find_0 21 rfl rfl)
theorem dX1_find_22 : decode cX1_find 22 = .ok (.iload 5, 2) := dk_21 5 (dk_at dksX1_find_0 22 rfl rfl)
theorem dX1_find_24 : decode cX1_find 24 = .ok (.if_icmp .ge 31, 3) := dk_162 0 31 (dk_at dksX1_find_1 0 rfl rfl)
theorem dX1_find_27 : decode cX1_find 27 = .ok (.aload_n 0, 1) := dk_42 (dk_at dksX1_find_1 3 rfl rfl)
theorem dX1_find_28 : decode cX1_find 28 = .ok (.getfield 7, 3) := dk_180 0 7 (dk_at dksX1_find_1 4 rfl rfl)
theorem dX1_find_31 : decode cX1_find 31 = .ok (.iload 6, 2) := dk_21 6 (dk_at dksX1_find_1 7 rfl rfl)
theorem dX1_find_33 : decode cX1_find 33 = .ok (.iaload, 1) := dk_46 (dk_at dksX1_find_1 9 rfl rfl)
theorem dX1_find_34 : decode cX1_find 34 = .ok (.aload_n 0, 1) := dk_42 (dk_at dksX1_find_1 10 rfl rfl)
theorem dX1_find_35 : decode cX1_find 35 = .ok (.getfield 7, 3) := dk_180 0 7 (dk_at dksX1_find_1 11 rfl rfl)
theorem dX1_find_38 : decode cX1_find 38 = .ok (.iload 6, 2) := dk_21 6 (dk_at dksX1_find_1 14 rfl rfl)
theorem dX1_find_40 : decode cX1_find 40 = .ok (.iconst 1, 1) := dk_4 (dk_at dksX1_find_1 16 rfl rfl)
theorem dX1_find_41 : decode cX1_find 41 = .ok (.iadd, 1) := dk_96 (dk_at dksX1_find_1 17 rfl rfl)
theorem dX1_find_42 : decode cX1_find 42 = .ok (.iaload, 1) := dk_46 (dk_at dksX1_find_1 18 rfl rfl)
theorem dX1_find_43 : decode cX1_find 43 = .ok (.if_icmp .lt 6, 3) := dk_161 0 6 (dk_at dksX1_find_1 19 rfl rfl)
theorem dX1_find_46 : decode cX1_find 46 = .ok (.bipush (-100), 2) := dk_16 156 (dk_at dksX1_find_1 22 rfl rfl)
theorem dX1_find_48 : decode cX1_find 48 = .ok (.ireturn, 1) := dk_172 (dk_at dksX1_find_2 0 rfl rfl)
theorem dX1_find_49 : decode cX1_find 49 = .ok (.iinc 6 1, 3) := dk_132 6 1 (dk_at dksX1_find_2 1 rfl rfl)
theorem dX1_find_52 : decode cX1_find 52 = .ok (.goto (-34), 3) := dk_167 255 222 (dk_at dksX1_find_2 4 rfl rfl)
theorem dX1_find_55 : decode cX1_find 55 = .ok (.iload_n 3, 1) := dk_29 (dk_at dksX1_find_2 7 rfl rfl)
theorem dX1_find_56 : decode cX1_find 56 = .ok (.invokestatic 21, 3) := dk_184 0 21 (dk_at dksX1_find_2 8 rfl rfl)
theorem dX1_find_59 : decode cX1_find 59 = .ok (.istore 6, 2) := dk_54 6 (dk_at dksX1_find_2 11 rfl rfl)
theorem dX1_find_61 : decode cX1_find 61 = .ok (.iload 4, 2) := dk_21 4 (dk_at dksX1_find_2 13 rfl rfl)
theorem dX1_find_63 : decode cX1_find 63 = .ok (.istore 7, 2) := dk_54 7 (dk_at dksX1_find_2 15 rfl rfl)
theorem dX1_find_65 : decode cX1_find 65 = .ok (.iload 7, 2) := dk_21 7 (dk_at dksX1_find_2 17 rfl rfl)
theorem dX1_find_67 : decode cX1_find 67 = .ok (.iload 5, 2) := dk_21 5 (dk_at dksX1_find_2 19 rfl rfl)
theorem dX1_find_69 : decode cX1_find 69 = .ok (.if_icmp .ge 21, 3) := dk_162 0 21 (dk_at dksX1_find_2 21 rfl rfl)
theorem dX1_find_72 : decode cX1_find 72 = .ok (.aload_n 0, 1) := dk_42 (dk_at dksX1_find_3 0 rfl rfl)
theorem dX1_find_73 : decode cX1_find 73 = .ok (.getfield 7, 3) := dk_180 0 7 (dk_at dksX1_find_3 1 rfl rfl)
theorem dX1_find_76 : decode cX1_find 76 = .ok (.iload 7, 2) := dk_21 7 (dk_at dksX1_find_3 4 rfl rfl)
theorem dX1_find_78 : decode cX1_find 78 = .ok (.iaload, 1) := dk_46 (dk_at dksX1_find_3 6 rfl rfl)
theorem dX1_find_79 : decode cX1_find 79 = .ok (.iload 6, 2) := dk_21 6 (dk_at dksX1_find_3 7 rfl rfl)
theorem dX1_find_81 : decode cX1_find 81 = .ok (.if_icmp .ge 9, 3) := dk_162 0 9 (dk_at dksX1_find_3 9 rfl rfl)
theorem dX1_find_84 : decode cX1_find 84 = .ok (.iinc 7 1, 3) := dk_132 7 1 (dk_at dksX1_find_3 12 rfl rfl)
theorem dX1_find_87 : decode cX1_find 87 = .ok (.goto (-22), 3) := dk_167 255 234 (dk_at dksX1_find_3 15 rfl rfl)
theorem dX1_find_90 : decode cX1_find 90 = .ok (.iload 7, 2) := dk_21 7 (dk_at dksX1_find_3 18 rfl rfl)
theorem dX1_find_92 : decode cX1_find 92 = .ok (.iload 5, 2) := dk_21 5 (dk_at dksX1_find_3 20 rfl rfl)
theorem dX1_find_94 : decode cX1_find 94 = .ok (.if_icmp .ge 18, 3) := dk_162 0 18 (dk_at dksX1_find_4 0 rfl rfl)
theorem dX1_find_97 : decode cX1_find 97 = .ok (.aload_n 0, 1) := dk_42 (dk_at dksX1_find_4 3 rfl rfl)
theorem dX1_find_98 : decode cX1_find 98 = .ok (.getfield 7, 3) := dk_180 0 7 (dk_at dksX1_find_4 4 rfl rfl)
theorem dX1_find_101 : decode cX1_find 101 = .ok (.iload 7, 2) := dk_21 7 (dk_at dksX1_find_4 7 rfl rfl)
theorem dX1_find_103 : decode cX1_find 103 = .ok (.iaload, 1) := dk_46 (dk_at dksX1_find_4 9 rfl rfl)
theorem dX1_find_104 : decode cX1_find 104 = .ok (.iload 6, 2) := dk_21 6 (dk_at dksX1_find_4 10 rfl rfl)
theorem dX1_find_106 : decode cX1_find 106 = .ok (.if_icmp .ne 6, 3) := dk_160 0 6 (dk_at dksX1_find_4 12 rfl rfl)
theorem dX1_find_109 : decode cX1_find 109 = .ok (.iload 7, 2) := dk_21 7 (dk_at dksX1_find_4 15 rfl rfl)
theorem dX1_find_111 : decode cX1_find 111 = .ok (.ireturn, 1) := dk_172 (dk_at dksX1_find_4 17 rfl rfl)
theorem dX1_find_112 : decode cX1_find 112 = .ok (.iload 7, 2) := dk_21 7 (dk_at dksX1_find_4 18 rfl rfl)
theorem dX1_find_114 : decode cX1_find 114 = .ok (.ineg, 1) := dk_116 (dk_at dksX1_find_4 20 rfl rfl)
theorem dX1_find_115 : decode cX1_find 115 = .ok (.iconst 1, 1) := dk_4 (dk_at dksX1_find_4 21 rfl rfl)
theorem dX1_find_116 : decode cX1_find 116 = .ok (.isub, 1) := dk_100 (dk_at dksX1_find_4 22 rfl rfl)
theorem dX1_find_117 : decode cX1_find 117 = .ok (.ireturn, 1) := dk_172 (dk_at dksX1_find_4 23 rfl rfl)
theorem q5 : (Jvm.Cond.initialized "ShortSortDeskModel") ∈ lw_all := lw_g (lw_at lw_m0 2 rfl) rfl
theorem q119 : (Jvm.Cond.instantiable "ShortSortDeskModel" (1 : Nat)) ∈ lw_all := lw_g (lw_at lw_m0 116 rfl) rfl
theorem q121 : (Jvm.Cond.instanceMethod ({ cls := "ShortSortDeskModel", name := "<init>", desc := "()V" } : Jvm.MethodName)) ∈ lw_all := lw_g (lw_at lw_m0 118 rfl) rfl
theorem q122 : (Jvm.Cond.code ({ cls := "ShortSortDeskModel", name := "<init>", desc := "()V" } : Jvm.MethodName) prog_4_method_1_code (1 : Nat) (Option.none : Option Jvm.ClassFile.FieldType)) ∈ lw_all := lw_g (lw_at lw_m0 119 rfl) rfl
theorem q123 : (Jvm.Cond.methodLink "ShortSortDeskModel" (1 : Nat) ({ cls := "java/lang/Object", name := "<init>", desc := "()V" } : Jvm.MethodName)) ∈ lw_all := lw_g (lw_at lw_m0 120 rfl) rfl
theorem q124 : (Jvm.Cond.fieldLink "ShortSortDeskModel" (7 : Nat) "ShortSortDeskModel" "cells" "[I") ∈ lw_all := lw_g (lw_at lw_m0 121 rfl) rfl
theorem q125 : (Jvm.Cond.laysFinal "ShortSortDeskModel" "ShortSortDeskModel" "cells" "[I") ∈ lw_all := lw_g (lw_at lw_m0 122 rfl) rfl
theorem q126 : (Jvm.Cond.soleField "ShortSortDeskModel" "cells") ∈ lw_all := lw_g (lw_at lw_m0 123 rfl) rfl
theorem q127 : (Jvm.Cond.superclass "ShortSortDeskModel" "java/lang/Object") ∈ lw_all := lw_g (lw_at lw_m0 124 rfl) rfl
theorem q129 : (Jvm.Cond.instanceMethod ({ cls := "ShortSortDeskModel", name := "set", desc := "(II)V" } : Jvm.MethodName)) ∈ lw_all := lw_g (lw_at lw_m0 126 rfl) rfl
theorem q130 : (Jvm.Cond.selects "ShortSortDeskModel" ({ cls := "ShortSortDeskModel", name := "set", desc := "(II)V" } : Jvm.MethodName) ({ cls := "ShortSortDeskModel", name := "set", desc := "(II)V" } : Jvm.MethodName)) ∈ lw_all := lw_g (lw_at lw_m0 127 rfl) rfl
theorem q131 : (Jvm.Cond.code ({ cls := "ShortSortDeskModel", name := "set", desc := "(II)V" } : Jvm.MethodName) prog_4_method_6_code (3 : Nat) (Option.none : Option Jvm.ClassFile.FieldType)) ∈ lw_all := lw_g (lw_at lw_m0 128 rfl) rfl
theorem q132 : (Jvm.Cond.methodLink "ShortSortDeskModel" (17 : Nat) ({ cls := "ShortSortDeskModel", name := "place", desc := "(I)I" } : Jvm.MethodName)) ∈ lw_all := lw_g (lw_at lw_m0 129 rfl) rfl
theorem q133 : (Jvm.Cond.static ({ cls := "ShortSortDeskModel", name := "place", desc := "(I)I" } : Jvm.MethodName)) ∈ lw_all := lw_g (lw_at lw_m0 130 rfl) rfl
theorem q134 : (Jvm.Cond.code ({ cls := "ShortSortDeskModel", name := "place", desc := "(I)I" } : Jvm.MethodName) prog_4_method_3_code (1 : Nat) (Option.some Jvm.ClassFile.FieldType.int)) ∈ lw_all := lw_g (lw_at lw_m0 131 rfl) rfl
theorem q135 : (Jvm.Cond.constant "ShortSortDeskModel" (16 : Nat) (2147483647 : Int32)) ∈ lw_all := lw_g (lw_at lw_m0 132 rfl) rfl
theorem q136 : (Jvm.Cond.methodLink "ShortSortDeskModel" (21 : Nat) ({ cls := "ShortSortDeskModel", name := "narrow", desc := "(I)I" } : Jvm.MethodName)) ∈ lw_all := lw_g (lw_at lw_m0 133 rfl) rfl
theorem q137 : (Jvm.Cond.static ({ cls := "ShortSortDeskModel", name := "narrow", desc := "(I)I" } : Jvm.MethodName)) ∈ lw_all := lw_g (lw_at lw_m0 134 rfl) rfl
theorem q138 : (Jvm.Cond.code ({ cls := "ShortSortDeskModel", name := "narrow", desc := "(I)I" } : Jvm.MethodName) prog_4_method_2_code (2 : Nat) (Option.some Jvm.ClassFile.FieldType.int)) ∈ lw_all := lw_g (lw_at lw_m0 135 rfl) rfl
theorem q139 : (Jvm.Cond.constant "ShortSortDeskModel" (13 : Nat) (65535 : Int32)) ∈ lw_all := lw_g (lw_at lw_m0 136 rfl) rfl
theorem q140 : (Jvm.Cond.constant "ShortSortDeskModel" (14 : Nat) (32768 : Int32)) ∈ lw_all := lw_g (lw_at lw_m0 137 rfl) rfl
theorem q141 : (Jvm.Cond.constant "ShortSortDeskModel" (15 : Nat) (65536 : Int32)) ∈ lw_all := lw_g (lw_at lw_m0 138 rfl) rfl
theorem q143 : (Jvm.Cond.instanceMethod ({ cls := "ShortSortDeskModel", name := "get", desc := "(I)I" } : Jvm.MethodName)) ∈ lw_all := lw_g (lw_at lw_m0 140 rfl) rfl
theorem q144 : (Jvm.Cond.selects "ShortSortDeskModel" ({ cls := "ShortSortDeskModel", name := "get", desc := "(I)I" } : Jvm.MethodName) ({ cls := "ShortSortDeskModel", name := "get", desc := "(I)I" } : Jvm.MethodName)) ∈ lw_all := lw_g (lw_at lw_m0 141 rfl) rfl
theorem q145 : (Jvm.Cond.code ({ cls := "ShortSortDeskModel", name := "get", desc := "(I)I" } : Jvm.MethodName) prog_4_method_7_code (2 : Nat) (Option.some Jvm.ClassFile.FieldType.int)) ∈ lw_all := lw_g (lw_at lw_m0 142 rfl) rfl
theorem q147 : (Jvm.Cond.instanceMethod ({ cls := "ShortSortDeskModel", name := "quick", desc := "(II)V" } : Jvm.MethodName)) ∈ lw_all := lw_g (lw_at lw_m0 144 rfl) rfl
theorem q148 : (Jvm.Cond.selects "ShortSortDeskModel" ({ cls := "ShortSortDeskModel", name := "quick", desc := "(II)V" } : Jvm.MethodName) ({ cls := "ShortSortDeskModel", name := "quick", desc := "(II)V" } : Jvm.MethodName)) ∈ lw_all := lw_g (lw_at lw_m0 145 rfl) rfl
theorem q149 : (Jvm.Cond.code ({ cls := "ShortSortDeskModel", name := "quick", desc := "(II)V" } : Jvm.MethodName) prog_4_method_9_code (4 : Nat) (Option.none : Option Jvm.ClassFile.FieldType)) ∈ lw_all := lw_g (lw_at lw_m0 146 rfl) rfl
theorem q150 : (Jvm.Cond.methodLink "ShortSortDeskModel" (24 : Nat) ({ cls := "ShortSortDeskModel", name := "start", desc := "(I)I" } : Jvm.MethodName)) ∈ lw_all := lw_g (lw_at lw_m0 147 rfl) rfl
theorem q151 : (Jvm.Cond.static ({ cls := "ShortSortDeskModel", name := "start", desc := "(I)I" } : Jvm.MethodName)) ∈ lw_all := lw_g (lw_at lw_m0 148 rfl) rfl
theorem q152 : (Jvm.Cond.code ({ cls := "ShortSortDeskModel", name := "start", desc := "(I)I" } : Jvm.MethodName) prog_4_method_4_code (1 : Nat) (Option.some Jvm.ClassFile.FieldType.int)) ∈ lw_all := lw_g (lw_at lw_m0 149 rfl) rfl
theorem q153 : (Jvm.Cond.methodLink "ShortSortDeskModel" (27 : Nat) ({ cls := "ShortSortDeskModel", name := "end", desc := "(II)I" } : Jvm.MethodName)) ∈ lw_all := lw_g (lw_at lw_m0 150 rfl) rfl
theorem q154 : (Jvm.Cond.static ({ cls := "ShortSortDeskModel", name := "end", desc := "(II)I" } : Jvm.MethodName)) ∈ lw_all := lw_g (lw_at lw_m0 151 rfl) rfl
theorem q155 : (Jvm.Cond.code ({ cls := "ShortSortDeskModel", name := "end", desc := "(II)I" } : Jvm.MethodName) prog_4_method_5_code (2 : Nat) (Option.some Jvm.ClassFile.FieldType.int)) ∈ lw_all := lw_g (lw_at lw_m0 152 rfl) rfl
theorem q156 : (Jvm.Cond.methodLink "ShortSortDeskModel" (31 : Nat) ({ cls := "ShortSortDeskModel", name := "ascending", desc := "(II)V" } : Jvm.MethodName)) ∈ lw_all := lw_g (lw_at lw_m0 153 rfl) rfl
theorem q157 : (Jvm.Cond.privateMethod ({ cls := "ShortSortDeskModel", name := "ascending", desc := "(II)V" } : Jvm.MethodName)) ∈ lw_tbl := lw_at lw_m0 154 rfl
theorem q158 : (Jvm.Cond.instanceMethod ({ cls := "ShortSortDeskModel", name := "ascending", desc := "(II)V" } : Jvm.MethodName)) ∈ lw_all := lw_g (lw_at lw_m0 155 rfl) rfl
theorem q159 : (Jvm.Cond.code ({ cls := "ShortSortDeskModel", name := "ascending", desc := "(II)V" } : Jvm.MethodName) prog_4_method_8_code (6 : Nat) (Option.none : Option Jvm.ClassFile.FieldType)) ∈ lw_all := lw_g (lw_at lw_m0 156 rfl) rfl
theorem q161 : (Jvm.Cond.instanceMethod ({ cls := "ShortSortDeskModel", name := "merge", desc := "(II)V" } : Jvm.MethodName)) ∈ lw_all := lw_g (lw_at lw_m0 158 rfl) rfl
theorem q162 : (Jvm.Cond.selects "ShortSortDeskModel" ({ cls := "ShortSortDeskModel", name := "merge", desc := "(II)V" } : Jvm.MethodName) ({ cls := "ShortSortDeskModel", name := "merge", desc := "(II)V" } : Jvm.MethodName)) ∈ lw_all := lw_g (lw_at lw_m0 159 rfl) rfl
theorem q163 : (Jvm.Cond.code ({ cls := "ShortSortDeskModel", name := "merge", desc := "(II)V" } : Jvm.MethodName) prog_4_method_10_code (4 : Nat) (Option.none : Option Jvm.ClassFile.FieldType)) ∈ lw_all := lw_g (lw_at lw_m0 160 rfl) rfl
theorem q165 : (Jvm.Cond.instanceMethod ({ cls := "ShortSortDeskModel", name := "radix", desc := "(II)V" } : Jvm.MethodName)) ∈ lw_all := lw_g (lw_at lw_m0 162 rfl) rfl
theorem q166 : (Jvm.Cond.selects "ShortSortDeskModel" ({ cls := "ShortSortDeskModel", name := "radix", desc := "(II)V" } : Jvm.MethodName) ({ cls := "ShortSortDeskModel", name := "radix", desc := "(II)V" } : Jvm.MethodName)) ∈ lw_all := lw_g (lw_at lw_m0 163 rfl) rfl
theorem q167 : (Jvm.Cond.code ({ cls := "ShortSortDeskModel", name := "radix", desc := "(II)V" } : Jvm.MethodName) prog_4_method_11_code (4 : Nat) (Option.none : Option Jvm.ClassFile.FieldType)) ∈ lw_all := lw_g (lw_at lw_m0 164 rfl) rfl
theorem q169 : (Jvm.Cond.instanceMethod ({ cls := "ShortSortDeskModel", name := "reverse", desc := "(II)V" } : Jvm.MethodName)) ∈ lw_all := lw_g (lw_at lw_m0 166 rfl) rfl
theorem q170 : (Jvm.Cond.selects "ShortSortDeskModel" ({ cls := "ShortSortDeskModel", name := "reverse", desc := "(II)V" } : Jvm.MethodName) ({ cls := "ShortSortDeskModel", name := "reverse", desc := "(II)V" } : Jvm.MethodName)) ∈ lw_all := lw_g (lw_at lw_m0 167 rfl) rfl
theorem q171 : (Jvm.Cond.code ({ cls := "ShortSortDeskModel", name := "reverse", desc := "(II)V" } : Jvm.MethodName) prog_4_method_12_code (7 : Nat) (Option.none : Option Jvm.ClassFile.FieldType)) ∈ lw_all := lw_g (lw_at lw_m0 168 rfl) rfl
theorem q173 : (Jvm.Cond.instanceMethod ({ cls := "ShortSortDeskModel", name := "find", desc := "(III)I" } : Jvm.MethodName)) ∈ lw_all := lw_g (lw_at lw_m0 170 rfl) rfl
theorem q174 : (Jvm.Cond.selects "ShortSortDeskModel" ({ cls := "ShortSortDeskModel", name := "find", desc := "(III)I" } : Jvm.MethodName) ({ cls := "ShortSortDeskModel", name := "find", desc := "(III)I" } : Jvm.MethodName)) ∈ lw_all := lw_g (lw_at lw_m0 171 rfl) rfl
theorem q175 : (Jvm.Cond.code ({ cls := "ShortSortDeskModel", name := "find", desc := "(III)I" } : Jvm.MethodName) prog_4_method_13_code (8 : Nat) (Option.some Jvm.ClassFile.FieldType.int)) ∈ lw_all := lw_g (lw_at lw_m0 172 rfl) rfl
theorem in_X1 : ∀ w ∈ wsX10, w ∈ lw_all := lw_in wsX10 [125] (by decide +kernel) (by decide +kernel)
theorem q3 : (Jvm.Cond.initialized "ShortSortDeskLaw") ∈ lw_all := lw_g (lw_at lw_m0 0 rfl) rfl
set_option maxRecDepth 100000
theorem q11 : (Jvm.Cond.classLink "ShortSortDeskLaw" (7 : Nat) "ShortSortDesk") ∈ lw_all := lw_g (lw_at lw_m0 8 rfl) rfl
theorem q13 : (Jvm.Cond.methodLink "ShortSortDeskLaw" (9 : Nat) ({ cls := "ShortSortDesk", name := "<init>", desc := "()V" } : Jvm.MethodName)) ∈ lw_all := lw_g (lw_at lw_m0 10 rfl) rfl
theorem q24 : (Jvm.Cond.methodLink "ShortSortDeskLaw" (13 : Nat) ({ cls := "ShortSortDesk", name := "set", desc := "(II)V" } : Jvm.MethodName)) ∈ lw_all := lw_g (lw_at lw_m0 21 rfl) rfl
theorem q29 : (Jvm.Cond.methodLink "ShortSortDeskLaw" (18 : Nat) ({ cls := "ShortSortDesk", name := "get", desc := "(I)I" } : Jvm.MethodName)) ∈ lw_all := lw_g (lw_at lw_m0 26 rfl) rfl
theorem q33 : (Jvm.Cond.methodLink "ShortSortDeskLaw" (23 : Nat) ({ cls := "ShortSortDesk", name := "quick", desc := "(II)V" } : Jvm.MethodName)) ∈ lw_all := lw_g (lw_at lw_m0 30 rfl) rfl
theorem q67 : (Jvm.Cond.methodLink "ShortSortDeskLaw" (27 : Nat) ({ cls := "ShortSortDesk", name := "merge", desc := "(II)V" } : Jvm.MethodName)) ∈ lw_all := lw_g (lw_at lw_m0 64 rfl) rfl
theorem q96 : (Jvm.Cond.methodLink "ShortSortDeskLaw" (31 : Nat) ({ cls := "ShortSortDesk", name := "radix", desc := "(II)V" } : Jvm.MethodName)) ∈ lw_all := lw_g (lw_at lw_m0 93 rfl) rfl
theorem q104 : (Jvm.Cond.methodLink "ShortSortDeskLaw" (35 : Nat) ({ cls := "ShortSortDesk", name := "reverse", desc := "(II)V" } : Jvm.MethodName)) ∈ lw_all := lw_g (lw_at lw_m0 101 rfl) rfl
theorem q111 : (Jvm.Cond.methodLink "ShortSortDeskLaw" (39 : Nat) ({ cls := "ShortSortDesk", name := "find", desc := "(III)I" } : Jvm.MethodName)) ∈ lw_all := lw_g (lw_at lw_m0 108 rfl) rfl
theorem q118 : (Jvm.Cond.classLink "ShortSortDeskLaw" (10 : Nat) "ShortSortDeskModel") ∈ lw_all := lw_g (lw_at lw_m0 115 rfl) rfl
theorem q120 : (Jvm.Cond.methodLink "ShortSortDeskLaw" (12 : Nat) ({ cls := "ShortSortDeskModel", name := "<init>", desc := "()V" } : Jvm.MethodName)) ∈ lw_all := lw_g (lw_at lw_m0 117 rfl) rfl
theorem q128 : (Jvm.Cond.methodLink "ShortSortDeskLaw" (17 : Nat) ({ cls := "ShortSortDeskModel", name := "set", desc := "(II)V" } : Jvm.MethodName)) ∈ lw_all := lw_g (lw_at lw_m0 125 rfl) rfl
theorem q142 : (Jvm.Cond.methodLink "ShortSortDeskLaw" (22 : Nat) ({ cls := "ShortSortDeskModel", name := "get", desc := "(I)I" } : Jvm.MethodName)) ∈ lw_all := lw_g (lw_at lw_m0 139 rfl) rfl
theorem q146 : (Jvm.Cond.methodLink "ShortSortDeskLaw" (26 : Nat) ({ cls := "ShortSortDeskModel", name := "quick", desc := "(II)V" } : Jvm.MethodName)) ∈ lw_all := lw_g (lw_at lw_m0 143 rfl) rfl
theorem q160 : (Jvm.Cond.methodLink "ShortSortDeskLaw" (30 : Nat) ({ cls := "ShortSortDeskModel", name := "merge", desc := "(II)V" } : Jvm.MethodName)) ∈ lw_all := lw_g (lw_at lw_m0 157 rfl) rfl
theorem q164 : (Jvm.Cond.methodLink "ShortSortDeskLaw" (34 : Nat) ({ cls := "ShortSortDeskModel", name := "radix", desc := "(II)V" } : Jvm.MethodName)) ∈ lw_all := lw_g (lw_at lw_m0 161 rfl) rfl
theorem q168 : (Jvm.Cond.methodLink "ShortSortDeskLaw" (38 : Nat) ({ cls := "ShortSortDeskModel", name := "reverse", desc := "(II)V" } : Jvm.MethodName)) ∈ lw_all := lw_g (lw_at lw_m0 165 rfl) rfl
theorem q172 : (Jvm.Cond.methodLink "ShortSortDeskLaw" (43 : Nat) ({ cls := "ShortSortDeskModel", name := "find", desc := "(III)I" } : Jvm.MethodName)) ∈ lw_all := lw_g (lw_at lw_m0 169 rfl) rfl
/-! the law's own entry -/
set_option maxRecDepth 100000
abbrev cL_law : ByteArray := code
def dkwL_law_12 : List UInt8 := [182, 0, 43, 159, 0, 5, 3, 172, 132, 3, 6, 167, 254, 230, 4, 172]
abbrev dktL_law_12 : List UInt8 := dkwL_law_12 ++ []
def dkwL_law_11 : List UInt8 := [42, 29, 6, 96, 46, 182, 0, 39, 44, 42, 29, 4, 96, 46, 42, 29, 5, 96, 46, 42, 29, 6, 96, 46]
abbrev dktL_law_11 : List UInt8 := dkwL_law_11 ++ dktL_law_12
def dkwL_law_10 : List UInt8 := [96, 46, 42, 29, 5, 96, 46, 182, 0, 38, 167, 0, 46, 43, 42, 29, 4, 96, 46, 42, 29, 5, 96, 46]
abbrev dktL_law_10 : List UInt8 := dkwL_law_10 ++ dktL_law_11
def dkwL_law_9 : List UInt8 := [182, 0, 34, 167, 0, 77, 43, 42, 29, 4, 96, 46, 42, 29, 5, 96, 46, 182, 0, 35, 44, 42, 29, 4]
abbrev dktL_law_9 : List UInt8 := dkwL_law_9 ++ dktL_law_10
def dkwL_law_8 : List UInt8 := [29, 4, 96, 46, 42, 29, 5, 96, 46, 182, 0, 31, 44, 42, 29, 4, 96, 46, 42, 29, 5, 96, 46]
abbrev dktL_law_8 : List UInt8 := dkwL_law_8 ++ dktL_law_9
def dkwL_law_7 : List UInt8 := [96, 46, 182, 0, 27, 44, 42, 29, 4, 96, 46, 42, 29, 5, 96, 46, 182, 0, 30, 167, 0, 108, 43, 42]
abbrev dktL_law_7 : List UInt8 := dkwL_law_7 ++ dktL_law_8
def dkwL_law_6 : List UInt8 := [29, 4, 96, 46, 42, 29, 5, 96, 46, 182, 0, 26, 167, 0, 139, 43, 42, 29, 4, 96, 46, 42, 29, 5]
abbrev dktL_law_6 : List UInt8 := dkwL_law_6 ++ dktL_law_7
def dkwL_law_5 : List UInt8 := [182, 0, 22, 159, 0, 172, 3, 172, 43, 42, 29, 4, 96, 46, 42, 29, 5, 96, 46, 182, 0, 23, 44, 42]
abbrev dktL_law_5 : List UInt8 := dkwL_law_5 ++ dktL_law_6
def dkwL_law_4 : List UInt8 := [46, 182, 0, 17, 167, 0, 193, 43, 42, 29, 4, 96, 46, 182, 0, 18, 44, 42, 29, 4, 96, 46]
abbrev dktL_law_4 : List UInt8 := dkwL_law_4 ++ dktL_law_5
def dkwL_law_3 : List UInt8 := [43, 42, 29, 4, 96, 46, 42, 29, 5, 96, 46, 182, 0, 13, 44, 42, 29, 4, 96, 46, 42, 29, 5, 96]
abbrev dktL_law_3 : List UInt8 := dkwL_law_3 ++ dktL_law_4
def dkwL_law_2 : List UInt8 := [170, 0, 0, 0, 0, 1, 8, 0, 0, 0, 0, 0, 0, 0, 6, 0, 0, 0, 43, 0, 0, 0, 74, 0, 0, 0, 97, 0, 0, 0, 128, 0, 0, 0, 159, 0, 0, 0, 190, 0, 0, 0, 221]
abbrev dktL_law_2 : List UInt8 := dkwL_law_2 ++ dktL_law_3
def dkwL_law_1 : List UInt8 := [163, 1, 23, 42, 29, 46, 16, 7, 126]
abbrev dktL_law_1 : List UInt8 := dkwL_law_1 ++ dktL_law_2
def dkwL_law_0 : List UInt8 := [187, 0, 7, 89, 183, 0, 9, 76, 187, 0, 10, 89, 183, 0, 12, 77, 3, 62, 29, 42, 190, 16, 6, 100]
abbrev dktL_law_0 : List UInt8 := dkwL_law_0 ++ dktL_law_1
theorem dksL_law_0 : cL_law.data.toList.drop 0 = dktL_law_0 := by decide +kernel
theorem dksL_law_1 : cL_law.data.toList.drop 24 = dktL_law_1 := dk_seg dksL_law_0 24 rfl rfl
theorem dksL_law_2 : cL_law.data.toList.drop 33 = dktL_law_2 := dk_seg dksL_law_1 9 rfl rfl
theorem dksL_law_3 : cL_law.data.toList.drop 76 = dktL_law_3 := dk_seg dksL_law_2 43 rfl rfl
theorem dksL_law_4 : cL_law.data.toList.drop 100 = dktL_law_4 := dk_seg dksL_law_3 24 rfl rfl
theorem dksL_law_5 : cL_law.data.toList.drop 122 = dktL_law_5 := dk_seg dksL_law_4 22 rfl rfl
theorem dksL_law_6 : cL_law.data.toList.drop 146 = dktL_law_6 := dk_seg dksL_law_5 24 rfl rfl
theorem dksL_law_7 : cL_law.data.toList.drop 170 = dktL_law_7 := dk_seg dksL_law_6 24 rfl rfl
theorem dksL_law_8 : cL_law.data.toList.drop 194 = dktL_law_8 := dk_seg dksL_law_7 24 rfl rfl
theorem dksL_law_9 : cL_law.data.toList.drop 217 = dktL_law_9 := dk_seg dksL_law_8 23 rfl rfl
theorem dksL_law_10 : cL_law.data.toList.drop 241 = dktL_law_10 := dk_seg dksL_law_9 24 rfl rfl
theorem dksL_law_11 : cL_law.data.toList.drop 265 = dktL_law_11 := dk_seg dksL_law_10 24 rfl rfl
theorem dksL_law_12 : cL_law.data.toList.drop 289 = dktL_law_12 := dk_seg dksL_law_11 24 rfl rfl
theorem dL_law_0 : decode cL_law 0 = .ok (.new 7, 3) := dk_187 0 7 (dk_at dksL_law_0 0 rfl rfl)
theorem dL_law_3 : decode cL_law 3 = .ok (.dup, 1) := dk_89 (dk_at dksL_law_0 3 rfl rfl)
theorem dL_law_4 : decode cL_law 4 = .ok (.invokespecial 9, 3) := dk_183 0 9 (dk_at dksL_law_0 4 rfl rfl)
theorem dL_law_7 : decode cL_law 7 = .ok (.astore_n 1, 1) := dk_76 (dk_at dksL_law_0 7 rfl rfl)
theorem dL_law_8 : decode cL_law 8 = .ok (.new 10, 3) := dk_187 0 10 (dk_at dksL_law_0 8 rfl rfl)
theorem dL_law_11 : decode cL_law 11 = .ok (.dup, 1) := dk_89 (dk_at dksL_law_0 11 rfl rfl)
theorem dL_law_12 : decode cL_law 12 = .ok (.invokespecial 12, 3) := dk_183 0 12 (dk_at dksL_law_0 12 rfl rfl)
theorem dL_law_15 : decode cL_law 15 = .ok (.astore_n 2, 1) := dk_77 (dk_at dksL_law_0 15 rfl rfl)
theorem dL_law_16 : decode cL_law 16 = .ok (.iconst 0, 1) := dk_3 (dk_at dksL_law_0 16 rfl rfl)
theorem dL_law_17 : decode cL_law 17 = .ok (.istore_n 3, 1) := dk_62 (dk_at dksL_law_0 17 rfl rfl)
theorem dL_law_18 : decode cL_law 18 = .ok (.iload_n 3, 1) := dk_29 (dk_at dksL_law_0 18 rfl rfl)
theorem dL_law_19 : decode cL_law 19 = .ok (.aload_n 0, 1) := dk_42 (dk_at dksL_law_0 19 rfl rfl)
theorem dL_law_20 : decode cL_law 20 = .ok (.arraylength, 1) := dk_190 (dk_at dksL_law_0 20 rfl rfl)
theorem dL_law_21 : decode cL_law 21 = .ok (.bipush 6, 2) := dk_16 6 (dk_at dksL_law_0 21 rfl rfl)
theorem dL_law_23 : decode cL_law 23 = .ok (.isub, 1) := dk_100 (dk_at dksL_law_0 23 rfl rfl)
theorem dL_law_24 : decode cL_law 24 = .ok (.if_icmp .gt 279, 3) := dk_163 1 23 (dk_at dksL_law_1 0 rfl rfl)
theorem dL_law_27 : decode cL_law 27 = .ok (.aload_n 0, 1) := dk_42 (dk_at dksL_law_1 3 rfl rfl)
theorem dL_law_28 : decode cL_law 28 = .ok (.iload_n 3, 1) := dk_29 (dk_at dksL_law_1 4 rfl rfl)
theorem dL_law_29 : decode cL_law 29 = .ok (.iaload, 1) := dk_46 (dk_at dksL_law_1 5 rfl rfl)
theorem dL_law_30 : decode cL_law 30 = .ok (.bipush 7, 2) := dk_16 7 (dk_at dksL_law_1 6 rfl rfl)
theorem dL_law_32 : decode cL_law 32 = .ok (.iand, 1) := dk_126 (dk_at dksL_law_1 8 rfl rfl)
theorem dL_law_33 : decode cL_law 33 = .ok (.tableswitch 264 0 6 #[43, 74, 97, 128, 159, 190, 221], 43) := by decide +kernel
theorem dL_law_76 : decode cL_law 76 = .ok (.aload_n 1, 1) := dk_43 (dk_at dksL_law_3 0 rfl rfl)
theorem dL_law_77 : decode cL_law 77 = .ok (.aload_n 0, 1) := dk_42 (dk_at dksL_law_3 1 rfl rfl)
theorem dL_law_78 : decode cL_law 78 = .ok (.iload_n 3, 1) := dk_29 (dk_at dksL_law_3 2 rfl rfl)
theorem dL_law_79 : decode cL_law 79 = .ok (.iconst 1, 1) := dk_4 (dk_at dksL_law_3 3 rfl rfl)
theorem dL_law_80 : decode cL_law 80 = .ok (.iadd, 1) := dk_96 (dk_at dksL_law_3 4 rfl rfl)
theorem dL_law_81 : decode cL_law 81 = .ok (.iaload, 1) := dk_46 (dk_at dksL_law_3 5 rfl rfl)
theorem dL_law_82 : decode cL_law 82 = .ok (.aload_n 0, 1) := dk_42 (dk_at dksL_law_3 6 rfl rfl)
theorem dL_law_83 : decode cL_law 83 = .ok (.iload_n 3, 1) := dk_29 (dk_at dksL_law_3 7 rfl rfl)
theorem dL_law_84 : decode cL_law 84 = .ok (.iconst 2, 1) := dk_5 (dk_at dksL_law_3 8 rfl rfl)
theorem dL_law_85 : decode cL_law 85 = .ok (.iadd, 1) := dk_96 (dk_at dksL_law_3 9 rfl rfl)
theorem dL_law_86 : decode cL_law 86 = .ok (.iaload, 1) := dk_46 (dk_at dksL_law_3 10 rfl rfl)
theorem dL_law_87 : decode cL_law 87 = .ok (.invokevirtual 13, 3) := dk_182 0 13 (dk_at dksL_law_3 11 rfl rfl)
theorem dL_law_90 : decode cL_law 90 = .ok (.aload_n 2, 1) := dk_44 (dk_at dksL_law_3 14 rfl rfl)
theorem dL_law_91 : decode cL_law 91 = .ok (.aload_n 0, 1) := dk_42 (dk_at dksL_law_3 15 rfl rfl)
theorem dL_law_92 : decode cL_law 92 = .ok (.iload_n 3, 1) := dk_29 (dk_at dksL_law_3 16 rfl rfl)
theorem dL_law_93 : decode cL_law 93 = .ok (.iconst 1, 1) := dk_4 (dk_at dksL_law_3 17 rfl rfl)
theorem dL_law_94 : decode cL_law 94 = .ok (.iadd, 1) := dk_96 (dk_at dksL_law_3 18 rfl rfl)
theorem dL_law_95 : decode cL_law 95 = .ok (.iaload, 1) := dk_46 (dk_at dksL_law_3 19 rfl rfl)
theorem dL_law_96 : decode cL_law 96 = .ok (.aload_n 0, 1) := dk_42 (dk_at dksL_law_3 20 rfl rfl)
theorem dL_law_97 : decode cL_law 97 = .ok (.iload_n 3, 1) := dk_29 (dk_at dksL_law_3 21 rfl rfl)
theorem dL_law_98 : decode cL_law 98 = .ok (.iconst 2, 1) := dk_5 (dk_at dksL_law_3 22 rfl rfl)
theorem dL_law_99 : decode cL_law 99 = .ok (.iadd, 1) := dk_96 (dk_at dksL_law_3 23 rfl rfl)
theorem dL_law_100 : decode cL_law 100 = .ok (.iaload, 1) := dk_46 (dk_at dksL_law_4 0 rfl rfl)
theorem dL_law_101 : decode cL_law 101 = .ok (.invokevirtual 17, 3) := dk_182 0 17 (dk_at dksL_law_4 1 rfl rfl)
theorem dL_law_104 : decode cL_law 104 = .ok (.goto 193, 3) := dk_167 0 193 (dk_at dksL_law_4 4 rfl rfl)
theorem dL_law_107 : decode cL_law 107 = .ok (.aload_n 1, 1) := dk_43 (dk_at dksL_law_4 7 rfl rfl)
theorem dL_law_108 : decode cL_law 108 = .ok (.aload_n 0, 1) := dk_42 (dk_at dksL_law_4 8 rfl rfl)
theorem dL_law_109 : decode cL_law 109 = .ok (.iload_n 3, 1) := dk_29 (dk_at dksL_law_4 9 rfl rfl)
theorem dL_law_110 : decode cL_law 110 = .ok (.iconst 1, 1) := dk_4 (dk_at dksL_law_4 10 rfl rfl)
theorem dL_law_111 : decode cL_law 111 = .ok (.iadd, 1) := dk_96 (dk_at dksL_law_4 11 rfl rfl)
theorem dL_law_112 : decode cL_law 112 = .ok (.iaload, 1) := dk_46 (dk_at dksL_law_4 12 rfl rfl)
theorem dL_law_113 : decode cL_law 113 = .ok (.invokevirtual 18, 3) := dk_182 0 18 (dk_at dksL_law_4 13 rfl rfl)
theorem dL_law_116 : decode cL_law 116 = .ok (.aload_n 2, 1) := dk_44 (dk_at dksL_law_4 16 rfl rfl)
theorem dL_law_117 : decode cL_law 117 = .ok (.aload_n 0, 1) := dk_42 (dk_at dksL_law_4 17 rfl rfl)
theorem dL_law_118 : decode cL_law 118 = .ok (.iload_n 3, 1) := dk_29 (dk_at dksL_law_4 18 rfl rfl)
theorem dL_law_119 : decode cL_law 119 = .ok (.iconst 1, 1) := dk_4 (dk_at dksL_law_4 19 rfl rfl)
theorem dL_law_120 : decode cL_law 120 = .ok (.iadd, 1) := dk_96 (dk_at dksL_law_4 20 rfl rfl)
theorem dL_law_121 : decode cL_law 121 = .ok (.iaload, 1) := dk_46 (dk_at dksL_law_4 21 rfl rfl)
theorem dL_law_122 : decode cL_law 122 = .ok (.invokevirtual 22, 3) := dk_182 0 22 (dk_at dksL_law_5 0 rfl rfl)
theorem dL_law_125 : decode cL_law 125 = .ok (.if_icmp .eq 172, 3) := dk_159 0 172 (dk_at dksL_law_5 3 rfl rfl)
theorem dL_law_128 : decode cL_law 128 = .ok (.iconst 0, 1) := dk_3 (dk_at dksL_law_5 6 rfl rfl)
theorem dL_law_129 : decode cL_law 129 = .ok (.ireturn, 1) := dk_172 (dk_at dksL_law_5 7 rfl rfl)
theorem dL_law_130 : decode cL_law 130 = .ok (.aload_n 1, 1) := dk_43 (dk_at dksL_law_5 8 rfl rfl)
theorem dL_law_131 : decode cL_law 131 = .ok (.aload_n 0, 1) := dk_42 (dk_at dksL_law_5 9 rfl rfl)
theorem dL_law_132 : decode cL_law 132 = .ok (.iload_n 3, 1) := dk_29 (dk_at dksL_law_5 10 rfl rfl)
theorem dL_law_133 : decode cL_law 133 = .ok (.iconst 1, 1) := dk_4 (dk_at dksL_law_5 11 rfl rfl)
theorem dL_law_134 : decode cL_law 134 = .ok (.iadd, 1) := dk_96 (dk_at dksL_law_5 12 rfl rfl)
theorem dL_law_135 : decode cL_law 135 = .ok (.iaload, 1) := dk_46 (dk_at dksL_law_5 13 rfl rfl)
theorem dL_law_136 : decode cL_law 136 = .ok (.aload_n 0, 1) := dk_42 (dk_at dksL_law_5 14 rfl rfl)
theorem dL_law_137 : decode cL_law 137 = .ok (.iload_n 3, 1) := dk_29 (dk_at dksL_law_5 15 rfl rfl)
theorem dL_law_138 : decode cL_law 138 = .ok (.iconst 2, 1) := dk_5 (dk_at dksL_law_5 16 rfl rfl)
theorem dL_law_139 : decode cL_law 139 = .ok (.iadd, 1) := dk_96 (dk_at dksL_law_5 17 rfl rfl)
theorem dL_law_140 : decode cL_law 140 = .ok (.iaload, 1) := dk_46 (dk_at dksL_law_5 18 rfl rfl)
theorem dL_law_141 : decode cL_law 141 = .ok (.invokevirtual 23, 3) := dk_182 0 23 (dk_at dksL_law_5 19 rfl rfl)
theorem dL_law_144 : decode cL_law 144 = .ok (.aload_n 2, 1) := dk_44 (dk_at dksL_law_5 22 rfl rfl)
theorem dL_law_145 : decode cL_law 145 = .ok (.aload_n 0, 1) := dk_42 (dk_at dksL_law_5 23 rfl rfl)
theorem dL_law_146 : decode cL_law 146 = .ok (.iload_n 3, 1) := dk_29 (dk_at dksL_law_6 0 rfl rfl)
theorem dL_law_147 : decode cL_law 147 = .ok (.iconst 1, 1) := dk_4 (dk_at dksL_law_6 1 rfl rfl)
theorem dL_law_148 : decode cL_law 148 = .ok (.iadd, 1) := dk_96 (dk_at dksL_law_6 2 rfl rfl)
theorem dL_law_149 : decode cL_law 149 = .ok (.iaload, 1) := dk_46 (dk_at dksL_law_6 3 rfl rfl)
theorem dL_law_150 : decode cL_law 150 = .ok (.aload_n 0, 1) := dk_42 (dk_at dksL_law_6 4 rfl rfl)
theorem dL_law_151 : decode cL_law 151 = .ok (.iload_n 3, 1) := dk_29 (dk_at dksL_law_6 5 rfl rfl)
theorem dL_law_152 : decode cL_law 152 = .ok (.iconst 2, 1) := dk_5 (dk_at dksL_law_6 6 rfl rfl)
theorem dL_law_153 : decode cL_law 153 = .ok (.iadd, 1) := dk_96 (dk_at dksL_law_6 7 rfl rfl)
theorem dL_law_154 : decode cL_law 154 = .ok (.iaload, 1) := dk_46 (dk_at dksL_law_6 8 rfl rfl)
theorem dL_law_155 : decode cL_law 155 = .ok (.invokevirtual 26, 3) := dk_182 0 26 (dk_at dksL_law_6 9 rfl rfl)
theorem dL_law_158 : decode cL_law 158 = .ok (.goto 139, 3) := dk_167 0 139 (dk_at dksL_law_6 12 rfl rfl)
theorem dL_law_161 : decode cL_law 161 = .ok (.aload_n 1, 1) := dk_43 (dk_at dksL_law_6 15 rfl rfl)
theorem dL_law_162 : decode cL_law 162 = .ok (.aload_n 0, 1) := dk_42 (dk_at dksL_law_6 16 rfl rfl)
theorem dL_law_163 : decode cL_law 163 = .ok (.iload_n 3, 1) := dk_29 (dk_at dksL_law_6 17 rfl rfl)
theorem dL_law_164 : decode cL_law 164 = .ok (.iconst 1, 1) := dk_4 (dk_at dksL_law_6 18 rfl rfl)
theorem dL_law_165 : decode cL_law 165 = .ok (.iadd, 1) := dk_96 (dk_at dksL_law_6 19 rfl rfl)
theorem dL_law_166 : decode cL_law 166 = .ok (.iaload, 1) := dk_46 (dk_at dksL_law_6 20 rfl rfl)
theorem dL_law_167 : decode cL_law 167 = .ok (.aload_n 0, 1) := dk_42 (dk_at dksL_law_6 21 rfl rfl)
theorem dL_law_168 : decode cL_law 168 = .ok (.iload_n 3, 1) := dk_29 (dk_at dksL_law_6 22 rfl rfl)
theorem dL_law_169 : decode cL_law 169 = .ok (.iconst 2, 1) := dk_5 (dk_at dksL_law_6 23 rfl rfl)
theorem dL_law_170 : decode cL_law 170 = .ok (.iadd, 1) := dk_96 (dk_at dksL_law_7 0 rfl rfl)
theorem dL_law_171 : decode cL_law 171 = .ok (.iaload, 1) := dk_46 (dk_at dksL_law_7 1 rfl rfl)
theorem dL_law_172 : decode cL_law 172 = .ok (.invokevirtual 27, 3) := dk_182 0 27 (dk_at dksL_law_7 2 rfl rfl)
theorem dL_law_175 : decode cL_law 175 = .ok (.aload_n 2, 1) := dk_44 (dk_at dksL_law_7 5 rfl rfl)
theorem dL_law_176 : decode cL_law 176 = .ok (.aload_n 0, 1) := dk_42 (dk_at dksL_law_7 6 rfl rfl)
theorem dL_law_177 : decode cL_law 177 = .ok (.iload_n 3, 1) := dk_29 (dk_at dksL_law_7 7 rfl rfl)
theorem dL_law_178 : decode cL_law 178 = .ok (.iconst 1, 1) := dk_4 (dk_at dksL_law_7 8 rfl rfl)
theorem dL_law_179 : decode cL_law 179 = .ok (.iadd, 1) := dk_96 (dk_at dksL_law_7 9 rfl rfl)
theorem dL_law_180 : decode cL_law 180 = .ok (.iaload, 1) := dk_46 (dk_at dksL_law_7 10 rfl rfl)
theorem dL_law_181 : decode cL_law 181 = .ok (.aload_n 0, 1) := dk_42 (dk_at dksL_law_7 11 rfl rfl)
theorem dL_law_182 : decode cL_law 182 = .ok (.iload_n 3, 1) := dk_29 (dk_at dksL_law_7 12 rfl rfl)
theorem dL_law_183 : decode cL_law 183 = .ok (.iconst 2, 1) := dk_5 (dk_at dksL_law_7 13 rfl rfl)
theorem dL_law_184 : decode cL_law 184 = .ok (.iadd, 1) := dk_96 (dk_at dksL_law_7 14 rfl rfl)
theorem dL_law_185 : decode cL_law 185 = .ok (.iaload, 1) := dk_46 (dk_at dksL_law_7 15 rfl rfl)
theorem dL_law_186 : decode cL_law 186 = .ok (.invokevirtual 30, 3) := dk_182 0 30 (dk_at dksL_law_7 16 rfl rfl)
theorem dL_law_189 : decode cL_law 189 = .ok (.goto 108, 3) := dk_167 0 108 (dk_at dksL_law_7 19 rfl rfl)
theorem dL_law_192 : decode cL_law 192 = .ok (.aload_n 1, 1) := dk_43 (dk_at dksL_law_7 22 rfl rfl)
theorem dL_law_193 : decode cL_law 193 = .ok (.aload_n 0, 1) := dk_42 (dk_at dksL_law_7 23 rfl rfl)
theorem dL_law_194 : decode cL_law 194 = .ok (.iload_n 3, 1) := dk_29 (dk_at dksL_law_8 0 rfl rfl)
theorem dL_law_195 : decode cL_law 195 = .ok (.iconst 1, 1) := dk_4 (dk_at dksL_law_8 1 rfl rfl)
theorem dL_law_196 : decode cL_law 196 = .ok (.iadd, 1) := dk_96 (dk_at dksL_law_8 2 rfl rfl)
theorem dL_law_197 : decode cL_law 197 = .ok (.iaload, 1) := dk_46 (dk_at dksL_law_8 3 rfl rfl)
theorem dL_law_198 : decode cL_law 198 = .ok (.aload_n 0, 1) := dk_42 (dk_at dksL_law_8 4 rfl rfl)
theorem dL_law_199 : decode cL_law 199 = .ok (.iload_n 3, 1) := dk_29 (dk_at dksL_law_8 5 rfl rfl)
theorem dL_law_200 : decode cL_law 200 = .ok (.iconst 2, 1) := dk_5 (dk_at dksL_law_8 6 rfl rfl)
theorem dL_law_201 : decode cL_law 201 = .ok (.iadd, 1) := dk_96 (dk_at dksL_law_8 7 rfl rfl)
theorem dL_law_202 : decode cL_law 202 = .ok (.iaload, 1) := dk_46 (dk_at dksL_law_8 8 rfl rfl)
theorem dL_law_203 : decode cL_law 203 = .ok (.invokevirtual 31, 3) := dk_182 0 31 (dk_at dksL_law_8 9 rfl rfl)
theorem dL_law_206 : decode cL_law 206 = .ok (.aload_n 2, 1) := dk_44 (dk_at dksL_law_8 12 rfl rfl)
theorem dL_law_207 : decode cL_law 207 = .ok (.aload_n 0, 1) := dk_42 (dk_at dksL_law_8 13 rfl rfl)
theorem dL_law_208 : decode cL_law 208 = .ok (.iload_n 3, 1) := dk_29 (dk_at dksL_law_8 14 rfl rfl)
theorem dL_law_209 : decode cL_law 209 = .ok (.iconst 1, 1) := dk_4 (dk_at dksL_law_8 15 rfl rfl)
theorem dL_law_210 : decode cL_law 210 = .ok (.iadd, 1) := dk_96 (dk_at dksL_law_8 16 rfl rfl)
theorem dL_law_211 : decode cL_law 211 = .ok (.iaload, 1) := dk_46 (dk_at dksL_law_8 17 rfl rfl)
theorem dL_law_212 : decode cL_law 212 = .ok (.aload_n 0, 1) := dk_42 (dk_at dksL_law_8 18 rfl rfl)
theorem dL_law_213 : decode cL_law 213 = .ok (.iload_n 3, 1) := dk_29 (dk_at dksL_law_8 19 rfl rfl)
theorem dL_law_214 : decode cL_law 214 = .ok (.iconst 2, 1) := dk_5 (dk_at dksL_law_8 20 rfl rfl)
theorem dL_law_215 : decode cL_law 215 = .ok (.iadd, 1) := dk_96 (dk_at dksL_law_8 21 rfl rfl)
theorem dL_law_216 : decode cL_law 216 = .ok (.iaload, 1) := dk_46 (dk_at dksL_law_8 22 rfl rfl)
theorem dL_law_217 : decode cL_law 217 = .ok (.invokevirtual 34, 3) := dk_182 0 34 (dk_at dksL_law_9 0 rfl rfl)
theorem dL_law_220 : decode cL_law 220 = .ok (.goto 77, 3) := dk_167 0 77 (dk_at dksL_law_9 3 rfl rfl)
theorem dL_law_223 : decode cL_law 223 = .ok (.aload_n 1, 1) := dk_43 (dk_at dksL_law_9 6 rfl rfl)
theorem dL_law_224 : decode cL_law 224 = .ok (.aload_n 0, 1) := dk_42 (dk_at dksL_law_9 7 rfl rfl)
theorem dL_law_225 : decode cL_law 225 = .ok (.iload_n 3, 1) := dk_29 (dk_at dksL_law_9 8 rfl rfl)
theorem dL_law_226 : decode cL_law 226 = .ok (.iconst 1, 1) := dk_4 (dk_at dksL_law_9 9 rfl rfl)
theorem dL_law_227 : decode cL_law 227 = .ok (.iadd, 1) := dk_96 (dk_at dksL_law_9 10 rfl rfl)
theorem dL_law_228 : decode cL_law 228 = .ok (.iaload, 1) := dk_46 (dk_at dksL_law_9 11 rfl rfl)
theorem dL_law_229 : decode cL_law 229 = .ok (.aload_n 0, 1) := dk_42 (dk_at dksL_law_9 12 rfl rfl)
theorem dL_law_230 : decode cL_law 230 = .ok (.iload_n 3, 1) := dk_29 (dk_at dksL_law_9 13 rfl rfl)
theorem dL_law_231 : decode cL_law 231 = .ok (.iconst 2, 1) := dk_5 (dk_at dksL_law_9 14 rfl rfl)
theorem dL_law_232 : decode cL_law 232 = .ok (.iadd, 1) := dk_96 (dk_at dksL_law_9 15 rfl rfl)
theorem dL_law_233 : decode cL_law 233 = .ok (.iaload, 1) := dk_46 (dk_at dksL_law_9 16 rfl rfl)
theorem dL_law_234 : decode cL_law 234 = .ok (.invokevirtual 35, 3) := dk_182 0 35 (dk_at dksL_law_9 17 rfl rfl)
theorem dL_law_237 : decode cL_law 237 = .ok (.aload_n 2, 1) := dk_44 (dk_at dksL_law_9 20 rfl rfl)
theorem dL_law_238 : decode cL_law 238 = .ok (.aload_n 0, 1) := dk_42 (dk_at dksL_law_9 21 rfl rfl)
theorem dL_law_239 : decode cL_law 239 = .ok (.iload_n 3, 1) := dk_29 (dk_at dksL_law_9 22 rfl rfl)
theorem dL_law_240 : decode cL_law 240 = .ok (.iconst 1, 1) := dk_4 (dk_at dksL_law_9 23 rfl rfl)
theorem dL_law_241 : decode cL_law 241 = .ok (.iadd, 1) := dk_96 (dk_at dksL_law_10 0 rfl rfl)
theorem dL_law_242 : decode cL_law 242 = .ok (.iaload, 1) := dk_46 (dk_at dksL_law_10 1 rfl rfl)
theorem dL_law_243 : decode cL_law 243 = .ok (.aload_n 0, 1) := dk_42 (dk_at dksL_law_10 2 rfl rfl)
theorem dL_law_244 : decode cL_law 244 = .ok (.iload_n 3, 1) := dk_29 (dk_at dksL_law_10 3 rfl rfl)
theorem dL_law_245 : decode cL_law 245 = .ok (.iconst 2, 1) := dk_5 (dk_at dksL_law_10 4 rfl rfl)
theorem dL_law_246 : decode cL_law 246 = .ok (.iadd, 1) := dk_96 (dk_at dksL_law_10 5 rfl rfl)
theorem dL_law_247 : decode cL_law 247 = .ok (.iaload, 1) := dk_46 (dk_at dksL_law_10 6 rfl rfl)
theorem dL_law_248 : decode cL_law 248 = .ok (.invokevirtual 38, 3) := dk_182 0 38 (dk_at dksL_law_10 7 rfl rfl)
theorem dL_law_251 : decode cL_law 251 = .ok (.goto 46, 3) := dk_167 0 46 (dk_at dksL_law_10 10 rfl rfl)
theorem dL_law_254 : decode cL_law 254 = .ok (.aload_n 1, 1) := dk_43 (dk_at dksL_law_10 13 rfl rfl)
theorem dL_law_255 : decode cL_law 255 = .ok (.aload_n 0, 1) := dk_42 (dk_at dksL_law_10 14 rfl rfl)
theorem dL_law_256 : decode cL_law 256 = .ok (.iload_n 3, 1) := dk_29 (dk_at dksL_law_10 15 rfl rfl)
theorem dL_law_257 : decode cL_law 257 = .ok (.iconst 1, 1) := dk_4 (dk_at dksL_law_10 16 rfl rfl)
theorem dL_law_258 : decode cL_law 258 = .ok (.iadd, 1) := dk_96 (dk_at dksL_law_10 17 rfl rfl)
theorem dL_law_259 : decode cL_law 259 = .ok (.iaload, 1) := dk_46 (dk_at dksL_law_10 18 rfl rfl)
theorem dL_law_260 : decode cL_law 260 = .ok (.aload_n 0, 1) := dk_42 (dk_at dksL_law_10 19 rfl rfl)
theorem dL_law_261 : decode cL_law 261 = .ok (.iload_n 3, 1) := dk_29 (dk_at dksL_law_10 20 rfl rfl)
theorem dL_law_262 : decode cL_law 262 = .ok (.iconst 2, 1) := dk_5 (dk_at dksL_law_10 21 rfl rfl)
theorem dL_law_263 : decode cL_law 263 = .ok (.iadd, 1) := dk_96 (dk_at dksL_law_10 22 rfl rfl)
theorem dL_law_264 : decode cL_law 264 = .ok (.iaload, 1) := dk_46 (dk_at dksL_law_10 23 rfl rfl)
theorem dL_law_265 : decode cL_law 265 = .ok (.aload_n 0, 1) := dk_42 (dk_at dksL_law_11 0 rfl rfl)
theorem dL_law_266 : decode cL_law 266 = .ok (.iload_n 3, 1) := dk_29 (dk_at dksL_law_11 1 rfl rfl)
theorem dL_law_267 : decode cL_law 267 = .ok (.iconst 3, 1) := dk_6 (dk_at dksL_law_11 2 rfl rfl)
theorem dL_law_268 : decode cL_law 268 = .ok (.iadd, 1) := dk_96 (dk_at dksL_law_11 3 rfl rfl)
theorem dL_law_269 : decode cL_law 269 = .ok (.iaload, 1) := dk_46 (dk_at dksL_law_11 4 rfl rfl)
theorem dL_law_270 : decode cL_law 270 = .ok (.invokevirtual 39, 3) := dk_182 0 39 (dk_at dksL_law_11 5 rfl rfl)
theorem dL_law_273 : decode cL_law 273 = .ok (.aload_n 2, 1) := dk_44 (dk_at dksL_law_11 8 rfl rfl)
theorem dL_law_274 : decode cL_law 274 = .ok (.aload_n 0, 1) := dk_42 (dk_at dksL_law_11 9 rfl rfl)
theorem dL_law_275 : decode cL_law 275 = .ok (.iload_n 3, 1) := dk_29 (dk_at dksL_law_11 10 rfl rfl)
theorem dL_law_276 : decode cL_law 276 = .ok (.iconst 1, 1) := dk_4 (dk_at dksL_law_11 11 rfl rfl)
theorem dL_law_277 : decode cL_law 277 = .ok (.iadd, 1) := dk_96 (dk_at dksL_law_11 12 rfl rfl)
theorem dL_law_278 : decode cL_law 278 = .ok (.iaload, 1) := dk_46 (dk_at dksL_law_11 13 rfl rfl)
theorem dL_law_279 : decode cL_law 279 = .ok (.aload_n 0, 1) := dk_42 (dk_at dksL_law_11 14 rfl rfl)
theorem dL_law_280 : decode cL_law 280 = .ok (.iload_n 3, 1) := dk_29 (dk_at dksL_law_11 15 rfl rfl)
theorem dL_law_281 : decode cL_law 281 = .ok (.iconst 2, 1) := dk_5 (dk_at dksL_law_11 16 rfl rfl)
theorem dL_law_282 : decode cL_law 282 = .ok (.iadd, 1) := dk_96 (dk_at dksL_law_11 17 rfl rfl)
theorem dL_law_283 : decode cL_law 283 = .ok (.iaload, 1) := dk_46 (dk_at dksL_law_11 18 rfl rfl)
theorem dL_law_284 : decode cL_law 284 = .ok (.aload_n 0, 1) := dk_42 (dk_at dksL_law_11 19 rfl rfl)
theorem dL_law_285 : decode cL_law 285 = .ok (.iload_n 3, 1) := dk_29 (dk_at dksL_law_11 20 rfl rfl)
theorem dL_law_286 : decode cL_law 286 = .ok (.iconst 3, 1) := dk_6 (dk_at dksL_law_11 21 rfl rfl)
theorem dL_law_287 : decode cL_law 287 = .ok (.iadd, 1) := dk_96 (dk_at dksL_law_11 22 rfl rfl)
theorem dL_law_288 : decode cL_law 288 = .ok (.iaload, 1) := dk_46 (dk_at dksL_law_11 23 rfl rfl)
theorem dL_law_289 : decode cL_law 289 = .ok (.invokevirtual 43, 3) := dk_182 0 43 (dk_at dksL_law_12 0 rfl rfl)
theorem dL_law_292 : decode cL_law 292 = .ok (.if_icmp .eq 5, 3) := dk_159 0 5 (dk_at dksL_law_12 3 rfl rfl)
theorem dL_law_295 : decode cL_law 295 = .ok (.iconst 0, 1) := dk_3 (dk_at dksL_law_12 6 rfl rfl)
theorem dL_law_296 : decode cL_law 296 = .ok (.ireturn, 1) := dk_172 (dk_at dksL_law_12 7 rfl rfl)
theorem dL_law_297 : decode cL_law 297 = .ok (.iinc 3 6, 3) := dk_132 3 6 (dk_at dksL_law_12 8 rfl rfl)
theorem dL_law_300 : decode cL_law 300 = .ok (.goto (-282), 3) := dk_167 254 230 (dk_at dksL_law_12 11 rfl rfl)
theorem dL_law_303 : decode cL_law 303 = .ok (.iconst 1, 1) := dk_4 (dk_at dksL_law_12 14 rfl rfl)
theorem dL_law_304 : decode cL_law 304 = .ok (.ireturn, 1) := dk_172 (dk_at dksL_law_12 15 rfl rfl)
end
section
/-! A KIT FOR THIS CLAIM: a method's start and end once for all, calls that cut the world and put it back in place, rows with numbered indices -/
theorem s_fm {α : Type} {ws w : List α} {is : List Nat} (h : is.map (fun i => ws[i]?) = w.map some) : is.filterMap (fun i => ws[i]?) = w := by
  have e : is.filterMap (fun i => ws[i]?) = (is.map (fun i => ws[i]?)).filterMap id := by
    rw [List.filterMap_map]; rfl
  rw [e, h, List.filterMap_map]
  exact List.filterMap_some
/-- the word that an array's clone asks: it rides at every contract's start -/
abbrev s_cw : Cond := Cond.castable "[S" "java/lang/Cloneable"
def s_Pc (G : va_G) (cl : List vw_C) (as : List Value) (w : va_W) (ty : List (ClassId × FieldType)) (sz : Nat) : Array Value → State → Prop :=
  va_Pc as (fun U => U.heap.size = sz ∧ va_P G cl w U.heap ∧ va_K G cl ty U ∧ va_D (fun _ => True) w ∧ va_Nw s_cw U)
theorem s_blind {G : va_G} {cl : List vw_C} {as : List Value} {w : va_W} {ty : List (ClassId × FieldType)} {sz : Nat} : FrameBlind (s_Pc G cl as w ty sz) := fun a U g mk q => by
  obtain ⟨q0, q1, qP, qK, qD, qN⟩ := q
  exact ⟨q0, q1, qP, va_K.moved (u := U) (U := U.calling g mk a) (Vm.Alike.refl U.vm) qK, qD, va_Nw.same rfl rfl qN⟩
def s_B {S : Type} (G : va_G) (cl : List vw_C) (ty : List (ClassId × FieldType)) (w' : S → va_W) (A : Nat → Prop) (u : S) (t : State) : Prop := va_P G cl (w' u) t.heap ∧ va_K G cl ty t ∧ va_D A (w' u)
/-- the contract of a void method: world w to world w' u with post u -/
abbrev s_Mv {S : Type} (l : Launch) (y : MethodName) (bytes : ByteArray) (maxL : Nat) (rm : Room) (G : va_G) (cl : List vw_C) (as : List Value) (w : va_W) (ty : List (ClassId × FieldType)) (post : S → Prop) (w' : S → va_W) (mc ms : Nat) : Prop :=
  ∀ sz : Nat, Met l y (ws_ y bytes maxL none) rm (s_Pc G cl as w ty sz) (va_Qv post (s_B G cl ty w' (va_A w sz)) (va_A w sz)) mc ms (va_A w sz)
theorem s_ofv {S : Type} {l : Launch} {y : MethodName} {cc : ByteArray} {maxL : Nat} {rm : Room} {G : va_G} {cl : List vw_C} {as : List Value} {w : va_W} {ty : List (ClassId × FieldType)} {post : S → Prop} {w' : S → va_W} {mc ms : Nat}
    (hy : plainName y.cls = true) (hsl : (lg_sl as).length ≤ maxL)
    (body : ∀ (p : Program) (e : Env) (s : State) (m : MethodId) (args : Array Value) (below : List Frame) (meth : Method) (c : Code) (Q : State → Prop) (A : Nat → Prop) (ls : Array Slot), p.tables.exec = Jvm.exec → c.code = cc → c.maxLocals = maxL → s.vm.findClass y.cls = some m.cls → (∀ w ∈ lw_all, w.before args s = true) → meth.name = y.name → va_Nw s_cw s → (∀ q : Nat, s.heap.size ≤ q → A q) → va_K G cl ty s → va_P G cl w s.heap → va_D A w → va_S A s.heap s.heap [] → lv_has ls maxL (lv_args 0 as) →
      (∀ (u : S) (H : Heap) (locs : List Loc) (pc : Nat) (ls1 : Array Slot), post u → va_P G cl (w' u) H → va_D A (w' u) → va_S A s.heap H locs → decode cc pc = .ok (.return_, 1) → W p l e rm s m args below meth c H locs mc ms Q (F0 m pc ls1 [])) →
      W p l e rm s m args below meth c s.heap [] 0 0 Q (F0 m 0 ls [])) : s_Mv l y cc maxL rm G cl as w ty post w' mc ms := by
  intro sz
  refine Met.ofW (cc := cc) (maxL := maxL) (ret := none) hy rfl ?_
  intro p e s m args below meth c s₁ B hml hv
  obtain ⟨rfl, hsz, hP, hK, hD0, hN⟩ := hv
  have hr := B.returns
  have hlocks := B.notSynchronized
  have hts := atoms_spec (ws := ws_ y cc maxL none) B.pre
  have hts : ∀ w ∈ lw_all, w.before _ s = true := fun w h => hts w (List.mem_cons_of_mem _ h)
  have hown : s.vm.findClass y.cls = some m.cls := findClass_of_methodNamed B.named
  subst hsz
  have hl := lv_entry as (n := maxL) hsl
  rw [lg_entry_eq]
  refine body p e s m _ below meth c _ (va_A w s.heap.size) _ B.exec B.bytes hml hown hts (name_of_methodNamed B.named B.method).1 hN (fun q h => Or.inr h) hK hP (hD0.self) va_S.rf hl ?_
  intro u H locs pc ls1 hpost hP1 hD1 hS hdg
  exact W.vret B.exec B.bytes hr (fun t ht hW => ⟨⟨u, rfl, hpost, by rw [ht]; exact hP1, va_K.moved hW.alike hK, hD1⟩, hS.F ht⟩) hS.2.2 hdg
/-- the contract of a method that reads only and answers an int -/
abbrev s_Mi (l : Launch) (y : MethodName) (bytes : ByteArray) (maxL : Nat) (rm : Room) (G : va_G) (cl : List vw_C) (as : List Value) (w : va_W) (ty : List (ClassId × FieldType)) (post : Int32 → Prop) : Prop :=
  Met l y (ws_ y bytes maxL (some .int)) rm (va_Pc as (fun U => va_P G cl w U.heap ∧ va_K G cl ty U)) (vp_Si post) 0 0 (fun _ => False)
theorem s_blindi {G : va_G} {cl : List vw_C} {as : List Value} {w : va_W} {ty : List (ClassId × FieldType)} : FrameBlind (va_Pc as (fun U => va_P G cl w U.heap ∧ va_K G cl ty U)) := fun a U g mk q => by
  obtain ⟨q0, qP, qK⟩ := q
  exact ⟨q0, qP, va_K.moved (u := U) (U := U.calling g mk a) (Vm.Alike.refl U.vm) qK⟩
theorem s_ofi {l : Launch} {y : MethodName} {cc : ByteArray} {maxL : Nat} {rm : Room} {G : va_G} {cl : List vw_C} {as : List Value} {w : va_W} {ty : List (ClassId × FieldType)} {post : Int32 → Prop}
    (hy : plainName y.cls = true) (hsl : (lg_sl as).length ≤ maxL)
    (body : ∀ (p : Program) (e : Env) (s : State) (m : MethodId) (args : Array Value) (below : List Frame) (meth : Method) (c : Code) (Q : State → Prop) (ls : Array Slot), p.tables.exec = Jvm.exec → c.code = cc → c.maxLocals = maxL → s.vm.findClass y.cls = some m.cls → (∀ w ∈ lw_all, w.before args s = true) → va_K G cl ty s → va_P G cl w s.heap → lv_has ls maxL (lv_args 0 as) →
      (∀ (v : Int32) (pc : Nat) (ls1 : Array Slot), post v → decode cc pc = .ok (.ireturn, 1) → W p l e rm s m args below meth c s.heap [] 0 0 Q (F0 m pc ls1 [.int v])) →
      W p l e rm s m args below meth c s.heap [] 0 0 Q (F0 m 0 ls [])) : s_Mi l y cc maxL rm G cl as w ty post := by
  refine Met.ofW (cc := cc) (maxL := maxL) (ret := some .int) hy rfl ?_
  intro p e s m args below meth c s₁ B hml hv
  obtain ⟨rfl, hP, hK⟩ := hv
  have hr := B.returns
  have hlocks := B.notSynchronized
  have hts := atoms_spec (ws := ws_ y cc maxL (some .int)) B.pre
  have hts : ∀ w ∈ lw_all, w.before _ s = true := fun w h => hts w (List.mem_cons_of_mem _ h)
  have hown : s.vm.findClass y.cls = some m.cls := findClass_of_methodNamed B.named
  have hl := lv_entry as (n := maxL) hsl
  rw [lg_entry_eq]
  refine body p e s m _ below meth c _ _ B.exec B.bytes hml hown hts hK hP hl ?_
  intro v pc ls1 hpost hdg
  exact W.iret B.exec B.bytes hr (fun t ht hW => ⟨v, rfl, hpost, ht⟩) (fun q h => by cases h) hdg
/-- the contract of a method that answers a cell: its world may have grown -/
abbrev s_Mr {S : Type} (l : Launch) (y : MethodName) (bytes : ByteArray) (maxL : Nat) (rt : FieldType) (rm : Room) (G : va_G) (cl : List vw_C) (as : List Value) (w : va_W) (ty : List (ClassId × FieldType)) (post : S → Prop) (w' : S → Nat → va_W) (ty' : S → List (ClassId × FieldType)) (mc ms : Nat) : Prop :=
  ∀ sz : Nat, Met l y (ws_ y bytes maxL (some (.array rt))) rm (s_Pc G cl as w ty sz) (va_Qr post (fun u a t => va_P G cl (w' u a) t.heap ∧ va_K G cl (ty' u) t ∧ va_D (va_A w sz) (w' u a)) (va_A w sz)) mc ms (va_A w sz)
theorem s_ofr {S : Type} {l : Launch} {y : MethodName} {cc : ByteArray} {maxL : Nat} {rt : FieldType} {rm : Room} {G : va_G} {cl : List vw_C} {as : List Value} {w : va_W} {ty : List (ClassId × FieldType)} {post : S → Prop} {w' : S → Nat → va_W} {ty' : S → List (ClassId × FieldType)} {mc ms : Nat}
    (hy : plainName y.cls = true) (hsl : (lg_sl as).length ≤ maxL)
    (body : ∀ (p : Program) (e : Env) (s : State) (m : MethodId) (args : Array Value) (below : List Frame) (meth : Method) (c : Code) (Q : State → Prop) (A : Nat → Prop) (ls : Array Slot), p.tables.exec = Jvm.exec → c.code = cc → c.maxLocals = maxL → s.vm.findClass y.cls = some m.cls → (∀ w ∈ lw_all, w.before args s = true) → va_Nw s_cw s → (∀ q : Nat, s.heap.size ≤ q → A q) → va_K G cl ty s → va_P G cl w s.heap → va_D A w → va_S A s.heap s.heap [] → lv_has ls maxL (lv_args 0 as) →
      (∀ (u : S) (a : Nat) (H : Heap) (locs : List Loc) (pc : Nat) (ls1 : Array Slot), post u → va_P G cl (w' u a) H → va_K G cl (ty' u) s → va_D A (w' u a) → va_S A s.heap H locs → decode cc pc = .ok (.areturn, 1) → W p l e rm s m args below meth c H locs mc ms Q (F0 m pc ls1 [.ref a])) →
      W p l e rm s m args below meth c s.heap [] 0 0 Q (F0 m 0 ls [])) : s_Mr l y cc maxL rt rm G cl as w ty post w' ty' mc ms := by
  intro sz
  refine Met.ofW (cc := cc) (maxL := maxL) (ret := some (.array rt)) hy rfl ?_
  intro p e s m args below meth c s₁ B hml hv
  obtain ⟨rfl, hsz, hP, hK, hD0, hN⟩ := hv
  have hr := B.returns
  have hlocks := B.notSynchronized
  have hts := atoms_spec (ws := ws_ y cc maxL (some (.array rt))) B.pre
  have hts : ∀ w ∈ lw_all, w.before _ s = true := fun w h => hts w (List.mem_cons_of_mem _ h)
  have hown : s.vm.findClass y.cls = some m.cls := findClass_of_methodNamed B.named
  subst hsz
  have hl := lv_entry as (n := maxL) hsl
  rw [lg_entry_eq]
  refine body p e s m _ below meth c _ (va_A w s.heap.size) _ B.exec B.bytes hml hown hts hN (fun q h => Or.inr h) hK hP (hD0.self) va_S.rf hl ?_
  intro u a H locs pc ls1 hpost hP1 hK1 hD1 hS hdg
  exact W.aret (v := .ref a) B.exec B.bytes hr (Or.inr ⟨_, rfl⟩) (Or.inr ⟨a, rfl⟩) (fun t ht hW => ⟨⟨u, a, rfl, hpost, by rw [ht]; exact hP1, va_K.moved hW.alike hK1, hD1⟩, hS.F ht⟩) hS.2.2 hdg
section SK
variable {p : Program} {l : Launch} {e : Env} {R : Room} {s : State} {m : MethodId} {args : Array Value} {below : List Frame} {meth : Method} {c : Code} {H : Heap} {locs : List Loc} {cells slots : Nat} {Q : State → Prop}
variable {cc : ByteArray} {pc : Nat} {ls : Array Slot} {rest : List Value} {G : va_G} {cl : List vw_C} {A : Nat → Prop} {tys : List (ClassId × FieldType)} {ws : va_W}
variable {y : MethodName} {bytes : ByteArray} {maxL nL index mc ms : Nat} {rm : Room} {as : List Value} {wc : va_W} {tyc : List (ClassId × FieldType)} {own : String}
abbrev s_nm (y : MethodName) (n : Nat) : Prop := y.cls ≠ "java/lang/invoke/MethodHandle" ∧ y.cls ≠ "java/lang/invoke/VarHandle" ∧ (parseMethodDescriptor y.desc).map (fun d => d.parameters.length) = some n
/-- rooms by the depth of calls -/
abbrev s_rk (k mc ms : Nat) : Room := { frames := k, cells := mc, slots := ms, locals := 40 * k }
abbrev s_rm (rm R : Room) (maxL mc ms cells slots : Nat) : Prop := rm.cells = mc ∧ rm.slots = ms ∧ (rm.frames + 1 ≤ R.frames ∧ 8 + (maxL + 11) + rm.locals ≤ R.locals) ∧ (cells + mc ≤ R.cells ∧ slots + ms ≤ R.slots)
theorem s_rmk {k K mc ms MC MS maxL cells slots : Nat} (h1 : k + 1 ≤ K) (h2 : maxL ≤ 21) (h3 : cells + mc ≤ MC) (h4 : slots + ms ≤ MS) : s_rm (s_rk k mc ms) (s_rk K MC MS) maxL mc ms cells slots :=
  ⟨rfl, rfl, ⟨h1, by show 8 + (maxL + 11) + 40 * k ≤ 40 * K; omega⟩, ⟨h3, h4⟩⟩
/-- a static void call -/
theorem s_cSv {S : Type} {post : S → Prop} {w' : S → va_W} (hx : p.tables.exec = Jvm.exec) (hb : c.code = cc) (hml : c.maxLocals = nL) (hsz : ls.size = nL) (hown : s.vm.findClass own = some m.cls) (hts : ∀ w ∈ lw_all, w.before args s = true) (hN : va_Nw s_cw s) (hA : ∀ q : Nat, s.heap.size ≤ q → A q) (hK : va_K G cl tys s) (hP : va_P G cl ws H) (hD : va_D A ws) (hS : va_S A s.heap H locs)
    (hM : s_Mv l y bytes maxL rm G cl as wc tyc post w' mc ms) (hG : GoodIn lw_all (va_wsS own index y (ws_ y bytes maxL none))) (n : Nat) (hd : s_nm y n) (hlen : as.length = n) (hr : s_rm rm R maxL mc ms cells slots) (hcat : (rest.map fun v => v.category).sum ≤ 8)
    (isC isR isT perm : List Nat) {wr : va_W} {ws' : S → va_W} (hC : isC.map (fun i => ws[i]?) = wc.map some) (hR : isR.map (fun i => ws[i]?) = wr.map some) (hT : isT.filterMap (fun i => tys[i]?) = tyc) (hp : ∀ u, perm.map (fun i => (wr ++ w' u)[i]?) = (ws' u).map some) (hdis : (va_nd isC && va_nd isR && va_nd perm && isR.all (fun i => !isC.contains i)) = true)
    (hdg : decode cc pc = .ok (.invokestatic index, 3)) {st : List Value} (hst : st = as.reverse ++ rest)
    (kk : ∀ (u : S) (H1 : Heap) (locs1 : List Loc), post u → va_P G cl (ws' u) H1 → va_D A (ws' u) → va_S A s.heap H1 locs1 → W p l e R s m args below meth c H1 locs1 (cells + mc) (slots + ms) Q (F0 m (pc + 3) ls rest)) : W p l e R s m args below meth c H locs cells slots Q (F0 m pc ls st) := by
  simp only [Bool.and_eq_true, List.all_eq_true, Bool.not_eq_true', List.contains_eq_mem, decide_eq_false_iff_not] at hdis
  obtain ⟨⟨⟨hnC, hnR⟩, hnp⟩, hdd⟩ := hdis
  have hPc := hP.sub (ws' := wc) isC (s_fm hC)
  have hDc := hD.sub (ws' := wc) isC hnC hC
  have hKc := hK.sub (tys' := tyc) isT hT
  have hFc := va_free (wc := wc) hD hS hA isC hC
  refine va_callv (va_runS (As := as) (rest := rest) (nL := nL) ⟨hx, hb, hml, hown, hts⟩ (hM H.size) (va_cwS n hts hG rfl hr.1 hr.2.1 hd hr.2.2.1) ⟨s_blind, fun U hU hW => ⟨rfl, by rw [hU], by rw [hU]; exact hPc, va_K.moved hW.alike hKc, hDc.weaken (fun _ _ _ _ => trivial), va_Nw.warmC hW hN⟩⟩ rfl hlen hsz hst (lv_room hcat) hdg hr.2.2.2) hS (fun q _ h => hFc q h) hFc (fun u t H1 locs1 ht hvm hpost hB hz1 hk1 hS1 => ?_)
  obtain ⟨hP1, hK1, hD1⟩ := hB
  rw [ht] at hP1
  obtain ⟨hP2, hD2⟩ := va_join (wr := wr) (w1 := w' u) hP hD isC isR hC hR hnR hdd hk1 hFc hP1 hD1
  exact kk u H1 locs1 hpost (hP2.sub perm (s_fm (hp u))) (hD2.sub perm hnp (hp u)) hS1
/-- a static call that answers a cell -/
theorem s_cSr {S : Type} {rt : FieldType} {post : S → Prop} {w' : S → Nat → va_W} {ty' : S → List (ClassId × FieldType)} (hx : p.tables.exec = Jvm.exec) (hb : c.code = cc) (hml : c.maxLocals = nL) (hsz : ls.size = nL) (hown : s.vm.findClass own = some m.cls) (hts : ∀ w ∈ lw_all, w.before args s = true) (hN : va_Nw s_cw s) (hA : ∀ q : Nat, s.heap.size ≤ q → A q) (hK : va_K G cl tys s) (hP : va_P G cl ws H) (hD : va_D A ws) (hS : va_S A s.heap H locs)
    (hM : s_Mr l y bytes maxL rt rm G cl as wc tyc post w' ty' mc ms) (hG : GoodIn lw_all (va_wsS own index y (ws_ y bytes maxL (some (.array rt))))) (n : Nat) (hd : s_nm y n) (hlen : as.length = n) (hr : s_rm rm R maxL mc ms cells slots) (hcat : (rest.map fun v => v.category).sum ≤ 8)
    (isC isR isT perm : List Nat) {wr : va_W} {ws' : S → Nat → va_W} (hC : isC.map (fun i => ws[i]?) = wc.map some) (hR : isR.map (fun i => ws[i]?) = wr.map some) (hT : isT.filterMap (fun i => tys[i]?) = tyc) (hp : ∀ u a, perm.map (fun i => (wr ++ w' u a)[i]?) = (ws' u a).map some) (hdis : (va_nd isC && va_nd isR && va_nd perm && isR.all (fun i => !isC.contains i)) = true)
    (hdg : decode cc pc = .ok (.invokestatic index, 3)) {st : List Value} (hst : st = as.reverse ++ rest)
    (kk : ∀ (u : S) (a : Nat) (H1 : Heap) (locs1 : List Loc), post u → va_P G cl (ws' u a) H1 → va_K G cl (ty' u) s → va_D A (ws' u a) → va_S A s.heap H1 locs1 → W p l e R s m args below meth c H1 locs1 (cells + mc) (slots + ms) Q (F0 m (pc + 3) ls (.ref a :: rest))) : W p l e R s m args below meth c H locs cells slots Q (F0 m pc ls st) := by
  simp only [Bool.and_eq_true, List.all_eq_true, Bool.not_eq_true', List.contains_eq_mem, decide_eq_false_iff_not] at hdis
  obtain ⟨⟨⟨hnC, hnR⟩, hnp⟩, hdd⟩ := hdis
  have hPc := hP.sub (ws' := wc) isC (s_fm hC)
  have hDc := hD.sub (ws' := wc) isC hnC hC
  have hKc := hK.sub (tys' := tyc) isT hT
  have hFc := va_free (wc := wc) hD hS hA isC hC
  refine va_callr (va_runS (As := as) (rest := rest) (nL := nL) ⟨hx, hb, hml, hown, hts⟩ (hM H.size) (va_cwS n hts hG rfl hr.1 hr.2.1 hd hr.2.2.1) ⟨s_blind, fun U hU hW => ⟨rfl, by rw [hU], by rw [hU]; exact hPc, va_K.moved hW.alike hKc, hDc.weaken (fun _ _ _ _ => trivial), va_Nw.warmC hW hN⟩⟩ rfl hlen hsz hst (lv_room hcat) hdg hr.2.2.2) hS (fun q _ h => hFc q h) hFc (fun u a t H1 locs1 ht hvm hpost hB hz1 hk1 hS1 => ?_)
  obtain ⟨hP1, hK1, hD1⟩ := hB
  rw [ht] at hP1
  have hK1 := va_K.moved hvm.symm hK1
  obtain ⟨hP2, hD2⟩ := va_join (wr := wr) (w1 := w' u a) hP hD isC isR hC hR hnR hdd hk1 hFc hP1 hD1
  exact kk u a H1 locs1 hpost (hP2.sub perm (s_fm (hp u a))) hK1 (hD2.sub perm hnp (hp u a)) hS1
/-- a static call that reads and answers an int -/
theorem s_cSi {post : Int32 → Prop} (hx : p.tables.exec = Jvm.exec) (hb : c.code = cc) (hml : c.maxLocals = nL) (hsz : ls.size = nL) (hown : s.vm.findClass own = some m.cls) (hts : ∀ w ∈ lw_all, w.before args s = true) (hK : va_K G cl tys s) (hP : va_P G cl ws H)
    (hM : s_Mi l y bytes maxL rm G cl as wc tyc post) (hG : GoodIn lw_all (va_wsS own index y (ws_ y bytes maxL (some .int)))) (n : Nat) (hd : s_nm y n) (hlen : as.length = n) (hr : s_rm rm R maxL 0 0 cells slots) (hcat : (rest.map fun v => v.category).sum ≤ 8)
    (isC isT : List Nat) (hC : isC.filterMap (fun i => ws[i]?) = wc) (hT : isT.filterMap (fun i => tys[i]?) = tyc)
    (hdg : decode cc pc = .ok (.invokestatic index, 3)) {st : List Value} (hst : st = as.reverse ++ rest)
    (kk : ∀ r : Int32, post r → W p l e R s m args below meth c H locs cells slots Q (F0 m (pc + 3) ls (.int r :: rest))) : W p l e R s m args below meth c H locs cells slots Q (F0 m pc ls st) := by
  have hPc := hP.sub (ws' := wc) isC hC
  have hKc := hK.sub (tys' := tyc) isT hT
  exact vp_callSi (va_Run.run (va_runS (As := as) (rest := rest) (nL := nL) ⟨hx, hb, hml, hown, hts⟩ hM (va_cwS n hts hG rfl hr.1 hr.2.1 hd hr.2.2.1) ⟨s_blindi, fun U hU hW => ⟨rfl, by rw [hU]; exact hPc, va_K.moved hW.alike hKc⟩⟩ rfl hlen hsz hst (lv_room hcat) hdg hr.2.2.2)) kk
/-- a call through an object (its class ci of cl, at the place q0 of the callee's world) that reads and answers an int -/
theorem s_cVi {post : Int32 → Prop} {C : String} {b : Addr} (hx : p.tables.exec = Jvm.exec) (hb : c.code = cc) (hml : c.maxLocals = nL) (hsz : ls.size = nL) (hown : s.vm.findClass own = some m.cls) (hts : ∀ w ∈ lw_all, w.before args s = true) (hK : va_K G cl tys s) (hP : va_P G cl ws H)
    (hM : s_Mi l y bytes maxL rm G cl (.ref b :: as) wc tyc post) (hG : GoodIn lw_all (wsV own index C y (ws_ y bytes maxL (some .int)))) (hcls : y.cls = C) (n : Nat) (hd : s_nm y n) (hlen : as.length = n) (hr : s_rm rm R maxL 0 0 cells slots) (hcat : (rest.map fun v => v.category).sum ≤ 8)
    (isC isT : List Nat) (hC : isC.filterMap (fun i => ws[i]?) = wc) (hT : isT.filterMap (fun i => tys[i]?) = tyc) (ci q0 : Nat) {T : u_T} {N : Nat} {fs : List Value} (hci : cl[ci]? = some (C, T, N)) (hq0 : ws[q0]? = some (b, .inr (ci, fs)))
    (hdg : decode cc pc = .ok (.invokevirtual index, 3)) {st : List Value} (hst : st = as.reverse ++ .ref b :: rest)
    (kk : ∀ r : Int32, post r → W p l e R s m args below meth c H locs cells slots Q (F0 m (pc + 3) ls (.int r :: rest))) : W p l e R s m args below meth c H locs cells slots Q (F0 m pc ls st) := by
  have hPc := hP.sub (ws' := wc) isC hC
  have hKc := hK.sub (tys' := tyc) isT hT
  exact vp_callSi (va_Run.run (va_runV (C := C) (b := b) (As := as) (rest := rest) (nL := nL) ⟨hx, hb, hml, hown, hts⟩ hM (cwV n hts hG rfl hr.1 hr.2.1 ⟨hcls, hd⟩ hr.2.2.1) ⟨s_blindi, va_recv hK hP hci hq0, fun U hU hW => ⟨rfl, by rw [hU]; exact hPc, va_K.moved hW.alike hKc⟩⟩ rfl hlen hsz hst (lv_room hcat) hdg hr.2.2.2)) kk
/-- a void call through an object -/
theorem s_cVv {S : Type} {post : S → Prop} {w' : S → va_W} {C : String} {b : Addr} (hx : p.tables.exec = Jvm.exec) (hb : c.code = cc) (hml : c.maxLocals = nL) (hsz : ls.size = nL) (hown : s.vm.findClass own = some m.cls) (hts : ∀ w ∈ lw_all, w.before args s = true) (hN : va_Nw s_cw s) (hA : ∀ q : Nat, s.heap.size ≤ q → A q) (hK : va_K G cl tys s) (hP : va_P G cl ws H) (hD : va_D A ws) (hS : va_S A s.heap H locs)
    (hM : s_Mv l y bytes maxL rm G cl (.ref b :: as) wc tyc post w' mc ms) (hG : GoodIn lw_all (wsV own index C y (ws_ y bytes maxL none))) (hcls : y.cls = C) (n : Nat) (hd : s_nm y n) (hlen : as.length = n) (hr : s_rm rm R maxL mc ms cells slots) (hcat : (rest.map fun v => v.category).sum ≤ 8)
    (isC isR isT perm : List Nat) {wr : va_W} {ws' : S → va_W} (hC : isC.map (fun i => ws[i]?) = wc.map some) (hR : isR.map (fun i => ws[i]?) = wr.map some) (hT : isT.filterMap (fun i => tys[i]?) = tyc) (hp : ∀ u, perm.map (fun i => (wr ++ w' u)[i]?) = (ws' u).map some) (hdis : (va_nd isC && va_nd isR && va_nd perm && isR.all (fun i => !isC.contains i)) = true) (ci q0 : Nat) {T : u_T} {N : Nat} {fs : List Value} (hci : cl[ci]? = some (C, T, N)) (hq0 : ws[q0]? = some (b, .inr (ci, fs)))
    (hdg : decode cc pc = .ok (.invokevirtual index, 3)) {st : List Value} (hst : st = as.reverse ++ .ref b :: rest)
    (kk : ∀ (u : S) (H1 : Heap) (locs1 : List Loc), post u → va_P G cl (ws' u) H1 → va_D A (ws' u) → va_S A s.heap H1 locs1 → W p l e R s m args below meth c H1 locs1 (cells + mc) (slots + ms) Q (F0 m (pc + 3) ls rest)) : W p l e R s m args below meth c H locs cells slots Q (F0 m pc ls st) := by
  simp only [Bool.and_eq_true, List.all_eq_true, Bool.not_eq_true', List.contains_eq_mem, decide_eq_false_iff_not] at hdis
  obtain ⟨⟨⟨hnC, hnR⟩, hnp⟩, hdd⟩ := hdis
  have hPc := hP.sub (ws' := wc) isC (s_fm hC)
  have hDc := hD.sub (ws' := wc) isC hnC hC
  have hKc := hK.sub (tys' := tyc) isT hT
  have hFc := va_free (wc := wc) hD hS hA isC hC
  refine va_callv (va_runV (C := C) (b := b) (As := as) (rest := rest) (nL := nL) ⟨hx, hb, hml, hown, hts⟩ (hM H.size) (cwV n hts hG rfl hr.1 hr.2.1 ⟨hcls, hd⟩ hr.2.2.1) ⟨s_blind, va_recv hK hP hci hq0, fun U hU hW => ⟨rfl, by rw [hU], by rw [hU]; exact hPc, va_K.moved hW.alike hKc, hDc.weaken (fun _ _ _ _ => trivial), va_Nw.warmC hW hN⟩⟩ rfl hlen hsz hst (lv_room hcat) hdg hr.2.2.2) hS (fun q _ h => hFc q h) hFc (fun u t H1 locs1 ht hvm hpost hB hz1 hk1 hS1 => ?_)
  obtain ⟨hP1, hK1, hD1⟩ := hB
  rw [ht] at hP1
  obtain ⟨hP2, hD2⟩ := va_join (wr := wr) (w1 := w' u) hP hD isC isR hC hR hnR hdd hk1 hFc hP1 hD1
  exact kk u H1 locs1 hpost (hP2.sub perm (s_fm (hp u))) (hD2.sub perm hnp (hp u)) hS1
end SK
end
section
/-! ROWS WITH NUMBERED INDICES: places are nI i, contents are any Int32; branches speak of numbers (s_n..) or of toInt (s_v..) -/
theorem s_inc {a b : Nat} {k : Int} (h : (a : Int) + k = (b : Int)) : nI a + Int32.ofInt k = nI b := by
  have e : ∀ n : Nat, nI n = Int32.ofInt (n : Int) := fun n => by
    rw [nI, Int32.ofInt_eq_ofNat]
  rw [e, e, ← h, Int32.ofInt_add]
/-- c, counted down, may be -1: it is written nI C + (-1) -/
theorem s_mi_toInt {n : Nat} (h : n < 2 ^ 31) : (nI n + (-1)).toInt = (n : Int) - 1 := by
  rcases n with _ | n
  · decide
  · rw [pk_m1, nI_toInt (by omega)]; omega
theorem s_mi {n : Nat} (h : 1 ≤ n) : nI n + (-1) = nI (n - 1) := by
  obtain ⟨k, rfl⟩ : ∃ k, n = k + 1 := ⟨n - 1, by omega⟩
  rw [pk_m1]; rfl
theorem s_m1 (n : Nat) : nI n - nI 1 = nI n + (-1) := by
  rw [Int32.sub_eq_add_neg]; rfl
theorem s_dec {n : Nat} (h : 1 ≤ n) : nI n + Int32.ofInt (-1) = nI (n - 1) := s_mi h
section SR
variable {p : Program} {l : Launch} {e : Env} {R : Room} {s : State} {m : MethodId} {args : Array Value} {below : List Frame} {meth : Method} {c : Code} {H : Heap} {locs : List Loc} {cells slots : Nat} {Q : State → Prop}
variable {cc : ByteArray} {pc : Nat} {ls : Array Slot} {rest : List Value} {G : va_G} {cl : List vw_C} {A : Nat → Prop} {tys : List (ClassId × FieldType)} {ws : va_W}
theorem s_top {x y : Int32} (h : x = y) (k : W p l e R s m args below meth c H locs cells slots Q (F0 m pc ls (.int y :: rest))) : W p l e R s m args below meth c H locs cells slots Q (F0 m pc ls (.int x :: rest)) := by
  rw [h]; exact k
theorem s_ton {a b : Nat} (h : a = b) (k : W p l e R s m args below meth c H locs cells slots Q (F0 m pc ls (.int (nI b) :: rest))) : W p l e R s m args below meth c H locs cells slots Q (F0 m pc ls (.int (nI a) :: rest)) := by
  rw [h]; exact k
theorem s_iadd (hx : p.tables.exec = Jvm.exec) (hb : c.code = cc) {x y z : Int32} (hdg : decode cc pc = .ok (.iadd, 1)) (hz : x + y = z)
    (k : W p l e R s m args below meth c H locs cells slots Q (F0 m (pc + 1) ls (.int z :: rest))) : W p l e R s m args below meth c H locs cells slots Q (F0 m pc ls (.int y :: .int x :: rest)) := by
  refine lv_iadd hx hb hdg ?_
  rw [hz]; exact k
theorem s_isub (hx : p.tables.exec = Jvm.exec) (hb : c.code = cc) {x y z : Int32} (hdg : decode cc pc = .ok (.isub, 1)) (hz : x - y = z)
    (k : W p l e R s m args below meth c H locs cells slots Q (F0 m (pc + 1) ls (.int z :: rest))) : W p l e R s m args below meth c H locs cells slots Q (F0 m pc ls (.int y :: .int x :: rest)) := by
  refine lv_isub hx hb hdg ?_
  rw [hz]; exact k
/-- a + b of numbers -/
theorem s_addn (hx : p.tables.exec = Jvm.exec) (hb : c.code = cc) {a b z : Nat} (hdg : decode cc pc = .ok (.iadd, 1)) (hz : a + b = z)
    (k : W p l e R s m args below meth c H locs cells slots Q (F0 m (pc + 1) ls (.int (nI z) :: rest))) : W p l e R s m args below meth c H locs cells slots Q (F0 m pc ls (.int (nI b) :: .int (nI a) :: rest)) :=
  s_iadd hx hb hdg (by rw [nI_add, hz]) k
/-- a - b of numbers -/
theorem s_subn (hx : p.tables.exec = Jvm.exec) (hb : c.code = cc) {a b z : Nat} (hdg : decode cc pc = .ok (.isub, 1)) (hz : b + z = a)
    (k : W p l e R s m args below meth c H locs cells slots Q (F0 m (pc + 1) ls (.int (nI z) :: rest))) : W p l e R s m args below meth c H locs cells slots Q (F0 m pc ls (.int (nI b) :: .int (nI a) :: rest)) :=
  s_isub hx hb hdg (by rw [pk_sub (by omega)]; congr 1; omega) k
/-- half of the sum, by a shift -/
theorem s_shr1 (hx : p.tables.exec = Jvm.exec) (hb : c.code = cc) {a z : Nat} (hdg : decode cc pc = .ok (.iushr, 1)) (ha : a < 2 ^ 31) (hz : a / 2 = z)
    (k : W p l e R s m args below meth c H locs cells slots Q (F0 m (pc + 1) ls (.int (nI z) :: rest))) : W p l e R s m args below meth c H locs cells slots Q (F0 m pc ls (.int (nI 1) :: .int (nI a) :: rest)) :=
  lv_iushr (v := nI z) hx hb hdg (by rw [pk_ushrN (n := a) (by omega) (nI 1) 1 (by decide), ← hz]) k
/-- half, by division -/
theorem s_div2 (hx : p.tables.exec = Jvm.exec) (hb : c.code = cc) {a z : Nat} (hdg : decode cc pc = .ok (.idiv, 1)) (ha : a < 2 ^ 31) (hz : a / 2 = z)
    (k : W p l e R s m args below meth c H locs cells slots Q (F0 m (pc + 1) ls (.int (nI z) :: rest))) : W p l e R s m args below meth c H locs cells slots Q (F0 m pc ls (.int (nI 2) :: .int (nI a) :: rest)) := by
  refine lv_idiv hx hb hdg (by decide) ?_
  rw [pk_div ha (by decide) (by decide), hz]; exact k
/-- the remainder of numbers -/
theorem s_remn (hx : p.tables.exec = Jvm.exec) (hb : c.code = cc) {a d z : Nat} (hdg : decode cc pc = .ok (.irem, 1)) (ha : a < 2 ^ 31) (h0 : 0 < d) (hd : d < 2 ^ 31) (hz : a % d = z)
    (k : W p l e R s m args below meth c H locs cells slots Q (F0 m (pc + 1) ls (.int (nI z) :: rest))) : W p l e R s m args below meth c H locs cells slots Q (F0 m pc ls (.int (nI d) :: .int (nI a) :: rest)) := by
  refine lv_irem hx hb hdg (nI_ne0 h0 hd) ?_
  rw [pk_rem ha h0 hd, hz]; exact k
/-- a script's int without its sign -/
def s_ab (x : Int32) : Nat := x.toBitVec.toNat % 2 ^ 31
theorem s_ab_lt (x : Int32) : s_ab x < 2 ^ 31 := Nat.mod_lt _ (by decide)
theorem s_andm (hx : p.tables.exec = Jvm.exec) (hb : c.code = cc) {x : Int32} (hdg : decode cc pc = .ok (.iand, 1))
    (k : W p l e R s m args below meth c H locs cells slots Q (F0 m (pc + 1) ls (.int (nI (s_ab x)) :: rest))) : W p l e R s m args below meth c H locs cells slots Q (F0 m pc ls (.int 2147483647 :: .int x :: rest)) := by
  refine lv_iand hx hb hdg ?_
  rw [pk_and x 31 (by decide)]; exact k
theorem s_ld {a i n : Nat} (hx : p.tables.exec = Jvm.exec) (hb : c.code = cc) (hK : va_K G cl tys s) (hP : va_P G cl ws H) (q0 t0 : Nat) {d : ClassId} {f : Nat → Int32} (ha : ws[q0]? = some (a, .inl (d, n, .inl f))) (ht : tys[t0]? = some (d, .short)) (hn : n ≤ 48) (hi : i < n) (hdg : decode cc pc = .ok (.saload, 1))
    (k : W p l e R s m args below meth c H locs cells slots Q (F0 m (pc + 1) ls (.int (f i) :: rest))) : W p l e R s m args below meth c H locs cells slots Q (F0 m pc ls (.int (nI i) :: .ref a :: rest)) := by
  refine va_sald hx hb hK hP q0 t0 ha ht (vp_in_nI hi (by omega)) hdg ?_
  rw [nI_clamp (by omega)]; exact k
theorem s_st {a i n : Nat} (hx : p.tables.exec = Jvm.exec) (hb : c.code = cc) (hK : va_K G cl tys s) (hP : va_P G cl ws H) (hD : va_D A ws) (hS : va_S A s.heap H locs) (q0 t0 : Nat) {d : ClassId} {f : Nat → Int32} {ws' : (Nat → Int32) → va_W} (ha : ws[q0]? = some (a, .inl (d, n, .inl f))) (hw : ∀ g, ws.set q0 (a, .inl (d, n, .inl g)) = ws' g) (ht : tys[t0]? = some (d, .short)) (hn : n ≤ 48) (hi : i < n) {x : Int32} (hv : vp_nar .short x = x) (hdg : decode cc pc = .ok (.sastore, 1))
    (k : ∀ (g : Nat → Int32) (H1 : Heap) (locs1 : List Loc), g = upd f i x → va_P G cl (ws' g) H1 → va_D A (ws' g) → va_S A s.heap H1 locs1 → W p l e R s m args below meth c H1 locs1 cells slots Q (F0 m (pc + 1) ls rest)) : W p l e R s m args below meth c H locs cells slots Q (F0 m pc ls (.int x :: .int (nI i) :: .ref a :: rest)) := by
  refine va_sast hx hb hK hP hD hS q0 t0 ha ht (vp_in_nI hi (by omega)) hdg (fun H1 locs1 hP1 hD1 hS1 => ?_)
  rw [nI_clamp (by omega), hv, hw] at hP1 hD1
  exact k _ H1 locs1 rfl hP1 hD1 hS1
theorem s_ildn {a i n : Nat} (hx : p.tables.exec = Jvm.exec) (hb : c.code = cc) (hK : va_K G cl tys s) (hP : va_P G cl ws H) (q0 t0 : Nat) {d : ClassId} {f : Nat → Int32} (ha : ws[q0]? = some (a, .inl (d, n, .inl f))) (ht : tys[t0]? = some (d, .int)) (hn : n ≤ 48) (hi : i < n) (hdg : decode cc pc = .ok (.iaload, 1))
    (k : W p l e R s m args below meth c H locs cells slots Q (F0 m (pc + 1) ls (.int (f i) :: rest))) : W p l e R s m args below meth c H locs cells slots Q (F0 m pc ls (.int (nI i) :: .ref a :: rest)) := by
  refine va_iald hx hb hK hP q0 t0 ha ht (vp_in_nI hi (by omega)) hdg ?_
  rw [nI_clamp (by omega)]; exact k
theorem s_istn {a i n : Nat} (hx : p.tables.exec = Jvm.exec) (hb : c.code = cc) (hK : va_K G cl tys s) (hP : va_P G cl ws H) (hD : va_D A ws) (hS : va_S A s.heap H locs) (q0 t0 : Nat) {d : ClassId} {f : Nat → Int32} {ws' : (Nat → Int32) → va_W} (ha : ws[q0]? = some (a, .inl (d, n, .inl f))) (hw : ∀ g, ws.set q0 (a, .inl (d, n, .inl g)) = ws' g) (ht : tys[t0]? = some (d, .int)) (hn : n ≤ 48) (hi : i < n) {x : Int32} (hdg : decode cc pc = .ok (.iastore, 1))
    (k : ∀ (g : Nat → Int32) (H1 : Heap) (locs1 : List Loc), g = upd f i x → va_P G cl (ws' g) H1 → va_D A (ws' g) → va_S A s.heap H1 locs1 → W p l e R s m args below meth c H1 locs1 cells slots Q (F0 m (pc + 1) ls rest)) : W p l e R s m args below meth c H locs cells slots Q (F0 m pc ls (.int x :: .int (nI i) :: .ref a :: rest)) := by
  refine va_iast hx hb hK hP hD hS q0 t0 ha ht (vp_in_nI hi (by omega)) hdg (fun H1 locs1 hP1 hD1 hS1 => ?_)
  rw [nI_clamp (by omega), hw] at hP1 hD1
  exact k _ H1 locs1 rfl hP1 hD1 hS1
theorem s_veq (hx : p.tables.exec = Jvm.exec) (hb : c.code = cc) {x y : Int32} {off : Int} {tgt : Nat} (hdg : decode cc pc = .ok (.if_icmp .eq off, 3)) (ht : (pc : Int) + off = (tgt : Int))
    (kt : x.toInt = y.toInt → W p l e R s m args below meth c H locs cells slots Q (F0 m tgt ls rest)) (kf : x.toInt ≠ y.toInt → W p l e R s m args below meth c H locs cells slots Q (F0 m (pc + 3) ls rest)) : W p l e R s m args below meth c H locs cells slots Q (F0 m pc ls (.int y :: .int x :: rest)) :=
  lv_icmp_eq hx hb hdg ht (fun q => kt (by first | (rw [Int32.lt_iff_toInt_lt] at q; omega) | (rw [Int32.le_iff_toInt_le] at q; omega) | (rw [q]) | (intro z; exact q (Int32.toInt_inj.mp z)))) (fun q => kf (by first | (rw [Int32.lt_iff_toInt_lt] at q; omega) | (rw [Int32.le_iff_toInt_le] at q; omega) | (rw [q]) | (intro z; exact q (Int32.toInt_inj.mp z))))
theorem s_vne (hx : p.tables.exec = Jvm.exec) (hb : c.code = cc) {x y : Int32} {off : Int} {tgt : Nat} (hdg : decode cc pc = .ok (.if_icmp .ne off, 3)) (ht : (pc : Int) + off = (tgt : Int))
    (kt : x.toInt ≠ y.toInt → W p l e R s m args below meth c H locs cells slots Q (F0 m tgt ls rest)) (kf : x.toInt = y.toInt → W p l e R s m args below meth c H locs cells slots Q (F0 m (pc + 3) ls rest)) : W p l e R s m args below meth c H locs cells slots Q (F0 m pc ls (.int y :: .int x :: rest)) :=
  lv_icmp_ne hx hb hdg ht (fun q => kt (by first | (rw [Int32.lt_iff_toInt_lt] at q; omega) | (rw [Int32.le_iff_toInt_le] at q; omega) | (rw [q]) | (intro z; exact q (Int32.toInt_inj.mp z)))) (fun q => kf (by first | (rw [Int32.lt_iff_toInt_lt] at q; omega) | (rw [Int32.le_iff_toInt_le] at q; omega) | (rw [q]) | (intro z; exact q (Int32.toInt_inj.mp z))))
theorem s_vlt (hx : p.tables.exec = Jvm.exec) (hb : c.code = cc) {x y : Int32} {off : Int} {tgt : Nat} (hdg : decode cc pc = .ok (.if_icmp .lt off, 3)) (ht : (pc : Int) + off = (tgt : Int))
    (kt : x.toInt < y.toInt → W p l e R s m args below meth c H locs cells slots Q (F0 m tgt ls rest)) (kf : y.toInt ≤ x.toInt → W p l e R s m args below meth c H locs cells slots Q (F0 m (pc + 3) ls rest)) : W p l e R s m args below meth c H locs cells slots Q (F0 m pc ls (.int y :: .int x :: rest)) :=
  lv_icmp_lt hx hb hdg ht (fun q => kt (by first | (rw [Int32.lt_iff_toInt_lt] at q; omega) | (rw [Int32.le_iff_toInt_le] at q; omega) | (rw [q]) | (intro z; exact q (Int32.toInt_inj.mp z)))) (fun q => kf (by first | (rw [Int32.lt_iff_toInt_lt] at q; omega) | (rw [Int32.le_iff_toInt_le] at q; omega) | (rw [q]) | (intro z; exact q (Int32.toInt_inj.mp z))))
theorem s_vge (hx : p.tables.exec = Jvm.exec) (hb : c.code = cc) {x y : Int32} {off : Int} {tgt : Nat} (hdg : decode cc pc = .ok (.if_icmp .ge off, 3)) (ht : (pc : Int) + off = (tgt : Int))
    (kt : y.toInt ≤ x.toInt → W p l e R s m args below meth c H locs cells slots Q (F0 m tgt ls rest)) (kf : x.toInt < y.toInt → W p l e R s m args below meth c H locs cells slots Q (F0 m (pc + 3) ls rest)) : W p l e R s m args below meth c H locs cells slots Q (F0 m pc ls (.int y :: .int x :: rest)) :=
  lv_icmp_ge hx hb hdg ht (fun q => kt (by first | (rw [Int32.lt_iff_toInt_lt] at q; omega) | (rw [Int32.le_iff_toInt_le] at q; omega) | (rw [q]) | (intro z; exact q (Int32.toInt_inj.mp z)))) (fun q => kf (by first | (rw [Int32.lt_iff_toInt_lt] at q; omega) | (rw [Int32.le_iff_toInt_le] at q; omega) | (rw [q]) | (intro z; exact q (Int32.toInt_inj.mp z))))
theorem s_vgt (hx : p.tables.exec = Jvm.exec) (hb : c.code = cc) {x y : Int32} {off : Int} {tgt : Nat} (hdg : decode cc pc = .ok (.if_icmp .gt off, 3)) (ht : (pc : Int) + off = (tgt : Int))
    (kt : y.toInt < x.toInt → W p l e R s m args below meth c H locs cells slots Q (F0 m tgt ls rest)) (kf : x.toInt ≤ y.toInt → W p l e R s m args below meth c H locs cells slots Q (F0 m (pc + 3) ls rest)) : W p l e R s m args below meth c H locs cells slots Q (F0 m pc ls (.int y :: .int x :: rest)) :=
  lv_icmp_gt hx hb hdg ht (fun q => kt (by first | (rw [Int32.lt_iff_toInt_lt] at q; omega) | (rw [Int32.le_iff_toInt_le] at q; omega) | (rw [q]) | (intro z; exact q (Int32.toInt_inj.mp z)))) (fun q => kf (by first | (rw [Int32.lt_iff_toInt_lt] at q; omega) | (rw [Int32.le_iff_toInt_le] at q; omega) | (rw [q]) | (intro z; exact q (Int32.toInt_inj.mp z))))
theorem s_vle (hx : p.tables.exec = Jvm.exec) (hb : c.code = cc) {x y : Int32} {off : Int} {tgt : Nat} (hdg : decode cc pc = .ok (.if_icmp .le off, 3)) (ht : (pc : Int) + off = (tgt : Int))
    (kt : x.toInt ≤ y.toInt → W p l e R s m args below meth c H locs cells slots Q (F0 m tgt ls rest)) (kf : y.toInt < x.toInt → W p l e R s m args below meth c H locs cells slots Q (F0 m (pc + 3) ls rest)) : W p l e R s m args below meth c H locs cells slots Q (F0 m pc ls (.int y :: .int x :: rest)) :=
  lv_icmp_le hx hb hdg ht (fun q => kt (by first | (rw [Int32.lt_iff_toInt_lt] at q; omega) | (rw [Int32.le_iff_toInt_le] at q; omega) | (rw [q]) | (intro z; exact q (Int32.toInt_inj.mp z)))) (fun q => kf (by first | (rw [Int32.lt_iff_toInt_lt] at q; omega) | (rw [Int32.le_iff_toInt_le] at q; omega) | (rw [q]) | (intro z; exact q (Int32.toInt_inj.mp z))))
theorem s_neq (hx : p.tables.exec = Jvm.exec) (hb : c.code = cc) {a b : Nat} {off : Int} {tgt : Nat} (hdg : decode cc pc = .ok (.if_icmp .eq off, 3)) (ht : (pc : Int) + off = (tgt : Int)) (ha : a < 2 ^ 31) (hb1 : b < 2 ^ 31)
    (kt : a = b → W p l e R s m args below meth c H locs cells slots Q (F0 m tgt ls rest)) (kf : a ≠ b → W p l e R s m args below meth c H locs cells slots Q (F0 m (pc + 3) ls rest)) : W p l e R s m args below meth c H locs cells slots Q (F0 m pc ls (.int (nI b) :: .int (nI a) :: rest)) :=
  s_veq hx hb hdg ht (fun q => kt (by rw [nI_toInt ha, nI_toInt hb1] at q; omega)) (fun q => kf (by rw [nI_toInt ha, nI_toInt hb1] at q; omega))
theorem s_nne (hx : p.tables.exec = Jvm.exec) (hb : c.code = cc) {a b : Nat} {off : Int} {tgt : Nat} (hdg : decode cc pc = .ok (.if_icmp .ne off, 3)) (ht : (pc : Int) + off = (tgt : Int)) (ha : a < 2 ^ 31) (hb1 : b < 2 ^ 31)
    (kt : a ≠ b → W p l e R s m args below meth c H locs cells slots Q (F0 m tgt ls rest)) (kf : a = b → W p l e R s m args below meth c H locs cells slots Q (F0 m (pc + 3) ls rest)) : W p l e R s m args below meth c H locs cells slots Q (F0 m pc ls (.int (nI b) :: .int (nI a) :: rest)) :=
  s_vne hx hb hdg ht (fun q => kt (by rw [nI_toInt ha, nI_toInt hb1] at q; omega)) (fun q => kf (by rw [nI_toInt ha, nI_toInt hb1] at q; omega))
theorem s_nlt (hx : p.tables.exec = Jvm.exec) (hb : c.code = cc) {a b : Nat} {off : Int} {tgt : Nat} (hdg : decode cc pc = .ok (.if_icmp .lt off, 3)) (ht : (pc : Int) + off = (tgt : Int)) (ha : a < 2 ^ 31) (hb1 : b < 2 ^ 31)
    (kt : a < b → W p l e R s m args below meth c H locs cells slots Q (F0 m tgt ls rest)) (kf : b ≤ a → W p l e R s m args below meth c H locs cells slots Q (F0 m (pc + 3) ls rest)) : W p l e R s m args below meth c H locs cells slots Q (F0 m pc ls (.int (nI b) :: .int (nI a) :: rest)) :=
  s_vlt hx hb hdg ht (fun q => kt (by rw [nI_toInt ha, nI_toInt hb1] at q; omega)) (fun q => kf (by rw [nI_toInt ha, nI_toInt hb1] at q; omega))
theorem s_nge (hx : p.tables.exec = Jvm.exec) (hb : c.code = cc) {a b : Nat} {off : Int} {tgt : Nat} (hdg : decode cc pc = .ok (.if_icmp .ge off, 3)) (ht : (pc : Int) + off = (tgt : Int)) (ha : a < 2 ^ 31) (hb1 : b < 2 ^ 31)
    (kt : b ≤ a → W p l e R s m args below meth c H locs cells slots Q (F0 m tgt ls rest)) (kf : a < b → W p l e R s m args below meth c H locs cells slots Q (F0 m (pc + 3) ls rest)) : W p l e R s m args below meth c H locs cells slots Q (F0 m pc ls (.int (nI b) :: .int (nI a) :: rest)) :=
  s_vge hx hb hdg ht (fun q => kt (by rw [nI_toInt ha, nI_toInt hb1] at q; omega)) (fun q => kf (by rw [nI_toInt ha, nI_toInt hb1] at q; omega))
theorem s_ngt (hx : p.tables.exec = Jvm.exec) (hb : c.code = cc) {a b : Nat} {off : Int} {tgt : Nat} (hdg : decode cc pc = .ok (.if_icmp .gt off, 3)) (ht : (pc : Int) + off = (tgt : Int)) (ha : a < 2 ^ 31) (hb1 : b < 2 ^ 31)
    (kt : b < a → W p l e R s m args below meth c H locs cells slots Q (F0 m tgt ls rest)) (kf : a ≤ b → W p l e R s m args below meth c H locs cells slots Q (F0 m (pc + 3) ls rest)) : W p l e R s m args below meth c H locs cells slots Q (F0 m pc ls (.int (nI b) :: .int (nI a) :: rest)) :=
  s_vgt hx hb hdg ht (fun q => kt (by rw [nI_toInt ha, nI_toInt hb1] at q; omega)) (fun q => kf (by rw [nI_toInt ha, nI_toInt hb1] at q; omega))
theorem s_nle (hx : p.tables.exec = Jvm.exec) (hb : c.code = cc) {a b : Nat} {off : Int} {tgt : Nat} (hdg : decode cc pc = .ok (.if_icmp .le off, 3)) (ht : (pc : Int) + off = (tgt : Int)) (ha : a < 2 ^ 31) (hb1 : b < 2 ^ 31)
    (kt : a ≤ b → W p l e R s m args below meth c H locs cells slots Q (F0 m tgt ls rest)) (kf : b < a → W p l e R s m args below meth c H locs cells slots Q (F0 m (pc + 3) ls rest)) : W p l e R s m args below meth c H locs cells slots Q (F0 m pc ls (.int (nI b) :: .int (nI a) :: rest)) :=
  s_vle hx hb hdg ht (fun q => kt (by rw [nI_toInt ha, nI_toInt hb1] at q; omega)) (fun q => kf (by rw [nI_toInt ha, nI_toInt hb1] at q; omega))
theorem s_zeq (hx : p.tables.exec = Jvm.exec) (hb : c.code = cc) {x : Int32} {off : Int} {tgt : Nat} (hdg : decode cc pc = .ok (.ifCond .eq off, 3)) (ht : (pc : Int) + off = (tgt : Int))
    (kt : x.toInt = 0 → W p l e R s m args below meth c H locs cells slots Q (F0 m tgt ls rest)) (kf : x.toInt ≠ 0 → W p l e R s m args below meth c H locs cells slots Q (F0 m (pc + 3) ls rest)) : W p l e R s m args below meth c H locs cells slots Q (F0 m pc ls (.int x :: rest)) :=
  lv_if_eq hx hb hdg ht (fun q => kt (by first | (rw [Int32.lt_iff_toInt_lt, Int32.toInt_zero] at q; omega) | (rw [Int32.le_iff_toInt_le, Int32.toInt_zero] at q; omega) | (rw [q]; rfl) | (intro z; exact q (Int32.toInt_inj.mp (z.trans Int32.toInt_zero.symm))))) (fun q => kf (by first | (rw [Int32.lt_iff_toInt_lt, Int32.toInt_zero] at q; omega) | (rw [Int32.le_iff_toInt_le, Int32.toInt_zero] at q; omega) | (rw [q]; rfl) | (intro z; exact q (Int32.toInt_inj.mp (z.trans Int32.toInt_zero.symm)))))
theorem s_zne (hx : p.tables.exec = Jvm.exec) (hb : c.code = cc) {x : Int32} {off : Int} {tgt : Nat} (hdg : decode cc pc = .ok (.ifCond .ne off, 3)) (ht : (pc : Int) + off = (tgt : Int))
    (kt : x.toInt ≠ 0 → W p l e R s m args below meth c H locs cells slots Q (F0 m tgt ls rest)) (kf : x.toInt = 0 → W p l e R s m args below meth c H locs cells slots Q (F0 m (pc + 3) ls rest)) : W p l e R s m args below meth c H locs cells slots Q (F0 m pc ls (.int x :: rest)) :=
  lv_if_ne hx hb hdg ht (fun q => kt (by first | (rw [Int32.lt_iff_toInt_lt, Int32.toInt_zero] at q; omega) | (rw [Int32.le_iff_toInt_le, Int32.toInt_zero] at q; omega) | (rw [q]; rfl) | (intro z; exact q (Int32.toInt_inj.mp (z.trans Int32.toInt_zero.symm))))) (fun q => kf (by first | (rw [Int32.lt_iff_toInt_lt, Int32.toInt_zero] at q; omega) | (rw [Int32.le_iff_toInt_le, Int32.toInt_zero] at q; omega) | (rw [q]; rfl) | (intro z; exact q (Int32.toInt_inj.mp (z.trans Int32.toInt_zero.symm)))))
theorem s_zlt (hx : p.tables.exec = Jvm.exec) (hb : c.code = cc) {x : Int32} {off : Int} {tgt : Nat} (hdg : decode cc pc = .ok (.ifCond .lt off, 3)) (ht : (pc : Int) + off = (tgt : Int))
    (kt : x.toInt < 0 → W p l e R s m args below meth c H locs cells slots Q (F0 m tgt ls rest)) (kf : 0 ≤ x.toInt → W p l e R s m args below meth c H locs cells slots Q (F0 m (pc + 3) ls rest)) : W p l e R s m args below meth c H locs cells slots Q (F0 m pc ls (.int x :: rest)) :=
  lv_if_lt hx hb hdg ht (fun q => kt (by first | (rw [Int32.lt_iff_toInt_lt, Int32.toInt_zero] at q; omega) | (rw [Int32.le_iff_toInt_le, Int32.toInt_zero] at q; omega) | (rw [q]; rfl) | (intro z; exact q (Int32.toInt_inj.mp (z.trans Int32.toInt_zero.symm))))) (fun q => kf (by first | (rw [Int32.lt_iff_toInt_lt, Int32.toInt_zero] at q; omega) | (rw [Int32.le_iff_toInt_le, Int32.toInt_zero] at q; omega) | (rw [q]; rfl) | (intro z; exact q (Int32.toInt_inj.mp (z.trans Int32.toInt_zero.symm)))))
theorem s_zge (hx : p.tables.exec = Jvm.exec) (hb : c.code = cc) {x : Int32} {off : Int} {tgt : Nat} (hdg : decode cc pc = .ok (.ifCond .ge off, 3)) (ht : (pc : Int) + off = (tgt : Int))
    (kt : 0 ≤ x.toInt → W p l e R s m args below meth c H locs cells slots Q (F0 m tgt ls rest)) (kf : x.toInt < 0 → W p l e R s m args below meth c H locs cells slots Q (F0 m (pc + 3) ls rest)) : W p l e R s m args below meth c H locs cells slots Q (F0 m pc ls (.int x :: rest)) :=
  lv_if_ge hx hb hdg ht (fun q => kt (by first | (rw [Int32.lt_iff_toInt_lt, Int32.toInt_zero] at q; omega) | (rw [Int32.le_iff_toInt_le, Int32.toInt_zero] at q; omega) | (rw [q]; rfl) | (intro z; exact q (Int32.toInt_inj.mp (z.trans Int32.toInt_zero.symm))))) (fun q => kf (by first | (rw [Int32.lt_iff_toInt_lt, Int32.toInt_zero] at q; omega) | (rw [Int32.le_iff_toInt_le, Int32.toInt_zero] at q; omega) | (rw [q]; rfl) | (intro z; exact q (Int32.toInt_inj.mp (z.trans Int32.toInt_zero.symm)))))
theorem s_zgt (hx : p.tables.exec = Jvm.exec) (hb : c.code = cc) {x : Int32} {off : Int} {tgt : Nat} (hdg : decode cc pc = .ok (.ifCond .gt off, 3)) (ht : (pc : Int) + off = (tgt : Int))
    (kt : 0 < x.toInt → W p l e R s m args below meth c H locs cells slots Q (F0 m tgt ls rest)) (kf : x.toInt ≤ 0 → W p l e R s m args below meth c H locs cells slots Q (F0 m (pc + 3) ls rest)) : W p l e R s m args below meth c H locs cells slots Q (F0 m pc ls (.int x :: rest)) :=
  lv_if_gt hx hb hdg ht (fun q => kt (by first | (rw [Int32.lt_iff_toInt_lt, Int32.toInt_zero] at q; omega) | (rw [Int32.le_iff_toInt_le, Int32.toInt_zero] at q; omega) | (rw [q]; rfl) | (intro z; exact q (Int32.toInt_inj.mp (z.trans Int32.toInt_zero.symm))))) (fun q => kf (by first | (rw [Int32.lt_iff_toInt_lt, Int32.toInt_zero] at q; omega) | (rw [Int32.le_iff_toInt_le, Int32.toInt_zero] at q; omega) | (rw [q]; rfl) | (intro z; exact q (Int32.toInt_inj.mp (z.trans Int32.toInt_zero.symm)))))
theorem s_zle (hx : p.tables.exec = Jvm.exec) (hb : c.code = cc) {x : Int32} {off : Int} {tgt : Nat} (hdg : decode cc pc = .ok (.ifCond .le off, 3)) (ht : (pc : Int) + off = (tgt : Int))
    (kt : x.toInt ≤ 0 → W p l e R s m args below meth c H locs cells slots Q (F0 m tgt ls rest)) (kf : 0 < x.toInt → W p l e R s m args below meth c H locs cells slots Q (F0 m (pc + 3) ls rest)) : W p l e R s m args below meth c H locs cells slots Q (F0 m pc ls (.int x :: rest)) :=
  lv_if_le hx hb hdg ht (fun q => kt (by first | (rw [Int32.lt_iff_toInt_lt, Int32.toInt_zero] at q; omega) | (rw [Int32.le_iff_toInt_le, Int32.toInt_zero] at q; omega) | (rw [q]; rfl) | (intro z; exact q (Int32.toInt_inj.mp (z.trans Int32.toInt_zero.symm))))) (fun q => kf (by first | (rw [Int32.lt_iff_toInt_lt, Int32.toInt_zero] at q; omega) | (rw [Int32.le_iff_toInt_le, Int32.toInt_zero] at q; omega) | (rw [q]; rfl) | (intro z; exact q (Int32.toInt_inj.mp (z.trans Int32.toInt_zero.symm)))))
end SR
end
section
/-! THE PLAIN LAW: how many places of a stretch hold a value of a kind; rearranged; ascending; an ascending rearrangement is unique -/
def sg_b (z : Bool) : Nat := if z = true then 1 else 0
def sg_ct (p : Int32 → Bool) (f : Nat → Int32) (a : Nat) : Nat → Nat
  | 0 => 0
  | n + 1 => sg_ct p f a n + sg_b (p (f (a + n)))
theorem sg_ct_congr {p : Int32 → Bool} {f g : Nat → Int32} {a : Nat} : ∀ n : Nat, (∀ k, a ≤ k → k < a + n → f k = g k) → sg_ct p f a n = sg_ct p g a n
  | 0, _ => rfl
  | n + 1, h => by
    show sg_ct p f a n + _ = sg_ct p g a n + _
    rw [sg_ct_congr n (fun k h1 h2 => h k h1 (by omega)), h (a + n) (by omega) (by omega)]
theorem sg_ct_shift {p : Int32 → Bool} {f g : Nat → Int32} {a b : Nat} : ∀ n : Nat, (∀ k, k < n → f (a + k) = g (b + k)) → sg_ct p f a n = sg_ct p g b n
  | 0, _ => rfl
  | n + 1, h => by
    show sg_ct p f a n + _ = sg_ct p g b n + _
    rw [sg_ct_shift n (fun k h1 => h k (by omega)), h n (by omega)]
theorem sg_ct_add (p : Int32 → Bool) (f : Nat → Int32) (a m : Nat) : ∀ n : Nat, sg_ct p f a (m + n) = sg_ct p f a m + sg_ct p f (a + m) n
  | 0 => rfl
  | n + 1 => by
    show sg_ct p f a (m + n) + sg_b (p (f (a + (m + n)))) = sg_ct p f a m + (sg_ct p f (a + m) n + sg_b (p (f (a + m + n))))
    rw [sg_ct_add p f a m n, Nat.add_assoc a m n]; omega
theorem sg_ct_upd (p : Int32 → Bool) (f : Nat → Int32) (a k : Nat) (x : Int32) : ∀ n : Nat, a ≤ k → k < a + n → sg_ct p (upd f k x) a n + sg_b (p (f k)) = sg_ct p f a n + sg_b (p x)
  | 0, h1, h2 => by omega
  | n + 1, h1, h2 => by
    show sg_ct p (upd f k x) a n + sg_b (p (upd f k x (a + n))) + _ = sg_ct p f a n + sg_b (p (f (a + n))) + _
    by_cases hk : k = a + n
    · rw [sg_ct_congr (f := upd f k x) (g := f) n (fun j _ hj => pk_un (by omega)), ← hk, pk_us]; omega
    · rw [pk_un (f := f) (k := k) (j := a + n) (x := x) (by omega)]
      have := sg_ct_upd p f a k x n h1 (by omega)
      omega
theorem sg_ct_zero {p : Int32 → Bool} {f : Nat → Int32} {a : Nat} : ∀ n : Nat, (∀ k, a ≤ k → k < a + n → p (f k) = false) → sg_ct p f a n = 0
  | 0, _ => rfl
  | n + 1, h => by
    show sg_ct p f a n + _ = 0
    rw [sg_ct_zero n (fun k h1 h2 => h k h1 (by omega)), h (a + n) (by omega) (by omega)]; rfl
theorem sg_ct_pos {p : Int32 → Bool} {f : Nat → Int32} {a k : Nat} : ∀ n : Nat, a ≤ k → k < a + n → p (f k) = true → 0 < sg_ct p f a n
  | 0, h1, h2, _ => by omega
  | n + 1, h1, h2, h => by
    show 0 < sg_ct p f a n + _
    by_cases hk : k = a + n
    · rw [← hk, h]; show 0 < _ + 1; omega
    · have := sg_ct_pos n h1 (by omega) h; omega
/-- g is f with the places a .. b-1 rearranged -/
def sg_pm (a b : Nat) (f g : Nat → Int32) : Prop := (∀ k, k < a ∨ b ≤ k → g k = f k) ∧ ∀ p, sg_ct p g a (b - a) = sg_ct p f a (b - a)
/-- ascending from a to b-1 -/
def sg_so (a b : Nat) (f : Nat → Int32) : Prop := ∀ i j, a ≤ i → i ≤ j → j < b → (f i).toInt ≤ (f j).toInt
/-- all contents are shorts -/
def sg_sh (f : Nat → Int32) : Prop := ∀ k, vp_nar .short (f k) = f k
theorem sg_pm.rf {a b : Nat} {f : Nat → Int32} : sg_pm a b f f := ⟨fun _ _ => rfl, fun _ => rfl⟩
theorem sg_pm.tr {a b : Nat} {f g h : Nat → Int32} (h1 : sg_pm a b f g) (h2 : sg_pm a b g h) : sg_pm a b f h := ⟨fun k hk => (h2.1 k hk).trans (h1.1 k hk), fun p => (h2.2 p).trans (h1.2 p)⟩
theorem sg_pm.wd {a b c d : Nat} {f g : Nat → Int32} (h : sg_pm a b f g) (h1 : c ≤ a) (h2 : a ≤ b) (h3 : b ≤ d) : sg_pm c d f g := by
  refine ⟨fun k hk => h.1 k (by omega), fun p => ?_⟩
  have e : d - c = (a - c) + ((b - a) + (d - b)) := by omega
  have e1 : c + (a - c) = a := by omega
  have e2 : a + (b - a) = b := by omega
  rw [e, sg_ct_add, sg_ct_add, sg_ct_add, sg_ct_add, e1, e2, h.2 p, sg_ct_congr (f := g) (g := f) (a := c) (a - c) (fun k _ hk => h.1 k (by omega)), sg_ct_congr (f := g) (g := f) (a := b) (d - b) (fun k hk _ => h.1 k (by omega))]
theorem sg_pm.sw {a b i j : Nat} (f : Nat → Int32) (hi : a ≤ i) (hi2 : i < b) (hj : a ≤ j) (hj2 : j < b) : sg_pm a b f (upd (upd f i (f j)) j (f i)) := by
  refine ⟨fun k hk => by rw [pk_un (by omega), pk_un (by omega)], fun p => ?_⟩
  have e1 := sg_ct_upd p f a i (f j) (b - a) hi (by omega)
  have e2 := sg_ct_upd p (upd f i (f j)) a j (f i) (b - a) hj (by omega)
  have e3 : upd f i (f j) j = f j := by
    by_cases h : j = i
    · rw [h, pk_us]
    · rw [pk_un h]
  rw [e3] at e2
  omega
theorem sg_pm.all {a b : Nat} {f g : Nat → Int32} (h : sg_pm a b f g) {P : Int32 → Prop} (hf : ∀ k, a ≤ k → k < b → P (f k)) : ∀ k, a ≤ k → k < b → P (g k) := by
  intro k h1 h2
  refine Classical.byContradiction fun hn => ?_
  have e := h.2 (fun x => @decide (¬ P x) (Classical.propDecidable _))
  have z : sg_ct (fun x => @decide (¬ P x) (Classical.propDecidable _)) f a (b - a) = 0 := sg_ct_zero _ (fun k h1 h2 => by
    have q := hf k h1 (by omega)
    simp [q])
  have q : 0 < sg_ct (fun x => @decide (¬ P x) (Classical.propDecidable _)) g a (b - a) := sg_ct_pos (k := k) _ h1 (by omega) (by simp [hn])
  omega
theorem sg_pm.symm {a b : Nat} {f g : Nat → Int32} (h : sg_pm a b f g) : sg_pm a b g f := ⟨fun k hk => (h.1 k hk).symm, fun p => (h.2 p).symm⟩
theorem sg_pm.sh {a b : Nat} {f g : Nat → Int32} (h : sg_pm a b f g) (hf : sg_sh f) : sg_sh g := by
  intro k
  by_cases hk : a ≤ k ∧ k < b
  · exact h.all (P := fun x => vp_nar .short x = x) (fun k _ _ => hf k) k hk.1 hk.2
  · rw [h.1 k (by omega)]; exact hf k
theorem sg_uniq : ∀ (n a : Nat) (f g : Nat → Int32), sg_so a (a + n) f → sg_so a (a + n) g → (∀ p, sg_ct p f a n = sg_ct p g a n) → ∀ k, a ≤ k → k < a + n → f k = g k
  | 0, a, f, g, _, _, _ => fun k h1 h2 => by omega
  | n + 1, a, f, g, hf, hg, hc => by
    have lo : ∀ (f g : Nat → Int32), sg_so a (a + (n + 1)) f → (∀ p, sg_ct p f a (n + 1) = sg_ct p g a (n + 1)) → ¬ (f (a + n)).toInt < (g (a + n)).toInt := by
      intro f g hf hc hlt
      have e := hc (fun x => decide ((g (a + n)).toInt ≤ x.toInt))
      have z : sg_ct (fun x => decide ((g (a + n)).toInt ≤ x.toInt)) f a (n + 1) = 0 := sg_ct_zero _ (fun k h1 h2 => by
        have := hf k (a + n) h1 (by omega) (by omega)
        exact decide_eq_false (by omega))
      have q : 0 < sg_ct (fun x => decide ((g (a + n)).toInt ≤ x.toInt)) g a (n + 1) := sg_ct_pos (k := a + n) _ (by omega) (by omega) (decide_eq_true (Int.le_refl _))
      omega
    have top : f (a + n) = g (a + n) := Int32.toInt_inj.mp (by
      have h1 := lo f g hf hc
      have h2 := lo g f hg (fun p => (hc p).symm)
      omega)
    have ih := sg_uniq n a f g (fun i j h1 h2 h3 => hf i j h1 h2 (by omega)) (fun i j h1 h2 h3 => hg i j h1 h2 (by omega)) (fun p => by
      have e : sg_ct p f a n + sg_b (p (f (a + n))) = sg_ct p g a n + sg_b (p (g (a + n))) := hc p
      rw [top] at e
      omega)
    intro k h1 h2
    by_cases hk : k = a + n
    · rw [hk]; exact top
    · exact ih k h1 (by omega)
/-- an ascending rearrangement is unique -/
theorem sg_det {a b : Nat} {f g h : Nat → Int32} (h1 : sg_pm a b f g) (h2 : sg_pm a b f h) (s1 : sg_so a b g) (s2 : sg_so a b h) : g = h := by
  funext k
  by_cases hk : a ≤ k ∧ k < b
  · have e : a + (b - a) = b := by omega
    exact sg_uniq (b - a) a g h (by rw [e]; exact s1) (by rw [e]; exact s2) (fun p => (h1.2 p).trans (h2.2 p).symm) k hk.1 (by omega)
  · rw [h1.1 k (by omega), h2.1 k (by omega)]
/-- places i and j exchanged -/
def sg_sw (f : Nat → Int32) (i j : Nat) : Nat → Int32 := upd (upd f i (f j)) j (f i)
theorem sg_sw_i (f : Nat → Int32) (i j : Nat) : sg_sw f i j i = f j := by
  by_cases h : i = j
  · subst h; exact pk_us
  · show upd _ j _ i = _
    rw [pk_un h, pk_us]
theorem sg_sw_j (f : Nat → Int32) (i j : Nat) : sg_sw f i j j = f i := pk_us
theorem sg_sw_n (f : Nat → Int32) {i j k : Nat} (h1 : k ≠ i) (h2 : k ≠ j) : sg_sw f i j k = f k := by
  show upd _ j _ k = _
  rw [pk_un h2, pk_un h1]
theorem sg_sw_v (f : Nat → Int32) (i j k : Nat) : sg_sw f i j k = if k = j then f i else if k = i then f j else f k := by
  by_cases h : k = j
  · rw [if_pos h, h]; exact sg_sw_j f i j
  · rw [if_neg h]
    by_cases h2 : k = i
    · rw [if_pos h2, h2]; exact sg_sw_i f i j
    · rw [if_neg h2]; exact sg_sw_n f h2 h
theorem sg_sw_pm {a b i j : Nat} (f : Nat → Int32) (hi : a ≤ i) (hi2 : i < b) (hj : a ≤ j) (hj2 : j < b) : sg_pm a b f (sg_sw f i j) := sg_pm.sw f hi hi2 hj hj2
theorem sg_sh_upd {f : Nat → Int32} (h : sg_sh f) {k : Nat} {x : Int32} (hx : vp_nar .short x = x) : sg_sh (upd f k x) := by
  intro j
  by_cases hj : j = k
  · rw [hj, pk_us]; exact hx
  · rw [pk_un hj]; exact h j
/-- n places from a on exchanged with n places from b on -/
def sg_swn (f : Nat → Int32) (a b : Nat) : Nat → Nat → Int32
  | 0 => f
  | n + 1 => sg_swn (sg_sw f a b) (a + 1) (b + 1) n
theorem sg_swn_pm {c d : Nat} : ∀ (n : Nat) (f : Nat → Int32) (a b : Nat), c ≤ a → c ≤ b → a + n ≤ d → b + n ≤ d → sg_pm c d f (sg_swn f a b n)
  | 0, f, a, b, _, _, _, _ => sg_pm.rf
  | n + 1, f, a, b, h1, h2, h3, h4 => (sg_sw_pm f h1 (by omega) h2 (by omega)).tr (sg_swn_pm n _ (a + 1) (b + 1) (by omega) (by omega) (by omega) (by omega))
theorem sg_swn_v : ∀ (n : Nat) (f : Nat → Int32) (a b k : Nat), a + n ≤ b → sg_swn f a b n k = if a ≤ k ∧ k < a + n then f (k - a + b) else if b ≤ k ∧ k < b + n then f (k - b + a) else f k
  | 0, f, a, b, k, h => by
    rw [if_neg (by omega), if_neg (by omega)]; rfl
  | n + 1, f, a, b, k, h => by
    show sg_swn (sg_sw f a b) (a + 1) (b + 1) n k = _
    rw [sg_swn_v n (sg_sw f a b) (a + 1) (b + 1) k (by omega)]
    by_cases h1 : k = a
    · subst h1
      rw [if_neg (by omega), if_neg (by omega), if_pos (by omega), sg_sw_i]
      congr 1; omega
    · by_cases h2 : k = b
      · subst h2
        rw [if_neg (by omega), if_neg (by omega), if_neg (by omega), if_pos (by omega), sg_sw_j]
        congr 1; omega
      · by_cases h3 : a + 1 ≤ k ∧ k < a + 1 + n
        · rw [if_pos h3, if_pos (by omega), sg_sw_n _ (by omega) (by omega)]
          congr 1; omega
        · by_cases h4 : b + 1 ≤ k ∧ k < b + 1 + n
          · rw [if_neg h3, if_pos h4, if_neg (by omega), if_pos (by omega), sg_sw_n _ (by omega) (by omega)]
            congr 1; omega
          · rw [if_neg h3, if_neg h4, if_neg (by omega), if_neg (by omega), sg_sw_n _ h1 h2]
end
section
/-! LEAVES of ShortArrays -/
abbrev s_w1 (h0 : Nat) (d0 : ClassId) (n0 : Nat) (f : Nat → Int32) : va_W := [(h0, .inl (d0, n0, .inl f))]
theorem s_rng {x : Int32} (h : vp_nar .short x = x) : -32768 ≤ x.toInt ∧ x.toInt ≤ 32767 := by
  rw [vp_nar_short] at h
  have e : x.toInt = x.toInt16.toInt := by
    rw [← Int16.toInt_toInt32, h]
  have h1 := Int16.le_toInt x.toInt16
  have h2 := Int16.toInt_lt x.toInt16
  omega
theorem s_subT {x y : Int32} (hx : vp_nar .short x = x) (hy : vp_nar .short y = y) : (x - y).toInt = x.toInt - y.toInt := by
  have h1 := s_rng hx
  have h2 := s_rng hy
  rw [Int32.toInt_sub, Int.bmod_def]
  omega
theorem nm_compare : s_nm yJ0_compare 2 := by decide +kernel
theorem nm_swap : s_nm yX2_swap 3 := by decide +kernel
theorem nm_swap_2 : s_nm yX2_swap_2 4 := by decide +kernel
theorem nm_med3 : s_nm yX2_med3 4 := by decide +kernel
theorem nm_selectionSort : s_nm yX2_selectionSort 3 := by decide +kernel
theorem nm_insertionSort : s_nm yX2_insertionSort 3 := by decide +kernel
set_option maxHeartbeats 4000000 in
set_option maxRecDepth 100000 in
/-- Short.compare: the difference -/
theorem m_compare {l : Launch} {G : va_G} {cl : List vw_C} {x y : Int32} (hx0 : vp_nar .short x = x) (hy0 : vp_nar .short y = y) : s_Mi l yJ0_compare cJ0_compare 2 (s_rk 0 0 0) G cl [.int x, .int y] [] [] (fun r => r.toInt = x.toInt - y.toInt) := by
  refine s_ofi (by decide) (Nat.le_of_ble_eq_true rfl) ?_
  intro p e s m args below meth c Q ls hx hb hml hown hts hK hP hl hret
  have hl : lv_has ls 2 [(0, .int x), (1, .int y)] := hl
  refine lv_iload_n hx hb dJ0_compare_0 rfl (lv_at hl 0 rfl) ?_
  refine lv_iload_n hx hb dJ0_compare_1 rfl (lv_at hl 1 rfl) ?_
  refine lv_isub hx hb dJ0_compare_2 ?_
  exact hret (x - y) _ _ (s_subT hx0 hy0) dJ0_compare_3
set_option maxHeartbeats 4000000 in
set_option maxRecDepth 100000 in
/-- swap(x, i, j) -/
theorem m_swap {l : Launch} {G : va_G} {cl : List vw_C} {h0 : Nat} {d0 : ClassId} {n0 : Nat} {f : Nat → Int32} (hn0 : n0 ≤ 48) (hf : sg_sh f) {i j : Nat} (hi : i < n0) (hj : j < n0) : s_Mv l yX2_swap cX2_swap 4 (s_rk 0 0 0) G cl [.ref h0, .int (nI i), .int (nI j)] (s_w1 h0 d0 n0 f) [(d0, .short)] (fun g => g = sg_sw f i j) (fun g => s_w1 h0 d0 n0 g) 0 0 := by
  refine s_ofv (by decide) (Nat.le_of_ble_eq_true rfl) ?_
  intro p e s m args below meth c Q A ls hx hb hml hown hts hnm hN hA hK hP hD hS hl hret
  have hl : lv_has ls 4 [(0, .ref h0), (1, .int (nI i)), (2, .int (nI j))] := hl
  refine lv_aload_n hx hb dX2_swap_0 rfl (lv_at hl 0 rfl) ?_
  refine lv_iload_n hx hb dX2_swap_1 rfl (lv_at hl 1 rfl) ?_
  refine s_ld hx hb hK hP 0 0 rfl rfl hn0 (by omega) dX2_swap_2 ?_
  refine lv_istore_n (lv' := [(3, .int (f i)), (0, .ref h0), (1, .int (nI i)), (2, .int (nI j))]) hx hb dX2_swap_3 rfl hl (by decide) rfl (fun ls hl => ?_)
  refine lv_aload_n hx hb dX2_swap_4 rfl (lv_at hl 1 rfl) ?_
  refine lv_iload_n hx hb dX2_swap_5 rfl (lv_at hl 2 rfl) ?_
  refine lv_aload_n hx hb dX2_swap_6 rfl (lv_at hl 1 rfl) ?_
  refine lv_iload_n hx hb dX2_swap_7 rfl (lv_at hl 3 rfl) ?_
  refine s_ld hx hb hK hP 0 0 rfl rfl hn0 (by omega) dX2_swap_8 ?_
  refine s_st (ws' := fun g1 => s_w1 h0 d0 n0 g1) hx hb hK hP hD hS 0 0 rfl (fun _ => rfl) rfl hn0 (by omega) (hf _) dX2_swap_9 (fun g1 H locs e1 hP hD hS => ?_)
  refine lv_aload_n hx hb dX2_swap_10 rfl (lv_at hl 1 rfl) ?_
  refine lv_iload_n hx hb dX2_swap_11 rfl (lv_at hl 3 rfl) ?_
  refine lv_iload_n hx hb dX2_swap_12 rfl (lv_at hl 0 rfl) ?_
  refine s_st (ws' := fun g2 => s_w1 h0 d0 n0 g2) hx hb hK hP hD hS 0 0 rfl (fun _ => rfl) rfl hn0 (by omega) (hf _) dX2_swap_13 (fun g2 H locs e2 hP hD hS => ?_)
  exact hret g2 _ _ _ _ (by rw [e2, e1]; rfl) hP hD hS dX2_swap_14
set_option maxHeartbeats 4000000 in
set_option maxRecDepth 100000 in
/-- swap(x, a, b, n) -/
theorem m_swap_2 {l : Launch} {G : va_G} {cl : List vw_C} {h0 : Nat} {d0 : ClassId} {n0 : Nat} {f : Nat → Int32} (hn0 : n0 ≤ 48) (hf : sg_sh f) {a b n : Nat} (ha : a + n ≤ n0) (hab : b + n ≤ n0) : s_Mv l yX2_swap_2 cX2_swap_2 5 (s_rk 1 0 0) G cl [.ref h0, .int (nI a), .int (nI b), .int (nI n)] (s_w1 h0 d0 n0 f) [(d0, .short)] (fun g => g = sg_swn f a b n) (fun g => s_w1 h0 d0 n0 g) 0 0 := by
  refine s_ofv (by decide) (Nat.le_of_ble_eq_true rfl) ?_
  intro p e s m args below meth c Q A ls hx hb hml hown hts hnm hN hA hK hP hD hS hl hret
  have hl : lv_has ls 5 [(0, .ref h0), (1, .int (nI a)), (2, .int (nI b)), (3, .int (nI n))] := hl
  have loop : ∀ (t i a1 b1 : Nat) (f1 : Nat → Int32) (H : Heap) (locs : List Loc) (ls : Array Slot), n < i + t → i ≤ n → b1 + (n - i) ≤ n0 → a1 + (n - i) ≤ n0 → sg_sh f1 → sg_swn f1 a1 b1 (n - i) = sg_swn f a b n → va_P G cl (s_w1 h0 d0 n0 f1) H → va_D A (s_w1 h0 d0 n0 f1) → va_S A s.heap H locs → lv_has ls 5 [(0, .ref h0), (1, .int (nI a1)), (2, .int (nI b1)), (3, .int (nI n)), (4, .int (nI i))] → W p l e (s_rk 1 0 0) s m args below meth c H locs 0 0 Q (F0 m 3 ls []) := by
    intro t
    induction t with
    | zero => intro i a1 b1 f1 H locs ls h1 h2; omega
    | succ t ih =>
      intro i a1 b1 f1 H locs ls h1 hin hb1 ha1 hf1 hF hP hD hS hl
      refine lv_iload hx hb dX2_swap_2_3 (lv_at hl 4 rfl) ?_
      refine lv_iload_n hx hb dX2_swap_2_5 rfl (lv_at hl 3 rfl) ?_
      refine s_nge (tgt := 27) hx hb dX2_swap_2_6 (by decide) (by omega) (by omega) (fun c1 => ?_) (fun c1 => ?_)
      · have hk : n - i = 0 := by omega
        rw [hk] at hF
        exact hret f1 _ _ _ _ hF hP hD hS dX2_swap_2_27
      · refine lv_aload_n hx hb dX2_swap_2_9 rfl (lv_at hl 0 rfl) ?_
        refine lv_iload_n hx hb dX2_swap_2_10 rfl (lv_at hl 1 rfl) ?_
        refine lv_iload_n hx hb dX2_swap_2_11 rfl (lv_at hl 2 rfl) ?_
        refine s_cSv (wr := []) (ws' := fun g => s_w1 h0 d0 n0 g) hx hb hml hl.1 hown hts hN hA hK hP hD hS (m_swap hn0 hf1 (i := a1) (j := b1) (by omega) (by omega)) (lw_S q57 q58 q6 q59) 3 nm_swap rfl (s_rmk (by omega) (by decide) (by omega) (by omega)) (by decide) [0] [] [0] [0] rfl rfl rfl (fun _ => rfl) rfl dX2_swap_2_12 rfl (fun g H locs eg hP hD hS => ?_)
        refine lv_iinc (v := (nI (i + 1))) (lv' := [(4, .int (nI (i + 1))), (0, .ref h0), (1, .int (nI a1)), (2, .int (nI b1)), (3, .int (nI n))]) hx hb dX2_swap_2_15 hl (k := 4) rfl (s_inc (by omega)) (by decide) rfl (fun ls hl => ?_)
        refine lv_iinc (v := (nI (a1 + 1))) (lv' := [(1, .int (nI (a1 + 1))), (4, .int (nI (i + 1))), (0, .ref h0), (2, .int (nI b1)), (3, .int (nI n))]) hx hb dX2_swap_2_18 hl (k := 2) rfl (s_inc (by omega)) (by decide) rfl (fun ls hl => ?_)
        refine lv_iinc (v := (nI (b1 + 1))) (lv' := [(2, .int (nI (b1 + 1))), (1, .int (nI (a1 + 1))), (4, .int (nI (i + 1))), (0, .ref h0), (3, .int (nI n))]) hx hb dX2_swap_2_21 hl (k := 3) rfl (s_inc (by omega)) (by decide) rfl (fun ls hl => ?_)
        refine lv_goto (tgt := 3) hx hb dX2_swap_2_24 (by decide) ?_
        have e5 : n - i = (n - (i + 1)) + 1 := by omega
        rw [e5] at hF
        exact ih (i + 1) (a1 + 1) (b1 + 1) g H locs ls (by omega) (by omega) (by omega) (by omega) (by rw [eg]; exact (sg_sw_pm (a := 0) (b := 48) f1 (by omega) (by omega) (by omega) (by omega)).sh hf1) (by rw [eg]; exact hF) hP hD hS (lv_sub hl [3, 1, 0, 4, 2] rfl)
  refine lv_iconst (v := nI 0) hx hb dX2_swap_2_0 (by decide) ?_
  refine lv_istore (lv' := [(4, .int (nI 0)), (0, .ref h0), (1, .int (nI a)), (2, .int (nI b)), (3, .int (nI n))]) hx hb dX2_swap_2_1 hl (by decide) rfl (fun ls hl => ?_)
  exact loop (n + 1) 0 a b f s.heap [] ls (by omega) (by omega) hab (by omega) hf rfl hP hD hS (lv_sub hl [1, 2, 3, 4, 0] rfl)
set_option maxHeartbeats 4000000 in
set_option maxRecDepth 100000 in
/-- med3: one of the three places -/
theorem m_med3 {l : Launch} {G : va_G} {cl : List vw_C} {h0 : Nat} {d0 : ClassId} {n0 : Nat} {f : Nat → Int32} (hn0 : n0 ≤ 48) (hf : sg_sh f) {a b cc : Nat} (ha : a < n0) (hbb : b < n0) (hcc : cc < n0) : s_Mi l yX2_med3 cX2_med3 7 (s_rk 1 0 0) G cl [.ref h0, .int (nI a), .int (nI b), .int (nI cc)] (s_w1 h0 d0 n0 f) [(d0, .short)] (fun r => r = nI a ∨ r = nI b ∨ r = nI cc) := by
  refine s_ofi (by decide) (Nat.le_of_ble_eq_true rfl) ?_
  intro p e s m args below meth c Q ls hx hb hml hown hts hK hP hl hret
  have hl : lv_has ls 7 [(0, .ref h0), (1, .int (nI a)), (2, .int (nI b)), (3, .int (nI cc))] := hl
  refine lv_aload_n hx hb dX2_med3_0 rfl (lv_at hl 0 rfl) ?_
  refine lv_iload_n hx hb dX2_med3_1 rfl (lv_at hl 1 rfl) ?_
  refine s_ld hx hb hK hP 0 0 rfl rfl hn0 (by omega) dX2_med3_2 ?_
  refine lv_aload_n hx hb dX2_med3_3 rfl (lv_at hl 0 rfl) ?_
  refine lv_iload_n hx hb dX2_med3_4 rfl (lv_at hl 2 rfl) ?_
  refine s_ld hx hb hK hP 0 0 rfl rfl hn0 (by omega) dX2_med3_5 ?_
  refine s_cSi hx hb hml hl.1 hown hts hK hP (m_compare (hf a) (hf b)) (lw_S q54 q55 q7 q56) 2 nm_compare rfl (s_rmk (by omega) (by decide) (by omega) (by omega)) (by decide) [] [] rfl rfl dX2_med3_6 rfl (fun r1 r1e => ?_)
  refine lv_istore (lv' := [(4, .int r1), (0, .ref h0), (1, .int (nI a)), (2, .int (nI b)), (3, .int (nI cc))]) hx hb dX2_med3_9 hl (by decide) rfl (fun ls hl => ?_)
  refine lv_aload_n hx hb dX2_med3_11 rfl (lv_at hl 1 rfl) ?_
  refine lv_iload_n hx hb dX2_med3_12 rfl (lv_at hl 2 rfl) ?_
  refine s_ld hx hb hK hP 0 0 rfl rfl hn0 (by omega) dX2_med3_13 ?_
  refine lv_aload_n hx hb dX2_med3_14 rfl (lv_at hl 1 rfl) ?_
  refine lv_iload_n hx hb dX2_med3_15 rfl (lv_at hl 4 rfl) ?_
  refine s_ld hx hb hK hP 0 0 rfl rfl hn0 (by omega) dX2_med3_16 ?_
  refine s_cSi hx hb hml hl.1 hown hts hK hP (m_compare (hf a) (hf cc)) (lw_S q54 q55 q7 q56) 2 nm_compare rfl (s_rmk (by omega) (by decide) (by omega) (by omega)) (by decide) [] [] rfl rfl dX2_med3_17 rfl (fun r2 r2e => ?_)
  refine lv_istore (lv' := [(5, .int r2), (4, .int r1), (0, .ref h0), (1, .int (nI a)), (2, .int (nI b)), (3, .int (nI cc))]) hx hb dX2_med3_20 hl (by decide) rfl (fun ls hl => ?_)
  refine lv_aload_n hx hb dX2_med3_22 rfl (lv_at hl 2 rfl) ?_
  refine lv_iload_n hx hb dX2_med3_23 rfl (lv_at hl 4 rfl) ?_
  refine s_ld hx hb hK hP 0 0 rfl rfl hn0 (by omega) dX2_med3_24 ?_
  refine lv_aload_n hx hb dX2_med3_25 rfl (lv_at hl 2 rfl) ?_
  refine lv_iload_n hx hb dX2_med3_26 rfl (lv_at hl 5 rfl) ?_
  refine s_ld hx hb hK hP 0 0 rfl rfl hn0 (by omega) dX2_med3_27 ?_
  refine s_cSi hx hb hml hl.1 hown hts hK hP (m_compare (hf b) (hf cc)) (lw_S q54 q55 q7 q56) 2 nm_compare rfl (s_rmk (by omega) (by decide) (by omega) (by omega)) (by decide) [] [] rfl rfl dX2_med3_28 rfl (fun r3 r3e => ?_)
  refine lv_istore (lv' := [(6, .int r3), (5, .int r2), (4, .int r1), (0, .ref h0), (1, .int (nI a)), (2, .int (nI b)), (3, .int (nI cc))]) hx hb dX2_med3_31 hl (by decide) rfl (fun ls hl => ?_)
  refine lv_iload hx hb dX2_med3_33 (lv_at hl 2 rfl) ?_
  refine s_zge (tgt := 60) hx hb dX2_med3_35 (by decide) (fun c1 => ?_) (fun c1 => ?_)
  · refine lv_iload hx hb dX2_med3_60 (lv_at hl 0 rfl) ?_
    refine s_zle (tgt := 69) hx hb dX2_med3_62 (by decide) (fun c2 => ?_) (fun c2 => ?_)
    · refine lv_iload hx hb dX2_med3_69 (lv_at hl 1 rfl) ?_
      refine s_zle (tgt := 78) hx hb dX2_med3_71 (by decide) (fun c3 => ?_) (fun c3 => ?_)
      · refine lv_iload_n hx hb dX2_med3_78 rfl (lv_at hl 4 rfl) ?_
        exact hret _ _ _ (Or.inl rfl) dX2_med3_79
      · refine lv_iload_n hx hb dX2_med3_74 rfl (lv_at hl 6 rfl) ?_
        refine lv_goto (tgt := 79) hx hb dX2_med3_75 (by decide) ?_
        exact hret _ _ _ (Or.inr (Or.inr rfl)) dX2_med3_79
    · refine lv_iload_n hx hb dX2_med3_65 rfl (lv_at hl 5 rfl) ?_
      refine lv_goto (tgt := 79) hx hb dX2_med3_66 (by decide) ?_
      exact hret _ _ _ (Or.inr (Or.inl rfl)) dX2_med3_79
  · refine lv_iload hx hb dX2_med3_38 (lv_at hl 0 rfl) ?_
    refine s_zge (tgt := 47) hx hb dX2_med3_40 (by decide) (fun c2 => ?_) (fun c2 => ?_)
    · refine lv_iload hx hb dX2_med3_47 (lv_at hl 1 rfl) ?_
      refine s_zge (tgt := 56) hx hb dX2_med3_49 (by decide) (fun c3 => ?_) (fun c3 => ?_)
      · refine lv_iload_n hx hb dX2_med3_56 rfl (lv_at hl 4 rfl) ?_
        refine lv_goto (tgt := 79) hx hb dX2_med3_57 (by decide) ?_
        exact hret _ _ _ (Or.inl rfl) dX2_med3_79
      · refine lv_iload_n hx hb dX2_med3_52 rfl (lv_at hl 6 rfl) ?_
        refine lv_goto (tgt := 79) hx hb dX2_med3_53 (by decide) ?_
        exact hret _ _ _ (Or.inr (Or.inr rfl)) dX2_med3_79
    · refine lv_iload_n hx hb dX2_med3_43 rfl (lv_at hl 5 rfl) ?_
      refine lv_goto (tgt := 79) hx hb dX2_med3_44 (by decide) ?_
      exact hret _ _ _ (Or.inr (Or.inl rfl)) dX2_med3_79
/-- up to i the least ones stand in order -/
def sg_sel (a b i : Nat) (f : Nat → Int32) : Prop := ∀ u v, a ≤ u → u < i → u ≤ v → v < b → (f u).toInt ≤ (f v).toInt
theorem sg_mn_0 {f : Nat → Int32} {i : Nat} : ∀ v, i ≤ v → v < i + 1 → (f i).toInt ≤ (f v).toInt := by
  intro v h1 h2
  have : v = i := by omega
  rw [this]; exact Int.le_refl _
theorem sg_mn_k {f : Nat → Int32} {i m j : Nat} (hm : ∀ v, i ≤ v → v < j → (f m).toInt ≤ (f v).toInt) (c : (f m).toInt ≤ (f j).toInt) : ∀ v, i ≤ v → v < j + 1 → (f m).toInt ≤ (f v).toInt := by
  intro v h1 h2
  by_cases hv : v = j
  · rw [hv]; exact c
  · exact hm v h1 (by omega)
theorem sg_mn_l {f : Nat → Int32} {i m j : Nat} (hm : ∀ v, i ≤ v → v < j → (f m).toInt ≤ (f v).toInt) (c : (f j).toInt < (f m).toInt) : ∀ v, i ≤ v → v < j + 1 → (f j).toInt ≤ (f v).toInt := by
  intro v h1 h2
  by_cases hv : v = j
  · rw [hv]; exact Int.le_refl _
  · have := hm v h1 (by omega)
    omega
theorem sg_sel_0 {a b : Nat} {f : Nat → Int32} : sg_sel a b a f := fun u v h1 h2 => by omega
theorem sg_sel_so {a b i : Nat} {f : Nat → Int32} (h : sg_sel a b i f) (hi : b ≤ i + 1) : sg_so a b f := by
  intro u v h1 h2 h3
  by_cases hu : u < i
  · exact h u v h1 hu h2 h3
  · have : u = v := by omega
    rw [this]; exact Int.le_refl _
theorem sg_sel_n {a b i : Nat} {f : Nat → Int32} (h : sg_sel a b i f) (hm : ∀ v, i ≤ v → v < b → (f i).toInt ≤ (f v).toInt) : sg_sel a b (i + 1) f := by
  intro u v h1 h2 h3 h4
  by_cases hu : u < i
  · exact h u v h1 hu h3 h4
  · have : u = i := by omega
    rw [this]; exact hm v (by omega) h4
theorem sg_sel_s {a b i m : Nat} {f : Nat → Int32} (h : sg_sel a b i f) (hi : a ≤ i) (him : i ≤ m) (hmb : m < b) (hm : ∀ v, i ≤ v → v < b → (f m).toInt ≤ (f v).toInt) : sg_sel a b (i + 1) (sg_sw f i m) := by
  intro u v h1 h2 h3 h4
  rw [sg_sw_v, sg_sw_v]
  by_cases hu : u < i
  · rw [if_neg (by omega), if_neg (by omega)]
    by_cases k1 : v = m
    · rw [if_pos k1]; exact h u i h1 hu (by omega) (by omega)
    · rw [if_neg k1]
      by_cases k2 : v = i
      · rw [if_pos k2]; exact h u m h1 hu (by omega) hmb
      · rw [if_neg k2]; exact h u v h1 hu h3 h4
  · have hui : u = i := by omega
    subst hui
    by_cases k0 : u = m
    · subst k0
      by_cases k1 : v = u
      · rw [if_pos rfl, if_pos k1]; exact Int.le_refl _
      · rw [if_pos rfl, if_neg k1, if_neg k1]; exact hm v (by omega) h4
    · rw [if_neg k0, if_pos rfl]
      by_cases k1 : v = m
      · rw [if_pos k1]; exact hm u (by omega) (by omega)
      · rw [if_neg k1]
        by_cases k2 : v = u
        · rw [if_pos k2]; exact Int.le_refl _
        · rw [if_neg k2]; exact hm v (by omega) h4
set_option maxHeartbeats 4000000 in
set_option maxRecDepth 100000 in
/-- selectionSort(x, a, b) -/
theorem m_selectionSort {l : Launch} {G : va_G} {cl : List vw_C} {h0 : Nat} {d0 : ClassId} {n0 : Nat} {f : Nat → Int32} (hn0 : n0 ≤ 48) (hf : sg_sh f) {a b : Nat} (hab : a ≤ b) (hbn : b ≤ n0) : s_Mv l yX2_selectionSort cX2_selectionSort 6 (s_rk 0 0 0) G cl [.ref h0, .int (nI a), .int (nI b)] (s_w1 h0 d0 n0 f) [(d0, .short)] (fun g => sg_pm a b f g ∧ sg_so a b g) (fun g => s_w1 h0 d0 n0 g) 0 0 := by
  refine s_ofv (by decide) (Nat.le_of_ble_eq_true rfl) ?_
  intro p e s m args below meth c Q A ls hx hb hml hown hts hnm hN hA hK hP hD hS hl hret
  have hl : lv_has ls 6 [(0, .ref h0), (1, .int (nI a)), (2, .int (nI b))] := hl
  have inner : ∀ (t i j mm : Nat) (f1 : Nat → Int32) (H : Heap) (locs : List Loc) (ls : Array Slot), b < j + t → a ≤ i → i ≤ mm → mm < j → j ≤ b → sg_sh f1 → sg_pm a b f f1 → sg_sel a b i f1 → (∀ v, i ≤ v → v < j → (f1 mm).toInt ≤ (f1 v).toInt) → va_P G cl (s_w1 h0 d0 n0 f1) H → va_D A (s_w1 h0 d0 n0 f1) → va_S A s.heap H locs → lv_has ls 6 [(0, .ref h0), (1, .int (nI a)), (2, .int (nI b)), (3, .int (nI i)), (4, .int (nI mm)), (5, .int (nI j))] →
      (∀ (i2 : Nat) (f2 : Nat → Int32) (H : Heap) (locs : List Loc) (ls : Array Slot), i2 = i + 1 → sg_sh f2 → sg_pm a b f f2 → sg_sel a b i2 f2 → va_P G cl (s_w1 h0 d0 n0 f2) H → va_D A (s_w1 h0 d0 n0 f2) → va_S A s.heap H locs → lv_has ls 6 [(0, .ref h0), (1, .int (nI a)), (2, .int (nI b)), (3, .int (nI i2))] → W p l e (s_rk 0 0 0) s m args below meth c H locs 0 0 Q (F0 m 2 ls [])) → W p l e (s_rk 0 0 0) s m args below meth c H locs 0 0 Q (F0 m 17 ls []) := by
    intro t
    induction t with
    | zero => intro i j mm f1 H locs ls h1 h2 h3 h4 h5; omega
    | succ t ih =>
      intro i j mm f1 H locs ls h1 hai him hmj hjb hf1 hpm hsel hm hP hD hS hl kk
      refine lv_iload hx hb dX2_selectionSort_17 (lv_at hl 5 rfl) ?_
      refine lv_iload_n hx hb dX2_selectionSort_19 rfl (lv_at hl 2 rfl) ?_
      refine s_nge (tgt := 44) hx hb dX2_selectionSort_20 (by decide) (by omega) (by omega) (fun c1 => ?_) (fun c1 => ?_)
      · have hmin : ∀ v, i ≤ v → v < b → (f1 mm).toInt ≤ (f1 v).toInt := fun v h3 h4 => hm v h3 (by omega)
        refine lv_iload hx hb dX2_selectionSort_44 (lv_at hl 4 rfl) ?_
        refine lv_iload_n hx hb dX2_selectionSort_46 rfl (lv_at hl 3 rfl) ?_
        refine s_neq (tgt := 68) hx hb dX2_selectionSort_47 (by decide) (by omega) (by omega) (fun c2 => ?_) (fun c2 => ?_)
        · subst c2
          refine lv_iinc (v := (nI (mm + 1))) (lv' := [(3, .int (nI (mm + 1))), (0, .ref h0), (1, .int (nI a)), (2, .int (nI b)), (4, .int (nI mm)), (5, .int (nI j))]) hx hb dX2_selectionSort_68 hl (k := 3) rfl (s_inc (by omega)) (by decide) rfl (fun ls hl => ?_)
          refine lv_goto (tgt := 2) hx hb dX2_selectionSort_71 (by decide) ?_
          exact kk (mm + 1) f1 H locs ls (by omega) hf1 hpm (sg_sel_n hsel hmin) hP hD hS (lv_sub hl [1, 2, 3, 0] rfl)
        · refine lv_aload_n hx hb dX2_selectionSort_50 rfl (lv_at hl 0 rfl) ?_
          refine lv_iload_n hx hb dX2_selectionSort_51 rfl (lv_at hl 3 rfl) ?_
          refine s_ld hx hb hK hP 0 0 rfl rfl hn0 (by omega) dX2_selectionSort_52 ?_
          refine lv_istore (lv' := [(5, .int (f1 i)), (0, .ref h0), (1, .int (nI a)), (2, .int (nI b)), (3, .int (nI i)), (4, .int (nI mm))]) hx hb dX2_selectionSort_53 hl (by decide) rfl (fun ls hl => ?_)
          refine lv_aload_n hx hb dX2_selectionSort_55 rfl (lv_at hl 1 rfl) ?_
          refine lv_iload_n hx hb dX2_selectionSort_56 rfl (lv_at hl 4 rfl) ?_
          refine lv_aload_n hx hb dX2_selectionSort_57 rfl (lv_at hl 1 rfl) ?_
          refine lv_iload hx hb dX2_selectionSort_58 (lv_at hl 5 rfl) ?_
          refine s_ld hx hb hK hP 0 0 rfl rfl hn0 (by omega) dX2_selectionSort_60 ?_
          refine s_st (ws' := fun f2 => s_w1 h0 d0 n0 f2) hx hb hK hP hD hS 0 0 rfl (fun _ => rfl) rfl hn0 (by omega) (hf1 _) dX2_selectionSort_61 (fun f2 H locs e2 hP hD hS => ?_)
          refine lv_aload_n hx hb dX2_selectionSort_62 rfl (lv_at hl 1 rfl) ?_
          refine lv_iload hx hb dX2_selectionSort_63 (lv_at hl 5 rfl) ?_
          refine lv_iload hx hb dX2_selectionSort_65 (lv_at hl 0 rfl) ?_
          refine s_st (ws' := fun f3 => s_w1 h0 d0 n0 f3) hx hb hK hP hD hS 0 0 rfl (fun _ => rfl) rfl hn0 (by omega) (hf1 _) dX2_selectionSort_67 (fun f3 H locs e3 hP hD hS => ?_)
          have e4 : f3 = sg_sw f1 i mm := by rw [e3, e2]; rfl
          have hp4 : sg_pm a b f1 f3 := by rw [e4]; exact sg_sw_pm f1 (by omega) (by omega) (by omega) (by omega)
          refine lv_iinc (v := (nI (i + 1))) (lv' := [(3, .int (nI (i + 1))), (5, .int (f1 i)), (0, .ref h0), (1, .int (nI a)), (2, .int (nI b)), (4, .int (nI mm))]) hx hb dX2_selectionSort_68 hl (k := 4) rfl (s_inc (by omega)) (by decide) rfl (fun ls hl => ?_)
          refine lv_goto (tgt := 2) hx hb dX2_selectionSort_71 (by decide) ?_
          exact kk (i + 1) f3 H locs ls (by omega) (hp4.sh hf1) (hpm.tr hp4) (by rw [e4]; exact sg_sel_s hsel (by omega) (by omega) (by omega) hmin) hP hD hS (lv_sub hl [2, 3, 4, 0] rfl)
      · refine lv_aload_n hx hb dX2_selectionSort_23 rfl (lv_at hl 0 rfl) ?_
        refine lv_iload hx hb dX2_selectionSort_24 (lv_at hl 5 rfl) ?_
        refine s_ld hx hb hK hP 0 0 rfl rfl hn0 (by omega) dX2_selectionSort_26 ?_
        refine lv_aload_n hx hb dX2_selectionSort_27 rfl (lv_at hl 0 rfl) ?_
        refine lv_iload hx hb dX2_selectionSort_28 (lv_at hl 4 rfl) ?_
        refine s_ld hx hb hK hP 0 0 rfl rfl hn0 (by omega) dX2_selectionSort_30 ?_
        refine s_vge (tgt := 38) hx hb dX2_selectionSort_31 (by decide) (fun c2 => ?_) (fun c2 => ?_)
        · refine lv_iinc (v := (nI (j + 1))) (lv' := [(5, .int (nI (j + 1))), (0, .ref h0), (1, .int (nI a)), (2, .int (nI b)), (3, .int (nI i)), (4, .int (nI mm))]) hx hb dX2_selectionSort_38 hl (k := 5) rfl (s_inc (by omega)) (by decide) rfl (fun ls hl => ?_)
          refine lv_goto (tgt := 17) hx hb dX2_selectionSort_41 (by decide) ?_
          exact ih i (j + 1) mm f1 H locs ls (by omega) (by omega) (by omega) (by omega) (by omega) hf1 hpm hsel (sg_mn_k hm c2) hP hD hS (lv_sub hl [1, 2, 3, 4, 5, 0] rfl) kk
        · refine lv_iload hx hb dX2_selectionSort_34 (lv_at hl 5 rfl) ?_
          refine lv_istore (lv' := [(4, .int (nI j)), (0, .ref h0), (1, .int (nI a)), (2, .int (nI b)), (3, .int (nI i)), (5, .int (nI j))]) hx hb dX2_selectionSort_36 hl (by decide) rfl (fun ls hl => ?_)
          refine lv_iinc (v := (nI (j + 1))) (lv' := [(5, .int (nI (j + 1))), (4, .int (nI j)), (0, .ref h0), (1, .int (nI a)), (2, .int (nI b)), (3, .int (nI i))]) hx hb dX2_selectionSort_38 hl (k := 5) rfl (s_inc (by omega)) (by decide) rfl (fun ls hl => ?_)
          refine lv_goto (tgt := 17) hx hb dX2_selectionSort_41 (by decide) ?_
          exact ih i (j + 1) j f1 H locs ls (by omega) (by omega) (by omega) (by omega) (by omega) hf1 hpm hsel (sg_mn_l hm c2) hP hD hS (lv_sub hl [2, 3, 4, 5, 1, 0] rfl) kk
  have loop : ∀ (t i : Nat) (f1 : Nat → Int32) (H : Heap) (locs : List Loc) (ls : Array Slot), b < i + t → a ≤ i → i ≤ b → sg_sh f1 → sg_pm a b f f1 → sg_sel a b i f1 → va_P G cl (s_w1 h0 d0 n0 f1) H → va_D A (s_w1 h0 d0 n0 f1) → va_S A s.heap H locs → lv_has ls 6 [(0, .ref h0), (1, .int (nI a)), (2, .int (nI b)), (3, .int (nI i))] → W p l e (s_rk 0 0 0) s m args below meth c H locs 0 0 Q (F0 m 2 ls []) := by
    intro t
    induction t with
    | zero => intro i f1 H locs ls h1 hai hib; omega
    | succ t ih =>
      intro i f1 H locs ls h1 hai hib hf1 hpm hsel hP hD hS hl
      refine lv_iload_n hx hb dX2_selectionSort_2 rfl (lv_at hl 3 rfl) ?_
      refine lv_iload_n hx hb dX2_selectionSort_3 rfl (lv_at hl 2 rfl) ?_
      refine lv_iconst (v := nI 1) hx hb dX2_selectionSort_4 (by decide) ?_
      refine s_isub (z := nI b + (-1)) hx hb dX2_selectionSort_5 (s_m1 _) ?_
      refine s_vge (tgt := 74) hx hb dX2_selectionSort_6 (by decide) (fun c1 => ?_) (fun c1 => ?_)
      · rw [nI_toInt (by omega), s_mi_toInt (by omega)] at c1
        exact hret f1 _ _ _ _ ⟨hpm, sg_sel_so hsel (by omega)⟩ hP hD hS dX2_selectionSort_74
      · rw [nI_toInt (by omega), s_mi_toInt (by omega)] at c1
        refine lv_iload_n hx hb dX2_selectionSort_9 rfl (lv_at hl 3 rfl) ?_
        refine lv_istore (lv' := [(4, .int (nI i)), (0, .ref h0), (1, .int (nI a)), (2, .int (nI b)), (3, .int (nI i))]) hx hb dX2_selectionSort_10 hl (by decide) rfl (fun ls hl => ?_)
        refine lv_iload_n hx hb dX2_selectionSort_12 rfl (lv_at hl 4 rfl) ?_
        refine lv_iconst (v := nI 1) hx hb dX2_selectionSort_13 (by decide) ?_
        refine s_addn (z := i + 1) hx hb dX2_selectionSort_14 (by omega) ?_
        refine lv_istore (lv' := [(5, .int (nI (i + 1))), (4, .int (nI i)), (0, .ref h0), (1, .int (nI a)), (2, .int (nI b)), (3, .int (nI i))]) hx hb dX2_selectionSort_15 hl (by decide) rfl (fun ls hl => ?_)
        refine inner (b - i) i (i + 1) i f1 H locs ls (by omega) (by omega) (by omega) (by omega) (by omega) hf1 hpm hsel sg_mn_0 hP hD hS (lv_sub hl [2, 3, 4, 5, 1, 0] rfl) (fun i2 f2 H locs ls hi2 hf2 hpm hsel hP hD hS hl => ?_)
        exact ih i2 f2 H locs ls (by omega) (by omega) (by omega) hf2 hpm hsel hP hD hS hl
  refine lv_iload_n hx hb dX2_selectionSort_0 rfl (lv_at hl 1 rfl) ?_
  refine lv_istore_n (lv' := [(3, .int (nI a)), (0, .ref h0), (1, .int (nI a)), (2, .int (nI b))]) hx hb dX2_selectionSort_1 rfl hl (by decide) rfl (fun ls hl => ?_)
  exact loop (b + 1) a f s.heap [] ls (by omega) (by omega) hab hf sg_pm.rf sg_sel_0 hP hD hS (lv_sub hl [1, 2, 3, 0] rfl)
/-- insertion under way: place j is free for t; the rest of a .. i stands in order, what is behind j is not less than t -/
def sg_ins (a i j : Nat) (t : Int32) (f : Nat → Int32) : Prop := (∀ u v, a ≤ u → u ≤ v → v ≤ i → u ≠ j → v ≠ j → (f u).toInt ≤ (f v).toInt) ∧ ∀ v, j < v → v ≤ i → t.toInt ≤ (f v).toInt
theorem sg_ins_0 {a i : Nat} {f : Nat → Int32} (h : sg_so a i f) : sg_ins a i i (f i) f := ⟨fun u v h1 h2 h3 h4 h5 => h u v h1 h2 (by omega), fun v h1 h2 => by omega⟩
theorem sg_ins_s {a i j : Nat} {t : Int32} {f : Nat → Int32} (h : sg_ins a i j t f) (hj : a < j) (hi : j ≤ i) (c : t.toInt < (f (j - 1)).toInt) : sg_ins a i (j - 1) t (upd f j (f (j - 1))) := by
  refine ⟨fun u v h1 h2 h3 h4 h5 => ?_, fun v h1 h2 => ?_⟩
  · by_cases k1 : v = j
    · rw [k1, pk_us]
      by_cases k2 : u = j
      · rw [k2, pk_us]; exact Int.le_refl _
      · rw [pk_un k2]; exact h.1 u (j - 1) h1 (by omega) (by omega) k2 (by omega)
    · rw [pk_un k1]
      by_cases k2 : u = j
      · rw [k2, pk_us]; exact h.1 (j - 1) v (by omega) (by omega) h3 (by omega) k1
      · rw [pk_un k2]; exact h.1 u v h1 h2 h3 k2 k1
  · by_cases k1 : v = j
    · rw [k1, pk_us]; omega
    · rw [pk_un k1]; exact h.2 v (by omega) h2
theorem sg_ins_e {a i j : Nat} {t : Int32} {f : Nat → Int32} (h : sg_ins a i j t f) (hj : a ≤ j) (hi : j ≤ i) (c : j = a ∨ (f (j - 1)).toInt ≤ t.toInt) : sg_so a (i + 1) (upd f j t) := by
  intro u v h1 h2 h3
  by_cases k1 : v = j
  · rw [k1, pk_us]
    by_cases k2 : u = j
    · rw [k2, pk_us]; exact Int.le_refl _
    · rw [pk_un k2]
      have := h.1 u (j - 1) h1 (by omega) (by omega) k2 (by omega)
      omega
  · rw [pk_un k1]
    by_cases k2 : u = j
    · rw [k2, pk_us]; exact h.2 v (by omega) (by omega)
    · rw [pk_un k2]; exact h.1 u v h1 h2 (by omega) k2 k1
theorem sg_upd_self (f : Nat → Int32) (i : Nat) : upd f i (f i) = f := by
  funext k
  by_cases h : k = i
  · rw [h, pk_us]
  · rw [pk_un h]
theorem sg_ins_p {a b j : Nat} {t : Int32} {f : Nat → Int32} (h1 : a < j) (h2 : j < b) : sg_pm a b (upd f j t) (upd (upd f j (f (j - 1))) (j - 1) t) := by
  have e : upd (upd f j (f (j - 1))) (j - 1) t = sg_sw (upd f j t) (j - 1) j := by
    funext k
    rw [sg_sw_v]
    by_cases k1 : k = j
    · rw [if_pos k1, k1, pk_un (by omega), pk_us, pk_un (by omega)]
    · rw [if_neg k1]
      by_cases k2 : k = j - 1
      · rw [if_pos k2, k2, pk_us, pk_us]
      · rw [if_neg k2, pk_un k2, pk_un k1, pk_un k1]
  rw [e]
  exact sg_sw_pm _ (by omega) (by omega) (by omega) (by omega)
set_option maxHeartbeats 4000000 in
set_option maxRecDepth 100000 in
/-- insertionSort(x, a, b) -/
theorem m_insertionSort {l : Launch} {G : va_G} {cl : List vw_C} {h0 : Nat} {d0 : ClassId} {n0 : Nat} {f : Nat → Int32} (hn0 : n0 ≤ 48) (hf : sg_sh f) {a b : Nat} (hab : a ≤ b) (hbn : b ≤ n0) : s_Mv l yX2_insertionSort cX2_insertionSort 7 (s_rk 0 0 0) G cl [.ref h0, .int (nI a), .int (nI b)] (s_w1 h0 d0 n0 f) [(d0, .short)] (fun g => sg_pm a b f g ∧ sg_so a b g) (fun g => s_w1 h0 d0 n0 g) 0 0 := by
  refine s_ofv (by decide) (Nat.le_of_ble_eq_true rfl) ?_
  intro p e s m args below meth c Q A ls hx hb hml hown hts hnm hN hA hK hP hD hS hl hret
  have hl : lv_has ls 7 [(0, .ref h0), (1, .int (nI a)), (2, .int (nI b))] := hl
  have inner : ∀ (t i j : Nat) (x : Int32) (f1 : Nat → Int32) (H : Heap) (locs : List Loc) (ls : Array Slot), j < t → a < j → j ≤ i → i < b → vp_nar .short x = x → sg_sh f1 → sg_pm a b f (upd f1 j x) → sg_ins a i j x f1 → va_P G cl (s_w1 h0 d0 n0 f1) H → va_D A (s_w1 h0 d0 n0 f1) → va_S A s.heap H locs → lv_has ls 7 [(0, .ref h0), (1, .int (nI a)), (2, .int (nI b)), (3, .int (nI i)), (4, .int x), (5, .int (nI j)), (6, .int (f1 (j - 1)))] →
      (∀ (j2 : Nat) (f2 : Nat → Int32) (H : Heap) (locs : List Loc) (ls : Array Slot), a ≤ j2 → j2 ≤ i → sg_sh f2 → sg_pm a b f (upd f2 j2 x) → sg_ins a i j2 x f2 → (j2 = a ∨ (f2 (j2 - 1)).toInt ≤ x.toInt) → va_P G cl (s_w1 h0 d0 n0 f2) H → va_D A (s_w1 h0 d0 n0 f2) → va_S A s.heap H locs → lv_has ls 7 [(0, .ref h0), (1, .int (nI a)), (2, .int (nI b)), (3, .int (nI i)), (4, .int x), (5, .int (nI j2))] → W p l e (s_rk 0 0 0) s m args below meth c H locs 0 0 Q (F0 m 67 ls [])) → W p l e (s_rk 0 0 0) s m args below meth c H locs 0 0 Q (F0 m 26 ls []) := by
    intro t
    induction t with
    | zero => intro i j x f1 H locs ls h1; omega
    | succ t ih =>
      intro i j x f1 H locs ls h1 haj hji hib hx0 hf1 hpm hins hP hD hS hl kk
      refine lv_iload hx hb dX2_insertionSort_26 (lv_at hl 4 rfl) ?_
      refine lv_iload hx hb dX2_insertionSort_28 (lv_at hl 6 rfl) ?_
      refine s_vge (tgt := 67) hx hb dX2_insertionSort_30 (by decide) (fun c1 => ?_) (fun c1 => ?_)
      · exact kk j f1 H locs ls (by omega) (by omega) hf1 hpm hins (Or.inr c1) hP hD hS (lv_sub hl [0, 1, 2, 3, 4, 5] rfl)
      · refine lv_aload_n hx hb dX2_insertionSort_33 rfl (lv_at hl 0 rfl) ?_
        refine lv_iload hx hb dX2_insertionSort_34 (lv_at hl 5 rfl) ?_
        refine lv_iload hx hb dX2_insertionSort_36 (lv_at hl 6 rfl) ?_
        refine s_st (ws' := fun f2 => s_w1 h0 d0 n0 f2) hx hb hK hP hD hS 0 0 rfl (fun _ => rfl) rfl hn0 (by omega) (hf1 _) dX2_insertionSort_38 (fun f2 H locs e2 hP hD hS => ?_)
        refine lv_iload_n hx hb dX2_insertionSort_39 rfl (lv_at hl 1 rfl) ?_
        refine lv_iload hx hb dX2_insertionSort_40 (lv_at hl 5 rfl) ?_
        refine lv_iconst (v := nI 1) hx hb dX2_insertionSort_42 (by decide) ?_
        refine s_subn (z := j - 1) hx hb dX2_insertionSort_43 (by omega) ?_
        have hf2 : sg_sh f2 := by rw [e2]; exact sg_sh_upd hf1 (hf1 _)
        have hp2 : sg_pm a b f (upd f2 (j - 1) x) := by rw [e2]; exact hpm.tr (sg_ins_p (by omega) (by omega))
        have hi2 : sg_ins a i (j - 1) x f2 := by rw [e2]; exact sg_ins_s hins (by omega) (by omega) c1
        refine s_nne (tgt := 53) hx hb dX2_insertionSort_44 (by decide) (by omega) (by omega) (fun c2 => ?_) (fun c2 => ?_)
        · refine lv_aload_n hx hb dX2_insertionSort_53 rfl (lv_at hl 0 rfl) ?_
          refine lv_iinc (v := (nI (j - 1))) (lv' := [(5, .int (nI (j - 1))), (0, .ref h0), (1, .int (nI a)), (2, .int (nI b)), (3, .int (nI i)), (4, .int x), (6, .int (f1 (j - 1)))]) hx hb dX2_insertionSort_54 hl (k := 5) rfl (s_inc (by omega)) (by decide) rfl (fun ls hl => ?_)
          refine lv_iload hx hb dX2_insertionSort_57 (lv_at hl 0 rfl) ?_
          refine lv_iconst (v := nI 1) hx hb dX2_insertionSort_59 (by decide) ?_
          refine s_subn (z := j - 1 - 1) hx hb dX2_insertionSort_60 (by omega) ?_
          refine s_ld hx hb hK hP 0 0 rfl rfl hn0 (by omega) dX2_insertionSort_61 ?_
          refine lv_istore (lv' := [(6, .int (f2 (j - 1 - 1))), (5, .int (nI (j - 1))), (0, .ref h0), (1, .int (nI a)), (2, .int (nI b)), (3, .int (nI i)), (4, .int x)]) hx hb dX2_insertionSort_62 hl (by decide) rfl (fun ls hl => ?_)
          refine lv_goto (tgt := 26) hx hb dX2_insertionSort_64 (by decide) ?_
          exact ih i (j - 1) x f2 H locs ls (by omega) (by omega) (by omega) (by omega) hx0 hf2 hp2 hi2 hP hD hS (lv_sub hl [2, 3, 4, 5, 6, 1, 0] rfl) kk
        · refine lv_iinc (v := (nI (j - 1))) (lv' := [(5, .int (nI (j - 1))), (0, .ref h0), (1, .int (nI a)), (2, .int (nI b)), (3, .int (nI i)), (4, .int x), (6, .int (f1 (j - 1)))]) hx hb dX2_insertionSort_47 hl (k := 5) rfl (s_inc (by omega)) (by decide) rfl (fun ls hl => ?_)
          refine lv_goto (tgt := 67) hx hb dX2_insertionSort_50 (by decide) ?_
          exact kk (j - 1) f2 H locs ls (by omega) (by omega) hf2 hp2 hi2 (Or.inl (by omega)) hP hD hS (lv_sub hl [1, 2, 3, 4, 5, 0] rfl)
  have loop : ∀ (t i : Nat) (f1 : Nat → Int32) (H : Heap) (locs : List Loc) (ls : Array Slot), b < i + t → a ≤ i → sg_sh f1 → sg_pm a b f f1 → sg_so a (i + 1) f1 → i ≤ b → va_P G cl (s_w1 h0 d0 n0 f1) H → va_D A (s_w1 h0 d0 n0 f1) → va_S A s.heap H locs → lv_has ls 7 [(0, .ref h0), (1, .int (nI a)), (2, .int (nI b)), (3, .int (nI i))] → W p l e (s_rk 0 0 0) s m args below meth c H locs 0 0 Q (F0 m 2 ls []) := by
    intro t
    induction t with
    | zero => intro i f1 H locs ls h1 hai hf1 hpm hso hib; omega
    | succ t ih =>
      intro i f1 H locs ls h1 hai hf1 hpm hso hib hP hD hS hl
      refine lv_iinc (v := (nI (i + 1))) (lv' := [(3, .int (nI (i + 1))), (0, .ref h0), (1, .int (nI a)), (2, .int (nI b))]) hx hb dX2_insertionSort_2 hl (k := 3) rfl (s_inc (by omega)) (by decide) rfl (fun ls hl => ?_)
      refine lv_iload_n hx hb dX2_insertionSort_5 rfl (lv_at hl 0 rfl) ?_
      refine lv_iload_n hx hb dX2_insertionSort_6 rfl (lv_at hl 3 rfl) ?_
      refine s_nge (tgt := 76) hx hb dX2_insertionSort_7 (by decide) (by omega) (by omega) (fun c1 => ?_) (fun c1 => ?_)
      · exact hret f1 _ _ _ _ ⟨hpm, fun u v h3 h4 h5 => hso u v h3 h4 (by omega)⟩ hP hD hS dX2_insertionSort_76
      · refine lv_aload_n hx hb dX2_insertionSort_10 rfl (lv_at hl 1 rfl) ?_
        refine lv_iload_n hx hb dX2_insertionSort_11 rfl (lv_at hl 0 rfl) ?_
        refine s_ld hx hb hK hP 0 0 rfl rfl hn0 (by omega) dX2_insertionSort_12 ?_
        refine lv_istore (lv' := [(4, .int (f1 (i + 1))), (3, .int (nI (i + 1))), (0, .ref h0), (1, .int (nI a)), (2, .int (nI b))]) hx hb dX2_insertionSort_13 hl (by decide) rfl (fun ls hl => ?_)
        refine lv_iload_n hx hb dX2_insertionSort_15 rfl (lv_at hl 1 rfl) ?_
        refine lv_istore (lv' := [(5, .int (nI (i + 1))), (4, .int (f1 (i + 1))), (3, .int (nI (i + 1))), (0, .ref h0), (1, .int (nI a)), (2, .int (nI b))]) hx hb dX2_insertionSort_16 hl (by decide) rfl (fun ls hl => ?_)
        refine lv_aload_n hx hb dX2_insertionSort_18 rfl (lv_at hl 3 rfl) ?_
        refine lv_iload hx hb dX2_insertionSort_19 (lv_at hl 0 rfl) ?_
        refine lv_iconst (v := nI 1) hx hb dX2_insertionSort_21 (by decide) ?_
        refine s_subn (z := i + 1 - 1) hx hb dX2_insertionSort_22 (by omega) ?_
        refine s_ld hx hb hK hP 0 0 rfl rfl hn0 (by omega) dX2_insertionSort_23 ?_
        refine lv_istore (lv' := [(6, .int (f1 (i + 1 - 1))), (5, .int (nI (i + 1))), (4, .int (f1 (i + 1))), (3, .int (nI (i + 1))), (0, .ref h0), (1, .int (nI a)), (2, .int (nI b))]) hx hb dX2_insertionSort_24 hl (by decide) rfl (fun ls hl => ?_)
        refine inner (i + 2) (i + 1) (i + 1) (f1 (i + 1)) f1 H locs ls (by omega) (by omega) (by omega) (by omega) (hf1 _) hf1 (by rw [sg_upd_self]; exact hpm) (sg_ins_0 hso) hP hD hS (lv_sub hl [4, 5, 6, 3, 2, 1, 0] rfl) (fun j2 f2 H locs ls hj2 hj3 hf2 hp2 hi2 hc2 hP hD hS hl => ?_)
        refine lv_aload_n hx hb dX2_insertionSort_67 rfl (lv_at hl 0 rfl) ?_
        refine lv_iload hx hb dX2_insertionSort_68 (lv_at hl 5 rfl) ?_
        refine lv_iload hx hb dX2_insertionSort_70 (lv_at hl 4 rfl) ?_
        refine s_st (ws' := fun f3 => s_w1 h0 d0 n0 f3) hx hb hK hP hD hS 0 0 rfl (fun _ => rfl) rfl hn0 (by omega) (hf1 _) dX2_insertionSort_72 (fun f3 H locs e3 hP hD hS => ?_)
        refine lv_goto (tgt := 2) hx hb dX2_insertionSort_73 (by decide) ?_
        exact ih (i + 1) f3 H locs ls (by omega) (by omega) (by rw [e3]; exact sg_sh_upd hf2 (hf1 _)) (by rw [e3]; exact hp2) (by rw [e3]; exact sg_ins_e hi2 (by omega) (by omega) hc2) (by omega) hP hD hS (lv_sub hl [0, 1, 2, 3] rfl)
  refine lv_iload_n hx hb dX2_insertionSort_0 rfl (lv_at hl 1 rfl) ?_
  refine lv_istore_n (lv' := [(3, .int (nI a)), (0, .ref h0), (1, .int (nI a)), (2, .int (nI b))]) hx hb dX2_insertionSort_1 rfl hl (by decide) rfl (fun ls hl => ?_)
  exact loop (b + 1) a f s.heap [] ls (by omega) (by omega) hf sg_pm.rf (fun u v h1 h2 h3 => by
    have : u = v := by omega
    rw [this]; exact Int.le_refl _) hab hP hD hS (lv_sub hl [1, 2, 3, 0] rfl)
end
section
/-! THE PLAIN LAW of quickSort: the parting, the two block moves, the end -/
/-- parting under way: equal | less | not yet seen | greater | equal -/
def sg_part (fr to : Nat) (v : Int32) (a b C D : Nat) (g : Nat → Int32) : Prop := (fr ≤ a ∧ a ≤ b ∧ b ≤ C ∧ C ≤ D ∧ D ≤ to) ∧ (∀ k, fr ≤ k → k < a → g k = v) ∧ (∀ k, a ≤ k → k < b → (g k).toInt < v.toInt) ∧ (∀ k, C ≤ k → k < D → v.toInt < (g k).toInt) ∧ (∀ k, D ≤ k → k < to → g k = v)
theorem sg_part_0 {fr to : Nat} {v : Int32} {g : Nat → Int32} (h : fr ≤ to) : sg_part fr to v fr fr to to g :=
  ⟨⟨by omega, by omega, h, by omega, by omega⟩, fun k h1 h2 => by omega, fun k h1 h2 => by omega, fun k h1 h2 => by omega, fun k h1 h2 => by omega⟩
theorem sg_part_lt {fr to : Nat} {v : Int32} {a b C D : Nat} {g : Nat → Int32} (h : sg_part fr to v a b C D g) (hb : b < C) (hg : (g b).toInt < v.toInt) : sg_part fr to v a (b + 1) C D g := by
  obtain ⟨⟨i1, i2, i3, i4, i5⟩, p1, p2, p3, p4⟩ := h
  refine ⟨⟨i1, by omega, by omega, i4, i5⟩, p1, fun k h1 h2 => ?_, p3, p4⟩
  by_cases hk : k = b
  · rw [hk]; exact hg
  · exact p2 k h1 (by omega)
theorem sg_part_eq {fr to : Nat} {v : Int32} {a b C D : Nat} {g : Nat → Int32} (h : sg_part fr to v a b C D g) (hb : b < C) (hg : g b = v) : sg_part fr to v (a + 1) (b + 1) C D (sg_sw g a b) := by
  obtain ⟨⟨i1, i2, i3, i4, i5⟩, p1, p2, p3, p4⟩ := h
  refine ⟨⟨by omega, by omega, by omega, i4, i5⟩, fun k h1 h2 => ?_, fun k h1 h2 => ?_, fun k h1 h2 => ?_, fun k h1 h2 => ?_⟩
  · by_cases hk : k = a
    · rw [hk, sg_sw_i]; exact hg
    · rw [sg_sw_n _ hk (by omega)]; exact p1 k h1 (by omega)
  · by_cases hk : k = b
    · rw [hk, sg_sw_j]; exact p2 a (by omega) (by omega)
    · rw [sg_sw_n _ (by omega) hk]; exact p2 k (by omega) (by omega)
  · rw [sg_sw_n _ (by omega) (by omega)]; exact p3 k h1 h2
  · rw [sg_sw_n _ (by omega) (by omega)]; exact p4 k h1 h2
theorem sg_part_gt {fr to : Nat} {v : Int32} {a b C D : Nat} {g : Nat → Int32} (h : sg_part fr to v a b C D g) (hb : b < C) (hg : v.toInt < (g (C - 1)).toInt) : sg_part fr to v a b (C - 1) D g := by
  obtain ⟨⟨i1, i2, i3, i4, i5⟩, p1, p2, p3, p4⟩ := h
  refine ⟨⟨i1, i2, by omega, by omega, i5⟩, p1, p2, fun k h1 h2 => ?_, p4⟩
  by_cases hk : k = C - 1
  · rw [hk]; exact hg
  · exact p3 k (by omega) h2
theorem sg_part_eqR {fr to : Nat} {v : Int32} {a b C D : Nat} {g : Nat → Int32} (h : sg_part fr to v a b C D g) (hb : b < C) (hg : g (C - 1) = v) : sg_part fr to v a b (C - 1) (D - 1) (sg_sw g (C - 1) (D - 1)) := by
  obtain ⟨⟨i1, i2, i3, i4, i5⟩, p1, p2, p3, p4⟩ := h
  refine ⟨⟨i1, i2, by omega, by omega, by omega⟩, fun k h1 h2 => ?_, fun k h1 h2 => ?_, fun k h1 h2 => ?_, fun k h1 h2 => ?_⟩
  · rw [sg_sw_n _ (by omega) (by omega)]; exact p1 k h1 h2
  · rw [sg_sw_n _ (by omega) (by omega)]; exact p2 k h1 h2
  · by_cases hk : k = C - 1
    · rw [hk, sg_sw_i]; exact p3 (D - 1) (by omega) (by omega)
    · rw [sg_sw_n _ hk (by omega)]; exact p3 k (by omega) (by omega)
  · by_cases hk : k = D - 1
    · rw [hk, sg_sw_j]; exact hg
    · rw [sg_sw_n _ (by omega) hk]; exact p4 k (by omega) (by omega)
theorem sg_part_sw {fr to : Nat} {v : Int32} {a b C D : Nat} {g : Nat → Int32} (h : sg_part fr to v a b C D g) (hb : b < C) (h1 : v.toInt < (g b).toInt) (h2 : (g (C - 1)).toInt < v.toInt) : b + 1 ≤ C - 1 ∧ sg_part fr to v a (b + 1) (C - 1) D (sg_sw g b (C - 1)) := by
  obtain ⟨⟨i1, i2, i3, i4, i5⟩, p1, p2, p3, p4⟩ := h
  have hbc : b + 1 ≤ C - 1 := by
    by_cases hq : b = C - 1
    · rw [← hq] at h2; omega
    · omega
  refine ⟨hbc, ⟨i1, by omega, by omega, by omega, i5⟩, fun k h3 h4 => ?_, fun k h3 h4 => ?_, fun k h3 h4 => ?_, fun k h3 h4 => ?_⟩
  · rw [sg_sw_n _ (by omega) (by omega)]; exact p1 k h3 h4
  · by_cases hk : k = b
    · rw [hk, sg_sw_i]; exact h2
    · rw [sg_sw_n _ hk (by omega)]; exact p2 k h3 (by omega)
  · by_cases hk : k = C - 1
    · rw [hk, sg_sw_j]; exact h1
    · rw [sg_sw_n _ (by omega) hk]; exact p3 k (by omega) h4
  · rw [sg_sw_n _ (by omega) (by omega)]; exact p4 k h3 h4
/-- some place is equal: each part is shorter -/
theorem sg_part_less {fr to : Nat} {v : Int32} {a b D m : Nat} {f g : Nat → Int32} (h : sg_part fr to v a b b D g) (hp : sg_pm fr to f g) (h1 : fr ≤ m) (h2 : m < to) (hv : v = f m) : b - a + (D - b) + 1 ≤ to - fr := by
  obtain ⟨⟨i1, i2, i3, i4, i5⟩, p1, p2, p3, p4⟩ := h
  refine Classical.byContradiction fun hn => ?_
  have ha : a = fr := by omega
  have hD : D = to := by omega
  have := hp.symm.all (P := fun x => x.toInt ≠ v.toInt) (fun k h3 h4 => by
    by_cases hk : k < b
    · have := p2 k (by omega) hk; omega
    · have := p3 k (by omega) (by omega); omega) m h1 h2
  exact this (by rw [hv])
/-- the blocks of equal ones moved to the middle -/
theorem sg_part_mv {fr to : Nat} {v : Int32} {a b D s1 s2 : Nat} {g : Nat → Int32} (h : sg_part fr to v a b b D g) (e1 : s1 = min (a - fr) (b - a)) (e2 : s2 = min (D - b) (to - D)) :
    sg_pm fr to g (sg_swn (sg_swn g fr (b - s1) s1) b (to - s2) s2) ∧ (∀ k, fr ≤ k → k < fr + (b - a) → (sg_swn (sg_swn g fr (b - s1) s1) b (to - s2) s2 k).toInt < v.toInt) ∧ (∀ k, fr + (b - a) ≤ k → k < to - (D - b) → sg_swn (sg_swn g fr (b - s1) s1) b (to - s2) s2 k = v) ∧ (∀ k, to - (D - b) ≤ k → k < to → v.toInt < (sg_swn (sg_swn g fr (b - s1) s1) b (to - s2) s2 k).toInt) := by
  obtain ⟨⟨i1, i2, i3, i4, i5⟩, p1, p2, p3, p4⟩ := h
  have v1 : ∀ k, sg_swn g fr (b - s1) s1 k = _ := fun k => sg_swn_v s1 g fr (b - s1) k (by omega)
  have v2 : ∀ k, sg_swn (sg_swn g fr (b - s1) s1) b (to - s2) s2 k = _ := fun k => sg_swn_v s2 _ b (to - s2) k (by omega)
  refine ⟨(sg_swn_pm s1 g fr (b - s1) (by omega) (by omega) (by omega) (by omega)).tr (sg_swn_pm s2 _ b (to - s2) (by omega) (by omega) (by omega) (by omega)), fun k h1 h2 => ?_, fun k h1 h2 => ?_, fun k h1 h2 => ?_⟩
  · rw [v2, if_neg (by omega), if_neg (by omega), v1]
    by_cases q1 : fr ≤ k ∧ k < fr + s1
    · rw [if_pos q1]; exact p2 _ (by omega) (by omega)
    · rw [if_neg q1, if_neg (by omega)]; exact p2 _ (by omega) (by omega)
  · rw [v2]
    by_cases q1 : b ≤ k ∧ k < b + s2
    · rw [if_pos q1, v1, if_neg (by omega), if_neg (by omega)]; exact p4 _ (by omega) (by omega)
    · rw [if_neg q1]
      by_cases q2 : to - s2 ≤ k ∧ k < to - s2 + s2
      · omega
      · rw [if_neg q2, v1, if_neg (by omega)]
        by_cases q3 : b - s1 ≤ k ∧ k < b - s1 + s1
        · rw [if_pos q3]; exact p1 _ (by omega) (by omega)
        · rw [if_neg q3]
          by_cases q4 : k < b
          · exact p1 _ (by omega) (by omega)
          · exact p4 _ (by omega) (by omega)
  · rw [v2, if_neg (by omega)]
    by_cases q1 : to - s2 ≤ k ∧ k < to - s2 + s2
    · rw [if_pos q1, v1, if_neg (by omega), if_neg (by omega)]; exact p3 _ (by omega) (by omega)
    · rw [if_neg q1, v1, if_neg (by omega), if_neg (by omega)]; exact p3 _ (by omega) (by omega)
theorem sg_so_1 {a b : Nat} {f : Nat → Int32} (h : b ≤ a + 1) : sg_so a b f := by
  intro u w h1 h2 h3
  have : u = w := by omega
  rw [this]; exact Int.le_refl _
/-- both parts in order: the whole in order -/
theorem sg_qs_end {fr to k1 k2 : Nat} {v : Int32} {g2 g3 g4 : Nat → Int32} (hk : fr + k1 ≤ to - k2) (h2 : k2 ≤ to) (hlt : ∀ k, fr ≤ k → k < fr + k1 → (g2 k).toInt < v.toInt) (heq : ∀ k, fr + k1 ≤ k → k < to - k2 → g2 k = v) (hgt : ∀ k, to - k2 ≤ k → k < to → v.toInt < (g2 k).toInt)
    (p3 : sg_pm fr (fr + k1) g2 g3) (s3 : sg_so fr (fr + k1) g3) (p4 : sg_pm (to - k2) to g3 g4) (s4 : sg_so (to - k2) to g4) : sg_pm fr to g2 g4 ∧ sg_so fr to g4 := by
  have l4 : ∀ k, fr ≤ k → k < fr + k1 → (g4 k).toInt < v.toInt := fun k h5 h6 => by
    rw [p4.1 k (by omega)]
    exact p3.all (P := fun x => x.toInt < v.toInt) hlt k h5 h6
  have m4 : ∀ k, fr + k1 ≤ k → k < to - k2 → g4 k = v := fun k h5 h6 => by
    rw [p4.1 k (by omega), p3.1 k (by omega)]; exact heq k h5 h6
  have r4 : ∀ k, to - k2 ≤ k → k < to → v.toInt < (g4 k).toInt := fun k h5 h6 =>
    p4.all (P := fun x => v.toInt < x.toInt) (fun k h5 h6 => by rw [p3.1 k (by omega)]; exact hgt k h5 h6) k h5 h6
  refine ⟨(p3.wd (by omega) (by omega) (by omega)).tr (p4.wd (by omega) (by omega) (by omega)), fun u w h5 h6 h7 => ?_⟩
  by_cases c1 : w < fr + k1
  · rw [p4.1 u (by omega), p4.1 w (by omega)]; exact s3 u w h5 h6 c1
  · by_cases c2 : u < fr + k1
    · have a1 := l4 u h5 c2
      by_cases c3 : w < to - k2
      · rw [m4 w (by omega) c3]; omega
      · have := r4 w (by omega) h7; omega
    · by_cases c3 : to - k2 ≤ u
      · exact s4 u w c3 h6 h7
      · rw [m4 u (by omega) (by omega)]
        by_cases c4 : w < to - k2
        · rw [m4 w (by omega) c4]; exact Int.le_refl _
        · have := r4 w (by omega) h7; omega
theorem s_minN {a b : Nat} (ha : a < 2 ^ 31) (hb : b < 2 ^ 31) : (if nI b < nI a then nI b else nI a) = nI (min a b) := by
  by_cases h : b < a
  · rw [if_pos ((nI_ltI hb ha).mpr h)]; congr 1; omega
  · rw [if_neg (fun q => h ((nI_ltI hb ha).mp q))]; congr 1; omega
theorem s_mm {a b : Nat} (h : b ≤ a) : (nI a + (-1)) - (nI b + (-1)) = nI (a - b) := by
  rw [← pk_sub h]; grind
theorem s_nm1 {a b z : Nat} (h : b + z = a + 1) : nI a - (nI b + (-1)) = nI z := by
  have e : nI (a + 1) - nI b = nI z := by rw [pk_sub (by omega)]; congr 1; omega
  rw [← e, ← nI_1]; grind
end
section
/-! ShortArrays.quickSort, by the length of the stretch; radixSort (short stretches) -/
theorem nm_quickSort : s_nm yX2_quickSort 3 := by decide +kernel
theorem nm_radixSort : s_nm yX2_radixSort 3 := by decide +kernel
set_option maxHeartbeats 4000000 in
set_option maxRecDepth 100000 in
/-- quickSort(x, fr, to), for stretches of at most d -/
theorem m_quickSort {l : Launch} {G : va_G} {cl : List vw_C} {h0 : Nat} {d0 : ClassId} {n0 : Nat} (hn0 : n0 ≤ 48) : ∀ (d : Nat) {f : Nat → Int32} {fr to : Nat}, sg_sh f → fr ≤ to → to ≤ n0 → to - fr ≤ d → s_Mv l yX2_quickSort cX2_quickSort 13 (s_rk (d + 2) 0 0) G cl [.ref h0, .int (nI fr), .int (nI to)] (s_w1 h0 d0 n0 f) [(d0, .short)] (fun g => sg_pm fr to f g ∧ sg_so fr to g) (fun g => s_w1 h0 d0 n0 g) 0 0 := by
  intro d
  induction d using Nat.strongRecOn with
  | _ d IH =>
  intro f fr to hf h1 h2 hd
  refine s_ofv (by decide) (Nat.le_of_ble_eq_true rfl) ?_
  intro p e s m args below meth c Q A ls hx hb hml hown hts hnm hN hA hK hP hD hS hl hret
  have hl : lv_has ls 13 [(0, .ref h0), (1, .int (nI fr)), (2, .int (nI to))] := hl
  have tail : ∀ (v : Int32) (mm : Nat), v = f mm → vp_nar .short v = v → fr ≤ mm → mm < to → ∀ (a b D : Nat) (g : Nat → Int32) (H : Heap) (locs : List Loc) (ls : Array Slot), sg_part fr to v a b b D g → sg_pm fr to f g → sg_sh g → va_P G cl (s_w1 h0 d0 n0 g) H → va_D A (s_w1 h0 d0 n0 g) → va_S A s.heap H locs → lv_has ls 13 [(0, .ref h0), (1, .int (nI fr)), (2, .int (nI to)), (7, .int v), (8, .int (nI a)), (9, .int (nI b)), (10, .int ((nI b + (-1)))), (11, .int ((nI D + (-1))))] → W p l e (s_rk (d + 2) 0 0) s m args below meth c H locs 0 0 Q (F0 m 252 ls []) := by
    intro v mm hv hv0 hm1 hm2 a b D g H locs ls hpt hpm hg hP hD hS hl
    have hless := sg_part_less hpt hpm hm1 hm2 hv
    obtain ⟨i1, i2, i3, i4, i5⟩ := hpt.1
    obtain ⟨s1, es1⟩ : ∃ z, z = min (a - fr) (b - a) := ⟨_, rfl⟩
    obtain ⟨s2, es2⟩ : ∃ z, z = min (D - b) (to - D) := ⟨_, rfl⟩
    refine lv_iload hx hb dX2_quickSort_252 (lv_at hl 4 rfl) ?_
    refine lv_iload_n hx hb dX2_quickSort_254 rfl (lv_at hl 1 rfl) ?_
    refine s_subn (z := a - fr) hx hb dX2_quickSort_255 (by omega) ?_
    refine lv_iload hx hb dX2_quickSort_256 (lv_at hl 5 rfl) ?_
    refine lv_iload hx hb dX2_quickSort_258 (lv_at hl 4 rfl) ?_
    refine s_subn (z := b - a) hx hb dX2_quickSort_260 (by omega) ?_
    refine va_mmin hx hb (hml.trans hl.1.symm) hown (hts _ q60) (hts _ q61) (hts _ q8) (hts _ q62) (by show 1 ≤ d + 2; omega) (by show _ ≤ 40 * (d + 2); simp [Value.category]; omega) (Nat.zero_le _) (Nat.zero_le _) dX2_quickSort_261 ?_
    refine s_top (y := (nI s1)) ((s_minN (by omega) (by omega)).trans (congrArg nI es1.symm)) ?_
    refine lv_istore (lv' := [(12, .int (nI s1)), (0, .ref h0), (1, .int (nI fr)), (2, .int (nI to)), (7, .int v), (8, .int (nI a)), (9, .int (nI b)), (10, .int ((nI b + (-1)))), (11, .int ((nI D + (-1))))]) hx hb dX2_quickSort_264 hl (by decide) rfl (fun ls hl => ?_)
    refine lv_aload_n hx hb dX2_quickSort_266 rfl (lv_at hl 1 rfl) ?_
    refine lv_iload_n hx hb dX2_quickSort_267 rfl (lv_at hl 2 rfl) ?_
    refine lv_iload hx hb dX2_quickSort_268 (lv_at hl 6 rfl) ?_
    refine lv_iload hx hb dX2_quickSort_270 (lv_at hl 0 rfl) ?_
    refine s_subn (z := b - s1) hx hb dX2_quickSort_272 (by omega) ?_
    refine lv_iload hx hb dX2_quickSort_273 (lv_at hl 0 rfl) ?_
    refine s_cSv (wr := []) (ws' := fun g => s_w1 h0 d0 n0 g) hx hb hml hl.1 hown hts hN hA hK hP hD hS (m_swap_2 hn0 hg (a := fr) (b := b - s1) (n := s1) (by omega) (by omega)) (lw_S q63 q64 q6 q65) 4 nm_swap_2 rfl (s_rmk (by omega) (by decide) (by omega) (by omega)) (by decide) [0] [] [0] [0] rfl rfl rfl (fun _ => rfl) rfl dX2_quickSort_275 rfl (fun g1 H locs eg1 hP hD hS => ?_)
    refine lv_iload hx hb dX2_quickSort_278 (lv_at hl 8 rfl) ?_
    refine lv_iload hx hb dX2_quickSort_280 (lv_at hl 7 rfl) ?_
    refine s_isub (z := (nI (D - b))) hx hb dX2_quickSort_282 (s_mm (by omega)) ?_
    refine lv_iload_n hx hb dX2_quickSort_283 rfl (lv_at hl 3 rfl) ?_
    refine lv_iload hx hb dX2_quickSort_284 (lv_at hl 8 rfl) ?_
    refine s_isub (z := (nI (to + 1 - D))) hx hb dX2_quickSort_286 (s_nm1 (by omega)) ?_
    refine lv_iconst (v := nI 1) hx hb dX2_quickSort_287 (by decide) ?_
    refine s_subn (z := to - D) hx hb dX2_quickSort_288 (by omega) ?_
    refine va_mmin hx hb (hml.trans hl.1.symm) hown (hts _ q60) (hts _ q61) (hts _ q8) (hts _ q62) (by show 1 ≤ d + 2; omega) (by show _ ≤ 40 * (d + 2); simp [Value.category]; omega) (Nat.zero_le _) (Nat.zero_le _) dX2_quickSort_289 ?_
    refine s_top (y := (nI s2)) ((s_minN (by omega) (by omega)).trans (congrArg nI es2.symm)) ?_
    refine lv_istore (lv' := [(12, .int (nI s2)), (0, .ref h0), (1, .int (nI fr)), (2, .int (nI to)), (7, .int v), (8, .int (nI a)), (9, .int (nI b)), (10, .int ((nI b + (-1)))), (11, .int ((nI D + (-1))))]) hx hb dX2_quickSort_292 hl (by decide) rfl (fun ls hl => ?_)
    refine lv_aload_n hx hb dX2_quickSort_294 rfl (lv_at hl 1 rfl) ?_
    refine lv_iload hx hb dX2_quickSort_295 (lv_at hl 6 rfl) ?_
    refine lv_iload_n hx hb dX2_quickSort_297 rfl (lv_at hl 3 rfl) ?_
    refine lv_iload hx hb dX2_quickSort_298 (lv_at hl 0 rfl) ?_
    refine s_subn (z := to - s2) hx hb dX2_quickSort_300 (by omega) ?_
    refine lv_iload hx hb dX2_quickSort_301 (lv_at hl 0 rfl) ?_
    have hg1 : sg_sh g1 := by rw [eg1]; exact (sg_swn_pm s1 g fr (b - s1) (c := fr) (d := to) (by omega) (by omega) (by omega) (by omega)).sh hg
    refine s_cSv (wr := []) (ws' := fun g => s_w1 h0 d0 n0 g) hx hb hml hl.1 hown hts hN hA hK hP hD hS (m_swap_2 hn0 hg1 (a := b) (b := to - s2) (n := s2) (by omega) (by omega)) (lw_S q63 q64 q6 q65) 4 nm_swap_2 rfl (s_rmk (by omega) (by decide) (by omega) (by omega)) (by decide) [0] [] [0] [0] rfl rfl rfl (fun _ => rfl) rfl dX2_quickSort_303 rfl (fun g2 H locs eg2 hP hD hS => ?_)
    obtain ⟨mv1, mv2, mv3, mv4⟩ := sg_part_mv hpt es1 es2
    rw [← eg1, ← eg2] at mv1 mv2 mv3 mv4
    have hg2 : sg_sh g2 := mv1.sh hg
    have after : ∀ (g3 : Nat → Int32) (H : Heap) (locs : List Loc) (ls : Array Slot), sg_pm fr (fr + (b - a)) g2 g3 → sg_so fr (fr + (b - a)) g3 → va_P G cl (s_w1 h0 d0 n0 g3) H → va_D A (s_w1 h0 d0 n0 g3) → va_S A s.heap H locs → lv_has ls 13 [(0, .ref h0), (1, .int (nI fr)), (2, .int (nI to)), (7, .int v), (8, .int (nI a)), (9, .int (nI b)), (10, .int ((nI b + (-1)))), (11, .int ((nI D + (-1))))] → W p l e (s_rk (d + 2) 0 0) s m args below meth c H locs 0 0 Q (F0 m 327 ls []) := by
      intro g3 H locs ls p3 s3 hP hD hS hl
      refine lv_iload hx hb dX2_quickSort_327 (lv_at hl 7 rfl) ?_
      refine lv_iload hx hb dX2_quickSort_329 (lv_at hl 6 rfl) ?_
      refine s_isub (z := (nI (D - b))) hx hb dX2_quickSort_331 (s_mm (by omega)) ?_
      refine lv_dup hx hb dX2_quickSort_332 rfl ?_
      refine lv_istore (lv' := [(12, .int (nI (D - b))), (0, .ref h0), (1, .int (nI fr)), (2, .int (nI to)), (7, .int v), (8, .int (nI a)), (9, .int (nI b)), (10, .int ((nI b + (-1)))), (11, .int ((nI D + (-1))))]) hx hb dX2_quickSort_333 hl (by decide) rfl (fun ls hl => ?_)
      refine lv_iconst (v := nI 1) hx hb dX2_quickSort_335 (by decide) ?_
      refine s_nle (tgt := 348) hx hb dX2_quickSort_336 (by decide) (by omega) (by omega) (fun c1 => ?_) (fun c1 => ?_)
      · have fin := sg_qs_end (k1 := b - a) (k2 := D - b) (g4 := g3) (by omega) (by omega) mv2 mv3 mv4 p3 s3 sg_pm.rf (sg_so_1 (by omega))
        exact hret g3 _ _ _ _ ⟨hpm.tr (mv1.tr fin.1), fin.2⟩ hP hD hS dX2_quickSort_348
      · refine lv_aload_n hx hb dX2_quickSort_339 rfl (lv_at hl 1 rfl) ?_
        refine lv_iload_n hx hb dX2_quickSort_340 rfl (lv_at hl 3 rfl) ?_
        refine lv_iload hx hb dX2_quickSort_341 (lv_at hl 0 rfl) ?_
        refine s_subn (z := to - (D - b)) hx hb dX2_quickSort_343 (by omega) ?_
        refine lv_iload_n hx hb dX2_quickSort_344 rfl (lv_at hl 3 rfl) ?_
        refine s_cSv (wr := []) (ws' := fun g => s_w1 h0 d0 n0 g) hx hb hml hl.1 hown hts hN hA hK hP hD hS (IH (d - 1) (by omega) (f := g3) (fr := to - (D - b)) (to := to) (p3.sh hg2) (by omega) (by omega) (by omega)) (lw_S q66 q46 q6 q47) 3 nm_quickSort rfl (s_rmk (by omega) (by decide) (by omega) (by omega)) (by decide) [0] [] [0] [0] rfl rfl rfl (fun _ => rfl) rfl dX2_quickSort_345 rfl (fun g4 H locs eg4 hP hD hS => ?_)
        have fin := sg_qs_end (k1 := b - a) (k2 := D - b) (by omega) (by omega) mv2 mv3 mv4 p3 s3 eg4.1 eg4.2
        exact hret g4 _ _ _ _ ⟨hpm.tr (mv1.tr fin.1), fin.2⟩ hP hD hS dX2_quickSort_348
    refine lv_iload hx hb dX2_quickSort_306 (lv_at hl 6 rfl) ?_
    refine lv_iload hx hb dX2_quickSort_308 (lv_at hl 5 rfl) ?_
    refine s_subn (z := b - a) hx hb dX2_quickSort_310 (by omega) ?_
    refine lv_dup hx hb dX2_quickSort_311 rfl ?_
    refine lv_istore (lv' := [(12, .int (nI (b - a))), (0, .ref h0), (1, .int (nI fr)), (2, .int (nI to)), (7, .int v), (8, .int (nI a)), (9, .int (nI b)), (10, .int ((nI b + (-1)))), (11, .int ((nI D + (-1))))]) hx hb dX2_quickSort_312 hl (by decide) rfl (fun ls hl => ?_)
    refine lv_iconst (v := nI 1) hx hb dX2_quickSort_314 (by decide) ?_
    refine s_nle (tgt := 327) hx hb dX2_quickSort_315 (by decide) (by omega) (by omega) (fun c1 => ?_) (fun c1 => ?_)
    · exact after g2 H locs ls sg_pm.rf (sg_so_1 (by omega)) hP hD hS (lv_sub hl [1, 2, 3, 4, 5, 6, 7, 8] rfl)
    · refine lv_aload_n hx hb dX2_quickSort_318 rfl (lv_at hl 1 rfl) ?_
      refine lv_iload_n hx hb dX2_quickSort_319 rfl (lv_at hl 2 rfl) ?_
      refine lv_iload_n hx hb dX2_quickSort_320 rfl (lv_at hl 2 rfl) ?_
      refine lv_iload hx hb dX2_quickSort_321 (lv_at hl 0 rfl) ?_
      refine s_addn (z := fr + (b - a)) hx hb dX2_quickSort_323 (by omega) ?_
      refine s_cSv (wr := []) (ws' := fun g => s_w1 h0 d0 n0 g) hx hb hml hl.1 hown hts hN hA hK hP hD hS (IH (d - 1) (by omega) (f := g2) (fr := fr) (to := fr + (b - a)) hg2 (by omega) (by omega) (by omega)) (lw_S q66 q46 q6 q47) 3 nm_quickSort rfl (s_rmk (by omega) (by decide) (by omega) (by omega)) (by decide) [0] [] [0] [0] rfl rfl rfl (fun _ => rfl) rfl dX2_quickSort_324 rfl (fun g3 H locs eg3 hP hD hS => ?_)
      exact after g3 H locs ls eg3.1 eg3.2 hP hD hS (lv_sub hl [1, 2, 3, 4, 5, 6, 7, 8] rfl)
  have main : ∀ (v : Int32) (mm : Nat), v = f mm → vp_nar .short v = v → fr ≤ mm → mm < to → ∀ (t : Nat) (H : Heap) (locs : List Loc) (ls : Array Slot), 2 * (to - fr) + 1 < t → va_P G cl (s_w1 h0 d0 n0 f) H → va_D A (s_w1 h0 d0 n0 f) → va_S A s.heap H locs → lv_has ls 13 [(0, .ref h0), (1, .int (nI fr)), (2, .int (nI to)), (7, .int v), (8, .int (nI fr)), (9, .int (nI fr)), (10, .int ((nI to + (-1)))), (11, .int ((nI to + (-1))))] → W p l e (s_rk (d + 2) 0 0) s m args below meth c H locs 0 0 Q (F0 m 137 ls []) := by
    intro v mm hv hv0 hm1 hm2
    have kk := tail v mm hv hv0 hm1 hm2
    have both : ∀ t : Nat, (∀ (a b C D : Nat) (g : Nat → Int32) (H : Heap) (locs : List Loc) (ls : Array Slot), 2 * (C - b) + 1 < t → sg_part fr to v a b C D g → sg_pm fr to f g → sg_sh g → va_P G cl (s_w1 h0 d0 n0 g) H → va_D A (s_w1 h0 d0 n0 g) → va_S A s.heap H locs → lv_has ls 13 [(0, .ref h0), (1, .int (nI fr)), (2, .int (nI to)), (7, .int v), (8, .int (nI a)), (9, .int (nI b)), (10, .int ((nI C + (-1)))), (11, .int ((nI D + (-1))))] → W p l e (s_rk (d + 2) 0 0) s m args below meth c H locs 0 0 Q (F0 m 137 ls [])) ∧
        (∀ (a b C D : Nat) (g : Nat → Int32) (H : Heap) (locs : List Loc) (ls : Array Slot), 2 * (C - b) < t → sg_part fr to v a b C D g → sg_pm fr to f g → sg_sh g → (b < C → v.toInt < (g b).toInt) → va_P G cl (s_w1 h0 d0 n0 g) H → va_D A (s_w1 h0 d0 n0 g) → va_S A s.heap H locs → lv_has ls 13 [(0, .ref h0), (1, .int (nI fr)), (2, .int (nI to)), (7, .int v), (8, .int (nI a)), (9, .int (nI b)), (10, .int ((nI C + (-1)))), (11, .int ((nI D + (-1))))] → W p l e (s_rk (d + 2) 0 0) s m args below meth c H locs 0 0 Q (F0 m 181 ls [])) := by
      intro t
      induction t with
      | zero => exact ⟨fun a b C D g H locs ls h => by omega, fun a b C D g H locs ls h => by omega⟩
      | succ t ih =>
      refine ⟨fun a b C D g H locs ls ht hpt hpm hg hP hD hS hl => ?_, fun a b C D g H locs ls ht hpt hpm hg hgb hP hD hS hl => ?_⟩
      · obtain ⟨i1, i2, i3, i4, i5⟩ := hpt.1
        refine lv_iload hx hb dX2_quickSort_137 (lv_at hl 5 rfl) ?_
        refine lv_iload hx hb dX2_quickSort_139 (lv_at hl 6 rfl) ?_
        refine s_vgt (tgt := 181) hx hb dX2_quickSort_141 (by decide) (fun c1 => ?_) (fun c1 => ?_)
        · rw [nI_toInt (by omega), s_mi_toInt (by omega)] at c1
          exact ih.2 a b C D g H locs ls (by omega) hpt hpm hg (fun q => by omega) hP hD hS (lv_sub hl [0, 1, 2, 3, 4, 5, 6, 7] rfl)
        · rw [nI_toInt (by omega), s_mi_toInt (by omega)] at c1
          have hbC : b < C := by omega
          refine lv_aload_n hx hb dX2_quickSort_144 rfl (lv_at hl 0 rfl) ?_
          refine lv_iload hx hb dX2_quickSort_145 (lv_at hl 5 rfl) ?_
          refine s_ld hx hb hK hP 0 0 rfl rfl hn0 (by omega) dX2_quickSort_147 ?_
          refine lv_iload hx hb dX2_quickSort_148 (lv_at hl 3 rfl) ?_
          refine s_cSi hx hb hml hl.1 hown hts hK hP (m_compare (hg b) hv0) (lw_S q54 q55 q7 q56) 2 nm_compare rfl (s_rmk (by omega) (by decide) (by omega) (by omega)) (by decide) [] [] rfl rfl dX2_quickSort_150 rfl (fun r1 e1 => ?_)
          refine lv_dup hx hb dX2_quickSort_153 rfl ?_
          refine lv_istore (lv' := [(12, .int r1), (0, .ref h0), (1, .int (nI fr)), (2, .int (nI to)), (7, .int v), (8, .int (nI a)), (9, .int (nI b)), (10, .int ((nI C + (-1)))), (11, .int ((nI D + (-1))))]) hx hb dX2_quickSort_154 hl (by decide) rfl (fun ls hl => ?_)
          refine s_zgt (tgt := 181) hx hb dX2_quickSort_156 (by decide) (fun c2 => ?_) (fun c2 => ?_)
          · exact ih.2 a b C D g H locs ls (by omega) hpt hpm hg (fun _ => by omega) hP hD hS (lv_sub hl [1, 2, 3, 4, 5, 6, 7, 8] rfl)
          · refine lv_iload hx hb dX2_quickSort_159 (lv_at hl 0 rfl) ?_
            refine s_zne (tgt := 175) hx hb dX2_quickSort_161 (by decide) (fun c3 => ?_) (fun c3 => ?_)
            · refine lv_iinc (v := (nI (b + 1))) (lv' := [(9, .int (nI (b + 1))), (12, .int r1), (0, .ref h0), (1, .int (nI fr)), (2, .int (nI to)), (7, .int v), (8, .int (nI a)), (10, .int ((nI C + (-1)))), (11, .int ((nI D + (-1))))]) hx hb dX2_quickSort_175 hl (k := 6) rfl (s_inc (by omega)) (by decide) rfl (fun ls hl => ?_)
              refine lv_goto (tgt := 137) hx hb dX2_quickSort_178 (by decide) ?_
              exact ih.1 a (b + 1) C D g H locs ls (by omega) (sg_part_lt hpt hbC (by omega)) hpm hg hP hD hS (lv_sub hl [2, 3, 4, 5, 6, 0, 7, 8] rfl)
            · have egb : g b = v := Int32.toInt_inj.mp (by omega)
              refine lv_aload_n hx hb dX2_quickSort_164 rfl (lv_at hl 1 rfl) ?_
              refine lv_iload hx hb dX2_quickSort_165 (lv_at hl 5 rfl) ?_
              refine lv_iinc (v := (nI (a + 1))) (lv' := [(8, .int (nI (a + 1))), (12, .int r1), (0, .ref h0), (1, .int (nI fr)), (2, .int (nI to)), (7, .int v), (9, .int (nI b)), (10, .int ((nI C + (-1)))), (11, .int ((nI D + (-1))))]) hx hb dX2_quickSort_167 hl (k := 5) rfl (s_inc (by omega)) (by decide) rfl (fun ls hl => ?_)
              refine lv_iload hx hb dX2_quickSort_170 (lv_at hl 6 rfl) ?_
              refine s_cSv (wr := []) (ws' := fun g => s_w1 h0 d0 n0 g) hx hb hml hl.1 hown hts hN hA hK hP hD hS (m_swap hn0 hg (i := a) (j := b) (by omega) (by omega)) (lw_S q57 q58 q6 q59) 3 nm_swap rfl (s_rmk (by omega) (by decide) (by omega) (by omega)) (by decide) [0] [] [0] [0] rfl rfl rfl (fun _ => rfl) rfl dX2_quickSort_172 rfl (fun g1 H locs eg1 hP hD hS => ?_)
              refine lv_iinc (v := (nI (b + 1))) (lv' := [(9, .int (nI (b + 1))), (8, .int (nI (a + 1))), (12, .int r1), (0, .ref h0), (1, .int (nI fr)), (2, .int (nI to)), (7, .int v), (10, .int ((nI C + (-1)))), (11, .int ((nI D + (-1))))]) hx hb dX2_quickSort_175 hl (k := 6) rfl (s_inc (by omega)) (by decide) rfl (fun ls hl => ?_)
              refine lv_goto (tgt := 137) hx hb dX2_quickSort_178 (by decide) ?_
              have hp1 : sg_pm fr to g g1 := by rw [eg1]; exact sg_sw_pm g (by omega) (by omega) (by omega) (by omega)
              exact ih.1 (a + 1) (b + 1) C D g1 H locs ls (by omega) (by rw [eg1]; exact sg_part_eq hpt hbC egb) (hpm.tr hp1) (hp1.sh hg) hP hD hS (lv_sub hl [3, 4, 5, 6, 1, 0, 7, 8] rfl)
      · obtain ⟨i1, i2, i3, i4, i5⟩ := hpt.1
        refine lv_iload hx hb dX2_quickSort_181 (lv_at hl 6 rfl) ?_
        refine lv_iload hx hb dX2_quickSort_183 (lv_at hl 5 rfl) ?_
        refine s_vlt (tgt := 225) hx hb dX2_quickSort_185 (by decide) (fun c1 => ?_) (fun c1 => ?_)
        · rw [nI_toInt (by omega), s_mi_toInt (by omega)] at c1
          refine lv_iload hx hb dX2_quickSort_225 (lv_at hl 5 rfl) ?_
          refine lv_iload hx hb dX2_quickSort_227 (lv_at hl 6 rfl) ?_
          refine s_vle (tgt := 235) hx hb dX2_quickSort_229 (by decide) (fun c2 => ?_) (fun c2 => ?_)
          · rw [nI_toInt (by omega), s_mi_toInt (by omega)] at c2
            omega
          · refine lv_goto (tgt := 252) hx hb dX2_quickSort_232 (by decide) ?_
            have ebC : C = b := by omega
            subst ebC
            exact kk a C D g H locs ls hpt hpm hg hP hD hS (lv_sub hl [0, 1, 2, 3, 4, 5, 6, 7] rfl)
        · rw [nI_toInt (by omega), s_mi_toInt (by omega)] at c1
          have hbC : b < C := by omega
          refine lv_aload_n hx hb dX2_quickSort_188 rfl (lv_at hl 0 rfl) ?_
          refine lv_iload hx hb dX2_quickSort_189 (lv_at hl 6 rfl) ?_
          refine s_top (y := (nI (C - 1))) (s_mi (by omega)) ?_
          refine s_ld hx hb hK hP 0 0 rfl rfl hn0 (by omega) dX2_quickSort_191 ?_
          refine lv_iload hx hb dX2_quickSort_192 (lv_at hl 3 rfl) ?_
          refine s_cSi hx hb hml hl.1 hown hts hK hP (m_compare (hg (C - 1)) hv0) (lw_S q54 q55 q7 q56) 2 nm_compare rfl (s_rmk (by omega) (by decide) (by omega) (by omega)) (by decide) [] [] rfl rfl dX2_quickSort_194 rfl (fun r2 e2 => ?_)
          refine lv_dup hx hb dX2_quickSort_197 rfl ?_
          refine lv_istore (lv' := [(12, .int r2), (0, .ref h0), (1, .int (nI fr)), (2, .int (nI to)), (7, .int v), (8, .int (nI a)), (9, .int (nI b)), (10, .int ((nI C + (-1)))), (11, .int ((nI D + (-1))))]) hx hb dX2_quickSort_198 hl (by decide) rfl (fun ls hl => ?_)
          refine s_zlt (tgt := 225) hx hb dX2_quickSort_200 (by decide) (fun c2 => ?_) (fun c2 => ?_)
          · refine lv_iload hx hb dX2_quickSort_225 (lv_at hl 6 rfl) ?_
            refine lv_iload hx hb dX2_quickSort_227 (lv_at hl 7 rfl) ?_
            refine s_vle (tgt := 235) hx hb dX2_quickSort_229 (by decide) (fun c3 => ?_) (fun c3 => ?_)
            · obtain ⟨hbc, hpt2⟩ := sg_part_sw hpt hbC (hgb hbC) (by omega)
              refine lv_aload_n hx hb dX2_quickSort_235 rfl (lv_at hl 1 rfl) ?_
              refine lv_iload hx hb dX2_quickSort_236 (lv_at hl 6 rfl) ?_
              refine lv_iinc (v := (nI (b + 1))) (lv' := [(9, .int (nI (b + 1))), (12, .int r2), (0, .ref h0), (1, .int (nI fr)), (2, .int (nI to)), (7, .int v), (8, .int (nI a)), (10, .int ((nI C + (-1)))), (11, .int ((nI D + (-1))))]) hx hb dX2_quickSort_238 hl (k := 6) rfl (s_inc (by omega)) (by decide) rfl (fun ls hl => ?_)
              refine lv_iload hx hb dX2_quickSort_241 (lv_at hl 7 rfl) ?_
              refine s_top (y := (nI (C - 1))) (s_mi (by omega)) ?_
              refine lv_iinc (v := ((nI (C - 1) + (-1)))) (lv' := [(10, .int ((nI (C - 1) + (-1)))), (9, .int (nI (b + 1))), (12, .int r2), (0, .ref h0), (1, .int (nI fr)), (2, .int (nI to)), (7, .int v), (8, .int (nI a)), (11, .int ((nI D + (-1))))]) hx hb dX2_quickSort_243 hl (k := 7) rfl (by rw [s_mi (by omega)]; rfl) (by decide) rfl (fun ls hl => ?_)
              refine s_cSv (wr := []) (ws' := fun g => s_w1 h0 d0 n0 g) hx hb hml hl.1 hown hts hN hA hK hP hD hS (m_swap hn0 hg (i := b) (j := C - 1) (by omega) (by omega)) (lw_S q57 q58 q6 q59) 3 nm_swap rfl (s_rmk (by omega) (by decide) (by omega) (by omega)) (by decide) [0] [] [0] [0] rfl rfl rfl (fun _ => rfl) rfl dX2_quickSort_246 rfl (fun g1 H locs eg1 hP hD hS => ?_)
              refine lv_goto (tgt := 137) hx hb dX2_quickSort_249 (by decide) ?_
              have hp1 : sg_pm fr to g g1 := by rw [eg1]; exact sg_sw_pm g (by omega) (by omega) (by omega) (by omega)
              exact ih.1 a (b + 1) (C - 1) D g1 H locs ls (by omega) (by rw [eg1]; exact hpt2) (hpm.tr hp1) (hp1.sh hg) hP hD hS (lv_sub hl [3, 4, 5, 6, 7, 1, 0, 8] rfl)
            · rw [nI_toInt (by omega), s_mi_toInt (by omega)] at c3
              omega
          · refine lv_iload hx hb dX2_quickSort_203 (lv_at hl 0 rfl) ?_
            refine s_zne (tgt := 219) hx hb dX2_quickSort_205 (by decide) (fun c3 => ?_) (fun c3 => ?_)
            · refine lv_iinc (v := ((nI (C - 1) + (-1)))) (lv' := [(10, .int ((nI (C - 1) + (-1)))), (12, .int r2), (0, .ref h0), (1, .int (nI fr)), (2, .int (nI to)), (7, .int v), (8, .int (nI a)), (9, .int (nI b)), (11, .int ((nI D + (-1))))]) hx hb dX2_quickSort_219 hl (k := 7) rfl (by rw [s_mi (by omega)]; rfl) (by decide) rfl (fun ls hl => ?_)
              refine lv_goto (tgt := 181) hx hb dX2_quickSort_222 (by decide) ?_
              exact ih.2 a b (C - 1) D g H locs ls (by omega) (sg_part_gt hpt hbC (by omega)) hpm hg (fun q => hgb hbC) hP hD hS (lv_sub hl [2, 3, 4, 5, 6, 7, 0, 8] rfl)
            · have egb : g (C - 1) = v := Int32.toInt_inj.mp (by omega)
              have hbC1 : b < C - 1 := by
                by_cases hq : b = C - 1
                · have := hgb hbC
                  rw [hq, egb] at this; omega
                · omega
              refine lv_aload_n hx hb dX2_quickSort_208 rfl (lv_at hl 1 rfl) ?_
              refine lv_iload hx hb dX2_quickSort_209 (lv_at hl 7 rfl) ?_
              refine s_top (y := (nI (C - 1))) (s_mi (by omega)) ?_
              refine lv_iload hx hb dX2_quickSort_211 (lv_at hl 8 rfl) ?_
              refine s_top (y := (nI (D - 1))) (s_mi (by omega)) ?_
              refine lv_iinc (v := ((nI (D - 1) + (-1)))) (lv' := [(11, .int ((nI (D - 1) + (-1)))), (12, .int r2), (0, .ref h0), (1, .int (nI fr)), (2, .int (nI to)), (7, .int v), (8, .int (nI a)), (9, .int (nI b)), (10, .int ((nI C + (-1))))]) hx hb dX2_quickSort_213 hl (k := 8) rfl (by rw [s_mi (by omega)]; rfl) (by decide) rfl (fun ls hl => ?_)
              refine s_cSv (wr := []) (ws' := fun g => s_w1 h0 d0 n0 g) hx hb hml hl.1 hown hts hN hA hK hP hD hS (m_swap hn0 hg (i := C - 1) (j := D - 1) (by omega) (by omega)) (lw_S q57 q58 q6 q59) 3 nm_swap rfl (s_rmk (by omega) (by decide) (by omega) (by omega)) (by decide) [0] [] [0] [0] rfl rfl rfl (fun _ => rfl) rfl dX2_quickSort_216 rfl (fun g1 H locs eg1 hP hD hS => ?_)
              refine lv_iinc (v := ((nI (C - 1) + (-1)))) (lv' := [(10, .int ((nI (C - 1) + (-1)))), (11, .int ((nI (D - 1) + (-1)))), (12, .int r2), (0, .ref h0), (1, .int (nI fr)), (2, .int (nI to)), (7, .int v), (8, .int (nI a)), (9, .int (nI b))]) hx hb dX2_quickSort_219 hl (k := 8) rfl (by rw [s_mi (by omega)]; rfl) (by decide) rfl (fun ls hl => ?_)
              refine lv_goto (tgt := 181) hx hb dX2_quickSort_222 (by decide) ?_
              have hp1 : sg_pm fr to g g1 := by rw [eg1]; exact sg_sw_pm g (by omega) (by omega) (by omega) (by omega)
              exact ih.2 a b (C - 1) (D - 1) g1 H locs ls (by omega) (by rw [eg1]; exact sg_part_eqR hpt hbC egb) (hpm.tr hp1) (hp1.sh hg) (fun _ => by rw [eg1, sg_sw_n _ (by omega) (by omega)]; exact hgb hbC) hP hD hS (lv_sub hl [3, 4, 5, 6, 7, 8, 0, 1] rfl)
    intro t H locs ls ht hP hD hS hl
    exact (both t).1 fr fr to to f H locs ls ht (sg_part_0 h1) sg_pm.rf hf hP hD hS hl
  refine lv_iload_n hx hb dX2_quickSort_0 rfl (lv_at hl 2 rfl) ?_
  refine lv_iload_n hx hb dX2_quickSort_1 rfl (lv_at hl 1 rfl) ?_
  refine s_subn (z := to - fr) hx hb dX2_quickSort_2 (by omega) ?_
  refine lv_istore_n (lv' := [(3, .int (nI (to - fr))), (0, .ref h0), (1, .int (nI fr)), (2, .int (nI to))]) hx hb dX2_quickSort_3 rfl hl (by decide) rfl (fun ls hl => ?_)
  refine lv_iload_n hx hb dX2_quickSort_4 rfl (lv_at hl 0 rfl) ?_
  refine lv_bipush (v := nI 16) hx hb dX2_quickSort_5 (by decide) ?_
  refine s_nge (tgt := 17) hx hb dX2_quickSort_7 (by decide) (by omega) (by omega) (fun c1 => ?_) (fun c1 => ?_)
  · refine lv_iload_n hx hb dX2_quickSort_17 rfl (lv_at hl 2 rfl) ?_
    refine lv_iload_n hx hb dX2_quickSort_18 rfl (lv_at hl 0 rfl) ?_
    refine lv_iconst (v := nI 2) hx hb dX2_quickSort_19 (by decide) ?_
    refine s_div2 (z := (to - fr) / 2) hx hb dX2_quickSort_20 (by omega) (by omega) ?_
    refine s_addn (z := fr + (to - fr) / 2) hx hb dX2_quickSort_21 (by omega) ?_
    refine lv_istore (lv' := [(4, .int (nI (fr + (to - fr) / 2))), (3, .int (nI (to - fr))), (0, .ref h0), (1, .int (nI fr)), (2, .int (nI to))]) hx hb dX2_quickSort_22 hl (by decide) rfl (fun ls hl => ?_)
    refine lv_iload_n hx hb dX2_quickSort_24 rfl (lv_at hl 3 rfl) ?_
    refine lv_istore (lv' := [(5, .int (nI fr)), (4, .int (nI (fr + (to - fr) / 2))), (3, .int (nI (to - fr))), (0, .ref h0), (1, .int (nI fr)), (2, .int (nI to))]) hx hb dX2_quickSort_25 hl (by decide) rfl (fun ls hl => ?_)
    refine lv_iload_n hx hb dX2_quickSort_27 rfl (lv_at hl 5 rfl) ?_
    refine lv_iconst (v := nI 1) hx hb dX2_quickSort_28 (by decide) ?_
    refine s_subn (z := to - 1) hx hb dX2_quickSort_29 (by omega) ?_
    refine lv_istore (lv' := [(6, .int (nI (to - 1))), (5, .int (nI fr)), (4, .int (nI (fr + (to - fr) / 2))), (3, .int (nI (to - fr))), (0, .ref h0), (1, .int (nI fr)), (2, .int (nI to))]) hx hb dX2_quickSort_30 hl (by decide) rfl (fun ls hl => ?_)
    refine lv_iload_n hx hb dX2_quickSort_32 rfl (lv_at hl 3 rfl) ?_
    refine lv_sipush (v := nI 128) hx hb dX2_quickSort_33 (by decide) ?_
    refine s_nle (tgt := 103) hx hb dX2_quickSort_36 (by decide) (by omega) (by omega) (fun c2 => ?_) (fun c2 => ?_)
    · refine lv_aload_n hx hb dX2_quickSort_103 rfl (lv_at hl 4 rfl) ?_
      refine lv_iload hx hb dX2_quickSort_104 (lv_at hl 1 rfl) ?_
      refine lv_iload hx hb dX2_quickSort_106 (lv_at hl 2 rfl) ?_
      refine lv_iload hx hb dX2_quickSort_108 (lv_at hl 0 rfl) ?_
      refine s_cSi hx hb hml hl.1 hown hts hK hP (m_med3 hn0 hf (a := fr) (b := fr + (to - fr) / 2) (cc := to - 1) (by omega) (by omega) (by omega)) (lw_S q51 q52 q6 q53) 4 nm_med3 rfl (s_rmk (by omega) (by decide) (by omega) (by omega)) (by decide) [0] [0] rfl rfl dX2_quickSort_110 rfl (fun r1 e1 => ?_)
      obtain ⟨mm, rfl, hm1, hm2⟩ : ∃ mm : Nat, r1 = nI mm ∧ fr ≤ mm ∧ mm < to := by
        rcases e1 with q | q | q
        · exact ⟨_, q, by omega, by omega⟩
        · exact ⟨_, q, by omega, by omega⟩
        · exact ⟨_, q, by omega, by omega⟩
      refine lv_istore (lv' := [(4, .int (nI mm)), (6, .int (nI (to - 1))), (5, .int (nI fr)), (3, .int (nI (to - fr))), (0, .ref h0), (1, .int (nI fr)), (2, .int (nI to))]) hx hb dX2_quickSort_113 hl (by decide) rfl (fun ls hl => ?_)
      refine lv_aload_n hx hb dX2_quickSort_115 rfl (lv_at hl 4 rfl) ?_
      refine lv_iload hx hb dX2_quickSort_116 (lv_at hl 0 rfl) ?_
      refine s_ld hx hb hK hP 0 0 rfl rfl hn0 (by omega) dX2_quickSort_118 ?_
      obtain ⟨v, hv⟩ : ∃ v, v = f mm := ⟨_, rfl⟩
      rw [← hv]
      have hv0 : vp_nar .short v = v := by rw [hv]; exact hf mm
      refine lv_istore (lv' := [(7, .int v), (4, .int (nI mm)), (6, .int (nI (to - 1))), (5, .int (nI fr)), (3, .int (nI (to - fr))), (0, .ref h0), (1, .int (nI fr)), (2, .int (nI to))]) hx hb dX2_quickSort_119 hl (by decide) rfl (fun ls hl => ?_)
      refine lv_iload_n hx hb dX2_quickSort_121 rfl (lv_at hl 6 rfl) ?_
      refine lv_istore (lv' := [(8, .int (nI fr)), (7, .int v), (4, .int (nI mm)), (6, .int (nI (to - 1))), (5, .int (nI fr)), (3, .int (nI (to - fr))), (0, .ref h0), (1, .int (nI fr)), (2, .int (nI to))]) hx hb dX2_quickSort_122 hl (by decide) rfl (fun ls hl => ?_)
      refine lv_iload hx hb dX2_quickSort_124 (lv_at hl 0 rfl) ?_
      refine lv_istore (lv' := [(9, .int (nI fr)), (8, .int (nI fr)), (7, .int v), (4, .int (nI mm)), (6, .int (nI (to - 1))), (5, .int (nI fr)), (3, .int (nI (to - fr))), (0, .ref h0), (1, .int (nI fr)), (2, .int (nI to))]) hx hb dX2_quickSort_126 hl (by decide) rfl (fun ls hl => ?_)
      refine lv_iload_n hx hb dX2_quickSort_128 rfl (lv_at hl 9 rfl) ?_
      refine lv_iconst (v := nI 1) hx hb dX2_quickSort_129 (by decide) ?_
      refine s_isub (z := nI to + (-1)) hx hb dX2_quickSort_130 (s_m1 _) ?_
      refine lv_istore (lv' := [(10, .int (nI to + (-1))), (9, .int (nI fr)), (8, .int (nI fr)), (7, .int v), (4, .int (nI mm)), (6, .int (nI (to - 1))), (5, .int (nI fr)), (3, .int (nI (to - fr))), (0, .ref h0), (1, .int (nI fr)), (2, .int (nI to))]) hx hb dX2_quickSort_131 hl (by decide) rfl (fun ls hl => ?_)
      refine lv_iload hx hb dX2_quickSort_133 (lv_at hl 0 rfl) ?_
      refine lv_istore (lv' := [(11, .int (nI to + (-1))), (10, .int (nI to + (-1))), (9, .int (nI fr)), (8, .int (nI fr)), (7, .int v), (4, .int (nI mm)), (6, .int (nI (to - 1))), (5, .int (nI fr)), (3, .int (nI (to - fr))), (0, .ref h0), (1, .int (nI fr)), (2, .int (nI to))]) hx hb dX2_quickSort_135 hl (by decide) rfl (fun ls hl => ?_)
      exact main v mm hv hv0 hm1 hm2 (2 * (to - fr) + 2) s.heap [] ls (by omega) hP hD hS (lv_sub hl [9, 10, 11, 4, 3, 2, 1, 0] rfl)
    · omega
  · refine lv_aload_n hx hb dX2_quickSort_10 rfl (lv_at hl 1 rfl) ?_
    refine lv_iload_n hx hb dX2_quickSort_11 rfl (lv_at hl 2 rfl) ?_
    refine lv_iload_n hx hb dX2_quickSort_12 rfl (lv_at hl 3 rfl) ?_
    refine s_cSv (wr := []) (ws' := fun g => s_w1 h0 d0 n0 g) hx hb hml hl.1 hown hts hN hA hK hP hD hS (m_selectionSort hn0 hf (a := fr) (b := to) h1 h2) (lw_S q48 q49 q6 q50) 3 nm_selectionSort rfl (s_rmk (by omega) (by decide) (by omega) (by omega)) (by decide) [0] [] [0] [0] rfl rfl rfl (fun _ => rfl) rfl dX2_quickSort_13 rfl (fun g H locs eg hP hD hS => ?_)
    exact hret g _ _ _ _ eg hP hD hS dX2_quickSort_16
set_option maxHeartbeats 4000000 in
set_option maxRecDepth 100000 in
/-- radixSort(x, fr, to): a short stretch goes to quickSort -/
theorem m_radixSort {l : Launch} {G : va_G} {cl : List vw_C} {h0 : Nat} {d0 : ClassId} {n0 : Nat} {f : Nat → Int32} (hn0 : n0 ≤ 48) (hf : sg_sh f) {fr to : Nat} (h1 : fr ≤ to) (h2 : to ≤ n0) : s_Mv l yX2_radixSort cX2_radixSort 21 (s_rk 51 0 0) G cl [.ref h0, .int (nI fr), .int (nI to)] (s_w1 h0 d0 n0 f) [(d0, .short)] (fun g => sg_pm fr to f g ∧ sg_so fr to g) (fun g => s_w1 h0 d0 n0 g) 0 0 := by
  refine s_ofv (by decide) (Nat.le_of_ble_eq_true rfl) ?_
  intro p e s m args below meth c Q A ls hx hb hml hown hts hnm hN hA hK hP hD hS hl hret
  have hl : lv_has ls 21 [(0, .ref h0), (1, .int (nI fr)), (2, .int (nI to))] := hl
  refine lv_iload_n hx hb dX2_radixSort_0 rfl (lv_at hl 2 rfl) ?_
  refine lv_iload_n hx hb dX2_radixSort_1 rfl (lv_at hl 1 rfl) ?_
  refine s_subn (z := to - fr) hx hb dX2_radixSort_2 (by omega) ?_
  refine lv_sipush (v := nI 1024) hx hb dX2_radixSort_3 (by decide) ?_
  refine s_nge (tgt := 16) hx hb dX2_radixSort_6 (by decide) (by omega) (by omega) (fun c1 => ?_) (fun c1 => ?_)
  · omega
  · refine lv_aload_n hx hb dX2_radixSort_9 rfl (lv_at hl 0 rfl) ?_
    refine lv_iload_n hx hb dX2_radixSort_10 rfl (lv_at hl 1 rfl) ?_
    refine lv_iload_n hx hb dX2_radixSort_11 rfl (lv_at hl 2 rfl) ?_
    refine s_cSv (wr := []) (ws' := fun g => s_w1 h0 d0 n0 g) hx hb hml hl.1 hown hts hN hA hK hP hD hS (m_quickSort hn0 48 hf h1 h2 (by omega)) (lw_S q66 q46 q6 q47) 3 nm_quickSort rfl (s_rmk (by omega) (by decide) (by omega) (by omega)) (by decide) [0] [] [0] [0] rfl rfl rfl (fun _ => rfl) rfl dX2_radixSort_12 rfl (fun g H locs eg hP hD hS => ?_)
    exact hret g _ _ _ _ eg hP hD hS dX2_radixSort_15
end
section
/-! THE PLAIN LAW of mergeSort -/
abbrev s_w2 (h0 : Nat) (d0 : ClassId) (n0 : Nat) (f : Nat → Int32) (h1 : Nat) (d1 : ClassId) (n1 : Nat) (g : Nat → Int32) : va_W := [(h0, .inl (d0, n0, .inl f)), (h1, .inl (d1, n1, .inl g))]
/-- merging under way: i places of h written, out of fr .. p-1 and mid .. q-1 of g -/
def sg_mg (fr mid to i p q : Nat) (f g h : Nat → Int32) : Prop := (fr ≤ p ∧ p ≤ mid ∧ mid ≤ q ∧ q ≤ to ∧ i + mid = p + q) ∧ (∀ c, sg_ct c h fr (i - fr) = sg_ct c g fr (p - fr) + sg_ct c g mid (q - mid)) ∧ sg_so fr i h ∧ (∀ u, fr ≤ u → u < i → ∀ w, (p ≤ w ∧ w < mid) ∨ (q ≤ w ∧ w < to) → (h u).toInt ≤ (g w).toInt) ∧ (∀ k, k < fr ∨ to ≤ k → h k = f k)
theorem sg_mg_0 {fr mid to : Nat} {f g h : Nat → Int32} (h1 : fr ≤ mid) (h2 : mid ≤ to) (hf : ∀ k, k < fr ∨ to ≤ k → h k = f k) : sg_mg fr mid to fr fr mid f g h :=
  ⟨⟨by omega, h1, by omega, h2, by omega⟩, fun c => by rw [Nat.sub_self, Nat.sub_self]; rfl, fun u w a b c => by omega, fun u a b => by omega, hf⟩
theorem sg_ct_snoc (c : Int32 → Bool) (h : Nat → Int32) {fr i : Nat} (x : Int32) (hi : fr ≤ i) : sg_ct c (upd h i x) fr (i + 1 - fr) = sg_ct c h fr (i - fr) + sg_b (c x) := by
  have e : i + 1 - fr = (i - fr) + 1 := by omega
  rw [e]
  show sg_ct c (upd h i x) fr (i - fr) + sg_b (c (upd h i x (fr + (i - fr)))) = _
  rw [show fr + (i - fr) = i by omega, pk_us, sg_ct_congr (f := upd h i x) (g := h) _ (fun k _ hk => pk_un (by omega))]
theorem sg_ct_next (c : Int32 → Bool) (g : Nat → Int32) {fr p : Nat} (hp : fr ≤ p) : sg_ct c g fr (p + 1 - fr) = sg_ct c g fr (p - fr) + sg_b (c (g p)) := by
  have e : p + 1 - fr = (p - fr) + 1 := by omega
  rw [e]
  show sg_ct c g fr (p - fr) + sg_b (c (g (fr + (p - fr)))) = _
  rw [show fr + (p - fr) = p by omega]
theorem sg_so_snoc {fr i : Nat} {h : Nat → Int32} {x : Int32} (hs : sg_so fr i h) (hx : ∀ u, fr ≤ u → u < i → (h u).toInt ≤ x.toInt) : sg_so fr (i + 1) (upd h i x) := by
  intro u w a b c
  by_cases k1 : w = i
  · rw [k1, pk_us]
    by_cases k2 : u = i
    · rw [k2, pk_us]; exact Int.le_refl _
    · rw [pk_un k2]; exact hx u a (by omega)
  · rw [pk_un k1, pk_un (by omega)]; exact hs u w a b (by omega)
theorem sg_mg_p {fr mid to i p q : Nat} {f g h : Nat → Int32} (H : sg_mg fr mid to i p q f g h) (hp : p < mid) (hs : sg_so fr mid g) (hq : ∀ w, q ≤ w → w < to → (g p).toInt ≤ (g w).toInt) : sg_mg fr mid to (i + 1) (p + 1) q f g (upd h i (g p)) := by
  obtain ⟨⟨a1, a2, a3, a4, a5⟩, b, c, d, e⟩ := H
  refine ⟨⟨by omega, by omega, a3, a4, by omega⟩, fun z => ?_, sg_so_snoc c (fun u h1 h2 => d u h1 h2 p (Or.inl ⟨by omega, hp⟩)), fun u h1 h2 w hw => ?_, fun k hk => ?_⟩
  · rw [sg_ct_snoc z h _ (by omega), sg_ct_next z g a1, b z]; omega
  · by_cases k1 : u = i
    · rw [k1, pk_us]
      rcases hw with ⟨w1, w2⟩ | ⟨w1, w2⟩
      · exact hs p w a1 (by omega) w2
      · exact hq w w1 w2
    · rw [pk_un k1]
      exact d u h1 (by omega) w (by omega)
  · rw [pk_un (by omega)]; exact e k hk
theorem sg_mg_q {fr mid to i p q : Nat} {f g h : Nat → Int32} (H : sg_mg fr mid to i p q f g h) (hq : q < to) (hs : sg_so mid to g) (hp : ∀ w, p ≤ w → w < mid → (g q).toInt ≤ (g w).toInt) : sg_mg fr mid to (i + 1) p (q + 1) f g (upd h i (g q)) := by
  obtain ⟨⟨a1, a2, a3, a4, a5⟩, b, c, d, e⟩ := H
  refine ⟨⟨a1, a2, by omega, by omega, by omega⟩, fun z => ?_, sg_so_snoc c (fun u h1 h2 => d u h1 h2 q (Or.inr ⟨by omega, hq⟩)), fun u h1 h2 w hw => ?_, fun k hk => ?_⟩
  · rw [sg_ct_snoc z h _ (by omega), sg_ct_next z g a3, b z]; omega
  · by_cases k1 : u = i
    · rw [k1, pk_us]
      rcases hw with ⟨w1, w2⟩ | ⟨w1, w2⟩
      · exact hp w w1 w2
      · exact hs q w a3 (by omega) w2
    · rw [pk_un k1]
      exact d u h1 (by omega) w (by omega)
  · rw [pk_un (by omega)]; exact e k hk
theorem sg_mg_end {fr mid to p q : Nat} {f g h : Nat → Int32} (H : sg_mg fr mid to to p q f g h) (hc : ∀ c, sg_ct c g fr (to - fr) = sg_ct c f fr (to - fr)) : sg_pm fr to f h ∧ sg_so fr to h := by
  obtain ⟨⟨a1, a2, a3, a4, a5⟩, b, c, d, e⟩ := H
  refine ⟨⟨e, fun z => ?_⟩, c⟩
  have e1 : p = mid := by omega
  have e2 : q = to := by omega
  have b1 := b z
  rw [e1, e2] at b1
  have e3 : to - fr = (mid - fr) + (to - mid) := by omega
  rw [← hc z, b1, e3, sg_ct_add, show fr + (mid - fr) = mid by omega]
/-- the two halves in order, and the last of the first not above the first of the second: copied, all in order -/
theorem sg_mg_cp {fr mid to : Nat} {f f2 g h : Nat → Int32} (h1 : fr < mid) (h2 : mid < to) (s1 : sg_so fr mid g) (s2 : sg_so mid to g) (hm : (g (mid - 1)).toInt ≤ (g mid).toInt) (hh : h = va_cpy g f2 fr fr (to - fr)) (hf : ∀ k, k < fr ∨ to ≤ k → f2 k = f k) (hc : ∀ c, sg_ct c g fr (to - fr) = sg_ct c f fr (to - fr)) : sg_pm fr to f h ∧ sg_so fr to h := by
  have hi : ∀ k, fr ≤ k → k < to → h k = g k := fun k a b => by
    rw [hh, pk_cpy_in a (by omega)]; congr 1; omega
  have ho : ∀ k, k < fr ∨ to ≤ k → h k = f k := fun k a => by
    rw [hh, pk_cpy_out (by omega)]; exact hf k a
  refine ⟨⟨ho, fun c => ?_⟩, fun u w a b c => ?_⟩
  · rw [← hc c]
    exact sg_ct_congr _ (fun k a b => hi k a (by omega))
  · rw [hi u a (by omega), hi w (by omega) c]
    by_cases k1 : w < mid
    · exact s1 u w a b k1
    · by_cases k2 : mid ≤ u
      · exact s2 u w k2 b c
      · have a1 := s1 u (mid - 1) a (by omega) (by omega)
        have a2 := s2 mid w (by omega) (by omega) c
        omega
/-- what mergeSort with a support leaves: the first array in order, the second rearranged within the stretch -/
def sg_mpost (fr to : Nat) (f g : Nat → Int32) (u : (Nat → Int32) × (Nat → Int32)) : Prop := (sg_pm fr to f u.1 ∧ sg_so fr to u.1) ∧ (∀ k, k < fr ∨ to ≤ k → u.2 k = g k) ∧ sg_sh u.2
theorem sg_halves {fr mid to : Nat} {f g g1 g2 : Nat → Int32} (h1 : fr ≤ mid) (h2 : mid ≤ to) (hfg : ∀ k, fr ≤ k → k < to → g k = f k) (p1 : sg_pm fr mid g g1) (s1 : sg_so fr mid g1) (p2 : sg_pm mid to g1 g2) : (∀ c, sg_ct c g2 fr (to - fr) = sg_ct c f fr (to - fr)) ∧ sg_so fr mid g2 ∧ (∀ k, k < fr ∨ to ≤ k → g2 k = g k) := by
  have p := (p1.wd (Nat.le_refl _) h1 h2).tr (p2.wd h1 h2 (Nat.le_refl _))
  refine ⟨fun c => ?_, fun u w a b c => ?_, p.1⟩
  · rw [p.2 c]
    exact sg_ct_congr _ (fun k a b => hfg k a (by omega))
  · rw [p2.1 u (by omega), p2.1 w (by omega)]; exact s1 u w a b c
theorem sg_cpy_sh {f g : Nat → Int32} {sp dp n : Nat} (hf : sg_sh f) (hg : sg_sh g) : sg_sh (va_cpy f g sp dp n) := by
  intro k
  by_cases h : dp ≤ k ∧ k < dp + n
  · rw [pk_cpy_in h.1 h.2]; exact hf _
  · rw [pk_cpy_out (by omega)]; exact hg k
theorem sg_fit {x : Int32} (h : vp_nar .short x = x) : fits .short (.int x) = true := by
  rw [vp_nar_short] at h
  rw [← h]; exact pk_fs _
end
section
/-! Arrays.copyOf; ShortArrays.mergeSort with a support, without one, and of three arguments -/
theorem nm_copyOf : s_nm yJ2_copyOf 2 := by decide +kernel
theorem nm_mergeSort : s_nm yX2_mergeSort 3 := by decide +kernel
theorem nm_mergeSort_2 : s_nm yX2_mergeSort_2 4 := by decide +kernel
theorem s_kS {G : va_G} {cl : List vw_C} {tys : List (ClassId × FieldType)} {s : State} {d : ClassId} (hK : va_K G cl tys s) (t0 : Nat) (ht : tys[t0]? = some (d, .short)) : s.vm.findClass "[S" = some d := (hK.2 t0 _ ht).2
set_option maxHeartbeats 4000000 in
set_option maxRecDepth 100000 in
/-- Arrays.copyOf(x, to): a new array with x's first places -/
theorem m_copyOf {l : Launch} {G : va_G} {cl : List vw_C} {h0 : Nat} {d0 : ClassId} {n0 : Nat} {f : Nat → Int32} (hn0 : n0 ≤ 48) (hf : sg_sh f) {to : Nat} (hto : to ≤ n0) : s_Mr l yJ2_copyOf cJ2_copyOf 3 .short (s_rk 2 1 48) G cl [.ref h0, .int (nI to)] (s_w1 h0 d0 n0 f) [(d0, .short)] (fun u : ClassId × (Nat → Int32) => (∀ k, k < to → u.2 k = f k) ∧ sg_sh u.2) (fun u a => s_w2 h0 d0 n0 f a u.1 to u.2) (fun u => [(d0, .short), (u.1, .short)]) 1 48 := by
  refine s_ofr (by decide) (Nat.le_of_ble_eq_true rfl) ?_
  intro p e s m args below meth c Q A ls hx hb hml hown hts hN hA hK hP hD hS hl hret
  have hl : lv_has ls 3 [(0, .ref h0), (1, .int (nI to))] := hl
  refine lv_iload_n hx hb dJ2_copyOf_0 rfl (lv_at hl 1 rfl) ?_
  refine lv_aload_n hx hb dJ2_copyOf_1 rfl (lv_at hl 0 rfl) ?_
  refine va_alen (v := nI n0) hx hb hK hP 0 0 rfl rfl rfl dJ2_copyOf_2 ?_
  refine s_nne (tgt := 14) hx hb dJ2_copyOf_3 (by decide) (by omega) (by omega) (fun c1 => ?_) (fun c1 => ?_)
  · refine lv_iload_n hx hb dJ2_copyOf_14 rfl (lv_at hl 1 rfl) ?_
    refine va_newa (atype := .short) (ty := .short) (a0 := (to, .inl fun _ => 0)) (N' := to) hx hb (hts _ q23) rfl hK hP hD hS hA (fun _ => rfl) (nI_pos (by omega)) (nI_clamp (by omega)) (by show to * 2 ≤ _; omega) (by show 0 + 1 ≤ 1; omega) (by show 0 + to ≤ 48; omega) dJ2_copyOf_15 (fun q cA H hK hP hD hS => ?_)
    have hP : va_P G cl (s_w2 h0 d0 n0 f q cA to (fun _ => 0)) H := hP
    have hD : va_D A (s_w2 h0 d0 n0 f q cA to (fun _ => 0)) := hD
    have hK : va_K G cl [(d0, .short), (cA, .short)] s := hK
    refine lv_astore_n (lv' := [(2, .ref q), (0, .ref h0), (1, .int (nI to))]) hx hb dJ2_copyOf_17 rfl hl (by decide) rfl (fun ls hl => ?_)
    refine lv_aload_n hx hb dJ2_copyOf_18 rfl (lv_at hl 1 rfl) ?_
    refine lv_iconst (v := nI 0) hx hb dJ2_copyOf_19 (by decide) ?_
    refine lv_aload_n hx hb dJ2_copyOf_20 rfl (lv_at hl 0 rfl) ?_
    refine lv_iconst (v := nI 0) hx hb dJ2_copyOf_21 (by decide) ?_
    refine lv_aload_n hx hb dJ2_copyOf_22 rfl (lv_at hl 1 rfl) ?_
    refine va_alen (v := nI n0) hx hb hK hP 0 0 rfl rfl rfl dJ2_copyOf_23 ?_
    refine lv_iload_n hx hb dJ2_copyOf_24 rfl (lv_at hl 2 rfl) ?_
    refine va_mmin hx hb (hml.trans hl.1.symm) hown (hts _ q91) (hts _ q61) (hts _ q8) (hts _ q62) (by show 1 ≤ 2; omega) (Nat.le_of_ble_eq_true rfl) (by show 0 + 1 ≤ 1; omega) (by show 0 + to ≤ 48; omega) dJ2_copyOf_25 ?_
    refine s_top (y := (nI to)) ((s_minN (by omega) (by omega)).trans (congrArg nI (by omega))) ?_
    refine va_copyi hx hb (hml.trans hl.1.symm) hown (hts _ q92) (hts _ q94) (hts _ q93) (hts _ q10) hK hP hD hS 0 1 0 1 rfl rfl rfl rfl rfl (nI_pos (by omega)) (nI_pos (by omega)) (nI_pos (by omega)) (by rw [nI_clamp (by omega), nI_clamp (by omega)]; omega) (by rw [nI_clamp (by omega), nI_clamp (by omega)]; omega) (fun i _ => sg_fit (hf _)) (by show 1 ≤ 2; omega) (by decide) dJ2_copyOf_28 (fun H locs hP hD hS => ?_)
    rw [nI_clamp (by omega), nI_clamp (by omega)] at hP hD
    have hP : va_P G cl (s_w2 h0 d0 n0 f q cA to (va_cpy f (fun _ => 0) 0 0 to)) H := hP
    have hD : va_D A (s_w2 h0 d0 n0 f q cA to (va_cpy f (fun _ => 0) 0 0 to)) := hD
    refine lv_aload_n hx hb dJ2_copyOf_31 rfl (lv_at hl 0 rfl) ?_
    refine W.widen (k := 1) (n := 48) (by omega) (by omega) ?_
    exact hret (cA, va_cpy f (fun _ => 0) 0 0 to) q _ _ _ _ ⟨fun k hk => by show va_cpy f (fun _ => 0) 0 0 to k = f k; rw [pk_cpy_in (by omega) (by omega)]; congr 1; omega, sg_cpy_sh hf (fun _ => by decide)⟩ hP hK hD hS dJ2_copyOf_32
  · subst c1
    refine lv_aload_n hx hb dJ2_copyOf_6 rfl (lv_at hl 0 rfl) ?_
    refine va_clone hx hb (hml.trans hl.1.symm) hown (hts _ q84) (hts _ q85) (hts _ q86) (hts _ q87) (hts _ q88) hN hK hP hD hS hA 0 0 rfl rfl (s_kS hK 0 rfl) (fun i v hv => ?_) (by show 1 ≤ 2; omega) (by decide) (by show 0 + 1 ≤ 1; omega) (by show 0 + to ≤ 48; omega) dJ2_copyOf_7 (fun q H hK hP hD hS => ?_)
    · have hi : i < to := by
        have h9 := (Array.getElem?_eq_some_iff.mp hv).1
        rw [vp_cell_i, arrV_size] at h9; exact h9
      rw [vp_cell_i, arrV_read _ _ hi] at hv
      rw [← Option.some.inj hv]; exact sg_fit (hf i)
    have hP : va_P G cl (s_w2 h0 d0 to f q d0 to f) H := hP
    have hD : va_D A (s_w2 h0 d0 to f q d0 to f) := hD
    have hK : va_K G cl [(d0, .short), (d0, .short)] s := hK
    refine va_castA hx hb hown (hts _ q90) hP 1 rfl (s_kS hK 0 rfl) dJ2_copyOf_10 ?_
    refine W.widen (k := 1) (n := 48) (by omega) (by show 0 + to ≤ 48; omega) ?_
    exact hret (d0, f) q _ _ _ _ ⟨fun k hk => rfl, hf⟩ hP hK hD hS dJ2_copyOf_13
set_option maxHeartbeats 4000000 in
set_option maxRecDepth 100000 in
/-- mergeSort(x, fr, to, supp) from its cut on (16 places or more): the support holds the same stretch -/
theorem w_merge29 {pp : Program} {l : Launch} {e : Env} {s : State} {m : MethodId} {args : Array Value} {below : List Frame} {meth : Method} {c : Code} {Q : State → Prop} {A : Nat → Prop} {G : va_G} {cl : List vw_C} {K MC MS cells slots k : Nat} {h0 h1 : Nat} {d0 d1 : ClassId} {n0 n1 : Nat} (hn0 : n0 ≤ 48) (hn1 : n1 ≤ 48) {fr to : Nat} {f g : Nat → Int32}
    (IH : ∀ (h0 h1 : Nat) (d0 d1 : ClassId) (n0 n1 : Nat) (f g : Nat → Int32) (fr' to' : Nat), n0 ≤ 48 → n1 ≤ 48 → sg_sh f → sg_sh g → fr' ≤ to' → to' ≤ n0 ∧ to' ≤ n1 → to' - fr' < to - fr → 0 = 0 → (∀ k, fr' ≤ k → k < to' → g k = f k) → s_Mv l yX2_mergeSort_2 cX2_mergeSort_2 9 (s_rk k 0 0) G cl [.ref h0, .int (nI fr'), .int (nI to'), .ref h1] (s_w2 h0 d0 n0 f h1 d1 n1 g) [(d0, .short), (d1, .short)] (sg_mpost fr' to' f g) (fun u => s_w2 h0 d0 n0 u.1 h1 d1 n1 u.2) 0 0)
    (hk : k + 1 ≤ K) (hk2 : 2 ≤ K) (hcells : cells ≤ MC) (hslots : slots ≤ MS) (hx : pp.tables.exec = Jvm.exec) (hb : c.code = cX2_mergeSort_2) (hml : c.maxLocals = 9) (hown : s.vm.findClass yX2_mergeSort_2.cls = some m.cls) (hts : ∀ w ∈ lw_all, w.before args s = true) (hN : va_Nw s_cw s) (hA : ∀ q : Nat, s.heap.size ≤ q → A q) (hK : va_K G cl [(d0, .short), (d1, .short)] s)
    (hf : sg_sh f) (hg : sg_sh g) (h16 : fr + 16 ≤ to) (ht0 : to ≤ n0) (ht1 : to ≤ n1) (hfg : ∀ k, fr ≤ k → k < to → g k = f k) (hret : ∀ (u : (Nat → Int32) × (Nat → Int32)) (H : Heap) (locs : List Loc) (pc : Nat) (ls1 : Array Slot), sg_mpost fr to f g u → va_P G cl (s_w2 h0 d0 n0 u.1 h1 d1 n1 u.2) H → va_D A (s_w2 h0 d0 n0 u.1 h1 d1 n1 u.2) → va_S A s.heap H locs → decode cX2_mergeSort_2 pc = .ok (.return_, 1) → W pp l e (s_rk K MC MS) s m args below meth c H locs cells slots Q (F0 m pc ls1 [])) :
    ∀ (H : Heap) (locs : List Loc) (ls : Array Slot), va_P G cl (s_w2 h0 d0 n0 f h1 d1 n1 g) H → va_D A (s_w2 h0 d0 n0 f h1 d1 n1 g) → va_S A s.heap H locs → lv_has ls 9 [(0, .ref h0), (1, .int (nI fr)), (2, .int (nI to)), (3, .ref h1), (4, .int (nI (to - fr)))] → W pp l e (s_rk K MC MS) s m args below meth c H locs cells slots Q (F0 m 29 ls []) := by
  intro H locs ls hP hD hS hl
  obtain ⟨mid, hmid⟩ : ∃ z, z = (fr + to) / 2 := ⟨_, rfl⟩
  refine lv_iload_n hx hb dX2_mergeSort_2_29 rfl (lv_at hl 1 rfl) ?_
  refine lv_iload_n hx hb dX2_mergeSort_2_30 rfl (lv_at hl 2 rfl) ?_
  refine s_addn (z := fr + to) hx hb dX2_mergeSort_2_31 (by omega) ?_
  refine lv_iconst (v := nI 1) hx hb dX2_mergeSort_2_32 (by decide) ?_
  refine s_shr1 (z := mid) hx hb dX2_mergeSort_2_33 (by omega) (by omega) ?_
  refine lv_istore (lv' := [(5, .int (nI mid)), (0, .ref h0), (1, .int (nI fr)), (2, .int (nI to)), (3, .ref h1), (4, .int (nI (to - fr)))]) hx hb dX2_mergeSort_2_34 hl (by decide) rfl (fun ls hl => ?_)
  refine lv_aload_n hx hb dX2_mergeSort_2_36 rfl (lv_at hl 4 rfl) ?_
  refine lv_iload_n hx hb dX2_mergeSort_2_37 rfl (lv_at hl 2 rfl) ?_
  refine lv_iload hx hb dX2_mergeSort_2_38 (lv_at hl 0 rfl) ?_
  refine lv_aload_n hx hb dX2_mergeSort_2_40 rfl (lv_at hl 1 rfl) ?_
  refine s_cSv (wr := []) (ws' := fun u => s_w2 h0 d0 n0 u.2 h1 d1 n1 u.1) hx hb hml hl.1 hown hts hN hA hK hP hD hS (IH h1 h0 d1 d0 n1 n0 g f fr mid hn1 hn0 hg hf (by omega) (by omega) (by omega) (by omega) (fun k a b => (hfg k a (by omega)).symm)) (lw_S q75 q76 q6 q77) 4 nm_mergeSort_2 rfl (s_rmk (by omega) (by decide) (by omega) (by omega)) (by decide) [1, 0] [] [1, 0] [1, 0] rfl rfl rfl (fun _ => rfl) rfl dX2_mergeSort_2_41 rfl (fun u1 H locs eu1 hP hD hS => ?_)
  obtain ⟨g1, f1⟩ := u1
  obtain ⟨⟨p1, s1⟩, o1, hf1⟩ := eu1
  have hg1 : sg_sh g1 := p1.sh hg
  have hP : va_P G cl (s_w2 h0 d0 n0 f1 h1 d1 n1 g1) H := hP
  have hD : va_D A (s_w2 h0 d0 n0 f1 h1 d1 n1 g1) := hD
  refine lv_aload_n hx hb dX2_mergeSort_2_44 rfl (lv_at hl 4 rfl) ?_
  refine lv_iload hx hb dX2_mergeSort_2_45 (lv_at hl 0 rfl) ?_
  refine lv_iload_n hx hb dX2_mergeSort_2_47 rfl (lv_at hl 3 rfl) ?_
  refine lv_aload_n hx hb dX2_mergeSort_2_48 rfl (lv_at hl 1 rfl) ?_
  refine s_cSv (wr := []) (ws' := fun u => s_w2 h0 d0 n0 u.2 h1 d1 n1 u.1) hx hb hml hl.1 hown hts hN hA hK hP hD hS (IH h1 h0 d1 d0 n1 n0 g1 f1 mid to hn1 hn0 hg1 hf1 (by omega) (by omega) (by omega) (by omega) (fun k a b => by have a1 : f1 k = f k := o1 k (by omega); have a2 : g1 k = g k := p1.1 k (by omega); rw [a1, a2]; exact (hfg k (by omega) b).symm)) (lw_S q75 q76 q6 q77) 4 nm_mergeSort_2 rfl (s_rmk (by omega) (by decide) (by omega) (by omega)) (by decide) [1, 0] [] [1, 0] [1, 0] rfl rfl rfl (fun _ => rfl) rfl dX2_mergeSort_2_49 rfl (fun u2 H locs eu2 hP hD hS => ?_)
  obtain ⟨g2, f2⟩ := u2
  obtain ⟨⟨p2, s2⟩, o2, hf2⟩ := eu2
  have s2 : sg_so mid to g2 := s2
  have hg2 : sg_sh g2 := p2.sh hg1
  obtain ⟨hc2, s1, og2⟩ := sg_halves (by omega) (by omega) hfg p1 s1 p2
  have s1 : sg_so fr mid g2 := s1
  have of2 : ∀ k, k < fr ∨ to ≤ k → f2 k = f k := fun k hk => (o2 k (by omega)).trans (o1 k (by omega))
  have hP : va_P G cl (s_w2 h0 d0 n0 f2 h1 d1 n1 g2) H := hP
  have hD : va_D A (s_w2 h0 d0 n0 f2 h1 d1 n1 g2) := hD
  clear p1 p2 o1 o2 hf1 hg1
  refine lv_aload_n hx hb dX2_mergeSort_2_52 rfl (lv_at hl 4 rfl) ?_
  refine lv_iload hx hb dX2_mergeSort_2_53 (lv_at hl 0 rfl) ?_
  refine lv_iconst (v := nI 1) hx hb dX2_mergeSort_2_55 (by decide) ?_
  refine s_subn (z := mid - 1) hx hb dX2_mergeSort_2_56 (by omega) ?_
  refine s_ld hx hb hK hP 1 1 rfl rfl hn1 (by omega) dX2_mergeSort_2_57 ?_
  refine lv_aload_n hx hb dX2_mergeSort_2_58 rfl (lv_at hl 4 rfl) ?_
  refine lv_iload hx hb dX2_mergeSort_2_59 (lv_at hl 0 rfl) ?_
  refine s_ld hx hb hK hP 1 1 rfl rfl hn1 (by omega) dX2_mergeSort_2_61 ?_
  refine s_vgt (tgt := 75) hx hb dX2_mergeSort_2_62 (by decide) (fun c1 => ?_) (fun c1 => ?_)
  · refine lv_iload_n hx hb dX2_mergeSort_2_75 rfl (lv_at hl 2 rfl) ?_
    refine lv_istore (lv' := [(6, .int (nI fr)), (5, .int (nI mid)), (0, .ref h0), (1, .int (nI fr)), (2, .int (nI to)), (3, .ref h1), (4, .int (nI (to - fr)))]) hx hb dX2_mergeSort_2_76 hl (by decide) rfl (fun ls hl => ?_)
    refine lv_iload_n hx hb dX2_mergeSort_2_78 rfl (lv_at hl 3 rfl) ?_
    refine lv_istore (lv' := [(7, .int (nI fr)), (6, .int (nI fr)), (5, .int (nI mid)), (0, .ref h0), (1, .int (nI fr)), (2, .int (nI to)), (3, .ref h1), (4, .int (nI (to - fr)))]) hx hb dX2_mergeSort_2_79 hl (by decide) rfl (fun ls hl => ?_)
    refine lv_iload hx hb dX2_mergeSort_2_81 (lv_at hl 2 rfl) ?_
    refine lv_istore (lv' := [(8, .int (nI mid)), (7, .int (nI fr)), (6, .int (nI fr)), (5, .int (nI mid)), (0, .ref h0), (1, .int (nI fr)), (2, .int (nI to)), (3, .ref h1), (4, .int (nI (to - fr)))]) hx hb dX2_mergeSort_2_83 hl (by decide) rfl (fun ls hl => ?_)
    have loop : ∀ (t i p q : Nat) (h : Nat → Int32) (H : Heap) (locs : List Loc) (ls : Array Slot), to < i + t → sg_mg fr mid to i p q f g2 h → va_P G cl (s_w2 h0 d0 n0 h h1 d1 n1 g2) H → va_D A (s_w2 h0 d0 n0 h h1 d1 n1 g2) → va_S A s.heap H locs → lv_has ls 9 [(0, .ref h0), (1, .int (nI fr)), (2, .int (nI to)), (3, .ref h1), (4, .int (nI (to - fr))), (5, .int (nI mid)), (6, .int (nI i)), (7, .int (nI p)), (8, .int (nI q))] → W pp l e (s_rk K MC MS) s m args below meth c H locs cells slots Q (F0 m 85 ls []) := by
      intro t
      induction t with
      | zero => intro i p q h H locs ls ht hm; obtain ⟨⟨b1, b2, b3, b4, b5⟩, -⟩ := hm; omega
      | succ t ih =>
      intro i p q h H locs ls ht hm hP hD hS hl
      obtain ⟨b1, b2, b3, b4, b5⟩ := hm.1
      refine lv_iload hx hb dX2_mergeSort_2_85 (lv_at hl 6 rfl) ?_
      refine lv_iload_n hx hb dX2_mergeSort_2_87 rfl (lv_at hl 2 rfl) ?_
      refine s_nge (tgt := 146) hx hb dX2_mergeSort_2_88 (by decide) (by omega) (by omega) (fun c1 => ?_) (fun c1 => ?_)
      · have hi : i = to := by omega
        subst hi
        exact hret (h, g2) _ _ _ _ ⟨sg_mg_end hm hc2, og2, hg2⟩ hP hD hS dX2_mergeSort_2_146
      · refine lv_iload hx hb dX2_mergeSort_2_91 (lv_at hl 8 rfl) ?_
        refine lv_iload_n hx hb dX2_mergeSort_2_93 rfl (lv_at hl 2 rfl) ?_
        refine s_nge (tgt := 115) hx hb dX2_mergeSort_2_94 (by decide) (by omega) (by omega) (fun c2 => ?_) (fun c2 => ?_)
        · have hpm : p < mid := by omega
          refine lv_aload_n hx hb dX2_mergeSort_2_115 rfl (lv_at hl 0 rfl) ?_
          refine lv_iload hx hb dX2_mergeSort_2_116 (lv_at hl 6 rfl) ?_
          refine lv_aload_n hx hb dX2_mergeSort_2_118 rfl (lv_at hl 3 rfl) ?_
          refine lv_iload hx hb dX2_mergeSort_2_119 (lv_at hl 7 rfl) ?_
          refine lv_iinc (v := (nI (p + 1))) (lv' := [(7, .int (nI (p + 1))), (0, .ref h0), (1, .int (nI fr)), (2, .int (nI to)), (3, .ref h1), (4, .int (nI (to - fr))), (5, .int (nI mid)), (6, .int (nI i)), (8, .int (nI q))]) hx hb dX2_mergeSort_2_121 hl (k := 7) rfl (s_inc (by omega)) (by decide) rfl (fun ls hl => ?_)
          refine s_ld hx hb hK hP 1 1 rfl rfl hn1 (by omega) dX2_mergeSort_2_124 ?_
          refine s_st (ws' := fun h2 => s_w2 h0 d0 n0 h2 h1 d1 n1 g2) hx hb hK hP hD hS 0 0 rfl (fun _ => rfl) rfl hn0 (by omega) (hg2 _) dX2_mergeSort_2_125 (fun h2 H locs e2 hP hD hS => ?_)
          refine lv_goto (tgt := 140) hx hb dX2_mergeSort_2_126 (by decide) ?_
          refine lv_iinc (v := (nI (i + 1))) (lv' := [(6, .int (nI (i + 1))), (7, .int (nI (p + 1))), (0, .ref h0), (1, .int (nI fr)), (2, .int (nI to)), (3, .ref h1), (4, .int (nI (to - fr))), (5, .int (nI mid)), (8, .int (nI q))]) hx hb dX2_mergeSort_2_140 hl (k := 7) rfl (s_inc (by omega)) (by decide) rfl (fun ls hl => ?_)
          refine lv_goto (tgt := 85) hx hb dX2_mergeSort_2_143 (by decide) ?_
          exact ih (i + 1) (p + 1) q h2 H locs ls (by omega) (by rw [e2]; exact sg_mg_p hm hpm s1 (fun w w1 w2 => by omega)) hP hD hS (lv_sub hl [2, 3, 4, 5, 6, 7, 0, 1, 8] rfl)
        · refine lv_iload hx hb dX2_mergeSort_2_97 (lv_at hl 7 rfl) ?_
          refine lv_iload hx hb dX2_mergeSort_2_99 (lv_at hl 5 rfl) ?_
          refine s_nge (tgt := 129) hx hb dX2_mergeSort_2_101 (by decide) (by omega) (by omega) (fun c3 => ?_) (fun c3 => ?_)
          · have hqt : q < to := by omega
            refine lv_aload_n hx hb dX2_mergeSort_2_129 rfl (lv_at hl 0 rfl) ?_
            refine lv_iload hx hb dX2_mergeSort_2_130 (lv_at hl 6 rfl) ?_
            refine lv_aload_n hx hb dX2_mergeSort_2_132 rfl (lv_at hl 3 rfl) ?_
            refine lv_iload hx hb dX2_mergeSort_2_133 (lv_at hl 8 rfl) ?_
            refine lv_iinc (v := (nI (q + 1))) (lv' := [(8, .int (nI (q + 1))), (0, .ref h0), (1, .int (nI fr)), (2, .int (nI to)), (3, .ref h1), (4, .int (nI (to - fr))), (5, .int (nI mid)), (6, .int (nI i)), (7, .int (nI p))]) hx hb dX2_mergeSort_2_135 hl (k := 8) rfl (s_inc (by omega)) (by decide) rfl (fun ls hl => ?_)
            refine s_ld hx hb hK hP 1 1 rfl rfl hn1 (by omega) dX2_mergeSort_2_138 ?_
            refine s_st (ws' := fun h2 => s_w2 h0 d0 n0 h2 h1 d1 n1 g2) hx hb hK hP hD hS 0 0 rfl (fun _ => rfl) rfl hn0 (by omega) (hg2 _) dX2_mergeSort_2_139 (fun h2 H locs e2 hP hD hS => ?_)
            refine lv_iinc (v := (nI (i + 1))) (lv' := [(6, .int (nI (i + 1))), (8, .int (nI (q + 1))), (0, .ref h0), (1, .int (nI fr)), (2, .int (nI to)), (3, .ref h1), (4, .int (nI (to - fr))), (5, .int (nI mid)), (7, .int (nI p))]) hx hb dX2_mergeSort_2_140 hl (k := 7) rfl (s_inc (by omega)) (by decide) rfl (fun ls hl => ?_)
            refine lv_goto (tgt := 85) hx hb dX2_mergeSort_2_143 (by decide) ?_
            exact ih (i + 1) p (q + 1) h2 H locs ls (by omega) (by rw [e2]; exact sg_mg_q hm hqt s2 (fun w w1 w2 => by omega)) hP hD hS (lv_sub hl [2, 3, 4, 5, 6, 7, 0, 8, 1] rfl)
          · refine lv_aload_n hx hb dX2_mergeSort_2_104 rfl (lv_at hl 3 rfl) ?_
            refine lv_iload hx hb dX2_mergeSort_2_105 (lv_at hl 7 rfl) ?_
            refine s_ld hx hb hK hP 1 1 rfl rfl hn1 (by omega) dX2_mergeSort_2_107 ?_
            refine lv_aload_n hx hb dX2_mergeSort_2_108 rfl (lv_at hl 3 rfl) ?_
            refine lv_iload hx hb dX2_mergeSort_2_109 (lv_at hl 8 rfl) ?_
            refine s_ld hx hb hK hP 1 1 rfl rfl hn1 (by omega) dX2_mergeSort_2_111 ?_
            refine s_vgt (tgt := 129) hx hb dX2_mergeSort_2_112 (by decide) (fun c4 => ?_) (fun c4 => ?_)
            · have hqt : q < to := by omega
              refine lv_aload_n hx hb dX2_mergeSort_2_129 rfl (lv_at hl 0 rfl) ?_
              refine lv_iload hx hb dX2_mergeSort_2_130 (lv_at hl 6 rfl) ?_
              refine lv_aload_n hx hb dX2_mergeSort_2_132 rfl (lv_at hl 3 rfl) ?_
              refine lv_iload hx hb dX2_mergeSort_2_133 (lv_at hl 8 rfl) ?_
              refine lv_iinc (v := (nI (q + 1))) (lv' := [(8, .int (nI (q + 1))), (0, .ref h0), (1, .int (nI fr)), (2, .int (nI to)), (3, .ref h1), (4, .int (nI (to - fr))), (5, .int (nI mid)), (6, .int (nI i)), (7, .int (nI p))]) hx hb dX2_mergeSort_2_135 hl (k := 8) rfl (s_inc (by omega)) (by decide) rfl (fun ls hl => ?_)
              refine s_ld hx hb hK hP 1 1 rfl rfl hn1 (by omega) dX2_mergeSort_2_138 ?_
              refine s_st (ws' := fun h2 => s_w2 h0 d0 n0 h2 h1 d1 n1 g2) hx hb hK hP hD hS 0 0 rfl (fun _ => rfl) rfl hn0 (by omega) (hg2 _) dX2_mergeSort_2_139 (fun h2 H locs e2 hP hD hS => ?_)
              refine lv_iinc (v := (nI (i + 1))) (lv' := [(6, .int (nI (i + 1))), (8, .int (nI (q + 1))), (0, .ref h0), (1, .int (nI fr)), (2, .int (nI to)), (3, .ref h1), (4, .int (nI (to - fr))), (5, .int (nI mid)), (7, .int (nI p))]) hx hb dX2_mergeSort_2_140 hl (k := 7) rfl (s_inc (by omega)) (by decide) rfl (fun ls hl => ?_)
              refine lv_goto (tgt := 85) hx hb dX2_mergeSort_2_143 (by decide) ?_
              exact ih (i + 1) p (q + 1) h2 H locs ls (by omega) (by rw [e2]; exact sg_mg_q hm hqt s2 (fun w w1 w2 => by have := s1 p w (by omega) w1 w2; omega)) hP hD hS (lv_sub hl [2, 3, 4, 5, 6, 7, 0, 8, 1] rfl)
            · have hpm : p < mid := by omega
              refine lv_aload_n hx hb dX2_mergeSort_2_115 rfl (lv_at hl 0 rfl) ?_
              refine lv_iload hx hb dX2_mergeSort_2_116 (lv_at hl 6 rfl) ?_
              refine lv_aload_n hx hb dX2_mergeSort_2_118 rfl (lv_at hl 3 rfl) ?_
              refine lv_iload hx hb dX2_mergeSort_2_119 (lv_at hl 7 rfl) ?_
              refine lv_iinc (v := (nI (p + 1))) (lv' := [(7, .int (nI (p + 1))), (0, .ref h0), (1, .int (nI fr)), (2, .int (nI to)), (3, .ref h1), (4, .int (nI (to - fr))), (5, .int (nI mid)), (6, .int (nI i)), (8, .int (nI q))]) hx hb dX2_mergeSort_2_121 hl (k := 7) rfl (s_inc (by omega)) (by decide) rfl (fun ls hl => ?_)
              refine s_ld hx hb hK hP 1 1 rfl rfl hn1 (by omega) dX2_mergeSort_2_124 ?_
              refine s_st (ws' := fun h2 => s_w2 h0 d0 n0 h2 h1 d1 n1 g2) hx hb hK hP hD hS 0 0 rfl (fun _ => rfl) rfl hn0 (by omega) (hg2 _) dX2_mergeSort_2_125 (fun h2 H locs e2 hP hD hS => ?_)
              refine lv_goto (tgt := 140) hx hb dX2_mergeSort_2_126 (by decide) ?_
              refine lv_iinc (v := (nI (i + 1))) (lv' := [(6, .int (nI (i + 1))), (7, .int (nI (p + 1))), (0, .ref h0), (1, .int (nI fr)), (2, .int (nI to)), (3, .ref h1), (4, .int (nI (to - fr))), (5, .int (nI mid)), (8, .int (nI q))]) hx hb dX2_mergeSort_2_140 hl (k := 7) rfl (s_inc (by omega)) (by decide) rfl (fun ls hl => ?_)
              refine lv_goto (tgt := 85) hx hb dX2_mergeSort_2_143 (by decide) ?_
              exact ih (i + 1) (p + 1) q h2 H locs ls (by omega) (by rw [e2]; exact sg_mg_p hm hpm s1 (fun w w1 w2 => by have := s2 q w (by omega) w1 w2; omega)) hP hD hS (lv_sub hl [2, 3, 4, 5, 6, 7, 0, 1, 8] rfl)
    exact loop (to - fr + 1) fr fr mid f2 H locs ls (by omega) (sg_mg_0 (by omega) (by omega) of2) hP hD hS (lv_sub hl [4, 5, 6, 7, 8, 3, 2, 1, 0] rfl)
  · refine lv_aload_n hx hb dX2_mergeSort_2_65 rfl (lv_at hl 4 rfl) ?_
    refine lv_iload_n hx hb dX2_mergeSort_2_66 rfl (lv_at hl 2 rfl) ?_
    refine lv_aload_n hx hb dX2_mergeSort_2_67 rfl (lv_at hl 1 rfl) ?_
    refine lv_iload_n hx hb dX2_mergeSort_2_68 rfl (lv_at hl 2 rfl) ?_
    refine lv_iload hx hb dX2_mergeSort_2_69 (lv_at hl 5 rfl) ?_
    refine va_copyi hx hb (hml.trans hl.1.symm) hown (hts _ q95) (hts _ q94) (hts _ q93) (hts _ q10) hK hP hD hS 1 0 1 0 rfl rfl rfl rfl rfl (nI_pos (by omega)) (nI_pos (by omega)) (nI_pos (by omega)) (by rw [nI_clamp (by omega), nI_clamp (by omega)]; omega) (by rw [nI_clamp (by omega), nI_clamp (by omega)]; omega) (fun i _ => sg_fit (hg2 _)) (by show 1 ≤ K; omega) (Nat.le_trans (m := 80) (by decide) (by show 80 ≤ 40 * K; omega)) dX2_mergeSort_2_71 (fun H locs hP hD hS => ?_)
    rw [nI_clamp (by omega), nI_clamp (by omega)] at hP hD
    exact hret (va_cpy g2 f2 fr fr (to - fr), g2) _ _ _ _ ⟨sg_mg_cp (by omega) (by omega) s1 s2 c1 rfl of2 hc2, og2, hg2⟩ hP hD hS dX2_mergeSort_2_74
set_option maxHeartbeats 4000000 in
set_option maxRecDepth 100000 in
/-- mergeSort(x, fr, to, supp), for stretches of at most d -/
theorem m_mergeSort_2 {l : Launch} {G : va_G} {cl : List vw_C} : ∀ (d : Nat) (h0 h1 : Nat) (d0 d1 : ClassId) (n0 n1 : Nat) (f g : Nat → Int32) (fr to : Nat), n0 ≤ 48 → n1 ≤ 48 → sg_sh f → sg_sh g → fr ≤ to → to ≤ n0 → to ≤ n1 → to - fr ≤ d → (∀ k, fr ≤ k → k < to → g k = f k) → s_Mv l yX2_mergeSort_2 cX2_mergeSort_2 9 (s_rk (d + 2) 0 0) G cl [.ref h0, .int (nI fr), .int (nI to), .ref h1] (s_w2 h0 d0 n0 f h1 d1 n1 g) [(d0, .short), (d1, .short)] (sg_mpost fr to f g) (fun u => s_w2 h0 d0 n0 u.1 h1 d1 n1 u.2) 0 0 := by
  intro d
  induction d using Nat.strongRecOn with
  | _ d IH =>
  intro h0 h1 d0 d1 n0 n1 f g fr to hn0 hn1 hf hg h12 ht0 ht1 hd hfg
  refine s_ofv (by decide) (Nat.le_of_ble_eq_true rfl) ?_
  intro p e s m args below meth c Q A ls hx hb hml hown hts hnm hN hA hK hP hD hS hl hret
  have hl : lv_has ls 9 [(0, .ref h0), (1, .int (nI fr)), (2, .int (nI to)), (3, .ref h1)] := hl
  refine lv_iload_n hx hb dX2_mergeSort_2_0 rfl (lv_at hl 2 rfl) ?_
  refine lv_iload_n hx hb dX2_mergeSort_2_1 rfl (lv_at hl 1 rfl) ?_
  refine s_subn (z := to - fr) hx hb dX2_mergeSort_2_2 (by omega) ?_
  refine lv_istore (lv' := [(4, .int (nI (to - fr))), (0, .ref h0), (1, .int (nI fr)), (2, .int (nI to)), (3, .ref h1)]) hx hb dX2_mergeSort_2_3 hl (by decide) rfl (fun ls hl => ?_)
  refine lv_iload hx hb dX2_mergeSort_2_5 (lv_at hl 0 rfl) ?_
  refine lv_bipush (v := nI 16) hx hb dX2_mergeSort_2_7 (by decide) ?_
  refine s_nge (tgt := 19) hx hb dX2_mergeSort_2_9 (by decide) (by omega) (by omega) (fun c1 => ?_) (fun c1 => ?_)
  · refine lv_aload_n hx hb dX2_mergeSort_2_19 rfl (lv_at hl 4 rfl) ?_
    refine lv_ifnonnull (tgt := 29) hx hb dX2_mergeSort_2_20 (by decide) ?_
    exact w_merge29 (k := d - 1 + 2) hn0 hn1 (fun h0 h1 d0 d1 n0 n1 f g fr' to' a1 a2 a3 a4 a5 a6 a7 _ a8 => IH (d - 1) (by omega) h0 h1 d0 d1 n0 n1 f g fr' to' a1 a2 a3 a4 a5 a6.1 a6.2 (by omega) a8) (by omega) (by omega) (Nat.zero_le _) (Nat.zero_le _) hx hb hml hown hts hN hA hK hf hg (by omega) ht0 ht1 hfg (fun u H locs pc ls1 a b c d e => hret u H locs pc ls1 a b c d e) _ _ ls hP hD hS (lv_sub hl [1, 2, 3, 4, 0] rfl)
  · refine lv_aload_n hx hb dX2_mergeSort_2_12 rfl (lv_at hl 1 rfl) ?_
    refine lv_iload_n hx hb dX2_mergeSort_2_13 rfl (lv_at hl 2 rfl) ?_
    refine lv_iload_n hx hb dX2_mergeSort_2_14 rfl (lv_at hl 3 rfl) ?_
    refine s_cSv (wr := [(h1, .inl (d1, n1, .inl g))]) (ws' := fun f2 => s_w2 h0 d0 n0 f2 h1 d1 n1 g) hx hb hml hl.1 hown hts hN hA hK hP hD hS (m_insertionSort hn0 hf (a := fr) (b := to) h12 ht0) (lw_S q78 q79 q6 q80) 3 nm_insertionSort rfl (s_rmk (by omega) (by decide) (by omega) (by omega)) (by decide) [0] [1] [0] [1, 0] rfl rfl rfl (fun _ => rfl) rfl dX2_mergeSort_2_15 rfl (fun f2 H locs e2 hP hD hS => ?_)
    exact hret (f2, g) _ _ _ _ ⟨e2, fun _ _ => rfl, hg⟩ hP hD hS dX2_mergeSort_2_18
set_option maxHeartbeats 4000000 in
set_option maxRecDepth 100000 in
/-- mergeSort(x, fr, to, null) -/
theorem m_mergeSort_N {l : Launch} {G : va_G} {cl : List vw_C} {h0 : Nat} {d0 : ClassId} {n0 : Nat} {f : Nat → Int32} (hn0 : n0 ≤ 48) (hf : sg_sh f) {fr to : Nat} (h12 : fr ≤ to) (ht0 : to ≤ n0) : s_Mv l yX2_mergeSort_2 cX2_mergeSort_2 9 (s_rk 51 1 48) G cl [.ref h0, .int (nI fr), .int (nI to), .null] (s_w1 h0 d0 n0 f) [(d0, .short)] (fun g => sg_pm fr to f g ∧ sg_so fr to g) (fun g => s_w1 h0 d0 n0 g) 1 48 := by
  refine s_ofv (by decide) (Nat.le_of_ble_eq_true rfl) ?_
  intro p e s m args below meth c Q A ls hx hb hml hown hts hnm hN hA hK hP hD hS hl hret
  have hl : lv_has ls 9 [(0, .ref h0), (1, .int (nI fr)), (2, .int (nI to)), (3, .null)] := hl
  refine lv_iload_n hx hb dX2_mergeSort_2_0 rfl (lv_at hl 2 rfl) ?_
  refine lv_iload_n hx hb dX2_mergeSort_2_1 rfl (lv_at hl 1 rfl) ?_
  refine s_subn (z := to - fr) hx hb dX2_mergeSort_2_2 (by omega) ?_
  refine lv_istore (lv' := [(4, .int (nI (to - fr))), (0, .ref h0), (1, .int (nI fr)), (2, .int (nI to)), (3, .null)]) hx hb dX2_mergeSort_2_3 hl (by decide) rfl (fun ls hl => ?_)
  refine lv_iload hx hb dX2_mergeSort_2_5 (lv_at hl 0 rfl) ?_
  refine lv_bipush (v := nI 16) hx hb dX2_mergeSort_2_7 (by decide) ?_
  refine s_nge (tgt := 19) hx hb dX2_mergeSort_2_9 (by decide) (by omega) (by omega) (fun c1 => ?_) (fun c1 => ?_)
  · refine lv_aload_nN hx hb dX2_mergeSort_2_19 rfl (lv_at hl 4 rfl) ?_
    refine lv_ifnonnullN hx hb dX2_mergeSort_2_20 ?_
    refine lv_aload_n hx hb dX2_mergeSort_2_23 rfl (lv_at hl 1 rfl) ?_
    refine lv_iload_n hx hb dX2_mergeSort_2_24 rfl (lv_at hl 3 rfl) ?_
    refine s_cSr (wr := []) (ws' := fun u a => s_w2 h0 d0 n0 f a u.1 to u.2) hx hb hml hl.1 hown hts hN hA hK hP hD hS (m_copyOf hn0 hf (to := to) ht0) (lw_S q81 q82 q9 q83) 2 nm_copyOf rfl (s_rmk (by omega) (by decide) (by omega) (by omega)) (by decide) [0] [] [0] [0, 1] rfl rfl rfl (fun _ _ => rfl) rfl dX2_mergeSort_2_25 rfl (fun u h1 H locs eu hP hK hD hS => ?_)
    obtain ⟨d1, g⟩ := u
    obtain ⟨egf, hg⟩ := eu
    refine lv_astore_n (lv' := [(3, .ref h1), (4, .int (nI (to - fr))), (0, .ref h0), (1, .int (nI fr)), (2, .int (nI to))]) hx hb dX2_mergeSort_2_28 rfl hl (by decide) rfl (fun ls hl => ?_)
    exact w_merge29 (k := 50) hn0 (n1 := to) (by omega) (fun h0 h1 d0 d1 n0 n1 f g fr' to' a1 a2 a3 a4 a5 a6 a7 _ a8 => m_mergeSort_2 48 h0 h1 d0 d1 n0 n1 f g fr' to' a1 a2 a3 a4 a5 a6.1 a6.2 (by omega) a8) (by omega) (by omega) (by decide) (by decide) hx hb hml hown hts hN hA hK hf hg (by omega) ht0 (Nat.le_refl _) (fun k _ h => egf k h) (fun u H locs pc ls1 a hP hD d e => hret u.1 H locs pc ls1 a.1 (hP.sub [0] rfl) (hD.sub [0] (by decide) rfl) d e) _ _ ls hP hD hS (lv_sub hl [2, 3, 4, 0, 1] rfl)
  · refine lv_aload_n hx hb dX2_mergeSort_2_12 rfl (lv_at hl 1 rfl) ?_
    refine lv_iload_n hx hb dX2_mergeSort_2_13 rfl (lv_at hl 2 rfl) ?_
    refine lv_iload_n hx hb dX2_mergeSort_2_14 rfl (lv_at hl 3 rfl) ?_
    refine s_cSv (wr := []) (ws' := fun g => s_w1 h0 d0 n0 g) hx hb hml hl.1 hown hts hN hA hK hP hD hS (m_insertionSort hn0 hf (a := fr) (b := to) h12 ht0) (lw_S q78 q79 q6 q80) 3 nm_insertionSort rfl (s_rmk (by omega) (by decide) (by omega) (by omega)) (Nat.le_of_ble_eq_true rfl) [0] [] [0] [0] rfl rfl rfl (fun _ => rfl) rfl dX2_mergeSort_2_15 rfl (fun g H locs eg hP hD hS => ?_)
    refine W.widen (k := 1) (n := 48) (by omega) (by omega) ?_
    exact hret g _ _ _ _ eg hP hD hS dX2_mergeSort_2_18
set_option maxHeartbeats 4000000 in
set_option maxRecDepth 100000 in
/-- mergeSort(x, fr, to) -/
theorem m_mergeSort {l : Launch} {G : va_G} {cl : List vw_C} {h0 : Nat} {d0 : ClassId} {n0 : Nat} {f : Nat → Int32} (hn0 : n0 ≤ 48) (hf : sg_sh f) {fr to : Nat} (h12 : fr ≤ to) (ht0 : to ≤ n0) : s_Mv l yX2_mergeSort cX2_mergeSort 3 (s_rk 52 1 48) G cl [.ref h0, .int (nI fr), .int (nI to)] (s_w1 h0 d0 n0 f) [(d0, .short)] (fun g => sg_pm fr to f g ∧ sg_so fr to g) (fun g => s_w1 h0 d0 n0 g) 1 48 := by
  refine s_ofv (by decide) (Nat.le_of_ble_eq_true rfl) ?_
  intro p e s m args below meth c Q A ls hx hb hml hown hts hnm hN hA hK hP hD hS hl hret
  have hl : lv_has ls 3 [(0, .ref h0), (1, .int (nI fr)), (2, .int (nI to))] := hl
  refine lv_aload_n hx hb dX2_mergeSort_0 rfl (lv_at hl 0 rfl) ?_
  refine lv_iload_n hx hb dX2_mergeSort_1 rfl (lv_at hl 1 rfl) ?_
  refine lv_iload_n hx hb dX2_mergeSort_2 rfl (lv_at hl 2 rfl) ?_
  refine lv_null hx hb dX2_mergeSort_3 ?_
  refine lv_castN hx hb dX2_mergeSort_4 ?_
  refine s_cSv (wr := []) (ws' := fun g => s_w1 h0 d0 n0 g) hx hb hml hl.1 hown hts hN hA hK hP hD hS (m_mergeSort_N hn0 hf (fr := fr) (to := to) h12 ht0) (lw_S q75 q76 q6 q77) 4 nm_mergeSort_2 rfl (s_rmk (by omega) (by decide) (by omega) (by omega)) (Nat.le_of_ble_eq_true rfl) [0] [] [0] [0] rfl rfl rfl (fun _ => rfl) rfl dX2_mergeSort_7 rfl (fun g H locs eg hP hD hS => ?_)
  exact hret g _ _ _ _ eg hP hD hS dX2_mergeSort_10
end
section
/-! ShortArrays.binarySearch and reverse -/
theorem nm_binarySearch : s_nm yX2_binarySearch 4 := by decide +kernel
theorem nm_reverse : s_nm yX2_reverse 3 := by decide +kernel
/-- strictly ascending -/
def sg_st (a b : Nat) (f : Nat → Int32) : Prop := ∀ i j, a ≤ i → i < j → j < b → (f i).toInt < (f j).toInt
/-- the answer of a search: the place of key, or where it would go, less one, with the sign changed -/
def sg_fnd (a b : Nat) (key : Int32) (f : Nat → Int32) (r : Int32) : Prop := ∃ p, a ≤ p ∧ p ≤ b ∧ (∀ k, a ≤ k → k < p → (f k).toInt < key.toInt) ∧ (∀ k, p ≤ k → k < b → key.toInt ≤ (f k).toInt) ∧ ((p < b ∧ f p = key → r = nI p) ∧ (¬ (p < b ∧ f p = key) → r = -(nI (p + 1))))
theorem sg_fnd_1 {a b : Nat} {key : Int32} {f : Nat → Int32} {r1 r2 : Int32} (h1 : sg_fnd a b key f r1) (h2 : sg_fnd a b key f r2) : r1 = r2 := by
  obtain ⟨p, a1, a2, a3, a4, a5, a6⟩ := h1
  obtain ⟨q, b1, b2, b3, b4, b5, b6⟩ := h2
  have e : p = q := by
    rcases Nat.lt_trichotomy p q with h | h | h
    · have := b3 p a1 h
      have := a4 p (Nat.le_refl _) (by omega)
      omega
    · exact h
    · have := a3 q b1 h
      have := b4 q (Nat.le_refl _) (by omega)
      omega
  subst e
  by_cases h : p < b ∧ f p = key
  · rw [a5 h, b5 h]
  · rw [a6 h, b6 h]
theorem s_lo {a b z : Nat} (h : a + b = z + 1) : nI a + (nI b + (-1)) = nI z := by
  have e : nI a + nI b = nI z + 1 := by rw [nI_add, h, nI_1]
  rw [← Int32.add_assoc, e]; grind
/-- the stretch turned round -/
def sg_rev (a b : Nat) (f : Nat → Int32) : Nat → Int32 := fun k => if a ≤ k ∧ k < b then f (a + b - 1 - k) else f k
def sg_rv (a b i : Nat) (f g : Nat → Int32) : Prop := ∀ k, g k = if a + i ≤ k ∧ k + i < b then f (a + b - 1 - k) else f k
theorem sg_rv_0 {a b : Nat} {f : Nat → Int32} (h : a ≤ b) : sg_rv a b ((b - a) / 2) f f := by
  intro k
  by_cases q : a + (b - a) / 2 ≤ k ∧ k + (b - a) / 2 < b
  · rw [if_pos q]; congr 1; omega
  · rw [if_neg q]
theorem sg_rv_s {a b i : Nat} {f g : Nat → Int32} (h : sg_rv a b (i + 1) f g) (hi : a + i < b - i - 1) : sg_rv a b i f (sg_sw g (b - i - 1) (a + i)) := by
  intro k
  rw [sg_sw_v]
  by_cases k1 : k = a + i
  · rw [if_pos k1, if_pos (by omega), h, if_neg (by omega)]; congr 1; omega
  · rw [if_neg k1]
    by_cases k2 : k = b - i - 1
    · rw [if_pos k2, if_pos (by omega), h, if_neg (by omega)]; congr 1; omega
    · rw [if_neg k2, h]
      by_cases k3 : a + (i + 1) ≤ k ∧ k + (i + 1) < b
      · rw [if_pos k3, if_pos (by omega)]
      · rw [if_neg k3, if_neg (by omega)]
theorem sg_rv_e {a b : Nat} {f g : Nat → Int32} (h : sg_rv a b 0 f g) : g = sg_rev a b f := by
  funext k
  rw [h k]; rfl
theorem sg_rev_sh {a b : Nat} {f : Nat → Int32} (h : sg_sh f) : sg_sh (sg_rev a b f) := by
  intro k
  by_cases q : a ≤ k ∧ k < b
  · have e : sg_rev a b f k = f (a + b - 1 - k) := if_pos q
    rw [e]; exact h _
  · have e : sg_rev a b f k = f k := if_neg q
    rw [e]; exact h _
set_option maxHeartbeats 4000000 in
set_option maxRecDepth 100000 in
/-- binarySearch(x, fr, to, key) in a strictly ascending stretch -/
theorem m_binarySearch {l : Launch} {G : va_G} {cl : List vw_C} {h0 : Nat} {d0 : ClassId} {n0 : Nat} {f : Nat → Int32} (hn0 : n0 ≤ 48) (hf : sg_sh f) {fr to : Nat} {key : Int32} (h1 : fr ≤ to) (h2 : to ≤ n0) (hst : sg_st fr to f) : s_Mi l yX2_binarySearch cX2_binarySearch 6 (s_rk 0 0 0) G cl [.ref h0, .int (nI fr), .int (nI to), .int key] (s_w1 h0 d0 n0 f) [(d0, .short)] (sg_fnd fr to key f) := by
  refine s_ofi (by decide) (Nat.le_of_ble_eq_true rfl) ?_
  intro p e s m args below meth c Q ls hx hb hml hown hts hK hP hl hret
  have hl : lv_has ls 6 [(0, .ref h0), (1, .int (nI fr)), (2, .int (nI to)), (3, .int key)] := hl
  have loop : ∀ (t lo hi : Nat) (ls : Array Slot), hi < lo + t → fr ≤ lo → lo ≤ hi → hi ≤ to → (∀ k, fr ≤ k → k < lo → (f k).toInt < key.toInt) → (∀ k, hi ≤ k → k < to → key.toInt < (f k).toInt) → lv_has ls 6 [(0, .ref h0), (1, .int (nI lo)), (2, .int ((nI hi + (-1)))), (3, .int key)] → W p l e (s_rk 0 0 0) s m args below meth c s.heap [] 0 0 Q (F0 m 3 ls []) := by
    intro t
    induction t with
    | zero => intro lo hi ls ht i1 i2; omega
    | succ t ih =>
      intro lo hi ls ht i1 i2 i3 b1 b2 hl
      refine lv_iload_n hx hb dX2_binarySearch_3 rfl (lv_at hl 1 rfl) ?_
      refine lv_iload_n hx hb dX2_binarySearch_4 rfl (lv_at hl 2 rfl) ?_
      refine s_vgt (tgt := 55) hx hb dX2_binarySearch_5 (by decide) (fun c1 => ?_) (fun c1 => ?_)
      · rw [nI_toInt (by omega), s_mi_toInt (by omega)] at c1
        have e1 : lo = hi := by omega
        subst e1
        refine lv_iload_n hx hb dX2_binarySearch_55 rfl (lv_at hl 1 rfl) ?_
        refine lv_iconst (v := nI 1) hx hb dX2_binarySearch_56 (by decide) ?_
        refine s_addn (z := lo + 1) hx hb dX2_binarySearch_57 (by omega) ?_
        refine lv_ineg hx hb dX2_binarySearch_58 ?_
        exact hret _ _ _ ⟨lo, i1, i3, b1, fun k q1 q2 => by have := b2 k q1 q2; omega, fun q => by have := b2 lo (Nat.le_refl _) q.1; rw [q.2] at this; omega, fun _ => rfl⟩ dX2_binarySearch_59
      · rw [nI_toInt (by omega), s_mi_toInt (by omega)] at c1
        obtain ⟨mid, hmid⟩ : ∃ z, z = (lo + hi - 1) / 2 := ⟨_, rfl⟩
        refine lv_iload_n hx hb dX2_binarySearch_8 rfl (lv_at hl 1 rfl) ?_
        refine lv_iload_n hx hb dX2_binarySearch_9 rfl (lv_at hl 2 rfl) ?_
        refine s_iadd (z := (nI (lo + hi - 1))) hx hb dX2_binarySearch_10 (s_lo (by omega)) ?_
        refine lv_iconst (v := nI 1) hx hb dX2_binarySearch_11 (by decide) ?_
        refine s_shr1 (z := mid) hx hb dX2_binarySearch_12 (by omega) (by omega) ?_
        refine lv_istore (lv' := [(5, .int (nI mid)), (0, .ref h0), (1, .int (nI lo)), (2, .int ((nI hi + (-1)))), (3, .int key)]) hx hb dX2_binarySearch_13 hl (by decide) rfl (fun ls hl => ?_)
        refine lv_aload_n hx hb dX2_binarySearch_15 rfl (lv_at hl 1 rfl) ?_
        refine lv_iload hx hb dX2_binarySearch_16 (lv_at hl 0 rfl) ?_
        refine s_ld hx hb hK hP 0 0 rfl rfl hn0 (by omega) dX2_binarySearch_18 ?_
        refine lv_istore (lv' := [(4, .int (f mid)), (5, .int (nI mid)), (0, .ref h0), (1, .int (nI lo)), (2, .int ((nI hi + (-1)))), (3, .int key)]) hx hb dX2_binarySearch_19 hl (by decide) rfl (fun ls hl => ?_)
        refine lv_iload hx hb dX2_binarySearch_21 (lv_at hl 0 rfl) ?_
        refine lv_iload_n hx hb dX2_binarySearch_23 rfl (lv_at hl 5 rfl) ?_
        refine s_vge (tgt := 35) hx hb dX2_binarySearch_24 (by decide) (fun c2 => ?_) (fun c2 => ?_)
        · refine lv_iload hx hb dX2_binarySearch_35 (lv_at hl 0 rfl) ?_
          refine lv_iload_n hx hb dX2_binarySearch_37 rfl (lv_at hl 5 rfl) ?_
          refine s_vle (tgt := 49) hx hb dX2_binarySearch_38 (by decide) (fun c3 => ?_) (fun c3 => ?_)
          · refine lv_iload hx hb dX2_binarySearch_49 (lv_at hl 1 rfl) ?_
            have e2 : f mid = key := Int32.toInt_inj.mp (by omega)
            exact hret _ _ _ ⟨mid, by omega, by omega, fun k q1 q2 => by have := hst k mid q1 q2 (by omega); omega, fun k q1 q2 => by
              by_cases hk : k = mid
              · rw [hk]; omega
              · have := hst mid k (by omega) (by omega) q2; omega, fun _ => rfl, fun q => absurd ⟨by omega, e2⟩ q⟩ dX2_binarySearch_51
          · refine lv_iload hx hb dX2_binarySearch_41 (lv_at hl 1 rfl) ?_
            refine lv_iconst (v := nI 1) hx hb dX2_binarySearch_43 (by decide) ?_
            refine s_isub (z := nI mid + (-1)) hx hb dX2_binarySearch_44 (s_m1 _) ?_
            refine lv_istore_n (lv' := [(2, .int (nI mid + (-1))), (4, .int (f mid)), (5, .int (nI mid)), (0, .ref h0), (1, .int (nI lo)), (3, .int key)]) hx hb dX2_binarySearch_45 rfl hl (by decide) rfl (fun ls hl => ?_)
            refine lv_goto (tgt := 52) hx hb dX2_binarySearch_46 (by decide) ?_
            refine lv_goto (tgt := 3) hx hb dX2_binarySearch_52 (by decide) ?_
            exact ih lo mid ls (by omega) i1 (by omega) (by omega) b1 (fun k q1 q2 => by
              by_cases hk : k = mid
              · rw [hk]; omega
              · have := hst mid k (by omega) (by omega) q2; omega) (lv_sub hl [3, 4, 0, 5] rfl)
        · refine lv_iload hx hb dX2_binarySearch_27 (lv_at hl 1 rfl) ?_
          refine lv_iconst (v := nI 1) hx hb dX2_binarySearch_29 (by decide) ?_
          refine s_addn (z := mid + 1) hx hb dX2_binarySearch_30 (by omega) ?_
          refine lv_istore_n (lv' := [(1, .int (nI (mid + 1))), (4, .int (f mid)), (5, .int (nI mid)), (0, .ref h0), (2, .int ((nI hi + (-1)))), (3, .int key)]) hx hb dX2_binarySearch_31 rfl hl (by decide) rfl (fun ls hl => ?_)
          refine lv_goto (tgt := 52) hx hb dX2_binarySearch_32 (by decide) ?_
          refine lv_goto (tgt := 3) hx hb dX2_binarySearch_52 (by decide) ?_
          exact ih (mid + 1) hi ls (by omega) (by omega) (by omega) i3 (fun k q1 q2 => by
            by_cases hk : k = mid
            · rw [hk]; omega
            · have := hst k mid q1 (by omega) (by omega); omega) b2 (lv_sub hl [3, 0, 4, 5] rfl)
  refine lv_iinc (v := ((nI to + (-1)))) (lv' := [(2, .int ((nI to + (-1)))), (0, .ref h0), (1, .int (nI fr)), (3, .int key)]) hx hb dX2_binarySearch_0 hl (k := 2) rfl (rfl) (by decide) rfl (fun ls hl => ?_)
  exact loop (to - fr + 1) fr to ls (by omega) (Nat.le_refl _) h1 (Nat.le_refl _) (fun k q1 q2 => by omega) (fun k q1 q2 => by omega) (lv_sub hl [1, 2, 0, 3] rfl)
set_option maxHeartbeats 4000000 in
set_option maxRecDepth 100000 in
/-- reverse(x, fr, to) -/
theorem m_reverse {l : Launch} {G : va_G} {cl : List vw_C} {h0 : Nat} {d0 : ClassId} {n0 : Nat} {f : Nat → Int32} (hn0 : n0 ≤ 48) (hf : sg_sh f) {fr to : Nat} (h1 : fr ≤ to) (h2 : to ≤ n0) : s_Mr l yX2_reverse cX2_reverse 6 .short (s_rk 0 0 0) G cl [.ref h0, .int (nI fr), .int (nI to)] (s_w1 h0 d0 n0 f) [(d0, .short)] (fun g => g = sg_rev fr to f) (fun g _ => s_w1 h0 d0 n0 g) (fun _ => [(d0, .short)]) 0 0 := by
  refine s_ofr (by decide) (Nat.le_of_ble_eq_true rfl) ?_
  intro p e s m args below meth c Q A ls hx hb hml hown hts hN hA hK hP hD hS hl hret
  have hl : lv_has ls 6 [(0, .ref h0), (1, .int (nI fr)), (2, .int (nI to))] := hl
  have loop : ∀ (t i : Nat) (g : Nat → Int32) (H : Heap) (locs : List Loc) (ls : Array Slot), i < t → i ≤ (to - fr) / 2 → sg_sh g → sg_rv fr to i f g → va_P G cl (s_w1 h0 d0 n0 g) H → va_D A (s_w1 h0 d0 n0 g) → va_S A s.heap H locs → lv_has ls 6 [(0, .ref h0), (1, .int (nI fr)), (2, .int (nI to)), (3, .int (nI (to - fr))), (4, .int (nI i))] → W p l e (s_rk 0 0 0) s m args below meth c H locs 0 0 Q (F0 m 9 ls []) := by
    intro t
    induction t with
    | zero => intro i g H locs ls ht; omega
    | succ t ih =>
      intro i g H locs ls ht hi hg hrv hP hD hS hl
      refine lv_iload hx hb dX2_reverse_9 (lv_at hl 4 rfl) ?_
      refine lv_iinc (v := ((nI i + (-1)))) (lv' := [(4, .int ((nI i + (-1)))), (0, .ref h0), (1, .int (nI fr)), (2, .int (nI to)), (3, .int (nI (to - fr)))]) hx hb dX2_reverse_11 hl (k := 4) rfl (rfl) (by decide) rfl (fun ls hl => ?_)
      refine s_zeq (tgt := 56) hx hb dX2_reverse_14 (by decide) (fun c1 => ?_) (fun c1 => ?_)
      · rw [nI_toInt (by omega)] at c1
        have e0 : i = 0 := by omega
        subst e0
        refine lv_aload_n hx hb dX2_reverse_56 rfl (lv_at hl 1 rfl) ?_
        exact hret g h0 _ _ _ _ (sg_rv_e hrv) hP hK hD hS dX2_reverse_57
      · rw [nI_toInt (by omega)] at c1
        obtain ⟨j, rfl⟩ : ∃ j, i = j + 1 := ⟨i - 1, by omega⟩
        rw [pk_m1] at hl
        refine lv_aload_n hx hb dX2_reverse_17 rfl (lv_at hl 1 rfl) ?_
        refine lv_iload_n hx hb dX2_reverse_18 rfl (lv_at hl 2 rfl) ?_
        refine lv_iload_n hx hb dX2_reverse_19 rfl (lv_at hl 4 rfl) ?_
        refine s_addn (z := to) hx hb dX2_reverse_20 (by omega) ?_
        refine lv_iload hx hb dX2_reverse_21 (lv_at hl 0 rfl) ?_
        refine s_subn (z := to - j) hx hb dX2_reverse_23 (by omega) ?_
        refine lv_iconst (v := nI 1) hx hb dX2_reverse_24 (by decide) ?_
        refine s_subn (z := to - j - 1) hx hb dX2_reverse_25 (by omega) ?_
        refine s_ld hx hb hK hP 0 0 rfl rfl hn0 (by omega) dX2_reverse_26 ?_
        refine lv_istore (lv' := [(5, .int (g (to - j - 1))), (4, .int (nI j)), (0, .ref h0), (1, .int (nI fr)), (2, .int (nI to)), (3, .int (nI (to - fr)))]) hx hb dX2_reverse_27 hl (by decide) rfl (fun ls hl => ?_)
        refine lv_aload_n hx hb dX2_reverse_29 rfl (lv_at hl 2 rfl) ?_
        refine lv_iload_n hx hb dX2_reverse_30 rfl (lv_at hl 3 rfl) ?_
        refine lv_iload_n hx hb dX2_reverse_31 rfl (lv_at hl 5 rfl) ?_
        refine s_addn (z := to) hx hb dX2_reverse_32 (by omega) ?_
        refine lv_iload hx hb dX2_reverse_33 (lv_at hl 1 rfl) ?_
        refine s_subn (z := to - j) hx hb dX2_reverse_35 (by omega) ?_
        refine lv_iconst (v := nI 1) hx hb dX2_reverse_36 (by decide) ?_
        refine s_subn (z := to - j - 1) hx hb dX2_reverse_37 (by omega) ?_
        refine lv_aload_n hx hb dX2_reverse_38 rfl (lv_at hl 2 rfl) ?_
        refine lv_iload_n hx hb dX2_reverse_39 rfl (lv_at hl 3 rfl) ?_
        refine lv_iload hx hb dX2_reverse_40 (lv_at hl 1 rfl) ?_
        refine s_addn (z := fr + j) hx hb dX2_reverse_42 (by omega) ?_
        refine s_ld hx hb hK hP 0 0 rfl rfl hn0 (by omega) dX2_reverse_43 ?_
        refine s_st (ws' := fun g1 => s_w1 h0 d0 n0 g1) hx hb hK hP hD hS 0 0 rfl (fun _ => rfl) rfl hn0 (by omega) (hg _) dX2_reverse_44 (fun g1 H locs e1 hP hD hS => ?_)
        refine lv_aload_n hx hb dX2_reverse_45 rfl (lv_at hl 2 rfl) ?_
        refine lv_iload_n hx hb dX2_reverse_46 rfl (lv_at hl 3 rfl) ?_
        refine lv_iload hx hb dX2_reverse_47 (lv_at hl 1 rfl) ?_
        refine s_addn (z := fr + j) hx hb dX2_reverse_49 (by omega) ?_
        refine lv_iload hx hb dX2_reverse_50 (lv_at hl 0 rfl) ?_
        refine s_st (ws' := fun g2 => s_w1 h0 d0 n0 g2) hx hb hK hP hD hS 0 0 rfl (fun _ => rfl) rfl hn0 (by omega) (hg _) dX2_reverse_52 (fun g2 H locs e2 hP hD hS => ?_)
        have e3 : g2 = sg_sw g (to - j - 1) (fr + j) := by rw [e2, e1]; rfl
        refine lv_goto (tgt := 9) hx hb dX2_reverse_53 (by decide) ?_
        exact ih j g2 H locs ls (by omega) (by omega) (by rw [e3]; exact (sg_sw_pm (a := 0) (b := 48) g (by omega) (by omega) (by omega) (by omega)).sh hg) (by rw [e3]; exact sg_rv_s hrv (by omega)) hP hD hS (lv_sub hl [2, 3, 4, 5, 1] rfl)
  refine lv_iload_n hx hb dX2_reverse_0 rfl (lv_at hl 2 rfl) ?_
  refine lv_iload_n hx hb dX2_reverse_1 rfl (lv_at hl 1 rfl) ?_
  refine s_subn (z := to - fr) hx hb dX2_reverse_2 (by omega) ?_
  refine lv_istore_n (lv' := [(3, .int (nI (to - fr))), (0, .ref h0), (1, .int (nI fr)), (2, .int (nI to))]) hx hb dX2_reverse_3 rfl hl (by decide) rfl (fun ls hl => ?_)
  refine lv_iload_n hx hb dX2_reverse_4 rfl (lv_at hl 0 rfl) ?_
  refine lv_iconst (v := nI 2) hx hb dX2_reverse_5 (by decide) ?_
  refine s_div2 (z := (to - fr) / 2) hx hb dX2_reverse_6 (by omega) (by omega) ?_
  refine lv_istore (lv' := [(4, .int (nI ((to - fr) / 2))), (3, .int (nI (to - fr))), (0, .ref h0), (1, .int (nI fr)), (2, .int (nI to))]) hx hb dX2_reverse_7 hl (by decide) rfl (fun ls hl => ?_)
  exact loop ((to - fr) / 2 + 1) ((to - fr) / 2) f s.heap [] ls (by omega) (by omega) hf (sg_rv_0 h1) hP hD hS (lv_sub hl [2, 3, 4, 1, 0] rfl)
end
section
/-! the two classes of objects; constructors; the words that both sides share -/
abbrev vwCl : List vw_C := [(RX0, TX0, 1), (RX1, TX1, 1)]
/-- the contract of a constructor: its world grows -/
abbrev s_Mc {S : Type} (l : Launch) (y : MethodName) (bytes : ByteArray) (maxL : Nat) (rm : Room) (G : va_G) (cl : List vw_C) (as : List Value) (w : va_W) (ty : List (ClassId × FieldType)) (post : S → Prop) (w' : S → va_W) (ty' : S → List (ClassId × FieldType)) (mc ms : Nat) : Prop :=
  ∀ sz : Nat, Met l y (ws_ y bytes maxL none) rm (s_Pc G cl as w ty sz) (va_Qv post (fun u t => va_P G cl (w' u) t.heap ∧ va_K G cl (ty' u) t ∧ va_D (va_A w sz) (w' u)) (va_A w sz)) mc ms (va_A w sz)
theorem s_ofc {S : Type} {l : Launch} {y : MethodName} {cc : ByteArray} {maxL : Nat} {rm : Room} {G : va_G} {cl : List vw_C} {as : List Value} {w : va_W} {ty : List (ClassId × FieldType)} {post : S → Prop} {w' : S → va_W} {ty' : S → List (ClassId × FieldType)} {mc ms : Nat}
    (hy : plainName y.cls = true) (hsl : (lg_sl as).length ≤ maxL)
    (body : ∀ (p : Program) (e : Env) (s : State) (m : MethodId) (args : Array Value) (below : List Frame) (meth : Method) (c : Code) (Q : State → Prop) (A : Nat → Prop) (ls : Array Slot), p.tables.exec = Jvm.exec → c.code = cc → c.maxLocals = maxL → s.vm.findClass y.cls = some m.cls → (∀ w ∈ lw_all, w.before args s = true) → meth.name = y.name → va_Nw s_cw s → (∀ q : Nat, s.heap.size ≤ q → A q) → va_K G cl ty s → va_P G cl w s.heap → va_D A w → va_S A s.heap s.heap [] → lv_has ls maxL (lv_args 0 as) →
      (∀ (u : S) (H : Heap) (locs : List Loc) (pc : Nat) (ls1 : Array Slot), post u → va_P G cl (w' u) H → va_K G cl (ty' u) s → va_D A (w' u) → va_S A s.heap H locs → decode cc pc = .ok (.return_, 1) → W p l e rm s m args below meth c H locs mc ms Q (F0 m pc ls1 [])) →
      W p l e rm s m args below meth c s.heap [] 0 0 Q (F0 m 0 ls [])) : s_Mc l y cc maxL rm G cl as w ty post w' ty' mc ms := by
  intro sz
  refine Met.ofW (cc := cc) (maxL := maxL) (ret := none) hy rfl ?_
  intro p e s m args below meth c s₁ B hml hv
  obtain ⟨rfl, hsz, hP, hK, hD0, hN⟩ := hv
  have hr := B.returns
  have hlocks := B.notSynchronized
  have hts := atoms_spec (ws := ws_ y cc maxL none) B.pre
  have hts : ∀ w ∈ lw_all, w.before _ s = true := fun w h => hts w (List.mem_cons_of_mem _ h)
  have hown : s.vm.findClass y.cls = some m.cls := findClass_of_methodNamed B.named
  subst hsz
  have hl := lv_entry as (n := maxL) hsl
  rw [lg_entry_eq]
  refine body p e s m _ below meth c _ (va_A w s.heap.size) _ B.exec B.bytes hml hown hts (name_of_methodNamed B.named B.method).1 hN (fun q h => Or.inr h) hK hP (hD0.self) va_S.rf hl ?_
  intro u H locs pc ls1 hpost hP1 hK1 hD1 hS hdg
  exact W.vret B.exec B.bytes hr (fun t ht hW => ⟨⟨u, rfl, hpost, by rw [ht]; exact hP1, va_K.moved hW.alike hK1, hD1⟩, hS.F ht⟩) hS.2.2 hdg
section SKI
variable {p : Program} {l : Launch} {e : Env} {R : Room} {s : State} {m : MethodId} {args : Array Value} {below : List Frame} {meth : Method} {c : Code} {H : Heap} {locs : List Loc} {cells slots : Nat} {Q : State → Prop}
variable {cc : ByteArray} {pc : Nat} {ls : Array Slot} {rest : List Value} {G : va_G} {cl : List vw_C} {A : Nat → Prop} {tys : List (ClassId × FieldType)} {ws : va_W}
variable {y : MethodName} {bytes : ByteArray} {maxL nL index mc ms : Nat} {rm : Room} {as : List Value} {wc : va_W} {tyc : List (ClassId × FieldType)} {own : String}
/-- a constructor's call -/
theorem s_cIv {S : Type} {post : S → Prop} {w' : S → va_W} {ty' : S → List (ClassId × FieldType)} {b : Addr} (hx : p.tables.exec = Jvm.exec) (hb : c.code = cc) (hml : c.maxLocals = nL) (hsz : ls.size = nL) (hown : s.vm.findClass own = some m.cls) (hts : ∀ w ∈ lw_all, w.before args s = true) (hN : va_Nw s_cw s) (hA : ∀ q : Nat, s.heap.size ≤ q → A q) (hK : va_K G cl tys s) (hP : va_P G cl ws H) (hD : va_D A ws) (hS : va_S A s.heap H locs)
    (hM : s_Mc l y bytes maxL rm G cl (.ref b :: as) wc tyc post w' ty' mc ms) (hcode : Cond.code y bytes maxL none ∈ lw_all) (hini : Cond.initialized y.cls ∈ lw_all) (hlink : Cond.methodLink own index y ∈ lw_all) (hinst : Cond.instanceMethod y ∈ lw_all) (hname : y.name = "<init>") (n : Nat) (hd : s_nm y n) (hlen : as.length = n) (hr : s_rm rm R maxL mc ms cells slots) (hcat : (rest.map fun v => v.category).sum ≤ 8)
    (isC isR isT perm : List Nat) {wr : va_W} {ws' : S → va_W} (hC : isC.map (fun i => ws[i]?) = wc.map some) (hR : isR.map (fun i => ws[i]?) = wr.map some) (hT : isT.filterMap (fun i => tys[i]?) = tyc) (hp : ∀ u, perm.map (fun i => (wr ++ w' u)[i]?) = (ws' u).map some) (hdis : (va_nd isC && va_nd isR && va_nd perm && isR.all (fun i => !isC.contains i)) = true)
    (hdg : decode cc pc = .ok (.invokespecial index, 3)) {st : List Value} (hst : st = as.reverse ++ .ref b :: rest)
    (kk : ∀ (u : S) (H1 : Heap) (locs1 : List Loc), post u → va_P G cl (ws' u) H1 → va_K G cl (ty' u) s → va_D A (ws' u) → va_S A s.heap H1 locs1 → W p l e R s m args below meth c H1 locs1 (cells + mc) (slots + ms) Q (F0 m (pc + 3) ls rest)) : W p l e R s m args below meth c H locs cells slots Q (F0 m pc ls st) := by
  simp only [Bool.and_eq_true, List.all_eq_true, Bool.not_eq_true', List.contains_eq_mem, decide_eq_false_iff_not] at hdis
  obtain ⟨⟨⟨hnC, hnR⟩, hnp⟩, hdd⟩ := hdis
  have hPc := hP.sub (ws' := wc) isC (s_fm hC)
  have hDc := hD.sub (ws' := wc) isC hnC hC
  have hKc := hK.sub (tys' := tyc) isT hT
  have hFc := va_free (wc := wc) hD hS hA isC hC
  refine va_callv (va_runI (As := as) (rest := rest) (nL := nL) ⟨hx, hb, hml, hown, hts⟩ (hM H.size) (cwI n hts (lw_meth hcode) rfl hr.1 hr.2.1 (hts _ hini) (hts _ hlink) (hts _ hinst) hname hd hr.2.2.1) ⟨s_blind, fun U hU hW => ⟨rfl, by rw [hU], by rw [hU]; exact hPc, va_K.moved hW.alike hKc, hDc.weaken (fun _ _ _ _ => trivial), va_Nw.warmC hW hN⟩⟩ rfl hlen hsz hst (lv_room hcat) hdg hr.2.2.2) hS (fun q _ h => hFc q h) hFc (fun u t H1 locs1 ht hvm hpost hB hz1 hk1 hS1 => ?_)
  obtain ⟨hP1, hK1, hD1⟩ := hB
  rw [ht] at hP1
  have hK1 := va_K.moved hvm.symm hK1
  obtain ⟨hP2, hD2⟩ := va_join (wr := wr) (w1 := w' u) hP hD isC isR hC hR hnR hdd hk1 hFc hP1 hD1
  exact kk u H1 locs1 hpost (hP2.sub perm (s_fm (hp u))) hK1 (hD2.sub perm hnp (hp u)) hS1
end SKI
/-- an int cut to a short -/
def sg_nw (x : Int32) : Int32 := x.toInt16.toInt32
theorem sg_nw_sh (x : Int32) : vp_nar .short (sg_nw x) = sg_nw x := pk_vs x
/-- where a stretch begins and ends -/
def sg_a (x : Int32) : Nat := s_ab x % 49
def sg_e (a : Nat) (x : Int32) : Nat := a + s_ab x % (49 - a)
theorem sg_a_le (x : Int32) : sg_a x ≤ 48 := by
  have : s_ab x % 49 < 49 := Nat.mod_lt _ (by decide)
  unfold sg_a; omega
theorem sg_e_ge (a : Nat) (x : Int32) : a ≤ sg_e a x := Nat.le_add_right _ _
theorem sg_e_le {a : Nat} (h : a ≤ 48) (x : Int32) : sg_e a x ≤ 48 := by
  have : s_ab x % (49 - a) < 49 - a := Nat.mod_lt _ (by omega)
  unfold sg_e; omega
theorem sg_st_of {a b : Nat} {f : Nat → Int32} (h : ∀ j, a ≤ j → j + 1 < b → (f j).toInt < (f (j + 1)).toInt) : sg_st a b f := by
  intro i j h1 h2 h3
  obtain ⟨n, rfl⟩ : ∃ n, j = i + n + 1 := ⟨j - i - 1, by omega⟩
  clear h2
  induction n with
  | zero => exact h i h1 h3
  | succ n ih =>
    have a1 := ih (by omega)
    have a2 := h (i + n + 1) (by omega) (by omega)
    have e : i + (n + 1) + 1 = i + n + 1 + 1 := by omega
    rw [e]; omega
/-- the answer of find -/
def sg_find (a b : Nat) (key : Int32) (f : Nat → Int32) (r : Int32) : Prop := (sg_st a b f → sg_fnd a b key f r) ∧ (¬ sg_st a b f → r = -100)
theorem sg_find_1 {a b : Nat} {key : Int32} {f : Nat → Int32} {r1 r2 : Int32} (h1 : sg_find a b key f r1) (h2 : sg_find a b key f r2) : r1 = r2 := by
  by_cases h : sg_st a b f
  · exact sg_fnd_1 (h1.1 h) (h2.1 h)
  · rw [h1.2 h, h2.2 h]
end
section
/-! ShortSortDesk: its cells are the object hx and its array hr -/
abbrev s_wd (hx hr : Nat) (d : ClassId) (f : Nat → Int32) : va_W := [(hx, .inr (0, [.ref hr])), (hr, .inl (d, 48, .inl f))]
theorem nm0_init : s_nm yX0_init 0 := by decide +kernel
theorem nm0_set : s_nm yX0_set 2 := by decide +kernel
theorem nm0_get : s_nm yX0_get 1 := by decide +kernel
theorem nm0_from : s_nm yX0_from 1 := by decide +kernel
theorem nm0_to : s_nm yX0_to 2 := by decide +kernel
theorem nm0_quick : s_nm yX0_quick 2 := by decide +kernel
theorem nm0_merge : s_nm yX0_merge 2 := by decide +kernel
theorem nm0_radix : s_nm yX0_radix 2 := by decide +kernel
theorem nm0_reverse : s_nm yX0_reverse 2 := by decide +kernel
theorem nm0_find : s_nm yX0_find 3 := by decide +kernel
set_option maxHeartbeats 4000000 in
set_option maxRecDepth 100000 in
theorem m0_from {l : Launch} {G : va_G} {o0 : Nat} {x : Int32} : s_Mi l yX0_from cX0_from 2 (s_rk 0 0 0) G vwCl [.ref o0, .int x] [] [] (fun r => r = nI (sg_a x)) := by
  refine s_ofi (by decide) (Nat.le_of_ble_eq_true rfl) ?_
  intro p e s m args below meth c Q ls hx hb hml hown hts hK hP hl hret
  have hl : lv_has ls 2 [(0, .ref o0), (1, .int x)] := hl
  refine lv_iload_n hx hb dX0_from_0 rfl (lv_at hl 1 rfl) ?_
  refine lv_ldc (v := 2147483647) hx hb hown (hts _ q28) dX0_from_1 ?_
  refine s_andm hx hb dX0_from_3 ?_
  refine lv_bipush (v := nI 49) hx hb dX0_from_4 (by decide) ?_
  refine s_remn (z := sg_a x) hx hb dX0_from_6 (s_ab_lt _) (by omega) (by omega) rfl ?_
  exact hret _ _ _ rfl dX0_from_7
set_option maxHeartbeats 4000000 in
set_option maxRecDepth 100000 in
theorem m0_to {l : Launch} {G : va_G} {o0 a : Nat} {x : Int32} (ha : a ≤ 48) : s_Mi l yX0_to cX0_to 3 (s_rk 0 0 0) G vwCl [.ref o0, .int (nI a), .int x] [] [] (fun r => r = nI (sg_e a x)) := by
  refine s_ofi (by decide) (Nat.le_of_ble_eq_true rfl) ?_
  intro p e s m args below meth c Q ls hx hb hml hown hts hK hP hl hret
  have hl : lv_has ls 3 [(0, .ref o0), (1, .int (nI a)), (2, .int x)] := hl
  refine lv_iload_n hx hb dX0_to_0 rfl (lv_at hl 1 rfl) ?_
  refine lv_iload_n hx hb dX0_to_1 rfl (lv_at hl 2 rfl) ?_
  refine lv_ldc (v := 2147483647) hx hb hown (hts _ q28) dX0_to_2 ?_
  refine s_andm hx hb dX0_to_4 ?_
  refine lv_bipush (v := nI 49) hx hb dX0_to_5 (by decide) ?_
  refine lv_iload_n hx hb dX0_to_7 rfl (lv_at hl 1 rfl) ?_
  refine s_subn (z := 49 - a) hx hb dX0_to_8 (by omega) ?_
  refine s_remn (z := (s_ab x) % (49 - a)) hx hb dX0_to_9 (s_ab_lt _) (by omega) (by omega) rfl ?_
  refine s_addn (z := sg_e a x) hx hb dX0_to_10 rfl ?_
  exact hret _ _ _ rfl dX0_to_11
set_option maxHeartbeats 4000000 in
set_option maxRecDepth 100000 in
theorem m0_set {l : Launch} {G : va_G} {o0 r0 : Nat} {d0 : ClassId} {f : Nat → Int32} (hf : sg_sh f) {x z : Int32} : s_Mv l yX0_set cX0_set 3 (s_rk 0 0 0) G vwCl [.ref o0, .int x, .int z] (s_wd o0 r0 d0 f) [(d0, .short)] (fun g => g = upd f (s_ab x % 48) (sg_nw z)) (fun g => s_wd o0 r0 d0 g) 0 0 := by
  refine s_ofv (by decide) (Nat.le_of_ble_eq_true rfl) ?_
  intro p e s m args below meth c Q A ls hx hb hml hown hts hnm hN hA hK hP hD hS hl hret
  have hl : lv_has ls 3 [(0, .ref o0), (1, .int x), (2, .int z)] := hl
  refine lv_aload_n hx hb dX0_set_0 rfl (lv_at hl 0 rfl) ?_
  refine va_get (D := G) (ci := 0) (v := .ref r0) (C := RX0) (T := TX0) (N := 1) hx hb hts in_X0 hown hK hP 0 rfl rfl 0 (by decide) (hts _ q19) (fun _ h9 => h9) rfl dX0_set_1 ?_
  refine lv_iload_n hx hb dX0_set_4 rfl (lv_at hl 1 rfl) ?_
  refine lv_ldc (v := 2147483647) hx hb hown (hts _ q28) dX0_set_5 ?_
  refine s_andm hx hb dX0_set_7 ?_
  refine lv_bipush (v := nI 48) hx hb dX0_set_8 (by decide) ?_
  refine s_remn (z := (s_ab x) % 48) hx hb dX0_set_10 (s_ab_lt _) (by omega) (by omega) rfl ?_
  refine lv_iload_n hx hb dX0_set_11 rfl (lv_at hl 2 rfl) ?_
  refine lv_i2s (v := sg_nw z) hx hb dX0_set_12 rfl ?_
  refine s_st (ws' := fun g => s_wd o0 r0 d0 g) hx hb hK hP hD hS 1 0 rfl (fun _ => rfl) rfl (Nat.le_refl _) (by omega) (sg_nw_sh _) dX0_set_13 (fun g H locs e1 hP hD hS => ?_)
  exact hret g _ _ _ _ e1 hP hD hS dX0_set_14
set_option maxHeartbeats 4000000 in
set_option maxRecDepth 100000 in
theorem m0_get {l : Launch} {G : va_G} {o0 r0 : Nat} {d0 : ClassId} {f : Nat → Int32} (hf : sg_sh f) {x : Int32} : s_Mi l yX0_get cX0_get 2 (s_rk 0 0 0) G vwCl [.ref o0, .int x] (s_wd o0 r0 d0 f) [(d0, .short)] (fun r => r = f (s_ab x % 48)) := by
  refine s_ofi (by decide) (Nat.le_of_ble_eq_true rfl) ?_
  intro p e s m args below meth c Q ls hx hb hml hown hts hK hP hl hret
  have hl : lv_has ls 2 [(0, .ref o0), (1, .int x)] := hl
  refine lv_aload_n hx hb dX0_get_0 rfl (lv_at hl 0 rfl) ?_
  refine va_get (D := G) (ci := 0) (v := .ref r0) (C := RX0) (T := TX0) (N := 1) hx hb hts in_X0 hown hK hP 0 rfl rfl 0 (by decide) (hts _ q19) (fun _ h9 => h9) rfl dX0_get_1 ?_
  refine lv_iload_n hx hb dX0_get_4 rfl (lv_at hl 1 rfl) ?_
  refine lv_ldc (v := 2147483647) hx hb hown (hts _ q28) dX0_get_5 ?_
  refine s_andm hx hb dX0_get_7 ?_
  refine lv_bipush (v := nI 48) hx hb dX0_get_8 (by decide) ?_
  refine s_remn (z := (s_ab x) % 48) hx hb dX0_get_10 (s_ab_lt _) (by omega) (by omega) rfl ?_
  refine s_ld hx hb hK hP 1 0 rfl rfl (Nat.le_refl _) (by omega) dX0_get_11 ?_
  exact hret _ _ _ rfl dX0_get_12
set_option maxHeartbeats 4000000 in
set_option maxRecDepth 100000 in
theorem m0_quick {l : Launch} {G : va_G} {o0 r0 : Nat} {d0 : ClassId} {f : Nat → Int32} (hf : sg_sh f) {x y : Int32} : s_Mv l yX0_quick cX0_quick 4 (s_rk 51 0 0) G vwCl [.ref o0, .int x, .int y] (s_wd o0 r0 d0 f) [(d0, .short)] (fun g => sg_pm (sg_a x) (sg_e (sg_a x) y) f g ∧ sg_so (sg_a x) (sg_e (sg_a x) y) g) (fun g => s_wd o0 r0 d0 g) 0 0 := by
  have hae := sg_e_ge (sg_a x) y
  have heb := sg_e_le (sg_a_le x) y
  refine s_ofv (by decide) (Nat.le_of_ble_eq_true rfl) ?_
  intro p e s m args below meth c Q A ls hx hb hml hown hts hnm hN hA hK hP hD hS hl hret
  have hl : lv_has ls 4 [(0, .ref o0), (1, .int x), (2, .int y)] := hl
  refine lv_aload_n hx hb dX0_quick_0 rfl (lv_at hl 0 rfl) ?_
  refine lv_iload_n hx hb dX0_quick_1 rfl (lv_at hl 1 rfl) ?_
  refine s_cVi (C := RX0) (T := TX0) (N := 1) hx hb hml hl.1 hown hts hK hP (m0_from (o0 := o0) (x := x)) (lw_V q37 q39 qs0 q4 q40) rfl 1 nm0_from rfl (s_rmk (by omega) (by decide) (by omega) (by omega)) (Nat.le_of_ble_eq_true rfl) [] [] rfl rfl 0 0 rfl rfl dX0_quick_2 rfl (fun r1 e1 => ?_)
  subst e1
  refine lv_istore_n (lv' := [(3, .int (nI (sg_a x))), (0, .ref o0), (1, .int x), (2, .int y)]) hx hb dX0_quick_5 rfl hl (by decide) rfl (fun ls hl => ?_)
  refine lv_aload_n hx hb dX0_quick_6 rfl (lv_at hl 1 rfl) ?_
  refine va_get (D := G) (ci := 0) (v := .ref r0) (C := RX0) (T := TX0) (N := 1) hx hb hts in_X0 hown hK hP 0 rfl rfl 0 (by decide) (hts _ q19) (fun _ h9 => h9) rfl dX0_quick_7 ?_
  refine lv_iload_n hx hb dX0_quick_10 rfl (lv_at hl 0 rfl) ?_
  refine lv_aload_n hx hb dX0_quick_11 rfl (lv_at hl 1 rfl) ?_
  refine lv_iload_n hx hb dX0_quick_12 rfl (lv_at hl 0 rfl) ?_
  refine lv_iload_n hx hb dX0_quick_13 rfl (lv_at hl 3 rfl) ?_
  refine s_cVi (C := RX0) (T := TX0) (N := 1) hx hb hml hl.1 hown hts hK hP (m0_to (o0 := o0) (a := sg_a x) (x := y) (sg_a_le x)) (lw_V q41 q43 qs1 q4 q44) rfl 2 nm0_to rfl (s_rmk (by omega) (by decide) (by omega) (by omega)) (Nat.le_of_ble_eq_true rfl) [] [] rfl rfl 0 0 rfl rfl dX0_quick_14 rfl (fun r2 e2 => ?_)
  subst e2
  refine s_cSv (wr := [(o0, .inr (0, [.ref r0]))]) (ws' := fun g => s_wd o0 r0 d0 g) hx hb hml hl.1 hown hts hN hA hK hP hD hS (m_quickSort (Nat.le_refl _) 48 hf (fr := sg_a x) (to := sg_e (sg_a x) y) hae heb (by omega)) (lw_S q45 q46 q6 q47) 3 nm_quickSort rfl (s_rmk (by omega) (by decide) (by omega) (by omega)) (Nat.le_of_ble_eq_true rfl) [1] [0] [0] [0, 1] rfl rfl rfl (fun _ => rfl) rfl dX0_quick_17 rfl (fun g H locs eg hP hD hS => ?_)
  exact hret g _ _ _ _ eg hP hD hS dX0_quick_20
set_option maxHeartbeats 4000000 in
set_option maxRecDepth 100000 in
theorem m0_merge {l : Launch} {G : va_G} {o0 r0 : Nat} {d0 : ClassId} {f : Nat → Int32} (hf : sg_sh f) {x y : Int32} : s_Mv l yX0_merge cX0_merge 4 (s_rk 53 1 48) G vwCl [.ref o0, .int x, .int y] (s_wd o0 r0 d0 f) [(d0, .short)] (fun g => sg_pm (sg_a x) (sg_e (sg_a x) y) f g ∧ sg_so (sg_a x) (sg_e (sg_a x) y) g) (fun g => s_wd o0 r0 d0 g) 1 48 := by
  have hae := sg_e_ge (sg_a x) y
  have heb := sg_e_le (sg_a_le x) y
  refine s_ofv (by decide) (Nat.le_of_ble_eq_true rfl) ?_
  intro p e s m args below meth c Q A ls hx hb hml hown hts hnm hN hA hK hP hD hS hl hret
  have hl : lv_has ls 4 [(0, .ref o0), (1, .int x), (2, .int y)] := hl
  refine lv_aload_n hx hb dX0_merge_0 rfl (lv_at hl 0 rfl) ?_
  refine lv_iload_n hx hb dX0_merge_1 rfl (lv_at hl 1 rfl) ?_
  refine s_cVi (C := RX0) (T := TX0) (N := 1) hx hb hml hl.1 hown hts hK hP (m0_from (o0 := o0) (x := x)) (lw_V q37 q39 qs0 q4 q40) rfl 1 nm0_from rfl (s_rmk (by omega) (by decide) (by omega) (by omega)) (Nat.le_of_ble_eq_true rfl) [] [] rfl rfl 0 0 rfl rfl dX0_merge_2 rfl (fun r1 e1 => ?_)
  subst e1
  refine lv_istore_n (lv' := [(3, .int (nI (sg_a x))), (0, .ref o0), (1, .int x), (2, .int y)]) hx hb dX0_merge_5 rfl hl (by decide) rfl (fun ls hl => ?_)
  refine lv_aload_n hx hb dX0_merge_6 rfl (lv_at hl 1 rfl) ?_
  refine va_get (D := G) (ci := 0) (v := .ref r0) (C := RX0) (T := TX0) (N := 1) hx hb hts in_X0 hown hK hP 0 rfl rfl 0 (by decide) (hts _ q19) (fun _ h9 => h9) rfl dX0_merge_7 ?_
  refine lv_iload_n hx hb dX0_merge_10 rfl (lv_at hl 0 rfl) ?_
  refine lv_aload_n hx hb dX0_merge_11 rfl (lv_at hl 1 rfl) ?_
  refine lv_iload_n hx hb dX0_merge_12 rfl (lv_at hl 0 rfl) ?_
  refine lv_iload_n hx hb dX0_merge_13 rfl (lv_at hl 3 rfl) ?_
  refine s_cVi (C := RX0) (T := TX0) (N := 1) hx hb hml hl.1 hown hts hK hP (m0_to (o0 := o0) (a := sg_a x) (x := y) (sg_a_le x)) (lw_V q41 q43 qs1 q4 q44) rfl 2 nm0_to rfl (s_rmk (by omega) (by decide) (by omega) (by omega)) (Nat.le_of_ble_eq_true rfl) [] [] rfl rfl 0 0 rfl rfl dX0_merge_14 rfl (fun r2 e2 => ?_)
  subst e2
  refine s_cSv (wr := [(o0, .inr (0, [.ref r0]))]) (ws' := fun g => s_wd o0 r0 d0 g) hx hb hml hl.1 hown hts hN hA hK hP hD hS (m_mergeSort (Nat.le_refl _) hf (fr := sg_a x) (to := sg_e (sg_a x) y) hae heb) (lw_S q71 q72 q6 q73) 3 nm_mergeSort rfl (s_rmk (by omega) (by decide) (by omega) (by omega)) (Nat.le_of_ble_eq_true rfl) [1] [0] [0] [0, 1] rfl rfl rfl (fun _ => rfl) rfl dX0_merge_17 rfl (fun g H locs eg hP hD hS => ?_)
  exact hret g _ _ _ _ eg hP hD hS dX0_merge_20
set_option maxHeartbeats 4000000 in
set_option maxRecDepth 100000 in
theorem m0_radix {l : Launch} {G : va_G} {o0 r0 : Nat} {d0 : ClassId} {f : Nat → Int32} (hf : sg_sh f) {x y : Int32} : s_Mv l yX0_radix cX0_radix 4 (s_rk 52 0 0) G vwCl [.ref o0, .int x, .int y] (s_wd o0 r0 d0 f) [(d0, .short)] (fun g => sg_pm (sg_a x) (sg_e (sg_a x) y) f g ∧ sg_so (sg_a x) (sg_e (sg_a x) y) g) (fun g => s_wd o0 r0 d0 g) 0 0 := by
  have hae := sg_e_ge (sg_a x) y
  have heb := sg_e_le (sg_a_le x) y
  refine s_ofv (by decide) (Nat.le_of_ble_eq_true rfl) ?_
  intro p e s m args below meth c Q A ls hx hb hml hown hts hnm hN hA hK hP hD hS hl hret
  have hl : lv_has ls 4 [(0, .ref o0), (1, .int x), (2, .int y)] := hl
  refine lv_aload_n hx hb dX0_radix_0 rfl (lv_at hl 0 rfl) ?_
  refine lv_iload_n hx hb dX0_radix_1 rfl (lv_at hl 1 rfl) ?_
  refine s_cVi (C := RX0) (T := TX0) (N := 1) hx hb hml hl.1 hown hts hK hP (m0_from (o0 := o0) (x := x)) (lw_V q37 q39 qs0 q4 q40) rfl 1 nm0_from rfl (s_rmk (by omega) (by decide) (by omega) (by omega)) (Nat.le_of_ble_eq_true rfl) [] [] rfl rfl 0 0 rfl rfl dX0_radix_2 rfl (fun r1 e1 => ?_)
  subst e1
  refine lv_istore_n (lv' := [(3, .int (nI (sg_a x))), (0, .ref o0), (1, .int x), (2, .int y)]) hx hb dX0_radix_5 rfl hl (by decide) rfl (fun ls hl => ?_)
  refine lv_aload_n hx hb dX0_radix_6 rfl (lv_at hl 1 rfl) ?_
  refine va_get (D := G) (ci := 0) (v := .ref r0) (C := RX0) (T := TX0) (N := 1) hx hb hts in_X0 hown hK hP 0 rfl rfl 0 (by decide) (hts _ q19) (fun _ h9 => h9) rfl dX0_radix_7 ?_
  refine lv_iload_n hx hb dX0_radix_10 rfl (lv_at hl 0 rfl) ?_
  refine lv_aload_n hx hb dX0_radix_11 rfl (lv_at hl 1 rfl) ?_
  refine lv_iload_n hx hb dX0_radix_12 rfl (lv_at hl 0 rfl) ?_
  refine lv_iload_n hx hb dX0_radix_13 rfl (lv_at hl 3 rfl) ?_
  refine s_cVi (C := RX0) (T := TX0) (N := 1) hx hb hml hl.1 hown hts hK hP (m0_to (o0 := o0) (a := sg_a x) (x := y) (sg_a_le x)) (lw_V q41 q43 qs1 q4 q44) rfl 2 nm0_to rfl (s_rmk (by omega) (by decide) (by omega) (by omega)) (Nat.le_of_ble_eq_true rfl) [] [] rfl rfl 0 0 rfl rfl dX0_radix_14 rfl (fun r2 e2 => ?_)
  subst e2
  refine s_cSv (wr := [(o0, .inr (0, [.ref r0]))]) (ws' := fun g => s_wd o0 r0 d0 g) hx hb hml hl.1 hown hts hN hA hK hP hD hS (m_radixSort (Nat.le_refl _) hf (fr := sg_a x) (to := sg_e (sg_a x) y) hae heb) (lw_S q100 q101 q6 q102) 3 nm_radixSort rfl (s_rmk (by omega) (by decide) (by omega) (by omega)) (Nat.le_of_ble_eq_true rfl) [1] [0] [0] [0, 1] rfl rfl rfl (fun _ => rfl) rfl dX0_radix_17 rfl (fun g H locs eg hP hD hS => ?_)
  exact hret g _ _ _ _ eg hP hD hS dX0_radix_20
set_option maxHeartbeats 4000000 in
set_option maxRecDepth 100000 in
theorem m0_reverse {l : Launch} {G : va_G} {o0 r0 : Nat} {d0 : ClassId} {f : Nat → Int32} (hf : sg_sh f) {x y : Int32} : s_Mv l yX0_reverse cX0_reverse 4 (s_rk 1 0 0) G vwCl [.ref o0, .int x, .int y] (s_wd o0 r0 d0 f) [(d0, .short)] (fun g => g = sg_rev (sg_a x) (sg_e (sg_a x) y) f) (fun g => s_wd o0 r0 d0 g) 0 0 := by
  have hae := sg_e_ge (sg_a x) y
  have heb := sg_e_le (sg_a_le x) y
  refine s_ofv (by decide) (Nat.le_of_ble_eq_true rfl) ?_
  intro p e s m args below meth c Q A ls hx hb hml hown hts hnm hN hA hK hP hD hS hl hret
  have hl : lv_has ls 4 [(0, .ref o0), (1, .int x), (2, .int y)] := hl
  refine lv_aload_n hx hb dX0_reverse_0 rfl (lv_at hl 0 rfl) ?_
  refine lv_iload_n hx hb dX0_reverse_1 rfl (lv_at hl 1 rfl) ?_
  refine s_cVi (C := RX0) (T := TX0) (N := 1) hx hb hml hl.1 hown hts hK hP (m0_from (o0 := o0) (x := x)) (lw_V q37 q39 qs0 q4 q40) rfl 1 nm0_from rfl (s_rmk (by omega) (by decide) (by omega) (by omega)) (Nat.le_of_ble_eq_true rfl) [] [] rfl rfl 0 0 rfl rfl dX0_reverse_2 rfl (fun r1 e1 => ?_)
  subst e1
  refine lv_istore_n (lv' := [(3, .int (nI (sg_a x))), (0, .ref o0), (1, .int x), (2, .int y)]) hx hb dX0_reverse_5 rfl hl (by decide) rfl (fun ls hl => ?_)
  refine lv_aload_n hx hb dX0_reverse_6 rfl (lv_at hl 1 rfl) ?_
  refine va_get (D := G) (ci := 0) (v := .ref r0) (C := RX0) (T := TX0) (N := 1) hx hb hts in_X0 hown hK hP 0 rfl rfl 0 (by decide) (hts _ q19) (fun _ h9 => h9) rfl dX0_reverse_7 ?_
  refine lv_iload_n hx hb dX0_reverse_10 rfl (lv_at hl 0 rfl) ?_
  refine lv_aload_n hx hb dX0_reverse_11 rfl (lv_at hl 1 rfl) ?_
  refine lv_iload_n hx hb dX0_reverse_12 rfl (lv_at hl 0 rfl) ?_
  refine lv_iload_n hx hb dX0_reverse_13 rfl (lv_at hl 3 rfl) ?_
  refine s_cVi (C := RX0) (T := TX0) (N := 1) hx hb hml hl.1 hown hts hK hP (m0_to (o0 := o0) (a := sg_a x) (x := y) (sg_a_le x)) (lw_V q41 q43 qs1 q4 q44) rfl 2 nm0_to rfl (s_rmk (by omega) (by decide) (by omega) (by omega)) (Nat.le_of_ble_eq_true rfl) [] [] rfl rfl 0 0 rfl rfl dX0_reverse_14 rfl (fun r2 e2 => ?_)
  subst e2
  refine s_cSr (wr := [(o0, .inr (0, [.ref r0]))]) (ws' := fun g _ => s_wd o0 r0 d0 g) hx hb hml hl.1 hown hts hN hA hK hP hD hS (m_reverse (Nat.le_refl _) hf (fr := sg_a x) (to := sg_e (sg_a x) y) hae heb) (lw_S q108 q109 q6 q110) 3 nm_reverse rfl (s_rmk (by omega) (by decide) (by omega) (by omega)) (Nat.le_of_ble_eq_true rfl) [1] [0] [0] [0, 1] rfl rfl rfl (fun _ _ => rfl) rfl dX0_reverse_17 rfl (fun g a H locs eg hP hK hD hS => ?_)
  refine lv_pop hx hb dX0_reverse_20 rfl ?_
  exact hret g _ _ _ _ eg hP hD hS dX0_reverse_21
set_option maxHeartbeats 4000000 in
set_option maxRecDepth 100000 in
theorem m0_find {l : Launch} {G : va_G} {o0 r0 : Nat} {d0 : ClassId} {f : Nat → Int32} (hf : sg_sh f) {x y z : Int32} : s_Mi l yX0_find cX0_find 7 (s_rk 1 0 0) G vwCl [.ref o0, .int x, .int y, .int z] (s_wd o0 r0 d0 f) [(d0, .short)] (sg_find (sg_a x) (sg_e (sg_a x) y) (sg_nw z) f) := by
  have hae := sg_e_ge (sg_a x) y
  have heb := sg_e_le (sg_a_le x) y
  refine s_ofi (by decide) (Nat.le_of_ble_eq_true rfl) ?_
  intro p e s m args below meth c Q ls hx hb hml hown hts hK hP hl hret
  have hl : lv_has ls 7 [(0, .ref o0), (1, .int x), (2, .int y), (3, .int z)] := hl
  have loop : ∀ (a b : Nat), a ≤ b → b ≤ 48 → (∀ (v : Int32) (pc : Nat) (ls1 : Array Slot), sg_find a b (sg_nw z) f v → decode cX0_find pc = .ok (.ireturn, 1) → W p l e (s_rk 1 0 0) s m args below meth c s.heap [] 0 0 Q (F0 m pc ls1 [.int v])) → ∀ (t i : Nat) (ls : Array Slot), b < i + t → a + 1 ≤ i → i ≤ 49 → (∀ j, a ≤ j → j + 1 < i → (f j).toInt < (f (j + 1)).toInt) → lv_has ls 7 [(0, .ref o0), (1, .int x), (2, .int y), (3, .int z), (4, .int (nI a)), (5, .int (nI b)), (6, .int (nI i))] → W p l e (s_rk 1 0 0) s m args below meth c s.heap [] 0 0 Q (F0 m 22 ls []) := by
    intro a b hae heb hret t
    induction t with
    | zero =>
      intro i ls ht hi hi49 hadj hl
      refine lv_iload hx hb dX0_find_22 (lv_at hl 6 rfl) ?_
      refine lv_iload hx hb dX0_find_24 (lv_at hl 5 rfl) ?_
      refine s_nge (tgt := 57) hx hb dX0_find_26 (by decide) (by omega) (by omega) (fun c1 => ?_) (fun c1 => ?_)
      · refine lv_aload_n hx hb dX0_find_57 rfl (lv_at hl 0 rfl) ?_
        refine va_get (D := G) (ci := 0) (v := .ref r0) (C := RX0) (T := TX0) (N := 1) hx hb hts in_X0 hown hK hP 0 rfl rfl 0 (by decide) (hts _ q19) (fun _ h9 => h9) rfl dX0_find_58 ?_
        refine lv_iload hx hb dX0_find_61 (lv_at hl 4 rfl) ?_
        refine lv_iload hx hb dX0_find_63 (lv_at hl 5 rfl) ?_
        refine lv_iload_n hx hb dX0_find_65 rfl (lv_at hl 3 rfl) ?_
        refine lv_i2s (v := sg_nw z) hx hb dX0_find_66 rfl ?_
        have hst : sg_st a b f := sg_st_of (fun j q1 q2 => hadj j q1 (by omega))
        refine s_cSi hx hb hml hl.1 hown hts hK hP (m_binarySearch (Nat.le_refl _) hf (fr := a) (to := b) (key := sg_nw z) hae heb hst) (lw_S q115 q116 q6 q117) 4 nm_binarySearch rfl (s_rmk (by omega) (by decide) (by omega) (by omega)) (Nat.le_of_ble_eq_true rfl) [1] [0] rfl rfl dX0_find_67 rfl (fun r er => ?_)
        exact hret r _ _ ⟨fun _ => er, fun q => absurd hst q⟩ dX0_find_70
      · omega
    | succ t ih =>
      intro i ls ht hi hi49 hadj hl
      refine lv_iload hx hb dX0_find_22 (lv_at hl 6 rfl) ?_
      refine lv_iload hx hb dX0_find_24 (lv_at hl 5 rfl) ?_
      refine s_nge (tgt := 57) hx hb dX0_find_26 (by decide) (by omega) (by omega) (fun c1 => ?_) (fun c1 => ?_)
      · refine lv_aload_n hx hb dX0_find_57 rfl (lv_at hl 0 rfl) ?_
        refine va_get (D := G) (ci := 0) (v := .ref r0) (C := RX0) (T := TX0) (N := 1) hx hb hts in_X0 hown hK hP 0 rfl rfl 0 (by decide) (hts _ q19) (fun _ h9 => h9) rfl dX0_find_58 ?_
        refine lv_iload hx hb dX0_find_61 (lv_at hl 4 rfl) ?_
        refine lv_iload hx hb dX0_find_63 (lv_at hl 5 rfl) ?_
        refine lv_iload_n hx hb dX0_find_65 rfl (lv_at hl 3 rfl) ?_
        refine lv_i2s (v := sg_nw z) hx hb dX0_find_66 rfl ?_
        have hst : sg_st a b f := sg_st_of (fun j q1 q2 => hadj j q1 (by omega))
        refine s_cSi hx hb hml hl.1 hown hts hK hP (m_binarySearch (Nat.le_refl _) hf (fr := a) (to := b) (key := sg_nw z) hae heb hst) (lw_S q115 q116 q6 q117) 4 nm_binarySearch rfl (s_rmk (by omega) (by decide) (by omega) (by omega)) (Nat.le_of_ble_eq_true rfl) [1] [0] rfl rfl dX0_find_67 rfl (fun r er => ?_)
        exact hret r _ _ ⟨fun _ => er, fun q => absurd hst q⟩ dX0_find_70
      · refine lv_aload_n hx hb dX0_find_29 rfl (lv_at hl 0 rfl) ?_
        refine va_get (D := G) (ci := 0) (v := .ref r0) (C := RX0) (T := TX0) (N := 1) hx hb hts in_X0 hown hK hP 0 rfl rfl 0 (by decide) (hts _ q19) (fun _ h9 => h9) rfl dX0_find_30 ?_
        refine lv_iload hx hb dX0_find_33 (lv_at hl 6 rfl) ?_
        refine lv_iconst (v := nI 1) hx hb dX0_find_35 (by decide) ?_
        refine s_subn (z := i - 1) hx hb dX0_find_36 (by omega) ?_
        refine s_ld hx hb hK hP 1 0 rfl rfl (Nat.le_refl _) (by omega) dX0_find_37 ?_
        refine lv_aload_n hx hb dX0_find_38 rfl (lv_at hl 0 rfl) ?_
        refine va_get (D := G) (ci := 0) (v := .ref r0) (C := RX0) (T := TX0) (N := 1) hx hb hts in_X0 hown hK hP 0 rfl rfl 0 (by decide) (hts _ q19) (fun _ h9 => h9) rfl dX0_find_39 ?_
        refine lv_iload hx hb dX0_find_42 (lv_at hl 6 rfl) ?_
        refine s_ld hx hb hK hP 1 0 rfl rfl (Nat.le_refl _) (by omega) dX0_find_44 ?_
        refine s_vlt (tgt := 51) hx hb dX0_find_45 (by decide) (fun c2 => ?_) (fun c2 => ?_)
        · refine lv_iinc (v := (nI (i + 1))) (lv' := [(6, .int (nI (i + 1))), (0, .ref o0), (1, .int x), (2, .int y), (3, .int z), (4, .int (nI a)), (5, .int (nI b))]) hx hb dX0_find_51 hl (k := 6) rfl (s_inc (by omega)) (by decide) rfl (fun ls hl => ?_)
          refine lv_goto (tgt := 22) hx hb dX0_find_54 (by decide) ?_
          exact ih (i + 1) ls (by omega) (by omega) (by omega) (fun j q1 q2 => by
            by_cases hj : j = i - 1
            · rw [hj, show i - 1 + 1 = i by omega]; exact c2
            · exact hadj j q1 (by omega)) (lv_sub hl [1, 2, 3, 4, 5, 6, 0] rfl)
        · refine lv_bipush (v := (-100)) hx hb dX0_find_48 (by decide) ?_
          exact hret (-100) _ _ ⟨fun q => absurd (q (i - 1) i (by omega) (by omega) c1) (by omega), fun _ => rfl⟩ dX0_find_50
  refine lv_aload_n hx hb dX0_find_0 rfl (lv_at hl 0 rfl) ?_
  refine lv_iload_n hx hb dX0_find_1 rfl (lv_at hl 1 rfl) ?_
  refine s_cVi (C := RX0) (T := TX0) (N := 1) hx hb hml hl.1 hown hts hK hP (m0_from (o0 := o0) (x := x)) (lw_V q37 q39 qs0 q4 q40) rfl 1 nm0_from rfl (s_rmk (by omega) (by decide) (by omega) (by omega)) (Nat.le_of_ble_eq_true rfl) [] [] rfl rfl 0 0 rfl rfl dX0_find_2 rfl (fun r1 e1 => ?_)
  subst e1
  refine lv_istore (lv' := [(4, .int (nI (sg_a x))), (0, .ref o0), (1, .int x), (2, .int y), (3, .int z)]) hx hb dX0_find_5 hl (by decide) rfl (fun ls hl => ?_)
  refine lv_aload_n hx hb dX0_find_7 rfl (lv_at hl 1 rfl) ?_
  refine lv_iload hx hb dX0_find_8 (lv_at hl 0 rfl) ?_
  refine lv_iload_n hx hb dX0_find_10 rfl (lv_at hl 3 rfl) ?_
  refine s_cVi (C := RX0) (T := TX0) (N := 1) hx hb hml hl.1 hown hts hK hP (m0_to (o0 := o0) (a := sg_a x) (x := y) (sg_a_le x)) (lw_V q41 q43 qs1 q4 q44) rfl 2 nm0_to rfl (s_rmk (by omega) (by decide) (by omega) (by omega)) (Nat.le_of_ble_eq_true rfl) [] [] rfl rfl 0 0 rfl rfl dX0_find_11 rfl (fun r2 e2 => ?_)
  subst e2
  refine lv_istore (lv' := [(5, .int (nI (sg_e (sg_a x) y))), (4, .int (nI (sg_a x))), (0, .ref o0), (1, .int x), (2, .int y), (3, .int z)]) hx hb dX0_find_14 hl (by decide) rfl (fun ls hl => ?_)
  refine lv_iload hx hb dX0_find_16 (lv_at hl 1 rfl) ?_
  refine lv_iconst (v := nI 1) hx hb dX0_find_18 (by decide) ?_
  refine s_addn (z := sg_a x + 1) hx hb dX0_find_19 (by omega) ?_
  refine lv_istore (lv' := [(6, .int (nI (sg_a x + 1))), (5, .int (nI (sg_e (sg_a x) y))), (4, .int (nI (sg_a x))), (0, .ref o0), (1, .int x), (2, .int y), (3, .int z)]) hx hb dX0_find_20 hl (by decide) rfl (fun ls hl => ?_)
  exact loop (sg_a x) (sg_e (sg_a x) y) hae heb hret (sg_e (sg_a x) y + 1) (sg_a x + 1) ls (by omega) (by omega) (by omega) (fun j q1 q2 => by omega) (lv_sub hl [3, 4, 5, 6, 2, 1, 0] rfl)
set_option maxHeartbeats 4000000 in
set_option maxRecDepth 100000 in
theorem m0_init {l : Launch} {G : va_G} {o0 : Nat} : s_Mc l yX0_init cX0_init 1 (s_rk 1 1 48) G vwCl [.ref o0] [(o0, .inr (0, [.null]))] [] (fun _ : Nat × ClassId => True) (fun u => s_wd o0 u.1 u.2 (fun _ => 0)) (fun u => [(u.2, .short)]) 1 48 := by
  refine s_ofc (by decide) (Nat.le_of_ble_eq_true rfl) ?_
  intro p e s m args below meth c Q A ls hx hb hml hown hts hnm hN hA hK hP hD hS hl hret
  have hl : lv_has ls 1 [(0, .ref o0)] := hl
  refine lv_aload_n hx hb dX0_init_0 rfl (lv_at hl 0 rfl) ?_
  refine W.objInit hx hb hown (hts _ q16) (hts _ q17) (hts _ q18) rfl (hl.1.trans hml.symm) rfl dX0_init_1 (Nat.le_of_ble_eq_true rfl) (Nat.le_of_ble_eq_true rfl) ?_
  refine W.eq (g2 := F0 m 4 ls []) rfl ?_
  refine lv_aload_n hx hb dX0_init_4 rfl (lv_at hl 0 rfl) ?_
  refine lv_bipush (v := nI 48) hx hb dX0_init_5 (by decide) ?_
  refine va_newa (atype := .short) (ty := .short) (a0 := (48, .inl fun _ => 0)) (N' := 48) hx hb (hts _ q23) rfl hK hP hD hS hA (fun _ => rfl) (by decide) (by decide) (by decide) (by decide) (by decide) dX0_init_7 (fun r0 d0 H hK hP hD hS => ?_)
  have hP : va_P G vwCl [(o0, .inr (0, [.null])), (r0, .inl (d0, 48, .inl fun _ => 0))] H := hP
  have hD : va_D A [(o0, .inr (0, [.null])), (r0, .inl (d0, 48, .inl fun _ => 0))] := hD
  have hK : va_K G vwCl [(d0, .short)] s := hK
  refine va_putF (D := G) (ci := 0) (v := .ref r0) (ty := .array .short) (C := RX0) (T := TX0) (N := 1) hx hb hts in_X0 tyX0 tyX0_ok nmX0 hown hK hP hD hS 0 rfl rfl 0 (by decide) (hts _ q19) (fun _ h9 => h9) rfl hnm rfl (by decide +kernel) rfl rfl (Nat.le_of_ble_eq_true rfl) dX0_init_9 (fun H locs hP hD hS => ?_)
  exact hret (r0, d0) _ _ _ _ trivial hP hK hD hS dX0_init_12
end
section
/-! ShortSortDeskModel: its cells are the object o1 and its array r1 -/
abbrev s_wm (o1 r1 : Nat) (d1 : ClassId) (f : Nat → Int32) : va_W := [(o1, .inr (1, [.ref r1])), (r1, .inl (d1, 48, .inl f))]
theorem sg_nw_toInt (x : Int32) : (sg_nw x).toInt = x.toInt.bmod 65536 := by
  unfold sg_nw
  rw [Int16.toInt_toInt32, Int32.toInt_toInt16]
theorem sg_nw_c (x : Int32) (n : Nat) (hn : n = x.toBitVec.toNat % 65536) : (n < 32768 → nI n = sg_nw x) ∧ (32768 ≤ n → nI n - 65536 = sg_nw x) := by
  have e : x.toInt = if 2 * x.toBitVec.toNat < 2 ^ 32 then (x.toBitVec.toNat : Int) else (x.toBitVec.toNat : Int) - 2 ^ 32 := BitVec.toInt_eq_toNat_cond x.toBitVec
  have hx : x.toBitVec.toNat < 2 ^ 32 := x.toBitVec.isLt
  refine ⟨fun h => Int32.toInt_inj.mp ?_, fun h => Int32.toInt_inj.mp ?_⟩
  · rw [sg_nw_toInt, nI_toInt (by omega), Int.bmod_def, e]
    split <;> split <;> omega
  · rw [sg_nw_toInt, Int32.toInt_sub, nI_toInt (by omega), show (65536 : Int32).toInt = 65536 from by decide, Int.bmod_def, Int.bmod_def, e]
    split <;> split <;> split <;> omega
theorem nm1_init : s_nm yX1_init 0 := by decide +kernel
theorem nm1_set : s_nm yX1_set 2 := by decide +kernel
theorem nm1_place : s_nm yX1_place 1 := by decide +kernel
theorem nm1_narrow : s_nm yX1_narrow 1 := by decide +kernel
theorem nm1_get : s_nm yX1_get 1 := by decide +kernel
theorem nm1_start : s_nm yX1_start 1 := by decide +kernel
theorem nm1_end : s_nm yX1_end 2 := by decide +kernel
theorem nm1_ascending : s_nm yX1_ascending 2 := by decide +kernel
theorem nm1_quick : s_nm yX1_quick 2 := by decide +kernel
theorem nm1_merge : s_nm yX1_merge 2 := by decide +kernel
theorem nm1_radix : s_nm yX1_radix 2 := by decide +kernel
theorem nm1_reverse : s_nm yX1_reverse 2 := by decide +kernel
theorem nm1_find : s_nm yX1_find 3 := by decide +kernel
set_option maxHeartbeats 4000000 in
set_option maxRecDepth 100000 in
theorem m1_place {l : Launch} {G : va_G} {x : Int32} : s_Mi l yX1_place cX1_place 1 (s_rk 0 0 0) G vwCl [.int x] [] [] (fun r => r = nI (s_ab x % 48)) := by
  refine s_ofi (by decide) (Nat.le_of_ble_eq_true rfl) ?_
  intro p e s m args below meth c Q ls hx hb hml hown hts hK hP hl hret
  have hl : lv_has ls 1 [(0, .int x)] := hl
  refine lv_iload_n hx hb dX1_place_0 rfl (lv_at hl 0 rfl) ?_
  refine lv_ldc (v := 2147483647) hx hb hown (hts _ q135) dX1_place_1 ?_
  refine s_andm hx hb dX1_place_3 ?_
  refine lv_bipush (v := nI 48) hx hb dX1_place_4 (by decide) ?_
  refine s_remn (z := (s_ab x) % 48) hx hb dX1_place_6 (s_ab_lt _) (by omega) (by omega) rfl ?_
  exact hret _ _ _ rfl dX1_place_7
set_option maxHeartbeats 4000000 in
set_option maxRecDepth 100000 in
theorem m1_start {l : Launch} {G : va_G} {x : Int32} : s_Mi l yX1_start cX1_start 1 (s_rk 0 0 0) G vwCl [.int x] [] [] (fun r => r = nI (sg_a x)) := by
  refine s_ofi (by decide) (Nat.le_of_ble_eq_true rfl) ?_
  intro p e s m args below meth c Q ls hx hb hml hown hts hK hP hl hret
  have hl : lv_has ls 1 [(0, .int x)] := hl
  refine lv_iload_n hx hb dX1_start_0 rfl (lv_at hl 0 rfl) ?_
  refine lv_ldc (v := 2147483647) hx hb hown (hts _ q135) dX1_start_1 ?_
  refine s_andm hx hb dX1_start_3 ?_
  refine lv_bipush (v := nI 49) hx hb dX1_start_4 (by decide) ?_
  refine s_remn (z := sg_a x) hx hb dX1_start_6 (s_ab_lt _) (by omega) (by omega) rfl ?_
  exact hret _ _ _ rfl dX1_start_7
set_option maxHeartbeats 4000000 in
set_option maxRecDepth 100000 in
theorem m1_end {l : Launch} {G : va_G} {a : Nat} {x : Int32} (ha : a ≤ 48) : s_Mi l yX1_end cX1_end 2 (s_rk 0 0 0) G vwCl [.int (nI a), .int x] [] [] (fun r => r = nI (sg_e a x)) := by
  refine s_ofi (by decide) (Nat.le_of_ble_eq_true rfl) ?_
  intro p e s m args below meth c Q ls hx hb hml hown hts hK hP hl hret
  have hl : lv_has ls 2 [(0, .int (nI a)), (1, .int x)] := hl
  refine lv_iload_n hx hb dX1_end_0 rfl (lv_at hl 0 rfl) ?_
  refine lv_iload_n hx hb dX1_end_1 rfl (lv_at hl 1 rfl) ?_
  refine lv_ldc (v := 2147483647) hx hb hown (hts _ q135) dX1_end_2 ?_
  refine s_andm hx hb dX1_end_4 ?_
  refine lv_bipush (v := nI 49) hx hb dX1_end_5 (by decide) ?_
  refine lv_iload_n hx hb dX1_end_7 rfl (lv_at hl 0 rfl) ?_
  refine s_subn (z := 49 - a) hx hb dX1_end_8 (by omega) ?_
  refine s_remn (z := (s_ab x) % (49 - a)) hx hb dX1_end_9 (s_ab_lt _) (by omega) (by omega) rfl ?_
  refine s_addn (z := sg_e a x) hx hb dX1_end_10 rfl ?_
  exact hret _ _ _ rfl dX1_end_11
set_option maxHeartbeats 4000000 in
set_option maxRecDepth 100000 in
theorem m1_narrow {l : Launch} {G : va_G} {x : Int32} : s_Mi l yX1_narrow cX1_narrow 2 (s_rk 0 0 0) G vwCl [.int x] [] [] (fun r => r = sg_nw x) := by
  refine s_ofi (by decide) (Nat.le_of_ble_eq_true rfl) ?_
  intro p e s m args below meth c Q ls hx hb hml hown hts hK hP hl hret
  have hl : lv_has ls 2 [(0, .int x)] := hl
  refine lv_iload_n hx hb dX1_narrow_0 rfl (lv_at hl 0 rfl) ?_
  refine lv_ldc (v := 65535) hx hb hown (hts _ q139) dX1_narrow_1 ?_
  refine lv_iand hx hb dX1_narrow_3 ?_
  obtain ⟨n, hn⟩ : ∃ n, n = x.toBitVec.toNat % 65536 := ⟨_, rfl⟩
  have hn2 : n < 65536 := by omega
  refine s_top (y := (nI n)) ((pk_and x 16 (by decide)).trans (congrArg nI hn.symm)) ?_
  refine lv_istore_n (lv' := [(1, .int (nI n)), (0, .int x)]) hx hb dX1_narrow_4 rfl hl (by decide) rfl (fun ls hl => ?_)
  refine lv_iload_n hx hb dX1_narrow_5 rfl (lv_at hl 0 rfl) ?_
  refine lv_ldc (v := 32768) hx hb hown (hts _ q140) dX1_narrow_6 ?_
  refine s_vlt (tgt := 16) hx hb dX1_narrow_8 (by decide) (fun c1 => ?_) (fun c1 => ?_)
  · rw [nI_toInt (by omega), show (32768 : Int32).toInt = 32768 from by decide] at c1
    refine lv_iload_n hx hb dX1_narrow_16 rfl (lv_at hl 0 rfl) ?_
    exact hret _ _ _ ((sg_nw_c x n hn).1 (by omega)) dX1_narrow_17
  · rw [nI_toInt (by omega), show (32768 : Int32).toInt = 32768 from by decide] at c1
    refine lv_iload_n hx hb dX1_narrow_11 rfl (lv_at hl 0 rfl) ?_
    refine lv_ldc (v := 65536) hx hb hown (hts _ q141) dX1_narrow_12 ?_
    refine lv_isub hx hb dX1_narrow_14 ?_
    exact hret _ _ _ ((sg_nw_c x n hn).2 (by omega)) dX1_narrow_15
set_option maxHeartbeats 4000000 in
set_option maxRecDepth 100000 in
theorem m1_set {l : Launch} {G : va_G} {o1 r1 : Nat} {d1 : ClassId} {f : Nat → Int32} {x z : Int32} : s_Mv l yX1_set cX1_set 3 (s_rk 1 0 0) G vwCl [.ref o1, .int x, .int z] (s_wm o1 r1 d1 f) [(d1, .int)] (fun g => g = upd f (s_ab x % 48) (sg_nw z)) (fun g => s_wm o1 r1 d1 g) 0 0 := by
  refine s_ofv (by decide) (Nat.le_of_ble_eq_true rfl) ?_
  intro p e s m args below meth c Q A ls hx hb hml hown hts hnm hN hA hK hP hD hS hl hret
  have hl : lv_has ls 3 [(0, .ref o1), (1, .int x), (2, .int z)] := hl
  refine lv_aload_n hx hb dX1_set_0 rfl (lv_at hl 0 rfl) ?_
  refine va_get (D := G) (ci := 1) (v := .ref r1) (C := RX1) (T := TX1) (N := 1) hx hb hts in_X1 hown hK hP 0 rfl rfl 0 (by decide) (hts _ q124) (fun _ h9 => h9) rfl dX1_set_1 ?_
  refine lv_iload_n hx hb dX1_set_4 rfl (lv_at hl 1 rfl) ?_
  refine s_cSi hx hb hml hl.1 hown hts hK hP (m1_place (x := x)) (lw_S q132 q133 q5 q134) 1 nm1_place rfl (s_rmk (by omega) (by decide) (by omega) (by omega)) (Nat.le_of_ble_eq_true rfl) [] [] rfl rfl dX1_set_5 rfl (fun r1' e1' => ?_)
  subst e1'
  refine lv_iload_n hx hb dX1_set_8 rfl (lv_at hl 2 rfl) ?_
  refine s_cSi hx hb hml hl.1 hown hts hK hP (m1_narrow (x := z)) (lw_S q136 q137 q5 q138) 1 nm1_narrow rfl (s_rmk (by omega) (by decide) (by omega) (by omega)) (Nat.le_of_ble_eq_true rfl) [] [] rfl rfl dX1_set_9 rfl (fun r1' e1' => ?_)
  subst e1'
  refine s_istn (ws' := fun g => s_wm o1 r1 d1 g) hx hb hK hP hD hS 1 0 rfl (fun _ => rfl) rfl (Nat.le_refl _) (by omega) dX1_set_12 (fun g H locs e1 hP hD hS => ?_)
  exact hret g _ _ _ _ e1 hP hD hS dX1_set_13
set_option maxHeartbeats 4000000 in
set_option maxRecDepth 100000 in
theorem m1_get {l : Launch} {G : va_G} {o1 r1 : Nat} {d1 : ClassId} {f : Nat → Int32} {x : Int32} : s_Mi l yX1_get cX1_get 2 (s_rk 1 0 0) G vwCl [.ref o1, .int x] (s_wm o1 r1 d1 f) [(d1, .int)] (fun r => r = f (s_ab x % 48)) := by
  refine s_ofi (by decide) (Nat.le_of_ble_eq_true rfl) ?_
  intro p e s m args below meth c Q ls hx hb hml hown hts hK hP hl hret
  have hl : lv_has ls 2 [(0, .ref o1), (1, .int x)] := hl
  refine lv_aload_n hx hb dX1_get_0 rfl (lv_at hl 0 rfl) ?_
  refine va_get (D := G) (ci := 1) (v := .ref r1) (C := RX1) (T := TX1) (N := 1) hx hb hts in_X1 hown hK hP 0 rfl rfl 0 (by decide) (hts _ q124) (fun _ h9 => h9) rfl dX1_get_1 ?_
  refine lv_iload_n hx hb dX1_get_4 rfl (lv_at hl 1 rfl) ?_
  refine s_cSi hx hb hml hl.1 hown hts hK hP (m1_place (x := x)) (lw_S q132 q133 q5 q134) 1 nm1_place rfl (s_rmk (by omega) (by decide) (by omega) (by omega)) (Nat.le_of_ble_eq_true rfl) [] [] rfl rfl dX1_get_5 rfl (fun r1' e1' => ?_)
  subst e1'
  refine s_ildn hx hb hK hP 1 0 rfl rfl (Nat.le_refl _) (by omega) dX1_get_8 ?_
  exact hret _ _ _ rfl dX1_get_9
set_option maxHeartbeats 4000000 in
set_option maxRecDepth 100000 in
theorem m1_ascending {l : Launch} {G : va_G} {o1 r1 : Nat} {d1 : ClassId} {f : Nat → Int32} {a b : Nat} (hab : a ≤ b) (hbn : b ≤ 48) : s_Mv l yX1_ascending cX1_ascending 6 (s_rk 0 0 0) G vwCl [.ref o1, .int (nI a), .int (nI b)] (s_wm o1 r1 d1 f) [(d1, .int)] (fun g => sg_pm a b f g ∧ sg_so a b g) (fun g => s_wm o1 r1 d1 g) 0 0 := by
  refine s_ofv (by decide) (Nat.le_of_ble_eq_true rfl) ?_
  intro p e s m args below meth c Q A ls hx hb hml hown hts hnm hN hA hK hP hD hS hl hret
  have hl : lv_has ls 6 [(0, .ref o1), (1, .int (nI a)), (2, .int (nI b))] := hl
  have inner : ∀ (t i j mm : Nat) (f1 : Nat → Int32) (H : Heap) (locs : List Loc) (ls : Array Slot), b < j + t → a ≤ i → i ≤ mm → mm < j → j ≤ b → sg_pm a b f f1 → sg_sel a b i f1 → (∀ v, i ≤ v → v < j → (f1 mm).toInt ≤ (f1 v).toInt) → va_P G vwCl (s_wm o1 r1 d1 f1) H → va_D A (s_wm o1 r1 d1 f1) → va_S A s.heap H locs → lv_has ls 6 [(0, .ref o1), (1, .int (nI a)), (2, .int (nI b)), (3, .int (nI i)), (4, .int (nI mm)), (5, .int (nI j))] →
      (∀ (i2 : Nat) (f2 : Nat → Int32) (H : Heap) (locs : List Loc) (ls : Array Slot), i2 = i + 1 → sg_pm a b f f2 → sg_sel a b i2 f2 → va_P G vwCl (s_wm o1 r1 d1 f2) H → va_D A (s_wm o1 r1 d1 f2) → va_S A s.heap H locs → lv_has ls 6 [(0, .ref o1), (1, .int (nI a)), (2, .int (nI b)), (3, .int (nI i2))] → W p l e (s_rk 0 0 0) s m args below meth c H locs 0 0 Q (F0 m 2 ls [])) → W p l e (s_rk 0 0 0) s m args below meth c H locs 0 0 Q (F0 m 15 ls []) := by
    intro t
    induction t with
    | zero => intro i j mm f1 H locs ls h1 h2 h3 h4 h5; omega
    | succ t ih =>
      intro i j mm f1 H locs ls h1 hai him hmj hjb hpm hsel hm hP hD hS hl kk
      refine lv_iload hx hb dX1_ascending_15 (lv_at hl 5 rfl) ?_
      refine lv_iload_n hx hb dX1_ascending_17 rfl (lv_at hl 2 rfl) ?_
      refine s_nge (tgt := 48) hx hb dX1_ascending_18 (by decide) (by omega) (by omega) (fun c1 => ?_) (fun c1 => ?_)
      · have hmin : ∀ v, i ≤ v → v < b → (f1 mm).toInt ≤ (f1 v).toInt := fun v h3 h4 => hm v h3 (by omega)
        refine lv_aload_n hx hb dX1_ascending_48 rfl (lv_at hl 0 rfl) ?_
        refine va_get (D := G) (ci := 1) (v := .ref r1) (C := RX1) (T := TX1) (N := 1) hx hb hts in_X1 hown hK hP 0 rfl rfl 0 (by decide) (hts _ q124) (fun _ h9 => h9) rfl dX1_ascending_49 ?_
        refine lv_iload_n hx hb dX1_ascending_52 rfl (lv_at hl 3 rfl) ?_
        refine s_ildn hx hb hK hP 1 0 rfl rfl (Nat.le_refl _) (by omega) dX1_ascending_53 ?_
        refine lv_istore (lv' := [(5, .int (f1 i)), (0, .ref o1), (1, .int (nI a)), (2, .int (nI b)), (3, .int (nI i)), (4, .int (nI mm))]) hx hb dX1_ascending_54 hl (by decide) rfl (fun ls hl => ?_)
        refine lv_aload_n hx hb dX1_ascending_56 rfl (lv_at hl 1 rfl) ?_
        refine va_get (D := G) (ci := 1) (v := .ref r1) (C := RX1) (T := TX1) (N := 1) hx hb hts in_X1 hown hK hP 0 rfl rfl 0 (by decide) (hts _ q124) (fun _ h9 => h9) rfl dX1_ascending_57 ?_
        refine lv_iload_n hx hb dX1_ascending_60 rfl (lv_at hl 4 rfl) ?_
        refine lv_aload_n hx hb dX1_ascending_61 rfl (lv_at hl 1 rfl) ?_
        refine va_get (D := G) (ci := 1) (v := .ref r1) (C := RX1) (T := TX1) (N := 1) hx hb hts in_X1 hown hK hP 0 rfl rfl 0 (by decide) (hts _ q124) (fun _ h9 => h9) rfl dX1_ascending_62 ?_
        refine lv_iload hx hb dX1_ascending_65 (lv_at hl 5 rfl) ?_
        refine s_ildn hx hb hK hP 1 0 rfl rfl (Nat.le_refl _) (by omega) dX1_ascending_67 ?_
        refine s_istn (ws' := fun f2 => s_wm o1 r1 d1 f2) hx hb hK hP hD hS 1 0 rfl (fun _ => rfl) rfl (Nat.le_refl _) (by omega) dX1_ascending_68 (fun f2 H locs e2 hP hD hS => ?_)
        refine lv_aload_n hx hb dX1_ascending_69 rfl (lv_at hl 1 rfl) ?_
        refine va_get (D := G) (ci := 1) (v := .ref r1) (C := RX1) (T := TX1) (N := 1) hx hb hts in_X1 hown hK hP 0 rfl rfl 0 (by decide) (hts _ q124) (fun _ h9 => h9) rfl dX1_ascending_70 ?_
        refine lv_iload hx hb dX1_ascending_73 (lv_at hl 5 rfl) ?_
        refine lv_iload hx hb dX1_ascending_75 (lv_at hl 0 rfl) ?_
        refine s_istn (ws' := fun f3 => s_wm o1 r1 d1 f3) hx hb hK hP hD hS 1 0 rfl (fun _ => rfl) rfl (Nat.le_refl _) (by omega) dX1_ascending_77 (fun f3 H locs e3 hP hD hS => ?_)
        have e4 : f3 = sg_sw f1 i mm := by rw [e3, e2]; rfl
        have hp4 : sg_pm a b f1 f3 := by rw [e4]; exact sg_sw_pm f1 (by omega) (by omega) (by omega) (by omega)
        refine lv_iinc (v := (nI (i + 1))) (lv' := [(3, .int (nI (i + 1))), (5, .int (f1 i)), (0, .ref o1), (1, .int (nI a)), (2, .int (nI b)), (4, .int (nI mm))]) hx hb dX1_ascending_78 hl (k := 4) rfl (s_inc (by omega)) (by decide) rfl (fun ls hl => ?_)
        refine lv_goto (tgt := 2) hx hb dX1_ascending_81 (by decide) ?_
        exact kk (i + 1) f3 H locs ls (by omega) (hpm.tr hp4) (by rw [e4]; exact sg_sel_s hsel (by omega) (by omega) (by omega) hmin) hP hD hS (lv_sub hl [2, 3, 4, 0] rfl)
      · refine lv_aload_n hx hb dX1_ascending_21 rfl (lv_at hl 0 rfl) ?_
        refine va_get (D := G) (ci := 1) (v := .ref r1) (C := RX1) (T := TX1) (N := 1) hx hb hts in_X1 hown hK hP 0 rfl rfl 0 (by decide) (hts _ q124) (fun _ h9 => h9) rfl dX1_ascending_22 ?_
        refine lv_iload hx hb dX1_ascending_25 (lv_at hl 5 rfl) ?_
        refine s_ildn hx hb hK hP 1 0 rfl rfl (Nat.le_refl _) (by omega) dX1_ascending_27 ?_
        refine lv_aload_n hx hb dX1_ascending_28 rfl (lv_at hl 0 rfl) ?_
        refine va_get (D := G) (ci := 1) (v := .ref r1) (C := RX1) (T := TX1) (N := 1) hx hb hts in_X1 hown hK hP 0 rfl rfl 0 (by decide) (hts _ q124) (fun _ h9 => h9) rfl dX1_ascending_29 ?_
        refine lv_iload hx hb dX1_ascending_32 (lv_at hl 4 rfl) ?_
        refine s_ildn hx hb hK hP 1 0 rfl rfl (Nat.le_refl _) (by omega) dX1_ascending_34 ?_
        refine s_vge (tgt := 42) hx hb dX1_ascending_35 (by decide) (fun c2 => ?_) (fun c2 => ?_)
        · refine lv_iinc (v := (nI (j + 1))) (lv' := [(5, .int (nI (j + 1))), (0, .ref o1), (1, .int (nI a)), (2, .int (nI b)), (3, .int (nI i)), (4, .int (nI mm))]) hx hb dX1_ascending_42 hl (k := 5) rfl (s_inc (by omega)) (by decide) rfl (fun ls hl => ?_)
          refine lv_goto (tgt := 15) hx hb dX1_ascending_45 (by decide) ?_
          exact ih i (j + 1) mm f1 H locs ls (by omega) (by omega) (by omega) (by omega) (by omega) hpm hsel (sg_mn_k hm c2) hP hD hS (lv_sub hl [1, 2, 3, 4, 5, 0] rfl) kk
        · refine lv_iload hx hb dX1_ascending_38 (lv_at hl 5 rfl) ?_
          refine lv_istore (lv' := [(4, .int (nI j)), (0, .ref o1), (1, .int (nI a)), (2, .int (nI b)), (3, .int (nI i)), (5, .int (nI j))]) hx hb dX1_ascending_40 hl (by decide) rfl (fun ls hl => ?_)
          refine lv_iinc (v := (nI (j + 1))) (lv' := [(5, .int (nI (j + 1))), (4, .int (nI j)), (0, .ref o1), (1, .int (nI a)), (2, .int (nI b)), (3, .int (nI i))]) hx hb dX1_ascending_42 hl (k := 5) rfl (s_inc (by omega)) (by decide) rfl (fun ls hl => ?_)
          refine lv_goto (tgt := 15) hx hb dX1_ascending_45 (by decide) ?_
          exact ih i (j + 1) j f1 H locs ls (by omega) (by omega) (by omega) (by omega) (by omega) hpm hsel (sg_mn_l hm c2) hP hD hS (lv_sub hl [2, 3, 4, 5, 1, 0] rfl) kk
  have loop : ∀ (t i : Nat) (f1 : Nat → Int32) (H : Heap) (locs : List Loc) (ls : Array Slot), b < i + t → a ≤ i → i ≤ b → sg_pm a b f f1 → sg_sel a b i f1 → va_P G vwCl (s_wm o1 r1 d1 f1) H → va_D A (s_wm o1 r1 d1 f1) → va_S A s.heap H locs → lv_has ls 6 [(0, .ref o1), (1, .int (nI a)), (2, .int (nI b)), (3, .int (nI i))] → W p l e (s_rk 0 0 0) s m args below meth c H locs 0 0 Q (F0 m 2 ls []) := by
    intro t
    induction t with
    | zero => intro i f1 H locs ls h1 hai hib; omega
    | succ t ih =>
      intro i f1 H locs ls h1 hai hib hpm hsel hP hD hS hl
      refine lv_iload_n hx hb dX1_ascending_2 rfl (lv_at hl 3 rfl) ?_
      refine lv_iload_n hx hb dX1_ascending_3 rfl (lv_at hl 2 rfl) ?_
      refine s_nge (tgt := 84) hx hb dX1_ascending_4 (by decide) (by omega) (by omega) (fun c1 => ?_) (fun c1 => ?_)
      · exact hret f1 _ _ _ _ ⟨hpm, sg_sel_so hsel (by omega)⟩ hP hD hS dX1_ascending_84
      · refine lv_iload_n hx hb dX1_ascending_7 rfl (lv_at hl 3 rfl) ?_
        refine lv_istore (lv' := [(4, .int (nI i)), (0, .ref o1), (1, .int (nI a)), (2, .int (nI b)), (3, .int (nI i))]) hx hb dX1_ascending_8 hl (by decide) rfl (fun ls hl => ?_)
        refine lv_iload_n hx hb dX1_ascending_10 rfl (lv_at hl 4 rfl) ?_
        refine lv_iconst (v := nI 1) hx hb dX1_ascending_11 (by decide) ?_
        refine s_addn (z := i + 1) hx hb dX1_ascending_12 (by omega) ?_
        refine lv_istore (lv' := [(5, .int (nI (i + 1))), (4, .int (nI i)), (0, .ref o1), (1, .int (nI a)), (2, .int (nI b)), (3, .int (nI i))]) hx hb dX1_ascending_13 hl (by decide) rfl (fun ls hl => ?_)
        refine inner (b - i) i (i + 1) i f1 H locs ls (by omega) (by omega) (by omega) (by omega) (by omega) hpm hsel sg_mn_0 hP hD hS (lv_sub hl [2, 3, 4, 5, 1, 0] rfl) (fun i2 f2 H locs ls hi2 hpm hsel hP hD hS hl => ?_)
        exact ih i2 f2 H locs ls (by omega) (by omega) (by omega) hpm hsel hP hD hS hl
  refine lv_iload_n hx hb dX1_ascending_0 rfl (lv_at hl 1 rfl) ?_
  refine lv_istore_n (lv' := [(3, .int (nI a)), (0, .ref o1), (1, .int (nI a)), (2, .int (nI b))]) hx hb dX1_ascending_1 rfl hl (by decide) rfl (fun ls hl => ?_)
  exact loop (b + 1) a f s.heap [] ls (by omega) (by omega) hab sg_pm.rf sg_sel_0 hP hD hS (lv_sub hl [1, 2, 3, 0] rfl)
set_option maxHeartbeats 4000000 in
set_option maxRecDepth 100000 in
theorem m1_quick {l : Launch} {G : va_G} {o1 r1 : Nat} {d1 : ClassId} {f : Nat → Int32} {x y : Int32} : s_Mv l yX1_quick cX1_quick 4 (s_rk 1 0 0) G vwCl [.ref o1, .int x, .int y] (s_wm o1 r1 d1 f) [(d1, .int)] (fun g => sg_pm (sg_a x) (sg_e (sg_a x) y) f g ∧ sg_so (sg_a x) (sg_e (sg_a x) y) g) (fun g => s_wm o1 r1 d1 g) 0 0 := by
  have hae := sg_e_ge (sg_a x) y
  have heb := sg_e_le (sg_a_le x) y
  refine s_ofv (by decide) (Nat.le_of_ble_eq_true rfl) ?_
  intro p e s m args below meth c Q A ls hx hb hml hown hts hnm hN hA hK hP hD hS hl hret
  have hl : lv_has ls 4 [(0, .ref o1), (1, .int x), (2, .int y)] := hl
  refine lv_iload_n hx hb dX1_quick_0 rfl (lv_at hl 1 rfl) ?_
  refine s_cSi hx hb hml hl.1 hown hts hK hP (m1_start (x := x)) (lw_S q150 q151 q5 q152) 1 nm1_start rfl (s_rmk (by omega) (by decide) (by omega) (by omega)) (Nat.le_of_ble_eq_true rfl) [] [] rfl rfl dX1_quick_1 rfl (fun r1' e1' => ?_)
  subst e1'
  refine lv_istore_n (lv' := [(3, .int (nI (sg_a x))), (0, .ref o1), (1, .int x), (2, .int y)]) hx hb dX1_quick_4 rfl hl (by decide) rfl (fun ls hl => ?_)
  refine lv_aload_n hx hb dX1_quick_5 rfl (lv_at hl 1 rfl) ?_
  refine lv_iload_n hx hb dX1_quick_6 rfl (lv_at hl 0 rfl) ?_
  refine lv_iload_n hx hb dX1_quick_7 rfl (lv_at hl 0 rfl) ?_
  refine lv_iload_n hx hb dX1_quick_8 rfl (lv_at hl 3 rfl) ?_
  refine s_cSi hx hb hml hl.1 hown hts hK hP (m1_end (a := sg_a x) (x := y) (sg_a_le _)) (lw_S q153 q154 q5 q155) 2 nm1_end rfl (s_rmk (by omega) (by decide) (by omega) (by omega)) (Nat.le_of_ble_eq_true rfl) [] [] rfl rfl dX1_quick_9 rfl (fun r1' e1' => ?_)
  subst e1'
  refine s_cVv (C := RX1) (T := TX1) (N := 1) (wr := []) (ws' := fun g => s_wm o1 r1 d1 g) hx hb hml hl.1 hown hts hN hA hK hP hD hS (m1_ascending (a := sg_a x) (b := sg_e (sg_a x) y) hae heb) (lw_V q156 q158 qs2 q5 q159) rfl 2 nm1_ascending rfl (s_rmk (by omega) (by decide) (by omega) (by omega)) (Nat.le_of_ble_eq_true rfl) [0, 1] [] [0] [0, 1] rfl rfl rfl (fun _ => rfl) rfl 1 0 rfl rfl dX1_quick_12 rfl (fun g H locs eg hP hD hS => ?_)
  exact hret g _ _ _ _ eg hP hD hS dX1_quick_15
set_option maxHeartbeats 4000000 in
set_option maxRecDepth 100000 in
theorem m1_merge {l : Launch} {G : va_G} {o1 r1 : Nat} {d1 : ClassId} {f : Nat → Int32} {x y : Int32} : s_Mv l yX1_merge cX1_merge 4 (s_rk 1 0 0) G vwCl [.ref o1, .int x, .int y] (s_wm o1 r1 d1 f) [(d1, .int)] (fun g => sg_pm (sg_a x) (sg_e (sg_a x) y) f g ∧ sg_so (sg_a x) (sg_e (sg_a x) y) g) (fun g => s_wm o1 r1 d1 g) 0 0 := by
  have hae := sg_e_ge (sg_a x) y
  have heb := sg_e_le (sg_a_le x) y
  refine s_ofv (by decide) (Nat.le_of_ble_eq_true rfl) ?_
  intro p e s m args below meth c Q A ls hx hb hml hown hts hnm hN hA hK hP hD hS hl hret
  have hl : lv_has ls 4 [(0, .ref o1), (1, .int x), (2, .int y)] := hl
  refine lv_iload_n hx hb dX1_merge_0 rfl (lv_at hl 1 rfl) ?_
  refine s_cSi hx hb hml hl.1 hown hts hK hP (m1_start (x := x)) (lw_S q150 q151 q5 q152) 1 nm1_start rfl (s_rmk (by omega) (by decide) (by omega) (by omega)) (Nat.le_of_ble_eq_true rfl) [] [] rfl rfl dX1_merge_1 rfl (fun r1' e1' => ?_)
  subst e1'
  refine lv_istore_n (lv' := [(3, .int (nI (sg_a x))), (0, .ref o1), (1, .int x), (2, .int y)]) hx hb dX1_merge_4 rfl hl (by decide) rfl (fun ls hl => ?_)
  refine lv_aload_n hx hb dX1_merge_5 rfl (lv_at hl 1 rfl) ?_
  refine lv_iload_n hx hb dX1_merge_6 rfl (lv_at hl 0 rfl) ?_
  refine lv_iload_n hx hb dX1_merge_7 rfl (lv_at hl 0 rfl) ?_
  refine lv_iload_n hx hb dX1_merge_8 rfl (lv_at hl 3 rfl) ?_
  refine s_cSi hx hb hml hl.1 hown hts hK hP (m1_end (a := sg_a x) (x := y) (sg_a_le _)) (lw_S q153 q154 q5 q155) 2 nm1_end rfl (s_rmk (by omega) (by decide) (by omega) (by omega)) (Nat.le_of_ble_eq_true rfl) [] [] rfl rfl dX1_merge_9 rfl (fun r1' e1' => ?_)
  subst e1'
  refine s_cVv (C := RX1) (T := TX1) (N := 1) (wr := []) (ws' := fun g => s_wm o1 r1 d1 g) hx hb hml hl.1 hown hts hN hA hK hP hD hS (m1_ascending (a := sg_a x) (b := sg_e (sg_a x) y) hae heb) (lw_V q156 q158 qs2 q5 q159) rfl 2 nm1_ascending rfl (s_rmk (by omega) (by decide) (by omega) (by omega)) (Nat.le_of_ble_eq_true rfl) [0, 1] [] [0] [0, 1] rfl rfl rfl (fun _ => rfl) rfl 1 0 rfl rfl dX1_merge_12 rfl (fun g H locs eg hP hD hS => ?_)
  exact hret g _ _ _ _ eg hP hD hS dX1_merge_15
set_option maxHeartbeats 4000000 in
set_option maxRecDepth 100000 in
theorem m1_radix {l : Launch} {G : va_G} {o1 r1 : Nat} {d1 : ClassId} {f : Nat → Int32} {x y : Int32} : s_Mv l yX1_radix cX1_radix 4 (s_rk 1 0 0) G vwCl [.ref o1, .int x, .int y] (s_wm o1 r1 d1 f) [(d1, .int)] (fun g => sg_pm (sg_a x) (sg_e (sg_a x) y) f g ∧ sg_so (sg_a x) (sg_e (sg_a x) y) g) (fun g => s_wm o1 r1 d1 g) 0 0 := by
  have hae := sg_e_ge (sg_a x) y
  have heb := sg_e_le (sg_a_le x) y
  refine s_ofv (by decide) (Nat.le_of_ble_eq_true rfl) ?_
  intro p e s m args below meth c Q A ls hx hb hml hown hts hnm hN hA hK hP hD hS hl hret
  have hl : lv_has ls 4 [(0, .ref o1), (1, .int x), (2, .int y)] := hl
  refine lv_iload_n hx hb dX1_radix_0 rfl (lv_at hl 1 rfl) ?_
  refine s_cSi hx hb hml hl.1 hown hts hK hP (m1_start (x := x)) (lw_S q150 q151 q5 q152) 1 nm1_start rfl (s_rmk (by omega) (by decide) (by omega) (by omega)) (Nat.le_of_ble_eq_true rfl) [] [] rfl rfl dX1_radix_1 rfl (fun r1' e1' => ?_)
  subst e1'
  refine lv_istore_n (lv' := [(3, .int (nI (sg_a x))), (0, .ref o1), (1, .int x), (2, .int y)]) hx hb dX1_radix_4 rfl hl (by decide) rfl (fun ls hl => ?_)
  refine lv_aload_n hx hb dX1_radix_5 rfl (lv_at hl 1 rfl) ?_
  refine lv_iload_n hx hb dX1_radix_6 rfl (lv_at hl 0 rfl) ?_
  refine lv_iload_n hx hb dX1_radix_7 rfl (lv_at hl 0 rfl) ?_
  refine lv_iload_n hx hb dX1_radix_8 rfl (lv_at hl 3 rfl) ?_
  refine s_cSi hx hb hml hl.1 hown hts hK hP (m1_end (a := sg_a x) (x := y) (sg_a_le _)) (lw_S q153 q154 q5 q155) 2 nm1_end rfl (s_rmk (by omega) (by decide) (by omega) (by omega)) (Nat.le_of_ble_eq_true rfl) [] [] rfl rfl dX1_radix_9 rfl (fun r1' e1' => ?_)
  subst e1'
  refine s_cVv (C := RX1) (T := TX1) (N := 1) (wr := []) (ws' := fun g => s_wm o1 r1 d1 g) hx hb hml hl.1 hown hts hN hA hK hP hD hS (m1_ascending (a := sg_a x) (b := sg_e (sg_a x) y) hae heb) (lw_V q156 q158 qs2 q5 q159) rfl 2 nm1_ascending rfl (s_rmk (by omega) (by decide) (by omega) (by omega)) (Nat.le_of_ble_eq_true rfl) [0, 1] [] [0] [0, 1] rfl rfl rfl (fun _ => rfl) rfl 1 0 rfl rfl dX1_radix_12 rfl (fun g H locs eg hP hD hS => ?_)
  exact hret g _ _ _ _ eg hP hD hS dX1_radix_15
set_option maxHeartbeats 4000000 in
set_option maxRecDepth 100000 in
theorem m1_reverse {l : Launch} {G : va_G} {o1 r1 : Nat} {d1 : ClassId} {f : Nat → Int32} {x y : Int32} : s_Mv l yX1_reverse cX1_reverse 7 (s_rk 1 1 48) G vwCl [.ref o1, .int x, .int y] (s_wm o1 r1 d1 f) [(d1, .int)] (fun g => g = sg_rev (sg_a x) (sg_e (sg_a x) y) f) (fun g => s_wm o1 r1 d1 g) 1 48 := by
  have hae := sg_e_ge (sg_a x) y
  have heb := sg_e_le (sg_a_le x) y
  refine s_ofv (by decide) (Nat.le_of_ble_eq_true rfl) ?_
  intro p e s m args below meth c Q A ls hx hb hml hown hts hnm hN hA hK hP hD hS hl hret
  have hl : lv_has ls 7 [(0, .ref o1), (1, .int x), (2, .int y)] := hl
  have loop1 : ∀ (a b : Nat), a ≤ b → b ≤ 48 → (∀ (u : Nat → Int32) (H : Heap) (locs : List Loc) (pc : Nat) (ls1 : Array Slot), u = sg_rev a b f → va_P G vwCl (s_wm o1 r1 d1 u) H → va_D A (s_wm o1 r1 d1 u) → va_S A s.heap H locs → decode cX1_reverse pc = .ok (.return_, 1) → W p l e (s_rk 1 1 48) s m args below meth c H locs 1 48 Q (F0 m pc ls1 [])) → ∀ (r2 : Nat) (d2 : ClassId), va_K G vwCl [(d1, .int), (d2, .int)] s → ∀ (t i : Nat) (o : Nat → Int32) (H : Heap) (locs : List Loc) (ls : Array Slot), b < i + t → a ≤ i ∧ i ≤ b → (∀ k, a ≤ k → k < i → o k = f k) → va_P G vwCl [(o1, .inr (1, [.ref r1])), (r1, .inl (d1, 48, .inl f)), (r2, .inl (d2, 48, .inl o))] H → va_D A [(o1, .inr (1, [.ref r1])), (r1, .inl (d1, 48, .inl f)), (r2, .inl (d2, 48, .inl o))] → va_S A s.heap H locs → lv_has ls 7 [(0, .ref o1), (3, .int (nI a)), (4, .int (nI b)), (5, .ref r2), (6, .int (nI i))] → W p l e (s_rk 1 1 48) s m args below meth c H locs 1 48 Q (F0 m 21 ls []) := by
    intro a b hae heb hret
    have loop2 : ∀ (r2 : Nat) (d2 : ClassId) (o : Nat → Int32), va_K G vwCl [(d1, .int), (d2, .int)] s → (∀ k, a ≤ k → k < b → o k = f k) → ∀ (t i : Nat) (g : Nat → Int32) (H : Heap) (locs : List Loc) (ls : Array Slot), b < i + t → a ≤ i ∧ i ≤ b → (∀ k, g k = if a ≤ k ∧ k < i then f (a + b - 1 - k) else f k) → va_P G vwCl [(o1, .inr (1, [.ref r1])), (r1, .inl (d1, 48, .inl g)), (r2, .inl (d2, 48, .inl o))] H → va_D A [(o1, .inr (1, [.ref r1])), (r1, .inl (d1, 48, .inl g)), (r2, .inl (d2, 48, .inl o))] → va_S A s.heap H locs → lv_has ls 7 [(0, .ref o1), (3, .int (nI a)), (4, .int (nI b)), (5, .ref r2), (6, .int (nI i))] → W p l e (s_rk 1 1 48) s m args below meth c H locs 1 48 Q (F0 m 49 ls []) := by
      intro r2 d2 o hK ho t
      induction t with
      | zero => intro i g H locs ls ht hi; omega
      | succ t ih =>
      intro i g H locs ls ht hi hg hP hD hS hl
      refine lv_iload hx hb dX1_reverse_49 (lv_at hl 4 rfl) ?_
      refine lv_iload hx hb dX1_reverse_51 (lv_at hl 2 rfl) ?_
      refine s_nge (tgt := 81) hx hb dX1_reverse_53 (by decide) (by omega) (by omega) (fun c1 => ?_) (fun c1 => ?_)
      · have e9 : g = sg_rev a b f := by
          funext k; rw [hg k]; unfold sg_rev
          by_cases q : a ≤ k ∧ k < b
          · rw [if_pos (by omega), if_pos q]
          · rw [if_neg (by omega), if_neg q]
        exact hret g _ _ _ _ e9 (hP.sub [0, 1] rfl) (hD.sub [0, 1] (by decide) rfl) hS dX1_reverse_81
      · refine lv_aload_n hx hb dX1_reverse_56 rfl (lv_at hl 0 rfl) ?_
        refine va_get (D := G) (ci := 1) (v := .ref r1) (C := RX1) (T := TX1) (N := 1) hx hb hts in_X1 hown hK hP 0 rfl rfl 0 (by decide) (hts _ q124) (fun _ h9 => h9) rfl dX1_reverse_57 ?_
        refine lv_iload hx hb dX1_reverse_60 (lv_at hl 4 rfl) ?_
        refine lv_aload hx hb dX1_reverse_62 (lv_at hl 3 rfl) ?_
        refine lv_iload_n hx hb dX1_reverse_64 rfl (lv_at hl 1 rfl) ?_
        refine lv_iload hx hb dX1_reverse_65 (lv_at hl 2 rfl) ?_
        refine s_addn (z := a + b) hx hb dX1_reverse_67 (by omega) ?_
        refine lv_iconst (v := nI 1) hx hb dX1_reverse_68 (by decide) ?_
        refine s_subn (z := a + b - 1) hx hb dX1_reverse_69 (by omega) ?_
        refine lv_iload hx hb dX1_reverse_70 (lv_at hl 4 rfl) ?_
        refine s_subn (z := a + b - 1 - i) hx hb dX1_reverse_72 (by omega) ?_
        refine s_ildn hx hb hK hP 2 1 rfl rfl (Nat.le_refl _) (by omega) dX1_reverse_73 ?_
        refine s_istn (ws' := fun g2 => [(o1, .inr (1, [.ref r1])), (r1, .inl (d1, 48, .inl g2)), (r2, .inl (d2, 48, .inl o))]) hx hb hK hP hD hS 1 0 rfl (fun _ => rfl) rfl (Nat.le_refl _) (by omega) dX1_reverse_74 (fun g2 H locs e2 hP hD hS => ?_)
        refine lv_iinc (v := (nI (i + 1))) (lv' := [(6, .int (nI (i + 1))), (0, .ref o1), (3, .int (nI a)), (4, .int (nI b)), (5, .ref r2)]) hx hb dX1_reverse_75 hl (k := 4) rfl (s_inc (by omega)) (by decide) rfl (fun ls hl => ?_)
        refine lv_goto (tgt := 49) hx hb dX1_reverse_78 (by decide) ?_
        exact ih (i + 1) g2 H locs ls (by omega) (by omega) (fun k => by
          rw [e2]
          by_cases hk : k = i
          · rw [hk, pk_us, if_pos (by omega)]; exact ho _ (by omega) (by omega)
          · rw [pk_un hk, hg k]
            by_cases q : a ≤ k ∧ k < i
            · rw [if_pos q, if_pos (by omega)]
            · rw [if_neg q, if_neg (by omega)]) hP hD hS (lv_sub hl [1, 2, 3, 4, 0] rfl)
    intro r2 d2 hK t
    induction t with
    | zero => intro i o H locs ls ht hi; omega
    | succ t ih =>
      intro i o H locs ls ht hi ho hP hD hS hl
      refine lv_iload hx hb dX1_reverse_21 (lv_at hl 4 rfl) ?_
      refine lv_iload hx hb dX1_reverse_23 (lv_at hl 2 rfl) ?_
      refine s_nge (tgt := 46) hx hb dX1_reverse_25 (by decide) (by omega) (by omega) (fun c1 => ?_) (fun c1 => ?_)
      · refine lv_iload_n hx hb dX1_reverse_46 rfl (lv_at hl 1 rfl) ?_
        refine lv_istore (lv' := [(6, .int (nI a)), (0, .ref o1), (3, .int (nI a)), (4, .int (nI b)), (5, .ref r2)]) hx hb dX1_reverse_47 hl (by decide) rfl (fun ls hl => ?_)
        exact loop2 r2 d2 o hK (fun k q1 q2 => ho k q1 (by omega)) (b + 1) a f H locs ls (by omega) (by omega) (fun k => by rw [if_neg (by omega)]) hP hD hS (lv_sub hl [1, 2, 3, 4, 0] rfl)
      · refine lv_aload hx hb dX1_reverse_28 (lv_at hl 3 rfl) ?_
        refine lv_iload hx hb dX1_reverse_30 (lv_at hl 4 rfl) ?_
        refine lv_aload_n hx hb dX1_reverse_32 rfl (lv_at hl 0 rfl) ?_
        refine va_get (D := G) (ci := 1) (v := .ref r1) (C := RX1) (T := TX1) (N := 1) hx hb hts in_X1 hown hK hP 0 rfl rfl 0 (by decide) (hts _ q124) (fun _ h9 => h9) rfl dX1_reverse_33 ?_
        refine lv_iload hx hb dX1_reverse_36 (lv_at hl 4 rfl) ?_
        refine s_ildn hx hb hK hP 1 0 rfl rfl (Nat.le_refl _) (by omega) dX1_reverse_38 ?_
        refine s_istn (ws' := fun o2 => [(o1, .inr (1, [.ref r1])), (r1, .inl (d1, 48, .inl f)), (r2, .inl (d2, 48, .inl o2))]) hx hb hK hP hD hS 2 1 rfl (fun _ => rfl) rfl (Nat.le_refl _) (by omega) dX1_reverse_39 (fun o2 H locs e2 hP hD hS => ?_)
        refine lv_iinc (v := (nI (i + 1))) (lv' := [(6, .int (nI (i + 1))), (0, .ref o1), (3, .int (nI a)), (4, .int (nI b)), (5, .ref r2)]) hx hb dX1_reverse_40 hl (k := 4) rfl (s_inc (by omega)) (by decide) rfl (fun ls hl => ?_)
        refine lv_goto (tgt := 21) hx hb dX1_reverse_43 (by decide) ?_
        exact ih (i + 1) o2 H locs ls (by omega) (by omega) (fun k q1 q2 => by
          rw [e2]
          by_cases hk : k = i
          · rw [hk, pk_us]
          · rw [pk_un hk]; exact ho k q1 (by omega)) hP hD hS (lv_sub hl [1, 2, 3, 4, 0] rfl)
  refine lv_iload_n hx hb dX1_reverse_0 rfl (lv_at hl 1 rfl) ?_
  refine s_cSi hx hb hml hl.1 hown hts hK hP (m1_start (x := x)) (lw_S q150 q151 q5 q152) 1 nm1_start rfl (s_rmk (by omega) (by decide) (by omega) (by omega)) (Nat.le_of_ble_eq_true rfl) [] [] rfl rfl dX1_reverse_1 rfl (fun r1' e1' => ?_)
  subst e1'
  refine lv_istore_n (lv' := [(3, .int (nI (sg_a x))), (0, .ref o1), (1, .int x), (2, .int y)]) hx hb dX1_reverse_4 rfl hl (by decide) rfl (fun ls hl => ?_)
  refine lv_iload_n hx hb dX1_reverse_5 rfl (lv_at hl 0 rfl) ?_
  refine lv_iload_n hx hb dX1_reverse_6 rfl (lv_at hl 3 rfl) ?_
  refine s_cSi hx hb hml hl.1 hown hts hK hP (m1_end (a := sg_a x) (x := y) (sg_a_le _)) (lw_S q153 q154 q5 q155) 2 nm1_end rfl (s_rmk (by omega) (by decide) (by omega) (by omega)) (Nat.le_of_ble_eq_true rfl) [] [] rfl rfl dX1_reverse_7 rfl (fun r1' e1' => ?_)
  subst e1'
  refine lv_istore (lv' := [(4, .int (nI (sg_e (sg_a x) y))), (3, .int (nI (sg_a x))), (0, .ref o1), (1, .int x), (2, .int y)]) hx hb dX1_reverse_10 hl (by decide) rfl (fun ls hl => ?_)
  refine lv_bipush (v := nI 48) hx hb dX1_reverse_12 (by decide) ?_
  refine va_newa (atype := .int) (ty := .int) (a0 := (48, .inl fun _ => 0)) (N' := 48) hx hb (hts _ q103) rfl hK hP hD hS hA (fun _ => rfl) (by decide) (by decide) (by decide) (by decide) (by decide) dX1_reverse_14 (fun r2 d2 H hK hP hD hS => ?_)
  have hP : va_P G vwCl [(o1, .inr (1, [.ref r1])), (r1, .inl (d1, 48, .inl f)), (r2, .inl (d2, 48, .inl (fun _ => 0)))] H := hP
  have hD : va_D A [(o1, .inr (1, [.ref r1])), (r1, .inl (d1, 48, .inl f)), (r2, .inl (d2, 48, .inl (fun _ => 0)))] := hD
  have hK : va_K G vwCl [(d1, .int), (d2, .int)] s := hK
  refine lv_astore (lv' := [(5, .ref r2), (4, .int (nI (sg_e (sg_a x) y))), (3, .int (nI (sg_a x))), (0, .ref o1), (1, .int x), (2, .int y)]) hx hb dX1_reverse_16 hl (by decide) rfl (fun ls hl => ?_)
  refine lv_iload_n hx hb dX1_reverse_18 rfl (lv_at hl 2 rfl) ?_
  refine lv_istore (lv' := [(6, .int (nI (sg_a x))), (5, .ref r2), (4, .int (nI (sg_e (sg_a x) y))), (3, .int (nI (sg_a x))), (0, .ref o1), (1, .int x), (2, .int y)]) hx hb dX1_reverse_19 hl (by decide) rfl (fun ls hl => ?_)
  refine W.widen (k := 1) (n := 48) (by omega) (by omega) ?_
  exact loop1 (sg_a x) (sg_e (sg_a x) y) hae heb hret r2 d2 hK (sg_e (sg_a x) y + 1) (sg_a x) (fun _ => 0) H [] ls (by omega) (by omega) (fun k q1 q2 => by omega) hP hD hS (lv_sub hl [4, 3, 2, 1, 0] rfl)
theorem s_ng (p : Nat) : -(nI p) - 1 = -(nI (p + 1)) := by
  rw [← nI_1]; grind
set_option maxHeartbeats 4000000 in
set_option maxRecDepth 100000 in
theorem m1_find {l : Launch} {G : va_G} {o1 r1 : Nat} {d1 : ClassId} {f : Nat → Int32} {x y z : Int32} : s_Mi l yX1_find cX1_find 8 (s_rk 1 0 0) G vwCl [.ref o1, .int x, .int y, .int z] (s_wm o1 r1 d1 f) [(d1, .int)] (sg_find (sg_a x) (sg_e (sg_a x) y) (sg_nw z) f) := by
  have hae := sg_e_ge (sg_a x) y
  have heb := sg_e_le (sg_a_le x) y
  refine s_ofi (by decide) (Nat.le_of_ble_eq_true rfl) ?_
  intro p e s m args below meth c Q ls hx hb hml hown hts hK hP hl hret
  have hl : lv_has ls 8 [(0, .ref o1), (1, .int x), (2, .int y), (3, .int z)] := hl
  have loop : ∀ (a b : Nat), a ≤ b → b ≤ 48 → (∀ (v : Int32) (pc : Nat) (ls1 : Array Slot), sg_find a b (sg_nw z) f v → decode cX1_find pc = .ok (.ireturn, 1) → W p l e (s_rk 1 0 0) s m args below meth c s.heap [] 0 0 Q (F0 m pc ls1 [.int v])) → ∀ (t i : Nat) (ls : Array Slot), b < i + t → a ≤ i → i ≤ b → (∀ j, a ≤ j → j + 1 < i + 1 → (f j).toInt < (f (j + 1)).toInt) → lv_has ls 8 [(0, .ref o1), (3, .int z), (4, .int (nI a)), (5, .int (nI b)), (6, .int (nI i))] → W p l e (s_rk 1 0 0) s m args below meth c s.heap [] 0 0 Q (F0 m 18 ls []) := by
    intro a b hae heb hret
    have search : sg_st a b f → ∀ (t pq : Nat) (ls : Array Slot), b < pq + t → a ≤ pq ∧ pq ≤ b → (∀ k, a ≤ k → k < pq → (f k).toInt < (sg_nw z).toInt) → lv_has ls 8 [(0, .ref o1), (4, .int (nI a)), (5, .int (nI b)), (6, .int (sg_nw z)), (7, .int (nI pq))] → W p l e (s_rk 1 0 0) s m args below meth c s.heap [] 0 0 Q (F0 m 65 ls []) := by
      intro hst t
      induction t with
      | zero => intro pq ls ht hp; omega
      | succ t ih =>
      intro pq ls ht hp hlo hl
      refine lv_iload hx hb dX1_find_65 (lv_at hl 4 rfl) ?_
      refine lv_iload hx hb dX1_find_67 (lv_at hl 2 rfl) ?_
      refine s_nge (tgt := 90) hx hb dX1_find_69 (by decide) (by omega) (by omega) (fun c1 => ?_) (fun c1 => ?_)
      · have hhi : ∀ k, pq ≤ k → k < b → (sg_nw z).toInt ≤ (f k).toInt := fun k q1 q2 => by omega
        refine lv_iload hx hb dX1_find_90 (lv_at hl 4 rfl) ?_
        refine lv_iload hx hb dX1_find_92 (lv_at hl 2 rfl) ?_
        refine s_nge (tgt := 112) hx hb dX1_find_94 (by decide) (by omega) (by omega) (fun c3 => ?_) (fun c3 => ?_)
        · refine lv_iload hx hb dX1_find_112 (lv_at hl 4 rfl) ?_
          refine lv_ineg hx hb dX1_find_114 ?_
          refine lv_iconst (v := 1) hx hb dX1_find_115 (by decide) ?_
          refine lv_isub hx hb dX1_find_116 ?_
          exact hret _ _ _ ⟨fun _ => ⟨pq, hp.1, hp.2, hlo, hhi, fun q => absurd q.1 (by omega), fun _ => s_ng pq⟩, fun q => absurd hst q⟩ dX1_find_117
        · refine lv_aload_n hx hb dX1_find_97 rfl (lv_at hl 0 rfl) ?_
          refine va_get (D := G) (ci := 1) (v := .ref r1) (C := RX1) (T := TX1) (N := 1) hx hb hts in_X1 hown hK hP 0 rfl rfl 0 (by decide) (hts _ q124) (fun _ h9 => h9) rfl dX1_find_98 ?_
          refine lv_iload hx hb dX1_find_101 (lv_at hl 4 rfl) ?_
          refine s_ildn hx hb hK hP 1 0 rfl rfl (Nat.le_refl _) (by omega) dX1_find_103 ?_
          refine lv_iload hx hb dX1_find_104 (lv_at hl 3 rfl) ?_
          refine s_vne (tgt := 112) hx hb dX1_find_106 (by decide) (fun c4 => ?_) (fun c4 => ?_)
          · refine lv_iload hx hb dX1_find_112 (lv_at hl 4 rfl) ?_
            refine lv_ineg hx hb dX1_find_114 ?_
            refine lv_iconst (v := 1) hx hb dX1_find_115 (by decide) ?_
            refine lv_isub hx hb dX1_find_116 ?_
            exact hret _ _ _ ⟨fun _ => ⟨pq, hp.1, hp.2, hlo, hhi, fun q => absurd (congrArg Int32.toInt q.2) c4, fun _ => s_ng pq⟩, fun q => absurd hst q⟩ dX1_find_117
          · refine lv_iload hx hb dX1_find_109 (lv_at hl 4 rfl) ?_
            exact hret _ _ _ ⟨fun _ => ⟨pq, hp.1, hp.2, hlo, hhi, fun _ => rfl, fun q => absurd ⟨by omega, Int32.toInt_inj.mp c4⟩ q⟩, fun q => absurd hst q⟩ dX1_find_111
      · refine lv_aload_n hx hb dX1_find_72 rfl (lv_at hl 0 rfl) ?_
        refine va_get (D := G) (ci := 1) (v := .ref r1) (C := RX1) (T := TX1) (N := 1) hx hb hts in_X1 hown hK hP 0 rfl rfl 0 (by decide) (hts _ q124) (fun _ h9 => h9) rfl dX1_find_73 ?_
        refine lv_iload hx hb dX1_find_76 (lv_at hl 4 rfl) ?_
        refine s_ildn hx hb hK hP 1 0 rfl rfl (Nat.le_refl _) (by omega) dX1_find_78 ?_
        refine lv_iload hx hb dX1_find_79 (lv_at hl 3 rfl) ?_
        refine s_vge (tgt := 90) hx hb dX1_find_81 (by decide) (fun c2 => ?_) (fun c2 => ?_)
        · have hhi : ∀ k, pq ≤ k → k < b → (sg_nw z).toInt ≤ (f k).toInt := fun k q1 q2 => by
            by_cases hk : k = pq
            · rw [hk]; exact c2
            · have := hst pq k (by omega) (by omega) q2; omega
          refine lv_iload hx hb dX1_find_90 (lv_at hl 4 rfl) ?_
          refine lv_iload hx hb dX1_find_92 (lv_at hl 2 rfl) ?_
          refine s_nge (tgt := 112) hx hb dX1_find_94 (by decide) (by omega) (by omega) (fun c3 => ?_) (fun c3 => ?_)
          · refine lv_iload hx hb dX1_find_112 (lv_at hl 4 rfl) ?_
            refine lv_ineg hx hb dX1_find_114 ?_
            refine lv_iconst (v := 1) hx hb dX1_find_115 (by decide) ?_
            refine lv_isub hx hb dX1_find_116 ?_
            exact hret _ _ _ ⟨fun _ => ⟨pq, hp.1, hp.2, hlo, hhi, fun q => absurd q.1 (by omega), fun _ => s_ng pq⟩, fun q => absurd hst q⟩ dX1_find_117
          · refine lv_aload_n hx hb dX1_find_97 rfl (lv_at hl 0 rfl) ?_
            refine va_get (D := G) (ci := 1) (v := .ref r1) (C := RX1) (T := TX1) (N := 1) hx hb hts in_X1 hown hK hP 0 rfl rfl 0 (by decide) (hts _ q124) (fun _ h9 => h9) rfl dX1_find_98 ?_
            refine lv_iload hx hb dX1_find_101 (lv_at hl 4 rfl) ?_
            refine s_ildn hx hb hK hP 1 0 rfl rfl (Nat.le_refl _) (by omega) dX1_find_103 ?_
            refine lv_iload hx hb dX1_find_104 (lv_at hl 3 rfl) ?_
            refine s_vne (tgt := 112) hx hb dX1_find_106 (by decide) (fun c4 => ?_) (fun c4 => ?_)
            · refine lv_iload hx hb dX1_find_112 (lv_at hl 4 rfl) ?_
              refine lv_ineg hx hb dX1_find_114 ?_
              refine lv_iconst (v := 1) hx hb dX1_find_115 (by decide) ?_
              refine lv_isub hx hb dX1_find_116 ?_
              exact hret _ _ _ ⟨fun _ => ⟨pq, hp.1, hp.2, hlo, hhi, fun q => absurd (congrArg Int32.toInt q.2) c4, fun _ => s_ng pq⟩, fun q => absurd hst q⟩ dX1_find_117
            · refine lv_iload hx hb dX1_find_109 (lv_at hl 4 rfl) ?_
              exact hret _ _ _ ⟨fun _ => ⟨pq, hp.1, hp.2, hlo, hhi, fun _ => rfl, fun q => absurd ⟨by omega, Int32.toInt_inj.mp c4⟩ q⟩, fun q => absurd hst q⟩ dX1_find_111
        · refine lv_iinc (v := (nI (pq + 1))) (lv' := [(7, .int (nI (pq + 1))), (0, .ref o1), (4, .int (nI a)), (5, .int (nI b)), (6, .int (sg_nw z))]) hx hb dX1_find_84 hl (k := 4) rfl (s_inc (by omega)) (by decide) rfl (fun ls hl => ?_)
          refine lv_goto (tgt := 65) hx hb dX1_find_87 (by decide) ?_
          exact ih (pq + 1) ls (by omega) (by omega) (fun k q1 q2 => by
            by_cases hk : k = pq
            · rw [hk]; exact c2
            · exact hlo k q1 (by omega)) (lv_sub hl [1, 2, 3, 4, 0] rfl)
    intro t
    induction t with
    | zero => intro i ls ht hi hi48; omega
    | succ t ih =>
      intro i ls ht hi hi48 hadj hl
      refine lv_iload hx hb dX1_find_18 (lv_at hl 4 rfl) ?_
      refine lv_iconst (v := nI 1) hx hb dX1_find_20 (by decide) ?_
      refine s_addn (z := i + 1) hx hb dX1_find_21 (by omega) ?_
      refine lv_iload hx hb dX1_find_22 (lv_at hl 3 rfl) ?_
      refine s_nge (tgt := 55) hx hb dX1_find_24 (by decide) (by omega) (by omega) (fun c1 => ?_) (fun c1 => ?_)
      · have hst : sg_st a b f := sg_st_of (fun j q1 q2 => hadj j q1 (by omega))
        refine lv_iload_n hx hb dX1_find_55 rfl (lv_at hl 1 rfl) ?_
        refine s_cSi hx hb hml hl.1 hown hts hK hP (m1_narrow (x := z)) (lw_S q136 q137 q5 q138) 1 nm1_narrow rfl (s_rmk (by omega) (by decide) (by omega) (by omega)) (Nat.le_of_ble_eq_true rfl) [] [] rfl rfl dX1_find_56 rfl (fun r1' e1' => ?_)
        subst e1'
        refine lv_istore (lv' := [(6, .int (sg_nw z)), (0, .ref o1), (3, .int z), (4, .int (nI a)), (5, .int (nI b))]) hx hb dX1_find_59 hl (by decide) rfl (fun ls hl => ?_)
        refine lv_iload hx hb dX1_find_61 (lv_at hl 3 rfl) ?_
        refine lv_istore (lv' := [(7, .int (nI a)), (6, .int (sg_nw z)), (0, .ref o1), (3, .int z), (4, .int (nI a)), (5, .int (nI b))]) hx hb dX1_find_63 hl (by decide) rfl (fun ls hl => ?_)
        exact search hst (b + 1) a ls (by omega) (by omega) (fun k q1 q2 => by omega) (lv_sub hl [2, 4, 5, 1, 0] rfl)
      · refine lv_aload_n hx hb dX1_find_27 rfl (lv_at hl 0 rfl) ?_
        refine va_get (D := G) (ci := 1) (v := .ref r1) (C := RX1) (T := TX1) (N := 1) hx hb hts in_X1 hown hK hP 0 rfl rfl 0 (by decide) (hts _ q124) (fun _ h9 => h9) rfl dX1_find_28 ?_
        refine lv_iload hx hb dX1_find_31 (lv_at hl 4 rfl) ?_
        refine s_ildn hx hb hK hP 1 0 rfl rfl (Nat.le_refl _) (by omega) dX1_find_33 ?_
        refine lv_aload_n hx hb dX1_find_34 rfl (lv_at hl 0 rfl) ?_
        refine va_get (D := G) (ci := 1) (v := .ref r1) (C := RX1) (T := TX1) (N := 1) hx hb hts in_X1 hown hK hP 0 rfl rfl 0 (by decide) (hts _ q124) (fun _ h9 => h9) rfl dX1_find_35 ?_
        refine lv_iload hx hb dX1_find_38 (lv_at hl 4 rfl) ?_
        refine lv_iconst (v := nI 1) hx hb dX1_find_40 (by decide) ?_
        refine s_addn (z := i + 1) hx hb dX1_find_41 (by omega) ?_
        refine s_ildn hx hb hK hP 1 0 rfl rfl (Nat.le_refl _) (by omega) dX1_find_42 ?_
        refine s_vlt (tgt := 49) hx hb dX1_find_43 (by decide) (fun c2 => ?_) (fun c2 => ?_)
        · refine lv_iinc (v := (nI (i + 1))) (lv' := [(6, .int (nI (i + 1))), (0, .ref o1), (3, .int z), (4, .int (nI a)), (5, .int (nI b))]) hx hb dX1_find_49 hl (k := 4) rfl (s_inc (by omega)) (by decide) rfl (fun ls hl => ?_)
          refine lv_goto (tgt := 18) hx hb dX1_find_52 (by decide) ?_
          exact ih (i + 1) ls (by omega) (by omega) (by omega) (fun j q1 q2 => by
            by_cases hj : j = i
            · rw [hj]; exact c2
            · exact hadj j q1 (by omega)) (lv_sub hl [1, 2, 3, 4, 0] rfl)
        · refine lv_bipush (v := (-100)) hx hb dX1_find_46 (by decide) ?_
          exact hret (-100) _ _ ⟨fun q => absurd (q i (i + 1) (by omega) (by omega) c1) (by omega), fun _ => rfl⟩ dX1_find_48
  refine lv_iload_n hx hb dX1_find_0 rfl (lv_at hl 1 rfl) ?_
  refine s_cSi hx hb hml hl.1 hown hts hK hP (m1_start (x := x)) (lw_S q150 q151 q5 q152) 1 nm1_start rfl (s_rmk (by omega) (by decide) (by omega) (by omega)) (Nat.le_of_ble_eq_true rfl) [] [] rfl rfl dX1_find_1 rfl (fun r1' e1' => ?_)
  subst e1'
  refine lv_istore (lv' := [(4, .int (nI (sg_a x))), (0, .ref o1), (1, .int x), (2, .int y), (3, .int z)]) hx hb dX1_find_4 hl (by decide) rfl (fun ls hl => ?_)
  refine lv_iload hx hb dX1_find_6 (lv_at hl 0 rfl) ?_
  refine lv_iload_n hx hb dX1_find_8 rfl (lv_at hl 3 rfl) ?_
  refine s_cSi hx hb hml hl.1 hown hts hK hP (m1_end (a := sg_a x) (x := y) (sg_a_le _)) (lw_S q153 q154 q5 q155) 2 nm1_end rfl (s_rmk (by omega) (by decide) (by omega) (by omega)) (Nat.le_of_ble_eq_true rfl) [] [] rfl rfl dX1_find_9 rfl (fun r1' e1' => ?_)
  subst e1'
  refine lv_istore (lv' := [(5, .int (nI (sg_e (sg_a x) y))), (4, .int (nI (sg_a x))), (0, .ref o1), (1, .int x), (2, .int y), (3, .int z)]) hx hb dX1_find_12 hl (by decide) rfl (fun ls hl => ?_)
  refine lv_iload hx hb dX1_find_14 (lv_at hl 1 rfl) ?_
  refine lv_istore (lv' := [(6, .int (nI (sg_a x))), (5, .int (nI (sg_e (sg_a x) y))), (4, .int (nI (sg_a x))), (0, .ref o1), (1, .int x), (2, .int y), (3, .int z)]) hx hb dX1_find_16 hl (by decide) rfl (fun ls hl => ?_)
  exact loop (sg_a x) (sg_e (sg_a x) y) hae heb hret (sg_e (sg_a x) y + 1) (sg_a x) ls (by omega) (by omega) (by omega) (fun j q1 q2 => by omega) (lv_sub hl [3, 6, 2, 1, 0] rfl)
set_option maxHeartbeats 4000000 in
set_option maxRecDepth 100000 in
theorem m1_init {l : Launch} {G : va_G} {o1 : Nat} : s_Mc l yX1_init cX1_init 1 (s_rk 1 1 48) G vwCl [.ref o1] [(o1, .inr (1, [.null]))] [] (fun _ : Nat × ClassId => True) (fun u => s_wm o1 u.1 u.2 (fun _ => 0)) (fun u => [(u.2, .int)]) 1 48 := by
  refine s_ofc (by decide) (Nat.le_of_ble_eq_true rfl) ?_
  intro p e s m args below meth c Q A ls hx hb hml hown hts hnm hN hA hK hP hD hS hl hret
  have hl : lv_has ls 1 [(0, .ref o1)] := hl
  refine lv_aload_n hx hb dX1_init_0 rfl (lv_at hl 0 rfl) ?_
  refine W.objInit hx hb hown (hts _ q123) (hts _ q17) (hts _ q18) rfl (hl.1.trans hml.symm) rfl dX1_init_1 (Nat.le_of_ble_eq_true rfl) (Nat.le_of_ble_eq_true rfl) ?_
  refine W.eq (g2 := F0 m 4 ls []) rfl ?_
  refine lv_aload_n hx hb dX1_init_4 rfl (lv_at hl 0 rfl) ?_
  refine lv_bipush (v := nI 48) hx hb dX1_init_5 (by decide) ?_
  refine va_newa (atype := .int) (ty := .int) (a0 := (48, .inl fun _ => 0)) (N' := 48) hx hb (hts _ q103) rfl hK hP hD hS hA (fun _ => rfl) (by decide) (by decide) (by decide) (by decide) (by decide) dX1_init_7 (fun r1 d1 H hK hP hD hS => ?_)
  have hP : va_P G vwCl [(o1, .inr (1, [.null])), (r1, .inl (d1, 48, .inl fun _ => 0))] H := hP
  have hD : va_D A [(o1, .inr (1, [.null])), (r1, .inl (d1, 48, .inl fun _ => 0))] := hD
  have hK : va_K G vwCl [(d1, .int)] s := hK
  refine va_putF (D := G) (ci := 1) (v := .ref r1) (ty := .array .int) (C := RX1) (T := TX1) (N := 1) hx hb hts in_X1 tyX1 tyX1_ok nmX1 hown hK hP hD hS 0 rfl rfl 0 (by decide) (hts _ q124) (fun _ h9 => h9) rfl hnm rfl (by decide +kernel) rfl rfl (Nat.le_of_ble_eq_true rfl) dX1_init_9 (fun H locs hP hD hS => ?_)
  exact hret (r1, d1) _ _ _ _ trivial hP hK hD hS dX1_init_12
end
section
/-! THE CLAIM OUT OF ONE WALK OF THE LAW'S BODY. Your part is whole_start (and what it stands on); all else here is the same for every law, but numbers. -/
def R_law : String := "ShortSortDeskLaw"
def lw_P (b : Addr) (xs : List Int32) (args : Array Value) (s : State) : Prop := args = #[.ref b] ∧ s.IntsAt b xs ∧ xs.length ≤ 288 ∧ (Jvm.Cond.and given_1 narrow_1).before args s = true
def lw_Q (_ : Array Value) (s : State) (o : Outcome) (t : State) : Prop := o = .returned (some (.int 1)) ∧ Framed s o t [] 600000 7302250
def lw_Z (below : List Frame) (a : Array Value) (s : State) : State → Prop := fun t => ∃ o, t.status = .running ∧ Ended t below o ∧ lw_Q a s o t
/-- the law's own end, with 1 on the stack, nothing written that was there before, its room as the claim has it -/
theorem lw_ret {p : Program} {l : Launch} {e : Env} {s : State} {m : MethodId} {below : List Frame} {meth : Method} {c : Code} {b : Nat} (hx : p.tables.exec = Jvm.exec) (hb : c.code = code) (hr : meth.sig.returnType = ret) (hlocks : meth.locks = false) {pc : Nat} {H : Heap} {ls : Array Slot} (hdg : decode code pc = .ok (.ireturn, 1)) : W p l e room_1 s m #[Value.ref b] below meth c H [] 600000 7302250 (lw_Z below #[Value.ref b] s) (F0 m pc ls [.int 1]) := by
  intro T hT X
  obtain ⟨fs, hret, hrun, hended, hW, hframe⟩ := X.leave (v := some (.int 1)) (hlocks := hlocks) (fun h => by rw [hr] at h; cases h)
  have hmeth' : T.vm.method? m = some meth := X.method'
  refine ⟨T.setFrames fs, ?_, .returned (some (.int 1)), hrun, hended, rfl, ⟨_, rfl⟩, hW, hframe⟩
  jvm_step X.here [X.here.top, hx, hb, hdg, hmeth', hr, ret, narrow_b1]
  (try refine ⟨rfl, ?_⟩); (try refine ⟨rfl, ?_⟩)
  first | (intro acts; rw [hret _ acts rfl rfl rfl]) | rw [hret _ _ rfl rfl rfl]
  exact Steps.refl _
/-- what holds at the law's entry: the machine, the code, the tables' words (any of lw_tbl by 'hts w (by decide +kernel)'), the script of L ints xs at the cell b, what the Statement gives of the start (any of its parts by flat_of_before) -/
def lw_At (p : Program) (s : State) (m : MethodId) (meth : Method) (c : Code) (b L : Nat) (xs : Nat → Int32) : Prop :=
  p.tables.exec = Jvm.exec ∧ c.code = code ∧ meth.sig.returnType = ret ∧ c.maxLocals = 4 ∧ s.vm.findClass R_law = some m.cls ∧ (∀ w ∈ lw_tbl, w.before #[Value.ref b] s = true) ∧ va_X b L xs s s.heap ∧ b < s.heap.size ∧ meth.locks = false ∧ (Jvm.Cond.and given_1 narrow_1).before #[Value.ref b] s = true
end
section
/-! the walk of the law: desk and model hold one and the same contents -/
abbrev s_wl (o0 r0 : Nat) (d0 : ClassId) (o1 r1 : Nat) (d1 : ClassId) (f g : Nat → Int32) : va_W := [(o0, .inr (0, [.ref r0])), (r0, .inl (d0, 48, .inl f)), (o1, .inr (1, [.ref r1])), (r1, .inl (d1, 48, .inl g))]
section SLL
variable {p : Program} {l : Launch} {e : Env} {R : Room} {s : State} {m : MethodId} {args : Array Value} {below : List Frame} {meth : Method} {c : Code} {H : Heap} {locs : List Loc} {cells slots : Nat} {Q : State → Prop}
variable {cc : ByteArray} {pc : Nat} {ls : Array Slot} {rest : List Value} {A : Nat → Prop}
theorem s_scr {b L i : Nat} {xs : Nat → Int32} (hx : p.tables.exec = Jvm.exec) (hb : c.code = cc) (hX : va_X b L xs s s.heap) (hbl : b < s.heap.size) (hbA : ¬ A b) (hS : va_S A s.heap H locs) (hi : i < L) (hL : L ≤ 288) (hdg : decode cc pc = .ok (.iaload, 1))
    (kk : W p l e R s m args below meth c H locs cells slots Q (F0 m (pc + 1) ls (.int (xs i) :: rest))) : W p l e R s m args below meth c H locs cells slots Q (F0 m pc ls (.int (nI i) :: .ref b :: rest)) := by
  refine va_sld hx hb hX hbl hbA hS (vp_in_nI hi (by omega)) hdg ?_
  rw [nI_clamp (by omega)]; exact kk
end SLL
theorem s_kn {s : State} {b : Addr} (ht0 : ∀ w ∈ lw_tbl, w.before #[Value.ref b] s = true) : ∃ G : va_G, va_K G vwCl [] s := by
  obtain ⟨c0_, iS0, hKn0⟩ := u_known (C := RX0) (T := TX0) (N := 1) (n := 1) ht0 (fun w h => lw_all_tbl (in_X0 w h)) (ht0 _ (lw_all_tbl q12))
  obtain ⟨c1_, iS1, hKn1⟩ := u_known (C := RX1) (T := TX1) (N := 1) (n := 1) ht0 (fun w h => lw_all_tbl (in_X1 w h)) (ht0 _ (lw_all_tbl q119))
  refine ⟨(fun k => if k = 0 then c0_ else c1_, fun k => if k = 0 then iS0 else iS1), fun k q hq => ?_, fun k q hk => by simp at hk⟩
  match k, hq with
  | 0, hq => cases hq; exact hKn0
  | 1, hq => cases hq; exact hKn1
  | k + 2, hq => simp [vwCl] at hq
set_option maxHeartbeats 4000000 in
set_option maxRecDepth 100000 in
theorem whole_start {p : Program} {e : Env} {s : State} {m : MethodId} {below : List Frame} {meth : Method} {c : Code} (l : Launch) (hflags : l.flags = flags0) {b L : Nat} {xs : Nat → Int32} (hL : L ≤ 288) (C0 : lw_At p s m meth c b L xs) : W p l e room_1 s m #[Value.ref b] below meth c s.heap [] 0 0 (lw_Z below #[Value.ref b] s) (entryFrame m ([Value.ref b] : List Value).toArray 4) := by
  obtain ⟨hx, hb, hr, hml, hown, hts0, hX, hbl, hlocks, hgv⟩ := C0
  obtain ⟨G, hK⟩ := s_kn hts0
  have hts : ∀ w ∈ lw_all, w.before #[Value.ref b] s = true := fun w h => hts0 w (lw_all_tbl h)
  have hN : va_Nw s_cw s := va_Nw.of rfl (hts0 _ q89)
  obtain ⟨A, hAe⟩ : ∃ A : Nat → Prop, A = fun q => s.heap.size ≤ q := ⟨_, rfl⟩
  have hA : ∀ q : Nat, s.heap.size ≤ q → A q := fun q h => by rw [hAe]; exact h
  have hAn : ∀ q : Nat, A q → s.heap.size ≤ q := fun q h => by rw [hAe] at h; exact h
  have hbA : ¬ A b := fun q => absurd (hAn b q) (by omega)
  have hS : va_S A s.heap s.heap [] := va_S.rf
  have hP : va_P G vwCl [] s.heap := fun k q hk => by simp at hk
  have hD : va_D A [] := ⟨fun i j p q hi => by simp at hi, fun k q hk => by simp at hk⟩
  have loop : ∀ (o0 r0 : Nat) (d0 : ClassId) (o1 r1 : Nat) (d1 : ClassId), va_K G vwCl [(d0, .short), (d1, .int)] s → ∀ (t k : Nat) (f : Nat → Int32) (H : Heap) (locs : List Loc) (ls : Array Slot), 49 ≤ k + t → 6 * k ≤ L → sg_sh f → va_P G vwCl (s_wl o0 r0 d0 o1 r1 d1 f f) H → va_D A (s_wl o0 r0 d0 o1 r1 d1 f f) → va_S A s.heap H locs → lv_has ls 4 [(0, .ref b), (1, .ref o0), (2, .ref o1), (3, .int (nI (6 * k)))] → W p l e room_1 s m #[Value.ref b] below meth c H locs (4 + 2 * k) (98 + 96 * k) (lw_Z below #[Value.ref b] s) (F0 m 18 ls []) := by
    intro o0 r0 d0 o1 r1 d1 hK t
    induction t with
    | zero => intro k f H locs ls ht h6; omega
    | succ t ih =>
    intro k f H locs ls ht h6L hf hP hD hS hl
    refine lv_iload_n hx hb dL_law_18 rfl (lv_at hl 3 rfl) ?_
    refine lv_aload_n hx hb dL_law_19 rfl (lv_at hl 0 rfl) ?_
    refine va_slen hx hb hX hbl hbA hS dL_law_20 ?_
    refine s_top (y := nI L) rfl ?_
    refine lv_bipush (v := nI 6) hx hb dL_law_21 (by decide) ?_
    refine lv_isub hx hb dL_law_23 ?_
    refine s_vgt (tgt := 303) hx hb dL_law_24 (by decide) (fun c0 => ?_) (fun c0 => ?_)
    · refine lv_iconst (v := 1) hx hb dL_law_303 (by decide) ?_
      refine W.widen (k := 600000) (n := 7302250) (by omega) (by omega) ?_
      exact va_forget (fun q hq => hAn _ (hS.2.2 q hq)) (lw_ret hx hb hr hlocks dL_law_304)
    · rw [nI_toInt (by omega), pk_sub_toInt (by omega) (by omega)] at c0
      have h6 : 6 * k + 6 ≤ L := by omega
      refine lv_aload_n hx hb dL_law_27 rfl (lv_at hl 0 rfl) ?_
      refine lv_iload_n hx hb dL_law_28 rfl (lv_at hl 3 rfl) ?_
      refine s_scr hx hb hX hbl hbA hS (by omega) hL dL_law_29 ?_
      refine lv_bipush (v := nI 7) hx hb dL_law_30 (by decide) ?_
      refine lv_iand hx hb dL_law_32 ?_
      obtain ⟨w, hw⟩ : ∃ w, w = (xs (6 * k)).toBitVec.toNat % 8 := ⟨_, rfl⟩
      have hw8 : w < 8 := by omega
      refine s_top (y := (nI w)) ((pk_and (xs (6 * k)) 3 (by decide)).trans (congrArg nI hw.symm)) ?_
      clear hw
      have cs : w = 0 ∨ w = 1 ∨ w = 2 ∨ w = 3 ∨ w = 4 ∨ w = 5 ∨ w = 6 ∨ w = 7 := by omega
      rcases cs with rfl | rfl | rfl | rfl | rfl | rfl | rfl | rfl
      · refine lv_tableIn (tgt := 76) (off := 43) hx hb dL_law_33 (by decide) (by decide) (by decide) (by decide) ?_
        refine lv_aload_n hx hb dL_law_76 rfl (lv_at hl 1 rfl) ?_
        refine lv_aload_n hx hb dL_law_77 rfl (lv_at hl 0 rfl) ?_
        refine lv_iload_n hx hb dL_law_78 rfl (lv_at hl 3 rfl) ?_
        refine lv_iconst (v := nI 1) hx hb dL_law_79 (by decide) ?_
        refine s_addn (z := 6 * k + 1) hx hb dL_law_80 (by omega) ?_
        refine s_scr hx hb hX hbl hbA hS (by omega) hL dL_law_81 ?_
        refine lv_aload_n hx hb dL_law_82 rfl (lv_at hl 0 rfl) ?_
        refine lv_iload_n hx hb dL_law_83 rfl (lv_at hl 3 rfl) ?_
        refine lv_iconst (v := nI 2) hx hb dL_law_84 (by decide) ?_
        refine s_addn (z := 6 * k + 2) hx hb dL_law_85 (by omega) ?_
        refine s_scr hx hb hX hbl hbA hS (by omega) hL dL_law_86 ?_
        refine s_cVv (C := RX0) (T := TX0) (N := 1) (wr := [(o1, .inr (1, [.ref r1])), (r1, .inl (d1, 48, .inl f))]) (ws' := fun g => s_wl o0 r0 d0 o1 r1 d1 g f) hx hb hml hl.1 hown hts hN hA hK hP hD hS (m0_set (G := G) (o0 := o0) (r0 := r0) (d0 := d0) hf (x := (xs (6 * k + 1))) (z := (xs (6 * k + 2)))) (lw_V q24 q25 q26 q4 q27) rfl 2 nm0_set rfl ⟨rfl, rfl, ⟨Nat.le_of_ble_eq_true rfl, Nat.le_of_ble_eq_true rfl⟩, ⟨by show (4 + 2 * k) + 0 ≤ 600000; omega, by show (98 + 96 * k) + 0 ≤ 7302250; omega⟩⟩ (Nat.le_of_ble_eq_true rfl) [0, 1] [2, 3] [0] [2, 3, 0, 1] rfl rfl rfl (fun _ => rfl) rfl 0 0 rfl rfl dL_law_87 rfl (fun g1 H locs e1 hP hD hS => ?_)
        refine lv_aload_n hx hb dL_law_90 rfl (lv_at hl 2 rfl) ?_
        refine lv_aload_n hx hb dL_law_91 rfl (lv_at hl 0 rfl) ?_
        refine lv_iload_n hx hb dL_law_92 rfl (lv_at hl 3 rfl) ?_
        refine lv_iconst (v := nI 1) hx hb dL_law_93 (by decide) ?_
        refine s_addn (z := 6 * k + 1) hx hb dL_law_94 (by omega) ?_
        refine s_scr hx hb hX hbl hbA hS (by omega) hL dL_law_95 ?_
        refine lv_aload_n hx hb dL_law_96 rfl (lv_at hl 0 rfl) ?_
        refine lv_iload_n hx hb dL_law_97 rfl (lv_at hl 3 rfl) ?_
        refine lv_iconst (v := nI 2) hx hb dL_law_98 (by decide) ?_
        refine s_addn (z := 6 * k + 2) hx hb dL_law_99 (by omega) ?_
        refine s_scr hx hb hX hbl hbA hS (by omega) hL dL_law_100 ?_
        refine s_cVv (C := RX1) (T := TX1) (N := 1) (wr := [(o0, .inr (0, [.ref r0])), (r0, .inl (d0, 48, .inl g1))]) (ws' := fun g => s_wl o0 r0 d0 o1 r1 d1 g1 g) hx hb hml hl.1 hown hts hN hA hK hP hD hS (m1_set (G := G) (o1 := o1) (r1 := r1) (d1 := d1) (f := f) (x := (xs (6 * k + 1))) (z := (xs (6 * k + 2)))) (lw_V q128 q129 q130 q5 q131) rfl 2 nm1_set rfl ⟨rfl, rfl, ⟨Nat.le_of_ble_eq_true rfl, Nat.le_of_ble_eq_true rfl⟩, ⟨by show (4 + 2 * k) + 0 + 0 ≤ 600000; omega, by show (98 + 96 * k) + 0 + 0 ≤ 7302250; omega⟩⟩ (Nat.le_of_ble_eq_true rfl) [2, 3] [0, 1] [1] [0, 1, 2, 3] rfl rfl rfl (fun _ => rfl) rfl 1 2 rfl rfl dL_law_101 rfl (fun g2 H locs e2 hP hD hS => ?_)
        have e3 : g2 = g1 := e2.trans e1.symm
        subst e3
        refine lv_goto (tgt := 297) hx hb dL_law_104 (by decide) ?_
        refine W.widen (k := 4 + 2 * (k + 1)) (n := 98 + 96 * (k + 1)) (by omega) (by omega) ?_
        refine lv_iinc (v := (nI (6 * (k + 1)))) (lv' := [(3, .int (nI (6 * (k + 1)))), (0, .ref b), (1, .ref o0), (2, .ref o1)]) hx hb dL_law_297 hl (k := 3) rfl (s_inc (by omega)) (by decide) rfl (fun ls hl => ?_)
        refine lv_goto (tgt := 18) hx hb dL_law_300 (by decide) ?_
        exact ih (k + 1) g2 H locs ls (by omega) (by omega) (by rw [e1]; exact sg_sh_upd hf (sg_nw_sh _)) hP hD hS (lv_sub hl [1, 2, 3, 0] rfl)
      · refine lv_tableIn (tgt := 107) (off := 74) hx hb dL_law_33 (by decide) (by decide) (by decide) (by decide) ?_
        refine lv_aload_n hx hb dL_law_107 rfl (lv_at hl 1 rfl) ?_
        refine lv_aload_n hx hb dL_law_108 rfl (lv_at hl 0 rfl) ?_
        refine lv_iload_n hx hb dL_law_109 rfl (lv_at hl 3 rfl) ?_
        refine lv_iconst (v := nI 1) hx hb dL_law_110 (by decide) ?_
        refine s_addn (z := 6 * k + 1) hx hb dL_law_111 (by omega) ?_
        refine s_scr hx hb hX hbl hbA hS (by omega) hL dL_law_112 ?_
        refine s_cVi (C := RX0) (T := TX0) (N := 1) hx hb hml hl.1 hown hts hK hP (m0_get (G := G) (o0 := o0) (r0 := r0) (d0 := d0) hf (x := (xs (6 * k + 1)))) (lw_V q29 q30 q31 q4 q32) rfl 1 nm0_get rfl ⟨rfl, rfl, ⟨Nat.le_of_ble_eq_true rfl, Nat.le_of_ble_eq_true rfl⟩, ⟨by show (4 + 2 * k) + 0 ≤ 600000; omega, by show (98 + 96 * k) + 0 ≤ 7302250; omega⟩⟩ (Nat.le_of_ble_eq_true rfl) [0, 1] [0] rfl rfl 0 0 rfl rfl dL_law_113 rfl (fun v1 e1 => ?_)
        refine lv_aload_n hx hb dL_law_116 rfl (lv_at hl 2 rfl) ?_
        refine lv_aload_n hx hb dL_law_117 rfl (lv_at hl 0 rfl) ?_
        refine lv_iload_n hx hb dL_law_118 rfl (lv_at hl 3 rfl) ?_
        refine lv_iconst (v := nI 1) hx hb dL_law_119 (by decide) ?_
        refine s_addn (z := 6 * k + 1) hx hb dL_law_120 (by omega) ?_
        refine s_scr hx hb hX hbl hbA hS (by omega) hL dL_law_121 ?_
        refine s_cVi (C := RX1) (T := TX1) (N := 1) hx hb hml hl.1 hown hts hK hP (m1_get (G := G) (o1 := o1) (r1 := r1) (d1 := d1) (f := f) (x := (xs (6 * k + 1)))) (lw_V q142 q143 q144 q5 q145) rfl 1 nm1_get rfl ⟨rfl, rfl, ⟨Nat.le_of_ble_eq_true rfl, Nat.le_of_ble_eq_true rfl⟩, ⟨by show (4 + 2 * k) + 0 ≤ 600000; omega, by show (98 + 96 * k) + 0 ≤ 7302250; omega⟩⟩ (Nat.le_of_ble_eq_true rfl) [2, 3] [1] rfl rfl 1 2 rfl rfl dL_law_122 rfl (fun v2 e2 => ?_)
        have e3 : v1 = v2 := e1.trans e2.symm
        refine s_veq (tgt := 297) hx hb dL_law_125 (by decide) (fun c1 => ?_) (fun c1 => ?_)
        · refine W.widen (k := 4 + 2 * (k + 1)) (n := 98 + 96 * (k + 1)) (by omega) (by omega) ?_
          refine lv_iinc (v := (nI (6 * (k + 1)))) (lv' := [(3, .int (nI (6 * (k + 1)))), (0, .ref b), (1, .ref o0), (2, .ref o1)]) hx hb dL_law_297 hl (k := 3) rfl (s_inc (by omega)) (by decide) rfl (fun ls hl => ?_)
          refine lv_goto (tgt := 18) hx hb dL_law_300 (by decide) ?_
          exact ih (k + 1) f H locs ls (by omega) (by omega) hf hP hD hS (lv_sub hl [1, 2, 3, 0] rfl)
        · exact absurd (congrArg Int32.toInt e3) c1
      · refine lv_tableIn (tgt := 130) (off := 97) hx hb dL_law_33 (by decide) (by decide) (by decide) (by decide) ?_
        refine lv_aload_n hx hb dL_law_130 rfl (lv_at hl 1 rfl) ?_
        refine lv_aload_n hx hb dL_law_131 rfl (lv_at hl 0 rfl) ?_
        refine lv_iload_n hx hb dL_law_132 rfl (lv_at hl 3 rfl) ?_
        refine lv_iconst (v := nI 1) hx hb dL_law_133 (by decide) ?_
        refine s_addn (z := 6 * k + 1) hx hb dL_law_134 (by omega) ?_
        refine s_scr hx hb hX hbl hbA hS (by omega) hL dL_law_135 ?_
        refine lv_aload_n hx hb dL_law_136 rfl (lv_at hl 0 rfl) ?_
        refine lv_iload_n hx hb dL_law_137 rfl (lv_at hl 3 rfl) ?_
        refine lv_iconst (v := nI 2) hx hb dL_law_138 (by decide) ?_
        refine s_addn (z := 6 * k + 2) hx hb dL_law_139 (by omega) ?_
        refine s_scr hx hb hX hbl hbA hS (by omega) hL dL_law_140 ?_
        refine s_cVv (C := RX0) (T := TX0) (N := 1) (wr := [(o1, .inr (1, [.ref r1])), (r1, .inl (d1, 48, .inl f))]) (ws' := fun g => s_wl o0 r0 d0 o1 r1 d1 g f) hx hb hml hl.1 hown hts hN hA hK hP hD hS (m0_quick (G := G) (o0 := o0) (r0 := r0) (d0 := d0) hf (x := (xs (6 * k + 1))) (y := (xs (6 * k + 2)))) (lw_V q33 q34 q35 q4 q36) rfl 2 nm0_quick rfl ⟨rfl, rfl, ⟨Nat.le_of_ble_eq_true rfl, Nat.le_of_ble_eq_true rfl⟩, ⟨by show (4 + 2 * k) + 0 ≤ 600000; omega, by show (98 + 96 * k) + 0 ≤ 7302250; omega⟩⟩ (Nat.le_of_ble_eq_true rfl) [0, 1] [2, 3] [0] [2, 3, 0, 1] rfl rfl rfl (fun _ => rfl) rfl 0 0 rfl rfl dL_law_141 rfl (fun g1 H locs e1 hP hD hS => ?_)
        refine lv_aload_n hx hb dL_law_144 rfl (lv_at hl 2 rfl) ?_
        refine lv_aload_n hx hb dL_law_145 rfl (lv_at hl 0 rfl) ?_
        refine lv_iload_n hx hb dL_law_146 rfl (lv_at hl 3 rfl) ?_
        refine lv_iconst (v := nI 1) hx hb dL_law_147 (by decide) ?_
        refine s_addn (z := 6 * k + 1) hx hb dL_law_148 (by omega) ?_
        refine s_scr hx hb hX hbl hbA hS (by omega) hL dL_law_149 ?_
        refine lv_aload_n hx hb dL_law_150 rfl (lv_at hl 0 rfl) ?_
        refine lv_iload_n hx hb dL_law_151 rfl (lv_at hl 3 rfl) ?_
        refine lv_iconst (v := nI 2) hx hb dL_law_152 (by decide) ?_
        refine s_addn (z := 6 * k + 2) hx hb dL_law_153 (by omega) ?_
        refine s_scr hx hb hX hbl hbA hS (by omega) hL dL_law_154 ?_
        refine s_cVv (C := RX1) (T := TX1) (N := 1) (wr := [(o0, .inr (0, [.ref r0])), (r0, .inl (d0, 48, .inl g1))]) (ws' := fun g => s_wl o0 r0 d0 o1 r1 d1 g1 g) hx hb hml hl.1 hown hts hN hA hK hP hD hS (m1_quick (G := G) (o1 := o1) (r1 := r1) (d1 := d1) (f := f) (x := (xs (6 * k + 1))) (y := (xs (6 * k + 2)))) (lw_V q146 q147 q148 q5 q149) rfl 2 nm1_quick rfl ⟨rfl, rfl, ⟨Nat.le_of_ble_eq_true rfl, Nat.le_of_ble_eq_true rfl⟩, ⟨by show (4 + 2 * k) + 0 + 0 ≤ 600000; omega, by show (98 + 96 * k) + 0 + 0 ≤ 7302250; omega⟩⟩ (Nat.le_of_ble_eq_true rfl) [2, 3] [0, 1] [1] [0, 1, 2, 3] rfl rfl rfl (fun _ => rfl) rfl 1 2 rfl rfl dL_law_155 rfl (fun g2 H locs e2 hP hD hS => ?_)
        have e3 : g2 = g1 := sg_det e2.1 e1.1 e2.2 e1.2
        subst e3
        refine lv_goto (tgt := 297) hx hb dL_law_158 (by decide) ?_
        refine W.widen (k := 4 + 2 * (k + 1)) (n := 98 + 96 * (k + 1)) (by omega) (by omega) ?_
        refine lv_iinc (v := (nI (6 * (k + 1)))) (lv' := [(3, .int (nI (6 * (k + 1)))), (0, .ref b), (1, .ref o0), (2, .ref o1)]) hx hb dL_law_297 hl (k := 3) rfl (s_inc (by omega)) (by decide) rfl (fun ls hl => ?_)
        refine lv_goto (tgt := 18) hx hb dL_law_300 (by decide) ?_
        exact ih (k + 1) g2 H locs ls (by omega) (by omega) (e1.1.sh hf) hP hD hS (lv_sub hl [1, 2, 3, 0] rfl)
      · refine lv_tableIn (tgt := 161) (off := 128) hx hb dL_law_33 (by decide) (by decide) (by decide) (by decide) ?_
        refine lv_aload_n hx hb dL_law_161 rfl (lv_at hl 1 rfl) ?_
        refine lv_aload_n hx hb dL_law_162 rfl (lv_at hl 0 rfl) ?_
        refine lv_iload_n hx hb dL_law_163 rfl (lv_at hl 3 rfl) ?_
        refine lv_iconst (v := nI 1) hx hb dL_law_164 (by decide) ?_
        refine s_addn (z := 6 * k + 1) hx hb dL_law_165 (by omega) ?_
        refine s_scr hx hb hX hbl hbA hS (by omega) hL dL_law_166 ?_
        refine lv_aload_n hx hb dL_law_167 rfl (lv_at hl 0 rfl) ?_
        refine lv_iload_n hx hb dL_law_168 rfl (lv_at hl 3 rfl) ?_
        refine lv_iconst (v := nI 2) hx hb dL_law_169 (by decide) ?_
        refine s_addn (z := 6 * k + 2) hx hb dL_law_170 (by omega) ?_
        refine s_scr hx hb hX hbl hbA hS (by omega) hL dL_law_171 ?_
        refine s_cVv (C := RX0) (T := TX0) (N := 1) (wr := [(o1, .inr (1, [.ref r1])), (r1, .inl (d1, 48, .inl f))]) (ws' := fun g => s_wl o0 r0 d0 o1 r1 d1 g f) hx hb hml hl.1 hown hts hN hA hK hP hD hS (m0_merge (G := G) (o0 := o0) (r0 := r0) (d0 := d0) hf (x := (xs (6 * k + 1))) (y := (xs (6 * k + 2)))) (lw_V q67 q68 q69 q4 q70) rfl 2 nm0_merge rfl ⟨rfl, rfl, ⟨Nat.le_of_ble_eq_true rfl, Nat.le_of_ble_eq_true rfl⟩, ⟨by show (4 + 2 * k) + 1 ≤ 600000; omega, by show (98 + 96 * k) + 48 ≤ 7302250; omega⟩⟩ (Nat.le_of_ble_eq_true rfl) [0, 1] [2, 3] [0] [2, 3, 0, 1] rfl rfl rfl (fun _ => rfl) rfl 0 0 rfl rfl dL_law_172 rfl (fun g1 H locs e1 hP hD hS => ?_)
        refine lv_aload_n hx hb dL_law_175 rfl (lv_at hl 2 rfl) ?_
        refine lv_aload_n hx hb dL_law_176 rfl (lv_at hl 0 rfl) ?_
        refine lv_iload_n hx hb dL_law_177 rfl (lv_at hl 3 rfl) ?_
        refine lv_iconst (v := nI 1) hx hb dL_law_178 (by decide) ?_
        refine s_addn (z := 6 * k + 1) hx hb dL_law_179 (by omega) ?_
        refine s_scr hx hb hX hbl hbA hS (by omega) hL dL_law_180 ?_
        refine lv_aload_n hx hb dL_law_181 rfl (lv_at hl 0 rfl) ?_
        refine lv_iload_n hx hb dL_law_182 rfl (lv_at hl 3 rfl) ?_
        refine lv_iconst (v := nI 2) hx hb dL_law_183 (by decide) ?_
        refine s_addn (z := 6 * k + 2) hx hb dL_law_184 (by omega) ?_
        refine s_scr hx hb hX hbl hbA hS (by omega) hL dL_law_185 ?_
        refine s_cVv (C := RX1) (T := TX1) (N := 1) (wr := [(o0, .inr (0, [.ref r0])), (r0, .inl (d0, 48, .inl g1))]) (ws' := fun g => s_wl o0 r0 d0 o1 r1 d1 g1 g) hx hb hml hl.1 hown hts hN hA hK hP hD hS (m1_merge (G := G) (o1 := o1) (r1 := r1) (d1 := d1) (f := f) (x := (xs (6 * k + 1))) (y := (xs (6 * k + 2)))) (lw_V q160 q161 q162 q5 q163) rfl 2 nm1_merge rfl ⟨rfl, rfl, ⟨Nat.le_of_ble_eq_true rfl, Nat.le_of_ble_eq_true rfl⟩, ⟨by show (4 + 2 * k) + 1 + 0 ≤ 600000; omega, by show (98 + 96 * k) + 48 + 0 ≤ 7302250; omega⟩⟩ (Nat.le_of_ble_eq_true rfl) [2, 3] [0, 1] [1] [0, 1, 2, 3] rfl rfl rfl (fun _ => rfl) rfl 1 2 rfl rfl dL_law_186 rfl (fun g2 H locs e2 hP hD hS => ?_)
        have e3 : g2 = g1 := sg_det e2.1 e1.1 e2.2 e1.2
        subst e3
        refine lv_goto (tgt := 297) hx hb dL_law_189 (by decide) ?_
        refine W.widen (k := 4 + 2 * (k + 1)) (n := 98 + 96 * (k + 1)) (by omega) (by omega) ?_
        refine lv_iinc (v := (nI (6 * (k + 1)))) (lv' := [(3, .int (nI (6 * (k + 1)))), (0, .ref b), (1, .ref o0), (2, .ref o1)]) hx hb dL_law_297 hl (k := 3) rfl (s_inc (by omega)) (by decide) rfl (fun ls hl => ?_)
        refine lv_goto (tgt := 18) hx hb dL_law_300 (by decide) ?_
        exact ih (k + 1) g2 H locs ls (by omega) (by omega) (e1.1.sh hf) hP hD hS (lv_sub hl [1, 2, 3, 0] rfl)
      · refine lv_tableIn (tgt := 192) (off := 159) hx hb dL_law_33 (by decide) (by decide) (by decide) (by decide) ?_
        refine lv_aload_n hx hb dL_law_192 rfl (lv_at hl 1 rfl) ?_
        refine lv_aload_n hx hb dL_law_193 rfl (lv_at hl 0 rfl) ?_
        refine lv_iload_n hx hb dL_law_194 rfl (lv_at hl 3 rfl) ?_
        refine lv_iconst (v := nI 1) hx hb dL_law_195 (by decide) ?_
        refine s_addn (z := 6 * k + 1) hx hb dL_law_196 (by omega) ?_
        refine s_scr hx hb hX hbl hbA hS (by omega) hL dL_law_197 ?_
        refine lv_aload_n hx hb dL_law_198 rfl (lv_at hl 0 rfl) ?_
        refine lv_iload_n hx hb dL_law_199 rfl (lv_at hl 3 rfl) ?_
        refine lv_iconst (v := nI 2) hx hb dL_law_200 (by decide) ?_
        refine s_addn (z := 6 * k + 2) hx hb dL_law_201 (by omega) ?_
        refine s_scr hx hb hX hbl hbA hS (by omega) hL dL_law_202 ?_
        refine s_cVv (C := RX0) (T := TX0) (N := 1) (wr := [(o1, .inr (1, [.ref r1])), (r1, .inl (d1, 48, .inl f))]) (ws' := fun g => s_wl o0 r0 d0 o1 r1 d1 g f) hx hb hml hl.1 hown hts hN hA hK hP hD hS (m0_radix (G := G) (o0 := o0) (r0 := r0) (d0 := d0) hf (x := (xs (6 * k + 1))) (y := (xs (6 * k + 2)))) (lw_V q96 q97 q98 q4 q99) rfl 2 nm0_radix rfl ⟨rfl, rfl, ⟨Nat.le_of_ble_eq_true rfl, Nat.le_of_ble_eq_true rfl⟩, ⟨by show (4 + 2 * k) + 0 ≤ 600000; omega, by show (98 + 96 * k) + 0 ≤ 7302250; omega⟩⟩ (Nat.le_of_ble_eq_true rfl) [0, 1] [2, 3] [0] [2, 3, 0, 1] rfl rfl rfl (fun _ => rfl) rfl 0 0 rfl rfl dL_law_203 rfl (fun g1 H locs e1 hP hD hS => ?_)
        refine lv_aload_n hx hb dL_law_206 rfl (lv_at hl 2 rfl) ?_
        refine lv_aload_n hx hb dL_law_207 rfl (lv_at hl 0 rfl) ?_
        refine lv_iload_n hx hb dL_law_208 rfl (lv_at hl 3 rfl) ?_
        refine lv_iconst (v := nI 1) hx hb dL_law_209 (by decide) ?_
        refine s_addn (z := 6 * k + 1) hx hb dL_law_210 (by omega) ?_
        refine s_scr hx hb hX hbl hbA hS (by omega) hL dL_law_211 ?_
        refine lv_aload_n hx hb dL_law_212 rfl (lv_at hl 0 rfl) ?_
        refine lv_iload_n hx hb dL_law_213 rfl (lv_at hl 3 rfl) ?_
        refine lv_iconst (v := nI 2) hx hb dL_law_214 (by decide) ?_
        refine s_addn (z := 6 * k + 2) hx hb dL_law_215 (by omega) ?_
        refine s_scr hx hb hX hbl hbA hS (by omega) hL dL_law_216 ?_
        refine s_cVv (C := RX1) (T := TX1) (N := 1) (wr := [(o0, .inr (0, [.ref r0])), (r0, .inl (d0, 48, .inl g1))]) (ws' := fun g => s_wl o0 r0 d0 o1 r1 d1 g1 g) hx hb hml hl.1 hown hts hN hA hK hP hD hS (m1_radix (G := G) (o1 := o1) (r1 := r1) (d1 := d1) (f := f) (x := (xs (6 * k + 1))) (y := (xs (6 * k + 2)))) (lw_V q164 q165 q166 q5 q167) rfl 2 nm1_radix rfl ⟨rfl, rfl, ⟨Nat.le_of_ble_eq_true rfl, Nat.le_of_ble_eq_true rfl⟩, ⟨by show (4 + 2 * k) + 0 + 0 ≤ 600000; omega, by show (98 + 96 * k) + 0 + 0 ≤ 7302250; omega⟩⟩ (Nat.le_of_ble_eq_true rfl) [2, 3] [0, 1] [1] [0, 1, 2, 3] rfl rfl rfl (fun _ => rfl) rfl 1 2 rfl rfl dL_law_217 rfl (fun g2 H locs e2 hP hD hS => ?_)
        have e3 : g2 = g1 := sg_det e2.1 e1.1 e2.2 e1.2
        subst e3
        refine lv_goto (tgt := 297) hx hb dL_law_220 (by decide) ?_
        refine W.widen (k := 4 + 2 * (k + 1)) (n := 98 + 96 * (k + 1)) (by omega) (by omega) ?_
        refine lv_iinc (v := (nI (6 * (k + 1)))) (lv' := [(3, .int (nI (6 * (k + 1)))), (0, .ref b), (1, .ref o0), (2, .ref o1)]) hx hb dL_law_297 hl (k := 3) rfl (s_inc (by omega)) (by decide) rfl (fun ls hl => ?_)
        refine lv_goto (tgt := 18) hx hb dL_law_300 (by decide) ?_
        exact ih (k + 1) g2 H locs ls (by omega) (by omega) (e1.1.sh hf) hP hD hS (lv_sub hl [1, 2, 3, 0] rfl)
      · refine lv_tableIn (tgt := 223) (off := 190) hx hb dL_law_33 (by decide) (by decide) (by decide) (by decide) ?_
        refine lv_aload_n hx hb dL_law_223 rfl (lv_at hl 1 rfl) ?_
        refine lv_aload_n hx hb dL_law_224 rfl (lv_at hl 0 rfl) ?_
        refine lv_iload_n hx hb dL_law_225 rfl (lv_at hl 3 rfl) ?_
        refine lv_iconst (v := nI 1) hx hb dL_law_226 (by decide) ?_
        refine s_addn (z := 6 * k + 1) hx hb dL_law_227 (by omega) ?_
        refine s_scr hx hb hX hbl hbA hS (by omega) hL dL_law_228 ?_
        refine lv_aload_n hx hb dL_law_229 rfl (lv_at hl 0 rfl) ?_
        refine lv_iload_n hx hb dL_law_230 rfl (lv_at hl 3 rfl) ?_
        refine lv_iconst (v := nI 2) hx hb dL_law_231 (by decide) ?_
        refine s_addn (z := 6 * k + 2) hx hb dL_law_232 (by omega) ?_
        refine s_scr hx hb hX hbl hbA hS (by omega) hL dL_law_233 ?_
        refine s_cVv (C := RX0) (T := TX0) (N := 1) (wr := [(o1, .inr (1, [.ref r1])), (r1, .inl (d1, 48, .inl f))]) (ws' := fun g => s_wl o0 r0 d0 o1 r1 d1 g f) hx hb hml hl.1 hown hts hN hA hK hP hD hS (m0_reverse (G := G) (o0 := o0) (r0 := r0) (d0 := d0) hf (x := (xs (6 * k + 1))) (y := (xs (6 * k + 2)))) (lw_V q104 q105 q106 q4 q107) rfl 2 nm0_reverse rfl ⟨rfl, rfl, ⟨Nat.le_of_ble_eq_true rfl, Nat.le_of_ble_eq_true rfl⟩, ⟨by show (4 + 2 * k) + 0 ≤ 600000; omega, by show (98 + 96 * k) + 0 ≤ 7302250; omega⟩⟩ (Nat.le_of_ble_eq_true rfl) [0, 1] [2, 3] [0] [2, 3, 0, 1] rfl rfl rfl (fun _ => rfl) rfl 0 0 rfl rfl dL_law_234 rfl (fun g1 H locs e1 hP hD hS => ?_)
        refine lv_aload_n hx hb dL_law_237 rfl (lv_at hl 2 rfl) ?_
        refine lv_aload_n hx hb dL_law_238 rfl (lv_at hl 0 rfl) ?_
        refine lv_iload_n hx hb dL_law_239 rfl (lv_at hl 3 rfl) ?_
        refine lv_iconst (v := nI 1) hx hb dL_law_240 (by decide) ?_
        refine s_addn (z := 6 * k + 1) hx hb dL_law_241 (by omega) ?_
        refine s_scr hx hb hX hbl hbA hS (by omega) hL dL_law_242 ?_
        refine lv_aload_n hx hb dL_law_243 rfl (lv_at hl 0 rfl) ?_
        refine lv_iload_n hx hb dL_law_244 rfl (lv_at hl 3 rfl) ?_
        refine lv_iconst (v := nI 2) hx hb dL_law_245 (by decide) ?_
        refine s_addn (z := 6 * k + 2) hx hb dL_law_246 (by omega) ?_
        refine s_scr hx hb hX hbl hbA hS (by omega) hL dL_law_247 ?_
        refine s_cVv (C := RX1) (T := TX1) (N := 1) (wr := [(o0, .inr (0, [.ref r0])), (r0, .inl (d0, 48, .inl g1))]) (ws' := fun g => s_wl o0 r0 d0 o1 r1 d1 g1 g) hx hb hml hl.1 hown hts hN hA hK hP hD hS (m1_reverse (G := G) (o1 := o1) (r1 := r1) (d1 := d1) (f := f) (x := (xs (6 * k + 1))) (y := (xs (6 * k + 2)))) (lw_V q168 q169 q170 q5 q171) rfl 2 nm1_reverse rfl ⟨rfl, rfl, ⟨Nat.le_of_ble_eq_true rfl, Nat.le_of_ble_eq_true rfl⟩, ⟨by show (4 + 2 * k) + 0 + 1 ≤ 600000; omega, by show (98 + 96 * k) + 0 + 48 ≤ 7302250; omega⟩⟩ (Nat.le_of_ble_eq_true rfl) [2, 3] [0, 1] [1] [0, 1, 2, 3] rfl rfl rfl (fun _ => rfl) rfl 1 2 rfl rfl dL_law_248 rfl (fun g2 H locs e2 hP hD hS => ?_)
        have e3 : g2 = g1 := e2.trans e1.symm
        subst e3
        refine lv_goto (tgt := 297) hx hb dL_law_251 (by decide) ?_
        refine W.widen (k := 4 + 2 * (k + 1)) (n := 98 + 96 * (k + 1)) (by omega) (by omega) ?_
        refine lv_iinc (v := (nI (6 * (k + 1)))) (lv' := [(3, .int (nI (6 * (k + 1)))), (0, .ref b), (1, .ref o0), (2, .ref o1)]) hx hb dL_law_297 hl (k := 3) rfl (s_inc (by omega)) (by decide) rfl (fun ls hl => ?_)
        refine lv_goto (tgt := 18) hx hb dL_law_300 (by decide) ?_
        exact ih (k + 1) g2 H locs ls (by omega) (by omega) (by rw [e1]; exact sg_rev_sh hf) hP hD hS (lv_sub hl [1, 2, 3, 0] rfl)
      · refine lv_tableIn (tgt := 254) (off := 221) hx hb dL_law_33 (by decide) (by decide) (by decide) (by decide) ?_
        refine lv_aload_n hx hb dL_law_254 rfl (lv_at hl 1 rfl) ?_
        refine lv_aload_n hx hb dL_law_255 rfl (lv_at hl 0 rfl) ?_
        refine lv_iload_n hx hb dL_law_256 rfl (lv_at hl 3 rfl) ?_
        refine lv_iconst (v := nI 1) hx hb dL_law_257 (by decide) ?_
        refine s_addn (z := 6 * k + 1) hx hb dL_law_258 (by omega) ?_
        refine s_scr hx hb hX hbl hbA hS (by omega) hL dL_law_259 ?_
        refine lv_aload_n hx hb dL_law_260 rfl (lv_at hl 0 rfl) ?_
        refine lv_iload_n hx hb dL_law_261 rfl (lv_at hl 3 rfl) ?_
        refine lv_iconst (v := nI 2) hx hb dL_law_262 (by decide) ?_
        refine s_addn (z := 6 * k + 2) hx hb dL_law_263 (by omega) ?_
        refine s_scr hx hb hX hbl hbA hS (by omega) hL dL_law_264 ?_
        refine lv_aload_n hx hb dL_law_265 rfl (lv_at hl 0 rfl) ?_
        refine lv_iload_n hx hb dL_law_266 rfl (lv_at hl 3 rfl) ?_
        refine lv_iconst (v := nI 3) hx hb dL_law_267 (by decide) ?_
        refine s_addn (z := 6 * k + 3) hx hb dL_law_268 (by omega) ?_
        refine s_scr hx hb hX hbl hbA hS (by omega) hL dL_law_269 ?_
        refine s_cVi (C := RX0) (T := TX0) (N := 1) hx hb hml hl.1 hown hts hK hP (m0_find (G := G) (o0 := o0) (r0 := r0) (d0 := d0) hf (x := (xs (6 * k + 1))) (y := (xs (6 * k + 2))) (z := (xs (6 * k + 3)))) (lw_V q111 q112 q113 q4 q114) rfl 3 nm0_find rfl ⟨rfl, rfl, ⟨Nat.le_of_ble_eq_true rfl, Nat.le_of_ble_eq_true rfl⟩, ⟨by show (4 + 2 * k) + 0 ≤ 600000; omega, by show (98 + 96 * k) + 0 ≤ 7302250; omega⟩⟩ (Nat.le_of_ble_eq_true rfl) [0, 1] [0] rfl rfl 0 0 rfl rfl dL_law_270 rfl (fun v1 e1 => ?_)
        refine lv_aload_n hx hb dL_law_273 rfl (lv_at hl 2 rfl) ?_
        refine lv_aload_n hx hb dL_law_274 rfl (lv_at hl 0 rfl) ?_
        refine lv_iload_n hx hb dL_law_275 rfl (lv_at hl 3 rfl) ?_
        refine lv_iconst (v := nI 1) hx hb dL_law_276 (by decide) ?_
        refine s_addn (z := 6 * k + 1) hx hb dL_law_277 (by omega) ?_
        refine s_scr hx hb hX hbl hbA hS (by omega) hL dL_law_278 ?_
        refine lv_aload_n hx hb dL_law_279 rfl (lv_at hl 0 rfl) ?_
        refine lv_iload_n hx hb dL_law_280 rfl (lv_at hl 3 rfl) ?_
        refine lv_iconst (v := nI 2) hx hb dL_law_281 (by decide) ?_
        refine s_addn (z := 6 * k + 2) hx hb dL_law_282 (by omega) ?_
        refine s_scr hx hb hX hbl hbA hS (by omega) hL dL_law_283 ?_
        refine lv_aload_n hx hb dL_law_284 rfl (lv_at hl 0 rfl) ?_
        refine lv_iload_n hx hb dL_law_285 rfl (lv_at hl 3 rfl) ?_
        refine lv_iconst (v := nI 3) hx hb dL_law_286 (by decide) ?_
        refine s_addn (z := 6 * k + 3) hx hb dL_law_287 (by omega) ?_
        refine s_scr hx hb hX hbl hbA hS (by omega) hL dL_law_288 ?_
        refine s_cVi (C := RX1) (T := TX1) (N := 1) hx hb hml hl.1 hown hts hK hP (m1_find (G := G) (o1 := o1) (r1 := r1) (d1 := d1) (f := f) (x := (xs (6 * k + 1))) (y := (xs (6 * k + 2))) (z := (xs (6 * k + 3)))) (lw_V q172 q173 q174 q5 q175) rfl 3 nm1_find rfl ⟨rfl, rfl, ⟨Nat.le_of_ble_eq_true rfl, Nat.le_of_ble_eq_true rfl⟩, ⟨by show (4 + 2 * k) + 0 ≤ 600000; omega, by show (98 + 96 * k) + 0 ≤ 7302250; omega⟩⟩ (Nat.le_of_ble_eq_true rfl) [2, 3] [1] rfl rfl 1 2 rfl rfl dL_law_289 rfl (fun v2 e2 => ?_)
        have e3 : v1 = v2 := sg_find_1 e1 e2
        refine s_veq (tgt := 297) hx hb dL_law_292 (by decide) (fun c1 => ?_) (fun c1 => ?_)
        · refine W.widen (k := 4 + 2 * (k + 1)) (n := 98 + 96 * (k + 1)) (by omega) (by omega) ?_
          refine lv_iinc (v := (nI (6 * (k + 1)))) (lv' := [(3, .int (nI (6 * (k + 1)))), (0, .ref b), (1, .ref o0), (2, .ref o1)]) hx hb dL_law_297 hl (k := 3) rfl (s_inc (by omega)) (by decide) rfl (fun ls hl => ?_)
          refine lv_goto (tgt := 18) hx hb dL_law_300 (by decide) ?_
          exact ih (k + 1) f H locs ls (by omega) (by omega) hf hP hD hS (lv_sub hl [1, 2, 3, 0] rfl)
        · exact absurd (congrArg Int32.toInt e3) c1
      · refine lv_tableOut (tgt := 297) hx hb dL_law_33 (by decide) (by decide) ?_
        refine W.widen (k := 4 + 2 * (k + 1)) (n := 98 + 96 * (k + 1)) (by omega) (by omega) ?_
        refine lv_iinc (v := (nI (6 * (k + 1)))) (lv' := [(3, .int (nI (6 * (k + 1)))), (0, .ref b), (1, .ref o0), (2, .ref o1)]) hx hb dL_law_297 hl (k := 3) rfl (s_inc (by omega)) (by decide) rfl (fun ls hl => ?_)
        refine lv_goto (tgt := 18) hx hb dL_law_300 (by decide) ?_
        exact ih (k + 1) f H locs ls (by omega) (by omega) hf hP hD hS (lv_sub hl [1, 2, 3, 0] rfl)
  have hl := lv_entry ([.ref b]) (n := 4) (Nat.le_of_ble_eq_true rfl)
  rw [lg_entry_eq]
  generalize (lg_sl ([.ref b]) ++ List.replicate (4 - (lg_sl ([.ref b])).length) Slot.unset).toArray = ls at hl ⊢
  have hl : lv_has ls 4 [(0, .ref b)] := hl
  refine va_new (ci := 0) (fs := [.null]) (C := RX0) (T := TX0) (N := 1) hx hb hts in_X0 tyX0 tyX0_ok hown (hts _ q11) (hts _ q12) (hts _ q4) hK hP hD hS hA rfl (fun j hj => by rcases (show j = 0 by omega) with rfl <;> rfl) (Nat.le_of_ble_eq_true rfl) (Nat.le_of_ble_eq_true rfl) dL_law_0 (fun o0 H hP hD hS => ?_)
  have hP : va_P G vwCl [(o0, .inr (0, [.null]))] H := hP
  have hD : va_D A [(o0, .inr (0, [.null]))] := hD
  refine lv_dup hx hb dL_law_3 rfl ?_
  refine s_cIv (wr := []) (ws' := fun u => s_wd o0 u.1 u.2 (fun _ => 0)) (b := o0) (as := []) hx hb hml hl.1 hown hts hN hA hK hP hD hS (m0_init (G := G) (o0 := o0)) q15 q4 q13 q14 rfl 0 nm0_init rfl ⟨rfl, rfl, ⟨Nat.le_of_ble_eq_true rfl, Nat.le_of_ble_eq_true rfl⟩, ⟨Nat.le_of_ble_eq_true rfl, Nat.le_of_ble_eq_true rfl⟩⟩ (Nat.le_of_ble_eq_true rfl) [0] [] [] [0, 1] rfl rfl rfl (fun _ => rfl) rfl dL_law_4 rfl (fun u H locs _ hP hK hD hS => ?_)
  obtain ⟨r0, d0⟩ := u
  have hP : va_P G vwCl (s_wd o0 r0 d0 (fun _ => 0)) H := hP
  have hD : va_D A (s_wd o0 r0 d0 (fun _ => 0)) := hD
  have hK : va_K G vwCl [(d0, .short)] s := hK
  refine lv_astore_n (lv' := [(1, .ref o0), (0, .ref b)]) hx hb dL_law_7 rfl hl (by decide) rfl (fun ls hl => ?_)
  refine va_new (ci := 1) (fs := [.null]) (C := RX1) (T := TX1) (N := 1) hx hb hts in_X1 tyX1 tyX1_ok hown (hts _ q118) (hts _ q119) (hts _ q5) hK hP hD hS hA rfl (fun j hj => by rcases (show j = 0 by omega) with rfl <;> rfl) (Nat.le_of_ble_eq_true rfl) (Nat.le_of_ble_eq_true rfl) dL_law_8 (fun o1 H hP hD hS => ?_)
  have hP : va_P G vwCl [(o0, .inr (0, [.ref r0])), (r0, .inl (d0, 48, .inl (fun _ => 0))), (o1, .inr (1, [.null]))] H := hP
  have hD : va_D A [(o0, .inr (0, [.ref r0])), (r0, .inl (d0, 48, .inl (fun _ => 0))), (o1, .inr (1, [.null]))] := hD
  refine lv_dup hx hb dL_law_11 rfl ?_
  have hK0 := hK
  refine s_cIv (wr := [(o0, .inr (0, [.ref r0])), (r0, .inl (d0, 48, .inl (fun _ => 0)))]) (ws' := fun u => s_wl o0 r0 d0 o1 u.1 u.2 (fun _ => 0) (fun _ => 0)) (b := o1) (as := []) hx hb hml hl.1 hown hts hN hA hK hP hD hS (m1_init (G := G) (o1 := o1)) q122 q5 q120 q121 rfl 0 nm1_init rfl ⟨rfl, rfl, ⟨Nat.le_of_ble_eq_true rfl, Nat.le_of_ble_eq_true rfl⟩, ⟨Nat.le_of_ble_eq_true rfl, Nat.le_of_ble_eq_true rfl⟩⟩ (Nat.le_of_ble_eq_true rfl) [2] [0, 1] [] [0, 1, 2, 3] rfl rfl rfl (fun _ => rfl) rfl dL_law_12 rfl (fun u H locs _ hP hK1 hD hS => ?_)
  obtain ⟨r1, d1⟩ := u
  have hP : va_P G vwCl (s_wl o0 r0 d0 o1 r1 d1 (fun _ => 0) (fun _ => 0)) H := hP
  have hD : va_D A (s_wl o0 r0 d0 o1 r1 d1 (fun _ => 0) (fun _ => 0)) := hD
  have hK : va_K G vwCl [(d0, .short), (d1, .int)] s := hK0.app hK1
  refine lv_astore_n (lv' := [(2, .ref o1), (1, .ref o0), (0, .ref b)]) hx hb dL_law_15 rfl hl (by decide) rfl (fun ls hl => ?_)
  refine lv_iconst (v := nI 0) hx hb dL_law_16 (by decide) ?_
  refine lv_istore_n (lv' := [(3, .int (nI 0)), (2, .ref o1), (1, .ref o0), (0, .ref b)]) hx hb dL_law_17 rfl hl (by decide) rfl (fun ls hl => ?_)
  refine W.widen (k := 4 + 2 * 0) (n := 98 + 96 * 0) (Nat.le_of_ble_eq_true rfl) (Nat.le_of_ble_eq_true rfl) ?_
  exact loop o0 r0 d0 o1 r1 d1 hK 49 0 (fun _ => 0) H locs ls (by omega) (by omega) (fun _ => (by decide : vp_nar .short 0 = 0)) hP hD hS (lv_sub hl [3, 2, 1, 0] rfl)
end
section
set_option maxHeartbeats 4000000 in
theorem lw_walk (l : Launch) (hflags : l.flags = flags0) (b : Addr) (xs : List Int32) : MetFree l x (headSpec (Jvm.Cond.code x code maxLocals ret :: tables_1) room_1) (lw_P b xs) (fun _ _ _ _ _ => True) lw_Q := by
  refine MetFree.of_bodyS (code := code) (maxLocals := maxLocals) (ret := ret) (by decide) ?_ ?_
  · intro args s m h hn
    obtain ⟨meth, c, h1, h2, h3, h4, h5, h6, -, -⟩ := Cond.code_spec hn (atoms_spec (ws := Jvm.Cond.code x code maxLocals ret :: tables_1) h _ List.mem_cons_self)
    exact ⟨meth, c, h1, h2, h3, h4, h5, h6⟩
  · intro p e s m args below meth c s₁ B hml0 hP _
    obtain ⟨rfl, hx, hbd, hgv⟩ := hP
    obtain ⟨scr, harrAt, hlist, hof, hsmall⟩ := hx
    obtain ⟨hcb, hkn, -, -⟩ := State.arrayAt?_spec harrAt
    have hown : s.vm.findClass R_law = some m.cls := findClass_of_methodNamed B.named
    have hts0 : ∀ c ∈ (Jvm.Cond.code x code maxLocals ret :: tables_1), c.before #[Value.ref b] s = true := atoms_spec (ws := Jvm.Cond.code x code maxLocals ret :: tables_1) B.pre
    have hts : ∀ w ∈ lw_tbl, w.before #[Value.ref b] s = true := k2_hts_sels lw_privs (fun w hw => hts0 w (List.mem_cons_of_mem _ hw)) lw_privs_ok
    have hml : c.maxLocals = 4 := B.maxLocals_eq (hts0 _ List.mem_cons_self)
    have X₀ : Stand p l e room_1 s m #[Value.ref b] below meth c s₁ [] 0 0 := Stand.of_body B
    have hh0 : s₁.heap = s.heap := by rw [B.state]; rfl
    have hsz : scr.slots.size = xs.length := by rw [← Array.length_toList, hlist, List.length_map]
    have hval : ∀ j : Nat, j < xs.length → scr.slots[j]? = some (.int (xs.getD j 0)) := fun j hj => by
      rw [← Array.getElem?_toList, hlist]
      simp [hj]
    have hbl : b < s.heap.size := (Array.getElem?_eq_some_iff.mp hcb).1
    have hX : va_X b xs.length (fun j => xs.getD j 0) s s.heap := ⟨scr, hcb, hof, hkn, hsz, hval⟩
    have K : W p l e room_1 s m #[Value.ref b] below meth c s₁.heap [] 0 0 (lw_Z below #[Value.ref b] s) (entryFrame m ([Value.ref b] : List Value).toArray 4) := by
      rw [hh0]
      exact whole_start l hflags hbd ⟨B.exec, B.bytes, B.returns, hml, hown, hts, hX, hbl, B.notSynchronized, hgv⟩
    obtain ⟨t, a1, o, b1, b2, b3⟩ := K s₁ rfl X₀
    exact ⟨t, o, a1, b1, b2, b3⟩
theorem lw_pre_spec {args : Array Value} {s : State} (h : (Jvm.Cond.and given_1 narrow_1).before args s = true) (hr : rest_1_c.before args s = true) : ∃ (b : Addr) (xs : List Int32), lw_P b xs args s := by
  have hs := flat_of_before _ h
  have hq := flat_of_before _ hr
  have hc : (Cond.count 1).before args s = true := hs _ (by decide +kernel)
  have harr : (Cond.arrayOf (.arg 0) .int).before args s = true := hs _ (by decide +kernel)
  have hle : (Cond.le (.length (.arg 0)) (.int 288)).before args s = true := hs _ (by decide +kernel)
  have hlen : (Cond.isInt (.length (.arg 0))).before args s = true := hq _ (by decide +kernel)
  have hall : (Cond.all (.arg 0) (.isInt (.elem (.arg 0) (.index 0)))).before args s = true := hq _ (by decide +kernel)
  obtain ⟨b, xs, hb, hx⟩ := State.ints_of_pre rfl harr hlen hall
  have hsm : xs.length < 2 ^ 31 := hx.choose_spec.2.2.2
  have hev : (Term.length (.arg 0)).eval args s none [] s = some (.int xs.length.toInt32) := hx.length_eval hb
  have hv := Cond.le_ints hev (show (Term.int 288).eval args s none [] s = some (.int 288) from rfl)
  have hd : xs.length.toInt32 ≤ 288 := by
    simpa [Cond.before, Cond.holds, hv] using hle
  have hN : xs.length ≤ 288 := (Int32.ofNat_le_ofNat hsm (by decide)).mp (show Int32.ofNat xs.length ≤ Int32.ofNat 288 from hd)
  exact ⟨b, xs, Cond.one_arg hc (show args[0]? = some (.ref b) from hb), hx, hN, h⟩
theorem lw_comes (l : Launch) (hflags : l.flags = flags0) : Comes l x (Jvm.Cond.code x code maxLocals ret :: tables_1) room_1 (fun tb e args s => Calls_1 tb e args s ∧ rest_1 tb e args s ∧ Pre_1 tb e args s)
    (fun _ _ args s o t => lw_Q args s o t) := by
  intro p e ha hc hk s m args below hf hfit hheap happ hpre
  obtain ⟨b, xs, hP⟩ := lw_pre_spec hpre.2.2 hpre.2.1
  obtain ⟨k, o, h1, h2, h3, hQ⟩ := lw_walk l hflags b xs p e ha hc hk s m args below hf ((Spec.applies_iff_loose hf).mp happ).1 hP trivial
  exact ⟨k, o, h1, h2, h3, hQ⟩
theorem lw_frame {s t : State} {o : Outcome} {args : Array Value} (h : Framed s o t [] 600000 7302250) :
    Framed s o t (fieldLocs frame_1_writes args s ++ arrayLocs frame_1_arrays args s ++ staticLocs frame_1_statics s) 600000 7302250 := h
theorem lw_limb (L : Cond) (hL : ∀ (args : Array Value) (s t : State), L.after args s (.returned (some (.int 1))) t = true) :
    ArmFor flags0 classFile x code maxLocals ret World_1 tables_1 room_1 Calls_1 rest_1 Pre_1
      (fun tb e a s o t => postC L tb e a s o t ∧ Framed s o t (fieldLocs frame_1_writes a s ++ arrayLocs frame_1_arrays a s ++ staticLocs frame_1_statics s) 600000 7302250) := by
  intro l hflags _ _ p e ha hc hk s m args below hf hfit hheap happ hpre
  obtain ⟨k, o, h1, h2, h3, rfl, hF⟩ := lw_comes l hflags p e ha hc hk s m args below hf hfit hheap happ hpre
  exact ⟨k, _, h1, h2, h3, hL args s _, lw_frame hF⟩
theorem i_vc : Claimed_1_1 ∧ Claimed_1_2 := ⟨lw_limb limb_1_1 (fun args s t => by simp [limb_1_1, Cond.after, Cond.holds, Cond.value]), lw_limb limb_1_2 (fun args s t => Cond.after_iff.mpr (by
  first | (rw [show limb_1_2 = Cond.eq .result (.int 1) from rfl, Cond.eq_ints (x := 1) (y := 1) rfl rfl]; simp; done) | (simp [limb_1_2, Cond.value, Term.eval]; done)))⟩
end
