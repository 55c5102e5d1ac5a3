section
-- ===== PART A: goes FIRST, ahead of the names: the tables' words, and 'selects' of the private methods out of them =====
/-- a private method of a class that the tables say can be made, by its rows of tables_1 -/
def lw_okq (q : MethodName × Nat) : Prop := (q.1.cls ≠ "java/lang/invoke/MethodHandle" ∧ q.1.cls ≠ "java/lang/invoke/VarHandle") ∧ Cond.instantiable q.1.cls q.2 ∈ tables_1 ∧ Cond.privateMethod q.1 ∈ tables_1 ∧ Cond.instanceMethod q.1 ∈ tables_1
set_option maxRecDepth 100000
theorem lw_p0 : lw_okq (⟨"SwapSortDesk", "from", "(I)I"⟩, 3) := ⟨⟨by decide +kernel, by decide +kernel⟩, List.mem_of_getElem? (i := 6) rfl, List.mem_of_getElem? (i := 50) rfl, List.mem_of_getElem? (i := 51) rfl⟩
theorem lw_p1 : lw_okq (⟨"SwapSortDesk", "to", "(II)I"⟩, 3) := ⟨⟨by decide +kernel, by decide +kernel⟩, List.mem_of_getElem? (i := 6) rfl, List.mem_of_getElem? (i := 54) rfl, List.mem_of_getElem? (i := 55) rfl⟩
def lw_privs_1 : List (MethodName × Nat) := [(⟨"SwapSortDesk", "from", "(I)I"⟩, 3), (⟨"SwapSortDesk", "to", "(II)I"⟩, 3)]
theorem lw_r1 : ∀ q ∈ lw_privs_1, lw_okq q := List.forall_mem_cons.mpr ⟨lw_p0, List.forall_mem_cons.mpr ⟨lw_p1, fun _ h => absurd h List.not_mem_nil⟩⟩
def lw_privs : List (MethodName × Nat) := lw_privs_1
def lw_tbl : List Cond := k2_sels lw_privs ++ tables_1
theorem lw_privs_ok : ∀ q ∈ lw_privs, lw_okq q := lw_r1
-- ===== ONE list of words for every method: the tables' words that hold all through a run =====
def lw_all : List Cond := lw_tbl.filter goodWord
/-- a word of the tables by its place: claim/WORDS.tsv -/
theorem lw_w {w : Cond} (i : Nat) (h : lw_tbl[i]? = some w) (g : goodWord w = true) : w ∈ lw_all := List.mem_filter.mpr ⟨List.mem_of_getElem? h, g⟩
theorem lw_all_tbl {w : Cond} (h : w ∈ lw_all) : w ∈ lw_tbl := (List.mem_filter.mp h).1
theorem lw_self : GoodIn lw_all lw_all := fun w h => ⟨h, good_of_word (List.mem_filter.mp h).2⟩
/-- a class's field words, by their places -/
theorem lw_in (ws : List Cond) (ps : List Nat) (hp : ws = ps.filterMap (fun i => lw_tbl[i]?)) (hg : ws.all goodWord = true) : ∀ w ∈ ws, w ∈ lw_all := by
  intro w h
  have h1 := List.all_eq_true.mp hg w h
  rw [hp] at h
  obtain ⟨i, -, hi⟩ := List.mem_filterMap.mp h
  exact lw_w i hi h1
/-- the words of a contract for the method y with code b, L locals, answer r -/
abbrev ws_ (y : MethodName) (b : ByteArray) (L : Nat) (r : Option FieldType) : List Cond := Cond.code y b L r :: lw_all
theorem lw_meth {y : MethodName} {b : ByteArray} {L : Nat} {r : Option FieldType} (h : Cond.code y b L r ∈ lw_all) : GoodIn lw_all (ws_ y b L r) := by
  intro w hw
  rcases List.mem_cons.mp hw with e | e
  · rw [e]
    exact lw_self _ h
  · exact lw_self _ e
theorem lw_app {a c : List Cond} (ha : ∀ w ∈ a, w ∈ lw_all) (hc : GoodIn lw_all c) : GoodIn lw_all (a ++ c) := by
  intro w hw
  rcases List.mem_append.mp hw with e | e
  · exact lw_self w (ha w e)
  · exact hc w e
/-- what a call through an object asks: cwV n hts (lw_V ..) -/
theorem lw_V {own : String} {idx : Nat} {C : String} {y : MethodName} {b : ByteArray} {L : Nat} {r : Option FieldType} (h1 : Cond.methodLink own idx y ∈ lw_all) (h2 : Cond.instanceMethod y ∈ lw_all) (h3 : Cond.selects C y y ∈ lw_all) (h4 : Cond.initialized C ∈ lw_all) (h5 : Cond.code y b L r ∈ lw_all) : GoodIn lw_all (wsV own idx C y (ws_ y b L r)) := by
  refine lw_app ?_ (lw_meth h5)
  intro w hw
  simp only [List.mem_cons, List.not_mem_nil, or_false] at hw
  rcases hw with e | e | e | e
  · rw [e]; exact h1
  · rw [e]; exact h2
  · rw [e]; exact h3
  · rw [e]; exact h4
/-- what a static call asks: va_cwS n hts (lw_S ..) -/
theorem lw_S {own : String} {idx : Nat} {y : MethodName} {b : ByteArray} {L : Nat} {r : Option FieldType} (h1 : Cond.methodLink own idx y ∈ lw_all) (h2 : Cond.static y ∈ lw_all) (h3 : Cond.initialized y.cls ∈ lw_all) (h4 : Cond.code y b L r ∈ lw_all) : GoodIn lw_all (va_wsS own idx y (ws_ y b L r)) := by
  refine lw_app ?_ (lw_meth h4)
  intro w hw
  simp only [List.mem_cons, List.not_mem_nil, or_false] at hw
  rcases hw with e | e | e
  · rw [e]; exact h1
  · rw [e]; exact h2
  · rw [e]; exact h3
/-- the words of a contract for a method WITH HANDLERS (hh: its table) -/
abbrev wsW_ (y : MethodName) (b : ByteArray) (L : Nat) (r : Option FieldType) (hh : List (Nat × Nat × Nat × Nat)) : List Cond := Cond.codeWith y b L r hh :: lw_all
theorem lw_methW {y : MethodName} {b : ByteArray} {L : Nat} {r : Option FieldType} {hh : List (Nat × Nat × Nat × Nat)} (h : Cond.codeWith y b L r hh ∈ lw_all) : GoodIn lw_all (wsW_ y b L r hh) := by
  intro w hw
  rcases List.mem_cons.mp hw with e | e
  · rw [e]
    exact lw_self _ h
  · exact lw_self _ e
/-- any list of words by their places (lw_in), good -/
theorem lw_good {ws : List Cond} (h : ∀ w ∈ ws, w ∈ lw_all) : GoodIn lw_all ws := fun w hw => lw_self w (h w hw)
/-- what a call of a method with handlers asks: vx_cwVW n hts (lw_VW ..), vx_cwSW n hts (lw_SW ..) -/
theorem lw_VW {own : String} {idx : Nat} {C : String} {y : MethodName} {b : ByteArray} {L : Nat} {r : Option FieldType} {hh : List (Nat × Nat × Nat × Nat)} (h1 : Cond.methodLink own idx y ∈ lw_all) (h2 : Cond.instanceMethod y ∈ lw_all) (h3 : Cond.selects C y y ∈ lw_all) (h4 : Cond.initialized C ∈ lw_all) (h5 : Cond.codeWith y b L r hh ∈ lw_all) : GoodIn lw_all (wsV own idx C y (wsW_ y b L r hh)) := by
  refine lw_app ?_ (lw_methW h5)
  intro w hw
  simp only [List.mem_cons, List.not_mem_nil, or_false] at hw
  rcases hw with e | e | e | e
  · rw [e]; exact h1
  · rw [e]; exact h2
  · rw [e]; exact h3
  · rw [e]; exact h4
theorem lw_SW {own : String} {idx : Nat} {y : MethodName} {b : ByteArray} {L : Nat} {r : Option FieldType} {hh : List (Nat × Nat × Nat × Nat)} (h1 : Cond.methodLink own idx y ∈ lw_all) (h2 : Cond.static y ∈ lw_all) (h3 : Cond.initialized y.cls ∈ lw_all) (h4 : Cond.codeWith y b L r hh ∈ lw_all) : GoodIn lw_all (va_wsS own idx y (wsW_ y b L r hh)) := by
  refine lw_app ?_ (lw_methW h4)
  intro w hw
  simp only [List.mem_cons, List.not_mem_nil, or_false] at hw
  rcases hw with e | e | e
  · rw [e]; exact h1
  · rw [e]; exact h2
  · rw [e]; exact h3
/-- a word by its place in its run of the tables -/
theorem lw_at {r : List Cond} (hr : ∀ w ∈ r, w ∈ lw_tbl) {w : Cond} (i : Nat) (h : r[i]? = some w) : w ∈ lw_tbl := hr w (List.mem_of_getElem? h)
theorem lw_g {w : Cond} (h : w ∈ lw_tbl) (g : goodWord w = true) : w ∈ lw_all := List.mem_filter.mpr ⟨h, g⟩
theorem lw_ms : ∀ w ∈ k2_sels lw_privs, w ∈ lw_tbl := fun w h => show w ∈ k2_sels lw_privs ++ tables_1 from List.mem_append_left _ h
theorem lw_m0 : ∀ w ∈ tables_1, w ∈ lw_tbl := fun w h => show w ∈ k2_sels lw_privs ++ tables_1 from List.mem_append_right (k2_sels lw_privs) h
theorem qs0 : (Cond.selects "SwapSortDesk" ⟨"SwapSortDesk", "from", "(I)I"⟩ ⟨"SwapSortDesk", "from", "(I)I"⟩) ∈ lw_all := lw_g (lw_at lw_ms 0 rfl) rfl
theorem qs1 : (Cond.selects "SwapSortDesk" ⟨"SwapSortDesk", "to", "(II)I"⟩ ⟨"SwapSortDesk", "to", "(II)I"⟩) ∈ lw_all := lw_g (lw_at lw_ms 1 rfl) rfl
end
section
/-! DECODE ROWS BY BYTES: one lemma an opcode; a method's code is cut into short pieces once, and a row reads its own piece alone. -/
set_option maxRecDepth 100000
/-- the code has just these bytes from pc on -/
def DkAt (code : ByteArray) (pc : Nat) (bs : List UInt8) : Prop := ∀ (j : Nat) (b : UInt8), bs[j]? = some b → code.data.toList[pc + j]? = some b
/-- the piece W has the bytes bs from its place j on -/
def dkIn (W : List UInt8) (j : Nat) (bs : List UInt8) : Bool := decide ((W.drop j).take bs.length = bs)
theorem dk_seg {l W T : List UInt8} {o o2 : Nat} (h : l.drop o = W ++ T) (n : Nat) (hn : W.length = n) (ho : o + n = o2) : l.drop o2 = T := by
  subst ho
  rw [← List.drop_drop, h, List.drop_left' hn]
theorem dk_at {code : ByteArray} {W T bs : List UInt8} {o pc : Nat} (h : code.data.toList.drop o = W ++ T) (j : Nat) (hp : o + j = pc) (hw : dkIn W j bs = true) : DkAt code pc bs := by
  subst hp
  intro i b e
  have h1 := of_decide_eq_true hw
  have h2 : i < bs.length := (List.getElem?_eq_some_iff.mp e).1
  have h3 : W[j + i]? = some b := by
    rw [← h1, List.getElem?_take, if_pos h2, List.getElem?_drop] at e
    exact e
  have h4 : j + i < W.length := (List.getElem?_eq_some_iff.mp h3).1
  have h5 : (code.data.toList.drop o)[j + i]? = some b := by
    rw [h, List.getElem?_append_left h4]
    exact h3
  rw [List.getElem?_drop, ← Nat.add_assoc] at h5
  exact h5
theorem dk_u1 {A : ByteArray} {p : Nat} {b : UInt8} (h : A.data.toList[p]? = some b) : (Reader.u1 : Reader DecodeError Nat) A p = .ok (b.toNat, p + 1) := by
  obtain ⟨h1, h2⟩ := List.getElem?_eq_some_iff.mp h
  have h3 : p < A.size := by simpa using h1
  have h4 : A[p]'h3 = b := h2
  have e : (Reader.u1 : Reader DecodeError Nat) A p = (if h : p < A.size then .ok (A[p].toNat, p + 1) else .error (HasTruncated.truncated p)) := by
    show (do if h : p < A.size then do set (p + 1); Pure.pure A[p].toNat else MonadExcept.throw (HasTruncated.truncated p) : Reader DecodeError Nat) A p = _
    by_cases hi : p < A.size
    · rw [dif_pos hi, dif_pos hi]; rfl
    · rw [dif_neg hi, dif_neg hi]; rfl
  rw [e, dif_pos h3, h4]
theorem dk_bind {α β : Type} {r : Reader DecodeError α} {f : α → Reader DecodeError β} {A : ByteArray} {p s : Nat} {a : α} (h : r A p = .ok (a, s)) : (r >>= f) A p = f a A s := by
  show (do let (a, s) ← r A p; f a A s : Except DecodeError (β × Nat)) = _
  rw [h]
  rfl
theorem dk_map {α β : Type} {r : Reader DecodeError α} {g : α → β} {A : ByteArray} {p s : Nat} {a : α} (h : r A p = .ok (a, s)) : (g <$> r) A p = .ok (g a, s) := by
  show (do let (a, s) ← r A p; .ok (g a, s) : Except DecodeError (β × Nat)) = _
  rw [h]
  rfl
theorem dk_u2 {A : ByteArray} {p : Nat} {a b : UInt8} (h : A.data.toList[p]? = some a) (h2 : A.data.toList[p + 1]? = some b) : (Reader.u2 : Reader DecodeError Nat) A p = .ok (a.toNat * 256 + b.toNat, p + 2) := by
  show (Reader.u1 >>= fun hi => Reader.u1 >>= fun lo => Pure.pure (hi * 256 + lo) : Reader DecodeError Nat) A p = _
  rw [dk_bind (dk_u1 h), dk_bind (dk_u1 h2)]
  rfl
theorem dk_of {code : ByteArray} {pc n : Nat} {i : Instr} (h : Decoder.instr pc code pc = .ok (i, pc + n)) : decode code pc = .ok (i, n) := by
  have e : decode code pc = (match Decoder.instr pc code pc with | .error x => .error x | .ok (j, s) => .ok (j, s - pc)) := by
    show (do let (j, s) ← Decoder.instr pc code pc; Pure.pure (j, s - pc) : Except DecodeError (Instr × Nat)) = _
    cases Decoder.instr pc code pc <;> rfl
  rw [e, h]
  show Except.ok (i, pc + n - pc) = _
  rw [Nat.add_sub_cancel_left]
theorem dk_2 {code : ByteArray} {pc : Nat} (h : DkAt code pc [2]) : decode code pc = .ok (.iconst (-1), 1) := dk_of ((dk_bind (dk_u1 (h 0 _ rfl))).trans rfl)
theorem dk_3 {code : ByteArray} {pc : Nat} (h : DkAt code pc [3]) : decode code pc = .ok (.iconst 0, 1) := dk_of ((dk_bind (dk_u1 (h 0 _ rfl))).trans rfl)
theorem dk_4 {code : ByteArray} {pc : Nat} (h : DkAt code pc [4]) : decode code pc = .ok (.iconst 1, 1) := dk_of ((dk_bind (dk_u1 (h 0 _ rfl))).trans rfl)
theorem dk_5 {code : ByteArray} {pc : Nat} (h : DkAt code pc [5]) : decode code pc = .ok (.iconst 2, 1) := dk_of ((dk_bind (dk_u1 (h 0 _ rfl))).trans rfl)
theorem dk_6 {code : ByteArray} {pc : Nat} (h : DkAt code pc [6]) : decode code pc = .ok (.iconst 3, 1) := dk_of ((dk_bind (dk_u1 (h 0 _ rfl))).trans rfl)
theorem dk_16 {code : ByteArray} {pc : Nat} (a : UInt8) (h : DkAt code pc [16, a]) : decode code pc = .ok (.bipush (Reader.signed 8 a.toNat), 2) := dk_of ((dk_bind (dk_u1 (h 0 _ rfl))).trans ((dk_bind (dk_map (dk_u1 (h 1 _ rfl)))).trans rfl))
theorem dk_17 {code : ByteArray} {pc : Nat} (a b : UInt8) (h : DkAt code pc [17, a, b]) : decode code pc = .ok (.sipush (Reader.signed 16 (a.toNat * 256 + b.toNat)), 3) := dk_of ((dk_bind (dk_u1 (h 0 _ rfl))).trans ((dk_bind (dk_map (dk_u2 (h 1 _ rfl) (h 2 _ rfl)))).trans rfl))
theorem dk_18 {code : ByteArray} {pc : Nat} (a : UInt8) (h : DkAt code pc [18, a]) : decode code pc = .ok (.ldc a.toNat, 2) := dk_of ((dk_bind (dk_u1 (h 0 _ rfl))).trans ((dk_bind (dk_u1 (h 1 _ rfl))).trans rfl))
theorem dk_21 {code : ByteArray} {pc : Nat} (a : UInt8) (h : DkAt code pc [21, a]) : decode code pc = .ok (.iload a.toNat, 2) := dk_of ((dk_bind (dk_u1 (h 0 _ rfl))).trans ((dk_bind (dk_u1 (h 1 _ rfl))).trans rfl))
theorem dk_25 {code : ByteArray} {pc : Nat} (a : UInt8) (h : DkAt code pc [25, a]) : decode code pc = .ok (.aload a.toNat, 2) := dk_of ((dk_bind (dk_u1 (h 0 _ rfl))).trans ((dk_bind (dk_u1 (h 1 _ rfl))).trans rfl))
theorem dk_26 {code : ByteArray} {pc : Nat} (h : DkAt code pc [26]) : decode code pc = .ok (.iload_n 0, 1) := dk_of ((dk_bind (dk_u1 (h 0 _ rfl))).trans rfl)
theorem dk_27 {code : ByteArray} {pc : Nat} (h : DkAt code pc [27]) : decode code pc = .ok (.iload_n 1, 1) := dk_of ((dk_bind (dk_u1 (h 0 _ rfl))).trans rfl)
theorem dk_28 {code : ByteArray} {pc : Nat} (h : DkAt code pc [28]) : decode code pc = .ok (.iload_n 2, 1) := dk_of ((dk_bind (dk_u1 (h 0 _ rfl))).trans rfl)
theorem dk_29 {code : ByteArray} {pc : Nat} (h : DkAt code pc [29]) : decode code pc = .ok (.iload_n 3, 1) := dk_of ((dk_bind (dk_u1 (h 0 _ rfl))).trans rfl)
theorem dk_42 {code : ByteArray} {pc : Nat} (h : DkAt code pc [42]) : decode code pc = .ok (.aload_n 0, 1) := dk_of ((dk_bind (dk_u1 (h 0 _ rfl))).trans rfl)
theorem dk_43 {code : ByteArray} {pc : Nat} (h : DkAt code pc [43]) : decode code pc = .ok (.aload_n 1, 1) := dk_of ((dk_bind (dk_u1 (h 0 _ rfl))).trans rfl)
theorem dk_44 {code : ByteArray} {pc : Nat} (h : DkAt code pc [44]) : decode code pc = .ok (.aload_n 2, 1) := dk_of ((dk_bind (dk_u1 (h 0 _ rfl))).trans rfl)
theorem dk_45 {code : ByteArray} {pc : Nat} (h : DkAt code pc [45]) : decode code pc = .ok (.aload_n 3, 1) := dk_of ((dk_bind (dk_u1 (h 0 _ rfl))).trans rfl)
theorem dk_46 {code : ByteArray} {pc : Nat} (h : DkAt code pc [46]) : decode code pc = .ok (.iaload, 1) := dk_of ((dk_bind (dk_u1 (h 0 _ rfl))).trans rfl)
theorem dk_54 {code : ByteArray} {pc : Nat} (a : UInt8) (h : DkAt code pc [54, a]) : decode code pc = .ok (.istore a.toNat, 2) := dk_of ((dk_bind (dk_u1 (h 0 _ rfl))).trans ((dk_bind (dk_u1 (h 1 _ rfl))).trans rfl))
theorem dk_58 {code : ByteArray} {pc : Nat} (a : UInt8) (h : DkAt code pc [58, a]) : decode code pc = .ok (.astore a.toNat, 2) := dk_of ((dk_bind (dk_u1 (h 0 _ rfl))).trans ((dk_bind (dk_u1 (h 1 _ rfl))).trans rfl))
theorem dk_59 {code : ByteArray} {pc : Nat} (h : DkAt code pc [59]) : decode code pc = .ok (.istore_n 0, 1) := dk_of ((dk_bind (dk_u1 (h 0 _ rfl))).trans rfl)
theorem dk_60 {code : ByteArray} {pc : Nat} (h : DkAt code pc [60]) : decode code pc = .ok (.istore_n 1, 1) := dk_of ((dk_bind (dk_u1 (h 0 _ rfl))).trans rfl)
theorem dk_62 {code : ByteArray} {pc : Nat} (h : DkAt code pc [62]) : decode code pc = .ok (.istore_n 3, 1) := dk_of ((dk_bind (dk_u1 (h 0 _ rfl))).trans rfl)
theorem dk_76 {code : ByteArray} {pc : Nat} (h : DkAt code pc [76]) : decode code pc = .ok (.astore_n 1, 1) := dk_of ((dk_bind (dk_u1 (h 0 _ rfl))).trans rfl)
theorem dk_77 {code : ByteArray} {pc : Nat} (h : DkAt code pc [77]) : decode code pc = .ok (.astore_n 2, 1) := dk_of ((dk_bind (dk_u1 (h 0 _ rfl))).trans rfl)
theorem dk_78 {code : ByteArray} {pc : Nat} (h : DkAt code pc [78]) : decode code pc = .ok (.astore_n 3, 1) := dk_of ((dk_bind (dk_u1 (h 0 _ rfl))).trans rfl)
theorem dk_79 {code : ByteArray} {pc : Nat} (h : DkAt code pc [79]) : decode code pc = .ok (.iastore, 1) := dk_of ((dk_bind (dk_u1 (h 0 _ rfl))).trans rfl)
theorem dk_89 {code : ByteArray} {pc : Nat} (h : DkAt code pc [89]) : decode code pc = .ok (.dup, 1) := dk_of ((dk_bind (dk_u1 (h 0 _ rfl))).trans rfl)
theorem dk_96 {code : ByteArray} {pc : Nat} (h : DkAt code pc [96]) : decode code pc = .ok (.iadd, 1) := dk_of ((dk_bind (dk_u1 (h 0 _ rfl))).trans rfl)
theorem dk_100 {code : ByteArray} {pc : Nat} (h : DkAt code pc [100]) : decode code pc = .ok (.isub, 1) := dk_of ((dk_bind (dk_u1 (h 0 _ rfl))).trans rfl)
theorem dk_104 {code : ByteArray} {pc : Nat} (h : DkAt code pc [104]) : decode code pc = .ok (.imul, 1) := dk_of ((dk_bind (dk_u1 (h 0 _ rfl))).trans rfl)
theorem dk_108 {code : ByteArray} {pc : Nat} (h : DkAt code pc [108]) : decode code pc = .ok (.idiv, 1) := dk_of ((dk_bind (dk_u1 (h 0 _ rfl))).trans rfl)
theorem dk_112 {code : ByteArray} {pc : Nat} (h : DkAt code pc [112]) : decode code pc = .ok (.irem, 1) := dk_of ((dk_bind (dk_u1 (h 0 _ rfl))).trans rfl)
theorem dk_122 {code : ByteArray} {pc : Nat} (h : DkAt code pc [122]) : decode code pc = .ok (.ishr, 1) := dk_of ((dk_bind (dk_u1 (h 0 _ rfl))).trans rfl)
theorem dk_124 {code : ByteArray} {pc : Nat} (h : DkAt code pc [124]) : decode code pc = .ok (.iushr, 1) := dk_of ((dk_bind (dk_u1 (h 0 _ rfl))).trans rfl)
theorem dk_126 {code : ByteArray} {pc : Nat} (h : DkAt code pc [126]) : decode code pc = .ok (.iand, 1) := dk_of ((dk_bind (dk_u1 (h 0 _ rfl))).trans rfl)
theorem dk_132 {code : ByteArray} {pc : Nat} (a b : UInt8) (h : DkAt code pc [132, a, b]) : decode code pc = .ok (.iinc a.toNat (Reader.signed 8 b.toNat), 3) := dk_of ((dk_bind (dk_u1 (h 0 _ rfl))).trans ((dk_bind (dk_u1 (h 1 _ rfl))).trans ((dk_bind (dk_map (dk_u1 (h 2 _ rfl)))).trans rfl)))
theorem dk_153 {code : ByteArray} {pc : Nat} (a b : UInt8) (h : DkAt code pc [153, a, b]) : decode code pc = .ok (.ifCond .eq (Reader.signed 16 (a.toNat * 256 + b.toNat)), 3) := dk_of ((dk_bind (dk_u1 (h 0 _ rfl))).trans ((dk_bind (dk_map (dk_u2 (h 1 _ rfl) (h 2 _ rfl)))).trans rfl))
theorem dk_154 {code : ByteArray} {pc : Nat} (a b : UInt8) (h : DkAt code pc [154, a, b]) : decode code pc = .ok (.ifCond .ne (Reader.signed 16 (a.toNat * 256 + b.toNat)), 3) := dk_of ((dk_bind (dk_u1 (h 0 _ rfl))).trans ((dk_bind (dk_map (dk_u2 (h 1 _ rfl) (h 2 _ rfl)))).trans rfl))
theorem dk_155 {code : ByteArray} {pc : Nat} (a b : UInt8) (h : DkAt code pc [155, a, b]) : decode code pc = .ok (.ifCond .lt (Reader.signed 16 (a.toNat * 256 + b.toNat)), 3) := dk_of ((dk_bind (dk_u1 (h 0 _ rfl))).trans ((dk_bind (dk_map (dk_u2 (h 1 _ rfl) (h 2 _ rfl)))).trans rfl))
theorem dk_156 {code : ByteArray} {pc : Nat} (a b : UInt8) (h : DkAt code pc [156, a, b]) : decode code pc = .ok (.ifCond .ge (Reader.signed 16 (a.toNat * 256 + b.toNat)), 3) := dk_of ((dk_bind (dk_u1 (h 0 _ rfl))).trans ((dk_bind (dk_map (dk_u2 (h 1 _ rfl) (h 2 _ rfl)))).trans rfl))
theorem dk_157 {code : ByteArray} {pc : Nat} (a b : UInt8) (h : DkAt code pc [157, a, b]) : decode code pc = .ok (.ifCond .gt (Reader.signed 16 (a.toNat * 256 + b.toNat)), 3) := dk_of ((dk_bind (dk_u1 (h 0 _ rfl))).trans ((dk_bind (dk_map (dk_u2 (h 1 _ rfl) (h 2 _ rfl)))).trans rfl))
theorem dk_158 {code : ByteArray} {pc : Nat} (a b : UInt8) (h : DkAt code pc [158, a, b]) : decode code pc = .ok (.ifCond .le (Reader.signed 16 (a.toNat * 256 + b.toNat)), 3) := dk_of ((dk_bind (dk_u1 (h 0 _ rfl))).trans ((dk_bind (dk_map (dk_u2 (h 1 _ rfl) (h 2 _ rfl)))).trans rfl))
theorem dk_159 {code : ByteArray} {pc : Nat} (a b : UInt8) (h : DkAt code pc [159, a, b]) : decode code pc = .ok (.if_icmp .eq (Reader.signed 16 (a.toNat * 256 + b.toNat)), 3) := dk_of ((dk_bind (dk_u1 (h 0 _ rfl))).trans ((dk_bind (dk_map (dk_u2 (h 1 _ rfl) (h 2 _ rfl)))).trans rfl))
theorem dk_160 {code : ByteArray} {pc : Nat} (a b : UInt8) (h : DkAt code pc [160, a, b]) : decode code pc = .ok (.if_icmp .ne (Reader.signed 16 (a.toNat * 256 + b.toNat)), 3) := dk_of ((dk_bind (dk_u1 (h 0 _ rfl))).trans ((dk_bind (dk_map (dk_u2 (h 1 _ rfl) (h 2 _ rfl)))).trans rfl))
theorem dk_161 {code : ByteArray} {pc : Nat} (a b : UInt8) (h : DkAt code pc [161, a, b]) : decode code pc = .ok (.if_icmp .lt (Reader.signed 16 (a.toNat * 256 + b.toNat)), 3) := dk_of ((dk_bind (dk_u1 (h 0 _ rfl))).trans ((dk_bind (dk_map (dk_u2 (h 1 _ rfl) (h 2 _ rfl)))).trans rfl))
theorem dk_162 {code : ByteArray} {pc : Nat} (a b : UInt8) (h : DkAt code pc [162, a, b]) : decode code pc = .ok (.if_icmp .ge (Reader.signed 16 (a.toNat * 256 + b.toNat)), 3) := dk_of ((dk_bind (dk_u1 (h 0 _ rfl))).trans ((dk_bind (dk_map (dk_u2 (h 1 _ rfl) (h 2 _ rfl)))).trans rfl))
theorem dk_163 {code : ByteArray} {pc : Nat} (a b : UInt8) (h : DkAt code pc [163, a, b]) : decode code pc = .ok (.if_icmp .gt (Reader.signed 16 (a.toNat * 256 + b.toNat)), 3) := dk_of ((dk_bind (dk_u1 (h 0 _ rfl))).trans ((dk_bind (dk_map (dk_u2 (h 1 _ rfl) (h 2 _ rfl)))).trans rfl))
theorem dk_164 {code : ByteArray} {pc : Nat} (a b : UInt8) (h : DkAt code pc [164, a, b]) : decode code pc = .ok (.if_icmp .le (Reader.signed 16 (a.toNat * 256 + b.toNat)), 3) := dk_of ((dk_bind (dk_u1 (h 0 _ rfl))).trans ((dk_bind (dk_map (dk_u2 (h 1 _ rfl) (h 2 _ rfl)))).trans rfl))
theorem dk_167 {code : ByteArray} {pc : Nat} (a b : UInt8) (h : DkAt code pc [167, a, b]) : decode code pc = .ok (.goto (Reader.signed 16 (a.toNat * 256 + b.toNat)), 3) := dk_of ((dk_bind (dk_u1 (h 0 _ rfl))).trans ((dk_bind (dk_map (dk_u2 (h 1 _ rfl) (h 2 _ rfl)))).trans rfl))
theorem dk_172 {code : ByteArray} {pc : Nat} (h : DkAt code pc [172]) : decode code pc = .ok (.ireturn, 1) := dk_of ((dk_bind (dk_u1 (h 0 _ rfl))).trans rfl)
theorem dk_177 {code : ByteArray} {pc : Nat} (h : DkAt code pc [177]) : decode code pc = .ok (.return_, 1) := dk_of ((dk_bind (dk_u1 (h 0 _ rfl))).trans rfl)
theorem dk_180 {code : ByteArray} {pc : Nat} (a b : UInt8) (h : DkAt code pc [180, a, b]) : decode code pc = .ok (.getfield (a.toNat * 256 + b.toNat), 3) := dk_of ((dk_bind (dk_u1 (h 0 _ rfl))).trans ((dk_bind (dk_u2 (h 1 _ rfl) (h 2 _ rfl))).trans rfl))
theorem dk_181 {code : ByteArray} {pc : Nat} (a b : UInt8) (h : DkAt code pc [181, a, b]) : decode code pc = .ok (.putfield (a.toNat * 256 + b.toNat), 3) := dk_of ((dk_bind (dk_u1 (h 0 _ rfl))).trans ((dk_bind (dk_u2 (h 1 _ rfl) (h 2 _ rfl))).trans rfl))
theorem dk_182 {code : ByteArray} {pc : Nat} (a b : UInt8) (h : DkAt code pc [182, a, b]) : decode code pc = .ok (.invokevirtual (a.toNat * 256 + b.toNat), 3) := dk_of ((dk_bind (dk_u1 (h 0 _ rfl))).trans ((dk_bind (dk_u2 (h 1 _ rfl) (h 2 _ rfl))).trans rfl))
theorem dk_183 {code : ByteArray} {pc : Nat} (a b : UInt8) (h : DkAt code pc [183, a, b]) : decode code pc = .ok (.invokespecial (a.toNat * 256 + b.toNat), 3) := dk_of ((dk_bind (dk_u1 (h 0 _ rfl))).trans ((dk_bind (dk_u2 (h 1 _ rfl) (h 2 _ rfl))).trans rfl))
theorem dk_184 {code : ByteArray} {pc : Nat} (a b : UInt8) (h : DkAt code pc [184, a, b]) : decode code pc = .ok (.invokestatic (a.toNat * 256 + b.toNat), 3) := dk_of ((dk_bind (dk_u1 (h 0 _ rfl))).trans ((dk_bind (dk_u2 (h 1 _ rfl) (h 2 _ rfl))).trans rfl))
theorem dk_187 {code : ByteArray} {pc : Nat} (a b : UInt8) (h : DkAt code pc [187, a, b]) : decode code pc = .ok (.new (a.toNat * 256 + b.toNat), 3) := dk_of ((dk_bind (dk_u1 (h 0 _ rfl))).trans ((dk_bind (dk_u2 (h 1 _ rfl) (h 2 _ rfl))).trans rfl))
theorem dk_188_10 {code : ByteArray} {pc : Nat} (h : DkAt code pc [188, 10]) : decode code pc = .ok (.newarray .int, 2) := dk_of ((dk_bind (dk_u1 (h 0 _ rfl))).trans ((dk_bind (dk_u1 (h 1 _ rfl))).trans rfl))
theorem dk_190 {code : ByteArray} {pc : Nat} (h : DkAt code pc [190]) : decode code pc = .ok (.arraylength, 1) := dk_of ((dk_bind (dk_u1 (h 0 _ rfl))).trans rfl)
/-! java/lang/Math -/
set_option maxRecDepth 100000
def RJ0 : String := "java/lang/Math"
abbrev cJ0_min : ByteArray := prog_7_method_69_code
def yJ0_min : MethodName := ⟨RJ0, "min", "(II)I"⟩
def dkwJ0_min_0 : List UInt8 := [26, 27, 163, 0, 7, 26, 167, 0, 4, 27, 172]
abbrev dktJ0_min_0 : List UInt8 := dkwJ0_min_0 ++ []
theorem dksJ0_min_0 : cJ0_min.data.toList.drop 0 = dktJ0_min_0 := by decide +kernel
theorem dJ0_min_0 : decode cJ0_min 0 = .ok (.iload_n 0, 1) := dk_26 (dk_at dksJ0_min_0 0 rfl rfl)
theorem dJ0_min_1 : decode cJ0_min 1 = .ok (.iload_n 1, 1) := dk_27 (dk_at dksJ0_min_0 1 rfl rfl)
theorem dJ0_min_2 : decode cJ0_min 2 = .ok (.if_icmp .gt 7, 3) := dk_163 0 7 (dk_at dksJ0_min_0 2 rfl rfl)
theorem dJ0_min_5 : decode cJ0_min 5 = .ok (.iload_n 0, 1) := dk_26 (dk_at dksJ0_min_0 5 rfl rfl)
theorem dJ0_min_6 : decode cJ0_min 6 = .ok (.goto 4, 3) := dk_167 0 4 (dk_at dksJ0_min_0 6 rfl rfl)
theorem dJ0_min_9 : decode cJ0_min 9 = .ok (.iload_n 1, 1) := dk_27 (dk_at dksJ0_min_0 9 rfl rfl)
theorem dJ0_min_10 : decode cJ0_min 10 = .ok (.ireturn, 1) := dk_172 (dk_at dksJ0_min_0 10 rfl rfl)
theorem q6 : (Jvm.Cond.initialized "java/lang/Math") ∈ lw_all := lw_g (lw_at lw_m0 4 rfl) rfl
theorem q86 : (Jvm.Cond.static ({ cls := "java/lang/Math", name := "min", desc := "(II)I" } : Jvm.MethodName)) ∈ lw_all := lw_g (lw_at lw_m0 84 rfl) rfl
theorem q87 : (Jvm.Cond.code ({ cls := "java/lang/Math", name := "min", desc := "(II)I" } : Jvm.MethodName) prog_7_method_69_code (2 : Nat) (Option.some Jvm.ClassFile.FieldType.int)) ∈ lw_all := lw_g (lw_at lw_m0 85 rfl) rfl
/-! java/lang/Object -/
set_option maxRecDepth 100000
def RJ1 : String := "java/lang/Object"
abbrev cJ1_init : ByteArray := object_method_1_code
def yJ1_init : MethodName := ⟨RJ1, "<init>", "()V"⟩
theorem dJ1_init_0 : decode cJ1_init 0 = .ok (.return_, 1) := by decide +kernel
theorem q13 : (Jvm.Cond.instanceMethod ({ cls := "java/lang/Object", name := "<init>", desc := "()V" } : Jvm.MethodName)) ∈ lw_all := lw_g (lw_at lw_m0 11 rfl) rfl
theorem q14 : (Jvm.Cond.code ({ cls := "java/lang/Object", name := "<init>", desc := "()V" } : Jvm.MethodName) object_method_1_code (1 : Nat) (Option.none : Option Jvm.ClassFile.FieldType)) ∈ lw_all := lw_g (lw_at lw_m0 12 rfl) rfl
theorem q64 : (Jvm.Cond.interfaceMethod "IntComparator" "IntComparator" "compare" "(II)I") ∈ lw_tbl := lw_at lw_m0 62 rfl
set_option maxRecDepth 100000
theorem q65 : (Jvm.Cond.declares ({ cls := "IntComparator", name := "compare", desc := "(II)I" } : Jvm.MethodName)) ∈ lw_tbl := lw_at lw_m0 63 rfl
theorem q74 : (Jvm.Cond.interfaceMethod "Swapper" "Swapper" "swap" "(II)V") ∈ lw_tbl := lw_at lw_m0 72 rfl
set_option maxRecDepth 100000
theorem q75 : (Jvm.Cond.declares ({ cls := "Swapper", name := "swap", desc := "(II)V" } : Jvm.MethodName)) ∈ lw_tbl := lw_at lw_m0 73 rfl
theorem q25 : (Jvm.Cond.arrayClass Jvm.ClassFile.FieldType.int) ∈ lw_all := lw_g (lw_at lw_m0 23 rfl) rfl
set_option maxRecDepth 100000
/-! SwapSortDesk$Rows -/
set_option maxRecDepth 100000
def RX2 : String := "SwapSortDesk$Rows"
def TX2 : u_T := fun k => match k with
  | _ => ("SwapSortDesk$Rows", "this$0", "LSwapSortDesk;", true)
def tyX2 : Nat → FieldType := fun k => match k with
  | _ => .object "SwapSortDesk"
abbrev wsX20 : List Cond := u_ws RX2 TX2 1
theorem nmX2 : ∀ a, a < 1 → ∀ b, b < 1 → a ≠ b → (TX2 a).2.1 ≠ (TX2 b).2.1 := by decide +kernel
theorem tyX2_ok : ∀ k, k < 1 → parseFieldDescriptor (TX2 k).2.2.1 = some (tyX2 k) := by decide +kernel
abbrev cX2_init : ByteArray := prog_4_method_1_code
def yX2_init : MethodName := ⟨RX2, "<init>", "(LSwapSortDesk;)V"⟩
def dkwX2_init_0 : List UInt8 := [42, 43, 181, 0, 1, 42, 183, 0, 7, 177]
abbrev dktX2_init_0 : List UInt8 := dkwX2_init_0 ++ []
theorem dksX2_init_0 : cX2_init.data.toList.drop 0 = dktX2_init_0 := by decide +kernel
theorem dX2_init_0 : decode cX2_init 0 = .ok (.aload_n 0, 1) := dk_42 (dk_at dksX2_init_0 0 rfl rfl)
theorem dX2_init_1 : decode cX2_init 1 = .ok (.aload_n 1, 1) := dk_43 (dk_at dksX2_init_0 1 rfl rfl)
theorem dX2_init_2 : decode cX2_init 2 = .ok (.putfield 1, 3) := dk_181 0 1 (dk_at dksX2_init_0 2 rfl rfl)
theorem dX2_init_5 : decode cX2_init 5 = .ok (.aload_n 0, 1) := dk_42 (dk_at dksX2_init_0 5 rfl rfl)
theorem dX2_init_6 : decode cX2_init 6 = .ok (.invokespecial 7, 3) := dk_183 0 7 (dk_at dksX2_init_0 6 rfl rfl)
theorem dX2_init_9 : decode cX2_init 9 = .ok (.return_, 1) := dk_177 (dk_at dksX2_init_0 9 rfl rfl)
abbrev cX2_compare : ByteArray := prog_4_method_2_code
def yX2_compare : MethodName := ⟨RX2, "compare", "(II)I"⟩
def dkwX2_compare_4 : List UInt8 := [4, 167, 0, 4, 3, 172]
abbrev dktX2_compare_4 : List UInt8 := dkwX2_compare_4 ++ []
def dkwX2_compare_3 : List UInt8 := [167, 0, 29, 42, 180, 0, 1, 180, 0, 19, 27, 46, 42, 180, 0, 1, 180, 0, 19, 28, 46, 164, 0, 7]
abbrev dktX2_compare_3 : List UInt8 := dkwX2_compare_3 ++ dktX2_compare_4
def dkwX2_compare_2 : List UInt8 := [4, 172, 42, 180, 0, 1, 180, 0, 19, 27, 46, 42, 180, 0, 1, 180, 0, 19, 28, 46, 162, 0, 7, 2]
abbrev dktX2_compare_2 : List UInt8 := dkwX2_compare_2 ++ dktX2_compare_3
def dkwX2_compare_1 : List UInt8 := [180, 0, 1, 180, 0, 13, 27, 46, 42, 180, 0, 1, 180, 0, 13, 28, 46, 162, 0, 7, 2, 167, 0, 4]
abbrev dktX2_compare_1 : List UInt8 := dkwX2_compare_1 ++ dktX2_compare_2
def dkwX2_compare_0 : List UInt8 := [42, 180, 0, 1, 180, 0, 13, 27, 46, 42, 180, 0, 1, 180, 0, 13, 28, 46, 159, 0, 30, 42]
abbrev dktX2_compare_0 : List UInt8 := dkwX2_compare_0 ++ dktX2_compare_1
theorem dksX2_compare_0 : cX2_compare.data.toList.drop 0 = dktX2_compare_0 := by decide +kernel
theorem dksX2_compare_1 : cX2_compare.data.toList.drop 22 = dktX2_compare_1 := dk_seg dksX2_compare_0 22 rfl rfl
theorem dksX2_compare_2 : cX2_compare.data.toList.drop 46 = dktX2_compare_2 := dk_seg dksX2_compare_1 24 rfl rfl
theorem dksX2_compare_3 : cX2_compare.data.toList.drop 70 = dktX2_compare_3 := dk_seg dksX2_compare_2 24 rfl rfl
theorem dksX2_compare_4 : cX2_compare.data.toList.drop 94 = dktX2_compare_4 := dk_seg dksX2_compare_3 24 rfl rfl
theorem dX2_compare_0 : decode cX2_compare 0 = .ok (.aload_n 0, 1) := dk_42 (dk_at dksX2_compare_0 0 rfl rfl)
theorem dX2_compare_1 : decode cX2_compare 1 = .ok (.getfield 1, 3) := dk_180 0 1 (dk_at dksX2_compare_0 1 rfl rfl)
theorem dX2_compare_4 : decode cX2_compare 4 = .ok (.getfield 13, 3) := dk_180 0 13 (dk_at dksX2_compare_0 4 rfl rfl)
theorem dX2_compare_7 : decode cX2_compare 7 = .ok (.iload_n 1, 1) := dk_27 (dk_at dksX2_compare_0 7 rfl rfl)
theorem dX2_compare_8 : decode cX2_compare 8 = .ok (.iaload, 1) := dk_46 (dk_at dksX2_compare_0 8 rfl rfl)
theorem dX2_compare_9 : decode cX2_compare 9 = .ok (.aload_n 0, 1) := dk_42 (dk_at dksX2_compare_0 9 rfl rfl)
theorem dX2_compare_10 : decode cX2_compare 10 = .ok (.getfield 1, 3) := dk_180 0 1 (dk_at dksX2_compare_0 10 rfl rfl)
theorem dX2_compare_13 : decode cX2_compare 13 = .ok (.getfield 13, 3) := dk_180 0 13 (dk_at dksX2_compare_0 13 rfl rfl)
theorem dX2_compare_16 : decode cX2_compare 16 = .ok (.iload_n 2, 1) := dk_28 (dk_at dksX2_compare_0 16 rfl rfl)
theorem dX2_compare_17 : decode cX2_compare 17 = .ok (.iaload, 1) := dk_46 (dk_at dksX2_compare_0 17 rfl rfl)
theorem dX2_compare_18 : decode cX2_compare 18 = .ok (.if_icmp .eq 30, 3) := dk_159 0 30 (dk_at dksX2_compare_0 18 rfl rfl)
theorem dX2_compare_21 : decode cX2_compare 21 = .ok (.aload_n 0, 1) := dk_42 (dk_at dksX2_compare_0 21 rfl rfl)
theorem dX2_compare_22 : decode cX2_compare 22 = .ok (.getfield 1, 3) := dk_180 0 1 (dk_at dksX2_compare_1 0 rfl rfl)
theorem dX2_compare_25 : decode cX2_compare 25 = .ok (.getfield 13, 3) := dk_180 0 13 (dk_at dksX2_compare_1 3 rfl rfl)
theorem dX2_compare_28 : decode cX2_compare 28 = .ok (.iload_n 1, 1) := dk_27 (dk_at dksX2_compare_1 6 rfl rfl)
theorem dX2_compare_29 : decode cX2_compare 29 = .ok (.iaload, 1) := dk_46 (dk_at dksX2_compare_1 7 rfl rfl)
theorem dX2_compare_30 : decode cX2_compare 30 = .ok (.aload_n 0, 1) := dk_42 (dk_at dksX2_compare_1 8 rfl rfl)
theorem dX2_compare_31 : decode cX2_compare 31 = .ok (.getfield 1, 3) := dk_180 0 1 (dk_at dksX2_compare_1 9 rfl rfl)
theorem dX2_compare_34 : decode cX2_compare 34 = .ok (.getfield 13, 3) := dk_180 0 13 (dk_at dksX2_compare_1 12 rfl rfl)
theorem dX2_compare_37 : decode cX2_compare 37 = .ok (.iload_n 2, 1) := dk_28 (dk_at dksX2_compare_1 15 rfl rfl)
theorem dX2_compare_38 : decode cX2_compare 38 = .ok (.iaload, 1) := dk_46 (dk_at dksX2_compare_1 16 rfl rfl)
theorem dX2_compare_39 : decode cX2_compare 39 = .ok (.if_icmp .ge 7, 3) := dk_162 0 7 (dk_at dksX2_compare_1 17 rfl rfl)
theorem dX2_compare_42 : decode cX2_compare 42 = .ok (.iconst (-1), 1) := dk_2 (dk_at dksX2_compare_1 20 rfl rfl)
theorem dX2_compare_43 : decode cX2_compare 43 = .ok (.goto 4, 3) := dk_167 0 4 (dk_at dksX2_compare_1 21 rfl rfl)
theorem dX2_compare_46 : decode cX2_compare 46 = .ok (.iconst 1, 1) := dk_4 (dk_at dksX2_compare_2 0 rfl rfl)
theorem dX2_compare_47 : decode cX2_compare 47 = .ok (.ireturn, 1) := dk_172 (dk_at dksX2_compare_2 1 rfl rfl)
theorem dX2_compare_48 : decode cX2_compare 48 = .ok (.aload_n 0, 1) := dk_42 (dk_at dksX2_compare_2 2 rfl rfl)
theorem dX2_compare_49 : decode cX2_compare 49 = .ok (.getfield 1, 3) := dk_180 0 1 (dk_at dksX2_compare_2 3 rfl rfl)
theorem dX2_compare_52 : decode cX2_compare 52 = .ok (.getfield 19, 3) := dk_180 0 19 (dk_at dksX2_compare_2 6 rfl rfl)
theorem dX2_compare_55 : decode cX2_compare 55 = .ok (.iload_n 1, 1) := dk_27 (dk_at dksX2_compare_2 9 rfl rfl)
theorem dX2_compare_56 : decode cX2_compare 56 = .ok (.iaload, 1) := dk_46 (dk_at dksX2_compare_2 10 rfl rfl)
theorem dX2_compare_57 : decode cX2_compare 57 = .ok (.aload_n 0, 1) := dk_42 (dk_at dksX2_compare_2 11 rfl rfl)
theorem dX2_compare_58 : decode cX2_compare 58 = .ok (.getfield 1, 3) := dk_180 0 1 (dk_at dksX2_compare_2 12 rfl rfl)
theorem dX2_compare_61 : decode cX2_compare 61 = .ok (.getfield 19, 3) := dk_180 0 19 (dk_at dksX2_compare_2 15 rfl rfl)
theorem dX2_compare_64 : decode cX2_compare 64 = .ok (.iload_n 2, 1) := dk_28 (dk_at dksX2_compare_2 18 rfl rfl)
theorem dX2_compare_65 : decode cX2_compare 65 = .ok (.iaload, 1) := dk_46 (dk_at dksX2_compare_2 19 rfl rfl)
theorem dX2_compare_66 : decode cX2_compare 66 = .ok (.if_icmp .ge 7, 3) := dk_162 0 7 (dk_at dksX2_compare_2 20 rfl rfl)
theorem dX2_compare_69 : decode cX2_compare 69 = .ok (.iconst (-1), 1) := dk_2 (dk_at dksX2_compare_2 23 rfl rfl)
theorem dX2_compare_70 : decode cX2_compare 70 = .ok (.goto 29, 3) := dk_167 0 29 (dk_at dksX2_compare_3 0 rfl rfl)
theorem dX2_compare_73 : decode cX2_compare 73 = .ok (.aload_n 0, 1) := dk_42 (dk_at dksX2_compare_3 3 rfl rfl)
theorem dX2_compare_74 : decode cX2_compare 74 = .ok (.getfield 1, 3) := dk_180 0 1 (dk_at dksX2_compare_3 4 rfl rfl)
theorem dX2_compare_77 : decode cX2_compare 77 = .ok (.getfield 19, 3) := dk_180 0 19 (dk_at dksX2_compare_3 7 rfl rfl)
theorem dX2_compare_80 : decode cX2_compare 80 = .ok (.iload_n 1, 1) := dk_27 (dk_at dksX2_compare_3 10 rfl rfl)
theorem dX2_compare_81 : decode cX2_compare 81 = .ok (.iaload, 1) := dk_46 (dk_at dksX2_compare_3 11 rfl rfl)
theorem dX2_compare_82 : decode cX2_compare 82 = .ok (.aload_n 0, 1) := dk_42 (dk_at dksX2_compare_3 12 rfl rfl)
theorem dX2_compare_83 : decode cX2_compare 83 = .ok (.getfield 1, 3) := dk_180 0 1 (dk_at dksX2_compare_3 13 rfl rfl)
theorem dX2_compare_86 : decode cX2_compare 86 = .ok (.getfield 19, 3) := dk_180 0 19 (dk_at dksX2_compare_3 16 rfl rfl)
theorem dX2_compare_89 : decode cX2_compare 89 = .ok (.iload_n 2, 1) := dk_28 (dk_at dksX2_compare_3 19 rfl rfl)
theorem dX2_compare_90 : decode cX2_compare 90 = .ok (.iaload, 1) := dk_46 (dk_at dksX2_compare_3 20 rfl rfl)
theorem dX2_compare_91 : decode cX2_compare 91 = .ok (.if_icmp .le 7, 3) := dk_164 0 7 (dk_at dksX2_compare_3 21 rfl rfl)
theorem dX2_compare_94 : decode cX2_compare 94 = .ok (.iconst 1, 1) := dk_4 (dk_at dksX2_compare_4 0 rfl rfl)
theorem dX2_compare_95 : decode cX2_compare 95 = .ok (.goto 4, 3) := dk_167 0 4 (dk_at dksX2_compare_4 1 rfl rfl)
theorem dX2_compare_98 : decode cX2_compare 98 = .ok (.iconst 0, 1) := dk_3 (dk_at dksX2_compare_4 4 rfl rfl)
theorem dX2_compare_99 : decode cX2_compare 99 = .ok (.ireturn, 1) := dk_172 (dk_at dksX2_compare_4 5 rfl rfl)
abbrev cX2_swap : ByteArray := prog_4_method_3_code
def yX2_swap : MethodName := ⟨RX2, "swap", "(II)V"⟩
def dkwX2_swap_3 : List UInt8 := [180, 0, 19, 28, 29, 79, 177]
abbrev dktX2_swap_3 : List UInt8 := dkwX2_swap_3 ++ []
def dkwX2_swap_2 : List UInt8 := [46, 62, 42, 180, 0, 1, 180, 0, 19, 27, 42, 180, 0, 1, 180, 0, 19, 28, 46, 79, 42, 180, 0, 1]
abbrev dktX2_swap_2 : List UInt8 := dkwX2_swap_2 ++ dktX2_swap_3
def dkwX2_swap_1 : List UInt8 := [180, 0, 13, 28, 46, 79, 42, 180, 0, 1, 180, 0, 13, 28, 29, 79, 42, 180, 0, 1, 180, 0, 19, 27]
abbrev dktX2_swap_1 : List UInt8 := dkwX2_swap_1 ++ dktX2_swap_2
def dkwX2_swap_0 : List UInt8 := [42, 180, 0, 1, 180, 0, 13, 27, 46, 62, 42, 180, 0, 1, 180, 0, 13, 27, 42, 180, 0, 1]
abbrev dktX2_swap_0 : List UInt8 := dkwX2_swap_0 ++ dktX2_swap_1
theorem dksX2_swap_0 : cX2_swap.data.toList.drop 0 = dktX2_swap_0 := by decide +kernel
theorem dksX2_swap_1 : cX2_swap.data.toList.drop 22 = dktX2_swap_1 := dk_seg dksX2_swap_0 22 rfl rfl
theorem dksX2_swap_2 : cX2_swap.data.toList.drop 46 = dktX2_swap_2 := dk_seg dksX2_swap_1 24 rfl rfl
theorem dksX2_swap_3 : cX2_swap.data.toList.drop 70 = dktX2_swap_3 := dk_seg dksX2_swap_2 24 rfl rfl
theorem dX2_swap_0 : decode cX2_swap 0 = .ok (.aload_n 0, 1) := dk_42 (dk_at dksX2_swap_0 0 rfl rfl)
theorem dX2_swap_1 : decode cX2_swap 1 = .ok (.getfield 1, 3) := dk_180 0 1 (dk_at dksX2_swap_0 1 rfl rfl)
theorem dX2_swap_4 : decode cX2_swap 4 = .ok (.getfield 13, 3) := dk_180 0 13 (dk_at dksX2_swap_0 4 rfl rfl)
theorem dX2_swap_7 : decode cX2_swap 7 = .ok (.iload_n 1, 1) := dk_27 (dk_at dksX2_swap_0 7 rfl rfl)
theorem dX2_swap_8 : decode cX2_swap 8 = .ok (.iaload, 1) := dk_46 (dk_at dksX2_swap_0 8 rfl rfl)
theorem dX2_swap_9 : decode cX2_swap 9 = .ok (.istore_n 3, 1) := dk_62 (dk_at dksX2_swap_0 9 rfl rfl)
theorem dX2_swap_10 : decode cX2_swap 10 = .ok (.aload_n 0, 1) := dk_42 (dk_at dksX2_swap_0 10 rfl rfl)
theorem dX2_swap_11 : decode cX2_swap 11 = .ok (.getfield 1, 3) := dk_180 0 1 (dk_at dksX2_swap_0 11 rfl rfl)
theorem dX2_swap_14 : decode cX2_swap 14 = .ok (.getfield 13, 3) := dk_180 0 13 (dk_at dksX2_swap_0 14 rfl rfl)
theorem dX2_swap_17 : decode cX2_swap 17 = .ok (.iload_n 1, 1) := dk_27 (dk_at dksX2_swap_0 17 rfl rfl)
theorem dX2_swap_18 : decode cX2_swap 18 = .ok (.aload_n 0, 1) := dk_42 (dk_at dksX2_swap_0 18 rfl rfl)
theorem dX2_swap_19 : decode cX2_swap 19 = .ok (.getfield 1, 3) := dk_180 0 1 (dk_at dksX2_swap_0 19 rfl rfl)
theorem dX2_swap_22 : decode cX2_swap 22 = .ok (.getfield 13, 3) := dk_180 0 13 (dk_at dksX2_swap_1 0 rfl rfl)
theorem dX2_swap_25 : decode cX2_swap 25 = .ok (.iload_n 2, 1) := dk_28 (dk_at dksX2_swap_1 3 rfl rfl)
theorem dX2_swap_26 : decode cX2_swap 26 = .ok (.iaload, 1) := dk_46 (dk_at dksX2_swap_1 4 rfl rfl)
theorem dX2_swap_27 : decode cX2_swap 27 = .ok (.iastore, 1) := dk_79 (dk_at dksX2_swap_1 5 rfl rfl)
theorem dX2_swap_28 : decode cX2_swap 28 = .ok (.aload_n 0, 1) := dk_42 (dk_at dksX2_swap_1 6 rfl rfl)
theorem dX2_swap_29 : decode cX2_swap 29 = .ok (.getfield 1, 3) := dk_180 0 1 (dk_at dksX2_swap_1 7 rfl rfl)
theorem dX2_swap_32 : decode cX2_swap 32 = .ok (.getfield 13, 3) := dk_180 0 13 (dk_at dksX2_swap_1 10 rfl rfl)
theorem dX2_swap_35 : decode cX2_swap 35 = .ok (.iload_n 2, 1) := dk_28 (dk_at dksX2_swap_1 13 rfl rfl)
theorem dX2_swap_36 : decode cX2_swap 36 = .ok (.iload_n 3, 1) := dk_29 (dk_at dksX2_swap_1 14 rfl rfl)
theorem dX2_swap_37 : decode cX2_swap 37 = .ok (.iastore, 1) := dk_79 (dk_at dksX2_swap_1 15 rfl rfl)
theorem dX2_swap_38 : decode cX2_swap 38 = .ok (.aload_n 0, 1) := dk_42 (dk_at dksX2_swap_1 16 rfl rfl)
theorem dX2_swap_39 : decode cX2_swap 39 = .ok (.getfield 1, 3) := dk_180 0 1 (dk_at dksX2_swap_1 17 rfl rfl)
theorem dX2_swap_42 : decode cX2_swap 42 = .ok (.getfield 19, 3) := dk_180 0 19 (dk_at dksX2_swap_1 20 rfl rfl)
theorem dX2_swap_45 : decode cX2_swap 45 = .ok (.iload_n 1, 1) := dk_27 (dk_at dksX2_swap_1 23 rfl rfl)
theorem dX2_swap_46 : decode cX2_swap 46 = .ok (.iaload, 1) := dk_46 (dk_at dksX2_swap_2 0 rfl rfl)
theorem dX2_swap_47 : decode cX2_swap 47 = .ok (.istore_n 3, 1) := dk_62 (dk_at dksX2_swap_2 1 rfl rfl)
theorem dX2_swap_48 : decode cX2_swap 48 = .ok (.aload_n 0, 1) := dk_42 (dk_at dksX2_swap_2 2 rfl rfl)
theorem dX2_swap_49 : decode cX2_swap 49 = .ok (.getfield 1, 3) := dk_180 0 1 (dk_at dksX2_swap_2 3 rfl rfl)
theorem dX2_swap_52 : decode cX2_swap 52 = .ok (.getfield 19, 3) := dk_180 0 19 (dk_at dksX2_swap_2 6 rfl rfl)
theorem dX2_swap_55 : decode cX2_swap 55 = .ok (.iload_n 1, 1) := dk_27 (dk_at dksX2_swap_2 9 rfl rfl)
theorem dX2_swap_56 : decode cX2_swap 56 = .ok (.aload_n 0, 1) := dk_42 (dk_at dksX2_swap_2 10 rfl rfl)
theorem dX2_swap_57 : decode cX2_swap 57 = .ok (.getfield 1, 3) := dk_180 0 1 (dk_at dksX2_swap_2 11 rfl rfl)
theorem dX2_swap_60 : decode cX2_swap 60 = .ok (.getfield 19, 3) := dk_180 0 19 (dk_at dksX2_swap_2 14 rfl rfl)
theorem dX2_swap_63 : decode cX2_swap 63 = .ok (.iload_n 2, 1) := dk_28 (dk_at dksX2_swap_2 17 rfl rfl)
theorem dX2_swap_64 : decode cX2_swap 64 = .ok (.iaload, 1) := dk_46 (dk_at dksX2_swap_2 18 rfl rfl)
theorem dX2_swap_65 : decode cX2_swap 65 = .ok (.iastore, 1) := dk_79 (dk_at dksX2_swap_2 19 rfl rfl)
theorem dX2_swap_66 : decode cX2_swap 66 = .ok (.aload_n 0, 1) := dk_42 (dk_at dksX2_swap_2 20 rfl rfl)
theorem dX2_swap_67 : decode cX2_swap 67 = .ok (.getfield 1, 3) := dk_180 0 1 (dk_at dksX2_swap_2 21 rfl rfl)
theorem dX2_swap_70 : decode cX2_swap 70 = .ok (.getfield 19, 3) := dk_180 0 19 (dk_at dksX2_swap_3 0 rfl rfl)
theorem dX2_swap_73 : decode cX2_swap 73 = .ok (.iload_n 2, 1) := dk_28 (dk_at dksX2_swap_3 3 rfl rfl)
theorem dX2_swap_74 : decode cX2_swap 74 = .ok (.iload_n 3, 1) := dk_29 (dk_at dksX2_swap_3 4 rfl rfl)
theorem dX2_swap_75 : decode cX2_swap 75 = .ok (.iastore, 1) := dk_79 (dk_at dksX2_swap_3 5 rfl rfl)
theorem dX2_swap_76 : decode cX2_swap 76 = .ok (.return_, 1) := dk_177 (dk_at dksX2_swap_3 6 rfl rfl)
theorem q4 : (Jvm.Cond.initialized "SwapSortDesk$Rows") ∈ lw_all := lw_g (lw_at lw_m0 2 rfl) rfl
theorem q16 : (Jvm.Cond.instantiable "SwapSortDesk$Rows" (1 : Nat)) ∈ lw_all := lw_g (lw_at lw_m0 14 rfl) rfl
theorem q18 : (Jvm.Cond.instanceMethod ({ cls := "SwapSortDesk$Rows", name := "<init>", desc := "(LSwapSortDesk;)V" } : Jvm.MethodName)) ∈ lw_all := lw_g (lw_at lw_m0 16 rfl) rfl
theorem q19 : (Jvm.Cond.code ({ cls := "SwapSortDesk$Rows", name := "<init>", desc := "(LSwapSortDesk;)V" } : Jvm.MethodName) prog_4_method_1_code (2 : Nat) (Option.none : Option Jvm.ClassFile.FieldType)) ∈ lw_all := lw_g (lw_at lw_m0 17 rfl) rfl
theorem q20 : (Jvm.Cond.methodLink "SwapSortDesk$Rows" (7 : Nat) ({ cls := "java/lang/Object", name := "<init>", desc := "()V" } : Jvm.MethodName)) ∈ lw_all := lw_g (lw_at lw_m0 18 rfl) rfl
theorem q21 : (Jvm.Cond.fieldLink "SwapSortDesk$Rows" (1 : Nat) "SwapSortDesk$Rows" "this$0" "LSwapSortDesk;") ∈ lw_all := lw_g (lw_at lw_m0 19 rfl) rfl
theorem q22 : (Jvm.Cond.laysFinal "SwapSortDesk$Rows" "SwapSortDesk$Rows" "this$0" "LSwapSortDesk;") ∈ lw_all := lw_g (lw_at lw_m0 20 rfl) rfl
theorem q23 : (Jvm.Cond.soleField "SwapSortDesk$Rows" "this$0") ∈ lw_all := lw_g (lw_at lw_m0 21 rfl) rfl
theorem q24 : (Jvm.Cond.superclass "SwapSortDesk$Rows" "java/lang/Object") ∈ lw_all := lw_g (lw_at lw_m0 22 rfl) rfl
theorem q27 : (Jvm.Cond.fieldLinkNest "SwapSortDesk$Rows" (13 : Nat) "SwapSortDesk" "first" "[I" "SwapSortDesk") ∈ lw_tbl := lw_at lw_m0 25 rfl
theorem q29 : (Jvm.Cond.fieldLinkNest "SwapSortDesk$Rows" (19 : Nat) "SwapSortDesk" "second" "[I" "SwapSortDesk") ∈ lw_tbl := lw_at lw_m0 27 rfl
theorem q66 : (Jvm.Cond.castable "SwapSortDesk$Rows" "IntComparator") ∈ lw_tbl := lw_at lw_m0 64 rfl
theorem q67 : (Jvm.Cond.selects "SwapSortDesk$Rows" ({ cls := "IntComparator", name := "compare", desc := "(II)I" } : Jvm.MethodName) ({ cls := "SwapSortDesk$Rows", name := "compare", desc := "(II)I" } : Jvm.MethodName)) ∈ lw_all := lw_g (lw_at lw_m0 65 rfl) rfl
theorem q68 : (Jvm.Cond.unhidden "SwapSortDesk$Rows" "compare" "(II)I") ∈ lw_tbl := lw_at lw_m0 66 rfl
theorem q69 : (Jvm.Cond.instanceMethod ({ cls := "SwapSortDesk$Rows", name := "compare", desc := "(II)I" } : Jvm.MethodName)) ∈ lw_all := lw_g (lw_at lw_m0 67 rfl) rfl
theorem q70 : (Jvm.Cond.publicMethod ({ cls := "SwapSortDesk$Rows", name := "compare", desc := "(II)I" } : Jvm.MethodName)) ∈ lw_tbl := lw_at lw_m0 68 rfl
theorem q71 : (Jvm.Cond.code ({ cls := "SwapSortDesk$Rows", name := "compare", desc := "(II)I" } : Jvm.MethodName) prog_4_method_2_code (3 : Nat) (Option.some Jvm.ClassFile.FieldType.int)) ∈ lw_all := lw_g (lw_at lw_m0 69 rfl) rfl
theorem q76 : (Jvm.Cond.castable "SwapSortDesk$Rows" "Swapper") ∈ lw_tbl := lw_at lw_m0 74 rfl
theorem q77 : (Jvm.Cond.selects "SwapSortDesk$Rows" ({ cls := "Swapper", name := "swap", desc := "(II)V" } : Jvm.MethodName) ({ cls := "SwapSortDesk$Rows", name := "swap", desc := "(II)V" } : Jvm.MethodName)) ∈ lw_all := lw_g (lw_at lw_m0 75 rfl) rfl
theorem q78 : (Jvm.Cond.unhidden "SwapSortDesk$Rows" "swap" "(II)V") ∈ lw_tbl := lw_at lw_m0 76 rfl
theorem q79 : (Jvm.Cond.instanceMethod ({ cls := "SwapSortDesk$Rows", name := "swap", desc := "(II)V" } : Jvm.MethodName)) ∈ lw_all := lw_g (lw_at lw_m0 77 rfl) rfl
theorem q80 : (Jvm.Cond.publicMethod ({ cls := "SwapSortDesk$Rows", name := "swap", desc := "(II)V" } : Jvm.MethodName)) ∈ lw_tbl := lw_at lw_m0 78 rfl
theorem q81 : (Jvm.Cond.code ({ cls := "SwapSortDesk$Rows", name := "swap", desc := "(II)V" } : Jvm.MethodName) prog_4_method_3_code (4 : Nat) (Option.none : Option Jvm.ClassFile.FieldType)) ∈ lw_all := lw_g (lw_at lw_m0 79 rfl) rfl
theorem in_X2 : ∀ w ∈ wsX20, w ∈ lw_all := lw_in wsX20 [22] (by decide +kernel) (by decide +kernel)
/-! SwapSortDesk -/
set_option maxRecDepth 100000
def RX1 : String := "SwapSortDesk"
def TX1 : u_T := fun k => match k with
  | 0 => ("SwapSortDesk", "first", "[I", true)
  | 1 => ("SwapSortDesk", "second", "[I", true)
  | _ => ("SwapSortDesk", "rows", "LSwapSortDesk$Rows;", true)
def tyX1 : Nat → FieldType := fun k => match k with
  | 0 => .array .int
  | 1 => .array .int
  | _ => .object "SwapSortDesk$Rows"
abbrev wsX10 : List Cond := u_ws RX1 TX1 3
theorem nmX1 : ∀ a, a < 3 → ∀ b, b < 3 → a ≠ b → (TX1 a).2.1 ≠ (TX1 b).2.1 := by decide +kernel
theorem tyX1_ok : ∀ k, k < 3 → parseFieldDescriptor (TX1 k).2.2.1 = some (tyX1 k) := by decide +kernel
abbrev cX1_init : ByteArray := prog_3_method_1_code
def yX1_init : MethodName := ⟨RX1, "<init>", "()V"⟩
def dkwX1_init_1 : List UInt8 := [89, 42, 183, 0, 18, 181, 0, 21, 177]
abbrev dktX1_init_1 : List UInt8 := dkwX1_init_1 ++ []
def dkwX1_init_0 : List UInt8 := [42, 183, 0, 1, 42, 16, 48, 188, 10, 181, 0, 7, 42, 16, 48, 188, 10, 181, 0, 13, 42, 187, 0, 16]
abbrev dktX1_init_0 : List UInt8 := dkwX1_init_0 ++ dktX1_init_1
theorem dksX1_init_0 : cX1_init.data.toList.drop 0 = dktX1_init_0 := by decide +kernel
theorem dksX1_init_1 : cX1_init.data.toList.drop 24 = dktX1_init_1 := dk_seg dksX1_init_0 24 rfl rfl
theorem dX1_init_0 : decode cX1_init 0 = .ok (.aload_n 0, 1) := dk_42 (dk_at dksX1_init_0 0 rfl rfl)
theorem dX1_init_1 : decode cX1_init 1 = .ok (.invokespecial 1, 3) := dk_183 0 1 (dk_at dksX1_init_0 1 rfl rfl)
theorem dX1_init_4 : decode cX1_init 4 = .ok (.aload_n 0, 1) := dk_42 (dk_at dksX1_init_0 4 rfl rfl)
theorem dX1_init_5 : decode cX1_init 5 = .ok (.bipush 48, 2) := dk_16 48 (dk_at dksX1_init_0 5 rfl rfl)
theorem dX1_init_7 : decode cX1_init 7 = .ok (.newarray .int, 2) := dk_188_10 (dk_at dksX1_init_0 7 rfl rfl)
theorem dX1_init_9 : decode cX1_init 9 = .ok (.putfield 7, 3) := dk_181 0 7 (dk_at dksX1_init_0 9 rfl rfl)
theorem dX1_init_12 : decode cX1_init 12 = .ok (.aload_n 0, 1) := dk_42 (dk_at dksX1_init_0 12 rfl rfl)
theorem dX1_init_13 : decode cX1_init 13 = .ok (.bipush 48, 2) := dk_16 48 (dk_at dksX1_init_0 13 rfl rfl)
theorem dX1_init_15 : decode cX1_init 15 = .ok (.newarray .int, 2) := dk_188_10 (dk_at dksX1_init_0 15 rfl rfl)
theorem dX1_init_17 : decode cX1_init 17 = .ok (.putfield 13, 3) := dk_181 0 13 (dk_at dksX1_init_0 17 rfl rfl)
theorem dX1_init_20 : decode cX1_init 20 = .ok (.aload_n 0, 1) := dk_42 (dk_at dksX1_init_0 20 rfl rfl)
theorem dX1_init_21 : decode cX1_init 21 = .ok (.new 16, 3) := dk_187 0 16 (dk_at dksX1_init_0 21 rfl rfl)
theorem dX1_init_24 : decode cX1_init 24 = .ok (.dup, 1) := dk_89 (dk_at dksX1_init_1 0 rfl rfl)
theorem dX1_init_25 : decode cX1_init 25 = .ok (.aload_n 0, 1) := dk_42 (dk_at dksX1_init_1 1 rfl rfl)
theorem dX1_init_26 : decode cX1_init 26 = .ok (.invokespecial 18, 3) := dk_183 0 18 (dk_at dksX1_init_1 2 rfl rfl)
theorem dX1_init_29 : decode cX1_init 29 = .ok (.putfield 21, 3) := dk_181 0 21 (dk_at dksX1_init_1 5 rfl rfl)
theorem dX1_init_32 : decode cX1_init 32 = .ok (.return_, 1) := dk_177 (dk_at dksX1_init_1 8 rfl rfl)
abbrev cX1_set : ByteArray := prog_3_method_2_code
def yX1_set : MethodName := ⟨RX1, "set", "(III)V"⟩
def dkwX1_set_1 : List UInt8 := [79, 177]
abbrev dktX1_set_1 : List UInt8 := dkwX1_set_1 ++ []
def dkwX1_set_0 : List UInt8 := [27, 18, 25, 126, 16, 48, 112, 54, 4, 42, 180, 0, 7, 21, 4, 28, 79, 42, 180, 0, 13, 21, 4, 29]
abbrev dktX1_set_0 : List UInt8 := dkwX1_set_0 ++ dktX1_set_1
theorem dksX1_set_0 : cX1_set.data.toList.drop 0 = dktX1_set_0 := by decide +kernel
theorem dksX1_set_1 : cX1_set.data.toList.drop 24 = dktX1_set_1 := dk_seg dksX1_set_0 24 rfl rfl
theorem dX1_set_0 : decode cX1_set 0 = .ok (.iload_n 1, 1) := dk_27 (dk_at dksX1_set_0 0 rfl rfl)
theorem dX1_set_1 : decode cX1_set 1 = .ok (.ldc 25, 2) := dk_18 25 (dk_at dksX1_set_0 1 rfl rfl)
theorem dX1_set_3 : decode cX1_set 3 = .ok (.iand, 1) := dk_126 (dk_at dksX1_set_0 3 rfl rfl)
theorem dX1_set_4 : decode cX1_set 4 = .ok (.bipush 48, 2) := dk_16 48 (dk_at dksX1_set_0 4 rfl rfl)
theorem dX1_set_6 : decode cX1_set 6 = .ok (.irem, 1) := dk_112 (dk_at dksX1_set_0 6 rfl rfl)
theorem dX1_set_7 : decode cX1_set 7 = .ok (.istore 4, 2) := dk_54 4 (dk_at dksX1_set_0 7 rfl rfl)
theorem dX1_set_9 : decode cX1_set 9 = .ok (.aload_n 0, 1) := dk_42 (dk_at dksX1_set_0 9 rfl rfl)
theorem dX1_set_10 : decode cX1_set 10 = .ok (.getfield 7, 3) := dk_180 0 7 (dk_at dksX1_set_0 10 rfl rfl)
theorem dX1_set_13 : decode cX1_set 13 = .ok (.iload 4, 2) := dk_21 4 (dk_at dksX1_set_0 13 rfl rfl)
theorem dX1_set_15 : decode cX1_set 15 = .ok (.iload_n 2, 1) := dk_28 (dk_at dksX1_set_0 15 rfl rfl)
theorem dX1_set_16 : decode cX1_set 16 = .ok (.iastore, 1) := dk_79 (dk_at dksX1_set_0 16 rfl rfl)
theorem dX1_set_17 : decode cX1_set 17 = .ok (.aload_n 0, 1) := dk_42 (dk_at dksX1_set_0 17 rfl rfl)
theorem dX1_set_18 : decode cX1_set 18 = .ok (.getfield 13, 3) := dk_180 0 13 (dk_at dksX1_set_0 18 rfl rfl)
theorem dX1_set_21 : decode cX1_set 21 = .ok (.iload 4, 2) := dk_21 4 (dk_at dksX1_set_0 21 rfl rfl)
theorem dX1_set_23 : decode cX1_set 23 = .ok (.iload_n 3, 1) := dk_29 (dk_at dksX1_set_0 23 rfl rfl)
theorem dX1_set_24 : decode cX1_set 24 = .ok (.iastore, 1) := dk_79 (dk_at dksX1_set_1 0 rfl rfl)
theorem dX1_set_25 : decode cX1_set 25 = .ok (.return_, 1) := dk_177 (dk_at dksX1_set_1 1 rfl rfl)
abbrev cX1_few : ByteArray := prog_3_method_3_code
def yX1_few : MethodName := ⟨RX1, "few", "(III)V"⟩
def dkwX1_few_1 : List UInt8 := [21, 4, 29, 6, 126, 79, 177]
abbrev dktX1_few_1 : List UInt8 := dkwX1_few_1 ++ []
def dkwX1_few_0 : List UInt8 := [27, 18, 25, 126, 16, 48, 112, 54, 4, 42, 180, 0, 7, 21, 4, 28, 6, 126, 79, 42, 180, 0, 13]
abbrev dktX1_few_0 : List UInt8 := dkwX1_few_0 ++ dktX1_few_1
theorem dksX1_few_0 : cX1_few.data.toList.drop 0 = dktX1_few_0 := by decide +kernel
theorem dksX1_few_1 : cX1_few.data.toList.drop 23 = dktX1_few_1 := dk_seg dksX1_few_0 23 rfl rfl
theorem dX1_few_0 : decode cX1_few 0 = .ok (.iload_n 1, 1) := dk_27 (dk_at dksX1_few_0 0 rfl rfl)
theorem dX1_few_1 : decode cX1_few 1 = .ok (.ldc 25, 2) := dk_18 25 (dk_at dksX1_few_0 1 rfl rfl)
theorem dX1_few_3 : decode cX1_few 3 = .ok (.iand, 1) := dk_126 (dk_at dksX1_few_0 3 rfl rfl)
theorem dX1_few_4 : decode cX1_few 4 = .ok (.bipush 48, 2) := dk_16 48 (dk_at dksX1_few_0 4 rfl rfl)
theorem dX1_few_6 : decode cX1_few 6 = .ok (.irem, 1) := dk_112 (dk_at dksX1_few_0 6 rfl rfl)
theorem dX1_few_7 : decode cX1_few 7 = .ok (.istore 4, 2) := dk_54 4 (dk_at dksX1_few_0 7 rfl rfl)
theorem dX1_few_9 : decode cX1_few 9 = .ok (.aload_n 0, 1) := dk_42 (dk_at dksX1_few_0 9 rfl rfl)
theorem dX1_few_10 : decode cX1_few 10 = .ok (.getfield 7, 3) := dk_180 0 7 (dk_at dksX1_few_0 10 rfl rfl)
theorem dX1_few_13 : decode cX1_few 13 = .ok (.iload 4, 2) := dk_21 4 (dk_at dksX1_few_0 13 rfl rfl)
theorem dX1_few_15 : decode cX1_few 15 = .ok (.iload_n 2, 1) := dk_28 (dk_at dksX1_few_0 15 rfl rfl)
theorem dX1_few_16 : decode cX1_few 16 = .ok (.iconst 3, 1) := dk_6 (dk_at dksX1_few_0 16 rfl rfl)
theorem dX1_few_17 : decode cX1_few 17 = .ok (.iand, 1) := dk_126 (dk_at dksX1_few_0 17 rfl rfl)
theorem dX1_few_18 : decode cX1_few 18 = .ok (.iastore, 1) := dk_79 (dk_at dksX1_few_0 18 rfl rfl)
theorem dX1_few_19 : decode cX1_few 19 = .ok (.aload_n 0, 1) := dk_42 (dk_at dksX1_few_0 19 rfl rfl)
theorem dX1_few_20 : decode cX1_few 20 = .ok (.getfield 13, 3) := dk_180 0 13 (dk_at dksX1_few_0 20 rfl rfl)
theorem dX1_few_23 : decode cX1_few 23 = .ok (.iload 4, 2) := dk_21 4 (dk_at dksX1_few_1 0 rfl rfl)
theorem dX1_few_25 : decode cX1_few 25 = .ok (.iload_n 3, 1) := dk_29 (dk_at dksX1_few_1 2 rfl rfl)
theorem dX1_few_26 : decode cX1_few 26 = .ok (.iconst 3, 1) := dk_6 (dk_at dksX1_few_1 3 rfl rfl)
theorem dX1_few_27 : decode cX1_few 27 = .ok (.iand, 1) := dk_126 (dk_at dksX1_few_1 4 rfl rfl)
theorem dX1_few_28 : decode cX1_few 28 = .ok (.iastore, 1) := dk_79 (dk_at dksX1_few_1 5 rfl rfl)
theorem dX1_few_29 : decode cX1_few 29 = .ok (.return_, 1) := dk_177 (dk_at dksX1_few_1 6 rfl rfl)
abbrev cX1_quick : ByteArray := prog_3_method_8_code
def yX1_quick : MethodName := ⟨RX1, "quick", "(II)V"⟩
def dkwX1_quick_1 : List UInt8 := [177]
abbrev dktX1_quick_1 : List UInt8 := dkwX1_quick_1 ++ []
def dkwX1_quick_0 : List UInt8 := [42, 27, 182, 0, 26, 62, 29, 42, 29, 28, 182, 0, 30, 42, 180, 0, 21, 42, 180, 0, 21, 184, 0, 34]
abbrev dktX1_quick_0 : List UInt8 := dkwX1_quick_0 ++ dktX1_quick_1
theorem dksX1_quick_0 : cX1_quick.data.toList.drop 0 = dktX1_quick_0 := by decide +kernel
theorem dksX1_quick_1 : cX1_quick.data.toList.drop 24 = dktX1_quick_1 := dk_seg dksX1_quick_0 24 rfl rfl
theorem dX1_quick_0 : decode cX1_quick 0 = .ok (.aload_n 0, 1) := dk_42 (dk_at dksX1_quick_0 0 rfl rfl)
theorem dX1_quick_1 : decode cX1_quick 1 = .ok (.iload_n 1, 1) := dk_27 (dk_at dksX1_quick_0 1 rfl rfl)
theorem dX1_quick_2 : decode cX1_quick 2 = .ok (.invokevirtual 26, 3) := dk_182 0 26 (dk_at dksX1_quick_0 2 rfl rfl)
theorem dX1_quick_5 : decode cX1_quick 5 = .ok (.istore_n 3, 1) := dk_62 (dk_at dksX1_quick_0 5 rfl rfl)
theorem dX1_quick_6 : decode cX1_quick 6 = .ok (.iload_n 3, 1) := dk_29 (dk_at dksX1_quick_0 6 rfl rfl)
theorem dX1_quick_7 : decode cX1_quick 7 = .ok (.aload_n 0, 1) := dk_42 (dk_at dksX1_quick_0 7 rfl rfl)
theorem dX1_quick_8 : decode cX1_quick 8 = .ok (.iload_n 3, 1) := dk_29 (dk_at dksX1_quick_0 8 rfl rfl)
theorem dX1_quick_9 : decode cX1_quick 9 = .ok (.iload_n 2, 1) := dk_28 (dk_at dksX1_quick_0 9 rfl rfl)
theorem dX1_quick_10 : decode cX1_quick 10 = .ok (.invokevirtual 30, 3) := dk_182 0 30 (dk_at dksX1_quick_0 10 rfl rfl)
theorem dX1_quick_13 : decode cX1_quick 13 = .ok (.aload_n 0, 1) := dk_42 (dk_at dksX1_quick_0 13 rfl rfl)
theorem dX1_quick_14 : decode cX1_quick 14 = .ok (.getfield 21, 3) := dk_180 0 21 (dk_at dksX1_quick_0 14 rfl rfl)
theorem dX1_quick_17 : decode cX1_quick 17 = .ok (.aload_n 0, 1) := dk_42 (dk_at dksX1_quick_0 17 rfl rfl)
theorem dX1_quick_18 : decode cX1_quick 18 = .ok (.getfield 21, 3) := dk_180 0 21 (dk_at dksX1_quick_0 18 rfl rfl)
theorem dX1_quick_21 : decode cX1_quick 21 = .ok (.invokestatic 34, 3) := dk_184 0 34 (dk_at dksX1_quick_0 21 rfl rfl)
theorem dX1_quick_24 : decode cX1_quick 24 = .ok (.return_, 1) := dk_177 (dk_at dksX1_quick_1 0 rfl rfl)
abbrev cX1_from : ByteArray := prog_3_method_6_code
def yX1_from : MethodName := ⟨RX1, "from", "(I)I"⟩
def dkwX1_from_0 : List UInt8 := [27, 18, 25, 126, 16, 49, 112, 172]
abbrev dktX1_from_0 : List UInt8 := dkwX1_from_0 ++ []
theorem dksX1_from_0 : cX1_from.data.toList.drop 0 = dktX1_from_0 := by decide +kernel
theorem dX1_from_0 : decode cX1_from 0 = .ok (.iload_n 1, 1) := dk_27 (dk_at dksX1_from_0 0 rfl rfl)
theorem dX1_from_1 : decode cX1_from 1 = .ok (.ldc 25, 2) := dk_18 25 (dk_at dksX1_from_0 1 rfl rfl)
theorem dX1_from_3 : decode cX1_from 3 = .ok (.iand, 1) := dk_126 (dk_at dksX1_from_0 3 rfl rfl)
theorem dX1_from_4 : decode cX1_from 4 = .ok (.bipush 49, 2) := dk_16 49 (dk_at dksX1_from_0 4 rfl rfl)
theorem dX1_from_6 : decode cX1_from 6 = .ok (.irem, 1) := dk_112 (dk_at dksX1_from_0 6 rfl rfl)
theorem dX1_from_7 : decode cX1_from 7 = .ok (.ireturn, 1) := dk_172 (dk_at dksX1_from_0 7 rfl rfl)
abbrev cX1_to : ByteArray := prog_3_method_7_code
def yX1_to : MethodName := ⟨RX1, "to", "(II)I"⟩
def dkwX1_to_0 : List UInt8 := [27, 28, 18, 25, 126, 16, 49, 27, 100, 112, 96, 172]
abbrev dktX1_to_0 : List UInt8 := dkwX1_to_0 ++ []
theorem dksX1_to_0 : cX1_to.data.toList.drop 0 = dktX1_to_0 := by decide +kernel
theorem dX1_to_0 : decode cX1_to 0 = .ok (.iload_n 1, 1) := dk_27 (dk_at dksX1_to_0 0 rfl rfl)
theorem dX1_to_1 : decode cX1_to 1 = .ok (.iload_n 2, 1) := dk_28 (dk_at dksX1_to_0 1 rfl rfl)
theorem dX1_to_2 : decode cX1_to 2 = .ok (.ldc 25, 2) := dk_18 25 (dk_at dksX1_to_0 2 rfl rfl)
theorem dX1_to_4 : decode cX1_to 4 = .ok (.iand, 1) := dk_126 (dk_at dksX1_to_0 4 rfl rfl)
theorem dX1_to_5 : decode cX1_to 5 = .ok (.bipush 49, 2) := dk_16 49 (dk_at dksX1_to_0 5 rfl rfl)
theorem dX1_to_7 : decode cX1_to 7 = .ok (.iload_n 1, 1) := dk_27 (dk_at dksX1_to_0 7 rfl rfl)
theorem dX1_to_8 : decode cX1_to 8 = .ok (.isub, 1) := dk_100 (dk_at dksX1_to_0 8 rfl rfl)
theorem dX1_to_9 : decode cX1_to 9 = .ok (.irem, 1) := dk_112 (dk_at dksX1_to_0 9 rfl rfl)
theorem dX1_to_10 : decode cX1_to 10 = .ok (.iadd, 1) := dk_96 (dk_at dksX1_to_0 10 rfl rfl)
theorem dX1_to_11 : decode cX1_to 11 = .ok (.ireturn, 1) := dk_172 (dk_at dksX1_to_0 11 rfl rfl)
abbrev cX1_merge : ByteArray := prog_3_method_9_code
def yX1_merge : MethodName := ⟨RX1, "merge", "(II)V"⟩
def dkwX1_merge_1 : List UInt8 := [177]
abbrev dktX1_merge_1 : List UInt8 := dkwX1_merge_1 ++ []
def dkwX1_merge_0 : List UInt8 := [42, 27, 182, 0, 26, 62, 29, 42, 29, 28, 182, 0, 30, 42, 180, 0, 21, 42, 180, 0, 21, 184, 0, 40]
abbrev dktX1_merge_0 : List UInt8 := dkwX1_merge_0 ++ dktX1_merge_1
theorem dksX1_merge_0 : cX1_merge.data.toList.drop 0 = dktX1_merge_0 := by decide +kernel
theorem dksX1_merge_1 : cX1_merge.data.toList.drop 24 = dktX1_merge_1 := dk_seg dksX1_merge_0 24 rfl rfl
theorem dX1_merge_0 : decode cX1_merge 0 = .ok (.aload_n 0, 1) := dk_42 (dk_at dksX1_merge_0 0 rfl rfl)
theorem dX1_merge_1 : decode cX1_merge 1 = .ok (.iload_n 1, 1) := dk_27 (dk_at dksX1_merge_0 1 rfl rfl)
theorem dX1_merge_2 : decode cX1_merge 2 = .ok (.invokevirtual 26, 3) := dk_182 0 26 (dk_at dksX1_merge_0 2 rfl rfl)
theorem dX1_merge_5 : decode cX1_merge 5 = .ok (.istore_n 3, 1) := dk_62 (dk_at dksX1_merge_0 5 rfl rfl)
theorem dX1_merge_6 : decode cX1_merge 6 = .ok (.iload_n 3, 1) := dk_29 (dk_at dksX1_merge_0 6 rfl rfl)
theorem dX1_merge_7 : decode cX1_merge 7 = .ok (.aload_n 0, 1) := dk_42 (dk_at dksX1_merge_0 7 rfl rfl)
theorem dX1_merge_8 : decode cX1_merge 8 = .ok (.iload_n 3, 1) := dk_29 (dk_at dksX1_merge_0 8 rfl rfl)
theorem dX1_merge_9 : decode cX1_merge 9 = .ok (.iload_n 2, 1) := dk_28 (dk_at dksX1_merge_0 9 rfl rfl)
theorem dX1_merge_10 : decode cX1_merge 10 = .ok (.invokevirtual 30, 3) := dk_182 0 30 (dk_at dksX1_merge_0 10 rfl rfl)
theorem dX1_merge_13 : decode cX1_merge 13 = .ok (.aload_n 0, 1) := dk_42 (dk_at dksX1_merge_0 13 rfl rfl)
theorem dX1_merge_14 : decode cX1_merge 14 = .ok (.getfield 21, 3) := dk_180 0 21 (dk_at dksX1_merge_0 14 rfl rfl)
theorem dX1_merge_17 : decode cX1_merge 17 = .ok (.aload_n 0, 1) := dk_42 (dk_at dksX1_merge_0 17 rfl rfl)
theorem dX1_merge_18 : decode cX1_merge 18 = .ok (.getfield 21, 3) := dk_180 0 21 (dk_at dksX1_merge_0 18 rfl rfl)
theorem dX1_merge_21 : decode cX1_merge 21 = .ok (.invokestatic 40, 3) := dk_184 0 40 (dk_at dksX1_merge_0 21 rfl rfl)
theorem dX1_merge_24 : decode cX1_merge 24 = .ok (.return_, 1) := dk_177 (dk_at dksX1_merge_1 0 rfl rfl)
abbrev cX1_first : ByteArray := prog_3_method_4_code
def yX1_first : MethodName := ⟨RX1, "first", "(I)I"⟩
def dkwX1_first_0 : List UInt8 := [42, 180, 0, 7, 27, 18, 25, 126, 16, 48, 112, 46, 172]
abbrev dktX1_first_0 : List UInt8 := dkwX1_first_0 ++ []
theorem dksX1_first_0 : cX1_first.data.toList.drop 0 = dktX1_first_0 := by decide +kernel
theorem dX1_first_0 : decode cX1_first 0 = .ok (.aload_n 0, 1) := dk_42 (dk_at dksX1_first_0 0 rfl rfl)
theorem dX1_first_1 : decode cX1_first 1 = .ok (.getfield 7, 3) := dk_180 0 7 (dk_at dksX1_first_0 1 rfl rfl)
theorem dX1_first_4 : decode cX1_first 4 = .ok (.iload_n 1, 1) := dk_27 (dk_at dksX1_first_0 4 rfl rfl)
theorem dX1_first_5 : decode cX1_first 5 = .ok (.ldc 25, 2) := dk_18 25 (dk_at dksX1_first_0 5 rfl rfl)
theorem dX1_first_7 : decode cX1_first 7 = .ok (.iand, 1) := dk_126 (dk_at dksX1_first_0 7 rfl rfl)
theorem dX1_first_8 : decode cX1_first 8 = .ok (.bipush 48, 2) := dk_16 48 (dk_at dksX1_first_0 8 rfl rfl)
theorem dX1_first_10 : decode cX1_first 10 = .ok (.irem, 1) := dk_112 (dk_at dksX1_first_0 10 rfl rfl)
theorem dX1_first_11 : decode cX1_first 11 = .ok (.iaload, 1) := dk_46 (dk_at dksX1_first_0 11 rfl rfl)
theorem dX1_first_12 : decode cX1_first 12 = .ok (.ireturn, 1) := dk_172 (dk_at dksX1_first_0 12 rfl rfl)
abbrev cX1_second : ByteArray := prog_3_method_5_code
def yX1_second : MethodName := ⟨RX1, "second", "(I)I"⟩
def dkwX1_second_0 : List UInt8 := [42, 180, 0, 13, 27, 18, 25, 126, 16, 48, 112, 46, 172]
abbrev dktX1_second_0 : List UInt8 := dkwX1_second_0 ++ []
theorem dksX1_second_0 : cX1_second.data.toList.drop 0 = dktX1_second_0 := by decide +kernel
theorem dX1_second_0 : decode cX1_second 0 = .ok (.aload_n 0, 1) := dk_42 (dk_at dksX1_second_0 0 rfl rfl)
theorem dX1_second_1 : decode cX1_second 1 = .ok (.getfield 13, 3) := dk_180 0 13 (dk_at dksX1_second_0 1 rfl rfl)
theorem dX1_second_4 : decode cX1_second 4 = .ok (.iload_n 1, 1) := dk_27 (dk_at dksX1_second_0 4 rfl rfl)
theorem dX1_second_5 : decode cX1_second 5 = .ok (.ldc 25, 2) := dk_18 25 (dk_at dksX1_second_0 5 rfl rfl)
theorem dX1_second_7 : decode cX1_second 7 = .ok (.iand, 1) := dk_126 (dk_at dksX1_second_0 7 rfl rfl)
theorem dX1_second_8 : decode cX1_second 8 = .ok (.bipush 48, 2) := dk_16 48 (dk_at dksX1_second_0 8 rfl rfl)
theorem dX1_second_10 : decode cX1_second 10 = .ok (.irem, 1) := dk_112 (dk_at dksX1_second_0 10 rfl rfl)
theorem dX1_second_11 : decode cX1_second 11 = .ok (.iaload, 1) := dk_46 (dk_at dksX1_second_0 11 rfl rfl)
theorem dX1_second_12 : decode cX1_second 12 = .ok (.ireturn, 1) := dk_172 (dk_at dksX1_second_0 12 rfl rfl)
theorem q3 : (Jvm.Cond.initialized "SwapSortDesk") ∈ lw_all := lw_g (lw_at lw_m0 1 rfl) rfl
theorem q8 : (Jvm.Cond.instantiable "SwapSortDesk" (3 : Nat)) ∈ lw_all := lw_g (lw_at lw_m0 6 rfl) rfl
theorem q10 : (Jvm.Cond.instanceMethod ({ cls := "SwapSortDesk", name := "<init>", desc := "()V" } : Jvm.MethodName)) ∈ lw_all := lw_g (lw_at lw_m0 8 rfl) rfl
theorem q11 : (Jvm.Cond.code ({ cls := "SwapSortDesk", name := "<init>", desc := "()V" } : Jvm.MethodName) prog_3_method_1_code (1 : Nat) (Option.none : Option Jvm.ClassFile.FieldType)) ∈ lw_all := lw_g (lw_at lw_m0 9 rfl) rfl
theorem q12 : (Jvm.Cond.methodLink "SwapSortDesk" (1 : Nat) ({ cls := "java/lang/Object", name := "<init>", desc := "()V" } : Jvm.MethodName)) ∈ lw_all := lw_g (lw_at lw_m0 10 rfl) rfl
theorem q15 : (Jvm.Cond.classLink "SwapSortDesk" (16 : Nat) "SwapSortDesk$Rows") ∈ lw_all := lw_g (lw_at lw_m0 13 rfl) rfl
theorem q17 : (Jvm.Cond.methodLinkNest "SwapSortDesk" (18 : Nat) ({ cls := "SwapSortDesk$Rows", name := "<init>", desc := "(LSwapSortDesk;)V" } : Jvm.MethodName) "SwapSortDesk") ∈ lw_tbl := lw_at lw_m0 15 rfl
theorem q26 : (Jvm.Cond.fieldLink "SwapSortDesk" (7 : Nat) "SwapSortDesk" "first" "[I") ∈ lw_all := lw_g (lw_at lw_m0 24 rfl) rfl
theorem q28 : (Jvm.Cond.fieldLink "SwapSortDesk" (13 : Nat) "SwapSortDesk" "second" "[I") ∈ lw_all := lw_g (lw_at lw_m0 26 rfl) rfl
theorem q30 : (Jvm.Cond.fieldLink "SwapSortDesk" (21 : Nat) "SwapSortDesk" "rows" "LSwapSortDesk$Rows;") ∈ lw_all := lw_g (lw_at lw_m0 28 rfl) rfl
theorem q31 : (Jvm.Cond.laysFinal "SwapSortDesk" "SwapSortDesk" "first" "[I") ∈ lw_all := lw_g (lw_at lw_m0 29 rfl) rfl
theorem q32 : (Jvm.Cond.soleField "SwapSortDesk" "first") ∈ lw_all := lw_g (lw_at lw_m0 30 rfl) rfl
theorem q33 : (Jvm.Cond.laysFinal "SwapSortDesk" "SwapSortDesk" "second" "[I") ∈ lw_all := lw_g (lw_at lw_m0 31 rfl) rfl
theorem q34 : (Jvm.Cond.soleField "SwapSortDesk" "second") ∈ lw_all := lw_g (lw_at lw_m0 32 rfl) rfl
theorem q35 : (Jvm.Cond.laysFinal "SwapSortDesk" "SwapSortDesk" "rows" "LSwapSortDesk$Rows;") ∈ lw_all := lw_g (lw_at lw_m0 33 rfl) rfl
theorem q36 : (Jvm.Cond.soleField "SwapSortDesk" "rows") ∈ lw_all := lw_g (lw_at lw_m0 34 rfl) rfl
theorem q37 : (Jvm.Cond.superclass "SwapSortDesk" "java/lang/Object") ∈ lw_all := lw_g (lw_at lw_m0 35 rfl) rfl
theorem q39 : (Jvm.Cond.instanceMethod ({ cls := "SwapSortDesk", name := "set", desc := "(III)V" } : Jvm.MethodName)) ∈ lw_all := lw_g (lw_at lw_m0 37 rfl) rfl
theorem q40 : (Jvm.Cond.selects "SwapSortDesk" ({ cls := "SwapSortDesk", name := "set", desc := "(III)V" } : Jvm.MethodName) ({ cls := "SwapSortDesk", name := "set", desc := "(III)V" } : Jvm.MethodName)) ∈ lw_all := lw_g (lw_at lw_m0 38 rfl) rfl
theorem q41 : (Jvm.Cond.code ({ cls := "SwapSortDesk", name := "set", desc := "(III)V" } : Jvm.MethodName) prog_3_method_2_code (5 : Nat) (Option.none : Option Jvm.ClassFile.FieldType)) ∈ lw_all := lw_g (lw_at lw_m0 39 rfl) rfl
theorem q42 : (Jvm.Cond.constant "SwapSortDesk" (25 : Nat) (2147483647 : Int32)) ∈ lw_all := lw_g (lw_at lw_m0 40 rfl) rfl
theorem q44 : (Jvm.Cond.instanceMethod ({ cls := "SwapSortDesk", name := "few", desc := "(III)V" } : Jvm.MethodName)) ∈ lw_all := lw_g (lw_at lw_m0 42 rfl) rfl
theorem q45 : (Jvm.Cond.selects "SwapSortDesk" ({ cls := "SwapSortDesk", name := "few", desc := "(III)V" } : Jvm.MethodName) ({ cls := "SwapSortDesk", name := "few", desc := "(III)V" } : Jvm.MethodName)) ∈ lw_all := lw_g (lw_at lw_m0 43 rfl) rfl
theorem q46 : (Jvm.Cond.code ({ cls := "SwapSortDesk", name := "few", desc := "(III)V" } : Jvm.MethodName) prog_3_method_3_code (5 : Nat) (Option.none : Option Jvm.ClassFile.FieldType)) ∈ lw_all := lw_g (lw_at lw_m0 44 rfl) rfl
theorem q48 : (Jvm.Cond.instanceMethod ({ cls := "SwapSortDesk", name := "quick", desc := "(II)V" } : Jvm.MethodName)) ∈ lw_all := lw_g (lw_at lw_m0 46 rfl) rfl
theorem q49 : (Jvm.Cond.selects "SwapSortDesk" ({ cls := "SwapSortDesk", name := "quick", desc := "(II)V" } : Jvm.MethodName) ({ cls := "SwapSortDesk", name := "quick", desc := "(II)V" } : Jvm.MethodName)) ∈ lw_all := lw_g (lw_at lw_m0 47 rfl) rfl
theorem q50 : (Jvm.Cond.code ({ cls := "SwapSortDesk", name := "quick", desc := "(II)V" } : Jvm.MethodName) prog_3_method_8_code (4 : Nat) (Option.none : Option Jvm.ClassFile.FieldType)) ∈ lw_all := lw_g (lw_at lw_m0 48 rfl) rfl
theorem q51 : (Jvm.Cond.methodLink "SwapSortDesk" (26 : Nat) ({ cls := "SwapSortDesk", name := "from", desc := "(I)I" } : Jvm.MethodName)) ∈ lw_all := lw_g (lw_at lw_m0 49 rfl) rfl
theorem q52 : (Jvm.Cond.privateMethod ({ cls := "SwapSortDesk", name := "from", desc := "(I)I" } : Jvm.MethodName)) ∈ lw_tbl := lw_at lw_m0 50 rfl
theorem q53 : (Jvm.Cond.instanceMethod ({ cls := "SwapSortDesk", name := "from", desc := "(I)I" } : Jvm.MethodName)) ∈ lw_all := lw_g (lw_at lw_m0 51 rfl) rfl
theorem q54 : (Jvm.Cond.code ({ cls := "SwapSortDesk", name := "from", desc := "(I)I" } : Jvm.MethodName) prog_3_method_6_code (2 : Nat) (Option.some Jvm.ClassFile.FieldType.int)) ∈ lw_all := lw_g (lw_at lw_m0 52 rfl) rfl
theorem q55 : (Jvm.Cond.methodLink "SwapSortDesk" (30 : Nat) ({ cls := "SwapSortDesk", name := "to", desc := "(II)I" } : Jvm.MethodName)) ∈ lw_all := lw_g (lw_at lw_m0 53 rfl) rfl
theorem q56 : (Jvm.Cond.privateMethod ({ cls := "SwapSortDesk", name := "to", desc := "(II)I" } : Jvm.MethodName)) ∈ lw_tbl := lw_at lw_m0 54 rfl
theorem q57 : (Jvm.Cond.instanceMethod ({ cls := "SwapSortDesk", name := "to", desc := "(II)I" } : Jvm.MethodName)) ∈ lw_all := lw_g (lw_at lw_m0 55 rfl) rfl
theorem q58 : (Jvm.Cond.code ({ cls := "SwapSortDesk", name := "to", desc := "(II)I" } : Jvm.MethodName) prog_3_method_7_code (3 : Nat) (Option.some Jvm.ClassFile.FieldType.int)) ∈ lw_all := lw_g (lw_at lw_m0 56 rfl) rfl
theorem q59 : (Jvm.Cond.methodLink "SwapSortDesk" (34 : Nat) ({ cls := "OwnArrays", name := "quickSort", desc := "(IILIntComparator;LSwapper;)V" } : Jvm.MethodName)) ∈ lw_all := lw_g (lw_at lw_m0 57 rfl) rfl
theorem q93 : (Jvm.Cond.instanceMethod ({ cls := "SwapSortDesk", name := "merge", desc := "(II)V" } : Jvm.MethodName)) ∈ lw_all := lw_g (lw_at lw_m0 91 rfl) rfl
theorem q94 : (Jvm.Cond.selects "SwapSortDesk" ({ cls := "SwapSortDesk", name := "merge", desc := "(II)V" } : Jvm.MethodName) ({ cls := "SwapSortDesk", name := "merge", desc := "(II)V" } : Jvm.MethodName)) ∈ lw_all := lw_g (lw_at lw_m0 92 rfl) rfl
theorem q95 : (Jvm.Cond.code ({ cls := "SwapSortDesk", name := "merge", desc := "(II)V" } : Jvm.MethodName) prog_3_method_9_code (4 : Nat) (Option.none : Option Jvm.ClassFile.FieldType)) ∈ lw_all := lw_g (lw_at lw_m0 93 rfl) rfl
theorem q96 : (Jvm.Cond.methodLink "SwapSortDesk" (40 : Nat) ({ cls := "OwnArrays", name := "mergeSort", desc := "(IILIntComparator;LSwapper;)V" } : Jvm.MethodName)) ∈ lw_all := lw_g (lw_at lw_m0 94 rfl) rfl
theorem q126 : (Jvm.Cond.instanceMethod ({ cls := "SwapSortDesk", name := "first", desc := "(I)I" } : Jvm.MethodName)) ∈ lw_all := lw_g (lw_at lw_m0 124 rfl) rfl
theorem q127 : (Jvm.Cond.selects "SwapSortDesk" ({ cls := "SwapSortDesk", name := "first", desc := "(I)I" } : Jvm.MethodName) ({ cls := "SwapSortDesk", name := "first", desc := "(I)I" } : Jvm.MethodName)) ∈ lw_all := lw_g (lw_at lw_m0 125 rfl) rfl
theorem q128 : (Jvm.Cond.code ({ cls := "SwapSortDesk", name := "first", desc := "(I)I" } : Jvm.MethodName) prog_3_method_4_code (2 : Nat) (Option.some Jvm.ClassFile.FieldType.int)) ∈ lw_all := lw_g (lw_at lw_m0 126 rfl) rfl
theorem q130 : (Jvm.Cond.instanceMethod ({ cls := "SwapSortDesk", name := "second", desc := "(I)I" } : Jvm.MethodName)) ∈ lw_all := lw_g (lw_at lw_m0 128 rfl) rfl
theorem q131 : (Jvm.Cond.selects "SwapSortDesk" ({ cls := "SwapSortDesk", name := "second", desc := "(I)I" } : Jvm.MethodName) ({ cls := "SwapSortDesk", name := "second", desc := "(I)I" } : Jvm.MethodName)) ∈ lw_all := lw_g (lw_at lw_m0 129 rfl) rfl
theorem q132 : (Jvm.Cond.code ({ cls := "SwapSortDesk", name := "second", desc := "(I)I" } : Jvm.MethodName) prog_3_method_5_code (2 : Nat) (Option.some Jvm.ClassFile.FieldType.int)) ∈ lw_all := lw_g (lw_at lw_m0 130 rfl) rfl
theorem in_X1 : ∀ w ∈ wsX10, w ∈ lw_all := lw_in wsX10 [31, 33, 35] (by decide +kernel) (by decide +kernel)
end
section
/-! OwnArrays -/
set_option maxRecDepth 100000
def RX3 : String := "OwnArrays"
abbrev cX3_quickSort : ByteArray := prog_2_method_7_code
def yX3_quickSort : MethodName := ⟨RX3, "quickSort", "(IILIntComparator;LSwapper;)V"⟩
def dkwX3_quickSort_20 : List UInt8 := [100, 89, 54, 12, 4, 164, 0, 13, 27, 21, 12, 100, 27, 44, 45, 184, 0, 41, 177]
abbrev dktX3_quickSort_20 : List UInt8 := dkwX3_quickSort_20 ++ []
def dkwX3_quickSort_19 : List UInt8 := [21, 8, 100, 89, 54, 12, 4, 164, 0, 13, 26, 26, 21, 12, 96, 44, 45, 184, 0, 41, 21, 11, 21, 10]
abbrev dktX3_quickSort_19 : List UInt8 := dkwX3_quickSort_19 ++ dktX3_quickSort_20
def dkwX3_quickSort_18 : List UInt8 := [21, 11, 100, 4, 100, 184, 0, 33, 54, 12, 45, 21, 9, 27, 21, 12, 100, 21, 12, 184, 0, 38, 21, 9]
abbrev dktX3_quickSort_18 : List UInt8 := dkwX3_quickSort_18 ++ dktX3_quickSort_19
def dkwX3_quickSort_17 : List UInt8 := [184, 0, 33, 54, 12, 45, 26, 21, 9, 21, 12, 100, 21, 12, 184, 0, 38, 21, 11, 21, 10, 100, 27]
abbrev dktX3_quickSort_17 : List UInt8 := dkwX3_quickSort_17 ++ dktX3_quickSort_18
def dkwX3_quickSort_16 : List UInt8 := [21, 10, 132, 10, 255, 185, 0, 7, 3, 0, 167, 255, 61, 21, 8, 26, 100, 21, 9, 21, 8, 100]
abbrev dktX3_quickSort_16 : List UInt8 := dkwX3_quickSort_16 ++ dktX3_quickSort_17
def dkwX3_quickSort_15 : List UInt8 := [21, 10, 54, 5, 167, 0, 14, 21, 10, 21, 5, 160, 0, 7, 21, 9, 54, 5, 45, 21, 9, 132, 9, 1]
abbrev dktX3_quickSort_15 : List UInt8 := dkwX3_quickSort_15 ++ dktX3_quickSort_16
def dkwX3_quickSort_14 : List UInt8 := [132, 10, 255, 167, 255, 187, 21, 9, 21, 10, 164, 0, 6, 167, 0, 47, 21, 9, 21, 5, 160, 0, 10]
abbrev dktX3_quickSort_14 : List UInt8 := dkwX3_quickSort_14 ++ dktX3_quickSort_15
def dkwX3_quickSort_13 : List UInt8 := [21, 5, 160, 0, 7, 21, 10, 54, 5, 45, 21, 10, 21, 11, 132, 11, 255, 185, 0, 7, 3, 0]
abbrev dktX3_quickSort_13 : List UInt8 := dkwX3_quickSort_13 ++ dktX3_quickSort_14
def dkwX3_quickSort_12 : List UInt8 := [155, 0, 52, 21, 12, 154, 0, 41, 21, 10, 21, 5, 160, 0, 10, 21, 11, 54, 5, 167, 0, 14, 21, 11]
abbrev dktX3_quickSort_12 : List UInt8 := dkwX3_quickSort_12 ++ dktX3_quickSort_13
def dkwX3_quickSort_11 : List UInt8 := [167, 255, 187, 21, 10, 21, 9, 161, 0, 68, 44, 21, 10, 21, 5, 185, 0, 1, 3, 0, 89, 54, 12]
abbrev dktX3_quickSort_11 : List UInt8 := dkwX3_quickSort_11 ++ dktX3_quickSort_12
def dkwX3_quickSort_10 : List UInt8 := [160, 0, 7, 21, 8, 54, 5, 45, 21, 8, 132, 8, 1, 21, 9, 185, 0, 7, 3, 0, 132, 9, 1]
abbrev dktX3_quickSort_10 : List UInt8 := dkwX3_quickSort_10 ++ dktX3_quickSort_11
def dkwX3_quickSort_9 : List UInt8 := [21, 12, 154, 0, 41, 21, 8, 21, 5, 160, 0, 10, 21, 9, 54, 5, 167, 0, 14, 21, 9, 21, 5]
abbrev dktX3_quickSort_9 : List UInt8 := dkwX3_quickSort_9 ++ dktX3_quickSort_10
def dkwX3_quickSort_8 : List UInt8 := [21, 9, 21, 10, 163, 0, 68, 44, 21, 9, 21, 5, 185, 0, 1, 3, 0, 89, 54, 12, 157, 0, 52]
abbrev dktX3_quickSort_8 : List UInt8 := dkwX3_quickSort_8 ++ dktX3_quickSort_9
def dkwX3_quickSort_7 : List UInt8 := [21, 7, 44, 184, 0, 30, 54, 5, 26, 54, 8, 21, 8, 54, 9, 27, 4, 100, 54, 10, 21, 10, 54, 11]
abbrev dktX3_quickSort_7 : List UInt8 := dkwX3_quickSort_7 ++ dktX3_quickSort_8
def dkwX3_quickSort_6 : List UInt8 := [21, 7, 5, 21, 8, 104, 100, 21, 7, 21, 8, 100, 21, 7, 44, 184, 0, 30, 54, 7, 21, 6, 21, 5]
abbrev dktX3_quickSort_6 : List UInt8 := dkwX3_quickSort_6 ++ dktX3_quickSort_7
def dkwX3_quickSort_5 : List UInt8 := [184, 0, 30, 54, 6, 21, 5, 21, 8, 100, 21, 5, 21, 5, 21, 8, 96, 44, 184, 0, 30, 54, 5]
abbrev dktX3_quickSort_5 : List UInt8 := dkwX3_quickSort_5 ++ dktX3_quickSort_6
def dkwX3_quickSort_4 : List UInt8 := [21, 4, 16, 8, 108, 54, 8, 21, 6, 21, 6, 21, 8, 96, 21, 6, 5, 21, 8, 104, 96, 44]
abbrev dktX3_quickSort_4 : List UInt8 := dkwX3_quickSort_4 ++ dktX3_quickSort_5
def dkwX3_quickSort_3 : List UInt8 := [26, 21, 4, 5, 108, 96, 54, 5, 26, 54, 6, 27, 4, 100, 54, 7, 21, 4, 17, 0, 128, 164, 0, 68]
abbrev dktX3_quickSort_3 : List UInt8 := dkwX3_quickSort_3 ++ dktX3_quickSort_4
def dkwX3_quickSort_2 : List UInt8 := [21, 6, 21, 6, 4, 100, 185, 0, 7, 3, 0, 132, 6, 255, 167, 255, 220, 132, 5, 1, 167, 255, 204, 177]
abbrev dktX3_quickSort_2 : List UInt8 := dkwX3_quickSort_2 ++ dktX3_quickSort_3
def dkwX3_quickSort_1 : List UInt8 := [54, 6, 21, 6, 26, 164, 0, 36, 44, 21, 6, 4, 100, 21, 6, 185, 0, 1, 3, 0, 158, 0, 21, 45]
abbrev dktX3_quickSort_1 : List UInt8 := dkwX3_quickSort_1 ++ dktX3_quickSort_2
def dkwX3_quickSort_0 : List UInt8 := [27, 26, 100, 54, 4, 21, 4, 16, 16, 162, 0, 62, 26, 54, 5, 21, 5, 27, 162, 0, 52, 21, 5]
abbrev dktX3_quickSort_0 : List UInt8 := dkwX3_quickSort_0 ++ dktX3_quickSort_1
theorem dksX3_quickSort_0 : cX3_quickSort.data.toList.drop 0 = dktX3_quickSort_0 := by decide +kernel
theorem dksX3_quickSort_1 : cX3_quickSort.data.toList.drop 23 = dktX3_quickSort_1 := dk_seg dksX3_quickSort_0 23 rfl rfl
theorem dksX3_quickSort_2 : cX3_quickSort.data.toList.drop 47 = dktX3_quickSort_2 := dk_seg dksX3_quickSort_1 24 rfl rfl
theorem dksX3_quickSort_3 : cX3_quickSort.data.toList.drop 71 = dktX3_quickSort_3 := dk_seg dksX3_quickSort_2 24 rfl rfl
theorem dksX3_quickSort_4 : cX3_quickSort.data.toList.drop 95 = dktX3_quickSort_4 := dk_seg dksX3_quickSort_3 24 rfl rfl
theorem dksX3_quickSort_5 : cX3_quickSort.data.toList.drop 117 = dktX3_quickSort_5 := dk_seg dksX3_quickSort_4 22 rfl rfl
theorem dksX3_quickSort_6 : cX3_quickSort.data.toList.drop 140 = dktX3_quickSort_6 := dk_seg dksX3_quickSort_5 23 rfl rfl
theorem dksX3_quickSort_7 : cX3_quickSort.data.toList.drop 164 = dktX3_quickSort_7 := dk_seg dksX3_quickSort_6 24 rfl rfl
theorem dksX3_quickSort_8 : cX3_quickSort.data.toList.drop 188 = dktX3_quickSort_8 := dk_seg dksX3_quickSort_7 24 rfl rfl
theorem dksX3_quickSort_9 : cX3_quickSort.data.toList.drop 211 = dktX3_quickSort_9 := dk_seg dksX3_quickSort_8 23 rfl rfl
theorem dksX3_quickSort_10 : cX3_quickSort.data.toList.drop 234 = dktX3_quickSort_10 := dk_seg dksX3_quickSort_9 23 rfl rfl
theorem dksX3_quickSort_11 : cX3_quickSort.data.toList.drop 257 = dktX3_quickSort_11 := dk_seg dksX3_quickSort_10 23 rfl rfl
theorem dksX3_quickSort_12 : cX3_quickSort.data.toList.drop 280 = dktX3_quickSort_12 := dk_seg dksX3_quickSort_11 23 rfl rfl
theorem dksX3_quickSort_13 : cX3_quickSort.data.toList.drop 304 = dktX3_quickSort_13 := dk_seg dksX3_quickSort_12 24 rfl rfl
theorem dksX3_quickSort_14 : cX3_quickSort.data.toList.drop 326 = dktX3_quickSort_14 := dk_seg dksX3_quickSort_13 22 rfl rfl
theorem dksX3_quickSort_15 : cX3_quickSort.data.toList.drop 349 = dktX3_quickSort_15 := dk_seg dksX3_quickSort_14 23 rfl rfl
theorem dksX3_quickSort_16 : cX3_quickSort.data.toList.drop 373 = dktX3_quickSort_16 := dk_seg dksX3_quickSort_15 24 rfl rfl
theorem dksX3_quickSort_17 : cX3_quickSort.data.toList.drop 395 = dktX3_quickSort_17 := dk_seg dksX3_quickSort_16 22 rfl rfl
theorem dksX3_quickSort_18 : cX3_quickSort.data.toList.drop 418 = dktX3_quickSort_18 := dk_seg dksX3_quickSort_17 23 rfl rfl
theorem dksX3_quickSort_19 : cX3_quickSort.data.toList.drop 442 = dktX3_quickSort_19 := dk_seg dksX3_quickSort_18 24 rfl rfl
theorem dksX3_quickSort_20 : cX3_quickSort.data.toList.drop 466 = dktX3_quickSort_20 := dk_seg dksX3_quickSort_19 24 rfl rfl
theorem dX3_quickSort_0 : decode cX3_quickSort 0 = .ok (.iload_n 1, 1) := dk_27 (dk_at dksX3_quickSort_0 0 rfl rfl)
theorem dX3_quickSort_1 : decode cX3_quickSort 1 = .ok (.iload_n 0, 1) := dk_26 (dk_at dksX3_quickSort_0 1 rfl rfl)
theorem dX3_quickSort_2 : decode cX3_quickSort 2 = .ok (.isub, 1) := dk_100 (dk_at dksX3_quickSort_0 2 rfl rfl)
theorem dX3_quickSort_3 : decode cX3_quickSort 3 = .ok (.istore 4, 2) := dk_54 4 (dk_at dksX3_quickSort_0 3 rfl rfl)
theorem dX3_quickSort_5 : decode cX3_quickSort 5 = .ok (.iload 4, 2) := dk_21 4 (dk_at dksX3_quickSort_0 5 rfl rfl)
theorem dX3_quickSort_7 : decode cX3_quickSort 7 = .ok (.bipush 16, 2) := dk_16 16 (dk_at dksX3_quickSort_0 7 rfl rfl)
theorem dX3_quickSort_9 : decode cX3_quickSort 9 = .ok (.if_icmp .ge 62, 3) := dk_162 0 62 (dk_at dksX3_quickSort_0 9 rfl rfl)
theorem dX3_quickSort_12 : decode cX3_quickSort 12 = .ok (.iload_n 0, 1) := dk_26 (dk_at dksX3_quickSort_0 12 rfl rfl)
theorem dX3_quickSort_13 : decode cX3_quickSort 13 = .ok (.istore 5, 2) := dk_54 5 (dk_at dksX3_quickSort_0 13 rfl rfl)
theorem dX3_quickSort_15 : decode cX3_quickSort 15 = .ok (.iload 5, 2) := dk_21 5 (dk_at dksX3_quickSort_0 15 rfl rfl)
theorem dX3_quickSort_17 : decode cX3_quickSort 17 = .ok (.iload_n 1, 1) := dk_27 (dk_at dksX3_quickSort_0 17 rfl rfl)
theorem dX3_quickSort_18 : decode cX3_quickSort 18 = .ok (.if_icmp .ge 52, 3) := dk_162 0 52 (dk_at dksX3_quickSort_0 18 rfl rfl)
theorem dX3_quickSort_21 : decode cX3_quickSort 21 = .ok (.iload 5, 2) := dk_21 5 (dk_at dksX3_quickSort_0 21 rfl rfl)
theorem dX3_quickSort_23 : decode cX3_quickSort 23 = .ok (.istore 6, 2) := dk_54 6 (dk_at dksX3_quickSort_1 0 rfl rfl)
theorem dX3_quickSort_25 : decode cX3_quickSort 25 = .ok (.iload 6, 2) := dk_21 6 (dk_at dksX3_quickSort_1 2 rfl rfl)
theorem dX3_quickSort_27 : decode cX3_quickSort 27 = .ok (.iload_n 0, 1) := dk_26 (dk_at dksX3_quickSort_1 4 rfl rfl)
theorem dX3_quickSort_28 : decode cX3_quickSort 28 = .ok (.if_icmp .le 36, 3) := dk_164 0 36 (dk_at dksX3_quickSort_1 5 rfl rfl)
theorem dX3_quickSort_31 : decode cX3_quickSort 31 = .ok (.aload_n 2, 1) := dk_44 (dk_at dksX3_quickSort_1 8 rfl rfl)
theorem dX3_quickSort_32 : decode cX3_quickSort 32 = .ok (.iload 6, 2) := dk_21 6 (dk_at dksX3_quickSort_1 9 rfl rfl)
theorem dX3_quickSort_34 : decode cX3_quickSort 34 = .ok (.iconst 1, 1) := dk_4 (dk_at dksX3_quickSort_1 11 rfl rfl)
theorem dX3_quickSort_35 : decode cX3_quickSort 35 = .ok (.isub, 1) := dk_100 (dk_at dksX3_quickSort_1 12 rfl rfl)
theorem dX3_quickSort_36 : decode cX3_quickSort 36 = .ok (.iload 6, 2) := dk_21 6 (dk_at dksX3_quickSort_1 13 rfl rfl)
theorem dX3_quickSort_38 : decode cX3_quickSort 38 = .ok (.invokeinterface 1 3, 5) := by decide +kernel
theorem dX3_quickSort_43 : decode cX3_quickSort 43 = .ok (.ifCond .le 21, 3) := dk_158 0 21 (dk_at dksX3_quickSort_1 20 rfl rfl)
theorem dX3_quickSort_46 : decode cX3_quickSort 46 = .ok (.aload_n 3, 1) := dk_45 (dk_at dksX3_quickSort_1 23 rfl rfl)
theorem dX3_quickSort_47 : decode cX3_quickSort 47 = .ok (.iload 6, 2) := dk_21 6 (dk_at dksX3_quickSort_2 0 rfl rfl)
theorem dX3_quickSort_49 : decode cX3_quickSort 49 = .ok (.iload 6, 2) := dk_21 6 (dk_at dksX3_quickSort_2 2 rfl rfl)
theorem dX3_quickSort_51 : decode cX3_quickSort 51 = .ok (.iconst 1, 1) := dk_4 (dk_at dksX3_quickSort_2 4 rfl rfl)
theorem dX3_quickSort_52 : decode cX3_quickSort 52 = .ok (.isub, 1) := dk_100 (dk_at dksX3_quickSort_2 5 rfl rfl)
theorem dX3_quickSort_53 : decode cX3_quickSort 53 = .ok (.invokeinterface 7 3, 5) := by decide +kernel
theorem dX3_quickSort_58 : decode cX3_quickSort 58 = .ok (.iinc 6 (-1), 3) := dk_132 6 255 (dk_at dksX3_quickSort_2 11 rfl rfl)
theorem dX3_quickSort_61 : decode cX3_quickSort 61 = .ok (.goto (-36), 3) := dk_167 255 220 (dk_at dksX3_quickSort_2 14 rfl rfl)
theorem dX3_quickSort_64 : decode cX3_quickSort 64 = .ok (.iinc 5 1, 3) := dk_132 5 1 (dk_at dksX3_quickSort_2 17 rfl rfl)
theorem dX3_quickSort_67 : decode cX3_quickSort 67 = .ok (.goto (-52), 3) := dk_167 255 204 (dk_at dksX3_quickSort_2 20 rfl rfl)
theorem dX3_quickSort_70 : decode cX3_quickSort 70 = .ok (.return_, 1) := dk_177 (dk_at dksX3_quickSort_2 23 rfl rfl)
theorem dX3_quickSort_71 : decode cX3_quickSort 71 = .ok (.iload_n 0, 1) := dk_26 (dk_at dksX3_quickSort_3 0 rfl rfl)
theorem dX3_quickSort_72 : decode cX3_quickSort 72 = .ok (.iload 4, 2) := dk_21 4 (dk_at dksX3_quickSort_3 1 rfl rfl)
theorem dX3_quickSort_74 : decode cX3_quickSort 74 = .ok (.iconst 2, 1) := dk_5 (dk_at dksX3_quickSort_3 3 rfl rfl)
theorem dX3_quickSort_75 : decode cX3_quickSort 75 = .ok (.idiv, 1) := dk_108 (dk_at dksX3_quickSort_3 4 rfl rfl)
theorem dX3_quickSort_76 : decode cX3_quickSort 76 = .ok (.iadd, 1) := dk_96 (dk_at dksX3_quickSort_3 5 rfl rfl)
theorem dX3_quickSort_77 : decode cX3_quickSort 77 = .ok (.istore 5, 2) := dk_54 5 (dk_at dksX3_quickSort_3 6 rfl rfl)
theorem dX3_quickSort_79 : decode cX3_quickSort 79 = .ok (.iload_n 0, 1) := dk_26 (dk_at dksX3_quickSort_3 8 rfl rfl)
theorem dX3_quickSort_80 : decode cX3_quickSort 80 = .ok (.istore 6, 2) := dk_54 6 (dk_at dksX3_quickSort_3 9 rfl rfl)
theorem dX3_quickSort_82 : decode cX3_quickSort 82 = .ok (.iload_n 1, 1) := dk_27 (dk_at dksX3_quickSort_3 11 rfl rfl)
theorem dX3_quickSort_83 : decode cX3_quickSort 83 = .ok (.iconst 1, 1) := dk_4 (dk_at dksX3_quickSort_3 12 rfl rfl)
theorem dX3_quickSort_84 : decode cX3_quickSort 84 = .ok (.isub, 1) := dk_100 (dk_at dksX3_quickSort_3 13 rfl rfl)
theorem dX3_quickSort_85 : decode cX3_quickSort 85 = .ok (.istore 7, 2) := dk_54 7 (dk_at dksX3_quickSort_3 14 rfl rfl)
theorem dX3_quickSort_87 : decode cX3_quickSort 87 = .ok (.iload 4, 2) := dk_21 4 (dk_at dksX3_quickSort_3 16 rfl rfl)
theorem dX3_quickSort_89 : decode cX3_quickSort 89 = .ok (.sipush 128, 3) := dk_17 0 128 (dk_at dksX3_quickSort_3 18 rfl rfl)
theorem dX3_quickSort_92 : decode cX3_quickSort 92 = .ok (.if_icmp .le 68, 3) := dk_164 0 68 (dk_at dksX3_quickSort_3 21 rfl rfl)
theorem dX3_quickSort_95 : decode cX3_quickSort 95 = .ok (.iload 4, 2) := dk_21 4 (dk_at dksX3_quickSort_4 0 rfl rfl)
theorem dX3_quickSort_97 : decode cX3_quickSort 97 = .ok (.bipush 8, 2) := dk_16 8 (dk_at dksX3_quickSort_4 2 rfl rfl)
theorem dX3_quickSort_99 : decode cX3_quickSort 99 = .ok (.idiv, 1) := dk_108 (dk_at dksX3_quickSort_4 4 rfl rfl)
theorem dX3_quickSort_100 : decode cX3_quickSort 100 = .ok (.istore 8, 2) := dk_54 8 (dk_at dksX3_quickSort_4 5 rfl rfl)
theorem dX3_quickSort_102 : decode cX3_quickSort 102 = .ok (.iload 6, 2) := dk_21 6 (dk_at dksX3_quickSort_4 7 rfl rfl)
theorem dX3_quickSort_104 : decode cX3_quickSort 104 = .ok (.iload 6, 2) := dk_21 6 (dk_at dksX3_quickSort_4 9 rfl rfl)
theorem dX3_quickSort_106 : decode cX3_quickSort 106 = .ok (.iload 8, 2) := dk_21 8 (dk_at dksX3_quickSort_4 11 rfl rfl)
theorem dX3_quickSort_108 : decode cX3_quickSort 108 = .ok (.iadd, 1) := dk_96 (dk_at dksX3_quickSort_4 13 rfl rfl)
theorem dX3_quickSort_109 : decode cX3_quickSort 109 = .ok (.iload 6, 2) := dk_21 6 (dk_at dksX3_quickSort_4 14 rfl rfl)
theorem dX3_quickSort_111 : decode cX3_quickSort 111 = .ok (.iconst 2, 1) := dk_5 (dk_at dksX3_quickSort_4 16 rfl rfl)
theorem dX3_quickSort_112 : decode cX3_quickSort 112 = .ok (.iload 8, 2) := dk_21 8 (dk_at dksX3_quickSort_4 17 rfl rfl)
theorem dX3_quickSort_114 : decode cX3_quickSort 114 = .ok (.imul, 1) := dk_104 (dk_at dksX3_quickSort_4 19 rfl rfl)
theorem dX3_quickSort_115 : decode cX3_quickSort 115 = .ok (.iadd, 1) := dk_96 (dk_at dksX3_quickSort_4 20 rfl rfl)
theorem dX3_quickSort_116 : decode cX3_quickSort 116 = .ok (.aload_n 2, 1) := dk_44 (dk_at dksX3_quickSort_4 21 rfl rfl)
theorem dX3_quickSort_117 : decode cX3_quickSort 117 = .ok (.invokestatic 30, 3) := dk_184 0 30 (dk_at dksX3_quickSort_5 0 rfl rfl)
theorem dX3_quickSort_120 : decode cX3_quickSort 120 = .ok (.istore 6, 2) := dk_54 6 (dk_at dksX3_quickSort_5 3 rfl rfl)
theorem dX3_quickSort_122 : decode cX3_quickSort 122 = .ok (.iload 5, 2) := dk_21 5 (dk_at dksX3_quickSort_5 5 rfl rfl)
theorem dX3_quickSort_124 : decode cX3_quickSort 124 = .ok (.iload 8, 2) := dk_21 8 (dk_at dksX3_quickSort_5 7 rfl rfl)
theorem dX3_quickSort_126 : decode cX3_quickSort 126 = .ok (.isub, 1) := dk_100 (dk_at dksX3_quickSort_5 9 rfl rfl)
theorem dX3_quickSort_127 : decode cX3_quickSort 127 = .ok (.iload 5, 2) := dk_21 5 (dk_at dksX3_quickSort_5 10 rfl rfl)
theorem dX3_quickSort_129 : decode cX3_quickSort 129 = .ok (.iload 5, 2) := dk_21 5 (dk_at dksX3_quickSort_5 12 rfl rfl)
theorem dX3_quickSort_131 : decode cX3_quickSort 131 = .ok (.iload 8, 2) := dk_21 8 (dk_at dksX3_quickSort_5 14 rfl rfl)
theorem dX3_quickSort_133 : decode cX3_quickSort 133 = .ok (.iadd, 1) := dk_96 (dk_at dksX3_quickSort_5 16 rfl rfl)
theorem dX3_quickSort_134 : decode cX3_quickSort 134 = .ok (.aload_n 2, 1) := dk_44 (dk_at dksX3_quickSort_5 17 rfl rfl)
theorem dX3_quickSort_135 : decode cX3_quickSort 135 = .ok (.invokestatic 30, 3) := dk_184 0 30 (dk_at dksX3_quickSort_5 18 rfl rfl)
theorem dX3_quickSort_138 : decode cX3_quickSort 138 = .ok (.istore 5, 2) := dk_54 5 (dk_at dksX3_quickSort_5 21 rfl rfl)
theorem dX3_quickSort_140 : decode cX3_quickSort 140 = .ok (.iload 7, 2) := dk_21 7 (dk_at dksX3_quickSort_6 0 rfl rfl)
theorem dX3_quickSort_142 : decode cX3_quickSort 142 = .ok (.iconst 2, 1) := dk_5 (dk_at dksX3_quickSort_6 2 rfl rfl)
theorem dX3_quickSort_143 : decode cX3_quickSort 143 = .ok (.iload 8, 2) := dk_21 8 (dk_at dksX3_quickSort_6 3 rfl rfl)
theorem dX3_quickSort_145 : decode cX3_quickSort 145 = .ok (.imul, 1) := dk_104 (dk_at dksX3_quickSort_6 5 rfl rfl)
theorem dX3_quickSort_146 : decode cX3_quickSort 146 = .ok (.isub, 1) := dk_100 (dk_at dksX3_quickSort_6 6 rfl rfl)
theorem dX3_quickSort_147 : decode cX3_quickSort 147 = .ok (.iload 7, 2) := dk_21 7 (dk_at dksX3_quickSort_6 7 rfl rfl)
theorem dX3_quickSort_149 : decode cX3_quickSort 149 = .ok (.iload 8, 2) := dk_21 8 (dk_at dksX3_quickSort_6 9 rfl rfl)
theorem dX3_quickSort_151 : decode cX3_quickSort 151 = .ok (.isub, 1) := dk_100 (dk_at dksX3_quickSort_6 11 rfl rfl)
theorem dX3_quickSort_152 : decode cX3_quickSort 152 = .ok (.iload 7, 2) := dk_21 7 (dk_at dksX3_quickSort_6 12 rfl rfl)
theorem dX3_quickSort_154 : decode cX3_quickSort 154 = .ok (.aload_n 2, 1) := dk_44 (dk_at dksX3_quickSort_6 14 rfl rfl)
theorem dX3_quickSort_155 : decode cX3_quickSort 155 = .ok (.invokestatic 30, 3) := dk_184 0 30 (dk_at dksX3_quickSort_6 15 rfl rfl)
theorem dX3_quickSort_158 : decode cX3_quickSort 158 = .ok (.istore 7, 2) := dk_54 7 (dk_at dksX3_quickSort_6 18 rfl rfl)
theorem dX3_quickSort_160 : decode cX3_quickSort 160 = .ok (.iload 6, 2) := dk_21 6 (dk_at dksX3_quickSort_6 20 rfl rfl)
theorem dX3_quickSort_162 : decode cX3_quickSort 162 = .ok (.iload 5, 2) := dk_21 5 (dk_at dksX3_quickSort_6 22 rfl rfl)
theorem dX3_quickSort_164 : decode cX3_quickSort 164 = .ok (.iload 7, 2) := dk_21 7 (dk_at dksX3_quickSort_7 0 rfl rfl)
theorem dX3_quickSort_166 : decode cX3_quickSort 166 = .ok (.aload_n 2, 1) := dk_44 (dk_at dksX3_quickSort_7 2 rfl rfl)
theorem dX3_quickSort_167 : decode cX3_quickSort 167 = .ok (.invokestatic 30, 3) := dk_184 0 30 (dk_at dksX3_quickSort_7 3 rfl rfl)
theorem dX3_quickSort_170 : decode cX3_quickSort 170 = .ok (.istore 5, 2) := dk_54 5 (dk_at dksX3_quickSort_7 6 rfl rfl)
theorem dX3_quickSort_172 : decode cX3_quickSort 172 = .ok (.iload_n 0, 1) := dk_26 (dk_at dksX3_quickSort_7 8 rfl rfl)
theorem dX3_quickSort_173 : decode cX3_quickSort 173 = .ok (.istore 8, 2) := dk_54 8 (dk_at dksX3_quickSort_7 9 rfl rfl)
theorem dX3_quickSort_175 : decode cX3_quickSort 175 = .ok (.iload 8, 2) := dk_21 8 (dk_at dksX3_quickSort_7 11 rfl rfl)
theorem dX3_quickSort_177 : decode cX3_quickSort 177 = .ok (.istore 9, 2) := dk_54 9 (dk_at dksX3_quickSort_7 13 rfl rfl)
theorem dX3_quickSort_179 : decode cX3_quickSort 179 = .ok (.iload_n 1, 1) := dk_27 (dk_at dksX3_quickSort_7 15 rfl rfl)
theorem dX3_quickSort_180 : decode cX3_quickSort 180 = .ok (.iconst 1, 1) := dk_4 (dk_at dksX3_quickSort_7 16 rfl rfl)
theorem dX3_quickSort_181 : decode cX3_quickSort 181 = .ok (.isub, 1) := dk_100 (dk_at dksX3_quickSort_7 17 rfl rfl)
theorem dX3_quickSort_182 : decode cX3_quickSort 182 = .ok (.istore 10, 2) := dk_54 10 (dk_at dksX3_quickSort_7 18 rfl rfl)
theorem dX3_quickSort_184 : decode cX3_quickSort 184 = .ok (.iload 10, 2) := dk_21 10 (dk_at dksX3_quickSort_7 20 rfl rfl)
theorem dX3_quickSort_186 : decode cX3_quickSort 186 = .ok (.istore 11, 2) := dk_54 11 (dk_at dksX3_quickSort_7 22 rfl rfl)
theorem dX3_quickSort_188 : decode cX3_quickSort 188 = .ok (.iload 9, 2) := dk_21 9 (dk_at dksX3_quickSort_8 0 rfl rfl)
theorem dX3_quickSort_190 : decode cX3_quickSort 190 = .ok (.iload 10, 2) := dk_21 10 (dk_at dksX3_quickSort_8 2 rfl rfl)
theorem dX3_quickSort_192 : decode cX3_quickSort 192 = .ok (.if_icmp .gt 68, 3) := dk_163 0 68 (dk_at dksX3_quickSort_8 4 rfl rfl)
theorem dX3_quickSort_195 : decode cX3_quickSort 195 = .ok (.aload_n 2, 1) := dk_44 (dk_at dksX3_quickSort_8 7 rfl rfl)
theorem dX3_quickSort_196 : decode cX3_quickSort 196 = .ok (.iload 9, 2) := dk_21 9 (dk_at dksX3_quickSort_8 8 rfl rfl)
theorem dX3_quickSort_198 : decode cX3_quickSort 198 = .ok (.iload 5, 2) := dk_21 5 (dk_at dksX3_quickSort_8 10 rfl rfl)
theorem dX3_quickSort_200 : decode cX3_quickSort 200 = .ok (.invokeinterface 1 3, 5) := by decide +kernel
theorem dX3_quickSort_205 : decode cX3_quickSort 205 = .ok (.dup, 1) := dk_89 (dk_at dksX3_quickSort_8 17 rfl rfl)
theorem dX3_quickSort_206 : decode cX3_quickSort 206 = .ok (.istore 12, 2) := dk_54 12 (dk_at dksX3_quickSort_8 18 rfl rfl)
theorem dX3_quickSort_208 : decode cX3_quickSort 208 = .ok (.ifCond .gt 52, 3) := dk_157 0 52 (dk_at dksX3_quickSort_8 20 rfl rfl)
theorem dX3_quickSort_211 : decode cX3_quickSort 211 = .ok (.iload 12, 2) := dk_21 12 (dk_at dksX3_quickSort_9 0 rfl rfl)
theorem dX3_quickSort_213 : decode cX3_quickSort 213 = .ok (.ifCond .ne 41, 3) := dk_154 0 41 (dk_at dksX3_quickSort_9 2 rfl rfl)
theorem dX3_quickSort_216 : decode cX3_quickSort 216 = .ok (.iload 8, 2) := dk_21 8 (dk_at dksX3_quickSort_9 5 rfl rfl)
theorem dX3_quickSort_218 : decode cX3_quickSort 218 = .ok (.iload 5, 2) := dk_21 5 (dk_at dksX3_quickSort_9 7 rfl rfl)
theorem dX3_quickSort_220 : decode cX3_quickSort 220 = .ok (.if_icmp .ne 10, 3) := dk_160 0 10 (dk_at dksX3_quickSort_9 9 rfl rfl)
theorem dX3_quickSort_223 : decode cX3_quickSort 223 = .ok (.iload 9, 2) := dk_21 9 (dk_at dksX3_quickSort_9 12 rfl rfl)
theorem dX3_quickSort_225 : decode cX3_quickSort 225 = .ok (.istore 5, 2) := dk_54 5 (dk_at dksX3_quickSort_9 14 rfl rfl)
theorem dX3_quickSort_227 : decode cX3_quickSort 227 = .ok (.goto 14, 3) := dk_167 0 14 (dk_at dksX3_quickSort_9 16 rfl rfl)
theorem dX3_quickSort_230 : decode cX3_quickSort 230 = .ok (.iload 9, 2) := dk_21 9 (dk_at dksX3_quickSort_9 19 rfl rfl)
theorem dX3_quickSort_232 : decode cX3_quickSort 232 = .ok (.iload 5, 2) := dk_21 5 (dk_at dksX3_quickSort_9 21 rfl rfl)
theorem dX3_quickSort_234 : decode cX3_quickSort 234 = .ok (.if_icmp .ne 7, 3) := dk_160 0 7 (dk_at dksX3_quickSort_10 0 rfl rfl)
theorem dX3_quickSort_237 : decode cX3_quickSort 237 = .ok (.iload 8, 2) := dk_21 8 (dk_at dksX3_quickSort_10 3 rfl rfl)
theorem dX3_quickSort_239 : decode cX3_quickSort 239 = .ok (.istore 5, 2) := dk_54 5 (dk_at dksX3_quickSort_10 5 rfl rfl)
theorem dX3_quickSort_241 : decode cX3_quickSort 241 = .ok (.aload_n 3, 1) := dk_45 (dk_at dksX3_quickSort_10 7 rfl rfl)
theorem dX3_quickSort_242 : decode cX3_quickSort 242 = .ok (.iload 8, 2) := dk_21 8 (dk_at dksX3_quickSort_10 8 rfl rfl)
theorem dX3_quickSort_244 : decode cX3_quickSort 244 = .ok (.iinc 8 1, 3) := dk_132 8 1 (dk_at dksX3_quickSort_10 10 rfl rfl)
theorem dX3_quickSort_247 : decode cX3_quickSort 247 = .ok (.iload 9, 2) := dk_21 9 (dk_at dksX3_quickSort_10 13 rfl rfl)
theorem dX3_quickSort_249 : decode cX3_quickSort 249 = .ok (.invokeinterface 7 3, 5) := by decide +kernel
theorem dX3_quickSort_254 : decode cX3_quickSort 254 = .ok (.iinc 9 1, 3) := dk_132 9 1 (dk_at dksX3_quickSort_10 20 rfl rfl)
theorem dX3_quickSort_257 : decode cX3_quickSort 257 = .ok (.goto (-69), 3) := dk_167 255 187 (dk_at dksX3_quickSort_11 0 rfl rfl)
theorem dX3_quickSort_260 : decode cX3_quickSort 260 = .ok (.iload 10, 2) := dk_21 10 (dk_at dksX3_quickSort_11 3 rfl rfl)
theorem dX3_quickSort_262 : decode cX3_quickSort 262 = .ok (.iload 9, 2) := dk_21 9 (dk_at dksX3_quickSort_11 5 rfl rfl)
theorem dX3_quickSort_264 : decode cX3_quickSort 264 = .ok (.if_icmp .lt 68, 3) := dk_161 0 68 (dk_at dksX3_quickSort_11 7 rfl rfl)
theorem dX3_quickSort_267 : decode cX3_quickSort 267 = .ok (.aload_n 2, 1) := dk_44 (dk_at dksX3_quickSort_11 10 rfl rfl)
theorem dX3_quickSort_268 : decode cX3_quickSort 268 = .ok (.iload 10, 2) := dk_21 10 (dk_at dksX3_quickSort_11 11 rfl rfl)
theorem dX3_quickSort_270 : decode cX3_quickSort 270 = .ok (.iload 5, 2) := dk_21 5 (dk_at dksX3_quickSort_11 13 rfl rfl)
theorem dX3_quickSort_272 : decode cX3_quickSort 272 = .ok (.invokeinterface 1 3, 5) := by decide +kernel
theorem dX3_quickSort_277 : decode cX3_quickSort 277 = .ok (.dup, 1) := dk_89 (dk_at dksX3_quickSort_11 20 rfl rfl)
theorem dX3_quickSort_278 : decode cX3_quickSort 278 = .ok (.istore 12, 2) := dk_54 12 (dk_at dksX3_quickSort_11 21 rfl rfl)
theorem dX3_quickSort_280 : decode cX3_quickSort 280 = .ok (.ifCond .lt 52, 3) := dk_155 0 52 (dk_at dksX3_quickSort_12 0 rfl rfl)
theorem dX3_quickSort_283 : decode cX3_quickSort 283 = .ok (.iload 12, 2) := dk_21 12 (dk_at dksX3_quickSort_12 3 rfl rfl)
theorem dX3_quickSort_285 : decode cX3_quickSort 285 = .ok (.ifCond .ne 41, 3) := dk_154 0 41 (dk_at dksX3_quickSort_12 5 rfl rfl)
theorem dX3_quickSort_288 : decode cX3_quickSort 288 = .ok (.iload 10, 2) := dk_21 10 (dk_at dksX3_quickSort_12 8 rfl rfl)
theorem dX3_quickSort_290 : decode cX3_quickSort 290 = .ok (.iload 5, 2) := dk_21 5 (dk_at dksX3_quickSort_12 10 rfl rfl)
theorem dX3_quickSort_292 : decode cX3_quickSort 292 = .ok (.if_icmp .ne 10, 3) := dk_160 0 10 (dk_at dksX3_quickSort_12 12 rfl rfl)
theorem dX3_quickSort_295 : decode cX3_quickSort 295 = .ok (.iload 11, 2) := dk_21 11 (dk_at dksX3_quickSort_12 15 rfl rfl)
theorem dX3_quickSort_297 : decode cX3_quickSort 297 = .ok (.istore 5, 2) := dk_54 5 (dk_at dksX3_quickSort_12 17 rfl rfl)
theorem dX3_quickSort_299 : decode cX3_quickSort 299 = .ok (.goto 14, 3) := dk_167 0 14 (dk_at dksX3_quickSort_12 19 rfl rfl)
theorem dX3_quickSort_302 : decode cX3_quickSort 302 = .ok (.iload 11, 2) := dk_21 11 (dk_at dksX3_quickSort_12 22 rfl rfl)
theorem dX3_quickSort_304 : decode cX3_quickSort 304 = .ok (.iload 5, 2) := dk_21 5 (dk_at dksX3_quickSort_13 0 rfl rfl)
theorem dX3_quickSort_306 : decode cX3_quickSort 306 = .ok (.if_icmp .ne 7, 3) := dk_160 0 7 (dk_at dksX3_quickSort_13 2 rfl rfl)
theorem dX3_quickSort_309 : decode cX3_quickSort 309 = .ok (.iload 10, 2) := dk_21 10 (dk_at dksX3_quickSort_13 5 rfl rfl)
theorem dX3_quickSort_311 : decode cX3_quickSort 311 = .ok (.istore 5, 2) := dk_54 5 (dk_at dksX3_quickSort_13 7 rfl rfl)
theorem dX3_quickSort_313 : decode cX3_quickSort 313 = .ok (.aload_n 3, 1) := dk_45 (dk_at dksX3_quickSort_13 9 rfl rfl)
theorem dX3_quickSort_314 : decode cX3_quickSort 314 = .ok (.iload 10, 2) := dk_21 10 (dk_at dksX3_quickSort_13 10 rfl rfl)
theorem dX3_quickSort_316 : decode cX3_quickSort 316 = .ok (.iload 11, 2) := dk_21 11 (dk_at dksX3_quickSort_13 12 rfl rfl)
theorem dX3_quickSort_318 : decode cX3_quickSort 318 = .ok (.iinc 11 (-1), 3) := dk_132 11 255 (dk_at dksX3_quickSort_13 14 rfl rfl)
theorem dX3_quickSort_321 : decode cX3_quickSort 321 = .ok (.invokeinterface 7 3, 5) := by decide +kernel
theorem dX3_quickSort_326 : decode cX3_quickSort 326 = .ok (.iinc 10 (-1), 3) := dk_132 10 255 (dk_at dksX3_quickSort_14 0 rfl rfl)
theorem dX3_quickSort_329 : decode cX3_quickSort 329 = .ok (.goto (-69), 3) := dk_167 255 187 (dk_at dksX3_quickSort_14 3 rfl rfl)
theorem dX3_quickSort_332 : decode cX3_quickSort 332 = .ok (.iload 9, 2) := dk_21 9 (dk_at dksX3_quickSort_14 6 rfl rfl)
theorem dX3_quickSort_334 : decode cX3_quickSort 334 = .ok (.iload 10, 2) := dk_21 10 (dk_at dksX3_quickSort_14 8 rfl rfl)
theorem dX3_quickSort_336 : decode cX3_quickSort 336 = .ok (.if_icmp .le 6, 3) := dk_164 0 6 (dk_at dksX3_quickSort_14 10 rfl rfl)
theorem dX3_quickSort_339 : decode cX3_quickSort 339 = .ok (.goto 47, 3) := dk_167 0 47 (dk_at dksX3_quickSort_14 13 rfl rfl)
theorem dX3_quickSort_342 : decode cX3_quickSort 342 = .ok (.iload 9, 2) := dk_21 9 (dk_at dksX3_quickSort_14 16 rfl rfl)
theorem dX3_quickSort_344 : decode cX3_quickSort 344 = .ok (.iload 5, 2) := dk_21 5 (dk_at dksX3_quickSort_14 18 rfl rfl)
theorem dX3_quickSort_346 : decode cX3_quickSort 346 = .ok (.if_icmp .ne 10, 3) := dk_160 0 10 (dk_at dksX3_quickSort_14 20 rfl rfl)
theorem dX3_quickSort_349 : decode cX3_quickSort 349 = .ok (.iload 10, 2) := dk_21 10 (dk_at dksX3_quickSort_15 0 rfl rfl)
theorem dX3_quickSort_351 : decode cX3_quickSort 351 = .ok (.istore 5, 2) := dk_54 5 (dk_at dksX3_quickSort_15 2 rfl rfl)
theorem dX3_quickSort_353 : decode cX3_quickSort 353 = .ok (.goto 14, 3) := dk_167 0 14 (dk_at dksX3_quickSort_15 4 rfl rfl)
theorem dX3_quickSort_356 : decode cX3_quickSort 356 = .ok (.iload 10, 2) := dk_21 10 (dk_at dksX3_quickSort_15 7 rfl rfl)
theorem dX3_quickSort_358 : decode cX3_quickSort 358 = .ok (.iload 5, 2) := dk_21 5 (dk_at dksX3_quickSort_15 9 rfl rfl)
theorem dX3_quickSort_360 : decode cX3_quickSort 360 = .ok (.if_icmp .ne 7, 3) := dk_160 0 7 (dk_at dksX3_quickSort_15 11 rfl rfl)
theorem dX3_quickSort_363 : decode cX3_quickSort 363 = .ok (.iload 9, 2) := dk_21 9 (dk_at dksX3_quickSort_15 14 rfl rfl)
theorem dX3_quickSort_365 : decode cX3_quickSort 365 = .ok (.istore 5, 2) := dk_54 5 (dk_at dksX3_quickSort_15 16 rfl rfl)
theorem dX3_quickSort_367 : decode cX3_quickSort 367 = .ok (.aload_n 3, 1) := dk_45 (dk_at dksX3_quickSort_15 18 rfl rfl)
theorem dX3_quickSort_368 : decode cX3_quickSort 368 = .ok (.iload 9, 2) := dk_21 9 (dk_at dksX3_quickSort_15 19 rfl rfl)
theorem dX3_quickSort_370 : decode cX3_quickSort 370 = .ok (.iinc 9 1, 3) := dk_132 9 1 (dk_at dksX3_quickSort_15 21 rfl rfl)
theorem dX3_quickSort_373 : decode cX3_quickSort 373 = .ok (.iload 10, 2) := dk_21 10 (dk_at dksX3_quickSort_16 0 rfl rfl)
theorem dX3_quickSort_375 : decode cX3_quickSort 375 = .ok (.iinc 10 (-1), 3) := dk_132 10 255 (dk_at dksX3_quickSort_16 2 rfl rfl)
theorem dX3_quickSort_378 : decode cX3_quickSort 378 = .ok (.invokeinterface 7 3, 5) := by decide +kernel
theorem dX3_quickSort_383 : decode cX3_quickSort 383 = .ok (.goto (-195), 3) := dk_167 255 61 (dk_at dksX3_quickSort_16 10 rfl rfl)
theorem dX3_quickSort_386 : decode cX3_quickSort 386 = .ok (.iload 8, 2) := dk_21 8 (dk_at dksX3_quickSort_16 13 rfl rfl)
theorem dX3_quickSort_388 : decode cX3_quickSort 388 = .ok (.iload_n 0, 1) := dk_26 (dk_at dksX3_quickSort_16 15 rfl rfl)
theorem dX3_quickSort_389 : decode cX3_quickSort 389 = .ok (.isub, 1) := dk_100 (dk_at dksX3_quickSort_16 16 rfl rfl)
theorem dX3_quickSort_390 : decode cX3_quickSort 390 = .ok (.iload 9, 2) := dk_21 9 (dk_at dksX3_quickSort_16 17 rfl rfl)
theorem dX3_quickSort_392 : decode cX3_quickSort 392 = .ok (.iload 8, 2) := dk_21 8 (dk_at dksX3_quickSort_16 19 rfl rfl)
theorem dX3_quickSort_394 : decode cX3_quickSort 394 = .ok (.isub, 1) := dk_100 (dk_at dksX3_quickSort_16 21 rfl rfl)
theorem dX3_quickSort_395 : decode cX3_quickSort 395 = .ok (.invokestatic 33, 3) := dk_184 0 33 (dk_at dksX3_quickSort_17 0 rfl rfl)
theorem dX3_quickSort_398 : decode cX3_quickSort 398 = .ok (.istore 12, 2) := dk_54 12 (dk_at dksX3_quickSort_17 3 rfl rfl)
theorem dX3_quickSort_400 : decode cX3_quickSort 400 = .ok (.aload_n 3, 1) := dk_45 (dk_at dksX3_quickSort_17 5 rfl rfl)
theorem dX3_quickSort_401 : decode cX3_quickSort 401 = .ok (.iload_n 0, 1) := dk_26 (dk_at dksX3_quickSort_17 6 rfl rfl)
theorem dX3_quickSort_402 : decode cX3_quickSort 402 = .ok (.iload 9, 2) := dk_21 9 (dk_at dksX3_quickSort_17 7 rfl rfl)
theorem dX3_quickSort_404 : decode cX3_quickSort 404 = .ok (.iload 12, 2) := dk_21 12 (dk_at dksX3_quickSort_17 9 rfl rfl)
theorem dX3_quickSort_406 : decode cX3_quickSort 406 = .ok (.isub, 1) := dk_100 (dk_at dksX3_quickSort_17 11 rfl rfl)
theorem dX3_quickSort_407 : decode cX3_quickSort 407 = .ok (.iload 12, 2) := dk_21 12 (dk_at dksX3_quickSort_17 12 rfl rfl)
theorem dX3_quickSort_409 : decode cX3_quickSort 409 = .ok (.invokestatic 38, 3) := dk_184 0 38 (dk_at dksX3_quickSort_17 14 rfl rfl)
theorem dX3_quickSort_412 : decode cX3_quickSort 412 = .ok (.iload 11, 2) := dk_21 11 (dk_at dksX3_quickSort_17 17 rfl rfl)
theorem dX3_quickSort_414 : decode cX3_quickSort 414 = .ok (.iload 10, 2) := dk_21 10 (dk_at dksX3_quickSort_17 19 rfl rfl)
theorem dX3_quickSort_416 : decode cX3_quickSort 416 = .ok (.isub, 1) := dk_100 (dk_at dksX3_quickSort_17 21 rfl rfl)
theorem dX3_quickSort_417 : decode cX3_quickSort 417 = .ok (.iload_n 1, 1) := dk_27 (dk_at dksX3_quickSort_17 22 rfl rfl)
theorem dX3_quickSort_418 : decode cX3_quickSort 418 = .ok (.iload 11, 2) := dk_21 11 (dk_at dksX3_quickSort_18 0 rfl rfl)
theorem dX3_quickSort_420 : decode cX3_quickSort 420 = .ok (.isub, 1) := dk_100 (dk_at dksX3_quickSort_18 2 rfl rfl)
theorem dX3_quickSort_421 : decode cX3_quickSort 421 = .ok (.iconst 1, 1) := dk_4 (dk_at dksX3_quickSort_18 3 rfl rfl)
theorem dX3_quickSort_422 : decode cX3_quickSort 422 = .ok (.isub, 1) := dk_100 (dk_at dksX3_quickSort_18 4 rfl rfl)
theorem dX3_quickSort_423 : decode cX3_quickSort 423 = .ok (.invokestatic 33, 3) := dk_184 0 33 (dk_at dksX3_quickSort_18 5 rfl rfl)
theorem dX3_quickSort_426 : decode cX3_quickSort 426 = .ok (.istore 12, 2) := dk_54 12 (dk_at dksX3_quickSort_18 8 rfl rfl)
theorem dX3_quickSort_428 : decode cX3_quickSort 428 = .ok (.aload_n 3, 1) := dk_45 (dk_at dksX3_quickSort_18 10 rfl rfl)
theorem dX3_quickSort_429 : decode cX3_quickSort 429 = .ok (.iload 9, 2) := dk_21 9 (dk_at dksX3_quickSort_18 11 rfl rfl)
theorem dX3_quickSort_431 : decode cX3_quickSort 431 = .ok (.iload_n 1, 1) := dk_27 (dk_at dksX3_quickSort_18 13 rfl rfl)
theorem dX3_quickSort_432 : decode cX3_quickSort 432 = .ok (.iload 12, 2) := dk_21 12 (dk_at dksX3_quickSort_18 14 rfl rfl)
theorem dX3_quickSort_434 : decode cX3_quickSort 434 = .ok (.isub, 1) := dk_100 (dk_at dksX3_quickSort_18 16 rfl rfl)
theorem dX3_quickSort_435 : decode cX3_quickSort 435 = .ok (.iload 12, 2) := dk_21 12 (dk_at dksX3_quickSort_18 17 rfl rfl)
theorem dX3_quickSort_437 : decode cX3_quickSort 437 = .ok (.invokestatic 38, 3) := dk_184 0 38 (dk_at dksX3_quickSort_18 19 rfl rfl)
theorem dX3_quickSort_440 : decode cX3_quickSort 440 = .ok (.iload 9, 2) := dk_21 9 (dk_at dksX3_quickSort_18 22 rfl rfl)
theorem dX3_quickSort_442 : decode cX3_quickSort 442 = .ok (.iload 8, 2) := dk_21 8 (dk_at dksX3_quickSort_19 0 rfl rfl)
theorem dX3_quickSort_444 : decode cX3_quickSort 444 = .ok (.isub, 1) := dk_100 (dk_at dksX3_quickSort_19 2 rfl rfl)
theorem dX3_quickSort_445 : decode cX3_quickSort 445 = .ok (.dup, 1) := dk_89 (dk_at dksX3_quickSort_19 3 rfl rfl)
theorem dX3_quickSort_446 : decode cX3_quickSort 446 = .ok (.istore 12, 2) := dk_54 12 (dk_at dksX3_quickSort_19 4 rfl rfl)
theorem dX3_quickSort_448 : decode cX3_quickSort 448 = .ok (.iconst 1, 1) := dk_4 (dk_at dksX3_quickSort_19 6 rfl rfl)
theorem dX3_quickSort_449 : decode cX3_quickSort 449 = .ok (.if_icmp .le 13, 3) := dk_164 0 13 (dk_at dksX3_quickSort_19 7 rfl rfl)
theorem dX3_quickSort_452 : decode cX3_quickSort 452 = .ok (.iload_n 0, 1) := dk_26 (dk_at dksX3_quickSort_19 10 rfl rfl)
theorem dX3_quickSort_453 : decode cX3_quickSort 453 = .ok (.iload_n 0, 1) := dk_26 (dk_at dksX3_quickSort_19 11 rfl rfl)
theorem dX3_quickSort_454 : decode cX3_quickSort 454 = .ok (.iload 12, 2) := dk_21 12 (dk_at dksX3_quickSort_19 12 rfl rfl)
theorem dX3_quickSort_456 : decode cX3_quickSort 456 = .ok (.iadd, 1) := dk_96 (dk_at dksX3_quickSort_19 14 rfl rfl)
theorem dX3_quickSort_457 : decode cX3_quickSort 457 = .ok (.aload_n 2, 1) := dk_44 (dk_at dksX3_quickSort_19 15 rfl rfl)
theorem dX3_quickSort_458 : decode cX3_quickSort 458 = .ok (.aload_n 3, 1) := dk_45 (dk_at dksX3_quickSort_19 16 rfl rfl)
theorem dX3_quickSort_459 : decode cX3_quickSort 459 = .ok (.invokestatic 41, 3) := dk_184 0 41 (dk_at dksX3_quickSort_19 17 rfl rfl)
theorem dX3_quickSort_462 : decode cX3_quickSort 462 = .ok (.iload 11, 2) := dk_21 11 (dk_at dksX3_quickSort_19 20 rfl rfl)
theorem dX3_quickSort_464 : decode cX3_quickSort 464 = .ok (.iload 10, 2) := dk_21 10 (dk_at dksX3_quickSort_19 22 rfl rfl)
theorem dX3_quickSort_466 : decode cX3_quickSort 466 = .ok (.isub, 1) := dk_100 (dk_at dksX3_quickSort_20 0 rfl rfl)
theorem dX3_quickSort_467 : decode cX3_quickSort 467 = .ok (.dup, 1) := dk_89 (dk_at dksX3_quickSort_20 1 rfl rfl)
theorem dX3_quickSort_468 : decode cX3_quickSort 468 = .ok (.istore 12, 2) := dk_54 12 (dk_at dksX3_quickSort_20 2 rfl rfl)
theorem dX3_quickSort_470 : decode cX3_quickSort 470 = .ok (.iconst 1, 1) := dk_4 (dk_at dksX3_quickSort_20 4 rfl rfl)
theorem dX3_quickSort_471 : decode cX3_quickSort 471 = .ok (.if_icmp .le 13, 3) := dk_164 0 13 (dk_at dksX3_quickSort_20 5 rfl rfl)
theorem dX3_quickSort_474 : decode cX3_quickSort 474 = .ok (.iload_n 1, 1) := dk_27 (dk_at dksX3_quickSort_20 8 rfl rfl)
theorem dX3_quickSort_475 : decode cX3_quickSort 475 = .ok (.iload 12, 2) := dk_21 12 (dk_at dksX3_quickSort_20 9 rfl rfl)
theorem dX3_quickSort_477 : decode cX3_quickSort 477 = .ok (.isub, 1) := dk_100 (dk_at dksX3_quickSort_20 11 rfl rfl)
theorem dX3_quickSort_478 : decode cX3_quickSort 478 = .ok (.iload_n 1, 1) := dk_27 (dk_at dksX3_quickSort_20 12 rfl rfl)
theorem dX3_quickSort_479 : decode cX3_quickSort 479 = .ok (.aload_n 2, 1) := dk_44 (dk_at dksX3_quickSort_20 13 rfl rfl)
theorem dX3_quickSort_480 : decode cX3_quickSort 480 = .ok (.aload_n 3, 1) := dk_45 (dk_at dksX3_quickSort_20 14 rfl rfl)
theorem dX3_quickSort_481 : decode cX3_quickSort 481 = .ok (.invokestatic 41, 3) := dk_184 0 41 (dk_at dksX3_quickSort_20 15 rfl rfl)
theorem dX3_quickSort_484 : decode cX3_quickSort 484 = .ok (.return_, 1) := dk_177 (dk_at dksX3_quickSort_20 18 rfl rfl)
abbrev cX3_med3 : ByteArray := prog_2_method_4_code
def yX3_med3 : MethodName := ⟨RX3, "med3", "(IIILIntComparator;)I"⟩
def dkwX3_med3_3 : List UInt8 := [158, 0, 7, 28, 167, 0, 4, 26, 172]
abbrev dktX3_med3_3 : List UInt8 := dkwX3_med3_3 ++ []
def dkwX3_med3_2 : List UInt8 := [156, 0, 7, 28, 167, 0, 26, 26, 167, 0, 22, 21, 6, 158, 0, 7, 27, 167, 0, 13, 21, 5]
abbrev dktX3_med3_2 : List UInt8 := dkwX3_med3_2 ++ dktX3_med3_3
def dkwX3_med3_1 : List UInt8 := [185, 0, 1, 3, 0, 54, 6, 21, 4, 156, 0, 25, 21, 6, 156, 0, 7, 27, 167, 0, 35, 21, 5]
abbrev dktX3_med3_1 : List UInt8 := dkwX3_med3_1 ++ dktX3_med3_2
def dkwX3_med3_0 : List UInt8 := [45, 26, 27, 185, 0, 1, 3, 0, 54, 4, 45, 26, 28, 185, 0, 1, 3, 0, 54, 5, 45, 27, 28]
abbrev dktX3_med3_0 : List UInt8 := dkwX3_med3_0 ++ dktX3_med3_1
theorem dksX3_med3_0 : cX3_med3.data.toList.drop 0 = dktX3_med3_0 := by decide +kernel
theorem dksX3_med3_1 : cX3_med3.data.toList.drop 23 = dktX3_med3_1 := dk_seg dksX3_med3_0 23 rfl rfl
theorem dksX3_med3_2 : cX3_med3.data.toList.drop 46 = dktX3_med3_2 := dk_seg dksX3_med3_1 23 rfl rfl
theorem dksX3_med3_3 : cX3_med3.data.toList.drop 68 = dktX3_med3_3 := dk_seg dksX3_med3_2 22 rfl rfl
theorem dX3_med3_0 : decode cX3_med3 0 = .ok (.aload_n 3, 1) := dk_45 (dk_at dksX3_med3_0 0 rfl rfl)
theorem dX3_med3_1 : decode cX3_med3 1 = .ok (.iload_n 0, 1) := dk_26 (dk_at dksX3_med3_0 1 rfl rfl)
theorem dX3_med3_2 : decode cX3_med3 2 = .ok (.iload_n 1, 1) := dk_27 (dk_at dksX3_med3_0 2 rfl rfl)
theorem dX3_med3_3 : decode cX3_med3 3 = .ok (.invokeinterface 1 3, 5) := by decide +kernel
theorem dX3_med3_8 : decode cX3_med3 8 = .ok (.istore 4, 2) := dk_54 4 (dk_at dksX3_med3_0 8 rfl rfl)
theorem dX3_med3_10 : decode cX3_med3 10 = .ok (.aload_n 3, 1) := dk_45 (dk_at dksX3_med3_0 10 rfl rfl)
theorem dX3_med3_11 : decode cX3_med3 11 = .ok (.iload_n 0, 1) := dk_26 (dk_at dksX3_med3_0 11 rfl rfl)
theorem dX3_med3_12 : decode cX3_med3 12 = .ok (.iload_n 2, 1) := dk_28 (dk_at dksX3_med3_0 12 rfl rfl)
theorem dX3_med3_13 : decode cX3_med3 13 = .ok (.invokeinterface 1 3, 5) := by decide +kernel
theorem dX3_med3_18 : decode cX3_med3 18 = .ok (.istore 5, 2) := dk_54 5 (dk_at dksX3_med3_0 18 rfl rfl)
theorem dX3_med3_20 : decode cX3_med3 20 = .ok (.aload_n 3, 1) := dk_45 (dk_at dksX3_med3_0 20 rfl rfl)
theorem dX3_med3_21 : decode cX3_med3 21 = .ok (.iload_n 1, 1) := dk_27 (dk_at dksX3_med3_0 21 rfl rfl)
theorem dX3_med3_22 : decode cX3_med3 22 = .ok (.iload_n 2, 1) := dk_28 (dk_at dksX3_med3_0 22 rfl rfl)
theorem dX3_med3_23 : decode cX3_med3 23 = .ok (.invokeinterface 1 3, 5) := by decide +kernel
theorem dX3_med3_28 : decode cX3_med3 28 = .ok (.istore 6, 2) := dk_54 6 (dk_at dksX3_med3_1 5 rfl rfl)
theorem dX3_med3_30 : decode cX3_med3 30 = .ok (.iload 4, 2) := dk_21 4 (dk_at dksX3_med3_1 7 rfl rfl)
theorem dX3_med3_32 : decode cX3_med3 32 = .ok (.ifCond .ge 25, 3) := dk_156 0 25 (dk_at dksX3_med3_1 9 rfl rfl)
theorem dX3_med3_35 : decode cX3_med3 35 = .ok (.iload 6, 2) := dk_21 6 (dk_at dksX3_med3_1 12 rfl rfl)
theorem dX3_med3_37 : decode cX3_med3 37 = .ok (.ifCond .ge 7, 3) := dk_156 0 7 (dk_at dksX3_med3_1 14 rfl rfl)
theorem dX3_med3_40 : decode cX3_med3 40 = .ok (.iload_n 1, 1) := dk_27 (dk_at dksX3_med3_1 17 rfl rfl)
theorem dX3_med3_41 : decode cX3_med3 41 = .ok (.goto 35, 3) := dk_167 0 35 (dk_at dksX3_med3_1 18 rfl rfl)
theorem dX3_med3_44 : decode cX3_med3 44 = .ok (.iload 5, 2) := dk_21 5 (dk_at dksX3_med3_1 21 rfl rfl)
theorem dX3_med3_46 : decode cX3_med3 46 = .ok (.ifCond .ge 7, 3) := dk_156 0 7 (dk_at dksX3_med3_2 0 rfl rfl)
theorem dX3_med3_49 : decode cX3_med3 49 = .ok (.iload_n 2, 1) := dk_28 (dk_at dksX3_med3_2 3 rfl rfl)
theorem dX3_med3_50 : decode cX3_med3 50 = .ok (.goto 26, 3) := dk_167 0 26 (dk_at dksX3_med3_2 4 rfl rfl)
theorem dX3_med3_53 : decode cX3_med3 53 = .ok (.iload_n 0, 1) := dk_26 (dk_at dksX3_med3_2 7 rfl rfl)
theorem dX3_med3_54 : decode cX3_med3 54 = .ok (.goto 22, 3) := dk_167 0 22 (dk_at dksX3_med3_2 8 rfl rfl)
theorem dX3_med3_57 : decode cX3_med3 57 = .ok (.iload 6, 2) := dk_21 6 (dk_at dksX3_med3_2 11 rfl rfl)
theorem dX3_med3_59 : decode cX3_med3 59 = .ok (.ifCond .le 7, 3) := dk_158 0 7 (dk_at dksX3_med3_2 13 rfl rfl)
theorem dX3_med3_62 : decode cX3_med3 62 = .ok (.iload_n 1, 1) := dk_27 (dk_at dksX3_med3_2 16 rfl rfl)
theorem dX3_med3_63 : decode cX3_med3 63 = .ok (.goto 13, 3) := dk_167 0 13 (dk_at dksX3_med3_2 17 rfl rfl)
theorem dX3_med3_66 : decode cX3_med3 66 = .ok (.iload 5, 2) := dk_21 5 (dk_at dksX3_med3_2 20 rfl rfl)
theorem dX3_med3_68 : decode cX3_med3 68 = .ok (.ifCond .le 7, 3) := dk_158 0 7 (dk_at dksX3_med3_3 0 rfl rfl)
theorem dX3_med3_71 : decode cX3_med3 71 = .ok (.iload_n 2, 1) := dk_28 (dk_at dksX3_med3_3 3 rfl rfl)
theorem dX3_med3_72 : decode cX3_med3 72 = .ok (.goto 4, 3) := dk_167 0 4 (dk_at dksX3_med3_3 4 rfl rfl)
theorem dX3_med3_75 : decode cX3_med3 75 = .ok (.iload_n 0, 1) := dk_26 (dk_at dksX3_med3_3 7 rfl rfl)
theorem dX3_med3_76 : decode cX3_med3 76 = .ok (.ireturn, 1) := dk_172 (dk_at dksX3_med3_3 8 rfl rfl)
abbrev cX3_swap : ByteArray := prog_2_method_6_code
def yX3_swap : MethodName := ⟨RX3, "swap", "(LSwapper;III)V"⟩
def dkwX3_swap_1 : List UInt8 := [132, 2, 1, 167, 255, 233, 177]
abbrev dktX3_swap_1 : List UInt8 := dkwX3_swap_1 ++ []
def dkwX3_swap_0 : List UInt8 := [3, 54, 4, 21, 4, 29, 162, 0, 23, 42, 27, 28, 185, 0, 7, 3, 0, 132, 4, 1, 132, 1, 1]
abbrev dktX3_swap_0 : List UInt8 := dkwX3_swap_0 ++ dktX3_swap_1
theorem dksX3_swap_0 : cX3_swap.data.toList.drop 0 = dktX3_swap_0 := by decide +kernel
theorem dksX3_swap_1 : cX3_swap.data.toList.drop 23 = dktX3_swap_1 := dk_seg dksX3_swap_0 23 rfl rfl
theorem dX3_swap_0 : decode cX3_swap 0 = .ok (.iconst 0, 1) := dk_3 (dk_at dksX3_swap_0 0 rfl rfl)
theorem dX3_swap_1 : decode cX3_swap 1 = .ok (.istore 4, 2) := dk_54 4 (dk_at dksX3_swap_0 1 rfl rfl)
theorem dX3_swap_3 : decode cX3_swap 3 = .ok (.iload 4, 2) := dk_21 4 (dk_at dksX3_swap_0 3 rfl rfl)
theorem dX3_swap_5 : decode cX3_swap 5 = .ok (.iload_n 3, 1) := dk_29 (dk_at dksX3_swap_0 5 rfl rfl)
theorem dX3_swap_6 : decode cX3_swap 6 = .ok (.if_icmp .ge 23, 3) := dk_162 0 23 (dk_at dksX3_swap_0 6 rfl rfl)
theorem dX3_swap_9 : decode cX3_swap 9 = .ok (.aload_n 0, 1) := dk_42 (dk_at dksX3_swap_0 9 rfl rfl)
theorem dX3_swap_10 : decode cX3_swap 10 = .ok (.iload_n 1, 1) := dk_27 (dk_at dksX3_swap_0 10 rfl rfl)
theorem dX3_swap_11 : decode cX3_swap 11 = .ok (.iload_n 2, 1) := dk_28 (dk_at dksX3_swap_0 11 rfl rfl)
theorem dX3_swap_12 : decode cX3_swap 12 = .ok (.invokeinterface 7 3, 5) := by decide +kernel
theorem dX3_swap_17 : decode cX3_swap 17 = .ok (.iinc 4 1, 3) := dk_132 4 1 (dk_at dksX3_swap_0 17 rfl rfl)
theorem dX3_swap_20 : decode cX3_swap 20 = .ok (.iinc 1 1, 3) := dk_132 1 1 (dk_at dksX3_swap_0 20 rfl rfl)
theorem dX3_swap_23 : decode cX3_swap 23 = .ok (.iinc 2 1, 3) := dk_132 2 1 (dk_at dksX3_swap_1 0 rfl rfl)
theorem dX3_swap_26 : decode cX3_swap 26 = .ok (.goto (-23), 3) := dk_167 255 233 (dk_at dksX3_swap_1 3 rfl rfl)
theorem dX3_swap_29 : decode cX3_swap 29 = .ok (.return_, 1) := dk_177 (dk_at dksX3_swap_1 6 rfl rfl)
abbrev cX3_mergeSort : ByteArray := prog_2_method_5_code
def yX3_mergeSort : MethodName := ⟨RX3, "mergeSort", "(IILIntComparator;LSwapper;)V"⟩
def dkwX3_mergeSort_5 : List UInt8 := [177]
abbrev dktX3_mergeSort_5 : List UInt8 := dkwX3_mergeSort_5 ++ []
def dkwX3_mergeSort_4 : List UInt8 := [21, 5, 4, 100, 21, 5, 185, 0, 1, 3, 0, 157, 0, 4, 177, 26, 21, 5, 27, 44, 45, 184, 0, 22]
abbrev dktX3_mergeSort_4 : List UInt8 := dkwX3_mergeSort_4 ++ dktX3_mergeSort_5
def dkwX3_mergeSort_3 : List UInt8 := [26, 27, 96, 4, 124, 54, 5, 26, 21, 5, 44, 45, 184, 0, 26, 21, 5, 27, 44, 45, 184, 0, 26, 44]
abbrev dktX3_mergeSort_3 : List UInt8 := dkwX3_mergeSort_3 ++ dktX3_mergeSort_4
def dkwX3_mergeSort_2 : List UInt8 := [21, 6, 21, 6, 4, 100, 185, 0, 7, 3, 0, 132, 6, 255, 167, 255, 220, 132, 5, 1, 167, 255, 204, 177]
abbrev dktX3_mergeSort_2 : List UInt8 := dkwX3_mergeSort_2 ++ dktX3_mergeSort_3
def dkwX3_mergeSort_1 : List UInt8 := [54, 6, 21, 6, 26, 164, 0, 36, 44, 21, 6, 4, 100, 21, 6, 185, 0, 1, 3, 0, 158, 0, 21, 45]
abbrev dktX3_mergeSort_1 : List UInt8 := dkwX3_mergeSort_1 ++ dktX3_mergeSort_2
def dkwX3_mergeSort_0 : List UInt8 := [27, 26, 100, 54, 4, 21, 4, 16, 16, 162, 0, 62, 26, 54, 5, 21, 5, 27, 162, 0, 52, 21, 5]
abbrev dktX3_mergeSort_0 : List UInt8 := dkwX3_mergeSort_0 ++ dktX3_mergeSort_1
theorem dksX3_mergeSort_0 : cX3_mergeSort.data.toList.drop 0 = dktX3_mergeSort_0 := by decide +kernel
theorem dksX3_mergeSort_1 : cX3_mergeSort.data.toList.drop 23 = dktX3_mergeSort_1 := dk_seg dksX3_mergeSort_0 23 rfl rfl
theorem dksX3_mergeSort_2 : cX3_mergeSort.data.toList.drop 47 = dktX3_mergeSort_2 := dk_seg dksX3_mergeSort_1 24 rfl rfl
theorem dksX3_mergeSort_3 : cX3_mergeSort.data.toList.drop 71 = dktX3_mergeSort_3 := dk_seg dksX3_mergeSort_2 24 rfl rfl
theorem dksX3_mergeSort_4 : cX3_mergeSort.data.toList.drop 95 = dktX3_mergeSort_4 := dk_seg dksX3_mergeSort_3 24 rfl rfl
theorem dksX3_mergeSort_5 : cX3_mergeSort.data.toList.drop 119 = dktX3_mergeSort_5 := dk_seg dksX3_mergeSort_4 24 rfl rfl
theorem dX3_mergeSort_0 : decode cX3_mergeSort 0 = .ok (.iload_n 1, 1) := dk_27 (dk_at dksX3_mergeSort_0 0 rfl rfl)
theorem dX3_mergeSort_1 : decode cX3_mergeSort 1 = .ok (.iload_n 0, 1) := dk_26 (dk_at dksX3_mergeSort_0 1 rfl rfl)
theorem dX3_mergeSort_2 : decode cX3_mergeSort 2 = .ok (.isub, 1) := dk_100 (dk_at dksX3_mergeSort_0 2 rfl rfl)
theorem dX3_mergeSort_3 : decode cX3_mergeSort 3 = .ok (.istore 4, 2) := dk_54 4 (dk_at dksX3_mergeSort_0 3 rfl rfl)
theorem dX3_mergeSort_5 : decode cX3_mergeSort 5 = .ok (.iload 4, 2) := dk_21 4 (dk_at dksX3_mergeSort_0 5 rfl rfl)
theorem dX3_mergeSort_7 : decode cX3_mergeSort 7 = .ok (.bipush 16, 2) := dk_16 16 (dk_at dksX3_mergeSort_0 7 rfl rfl)
theorem dX3_mergeSort_9 : decode cX3_mergeSort 9 = .ok (.if_icmp .ge 62, 3) := dk_162 0 62 (dk_at dksX3_mergeSort_0 9 rfl rfl)
theorem dX3_mergeSort_12 : decode cX3_mergeSort 12 = .ok (.iload_n 0, 1) := dk_26 (dk_at dksX3_mergeSort_0 12 rfl rfl)
theorem dX3_mergeSort_13 : decode cX3_mergeSort 13 = .ok (.istore 5, 2) := dk_54 5 (dk_at dksX3_mergeSort_0 13 rfl rfl)
theorem dX3_mergeSort_15 : decode cX3_mergeSort 15 = .ok (.iload 5, 2) := dk_21 5 (dk_at dksX3_mergeSort_0 15 rfl rfl)
theorem dX3_mergeSort_17 : decode cX3_mergeSort 17 = .ok (.iload_n 1, 1) := dk_27 (dk_at dksX3_mergeSort_0 17 rfl rfl)
theorem dX3_mergeSort_18 : decode cX3_mergeSort 18 = .ok (.if_icmp .ge 52, 3) := dk_162 0 52 (dk_at dksX3_mergeSort_0 18 rfl rfl)
theorem dX3_mergeSort_21 : decode cX3_mergeSort 21 = .ok (.iload 5, 2) := dk_21 5 (dk_at dksX3_mergeSort_0 21 rfl rfl)
theorem dX3_mergeSort_23 : decode cX3_mergeSort 23 = .ok (.istore 6, 2) := dk_54 6 (dk_at dksX3_mergeSort_1 0 rfl rfl)
theorem dX3_mergeSort_25 : decode cX3_mergeSort 25 = .ok (.iload 6, 2) := dk_21 6 (dk_at dksX3_mergeSort_1 2 rfl rfl)
theorem dX3_mergeSort_27 : decode cX3_mergeSort 27 = .ok (.iload_n 0, 1) := dk_26 (dk_at dksX3_mergeSort_1 4 rfl rfl)
theorem dX3_mergeSort_28 : decode cX3_mergeSort 28 = .ok (.if_icmp .le 36, 3) := dk_164 0 36 (dk_at dksX3_mergeSort_1 5 rfl rfl)
theorem dX3_mergeSort_31 : decode cX3_mergeSort 31 = .ok (.aload_n 2, 1) := dk_44 (dk_at dksX3_mergeSort_1 8 rfl rfl)
theorem dX3_mergeSort_32 : decode cX3_mergeSort 32 = .ok (.iload 6, 2) := dk_21 6 (dk_at dksX3_mergeSort_1 9 rfl rfl)
theorem dX3_mergeSort_34 : decode cX3_mergeSort 34 = .ok (.iconst 1, 1) := dk_4 (dk_at dksX3_mergeSort_1 11 rfl rfl)
theorem dX3_mergeSort_35 : decode cX3_mergeSort 35 = .ok (.isub, 1) := dk_100 (dk_at dksX3_mergeSort_1 12 rfl rfl)
theorem dX3_mergeSort_36 : decode cX3_mergeSort 36 = .ok (.iload 6, 2) := dk_21 6 (dk_at dksX3_mergeSort_1 13 rfl rfl)
theorem dX3_mergeSort_38 : decode cX3_mergeSort 38 = .ok (.invokeinterface 1 3, 5) := by decide +kernel
theorem dX3_mergeSort_43 : decode cX3_mergeSort 43 = .ok (.ifCond .le 21, 3) := dk_158 0 21 (dk_at dksX3_mergeSort_1 20 rfl rfl)
theorem dX3_mergeSort_46 : decode cX3_mergeSort 46 = .ok (.aload_n 3, 1) := dk_45 (dk_at dksX3_mergeSort_1 23 rfl rfl)
theorem dX3_mergeSort_47 : decode cX3_mergeSort 47 = .ok (.iload 6, 2) := dk_21 6 (dk_at dksX3_mergeSort_2 0 rfl rfl)
theorem dX3_mergeSort_49 : decode cX3_mergeSort 49 = .ok (.iload 6, 2) := dk_21 6 (dk_at dksX3_mergeSort_2 2 rfl rfl)
theorem dX3_mergeSort_51 : decode cX3_mergeSort 51 = .ok (.iconst 1, 1) := dk_4 (dk_at dksX3_mergeSort_2 4 rfl rfl)
theorem dX3_mergeSort_52 : decode cX3_mergeSort 52 = .ok (.isub, 1) := dk_100 (dk_at dksX3_mergeSort_2 5 rfl rfl)
theorem dX3_mergeSort_53 : decode cX3_mergeSort 53 = .ok (.invokeinterface 7 3, 5) := by decide +kernel
theorem dX3_mergeSort_58 : decode cX3_mergeSort 58 = .ok (.iinc 6 (-1), 3) := dk_132 6 255 (dk_at dksX3_mergeSort_2 11 rfl rfl)
theorem dX3_mergeSort_61 : decode cX3_mergeSort 61 = .ok (.goto (-36), 3) := dk_167 255 220 (dk_at dksX3_mergeSort_2 14 rfl rfl)
theorem dX3_mergeSort_64 : decode cX3_mergeSort 64 = .ok (.iinc 5 1, 3) := dk_132 5 1 (dk_at dksX3_mergeSort_2 17 rfl rfl)
theorem dX3_mergeSort_67 : decode cX3_mergeSort 67 = .ok (.goto (-52), 3) := dk_167 255 204 (dk_at dksX3_mergeSort_2 20 rfl rfl)
theorem dX3_mergeSort_70 : decode cX3_mergeSort 70 = .ok (.return_, 1) := dk_177 (dk_at dksX3_mergeSort_2 23 rfl rfl)
theorem dX3_mergeSort_71 : decode cX3_mergeSort 71 = .ok (.iload_n 0, 1) := dk_26 (dk_at dksX3_mergeSort_3 0 rfl rfl)
theorem dX3_mergeSort_72 : decode cX3_mergeSort 72 = .ok (.iload_n 1, 1) := dk_27 (dk_at dksX3_mergeSort_3 1 rfl rfl)
theorem dX3_mergeSort_73 : decode cX3_mergeSort 73 = .ok (.iadd, 1) := dk_96 (dk_at dksX3_mergeSort_3 2 rfl rfl)
theorem dX3_mergeSort_74 : decode cX3_mergeSort 74 = .ok (.iconst 1, 1) := dk_4 (dk_at dksX3_mergeSort_3 3 rfl rfl)
theorem dX3_mergeSort_75 : decode cX3_mergeSort 75 = .ok (.iushr, 1) := dk_124 (dk_at dksX3_mergeSort_3 4 rfl rfl)
theorem dX3_mergeSort_76 : decode cX3_mergeSort 76 = .ok (.istore 5, 2) := dk_54 5 (dk_at dksX3_mergeSort_3 5 rfl rfl)
theorem dX3_mergeSort_78 : decode cX3_mergeSort 78 = .ok (.iload_n 0, 1) := dk_26 (dk_at dksX3_mergeSort_3 7 rfl rfl)
theorem dX3_mergeSort_79 : decode cX3_mergeSort 79 = .ok (.iload 5, 2) := dk_21 5 (dk_at dksX3_mergeSort_3 8 rfl rfl)
theorem dX3_mergeSort_81 : decode cX3_mergeSort 81 = .ok (.aload_n 2, 1) := dk_44 (dk_at dksX3_mergeSort_3 10 rfl rfl)
theorem dX3_mergeSort_82 : decode cX3_mergeSort 82 = .ok (.aload_n 3, 1) := dk_45 (dk_at dksX3_mergeSort_3 11 rfl rfl)
theorem dX3_mergeSort_83 : decode cX3_mergeSort 83 = .ok (.invokestatic 26, 3) := dk_184 0 26 (dk_at dksX3_mergeSort_3 12 rfl rfl)
theorem dX3_mergeSort_86 : decode cX3_mergeSort 86 = .ok (.iload 5, 2) := dk_21 5 (dk_at dksX3_mergeSort_3 15 rfl rfl)
theorem dX3_mergeSort_88 : decode cX3_mergeSort 88 = .ok (.iload_n 1, 1) := dk_27 (dk_at dksX3_mergeSort_3 17 rfl rfl)
theorem dX3_mergeSort_89 : decode cX3_mergeSort 89 = .ok (.aload_n 2, 1) := dk_44 (dk_at dksX3_mergeSort_3 18 rfl rfl)
theorem dX3_mergeSort_90 : decode cX3_mergeSort 90 = .ok (.aload_n 3, 1) := dk_45 (dk_at dksX3_mergeSort_3 19 rfl rfl)
theorem dX3_mergeSort_91 : decode cX3_mergeSort 91 = .ok (.invokestatic 26, 3) := dk_184 0 26 (dk_at dksX3_mergeSort_3 20 rfl rfl)
theorem dX3_mergeSort_94 : decode cX3_mergeSort 94 = .ok (.aload_n 2, 1) := dk_44 (dk_at dksX3_mergeSort_3 23 rfl rfl)
theorem dX3_mergeSort_95 : decode cX3_mergeSort 95 = .ok (.iload 5, 2) := dk_21 5 (dk_at dksX3_mergeSort_4 0 rfl rfl)
theorem dX3_mergeSort_97 : decode cX3_mergeSort 97 = .ok (.iconst 1, 1) := dk_4 (dk_at dksX3_mergeSort_4 2 rfl rfl)
theorem dX3_mergeSort_98 : decode cX3_mergeSort 98 = .ok (.isub, 1) := dk_100 (dk_at dksX3_mergeSort_4 3 rfl rfl)
theorem dX3_mergeSort_99 : decode cX3_mergeSort 99 = .ok (.iload 5, 2) := dk_21 5 (dk_at dksX3_mergeSort_4 4 rfl rfl)
theorem dX3_mergeSort_101 : decode cX3_mergeSort 101 = .ok (.invokeinterface 1 3, 5) := by decide +kernel
theorem dX3_mergeSort_106 : decode cX3_mergeSort 106 = .ok (.ifCond .gt 4, 3) := dk_157 0 4 (dk_at dksX3_mergeSort_4 11 rfl rfl)
theorem dX3_mergeSort_109 : decode cX3_mergeSort 109 = .ok (.return_, 1) := dk_177 (dk_at dksX3_mergeSort_4 14 rfl rfl)
theorem dX3_mergeSort_110 : decode cX3_mergeSort 110 = .ok (.iload_n 0, 1) := dk_26 (dk_at dksX3_mergeSort_4 15 rfl rfl)
theorem dX3_mergeSort_111 : decode cX3_mergeSort 111 = .ok (.iload 5, 2) := dk_21 5 (dk_at dksX3_mergeSort_4 16 rfl rfl)
theorem dX3_mergeSort_113 : decode cX3_mergeSort 113 = .ok (.iload_n 1, 1) := dk_27 (dk_at dksX3_mergeSort_4 18 rfl rfl)
theorem dX3_mergeSort_114 : decode cX3_mergeSort 114 = .ok (.aload_n 2, 1) := dk_44 (dk_at dksX3_mergeSort_4 19 rfl rfl)
theorem dX3_mergeSort_115 : decode cX3_mergeSort 115 = .ok (.aload_n 3, 1) := dk_45 (dk_at dksX3_mergeSort_4 20 rfl rfl)
theorem dX3_mergeSort_116 : decode cX3_mergeSort 116 = .ok (.invokestatic 22, 3) := dk_184 0 22 (dk_at dksX3_mergeSort_4 21 rfl rfl)
theorem dX3_mergeSort_119 : decode cX3_mergeSort 119 = .ok (.return_, 1) := dk_177 (dk_at dksX3_mergeSort_5 0 rfl rfl)
abbrev cX3_inPlaceMerge : ByteArray := prog_2_method_1_code
def yX3_inPlaceMerge : MethodName := ⟨RX3, "inPlaceMerge", "(IIILIntComparator;LSwapper;)V"⟩
def dkwX3_inPlaceMerge_10 : List UInt8 := [21, 5, 27, 45, 25, 4, 184, 0, 22, 27, 21, 6, 28, 45, 25, 4, 184, 0, 22, 177]
abbrev dktX3_inPlaceMerge_10 : List UInt8 := dkwX3_inPlaceMerge_10 ++ []
def dkwX3_inPlaceMerge_9 : List UInt8 := [21, 10, 132, 10, 1, 21, 11, 185, 0, 7, 3, 0, 167, 255, 232, 21, 5, 21, 6, 27, 100, 96, 60, 26]
abbrev dktX3_inPlaceMerge_9 : List UInt8 := dkwX3_inPlaceMerge_9 ++ dktX3_inPlaceMerge_10
def dkwX3_inPlaceMerge_8 : List UInt8 := [167, 255, 232, 21, 7, 54, 10, 21, 9, 54, 11, 21, 10, 132, 11, 255, 21, 11, 162, 0, 20, 25, 4]
abbrev dktX3_inPlaceMerge_8 : List UInt8 := dkwX3_inPlaceMerge_8 ++ dktX3_inPlaceMerge_9
def dkwX3_inPlaceMerge_7 : List UInt8 := [132, 11, 255, 21, 11, 162, 0, 20, 25, 4, 21, 10, 132, 10, 1, 21, 11, 185, 0, 7, 3, 0]
abbrev dktX3_inPlaceMerge_7 : List UInt8 := dkwX3_inPlaceMerge_7 ++ dktX3_inPlaceMerge_8
def dkwX3_inPlaceMerge_6 : List UInt8 := [132, 10, 1, 21, 11, 185, 0, 7, 3, 0, 167, 255, 232, 21, 8, 54, 10, 21, 9, 54, 11, 21, 10]
abbrev dktX3_inPlaceMerge_6 : List UInt8 := dkwX3_inPlaceMerge_6 ++ dktX3_inPlaceMerge_7
def dkwX3_inPlaceMerge_5 : List UInt8 := [21, 7, 54, 10, 21, 8, 54, 11, 21, 10, 132, 11, 255, 21, 11, 162, 0, 20, 25, 4, 21, 10]
abbrev dktX3_inPlaceMerge_5 : List UInt8 := dkwX3_inPlaceMerge_5 ++ dktX3_inPlaceMerge_6
def dkwX3_inPlaceMerge_4 : List UInt8 := [54, 7, 27, 54, 8, 21, 6, 54, 9, 21, 8, 21, 7, 159, 0, 115, 21, 8, 21, 9, 159, 0, 108]
abbrev dktX3_inPlaceMerge_4 : List UInt8 := dkwX3_inPlaceMerge_4 ++ dktX3_inPlaceMerge_5
def dkwX3_inPlaceMerge_3 : List UInt8 := [167, 0, 22, 27, 28, 27, 100, 5, 108, 96, 54, 6, 26, 27, 21, 6, 45, 184, 0, 19, 54, 5, 21, 5]
abbrev dktX3_inPlaceMerge_3 : List UInt8 := dkwX3_inPlaceMerge_3 ++ dktX3_inPlaceMerge_4
def dkwX3_inPlaceMerge_2 : List UInt8 := [164, 0, 25, 26, 27, 26, 100, 5, 108, 96, 54, 5, 27, 28, 21, 5, 45, 184, 0, 13, 54, 6]
abbrev dktX3_inPlaceMerge_2 : List UInt8 := dkwX3_inPlaceMerge_2 ++ dktX3_inPlaceMerge_3
def dkwX3_inPlaceMerge_1 : List UInt8 := [185, 0, 1, 3, 0, 156, 0, 12, 25, 4, 26, 27, 185, 0, 7, 3, 0, 177, 27, 26, 100, 28, 27, 100]
abbrev dktX3_inPlaceMerge_1 : List UInt8 := dkwX3_inPlaceMerge_1 ++ dktX3_inPlaceMerge_2
def dkwX3_inPlaceMerge_0 : List UInt8 := [26, 27, 162, 0, 8, 27, 28, 161, 0, 4, 177, 28, 26, 100, 5, 160, 0, 24, 45, 27, 26]
abbrev dktX3_inPlaceMerge_0 : List UInt8 := dkwX3_inPlaceMerge_0 ++ dktX3_inPlaceMerge_1
theorem dksX3_inPlaceMerge_0 : cX3_inPlaceMerge.data.toList.drop 0 = dktX3_inPlaceMerge_0 := by decide +kernel
theorem dksX3_inPlaceMerge_1 : cX3_inPlaceMerge.data.toList.drop 21 = dktX3_inPlaceMerge_1 := dk_seg dksX3_inPlaceMerge_0 21 rfl rfl
theorem dksX3_inPlaceMerge_2 : cX3_inPlaceMerge.data.toList.drop 45 = dktX3_inPlaceMerge_2 := dk_seg dksX3_inPlaceMerge_1 24 rfl rfl
theorem dksX3_inPlaceMerge_3 : cX3_inPlaceMerge.data.toList.drop 67 = dktX3_inPlaceMerge_3 := dk_seg dksX3_inPlaceMerge_2 22 rfl rfl
theorem dksX3_inPlaceMerge_4 : cX3_inPlaceMerge.data.toList.drop 91 = dktX3_inPlaceMerge_4 := dk_seg dksX3_inPlaceMerge_3 24 rfl rfl
theorem dksX3_inPlaceMerge_5 : cX3_inPlaceMerge.data.toList.drop 114 = dktX3_inPlaceMerge_5 := dk_seg dksX3_inPlaceMerge_4 23 rfl rfl
theorem dksX3_inPlaceMerge_6 : cX3_inPlaceMerge.data.toList.drop 136 = dktX3_inPlaceMerge_6 := dk_seg dksX3_inPlaceMerge_5 22 rfl rfl
theorem dksX3_inPlaceMerge_7 : cX3_inPlaceMerge.data.toList.drop 159 = dktX3_inPlaceMerge_7 := dk_seg dksX3_inPlaceMerge_6 23 rfl rfl
theorem dksX3_inPlaceMerge_8 : cX3_inPlaceMerge.data.toList.drop 181 = dktX3_inPlaceMerge_8 := dk_seg dksX3_inPlaceMerge_7 22 rfl rfl
theorem dksX3_inPlaceMerge_9 : cX3_inPlaceMerge.data.toList.drop 204 = dktX3_inPlaceMerge_9 := dk_seg dksX3_inPlaceMerge_8 23 rfl rfl
theorem dksX3_inPlaceMerge_10 : cX3_inPlaceMerge.data.toList.drop 228 = dktX3_inPlaceMerge_10 := dk_seg dksX3_inPlaceMerge_9 24 rfl rfl
theorem dX3_inPlaceMerge_0 : decode cX3_inPlaceMerge 0 = .ok (.iload_n 0, 1) := dk_26 (dk_at dksX3_inPlaceMerge_0 0 rfl rfl)
theorem dX3_inPlaceMerge_1 : decode cX3_inPlaceMerge 1 = .ok (.iload_n 1, 1) := dk_27 (dk_at dksX3_inPlaceMerge_0 1 rfl rfl)
theorem dX3_inPlaceMerge_2 : decode cX3_inPlaceMerge 2 = .ok (.if_icmp .ge 8, 3) := dk_162 0 8 (dk_at dksX3_inPlaceMerge_0 2 rfl rfl)
theorem dX3_inPlaceMerge_5 : decode cX3_inPlaceMerge 5 = .ok (.iload_n 1, 1) := dk_27 (dk_at dksX3_inPlaceMerge_0 5 rfl rfl)
theorem dX3_inPlaceMerge_6 : decode cX3_inPlaceMerge 6 = .ok (.iload_n 2, 1) := dk_28 (dk_at dksX3_inPlaceMerge_0 6 rfl rfl)
theorem dX3_inPlaceMerge_7 : decode cX3_inPlaceMerge 7 = .ok (.if_icmp .lt 4, 3) := dk_161 0 4 (dk_at dksX3_inPlaceMerge_0 7 rfl rfl)
theorem dX3_inPlaceMerge_10 : decode cX3_inPlaceMerge 10 = .ok (.return_, 1) := dk_177 (dk_at dksX3_inPlaceMerge_0 10 rfl rfl)
theorem dX3_inPlaceMerge_11 : decode cX3_inPlaceMerge 11 = .ok (.iload_n 2, 1) := dk_28 (dk_at dksX3_inPlaceMerge_0 11 rfl rfl)
theorem dX3_inPlaceMerge_12 : decode cX3_inPlaceMerge 12 = .ok (.iload_n 0, 1) := dk_26 (dk_at dksX3_inPlaceMerge_0 12 rfl rfl)
theorem dX3_inPlaceMerge_13 : decode cX3_inPlaceMerge 13 = .ok (.isub, 1) := dk_100 (dk_at dksX3_inPlaceMerge_0 13 rfl rfl)
theorem dX3_inPlaceMerge_14 : decode cX3_inPlaceMerge 14 = .ok (.iconst 2, 1) := dk_5 (dk_at dksX3_inPlaceMerge_0 14 rfl rfl)
theorem dX3_inPlaceMerge_15 : decode cX3_inPlaceMerge 15 = .ok (.if_icmp .ne 24, 3) := dk_160 0 24 (dk_at dksX3_inPlaceMerge_0 15 rfl rfl)
theorem dX3_inPlaceMerge_18 : decode cX3_inPlaceMerge 18 = .ok (.aload_n 3, 1) := dk_45 (dk_at dksX3_inPlaceMerge_0 18 rfl rfl)
theorem dX3_inPlaceMerge_19 : decode cX3_inPlaceMerge 19 = .ok (.iload_n 1, 1) := dk_27 (dk_at dksX3_inPlaceMerge_0 19 rfl rfl)
theorem dX3_inPlaceMerge_20 : decode cX3_inPlaceMerge 20 = .ok (.iload_n 0, 1) := dk_26 (dk_at dksX3_inPlaceMerge_0 20 rfl rfl)
theorem dX3_inPlaceMerge_21 : decode cX3_inPlaceMerge 21 = .ok (.invokeinterface 1 3, 5) := by decide +kernel
theorem dX3_inPlaceMerge_26 : decode cX3_inPlaceMerge 26 = .ok (.ifCond .ge 12, 3) := dk_156 0 12 (dk_at dksX3_inPlaceMerge_1 5 rfl rfl)
theorem dX3_inPlaceMerge_29 : decode cX3_inPlaceMerge 29 = .ok (.aload 4, 2) := dk_25 4 (dk_at dksX3_inPlaceMerge_1 8 rfl rfl)
theorem dX3_inPlaceMerge_31 : decode cX3_inPlaceMerge 31 = .ok (.iload_n 0, 1) := dk_26 (dk_at dksX3_inPlaceMerge_1 10 rfl rfl)
theorem dX3_inPlaceMerge_32 : decode cX3_inPlaceMerge 32 = .ok (.iload_n 1, 1) := dk_27 (dk_at dksX3_inPlaceMerge_1 11 rfl rfl)
theorem dX3_inPlaceMerge_33 : decode cX3_inPlaceMerge 33 = .ok (.invokeinterface 7 3, 5) := by decide +kernel
theorem dX3_inPlaceMerge_38 : decode cX3_inPlaceMerge 38 = .ok (.return_, 1) := dk_177 (dk_at dksX3_inPlaceMerge_1 17 rfl rfl)
theorem dX3_inPlaceMerge_39 : decode cX3_inPlaceMerge 39 = .ok (.iload_n 1, 1) := dk_27 (dk_at dksX3_inPlaceMerge_1 18 rfl rfl)
theorem dX3_inPlaceMerge_40 : decode cX3_inPlaceMerge 40 = .ok (.iload_n 0, 1) := dk_26 (dk_at dksX3_inPlaceMerge_1 19 rfl rfl)
theorem dX3_inPlaceMerge_41 : decode cX3_inPlaceMerge 41 = .ok (.isub, 1) := dk_100 (dk_at dksX3_inPlaceMerge_1 20 rfl rfl)
theorem dX3_inPlaceMerge_42 : decode cX3_inPlaceMerge 42 = .ok (.iload_n 2, 1) := dk_28 (dk_at dksX3_inPlaceMerge_1 21 rfl rfl)
theorem dX3_inPlaceMerge_43 : decode cX3_inPlaceMerge 43 = .ok (.iload_n 1, 1) := dk_27 (dk_at dksX3_inPlaceMerge_1 22 rfl rfl)
theorem dX3_inPlaceMerge_44 : decode cX3_inPlaceMerge 44 = .ok (.isub, 1) := dk_100 (dk_at dksX3_inPlaceMerge_1 23 rfl rfl)
theorem dX3_inPlaceMerge_45 : decode cX3_inPlaceMerge 45 = .ok (.if_icmp .le 25, 3) := dk_164 0 25 (dk_at dksX3_inPlaceMerge_2 0 rfl rfl)
theorem dX3_inPlaceMerge_48 : decode cX3_inPlaceMerge 48 = .ok (.iload_n 0, 1) := dk_26 (dk_at dksX3_inPlaceMerge_2 3 rfl rfl)
theorem dX3_inPlaceMerge_49 : decode cX3_inPlaceMerge 49 = .ok (.iload_n 1, 1) := dk_27 (dk_at dksX3_inPlaceMerge_2 4 rfl rfl)
theorem dX3_inPlaceMerge_50 : decode cX3_inPlaceMerge 50 = .ok (.iload_n 0, 1) := dk_26 (dk_at dksX3_inPlaceMerge_2 5 rfl rfl)
theorem dX3_inPlaceMerge_51 : decode cX3_inPlaceMerge 51 = .ok (.isub, 1) := dk_100 (dk_at dksX3_inPlaceMerge_2 6 rfl rfl)
theorem dX3_inPlaceMerge_52 : decode cX3_inPlaceMerge 52 = .ok (.iconst 2, 1) := dk_5 (dk_at dksX3_inPlaceMerge_2 7 rfl rfl)
theorem dX3_inPlaceMerge_53 : decode cX3_inPlaceMerge 53 = .ok (.idiv, 1) := dk_108 (dk_at dksX3_inPlaceMerge_2 8 rfl rfl)
theorem dX3_inPlaceMerge_54 : decode cX3_inPlaceMerge 54 = .ok (.iadd, 1) := dk_96 (dk_at dksX3_inPlaceMerge_2 9 rfl rfl)
theorem dX3_inPlaceMerge_55 : decode cX3_inPlaceMerge 55 = .ok (.istore 5, 2) := dk_54 5 (dk_at dksX3_inPlaceMerge_2 10 rfl rfl)
theorem dX3_inPlaceMerge_57 : decode cX3_inPlaceMerge 57 = .ok (.iload_n 1, 1) := dk_27 (dk_at dksX3_inPlaceMerge_2 12 rfl rfl)
theorem dX3_inPlaceMerge_58 : decode cX3_inPlaceMerge 58 = .ok (.iload_n 2, 1) := dk_28 (dk_at dksX3_inPlaceMerge_2 13 rfl rfl)
theorem dX3_inPlaceMerge_59 : decode cX3_inPlaceMerge 59 = .ok (.iload 5, 2) := dk_21 5 (dk_at dksX3_inPlaceMerge_2 14 rfl rfl)
theorem dX3_inPlaceMerge_61 : decode cX3_inPlaceMerge 61 = .ok (.aload_n 3, 1) := dk_45 (dk_at dksX3_inPlaceMerge_2 16 rfl rfl)
theorem dX3_inPlaceMerge_62 : decode cX3_inPlaceMerge 62 = .ok (.invokestatic 13, 3) := dk_184 0 13 (dk_at dksX3_inPlaceMerge_2 17 rfl rfl)
theorem dX3_inPlaceMerge_65 : decode cX3_inPlaceMerge 65 = .ok (.istore 6, 2) := dk_54 6 (dk_at dksX3_inPlaceMerge_2 20 rfl rfl)
theorem dX3_inPlaceMerge_67 : decode cX3_inPlaceMerge 67 = .ok (.goto 22, 3) := dk_167 0 22 (dk_at dksX3_inPlaceMerge_3 0 rfl rfl)
theorem dX3_inPlaceMerge_70 : decode cX3_inPlaceMerge 70 = .ok (.iload_n 1, 1) := dk_27 (dk_at dksX3_inPlaceMerge_3 3 rfl rfl)
theorem dX3_inPlaceMerge_71 : decode cX3_inPlaceMerge 71 = .ok (.iload_n 2, 1) := dk_28 (dk_at dksX3_inPlaceMerge_3 4 rfl rfl)
theorem dX3_inPlaceMerge_72 : decode cX3_inPlaceMerge 72 = .ok (.iload_n 1, 1) := dk_27 (dk_at dksX3_inPlaceMerge_3 5 rfl rfl)
theorem dX3_inPlaceMerge_73 : decode cX3_inPlaceMerge 73 = .ok (.isub, 1) := dk_100 (dk_at dksX3_inPlaceMerge_3 6 rfl rfl)
theorem dX3_inPlaceMerge_74 : decode cX3_inPlaceMerge 74 = .ok (.iconst 2, 1) := dk_5 (dk_at dksX3_inPlaceMerge_3 7 rfl rfl)
theorem dX3_inPlaceMerge_75 : decode cX3_inPlaceMerge 75 = .ok (.idiv, 1) := dk_108 (dk_at dksX3_inPlaceMerge_3 8 rfl rfl)
theorem dX3_inPlaceMerge_76 : decode cX3_inPlaceMerge 76 = .ok (.iadd, 1) := dk_96 (dk_at dksX3_inPlaceMerge_3 9 rfl rfl)
theorem dX3_inPlaceMerge_77 : decode cX3_inPlaceMerge 77 = .ok (.istore 6, 2) := dk_54 6 (dk_at dksX3_inPlaceMerge_3 10 rfl rfl)
theorem dX3_inPlaceMerge_79 : decode cX3_inPlaceMerge 79 = .ok (.iload_n 0, 1) := dk_26 (dk_at dksX3_inPlaceMerge_3 12 rfl rfl)
theorem dX3_inPlaceMerge_80 : decode cX3_inPlaceMerge 80 = .ok (.iload_n 1, 1) := dk_27 (dk_at dksX3_inPlaceMerge_3 13 rfl rfl)
theorem dX3_inPlaceMerge_81 : decode cX3_inPlaceMerge 81 = .ok (.iload 6, 2) := dk_21 6 (dk_at dksX3_inPlaceMerge_3 14 rfl rfl)
theorem dX3_inPlaceMerge_83 : decode cX3_inPlaceMerge 83 = .ok (.aload_n 3, 1) := dk_45 (dk_at dksX3_inPlaceMerge_3 16 rfl rfl)
theorem dX3_inPlaceMerge_84 : decode cX3_inPlaceMerge 84 = .ok (.invokestatic 19, 3) := dk_184 0 19 (dk_at dksX3_inPlaceMerge_3 17 rfl rfl)
theorem dX3_inPlaceMerge_87 : decode cX3_inPlaceMerge 87 = .ok (.istore 5, 2) := dk_54 5 (dk_at dksX3_inPlaceMerge_3 20 rfl rfl)
theorem dX3_inPlaceMerge_89 : decode cX3_inPlaceMerge 89 = .ok (.iload 5, 2) := dk_21 5 (dk_at dksX3_inPlaceMerge_3 22 rfl rfl)
theorem dX3_inPlaceMerge_91 : decode cX3_inPlaceMerge 91 = .ok (.istore 7, 2) := dk_54 7 (dk_at dksX3_inPlaceMerge_4 0 rfl rfl)
theorem dX3_inPlaceMerge_93 : decode cX3_inPlaceMerge 93 = .ok (.iload_n 1, 1) := dk_27 (dk_at dksX3_inPlaceMerge_4 2 rfl rfl)
theorem dX3_inPlaceMerge_94 : decode cX3_inPlaceMerge 94 = .ok (.istore 8, 2) := dk_54 8 (dk_at dksX3_inPlaceMerge_4 3 rfl rfl)
theorem dX3_inPlaceMerge_96 : decode cX3_inPlaceMerge 96 = .ok (.iload 6, 2) := dk_21 6 (dk_at dksX3_inPlaceMerge_4 5 rfl rfl)
theorem dX3_inPlaceMerge_98 : decode cX3_inPlaceMerge 98 = .ok (.istore 9, 2) := dk_54 9 (dk_at dksX3_inPlaceMerge_4 7 rfl rfl)
theorem dX3_inPlaceMerge_100 : decode cX3_inPlaceMerge 100 = .ok (.iload 8, 2) := dk_21 8 (dk_at dksX3_inPlaceMerge_4 9 rfl rfl)
theorem dX3_inPlaceMerge_102 : decode cX3_inPlaceMerge 102 = .ok (.iload 7, 2) := dk_21 7 (dk_at dksX3_inPlaceMerge_4 11 rfl rfl)
theorem dX3_inPlaceMerge_104 : decode cX3_inPlaceMerge 104 = .ok (.if_icmp .eq 115, 3) := dk_159 0 115 (dk_at dksX3_inPlaceMerge_4 13 rfl rfl)
theorem dX3_inPlaceMerge_107 : decode cX3_inPlaceMerge 107 = .ok (.iload 8, 2) := dk_21 8 (dk_at dksX3_inPlaceMerge_4 16 rfl rfl)
theorem dX3_inPlaceMerge_109 : decode cX3_inPlaceMerge 109 = .ok (.iload 9, 2) := dk_21 9 (dk_at dksX3_inPlaceMerge_4 18 rfl rfl)
theorem dX3_inPlaceMerge_111 : decode cX3_inPlaceMerge 111 = .ok (.if_icmp .eq 108, 3) := dk_159 0 108 (dk_at dksX3_inPlaceMerge_4 20 rfl rfl)
theorem dX3_inPlaceMerge_114 : decode cX3_inPlaceMerge 114 = .ok (.iload 7, 2) := dk_21 7 (dk_at dksX3_inPlaceMerge_5 0 rfl rfl)
theorem dX3_inPlaceMerge_116 : decode cX3_inPlaceMerge 116 = .ok (.istore 10, 2) := dk_54 10 (dk_at dksX3_inPlaceMerge_5 2 rfl rfl)
theorem dX3_inPlaceMerge_118 : decode cX3_inPlaceMerge 118 = .ok (.iload 8, 2) := dk_21 8 (dk_at dksX3_inPlaceMerge_5 4 rfl rfl)
theorem dX3_inPlaceMerge_120 : decode cX3_inPlaceMerge 120 = .ok (.istore 11, 2) := dk_54 11 (dk_at dksX3_inPlaceMerge_5 6 rfl rfl)
theorem dX3_inPlaceMerge_122 : decode cX3_inPlaceMerge 122 = .ok (.iload 10, 2) := dk_21 10 (dk_at dksX3_inPlaceMerge_5 8 rfl rfl)
theorem dX3_inPlaceMerge_124 : decode cX3_inPlaceMerge 124 = .ok (.iinc 11 (-1), 3) := dk_132 11 255 (dk_at dksX3_inPlaceMerge_5 10 rfl rfl)
theorem dX3_inPlaceMerge_127 : decode cX3_inPlaceMerge 127 = .ok (.iload 11, 2) := dk_21 11 (dk_at dksX3_inPlaceMerge_5 13 rfl rfl)
theorem dX3_inPlaceMerge_129 : decode cX3_inPlaceMerge 129 = .ok (.if_icmp .ge 20, 3) := dk_162 0 20 (dk_at dksX3_inPlaceMerge_5 15 rfl rfl)
theorem dX3_inPlaceMerge_132 : decode cX3_inPlaceMerge 132 = .ok (.aload 4, 2) := dk_25 4 (dk_at dksX3_inPlaceMerge_5 18 rfl rfl)
theorem dX3_inPlaceMerge_134 : decode cX3_inPlaceMerge 134 = .ok (.iload 10, 2) := dk_21 10 (dk_at dksX3_inPlaceMerge_5 20 rfl rfl)
theorem dX3_inPlaceMerge_136 : decode cX3_inPlaceMerge 136 = .ok (.iinc 10 1, 3) := dk_132 10 1 (dk_at dksX3_inPlaceMerge_6 0 rfl rfl)
theorem dX3_inPlaceMerge_139 : decode cX3_inPlaceMerge 139 = .ok (.iload 11, 2) := dk_21 11 (dk_at dksX3_inPlaceMerge_6 3 rfl rfl)
theorem dX3_inPlaceMerge_141 : decode cX3_inPlaceMerge 141 = .ok (.invokeinterface 7 3, 5) := by decide +kernel
theorem dX3_inPlaceMerge_146 : decode cX3_inPlaceMerge 146 = .ok (.goto (-24), 3) := dk_167 255 232 (dk_at dksX3_inPlaceMerge_6 10 rfl rfl)
theorem dX3_inPlaceMerge_149 : decode cX3_inPlaceMerge 149 = .ok (.iload 8, 2) := dk_21 8 (dk_at dksX3_inPlaceMerge_6 13 rfl rfl)
theorem dX3_inPlaceMerge_151 : decode cX3_inPlaceMerge 151 = .ok (.istore 10, 2) := dk_54 10 (dk_at dksX3_inPlaceMerge_6 15 rfl rfl)
theorem dX3_inPlaceMerge_153 : decode cX3_inPlaceMerge 153 = .ok (.iload 9, 2) := dk_21 9 (dk_at dksX3_inPlaceMerge_6 17 rfl rfl)
theorem dX3_inPlaceMerge_155 : decode cX3_inPlaceMerge 155 = .ok (.istore 11, 2) := dk_54 11 (dk_at dksX3_inPlaceMerge_6 19 rfl rfl)
theorem dX3_inPlaceMerge_157 : decode cX3_inPlaceMerge 157 = .ok (.iload 10, 2) := dk_21 10 (dk_at dksX3_inPlaceMerge_6 21 rfl rfl)
theorem dX3_inPlaceMerge_159 : decode cX3_inPlaceMerge 159 = .ok (.iinc 11 (-1), 3) := dk_132 11 255 (dk_at dksX3_inPlaceMerge_7 0 rfl rfl)
theorem dX3_inPlaceMerge_162 : decode cX3_inPlaceMerge 162 = .ok (.iload 11, 2) := dk_21 11 (dk_at dksX3_inPlaceMerge_7 3 rfl rfl)
theorem dX3_inPlaceMerge_164 : decode cX3_inPlaceMerge 164 = .ok (.if_icmp .ge 20, 3) := dk_162 0 20 (dk_at dksX3_inPlaceMerge_7 5 rfl rfl)
theorem dX3_inPlaceMerge_167 : decode cX3_inPlaceMerge 167 = .ok (.aload 4, 2) := dk_25 4 (dk_at dksX3_inPlaceMerge_7 8 rfl rfl)
theorem dX3_inPlaceMerge_169 : decode cX3_inPlaceMerge 169 = .ok (.iload 10, 2) := dk_21 10 (dk_at dksX3_inPlaceMerge_7 10 rfl rfl)
theorem dX3_inPlaceMerge_171 : decode cX3_inPlaceMerge 171 = .ok (.iinc 10 1, 3) := dk_132 10 1 (dk_at dksX3_inPlaceMerge_7 12 rfl rfl)
theorem dX3_inPlaceMerge_174 : decode cX3_inPlaceMerge 174 = .ok (.iload 11, 2) := dk_21 11 (dk_at dksX3_inPlaceMerge_7 15 rfl rfl)
theorem dX3_inPlaceMerge_176 : decode cX3_inPlaceMerge 176 = .ok (.invokeinterface 7 3, 5) := by decide +kernel
theorem dX3_inPlaceMerge_181 : decode cX3_inPlaceMerge 181 = .ok (.goto (-24), 3) := dk_167 255 232 (dk_at dksX3_inPlaceMerge_8 0 rfl rfl)
theorem dX3_inPlaceMerge_184 : decode cX3_inPlaceMerge 184 = .ok (.iload 7, 2) := dk_21 7 (dk_at dksX3_inPlaceMerge_8 3 rfl rfl)
theorem dX3_inPlaceMerge_186 : decode cX3_inPlaceMerge 186 = .ok (.istore 10, 2) := dk_54 10 (dk_at dksX3_inPlaceMerge_8 5 rfl rfl)
theorem dX3_inPlaceMerge_188 : decode cX3_inPlaceMerge 188 = .ok (.iload 9, 2) := dk_21 9 (dk_at dksX3_inPlaceMerge_8 7 rfl rfl)
theorem dX3_inPlaceMerge_190 : decode cX3_inPlaceMerge 190 = .ok (.istore 11, 2) := dk_54 11 (dk_at dksX3_inPlaceMerge_8 9 rfl rfl)
theorem dX3_inPlaceMerge_192 : decode cX3_inPlaceMerge 192 = .ok (.iload 10, 2) := dk_21 10 (dk_at dksX3_inPlaceMerge_8 11 rfl rfl)
theorem dX3_inPlaceMerge_194 : decode cX3_inPlaceMerge 194 = .ok (.iinc 11 (-1), 3) := dk_132 11 255 (dk_at dksX3_inPlaceMerge_8 13 rfl rfl)
theorem dX3_inPlaceMerge_197 : decode cX3_inPlaceMerge 197 = .ok (.iload 11, 2) := dk_21 11 (dk_at dksX3_inPlaceMerge_8 16 rfl rfl)
theorem dX3_inPlaceMerge_199 : decode cX3_inPlaceMerge 199 = .ok (.if_icmp .ge 20, 3) := dk_162 0 20 (dk_at dksX3_inPlaceMerge_8 18 rfl rfl)
theorem dX3_inPlaceMerge_202 : decode cX3_inPlaceMerge 202 = .ok (.aload 4, 2) := dk_25 4 (dk_at dksX3_inPlaceMerge_8 21 rfl rfl)
theorem dX3_inPlaceMerge_204 : decode cX3_inPlaceMerge 204 = .ok (.iload 10, 2) := dk_21 10 (dk_at dksX3_inPlaceMerge_9 0 rfl rfl)
theorem dX3_inPlaceMerge_206 : decode cX3_inPlaceMerge 206 = .ok (.iinc 10 1, 3) := dk_132 10 1 (dk_at dksX3_inPlaceMerge_9 2 rfl rfl)
theorem dX3_inPlaceMerge_209 : decode cX3_inPlaceMerge 209 = .ok (.iload 11, 2) := dk_21 11 (dk_at dksX3_inPlaceMerge_9 5 rfl rfl)
theorem dX3_inPlaceMerge_211 : decode cX3_inPlaceMerge 211 = .ok (.invokeinterface 7 3, 5) := by decide +kernel
theorem dX3_inPlaceMerge_216 : decode cX3_inPlaceMerge 216 = .ok (.goto (-24), 3) := dk_167 255 232 (dk_at dksX3_inPlaceMerge_9 12 rfl rfl)
theorem dX3_inPlaceMerge_219 : decode cX3_inPlaceMerge 219 = .ok (.iload 5, 2) := dk_21 5 (dk_at dksX3_inPlaceMerge_9 15 rfl rfl)
theorem dX3_inPlaceMerge_221 : decode cX3_inPlaceMerge 221 = .ok (.iload 6, 2) := dk_21 6 (dk_at dksX3_inPlaceMerge_9 17 rfl rfl)
theorem dX3_inPlaceMerge_223 : decode cX3_inPlaceMerge 223 = .ok (.iload_n 1, 1) := dk_27 (dk_at dksX3_inPlaceMerge_9 19 rfl rfl)
theorem dX3_inPlaceMerge_224 : decode cX3_inPlaceMerge 224 = .ok (.isub, 1) := dk_100 (dk_at dksX3_inPlaceMerge_9 20 rfl rfl)
theorem dX3_inPlaceMerge_225 : decode cX3_inPlaceMerge 225 = .ok (.iadd, 1) := dk_96 (dk_at dksX3_inPlaceMerge_9 21 rfl rfl)
theorem dX3_inPlaceMerge_226 : decode cX3_inPlaceMerge 226 = .ok (.istore_n 1, 1) := dk_60 (dk_at dksX3_inPlaceMerge_9 22 rfl rfl)
theorem dX3_inPlaceMerge_227 : decode cX3_inPlaceMerge 227 = .ok (.iload_n 0, 1) := dk_26 (dk_at dksX3_inPlaceMerge_9 23 rfl rfl)
theorem dX3_inPlaceMerge_228 : decode cX3_inPlaceMerge 228 = .ok (.iload 5, 2) := dk_21 5 (dk_at dksX3_inPlaceMerge_10 0 rfl rfl)
theorem dX3_inPlaceMerge_230 : decode cX3_inPlaceMerge 230 = .ok (.iload_n 1, 1) := dk_27 (dk_at dksX3_inPlaceMerge_10 2 rfl rfl)
theorem dX3_inPlaceMerge_231 : decode cX3_inPlaceMerge 231 = .ok (.aload_n 3, 1) := dk_45 (dk_at dksX3_inPlaceMerge_10 3 rfl rfl)
theorem dX3_inPlaceMerge_232 : decode cX3_inPlaceMerge 232 = .ok (.aload 4, 2) := dk_25 4 (dk_at dksX3_inPlaceMerge_10 4 rfl rfl)
theorem dX3_inPlaceMerge_234 : decode cX3_inPlaceMerge 234 = .ok (.invokestatic 22, 3) := dk_184 0 22 (dk_at dksX3_inPlaceMerge_10 6 rfl rfl)
theorem dX3_inPlaceMerge_237 : decode cX3_inPlaceMerge 237 = .ok (.iload_n 1, 1) := dk_27 (dk_at dksX3_inPlaceMerge_10 9 rfl rfl)
theorem dX3_inPlaceMerge_238 : decode cX3_inPlaceMerge 238 = .ok (.iload 6, 2) := dk_21 6 (dk_at dksX3_inPlaceMerge_10 10 rfl rfl)
theorem dX3_inPlaceMerge_240 : decode cX3_inPlaceMerge 240 = .ok (.iload_n 2, 1) := dk_28 (dk_at dksX3_inPlaceMerge_10 12 rfl rfl)
theorem dX3_inPlaceMerge_241 : decode cX3_inPlaceMerge 241 = .ok (.aload_n 3, 1) := dk_45 (dk_at dksX3_inPlaceMerge_10 13 rfl rfl)
theorem dX3_inPlaceMerge_242 : decode cX3_inPlaceMerge 242 = .ok (.aload 4, 2) := dk_25 4 (dk_at dksX3_inPlaceMerge_10 14 rfl rfl)
theorem dX3_inPlaceMerge_244 : decode cX3_inPlaceMerge 244 = .ok (.invokestatic 22, 3) := dk_184 0 22 (dk_at dksX3_inPlaceMerge_10 16 rfl rfl)
theorem dX3_inPlaceMerge_247 : decode cX3_inPlaceMerge 247 = .ok (.return_, 1) := dk_177 (dk_at dksX3_inPlaceMerge_10 19 rfl rfl)
abbrev cX3_lowerBound : ByteArray := prog_2_method_2_code
def yX3_lowerBound : MethodName := ⟨RX3, "lowerBound", "(IIILIntComparator;)I"⟩
def dkwX3_lowerBound_2 : List UInt8 := [54, 4, 167, 0, 7, 21, 5, 54, 4, 167, 255, 206, 26, 172]
abbrev dktX3_lowerBound_2 : List UInt8 := dkwX3_lowerBound_2 ++ []
def dkwX3_lowerBound_1 : List UInt8 := [21, 6, 28, 185, 0, 1, 3, 0, 156, 0, 20, 21, 6, 4, 96, 59, 21, 4, 21, 5, 4, 96, 100]
abbrev dktX3_lowerBound_1 : List UInt8 := dkwX3_lowerBound_1 ++ dktX3_lowerBound_2
def dkwX3_lowerBound_0 : List UInt8 := [27, 26, 100, 54, 4, 21, 4, 158, 0, 51, 21, 4, 5, 108, 54, 5, 26, 21, 5, 96, 54, 6, 45]
abbrev dktX3_lowerBound_0 : List UInt8 := dkwX3_lowerBound_0 ++ dktX3_lowerBound_1
theorem dksX3_lowerBound_0 : cX3_lowerBound.data.toList.drop 0 = dktX3_lowerBound_0 := by decide +kernel
theorem dksX3_lowerBound_1 : cX3_lowerBound.data.toList.drop 23 = dktX3_lowerBound_1 := dk_seg dksX3_lowerBound_0 23 rfl rfl
theorem dksX3_lowerBound_2 : cX3_lowerBound.data.toList.drop 46 = dktX3_lowerBound_2 := dk_seg dksX3_lowerBound_1 23 rfl rfl
theorem dX3_lowerBound_0 : decode cX3_lowerBound 0 = .ok (.iload_n 1, 1) := dk_27 (dk_at dksX3_lowerBound_0 0 rfl rfl)
theorem dX3_lowerBound_1 : decode cX3_lowerBound 1 = .ok (.iload_n 0, 1) := dk_26 (dk_at dksX3_lowerBound_0 1 rfl rfl)
theorem dX3_lowerBound_2 : decode cX3_lowerBound 2 = .ok (.isub, 1) := dk_100 (dk_at dksX3_lowerBound_0 2 rfl rfl)
theorem dX3_lowerBound_3 : decode cX3_lowerBound 3 = .ok (.istore 4, 2) := dk_54 4 (dk_at dksX3_lowerBound_0 3 rfl rfl)
theorem dX3_lowerBound_5 : decode cX3_lowerBound 5 = .ok (.iload 4, 2) := dk_21 4 (dk_at dksX3_lowerBound_0 5 rfl rfl)
theorem dX3_lowerBound_7 : decode cX3_lowerBound 7 = .ok (.ifCond .le 51, 3) := dk_158 0 51 (dk_at dksX3_lowerBound_0 7 rfl rfl)
theorem dX3_lowerBound_10 : decode cX3_lowerBound 10 = .ok (.iload 4, 2) := dk_21 4 (dk_at dksX3_lowerBound_0 10 rfl rfl)
theorem dX3_lowerBound_12 : decode cX3_lowerBound 12 = .ok (.iconst 2, 1) := dk_5 (dk_at dksX3_lowerBound_0 12 rfl rfl)
theorem dX3_lowerBound_13 : decode cX3_lowerBound 13 = .ok (.idiv, 1) := dk_108 (dk_at dksX3_lowerBound_0 13 rfl rfl)
theorem dX3_lowerBound_14 : decode cX3_lowerBound 14 = .ok (.istore 5, 2) := dk_54 5 (dk_at dksX3_lowerBound_0 14 rfl rfl)
theorem dX3_lowerBound_16 : decode cX3_lowerBound 16 = .ok (.iload_n 0, 1) := dk_26 (dk_at dksX3_lowerBound_0 16 rfl rfl)
theorem dX3_lowerBound_17 : decode cX3_lowerBound 17 = .ok (.iload 5, 2) := dk_21 5 (dk_at dksX3_lowerBound_0 17 rfl rfl)
theorem dX3_lowerBound_19 : decode cX3_lowerBound 19 = .ok (.iadd, 1) := dk_96 (dk_at dksX3_lowerBound_0 19 rfl rfl)
theorem dX3_lowerBound_20 : decode cX3_lowerBound 20 = .ok (.istore 6, 2) := dk_54 6 (dk_at dksX3_lowerBound_0 20 rfl rfl)
theorem dX3_lowerBound_22 : decode cX3_lowerBound 22 = .ok (.aload_n 3, 1) := dk_45 (dk_at dksX3_lowerBound_0 22 rfl rfl)
theorem dX3_lowerBound_23 : decode cX3_lowerBound 23 = .ok (.iload 6, 2) := dk_21 6 (dk_at dksX3_lowerBound_1 0 rfl rfl)
theorem dX3_lowerBound_25 : decode cX3_lowerBound 25 = .ok (.iload_n 2, 1) := dk_28 (dk_at dksX3_lowerBound_1 2 rfl rfl)
theorem dX3_lowerBound_26 : decode cX3_lowerBound 26 = .ok (.invokeinterface 1 3, 5) := by decide +kernel
theorem dX3_lowerBound_31 : decode cX3_lowerBound 31 = .ok (.ifCond .ge 20, 3) := dk_156 0 20 (dk_at dksX3_lowerBound_1 8 rfl rfl)
theorem dX3_lowerBound_34 : decode cX3_lowerBound 34 = .ok (.iload 6, 2) := dk_21 6 (dk_at dksX3_lowerBound_1 11 rfl rfl)
theorem dX3_lowerBound_36 : decode cX3_lowerBound 36 = .ok (.iconst 1, 1) := dk_4 (dk_at dksX3_lowerBound_1 13 rfl rfl)
theorem dX3_lowerBound_37 : decode cX3_lowerBound 37 = .ok (.iadd, 1) := dk_96 (dk_at dksX3_lowerBound_1 14 rfl rfl)
theorem dX3_lowerBound_38 : decode cX3_lowerBound 38 = .ok (.istore_n 0, 1) := dk_59 (dk_at dksX3_lowerBound_1 15 rfl rfl)
theorem dX3_lowerBound_39 : decode cX3_lowerBound 39 = .ok (.iload 4, 2) := dk_21 4 (dk_at dksX3_lowerBound_1 16 rfl rfl)
theorem dX3_lowerBound_41 : decode cX3_lowerBound 41 = .ok (.iload 5, 2) := dk_21 5 (dk_at dksX3_lowerBound_1 18 rfl rfl)
theorem dX3_lowerBound_43 : decode cX3_lowerBound 43 = .ok (.iconst 1, 1) := dk_4 (dk_at dksX3_lowerBound_1 20 rfl rfl)
theorem dX3_lowerBound_44 : decode cX3_lowerBound 44 = .ok (.iadd, 1) := dk_96 (dk_at dksX3_lowerBound_1 21 rfl rfl)
theorem dX3_lowerBound_45 : decode cX3_lowerBound 45 = .ok (.isub, 1) := dk_100 (dk_at dksX3_lowerBound_1 22 rfl rfl)
theorem dX3_lowerBound_46 : decode cX3_lowerBound 46 = .ok (.istore 4, 2) := dk_54 4 (dk_at dksX3_lowerBound_2 0 rfl rfl)
theorem dX3_lowerBound_48 : decode cX3_lowerBound 48 = .ok (.goto 7, 3) := dk_167 0 7 (dk_at dksX3_lowerBound_2 2 rfl rfl)
theorem dX3_lowerBound_51 : decode cX3_lowerBound 51 = .ok (.iload 5, 2) := dk_21 5 (dk_at dksX3_lowerBound_2 5 rfl rfl)
theorem dX3_lowerBound_53 : decode cX3_lowerBound 53 = .ok (.istore 4, 2) := dk_54 4 (dk_at dksX3_lowerBound_2 7 rfl rfl)
theorem dX3_lowerBound_55 : decode cX3_lowerBound 55 = .ok (.goto (-50), 3) := dk_167 255 206 (dk_at dksX3_lowerBound_2 9 rfl rfl)
theorem dX3_lowerBound_58 : decode cX3_lowerBound 58 = .ok (.iload_n 0, 1) := dk_26 (dk_at dksX3_lowerBound_2 12 rfl rfl)
theorem dX3_lowerBound_59 : decode cX3_lowerBound 59 = .ok (.ireturn, 1) := dk_172 (dk_at dksX3_lowerBound_2 13 rfl rfl)
abbrev cX3_upperBound : ByteArray := prog_2_method_3_code
def yX3_upperBound : MethodName := ⟨RX3, "upperBound", "(IIILIntComparator;)I"⟩
def dkwX3_upperBound_2 : List UInt8 := [21, 5, 4, 96, 100, 54, 4, 167, 255, 206, 26, 172]
abbrev dktX3_upperBound_2 : List UInt8 := dkwX3_upperBound_2 ++ []
def dkwX3_upperBound_1 : List UInt8 := [21, 6, 185, 0, 1, 3, 0, 156, 0, 10, 21, 5, 54, 4, 167, 0, 17, 21, 6, 4, 96, 59, 21, 4]
abbrev dktX3_upperBound_1 : List UInt8 := dkwX3_upperBound_1 ++ dktX3_upperBound_2
def dkwX3_upperBound_0 : List UInt8 := [27, 26, 100, 54, 4, 21, 4, 158, 0, 51, 21, 4, 5, 108, 54, 5, 26, 21, 5, 96, 54, 6, 45, 28]
abbrev dktX3_upperBound_0 : List UInt8 := dkwX3_upperBound_0 ++ dktX3_upperBound_1
theorem dksX3_upperBound_0 : cX3_upperBound.data.toList.drop 0 = dktX3_upperBound_0 := by decide +kernel
theorem dksX3_upperBound_1 : cX3_upperBound.data.toList.drop 24 = dktX3_upperBound_1 := dk_seg dksX3_upperBound_0 24 rfl rfl
theorem dksX3_upperBound_2 : cX3_upperBound.data.toList.drop 48 = dktX3_upperBound_2 := dk_seg dksX3_upperBound_1 24 rfl rfl
theorem dX3_upperBound_0 : decode cX3_upperBound 0 = .ok (.iload_n 1, 1) := dk_27 (dk_at dksX3_upperBound_0 0 rfl rfl)
theorem dX3_upperBound_1 : decode cX3_upperBound 1 = .ok (.iload_n 0, 1) := dk_26 (dk_at dksX3_upperBound_0 1 rfl rfl)
theorem dX3_upperBound_2 : decode cX3_upperBound 2 = .ok (.isub, 1) := dk_100 (dk_at dksX3_upperBound_0 2 rfl rfl)
theorem dX3_upperBound_3 : decode cX3_upperBound 3 = .ok (.istore 4, 2) := dk_54 4 (dk_at dksX3_upperBound_0 3 rfl rfl)
theorem dX3_upperBound_5 : decode cX3_upperBound 5 = .ok (.iload 4, 2) := dk_21 4 (dk_at dksX3_upperBound_0 5 rfl rfl)
theorem dX3_upperBound_7 : decode cX3_upperBound 7 = .ok (.ifCond .le 51, 3) := dk_158 0 51 (dk_at dksX3_upperBound_0 7 rfl rfl)
theorem dX3_upperBound_10 : decode cX3_upperBound 10 = .ok (.iload 4, 2) := dk_21 4 (dk_at dksX3_upperBound_0 10 rfl rfl)
theorem dX3_upperBound_12 : decode cX3_upperBound 12 = .ok (.iconst 2, 1) := dk_5 (dk_at dksX3_upperBound_0 12 rfl rfl)
theorem dX3_upperBound_13 : decode cX3_upperBound 13 = .ok (.idiv, 1) := dk_108 (dk_at dksX3_upperBound_0 13 rfl rfl)
theorem dX3_upperBound_14 : decode cX3_upperBound 14 = .ok (.istore 5, 2) := dk_54 5 (dk_at dksX3_upperBound_0 14 rfl rfl)
theorem dX3_upperBound_16 : decode cX3_upperBound 16 = .ok (.iload_n 0, 1) := dk_26 (dk_at dksX3_upperBound_0 16 rfl rfl)
theorem dX3_upperBound_17 : decode cX3_upperBound 17 = .ok (.iload 5, 2) := dk_21 5 (dk_at dksX3_upperBound_0 17 rfl rfl)
theorem dX3_upperBound_19 : decode cX3_upperBound 19 = .ok (.iadd, 1) := dk_96 (dk_at dksX3_upperBound_0 19 rfl rfl)
theorem dX3_upperBound_20 : decode cX3_upperBound 20 = .ok (.istore 6, 2) := dk_54 6 (dk_at dksX3_upperBound_0 20 rfl rfl)
theorem dX3_upperBound_22 : decode cX3_upperBound 22 = .ok (.aload_n 3, 1) := dk_45 (dk_at dksX3_upperBound_0 22 rfl rfl)
theorem dX3_upperBound_23 : decode cX3_upperBound 23 = .ok (.iload_n 2, 1) := dk_28 (dk_at dksX3_upperBound_0 23 rfl rfl)
theorem dX3_upperBound_24 : decode cX3_upperBound 24 = .ok (.iload 6, 2) := dk_21 6 (dk_at dksX3_upperBound_1 0 rfl rfl)
theorem dX3_upperBound_26 : decode cX3_upperBound 26 = .ok (.invokeinterface 1 3, 5) := by decide +kernel
theorem dX3_upperBound_31 : decode cX3_upperBound 31 = .ok (.ifCond .ge 10, 3) := dk_156 0 10 (dk_at dksX3_upperBound_1 7 rfl rfl)
theorem dX3_upperBound_34 : decode cX3_upperBound 34 = .ok (.iload 5, 2) := dk_21 5 (dk_at dksX3_upperBound_1 10 rfl rfl)
theorem dX3_upperBound_36 : decode cX3_upperBound 36 = .ok (.istore 4, 2) := dk_54 4 (dk_at dksX3_upperBound_1 12 rfl rfl)
theorem dX3_upperBound_38 : decode cX3_upperBound 38 = .ok (.goto 17, 3) := dk_167 0 17 (dk_at dksX3_upperBound_1 14 rfl rfl)
theorem dX3_upperBound_41 : decode cX3_upperBound 41 = .ok (.iload 6, 2) := dk_21 6 (dk_at dksX3_upperBound_1 17 rfl rfl)
theorem dX3_upperBound_43 : decode cX3_upperBound 43 = .ok (.iconst 1, 1) := dk_4 (dk_at dksX3_upperBound_1 19 rfl rfl)
theorem dX3_upperBound_44 : decode cX3_upperBound 44 = .ok (.iadd, 1) := dk_96 (dk_at dksX3_upperBound_1 20 rfl rfl)
theorem dX3_upperBound_45 : decode cX3_upperBound 45 = .ok (.istore_n 0, 1) := dk_59 (dk_at dksX3_upperBound_1 21 rfl rfl)
theorem dX3_upperBound_46 : decode cX3_upperBound 46 = .ok (.iload 4, 2) := dk_21 4 (dk_at dksX3_upperBound_1 22 rfl rfl)
theorem dX3_upperBound_48 : decode cX3_upperBound 48 = .ok (.iload 5, 2) := dk_21 5 (dk_at dksX3_upperBound_2 0 rfl rfl)
theorem dX3_upperBound_50 : decode cX3_upperBound 50 = .ok (.iconst 1, 1) := dk_4 (dk_at dksX3_upperBound_2 2 rfl rfl)
theorem dX3_upperBound_51 : decode cX3_upperBound 51 = .ok (.iadd, 1) := dk_96 (dk_at dksX3_upperBound_2 3 rfl rfl)
theorem dX3_upperBound_52 : decode cX3_upperBound 52 = .ok (.isub, 1) := dk_100 (dk_at dksX3_upperBound_2 4 rfl rfl)
theorem dX3_upperBound_53 : decode cX3_upperBound 53 = .ok (.istore 4, 2) := dk_54 4 (dk_at dksX3_upperBound_2 5 rfl rfl)
theorem dX3_upperBound_55 : decode cX3_upperBound 55 = .ok (.goto (-50), 3) := dk_167 255 206 (dk_at dksX3_upperBound_2 7 rfl rfl)
theorem dX3_upperBound_58 : decode cX3_upperBound 58 = .ok (.iload_n 0, 1) := dk_26 (dk_at dksX3_upperBound_2 10 rfl rfl)
theorem dX3_upperBound_59 : decode cX3_upperBound 59 = .ok (.ireturn, 1) := dk_172 (dk_at dksX3_upperBound_2 11 rfl rfl)
theorem q5 : (Jvm.Cond.initialized "OwnArrays") ∈ lw_all := lw_g (lw_at lw_m0 3 rfl) rfl
theorem q60 : (Jvm.Cond.static ({ cls := "OwnArrays", name := "quickSort", desc := "(IILIntComparator;LSwapper;)V" } : Jvm.MethodName)) ∈ lw_all := lw_g (lw_at lw_m0 58 rfl) rfl
theorem q61 : (Jvm.Cond.code ({ cls := "OwnArrays", name := "quickSort", desc := "(IILIntComparator;LSwapper;)V" } : Jvm.MethodName) prog_2_method_7_code (13 : Nat) (Option.none : Option Jvm.ClassFile.FieldType)) ∈ lw_all := lw_g (lw_at lw_m0 59 rfl) rfl
theorem q62 : (Jvm.Cond.interfaceEntry "OwnArrays" (1 : Nat)) ∈ lw_tbl := lw_at lw_m0 60 rfl
theorem q63 : (Jvm.Cond.methodLink "OwnArrays" (1 : Nat) ({ cls := "IntComparator", name := "compare", desc := "(II)I" } : Jvm.MethodName)) ∈ lw_all := lw_g (lw_at lw_m0 61 rfl) rfl
theorem q72 : (Jvm.Cond.interfaceEntry "OwnArrays" (7 : Nat)) ∈ lw_tbl := lw_at lw_m0 70 rfl
theorem q73 : (Jvm.Cond.methodLink "OwnArrays" (7 : Nat) ({ cls := "Swapper", name := "swap", desc := "(II)V" } : Jvm.MethodName)) ∈ lw_all := lw_g (lw_at lw_m0 71 rfl) rfl
theorem q82 : (Jvm.Cond.methodLink "OwnArrays" (30 : Nat) ({ cls := "OwnArrays", name := "med3", desc := "(IIILIntComparator;)I" } : Jvm.MethodName)) ∈ lw_all := lw_g (lw_at lw_m0 80 rfl) rfl
theorem q83 : (Jvm.Cond.static ({ cls := "OwnArrays", name := "med3", desc := "(IIILIntComparator;)I" } : Jvm.MethodName)) ∈ lw_all := lw_g (lw_at lw_m0 81 rfl) rfl
theorem q84 : (Jvm.Cond.code ({ cls := "OwnArrays", name := "med3", desc := "(IIILIntComparator;)I" } : Jvm.MethodName) prog_2_method_4_code (7 : Nat) (Option.some Jvm.ClassFile.FieldType.int)) ∈ lw_all := lw_g (lw_at lw_m0 82 rfl) rfl
theorem q85 : (Jvm.Cond.methodLink "OwnArrays" (33 : Nat) ({ cls := "java/lang/Math", name := "min", desc := "(II)I" } : Jvm.MethodName)) ∈ lw_all := lw_g (lw_at lw_m0 83 rfl) rfl
theorem q88 : (Jvm.Cond.methodLink "OwnArrays" (38 : Nat) ({ cls := "OwnArrays", name := "swap", desc := "(LSwapper;III)V" } : Jvm.MethodName)) ∈ lw_all := lw_g (lw_at lw_m0 86 rfl) rfl
theorem q89 : (Jvm.Cond.static ({ cls := "OwnArrays", name := "swap", desc := "(LSwapper;III)V" } : Jvm.MethodName)) ∈ lw_all := lw_g (lw_at lw_m0 87 rfl) rfl
theorem q90 : (Jvm.Cond.code ({ cls := "OwnArrays", name := "swap", desc := "(LSwapper;III)V" } : Jvm.MethodName) prog_2_method_6_code (5 : Nat) (Option.none : Option Jvm.ClassFile.FieldType)) ∈ lw_all := lw_g (lw_at lw_m0 88 rfl) rfl
theorem q91 : (Jvm.Cond.methodLink "OwnArrays" (41 : Nat) ({ cls := "OwnArrays", name := "quickSort", desc := "(IILIntComparator;LSwapper;)V" } : Jvm.MethodName)) ∈ lw_all := lw_g (lw_at lw_m0 89 rfl) rfl
theorem q97 : (Jvm.Cond.static ({ cls := "OwnArrays", name := "mergeSort", desc := "(IILIntComparator;LSwapper;)V" } : Jvm.MethodName)) ∈ lw_all := lw_g (lw_at lw_m0 95 rfl) rfl
theorem q98 : (Jvm.Cond.code ({ cls := "OwnArrays", name := "mergeSort", desc := "(IILIntComparator;LSwapper;)V" } : Jvm.MethodName) prog_2_method_5_code (7 : Nat) (Option.none : Option Jvm.ClassFile.FieldType)) ∈ lw_all := lw_g (lw_at lw_m0 96 rfl) rfl
theorem q99 : (Jvm.Cond.methodLink "OwnArrays" (26 : Nat) ({ cls := "OwnArrays", name := "mergeSort", desc := "(IILIntComparator;LSwapper;)V" } : Jvm.MethodName)) ∈ lw_all := lw_g (lw_at lw_m0 97 rfl) rfl
theorem q100 : (Jvm.Cond.methodLink "OwnArrays" (22 : Nat) ({ cls := "OwnArrays", name := "inPlaceMerge", desc := "(IIILIntComparator;LSwapper;)V" } : Jvm.MethodName)) ∈ lw_all := lw_g (lw_at lw_m0 98 rfl) rfl
theorem q101 : (Jvm.Cond.static ({ cls := "OwnArrays", name := "inPlaceMerge", desc := "(IIILIntComparator;LSwapper;)V" } : Jvm.MethodName)) ∈ lw_all := lw_g (lw_at lw_m0 99 rfl) rfl
theorem q102 : (Jvm.Cond.code ({ cls := "OwnArrays", name := "inPlaceMerge", desc := "(IIILIntComparator;LSwapper;)V" } : Jvm.MethodName) prog_2_method_1_code (12 : Nat) (Option.none : Option Jvm.ClassFile.FieldType)) ∈ lw_all := lw_g (lw_at lw_m0 100 rfl) rfl
theorem q103 : (Jvm.Cond.methodLink "OwnArrays" (13 : Nat) ({ cls := "OwnArrays", name := "lowerBound", desc := "(IIILIntComparator;)I" } : Jvm.MethodName)) ∈ lw_all := lw_g (lw_at lw_m0 101 rfl) rfl
theorem q104 : (Jvm.Cond.static ({ cls := "OwnArrays", name := "lowerBound", desc := "(IIILIntComparator;)I" } : Jvm.MethodName)) ∈ lw_all := lw_g (lw_at lw_m0 102 rfl) rfl
theorem q105 : (Jvm.Cond.code ({ cls := "OwnArrays", name := "lowerBound", desc := "(IIILIntComparator;)I" } : Jvm.MethodName) prog_2_method_2_code (7 : Nat) (Option.some Jvm.ClassFile.FieldType.int)) ∈ lw_all := lw_g (lw_at lw_m0 103 rfl) rfl
theorem q106 : (Jvm.Cond.methodLink "OwnArrays" (19 : Nat) ({ cls := "OwnArrays", name := "upperBound", desc := "(IIILIntComparator;)I" } : Jvm.MethodName)) ∈ lw_all := lw_g (lw_at lw_m0 104 rfl) rfl
theorem q107 : (Jvm.Cond.static ({ cls := "OwnArrays", name := "upperBound", desc := "(IIILIntComparator;)I" } : Jvm.MethodName)) ∈ lw_all := lw_g (lw_at lw_m0 105 rfl) rfl
theorem q108 : (Jvm.Cond.code ({ cls := "OwnArrays", name := "upperBound", desc := "(IIILIntComparator;)I" } : Jvm.MethodName) prog_2_method_3_code (7 : Nat) (Option.some Jvm.ClassFile.FieldType.int)) ∈ lw_all := lw_g (lw_at lw_m0 106 rfl) rfl
end
section
/-! SwapSortDeskLaw -/
set_option maxRecDepth 100000
def RX0 : String := "SwapSortDeskLaw"
abbrev cX0_cell : ByteArray := method_2_code
def yX0_cell : MethodName := ⟨RX0, "cell", "([II)I"⟩
def dkwX0_cell_0 : List UInt8 := [27, 42, 190, 162, 0, 9, 42, 27, 46, 167, 0, 4, 3, 172]
abbrev dktX0_cell_0 : List UInt8 := dkwX0_cell_0 ++ []
theorem dksX0_cell_0 : cX0_cell.data.toList.drop 0 = dktX0_cell_0 := by decide +kernel
theorem dX0_cell_0 : decode cX0_cell 0 = .ok (.iload_n 1, 1) := dk_27 (dk_at dksX0_cell_0 0 rfl rfl)
theorem dX0_cell_1 : decode cX0_cell 1 = .ok (.aload_n 0, 1) := dk_42 (dk_at dksX0_cell_0 1 rfl rfl)
theorem dX0_cell_2 : decode cX0_cell 2 = .ok (.arraylength, 1) := dk_190 (dk_at dksX0_cell_0 2 rfl rfl)
theorem dX0_cell_3 : decode cX0_cell 3 = .ok (.if_icmp .ge 9, 3) := dk_162 0 9 (dk_at dksX0_cell_0 3 rfl rfl)
theorem dX0_cell_6 : decode cX0_cell 6 = .ok (.aload_n 0, 1) := dk_42 (dk_at dksX0_cell_0 6 rfl rfl)
theorem dX0_cell_7 : decode cX0_cell 7 = .ok (.iload_n 1, 1) := dk_27 (dk_at dksX0_cell_0 7 rfl rfl)
theorem dX0_cell_8 : decode cX0_cell 8 = .ok (.iaload, 1) := dk_46 (dk_at dksX0_cell_0 8 rfl rfl)
theorem dX0_cell_9 : decode cX0_cell 9 = .ok (.goto 4, 3) := dk_167 0 4 (dk_at dksX0_cell_0 9 rfl rfl)
theorem dX0_cell_12 : decode cX0_cell 12 = .ok (.iconst 0, 1) := dk_3 (dk_at dksX0_cell_0 12 rfl rfl)
theorem dX0_cell_13 : decode cX0_cell 13 = .ok (.ireturn, 1) := dk_172 (dk_at dksX0_cell_0 13 rfl rfl)
abbrev cX0_from : ByteArray := method_3_code
def yX0_from : MethodName := ⟨RX0, "from", "(I)I"⟩
def dkwX0_from_0 : List UInt8 := [26, 18, 7, 126, 16, 49, 112, 172]
abbrev dktX0_from_0 : List UInt8 := dkwX0_from_0 ++ []
theorem dksX0_from_0 : cX0_from.data.toList.drop 0 = dktX0_from_0 := by decide +kernel
theorem dX0_from_0 : decode cX0_from 0 = .ok (.iload_n 0, 1) := dk_26 (dk_at dksX0_from_0 0 rfl rfl)
theorem dX0_from_1 : decode cX0_from 1 = .ok (.ldc 7, 2) := dk_18 7 (dk_at dksX0_from_0 1 rfl rfl)
theorem dX0_from_3 : decode cX0_from 3 = .ok (.iand, 1) := dk_126 (dk_at dksX0_from_0 3 rfl rfl)
theorem dX0_from_4 : decode cX0_from 4 = .ok (.bipush 49, 2) := dk_16 49 (dk_at dksX0_from_0 4 rfl rfl)
theorem dX0_from_6 : decode cX0_from 6 = .ok (.irem, 1) := dk_112 (dk_at dksX0_from_0 6 rfl rfl)
theorem dX0_from_7 : decode cX0_from 7 = .ok (.ireturn, 1) := dk_172 (dk_at dksX0_from_0 7 rfl rfl)
abbrev cX0_to : ByteArray := method_4_code
def yX0_to : MethodName := ⟨RX0, "to", "(II)I"⟩
def dkwX0_to_0 : List UInt8 := [26, 184, 0, 8, 27, 18, 7, 126, 16, 49, 26, 184, 0, 8, 100, 112, 96, 172]
abbrev dktX0_to_0 : List UInt8 := dkwX0_to_0 ++ []
theorem dksX0_to_0 : cX0_to.data.toList.drop 0 = dktX0_to_0 := by decide +kernel
theorem dX0_to_0 : decode cX0_to 0 = .ok (.iload_n 0, 1) := dk_26 (dk_at dksX0_to_0 0 rfl rfl)
theorem dX0_to_1 : decode cX0_to 1 = .ok (.invokestatic 8, 3) := dk_184 0 8 (dk_at dksX0_to_0 1 rfl rfl)
theorem dX0_to_4 : decode cX0_to 4 = .ok (.iload_n 1, 1) := dk_27 (dk_at dksX0_to_0 4 rfl rfl)
theorem dX0_to_5 : decode cX0_to 5 = .ok (.ldc 7, 2) := dk_18 7 (dk_at dksX0_to_0 5 rfl rfl)
theorem dX0_to_7 : decode cX0_to 7 = .ok (.iand, 1) := dk_126 (dk_at dksX0_to_0 7 rfl rfl)
theorem dX0_to_8 : decode cX0_to 8 = .ok (.bipush 49, 2) := dk_16 49 (dk_at dksX0_to_0 8 rfl rfl)
theorem dX0_to_10 : decode cX0_to 10 = .ok (.iload_n 0, 1) := dk_26 (dk_at dksX0_to_0 10 rfl rfl)
theorem dX0_to_11 : decode cX0_to 11 = .ok (.invokestatic 8, 3) := dk_184 0 8 (dk_at dksX0_to_0 11 rfl rfl)
theorem dX0_to_14 : decode cX0_to 14 = .ok (.isub, 1) := dk_100 (dk_at dksX0_to_0 14 rfl rfl)
theorem dX0_to_15 : decode cX0_to 15 = .ok (.irem, 1) := dk_112 (dk_at dksX0_to_0 15 rfl rfl)
theorem dX0_to_16 : decode cX0_to 16 = .ok (.iadd, 1) := dk_96 (dk_at dksX0_to_0 16 rfl rfl)
theorem dX0_to_17 : decode cX0_to 17 = .ok (.ireturn, 1) := dk_172 (dk_at dksX0_to_0 17 rfl rfl)
abbrev cX0_plainly : ByteArray := method_5_code
def yX0_plainly : MethodName := ⟨RX0, "plainly", "([I[III)V"⟩
def dkwX0_plainly_4 : List UInt8 := [21, 7, 21, 5, 79, 43, 21, 7, 21, 6, 79, 132, 4, 1, 167, 255, 154, 177]
abbrev dktX0_plainly_4 : List UInt8 := dkwX0_plainly_4 ++ []
def dkwX0_plainly_3 : List UInt8 := [21, 7, 4, 100, 46, 79, 43, 21, 7, 43, 21, 7, 4, 100, 46, 79, 132, 7, 255, 167, 255, 194, 42]
abbrev dktX0_plainly_3 : List UInt8 := dkwX0_plainly_3 ++ dktX0_plainly_4
def dkwX0_plainly_2 : List UInt8 := [4, 100, 46, 21, 5, 160, 0, 40, 43, 21, 7, 4, 100, 46, 21, 6, 164, 0, 29, 42, 21, 7, 42]
abbrev dktX0_plainly_2 : List UInt8 := dkwX0_plainly_2 ++ dktX0_plainly_3
def dkwX0_plainly_1 : List UInt8 := [21, 4, 54, 7, 21, 7, 28, 164, 0, 62, 42, 21, 7, 4, 100, 46, 21, 5, 163, 0, 25, 42, 21, 7]
abbrev dktX0_plainly_1 : List UInt8 := dkwX0_plainly_1 ++ dktX0_plainly_2
def dkwX0_plainly_0 : List UInt8 := [28, 4, 96, 54, 4, 21, 4, 29, 162, 0, 102, 42, 21, 4, 46, 54, 5, 43, 21, 4, 46, 54, 6]
abbrev dktX0_plainly_0 : List UInt8 := dkwX0_plainly_0 ++ dktX0_plainly_1
theorem dksX0_plainly_0 : cX0_plainly.data.toList.drop 0 = dktX0_plainly_0 := by decide +kernel
theorem dksX0_plainly_1 : cX0_plainly.data.toList.drop 23 = dktX0_plainly_1 := dk_seg dksX0_plainly_0 23 rfl rfl
theorem dksX0_plainly_2 : cX0_plainly.data.toList.drop 47 = dktX0_plainly_2 := dk_seg dksX0_plainly_1 24 rfl rfl
theorem dksX0_plainly_3 : cX0_plainly.data.toList.drop 70 = dktX0_plainly_3 := dk_seg dksX0_plainly_2 23 rfl rfl
theorem dksX0_plainly_4 : cX0_plainly.data.toList.drop 93 = dktX0_plainly_4 := dk_seg dksX0_plainly_3 23 rfl rfl
theorem dX0_plainly_0 : decode cX0_plainly 0 = .ok (.iload_n 2, 1) := dk_28 (dk_at dksX0_plainly_0 0 rfl rfl)
theorem dX0_plainly_1 : decode cX0_plainly 1 = .ok (.iconst 1, 1) := dk_4 (dk_at dksX0_plainly_0 1 rfl rfl)
theorem dX0_plainly_2 : decode cX0_plainly 2 = .ok (.iadd, 1) := dk_96 (dk_at dksX0_plainly_0 2 rfl rfl)
theorem dX0_plainly_3 : decode cX0_plainly 3 = .ok (.istore 4, 2) := dk_54 4 (dk_at dksX0_plainly_0 3 rfl rfl)
theorem dX0_plainly_5 : decode cX0_plainly 5 = .ok (.iload 4, 2) := dk_21 4 (dk_at dksX0_plainly_0 5 rfl rfl)
theorem dX0_plainly_7 : decode cX0_plainly 7 = .ok (.iload_n 3, 1) := dk_29 (dk_at dksX0_plainly_0 7 rfl rfl)
theorem dX0_plainly_8 : decode cX0_plainly 8 = .ok (.if_icmp .ge 102, 3) := dk_162 0 102 (dk_at dksX0_plainly_0 8 rfl rfl)
theorem dX0_plainly_11 : decode cX0_plainly 11 = .ok (.aload_n 0, 1) := dk_42 (dk_at dksX0_plainly_0 11 rfl rfl)
theorem dX0_plainly_12 : decode cX0_plainly 12 = .ok (.iload 4, 2) := dk_21 4 (dk_at dksX0_plainly_0 12 rfl rfl)
theorem dX0_plainly_14 : decode cX0_plainly 14 = .ok (.iaload, 1) := dk_46 (dk_at dksX0_plainly_0 14 rfl rfl)
theorem dX0_plainly_15 : decode cX0_plainly 15 = .ok (.istore 5, 2) := dk_54 5 (dk_at dksX0_plainly_0 15 rfl rfl)
theorem dX0_plainly_17 : decode cX0_plainly 17 = .ok (.aload_n 1, 1) := dk_43 (dk_at dksX0_plainly_0 17 rfl rfl)
theorem dX0_plainly_18 : decode cX0_plainly 18 = .ok (.iload 4, 2) := dk_21 4 (dk_at dksX0_plainly_0 18 rfl rfl)
theorem dX0_plainly_20 : decode cX0_plainly 20 = .ok (.iaload, 1) := dk_46 (dk_at dksX0_plainly_0 20 rfl rfl)
theorem dX0_plainly_21 : decode cX0_plainly 21 = .ok (.istore 6, 2) := dk_54 6 (dk_at dksX0_plainly_0 21 rfl rfl)
theorem dX0_plainly_23 : decode cX0_plainly 23 = .ok (.iload 4, 2) := dk_21 4 (dk_at dksX0_plainly_1 0 rfl rfl)
theorem dX0_plainly_25 : decode cX0_plainly 25 = .ok (.istore 7, 2) := dk_54 7 (dk_at dksX0_plainly_1 2 rfl rfl)
theorem dX0_plainly_27 : decode cX0_plainly 27 = .ok (.iload 7, 2) := dk_21 7 (dk_at dksX0_plainly_1 4 rfl rfl)
theorem dX0_plainly_29 : decode cX0_plainly 29 = .ok (.iload_n 2, 1) := dk_28 (dk_at dksX0_plainly_1 6 rfl rfl)
theorem dX0_plainly_30 : decode cX0_plainly 30 = .ok (.if_icmp .le 62, 3) := dk_164 0 62 (dk_at dksX0_plainly_1 7 rfl rfl)
theorem dX0_plainly_33 : decode cX0_plainly 33 = .ok (.aload_n 0, 1) := dk_42 (dk_at dksX0_plainly_1 10 rfl rfl)
theorem dX0_plainly_34 : decode cX0_plainly 34 = .ok (.iload 7, 2) := dk_21 7 (dk_at dksX0_plainly_1 11 rfl rfl)
theorem dX0_plainly_36 : decode cX0_plainly 36 = .ok (.iconst 1, 1) := dk_4 (dk_at dksX0_plainly_1 13 rfl rfl)
theorem dX0_plainly_37 : decode cX0_plainly 37 = .ok (.isub, 1) := dk_100 (dk_at dksX0_plainly_1 14 rfl rfl)
theorem dX0_plainly_38 : decode cX0_plainly 38 = .ok (.iaload, 1) := dk_46 (dk_at dksX0_plainly_1 15 rfl rfl)
theorem dX0_plainly_39 : decode cX0_plainly 39 = .ok (.iload 5, 2) := dk_21 5 (dk_at dksX0_plainly_1 16 rfl rfl)
theorem dX0_plainly_41 : decode cX0_plainly 41 = .ok (.if_icmp .gt 25, 3) := dk_163 0 25 (dk_at dksX0_plainly_1 18 rfl rfl)
theorem dX0_plainly_44 : decode cX0_plainly 44 = .ok (.aload_n 0, 1) := dk_42 (dk_at dksX0_plainly_1 21 rfl rfl)
theorem dX0_plainly_45 : decode cX0_plainly 45 = .ok (.iload 7, 2) := dk_21 7 (dk_at dksX0_plainly_1 22 rfl rfl)
theorem dX0_plainly_47 : decode cX0_plainly 47 = .ok (.iconst 1, 1) := dk_4 (dk_at dksX0_plainly_2 0 rfl rfl)
theorem dX0_plainly_48 : decode cX0_plainly 48 = .ok (.isub, 1) := dk_100 (dk_at dksX0_plainly_2 1 rfl rfl)
theorem dX0_plainly_49 : decode cX0_plainly 49 = .ok (.iaload, 1) := dk_46 (dk_at dksX0_plainly_2 2 rfl rfl)
theorem dX0_plainly_50 : decode cX0_plainly 50 = .ok (.iload 5, 2) := dk_21 5 (dk_at dksX0_plainly_2 3 rfl rfl)
theorem dX0_plainly_52 : decode cX0_plainly 52 = .ok (.if_icmp .ne 40, 3) := dk_160 0 40 (dk_at dksX0_plainly_2 5 rfl rfl)
theorem dX0_plainly_55 : decode cX0_plainly 55 = .ok (.aload_n 1, 1) := dk_43 (dk_at dksX0_plainly_2 8 rfl rfl)
theorem dX0_plainly_56 : decode cX0_plainly 56 = .ok (.iload 7, 2) := dk_21 7 (dk_at dksX0_plainly_2 9 rfl rfl)
theorem dX0_plainly_58 : decode cX0_plainly 58 = .ok (.iconst 1, 1) := dk_4 (dk_at dksX0_plainly_2 11 rfl rfl)
theorem dX0_plainly_59 : decode cX0_plainly 59 = .ok (.isub, 1) := dk_100 (dk_at dksX0_plainly_2 12 rfl rfl)
theorem dX0_plainly_60 : decode cX0_plainly 60 = .ok (.iaload, 1) := dk_46 (dk_at dksX0_plainly_2 13 rfl rfl)
theorem dX0_plainly_61 : decode cX0_plainly 61 = .ok (.iload 6, 2) := dk_21 6 (dk_at dksX0_plainly_2 14 rfl rfl)
theorem dX0_plainly_63 : decode cX0_plainly 63 = .ok (.if_icmp .le 29, 3) := dk_164 0 29 (dk_at dksX0_plainly_2 16 rfl rfl)
theorem dX0_plainly_66 : decode cX0_plainly 66 = .ok (.aload_n 0, 1) := dk_42 (dk_at dksX0_plainly_2 19 rfl rfl)
theorem dX0_plainly_67 : decode cX0_plainly 67 = .ok (.iload 7, 2) := dk_21 7 (dk_at dksX0_plainly_2 20 rfl rfl)
theorem dX0_plainly_69 : decode cX0_plainly 69 = .ok (.aload_n 0, 1) := dk_42 (dk_at dksX0_plainly_2 22 rfl rfl)
theorem dX0_plainly_70 : decode cX0_plainly 70 = .ok (.iload 7, 2) := dk_21 7 (dk_at dksX0_plainly_3 0 rfl rfl)
theorem dX0_plainly_72 : decode cX0_plainly 72 = .ok (.iconst 1, 1) := dk_4 (dk_at dksX0_plainly_3 2 rfl rfl)
theorem dX0_plainly_73 : decode cX0_plainly 73 = .ok (.isub, 1) := dk_100 (dk_at dksX0_plainly_3 3 rfl rfl)
theorem dX0_plainly_74 : decode cX0_plainly 74 = .ok (.iaload, 1) := dk_46 (dk_at dksX0_plainly_3 4 rfl rfl)
theorem dX0_plainly_75 : decode cX0_plainly 75 = .ok (.iastore, 1) := dk_79 (dk_at dksX0_plainly_3 5 rfl rfl)
theorem dX0_plainly_76 : decode cX0_plainly 76 = .ok (.aload_n 1, 1) := dk_43 (dk_at dksX0_plainly_3 6 rfl rfl)
theorem dX0_plainly_77 : decode cX0_plainly 77 = .ok (.iload 7, 2) := dk_21 7 (dk_at dksX0_plainly_3 7 rfl rfl)
theorem dX0_plainly_79 : decode cX0_plainly 79 = .ok (.aload_n 1, 1) := dk_43 (dk_at dksX0_plainly_3 9 rfl rfl)
theorem dX0_plainly_80 : decode cX0_plainly 80 = .ok (.iload 7, 2) := dk_21 7 (dk_at dksX0_plainly_3 10 rfl rfl)
theorem dX0_plainly_82 : decode cX0_plainly 82 = .ok (.iconst 1, 1) := dk_4 (dk_at dksX0_plainly_3 12 rfl rfl)
theorem dX0_plainly_83 : decode cX0_plainly 83 = .ok (.isub, 1) := dk_100 (dk_at dksX0_plainly_3 13 rfl rfl)
theorem dX0_plainly_84 : decode cX0_plainly 84 = .ok (.iaload, 1) := dk_46 (dk_at dksX0_plainly_3 14 rfl rfl)
theorem dX0_plainly_85 : decode cX0_plainly 85 = .ok (.iastore, 1) := dk_79 (dk_at dksX0_plainly_3 15 rfl rfl)
theorem dX0_plainly_86 : decode cX0_plainly 86 = .ok (.iinc 7 (-1), 3) := dk_132 7 255 (dk_at dksX0_plainly_3 16 rfl rfl)
theorem dX0_plainly_89 : decode cX0_plainly 89 = .ok (.goto (-62), 3) := dk_167 255 194 (dk_at dksX0_plainly_3 19 rfl rfl)
theorem dX0_plainly_92 : decode cX0_plainly 92 = .ok (.aload_n 0, 1) := dk_42 (dk_at dksX0_plainly_3 22 rfl rfl)
theorem dX0_plainly_93 : decode cX0_plainly 93 = .ok (.iload 7, 2) := dk_21 7 (dk_at dksX0_plainly_4 0 rfl rfl)
theorem dX0_plainly_95 : decode cX0_plainly 95 = .ok (.iload 5, 2) := dk_21 5 (dk_at dksX0_plainly_4 2 rfl rfl)
theorem dX0_plainly_97 : decode cX0_plainly 97 = .ok (.iastore, 1) := dk_79 (dk_at dksX0_plainly_4 4 rfl rfl)
theorem dX0_plainly_98 : decode cX0_plainly 98 = .ok (.aload_n 1, 1) := dk_43 (dk_at dksX0_plainly_4 5 rfl rfl)
theorem dX0_plainly_99 : decode cX0_plainly 99 = .ok (.iload 7, 2) := dk_21 7 (dk_at dksX0_plainly_4 6 rfl rfl)
theorem dX0_plainly_101 : decode cX0_plainly 101 = .ok (.iload 6, 2) := dk_21 6 (dk_at dksX0_plainly_4 8 rfl rfl)
theorem dX0_plainly_103 : decode cX0_plainly 103 = .ok (.iastore, 1) := dk_79 (dk_at dksX0_plainly_4 10 rfl rfl)
theorem dX0_plainly_104 : decode cX0_plainly 104 = .ok (.iinc 4 1, 3) := dk_132 4 1 (dk_at dksX0_plainly_4 11 rfl rfl)
theorem dX0_plainly_107 : decode cX0_plainly 107 = .ok (.goto (-102), 3) := dk_167 255 154 (dk_at dksX0_plainly_4 14 rfl rfl)
theorem dX0_plainly_110 : decode cX0_plainly 110 = .ok (.return_, 1) := dk_177 (dk_at dksX0_plainly_4 17 rfl rfl)
abbrev cX0_stands : ByteArray := method_6_code
def yX0_stands : MethodName := ⟨RX0, "stands", "(LSwapSortDesk;[I[I)Z"⟩
def dkwX0_stands_2 : List UInt8 := [96, 182, 0, 19, 44, 29, 46, 159, 0, 5, 3, 172, 132, 3, 1, 167, 255, 195, 4, 172]
abbrev dktX0_stands_2 : List UInt8 := dkwX0_stands_2 ++ []
def dkwX0_stands_1 : List UInt8 := [44, 29, 46, 160, 0, 31, 42, 29, 16, 48, 96, 182, 0, 14, 43, 29, 46, 160, 0, 17, 42, 29, 16, 96]
abbrev dktX0_stands_1 : List UInt8 := dkwX0_stands_1 ++ dktX0_stands_2
def dkwX0_stands_0 : List UInt8 := [3, 62, 29, 16, 48, 162, 0, 61, 42, 29, 182, 0, 14, 43, 29, 46, 160, 0, 42, 42, 29, 182, 0, 19]
abbrev dktX0_stands_0 : List UInt8 := dkwX0_stands_0 ++ dktX0_stands_1
theorem dksX0_stands_0 : cX0_stands.data.toList.drop 0 = dktX0_stands_0 := by decide +kernel
theorem dksX0_stands_1 : cX0_stands.data.toList.drop 24 = dktX0_stands_1 := dk_seg dksX0_stands_0 24 rfl rfl
theorem dksX0_stands_2 : cX0_stands.data.toList.drop 48 = dktX0_stands_2 := dk_seg dksX0_stands_1 24 rfl rfl
theorem dX0_stands_0 : decode cX0_stands 0 = .ok (.iconst 0, 1) := dk_3 (dk_at dksX0_stands_0 0 rfl rfl)
theorem dX0_stands_1 : decode cX0_stands 1 = .ok (.istore_n 3, 1) := dk_62 (dk_at dksX0_stands_0 1 rfl rfl)
theorem dX0_stands_2 : decode cX0_stands 2 = .ok (.iload_n 3, 1) := dk_29 (dk_at dksX0_stands_0 2 rfl rfl)
theorem dX0_stands_3 : decode cX0_stands 3 = .ok (.bipush 48, 2) := dk_16 48 (dk_at dksX0_stands_0 3 rfl rfl)
theorem dX0_stands_5 : decode cX0_stands 5 = .ok (.if_icmp .ge 61, 3) := dk_162 0 61 (dk_at dksX0_stands_0 5 rfl rfl)
theorem dX0_stands_8 : decode cX0_stands 8 = .ok (.aload_n 0, 1) := dk_42 (dk_at dksX0_stands_0 8 rfl rfl)
theorem dX0_stands_9 : decode cX0_stands 9 = .ok (.iload_n 3, 1) := dk_29 (dk_at dksX0_stands_0 9 rfl rfl)
theorem dX0_stands_10 : decode cX0_stands 10 = .ok (.invokevirtual 14, 3) := dk_182 0 14 (dk_at dksX0_stands_0 10 rfl rfl)
theorem dX0_stands_13 : decode cX0_stands 13 = .ok (.aload_n 1, 1) := dk_43 (dk_at dksX0_stands_0 13 rfl rfl)
theorem dX0_stands_14 : decode cX0_stands 14 = .ok (.iload_n 3, 1) := dk_29 (dk_at dksX0_stands_0 14 rfl rfl)
theorem dX0_stands_15 : decode cX0_stands 15 = .ok (.iaload, 1) := dk_46 (dk_at dksX0_stands_0 15 rfl rfl)
theorem dX0_stands_16 : decode cX0_stands 16 = .ok (.if_icmp .ne 42, 3) := dk_160 0 42 (dk_at dksX0_stands_0 16 rfl rfl)
theorem dX0_stands_19 : decode cX0_stands 19 = .ok (.aload_n 0, 1) := dk_42 (dk_at dksX0_stands_0 19 rfl rfl)
theorem dX0_stands_20 : decode cX0_stands 20 = .ok (.iload_n 3, 1) := dk_29 (dk_at dksX0_stands_0 20 rfl rfl)
theorem dX0_stands_21 : decode cX0_stands 21 = .ok (.invokevirtual 19, 3) := dk_182 0 19 (dk_at dksX0_stands_0 21 rfl rfl)
theorem dX0_stands_24 : decode cX0_stands 24 = .ok (.aload_n 2, 1) := dk_44 (dk_at dksX0_stands_1 0 rfl rfl)
theorem dX0_stands_25 : decode cX0_stands 25 = .ok (.iload_n 3, 1) := dk_29 (dk_at dksX0_stands_1 1 rfl rfl)
theorem dX0_stands_26 : decode cX0_stands 26 = .ok (.iaload, 1) := dk_46 (dk_at dksX0_stands_1 2 rfl rfl)
theorem dX0_stands_27 : decode cX0_stands 27 = .ok (.if_icmp .ne 31, 3) := dk_160 0 31 (dk_at dksX0_stands_1 3 rfl rfl)
theorem dX0_stands_30 : decode cX0_stands 30 = .ok (.aload_n 0, 1) := dk_42 (dk_at dksX0_stands_1 6 rfl rfl)
theorem dX0_stands_31 : decode cX0_stands 31 = .ok (.iload_n 3, 1) := dk_29 (dk_at dksX0_stands_1 7 rfl rfl)
theorem dX0_stands_32 : decode cX0_stands 32 = .ok (.bipush 48, 2) := dk_16 48 (dk_at dksX0_stands_1 8 rfl rfl)
theorem dX0_stands_34 : decode cX0_stands 34 = .ok (.iadd, 1) := dk_96 (dk_at dksX0_stands_1 10 rfl rfl)
theorem dX0_stands_35 : decode cX0_stands 35 = .ok (.invokevirtual 14, 3) := dk_182 0 14 (dk_at dksX0_stands_1 11 rfl rfl)
theorem dX0_stands_38 : decode cX0_stands 38 = .ok (.aload_n 1, 1) := dk_43 (dk_at dksX0_stands_1 14 rfl rfl)
theorem dX0_stands_39 : decode cX0_stands 39 = .ok (.iload_n 3, 1) := dk_29 (dk_at dksX0_stands_1 15 rfl rfl)
theorem dX0_stands_40 : decode cX0_stands 40 = .ok (.iaload, 1) := dk_46 (dk_at dksX0_stands_1 16 rfl rfl)
theorem dX0_stands_41 : decode cX0_stands 41 = .ok (.if_icmp .ne 17, 3) := dk_160 0 17 (dk_at dksX0_stands_1 17 rfl rfl)
theorem dX0_stands_44 : decode cX0_stands 44 = .ok (.aload_n 0, 1) := dk_42 (dk_at dksX0_stands_1 20 rfl rfl)
theorem dX0_stands_45 : decode cX0_stands 45 = .ok (.iload_n 3, 1) := dk_29 (dk_at dksX0_stands_1 21 rfl rfl)
theorem dX0_stands_46 : decode cX0_stands 46 = .ok (.bipush 96, 2) := dk_16 96 (dk_at dksX0_stands_1 22 rfl rfl)
theorem dX0_stands_48 : decode cX0_stands 48 = .ok (.iadd, 1) := dk_96 (dk_at dksX0_stands_2 0 rfl rfl)
theorem dX0_stands_49 : decode cX0_stands 49 = .ok (.invokevirtual 19, 3) := dk_182 0 19 (dk_at dksX0_stands_2 1 rfl rfl)
theorem dX0_stands_52 : decode cX0_stands 52 = .ok (.aload_n 2, 1) := dk_44 (dk_at dksX0_stands_2 4 rfl rfl)
theorem dX0_stands_53 : decode cX0_stands 53 = .ok (.iload_n 3, 1) := dk_29 (dk_at dksX0_stands_2 5 rfl rfl)
theorem dX0_stands_54 : decode cX0_stands 54 = .ok (.iaload, 1) := dk_46 (dk_at dksX0_stands_2 6 rfl rfl)
theorem dX0_stands_55 : decode cX0_stands 55 = .ok (.if_icmp .eq 5, 3) := dk_159 0 5 (dk_at dksX0_stands_2 7 rfl rfl)
theorem dX0_stands_58 : decode cX0_stands 58 = .ok (.iconst 0, 1) := dk_3 (dk_at dksX0_stands_2 10 rfl rfl)
theorem dX0_stands_59 : decode cX0_stands 59 = .ok (.ireturn, 1) := dk_172 (dk_at dksX0_stands_2 11 rfl rfl)
theorem dX0_stands_60 : decode cX0_stands 60 = .ok (.iinc 3 1, 3) := dk_132 3 1 (dk_at dksX0_stands_2 12 rfl rfl)
theorem dX0_stands_63 : decode cX0_stands 63 = .ok (.goto (-61), 3) := dk_167 255 195 (dk_at dksX0_stands_2 15 rfl rfl)
theorem dX0_stands_66 : decode cX0_stands 66 = .ok (.iconst 1, 1) := dk_4 (dk_at dksX0_stands_2 18 rfl rfl)
theorem dX0_stands_67 : decode cX0_stands 67 = .ok (.ireturn, 1) := dk_172 (dk_at dksX0_stands_2 19 rfl rfl)
theorem q2 : (Jvm.Cond.initialized "SwapSortDeskLaw") ∈ lw_all := lw_g (lw_at lw_m0 0 rfl) rfl
theorem q7 : (Jvm.Cond.classLink "SwapSortDeskLaw" (15 : Nat) "SwapSortDesk") ∈ lw_all := lw_g (lw_at lw_m0 5 rfl) rfl
theorem q9 : (Jvm.Cond.methodLink "SwapSortDeskLaw" (22 : Nat) ({ cls := "SwapSortDesk", name := "<init>", desc := "()V" } : Jvm.MethodName)) ∈ lw_all := lw_g (lw_at lw_m0 7 rfl) rfl
theorem q38 : (Jvm.Cond.methodLink "SwapSortDeskLaw" (31 : Nat) ({ cls := "SwapSortDesk", name := "set", desc := "(III)V" } : Jvm.MethodName)) ∈ lw_all := lw_g (lw_at lw_m0 36 rfl) rfl
theorem q43 : (Jvm.Cond.methodLink "SwapSortDeskLaw" (50 : Nat) ({ cls := "SwapSortDesk", name := "few", desc := "(III)V" } : Jvm.MethodName)) ∈ lw_all := lw_g (lw_at lw_m0 41 rfl) rfl
theorem q47 : (Jvm.Cond.methodLink "SwapSortDeskLaw" (35 : Nat) ({ cls := "SwapSortDesk", name := "quick", desc := "(II)V" } : Jvm.MethodName)) ∈ lw_all := lw_g (lw_at lw_m0 45 rfl) rfl
theorem q92 : (Jvm.Cond.methodLink "SwapSortDeskLaw" (39 : Nat) ({ cls := "SwapSortDesk", name := "merge", desc := "(II)V" } : Jvm.MethodName)) ∈ lw_all := lw_g (lw_at lw_m0 90 rfl) rfl
theorem q109 : (Jvm.Cond.methodLink "SwapSortDeskLaw" (27 : Nat) ({ cls := "SwapSortDeskLaw", name := "cell", desc := "([II)I" } : Jvm.MethodName)) ∈ lw_all := lw_g (lw_at lw_m0 107 rfl) rfl
theorem q110 : (Jvm.Cond.static ({ cls := "SwapSortDeskLaw", name := "cell", desc := "([II)I" } : Jvm.MethodName)) ∈ lw_all := lw_g (lw_at lw_m0 108 rfl) rfl
theorem q111 : (Jvm.Cond.code ({ cls := "SwapSortDeskLaw", name := "cell", desc := "([II)I" } : Jvm.MethodName) method_2_code (2 : Nat) (Option.some Jvm.ClassFile.FieldType.int)) ∈ lw_all := lw_g (lw_at lw_m0 109 rfl) rfl
theorem q112 : (Jvm.Cond.methodLink "SwapSortDeskLaw" (8 : Nat) ({ cls := "SwapSortDeskLaw", name := "from", desc := "(I)I" } : Jvm.MethodName)) ∈ lw_all := lw_g (lw_at lw_m0 110 rfl) rfl
theorem q113 : (Jvm.Cond.static ({ cls := "SwapSortDeskLaw", name := "from", desc := "(I)I" } : Jvm.MethodName)) ∈ lw_all := lw_g (lw_at lw_m0 111 rfl) rfl
theorem q114 : (Jvm.Cond.code ({ cls := "SwapSortDeskLaw", name := "from", desc := "(I)I" } : Jvm.MethodName) method_3_code (1 : Nat) (Option.some Jvm.ClassFile.FieldType.int)) ∈ lw_all := lw_g (lw_at lw_m0 112 rfl) rfl
theorem q115 : (Jvm.Cond.constant "SwapSortDeskLaw" (7 : Nat) (2147483647 : Int32)) ∈ lw_all := lw_g (lw_at lw_m0 113 rfl) rfl
theorem q116 : (Jvm.Cond.methodLink "SwapSortDeskLaw" (42 : Nat) ({ cls := "SwapSortDeskLaw", name := "to", desc := "(II)I" } : Jvm.MethodName)) ∈ lw_all := lw_g (lw_at lw_m0 114 rfl) rfl
theorem q117 : (Jvm.Cond.static ({ cls := "SwapSortDeskLaw", name := "to", desc := "(II)I" } : Jvm.MethodName)) ∈ lw_all := lw_g (lw_at lw_m0 115 rfl) rfl
theorem q118 : (Jvm.Cond.code ({ cls := "SwapSortDeskLaw", name := "to", desc := "(II)I" } : Jvm.MethodName) method_4_code (2 : Nat) (Option.some Jvm.ClassFile.FieldType.int)) ∈ lw_all := lw_g (lw_at lw_m0 116 rfl) rfl
theorem q119 : (Jvm.Cond.methodLink "SwapSortDeskLaw" (46 : Nat) ({ cls := "SwapSortDeskLaw", name := "plainly", desc := "([I[III)V" } : Jvm.MethodName)) ∈ lw_all := lw_g (lw_at lw_m0 117 rfl) rfl
theorem q120 : (Jvm.Cond.static ({ cls := "SwapSortDeskLaw", name := "plainly", desc := "([I[III)V" } : Jvm.MethodName)) ∈ lw_all := lw_g (lw_at lw_m0 118 rfl) rfl
theorem q121 : (Jvm.Cond.code ({ cls := "SwapSortDeskLaw", name := "plainly", desc := "([I[III)V" } : Jvm.MethodName) method_5_code (8 : Nat) (Option.none : Option Jvm.ClassFile.FieldType)) ∈ lw_all := lw_g (lw_at lw_m0 119 rfl) rfl
theorem q122 : (Jvm.Cond.methodLink "SwapSortDeskLaw" (23 : Nat) ({ cls := "SwapSortDeskLaw", name := "stands", desc := "(LSwapSortDesk;[I[I)Z" } : Jvm.MethodName)) ∈ lw_all := lw_g (lw_at lw_m0 120 rfl) rfl
theorem q123 : (Jvm.Cond.static ({ cls := "SwapSortDeskLaw", name := "stands", desc := "(LSwapSortDesk;[I[I)Z" } : Jvm.MethodName)) ∈ lw_all := lw_g (lw_at lw_m0 121 rfl) rfl
theorem q124 : (Jvm.Cond.code ({ cls := "SwapSortDeskLaw", name := "stands", desc := "(LSwapSortDesk;[I[I)Z" } : Jvm.MethodName) method_6_code (4 : Nat) (Option.some Jvm.ClassFile.FieldType.boolean)) ∈ lw_all := lw_g (lw_at lw_m0 122 rfl) rfl
theorem q125 : (Jvm.Cond.methodLink "SwapSortDeskLaw" (14 : Nat) ({ cls := "SwapSortDesk", name := "first", desc := "(I)I" } : Jvm.MethodName)) ∈ lw_all := lw_g (lw_at lw_m0 123 rfl) rfl
theorem q129 : (Jvm.Cond.methodLink "SwapSortDeskLaw" (19 : Nat) ({ cls := "SwapSortDesk", name := "second", desc := "(I)I" } : Jvm.MethodName)) ∈ lw_all := lw_g (lw_at lw_m0 127 rfl) rfl
/-! the law's own entry -/
set_option maxRecDepth 100000
abbrev cL_law : ByteArray := code
def dkwL_law_18 : List UInt8 := [153, 0, 17, 44, 45, 25, 4, 184, 0, 23, 153, 0, 7, 4, 167, 0, 4, 3, 172]
abbrev dktL_law_18 : List UInt8 := dkwL_law_18 ++ []
def dkwL_law_17 : List UInt8 := [21, 9, 21, 10, 182, 0, 39, 44, 21, 9, 21, 10, 182, 0, 35, 43, 45, 25, 4, 184, 0, 23]
abbrev dktL_law_17 : List UInt8 := dkwL_law_17 ++ dktL_law_18
def dkwL_law_16 : List UInt8 := [43, 45, 25, 4, 184, 0, 23, 153, 0, 13, 44, 45, 25, 4, 184, 0, 23, 154, 0, 5, 3, 172, 43]
abbrev dktL_law_16 : List UInt8 := dkwL_law_16 ++ dktL_law_17
def dkwL_law_15 : List UInt8 := [43, 3, 16, 48, 182, 0, 35, 44, 16, 49, 16, 48, 182, 0, 39, 45, 25, 4, 3, 16, 48, 184, 0, 46]
abbrev dktL_law_15 : List UInt8 := dkwL_law_15 ++ dktL_law_16
def dkwL_law_14 : List UInt8 := [126, 79, 43, 45, 25, 4, 184, 0, 23, 153, 0, 13, 44, 45, 25, 4, 184, 0, 23, 154, 0, 5, 3, 172]
abbrev dktL_law_14 : List UInt8 := dkwL_law_14 ++ dktL_law_15
def dkwL_law_13 : List UInt8 := [126, 16, 48, 112, 21, 10, 6, 126, 79, 25, 4, 21, 9, 18, 7, 126, 16, 48, 112, 21, 9, 5, 122, 6]
abbrev dktL_law_13 : List UInt8 := dkwL_law_13 ++ dktL_law_14
def dkwL_law_12 : List UInt8 := [21, 9, 5, 122, 182, 0, 50, 44, 21, 9, 21, 10, 21, 9, 5, 122, 182, 0, 50, 45, 21, 9, 18, 7]
abbrev dktL_law_12 : List UInt8 := dkwL_law_12 ++ dktL_law_13
def dkwL_law_11 : List UInt8 := [184, 0, 23, 153, 0, 13, 44, 45, 25, 4, 184, 0, 23, 154, 0, 5, 3, 172, 43, 21, 9, 21, 10]
abbrev dktL_law_11 : List UInt8 := dkwL_law_11 ++ dktL_law_12
def dkwL_law_10 : List UInt8 := [45, 25, 4, 21, 7, 184, 0, 8, 21, 7, 21, 8, 184, 0, 42, 184, 0, 46, 43, 45, 25, 4]
abbrev dktL_law_10 : List UInt8 := dkwL_law_10 ++ dktL_law_11
def dkwL_law_9 : List UInt8 := [184, 0, 23, 154, 0, 5, 3, 172, 43, 21, 7, 21, 8, 182, 0, 39, 44, 21, 7, 21, 8, 182, 0, 35]
abbrev dktL_law_9 : List UInt8 := dkwL_law_9 ++ dktL_law_10
def dkwL_law_8 : List UInt8 := [21, 5, 21, 6, 184, 0, 42, 184, 0, 46, 43, 45, 25, 4, 184, 0, 23, 153, 0, 13, 44, 45, 25, 4]
abbrev dktL_law_8 : List UInt8 := dkwL_law_8 ++ dktL_law_9
def dkwL_law_7 : List UInt8 := [21, 5, 21, 6, 182, 0, 35, 44, 21, 5, 21, 6, 182, 0, 39, 45, 25, 4, 21, 5, 184, 0, 8]
abbrev dktL_law_7 : List UInt8 := dkwL_law_7 ++ dktL_law_8
def dkwL_law_6 : List UInt8 := [16, 99, 184, 0, 27, 54, 8, 42, 16, 100, 184, 0, 27, 54, 9, 42, 16, 101, 184, 0, 27, 54, 10, 43]
abbrev dktL_law_6 : List UInt8 := dkwL_law_6 ++ dktL_law_7
def dkwL_law_5 : List UInt8 := [16, 96, 184, 0, 27, 54, 5, 42, 16, 97, 184, 0, 27, 54, 6, 42, 16, 98, 184, 0, 27, 54, 7, 42]
abbrev dktL_law_5 : List UInt8 := dkwL_law_5 ++ dktL_law_6
def dkwL_law_4 : List UInt8 := [17, 1, 224, 96, 45, 21, 5, 46, 25, 4, 21, 5, 46, 182, 0, 31, 132, 5, 1, 167, 255, 185, 42]
abbrev dktL_law_4 : List UInt8 := dkwL_law_4 ++ dktL_law_5
def dkwL_law_3 : List UInt8 := [4, 96, 184, 0, 27, 79, 43, 21, 5, 45, 21, 5, 46, 25, 4, 21, 5, 46, 182, 0, 31, 44, 21, 5]
abbrev dktL_law_3 : List UInt8 := dkwL_law_3 ++ dktL_law_4
def dkwL_law_2 : List UInt8 := [162, 0, 70, 45, 21, 5, 42, 5, 21, 5, 104, 184, 0, 27, 79, 25, 4, 21, 5, 42, 5, 21, 5, 104]
abbrev dktL_law_2 : List UInt8 := dkwL_law_2 ++ dktL_law_3
def dkwL_law_1 : List UInt8 := [188, 10, 58, 4, 43, 45, 25, 4, 184, 0, 23, 154, 0, 5, 3, 172, 3, 54, 5, 21, 5, 16, 48]
abbrev dktL_law_1 : List UInt8 := dkwL_law_1 ++ dktL_law_2
def dkwL_law_0 : List UInt8 := [187, 0, 15, 89, 183, 0, 22, 76, 187, 0, 15, 89, 183, 0, 22, 77, 16, 48, 188, 10, 78, 16, 48]
abbrev dktL_law_0 : List UInt8 := dkwL_law_0 ++ dktL_law_1
theorem dksL_law_0 : cL_law.data.toList.drop 0 = dktL_law_0 := by decide +kernel
theorem dksL_law_1 : cL_law.data.toList.drop 23 = dktL_law_1 := dk_seg dksL_law_0 23 rfl rfl
theorem dksL_law_2 : cL_law.data.toList.drop 46 = dktL_law_2 := dk_seg dksL_law_1 23 rfl rfl
theorem dksL_law_3 : cL_law.data.toList.drop 70 = dktL_law_3 := dk_seg dksL_law_2 24 rfl rfl
theorem dksL_law_4 : cL_law.data.toList.drop 94 = dktL_law_4 := dk_seg dksL_law_3 24 rfl rfl
theorem dksL_law_5 : cL_law.data.toList.drop 117 = dktL_law_5 := dk_seg dksL_law_4 23 rfl rfl
theorem dksL_law_6 : cL_law.data.toList.drop 141 = dktL_law_6 := dk_seg dksL_law_5 24 rfl rfl
theorem dksL_law_7 : cL_law.data.toList.drop 165 = dktL_law_7 := dk_seg dksL_law_6 24 rfl rfl
theorem dksL_law_8 : cL_law.data.toList.drop 188 = dktL_law_8 := dk_seg dksL_law_7 23 rfl rfl
theorem dksL_law_9 : cL_law.data.toList.drop 212 = dktL_law_9 := dk_seg dksL_law_8 24 rfl rfl
theorem dksL_law_10 : cL_law.data.toList.drop 236 = dktL_law_10 := dk_seg dksL_law_9 24 rfl rfl
theorem dksL_law_11 : cL_law.data.toList.drop 258 = dktL_law_11 := dk_seg dksL_law_10 22 rfl rfl
theorem dksL_law_12 : cL_law.data.toList.drop 281 = dktL_law_12 := dk_seg dksL_law_11 23 rfl rfl
theorem dksL_law_13 : cL_law.data.toList.drop 305 = dktL_law_13 := dk_seg dksL_law_12 24 rfl rfl
theorem dksL_law_14 : cL_law.data.toList.drop 329 = dktL_law_14 := dk_seg dksL_law_13 24 rfl rfl
theorem dksL_law_15 : cL_law.data.toList.drop 353 = dktL_law_15 := dk_seg dksL_law_14 24 rfl rfl
theorem dksL_law_16 : cL_law.data.toList.drop 377 = dktL_law_16 := dk_seg dksL_law_15 24 rfl rfl
theorem dksL_law_17 : cL_law.data.toList.drop 400 = dktL_law_17 := dk_seg dksL_law_16 23 rfl rfl
theorem dksL_law_18 : cL_law.data.toList.drop 422 = dktL_law_18 := dk_seg dksL_law_17 22 rfl rfl
theorem dL_law_0 : decode cL_law 0 = .ok (.new 15, 3) := dk_187 0 15 (dk_at dksL_law_0 0 rfl rfl)
theorem dL_law_3 : decode cL_law 3 = .ok (.dup, 1) := dk_89 (dk_at dksL_law_0 3 rfl rfl)
theorem dL_law_4 : decode cL_law 4 = .ok (.invokespecial 22, 3) := dk_183 0 22 (dk_at dksL_law_0 4 rfl rfl)
theorem dL_law_7 : decode cL_law 7 = .ok (.astore_n 1, 1) := dk_76 (dk_at dksL_law_0 7 rfl rfl)
theorem dL_law_8 : decode cL_law 8 = .ok (.new 15, 3) := dk_187 0 15 (dk_at dksL_law_0 8 rfl rfl)
theorem dL_law_11 : decode cL_law 11 = .ok (.dup, 1) := dk_89 (dk_at dksL_law_0 11 rfl rfl)
theorem dL_law_12 : decode cL_law 12 = .ok (.invokespecial 22, 3) := dk_183 0 22 (dk_at dksL_law_0 12 rfl rfl)
theorem dL_law_15 : decode cL_law 15 = .ok (.astore_n 2, 1) := dk_77 (dk_at dksL_law_0 15 rfl rfl)
theorem dL_law_16 : decode cL_law 16 = .ok (.bipush 48, 2) := dk_16 48 (dk_at dksL_law_0 16 rfl rfl)
theorem dL_law_18 : decode cL_law 18 = .ok (.newarray .int, 2) := dk_188_10 (dk_at dksL_law_0 18 rfl rfl)
theorem dL_law_20 : decode cL_law 20 = .ok (.astore_n 3, 1) := dk_78 (dk_at dksL_law_0 20 rfl rfl)
theorem dL_law_21 : decode cL_law 21 = .ok (.bipush 48, 2) := dk_16 48 (dk_at dksL_law_0 21 rfl rfl)
theorem dL_law_23 : decode cL_law 23 = .ok (.newarray .int, 2) := dk_188_10 (dk_at dksL_law_1 0 rfl rfl)
theorem dL_law_25 : decode cL_law 25 = .ok (.astore 4, 2) := dk_58 4 (dk_at dksL_law_1 2 rfl rfl)
theorem dL_law_27 : decode cL_law 27 = .ok (.aload_n 1, 1) := dk_43 (dk_at dksL_law_1 4 rfl rfl)
theorem dL_law_28 : decode cL_law 28 = .ok (.aload_n 3, 1) := dk_45 (dk_at dksL_law_1 5 rfl rfl)
theorem dL_law_29 : decode cL_law 29 = .ok (.aload 4, 2) := dk_25 4 (dk_at dksL_law_1 6 rfl rfl)
theorem dL_law_31 : decode cL_law 31 = .ok (.invokestatic 23, 3) := dk_184 0 23 (dk_at dksL_law_1 8 rfl rfl)
theorem dL_law_34 : decode cL_law 34 = .ok (.ifCond .ne 5, 3) := dk_154 0 5 (dk_at dksL_law_1 11 rfl rfl)
theorem dL_law_37 : decode cL_law 37 = .ok (.iconst 0, 1) := dk_3 (dk_at dksL_law_1 14 rfl rfl)
theorem dL_law_38 : decode cL_law 38 = .ok (.ireturn, 1) := dk_172 (dk_at dksL_law_1 15 rfl rfl)
theorem dL_law_39 : decode cL_law 39 = .ok (.iconst 0, 1) := dk_3 (dk_at dksL_law_1 16 rfl rfl)
theorem dL_law_40 : decode cL_law 40 = .ok (.istore 5, 2) := dk_54 5 (dk_at dksL_law_1 17 rfl rfl)
theorem dL_law_42 : decode cL_law 42 = .ok (.iload 5, 2) := dk_21 5 (dk_at dksL_law_1 19 rfl rfl)
theorem dL_law_44 : decode cL_law 44 = .ok (.bipush 48, 2) := dk_16 48 (dk_at dksL_law_1 21 rfl rfl)
theorem dL_law_46 : decode cL_law 46 = .ok (.if_icmp .ge 70, 3) := dk_162 0 70 (dk_at dksL_law_2 0 rfl rfl)
theorem dL_law_49 : decode cL_law 49 = .ok (.aload_n 3, 1) := dk_45 (dk_at dksL_law_2 3 rfl rfl)
theorem dL_law_50 : decode cL_law 50 = .ok (.iload 5, 2) := dk_21 5 (dk_at dksL_law_2 4 rfl rfl)
theorem dL_law_52 : decode cL_law 52 = .ok (.aload_n 0, 1) := dk_42 (dk_at dksL_law_2 6 rfl rfl)
theorem dL_law_53 : decode cL_law 53 = .ok (.iconst 2, 1) := dk_5 (dk_at dksL_law_2 7 rfl rfl)
theorem dL_law_54 : decode cL_law 54 = .ok (.iload 5, 2) := dk_21 5 (dk_at dksL_law_2 8 rfl rfl)
theorem dL_law_56 : decode cL_law 56 = .ok (.imul, 1) := dk_104 (dk_at dksL_law_2 10 rfl rfl)
theorem dL_law_57 : decode cL_law 57 = .ok (.invokestatic 27, 3) := dk_184 0 27 (dk_at dksL_law_2 11 rfl rfl)
theorem dL_law_60 : decode cL_law 60 = .ok (.iastore, 1) := dk_79 (dk_at dksL_law_2 14 rfl rfl)
theorem dL_law_61 : decode cL_law 61 = .ok (.aload 4, 2) := dk_25 4 (dk_at dksL_law_2 15 rfl rfl)
theorem dL_law_63 : decode cL_law 63 = .ok (.iload 5, 2) := dk_21 5 (dk_at dksL_law_2 17 rfl rfl)
theorem dL_law_65 : decode cL_law 65 = .ok (.aload_n 0, 1) := dk_42 (dk_at dksL_law_2 19 rfl rfl)
theorem dL_law_66 : decode cL_law 66 = .ok (.iconst 2, 1) := dk_5 (dk_at dksL_law_2 20 rfl rfl)
theorem dL_law_67 : decode cL_law 67 = .ok (.iload 5, 2) := dk_21 5 (dk_at dksL_law_2 21 rfl rfl)
theorem dL_law_69 : decode cL_law 69 = .ok (.imul, 1) := dk_104 (dk_at dksL_law_2 23 rfl rfl)
theorem dL_law_70 : decode cL_law 70 = .ok (.iconst 1, 1) := dk_4 (dk_at dksL_law_3 0 rfl rfl)
theorem dL_law_71 : decode cL_law 71 = .ok (.iadd, 1) := dk_96 (dk_at dksL_law_3 1 rfl rfl)
theorem dL_law_72 : decode cL_law 72 = .ok (.invokestatic 27, 3) := dk_184 0 27 (dk_at dksL_law_3 2 rfl rfl)
theorem dL_law_75 : decode cL_law 75 = .ok (.iastore, 1) := dk_79 (dk_at dksL_law_3 5 rfl rfl)
theorem dL_law_76 : decode cL_law 76 = .ok (.aload_n 1, 1) := dk_43 (dk_at dksL_law_3 6 rfl rfl)
theorem dL_law_77 : decode cL_law 77 = .ok (.iload 5, 2) := dk_21 5 (dk_at dksL_law_3 7 rfl rfl)
theorem dL_law_79 : decode cL_law 79 = .ok (.aload_n 3, 1) := dk_45 (dk_at dksL_law_3 9 rfl rfl)
theorem dL_law_80 : decode cL_law 80 = .ok (.iload 5, 2) := dk_21 5 (dk_at dksL_law_3 10 rfl rfl)
theorem dL_law_82 : decode cL_law 82 = .ok (.iaload, 1) := dk_46 (dk_at dksL_law_3 12 rfl rfl)
theorem dL_law_83 : decode cL_law 83 = .ok (.aload 4, 2) := dk_25 4 (dk_at dksL_law_3 13 rfl rfl)
theorem dL_law_85 : decode cL_law 85 = .ok (.iload 5, 2) := dk_21 5 (dk_at dksL_law_3 15 rfl rfl)
theorem dL_law_87 : decode cL_law 87 = .ok (.iaload, 1) := dk_46 (dk_at dksL_law_3 17 rfl rfl)
theorem dL_law_88 : decode cL_law 88 = .ok (.invokevirtual 31, 3) := dk_182 0 31 (dk_at dksL_law_3 18 rfl rfl)
theorem dL_law_91 : decode cL_law 91 = .ok (.aload_n 2, 1) := dk_44 (dk_at dksL_law_3 21 rfl rfl)
theorem dL_law_92 : decode cL_law 92 = .ok (.iload 5, 2) := dk_21 5 (dk_at dksL_law_3 22 rfl rfl)
theorem dL_law_94 : decode cL_law 94 = .ok (.sipush 480, 3) := dk_17 1 224 (dk_at dksL_law_4 0 rfl rfl)
theorem dL_law_97 : decode cL_law 97 = .ok (.iadd, 1) := dk_96 (dk_at dksL_law_4 3 rfl rfl)
theorem dL_law_98 : decode cL_law 98 = .ok (.aload_n 3, 1) := dk_45 (dk_at dksL_law_4 4 rfl rfl)
theorem dL_law_99 : decode cL_law 99 = .ok (.iload 5, 2) := dk_21 5 (dk_at dksL_law_4 5 rfl rfl)
theorem dL_law_101 : decode cL_law 101 = .ok (.iaload, 1) := dk_46 (dk_at dksL_law_4 7 rfl rfl)
theorem dL_law_102 : decode cL_law 102 = .ok (.aload 4, 2) := dk_25 4 (dk_at dksL_law_4 8 rfl rfl)
theorem dL_law_104 : decode cL_law 104 = .ok (.iload 5, 2) := dk_21 5 (dk_at dksL_law_4 10 rfl rfl)
theorem dL_law_106 : decode cL_law 106 = .ok (.iaload, 1) := dk_46 (dk_at dksL_law_4 12 rfl rfl)
theorem dL_law_107 : decode cL_law 107 = .ok (.invokevirtual 31, 3) := dk_182 0 31 (dk_at dksL_law_4 13 rfl rfl)
theorem dL_law_110 : decode cL_law 110 = .ok (.iinc 5 1, 3) := dk_132 5 1 (dk_at dksL_law_4 16 rfl rfl)
theorem dL_law_113 : decode cL_law 113 = .ok (.goto (-71), 3) := dk_167 255 185 (dk_at dksL_law_4 19 rfl rfl)
theorem dL_law_116 : decode cL_law 116 = .ok (.aload_n 0, 1) := dk_42 (dk_at dksL_law_4 22 rfl rfl)
theorem dL_law_117 : decode cL_law 117 = .ok (.bipush 96, 2) := dk_16 96 (dk_at dksL_law_5 0 rfl rfl)
theorem dL_law_119 : decode cL_law 119 = .ok (.invokestatic 27, 3) := dk_184 0 27 (dk_at dksL_law_5 2 rfl rfl)
theorem dL_law_122 : decode cL_law 122 = .ok (.istore 5, 2) := dk_54 5 (dk_at dksL_law_5 5 rfl rfl)
theorem dL_law_124 : decode cL_law 124 = .ok (.aload_n 0, 1) := dk_42 (dk_at dksL_law_5 7 rfl rfl)
theorem dL_law_125 : decode cL_law 125 = .ok (.bipush 97, 2) := dk_16 97 (dk_at dksL_law_5 8 rfl rfl)
theorem dL_law_127 : decode cL_law 127 = .ok (.invokestatic 27, 3) := dk_184 0 27 (dk_at dksL_law_5 10 rfl rfl)
theorem dL_law_130 : decode cL_law 130 = .ok (.istore 6, 2) := dk_54 6 (dk_at dksL_law_5 13 rfl rfl)
theorem dL_law_132 : decode cL_law 132 = .ok (.aload_n 0, 1) := dk_42 (dk_at dksL_law_5 15 rfl rfl)
theorem dL_law_133 : decode cL_law 133 = .ok (.bipush 98, 2) := dk_16 98 (dk_at dksL_law_5 16 rfl rfl)
theorem dL_law_135 : decode cL_law 135 = .ok (.invokestatic 27, 3) := dk_184 0 27 (dk_at dksL_law_5 18 rfl rfl)
theorem dL_law_138 : decode cL_law 138 = .ok (.istore 7, 2) := dk_54 7 (dk_at dksL_law_5 21 rfl rfl)
theorem dL_law_140 : decode cL_law 140 = .ok (.aload_n 0, 1) := dk_42 (dk_at dksL_law_5 23 rfl rfl)
theorem dL_law_141 : decode cL_law 141 = .ok (.bipush 99, 2) := dk_16 99 (dk_at dksL_law_6 0 rfl rfl)
theorem dL_law_143 : decode cL_law 143 = .ok (.invokestatic 27, 3) := dk_184 0 27 (dk_at dksL_law_6 2 rfl rfl)
theorem dL_law_146 : decode cL_law 146 = .ok (.istore 8, 2) := dk_54 8 (dk_at dksL_law_6 5 rfl rfl)
theorem dL_law_148 : decode cL_law 148 = .ok (.aload_n 0, 1) := dk_42 (dk_at dksL_law_6 7 rfl rfl)
theorem dL_law_149 : decode cL_law 149 = .ok (.bipush 100, 2) := dk_16 100 (dk_at dksL_law_6 8 rfl rfl)
theorem dL_law_151 : decode cL_law 151 = .ok (.invokestatic 27, 3) := dk_184 0 27 (dk_at dksL_law_6 10 rfl rfl)
theorem dL_law_154 : decode cL_law 154 = .ok (.istore 9, 2) := dk_54 9 (dk_at dksL_law_6 13 rfl rfl)
theorem dL_law_156 : decode cL_law 156 = .ok (.aload_n 0, 1) := dk_42 (dk_at dksL_law_6 15 rfl rfl)
theorem dL_law_157 : decode cL_law 157 = .ok (.bipush 101, 2) := dk_16 101 (dk_at dksL_law_6 16 rfl rfl)
theorem dL_law_159 : decode cL_law 159 = .ok (.invokestatic 27, 3) := dk_184 0 27 (dk_at dksL_law_6 18 rfl rfl)
theorem dL_law_162 : decode cL_law 162 = .ok (.istore 10, 2) := dk_54 10 (dk_at dksL_law_6 21 rfl rfl)
theorem dL_law_164 : decode cL_law 164 = .ok (.aload_n 1, 1) := dk_43 (dk_at dksL_law_6 23 rfl rfl)
theorem dL_law_165 : decode cL_law 165 = .ok (.iload 5, 2) := dk_21 5 (dk_at dksL_law_7 0 rfl rfl)
theorem dL_law_167 : decode cL_law 167 = .ok (.iload 6, 2) := dk_21 6 (dk_at dksL_law_7 2 rfl rfl)
theorem dL_law_169 : decode cL_law 169 = .ok (.invokevirtual 35, 3) := dk_182 0 35 (dk_at dksL_law_7 4 rfl rfl)
theorem dL_law_172 : decode cL_law 172 = .ok (.aload_n 2, 1) := dk_44 (dk_at dksL_law_7 7 rfl rfl)
theorem dL_law_173 : decode cL_law 173 = .ok (.iload 5, 2) := dk_21 5 (dk_at dksL_law_7 8 rfl rfl)
theorem dL_law_175 : decode cL_law 175 = .ok (.iload 6, 2) := dk_21 6 (dk_at dksL_law_7 10 rfl rfl)
theorem dL_law_177 : decode cL_law 177 = .ok (.invokevirtual 39, 3) := dk_182 0 39 (dk_at dksL_law_7 12 rfl rfl)
theorem dL_law_180 : decode cL_law 180 = .ok (.aload_n 3, 1) := dk_45 (dk_at dksL_law_7 15 rfl rfl)
theorem dL_law_181 : decode cL_law 181 = .ok (.aload 4, 2) := dk_25 4 (dk_at dksL_law_7 16 rfl rfl)
theorem dL_law_183 : decode cL_law 183 = .ok (.iload 5, 2) := dk_21 5 (dk_at dksL_law_7 18 rfl rfl)
theorem dL_law_185 : decode cL_law 185 = .ok (.invokestatic 8, 3) := dk_184 0 8 (dk_at dksL_law_7 20 rfl rfl)
theorem dL_law_188 : decode cL_law 188 = .ok (.iload 5, 2) := dk_21 5 (dk_at dksL_law_8 0 rfl rfl)
theorem dL_law_190 : decode cL_law 190 = .ok (.iload 6, 2) := dk_21 6 (dk_at dksL_law_8 2 rfl rfl)
theorem dL_law_192 : decode cL_law 192 = .ok (.invokestatic 42, 3) := dk_184 0 42 (dk_at dksL_law_8 4 rfl rfl)
theorem dL_law_195 : decode cL_law 195 = .ok (.invokestatic 46, 3) := dk_184 0 46 (dk_at dksL_law_8 7 rfl rfl)
theorem dL_law_198 : decode cL_law 198 = .ok (.aload_n 1, 1) := dk_43 (dk_at dksL_law_8 10 rfl rfl)
theorem dL_law_199 : decode cL_law 199 = .ok (.aload_n 3, 1) := dk_45 (dk_at dksL_law_8 11 rfl rfl)
theorem dL_law_200 : decode cL_law 200 = .ok (.aload 4, 2) := dk_25 4 (dk_at dksL_law_8 12 rfl rfl)
theorem dL_law_202 : decode cL_law 202 = .ok (.invokestatic 23, 3) := dk_184 0 23 (dk_at dksL_law_8 14 rfl rfl)
theorem dL_law_205 : decode cL_law 205 = .ok (.ifCond .eq 13, 3) := dk_153 0 13 (dk_at dksL_law_8 17 rfl rfl)
theorem dL_law_208 : decode cL_law 208 = .ok (.aload_n 2, 1) := dk_44 (dk_at dksL_law_8 20 rfl rfl)
theorem dL_law_209 : decode cL_law 209 = .ok (.aload_n 3, 1) := dk_45 (dk_at dksL_law_8 21 rfl rfl)
theorem dL_law_210 : decode cL_law 210 = .ok (.aload 4, 2) := dk_25 4 (dk_at dksL_law_8 22 rfl rfl)
theorem dL_law_212 : decode cL_law 212 = .ok (.invokestatic 23, 3) := dk_184 0 23 (dk_at dksL_law_9 0 rfl rfl)
theorem dL_law_215 : decode cL_law 215 = .ok (.ifCond .ne 5, 3) := dk_154 0 5 (dk_at dksL_law_9 3 rfl rfl)
theorem dL_law_218 : decode cL_law 218 = .ok (.iconst 0, 1) := dk_3 (dk_at dksL_law_9 6 rfl rfl)
theorem dL_law_219 : decode cL_law 219 = .ok (.ireturn, 1) := dk_172 (dk_at dksL_law_9 7 rfl rfl)
theorem dL_law_220 : decode cL_law 220 = .ok (.aload_n 1, 1) := dk_43 (dk_at dksL_law_9 8 rfl rfl)
theorem dL_law_221 : decode cL_law 221 = .ok (.iload 7, 2) := dk_21 7 (dk_at dksL_law_9 9 rfl rfl)
theorem dL_law_223 : decode cL_law 223 = .ok (.iload 8, 2) := dk_21 8 (dk_at dksL_law_9 11 rfl rfl)
theorem dL_law_225 : decode cL_law 225 = .ok (.invokevirtual 39, 3) := dk_182 0 39 (dk_at dksL_law_9 13 rfl rfl)
theorem dL_law_228 : decode cL_law 228 = .ok (.aload_n 2, 1) := dk_44 (dk_at dksL_law_9 16 rfl rfl)
theorem dL_law_229 : decode cL_law 229 = .ok (.iload 7, 2) := dk_21 7 (dk_at dksL_law_9 17 rfl rfl)
theorem dL_law_231 : decode cL_law 231 = .ok (.iload 8, 2) := dk_21 8 (dk_at dksL_law_9 19 rfl rfl)
theorem dL_law_233 : decode cL_law 233 = .ok (.invokevirtual 35, 3) := dk_182 0 35 (dk_at dksL_law_9 21 rfl rfl)
theorem dL_law_236 : decode cL_law 236 = .ok (.aload_n 3, 1) := dk_45 (dk_at dksL_law_10 0 rfl rfl)
theorem dL_law_237 : decode cL_law 237 = .ok (.aload 4, 2) := dk_25 4 (dk_at dksL_law_10 1 rfl rfl)
theorem dL_law_239 : decode cL_law 239 = .ok (.iload 7, 2) := dk_21 7 (dk_at dksL_law_10 3 rfl rfl)
theorem dL_law_241 : decode cL_law 241 = .ok (.invokestatic 8, 3) := dk_184 0 8 (dk_at dksL_law_10 5 rfl rfl)
theorem dL_law_244 : decode cL_law 244 = .ok (.iload 7, 2) := dk_21 7 (dk_at dksL_law_10 8 rfl rfl)
theorem dL_law_246 : decode cL_law 246 = .ok (.iload 8, 2) := dk_21 8 (dk_at dksL_law_10 10 rfl rfl)
theorem dL_law_248 : decode cL_law 248 = .ok (.invokestatic 42, 3) := dk_184 0 42 (dk_at dksL_law_10 12 rfl rfl)
theorem dL_law_251 : decode cL_law 251 = .ok (.invokestatic 46, 3) := dk_184 0 46 (dk_at dksL_law_10 15 rfl rfl)
theorem dL_law_254 : decode cL_law 254 = .ok (.aload_n 1, 1) := dk_43 (dk_at dksL_law_10 18 rfl rfl)
theorem dL_law_255 : decode cL_law 255 = .ok (.aload_n 3, 1) := dk_45 (dk_at dksL_law_10 19 rfl rfl)
theorem dL_law_256 : decode cL_law 256 = .ok (.aload 4, 2) := dk_25 4 (dk_at dksL_law_10 20 rfl rfl)
theorem dL_law_258 : decode cL_law 258 = .ok (.invokestatic 23, 3) := dk_184 0 23 (dk_at dksL_law_11 0 rfl rfl)
theorem dL_law_261 : decode cL_law 261 = .ok (.ifCond .eq 13, 3) := dk_153 0 13 (dk_at dksL_law_11 3 rfl rfl)
theorem dL_law_264 : decode cL_law 264 = .ok (.aload_n 2, 1) := dk_44 (dk_at dksL_law_11 6 rfl rfl)
theorem dL_law_265 : decode cL_law 265 = .ok (.aload_n 3, 1) := dk_45 (dk_at dksL_law_11 7 rfl rfl)
theorem dL_law_266 : decode cL_law 266 = .ok (.aload 4, 2) := dk_25 4 (dk_at dksL_law_11 8 rfl rfl)
theorem dL_law_268 : decode cL_law 268 = .ok (.invokestatic 23, 3) := dk_184 0 23 (dk_at dksL_law_11 10 rfl rfl)
theorem dL_law_271 : decode cL_law 271 = .ok (.ifCond .ne 5, 3) := dk_154 0 5 (dk_at dksL_law_11 13 rfl rfl)
theorem dL_law_274 : decode cL_law 274 = .ok (.iconst 0, 1) := dk_3 (dk_at dksL_law_11 16 rfl rfl)
theorem dL_law_275 : decode cL_law 275 = .ok (.ireturn, 1) := dk_172 (dk_at dksL_law_11 17 rfl rfl)
theorem dL_law_276 : decode cL_law 276 = .ok (.aload_n 1, 1) := dk_43 (dk_at dksL_law_11 18 rfl rfl)
theorem dL_law_277 : decode cL_law 277 = .ok (.iload 9, 2) := dk_21 9 (dk_at dksL_law_11 19 rfl rfl)
theorem dL_law_279 : decode cL_law 279 = .ok (.iload 10, 2) := dk_21 10 (dk_at dksL_law_11 21 rfl rfl)
theorem dL_law_281 : decode cL_law 281 = .ok (.iload 9, 2) := dk_21 9 (dk_at dksL_law_12 0 rfl rfl)
theorem dL_law_283 : decode cL_law 283 = .ok (.iconst 2, 1) := dk_5 (dk_at dksL_law_12 2 rfl rfl)
theorem dL_law_284 : decode cL_law 284 = .ok (.ishr, 1) := dk_122 (dk_at dksL_law_12 3 rfl rfl)
theorem dL_law_285 : decode cL_law 285 = .ok (.invokevirtual 50, 3) := dk_182 0 50 (dk_at dksL_law_12 4 rfl rfl)
theorem dL_law_288 : decode cL_law 288 = .ok (.aload_n 2, 1) := dk_44 (dk_at dksL_law_12 7 rfl rfl)
theorem dL_law_289 : decode cL_law 289 = .ok (.iload 9, 2) := dk_21 9 (dk_at dksL_law_12 8 rfl rfl)
theorem dL_law_291 : decode cL_law 291 = .ok (.iload 10, 2) := dk_21 10 (dk_at dksL_law_12 10 rfl rfl)
theorem dL_law_293 : decode cL_law 293 = .ok (.iload 9, 2) := dk_21 9 (dk_at dksL_law_12 12 rfl rfl)
theorem dL_law_295 : decode cL_law 295 = .ok (.iconst 2, 1) := dk_5 (dk_at dksL_law_12 14 rfl rfl)
theorem dL_law_296 : decode cL_law 296 = .ok (.ishr, 1) := dk_122 (dk_at dksL_law_12 15 rfl rfl)
theorem dL_law_297 : decode cL_law 297 = .ok (.invokevirtual 50, 3) := dk_182 0 50 (dk_at dksL_law_12 16 rfl rfl)
theorem dL_law_300 : decode cL_law 300 = .ok (.aload_n 3, 1) := dk_45 (dk_at dksL_law_12 19 rfl rfl)
theorem dL_law_301 : decode cL_law 301 = .ok (.iload 9, 2) := dk_21 9 (dk_at dksL_law_12 20 rfl rfl)
theorem dL_law_303 : decode cL_law 303 = .ok (.ldc 7, 2) := dk_18 7 (dk_at dksL_law_12 22 rfl rfl)
theorem dL_law_305 : decode cL_law 305 = .ok (.iand, 1) := dk_126 (dk_at dksL_law_13 0 rfl rfl)
theorem dL_law_306 : decode cL_law 306 = .ok (.bipush 48, 2) := dk_16 48 (dk_at dksL_law_13 1 rfl rfl)
theorem dL_law_308 : decode cL_law 308 = .ok (.irem, 1) := dk_112 (dk_at dksL_law_13 3 rfl rfl)
theorem dL_law_309 : decode cL_law 309 = .ok (.iload 10, 2) := dk_21 10 (dk_at dksL_law_13 4 rfl rfl)
theorem dL_law_311 : decode cL_law 311 = .ok (.iconst 3, 1) := dk_6 (dk_at dksL_law_13 6 rfl rfl)
theorem dL_law_312 : decode cL_law 312 = .ok (.iand, 1) := dk_126 (dk_at dksL_law_13 7 rfl rfl)
theorem dL_law_313 : decode cL_law 313 = .ok (.iastore, 1) := dk_79 (dk_at dksL_law_13 8 rfl rfl)
theorem dL_law_314 : decode cL_law 314 = .ok (.aload 4, 2) := dk_25 4 (dk_at dksL_law_13 9 rfl rfl)
theorem dL_law_316 : decode cL_law 316 = .ok (.iload 9, 2) := dk_21 9 (dk_at dksL_law_13 11 rfl rfl)
theorem dL_law_318 : decode cL_law 318 = .ok (.ldc 7, 2) := dk_18 7 (dk_at dksL_law_13 13 rfl rfl)
theorem dL_law_320 : decode cL_law 320 = .ok (.iand, 1) := dk_126 (dk_at dksL_law_13 15 rfl rfl)
theorem dL_law_321 : decode cL_law 321 = .ok (.bipush 48, 2) := dk_16 48 (dk_at dksL_law_13 16 rfl rfl)
theorem dL_law_323 : decode cL_law 323 = .ok (.irem, 1) := dk_112 (dk_at dksL_law_13 18 rfl rfl)
theorem dL_law_324 : decode cL_law 324 = .ok (.iload 9, 2) := dk_21 9 (dk_at dksL_law_13 19 rfl rfl)
theorem dL_law_326 : decode cL_law 326 = .ok (.iconst 2, 1) := dk_5 (dk_at dksL_law_13 21 rfl rfl)
theorem dL_law_327 : decode cL_law 327 = .ok (.ishr, 1) := dk_122 (dk_at dksL_law_13 22 rfl rfl)
theorem dL_law_328 : decode cL_law 328 = .ok (.iconst 3, 1) := dk_6 (dk_at dksL_law_13 23 rfl rfl)
theorem dL_law_329 : decode cL_law 329 = .ok (.iand, 1) := dk_126 (dk_at dksL_law_14 0 rfl rfl)
theorem dL_law_330 : decode cL_law 330 = .ok (.iastore, 1) := dk_79 (dk_at dksL_law_14 1 rfl rfl)
theorem dL_law_331 : decode cL_law 331 = .ok (.aload_n 1, 1) := dk_43 (dk_at dksL_law_14 2 rfl rfl)
theorem dL_law_332 : decode cL_law 332 = .ok (.aload_n 3, 1) := dk_45 (dk_at dksL_law_14 3 rfl rfl)
theorem dL_law_333 : decode cL_law 333 = .ok (.aload 4, 2) := dk_25 4 (dk_at dksL_law_14 4 rfl rfl)
theorem dL_law_335 : decode cL_law 335 = .ok (.invokestatic 23, 3) := dk_184 0 23 (dk_at dksL_law_14 6 rfl rfl)
theorem dL_law_338 : decode cL_law 338 = .ok (.ifCond .eq 13, 3) := dk_153 0 13 (dk_at dksL_law_14 9 rfl rfl)
theorem dL_law_341 : decode cL_law 341 = .ok (.aload_n 2, 1) := dk_44 (dk_at dksL_law_14 12 rfl rfl)
theorem dL_law_342 : decode cL_law 342 = .ok (.aload_n 3, 1) := dk_45 (dk_at dksL_law_14 13 rfl rfl)
theorem dL_law_343 : decode cL_law 343 = .ok (.aload 4, 2) := dk_25 4 (dk_at dksL_law_14 14 rfl rfl)
theorem dL_law_345 : decode cL_law 345 = .ok (.invokestatic 23, 3) := dk_184 0 23 (dk_at dksL_law_14 16 rfl rfl)
theorem dL_law_348 : decode cL_law 348 = .ok (.ifCond .ne 5, 3) := dk_154 0 5 (dk_at dksL_law_14 19 rfl rfl)
theorem dL_law_351 : decode cL_law 351 = .ok (.iconst 0, 1) := dk_3 (dk_at dksL_law_14 22 rfl rfl)
theorem dL_law_352 : decode cL_law 352 = .ok (.ireturn, 1) := dk_172 (dk_at dksL_law_14 23 rfl rfl)
theorem dL_law_353 : decode cL_law 353 = .ok (.aload_n 1, 1) := dk_43 (dk_at dksL_law_15 0 rfl rfl)
theorem dL_law_354 : decode cL_law 354 = .ok (.iconst 0, 1) := dk_3 (dk_at dksL_law_15 1 rfl rfl)
theorem dL_law_355 : decode cL_law 355 = .ok (.bipush 48, 2) := dk_16 48 (dk_at dksL_law_15 2 rfl rfl)
theorem dL_law_357 : decode cL_law 357 = .ok (.invokevirtual 35, 3) := dk_182 0 35 (dk_at dksL_law_15 4 rfl rfl)
theorem dL_law_360 : decode cL_law 360 = .ok (.aload_n 2, 1) := dk_44 (dk_at dksL_law_15 7 rfl rfl)
theorem dL_law_361 : decode cL_law 361 = .ok (.bipush 49, 2) := dk_16 49 (dk_at dksL_law_15 8 rfl rfl)
theorem dL_law_363 : decode cL_law 363 = .ok (.bipush 48, 2) := dk_16 48 (dk_at dksL_law_15 10 rfl rfl)
theorem dL_law_365 : decode cL_law 365 = .ok (.invokevirtual 39, 3) := dk_182 0 39 (dk_at dksL_law_15 12 rfl rfl)
theorem dL_law_368 : decode cL_law 368 = .ok (.aload_n 3, 1) := dk_45 (dk_at dksL_law_15 15 rfl rfl)
theorem dL_law_369 : decode cL_law 369 = .ok (.aload 4, 2) := dk_25 4 (dk_at dksL_law_15 16 rfl rfl)
theorem dL_law_371 : decode cL_law 371 = .ok (.iconst 0, 1) := dk_3 (dk_at dksL_law_15 18 rfl rfl)
theorem dL_law_372 : decode cL_law 372 = .ok (.bipush 48, 2) := dk_16 48 (dk_at dksL_law_15 19 rfl rfl)
theorem dL_law_374 : decode cL_law 374 = .ok (.invokestatic 46, 3) := dk_184 0 46 (dk_at dksL_law_15 21 rfl rfl)
theorem dL_law_377 : decode cL_law 377 = .ok (.aload_n 1, 1) := dk_43 (dk_at dksL_law_16 0 rfl rfl)
theorem dL_law_378 : decode cL_law 378 = .ok (.aload_n 3, 1) := dk_45 (dk_at dksL_law_16 1 rfl rfl)
theorem dL_law_379 : decode cL_law 379 = .ok (.aload 4, 2) := dk_25 4 (dk_at dksL_law_16 2 rfl rfl)
theorem dL_law_381 : decode cL_law 381 = .ok (.invokestatic 23, 3) := dk_184 0 23 (dk_at dksL_law_16 4 rfl rfl)
theorem dL_law_384 : decode cL_law 384 = .ok (.ifCond .eq 13, 3) := dk_153 0 13 (dk_at dksL_law_16 7 rfl rfl)
theorem dL_law_387 : decode cL_law 387 = .ok (.aload_n 2, 1) := dk_44 (dk_at dksL_law_16 10 rfl rfl)
theorem dL_law_388 : decode cL_law 388 = .ok (.aload_n 3, 1) := dk_45 (dk_at dksL_law_16 11 rfl rfl)
theorem dL_law_389 : decode cL_law 389 = .ok (.aload 4, 2) := dk_25 4 (dk_at dksL_law_16 12 rfl rfl)
theorem dL_law_391 : decode cL_law 391 = .ok (.invokestatic 23, 3) := dk_184 0 23 (dk_at dksL_law_16 14 rfl rfl)
theorem dL_law_394 : decode cL_law 394 = .ok (.ifCond .ne 5, 3) := dk_154 0 5 (dk_at dksL_law_16 17 rfl rfl)
theorem dL_law_397 : decode cL_law 397 = .ok (.iconst 0, 1) := dk_3 (dk_at dksL_law_16 20 rfl rfl)
theorem dL_law_398 : decode cL_law 398 = .ok (.ireturn, 1) := dk_172 (dk_at dksL_law_16 21 rfl rfl)
theorem dL_law_399 : decode cL_law 399 = .ok (.aload_n 1, 1) := dk_43 (dk_at dksL_law_16 22 rfl rfl)
theorem dL_law_400 : decode cL_law 400 = .ok (.iload 9, 2) := dk_21 9 (dk_at dksL_law_17 0 rfl rfl)
theorem dL_law_402 : decode cL_law 402 = .ok (.iload 10, 2) := dk_21 10 (dk_at dksL_law_17 2 rfl rfl)
theorem dL_law_404 : decode cL_law 404 = .ok (.invokevirtual 39, 3) := dk_182 0 39 (dk_at dksL_law_17 4 rfl rfl)
theorem dL_law_407 : decode cL_law 407 = .ok (.aload_n 2, 1) := dk_44 (dk_at dksL_law_17 7 rfl rfl)
theorem dL_law_408 : decode cL_law 408 = .ok (.iload 9, 2) := dk_21 9 (dk_at dksL_law_17 8 rfl rfl)
theorem dL_law_410 : decode cL_law 410 = .ok (.iload 10, 2) := dk_21 10 (dk_at dksL_law_17 10 rfl rfl)
theorem dL_law_412 : decode cL_law 412 = .ok (.invokevirtual 35, 3) := dk_182 0 35 (dk_at dksL_law_17 12 rfl rfl)
theorem dL_law_415 : decode cL_law 415 = .ok (.aload_n 1, 1) := dk_43 (dk_at dksL_law_17 15 rfl rfl)
theorem dL_law_416 : decode cL_law 416 = .ok (.aload_n 3, 1) := dk_45 (dk_at dksL_law_17 16 rfl rfl)
theorem dL_law_417 : decode cL_law 417 = .ok (.aload 4, 2) := dk_25 4 (dk_at dksL_law_17 17 rfl rfl)
theorem dL_law_419 : decode cL_law 419 = .ok (.invokestatic 23, 3) := dk_184 0 23 (dk_at dksL_law_17 19 rfl rfl)
theorem dL_law_422 : decode cL_law 422 = .ok (.ifCond .eq 17, 3) := dk_153 0 17 (dk_at dksL_law_18 0 rfl rfl)
theorem dL_law_425 : decode cL_law 425 = .ok (.aload_n 2, 1) := dk_44 (dk_at dksL_law_18 3 rfl rfl)
theorem dL_law_426 : decode cL_law 426 = .ok (.aload_n 3, 1) := dk_45 (dk_at dksL_law_18 4 rfl rfl)
theorem dL_law_427 : decode cL_law 427 = .ok (.aload 4, 2) := dk_25 4 (dk_at dksL_law_18 5 rfl rfl)
theorem dL_law_429 : decode cL_law 429 = .ok (.invokestatic 23, 3) := dk_184 0 23 (dk_at dksL_law_18 7 rfl rfl)
theorem dL_law_432 : decode cL_law 432 = .ok (.ifCond .eq 7, 3) := dk_153 0 7 (dk_at dksL_law_18 10 rfl rfl)
theorem dL_law_435 : decode cL_law 435 = .ok (.iconst 1, 1) := dk_4 (dk_at dksL_law_18 13 rfl rfl)
theorem dL_law_436 : decode cL_law 436 = .ok (.goto 4, 3) := dk_167 0 4 (dk_at dksL_law_18 14 rfl rfl)
theorem dL_law_439 : decode cL_law 439 = .ok (.iconst 0, 1) := dk_3 (dk_at dksL_law_18 17 rfl rfl)
theorem dL_law_440 : decode cL_law 440 = .ok (.ireturn, 1) := dk_172 (dk_at dksL_law_18 18 rfl rfl)
end
section
/-! PURE: pairs, their keys, swaps, ranges brought into order -/
abbrev sq_T : Type := Nat → Int32 × Int32
/-- the key of a pair: the order of the keys is the order by the first numbers, then by the second ones -/
def sq_K (p : Int32 × Int32) : Int := p.1.toInt * 4294967296 + p.2.toInt
theorem sq_rng (x : Int32) : -2147483648 ≤ x.toInt ∧ x.toInt < 2147483648 := by
  have h1 := Int32.le_toInt x
  have h2 := Int32.toInt_lt x
  omega
theorem sq_K_inj {p q : Int32 × Int32} (h : sq_K p = sq_K q) : p = q := by
  obtain ⟨a, b⟩ := p
  obtain ⟨c, d⟩ := q
  have h1 := sq_rng b
  have h2 := sq_rng d
  have h3 : a.toInt * 4294967296 + b.toInt = c.toInt * 4294967296 + d.toInt := h
  have e1 : a.toInt = c.toInt := by omega
  have e2 : b.toInt = d.toInt := by omega
  rw [Int32.toInt_inj.mp e1, Int32.toInt_inj.mp e2]
/-- two places exchanged -/
def sq_sw (z : sq_T) (i j : Nat) : sq_T := fun q => if q = j then z i else if q = i then z j else z q
theorem sq_sw_r (z : sq_T) (i j : Nat) : sq_sw z i j j = z i := if_pos rfl
theorem sq_sw_l (z : sq_T) (i j : Nat) : sq_sw z i j i = z j := by
  unfold sq_sw
  by_cases h : i = j
  · rw [if_pos h, h]
  · rw [if_neg h, if_pos rfl]
theorem sq_sw_o (z : sq_T) {i j q : Nat} (h1 : q ≠ i) (h2 : q ≠ j) : sq_sw z i j q = z q := by
  unfold sq_sw
  rw [if_neg h2, if_neg h1]
/-- w comes from z by exchanges inside [lo, hi) -/
def sq_Pm (lo hi : Nat) (z w : sq_T) : Prop := ∀ P : sq_T → Prop, P z → (∀ (y : sq_T) (i j : Nat), lo ≤ i → i < hi → lo ≤ j → j < hi → P y → P (sq_sw y i j)) → P w
theorem sq_Pm.rf {lo hi : Nat} {z : sq_T} : sq_Pm lo hi z z := fun _ h _ => h
theorem sq_Pm.st {lo hi : Nat} {z w : sq_T} {i j : Nat} (h : sq_Pm lo hi z w) (a : lo ≤ i) (b : i < hi) (c : lo ≤ j) (d : j < hi) : sq_Pm lo hi z (sq_sw w i j) := fun P hz hs => hs w i j a b c d (h P hz hs)
theorem sq_Pm.tr {lo hi : Nat} {z w y : sq_T} (h1 : sq_Pm lo hi z w) (h2 : sq_Pm lo hi w y) : sq_Pm lo hi z y := fun P hz hs => h2 P (h1 P hz hs) hs
theorem sq_Pm.wide {lo hi lo' hi' : Nat} {z w : sq_T} (h : sq_Pm lo hi z w) (a : lo' ≤ lo) (b : hi ≤ hi') : sq_Pm lo' hi' z w := fun P hz hs => h P hz (fun y i j h1 h2 h3 h4 hr => hs y i j (Nat.le_trans a h1) (Nat.lt_of_lt_of_le h2 b) (Nat.le_trans a h3) (Nat.lt_of_lt_of_le h4 b) hr)
theorem sq_Pm.out {lo hi : Nat} {z w : sq_T} (h : sq_Pm lo hi z w) {q : Nat} (hq : q < lo ∨ hi ≤ q) : w q = z q :=
  h (fun y => y q = z q) rfl (fun y i j a b c d hr => by
    show sq_sw y i j q = z q
    rw [sq_sw_o y (by omega) (by omega)]
    exact hr)
theorem sq_Pm.all {lo hi : Nat} {z w : sq_T} (h : sq_Pm lo hi z w) (P : Int32 × Int32 → Prop) (hz : ∀ q, lo ≤ q → q < hi → P (z q)) : ∀ q, lo ≤ q → q < hi → P (w q) :=
  h (fun y => ∀ q, lo ≤ q → q < hi → P (y q)) hz (fun y i j a b c d hr q h1 h2 => by
    by_cases e1 : q = j
    · rw [e1, sq_sw_r]
      exact hr i a b
    · by_cases e2 : q = i
      · rw [e2, sq_sw_l]
        exact hr j c d
      · rw [sq_sw_o y e2 e1]
        exact hr q h1 h2)
/-- how many of [lo, lo + n) are of a kind -/
def sq_cnt (P : Int32 × Int32 → Bool) (z : sq_T) (lo : Nat) : Nat → Nat
  | 0 => 0
  | n + 1 => sq_cnt P z lo n + (if P (z (lo + n)) then 1 else 0)
def sq_up (z : sq_T) (k : Nat) (x : Int32 × Int32) : sq_T := fun q => if q = k then x else z q
theorem sq_cnt_congr {P : Int32 × Int32 → Bool} {z w : sq_T} {lo : Nat} : ∀ n : Nat, (∀ q, lo ≤ q → q < lo + n → z q = w q) → sq_cnt P z lo n = sq_cnt P w lo n := by
  intro n
  induction n with
  | zero => intro _; rfl
  | succ n ih =>
    intro h
    show sq_cnt P z lo n + _ = sq_cnt P w lo n + _
    rw [ih (fun q h1 h2 => h q h1 (by omega)), h (lo + n) (by omega) (by omega)]
theorem sq_cnt_up {P : Int32 × Int32 → Bool} {z : sq_T} {lo k : Nat} {x : Int32 × Int32} : ∀ n : Nat, lo ≤ k → k < lo + n → sq_cnt P (sq_up z k x) lo n + (if P (z k) then 1 else 0) = sq_cnt P z lo n + (if P x then 1 else 0) := by
  intro n
  induction n with
  | zero => intro h1 h2; omega
  | succ n ih =>
    intro h1 h2
    show sq_cnt P (sq_up z k x) lo n + (if P (sq_up z k x (lo + n)) then 1 else 0) + _ = sq_cnt P z lo n + (if P (z (lo + n)) then 1 else 0) + _
    by_cases e : lo + n = k
    · have e1 : sq_up z k x (lo + n) = x := if_pos e
      have e2 : sq_cnt P (sq_up z k x) lo n = sq_cnt P z lo n := sq_cnt_congr n (fun q h3 h4 => if_neg (by omega))
      rw [e1, e2, e]
      omega
    · have e1 : sq_up z k x (lo + n) = z (lo + n) := if_neg e
      have e2 := ih h1 (by omega)
      rw [e1]
      omega
theorem sq_cnt_sw {P : Int32 × Int32 → Bool} {z : sq_T} {lo n i j : Nat} (h1 : lo ≤ i) (h2 : i < lo + n) (h3 : lo ≤ j) (h4 : j < lo + n) : sq_cnt P (sq_sw z i j) lo n = sq_cnt P z lo n := by
  have e : sq_sw z i j = sq_up (sq_up z i (z j)) j (z i) := rfl
  have a := sq_cnt_up (P := P) (z := sq_up z i (z j)) (x := z i) n h3 h4
  have b := sq_cnt_up (P := P) (z := z) (x := z j) n h1 h2
  have c : sq_up z i (z j) j = z j := by
    unfold sq_up
    by_cases q : j = i
    · rw [if_pos q]
    · rw [if_neg q]
  rw [c] at a
  rw [e]
  omega
theorem sq_Pm.cnt {lo hi : Nat} {z w : sq_T} (h : sq_Pm lo hi z w) (P : Int32 × Int32 → Bool) : sq_cnt P w lo (hi - lo) = sq_cnt P z lo (hi - lo) :=
  h (fun y => sq_cnt P y lo (hi - lo) = sq_cnt P z lo (hi - lo)) rfl (fun y i j a b c d hr => by
    show sq_cnt P (sq_sw y i j) lo (hi - lo) = _
    rw [sq_cnt_sw a (by omega) c (by omega)]
    exact hr)
theorem sq_cnt_n {P : Int32 × Int32 → Bool} {z : sq_T} {lo : Nat} : ∀ n : Nat, sq_cnt P z lo n ≤ n := by
  intro n
  induction n with
  | zero => exact Nat.le_refl 0
  | succ n ih =>
    show sq_cnt P z lo n + (if P (z (lo + n)) then 1 else 0) ≤ n + 1
    split <;> omega
theorem sq_cnt_ge {P : Int32 × Int32 → Bool} {z : sq_T} {lo a : Nat} (h : ∀ i, lo ≤ i → i < lo + a → P (z i) = true) : ∀ n : Nat, a ≤ n → a ≤ sq_cnt P z lo n := by
  have h0 : ∀ n : Nat, n ≤ a → n ≤ sq_cnt P z lo n := by
    intro n
    induction n with
    | zero => intro _; exact Nat.zero_le _
    | succ n ih =>
      intro hn
      show n + 1 ≤ sq_cnt P z lo n + (if P (z (lo + n)) then 1 else 0)
      rw [h (lo + n) (by omega) (by omega)]
      have := ih (by omega)
      simp only [if_true]
      omega
  intro n
  induction n with
  | zero => intro hn; omega
  | succ n ih =>
    intro hn
    by_cases e : a = n + 1
    · rw [← e]
      exact h0 a (Nat.le_refl a)
    · have := ih (by omega)
      show a ≤ sq_cnt P z lo n + (if P (z (lo + n)) then 1 else 0)
      omega
theorem sq_cnt_le {P : Int32 × Int32 → Bool} {z : sq_T} {lo a : Nat} : ∀ n : Nat, (∀ i, lo + a ≤ i → i < lo + n → P (z i) = false) → sq_cnt P z lo n ≤ a := by
  intro n
  induction n with
  | zero => intro _; exact Nat.zero_le a
  | succ n ih =>
    intro h
    show sq_cnt P z lo n + (if P (z (lo + n)) then 1 else 0) ≤ a
    by_cases e : n < a
    · have := sq_cnt_n (P := P) (z := z) (lo := lo) n
      split <;> omega
    · rw [h (lo + n) (by omega) (by omega)]
      have := ih (fun i h1 h2 => h i h1 (by omega))
      simp only [Bool.false_eq_true, if_false]
      omega
/-- [lo, hi) is in ascending order -/
def sq_So (lo hi : Nat) (z : sq_T) : Prop := ∀ i j, lo ≤ i → i ≤ j → j < hi → sq_K (z i) ≤ sq_K (z j)
theorem sq_So.sub {lo hi lo' hi' : Nat} {z : sq_T} (h : sq_So lo hi z) (a : lo ≤ lo') (b : hi' ≤ hi) : sq_So lo' hi' z := fun i j h1 h2 h3 => h i j (by omega) h2 (by omega)
theorem sq_So.one {lo hi : Nat} {z : sq_T} (h : hi ≤ lo + 1) : sq_So lo hi z := fun i j h1 h2 h3 => by
  have e : i = j := by omega
  rw [e]
  exact Int.le_refl _
theorem sq_So.eq {lo hi : Nat} {z w : sq_T} (h : sq_So lo hi z) (e : ∀ q, lo ≤ q → q < hi → w q = z q) : sq_So lo hi w := fun i j h1 h2 h3 => by
  rw [e i h1 (by omega), e j (by omega) h3]
  exact h i j h1 h2 h3
theorem sq_nlt {lo hi : Nat} {z w : sq_T} (hc : ∀ P, sq_cnt P z lo (hi - lo) = sq_cnt P w lo (hi - lo)) (sz : sq_So lo hi z) (sw : sq_So lo hi w) {q : Nat} (h1 : lo ≤ q) (h2 : q < hi) : ¬ sq_K (z q) < sq_K (w q) := by
  intro h
  have a : q - lo + 1 ≤ sq_cnt (fun p => decide (sq_K p < sq_K (w q))) z lo (hi - lo) :=
    sq_cnt_ge (fun i h3 h4 => decide_eq_true (Int.lt_of_le_of_lt (sz i q h3 (by omega) h2) h)) (hi - lo) (by omega)
  have b : sq_cnt (fun p => decide (sq_K p < sq_K (w q))) w lo (hi - lo) ≤ q - lo :=
    sq_cnt_le (hi - lo) (fun i h3 h4 => decide_eq_false (Int.not_lt.mpr (sw q i h1 (by omega) (by omega))))
  have c := hc (fun p => decide (sq_K p < sq_K (w q)))
  omega
/-- ONE OUTCOME: two rearrangements of the same range that are both in order are the same -/
theorem sq_same {lo hi : Nat} {z w y : sq_T} (h1 : sq_Pm lo hi z w) (h2 : sq_Pm lo hi z y) (s1 : sq_So lo hi w) (s2 : sq_So lo hi y) : w = y := by
  have hc : ∀ P, sq_cnt P w lo (hi - lo) = sq_cnt P y lo (hi - lo) := fun P => (h1.cnt P).trans (h2.cnt P).symm
  funext q
  by_cases hq : lo ≤ q ∧ q < hi
  · refine sq_K_inj ?_
    have a := sq_nlt hc s1 s2 hq.1 hq.2
    have b := sq_nlt (fun P => (hc P).symm) s2 s1 hq.1 hq.2
    omega
  · rw [h1.out (by omega), h2.out (by omega)]
def sq_Srt (lo hi : Nat) (z w : sq_T) : Prop := sq_Pm lo hi z w ∧ sq_So lo hi w
theorem sq_Srt.same {lo hi : Nat} {z w y : sq_T} (h1 : sq_Srt lo hi z w) (h2 : sq_Srt lo hi z y) : w = y := sq_same h1.1 h2.1 h1.2 h2.2
theorem sq_Srt.stay {lo hi : Nat} {z w : sq_T} (h : sq_Srt lo hi z w) (s : sq_So lo hi z) : w = z := sq_same h.1 sq_Pm.rf h.2 s
-- insertion
/-- [f, i] is in order but for the place j, which belongs at j or ahead of it -/
def sq_Ins (f i j : Nat) (z : sq_T) : Prop := (∀ p q, f ≤ p → p ≤ q → q ≤ i → p ≠ j → q ≠ j → sq_K (z p) ≤ sq_K (z q)) ∧ ∀ q, j < q → q ≤ i → sq_K (z j) ≤ sq_K (z q)
theorem sq_Ins.start {f i : Nat} {z : sq_T} (h : sq_So f i z) : sq_Ins f i i z := ⟨fun p q h1 h2 h3 h4 h5 => h p q h1 h2 (by omega), fun q h1 h2 => by omega⟩
theorem sq_Ins.stop {f i j : Nat} {z : sq_T} (h : sq_Ins f i j z) (hj : j ≤ i) (he : j ≤ f ∨ sq_K (z (j - 1)) ≤ sq_K (z j)) : sq_So f (i + 1) z := by
  intro p q h1 h2 h3
  by_cases e1 : p = j
  · by_cases e2 : q = j
    · rw [e1, e2]
      exact Int.le_refl _
    · rw [e1]
      exact h.2 q (by omega) (by omega)
  · by_cases e2 : q = j
    · rcases he with he | he
      · omega
      · rw [e2]
        by_cases e3 : p = j - 1
        · rw [e3]
          exact he
        · exact Int.le_trans (h.1 p (j - 1) h1 (by omega) (by omega) e1 (by omega)) he
    · exact h.1 p q h1 h2 (by omega) e1 e2
theorem sq_Ins.step {f i j : Nat} {z : sq_T} (h : sq_Ins f i j z) (hj : j ≤ i) (hf : f < j) (hk : sq_K (z j) < sq_K (z (j - 1))) : sq_Ins f i (j - 1) (sq_sw z j (j - 1)) := by
  have e1 : sq_sw z j (j - 1) (j - 1) = z j := sq_sw_r z j (j - 1)
  have e2 : sq_sw z j (j - 1) j = z (j - 1) := sq_sw_l z j (j - 1)
  refine ⟨fun p q h1 h2 h3 h4 h5 => ?_, fun q h1 h2 => ?_⟩
  · by_cases a : p = j
    · by_cases b : q = j
      · rw [a, b]
        exact Int.le_refl _
      · rw [a, e2, sq_sw_o z b h5]
        exact h.1 (j - 1) q (by omega) (by omega) h3 (by omega) b
    · by_cases b : q = j
      · rw [b, e2, sq_sw_o z a h4]
        exact h.1 p (j - 1) h1 (by omega) (by omega) a (by omega)
      · rw [sq_sw_o z a h4, sq_sw_o z b h5]
        exact h.1 p q h1 h2 h3 a b
  · rw [e1]
    by_cases b : q = j
    · rw [b, e2]
      exact Int.le_of_lt hk
    · rw [sq_sw_o z b (by omega)]
      exact h.2 q (by omega) h2
-- a range turned round
def sq_rev (z : sq_T) (lo hi : Nat) : sq_T := fun q => if lo ≤ q ∧ q < hi then z (lo + hi - 1 - q) else z q
theorem sq_rev_i (z : sq_T) {lo hi q : Nat} (h1 : lo ≤ q) (h2 : q < hi) : sq_rev z lo hi q = z (lo + hi - 1 - q) := if_pos ⟨h1, h2⟩
theorem sq_rev_o (z : sq_T) {lo hi q : Nat} (h : q < lo ∨ hi ≤ q) : sq_rev z lo hi q = z q := if_neg (by omega)
theorem sq_rev_0 {z : sq_T} {lo hi : Nat} (h : hi ≤ lo + 1) : sq_rev z lo hi = z := by
  funext q
  by_cases e : lo ≤ q ∧ q < hi
  · rw [sq_rev_i z e.1 e.2]
    congr 1
    omega
  · rw [sq_rev_o z (by omega)]
theorem sq_rev_s {z : sq_T} {lo hi : Nat} (h : lo + 1 < hi) : sq_rev (sq_sw z lo (hi - 1)) (lo + 1) (hi - 1) = sq_rev z lo hi := by
  funext q
  by_cases e : lo ≤ q ∧ q < hi
  · rw [sq_rev_i z e.1 e.2]
    by_cases a : q = lo
    · rw [sq_rev_o _ (by omega), a, sq_sw_l]
      congr 1
      omega
    · by_cases b : q = hi - 1
      · rw [sq_rev_o _ (by omega), b, sq_sw_r]
        congr 1
        omega
      · rw [sq_rev_i _ (by omega) (by omega), sq_sw_o z (by omega) (by omega)]
        congr 1
        omega
  · rw [sq_rev_o z (by omega), sq_rev_o _ (by omega), sq_sw_o z (by omega) (by omega)]
theorem sq_rev_Pm {a b : Nat} : ∀ (n : Nat) (z : sq_T) (lo hi : Nat), hi ≤ lo + n → a ≤ lo → hi ≤ b → sq_Pm a b z (sq_rev z lo hi) := by
  intro n
  induction n with
  | zero =>
    intro z lo hi h1 h2 h3
    rw [sq_rev_0 (by omega)]
    exact sq_Pm.rf
  | succ n ih =>
    intro z lo hi h1 h2 h3
    by_cases e : lo + 1 < hi
    · rw [← sq_rev_s e]
      exact (sq_Pm.rf.st h2 (by omega) (by omega) (by omega)).tr (ih _ (lo + 1) (hi - 1) (by omega) (by omega) (by omega))
    · rw [sq_rev_0 (by omega)]
      exact sq_Pm.rf
/-- the blocks [f, m) and [m, s) in exchanged order -/
def sq_Rt (f m s : Nat) (z w : sq_T) : Prop := (∀ q, f ≤ q → q < f + (s - m) → w q = z (q + m - f)) ∧ (∀ q, f + (s - m) ≤ q → q < s → w q = z (q + m - s)) ∧ ∀ q, q < f ∨ s ≤ q → w q = z q
theorem sq_Rt.of {f m s : Nat} {z : sq_T} (h1 : f ≤ m) (h2 : m ≤ s) : sq_Rt f m s z (sq_rev (sq_rev (sq_rev z f m) m s) f s) := by
  refine ⟨fun q a b => ?_, fun q a b => ?_, fun q a => ?_⟩
  · rw [sq_rev_i _ a (by omega), sq_rev_i _ (by omega) (by omega), sq_rev_o _ (by omega)]
    congr 1
    omega
  · rw [sq_rev_i _ (by omega) b, sq_rev_o _ (by omega), sq_rev_i _ (by omega) (by omega)]
    congr 1
    omega
  · rw [sq_rev_o _ a, sq_rev_o _ (by omega), sq_rev_o _ (by omega)]
theorem sq_Rt.no {f m s : Nat} {z : sq_T} (h1 : f ≤ m) (h2 : m ≤ s) (h : f = m ∨ m = s) : sq_Rt f m s z z := by
  refine ⟨fun q a b => ?_, fun q a b => ?_, fun q a => rfl⟩
  · congr 1
    omega
  · congr 1
    omega
-- merging
/-- the cut: what is ahead of the new middle is at most v, what is behind it at least v -/
def sq_Cut (f g m s t : Nat) (z : sq_T) : Prop := f ≤ g ∧ g ≤ m ∧ m ≤ s ∧ s ≤ t ∧ ∃ v : Int, (∀ q, f ≤ q → q < g → sq_K (z q) ≤ v) ∧ (∀ q, g ≤ q → q < m → v ≤ sq_K (z q)) ∧ (∀ q, m ≤ q → q < s → sq_K (z q) ≤ v) ∧ ∀ q, s ≤ q → q < t → v ≤ sq_K (z q)
/-- lower bound: ahead of k less than the place p, from k on not less -/
theorem sq_Cut.lower {f m t p k : Nat} {z : sq_T} (h1 : f ≤ p) (h2 : p < m) (hs : sq_So f m z) (h3 : m ≤ k) (h4 : k ≤ t) (ha : ∀ q, m ≤ q → q < k → sq_K (z q) < sq_K (z p)) (hb : ∀ q, k ≤ q → q < t → sq_K (z p) ≤ sq_K (z q)) : sq_Cut f p m k t z :=
  ⟨h1, by omega, h3, h4, sq_K (z p), fun q a b => hs q p a (by omega) h2, fun q a b => hs p q h1 a b, fun q a b => Int.le_of_lt (ha q a b), hb⟩
theorem sq_Cut.upper {f m t p k : Nat} {z : sq_T} (h1 : m ≤ p) (h2 : p < t) (hs : sq_So m t z) (h3 : f ≤ k) (h4 : k ≤ m) (ha : ∀ q, f ≤ q → q < k → sq_K (z q) ≤ sq_K (z p)) (hb : ∀ q, k ≤ q → q < m → sq_K (z p) < sq_K (z q)) : sq_Cut f k m p t z :=
  ⟨h3, h4, h1, by omega, sq_K (z p), ha, fun q a b => Int.le_of_lt (hb q a b), fun q a b => hs q p a (by omega) h2, fun q a b => hs p q h1 a b⟩
/-- behind the exchange of the blocks: both halves are ready for their own merges -/
theorem sq_Cut.half {f g m s t : Nat} {z w : sq_T} (h : sq_Cut f g m s t z) (hw : sq_Rt g m s z w) (s1 : sq_So f m z) (s2 : sq_So m t z) : sq_So f g w ∧ sq_So g (g + (s - m)) w ∧ sq_So (g + (s - m)) s w ∧ sq_So s t w ∧ ∃ v : Int, (∀ q, f ≤ q → q < g + (s - m) → sq_K (w q) ≤ v) ∧ ∀ q, g + (s - m) ≤ q → q < t → v ≤ sq_K (w q) := by
  obtain ⟨a1, a2, a3, a4, v, v1, v2, v3, v4⟩ := h
  obtain ⟨w1, w2, w3⟩ := hw
  refine ⟨fun i j h1 h2 h3 => ?_, fun i j h1 h2 h3 => ?_, fun i j h1 h2 h3 => ?_, fun i j h1 h2 h3 => ?_, v, fun q h1 h2 => ?_, fun q h1 h2 => ?_⟩
  · rw [w3 i (by omega), w3 j (by omega)]
    exact s1 i j h1 h2 (by omega)
  · rw [w1 i h1 (by omega), w1 j (by omega) h3]
    exact s2 _ _ (by omega) (by omega) (by omega)
  · rw [w2 i h1 (by omega), w2 j (by omega) h3]
    exact s1 _ _ (by omega) (by omega) (by omega)
  · rw [w3 i (by omega), w3 j (by omega)]
    exact s2 i j (by omega) h2 h3
  · by_cases e : q < g
    · rw [w3 q (by omega)]
      exact v1 q h1 e
    · rw [w1 q (by omega) h2]
      exact v3 _ (by omega) (by omega)
  · by_cases e : q < s
    · rw [w2 q h1 e]
      exact v2 _ (by omega) (by omega)
    · rw [w3 q (by omega)]
      exact v4 q (by omega) h2
/-- both halves merged: the whole is in order -/
theorem sq_join2 {f n t : Nat} {w w1 w2 : sq_T} {v : Int} (h1 : f ≤ n) (h2 : n ≤ t) (va : ∀ q, f ≤ q → q < n → sq_K (w q) ≤ v) (vb : ∀ q, n ≤ q → q < t → v ≤ sq_K (w q)) (r1 : sq_Srt f n w w1) (r2 : sq_Srt n t w1 w2) : sq_Srt f t w w2 := by
  have a1 := r1.1.all (fun p => sq_K p ≤ v) va
  have b1 : ∀ q, n ≤ q → q < t → v ≤ sq_K (w1 q) := fun q c d => by
    rw [r1.1.out (by omega)]
    exact vb q c d
  have b2 := r2.1.all (fun p => v ≤ sq_K p) b1
  have a2 : ∀ q, f ≤ q → q < n → sq_K (w2 q) ≤ v := fun q c d => by
    rw [r2.1.out (by omega)]
    exact a1 q c d
  refine ⟨(r1.1.wide (Nat.le_refl f) h2).tr (r2.1.wide h1 (Nat.le_refl t)), fun i j c d e => ?_⟩
  by_cases x : j < n
  · rw [r2.1.out (by omega), r2.1.out (by omega)]
    exact r1.2 i j c d x
  · by_cases y : n ≤ i
    · exact r2.2 i j y d e
    · exact Int.le_trans (a2 i c (by omega)) (b2 j (by omega) e)
-- parting by a pivot of key v
/-- [f,a) like the pivot, [a,b) below it, [c,d) above it, [d,t) like it; the pivot's own place is m -/
def sq_Pt (f t : Nat) (v : Int) (z : sq_T) (a b c d m : Nat) : Prop := f ≤ a ∧ a ≤ b ∧ b ≤ c ∧ c ≤ d ∧ d ≤ t ∧ f ≤ m ∧ m < t ∧ sq_K (z m) = v ∧ (∀ q, f ≤ q → q < a → sq_K (z q) = v) ∧ (∀ q, a ≤ q → q < b → sq_K (z q) < v) ∧ (∀ q, c ≤ q → q < d → v < sq_K (z q)) ∧ ∀ q, d ≤ q → q < t → sq_K (z q) = v
/-- where the place m is behind the exchange of i and j -/
def sq_mv (m i j : Nat) : Nat := if i = m then j else if j = m then i else m
theorem sq_mv_at (z : sq_T) (m i j : Nat) : sq_sw z i j (sq_mv m i j) = z m := by
  unfold sq_mv
  by_cases e1 : i = m
  · rw [if_pos e1, sq_sw_r, e1]
  · rw [if_neg e1]
    by_cases e2 : j = m
    · rw [if_pos e2, sq_sw_l, e2]
    · rw [if_neg e2, sq_sw_o z (Ne.symm e1) (Ne.symm e2)]
theorem sq_mv_in {f t m i j : Nat} (h : f ≤ m ∧ m < t) (hi : f ≤ i ∧ i < t) (hj : f ≤ j ∧ j < t) : f ≤ sq_mv m i j ∧ sq_mv m i j < t := by
  unfold sq_mv
  split
  · exact hj
  · split
    · exact hi
    · exact h
theorem sq_Pt.start {f t m : Nat} {z : sq_T} (h1 : f ≤ m) (h2 : m < t) : sq_Pt f t (sq_K (z m)) z f f t t m :=
  ⟨Nat.le_refl _, Nat.le_refl _, by omega, Nat.le_refl _, Nat.le_refl _, h1, h2, rfl, fun q _ _ => by omega, fun q _ _ => by omega, fun q _ _ => by omega, fun q _ _ => by omega⟩
theorem sq_Pt.lt {f t a b c d m : Nat} {v : Int} {z : sq_T} (h : sq_Pt f t v z a b c d m) (hb : b < c) (hk : sq_K (z b) < v) : sq_Pt f t v z a (b + 1) c d m := by
  obtain ⟨h1, h2, h3, h4, h5, h6, h7, h8, k1, k2, k3, k4⟩ := h
  refine ⟨h1, by omega, by omega, h4, h5, h6, h7, h8, k1, fun q x y => ?_, k3, k4⟩
  by_cases e : q = b
  · rw [e]
    exact hk
  · exact k2 q x (by omega)
theorem sq_Pt.gt {f t a b c d m : Nat} {v : Int} {z : sq_T} (h : sq_Pt f t v z a b (c + 1) d m) (hb : b ≤ c) (hk : v < sq_K (z c)) : sq_Pt f t v z a b c d m := by
  obtain ⟨h1, h2, h3, h4, h5, h6, h7, h8, k1, k2, k3, k4⟩ := h
  refine ⟨h1, h2, hb, by omega, h5, h6, h7, h8, k1, k2, fun q x y => ?_, k4⟩
  by_cases e : q = c
  · rw [e]
    exact hk
  · exact k3 q (by omega) y
theorem sq_Pt.eqL {f t a b c d m : Nat} {v : Int} {z : sq_T} (h : sq_Pt f t v z a b c d m) (hb : b < c) (hk : sq_K (z b) = v) : sq_Pt f t v (sq_sw z a b) (a + 1) (b + 1) c d (sq_mv m a b) := by
  obtain ⟨h1, h2, h3, h4, h5, h6, h7, h8, k1, k2, k3, k4⟩ := h
  have hm := sq_mv_in (f := f) (t := t) (m := m) (i := a) (j := b) ⟨h6, h7⟩ (by omega) (by omega)
  refine ⟨by omega, by omega, by omega, h4, h5, hm.1, hm.2, by rw [sq_mv_at]; exact h8, fun q x y => ?_, fun q x y => ?_, fun q x y => ?_, fun q x y => ?_⟩
  · by_cases e : q = a
    · rw [e, sq_sw_l]
      exact hk
    · rw [sq_sw_o z e (by omega)]
      exact k1 q x (by omega)
  · by_cases e : q = b
    · rw [e, sq_sw_r]
      exact k2 a (by omega) (by omega)
    · rw [sq_sw_o z (by omega) e]
      exact k2 q (by omega) (by omega)
  · rw [sq_sw_o z (by omega) (by omega)]
    exact k3 q x y
  · rw [sq_sw_o z (by omega) (by omega)]
    exact k4 q x y
theorem sq_Pt.eqR {f t a b c d m : Nat} {v : Int} {z : sq_T} (h : sq_Pt f t v z a b (c + 1) (d + 1) m) (hb : b ≤ c) (hk : sq_K (z c) = v) : sq_Pt f t v (sq_sw z c d) a b c d (sq_mv m c d) := by
  obtain ⟨h1, h2, h3, h4, h5, h6, h7, h8, k1, k2, k3, k4⟩ := h
  have hm := sq_mv_in (f := f) (t := t) (m := m) (i := c) (j := d) ⟨h6, h7⟩ (by omega) (by omega)
  refine ⟨h1, h2, hb, by omega, by omega, hm.1, hm.2, by rw [sq_mv_at]; exact h8, fun q x y => ?_, fun q x y => ?_, fun q x y => ?_, fun q x y => ?_⟩
  · rw [sq_sw_o z (by omega) (by omega)]
    exact k1 q x y
  · rw [sq_sw_o z (by omega) (by omega)]
    exact k2 q x y
  · by_cases e : q = c
    · rw [e, sq_sw_l]
      exact k3 d (by omega) (by omega)
    · rw [sq_sw_o z e (by omega)]
      exact k3 q (by omega) (by omega)
  · by_cases e : q = d
    · rw [e, sq_sw_r]
      exact hk
    · rw [sq_sw_o z (by omega) e]
      exact k4 q (by omega) y
theorem sq_Pt.cross {f t a b c d m : Nat} {v : Int} {z : sq_T} (h : sq_Pt f t v z a b (c + 1) d m) (hb : b ≤ c) (kb : v < sq_K (z b)) (kc : sq_K (z c) < v) : b + 1 ≤ c ∧ sq_Pt f t v (sq_sw z b c) a (b + 1) c d (sq_mv m b c) := by
  have hbc : b + 1 ≤ c := by
    rcases Nat.lt_or_ge b c with x | x
    · exact x
    · have e : b = c := by omega
      rw [e] at kb
      omega
  obtain ⟨h1, h2, h3, h4, h5, h6, h7, h8, k1, k2, k3, k4⟩ := h
  have hm := sq_mv_in (f := f) (t := t) (m := m) (i := b) (j := c) ⟨h6, h7⟩ (by omega) (by omega)
  refine ⟨hbc, h1, by omega, hbc, by omega, h5, hm.1, hm.2, by rw [sq_mv_at]; exact h8, fun q x y => ?_, fun q x y => ?_, fun q x y => ?_, fun q x y => ?_⟩
  · rw [sq_sw_o z (by omega) (by omega)]
    exact k1 q x y
  · by_cases e : q = b
    · rw [e, sq_sw_l]
      exact kc
    · rw [sq_sw_o z e (by omega)]
      exact k2 q x (by omega)
  · by_cases e : q = c
    · rw [e, sq_sw_r]
      exact kb
    · rw [sq_sw_o z (by omega) e]
      exact k3 q (by omega) y
  · rw [sq_sw_o z (by omega) (by omega)]
    exact k4 q x y
-- two blocks of n places exchanged, place by place
def sq_vs : sq_T → Nat → Nat → Nat → sq_T
  | z, _, _, 0 => z
  | z, a, b, n + 1 => sq_vs (sq_sw z a b) (a + 1) (b + 1) n
theorem sq_vs_Pm {lo hi : Nat} : ∀ (n : Nat) (z : sq_T) (a b : Nat), lo ≤ a → a + n ≤ hi → lo ≤ b → b + n ≤ hi → sq_Pm lo hi z (sq_vs z a b n) := by
  intro n
  induction n with
  | zero => intro z a b _ _ _ _; exact sq_Pm.rf
  | succ n ih =>
    intro z a b h1 h2 h3 h4
    exact (sq_Pm.rf.st h1 (by omega) h3 (by omega)).tr (ih (sq_sw z a b) (a + 1) (b + 1) (by omega) (by omega) (by omega) (by omega))
theorem sq_vs_v : ∀ (n : Nat) (z : sq_T) (a b : Nat), a + n ≤ b → (∀ q, a ≤ q → q < a + n → sq_vs z a b n q = z (q + b - a)) ∧ (∀ q, b ≤ q → q < b + n → sq_vs z a b n q = z (q + a - b)) ∧ ∀ q, (q < a ∨ a + n ≤ q) → (q < b ∨ b + n ≤ q) → sq_vs z a b n q = z q := by
  intro n
  induction n with
  | zero => intro z a b _; exact ⟨fun q _ _ => by omega, fun q _ _ => by omega, fun q _ _ => rfl⟩
  | succ n ih =>
    intro z a b h
    obtain ⟨i1, i2, i3⟩ := ih (sq_sw z a b) (a + 1) (b + 1) (by omega)
    refine ⟨fun q x y => ?_, fun q x y => ?_, fun q x y => ?_⟩
    · show sq_vs (sq_sw z a b) (a + 1) (b + 1) n q = _
      by_cases e : q = a
      · rw [i3 q (by omega) (by omega), e, sq_sw_l]
        congr 1
        omega
      · rw [i1 q (by omega) (by omega), sq_sw_o z (by omega) (by omega)]
        congr 1
        omega
    · show sq_vs (sq_sw z a b) (a + 1) (b + 1) n q = _
      by_cases e : q = b
      · rw [i3 q (by omega) (by omega), e, sq_sw_r]
        congr 1
        omega
      · rw [i2 q (by omega) (by omega), sq_sw_o z (by omega) (by omega)]
        congr 1
        omega
    · show sq_vs (sq_sw z a b) (a + 1) (b + 1) n q = _
      rw [i3 q (by omega) (by omega), sq_sw_o z (by omega) (by omega)]
/-- three zones: below v, like v, above v -/
def sq_Zn (f x y t : Nat) (v : Int) (z : sq_T) : Prop := (∀ q, f ≤ q → q < x → sq_K (z q) < v) ∧ (∀ q, x ≤ q → q < y → sq_K (z q) = v) ∧ ∀ q, y ≤ q → q < t → v < sq_K (z q)
/-- the left blocks brought to their place -/
theorem sq_Pt.left {f t a b d m s : Nat} {v : Int} {z : sq_T} (h : sq_Pt f t v z a b b d m) (hs : s = min (a - f) (b - a)) : (∀ q, f ≤ q → q < f + (b - a) → sq_K (sq_vs z f (b - s) s q) < v) ∧ (∀ q, f + (b - a) ≤ q → q < b → sq_K (sq_vs z f (b - s) s q) = v) ∧ ∀ q, b ≤ q → sq_vs z f (b - s) s q = z q := by
  obtain ⟨h1, h2, h3, h4, h5, h6, h7, h8, k1, k2, k3, k4⟩ := h
  obtain ⟨i1, i2, i3⟩ := sq_vs_v s z f (b - s) (by omega)
  refine ⟨fun q x y => ?_, fun q x y => ?_, fun q x => ?_⟩
  · by_cases e : q < f + s
    · rw [i1 q x e]
      exact k2 _ (by omega) (by omega)
    · rw [i3 q (by omega) (by omega)]
      exact k2 q (by omega) (by omega)
  · by_cases e : b - s ≤ q
    · rw [i2 q e (by omega)]
      exact k1 _ (by omega) (by omega)
    · rw [i3 q (by omega) (by omega)]
      exact k1 q (by omega) (by omega)
  · exact i3 q (by omega) (by omega)
theorem sq_Pt.zones {f t a b d m s u : Nat} {v : Int} {z : sq_T} (h : sq_Pt f t v z a b b d m) (hs : s = min (a - f) (b - a)) (hu : u = min (d - b) (t - d)) : sq_Zn f (f + (b - a)) (t - (d - b)) t v (sq_vs (sq_vs z f (b - s) s) b (t - u) u) := by
  obtain ⟨l1, l2, l3⟩ := h.left hs
  obtain ⟨h1, h2, h3, h4, h5, h6, h7, h8, k1, k2, k3, k4⟩ := h
  obtain ⟨i1, i2, i3⟩ := sq_vs_v u (sq_vs z f (b - s) s) b (t - u) (by omega)
  refine ⟨fun q x y => ?_, fun q x y => ?_, fun q x y => ?_⟩
  · rw [i3 q (by omega) (by omega)]
    exact l1 q x y
  · by_cases e : q < b
    · rw [i3 q (by omega) (by omega)]
      exact l2 q x e
    · by_cases e2 : q < b + u
      · rw [i1 q (by omega) e2, l3 _ (by omega)]
        exact k4 _ (by omega) (by omega)
      · rw [i3 q (by omega) (by omega), l3 _ (by omega)]
        exact k4 q (by omega) (by omega)
  · by_cases e : t - u ≤ q
    · rw [i2 q e (by omega), l3 _ (by omega)]
      exact k3 _ (by omega) (by omega)
    · rw [i3 q (by omega) (by omega), l3 _ (by omega)]
      exact k3 q (by omega) (by omega)
theorem sq_Pt.less {f t a b d m : Nat} {v : Int} {z : sq_T} (h : sq_Pt f t v z a b b d m) : b - a + (d - b) + 1 ≤ t - f := by
  obtain ⟨h1, h2, h3, h4, h5, h6, h7, h8, k1, k2, k3, k4⟩ := h
  by_cases e : a = f ∧ d = t
  · exfalso
    by_cases x : m < b
    · have := k2 m (by omega) x
      omega
    · have := k3 m (by omega) (by omega)
      omega
  · omega
theorem sq_zones {f x y t : Nat} {v : Int} {w w1 w2 : sq_T} (h1 : f ≤ x) (h2 : x ≤ y) (h3 : y ≤ t) (h : sq_Zn f x y t v w) (r1 : sq_Srt f x w w1) (r2 : sq_Srt y t w1 w2) : sq_Srt f t w w2 := by
  obtain ⟨z1, z2, z3⟩ := h
  have a1 := r1.1.all (fun p => sq_K p < v) z1
  have b1 : ∀ q, x ≤ q → q < y → sq_K (w1 q) = v := fun q c d => by
    rw [r1.1.out (by omega)]
    exact z2 q c d
  have c1 : ∀ q, y ≤ q → q < t → v < sq_K (w1 q) := fun q c d => by
    rw [r1.1.out (by omega)]
    exact z3 q c d
  have c2 := r2.1.all (fun p => v < sq_K p) c1
  have a2 : ∀ q, f ≤ q → q < x → sq_K (w2 q) < v := fun q c d => by
    rw [r2.1.out (by omega)]
    exact a1 q c d
  have b2 : ∀ q, x ≤ q → q < y → sq_K (w2 q) = v := fun q c d => by
    rw [r2.1.out (by omega)]
    exact b1 q c d
  refine ⟨(r1.1.wide (Nat.le_refl f) (by omega)).tr (r2.1.wide (by omega) (Nat.le_refl t)), fun i j c d e => ?_⟩
  by_cases p1 : j < x
  · rw [r2.1.out (by omega), r2.1.out (by omega)]
    exact r1.2 i j c d p1
  · by_cases p2 : y ≤ i
    · exact r2.2 i j p2 d e
    · have u1 : sq_K (w2 i) ≤ v := by
        by_cases p3 : i < x
        · exact Int.le_of_lt (a2 i c p3)
        · exact Int.le_of_eq (b2 i (by omega) (by omega))
      have u2 : v ≤ sq_K (w2 j) := by
        by_cases p3 : j < y
        · exact Int.le_of_eq (b2 j (by omega) p3).symm
        · exact Int.le_of_lt (c2 j (by omega) e)
      exact Int.le_trans u1 u2
end
section
/-! BASE: the world of one desk; small rows over natural numbers; the comparator's and the swapper's contracts -/
abbrev vwCl : List vw_C := [(RX1, TX1, 3), (RX2, TX2, 1)]
/-- the cells of a desk: its rows, itself, its two arrays -/
abbrev dkW (r d a1 a2 : Nat) (cA : ClassId) (z : sq_T) : va_W := [(r, .inr (1, [.ref d])), (d, .inr (0, [.ref a1, .ref a2, .ref r])), (a1, .inl (cA, 48, .inl (fun i => (z i).1))), (a2, .inl (cA, 48, .inl (fun i => (z i).2)))]
/-- what a desk's methods may change -/
def dkA (r d a1 a2 sz : Nat) : Nat → Prop := fun q => q = r ∨ q = d ∨ q = a1 ∨ q = a2 ∨ sz ≤ q
theorem dkD {B : Nat → Prop} {r d a1 a2 : Nat} {cA : ClassId} {z : sq_T} (h : va_D B (dkW r d a1 a2 cA z)) (w : sq_T) : va_D B (dkW r d a1 a2 cA w) :=
  (h.set (p := 2) (a := a1) (e := .inl (cA, 48, .inl (fun i => (w i).1))) rfl).set (p := 3) (a := a2) (e := .inl (cA, 48, .inl (fun i => (w i).2))) rfl
theorem dkD.own {B : Nat → Prop} {r d a1 a2 : Nat} {cA : ClassId} {z : sq_T} (h : va_D B (dkW r d a1 a2 cA z)) (sz : Nat) : va_D (dkA r d a1 a2 sz) (dkW r d a1 a2 cA z) := by
  refine h.weaken (fun k q hk _ => ?_)
  match k, hk with
  | 0, hk => cases hk; exact Or.inl rfl
  | 1, hk => cases hk; exact Or.inr (Or.inl rfl)
  | 2, hk => cases hk; exact Or.inr (Or.inr (Or.inl rfl))
  | 3, hk => cases hk; exact Or.inr (Or.inr (Or.inr (Or.inl rfl)))
  | k + 4, hk => cases hk
theorem dkD.any {B : Nat → Prop} {r d a1 a2 : Nat} {cA : ClassId} {z : sq_T} (h : va_D B (dkW r d a1 a2 cA z)) : va_D (fun _ => True) (dkW r d a1 a2 cA z) := h.weaken (fun _ _ _ _ => trivial)
theorem dkD.free {B : Nat → Prop} {r d a1 a2 sz : Nat} {cA : ClassId} {z : sq_T} (h : va_D B (dkW r d a1 a2 cA z)) (hB : ∀ q, sz ≤ q → B q) : ∀ q, dkA r d a1 a2 sz q → B q := by
  intro q hq
  rcases hq with e | e | e | e | e
  · rw [e]; exact h.2 0 _ rfl
  · rw [e]; exact h.2 1 _ rfl
  · rw [e]; exact h.2 2 _ rfl
  · rw [e]; exact h.2 3 _ rfl
  · exact hB q e
abbrev xcmp : MethodName := ⟨"IntComparator", "compare", "(II)I"⟩
abbrev xswp : MethodName := ⟨"Swapper", "swap", "(II)V"⟩
/-- the tables' words that a desk's methods carry along: the nest mate's links, the two interfaces -/
def dkX (U : State) : Prop := va_Nw (.fieldLinkNest "SwapSortDesk$Rows" 13 "SwapSortDesk" "first" "[I" "SwapSortDesk") U ∧ va_Nw (.fieldLinkNest "SwapSortDesk$Rows" 19 "SwapSortDesk" "second" "[I" "SwapSortDesk") U ∧ va_Fw RX2 xcmp yX2_compare U ∧ va_Fw RX2 xswp yX2_swap U
theorem dkX.warm {s U : State} (hW : s.WarmedH U.vm) (h : dkX s) : dkX U := ⟨va_Nw.warmF hW h.1, va_Nw.warmF hW h.2.1, va_Fw.moved (by decide) hW.alike h.2.2.1, va_Fw.moved (by decide) hW.alike h.2.2.2⟩
theorem dkX.vm {u U : State} (e : u.vm = U.vm) (h : dkX u) : dkX U := ⟨va_Nw.same rfl e h.1, va_Nw.same rfl e h.2.1, va_Fw.moved (by decide) (by rw [e]; exact Vm.Alike.refl _) h.2.2.1, va_Fw.moved (by decide) (by rw [e]; exact Vm.Alike.refl _) h.2.2.2⟩
/-- a desk's start: its cells hold z -/
def dkB (dC : Nat → ClassId) (dI : Nat → Nat → Nat) (r d a1 a2 : Nat) (cA : ClassId) (z : sq_T) (sz : Nat) (U : State) : Prop :=
  U.heap.size = sz ∧ va_P (dC, dI) vwCl (dkW r d a1 a2 cA z) U.heap ∧ va_K (dC, dI) vwCl [(cA, .int)] U ∧ va_D (fun _ => True) (dkW r d a1 a2 cA z) ∧ dkX U
theorem dkB.blind {av : List Value} {dC : Nat → ClassId} {dI : Nat → Nat → Nat} {r d a1 a2 : Nat} {cA : ClassId} {z : sq_T} {sz : Nat} : FrameBlind (va_Pc av (dkB dC dI r d a1 a2 cA z sz)) := fun a U g mk q => by
  obtain ⟨q0, q1, qP, qK, qD, qX⟩ := q
  exact ⟨q0, q1, qP, va_K.moved (u := U) (U := U.calling g mk a) (Vm.Alike.refl U.vm) qK, qD, dkX.vm (u := U) rfl qX⟩
theorem dkB.at {dC : Nat → ClassId} {dI : Nat → Nat → Nat} {r d a1 a2 : Nat} {cA : ClassId} {z : sq_T} {B : Nat → Prop} {s : State} {H : Heap} (hK : va_K (dC, dI) vwCl [(cA, .int)] s) (hX : dkX s) (hP : va_P (dC, dI) vwCl (dkW r d a1 a2 cA z) H) (hD : va_D B (dkW r d a1 a2 cA z)) {U : State} (hU : U.heap = H) (hW : s.WarmedH U.vm) : dkB dC dI r d a1 a2 cA z H.size U :=
  ⟨by rw [hU], by rw [hU]; exact hP, va_K.moved hW.alike hK, dkD.any hD, dkX.warm hW hX⟩
/-- a method that brings a desk from z to a state with 'post' -/
abbrev dkMet (l : Launch) (y : MethodName) (ws : List Cond) (rm : Room) (av : List Value) (dC : Nat → ClassId) (dI : Nat → Nat → Nat) (r d a1 a2 : Nat) (cA : ClassId) (z : sq_T) (sz : Nat) (post : sq_T → Prop) : Prop :=
  Met l y ws rm (va_Pc av (dkB dC dI r d a1 a2 cA z sz)) (va_Qv post (fun u t => va_P (dC, dI) vwCl (dkW r d a1 a2 cA u) t.heap) (dkA r d a1 a2 sz)) 0 0 (dkA r d a1 a2 sz)
/-- a method that reads a desk and answers an int -/
abbrev dkMetR (l : Launch) (y : MethodName) (ws : List Cond) (rm : Room) (av : List Value) (dC : Nat → ClassId) (dI : Nat → Nat → Nat) (r d a1 a2 : Nat) (cA : ClassId) (z : sq_T) (sz : Nat) (post : Int32 → Prop) : Prop :=
  Met l y ws rm (va_Pc av (dkB dC dI r d a1 a2 cA z sz)) (vp_Si post) 0 0 (fun _ => False)
-- the comparator's answer
def sq_cmp (p q : Int32 × Int32) : Int32 := if sq_K p < sq_K q then -1 else if sq_K q < sq_K p then 1 else 0
theorem sq_cmp_ge {p q : Int32 × Int32} : 0 ≤ sq_cmp p q ↔ sq_K q ≤ sq_K p := by
  unfold sq_cmp
  split
  · constructor
    · intro h; exact absurd h (by decide)
    · intro h; omega
  · split
    · constructor
      · intro _; omega
      · intro _; decide
    · constructor
      · intro _; omega
      · intro _; decide
theorem sq_cmp_le {p q : Int32 × Int32} : sq_cmp p q ≤ 0 ↔ sq_K p ≤ sq_K q := by
  unfold sq_cmp
  split
  · constructor
    · intro _; omega
    · intro _; decide
  · split
    · constructor
      · intro h; exact absurd h (by decide)
      · intro h; omega
    · constructor
      · intro _; omega
      · intro _; decide
theorem sq_cmp_lt {p q : Int32 × Int32} : sq_cmp p q < 0 ↔ sq_K p < sq_K q := by
  unfold sq_cmp
  split
  · constructor
    · intro _; omega
    · intro _; decide
  · split
    · constructor
      · intro h; exact absurd h (by decide)
      · intro h; omega
    · constructor
      · intro h; exact absurd h (by decide)
      · intro h; omega
theorem sq_cmp_gt {p q : Int32 × Int32} : 0 < sq_cmp p q ↔ sq_K q < sq_K p := by
  unfold sq_cmp
  split
  · constructor
    · intro h; exact absurd h (by decide)
    · intro h; omega
  · split
    · constructor
      · intro _; omega
      · intro _; decide
    · constructor
      · intro h; exact absurd h (by decide)
      · intro h; omega
theorem sq_cmp_eq {p q : Int32 × Int32} : sq_cmp p q = 0 ↔ sq_K p = sq_K q := by
  unfold sq_cmp
  split
  · constructor
    · intro h; exact absurd h (by decide)
    · intro h; omega
  · split
    · constructor
      · intro h; exact absurd h (by decide)
      · intro h; omega
    · constructor
      · intro _; omega
      · intro _; rfl
theorem sq_cmp_m {p q : Int32 × Int32} (h : sq_K p < sq_K q) : sq_cmp p q = -1 := if_pos h
theorem sq_cmp_p {p q : Int32 × Int32} (h : sq_K q < sq_K p) : sq_cmp p q = 1 := by
  unfold sq_cmp
  rw [if_neg (by omega), if_pos h]
theorem sq_cmp_0 {p q : Int32 × Int32} (h : sq_K p = sq_K q) : sq_cmp p q = 0 := sq_cmp_eq.mpr h
theorem sq_K1 {p q : Int32 × Int32} (h : p.1.toInt < q.1.toInt) : sq_K p < sq_K q := by
  have h1 := sq_rng p.2
  have h2 := sq_rng q.2
  unfold sq_K
  omega
theorem sq_K2 {p q : Int32 × Int32} (e : p.1 = q.1) : (sq_K p < sq_K q ↔ p.2.toInt < q.2.toInt) ∧ (sq_K q < sq_K p ↔ q.2.toInt < p.2.toInt) := by
  unfold sq_K
  rw [e]
  omega
theorem i32_nle {x y : Int32} (h : ¬ x ≤ y) : y.toInt < x.toInt := by
  rw [Int32.le_iff_toInt_le] at h
  omega
theorem i32_le {x y : Int32} (h : x ≤ y) : x.toInt ≤ y.toInt := Int32.le_iff_toInt_le.mp h
theorem i32_ne {x y : Int32} (h : ¬ x = y) : x.toInt ≠ y.toInt := fun e => h (Int32.toInt_inj.mp e)
theorem dk_end {D : va_G} {cl : List vw_C} {ws : va_W} {H : Heap} {t : State} (ht : t.heap = H) (hP : va_P D cl ws H) : va_P D cl ws t.heap := by
  rw [ht]
  exact hP
section DKR
variable {p : Program} {l : Launch} {e : Env} {R : Room} {s : State} {m : MethodId} {args : Array Value} {below : List Frame} {meth : Method} {c : Code} {H : Heap} {locs : List Loc} {cells slots : Nat} {Q : State → Prop}
variable {cc : ByteArray} {pc : Nat} {ls : Array Slot} {rest : List Value} {D : va_G} {cl : List vw_C} {A : Nat → Prop} {a : Nat} {tys : List (ClassId × FieldType)} {ws : va_W} {H0 : Heap}
/-- the number on top by another word for it -/
theorem ox_to {x y : Int32} (h : x = y) (k : W p l e R s m args below meth c H locs cells slots Q (F0 m pc ls (.int y :: rest))) : W p l e R s m args below meth c H locs cells slots Q (F0 m pc ls (.int x :: rest)) := h ▸ k
/-- an array read at a place that is a natural number -/
theorem ox_iald (hexec : p.tables.exec = Jvm.exec) (hb : c.code = cc) (hK : va_K D cl tys s) (hP : va_P D cl ws H) (q0 t0 : Nat) {cA : ClassId} {n : Nat} {f : Nat → Int32} (ha : ws[q0]? = some (a, .inl (cA, n, .inl f))) (ht : tys[t0]? = some (cA, .int)) {i : Nat} (hi : i < n) (hn : n < 2 ^ 31) {v : Int32} (hv : f i = v) (hdg : decode cc pc = .ok (.iaload, 1))
    (kk : W p l e R s m args below meth c H locs cells slots Q (F0 m (pc + 1) ls (.int v :: rest))) : W p l e R s m args below meth c H locs cells slots Q (F0 m pc ls (.int (nI i) :: .ref a :: rest)) := by
  refine va_iald hexec hb hK hP q0 t0 ha ht (vp_in_nI hi hn) hdg ?_
  rw [nI_clamp (by omega), hv]
  exact kk
theorem ox_iast (hexec : p.tables.exec = Jvm.exec) (hb : c.code = cc) (hK : va_K D cl tys s) (hP : va_P D cl ws H) (hD : va_D A ws) (hS : va_S A H0 H locs) (q0 t0 : Nat) {cA : ClassId} {n : Nat} {f : Nat → Int32} (ha : ws[q0]? = some (a, .inl (cA, n, .inl f))) (ht : tys[t0]? = some (cA, .int)) {i : Nat} {x : Int32} (hi : i < n) (hn : n < 2 ^ 31) (hdg : decode cc pc = .ok (.iastore, 1))
    (kk : ∀ (H1 : Heap) (locs1 : List Loc), va_P D cl (ws.set q0 (a, .inl (cA, n, .inl (upd f i x)))) H1 → va_D A (ws.set q0 (a, .inl (cA, n, .inl (upd f i x)))) → va_S A H0 H1 locs1 → W p l e R s m args below meth c H1 locs1 cells slots Q (F0 m (pc + 1) ls rest)) : W p l e R s m args below meth c H locs cells slots Q (F0 m pc ls (.int x :: .int (nI i) :: .ref a :: rest)) := by
  refine va_iast hexec hb hK hP hD hS q0 t0 ha ht (vp_in_nI hi hn) hdg ?_
  rw [nI_clamp (by omega)]
  exact kk
end DKR
/-- the two arrays behind the four stores of an exchange -/
theorem sq_sw_1 (z : sq_T) (i j : Nat) : upd (upd (fun q => (z q).1) i (z j).1) j (z i).1 = fun q => (sq_sw z i j q).1 := by
  funext q
  unfold upd sq_sw
  split
  · rfl
  · split <;> rfl
theorem sq_sw_2 (z : sq_T) (i j : Nat) : upd (upd (fun q => (z q).2) i (z j).2) j (z i).2 = fun q => (sq_sw z i j q).2 := by
  funext q
  unfold upd sq_sw
  split
  · rfl
  · split <;> rfl
end
section
/-! Rows: the comparator's and the swapper's contracts -/
set_option maxHeartbeats 4000000 in
set_option maxRecDepth 100000 in
/-- Rows.compare: by the first numbers, then by the second ones -/
theorem metX2_compare (l : Launch) (dC : Nat → ClassId) (dI : Nat → Nat → Nat) (r d a1 a2 : Nat) (cA : ClassId) (z : sq_T) (sz : Nat) {i j : Nat} (hi : i < 48) (hj : j < 48) : dkMetR l yX2_compare (ws_ yX2_compare cX2_compare 3 (some .int)) { frames := 0, cells := 0, slots := 0, locals := 0 } [.ref r, .int (nI i), .int (nI j)] dC dI r d a1 a2 cA z sz (fun v => v = sq_cmp (z i) (z j)) := by
  refine Met.ofW (cc := cX2_compare) (maxL := 3) (ret := (some .int)) (by decide) rfl ?_
  intro p e s m args below meth c s₁ B hml hv
  obtain ⟨rfl, hsz, hP, hK, hD0, hX⟩ := hv
  have hx := B.exec
  have hb := B.bytes
  have hr := B.returns
  have hts := atoms_spec (ws := ws_ yX2_compare cX2_compare 3 (some .int)) B.pre
  have hts : ∀ w ∈ lw_all, w.before _ s = true := fun w h => hts w (List.mem_cons_of_mem _ h)
  have hown : s.vm.findClass RX2 = some m.cls := findClass_of_methodNamed B.named
  have hlocks := B.notSynchronized
  subst hsz
  have hl := lv_entry ([.ref r, .int (nI i), .int (nI j)]) (n := 3) (Nat.le_of_ble_eq_true rfl)
  rw [lg_entry_eq]
  generalize (lg_sl ([.ref r, .int (nI i), .int (nI j)]) ++ List.replicate (3 - (lg_sl ([.ref r, .int (nI i), .int (nI j)])).length) Slot.unset).toArray = ls at hl ⊢
  have hl : lv_has ls 3 [(0, .ref r), (1, .int (nI i)), (2, .int (nI j))] := hl
  refine lv_aload_n hx hb dX2_compare_0 rfl (lv_at hl 0 rfl) ?_
  refine va_get (D := (dC, dI)) (ci := 1) (v := .ref d) (C := RX2) (T := TX2) (N := 1) hx hb hts in_X2 hown hK hP 0 rfl rfl 0 (by decide) (hts _ q21) (fun _ h9 => h9) rfl dX2_compare_1 ?_
  refine va_getN (D := (dC, dI)) (ci := 0) (v := .ref a1) (C := RX1) (T := TX1) (N := 3) hx hb hts in_X1 hown hK hP 1 rfl rfl 0 (by decide) (va_Nw.use rfl hX.1) (fun _ h9 => h9) rfl dX2_compare_4 ?_
  refine lv_iload_n hx hb dX2_compare_7 rfl (lv_at hl 1 rfl) ?_
  refine ox_iald hx hb hK hP 2 0 rfl rfl hi (by decide) (v := (z i).1) rfl dX2_compare_8 ?_
  refine lv_aload_n hx hb dX2_compare_9 rfl (lv_at hl 0 rfl) ?_
  refine va_get (D := (dC, dI)) (ci := 1) (v := .ref d) (C := RX2) (T := TX2) (N := 1) hx hb hts in_X2 hown hK hP 0 rfl rfl 0 (by decide) (hts _ q21) (fun _ h9 => h9) rfl dX2_compare_10 ?_
  refine va_getN (D := (dC, dI)) (ci := 0) (v := .ref a1) (C := RX1) (T := TX1) (N := 3) hx hb hts in_X1 hown hK hP 1 rfl rfl 0 (by decide) (va_Nw.use rfl hX.1) (fun _ h9 => h9) rfl dX2_compare_13 ?_
  refine lv_iload_n hx hb dX2_compare_16 rfl (lv_at hl 2 rfl) ?_
  refine ox_iald hx hb hK hP 2 0 rfl rfl hj (by decide) (v := (z j).1) rfl dX2_compare_17 ?_
  refine lv_icmp_eq (tgt := 48) hx hb dX2_compare_18 (by decide) (fun h1 => ?_) (fun h1 => ?_)
  · refine lv_aload_n hx hb dX2_compare_48 rfl (lv_at hl 0 rfl) ?_
    refine va_get (D := (dC, dI)) (ci := 1) (v := .ref d) (C := RX2) (T := TX2) (N := 1) hx hb hts in_X2 hown hK hP 0 rfl rfl 0 (by decide) (hts _ q21) (fun _ h9 => h9) rfl dX2_compare_49 ?_
    refine va_getN (D := (dC, dI)) (ci := 0) (v := .ref a2) (C := RX1) (T := TX1) (N := 3) hx hb hts in_X1 hown hK hP 1 rfl rfl 1 (by decide) (va_Nw.use rfl hX.2.1) (fun _ h9 => h9) rfl dX2_compare_52 ?_
    refine lv_iload_n hx hb dX2_compare_55 rfl (lv_at hl 1 rfl) ?_
    refine ox_iald hx hb hK hP 3 0 rfl rfl hi (by decide) (v := (z i).2) rfl dX2_compare_56 ?_
    refine lv_aload_n hx hb dX2_compare_57 rfl (lv_at hl 0 rfl) ?_
    refine va_get (D := (dC, dI)) (ci := 1) (v := .ref d) (C := RX2) (T := TX2) (N := 1) hx hb hts in_X2 hown hK hP 0 rfl rfl 0 (by decide) (hts _ q21) (fun _ h9 => h9) rfl dX2_compare_58 ?_
    refine va_getN (D := (dC, dI)) (ci := 0) (v := .ref a2) (C := RX1) (T := TX1) (N := 3) hx hb hts in_X1 hown hK hP 1 rfl rfl 1 (by decide) (va_Nw.use rfl hX.2.1) (fun _ h9 => h9) rfl dX2_compare_61 ?_
    refine lv_iload_n hx hb dX2_compare_64 rfl (lv_at hl 2 rfl) ?_
    refine ox_iald hx hb hK hP 3 0 rfl rfl hj (by decide) (v := (z j).2) rfl dX2_compare_65 ?_
    refine lv_icmp_ge (tgt := 73) hx hb dX2_compare_66 (by decide) (fun h2 => ?_) (fun h2 => ?_)
    · refine lv_aload_n hx hb dX2_compare_73 rfl (lv_at hl 0 rfl) ?_
      refine va_get (D := (dC, dI)) (ci := 1) (v := .ref d) (C := RX2) (T := TX2) (N := 1) hx hb hts in_X2 hown hK hP 0 rfl rfl 0 (by decide) (hts _ q21) (fun _ h9 => h9) rfl dX2_compare_74 ?_
      refine va_getN (D := (dC, dI)) (ci := 0) (v := .ref a2) (C := RX1) (T := TX1) (N := 3) hx hb hts in_X1 hown hK hP 1 rfl rfl 1 (by decide) (va_Nw.use rfl hX.2.1) (fun _ h9 => h9) rfl dX2_compare_77 ?_
      refine lv_iload_n hx hb dX2_compare_80 rfl (lv_at hl 1 rfl) ?_
      refine ox_iald hx hb hK hP 3 0 rfl rfl hi (by decide) (v := (z i).2) rfl dX2_compare_81 ?_
      refine lv_aload_n hx hb dX2_compare_82 rfl (lv_at hl 0 rfl) ?_
      refine va_get (D := (dC, dI)) (ci := 1) (v := .ref d) (C := RX2) (T := TX2) (N := 1) hx hb hts in_X2 hown hK hP 0 rfl rfl 0 (by decide) (hts _ q21) (fun _ h9 => h9) rfl dX2_compare_83 ?_
      refine va_getN (D := (dC, dI)) (ci := 0) (v := .ref a2) (C := RX1) (T := TX1) (N := 3) hx hb hts in_X1 hown hK hP 1 rfl rfl 1 (by decide) (va_Nw.use rfl hX.2.1) (fun _ h9 => h9) rfl dX2_compare_86 ?_
      refine lv_iload_n hx hb dX2_compare_89 rfl (lv_at hl 2 rfl) ?_
      refine ox_iald hx hb hK hP 3 0 rfl rfl hj (by decide) (v := (z j).2) rfl dX2_compare_90 ?_
      refine lv_icmp_le (tgt := 98) hx hb dX2_compare_91 (by decide) (fun h3 => ?_) (fun h3 => ?_)
      · have e2 := i32_le h2
        have e3 := i32_le h3
        have e4 := sq_K2 h1
        refine lv_iconst (v := nI 0) hx hb dX2_compare_98 (by decide) ?_
        exact W.iret (v := (nI 0)) hx hb hr (fun t ht hW => ⟨_, rfl, (sq_cmp_0 (by omega)).symm, ht⟩) (fun q h => by cases h) dX2_compare_99
      · have e3 := i32_nle h3
        refine lv_iconst (v := nI 1) hx hb dX2_compare_94 (by decide) ?_
        refine lv_goto (tgt := 99) hx hb dX2_compare_95 (by decide) ?_
        exact W.iret (v := (nI 1)) hx hb hr (fun t ht hW => ⟨_, rfl, (sq_cmp_p ((sq_K2 h1).2.mpr e3)).symm, ht⟩) (fun q h => by cases h) dX2_compare_99
    · have e2 := i32_nle h2
      refine lv_iconst (v := (-1)) hx hb dX2_compare_69 (by decide) ?_
      refine lv_goto (tgt := 99) hx hb dX2_compare_70 (by decide) ?_
      exact W.iret (v := ((-1))) hx hb hr (fun t ht hW => ⟨_, rfl, (sq_cmp_m ((sq_K2 h1).1.mpr e2)).symm, ht⟩) (fun q h => by cases h) dX2_compare_99
  · refine lv_aload_n hx hb dX2_compare_21 rfl (lv_at hl 0 rfl) ?_
    refine va_get (D := (dC, dI)) (ci := 1) (v := .ref d) (C := RX2) (T := TX2) (N := 1) hx hb hts in_X2 hown hK hP 0 rfl rfl 0 (by decide) (hts _ q21) (fun _ h9 => h9) rfl dX2_compare_22 ?_
    refine va_getN (D := (dC, dI)) (ci := 0) (v := .ref a1) (C := RX1) (T := TX1) (N := 3) hx hb hts in_X1 hown hK hP 1 rfl rfl 0 (by decide) (va_Nw.use rfl hX.1) (fun _ h9 => h9) rfl dX2_compare_25 ?_
    refine lv_iload_n hx hb dX2_compare_28 rfl (lv_at hl 1 rfl) ?_
    refine ox_iald hx hb hK hP 2 0 rfl rfl hi (by decide) (v := (z i).1) rfl dX2_compare_29 ?_
    refine lv_aload_n hx hb dX2_compare_30 rfl (lv_at hl 0 rfl) ?_
    refine va_get (D := (dC, dI)) (ci := 1) (v := .ref d) (C := RX2) (T := TX2) (N := 1) hx hb hts in_X2 hown hK hP 0 rfl rfl 0 (by decide) (hts _ q21) (fun _ h9 => h9) rfl dX2_compare_31 ?_
    refine va_getN (D := (dC, dI)) (ci := 0) (v := .ref a1) (C := RX1) (T := TX1) (N := 3) hx hb hts in_X1 hown hK hP 1 rfl rfl 0 (by decide) (va_Nw.use rfl hX.1) (fun _ h9 => h9) rfl dX2_compare_34 ?_
    refine lv_iload_n hx hb dX2_compare_37 rfl (lv_at hl 2 rfl) ?_
    refine ox_iald hx hb hK hP 2 0 rfl rfl hj (by decide) (v := (z j).1) rfl dX2_compare_38 ?_
    refine lv_icmp_ge (tgt := 46) hx hb dX2_compare_39 (by decide) (fun h2 => ?_) (fun h2 => ?_)
    · have e1 := i32_ne h1
      have e2 := i32_le h2
      refine lv_iconst (v := nI 1) hx hb dX2_compare_46 (by decide) ?_
      exact W.iret (v := (nI 1)) hx hb hr (fun t ht hW => ⟨_, rfl, (sq_cmp_p (sq_K1 (by omega))).symm, ht⟩) (fun q h => by cases h) dX2_compare_47
    · have e2 := i32_nle h2
      refine lv_iconst (v := (-1)) hx hb dX2_compare_42 (by decide) ?_
      refine lv_goto (tgt := 47) hx hb dX2_compare_43 (by decide) ?_
      exact W.iret (v := ((-1))) hx hb hr (fun t ht hW => ⟨_, rfl, (sq_cmp_m (sq_K1 e2)).symm, ht⟩) (fun q h => by cases h) dX2_compare_47
set_option maxHeartbeats 4000000 in
set_option maxRecDepth 100000 in
/-- Rows.swap: two pairs exchanged -/
theorem metX2_swap (l : Launch) (dC : Nat → ClassId) (dI : Nat → Nat → Nat) (r d a1 a2 : Nat) (cA : ClassId) (z : sq_T) (sz : Nat) {i j : Nat} (hi : i < 48) (hj : j < 48) : dkMet l yX2_swap (ws_ yX2_swap cX2_swap 4 none) { frames := 0, cells := 0, slots := 0, locals := 0 } [.ref r, .int (nI i), .int (nI j)] dC dI r d a1 a2 cA z sz (fun u => u = sq_sw z i j) := by
  refine Met.ofW (cc := cX2_swap) (maxL := 4) (ret := none) (by decide) rfl ?_
  intro p e s m args below meth c s₁ B hml hv
  obtain ⟨rfl, hsz, hP, hK, hD0, hX⟩ := hv
  have hx := B.exec
  have hb := B.bytes
  have hr := B.returns
  have hts := atoms_spec (ws := ws_ yX2_swap cX2_swap 4 none) B.pre
  have hts : ∀ w ∈ lw_all, w.before _ s = true := fun w h => hts w (List.mem_cons_of_mem _ h)
  have hown : s.vm.findClass RX2 = some m.cls := findClass_of_methodNamed B.named
  have hlocks := B.notSynchronized
  subst hsz
  have hD := dkD.own hD0 s.heap.size
  have hA : ∀ q : Nat, s.heap.size ≤ q → dkA r d a1 a2 s.heap.size q := fun q h => Or.inr (Or.inr (Or.inr (Or.inr h)))
  have hS : va_S (dkA r d a1 a2 s.heap.size) s.heap s.heap [] := va_S.rf
  have hl := lv_entry ([.ref r, .int (nI i), .int (nI j)]) (n := 4) (Nat.le_of_ble_eq_true rfl)
  rw [lg_entry_eq]
  generalize (lg_sl ([.ref r, .int (nI i), .int (nI j)]) ++ List.replicate (4 - (lg_sl ([.ref r, .int (nI i), .int (nI j)])).length) Slot.unset).toArray = ls at hl ⊢
  have hl : lv_has ls 4 [(0, .ref r), (1, .int (nI i)), (2, .int (nI j))] := hl
  refine lv_aload_n hx hb dX2_swap_0 rfl (lv_at hl 0 rfl) ?_
  refine va_get (D := (dC, dI)) (ci := 1) (v := .ref d) (C := RX2) (T := TX2) (N := 1) hx hb hts in_X2 hown hK hP 0 rfl rfl 0 (by decide) (hts _ q21) (fun _ h9 => h9) rfl dX2_swap_1 ?_
  refine va_getN (D := (dC, dI)) (ci := 0) (v := .ref a1) (C := RX1) (T := TX1) (N := 3) hx hb hts in_X1 hown hK hP 1 rfl rfl 0 (by decide) (va_Nw.use rfl hX.1) (fun _ h9 => h9) rfl dX2_swap_4 ?_
  refine lv_iload_n hx hb dX2_swap_7 rfl (lv_at hl 1 rfl) ?_
  refine ox_iald hx hb hK hP 2 0 rfl rfl hi (by decide) (v := (z i).1) rfl dX2_swap_8 ?_
  refine lv_istore_n (lv' := [(3, .int ((z i).1)), (0, .ref r), (1, .int (nI i)), (2, .int (nI j))]) hx hb dX2_swap_9 rfl hl (by decide) rfl (fun ls hl => ?_)
  refine lv_aload_n hx hb dX2_swap_10 rfl (lv_at hl 1 rfl) ?_
  refine va_get (D := (dC, dI)) (ci := 1) (v := .ref d) (C := RX2) (T := TX2) (N := 1) hx hb hts in_X2 hown hK hP 0 rfl rfl 0 (by decide) (hts _ q21) (fun _ h9 => h9) rfl dX2_swap_11 ?_
  refine va_getN (D := (dC, dI)) (ci := 0) (v := .ref a1) (C := RX1) (T := TX1) (N := 3) hx hb hts in_X1 hown hK hP 1 rfl rfl 0 (by decide) (va_Nw.use rfl hX.1) (fun _ h9 => h9) rfl dX2_swap_14 ?_
  refine lv_iload_n hx hb dX2_swap_17 rfl (lv_at hl 2 rfl) ?_
  refine lv_aload_n hx hb dX2_swap_18 rfl (lv_at hl 1 rfl) ?_
  refine va_get (D := (dC, dI)) (ci := 1) (v := .ref d) (C := RX2) (T := TX2) (N := 1) hx hb hts in_X2 hown hK hP 0 rfl rfl 0 (by decide) (hts _ q21) (fun _ h9 => h9) rfl dX2_swap_19 ?_
  refine va_getN (D := (dC, dI)) (ci := 0) (v := .ref a1) (C := RX1) (T := TX1) (N := 3) hx hb hts in_X1 hown hK hP 1 rfl rfl 0 (by decide) (va_Nw.use rfl hX.1) (fun _ h9 => h9) rfl dX2_swap_22 ?_
  refine lv_iload_n hx hb dX2_swap_25 rfl (lv_at hl 3 rfl) ?_
  refine ox_iald hx hb hK hP 2 0 rfl rfl hj (by decide) (v := (z j).1) rfl dX2_swap_26 ?_
  refine ox_iast hx hb hK hP hD hS 2 0 rfl rfl hi (by decide) dX2_swap_27 (fun H locs hP hD hS => ?_)
  have hP : va_P (dC, dI) vwCl [(r, .inr (1, [.ref d])), (d, .inr (0, [.ref a1, .ref a2, .ref r])), (a1, .inl (cA, 48, .inl (upd (fun q => (z q).1) i (z j).1))), (a2, .inl (cA, 48, .inl ((fun q => (z q).2))))] H := hP
  have hD : va_D (dkA r d a1 a2 s.heap.size) [(r, .inr (1, [.ref d])), (d, .inr (0, [.ref a1, .ref a2, .ref r])), (a1, .inl (cA, 48, .inl (upd (fun q => (z q).1) i (z j).1))), (a2, .inl (cA, 48, .inl ((fun q => (z q).2))))] := hD
  refine lv_aload_n hx hb dX2_swap_28 rfl (lv_at hl 1 rfl) ?_
  refine va_get (D := (dC, dI)) (ci := 1) (v := .ref d) (C := RX2) (T := TX2) (N := 1) hx hb hts in_X2 hown hK hP 0 rfl rfl 0 (by decide) (hts _ q21) (fun _ h9 => h9) rfl dX2_swap_29 ?_
  refine va_getN (D := (dC, dI)) (ci := 0) (v := .ref a1) (C := RX1) (T := TX1) (N := 3) hx hb hts in_X1 hown hK hP 1 rfl rfl 0 (by decide) (va_Nw.use rfl hX.1) (fun _ h9 => h9) rfl dX2_swap_32 ?_
  refine lv_iload_n hx hb dX2_swap_35 rfl (lv_at hl 3 rfl) ?_
  refine lv_iload_n hx hb dX2_swap_36 rfl (lv_at hl 0 rfl) ?_
  refine ox_iast hx hb hK hP hD hS 2 0 rfl rfl hj (by decide) dX2_swap_37 (fun H locs hP hD hS => ?_)
  have hP : va_P (dC, dI) vwCl [(r, .inr (1, [.ref d])), (d, .inr (0, [.ref a1, .ref a2, .ref r])), (a1, .inl (cA, 48, .inl (upd (upd (fun q => (z q).1) i (z j).1) j (z i).1))), (a2, .inl (cA, 48, .inl ((fun q => (z q).2))))] H := hP
  have hD : va_D (dkA r d a1 a2 s.heap.size) [(r, .inr (1, [.ref d])), (d, .inr (0, [.ref a1, .ref a2, .ref r])), (a1, .inl (cA, 48, .inl (upd (upd (fun q => (z q).1) i (z j).1) j (z i).1))), (a2, .inl (cA, 48, .inl ((fun q => (z q).2))))] := hD
  refine lv_aload_n hx hb dX2_swap_38 rfl (lv_at hl 1 rfl) ?_
  refine va_get (D := (dC, dI)) (ci := 1) (v := .ref d) (C := RX2) (T := TX2) (N := 1) hx hb hts in_X2 hown hK hP 0 rfl rfl 0 (by decide) (hts _ q21) (fun _ h9 => h9) rfl dX2_swap_39 ?_
  refine va_getN (D := (dC, dI)) (ci := 0) (v := .ref a2) (C := RX1) (T := TX1) (N := 3) hx hb hts in_X1 hown hK hP 1 rfl rfl 1 (by decide) (va_Nw.use rfl hX.2.1) (fun _ h9 => h9) rfl dX2_swap_42 ?_
  refine lv_iload_n hx hb dX2_swap_45 rfl (lv_at hl 2 rfl) ?_
  refine ox_iald hx hb hK hP 3 0 rfl rfl hi (by decide) (v := (z i).2) rfl dX2_swap_46 ?_
  refine lv_istore_n (lv' := [(3, .int ((z i).2)), (0, .ref r), (1, .int (nI i)), (2, .int (nI j))]) hx hb dX2_swap_47 rfl hl (by decide) rfl (fun ls hl => ?_)
  refine lv_aload_n hx hb dX2_swap_48 rfl (lv_at hl 1 rfl) ?_
  refine va_get (D := (dC, dI)) (ci := 1) (v := .ref d) (C := RX2) (T := TX2) (N := 1) hx hb hts in_X2 hown hK hP 0 rfl rfl 0 (by decide) (hts _ q21) (fun _ h9 => h9) rfl dX2_swap_49 ?_
  refine va_getN (D := (dC, dI)) (ci := 0) (v := .ref a2) (C := RX1) (T := TX1) (N := 3) hx hb hts in_X1 hown hK hP 1 rfl rfl 1 (by decide) (va_Nw.use rfl hX.2.1) (fun _ h9 => h9) rfl dX2_swap_52 ?_
  refine lv_iload_n hx hb dX2_swap_55 rfl (lv_at hl 2 rfl) ?_
  refine lv_aload_n hx hb dX2_swap_56 rfl (lv_at hl 1 rfl) ?_
  refine va_get (D := (dC, dI)) (ci := 1) (v := .ref d) (C := RX2) (T := TX2) (N := 1) hx hb hts in_X2 hown hK hP 0 rfl rfl 0 (by decide) (hts _ q21) (fun _ h9 => h9) rfl dX2_swap_57 ?_
  refine va_getN (D := (dC, dI)) (ci := 0) (v := .ref a2) (C := RX1) (T := TX1) (N := 3) hx hb hts in_X1 hown hK hP 1 rfl rfl 1 (by decide) (va_Nw.use rfl hX.2.1) (fun _ h9 => h9) rfl dX2_swap_60 ?_
  refine lv_iload_n hx hb dX2_swap_63 rfl (lv_at hl 3 rfl) ?_
  refine ox_iald hx hb hK hP 3 0 rfl rfl hj (by decide) (v := (z j).2) rfl dX2_swap_64 ?_
  refine ox_iast hx hb hK hP hD hS 3 0 rfl rfl hi (by decide) dX2_swap_65 (fun H locs hP hD hS => ?_)
  have hP : va_P (dC, dI) vwCl [(r, .inr (1, [.ref d])), (d, .inr (0, [.ref a1, .ref a2, .ref r])), (a1, .inl (cA, 48, .inl (upd (upd (fun q => (z q).1) i (z j).1) j (z i).1))), (a2, .inl (cA, 48, .inl (upd (fun q => (z q).2) i (z j).2)))] H := hP
  have hD : va_D (dkA r d a1 a2 s.heap.size) [(r, .inr (1, [.ref d])), (d, .inr (0, [.ref a1, .ref a2, .ref r])), (a1, .inl (cA, 48, .inl (upd (upd (fun q => (z q).1) i (z j).1) j (z i).1))), (a2, .inl (cA, 48, .inl (upd (fun q => (z q).2) i (z j).2)))] := hD
  refine lv_aload_n hx hb dX2_swap_66 rfl (lv_at hl 1 rfl) ?_
  refine va_get (D := (dC, dI)) (ci := 1) (v := .ref d) (C := RX2) (T := TX2) (N := 1) hx hb hts in_X2 hown hK hP 0 rfl rfl 0 (by decide) (hts _ q21) (fun _ h9 => h9) rfl dX2_swap_67 ?_
  refine va_getN (D := (dC, dI)) (ci := 0) (v := .ref a2) (C := RX1) (T := TX1) (N := 3) hx hb hts in_X1 hown hK hP 1 rfl rfl 1 (by decide) (va_Nw.use rfl hX.2.1) (fun _ h9 => h9) rfl dX2_swap_70 ?_
  refine lv_iload_n hx hb dX2_swap_73 rfl (lv_at hl 3 rfl) ?_
  refine lv_iload_n hx hb dX2_swap_74 rfl (lv_at hl 0 rfl) ?_
  refine ox_iast hx hb hK hP hD hS 3 0 rfl rfl hj (by decide) dX2_swap_75 (fun H locs hP hD hS => ?_)
  have hP : va_P (dC, dI) vwCl [(r, .inr (1, [.ref d])), (d, .inr (0, [.ref a1, .ref a2, .ref r])), (a1, .inl (cA, 48, .inl (upd (upd (fun q => (z q).1) i (z j).1) j (z i).1))), (a2, .inl (cA, 48, .inl (upd (upd (fun q => (z q).2) i (z j).2) j (z i).2)))] H := hP
  have hD : va_D (dkA r d a1 a2 s.heap.size) [(r, .inr (1, [.ref d])), (d, .inr (0, [.ref a1, .ref a2, .ref r])), (a1, .inl (cA, 48, .inl (upd (upd (fun q => (z q).1) i (z j).1) j (z i).1))), (a2, .inl (cA, 48, .inl (upd (upd (fun q => (z q).2) i (z j).2) j (z i).2)))] := hD
  rw [sq_sw_1, sq_sw_2] at hP
  exact W.vret hx hb hr (fun t ht hW => ⟨⟨sq_sw z i j, rfl, rfl, dk_end ht hP⟩, hS.F ht⟩) hS.2.2 dX2_swap_76
end
section
/-! OwnArrays: the comparator and the swapper called through their interfaces; readers and writers called statically -/
section OXC
variable {p : Program} {l : Launch} {e : Env} {R : Room} {s : State} {m : MethodId} {args : Array Value} {below : List Frame} {meth : Method} {c : Code} {H : Heap} {locs : List Loc} {cells slots : Nat} {Q : State → Prop}
variable {cc : ByteArray} {nL pc : Nat} {ls : Array Slot} {rest : List Value} {dC : Nat → ClassId} {dI : Nat → Nat → Nat} {r d a1 a2 : Nat} {cA : ClassId} {z : sq_T} {A : Nat → Prop} {H0 : Heap}
theorem ox_gcmp : GoodIn lw_all (va_wsF RX3 1 RX2 xcmp yX2_compare (ws_ yX2_compare cX2_compare 3 (some .int))) := by
  refine lw_app ?_ (lw_meth q71)
  intro w hw
  simp only [List.mem_cons, List.not_mem_nil, or_false] at hw
  rcases hw with e | e | e | e
  · rw [e]; exact q63
  · rw [e]; exact q67
  · rw [e]; exact q69
  · rw [e]; exact q4
theorem ox_gswp : GoodIn lw_all (va_wsF RX3 7 RX2 xswp yX2_swap (ws_ yX2_swap cX2_swap 4 none)) := by
  refine lw_app ?_ (lw_meth q81)
  intro w hw
  simp only [List.mem_cons, List.not_mem_nil, or_false] at hw
  rcases hw with e | e | e | e
  · rw [e]; exact q73
  · rw [e]; exact q77
  · rw [e]; exact q79
  · rw [e]; exact q4
/-- comp.compare(i, j) -/
theorem ox_cmp (S : CallFix p m c cc nL s args lw_all RX3) (hl : ls.size = nL) (hK : va_K (dC, dI) vwCl [(cA, .int)] s) (hX : dkX s) (hR : 1 ≤ R.frames ∧ 24 ≤ R.locals) (hcs : cells ≤ R.cells ∧ slots ≤ R.slots) (hP : va_P (dC, dI) vwCl (dkW r d a1 a2 cA z) H) (hD : va_D A (dkW r d a1 a2 cA z)) {i j : Nat} (hi : i < 48) (hj : j < 48) (hr : (rest.map fun v => v.category).sum ≤ 8) (hdg : decode cc pc = .ok (.invokeinterface 1 3, 5))
    (kk : W p l e R s m args below meth c H locs cells slots Q (F0 m (pc + 5) ls (.int (sq_cmp (z i) (z j)) :: rest))) : W p l e R s m args below meth c H locs cells slots Q (F0 m pc ls (.int (nI j) :: .int (nI i) :: .ref r :: rest)) := by
  refine va_csFi (va_runF (cC := dC 1) (As := [.int (nI i), .int (nI j)]) (rest := rest) (hK.1 1 _ rfl).2 S (metX2_compare l dC dI r d a1 a2 cA z H.size hi hj) (va_cwF 2 S.2.2.2.2 ox_gcmp rfl rfl rfl hX.2.2.1 (by decide +kernel) ⟨hR.1, Nat.le_trans (by decide) hR.2⟩) ⟨dkB.blind, va_recv hK hP (ci := 1) (q0 := 0) rfl rfl, fun U hU hW => ⟨rfl, dkB.at hK hX hP hD hU hW⟩⟩ rfl rfl hl rfl (lv_room hr) hdg ⟨hcs.1, hcs.2⟩) (fun v hv => ?_)
  rw [hv]
  exact kk
/-- swapper.swap(i, j) -/
theorem ox_swp (S : CallFix p m c cc nL s args lw_all RX3) (hl : ls.size = nL) (hK : va_K (dC, dI) vwCl [(cA, .int)] s) (hX : dkX s) (hR : 1 ≤ R.frames ∧ 24 ≤ R.locals) (hcs : cells ≤ R.cells ∧ slots ≤ R.slots) (hA : ∀ q : Nat, H0.size ≤ q → A q) (hP : va_P (dC, dI) vwCl (dkW r d a1 a2 cA z) H) (hD : va_D A (dkW r d a1 a2 cA z)) (hS : va_S A H0 H locs) {i j : Nat} (hi : i < 48) (hj : j < 48) (hr : (rest.map fun v => v.category).sum ≤ 8) (hdg : decode cc pc = .ok (.invokeinterface 7 3, 5))
    (kk : ∀ (H1 : Heap) (locs1 : List Loc), va_P (dC, dI) vwCl (dkW r d a1 a2 cA (sq_sw z i j)) H1 → va_D A (dkW r d a1 a2 cA (sq_sw z i j)) → va_S A H0 H1 locs1 → W p l e R s m args below meth c H1 locs1 cells slots Q (F0 m (pc + 5) ls rest)) : W p l e R s m args below meth c H locs cells slots Q (F0 m pc ls (.int (nI j) :: .int (nI i) :: .ref r :: rest)) := by
  have hF := dkD.free hD (sz := H.size) (fun q h => hA q (Nat.le_trans hS.1 h))
  refine va_callFv (va_runF (cC := dC 1) (As := [.int (nI i), .int (nI j)]) (rest := rest) (hK.1 1 _ rfl).2 S (metX2_swap l dC dI r d a1 a2 cA z H.size hi hj) (va_cwF 2 S.2.2.2.2 ox_gswp rfl rfl rfl hX.2.2.2 (by decide +kernel) ⟨hR.1, Nat.le_trans (by decide) hR.2⟩) ⟨dkB.blind, va_recv hK hP (ci := 1) (q0 := 0) rfl rfl, fun U hU hW => ⟨rfl, dkB.at hK hX hP hD hU hW⟩⟩ rfl rfl hl rfl (lv_room hr) hdg ⟨hcs.1, hcs.2⟩) hS (fun q _ h => hF q h) hF (fun u t H1 locs1 ht _ hu hB _ _ hS1 => ?_)
  subst hu
  subst ht
  exact kk _ _ hB (dkD hD _) hS1
/-- a static call that reads the desk -/
theorem ox_rd (S : CallFix p m c cc nL s args lw_all RX3) (hl : ls.size = nL) (hK : va_K (dC, dI) vwCl [(cA, .int)] s) (hX : dkX s) (hcs : cells ≤ R.cells ∧ slots ≤ R.slots) (hP : va_P (dC, dI) vwCl (dkW r d a1 a2 cA z) H) (hD : va_D A (dkW r d a1 a2 cA z)) {y : MethodName} {bytes : ByteArray} {maxL index n : Nat} {ret : Option FieldType} {rm : Room} {post : Int32 → Prop} (av : List Value) (hM : dkMetR l y (ws_ y bytes maxL ret) rm av dC dI r d a1 a2 cA z H.size post) (cw : CallB R s args RX3 index y bytes maxL ret (ws_ y bytes maxL ret) rm 0 0 n ∧ (Cond.static y).before args s = true) (hn : av.length = n) {st : List Value} (hst : st = av.reverse ++ rest) (hr : (rest.map fun v => v.category).sum ≤ 8) (hdg : decode cc pc = .ok (.invokestatic index, 3))
    (kk : ∀ v : Int32, post v → W p l e R s m args below meth c H locs cells slots Q (F0 m (pc + 3) ls (.int v :: rest))) : W p l e R s m args below meth c H locs cells slots Q (F0 m pc ls st) :=
  vp_callSi (W.runS (As := av) (rest := rest) S hM cw ⟨dkB.blind, fun U hU hW => ⟨rfl, dkB.at hK hX hP hD hU hW⟩⟩ rfl hn hl hst (lv_room hr) hdg ⟨hcs.1, hcs.2⟩) kk
/-- a static call that changes the desk -/
theorem ox_wr {own : String} (S : CallFix p m c cc nL s args lw_all own) (hl : ls.size = nL) (hK : va_K (dC, dI) vwCl [(cA, .int)] s) (hX : dkX s) (hcs : cells ≤ R.cells ∧ slots ≤ R.slots) (hA : ∀ q : Nat, H0.size ≤ q → A q) (hP : va_P (dC, dI) vwCl (dkW r d a1 a2 cA z) H) (hD : va_D A (dkW r d a1 a2 cA z)) (hS : va_S A H0 H locs) {y : MethodName} {bytes : ByteArray} {maxL index n : Nat} {ret : Option FieldType} {rm : Room} {post : sq_T → Prop} (av : List Value) (hM : dkMet l y (ws_ y bytes maxL ret) rm av dC dI r d a1 a2 cA z H.size post) (cw : CallB R s args own index y bytes maxL ret (ws_ y bytes maxL ret) rm 0 0 n ∧ (Cond.static y).before args s = true) (hn : av.length = n) {st : List Value} (hst : st = av.reverse ++ rest) (hr : (rest.map fun v => v.category).sum ≤ 8) (hdg : decode cc pc = .ok (.invokestatic index, 3))
    (kk : ∀ (u : sq_T) (H1 : Heap) (locs1 : List Loc), post u → va_P (dC, dI) vwCl (dkW r d a1 a2 cA u) H1 → va_D A (dkW r d a1 a2 cA u) → va_S A H0 H1 locs1 → W p l e R s m args below meth c H1 locs1 cells slots Q (F0 m (pc + 3) ls rest)) : W p l e R s m args below meth c H locs cells slots Q (F0 m pc ls st) := by
  have hF := dkD.free hD (sz := H.size) (fun q h => hA q (Nat.le_trans hS.1 h))
  refine va_callv (va_runS (As := av) (rest := rest) S hM cw ⟨dkB.blind, fun U hU hW => ⟨rfl, dkB.at hK hX hP hD hU hW⟩⟩ rfl hn hl hst (lv_room hr) hdg ⟨hcs.1, hcs.2⟩) hS (fun q _ h => hF q h) hF (fun u t H1 locs1 ht _ hu hB _ _ hS1 => ?_)
  subst ht
  exact kk u _ _ hu hB (dkD hD _) hS1
end OXC
theorem ox_inc (i : Nat) : nI i + Int32.ofInt 1 = nI (i + 1) := nI_1 i
theorem ox_dec {i : Nat} (h : 0 < i) : nI i + Int32.ofInt (-1) = nI (i - 1) := by
  obtain ⟨j, rfl⟩ : ∃ j, i = j + 1 := ⟨i - 1, by omega⟩
  exact pk_m1 j
end
section
/-! OwnArrays: lowerBound, upperBound, med3 -/
section OXL
variable {p : Program} {l : Launch} {e : Env} {R : Room} {s : State} {m : MethodId} {args : Array Value} {below : List Frame} {meth : Method} {c : Code} {cells slots : Nat} {Q : State → Prop}
variable {dC : Nat → ClassId} {dI : Nat → Nat → Nat} {r d a1 a2 : Nat} {cA : ClassId} {A : Nat → Prop} {H0 : Heap}
variable {H : Heap} {locs : List Loc} {z : sq_T}
theorem ox_le0 {k : Nat} (hk : k < 2 ^ 31) : nI k ≤ 0 ↔ k = 0 := by
  constructor
  · intro h
    rcases Nat.eq_zero_or_pos k with e | e
    · exact e
    · exact absurd h (nI_nle e hk)
  · intro h
    rw [h]
    decide
set_option maxHeartbeats 4000000 in
set_option maxRecDepth 100000 in
theorem ox_lower_loop (S : CallFix p m c cX3_lowerBound 7 s args lw_all RX3) (hK : va_K (dC, dI) vwCl [(cA, .int)] s) (hX : dkX s) (hR : 1 ≤ R.frames ∧ 24 ≤ R.locals) (hcs : cells ≤ R.cells ∧ slots ≤ R.slots) (hP : va_P (dC, dI) vwCl (dkW r d a1 a2 cA z) H) (hD : va_D A (dkW r d a1 a2 cA z)) {f0 t0 p0 : Nat} (ht : t0 ≤ 48) (hp : p0 < 48) (hs : sq_So f0 t0 z)
    (kk : ∀ (k : Nat) (ls : Array Slot), f0 ≤ k → k ≤ t0 → ((∀ q, f0 ≤ q → q < k → sq_K (z q) < sq_K (z p0)) ∧ ∀ q, k ≤ q → q < t0 → sq_K (z p0) ≤ sq_K (z q)) → lv_has ls 7 [(0, .int (nI k))] → W p l e R s m args below meth c H locs cells slots Q (F0 m 58 ls [])) :
    ∀ (n f k : Nat) (ls : Array Slot), k < n → f0 ≤ f → f + k ≤ t0 → (∀ q, f0 ≤ q → q < f → sq_K (z q) < sq_K (z p0)) → (∀ q, f + k ≤ q → q < t0 → sq_K (z p0) ≤ sq_K (z q)) → lv_has ls 7 [(0, .int (nI f)), (2, .int (nI p0)), (3, .ref r), (4, .int (nI k))] → W p l e R s m args below meth c H locs cells slots Q (F0 m 5 ls []) := by
  have hx := S.1
  have hb := S.2.1
  intro n
  induction n with
  | zero => intro f k ls h1; omega
  | succ n ih =>
    intro f k ls h1 h2 h3 h4 h5 hl
    refine lv_iload hx hb dX3_lowerBound_5 (lv_at hl 3 rfl) ?_
    refine lv_if_le (tgt := 58) hx hb dX3_lowerBound_7 (by decide) (fun b1 => ?_) (fun b1 => ?_)
    · have e := (ox_le0 (by omega)).mp b1
      exact kk f ls h2 (by omega) ⟨h4, fun q x y => h5 q (by omega) y⟩ (lv_sub hl [0] rfl)
    · have e : ¬ k = 0 := fun h => b1 ((ox_le0 (k := k) (by omega)).mpr h)
      refine lv_iload hx hb dX3_lowerBound_10 (lv_at hl 3 rfl) ?_
      refine lv_iconst (v := nI 2) hx hb dX3_lowerBound_12 (by decide) ?_
      refine lv_idiv hx hb dX3_lowerBound_13 (by decide) ?_
      refine ox_to (y := nI (k / 2)) (pk_div (by omega) (by omega) (by omega)) ?_
      refine lv_istore (lv' := [(5, .int (nI (k / 2))), (0, .int (nI f)), (2, .int (nI p0)), (3, .ref r), (4, .int (nI k))]) hx hb dX3_lowerBound_14 hl (by decide) rfl (fun ls hl => ?_)
      refine lv_iload_n hx hb dX3_lowerBound_16 rfl (lv_at hl 1 rfl) ?_
      refine lv_iload hx hb dX3_lowerBound_17 (lv_at hl 0 rfl) ?_
      refine lv_iadd hx hb dX3_lowerBound_19 ?_
      refine ox_to (y := nI (f + k / 2)) (nI_add _ _) ?_
      refine lv_istore (lv' := [(6, .int (nI (f + k / 2))), (5, .int (nI (k / 2))), (0, .int (nI f)), (2, .int (nI p0)), (3, .ref r), (4, .int (nI k))]) hx hb dX3_lowerBound_20 hl (by decide) rfl (fun ls hl => ?_)
      refine lv_aload_n hx hb dX3_lowerBound_22 rfl (lv_at hl 4 rfl) ?_
      refine lv_iload hx hb dX3_lowerBound_23 (lv_at hl 0 rfl) ?_
      refine lv_iload_n hx hb dX3_lowerBound_25 rfl (lv_at hl 3 rfl) ?_
      refine ox_cmp S hl.1 hK hX hR hcs hP hD (i := f + k / 2) (j := p0) (by omega) (by omega) (Nat.le_of_ble_eq_true rfl) dX3_lowerBound_26 ?_
      refine lv_if_ge (tgt := 51) hx hb dX3_lowerBound_31 (by decide) (fun b2 => ?_) (fun b2 => ?_)
      · have c2 := sq_cmp_ge.mp b2
        refine lv_iload hx hb dX3_lowerBound_51 (lv_at hl 1 rfl) ?_
        refine lv_istore (lv' := [(4, .int (nI (k / 2))), (6, .int (nI (f + k / 2))), (5, .int (nI (k / 2))), (0, .int (nI f)), (2, .int (nI p0)), (3, .ref r)]) hx hb dX3_lowerBound_53 hl (by decide) rfl (fun ls hl => ?_)
        refine lv_goto (tgt := 5) hx hb dX3_lowerBound_55 (by decide) ?_
        exact ih f (k / 2) ls (by omega) h2 (by omega) h4 (fun q x y => Int.le_trans c2 (hs (f + k / 2) q (by omega) x y)) (lv_sub hl [3, 4, 5, 0] rfl)
      · have c2 : sq_K (z (f + k / 2)) < sq_K (z p0) := Int.not_le.mp (fun h => b2 (sq_cmp_ge.mpr h))
        refine lv_iload hx hb dX3_lowerBound_34 (lv_at hl 0 rfl) ?_
        refine lv_iconst (v := nI 1) hx hb dX3_lowerBound_36 (by decide) ?_
        refine lv_iadd hx hb dX3_lowerBound_37 ?_
        refine ox_to (y := nI (f + k / 2 + 1)) (nI_add _ _) ?_
        refine lv_istore_n (lv' := [(0, .int (nI (f + k / 2 + 1))), (6, .int (nI (f + k / 2))), (5, .int (nI (k / 2))), (2, .int (nI p0)), (3, .ref r), (4, .int (nI k))]) hx hb dX3_lowerBound_38 rfl hl (by decide) rfl (fun ls hl => ?_)
        refine lv_iload hx hb dX3_lowerBound_39 (lv_at hl 5 rfl) ?_
        refine lv_iload hx hb dX3_lowerBound_41 (lv_at hl 2 rfl) ?_
        refine lv_iconst (v := nI 1) hx hb dX3_lowerBound_43 (by decide) ?_
        refine lv_iadd hx hb dX3_lowerBound_44 ?_
        refine ox_to (y := nI (k / 2 + 1)) (nI_add _ _) ?_
        refine lv_isub hx hb dX3_lowerBound_45 ?_
        refine ox_to (y := nI (k - (k / 2 + 1))) (pk_sub (by omega)) ?_
        refine lv_istore (lv' := [(4, .int (nI (k - (k / 2 + 1)))), (0, .int (nI (f + k / 2 + 1))), (6, .int (nI (f + k / 2))), (5, .int (nI (k / 2))), (2, .int (nI p0)), (3, .ref r)]) hx hb dX3_lowerBound_46 hl (by decide) rfl (fun ls hl => ?_)
        refine lv_goto (tgt := 55) hx hb dX3_lowerBound_48 (by decide) ?_
        refine lv_goto (tgt := 5) hx hb dX3_lowerBound_55 (by decide) ?_
        exact ih (f + k / 2 + 1) (k - (k / 2 + 1)) ls (by omega) (by omega) (by omega) (fun q x y => Int.lt_of_le_of_lt (hs q (f + k / 2) x (by omega) (by omega)) c2) (fun q x y => h5 q (by omega) y) (lv_sub hl [1, 4, 5, 0] rfl)
set_option maxHeartbeats 4000000 in
set_option maxRecDepth 100000 in
theorem ox_upper_loop (S : CallFix p m c cX3_upperBound 7 s args lw_all RX3) (hK : va_K (dC, dI) vwCl [(cA, .int)] s) (hX : dkX s) (hR : 1 ≤ R.frames ∧ 24 ≤ R.locals) (hcs : cells ≤ R.cells ∧ slots ≤ R.slots) (hP : va_P (dC, dI) vwCl (dkW r d a1 a2 cA z) H) (hD : va_D A (dkW r d a1 a2 cA z)) {f0 t0 p0 : Nat} (ht : t0 ≤ 48) (hp : p0 < 48) (hs : sq_So f0 t0 z)
    (kk : ∀ (k : Nat) (ls : Array Slot), f0 ≤ k → k ≤ t0 → ((∀ q, f0 ≤ q → q < k → sq_K (z q) ≤ sq_K (z p0)) ∧ ∀ q, k ≤ q → q < t0 → sq_K (z p0) < sq_K (z q)) → lv_has ls 7 [(0, .int (nI k))] → W p l e R s m args below meth c H locs cells slots Q (F0 m 58 ls [])) :
    ∀ (n f k : Nat) (ls : Array Slot), k < n → f0 ≤ f → f + k ≤ t0 → (∀ q, f0 ≤ q → q < f → sq_K (z q) ≤ sq_K (z p0)) → (∀ q, f + k ≤ q → q < t0 → sq_K (z p0) < sq_K (z q)) → lv_has ls 7 [(0, .int (nI f)), (2, .int (nI p0)), (3, .ref r), (4, .int (nI k))] → W p l e R s m args below meth c H locs cells slots Q (F0 m 5 ls []) := by
  have hx := S.1
  have hb := S.2.1
  intro n
  induction n with
  | zero => intro f k ls h1; omega
  | succ n ih =>
    intro f k ls h1 h2 h3 h4 h5 hl
    refine lv_iload hx hb dX3_upperBound_5 (lv_at hl 3 rfl) ?_
    refine lv_if_le (tgt := 58) hx hb dX3_upperBound_7 (by decide) (fun b1 => ?_) (fun b1 => ?_)
    · have e := (ox_le0 (by omega)).mp b1
      exact kk f ls h2 (by omega) ⟨h4, fun q x y => h5 q (by omega) y⟩ (lv_sub hl [0] rfl)
    · have e : ¬ k = 0 := fun h => b1 ((ox_le0 (k := k) (by omega)).mpr h)
      refine lv_iload hx hb dX3_upperBound_10 (lv_at hl 3 rfl) ?_
      refine lv_iconst (v := nI 2) hx hb dX3_upperBound_12 (by decide) ?_
      refine lv_idiv hx hb dX3_upperBound_13 (by decide) ?_
      refine ox_to (y := nI (k / 2)) (pk_div (by omega) (by omega) (by omega)) ?_
      refine lv_istore (lv' := [(5, .int (nI (k / 2))), (0, .int (nI f)), (2, .int (nI p0)), (3, .ref r), (4, .int (nI k))]) hx hb dX3_upperBound_14 hl (by decide) rfl (fun ls hl => ?_)
      refine lv_iload_n hx hb dX3_upperBound_16 rfl (lv_at hl 1 rfl) ?_
      refine lv_iload hx hb dX3_upperBound_17 (lv_at hl 0 rfl) ?_
      refine lv_iadd hx hb dX3_upperBound_19 ?_
      refine ox_to (y := nI (f + k / 2)) (nI_add _ _) ?_
      refine lv_istore (lv' := [(6, .int (nI (f + k / 2))), (5, .int (nI (k / 2))), (0, .int (nI f)), (2, .int (nI p0)), (3, .ref r), (4, .int (nI k))]) hx hb dX3_upperBound_20 hl (by decide) rfl (fun ls hl => ?_)
      refine lv_aload_n hx hb dX3_upperBound_22 rfl (lv_at hl 4 rfl) ?_
      refine lv_iload_n hx hb dX3_upperBound_23 rfl (lv_at hl 3 rfl) ?_
      refine lv_iload hx hb dX3_upperBound_24 (lv_at hl 0 rfl) ?_
      refine ox_cmp S hl.1 hK hX hR hcs hP hD (i := p0) (j := f + k / 2) (by omega) (by omega) (Nat.le_of_ble_eq_true rfl) dX3_upperBound_26 ?_
      refine lv_if_ge (tgt := 41) hx hb dX3_upperBound_31 (by decide) (fun b2 => ?_) (fun b2 => ?_)
      · have c2 := sq_cmp_ge.mp b2
        refine lv_iload hx hb dX3_upperBound_41 (lv_at hl 0 rfl) ?_
        refine lv_iconst (v := nI 1) hx hb dX3_upperBound_43 (by decide) ?_
        refine lv_iadd hx hb dX3_upperBound_44 ?_
        refine ox_to (y := nI (f + k / 2 + 1)) (nI_add _ _) ?_
        refine lv_istore_n (lv' := [(0, .int (nI (f + k / 2 + 1))), (6, .int (nI (f + k / 2))), (5, .int (nI (k / 2))), (2, .int (nI p0)), (3, .ref r), (4, .int (nI k))]) hx hb dX3_upperBound_45 rfl hl (by decide) rfl (fun ls hl => ?_)
        refine lv_iload hx hb dX3_upperBound_46 (lv_at hl 5 rfl) ?_
        refine lv_iload hx hb dX3_upperBound_48 (lv_at hl 2 rfl) ?_
        refine lv_iconst (v := nI 1) hx hb dX3_upperBound_50 (by decide) ?_
        refine lv_iadd hx hb dX3_upperBound_51 ?_
        refine ox_to (y := nI (k / 2 + 1)) (nI_add _ _) ?_
        refine lv_isub hx hb dX3_upperBound_52 ?_
        refine ox_to (y := nI (k - (k / 2 + 1))) (pk_sub (by omega)) ?_
        refine lv_istore (lv' := [(4, .int (nI (k - (k / 2 + 1)))), (0, .int (nI (f + k / 2 + 1))), (6, .int (nI (f + k / 2))), (5, .int (nI (k / 2))), (2, .int (nI p0)), (3, .ref r)]) hx hb dX3_upperBound_53 hl (by decide) rfl (fun ls hl => ?_)
        refine lv_goto (tgt := 5) hx hb dX3_upperBound_55 (by decide) ?_
        exact ih (f + k / 2 + 1) (k - (k / 2 + 1)) ls (by omega) (by omega) (by omega) (fun q x y => Int.le_trans (hs q (f + k / 2) x (by omega) (by omega)) c2) (fun q x y => h5 q (by omega) y) (lv_sub hl [1, 4, 5, 0] rfl)
      · have c2 : sq_K (z p0) < sq_K (z (f + k / 2)) := Int.not_le.mp (fun h => b2 (sq_cmp_ge.mpr h))
        refine lv_iload hx hb dX3_upperBound_34 (lv_at hl 1 rfl) ?_
        refine lv_istore (lv' := [(4, .int (nI (k / 2))), (6, .int (nI (f + k / 2))), (5, .int (nI (k / 2))), (0, .int (nI f)), (2, .int (nI p0)), (3, .ref r)]) hx hb dX3_upperBound_36 hl (by decide) rfl (fun ls hl => ?_)
        refine lv_goto (tgt := 55) hx hb dX3_upperBound_38 (by decide) ?_
        refine lv_goto (tgt := 5) hx hb dX3_upperBound_55 (by decide) ?_
        exact ih f (k / 2) ls (by omega) h2 (by omega) h4 (fun q x y => Int.lt_of_lt_of_le c2 (hs (f + k / 2) q (by omega) x y)) (lv_sub hl [3, 4, 5, 0] rfl)
end OXL
set_option maxHeartbeats 4000000 in
set_option maxRecDepth 100000 in
/-- lowerBound over a range in order -/
theorem metX3_lowerBound (l : Launch) (dC : Nat → ClassId) (dI : Nat → Nat → Nat) (r d a1 a2 : Nat) (cA : ClassId) (z : sq_T) (sz : Nat) {f0 t0 p0 : Nat} (hft : f0 ≤ t0) (ht : t0 ≤ 48) (hp : p0 < 48) (hs : sq_So f0 t0 z) : dkMetR l yX3_lowerBound (ws_ yX3_lowerBound cX3_lowerBound 7 (some .int)) { frames := 1, cells := 0, slots := 0, locals := 24 } [.int (nI f0), .int (nI t0), .int (nI p0), .ref r] dC dI r d a1 a2 cA z sz (fun v => ∃ k : Nat, v = nI k ∧ f0 ≤ k ∧ k ≤ t0 ∧ (∀ q, f0 ≤ q → q < k → sq_K (z q) < sq_K (z p0)) ∧ ∀ q, k ≤ q → q < t0 → sq_K (z p0) ≤ sq_K (z q)) := by
  refine Met.ofW (cc := cX3_lowerBound) (maxL := 7) (ret := (some .int)) (by decide) rfl ?_
  intro p e s m args below meth c s₁ B hml hv
  obtain ⟨rfl, hsz, hP, hK, hD0, hX⟩ := hv
  have hx := B.exec
  have hb := B.bytes
  have hr := B.returns
  have hts := atoms_spec (ws := ws_ yX3_lowerBound cX3_lowerBound 7 (some .int)) B.pre
  have hts : ∀ w ∈ lw_all, w.before _ s = true := fun w h => hts w (List.mem_cons_of_mem _ h)
  have hown : s.vm.findClass RX3 = some m.cls := findClass_of_methodNamed B.named
  have hlocks := B.notSynchronized
  subst hsz
  have hl := lv_entry ([.int (nI f0), .int (nI t0), .int (nI p0), .ref r]) (n := 7) (Nat.le_of_ble_eq_true rfl)
  rw [lg_entry_eq]
  generalize (lg_sl ([.int (nI f0), .int (nI t0), .int (nI p0), .ref r]) ++ List.replicate (7 - (lg_sl ([.int (nI f0), .int (nI t0), .int (nI p0), .ref r])).length) Slot.unset).toArray = ls at hl ⊢
  have hl : lv_has ls 7 [(0, .int (nI f0)), (1, .int (nI t0)), (2, .int (nI p0)), (3, .ref r)] := hl
  refine lv_iload_n hx hb dX3_lowerBound_0 rfl (lv_at hl 1 rfl) ?_
  refine lv_iload_n hx hb dX3_lowerBound_1 rfl (lv_at hl 0 rfl) ?_
  refine lv_isub hx hb dX3_lowerBound_2 ?_
  refine ox_to (y := nI (t0 - f0)) (pk_sub (by omega)) ?_
  refine lv_istore (lv' := [(4, .int (nI (t0 - f0))), (0, .int (nI f0)), (1, .int (nI t0)), (2, .int (nI p0)), (3, .ref r)]) hx hb dX3_lowerBound_3 hl (by decide) rfl (fun ls hl => ?_)
  refine ox_lower_loop ⟨hx, hb, hml, hown, hts⟩ hK hX ⟨Nat.le_of_ble_eq_true rfl, Nat.le_of_ble_eq_true rfl⟩ ⟨Nat.zero_le _, Nat.zero_le _⟩ hP hD0 ht hp hs (fun k ls k1 k2 k3 hl => ?_) (t0 - f0 + 1) f0 (t0 - f0) ls (by omega) (Nat.le_refl _) (by omega) (fun q x y => by omega) (fun q x y => by omega) (lv_sub hl [1, 3, 4, 0] rfl)
  refine lv_iload_n hx hb dX3_lowerBound_58 rfl (lv_at hl 0 rfl) ?_
  exact W.iret (v := nI k) hx hb hr (fun t ht hW => ⟨_, rfl, ⟨k, rfl, k1, k2, k3⟩, ht⟩) (fun q h => by cases h) dX3_lowerBound_59
set_option maxHeartbeats 4000000 in
set_option maxRecDepth 100000 in
/-- upperBound over a range in order -/
theorem metX3_upperBound (l : Launch) (dC : Nat → ClassId) (dI : Nat → Nat → Nat) (r d a1 a2 : Nat) (cA : ClassId) (z : sq_T) (sz : Nat) {f0 t0 p0 : Nat} (hft : f0 ≤ t0) (ht : t0 ≤ 48) (hp : p0 < 48) (hs : sq_So f0 t0 z) : dkMetR l yX3_upperBound (ws_ yX3_upperBound cX3_upperBound 7 (some .int)) { frames := 1, cells := 0, slots := 0, locals := 24 } [.int (nI f0), .int (nI t0), .int (nI p0), .ref r] dC dI r d a1 a2 cA z sz (fun v => ∃ k : Nat, v = nI k ∧ f0 ≤ k ∧ k ≤ t0 ∧ (∀ q, f0 ≤ q → q < k → sq_K (z q) ≤ sq_K (z p0)) ∧ ∀ q, k ≤ q → q < t0 → sq_K (z p0) < sq_K (z q)) := by
  refine Met.ofW (cc := cX3_upperBound) (maxL := 7) (ret := (some .int)) (by decide) rfl ?_
  intro p e s m args below meth c s₁ B hml hv
  obtain ⟨rfl, hsz, hP, hK, hD0, hX⟩ := hv
  have hx := B.exec
  have hb := B.bytes
  have hr := B.returns
  have hts := atoms_spec (ws := ws_ yX3_upperBound cX3_upperBound 7 (some .int)) B.pre
  have hts : ∀ w ∈ lw_all, w.before _ s = true := fun w h => hts w (List.mem_cons_of_mem _ h)
  have hown : s.vm.findClass RX3 = some m.cls := findClass_of_methodNamed B.named
  have hlocks := B.notSynchronized
  subst hsz
  have hl := lv_entry ([.int (nI f0), .int (nI t0), .int (nI p0), .ref r]) (n := 7) (Nat.le_of_ble_eq_true rfl)
  rw [lg_entry_eq]
  generalize (lg_sl ([.int (nI f0), .int (nI t0), .int (nI p0), .ref r]) ++ List.replicate (7 - (lg_sl ([.int (nI f0), .int (nI t0), .int (nI p0), .ref r])).length) Slot.unset).toArray = ls at hl ⊢
  have hl : lv_has ls 7 [(0, .int (nI f0)), (1, .int (nI t0)), (2, .int (nI p0)), (3, .ref r)] := hl
  refine lv_iload_n hx hb dX3_upperBound_0 rfl (lv_at hl 1 rfl) ?_
  refine lv_iload_n hx hb dX3_upperBound_1 rfl (lv_at hl 0 rfl) ?_
  refine lv_isub hx hb dX3_upperBound_2 ?_
  refine ox_to (y := nI (t0 - f0)) (pk_sub (by omega)) ?_
  refine lv_istore (lv' := [(4, .int (nI (t0 - f0))), (0, .int (nI f0)), (1, .int (nI t0)), (2, .int (nI p0)), (3, .ref r)]) hx hb dX3_upperBound_3 hl (by decide) rfl (fun ls hl => ?_)
  refine ox_upper_loop ⟨hx, hb, hml, hown, hts⟩ hK hX ⟨Nat.le_of_ble_eq_true rfl, Nat.le_of_ble_eq_true rfl⟩ ⟨Nat.zero_le _, Nat.zero_le _⟩ hP hD0 ht hp hs (fun k ls k1 k2 k3 hl => ?_) (t0 - f0 + 1) f0 (t0 - f0) ls (by omega) (Nat.le_refl _) (by omega) (fun q x y => by omega) (fun q x y => by omega) (lv_sub hl [1, 3, 4, 0] rfl)
  refine lv_iload_n hx hb dX3_upperBound_58 rfl (lv_at hl 0 rfl) ?_
  exact W.iret (v := nI k) hx hb hr (fun t ht hW => ⟨_, rfl, ⟨k, rfl, k1, k2, k3⟩, ht⟩) (fun q h => by cases h) dX3_upperBound_59
set_option maxHeartbeats 4000000 in
set_option maxRecDepth 100000 in
/-- med3: one of the three places -/
theorem metX3_med3 (l : Launch) (dC : Nat → ClassId) (dI : Nat → Nat → Nat) (r d a1 a2 : Nat) (cA : ClassId) (z : sq_T) (sz : Nat) {f0 t0 p0 : Nat} (hf : f0 < 48) (ht : t0 < 48) (hp : p0 < 48) : dkMetR l yX3_med3 (ws_ yX3_med3 cX3_med3 7 (some .int)) { frames := 1, cells := 0, slots := 0, locals := 24 } [.int (nI f0), .int (nI t0), .int (nI p0), .ref r] dC dI r d a1 a2 cA z sz (fun v => ∃ k : Nat, v = nI k ∧ (k = f0 ∨ k = t0 ∨ k = p0)) := by
  refine Met.ofW (cc := cX3_med3) (maxL := 7) (ret := (some .int)) (by decide) rfl ?_
  intro p e s m args below meth c s₁ B hml hv
  obtain ⟨rfl, hsz, hP, hK, hD0, hX⟩ := hv
  have hx := B.exec
  have hb := B.bytes
  have hr := B.returns
  have hts := atoms_spec (ws := ws_ yX3_med3 cX3_med3 7 (some .int)) B.pre
  have hts : ∀ w ∈ lw_all, w.before _ s = true := fun w h => hts w (List.mem_cons_of_mem _ h)
  have hown : s.vm.findClass RX3 = some m.cls := findClass_of_methodNamed B.named
  have hlocks := B.notSynchronized
  subst hsz
  have hl := lv_entry ([.int (nI f0), .int (nI t0), .int (nI p0), .ref r]) (n := 7) (Nat.le_of_ble_eq_true rfl)
  rw [lg_entry_eq]
  generalize (lg_sl ([.int (nI f0), .int (nI t0), .int (nI p0), .ref r]) ++ List.replicate (7 - (lg_sl ([.int (nI f0), .int (nI t0), .int (nI p0), .ref r])).length) Slot.unset).toArray = ls at hl ⊢
  have hl : lv_has ls 7 [(0, .int (nI f0)), (1, .int (nI t0)), (2, .int (nI p0)), (3, .ref r)] := hl
  have hR : 1 ≤ (headSpec (ws_ yX3_med3 cX3_med3 7 (some .int)) { frames := 1, cells := 0, slots := 0, locals := 24 }).room.frames ∧ 24 ≤ (headSpec (ws_ yX3_med3 cX3_med3 7 (some .int)) { frames := 1, cells := 0, slots := 0, locals := 24 }).room.locals := ⟨Nat.le_refl _, Nat.le_refl _⟩
  have hcs : 0 ≤ (headSpec (ws_ yX3_med3 cX3_med3 7 (some .int)) { frames := 1, cells := 0, slots := 0, locals := 24 }).room.cells ∧ 0 ≤ (headSpec (ws_ yX3_med3 cX3_med3 7 (some .int)) { frames := 1, cells := 0, slots := 0, locals := 24 }).room.slots := ⟨Nat.zero_le _, Nat.zero_le _⟩
  have S : CallFix p m c cX3_med3 7 s _ lw_all RX3 := ⟨hx, hb, hml, hown, hts⟩
  have hD := hD0
  refine lv_aload_n hx hb dX3_med3_0 rfl (lv_at hl 3 rfl) ?_
  refine lv_iload_n hx hb dX3_med3_1 rfl (lv_at hl 0 rfl) ?_
  refine lv_iload_n hx hb dX3_med3_2 rfl (lv_at hl 1 rfl) ?_
  refine ox_cmp S hl.1 hK hX hR hcs hP hD (i := f0) (j := t0) (by assumption) (by assumption) (Nat.le_of_ble_eq_true rfl) dX3_med3_3 ?_
  refine lv_istore (lv' := [(4, .int (sq_cmp (z (f0)) (z (t0)))), (0, .int (nI f0)), (1, .int (nI t0)), (2, .int (nI p0)), (3, .ref r)]) hx hb dX3_med3_8 hl (by decide) rfl (fun ls hl => ?_)
  refine lv_aload_n hx hb dX3_med3_10 rfl (lv_at hl 4 rfl) ?_
  refine lv_iload_n hx hb dX3_med3_11 rfl (lv_at hl 1 rfl) ?_
  refine lv_iload_n hx hb dX3_med3_12 rfl (lv_at hl 3 rfl) ?_
  refine ox_cmp S hl.1 hK hX hR hcs hP hD (i := f0) (j := p0) (by assumption) (by assumption) (Nat.le_of_ble_eq_true rfl) dX3_med3_13 ?_
  refine lv_istore (lv' := [(5, .int (sq_cmp (z (f0)) (z (p0)))), (4, .int (sq_cmp (z (f0)) (z (t0)))), (0, .int (nI f0)), (1, .int (nI t0)), (2, .int (nI p0)), (3, .ref r)]) hx hb dX3_med3_18 hl (by decide) rfl (fun ls hl => ?_)
  refine lv_aload_n hx hb dX3_med3_20 rfl (lv_at hl 5 rfl) ?_
  refine lv_iload_n hx hb dX3_med3_21 rfl (lv_at hl 3 rfl) ?_
  refine lv_iload_n hx hb dX3_med3_22 rfl (lv_at hl 4 rfl) ?_
  refine ox_cmp S hl.1 hK hX hR hcs hP hD (i := t0) (j := p0) (by assumption) (by assumption) (Nat.le_of_ble_eq_true rfl) dX3_med3_23 ?_
  refine lv_istore (lv' := [(6, .int (sq_cmp (z (t0)) (z (p0)))), (5, .int (sq_cmp (z (f0)) (z (p0)))), (4, .int (sq_cmp (z (f0)) (z (t0)))), (0, .int (nI f0)), (1, .int (nI t0)), (2, .int (nI p0)), (3, .ref r)]) hx hb dX3_med3_28 hl (by decide) rfl (fun ls hl => ?_)
  refine lv_iload hx hb dX3_med3_30 (lv_at hl 2 rfl) ?_
  refine lv_if_ge (tgt := 57) hx hb dX3_med3_32 (by decide) (fun b0 => ?_) (fun b0 => ?_)
  · refine lv_iload hx hb dX3_med3_57 (lv_at hl 0 rfl) ?_
    refine lv_if_le (tgt := 66) hx hb dX3_med3_59 (by decide) (fun b1 => ?_) (fun b1 => ?_)
    · refine lv_iload hx hb dX3_med3_66 (lv_at hl 1 rfl) ?_
      refine lv_if_le (tgt := 75) hx hb dX3_med3_68 (by decide) (fun b2 => ?_) (fun b2 => ?_)
      · refine lv_iload_n hx hb dX3_med3_75 rfl (lv_at hl 3 rfl) ?_
        exact W.iret (v := nI f0) hx hb hr (fun t ht hW => ⟨_, rfl, ⟨f0, rfl, Or.inl rfl⟩, ht⟩) (fun q h => by cases h) dX3_med3_76
      · refine lv_iload_n hx hb dX3_med3_71 rfl (lv_at hl 5 rfl) ?_
        refine lv_goto (tgt := 76) hx hb dX3_med3_72 (by decide) ?_
        exact W.iret (v := nI p0) hx hb hr (fun t ht hW => ⟨_, rfl, ⟨p0, rfl, Or.inr (Or.inr rfl)⟩, ht⟩) (fun q h => by cases h) dX3_med3_76
    · refine lv_iload_n hx hb dX3_med3_62 rfl (lv_at hl 4 rfl) ?_
      refine lv_goto (tgt := 76) hx hb dX3_med3_63 (by decide) ?_
      exact W.iret (v := nI t0) hx hb hr (fun t ht hW => ⟨_, rfl, ⟨t0, rfl, Or.inr (Or.inl rfl)⟩, ht⟩) (fun q h => by cases h) dX3_med3_76
  · refine lv_iload hx hb dX3_med3_35 (lv_at hl 0 rfl) ?_
    refine lv_if_ge (tgt := 44) hx hb dX3_med3_37 (by decide) (fun b1 => ?_) (fun b1 => ?_)
    · refine lv_iload hx hb dX3_med3_44 (lv_at hl 1 rfl) ?_
      refine lv_if_ge (tgt := 53) hx hb dX3_med3_46 (by decide) (fun b2 => ?_) (fun b2 => ?_)
      · refine lv_iload_n hx hb dX3_med3_53 rfl (lv_at hl 3 rfl) ?_
        refine lv_goto (tgt := 76) hx hb dX3_med3_54 (by decide) ?_
        exact W.iret (v := nI f0) hx hb hr (fun t ht hW => ⟨_, rfl, ⟨f0, rfl, Or.inl rfl⟩, ht⟩) (fun q h => by cases h) dX3_med3_76
      · refine lv_iload_n hx hb dX3_med3_49 rfl (lv_at hl 5 rfl) ?_
        refine lv_goto (tgt := 76) hx hb dX3_med3_50 (by decide) ?_
        exact W.iret (v := nI p0) hx hb hr (fun t ht hW => ⟨_, rfl, ⟨p0, rfl, Or.inr (Or.inr rfl)⟩, ht⟩) (fun q h => by cases h) dX3_med3_76
    · refine lv_iload_n hx hb dX3_med3_40 rfl (lv_at hl 4 rfl) ?_
      refine lv_goto (tgt := 76) hx hb dX3_med3_41 (by decide) ?_
      exact W.iret (v := nI t0) hx hb hr (fun t ht hW => ⟨_, rfl, ⟨t0, rfl, Or.inr (Or.inl rfl)⟩, ht⟩) (fun q h => by cases h) dX3_med3_76
end
section
/-! OwnArrays: swap of blocks; insertion inside mergeSort and quickSort -/
section OXI
variable {p : Program} {l : Launch} {e : Env} {R : Room} {s : State} {m : MethodId} {args : Array Value} {below : List Frame} {meth : Method} {c : Code} {cells slots : Nat} {Q : State → Prop}
variable {dC : Nat → ClassId} {dI : Nat → Nat → Nat} {r d a1 a2 : Nat} {cA : ClassId} {A : Nat → Prop} {H0 : Heap}
set_option maxHeartbeats 4000000 in
set_option maxRecDepth 100000 in
theorem ox_vs_loop (S : CallFix p m c cX3_swap 5 s args lw_all RX3) (hK : va_K (dC, dI) vwCl [(cA, .int)] s) (hX : dkX s) (hR : 1 ≤ R.frames ∧ 24 ≤ R.locals) (hcs : cells ≤ R.cells ∧ slots ≤ R.slots) (hA : ∀ q : Nat, H0.size ≤ q → A q) {n0 : Nat} {u : sq_T} (hn : n0 ≤ 48)
    (kk : ∀ (H : Heap) (locs : List Loc) (ls : Array Slot), va_P (dC, dI) vwCl (dkW r d a1 a2 cA u) H → va_D A (dkW r d a1 a2 cA u) → va_S A H0 H locs → W p l e R s m args below meth c H locs cells slots Q (F0 m 29 ls [])) :
    ∀ (k : Nat) (z : sq_T) (a b i : Nat) (H : Heap) (locs : List Loc) (ls : Array Slot), i + k = n0 → a + k ≤ 48 → b + k ≤ 48 → sq_vs z a b k = u → va_P (dC, dI) vwCl (dkW r d a1 a2 cA z) H → va_D A (dkW r d a1 a2 cA z) → va_S A H0 H locs → lv_has ls 5 [(0, .ref r), (1, .int (nI a)), (2, .int (nI b)), (3, .int (nI n0)), (4, .int (nI i))] → W p l e R s m args below meth c H locs cells slots Q (F0 m 3 ls []) := by
  have hx := S.1
  have hb := S.2.1
  intro k
  induction k with
  | zero =>
    intro z a b i H locs ls h1 h2 h3 hu hP hD hS hl
    refine lv_iload hx hb dX3_swap_3 (lv_at hl 4 rfl) ?_
    refine lv_iload_n hx hb dX3_swap_5 rfl (lv_at hl 3 rfl) ?_
    refine lv_icmp_ge (tgt := 29) hx hb dX3_swap_6 (by decide) (fun b1 => ?_) (fun b1 => ?_)
    · have hu : z = u := hu
      subst hu
      exact kk H locs ls hP hD hS
    · exact absurd (nI_le (by omega) (by omega)) b1
  | succ k ih =>
    intro z a b i H locs ls h1 h2 h3 hu hP hD hS hl
    refine lv_iload hx hb dX3_swap_3 (lv_at hl 4 rfl) ?_
    refine lv_iload_n hx hb dX3_swap_5 rfl (lv_at hl 3 rfl) ?_
    refine lv_icmp_ge (tgt := 29) hx hb dX3_swap_6 (by decide) (fun b1 => ?_) (fun b1 => ?_)
    · exact absurd ((nI_leI (by omega) (by omega)).mp b1) (by omega)
    · refine lv_aload_n hx hb dX3_swap_9 rfl (lv_at hl 0 rfl) ?_
      refine lv_iload_n hx hb dX3_swap_10 rfl (lv_at hl 1 rfl) ?_
      refine lv_iload_n hx hb dX3_swap_11 rfl (lv_at hl 2 rfl) ?_
      refine ox_swp S hl.1 hK hX hR hcs hA hP hD hS (i := a) (j := b) (by omega) (by omega) (Nat.le_of_ble_eq_true rfl) dX3_swap_12 (fun H locs hP hD hS => ?_)
      refine lv_iinc (v := nI (i + 1)) (lv' := [(4, .int (nI (i + 1))), (0, .ref r), (1, .int (nI a)), (2, .int (nI b)), (3, .int (nI n0))]) hx hb dX3_swap_17 hl (k := 4) rfl (ox_inc _) (by decide) rfl (fun ls hl => ?_)
      refine lv_iinc (v := nI (a + 1)) (lv' := [(1, .int (nI (a + 1))), (4, .int (nI (i + 1))), (0, .ref r), (2, .int (nI b)), (3, .int (nI n0))]) hx hb dX3_swap_20 hl (k := 2) rfl (ox_inc _) (by decide) rfl (fun ls hl => ?_)
      refine lv_iinc (v := nI (b + 1)) (lv' := [(2, .int (nI (b + 1))), (1, .int (nI (a + 1))), (4, .int (nI (i + 1))), (0, .ref r), (3, .int (nI n0))]) hx hb dX3_swap_23 hl (k := 3) rfl (ox_inc _) (by decide) rfl (fun ls hl => ?_)
      refine lv_goto (tgt := 3) hx hb dX3_swap_26 (by decide) ?_
      exact ih (sq_sw z a b) (a + 1) (b + 1) (i + 1) H locs ls (by omega) (by omega) (by omega) hu hP hD hS (lv_sub hl [3, 1, 0, 4, 2] rfl)
set_option maxHeartbeats 4000000 in
set_option maxRecDepth 100000 in
theorem ox_mergeSort_in (S : CallFix p m c cX3_mergeSort 7 s args lw_all RX3) (hK : va_K (dC, dI) vwCl [(cA, .int)] s) (hX : dkX s) (hR : 1 ≤ R.frames ∧ 24 ≤ R.locals) (hcs : cells ≤ R.cells ∧ slots ≤ R.slots) (hA : ∀ q : Nat, H0.size ≤ q → A q) {f t i : Nat} {z0 : sq_T} (ht : t ≤ 48) (hi : i < t) (hf : f ≤ i)
    (kk : ∀ (z : sq_T) (H : Heap) (locs : List Loc) (ls : Array Slot), sq_So f (i + 1) z → sq_Pm f t z0 z → va_P (dC, dI) vwCl (dkW r d a1 a2 cA z) H → va_D A (dkW r d a1 a2 cA z) → va_S A H0 H locs → lv_has ls 7 [(0, .int (nI f)), (1, .int (nI t)), (2, .ref r), (3, .ref r), (5, .int (nI i))] → W p l e R s m args below meth c H locs cells slots Q (F0 m 64 ls [])) :
    ∀ (n j : Nat) (z : sq_T) (H : Heap) (locs : List Loc) (ls : Array Slot), j < n → f ≤ j → j ≤ i → sq_Ins f i j z → sq_Pm f t z0 z → va_P (dC, dI) vwCl (dkW r d a1 a2 cA z) H → va_D A (dkW r d a1 a2 cA z) → va_S A H0 H locs → lv_has ls 7 [(0, .int (nI f)), (1, .int (nI t)), (2, .ref r), (3, .ref r), (5, .int (nI i)), (6, .int (nI j))] → W p l e R s m args below meth c H locs cells slots Q (F0 m 25 ls []) := by
  have hx := S.1
  have hb := S.2.1
  intro n
  induction n with
  | zero => intro j z H locs ls h1; omega
  | succ n ih =>
    intro j z H locs ls h1 h2 h3 hI hM hP hD hS hl
    refine lv_iload hx hb dX3_mergeSort_25 (lv_at hl 5 rfl) ?_
    refine lv_iload_n hx hb dX3_mergeSort_27 rfl (lv_at hl 0 rfl) ?_
    refine lv_icmp_le (tgt := 64) hx hb dX3_mergeSort_28 (by decide) (fun b1 => ?_) (fun b1 => ?_)
    · have c1 := (nI_leI (by omega) (by omega)).mp b1
      exact kk z H locs ls (hI.stop h3 (Or.inl c1)) hM hP hD hS (lv_sub hl [0, 1, 2, 3, 4] rfl)
    · have c1 : f < j := Nat.not_le.mp (fun h => b1 (nI_le h (by omega)))
      refine lv_aload_n hx hb dX3_mergeSort_31 rfl (lv_at hl 2 rfl) ?_
      refine lv_iload hx hb dX3_mergeSort_32 (lv_at hl 5 rfl) ?_
      refine lv_iconst (v := nI 1) hx hb dX3_mergeSort_34 (by decide) ?_
      refine lv_isub hx hb dX3_mergeSort_35 ?_
      refine ox_to (y := nI (j - 1)) (pk_sub (by omega)) ?_
      refine lv_iload hx hb dX3_mergeSort_36 (lv_at hl 5 rfl) ?_
      refine ox_cmp S hl.1 hK hX hR hcs hP hD (i := j - 1) (j := j) (by omega) (by omega) (Nat.le_of_ble_eq_true rfl) dX3_mergeSort_38 ?_
      refine lv_if_le (tgt := 64) hx hb dX3_mergeSort_43 (by decide) (fun b2 => ?_) (fun b2 => ?_)
      · have c2 := sq_cmp_le.mp b2
        exact kk z H locs ls (hI.stop h3 (Or.inr c2)) hM hP hD hS (lv_sub hl [0, 1, 2, 3, 4] rfl)
      · have c2 : sq_K (z j) < sq_K (z (j - 1)) := Int.not_le.mp (fun h => b2 (sq_cmp_le.mpr h))
        refine lv_aload_n hx hb dX3_mergeSort_46 rfl (lv_at hl 3 rfl) ?_
        refine lv_iload hx hb dX3_mergeSort_47 (lv_at hl 5 rfl) ?_
        refine lv_iload hx hb dX3_mergeSort_49 (lv_at hl 5 rfl) ?_
        refine lv_iconst (v := nI 1) hx hb dX3_mergeSort_51 (by decide) ?_
        refine lv_isub hx hb dX3_mergeSort_52 ?_
        refine ox_to (y := nI (j - 1)) (pk_sub (by omega)) ?_
        refine ox_swp S hl.1 hK hX hR hcs hA hP hD hS (i := j) (j := j - 1) (by omega) (by omega) (Nat.le_of_ble_eq_true rfl) dX3_mergeSort_53 (fun H locs hP hD hS => ?_)
        refine lv_iinc (v := nI (j - 1)) (lv' := [(6, .int (nI (j - 1))), (0, .int (nI f)), (1, .int (nI t)), (2, .ref r), (3, .ref r), (5, .int (nI i))]) hx hb dX3_mergeSort_58 hl (k := 5) rfl (ox_dec (by omega)) (by decide) rfl (fun ls hl => ?_)
        refine lv_goto (tgt := 25) hx hb dX3_mergeSort_61 (by decide) ?_
        exact ih (j - 1) (sq_sw z j (j - 1)) H locs ls (by omega) (by omega) (by omega) (hI.step h3 c1 c2) (hM.st (by omega) (by omega) (by omega) (by omega)) hP hD hS (lv_sub hl [1, 2, 3, 4, 5, 0] rfl)
set_option maxHeartbeats 4000000 in
set_option maxRecDepth 100000 in
theorem ox_mergeSort_out (S : CallFix p m c cX3_mergeSort 7 s args lw_all RX3) (hK : va_K (dC, dI) vwCl [(cA, .int)] s) (hX : dkX s) (hR : 1 ≤ R.frames ∧ 24 ≤ R.locals) (hcs : cells ≤ R.cells ∧ slots ≤ R.slots) (hA : ∀ q : Nat, H0.size ≤ q → A q) {f t : Nat} {z0 : sq_T} (ht : t ≤ 48)
    (kk : ∀ (z : sq_T) (H : Heap) (locs : List Loc) (ls : Array Slot), sq_Srt f t z0 z → va_P (dC, dI) vwCl (dkW r d a1 a2 cA z) H → va_D A (dkW r d a1 a2 cA z) → va_S A H0 H locs → W p l e R s m args below meth c H locs cells slots Q (F0 m 70 ls [])) :
    ∀ (n i : Nat) (z : sq_T) (H : Heap) (locs : List Loc) (ls : Array Slot), t < i + n → f ≤ i → i ≤ t → sq_So f i z → sq_Pm f t z0 z → va_P (dC, dI) vwCl (dkW r d a1 a2 cA z) H → va_D A (dkW r d a1 a2 cA z) → va_S A H0 H locs → lv_has ls 7 [(0, .int (nI f)), (1, .int (nI t)), (2, .ref r), (3, .ref r), (5, .int (nI i))] → W p l e R s m args below meth c H locs cells slots Q (F0 m 15 ls []) := by
  have hx := S.1
  have hb := S.2.1
  intro n
  induction n with
  | zero => intro i z H locs ls h1 h2 h3; omega
  | succ n ih =>
    intro i z H locs ls h1 h2 h3 hI hM hP hD hS hl
    refine lv_iload hx hb dX3_mergeSort_15 (lv_at hl 4 rfl) ?_
    refine lv_iload_n hx hb dX3_mergeSort_17 rfl (lv_at hl 1 rfl) ?_
    refine lv_icmp_ge (tgt := 70) hx hb dX3_mergeSort_18 (by decide) (fun b1 => ?_) (fun b1 => ?_)
    · have c1 := (nI_leI (by omega) (by omega)).mp b1
      have e : i = t := by omega
      subst e
      exact kk z H locs ls ⟨hM, hI⟩ hP hD hS
    · have c1 : i < t := Nat.not_le.mp (fun h => b1 (nI_le h (by omega)))
      refine lv_iload hx hb dX3_mergeSort_21 (lv_at hl 4 rfl) ?_
      refine lv_istore (lv' := [(6, .int (nI i)), (0, .int (nI f)), (1, .int (nI t)), (2, .ref r), (3, .ref r), (5, .int (nI i))]) hx hb dX3_mergeSort_23 hl (by decide) rfl (fun ls hl => ?_)
      refine ox_mergeSort_in S hK hX hR hcs hA ht c1 h2 (fun z H locs ls hI hM hP hD hS hl => ?_) (i + 1) i z H locs ls (by omega) h2 (Nat.le_refl i) (sq_Ins.start hI) hM hP hD hS (lv_sub hl [1, 2, 3, 4, 5, 0] rfl)
      refine lv_iinc (v := nI (i + 1)) (lv' := [(5, .int (nI (i + 1))), (0, .int (nI f)), (1, .int (nI t)), (2, .ref r), (3, .ref r)]) hx hb dX3_mergeSort_64 hl (k := 4) rfl (ox_inc _) (by decide) rfl (fun ls hl => ?_)
      refine lv_goto (tgt := 15) hx hb dX3_mergeSort_67 (by decide) ?_
      exact ih (i + 1) z H locs ls (by omega) (by omega) c1 hI hM hP hD hS (lv_sub hl [1, 2, 3, 4, 0] rfl)
set_option maxHeartbeats 4000000 in
set_option maxRecDepth 100000 in
theorem ox_quickSort_in (S : CallFix p m c cX3_quickSort 13 s args lw_all RX3) (hK : va_K (dC, dI) vwCl [(cA, .int)] s) (hX : dkX s) (hR : 1 ≤ R.frames ∧ 24 ≤ R.locals) (hcs : cells ≤ R.cells ∧ slots ≤ R.slots) (hA : ∀ q : Nat, H0.size ≤ q → A q) {f t i : Nat} {z0 : sq_T} (ht : t ≤ 48) (hi : i < t) (hf : f ≤ i)
    (kk : ∀ (z : sq_T) (H : Heap) (locs : List Loc) (ls : Array Slot), sq_So f (i + 1) z → sq_Pm f t z0 z → va_P (dC, dI) vwCl (dkW r d a1 a2 cA z) H → va_D A (dkW r d a1 a2 cA z) → va_S A H0 H locs → lv_has ls 13 [(0, .int (nI f)), (1, .int (nI t)), (2, .ref r), (3, .ref r), (5, .int (nI i))] → W p l e R s m args below meth c H locs cells slots Q (F0 m 64 ls [])) :
    ∀ (n j : Nat) (z : sq_T) (H : Heap) (locs : List Loc) (ls : Array Slot), j < n → f ≤ j → j ≤ i → sq_Ins f i j z → sq_Pm f t z0 z → va_P (dC, dI) vwCl (dkW r d a1 a2 cA z) H → va_D A (dkW r d a1 a2 cA z) → va_S A H0 H locs → lv_has ls 13 [(0, .int (nI f)), (1, .int (nI t)), (2, .ref r), (3, .ref r), (5, .int (nI i)), (6, .int (nI j))] → W p l e R s m args below meth c H locs cells slots Q (F0 m 25 ls []) := by
  have hx := S.1
  have hb := S.2.1
  intro n
  induction n with
  | zero => intro j z H locs ls h1; omega
  | succ n ih =>
    intro j z H locs ls h1 h2 h3 hI hM hP hD hS hl
    refine lv_iload hx hb dX3_quickSort_25 (lv_at hl 5 rfl) ?_
    refine lv_iload_n hx hb dX3_quickSort_27 rfl (lv_at hl 0 rfl) ?_
    refine lv_icmp_le (tgt := 64) hx hb dX3_quickSort_28 (by decide) (fun b1 => ?_) (fun b1 => ?_)
    · have c1 := (nI_leI (by omega) (by omega)).mp b1
      exact kk z H locs ls (hI.stop h3 (Or.inl c1)) hM hP hD hS (lv_sub hl [0, 1, 2, 3, 4] rfl)
    · have c1 : f < j := Nat.not_le.mp (fun h => b1 (nI_le h (by omega)))
      refine lv_aload_n hx hb dX3_quickSort_31 rfl (lv_at hl 2 rfl) ?_
      refine lv_iload hx hb dX3_quickSort_32 (lv_at hl 5 rfl) ?_
      refine lv_iconst (v := nI 1) hx hb dX3_quickSort_34 (by decide) ?_
      refine lv_isub hx hb dX3_quickSort_35 ?_
      refine ox_to (y := nI (j - 1)) (pk_sub (by omega)) ?_
      refine lv_iload hx hb dX3_quickSort_36 (lv_at hl 5 rfl) ?_
      refine ox_cmp S hl.1 hK hX hR hcs hP hD (i := j - 1) (j := j) (by omega) (by omega) (Nat.le_of_ble_eq_true rfl) dX3_quickSort_38 ?_
      refine lv_if_le (tgt := 64) hx hb dX3_quickSort_43 (by decide) (fun b2 => ?_) (fun b2 => ?_)
      · have c2 := sq_cmp_le.mp b2
        exact kk z H locs ls (hI.stop h3 (Or.inr c2)) hM hP hD hS (lv_sub hl [0, 1, 2, 3, 4] rfl)
      · have c2 : sq_K (z j) < sq_K (z (j - 1)) := Int.not_le.mp (fun h => b2 (sq_cmp_le.mpr h))
        refine lv_aload_n hx hb dX3_quickSort_46 rfl (lv_at hl 3 rfl) ?_
        refine lv_iload hx hb dX3_quickSort_47 (lv_at hl 5 rfl) ?_
        refine lv_iload hx hb dX3_quickSort_49 (lv_at hl 5 rfl) ?_
        refine lv_iconst (v := nI 1) hx hb dX3_quickSort_51 (by decide) ?_
        refine lv_isub hx hb dX3_quickSort_52 ?_
        refine ox_to (y := nI (j - 1)) (pk_sub (by omega)) ?_
        refine ox_swp S hl.1 hK hX hR hcs hA hP hD hS (i := j) (j := j - 1) (by omega) (by omega) (Nat.le_of_ble_eq_true rfl) dX3_quickSort_53 (fun H locs hP hD hS => ?_)
        refine lv_iinc (v := nI (j - 1)) (lv' := [(6, .int (nI (j - 1))), (0, .int (nI f)), (1, .int (nI t)), (2, .ref r), (3, .ref r), (5, .int (nI i))]) hx hb dX3_quickSort_58 hl (k := 5) rfl (ox_dec (by omega)) (by decide) rfl (fun ls hl => ?_)
        refine lv_goto (tgt := 25) hx hb dX3_quickSort_61 (by decide) ?_
        exact ih (j - 1) (sq_sw z j (j - 1)) H locs ls (by omega) (by omega) (by omega) (hI.step h3 c1 c2) (hM.st (by omega) (by omega) (by omega) (by omega)) hP hD hS (lv_sub hl [1, 2, 3, 4, 5, 0] rfl)
set_option maxHeartbeats 4000000 in
set_option maxRecDepth 100000 in
theorem ox_quickSort_out (S : CallFix p m c cX3_quickSort 13 s args lw_all RX3) (hK : va_K (dC, dI) vwCl [(cA, .int)] s) (hX : dkX s) (hR : 1 ≤ R.frames ∧ 24 ≤ R.locals) (hcs : cells ≤ R.cells ∧ slots ≤ R.slots) (hA : ∀ q : Nat, H0.size ≤ q → A q) {f t : Nat} {z0 : sq_T} (ht : t ≤ 48)
    (kk : ∀ (z : sq_T) (H : Heap) (locs : List Loc) (ls : Array Slot), sq_Srt f t z0 z → va_P (dC, dI) vwCl (dkW r d a1 a2 cA z) H → va_D A (dkW r d a1 a2 cA z) → va_S A H0 H locs → W p l e R s m args below meth c H locs cells slots Q (F0 m 70 ls [])) :
    ∀ (n i : Nat) (z : sq_T) (H : Heap) (locs : List Loc) (ls : Array Slot), t < i + n → f ≤ i → i ≤ t → sq_So f i z → sq_Pm f t z0 z → va_P (dC, dI) vwCl (dkW r d a1 a2 cA z) H → va_D A (dkW r d a1 a2 cA z) → va_S A H0 H locs → lv_has ls 13 [(0, .int (nI f)), (1, .int (nI t)), (2, .ref r), (3, .ref r), (5, .int (nI i))] → W p l e R s m args below meth c H locs cells slots Q (F0 m 15 ls []) := by
  have hx := S.1
  have hb := S.2.1
  intro n
  induction n with
  | zero => intro i z H locs ls h1 h2 h3; omega
  | succ n ih =>
    intro i z H locs ls h1 h2 h3 hI hM hP hD hS hl
    refine lv_iload hx hb dX3_quickSort_15 (lv_at hl 4 rfl) ?_
    refine lv_iload_n hx hb dX3_quickSort_17 rfl (lv_at hl 1 rfl) ?_
    refine lv_icmp_ge (tgt := 70) hx hb dX3_quickSort_18 (by decide) (fun b1 => ?_) (fun b1 => ?_)
    · have c1 := (nI_leI (by omega) (by omega)).mp b1
      have e : i = t := by omega
      subst e
      exact kk z H locs ls ⟨hM, hI⟩ hP hD hS
    · have c1 : i < t := Nat.not_le.mp (fun h => b1 (nI_le h (by omega)))
      refine lv_iload hx hb dX3_quickSort_21 (lv_at hl 4 rfl) ?_
      refine lv_istore (lv' := [(6, .int (nI i)), (0, .int (nI f)), (1, .int (nI t)), (2, .ref r), (3, .ref r), (5, .int (nI i))]) hx hb dX3_quickSort_23 hl (by decide) rfl (fun ls hl => ?_)
      refine ox_quickSort_in S hK hX hR hcs hA ht c1 h2 (fun z H locs ls hI hM hP hD hS hl => ?_) (i + 1) i z H locs ls (by omega) h2 (Nat.le_refl i) (sq_Ins.start hI) hM hP hD hS (lv_sub hl [1, 2, 3, 4, 5, 0] rfl)
      refine lv_iinc (v := nI (i + 1)) (lv' := [(5, .int (nI (i + 1))), (0, .int (nI f)), (1, .int (nI t)), (2, .ref r), (3, .ref r)]) hx hb dX3_quickSort_64 hl (k := 4) rfl (ox_inc _) (by decide) rfl (fun ls hl => ?_)
      refine lv_goto (tgt := 15) hx hb dX3_quickSort_67 (by decide) ?_
      exact ih (i + 1) z H locs ls (by omega) (by omega) c1 hI hM hP hD hS (lv_sub hl [1, 2, 3, 4, 0] rfl)
end OXI
set_option maxHeartbeats 4000000 in
set_option maxRecDepth 100000 in
/-- swap: two blocks exchanged, place by place -/
theorem metX3_swap (l : Launch) (dC : Nat → ClassId) (dI : Nat → Nat → Nat) (r d a1 a2 : Nat) (cA : ClassId) (z : sq_T) (sz : Nat) {a b n0 : Nat} (ha : a + n0 ≤ 48) (hb : b + n0 ≤ 48) : dkMet l yX3_swap (ws_ yX3_swap cX3_swap 5 none) { frames := 1, cells := 0, slots := 0, locals := 24 } [.ref r, .int (nI a), .int (nI b), .int (nI n0)] dC dI r d a1 a2 cA z sz (fun u => u = sq_vs z a b n0) := by
  have ha0 := ha
  have hb0 := hb
  refine Met.ofW (cc := cX3_swap) (maxL := 5) (ret := none) (by decide) rfl ?_
  intro p e s m args below meth c s₁ B hml hv
  obtain ⟨rfl, hsz, hP, hK, hD0, hX⟩ := hv
  have hx := B.exec
  have hb := B.bytes
  have hr := B.returns
  have hts := atoms_spec (ws := ws_ yX3_swap cX3_swap 5 none) B.pre
  have hts : ∀ w ∈ lw_all, w.before _ s = true := fun w h => hts w (List.mem_cons_of_mem _ h)
  have hown : s.vm.findClass RX3 = some m.cls := findClass_of_methodNamed B.named
  have hlocks := B.notSynchronized
  subst hsz
  have hD := dkD.own hD0 s.heap.size
  have hA : ∀ q : Nat, s.heap.size ≤ q → dkA r d a1 a2 s.heap.size q := fun q h => Or.inr (Or.inr (Or.inr (Or.inr h)))
  have hS : va_S (dkA r d a1 a2 s.heap.size) s.heap s.heap [] := va_S.rf
  have hl := lv_entry ([.ref r, .int (nI a), .int (nI b), .int (nI n0)]) (n := 5) (Nat.le_of_ble_eq_true rfl)
  rw [lg_entry_eq]
  generalize (lg_sl ([.ref r, .int (nI a), .int (nI b), .int (nI n0)]) ++ List.replicate (5 - (lg_sl ([.ref r, .int (nI a), .int (nI b), .int (nI n0)])).length) Slot.unset).toArray = ls at hl ⊢
  have hl : lv_has ls 5 [(0, .ref r), (1, .int (nI a)), (2, .int (nI b)), (3, .int (nI n0))] := hl
  refine lv_iconst (v := nI 0) hx hb dX3_swap_0 (by decide) ?_
  refine lv_istore (lv' := [(4, .int (nI 0)), (0, .ref r), (1, .int (nI a)), (2, .int (nI b)), (3, .int (nI n0))]) hx hb dX3_swap_1 hl (by decide) rfl (fun ls hl => ?_)
  refine ox_vs_loop (u := sq_vs z a b n0) ⟨hx, hb, hml, hown, hts⟩ hK hX ⟨Nat.le_of_ble_eq_true rfl, Nat.le_of_ble_eq_true rfl⟩ ⟨Nat.zero_le _, Nat.zero_le _⟩ hA (by omega) (fun H locs ls hP hD hS => ?_) n0 z a b 0 s.heap [] ls (by omega) ha0 hb0 rfl hP hD hS (lv_sub hl [1, 2, 3, 4, 0] rfl)
  exact W.vret hx hb hr (fun t ht hW => ⟨⟨_, rfl, rfl, dk_end ht hP⟩, hS.F ht⟩) hS.2.2 dX3_swap_29
end
section
/-! OwnArrays.inPlaceMerge -/
/-- the room of a merge over fewer than n places -/
def mgR (n : Nat) : Room := { frames := 2 + n, cells := 0, slots := 0, locals := 64 + 32 * n }
section OXM
variable {p : Program} {l : Launch} {e : Env} {R : Room} {s : State} {m : MethodId} {args : Array Value} {below : List Frame} {meth : Method} {c : Code} {cells slots : Nat} {Q : State → Prop}
variable {dC : Nat → ClassId} {dI : Nat → Nat → Nat} {r d a1 a2 : Nat} {cA : ClassId} {A : Nat → Prop} {H0 : Heap}
set_option maxHeartbeats 4000000 in
set_option maxRecDepth 100000 in
theorem ox_rev_122 (S : CallFix p m c cX3_inPlaceMerge 12 s args lw_all RX3) (hK : va_K (dC, dI) vwCl [(cA, .int)] s) (hX : dkX s) (hR : 1 ≤ R.frames ∧ 24 ≤ R.locals) (hcs : cells ≤ R.cells ∧ slots ≤ R.slots) (hA : ∀ q : Nat, H0.size ≤ q → A q) {f k t fc sc : Nat} {u : sq_T}
    (kk : ∀ (H : Heap) (locs : List Loc) (ls : Array Slot), va_P (dC, dI) vwCl (dkW r d a1 a2 cA u) H → va_D A (dkW r d a1 a2 cA u) → va_S A H0 H locs → lv_has ls 12 [(0, .int (nI f)), (1, .int (nI k)), (2, .int (nI t)), (3, .ref r), (4, .ref r), (5, .int (nI fc)), (6, .int (nI sc)), (7, .int (nI fc)), (8, .int (nI k)), (9, .int (nI sc))] → W p l e R s m args below meth c H locs cells slots Q (F0 m 149 ls [])) :
    ∀ (n : Nat) (z : sq_T) (a b : Nat) (H : Heap) (locs : List Loc) (ls : Array Slot), b < n → a ≤ b → 1 ≤ b → b ≤ 48 → sq_rev z a b = u → va_P (dC, dI) vwCl (dkW r d a1 a2 cA z) H → va_D A (dkW r d a1 a2 cA z) → va_S A H0 H locs → lv_has ls 12 [(0, .int (nI f)), (1, .int (nI k)), (2, .int (nI t)), (3, .ref r), (4, .ref r), (5, .int (nI fc)), (6, .int (nI sc)), (7, .int (nI fc)), (8, .int (nI k)), (9, .int (nI sc)), (10, .int (nI a)), (11, .int (nI b))] → W p l e R s m args below meth c H locs cells slots Q (F0 m 122 ls []) := by
  have hx := S.1
  have hb := S.2.1
  intro n
  induction n with
  | zero => intro z a b H locs ls h1; omega
  | succ n ih =>
    intro z a b H locs ls h1 h2 h3 h4 hu hP hD hS hl
    refine lv_iload hx hb dX3_inPlaceMerge_122 (lv_at hl 10 rfl) ?_
    refine lv_iinc (v := nI (b - 1)) (lv' := [(11, .int (nI (b - 1))), (0, .int (nI f)), (1, .int (nI k)), (2, .int (nI t)), (3, .ref r), (4, .ref r), (5, .int (nI fc)), (6, .int (nI sc)), (7, .int (nI fc)), (8, .int (nI k)), (9, .int (nI sc)), (10, .int (nI a))]) hx hb dX3_inPlaceMerge_124 hl (k := 11) rfl (ox_dec (by omega)) (by decide) rfl (fun ls hl => ?_)
    refine lv_iload hx hb dX3_inPlaceMerge_127 (lv_at hl 0 rfl) ?_
    refine lv_icmp_ge (tgt := 149) hx hb dX3_inPlaceMerge_129 (by decide) (fun b1 => ?_) (fun b1 => ?_)
    · have c1 := (nI_leI (by omega) (by omega)).mp b1
      rw [sq_rev_0 (by omega)] at hu
      subst hu
      exact kk H locs ls hP hD hS (lv_sub hl [1, 2, 3, 4, 5, 6, 7, 8, 9, 10] rfl)
    · have c1 : a + 1 < b := by
        rcases Nat.lt_or_ge a (b - 1) with x | x
        · omega
        · exact absurd (nI_le x (by omega)) b1
      refine lv_aload hx hb dX3_inPlaceMerge_132 (lv_at hl 5 rfl) ?_
      refine lv_iload hx hb dX3_inPlaceMerge_134 (lv_at hl 11 rfl) ?_
      refine lv_iinc (v := nI (a + 1)) (lv' := [(10, .int (nI (a + 1))), (11, .int (nI (b - 1))), (0, .int (nI f)), (1, .int (nI k)), (2, .int (nI t)), (3, .ref r), (4, .ref r), (5, .int (nI fc)), (6, .int (nI sc)), (7, .int (nI fc)), (8, .int (nI k)), (9, .int (nI sc))]) hx hb dX3_inPlaceMerge_136 hl (k := 11) rfl (ox_inc _) (by decide) rfl (fun ls hl => ?_)
      refine lv_iload hx hb dX3_inPlaceMerge_139 (lv_at hl 1 rfl) ?_
      refine ox_swp S hl.1 hK hX hR hcs hA hP hD hS (i := a) (j := b - 1) (by omega) (by omega) (Nat.le_of_ble_eq_true rfl) dX3_inPlaceMerge_141 (fun H locs hP hD hS => ?_)
      refine lv_goto (tgt := 122) hx hb dX3_inPlaceMerge_146 (by decide) ?_
      exact ih (sq_sw z a (b - 1)) (a + 1) (b - 1) H locs ls (by omega) (by omega) (by omega) (by omega) (by rw [sq_rev_s c1]; exact hu) hP hD hS (lv_sub hl [2, 3, 4, 5, 6, 7, 8, 9, 10, 11, 0, 1] rfl)
set_option maxHeartbeats 4000000 in
set_option maxRecDepth 100000 in
theorem ox_rev_157 (S : CallFix p m c cX3_inPlaceMerge 12 s args lw_all RX3) (hK : va_K (dC, dI) vwCl [(cA, .int)] s) (hX : dkX s) (hR : 1 ≤ R.frames ∧ 24 ≤ R.locals) (hcs : cells ≤ R.cells ∧ slots ≤ R.slots) (hA : ∀ q : Nat, H0.size ≤ q → A q) {f k t fc sc : Nat} {u : sq_T}
    (kk : ∀ (H : Heap) (locs : List Loc) (ls : Array Slot), va_P (dC, dI) vwCl (dkW r d a1 a2 cA u) H → va_D A (dkW r d a1 a2 cA u) → va_S A H0 H locs → lv_has ls 12 [(0, .int (nI f)), (1, .int (nI k)), (2, .int (nI t)), (3, .ref r), (4, .ref r), (5, .int (nI fc)), (6, .int (nI sc)), (7, .int (nI fc)), (8, .int (nI k)), (9, .int (nI sc))] → W p l e R s m args below meth c H locs cells slots Q (F0 m 184 ls [])) :
    ∀ (n : Nat) (z : sq_T) (a b : Nat) (H : Heap) (locs : List Loc) (ls : Array Slot), b < n → a ≤ b → 1 ≤ b → b ≤ 48 → sq_rev z a b = u → va_P (dC, dI) vwCl (dkW r d a1 a2 cA z) H → va_D A (dkW r d a1 a2 cA z) → va_S A H0 H locs → lv_has ls 12 [(0, .int (nI f)), (1, .int (nI k)), (2, .int (nI t)), (3, .ref r), (4, .ref r), (5, .int (nI fc)), (6, .int (nI sc)), (7, .int (nI fc)), (8, .int (nI k)), (9, .int (nI sc)), (10, .int (nI a)), (11, .int (nI b))] → W p l e R s m args below meth c H locs cells slots Q (F0 m 157 ls []) := by
  have hx := S.1
  have hb := S.2.1
  intro n
  induction n with
  | zero => intro z a b H locs ls h1; omega
  | succ n ih =>
    intro z a b H locs ls h1 h2 h3 h4 hu hP hD hS hl
    refine lv_iload hx hb dX3_inPlaceMerge_157 (lv_at hl 10 rfl) ?_
    refine lv_iinc (v := nI (b - 1)) (lv' := [(11, .int (nI (b - 1))), (0, .int (nI f)), (1, .int (nI k)), (2, .int (nI t)), (3, .ref r), (4, .ref r), (5, .int (nI fc)), (6, .int (nI sc)), (7, .int (nI fc)), (8, .int (nI k)), (9, .int (nI sc)), (10, .int (nI a))]) hx hb dX3_inPlaceMerge_159 hl (k := 11) rfl (ox_dec (by omega)) (by decide) rfl (fun ls hl => ?_)
    refine lv_iload hx hb dX3_inPlaceMerge_162 (lv_at hl 0 rfl) ?_
    refine lv_icmp_ge (tgt := 184) hx hb dX3_inPlaceMerge_164 (by decide) (fun b1 => ?_) (fun b1 => ?_)
    · have c1 := (nI_leI (by omega) (by omega)).mp b1
      rw [sq_rev_0 (by omega)] at hu
      subst hu
      exact kk H locs ls hP hD hS (lv_sub hl [1, 2, 3, 4, 5, 6, 7, 8, 9, 10] rfl)
    · have c1 : a + 1 < b := by
        rcases Nat.lt_or_ge a (b - 1) with x | x
        · omega
        · exact absurd (nI_le x (by omega)) b1
      refine lv_aload hx hb dX3_inPlaceMerge_167 (lv_at hl 5 rfl) ?_
      refine lv_iload hx hb dX3_inPlaceMerge_169 (lv_at hl 11 rfl) ?_
      refine lv_iinc (v := nI (a + 1)) (lv' := [(10, .int (nI (a + 1))), (11, .int (nI (b - 1))), (0, .int (nI f)), (1, .int (nI k)), (2, .int (nI t)), (3, .ref r), (4, .ref r), (5, .int (nI fc)), (6, .int (nI sc)), (7, .int (nI fc)), (8, .int (nI k)), (9, .int (nI sc))]) hx hb dX3_inPlaceMerge_171 hl (k := 11) rfl (ox_inc _) (by decide) rfl (fun ls hl => ?_)
      refine lv_iload hx hb dX3_inPlaceMerge_174 (lv_at hl 1 rfl) ?_
      refine ox_swp S hl.1 hK hX hR hcs hA hP hD hS (i := a) (j := b - 1) (by omega) (by omega) (Nat.le_of_ble_eq_true rfl) dX3_inPlaceMerge_176 (fun H locs hP hD hS => ?_)
      refine lv_goto (tgt := 157) hx hb dX3_inPlaceMerge_181 (by decide) ?_
      exact ih (sq_sw z a (b - 1)) (a + 1) (b - 1) H locs ls (by omega) (by omega) (by omega) (by omega) (by rw [sq_rev_s c1]; exact hu) hP hD hS (lv_sub hl [2, 3, 4, 5, 6, 7, 8, 9, 10, 11, 0, 1] rfl)
set_option maxHeartbeats 4000000 in
set_option maxRecDepth 100000 in
theorem ox_rev_192 (S : CallFix p m c cX3_inPlaceMerge 12 s args lw_all RX3) (hK : va_K (dC, dI) vwCl [(cA, .int)] s) (hX : dkX s) (hR : 1 ≤ R.frames ∧ 24 ≤ R.locals) (hcs : cells ≤ R.cells ∧ slots ≤ R.slots) (hA : ∀ q : Nat, H0.size ≤ q → A q) {f k t fc sc : Nat} {u : sq_T}
    (kk : ∀ (H : Heap) (locs : List Loc) (ls : Array Slot), va_P (dC, dI) vwCl (dkW r d a1 a2 cA u) H → va_D A (dkW r d a1 a2 cA u) → va_S A H0 H locs → lv_has ls 12 [(0, .int (nI f)), (1, .int (nI k)), (2, .int (nI t)), (3, .ref r), (4, .ref r), (5, .int (nI fc)), (6, .int (nI sc)), (7, .int (nI fc)), (8, .int (nI k)), (9, .int (nI sc))] → W p l e R s m args below meth c H locs cells slots Q (F0 m 219 ls [])) :
    ∀ (n : Nat) (z : sq_T) (a b : Nat) (H : Heap) (locs : List Loc) (ls : Array Slot), b < n → a ≤ b → 1 ≤ b → b ≤ 48 → sq_rev z a b = u → va_P (dC, dI) vwCl (dkW r d a1 a2 cA z) H → va_D A (dkW r d a1 a2 cA z) → va_S A H0 H locs → lv_has ls 12 [(0, .int (nI f)), (1, .int (nI k)), (2, .int (nI t)), (3, .ref r), (4, .ref r), (5, .int (nI fc)), (6, .int (nI sc)), (7, .int (nI fc)), (8, .int (nI k)), (9, .int (nI sc)), (10, .int (nI a)), (11, .int (nI b))] → W p l e R s m args below meth c H locs cells slots Q (F0 m 192 ls []) := by
  have hx := S.1
  have hb := S.2.1
  intro n
  induction n with
  | zero => intro z a b H locs ls h1; omega
  | succ n ih =>
    intro z a b H locs ls h1 h2 h3 h4 hu hP hD hS hl
    refine lv_iload hx hb dX3_inPlaceMerge_192 (lv_at hl 10 rfl) ?_
    refine lv_iinc (v := nI (b - 1)) (lv' := [(11, .int (nI (b - 1))), (0, .int (nI f)), (1, .int (nI k)), (2, .int (nI t)), (3, .ref r), (4, .ref r), (5, .int (nI fc)), (6, .int (nI sc)), (7, .int (nI fc)), (8, .int (nI k)), (9, .int (nI sc)), (10, .int (nI a))]) hx hb dX3_inPlaceMerge_194 hl (k := 11) rfl (ox_dec (by omega)) (by decide) rfl (fun ls hl => ?_)
    refine lv_iload hx hb dX3_inPlaceMerge_197 (lv_at hl 0 rfl) ?_
    refine lv_icmp_ge (tgt := 219) hx hb dX3_inPlaceMerge_199 (by decide) (fun b1 => ?_) (fun b1 => ?_)
    · have c1 := (nI_leI (by omega) (by omega)).mp b1
      rw [sq_rev_0 (by omega)] at hu
      subst hu
      exact kk H locs ls hP hD hS (lv_sub hl [1, 2, 3, 4, 5, 6, 7, 8, 9, 10] rfl)
    · have c1 : a + 1 < b := by
        rcases Nat.lt_or_ge a (b - 1) with x | x
        · omega
        · exact absurd (nI_le x (by omega)) b1
      refine lv_aload hx hb dX3_inPlaceMerge_202 (lv_at hl 5 rfl) ?_
      refine lv_iload hx hb dX3_inPlaceMerge_204 (lv_at hl 11 rfl) ?_
      refine lv_iinc (v := nI (a + 1)) (lv' := [(10, .int (nI (a + 1))), (11, .int (nI (b - 1))), (0, .int (nI f)), (1, .int (nI k)), (2, .int (nI t)), (3, .ref r), (4, .ref r), (5, .int (nI fc)), (6, .int (nI sc)), (7, .int (nI fc)), (8, .int (nI k)), (9, .int (nI sc))]) hx hb dX3_inPlaceMerge_206 hl (k := 11) rfl (ox_inc _) (by decide) rfl (fun ls hl => ?_)
      refine lv_iload hx hb dX3_inPlaceMerge_209 (lv_at hl 1 rfl) ?_
      refine ox_swp S hl.1 hK hX hR hcs hA hP hD hS (i := a) (j := b - 1) (by omega) (by omega) (Nat.le_of_ble_eq_true rfl) dX3_inPlaceMerge_211 (fun H locs hP hD hS => ?_)
      refine lv_goto (tgt := 192) hx hb dX3_inPlaceMerge_216 (by decide) ?_
      exact ih (sq_sw z a (b - 1)) (a + 1) (b - 1) H locs ls (by omega) (by omega) (by omega) (by omega) (by rw [sq_rev_s c1]; exact hu) hP hD hS (lv_sub hl [2, 3, 4, 5, 6, 7, 8, 9, 10, 11, 0, 1] rfl)
theorem ox_cwM {n : Nat} (hts : ∀ w ∈ lw_all, w.before args s = true) (hR2 : n + 3 ≤ R.frames ∧ 96 + 32 * n ≤ R.locals) : CallB R s args RX3 22 yX3_inPlaceMerge cX3_inPlaceMerge 12 none (ws_ yX3_inPlaceMerge cX3_inPlaceMerge 12 none) (mgR n) 0 0 5 ∧ (Cond.static yX3_inPlaceMerge).before args s = true :=
  va_cwS 5 hts (lw_S q100 q101 q5 q102) rfl rfl rfl (by decide +kernel) ⟨by show 2 + n + 1 ≤ R.frames; omega, by show 8 + (12 + 11) + (64 + 32 * n) ≤ R.locals; omega⟩
set_option maxHeartbeats 4000000 in
set_option maxRecDepth 100000 in
theorem ox_mg_219 (S : CallFix p m c cX3_inPlaceMerge 12 s args lw_all RX3) (hK : va_K (dC, dI) vwCl [(cA, .int)] s) (hX : dkX s) (hR : 1 ≤ R.frames ∧ 24 ≤ R.locals) (hcs : cells ≤ R.cells ∧ slots ≤ R.slots) (hA : ∀ q : Nat, H0.size ≤ q → A q) {n f k t fc sc : Nat} (hR2 : n + 3 ≤ R.frames ∧ 96 + 32 * n ≤ R.locals) (ih : ∀ (z : sq_T) (sz f k t : Nat), t < f + n → f ≤ k → k ≤ t → t ≤ 48 → sq_So f k z → sq_So k t z → dkMet l yX3_inPlaceMerge (ws_ yX3_inPlaceMerge cX3_inPlaceMerge 12 none) (mgR n) [.int (nI f), .int (nI k), .int (nI t), .ref r, .ref r] dC dI r d a1 a2 cA z sz (fun u => sq_Srt f t z u)) {z0 : sq_T} (ht : t ≤ 48) (hn : t < f + (n + 1)) (hC : sq_Cut f fc k sc t z0) (s1 : sq_So f k z0) (s2 : sq_So k t z0) (hm1 : f < fc + (sc - k)) (hm2 : fc + (sc - k) < t)
    (kk : ∀ (u : sq_T) (H : Heap) (locs : List Loc) (ls : Array Slot), sq_Srt f t z0 u → va_P (dC, dI) vwCl (dkW r d a1 a2 cA u) H → va_D A (dkW r d a1 a2 cA u) → va_S A H0 H locs → W p l e R s m args below meth c H locs cells slots Q (F0 m 247 ls []))
    (w : sq_T) (H : Heap) (locs : List Loc) (ls : Array Slot) (hw : sq_Rt fc k sc z0 w) (hp : sq_Pm f t z0 w) (hP : va_P (dC, dI) vwCl (dkW r d a1 a2 cA w) H) (hD : va_D A (dkW r d a1 a2 cA w)) (hS : va_S A H0 H locs) (hl : lv_has ls 12 [(0, .int (nI f)), (1, .int (nI k)), (2, .int (nI t)), (3, .ref r), (4, .ref r), (5, .int (nI fc)), (6, .int (nI sc))]) : W p l e R s m args below meth c H locs cells slots Q (F0 m 219 ls []) := by
  have hx := S.1
  have hb := S.2.1
  have hts := S.2.2.2.2
  obtain ⟨g1, g2, g3, g4, v, v1, v2⟩ := hC.half hw s1 s2
  have hC1 := hC.1
  have hC2 := hC.2.1
  have hC3 := hC.2.2.1
  have hC4 := hC.2.2.2.1
  refine lv_iload hx hb dX3_inPlaceMerge_219 (lv_at hl 5 rfl) ?_
  refine lv_iload hx hb dX3_inPlaceMerge_221 (lv_at hl 6 rfl) ?_
  refine lv_iload_n hx hb dX3_inPlaceMerge_223 rfl (lv_at hl 1 rfl) ?_
  refine lv_isub hx hb dX3_inPlaceMerge_224 ?_
  refine ox_to (y := nI (sc - k)) (pk_sub (by omega)) ?_
  refine lv_iadd hx hb dX3_inPlaceMerge_225 ?_
  refine ox_to (y := nI (fc + (sc - k))) (nI_add _ _) ?_
  refine lv_istore_n (lv' := [(1, .int (nI (fc + (sc - k)))), (0, .int (nI f)), (2, .int (nI t)), (3, .ref r), (4, .ref r), (5, .int (nI fc)), (6, .int (nI sc))]) hx hb dX3_inPlaceMerge_226 rfl hl (by decide) rfl (fun ls hl => ?_)
  refine lv_iload_n hx hb dX3_inPlaceMerge_227 rfl (lv_at hl 1 rfl) ?_
  refine lv_iload hx hb dX3_inPlaceMerge_228 (lv_at hl 5 rfl) ?_
  refine lv_iload_n hx hb dX3_inPlaceMerge_230 rfl (lv_at hl 0 rfl) ?_
  refine lv_aload_n hx hb dX3_inPlaceMerge_231 rfl (lv_at hl 3 rfl) ?_
  refine lv_aload hx hb dX3_inPlaceMerge_232 (lv_at hl 4 rfl) ?_
  refine ox_wr S hl.1 hK hX hcs hA hP hD hS (rest := []) [.int (nI (f)), .int (nI (fc)), .int (nI (fc + (sc - k))), .ref r, .ref r] (ih _ H.size (f) (fc) (fc + (sc - k)) (by omega) (by omega) (by omega) (by omega) g1 g2) (ox_cwM hts hR2) rfl rfl (Nat.le_of_ble_eq_true rfl) dX3_inPlaceMerge_234 (fun w1 H locs hw1 hP hD hS => ?_)
  refine lv_iload_n hx hb dX3_inPlaceMerge_237 rfl (lv_at hl 0 rfl) ?_
  refine lv_iload hx hb dX3_inPlaceMerge_238 (lv_at hl 6 rfl) ?_
  refine lv_iload_n hx hb dX3_inPlaceMerge_240 rfl (lv_at hl 2 rfl) ?_
  refine lv_aload_n hx hb dX3_inPlaceMerge_241 rfl (lv_at hl 3 rfl) ?_
  refine lv_aload hx hb dX3_inPlaceMerge_242 (lv_at hl 4 rfl) ?_
  refine ox_wr S hl.1 hK hX hcs hA hP hD hS (rest := []) [.int (nI (fc + (sc - k))), .int (nI (sc)), .int (nI (t)), .ref r, .ref r] (ih _ H.size (fc + (sc - k)) (sc) (t) (by omega) (by omega) (by omega) (by omega) (g3.eq (fun q x y => hw1.1.out (by omega))) (g4.eq (fun q x y => hw1.1.out (by omega)))) (ox_cwM hts hR2) rfl rfl (Nat.le_of_ble_eq_true rfl) dX3_inPlaceMerge_244 (fun w2 H locs hw2 hP hD hS => ?_)
  have hj := sq_join2 (by omega) (by omega) v1 v2 hw1 hw2
  exact kk w2 H locs ls ⟨hp.tr hj.1, hj.2⟩ hP hD hS
set_option maxHeartbeats 4000000 in
set_option maxRecDepth 100000 in
theorem ox_mg_89 (S : CallFix p m c cX3_inPlaceMerge 12 s args lw_all RX3) (hK : va_K (dC, dI) vwCl [(cA, .int)] s) (hX : dkX s) (hR : 1 ≤ R.frames ∧ 24 ≤ R.locals) (hcs : cells ≤ R.cells ∧ slots ≤ R.slots) (hA : ∀ q : Nat, H0.size ≤ q → A q) {n f k t fc sc : Nat} (hR2 : n + 3 ≤ R.frames ∧ 96 + 32 * n ≤ R.locals) (ih : ∀ (z : sq_T) (sz f k t : Nat), t < f + n → f ≤ k → k ≤ t → t ≤ 48 → sq_So f k z → sq_So k t z → dkMet l yX3_inPlaceMerge (ws_ yX3_inPlaceMerge cX3_inPlaceMerge 12 none) (mgR n) [.int (nI f), .int (nI k), .int (nI t), .ref r, .ref r] dC dI r d a1 a2 cA z sz (fun u => sq_Srt f t z u)) {z0 : sq_T} (ht : t ≤ 48) (hn : t < f + (n + 1)) (hC : sq_Cut f fc k sc t z0) (s1 : sq_So f k z0) (s2 : sq_So k t z0) (hm1 : f < fc + (sc - k)) (hm2 : fc + (sc - k) < t)
    (kk : ∀ (u : sq_T) (H : Heap) (locs : List Loc) (ls : Array Slot), sq_Srt f t z0 u → va_P (dC, dI) vwCl (dkW r d a1 a2 cA u) H → va_D A (dkW r d a1 a2 cA u) → va_S A H0 H locs → W p l e R s m args below meth c H locs cells slots Q (F0 m 247 ls []))
    (H : Heap) (locs : List Loc) (ls : Array Slot) (hP : va_P (dC, dI) vwCl (dkW r d a1 a2 cA z0) H) (hD : va_D A (dkW r d a1 a2 cA z0)) (hS : va_S A H0 H locs) (hl : lv_has ls 12 [(0, .int (nI f)), (1, .int (nI k)), (2, .int (nI t)), (3, .ref r), (4, .ref r), (5, .int (nI fc)), (6, .int (nI sc))]) : W p l e R s m args below meth c H locs cells slots Q (F0 m 89 ls []) := by
  have hx := S.1
  have hb := S.2.1
  have hC1 := hC.1
  have hC2 := hC.2.1
  have hC3 := hC.2.2.1
  have hC4 := hC.2.2.2.1
  refine lv_iload hx hb dX3_inPlaceMerge_89 (lv_at hl 5 rfl) ?_
  refine lv_istore (lv' := [(7, .int (nI fc)), (0, .int (nI f)), (1, .int (nI k)), (2, .int (nI t)), (3, .ref r), (4, .ref r), (5, .int (nI fc)), (6, .int (nI sc))]) hx hb dX3_inPlaceMerge_91 hl (by decide) rfl (fun ls hl => ?_)
  refine lv_iload_n hx hb dX3_inPlaceMerge_93 rfl (lv_at hl 2 rfl) ?_
  refine lv_istore (lv' := [(8, .int (nI k)), (7, .int (nI fc)), (0, .int (nI f)), (1, .int (nI k)), (2, .int (nI t)), (3, .ref r), (4, .ref r), (5, .int (nI fc)), (6, .int (nI sc))]) hx hb dX3_inPlaceMerge_94 hl (by decide) rfl (fun ls hl => ?_)
  refine lv_iload hx hb dX3_inPlaceMerge_96 (lv_at hl 8 rfl) ?_
  refine lv_istore (lv' := [(9, .int (nI sc)), (8, .int (nI k)), (7, .int (nI fc)), (0, .int (nI f)), (1, .int (nI k)), (2, .int (nI t)), (3, .ref r), (4, .ref r), (5, .int (nI fc)), (6, .int (nI sc))]) hx hb dX3_inPlaceMerge_98 hl (by decide) rfl (fun ls hl => ?_)
  refine lv_iload hx hb dX3_inPlaceMerge_100 (lv_at hl 1 rfl) ?_
  refine lv_iload hx hb dX3_inPlaceMerge_102 (lv_at hl 2 rfl) ?_
  refine lv_icmp_eq (tgt := 219) hx hb dX3_inPlaceMerge_104 (by decide) (fun b1 => ?_) (fun b1 => ?_)
  · have c1 : k = fc := (nI_eq (by omega) (by omega)).mp b1
    exact ox_mg_219 S hK hX hR hcs hA hR2 ih ht hn hC s1 s2 hm1 hm2 kk z0 H locs ls (sq_Rt.no hC2 hC3 (Or.inl c1.symm)) sq_Pm.rf hP hD hS (lv_sub hl [3, 4, 5, 6, 7, 8, 9] rfl)
  · have c1 : ¬ k = fc := fun h => b1 (by rw [h])
    refine lv_iload hx hb dX3_inPlaceMerge_107 (lv_at hl 1 rfl) ?_
    refine lv_iload hx hb dX3_inPlaceMerge_109 (lv_at hl 0 rfl) ?_
    refine lv_icmp_eq (tgt := 219) hx hb dX3_inPlaceMerge_111 (by decide) (fun b2 => ?_) (fun b2 => ?_)
    · have c2 : k = sc := (nI_eq (by omega) (by omega)).mp b2
      exact ox_mg_219 S hK hX hR hcs hA hR2 ih ht hn hC s1 s2 hm1 hm2 kk z0 H locs ls (sq_Rt.no hC2 hC3 (Or.inr c2)) sq_Pm.rf hP hD hS (lv_sub hl [3, 4, 5, 6, 7, 8, 9] rfl)
    · have c2 : ¬ k = sc := fun h => b2 (by rw [h])
      refine lv_iload hx hb dX3_inPlaceMerge_114 (lv_at hl 2 rfl) ?_
      refine lv_istore (lv' := [(10, .int (nI fc)), (9, .int (nI sc)), (8, .int (nI k)), (7, .int (nI fc)), (0, .int (nI f)), (1, .int (nI k)), (2, .int (nI t)), (3, .ref r), (4, .ref r), (5, .int (nI fc)), (6, .int (nI sc))]) hx hb dX3_inPlaceMerge_116 hl (by decide) rfl (fun ls hl => ?_)
      refine lv_iload hx hb dX3_inPlaceMerge_118 (lv_at hl 2 rfl) ?_
      refine lv_istore (lv' := [(11, .int (nI k)), (10, .int (nI fc)), (9, .int (nI sc)), (8, .int (nI k)), (7, .int (nI fc)), (0, .int (nI f)), (1, .int (nI k)), (2, .int (nI t)), (3, .ref r), (4, .ref r), (5, .int (nI fc)), (6, .int (nI sc))]) hx hb dX3_inPlaceMerge_120 hl (by decide) rfl (fun ls hl => ?_)
      refine ox_rev_122 (u := sq_rev (z0) fc k) S hK hX hR hcs hA (fun H locs ls hP hD hS hl => ?_) (k + 1) (z0) fc k H locs ls (by omega) (by omega) (by omega) (by omega) rfl hP hD hS (lv_sub hl [5, 6, 7, 8, 9, 10, 11, 4, 3, 2, 1, 0] rfl)
      refine lv_iload hx hb dX3_inPlaceMerge_149 (lv_at hl 8 rfl) ?_
      refine lv_istore (lv' := [(10, .int (nI k)), (0, .int (nI f)), (1, .int (nI k)), (2, .int (nI t)), (3, .ref r), (4, .ref r), (5, .int (nI fc)), (6, .int (nI sc)), (7, .int (nI fc)), (8, .int (nI k)), (9, .int (nI sc))]) hx hb dX3_inPlaceMerge_151 hl (by decide) rfl (fun ls hl => ?_)
      refine lv_iload hx hb dX3_inPlaceMerge_153 (lv_at hl 10 rfl) ?_
      refine lv_istore (lv' := [(11, .int (nI sc)), (10, .int (nI k)), (0, .int (nI f)), (1, .int (nI k)), (2, .int (nI t)), (3, .ref r), (4, .ref r), (5, .int (nI fc)), (6, .int (nI sc)), (7, .int (nI fc)), (8, .int (nI k)), (9, .int (nI sc))]) hx hb dX3_inPlaceMerge_155 hl (by decide) rfl (fun ls hl => ?_)
      refine ox_rev_157 (u := sq_rev (sq_rev z0 fc k) k sc) S hK hX hR hcs hA (fun H locs ls hP hD hS hl => ?_) (sc + 1) (sq_rev z0 fc k) k sc H locs ls (by omega) (by omega) (by omega) (by omega) rfl hP hD hS (lv_sub hl [2, 3, 4, 5, 6, 7, 8, 9, 10, 11, 1, 0] rfl)
      refine lv_iload hx hb dX3_inPlaceMerge_184 (lv_at hl 7 rfl) ?_
      refine lv_istore (lv' := [(10, .int (nI fc)), (0, .int (nI f)), (1, .int (nI k)), (2, .int (nI t)), (3, .ref r), (4, .ref r), (5, .int (nI fc)), (6, .int (nI sc)), (7, .int (nI fc)), (8, .int (nI k)), (9, .int (nI sc))]) hx hb dX3_inPlaceMerge_186 hl (by decide) rfl (fun ls hl => ?_)
      refine lv_iload hx hb dX3_inPlaceMerge_188 (lv_at hl 10 rfl) ?_
      refine lv_istore (lv' := [(11, .int (nI sc)), (10, .int (nI fc)), (0, .int (nI f)), (1, .int (nI k)), (2, .int (nI t)), (3, .ref r), (4, .ref r), (5, .int (nI fc)), (6, .int (nI sc)), (7, .int (nI fc)), (8, .int (nI k)), (9, .int (nI sc))]) hx hb dX3_inPlaceMerge_190 hl (by decide) rfl (fun ls hl => ?_)
      refine ox_rev_192 (u := sq_rev (sq_rev (sq_rev z0 fc k) k sc) fc sc) S hK hX hR hcs hA (fun H locs ls hP hD hS hl => ?_) (sc + 1) (sq_rev (sq_rev z0 fc k) k sc) fc sc H locs ls (by omega) (by omega) (by omega) (by omega) rfl hP hD hS (lv_sub hl [2, 3, 4, 5, 6, 7, 8, 9, 10, 11, 1, 0] rfl)
      have p1 : sq_Pm f t z0 (sq_rev z0 fc k) := sq_rev_Pm 48 _ _ _ (by omega) (by omega) (by omega)
      have p2 : sq_Pm f t (sq_rev z0 fc k) (sq_rev (sq_rev z0 fc k) k sc) := sq_rev_Pm 48 _ _ _ (by omega) (by omega) (by omega)
      have p3 : sq_Pm f t (sq_rev (sq_rev z0 fc k) k sc) (sq_rev (sq_rev (sq_rev z0 fc k) k sc) fc sc) := sq_rev_Pm 48 _ _ _ (by omega) (by omega) (by omega)
      exact ox_mg_219 S hK hX hR hcs hA hR2 ih ht hn hC s1 s2 hm1 hm2 kk _ H locs ls (sq_Rt.of hC2 hC3) ((p1.tr p2).tr p3) hP hD hS (lv_sub hl [0, 1, 2, 3, 4, 5, 6] rfl)
end OXM
set_option maxHeartbeats 4000000 in
set_option maxRecDepth 100000 in
/-- inPlaceMerge: two neighbouring ranges in order become one -/
theorem metX3_inPlaceMerge (l : Launch) (dC : Nat → ClassId) (dI : Nat → Nat → Nat) (r d a1 a2 : Nat) (cA : ClassId) : ∀ n : Nat, ∀ (z : sq_T) (sz f k t : Nat), t < f + n → f ≤ k → k ≤ t → t ≤ 48 → sq_So f k z → sq_So k t z → dkMet l yX3_inPlaceMerge (ws_ yX3_inPlaceMerge cX3_inPlaceMerge 12 none) (mgR n) [.int (nI f), .int (nI k), .int (nI t), .ref r, .ref r] dC dI r d a1 a2 cA z sz (fun u => sq_Srt f t z u) := by
  intro n
  induction n with
  | zero => intro z sz f k t h1; omega
  | succ n ih =>
  intro z sz f k t hn hfk hkt ht s1 s2
  refine Met.ofW (cc := cX3_inPlaceMerge) (maxL := 12) (ret := none) (by decide) rfl ?_
  intro p e s m args below meth c s₁ B hml hv
  obtain ⟨rfl, hsz, hP, hK, hD0, hX⟩ := hv
  have hx := B.exec
  have hb := B.bytes
  have hr := B.returns
  have hts := atoms_spec (ws := ws_ yX3_inPlaceMerge cX3_inPlaceMerge 12 none) B.pre
  have hts : ∀ w ∈ lw_all, w.before _ s = true := fun w h => hts w (List.mem_cons_of_mem _ h)
  have hown : s.vm.findClass RX3 = some m.cls := findClass_of_methodNamed B.named
  have hlocks := B.notSynchronized
  subst hsz
  have hD := dkD.own hD0 s.heap.size
  have hA : ∀ q : Nat, s.heap.size ≤ q → dkA r d a1 a2 s.heap.size q := fun q h => Or.inr (Or.inr (Or.inr (Or.inr h)))
  have hS : va_S (dkA r d a1 a2 s.heap.size) s.heap s.heap [] := va_S.rf
  have hl := lv_entry ([.int (nI f), .int (nI k), .int (nI t), .ref r, .ref r]) (n := 12) (Nat.le_of_ble_eq_true rfl)
  rw [lg_entry_eq]
  generalize (lg_sl ([.int (nI f), .int (nI k), .int (nI t), .ref r, .ref r]) ++ List.replicate (12 - (lg_sl ([.int (nI f), .int (nI k), .int (nI t), .ref r, .ref r])).length) Slot.unset).toArray = ls at hl ⊢
  have hl : lv_has ls 12 [(0, .int (nI f)), (1, .int (nI k)), (2, .int (nI t)), (3, .ref r), (4, .ref r)] := hl
  generalize hRm : (headSpec (ws_ yX3_inPlaceMerge cX3_inPlaceMerge 12 none) (mgR (n + 1))).room = R
  have hRf : R.frames = 2 + (n + 1) := by rw [← hRm]; rfl
  have hRl : R.locals = 64 + 32 * (n + 1) := by rw [← hRm]; rfl
  have hR : 1 ≤ R.frames ∧ 24 ≤ R.locals := ⟨by omega, by omega⟩
  have hcs : 0 ≤ R.cells ∧ 0 ≤ R.slots := ⟨Nat.zero_le _, Nat.zero_le _⟩
  have hR2 : n + 3 ≤ R.frames ∧ 96 + 32 * n ≤ R.locals := ⟨by omega, by omega⟩
  have S : CallFix p m c cX3_inPlaceMerge 12 s _ lw_all RX3 := ⟨hx, hb, hml, hown, hts⟩
  refine lv_iload_n hx hb dX3_inPlaceMerge_0 rfl (lv_at hl 0 rfl) ?_
  refine lv_iload_n hx hb dX3_inPlaceMerge_1 rfl (lv_at hl 1 rfl) ?_
  refine lv_icmp_ge (tgt := 10) hx hb dX3_inPlaceMerge_2 (by decide) (fun b1 => ?_) (fun b1 => ?_)
  · have c1 := (nI_leI (by omega) (by omega)).mp b1
    have e : k = f := by omega
    subst e
    exact W.vret hx hb hr (fun t ht hW => ⟨⟨z, rfl, ⟨sq_Pm.rf, s2⟩, dk_end ht hP⟩, hS.F ht⟩) hS.2.2 dX3_inPlaceMerge_10
  · have c1 : f < k := Nat.not_le.mp (fun h => b1 (nI_le h (by omega)))
    refine lv_iload_n hx hb dX3_inPlaceMerge_5 rfl (lv_at hl 1 rfl) ?_
    refine lv_iload_n hx hb dX3_inPlaceMerge_6 rfl (lv_at hl 2 rfl) ?_
    refine lv_icmp_lt (tgt := 11) hx hb dX3_inPlaceMerge_7 (by decide) (fun b2 => ?_) (fun b2 => ?_)
    · have c2 : k < t := (nI_ltI (by omega) (by omega)).mp b2
      refine lv_iload_n hx hb dX3_inPlaceMerge_11 rfl (lv_at hl 2 rfl) ?_
      refine lv_iload_n hx hb dX3_inPlaceMerge_12 rfl (lv_at hl 0 rfl) ?_
      refine lv_isub hx hb dX3_inPlaceMerge_13 ?_
      refine ox_to (y := nI (t - f)) (pk_sub (by omega)) ?_
      refine lv_iconst (v := nI 2) hx hb dX3_inPlaceMerge_14 (by decide) ?_
      refine lv_icmp_ne (tgt := 39) hx hb dX3_inPlaceMerge_15 (by decide) (fun b3 => ?_) (fun b3 => ?_)
      · have c3 : ¬ t - f = 2 := fun h => b3 (by rw [h])
        refine lv_iload_n hx hb dX3_inPlaceMerge_39 rfl (lv_at hl 1 rfl) ?_
        refine lv_iload_n hx hb dX3_inPlaceMerge_40 rfl (lv_at hl 0 rfl) ?_
        refine lv_isub hx hb dX3_inPlaceMerge_41 ?_
        refine ox_to (y := nI (k - f)) (pk_sub (by omega)) ?_
        refine lv_iload_n hx hb dX3_inPlaceMerge_42 rfl (lv_at hl 2 rfl) ?_
        refine lv_iload_n hx hb dX3_inPlaceMerge_43 rfl (lv_at hl 1 rfl) ?_
        refine lv_isub hx hb dX3_inPlaceMerge_44 ?_
        refine ox_to (y := nI (t - k)) (pk_sub (by omega)) ?_
        refine lv_icmp_le (tgt := 70) hx hb dX3_inPlaceMerge_45 (by decide) (fun b4 => ?_) (fun b4 => ?_)
        · have c4 := (nI_leI (by omega) (by omega)).mp b4
          obtain ⟨sc, hsc⟩ : ∃ sc, sc = k + (t - k) / 2 := ⟨_, rfl⟩
          refine lv_iload_n hx hb dX3_inPlaceMerge_70 rfl (lv_at hl 1 rfl) ?_
          refine lv_iload_n hx hb dX3_inPlaceMerge_71 rfl (lv_at hl 2 rfl) ?_
          refine lv_iload_n hx hb dX3_inPlaceMerge_72 rfl (lv_at hl 1 rfl) ?_
          refine lv_isub hx hb dX3_inPlaceMerge_73 ?_
          refine ox_to (y := nI (t - k)) (pk_sub (by omega)) ?_
          refine lv_iconst (v := nI 2) hx hb dX3_inPlaceMerge_74 (by decide) ?_
          refine lv_idiv hx hb dX3_inPlaceMerge_75 (by decide) ?_
          refine ox_to (y := nI ((t - k) / 2)) (pk_div (by omega) (by omega) (by omega)) ?_
          refine lv_iadd hx hb dX3_inPlaceMerge_76 ?_
          refine ox_to (y := nI sc) ((nI_add _ _).trans (by rw [← hsc])) ?_
          refine lv_istore (lv' := [(6, .int (nI sc)), (0, .int (nI f)), (1, .int (nI k)), (2, .int (nI t)), (3, .ref r), (4, .ref r)]) hx hb dX3_inPlaceMerge_77 hl (by decide) rfl (fun ls hl => ?_)
          refine lv_iload_n hx hb dX3_inPlaceMerge_79 rfl (lv_at hl 1 rfl) ?_
          refine lv_iload_n hx hb dX3_inPlaceMerge_80 rfl (lv_at hl 2 rfl) ?_
          refine lv_iload hx hb dX3_inPlaceMerge_81 (lv_at hl 0 rfl) ?_
          refine lv_aload_n hx hb dX3_inPlaceMerge_83 rfl (lv_at hl 4 rfl) ?_
          refine ox_rd S hl.1 hK hX hcs hP hD (rest := []) [.int (nI f), .int (nI k), .int (nI sc), .ref r] (metX3_upperBound l dC dI r d a1 a2 cA z s.heap.size (f0 := f) (t0 := k) (p0 := sc) (by omega) (by omega) (by omega) s1) (va_cwS 4 hts (lw_S q106 q107 q5 q108) rfl rfl rfl (by decide +kernel) ⟨by show 1 + 1 ≤ R.frames; omega, by show 8 + (7 + 11) + 24 ≤ R.locals; omega⟩) rfl rfl (Nat.le_of_ble_eq_true rfl) dX3_inPlaceMerge_84 (fun v hv => ?_)
          obtain ⟨fc, hv, k1, k2, k3, k4⟩ := hv
          subst hv
          refine lv_istore (lv' := [(5, .int (nI fc)), (6, .int (nI sc)), (0, .int (nI f)), (1, .int (nI k)), (2, .int (nI t)), (3, .ref r), (4, .ref r)]) hx hb dX3_inPlaceMerge_87 hl (by decide) rfl (fun ls hl => ?_)
          exact ox_mg_89 S hK hX hR hcs hA hR2 ih ht hn (sq_Cut.upper (by omega) (by omega) s2 k1 k2 k3 k4) s1 s2 (by omega) (by omega) (fun u H locs ls hu hP hD hS => W.vret hx hb hr (fun t ht hW => ⟨⟨u, rfl, hu, dk_end ht hP⟩, hS.F ht⟩) hS.2.2 dX3_inPlaceMerge_247) s.heap [] ls hP hD hS (lv_sub hl [2, 3, 4, 5, 6, 0, 1] rfl)
        · have c4 : t - k < k - f := Nat.not_le.mp (fun h => b4 (nI_le h (by omega)))
          obtain ⟨fc, hfc⟩ : ∃ fc, fc = f + (k - f) / 2 := ⟨_, rfl⟩
          refine lv_iload_n hx hb dX3_inPlaceMerge_48 rfl (lv_at hl 0 rfl) ?_
          refine lv_iload_n hx hb dX3_inPlaceMerge_49 rfl (lv_at hl 1 rfl) ?_
          refine lv_iload_n hx hb dX3_inPlaceMerge_50 rfl (lv_at hl 0 rfl) ?_
          refine lv_isub hx hb dX3_inPlaceMerge_51 ?_
          refine ox_to (y := nI (k - f)) (pk_sub (by omega)) ?_
          refine lv_iconst (v := nI 2) hx hb dX3_inPlaceMerge_52 (by decide) ?_
          refine lv_idiv hx hb dX3_inPlaceMerge_53 (by decide) ?_
          refine ox_to (y := nI ((k - f) / 2)) (pk_div (by omega) (by omega) (by omega)) ?_
          refine lv_iadd hx hb dX3_inPlaceMerge_54 ?_
          refine ox_to (y := nI fc) ((nI_add _ _).trans (by rw [← hfc])) ?_
          refine lv_istore (lv' := [(5, .int (nI fc)), (0, .int (nI f)), (1, .int (nI k)), (2, .int (nI t)), (3, .ref r), (4, .ref r)]) hx hb dX3_inPlaceMerge_55 hl (by decide) rfl (fun ls hl => ?_)
          refine lv_iload_n hx hb dX3_inPlaceMerge_57 rfl (lv_at hl 2 rfl) ?_
          refine lv_iload_n hx hb dX3_inPlaceMerge_58 rfl (lv_at hl 3 rfl) ?_
          refine lv_iload hx hb dX3_inPlaceMerge_59 (lv_at hl 0 rfl) ?_
          refine lv_aload_n hx hb dX3_inPlaceMerge_61 rfl (lv_at hl 4 rfl) ?_
          refine ox_rd S hl.1 hK hX hcs hP hD (rest := []) [.int (nI k), .int (nI t), .int (nI fc), .ref r] (metX3_lowerBound l dC dI r d a1 a2 cA z s.heap.size (f0 := k) (t0 := t) (p0 := fc) (by omega) (by omega) (by omega) s2) (va_cwS 4 hts (lw_S q103 q104 q5 q105) rfl rfl rfl (by decide +kernel) ⟨by show 1 + 1 ≤ R.frames; omega, by show 8 + (7 + 11) + 24 ≤ R.locals; omega⟩) rfl rfl (Nat.le_of_ble_eq_true rfl) dX3_inPlaceMerge_62 (fun v hv => ?_)
          obtain ⟨sc, hv, k1, k2, k3, k4⟩ := hv
          subst hv
          refine lv_istore (lv' := [(6, .int (nI sc)), (5, .int (nI fc)), (0, .int (nI f)), (1, .int (nI k)), (2, .int (nI t)), (3, .ref r), (4, .ref r)]) hx hb dX3_inPlaceMerge_65 hl (by decide) rfl (fun ls hl => ?_)
          refine lv_goto (tgt := 89) hx hb dX3_inPlaceMerge_67 (by decide) ?_
          exact ox_mg_89 S hK hX hR hcs hA hR2 ih ht hn (sq_Cut.lower (by omega) (by omega) s1 k1 k2 k3 k4) s1 s2 (by omega) (by omega) (fun u H locs ls hu hP hD hS => W.vret hx hb hr (fun t ht hW => ⟨⟨u, rfl, hu, dk_end ht hP⟩, hS.F ht⟩) hS.2.2 dX3_inPlaceMerge_247) s.heap [] ls hP hD hS (lv_sub hl [2, 3, 4, 5, 6, 1, 0] rfl)
      · have c3 : t - f = 2 := (nI_eq (by omega) (by omega)).mp b3
        refine lv_aload_n hx hb dX3_inPlaceMerge_18 rfl (lv_at hl 3 rfl) ?_
        refine lv_iload_n hx hb dX3_inPlaceMerge_19 rfl (lv_at hl 1 rfl) ?_
        refine lv_iload_n hx hb dX3_inPlaceMerge_20 rfl (lv_at hl 0 rfl) ?_
        refine ox_cmp S hl.1 hK hX hR hcs hP hD (i := k) (j := f) (by omega) (by omega) (Nat.le_of_ble_eq_true rfl) dX3_inPlaceMerge_21 ?_
        refine lv_if_ge (tgt := 38) hx hb dX3_inPlaceMerge_26 (by decide) (fun b4 => ?_) (fun b4 => ?_)
        · have c4 := sq_cmp_ge.mp b4
          have hq : sq_Srt f t z z := ⟨sq_Pm.rf, fun i j x y w => by
            have hk : k = f + 1 := by omega
            by_cases e1 : i = j
            · rw [e1]; exact Int.le_refl _
            · have e2 : i = f := by omega
              have e3 : j = k := by omega
              rw [e2, e3]; exact c4⟩
          exact W.vret hx hb hr (fun t ht hW => ⟨⟨z, rfl, hq, dk_end ht hP⟩, hS.F ht⟩) hS.2.2 dX3_inPlaceMerge_38
        · have c4 : sq_K (z k) ≤ sq_K (z f) := Int.le_of_lt (Int.not_le.mp (fun h => b4 (sq_cmp_ge.mpr h)))
          refine lv_aload hx hb dX3_inPlaceMerge_29 (lv_at hl 4 rfl) ?_
          refine lv_iload_n hx hb dX3_inPlaceMerge_31 rfl (lv_at hl 0 rfl) ?_
          refine lv_iload_n hx hb dX3_inPlaceMerge_32 rfl (lv_at hl 1 rfl) ?_
          refine ox_swp S hl.1 hK hX hR hcs hA hP hD hS (i := f) (j := k) (by omega) (by omega) (Nat.le_of_ble_eq_true rfl) dX3_inPlaceMerge_33 (fun H locs hP hD hS => ?_)
          have hq : sq_Srt f t z (sq_sw z f k) := ⟨sq_Pm.rf.st (by omega) (by omega) (by omega) (by omega), fun i j x y w => by
            have hk : k = f + 1 := by omega
            by_cases e1 : i = j
            · rw [e1]; exact Int.le_refl _
            · have e2 : i = f := by omega
              have e3 : j = k := by omega
              rw [e2, e3, sq_sw_l, sq_sw_r]; exact c4⟩
          exact W.vret hx hb hr (fun t ht hW => ⟨⟨_, rfl, hq, dk_end ht hP⟩, hS.F ht⟩) hS.2.2 dX3_inPlaceMerge_38
    · have c2 : ¬ k < t := fun h => b2 (nI_lt h (by omega))
      have e : k = t := by omega
      subst e
      exact W.vret hx hb hr (fun t ht hW => ⟨⟨z, rfl, ⟨sq_Pm.rf, s1⟩, dk_end ht hP⟩, hS.F ht⟩) hS.2.2 dX3_inPlaceMerge_10
end
section
/-! OwnArrays.mergeSort -/
/-- the room of a sort of fewer than n places -/
def msR (n : Nat) : Room := { frames := 52 + n, cells := 0, slots := 0, locals := 1700 + 40 * n }
theorem sq_halves {f h t : Nat} {z u w : sq_T} (h1 : f ≤ h) (h2 : h ≤ t) (r1 : sq_Srt f h z u) (r2 : sq_Srt h t u w) : sq_So f h w ∧ sq_So h t w ∧ sq_Pm f t z w :=
  ⟨r1.2.eq (fun q x y => r2.1.out (by omega)), r2.2, (r1.1.wide (Nat.le_refl f) h2).tr (r2.1.wide h1 (Nat.le_refl t))⟩
theorem sq_touch {f h t : Nat} {w : sq_T} (h1 : f < h) (h2 : h < t) (s1 : sq_So f h w) (s2 : sq_So h t w) (k : sq_K (w (h - 1)) ≤ sq_K (w h)) : sq_So f t w := by
  intro i j x y q
  by_cases e1 : j < h
  · exact s1 i j x y e1
  · by_cases e2 : h ≤ i
    · exact s2 i j e2 y q
    · exact Int.le_trans (s1 i (h - 1) x (by omega) (by omega)) (Int.le_trans k (s2 h j (Nat.le_refl h) (by omega) q))
set_option maxHeartbeats 4000000 in
set_option maxRecDepth 100000 in
/-- mergeSort: a range brought into order -/
theorem metX3_mergeSort (l : Launch) (dC : Nat → ClassId) (dI : Nat → Nat → Nat) (r d a1 a2 : Nat) (cA : ClassId) : ∀ n : Nat, ∀ (z : sq_T) (sz f t : Nat), t < f + n → f ≤ t → t ≤ 48 → dkMet l yX3_mergeSort (ws_ yX3_mergeSort cX3_mergeSort 7 none) (msR n) [.int (nI f), .int (nI t), .ref r, .ref r] dC dI r d a1 a2 cA z sz (fun u => sq_Srt f t z u) := by
  intro n
  induction n with
  | zero => intro z sz f t h1; omega
  | succ n ih =>
  intro z sz f t hn hft ht
  refine Met.ofW (cc := cX3_mergeSort) (maxL := 7) (ret := none) (by decide) rfl ?_
  intro p e s m args below meth c s₁ B hml hv
  obtain ⟨rfl, hsz, hP, hK, hD0, hX⟩ := hv
  have hx := B.exec
  have hb := B.bytes
  have hr := B.returns
  have hts := atoms_spec (ws := ws_ yX3_mergeSort cX3_mergeSort 7 none) B.pre
  have hts : ∀ w ∈ lw_all, w.before _ s = true := fun w h => hts w (List.mem_cons_of_mem _ h)
  have hown : s.vm.findClass RX3 = some m.cls := findClass_of_methodNamed B.named
  have hlocks := B.notSynchronized
  subst hsz
  have hD := dkD.own hD0 s.heap.size
  have hA : ∀ q : Nat, s.heap.size ≤ q → dkA r d a1 a2 s.heap.size q := fun q h => Or.inr (Or.inr (Or.inr (Or.inr h)))
  have hS : va_S (dkA r d a1 a2 s.heap.size) s.heap s.heap [] := va_S.rf
  have hl := lv_entry ([.int (nI f), .int (nI t), .ref r, .ref r]) (n := 7) (Nat.le_of_ble_eq_true rfl)
  rw [lg_entry_eq]
  generalize (lg_sl ([.int (nI f), .int (nI t), .ref r, .ref r]) ++ List.replicate (7 - (lg_sl ([.int (nI f), .int (nI t), .ref r, .ref r])).length) Slot.unset).toArray = ls at hl ⊢
  have hl : lv_has ls 7 [(0, .int (nI f)), (1, .int (nI t)), (2, .ref r), (3, .ref r)] := hl
  generalize hRm : (headSpec (ws_ yX3_mergeSort cX3_mergeSort 7 none) (msR (n + 1))).room = R
  have hRf : R.frames = 52 + (n + 1) := by rw [← hRm]; rfl
  have hRl : R.locals = 1700 + 40 * (n + 1) := by rw [← hRm]; rfl
  have hR : 1 ≤ R.frames ∧ 24 ≤ R.locals := ⟨by omega, by omega⟩
  have hcs : 0 ≤ R.cells ∧ 0 ≤ R.slots := ⟨Nat.zero_le _, Nat.zero_le _⟩
  have S : CallFix p m c cX3_mergeSort 7 s _ lw_all RX3 := ⟨hx, hb, hml, hown, hts⟩
  refine lv_iload_n hx hb dX3_mergeSort_0 rfl (lv_at hl 1 rfl) ?_
  refine lv_iload_n hx hb dX3_mergeSort_1 rfl (lv_at hl 0 rfl) ?_
  refine lv_isub hx hb dX3_mergeSort_2 ?_
  refine ox_to (y := nI (t - f)) (pk_sub (by omega)) ?_
  refine lv_istore (lv' := [(4, .int (nI (t - f))), (0, .int (nI f)), (1, .int (nI t)), (2, .ref r), (3, .ref r)]) hx hb dX3_mergeSort_3 hl (by decide) rfl (fun ls hl => ?_)
  refine lv_iload hx hb dX3_mergeSort_5 (lv_at hl 0 rfl) ?_
  refine lv_bipush (v := nI 16) hx hb dX3_mergeSort_7 (by decide) ?_
  refine lv_icmp_ge (tgt := 71) hx hb dX3_mergeSort_9 (by decide) (fun b1 => ?_) (fun b1 => ?_)
  · have c1 : 16 ≤ t - f := (nI_leI (by omega) (by omega)).mp b1
    refine lv_iload_n hx hb dX3_mergeSort_71 rfl (lv_at hl 1 rfl) ?_
    refine lv_iload_n hx hb dX3_mergeSort_72 rfl (lv_at hl 2 rfl) ?_
    refine lv_iadd hx hb dX3_mergeSort_73 ?_
    refine ox_to (y := nI (f + t)) (nI_add _ _) ?_
    refine lv_iconst (v := nI 1) hx hb dX3_mergeSort_74 (by decide) ?_
    obtain ⟨h, hh⟩ : ∃ h, h = (f + t) / 2 := ⟨_, rfl⟩
    refine lv_iushr (v := nI h) hx hb dX3_mergeSort_75 ((pk_ushrN (by omega) (nI 1) 1 (by decide)).trans (by rw [hh])) ?_
    refine lv_istore (lv' := [(5, .int (nI h)), (4, .int (nI (t - f))), (0, .int (nI f)), (1, .int (nI t)), (2, .ref r), (3, .ref r)]) hx hb dX3_mergeSort_76 hl (by decide) rfl (fun ls hl => ?_)
    refine lv_iload_n hx hb dX3_mergeSort_78 rfl (lv_at hl 2 rfl) ?_
    refine lv_iload hx hb dX3_mergeSort_79 (lv_at hl 0 rfl) ?_
    refine lv_aload_n hx hb dX3_mergeSort_81 rfl (lv_at hl 4 rfl) ?_
    refine lv_aload_n hx hb dX3_mergeSort_82 rfl (lv_at hl 5 rfl) ?_
    refine ox_wr S hl.1 hK hX hcs hA hP hD hS (rest := []) [.int (nI f), .int (nI h), .ref r, .ref r] (ih _ s.heap.size f h (by omega) (by omega) (by omega)) (va_cwS 4 hts (lw_S q99 q97 q5 q98) rfl rfl rfl (by decide +kernel) ⟨by show 52 + n + 1 ≤ R.frames; omega, by show 8 + (7 + 11) + (1700 + 40 * n) ≤ R.locals; omega⟩) rfl rfl (Nat.le_of_ble_eq_true rfl) dX3_mergeSort_83 (fun z1 H locs hz1 hP hD hS => ?_)
    refine lv_iload hx hb dX3_mergeSort_86 (lv_at hl 0 rfl) ?_
    refine lv_iload_n hx hb dX3_mergeSort_88 rfl (lv_at hl 3 rfl) ?_
    refine lv_aload_n hx hb dX3_mergeSort_89 rfl (lv_at hl 4 rfl) ?_
    refine lv_aload_n hx hb dX3_mergeSort_90 rfl (lv_at hl 5 rfl) ?_
    refine ox_wr S hl.1 hK hX hcs hA hP hD hS (rest := []) [.int (nI h), .int (nI t), .ref r, .ref r] (ih _ H.size h t (by omega) (by omega) (by omega)) (va_cwS 4 hts (lw_S q99 q97 q5 q98) rfl rfl rfl (by decide +kernel) ⟨by show 52 + n + 1 ≤ R.frames; omega, by show 8 + (7 + 11) + (1700 + 40 * n) ≤ R.locals; omega⟩) rfl rfl (Nat.le_of_ble_eq_true rfl) dX3_mergeSort_91 (fun z2 H locs hz2 hP hD hS => ?_)
    obtain ⟨g1, g2, g3⟩ := sq_halves (by omega) (by omega) hz1 hz2
    refine lv_aload_n hx hb dX3_mergeSort_94 rfl (lv_at hl 4 rfl) ?_
    refine lv_iload hx hb dX3_mergeSort_95 (lv_at hl 0 rfl) ?_
    refine lv_iconst (v := nI 1) hx hb dX3_mergeSort_97 (by decide) ?_
    refine lv_isub hx hb dX3_mergeSort_98 ?_
    refine ox_to (y := nI (h - 1)) (pk_sub (by omega)) ?_
    refine lv_iload hx hb dX3_mergeSort_99 (lv_at hl 0 rfl) ?_
    refine ox_cmp S hl.1 hK hX hR hcs hP hD (i := h - 1) (j := h) (by omega) (by omega) (Nat.le_of_ble_eq_true rfl) dX3_mergeSort_101 ?_
    refine lv_if_gt (tgt := 110) hx hb dX3_mergeSort_106 (by decide) (fun b2 => ?_) (fun b2 => ?_)
    · refine lv_iload_n hx hb dX3_mergeSort_110 rfl (lv_at hl 2 rfl) ?_
      refine lv_iload hx hb dX3_mergeSort_111 (lv_at hl 0 rfl) ?_
      refine lv_iload_n hx hb dX3_mergeSort_113 rfl (lv_at hl 3 rfl) ?_
      refine lv_aload_n hx hb dX3_mergeSort_114 rfl (lv_at hl 4 rfl) ?_
      refine lv_aload_n hx hb dX3_mergeSort_115 rfl (lv_at hl 5 rfl) ?_
      refine ox_wr S hl.1 hK hX hcs hA hP hD hS (rest := []) [.int (nI f), .int (nI h), .int (nI t), .ref r, .ref r] (metX3_inPlaceMerge l dC dI r d a1 a2 cA 49 _ H.size f h t (by omega) (by omega) (by omega) (by omega) g1 g2) (va_cwS 5 hts (lw_S q100 q101 q5 q102) rfl rfl rfl (by decide +kernel) ⟨by show 2 + 49 + 1 ≤ R.frames; omega, by show 8 + (12 + 11) + (64 + 32 * 49) ≤ R.locals; omega⟩) rfl rfl (Nat.le_of_ble_eq_true rfl) dX3_mergeSort_116 (fun z3 H locs hz3 hP hD hS => ?_)
      exact W.vret hx hb hr (fun t ht hW => ⟨⟨z3, rfl, ⟨g3.tr hz3.1, hz3.2⟩, dk_end ht hP⟩, hS.F ht⟩) hS.2.2 dX3_mergeSort_119
    · have c2 : sq_K (z2 (h - 1)) ≤ sq_K (z2 h) := Int.not_lt.mp (fun x => b2 (sq_cmp_gt.mpr x))
      exact W.vret hx hb hr (fun t ht hW => ⟨⟨z2, rfl, ⟨g3, sq_touch (by omega) (by omega) g1 g2 c2⟩, dk_end ht hP⟩, hS.F ht⟩) hS.2.2 dX3_mergeSort_109
  · refine lv_iload_n hx hb dX3_mergeSort_12 rfl (lv_at hl 1 rfl) ?_
    refine lv_istore (lv' := [(5, .int (nI f)), (4, .int (nI (t - f))), (0, .int (nI f)), (1, .int (nI t)), (2, .ref r), (3, .ref r)]) hx hb dX3_mergeSort_13 hl (by decide) rfl (fun ls hl => ?_)
    refine ox_mergeSort_out S hK hX hR hcs hA ht (fun z1 H locs ls hq hP hD hS => ?_) (t + 1) f z s.heap [] ls (by omega) (Nat.le_refl f) hft (sq_So.one (by omega)) sq_Pm.rf hP hD hS (lv_sub hl [2, 3, 4, 5, 0] rfl)
    exact W.vret hx hb hr (fun t ht hW => ⟨⟨z1, rfl, hq, dk_end ht hP⟩, hS.F ht⟩) hS.2.2 dX3_mergeSort_70
end
section
/-! OwnArrays.quickSort: f, t the range; a, b, g - 1, h - 1 its running places a, b, c, d; w the pivot's place -/
def nM (n : Nat) : Int32 := nI n + (-1)
theorem nM_s (n : Nat) : nM (n + 1) = nI n := pk_m1 n
theorem nM_toInt {n : Nat} (h : n < 2 ^ 31) : (nM n).toInt = (n : Int) - 1 := by
  cases n with
  | zero => decide
  | succ k =>
    rw [nM_s, nI_toInt (by omega)]
    omega
theorem nM_lt {g b : Nat} (hg : g < 2 ^ 31) (hb : b < 2 ^ 31) : nM g < nI b ↔ g ≤ b := by
  rw [Int32.lt_iff_toInt_lt, nM_toInt hg, nI_toInt hb]
  omega
theorem nM_le {g b : Nat} (hg : g < 2 ^ 31) (hb : b < 2 ^ 31) : nI b ≤ nM g ↔ b < g := by
  rw [Int32.le_iff_toInt_le, nM_toInt hg, nI_toInt hb]
  omega
theorem nM_sub {g h : Nat} (q : g ≤ h) : nM h - nM g = nI (h - g) := by
  rw [← pk_sub q]
  unfold nM
  grind
theorem nM_sub1 {h t : Nat} (q : h ≤ t) : nI t - nM h - nI 1 = nI (t - h) := by
  rw [← pk_sub q]
  show nI t - nM h - 1 = nI t - nI h
  unfold nM
  grind
theorem nM_p {t : Nat} (q : 1 ≤ t) : nI t - nI 1 = nM t := by
  show nI t - 1 = nI t + (-1)
  grind
theorem nI_min {x y : Nat} (hx : x < 2 ^ 31) (hy : y < 2 ^ 31) : (if nI y < nI x then nI y else nI x) = nI (min x y) := by
  by_cases h : y < x
  · rw [if_pos (nI_lt h hx), Nat.min_eq_right (by omega)]
  · rw [if_neg (nI_nlt (by omega) hy), Nat.min_eq_left (by omega)]
theorem sq_mv_a {m i j : Nat} (h : i = m) : j = sq_mv m i j := (if_pos h).symm
theorem sq_mv_b {m i j : Nat} (h : ¬ i = m) (h2 : j = m) : i = sq_mv m i j := by
  unfold sq_mv
  rw [if_neg h, if_pos h2]
theorem sq_mv_c {m i j : Nat} (h : ¬ i = m) (h2 : ¬ j = m) : m = sq_mv m i j := by
  unfold sq_mv
  rw [if_neg h, if_neg h2]
/-- the room of a sort of fewer than n places -/
def qsR (n : Nat) : Room := { frames := 3 + n, cells := 0, slots := 0, locals := 100 + 40 * n }
section OXQ
variable {p : Program} {l : Launch} {e : Env} {R : Room} {s : State} {m : MethodId} {args : Array Value} {below : List Frame} {meth : Method} {c : Code} {cells slots : Nat} {Q : State → Prop}
variable {dC : Nat → ClassId} {dI : Nat → Nat → Nat} {r d a1 a2 : Nat} {cA : ClassId} {A : Nat → Prop} {H0 : Heap}
set_option maxHeartbeats 4000000 in
set_option maxRecDepth 100000 in
theorem ox_q188 (S : CallFix p m c cX3_quickSort 13 s args lw_all RX3) (hK : va_K (dC, dI) vwCl [(cA, .int)] s) (hX : dkX s) (hR : 1 ≤ R.frames ∧ 24 ≤ R.locals) (hcs : cells ≤ R.cells ∧ slots ≤ R.slots) (hA : ∀ q : Nat, H0.size ≤ q → A q) {f t : Nat} {v : Int} {z0 : sq_T} (ht : t ≤ 48) {g h : Nat} (b0 : Nat)
    (kk : ∀ (z : sq_T) (a b w : Nat) (H : Heap) (locs : List Loc) (ls : Array Slot), sq_Pt f t v z a b g h w → (b < g → v < sq_K (z b)) → b0 ≤ b → sq_Pm f t z0 z → va_P (dC, dI) vwCl (dkW r d a1 a2 cA z) H → va_D A (dkW r d a1 a2 cA z) → va_S A H0 H locs → lv_has ls 13 [(0, .int (nI f)), (1, .int (nI t)), (2, .ref r), (3, .ref r), (5, .int (nI w)), (8, .int (nI a)), (9, .int (nI b)), (10, .int (nM g)), (11, .int (nM h))] → W p l e R s m args below meth c H locs cells slots Q (F0 m 260 ls [])) :
    ∀ (n : Nat) (z : sq_T) (a b w : Nat) (H : Heap) (locs : List Loc) (ls : Array Slot), g < b + n → b0 ≤ b → sq_Pt f t v z a b g h w → sq_Pm f t z0 z → va_P (dC, dI) vwCl (dkW r d a1 a2 cA z) H → va_D A (dkW r d a1 a2 cA z) → va_S A H0 H locs → lv_has ls 13 [(0, .int (nI f)), (1, .int (nI t)), (2, .ref r), (3, .ref r), (5, .int (nI w)), (8, .int (nI a)), (9, .int (nI b)), (10, .int (nM g)), (11, .int (nM h))] → W p l e R s m args below meth c H locs cells slots Q (F0 m 188 ls []) := by
  have hx := S.1
  have hb := S.2.1
  intro n
  induction n with
  | zero =>
    intro z a b w H locs ls h1 h2 hI
    have := hI.2.2.1
    omega
  | succ n ih =>
    intro z a b w H locs ls h1 h2 hI hM hP hD hS hl
    obtain ⟨i1, i2, i3, i4, i5, i6, i7, i8, -⟩ := id hI
    refine lv_iload hx hb dX3_quickSort_188 (lv_at hl 6 rfl) ?_
    refine lv_iload hx hb dX3_quickSort_190 (lv_at hl 7 rfl) ?_
    refine lv_icmp_gt (tgt := 260) hx hb dX3_quickSort_192 (by decide) (fun b1 => ?_) (fun b1 => ?_)
    · have c1 : g ≤ b := (nM_lt (by omega) (by omega)).mp b1
      exact kk z a b w H locs ls hI (fun x => by omega) h2 hM hP hD hS hl
    · have c1 : b < g := Nat.not_le.mp (fun x => b1 ((nM_lt (by omega) (by omega)).mpr x))
      refine lv_aload_n hx hb dX3_quickSort_195 rfl (lv_at hl 2 rfl) ?_
      refine lv_iload hx hb dX3_quickSort_196 (lv_at hl 6 rfl) ?_
      refine lv_iload hx hb dX3_quickSort_198 (lv_at hl 4 rfl) ?_
      refine ox_cmp S hl.1 hK hX hR hcs hP hD (i := b) (j := w) (by omega) (by omega) (Nat.le_of_ble_eq_true rfl) dX3_quickSort_200 ?_
      refine lv_dup hx hb dX3_quickSort_205 rfl ?_
      refine lv_istore (lv' := [(12, .int (sq_cmp (z (b)) (z (w)))), (0, .int (nI f)), (1, .int (nI t)), (2, .ref r), (3, .ref r), (5, .int (nI w)), (8, .int (nI a)), (9, .int (nI b)), (10, .int (nM g)), (11, .int (nM h))]) hx hb dX3_quickSort_206 hl (by decide) rfl (fun ls hl => ?_)
      refine lv_if_gt (tgt := 260) hx hb dX3_quickSort_208 (by decide) (fun b2 => ?_) (fun b2 => ?_)
      · have c2 := sq_cmp_gt.mp b2
        rw [i8] at c2
        exact kk z a b w H locs ls hI (fun _ => c2) h2 hM hP hD hS (lv_sub hl [1, 2, 3, 4, 5, 6, 7, 8, 9] rfl)
      · have c2 : sq_K (z b) ≤ v := by
          rw [← i8]
          exact Int.not_lt.mp (fun x => b2 (sq_cmp_gt.mpr x))
        refine lv_iload hx hb dX3_quickSort_211 (lv_at hl 0 rfl) ?_
        refine lv_if_ne (tgt := 254) hx hb dX3_quickSort_213 (by decide) (fun b3 => ?_) (fun b3 => ?_)
        · have c3 : sq_K (z b) < v := by
            have : ¬ sq_K (z b) = sq_K (z w) := fun x => b3 (sq_cmp_eq.mpr x)
            rw [i8] at this
            omega
          refine lv_iinc (v := nI (b + 1)) (lv' := [(9, .int (nI (b + 1))), (12, .int (sq_cmp (z (b)) (z (w)))), (0, .int (nI f)), (1, .int (nI t)), (2, .ref r), (3, .ref r), (5, .int (nI w)), (8, .int (nI a)), (10, .int (nM g)), (11, .int (nM h))]) hx hb dX3_quickSort_254 hl (k := 7) rfl (ox_inc _) (by decide) rfl (fun ls hl => ?_)
          refine lv_goto (tgt := 188) hx hb dX3_quickSort_257 (by decide) ?_
          exact ih z a (b + 1) w H locs ls (by omega) (by omega) (hI.lt c1 c3) hM hP hD hS (lv_sub hl [2, 3, 4, 5, 6, 7, 0, 8, 9] rfl)
        · have c3 : sq_K (z b) = v := by
            rw [← i8]
            exact sq_cmp_eq.mp b3
          have tail : ∀ (x : Nat) (ls : Array Slot), x = sq_mv w a b → lv_has ls 13 [(0, .int (nI f)), (1, .int (nI t)), (2, .ref r), (3, .ref r), (5, .int (nI x)), (8, .int (nI a)), (9, .int (nI b)), (10, .int (nM g)), (11, .int (nM h))] → W p l e R s m args below meth c H locs cells slots Q (F0 m 241 ls []) := by
            intro x ls hx2 hl
            refine lv_aload_n hx hb dX3_quickSort_241 rfl (lv_at hl 3 rfl) ?_
            refine lv_iload hx hb dX3_quickSort_242 (lv_at hl 5 rfl) ?_
            refine lv_iinc (v := nI (a + 1)) (lv' := [(8, .int (nI (a + 1))), (0, .int (nI f)), (1, .int (nI t)), (2, .ref r), (3, .ref r), (5, .int (nI x)), (9, .int (nI b)), (10, .int (nM g)), (11, .int (nM h))]) hx hb dX3_quickSort_244 hl (k := 5) rfl (ox_inc _) (by decide) rfl (fun ls hl => ?_)
            refine lv_iload hx hb dX3_quickSort_247 (lv_at hl 6 rfl) ?_
            refine ox_swp S hl.1 hK hX hR hcs hA hP hD hS (i := a) (j := b) (by omega) (by omega) (Nat.le_of_ble_eq_true rfl) dX3_quickSort_249 (fun H locs hP hD hS => ?_)
            refine lv_iinc (v := nI (b + 1)) (lv' := [(9, .int (nI (b + 1))), (8, .int (nI (a + 1))), (0, .int (nI f)), (1, .int (nI t)), (2, .ref r), (3, .ref r), (5, .int (nI x)), (10, .int (nM g)), (11, .int (nM h))]) hx hb dX3_quickSort_254 hl (k := 6) rfl (ox_inc _) (by decide) rfl (fun ls hl => ?_)
            refine lv_goto (tgt := 188) hx hb dX3_quickSort_257 (by decide) ?_
            exact ih (sq_sw z a b) (a + 1) (b + 1) x H locs ls (by omega) (by omega) (by rw [hx2]; exact hI.eqL c1 c3) (hM.st (by omega) (by omega) (by omega) (by omega)) hP hD hS (lv_sub hl [2, 3, 4, 5, 6, 1, 0, 7, 8] rfl)
          refine lv_iload hx hb dX3_quickSort_216 (lv_at hl 6 rfl) ?_
          refine lv_iload hx hb dX3_quickSort_218 (lv_at hl 5 rfl) ?_
          refine lv_icmp_ne (tgt := 230) hx hb dX3_quickSort_220 (by decide) (fun b4 => ?_) (fun b4 => ?_)
          · have c4 : ¬ a = w := fun x => b4 (by rw [x])
            refine lv_iload hx hb dX3_quickSort_230 (lv_at hl 7 rfl) ?_
            refine lv_iload hx hb dX3_quickSort_232 (lv_at hl 5 rfl) ?_
            refine lv_icmp_ne (tgt := 241) hx hb dX3_quickSort_234 (by decide) (fun b5 => ?_) (fun b5 => ?_)
            · have c5 : ¬ b = w := fun x => b5 (by rw [x])
              exact tail w ls (sq_mv_c c4 c5) (lv_sub hl [1, 2, 3, 4, 5, 6, 7, 8, 9] rfl)
            · have c5 : b = w := (nI_eq (by omega) (by omega)).mp b5
              refine lv_iload hx hb dX3_quickSort_237 (lv_at hl 6 rfl) ?_
              refine lv_istore (lv' := [(5, .int (nI a)), (12, .int (sq_cmp (z (b)) (z (w)))), (0, .int (nI f)), (1, .int (nI t)), (2, .ref r), (3, .ref r), (8, .int (nI a)), (9, .int (nI b)), (10, .int (nM g)), (11, .int (nM h))]) hx hb dX3_quickSort_239 hl (by decide) rfl (fun ls hl => ?_)
              exact tail a ls (sq_mv_b c4 c5) (lv_sub hl [2, 3, 4, 5, 0, 6, 7, 8, 9] rfl)
          · have c4 : a = w := (nI_eq (by omega) (by omega)).mp b4
            refine lv_iload hx hb dX3_quickSort_223 (lv_at hl 7 rfl) ?_
            refine lv_istore (lv' := [(5, .int (nI b)), (12, .int (sq_cmp (z (b)) (z (w)))), (0, .int (nI f)), (1, .int (nI t)), (2, .ref r), (3, .ref r), (8, .int (nI a)), (9, .int (nI b)), (10, .int (nM g)), (11, .int (nM h))]) hx hb dX3_quickSort_225 hl (by decide) rfl (fun ls hl => ?_)
            refine lv_goto (tgt := 241) hx hb dX3_quickSort_227 (by decide) ?_
            exact tail b ls (sq_mv_a c4) (lv_sub hl [2, 3, 4, 5, 0, 6, 7, 8, 9] rfl)
set_option maxHeartbeats 4000000 in
set_option maxRecDepth 100000 in
theorem ox_q260 (S : CallFix p m c cX3_quickSort 13 s args lw_all RX3) (hK : va_K (dC, dI) vwCl [(cA, .int)] s) (hX : dkX s) (hR : 1 ≤ R.frames ∧ 24 ≤ R.locals) (hcs : cells ≤ R.cells ∧ slots ≤ R.slots) (hA : ∀ q : Nat, H0.size ≤ q → A q) {f t : Nat} {v : Int} {z0 : sq_T} (ht : t ≤ 48) {a b : Nat} (g0 : Nat)
    (kk : ∀ (z : sq_T) (g h w : Nat) (H : Heap) (locs : List Loc) (ls : Array Slot), sq_Pt f t v z a b g h w → (b < g → v < sq_K (z b)) → (b < g → sq_K (z (g - 1)) < v) → g ≤ g0 → sq_Pm f t z0 z → va_P (dC, dI) vwCl (dkW r d a1 a2 cA z) H → va_D A (dkW r d a1 a2 cA z) → va_S A H0 H locs → lv_has ls 13 [(0, .int (nI f)), (1, .int (nI t)), (2, .ref r), (3, .ref r), (5, .int (nI w)), (8, .int (nI a)), (9, .int (nI b)), (10, .int (nM g)), (11, .int (nM h))] → W p l e R s m args below meth c H locs cells slots Q (F0 m 332 ls [])) :
    ∀ (n : Nat) (z : sq_T) (g h w : Nat) (H : Heap) (locs : List Loc) (ls : Array Slot), g < b + n → g ≤ g0 → sq_Pt f t v z a b g h w → (b < g → v < sq_K (z b)) → sq_Pm f t z0 z → va_P (dC, dI) vwCl (dkW r d a1 a2 cA z) H → va_D A (dkW r d a1 a2 cA z) → va_S A H0 H locs → lv_has ls 13 [(0, .int (nI f)), (1, .int (nI t)), (2, .ref r), (3, .ref r), (5, .int (nI w)), (8, .int (nI a)), (9, .int (nI b)), (10, .int (nM g)), (11, .int (nM h))] → W p l e R s m args below meth c H locs cells slots Q (F0 m 260 ls []) := by
  have hx := S.1
  have hb := S.2.1
  intro n
  induction n with
  | zero =>
    intro z g h w H locs ls h1 h2 hI
    have := hI.2.2.1
    omega
  | succ n ih =>
    intro z g h w H locs ls h1 h2 hI hB hM hP hD hS hl
    obtain ⟨i1, i2, i3, i4, i5, i6, i7, i8, -⟩ := id hI
    refine lv_iload hx hb dX3_quickSort_260 (lv_at hl 7 rfl) ?_
    refine lv_iload hx hb dX3_quickSort_262 (lv_at hl 6 rfl) ?_
    refine lv_icmp_lt (tgt := 332) hx hb dX3_quickSort_264 (by decide) (fun b1 => ?_) (fun b1 => ?_)
    · have c1 : g ≤ b := (nM_lt (by omega) (by omega)).mp b1
      exact kk z g h w H locs ls hI hB (fun x => by omega) h2 hM hP hD hS hl
    · have c1 : b < g := Nat.not_le.mp (fun x => b1 ((nM_lt (by omega) (by omega)).mpr x))
      obtain ⟨x, rfl⟩ : ∃ x, g = x + 1 := ⟨g - 1, by omega⟩
      obtain ⟨q, rfl⟩ : ∃ q, h = q + 1 := ⟨h - 1, by omega⟩
      rw [nM_s, nM_s] at hl
      refine lv_aload_n hx hb dX3_quickSort_267 rfl (lv_at hl 2 rfl) ?_
      refine lv_iload hx hb dX3_quickSort_268 (lv_at hl 7 rfl) ?_
      refine lv_iload hx hb dX3_quickSort_270 (lv_at hl 4 rfl) ?_
      refine ox_cmp S hl.1 hK hX hR hcs hP hD (i := x) (j := w) (by omega) (by omega) (Nat.le_of_ble_eq_true rfl) dX3_quickSort_272 ?_
      refine lv_dup hx hb dX3_quickSort_277 rfl ?_
      refine lv_istore (lv' := [(12, .int (sq_cmp (z (x)) (z (w)))), (0, .int (nI f)), (1, .int (nI t)), (2, .ref r), (3, .ref r), (5, .int (nI w)), (8, .int (nI a)), (9, .int (nI b)), (10, .int (nI x)), (11, .int (nI q))]) hx hb dX3_quickSort_278 hl (by decide) rfl (fun ls hl => ?_)
      refine lv_if_lt (tgt := 332) hx hb dX3_quickSort_280 (by decide) (fun b2 => ?_) (fun b2 => ?_)
      · have c2 := sq_cmp_lt.mp b2
        rw [i8] at c2
        rw [← nM_s x, ← nM_s q] at hl
        exact kk z (x + 1) (q + 1) w H locs ls hI hB (fun _ => c2) h2 hM hP hD hS (lv_sub hl [1, 2, 3, 4, 5, 6, 7, 8, 9] rfl)
      · have c2 : v ≤ sq_K (z x) := by
          rw [← i8]
          exact Int.not_lt.mp (fun y => b2 (sq_cmp_lt.mpr y))
        refine lv_iload hx hb dX3_quickSort_283 (lv_at hl 0 rfl) ?_
        refine lv_if_ne (tgt := 326) hx hb dX3_quickSort_285 (by decide) (fun b3 => ?_) (fun b3 => ?_)
        · have c3 : v < sq_K (z x) := by
            have : ¬ sq_K (z x) = sq_K (z w) := fun y => b3 (sq_cmp_eq.mpr y)
            rw [i8] at this
            omega
          refine lv_iinc (v := nM x) (lv' := [(10, .int (nM x)), (12, .int (sq_cmp (z (x)) (z (w)))), (0, .int (nI f)), (1, .int (nI t)), (2, .ref r), (3, .ref r), (5, .int (nI w)), (8, .int (nI a)), (9, .int (nI b)), (11, .int (nI q))]) hx hb dX3_quickSort_326 hl (k := 8) rfl (rfl) (by decide) rfl (fun ls hl => ?_)
          refine lv_goto (tgt := 260) hx hb dX3_quickSort_329 (by decide) ?_
          rw [← nM_s q] at hl
          exact ih z x (q + 1) w H locs ls (by omega) (by omega) (hI.gt (by omega) c3) (fun _ => hB c1) hM hP hD hS (lv_sub hl [2, 3, 4, 5, 6, 7, 8, 0, 9] rfl)
        · have c3 : sq_K (z x) = v := by
            rw [← i8]
            exact sq_cmp_eq.mp b3
          have cb := hB c1
          have cx : b ≠ x := fun y => by rw [y] at cb; omega
          have tail : ∀ (u : Nat) (ls : Array Slot), u = sq_mv w x q → lv_has ls 13 [(0, .int (nI f)), (1, .int (nI t)), (2, .ref r), (3, .ref r), (5, .int (nI u)), (8, .int (nI a)), (9, .int (nI b)), (10, .int (nI x)), (11, .int (nI q))] → W p l e R s m args below meth c H locs cells slots Q (F0 m 313 ls []) := by
            intro u ls hx2 hl
            refine lv_aload_n hx hb dX3_quickSort_313 rfl (lv_at hl 3 rfl) ?_
            refine lv_iload hx hb dX3_quickSort_314 (lv_at hl 7 rfl) ?_
            refine lv_iload hx hb dX3_quickSort_316 (lv_at hl 8 rfl) ?_
            refine lv_iinc (v := nM q) (lv' := [(11, .int (nM q)), (0, .int (nI f)), (1, .int (nI t)), (2, .ref r), (3, .ref r), (5, .int (nI u)), (8, .int (nI a)), (9, .int (nI b)), (10, .int (nI x))]) hx hb dX3_quickSort_318 hl (k := 8) rfl (rfl) (by decide) rfl (fun ls hl => ?_)
            refine ox_swp S hl.1 hK hX hR hcs hA hP hD hS (i := x) (j := q) (by omega) (by omega) (Nat.le_of_ble_eq_true rfl) dX3_quickSort_321 (fun H locs hP hD hS => ?_)
            refine lv_iinc (v := nM x) (lv' := [(10, .int (nM x)), (11, .int (nM q)), (0, .int (nI f)), (1, .int (nI t)), (2, .ref r), (3, .ref r), (5, .int (nI u)), (8, .int (nI a)), (9, .int (nI b))]) hx hb dX3_quickSort_326 hl (k := 8) rfl (rfl) (by decide) rfl (fun ls hl => ?_)
            refine lv_goto (tgt := 260) hx hb dX3_quickSort_329 (by decide) ?_
            exact ih (sq_sw z x q) x q u H locs ls (by omega) (by omega) (by rw [hx2]; exact hI.eqR (by omega) c3) (fun _ => by rw [sq_sw_o z cx (by omega)]; exact cb) (hM.st (by omega) (by omega) (by omega) (by omega)) hP hD hS (lv_sub hl [2, 3, 4, 5, 6, 7, 8, 0, 1] rfl)
          refine lv_iload hx hb dX3_quickSort_288 (lv_at hl 8 rfl) ?_
          refine lv_iload hx hb dX3_quickSort_290 (lv_at hl 5 rfl) ?_
          refine lv_icmp_ne (tgt := 302) hx hb dX3_quickSort_292 (by decide) (fun b4 => ?_) (fun b4 => ?_)
          · have c4 : ¬ x = w := fun y => b4 (by rw [y])
            refine lv_iload hx hb dX3_quickSort_302 (lv_at hl 9 rfl) ?_
            refine lv_iload hx hb dX3_quickSort_304 (lv_at hl 5 rfl) ?_
            refine lv_icmp_ne (tgt := 313) hx hb dX3_quickSort_306 (by decide) (fun b5 => ?_) (fun b5 => ?_)
            · have c5 : ¬ q = w := fun y => b5 (by rw [y])
              exact tail w ls (sq_mv_c c4 c5) (lv_sub hl [1, 2, 3, 4, 5, 6, 7, 8, 9] rfl)
            · have c5 : q = w := (nI_eq (by omega) (by omega)).mp b5
              refine lv_iload hx hb dX3_quickSort_309 (lv_at hl 8 rfl) ?_
              refine lv_istore (lv' := [(5, .int (nI x)), (12, .int (sq_cmp (z (x)) (z (w)))), (0, .int (nI f)), (1, .int (nI t)), (2, .ref r), (3, .ref r), (8, .int (nI a)), (9, .int (nI b)), (10, .int (nI x)), (11, .int (nI q))]) hx hb dX3_quickSort_311 hl (by decide) rfl (fun ls hl => ?_)
              exact tail x ls (sq_mv_b c4 c5) (lv_sub hl [2, 3, 4, 5, 0, 6, 7, 8, 9] rfl)
          · have c4 : x = w := (nI_eq (by omega) (by omega)).mp b4
            refine lv_iload hx hb dX3_quickSort_295 (lv_at hl 9 rfl) ?_
            refine lv_istore (lv' := [(5, .int (nI q)), (12, .int (sq_cmp (z (x)) (z (w)))), (0, .int (nI f)), (1, .int (nI t)), (2, .ref r), (3, .ref r), (8, .int (nI a)), (9, .int (nI b)), (10, .int (nI x)), (11, .int (nI q))]) hx hb dX3_quickSort_297 hl (by decide) rfl (fun ls hl => ?_)
            refine lv_goto (tgt := 313) hx hb dX3_quickSort_299 (by decide) ?_
            exact tail q ls (sq_mv_a c4) (lv_sub hl [2, 3, 4, 5, 0, 6, 7, 8, 9] rfl)
set_option maxHeartbeats 4000000 in
set_option maxRecDepth 100000 in
theorem ox_qout (S : CallFix p m c cX3_quickSort 13 s args lw_all RX3) (hK : va_K (dC, dI) vwCl [(cA, .int)] s) (hX : dkX s) (hR : 1 ≤ R.frames ∧ 24 ≤ R.locals) (hcs : cells ≤ R.cells ∧ slots ≤ R.slots) (hA : ∀ q : Nat, H0.size ≤ q → A q) {f t : Nat} {v : Int} {z0 : sq_T} (ht : t ≤ 48)
    (kk : ∀ (z : sq_T) (a b h w : Nat) (H : Heap) (locs : List Loc) (ls : Array Slot), sq_Pt f t v z a b b h w → sq_Pm f t z0 z → va_P (dC, dI) vwCl (dkW r d a1 a2 cA z) H → va_D A (dkW r d a1 a2 cA z) → va_S A H0 H locs → lv_has ls 13 [(0, .int (nI f)), (1, .int (nI t)), (2, .ref r), (3, .ref r), (5, .int (nI w)), (8, .int (nI a)), (9, .int (nI b)), (10, .int (nM b)), (11, .int (nM h))] → W p l e R s m args below meth c H locs cells slots Q (F0 m 386 ls [])) :
    ∀ (n : Nat) (z : sq_T) (a b g h w : Nat) (H : Heap) (locs : List Loc) (ls : Array Slot), g < b + n → sq_Pt f t v z a b g h w → sq_Pm f t z0 z → va_P (dC, dI) vwCl (dkW r d a1 a2 cA z) H → va_D A (dkW r d a1 a2 cA z) → va_S A H0 H locs → lv_has ls 13 [(0, .int (nI f)), (1, .int (nI t)), (2, .ref r), (3, .ref r), (5, .int (nI w)), (8, .int (nI a)), (9, .int (nI b)), (10, .int (nM g)), (11, .int (nM h))] → W p l e R s m args below meth c H locs cells slots Q (F0 m 188 ls []) := by
  have hx := S.1
  have hb := S.2.1
  intro n
  induction n with
  | zero =>
    intro z a b g h w H locs ls h1 hI
    have := hI.2.2.1
    omega
  | succ n ih =>
    intro z a b0 g0 h w H locs ls h1 hI hM hP hD hS hl
    have hz1 := hI.2.2.1
    refine ox_q188 S hK hX hR hcs hA ht b0 (fun z a b w H locs ls hI hB hb0 hM hP hD hS hl => ?_) (g0 + 1) z a b0 w H locs ls (by omega) (Nat.le_refl _) hI hM hP hD hS hl
    refine ox_q260 S hK hX hR hcs hA ht g0 (fun z g h w H locs ls hI hB hC hg0 hM hP hD hS hl => ?_) (g0 + 1) z g0 h w H locs ls (by omega) (Nat.le_refl _) hI hB hM hP hD hS hl
    obtain ⟨i1, i2, i3, i4, i5, i6, i7, i8, -⟩ := id hI
    refine lv_iload hx hb dX3_quickSort_332 (lv_at hl 6 rfl) ?_
    refine lv_iload hx hb dX3_quickSort_334 (lv_at hl 7 rfl) ?_
    refine lv_icmp_le (tgt := 342) hx hb dX3_quickSort_336 (by decide) (fun b1 => ?_) (fun b1 => ?_)
    · have c1 : b < g := (nM_le (by omega) (by omega)).mp b1
      obtain ⟨x, rfl⟩ : ∃ x, g = x + 1 := ⟨g - 1, by omega⟩
      rw [nM_s] at hl
      have cb := hB c1
      have cq := hC c1
      have hX2 := hI.cross (by omega) cb cq
      have tail : ∀ (u : Nat) (ls : Array Slot), u = sq_mv w b x → lv_has ls 13 [(0, .int (nI f)), (1, .int (nI t)), (2, .ref r), (3, .ref r), (5, .int (nI u)), (8, .int (nI a)), (9, .int (nI b)), (10, .int (nI x)), (11, .int (nM h))] → W p l e R s m args below meth c H locs cells slots Q (F0 m 367 ls []) := by
        intro u ls hx2 hl
        refine lv_aload_n hx hb dX3_quickSort_367 rfl (lv_at hl 3 rfl) ?_
        refine lv_iload hx hb dX3_quickSort_368 (lv_at hl 6 rfl) ?_
        refine lv_iinc (v := nI (b + 1)) (lv' := [(9, .int (nI (b + 1))), (0, .int (nI f)), (1, .int (nI t)), (2, .ref r), (3, .ref r), (5, .int (nI u)), (8, .int (nI a)), (10, .int (nI x)), (11, .int (nM h))]) hx hb dX3_quickSort_370 hl (k := 6) rfl (ox_inc _) (by decide) rfl (fun ls hl => ?_)
        refine lv_iload hx hb dX3_quickSort_373 (lv_at hl 7 rfl) ?_
        refine lv_iinc (v := nM x) (lv' := [(10, .int (nM x)), (9, .int (nI (b + 1))), (0, .int (nI f)), (1, .int (nI t)), (2, .ref r), (3, .ref r), (5, .int (nI u)), (8, .int (nI a)), (11, .int (nM h))]) hx hb dX3_quickSort_375 hl (k := 7) rfl (rfl) (by decide) rfl (fun ls hl => ?_)
        refine ox_swp S hl.1 hK hX hR hcs hA hP hD hS (i := b) (j := x) (by omega) (by omega) (Nat.le_of_ble_eq_true rfl) dX3_quickSort_378 (fun H locs hP hD hS => ?_)
        refine lv_goto (tgt := 188) hx hb dX3_quickSort_383 (by decide) ?_
        exact ih (sq_sw z b x) a (b + 1) x h u H locs ls (by omega) (by rw [hx2]; exact hX2.2) (hM.st (by omega) (by omega) (by omega) (by omega)) hP hD hS (lv_sub hl [2, 3, 4, 5, 6, 7, 1, 0, 8] rfl)
      refine lv_iload hx hb dX3_quickSort_342 (lv_at hl 6 rfl) ?_
      refine lv_iload hx hb dX3_quickSort_344 (lv_at hl 4 rfl) ?_
      refine lv_icmp_ne (tgt := 356) hx hb dX3_quickSort_346 (by decide) (fun b4 => ?_) (fun b4 => ?_)
      · have c4 : ¬ b = w := fun y => b4 (by rw [y])
        refine lv_iload hx hb dX3_quickSort_356 (lv_at hl 7 rfl) ?_
        refine lv_iload hx hb dX3_quickSort_358 (lv_at hl 4 rfl) ?_
        refine lv_icmp_ne (tgt := 367) hx hb dX3_quickSort_360 (by decide) (fun b5 => ?_) (fun b5 => ?_)
        · have c5 : ¬ x = w := fun y => b5 (by rw [y])
          exact tail w ls (sq_mv_c c4 c5) (lv_sub hl [0, 1, 2, 3, 4, 5, 6, 7, 8] rfl)
        · have c5 : x = w := (nI_eq (by omega) (by omega)).mp b5
          refine lv_iload hx hb dX3_quickSort_363 (lv_at hl 6 rfl) ?_
          refine lv_istore (lv' := [(5, .int (nI b)), (0, .int (nI f)), (1, .int (nI t)), (2, .ref r), (3, .ref r), (8, .int (nI a)), (9, .int (nI b)), (10, .int (nI x)), (11, .int (nM h))]) hx hb dX3_quickSort_365 hl (by decide) rfl (fun ls hl => ?_)
          exact tail b ls (sq_mv_b c4 c5) (lv_sub hl [1, 2, 3, 4, 0, 5, 6, 7, 8] rfl)
      · have c4 : b = w := (nI_eq (by omega) (by omega)).mp b4
        refine lv_iload hx hb dX3_quickSort_349 (lv_at hl 7 rfl) ?_
        refine lv_istore (lv' := [(5, .int (nI x)), (0, .int (nI f)), (1, .int (nI t)), (2, .ref r), (3, .ref r), (8, .int (nI a)), (9, .int (nI b)), (10, .int (nI x)), (11, .int (nM h))]) hx hb dX3_quickSort_351 hl (by decide) rfl (fun ls hl => ?_)
        refine lv_goto (tgt := 367) hx hb dX3_quickSort_353 (by decide) ?_
        exact tail x ls (sq_mv_a c4) (lv_sub hl [1, 2, 3, 4, 0, 5, 6, 7, 8] rfl)
    · have c1 : ¬ b < g := fun x => b1 ((nM_le (by omega) (by omega)).mpr x)
      have e : g = b := by omega
      subst e
      refine lv_goto (tgt := 386) hx hb dX3_quickSort_339 (by decide) ?_
      exact kk z a _ h w H locs ls hI hM hP hD hS hl
theorem ox_cwQ {n : Nat} (hts : ∀ w ∈ lw_all, w.before args s = true) (hR2 : n + 4 ≤ R.frames ∧ 132 + 40 * n ≤ R.locals) : CallB R s args RX3 41 yX3_quickSort cX3_quickSort 13 none (ws_ yX3_quickSort cX3_quickSort 13 none) (qsR n) 0 0 4 ∧ (Cond.static yX3_quickSort).before args s = true :=
  va_cwS 4 hts (lw_S q91 q60 q5 q61) rfl rfl rfl (by decide +kernel) ⟨by show 3 + n + 1 ≤ R.frames; omega, by show 8 + (13 + 11) + (100 + 40 * n) ≤ R.locals; omega⟩
theorem ox_cwB (hts : ∀ w ∈ lw_all, w.before args s = true) (hR3 : 4 ≤ R.frames ∧ 132 ≤ R.locals) : CallB R s args RX3 38 yX3_swap cX3_swap 5 none (ws_ yX3_swap cX3_swap 5 none) { frames := 1, cells := 0, slots := 0, locals := 24 } 0 0 4 ∧ (Cond.static yX3_swap).before args s = true :=
  va_cwS 4 hts (lw_S q88 q89 q5 q90) rfl rfl rfl (by decide +kernel) ⟨by show 1 + 1 ≤ R.frames; omega, by show 8 + (5 + 11) + 24 ≤ R.locals; omega⟩
set_option maxHeartbeats 4000000 in
set_option maxRecDepth 100000 in
theorem ox_q_last (S : CallFix p m c cX3_quickSort 13 s args lw_all RX3) (hK : va_K (dC, dI) vwCl [(cA, .int)] s) (hX : dkX s) (hR : 1 ≤ R.frames ∧ 24 ≤ R.locals) (hcs : cells ≤ R.cells ∧ slots ≤ R.slots) (hA : ∀ q : Nat, H0.size ≤ q → A q) {n f t : Nat} {z0 : sq_T} (ht : t ≤ 48) (hn : t < f + (n + 1)) (hR2 : n + 4 ≤ R.frames ∧ 132 + 40 * n ≤ R.locals) (ih : ∀ (z : sq_T) (sz f t : Nat), t < f + n → f ≤ t → t ≤ 48 → dkMet l yX3_quickSort (ws_ yX3_quickSort cX3_quickSort 13 none) (qsR n) [.int (nI f), .int (nI t), .ref r, .ref r] dC dI r d a1 a2 cA z sz (fun u => sq_Srt f t z u))
    (kk : ∀ (u : sq_T) (H : Heap) (locs : List Loc) (ls : Array Slot), sq_Srt f t z0 u → va_P (dC, dI) vwCl (dkW r d a1 a2 cA u) H → va_D A (dkW r d a1 a2 cA u) → va_S A H0 H locs → W p l e R s m args below meth c H locs cells slots Q (F0 m 484 ls [])) {b h : Nat} (h1 : f ≤ b) (h2 : b ≤ h) (h3 : h ≤ t) (h4 : h - b + 1 ≤ t - f)
    (z : sq_T) (H : Heap) (locs : List Loc) (ls : Array Slot) (hq : ∀ u, sq_Srt (t - (h - b)) t z u → sq_Srt f t z0 u) (hP : va_P (dC, dI) vwCl (dkW r d a1 a2 cA z) H) (hD : va_D A (dkW r d a1 a2 cA z)) (hS : va_S A H0 H locs) (hl : lv_has ls 13 [(0, .int (nI f)), (1, .int (nI t)), (2, .ref r), (3, .ref r), (10, .int (nM b)), (11, .int (nM h))]) : W p l e R s m args below meth c H locs cells slots Q (F0 m 462 ls []) := by
  have hx := S.1
  have hb := S.2.1
  have hts := S.2.2.2.2
  refine lv_iload hx hb dX3_quickSort_462 (lv_at hl 5 rfl) ?_
  refine lv_iload hx hb dX3_quickSort_464 (lv_at hl 4 rfl) ?_
  refine lv_isub hx hb dX3_quickSort_466 ?_
  refine ox_to (y := nI (h - b)) (nM_sub h2) ?_
  refine lv_dup hx hb dX3_quickSort_467 rfl ?_
  refine lv_istore (lv' := [(12, .int (nI (h - b))), (0, .int (nI f)), (1, .int (nI t)), (2, .ref r), (3, .ref r), (10, .int (nM b)), (11, .int (nM h))]) hx hb dX3_quickSort_468 hl (by decide) rfl (fun ls hl => ?_)
  refine lv_iconst (v := nI 1) hx hb dX3_quickSort_470 (by decide) ?_
  refine lv_icmp_le (tgt := 484) hx hb dX3_quickSort_471 (by decide) (fun b1 => ?_) (fun b1 => ?_)
  · have c1 : h - b ≤ 1 := (nI_leI (by omega) (by omega)).mp b1
    exact kk z H locs ls (hq z ⟨sq_Pm.rf, sq_So.one (by omega)⟩) hP hD hS
  · have c1 : 1 < h - b := Nat.not_le.mp (fun x => b1 (nI_le x (by omega)))
    refine lv_iload_n hx hb dX3_quickSort_474 rfl (lv_at hl 2 rfl) ?_
    refine lv_iload hx hb dX3_quickSort_475 (lv_at hl 0 rfl) ?_
    refine lv_isub hx hb dX3_quickSort_477 ?_
    refine ox_to (y := nI (t - (h - b))) (pk_sub (by omega)) ?_
    refine lv_iload_n hx hb dX3_quickSort_478 rfl (lv_at hl 2 rfl) ?_
    refine lv_aload_n hx hb dX3_quickSort_479 rfl (lv_at hl 3 rfl) ?_
    refine lv_aload_n hx hb dX3_quickSort_480 rfl (lv_at hl 4 rfl) ?_
    refine ox_wr S hl.1 hK hX hcs hA hP hD hS (rest := []) [.int (nI (t - (h - b))), .int (nI (t)), .ref r, .ref r] (ih _ H.size (t - (h - b)) (t) (by omega) (by omega) (by omega)) (ox_cwQ hts hR2) rfl rfl (Nat.le_of_ble_eq_true rfl) dX3_quickSort_481 (fun z2 H locs hz2 hP hD hS => ?_)
    exact kk z2 H locs ls (hq z2 hz2) hP hD hS
set_option maxHeartbeats 4000000 in
set_option maxRecDepth 100000 in
theorem ox_q386 (S : CallFix p m c cX3_quickSort 13 s args lw_all RX3) (hK : va_K (dC, dI) vwCl [(cA, .int)] s) (hX : dkX s) (hR : 1 ≤ R.frames ∧ 24 ≤ R.locals) (hcs : cells ≤ R.cells ∧ slots ≤ R.slots) (hA : ∀ q : Nat, H0.size ≤ q → A q) {n f t : Nat} {v : Int} {z0 : sq_T} (ht : t ≤ 48) (hn : t < f + (n + 1)) (hR2 : n + 4 ≤ R.frames ∧ 132 + 40 * n ≤ R.locals) (ih : ∀ (z : sq_T) (sz f t : Nat), t < f + n → f ≤ t → t ≤ 48 → dkMet l yX3_quickSort (ws_ yX3_quickSort cX3_quickSort 13 none) (qsR n) [.int (nI f), .int (nI t), .ref r, .ref r] dC dI r d a1 a2 cA z sz (fun u => sq_Srt f t z u))
    (kk : ∀ (u : sq_T) (H : Heap) (locs : List Loc) (ls : Array Slot), sq_Srt f t z0 u → va_P (dC, dI) vwCl (dkW r d a1 a2 cA u) H → va_D A (dkW r d a1 a2 cA u) → va_S A H0 H locs → W p l e R s m args below meth c H locs cells slots Q (F0 m 484 ls []))
    (z : sq_T) (a b h w : Nat) (H : Heap) (locs : List Loc) (ls : Array Slot) (hI : sq_Pt f t v z a b b h w) (hM : sq_Pm f t z0 z) (hP : va_P (dC, dI) vwCl (dkW r d a1 a2 cA z) H) (hD : va_D A (dkW r d a1 a2 cA z)) (hS : va_S A H0 H locs) (hl : lv_has ls 13 [(0, .int (nI f)), (1, .int (nI t)), (2, .ref r), (3, .ref r), (8, .int (nI a)), (9, .int (nI b)), (10, .int (nM b)), (11, .int (nM h))]) : W p l e R s m args below meth c H locs cells slots Q (F0 m 386 ls []) := by
  have hx := S.1
  have hb := S.2.1
  have hml := S.2.2.1
  have hown := S.2.2.2.1
  have hts := S.2.2.2.2
  obtain ⟨i1, i2, i3, i4, i5, i6, i7, i8, -⟩ := id hI
  have i9 := hI.less
  refine lv_iload hx hb dX3_quickSort_386 (lv_at hl 4 rfl) ?_
  refine lv_iload_n hx hb dX3_quickSort_388 rfl (lv_at hl 0 rfl) ?_
  refine lv_isub hx hb dX3_quickSort_389 ?_
  refine ox_to (y := nI (a - f)) (pk_sub (by omega)) ?_
  refine lv_iload hx hb dX3_quickSort_390 (lv_at hl 5 rfl) ?_
  refine lv_iload hx hb dX3_quickSort_392 (lv_at hl 4 rfl) ?_
  refine lv_isub hx hb dX3_quickSort_394 ?_
  refine ox_to (y := nI (b - a)) (pk_sub (by omega)) ?_
  refine va_mmin hx hb (hml.trans hl.1.symm) hown (hts _ q85) (hts _ q86) (hts _ q6) (hts _ q87) (by omega) (by show 0 + 13 ≤ R.locals; omega) hcs.1 hcs.2 dX3_quickSort_395 ?_
  obtain ⟨s1, hs1⟩ : ∃ s1, s1 = min (a - f) (b - a) := ⟨_, rfl⟩
  refine ox_to (y := nI s1) ((nI_min (by omega) (by omega)).trans (by rw [← hs1])) ?_
  refine lv_istore (lv' := [(12, .int (nI s1)), (0, .int (nI f)), (1, .int (nI t)), (2, .ref r), (3, .ref r), (8, .int (nI a)), (9, .int (nI b)), (10, .int (nM b)), (11, .int (nM h))]) hx hb dX3_quickSort_398 hl (by decide) rfl (fun ls hl => ?_)
  refine lv_aload_n hx hb dX3_quickSort_400 rfl (lv_at hl 4 rfl) ?_
  refine lv_iload_n hx hb dX3_quickSort_401 rfl (lv_at hl 1 rfl) ?_
  refine lv_iload hx hb dX3_quickSort_402 (lv_at hl 6 rfl) ?_
  refine lv_iload hx hb dX3_quickSort_404 (lv_at hl 0 rfl) ?_
  refine lv_isub hx hb dX3_quickSort_406 ?_
  refine ox_to (y := nI (b - s1)) (pk_sub (by omega)) ?_
  refine lv_iload hx hb dX3_quickSort_407 (lv_at hl 0 rfl) ?_
  refine ox_wr S hl.1 hK hX hcs hA hP hD hS (rest := []) [.ref r, .int (nI (f)), .int (nI (b - s1)), .int (nI s1)] (metX3_swap l dC dI r d a1 a2 cA _ H.size (a := f) (b := b - s1) (n0 := s1) (by omega) (by omega)) (ox_cwB hts ⟨by omega, by omega⟩) rfl rfl (Nat.le_of_ble_eq_true rfl) dX3_quickSort_409 (fun zz H locs hzz hP hD hS => ?_)
  subst hzz
  refine lv_iload hx hb dX3_quickSort_412 (lv_at hl 8 rfl) ?_
  refine lv_iload hx hb dX3_quickSort_414 (lv_at hl 7 rfl) ?_
  refine lv_isub hx hb dX3_quickSort_416 ?_
  refine ox_to (y := nI (h - b)) (nM_sub (by omega)) ?_
  refine lv_iload_n hx hb dX3_quickSort_417 rfl (lv_at hl 2 rfl) ?_
  refine lv_iload hx hb dX3_quickSort_418 (lv_at hl 8 rfl) ?_
  refine lv_isub hx hb dX3_quickSort_420 ?_
  refine lv_iconst (v := nI 1) hx hb dX3_quickSort_421 (by decide) ?_
  refine lv_isub hx hb dX3_quickSort_422 ?_
  refine ox_to (y := nI (t - h)) (nM_sub1 (by omega)) ?_
  refine va_mmin hx hb (hml.trans hl.1.symm) hown (hts _ q85) (hts _ q86) (hts _ q6) (hts _ q87) (by omega) (by show 0 + 13 ≤ R.locals; omega) hcs.1 hcs.2 dX3_quickSort_423 ?_
  obtain ⟨s2, hs2⟩ : ∃ s2, s2 = min (h - b) (t - h) := ⟨_, rfl⟩
  refine ox_to (y := nI s2) ((nI_min (by omega) (by omega)).trans (by rw [← hs2])) ?_
  refine lv_istore (lv' := [(12, .int (nI s2)), (0, .int (nI f)), (1, .int (nI t)), (2, .ref r), (3, .ref r), (8, .int (nI a)), (9, .int (nI b)), (10, .int (nM b)), (11, .int (nM h))]) hx hb dX3_quickSort_426 hl (by decide) rfl (fun ls hl => ?_)
  refine lv_aload_n hx hb dX3_quickSort_428 rfl (lv_at hl 4 rfl) ?_
  refine lv_iload hx hb dX3_quickSort_429 (lv_at hl 6 rfl) ?_
  refine lv_iload_n hx hb dX3_quickSort_431 rfl (lv_at hl 2 rfl) ?_
  refine lv_iload hx hb dX3_quickSort_432 (lv_at hl 0 rfl) ?_
  refine lv_isub hx hb dX3_quickSort_434 ?_
  refine ox_to (y := nI (t - s2)) (pk_sub (by omega)) ?_
  refine lv_iload hx hb dX3_quickSort_435 (lv_at hl 0 rfl) ?_
  refine ox_wr S hl.1 hK hX hcs hA hP hD hS (rest := []) [.ref r, .int (nI (b)), .int (nI (t - s2)), .int (nI s2)] (metX3_swap l dC dI r d a1 a2 cA _ H.size (a := b) (b := t - s2) (n0 := s2) (by omega) (by omega)) (ox_cwB hts ⟨by omega, by omega⟩) rfl rfl (Nat.le_of_ble_eq_true rfl) dX3_quickSort_437 (fun zz H locs hzz hP hD hS => ?_)
  subst hzz
  have hZ := hI.zones hs1 hs2
  have hp1 := sq_vs_Pm (lo := f) (hi := t) s1 z f (b - s1) (by omega) (by omega) (by omega) (by omega)
  have hp2 := sq_vs_Pm (lo := f) (hi := t) s2 (sq_vs z f (b - s1) s1) b (t - s2) (by omega) (by omega) (by omega) (by omega)
  have hpm := (hM.tr hp1).tr hp2
  clear hp1 hp2
  generalize sq_vs (sq_vs z f (b - s1) s1) b (t - s2) s2 = y0 at hP hD hZ hpm
  have fin : ∀ u1, sq_Srt f (f + (b - a)) y0 u1 → ∀ u, sq_Srt (t - (h - b)) t u1 u → sq_Srt f t z0 u := fun u1 k1 u k2 => by
    have k3 := sq_zones (by omega) (by omega) (by omega) hZ k1 k2
    exact ⟨hpm.tr k3.1, k3.2⟩
  refine lv_iload hx hb dX3_quickSort_440 (lv_at hl 6 rfl) ?_
  refine lv_iload hx hb dX3_quickSort_442 (lv_at hl 5 rfl) ?_
  refine lv_isub hx hb dX3_quickSort_444 ?_
  refine ox_to (y := nI (b - a)) (pk_sub (by omega)) ?_
  refine lv_dup hx hb dX3_quickSort_445 rfl ?_
  refine lv_istore (lv' := [(12, .int (nI (b - a))), (0, .int (nI f)), (1, .int (nI t)), (2, .ref r), (3, .ref r), (8, .int (nI a)), (9, .int (nI b)), (10, .int (nM b)), (11, .int (nM h))]) hx hb dX3_quickSort_446 hl (by decide) rfl (fun ls hl => ?_)
  refine lv_iconst (v := nI 1) hx hb dX3_quickSort_448 (by decide) ?_
  refine lv_icmp_le (tgt := 462) hx hb dX3_quickSort_449 (by decide) (fun b1 => ?_) (fun b1 => ?_)
  · have c1 : b - a ≤ 1 := (nI_leI (by omega) (by omega)).mp b1
    exact ox_q_last S hK hX hR hcs hA ht hn hR2 ih kk (b := b) (h := h) (by omega) (by omega) (by omega) (by omega) y0 H locs ls (fin y0 ⟨sq_Pm.rf, sq_So.one (by omega)⟩) hP hD hS (lv_sub hl [1, 2, 3, 4, 7, 8] rfl)
  · have c1 : 1 < b - a := Nat.not_le.mp (fun x => b1 (nI_le x (by omega)))
    refine lv_iload_n hx hb dX3_quickSort_452 rfl (lv_at hl 1 rfl) ?_
    refine lv_iload_n hx hb dX3_quickSort_453 rfl (lv_at hl 1 rfl) ?_
    refine lv_iload hx hb dX3_quickSort_454 (lv_at hl 0 rfl) ?_
    refine lv_iadd hx hb dX3_quickSort_456 ?_
    refine ox_to (y := nI (f + (b - a))) (nI_add _ _) ?_
    refine lv_aload_n hx hb dX3_quickSort_457 rfl (lv_at hl 3 rfl) ?_
    refine lv_aload_n hx hb dX3_quickSort_458 rfl (lv_at hl 4 rfl) ?_
    refine ox_wr S hl.1 hK hX hcs hA hP hD hS (rest := []) [.int (nI (f)), .int (nI (f + (b - a))), .ref r, .ref r] (ih _ H.size (f) (f + (b - a)) (by omega) (by omega) (by omega)) (ox_cwQ hts hR2) rfl rfl (Nat.le_of_ble_eq_true rfl) dX3_quickSort_459 (fun u1 H locs hu1 hP hD hS => ?_)
    exact ox_q_last S hK hX hR hcs hA ht hn hR2 ih kk (b := b) (h := h) (by omega) (by omega) (by omega) (by omega) u1 H locs ls (fin u1 hu1) hP hD hS (lv_sub hl [1, 2, 3, 4, 7, 8] rfl)
end OXQ
set_option maxHeartbeats 4000000 in
set_option maxRecDepth 100000 in
/-- quickSort: a range brought into order -/
theorem metX3_quickSort (l : Launch) (dC : Nat → ClassId) (dI : Nat → Nat → Nat) (r d a1 a2 : Nat) (cA : ClassId) : ∀ n : Nat, ∀ (z : sq_T) (sz f t : Nat), t < f + n → f ≤ t → t ≤ 48 → dkMet l yX3_quickSort (ws_ yX3_quickSort cX3_quickSort 13 none) (qsR n) [.int (nI f), .int (nI t), .ref r, .ref r] dC dI r d a1 a2 cA z sz (fun u => sq_Srt f t z u) := by
  intro n
  induction n with
  | zero => intro z sz f t h1; omega
  | succ n ih =>
  intro z sz f t hn hft ht
  refine Met.ofW (cc := cX3_quickSort) (maxL := 13) (ret := none) (by decide) rfl ?_
  intro p e s m args below meth c s₁ B hml hv
  obtain ⟨rfl, hsz, hP, hK, hD0, hX⟩ := hv
  have hx := B.exec
  have hb := B.bytes
  have hr := B.returns
  have hts := atoms_spec (ws := ws_ yX3_quickSort cX3_quickSort 13 none) B.pre
  have hts : ∀ w ∈ lw_all, w.before _ s = true := fun w h => hts w (List.mem_cons_of_mem _ h)
  have hown : s.vm.findClass RX3 = some m.cls := findClass_of_methodNamed B.named
  have hlocks := B.notSynchronized
  subst hsz
  have hD := dkD.own hD0 s.heap.size
  have hA : ∀ q : Nat, s.heap.size ≤ q → dkA r d a1 a2 s.heap.size q := fun q h => Or.inr (Or.inr (Or.inr (Or.inr h)))
  have hS : va_S (dkA r d a1 a2 s.heap.size) s.heap s.heap [] := va_S.rf
  have hl := lv_entry ([.int (nI f), .int (nI t), .ref r, .ref r]) (n := 13) (Nat.le_of_ble_eq_true rfl)
  rw [lg_entry_eq]
  generalize (lg_sl ([.int (nI f), .int (nI t), .ref r, .ref r]) ++ List.replicate (13 - (lg_sl ([.int (nI f), .int (nI t), .ref r, .ref r])).length) Slot.unset).toArray = ls at hl ⊢
  have hl : lv_has ls 13 [(0, .int (nI f)), (1, .int (nI t)), (2, .ref r), (3, .ref r)] := hl
  generalize hRm : (headSpec (ws_ yX3_quickSort cX3_quickSort 13 none) (qsR (n + 1))).room = R
  have hRf : R.frames = 3 + (n + 1) := by rw [← hRm]; rfl
  have hRl : R.locals = 100 + 40 * (n + 1) := by rw [← hRm]; rfl
  have hR : 1 ≤ R.frames ∧ 24 ≤ R.locals := ⟨by omega, by omega⟩
  have hcs : 0 ≤ R.cells ∧ 0 ≤ R.slots := ⟨Nat.zero_le _, Nat.zero_le _⟩
  have hR2 : n + 4 ≤ R.frames ∧ 132 + 40 * n ≤ R.locals := ⟨by omega, by omega⟩
  have S : CallFix p m c cX3_quickSort 13 s _ lw_all RX3 := ⟨hx, hb, hml, hown, hts⟩
  refine lv_iload_n hx hb dX3_quickSort_0 rfl (lv_at hl 1 rfl) ?_
  refine lv_iload_n hx hb dX3_quickSort_1 rfl (lv_at hl 0 rfl) ?_
  refine lv_isub hx hb dX3_quickSort_2 ?_
  refine ox_to (y := nI (t - f)) (pk_sub (by omega)) ?_
  refine lv_istore (lv' := [(4, .int (nI (t - f))), (0, .int (nI f)), (1, .int (nI t)), (2, .ref r), (3, .ref r)]) hx hb dX3_quickSort_3 hl (by decide) rfl (fun ls hl => ?_)
  refine lv_iload hx hb dX3_quickSort_5 (lv_at hl 0 rfl) ?_
  refine lv_bipush (v := nI 16) hx hb dX3_quickSort_7 (by decide) ?_
  refine lv_icmp_ge (tgt := 71) hx hb dX3_quickSort_9 (by decide) (fun b1 => ?_) (fun b1 => ?_)
  · have c1 : 16 ≤ t - f := (nI_leI (by omega) (by omega)).mp b1
    refine lv_iload_n hx hb dX3_quickSort_71 rfl (lv_at hl 1 rfl) ?_
    refine lv_iload hx hb dX3_quickSort_72 (lv_at hl 0 rfl) ?_
    refine lv_iconst (v := nI 2) hx hb dX3_quickSort_74 (by decide) ?_
    refine lv_idiv hx hb dX3_quickSort_75 (by decide) ?_
    refine ox_to (y := nI ((t - f) / 2)) (pk_div (by omega) (by omega) (by omega)) ?_
    refine lv_iadd hx hb dX3_quickSort_76 ?_
    refine ox_to (y := nI (f + (t - f) / 2)) (nI_add _ _) ?_
    refine lv_istore (lv' := [(5, .int (nI (f + (t - f) / 2))), (4, .int (nI (t - f))), (0, .int (nI f)), (1, .int (nI t)), (2, .ref r), (3, .ref r)]) hx hb dX3_quickSort_77 hl (by decide) rfl (fun ls hl => ?_)
    refine lv_iload_n hx hb dX3_quickSort_79 rfl (lv_at hl 2 rfl) ?_
    refine lv_istore (lv' := [(6, .int (nI f)), (5, .int (nI (f + (t - f) / 2))), (4, .int (nI (t - f))), (0, .int (nI f)), (1, .int (nI t)), (2, .ref r), (3, .ref r)]) hx hb dX3_quickSort_80 hl (by decide) rfl (fun ls hl => ?_)
    refine lv_iload_n hx hb dX3_quickSort_82 rfl (lv_at hl 4 rfl) ?_
    refine lv_iconst (v := nI 1) hx hb dX3_quickSort_83 (by decide) ?_
    refine lv_isub hx hb dX3_quickSort_84 ?_
    refine ox_to (y := nI (t - 1)) (pk_sub (by omega)) ?_
    refine lv_istore (lv' := [(7, .int (nI (t - 1))), (6, .int (nI f)), (5, .int (nI (f + (t - f) / 2))), (4, .int (nI (t - f))), (0, .int (nI f)), (1, .int (nI t)), (2, .ref r), (3, .ref r)]) hx hb dX3_quickSort_85 hl (by decide) rfl (fun ls hl => ?_)
    refine lv_iload hx hb dX3_quickSort_87 (lv_at hl 3 rfl) ?_
    refine lv_sipush (v := nI 128) hx hb dX3_quickSort_89 (by decide) ?_
    refine lv_icmp_le (tgt := 160) hx hb dX3_quickSort_92 (by decide) (fun b2 => ?_) (fun b2 => ?_)
    · refine lv_iload hx hb dX3_quickSort_160 (lv_at hl 1 rfl) ?_
      refine lv_iload hx hb dX3_quickSort_162 (lv_at hl 2 rfl) ?_
      refine lv_iload hx hb dX3_quickSort_164 (lv_at hl 0 rfl) ?_
      refine lv_aload_n hx hb dX3_quickSort_166 rfl (lv_at hl 6 rfl) ?_
      refine ox_rd S hl.1 hK hX hcs hP hD (rest := []) [.int (nI f), .int (nI (f + (t - f) / 2)), .int (nI (t - 1)), .ref r] (metX3_med3 l dC dI r d a1 a2 cA z s.heap.size (f0 := f) (t0 := f + (t - f) / 2) (p0 := t - 1) (by omega) (by omega) (by omega)) (va_cwS 4 hts (lw_S q82 q83 q5 q84) rfl rfl rfl (by decide +kernel) ⟨by show 1 + 1 ≤ R.frames; omega, by show 8 + (7 + 11) + 24 ≤ R.locals; omega⟩) rfl rfl (Nat.le_of_ble_eq_true rfl) dX3_quickSort_167 (fun v hv => ?_)
      obtain ⟨w, hv, hw⟩ := hv
      subst hv
      refine lv_istore (lv' := [(5, .int (nI w)), (7, .int (nI (t - 1))), (6, .int (nI f)), (4, .int (nI (t - f))), (0, .int (nI f)), (1, .int (nI t)), (2, .ref r), (3, .ref r)]) hx hb dX3_quickSort_170 hl (by decide) rfl (fun ls hl => ?_)
      refine lv_iload_n hx hb dX3_quickSort_172 rfl (lv_at hl 4 rfl) ?_
      refine lv_istore (lv' := [(8, .int (nI f)), (5, .int (nI w)), (7, .int (nI (t - 1))), (6, .int (nI f)), (4, .int (nI (t - f))), (0, .int (nI f)), (1, .int (nI t)), (2, .ref r), (3, .ref r)]) hx hb dX3_quickSort_173 hl (by decide) rfl (fun ls hl => ?_)
      refine lv_iload hx hb dX3_quickSort_175 (lv_at hl 0 rfl) ?_
      refine lv_istore (lv' := [(9, .int (nI f)), (8, .int (nI f)), (5, .int (nI w)), (7, .int (nI (t - 1))), (6, .int (nI f)), (4, .int (nI (t - f))), (0, .int (nI f)), (1, .int (nI t)), (2, .ref r), (3, .ref r)]) hx hb dX3_quickSort_177 hl (by decide) rfl (fun ls hl => ?_)
      refine lv_iload_n hx hb dX3_quickSort_179 rfl (lv_at hl 7 rfl) ?_
      refine lv_iconst (v := nI 1) hx hb dX3_quickSort_180 (by decide) ?_
      refine lv_isub hx hb dX3_quickSort_181 ?_
      refine ox_to (y := nM t) (nM_p (by omega)) ?_
      refine lv_istore (lv' := [(10, .int (nM t)), (9, .int (nI f)), (8, .int (nI f)), (5, .int (nI w)), (7, .int (nI (t - 1))), (6, .int (nI f)), (4, .int (nI (t - f))), (0, .int (nI f)), (1, .int (nI t)), (2, .ref r), (3, .ref r)]) hx hb dX3_quickSort_182 hl (by decide) rfl (fun ls hl => ?_)
      refine lv_iload hx hb dX3_quickSort_184 (lv_at hl 0 rfl) ?_
      refine lv_istore (lv' := [(11, .int (nM t)), (10, .int (nM t)), (9, .int (nI f)), (8, .int (nI f)), (5, .int (nI w)), (7, .int (nI (t - 1))), (6, .int (nI f)), (4, .int (nI (t - f))), (0, .int (nI f)), (1, .int (nI t)), (2, .ref r), (3, .ref r)]) hx hb dX3_quickSort_186 hl (by decide) rfl (fun ls hl => ?_)
      refine ox_qout (v := sq_K (z w)) (z0 := z) S hK hX hR hcs hA ht (fun z1 a b h w1 H locs ls hI hM hP hD hS hl => ?_) (t + 1) z f f t t w s.heap [] ls (by omega) (sq_Pt.start (by omega) (by omega)) sq_Pm.rf hP hD hS (lv_sub hl [8, 9, 10, 11, 4, 3, 2, 1, 0] rfl)
      exact ox_q386 S hK hX hR hcs hA ht hn hR2 ih (fun u H locs ls hu hP hD hS => W.vret hx hb hr (fun t ht hW => ⟨⟨u, rfl, hu, dk_end ht hP⟩, hS.F ht⟩) hS.2.2 dX3_quickSort_484) z1 a b h w1 H locs ls hI hM hP hD hS (lv_sub hl [0, 1, 2, 3, 5, 6, 7, 8] rfl)
    · exact absurd (nI_le (by omega) (by omega)) b2
  · refine lv_iload_n hx hb dX3_quickSort_12 rfl (lv_at hl 1 rfl) ?_
    refine lv_istore (lv' := [(5, .int (nI f)), (4, .int (nI (t - f))), (0, .int (nI f)), (1, .int (nI t)), (2, .ref r), (3, .ref r)]) hx hb dX3_quickSort_13 hl (by decide) rfl (fun ls hl => ?_)
    refine ox_quickSort_out S hK hX hR hcs hA ht (fun z1 H locs ls hq hP hD hS => ?_) (t + 1) f z s.heap [] ls (by omega) (Nat.le_refl f) hft (sq_So.one (by omega)) sq_Pm.rf hP hD hS (lv_sub hl [2, 3, 4, 5, 0] rfl)
    exact W.vret hx hb hr (fun t ht hW => ⟨⟨z1, rfl, hq, dk_end ht hP⟩, hS.F ht⟩) hS.2.2 dX3_quickSort_70
end
section
/-! SwapSortDesk: its methods -/
/-- x & 2147483647 -/
def sq_m (x : Int32) : Nat := x.toBitVec.toNat % 2147483648
theorem sq_m_lt (x : Int32) : sq_m x < 2147483648 := Nat.mod_lt _ (by decide)
theorem sq_and (x : Int32) : x &&& 2147483647 = nI (sq_m x) := pk_and x 31 (by decide)
theorem sq_m_nI {k : Nat} (h : k < 2147483648) : sq_m (nI k) = k := by
  unfold sq_m
  rw [pk_tn (by omega)]
  exact Nat.mod_eq_of_lt h
/-- from(f) -/
def sq_fr (x : Int32) : Nat := sq_m x % 49
/-- to(f, t) -/
def sq_to (x y : Int32) : Nat := sq_fr x + sq_m y % (49 - sq_fr x)
theorem sq_fr_le (x : Int32) : sq_fr x ≤ 48 := Nat.le_of_lt_succ (Nat.mod_lt _ (by decide))
theorem sq_to_in (x y : Int32) : sq_fr x ≤ sq_to x y ∧ sq_to x y ≤ 48 := by
  have h1 := sq_fr_le x
  have h2 : sq_m y % (49 - sq_fr x) < 49 - sq_fr x := Nat.mod_lt _ (by omega)
  unfold sq_to
  omega
theorem sq_up_1 (z : sq_T) (k : Nat) (x y : Int32) : upd (fun q => (z q).1) k x = fun q => (sq_up z k (x, y) q).1 := by
  funext q
  unfold upd sq_up
  split <;> rfl
theorem sq_up_2 (z : sq_T) (k : Nat) (x y : Int32) : upd (fun q => (z q).2) k y = fun q => (sq_up z k (x, y) q).2 := by
  funext q
  unfold upd sq_up
  split <;> rfl
set_option maxHeartbeats 4000000 in
set_option maxRecDepth 100000 in
theorem metX1_from (l : Launch) (d : Nat) (x : Int32) : Met l yX1_from (ws_ yX1_from cX1_from 2 (some .int)) { frames := 0, cells := 0, slots := 0, locals := 0 } (va_Pc [.ref d, .int x] (fun _ => True)) (vp_Si (fun v => v = nI (sq_fr x))) 0 0 (fun _ => False) := by
  refine Met.ofW (cc := cX1_from) (maxL := 2) (ret := (some .int)) (by decide) rfl ?_
  intro p e s m args below meth c s₁ B hml hv
  obtain ⟨rfl, -⟩ := hv
  have hx := B.exec
  have hb := B.bytes
  have hr := B.returns
  have hts := atoms_spec (ws := (ws_ yX1_from cX1_from 2 (some .int))) B.pre
  have hts : ∀ w ∈ lw_all, w.before _ s = true := fun w h => hts w (List.mem_cons_of_mem _ h)
  have hown : s.vm.findClass RX1 = some m.cls := findClass_of_methodNamed B.named
  have hlocks := B.notSynchronized
  have hl := lv_entry ([.ref d, .int x]) (n := 2) (Nat.le_of_ble_eq_true rfl)
  rw [lg_entry_eq]
  generalize (lg_sl ([.ref d, .int x]) ++ List.replicate (2 - (lg_sl ([.ref d, .int x])).length) Slot.unset).toArray = ls at hl ⊢
  have hl : lv_has ls 2 [(0, .ref d), (1, .int x)] := hl
  refine lv_iload_n hx hb dX1_from_0 rfl (lv_at hl 1 rfl) ?_
  refine lv_ldc (v := 2147483647) hx hb hown (hts _ q42) dX1_from_1 ?_
  refine lv_iand hx hb dX1_from_3 ?_
  refine ox_to (y := nI (sq_m x)) (sq_and _) ?_
  refine lv_bipush (v := nI 49) hx hb dX1_from_4 (by decide) ?_
  have hm := sq_m_lt x
  refine lv_irem hx hb dX1_from_6 (by decide) ?_
  refine ox_to (y := nI (sq_m x % 49)) (pk_rem (by omega) (by omega) (by omega)) ?_
  exact W.iret (v := nI (sq_fr x)) hx hb hr (fun t ht hW => ⟨_, rfl, rfl, ht⟩) (fun q h => by cases h) dX1_from_7
set_option maxHeartbeats 4000000 in
set_option maxRecDepth 100000 in
theorem metX1_to (l : Launch) (d : Nat) {n : Nat} (hn : n ≤ 48) (x : Int32) : Met l yX1_to (ws_ yX1_to cX1_to 3 (some .int)) { frames := 0, cells := 0, slots := 0, locals := 0 } (va_Pc [.ref d, .int (nI n), .int x] (fun _ => True)) (vp_Si (fun v => v = nI (n + sq_m x % (49 - n)))) 0 0 (fun _ => False) := by
  refine Met.ofW (cc := cX1_to) (maxL := 3) (ret := (some .int)) (by decide) rfl ?_
  intro p e s m args below meth c s₁ B hml hv
  obtain ⟨rfl, -⟩ := hv
  have hx := B.exec
  have hb := B.bytes
  have hr := B.returns
  have hts := atoms_spec (ws := (ws_ yX1_to cX1_to 3 (some .int))) B.pre
  have hts : ∀ w ∈ lw_all, w.before _ s = true := fun w h => hts w (List.mem_cons_of_mem _ h)
  have hown : s.vm.findClass RX1 = some m.cls := findClass_of_methodNamed B.named
  have hlocks := B.notSynchronized
  have hl := lv_entry ([.ref d, .int (nI n), .int x]) (n := 3) (Nat.le_of_ble_eq_true rfl)
  rw [lg_entry_eq]
  generalize (lg_sl ([.ref d, .int (nI n), .int x]) ++ List.replicate (3 - (lg_sl ([.ref d, .int (nI n), .int x])).length) Slot.unset).toArray = ls at hl ⊢
  have hl : lv_has ls 3 [(0, .ref d), (1, .int (nI n)), (2, .int x)] := hl
  refine lv_iload_n hx hb dX1_to_0 rfl (lv_at hl 1 rfl) ?_
  refine lv_iload_n hx hb dX1_to_1 rfl (lv_at hl 2 rfl) ?_
  refine lv_ldc (v := 2147483647) hx hb hown (hts _ q42) dX1_to_2 ?_
  refine lv_iand hx hb dX1_to_4 ?_
  refine ox_to (y := nI (sq_m x)) (sq_and _) ?_
  refine lv_bipush (v := nI 49) hx hb dX1_to_5 (by decide) ?_
  refine lv_iload_n hx hb dX1_to_7 rfl (lv_at hl 1 rfl) ?_
  refine lv_isub hx hb dX1_to_8 ?_
  refine ox_to (y := nI (49 - n)) (pk_sub (by omega)) ?_
  have hm := sq_m_lt x
  refine lv_irem hx hb dX1_to_9 (nI_ne0 (by omega) (by omega)) ?_
  refine ox_to (y := nI (sq_m x % (49 - n))) (pk_rem (by omega) (by omega) (by omega)) ?_
  refine lv_iadd hx hb dX1_to_10 ?_
  refine ox_to (y := nI (n + sq_m x % (49 - n))) (nI_add _ _) ?_
  exact W.iret (v := nI (n + sq_m x % (49 - n))) hx hb hr (fun t ht hW => ⟨_, rfl, rfl, ht⟩) (fun q h => by cases h) dX1_to_11
set_option maxHeartbeats 4000000 in
set_option maxRecDepth 100000 in
theorem metX1_first (l : Launch) (dC : Nat → ClassId) (dI : Nat → Nat → Nat) (r d a1 a2 : Nat) (cA : ClassId) (z : sq_T) (sz : Nat) (x : Int32) : dkMetR l yX1_first (ws_ yX1_first cX1_first 2 (some .int)) { frames := 0, cells := 0, slots := 0, locals := 0 } [.ref d, .int x] dC dI r d a1 a2 cA z sz (fun v => v = (z (sq_m x % 48)).1) := by
  refine Met.ofW (cc := cX1_first) (maxL := 2) (ret := (some .int)) (by decide) rfl ?_
  intro p e s m args below meth c s₁ B hml hv
  obtain ⟨rfl, hsz, hP, hK, hD0, hX⟩ := hv
  have hx := B.exec
  have hb := B.bytes
  have hr := B.returns
  have hts := atoms_spec (ws := ws_ yX1_first cX1_first 2 (some .int)) B.pre
  have hts : ∀ w ∈ lw_all, w.before _ s = true := fun w h => hts w (List.mem_cons_of_mem _ h)
  have hown : s.vm.findClass RX1 = some m.cls := findClass_of_methodNamed B.named
  have hlocks := B.notSynchronized
  subst hsz
  have hl := lv_entry ([.ref d, .int x]) (n := 2) (Nat.le_of_ble_eq_true rfl)
  rw [lg_entry_eq]
  generalize (lg_sl ([.ref d, .int x]) ++ List.replicate (2 - (lg_sl ([.ref d, .int x])).length) Slot.unset).toArray = ls at hl ⊢
  have hl : lv_has ls 2 [(0, .ref d), (1, .int x)] := hl
  refine lv_aload_n hx hb dX1_first_0 rfl (lv_at hl 0 rfl) ?_
  refine va_get (D := (dC, dI)) (ci := 0) (v := .ref a1) (C := RX1) (T := TX1) (N := 3) hx hb hts in_X1 hown hK hP 1 rfl rfl 0 (by decide) (hts _ q26) (fun _ h9 => h9) rfl dX1_first_1 ?_
  refine lv_iload_n hx hb dX1_first_4 rfl (lv_at hl 1 rfl) ?_
  refine lv_ldc (v := 2147483647) hx hb hown (hts _ q42) dX1_first_5 ?_
  refine lv_iand hx hb dX1_first_7 ?_
  refine ox_to (y := nI (sq_m x)) (sq_and _) ?_
  refine lv_bipush (v := nI 48) hx hb dX1_first_8 (by decide) ?_
  have hm := sq_m_lt x
  refine lv_irem hx hb dX1_first_10 (by decide) ?_
  refine ox_to (y := nI (sq_m x % 48)) (pk_rem (by omega) (by omega) (by omega)) ?_
  refine ox_iald hx hb hK hP 2 0 rfl rfl (i := sq_m x % 48) (Nat.mod_lt _ (by decide)) (by decide) (v := (z (sq_m x % 48)).1) rfl dX1_first_11 ?_
  exact W.iret (v := (z (sq_m x % 48)).1) hx hb hr (fun t ht hW => ⟨_, rfl, rfl, ht⟩) (fun q h => by cases h) dX1_first_12
set_option maxHeartbeats 4000000 in
set_option maxRecDepth 100000 in
theorem metX1_second (l : Launch) (dC : Nat → ClassId) (dI : Nat → Nat → Nat) (r d a1 a2 : Nat) (cA : ClassId) (z : sq_T) (sz : Nat) (x : Int32) : dkMetR l yX1_second (ws_ yX1_second cX1_second 2 (some .int)) { frames := 0, cells := 0, slots := 0, locals := 0 } [.ref d, .int x] dC dI r d a1 a2 cA z sz (fun v => v = (z (sq_m x % 48)).2) := by
  refine Met.ofW (cc := cX1_second) (maxL := 2) (ret := (some .int)) (by decide) rfl ?_
  intro p e s m args below meth c s₁ B hml hv
  obtain ⟨rfl, hsz, hP, hK, hD0, hX⟩ := hv
  have hx := B.exec
  have hb := B.bytes
  have hr := B.returns
  have hts := atoms_spec (ws := ws_ yX1_second cX1_second 2 (some .int)) B.pre
  have hts : ∀ w ∈ lw_all, w.before _ s = true := fun w h => hts w (List.mem_cons_of_mem _ h)
  have hown : s.vm.findClass RX1 = some m.cls := findClass_of_methodNamed B.named
  have hlocks := B.notSynchronized
  subst hsz
  have hl := lv_entry ([.ref d, .int x]) (n := 2) (Nat.le_of_ble_eq_true rfl)
  rw [lg_entry_eq]
  generalize (lg_sl ([.ref d, .int x]) ++ List.replicate (2 - (lg_sl ([.ref d, .int x])).length) Slot.unset).toArray = ls at hl ⊢
  have hl : lv_has ls 2 [(0, .ref d), (1, .int x)] := hl
  refine lv_aload_n hx hb dX1_second_0 rfl (lv_at hl 0 rfl) ?_
  refine va_get (D := (dC, dI)) (ci := 0) (v := .ref a2) (C := RX1) (T := TX1) (N := 3) hx hb hts in_X1 hown hK hP 1 rfl rfl 1 (by decide) (hts _ q28) (fun _ h9 => h9) rfl dX1_second_1 ?_
  refine lv_iload_n hx hb dX1_second_4 rfl (lv_at hl 1 rfl) ?_
  refine lv_ldc (v := 2147483647) hx hb hown (hts _ q42) dX1_second_5 ?_
  refine lv_iand hx hb dX1_second_7 ?_
  refine ox_to (y := nI (sq_m x)) (sq_and _) ?_
  refine lv_bipush (v := nI 48) hx hb dX1_second_8 (by decide) ?_
  have hm := sq_m_lt x
  refine lv_irem hx hb dX1_second_10 (by decide) ?_
  refine ox_to (y := nI (sq_m x % 48)) (pk_rem (by omega) (by omega) (by omega)) ?_
  refine ox_iald hx hb hK hP 3 0 rfl rfl (i := sq_m x % 48) (Nat.mod_lt _ (by decide)) (by decide) (v := (z (sq_m x % 48)).2) rfl dX1_second_11 ?_
  exact W.iret (v := (z (sq_m x % 48)).2) hx hb hr (fun t ht hW => ⟨_, rfl, rfl, ht⟩) (fun q h => by cases h) dX1_second_12
set_option maxHeartbeats 4000000 in
set_option maxRecDepth 100000 in
theorem metX1_set (l : Launch) (dC : Nat → ClassId) (dI : Nat → Nat → Nat) (r d a1 a2 : Nat) (cA : ClassId) (z : sq_T) (sz : Nat) (x v1 v2 : Int32) : dkMet l yX1_set (ws_ yX1_set cX1_set 5 none) { frames := 0, cells := 0, slots := 0, locals := 0 } [.ref d, .int x, .int v1, .int v2] dC dI r d a1 a2 cA z sz (fun u => u = sq_up z (sq_m x % 48) (v1, v2)) := by
  refine Met.ofW (cc := cX1_set) (maxL := 5) (ret := none) (by decide) rfl ?_
  intro p e s m args below meth c s₁ B hml hv
  obtain ⟨rfl, hsz, hP, hK, hD0, hX⟩ := hv
  have hx := B.exec
  have hb := B.bytes
  have hr := B.returns
  have hts := atoms_spec (ws := ws_ yX1_set cX1_set 5 none) B.pre
  have hts : ∀ w ∈ lw_all, w.before _ s = true := fun w h => hts w (List.mem_cons_of_mem _ h)
  have hown : s.vm.findClass RX1 = some m.cls := findClass_of_methodNamed B.named
  have hlocks := B.notSynchronized
  subst hsz
  have hD := dkD.own hD0 s.heap.size
  have hA : ∀ q : Nat, s.heap.size ≤ q → dkA r d a1 a2 s.heap.size q := fun q h => Or.inr (Or.inr (Or.inr (Or.inr h)))
  have hS : va_S (dkA r d a1 a2 s.heap.size) s.heap s.heap [] := va_S.rf
  have hl := lv_entry ([.ref d, .int x, .int v1, .int v2]) (n := 5) (Nat.le_of_ble_eq_true rfl)
  rw [lg_entry_eq]
  generalize (lg_sl ([.ref d, .int x, .int v1, .int v2]) ++ List.replicate (5 - (lg_sl ([.ref d, .int x, .int v1, .int v2])).length) Slot.unset).toArray = ls at hl ⊢
  have hl : lv_has ls 5 [(0, .ref d), (1, .int x), (2, .int v1), (3, .int v2)] := hl
  refine lv_iload_n hx hb dX1_set_0 rfl (lv_at hl 1 rfl) ?_
  refine lv_ldc (v := 2147483647) hx hb hown (hts _ q42) dX1_set_1 ?_
  refine lv_iand hx hb dX1_set_3 ?_
  refine ox_to (y := nI (sq_m x)) (sq_and _) ?_
  refine lv_bipush (v := nI 48) hx hb dX1_set_4 (by decide) ?_
  have hm := sq_m_lt x
  refine lv_irem hx hb dX1_set_6 (by decide) ?_
  refine ox_to (y := nI (sq_m x % 48)) (pk_rem (by omega) (by omega) (by omega)) ?_
  refine lv_istore (lv' := [(4, .int (nI (sq_m x % 48))), (0, .ref d), (1, .int x), (2, .int v1), (3, .int v2)]) hx hb dX1_set_7 hl (by decide) rfl (fun ls hl => ?_)
  refine lv_aload_n hx hb dX1_set_9 rfl (lv_at hl 1 rfl) ?_
  refine va_get (D := (dC, dI)) (ci := 0) (v := .ref a1) (C := RX1) (T := TX1) (N := 3) hx hb hts in_X1 hown hK hP 1 rfl rfl 0 (by decide) (hts _ q26) (fun _ h9 => h9) rfl dX1_set_10 ?_
  refine lv_iload hx hb dX1_set_13 (lv_at hl 0 rfl) ?_
  refine lv_iload_n hx hb dX1_set_15 rfl (lv_at hl 3 rfl) ?_
  refine ox_iast hx hb hK hP hD hS 2 0 rfl rfl (i := sq_m x % 48) (Nat.mod_lt _ (by decide)) (by decide) dX1_set_16 (fun H locs hP hD hS => ?_)
  have hP : va_P (dC, dI) vwCl [(r, .inr (1, [.ref d])), (d, .inr (0, [.ref a1, .ref a2, .ref r])), (a1, .inl (cA, 48, .inl (upd (fun q => (z q).1) (sq_m x % 48) v1))), (a2, .inl (cA, 48, .inl ((fun q => (z q).2))))] H := hP
  have hD : va_D (dkA r d a1 a2 s.heap.size) [(r, .inr (1, [.ref d])), (d, .inr (0, [.ref a1, .ref a2, .ref r])), (a1, .inl (cA, 48, .inl (upd (fun q => (z q).1) (sq_m x % 48) v1))), (a2, .inl (cA, 48, .inl ((fun q => (z q).2))))] := hD
  refine lv_aload_n hx hb dX1_set_17 rfl (lv_at hl 1 rfl) ?_
  refine va_get (D := (dC, dI)) (ci := 0) (v := .ref a2) (C := RX1) (T := TX1) (N := 3) hx hb hts in_X1 hown hK hP 1 rfl rfl 1 (by decide) (hts _ q28) (fun _ h9 => h9) rfl dX1_set_18 ?_
  refine lv_iload hx hb dX1_set_21 (lv_at hl 0 rfl) ?_
  refine lv_iload_n hx hb dX1_set_23 rfl (lv_at hl 4 rfl) ?_
  refine ox_iast hx hb hK hP hD hS 3 0 rfl rfl (i := sq_m x % 48) (Nat.mod_lt _ (by decide)) (by decide) dX1_set_24 (fun H locs hP hD hS => ?_)
  have hP : va_P (dC, dI) vwCl [(r, .inr (1, [.ref d])), (d, .inr (0, [.ref a1, .ref a2, .ref r])), (a1, .inl (cA, 48, .inl (upd (fun q => (z q).1) (sq_m x % 48) v1))), (a2, .inl (cA, 48, .inl (upd (fun q => (z q).2) (sq_m x % 48) v2)))] H := hP
  have hD : va_D (dkA r d a1 a2 s.heap.size) [(r, .inr (1, [.ref d])), (d, .inr (0, [.ref a1, .ref a2, .ref r])), (a1, .inl (cA, 48, .inl (upd (fun q => (z q).1) (sq_m x % 48) v1))), (a2, .inl (cA, 48, .inl (upd (fun q => (z q).2) (sq_m x % 48) v2)))] := hD
  rw [sq_up_1 z _ _ v2, sq_up_2 z _ v1 _] at hP
  exact W.vret hx hb hr (fun t ht hW => ⟨⟨_, rfl, rfl, dk_end ht hP⟩, hS.F ht⟩) hS.2.2 dX1_set_25
set_option maxHeartbeats 4000000 in
set_option maxRecDepth 100000 in
theorem metX1_few (l : Launch) (dC : Nat → ClassId) (dI : Nat → Nat → Nat) (r d a1 a2 : Nat) (cA : ClassId) (z : sq_T) (sz : Nat) (x v1 v2 : Int32) : dkMet l yX1_few (ws_ yX1_few cX1_few 5 none) { frames := 0, cells := 0, slots := 0, locals := 0 } [.ref d, .int x, .int v1, .int v2] dC dI r d a1 a2 cA z sz (fun u => u = sq_up z (sq_m x % 48) ((v1 &&& nI 3), (v2 &&& nI 3))) := by
  refine Met.ofW (cc := cX1_few) (maxL := 5) (ret := none) (by decide) rfl ?_
  intro p e s m args below meth c s₁ B hml hv
  obtain ⟨rfl, hsz, hP, hK, hD0, hX⟩ := hv
  have hx := B.exec
  have hb := B.bytes
  have hr := B.returns
  have hts := atoms_spec (ws := ws_ yX1_few cX1_few 5 none) B.pre
  have hts : ∀ w ∈ lw_all, w.before _ s = true := fun w h => hts w (List.mem_cons_of_mem _ h)
  have hown : s.vm.findClass RX1 = some m.cls := findClass_of_methodNamed B.named
  have hlocks := B.notSynchronized
  subst hsz
  have hD := dkD.own hD0 s.heap.size
  have hA : ∀ q : Nat, s.heap.size ≤ q → dkA r d a1 a2 s.heap.size q := fun q h => Or.inr (Or.inr (Or.inr (Or.inr h)))
  have hS : va_S (dkA r d a1 a2 s.heap.size) s.heap s.heap [] := va_S.rf
  have hl := lv_entry ([.ref d, .int x, .int v1, .int v2]) (n := 5) (Nat.le_of_ble_eq_true rfl)
  rw [lg_entry_eq]
  generalize (lg_sl ([.ref d, .int x, .int v1, .int v2]) ++ List.replicate (5 - (lg_sl ([.ref d, .int x, .int v1, .int v2])).length) Slot.unset).toArray = ls at hl ⊢
  have hl : lv_has ls 5 [(0, .ref d), (1, .int x), (2, .int v1), (3, .int v2)] := hl
  refine lv_iload_n hx hb dX1_few_0 rfl (lv_at hl 1 rfl) ?_
  refine lv_ldc (v := 2147483647) hx hb hown (hts _ q42) dX1_few_1 ?_
  refine lv_iand hx hb dX1_few_3 ?_
  refine ox_to (y := nI (sq_m x)) (sq_and _) ?_
  refine lv_bipush (v := nI 48) hx hb dX1_few_4 (by decide) ?_
  have hm := sq_m_lt x
  refine lv_irem hx hb dX1_few_6 (by decide) ?_
  refine ox_to (y := nI (sq_m x % 48)) (pk_rem (by omega) (by omega) (by omega)) ?_
  refine lv_istore (lv' := [(4, .int (nI (sq_m x % 48))), (0, .ref d), (1, .int x), (2, .int v1), (3, .int v2)]) hx hb dX1_few_7 hl (by decide) rfl (fun ls hl => ?_)
  refine lv_aload_n hx hb dX1_few_9 rfl (lv_at hl 1 rfl) ?_
  refine va_get (D := (dC, dI)) (ci := 0) (v := .ref a1) (C := RX1) (T := TX1) (N := 3) hx hb hts in_X1 hown hK hP 1 rfl rfl 0 (by decide) (hts _ q26) (fun _ h9 => h9) rfl dX1_few_10 ?_
  refine lv_iload hx hb dX1_few_13 (lv_at hl 0 rfl) ?_
  refine lv_iload_n hx hb dX1_few_15 rfl (lv_at hl 3 rfl) ?_
  refine lv_iconst (v := nI 3) hx hb dX1_few_16 (by decide) ?_
  refine lv_iand hx hb dX1_few_17 ?_
  refine ox_iast hx hb hK hP hD hS 2 0 rfl rfl (i := sq_m x % 48) (Nat.mod_lt _ (by decide)) (by decide) dX1_few_18 (fun H locs hP hD hS => ?_)
  have hP : va_P (dC, dI) vwCl [(r, .inr (1, [.ref d])), (d, .inr (0, [.ref a1, .ref a2, .ref r])), (a1, .inl (cA, 48, .inl (upd (fun q => (z q).1) (sq_m x % 48) (v1 &&& nI 3)))), (a2, .inl (cA, 48, .inl ((fun q => (z q).2))))] H := hP
  have hD : va_D (dkA r d a1 a2 s.heap.size) [(r, .inr (1, [.ref d])), (d, .inr (0, [.ref a1, .ref a2, .ref r])), (a1, .inl (cA, 48, .inl (upd (fun q => (z q).1) (sq_m x % 48) (v1 &&& nI 3)))), (a2, .inl (cA, 48, .inl ((fun q => (z q).2))))] := hD
  refine lv_aload_n hx hb dX1_few_19 rfl (lv_at hl 1 rfl) ?_
  refine va_get (D := (dC, dI)) (ci := 0) (v := .ref a2) (C := RX1) (T := TX1) (N := 3) hx hb hts in_X1 hown hK hP 1 rfl rfl 1 (by decide) (hts _ q28) (fun _ h9 => h9) rfl dX1_few_20 ?_
  refine lv_iload hx hb dX1_few_23 (lv_at hl 0 rfl) ?_
  refine lv_iload_n hx hb dX1_few_25 rfl (lv_at hl 4 rfl) ?_
  refine lv_iconst (v := nI 3) hx hb dX1_few_26 (by decide) ?_
  refine lv_iand hx hb dX1_few_27 ?_
  refine ox_iast hx hb hK hP hD hS 3 0 rfl rfl (i := sq_m x % 48) (Nat.mod_lt _ (by decide)) (by decide) dX1_few_28 (fun H locs hP hD hS => ?_)
  have hP : va_P (dC, dI) vwCl [(r, .inr (1, [.ref d])), (d, .inr (0, [.ref a1, .ref a2, .ref r])), (a1, .inl (cA, 48, .inl (upd (fun q => (z q).1) (sq_m x % 48) (v1 &&& nI 3)))), (a2, .inl (cA, 48, .inl (upd (fun q => (z q).2) (sq_m x % 48) (v2 &&& nI 3))))] H := hP
  have hD : va_D (dkA r d a1 a2 s.heap.size) [(r, .inr (1, [.ref d])), (d, .inr (0, [.ref a1, .ref a2, .ref r])), (a1, .inl (cA, 48, .inl (upd (fun q => (z q).1) (sq_m x % 48) (v1 &&& nI 3)))), (a2, .inl (cA, 48, .inl (upd (fun q => (z q).2) (sq_m x % 48) (v2 &&& nI 3))))] := hD
  rw [sq_up_1 z _ _ (v2 &&& nI 3), sq_up_2 z _ (v1 &&& nI 3) _] at hP
  exact W.vret hx hb hr (fun t ht hW => ⟨⟨_, rfl, rfl, dk_end ht hP⟩, hS.F ht⟩) hS.2.2 dX1_few_29
set_option maxHeartbeats 4000000 in
set_option maxRecDepth 100000 in
/-- quick(f, t): the range brought into order -/
theorem metX1_quick (l : Launch) (dC : Nat → ClassId) (dI : Nat → Nat → Nat) (r d a1 a2 : Nat) (cA : ClassId) (z : sq_T) (sz : Nat) (x y : Int32) : dkMet l yX1_quick (ws_ yX1_quick cX1_quick 4 none) { frames := 60, cells := 0, slots := 0, locals := 2200 } [.ref d, .int x, .int y] dC dI r d a1 a2 cA z sz (fun u => sq_Srt (sq_fr x) (sq_to x y) z u) := by
  refine Met.ofW (cc := cX1_quick) (maxL := 4) (ret := none) (by decide) rfl ?_
  intro p e s m args below meth c s₁ B hml hv
  obtain ⟨rfl, hsz, hP, hK, hD0, hX⟩ := hv
  have hx := B.exec
  have hb := B.bytes
  have hr := B.returns
  have hts := atoms_spec (ws := ws_ yX1_quick cX1_quick 4 none) B.pre
  have hts : ∀ w ∈ lw_all, w.before _ s = true := fun w h => hts w (List.mem_cons_of_mem _ h)
  have hown : s.vm.findClass RX1 = some m.cls := findClass_of_methodNamed B.named
  have hlocks := B.notSynchronized
  subst hsz
  have hD := dkD.own hD0 s.heap.size
  have hA : ∀ q : Nat, s.heap.size ≤ q → dkA r d a1 a2 s.heap.size q := fun q h => Or.inr (Or.inr (Or.inr (Or.inr h)))
  have hS : va_S (dkA r d a1 a2 s.heap.size) s.heap s.heap [] := va_S.rf
  have hl := lv_entry ([.ref d, .int x, .int y]) (n := 4) (Nat.le_of_ble_eq_true rfl)
  rw [lg_entry_eq]
  generalize (lg_sl ([.ref d, .int x, .int y]) ++ List.replicate (4 - (lg_sl ([.ref d, .int x, .int y])).length) Slot.unset).toArray = ls at hl ⊢
  have hl : lv_has ls 4 [(0, .ref d), (1, .int x), (2, .int y)] := hl
  have S : CallFix p m c cX1_quick 4 s _ lw_all RX1 := ⟨hx, hb, hml, hown, hts⟩
  have hcs : 0 ≤ (headSpec (ws_ yX1_quick cX1_quick 4 none) { frames := 60, cells := 0, slots := 0, locals := 2200 }).room.cells ∧ 0 ≤ (headSpec (ws_ yX1_quick cX1_quick 4 none) { frames := 60, cells := 0, slots := 0, locals := 2200 }).room.slots := ⟨Nat.zero_le _, Nat.zero_le _⟩
  have h1 := sq_fr_le x
  have h2 := sq_to_in x y
  refine lv_aload_n hx hb dX1_quick_0 rfl (lv_at hl 0 rfl) ?_
  refine lv_iload_n hx hb dX1_quick_1 rfl (lv_at hl 1 rfl) ?_
  refine vp_callSi (W.runV (As := [.int x]) (rest := []) S (metX1_from l d x) (cwV 1 hts (lw_V q51 q53 qs0 q3 q54) rfl rfl rfl (by decide +kernel) ⟨Nat.le_of_ble_eq_true rfl, Nat.le_of_ble_eq_true rfl⟩) ⟨fun _ _ _ _ q => q, va_recv hK hP (ci := 0) (q0 := 1) rfl rfl, fun U hU hW => ⟨rfl, trivial⟩⟩ rfl rfl hl.1 rfl (lv_room (Nat.le_of_ble_eq_true rfl)) dX1_quick_2 ⟨hcs.1, hcs.2⟩) (fun v hv => ?_)
  subst hv
  refine lv_istore_n (lv' := [(3, .int (nI (sq_fr x))), (0, .ref d), (1, .int x), (2, .int y)]) hx hb dX1_quick_5 rfl hl (by decide) rfl (fun ls hl => ?_)
  refine lv_iload_n hx hb dX1_quick_6 rfl (lv_at hl 0 rfl) ?_
  refine lv_aload_n hx hb dX1_quick_7 rfl (lv_at hl 1 rfl) ?_
  refine lv_iload_n hx hb dX1_quick_8 rfl (lv_at hl 0 rfl) ?_
  refine lv_iload_n hx hb dX1_quick_9 rfl (lv_at hl 3 rfl) ?_
  refine vp_callSi (W.runV (As := [.int (nI (sq_fr x)), .int y]) (rest := [.int (nI (sq_fr x))]) S (metX1_to l d h1 y) (cwV 2 hts (lw_V q55 q57 qs1 q3 q58) rfl rfl rfl (by decide +kernel) ⟨Nat.le_of_ble_eq_true rfl, Nat.le_of_ble_eq_true rfl⟩) ⟨fun _ _ _ _ q => q, va_recv hK hP (ci := 0) (q0 := 1) rfl rfl, fun U hU hW => ⟨rfl, trivial⟩⟩ rfl rfl hl.1 rfl (lv_room (Nat.le_of_ble_eq_true rfl)) dX1_quick_10 ⟨hcs.1, hcs.2⟩) (fun v hv => ?_)
  subst hv
  refine lv_aload_n hx hb dX1_quick_13 rfl (lv_at hl 1 rfl) ?_
  refine va_get (D := (dC, dI)) (ci := 0) (v := .ref r) (C := RX1) (T := TX1) (N := 3) hx hb hts in_X1 hown hK hP 1 rfl rfl 2 (by decide) (hts _ q30) (fun _ h9 => h9) rfl dX1_quick_14 ?_
  refine lv_aload_n hx hb dX1_quick_17 rfl (lv_at hl 1 rfl) ?_
  refine va_get (D := (dC, dI)) (ci := 0) (v := .ref r) (C := RX1) (T := TX1) (N := 3) hx hb hts in_X1 hown hK hP 1 rfl rfl 2 (by decide) (hts _ q30) (fun _ h9 => h9) rfl dX1_quick_18 ?_
  refine ox_wr S hl.1 hK hX hcs hA hP hD hS (rest := []) [.int (nI (sq_fr x)), .int (nI (sq_to x y)), .ref r, .ref r] (metX3_quickSort l dC dI r d a1 a2 cA 49 z s.heap.size (sq_fr x) (sq_to x y) (by omega) h2.1 h2.2) (va_cwS 4 hts (lw_S q59 q60 q5 q61) rfl rfl rfl (by decide +kernel) ⟨by show 3 + 49 + 1 ≤ 60; omega, by show 8 + (13 + 11) + (100 + 40 * 49) ≤ 2200; omega⟩) rfl rfl (Nat.le_of_ble_eq_true rfl) dX1_quick_21 (fun u H locs hu hP hD hS => ?_)
  exact W.vret hx hb hr (fun t ht hW => ⟨⟨u, rfl, hu, dk_end ht hP⟩, hS.F ht⟩) hS.2.2 dX1_quick_24
set_option maxHeartbeats 4000000 in
set_option maxRecDepth 100000 in
/-- merge(f, t): the range brought into order -/
theorem metX1_merge (l : Launch) (dC : Nat → ClassId) (dI : Nat → Nat → Nat) (r d a1 a2 : Nat) (cA : ClassId) (z : sq_T) (sz : Nat) (x y : Int32) : dkMet l yX1_merge (ws_ yX1_merge cX1_merge 4 none) { frames := 110, cells := 0, slots := 0, locals := 3800 } [.ref d, .int x, .int y] dC dI r d a1 a2 cA z sz (fun u => sq_Srt (sq_fr x) (sq_to x y) z u) := by
  refine Met.ofW (cc := cX1_merge) (maxL := 4) (ret := none) (by decide) rfl ?_
  intro p e s m args below meth c s₁ B hml hv
  obtain ⟨rfl, hsz, hP, hK, hD0, hX⟩ := hv
  have hx := B.exec
  have hb := B.bytes
  have hr := B.returns
  have hts := atoms_spec (ws := ws_ yX1_merge cX1_merge 4 none) B.pre
  have hts : ∀ w ∈ lw_all, w.before _ s = true := fun w h => hts w (List.mem_cons_of_mem _ h)
  have hown : s.vm.findClass RX1 = some m.cls := findClass_of_methodNamed B.named
  have hlocks := B.notSynchronized
  subst hsz
  have hD := dkD.own hD0 s.heap.size
  have hA : ∀ q : Nat, s.heap.size ≤ q → dkA r d a1 a2 s.heap.size q := fun q h => Or.inr (Or.inr (Or.inr (Or.inr h)))
  have hS : va_S (dkA r d a1 a2 s.heap.size) s.heap s.heap [] := va_S.rf
  have hl := lv_entry ([.ref d, .int x, .int y]) (n := 4) (Nat.le_of_ble_eq_true rfl)
  rw [lg_entry_eq]
  generalize (lg_sl ([.ref d, .int x, .int y]) ++ List.replicate (4 - (lg_sl ([.ref d, .int x, .int y])).length) Slot.unset).toArray = ls at hl ⊢
  have hl : lv_has ls 4 [(0, .ref d), (1, .int x), (2, .int y)] := hl
  have S : CallFix p m c cX1_merge 4 s _ lw_all RX1 := ⟨hx, hb, hml, hown, hts⟩
  have hcs : 0 ≤ (headSpec (ws_ yX1_merge cX1_merge 4 none) { frames := 110, cells := 0, slots := 0, locals := 3800 }).room.cells ∧ 0 ≤ (headSpec (ws_ yX1_merge cX1_merge 4 none) { frames := 110, cells := 0, slots := 0, locals := 3800 }).room.slots := ⟨Nat.zero_le _, Nat.zero_le _⟩
  have h1 := sq_fr_le x
  have h2 := sq_to_in x y
  refine lv_aload_n hx hb dX1_merge_0 rfl (lv_at hl 0 rfl) ?_
  refine lv_iload_n hx hb dX1_merge_1 rfl (lv_at hl 1 rfl) ?_
  refine vp_callSi (W.runV (As := [.int x]) (rest := []) S (metX1_from l d x) (cwV 1 hts (lw_V q51 q53 qs0 q3 q54) rfl rfl rfl (by decide +kernel) ⟨Nat.le_of_ble_eq_true rfl, Nat.le_of_ble_eq_true rfl⟩) ⟨fun _ _ _ _ q => q, va_recv hK hP (ci := 0) (q0 := 1) rfl rfl, fun U hU hW => ⟨rfl, trivial⟩⟩ rfl rfl hl.1 rfl (lv_room (Nat.le_of_ble_eq_true rfl)) dX1_merge_2 ⟨hcs.1, hcs.2⟩) (fun v hv => ?_)
  subst hv
  refine lv_istore_n (lv' := [(3, .int (nI (sq_fr x))), (0, .ref d), (1, .int x), (2, .int y)]) hx hb dX1_merge_5 rfl hl (by decide) rfl (fun ls hl => ?_)
  refine lv_iload_n hx hb dX1_merge_6 rfl (lv_at hl 0 rfl) ?_
  refine lv_aload_n hx hb dX1_merge_7 rfl (lv_at hl 1 rfl) ?_
  refine lv_iload_n hx hb dX1_merge_8 rfl (lv_at hl 0 rfl) ?_
  refine lv_iload_n hx hb dX1_merge_9 rfl (lv_at hl 3 rfl) ?_
  refine vp_callSi (W.runV (As := [.int (nI (sq_fr x)), .int y]) (rest := [.int (nI (sq_fr x))]) S (metX1_to l d h1 y) (cwV 2 hts (lw_V q55 q57 qs1 q3 q58) rfl rfl rfl (by decide +kernel) ⟨Nat.le_of_ble_eq_true rfl, Nat.le_of_ble_eq_true rfl⟩) ⟨fun _ _ _ _ q => q, va_recv hK hP (ci := 0) (q0 := 1) rfl rfl, fun U hU hW => ⟨rfl, trivial⟩⟩ rfl rfl hl.1 rfl (lv_room (Nat.le_of_ble_eq_true rfl)) dX1_merge_10 ⟨hcs.1, hcs.2⟩) (fun v hv => ?_)
  subst hv
  refine lv_aload_n hx hb dX1_merge_13 rfl (lv_at hl 1 rfl) ?_
  refine va_get (D := (dC, dI)) (ci := 0) (v := .ref r) (C := RX1) (T := TX1) (N := 3) hx hb hts in_X1 hown hK hP 1 rfl rfl 2 (by decide) (hts _ q30) (fun _ h9 => h9) rfl dX1_merge_14 ?_
  refine lv_aload_n hx hb dX1_merge_17 rfl (lv_at hl 1 rfl) ?_
  refine va_get (D := (dC, dI)) (ci := 0) (v := .ref r) (C := RX1) (T := TX1) (N := 3) hx hb hts in_X1 hown hK hP 1 rfl rfl 2 (by decide) (hts _ q30) (fun _ h9 => h9) rfl dX1_merge_18 ?_
  refine ox_wr S hl.1 hK hX hcs hA hP hD hS (rest := []) [.int (nI (sq_fr x)), .int (nI (sq_to x y)), .ref r, .ref r] (metX3_mergeSort l dC dI r d a1 a2 cA 49 z s.heap.size (sq_fr x) (sq_to x y) (by omega) h2.1 h2.2) (va_cwS 4 hts (lw_S q96 q97 q5 q98) rfl rfl rfl (by decide +kernel) ⟨by show 52 + 49 + 1 ≤ 110; omega, by show 8 + (7 + 11) + (1700 + 40 * 49) ≤ 3800; omega⟩) rfl rfl (Nat.le_of_ble_eq_true rfl) dX1_merge_21 (fun u H locs hu hP hD hS => ?_)
  exact W.vret hx hb hr (fun t ht hW => ⟨⟨u, rfl, hu, dk_end ht hP⟩, hS.F ht⟩) hS.2.2 dX1_merge_24
end
section
/-! SwapSortDesk's and Rows' constructors -/
set_option maxHeartbeats 4000000 in
set_option maxRecDepth 100000 in
/-- Rows(desk) -/
theorem metX2_init (l : Launch) (dC : Nat → ClassId) (dI : Nat → Nat → Nat) (r d : Nat) (sz : Nat) : Met l yX2_init (ws_ yX2_init cX2_init 2 none) { frames := 1, cells := 0, slots := 0, locals := 12 } (va_Pc [.ref r, .ref d] (fun U => U.heap.size = sz ∧ va_P (dC, dI) vwCl [(r, .inr (1, [.null]))] U.heap ∧ va_K (dC, dI) vwCl [] U ∧ va_D (fun _ => True) [(r, .inr (1, [.null]))])) (va_Qv (fun _ : Unit => True) (fun _ t => va_P (dC, dI) vwCl [(r, .inr (1, [.ref d]))] t.heap) (va_A [(r, .inr (1, [.null]))] sz)) 0 0 (va_A [(r, .inr (1, [.null]))] sz) := by
  refine Met.ofW (cc := cX2_init) (maxL := 2) (ret := none) (by decide) rfl ?_
  intro p e s m args below meth c s₁ B hml hv
  obtain ⟨rfl, hsz, hP, hK, hD0⟩ := hv
  have hx := B.exec
  have hb := B.bytes
  have hr := B.returns
  have hts := atoms_spec (ws := ws_ yX2_init cX2_init 2 none) B.pre
  have hts : ∀ w ∈ lw_all, w.before _ s = true := fun w h => hts w (List.mem_cons_of_mem _ h)
  have hown : s.vm.findClass RX2 = some m.cls := findClass_of_methodNamed B.named
  have hlocks := B.notSynchronized
  have hin : meth.name = "<init>" := (name_of_methodNamed B.named B.method).1
  subst hsz
  have hD := hD0.self (sz := s.heap.size)
  generalize hAe : va_A [(r, .inr (1, [.null]))] s.heap.size = A at hD ⊢
  have hS : va_S A s.heap s.heap [] := va_S.rf
  have hP : va_P (dC, dI) vwCl [(r, .inr (1, [.null]))] s.heap := hP
  have hl := lv_entry ([.ref r, .ref d]) (n := 2) (Nat.le_of_ble_eq_true rfl)
  rw [lg_entry_eq]
  generalize (lg_sl ([.ref r, .ref d]) ++ List.replicate (2 - (lg_sl ([.ref r, .ref d])).length) Slot.unset).toArray = ls at hl ⊢
  have hl : lv_has ls 2 [(0, .ref r), (1, .ref d)] := hl
  refine lv_aload_n hx hb dX2_init_0 rfl (lv_at hl 0 rfl) ?_
  refine lv_aload_n hx hb dX2_init_1 rfl (lv_at hl 1 rfl) ?_
  refine va_putF (D := (dC, dI)) (ci := 1) (v := .ref d) (ty := .object "SwapSortDesk") (C := RX2) (T := TX2) (N := 1) hx hb hts in_X2 tyX2 tyX2_ok nmX2 hown hK hP hD hS 0 rfl rfl 0 (by decide) (hts _ q21) (fun _ h9 => h9) rfl hin rfl (by decide +kernel) rfl rfl (Nat.le_of_ble_eq_true rfl) dX2_init_2 (fun H locs hP hD hS => ?_)
  have hP : va_P (dC, dI) vwCl [(r, .inr (1, [.ref d]))] H := hP
  refine lv_aload_n hx hb dX2_init_5 rfl (lv_at hl 0 rfl) ?_
  refine W.objInit hx hb hown (hts _ q20) (hts _ q13) (hts _ q14) rfl (by rw [hml]; exact hl.1) rfl dX2_init_6 (Nat.le_of_ble_eq_true rfl) (Nat.le_of_ble_eq_true rfl) ?_
  refine W.eq (g2 := F0 m 9 ls []) rfl ?_
  exact W.vret hx hb hr (fun t ht hW => ⟨⟨(), rfl, trivial, dk_end ht hP⟩, hS.F ht⟩) hS.2.2 dX2_init_9
/-- a new array of 48 zeroes -/
theorem dk_arr0 (cA : ClassId) : vp_cell cA (48, .inl (fun _ => 0)) = arrV cA 48 (fun _ => defaultValue .int) := rfl
/-- all arrays of ints are of one class -/
theorem dk_oneA {D : va_G} {cl : List vw_C} {tys : List (ClassId × FieldType)} {U : State} (hK : va_K D cl tys U) {i j : Nat} {c1 c2 : ClassId} (h1 : tys[i]? = some (c1, .int)) (h2 : tys[j]? = some (c2, .int)) : c1 = c2 := by
  have a := (hK.2 i _ h1).2
  have b := (hK.2 j _ h2).2
  exact Option.some.inj (a.symm.trans b)
abbrev dkZ : sq_T := fun _ => (0, 0)
abbrev dkNest : Cond := .methodLinkNest "SwapSortDesk" 18 ⟨"SwapSortDesk$Rows", "<init>", "(LSwapSortDesk;)V"⟩ "SwapSortDesk"
set_option maxHeartbeats 4000000 in
set_option maxRecDepth 100000 in
/-- SwapSortDesk(): two new arrays of zeroes, its rows -/
theorem metX1_init (l : Launch) (dC : Nat → ClassId) (dI : Nat → Nat → Nat) (d : Nat) (sz : Nat) : Met l yX1_init (ws_ yX1_init cX1_init 1 none) { frames := 2, cells := 3, slots := 97, locals := 40 } (va_Pc [.ref d] (fun U => U.heap.size = sz ∧ va_P (dC, dI) vwCl [(d, .inr (0, [.null, .null, .null]))] U.heap ∧ va_K (dC, dI) vwCl [] U ∧ va_D (fun _ => True) [(d, .inr (0, [.null, .null, .null]))] ∧ va_Nw dkNest U))
    (va_Qv (fun _ : Nat × Nat × Nat × ClassId => True) (fun u t => va_P (dC, dI) vwCl (dkW u.1 d u.2.1 u.2.2.1 u.2.2.2 dkZ) t.heap ∧ va_K (dC, dI) vwCl [(u.2.2.2, .int)] t ∧ va_D (va_A [(d, .inr (0, [.null, .null, .null]))] sz) (dkW u.1 d u.2.1 u.2.2.1 u.2.2.2 dkZ)) (va_A [(d, .inr (0, [.null, .null, .null]))] sz)) 3 97 (va_A [(d, .inr (0, [.null, .null, .null]))] sz) := by
  refine Met.ofW (cc := cX1_init) (maxL := 1) (ret := none) (by decide) rfl ?_
  intro p e s m args below meth c s₁ B hml hv
  obtain ⟨rfl, hsz, hP, hK, hD0, hN⟩ := hv
  have hx := B.exec
  have hb := B.bytes
  have hr := B.returns
  have hts := atoms_spec (ws := ws_ yX1_init cX1_init 1 none) B.pre
  have hts : ∀ w ∈ lw_all, w.before _ s = true := fun w h => hts w (List.mem_cons_of_mem _ h)
  have hown : s.vm.findClass RX1 = some m.cls := findClass_of_methodNamed B.named
  have hlocks := B.notSynchronized
  have hin : meth.name = "<init>" := (name_of_methodNamed B.named B.method).1
  subst hsz
  have hD := hD0.self (sz := s.heap.size)
  generalize hAe : va_A [(d, .inr (0, [.null, .null, .null]))] s.heap.size = A at hD ⊢
  have hA : ∀ q : Nat, s.heap.size ≤ q → A q := fun q h => by rw [← hAe]; exact Or.inr h
  have hS : va_S A s.heap s.heap [] := va_S.rf
  have hP : va_P (dC, dI) vwCl [(d, .inr (0, [.null, .null, .null]))] s.heap := hP
  have hl := lv_entry ([.ref d]) (n := 1) (Nat.le_of_ble_eq_true rfl)
  rw [lg_entry_eq]
  generalize (lg_sl ([.ref d]) ++ List.replicate (1 - (lg_sl ([.ref d])).length) Slot.unset).toArray = ls at hl ⊢
  have hl : lv_has ls 1 [(0, .ref d)] := hl
  refine lv_aload_n hx hb dX1_init_0 rfl (lv_at hl 0 rfl) ?_
  refine W.objInit hx hb hown (hts _ q12) (hts _ q13) (hts _ q14) rfl (by rw [hml]; exact hl.1) rfl dX1_init_1 (Nat.le_of_ble_eq_true rfl) (Nat.le_of_ble_eq_true rfl) ?_
  refine W.eq (g2 := F0 m 4 ls []) rfl ?_
  refine lv_aload_n hx hb dX1_init_4 rfl (lv_at hl 0 rfl) ?_
  refine lv_bipush (v := nI 48) hx hb dX1_init_5 (by decide) ?_
  refine va_newa (atype := .int) (N' := 48) (a0 := (48, .inl (fun _ => 0))) hx hb (hts _ q25) rfl hK hP hD hS hA dk_arr0 (by decide) (nI_clamp (by decide)) (Nat.le_of_ble_eq_true rfl) (Nat.le_of_ble_eq_true rfl) (Nat.le_of_ble_eq_true rfl) dX1_init_7 (fun a1 cA H hK hP hD hS => ?_)
  have hP : va_P (dC, dI) vwCl [(d, .inr (0, [.null, .null, .null])), (a1, .inl (cA, 48, .inl (fun _ => 0)))] H := hP
  have hD : va_D A [(d, .inr (0, [.null, .null, .null])), (a1, .inl (cA, 48, .inl (fun _ => 0)))] := hD
  refine va_putF (D := (dC, dI)) (ci := 0) (v := .ref a1) (ty := .array .int) (C := RX1) (T := TX1) (N := 3) hx hb hts in_X1 tyX1 tyX1_ok nmX1 hown hK hP hD hS 0 rfl rfl 0 (by decide) (hts _ q26) (fun _ h9 => h9) rfl hin rfl (by decide +kernel) rfl rfl (Nat.le_of_ble_eq_true rfl) dX1_init_9 (fun H locs hP hD hS => ?_)
  have hP : va_P (dC, dI) vwCl [(d, .inr (0, [.ref a1, .null, .null])), (a1, .inl (cA, 48, .inl (fun _ => 0)))] H := hP
  have hD : va_D A [(d, .inr (0, [.ref a1, .null, .null])), (a1, .inl (cA, 48, .inl (fun _ => 0)))] := hD
  refine lv_aload_n hx hb dX1_init_12 rfl (lv_at hl 0 rfl) ?_
  refine lv_bipush (v := nI 48) hx hb dX1_init_13 (by decide) ?_
  refine va_newa (atype := .int) (N' := 48) (a0 := (48, .inl (fun _ => 0))) hx hb (hts _ q25) rfl hK hP hD hS hA dk_arr0 (by decide) (nI_clamp (by decide)) (Nat.le_of_ble_eq_true rfl) (Nat.le_of_ble_eq_true rfl) (Nat.le_of_ble_eq_true rfl) dX1_init_15 (fun a2 cA2 H hK hP hD hS => ?_)
  have hK : va_K (dC, dI) vwCl [(cA, .int), (cA2, .int)] s := hK
  have hc := dk_oneA hK (i := 0) (j := 1) rfl rfl
  subst hc
  have hP : va_P (dC, dI) vwCl [(d, .inr (0, [.ref a1, .null, .null])), (a1, .inl (cA, 48, .inl (fun _ => 0))), (a2, .inl (cA, 48, .inl (fun _ => 0)))] H := hP
  have hD : va_D A [(d, .inr (0, [.ref a1, .null, .null])), (a1, .inl (cA, 48, .inl (fun _ => 0))), (a2, .inl (cA, 48, .inl (fun _ => 0)))] := hD
  refine va_putF (D := (dC, dI)) (ci := 0) (v := .ref a2) (ty := .array .int) (C := RX1) (T := TX1) (N := 3) hx hb hts in_X1 tyX1 tyX1_ok nmX1 hown hK hP hD hS 0 rfl rfl 1 (by decide) (hts _ q28) (fun _ h9 => h9) rfl hin rfl (by decide +kernel) rfl rfl (Nat.le_of_ble_eq_true rfl) dX1_init_17 (fun H locs hP hD hS => ?_)
  have hP : va_P (dC, dI) vwCl [(d, .inr (0, [.ref a1, .ref a2, .null])), (a1, .inl (cA, 48, .inl (fun _ => 0))), (a2, .inl (cA, 48, .inl (fun _ => 0)))] H := hP
  have hD : va_D A [(d, .inr (0, [.ref a1, .ref a2, .null])), (a1, .inl (cA, 48, .inl (fun _ => 0))), (a2, .inl (cA, 48, .inl (fun _ => 0)))] := hD
  refine lv_aload_n hx hb dX1_init_20 rfl (lv_at hl 0 rfl) ?_
  refine va_new (ci := 1) (fs := [.null]) (C := RX2) (T := TX2) (N := 1) hx hb hts in_X2 tyX2 tyX2_ok hown (hts _ q15) (hts _ q16) (hts _ q4) hK hP hD hS hA rfl (fun j hj => by rcases (show j = 0 by omega) with rfl <;> rfl) (Nat.le_of_ble_eq_true rfl) (Nat.le_of_ble_eq_true rfl) dX1_init_21 (fun r H hP hD hS => ?_)
  have hP : va_P (dC, dI) vwCl [(d, .inr (0, [.ref a1, .ref a2, .null])), (a1, .inl (cA, 48, .inl (fun _ => 0))), (a2, .inl (cA, 48, .inl (fun _ => 0))), (r, .inr (1, [.null]))] H := hP
  have hD : va_D A [(d, .inr (0, [.ref a1, .ref a2, .null])), (a1, .inl (cA, 48, .inl (fun _ => 0))), (a2, .inl (cA, 48, .inl (fun _ => 0))), (r, .inr (1, [.null]))] := hD
  refine W.widen (k := 3) (n := 97) (Nat.le_of_ble_eq_true rfl) (Nat.le_of_ble_eq_true rfl) ?_
  refine lv_dup hx hb dX1_init_24 rfl ?_
  refine lv_aload_n hx hb dX1_init_25 rfl (lv_at hl 0 rfl) ?_
  have hPc := hP.sub (ws' := [(r, .inr (1, [.null]))]) [3] rfl
  have hDc := hD.sub (ws' := [(r, .inr (1, [.null]))]) [3] (by decide) rfl
  have hKc := hK.sub (tys' := []) [] rfl
  have hFc := va_free (wc := [(r, .inr (1, [.null]))]) hD hS hA [3] rfl
  refine va_callv (va_runIN (As := [.ref d]) (rest := [.ref r, .ref d]) ⟨hx, hb, hml, hown, hts⟩ (metX2_init l dC dI r d H.size) ⟨va_cnB 1 hts (lw_meth q19) rfl rfl rfl hN (hts _ q4) (by decide +kernel) ⟨Nat.le_of_ble_eq_true rfl, Nat.le_of_ble_eq_true rfl⟩, rfl, hts _ q18⟩ ⟨fun a U g mk q => by obtain ⟨q0, q1, qP, qK, qD⟩ := q; exact ⟨q0, q1, qP, va_K.moved (u := U) (U := U.calling g mk a) (Vm.Alike.refl U.vm) qK, qD⟩, fun U hU hW => ⟨rfl, by rw [hU], by rw [hU]; exact hPc, va_K.moved hW.alike hKc, hDc.weaken (fun _ _ _ _ => trivial)⟩⟩ rfl rfl hl.1 rfl (lv_room (Nat.le_of_ble_eq_true rfl)) dX1_init_26 ⟨Nat.le_of_ble_eq_true rfl, Nat.le_of_ble_eq_true rfl⟩) hS (fun q _ h => hFc q h) hFc (fun u t H1 locs ht hvm _ hP1 hz1 hk1 hS => ?_)
  rw [ht] at hP1
  obtain ⟨hP, hD⟩ := va_join (wr := [(d, .inr (0, [.ref a1, .ref a2, .null])), (a1, .inl (cA, 48, .inl (fun _ => 0))), (a2, .inl (cA, 48, .inl (fun _ => 0)))]) (w1 := [(r, .inr (1, [.ref d]))]) hP hD [3] [0, 1, 2] rfl rfl (by decide) (by decide) hk1 hFc hP1 (hDc.self.set (p := 0) (a := r) (e := .inr (1, [.ref d])) rfl)
  generalize H1 = H at hP hS ⊢
  have hP : va_P (dC, dI) vwCl [(d, .inr (0, [.ref a1, .ref a2, .null])), (a1, .inl (cA, 48, .inl (fun _ => 0))), (a2, .inl (cA, 48, .inl (fun _ => 0))), (r, .inr (1, [.ref d]))] H := hP
  have hD : va_D A [(d, .inr (0, [.ref a1, .ref a2, .null])), (a1, .inl (cA, 48, .inl (fun _ => 0))), (a2, .inl (cA, 48, .inl (fun _ => 0))), (r, .inr (1, [.ref d]))] := hD
  refine va_putF (D := (dC, dI)) (ci := 0) (v := .ref r) (ty := .object "SwapSortDesk$Rows") (C := RX1) (T := TX1) (N := 3) hx hb hts in_X1 tyX1 tyX1_ok nmX1 hown hK hP hD hS 0 rfl rfl 2 (by decide) (hts _ q30) (fun _ h9 => h9) rfl hin rfl (by decide +kernel) rfl rfl (Nat.le_of_ble_eq_true rfl) dX1_init_29 (fun H locs hP hD hS => ?_)
  have hP : va_P (dC, dI) vwCl (dkW r d a1 a2 cA dkZ) H := hP.sub [3, 0, 1, 2] rfl
  have hD : va_D A (dkW r d a1 a2 cA dkZ) := hD.sub [3, 0, 1, 2] (by decide) rfl
  have hK : va_K (dC, dI) vwCl [(cA, .int)] s := hK.sub [0] rfl
  exact W.vret hx hb hr (fun t ht hW => ⟨⟨(r, a1, a2, cA), rfl, trivial, dk_end ht hP, va_K.moved hW.alike hK, hD⟩, hS.F ht⟩) hS.2.2 dX1_init_32
end
section
/-! SwapSortDeskLaw: cell, from, to, plainly, stands -/
/-- a script's int, or 0 behind its end -/
def sq_cell (L : Nat) (xs : Nat → Int32) (k : Nat) : Int32 := if k < L then xs k else 0
theorem dkX_lt {b L : Nat} {xs : Nat → Int32} {U : State} {H : Heap} (h : va_X b L xs U H) : b < H.size := by
  obtain ⟨scr, h1, -⟩ := h
  exact (Array.getElem?_eq_some_iff.mp h1).1
set_option maxHeartbeats 4000000 in
set_option maxRecDepth 100000 in
theorem metX0_cell (l : Launch) (b0 L : Nat) (xs : Nat → Int32) {k : Nat} (hL : L < 2 ^ 31) (hk : k < 2 ^ 31) : Met l yX0_cell (ws_ yX0_cell cX0_cell 2 (some .int)) { frames := 0, cells := 0, slots := 0, locals := 0 } (va_Pc [.ref b0, .int (nI k)] (fun U => va_X b0 L xs U U.heap)) (vp_Si (fun v => v = sq_cell L xs k)) 0 0 (fun _ => False) := by
  refine Met.ofW (cc := cX0_cell) (maxL := 2) (ret := (some .int)) (by decide) rfl ?_
  intro p e s m args below meth c s₁ B hml hv
  obtain ⟨rfl, hX⟩ := hv
  have hx := B.exec
  have hb := B.bytes
  have hr := B.returns
  have hts := atoms_spec (ws := (ws_ yX0_cell cX0_cell 2 (some .int))) B.pre
  have hts : ∀ w ∈ lw_all, w.before _ s = true := fun w h => hts w (List.mem_cons_of_mem _ h)
  have hown : s.vm.findClass RX0 = some m.cls := findClass_of_methodNamed B.named
  have hlocks := B.notSynchronized
  have hl := lv_entry ([.ref b0, .int (nI k)]) (n := 2) (Nat.le_of_ble_eq_true rfl)
  rw [lg_entry_eq]
  generalize (lg_sl ([.ref b0, .int (nI k)]) ++ List.replicate (2 - (lg_sl ([.ref b0, .int (nI k)])).length) Slot.unset).toArray = ls at hl ⊢
  have hl : lv_has ls 2 [(0, .ref b0), (1, .int (nI k))] := hl
  have hbl := dkX_lt hX
  have hS : va_S (fun _ => False) s.heap s.heap [] := va_S.rf
  refine lv_iload_n hx hb dX0_cell_0 rfl (lv_at hl 1 rfl) ?_
  refine lv_aload_n hx hb dX0_cell_1 rfl (lv_at hl 0 rfl) ?_
  refine va_slen (A := fun _ => False) hx hb hX hbl (fun h => h) hS dX0_cell_2 ?_
  refine lv_icmp_ge (tgt := 12) hx hb dX0_cell_3 (by decide) (fun b1 => ?_) (fun b1 => ?_)
  · have c1 : L ≤ k := (nI_leI (by omega) (by omega)).mp b1
    refine lv_iconst (v := nI 0) hx hb dX0_cell_12 (by decide) ?_
    exact W.iret (v := nI 0) hx hb hr (fun t ht hW => ⟨_, rfl, (if_neg (by omega)).symm, ht⟩) (fun q h => by cases h) dX0_cell_13
  · have c1 : k < L := Nat.not_le.mp (fun h => b1 (nI_le h (by omega)))
    refine lv_aload_n hx hb dX0_cell_6 rfl (lv_at hl 0 rfl) ?_
    refine lv_iload_n hx hb dX0_cell_7 rfl (lv_at hl 1 rfl) ?_
    refine va_sld (A := fun _ => False) hx hb hX hbl (fun h => h) hS (vp_in_nI c1 (by omega)) dX0_cell_8 ?_
    rw [nI_clamp hk]
    refine lv_goto (tgt := 13) hx hb dX0_cell_9 (by decide) ?_
    exact W.iret (v := xs k) hx hb hr (fun t ht hW => ⟨_, rfl, (if_pos c1).symm, ht⟩) (fun q h => by cases h) dX0_cell_13
set_option maxHeartbeats 4000000 in
set_option maxRecDepth 100000 in
theorem metX0_from (l : Launch) (x : Int32) : Met l yX0_from (ws_ yX0_from cX0_from 1 (some .int)) { frames := 0, cells := 0, slots := 0, locals := 0 } (va_Pc [.int x] (fun _ => True)) (vp_Si (fun v => v = nI (sq_fr x))) 0 0 (fun _ => False) := by
  refine Met.ofW (cc := cX0_from) (maxL := 1) (ret := (some .int)) (by decide) rfl ?_
  intro p e s m args below meth c s₁ B hml hv
  obtain ⟨rfl, -⟩ := hv
  have hx := B.exec
  have hb := B.bytes
  have hr := B.returns
  have hts := atoms_spec (ws := (ws_ yX0_from cX0_from 1 (some .int))) B.pre
  have hts : ∀ w ∈ lw_all, w.before _ s = true := fun w h => hts w (List.mem_cons_of_mem _ h)
  have hown : s.vm.findClass RX0 = some m.cls := findClass_of_methodNamed B.named
  have hlocks := B.notSynchronized
  have hl := lv_entry ([.int x]) (n := 1) (Nat.le_of_ble_eq_true rfl)
  rw [lg_entry_eq]
  generalize (lg_sl ([.int x]) ++ List.replicate (1 - (lg_sl ([.int x])).length) Slot.unset).toArray = ls at hl ⊢
  have hl : lv_has ls 1 [(0, .int x)] := hl
  refine lv_iload_n hx hb dX0_from_0 rfl (lv_at hl 0 rfl) ?_
  refine lv_ldc (v := 2147483647) hx hb hown (hts _ q115) dX0_from_1 ?_
  refine lv_iand hx hb dX0_from_3 ?_
  refine ox_to (y := nI (sq_m x)) (sq_and _) ?_
  refine lv_bipush (v := nI 49) hx hb dX0_from_4 (by decide) ?_
  have hm := sq_m_lt x
  refine lv_irem hx hb dX0_from_6 (by decide) ?_
  refine ox_to (y := nI (sq_m x % 49)) (pk_rem (by omega) (by omega) (by omega)) ?_
  exact W.iret (v := nI (sq_fr x)) hx hb hr (fun t ht hW => ⟨_, rfl, rfl, ht⟩) (fun q h => by cases h) dX0_from_7
set_option maxHeartbeats 4000000 in
set_option maxRecDepth 100000 in
theorem metX0_to (l : Launch) (x y : Int32) : Met l yX0_to (ws_ yX0_to cX0_to 2 (some .int)) { frames := 1, cells := 0, slots := 0, locals := 24 } (va_Pc [.int x, .int y] (fun _ => True)) (vp_Si (fun v => v = nI (sq_to x y))) 0 0 (fun _ => False) := by
  refine Met.ofW (cc := cX0_to) (maxL := 2) (ret := (some .int)) (by decide) rfl ?_
  intro p e s m args below meth c s₁ B hml hv
  obtain ⟨rfl, -⟩ := hv
  have hx := B.exec
  have hb := B.bytes
  have hr := B.returns
  have hts := atoms_spec (ws := (ws_ yX0_to cX0_to 2 (some .int))) B.pre
  have hts : ∀ w ∈ lw_all, w.before _ s = true := fun w h => hts w (List.mem_cons_of_mem _ h)
  have hown : s.vm.findClass RX0 = some m.cls := findClass_of_methodNamed B.named
  have hlocks := B.notSynchronized
  have hl := lv_entry ([.int x, .int y]) (n := 2) (Nat.le_of_ble_eq_true rfl)
  rw [lg_entry_eq]
  generalize (lg_sl ([.int x, .int y]) ++ List.replicate (2 - (lg_sl ([.int x, .int y])).length) Slot.unset).toArray = ls at hl ⊢
  have hl : lv_has ls 2 [(0, .int x), (1, .int y)] := hl
  have h1 := sq_fr_le x
  have hm := sq_m_lt y
  refine lv_iload_n hx hb dX0_to_0 rfl (lv_at hl 0 rfl) ?_
  refine vp_callSi (W.runS (As := [.int x]) (rest := []) ⟨hx, hb, hml, hown, hts⟩ (metX0_from l x) (va_cwS 1 hts (lw_S q112 q113 q2 q114) rfl rfl rfl (by decide +kernel) ⟨Nat.le_of_ble_eq_true rfl, Nat.le_of_ble_eq_true rfl⟩) ⟨fun _ _ _ _ q => q, fun U hU hW => ⟨rfl, trivial⟩⟩ rfl rfl hl.1 rfl (lv_room (Nat.le_of_ble_eq_true rfl)) dX0_to_1 ⟨Nat.zero_le _, Nat.zero_le _⟩) (fun v hv => ?_)
  subst hv
  refine lv_iload_n hx hb dX0_to_4 rfl (lv_at hl 1 rfl) ?_
  refine lv_ldc (v := 2147483647) hx hb hown (hts _ q115) dX0_to_5 ?_
  refine lv_iand hx hb dX0_to_7 ?_
  refine ox_to (y := nI (sq_m y)) (sq_and _) ?_
  refine lv_bipush (v := nI 49) hx hb dX0_to_8 (by decide) ?_
  refine lv_iload_n hx hb dX0_to_10 rfl (lv_at hl 0 rfl) ?_
  refine vp_callSi (W.runS (As := [.int x]) (rest := [.int (nI 49), .int (nI (sq_m y)), .int (nI (sq_fr x))]) ⟨hx, hb, hml, hown, hts⟩ (metX0_from l x) (va_cwS 1 hts (lw_S q112 q113 q2 q114) rfl rfl rfl (by decide +kernel) ⟨Nat.le_of_ble_eq_true rfl, Nat.le_of_ble_eq_true rfl⟩) ⟨fun _ _ _ _ q => q, fun U hU hW => ⟨rfl, trivial⟩⟩ rfl rfl hl.1 rfl (lv_room (Nat.le_of_ble_eq_true rfl)) dX0_to_11 ⟨Nat.zero_le _, Nat.zero_le _⟩) (fun v hv => ?_)
  subst hv
  refine lv_isub hx hb dX0_to_14 ?_
  refine ox_to (y := nI (49 - sq_fr x)) (pk_sub (by omega)) ?_
  refine lv_irem hx hb dX0_to_15 (nI_ne0 (by omega) (by omega)) ?_
  refine ox_to (y := nI (sq_m y % (49 - sq_fr x))) (pk_rem (by omega) (by omega) (by omega)) ?_
  refine lv_iadd hx hb dX0_to_16 ?_
  refine ox_to (y := nI (sq_to x y)) (nI_add _ _) ?_
  exact W.iret (v := nI (sq_to x y)) hx hb hr (fun t ht hW => ⟨_, rfl, rfl, ht⟩) (fun q h => by cases h) dX0_to_17
/-- the law's own two arrays -/
abbrev paW (qa qb : Nat) (cA : ClassId) (z : sq_T) : va_W := [(qa, .inl (cA, 48, .inl (fun i => (z i).1))), (qb, .inl (cA, 48, .inl (fun i => (z i).2)))]
def paA (qa qb sz : Nat) : Nat → Prop := fun q => q = qa ∨ q = qb ∨ sz ≤ q
theorem paD {B : Nat → Prop} {qa qb : Nat} {e1 e2 : va_E} {cA : ClassId} (h : va_D B [(qa, e1), (qb, e2)]) (w : sq_T) : va_D B (paW qa qb cA w) :=
  (h.set (p := 0) (a := qa) (e := .inl (cA, 48, .inl (fun i => (w i).1))) rfl).set (p := 1) (a := qb) (e := .inl (cA, 48, .inl (fun i => (w i).2))) rfl
theorem paD.own {B : Nat → Prop} {qa qb : Nat} {cA : ClassId} {z : sq_T} (h : va_D B (paW qa qb cA z)) (sz : Nat) : va_D (paA qa qb sz) (paW qa qb cA z) := by
  refine h.weaken (fun k q hk _ => ?_)
  match k, hk with
  | 0, hk => cases hk; exact Or.inl rfl
  | 1, hk => cases hk; exact Or.inr (Or.inl rfl)
  | k + 2, hk => cases hk
def paB (dC : Nat → ClassId) (dI : Nat → Nat → Nat) (qa qb : Nat) (cA : ClassId) (z : sq_T) (sz : Nat) (U : State) : Prop :=
  U.heap.size = sz ∧ va_P (dC, dI) vwCl (paW qa qb cA z) U.heap ∧ va_K (dC, dI) vwCl [(cA, .int)] U ∧ va_D (fun _ => True) (paW qa qb cA z)
theorem paB.blind {av : List Value} {dC : Nat → ClassId} {dI : Nat → Nat → Nat} {qa qb : Nat} {cA : ClassId} {z : sq_T} {sz : Nat} : FrameBlind (va_Pc av (paB dC dI qa qb cA z sz)) := fun a U g mk q => by
  obtain ⟨q0, q1, qP, qK, qD⟩ := q
  exact ⟨q0, q1, qP, va_K.moved (u := U) (U := U.calling g mk a) (Vm.Alike.refl U.vm) qK, qD⟩
theorem sq_hole (z : sq_T) {k : Nat} (h : 0 < k) (p : Int32 × Int32) : sq_up (sq_up z k (z (k - 1))) (k - 1) p = sq_sw (sq_up z k p) k (k - 1) := by
  funext q
  have e0 : sq_up z k p k = p := if_pos rfl
  have e1 : sq_up z k p (k - 1) = z (k - 1) := if_neg (by omega)
  by_cases a : q = k - 1
  · rw [a, sq_sw_r, e0]
    exact if_pos rfl
  · by_cases b : q = k
    · rw [b, sq_sw_l, e1]
      exact (if_neg (by omega)).trans (if_pos rfl)
    · rw [sq_sw_o _ b a]
      exact (if_neg a).trans ((if_neg b).trans (if_neg b).symm)
theorem sq_up_self (z : sq_T) (k : Nat) : sq_up z k (z k) = z := by
  funext q
  unfold sq_up
  split
  · rename_i h
    rw [h]
  · rfl
section PLN
variable {p : Program} {l : Launch} {e : Env} {R : Room} {s : State} {m : MethodId} {args : Array Value} {below : List Frame} {meth : Method} {c : Code} {cells slots : Nat} {Q : State → Prop}
variable {dC : Nat → ClassId} {dI : Nat → Nat → Nat} {qa qb : Nat} {cA : ClassId} {A : Nat → Prop} {H0 : Heap}
set_option maxHeartbeats 4000000 in
set_option maxRecDepth 100000 in
theorem pl_in (hx : p.tables.exec = Jvm.exec) (hb : c.code = cX0_plainly) (hK : va_K (dC, dI) vwCl [(cA, .int)] s) {f t i : Nat} {x : Int32 × Int32} {z0 : sq_T} (ht : t ≤ 48) (hi : i < t)
    (kk : ∀ (k : Nat) (z : sq_T) (H : Heap) (locs : List Loc) (ls : Array Slot), k ≤ i → sq_So f (i + 1) (sq_up z k x) → sq_Pm f t z0 (sq_up z k x) → va_P (dC, dI) vwCl (paW qa qb cA z) H → va_D A (paW qa qb cA z) → va_S A H0 H locs → lv_has ls 8 [(0, .ref qa), (1, .ref qb), (2, .int (nI f)), (3, .int (nI t)), (4, .int (nI i)), (5, .int (x.1)), (6, .int (x.2)), (7, .int (nI k))] → W p l e R s m args below meth c H locs cells slots Q (F0 m 92 ls [])) :
    ∀ (n k : Nat) (z : sq_T) (H : Heap) (locs : List Loc) (ls : Array Slot), k < n → f ≤ k → k ≤ i → sq_Ins f i k (sq_up z k x) → sq_Pm f t z0 (sq_up z k x) → va_P (dC, dI) vwCl (paW qa qb cA z) H → va_D A (paW qa qb cA z) → va_S A H0 H locs → lv_has ls 8 [(0, .ref qa), (1, .ref qb), (2, .int (nI f)), (3, .int (nI t)), (4, .int (nI i)), (5, .int (x.1)), (6, .int (x.2)), (7, .int (nI k))] → W p l e R s m args below meth c H locs cells slots Q (F0 m 27 ls []) := by
  intro n
  induction n with
  | zero => intro k z H locs ls h1; omega
  | succ n ih =>
    intro k z H locs ls h1 h2 h3 hI hM hP hD hS hl
    have e0 : sq_up z k x k = x := if_pos rfl
    refine lv_iload hx hb dX0_plainly_27 (lv_at hl 7 rfl) ?_
    refine lv_iload_n hx hb dX0_plainly_29 rfl (lv_at hl 2 rfl) ?_
    refine lv_icmp_le (tgt := 92) hx hb dX0_plainly_30 (by decide) (fun b1 => ?_) (fun b1 => ?_)
    · have c1 := (nI_leI (by omega) (by omega)).mp b1
      exact kk k z H locs ls h3 (hI.stop h3 (Or.inl c1)) hM hP hD hS hl
    · have c1 : f < k := Nat.not_le.mp (fun h => b1 (nI_le h (by omega)))
      have e1 : sq_up z k x (k - 1) = z (k - 1) := if_neg (by omega)
      have stay : sq_K (z (k - 1)) ≤ sq_K x → W p l e R s m args below meth c H locs cells slots Q (F0 m 92 ls []) := by
        intro c2
        exact kk k z H locs ls h3 (hI.stop h3 (Or.inr (by rw [e0, e1]; exact c2))) hM hP hD hS hl
      have go : sq_K x < sq_K (z (k - 1)) → W p l e R s m args below meth c H locs cells slots Q (F0 m 66 ls []) := by
        intro c2
        refine lv_aload_n hx hb dX0_plainly_66 rfl (lv_at hl 0 rfl) ?_
        refine lv_iload hx hb dX0_plainly_67 (lv_at hl 7 rfl) ?_
        refine lv_aload_n hx hb dX0_plainly_69 rfl (lv_at hl 0 rfl) ?_
        refine lv_iload hx hb dX0_plainly_70 (lv_at hl 7 rfl) ?_
        refine lv_iconst (v := nI 1) hx hb dX0_plainly_72 (by decide) ?_
        refine lv_isub hx hb dX0_plainly_73 ?_
        refine ox_to (y := nI (k - 1)) (pk_sub (by omega)) ?_
        refine ox_iald hx hb hK hP 0 0 rfl rfl (i := k - 1) (by omega) (by decide) (v := (z (k - 1)).1) rfl dX0_plainly_74 ?_
        refine ox_iast hx hb hK hP hD hS 0 0 rfl rfl (i := k) (by omega) (by decide) dX0_plainly_75 (fun H locs hP hD hS => ?_)
        have hP : va_P (dC, dI) vwCl [(qa, .inl (cA, 48, .inl (upd (fun q => (z q).1) k (z (k - 1)).1))), (qb, .inl (cA, 48, .inl ((fun q => (z q).2))))] H := hP
        have hD : va_D A [(qa, .inl (cA, 48, .inl (upd (fun q => (z q).1) k (z (k - 1)).1))), (qb, .inl (cA, 48, .inl ((fun q => (z q).2))))] := hD
        refine lv_aload_n hx hb dX0_plainly_76 rfl (lv_at hl 1 rfl) ?_
        refine lv_iload hx hb dX0_plainly_77 (lv_at hl 7 rfl) ?_
        refine lv_aload_n hx hb dX0_plainly_79 rfl (lv_at hl 1 rfl) ?_
        refine lv_iload hx hb dX0_plainly_80 (lv_at hl 7 rfl) ?_
        refine lv_iconst (v := nI 1) hx hb dX0_plainly_82 (by decide) ?_
        refine lv_isub hx hb dX0_plainly_83 ?_
        refine ox_to (y := nI (k - 1)) (pk_sub (by omega)) ?_
        refine ox_iald hx hb hK hP 1 0 rfl rfl (i := k - 1) (by omega) (by decide) (v := (z (k - 1)).2) rfl dX0_plainly_84 ?_
        refine ox_iast hx hb hK hP hD hS 1 0 rfl rfl (i := k) (by omega) (by decide) dX0_plainly_85 (fun H locs hP hD hS => ?_)
        have hP : va_P (dC, dI) vwCl [(qa, .inl (cA, 48, .inl (upd (fun q => (z q).1) k (z (k - 1)).1))), (qb, .inl (cA, 48, .inl (upd (fun q => (z q).2) k (z (k - 1)).2)))] H := hP
        have hD : va_D A [(qa, .inl (cA, 48, .inl (upd (fun q => (z q).1) k (z (k - 1)).1))), (qb, .inl (cA, 48, .inl (upd (fun q => (z q).2) k (z (k - 1)).2)))] := hD
        refine lv_iinc (v := nI (k - 1)) (lv' := [(7, .int (nI (k - 1))), (0, .ref qa), (1, .ref qb), (2, .int (nI f)), (3, .int (nI t)), (4, .int (nI i)), (5, .int (x.1)), (6, .int (x.2))]) hx hb dX0_plainly_86 hl (k := 7) rfl (ox_dec (by omega)) (by decide) rfl (fun ls hl => ?_)
        refine lv_goto (tgt := 27) hx hb dX0_plainly_89 (by decide) ?_
        rw [sq_up_1 z k (z (k - 1)).1 (z (k - 1)).2, sq_up_2 z k (z (k - 1)).1 (z (k - 1)).2] at hP
        exact ih (k - 1) (sq_up z k (z (k - 1))) H locs ls (by omega) (by omega) (by omega) (by rw [sq_hole z (by omega)]; exact hI.step h3 c1 (by rw [e0, e1]; exact c2)) (by rw [sq_hole z (by omega)]; exact hM.st (by omega) (by omega) (by omega) (by omega)) hP (paD hD _) hS (lv_sub hl [1, 2, 3, 4, 5, 6, 7, 0] rfl)
      refine lv_aload_n hx hb dX0_plainly_33 rfl (lv_at hl 0 rfl) ?_
      refine lv_iload hx hb dX0_plainly_34 (lv_at hl 7 rfl) ?_
      refine lv_iconst (v := nI 1) hx hb dX0_plainly_36 (by decide) ?_
      refine lv_isub hx hb dX0_plainly_37 ?_
      refine ox_to (y := nI (k - 1)) (pk_sub (by omega)) ?_
      refine ox_iald hx hb hK hP 0 0 rfl rfl (i := k - 1) (by omega) (by decide) (v := (z (k - 1)).1) rfl dX0_plainly_38 ?_
      refine lv_iload hx hb dX0_plainly_39 (lv_at hl 5 rfl) ?_
      refine lv_icmp_gt (tgt := 66) hx hb dX0_plainly_41 (by decide) (fun b2 => ?_) (fun b2 => ?_)
      · exact go (sq_K1 (Int32.lt_iff_toInt_lt.mp b2))
      · refine lv_aload_n hx hb dX0_plainly_44 rfl (lv_at hl 0 rfl) ?_
        refine lv_iload hx hb dX0_plainly_45 (lv_at hl 7 rfl) ?_
        refine lv_iconst (v := nI 1) hx hb dX0_plainly_47 (by decide) ?_
        refine lv_isub hx hb dX0_plainly_48 ?_
        refine ox_to (y := nI (k - 1)) (pk_sub (by omega)) ?_
        refine ox_iald hx hb hK hP 0 0 rfl rfl (i := k - 1) (by omega) (by decide) (v := (z (k - 1)).1) rfl dX0_plainly_49 ?_
        refine lv_iload hx hb dX0_plainly_50 (lv_at hl 5 rfl) ?_
        refine lv_icmp_ne (tgt := 92) hx hb dX0_plainly_52 (by decide) (fun b3 => ?_) (fun b3 => ?_)
        · have c2 := i32_ne b3
          have c3 : ¬ x.1.toInt < (z (k - 1)).1.toInt := fun h => b2 (Int32.lt_iff_toInt_lt.mpr h)
          exact stay (Int.le_of_lt (sq_K1 (by omega)))
        · have c3 := sq_K2 b3
          refine lv_aload_n hx hb dX0_plainly_55 rfl (lv_at hl 1 rfl) ?_
          refine lv_iload hx hb dX0_plainly_56 (lv_at hl 7 rfl) ?_
          refine lv_iconst (v := nI 1) hx hb dX0_plainly_58 (by decide) ?_
          refine lv_isub hx hb dX0_plainly_59 ?_
          refine ox_to (y := nI (k - 1)) (pk_sub (by omega)) ?_
          refine ox_iald hx hb hK hP 1 0 rfl rfl (i := k - 1) (by omega) (by decide) (v := (z (k - 1)).2) rfl dX0_plainly_60 ?_
          refine lv_iload hx hb dX0_plainly_61 (lv_at hl 6 rfl) ?_
          refine lv_icmp_le (tgt := 92) hx hb dX0_plainly_63 (by decide) (fun b4 => ?_) (fun b4 => ?_)
          · have c4 := i32_le b4
            exact stay (by omega)
          · have c4 := i32_nle b4
            exact go (by omega)
set_option maxHeartbeats 4000000 in
set_option maxRecDepth 100000 in
theorem pl_out (hx : p.tables.exec = Jvm.exec) (hb : c.code = cX0_plainly) (hK : va_K (dC, dI) vwCl [(cA, .int)] s) {f t : Nat} {z0 : sq_T} (ht : t ≤ 48) (hft : f ≤ t)
    (kk : ∀ (z : sq_T) (H : Heap) (locs : List Loc) (ls : Array Slot), sq_Srt f t z0 z → va_P (dC, dI) vwCl (paW qa qb cA z) H → va_D A (paW qa qb cA z) → va_S A H0 H locs → W p l e R s m args below meth c H locs cells slots Q (F0 m 110 ls [])) :
    ∀ (n i : Nat) (z : sq_T) (H : Heap) (locs : List Loc) (ls : Array Slot), t < i + n → f + 1 ≤ i → i ≤ 49 → sq_So f i z → sq_Pm f t z0 z → va_P (dC, dI) vwCl (paW qa qb cA z) H → va_D A (paW qa qb cA z) → va_S A H0 H locs → lv_has ls 8 [(0, .ref qa), (1, .ref qb), (2, .int (nI f)), (3, .int (nI t)), (4, .int (nI i))] → W p l e R s m args below meth c H locs cells slots Q (F0 m 5 ls []) := by
  intro n
  induction n with
  | zero =>
    intro i z H locs ls h1 h2 h3 hI hM hP hD hS hl
    refine lv_iload hx hb dX0_plainly_5 (lv_at hl 4 rfl) ?_
    refine lv_iload_n hx hb dX0_plainly_7 rfl (lv_at hl 3 rfl) ?_
    refine lv_icmp_ge (tgt := 110) hx hb dX0_plainly_8 (by decide) (fun b1 => ?_) (fun b1 => ?_)
    · exact kk z H locs ls ⟨hM, hI.sub (Nat.le_refl f) (by omega)⟩ hP hD hS
    · exact absurd (nI_le (by omega) (by omega)) b1
  | succ n ih =>
    intro i z H locs ls h1 h2 h3 hI hM hP hD hS hl
    refine lv_iload hx hb dX0_plainly_5 (lv_at hl 4 rfl) ?_
    refine lv_iload_n hx hb dX0_plainly_7 rfl (lv_at hl 3 rfl) ?_
    refine lv_icmp_ge (tgt := 110) hx hb dX0_plainly_8 (by decide) (fun b1 => ?_) (fun b1 => ?_)
    · have c1 : t ≤ i := (nI_leI (by omega) (by omega)).mp b1
      exact kk z H locs ls ⟨hM, hI.sub (Nat.le_refl f) c1⟩ hP hD hS
    · have c1 : i < t := Nat.not_le.mp (fun h => b1 (nI_le h (by omega)))
      refine lv_aload_n hx hb dX0_plainly_11 rfl (lv_at hl 0 rfl) ?_
      refine lv_iload hx hb dX0_plainly_12 (lv_at hl 4 rfl) ?_
      refine ox_iald hx hb hK hP 0 0 rfl rfl (i := i) (by omega) (by decide) (v := (z i).1) rfl dX0_plainly_14 ?_
      refine lv_istore (lv' := [(5, .int ((z i).1)), (0, .ref qa), (1, .ref qb), (2, .int (nI f)), (3, .int (nI t)), (4, .int (nI i))]) hx hb dX0_plainly_15 hl (by decide) rfl (fun ls hl => ?_)
      refine lv_aload_n hx hb dX0_plainly_17 rfl (lv_at hl 2 rfl) ?_
      refine lv_iload hx hb dX0_plainly_18 (lv_at hl 5 rfl) ?_
      refine ox_iald hx hb hK hP 1 0 rfl rfl (i := i) (by omega) (by decide) (v := (z i).2) rfl dX0_plainly_20 ?_
      refine lv_istore (lv' := [(6, .int ((z i).2)), (5, .int ((z i).1)), (0, .ref qa), (1, .ref qb), (2, .int (nI f)), (3, .int (nI t)), (4, .int (nI i))]) hx hb dX0_plainly_21 hl (by decide) rfl (fun ls hl => ?_)
      refine lv_iload hx hb dX0_plainly_23 (lv_at hl 6 rfl) ?_
      refine lv_istore (lv' := [(7, .int (nI i)), (6, .int ((z i).2)), (5, .int ((z i).1)), (0, .ref qa), (1, .ref qb), (2, .int (nI f)), (3, .int (nI t)), (4, .int (nI i))]) hx hb dX0_plainly_25 hl (by decide) rfl (fun ls hl => ?_)
      have es := sq_up_self z i
      refine pl_in hx hb hK (x := z i) (z0 := z0) ht c1 (fun k z1 H locs ls hk hI hM hP hD hS hl => ?_) (i + 1) i z H locs ls (by omega) (by omega) (Nat.le_refl i) (by rw [es]; exact sq_Ins.start hI) (by rw [es]; exact hM) hP hD hS (lv_sub hl [3, 4, 5, 6, 7, 2, 1, 0] rfl)
      refine lv_aload_n hx hb dX0_plainly_92 rfl (lv_at hl 0 rfl) ?_
      refine lv_iload hx hb dX0_plainly_93 (lv_at hl 7 rfl) ?_
      refine lv_iload hx hb dX0_plainly_95 (lv_at hl 5 rfl) ?_
      refine ox_iast hx hb hK hP hD hS 0 0 rfl rfl (i := k) (by omega) (by decide) dX0_plainly_97 (fun H locs hP hD hS => ?_)
      have hP : va_P (dC, dI) vwCl [(qa, .inl (cA, 48, .inl (upd (fun q => (z1 q).1) k (z i).1))), (qb, .inl (cA, 48, .inl ((fun q => (z1 q).2))))] H := hP
      have hD : va_D A [(qa, .inl (cA, 48, .inl (upd (fun q => (z1 q).1) k (z i).1))), (qb, .inl (cA, 48, .inl ((fun q => (z1 q).2))))] := hD
      refine lv_aload_n hx hb dX0_plainly_98 rfl (lv_at hl 1 rfl) ?_
      refine lv_iload hx hb dX0_plainly_99 (lv_at hl 7 rfl) ?_
      refine lv_iload hx hb dX0_plainly_101 (lv_at hl 6 rfl) ?_
      refine ox_iast hx hb hK hP hD hS 1 0 rfl rfl (i := k) (by omega) (by decide) dX0_plainly_103 (fun H locs hP hD hS => ?_)
      have hP : va_P (dC, dI) vwCl [(qa, .inl (cA, 48, .inl (upd (fun q => (z1 q).1) k (z i).1))), (qb, .inl (cA, 48, .inl (upd (fun q => (z1 q).2) k (z i).2)))] H := hP
      have hD : va_D A [(qa, .inl (cA, 48, .inl (upd (fun q => (z1 q).1) k (z i).1))), (qb, .inl (cA, 48, .inl (upd (fun q => (z1 q).2) k (z i).2)))] := hD
      refine lv_iinc (v := nI (i + 1)) (lv' := [(4, .int (nI (i + 1))), (0, .ref qa), (1, .ref qb), (2, .int (nI f)), (3, .int (nI t)), (5, .int ((z i).1)), (6, .int ((z i).2)), (7, .int (nI k))]) hx hb dX0_plainly_104 hl (k := 4) rfl (ox_inc _) (by decide) rfl (fun ls hl => ?_)
      refine lv_goto (tgt := 5) hx hb dX0_plainly_107 (by decide) ?_
      rw [sq_up_1 z1 k (z i).1 (z i).2, sq_up_2 z1 k (z i).1 (z i).2] at hP
      exact ih (i + 1) (sq_up z1 k (z i)) H locs ls (by omega) (by omega) (by omega) hI hM hP (paD hD _) hS (lv_sub hl [1, 2, 3, 4, 0] rfl)
end PLN
set_option maxHeartbeats 4000000 in
set_option maxRecDepth 100000 in
/-- plainly: the law's own arrays sorted by insertion -/
theorem metX0_plainly (l : Launch) (dC : Nat → ClassId) (dI : Nat → Nat → Nat) (qa qb : Nat) (cA : ClassId) (z : sq_T) (sz : Nat) {f t : Nat} (hft : f ≤ t) (ht : t ≤ 48) : Met l yX0_plainly (ws_ yX0_plainly cX0_plainly 8 none) { frames := 0, cells := 0, slots := 0, locals := 0 } (va_Pc [.ref qa, .ref qb, .int (nI f), .int (nI t)] (paB dC dI qa qb cA z sz)) (va_Qv (fun u => sq_Srt f t z u) (fun u t => va_P (dC, dI) vwCl (paW qa qb cA u) t.heap) (paA qa qb sz)) 0 0 (paA qa qb sz) := by
  refine Met.ofW (cc := cX0_plainly) (maxL := 8) (ret := none) (by decide) rfl ?_
  intro p e s m args below meth c s₁ B hml hv
  obtain ⟨rfl, hsz, hP, hK, hD0⟩ := hv
  have hx := B.exec
  have hb := B.bytes
  have hr := B.returns
  have hts := atoms_spec (ws := ws_ yX0_plainly cX0_plainly 8 none) B.pre
  have hts : ∀ w ∈ lw_all, w.before _ s = true := fun w h => hts w (List.mem_cons_of_mem _ h)
  have hown : s.vm.findClass RX0 = some m.cls := findClass_of_methodNamed B.named
  have hlocks := B.notSynchronized
  subst hsz
  have hl := lv_entry ([.ref qa, .ref qb, .int (nI f), .int (nI t)]) (n := 8) (Nat.le_of_ble_eq_true rfl)
  rw [lg_entry_eq]
  generalize (lg_sl ([.ref qa, .ref qb, .int (nI f), .int (nI t)]) ++ List.replicate (8 - (lg_sl ([.ref qa, .ref qb, .int (nI f), .int (nI t)])).length) Slot.unset).toArray = ls at hl ⊢
  have hl : lv_has ls 8 [(0, .ref qa), (1, .ref qb), (2, .int (nI f)), (3, .int (nI t))] := hl
  have hD := paD.own hD0 s.heap.size
  have hS : va_S (paA qa qb s.heap.size) s.heap s.heap [] := va_S.rf
  refine lv_iload_n hx hb dX0_plainly_0 rfl (lv_at hl 2 rfl) ?_
  refine lv_iconst (v := nI 1) hx hb dX0_plainly_1 (by decide) ?_
  refine lv_iadd hx hb dX0_plainly_2 ?_
  refine ox_to (y := nI (f + 1)) (nI_add _ _) ?_
  refine lv_istore (lv' := [(4, .int (nI (f + 1))), (0, .ref qa), (1, .ref qb), (2, .int (nI f)), (3, .int (nI t))]) hx hb dX0_plainly_3 hl (by decide) rfl (fun ls hl => ?_)
  refine pl_out hx hb hK ht hft (fun z1 H locs ls hq hP hD hS => ?_) (t + 1) (f + 1) z s.heap [] ls (by omega) (Nat.le_refl _) (by omega) (sq_So.one (Nat.le_refl _)) sq_Pm.rf hP hD hS (lv_sub hl [1, 2, 3, 4, 0] rfl)
  exact W.vret hx hb hr (fun t ht hW => ⟨⟨z1, rfl, hq, dk_end ht hP⟩, hS.F ht⟩) hS.2.2 dX0_plainly_110
end
section
/-! SwapSortDeskLaw.stands: a desk and the law's arrays hold the same pairs -/
abbrev stW (r d a1 a2 qa qb : Nat) (cA : ClassId) (z : sq_T) : va_W := dkW r d a1 a2 cA z ++ paW qa qb cA z
def stB (dC : Nat → ClassId) (dI : Nat → Nat → Nat) (r d a1 a2 qa qb : Nat) (cA : ClassId) (z : sq_T) (sz : Nat) (U : State) : Prop :=
  U.heap.size = sz ∧ va_P (dC, dI) vwCl (stW r d a1 a2 qa qb cA z) U.heap ∧ va_K (dC, dI) vwCl [(cA, .int)] U ∧ va_D (fun _ => True) (stW r d a1 a2 qa qb cA z) ∧ dkX U
theorem stB.blind {av : List Value} {dC : Nat → ClassId} {dI : Nat → Nat → Nat} {r d a1 a2 qa qb : Nat} {cA : ClassId} {z : sq_T} {sz : Nat} : FrameBlind (va_Pc av (stB dC dI r d a1 a2 qa qb cA z sz)) := fun a U g mk q => by
  obtain ⟨q0, q1, qP, qK, qD, qX⟩ := q
  exact ⟨q0, q1, qP, va_K.moved (u := U) (U := U.calling g mk a) (Vm.Alike.refl U.vm) qK, qD, dkX.vm (u := U) rfl qX⟩
theorem sq_i0 {i : Nat} (h : i < 48) : sq_m (nI i) % 48 = i := by
  rw [sq_m_nI (by omega)]
  omega
theorem sq_i48 {i : Nat} (h : i < 48) : sq_m (nI (i + 48)) % 48 = i := by
  rw [sq_m_nI (by omega)]
  omega
theorem sq_i96 {i : Nat} (h : i < 48) : sq_m (nI (i + 96)) % 48 = i := by
  rw [sq_m_nI (by omega)]
  omega
theorem sq_i480 {i : Nat} (h : i < 48) : sq_m (nI (i + 480)) % 48 = i := by
  rw [sq_m_nI (by omega)]
  omega
section STN
variable {p : Program} {l : Launch} {e : Env} {R : Room} {s : State} {m : MethodId} {args : Array Value} {below : List Frame} {meth : Method} {c : Code} {H : Heap} {locs : List Loc} {cells slots : Nat} {Q : State → Prop}
variable {dC : Nat → ClassId} {dI : Nat → Nat → Nat} {r d a1 a2 qa qb : Nat} {cA : ClassId} {A : Nat → Prop} {z : sq_T}
set_option maxHeartbeats 4000000 in
set_option maxRecDepth 100000 in
theorem st_loop (S : CallFix p m c cX0_stands 4 s args lw_all RX0) (hK : va_K (dC, dI) vwCl [(cA, .int)] s) (hX : dkX s) (hR : 1 ≤ R.frames ∧ 24 ≤ R.locals) (hcs : cells ≤ R.cells ∧ slots ≤ R.slots) (hP : va_P (dC, dI) vwCl (stW r d a1 a2 qa qb cA z) H) (hD : va_D A (stW r d a1 a2 qa qb cA z))
    (kk : ∀ ls : Array Slot, W p l e R s m args below meth c H locs cells slots Q (F0 m 66 ls [])) : ∀ (n i : Nat) (ls : Array Slot), i + n = 48 → lv_has ls 4 [(0, .ref d), (1, .ref qa), (2, .ref qb), (3, .int (nI i))] → W p l e R s m args below meth c H locs cells slots Q (F0 m 2 ls []) := by
  have hx := S.1
  have hb := S.2.1
  have hts := S.2.2.2.2
  have hPd : va_P (dC, dI) vwCl (dkW r d a1 a2 cA z) H := hP.sub [0, 1, 2, 3] rfl
  have hDd : va_D A (dkW r d a1 a2 cA z) := hD.sub [0, 1, 2, 3] (by decide) rfl
  intro n
  induction n with
  | zero =>
    intro i ls h1 hl
    refine lv_iload_n hx hb dX0_stands_2 rfl (lv_at hl 3 rfl) ?_
    refine lv_bipush (v := nI 48) hx hb dX0_stands_3 (by decide) ?_
    refine lv_icmp_ge (tgt := 66) hx hb dX0_stands_5 (by decide) (fun b1 => ?_) (fun b1 => ?_)
    · exact kk ls
    · exact absurd (nI_le (by omega) (by omega)) b1
  | succ n ih =>
    intro i ls h1 hl
    refine lv_iload_n hx hb dX0_stands_2 rfl (lv_at hl 3 rfl) ?_
    refine lv_bipush (v := nI 48) hx hb dX0_stands_3 (by decide) ?_
    refine lv_icmp_ge (tgt := 66) hx hb dX0_stands_5 (by decide) (fun b1 => ?_) (fun b1 => ?_)
    · exact absurd ((nI_leI (by omega) (by omega)).mp b1) (by omega)
    · refine lv_aload_n hx hb dX0_stands_8 rfl (lv_at hl 0 rfl) ?_
      refine lv_iload_n hx hb dX0_stands_9 rfl (lv_at hl 3 rfl) ?_
      refine vp_callSi (W.runV (As := [.int (nI (i))]) (rest := []) S (metX1_first l dC dI r d a1 a2 cA z H.size (nI (i))) (cwV 1 hts (lw_V q125 q126 q127 q3 q128) rfl rfl rfl (by decide +kernel) ⟨by show 0 + 1 ≤ R.frames; omega, by show 8 + (2 + 11) + 0 ≤ R.locals; omega⟩) ⟨dkB.blind, va_recv hK hPd (ci := 0) (q0 := 1) rfl rfl, fun U hU hW => ⟨rfl, dkB.at hK hX hPd hDd hU hW⟩⟩ rfl rfl hl.1 rfl (lv_room (Nat.le_of_ble_eq_true rfl)) dX0_stands_10 ⟨hcs.1, hcs.2⟩) (fun v hv => ?_)
      rw [sq_i0 (by omega)] at hv
      subst hv
      refine lv_aload_n hx hb dX0_stands_13 rfl (lv_at hl 1 rfl) ?_
      refine lv_iload_n hx hb dX0_stands_14 rfl (lv_at hl 3 rfl) ?_
      refine ox_iald hx hb hK hP 4 0 rfl rfl (i := i) (by omega) (by decide) (v := (z i).1) rfl dX0_stands_15 ?_
      refine lv_icmp_ne (tgt := 58) hx hb dX0_stands_16 (by decide) (fun b2 => ?_) (fun b2 => ?_)
      · exact absurd rfl b2
      · refine lv_aload_n hx hb dX0_stands_19 rfl (lv_at hl 0 rfl) ?_
        refine lv_iload_n hx hb dX0_stands_20 rfl (lv_at hl 3 rfl) ?_
        refine vp_callSi (W.runV (As := [.int (nI (i))]) (rest := []) S (metX1_second l dC dI r d a1 a2 cA z H.size (nI (i))) (cwV 1 hts (lw_V q129 q130 q131 q3 q132) rfl rfl rfl (by decide +kernel) ⟨by show 0 + 1 ≤ R.frames; omega, by show 8 + (2 + 11) + 0 ≤ R.locals; omega⟩) ⟨dkB.blind, va_recv hK hPd (ci := 0) (q0 := 1) rfl rfl, fun U hU hW => ⟨rfl, dkB.at hK hX hPd hDd hU hW⟩⟩ rfl rfl hl.1 rfl (lv_room (Nat.le_of_ble_eq_true rfl)) dX0_stands_21 ⟨hcs.1, hcs.2⟩) (fun v hv => ?_)
        rw [sq_i0 (by omega)] at hv
        subst hv
        refine lv_aload_n hx hb dX0_stands_24 rfl (lv_at hl 2 rfl) ?_
        refine lv_iload_n hx hb dX0_stands_25 rfl (lv_at hl 3 rfl) ?_
        refine ox_iald hx hb hK hP 5 0 rfl rfl (i := i) (by omega) (by decide) (v := (z i).2) rfl dX0_stands_26 ?_
        refine lv_icmp_ne (tgt := 58) hx hb dX0_stands_27 (by decide) (fun b2 => ?_) (fun b2 => ?_)
        · exact absurd rfl b2
        · refine lv_aload_n hx hb dX0_stands_30 rfl (lv_at hl 0 rfl) ?_
          refine lv_iload_n hx hb dX0_stands_31 rfl (lv_at hl 3 rfl) ?_
          refine lv_bipush (v := nI 48) hx hb dX0_stands_32 (by decide) ?_
          refine lv_iadd hx hb dX0_stands_34 ?_
          refine ox_to (y := nI (i + 48)) (nI_add _ _) ?_
          refine vp_callSi (W.runV (As := [.int (nI (i + 48))]) (rest := []) S (metX1_first l dC dI r d a1 a2 cA z H.size (nI (i + 48))) (cwV 1 hts (lw_V q125 q126 q127 q3 q128) rfl rfl rfl (by decide +kernel) ⟨by show 0 + 1 ≤ R.frames; omega, by show 8 + (2 + 11) + 0 ≤ R.locals; omega⟩) ⟨dkB.blind, va_recv hK hPd (ci := 0) (q0 := 1) rfl rfl, fun U hU hW => ⟨rfl, dkB.at hK hX hPd hDd hU hW⟩⟩ rfl rfl hl.1 rfl (lv_room (Nat.le_of_ble_eq_true rfl)) dX0_stands_35 ⟨hcs.1, hcs.2⟩) (fun v hv => ?_)
          rw [sq_i48 (by omega)] at hv
          subst hv
          refine lv_aload_n hx hb dX0_stands_38 rfl (lv_at hl 1 rfl) ?_
          refine lv_iload_n hx hb dX0_stands_39 rfl (lv_at hl 3 rfl) ?_
          refine ox_iald hx hb hK hP 4 0 rfl rfl (i := i) (by omega) (by decide) (v := (z i).1) rfl dX0_stands_40 ?_
          refine lv_icmp_ne (tgt := 58) hx hb dX0_stands_41 (by decide) (fun b2 => ?_) (fun b2 => ?_)
          · exact absurd rfl b2
          · refine lv_aload_n hx hb dX0_stands_44 rfl (lv_at hl 0 rfl) ?_
            refine lv_iload_n hx hb dX0_stands_45 rfl (lv_at hl 3 rfl) ?_
            refine lv_bipush (v := nI 96) hx hb dX0_stands_46 (by decide) ?_
            refine lv_iadd hx hb dX0_stands_48 ?_
            refine ox_to (y := nI (i + 96)) (nI_add _ _) ?_
            refine vp_callSi (W.runV (As := [.int (nI (i + 96))]) (rest := []) S (metX1_second l dC dI r d a1 a2 cA z H.size (nI (i + 96))) (cwV 1 hts (lw_V q129 q130 q131 q3 q132) rfl rfl rfl (by decide +kernel) ⟨by show 0 + 1 ≤ R.frames; omega, by show 8 + (2 + 11) + 0 ≤ R.locals; omega⟩) ⟨dkB.blind, va_recv hK hPd (ci := 0) (q0 := 1) rfl rfl, fun U hU hW => ⟨rfl, dkB.at hK hX hPd hDd hU hW⟩⟩ rfl rfl hl.1 rfl (lv_room (Nat.le_of_ble_eq_true rfl)) dX0_stands_49 ⟨hcs.1, hcs.2⟩) (fun v hv => ?_)
            rw [sq_i96 (by omega)] at hv
            subst hv
            refine lv_aload_n hx hb dX0_stands_52 rfl (lv_at hl 2 rfl) ?_
            refine lv_iload_n hx hb dX0_stands_53 rfl (lv_at hl 3 rfl) ?_
            refine ox_iald hx hb hK hP 5 0 rfl rfl (i := i) (by omega) (by decide) (v := (z i).2) rfl dX0_stands_54 ?_
            refine lv_icmp_eq (tgt := 60) hx hb dX0_stands_55 (by decide) (fun b2 => ?_) (fun b2 => ?_)
            · refine lv_iinc (v := nI (i + 1)) (lv' := [(3, .int (nI (i + 1))), (0, .ref d), (1, .ref qa), (2, .ref qb)]) hx hb dX0_stands_60 hl (k := 3) rfl (ox_inc _) (by decide) rfl (fun ls hl => ?_)
              refine lv_goto (tgt := 2) hx hb dX0_stands_63 (by decide) ?_
              exact ih (i + 1) ls (by omega) (lv_sub hl [1, 2, 3, 0] rfl)
            · exact absurd rfl b2
end STN
set_option maxHeartbeats 4000000 in
set_option maxRecDepth 100000 in
/-- stands answers true -/
theorem metX0_stands (l : Launch) (dC : Nat → ClassId) (dI : Nat → Nat → Nat) (r d a1 a2 qa qb : Nat) (cA : ClassId) (z : sq_T) (sz : Nat) : Met l yX0_stands (ws_ yX0_stands cX0_stands 4 (some .boolean)) { frames := 1, cells := 0, slots := 0, locals := 24 } (va_Pc [.ref d, .ref qa, .ref qb] (stB dC dI r d a1 a2 qa qb cA z sz)) (vp_Si (fun v => v = nI 1)) 0 0 (fun _ => False) := by
  refine Met.ofW (cc := cX0_stands) (maxL := 4) (ret := (some .boolean)) (by decide) rfl ?_
  intro p e s m args below meth c s₁ B hml hv
  obtain ⟨rfl, hsz, hP, hK, hD0, hX⟩ := hv
  have hx := B.exec
  have hb := B.bytes
  have hr := B.returns
  have hts := atoms_spec (ws := ws_ yX0_stands cX0_stands 4 (some .boolean)) B.pre
  have hts : ∀ w ∈ lw_all, w.before _ s = true := fun w h => hts w (List.mem_cons_of_mem _ h)
  have hown : s.vm.findClass RX0 = some m.cls := findClass_of_methodNamed B.named
  have hlocks := B.notSynchronized
  subst hsz
  have hl := lv_entry ([.ref d, .ref qa, .ref qb]) (n := 4) (Nat.le_of_ble_eq_true rfl)
  rw [lg_entry_eq]
  generalize (lg_sl ([.ref d, .ref qa, .ref qb]) ++ List.replicate (4 - (lg_sl ([.ref d, .ref qa, .ref qb])).length) Slot.unset).toArray = ls at hl ⊢
  have hl : lv_has ls 4 [(0, .ref d), (1, .ref qa), (2, .ref qb)] := hl
  refine lv_iconst (v := nI 0) hx hb dX0_stands_0 (by decide) ?_
  refine lv_istore_n (lv' := [(3, .int (nI 0)), (0, .ref d), (1, .ref qa), (2, .ref qb)]) hx hb dX0_stands_1 rfl hl (by decide) rfl (fun ls hl => ?_)
  refine st_loop ⟨hx, hb, hml, hown, hts⟩ hK hX ⟨Nat.le_of_ble_eq_true rfl, Nat.le_of_ble_eq_true rfl⟩ ⟨Nat.zero_le _, Nat.zero_le _⟩ hP hD0 (fun ls => ?_) 48 0 ls (Nat.zero_add _) (lv_sub hl [1, 2, 3, 0] rfl)
  refine lv_iconst (v := nI 1) hx hb dX0_stands_66 (by decide) ?_
  exact W.zret (v := nI 1) hx hb hr rfl (fun t ht hW => ⟨_, rfl, rfl, ht⟩) (fun q h => by cases h) dX0_stands_67
/-! the law's world: both desks, the two arrays; one row for each call -/
abbrev lawW (r1 d1 a1 b1 r2 d2 a2 b2 qa qb : Nat) (cA : ClassId) (x y z : sq_T) : va_W := dkW r1 d1 a1 b1 cA x ++ (dkW r2 d2 a2 b2 cA y ++ paW qa qb cA z)
theorem dkA_A {r d a1 a2 sz : Nat} {cA : ClassId} {z : sq_T} {q : Nat} (h : dkA r d a1 a2 sz q) : va_A (dkW r d a1 a2 cA z) sz q := by
  rcases h with e | e | e | e | e
  · exact Or.inl ⟨0, _, by rw [e]; rfl⟩
  · exact Or.inl ⟨1, _, by rw [e]; rfl⟩
  · exact Or.inl ⟨2, _, by rw [e]; rfl⟩
  · exact Or.inl ⟨3, _, by rw [e]; rfl⟩
  · exact Or.inr e
theorem paA_A {qa qb sz : Nat} {cA : ClassId} {z : sq_T} {q : Nat} (h : paA qa qb sz q) : va_A (paW qa qb cA z) sz q := by
  rcases h with e | e | e
  · exact Or.inl ⟨0, _, by rw [e]; rfl⟩
  · exact Or.inl ⟨1, _, by rw [e]; rfl⟩
  · exact Or.inr e
section LWR
variable {p : Program} {l : Launch} {e : Env} {R : Room} {s : State} {m : MethodId} {args : Array Value} {below : List Frame} {meth : Method} {c : Code} {H : Heap} {locs : List Loc} {cells slots : Nat} {Q : State → Prop}
variable {cc : ByteArray} {nL pc : Nat} {ls : Array Slot} {rest : List Value} {dC : Nat → ClassId} {dI : Nat → Nat → Nat} {r1 d1 a1 b1 r2 d2 a2 b2 qa qb : Nat} {cA : ClassId} {x y z : sq_T} {A : Nat → Prop} {H0 : Heap}
set_option maxHeartbeats 4000000 in
set_option maxRecDepth 100000 in
/-- a call that changes the desk x -/
theorem law_x (S : CallFix p m c cc nL s args lw_all RX0) (hl : ls.size = nL) (hK : va_K (dC, dI) vwCl [(cA, .int)] s) (hX : dkX s) (hcs : cells ≤ R.cells ∧ slots ≤ R.slots) (hA : ∀ q : Nat, H0.size ≤ q → A q) (hP : va_P (dC, dI) vwCl (lawW r1 d1 a1 b1 r2 d2 a2 b2 qa qb cA x y z) H) (hD : va_D A (lawW r1 d1 a1 b1 r2 d2 a2 b2 qa qb cA x y z)) (hS : va_S A H0 H locs) {yM : MethodName} {bytes : ByteArray} {maxL index n : Nat} {ret : Option FieldType} {rm : Room} {post : sq_T → Prop} (As : List Value) (hM : dkMet l yM (ws_ yM bytes maxL ret) rm (.ref d1 :: As) dC dI r1 d1 a1 b1 cA x H.size post) (cw : CallW R s args RX0 RX1 index yM bytes maxL ret (ws_ yM bytes maxL ret) rm 0 0 n) (hn : As.length = n) {st : List Value} (hst : st = As.reverse ++ .ref d1 :: rest) (hr : (rest.map fun v => v.category).sum ≤ 8) (hdg : decode cc pc = .ok (.invokevirtual index, 3))
    (kk : ∀ (u : sq_T) (H1 : Heap) (locs1 : List Loc), post u → va_P (dC, dI) vwCl (lawW r1 d1 a1 b1 r2 d2 a2 b2 qa qb cA u y z) H1 → va_D A (lawW r1 d1 a1 b1 r2 d2 a2 b2 qa qb cA u y z) → va_S A H0 H1 locs1 → W p l e R s m args below meth c H1 locs1 cells slots Q (F0 m (pc + 3) ls rest)) : W p l e R s m args below meth c H locs cells slots Q (F0 m pc ls st) := by
  have hPc : va_P (dC, dI) vwCl (dkW r1 d1 a1 b1 cA x) H := hP.sub [0, 1, 2, 3] rfl
  have hDc : va_D A (dkW r1 d1 a1 b1 cA x) := hD.sub [0, 1, 2, 3] (by decide) rfl
  have hF := dkD.free hDc (sz := H.size) (fun q h => hA q (Nat.le_trans hS.1 h))
  refine va_callv (va_runV (As := As) (rest := rest) S hM cw ⟨dkB.blind, va_recv hK hPc (ci := 0) (q0 := 1) rfl rfl, fun U hU hW => ⟨rfl, dkB.at hK hX hPc hDc hU hW⟩⟩ rfl hn hl hst (lv_room hr) hdg ⟨hcs.1, hcs.2⟩) hS (fun q _ h => hF q h) hF (fun u t H1 locs1 ht _ hu hB _ hk1 hS1 => ?_)
  subst ht
  obtain ⟨hP1, hD1⟩ := va_join (wc := dkW r1 d1 a1 b1 cA x) (wr := dkW r2 d2 a2 b2 cA y ++ paW qa qb cA z) (w1 := dkW r1 d1 a1 b1 cA u) hP hD [0, 1, 2, 3] [4, 5, 6, 7, 8, 9] rfl rfl (by decide) (by decide) (fun q g1 g2 => hk1 q g1 (fun g3 => g2 (dkA_A g3))) (va_free hD hS hA [0, 1, 2, 3] rfl) hB (dkD (hDc.self (sz := H.size)) u)
  exact kk u _ _ hu (hP1.sub [6, 7, 8, 9, 0, 1, 2, 3, 4, 5] rfl) (hD1.sub [6, 7, 8, 9, 0, 1, 2, 3, 4, 5] (by decide) rfl) hS1
set_option maxHeartbeats 4000000 in
set_option maxRecDepth 100000 in
/-- stands of the desk x -/
theorem law_stx (S : CallFix p m c cc nL s args lw_all RX0) (hl : ls.size = nL) (hK : va_K (dC, dI) vwCl [(cA, .int)] s) (hX : dkX s) (hR : 2 ≤ R.frames ∧ 60 ≤ R.locals) (hcs : cells ≤ R.cells ∧ slots ≤ R.slots) (hP : va_P (dC, dI) vwCl (lawW r1 d1 a1 b1 r2 d2 a2 b2 qa qb cA z y z) H) (hD : va_D A (lawW r1 d1 a1 b1 r2 d2 a2 b2 qa qb cA z y z)) (hr : (rest.map fun v => v.category).sum ≤ 8) (hdg : decode cc pc = .ok (.invokestatic 23, 3))
    (kk : W p l e R s m args below meth c H locs cells slots Q (F0 m (pc + 3) ls (.int (nI 1) :: rest))) : W p l e R s m args below meth c H locs cells slots Q (F0 m pc ls (.ref qb :: .ref qa :: .ref d1 :: rest)) := by
  have hPc : va_P (dC, dI) vwCl (stW r1 d1 a1 b1 qa qb cA z) H := hP.sub [0, 1, 2, 3, 8, 9] rfl
  have hDc : va_D A (stW r1 d1 a1 b1 qa qb cA z) := hD.sub [0, 1, 2, 3, 8, 9] (by decide) rfl
  refine vp_callSi (W.runS (As := [.ref d1, .ref qa, .ref qb]) (rest := rest) S (metX0_stands l dC dI r1 d1 a1 b1 qa qb cA z H.size) (va_cwS 3 S.2.2.2.2 (lw_S q122 q123 q2 q124) rfl rfl rfl (by decide +kernel) ⟨by show 1 + 1 ≤ R.frames; omega, by show 8 + (4 + 11) + 24 ≤ R.locals; omega⟩) ⟨stB.blind, fun U hU hW => ⟨rfl, by rw [hU], by rw [hU]; exact hPc, va_K.moved hW.alike hK, hDc.weaken (fun _ _ _ _ => trivial), dkX.warm hW hX⟩⟩ rfl rfl hl rfl (lv_room hr) hdg ⟨hcs.1, hcs.2⟩) (fun v hv => ?_)
  subst hv
  exact kk
set_option maxHeartbeats 4000000 in
set_option maxRecDepth 100000 in
/-- a call that changes the desk y -/
theorem law_y (S : CallFix p m c cc nL s args lw_all RX0) (hl : ls.size = nL) (hK : va_K (dC, dI) vwCl [(cA, .int)] s) (hX : dkX s) (hcs : cells ≤ R.cells ∧ slots ≤ R.slots) (hA : ∀ q : Nat, H0.size ≤ q → A q) (hP : va_P (dC, dI) vwCl (lawW r1 d1 a1 b1 r2 d2 a2 b2 qa qb cA x y z) H) (hD : va_D A (lawW r1 d1 a1 b1 r2 d2 a2 b2 qa qb cA x y z)) (hS : va_S A H0 H locs) {yM : MethodName} {bytes : ByteArray} {maxL index n : Nat} {ret : Option FieldType} {rm : Room} {post : sq_T → Prop} (As : List Value) (hM : dkMet l yM (ws_ yM bytes maxL ret) rm (.ref d2 :: As) dC dI r2 d2 a2 b2 cA y H.size post) (cw : CallW R s args RX0 RX1 index yM bytes maxL ret (ws_ yM bytes maxL ret) rm 0 0 n) (hn : As.length = n) {st : List Value} (hst : st = As.reverse ++ .ref d2 :: rest) (hr : (rest.map fun v => v.category).sum ≤ 8) (hdg : decode cc pc = .ok (.invokevirtual index, 3))
    (kk : ∀ (u : sq_T) (H1 : Heap) (locs1 : List Loc), post u → va_P (dC, dI) vwCl (lawW r1 d1 a1 b1 r2 d2 a2 b2 qa qb cA x u z) H1 → va_D A (lawW r1 d1 a1 b1 r2 d2 a2 b2 qa qb cA x u z) → va_S A H0 H1 locs1 → W p l e R s m args below meth c H1 locs1 cells slots Q (F0 m (pc + 3) ls rest)) : W p l e R s m args below meth c H locs cells slots Q (F0 m pc ls st) := by
  have hPc : va_P (dC, dI) vwCl (dkW r2 d2 a2 b2 cA y) H := hP.sub [4, 5, 6, 7] rfl
  have hDc : va_D A (dkW r2 d2 a2 b2 cA y) := hD.sub [4, 5, 6, 7] (by decide) rfl
  have hF := dkD.free hDc (sz := H.size) (fun q h => hA q (Nat.le_trans hS.1 h))
  refine va_callv (va_runV (As := As) (rest := rest) S hM cw ⟨dkB.blind, va_recv hK hPc (ci := 0) (q0 := 1) rfl rfl, fun U hU hW => ⟨rfl, dkB.at hK hX hPc hDc hU hW⟩⟩ rfl hn hl hst (lv_room hr) hdg ⟨hcs.1, hcs.2⟩) hS (fun q _ h => hF q h) hF (fun u t H1 locs1 ht _ hu hB _ hk1 hS1 => ?_)
  subst ht
  obtain ⟨hP1, hD1⟩ := va_join (wc := dkW r2 d2 a2 b2 cA y) (wr := dkW r1 d1 a1 b1 cA x ++ paW qa qb cA z) (w1 := dkW r2 d2 a2 b2 cA u) hP hD [4, 5, 6, 7] [0, 1, 2, 3, 8, 9] rfl rfl (by decide) (by decide) (fun q g1 g2 => hk1 q g1 (fun g3 => g2 (dkA_A g3))) (va_free hD hS hA [4, 5, 6, 7] rfl) hB (dkD (hDc.self (sz := H.size)) u)
  exact kk u _ _ hu (hP1.sub [0, 1, 2, 3, 6, 7, 8, 9, 4, 5] rfl) (hD1.sub [0, 1, 2, 3, 6, 7, 8, 9, 4, 5] (by decide) rfl) hS1
set_option maxHeartbeats 4000000 in
set_option maxRecDepth 100000 in
/-- stands of the desk y -/
theorem law_sty (S : CallFix p m c cc nL s args lw_all RX0) (hl : ls.size = nL) (hK : va_K (dC, dI) vwCl [(cA, .int)] s) (hX : dkX s) (hR : 2 ≤ R.frames ∧ 60 ≤ R.locals) (hcs : cells ≤ R.cells ∧ slots ≤ R.slots) (hP : va_P (dC, dI) vwCl (lawW r1 d1 a1 b1 r2 d2 a2 b2 qa qb cA x z z) H) (hD : va_D A (lawW r1 d1 a1 b1 r2 d2 a2 b2 qa qb cA x z z)) (hr : (rest.map fun v => v.category).sum ≤ 8) (hdg : decode cc pc = .ok (.invokestatic 23, 3))
    (kk : W p l e R s m args below meth c H locs cells slots Q (F0 m (pc + 3) ls (.int (nI 1) :: rest))) : W p l e R s m args below meth c H locs cells slots Q (F0 m pc ls (.ref qb :: .ref qa :: .ref d2 :: rest)) := by
  have hPc : va_P (dC, dI) vwCl (stW r2 d2 a2 b2 qa qb cA z) H := hP.sub [4, 5, 6, 7, 8, 9] rfl
  have hDc : va_D A (stW r2 d2 a2 b2 qa qb cA z) := hD.sub [4, 5, 6, 7, 8, 9] (by decide) rfl
  refine vp_callSi (W.runS (As := [.ref d2, .ref qa, .ref qb]) (rest := rest) S (metX0_stands l dC dI r2 d2 a2 b2 qa qb cA z H.size) (va_cwS 3 S.2.2.2.2 (lw_S q122 q123 q2 q124) rfl rfl rfl (by decide +kernel) ⟨by show 1 + 1 ≤ R.frames; omega, by show 8 + (4 + 11) + 24 ≤ R.locals; omega⟩) ⟨stB.blind, fun U hU hW => ⟨rfl, by rw [hU], by rw [hU]; exact hPc, va_K.moved hW.alike hK, hDc.weaken (fun _ _ _ _ => trivial), dkX.warm hW hX⟩⟩ rfl rfl hl rfl (lv_room hr) hdg ⟨hcs.1, hcs.2⟩) (fun v hv => ?_)
  subst hv
  exact kk
set_option maxHeartbeats 4000000 in
set_option maxRecDepth 100000 in
/-- plainly on the law's arrays -/
theorem law_pl (S : CallFix p m c cc nL s args lw_all RX0) (hl : ls.size = nL) (hK : va_K (dC, dI) vwCl [(cA, .int)] s) (hR : 2 ≤ R.frames ∧ 60 ≤ R.locals) (hcs : cells ≤ R.cells ∧ slots ≤ R.slots) (hA : ∀ q : Nat, H0.size ≤ q → A q) (hP : va_P (dC, dI) vwCl (lawW r1 d1 a1 b1 r2 d2 a2 b2 qa qb cA x y z) H) (hD : va_D A (lawW r1 d1 a1 b1 r2 d2 a2 b2 qa qb cA x y z)) (hS : va_S A H0 H locs) {f t : Nat} (hft : f ≤ t) (ht : t ≤ 48) (hr : (rest.map fun v => v.category).sum ≤ 8) (hdg : decode cc pc = .ok (.invokestatic 46, 3))
    (kk : ∀ (u : sq_T) (H1 : Heap) (locs1 : List Loc), sq_Srt f t z u → va_P (dC, dI) vwCl (lawW r1 d1 a1 b1 r2 d2 a2 b2 qa qb cA x y u) H1 → va_D A (lawW r1 d1 a1 b1 r2 d2 a2 b2 qa qb cA x y u) → va_S A H0 H1 locs1 → W p l e R s m args below meth c H1 locs1 cells slots Q (F0 m (pc + 3) ls rest)) : W p l e R s m args below meth c H locs cells slots Q (F0 m pc ls (.int (nI t) :: .int (nI f) :: .ref qb :: .ref qa :: rest)) := by
  have hPc : va_P (dC, dI) vwCl (paW qa qb cA z) H := hP.sub [8, 9] rfl
  have hDc : va_D A (paW qa qb cA z) := hD.sub [8, 9] (by decide) rfl
  have hF : ∀ q, va_A (paW qa qb cA z) H.size q → A q := va_free hD hS hA [8, 9] rfl
  refine va_callv (va_runS (As := [.ref qa, .ref qb, .int (nI f), .int (nI t)]) (rest := rest) S (metX0_plainly l dC dI qa qb cA z H.size hft ht) (va_cwS 4 S.2.2.2.2 (lw_S q119 q120 q2 q121) rfl rfl rfl (by decide +kernel) ⟨by show 0 + 1 ≤ R.frames; omega, by show 8 + (8 + 11) + 0 ≤ R.locals; omega⟩) ⟨paB.blind, fun U hU hW => ⟨rfl, by rw [hU], by rw [hU]; exact hPc, va_K.moved hW.alike hK, hDc.weaken (fun _ _ _ _ => trivial)⟩⟩ rfl rfl hl rfl (lv_room hr) hdg ⟨hcs.1, hcs.2⟩) hS (fun q _ h => hF q (paA_A h)) (fun q h => hF q (paA_A h)) (fun u t H1 locs1 ht _ hu hB _ hk1 hS1 => ?_)
  subst ht
  obtain ⟨hP1, hD1⟩ := va_join (wc := paW qa qb cA z) (wr := dkW r1 d1 a1 b1 cA x ++ dkW r2 d2 a2 b2 cA y) (w1 := paW qa qb cA u) hP hD [8, 9] [0, 1, 2, 3, 4, 5, 6, 7] rfl rfl (by decide) (by decide) (fun q g1 g2 => hk1 q g1 (fun g3 => g2 (paA_A g3))) hF hB (paD (hDc.self (sz := H.size)) u)
  exact kk u _ _ hu hP1 hD1 hS1
/-- cell(s, k) -/
theorem law_cell (S : CallFix p m c cc nL s args lw_all RX0) (hl : ls.size = nL) (hR : 2 ≤ R.frames ∧ 60 ≤ R.locals) (hcs : cells ≤ R.cells ∧ slots ≤ R.slots) {b0 L : Nat} {xs : Nat → Int32} (hX0 : va_X b0 L xs s s.heap) (hb0 : b0 < s.heap.size) (hbA : ¬ A b0) (hL : L < 2 ^ 31) (hS : va_S A s.heap H locs) {k : Nat} (hk : k < 2 ^ 31) (hr : (rest.map fun v => v.category).sum ≤ 8) (hdg : decode cc pc = .ok (.invokestatic 27, 3))
    (kk : W p l e R s m args below meth c H locs cells slots Q (F0 m (pc + 3) ls (.int (sq_cell L xs k) :: rest))) : W p l e R s m args below meth c H locs cells slots Q (F0 m pc ls (.int (nI k) :: .ref b0 :: rest)) := by
  refine vp_callSi (W.runS (As := [.ref b0, .int (nI k)]) (rest := rest) S (metX0_cell l b0 L xs hL hk) (va_cwS 2 S.2.2.2.2 (lw_S q109 q110 q2 q111) rfl rfl rfl (by decide +kernel) ⟨by show 0 + 1 ≤ R.frames; omega, by show 8 + (2 + 11) + 0 ≤ R.locals; omega⟩) ⟨fun a U g mk q => ⟨q.1, va_X.moved (u := U) (U := U.calling g mk a) (Vm.Alike.refl U.vm) q.2⟩, fun U hU hW => ⟨rfl, va_X.moved hW.alike (va_X.kept hX0 (by rw [hU]; exact hS.2.1 b0 hb0 hbA))⟩⟩ rfl rfl hl rfl (lv_room hr) hdg ⟨hcs.1, hcs.2⟩) (fun v hv => ?_)
  subst hv
  exact kk
/-- from(f) -/
theorem law_from (S : CallFix p m c cc nL s args lw_all RX0) (hl : ls.size = nL) (hR : 2 ≤ R.frames ∧ 60 ≤ R.locals) (hcs : cells ≤ R.cells ∧ slots ≤ R.slots) {f : Int32} (hr : (rest.map fun v => v.category).sum ≤ 8) (hdg : decode cc pc = .ok (.invokestatic 8, 3))
    (kk : W p l e R s m args below meth c H locs cells slots Q (F0 m (pc + 3) ls (.int (nI (sq_fr f)) :: rest))) : W p l e R s m args below meth c H locs cells slots Q (F0 m pc ls (.int f :: rest)) := by
  refine vp_callSi (W.runS (As := [.int f]) (rest := rest) S (metX0_from l f) (va_cwS 1 S.2.2.2.2 (lw_S q112 q113 q2 q114) rfl rfl rfl (by decide +kernel) ⟨by show 0 + 1 ≤ R.frames; omega, by show 8 + (1 + 11) + 0 ≤ R.locals; omega⟩) ⟨fun _ _ _ _ q => q, fun U hU hW => ⟨rfl, trivial⟩⟩ rfl rfl hl rfl (lv_room hr) hdg ⟨hcs.1, hcs.2⟩) (fun v hv => ?_)
  subst hv
  exact kk
/-- to(f, t) -/
theorem law_to (S : CallFix p m c cc nL s args lw_all RX0) (hl : ls.size = nL) (hR : 2 ≤ R.frames ∧ 60 ≤ R.locals) (hcs : cells ≤ R.cells ∧ slots ≤ R.slots) {f t : Int32} (hr : (rest.map fun v => v.category).sum ≤ 8) (hdg : decode cc pc = .ok (.invokestatic 42, 3))
    (kk : W p l e R s m args below meth c H locs cells slots Q (F0 m (pc + 3) ls (.int (nI (sq_to f t)) :: rest))) : W p l e R s m args below meth c H locs cells slots Q (F0 m pc ls (.int t :: .int f :: rest)) := by
  refine vp_callSi (W.runS (As := [.int f, .int t]) (rest := rest) S (metX0_to l f t) (va_cwS 2 S.2.2.2.2 (lw_S q116 q117 q2 q118) rfl rfl rfl (by decide +kernel) ⟨by show 1 + 1 ≤ R.frames; omega, by show 8 + (2 + 11) + 24 ≤ R.locals; omega⟩) ⟨fun _ _ _ _ q => q, fun U hU hW => ⟨rfl, trivial⟩⟩ rfl rfl hl rfl (lv_room hr) hdg ⟨hcs.1, hcs.2⟩) (fun v hv => ?_)
  subst hv
  exact kk
end LWR
end
section
/-! the law's body -/
theorem sq_up_at (z : sq_T) (i : Nat) (x : Int32 × Int32) : sq_up z i x i = x := if_pos rfl
section LAWB
variable {p : Program} {l : Launch} {e : Env} {R : Room} {s : State} {m : MethodId} {args : Array Value} {below : List Frame} {meth : Method} {c : Code} {cells slots : Nat} {Q : State → Prop}
variable {dC : Nat → ClassId} {dI : Nat → Nat → Nat} {r1 d1 a1 b1 r2 d2 a2 b2 qa qb : Nat} {cA : ClassId} {A : Nat → Prop} {H0 : Heap}
set_option maxHeartbeats 4000000 in
set_option maxRecDepth 100000 in
theorem law_fill (S : CallFix p m c cL_law 11 s args lw_all RX0) (hK : va_K (dC, dI) vwCl [(cA, .int)] s) (hX : dkX s) (hR : 200 ≤ R.frames ∧ 5000 ≤ R.locals) (hcs : cells ≤ R.cells ∧ slots ≤ R.slots) (hA : ∀ q : Nat, s.heap.size ≤ q → A q) {b0 L : Nat} {xs : Nat → Int32} (hX0 : va_X b0 L xs s s.heap) (hb0 : b0 < s.heap.size) (hbA : ¬ A b0) (hL : L < 2 ^ 31)
    (kk : ∀ (z : sq_T) (H : Heap) (locs : List Loc) (ls : Array Slot), va_P (dC, dI) vwCl (lawW r1 d1 a1 b1 r2 d2 a2 b2 qa qb cA z z z) H → va_D A (lawW r1 d1 a1 b1 r2 d2 a2 b2 qa qb cA z z z) → va_S A s.heap H locs → lv_has ls 11 [(0, .ref b0), (1, .ref d1), (2, .ref d2), (3, .ref qa), (4, .ref qb)] → W p l e R s m args below meth c H locs cells slots Q (F0 m 116 ls [])) :
    ∀ (n i : Nat) (z : sq_T) (H : Heap) (locs : List Loc) (ls : Array Slot), i + n = 48 → va_P (dC, dI) vwCl (lawW r1 d1 a1 b1 r2 d2 a2 b2 qa qb cA z z z) H → va_D A (lawW r1 d1 a1 b1 r2 d2 a2 b2 qa qb cA z z z) → va_S A s.heap H locs → lv_has ls 11 [(0, .ref b0), (1, .ref d1), (2, .ref d2), (3, .ref qa), (4, .ref qb), (5, .int (nI i))] → W p l e R s m args below meth c H locs cells slots Q (F0 m 42 ls []) := by
  have hx := S.1
  have hb := S.2.1
  have hown := S.2.2.2.1
  have hts := S.2.2.2.2
  have hR2 : 2 ≤ R.frames ∧ 60 ≤ R.locals := ⟨by omega, by omega⟩
  intro n
  induction n with
  | zero =>
    intro i z H locs ls h1 hP hD hS hl
    refine lv_iload hx hb dL_law_42 (lv_at hl 5 rfl) ?_
    refine lv_bipush (v := nI 48) hx hb dL_law_44 (by decide) ?_
    refine lv_icmp_ge (tgt := 116) hx hb dL_law_46 (by decide) (fun k1 => ?_) (fun k1 => ?_)
    · exact kk z H locs ls hP hD hS (lv_sub hl [0, 1, 2, 3, 4] rfl)
    · exact absurd (nI_le (by omega) (by omega)) k1
  | succ n ih =>
    intro i z H locs ls h1 hP hD hS hl
    refine lv_iload hx hb dL_law_42 (lv_at hl 5 rfl) ?_
    refine lv_bipush (v := nI 48) hx hb dL_law_44 (by decide) ?_
    refine lv_icmp_ge (tgt := 116) hx hb dL_law_46 (by decide) (fun k1 => ?_) (fun k1 => ?_)
    · exact absurd ((nI_leI (by omega) (by omega)).mp k1) (by omega)
    · refine lv_aload_n hx hb dL_law_49 rfl (lv_at hl 3 rfl) ?_
      refine lv_iload hx hb dL_law_50 (lv_at hl 5 rfl) ?_
      refine lv_aload_n hx hb dL_law_52 rfl (lv_at hl 0 rfl) ?_
      refine lv_iconst (v := nI 2) hx hb dL_law_53 (by decide) ?_
      refine lv_iload hx hb dL_law_54 (lv_at hl 5 rfl) ?_
      refine lv_imul hx hb dL_law_56 ?_
      refine ox_to (y := nI (2 * i)) (pk_mul _ _) ?_
      refine law_cell S hl.1 hR2 hcs hX0 hb0 hbA hL hS (k := 2 * i) (by omega) (Nat.le_of_ble_eq_true rfl) dL_law_57 ?_
      obtain ⟨v1, hv1⟩ : ∃ v1, v1 = sq_cell L xs (2 * i) := ⟨_, rfl⟩
      rw [← hv1]
      refine ox_iast hx hb hK hP hD hS 8 0 rfl rfl (i := i) (by omega) (by decide) dL_law_60 (fun H locs hP hD hS => ?_)
      have hP : va_P (dC, dI) vwCl (dkW r1 d1 a1 b1 cA z ++ (dkW r2 d2 a2 b2 cA z ++ [(qa, .inl (cA, 48, .inl (upd (fun q => (z q).1) (i) v1))), (qb, .inl (cA, 48, .inl ((fun q => (z q).2))))])) H := hP
      have hD : va_D A (dkW r1 d1 a1 b1 cA z ++ (dkW r2 d2 a2 b2 cA z ++ [(qa, .inl (cA, 48, .inl (upd (fun q => (z q).1) (i) v1))), (qb, .inl (cA, 48, .inl ((fun q => (z q).2))))])) := hD
      refine lv_aload hx hb dL_law_61 (lv_at hl 4 rfl) ?_
      refine lv_iload hx hb dL_law_63 (lv_at hl 5 rfl) ?_
      refine lv_aload_n hx hb dL_law_65 rfl (lv_at hl 0 rfl) ?_
      refine lv_iconst (v := nI 2) hx hb dL_law_66 (by decide) ?_
      refine lv_iload hx hb dL_law_67 (lv_at hl 5 rfl) ?_
      refine lv_imul hx hb dL_law_69 ?_
      refine ox_to (y := nI (2 * i)) (pk_mul _ _) ?_
      refine lv_iconst (v := nI 1) hx hb dL_law_70 (by decide) ?_
      refine lv_iadd hx hb dL_law_71 ?_
      refine ox_to (y := nI (2 * i + 1)) (nI_add _ _) ?_
      refine law_cell S hl.1 hR2 hcs hX0 hb0 hbA hL hS (k := 2 * i + 1) (by omega) (Nat.le_of_ble_eq_true rfl) dL_law_72 ?_
      obtain ⟨v2, hv2⟩ : ∃ v2, v2 = sq_cell L xs (2 * i + 1) := ⟨_, rfl⟩
      rw [← hv2]
      refine ox_iast hx hb hK hP hD hS 9 0 rfl rfl (i := i) (by omega) (by decide) dL_law_75 (fun H locs hP hD hS => ?_)
      have hP : va_P (dC, dI) vwCl (dkW r1 d1 a1 b1 cA z ++ (dkW r2 d2 a2 b2 cA z ++ [(qa, .inl (cA, 48, .inl (upd (fun q => (z q).1) (i) v1))), (qb, .inl (cA, 48, .inl (upd (fun q => (z q).2) (i) v2)))])) H := hP
      have hD : va_D A (dkW r1 d1 a1 b1 cA z ++ (dkW r2 d2 a2 b2 cA z ++ [(qa, .inl (cA, 48, .inl (upd (fun q => (z q).1) (i) v1))), (qb, .inl (cA, 48, .inl (upd (fun q => (z q).2) (i) v2)))])) := hD
      rw [sq_up_1 z i v1 v2, sq_up_2 z i v1 v2] at hP hD
      refine lv_aload_n hx hb dL_law_76 rfl (lv_at hl 1 rfl) ?_
      refine lv_iload hx hb dL_law_77 (lv_at hl 5 rfl) ?_
      refine lv_aload_n hx hb dL_law_79 rfl (lv_at hl 3 rfl) ?_
      refine lv_iload hx hb dL_law_80 (lv_at hl 5 rfl) ?_
      refine ox_iald hx hb hK hP 8 0 rfl rfl (i := i) (by omega) (by decide) (v := v1) (congrArg Prod.fst (sq_up_at z i (v1, v2))) dL_law_82 ?_
      refine lv_aload hx hb dL_law_83 (lv_at hl 4 rfl) ?_
      refine lv_iload hx hb dL_law_85 (lv_at hl 5 rfl) ?_
      refine ox_iald hx hb hK hP 9 0 rfl rfl (i := i) (by omega) (by decide) (v := v2) (congrArg Prod.snd (sq_up_at z i (v1, v2))) dL_law_87 ?_
      refine law_x S hl.1 hK hX hcs hA hP hD hS (rest := []) [.int (nI i), .int (v1), .int (v2)] (metX1_set l dC dI r1 d1 a1 b1 cA (z) H.size ((nI i)) ((v1)) ((v2))) (cwV 3 hts (lw_V q38 q39 q40 q3 q41) rfl rfl rfl (by decide +kernel) ⟨by show 0 + 1 ≤ R.frames; omega, by show 8 + (5 + 11) + 0 ≤ R.locals; omega⟩) rfl rfl (Nat.le_of_ble_eq_true rfl) dL_law_88 (fun ux H locs hux hP hD hS => ?_)
      rw [sq_i0 (by omega)] at hux
      subst hux
      refine lv_aload_n hx hb dL_law_91 rfl (lv_at hl 2 rfl) ?_
      refine lv_iload hx hb dL_law_92 (lv_at hl 5 rfl) ?_
      refine lv_sipush (v := nI 480) hx hb dL_law_94 (by decide) ?_
      refine lv_iadd hx hb dL_law_97 ?_
      refine ox_to (y := nI (i + 480)) (nI_add _ _) ?_
      refine lv_aload_n hx hb dL_law_98 rfl (lv_at hl 3 rfl) ?_
      refine lv_iload hx hb dL_law_99 (lv_at hl 5 rfl) ?_
      refine ox_iald hx hb hK hP 8 0 rfl rfl (i := i) (by omega) (by decide) (v := v1) (congrArg Prod.fst (sq_up_at z i (v1, v2))) dL_law_101 ?_
      refine lv_aload hx hb dL_law_102 (lv_at hl 4 rfl) ?_
      refine lv_iload hx hb dL_law_104 (lv_at hl 5 rfl) ?_
      refine ox_iald hx hb hK hP 9 0 rfl rfl (i := i) (by omega) (by decide) (v := v2) (congrArg Prod.snd (sq_up_at z i (v1, v2))) dL_law_106 ?_
      refine law_y S hl.1 hK hX hcs hA hP hD hS (rest := []) [.int (nI (i + 480)), .int (v1), .int (v2)] (metX1_set l dC dI r2 d2 a2 b2 cA (z) H.size ((nI (i + 480))) ((v1)) ((v2))) (cwV 3 hts (lw_V q38 q39 q40 q3 q41) rfl rfl rfl (by decide +kernel) ⟨by show 0 + 1 ≤ R.frames; omega, by show 8 + (5 + 11) + 0 ≤ R.locals; omega⟩) rfl rfl (Nat.le_of_ble_eq_true rfl) dL_law_107 (fun uy H locs huy hP hD hS => ?_)
      rw [sq_i480 (by omega)] at huy
      subst huy
      refine lv_iinc (v := nI (i + 1)) (lv' := [(5, .int (nI (i + 1))), (0, .ref b0), (1, .ref d1), (2, .ref d2), (3, .ref qa), (4, .ref qb)]) hx hb dL_law_110 hl (k := 5) rfl (ox_inc _) (by decide) rfl (fun ls hl => ?_)
      refine lv_goto (tgt := 42) hx hb dL_law_113 (by decide) ?_
      exact ih (i + 1) (sq_up z i (v1, v2)) H locs ls (by omega) hP hD hS (lv_sub hl [1, 2, 3, 4, 5, 0] rfl)
set_option maxHeartbeats 4000000 in
set_option maxRecDepth 100000 in
theorem law_164 (S : CallFix p m c cL_law 11 s args lw_all RX0) (hK : va_K (dC, dI) vwCl [(cA, .int)] s) (hX : dkX s) (hR : 200 ≤ R.frames ∧ 5000 ≤ R.locals) (hcs : cells ≤ R.cells ∧ slots ≤ R.slots) (hA : ∀ q : Nat, H0.size ≤ q → A q) {v5 v6 v7 v8 v9 v10 : Int32} {z : sq_T}
    (kk : ∀ (z1 : sq_T) (H : Heap) (locs : List Loc) (ls : Array Slot), va_P (dC, dI) vwCl (lawW r1 d1 a1 b1 r2 d2 a2 b2 qa qb cA z1 z1 z1) H → va_D A (lawW r1 d1 a1 b1 r2 d2 a2 b2 qa qb cA z1 z1 z1) → va_S A H0 H locs → lv_has ls 11 [(1, .ref d1), (2, .ref d2), (3, .ref qa), (4, .ref qb), (5, .int v5), (6, .int v6), (7, .int v7), (8, .int v8), (9, .int v9), (10, .int v10)] → W p l e R s m args below meth c H locs cells slots Q (F0 m 220 ls []))
    (H : Heap) (locs : List Loc) (ls : Array Slot) (hP : va_P (dC, dI) vwCl (lawW r1 d1 a1 b1 r2 d2 a2 b2 qa qb cA z z z) H) (hD : va_D A (lawW r1 d1 a1 b1 r2 d2 a2 b2 qa qb cA z z z)) (hS : va_S A H0 H locs) (hl : lv_has ls 11 [(1, .ref d1), (2, .ref d2), (3, .ref qa), (4, .ref qb), (5, .int v5), (6, .int v6), (7, .int v7), (8, .int v8), (9, .int v9), (10, .int v10)]) : W p l e R s m args below meth c H locs cells slots Q (F0 m 164 ls []) := by
  have hx := S.1
  have hb := S.2.1
  have hown := S.2.2.2.1
  have hts := S.2.2.2.2
  have hR2 : 2 ≤ R.frames ∧ 60 ≤ R.locals := ⟨by omega, by omega⟩
  refine lv_aload_n hx hb dL_law_164 rfl (lv_at hl 0 rfl) ?_
  refine lv_iload hx hb dL_law_165 (lv_at hl 4 rfl) ?_
  refine lv_iload hx hb dL_law_167 (lv_at hl 5 rfl) ?_
  refine law_x S hl.1 hK hX hcs hA hP hD hS (rest := []) [.int v5, .int v6] (metX1_quick l dC dI r1 d1 a1 b1 cA (z) H.size (v5) (v6)) (cwV 2 hts (lw_V q47 q48 q49 q3 q50) rfl rfl rfl (by decide +kernel) ⟨by show 60 + 1 ≤ R.frames; omega, by show 8 + (4 + 11) + 2200 ≤ R.locals; omega⟩) rfl rfl (Nat.le_of_ble_eq_true rfl) dL_law_169 (fun ux H locs hux hP hD hS => ?_)
  refine lv_aload_n hx hb dL_law_172 rfl (lv_at hl 1 rfl) ?_
  refine lv_iload hx hb dL_law_173 (lv_at hl 4 rfl) ?_
  refine lv_iload hx hb dL_law_175 (lv_at hl 5 rfl) ?_
  refine law_y S hl.1 hK hX hcs hA hP hD hS (rest := []) [.int v5, .int v6] (metX1_merge l dC dI r2 d2 a2 b2 cA (z) H.size (v5) (v6)) (cwV 2 hts (lw_V q92 q93 q94 q3 q95) rfl rfl rfl (by decide +kernel) ⟨by show 110 + 1 ≤ R.frames; omega, by show 8 + (4 + 11) + 3800 ≤ R.locals; omega⟩) rfl rfl (Nat.le_of_ble_eq_true rfl) dL_law_177 (fun uy H locs huy hP hD hS => ?_)
  refine lv_aload_n hx hb dL_law_180 rfl (lv_at hl 2 rfl) ?_
  refine lv_aload hx hb dL_law_181 (lv_at hl 3 rfl) ?_
  refine lv_iload hx hb dL_law_183 (lv_at hl 4 rfl) ?_
  refine law_from S hl.1 hR2 hcs (Nat.le_of_ble_eq_true rfl) dL_law_185 ?_
  refine lv_iload hx hb dL_law_188 (lv_at hl 4 rfl) ?_
  refine lv_iload hx hb dL_law_190 (lv_at hl 5 rfl) ?_
  refine law_to S hl.1 hR2 hcs (Nat.le_of_ble_eq_true rfl) dL_law_192 ?_
  refine law_pl S hl.1 hK hR2 hcs hA hP hD hS (f := sq_fr v5) (t := sq_to v5 v6) (sq_to_in v5 v6).1 (sq_to_in v5 v6).2 (Nat.le_of_ble_eq_true rfl) dL_law_195 (fun uz H locs huz hP hD hS => ?_)
  have e1 : uy = ux := huy.same hux
  have e2 : uz = ux := huz.same hux
  subst e1
  subst e2
  refine lv_aload_n hx hb dL_law_198 rfl (lv_at hl 0 rfl) ?_
  refine lv_aload_n hx hb dL_law_199 rfl (lv_at hl 2 rfl) ?_
  refine lv_aload hx hb dL_law_200 (lv_at hl 3 rfl) ?_
  refine law_stx S hl.1 hK hX hR2 hcs hP hD (rest := []) (Nat.le_of_ble_eq_true rfl) dL_law_202 ?_
  refine lv_if_eq (tgt := 218) hx hb dL_law_205 (by decide) (fun k1 => ?_) (fun k1 => ?_)
  · exact absurd k1 (by decide)
  · refine lv_aload_n hx hb dL_law_208 rfl (lv_at hl 1 rfl) ?_
    refine lv_aload_n hx hb dL_law_209 rfl (lv_at hl 2 rfl) ?_
    refine lv_aload hx hb dL_law_210 (lv_at hl 3 rfl) ?_
    refine law_sty S hl.1 hK hX hR2 hcs hP hD (rest := []) (Nat.le_of_ble_eq_true rfl) dL_law_212 ?_
    refine lv_if_ne (tgt := 220) hx hb dL_law_215 (by decide) (fun k1 => ?_) (fun k1 => ?_)
    · exact kk _ H locs ls hP hD hS (lv_sub hl [0, 1, 2, 3, 4, 5, 6, 7, 8, 9] rfl)
    · exact absurd k1 (by decide)
set_option maxHeartbeats 4000000 in
set_option maxRecDepth 100000 in
theorem law_220 (S : CallFix p m c cL_law 11 s args lw_all RX0) (hK : va_K (dC, dI) vwCl [(cA, .int)] s) (hX : dkX s) (hR : 200 ≤ R.frames ∧ 5000 ≤ R.locals) (hcs : cells ≤ R.cells ∧ slots ≤ R.slots) (hA : ∀ q : Nat, H0.size ≤ q → A q) {v5 v6 v7 v8 v9 v10 : Int32} {z : sq_T}
    (kk : ∀ (z1 : sq_T) (H : Heap) (locs : List Loc) (ls : Array Slot), va_P (dC, dI) vwCl (lawW r1 d1 a1 b1 r2 d2 a2 b2 qa qb cA z1 z1 z1) H → va_D A (lawW r1 d1 a1 b1 r2 d2 a2 b2 qa qb cA z1 z1 z1) → va_S A H0 H locs → lv_has ls 11 [(1, .ref d1), (2, .ref d2), (3, .ref qa), (4, .ref qb), (5, .int v5), (6, .int v6), (7, .int v7), (8, .int v8), (9, .int v9), (10, .int v10)] → W p l e R s m args below meth c H locs cells slots Q (F0 m 276 ls []))
    (H : Heap) (locs : List Loc) (ls : Array Slot) (hP : va_P (dC, dI) vwCl (lawW r1 d1 a1 b1 r2 d2 a2 b2 qa qb cA z z z) H) (hD : va_D A (lawW r1 d1 a1 b1 r2 d2 a2 b2 qa qb cA z z z)) (hS : va_S A H0 H locs) (hl : lv_has ls 11 [(1, .ref d1), (2, .ref d2), (3, .ref qa), (4, .ref qb), (5, .int v5), (6, .int v6), (7, .int v7), (8, .int v8), (9, .int v9), (10, .int v10)]) : W p l e R s m args below meth c H locs cells slots Q (F0 m 220 ls []) := by
  have hx := S.1
  have hb := S.2.1
  have hown := S.2.2.2.1
  have hts := S.2.2.2.2
  have hR2 : 2 ≤ R.frames ∧ 60 ≤ R.locals := ⟨by omega, by omega⟩
  refine lv_aload_n hx hb dL_law_220 rfl (lv_at hl 0 rfl) ?_
  refine lv_iload hx hb dL_law_221 (lv_at hl 6 rfl) ?_
  refine lv_iload hx hb dL_law_223 (lv_at hl 7 rfl) ?_
  refine law_x S hl.1 hK hX hcs hA hP hD hS (rest := []) [.int v7, .int v8] (metX1_merge l dC dI r1 d1 a1 b1 cA (z) H.size (v7) (v8)) (cwV 2 hts (lw_V q92 q93 q94 q3 q95) rfl rfl rfl (by decide +kernel) ⟨by show 110 + 1 ≤ R.frames; omega, by show 8 + (4 + 11) + 3800 ≤ R.locals; omega⟩) rfl rfl (Nat.le_of_ble_eq_true rfl) dL_law_225 (fun ux H locs hux hP hD hS => ?_)
  refine lv_aload_n hx hb dL_law_228 rfl (lv_at hl 1 rfl) ?_
  refine lv_iload hx hb dL_law_229 (lv_at hl 6 rfl) ?_
  refine lv_iload hx hb dL_law_231 (lv_at hl 7 rfl) ?_
  refine law_y S hl.1 hK hX hcs hA hP hD hS (rest := []) [.int v7, .int v8] (metX1_quick l dC dI r2 d2 a2 b2 cA (z) H.size (v7) (v8)) (cwV 2 hts (lw_V q47 q48 q49 q3 q50) rfl rfl rfl (by decide +kernel) ⟨by show 60 + 1 ≤ R.frames; omega, by show 8 + (4 + 11) + 2200 ≤ R.locals; omega⟩) rfl rfl (Nat.le_of_ble_eq_true rfl) dL_law_233 (fun uy H locs huy hP hD hS => ?_)
  refine lv_aload_n hx hb dL_law_236 rfl (lv_at hl 2 rfl) ?_
  refine lv_aload hx hb dL_law_237 (lv_at hl 3 rfl) ?_
  refine lv_iload hx hb dL_law_239 (lv_at hl 6 rfl) ?_
  refine law_from S hl.1 hR2 hcs (Nat.le_of_ble_eq_true rfl) dL_law_241 ?_
  refine lv_iload hx hb dL_law_244 (lv_at hl 6 rfl) ?_
  refine lv_iload hx hb dL_law_246 (lv_at hl 7 rfl) ?_
  refine law_to S hl.1 hR2 hcs (Nat.le_of_ble_eq_true rfl) dL_law_248 ?_
  refine law_pl S hl.1 hK hR2 hcs hA hP hD hS (f := sq_fr v7) (t := sq_to v7 v8) (sq_to_in v7 v8).1 (sq_to_in v7 v8).2 (Nat.le_of_ble_eq_true rfl) dL_law_251 (fun uz H locs huz hP hD hS => ?_)
  have e1 : uy = ux := huy.same hux
  have e2 : uz = ux := huz.same hux
  subst e1
  subst e2
  refine lv_aload_n hx hb dL_law_254 rfl (lv_at hl 0 rfl) ?_
  refine lv_aload_n hx hb dL_law_255 rfl (lv_at hl 2 rfl) ?_
  refine lv_aload hx hb dL_law_256 (lv_at hl 3 rfl) ?_
  refine law_stx S hl.1 hK hX hR2 hcs hP hD (rest := []) (Nat.le_of_ble_eq_true rfl) dL_law_258 ?_
  refine lv_if_eq (tgt := 274) hx hb dL_law_261 (by decide) (fun k1 => ?_) (fun k1 => ?_)
  · exact absurd k1 (by decide)
  · refine lv_aload_n hx hb dL_law_264 rfl (lv_at hl 1 rfl) ?_
    refine lv_aload_n hx hb dL_law_265 rfl (lv_at hl 2 rfl) ?_
    refine lv_aload hx hb dL_law_266 (lv_at hl 3 rfl) ?_
    refine law_sty S hl.1 hK hX hR2 hcs hP hD (rest := []) (Nat.le_of_ble_eq_true rfl) dL_law_268 ?_
    refine lv_if_ne (tgt := 276) hx hb dL_law_271 (by decide) (fun k1 => ?_) (fun k1 => ?_)
    · exact kk _ H locs ls hP hD hS (lv_sub hl [0, 1, 2, 3, 4, 5, 6, 7, 8, 9] rfl)
    · exact absurd k1 (by decide)
set_option maxHeartbeats 4000000 in
set_option maxRecDepth 100000 in
theorem law_276 (S : CallFix p m c cL_law 11 s args lw_all RX0) (hK : va_K (dC, dI) vwCl [(cA, .int)] s) (hX : dkX s) (hR : 200 ≤ R.frames ∧ 5000 ≤ R.locals) (hcs : cells ≤ R.cells ∧ slots ≤ R.slots) (hA : ∀ q : Nat, H0.size ≤ q → A q) {v5 v6 v7 v8 v9 v10 : Int32} {z : sq_T}
    (kk : ∀ (z1 : sq_T) (H : Heap) (locs : List Loc) (ls : Array Slot), va_P (dC, dI) vwCl (lawW r1 d1 a1 b1 r2 d2 a2 b2 qa qb cA z1 z1 z1) H → va_D A (lawW r1 d1 a1 b1 r2 d2 a2 b2 qa qb cA z1 z1 z1) → va_S A H0 H locs → lv_has ls 11 [(1, .ref d1), (2, .ref d2), (3, .ref qa), (4, .ref qb), (5, .int v5), (6, .int v6), (7, .int v7), (8, .int v8), (9, .int v9), (10, .int v10)] → W p l e R s m args below meth c H locs cells slots Q (F0 m 353 ls []))
    (H : Heap) (locs : List Loc) (ls : Array Slot) (hP : va_P (dC, dI) vwCl (lawW r1 d1 a1 b1 r2 d2 a2 b2 qa qb cA z z z) H) (hD : va_D A (lawW r1 d1 a1 b1 r2 d2 a2 b2 qa qb cA z z z)) (hS : va_S A H0 H locs) (hl : lv_has ls 11 [(1, .ref d1), (2, .ref d2), (3, .ref qa), (4, .ref qb), (5, .int v5), (6, .int v6), (7, .int v7), (8, .int v8), (9, .int v9), (10, .int v10)]) : W p l e R s m args below meth c H locs cells slots Q (F0 m 276 ls []) := by
  have hx := S.1
  have hb := S.2.1
  have hown := S.2.2.2.1
  have hts := S.2.2.2.2
  have hR2 : 2 ≤ R.frames ∧ 60 ≤ R.locals := ⟨by omega, by omega⟩
  refine lv_aload_n hx hb dL_law_276 rfl (lv_at hl 0 rfl) ?_
  refine lv_iload hx hb dL_law_277 (lv_at hl 8 rfl) ?_
  refine lv_iload hx hb dL_law_279 (lv_at hl 9 rfl) ?_
  refine lv_iload hx hb dL_law_281 (lv_at hl 8 rfl) ?_
  refine lv_iconst (v := nI 2) hx hb dL_law_283 (by decide) ?_
  refine lv_ishr hx hb dL_law_284 ?_
  refine law_x S hl.1 hK hX hcs hA hP hD hS (rest := []) [.int v9, .int v10, .int (v9 >>> (nI 2 &&& 31))] (metX1_few l dC dI r1 d1 a1 b1 cA (z) H.size (v9) (v10) ((v9 >>> (nI 2 &&& 31)))) (cwV 3 hts (lw_V q43 q44 q45 q3 q46) rfl rfl rfl (by decide +kernel) ⟨by show 0 + 1 ≤ R.frames; omega, by show 8 + (5 + 11) + 0 ≤ R.locals; omega⟩) rfl rfl (Nat.le_of_ble_eq_true rfl) dL_law_285 (fun ux H locs hux hP hD hS => ?_)
  subst hux
  refine lv_aload_n hx hb dL_law_288 rfl (lv_at hl 1 rfl) ?_
  refine lv_iload hx hb dL_law_289 (lv_at hl 8 rfl) ?_
  refine lv_iload hx hb dL_law_291 (lv_at hl 9 rfl) ?_
  refine lv_iload hx hb dL_law_293 (lv_at hl 8 rfl) ?_
  refine lv_iconst (v := nI 2) hx hb dL_law_295 (by decide) ?_
  refine lv_ishr hx hb dL_law_296 ?_
  refine law_y S hl.1 hK hX hcs hA hP hD hS (rest := []) [.int v9, .int v10, .int (v9 >>> (nI 2 &&& 31))] (metX1_few l dC dI r2 d2 a2 b2 cA (z) H.size (v9) (v10) ((v9 >>> (nI 2 &&& 31)))) (cwV 3 hts (lw_V q43 q44 q45 q3 q46) rfl rfl rfl (by decide +kernel) ⟨by show 0 + 1 ≤ R.frames; omega, by show 8 + (5 + 11) + 0 ≤ R.locals; omega⟩) rfl rfl (Nat.le_of_ble_eq_true rfl) dL_law_297 (fun uy H locs huy hP hD hS => ?_)
  subst huy
  obtain ⟨V, hV⟩ : ∃ V, V = (v9 >>> (nI 2 &&& 31)) &&& nI 3 := ⟨_, rfl⟩
  rw [← hV] at hP hD
  have hm := sq_m_lt v9
  have hi : sq_m v9 % 48 < 48 := Nat.mod_lt _ (by decide)
  refine lv_aload_n hx hb dL_law_300 rfl (lv_at hl 2 rfl) ?_
  refine lv_iload hx hb dL_law_301 (lv_at hl 8 rfl) ?_
  refine lv_ldc (v := 2147483647) hx hb hown (hts _ q115) dL_law_303 ?_
  refine lv_iand hx hb dL_law_305 ?_
  refine ox_to (y := nI (sq_m v9)) (sq_and _) ?_
  refine lv_bipush (v := nI 48) hx hb dL_law_306 (by decide) ?_
  refine lv_irem hx hb dL_law_308 (by decide) ?_
  refine ox_to (y := nI (sq_m v9 % 48)) (pk_rem (by omega) (by omega) (by omega)) ?_
  refine lv_iload hx hb dL_law_309 (lv_at hl 9 rfl) ?_
  refine lv_iconst (v := nI 3) hx hb dL_law_311 (by decide) ?_
  refine lv_iand hx hb dL_law_312 ?_
  refine ox_iast hx hb hK hP hD hS 8 0 rfl rfl (i := sq_m v9 % 48) (hi) (by decide) dL_law_313 (fun H locs hP hD hS => ?_)
  have hP : va_P (dC, dI) vwCl (dkW r1 d1 a1 b1 cA (sq_up z (sq_m v9 % 48) (v10 &&& nI 3, V)) ++ (dkW r2 d2 a2 b2 cA (sq_up z (sq_m v9 % 48) (v10 &&& nI 3, V)) ++ [(qa, .inl (cA, 48, .inl (upd (fun q => (z q).1) (sq_m v9 % 48) (v10 &&& nI 3)))), (qb, .inl (cA, 48, .inl ((fun q => (z q).2))))])) H := hP
  have hD : va_D A (dkW r1 d1 a1 b1 cA (sq_up z (sq_m v9 % 48) (v10 &&& nI 3, V)) ++ (dkW r2 d2 a2 b2 cA (sq_up z (sq_m v9 % 48) (v10 &&& nI 3, V)) ++ [(qa, .inl (cA, 48, .inl (upd (fun q => (z q).1) (sq_m v9 % 48) (v10 &&& nI 3)))), (qb, .inl (cA, 48, .inl ((fun q => (z q).2))))])) := hD
  refine lv_aload hx hb dL_law_314 (lv_at hl 3 rfl) ?_
  refine lv_iload hx hb dL_law_316 (lv_at hl 8 rfl) ?_
  refine lv_ldc (v := 2147483647) hx hb hown (hts _ q115) dL_law_318 ?_
  refine lv_iand hx hb dL_law_320 ?_
  refine ox_to (y := nI (sq_m v9)) (sq_and _) ?_
  refine lv_bipush (v := nI 48) hx hb dL_law_321 (by decide) ?_
  refine lv_irem hx hb dL_law_323 (by decide) ?_
  refine ox_to (y := nI (sq_m v9 % 48)) (pk_rem (by omega) (by omega) (by omega)) ?_
  refine lv_iload hx hb dL_law_324 (lv_at hl 8 rfl) ?_
  refine lv_iconst (v := nI 2) hx hb dL_law_326 (by decide) ?_
  refine lv_ishr hx hb dL_law_327 ?_
  refine lv_iconst (v := nI 3) hx hb dL_law_328 (by decide) ?_
  refine lv_iand hx hb dL_law_329 ?_
  rw [← hV]
  refine ox_iast hx hb hK hP hD hS 9 0 rfl rfl (i := sq_m v9 % 48) (hi) (by decide) dL_law_330 (fun H locs hP hD hS => ?_)
  have hP : va_P (dC, dI) vwCl (dkW r1 d1 a1 b1 cA (sq_up z (sq_m v9 % 48) (v10 &&& nI 3, V)) ++ (dkW r2 d2 a2 b2 cA (sq_up z (sq_m v9 % 48) (v10 &&& nI 3, V)) ++ [(qa, .inl (cA, 48, .inl (upd (fun q => (z q).1) (sq_m v9 % 48) (v10 &&& nI 3)))), (qb, .inl (cA, 48, .inl (upd (fun q => (z q).2) (sq_m v9 % 48) V)))])) H := hP
  have hD : va_D A (dkW r1 d1 a1 b1 cA (sq_up z (sq_m v9 % 48) (v10 &&& nI 3, V)) ++ (dkW r2 d2 a2 b2 cA (sq_up z (sq_m v9 % 48) (v10 &&& nI 3, V)) ++ [(qa, .inl (cA, 48, .inl (upd (fun q => (z q).1) (sq_m v9 % 48) (v10 &&& nI 3)))), (qb, .inl (cA, 48, .inl (upd (fun q => (z q).2) (sq_m v9 % 48) V)))])) := hD
  rw [sq_up_1 z _ (v10 &&& nI 3) V, sq_up_2 z _ (v10 &&& nI 3) V] at hP hD
  refine lv_aload_n hx hb dL_law_331 rfl (lv_at hl 0 rfl) ?_
  refine lv_aload_n hx hb dL_law_332 rfl (lv_at hl 2 rfl) ?_
  refine lv_aload hx hb dL_law_333 (lv_at hl 3 rfl) ?_
  refine law_stx S hl.1 hK hX hR2 hcs hP hD (rest := []) (Nat.le_of_ble_eq_true rfl) dL_law_335 ?_
  refine lv_if_eq (tgt := 351) hx hb dL_law_338 (by decide) (fun k1 => ?_) (fun k1 => ?_)
  · exact absurd k1 (by decide)
  · refine lv_aload_n hx hb dL_law_341 rfl (lv_at hl 1 rfl) ?_
    refine lv_aload_n hx hb dL_law_342 rfl (lv_at hl 2 rfl) ?_
    refine lv_aload hx hb dL_law_343 (lv_at hl 3 rfl) ?_
    refine law_sty S hl.1 hK hX hR2 hcs hP hD (rest := []) (Nat.le_of_ble_eq_true rfl) dL_law_345 ?_
    refine lv_if_ne (tgt := 353) hx hb dL_law_348 (by decide) (fun k1 => ?_) (fun k1 => ?_)
    · exact kk _ H locs ls hP hD hS (lv_sub hl [0, 1, 2, 3, 4, 5, 6, 7, 8, 9] rfl)
    · exact absurd k1 (by decide)
theorem sq_whole0 : sq_fr (nI 0) = 0 ∧ sq_to (nI 0) (nI 48) = 48 := by decide
theorem sq_whole49 : sq_fr (nI 49) = 0 ∧ sq_to (nI 49) (nI 48) = 48 := by decide
set_option maxHeartbeats 4000000 in
set_option maxRecDepth 100000 in
theorem law_353 (S : CallFix p m c cL_law 11 s args lw_all RX0) (hK : va_K (dC, dI) vwCl [(cA, .int)] s) (hX : dkX s) (hR : 200 ≤ R.frames ∧ 5000 ≤ R.locals) (hcs : cells ≤ R.cells ∧ slots ≤ R.slots) (hA : ∀ q : Nat, H0.size ≤ q → A q) {v5 v6 v7 v8 v9 v10 : Int32} {z : sq_T}
    (kk : ∀ (z1 : sq_T) (H : Heap) (locs : List Loc) (ls : Array Slot), sq_So 0 48 z1 → va_P (dC, dI) vwCl (lawW r1 d1 a1 b1 r2 d2 a2 b2 qa qb cA z1 z1 z1) H → va_D A (lawW r1 d1 a1 b1 r2 d2 a2 b2 qa qb cA z1 z1 z1) → va_S A H0 H locs → lv_has ls 11 [(1, .ref d1), (2, .ref d2), (3, .ref qa), (4, .ref qb), (5, .int v5), (6, .int v6), (7, .int v7), (8, .int v8), (9, .int v9), (10, .int v10)] → W p l e R s m args below meth c H locs cells slots Q (F0 m 399 ls []))
    (H : Heap) (locs : List Loc) (ls : Array Slot) (hP : va_P (dC, dI) vwCl (lawW r1 d1 a1 b1 r2 d2 a2 b2 qa qb cA z z z) H) (hD : va_D A (lawW r1 d1 a1 b1 r2 d2 a2 b2 qa qb cA z z z)) (hS : va_S A H0 H locs) (hl : lv_has ls 11 [(1, .ref d1), (2, .ref d2), (3, .ref qa), (4, .ref qb), (5, .int v5), (6, .int v6), (7, .int v7), (8, .int v8), (9, .int v9), (10, .int v10)]) : W p l e R s m args below meth c H locs cells slots Q (F0 m 353 ls []) := by
  have hx := S.1
  have hb := S.2.1
  have hown := S.2.2.2.1
  have hts := S.2.2.2.2
  have hR2 : 2 ≤ R.frames ∧ 60 ≤ R.locals := ⟨by omega, by omega⟩
  refine lv_aload_n hx hb dL_law_353 rfl (lv_at hl 0 rfl) ?_
  refine lv_iconst (v := nI 0) hx hb dL_law_354 (by decide) ?_
  refine lv_bipush (v := nI 48) hx hb dL_law_355 (by decide) ?_
  refine law_x S hl.1 hK hX hcs hA hP hD hS (rest := []) [.int (nI 0), .int (nI 48)] (metX1_quick l dC dI r1 d1 a1 b1 cA (z) H.size ((nI 0)) ((nI 48))) (cwV 2 hts (lw_V q47 q48 q49 q3 q50) rfl rfl rfl (by decide +kernel) ⟨by show 60 + 1 ≤ R.frames; omega, by show 8 + (4 + 11) + 2200 ≤ R.locals; omega⟩) rfl rfl (Nat.le_of_ble_eq_true rfl) dL_law_357 (fun ux H locs hux hP hD hS => ?_)
  rw [sq_whole0.1, sq_whole0.2] at hux
  refine lv_aload_n hx hb dL_law_360 rfl (lv_at hl 1 rfl) ?_
  refine lv_bipush (v := nI 49) hx hb dL_law_361 (by decide) ?_
  refine lv_bipush (v := nI 48) hx hb dL_law_363 (by decide) ?_
  refine law_y S hl.1 hK hX hcs hA hP hD hS (rest := []) [.int (nI 49), .int (nI 48)] (metX1_merge l dC dI r2 d2 a2 b2 cA (z) H.size ((nI 49)) ((nI 48))) (cwV 2 hts (lw_V q92 q93 q94 q3 q95) rfl rfl rfl (by decide +kernel) ⟨by show 110 + 1 ≤ R.frames; omega, by show 8 + (4 + 11) + 3800 ≤ R.locals; omega⟩) rfl rfl (Nat.le_of_ble_eq_true rfl) dL_law_365 (fun uy H locs huy hP hD hS => ?_)
  rw [sq_whole49.1, sq_whole49.2] at huy
  refine lv_aload_n hx hb dL_law_368 rfl (lv_at hl 2 rfl) ?_
  refine lv_aload hx hb dL_law_369 (lv_at hl 3 rfl) ?_
  refine lv_iconst (v := nI 0) hx hb dL_law_371 (by decide) ?_
  refine lv_bipush (v := nI 48) hx hb dL_law_372 (by decide) ?_
  refine law_pl S hl.1 hK hR2 hcs hA hP hD hS (f := 0) (t := 48) (by decide) (by decide) (Nat.le_of_ble_eq_true rfl) dL_law_374 (fun uz H locs huz hP hD hS => ?_)
  have e1 : uy = ux := huy.same hux
  have e2 : uz = ux := huz.same hux
  subst e1
  subst e2
  refine lv_aload_n hx hb dL_law_377 rfl (lv_at hl 0 rfl) ?_
  refine lv_aload_n hx hb dL_law_378 rfl (lv_at hl 2 rfl) ?_
  refine lv_aload hx hb dL_law_379 (lv_at hl 3 rfl) ?_
  refine law_stx S hl.1 hK hX hR2 hcs hP hD (rest := []) (Nat.le_of_ble_eq_true rfl) dL_law_381 ?_
  refine lv_if_eq (tgt := 397) hx hb dL_law_384 (by decide) (fun k1 => ?_) (fun k1 => ?_)
  · exact absurd k1 (by decide)
  · refine lv_aload_n hx hb dL_law_387 rfl (lv_at hl 1 rfl) ?_
    refine lv_aload_n hx hb dL_law_388 rfl (lv_at hl 2 rfl) ?_
    refine lv_aload hx hb dL_law_389 (lv_at hl 3 rfl) ?_
    refine law_sty S hl.1 hK hX hR2 hcs hP hD (rest := []) (Nat.le_of_ble_eq_true rfl) dL_law_391 ?_
    refine lv_if_ne (tgt := 399) hx hb dL_law_394 (by decide) (fun k1 => ?_) (fun k1 => ?_)
    · exact kk _ H locs ls huz.2 hP hD hS (lv_sub hl [0, 1, 2, 3, 4, 5, 6, 7, 8, 9] rfl)
    · exact absurd k1 (by decide)
set_option maxHeartbeats 4000000 in
set_option maxRecDepth 100000 in
theorem law_399 (S : CallFix p m c cL_law 11 s args lw_all RX0) (hK : va_K (dC, dI) vwCl [(cA, .int)] s) (hX : dkX s) (hR : 200 ≤ R.frames ∧ 5000 ≤ R.locals) (hcs : cells ≤ R.cells ∧ slots ≤ R.slots) (hA : ∀ q : Nat, H0.size ≤ q → A q) {v5 v6 v7 v8 v9 v10 : Int32} {z : sq_T}
    (kk : ∀ (H : Heap) (locs : List Loc) (ls : Array Slot), va_S A H0 H locs → W p l e R s m args below meth c H locs cells slots Q (F0 m 440 ls [.int (nI 1)]))
    (H : Heap) (locs : List Loc) (ls : Array Slot) (hz : sq_So 0 48 z) (hP : va_P (dC, dI) vwCl (lawW r1 d1 a1 b1 r2 d2 a2 b2 qa qb cA z z z) H) (hD : va_D A (lawW r1 d1 a1 b1 r2 d2 a2 b2 qa qb cA z z z)) (hS : va_S A H0 H locs) (hl : lv_has ls 11 [(1, .ref d1), (2, .ref d2), (3, .ref qa), (4, .ref qb), (5, .int v5), (6, .int v6), (7, .int v7), (8, .int v8), (9, .int v9), (10, .int v10)]) : W p l e R s m args below meth c H locs cells slots Q (F0 m 399 ls []) := by
  have hx := S.1
  have hb := S.2.1
  have hown := S.2.2.2.1
  have hts := S.2.2.2.2
  have hR2 : 2 ≤ R.frames ∧ 60 ≤ R.locals := ⟨by omega, by omega⟩
  have hin := sq_to_in v9 v10
  refine lv_aload_n hx hb dL_law_399 rfl (lv_at hl 0 rfl) ?_
  refine lv_iload hx hb dL_law_400 (lv_at hl 8 rfl) ?_
  refine lv_iload hx hb dL_law_402 (lv_at hl 9 rfl) ?_
  refine law_x S hl.1 hK hX hcs hA hP hD hS (rest := []) [.int v9, .int v10] (metX1_merge l dC dI r1 d1 a1 b1 cA (z) H.size (v9) (v10)) (cwV 2 hts (lw_V q92 q93 q94 q3 q95) rfl rfl rfl (by decide +kernel) ⟨by show 110 + 1 ≤ R.frames; omega, by show 8 + (4 + 11) + 3800 ≤ R.locals; omega⟩) rfl rfl (Nat.le_of_ble_eq_true rfl) dL_law_404 (fun ux H locs hux hP hD hS => ?_)
  have e1 := hux.stay (hz.sub (Nat.zero_le _) hin.2)
  subst e1
  refine lv_aload_n hx hb dL_law_407 rfl (lv_at hl 1 rfl) ?_
  refine lv_iload hx hb dL_law_408 (lv_at hl 8 rfl) ?_
  refine lv_iload hx hb dL_law_410 (lv_at hl 9 rfl) ?_
  refine law_y S hl.1 hK hX hcs hA hP hD hS (rest := []) [.int v9, .int v10] (metX1_quick l dC dI r2 d2 a2 b2 cA (_) H.size (v9) (v10)) (cwV 2 hts (lw_V q47 q48 q49 q3 q50) rfl rfl rfl (by decide +kernel) ⟨by show 60 + 1 ≤ R.frames; omega, by show 8 + (4 + 11) + 2200 ≤ R.locals; omega⟩) rfl rfl (Nat.le_of_ble_eq_true rfl) dL_law_412 (fun uy H locs huy hP hD hS => ?_)
  have e2 := huy.stay (hz.sub (Nat.zero_le _) hin.2)
  subst e2
  refine lv_aload_n hx hb dL_law_415 rfl (lv_at hl 0 rfl) ?_
  refine lv_aload_n hx hb dL_law_416 rfl (lv_at hl 2 rfl) ?_
  refine lv_aload hx hb dL_law_417 (lv_at hl 3 rfl) ?_
  refine law_stx S hl.1 hK hX hR2 hcs hP hD (rest := []) (Nat.le_of_ble_eq_true rfl) dL_law_419 ?_
  refine lv_if_eq (tgt := 439) hx hb dL_law_422 (by decide) (fun k1 => ?_) (fun k1 => ?_)
  · exact absurd k1 (by decide)
  · refine lv_aload_n hx hb dL_law_425 rfl (lv_at hl 1 rfl) ?_
    refine lv_aload_n hx hb dL_law_426 rfl (lv_at hl 2 rfl) ?_
    refine lv_aload hx hb dL_law_427 (lv_at hl 3 rfl) ?_
    refine law_sty S hl.1 hK hX hR2 hcs hP hD (rest := []) (Nat.le_of_ble_eq_true rfl) dL_law_429 ?_
    refine lv_if_eq (tgt := 439) hx hb dL_law_432 (by decide) (fun k1 => ?_) (fun k1 => ?_)
    · exact absurd k1 (by decide)
    · refine lv_iconst (v := nI 1) hx hb dL_law_435 (by decide) ?_
      refine lv_goto (tgt := 440) hx hb dL_law_436 (by decide) ?_
      exact kk H locs ls hS
set_option maxHeartbeats 4000000 in
set_option maxRecDepth 100000 in
/-- from the six last ints of the script on -/
theorem law_116 (S : CallFix p m c cL_law 11 s args lw_all RX0) (hK : va_K (dC, dI) vwCl [(cA, .int)] s) (hX : dkX s) (hR : 200 ≤ R.frames ∧ 5000 ≤ R.locals) (hcs : cells ≤ R.cells ∧ slots ≤ R.slots) (hA : ∀ q : Nat, s.heap.size ≤ q → A q) {b0 L : Nat} {xs : Nat → Int32} (hX0 : va_X b0 L xs s s.heap) (hb0 : b0 < s.heap.size) (hbA : ¬ A b0) (hL : L < 2 ^ 31) {z : sq_T}
    (kk : ∀ (H : Heap) (locs : List Loc) (ls : Array Slot), va_S A s.heap H locs → W p l e R s m args below meth c H locs cells slots Q (F0 m 440 ls [.int (nI 1)]))
    (H : Heap) (locs : List Loc) (ls : Array Slot) (hP : va_P (dC, dI) vwCl (lawW r1 d1 a1 b1 r2 d2 a2 b2 qa qb cA z z z) H) (hD : va_D A (lawW r1 d1 a1 b1 r2 d2 a2 b2 qa qb cA z z z)) (hS : va_S A s.heap H locs) (hl : lv_has ls 11 [(0, .ref b0), (1, .ref d1), (2, .ref d2), (3, .ref qa), (4, .ref qb)]) : W p l e R s m args below meth c H locs cells slots Q (F0 m 116 ls []) := by
  have hx := S.1
  have hb := S.2.1
  have hown := S.2.2.2.1
  have hts := S.2.2.2.2
  have hR2 : 2 ≤ R.frames ∧ 60 ≤ R.locals := ⟨by omega, by omega⟩
  refine lv_aload_n hx hb dL_law_116 rfl (lv_at hl 0 rfl) ?_
  refine lv_bipush (v := nI 96) hx hb dL_law_117 (by decide) ?_
  refine law_cell S hl.1 hR2 hcs hX0 hb0 hbA hL hS (k := 96) (by omega) (Nat.le_of_ble_eq_true rfl) dL_law_119 ?_
  refine lv_istore (lv' := [(5, .int (sq_cell L xs (96))), (0, .ref b0), (1, .ref d1), (2, .ref d2), (3, .ref qa), (4, .ref qb)]) hx hb dL_law_122 hl (by decide) rfl (fun ls hl => ?_)
  refine lv_aload_n hx hb dL_law_124 rfl (lv_at hl 1 rfl) ?_
  refine lv_bipush (v := nI 97) hx hb dL_law_125 (by decide) ?_
  refine law_cell S hl.1 hR2 hcs hX0 hb0 hbA hL hS (k := 97) (by omega) (Nat.le_of_ble_eq_true rfl) dL_law_127 ?_
  refine lv_istore (lv' := [(6, .int (sq_cell L xs (97))), (5, .int (sq_cell L xs (96))), (0, .ref b0), (1, .ref d1), (2, .ref d2), (3, .ref qa), (4, .ref qb)]) hx hb dL_law_130 hl (by decide) rfl (fun ls hl => ?_)
  refine lv_aload_n hx hb dL_law_132 rfl (lv_at hl 2 rfl) ?_
  refine lv_bipush (v := nI 98) hx hb dL_law_133 (by decide) ?_
  refine law_cell S hl.1 hR2 hcs hX0 hb0 hbA hL hS (k := 98) (by omega) (Nat.le_of_ble_eq_true rfl) dL_law_135 ?_
  refine lv_istore (lv' := [(7, .int (sq_cell L xs (98))), (6, .int (sq_cell L xs (97))), (5, .int (sq_cell L xs (96))), (0, .ref b0), (1, .ref d1), (2, .ref d2), (3, .ref qa), (4, .ref qb)]) hx hb dL_law_138 hl (by decide) rfl (fun ls hl => ?_)
  refine lv_aload_n hx hb dL_law_140 rfl (lv_at hl 3 rfl) ?_
  refine lv_bipush (v := nI 99) hx hb dL_law_141 (by decide) ?_
  refine law_cell S hl.1 hR2 hcs hX0 hb0 hbA hL hS (k := 99) (by omega) (Nat.le_of_ble_eq_true rfl) dL_law_143 ?_
  refine lv_istore (lv' := [(8, .int (sq_cell L xs (99))), (7, .int (sq_cell L xs (98))), (6, .int (sq_cell L xs (97))), (5, .int (sq_cell L xs (96))), (0, .ref b0), (1, .ref d1), (2, .ref d2), (3, .ref qa), (4, .ref qb)]) hx hb dL_law_146 hl (by decide) rfl (fun ls hl => ?_)
  refine lv_aload_n hx hb dL_law_148 rfl (lv_at hl 4 rfl) ?_
  refine lv_bipush (v := nI 100) hx hb dL_law_149 (by decide) ?_
  refine law_cell S hl.1 hR2 hcs hX0 hb0 hbA hL hS (k := 100) (by omega) (Nat.le_of_ble_eq_true rfl) dL_law_151 ?_
  refine lv_istore (lv' := [(9, .int (sq_cell L xs (100))), (8, .int (sq_cell L xs (99))), (7, .int (sq_cell L xs (98))), (6, .int (sq_cell L xs (97))), (5, .int (sq_cell L xs (96))), (0, .ref b0), (1, .ref d1), (2, .ref d2), (3, .ref qa), (4, .ref qb)]) hx hb dL_law_154 hl (by decide) rfl (fun ls hl => ?_)
  refine lv_aload_n hx hb dL_law_156 rfl (lv_at hl 5 rfl) ?_
  refine lv_bipush (v := nI 101) hx hb dL_law_157 (by decide) ?_
  refine law_cell S hl.1 hR2 hcs hX0 hb0 hbA hL hS (k := 101) (by omega) (Nat.le_of_ble_eq_true rfl) dL_law_159 ?_
  refine lv_istore (lv' := [(10, .int (sq_cell L xs (101))), (9, .int (sq_cell L xs (100))), (8, .int (sq_cell L xs (99))), (7, .int (sq_cell L xs (98))), (6, .int (sq_cell L xs (97))), (5, .int (sq_cell L xs (96))), (0, .ref b0), (1, .ref d1), (2, .ref d2), (3, .ref qa), (4, .ref qb)]) hx hb dL_law_162 hl (by decide) rfl (fun ls hl => ?_)
  refine law_164 S hK hX hR hcs hA (fun z1 H locs ls hP hD hS hl => ?_) H locs ls hP hD hS (lv_sub hl [7, 8, 9, 10, 5, 4, 3, 2, 1, 0] rfl)
  refine law_220 S hK hX hR hcs hA (fun z2 H locs ls hP hD hS hl => ?_) H locs ls hP hD hS hl
  refine law_276 S hK hX hR hcs hA (fun z3 H locs ls hP hD hS hl => ?_) H locs ls hP hD hS hl
  refine law_353 S hK hX hR hcs hA (fun z4 H locs ls hz hP hD hS hl => ?_) H locs ls hP hD hS hl
  exact law_399 S hK hX hR hcs hA kk H locs ls hz hP hD hS hl
end LAWB
end
section
/-! the claim out of the walk of the law's body -/
def R_law : String := "SwapSortDeskLaw"
def lw_P (b : Addr) (xs : List Int32) (args : Array Value) (s : State) : Prop := args = #[.ref b] ∧ s.IntsAt b xs ∧ xs.length ≤ 102 ∧ (Jvm.Cond.and given_1 narrow_1).before args s = true
def lw_Q (_ : Array Value) (s : State) (o : Outcome) (t : State) : Prop := o = .returned (some (.int 1)) ∧ Framed s o t [] 1200000 5502250
def lw_Z (below : List Frame) (a : Array Value) (s : State) : State → Prop := fun t => ∃ o, t.status = .running ∧ Ended t below o ∧ lw_Q a s o t
/-- the law's own end, with 1 on the stack, nothing written that was there before, its room as the claim has it -/
theorem lw_ret {p : Program} {l : Launch} {e : Env} {s : State} {m : MethodId} {below : List Frame} {meth : Method} {c : Code} {b : Nat} (hx : p.tables.exec = Jvm.exec) (hb : c.code = code) (hr : meth.sig.returnType = ret) (hlocks : meth.locks = false) {pc : Nat} {H : Heap} {ls : Array Slot} (hdg : decode code pc = .ok (.ireturn, 1)) : W p l e room_1 s m #[Value.ref b] below meth c H [] 1200000 5502250 (lw_Z below #[Value.ref b] s) (F0 m pc ls [.int 1]) := by
  intro T hT X
  obtain ⟨fs, hret, hrun, hended, hW, hframe⟩ := X.leave (v := some (.int 1)) (hlocks := hlocks) (fun h => by rw [hr] at h; cases h)
  have hmeth' : T.vm.method? m = some meth := X.method'
  refine ⟨T.setFrames fs, ?_, .returned (some (.int 1)), hrun, hended, rfl, ⟨_, rfl⟩, hW, hframe⟩
  jvm_step X.here [X.here.top, hx, hb, hdg, hmeth', hr, ret, narrow_b1]
  (try refine ⟨rfl, ?_⟩); (try refine ⟨rfl, ?_⟩)
  first | (intro acts; rw [hret _ acts rfl rfl rfl]) | rw [hret _ _ rfl rfl rfl]
  exact Steps.refl _
/-- what holds at the law's entry: the machine, the code, the tables' words (any of lw_tbl by 'hts w (by decide +kernel)'), the script of L ints xs at the cell b, what the Statement gives of the start (any of its parts by flat_of_before) -/
def lw_At (p : Program) (s : State) (m : MethodId) (meth : Method) (c : Code) (b L : Nat) (xs : Nat → Int32) : Prop :=
  p.tables.exec = Jvm.exec ∧ c.code = code ∧ meth.sig.returnType = ret ∧ c.maxLocals = 11 ∧ s.vm.findClass R_law = some m.cls ∧ (∀ w ∈ lw_tbl, w.before #[Value.ref b] s = true) ∧ va_X b L xs s s.heap ∧ b < s.heap.size ∧ meth.locks = false ∧ (Jvm.Cond.and given_1 narrow_1).before #[Value.ref b] s = true
/-- the classes of the desk and its rows, known at the claim's start -/
theorem classes_all {s0 : State} {b0 : Addr} (ht0 : ∀ w ∈ lw_tbl, w.before #[Value.ref b0] s0 = true) : ∃ (dC : Nat → ClassId) (dI : Nat → Nat → Nat), ∀ (k : Nat) (q : vw_C), vwCl[k]? = some q → u_Kn s0 q.1 q.2.1 q.2.2 (dC k) (dI k) := by
  obtain ⟨c0_, iS0, hKn0⟩ := u_known (C := RX1) (T := TX1) (N := 3) (n := 3) ht0 (fun w h => lw_all_tbl (in_X1 w h)) (ht0 _ (lw_all_tbl q8))
  obtain ⟨c1_, iS1, hKn1⟩ := u_known (C := RX2) (T := TX2) (N := 1) (n := 1) ht0 (fun w h => lw_all_tbl (in_X2 w h)) (ht0 _ (lw_all_tbl q16))
  refine ⟨fun k => if k = 0 then c0_ else c1_, fun k => if k = 0 then iS0 else iS1, ?_⟩
  intro k q hq
  match k, hq with
  | 0, hq => cases hq; exact hKn0
  | 1, hq => cases hq; exact hKn1
  | k + 2, hq => simp [vwCl] at hq
set_option maxHeartbeats 4000000 in
set_option maxRecDepth 100000 in
/-- from the entry, for every script of at most 102 ints, the law comes to its end with true -/
theorem whole_start {p : Program} {e : Env} {s : State} {m : MethodId} {below : List Frame} {meth : Method} {c : Code} (l : Launch) (hflags : l.flags = flags0) {b L : Nat} {xs : Nat → Int32} (hL : L ≤ 102) (C0 : lw_At p s m meth c b L xs) : W p l e room_1 s m #[Value.ref b] below meth c s.heap [] 0 0 (lw_Z below #[Value.ref b] s) (entryFrame m ([Value.ref b] : List Value).toArray 11) := by
  obtain ⟨hx, hb, hr, hml, hown, htbl, hX0, hb0, hlocks, hgv⟩ := C0
  have hts : ∀ w ∈ lw_all, w.before #[Value.ref b] s = true := fun w h => htbl w (lw_all_tbl h)
  obtain ⟨dC, dI, hKc⟩ := classes_all htbl
  have hown : s.vm.findClass RX0 = some m.cls := hown
  have hK : va_K (dC, dI) vwCl [] s := ⟨hKc, fun k q hk => by cases hk⟩
  have hX : dkX s := ⟨va_Nw.of rfl (htbl _ q27), va_Nw.of rfl (htbl _ q29), va_Fw.of (htbl _ q65) (htbl _ q64) (htbl _ q70) (htbl _ q68) (htbl _ q66), va_Fw.of (htbl _ q75) (htbl _ q74) (htbl _ q80) (htbl _ q78) (htbl _ q76)⟩
  have hN : va_Nw dkNest s := va_Nw.of rfl (htbl _ q17)
  have S : CallFix p m c cL_law 11 s #[Value.ref b] lw_all RX0 := ⟨hx, hb, hml, hown, hts⟩
  have hA : ∀ q : Nat, s.heap.size ≤ q → (fun q : Nat => s.heap.size ≤ q) q := fun q h => h
  have hP : va_P (dC, dI) vwCl [] s.heap := fun k q hk => by cases hk
  have hD : va_D (fun q : Nat => s.heap.size ≤ q) [] := ⟨fun i j x y h => (by cases h), fun k q h => (by cases h)⟩
  have hS : va_S (fun q : Nat => s.heap.size ≤ q) s.heap s.heap [] := va_S.rf
  have hl := lv_entry ([.ref b]) (n := 11) (Nat.le_of_ble_eq_true rfl)
  rw [lg_entry_eq]
  generalize (lg_sl ([.ref b]) ++ List.replicate (11 - (lg_sl ([.ref b])).length) Slot.unset).toArray = ls at hl ⊢
  have hl : lv_has ls 11 [(0, .ref b)] := hl
  refine va_new (ci := 0) (fs := [.null, .null, .null]) (C := RX1) (T := TX1) (N := 3) hx hb hts in_X1 tyX1 tyX1_ok hown (hts _ q7) (hts _ q8) (hts _ q3) hK hP hD hS hA rfl (fun j hj => by rcases (show j = 0 ∨ j = 1 ∨ j = 2 by omega) with rfl | rfl | rfl <;> rfl) (Nat.le_of_ble_eq_true rfl) (Nat.le_of_ble_eq_true rfl) dL_law_0 (fun d1 H hP hD hS => ?_)
  have hP : va_P (dC, dI) vwCl ([(d1, .inr (0, [.null, .null, .null]))]) H := hP
  have hD : va_D (fun q => s.heap.size ≤ q) ([(d1, .inr (0, [.null, .null, .null]))]) := hD
  refine W.widen (k := 1) (n := 3) (Nat.le_of_ble_eq_true rfl) (Nat.le_of_ble_eq_true rfl) ?_
  refine lv_dup hx hb dL_law_3 rfl ?_
  have hPc : va_P (dC, dI) vwCl [(d1, .inr (0, [.null, .null, .null]))] H := hP.sub [0] rfl
  have hDc : va_D (fun q => s.heap.size ≤ q) [(d1, .inr (0, [.null, .null, .null]))] := hD.sub [0] (by decide) rfl
  have hKc := hK.sub (tys' := []) [] rfl
  have hFc := va_free (wc := [(d1, .inr (0, [.null, .null, .null]))]) hD hS hA [0] rfl
  refine va_callv (va_runI (As := []) (rest := [.ref d1]) S (metX1_init l dC dI d1 H.size) (cwI 0 hts (lw_meth q11) rfl rfl rfl (hts _ q3) (hts _ q9) (hts _ q10) rfl (by decide +kernel) ⟨Nat.le_of_ble_eq_true rfl, Nat.le_of_ble_eq_true rfl⟩) ⟨fun a U g mk q => by obtain ⟨q0, q1, qP, qK, qD, qN⟩ := q; exact ⟨q0, q1, qP, va_K.moved (u := U) (U := U.calling g mk a) (Vm.Alike.refl U.vm) qK, qD, va_Nw.same (u := U) rfl rfl qN⟩, fun U hU hW => ⟨rfl, by rw [hU], by rw [hU]; exact hPc, va_K.moved hW.alike hKc, hDc.weaken (fun _ _ _ _ => trivial), va_Nw.warmM hW hN⟩⟩ rfl rfl hl.1 rfl (lv_room (Nat.le_of_ble_eq_true rfl)) dL_law_4 ⟨Nat.le_of_ble_eq_true rfl, Nat.le_of_ble_eq_true rfl⟩) hS (fun q _ h => hFc q h) hFc (fun u t H1 locs ht hvm _ hB hz1 hk1 hS => ?_)
  obtain ⟨r1, a1, b1, cB⟩ := u
  obtain ⟨hP1, hK1, hD1⟩ := hB
  subst ht
  have hK1 := va_K.moved hvm.symm hK1
  have hP1 : va_P (dC, dI) vwCl (dkW r1 d1 a1 b1 cB dkZ) t.heap := hP1
  obtain ⟨hP, hD⟩ := va_join (wr := []) (w1 := dkW r1 d1 a1 b1 cB dkZ) hP hD [0] [] rfl rfl (by decide) (by decide) hk1 hFc hP1 hD1
  have hK : va_K (dC, dI) vwCl [(cB, .int)] s := hK1
  generalize cB = cA at hP hD hK
  generalize t.heap = H at hP hS ⊢
  have hP : va_P (dC, dI) vwCl (dkW r1 d1 a1 b1 cA dkZ) H := hP
  have hD : va_D (fun q => s.heap.size ≤ q) (dkW r1 d1 a1 b1 cA dkZ) := hD
  refine W.widen (k := 4) (n := 100) (Nat.le_of_ble_eq_true rfl) (Nat.le_of_ble_eq_true rfl) ?_
  refine lv_astore_n (lv' := [(1, .ref d1), (0, .ref b)]) hx hb dL_law_7 rfl hl (by decide) rfl (fun ls hl => ?_)
  refine va_new (ci := 0) (fs := [.null, .null, .null]) (C := RX1) (T := TX1) (N := 3) hx hb hts in_X1 tyX1 tyX1_ok hown (hts _ q7) (hts _ q8) (hts _ q3) hK hP hD hS hA rfl (fun j hj => by rcases (show j = 0 ∨ j = 1 ∨ j = 2 by omega) with rfl | rfl | rfl <;> rfl) (Nat.le_of_ble_eq_true rfl) (Nat.le_of_ble_eq_true rfl) dL_law_8 (fun d2 H hP hD hS => ?_)
  have hP : va_P (dC, dI) vwCl (dkW r1 d1 a1 b1 cA dkZ ++ [(d2, .inr (0, [.null, .null, .null]))]) H := hP
  have hD : va_D (fun q => s.heap.size ≤ q) (dkW r1 d1 a1 b1 cA dkZ ++ [(d2, .inr (0, [.null, .null, .null]))]) := hD
  refine W.widen (k := 5) (n := 103) (Nat.le_of_ble_eq_true rfl) (Nat.le_of_ble_eq_true rfl) ?_
  refine lv_dup hx hb dL_law_11 rfl ?_
  have hPc : va_P (dC, dI) vwCl [(d2, .inr (0, [.null, .null, .null]))] H := hP.sub [4] rfl
  have hDc : va_D (fun q => s.heap.size ≤ q) [(d2, .inr (0, [.null, .null, .null]))] := hD.sub [4] (by decide) rfl
  have hKc := hK.sub (tys' := []) [] rfl
  have hFc := va_free (wc := [(d2, .inr (0, [.null, .null, .null]))]) hD hS hA [4] rfl
  refine va_callv (va_runI (As := []) (rest := [.ref d2]) S (metX1_init l dC dI d2 H.size) (cwI 0 hts (lw_meth q11) rfl rfl rfl (hts _ q3) (hts _ q9) (hts _ q10) rfl (by decide +kernel) ⟨Nat.le_of_ble_eq_true rfl, Nat.le_of_ble_eq_true rfl⟩) ⟨fun a U g mk q => by obtain ⟨q0, q1, qP, qK, qD, qN⟩ := q; exact ⟨q0, q1, qP, va_K.moved (u := U) (U := U.calling g mk a) (Vm.Alike.refl U.vm) qK, qD, va_Nw.same (u := U) rfl rfl qN⟩, fun U hU hW => ⟨rfl, by rw [hU], by rw [hU]; exact hPc, va_K.moved hW.alike hKc, hDc.weaken (fun _ _ _ _ => trivial), va_Nw.warmM hW hN⟩⟩ rfl rfl hl.1 rfl (lv_room (Nat.le_of_ble_eq_true rfl)) dL_law_12 ⟨Nat.le_of_ble_eq_true rfl, Nat.le_of_ble_eq_true rfl⟩) hS (fun q _ h => hFc q h) hFc (fun u t H1 locs ht hvm _ hB hz1 hk1 hS => ?_)
  obtain ⟨r2, a2, b2, cB⟩ := u
  obtain ⟨hP1, hK1, hD1⟩ := hB
  subst ht
  have hK1 := va_K.moved hvm.symm hK1
  have hP1 : va_P (dC, dI) vwCl (dkW r2 d2 a2 b2 cB dkZ) t.heap := hP1
  obtain ⟨hP, hD⟩ := va_join (wr := dkW r1 d1 a1 b1 cA dkZ) (w1 := dkW r2 d2 a2 b2 cB dkZ) hP hD [4] [0, 1, 2, 3] rfl rfl (by decide) (by decide) hk1 hFc hP1 hD1
  have hK : va_K (dC, dI) vwCl [(cA, .int), (cB, .int)] s := hK.app hK1
  have hc := dk_oneA hK (i := 0) (j := 1) rfl rfl
  subst hc
  have hK : va_K (dC, dI) vwCl [(cA, .int)] s := hK.sub [0] rfl
  generalize t.heap = H at hP hS ⊢
  have hP : va_P (dC, dI) vwCl (dkW r1 d1 a1 b1 cA dkZ ++ dkW r2 d2 a2 b2 cA dkZ) H := hP
  have hD : va_D (fun q => s.heap.size ≤ q) (dkW r1 d1 a1 b1 cA dkZ ++ dkW r2 d2 a2 b2 cA dkZ) := hD
  refine W.widen (k := 8) (n := 200) (Nat.le_of_ble_eq_true rfl) (Nat.le_of_ble_eq_true rfl) ?_
  refine lv_astore_n (lv' := [(2, .ref d2), (1, .ref d1), (0, .ref b)]) hx hb dL_law_15 rfl hl (by decide) rfl (fun ls hl => ?_)
  refine lv_bipush (v := nI 48) hx hb dL_law_16 (by decide) ?_
  refine va_newa (atype := .int) (N' := 48) (a0 := (48, .inl (fun _ => 0))) hx hb (hts _ q25) rfl hK hP hD hS hA dk_arr0 (by decide) (nI_clamp (by decide)) (Nat.le_of_ble_eq_true rfl) (Nat.le_of_ble_eq_true rfl) (Nat.le_of_ble_eq_true rfl) dL_law_18 (fun qa cB H hK hP hD hS => ?_)
  have hK : va_K (dC, dI) vwCl [(cA, .int), (cB, .int)] s := hK
  have hc := dk_oneA hK (i := 0) (j := 1) rfl rfl
  subst hc
  have hK : va_K (dC, dI) vwCl [(cA, .int)] s := hK.sub [0] rfl
  have hP : va_P (dC, dI) vwCl (dkW r1 d1 a1 b1 cA dkZ ++ dkW r2 d2 a2 b2 cA dkZ ++ [(qa, .inl (cA, 48, .inl (fun _ => 0)))]) H := hP
  have hD : va_D (fun q => s.heap.size ≤ q) (dkW r1 d1 a1 b1 cA dkZ ++ dkW r2 d2 a2 b2 cA dkZ ++ [(qa, .inl (cA, 48, .inl (fun _ => 0)))]) := hD
  refine W.widen (k := 9) (n := 248) (Nat.le_of_ble_eq_true rfl) (Nat.le_of_ble_eq_true rfl) ?_
  refine lv_astore_n (lv' := [(3, .ref qa), (2, .ref d2), (1, .ref d1), (0, .ref b)]) hx hb dL_law_20 rfl hl (by decide) rfl (fun ls hl => ?_)
  refine lv_bipush (v := nI 48) hx hb dL_law_21 (by decide) ?_
  refine va_newa (atype := .int) (N' := 48) (a0 := (48, .inl (fun _ => 0))) hx hb (hts _ q25) rfl hK hP hD hS hA dk_arr0 (by decide) (nI_clamp (by decide)) (Nat.le_of_ble_eq_true rfl) (Nat.le_of_ble_eq_true rfl) (Nat.le_of_ble_eq_true rfl) dL_law_23 (fun qb cB H hK hP hD hS => ?_)
  have hK : va_K (dC, dI) vwCl [(cA, .int), (cB, .int)] s := hK
  have hc := dk_oneA hK (i := 0) (j := 1) rfl rfl
  subst hc
  have hK : va_K (dC, dI) vwCl [(cA, .int)] s := hK.sub [0] rfl
  have hP : va_P (dC, dI) vwCl (lawW r1 d1 a1 b1 r2 d2 a2 b2 qa qb cA dkZ dkZ dkZ) H := hP
  have hD : va_D (fun q => s.heap.size ≤ q) (lawW r1 d1 a1 b1 r2 d2 a2 b2 qa qb cA dkZ dkZ dkZ) := hD
  refine W.widen (k := 10) (n := 296) (Nat.le_of_ble_eq_true rfl) (Nat.le_of_ble_eq_true rfl) ?_
  refine lv_astore (lv' := [(4, .ref qb), (3, .ref qa), (2, .ref d2), (1, .ref d1), (0, .ref b)]) hx hb dL_law_25 hl (by decide) rfl (fun ls hl => ?_)
  refine lv_aload_n hx hb dL_law_27 rfl (lv_at hl 3 rfl) ?_
  refine lv_aload_n hx hb dL_law_28 rfl (lv_at hl 1 rfl) ?_
  refine lv_aload hx hb dL_law_29 (lv_at hl 0 rfl) ?_
  have hR : 200 ≤ room_1.frames ∧ 5000 ≤ room_1.locals := ⟨Nat.le_of_ble_eq_true rfl, Nat.le_of_ble_eq_true rfl⟩
  have hcs : 10 ≤ room_1.cells ∧ 296 ≤ room_1.slots := ⟨Nat.le_of_ble_eq_true rfl, Nat.le_of_ble_eq_true rfl⟩
  refine law_stx S hl.1 hK hX ⟨Nat.le_of_ble_eq_true rfl, Nat.le_of_ble_eq_true rfl⟩ hcs hP hD (rest := []) (Nat.le_of_ble_eq_true rfl) dL_law_31 ?_
  refine lv_if_ne (tgt := 39) hx hb dL_law_34 (by decide) (fun k1 => ?_) (fun k1 => ?_)
  · refine lv_iconst (v := nI 0) hx hb dL_law_39 (by decide) ?_
    refine lv_istore (lv' := [(5, .int (nI 0)), (4, .ref qb), (3, .ref qa), (2, .ref d2), (1, .ref d1), (0, .ref b)]) hx hb dL_law_40 hl (by decide) rfl (fun ls hl => ?_)
    have hbA : ¬ (fun q => s.heap.size ≤ q) b := fun h => Nat.not_le.mpr hb0 h
    have hL2 : L < 2 ^ 31 := by omega
    refine law_fill S hK hX hR hcs hA hX0 hb0 hbA hL2 (fun z H locs ls hP hD hS hl => ?_) 48 0 dkZ H locs ls rfl hP hD hS (lv_sub hl [5, 4, 3, 2, 1, 0] rfl)
    refine law_116 S hK hX hR hcs hA hX0 hb0 hbA hL2 (fun H locs ls hS => ?_) H locs ls hP hD hS hl
    refine va_forget (fun q hq => hS.2.2 q hq) ?_
    refine W.widen (k := 1200000) (n := 5502250) (Nat.le_of_ble_eq_true rfl) (Nat.le_of_ble_eq_true rfl) ?_
    refine ox_to (y := 1) rfl ?_
    exact lw_ret hx hb hr hlocks dL_law_440
  · exact absurd k1 (by decide)
set_option maxHeartbeats 4000000 in
theorem lw_walk (l : Launch) (hflags : l.flags = flags0) (b : Addr) (xs : List Int32) : MetFree l x (headSpec (Jvm.Cond.code x code maxLocals ret :: tables_1) room_1) (lw_P b xs) (fun _ _ _ _ _ => True) lw_Q := by
  refine MetFree.of_bodyS (code := code) (maxLocals := maxLocals) (ret := ret) (by decide) ?_ ?_
  · intro args s m h hn
    obtain ⟨meth, c, h1, h2, h3, h4, h5, h6, -, -⟩ := Cond.code_spec hn (atoms_spec (ws := Jvm.Cond.code x code maxLocals ret :: tables_1) h _ List.mem_cons_self)
    exact ⟨meth, c, h1, h2, h3, h4, h5, h6⟩
  · intro p e s m args below meth c s₁ B hml0 hP _
    obtain ⟨rfl, hx, hbd, hgv⟩ := hP
    obtain ⟨scr, harrAt, hlist, hof, hsmall⟩ := hx
    obtain ⟨hcb, hkn, -, -⟩ := State.arrayAt?_spec harrAt
    have hown : s.vm.findClass R_law = some m.cls := findClass_of_methodNamed B.named
    have hts0 : ∀ c ∈ (Jvm.Cond.code x code maxLocals ret :: tables_1), c.before #[Value.ref b] s = true := atoms_spec (ws := Jvm.Cond.code x code maxLocals ret :: tables_1) B.pre
    have hts : ∀ w ∈ lw_tbl, w.before #[Value.ref b] s = true := k2_hts_sels lw_privs (fun w hw => hts0 w (List.mem_cons_of_mem _ hw)) lw_privs_ok
    have hml : c.maxLocals = 11 := B.maxLocals_eq (hts0 _ List.mem_cons_self)
    have X₀ : Stand p l e room_1 s m #[Value.ref b] below meth c s₁ [] 0 0 := Stand.of_body B
    have hh0 : s₁.heap = s.heap := by rw [B.state]; rfl
    have hsz : scr.slots.size = xs.length := by rw [← Array.length_toList, hlist, List.length_map]
    have hval : ∀ j : Nat, j < xs.length → scr.slots[j]? = some (.int (xs.getD j 0)) := fun j hj => by
      rw [← Array.getElem?_toList, hlist]
      simp [hj]
    have hbl : b < s.heap.size := (Array.getElem?_eq_some_iff.mp hcb).1
    have hX : va_X b xs.length (fun j => xs.getD j 0) s s.heap := ⟨scr, hcb, hof, hkn, hsz, hval⟩
    have K : W p l e room_1 s m #[Value.ref b] below meth c s₁.heap [] 0 0 (lw_Z below #[Value.ref b] s) (entryFrame m ([Value.ref b] : List Value).toArray 11) := by
      rw [hh0]
      exact whole_start l hflags hbd ⟨B.exec, B.bytes, B.returns, hml, hown, hts, hX, hbl, B.notSynchronized, hgv⟩
    obtain ⟨t, a1, o, b1, b2, b3⟩ := K s₁ rfl X₀
    exact ⟨t, o, a1, b1, b2, b3⟩
theorem lw_pre_spec {args : Array Value} {s : State} (h : (Jvm.Cond.and given_1 narrow_1).before args s = true) (hr : rest_1_c.before args s = true) : ∃ (b : Addr) (xs : List Int32), lw_P b xs args s := by
  have hs := flat_of_before _ h
  have hq := flat_of_before _ hr
  have hc : (Cond.count 1).before args s = true := hs _ (by decide +kernel)
  have harr : (Cond.arrayOf (.arg 0) .int).before args s = true := hs _ (by decide +kernel)
  have hle : (Cond.le (.length (.arg 0)) (.int 102)).before args s = true := hs _ (by decide +kernel)
  have hlen : (Cond.isInt (.length (.arg 0))).before args s = true := hq _ (by decide +kernel)
  have hall : (Cond.all (.arg 0) (.isInt (.elem (.arg 0) (.index 0)))).before args s = true := hq _ (by decide +kernel)
  obtain ⟨b, xs, hb, hx⟩ := State.ints_of_pre rfl harr hlen hall
  have hsm : xs.length < 2 ^ 31 := hx.choose_spec.2.2.2
  have hev : (Term.length (.arg 0)).eval args s none [] s = some (.int xs.length.toInt32) := hx.length_eval hb
  have hv := Cond.le_ints hev (show (Term.int 102).eval args s none [] s = some (.int 102) from rfl)
  have hd : xs.length.toInt32 ≤ 102 := by
    simpa [Cond.before, Cond.holds, hv] using hle
  have hN : xs.length ≤ 102 := (Int32.ofNat_le_ofNat hsm (by decide)).mp (show Int32.ofNat xs.length ≤ Int32.ofNat 102 from hd)
  exact ⟨b, xs, Cond.one_arg hc (show args[0]? = some (.ref b) from hb), hx, hN, h⟩
theorem lw_comes (l : Launch) (hflags : l.flags = flags0) : Comes l x (Jvm.Cond.code x code maxLocals ret :: tables_1) room_1 (fun tb e args s => Calls_1 tb e args s ∧ rest_1 tb e args s ∧ Pre_1 tb e args s)
    (fun _ _ args s o t => lw_Q args s o t) := by
  intro p e ha hc hk s m args below hf hfit hheap happ hpre
  obtain ⟨b, xs, hP⟩ := lw_pre_spec hpre.2.2 hpre.2.1
  obtain ⟨k, o, h1, h2, h3, hQ⟩ := lw_walk l hflags b xs p e ha hc hk s m args below hf ((Spec.applies_iff_loose hf).mp happ).1 hP trivial
  exact ⟨k, o, h1, h2, h3, hQ⟩
theorem lw_frame {s t : State} {o : Outcome} {args : Array Value} (h : Framed s o t [] 1200000 5502250) :
    Framed s o t (fieldLocs frame_1_writes args s ++ arrayLocs frame_1_arrays args s ++ staticLocs frame_1_statics s) 1200000 5502250 := h
theorem lw_limb (L : Cond) (hL : ∀ (args : Array Value) (s t : State), L.after args s (.returned (some (.int 1))) t = true) :
    ArmFor flags0 classFile x code maxLocals ret World_1 tables_1 room_1 Calls_1 rest_1 Pre_1
      (fun tb e a s o t => postC L tb e a s o t ∧ Framed s o t (fieldLocs frame_1_writes a s ++ arrayLocs frame_1_arrays a s ++ staticLocs frame_1_statics s) 1200000 5502250) := by
  intro l hflags _ _ p e ha hc hk s m args below hf hfit hheap happ hpre
  obtain ⟨k, o, h1, h2, h3, rfl, hF⟩ := lw_comes l hflags p e ha hc hk s m args below hf hfit hheap happ hpre
  exact ⟨k, _, h1, h2, h3, hL args s _, lw_frame hF⟩
theorem i_vc : Claimed_1_1 ∧ Claimed_1_2 := ⟨lw_limb limb_1_1 (fun args s t => by simp [limb_1_1, Cond.after, Cond.holds, Cond.value]), lw_limb limb_1_2 (fun args s t => Cond.after_iff.mpr (by
  first | (rw [show limb_1_2 = Cond.eq .result (.int 1) from rfl, Cond.eq_ints (x := 1) (y := 1) rfl rfl]; simp; done) | (simp [limb_1_2, Cond.value, Term.eval]; done)))⟩
end
