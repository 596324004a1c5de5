section
-- ===== PART A: goes FIRST, ahead of the names: the tables' words, and 'selects' of the private methods out of them =====
/-- a private method of a class that the tables say can be made, by its rows of tables_1 -/
def lw_okq (q : MethodName × Nat) : Prop := (q.1.cls ≠ "java/lang/invoke/MethodHandle" ∧ q.1.cls ≠ "java/lang/invoke/VarHandle") ∧ Cond.instantiable q.1.cls q.2 ∈ tables_1 ∧ Cond.privateMethod q.1 ∈ tables_1 ∧ Cond.instanceMethod q.1 ∈ tables_1
set_option maxRecDepth 100000
theorem lw_p0 : lw_okq (⟨"OilVectorDeskModel", "write", "(III)V"⟩, 1) := ⟨⟨by decide +kernel, by decide +kernel⟩, List.mem_of_getElem? (i := 121) rfl, List.mem_of_getElem? (i := 137) rfl, List.mem_of_getElem? (i := 138) rfl⟩
theorem lw_p1 : lw_okq (⟨"OilVectorDeskModel", "combine", "(IIIIZZ)V"⟩, 1) := ⟨⟨by decide +kernel, by decide +kernel⟩, List.mem_of_getElem? (i := 121) rfl, List.mem_of_getElem? (i := 149) rfl, List.mem_of_getElem? (i := 150) rfl⟩
theorem lw_p2 : lw_okq (⟨"OilVectorDeskModel", "read", "(II)I"⟩, 1) := ⟨⟨by decide +kernel, by decide +kernel⟩, List.mem_of_getElem? (i := 121) rfl, List.mem_of_getElem? (i := 153) rfl, List.mem_of_getElem? (i := 154) rfl⟩
def lw_privs_1 : List (MethodName × Nat) := [(⟨"OilVectorDeskModel", "write", "(III)V"⟩, 1), (⟨"OilVectorDeskModel", "combine", "(IIIIZZ)V"⟩, 1), (⟨"OilVectorDeskModel", "read", "(II)I"⟩, 1)]
theorem lw_r1 : ∀ q ∈ lw_privs_1, lw_okq q := List.forall_mem_cons.mpr ⟨lw_p0, List.forall_mem_cons.mpr ⟨lw_p1, List.forall_mem_cons.mpr ⟨lw_p2, fun _ h => absurd h List.not_mem_nil⟩⟩⟩
def lw_privs : List (MethodName × Nat) := lw_privs_1
def lw_tbl : List Cond := k2_sels lw_privs ++ tables_1
theorem lw_privs_ok : ∀ q ∈ lw_privs, lw_okq q := lw_r1
-- ===== ONE list of words for every method: the tables' words that hold all through a run =====
def lw_all : List Cond := lw_tbl.filter goodWord
/-- a word of the tables by its place: claim/WORDS.tsv -/
theorem lw_w {w : Cond} (i : Nat) (h : lw_tbl[i]? = some w) (g : goodWord w = true) : w ∈ lw_all := List.mem_filter.mpr ⟨List.mem_of_getElem? h, g⟩
theorem lw_all_tbl {w : Cond} (h : w ∈ lw_all) : w ∈ lw_tbl := (List.mem_filter.mp h).1
theorem lw_self : GoodIn lw_all lw_all := fun w h => ⟨h, good_of_word (List.mem_filter.mp h).2⟩
/-- a class's field words, by their places -/
theorem lw_in (ws : List Cond) (ps : List Nat) (hp : ws = ps.filterMap (fun i => lw_tbl[i]?)) (hg : ws.all goodWord = true) : ∀ w ∈ ws, w ∈ lw_all := by
  intro w h
  have h1 := List.all_eq_true.mp hg w h
  rw [hp] at h
  obtain ⟨i, -, hi⟩ := List.mem_filterMap.mp h
  exact lw_w i hi h1
/-- the words of a contract for the method y with code b, L locals, answer r -/
abbrev ws_ (y : MethodName) (b : ByteArray) (L : Nat) (r : Option FieldType) : List Cond := Cond.code y b L r :: lw_all
theorem lw_meth {y : MethodName} {b : ByteArray} {L : Nat} {r : Option FieldType} (h : Cond.code y b L r ∈ lw_all) : GoodIn lw_all (ws_ y b L r) := by
  intro w hw
  rcases List.mem_cons.mp hw with e | e
  · rw [e]
    exact lw_self _ h
  · exact lw_self _ e
theorem lw_app {a c : List Cond} (ha : ∀ w ∈ a, w ∈ lw_all) (hc : GoodIn lw_all c) : GoodIn lw_all (a ++ c) := by
  intro w hw
  rcases List.mem_append.mp hw with e | e
  · exact lw_self w (ha w e)
  · exact hc w e
/-- what a call through an object asks: cwV n hts (lw_V ..) -/
theorem lw_V {own : String} {idx : Nat} {C : String} {y : MethodName} {b : ByteArray} {L : Nat} {r : Option FieldType} (h1 : Cond.methodLink own idx y ∈ lw_all) (h2 : Cond.instanceMethod y ∈ lw_all) (h3 : Cond.selects C y y ∈ lw_all) (h4 : Cond.initialized C ∈ lw_all) (h5 : Cond.code y b L r ∈ lw_all) : GoodIn lw_all (wsV own idx C y (ws_ y b L r)) := by
  refine lw_app ?_ (lw_meth h5)
  intro w hw
  simp only [List.mem_cons, List.not_mem_nil, or_false] at hw
  rcases hw with e | e | e | e
  · rw [e]; exact h1
  · rw [e]; exact h2
  · rw [e]; exact h3
  · rw [e]; exact h4
/-- what a static call asks: va_cwS n hts (lw_S ..) -/
theorem lw_S {own : String} {idx : Nat} {y : MethodName} {b : ByteArray} {L : Nat} {r : Option FieldType} (h1 : Cond.methodLink own idx y ∈ lw_all) (h2 : Cond.static y ∈ lw_all) (h3 : Cond.initialized y.cls ∈ lw_all) (h4 : Cond.code y b L r ∈ lw_all) : GoodIn lw_all (va_wsS own idx y (ws_ y b L r)) := by
  refine lw_app ?_ (lw_meth h4)
  intro w hw
  simp only [List.mem_cons, List.not_mem_nil, or_false] at hw
  rcases hw with e | e | e
  · rw [e]; exact h1
  · rw [e]; exact h2
  · rw [e]; exact h3
/-- the words of a contract for a method WITH HANDLERS (hh: its table) -/
abbrev wsW_ (y : MethodName) (b : ByteArray) (L : Nat) (r : Option FieldType) (hh : List (Nat × Nat × Nat × Nat)) : List Cond := Cond.codeWith y b L r hh :: lw_all
theorem lw_methW {y : MethodName} {b : ByteArray} {L : Nat} {r : Option FieldType} {hh : List (Nat × Nat × Nat × Nat)} (h : Cond.codeWith y b L r hh ∈ lw_all) : GoodIn lw_all (wsW_ y b L r hh) := by
  intro w hw
  rcases List.mem_cons.mp hw with e | e
  · rw [e]
    exact lw_self _ h
  · exact lw_self _ e
/-- any list of words by their places (lw_in), good -/
theorem lw_good {ws : List Cond} (h : ∀ w ∈ ws, w ∈ lw_all) : GoodIn lw_all ws := fun w hw => lw_self w (h w hw)
/-- what a call of a method with handlers asks: vx_cwVW n hts (lw_VW ..), vx_cwSW n hts (lw_SW ..) -/
theorem lw_VW {own : String} {idx : Nat} {C : String} {y : MethodName} {b : ByteArray} {L : Nat} {r : Option FieldType} {hh : List (Nat × Nat × Nat × Nat)} (h1 : Cond.methodLink own idx y ∈ lw_all) (h2 : Cond.instanceMethod y ∈ lw_all) (h3 : Cond.selects C y y ∈ lw_all) (h4 : Cond.initialized C ∈ lw_all) (h5 : Cond.codeWith y b L r hh ∈ lw_all) : GoodIn lw_all (wsV own idx C y (wsW_ y b L r hh)) := by
  refine lw_app ?_ (lw_methW h5)
  intro w hw
  simp only [List.mem_cons, List.not_mem_nil, or_false] at hw
  rcases hw with e | e | e | e
  · rw [e]; exact h1
  · rw [e]; exact h2
  · rw [e]; exact h3
  · rw [e]; exact h4
theorem lw_SW {own : String} {idx : Nat} {y : MethodName} {b : ByteArray} {L : Nat} {r : Option FieldType} {hh : List (Nat × Nat × Nat × Nat)} (h1 : Cond.methodLink own idx y ∈ lw_all) (h2 : Cond.static y ∈ lw_all) (h3 : Cond.initialized y.cls ∈ lw_all) (h4 : Cond.codeWith y b L r hh ∈ lw_all) : GoodIn lw_all (va_wsS own idx y (wsW_ y b L r hh)) := by
  refine lw_app ?_ (lw_methW h4)
  intro w hw
  simp only [List.mem_cons, List.not_mem_nil, or_false] at hw
  rcases hw with e | e | e
  · rw [e]; exact h1
  · rw [e]; exact h2
  · rw [e]; exact h3
/-- a word by its place in its run of the tables -/
theorem lw_at {r : List Cond} (hr : ∀ w ∈ r, w ∈ lw_tbl) {w : Cond} (i : Nat) (h : r[i]? = some w) : w ∈ lw_tbl := hr w (List.mem_of_getElem? h)
theorem lw_g {w : Cond} (h : w ∈ lw_tbl) (g : goodWord w = true) : w ∈ lw_all := List.mem_filter.mpr ⟨h, g⟩
theorem lw_ms : ∀ w ∈ k2_sels lw_privs, w ∈ lw_tbl := fun w h => show w ∈ k2_sels lw_privs ++ tables_1 from List.mem_append_left _ h
theorem lw_m0 : ∀ w ∈ tables_1, w ∈ lw_tbl := fun w h => show w ∈ k2_sels lw_privs ++ tables_1 from List.mem_append_right (k2_sels lw_privs) h
theorem qs0 : (Cond.selects "OilVectorDeskModel" ⟨"OilVectorDeskModel", "write", "(III)V"⟩ ⟨"OilVectorDeskModel", "write", "(III)V"⟩) ∈ lw_all := lw_g (lw_at lw_ms 0 rfl) rfl
theorem qs1 : (Cond.selects "OilVectorDeskModel" ⟨"OilVectorDeskModel", "combine", "(IIIIZZ)V"⟩ ⟨"OilVectorDeskModel", "combine", "(IIIIZZ)V"⟩) ∈ lw_all := lw_g (lw_at lw_ms 1 rfl) rfl
theorem qs2 : (Cond.selects "OilVectorDeskModel" ⟨"OilVectorDeskModel", "read", "(II)I"⟩ ⟨"OilVectorDeskModel", "read", "(II)I"⟩) ∈ lw_all := lw_g (lw_at lw_ms 2 rfl) rfl
-- ===== end of PART A; then your names; then what follows =====
/-! DECODE ROWS BY BYTES: one lemma an opcode; a method's code is cut into short pieces once, and a row reads its own piece alone. -/
set_option maxRecDepth 100000
/-- the code has just these bytes from pc on -/
def DkAt (code : ByteArray) (pc : Nat) (bs : List UInt8) : Prop := ∀ (j : Nat) (b : UInt8), bs[j]? = some b → code.data.toList[pc + j]? = some b
/-- the piece W has the bytes bs from its place j on -/
def dkIn (W : List UInt8) (j : Nat) (bs : List UInt8) : Bool := decide ((W.drop j).take bs.length = bs)
theorem dk_seg {l W T : List UInt8} {o o2 : Nat} (h : l.drop o = W ++ T) (n : Nat) (hn : W.length = n) (ho : o + n = o2) : l.drop o2 = T := by
  subst ho
  rw [← List.drop_drop, h, List.drop_left' hn]
theorem dk_at {code : ByteArray} {W T bs : List UInt8} {o pc : Nat} (h : code.data.toList.drop o = W ++ T) (j : Nat) (hp : o + j = pc) (hw : dkIn W j bs = true) : DkAt code pc bs := by
  subst hp
  intro i b e
  have h1 := of_decide_eq_true hw
  have h2 : i < bs.length := (List.getElem?_eq_some_iff.mp e).1
  have h3 : W[j + i]? = some b := by
    rw [← h1, List.getElem?_take, if_pos h2, List.getElem?_drop] at e
    exact e
  have h4 : j + i < W.length := (List.getElem?_eq_some_iff.mp h3).1
  have h5 : (code.data.toList.drop o)[j + i]? = some b := by
    rw [h, List.getElem?_append_left h4]
    exact h3
  rw [List.getElem?_drop, ← Nat.add_assoc] at h5
  exact h5
theorem dk_u1 {A : ByteArray} {p : Nat} {b : UInt8} (h : A.data.toList[p]? = some b) : (Reader.u1 : Reader DecodeError Nat) A p = .ok (b.toNat, p + 1) := by
  obtain ⟨h1, h2⟩ := List.getElem?_eq_some_iff.mp h
  have h3 : p < A.size := by simpa using h1
  have h4 : A[p]'h3 = b := h2
  have e : (Reader.u1 : Reader DecodeError Nat) A p = (if h : p < A.size then .ok (A[p].toNat, p + 1) else .error (HasTruncated.truncated p)) := by
    show (do if h : p < A.size then do set (p + 1); Pure.pure A[p].toNat else MonadExcept.throw (HasTruncated.truncated p) : Reader DecodeError Nat) A p = _
    by_cases hi : p < A.size
    · rw [dif_pos hi, dif_pos hi]; rfl
    · rw [dif_neg hi, dif_neg hi]; rfl
  rw [e, dif_pos h3, h4]
theorem dk_bind {α β : Type} {r : Reader DecodeError α} {f : α → Reader DecodeError β} {A : ByteArray} {p s : Nat} {a : α} (h : r A p = .ok (a, s)) : (r >>= f) A p = f a A s := by
  show (do let (a, s) ← r A p; f a A s : Except DecodeError (β × Nat)) = _
  rw [h]
  rfl
theorem dk_map {α β : Type} {r : Reader DecodeError α} {g : α → β} {A : ByteArray} {p s : Nat} {a : α} (h : r A p = .ok (a, s)) : (g <$> r) A p = .ok (g a, s) := by
  show (do let (a, s) ← r A p; .ok (g a, s) : Except DecodeError (β × Nat)) = _
  rw [h]
  rfl
theorem dk_u2 {A : ByteArray} {p : Nat} {a b : UInt8} (h : A.data.toList[p]? = some a) (h2 : A.data.toList[p + 1]? = some b) : (Reader.u2 : Reader DecodeError Nat) A p = .ok (a.toNat * 256 + b.toNat, p + 2) := by
  show (Reader.u1 >>= fun hi => Reader.u1 >>= fun lo => Pure.pure (hi * 256 + lo) : Reader DecodeError Nat) A p = _
  rw [dk_bind (dk_u1 h), dk_bind (dk_u1 h2)]
  rfl
theorem dk_of {code : ByteArray} {pc n : Nat} {i : Instr} (h : Decoder.instr pc code pc = .ok (i, pc + n)) : decode code pc = .ok (i, n) := by
  have e : decode code pc = (match Decoder.instr pc code pc with | .error x => .error x | .ok (j, s) => .ok (j, s - pc)) := by
    show (do let (j, s) ← Decoder.instr pc code pc; Pure.pure (j, s - pc) : Except DecodeError (Instr × Nat)) = _
    cases Decoder.instr pc code pc <;> rfl
  rw [e, h]
  show Except.ok (i, pc + n - pc) = _
  rw [Nat.add_sub_cancel_left]
theorem dk_3 {code : ByteArray} {pc : Nat} (h : DkAt code pc [3]) : decode code pc = .ok (.iconst 0, 1) := dk_of ((dk_bind (dk_u1 (h 0 _ rfl))).trans rfl)
theorem dk_4 {code : ByteArray} {pc : Nat} (h : DkAt code pc [4]) : decode code pc = .ok (.iconst 1, 1) := dk_of ((dk_bind (dk_u1 (h 0 _ rfl))).trans rfl)
theorem dk_5 {code : ByteArray} {pc : Nat} (h : DkAt code pc [5]) : decode code pc = .ok (.iconst 2, 1) := dk_of ((dk_bind (dk_u1 (h 0 _ rfl))).trans rfl)
theorem dk_6 {code : ByteArray} {pc : Nat} (h : DkAt code pc [6]) : decode code pc = .ok (.iconst 3, 1) := dk_of ((dk_bind (dk_u1 (h 0 _ rfl))).trans rfl)
theorem dk_7 {code : ByteArray} {pc : Nat} (h : DkAt code pc [7]) : decode code pc = .ok (.iconst 4, 1) := dk_of ((dk_bind (dk_u1 (h 0 _ rfl))).trans rfl)
theorem dk_8 {code : ByteArray} {pc : Nat} (h : DkAt code pc [8]) : decode code pc = .ok (.iconst 5, 1) := dk_of ((dk_bind (dk_u1 (h 0 _ rfl))).trans rfl)
theorem dk_16 {code : ByteArray} {pc : Nat} (a : UInt8) (h : DkAt code pc [16, a]) : decode code pc = .ok (.bipush (Reader.signed 8 a.toNat), 2) := dk_of ((dk_bind (dk_u1 (h 0 _ rfl))).trans ((dk_bind (dk_map (dk_u1 (h 1 _ rfl)))).trans rfl))
theorem dk_17 {code : ByteArray} {pc : Nat} (a b : UInt8) (h : DkAt code pc [17, a, b]) : decode code pc = .ok (.sipush (Reader.signed 16 (a.toNat * 256 + b.toNat)), 3) := dk_of ((dk_bind (dk_u1 (h 0 _ rfl))).trans ((dk_bind (dk_map (dk_u2 (h 1 _ rfl) (h 2 _ rfl)))).trans rfl))
theorem dk_18 {code : ByteArray} {pc : Nat} (a : UInt8) (h : DkAt code pc [18, a]) : decode code pc = .ok (.ldc a.toNat, 2) := dk_of ((dk_bind (dk_u1 (h 0 _ rfl))).trans ((dk_bind (dk_u1 (h 1 _ rfl))).trans rfl))
theorem dk_20 {code : ByteArray} {pc : Nat} (a b : UInt8) (h : DkAt code pc [20, a, b]) : decode code pc = .ok (.ldc2_w (a.toNat * 256 + b.toNat), 3) := dk_of ((dk_bind (dk_u1 (h 0 _ rfl))).trans ((dk_bind (dk_u2 (h 1 _ rfl) (h 2 _ rfl))).trans rfl))
theorem dk_21 {code : ByteArray} {pc : Nat} (a : UInt8) (h : DkAt code pc [21, a]) : decode code pc = .ok (.iload a.toNat, 2) := dk_of ((dk_bind (dk_u1 (h 0 _ rfl))).trans ((dk_bind (dk_u1 (h 1 _ rfl))).trans rfl))
theorem dk_22 {code : ByteArray} {pc : Nat} (a : UInt8) (h : DkAt code pc [22, a]) : decode code pc = .ok (.lload a.toNat, 2) := dk_of ((dk_bind (dk_u1 (h 0 _ rfl))).trans ((dk_bind (dk_u1 (h 1 _ rfl))).trans rfl))
theorem dk_25 {code : ByteArray} {pc : Nat} (a : UInt8) (h : DkAt code pc [25, a]) : decode code pc = .ok (.aload a.toNat, 2) := dk_of ((dk_bind (dk_u1 (h 0 _ rfl))).trans ((dk_bind (dk_u1 (h 1 _ rfl))).trans rfl))
theorem dk_26 {code : ByteArray} {pc : Nat} (h : DkAt code pc [26]) : decode code pc = .ok (.iload_n 0, 1) := dk_of ((dk_bind (dk_u1 (h 0 _ rfl))).trans rfl)
theorem dk_27 {code : ByteArray} {pc : Nat} (h : DkAt code pc [27]) : decode code pc = .ok (.iload_n 1, 1) := dk_of ((dk_bind (dk_u1 (h 0 _ rfl))).trans rfl)
theorem dk_28 {code : ByteArray} {pc : Nat} (h : DkAt code pc [28]) : decode code pc = .ok (.iload_n 2, 1) := dk_of ((dk_bind (dk_u1 (h 0 _ rfl))).trans rfl)
theorem dk_29 {code : ByteArray} {pc : Nat} (h : DkAt code pc [29]) : decode code pc = .ok (.iload_n 3, 1) := dk_of ((dk_bind (dk_u1 (h 0 _ rfl))).trans rfl)
theorem dk_30 {code : ByteArray} {pc : Nat} (h : DkAt code pc [30]) : decode code pc = .ok (.lload_n 0, 1) := dk_of ((dk_bind (dk_u1 (h 0 _ rfl))).trans rfl)
theorem dk_31 {code : ByteArray} {pc : Nat} (h : DkAt code pc [31]) : decode code pc = .ok (.lload_n 1, 1) := dk_of ((dk_bind (dk_u1 (h 0 _ rfl))).trans rfl)
theorem dk_32 {code : ByteArray} {pc : Nat} (h : DkAt code pc [32]) : decode code pc = .ok (.lload_n 2, 1) := dk_of ((dk_bind (dk_u1 (h 0 _ rfl))).trans rfl)
theorem dk_33 {code : ByteArray} {pc : Nat} (h : DkAt code pc [33]) : decode code pc = .ok (.lload_n 3, 1) := dk_of ((dk_bind (dk_u1 (h 0 _ rfl))).trans rfl)
theorem dk_42 {code : ByteArray} {pc : Nat} (h : DkAt code pc [42]) : decode code pc = .ok (.aload_n 0, 1) := dk_of ((dk_bind (dk_u1 (h 0 _ rfl))).trans rfl)
theorem dk_43 {code : ByteArray} {pc : Nat} (h : DkAt code pc [43]) : decode code pc = .ok (.aload_n 1, 1) := dk_of ((dk_bind (dk_u1 (h 0 _ rfl))).trans rfl)
theorem dk_44 {code : ByteArray} {pc : Nat} (h : DkAt code pc [44]) : decode code pc = .ok (.aload_n 2, 1) := dk_of ((dk_bind (dk_u1 (h 0 _ rfl))).trans rfl)
theorem dk_45 {code : ByteArray} {pc : Nat} (h : DkAt code pc [45]) : decode code pc = .ok (.aload_n 3, 1) := dk_of ((dk_bind (dk_u1 (h 0 _ rfl))).trans rfl)
theorem dk_46 {code : ByteArray} {pc : Nat} (h : DkAt code pc [46]) : decode code pc = .ok (.iaload, 1) := dk_of ((dk_bind (dk_u1 (h 0 _ rfl))).trans rfl)
theorem dk_50 {code : ByteArray} {pc : Nat} (h : DkAt code pc [50]) : decode code pc = .ok (.aaload, 1) := dk_of ((dk_bind (dk_u1 (h 0 _ rfl))).trans rfl)
theorem dk_51 {code : ByteArray} {pc : Nat} (h : DkAt code pc [51]) : decode code pc = .ok (.baload, 1) := dk_of ((dk_bind (dk_u1 (h 0 _ rfl))).trans rfl)
theorem dk_54 {code : ByteArray} {pc : Nat} (a : UInt8) (h : DkAt code pc [54, a]) : decode code pc = .ok (.istore a.toNat, 2) := dk_of ((dk_bind (dk_u1 (h 0 _ rfl))).trans ((dk_bind (dk_u1 (h 1 _ rfl))).trans rfl))
theorem dk_55 {code : ByteArray} {pc : Nat} (a : UInt8) (h : DkAt code pc [55, a]) : decode code pc = .ok (.lstore a.toNat, 2) := dk_of ((dk_bind (dk_u1 (h 0 _ rfl))).trans ((dk_bind (dk_u1 (h 1 _ rfl))).trans rfl))
theorem dk_58 {code : ByteArray} {pc : Nat} (a : UInt8) (h : DkAt code pc [58, a]) : decode code pc = .ok (.astore a.toNat, 2) := dk_of ((dk_bind (dk_u1 (h 0 _ rfl))).trans ((dk_bind (dk_u1 (h 1 _ rfl))).trans rfl))
theorem dk_59 {code : ByteArray} {pc : Nat} (h : DkAt code pc [59]) : decode code pc = .ok (.istore_n 0, 1) := dk_of ((dk_bind (dk_u1 (h 0 _ rfl))).trans rfl)
theorem dk_60 {code : ByteArray} {pc : Nat} (h : DkAt code pc [60]) : decode code pc = .ok (.istore_n 1, 1) := dk_of ((dk_bind (dk_u1 (h 0 _ rfl))).trans rfl)
theorem dk_61 {code : ByteArray} {pc : Nat} (h : DkAt code pc [61]) : decode code pc = .ok (.istore_n 2, 1) := dk_of ((dk_bind (dk_u1 (h 0 _ rfl))).trans rfl)
theorem dk_62 {code : ByteArray} {pc : Nat} (h : DkAt code pc [62]) : decode code pc = .ok (.istore_n 3, 1) := dk_of ((dk_bind (dk_u1 (h 0 _ rfl))).trans rfl)
theorem dk_63 {code : ByteArray} {pc : Nat} (h : DkAt code pc [63]) : decode code pc = .ok (.lstore_n 0, 1) := dk_of ((dk_bind (dk_u1 (h 0 _ rfl))).trans rfl)
theorem dk_64 {code : ByteArray} {pc : Nat} (h : DkAt code pc [64]) : decode code pc = .ok (.lstore_n 1, 1) := dk_of ((dk_bind (dk_u1 (h 0 _ rfl))).trans rfl)
theorem dk_66 {code : ByteArray} {pc : Nat} (h : DkAt code pc [66]) : decode code pc = .ok (.lstore_n 3, 1) := dk_of ((dk_bind (dk_u1 (h 0 _ rfl))).trans rfl)
theorem dk_76 {code : ByteArray} {pc : Nat} (h : DkAt code pc [76]) : decode code pc = .ok (.astore_n 1, 1) := dk_of ((dk_bind (dk_u1 (h 0 _ rfl))).trans rfl)
theorem dk_77 {code : ByteArray} {pc : Nat} (h : DkAt code pc [77]) : decode code pc = .ok (.astore_n 2, 1) := dk_of ((dk_bind (dk_u1 (h 0 _ rfl))).trans rfl)
theorem dk_83 {code : ByteArray} {pc : Nat} (h : DkAt code pc [83]) : decode code pc = .ok (.aastore, 1) := dk_of ((dk_bind (dk_u1 (h 0 _ rfl))).trans rfl)
theorem dk_84 {code : ByteArray} {pc : Nat} (h : DkAt code pc [84]) : decode code pc = .ok (.bastore, 1) := dk_of ((dk_bind (dk_u1 (h 0 _ rfl))).trans rfl)
theorem dk_89 {code : ByteArray} {pc : Nat} (h : DkAt code pc [89]) : decode code pc = .ok (.dup, 1) := dk_of ((dk_bind (dk_u1 (h 0 _ rfl))).trans rfl)
theorem dk_92 {code : ByteArray} {pc : Nat} (h : DkAt code pc [92]) : decode code pc = .ok (.dup2, 1) := dk_of ((dk_bind (dk_u1 (h 0 _ rfl))).trans rfl)
theorem dk_96 {code : ByteArray} {pc : Nat} (h : DkAt code pc [96]) : decode code pc = .ok (.iadd, 1) := dk_of ((dk_bind (dk_u1 (h 0 _ rfl))).trans rfl)
theorem dk_97 {code : ByteArray} {pc : Nat} (h : DkAt code pc [97]) : decode code pc = .ok (.ladd, 1) := dk_of ((dk_bind (dk_u1 (h 0 _ rfl))).trans rfl)
theorem dk_100 {code : ByteArray} {pc : Nat} (h : DkAt code pc [100]) : decode code pc = .ok (.isub, 1) := dk_of ((dk_bind (dk_u1 (h 0 _ rfl))).trans rfl)
theorem dk_104 {code : ByteArray} {pc : Nat} (h : DkAt code pc [104]) : decode code pc = .ok (.imul, 1) := dk_of ((dk_bind (dk_u1 (h 0 _ rfl))).trans rfl)
theorem dk_105 {code : ByteArray} {pc : Nat} (h : DkAt code pc [105]) : decode code pc = .ok (.lmul, 1) := dk_of ((dk_bind (dk_u1 (h 0 _ rfl))).trans rfl)
theorem dk_108 {code : ByteArray} {pc : Nat} (h : DkAt code pc [108]) : decode code pc = .ok (.idiv, 1) := dk_of ((dk_bind (dk_u1 (h 0 _ rfl))).trans rfl)
theorem dk_112 {code : ByteArray} {pc : Nat} (h : DkAt code pc [112]) : decode code pc = .ok (.irem, 1) := dk_of ((dk_bind (dk_u1 (h 0 _ rfl))).trans rfl)
theorem dk_116 {code : ByteArray} {pc : Nat} (h : DkAt code pc [116]) : decode code pc = .ok (.ineg, 1) := dk_of ((dk_bind (dk_u1 (h 0 _ rfl))).trans rfl)
theorem dk_117 {code : ByteArray} {pc : Nat} (h : DkAt code pc [117]) : decode code pc = .ok (.lneg, 1) := dk_of ((dk_bind (dk_u1 (h 0 _ rfl))).trans rfl)
theorem dk_120 {code : ByteArray} {pc : Nat} (h : DkAt code pc [120]) : decode code pc = .ok (.ishl, 1) := dk_of ((dk_bind (dk_u1 (h 0 _ rfl))).trans rfl)
theorem dk_121 {code : ByteArray} {pc : Nat} (h : DkAt code pc [121]) : decode code pc = .ok (.lshl, 1) := dk_of ((dk_bind (dk_u1 (h 0 _ rfl))).trans rfl)
theorem dk_122 {code : ByteArray} {pc : Nat} (h : DkAt code pc [122]) : decode code pc = .ok (.ishr, 1) := dk_of ((dk_bind (dk_u1 (h 0 _ rfl))).trans rfl)
theorem dk_124 {code : ByteArray} {pc : Nat} (h : DkAt code pc [124]) : decode code pc = .ok (.iushr, 1) := dk_of ((dk_bind (dk_u1 (h 0 _ rfl))).trans rfl)
theorem dk_125 {code : ByteArray} {pc : Nat} (h : DkAt code pc [125]) : decode code pc = .ok (.lushr, 1) := dk_of ((dk_bind (dk_u1 (h 0 _ rfl))).trans rfl)
theorem dk_126 {code : ByteArray} {pc : Nat} (h : DkAt code pc [126]) : decode code pc = .ok (.iand, 1) := dk_of ((dk_bind (dk_u1 (h 0 _ rfl))).trans rfl)
theorem dk_127 {code : ByteArray} {pc : Nat} (h : DkAt code pc [127]) : decode code pc = .ok (.land, 1) := dk_of ((dk_bind (dk_u1 (h 0 _ rfl))).trans rfl)
theorem dk_128 {code : ByteArray} {pc : Nat} (h : DkAt code pc [128]) : decode code pc = .ok (.ior, 1) := dk_of ((dk_bind (dk_u1 (h 0 _ rfl))).trans rfl)
theorem dk_129 {code : ByteArray} {pc : Nat} (h : DkAt code pc [129]) : decode code pc = .ok (.lor, 1) := dk_of ((dk_bind (dk_u1 (h 0 _ rfl))).trans rfl)
theorem dk_130 {code : ByteArray} {pc : Nat} (h : DkAt code pc [130]) : decode code pc = .ok (.ixor, 1) := dk_of ((dk_bind (dk_u1 (h 0 _ rfl))).trans rfl)
theorem dk_131 {code : ByteArray} {pc : Nat} (h : DkAt code pc [131]) : decode code pc = .ok (.lxor, 1) := dk_of ((dk_bind (dk_u1 (h 0 _ rfl))).trans rfl)
theorem dk_132 {code : ByteArray} {pc : Nat} (a b : UInt8) (h : DkAt code pc [132, a, b]) : decode code pc = .ok (.iinc a.toNat (Reader.signed 8 b.toNat), 3) := dk_of ((dk_bind (dk_u1 (h 0 _ rfl))).trans ((dk_bind (dk_u1 (h 1 _ rfl))).trans ((dk_bind (dk_map (dk_u1 (h 2 _ rfl)))).trans rfl)))
theorem dk_133 {code : ByteArray} {pc : Nat} (h : DkAt code pc [133]) : decode code pc = .ok (.i2l, 1) := dk_of ((dk_bind (dk_u1 (h 0 _ rfl))).trans rfl)
theorem dk_136 {code : ByteArray} {pc : Nat} (h : DkAt code pc [136]) : decode code pc = .ok (.l2i, 1) := dk_of ((dk_bind (dk_u1 (h 0 _ rfl))).trans rfl)
theorem dk_145 {code : ByteArray} {pc : Nat} (h : DkAt code pc [145]) : decode code pc = .ok (.i2b, 1) := dk_of ((dk_bind (dk_u1 (h 0 _ rfl))).trans rfl)
theorem dk_153 {code : ByteArray} {pc : Nat} (a b : UInt8) (h : DkAt code pc [153, a, b]) : decode code pc = .ok (.ifCond .eq (Reader.signed 16 (a.toNat * 256 + b.toNat)), 3) := dk_of ((dk_bind (dk_u1 (h 0 _ rfl))).trans ((dk_bind (dk_map (dk_u2 (h 1 _ rfl) (h 2 _ rfl)))).trans rfl))
theorem dk_155 {code : ByteArray} {pc : Nat} (a b : UInt8) (h : DkAt code pc [155, a, b]) : decode code pc = .ok (.ifCond .lt (Reader.signed 16 (a.toNat * 256 + b.toNat)), 3) := dk_of ((dk_bind (dk_u1 (h 0 _ rfl))).trans ((dk_bind (dk_map (dk_u2 (h 1 _ rfl) (h 2 _ rfl)))).trans rfl))
theorem dk_159 {code : ByteArray} {pc : Nat} (a b : UInt8) (h : DkAt code pc [159, a, b]) : decode code pc = .ok (.if_icmp .eq (Reader.signed 16 (a.toNat * 256 + b.toNat)), 3) := dk_of ((dk_bind (dk_u1 (h 0 _ rfl))).trans ((dk_bind (dk_map (dk_u2 (h 1 _ rfl) (h 2 _ rfl)))).trans rfl))
theorem dk_160 {code : ByteArray} {pc : Nat} (a b : UInt8) (h : DkAt code pc [160, a, b]) : decode code pc = .ok (.if_icmp .ne (Reader.signed 16 (a.toNat * 256 + b.toNat)), 3) := dk_of ((dk_bind (dk_u1 (h 0 _ rfl))).trans ((dk_bind (dk_map (dk_u2 (h 1 _ rfl) (h 2 _ rfl)))).trans rfl))
theorem dk_161 {code : ByteArray} {pc : Nat} (a b : UInt8) (h : DkAt code pc [161, a, b]) : decode code pc = .ok (.if_icmp .lt (Reader.signed 16 (a.toNat * 256 + b.toNat)), 3) := dk_of ((dk_bind (dk_u1 (h 0 _ rfl))).trans ((dk_bind (dk_map (dk_u2 (h 1 _ rfl) (h 2 _ rfl)))).trans rfl))
theorem dk_162 {code : ByteArray} {pc : Nat} (a b : UInt8) (h : DkAt code pc [162, a, b]) : decode code pc = .ok (.if_icmp .ge (Reader.signed 16 (a.toNat * 256 + b.toNat)), 3) := dk_of ((dk_bind (dk_u1 (h 0 _ rfl))).trans ((dk_bind (dk_map (dk_u2 (h 1 _ rfl) (h 2 _ rfl)))).trans rfl))
theorem dk_163 {code : ByteArray} {pc : Nat} (a b : UInt8) (h : DkAt code pc [163, a, b]) : decode code pc = .ok (.if_icmp .gt (Reader.signed 16 (a.toNat * 256 + b.toNat)), 3) := dk_of ((dk_bind (dk_u1 (h 0 _ rfl))).trans ((dk_bind (dk_map (dk_u2 (h 1 _ rfl) (h 2 _ rfl)))).trans rfl))
theorem dk_167 {code : ByteArray} {pc : Nat} (a b : UInt8) (h : DkAt code pc [167, a, b]) : decode code pc = .ok (.goto (Reader.signed 16 (a.toNat * 256 + b.toNat)), 3) := dk_of ((dk_bind (dk_u1 (h 0 _ rfl))).trans ((dk_bind (dk_map (dk_u2 (h 1 _ rfl) (h 2 _ rfl)))).trans rfl))
theorem dk_172 {code : ByteArray} {pc : Nat} (h : DkAt code pc [172]) : decode code pc = .ok (.ireturn, 1) := dk_of ((dk_bind (dk_u1 (h 0 _ rfl))).trans rfl)
theorem dk_173 {code : ByteArray} {pc : Nat} (h : DkAt code pc [173]) : decode code pc = .ok (.lreturn, 1) := dk_of ((dk_bind (dk_u1 (h 0 _ rfl))).trans rfl)
theorem dk_177 {code : ByteArray} {pc : Nat} (h : DkAt code pc [177]) : decode code pc = .ok (.return_, 1) := dk_of ((dk_bind (dk_u1 (h 0 _ rfl))).trans rfl)
theorem dk_180 {code : ByteArray} {pc : Nat} (a b : UInt8) (h : DkAt code pc [180, a, b]) : decode code pc = .ok (.getfield (a.toNat * 256 + b.toNat), 3) := dk_of ((dk_bind (dk_u1 (h 0 _ rfl))).trans ((dk_bind (dk_u2 (h 1 _ rfl) (h 2 _ rfl))).trans rfl))
theorem dk_181 {code : ByteArray} {pc : Nat} (a b : UInt8) (h : DkAt code pc [181, a, b]) : decode code pc = .ok (.putfield (a.toNat * 256 + b.toNat), 3) := dk_of ((dk_bind (dk_u1 (h 0 _ rfl))).trans ((dk_bind (dk_u2 (h 1 _ rfl) (h 2 _ rfl))).trans rfl))
theorem dk_182 {code : ByteArray} {pc : Nat} (a b : UInt8) (h : DkAt code pc [182, a, b]) : decode code pc = .ok (.invokevirtual (a.toNat * 256 + b.toNat), 3) := dk_of ((dk_bind (dk_u1 (h 0 _ rfl))).trans ((dk_bind (dk_u2 (h 1 _ rfl) (h 2 _ rfl))).trans rfl))
theorem dk_183 {code : ByteArray} {pc : Nat} (a b : UInt8) (h : DkAt code pc [183, a, b]) : decode code pc = .ok (.invokespecial (a.toNat * 256 + b.toNat), 3) := dk_of ((dk_bind (dk_u1 (h 0 _ rfl))).trans ((dk_bind (dk_u2 (h 1 _ rfl) (h 2 _ rfl))).trans rfl))
theorem dk_184 {code : ByteArray} {pc : Nat} (a b : UInt8) (h : DkAt code pc [184, a, b]) : decode code pc = .ok (.invokestatic (a.toNat * 256 + b.toNat), 3) := dk_of ((dk_bind (dk_u1 (h 0 _ rfl))).trans ((dk_bind (dk_u2 (h 1 _ rfl) (h 2 _ rfl))).trans rfl))
theorem dk_187 {code : ByteArray} {pc : Nat} (a b : UInt8) (h : DkAt code pc [187, a, b]) : decode code pc = .ok (.new (a.toNat * 256 + b.toNat), 3) := dk_of ((dk_bind (dk_u1 (h 0 _ rfl))).trans ((dk_bind (dk_u2 (h 1 _ rfl) (h 2 _ rfl))).trans rfl))
theorem dk_188_4 {code : ByteArray} {pc : Nat} (h : DkAt code pc [188, 4]) : decode code pc = .ok (.newarray .boolean, 2) := dk_of ((dk_bind (dk_u1 (h 0 _ rfl))).trans ((dk_bind (dk_u1 (h 1 _ rfl))).trans rfl))
theorem dk_188_8 {code : ByteArray} {pc : Nat} (h : DkAt code pc [188, 8]) : decode code pc = .ok (.newarray .byte, 2) := dk_of ((dk_bind (dk_u1 (h 0 _ rfl))).trans ((dk_bind (dk_u1 (h 1 _ rfl))).trans rfl))
theorem dk_189 {code : ByteArray} {pc : Nat} (a b : UInt8) (h : DkAt code pc [189, a, b]) : decode code pc = .ok (.anewarray (a.toNat * 256 + b.toNat), 3) := dk_of ((dk_bind (dk_u1 (h 0 _ rfl))).trans ((dk_bind (dk_u2 (h 1 _ rfl) (h 2 _ rfl))).trans rfl))
theorem dk_190 {code : ByteArray} {pc : Nat} (h : DkAt code pc [190]) : decode code pc = .ok (.arraylength, 1) := dk_of ((dk_bind (dk_u1 (h 0 _ rfl))).trans rfl)
/-! java/lang/Object -/
set_option maxRecDepth 100000
def RJ0 : String := "java/lang/Object"
abbrev cJ0_init : ByteArray := object_method_1_code
def yJ0_init : MethodName := ⟨RJ0, "<init>", "()V"⟩
theorem dJ0_init_0 : decode cJ0_init 0 = .ok (.return_, 1) := by decide +kernel
theorem q16 : (Jvm.Cond.instanceMethod ({ cls := "java/lang/Object", name := "<init>", desc := "()V" } : Jvm.MethodName)) ∈ lw_all := lw_g (lw_at lw_m0 13 rfl) rfl
theorem q17 : (Jvm.Cond.code ({ cls := "java/lang/Object", name := "<init>", desc := "()V" } : Jvm.MethodName) object_method_1_code (1 : Nat) (Option.none : Option Jvm.ClassFile.FieldType)) ∈ lw_all := lw_g (lw_at lw_m0 14 rfl) rfl
/-! GF16 -/
set_option maxRecDepth 100000
def RX5 : String := "GF16"
abbrev cX5_mul : ByteArray := prog_2_method_3_code
def yX5_mul : MethodName := ⟨RX5, "mul", "(II)I"⟩
def dkwX5_mul_2 : List UInt8 := [126, 172]
abbrev dktX5_mul_2 : List UInt8 := dkwX5_mul_2 ++ []
def dkwX5_mul_1 : List UInt8 := [16, 8, 126, 27, 104, 130, 61, 28, 17, 0, 240, 126, 62, 28, 29, 7, 122, 130, 29, 6, 122, 130, 16, 15]
abbrev dktX5_mul_1 : List UInt8 := dkwX5_mul_1 ++ dktX5_mul_2
def dkwX5_mul_0 : List UInt8 := [26, 4, 126, 27, 104, 61, 28, 26, 5, 126, 27, 104, 130, 61, 28, 26, 7, 126, 27, 104, 130, 61, 28, 26]
abbrev dktX5_mul_0 : List UInt8 := dkwX5_mul_0 ++ dktX5_mul_1
theorem dksX5_mul_0 : cX5_mul.data.toList.drop 0 = dktX5_mul_0 := by decide +kernel
theorem dksX5_mul_1 : cX5_mul.data.toList.drop 24 = dktX5_mul_1 := dk_seg dksX5_mul_0 24 rfl rfl
theorem dksX5_mul_2 : cX5_mul.data.toList.drop 48 = dktX5_mul_2 := dk_seg dksX5_mul_1 24 rfl rfl
theorem dX5_mul_0 : decode cX5_mul 0 = .ok (.iload_n 0, 1) := dk_26 (dk_at dksX5_mul_0 0 rfl rfl)
theorem dX5_mul_1 : decode cX5_mul 1 = .ok (.iconst 1, 1) := dk_4 (dk_at dksX5_mul_0 1 rfl rfl)
theorem dX5_mul_2 : decode cX5_mul 2 = .ok (.iand, 1) := dk_126 (dk_at dksX5_mul_0 2 rfl rfl)
theorem dX5_mul_3 : decode cX5_mul 3 = .ok (.iload_n 1, 1) := dk_27 (dk_at dksX5_mul_0 3 rfl rfl)
theorem dX5_mul_4 : decode cX5_mul 4 = .ok (.imul, 1) := dk_104 (dk_at dksX5_mul_0 4 rfl rfl)
theorem dX5_mul_5 : decode cX5_mul 5 = .ok (.istore_n 2, 1) := dk_61 (dk_at dksX5_mul_0 5 rfl rfl)
theorem dX5_mul_6 : decode cX5_mul 6 = .ok (.iload_n 2, 1) := dk_28 (dk_at dksX5_mul_0 6 rfl rfl)
theorem dX5_mul_7 : decode cX5_mul 7 = .ok (.iload_n 0, 1) := dk_26 (dk_at dksX5_mul_0 7 rfl rfl)
theorem dX5_mul_8 : decode cX5_mul 8 = .ok (.iconst 2, 1) := dk_5 (dk_at dksX5_mul_0 8 rfl rfl)
theorem dX5_mul_9 : decode cX5_mul 9 = .ok (.iand, 1) := dk_126 (dk_at dksX5_mul_0 9 rfl rfl)
theorem dX5_mul_10 : decode cX5_mul 10 = .ok (.iload_n 1, 1) := dk_27 (dk_at dksX5_mul_0 10 rfl rfl)
theorem dX5_mul_11 : decode cX5_mul 11 = .ok (.imul, 1) := dk_104 (dk_at dksX5_mul_0 11 rfl rfl)
theorem dX5_mul_12 : decode cX5_mul 12 = .ok (.ixor, 1) := dk_130 (dk_at dksX5_mul_0 12 rfl rfl)
theorem dX5_mul_13 : decode cX5_mul 13 = .ok (.istore_n 2, 1) := dk_61 (dk_at dksX5_mul_0 13 rfl rfl)
theorem dX5_mul_14 : decode cX5_mul 14 = .ok (.iload_n 2, 1) := dk_28 (dk_at dksX5_mul_0 14 rfl rfl)
theorem dX5_mul_15 : decode cX5_mul 15 = .ok (.iload_n 0, 1) := dk_26 (dk_at dksX5_mul_0 15 rfl rfl)
theorem dX5_mul_16 : decode cX5_mul 16 = .ok (.iconst 4, 1) := dk_7 (dk_at dksX5_mul_0 16 rfl rfl)
theorem dX5_mul_17 : decode cX5_mul 17 = .ok (.iand, 1) := dk_126 (dk_at dksX5_mul_0 17 rfl rfl)
theorem dX5_mul_18 : decode cX5_mul 18 = .ok (.iload_n 1, 1) := dk_27 (dk_at dksX5_mul_0 18 rfl rfl)
theorem dX5_mul_19 : decode cX5_mul 19 = .ok (.imul, 1) := dk_104 (dk_at dksX5_mul_0 19 rfl rfl)
theorem dX5_mul_20 : decode cX5_mul 20 = .ok (.ixor, 1) := dk_130 (dk_at dksX5_mul_0 20 rfl rfl)
theorem dX5_mul_21 : decode cX5_mul 21 = .ok (.istore_n 2, 1) := dk_61 (dk_at dksX5_mul_0 21 rfl rfl)
theorem dX5_mul_22 : decode cX5_mul 22 = .ok (.iload_n 2, 1) := dk_28 (dk_at dksX5_mul_0 22 rfl rfl)
theorem dX5_mul_23 : decode cX5_mul 23 = .ok (.iload_n 0, 1) := dk_26 (dk_at dksX5_mul_0 23 rfl rfl)
theorem dX5_mul_24 : decode cX5_mul 24 = .ok (.bipush 8, 2) := dk_16 8 (dk_at dksX5_mul_1 0 rfl rfl)
theorem dX5_mul_26 : decode cX5_mul 26 = .ok (.iand, 1) := dk_126 (dk_at dksX5_mul_1 2 rfl rfl)
theorem dX5_mul_27 : decode cX5_mul 27 = .ok (.iload_n 1, 1) := dk_27 (dk_at dksX5_mul_1 3 rfl rfl)
theorem dX5_mul_28 : decode cX5_mul 28 = .ok (.imul, 1) := dk_104 (dk_at dksX5_mul_1 4 rfl rfl)
theorem dX5_mul_29 : decode cX5_mul 29 = .ok (.ixor, 1) := dk_130 (dk_at dksX5_mul_1 5 rfl rfl)
theorem dX5_mul_30 : decode cX5_mul 30 = .ok (.istore_n 2, 1) := dk_61 (dk_at dksX5_mul_1 6 rfl rfl)
theorem dX5_mul_31 : decode cX5_mul 31 = .ok (.iload_n 2, 1) := dk_28 (dk_at dksX5_mul_1 7 rfl rfl)
theorem dX5_mul_32 : decode cX5_mul 32 = .ok (.sipush 240, 3) := dk_17 0 240 (dk_at dksX5_mul_1 8 rfl rfl)
theorem dX5_mul_35 : decode cX5_mul 35 = .ok (.iand, 1) := dk_126 (dk_at dksX5_mul_1 11 rfl rfl)
theorem dX5_mul_36 : decode cX5_mul 36 = .ok (.istore_n 3, 1) := dk_62 (dk_at dksX5_mul_1 12 rfl rfl)
theorem dX5_mul_37 : decode cX5_mul 37 = .ok (.iload_n 2, 1) := dk_28 (dk_at dksX5_mul_1 13 rfl rfl)
theorem dX5_mul_38 : decode cX5_mul 38 = .ok (.iload_n 3, 1) := dk_29 (dk_at dksX5_mul_1 14 rfl rfl)
theorem dX5_mul_39 : decode cX5_mul 39 = .ok (.iconst 4, 1) := dk_7 (dk_at dksX5_mul_1 15 rfl rfl)
theorem dX5_mul_40 : decode cX5_mul 40 = .ok (.ishr, 1) := dk_122 (dk_at dksX5_mul_1 16 rfl rfl)
theorem dX5_mul_41 : decode cX5_mul 41 = .ok (.ixor, 1) := dk_130 (dk_at dksX5_mul_1 17 rfl rfl)
theorem dX5_mul_42 : decode cX5_mul 42 = .ok (.iload_n 3, 1) := dk_29 (dk_at dksX5_mul_1 18 rfl rfl)
theorem dX5_mul_43 : decode cX5_mul 43 = .ok (.iconst 3, 1) := dk_6 (dk_at dksX5_mul_1 19 rfl rfl)
theorem dX5_mul_44 : decode cX5_mul 44 = .ok (.ishr, 1) := dk_122 (dk_at dksX5_mul_1 20 rfl rfl)
theorem dX5_mul_45 : decode cX5_mul 45 = .ok (.ixor, 1) := dk_130 (dk_at dksX5_mul_1 21 rfl rfl)
theorem dX5_mul_46 : decode cX5_mul 46 = .ok (.bipush 15, 2) := dk_16 15 (dk_at dksX5_mul_1 22 rfl rfl)
theorem dX5_mul_48 : decode cX5_mul 48 = .ok (.iand, 1) := dk_126 (dk_at dksX5_mul_2 0 rfl rfl)
theorem dX5_mul_49 : decode cX5_mul 49 = .ok (.ireturn, 1) := dk_172 (dk_at dksX5_mul_2 1 rfl rfl)
abbrev cX5_mulAddStep16 : ByteArray := prog_2_method_2_code
def yX5_mulAddStep16 : MethodName := ⟨RX5, "mulAddStep16", "(JJJJJ)J"⟩
def dkwX5_mulAddStep16_4 : List UInt8 := [121, 97, 131, 63, 22, 10, 30, 22, 8, 127, 131, 55, 10, 22, 10, 173]
abbrev dktX5_mulAddStep16_4 : List UInt8 := dkwX5_mulAddStep16_4 ++ []
def dkwX5_mulAddStep16_3 : List UInt8 := [131, 55, 10, 30, 20, 0, 9, 127, 6, 125, 55, 12, 30, 20, 0, 11, 127, 4, 121, 22, 12, 22, 12, 4]
abbrev dktX5_mulAddStep16_3 : List UInt8 := dkwX5_mulAddStep16_3 ++ dktX5_mulAddStep16_4
def dkwX5_mulAddStep16_2 : List UInt8 := [55, 12, 30, 20, 0, 11, 127, 4, 121, 22, 12, 22, 12, 4, 121, 97, 131, 63, 22, 10, 30, 22, 6, 127]
abbrev dktX5_mulAddStep16_2 : List UInt8 := dkwX5_mulAddStep16_2 ++ dktX5_mulAddStep16_3
def dkwX5_mulAddStep16_1 : List UInt8 := [22, 12, 4, 121, 97, 131, 63, 22, 10, 30, 22, 4, 127, 131, 55, 10, 30, 20, 0, 9, 127, 6, 125]
abbrev dktX5_mulAddStep16_1 : List UInt8 := dkwX5_mulAddStep16_1 ++ dktX5_mulAddStep16_2
def dkwX5_mulAddStep16_0 : List UInt8 := [30, 32, 127, 55, 10, 30, 20, 0, 9, 127, 6, 125, 55, 12, 30, 20, 0, 11, 127, 4, 121, 22, 12]
abbrev dktX5_mulAddStep16_0 : List UInt8 := dkwX5_mulAddStep16_0 ++ dktX5_mulAddStep16_1
theorem dksX5_mulAddStep16_0 : cX5_mulAddStep16.data.toList.drop 0 = dktX5_mulAddStep16_0 := by decide +kernel
theorem dksX5_mulAddStep16_1 : cX5_mulAddStep16.data.toList.drop 23 = dktX5_mulAddStep16_1 := dk_seg dksX5_mulAddStep16_0 23 rfl rfl
theorem dksX5_mulAddStep16_2 : cX5_mulAddStep16.data.toList.drop 46 = dktX5_mulAddStep16_2 := dk_seg dksX5_mulAddStep16_1 23 rfl rfl
theorem dksX5_mulAddStep16_3 : cX5_mulAddStep16.data.toList.drop 70 = dktX5_mulAddStep16_3 := dk_seg dksX5_mulAddStep16_2 24 rfl rfl
theorem dksX5_mulAddStep16_4 : cX5_mulAddStep16.data.toList.drop 94 = dktX5_mulAddStep16_4 := dk_seg dksX5_mulAddStep16_3 24 rfl rfl
theorem dX5_mulAddStep16_0 : decode cX5_mulAddStep16 0 = .ok (.lload_n 0, 1) := dk_30 (dk_at dksX5_mulAddStep16_0 0 rfl rfl)
theorem dX5_mulAddStep16_1 : decode cX5_mulAddStep16 1 = .ok (.lload_n 2, 1) := dk_32 (dk_at dksX5_mulAddStep16_0 1 rfl rfl)
theorem dX5_mulAddStep16_2 : decode cX5_mulAddStep16 2 = .ok (.land, 1) := dk_127 (dk_at dksX5_mulAddStep16_0 2 rfl rfl)
theorem dX5_mulAddStep16_3 : decode cX5_mulAddStep16 3 = .ok (.lstore 10, 2) := dk_55 10 (dk_at dksX5_mulAddStep16_0 3 rfl rfl)
theorem dX5_mulAddStep16_5 : decode cX5_mulAddStep16 5 = .ok (.lload_n 0, 1) := dk_30 (dk_at dksX5_mulAddStep16_0 5 rfl rfl)
theorem dX5_mulAddStep16_6 : decode cX5_mulAddStep16 6 = .ok (.ldc2_w 9, 3) := dk_20 0 9 (dk_at dksX5_mulAddStep16_0 6 rfl rfl)
theorem dX5_mulAddStep16_9 : decode cX5_mulAddStep16 9 = .ok (.land, 1) := dk_127 (dk_at dksX5_mulAddStep16_0 9 rfl rfl)
theorem dX5_mulAddStep16_10 : decode cX5_mulAddStep16 10 = .ok (.iconst 3, 1) := dk_6 (dk_at dksX5_mulAddStep16_0 10 rfl rfl)
theorem dX5_mulAddStep16_11 : decode cX5_mulAddStep16 11 = .ok (.lushr, 1) := dk_125 (dk_at dksX5_mulAddStep16_0 11 rfl rfl)
theorem dX5_mulAddStep16_12 : decode cX5_mulAddStep16 12 = .ok (.lstore 12, 2) := dk_55 12 (dk_at dksX5_mulAddStep16_0 12 rfl rfl)
theorem dX5_mulAddStep16_14 : decode cX5_mulAddStep16 14 = .ok (.lload_n 0, 1) := dk_30 (dk_at dksX5_mulAddStep16_0 14 rfl rfl)
theorem dX5_mulAddStep16_15 : decode cX5_mulAddStep16 15 = .ok (.ldc2_w 11, 3) := dk_20 0 11 (dk_at dksX5_mulAddStep16_0 15 rfl rfl)
theorem dX5_mulAddStep16_18 : decode cX5_mulAddStep16 18 = .ok (.land, 1) := dk_127 (dk_at dksX5_mulAddStep16_0 18 rfl rfl)
theorem dX5_mulAddStep16_19 : decode cX5_mulAddStep16 19 = .ok (.iconst 1, 1) := dk_4 (dk_at dksX5_mulAddStep16_0 19 rfl rfl)
theorem dX5_mulAddStep16_20 : decode cX5_mulAddStep16 20 = .ok (.lshl, 1) := dk_121 (dk_at dksX5_mulAddStep16_0 20 rfl rfl)
theorem dX5_mulAddStep16_21 : decode cX5_mulAddStep16 21 = .ok (.lload 12, 2) := dk_22 12 (dk_at dksX5_mulAddStep16_0 21 rfl rfl)
theorem dX5_mulAddStep16_23 : decode cX5_mulAddStep16 23 = .ok (.lload 12, 2) := dk_22 12 (dk_at dksX5_mulAddStep16_1 0 rfl rfl)
theorem dX5_mulAddStep16_25 : decode cX5_mulAddStep16 25 = .ok (.iconst 1, 1) := dk_4 (dk_at dksX5_mulAddStep16_1 2 rfl rfl)
theorem dX5_mulAddStep16_26 : decode cX5_mulAddStep16 26 = .ok (.lshl, 1) := dk_121 (dk_at dksX5_mulAddStep16_1 3 rfl rfl)
theorem dX5_mulAddStep16_27 : decode cX5_mulAddStep16 27 = .ok (.ladd, 1) := dk_97 (dk_at dksX5_mulAddStep16_1 4 rfl rfl)
theorem dX5_mulAddStep16_28 : decode cX5_mulAddStep16 28 = .ok (.lxor, 1) := dk_131 (dk_at dksX5_mulAddStep16_1 5 rfl rfl)
theorem dX5_mulAddStep16_29 : decode cX5_mulAddStep16 29 = .ok (.lstore_n 0, 1) := dk_63 (dk_at dksX5_mulAddStep16_1 6 rfl rfl)
theorem dX5_mulAddStep16_30 : decode cX5_mulAddStep16 30 = .ok (.lload 10, 2) := dk_22 10 (dk_at dksX5_mulAddStep16_1 7 rfl rfl)
theorem dX5_mulAddStep16_32 : decode cX5_mulAddStep16 32 = .ok (.lload_n 0, 1) := dk_30 (dk_at dksX5_mulAddStep16_1 9 rfl rfl)
theorem dX5_mulAddStep16_33 : decode cX5_mulAddStep16 33 = .ok (.lload 4, 2) := dk_22 4 (dk_at dksX5_mulAddStep16_1 10 rfl rfl)
theorem dX5_mulAddStep16_35 : decode cX5_mulAddStep16 35 = .ok (.land, 1) := dk_127 (dk_at dksX5_mulAddStep16_1 12 rfl rfl)
theorem dX5_mulAddStep16_36 : decode cX5_mulAddStep16 36 = .ok (.lxor, 1) := dk_131 (dk_at dksX5_mulAddStep16_1 13 rfl rfl)
theorem dX5_mulAddStep16_37 : decode cX5_mulAddStep16 37 = .ok (.lstore 10, 2) := dk_55 10 (dk_at dksX5_mulAddStep16_1 14 rfl rfl)
theorem dX5_mulAddStep16_39 : decode cX5_mulAddStep16 39 = .ok (.lload_n 0, 1) := dk_30 (dk_at dksX5_mulAddStep16_1 16 rfl rfl)
theorem dX5_mulAddStep16_40 : decode cX5_mulAddStep16 40 = .ok (.ldc2_w 9, 3) := dk_20 0 9 (dk_at dksX5_mulAddStep16_1 17 rfl rfl)
theorem dX5_mulAddStep16_43 : decode cX5_mulAddStep16 43 = .ok (.land, 1) := dk_127 (dk_at dksX5_mulAddStep16_1 20 rfl rfl)
theorem dX5_mulAddStep16_44 : decode cX5_mulAddStep16 44 = .ok (.iconst 3, 1) := dk_6 (dk_at dksX5_mulAddStep16_1 21 rfl rfl)
theorem dX5_mulAddStep16_45 : decode cX5_mulAddStep16 45 = .ok (.lushr, 1) := dk_125 (dk_at dksX5_mulAddStep16_1 22 rfl rfl)
theorem dX5_mulAddStep16_46 : decode cX5_mulAddStep16 46 = .ok (.lstore 12, 2) := dk_55 12 (dk_at dksX5_mulAddStep16_2 0 rfl rfl)
theorem dX5_mulAddStep16_48 : decode cX5_mulAddStep16 48 = .ok (.lload_n 0, 1) := dk_30 (dk_at dksX5_mulAddStep16_2 2 rfl rfl)
theorem dX5_mulAddStep16_49 : decode cX5_mulAddStep16 49 = .ok (.ldc2_w 11, 3) := dk_20 0 11 (dk_at dksX5_mulAddStep16_2 3 rfl rfl)
theorem dX5_mulAddStep16_52 : decode cX5_mulAddStep16 52 = .ok (.land, 1) := dk_127 (dk_at dksX5_mulAddStep16_2 6 rfl rfl)
theorem dX5_mulAddStep16_53 : decode cX5_mulAddStep16 53 = .ok (.iconst 1, 1) := dk_4 (dk_at dksX5_mulAddStep16_2 7 rfl rfl)
theorem dX5_mulAddStep16_54 : decode cX5_mulAddStep16 54 = .ok (.lshl, 1) := dk_121 (dk_at dksX5_mulAddStep16_2 8 rfl rfl)
theorem dX5_mulAddStep16_55 : decode cX5_mulAddStep16 55 = .ok (.lload 12, 2) := dk_22 12 (dk_at dksX5_mulAddStep16_2 9 rfl rfl)
theorem dX5_mulAddStep16_57 : decode cX5_mulAddStep16 57 = .ok (.lload 12, 2) := dk_22 12 (dk_at dksX5_mulAddStep16_2 11 rfl rfl)
theorem dX5_mulAddStep16_59 : decode cX5_mulAddStep16 59 = .ok (.iconst 1, 1) := dk_4 (dk_at dksX5_mulAddStep16_2 13 rfl rfl)
theorem dX5_mulAddStep16_60 : decode cX5_mulAddStep16 60 = .ok (.lshl, 1) := dk_121 (dk_at dksX5_mulAddStep16_2 14 rfl rfl)
theorem dX5_mulAddStep16_61 : decode cX5_mulAddStep16 61 = .ok (.ladd, 1) := dk_97 (dk_at dksX5_mulAddStep16_2 15 rfl rfl)
theorem dX5_mulAddStep16_62 : decode cX5_mulAddStep16 62 = .ok (.lxor, 1) := dk_131 (dk_at dksX5_mulAddStep16_2 16 rfl rfl)
theorem dX5_mulAddStep16_63 : decode cX5_mulAddStep16 63 = .ok (.lstore_n 0, 1) := dk_63 (dk_at dksX5_mulAddStep16_2 17 rfl rfl)
theorem dX5_mulAddStep16_64 : decode cX5_mulAddStep16 64 = .ok (.lload 10, 2) := dk_22 10 (dk_at dksX5_mulAddStep16_2 18 rfl rfl)
theorem dX5_mulAddStep16_66 : decode cX5_mulAddStep16 66 = .ok (.lload_n 0, 1) := dk_30 (dk_at dksX5_mulAddStep16_2 20 rfl rfl)
theorem dX5_mulAddStep16_67 : decode cX5_mulAddStep16 67 = .ok (.lload 6, 2) := dk_22 6 (dk_at dksX5_mulAddStep16_2 21 rfl rfl)
theorem dX5_mulAddStep16_69 : decode cX5_mulAddStep16 69 = .ok (.land, 1) := dk_127 (dk_at dksX5_mulAddStep16_2 23 rfl rfl)
theorem dX5_mulAddStep16_70 : decode cX5_mulAddStep16 70 = .ok (.lxor, 1) := dk_131 (dk_at dksX5_mulAddStep16_3 0 rfl rfl)
theorem dX5_mulAddStep16_71 : decode cX5_mulAddStep16 71 = .ok (.lstore 10, 2) := dk_55 10 (dk_at dksX5_mulAddStep16_3 1 rfl rfl)
theorem dX5_mulAddStep16_73 : decode cX5_mulAddStep16 73 = .ok (.lload_n 0, 1) := dk_30 (dk_at dksX5_mulAddStep16_3 3 rfl rfl)
theorem dX5_mulAddStep16_74 : decode cX5_mulAddStep16 74 = .ok (.ldc2_w 9, 3) := dk_20 0 9 (dk_at dksX5_mulAddStep16_3 4 rfl rfl)
theorem dX5_mulAddStep16_77 : decode cX5_mulAddStep16 77 = .ok (.land, 1) := dk_127 (dk_at dksX5_mulAddStep16_3 7 rfl rfl)
theorem dX5_mulAddStep16_78 : decode cX5_mulAddStep16 78 = .ok (.iconst 3, 1) := dk_6 (dk_at dksX5_mulAddStep16_3 8 rfl rfl)
theorem dX5_mulAddStep16_79 : decode cX5_mulAddStep16 79 = .ok (.lushr, 1) := dk_125 (dk_at dksX5_mulAddStep16_3 9 rfl rfl)
theorem dX5_mulAddStep16_80 : decode cX5_mulAddStep16 80 = .ok (.lstore 12, 2) := dk_55 12 (dk_at dksX5_mulAddStep16_3 10 rfl rfl)
theorem dX5_mulAddStep16_82 : decode cX5_mulAddStep16 82 = .ok (.lload_n 0, 1) := dk_30 (dk_at dksX5_mulAddStep16_3 12 rfl rfl)
theorem dX5_mulAddStep16_83 : decode cX5_mulAddStep16 83 = .ok (.ldc2_w 11, 3) := dk_20 0 11 (dk_at dksX5_mulAddStep16_3 13 rfl rfl)
theorem dX5_mulAddStep16_86 : decode cX5_mulAddStep16 86 = .ok (.land, 1) := dk_127 (dk_at dksX5_mulAddStep16_3 16 rfl rfl)
theorem dX5_mulAddStep16_87 : decode cX5_mulAddStep16 87 = .ok (.iconst 1, 1) := dk_4 (dk_at dksX5_mulAddStep16_3 17 rfl rfl)
theorem dX5_mulAddStep16_88 : decode cX5_mulAddStep16 88 = .ok (.lshl, 1) := dk_121 (dk_at dksX5_mulAddStep16_3 18 rfl rfl)
theorem dX5_mulAddStep16_89 : decode cX5_mulAddStep16 89 = .ok (.lload 12, 2) := dk_22 12 (dk_at dksX5_mulAddStep16_3 19 rfl rfl)
theorem dX5_mulAddStep16_91 : decode cX5_mulAddStep16 91 = .ok (.lload 12, 2) := dk_22 12 (dk_at dksX5_mulAddStep16_3 21 rfl rfl)
theorem dX5_mulAddStep16_93 : decode cX5_mulAddStep16 93 = .ok (.iconst 1, 1) := dk_4 (dk_at dksX5_mulAddStep16_3 23 rfl rfl)
theorem dX5_mulAddStep16_94 : decode cX5_mulAddStep16 94 = .ok (.lshl, 1) := dk_121 (dk_at dksX5_mulAddStep16_4 0 rfl rfl)
theorem dX5_mulAddStep16_95 : decode cX5_mulAddStep16 95 = .ok (.ladd, 1) := dk_97 (dk_at dksX5_mulAddStep16_4 1 rfl rfl)
theorem dX5_mulAddStep16_96 : decode cX5_mulAddStep16 96 = .ok (.lxor, 1) := dk_131 (dk_at dksX5_mulAddStep16_4 2 rfl rfl)
theorem dX5_mulAddStep16_97 : decode cX5_mulAddStep16 97 = .ok (.lstore_n 0, 1) := dk_63 (dk_at dksX5_mulAddStep16_4 3 rfl rfl)
theorem dX5_mulAddStep16_98 : decode cX5_mulAddStep16 98 = .ok (.lload 10, 2) := dk_22 10 (dk_at dksX5_mulAddStep16_4 4 rfl rfl)
theorem dX5_mulAddStep16_100 : decode cX5_mulAddStep16 100 = .ok (.lload_n 0, 1) := dk_30 (dk_at dksX5_mulAddStep16_4 6 rfl rfl)
theorem dX5_mulAddStep16_101 : decode cX5_mulAddStep16 101 = .ok (.lload 8, 2) := dk_22 8 (dk_at dksX5_mulAddStep16_4 7 rfl rfl)
theorem dX5_mulAddStep16_103 : decode cX5_mulAddStep16 103 = .ok (.land, 1) := dk_127 (dk_at dksX5_mulAddStep16_4 9 rfl rfl)
theorem dX5_mulAddStep16_104 : decode cX5_mulAddStep16 104 = .ok (.lxor, 1) := dk_131 (dk_at dksX5_mulAddStep16_4 10 rfl rfl)
theorem dX5_mulAddStep16_105 : decode cX5_mulAddStep16 105 = .ok (.lstore 10, 2) := dk_55 10 (dk_at dksX5_mulAddStep16_4 11 rfl rfl)
theorem dX5_mulAddStep16_107 : decode cX5_mulAddStep16 107 = .ok (.lload 10, 2) := dk_22 10 (dk_at dksX5_mulAddStep16_4 13 rfl rfl)
theorem dX5_mulAddStep16_109 : decode cX5_mulAddStep16 109 = .ok (.lreturn, 1) := dk_173 (dk_at dksX5_mulAddStep16_4 15 rfl rfl)
theorem q9 : (Jvm.Cond.initialized "GF16") ∈ lw_all := lw_g (lw_at lw_m0 6 rfl) rfl
theorem q84 : (Jvm.Cond.static ({ cls := "GF16", name := "mul", desc := "(II)I" } : Jvm.MethodName)) ∈ lw_all := lw_g (lw_at lw_m0 81 rfl) rfl
theorem q85 : (Jvm.Cond.code ({ cls := "GF16", name := "mul", desc := "(II)I" } : Jvm.MethodName) prog_2_method_3_code (4 : Nat) (Option.some Jvm.ClassFile.FieldType.int)) ∈ lw_all := lw_g (lw_at lw_m0 82 rfl) rfl
theorem q101 : (Jvm.Cond.static ({ cls := "GF16", name := "mulAddStep16", desc := "(JJJJJ)J" } : Jvm.MethodName)) ∈ lw_all := lw_g (lw_at lw_m0 98 rfl) rfl
theorem q102 : (Jvm.Cond.code ({ cls := "GF16", name := "mulAddStep16", desc := "(JJJJJ)J" } : Jvm.MethodName) prog_2_method_2_code (14 : Nat) (Option.some Jvm.ClassFile.FieldType.long)) ∈ lw_all := lw_g (lw_at lw_m0 99 rfl) rfl
theorem q103 : (Jvm.Cond.constantLong "GF16" (9 : Nat) (-8608480567731124088 : Int64)) ∈ lw_all := lw_g (lw_at lw_m0 100 rfl) rfl
theorem q104 : (Jvm.Cond.constantLong "GF16" (11 : Nat) (8608480567731124087 : Int64)) ∈ lw_all := lw_g (lw_at lw_m0 101 rfl) rfl
/-! GF256AES -/
set_option maxRecDepth 100000
def RX4 : String := "GF256AES"
abbrev cX4_mulFx8 : ByteArray := prog_3_method_2_code
def yX4_mulFx8 : MethodName := ⟨RX4, "mulFx8", "(IJ)J"⟩
def dkwX4_mulFx8_2 : List UInt8 := [64, 33, 31, 26, 21, 5, 124, 4, 126, 133, 117, 127, 131, 66, 132, 5, 1, 167, 255, 208, 33, 173]
abbrev dktX4_mulFx8_2 : List UInt8 := dkwX4_mulFx8_2 ++ []
def dkwX4_mulFx8_1 : List UInt8 := [31, 16, 7, 125, 20, 0, 1, 127, 55, 6, 31, 4, 121, 20, 0, 3, 127, 22, 6, 20, 0, 5, 105, 131]
abbrev dktX4_mulFx8_1 : List UInt8 := dkwX4_mulFx8_1 ++ dktX4_mulFx8_2
def dkwX4_mulFx8_0 : List UInt8 := [26, 17, 0, 255, 126, 59, 31, 26, 4, 126, 133, 117, 127, 66, 4, 54, 5, 21, 5, 16, 8, 162, 0, 47]
abbrev dktX4_mulFx8_0 : List UInt8 := dkwX4_mulFx8_0 ++ dktX4_mulFx8_1
theorem dksX4_mulFx8_0 : cX4_mulFx8.data.toList.drop 0 = dktX4_mulFx8_0 := by decide +kernel
theorem dksX4_mulFx8_1 : cX4_mulFx8.data.toList.drop 24 = dktX4_mulFx8_1 := dk_seg dksX4_mulFx8_0 24 rfl rfl
theorem dksX4_mulFx8_2 : cX4_mulFx8.data.toList.drop 48 = dktX4_mulFx8_2 := dk_seg dksX4_mulFx8_1 24 rfl rfl
theorem dX4_mulFx8_0 : decode cX4_mulFx8 0 = .ok (.iload_n 0, 1) := dk_26 (dk_at dksX4_mulFx8_0 0 rfl rfl)
theorem dX4_mulFx8_1 : decode cX4_mulFx8 1 = .ok (.sipush 255, 3) := dk_17 0 255 (dk_at dksX4_mulFx8_0 1 rfl rfl)
theorem dX4_mulFx8_4 : decode cX4_mulFx8 4 = .ok (.iand, 1) := dk_126 (dk_at dksX4_mulFx8_0 4 rfl rfl)
theorem dX4_mulFx8_5 : decode cX4_mulFx8 5 = .ok (.istore_n 0, 1) := dk_59 (dk_at dksX4_mulFx8_0 5 rfl rfl)
theorem dX4_mulFx8_6 : decode cX4_mulFx8 6 = .ok (.lload_n 1, 1) := dk_31 (dk_at dksX4_mulFx8_0 6 rfl rfl)
theorem dX4_mulFx8_7 : decode cX4_mulFx8 7 = .ok (.iload_n 0, 1) := dk_26 (dk_at dksX4_mulFx8_0 7 rfl rfl)
theorem dX4_mulFx8_8 : decode cX4_mulFx8 8 = .ok (.iconst 1, 1) := dk_4 (dk_at dksX4_mulFx8_0 8 rfl rfl)
theorem dX4_mulFx8_9 : decode cX4_mulFx8 9 = .ok (.iand, 1) := dk_126 (dk_at dksX4_mulFx8_0 9 rfl rfl)
theorem dX4_mulFx8_10 : decode cX4_mulFx8 10 = .ok (.i2l, 1) := dk_133 (dk_at dksX4_mulFx8_0 10 rfl rfl)
theorem dX4_mulFx8_11 : decode cX4_mulFx8 11 = .ok (.lneg, 1) := dk_117 (dk_at dksX4_mulFx8_0 11 rfl rfl)
theorem dX4_mulFx8_12 : decode cX4_mulFx8 12 = .ok (.land, 1) := dk_127 (dk_at dksX4_mulFx8_0 12 rfl rfl)
theorem dX4_mulFx8_13 : decode cX4_mulFx8 13 = .ok (.lstore_n 3, 1) := dk_66 (dk_at dksX4_mulFx8_0 13 rfl rfl)
theorem dX4_mulFx8_14 : decode cX4_mulFx8 14 = .ok (.iconst 1, 1) := dk_4 (dk_at dksX4_mulFx8_0 14 rfl rfl)
theorem dX4_mulFx8_15 : decode cX4_mulFx8 15 = .ok (.istore 5, 2) := dk_54 5 (dk_at dksX4_mulFx8_0 15 rfl rfl)
theorem dX4_mulFx8_17 : decode cX4_mulFx8 17 = .ok (.iload 5, 2) := dk_21 5 (dk_at dksX4_mulFx8_0 17 rfl rfl)
theorem dX4_mulFx8_19 : decode cX4_mulFx8 19 = .ok (.bipush 8, 2) := dk_16 8 (dk_at dksX4_mulFx8_0 19 rfl rfl)
theorem dX4_mulFx8_21 : decode cX4_mulFx8 21 = .ok (.if_icmp .ge 47, 3) := dk_162 0 47 (dk_at dksX4_mulFx8_0 21 rfl rfl)
theorem dX4_mulFx8_24 : decode cX4_mulFx8 24 = .ok (.lload_n 1, 1) := dk_31 (dk_at dksX4_mulFx8_1 0 rfl rfl)
theorem dX4_mulFx8_25 : decode cX4_mulFx8 25 = .ok (.bipush 7, 2) := dk_16 7 (dk_at dksX4_mulFx8_1 1 rfl rfl)
theorem dX4_mulFx8_27 : decode cX4_mulFx8 27 = .ok (.lushr, 1) := dk_125 (dk_at dksX4_mulFx8_1 3 rfl rfl)
theorem dX4_mulFx8_28 : decode cX4_mulFx8 28 = .ok (.ldc2_w 1, 3) := dk_20 0 1 (dk_at dksX4_mulFx8_1 4 rfl rfl)
theorem dX4_mulFx8_31 : decode cX4_mulFx8 31 = .ok (.land, 1) := dk_127 (dk_at dksX4_mulFx8_1 7 rfl rfl)
theorem dX4_mulFx8_32 : decode cX4_mulFx8 32 = .ok (.lstore 6, 2) := dk_55 6 (dk_at dksX4_mulFx8_1 8 rfl rfl)
theorem dX4_mulFx8_34 : decode cX4_mulFx8 34 = .ok (.lload_n 1, 1) := dk_31 (dk_at dksX4_mulFx8_1 10 rfl rfl)
theorem dX4_mulFx8_35 : decode cX4_mulFx8 35 = .ok (.iconst 1, 1) := dk_4 (dk_at dksX4_mulFx8_1 11 rfl rfl)
theorem dX4_mulFx8_36 : decode cX4_mulFx8 36 = .ok (.lshl, 1) := dk_121 (dk_at dksX4_mulFx8_1 12 rfl rfl)
theorem dX4_mulFx8_37 : decode cX4_mulFx8 37 = .ok (.ldc2_w 3, 3) := dk_20 0 3 (dk_at dksX4_mulFx8_1 13 rfl rfl)
theorem dX4_mulFx8_40 : decode cX4_mulFx8 40 = .ok (.land, 1) := dk_127 (dk_at dksX4_mulFx8_1 16 rfl rfl)
theorem dX4_mulFx8_41 : decode cX4_mulFx8 41 = .ok (.lload 6, 2) := dk_22 6 (dk_at dksX4_mulFx8_1 17 rfl rfl)
theorem dX4_mulFx8_43 : decode cX4_mulFx8 43 = .ok (.ldc2_w 5, 3) := dk_20 0 5 (dk_at dksX4_mulFx8_1 19 rfl rfl)
theorem dX4_mulFx8_46 : decode cX4_mulFx8 46 = .ok (.lmul, 1) := dk_105 (dk_at dksX4_mulFx8_1 22 rfl rfl)
theorem dX4_mulFx8_47 : decode cX4_mulFx8 47 = .ok (.lxor, 1) := dk_131 (dk_at dksX4_mulFx8_1 23 rfl rfl)
theorem dX4_mulFx8_48 : decode cX4_mulFx8 48 = .ok (.lstore_n 1, 1) := dk_64 (dk_at dksX4_mulFx8_2 0 rfl rfl)
theorem dX4_mulFx8_49 : decode cX4_mulFx8 49 = .ok (.lload_n 3, 1) := dk_33 (dk_at dksX4_mulFx8_2 1 rfl rfl)
theorem dX4_mulFx8_50 : decode cX4_mulFx8 50 = .ok (.lload_n 1, 1) := dk_31 (dk_at dksX4_mulFx8_2 2 rfl rfl)
theorem dX4_mulFx8_51 : decode cX4_mulFx8 51 = .ok (.iload_n 0, 1) := dk_26 (dk_at dksX4_mulFx8_2 3 rfl rfl)
theorem dX4_mulFx8_52 : decode cX4_mulFx8 52 = .ok (.iload 5, 2) := dk_21 5 (dk_at dksX4_mulFx8_2 4 rfl rfl)
theorem dX4_mulFx8_54 : decode cX4_mulFx8 54 = .ok (.iushr, 1) := dk_124 (dk_at dksX4_mulFx8_2 6 rfl rfl)
theorem dX4_mulFx8_55 : decode cX4_mulFx8 55 = .ok (.iconst 1, 1) := dk_4 (dk_at dksX4_mulFx8_2 7 rfl rfl)
theorem dX4_mulFx8_56 : decode cX4_mulFx8 56 = .ok (.iand, 1) := dk_126 (dk_at dksX4_mulFx8_2 8 rfl rfl)
theorem dX4_mulFx8_57 : decode cX4_mulFx8 57 = .ok (.i2l, 1) := dk_133 (dk_at dksX4_mulFx8_2 9 rfl rfl)
theorem dX4_mulFx8_58 : decode cX4_mulFx8 58 = .ok (.lneg, 1) := dk_117 (dk_at dksX4_mulFx8_2 10 rfl rfl)
theorem dX4_mulFx8_59 : decode cX4_mulFx8 59 = .ok (.land, 1) := dk_127 (dk_at dksX4_mulFx8_2 11 rfl rfl)
theorem dX4_mulFx8_60 : decode cX4_mulFx8 60 = .ok (.lxor, 1) := dk_131 (dk_at dksX4_mulFx8_2 12 rfl rfl)
theorem dX4_mulFx8_61 : decode cX4_mulFx8 61 = .ok (.lstore_n 3, 1) := dk_66 (dk_at dksX4_mulFx8_2 13 rfl rfl)
theorem dX4_mulFx8_62 : decode cX4_mulFx8 62 = .ok (.iinc 5 1, 3) := dk_132 5 1 (dk_at dksX4_mulFx8_2 14 rfl rfl)
theorem dX4_mulFx8_65 : decode cX4_mulFx8 65 = .ok (.goto (-48), 3) := dk_167 255 208 (dk_at dksX4_mulFx8_2 17 rfl rfl)
theorem dX4_mulFx8_68 : decode cX4_mulFx8 68 = .ok (.lload_n 3, 1) := dk_33 (dk_at dksX4_mulFx8_2 20 rfl rfl)
theorem dX4_mulFx8_69 : decode cX4_mulFx8 69 = .ok (.lreturn, 1) := dk_173 (dk_at dksX4_mulFx8_2 21 rfl rfl)
abbrev cX4_mul : ByteArray := prog_3_method_1_code
def yX4_mul : MethodName := ⟨RX4, "mul", "(II)I"⟩
def dkwX4_mul_6 : List UInt8 := [120, 130, 54, 5, 29, 21, 5, 130, 62, 29, 172]
abbrev dktX4_mul_6 : List UInt8 := dkwX4_mul_6 ++ []
def dkwX4_mul_5 : List UInt8 := [54, 5, 29, 28, 130, 17, 0, 255, 126, 62, 21, 5, 21, 5, 4, 120, 130, 54, 5, 21, 5, 21, 5, 6]
abbrev dktX4_mul_5 : List UInt8 := dkwX4_mul_5 ++ dktX4_mul_6
def dkwX4_mul_4 : List UInt8 := [4, 120, 130, 54, 4, 21, 4, 21, 4, 6, 120, 130, 54, 4, 29, 21, 4, 130, 62, 29, 16, 8, 124]
abbrev dktX4_mul_4 : List UInt8 := dkwX4_mul_4 ++ dktX4_mul_5
def dkwX4_mul_3 : List UInt8 := [116, 126, 130, 27, 6, 120, 26, 16, 8, 126, 116, 126, 130, 62, 28, 16, 8, 124, 54, 4, 21, 4, 21, 4]
abbrev dktX4_mul_3 : List UInt8 := dkwX4_mul_3 ++ dktX4_mul_4
def dkwX4_mul_2 : List UInt8 := [61, 27, 3, 120, 26, 4, 126, 116, 126, 27, 4, 120, 26, 5, 126, 116, 126, 130, 27, 5, 120, 26, 7, 126]
abbrev dktX4_mul_2 : List UInt8 := dkwX4_mul_2 ++ dktX4_mul_3
def dkwX4_mul_1 : List UInt8 := [130, 27, 16, 6, 120, 26, 16, 64, 126, 116, 126, 130, 27, 16, 7, 120, 26, 17, 0, 128, 126, 116, 126, 130]
abbrev dktX4_mul_1 : List UInt8 := dkwX4_mul_1 ++ dktX4_mul_2
def dkwX4_mul_0 : List UInt8 := [27, 17, 0, 255, 126, 60, 27, 7, 120, 26, 16, 16, 126, 116, 126, 27, 8, 120, 26, 16, 32, 126, 116, 126]
abbrev dktX4_mul_0 : List UInt8 := dkwX4_mul_0 ++ dktX4_mul_1
theorem dksX4_mul_0 : cX4_mul.data.toList.drop 0 = dktX4_mul_0 := by decide +kernel
theorem dksX4_mul_1 : cX4_mul.data.toList.drop 24 = dktX4_mul_1 := dk_seg dksX4_mul_0 24 rfl rfl
theorem dksX4_mul_2 : cX4_mul.data.toList.drop 48 = dktX4_mul_2 := dk_seg dksX4_mul_1 24 rfl rfl
theorem dksX4_mul_3 : cX4_mul.data.toList.drop 72 = dktX4_mul_3 := dk_seg dksX4_mul_2 24 rfl rfl
theorem dksX4_mul_4 : cX4_mul.data.toList.drop 96 = dktX4_mul_4 := dk_seg dksX4_mul_3 24 rfl rfl
theorem dksX4_mul_5 : cX4_mul.data.toList.drop 119 = dktX4_mul_5 := dk_seg dksX4_mul_4 23 rfl rfl
theorem dksX4_mul_6 : cX4_mul.data.toList.drop 143 = dktX4_mul_6 := dk_seg dksX4_mul_5 24 rfl rfl
theorem dX4_mul_0 : decode cX4_mul 0 = .ok (.iload_n 1, 1) := dk_27 (dk_at dksX4_mul_0 0 rfl rfl)
theorem dX4_mul_1 : decode cX4_mul 1 = .ok (.sipush 255, 3) := dk_17 0 255 (dk_at dksX4_mul_0 1 rfl rfl)
theorem dX4_mul_4 : decode cX4_mul 4 = .ok (.iand, 1) := dk_126 (dk_at dksX4_mul_0 4 rfl rfl)
theorem dX4_mul_5 : decode cX4_mul 5 = .ok (.istore_n 1, 1) := dk_60 (dk_at dksX4_mul_0 5 rfl rfl)
theorem dX4_mul_6 : decode cX4_mul 6 = .ok (.iload_n 1, 1) := dk_27 (dk_at dksX4_mul_0 6 rfl rfl)
theorem dX4_mul_7 : decode cX4_mul 7 = .ok (.iconst 4, 1) := dk_7 (dk_at dksX4_mul_0 7 rfl rfl)
theorem dX4_mul_8 : decode cX4_mul 8 = .ok (.ishl, 1) := dk_120 (dk_at dksX4_mul_0 8 rfl rfl)
theorem dX4_mul_9 : decode cX4_mul 9 = .ok (.iload_n 0, 1) := dk_26 (dk_at dksX4_mul_0 9 rfl rfl)
theorem dX4_mul_10 : decode cX4_mul 10 = .ok (.bipush 16, 2) := dk_16 16 (dk_at dksX4_mul_0 10 rfl rfl)
theorem dX4_mul_12 : decode cX4_mul 12 = .ok (.iand, 1) := dk_126 (dk_at dksX4_mul_0 12 rfl rfl)
theorem dX4_mul_13 : decode cX4_mul 13 = .ok (.ineg, 1) := dk_116 (dk_at dksX4_mul_0 13 rfl rfl)
theorem dX4_mul_14 : decode cX4_mul 14 = .ok (.iand, 1) := dk_126 (dk_at dksX4_mul_0 14 rfl rfl)
theorem dX4_mul_15 : decode cX4_mul 15 = .ok (.iload_n 1, 1) := dk_27 (dk_at dksX4_mul_0 15 rfl rfl)
theorem dX4_mul_16 : decode cX4_mul 16 = .ok (.iconst 5, 1) := dk_8 (dk_at dksX4_mul_0 16 rfl rfl)
theorem dX4_mul_17 : decode cX4_mul 17 = .ok (.ishl, 1) := dk_120 (dk_at dksX4_mul_0 17 rfl rfl)
theorem dX4_mul_18 : decode cX4_mul 18 = .ok (.iload_n 0, 1) := dk_26 (dk_at dksX4_mul_0 18 rfl rfl)
theorem dX4_mul_19 : decode cX4_mul 19 = .ok (.bipush 32, 2) := dk_16 32 (dk_at dksX4_mul_0 19 rfl rfl)
theorem dX4_mul_21 : decode cX4_mul 21 = .ok (.iand, 1) := dk_126 (dk_at dksX4_mul_0 21 rfl rfl)
theorem dX4_mul_22 : decode cX4_mul 22 = .ok (.ineg, 1) := dk_116 (dk_at dksX4_mul_0 22 rfl rfl)
theorem dX4_mul_23 : decode cX4_mul 23 = .ok (.iand, 1) := dk_126 (dk_at dksX4_mul_0 23 rfl rfl)
theorem dX4_mul_24 : decode cX4_mul 24 = .ok (.ixor, 1) := dk_130 (dk_at dksX4_mul_1 0 rfl rfl)
theorem dX4_mul_25 : decode cX4_mul 25 = .ok (.iload_n 1, 1) := dk_27 (dk_at dksX4_mul_1 1 rfl rfl)
theorem dX4_mul_26 : decode cX4_mul 26 = .ok (.bipush 6, 2) := dk_16 6 (dk_at dksX4_mul_1 2 rfl rfl)
theorem dX4_mul_28 : decode cX4_mul 28 = .ok (.ishl, 1) := dk_120 (dk_at dksX4_mul_1 4 rfl rfl)
theorem dX4_mul_29 : decode cX4_mul 29 = .ok (.iload_n 0, 1) := dk_26 (dk_at dksX4_mul_1 5 rfl rfl)
theorem dX4_mul_30 : decode cX4_mul 30 = .ok (.bipush 64, 2) := dk_16 64 (dk_at dksX4_mul_1 6 rfl rfl)
theorem dX4_mul_32 : decode cX4_mul 32 = .ok (.iand, 1) := dk_126 (dk_at dksX4_mul_1 8 rfl rfl)
theorem dX4_mul_33 : decode cX4_mul 33 = .ok (.ineg, 1) := dk_116 (dk_at dksX4_mul_1 9 rfl rfl)
theorem dX4_mul_34 : decode cX4_mul 34 = .ok (.iand, 1) := dk_126 (dk_at dksX4_mul_1 10 rfl rfl)
theorem dX4_mul_35 : decode cX4_mul 35 = .ok (.ixor, 1) := dk_130 (dk_at dksX4_mul_1 11 rfl rfl)
theorem dX4_mul_36 : decode cX4_mul 36 = .ok (.iload_n 1, 1) := dk_27 (dk_at dksX4_mul_1 12 rfl rfl)
theorem dX4_mul_37 : decode cX4_mul 37 = .ok (.bipush 7, 2) := dk_16 7 (dk_at dksX4_mul_1 13 rfl rfl)
theorem dX4_mul_39 : decode cX4_mul 39 = .ok (.ishl, 1) := dk_120 (dk_at dksX4_mul_1 15 rfl rfl)
theorem dX4_mul_40 : decode cX4_mul 40 = .ok (.iload_n 0, 1) := dk_26 (dk_at dksX4_mul_1 16 rfl rfl)
theorem dX4_mul_41 : decode cX4_mul 41 = .ok (.sipush 128, 3) := dk_17 0 128 (dk_at dksX4_mul_1 17 rfl rfl)
theorem dX4_mul_44 : decode cX4_mul 44 = .ok (.iand, 1) := dk_126 (dk_at dksX4_mul_1 20 rfl rfl)
theorem dX4_mul_45 : decode cX4_mul 45 = .ok (.ineg, 1) := dk_116 (dk_at dksX4_mul_1 21 rfl rfl)
theorem dX4_mul_46 : decode cX4_mul 46 = .ok (.iand, 1) := dk_126 (dk_at dksX4_mul_1 22 rfl rfl)
theorem dX4_mul_47 : decode cX4_mul 47 = .ok (.ixor, 1) := dk_130 (dk_at dksX4_mul_1 23 rfl rfl)
theorem dX4_mul_48 : decode cX4_mul 48 = .ok (.istore_n 2, 1) := dk_61 (dk_at dksX4_mul_2 0 rfl rfl)
theorem dX4_mul_49 : decode cX4_mul 49 = .ok (.iload_n 1, 1) := dk_27 (dk_at dksX4_mul_2 1 rfl rfl)
theorem dX4_mul_50 : decode cX4_mul 50 = .ok (.iconst 0, 1) := dk_3 (dk_at dksX4_mul_2 2 rfl rfl)
theorem dX4_mul_51 : decode cX4_mul 51 = .ok (.ishl, 1) := dk_120 (dk_at dksX4_mul_2 3 rfl rfl)
theorem dX4_mul_52 : decode cX4_mul 52 = .ok (.iload_n 0, 1) := dk_26 (dk_at dksX4_mul_2 4 rfl rfl)
theorem dX4_mul_53 : decode cX4_mul 53 = .ok (.iconst 1, 1) := dk_4 (dk_at dksX4_mul_2 5 rfl rfl)
theorem dX4_mul_54 : decode cX4_mul 54 = .ok (.iand, 1) := dk_126 (dk_at dksX4_mul_2 6 rfl rfl)
theorem dX4_mul_55 : decode cX4_mul 55 = .ok (.ineg, 1) := dk_116 (dk_at dksX4_mul_2 7 rfl rfl)
theorem dX4_mul_56 : decode cX4_mul 56 = .ok (.iand, 1) := dk_126 (dk_at dksX4_mul_2 8 rfl rfl)
theorem dX4_mul_57 : decode cX4_mul 57 = .ok (.iload_n 1, 1) := dk_27 (dk_at dksX4_mul_2 9 rfl rfl)
theorem dX4_mul_58 : decode cX4_mul 58 = .ok (.iconst 1, 1) := dk_4 (dk_at dksX4_mul_2 10 rfl rfl)
theorem dX4_mul_59 : decode cX4_mul 59 = .ok (.ishl, 1) := dk_120 (dk_at dksX4_mul_2 11 rfl rfl)
theorem dX4_mul_60 : decode cX4_mul 60 = .ok (.iload_n 0, 1) := dk_26 (dk_at dksX4_mul_2 12 rfl rfl)
theorem dX4_mul_61 : decode cX4_mul 61 = .ok (.iconst 2, 1) := dk_5 (dk_at dksX4_mul_2 13 rfl rfl)
theorem dX4_mul_62 : decode cX4_mul 62 = .ok (.iand, 1) := dk_126 (dk_at dksX4_mul_2 14 rfl rfl)
theorem dX4_mul_63 : decode cX4_mul 63 = .ok (.ineg, 1) := dk_116 (dk_at dksX4_mul_2 15 rfl rfl)
theorem dX4_mul_64 : decode cX4_mul 64 = .ok (.iand, 1) := dk_126 (dk_at dksX4_mul_2 16 rfl rfl)
theorem dX4_mul_65 : decode cX4_mul 65 = .ok (.ixor, 1) := dk_130 (dk_at dksX4_mul_2 17 rfl rfl)
theorem dX4_mul_66 : decode cX4_mul 66 = .ok (.iload_n 1, 1) := dk_27 (dk_at dksX4_mul_2 18 rfl rfl)
theorem dX4_mul_67 : decode cX4_mul 67 = .ok (.iconst 2, 1) := dk_5 (dk_at dksX4_mul_2 19 rfl rfl)
theorem dX4_mul_68 : decode cX4_mul 68 = .ok (.ishl, 1) := dk_120 (dk_at dksX4_mul_2 20 rfl rfl)
theorem dX4_mul_69 : decode cX4_mul 69 = .ok (.iload_n 0, 1) := dk_26 (dk_at dksX4_mul_2 21 rfl rfl)
theorem dX4_mul_70 : decode cX4_mul 70 = .ok (.iconst 4, 1) := dk_7 (dk_at dksX4_mul_2 22 rfl rfl)
theorem dX4_mul_71 : decode cX4_mul 71 = .ok (.iand, 1) := dk_126 (dk_at dksX4_mul_2 23 rfl rfl)
theorem dX4_mul_72 : decode cX4_mul 72 = .ok (.ineg, 1) := dk_116 (dk_at dksX4_mul_3 0 rfl rfl)
theorem dX4_mul_73 : decode cX4_mul 73 = .ok (.iand, 1) := dk_126 (dk_at dksX4_mul_3 1 rfl rfl)
theorem dX4_mul_74 : decode cX4_mul 74 = .ok (.ixor, 1) := dk_130 (dk_at dksX4_mul_3 2 rfl rfl)
theorem dX4_mul_75 : decode cX4_mul 75 = .ok (.iload_n 1, 1) := dk_27 (dk_at dksX4_mul_3 3 rfl rfl)
theorem dX4_mul_76 : decode cX4_mul 76 = .ok (.iconst 3, 1) := dk_6 (dk_at dksX4_mul_3 4 rfl rfl)
theorem dX4_mul_77 : decode cX4_mul 77 = .ok (.ishl, 1) := dk_120 (dk_at dksX4_mul_3 5 rfl rfl)
theorem dX4_mul_78 : decode cX4_mul 78 = .ok (.iload_n 0, 1) := dk_26 (dk_at dksX4_mul_3 6 rfl rfl)
theorem dX4_mul_79 : decode cX4_mul 79 = .ok (.bipush 8, 2) := dk_16 8 (dk_at dksX4_mul_3 7 rfl rfl)
theorem dX4_mul_81 : decode cX4_mul 81 = .ok (.iand, 1) := dk_126 (dk_at dksX4_mul_3 9 rfl rfl)
theorem dX4_mul_82 : decode cX4_mul 82 = .ok (.ineg, 1) := dk_116 (dk_at dksX4_mul_3 10 rfl rfl)
theorem dX4_mul_83 : decode cX4_mul 83 = .ok (.iand, 1) := dk_126 (dk_at dksX4_mul_3 11 rfl rfl)
theorem dX4_mul_84 : decode cX4_mul 84 = .ok (.ixor, 1) := dk_130 (dk_at dksX4_mul_3 12 rfl rfl)
theorem dX4_mul_85 : decode cX4_mul 85 = .ok (.istore_n 3, 1) := dk_62 (dk_at dksX4_mul_3 13 rfl rfl)
theorem dX4_mul_86 : decode cX4_mul 86 = .ok (.iload_n 2, 1) := dk_28 (dk_at dksX4_mul_3 14 rfl rfl)
theorem dX4_mul_87 : decode cX4_mul 87 = .ok (.bipush 8, 2) := dk_16 8 (dk_at dksX4_mul_3 15 rfl rfl)
theorem dX4_mul_89 : decode cX4_mul 89 = .ok (.iushr, 1) := dk_124 (dk_at dksX4_mul_3 17 rfl rfl)
theorem dX4_mul_90 : decode cX4_mul 90 = .ok (.istore 4, 2) := dk_54 4 (dk_at dksX4_mul_3 18 rfl rfl)
theorem dX4_mul_92 : decode cX4_mul 92 = .ok (.iload 4, 2) := dk_21 4 (dk_at dksX4_mul_3 20 rfl rfl)
theorem dX4_mul_94 : decode cX4_mul 94 = .ok (.iload 4, 2) := dk_21 4 (dk_at dksX4_mul_3 22 rfl rfl)
theorem dX4_mul_96 : decode cX4_mul 96 = .ok (.iconst 1, 1) := dk_4 (dk_at dksX4_mul_4 0 rfl rfl)
theorem dX4_mul_97 : decode cX4_mul 97 = .ok (.ishl, 1) := dk_120 (dk_at dksX4_mul_4 1 rfl rfl)
theorem dX4_mul_98 : decode cX4_mul 98 = .ok (.ixor, 1) := dk_130 (dk_at dksX4_mul_4 2 rfl rfl)
theorem dX4_mul_99 : decode cX4_mul 99 = .ok (.istore 4, 2) := dk_54 4 (dk_at dksX4_mul_4 3 rfl rfl)
theorem dX4_mul_101 : decode cX4_mul 101 = .ok (.iload 4, 2) := dk_21 4 (dk_at dksX4_mul_4 5 rfl rfl)
theorem dX4_mul_103 : decode cX4_mul 103 = .ok (.iload 4, 2) := dk_21 4 (dk_at dksX4_mul_4 7 rfl rfl)
theorem dX4_mul_105 : decode cX4_mul 105 = .ok (.iconst 3, 1) := dk_6 (dk_at dksX4_mul_4 9 rfl rfl)
theorem dX4_mul_106 : decode cX4_mul 106 = .ok (.ishl, 1) := dk_120 (dk_at dksX4_mul_4 10 rfl rfl)
theorem dX4_mul_107 : decode cX4_mul 107 = .ok (.ixor, 1) := dk_130 (dk_at dksX4_mul_4 11 rfl rfl)
theorem dX4_mul_108 : decode cX4_mul 108 = .ok (.istore 4, 2) := dk_54 4 (dk_at dksX4_mul_4 12 rfl rfl)
theorem dX4_mul_110 : decode cX4_mul 110 = .ok (.iload_n 3, 1) := dk_29 (dk_at dksX4_mul_4 14 rfl rfl)
theorem dX4_mul_111 : decode cX4_mul 111 = .ok (.iload 4, 2) := dk_21 4 (dk_at dksX4_mul_4 15 rfl rfl)
theorem dX4_mul_113 : decode cX4_mul 113 = .ok (.ixor, 1) := dk_130 (dk_at dksX4_mul_4 17 rfl rfl)
theorem dX4_mul_114 : decode cX4_mul 114 = .ok (.istore_n 3, 1) := dk_62 (dk_at dksX4_mul_4 18 rfl rfl)
theorem dX4_mul_115 : decode cX4_mul 115 = .ok (.iload_n 3, 1) := dk_29 (dk_at dksX4_mul_4 19 rfl rfl)
theorem dX4_mul_116 : decode cX4_mul 116 = .ok (.bipush 8, 2) := dk_16 8 (dk_at dksX4_mul_4 20 rfl rfl)
theorem dX4_mul_118 : decode cX4_mul 118 = .ok (.iushr, 1) := dk_124 (dk_at dksX4_mul_4 22 rfl rfl)
theorem dX4_mul_119 : decode cX4_mul 119 = .ok (.istore 5, 2) := dk_54 5 (dk_at dksX4_mul_5 0 rfl rfl)
theorem dX4_mul_121 : decode cX4_mul 121 = .ok (.iload_n 3, 1) := dk_29 (dk_at dksX4_mul_5 2 rfl rfl)
theorem dX4_mul_122 : decode cX4_mul 122 = .ok (.iload_n 2, 1) := dk_28 (dk_at dksX4_mul_5 3 rfl rfl)
theorem dX4_mul_123 : decode cX4_mul 123 = .ok (.ixor, 1) := dk_130 (dk_at dksX4_mul_5 4 rfl rfl)
theorem dX4_mul_124 : decode cX4_mul 124 = .ok (.sipush 255, 3) := dk_17 0 255 (dk_at dksX4_mul_5 5 rfl rfl)
theorem dX4_mul_127 : decode cX4_mul 127 = .ok (.iand, 1) := dk_126 (dk_at dksX4_mul_5 8 rfl rfl)
theorem dX4_mul_128 : decode cX4_mul 128 = .ok (.istore_n 3, 1) := dk_62 (dk_at dksX4_mul_5 9 rfl rfl)
theorem dX4_mul_129 : decode cX4_mul 129 = .ok (.iload 5, 2) := dk_21 5 (dk_at dksX4_mul_5 10 rfl rfl)
theorem dX4_mul_131 : decode cX4_mul 131 = .ok (.iload 5, 2) := dk_21 5 (dk_at dksX4_mul_5 12 rfl rfl)
theorem dX4_mul_133 : decode cX4_mul 133 = .ok (.iconst 1, 1) := dk_4 (dk_at dksX4_mul_5 14 rfl rfl)
theorem dX4_mul_134 : decode cX4_mul 134 = .ok (.ishl, 1) := dk_120 (dk_at dksX4_mul_5 15 rfl rfl)
theorem dX4_mul_135 : decode cX4_mul 135 = .ok (.ixor, 1) := dk_130 (dk_at dksX4_mul_5 16 rfl rfl)
theorem dX4_mul_136 : decode cX4_mul 136 = .ok (.istore 5, 2) := dk_54 5 (dk_at dksX4_mul_5 17 rfl rfl)
theorem dX4_mul_138 : decode cX4_mul 138 = .ok (.iload 5, 2) := dk_21 5 (dk_at dksX4_mul_5 19 rfl rfl)
theorem dX4_mul_140 : decode cX4_mul 140 = .ok (.iload 5, 2) := dk_21 5 (dk_at dksX4_mul_5 21 rfl rfl)
theorem dX4_mul_142 : decode cX4_mul 142 = .ok (.iconst 3, 1) := dk_6 (dk_at dksX4_mul_5 23 rfl rfl)
theorem dX4_mul_143 : decode cX4_mul 143 = .ok (.ishl, 1) := dk_120 (dk_at dksX4_mul_6 0 rfl rfl)
theorem dX4_mul_144 : decode cX4_mul 144 = .ok (.ixor, 1) := dk_130 (dk_at dksX4_mul_6 1 rfl rfl)
theorem dX4_mul_145 : decode cX4_mul 145 = .ok (.istore 5, 2) := dk_54 5 (dk_at dksX4_mul_6 2 rfl rfl)
theorem dX4_mul_147 : decode cX4_mul 147 = .ok (.iload_n 3, 1) := dk_29 (dk_at dksX4_mul_6 4 rfl rfl)
theorem dX4_mul_148 : decode cX4_mul 148 = .ok (.iload 5, 2) := dk_21 5 (dk_at dksX4_mul_6 5 rfl rfl)
theorem dX4_mul_150 : decode cX4_mul 150 = .ok (.ixor, 1) := dk_130 (dk_at dksX4_mul_6 7 rfl rfl)
theorem dX4_mul_151 : decode cX4_mul 151 = .ok (.istore_n 3, 1) := dk_62 (dk_at dksX4_mul_6 8 rfl rfl)
theorem dX4_mul_152 : decode cX4_mul 152 = .ok (.iload_n 3, 1) := dk_29 (dk_at dksX4_mul_6 9 rfl rfl)
theorem dX4_mul_153 : decode cX4_mul 153 = .ok (.ireturn, 1) := dk_172 (dk_at dksX4_mul_6 10 rfl rfl)
theorem q8 : (Jvm.Cond.initialized "GF256AES") ∈ lw_all := lw_g (lw_at lw_m0 5 rfl) rfl
theorem q62 : (Jvm.Cond.static ({ cls := "GF256AES", name := "mulFx8", desc := "(IJ)J" } : Jvm.MethodName)) ∈ lw_all := lw_g (lw_at lw_m0 59 rfl) rfl
theorem q63 : (Jvm.Cond.code ({ cls := "GF256AES", name := "mulFx8", desc := "(IJ)J" } : Jvm.MethodName) prog_3_method_2_code (8 : Nat) (Option.some Jvm.ClassFile.FieldType.long)) ∈ lw_all := lw_g (lw_at lw_m0 60 rfl) rfl
theorem q64 : (Jvm.Cond.constantLong "GF256AES" (1 : Nat) (72340172838076673 : Int64)) ∈ lw_all := lw_g (lw_at lw_m0 61 rfl) rfl
theorem q65 : (Jvm.Cond.constantLong "GF256AES" (3 : Nat) (-72340172838076674 : Int64)) ∈ lw_all := lw_g (lw_at lw_m0 62 rfl) rfl
theorem q66 : (Jvm.Cond.constantLong "GF256AES" (5 : Nat) (27 : Int64)) ∈ lw_all := lw_g (lw_at lw_m0 63 rfl) rfl
theorem q74 : (Jvm.Cond.static ({ cls := "GF256AES", name := "mul", desc := "(II)I" } : Jvm.MethodName)) ∈ lw_all := lw_g (lw_at lw_m0 71 rfl) rfl
theorem q75 : (Jvm.Cond.code ({ cls := "GF256AES", name := "mul", desc := "(II)I" } : Jvm.MethodName) prog_3_method_1_code (6 : Nat) (Option.some Jvm.ClassFile.FieldType.int)) ∈ lw_all := lw_g (lw_at lw_m0 72 rfl) rfl
/-! Pack -/
set_option maxRecDepth 100000
def RX3 : String := "Pack"
abbrev cX3_littleEndianToLong : ByteArray := prog_7_method_4_code
def yX3_littleEndianToLong : MethodName := ⟨RX3, "littleEndianToLong", "([BI)J"⟩
def dkwX3_littleEndianToLong_1 : List UInt8 := [133, 20, 0, 13, 127, 129, 173]
abbrev dktX3_littleEndianToLong_1 : List UInt8 := dkwX3_littleEndianToLong_1 ++ []
def dkwX3_littleEndianToLong_0 : List UInt8 := [42, 27, 184, 0, 7, 61, 42, 27, 7, 96, 184, 0, 7, 62, 29, 133, 20, 0, 13, 127, 16, 32, 121, 28]
abbrev dktX3_littleEndianToLong_0 : List UInt8 := dkwX3_littleEndianToLong_0 ++ dktX3_littleEndianToLong_1
theorem dksX3_littleEndianToLong_0 : cX3_littleEndianToLong.data.toList.drop 0 = dktX3_littleEndianToLong_0 := by decide +kernel
theorem dksX3_littleEndianToLong_1 : cX3_littleEndianToLong.data.toList.drop 24 = dktX3_littleEndianToLong_1 := dk_seg dksX3_littleEndianToLong_0 24 rfl rfl
theorem dX3_littleEndianToLong_0 : decode cX3_littleEndianToLong 0 = .ok (.aload_n 0, 1) := dk_42 (dk_at dksX3_littleEndianToLong_0 0 rfl rfl)
theorem dX3_littleEndianToLong_1 : decode cX3_littleEndianToLong 1 = .ok (.iload_n 1, 1) := dk_27 (dk_at dksX3_littleEndianToLong_0 1 rfl rfl)
theorem dX3_littleEndianToLong_2 : decode cX3_littleEndianToLong 2 = .ok (.invokestatic 7, 3) := dk_184 0 7 (dk_at dksX3_littleEndianToLong_0 2 rfl rfl)
theorem dX3_littleEndianToLong_5 : decode cX3_littleEndianToLong 5 = .ok (.istore_n 2, 1) := dk_61 (dk_at dksX3_littleEndianToLong_0 5 rfl rfl)
theorem dX3_littleEndianToLong_6 : decode cX3_littleEndianToLong 6 = .ok (.aload_n 0, 1) := dk_42 (dk_at dksX3_littleEndianToLong_0 6 rfl rfl)
theorem dX3_littleEndianToLong_7 : decode cX3_littleEndianToLong 7 = .ok (.iload_n 1, 1) := dk_27 (dk_at dksX3_littleEndianToLong_0 7 rfl rfl)
theorem dX3_littleEndianToLong_8 : decode cX3_littleEndianToLong 8 = .ok (.iconst 4, 1) := dk_7 (dk_at dksX3_littleEndianToLong_0 8 rfl rfl)
theorem dX3_littleEndianToLong_9 : decode cX3_littleEndianToLong 9 = .ok (.iadd, 1) := dk_96 (dk_at dksX3_littleEndianToLong_0 9 rfl rfl)
theorem dX3_littleEndianToLong_10 : decode cX3_littleEndianToLong 10 = .ok (.invokestatic 7, 3) := dk_184 0 7 (dk_at dksX3_littleEndianToLong_0 10 rfl rfl)
theorem dX3_littleEndianToLong_13 : decode cX3_littleEndianToLong 13 = .ok (.istore_n 3, 1) := dk_62 (dk_at dksX3_littleEndianToLong_0 13 rfl rfl)
theorem dX3_littleEndianToLong_14 : decode cX3_littleEndianToLong 14 = .ok (.iload_n 3, 1) := dk_29 (dk_at dksX3_littleEndianToLong_0 14 rfl rfl)
theorem dX3_littleEndianToLong_15 : decode cX3_littleEndianToLong 15 = .ok (.i2l, 1) := dk_133 (dk_at dksX3_littleEndianToLong_0 15 rfl rfl)
theorem dX3_littleEndianToLong_16 : decode cX3_littleEndianToLong 16 = .ok (.ldc2_w 13, 3) := dk_20 0 13 (dk_at dksX3_littleEndianToLong_0 16 rfl rfl)
theorem dX3_littleEndianToLong_19 : decode cX3_littleEndianToLong 19 = .ok (.land, 1) := dk_127 (dk_at dksX3_littleEndianToLong_0 19 rfl rfl)
theorem dX3_littleEndianToLong_20 : decode cX3_littleEndianToLong 20 = .ok (.bipush 32, 2) := dk_16 32 (dk_at dksX3_littleEndianToLong_0 20 rfl rfl)
theorem dX3_littleEndianToLong_22 : decode cX3_littleEndianToLong 22 = .ok (.lshl, 1) := dk_121 (dk_at dksX3_littleEndianToLong_0 22 rfl rfl)
theorem dX3_littleEndianToLong_23 : decode cX3_littleEndianToLong 23 = .ok (.iload_n 2, 1) := dk_28 (dk_at dksX3_littleEndianToLong_0 23 rfl rfl)
theorem dX3_littleEndianToLong_24 : decode cX3_littleEndianToLong 24 = .ok (.i2l, 1) := dk_133 (dk_at dksX3_littleEndianToLong_1 0 rfl rfl)
theorem dX3_littleEndianToLong_25 : decode cX3_littleEndianToLong 25 = .ok (.ldc2_w 13, 3) := dk_20 0 13 (dk_at dksX3_littleEndianToLong_1 1 rfl rfl)
theorem dX3_littleEndianToLong_28 : decode cX3_littleEndianToLong 28 = .ok (.land, 1) := dk_127 (dk_at dksX3_littleEndianToLong_1 4 rfl rfl)
theorem dX3_littleEndianToLong_29 : decode cX3_littleEndianToLong 29 = .ok (.lor, 1) := dk_129 (dk_at dksX3_littleEndianToLong_1 5 rfl rfl)
theorem dX3_littleEndianToLong_30 : decode cX3_littleEndianToLong 30 = .ok (.lreturn, 1) := dk_173 (dk_at dksX3_littleEndianToLong_1 6 rfl rfl)
abbrev cX3_littleEndianToInt : ByteArray := prog_7_method_2_code
def yX3_littleEndianToInt : MethodName := ⟨RX3, "littleEndianToInt", "([BI)I"⟩
def dkwX3_littleEndianToInt_2 : List UInt8 := [16, 24, 120, 128, 61, 28, 172]
abbrev dktX3_littleEndianToInt_2 : List UInt8 := dkwX3_littleEndianToInt_2 ++ []
def dkwX3_littleEndianToInt_1 : List UInt8 := [28, 42, 132, 1, 1, 27, 51, 17, 0, 255, 126, 16, 16, 120, 128, 61, 28, 42, 132, 1, 1, 27, 51]
abbrev dktX3_littleEndianToInt_1 : List UInt8 := dkwX3_littleEndianToInt_1 ++ dktX3_littleEndianToInt_2
def dkwX3_littleEndianToInt_0 : List UInt8 := [42, 27, 51, 17, 0, 255, 126, 61, 28, 42, 132, 1, 1, 27, 51, 17, 0, 255, 126, 16, 8, 120, 128, 61]
abbrev dktX3_littleEndianToInt_0 : List UInt8 := dkwX3_littleEndianToInt_0 ++ dktX3_littleEndianToInt_1
theorem dksX3_littleEndianToInt_0 : cX3_littleEndianToInt.data.toList.drop 0 = dktX3_littleEndianToInt_0 := by decide +kernel
theorem dksX3_littleEndianToInt_1 : cX3_littleEndianToInt.data.toList.drop 24 = dktX3_littleEndianToInt_1 := dk_seg dksX3_littleEndianToInt_0 24 rfl rfl
theorem dksX3_littleEndianToInt_2 : cX3_littleEndianToInt.data.toList.drop 47 = dktX3_littleEndianToInt_2 := dk_seg dksX3_littleEndianToInt_1 23 rfl rfl
theorem dX3_littleEndianToInt_0 : decode cX3_littleEndianToInt 0 = .ok (.aload_n 0, 1) := dk_42 (dk_at dksX3_littleEndianToInt_0 0 rfl rfl)
theorem dX3_littleEndianToInt_1 : decode cX3_littleEndianToInt 1 = .ok (.iload_n 1, 1) := dk_27 (dk_at dksX3_littleEndianToInt_0 1 rfl rfl)
theorem dX3_littleEndianToInt_2 : decode cX3_littleEndianToInt 2 = .ok (.baload, 1) := dk_51 (dk_at dksX3_littleEndianToInt_0 2 rfl rfl)
theorem dX3_littleEndianToInt_3 : decode cX3_littleEndianToInt 3 = .ok (.sipush 255, 3) := dk_17 0 255 (dk_at dksX3_littleEndianToInt_0 3 rfl rfl)
theorem dX3_littleEndianToInt_6 : decode cX3_littleEndianToInt 6 = .ok (.iand, 1) := dk_126 (dk_at dksX3_littleEndianToInt_0 6 rfl rfl)
theorem dX3_littleEndianToInt_7 : decode cX3_littleEndianToInt 7 = .ok (.istore_n 2, 1) := dk_61 (dk_at dksX3_littleEndianToInt_0 7 rfl rfl)
theorem dX3_littleEndianToInt_8 : decode cX3_littleEndianToInt 8 = .ok (.iload_n 2, 1) := dk_28 (dk_at dksX3_littleEndianToInt_0 8 rfl rfl)
theorem dX3_littleEndianToInt_9 : decode cX3_littleEndianToInt 9 = .ok (.aload_n 0, 1) := dk_42 (dk_at dksX3_littleEndianToInt_0 9 rfl rfl)
theorem dX3_littleEndianToInt_10 : decode cX3_littleEndianToInt 10 = .ok (.iinc 1 1, 3) := dk_132 1 1 (dk_at dksX3_littleEndianToInt_0 10 rfl rfl)
theorem dX3_littleEndianToInt_13 : decode cX3_littleEndianToInt 13 = .ok (.iload_n 1, 1) := dk_27 (dk_at dksX3_littleEndianToInt_0 13 rfl rfl)
theorem dX3_littleEndianToInt_14 : decode cX3_littleEndianToInt 14 = .ok (.baload, 1) := dk_51 (dk_at dksX3_littleEndianToInt_0 14 rfl rfl)
theorem dX3_littleEndianToInt_15 : decode cX3_littleEndianToInt 15 = .ok (.sipush 255, 3) := dk_17 0 255 (dk_at dksX3_littleEndianToInt_0 15 rfl rfl)
theorem dX3_littleEndianToInt_18 : decode cX3_littleEndianToInt 18 = .ok (.iand, 1) := dk_126 (dk_at dksX3_littleEndianToInt_0 18 rfl rfl)
theorem dX3_littleEndianToInt_19 : decode cX3_littleEndianToInt 19 = .ok (.bipush 8, 2) := dk_16 8 (dk_at dksX3_littleEndianToInt_0 19 rfl rfl)
theorem dX3_littleEndianToInt_21 : decode cX3_littleEndianToInt 21 = .ok (.ishl, 1) := dk_120 (dk_at dksX3_littleEndianToInt_0 21 rfl rfl)
theorem dX3_littleEndianToInt_22 : decode cX3_littleEndianToInt 22 = .ok (.ior, 1) := dk_128 (dk_at dksX3_littleEndianToInt_0 22 rfl rfl)
theorem dX3_littleEndianToInt_23 : decode cX3_littleEndianToInt 23 = .ok (.istore_n 2, 1) := dk_61 (dk_at dksX3_littleEndianToInt_0 23 rfl rfl)
theorem dX3_littleEndianToInt_24 : decode cX3_littleEndianToInt 24 = .ok (.iload_n 2, 1) := dk_28 (dk_at dksX3_littleEndianToInt_1 0 rfl rfl)
theorem dX3_littleEndianToInt_25 : decode cX3_littleEndianToInt 25 = .ok (.aload_n 0, 1) := dk_42 (dk_at dksX3_littleEndianToInt_1 1 rfl rfl)
theorem dX3_littleEndianToInt_26 : decode cX3_littleEndianToInt 26 = .ok (.iinc 1 1, 3) := dk_132 1 1 (dk_at dksX3_littleEndianToInt_1 2 rfl rfl)
theorem dX3_littleEndianToInt_29 : decode cX3_littleEndianToInt 29 = .ok (.iload_n 1, 1) := dk_27 (dk_at dksX3_littleEndianToInt_1 5 rfl rfl)
theorem dX3_littleEndianToInt_30 : decode cX3_littleEndianToInt 30 = .ok (.baload, 1) := dk_51 (dk_at dksX3_littleEndianToInt_1 6 rfl rfl)
theorem dX3_littleEndianToInt_31 : decode cX3_littleEndianToInt 31 = .ok (.sipush 255, 3) := dk_17 0 255 (dk_at dksX3_littleEndianToInt_1 7 rfl rfl)
theorem dX3_littleEndianToInt_34 : decode cX3_littleEndianToInt 34 = .ok (.iand, 1) := dk_126 (dk_at dksX3_littleEndianToInt_1 10 rfl rfl)
theorem dX3_littleEndianToInt_35 : decode cX3_littleEndianToInt 35 = .ok (.bipush 16, 2) := dk_16 16 (dk_at dksX3_littleEndianToInt_1 11 rfl rfl)
theorem dX3_littleEndianToInt_37 : decode cX3_littleEndianToInt 37 = .ok (.ishl, 1) := dk_120 (dk_at dksX3_littleEndianToInt_1 13 rfl rfl)
theorem dX3_littleEndianToInt_38 : decode cX3_littleEndianToInt 38 = .ok (.ior, 1) := dk_128 (dk_at dksX3_littleEndianToInt_1 14 rfl rfl)
theorem dX3_littleEndianToInt_39 : decode cX3_littleEndianToInt 39 = .ok (.istore_n 2, 1) := dk_61 (dk_at dksX3_littleEndianToInt_1 15 rfl rfl)
theorem dX3_littleEndianToInt_40 : decode cX3_littleEndianToInt 40 = .ok (.iload_n 2, 1) := dk_28 (dk_at dksX3_littleEndianToInt_1 16 rfl rfl)
theorem dX3_littleEndianToInt_41 : decode cX3_littleEndianToInt 41 = .ok (.aload_n 0, 1) := dk_42 (dk_at dksX3_littleEndianToInt_1 17 rfl rfl)
theorem dX3_littleEndianToInt_42 : decode cX3_littleEndianToInt 42 = .ok (.iinc 1 1, 3) := dk_132 1 1 (dk_at dksX3_littleEndianToInt_1 18 rfl rfl)
theorem dX3_littleEndianToInt_45 : decode cX3_littleEndianToInt 45 = .ok (.iload_n 1, 1) := dk_27 (dk_at dksX3_littleEndianToInt_1 21 rfl rfl)
theorem dX3_littleEndianToInt_46 : decode cX3_littleEndianToInt 46 = .ok (.baload, 1) := dk_51 (dk_at dksX3_littleEndianToInt_1 22 rfl rfl)
theorem dX3_littleEndianToInt_47 : decode cX3_littleEndianToInt 47 = .ok (.bipush 24, 2) := dk_16 24 (dk_at dksX3_littleEndianToInt_2 0 rfl rfl)
theorem dX3_littleEndianToInt_49 : decode cX3_littleEndianToInt 49 = .ok (.ishl, 1) := dk_120 (dk_at dksX3_littleEndianToInt_2 2 rfl rfl)
theorem dX3_littleEndianToInt_50 : decode cX3_littleEndianToInt 50 = .ok (.ior, 1) := dk_128 (dk_at dksX3_littleEndianToInt_2 3 rfl rfl)
theorem dX3_littleEndianToInt_51 : decode cX3_littleEndianToInt 51 = .ok (.istore_n 2, 1) := dk_61 (dk_at dksX3_littleEndianToInt_2 4 rfl rfl)
theorem dX3_littleEndianToInt_52 : decode cX3_littleEndianToInt 52 = .ok (.iload_n 2, 1) := dk_28 (dk_at dksX3_littleEndianToInt_2 5 rfl rfl)
theorem dX3_littleEndianToInt_53 : decode cX3_littleEndianToInt 53 = .ok (.ireturn, 1) := dk_172 (dk_at dksX3_littleEndianToInt_2 6 rfl rfl)
abbrev cX3_longToLittleEndian : ByteArray := prog_7_method_5_code
def yX3_longToLittleEndian : MethodName := ⟨RX3, "longToLittleEndian", "(J[BI)V"⟩
def dkwX3_longToLittleEndian_0 : List UInt8 := [30, 20, 0, 13, 127, 136, 44, 29, 184, 0, 15, 30, 16, 32, 125, 136, 44, 29, 7, 96, 184, 0, 15, 177]
abbrev dktX3_longToLittleEndian_0 : List UInt8 := dkwX3_longToLittleEndian_0 ++ []
theorem dksX3_longToLittleEndian_0 : cX3_longToLittleEndian.data.toList.drop 0 = dktX3_longToLittleEndian_0 := by decide +kernel
theorem dX3_longToLittleEndian_0 : decode cX3_longToLittleEndian 0 = .ok (.lload_n 0, 1) := dk_30 (dk_at dksX3_longToLittleEndian_0 0 rfl rfl)
theorem dX3_longToLittleEndian_1 : decode cX3_longToLittleEndian 1 = .ok (.ldc2_w 13, 3) := dk_20 0 13 (dk_at dksX3_longToLittleEndian_0 1 rfl rfl)
theorem dX3_longToLittleEndian_4 : decode cX3_longToLittleEndian 4 = .ok (.land, 1) := dk_127 (dk_at dksX3_longToLittleEndian_0 4 rfl rfl)
theorem dX3_longToLittleEndian_5 : decode cX3_longToLittleEndian 5 = .ok (.l2i, 1) := dk_136 (dk_at dksX3_longToLittleEndian_0 5 rfl rfl)
theorem dX3_longToLittleEndian_6 : decode cX3_longToLittleEndian 6 = .ok (.aload_n 2, 1) := dk_44 (dk_at dksX3_longToLittleEndian_0 6 rfl rfl)
theorem dX3_longToLittleEndian_7 : decode cX3_longToLittleEndian 7 = .ok (.iload_n 3, 1) := dk_29 (dk_at dksX3_longToLittleEndian_0 7 rfl rfl)
theorem dX3_longToLittleEndian_8 : decode cX3_longToLittleEndian 8 = .ok (.invokestatic 15, 3) := dk_184 0 15 (dk_at dksX3_longToLittleEndian_0 8 rfl rfl)
theorem dX3_longToLittleEndian_11 : decode cX3_longToLittleEndian 11 = .ok (.lload_n 0, 1) := dk_30 (dk_at dksX3_longToLittleEndian_0 11 rfl rfl)
theorem dX3_longToLittleEndian_12 : decode cX3_longToLittleEndian 12 = .ok (.bipush 32, 2) := dk_16 32 (dk_at dksX3_longToLittleEndian_0 12 rfl rfl)
theorem dX3_longToLittleEndian_14 : decode cX3_longToLittleEndian 14 = .ok (.lushr, 1) := dk_125 (dk_at dksX3_longToLittleEndian_0 14 rfl rfl)
theorem dX3_longToLittleEndian_15 : decode cX3_longToLittleEndian 15 = .ok (.l2i, 1) := dk_136 (dk_at dksX3_longToLittleEndian_0 15 rfl rfl)
theorem dX3_longToLittleEndian_16 : decode cX3_longToLittleEndian 16 = .ok (.aload_n 2, 1) := dk_44 (dk_at dksX3_longToLittleEndian_0 16 rfl rfl)
theorem dX3_longToLittleEndian_17 : decode cX3_longToLittleEndian 17 = .ok (.iload_n 3, 1) := dk_29 (dk_at dksX3_longToLittleEndian_0 17 rfl rfl)
theorem dX3_longToLittleEndian_18 : decode cX3_longToLittleEndian 18 = .ok (.iconst 4, 1) := dk_7 (dk_at dksX3_longToLittleEndian_0 18 rfl rfl)
theorem dX3_longToLittleEndian_19 : decode cX3_longToLittleEndian 19 = .ok (.iadd, 1) := dk_96 (dk_at dksX3_longToLittleEndian_0 19 rfl rfl)
theorem dX3_longToLittleEndian_20 : decode cX3_longToLittleEndian 20 = .ok (.invokestatic 15, 3) := dk_184 0 15 (dk_at dksX3_longToLittleEndian_0 20 rfl rfl)
theorem dX3_longToLittleEndian_23 : decode cX3_longToLittleEndian 23 = .ok (.return_, 1) := dk_177 (dk_at dksX3_longToLittleEndian_0 23 rfl rfl)
abbrev cX3_intToLittleEndian : ByteArray := prog_7_method_3_code
def yX3_intToLittleEndian : MethodName := ⟨RX3, "intToLittleEndian", "(I[BI)V"⟩
def dkwX3_intToLittleEndian_1 : List UInt8 := [124, 145, 84, 43, 132, 2, 1, 28, 26, 16, 24, 124, 145, 84, 177]
abbrev dktX3_intToLittleEndian_1 : List UInt8 := dkwX3_intToLittleEndian_1 ++ []
def dkwX3_intToLittleEndian_0 : List UInt8 := [43, 28, 26, 145, 84, 43, 132, 2, 1, 28, 26, 16, 8, 124, 145, 84, 43, 132, 2, 1, 28, 26, 16, 16]
abbrev dktX3_intToLittleEndian_0 : List UInt8 := dkwX3_intToLittleEndian_0 ++ dktX3_intToLittleEndian_1
theorem dksX3_intToLittleEndian_0 : cX3_intToLittleEndian.data.toList.drop 0 = dktX3_intToLittleEndian_0 := by decide +kernel
theorem dksX3_intToLittleEndian_1 : cX3_intToLittleEndian.data.toList.drop 24 = dktX3_intToLittleEndian_1 := dk_seg dksX3_intToLittleEndian_0 24 rfl rfl
theorem dX3_intToLittleEndian_0 : decode cX3_intToLittleEndian 0 = .ok (.aload_n 1, 1) := dk_43 (dk_at dksX3_intToLittleEndian_0 0 rfl rfl)
theorem dX3_intToLittleEndian_1 : decode cX3_intToLittleEndian 1 = .ok (.iload_n 2, 1) := dk_28 (dk_at dksX3_intToLittleEndian_0 1 rfl rfl)
theorem dX3_intToLittleEndian_2 : decode cX3_intToLittleEndian 2 = .ok (.iload_n 0, 1) := dk_26 (dk_at dksX3_intToLittleEndian_0 2 rfl rfl)
theorem dX3_intToLittleEndian_3 : decode cX3_intToLittleEndian 3 = .ok (.i2b, 1) := dk_145 (dk_at dksX3_intToLittleEndian_0 3 rfl rfl)
theorem dX3_intToLittleEndian_4 : decode cX3_intToLittleEndian 4 = .ok (.bastore, 1) := dk_84 (dk_at dksX3_intToLittleEndian_0 4 rfl rfl)
theorem dX3_intToLittleEndian_5 : decode cX3_intToLittleEndian 5 = .ok (.aload_n 1, 1) := dk_43 (dk_at dksX3_intToLittleEndian_0 5 rfl rfl)
theorem dX3_intToLittleEndian_6 : decode cX3_intToLittleEndian 6 = .ok (.iinc 2 1, 3) := dk_132 2 1 (dk_at dksX3_intToLittleEndian_0 6 rfl rfl)
theorem dX3_intToLittleEndian_9 : decode cX3_intToLittleEndian 9 = .ok (.iload_n 2, 1) := dk_28 (dk_at dksX3_intToLittleEndian_0 9 rfl rfl)
theorem dX3_intToLittleEndian_10 : decode cX3_intToLittleEndian 10 = .ok (.iload_n 0, 1) := dk_26 (dk_at dksX3_intToLittleEndian_0 10 rfl rfl)
theorem dX3_intToLittleEndian_11 : decode cX3_intToLittleEndian 11 = .ok (.bipush 8, 2) := dk_16 8 (dk_at dksX3_intToLittleEndian_0 11 rfl rfl)
theorem dX3_intToLittleEndian_13 : decode cX3_intToLittleEndian 13 = .ok (.iushr, 1) := dk_124 (dk_at dksX3_intToLittleEndian_0 13 rfl rfl)
theorem dX3_intToLittleEndian_14 : decode cX3_intToLittleEndian 14 = .ok (.i2b, 1) := dk_145 (dk_at dksX3_intToLittleEndian_0 14 rfl rfl)
theorem dX3_intToLittleEndian_15 : decode cX3_intToLittleEndian 15 = .ok (.bastore, 1) := dk_84 (dk_at dksX3_intToLittleEndian_0 15 rfl rfl)
theorem dX3_intToLittleEndian_16 : decode cX3_intToLittleEndian 16 = .ok (.aload_n 1, 1) := dk_43 (dk_at dksX3_intToLittleEndian_0 16 rfl rfl)
theorem dX3_intToLittleEndian_17 : decode cX3_intToLittleEndian 17 = .ok (.iinc 2 1, 3) := dk_132 2 1 (dk_at dksX3_intToLittleEndian_0 17 rfl rfl)
theorem dX3_intToLittleEndian_20 : decode cX3_intToLittleEndian 20 = .ok (.iload_n 2, 1) := dk_28 (dk_at dksX3_intToLittleEndian_0 20 rfl rfl)
theorem dX3_intToLittleEndian_21 : decode cX3_intToLittleEndian 21 = .ok (.iload_n 0, 1) := dk_26 (dk_at dksX3_intToLittleEndian_0 21 rfl rfl)
theorem dX3_intToLittleEndian_22 : decode cX3_intToLittleEndian 22 = .ok (.bipush 16, 2) := dk_16 16 (dk_at dksX3_intToLittleEndian_0 22 rfl rfl)
theorem dX3_intToLittleEndian_24 : decode cX3_intToLittleEndian 24 = .ok (.iushr, 1) := dk_124 (dk_at dksX3_intToLittleEndian_1 0 rfl rfl)
theorem dX3_intToLittleEndian_25 : decode cX3_intToLittleEndian 25 = .ok (.i2b, 1) := dk_145 (dk_at dksX3_intToLittleEndian_1 1 rfl rfl)
theorem dX3_intToLittleEndian_26 : decode cX3_intToLittleEndian 26 = .ok (.bastore, 1) := dk_84 (dk_at dksX3_intToLittleEndian_1 2 rfl rfl)
theorem dX3_intToLittleEndian_27 : decode cX3_intToLittleEndian 27 = .ok (.aload_n 1, 1) := dk_43 (dk_at dksX3_intToLittleEndian_1 3 rfl rfl)
theorem dX3_intToLittleEndian_28 : decode cX3_intToLittleEndian 28 = .ok (.iinc 2 1, 3) := dk_132 2 1 (dk_at dksX3_intToLittleEndian_1 4 rfl rfl)
theorem dX3_intToLittleEndian_31 : decode cX3_intToLittleEndian 31 = .ok (.iload_n 2, 1) := dk_28 (dk_at dksX3_intToLittleEndian_1 7 rfl rfl)
theorem dX3_intToLittleEndian_32 : decode cX3_intToLittleEndian 32 = .ok (.iload_n 0, 1) := dk_26 (dk_at dksX3_intToLittleEndian_1 8 rfl rfl)
theorem dX3_intToLittleEndian_33 : decode cX3_intToLittleEndian 33 = .ok (.bipush 24, 2) := dk_16 24 (dk_at dksX3_intToLittleEndian_1 9 rfl rfl)
theorem dX3_intToLittleEndian_35 : decode cX3_intToLittleEndian 35 = .ok (.iushr, 1) := dk_124 (dk_at dksX3_intToLittleEndian_1 11 rfl rfl)
theorem dX3_intToLittleEndian_36 : decode cX3_intToLittleEndian 36 = .ok (.i2b, 1) := dk_145 (dk_at dksX3_intToLittleEndian_1 12 rfl rfl)
theorem dX3_intToLittleEndian_37 : decode cX3_intToLittleEndian 37 = .ok (.bastore, 1) := dk_84 (dk_at dksX3_intToLittleEndian_1 13 rfl rfl)
theorem dX3_intToLittleEndian_38 : decode cX3_intToLittleEndian 38 = .ok (.return_, 1) := dk_177 (dk_at dksX3_intToLittleEndian_1 14 rfl rfl)
theorem q7 : (Jvm.Cond.initialized "Pack") ∈ lw_all := lw_g (lw_at lw_m0 4 rfl) rfl
theorem q55 : (Jvm.Cond.static ({ cls := "Pack", name := "littleEndianToLong", desc := "([BI)J" } : Jvm.MethodName)) ∈ lw_all := lw_g (lw_at lw_m0 52 rfl) rfl
theorem q56 : (Jvm.Cond.code ({ cls := "Pack", name := "littleEndianToLong", desc := "([BI)J" } : Jvm.MethodName) prog_7_method_4_code (4 : Nat) (Option.some Jvm.ClassFile.FieldType.long)) ∈ lw_all := lw_g (lw_at lw_m0 53 rfl) rfl
theorem q57 : (Jvm.Cond.methodLink "Pack" (7 : Nat) ({ cls := "Pack", name := "littleEndianToInt", desc := "([BI)I" } : Jvm.MethodName)) ∈ lw_all := lw_g (lw_at lw_m0 54 rfl) rfl
theorem q58 : (Jvm.Cond.static ({ cls := "Pack", name := "littleEndianToInt", desc := "([BI)I" } : Jvm.MethodName)) ∈ lw_all := lw_g (lw_at lw_m0 55 rfl) rfl
theorem q59 : (Jvm.Cond.code ({ cls := "Pack", name := "littleEndianToInt", desc := "([BI)I" } : Jvm.MethodName) prog_7_method_2_code (3 : Nat) (Option.some Jvm.ClassFile.FieldType.int)) ∈ lw_all := lw_g (lw_at lw_m0 56 rfl) rfl
theorem q60 : (Jvm.Cond.constantLong "Pack" (13 : Nat) (4294967295 : Int64)) ∈ lw_all := lw_g (lw_at lw_m0 57 rfl) rfl
theorem q68 : (Jvm.Cond.static ({ cls := "Pack", name := "longToLittleEndian", desc := "(J[BI)V" } : Jvm.MethodName)) ∈ lw_all := lw_g (lw_at lw_m0 65 rfl) rfl
theorem q69 : (Jvm.Cond.code ({ cls := "Pack", name := "longToLittleEndian", desc := "(J[BI)V" } : Jvm.MethodName) prog_7_method_5_code (4 : Nat) (Option.none : Option Jvm.ClassFile.FieldType)) ∈ lw_all := lw_g (lw_at lw_m0 66 rfl) rfl
theorem q70 : (Jvm.Cond.methodLink "Pack" (15 : Nat) ({ cls := "Pack", name := "intToLittleEndian", desc := "(I[BI)V" } : Jvm.MethodName)) ∈ lw_all := lw_g (lw_at lw_m0 67 rfl) rfl
theorem q71 : (Jvm.Cond.static ({ cls := "Pack", name := "intToLittleEndian", desc := "(I[BI)V" } : Jvm.MethodName)) ∈ lw_all := lw_g (lw_at lw_m0 68 rfl) rfl
theorem q72 : (Jvm.Cond.code ({ cls := "Pack", name := "intToLittleEndian", desc := "(I[BI)V" } : Jvm.MethodName) prog_7_method_3_code (3 : Nat) (Option.none : Option Jvm.ClassFile.FieldType)) ∈ lw_all := lw_g (lw_at lw_m0 69 rfl) rfl
/-! GF -/
set_option maxRecDepth 100000
def RX2 : String := "GF"
abbrev cX2_vecAdd : ByteArray := prog_1_method_3_code
def yX2_vecAdd : MethodName := ⟨RX2, "vecAdd", "([BI[BII)V"⟩
def dkwX2_vecAdd_1 : List UInt8 := [145, 84, 132, 5, 1, 167, 255, 230, 177]
abbrev dktX2_vecAdd_1 : List UInt8 := dkwX2_vecAdd_1 ++ []
def dkwX2_vecAdd_0 : List UInt8 := [3, 54, 5, 21, 5, 21, 4, 162, 0, 25, 42, 27, 21, 5, 96, 92, 51, 44, 29, 21, 5, 96, 51, 130]
abbrev dktX2_vecAdd_0 : List UInt8 := dkwX2_vecAdd_0 ++ dktX2_vecAdd_1
theorem dksX2_vecAdd_0 : cX2_vecAdd.data.toList.drop 0 = dktX2_vecAdd_0 := by decide +kernel
theorem dksX2_vecAdd_1 : cX2_vecAdd.data.toList.drop 24 = dktX2_vecAdd_1 := dk_seg dksX2_vecAdd_0 24 rfl rfl
theorem dX2_vecAdd_0 : decode cX2_vecAdd 0 = .ok (.iconst 0, 1) := dk_3 (dk_at dksX2_vecAdd_0 0 rfl rfl)
theorem dX2_vecAdd_1 : decode cX2_vecAdd 1 = .ok (.istore 5, 2) := dk_54 5 (dk_at dksX2_vecAdd_0 1 rfl rfl)
theorem dX2_vecAdd_3 : decode cX2_vecAdd 3 = .ok (.iload 5, 2) := dk_21 5 (dk_at dksX2_vecAdd_0 3 rfl rfl)
theorem dX2_vecAdd_5 : decode cX2_vecAdd 5 = .ok (.iload 4, 2) := dk_21 4 (dk_at dksX2_vecAdd_0 5 rfl rfl)
theorem dX2_vecAdd_7 : decode cX2_vecAdd 7 = .ok (.if_icmp .ge 25, 3) := dk_162 0 25 (dk_at dksX2_vecAdd_0 7 rfl rfl)
theorem dX2_vecAdd_10 : decode cX2_vecAdd 10 = .ok (.aload_n 0, 1) := dk_42 (dk_at dksX2_vecAdd_0 10 rfl rfl)
theorem dX2_vecAdd_11 : decode cX2_vecAdd 11 = .ok (.iload_n 1, 1) := dk_27 (dk_at dksX2_vecAdd_0 11 rfl rfl)
theorem dX2_vecAdd_12 : decode cX2_vecAdd 12 = .ok (.iload 5, 2) := dk_21 5 (dk_at dksX2_vecAdd_0 12 rfl rfl)
theorem dX2_vecAdd_14 : decode cX2_vecAdd 14 = .ok (.iadd, 1) := dk_96 (dk_at dksX2_vecAdd_0 14 rfl rfl)
theorem dX2_vecAdd_15 : decode cX2_vecAdd 15 = .ok (.dup2, 1) := dk_92 (dk_at dksX2_vecAdd_0 15 rfl rfl)
theorem dX2_vecAdd_16 : decode cX2_vecAdd 16 = .ok (.baload, 1) := dk_51 (dk_at dksX2_vecAdd_0 16 rfl rfl)
theorem dX2_vecAdd_17 : decode cX2_vecAdd 17 = .ok (.aload_n 2, 1) := dk_44 (dk_at dksX2_vecAdd_0 17 rfl rfl)
theorem dX2_vecAdd_18 : decode cX2_vecAdd 18 = .ok (.iload_n 3, 1) := dk_29 (dk_at dksX2_vecAdd_0 18 rfl rfl)
theorem dX2_vecAdd_19 : decode cX2_vecAdd 19 = .ok (.iload 5, 2) := dk_21 5 (dk_at dksX2_vecAdd_0 19 rfl rfl)
theorem dX2_vecAdd_21 : decode cX2_vecAdd 21 = .ok (.iadd, 1) := dk_96 (dk_at dksX2_vecAdd_0 21 rfl rfl)
theorem dX2_vecAdd_22 : decode cX2_vecAdd 22 = .ok (.baload, 1) := dk_51 (dk_at dksX2_vecAdd_0 22 rfl rfl)
theorem dX2_vecAdd_23 : decode cX2_vecAdd 23 = .ok (.ixor, 1) := dk_130 (dk_at dksX2_vecAdd_0 23 rfl rfl)
theorem dX2_vecAdd_24 : decode cX2_vecAdd 24 = .ok (.i2b, 1) := dk_145 (dk_at dksX2_vecAdd_1 0 rfl rfl)
theorem dX2_vecAdd_25 : decode cX2_vecAdd 25 = .ok (.bastore, 1) := dk_84 (dk_at dksX2_vecAdd_1 1 rfl rfl)
theorem dX2_vecAdd_26 : decode cX2_vecAdd 26 = .ok (.iinc 5 1, 3) := dk_132 5 1 (dk_at dksX2_vecAdd_1 2 rfl rfl)
theorem dX2_vecAdd_29 : decode cX2_vecAdd 29 = .ok (.goto (-26), 3) := dk_167 255 230 (dk_at dksX2_vecAdd_1 5 rfl rfl)
theorem dX2_vecAdd_32 : decode cX2_vecAdd 32 = .ok (.return_, 1) := dk_177 (dk_at dksX2_vecAdd_1 8 rfl rfl)
abbrev cX2_vecConditionalAdd : ByteArray := prog_1_method_4_code
def yX2_vecConditionalAdd : MethodName := ⟨RX2, "vecConditionalAdd", "([BII[BII)V"⟩
def dkwX2_vecConditionalAdd_1 : List UInt8 := [21, 4, 21, 7, 96, 51, 21, 6, 126, 145, 130, 145, 84, 132, 7, 1, 167, 255, 225, 177]
abbrev dktX2_vecConditionalAdd_1 : List UInt8 := dkwX2_vecConditionalAdd_1 ++ []
def dkwX2_vecConditionalAdd_0 : List UInt8 := [28, 4, 126, 116, 54, 6, 3, 54, 7, 21, 7, 21, 5, 162, 0, 30, 42, 27, 21, 7, 96, 92, 51, 45]
abbrev dktX2_vecConditionalAdd_0 : List UInt8 := dkwX2_vecConditionalAdd_0 ++ dktX2_vecConditionalAdd_1
theorem dksX2_vecConditionalAdd_0 : cX2_vecConditionalAdd.data.toList.drop 0 = dktX2_vecConditionalAdd_0 := by decide +kernel
theorem dksX2_vecConditionalAdd_1 : cX2_vecConditionalAdd.data.toList.drop 24 = dktX2_vecConditionalAdd_1 := dk_seg dksX2_vecConditionalAdd_0 24 rfl rfl
theorem dX2_vecConditionalAdd_0 : decode cX2_vecConditionalAdd 0 = .ok (.iload_n 2, 1) := dk_28 (dk_at dksX2_vecConditionalAdd_0 0 rfl rfl)
theorem dX2_vecConditionalAdd_1 : decode cX2_vecConditionalAdd 1 = .ok (.iconst 1, 1) := dk_4 (dk_at dksX2_vecConditionalAdd_0 1 rfl rfl)
theorem dX2_vecConditionalAdd_2 : decode cX2_vecConditionalAdd 2 = .ok (.iand, 1) := dk_126 (dk_at dksX2_vecConditionalAdd_0 2 rfl rfl)
theorem dX2_vecConditionalAdd_3 : decode cX2_vecConditionalAdd 3 = .ok (.ineg, 1) := dk_116 (dk_at dksX2_vecConditionalAdd_0 3 rfl rfl)
theorem dX2_vecConditionalAdd_4 : decode cX2_vecConditionalAdd 4 = .ok (.istore 6, 2) := dk_54 6 (dk_at dksX2_vecConditionalAdd_0 4 rfl rfl)
theorem dX2_vecConditionalAdd_6 : decode cX2_vecConditionalAdd 6 = .ok (.iconst 0, 1) := dk_3 (dk_at dksX2_vecConditionalAdd_0 6 rfl rfl)
theorem dX2_vecConditionalAdd_7 : decode cX2_vecConditionalAdd 7 = .ok (.istore 7, 2) := dk_54 7 (dk_at dksX2_vecConditionalAdd_0 7 rfl rfl)
theorem dX2_vecConditionalAdd_9 : decode cX2_vecConditionalAdd 9 = .ok (.iload 7, 2) := dk_21 7 (dk_at dksX2_vecConditionalAdd_0 9 rfl rfl)
theorem dX2_vecConditionalAdd_11 : decode cX2_vecConditionalAdd 11 = .ok (.iload 5, 2) := dk_21 5 (dk_at dksX2_vecConditionalAdd_0 11 rfl rfl)
theorem dX2_vecConditionalAdd_13 : decode cX2_vecConditionalAdd 13 = .ok (.if_icmp .ge 30, 3) := dk_162 0 30 (dk_at dksX2_vecConditionalAdd_0 13 rfl rfl)
theorem dX2_vecConditionalAdd_16 : decode cX2_vecConditionalAdd 16 = .ok (.aload_n 0, 1) := dk_42 (dk_at dksX2_vecConditionalAdd_0 16 rfl rfl)
theorem dX2_vecConditionalAdd_17 : decode cX2_vecConditionalAdd 17 = .ok (.iload_n 1, 1) := dk_27 (dk_at dksX2_vecConditionalAdd_0 17 rfl rfl)
theorem dX2_vecConditionalAdd_18 : decode cX2_vecConditionalAdd 18 = .ok (.iload 7, 2) := dk_21 7 (dk_at dksX2_vecConditionalAdd_0 18 rfl rfl)
theorem dX2_vecConditionalAdd_20 : decode cX2_vecConditionalAdd 20 = .ok (.iadd, 1) := dk_96 (dk_at dksX2_vecConditionalAdd_0 20 rfl rfl)
theorem dX2_vecConditionalAdd_21 : decode cX2_vecConditionalAdd 21 = .ok (.dup2, 1) := dk_92 (dk_at dksX2_vecConditionalAdd_0 21 rfl rfl)
theorem dX2_vecConditionalAdd_22 : decode cX2_vecConditionalAdd 22 = .ok (.baload, 1) := dk_51 (dk_at dksX2_vecConditionalAdd_0 22 rfl rfl)
theorem dX2_vecConditionalAdd_23 : decode cX2_vecConditionalAdd 23 = .ok (.aload_n 3, 1) := dk_45 (dk_at dksX2_vecConditionalAdd_0 23 rfl rfl)
theorem dX2_vecConditionalAdd_24 : decode cX2_vecConditionalAdd 24 = .ok (.iload 4, 2) := dk_21 4 (dk_at dksX2_vecConditionalAdd_1 0 rfl rfl)
theorem dX2_vecConditionalAdd_26 : decode cX2_vecConditionalAdd 26 = .ok (.iload 7, 2) := dk_21 7 (dk_at dksX2_vecConditionalAdd_1 2 rfl rfl)
theorem dX2_vecConditionalAdd_28 : decode cX2_vecConditionalAdd 28 = .ok (.iadd, 1) := dk_96 (dk_at dksX2_vecConditionalAdd_1 4 rfl rfl)
theorem dX2_vecConditionalAdd_29 : decode cX2_vecConditionalAdd 29 = .ok (.baload, 1) := dk_51 (dk_at dksX2_vecConditionalAdd_1 5 rfl rfl)
theorem dX2_vecConditionalAdd_30 : decode cX2_vecConditionalAdd 30 = .ok (.iload 6, 2) := dk_21 6 (dk_at dksX2_vecConditionalAdd_1 6 rfl rfl)
theorem dX2_vecConditionalAdd_32 : decode cX2_vecConditionalAdd 32 = .ok (.iand, 1) := dk_126 (dk_at dksX2_vecConditionalAdd_1 8 rfl rfl)
theorem dX2_vecConditionalAdd_33 : decode cX2_vecConditionalAdd 33 = .ok (.i2b, 1) := dk_145 (dk_at dksX2_vecConditionalAdd_1 9 rfl rfl)
theorem dX2_vecConditionalAdd_34 : decode cX2_vecConditionalAdd 34 = .ok (.ixor, 1) := dk_130 (dk_at dksX2_vecConditionalAdd_1 10 rfl rfl)
theorem dX2_vecConditionalAdd_35 : decode cX2_vecConditionalAdd 35 = .ok (.i2b, 1) := dk_145 (dk_at dksX2_vecConditionalAdd_1 11 rfl rfl)
theorem dX2_vecConditionalAdd_36 : decode cX2_vecConditionalAdd 36 = .ok (.bastore, 1) := dk_84 (dk_at dksX2_vecConditionalAdd_1 12 rfl rfl)
theorem dX2_vecConditionalAdd_37 : decode cX2_vecConditionalAdd 37 = .ok (.iinc 7 1, 3) := dk_132 7 1 (dk_at dksX2_vecConditionalAdd_1 13 rfl rfl)
theorem dX2_vecConditionalAdd_40 : decode cX2_vecConditionalAdd 40 = .ok (.goto (-31), 3) := dk_167 255 225 (dk_at dksX2_vecConditionalAdd_1 16 rfl rfl)
theorem dX2_vecConditionalAdd_43 : decode cX2_vecConditionalAdd 43 = .ok (.return_, 1) := dk_177 (dk_at dksX2_vecConditionalAdd_1 19 rfl rfl)
abbrev cX2_vecMulScalar256 : ByteArray := prog_1_method_5_code
def yX2_vecMulScalar256 : MethodName := ⟨RX2, "vecMulScalar256", "([BIII)V"⟩
def dkwX2_vecMulScalar256_3 : List UInt8 := [132, 4, 1, 167, 255, 226, 177]
abbrev dktX2_vecMulScalar256_3 : List UInt8 := dkwX2_vecMulScalar256_3 ++ []
def dkwX2_vecMulScalar256_2 : List UInt8 := [162, 0, 30, 42, 27, 21, 4, 96, 42, 27, 21, 4, 96, 51, 17, 0, 255, 126, 28, 184, 0, 17, 145, 84]
abbrev dktX2_vecMulScalar256_2 : List UInt8 := dkwX2_vecMulScalar256_2 ++ dktX2_vecMulScalar256_3
def dkwX2_vecMulScalar256_1 : List UInt8 := [22, 5, 184, 0, 7, 42, 27, 21, 4, 96, 184, 0, 13, 132, 4, 8, 167, 255, 220, 21, 4, 29]
abbrev dktX2_vecMulScalar256_1 : List UInt8 := dkwX2_vecMulScalar256_1 ++ dktX2_vecMulScalar256_2
def dkwX2_vecMulScalar256_0 : List UInt8 := [3, 54, 4, 21, 4, 16, 8, 96, 29, 163, 0, 33, 42, 27, 21, 4, 96, 184, 0, 1, 55, 5, 28]
abbrev dktX2_vecMulScalar256_0 : List UInt8 := dkwX2_vecMulScalar256_0 ++ dktX2_vecMulScalar256_1
theorem dksX2_vecMulScalar256_0 : cX2_vecMulScalar256.data.toList.drop 0 = dktX2_vecMulScalar256_0 := by decide +kernel
theorem dksX2_vecMulScalar256_1 : cX2_vecMulScalar256.data.toList.drop 23 = dktX2_vecMulScalar256_1 := dk_seg dksX2_vecMulScalar256_0 23 rfl rfl
theorem dksX2_vecMulScalar256_2 : cX2_vecMulScalar256.data.toList.drop 45 = dktX2_vecMulScalar256_2 := dk_seg dksX2_vecMulScalar256_1 22 rfl rfl
theorem dksX2_vecMulScalar256_3 : cX2_vecMulScalar256.data.toList.drop 69 = dktX2_vecMulScalar256_3 := dk_seg dksX2_vecMulScalar256_2 24 rfl rfl
theorem dX2_vecMulScalar256_0 : decode cX2_vecMulScalar256 0 = .ok (.iconst 0, 1) := dk_3 (dk_at dksX2_vecMulScalar256_0 0 rfl rfl)
theorem dX2_vecMulScalar256_1 : decode cX2_vecMulScalar256 1 = .ok (.istore 4, 2) := dk_54 4 (dk_at dksX2_vecMulScalar256_0 1 rfl rfl)
theorem dX2_vecMulScalar256_3 : decode cX2_vecMulScalar256 3 = .ok (.iload 4, 2) := dk_21 4 (dk_at dksX2_vecMulScalar256_0 3 rfl rfl)
theorem dX2_vecMulScalar256_5 : decode cX2_vecMulScalar256 5 = .ok (.bipush 8, 2) := dk_16 8 (dk_at dksX2_vecMulScalar256_0 5 rfl rfl)
theorem dX2_vecMulScalar256_7 : decode cX2_vecMulScalar256 7 = .ok (.iadd, 1) := dk_96 (dk_at dksX2_vecMulScalar256_0 7 rfl rfl)
theorem dX2_vecMulScalar256_8 : decode cX2_vecMulScalar256 8 = .ok (.iload_n 3, 1) := dk_29 (dk_at dksX2_vecMulScalar256_0 8 rfl rfl)
theorem dX2_vecMulScalar256_9 : decode cX2_vecMulScalar256 9 = .ok (.if_icmp .gt 33, 3) := dk_163 0 33 (dk_at dksX2_vecMulScalar256_0 9 rfl rfl)
theorem dX2_vecMulScalar256_12 : decode cX2_vecMulScalar256 12 = .ok (.aload_n 0, 1) := dk_42 (dk_at dksX2_vecMulScalar256_0 12 rfl rfl)
theorem dX2_vecMulScalar256_13 : decode cX2_vecMulScalar256 13 = .ok (.iload_n 1, 1) := dk_27 (dk_at dksX2_vecMulScalar256_0 13 rfl rfl)
theorem dX2_vecMulScalar256_14 : decode cX2_vecMulScalar256 14 = .ok (.iload 4, 2) := dk_21 4 (dk_at dksX2_vecMulScalar256_0 14 rfl rfl)
theorem dX2_vecMulScalar256_16 : decode cX2_vecMulScalar256 16 = .ok (.iadd, 1) := dk_96 (dk_at dksX2_vecMulScalar256_0 16 rfl rfl)
theorem dX2_vecMulScalar256_17 : decode cX2_vecMulScalar256 17 = .ok (.invokestatic 1, 3) := dk_184 0 1 (dk_at dksX2_vecMulScalar256_0 17 rfl rfl)
theorem dX2_vecMulScalar256_20 : decode cX2_vecMulScalar256 20 = .ok (.lstore 5, 2) := dk_55 5 (dk_at dksX2_vecMulScalar256_0 20 rfl rfl)
theorem dX2_vecMulScalar256_22 : decode cX2_vecMulScalar256 22 = .ok (.iload_n 2, 1) := dk_28 (dk_at dksX2_vecMulScalar256_0 22 rfl rfl)
theorem dX2_vecMulScalar256_23 : decode cX2_vecMulScalar256 23 = .ok (.lload 5, 2) := dk_22 5 (dk_at dksX2_vecMulScalar256_1 0 rfl rfl)
theorem dX2_vecMulScalar256_25 : decode cX2_vecMulScalar256 25 = .ok (.invokestatic 7, 3) := dk_184 0 7 (dk_at dksX2_vecMulScalar256_1 2 rfl rfl)
theorem dX2_vecMulScalar256_28 : decode cX2_vecMulScalar256 28 = .ok (.aload_n 0, 1) := dk_42 (dk_at dksX2_vecMulScalar256_1 5 rfl rfl)
theorem dX2_vecMulScalar256_29 : decode cX2_vecMulScalar256 29 = .ok (.iload_n 1, 1) := dk_27 (dk_at dksX2_vecMulScalar256_1 6 rfl rfl)
theorem dX2_vecMulScalar256_30 : decode cX2_vecMulScalar256 30 = .ok (.iload 4, 2) := dk_21 4 (dk_at dksX2_vecMulScalar256_1 7 rfl rfl)
theorem dX2_vecMulScalar256_32 : decode cX2_vecMulScalar256 32 = .ok (.iadd, 1) := dk_96 (dk_at dksX2_vecMulScalar256_1 9 rfl rfl)
theorem dX2_vecMulScalar256_33 : decode cX2_vecMulScalar256 33 = .ok (.invokestatic 13, 3) := dk_184 0 13 (dk_at dksX2_vecMulScalar256_1 10 rfl rfl)
theorem dX2_vecMulScalar256_36 : decode cX2_vecMulScalar256 36 = .ok (.iinc 4 8, 3) := dk_132 4 8 (dk_at dksX2_vecMulScalar256_1 13 rfl rfl)
theorem dX2_vecMulScalar256_39 : decode cX2_vecMulScalar256 39 = .ok (.goto (-36), 3) := dk_167 255 220 (dk_at dksX2_vecMulScalar256_1 16 rfl rfl)
theorem dX2_vecMulScalar256_42 : decode cX2_vecMulScalar256 42 = .ok (.iload 4, 2) := dk_21 4 (dk_at dksX2_vecMulScalar256_1 19 rfl rfl)
theorem dX2_vecMulScalar256_44 : decode cX2_vecMulScalar256 44 = .ok (.iload_n 3, 1) := dk_29 (dk_at dksX2_vecMulScalar256_1 21 rfl rfl)
theorem dX2_vecMulScalar256_45 : decode cX2_vecMulScalar256 45 = .ok (.if_icmp .ge 30, 3) := dk_162 0 30 (dk_at dksX2_vecMulScalar256_2 0 rfl rfl)
theorem dX2_vecMulScalar256_48 : decode cX2_vecMulScalar256 48 = .ok (.aload_n 0, 1) := dk_42 (dk_at dksX2_vecMulScalar256_2 3 rfl rfl)
theorem dX2_vecMulScalar256_49 : decode cX2_vecMulScalar256 49 = .ok (.iload_n 1, 1) := dk_27 (dk_at dksX2_vecMulScalar256_2 4 rfl rfl)
theorem dX2_vecMulScalar256_50 : decode cX2_vecMulScalar256 50 = .ok (.iload 4, 2) := dk_21 4 (dk_at dksX2_vecMulScalar256_2 5 rfl rfl)
theorem dX2_vecMulScalar256_52 : decode cX2_vecMulScalar256 52 = .ok (.iadd, 1) := dk_96 (dk_at dksX2_vecMulScalar256_2 7 rfl rfl)
theorem dX2_vecMulScalar256_53 : decode cX2_vecMulScalar256 53 = .ok (.aload_n 0, 1) := dk_42 (dk_at dksX2_vecMulScalar256_2 8 rfl rfl)
theorem dX2_vecMulScalar256_54 : decode cX2_vecMulScalar256 54 = .ok (.iload_n 1, 1) := dk_27 (dk_at dksX2_vecMulScalar256_2 9 rfl rfl)
theorem dX2_vecMulScalar256_55 : decode cX2_vecMulScalar256 55 = .ok (.iload 4, 2) := dk_21 4 (dk_at dksX2_vecMulScalar256_2 10 rfl rfl)
theorem dX2_vecMulScalar256_57 : decode cX2_vecMulScalar256 57 = .ok (.iadd, 1) := dk_96 (dk_at dksX2_vecMulScalar256_2 12 rfl rfl)
theorem dX2_vecMulScalar256_58 : decode cX2_vecMulScalar256 58 = .ok (.baload, 1) := dk_51 (dk_at dksX2_vecMulScalar256_2 13 rfl rfl)
theorem dX2_vecMulScalar256_59 : decode cX2_vecMulScalar256 59 = .ok (.sipush 255, 3) := dk_17 0 255 (dk_at dksX2_vecMulScalar256_2 14 rfl rfl)
theorem dX2_vecMulScalar256_62 : decode cX2_vecMulScalar256 62 = .ok (.iand, 1) := dk_126 (dk_at dksX2_vecMulScalar256_2 17 rfl rfl)
theorem dX2_vecMulScalar256_63 : decode cX2_vecMulScalar256 63 = .ok (.iload_n 2, 1) := dk_28 (dk_at dksX2_vecMulScalar256_2 18 rfl rfl)
theorem dX2_vecMulScalar256_64 : decode cX2_vecMulScalar256 64 = .ok (.invokestatic 17, 3) := dk_184 0 17 (dk_at dksX2_vecMulScalar256_2 19 rfl rfl)
theorem dX2_vecMulScalar256_67 : decode cX2_vecMulScalar256 67 = .ok (.i2b, 1) := dk_145 (dk_at dksX2_vecMulScalar256_2 22 rfl rfl)
theorem dX2_vecMulScalar256_68 : decode cX2_vecMulScalar256 68 = .ok (.bastore, 1) := dk_84 (dk_at dksX2_vecMulScalar256_2 23 rfl rfl)
theorem dX2_vecMulScalar256_69 : decode cX2_vecMulScalar256 69 = .ok (.iinc 4 1, 3) := dk_132 4 1 (dk_at dksX2_vecMulScalar256_3 0 rfl rfl)
theorem dX2_vecMulScalar256_72 : decode cX2_vecMulScalar256 72 = .ok (.goto (-30), 3) := dk_167 255 226 (dk_at dksX2_vecMulScalar256_3 3 rfl rfl)
theorem dX2_vecMulScalar256_75 : decode cX2_vecMulScalar256 75 = .ok (.return_, 1) := dk_177 (dk_at dksX2_vecMulScalar256_3 6 rfl rfl)
abbrev cX2_vecMulScalar16 : ByteArray := prog_1_method_7_code
def yX2_vecMulScalar16 : MethodName := ⟨RX2, "vecMulScalar16", "([BIII)V"⟩
def dkwX2_vecMulScalar16_2 : List UInt8 := [21, 4, 96, 21, 7, 7, 120, 21, 6, 128, 145, 84, 132, 4, 1, 167, 255, 197, 177]
abbrev dktX2_vecMulScalar16_2 : List UInt8 := dkwX2_vecMulScalar16_2 ++ []
def dkwX2_vecMulScalar16_1 : List UInt8 := [16, 15, 126, 28, 184, 0, 21, 54, 6, 21, 5, 7, 124, 16, 15, 126, 28, 184, 0, 21, 54, 7, 42, 27]
abbrev dktX2_vecMulScalar16_1 : List UInt8 := dkwX2_vecMulScalar16_1 ++ dktX2_vecMulScalar16_2
def dkwX2_vecMulScalar16_0 : List UInt8 := [3, 54, 4, 21, 4, 29, 162, 0, 59, 42, 27, 21, 4, 96, 51, 17, 0, 255, 126, 54, 5, 21, 5]
abbrev dktX2_vecMulScalar16_0 : List UInt8 := dkwX2_vecMulScalar16_0 ++ dktX2_vecMulScalar16_1
theorem dksX2_vecMulScalar16_0 : cX2_vecMulScalar16.data.toList.drop 0 = dktX2_vecMulScalar16_0 := by decide +kernel
theorem dksX2_vecMulScalar16_1 : cX2_vecMulScalar16.data.toList.drop 23 = dktX2_vecMulScalar16_1 := dk_seg dksX2_vecMulScalar16_0 23 rfl rfl
theorem dksX2_vecMulScalar16_2 : cX2_vecMulScalar16.data.toList.drop 47 = dktX2_vecMulScalar16_2 := dk_seg dksX2_vecMulScalar16_1 24 rfl rfl
theorem dX2_vecMulScalar16_0 : decode cX2_vecMulScalar16 0 = .ok (.iconst 0, 1) := dk_3 (dk_at dksX2_vecMulScalar16_0 0 rfl rfl)
theorem dX2_vecMulScalar16_1 : decode cX2_vecMulScalar16 1 = .ok (.istore 4, 2) := dk_54 4 (dk_at dksX2_vecMulScalar16_0 1 rfl rfl)
theorem dX2_vecMulScalar16_3 : decode cX2_vecMulScalar16 3 = .ok (.iload 4, 2) := dk_21 4 (dk_at dksX2_vecMulScalar16_0 3 rfl rfl)
theorem dX2_vecMulScalar16_5 : decode cX2_vecMulScalar16 5 = .ok (.iload_n 3, 1) := dk_29 (dk_at dksX2_vecMulScalar16_0 5 rfl rfl)
theorem dX2_vecMulScalar16_6 : decode cX2_vecMulScalar16 6 = .ok (.if_icmp .ge 59, 3) := dk_162 0 59 (dk_at dksX2_vecMulScalar16_0 6 rfl rfl)
theorem dX2_vecMulScalar16_9 : decode cX2_vecMulScalar16 9 = .ok (.aload_n 0, 1) := dk_42 (dk_at dksX2_vecMulScalar16_0 9 rfl rfl)
theorem dX2_vecMulScalar16_10 : decode cX2_vecMulScalar16 10 = .ok (.iload_n 1, 1) := dk_27 (dk_at dksX2_vecMulScalar16_0 10 rfl rfl)
theorem dX2_vecMulScalar16_11 : decode cX2_vecMulScalar16 11 = .ok (.iload 4, 2) := dk_21 4 (dk_at dksX2_vecMulScalar16_0 11 rfl rfl)
theorem dX2_vecMulScalar16_13 : decode cX2_vecMulScalar16 13 = .ok (.iadd, 1) := dk_96 (dk_at dksX2_vecMulScalar16_0 13 rfl rfl)
theorem dX2_vecMulScalar16_14 : decode cX2_vecMulScalar16 14 = .ok (.baload, 1) := dk_51 (dk_at dksX2_vecMulScalar16_0 14 rfl rfl)
theorem dX2_vecMulScalar16_15 : decode cX2_vecMulScalar16 15 = .ok (.sipush 255, 3) := dk_17 0 255 (dk_at dksX2_vecMulScalar16_0 15 rfl rfl)
theorem dX2_vecMulScalar16_18 : decode cX2_vecMulScalar16 18 = .ok (.iand, 1) := dk_126 (dk_at dksX2_vecMulScalar16_0 18 rfl rfl)
theorem dX2_vecMulScalar16_19 : decode cX2_vecMulScalar16 19 = .ok (.istore 5, 2) := dk_54 5 (dk_at dksX2_vecMulScalar16_0 19 rfl rfl)
theorem dX2_vecMulScalar16_21 : decode cX2_vecMulScalar16 21 = .ok (.iload 5, 2) := dk_21 5 (dk_at dksX2_vecMulScalar16_0 21 rfl rfl)
theorem dX2_vecMulScalar16_23 : decode cX2_vecMulScalar16 23 = .ok (.bipush 15, 2) := dk_16 15 (dk_at dksX2_vecMulScalar16_1 0 rfl rfl)
theorem dX2_vecMulScalar16_25 : decode cX2_vecMulScalar16 25 = .ok (.iand, 1) := dk_126 (dk_at dksX2_vecMulScalar16_1 2 rfl rfl)
theorem dX2_vecMulScalar16_26 : decode cX2_vecMulScalar16 26 = .ok (.iload_n 2, 1) := dk_28 (dk_at dksX2_vecMulScalar16_1 3 rfl rfl)
theorem dX2_vecMulScalar16_27 : decode cX2_vecMulScalar16 27 = .ok (.invokestatic 21, 3) := dk_184 0 21 (dk_at dksX2_vecMulScalar16_1 4 rfl rfl)
theorem dX2_vecMulScalar16_30 : decode cX2_vecMulScalar16 30 = .ok (.istore 6, 2) := dk_54 6 (dk_at dksX2_vecMulScalar16_1 7 rfl rfl)
theorem dX2_vecMulScalar16_32 : decode cX2_vecMulScalar16 32 = .ok (.iload 5, 2) := dk_21 5 (dk_at dksX2_vecMulScalar16_1 9 rfl rfl)
theorem dX2_vecMulScalar16_34 : decode cX2_vecMulScalar16 34 = .ok (.iconst 4, 1) := dk_7 (dk_at dksX2_vecMulScalar16_1 11 rfl rfl)
theorem dX2_vecMulScalar16_35 : decode cX2_vecMulScalar16 35 = .ok (.iushr, 1) := dk_124 (dk_at dksX2_vecMulScalar16_1 12 rfl rfl)
theorem dX2_vecMulScalar16_36 : decode cX2_vecMulScalar16 36 = .ok (.bipush 15, 2) := dk_16 15 (dk_at dksX2_vecMulScalar16_1 13 rfl rfl)
theorem dX2_vecMulScalar16_38 : decode cX2_vecMulScalar16 38 = .ok (.iand, 1) := dk_126 (dk_at dksX2_vecMulScalar16_1 15 rfl rfl)
theorem dX2_vecMulScalar16_39 : decode cX2_vecMulScalar16 39 = .ok (.iload_n 2, 1) := dk_28 (dk_at dksX2_vecMulScalar16_1 16 rfl rfl)
theorem dX2_vecMulScalar16_40 : decode cX2_vecMulScalar16 40 = .ok (.invokestatic 21, 3) := dk_184 0 21 (dk_at dksX2_vecMulScalar16_1 17 rfl rfl)
theorem dX2_vecMulScalar16_43 : decode cX2_vecMulScalar16 43 = .ok (.istore 7, 2) := dk_54 7 (dk_at dksX2_vecMulScalar16_1 20 rfl rfl)
theorem dX2_vecMulScalar16_45 : decode cX2_vecMulScalar16 45 = .ok (.aload_n 0, 1) := dk_42 (dk_at dksX2_vecMulScalar16_1 22 rfl rfl)
theorem dX2_vecMulScalar16_46 : decode cX2_vecMulScalar16 46 = .ok (.iload_n 1, 1) := dk_27 (dk_at dksX2_vecMulScalar16_1 23 rfl rfl)
theorem dX2_vecMulScalar16_47 : decode cX2_vecMulScalar16 47 = .ok (.iload 4, 2) := dk_21 4 (dk_at dksX2_vecMulScalar16_2 0 rfl rfl)
theorem dX2_vecMulScalar16_49 : decode cX2_vecMulScalar16 49 = .ok (.iadd, 1) := dk_96 (dk_at dksX2_vecMulScalar16_2 2 rfl rfl)
theorem dX2_vecMulScalar16_50 : decode cX2_vecMulScalar16 50 = .ok (.iload 7, 2) := dk_21 7 (dk_at dksX2_vecMulScalar16_2 3 rfl rfl)
theorem dX2_vecMulScalar16_52 : decode cX2_vecMulScalar16 52 = .ok (.iconst 4, 1) := dk_7 (dk_at dksX2_vecMulScalar16_2 5 rfl rfl)
theorem dX2_vecMulScalar16_53 : decode cX2_vecMulScalar16 53 = .ok (.ishl, 1) := dk_120 (dk_at dksX2_vecMulScalar16_2 6 rfl rfl)
theorem dX2_vecMulScalar16_54 : decode cX2_vecMulScalar16 54 = .ok (.iload 6, 2) := dk_21 6 (dk_at dksX2_vecMulScalar16_2 7 rfl rfl)
theorem dX2_vecMulScalar16_56 : decode cX2_vecMulScalar16 56 = .ok (.ior, 1) := dk_128 (dk_at dksX2_vecMulScalar16_2 9 rfl rfl)
theorem dX2_vecMulScalar16_57 : decode cX2_vecMulScalar16 57 = .ok (.i2b, 1) := dk_145 (dk_at dksX2_vecMulScalar16_2 10 rfl rfl)
theorem dX2_vecMulScalar16_58 : decode cX2_vecMulScalar16 58 = .ok (.bastore, 1) := dk_84 (dk_at dksX2_vecMulScalar16_2 11 rfl rfl)
theorem dX2_vecMulScalar16_59 : decode cX2_vecMulScalar16 59 = .ok (.iinc 4 1, 3) := dk_132 4 1 (dk_at dksX2_vecMulScalar16_2 12 rfl rfl)
theorem dX2_vecMulScalar16_62 : decode cX2_vecMulScalar16 62 = .ok (.goto (-59), 3) := dk_167 255 197 (dk_at dksX2_vecMulScalar16_2 15 rfl rfl)
theorem dX2_vecMulScalar16_65 : decode cX2_vecMulScalar16 65 = .ok (.return_, 1) := dk_177 (dk_at dksX2_vecMulScalar16_2 18 rfl rfl)
abbrev cX2_vecMadd256 : ByteArray := prog_1_method_6_code
def yX2_vecMadd256 : MethodName := ⟨RX2, "vecMadd256", "([BI[BIII)V"⟩
def dkwX2_vecMadd256_4 : List UInt8 := [177]
abbrev dktX2_vecMadd256_4 : List UInt8 := dkwX2_vecMadd256_4 ++ []
def dkwX2_vecMadd256_3 : List UInt8 := [29, 21, 6, 96, 51, 17, 0, 255, 126, 21, 4, 184, 0, 17, 145, 130, 145, 84, 132, 6, 1, 167, 255, 220]
abbrev dktX2_vecMadd256_3 : List UInt8 := dkwX2_vecMadd256_3 ++ dktX2_vecMadd256_4
def dkwX2_vecMadd256_2 : List UInt8 := [184, 0, 13, 132, 6, 8, 167, 255, 205, 21, 6, 21, 5, 162, 0, 35, 42, 27, 21, 6, 96, 92, 51, 44]
abbrev dktX2_vecMadd256_2 : List UInt8 := dkwX2_vecMadd256_2 ++ dktX2_vecMadd256_3
def dkwX2_vecMadd256_1 : List UInt8 := [27, 21, 6, 96, 184, 0, 1, 55, 9, 22, 9, 21, 4, 22, 7, 184, 0, 7, 131, 42, 27, 21, 6, 96]
abbrev dktX2_vecMadd256_1 : List UInt8 := dkwX2_vecMadd256_1 ++ dktX2_vecMadd256_2
def dkwX2_vecMadd256_0 : List UInt8 := [3, 54, 6, 21, 6, 16, 8, 96, 21, 5, 163, 0, 47, 44, 29, 21, 6, 96, 184, 0, 1, 55, 7, 42]
abbrev dktX2_vecMadd256_0 : List UInt8 := dkwX2_vecMadd256_0 ++ dktX2_vecMadd256_1
theorem dksX2_vecMadd256_0 : cX2_vecMadd256.data.toList.drop 0 = dktX2_vecMadd256_0 := by decide +kernel
theorem dksX2_vecMadd256_1 : cX2_vecMadd256.data.toList.drop 24 = dktX2_vecMadd256_1 := dk_seg dksX2_vecMadd256_0 24 rfl rfl
theorem dksX2_vecMadd256_2 : cX2_vecMadd256.data.toList.drop 48 = dktX2_vecMadd256_2 := dk_seg dksX2_vecMadd256_1 24 rfl rfl
theorem dksX2_vecMadd256_3 : cX2_vecMadd256.data.toList.drop 72 = dktX2_vecMadd256_3 := dk_seg dksX2_vecMadd256_2 24 rfl rfl
theorem dksX2_vecMadd256_4 : cX2_vecMadd256.data.toList.drop 96 = dktX2_vecMadd256_4 := dk_seg dksX2_vecMadd256_3 24 rfl rfl
theorem dX2_vecMadd256_0 : decode cX2_vecMadd256 0 = .ok (.iconst 0, 1) := dk_3 (dk_at dksX2_vecMadd256_0 0 rfl rfl)
theorem dX2_vecMadd256_1 : decode cX2_vecMadd256 1 = .ok (.istore 6, 2) := dk_54 6 (dk_at dksX2_vecMadd256_0 1 rfl rfl)
theorem dX2_vecMadd256_3 : decode cX2_vecMadd256 3 = .ok (.iload 6, 2) := dk_21 6 (dk_at dksX2_vecMadd256_0 3 rfl rfl)
theorem dX2_vecMadd256_5 : decode cX2_vecMadd256 5 = .ok (.bipush 8, 2) := dk_16 8 (dk_at dksX2_vecMadd256_0 5 rfl rfl)
theorem dX2_vecMadd256_7 : decode cX2_vecMadd256 7 = .ok (.iadd, 1) := dk_96 (dk_at dksX2_vecMadd256_0 7 rfl rfl)
theorem dX2_vecMadd256_8 : decode cX2_vecMadd256 8 = .ok (.iload 5, 2) := dk_21 5 (dk_at dksX2_vecMadd256_0 8 rfl rfl)
theorem dX2_vecMadd256_10 : decode cX2_vecMadd256 10 = .ok (.if_icmp .gt 47, 3) := dk_163 0 47 (dk_at dksX2_vecMadd256_0 10 rfl rfl)
theorem dX2_vecMadd256_13 : decode cX2_vecMadd256 13 = .ok (.aload_n 2, 1) := dk_44 (dk_at dksX2_vecMadd256_0 13 rfl rfl)
theorem dX2_vecMadd256_14 : decode cX2_vecMadd256 14 = .ok (.iload_n 3, 1) := dk_29 (dk_at dksX2_vecMadd256_0 14 rfl rfl)
theorem dX2_vecMadd256_15 : decode cX2_vecMadd256 15 = .ok (.iload 6, 2) := dk_21 6 (dk_at dksX2_vecMadd256_0 15 rfl rfl)
theorem dX2_vecMadd256_17 : decode cX2_vecMadd256 17 = .ok (.iadd, 1) := dk_96 (dk_at dksX2_vecMadd256_0 17 rfl rfl)
theorem dX2_vecMadd256_18 : decode cX2_vecMadd256 18 = .ok (.invokestatic 1, 3) := dk_184 0 1 (dk_at dksX2_vecMadd256_0 18 rfl rfl)
theorem dX2_vecMadd256_21 : decode cX2_vecMadd256 21 = .ok (.lstore 7, 2) := dk_55 7 (dk_at dksX2_vecMadd256_0 21 rfl rfl)
theorem dX2_vecMadd256_23 : decode cX2_vecMadd256 23 = .ok (.aload_n 0, 1) := dk_42 (dk_at dksX2_vecMadd256_0 23 rfl rfl)
theorem dX2_vecMadd256_24 : decode cX2_vecMadd256 24 = .ok (.iload_n 1, 1) := dk_27 (dk_at dksX2_vecMadd256_1 0 rfl rfl)
theorem dX2_vecMadd256_25 : decode cX2_vecMadd256 25 = .ok (.iload 6, 2) := dk_21 6 (dk_at dksX2_vecMadd256_1 1 rfl rfl)
theorem dX2_vecMadd256_27 : decode cX2_vecMadd256 27 = .ok (.iadd, 1) := dk_96 (dk_at dksX2_vecMadd256_1 3 rfl rfl)
theorem dX2_vecMadd256_28 : decode cX2_vecMadd256 28 = .ok (.invokestatic 1, 3) := dk_184 0 1 (dk_at dksX2_vecMadd256_1 4 rfl rfl)
theorem dX2_vecMadd256_31 : decode cX2_vecMadd256 31 = .ok (.lstore 9, 2) := dk_55 9 (dk_at dksX2_vecMadd256_1 7 rfl rfl)
theorem dX2_vecMadd256_33 : decode cX2_vecMadd256 33 = .ok (.lload 9, 2) := dk_22 9 (dk_at dksX2_vecMadd256_1 9 rfl rfl)
theorem dX2_vecMadd256_35 : decode cX2_vecMadd256 35 = .ok (.iload 4, 2) := dk_21 4 (dk_at dksX2_vecMadd256_1 11 rfl rfl)
theorem dX2_vecMadd256_37 : decode cX2_vecMadd256 37 = .ok (.lload 7, 2) := dk_22 7 (dk_at dksX2_vecMadd256_1 13 rfl rfl)
theorem dX2_vecMadd256_39 : decode cX2_vecMadd256 39 = .ok (.invokestatic 7, 3) := dk_184 0 7 (dk_at dksX2_vecMadd256_1 15 rfl rfl)
theorem dX2_vecMadd256_42 : decode cX2_vecMadd256 42 = .ok (.lxor, 1) := dk_131 (dk_at dksX2_vecMadd256_1 18 rfl rfl)
theorem dX2_vecMadd256_43 : decode cX2_vecMadd256 43 = .ok (.aload_n 0, 1) := dk_42 (dk_at dksX2_vecMadd256_1 19 rfl rfl)
theorem dX2_vecMadd256_44 : decode cX2_vecMadd256 44 = .ok (.iload_n 1, 1) := dk_27 (dk_at dksX2_vecMadd256_1 20 rfl rfl)
theorem dX2_vecMadd256_45 : decode cX2_vecMadd256 45 = .ok (.iload 6, 2) := dk_21 6 (dk_at dksX2_vecMadd256_1 21 rfl rfl)
theorem dX2_vecMadd256_47 : decode cX2_vecMadd256 47 = .ok (.iadd, 1) := dk_96 (dk_at dksX2_vecMadd256_1 23 rfl rfl)
theorem dX2_vecMadd256_48 : decode cX2_vecMadd256 48 = .ok (.invokestatic 13, 3) := dk_184 0 13 (dk_at dksX2_vecMadd256_2 0 rfl rfl)
theorem dX2_vecMadd256_51 : decode cX2_vecMadd256 51 = .ok (.iinc 6 8, 3) := dk_132 6 8 (dk_at dksX2_vecMadd256_2 3 rfl rfl)
theorem dX2_vecMadd256_54 : decode cX2_vecMadd256 54 = .ok (.goto (-51), 3) := dk_167 255 205 (dk_at dksX2_vecMadd256_2 6 rfl rfl)
theorem dX2_vecMadd256_57 : decode cX2_vecMadd256 57 = .ok (.iload 6, 2) := dk_21 6 (dk_at dksX2_vecMadd256_2 9 rfl rfl)
theorem dX2_vecMadd256_59 : decode cX2_vecMadd256 59 = .ok (.iload 5, 2) := dk_21 5 (dk_at dksX2_vecMadd256_2 11 rfl rfl)
theorem dX2_vecMadd256_61 : decode cX2_vecMadd256 61 = .ok (.if_icmp .ge 35, 3) := dk_162 0 35 (dk_at dksX2_vecMadd256_2 13 rfl rfl)
theorem dX2_vecMadd256_64 : decode cX2_vecMadd256 64 = .ok (.aload_n 0, 1) := dk_42 (dk_at dksX2_vecMadd256_2 16 rfl rfl)
theorem dX2_vecMadd256_65 : decode cX2_vecMadd256 65 = .ok (.iload_n 1, 1) := dk_27 (dk_at dksX2_vecMadd256_2 17 rfl rfl)
theorem dX2_vecMadd256_66 : decode cX2_vecMadd256 66 = .ok (.iload 6, 2) := dk_21 6 (dk_at dksX2_vecMadd256_2 18 rfl rfl)
theorem dX2_vecMadd256_68 : decode cX2_vecMadd256 68 = .ok (.iadd, 1) := dk_96 (dk_at dksX2_vecMadd256_2 20 rfl rfl)
theorem dX2_vecMadd256_69 : decode cX2_vecMadd256 69 = .ok (.dup2, 1) := dk_92 (dk_at dksX2_vecMadd256_2 21 rfl rfl)
theorem dX2_vecMadd256_70 : decode cX2_vecMadd256 70 = .ok (.baload, 1) := dk_51 (dk_at dksX2_vecMadd256_2 22 rfl rfl)
theorem dX2_vecMadd256_71 : decode cX2_vecMadd256 71 = .ok (.aload_n 2, 1) := dk_44 (dk_at dksX2_vecMadd256_2 23 rfl rfl)
theorem dX2_vecMadd256_72 : decode cX2_vecMadd256 72 = .ok (.iload_n 3, 1) := dk_29 (dk_at dksX2_vecMadd256_3 0 rfl rfl)
theorem dX2_vecMadd256_73 : decode cX2_vecMadd256 73 = .ok (.iload 6, 2) := dk_21 6 (dk_at dksX2_vecMadd256_3 1 rfl rfl)
theorem dX2_vecMadd256_75 : decode cX2_vecMadd256 75 = .ok (.iadd, 1) := dk_96 (dk_at dksX2_vecMadd256_3 3 rfl rfl)
theorem dX2_vecMadd256_76 : decode cX2_vecMadd256 76 = .ok (.baload, 1) := dk_51 (dk_at dksX2_vecMadd256_3 4 rfl rfl)
theorem dX2_vecMadd256_77 : decode cX2_vecMadd256 77 = .ok (.sipush 255, 3) := dk_17 0 255 (dk_at dksX2_vecMadd256_3 5 rfl rfl)
theorem dX2_vecMadd256_80 : decode cX2_vecMadd256 80 = .ok (.iand, 1) := dk_126 (dk_at dksX2_vecMadd256_3 8 rfl rfl)
theorem dX2_vecMadd256_81 : decode cX2_vecMadd256 81 = .ok (.iload 4, 2) := dk_21 4 (dk_at dksX2_vecMadd256_3 9 rfl rfl)
theorem dX2_vecMadd256_83 : decode cX2_vecMadd256 83 = .ok (.invokestatic 17, 3) := dk_184 0 17 (dk_at dksX2_vecMadd256_3 11 rfl rfl)
theorem dX2_vecMadd256_86 : decode cX2_vecMadd256 86 = .ok (.i2b, 1) := dk_145 (dk_at dksX2_vecMadd256_3 14 rfl rfl)
theorem dX2_vecMadd256_87 : decode cX2_vecMadd256 87 = .ok (.ixor, 1) := dk_130 (dk_at dksX2_vecMadd256_3 15 rfl rfl)
theorem dX2_vecMadd256_88 : decode cX2_vecMadd256 88 = .ok (.i2b, 1) := dk_145 (dk_at dksX2_vecMadd256_3 16 rfl rfl)
theorem dX2_vecMadd256_89 : decode cX2_vecMadd256 89 = .ok (.bastore, 1) := dk_84 (dk_at dksX2_vecMadd256_3 17 rfl rfl)
theorem dX2_vecMadd256_90 : decode cX2_vecMadd256 90 = .ok (.iinc 6 1, 3) := dk_132 6 1 (dk_at dksX2_vecMadd256_3 18 rfl rfl)
theorem dX2_vecMadd256_93 : decode cX2_vecMadd256 93 = .ok (.goto (-36), 3) := dk_167 255 220 (dk_at dksX2_vecMadd256_3 21 rfl rfl)
theorem dX2_vecMadd256_96 : decode cX2_vecMadd256 96 = .ok (.return_, 1) := dk_177 (dk_at dksX2_vecMadd256_4 0 rfl rfl)
abbrev cX2_vecMadd16 : ByteArray := prog_1_method_8_code
def yX2_vecMadd16 : MethodName := ⟨RX2, "vecMadd16", "([BI[BIII)V"⟩
def dkwX2_vecMadd16_7 : List UInt8 := [145, 84, 132, 15, 1, 167, 255, 190, 177]
abbrev dktX2_vecMadd16_7 : List UInt8 := dkwX2_vecMadd16_7 ++ []
def dkwX2_vecMadd16_6 : List UInt8 := [126, 21, 6, 184, 0, 21, 54, 18, 42, 27, 21, 15, 96, 92, 51, 21, 18, 7, 120, 21, 17, 128, 145, 130]
abbrev dktX2_vecMadd16_6 : List UInt8 := dkwX2_vecMadd16_6 ++ dktX2_vecMadd16_7
def dkwX2_vecMadd16_5 : List UInt8 := [17, 0, 255, 126, 54, 16, 21, 16, 16, 15, 126, 21, 6, 184, 0, 21, 54, 17, 21, 16, 7, 124, 16, 15]
abbrev dktX2_vecMadd16_5 : List UInt8 := dkwX2_vecMadd16_5 ++ dktX2_vecMadd16_6
def dkwX2_vecMadd16_4 : List UInt8 := [96, 184, 0, 13, 132, 15, 8, 167, 255, 203, 21, 15, 21, 5, 162, 0, 65, 44, 29, 21, 15, 96, 51]
abbrev dktX2_vecMadd16_4 : List UInt8 := dkwX2_vecMadd16_4 ++ dktX2_vecMadd16_5
def dkwX2_vecMadd16_3 : List UInt8 := [22, 11, 22, 13, 184, 0, 24, 55, 16, 42, 27, 21, 15, 96, 184, 0, 1, 22, 16, 131, 42, 27, 21, 15]
abbrev dktX2_vecMadd16_3 : List UInt8 := dkwX2_vecMadd16_3 ++ dktX2_vecMadd16_4
def dkwX2_vecMadd16_2 : List UInt8 := [54, 15, 21, 15, 16, 8, 96, 21, 5, 163, 0, 49, 44, 29, 21, 15, 96, 184, 0, 1, 22, 7, 22, 9]
abbrev dktX2_vecMadd16_2 : List UInt8 := dkwX2_vecMadd16_2 ++ dktX2_vecMadd16_3
def dkwX2_vecMadd16_1 : List UInt8 := [55, 9, 21, 6, 5, 124, 4, 126, 133, 117, 55, 11, 21, 6, 6, 124, 4, 126, 133, 117, 55, 13, 3]
abbrev dktX2_vecMadd16_1 : List UInt8 := dkwX2_vecMadd16_1 ++ dktX2_vecMadd16_2
def dkwX2_vecMadd16_0 : List UInt8 := [21, 4, 16, 15, 126, 54, 6, 21, 6, 4, 126, 133, 117, 55, 7, 21, 6, 4, 124, 4, 126, 133, 117]
abbrev dktX2_vecMadd16_0 : List UInt8 := dkwX2_vecMadd16_0 ++ dktX2_vecMadd16_1
theorem dksX2_vecMadd16_0 : cX2_vecMadd16.data.toList.drop 0 = dktX2_vecMadd16_0 := by decide +kernel
theorem dksX2_vecMadd16_1 : cX2_vecMadd16.data.toList.drop 23 = dktX2_vecMadd16_1 := dk_seg dksX2_vecMadd16_0 23 rfl rfl
theorem dksX2_vecMadd16_2 : cX2_vecMadd16.data.toList.drop 46 = dktX2_vecMadd16_2 := dk_seg dksX2_vecMadd16_1 23 rfl rfl
theorem dksX2_vecMadd16_3 : cX2_vecMadd16.data.toList.drop 70 = dktX2_vecMadd16_3 := dk_seg dksX2_vecMadd16_2 24 rfl rfl
theorem dksX2_vecMadd16_4 : cX2_vecMadd16.data.toList.drop 94 = dktX2_vecMadd16_4 := dk_seg dksX2_vecMadd16_3 24 rfl rfl
theorem dksX2_vecMadd16_5 : cX2_vecMadd16.data.toList.drop 117 = dktX2_vecMadd16_5 := dk_seg dksX2_vecMadd16_4 23 rfl rfl
theorem dksX2_vecMadd16_6 : cX2_vecMadd16.data.toList.drop 141 = dktX2_vecMadd16_6 := dk_seg dksX2_vecMadd16_5 24 rfl rfl
theorem dksX2_vecMadd16_7 : cX2_vecMadd16.data.toList.drop 165 = dktX2_vecMadd16_7 := dk_seg dksX2_vecMadd16_6 24 rfl rfl
theorem dX2_vecMadd16_0 : decode cX2_vecMadd16 0 = .ok (.iload 4, 2) := dk_21 4 (dk_at dksX2_vecMadd16_0 0 rfl rfl)
theorem dX2_vecMadd16_2 : decode cX2_vecMadd16 2 = .ok (.bipush 15, 2) := dk_16 15 (dk_at dksX2_vecMadd16_0 2 rfl rfl)
theorem dX2_vecMadd16_4 : decode cX2_vecMadd16 4 = .ok (.iand, 1) := dk_126 (dk_at dksX2_vecMadd16_0 4 rfl rfl)
theorem dX2_vecMadd16_5 : decode cX2_vecMadd16 5 = .ok (.istore 6, 2) := dk_54 6 (dk_at dksX2_vecMadd16_0 5 rfl rfl)
theorem dX2_vecMadd16_7 : decode cX2_vecMadd16 7 = .ok (.iload 6, 2) := dk_21 6 (dk_at dksX2_vecMadd16_0 7 rfl rfl)
theorem dX2_vecMadd16_9 : decode cX2_vecMadd16 9 = .ok (.iconst 1, 1) := dk_4 (dk_at dksX2_vecMadd16_0 9 rfl rfl)
theorem dX2_vecMadd16_10 : decode cX2_vecMadd16 10 = .ok (.iand, 1) := dk_126 (dk_at dksX2_vecMadd16_0 10 rfl rfl)
theorem dX2_vecMadd16_11 : decode cX2_vecMadd16 11 = .ok (.i2l, 1) := dk_133 (dk_at dksX2_vecMadd16_0 11 rfl rfl)
theorem dX2_vecMadd16_12 : decode cX2_vecMadd16 12 = .ok (.lneg, 1) := dk_117 (dk_at dksX2_vecMadd16_0 12 rfl rfl)
theorem dX2_vecMadd16_13 : decode cX2_vecMadd16 13 = .ok (.lstore 7, 2) := dk_55 7 (dk_at dksX2_vecMadd16_0 13 rfl rfl)
theorem dX2_vecMadd16_15 : decode cX2_vecMadd16 15 = .ok (.iload 6, 2) := dk_21 6 (dk_at dksX2_vecMadd16_0 15 rfl rfl)
theorem dX2_vecMadd16_17 : decode cX2_vecMadd16 17 = .ok (.iconst 1, 1) := dk_4 (dk_at dksX2_vecMadd16_0 17 rfl rfl)
theorem dX2_vecMadd16_18 : decode cX2_vecMadd16 18 = .ok (.iushr, 1) := dk_124 (dk_at dksX2_vecMadd16_0 18 rfl rfl)
theorem dX2_vecMadd16_19 : decode cX2_vecMadd16 19 = .ok (.iconst 1, 1) := dk_4 (dk_at dksX2_vecMadd16_0 19 rfl rfl)
theorem dX2_vecMadd16_20 : decode cX2_vecMadd16 20 = .ok (.iand, 1) := dk_126 (dk_at dksX2_vecMadd16_0 20 rfl rfl)
theorem dX2_vecMadd16_21 : decode cX2_vecMadd16 21 = .ok (.i2l, 1) := dk_133 (dk_at dksX2_vecMadd16_0 21 rfl rfl)
theorem dX2_vecMadd16_22 : decode cX2_vecMadd16 22 = .ok (.lneg, 1) := dk_117 (dk_at dksX2_vecMadd16_0 22 rfl rfl)
theorem dX2_vecMadd16_23 : decode cX2_vecMadd16 23 = .ok (.lstore 9, 2) := dk_55 9 (dk_at dksX2_vecMadd16_1 0 rfl rfl)
theorem dX2_vecMadd16_25 : decode cX2_vecMadd16 25 = .ok (.iload 6, 2) := dk_21 6 (dk_at dksX2_vecMadd16_1 2 rfl rfl)
theorem dX2_vecMadd16_27 : decode cX2_vecMadd16 27 = .ok (.iconst 2, 1) := dk_5 (dk_at dksX2_vecMadd16_1 4 rfl rfl)
theorem dX2_vecMadd16_28 : decode cX2_vecMadd16 28 = .ok (.iushr, 1) := dk_124 (dk_at dksX2_vecMadd16_1 5 rfl rfl)
theorem dX2_vecMadd16_29 : decode cX2_vecMadd16 29 = .ok (.iconst 1, 1) := dk_4 (dk_at dksX2_vecMadd16_1 6 rfl rfl)
theorem dX2_vecMadd16_30 : decode cX2_vecMadd16 30 = .ok (.iand, 1) := dk_126 (dk_at dksX2_vecMadd16_1 7 rfl rfl)
theorem dX2_vecMadd16_31 : decode cX2_vecMadd16 31 = .ok (.i2l, 1) := dk_133 (dk_at dksX2_vecMadd16_1 8 rfl rfl)
theorem dX2_vecMadd16_32 : decode cX2_vecMadd16 32 = .ok (.lneg, 1) := dk_117 (dk_at dksX2_vecMadd16_1 9 rfl rfl)
theorem dX2_vecMadd16_33 : decode cX2_vecMadd16 33 = .ok (.lstore 11, 2) := dk_55 11 (dk_at dksX2_vecMadd16_1 10 rfl rfl)
theorem dX2_vecMadd16_35 : decode cX2_vecMadd16 35 = .ok (.iload 6, 2) := dk_21 6 (dk_at dksX2_vecMadd16_1 12 rfl rfl)
theorem dX2_vecMadd16_37 : decode cX2_vecMadd16 37 = .ok (.iconst 3, 1) := dk_6 (dk_at dksX2_vecMadd16_1 14 rfl rfl)
theorem dX2_vecMadd16_38 : decode cX2_vecMadd16 38 = .ok (.iushr, 1) := dk_124 (dk_at dksX2_vecMadd16_1 15 rfl rfl)
theorem dX2_vecMadd16_39 : decode cX2_vecMadd16 39 = .ok (.iconst 1, 1) := dk_4 (dk_at dksX2_vecMadd16_1 16 rfl rfl)
theorem dX2_vecMadd16_40 : decode cX2_vecMadd16 40 = .ok (.iand, 1) := dk_126 (dk_at dksX2_vecMadd16_1 17 rfl rfl)
theorem dX2_vecMadd16_41 : decode cX2_vecMadd16 41 = .ok (.i2l, 1) := dk_133 (dk_at dksX2_vecMadd16_1 18 rfl rfl)
theorem dX2_vecMadd16_42 : decode cX2_vecMadd16 42 = .ok (.lneg, 1) := dk_117 (dk_at dksX2_vecMadd16_1 19 rfl rfl)
theorem dX2_vecMadd16_43 : decode cX2_vecMadd16 43 = .ok (.lstore 13, 2) := dk_55 13 (dk_at dksX2_vecMadd16_1 20 rfl rfl)
theorem dX2_vecMadd16_45 : decode cX2_vecMadd16 45 = .ok (.iconst 0, 1) := dk_3 (dk_at dksX2_vecMadd16_1 22 rfl rfl)
theorem dX2_vecMadd16_46 : decode cX2_vecMadd16 46 = .ok (.istore 15, 2) := dk_54 15 (dk_at dksX2_vecMadd16_2 0 rfl rfl)
theorem dX2_vecMadd16_48 : decode cX2_vecMadd16 48 = .ok (.iload 15, 2) := dk_21 15 (dk_at dksX2_vecMadd16_2 2 rfl rfl)
theorem dX2_vecMadd16_50 : decode cX2_vecMadd16 50 = .ok (.bipush 8, 2) := dk_16 8 (dk_at dksX2_vecMadd16_2 4 rfl rfl)
theorem dX2_vecMadd16_52 : decode cX2_vecMadd16 52 = .ok (.iadd, 1) := dk_96 (dk_at dksX2_vecMadd16_2 6 rfl rfl)
theorem dX2_vecMadd16_53 : decode cX2_vecMadd16 53 = .ok (.iload 5, 2) := dk_21 5 (dk_at dksX2_vecMadd16_2 7 rfl rfl)
theorem dX2_vecMadd16_55 : decode cX2_vecMadd16 55 = .ok (.if_icmp .gt 49, 3) := dk_163 0 49 (dk_at dksX2_vecMadd16_2 9 rfl rfl)
theorem dX2_vecMadd16_58 : decode cX2_vecMadd16 58 = .ok (.aload_n 2, 1) := dk_44 (dk_at dksX2_vecMadd16_2 12 rfl rfl)
theorem dX2_vecMadd16_59 : decode cX2_vecMadd16 59 = .ok (.iload_n 3, 1) := dk_29 (dk_at dksX2_vecMadd16_2 13 rfl rfl)
theorem dX2_vecMadd16_60 : decode cX2_vecMadd16 60 = .ok (.iload 15, 2) := dk_21 15 (dk_at dksX2_vecMadd16_2 14 rfl rfl)
theorem dX2_vecMadd16_62 : decode cX2_vecMadd16 62 = .ok (.iadd, 1) := dk_96 (dk_at dksX2_vecMadd16_2 16 rfl rfl)
theorem dX2_vecMadd16_63 : decode cX2_vecMadd16 63 = .ok (.invokestatic 1, 3) := dk_184 0 1 (dk_at dksX2_vecMadd16_2 17 rfl rfl)
theorem dX2_vecMadd16_66 : decode cX2_vecMadd16 66 = .ok (.lload 7, 2) := dk_22 7 (dk_at dksX2_vecMadd16_2 20 rfl rfl)
theorem dX2_vecMadd16_68 : decode cX2_vecMadd16 68 = .ok (.lload 9, 2) := dk_22 9 (dk_at dksX2_vecMadd16_2 22 rfl rfl)
theorem dX2_vecMadd16_70 : decode cX2_vecMadd16 70 = .ok (.lload 11, 2) := dk_22 11 (dk_at dksX2_vecMadd16_3 0 rfl rfl)
theorem dX2_vecMadd16_72 : decode cX2_vecMadd16 72 = .ok (.lload 13, 2) := dk_22 13 (dk_at dksX2_vecMadd16_3 2 rfl rfl)
theorem dX2_vecMadd16_74 : decode cX2_vecMadd16 74 = .ok (.invokestatic 24, 3) := dk_184 0 24 (dk_at dksX2_vecMadd16_3 4 rfl rfl)
theorem dX2_vecMadd16_77 : decode cX2_vecMadd16 77 = .ok (.lstore 16, 2) := dk_55 16 (dk_at dksX2_vecMadd16_3 7 rfl rfl)
theorem dX2_vecMadd16_79 : decode cX2_vecMadd16 79 = .ok (.aload_n 0, 1) := dk_42 (dk_at dksX2_vecMadd16_3 9 rfl rfl)
theorem dX2_vecMadd16_80 : decode cX2_vecMadd16 80 = .ok (.iload_n 1, 1) := dk_27 (dk_at dksX2_vecMadd16_3 10 rfl rfl)
theorem dX2_vecMadd16_81 : decode cX2_vecMadd16 81 = .ok (.iload 15, 2) := dk_21 15 (dk_at dksX2_vecMadd16_3 11 rfl rfl)
theorem dX2_vecMadd16_83 : decode cX2_vecMadd16 83 = .ok (.iadd, 1) := dk_96 (dk_at dksX2_vecMadd16_3 13 rfl rfl)
theorem dX2_vecMadd16_84 : decode cX2_vecMadd16 84 = .ok (.invokestatic 1, 3) := dk_184 0 1 (dk_at dksX2_vecMadd16_3 14 rfl rfl)
theorem dX2_vecMadd16_87 : decode cX2_vecMadd16 87 = .ok (.lload 16, 2) := dk_22 16 (dk_at dksX2_vecMadd16_3 17 rfl rfl)
theorem dX2_vecMadd16_89 : decode cX2_vecMadd16 89 = .ok (.lxor, 1) := dk_131 (dk_at dksX2_vecMadd16_3 19 rfl rfl)
theorem dX2_vecMadd16_90 : decode cX2_vecMadd16 90 = .ok (.aload_n 0, 1) := dk_42 (dk_at dksX2_vecMadd16_3 20 rfl rfl)
theorem dX2_vecMadd16_91 : decode cX2_vecMadd16 91 = .ok (.iload_n 1, 1) := dk_27 (dk_at dksX2_vecMadd16_3 21 rfl rfl)
theorem dX2_vecMadd16_92 : decode cX2_vecMadd16 92 = .ok (.iload 15, 2) := dk_21 15 (dk_at dksX2_vecMadd16_3 22 rfl rfl)
theorem dX2_vecMadd16_94 : decode cX2_vecMadd16 94 = .ok (.iadd, 1) := dk_96 (dk_at dksX2_vecMadd16_4 0 rfl rfl)
theorem dX2_vecMadd16_95 : decode cX2_vecMadd16 95 = .ok (.invokestatic 13, 3) := dk_184 0 13 (dk_at dksX2_vecMadd16_4 1 rfl rfl)
theorem dX2_vecMadd16_98 : decode cX2_vecMadd16 98 = .ok (.iinc 15 8, 3) := dk_132 15 8 (dk_at dksX2_vecMadd16_4 4 rfl rfl)
theorem dX2_vecMadd16_101 : decode cX2_vecMadd16 101 = .ok (.goto (-53), 3) := dk_167 255 203 (dk_at dksX2_vecMadd16_4 7 rfl rfl)
theorem dX2_vecMadd16_104 : decode cX2_vecMadd16 104 = .ok (.iload 15, 2) := dk_21 15 (dk_at dksX2_vecMadd16_4 10 rfl rfl)
theorem dX2_vecMadd16_106 : decode cX2_vecMadd16 106 = .ok (.iload 5, 2) := dk_21 5 (dk_at dksX2_vecMadd16_4 12 rfl rfl)
theorem dX2_vecMadd16_108 : decode cX2_vecMadd16 108 = .ok (.if_icmp .ge 65, 3) := dk_162 0 65 (dk_at dksX2_vecMadd16_4 14 rfl rfl)
theorem dX2_vecMadd16_111 : decode cX2_vecMadd16 111 = .ok (.aload_n 2, 1) := dk_44 (dk_at dksX2_vecMadd16_4 17 rfl rfl)
theorem dX2_vecMadd16_112 : decode cX2_vecMadd16 112 = .ok (.iload_n 3, 1) := dk_29 (dk_at dksX2_vecMadd16_4 18 rfl rfl)
theorem dX2_vecMadd16_113 : decode cX2_vecMadd16 113 = .ok (.iload 15, 2) := dk_21 15 (dk_at dksX2_vecMadd16_4 19 rfl rfl)
theorem dX2_vecMadd16_115 : decode cX2_vecMadd16 115 = .ok (.iadd, 1) := dk_96 (dk_at dksX2_vecMadd16_4 21 rfl rfl)
theorem dX2_vecMadd16_116 : decode cX2_vecMadd16 116 = .ok (.baload, 1) := dk_51 (dk_at dksX2_vecMadd16_4 22 rfl rfl)
theorem dX2_vecMadd16_117 : decode cX2_vecMadd16 117 = .ok (.sipush 255, 3) := dk_17 0 255 (dk_at dksX2_vecMadd16_5 0 rfl rfl)
theorem dX2_vecMadd16_120 : decode cX2_vecMadd16 120 = .ok (.iand, 1) := dk_126 (dk_at dksX2_vecMadd16_5 3 rfl rfl)
theorem dX2_vecMadd16_121 : decode cX2_vecMadd16 121 = .ok (.istore 16, 2) := dk_54 16 (dk_at dksX2_vecMadd16_5 4 rfl rfl)
theorem dX2_vecMadd16_123 : decode cX2_vecMadd16 123 = .ok (.iload 16, 2) := dk_21 16 (dk_at dksX2_vecMadd16_5 6 rfl rfl)
theorem dX2_vecMadd16_125 : decode cX2_vecMadd16 125 = .ok (.bipush 15, 2) := dk_16 15 (dk_at dksX2_vecMadd16_5 8 rfl rfl)
theorem dX2_vecMadd16_127 : decode cX2_vecMadd16 127 = .ok (.iand, 1) := dk_126 (dk_at dksX2_vecMadd16_5 10 rfl rfl)
theorem dX2_vecMadd16_128 : decode cX2_vecMadd16 128 = .ok (.iload 6, 2) := dk_21 6 (dk_at dksX2_vecMadd16_5 11 rfl rfl)
theorem dX2_vecMadd16_130 : decode cX2_vecMadd16 130 = .ok (.invokestatic 21, 3) := dk_184 0 21 (dk_at dksX2_vecMadd16_5 13 rfl rfl)
theorem dX2_vecMadd16_133 : decode cX2_vecMadd16 133 = .ok (.istore 17, 2) := dk_54 17 (dk_at dksX2_vecMadd16_5 16 rfl rfl)
theorem dX2_vecMadd16_135 : decode cX2_vecMadd16 135 = .ok (.iload 16, 2) := dk_21 16 (dk_at dksX2_vecMadd16_5 18 rfl rfl)
theorem dX2_vecMadd16_137 : decode cX2_vecMadd16 137 = .ok (.iconst 4, 1) := dk_7 (dk_at dksX2_vecMadd16_5 20 rfl rfl)
theorem dX2_vecMadd16_138 : decode cX2_vecMadd16 138 = .ok (.iushr, 1) := dk_124 (dk_at dksX2_vecMadd16_5 21 rfl rfl)
theorem dX2_vecMadd16_139 : decode cX2_vecMadd16 139 = .ok (.bipush 15, 2) := dk_16 15 (dk_at dksX2_vecMadd16_5 22 rfl rfl)
theorem dX2_vecMadd16_141 : decode cX2_vecMadd16 141 = .ok (.iand, 1) := dk_126 (dk_at dksX2_vecMadd16_6 0 rfl rfl)
theorem dX2_vecMadd16_142 : decode cX2_vecMadd16 142 = .ok (.iload 6, 2) := dk_21 6 (dk_at dksX2_vecMadd16_6 1 rfl rfl)
theorem dX2_vecMadd16_144 : decode cX2_vecMadd16 144 = .ok (.invokestatic 21, 3) := dk_184 0 21 (dk_at dksX2_vecMadd16_6 3 rfl rfl)
theorem dX2_vecMadd16_147 : decode cX2_vecMadd16 147 = .ok (.istore 18, 2) := dk_54 18 (dk_at dksX2_vecMadd16_6 6 rfl rfl)
theorem dX2_vecMadd16_149 : decode cX2_vecMadd16 149 = .ok (.aload_n 0, 1) := dk_42 (dk_at dksX2_vecMadd16_6 8 rfl rfl)
theorem dX2_vecMadd16_150 : decode cX2_vecMadd16 150 = .ok (.iload_n 1, 1) := dk_27 (dk_at dksX2_vecMadd16_6 9 rfl rfl)
theorem dX2_vecMadd16_151 : decode cX2_vecMadd16 151 = .ok (.iload 15, 2) := dk_21 15 (dk_at dksX2_vecMadd16_6 10 rfl rfl)
theorem dX2_vecMadd16_153 : decode cX2_vecMadd16 153 = .ok (.iadd, 1) := dk_96 (dk_at dksX2_vecMadd16_6 12 rfl rfl)
theorem dX2_vecMadd16_154 : decode cX2_vecMadd16 154 = .ok (.dup2, 1) := dk_92 (dk_at dksX2_vecMadd16_6 13 rfl rfl)
theorem dX2_vecMadd16_155 : decode cX2_vecMadd16 155 = .ok (.baload, 1) := dk_51 (dk_at dksX2_vecMadd16_6 14 rfl rfl)
theorem dX2_vecMadd16_156 : decode cX2_vecMadd16 156 = .ok (.iload 18, 2) := dk_21 18 (dk_at dksX2_vecMadd16_6 15 rfl rfl)
theorem dX2_vecMadd16_158 : decode cX2_vecMadd16 158 = .ok (.iconst 4, 1) := dk_7 (dk_at dksX2_vecMadd16_6 17 rfl rfl)
theorem dX2_vecMadd16_159 : decode cX2_vecMadd16 159 = .ok (.ishl, 1) := dk_120 (dk_at dksX2_vecMadd16_6 18 rfl rfl)
theorem dX2_vecMadd16_160 : decode cX2_vecMadd16 160 = .ok (.iload 17, 2) := dk_21 17 (dk_at dksX2_vecMadd16_6 19 rfl rfl)
theorem dX2_vecMadd16_162 : decode cX2_vecMadd16 162 = .ok (.ior, 1) := dk_128 (dk_at dksX2_vecMadd16_6 21 rfl rfl)
theorem dX2_vecMadd16_163 : decode cX2_vecMadd16 163 = .ok (.i2b, 1) := dk_145 (dk_at dksX2_vecMadd16_6 22 rfl rfl)
theorem dX2_vecMadd16_164 : decode cX2_vecMadd16 164 = .ok (.ixor, 1) := dk_130 (dk_at dksX2_vecMadd16_6 23 rfl rfl)
theorem dX2_vecMadd16_165 : decode cX2_vecMadd16 165 = .ok (.i2b, 1) := dk_145 (dk_at dksX2_vecMadd16_7 0 rfl rfl)
theorem dX2_vecMadd16_166 : decode cX2_vecMadd16 166 = .ok (.bastore, 1) := dk_84 (dk_at dksX2_vecMadd16_7 1 rfl rfl)
theorem dX2_vecMadd16_167 : decode cX2_vecMadd16 167 = .ok (.iinc 15 1, 3) := dk_132 15 1 (dk_at dksX2_vecMadd16_7 2 rfl rfl)
theorem dX2_vecMadd16_170 : decode cX2_vecMadd16 170 = .ok (.goto (-66), 3) := dk_167 255 190 (dk_at dksX2_vecMadd16_7 5 rfl rfl)
theorem dX2_vecMadd16_173 : decode cX2_vecMadd16 173 = .ok (.return_, 1) := dk_177 (dk_at dksX2_vecMadd16_7 8 rfl rfl)
abbrev cX2_getEle16 : ByteArray := prog_1_method_1_code
def yX2_getEle16 : MethodName := ⟨RX2, "getEle16", "([BI)I"⟩
def dkwX2_getEle16_1 : List UInt8 := [16, 15, 126, 172]
abbrev dktX2_getEle16_1 : List UInt8 := dkwX2_getEle16_1 ++ []
def dkwX2_getEle16_0 : List UInt8 := [42, 27, 4, 124, 51, 17, 0, 255, 126, 61, 27, 4, 126, 153, 0, 9, 28, 7, 124, 167, 0, 7, 28]
abbrev dktX2_getEle16_0 : List UInt8 := dkwX2_getEle16_0 ++ dktX2_getEle16_1
theorem dksX2_getEle16_0 : cX2_getEle16.data.toList.drop 0 = dktX2_getEle16_0 := by decide +kernel
theorem dksX2_getEle16_1 : cX2_getEle16.data.toList.drop 23 = dktX2_getEle16_1 := dk_seg dksX2_getEle16_0 23 rfl rfl
theorem dX2_getEle16_0 : decode cX2_getEle16 0 = .ok (.aload_n 0, 1) := dk_42 (dk_at dksX2_getEle16_0 0 rfl rfl)
theorem dX2_getEle16_1 : decode cX2_getEle16 1 = .ok (.iload_n 1, 1) := dk_27 (dk_at dksX2_getEle16_0 1 rfl rfl)
theorem dX2_getEle16_2 : decode cX2_getEle16 2 = .ok (.iconst 1, 1) := dk_4 (dk_at dksX2_getEle16_0 2 rfl rfl)
theorem dX2_getEle16_3 : decode cX2_getEle16 3 = .ok (.iushr, 1) := dk_124 (dk_at dksX2_getEle16_0 3 rfl rfl)
theorem dX2_getEle16_4 : decode cX2_getEle16 4 = .ok (.baload, 1) := dk_51 (dk_at dksX2_getEle16_0 4 rfl rfl)
theorem dX2_getEle16_5 : decode cX2_getEle16 5 = .ok (.sipush 255, 3) := dk_17 0 255 (dk_at dksX2_getEle16_0 5 rfl rfl)
theorem dX2_getEle16_8 : decode cX2_getEle16 8 = .ok (.iand, 1) := dk_126 (dk_at dksX2_getEle16_0 8 rfl rfl)
theorem dX2_getEle16_9 : decode cX2_getEle16 9 = .ok (.istore_n 2, 1) := dk_61 (dk_at dksX2_getEle16_0 9 rfl rfl)
theorem dX2_getEle16_10 : decode cX2_getEle16 10 = .ok (.iload_n 1, 1) := dk_27 (dk_at dksX2_getEle16_0 10 rfl rfl)
theorem dX2_getEle16_11 : decode cX2_getEle16 11 = .ok (.iconst 1, 1) := dk_4 (dk_at dksX2_getEle16_0 11 rfl rfl)
theorem dX2_getEle16_12 : decode cX2_getEle16 12 = .ok (.iand, 1) := dk_126 (dk_at dksX2_getEle16_0 12 rfl rfl)
theorem dX2_getEle16_13 : decode cX2_getEle16 13 = .ok (.ifCond .eq 9, 3) := dk_153 0 9 (dk_at dksX2_getEle16_0 13 rfl rfl)
theorem dX2_getEle16_16 : decode cX2_getEle16 16 = .ok (.iload_n 2, 1) := dk_28 (dk_at dksX2_getEle16_0 16 rfl rfl)
theorem dX2_getEle16_17 : decode cX2_getEle16 17 = .ok (.iconst 4, 1) := dk_7 (dk_at dksX2_getEle16_0 17 rfl rfl)
theorem dX2_getEle16_18 : decode cX2_getEle16 18 = .ok (.iushr, 1) := dk_124 (dk_at dksX2_getEle16_0 18 rfl rfl)
theorem dX2_getEle16_19 : decode cX2_getEle16 19 = .ok (.goto 7, 3) := dk_167 0 7 (dk_at dksX2_getEle16_0 19 rfl rfl)
theorem dX2_getEle16_22 : decode cX2_getEle16 22 = .ok (.iload_n 2, 1) := dk_28 (dk_at dksX2_getEle16_0 22 rfl rfl)
theorem dX2_getEle16_23 : decode cX2_getEle16 23 = .ok (.bipush 15, 2) := dk_16 15 (dk_at dksX2_getEle16_1 0 rfl rfl)
theorem dX2_getEle16_25 : decode cX2_getEle16 25 = .ok (.iand, 1) := dk_126 (dk_at dksX2_getEle16_1 2 rfl rfl)
theorem dX2_getEle16_26 : decode cX2_getEle16 26 = .ok (.ireturn, 1) := dk_172 (dk_at dksX2_getEle16_1 3 rfl rfl)
abbrev cX2_setEle16 : ByteArray := prog_1_method_2_code
def yX2_setEle16 : MethodName := ⟨RX2, "setEle16", "([BII)V"⟩
def dkwX2_setEle16_2 : List UInt8 := [54, 4, 42, 29, 21, 4, 145, 84, 177]
abbrev dktX2_setEle16_2 : List UInt8 := dkwX2_setEle16_2 ++ []
def dkwX2_setEle16_1 : List UInt8 := [28, 16, 15, 126, 7, 120, 128, 54, 4, 167, 0, 16, 21, 4, 17, 0, 240, 126, 28, 16, 15, 126, 128]
abbrev dktX2_setEle16_1 : List UInt8 := dkwX2_setEle16_1 ++ dktX2_setEle16_2
def dkwX2_setEle16_0 : List UInt8 := [27, 4, 124, 62, 42, 29, 51, 17, 0, 255, 126, 54, 4, 27, 4, 126, 153, 0, 20, 21, 4, 16, 15, 126]
abbrev dktX2_setEle16_0 : List UInt8 := dkwX2_setEle16_0 ++ dktX2_setEle16_1
theorem dksX2_setEle16_0 : cX2_setEle16.data.toList.drop 0 = dktX2_setEle16_0 := by decide +kernel
theorem dksX2_setEle16_1 : cX2_setEle16.data.toList.drop 24 = dktX2_setEle16_1 := dk_seg dksX2_setEle16_0 24 rfl rfl
theorem dksX2_setEle16_2 : cX2_setEle16.data.toList.drop 47 = dktX2_setEle16_2 := dk_seg dksX2_setEle16_1 23 rfl rfl
theorem dX2_setEle16_0 : decode cX2_setEle16 0 = .ok (.iload_n 1, 1) := dk_27 (dk_at dksX2_setEle16_0 0 rfl rfl)
theorem dX2_setEle16_1 : decode cX2_setEle16 1 = .ok (.iconst 1, 1) := dk_4 (dk_at dksX2_setEle16_0 1 rfl rfl)
theorem dX2_setEle16_2 : decode cX2_setEle16 2 = .ok (.iushr, 1) := dk_124 (dk_at dksX2_setEle16_0 2 rfl rfl)
theorem dX2_setEle16_3 : decode cX2_setEle16 3 = .ok (.istore_n 3, 1) := dk_62 (dk_at dksX2_setEle16_0 3 rfl rfl)
theorem dX2_setEle16_4 : decode cX2_setEle16 4 = .ok (.aload_n 0, 1) := dk_42 (dk_at dksX2_setEle16_0 4 rfl rfl)
theorem dX2_setEle16_5 : decode cX2_setEle16 5 = .ok (.iload_n 3, 1) := dk_29 (dk_at dksX2_setEle16_0 5 rfl rfl)
theorem dX2_setEle16_6 : decode cX2_setEle16 6 = .ok (.baload, 1) := dk_51 (dk_at dksX2_setEle16_0 6 rfl rfl)
theorem dX2_setEle16_7 : decode cX2_setEle16 7 = .ok (.sipush 255, 3) := dk_17 0 255 (dk_at dksX2_setEle16_0 7 rfl rfl)
theorem dX2_setEle16_10 : decode cX2_setEle16 10 = .ok (.iand, 1) := dk_126 (dk_at dksX2_setEle16_0 10 rfl rfl)
theorem dX2_setEle16_11 : decode cX2_setEle16 11 = .ok (.istore 4, 2) := dk_54 4 (dk_at dksX2_setEle16_0 11 rfl rfl)
theorem dX2_setEle16_13 : decode cX2_setEle16 13 = .ok (.iload_n 1, 1) := dk_27 (dk_at dksX2_setEle16_0 13 rfl rfl)
theorem dX2_setEle16_14 : decode cX2_setEle16 14 = .ok (.iconst 1, 1) := dk_4 (dk_at dksX2_setEle16_0 14 rfl rfl)
theorem dX2_setEle16_15 : decode cX2_setEle16 15 = .ok (.iand, 1) := dk_126 (dk_at dksX2_setEle16_0 15 rfl rfl)
theorem dX2_setEle16_16 : decode cX2_setEle16 16 = .ok (.ifCond .eq 20, 3) := dk_153 0 20 (dk_at dksX2_setEle16_0 16 rfl rfl)
theorem dX2_setEle16_19 : decode cX2_setEle16 19 = .ok (.iload 4, 2) := dk_21 4 (dk_at dksX2_setEle16_0 19 rfl rfl)
theorem dX2_setEle16_21 : decode cX2_setEle16 21 = .ok (.bipush 15, 2) := dk_16 15 (dk_at dksX2_setEle16_0 21 rfl rfl)
theorem dX2_setEle16_23 : decode cX2_setEle16 23 = .ok (.iand, 1) := dk_126 (dk_at dksX2_setEle16_0 23 rfl rfl)
theorem dX2_setEle16_24 : decode cX2_setEle16 24 = .ok (.iload_n 2, 1) := dk_28 (dk_at dksX2_setEle16_1 0 rfl rfl)
theorem dX2_setEle16_25 : decode cX2_setEle16 25 = .ok (.bipush 15, 2) := dk_16 15 (dk_at dksX2_setEle16_1 1 rfl rfl)
theorem dX2_setEle16_27 : decode cX2_setEle16 27 = .ok (.iand, 1) := dk_126 (dk_at dksX2_setEle16_1 3 rfl rfl)
theorem dX2_setEle16_28 : decode cX2_setEle16 28 = .ok (.iconst 4, 1) := dk_7 (dk_at dksX2_setEle16_1 4 rfl rfl)
theorem dX2_setEle16_29 : decode cX2_setEle16 29 = .ok (.ishl, 1) := dk_120 (dk_at dksX2_setEle16_1 5 rfl rfl)
theorem dX2_setEle16_30 : decode cX2_setEle16 30 = .ok (.ior, 1) := dk_128 (dk_at dksX2_setEle16_1 6 rfl rfl)
theorem dX2_setEle16_31 : decode cX2_setEle16 31 = .ok (.istore 4, 2) := dk_54 4 (dk_at dksX2_setEle16_1 7 rfl rfl)
theorem dX2_setEle16_33 : decode cX2_setEle16 33 = .ok (.goto 16, 3) := dk_167 0 16 (dk_at dksX2_setEle16_1 9 rfl rfl)
theorem dX2_setEle16_36 : decode cX2_setEle16 36 = .ok (.iload 4, 2) := dk_21 4 (dk_at dksX2_setEle16_1 12 rfl rfl)
theorem dX2_setEle16_38 : decode cX2_setEle16 38 = .ok (.sipush 240, 3) := dk_17 0 240 (dk_at dksX2_setEle16_1 14 rfl rfl)
theorem dX2_setEle16_41 : decode cX2_setEle16 41 = .ok (.iand, 1) := dk_126 (dk_at dksX2_setEle16_1 17 rfl rfl)
theorem dX2_setEle16_42 : decode cX2_setEle16 42 = .ok (.iload_n 2, 1) := dk_28 (dk_at dksX2_setEle16_1 18 rfl rfl)
theorem dX2_setEle16_43 : decode cX2_setEle16 43 = .ok (.bipush 15, 2) := dk_16 15 (dk_at dksX2_setEle16_1 19 rfl rfl)
theorem dX2_setEle16_45 : decode cX2_setEle16 45 = .ok (.iand, 1) := dk_126 (dk_at dksX2_setEle16_1 21 rfl rfl)
theorem dX2_setEle16_46 : decode cX2_setEle16 46 = .ok (.ior, 1) := dk_128 (dk_at dksX2_setEle16_1 22 rfl rfl)
theorem dX2_setEle16_47 : decode cX2_setEle16 47 = .ok (.istore 4, 2) := dk_54 4 (dk_at dksX2_setEle16_2 0 rfl rfl)
theorem dX2_setEle16_49 : decode cX2_setEle16 49 = .ok (.aload_n 0, 1) := dk_42 (dk_at dksX2_setEle16_2 2 rfl rfl)
theorem dX2_setEle16_50 : decode cX2_setEle16 50 = .ok (.iload_n 3, 1) := dk_29 (dk_at dksX2_setEle16_2 3 rfl rfl)
theorem dX2_setEle16_51 : decode cX2_setEle16 51 = .ok (.iload 4, 2) := dk_21 4 (dk_at dksX2_setEle16_2 4 rfl rfl)
theorem dX2_setEle16_53 : decode cX2_setEle16 53 = .ok (.i2b, 1) := dk_145 (dk_at dksX2_setEle16_2 6 rfl rfl)
theorem dX2_setEle16_54 : decode cX2_setEle16 54 = .ok (.bastore, 1) := dk_84 (dk_at dksX2_setEle16_2 7 rfl rfl)
theorem dX2_setEle16_55 : decode cX2_setEle16 55 = .ok (.return_, 1) := dk_177 (dk_at dksX2_setEle16_2 8 rfl rfl)
theorem q6 : (Jvm.Cond.initialized "GF") ∈ lw_all := lw_g (lw_at lw_m0 3 rfl) rfl
theorem q38 : (Jvm.Cond.static ({ cls := "GF", name := "vecAdd", desc := "([BI[BII)V" } : Jvm.MethodName)) ∈ lw_all := lw_g (lw_at lw_m0 35 rfl) rfl
theorem q39 : (Jvm.Cond.code ({ cls := "GF", name := "vecAdd", desc := "([BI[BII)V" } : Jvm.MethodName) prog_1_method_3_code (6 : Nat) (Option.none : Option Jvm.ClassFile.FieldType)) ∈ lw_all := lw_g (lw_at lw_m0 36 rfl) rfl
theorem q45 : (Jvm.Cond.static ({ cls := "GF", name := "vecConditionalAdd", desc := "([BII[BII)V" } : Jvm.MethodName)) ∈ lw_all := lw_g (lw_at lw_m0 42 rfl) rfl
theorem q46 : (Jvm.Cond.code ({ cls := "GF", name := "vecConditionalAdd", desc := "([BII[BII)V" } : Jvm.MethodName) prog_1_method_4_code (8 : Nat) (Option.none : Option Jvm.ClassFile.FieldType)) ∈ lw_all := lw_g (lw_at lw_m0 43 rfl) rfl
theorem q52 : (Jvm.Cond.static ({ cls := "GF", name := "vecMulScalar256", desc := "([BIII)V" } : Jvm.MethodName)) ∈ lw_all := lw_g (lw_at lw_m0 49 rfl) rfl
theorem q53 : (Jvm.Cond.code ({ cls := "GF", name := "vecMulScalar256", desc := "([BIII)V" } : Jvm.MethodName) prog_1_method_5_code (7 : Nat) (Option.none : Option Jvm.ClassFile.FieldType)) ∈ lw_all := lw_g (lw_at lw_m0 50 rfl) rfl
theorem q54 : (Jvm.Cond.methodLink "GF" (1 : Nat) ({ cls := "Pack", name := "littleEndianToLong", desc := "([BI)J" } : Jvm.MethodName)) ∈ lw_all := lw_g (lw_at lw_m0 51 rfl) rfl
theorem q61 : (Jvm.Cond.methodLink "GF" (7 : Nat) ({ cls := "GF256AES", name := "mulFx8", desc := "(IJ)J" } : Jvm.MethodName)) ∈ lw_all := lw_g (lw_at lw_m0 58 rfl) rfl
theorem q67 : (Jvm.Cond.methodLink "GF" (13 : Nat) ({ cls := "Pack", name := "longToLittleEndian", desc := "(J[BI)V" } : Jvm.MethodName)) ∈ lw_all := lw_g (lw_at lw_m0 64 rfl) rfl
theorem q73 : (Jvm.Cond.methodLink "GF" (17 : Nat) ({ cls := "GF256AES", name := "mul", desc := "(II)I" } : Jvm.MethodName)) ∈ lw_all := lw_g (lw_at lw_m0 70 rfl) rfl
theorem q81 : (Jvm.Cond.static ({ cls := "GF", name := "vecMulScalar16", desc := "([BIII)V" } : Jvm.MethodName)) ∈ lw_all := lw_g (lw_at lw_m0 78 rfl) rfl
theorem q82 : (Jvm.Cond.code ({ cls := "GF", name := "vecMulScalar16", desc := "([BIII)V" } : Jvm.MethodName) prog_1_method_7_code (8 : Nat) (Option.none : Option Jvm.ClassFile.FieldType)) ∈ lw_all := lw_g (lw_at lw_m0 79 rfl) rfl
theorem q83 : (Jvm.Cond.methodLink "GF" (21 : Nat) ({ cls := "GF16", name := "mul", desc := "(II)I" } : Jvm.MethodName)) ∈ lw_all := lw_g (lw_at lw_m0 80 rfl) rfl
theorem q91 : (Jvm.Cond.static ({ cls := "GF", name := "vecMadd256", desc := "([BI[BIII)V" } : Jvm.MethodName)) ∈ lw_all := lw_g (lw_at lw_m0 88 rfl) rfl
theorem q92 : (Jvm.Cond.code ({ cls := "GF", name := "vecMadd256", desc := "([BI[BIII)V" } : Jvm.MethodName) prog_1_method_6_code (11 : Nat) (Option.none : Option Jvm.ClassFile.FieldType)) ∈ lw_all := lw_g (lw_at lw_m0 89 rfl) rfl
theorem q98 : (Jvm.Cond.static ({ cls := "GF", name := "vecMadd16", desc := "([BI[BIII)V" } : Jvm.MethodName)) ∈ lw_all := lw_g (lw_at lw_m0 95 rfl) rfl
theorem q99 : (Jvm.Cond.code ({ cls := "GF", name := "vecMadd16", desc := "([BI[BIII)V" } : Jvm.MethodName) prog_1_method_8_code (19 : Nat) (Option.none : Option Jvm.ClassFile.FieldType)) ∈ lw_all := lw_g (lw_at lw_m0 96 rfl) rfl
theorem q100 : (Jvm.Cond.methodLink "GF" (24 : Nat) ({ cls := "GF16", name := "mulAddStep16", desc := "(JJJJJ)J" } : Jvm.MethodName)) ∈ lw_all := lw_g (lw_at lw_m0 97 rfl) rfl
theorem q110 : (Jvm.Cond.static ({ cls := "GF", name := "getEle16", desc := "([BI)I" } : Jvm.MethodName)) ∈ lw_all := lw_g (lw_at lw_m0 107 rfl) rfl
theorem q111 : (Jvm.Cond.code ({ cls := "GF", name := "getEle16", desc := "([BI)I" } : Jvm.MethodName) prog_1_method_1_code (3 : Nat) (Option.some Jvm.ClassFile.FieldType.int)) ∈ lw_all := lw_g (lw_at lw_m0 108 rfl) rfl
theorem q117 : (Jvm.Cond.static ({ cls := "GF", name := "setEle16", desc := "([BII)V" } : Jvm.MethodName)) ∈ lw_all := lw_g (lw_at lw_m0 114 rfl) rfl
theorem q118 : (Jvm.Cond.code ({ cls := "GF", name := "setEle16", desc := "([BII)V" } : Jvm.MethodName) prog_1_method_2_code (5 : Nat) (Option.none : Option Jvm.ClassFile.FieldType)) ∈ lw_all := lw_g (lw_at lw_m0 115 rfl) rfl
end
section
/-! OilVectorDesk -/
set_option maxRecDepth 100000
def RX0 : String := "OilVectorDesk"
def TX0 : u_T := fun k => match k with
  | _ => ("OilVectorDesk", "rows", "[[B", true)
def tyX0 : Nat → FieldType := fun k => match k with
  | _ => .array (.array .byte)
abbrev wsX00 : List Cond := u_ws RX0 TX0 1
theorem nmX0 : ∀ a, a < 1 → ∀ b, b < 1 → a ≠ b → (TX0 a).2.1 ≠ (TX0 b).2.1 := by decide +kernel
theorem tyX0_ok : ∀ k, k < 1 → parseFieldDescriptor (TX0 k).2.2.1 = some (tyX0 k) := by decide +kernel
abbrev cX0_init : ByteArray := prog_4_method_1_code
def yX0_init : MethodName := ⟨RX0, "<init>", "()V"⟩
def dkwX0_init_1 : List UInt8 := [5, 16, 32, 188, 8, 83, 89, 6, 16, 32, 188, 8, 83, 181, 0, 9, 177]
abbrev dktX0_init_1 : List UInt8 := dkwX0_init_1 ++ []
def dkwX0_init_0 : List UInt8 := [42, 183, 0, 1, 42, 7, 189, 0, 7, 89, 3, 16, 32, 188, 8, 83, 89, 4, 16, 32, 188, 8, 83, 89]
abbrev dktX0_init_0 : List UInt8 := dkwX0_init_0 ++ dktX0_init_1
theorem dksX0_init_0 : cX0_init.data.toList.drop 0 = dktX0_init_0 := by decide +kernel
theorem dksX0_init_1 : cX0_init.data.toList.drop 24 = dktX0_init_1 := dk_seg dksX0_init_0 24 rfl rfl
theorem dX0_init_0 : decode cX0_init 0 = .ok (.aload_n 0, 1) := dk_42 (dk_at dksX0_init_0 0 rfl rfl)
theorem dX0_init_1 : decode cX0_init 1 = .ok (.invokespecial 1, 3) := dk_183 0 1 (dk_at dksX0_init_0 1 rfl rfl)
theorem dX0_init_4 : decode cX0_init 4 = .ok (.aload_n 0, 1) := dk_42 (dk_at dksX0_init_0 4 rfl rfl)
theorem dX0_init_5 : decode cX0_init 5 = .ok (.iconst 4, 1) := dk_7 (dk_at dksX0_init_0 5 rfl rfl)
theorem dX0_init_6 : decode cX0_init 6 = .ok (.anewarray 7, 3) := dk_189 0 7 (dk_at dksX0_init_0 6 rfl rfl)
theorem dX0_init_9 : decode cX0_init 9 = .ok (.dup, 1) := dk_89 (dk_at dksX0_init_0 9 rfl rfl)
theorem dX0_init_10 : decode cX0_init 10 = .ok (.iconst 0, 1) := dk_3 (dk_at dksX0_init_0 10 rfl rfl)
theorem dX0_init_11 : decode cX0_init 11 = .ok (.bipush 32, 2) := dk_16 32 (dk_at dksX0_init_0 11 rfl rfl)
theorem dX0_init_13 : decode cX0_init 13 = .ok (.newarray .byte, 2) := dk_188_8 (dk_at dksX0_init_0 13 rfl rfl)
theorem dX0_init_15 : decode cX0_init 15 = .ok (.aastore, 1) := dk_83 (dk_at dksX0_init_0 15 rfl rfl)
theorem dX0_init_16 : decode cX0_init 16 = .ok (.dup, 1) := dk_89 (dk_at dksX0_init_0 16 rfl rfl)
theorem dX0_init_17 : decode cX0_init 17 = .ok (.iconst 1, 1) := dk_4 (dk_at dksX0_init_0 17 rfl rfl)
theorem dX0_init_18 : decode cX0_init 18 = .ok (.bipush 32, 2) := dk_16 32 (dk_at dksX0_init_0 18 rfl rfl)
theorem dX0_init_20 : decode cX0_init 20 = .ok (.newarray .byte, 2) := dk_188_8 (dk_at dksX0_init_0 20 rfl rfl)
theorem dX0_init_22 : decode cX0_init 22 = .ok (.aastore, 1) := dk_83 (dk_at dksX0_init_0 22 rfl rfl)
theorem dX0_init_23 : decode cX0_init 23 = .ok (.dup, 1) := dk_89 (dk_at dksX0_init_0 23 rfl rfl)
theorem dX0_init_24 : decode cX0_init 24 = .ok (.iconst 2, 1) := dk_5 (dk_at dksX0_init_1 0 rfl rfl)
theorem dX0_init_25 : decode cX0_init 25 = .ok (.bipush 32, 2) := dk_16 32 (dk_at dksX0_init_1 1 rfl rfl)
theorem dX0_init_27 : decode cX0_init 27 = .ok (.newarray .byte, 2) := dk_188_8 (dk_at dksX0_init_1 3 rfl rfl)
theorem dX0_init_29 : decode cX0_init 29 = .ok (.aastore, 1) := dk_83 (dk_at dksX0_init_1 5 rfl rfl)
theorem dX0_init_30 : decode cX0_init 30 = .ok (.dup, 1) := dk_89 (dk_at dksX0_init_1 6 rfl rfl)
theorem dX0_init_31 : decode cX0_init 31 = .ok (.iconst 3, 1) := dk_6 (dk_at dksX0_init_1 7 rfl rfl)
theorem dX0_init_32 : decode cX0_init 32 = .ok (.bipush 32, 2) := dk_16 32 (dk_at dksX0_init_1 8 rfl rfl)
theorem dX0_init_34 : decode cX0_init 34 = .ok (.newarray .byte, 2) := dk_188_8 (dk_at dksX0_init_1 10 rfl rfl)
theorem dX0_init_36 : decode cX0_init 36 = .ok (.aastore, 1) := dk_83 (dk_at dksX0_init_1 12 rfl rfl)
theorem dX0_init_37 : decode cX0_init 37 = .ok (.putfield 9, 3) := dk_181 0 9 (dk_at dksX0_init_1 13 rfl rfl)
theorem dX0_init_40 : decode cX0_init 40 = .ok (.return_, 1) := dk_177 (dk_at dksX0_init_1 16 rfl rfl)
abbrev cX0_lay : ByteArray := prog_4_method_3_code
def yX0_lay : MethodName := ⟨RX0, "lay", "(IIIII)V"⟩
def dkwX0_lay_2 : List UInt8 := [21, 5, 184, 0, 16, 177]
abbrev dktX0_lay_2 : List UInt8 := dkwX0_lay_2 ++ []
def dkwX0_lay_1 : List UInt8 := [21, 7, 29, 184, 0, 16, 25, 6, 21, 7, 7, 96, 21, 4, 184, 0, 16, 25, 6, 21, 7, 16, 8, 96]
abbrev dktX0_lay_1 : List UInt8 := dkwX0_lay_1 ++ dktX0_lay_2
def dkwX0_lay_0 : List UInt8 := [42, 180, 0, 9, 27, 6, 126, 50, 58, 6, 28, 18, 15, 126, 16, 6, 112, 7, 104, 54, 7, 25, 6]
abbrev dktX0_lay_0 : List UInt8 := dkwX0_lay_0 ++ dktX0_lay_1
theorem dksX0_lay_0 : cX0_lay.data.toList.drop 0 = dktX0_lay_0 := by decide +kernel
theorem dksX0_lay_1 : cX0_lay.data.toList.drop 23 = dktX0_lay_1 := dk_seg dksX0_lay_0 23 rfl rfl
theorem dksX0_lay_2 : cX0_lay.data.toList.drop 47 = dktX0_lay_2 := dk_seg dksX0_lay_1 24 rfl rfl
theorem dX0_lay_0 : decode cX0_lay 0 = .ok (.aload_n 0, 1) := dk_42 (dk_at dksX0_lay_0 0 rfl rfl)
theorem dX0_lay_1 : decode cX0_lay 1 = .ok (.getfield 9, 3) := dk_180 0 9 (dk_at dksX0_lay_0 1 rfl rfl)
theorem dX0_lay_4 : decode cX0_lay 4 = .ok (.iload_n 1, 1) := dk_27 (dk_at dksX0_lay_0 4 rfl rfl)
theorem dX0_lay_5 : decode cX0_lay 5 = .ok (.iconst 3, 1) := dk_6 (dk_at dksX0_lay_0 5 rfl rfl)
theorem dX0_lay_6 : decode cX0_lay 6 = .ok (.iand, 1) := dk_126 (dk_at dksX0_lay_0 6 rfl rfl)
theorem dX0_lay_7 : decode cX0_lay 7 = .ok (.aaload, 1) := dk_50 (dk_at dksX0_lay_0 7 rfl rfl)
theorem dX0_lay_8 : decode cX0_lay 8 = .ok (.astore 6, 2) := dk_58 6 (dk_at dksX0_lay_0 8 rfl rfl)
theorem dX0_lay_10 : decode cX0_lay 10 = .ok (.iload_n 2, 1) := dk_28 (dk_at dksX0_lay_0 10 rfl rfl)
theorem dX0_lay_11 : decode cX0_lay 11 = .ok (.ldc 15, 2) := dk_18 15 (dk_at dksX0_lay_0 11 rfl rfl)
theorem dX0_lay_13 : decode cX0_lay 13 = .ok (.iand, 1) := dk_126 (dk_at dksX0_lay_0 13 rfl rfl)
theorem dX0_lay_14 : decode cX0_lay 14 = .ok (.bipush 6, 2) := dk_16 6 (dk_at dksX0_lay_0 14 rfl rfl)
theorem dX0_lay_16 : decode cX0_lay 16 = .ok (.irem, 1) := dk_112 (dk_at dksX0_lay_0 16 rfl rfl)
theorem dX0_lay_17 : decode cX0_lay 17 = .ok (.iconst 4, 1) := dk_7 (dk_at dksX0_lay_0 17 rfl rfl)
theorem dX0_lay_18 : decode cX0_lay 18 = .ok (.imul, 1) := dk_104 (dk_at dksX0_lay_0 18 rfl rfl)
theorem dX0_lay_19 : decode cX0_lay 19 = .ok (.istore 7, 2) := dk_54 7 (dk_at dksX0_lay_0 19 rfl rfl)
theorem dX0_lay_21 : decode cX0_lay 21 = .ok (.aload 6, 2) := dk_25 6 (dk_at dksX0_lay_0 21 rfl rfl)
theorem dX0_lay_23 : decode cX0_lay 23 = .ok (.iload 7, 2) := dk_21 7 (dk_at dksX0_lay_1 0 rfl rfl)
theorem dX0_lay_25 : decode cX0_lay 25 = .ok (.iload_n 3, 1) := dk_29 (dk_at dksX0_lay_1 2 rfl rfl)
theorem dX0_lay_26 : decode cX0_lay 26 = .ok (.invokestatic 16, 3) := dk_184 0 16 (dk_at dksX0_lay_1 3 rfl rfl)
theorem dX0_lay_29 : decode cX0_lay 29 = .ok (.aload 6, 2) := dk_25 6 (dk_at dksX0_lay_1 6 rfl rfl)
theorem dX0_lay_31 : decode cX0_lay 31 = .ok (.iload 7, 2) := dk_21 7 (dk_at dksX0_lay_1 8 rfl rfl)
theorem dX0_lay_33 : decode cX0_lay 33 = .ok (.iconst 4, 1) := dk_7 (dk_at dksX0_lay_1 10 rfl rfl)
theorem dX0_lay_34 : decode cX0_lay 34 = .ok (.iadd, 1) := dk_96 (dk_at dksX0_lay_1 11 rfl rfl)
theorem dX0_lay_35 : decode cX0_lay 35 = .ok (.iload 4, 2) := dk_21 4 (dk_at dksX0_lay_1 12 rfl rfl)
theorem dX0_lay_37 : decode cX0_lay 37 = .ok (.invokestatic 16, 3) := dk_184 0 16 (dk_at dksX0_lay_1 14 rfl rfl)
theorem dX0_lay_40 : decode cX0_lay 40 = .ok (.aload 6, 2) := dk_25 6 (dk_at dksX0_lay_1 17 rfl rfl)
theorem dX0_lay_42 : decode cX0_lay 42 = .ok (.iload 7, 2) := dk_21 7 (dk_at dksX0_lay_1 19 rfl rfl)
theorem dX0_lay_44 : decode cX0_lay 44 = .ok (.bipush 8, 2) := dk_16 8 (dk_at dksX0_lay_1 21 rfl rfl)
theorem dX0_lay_46 : decode cX0_lay 46 = .ok (.iadd, 1) := dk_96 (dk_at dksX0_lay_1 23 rfl rfl)
theorem dX0_lay_47 : decode cX0_lay 47 = .ok (.iload 5, 2) := dk_21 5 (dk_at dksX0_lay_2 0 rfl rfl)
theorem dX0_lay_49 : decode cX0_lay 49 = .ok (.invokestatic 16, 3) := dk_184 0 16 (dk_at dksX0_lay_2 2 rfl rfl)
theorem dX0_lay_52 : decode cX0_lay 52 = .ok (.return_, 1) := dk_177 (dk_at dksX0_lay_2 5 rfl rfl)
abbrev cX0_word : ByteArray := prog_4_method_2_code
def yX0_word : MethodName := ⟨RX0, "word", "([BII)V"⟩
def dkwX0_word_1 : List UInt8 := [16, 8, 122, 145, 84, 42, 27, 6, 96, 28, 145, 84, 177]
abbrev dktX0_word_1 : List UInt8 := dkwX0_word_1 ++ []
def dkwX0_word_0 : List UInt8 := [42, 27, 28, 16, 24, 122, 145, 84, 42, 27, 4, 96, 28, 16, 16, 122, 145, 84, 42, 27, 5, 96, 28]
abbrev dktX0_word_0 : List UInt8 := dkwX0_word_0 ++ dktX0_word_1
theorem dksX0_word_0 : cX0_word.data.toList.drop 0 = dktX0_word_0 := by decide +kernel
theorem dksX0_word_1 : cX0_word.data.toList.drop 23 = dktX0_word_1 := dk_seg dksX0_word_0 23 rfl rfl
theorem dX0_word_0 : decode cX0_word 0 = .ok (.aload_n 0, 1) := dk_42 (dk_at dksX0_word_0 0 rfl rfl)
theorem dX0_word_1 : decode cX0_word 1 = .ok (.iload_n 1, 1) := dk_27 (dk_at dksX0_word_0 1 rfl rfl)
theorem dX0_word_2 : decode cX0_word 2 = .ok (.iload_n 2, 1) := dk_28 (dk_at dksX0_word_0 2 rfl rfl)
theorem dX0_word_3 : decode cX0_word 3 = .ok (.bipush 24, 2) := dk_16 24 (dk_at dksX0_word_0 3 rfl rfl)
theorem dX0_word_5 : decode cX0_word 5 = .ok (.ishr, 1) := dk_122 (dk_at dksX0_word_0 5 rfl rfl)
theorem dX0_word_6 : decode cX0_word 6 = .ok (.i2b, 1) := dk_145 (dk_at dksX0_word_0 6 rfl rfl)
theorem dX0_word_7 : decode cX0_word 7 = .ok (.bastore, 1) := dk_84 (dk_at dksX0_word_0 7 rfl rfl)
theorem dX0_word_8 : decode cX0_word 8 = .ok (.aload_n 0, 1) := dk_42 (dk_at dksX0_word_0 8 rfl rfl)
theorem dX0_word_9 : decode cX0_word 9 = .ok (.iload_n 1, 1) := dk_27 (dk_at dksX0_word_0 9 rfl rfl)
theorem dX0_word_10 : decode cX0_word 10 = .ok (.iconst 1, 1) := dk_4 (dk_at dksX0_word_0 10 rfl rfl)
theorem dX0_word_11 : decode cX0_word 11 = .ok (.iadd, 1) := dk_96 (dk_at dksX0_word_0 11 rfl rfl)
theorem dX0_word_12 : decode cX0_word 12 = .ok (.iload_n 2, 1) := dk_28 (dk_at dksX0_word_0 12 rfl rfl)
theorem dX0_word_13 : decode cX0_word 13 = .ok (.bipush 16, 2) := dk_16 16 (dk_at dksX0_word_0 13 rfl rfl)
theorem dX0_word_15 : decode cX0_word 15 = .ok (.ishr, 1) := dk_122 (dk_at dksX0_word_0 15 rfl rfl)
theorem dX0_word_16 : decode cX0_word 16 = .ok (.i2b, 1) := dk_145 (dk_at dksX0_word_0 16 rfl rfl)
theorem dX0_word_17 : decode cX0_word 17 = .ok (.bastore, 1) := dk_84 (dk_at dksX0_word_0 17 rfl rfl)
theorem dX0_word_18 : decode cX0_word 18 = .ok (.aload_n 0, 1) := dk_42 (dk_at dksX0_word_0 18 rfl rfl)
theorem dX0_word_19 : decode cX0_word 19 = .ok (.iload_n 1, 1) := dk_27 (dk_at dksX0_word_0 19 rfl rfl)
theorem dX0_word_20 : decode cX0_word 20 = .ok (.iconst 2, 1) := dk_5 (dk_at dksX0_word_0 20 rfl rfl)
theorem dX0_word_21 : decode cX0_word 21 = .ok (.iadd, 1) := dk_96 (dk_at dksX0_word_0 21 rfl rfl)
theorem dX0_word_22 : decode cX0_word 22 = .ok (.iload_n 2, 1) := dk_28 (dk_at dksX0_word_0 22 rfl rfl)
theorem dX0_word_23 : decode cX0_word 23 = .ok (.bipush 8, 2) := dk_16 8 (dk_at dksX0_word_1 0 rfl rfl)
theorem dX0_word_25 : decode cX0_word 25 = .ok (.ishr, 1) := dk_122 (dk_at dksX0_word_1 2 rfl rfl)
theorem dX0_word_26 : decode cX0_word 26 = .ok (.i2b, 1) := dk_145 (dk_at dksX0_word_1 3 rfl rfl)
theorem dX0_word_27 : decode cX0_word 27 = .ok (.bastore, 1) := dk_84 (dk_at dksX0_word_1 4 rfl rfl)
theorem dX0_word_28 : decode cX0_word 28 = .ok (.aload_n 0, 1) := dk_42 (dk_at dksX0_word_1 5 rfl rfl)
theorem dX0_word_29 : decode cX0_word 29 = .ok (.iload_n 1, 1) := dk_27 (dk_at dksX0_word_1 6 rfl rfl)
theorem dX0_word_30 : decode cX0_word 30 = .ok (.iconst 3, 1) := dk_6 (dk_at dksX0_word_1 7 rfl rfl)
theorem dX0_word_31 : decode cX0_word 31 = .ok (.iadd, 1) := dk_96 (dk_at dksX0_word_1 8 rfl rfl)
theorem dX0_word_32 : decode cX0_word 32 = .ok (.iload_n 2, 1) := dk_28 (dk_at dksX0_word_1 9 rfl rfl)
theorem dX0_word_33 : decode cX0_word 33 = .ok (.i2b, 1) := dk_145 (dk_at dksX0_word_1 10 rfl rfl)
theorem dX0_word_34 : decode cX0_word 34 = .ok (.bastore, 1) := dk_84 (dk_at dksX0_word_1 11 rfl rfl)
theorem dX0_word_35 : decode cX0_word 35 = .ok (.return_, 1) := dk_177 (dk_at dksX0_word_1 12 rfl rfl)
abbrev cX0_add : ByteArray := prog_4_method_4_code
def yX0_add : MethodName := ⟨RX0, "add", "(II)V"⟩
def dkwX0_add_1 : List UInt8 := [126, 50, 3, 16, 32, 184, 0, 20, 177]
abbrev dktX0_add_1 : List UInt8 := dkwX0_add_1 ++ []
def dkwX0_add_0 : List UInt8 := [27, 6, 126, 28, 6, 126, 159, 0, 26, 42, 180, 0, 9, 27, 6, 126, 50, 3, 42, 180, 0, 9, 28, 6]
abbrev dktX0_add_0 : List UInt8 := dkwX0_add_0 ++ dktX0_add_1
theorem dksX0_add_0 : cX0_add.data.toList.drop 0 = dktX0_add_0 := by decide +kernel
theorem dksX0_add_1 : cX0_add.data.toList.drop 24 = dktX0_add_1 := dk_seg dksX0_add_0 24 rfl rfl
theorem dX0_add_0 : decode cX0_add 0 = .ok (.iload_n 1, 1) := dk_27 (dk_at dksX0_add_0 0 rfl rfl)
theorem dX0_add_1 : decode cX0_add 1 = .ok (.iconst 3, 1) := dk_6 (dk_at dksX0_add_0 1 rfl rfl)
theorem dX0_add_2 : decode cX0_add 2 = .ok (.iand, 1) := dk_126 (dk_at dksX0_add_0 2 rfl rfl)
theorem dX0_add_3 : decode cX0_add 3 = .ok (.iload_n 2, 1) := dk_28 (dk_at dksX0_add_0 3 rfl rfl)
theorem dX0_add_4 : decode cX0_add 4 = .ok (.iconst 3, 1) := dk_6 (dk_at dksX0_add_0 4 rfl rfl)
theorem dX0_add_5 : decode cX0_add 5 = .ok (.iand, 1) := dk_126 (dk_at dksX0_add_0 5 rfl rfl)
theorem dX0_add_6 : decode cX0_add 6 = .ok (.if_icmp .eq 26, 3) := dk_159 0 26 (dk_at dksX0_add_0 6 rfl rfl)
theorem dX0_add_9 : decode cX0_add 9 = .ok (.aload_n 0, 1) := dk_42 (dk_at dksX0_add_0 9 rfl rfl)
theorem dX0_add_10 : decode cX0_add 10 = .ok (.getfield 9, 3) := dk_180 0 9 (dk_at dksX0_add_0 10 rfl rfl)
theorem dX0_add_13 : decode cX0_add 13 = .ok (.iload_n 1, 1) := dk_27 (dk_at dksX0_add_0 13 rfl rfl)
theorem dX0_add_14 : decode cX0_add 14 = .ok (.iconst 3, 1) := dk_6 (dk_at dksX0_add_0 14 rfl rfl)
theorem dX0_add_15 : decode cX0_add 15 = .ok (.iand, 1) := dk_126 (dk_at dksX0_add_0 15 rfl rfl)
theorem dX0_add_16 : decode cX0_add 16 = .ok (.aaload, 1) := dk_50 (dk_at dksX0_add_0 16 rfl rfl)
theorem dX0_add_17 : decode cX0_add 17 = .ok (.iconst 0, 1) := dk_3 (dk_at dksX0_add_0 17 rfl rfl)
theorem dX0_add_18 : decode cX0_add 18 = .ok (.aload_n 0, 1) := dk_42 (dk_at dksX0_add_0 18 rfl rfl)
theorem dX0_add_19 : decode cX0_add 19 = .ok (.getfield 9, 3) := dk_180 0 9 (dk_at dksX0_add_0 19 rfl rfl)
theorem dX0_add_22 : decode cX0_add 22 = .ok (.iload_n 2, 1) := dk_28 (dk_at dksX0_add_0 22 rfl rfl)
theorem dX0_add_23 : decode cX0_add 23 = .ok (.iconst 3, 1) := dk_6 (dk_at dksX0_add_0 23 rfl rfl)
theorem dX0_add_24 : decode cX0_add 24 = .ok (.iand, 1) := dk_126 (dk_at dksX0_add_1 0 rfl rfl)
theorem dX0_add_25 : decode cX0_add 25 = .ok (.aaload, 1) := dk_50 (dk_at dksX0_add_1 1 rfl rfl)
theorem dX0_add_26 : decode cX0_add 26 = .ok (.iconst 0, 1) := dk_3 (dk_at dksX0_add_1 2 rfl rfl)
theorem dX0_add_27 : decode cX0_add 27 = .ok (.bipush 32, 2) := dk_16 32 (dk_at dksX0_add_1 3 rfl rfl)
theorem dX0_add_29 : decode cX0_add 29 = .ok (.invokestatic 20, 3) := dk_184 0 20 (dk_at dksX0_add_1 5 rfl rfl)
theorem dX0_add_32 : decode cX0_add 32 = .ok (.return_, 1) := dk_177 (dk_at dksX0_add_1 8 rfl rfl)
abbrev cX0_addIf : ByteArray := prog_4_method_5_code
def yX0_addIf : MethodName := ⟨RX0, "addIf", "(III)V"⟩
def dkwX0_addIf_1 : List UInt8 := [180, 0, 9, 28, 6, 126, 50, 3, 16, 32, 184, 0, 26, 177]
abbrev dktX0_addIf_1 : List UInt8 := dkwX0_addIf_1 ++ []
def dkwX0_addIf_0 : List UInt8 := [27, 6, 126, 28, 6, 126, 159, 0, 29, 42, 180, 0, 9, 27, 6, 126, 50, 3, 29, 4, 126, 42]
abbrev dktX0_addIf_0 : List UInt8 := dkwX0_addIf_0 ++ dktX0_addIf_1
theorem dksX0_addIf_0 : cX0_addIf.data.toList.drop 0 = dktX0_addIf_0 := by decide +kernel
theorem dksX0_addIf_1 : cX0_addIf.data.toList.drop 22 = dktX0_addIf_1 := dk_seg dksX0_addIf_0 22 rfl rfl
theorem dX0_addIf_0 : decode cX0_addIf 0 = .ok (.iload_n 1, 1) := dk_27 (dk_at dksX0_addIf_0 0 rfl rfl)
theorem dX0_addIf_1 : decode cX0_addIf 1 = .ok (.iconst 3, 1) := dk_6 (dk_at dksX0_addIf_0 1 rfl rfl)
theorem dX0_addIf_2 : decode cX0_addIf 2 = .ok (.iand, 1) := dk_126 (dk_at dksX0_addIf_0 2 rfl rfl)
theorem dX0_addIf_3 : decode cX0_addIf 3 = .ok (.iload_n 2, 1) := dk_28 (dk_at dksX0_addIf_0 3 rfl rfl)
theorem dX0_addIf_4 : decode cX0_addIf 4 = .ok (.iconst 3, 1) := dk_6 (dk_at dksX0_addIf_0 4 rfl rfl)
theorem dX0_addIf_5 : decode cX0_addIf 5 = .ok (.iand, 1) := dk_126 (dk_at dksX0_addIf_0 5 rfl rfl)
theorem dX0_addIf_6 : decode cX0_addIf 6 = .ok (.if_icmp .eq 29, 3) := dk_159 0 29 (dk_at dksX0_addIf_0 6 rfl rfl)
theorem dX0_addIf_9 : decode cX0_addIf 9 = .ok (.aload_n 0, 1) := dk_42 (dk_at dksX0_addIf_0 9 rfl rfl)
theorem dX0_addIf_10 : decode cX0_addIf 10 = .ok (.getfield 9, 3) := dk_180 0 9 (dk_at dksX0_addIf_0 10 rfl rfl)
theorem dX0_addIf_13 : decode cX0_addIf 13 = .ok (.iload_n 1, 1) := dk_27 (dk_at dksX0_addIf_0 13 rfl rfl)
theorem dX0_addIf_14 : decode cX0_addIf 14 = .ok (.iconst 3, 1) := dk_6 (dk_at dksX0_addIf_0 14 rfl rfl)
theorem dX0_addIf_15 : decode cX0_addIf 15 = .ok (.iand, 1) := dk_126 (dk_at dksX0_addIf_0 15 rfl rfl)
theorem dX0_addIf_16 : decode cX0_addIf 16 = .ok (.aaload, 1) := dk_50 (dk_at dksX0_addIf_0 16 rfl rfl)
theorem dX0_addIf_17 : decode cX0_addIf 17 = .ok (.iconst 0, 1) := dk_3 (dk_at dksX0_addIf_0 17 rfl rfl)
theorem dX0_addIf_18 : decode cX0_addIf 18 = .ok (.iload_n 3, 1) := dk_29 (dk_at dksX0_addIf_0 18 rfl rfl)
theorem dX0_addIf_19 : decode cX0_addIf 19 = .ok (.iconst 1, 1) := dk_4 (dk_at dksX0_addIf_0 19 rfl rfl)
theorem dX0_addIf_20 : decode cX0_addIf 20 = .ok (.iand, 1) := dk_126 (dk_at dksX0_addIf_0 20 rfl rfl)
theorem dX0_addIf_21 : decode cX0_addIf 21 = .ok (.aload_n 0, 1) := dk_42 (dk_at dksX0_addIf_0 21 rfl rfl)
theorem dX0_addIf_22 : decode cX0_addIf 22 = .ok (.getfield 9, 3) := dk_180 0 9 (dk_at dksX0_addIf_1 0 rfl rfl)
theorem dX0_addIf_25 : decode cX0_addIf 25 = .ok (.iload_n 2, 1) := dk_28 (dk_at dksX0_addIf_1 3 rfl rfl)
theorem dX0_addIf_26 : decode cX0_addIf 26 = .ok (.iconst 3, 1) := dk_6 (dk_at dksX0_addIf_1 4 rfl rfl)
theorem dX0_addIf_27 : decode cX0_addIf 27 = .ok (.iand, 1) := dk_126 (dk_at dksX0_addIf_1 5 rfl rfl)
theorem dX0_addIf_28 : decode cX0_addIf 28 = .ok (.aaload, 1) := dk_50 (dk_at dksX0_addIf_1 6 rfl rfl)
theorem dX0_addIf_29 : decode cX0_addIf 29 = .ok (.iconst 0, 1) := dk_3 (dk_at dksX0_addIf_1 7 rfl rfl)
theorem dX0_addIf_30 : decode cX0_addIf 30 = .ok (.bipush 32, 2) := dk_16 32 (dk_at dksX0_addIf_1 8 rfl rfl)
theorem dX0_addIf_32 : decode cX0_addIf 32 = .ok (.invokestatic 26, 3) := dk_184 0 26 (dk_at dksX0_addIf_1 10 rfl rfl)
theorem dX0_addIf_35 : decode cX0_addIf 35 = .ok (.return_, 1) := dk_177 (dk_at dksX0_addIf_1 13 rfl rfl)
abbrev cX0_times : ByteArray := prog_4_method_6_code
def yX0_times : MethodName := ⟨RX0, "times", "(III)V"⟩
def dkwX0_times_1 : List UInt8 := [184, 0, 30, 177]
abbrev dktX0_times_1 : List UInt8 := dkwX0_times_1 ++ []
def dkwX0_times_0 : List UInt8 := [42, 180, 0, 9, 27, 6, 126, 50, 3, 28, 17, 0, 255, 126, 16, 8, 4, 29, 6, 126, 96, 104]
abbrev dktX0_times_0 : List UInt8 := dkwX0_times_0 ++ dktX0_times_1
theorem dksX0_times_0 : cX0_times.data.toList.drop 0 = dktX0_times_0 := by decide +kernel
theorem dksX0_times_1 : cX0_times.data.toList.drop 22 = dktX0_times_1 := dk_seg dksX0_times_0 22 rfl rfl
theorem dX0_times_0 : decode cX0_times 0 = .ok (.aload_n 0, 1) := dk_42 (dk_at dksX0_times_0 0 rfl rfl)
theorem dX0_times_1 : decode cX0_times 1 = .ok (.getfield 9, 3) := dk_180 0 9 (dk_at dksX0_times_0 1 rfl rfl)
theorem dX0_times_4 : decode cX0_times 4 = .ok (.iload_n 1, 1) := dk_27 (dk_at dksX0_times_0 4 rfl rfl)
theorem dX0_times_5 : decode cX0_times 5 = .ok (.iconst 3, 1) := dk_6 (dk_at dksX0_times_0 5 rfl rfl)
theorem dX0_times_6 : decode cX0_times 6 = .ok (.iand, 1) := dk_126 (dk_at dksX0_times_0 6 rfl rfl)
theorem dX0_times_7 : decode cX0_times 7 = .ok (.aaload, 1) := dk_50 (dk_at dksX0_times_0 7 rfl rfl)
theorem dX0_times_8 : decode cX0_times 8 = .ok (.iconst 0, 1) := dk_3 (dk_at dksX0_times_0 8 rfl rfl)
theorem dX0_times_9 : decode cX0_times 9 = .ok (.iload_n 2, 1) := dk_28 (dk_at dksX0_times_0 9 rfl rfl)
theorem dX0_times_10 : decode cX0_times 10 = .ok (.sipush 255, 3) := dk_17 0 255 (dk_at dksX0_times_0 10 rfl rfl)
theorem dX0_times_13 : decode cX0_times 13 = .ok (.iand, 1) := dk_126 (dk_at dksX0_times_0 13 rfl rfl)
theorem dX0_times_14 : decode cX0_times 14 = .ok (.bipush 8, 2) := dk_16 8 (dk_at dksX0_times_0 14 rfl rfl)
theorem dX0_times_16 : decode cX0_times 16 = .ok (.iconst 1, 1) := dk_4 (dk_at dksX0_times_0 16 rfl rfl)
theorem dX0_times_17 : decode cX0_times 17 = .ok (.iload_n 3, 1) := dk_29 (dk_at dksX0_times_0 17 rfl rfl)
theorem dX0_times_18 : decode cX0_times 18 = .ok (.iconst 3, 1) := dk_6 (dk_at dksX0_times_0 18 rfl rfl)
theorem dX0_times_19 : decode cX0_times 19 = .ok (.iand, 1) := dk_126 (dk_at dksX0_times_0 19 rfl rfl)
theorem dX0_times_20 : decode cX0_times 20 = .ok (.iadd, 1) := dk_96 (dk_at dksX0_times_0 20 rfl rfl)
theorem dX0_times_21 : decode cX0_times 21 = .ok (.imul, 1) := dk_104 (dk_at dksX0_times_0 21 rfl rfl)
theorem dX0_times_22 : decode cX0_times 22 = .ok (.invokestatic 30, 3) := dk_184 0 30 (dk_at dksX0_times_1 0 rfl rfl)
theorem dX0_times_25 : decode cX0_times 25 = .ok (.return_, 1) := dk_177 (dk_at dksX0_times_1 3 rfl rfl)
abbrev cX0_timesNibble : ByteArray := prog_4_method_7_code
def yX0_timesNibble : MethodName := ⟨RX0, "timesNibble", "(III)V"⟩
def dkwX0_timesNibble_1 : List UInt8 := [177]
abbrev dktX0_timesNibble_1 : List UInt8 := dkwX0_timesNibble_1 ++ []
def dkwX0_timesNibble_0 : List UInt8 := [42, 180, 0, 9, 27, 6, 126, 50, 3, 28, 16, 15, 126, 16, 8, 4, 29, 6, 126, 96, 104, 184, 0, 34]
abbrev dktX0_timesNibble_0 : List UInt8 := dkwX0_timesNibble_0 ++ dktX0_timesNibble_1
theorem dksX0_timesNibble_0 : cX0_timesNibble.data.toList.drop 0 = dktX0_timesNibble_0 := by decide +kernel
theorem dksX0_timesNibble_1 : cX0_timesNibble.data.toList.drop 24 = dktX0_timesNibble_1 := dk_seg dksX0_timesNibble_0 24 rfl rfl
theorem dX0_timesNibble_0 : decode cX0_timesNibble 0 = .ok (.aload_n 0, 1) := dk_42 (dk_at dksX0_timesNibble_0 0 rfl rfl)
theorem dX0_timesNibble_1 : decode cX0_timesNibble 1 = .ok (.getfield 9, 3) := dk_180 0 9 (dk_at dksX0_timesNibble_0 1 rfl rfl)
theorem dX0_timesNibble_4 : decode cX0_timesNibble 4 = .ok (.iload_n 1, 1) := dk_27 (dk_at dksX0_timesNibble_0 4 rfl rfl)
theorem dX0_timesNibble_5 : decode cX0_timesNibble 5 = .ok (.iconst 3, 1) := dk_6 (dk_at dksX0_timesNibble_0 5 rfl rfl)
theorem dX0_timesNibble_6 : decode cX0_timesNibble 6 = .ok (.iand, 1) := dk_126 (dk_at dksX0_timesNibble_0 6 rfl rfl)
theorem dX0_timesNibble_7 : decode cX0_timesNibble 7 = .ok (.aaload, 1) := dk_50 (dk_at dksX0_timesNibble_0 7 rfl rfl)
theorem dX0_timesNibble_8 : decode cX0_timesNibble 8 = .ok (.iconst 0, 1) := dk_3 (dk_at dksX0_timesNibble_0 8 rfl rfl)
theorem dX0_timesNibble_9 : decode cX0_timesNibble 9 = .ok (.iload_n 2, 1) := dk_28 (dk_at dksX0_timesNibble_0 9 rfl rfl)
theorem dX0_timesNibble_10 : decode cX0_timesNibble 10 = .ok (.bipush 15, 2) := dk_16 15 (dk_at dksX0_timesNibble_0 10 rfl rfl)
theorem dX0_timesNibble_12 : decode cX0_timesNibble 12 = .ok (.iand, 1) := dk_126 (dk_at dksX0_timesNibble_0 12 rfl rfl)
theorem dX0_timesNibble_13 : decode cX0_timesNibble 13 = .ok (.bipush 8, 2) := dk_16 8 (dk_at dksX0_timesNibble_0 13 rfl rfl)
theorem dX0_timesNibble_15 : decode cX0_timesNibble 15 = .ok (.iconst 1, 1) := dk_4 (dk_at dksX0_timesNibble_0 15 rfl rfl)
theorem dX0_timesNibble_16 : decode cX0_timesNibble 16 = .ok (.iload_n 3, 1) := dk_29 (dk_at dksX0_timesNibble_0 16 rfl rfl)
theorem dX0_timesNibble_17 : decode cX0_timesNibble 17 = .ok (.iconst 3, 1) := dk_6 (dk_at dksX0_timesNibble_0 17 rfl rfl)
theorem dX0_timesNibble_18 : decode cX0_timesNibble 18 = .ok (.iand, 1) := dk_126 (dk_at dksX0_timesNibble_0 18 rfl rfl)
theorem dX0_timesNibble_19 : decode cX0_timesNibble 19 = .ok (.iadd, 1) := dk_96 (dk_at dksX0_timesNibble_0 19 rfl rfl)
theorem dX0_timesNibble_20 : decode cX0_timesNibble 20 = .ok (.imul, 1) := dk_104 (dk_at dksX0_timesNibble_0 20 rfl rfl)
theorem dX0_timesNibble_21 : decode cX0_timesNibble 21 = .ok (.invokestatic 34, 3) := dk_184 0 34 (dk_at dksX0_timesNibble_0 21 rfl rfl)
theorem dX0_timesNibble_24 : decode cX0_timesNibble 24 = .ok (.return_, 1) := dk_177 (dk_at dksX0_timesNibble_1 0 rfl rfl)
abbrev cX0_more : ByteArray := prog_4_method_8_code
def yX0_more : MethodName := ⟨RX0, "more", "(IIII)V"⟩
def dkwX0_more_1 : List UInt8 := [126, 50, 3, 29, 17, 0, 255, 126, 16, 8, 4, 21, 4, 6, 126, 96, 104, 184, 0, 37, 177]
abbrev dktX0_more_1 : List UInt8 := dkwX0_more_1 ++ []
def dkwX0_more_0 : List UInt8 := [27, 6, 126, 28, 6, 126, 159, 0, 38, 42, 180, 0, 9, 27, 6, 126, 50, 3, 42, 180, 0, 9, 28, 6]
abbrev dktX0_more_0 : List UInt8 := dkwX0_more_0 ++ dktX0_more_1
theorem dksX0_more_0 : cX0_more.data.toList.drop 0 = dktX0_more_0 := by decide +kernel
theorem dksX0_more_1 : cX0_more.data.toList.drop 24 = dktX0_more_1 := dk_seg dksX0_more_0 24 rfl rfl
theorem dX0_more_0 : decode cX0_more 0 = .ok (.iload_n 1, 1) := dk_27 (dk_at dksX0_more_0 0 rfl rfl)
theorem dX0_more_1 : decode cX0_more 1 = .ok (.iconst 3, 1) := dk_6 (dk_at dksX0_more_0 1 rfl rfl)
theorem dX0_more_2 : decode cX0_more 2 = .ok (.iand, 1) := dk_126 (dk_at dksX0_more_0 2 rfl rfl)
theorem dX0_more_3 : decode cX0_more 3 = .ok (.iload_n 2, 1) := dk_28 (dk_at dksX0_more_0 3 rfl rfl)
theorem dX0_more_4 : decode cX0_more 4 = .ok (.iconst 3, 1) := dk_6 (dk_at dksX0_more_0 4 rfl rfl)
theorem dX0_more_5 : decode cX0_more 5 = .ok (.iand, 1) := dk_126 (dk_at dksX0_more_0 5 rfl rfl)
theorem dX0_more_6 : decode cX0_more 6 = .ok (.if_icmp .eq 38, 3) := dk_159 0 38 (dk_at dksX0_more_0 6 rfl rfl)
theorem dX0_more_9 : decode cX0_more 9 = .ok (.aload_n 0, 1) := dk_42 (dk_at dksX0_more_0 9 rfl rfl)
theorem dX0_more_10 : decode cX0_more 10 = .ok (.getfield 9, 3) := dk_180 0 9 (dk_at dksX0_more_0 10 rfl rfl)
theorem dX0_more_13 : decode cX0_more 13 = .ok (.iload_n 1, 1) := dk_27 (dk_at dksX0_more_0 13 rfl rfl)
theorem dX0_more_14 : decode cX0_more 14 = .ok (.iconst 3, 1) := dk_6 (dk_at dksX0_more_0 14 rfl rfl)
theorem dX0_more_15 : decode cX0_more 15 = .ok (.iand, 1) := dk_126 (dk_at dksX0_more_0 15 rfl rfl)
theorem dX0_more_16 : decode cX0_more 16 = .ok (.aaload, 1) := dk_50 (dk_at dksX0_more_0 16 rfl rfl)
theorem dX0_more_17 : decode cX0_more 17 = .ok (.iconst 0, 1) := dk_3 (dk_at dksX0_more_0 17 rfl rfl)
theorem dX0_more_18 : decode cX0_more 18 = .ok (.aload_n 0, 1) := dk_42 (dk_at dksX0_more_0 18 rfl rfl)
theorem dX0_more_19 : decode cX0_more 19 = .ok (.getfield 9, 3) := dk_180 0 9 (dk_at dksX0_more_0 19 rfl rfl)
theorem dX0_more_22 : decode cX0_more 22 = .ok (.iload_n 2, 1) := dk_28 (dk_at dksX0_more_0 22 rfl rfl)
theorem dX0_more_23 : decode cX0_more 23 = .ok (.iconst 3, 1) := dk_6 (dk_at dksX0_more_0 23 rfl rfl)
theorem dX0_more_24 : decode cX0_more 24 = .ok (.iand, 1) := dk_126 (dk_at dksX0_more_1 0 rfl rfl)
theorem dX0_more_25 : decode cX0_more 25 = .ok (.aaload, 1) := dk_50 (dk_at dksX0_more_1 1 rfl rfl)
theorem dX0_more_26 : decode cX0_more 26 = .ok (.iconst 0, 1) := dk_3 (dk_at dksX0_more_1 2 rfl rfl)
theorem dX0_more_27 : decode cX0_more 27 = .ok (.iload_n 3, 1) := dk_29 (dk_at dksX0_more_1 3 rfl rfl)
theorem dX0_more_28 : decode cX0_more 28 = .ok (.sipush 255, 3) := dk_17 0 255 (dk_at dksX0_more_1 4 rfl rfl)
theorem dX0_more_31 : decode cX0_more 31 = .ok (.iand, 1) := dk_126 (dk_at dksX0_more_1 7 rfl rfl)
theorem dX0_more_32 : decode cX0_more 32 = .ok (.bipush 8, 2) := dk_16 8 (dk_at dksX0_more_1 8 rfl rfl)
theorem dX0_more_34 : decode cX0_more 34 = .ok (.iconst 1, 1) := dk_4 (dk_at dksX0_more_1 10 rfl rfl)
theorem dX0_more_35 : decode cX0_more 35 = .ok (.iload 4, 2) := dk_21 4 (dk_at dksX0_more_1 11 rfl rfl)
theorem dX0_more_37 : decode cX0_more 37 = .ok (.iconst 3, 1) := dk_6 (dk_at dksX0_more_1 13 rfl rfl)
theorem dX0_more_38 : decode cX0_more 38 = .ok (.iand, 1) := dk_126 (dk_at dksX0_more_1 14 rfl rfl)
theorem dX0_more_39 : decode cX0_more 39 = .ok (.iadd, 1) := dk_96 (dk_at dksX0_more_1 15 rfl rfl)
theorem dX0_more_40 : decode cX0_more 40 = .ok (.imul, 1) := dk_104 (dk_at dksX0_more_1 16 rfl rfl)
theorem dX0_more_41 : decode cX0_more 41 = .ok (.invokestatic 37, 3) := dk_184 0 37 (dk_at dksX0_more_1 17 rfl rfl)
theorem dX0_more_44 : decode cX0_more 44 = .ok (.return_, 1) := dk_177 (dk_at dksX0_more_1 20 rfl rfl)
abbrev cX0_moreNibble : ByteArray := prog_4_method_9_code
def yX0_moreNibble : MethodName := ⟨RX0, "moreNibble", "(IIII)V"⟩
def dkwX0_moreNibble_1 : List UInt8 := [126, 50, 3, 29, 16, 15, 126, 16, 8, 4, 21, 4, 6, 126, 96, 104, 184, 0, 41, 177]
abbrev dktX0_moreNibble_1 : List UInt8 := dkwX0_moreNibble_1 ++ []
def dkwX0_moreNibble_0 : List UInt8 := [27, 6, 126, 28, 6, 126, 159, 0, 37, 42, 180, 0, 9, 27, 6, 126, 50, 3, 42, 180, 0, 9, 28, 6]
abbrev dktX0_moreNibble_0 : List UInt8 := dkwX0_moreNibble_0 ++ dktX0_moreNibble_1
theorem dksX0_moreNibble_0 : cX0_moreNibble.data.toList.drop 0 = dktX0_moreNibble_0 := by decide +kernel
theorem dksX0_moreNibble_1 : cX0_moreNibble.data.toList.drop 24 = dktX0_moreNibble_1 := dk_seg dksX0_moreNibble_0 24 rfl rfl
theorem dX0_moreNibble_0 : decode cX0_moreNibble 0 = .ok (.iload_n 1, 1) := dk_27 (dk_at dksX0_moreNibble_0 0 rfl rfl)
theorem dX0_moreNibble_1 : decode cX0_moreNibble 1 = .ok (.iconst 3, 1) := dk_6 (dk_at dksX0_moreNibble_0 1 rfl rfl)
theorem dX0_moreNibble_2 : decode cX0_moreNibble 2 = .ok (.iand, 1) := dk_126 (dk_at dksX0_moreNibble_0 2 rfl rfl)
theorem dX0_moreNibble_3 : decode cX0_moreNibble 3 = .ok (.iload_n 2, 1) := dk_28 (dk_at dksX0_moreNibble_0 3 rfl rfl)
theorem dX0_moreNibble_4 : decode cX0_moreNibble 4 = .ok (.iconst 3, 1) := dk_6 (dk_at dksX0_moreNibble_0 4 rfl rfl)
theorem dX0_moreNibble_5 : decode cX0_moreNibble 5 = .ok (.iand, 1) := dk_126 (dk_at dksX0_moreNibble_0 5 rfl rfl)
theorem dX0_moreNibble_6 : decode cX0_moreNibble 6 = .ok (.if_icmp .eq 37, 3) := dk_159 0 37 (dk_at dksX0_moreNibble_0 6 rfl rfl)
theorem dX0_moreNibble_9 : decode cX0_moreNibble 9 = .ok (.aload_n 0, 1) := dk_42 (dk_at dksX0_moreNibble_0 9 rfl rfl)
theorem dX0_moreNibble_10 : decode cX0_moreNibble 10 = .ok (.getfield 9, 3) := dk_180 0 9 (dk_at dksX0_moreNibble_0 10 rfl rfl)
theorem dX0_moreNibble_13 : decode cX0_moreNibble 13 = .ok (.iload_n 1, 1) := dk_27 (dk_at dksX0_moreNibble_0 13 rfl rfl)
theorem dX0_moreNibble_14 : decode cX0_moreNibble 14 = .ok (.iconst 3, 1) := dk_6 (dk_at dksX0_moreNibble_0 14 rfl rfl)
theorem dX0_moreNibble_15 : decode cX0_moreNibble 15 = .ok (.iand, 1) := dk_126 (dk_at dksX0_moreNibble_0 15 rfl rfl)
theorem dX0_moreNibble_16 : decode cX0_moreNibble 16 = .ok (.aaload, 1) := dk_50 (dk_at dksX0_moreNibble_0 16 rfl rfl)
theorem dX0_moreNibble_17 : decode cX0_moreNibble 17 = .ok (.iconst 0, 1) := dk_3 (dk_at dksX0_moreNibble_0 17 rfl rfl)
theorem dX0_moreNibble_18 : decode cX0_moreNibble 18 = .ok (.aload_n 0, 1) := dk_42 (dk_at dksX0_moreNibble_0 18 rfl rfl)
theorem dX0_moreNibble_19 : decode cX0_moreNibble 19 = .ok (.getfield 9, 3) := dk_180 0 9 (dk_at dksX0_moreNibble_0 19 rfl rfl)
theorem dX0_moreNibble_22 : decode cX0_moreNibble 22 = .ok (.iload_n 2, 1) := dk_28 (dk_at dksX0_moreNibble_0 22 rfl rfl)
theorem dX0_moreNibble_23 : decode cX0_moreNibble 23 = .ok (.iconst 3, 1) := dk_6 (dk_at dksX0_moreNibble_0 23 rfl rfl)
theorem dX0_moreNibble_24 : decode cX0_moreNibble 24 = .ok (.iand, 1) := dk_126 (dk_at dksX0_moreNibble_1 0 rfl rfl)
theorem dX0_moreNibble_25 : decode cX0_moreNibble 25 = .ok (.aaload, 1) := dk_50 (dk_at dksX0_moreNibble_1 1 rfl rfl)
theorem dX0_moreNibble_26 : decode cX0_moreNibble 26 = .ok (.iconst 0, 1) := dk_3 (dk_at dksX0_moreNibble_1 2 rfl rfl)
theorem dX0_moreNibble_27 : decode cX0_moreNibble 27 = .ok (.iload_n 3, 1) := dk_29 (dk_at dksX0_moreNibble_1 3 rfl rfl)
theorem dX0_moreNibble_28 : decode cX0_moreNibble 28 = .ok (.bipush 15, 2) := dk_16 15 (dk_at dksX0_moreNibble_1 4 rfl rfl)
theorem dX0_moreNibble_30 : decode cX0_moreNibble 30 = .ok (.iand, 1) := dk_126 (dk_at dksX0_moreNibble_1 6 rfl rfl)
theorem dX0_moreNibble_31 : decode cX0_moreNibble 31 = .ok (.bipush 8, 2) := dk_16 8 (dk_at dksX0_moreNibble_1 7 rfl rfl)
theorem dX0_moreNibble_33 : decode cX0_moreNibble 33 = .ok (.iconst 1, 1) := dk_4 (dk_at dksX0_moreNibble_1 9 rfl rfl)
theorem dX0_moreNibble_34 : decode cX0_moreNibble 34 = .ok (.iload 4, 2) := dk_21 4 (dk_at dksX0_moreNibble_1 10 rfl rfl)
theorem dX0_moreNibble_36 : decode cX0_moreNibble 36 = .ok (.iconst 3, 1) := dk_6 (dk_at dksX0_moreNibble_1 12 rfl rfl)
theorem dX0_moreNibble_37 : decode cX0_moreNibble 37 = .ok (.iand, 1) := dk_126 (dk_at dksX0_moreNibble_1 13 rfl rfl)
theorem dX0_moreNibble_38 : decode cX0_moreNibble 38 = .ok (.iadd, 1) := dk_96 (dk_at dksX0_moreNibble_1 14 rfl rfl)
theorem dX0_moreNibble_39 : decode cX0_moreNibble 39 = .ok (.imul, 1) := dk_104 (dk_at dksX0_moreNibble_1 15 rfl rfl)
theorem dX0_moreNibble_40 : decode cX0_moreNibble 40 = .ok (.invokestatic 41, 3) := dk_184 0 41 (dk_at dksX0_moreNibble_1 16 rfl rfl)
theorem dX0_moreNibble_43 : decode cX0_moreNibble 43 = .ok (.return_, 1) := dk_177 (dk_at dksX0_moreNibble_1 19 rfl rfl)
abbrev cX0_nibble : ByteArray := prog_4_method_10_code
def yX0_nibble : MethodName := ⟨RX0, "nibble", "(II)I"⟩
def dkwX0_nibble_0 : List UInt8 := [42, 180, 0, 9, 27, 6, 126, 50, 28, 16, 63, 126, 184, 0, 44, 172]
abbrev dktX0_nibble_0 : List UInt8 := dkwX0_nibble_0 ++ []
theorem dksX0_nibble_0 : cX0_nibble.data.toList.drop 0 = dktX0_nibble_0 := by decide +kernel
theorem dX0_nibble_0 : decode cX0_nibble 0 = .ok (.aload_n 0, 1) := dk_42 (dk_at dksX0_nibble_0 0 rfl rfl)
theorem dX0_nibble_1 : decode cX0_nibble 1 = .ok (.getfield 9, 3) := dk_180 0 9 (dk_at dksX0_nibble_0 1 rfl rfl)
theorem dX0_nibble_4 : decode cX0_nibble 4 = .ok (.iload_n 1, 1) := dk_27 (dk_at dksX0_nibble_0 4 rfl rfl)
theorem dX0_nibble_5 : decode cX0_nibble 5 = .ok (.iconst 3, 1) := dk_6 (dk_at dksX0_nibble_0 5 rfl rfl)
theorem dX0_nibble_6 : decode cX0_nibble 6 = .ok (.iand, 1) := dk_126 (dk_at dksX0_nibble_0 6 rfl rfl)
theorem dX0_nibble_7 : decode cX0_nibble 7 = .ok (.aaload, 1) := dk_50 (dk_at dksX0_nibble_0 7 rfl rfl)
theorem dX0_nibble_8 : decode cX0_nibble 8 = .ok (.iload_n 2, 1) := dk_28 (dk_at dksX0_nibble_0 8 rfl rfl)
theorem dX0_nibble_9 : decode cX0_nibble 9 = .ok (.bipush 63, 2) := dk_16 63 (dk_at dksX0_nibble_0 9 rfl rfl)
theorem dX0_nibble_11 : decode cX0_nibble 11 = .ok (.iand, 1) := dk_126 (dk_at dksX0_nibble_0 11 rfl rfl)
theorem dX0_nibble_12 : decode cX0_nibble 12 = .ok (.invokestatic 44, 3) := dk_184 0 44 (dk_at dksX0_nibble_0 12 rfl rfl)
theorem dX0_nibble_15 : decode cX0_nibble 15 = .ok (.ireturn, 1) := dk_172 (dk_at dksX0_nibble_0 15 rfl rfl)
abbrev cX0_layNibble : ByteArray := prog_4_method_11_code
def yX0_layNibble : MethodName := ⟨RX0, "layNibble", "(III)V"⟩
def dkwX0_layNibble_0 : List UInt8 := [42, 180, 0, 9, 27, 6, 126, 50, 28, 16, 63, 126, 29, 16, 15, 126, 184, 0, 48, 177]
abbrev dktX0_layNibble_0 : List UInt8 := dkwX0_layNibble_0 ++ []
theorem dksX0_layNibble_0 : cX0_layNibble.data.toList.drop 0 = dktX0_layNibble_0 := by decide +kernel
theorem dX0_layNibble_0 : decode cX0_layNibble 0 = .ok (.aload_n 0, 1) := dk_42 (dk_at dksX0_layNibble_0 0 rfl rfl)
theorem dX0_layNibble_1 : decode cX0_layNibble 1 = .ok (.getfield 9, 3) := dk_180 0 9 (dk_at dksX0_layNibble_0 1 rfl rfl)
theorem dX0_layNibble_4 : decode cX0_layNibble 4 = .ok (.iload_n 1, 1) := dk_27 (dk_at dksX0_layNibble_0 4 rfl rfl)
theorem dX0_layNibble_5 : decode cX0_layNibble 5 = .ok (.iconst 3, 1) := dk_6 (dk_at dksX0_layNibble_0 5 rfl rfl)
theorem dX0_layNibble_6 : decode cX0_layNibble 6 = .ok (.iand, 1) := dk_126 (dk_at dksX0_layNibble_0 6 rfl rfl)
theorem dX0_layNibble_7 : decode cX0_layNibble 7 = .ok (.aaload, 1) := dk_50 (dk_at dksX0_layNibble_0 7 rfl rfl)
theorem dX0_layNibble_8 : decode cX0_layNibble 8 = .ok (.iload_n 2, 1) := dk_28 (dk_at dksX0_layNibble_0 8 rfl rfl)
theorem dX0_layNibble_9 : decode cX0_layNibble 9 = .ok (.bipush 63, 2) := dk_16 63 (dk_at dksX0_layNibble_0 9 rfl rfl)
theorem dX0_layNibble_11 : decode cX0_layNibble 11 = .ok (.iand, 1) := dk_126 (dk_at dksX0_layNibble_0 11 rfl rfl)
theorem dX0_layNibble_12 : decode cX0_layNibble 12 = .ok (.iload_n 3, 1) := dk_29 (dk_at dksX0_layNibble_0 12 rfl rfl)
theorem dX0_layNibble_13 : decode cX0_layNibble 13 = .ok (.bipush 15, 2) := dk_16 15 (dk_at dksX0_layNibble_0 13 rfl rfl)
theorem dX0_layNibble_15 : decode cX0_layNibble 15 = .ok (.iand, 1) := dk_126 (dk_at dksX0_layNibble_0 15 rfl rfl)
theorem dX0_layNibble_16 : decode cX0_layNibble 16 = .ok (.invokestatic 48, 3) := dk_184 0 48 (dk_at dksX0_layNibble_0 16 rfl rfl)
theorem dX0_layNibble_19 : decode cX0_layNibble 19 = .ok (.return_, 1) := dk_177 (dk_at dksX0_layNibble_0 19 rfl rfl)
abbrev cX0_get : ByteArray := prog_4_method_12_code
def yX0_get : MethodName := ⟨RX0, "get", "(II)I"⟩
def dkwX0_get_0 : List UInt8 := [42, 180, 0, 9, 27, 6, 126, 50, 28, 16, 31, 126, 51, 17, 0, 255, 126, 172]
abbrev dktX0_get_0 : List UInt8 := dkwX0_get_0 ++ []
theorem dksX0_get_0 : cX0_get.data.toList.drop 0 = dktX0_get_0 := by decide +kernel
theorem dX0_get_0 : decode cX0_get 0 = .ok (.aload_n 0, 1) := dk_42 (dk_at dksX0_get_0 0 rfl rfl)
theorem dX0_get_1 : decode cX0_get 1 = .ok (.getfield 9, 3) := dk_180 0 9 (dk_at dksX0_get_0 1 rfl rfl)
theorem dX0_get_4 : decode cX0_get 4 = .ok (.iload_n 1, 1) := dk_27 (dk_at dksX0_get_0 4 rfl rfl)
theorem dX0_get_5 : decode cX0_get 5 = .ok (.iconst 3, 1) := dk_6 (dk_at dksX0_get_0 5 rfl rfl)
theorem dX0_get_6 : decode cX0_get 6 = .ok (.iand, 1) := dk_126 (dk_at dksX0_get_0 6 rfl rfl)
theorem dX0_get_7 : decode cX0_get 7 = .ok (.aaload, 1) := dk_50 (dk_at dksX0_get_0 7 rfl rfl)
theorem dX0_get_8 : decode cX0_get 8 = .ok (.iload_n 2, 1) := dk_28 (dk_at dksX0_get_0 8 rfl rfl)
theorem dX0_get_9 : decode cX0_get 9 = .ok (.bipush 31, 2) := dk_16 31 (dk_at dksX0_get_0 9 rfl rfl)
theorem dX0_get_11 : decode cX0_get 11 = .ok (.iand, 1) := dk_126 (dk_at dksX0_get_0 11 rfl rfl)
theorem dX0_get_12 : decode cX0_get 12 = .ok (.baload, 1) := dk_51 (dk_at dksX0_get_0 12 rfl rfl)
theorem dX0_get_13 : decode cX0_get 13 = .ok (.sipush 255, 3) := dk_17 0 255 (dk_at dksX0_get_0 13 rfl rfl)
theorem dX0_get_16 : decode cX0_get 16 = .ok (.iand, 1) := dk_126 (dk_at dksX0_get_0 16 rfl rfl)
theorem dX0_get_17 : decode cX0_get 17 = .ok (.ireturn, 1) := dk_172 (dk_at dksX0_get_0 17 rfl rfl)
theorem q4 : (Jvm.Cond.initialized "OilVectorDesk") ∈ lw_all := lw_g (lw_at lw_m0 1 rfl) rfl
theorem q11 : (Jvm.Cond.instantiable "OilVectorDesk" (1 : Nat)) ∈ lw_all := lw_g (lw_at lw_m0 8 rfl) rfl
theorem q13 : (Jvm.Cond.instanceMethod ({ cls := "OilVectorDesk", name := "<init>", desc := "()V" } : Jvm.MethodName)) ∈ lw_all := lw_g (lw_at lw_m0 10 rfl) rfl
theorem q14 : (Jvm.Cond.code ({ cls := "OilVectorDesk", name := "<init>", desc := "()V" } : Jvm.MethodName) prog_4_method_1_code (1 : Nat) (Option.none : Option Jvm.ClassFile.FieldType)) ∈ lw_all := lw_g (lw_at lw_m0 11 rfl) rfl
theorem q15 : (Jvm.Cond.methodLink "OilVectorDesk" (1 : Nat) ({ cls := "java/lang/Object", name := "<init>", desc := "()V" } : Jvm.MethodName)) ∈ lw_all := lw_g (lw_at lw_m0 12 rfl) rfl
theorem q18 : (Jvm.Cond.classLink "OilVectorDesk" (7 : Nat) "[B") ∈ lw_all := lw_g (lw_at lw_m0 15 rfl) rfl
theorem q20 : (Jvm.Cond.fieldLink "OilVectorDesk" (9 : Nat) "OilVectorDesk" "rows" "[[B") ∈ lw_all := lw_g (lw_at lw_m0 17 rfl) rfl
theorem q21 : (Jvm.Cond.laysFinal "OilVectorDesk" "OilVectorDesk" "rows" "[[B") ∈ lw_all := lw_g (lw_at lw_m0 18 rfl) rfl
theorem q22 : (Jvm.Cond.soleField "OilVectorDesk" "rows") ∈ lw_all := lw_g (lw_at lw_m0 19 rfl) rfl
theorem q23 : (Jvm.Cond.superclass "OilVectorDesk" "java/lang/Object") ∈ lw_all := lw_g (lw_at lw_m0 20 rfl) rfl
theorem q26 : (Jvm.Cond.instanceMethod ({ cls := "OilVectorDesk", name := "lay", desc := "(IIIII)V" } : Jvm.MethodName)) ∈ lw_all := lw_g (lw_at lw_m0 23 rfl) rfl
theorem q27 : (Jvm.Cond.selects "OilVectorDesk" ({ cls := "OilVectorDesk", name := "lay", desc := "(IIIII)V" } : Jvm.MethodName) ({ cls := "OilVectorDesk", name := "lay", desc := "(IIIII)V" } : Jvm.MethodName)) ∈ lw_all := lw_g (lw_at lw_m0 24 rfl) rfl
theorem q28 : (Jvm.Cond.code ({ cls := "OilVectorDesk", name := "lay", desc := "(IIIII)V" } : Jvm.MethodName) prog_4_method_3_code (8 : Nat) (Option.none : Option Jvm.ClassFile.FieldType)) ∈ lw_all := lw_g (lw_at lw_m0 25 rfl) rfl
theorem q29 : (Jvm.Cond.constant "OilVectorDesk" (15 : Nat) (2147483647 : Int32)) ∈ lw_all := lw_g (lw_at lw_m0 26 rfl) rfl
theorem q30 : (Jvm.Cond.methodLink "OilVectorDesk" (16 : Nat) ({ cls := "OilVectorDesk", name := "word", desc := "([BII)V" } : Jvm.MethodName)) ∈ lw_all := lw_g (lw_at lw_m0 27 rfl) rfl
theorem q31 : (Jvm.Cond.static ({ cls := "OilVectorDesk", name := "word", desc := "([BII)V" } : Jvm.MethodName)) ∈ lw_all := lw_g (lw_at lw_m0 28 rfl) rfl
theorem q32 : (Jvm.Cond.code ({ cls := "OilVectorDesk", name := "word", desc := "([BII)V" } : Jvm.MethodName) prog_4_method_2_code (3 : Nat) (Option.none : Option Jvm.ClassFile.FieldType)) ∈ lw_all := lw_g (lw_at lw_m0 29 rfl) rfl
theorem q34 : (Jvm.Cond.instanceMethod ({ cls := "OilVectorDesk", name := "add", desc := "(II)V" } : Jvm.MethodName)) ∈ lw_all := lw_g (lw_at lw_m0 31 rfl) rfl
theorem q35 : (Jvm.Cond.selects "OilVectorDesk" ({ cls := "OilVectorDesk", name := "add", desc := "(II)V" } : Jvm.MethodName) ({ cls := "OilVectorDesk", name := "add", desc := "(II)V" } : Jvm.MethodName)) ∈ lw_all := lw_g (lw_at lw_m0 32 rfl) rfl
theorem q36 : (Jvm.Cond.code ({ cls := "OilVectorDesk", name := "add", desc := "(II)V" } : Jvm.MethodName) prog_4_method_4_code (3 : Nat) (Option.none : Option Jvm.ClassFile.FieldType)) ∈ lw_all := lw_g (lw_at lw_m0 33 rfl) rfl
theorem q37 : (Jvm.Cond.methodLink "OilVectorDesk" (20 : Nat) ({ cls := "GF", name := "vecAdd", desc := "([BI[BII)V" } : Jvm.MethodName)) ∈ lw_all := lw_g (lw_at lw_m0 34 rfl) rfl
theorem q41 : (Jvm.Cond.instanceMethod ({ cls := "OilVectorDesk", name := "addIf", desc := "(III)V" } : Jvm.MethodName)) ∈ lw_all := lw_g (lw_at lw_m0 38 rfl) rfl
theorem q42 : (Jvm.Cond.selects "OilVectorDesk" ({ cls := "OilVectorDesk", name := "addIf", desc := "(III)V" } : Jvm.MethodName) ({ cls := "OilVectorDesk", name := "addIf", desc := "(III)V" } : Jvm.MethodName)) ∈ lw_all := lw_g (lw_at lw_m0 39 rfl) rfl
theorem q43 : (Jvm.Cond.code ({ cls := "OilVectorDesk", name := "addIf", desc := "(III)V" } : Jvm.MethodName) prog_4_method_5_code (4 : Nat) (Option.none : Option Jvm.ClassFile.FieldType)) ∈ lw_all := lw_g (lw_at lw_m0 40 rfl) rfl
theorem q44 : (Jvm.Cond.methodLink "OilVectorDesk" (26 : Nat) ({ cls := "GF", name := "vecConditionalAdd", desc := "([BII[BII)V" } : Jvm.MethodName)) ∈ lw_all := lw_g (lw_at lw_m0 41 rfl) rfl
theorem q48 : (Jvm.Cond.instanceMethod ({ cls := "OilVectorDesk", name := "times", desc := "(III)V" } : Jvm.MethodName)) ∈ lw_all := lw_g (lw_at lw_m0 45 rfl) rfl
theorem q49 : (Jvm.Cond.selects "OilVectorDesk" ({ cls := "OilVectorDesk", name := "times", desc := "(III)V" } : Jvm.MethodName) ({ cls := "OilVectorDesk", name := "times", desc := "(III)V" } : Jvm.MethodName)) ∈ lw_all := lw_g (lw_at lw_m0 46 rfl) rfl
theorem q50 : (Jvm.Cond.code ({ cls := "OilVectorDesk", name := "times", desc := "(III)V" } : Jvm.MethodName) prog_4_method_6_code (4 : Nat) (Option.none : Option Jvm.ClassFile.FieldType)) ∈ lw_all := lw_g (lw_at lw_m0 47 rfl) rfl
theorem q51 : (Jvm.Cond.methodLink "OilVectorDesk" (30 : Nat) ({ cls := "GF", name := "vecMulScalar256", desc := "([BIII)V" } : Jvm.MethodName)) ∈ lw_all := lw_g (lw_at lw_m0 48 rfl) rfl
theorem q77 : (Jvm.Cond.instanceMethod ({ cls := "OilVectorDesk", name := "timesNibble", desc := "(III)V" } : Jvm.MethodName)) ∈ lw_all := lw_g (lw_at lw_m0 74 rfl) rfl
theorem q78 : (Jvm.Cond.selects "OilVectorDesk" ({ cls := "OilVectorDesk", name := "timesNibble", desc := "(III)V" } : Jvm.MethodName) ({ cls := "OilVectorDesk", name := "timesNibble", desc := "(III)V" } : Jvm.MethodName)) ∈ lw_all := lw_g (lw_at lw_m0 75 rfl) rfl
theorem q79 : (Jvm.Cond.code ({ cls := "OilVectorDesk", name := "timesNibble", desc := "(III)V" } : Jvm.MethodName) prog_4_method_7_code (4 : Nat) (Option.none : Option Jvm.ClassFile.FieldType)) ∈ lw_all := lw_g (lw_at lw_m0 76 rfl) rfl
theorem q80 : (Jvm.Cond.methodLink "OilVectorDesk" (34 : Nat) ({ cls := "GF", name := "vecMulScalar16", desc := "([BIII)V" } : Jvm.MethodName)) ∈ lw_all := lw_g (lw_at lw_m0 77 rfl) rfl
theorem q87 : (Jvm.Cond.instanceMethod ({ cls := "OilVectorDesk", name := "more", desc := "(IIII)V" } : Jvm.MethodName)) ∈ lw_all := lw_g (lw_at lw_m0 84 rfl) rfl
theorem q88 : (Jvm.Cond.selects "OilVectorDesk" ({ cls := "OilVectorDesk", name := "more", desc := "(IIII)V" } : Jvm.MethodName) ({ cls := "OilVectorDesk", name := "more", desc := "(IIII)V" } : Jvm.MethodName)) ∈ lw_all := lw_g (lw_at lw_m0 85 rfl) rfl
theorem q89 : (Jvm.Cond.code ({ cls := "OilVectorDesk", name := "more", desc := "(IIII)V" } : Jvm.MethodName) prog_4_method_8_code (5 : Nat) (Option.none : Option Jvm.ClassFile.FieldType)) ∈ lw_all := lw_g (lw_at lw_m0 86 rfl) rfl
theorem q90 : (Jvm.Cond.methodLink "OilVectorDesk" (37 : Nat) ({ cls := "GF", name := "vecMadd256", desc := "([BI[BIII)V" } : Jvm.MethodName)) ∈ lw_all := lw_g (lw_at lw_m0 87 rfl) rfl
theorem q94 : (Jvm.Cond.instanceMethod ({ cls := "OilVectorDesk", name := "moreNibble", desc := "(IIII)V" } : Jvm.MethodName)) ∈ lw_all := lw_g (lw_at lw_m0 91 rfl) rfl
theorem q95 : (Jvm.Cond.selects "OilVectorDesk" ({ cls := "OilVectorDesk", name := "moreNibble", desc := "(IIII)V" } : Jvm.MethodName) ({ cls := "OilVectorDesk", name := "moreNibble", desc := "(IIII)V" } : Jvm.MethodName)) ∈ lw_all := lw_g (lw_at lw_m0 92 rfl) rfl
theorem q96 : (Jvm.Cond.code ({ cls := "OilVectorDesk", name := "moreNibble", desc := "(IIII)V" } : Jvm.MethodName) prog_4_method_9_code (5 : Nat) (Option.none : Option Jvm.ClassFile.FieldType)) ∈ lw_all := lw_g (lw_at lw_m0 93 rfl) rfl
theorem q97 : (Jvm.Cond.methodLink "OilVectorDesk" (41 : Nat) ({ cls := "GF", name := "vecMadd16", desc := "([BI[BIII)V" } : Jvm.MethodName)) ∈ lw_all := lw_g (lw_at lw_m0 94 rfl) rfl
theorem q106 : (Jvm.Cond.instanceMethod ({ cls := "OilVectorDesk", name := "nibble", desc := "(II)I" } : Jvm.MethodName)) ∈ lw_all := lw_g (lw_at lw_m0 103 rfl) rfl
theorem q107 : (Jvm.Cond.selects "OilVectorDesk" ({ cls := "OilVectorDesk", name := "nibble", desc := "(II)I" } : Jvm.MethodName) ({ cls := "OilVectorDesk", name := "nibble", desc := "(II)I" } : Jvm.MethodName)) ∈ lw_all := lw_g (lw_at lw_m0 104 rfl) rfl
theorem q108 : (Jvm.Cond.code ({ cls := "OilVectorDesk", name := "nibble", desc := "(II)I" } : Jvm.MethodName) prog_4_method_10_code (3 : Nat) (Option.some Jvm.ClassFile.FieldType.int)) ∈ lw_all := lw_g (lw_at lw_m0 105 rfl) rfl
theorem q109 : (Jvm.Cond.methodLink "OilVectorDesk" (44 : Nat) ({ cls := "GF", name := "getEle16", desc := "([BI)I" } : Jvm.MethodName)) ∈ lw_all := lw_g (lw_at lw_m0 106 rfl) rfl
theorem q113 : (Jvm.Cond.instanceMethod ({ cls := "OilVectorDesk", name := "layNibble", desc := "(III)V" } : Jvm.MethodName)) ∈ lw_all := lw_g (lw_at lw_m0 110 rfl) rfl
theorem q114 : (Jvm.Cond.selects "OilVectorDesk" ({ cls := "OilVectorDesk", name := "layNibble", desc := "(III)V" } : Jvm.MethodName) ({ cls := "OilVectorDesk", name := "layNibble", desc := "(III)V" } : Jvm.MethodName)) ∈ lw_all := lw_g (lw_at lw_m0 111 rfl) rfl
theorem q115 : (Jvm.Cond.code ({ cls := "OilVectorDesk", name := "layNibble", desc := "(III)V" } : Jvm.MethodName) prog_4_method_11_code (4 : Nat) (Option.none : Option Jvm.ClassFile.FieldType)) ∈ lw_all := lw_g (lw_at lw_m0 112 rfl) rfl
theorem q116 : (Jvm.Cond.methodLink "OilVectorDesk" (48 : Nat) ({ cls := "GF", name := "setEle16", desc := "([BII)V" } : Jvm.MethodName)) ∈ lw_all := lw_g (lw_at lw_m0 113 rfl) rfl
theorem q120 : (Jvm.Cond.instanceMethod ({ cls := "OilVectorDesk", name := "get", desc := "(II)I" } : Jvm.MethodName)) ∈ lw_all := lw_g (lw_at lw_m0 117 rfl) rfl
theorem q121 : (Jvm.Cond.selects "OilVectorDesk" ({ cls := "OilVectorDesk", name := "get", desc := "(II)I" } : Jvm.MethodName) ({ cls := "OilVectorDesk", name := "get", desc := "(II)I" } : Jvm.MethodName)) ∈ lw_all := lw_g (lw_at lw_m0 118 rfl) rfl
theorem q122 : (Jvm.Cond.code ({ cls := "OilVectorDesk", name := "get", desc := "(II)I" } : Jvm.MethodName) prog_4_method_12_code (3 : Nat) (Option.some Jvm.ClassFile.FieldType.int)) ∈ lw_all := lw_g (lw_at lw_m0 119 rfl) rfl
theorem in_X0 : ∀ w ∈ wsX00, w ∈ lw_all := lw_in wsX00 [21] (by decide +kernel) (by decide +kernel)
/-! OilVectorDeskModel -/
set_option maxRecDepth 100000
def RX1 : String := "OilVectorDeskModel"
def TX1 : u_T := fun k => match k with
  | _ => ("OilVectorDeskModel", "bit", "[Z", true)
def tyX1 : Nat → FieldType := fun k => match k with
  | _ => .array .boolean
abbrev wsX10 : List Cond := u_ws RX1 TX1 1
theorem nmX1 : ∀ a, a < 1 → ∀ b, b < 1 → a ≠ b → (TX1 a).2.1 ≠ (TX1 b).2.1 := by decide +kernel
theorem tyX1_ok : ∀ k, k < 1 → parseFieldDescriptor (TX1 k).2.2.1 = some (tyX1 k) := by decide +kernel
abbrev cX1_init : ByteArray := prog_6_method_1_code
def yX1_init : MethodName := ⟨RX1, "<init>", "()V"⟩
def dkwX1_init_0 : List UInt8 := [42, 183, 0, 1, 42, 17, 4, 0, 188, 4, 181, 0, 7, 177]
abbrev dktX1_init_0 : List UInt8 := dkwX1_init_0 ++ []
theorem dksX1_init_0 : cX1_init.data.toList.drop 0 = dktX1_init_0 := by decide +kernel
theorem dX1_init_0 : decode cX1_init 0 = .ok (.aload_n 0, 1) := dk_42 (dk_at dksX1_init_0 0 rfl rfl)
theorem dX1_init_1 : decode cX1_init 1 = .ok (.invokespecial 1, 3) := dk_183 0 1 (dk_at dksX1_init_0 1 rfl rfl)
theorem dX1_init_4 : decode cX1_init 4 = .ok (.aload_n 0, 1) := dk_42 (dk_at dksX1_init_0 4 rfl rfl)
theorem dX1_init_5 : decode cX1_init 5 = .ok (.sipush 1024, 3) := dk_17 4 0 (dk_at dksX1_init_0 5 rfl rfl)
theorem dX1_init_8 : decode cX1_init 8 = .ok (.newarray .boolean, 2) := dk_188_4 (dk_at dksX1_init_0 8 rfl rfl)
theorem dX1_init_10 : decode cX1_init 10 = .ok (.putfield 7, 3) := dk_181 0 7 (dk_at dksX1_init_0 10 rfl rfl)
theorem dX1_init_13 : decode cX1_init 13 = .ok (.return_, 1) := dk_177 (dk_at dksX1_init_0 13 rfl rfl)
abbrev cX1_lay : ByteArray := prog_6_method_7_code
def yX1_lay : MethodName := ⟨RX1, "lay", "(IIIII)V"⟩
def dkwX1_lay_3 : List UInt8 := [21, 7, 7, 112, 16, 8, 104, 100, 122, 17, 0, 255, 126, 182, 0, 25, 132, 7, 1, 167, 255, 189, 177]
abbrev dktX1_lay_3 : List UInt8 := dkwX1_lay_3 ++ []
def dkwX1_lay_2 : List UInt8 := [21, 4, 167, 0, 5, 21, 5, 54, 8, 42, 21, 6, 16, 8, 21, 7, 104, 96, 16, 8, 21, 8, 16, 24]
abbrev dktX1_lay_2 : List UInt8 := dkwX1_lay_2 ++ dktX1_lay_3
def dkwX1_lay_1 : List UInt8 := [21, 7, 16, 12, 162, 0, 66, 21, 7, 7, 162, 0, 7, 29, 167, 0, 17, 21, 7, 16, 8, 162, 0, 8]
abbrev dktX1_lay_1 : List UInt8 := dkwX1_lay_1 ++ dktX1_lay_2
def dkwX1_lay_0 : List UInt8 := [27, 6, 126, 17, 1, 0, 104, 28, 18, 29, 126, 16, 6, 112, 16, 32, 104, 96, 54, 6, 3, 54, 7]
abbrev dktX1_lay_0 : List UInt8 := dkwX1_lay_0 ++ dktX1_lay_1
theorem dksX1_lay_0 : cX1_lay.data.toList.drop 0 = dktX1_lay_0 := by decide +kernel
theorem dksX1_lay_1 : cX1_lay.data.toList.drop 23 = dktX1_lay_1 := dk_seg dksX1_lay_0 23 rfl rfl
theorem dksX1_lay_2 : cX1_lay.data.toList.drop 47 = dktX1_lay_2 := dk_seg dksX1_lay_1 24 rfl rfl
theorem dksX1_lay_3 : cX1_lay.data.toList.drop 71 = dktX1_lay_3 := dk_seg dksX1_lay_2 24 rfl rfl
theorem dX1_lay_0 : decode cX1_lay 0 = .ok (.iload_n 1, 1) := dk_27 (dk_at dksX1_lay_0 0 rfl rfl)
theorem dX1_lay_1 : decode cX1_lay 1 = .ok (.iconst 3, 1) := dk_6 (dk_at dksX1_lay_0 1 rfl rfl)
theorem dX1_lay_2 : decode cX1_lay 2 = .ok (.iand, 1) := dk_126 (dk_at dksX1_lay_0 2 rfl rfl)
theorem dX1_lay_3 : decode cX1_lay 3 = .ok (.sipush 256, 3) := dk_17 1 0 (dk_at dksX1_lay_0 3 rfl rfl)
theorem dX1_lay_6 : decode cX1_lay 6 = .ok (.imul, 1) := dk_104 (dk_at dksX1_lay_0 6 rfl rfl)
theorem dX1_lay_7 : decode cX1_lay 7 = .ok (.iload_n 2, 1) := dk_28 (dk_at dksX1_lay_0 7 rfl rfl)
theorem dX1_lay_8 : decode cX1_lay 8 = .ok (.ldc 29, 2) := dk_18 29 (dk_at dksX1_lay_0 8 rfl rfl)
theorem dX1_lay_10 : decode cX1_lay 10 = .ok (.iand, 1) := dk_126 (dk_at dksX1_lay_0 10 rfl rfl)
theorem dX1_lay_11 : decode cX1_lay 11 = .ok (.bipush 6, 2) := dk_16 6 (dk_at dksX1_lay_0 11 rfl rfl)
theorem dX1_lay_13 : decode cX1_lay 13 = .ok (.irem, 1) := dk_112 (dk_at dksX1_lay_0 13 rfl rfl)
theorem dX1_lay_14 : decode cX1_lay 14 = .ok (.bipush 32, 2) := dk_16 32 (dk_at dksX1_lay_0 14 rfl rfl)
theorem dX1_lay_16 : decode cX1_lay 16 = .ok (.imul, 1) := dk_104 (dk_at dksX1_lay_0 16 rfl rfl)
theorem dX1_lay_17 : decode cX1_lay 17 = .ok (.iadd, 1) := dk_96 (dk_at dksX1_lay_0 17 rfl rfl)
theorem dX1_lay_18 : decode cX1_lay 18 = .ok (.istore 6, 2) := dk_54 6 (dk_at dksX1_lay_0 18 rfl rfl)
theorem dX1_lay_20 : decode cX1_lay 20 = .ok (.iconst 0, 1) := dk_3 (dk_at dksX1_lay_0 20 rfl rfl)
theorem dX1_lay_21 : decode cX1_lay 21 = .ok (.istore 7, 2) := dk_54 7 (dk_at dksX1_lay_0 21 rfl rfl)
theorem dX1_lay_23 : decode cX1_lay 23 = .ok (.iload 7, 2) := dk_21 7 (dk_at dksX1_lay_1 0 rfl rfl)
theorem dX1_lay_25 : decode cX1_lay 25 = .ok (.bipush 12, 2) := dk_16 12 (dk_at dksX1_lay_1 2 rfl rfl)
theorem dX1_lay_27 : decode cX1_lay 27 = .ok (.if_icmp .ge 66, 3) := dk_162 0 66 (dk_at dksX1_lay_1 4 rfl rfl)
theorem dX1_lay_30 : decode cX1_lay 30 = .ok (.iload 7, 2) := dk_21 7 (dk_at dksX1_lay_1 7 rfl rfl)
theorem dX1_lay_32 : decode cX1_lay 32 = .ok (.iconst 4, 1) := dk_7 (dk_at dksX1_lay_1 9 rfl rfl)
theorem dX1_lay_33 : decode cX1_lay 33 = .ok (.if_icmp .ge 7, 3) := dk_162 0 7 (dk_at dksX1_lay_1 10 rfl rfl)
theorem dX1_lay_36 : decode cX1_lay 36 = .ok (.iload_n 3, 1) := dk_29 (dk_at dksX1_lay_1 13 rfl rfl)
theorem dX1_lay_37 : decode cX1_lay 37 = .ok (.goto 17, 3) := dk_167 0 17 (dk_at dksX1_lay_1 14 rfl rfl)
theorem dX1_lay_40 : decode cX1_lay 40 = .ok (.iload 7, 2) := dk_21 7 (dk_at dksX1_lay_1 17 rfl rfl)
theorem dX1_lay_42 : decode cX1_lay 42 = .ok (.bipush 8, 2) := dk_16 8 (dk_at dksX1_lay_1 19 rfl rfl)
theorem dX1_lay_44 : decode cX1_lay 44 = .ok (.if_icmp .ge 8, 3) := dk_162 0 8 (dk_at dksX1_lay_1 21 rfl rfl)
theorem dX1_lay_47 : decode cX1_lay 47 = .ok (.iload 4, 2) := dk_21 4 (dk_at dksX1_lay_2 0 rfl rfl)
theorem dX1_lay_49 : decode cX1_lay 49 = .ok (.goto 5, 3) := dk_167 0 5 (dk_at dksX1_lay_2 2 rfl rfl)
theorem dX1_lay_52 : decode cX1_lay 52 = .ok (.iload 5, 2) := dk_21 5 (dk_at dksX1_lay_2 5 rfl rfl)
theorem dX1_lay_54 : decode cX1_lay 54 = .ok (.istore 8, 2) := dk_54 8 (dk_at dksX1_lay_2 7 rfl rfl)
theorem dX1_lay_56 : decode cX1_lay 56 = .ok (.aload_n 0, 1) := dk_42 (dk_at dksX1_lay_2 9 rfl rfl)
theorem dX1_lay_57 : decode cX1_lay 57 = .ok (.iload 6, 2) := dk_21 6 (dk_at dksX1_lay_2 10 rfl rfl)
theorem dX1_lay_59 : decode cX1_lay 59 = .ok (.bipush 8, 2) := dk_16 8 (dk_at dksX1_lay_2 12 rfl rfl)
theorem dX1_lay_61 : decode cX1_lay 61 = .ok (.iload 7, 2) := dk_21 7 (dk_at dksX1_lay_2 14 rfl rfl)
theorem dX1_lay_63 : decode cX1_lay 63 = .ok (.imul, 1) := dk_104 (dk_at dksX1_lay_2 16 rfl rfl)
theorem dX1_lay_64 : decode cX1_lay 64 = .ok (.iadd, 1) := dk_96 (dk_at dksX1_lay_2 17 rfl rfl)
theorem dX1_lay_65 : decode cX1_lay 65 = .ok (.bipush 8, 2) := dk_16 8 (dk_at dksX1_lay_2 18 rfl rfl)
theorem dX1_lay_67 : decode cX1_lay 67 = .ok (.iload 8, 2) := dk_21 8 (dk_at dksX1_lay_2 20 rfl rfl)
theorem dX1_lay_69 : decode cX1_lay 69 = .ok (.bipush 24, 2) := dk_16 24 (dk_at dksX1_lay_2 22 rfl rfl)
theorem dX1_lay_71 : decode cX1_lay 71 = .ok (.iload 7, 2) := dk_21 7 (dk_at dksX1_lay_3 0 rfl rfl)
theorem dX1_lay_73 : decode cX1_lay 73 = .ok (.iconst 4, 1) := dk_7 (dk_at dksX1_lay_3 2 rfl rfl)
theorem dX1_lay_74 : decode cX1_lay 74 = .ok (.irem, 1) := dk_112 (dk_at dksX1_lay_3 3 rfl rfl)
theorem dX1_lay_75 : decode cX1_lay 75 = .ok (.bipush 8, 2) := dk_16 8 (dk_at dksX1_lay_3 4 rfl rfl)
theorem dX1_lay_77 : decode cX1_lay 77 = .ok (.imul, 1) := dk_104 (dk_at dksX1_lay_3 6 rfl rfl)
theorem dX1_lay_78 : decode cX1_lay 78 = .ok (.isub, 1) := dk_100 (dk_at dksX1_lay_3 7 rfl rfl)
theorem dX1_lay_79 : decode cX1_lay 79 = .ok (.ishr, 1) := dk_122 (dk_at dksX1_lay_3 8 rfl rfl)
theorem dX1_lay_80 : decode cX1_lay 80 = .ok (.sipush 255, 3) := dk_17 0 255 (dk_at dksX1_lay_3 9 rfl rfl)
theorem dX1_lay_83 : decode cX1_lay 83 = .ok (.iand, 1) := dk_126 (dk_at dksX1_lay_3 12 rfl rfl)
theorem dX1_lay_84 : decode cX1_lay 84 = .ok (.invokevirtual 25, 3) := dk_182 0 25 (dk_at dksX1_lay_3 13 rfl rfl)
theorem dX1_lay_87 : decode cX1_lay 87 = .ok (.iinc 7 1, 3) := dk_132 7 1 (dk_at dksX1_lay_3 16 rfl rfl)
theorem dX1_lay_90 : decode cX1_lay 90 = .ok (.goto (-67), 3) := dk_167 255 189 (dk_at dksX1_lay_3 19 rfl rfl)
theorem dX1_lay_93 : decode cX1_lay 93 = .ok (.return_, 1) := dk_177 (dk_at dksX1_lay_3 22 rfl rfl)
abbrev cX1_write : ByteArray := prog_6_method_3_code
def yX1_write : MethodName := ⟨RX1, "write", "(III)V"⟩
def dkwX1_write_1 : List UInt8 := [4, 167, 0, 4, 3, 84, 29, 5, 108, 62, 132, 4, 1, 167, 255, 222, 177]
abbrev dktX1_write_1 : List UInt8 := dkwX1_write_1 ++ []
def dkwX1_write_0 : List UInt8 := [3, 54, 4, 21, 4, 28, 162, 0, 34, 42, 180, 0, 7, 27, 21, 4, 96, 29, 5, 112, 4, 160, 0, 7]
abbrev dktX1_write_0 : List UInt8 := dkwX1_write_0 ++ dktX1_write_1
theorem dksX1_write_0 : cX1_write.data.toList.drop 0 = dktX1_write_0 := by decide +kernel
theorem dksX1_write_1 : cX1_write.data.toList.drop 24 = dktX1_write_1 := dk_seg dksX1_write_0 24 rfl rfl
theorem dX1_write_0 : decode cX1_write 0 = .ok (.iconst 0, 1) := dk_3 (dk_at dksX1_write_0 0 rfl rfl)
theorem dX1_write_1 : decode cX1_write 1 = .ok (.istore 4, 2) := dk_54 4 (dk_at dksX1_write_0 1 rfl rfl)
theorem dX1_write_3 : decode cX1_write 3 = .ok (.iload 4, 2) := dk_21 4 (dk_at dksX1_write_0 3 rfl rfl)
theorem dX1_write_5 : decode cX1_write 5 = .ok (.iload_n 2, 1) := dk_28 (dk_at dksX1_write_0 5 rfl rfl)
theorem dX1_write_6 : decode cX1_write 6 = .ok (.if_icmp .ge 34, 3) := dk_162 0 34 (dk_at dksX1_write_0 6 rfl rfl)
theorem dX1_write_9 : decode cX1_write 9 = .ok (.aload_n 0, 1) := dk_42 (dk_at dksX1_write_0 9 rfl rfl)
theorem dX1_write_10 : decode cX1_write 10 = .ok (.getfield 7, 3) := dk_180 0 7 (dk_at dksX1_write_0 10 rfl rfl)
theorem dX1_write_13 : decode cX1_write 13 = .ok (.iload_n 1, 1) := dk_27 (dk_at dksX1_write_0 13 rfl rfl)
theorem dX1_write_14 : decode cX1_write 14 = .ok (.iload 4, 2) := dk_21 4 (dk_at dksX1_write_0 14 rfl rfl)
theorem dX1_write_16 : decode cX1_write 16 = .ok (.iadd, 1) := dk_96 (dk_at dksX1_write_0 16 rfl rfl)
theorem dX1_write_17 : decode cX1_write 17 = .ok (.iload_n 3, 1) := dk_29 (dk_at dksX1_write_0 17 rfl rfl)
theorem dX1_write_18 : decode cX1_write 18 = .ok (.iconst 2, 1) := dk_5 (dk_at dksX1_write_0 18 rfl rfl)
theorem dX1_write_19 : decode cX1_write 19 = .ok (.irem, 1) := dk_112 (dk_at dksX1_write_0 19 rfl rfl)
theorem dX1_write_20 : decode cX1_write 20 = .ok (.iconst 1, 1) := dk_4 (dk_at dksX1_write_0 20 rfl rfl)
theorem dX1_write_21 : decode cX1_write 21 = .ok (.if_icmp .ne 7, 3) := dk_160 0 7 (dk_at dksX1_write_0 21 rfl rfl)
theorem dX1_write_24 : decode cX1_write 24 = .ok (.iconst 1, 1) := dk_4 (dk_at dksX1_write_1 0 rfl rfl)
theorem dX1_write_25 : decode cX1_write 25 = .ok (.goto 4, 3) := dk_167 0 4 (dk_at dksX1_write_1 1 rfl rfl)
theorem dX1_write_28 : decode cX1_write 28 = .ok (.iconst 0, 1) := dk_3 (dk_at dksX1_write_1 4 rfl rfl)
theorem dX1_write_29 : decode cX1_write 29 = .ok (.bastore, 1) := dk_84 (dk_at dksX1_write_1 5 rfl rfl)
theorem dX1_write_30 : decode cX1_write 30 = .ok (.iload_n 3, 1) := dk_29 (dk_at dksX1_write_1 6 rfl rfl)
theorem dX1_write_31 : decode cX1_write 31 = .ok (.iconst 2, 1) := dk_5 (dk_at dksX1_write_1 7 rfl rfl)
theorem dX1_write_32 : decode cX1_write 32 = .ok (.idiv, 1) := dk_108 (dk_at dksX1_write_1 8 rfl rfl)
theorem dX1_write_33 : decode cX1_write 33 = .ok (.istore_n 3, 1) := dk_62 (dk_at dksX1_write_1 9 rfl rfl)
theorem dX1_write_34 : decode cX1_write 34 = .ok (.iinc 4 1, 3) := dk_132 4 1 (dk_at dksX1_write_1 10 rfl rfl)
theorem dX1_write_37 : decode cX1_write 37 = .ok (.goto (-34), 3) := dk_167 255 222 (dk_at dksX1_write_1 13 rfl rfl)
theorem dX1_write_40 : decode cX1_write 40 = .ok (.return_, 1) := dk_177 (dk_at dksX1_write_1 16 rfl rfl)
abbrev cX1_add : ByteArray := prog_6_method_8_code
def yX1_add : MethodName := ⟨RX1, "add", "(II)V"⟩
def dkwX1_add_0 : List UInt8 := [42, 27, 28, 4, 182, 0, 30, 177]
abbrev dktX1_add_0 : List UInt8 := dkwX1_add_0 ++ []
theorem dksX1_add_0 : cX1_add.data.toList.drop 0 = dktX1_add_0 := by decide +kernel
theorem dX1_add_0 : decode cX1_add 0 = .ok (.aload_n 0, 1) := dk_42 (dk_at dksX1_add_0 0 rfl rfl)
theorem dX1_add_1 : decode cX1_add 1 = .ok (.iload_n 1, 1) := dk_27 (dk_at dksX1_add_0 1 rfl rfl)
theorem dX1_add_2 : decode cX1_add 2 = .ok (.iload_n 2, 1) := dk_28 (dk_at dksX1_add_0 2 rfl rfl)
theorem dX1_add_3 : decode cX1_add 3 = .ok (.iconst 1, 1) := dk_4 (dk_at dksX1_add_0 3 rfl rfl)
theorem dX1_add_4 : decode cX1_add 4 = .ok (.invokevirtual 30, 3) := dk_182 0 30 (dk_at dksX1_add_0 4 rfl rfl)
theorem dX1_add_7 : decode cX1_add 7 = .ok (.return_, 1) := dk_177 (dk_at dksX1_add_0 7 rfl rfl)
abbrev cX1_addIf : ByteArray := prog_6_method_9_code
def yX1_addIf : MethodName := ⟨RX1, "addIf", "(III)V"⟩
def dkwX1_addIf_1 : List UInt8 := [182, 0, 33, 177]
abbrev dktX1_addIf_1 : List UInt8 := dkwX1_addIf_1 ++ []
def dkwX1_addIf_0 : List UInt8 := [27, 28, 100, 6, 126, 153, 0, 20, 29, 5, 112, 153, 0, 14, 42, 27, 28, 4, 16, 32, 4, 4]
abbrev dktX1_addIf_0 : List UInt8 := dkwX1_addIf_0 ++ dktX1_addIf_1
theorem dksX1_addIf_0 : cX1_addIf.data.toList.drop 0 = dktX1_addIf_0 := by decide +kernel
theorem dksX1_addIf_1 : cX1_addIf.data.toList.drop 22 = dktX1_addIf_1 := dk_seg dksX1_addIf_0 22 rfl rfl
theorem dX1_addIf_0 : decode cX1_addIf 0 = .ok (.iload_n 1, 1) := dk_27 (dk_at dksX1_addIf_0 0 rfl rfl)
theorem dX1_addIf_1 : decode cX1_addIf 1 = .ok (.iload_n 2, 1) := dk_28 (dk_at dksX1_addIf_0 1 rfl rfl)
theorem dX1_addIf_2 : decode cX1_addIf 2 = .ok (.isub, 1) := dk_100 (dk_at dksX1_addIf_0 2 rfl rfl)
theorem dX1_addIf_3 : decode cX1_addIf 3 = .ok (.iconst 3, 1) := dk_6 (dk_at dksX1_addIf_0 3 rfl rfl)
theorem dX1_addIf_4 : decode cX1_addIf 4 = .ok (.iand, 1) := dk_126 (dk_at dksX1_addIf_0 4 rfl rfl)
theorem dX1_addIf_5 : decode cX1_addIf 5 = .ok (.ifCond .eq 20, 3) := dk_153 0 20 (dk_at dksX1_addIf_0 5 rfl rfl)
theorem dX1_addIf_8 : decode cX1_addIf 8 = .ok (.iload_n 3, 1) := dk_29 (dk_at dksX1_addIf_0 8 rfl rfl)
theorem dX1_addIf_9 : decode cX1_addIf 9 = .ok (.iconst 2, 1) := dk_5 (dk_at dksX1_addIf_0 9 rfl rfl)
theorem dX1_addIf_10 : decode cX1_addIf 10 = .ok (.irem, 1) := dk_112 (dk_at dksX1_addIf_0 10 rfl rfl)
theorem dX1_addIf_11 : decode cX1_addIf 11 = .ok (.ifCond .eq 14, 3) := dk_153 0 14 (dk_at dksX1_addIf_0 11 rfl rfl)
theorem dX1_addIf_14 : decode cX1_addIf 14 = .ok (.aload_n 0, 1) := dk_42 (dk_at dksX1_addIf_0 14 rfl rfl)
theorem dX1_addIf_15 : decode cX1_addIf 15 = .ok (.iload_n 1, 1) := dk_27 (dk_at dksX1_addIf_0 15 rfl rfl)
theorem dX1_addIf_16 : decode cX1_addIf 16 = .ok (.iload_n 2, 1) := dk_28 (dk_at dksX1_addIf_0 16 rfl rfl)
theorem dX1_addIf_17 : decode cX1_addIf 17 = .ok (.iconst 1, 1) := dk_4 (dk_at dksX1_addIf_0 17 rfl rfl)
theorem dX1_addIf_18 : decode cX1_addIf 18 = .ok (.bipush 32, 2) := dk_16 32 (dk_at dksX1_addIf_0 18 rfl rfl)
theorem dX1_addIf_20 : decode cX1_addIf 20 = .ok (.iconst 1, 1) := dk_4 (dk_at dksX1_addIf_0 20 rfl rfl)
theorem dX1_addIf_21 : decode cX1_addIf 21 = .ok (.iconst 1, 1) := dk_4 (dk_at dksX1_addIf_0 21 rfl rfl)
theorem dX1_addIf_22 : decode cX1_addIf 22 = .ok (.invokevirtual 33, 3) := dk_182 0 33 (dk_at dksX1_addIf_1 0 rfl rfl)
theorem dX1_addIf_25 : decode cX1_addIf 25 = .ok (.return_, 1) := dk_177 (dk_at dksX1_addIf_1 3 rfl rfl)
abbrev cX1_combine : ByteArray := prog_6_method_6_code
def yX1_combine : MethodName := ⟨RX1, "combine", "(IIIIZZ)V"⟩
def dkwX1_combine_4 : List UInt8 := [21, 8, 21, 7, 96, 54, 8, 167, 255, 171, 177]
abbrev dktX1_combine_4 : List UInt8 := dkwX1_combine_4 ++ []
def dkwX1_combine_3 : List UInt8 := [126, 17, 1, 0, 104, 21, 8, 96, 21, 7, 182, 0, 17, 29, 21, 5, 184, 0, 21, 130, 182, 0, 25]
abbrev dktX1_combine_3 : List UInt8 := dkwX1_combine_3 ++ dktX1_combine_4
def dkwX1_combine_2 : List UInt8 := [167, 0, 4, 3, 54, 9, 42, 27, 6, 126, 17, 1, 0, 104, 21, 8, 96, 21, 7, 21, 9, 42, 28, 6]
abbrev dktX1_combine_2 : List UInt8 := dkwX1_combine_2 ++ dktX1_combine_3
def dkwX1_combine_1 : List UInt8 := [162, 0, 81, 21, 6, 153, 0, 22, 42, 27, 6, 126, 17, 1, 0, 104, 21, 8, 96, 21, 7, 182, 0, 17]
abbrev dktX1_combine_1 : List UInt8 := dkwX1_combine_1 ++ dktX1_combine_2
def dkwX1_combine_0 : List UInt8 := [21, 5, 153, 0, 8, 16, 8, 167, 0, 4, 7, 54, 7, 3, 54, 8, 21, 8, 16, 8, 21, 4, 104]
abbrev dktX1_combine_0 : List UInt8 := dkwX1_combine_0 ++ dktX1_combine_1
theorem dksX1_combine_0 : cX1_combine.data.toList.drop 0 = dktX1_combine_0 := by decide +kernel
theorem dksX1_combine_1 : cX1_combine.data.toList.drop 23 = dktX1_combine_1 := dk_seg dksX1_combine_0 23 rfl rfl
theorem dksX1_combine_2 : cX1_combine.data.toList.drop 47 = dktX1_combine_2 := dk_seg dksX1_combine_1 24 rfl rfl
theorem dksX1_combine_3 : cX1_combine.data.toList.drop 71 = dktX1_combine_3 := dk_seg dksX1_combine_2 24 rfl rfl
theorem dksX1_combine_4 : cX1_combine.data.toList.drop 94 = dktX1_combine_4 := dk_seg dksX1_combine_3 23 rfl rfl
theorem dX1_combine_0 : decode cX1_combine 0 = .ok (.iload 5, 2) := dk_21 5 (dk_at dksX1_combine_0 0 rfl rfl)
theorem dX1_combine_2 : decode cX1_combine 2 = .ok (.ifCond .eq 8, 3) := dk_153 0 8 (dk_at dksX1_combine_0 2 rfl rfl)
theorem dX1_combine_5 : decode cX1_combine 5 = .ok (.bipush 8, 2) := dk_16 8 (dk_at dksX1_combine_0 5 rfl rfl)
theorem dX1_combine_7 : decode cX1_combine 7 = .ok (.goto 4, 3) := dk_167 0 4 (dk_at dksX1_combine_0 7 rfl rfl)
theorem dX1_combine_10 : decode cX1_combine 10 = .ok (.iconst 4, 1) := dk_7 (dk_at dksX1_combine_0 10 rfl rfl)
theorem dX1_combine_11 : decode cX1_combine 11 = .ok (.istore 7, 2) := dk_54 7 (dk_at dksX1_combine_0 11 rfl rfl)
theorem dX1_combine_13 : decode cX1_combine 13 = .ok (.iconst 0, 1) := dk_3 (dk_at dksX1_combine_0 13 rfl rfl)
theorem dX1_combine_14 : decode cX1_combine 14 = .ok (.istore 8, 2) := dk_54 8 (dk_at dksX1_combine_0 14 rfl rfl)
theorem dX1_combine_16 : decode cX1_combine 16 = .ok (.iload 8, 2) := dk_21 8 (dk_at dksX1_combine_0 16 rfl rfl)
theorem dX1_combine_18 : decode cX1_combine 18 = .ok (.bipush 8, 2) := dk_16 8 (dk_at dksX1_combine_0 18 rfl rfl)
theorem dX1_combine_20 : decode cX1_combine 20 = .ok (.iload 4, 2) := dk_21 4 (dk_at dksX1_combine_0 20 rfl rfl)
theorem dX1_combine_22 : decode cX1_combine 22 = .ok (.imul, 1) := dk_104 (dk_at dksX1_combine_0 22 rfl rfl)
theorem dX1_combine_23 : decode cX1_combine 23 = .ok (.if_icmp .ge 81, 3) := dk_162 0 81 (dk_at dksX1_combine_1 0 rfl rfl)
theorem dX1_combine_26 : decode cX1_combine 26 = .ok (.iload 6, 2) := dk_21 6 (dk_at dksX1_combine_1 3 rfl rfl)
theorem dX1_combine_28 : decode cX1_combine 28 = .ok (.ifCond .eq 22, 3) := dk_153 0 22 (dk_at dksX1_combine_1 5 rfl rfl)
theorem dX1_combine_31 : decode cX1_combine 31 = .ok (.aload_n 0, 1) := dk_42 (dk_at dksX1_combine_1 8 rfl rfl)
theorem dX1_combine_32 : decode cX1_combine 32 = .ok (.iload_n 1, 1) := dk_27 (dk_at dksX1_combine_1 9 rfl rfl)
theorem dX1_combine_33 : decode cX1_combine 33 = .ok (.iconst 3, 1) := dk_6 (dk_at dksX1_combine_1 10 rfl rfl)
theorem dX1_combine_34 : decode cX1_combine 34 = .ok (.iand, 1) := dk_126 (dk_at dksX1_combine_1 11 rfl rfl)
theorem dX1_combine_35 : decode cX1_combine 35 = .ok (.sipush 256, 3) := dk_17 1 0 (dk_at dksX1_combine_1 12 rfl rfl)
theorem dX1_combine_38 : decode cX1_combine 38 = .ok (.imul, 1) := dk_104 (dk_at dksX1_combine_1 15 rfl rfl)
theorem dX1_combine_39 : decode cX1_combine 39 = .ok (.iload 8, 2) := dk_21 8 (dk_at dksX1_combine_1 16 rfl rfl)
theorem dX1_combine_41 : decode cX1_combine 41 = .ok (.iadd, 1) := dk_96 (dk_at dksX1_combine_1 18 rfl rfl)
theorem dX1_combine_42 : decode cX1_combine 42 = .ok (.iload 7, 2) := dk_21 7 (dk_at dksX1_combine_1 19 rfl rfl)
theorem dX1_combine_44 : decode cX1_combine 44 = .ok (.invokevirtual 17, 3) := dk_182 0 17 (dk_at dksX1_combine_1 21 rfl rfl)
theorem dX1_combine_47 : decode cX1_combine 47 = .ok (.goto 4, 3) := dk_167 0 4 (dk_at dksX1_combine_2 0 rfl rfl)
theorem dX1_combine_50 : decode cX1_combine 50 = .ok (.iconst 0, 1) := dk_3 (dk_at dksX1_combine_2 3 rfl rfl)
theorem dX1_combine_51 : decode cX1_combine 51 = .ok (.istore 9, 2) := dk_54 9 (dk_at dksX1_combine_2 4 rfl rfl)
theorem dX1_combine_53 : decode cX1_combine 53 = .ok (.aload_n 0, 1) := dk_42 (dk_at dksX1_combine_2 6 rfl rfl)
theorem dX1_combine_54 : decode cX1_combine 54 = .ok (.iload_n 1, 1) := dk_27 (dk_at dksX1_combine_2 7 rfl rfl)
theorem dX1_combine_55 : decode cX1_combine 55 = .ok (.iconst 3, 1) := dk_6 (dk_at dksX1_combine_2 8 rfl rfl)
theorem dX1_combine_56 : decode cX1_combine 56 = .ok (.iand, 1) := dk_126 (dk_at dksX1_combine_2 9 rfl rfl)
theorem dX1_combine_57 : decode cX1_combine 57 = .ok (.sipush 256, 3) := dk_17 1 0 (dk_at dksX1_combine_2 10 rfl rfl)
theorem dX1_combine_60 : decode cX1_combine 60 = .ok (.imul, 1) := dk_104 (dk_at dksX1_combine_2 13 rfl rfl)
theorem dX1_combine_61 : decode cX1_combine 61 = .ok (.iload 8, 2) := dk_21 8 (dk_at dksX1_combine_2 14 rfl rfl)
theorem dX1_combine_63 : decode cX1_combine 63 = .ok (.iadd, 1) := dk_96 (dk_at dksX1_combine_2 16 rfl rfl)
theorem dX1_combine_64 : decode cX1_combine 64 = .ok (.iload 7, 2) := dk_21 7 (dk_at dksX1_combine_2 17 rfl rfl)
theorem dX1_combine_66 : decode cX1_combine 66 = .ok (.iload 9, 2) := dk_21 9 (dk_at dksX1_combine_2 19 rfl rfl)
theorem dX1_combine_68 : decode cX1_combine 68 = .ok (.aload_n 0, 1) := dk_42 (dk_at dksX1_combine_2 21 rfl rfl)
theorem dX1_combine_69 : decode cX1_combine 69 = .ok (.iload_n 2, 1) := dk_28 (dk_at dksX1_combine_2 22 rfl rfl)
theorem dX1_combine_70 : decode cX1_combine 70 = .ok (.iconst 3, 1) := dk_6 (dk_at dksX1_combine_2 23 rfl rfl)
theorem dX1_combine_71 : decode cX1_combine 71 = .ok (.iand, 1) := dk_126 (dk_at dksX1_combine_3 0 rfl rfl)
theorem dX1_combine_72 : decode cX1_combine 72 = .ok (.sipush 256, 3) := dk_17 1 0 (dk_at dksX1_combine_3 1 rfl rfl)
theorem dX1_combine_75 : decode cX1_combine 75 = .ok (.imul, 1) := dk_104 (dk_at dksX1_combine_3 4 rfl rfl)
theorem dX1_combine_76 : decode cX1_combine 76 = .ok (.iload 8, 2) := dk_21 8 (dk_at dksX1_combine_3 5 rfl rfl)
theorem dX1_combine_78 : decode cX1_combine 78 = .ok (.iadd, 1) := dk_96 (dk_at dksX1_combine_3 7 rfl rfl)
theorem dX1_combine_79 : decode cX1_combine 79 = .ok (.iload 7, 2) := dk_21 7 (dk_at dksX1_combine_3 8 rfl rfl)
theorem dX1_combine_81 : decode cX1_combine 81 = .ok (.invokevirtual 17, 3) := dk_182 0 17 (dk_at dksX1_combine_3 10 rfl rfl)
theorem dX1_combine_84 : decode cX1_combine 84 = .ok (.iload_n 3, 1) := dk_29 (dk_at dksX1_combine_3 13 rfl rfl)
theorem dX1_combine_85 : decode cX1_combine 85 = .ok (.iload 5, 2) := dk_21 5 (dk_at dksX1_combine_3 14 rfl rfl)
theorem dX1_combine_87 : decode cX1_combine 87 = .ok (.invokestatic 21, 3) := dk_184 0 21 (dk_at dksX1_combine_3 16 rfl rfl)
theorem dX1_combine_90 : decode cX1_combine 90 = .ok (.ixor, 1) := dk_130 (dk_at dksX1_combine_3 19 rfl rfl)
theorem dX1_combine_91 : decode cX1_combine 91 = .ok (.invokevirtual 25, 3) := dk_182 0 25 (dk_at dksX1_combine_3 20 rfl rfl)
theorem dX1_combine_94 : decode cX1_combine 94 = .ok (.iload 8, 2) := dk_21 8 (dk_at dksX1_combine_4 0 rfl rfl)
theorem dX1_combine_96 : decode cX1_combine 96 = .ok (.iload 7, 2) := dk_21 7 (dk_at dksX1_combine_4 2 rfl rfl)
theorem dX1_combine_98 : decode cX1_combine 98 = .ok (.iadd, 1) := dk_96 (dk_at dksX1_combine_4 4 rfl rfl)
theorem dX1_combine_99 : decode cX1_combine 99 = .ok (.istore 8, 2) := dk_54 8 (dk_at dksX1_combine_4 5 rfl rfl)
theorem dX1_combine_101 : decode cX1_combine 101 = .ok (.goto (-85), 3) := dk_167 255 171 (dk_at dksX1_combine_4 7 rfl rfl)
theorem dX1_combine_104 : decode cX1_combine 104 = .ok (.return_, 1) := dk_177 (dk_at dksX1_combine_4 10 rfl rfl)
abbrev cX1_read : ByteArray := prog_6_method_2_code
def yX1_read : MethodName := ⟨RX1, "read", "(II)I"⟩
def dkwX1_read_1 : List UInt8 := [153, 0, 7, 4, 167, 0, 4, 3, 96, 62, 132, 4, 255, 167, 255, 226, 29, 172]
abbrev dktX1_read_1 : List UInt8 := dkwX1_read_1 ++ []
def dkwX1_read_0 : List UInt8 := [3, 62, 28, 4, 100, 54, 4, 21, 4, 155, 0, 31, 5, 29, 104, 42, 180, 0, 7, 27, 21, 4, 96, 51]
abbrev dktX1_read_0 : List UInt8 := dkwX1_read_0 ++ dktX1_read_1
theorem dksX1_read_0 : cX1_read.data.toList.drop 0 = dktX1_read_0 := by decide +kernel
theorem dksX1_read_1 : cX1_read.data.toList.drop 24 = dktX1_read_1 := dk_seg dksX1_read_0 24 rfl rfl
theorem dX1_read_0 : decode cX1_read 0 = .ok (.iconst 0, 1) := dk_3 (dk_at dksX1_read_0 0 rfl rfl)
theorem dX1_read_1 : decode cX1_read 1 = .ok (.istore_n 3, 1) := dk_62 (dk_at dksX1_read_0 1 rfl rfl)
theorem dX1_read_2 : decode cX1_read 2 = .ok (.iload_n 2, 1) := dk_28 (dk_at dksX1_read_0 2 rfl rfl)
theorem dX1_read_3 : decode cX1_read 3 = .ok (.iconst 1, 1) := dk_4 (dk_at dksX1_read_0 3 rfl rfl)
theorem dX1_read_4 : decode cX1_read 4 = .ok (.isub, 1) := dk_100 (dk_at dksX1_read_0 4 rfl rfl)
theorem dX1_read_5 : decode cX1_read 5 = .ok (.istore 4, 2) := dk_54 4 (dk_at dksX1_read_0 5 rfl rfl)
theorem dX1_read_7 : decode cX1_read 7 = .ok (.iload 4, 2) := dk_21 4 (dk_at dksX1_read_0 7 rfl rfl)
theorem dX1_read_9 : decode cX1_read 9 = .ok (.ifCond .lt 31, 3) := dk_155 0 31 (dk_at dksX1_read_0 9 rfl rfl)
theorem dX1_read_12 : decode cX1_read 12 = .ok (.iconst 2, 1) := dk_5 (dk_at dksX1_read_0 12 rfl rfl)
theorem dX1_read_13 : decode cX1_read 13 = .ok (.iload_n 3, 1) := dk_29 (dk_at dksX1_read_0 13 rfl rfl)
theorem dX1_read_14 : decode cX1_read 14 = .ok (.imul, 1) := dk_104 (dk_at dksX1_read_0 14 rfl rfl)
theorem dX1_read_15 : decode cX1_read 15 = .ok (.aload_n 0, 1) := dk_42 (dk_at dksX1_read_0 15 rfl rfl)
theorem dX1_read_16 : decode cX1_read 16 = .ok (.getfield 7, 3) := dk_180 0 7 (dk_at dksX1_read_0 16 rfl rfl)
theorem dX1_read_19 : decode cX1_read 19 = .ok (.iload_n 1, 1) := dk_27 (dk_at dksX1_read_0 19 rfl rfl)
theorem dX1_read_20 : decode cX1_read 20 = .ok (.iload 4, 2) := dk_21 4 (dk_at dksX1_read_0 20 rfl rfl)
theorem dX1_read_22 : decode cX1_read 22 = .ok (.iadd, 1) := dk_96 (dk_at dksX1_read_0 22 rfl rfl)
theorem dX1_read_23 : decode cX1_read 23 = .ok (.baload, 1) := dk_51 (dk_at dksX1_read_0 23 rfl rfl)
theorem dX1_read_24 : decode cX1_read 24 = .ok (.ifCond .eq 7, 3) := dk_153 0 7 (dk_at dksX1_read_1 0 rfl rfl)
theorem dX1_read_27 : decode cX1_read 27 = .ok (.iconst 1, 1) := dk_4 (dk_at dksX1_read_1 3 rfl rfl)
theorem dX1_read_28 : decode cX1_read 28 = .ok (.goto 4, 3) := dk_167 0 4 (dk_at dksX1_read_1 4 rfl rfl)
theorem dX1_read_31 : decode cX1_read 31 = .ok (.iconst 0, 1) := dk_3 (dk_at dksX1_read_1 7 rfl rfl)
theorem dX1_read_32 : decode cX1_read 32 = .ok (.iadd, 1) := dk_96 (dk_at dksX1_read_1 8 rfl rfl)
theorem dX1_read_33 : decode cX1_read 33 = .ok (.istore_n 3, 1) := dk_62 (dk_at dksX1_read_1 9 rfl rfl)
theorem dX1_read_34 : decode cX1_read 34 = .ok (.iinc 4 (-1), 3) := dk_132 4 255 (dk_at dksX1_read_1 10 rfl rfl)
theorem dX1_read_37 : decode cX1_read 37 = .ok (.goto (-30), 3) := dk_167 255 226 (dk_at dksX1_read_1 13 rfl rfl)
theorem dX1_read_40 : decode cX1_read 40 = .ok (.iload_n 3, 1) := dk_29 (dk_at dksX1_read_1 16 rfl rfl)
theorem dX1_read_41 : decode cX1_read 41 = .ok (.ireturn, 1) := dk_172 (dk_at dksX1_read_1 17 rfl rfl)
abbrev cX1_times : ByteArray := prog_6_method_5_code
def yX1_times : MethodName := ⟨RX1, "times", "(IIZ)I"⟩
def dkwX1_times_1 : List UInt8 := [184, 0, 13, 172]
abbrev dktX1_times_1 : List UInt8 := dkwX1_times_1 ++ []
def dkwX1_times_0 : List UInt8 := [28, 153, 0, 16, 26, 27, 17, 1, 27, 16, 8, 184, 0, 13, 167, 0, 11, 26, 27, 16, 19, 7]
abbrev dktX1_times_0 : List UInt8 := dkwX1_times_0 ++ dktX1_times_1
theorem dksX1_times_0 : cX1_times.data.toList.drop 0 = dktX1_times_0 := by decide +kernel
theorem dksX1_times_1 : cX1_times.data.toList.drop 22 = dktX1_times_1 := dk_seg dksX1_times_0 22 rfl rfl
theorem dX1_times_0 : decode cX1_times 0 = .ok (.iload_n 2, 1) := dk_28 (dk_at dksX1_times_0 0 rfl rfl)
theorem dX1_times_1 : decode cX1_times 1 = .ok (.ifCond .eq 16, 3) := dk_153 0 16 (dk_at dksX1_times_0 1 rfl rfl)
theorem dX1_times_4 : decode cX1_times 4 = .ok (.iload_n 0, 1) := dk_26 (dk_at dksX1_times_0 4 rfl rfl)
theorem dX1_times_5 : decode cX1_times 5 = .ok (.iload_n 1, 1) := dk_27 (dk_at dksX1_times_0 5 rfl rfl)
theorem dX1_times_6 : decode cX1_times 6 = .ok (.sipush 283, 3) := dk_17 1 27 (dk_at dksX1_times_0 6 rfl rfl)
theorem dX1_times_9 : decode cX1_times 9 = .ok (.bipush 8, 2) := dk_16 8 (dk_at dksX1_times_0 9 rfl rfl)
theorem dX1_times_11 : decode cX1_times 11 = .ok (.invokestatic 13, 3) := dk_184 0 13 (dk_at dksX1_times_0 11 rfl rfl)
theorem dX1_times_14 : decode cX1_times 14 = .ok (.goto 11, 3) := dk_167 0 11 (dk_at dksX1_times_0 14 rfl rfl)
theorem dX1_times_17 : decode cX1_times 17 = .ok (.iload_n 0, 1) := dk_26 (dk_at dksX1_times_0 17 rfl rfl)
theorem dX1_times_18 : decode cX1_times 18 = .ok (.iload_n 1, 1) := dk_27 (dk_at dksX1_times_0 18 rfl rfl)
theorem dX1_times_19 : decode cX1_times 19 = .ok (.bipush 19, 2) := dk_16 19 (dk_at dksX1_times_0 19 rfl rfl)
theorem dX1_times_21 : decode cX1_times 21 = .ok (.iconst 4, 1) := dk_7 (dk_at dksX1_times_0 21 rfl rfl)
theorem dX1_times_22 : decode cX1_times 22 = .ok (.invokestatic 13, 3) := dk_184 0 13 (dk_at dksX1_times_1 0 rfl rfl)
theorem dX1_times_25 : decode cX1_times 25 = .ok (.ireturn, 1) := dk_172 (dk_at dksX1_times_1 3 rfl rfl)
abbrev cX1_product : ByteArray := prog_6_method_4_code
def yX1_product : MethodName := ⟨RX1, "product", "(IIII)I"⟩
def dkwX1_product_3 : List UInt8 := [167, 255, 228, 21, 4, 172]
abbrev dktX1_product_3 : List UInt8 := dkwX1_product_3 ++ []
def dkwX1_product_2 : List UInt8 := [21, 4, 21, 4, 21, 5, 122, 4, 126, 28, 21, 5, 29, 100, 120, 104, 130, 54, 4, 132, 5, 255]
abbrev dktX1_product_2 : List UInt8 := dkwX1_product_2 ++ dktX1_product_3
def dkwX1_product_1 : List UInt8 := [104, 130, 54, 4, 132, 5, 1, 167, 255, 231, 5, 29, 104, 5, 100, 54, 5, 21, 5, 29, 161, 0, 28]
abbrev dktX1_product_1 : List UInt8 := dkwX1_product_1 ++ dktX1_product_2
def dkwX1_product_0 : List UInt8 := [3, 54, 4, 3, 54, 5, 21, 5, 29, 162, 0, 25, 21, 4, 27, 21, 5, 122, 4, 126, 26, 21, 5, 120]
abbrev dktX1_product_0 : List UInt8 := dkwX1_product_0 ++ dktX1_product_1
theorem dksX1_product_0 : cX1_product.data.toList.drop 0 = dktX1_product_0 := by decide +kernel
theorem dksX1_product_1 : cX1_product.data.toList.drop 24 = dktX1_product_1 := dk_seg dksX1_product_0 24 rfl rfl
theorem dksX1_product_2 : cX1_product.data.toList.drop 47 = dktX1_product_2 := dk_seg dksX1_product_1 23 rfl rfl
theorem dksX1_product_3 : cX1_product.data.toList.drop 69 = dktX1_product_3 := dk_seg dksX1_product_2 22 rfl rfl
theorem dX1_product_0 : decode cX1_product 0 = .ok (.iconst 0, 1) := dk_3 (dk_at dksX1_product_0 0 rfl rfl)
theorem dX1_product_1 : decode cX1_product 1 = .ok (.istore 4, 2) := dk_54 4 (dk_at dksX1_product_0 1 rfl rfl)
theorem dX1_product_3 : decode cX1_product 3 = .ok (.iconst 0, 1) := dk_3 (dk_at dksX1_product_0 3 rfl rfl)
theorem dX1_product_4 : decode cX1_product 4 = .ok (.istore 5, 2) := dk_54 5 (dk_at dksX1_product_0 4 rfl rfl)
theorem dX1_product_6 : decode cX1_product 6 = .ok (.iload 5, 2) := dk_21 5 (dk_at dksX1_product_0 6 rfl rfl)
theorem dX1_product_8 : decode cX1_product 8 = .ok (.iload_n 3, 1) := dk_29 (dk_at dksX1_product_0 8 rfl rfl)
theorem dX1_product_9 : decode cX1_product 9 = .ok (.if_icmp .ge 25, 3) := dk_162 0 25 (dk_at dksX1_product_0 9 rfl rfl)
theorem dX1_product_12 : decode cX1_product 12 = .ok (.iload 4, 2) := dk_21 4 (dk_at dksX1_product_0 12 rfl rfl)
theorem dX1_product_14 : decode cX1_product 14 = .ok (.iload_n 1, 1) := dk_27 (dk_at dksX1_product_0 14 rfl rfl)
theorem dX1_product_15 : decode cX1_product 15 = .ok (.iload 5, 2) := dk_21 5 (dk_at dksX1_product_0 15 rfl rfl)
theorem dX1_product_17 : decode cX1_product 17 = .ok (.ishr, 1) := dk_122 (dk_at dksX1_product_0 17 rfl rfl)
theorem dX1_product_18 : decode cX1_product 18 = .ok (.iconst 1, 1) := dk_4 (dk_at dksX1_product_0 18 rfl rfl)
theorem dX1_product_19 : decode cX1_product 19 = .ok (.iand, 1) := dk_126 (dk_at dksX1_product_0 19 rfl rfl)
theorem dX1_product_20 : decode cX1_product 20 = .ok (.iload_n 0, 1) := dk_26 (dk_at dksX1_product_0 20 rfl rfl)
theorem dX1_product_21 : decode cX1_product 21 = .ok (.iload 5, 2) := dk_21 5 (dk_at dksX1_product_0 21 rfl rfl)
theorem dX1_product_23 : decode cX1_product 23 = .ok (.ishl, 1) := dk_120 (dk_at dksX1_product_0 23 rfl rfl)
theorem dX1_product_24 : decode cX1_product 24 = .ok (.imul, 1) := dk_104 (dk_at dksX1_product_1 0 rfl rfl)
theorem dX1_product_25 : decode cX1_product 25 = .ok (.ixor, 1) := dk_130 (dk_at dksX1_product_1 1 rfl rfl)
theorem dX1_product_26 : decode cX1_product 26 = .ok (.istore 4, 2) := dk_54 4 (dk_at dksX1_product_1 2 rfl rfl)
theorem dX1_product_28 : decode cX1_product 28 = .ok (.iinc 5 1, 3) := dk_132 5 1 (dk_at dksX1_product_1 4 rfl rfl)
theorem dX1_product_31 : decode cX1_product 31 = .ok (.goto (-25), 3) := dk_167 255 231 (dk_at dksX1_product_1 7 rfl rfl)
theorem dX1_product_34 : decode cX1_product 34 = .ok (.iconst 2, 1) := dk_5 (dk_at dksX1_product_1 10 rfl rfl)
theorem dX1_product_35 : decode cX1_product 35 = .ok (.iload_n 3, 1) := dk_29 (dk_at dksX1_product_1 11 rfl rfl)
theorem dX1_product_36 : decode cX1_product 36 = .ok (.imul, 1) := dk_104 (dk_at dksX1_product_1 12 rfl rfl)
theorem dX1_product_37 : decode cX1_product 37 = .ok (.iconst 2, 1) := dk_5 (dk_at dksX1_product_1 13 rfl rfl)
theorem dX1_product_38 : decode cX1_product 38 = .ok (.isub, 1) := dk_100 (dk_at dksX1_product_1 14 rfl rfl)
theorem dX1_product_39 : decode cX1_product 39 = .ok (.istore 5, 2) := dk_54 5 (dk_at dksX1_product_1 15 rfl rfl)
theorem dX1_product_41 : decode cX1_product 41 = .ok (.iload 5, 2) := dk_21 5 (dk_at dksX1_product_1 17 rfl rfl)
theorem dX1_product_43 : decode cX1_product 43 = .ok (.iload_n 3, 1) := dk_29 (dk_at dksX1_product_1 19 rfl rfl)
theorem dX1_product_44 : decode cX1_product 44 = .ok (.if_icmp .lt 28, 3) := dk_161 0 28 (dk_at dksX1_product_1 20 rfl rfl)
theorem dX1_product_47 : decode cX1_product 47 = .ok (.iload 4, 2) := dk_21 4 (dk_at dksX1_product_2 0 rfl rfl)
theorem dX1_product_49 : decode cX1_product 49 = .ok (.iload 4, 2) := dk_21 4 (dk_at dksX1_product_2 2 rfl rfl)
theorem dX1_product_51 : decode cX1_product 51 = .ok (.iload 5, 2) := dk_21 5 (dk_at dksX1_product_2 4 rfl rfl)
theorem dX1_product_53 : decode cX1_product 53 = .ok (.ishr, 1) := dk_122 (dk_at dksX1_product_2 6 rfl rfl)
theorem dX1_product_54 : decode cX1_product 54 = .ok (.iconst 1, 1) := dk_4 (dk_at dksX1_product_2 7 rfl rfl)
theorem dX1_product_55 : decode cX1_product 55 = .ok (.iand, 1) := dk_126 (dk_at dksX1_product_2 8 rfl rfl)
theorem dX1_product_56 : decode cX1_product 56 = .ok (.iload_n 2, 1) := dk_28 (dk_at dksX1_product_2 9 rfl rfl)
theorem dX1_product_57 : decode cX1_product 57 = .ok (.iload 5, 2) := dk_21 5 (dk_at dksX1_product_2 10 rfl rfl)
theorem dX1_product_59 : decode cX1_product 59 = .ok (.iload_n 3, 1) := dk_29 (dk_at dksX1_product_2 12 rfl rfl)
theorem dX1_product_60 : decode cX1_product 60 = .ok (.isub, 1) := dk_100 (dk_at dksX1_product_2 13 rfl rfl)
theorem dX1_product_61 : decode cX1_product 61 = .ok (.ishl, 1) := dk_120 (dk_at dksX1_product_2 14 rfl rfl)
theorem dX1_product_62 : decode cX1_product 62 = .ok (.imul, 1) := dk_104 (dk_at dksX1_product_2 15 rfl rfl)
theorem dX1_product_63 : decode cX1_product 63 = .ok (.ixor, 1) := dk_130 (dk_at dksX1_product_2 16 rfl rfl)
theorem dX1_product_64 : decode cX1_product 64 = .ok (.istore 4, 2) := dk_54 4 (dk_at dksX1_product_2 17 rfl rfl)
theorem dX1_product_66 : decode cX1_product 66 = .ok (.iinc 5 (-1), 3) := dk_132 5 255 (dk_at dksX1_product_2 19 rfl rfl)
theorem dX1_product_69 : decode cX1_product 69 = .ok (.goto (-28), 3) := dk_167 255 228 (dk_at dksX1_product_3 0 rfl rfl)
theorem dX1_product_72 : decode cX1_product 72 = .ok (.iload 4, 2) := dk_21 4 (dk_at dksX1_product_3 3 rfl rfl)
theorem dX1_product_74 : decode cX1_product 74 = .ok (.ireturn, 1) := dk_172 (dk_at dksX1_product_3 5 rfl rfl)
abbrev cX1_times_2 : ByteArray := prog_6_method_10_code
def yX1_times_2 : MethodName := ⟨RX1, "times", "(III)V"⟩
def dkwX1_times_2_0 : List UInt8 := [42, 27, 27, 28, 17, 0, 255, 126, 16, 8, 16, 8, 29, 6, 126, 104, 96, 4, 3, 182, 0, 33, 177]
abbrev dktX1_times_2_0 : List UInt8 := dkwX1_times_2_0 ++ []
theorem dksX1_times_2_0 : cX1_times_2.data.toList.drop 0 = dktX1_times_2_0 := by decide +kernel
theorem dX1_times_2_0 : decode cX1_times_2 0 = .ok (.aload_n 0, 1) := dk_42 (dk_at dksX1_times_2_0 0 rfl rfl)
theorem dX1_times_2_1 : decode cX1_times_2 1 = .ok (.iload_n 1, 1) := dk_27 (dk_at dksX1_times_2_0 1 rfl rfl)
theorem dX1_times_2_2 : decode cX1_times_2 2 = .ok (.iload_n 1, 1) := dk_27 (dk_at dksX1_times_2_0 2 rfl rfl)
theorem dX1_times_2_3 : decode cX1_times_2 3 = .ok (.iload_n 2, 1) := dk_28 (dk_at dksX1_times_2_0 3 rfl rfl)
theorem dX1_times_2_4 : decode cX1_times_2 4 = .ok (.sipush 255, 3) := dk_17 0 255 (dk_at dksX1_times_2_0 4 rfl rfl)
theorem dX1_times_2_7 : decode cX1_times_2 7 = .ok (.iand, 1) := dk_126 (dk_at dksX1_times_2_0 7 rfl rfl)
theorem dX1_times_2_8 : decode cX1_times_2 8 = .ok (.bipush 8, 2) := dk_16 8 (dk_at dksX1_times_2_0 8 rfl rfl)
theorem dX1_times_2_10 : decode cX1_times_2 10 = .ok (.bipush 8, 2) := dk_16 8 (dk_at dksX1_times_2_0 10 rfl rfl)
theorem dX1_times_2_12 : decode cX1_times_2 12 = .ok (.iload_n 3, 1) := dk_29 (dk_at dksX1_times_2_0 12 rfl rfl)
theorem dX1_times_2_13 : decode cX1_times_2 13 = .ok (.iconst 3, 1) := dk_6 (dk_at dksX1_times_2_0 13 rfl rfl)
theorem dX1_times_2_14 : decode cX1_times_2 14 = .ok (.iand, 1) := dk_126 (dk_at dksX1_times_2_0 14 rfl rfl)
theorem dX1_times_2_15 : decode cX1_times_2 15 = .ok (.imul, 1) := dk_104 (dk_at dksX1_times_2_0 15 rfl rfl)
theorem dX1_times_2_16 : decode cX1_times_2 16 = .ok (.iadd, 1) := dk_96 (dk_at dksX1_times_2_0 16 rfl rfl)
theorem dX1_times_2_17 : decode cX1_times_2 17 = .ok (.iconst 1, 1) := dk_4 (dk_at dksX1_times_2_0 17 rfl rfl)
theorem dX1_times_2_18 : decode cX1_times_2 18 = .ok (.iconst 0, 1) := dk_3 (dk_at dksX1_times_2_0 18 rfl rfl)
theorem dX1_times_2_19 : decode cX1_times_2 19 = .ok (.invokevirtual 33, 3) := dk_182 0 33 (dk_at dksX1_times_2_0 19 rfl rfl)
theorem dX1_times_2_22 : decode cX1_times_2 22 = .ok (.return_, 1) := dk_177 (dk_at dksX1_times_2_0 22 rfl rfl)
abbrev cX1_timesNibble : ByteArray := prog_6_method_11_code
def yX1_timesNibble : MethodName := ⟨RX1, "timesNibble", "(III)V"⟩
def dkwX1_timesNibble_0 : List UInt8 := [42, 27, 27, 28, 16, 15, 126, 16, 8, 16, 8, 29, 6, 126, 104, 96, 3, 3, 182, 0, 33, 177]
abbrev dktX1_timesNibble_0 : List UInt8 := dkwX1_timesNibble_0 ++ []
theorem dksX1_timesNibble_0 : cX1_timesNibble.data.toList.drop 0 = dktX1_timesNibble_0 := by decide +kernel
theorem dX1_timesNibble_0 : decode cX1_timesNibble 0 = .ok (.aload_n 0, 1) := dk_42 (dk_at dksX1_timesNibble_0 0 rfl rfl)
theorem dX1_timesNibble_1 : decode cX1_timesNibble 1 = .ok (.iload_n 1, 1) := dk_27 (dk_at dksX1_timesNibble_0 1 rfl rfl)
theorem dX1_timesNibble_2 : decode cX1_timesNibble 2 = .ok (.iload_n 1, 1) := dk_27 (dk_at dksX1_timesNibble_0 2 rfl rfl)
theorem dX1_timesNibble_3 : decode cX1_timesNibble 3 = .ok (.iload_n 2, 1) := dk_28 (dk_at dksX1_timesNibble_0 3 rfl rfl)
theorem dX1_timesNibble_4 : decode cX1_timesNibble 4 = .ok (.bipush 15, 2) := dk_16 15 (dk_at dksX1_timesNibble_0 4 rfl rfl)
theorem dX1_timesNibble_6 : decode cX1_timesNibble 6 = .ok (.iand, 1) := dk_126 (dk_at dksX1_timesNibble_0 6 rfl rfl)
theorem dX1_timesNibble_7 : decode cX1_timesNibble 7 = .ok (.bipush 8, 2) := dk_16 8 (dk_at dksX1_timesNibble_0 7 rfl rfl)
theorem dX1_timesNibble_9 : decode cX1_timesNibble 9 = .ok (.bipush 8, 2) := dk_16 8 (dk_at dksX1_timesNibble_0 9 rfl rfl)
theorem dX1_timesNibble_11 : decode cX1_timesNibble 11 = .ok (.iload_n 3, 1) := dk_29 (dk_at dksX1_timesNibble_0 11 rfl rfl)
theorem dX1_timesNibble_12 : decode cX1_timesNibble 12 = .ok (.iconst 3, 1) := dk_6 (dk_at dksX1_timesNibble_0 12 rfl rfl)
theorem dX1_timesNibble_13 : decode cX1_timesNibble 13 = .ok (.iand, 1) := dk_126 (dk_at dksX1_timesNibble_0 13 rfl rfl)
theorem dX1_timesNibble_14 : decode cX1_timesNibble 14 = .ok (.imul, 1) := dk_104 (dk_at dksX1_timesNibble_0 14 rfl rfl)
theorem dX1_timesNibble_15 : decode cX1_timesNibble 15 = .ok (.iadd, 1) := dk_96 (dk_at dksX1_timesNibble_0 15 rfl rfl)
theorem dX1_timesNibble_16 : decode cX1_timesNibble 16 = .ok (.iconst 0, 1) := dk_3 (dk_at dksX1_timesNibble_0 16 rfl rfl)
theorem dX1_timesNibble_17 : decode cX1_timesNibble 17 = .ok (.iconst 0, 1) := dk_3 (dk_at dksX1_timesNibble_0 17 rfl rfl)
theorem dX1_timesNibble_18 : decode cX1_timesNibble 18 = .ok (.invokevirtual 33, 3) := dk_182 0 33 (dk_at dksX1_timesNibble_0 18 rfl rfl)
theorem dX1_timesNibble_21 : decode cX1_timesNibble 21 = .ok (.return_, 1) := dk_177 (dk_at dksX1_timesNibble_0 21 rfl rfl)
abbrev cX1_more : ByteArray := prog_6_method_12_code
def yX1_more : MethodName := ⟨RX1, "more", "(IIII)V"⟩
def dkwX1_more_1 : List UInt8 := [104, 96, 4, 4, 182, 0, 33, 177]
abbrev dktX1_more_1 : List UInt8 := dkwX1_more_1 ++ []
def dkwX1_more_0 : List UInt8 := [27, 28, 100, 6, 126, 153, 0, 26, 42, 27, 28, 29, 17, 0, 255, 126, 16, 8, 16, 8, 21, 4, 6, 126]
abbrev dktX1_more_0 : List UInt8 := dkwX1_more_0 ++ dktX1_more_1
theorem dksX1_more_0 : cX1_more.data.toList.drop 0 = dktX1_more_0 := by decide +kernel
theorem dksX1_more_1 : cX1_more.data.toList.drop 24 = dktX1_more_1 := dk_seg dksX1_more_0 24 rfl rfl
theorem dX1_more_0 : decode cX1_more 0 = .ok (.iload_n 1, 1) := dk_27 (dk_at dksX1_more_0 0 rfl rfl)
theorem dX1_more_1 : decode cX1_more 1 = .ok (.iload_n 2, 1) := dk_28 (dk_at dksX1_more_0 1 rfl rfl)
theorem dX1_more_2 : decode cX1_more 2 = .ok (.isub, 1) := dk_100 (dk_at dksX1_more_0 2 rfl rfl)
theorem dX1_more_3 : decode cX1_more 3 = .ok (.iconst 3, 1) := dk_6 (dk_at dksX1_more_0 3 rfl rfl)
theorem dX1_more_4 : decode cX1_more 4 = .ok (.iand, 1) := dk_126 (dk_at dksX1_more_0 4 rfl rfl)
theorem dX1_more_5 : decode cX1_more 5 = .ok (.ifCond .eq 26, 3) := dk_153 0 26 (dk_at dksX1_more_0 5 rfl rfl)
theorem dX1_more_8 : decode cX1_more 8 = .ok (.aload_n 0, 1) := dk_42 (dk_at dksX1_more_0 8 rfl rfl)
theorem dX1_more_9 : decode cX1_more 9 = .ok (.iload_n 1, 1) := dk_27 (dk_at dksX1_more_0 9 rfl rfl)
theorem dX1_more_10 : decode cX1_more 10 = .ok (.iload_n 2, 1) := dk_28 (dk_at dksX1_more_0 10 rfl rfl)
theorem dX1_more_11 : decode cX1_more 11 = .ok (.iload_n 3, 1) := dk_29 (dk_at dksX1_more_0 11 rfl rfl)
theorem dX1_more_12 : decode cX1_more 12 = .ok (.sipush 255, 3) := dk_17 0 255 (dk_at dksX1_more_0 12 rfl rfl)
theorem dX1_more_15 : decode cX1_more 15 = .ok (.iand, 1) := dk_126 (dk_at dksX1_more_0 15 rfl rfl)
theorem dX1_more_16 : decode cX1_more 16 = .ok (.bipush 8, 2) := dk_16 8 (dk_at dksX1_more_0 16 rfl rfl)
theorem dX1_more_18 : decode cX1_more 18 = .ok (.bipush 8, 2) := dk_16 8 (dk_at dksX1_more_0 18 rfl rfl)
theorem dX1_more_20 : decode cX1_more 20 = .ok (.iload 4, 2) := dk_21 4 (dk_at dksX1_more_0 20 rfl rfl)
theorem dX1_more_22 : decode cX1_more 22 = .ok (.iconst 3, 1) := dk_6 (dk_at dksX1_more_0 22 rfl rfl)
theorem dX1_more_23 : decode cX1_more 23 = .ok (.iand, 1) := dk_126 (dk_at dksX1_more_0 23 rfl rfl)
theorem dX1_more_24 : decode cX1_more 24 = .ok (.imul, 1) := dk_104 (dk_at dksX1_more_1 0 rfl rfl)
theorem dX1_more_25 : decode cX1_more 25 = .ok (.iadd, 1) := dk_96 (dk_at dksX1_more_1 1 rfl rfl)
theorem dX1_more_26 : decode cX1_more 26 = .ok (.iconst 1, 1) := dk_4 (dk_at dksX1_more_1 2 rfl rfl)
theorem dX1_more_27 : decode cX1_more 27 = .ok (.iconst 1, 1) := dk_4 (dk_at dksX1_more_1 3 rfl rfl)
theorem dX1_more_28 : decode cX1_more 28 = .ok (.invokevirtual 33, 3) := dk_182 0 33 (dk_at dksX1_more_1 4 rfl rfl)
theorem dX1_more_31 : decode cX1_more 31 = .ok (.return_, 1) := dk_177 (dk_at dksX1_more_1 7 rfl rfl)
abbrev cX1_moreNibble : ByteArray := prog_6_method_13_code
def yX1_moreNibble : MethodName := ⟨RX1, "moreNibble", "(IIII)V"⟩
def dkwX1_moreNibble_1 : List UInt8 := [96, 3, 4, 182, 0, 33, 177]
abbrev dktX1_moreNibble_1 : List UInt8 := dkwX1_moreNibble_1 ++ []
def dkwX1_moreNibble_0 : List UInt8 := [27, 28, 100, 6, 126, 153, 0, 25, 42, 27, 28, 29, 16, 15, 126, 16, 8, 16, 8, 21, 4, 6, 126, 104]
abbrev dktX1_moreNibble_0 : List UInt8 := dkwX1_moreNibble_0 ++ dktX1_moreNibble_1
theorem dksX1_moreNibble_0 : cX1_moreNibble.data.toList.drop 0 = dktX1_moreNibble_0 := by decide +kernel
theorem dksX1_moreNibble_1 : cX1_moreNibble.data.toList.drop 24 = dktX1_moreNibble_1 := dk_seg dksX1_moreNibble_0 24 rfl rfl
theorem dX1_moreNibble_0 : decode cX1_moreNibble 0 = .ok (.iload_n 1, 1) := dk_27 (dk_at dksX1_moreNibble_0 0 rfl rfl)
theorem dX1_moreNibble_1 : decode cX1_moreNibble 1 = .ok (.iload_n 2, 1) := dk_28 (dk_at dksX1_moreNibble_0 1 rfl rfl)
theorem dX1_moreNibble_2 : decode cX1_moreNibble 2 = .ok (.isub, 1) := dk_100 (dk_at dksX1_moreNibble_0 2 rfl rfl)
theorem dX1_moreNibble_3 : decode cX1_moreNibble 3 = .ok (.iconst 3, 1) := dk_6 (dk_at dksX1_moreNibble_0 3 rfl rfl)
theorem dX1_moreNibble_4 : decode cX1_moreNibble 4 = .ok (.iand, 1) := dk_126 (dk_at dksX1_moreNibble_0 4 rfl rfl)
theorem dX1_moreNibble_5 : decode cX1_moreNibble 5 = .ok (.ifCond .eq 25, 3) := dk_153 0 25 (dk_at dksX1_moreNibble_0 5 rfl rfl)
theorem dX1_moreNibble_8 : decode cX1_moreNibble 8 = .ok (.aload_n 0, 1) := dk_42 (dk_at dksX1_moreNibble_0 8 rfl rfl)
theorem dX1_moreNibble_9 : decode cX1_moreNibble 9 = .ok (.iload_n 1, 1) := dk_27 (dk_at dksX1_moreNibble_0 9 rfl rfl)
theorem dX1_moreNibble_10 : decode cX1_moreNibble 10 = .ok (.iload_n 2, 1) := dk_28 (dk_at dksX1_moreNibble_0 10 rfl rfl)
theorem dX1_moreNibble_11 : decode cX1_moreNibble 11 = .ok (.iload_n 3, 1) := dk_29 (dk_at dksX1_moreNibble_0 11 rfl rfl)
theorem dX1_moreNibble_12 : decode cX1_moreNibble 12 = .ok (.bipush 15, 2) := dk_16 15 (dk_at dksX1_moreNibble_0 12 rfl rfl)
theorem dX1_moreNibble_14 : decode cX1_moreNibble 14 = .ok (.iand, 1) := dk_126 (dk_at dksX1_moreNibble_0 14 rfl rfl)
theorem dX1_moreNibble_15 : decode cX1_moreNibble 15 = .ok (.bipush 8, 2) := dk_16 8 (dk_at dksX1_moreNibble_0 15 rfl rfl)
theorem dX1_moreNibble_17 : decode cX1_moreNibble 17 = .ok (.bipush 8, 2) := dk_16 8 (dk_at dksX1_moreNibble_0 17 rfl rfl)
theorem dX1_moreNibble_19 : decode cX1_moreNibble 19 = .ok (.iload 4, 2) := dk_21 4 (dk_at dksX1_moreNibble_0 19 rfl rfl)
theorem dX1_moreNibble_21 : decode cX1_moreNibble 21 = .ok (.iconst 3, 1) := dk_6 (dk_at dksX1_moreNibble_0 21 rfl rfl)
theorem dX1_moreNibble_22 : decode cX1_moreNibble 22 = .ok (.iand, 1) := dk_126 (dk_at dksX1_moreNibble_0 22 rfl rfl)
theorem dX1_moreNibble_23 : decode cX1_moreNibble 23 = .ok (.imul, 1) := dk_104 (dk_at dksX1_moreNibble_0 23 rfl rfl)
theorem dX1_moreNibble_24 : decode cX1_moreNibble 24 = .ok (.iadd, 1) := dk_96 (dk_at dksX1_moreNibble_1 0 rfl rfl)
theorem dX1_moreNibble_25 : decode cX1_moreNibble 25 = .ok (.iconst 0, 1) := dk_3 (dk_at dksX1_moreNibble_1 1 rfl rfl)
theorem dX1_moreNibble_26 : decode cX1_moreNibble 26 = .ok (.iconst 1, 1) := dk_4 (dk_at dksX1_moreNibble_1 2 rfl rfl)
theorem dX1_moreNibble_27 : decode cX1_moreNibble 27 = .ok (.invokevirtual 33, 3) := dk_182 0 33 (dk_at dksX1_moreNibble_1 3 rfl rfl)
theorem dX1_moreNibble_30 : decode cX1_moreNibble 30 = .ok (.return_, 1) := dk_177 (dk_at dksX1_moreNibble_1 6 rfl rfl)
abbrev cX1_nibble : ByteArray := prog_6_method_14_code
def yX1_nibble : MethodName := ⟨RX1, "nibble", "(II)I"⟩
def dkwX1_nibble_0 : List UInt8 := [42, 27, 6, 126, 17, 1, 0, 104, 28, 16, 63, 126, 7, 104, 96, 7, 182, 0, 17, 172]
abbrev dktX1_nibble_0 : List UInt8 := dkwX1_nibble_0 ++ []
theorem dksX1_nibble_0 : cX1_nibble.data.toList.drop 0 = dktX1_nibble_0 := by decide +kernel
theorem dX1_nibble_0 : decode cX1_nibble 0 = .ok (.aload_n 0, 1) := dk_42 (dk_at dksX1_nibble_0 0 rfl rfl)
theorem dX1_nibble_1 : decode cX1_nibble 1 = .ok (.iload_n 1, 1) := dk_27 (dk_at dksX1_nibble_0 1 rfl rfl)
theorem dX1_nibble_2 : decode cX1_nibble 2 = .ok (.iconst 3, 1) := dk_6 (dk_at dksX1_nibble_0 2 rfl rfl)
theorem dX1_nibble_3 : decode cX1_nibble 3 = .ok (.iand, 1) := dk_126 (dk_at dksX1_nibble_0 3 rfl rfl)
theorem dX1_nibble_4 : decode cX1_nibble 4 = .ok (.sipush 256, 3) := dk_17 1 0 (dk_at dksX1_nibble_0 4 rfl rfl)
theorem dX1_nibble_7 : decode cX1_nibble 7 = .ok (.imul, 1) := dk_104 (dk_at dksX1_nibble_0 7 rfl rfl)
theorem dX1_nibble_8 : decode cX1_nibble 8 = .ok (.iload_n 2, 1) := dk_28 (dk_at dksX1_nibble_0 8 rfl rfl)
theorem dX1_nibble_9 : decode cX1_nibble 9 = .ok (.bipush 63, 2) := dk_16 63 (dk_at dksX1_nibble_0 9 rfl rfl)
theorem dX1_nibble_11 : decode cX1_nibble 11 = .ok (.iand, 1) := dk_126 (dk_at dksX1_nibble_0 11 rfl rfl)
theorem dX1_nibble_12 : decode cX1_nibble 12 = .ok (.iconst 4, 1) := dk_7 (dk_at dksX1_nibble_0 12 rfl rfl)
theorem dX1_nibble_13 : decode cX1_nibble 13 = .ok (.imul, 1) := dk_104 (dk_at dksX1_nibble_0 13 rfl rfl)
theorem dX1_nibble_14 : decode cX1_nibble 14 = .ok (.iadd, 1) := dk_96 (dk_at dksX1_nibble_0 14 rfl rfl)
theorem dX1_nibble_15 : decode cX1_nibble 15 = .ok (.iconst 4, 1) := dk_7 (dk_at dksX1_nibble_0 15 rfl rfl)
theorem dX1_nibble_16 : decode cX1_nibble 16 = .ok (.invokevirtual 17, 3) := dk_182 0 17 (dk_at dksX1_nibble_0 16 rfl rfl)
theorem dX1_nibble_19 : decode cX1_nibble 19 = .ok (.ireturn, 1) := dk_172 (dk_at dksX1_nibble_0 19 rfl rfl)
abbrev cX1_layNibble : ByteArray := prog_6_method_15_code
def yX1_layNibble : MethodName := ⟨RX1, "layNibble", "(III)V"⟩
def dkwX1_layNibble_0 : List UInt8 := [42, 27, 6, 126, 17, 1, 0, 104, 28, 16, 63, 126, 7, 104, 96, 7, 29, 16, 15, 126, 182, 0, 25, 177]
abbrev dktX1_layNibble_0 : List UInt8 := dkwX1_layNibble_0 ++ []
theorem dksX1_layNibble_0 : cX1_layNibble.data.toList.drop 0 = dktX1_layNibble_0 := by decide +kernel
theorem dX1_layNibble_0 : decode cX1_layNibble 0 = .ok (.aload_n 0, 1) := dk_42 (dk_at dksX1_layNibble_0 0 rfl rfl)
theorem dX1_layNibble_1 : decode cX1_layNibble 1 = .ok (.iload_n 1, 1) := dk_27 (dk_at dksX1_layNibble_0 1 rfl rfl)
theorem dX1_layNibble_2 : decode cX1_layNibble 2 = .ok (.iconst 3, 1) := dk_6 (dk_at dksX1_layNibble_0 2 rfl rfl)
theorem dX1_layNibble_3 : decode cX1_layNibble 3 = .ok (.iand, 1) := dk_126 (dk_at dksX1_layNibble_0 3 rfl rfl)
theorem dX1_layNibble_4 : decode cX1_layNibble 4 = .ok (.sipush 256, 3) := dk_17 1 0 (dk_at dksX1_layNibble_0 4 rfl rfl)
theorem dX1_layNibble_7 : decode cX1_layNibble 7 = .ok (.imul, 1) := dk_104 (dk_at dksX1_layNibble_0 7 rfl rfl)
theorem dX1_layNibble_8 : decode cX1_layNibble 8 = .ok (.iload_n 2, 1) := dk_28 (dk_at dksX1_layNibble_0 8 rfl rfl)
theorem dX1_layNibble_9 : decode cX1_layNibble 9 = .ok (.bipush 63, 2) := dk_16 63 (dk_at dksX1_layNibble_0 9 rfl rfl)
theorem dX1_layNibble_11 : decode cX1_layNibble 11 = .ok (.iand, 1) := dk_126 (dk_at dksX1_layNibble_0 11 rfl rfl)
theorem dX1_layNibble_12 : decode cX1_layNibble 12 = .ok (.iconst 4, 1) := dk_7 (dk_at dksX1_layNibble_0 12 rfl rfl)
theorem dX1_layNibble_13 : decode cX1_layNibble 13 = .ok (.imul, 1) := dk_104 (dk_at dksX1_layNibble_0 13 rfl rfl)
theorem dX1_layNibble_14 : decode cX1_layNibble 14 = .ok (.iadd, 1) := dk_96 (dk_at dksX1_layNibble_0 14 rfl rfl)
theorem dX1_layNibble_15 : decode cX1_layNibble 15 = .ok (.iconst 4, 1) := dk_7 (dk_at dksX1_layNibble_0 15 rfl rfl)
theorem dX1_layNibble_16 : decode cX1_layNibble 16 = .ok (.iload_n 3, 1) := dk_29 (dk_at dksX1_layNibble_0 16 rfl rfl)
theorem dX1_layNibble_17 : decode cX1_layNibble 17 = .ok (.bipush 15, 2) := dk_16 15 (dk_at dksX1_layNibble_0 17 rfl rfl)
theorem dX1_layNibble_19 : decode cX1_layNibble 19 = .ok (.iand, 1) := dk_126 (dk_at dksX1_layNibble_0 19 rfl rfl)
theorem dX1_layNibble_20 : decode cX1_layNibble 20 = .ok (.invokevirtual 25, 3) := dk_182 0 25 (dk_at dksX1_layNibble_0 20 rfl rfl)
theorem dX1_layNibble_23 : decode cX1_layNibble 23 = .ok (.return_, 1) := dk_177 (dk_at dksX1_layNibble_0 23 rfl rfl)
abbrev cX1_get : ByteArray := prog_6_method_16_code
def yX1_get : MethodName := ⟨RX1, "get", "(II)I"⟩
def dkwX1_get_0 : List UInt8 := [42, 27, 6, 126, 17, 1, 0, 104, 28, 16, 31, 126, 16, 8, 104, 96, 16, 8, 182, 0, 17, 172]
abbrev dktX1_get_0 : List UInt8 := dkwX1_get_0 ++ []
theorem dksX1_get_0 : cX1_get.data.toList.drop 0 = dktX1_get_0 := by decide +kernel
theorem dX1_get_0 : decode cX1_get 0 = .ok (.aload_n 0, 1) := dk_42 (dk_at dksX1_get_0 0 rfl rfl)
theorem dX1_get_1 : decode cX1_get 1 = .ok (.iload_n 1, 1) := dk_27 (dk_at dksX1_get_0 1 rfl rfl)
theorem dX1_get_2 : decode cX1_get 2 = .ok (.iconst 3, 1) := dk_6 (dk_at dksX1_get_0 2 rfl rfl)
theorem dX1_get_3 : decode cX1_get 3 = .ok (.iand, 1) := dk_126 (dk_at dksX1_get_0 3 rfl rfl)
theorem dX1_get_4 : decode cX1_get 4 = .ok (.sipush 256, 3) := dk_17 1 0 (dk_at dksX1_get_0 4 rfl rfl)
theorem dX1_get_7 : decode cX1_get 7 = .ok (.imul, 1) := dk_104 (dk_at dksX1_get_0 7 rfl rfl)
theorem dX1_get_8 : decode cX1_get 8 = .ok (.iload_n 2, 1) := dk_28 (dk_at dksX1_get_0 8 rfl rfl)
theorem dX1_get_9 : decode cX1_get 9 = .ok (.bipush 31, 2) := dk_16 31 (dk_at dksX1_get_0 9 rfl rfl)
theorem dX1_get_11 : decode cX1_get 11 = .ok (.iand, 1) := dk_126 (dk_at dksX1_get_0 11 rfl rfl)
theorem dX1_get_12 : decode cX1_get 12 = .ok (.bipush 8, 2) := dk_16 8 (dk_at dksX1_get_0 12 rfl rfl)
theorem dX1_get_14 : decode cX1_get 14 = .ok (.imul, 1) := dk_104 (dk_at dksX1_get_0 14 rfl rfl)
theorem dX1_get_15 : decode cX1_get 15 = .ok (.iadd, 1) := dk_96 (dk_at dksX1_get_0 15 rfl rfl)
theorem dX1_get_16 : decode cX1_get 16 = .ok (.bipush 8, 2) := dk_16 8 (dk_at dksX1_get_0 16 rfl rfl)
theorem dX1_get_18 : decode cX1_get 18 = .ok (.invokevirtual 17, 3) := dk_182 0 17 (dk_at dksX1_get_0 18 rfl rfl)
theorem dX1_get_21 : decode cX1_get 21 = .ok (.ireturn, 1) := dk_172 (dk_at dksX1_get_0 21 rfl rfl)
theorem q5 : (Jvm.Cond.initialized "OilVectorDeskModel") ∈ lw_all := lw_g (lw_at lw_m0 2 rfl) rfl
theorem q124 : (Jvm.Cond.instantiable "OilVectorDeskModel" (1 : Nat)) ∈ lw_all := lw_g (lw_at lw_m0 121 rfl) rfl
theorem q126 : (Jvm.Cond.instanceMethod ({ cls := "OilVectorDeskModel", name := "<init>", desc := "()V" } : Jvm.MethodName)) ∈ lw_all := lw_g (lw_at lw_m0 123 rfl) rfl
theorem q127 : (Jvm.Cond.code ({ cls := "OilVectorDeskModel", name := "<init>", desc := "()V" } : Jvm.MethodName) prog_6_method_1_code (1 : Nat) (Option.none : Option Jvm.ClassFile.FieldType)) ∈ lw_all := lw_g (lw_at lw_m0 124 rfl) rfl
theorem q128 : (Jvm.Cond.methodLink "OilVectorDeskModel" (1 : Nat) ({ cls := "java/lang/Object", name := "<init>", desc := "()V" } : Jvm.MethodName)) ∈ lw_all := lw_g (lw_at lw_m0 125 rfl) rfl
theorem q129 : (Jvm.Cond.fieldLink "OilVectorDeskModel" (7 : Nat) "OilVectorDeskModel" "bit" "[Z") ∈ lw_all := lw_g (lw_at lw_m0 126 rfl) rfl
theorem q130 : (Jvm.Cond.laysFinal "OilVectorDeskModel" "OilVectorDeskModel" "bit" "[Z") ∈ lw_all := lw_g (lw_at lw_m0 127 rfl) rfl
theorem q131 : (Jvm.Cond.soleField "OilVectorDeskModel" "bit") ∈ lw_all := lw_g (lw_at lw_m0 128 rfl) rfl
theorem q132 : (Jvm.Cond.superclass "OilVectorDeskModel" "java/lang/Object") ∈ lw_all := lw_g (lw_at lw_m0 129 rfl) rfl
theorem q135 : (Jvm.Cond.instanceMethod ({ cls := "OilVectorDeskModel", name := "lay", desc := "(IIIII)V" } : Jvm.MethodName)) ∈ lw_all := lw_g (lw_at lw_m0 132 rfl) rfl
theorem q136 : (Jvm.Cond.selects "OilVectorDeskModel" ({ cls := "OilVectorDeskModel", name := "lay", desc := "(IIIII)V" } : Jvm.MethodName) ({ cls := "OilVectorDeskModel", name := "lay", desc := "(IIIII)V" } : Jvm.MethodName)) ∈ lw_all := lw_g (lw_at lw_m0 133 rfl) rfl
theorem q137 : (Jvm.Cond.code ({ cls := "OilVectorDeskModel", name := "lay", desc := "(IIIII)V" } : Jvm.MethodName) prog_6_method_7_code (9 : Nat) (Option.none : Option Jvm.ClassFile.FieldType)) ∈ lw_all := lw_g (lw_at lw_m0 134 rfl) rfl
theorem q138 : (Jvm.Cond.constant "OilVectorDeskModel" (29 : Nat) (2147483647 : Int32)) ∈ lw_all := lw_g (lw_at lw_m0 135 rfl) rfl
theorem q139 : (Jvm.Cond.methodLink "OilVectorDeskModel" (25 : Nat) ({ cls := "OilVectorDeskModel", name := "write", desc := "(III)V" } : Jvm.MethodName)) ∈ lw_all := lw_g (lw_at lw_m0 136 rfl) rfl
theorem q140 : (Jvm.Cond.privateMethod ({ cls := "OilVectorDeskModel", name := "write", desc := "(III)V" } : Jvm.MethodName)) ∈ lw_tbl := lw_at lw_m0 137 rfl
theorem q141 : (Jvm.Cond.instanceMethod ({ cls := "OilVectorDeskModel", name := "write", desc := "(III)V" } : Jvm.MethodName)) ∈ lw_all := lw_g (lw_at lw_m0 138 rfl) rfl
theorem q142 : (Jvm.Cond.code ({ cls := "OilVectorDeskModel", name := "write", desc := "(III)V" } : Jvm.MethodName) prog_6_method_3_code (5 : Nat) (Option.none : Option Jvm.ClassFile.FieldType)) ∈ lw_all := lw_g (lw_at lw_m0 139 rfl) rfl
theorem q144 : (Jvm.Cond.instanceMethod ({ cls := "OilVectorDeskModel", name := "add", desc := "(II)V" } : Jvm.MethodName)) ∈ lw_all := lw_g (lw_at lw_m0 141 rfl) rfl
theorem q145 : (Jvm.Cond.selects "OilVectorDeskModel" ({ cls := "OilVectorDeskModel", name := "add", desc := "(II)V" } : Jvm.MethodName) ({ cls := "OilVectorDeskModel", name := "add", desc := "(II)V" } : Jvm.MethodName)) ∈ lw_all := lw_g (lw_at lw_m0 142 rfl) rfl
theorem q146 : (Jvm.Cond.code ({ cls := "OilVectorDeskModel", name := "add", desc := "(II)V" } : Jvm.MethodName) prog_6_method_8_code (3 : Nat) (Option.none : Option Jvm.ClassFile.FieldType)) ∈ lw_all := lw_g (lw_at lw_m0 143 rfl) rfl
theorem q147 : (Jvm.Cond.methodLink "OilVectorDeskModel" (30 : Nat) ({ cls := "OilVectorDeskModel", name := "addIf", desc := "(III)V" } : Jvm.MethodName)) ∈ lw_all := lw_g (lw_at lw_m0 144 rfl) rfl
theorem q148 : (Jvm.Cond.instanceMethod ({ cls := "OilVectorDeskModel", name := "addIf", desc := "(III)V" } : Jvm.MethodName)) ∈ lw_all := lw_g (lw_at lw_m0 145 rfl) rfl
theorem q149 : (Jvm.Cond.selects "OilVectorDeskModel" ({ cls := "OilVectorDeskModel", name := "addIf", desc := "(III)V" } : Jvm.MethodName) ({ cls := "OilVectorDeskModel", name := "addIf", desc := "(III)V" } : Jvm.MethodName)) ∈ lw_all := lw_g (lw_at lw_m0 146 rfl) rfl
theorem q150 : (Jvm.Cond.code ({ cls := "OilVectorDeskModel", name := "addIf", desc := "(III)V" } : Jvm.MethodName) prog_6_method_9_code (4 : Nat) (Option.none : Option Jvm.ClassFile.FieldType)) ∈ lw_all := lw_g (lw_at lw_m0 147 rfl) rfl
theorem q151 : (Jvm.Cond.methodLink "OilVectorDeskModel" (33 : Nat) ({ cls := "OilVectorDeskModel", name := "combine", desc := "(IIIIZZ)V" } : Jvm.MethodName)) ∈ lw_all := lw_g (lw_at lw_m0 148 rfl) rfl
theorem q152 : (Jvm.Cond.privateMethod ({ cls := "OilVectorDeskModel", name := "combine", desc := "(IIIIZZ)V" } : Jvm.MethodName)) ∈ lw_tbl := lw_at lw_m0 149 rfl
theorem q153 : (Jvm.Cond.instanceMethod ({ cls := "OilVectorDeskModel", name := "combine", desc := "(IIIIZZ)V" } : Jvm.MethodName)) ∈ lw_all := lw_g (lw_at lw_m0 150 rfl) rfl
theorem q154 : (Jvm.Cond.code ({ cls := "OilVectorDeskModel", name := "combine", desc := "(IIIIZZ)V" } : Jvm.MethodName) prog_6_method_6_code (10 : Nat) (Option.none : Option Jvm.ClassFile.FieldType)) ∈ lw_all := lw_g (lw_at lw_m0 151 rfl) rfl
theorem q155 : (Jvm.Cond.methodLink "OilVectorDeskModel" (17 : Nat) ({ cls := "OilVectorDeskModel", name := "read", desc := "(II)I" } : Jvm.MethodName)) ∈ lw_all := lw_g (lw_at lw_m0 152 rfl) rfl
theorem q156 : (Jvm.Cond.privateMethod ({ cls := "OilVectorDeskModel", name := "read", desc := "(II)I" } : Jvm.MethodName)) ∈ lw_tbl := lw_at lw_m0 153 rfl
theorem q157 : (Jvm.Cond.instanceMethod ({ cls := "OilVectorDeskModel", name := "read", desc := "(II)I" } : Jvm.MethodName)) ∈ lw_all := lw_g (lw_at lw_m0 154 rfl) rfl
theorem q158 : (Jvm.Cond.code ({ cls := "OilVectorDeskModel", name := "read", desc := "(II)I" } : Jvm.MethodName) prog_6_method_2_code (5 : Nat) (Option.some Jvm.ClassFile.FieldType.int)) ∈ lw_all := lw_g (lw_at lw_m0 155 rfl) rfl
theorem q159 : (Jvm.Cond.methodLink "OilVectorDeskModel" (21 : Nat) ({ cls := "OilVectorDeskModel", name := "times", desc := "(IIZ)I" } : Jvm.MethodName)) ∈ lw_all := lw_g (lw_at lw_m0 156 rfl) rfl
theorem q160 : (Jvm.Cond.static ({ cls := "OilVectorDeskModel", name := "times", desc := "(IIZ)I" } : Jvm.MethodName)) ∈ lw_all := lw_g (lw_at lw_m0 157 rfl) rfl
theorem q161 : (Jvm.Cond.code ({ cls := "OilVectorDeskModel", name := "times", desc := "(IIZ)I" } : Jvm.MethodName) prog_6_method_5_code (3 : Nat) (Option.some Jvm.ClassFile.FieldType.int)) ∈ lw_all := lw_g (lw_at lw_m0 158 rfl) rfl
theorem q162 : (Jvm.Cond.methodLink "OilVectorDeskModel" (13 : Nat) ({ cls := "OilVectorDeskModel", name := "product", desc := "(IIII)I" } : Jvm.MethodName)) ∈ lw_all := lw_g (lw_at lw_m0 159 rfl) rfl
theorem q163 : (Jvm.Cond.static ({ cls := "OilVectorDeskModel", name := "product", desc := "(IIII)I" } : Jvm.MethodName)) ∈ lw_all := lw_g (lw_at lw_m0 160 rfl) rfl
theorem q164 : (Jvm.Cond.code ({ cls := "OilVectorDeskModel", name := "product", desc := "(IIII)I" } : Jvm.MethodName) prog_6_method_4_code (6 : Nat) (Option.some Jvm.ClassFile.FieldType.int)) ∈ lw_all := lw_g (lw_at lw_m0 161 rfl) rfl
theorem q167 : (Jvm.Cond.instanceMethod ({ cls := "OilVectorDeskModel", name := "times", desc := "(III)V" } : Jvm.MethodName)) ∈ lw_all := lw_g (lw_at lw_m0 164 rfl) rfl
theorem q168 : (Jvm.Cond.selects "OilVectorDeskModel" ({ cls := "OilVectorDeskModel", name := "times", desc := "(III)V" } : Jvm.MethodName) ({ cls := "OilVectorDeskModel", name := "times", desc := "(III)V" } : Jvm.MethodName)) ∈ lw_all := lw_g (lw_at lw_m0 165 rfl) rfl
theorem q169 : (Jvm.Cond.code ({ cls := "OilVectorDeskModel", name := "times", desc := "(III)V" } : Jvm.MethodName) prog_6_method_10_code (4 : Nat) (Option.none : Option Jvm.ClassFile.FieldType)) ∈ lw_all := lw_g (lw_at lw_m0 166 rfl) rfl
theorem q171 : (Jvm.Cond.instanceMethod ({ cls := "OilVectorDeskModel", name := "timesNibble", desc := "(III)V" } : Jvm.MethodName)) ∈ lw_all := lw_g (lw_at lw_m0 168 rfl) rfl
theorem q172 : (Jvm.Cond.selects "OilVectorDeskModel" ({ cls := "OilVectorDeskModel", name := "timesNibble", desc := "(III)V" } : Jvm.MethodName) ({ cls := "OilVectorDeskModel", name := "timesNibble", desc := "(III)V" } : Jvm.MethodName)) ∈ lw_all := lw_g (lw_at lw_m0 169 rfl) rfl
theorem q173 : (Jvm.Cond.code ({ cls := "OilVectorDeskModel", name := "timesNibble", desc := "(III)V" } : Jvm.MethodName) prog_6_method_11_code (4 : Nat) (Option.none : Option Jvm.ClassFile.FieldType)) ∈ lw_all := lw_g (lw_at lw_m0 170 rfl) rfl
theorem q175 : (Jvm.Cond.instanceMethod ({ cls := "OilVectorDeskModel", name := "more", desc := "(IIII)V" } : Jvm.MethodName)) ∈ lw_all := lw_g (lw_at lw_m0 172 rfl) rfl
theorem q176 : (Jvm.Cond.selects "OilVectorDeskModel" ({ cls := "OilVectorDeskModel", name := "more", desc := "(IIII)V" } : Jvm.MethodName) ({ cls := "OilVectorDeskModel", name := "more", desc := "(IIII)V" } : Jvm.MethodName)) ∈ lw_all := lw_g (lw_at lw_m0 173 rfl) rfl
theorem q177 : (Jvm.Cond.code ({ cls := "OilVectorDeskModel", name := "more", desc := "(IIII)V" } : Jvm.MethodName) prog_6_method_12_code (5 : Nat) (Option.none : Option Jvm.ClassFile.FieldType)) ∈ lw_all := lw_g (lw_at lw_m0 174 rfl) rfl
theorem q179 : (Jvm.Cond.instanceMethod ({ cls := "OilVectorDeskModel", name := "moreNibble", desc := "(IIII)V" } : Jvm.MethodName)) ∈ lw_all := lw_g (lw_at lw_m0 176 rfl) rfl
theorem q180 : (Jvm.Cond.selects "OilVectorDeskModel" ({ cls := "OilVectorDeskModel", name := "moreNibble", desc := "(IIII)V" } : Jvm.MethodName) ({ cls := "OilVectorDeskModel", name := "moreNibble", desc := "(IIII)V" } : Jvm.MethodName)) ∈ lw_all := lw_g (lw_at lw_m0 177 rfl) rfl
theorem q181 : (Jvm.Cond.code ({ cls := "OilVectorDeskModel", name := "moreNibble", desc := "(IIII)V" } : Jvm.MethodName) prog_6_method_13_code (5 : Nat) (Option.none : Option Jvm.ClassFile.FieldType)) ∈ lw_all := lw_g (lw_at lw_m0 178 rfl) rfl
theorem q183 : (Jvm.Cond.instanceMethod ({ cls := "OilVectorDeskModel", name := "nibble", desc := "(II)I" } : Jvm.MethodName)) ∈ lw_all := lw_g (lw_at lw_m0 180 rfl) rfl
theorem q184 : (Jvm.Cond.selects "OilVectorDeskModel" ({ cls := "OilVectorDeskModel", name := "nibble", desc := "(II)I" } : Jvm.MethodName) ({ cls := "OilVectorDeskModel", name := "nibble", desc := "(II)I" } : Jvm.MethodName)) ∈ lw_all := lw_g (lw_at lw_m0 181 rfl) rfl
theorem q185 : (Jvm.Cond.code ({ cls := "OilVectorDeskModel", name := "nibble", desc := "(II)I" } : Jvm.MethodName) prog_6_method_14_code (3 : Nat) (Option.some Jvm.ClassFile.FieldType.int)) ∈ lw_all := lw_g (lw_at lw_m0 182 rfl) rfl
theorem q187 : (Jvm.Cond.instanceMethod ({ cls := "OilVectorDeskModel", name := "layNibble", desc := "(III)V" } : Jvm.MethodName)) ∈ lw_all := lw_g (lw_at lw_m0 184 rfl) rfl
theorem q188 : (Jvm.Cond.selects "OilVectorDeskModel" ({ cls := "OilVectorDeskModel", name := "layNibble", desc := "(III)V" } : Jvm.MethodName) ({ cls := "OilVectorDeskModel", name := "layNibble", desc := "(III)V" } : Jvm.MethodName)) ∈ lw_all := lw_g (lw_at lw_m0 185 rfl) rfl
theorem q189 : (Jvm.Cond.code ({ cls := "OilVectorDeskModel", name := "layNibble", desc := "(III)V" } : Jvm.MethodName) prog_6_method_15_code (4 : Nat) (Option.none : Option Jvm.ClassFile.FieldType)) ∈ lw_all := lw_g (lw_at lw_m0 186 rfl) rfl
theorem q191 : (Jvm.Cond.instanceMethod ({ cls := "OilVectorDeskModel", name := "get", desc := "(II)I" } : Jvm.MethodName)) ∈ lw_all := lw_g (lw_at lw_m0 188 rfl) rfl
theorem q192 : (Jvm.Cond.selects "OilVectorDeskModel" ({ cls := "OilVectorDeskModel", name := "get", desc := "(II)I" } : Jvm.MethodName) ({ cls := "OilVectorDeskModel", name := "get", desc := "(II)I" } : Jvm.MethodName)) ∈ lw_all := lw_g (lw_at lw_m0 189 rfl) rfl
theorem q193 : (Jvm.Cond.code ({ cls := "OilVectorDeskModel", name := "get", desc := "(II)I" } : Jvm.MethodName) prog_6_method_16_code (3 : Nat) (Option.some Jvm.ClassFile.FieldType.int)) ∈ lw_all := lw_g (lw_at lw_m0 190 rfl) rfl
theorem in_X1 : ∀ w ∈ wsX10, w ∈ lw_all := lw_in wsX10 [130] (by decide +kernel) (by decide +kernel)
/-! the law's own entry -/
set_option maxRecDepth 100000
abbrev cL_law : ByteArray := code
def dkwL_law_21 : List UInt8 := [132, 3, 6, 167, 254, 15, 4, 172]
abbrev dktL_law_21 : List UInt8 := dkwL_law_21 ++ []
def dkwL_law_20 : List UInt8 := [182, 0, 54, 44, 42, 29, 4, 96, 46, 42, 29, 5, 96, 46, 182, 0, 57, 159, 0, 5, 3, 172]
abbrev dktL_law_20 : List UInt8 := dkwL_law_20 ++ dktL_law_21
def dkwL_law_19 : List UInt8 := [42, 29, 6, 96, 46, 182, 0, 53, 167, 0, 36, 43, 42, 29, 4, 96, 46, 42, 29, 5, 96, 46]
abbrev dktL_law_19 : List UInt8 := dkwL_law_19 ++ dktL_law_20
def dkwL_law_18 : List UInt8 := [42, 29, 5, 96, 46, 42, 29, 6, 96, 46, 182, 0, 50, 44, 42, 29, 4, 96, 46, 42, 29, 5, 96, 46]
abbrev dktL_law_18 : List UInt8 := dkwL_law_18 ++ dktL_law_19
def dkwL_law_17 : List UInt8 := [42, 29, 4, 96, 46, 42, 29, 5, 96, 46, 182, 0, 49, 159, 0, 79, 3, 172, 43, 42, 29, 4, 96, 46]
abbrev dktL_law_17 : List UInt8 := dkwL_law_17 ++ dktL_law_18
def dkwL_law_16 : List UInt8 := [7, 96, 46, 182, 0, 44, 167, 0, 110, 43, 42, 29, 4, 96, 46, 42, 29, 5, 96, 46, 182, 0, 45, 44]
abbrev dktL_law_16 : List UInt8 := dkwL_law_16 ++ dktL_law_17
def dkwL_law_15 : List UInt8 := [7, 96, 46, 182, 0, 41, 44, 42, 29, 4, 96, 46, 42, 29, 5, 96, 46, 42, 29, 6, 96, 46, 42, 29]
abbrev dktL_law_15 : List UInt8 := dkwL_law_15 ++ dktL_law_16
def dkwL_law_14 : List UInt8 := [182, 0, 40, 167, 0, 161, 43, 42, 29, 4, 96, 46, 42, 29, 5, 96, 46, 42, 29, 6, 96, 46, 42, 29]
abbrev dktL_law_14 : List UInt8 := dkwL_law_14 ++ dktL_law_15
def dkwL_law_13 : List UInt8 := [182, 0, 36, 44, 42, 29, 4, 96, 46, 42, 29, 5, 96, 46, 42, 29, 6, 96, 46, 42, 29, 7, 96, 46]
abbrev dktL_law_13 : List UInt8 := dkwL_law_13 ++ dktL_law_14
def dkwL_law_12 : List UInt8 := [167, 0, 212, 43, 42, 29, 4, 96, 46, 42, 29, 5, 96, 46, 42, 29, 6, 96, 46, 42, 29, 7, 96, 46]
abbrev dktL_law_12 : List UInt8 := dkwL_law_12 ++ dktL_law_13
def dkwL_law_11 : List UInt8 := [182, 0, 32, 44, 42, 29, 4, 96, 46, 42, 29, 5, 96, 46, 42, 29, 6, 96, 46, 182, 0, 35]
abbrev dktL_law_11 : List UInt8 := dkwL_law_11 ++ dktL_law_12
def dkwL_law_10 : List UInt8 := [182, 0, 31, 167, 0, 253, 43, 42, 29, 4, 96, 46, 42, 29, 5, 96, 46, 42, 29, 6, 96, 46]
abbrev dktL_law_10 : List UInt8 := dkwL_law_10 ++ dktL_law_11
def dkwL_law_9 : List UInt8 := [42, 29, 6, 96, 46, 182, 0, 28, 44, 42, 29, 4, 96, 46, 42, 29, 5, 96, 46, 42, 29, 6, 96, 46]
abbrev dktL_law_9 : List UInt8 := dkwL_law_9 ++ dktL_law_10
def dkwL_law_8 : List UInt8 := [96, 46, 42, 29, 6, 96, 46, 182, 0, 27, 167, 1, 38, 43, 42, 29, 4, 96, 46, 42, 29, 5, 96, 46]
abbrev dktL_law_8 : List UInt8 := dkwL_law_8 ++ dktL_law_9
def dkwL_law_7 : List UInt8 := [96, 46, 42, 29, 5, 96, 46, 42, 29, 6, 96, 46, 182, 0, 23, 44, 42, 29, 4, 96, 46, 42, 29, 5]
abbrev dktL_law_7 : List UInt8 := dkwL_law_7 ++ dktL_law_8
def dkwL_law_6 : List UInt8 := [182, 0, 18, 44, 42, 29, 4, 96, 46, 42, 29, 5, 96, 46, 182, 0, 22, 167, 1, 79, 43, 42, 29, 4]
abbrev dktL_law_6 : List UInt8 := dkwL_law_6 ++ dktL_law_7
def dkwL_law_5 : List UInt8 := [96, 46, 42, 29, 8, 96, 46, 182, 0, 17, 167, 1, 110, 43, 42, 29, 4, 96, 46, 42, 29, 5, 96, 46]
abbrev dktL_law_5 : List UInt8 := dkwL_law_5 ++ dktL_law_6
def dkwL_law_4 : List UInt8 := [96, 46, 182, 0, 13, 44, 42, 29, 4, 96, 46, 42, 29, 5, 96, 46, 42, 29, 6, 96, 46, 42, 29, 7]
abbrev dktL_law_4 : List UInt8 := dkwL_law_4 ++ dktL_law_5
def dkwL_law_3 : List UInt8 := [43, 42, 29, 4, 96, 46, 42, 29, 5, 96, 46, 42, 29, 6, 96, 46, 42, 29, 7, 96, 46, 42, 29, 8]
abbrev dktL_law_3 : List UInt8 := dkwL_law_3 ++ dktL_law_4
def dkwL_law_2 : List UInt8 := [170, 0, 0, 0, 0, 1, 223, 0, 0, 0, 0, 0, 0, 0, 9, 0, 0, 0, 55, 0, 0, 0, 116, 0, 0, 0, 147, 0, 0, 0, 188, 0, 0, 0, 229, 0, 0, 1, 14, 0, 0, 1, 65, 0, 0, 1, 116, 0, 0, 1, 149, 0, 0, 1, 190]
abbrev dktL_law_2 : List UInt8 := dkwL_law_2 ++ dktL_law_3
def dkwL_law_1 : List UInt8 := [163, 1, 238, 42, 29, 46, 16, 15, 126]
abbrev dktL_law_1 : List UInt8 := dkwL_law_1 ++ dktL_law_2
def dkwL_law_0 : List UInt8 := [187, 0, 7, 89, 183, 0, 9, 76, 187, 0, 10, 89, 183, 0, 12, 77, 3, 62, 29, 42, 190, 16, 6, 100]
abbrev dktL_law_0 : List UInt8 := dkwL_law_0 ++ dktL_law_1
theorem dksL_law_0 : cL_law.data.toList.drop 0 = dktL_law_0 := by decide +kernel
theorem dksL_law_1 : cL_law.data.toList.drop 24 = dktL_law_1 := dk_seg dksL_law_0 24 rfl rfl
theorem dksL_law_2 : cL_law.data.toList.drop 33 = dktL_law_2 := dk_seg dksL_law_1 9 rfl rfl
theorem dksL_law_3 : cL_law.data.toList.drop 88 = dktL_law_3 := dk_seg dksL_law_2 55 rfl rfl
theorem dksL_law_4 : cL_law.data.toList.drop 112 = dktL_law_4 := dk_seg dksL_law_3 24 rfl rfl
theorem dksL_law_5 : cL_law.data.toList.drop 136 = dktL_law_5 := dk_seg dksL_law_4 24 rfl rfl
theorem dksL_law_6 : cL_law.data.toList.drop 160 = dktL_law_6 := dk_seg dksL_law_5 24 rfl rfl
theorem dksL_law_7 : cL_law.data.toList.drop 184 = dktL_law_7 := dk_seg dksL_law_6 24 rfl rfl
theorem dksL_law_8 : cL_law.data.toList.drop 208 = dktL_law_8 := dk_seg dksL_law_7 24 rfl rfl
theorem dksL_law_9 : cL_law.data.toList.drop 232 = dktL_law_9 := dk_seg dksL_law_8 24 rfl rfl
theorem dksL_law_10 : cL_law.data.toList.drop 256 = dktL_law_10 := dk_seg dksL_law_9 24 rfl rfl
theorem dksL_law_11 : cL_law.data.toList.drop 278 = dktL_law_11 := dk_seg dksL_law_10 22 rfl rfl
theorem dksL_law_12 : cL_law.data.toList.drop 300 = dktL_law_12 := dk_seg dksL_law_11 22 rfl rfl
theorem dksL_law_13 : cL_law.data.toList.drop 324 = dktL_law_13 := dk_seg dksL_law_12 24 rfl rfl
theorem dksL_law_14 : cL_law.data.toList.drop 348 = dktL_law_14 := dk_seg dksL_law_13 24 rfl rfl
theorem dksL_law_15 : cL_law.data.toList.drop 372 = dktL_law_15 := dk_seg dksL_law_14 24 rfl rfl
theorem dksL_law_16 : cL_law.data.toList.drop 396 = dktL_law_16 := dk_seg dksL_law_15 24 rfl rfl
theorem dksL_law_17 : cL_law.data.toList.drop 420 = dktL_law_17 := dk_seg dksL_law_16 24 rfl rfl
theorem dksL_law_18 : cL_law.data.toList.drop 444 = dktL_law_18 := dk_seg dksL_law_17 24 rfl rfl
theorem dksL_law_19 : cL_law.data.toList.drop 468 = dktL_law_19 := dk_seg dksL_law_18 24 rfl rfl
theorem dksL_law_20 : cL_law.data.toList.drop 490 = dktL_law_20 := dk_seg dksL_law_19 22 rfl rfl
theorem dksL_law_21 : cL_law.data.toList.drop 512 = dktL_law_21 := dk_seg dksL_law_20 22 rfl rfl
theorem dL_law_0 : decode cL_law 0 = .ok (.new 7, 3) := dk_187 0 7 (dk_at dksL_law_0 0 rfl rfl)
theorem dL_law_3 : decode cL_law 3 = .ok (.dup, 1) := dk_89 (dk_at dksL_law_0 3 rfl rfl)
theorem dL_law_4 : decode cL_law 4 = .ok (.invokespecial 9, 3) := dk_183 0 9 (dk_at dksL_law_0 4 rfl rfl)
theorem dL_law_7 : decode cL_law 7 = .ok (.astore_n 1, 1) := dk_76 (dk_at dksL_law_0 7 rfl rfl)
theorem dL_law_8 : decode cL_law 8 = .ok (.new 10, 3) := dk_187 0 10 (dk_at dksL_law_0 8 rfl rfl)
theorem dL_law_11 : decode cL_law 11 = .ok (.dup, 1) := dk_89 (dk_at dksL_law_0 11 rfl rfl)
theorem dL_law_12 : decode cL_law 12 = .ok (.invokespecial 12, 3) := dk_183 0 12 (dk_at dksL_law_0 12 rfl rfl)
theorem dL_law_15 : decode cL_law 15 = .ok (.astore_n 2, 1) := dk_77 (dk_at dksL_law_0 15 rfl rfl)
theorem dL_law_16 : decode cL_law 16 = .ok (.iconst 0, 1) := dk_3 (dk_at dksL_law_0 16 rfl rfl)
theorem dL_law_17 : decode cL_law 17 = .ok (.istore_n 3, 1) := dk_62 (dk_at dksL_law_0 17 rfl rfl)
theorem dL_law_18 : decode cL_law 18 = .ok (.iload_n 3, 1) := dk_29 (dk_at dksL_law_0 18 rfl rfl)
theorem dL_law_19 : decode cL_law 19 = .ok (.aload_n 0, 1) := dk_42 (dk_at dksL_law_0 19 rfl rfl)
theorem dL_law_20 : decode cL_law 20 = .ok (.arraylength, 1) := dk_190 (dk_at dksL_law_0 20 rfl rfl)
theorem dL_law_21 : decode cL_law 21 = .ok (.bipush 6, 2) := dk_16 6 (dk_at dksL_law_0 21 rfl rfl)
theorem dL_law_23 : decode cL_law 23 = .ok (.isub, 1) := dk_100 (dk_at dksL_law_0 23 rfl rfl)
theorem dL_law_24 : decode cL_law 24 = .ok (.if_icmp .gt 494, 3) := dk_163 1 238 (dk_at dksL_law_1 0 rfl rfl)
theorem dL_law_27 : decode cL_law 27 = .ok (.aload_n 0, 1) := dk_42 (dk_at dksL_law_1 3 rfl rfl)
theorem dL_law_28 : decode cL_law 28 = .ok (.iload_n 3, 1) := dk_29 (dk_at dksL_law_1 4 rfl rfl)
theorem dL_law_29 : decode cL_law 29 = .ok (.iaload, 1) := dk_46 (dk_at dksL_law_1 5 rfl rfl)
theorem dL_law_30 : decode cL_law 30 = .ok (.bipush 15, 2) := dk_16 15 (dk_at dksL_law_1 6 rfl rfl)
theorem dL_law_32 : decode cL_law 32 = .ok (.iand, 1) := dk_126 (dk_at dksL_law_1 8 rfl rfl)
theorem dL_law_33 : decode cL_law 33 = .ok (.tableswitch 479 0 9 #[55, 116, 147, 188, 229, 270, 321, 372, 405, 446], 55) := by decide +kernel
theorem dL_law_88 : decode cL_law 88 = .ok (.aload_n 1, 1) := dk_43 (dk_at dksL_law_3 0 rfl rfl)
theorem dL_law_89 : decode cL_law 89 = .ok (.aload_n 0, 1) := dk_42 (dk_at dksL_law_3 1 rfl rfl)
theorem dL_law_90 : decode cL_law 90 = .ok (.iload_n 3, 1) := dk_29 (dk_at dksL_law_3 2 rfl rfl)
theorem dL_law_91 : decode cL_law 91 = .ok (.iconst 1, 1) := dk_4 (dk_at dksL_law_3 3 rfl rfl)
theorem dL_law_92 : decode cL_law 92 = .ok (.iadd, 1) := dk_96 (dk_at dksL_law_3 4 rfl rfl)
theorem dL_law_93 : decode cL_law 93 = .ok (.iaload, 1) := dk_46 (dk_at dksL_law_3 5 rfl rfl)
theorem dL_law_94 : decode cL_law 94 = .ok (.aload_n 0, 1) := dk_42 (dk_at dksL_law_3 6 rfl rfl)
theorem dL_law_95 : decode cL_law 95 = .ok (.iload_n 3, 1) := dk_29 (dk_at dksL_law_3 7 rfl rfl)
theorem dL_law_96 : decode cL_law 96 = .ok (.iconst 2, 1) := dk_5 (dk_at dksL_law_3 8 rfl rfl)
theorem dL_law_97 : decode cL_law 97 = .ok (.iadd, 1) := dk_96 (dk_at dksL_law_3 9 rfl rfl)
theorem dL_law_98 : decode cL_law 98 = .ok (.iaload, 1) := dk_46 (dk_at dksL_law_3 10 rfl rfl)
theorem dL_law_99 : decode cL_law 99 = .ok (.aload_n 0, 1) := dk_42 (dk_at dksL_law_3 11 rfl rfl)
theorem dL_law_100 : decode cL_law 100 = .ok (.iload_n 3, 1) := dk_29 (dk_at dksL_law_3 12 rfl rfl)
theorem dL_law_101 : decode cL_law 101 = .ok (.iconst 3, 1) := dk_6 (dk_at dksL_law_3 13 rfl rfl)
theorem dL_law_102 : decode cL_law 102 = .ok (.iadd, 1) := dk_96 (dk_at dksL_law_3 14 rfl rfl)
theorem dL_law_103 : decode cL_law 103 = .ok (.iaload, 1) := dk_46 (dk_at dksL_law_3 15 rfl rfl)
theorem dL_law_104 : decode cL_law 104 = .ok (.aload_n 0, 1) := dk_42 (dk_at dksL_law_3 16 rfl rfl)
theorem dL_law_105 : decode cL_law 105 = .ok (.iload_n 3, 1) := dk_29 (dk_at dksL_law_3 17 rfl rfl)
theorem dL_law_106 : decode cL_law 106 = .ok (.iconst 4, 1) := dk_7 (dk_at dksL_law_3 18 rfl rfl)
theorem dL_law_107 : decode cL_law 107 = .ok (.iadd, 1) := dk_96 (dk_at dksL_law_3 19 rfl rfl)
theorem dL_law_108 : decode cL_law 108 = .ok (.iaload, 1) := dk_46 (dk_at dksL_law_3 20 rfl rfl)
theorem dL_law_109 : decode cL_law 109 = .ok (.aload_n 0, 1) := dk_42 (dk_at dksL_law_3 21 rfl rfl)
theorem dL_law_110 : decode cL_law 110 = .ok (.iload_n 3, 1) := dk_29 (dk_at dksL_law_3 22 rfl rfl)
theorem dL_law_111 : decode cL_law 111 = .ok (.iconst 5, 1) := dk_8 (dk_at dksL_law_3 23 rfl rfl)
theorem dL_law_112 : decode cL_law 112 = .ok (.iadd, 1) := dk_96 (dk_at dksL_law_4 0 rfl rfl)
theorem dL_law_113 : decode cL_law 113 = .ok (.iaload, 1) := dk_46 (dk_at dksL_law_4 1 rfl rfl)
theorem dL_law_114 : decode cL_law 114 = .ok (.invokevirtual 13, 3) := dk_182 0 13 (dk_at dksL_law_4 2 rfl rfl)
theorem dL_law_117 : decode cL_law 117 = .ok (.aload_n 2, 1) := dk_44 (dk_at dksL_law_4 5 rfl rfl)
theorem dL_law_118 : decode cL_law 118 = .ok (.aload_n 0, 1) := dk_42 (dk_at dksL_law_4 6 rfl rfl)
theorem dL_law_119 : decode cL_law 119 = .ok (.iload_n 3, 1) := dk_29 (dk_at dksL_law_4 7 rfl rfl)
theorem dL_law_120 : decode cL_law 120 = .ok (.iconst 1, 1) := dk_4 (dk_at dksL_law_4 8 rfl rfl)
theorem dL_law_121 : decode cL_law 121 = .ok (.iadd, 1) := dk_96 (dk_at dksL_law_4 9 rfl rfl)
theorem dL_law_122 : decode cL_law 122 = .ok (.iaload, 1) := dk_46 (dk_at dksL_law_4 10 rfl rfl)
theorem dL_law_123 : decode cL_law 123 = .ok (.aload_n 0, 1) := dk_42 (dk_at dksL_law_4 11 rfl rfl)
theorem dL_law_124 : decode cL_law 124 = .ok (.iload_n 3, 1) := dk_29 (dk_at dksL_law_4 12 rfl rfl)
theorem dL_law_125 : decode cL_law 125 = .ok (.iconst 2, 1) := dk_5 (dk_at dksL_law_4 13 rfl rfl)
theorem dL_law_126 : decode cL_law 126 = .ok (.iadd, 1) := dk_96 (dk_at dksL_law_4 14 rfl rfl)
theorem dL_law_127 : decode cL_law 127 = .ok (.iaload, 1) := dk_46 (dk_at dksL_law_4 15 rfl rfl)
theorem dL_law_128 : decode cL_law 128 = .ok (.aload_n 0, 1) := dk_42 (dk_at dksL_law_4 16 rfl rfl)
theorem dL_law_129 : decode cL_law 129 = .ok (.iload_n 3, 1) := dk_29 (dk_at dksL_law_4 17 rfl rfl)
theorem dL_law_130 : decode cL_law 130 = .ok (.iconst 3, 1) := dk_6 (dk_at dksL_law_4 18 rfl rfl)
theorem dL_law_131 : decode cL_law 131 = .ok (.iadd, 1) := dk_96 (dk_at dksL_law_4 19 rfl rfl)
theorem dL_law_132 : decode cL_law 132 = .ok (.iaload, 1) := dk_46 (dk_at dksL_law_4 20 rfl rfl)
theorem dL_law_133 : decode cL_law 133 = .ok (.aload_n 0, 1) := dk_42 (dk_at dksL_law_4 21 rfl rfl)
theorem dL_law_134 : decode cL_law 134 = .ok (.iload_n 3, 1) := dk_29 (dk_at dksL_law_4 22 rfl rfl)
theorem dL_law_135 : decode cL_law 135 = .ok (.iconst 4, 1) := dk_7 (dk_at dksL_law_4 23 rfl rfl)
theorem dL_law_136 : decode cL_law 136 = .ok (.iadd, 1) := dk_96 (dk_at dksL_law_5 0 rfl rfl)
theorem dL_law_137 : decode cL_law 137 = .ok (.iaload, 1) := dk_46 (dk_at dksL_law_5 1 rfl rfl)
theorem dL_law_138 : decode cL_law 138 = .ok (.aload_n 0, 1) := dk_42 (dk_at dksL_law_5 2 rfl rfl)
theorem dL_law_139 : decode cL_law 139 = .ok (.iload_n 3, 1) := dk_29 (dk_at dksL_law_5 3 rfl rfl)
theorem dL_law_140 : decode cL_law 140 = .ok (.iconst 5, 1) := dk_8 (dk_at dksL_law_5 4 rfl rfl)
theorem dL_law_141 : decode cL_law 141 = .ok (.iadd, 1) := dk_96 (dk_at dksL_law_5 5 rfl rfl)
theorem dL_law_142 : decode cL_law 142 = .ok (.iaload, 1) := dk_46 (dk_at dksL_law_5 6 rfl rfl)
theorem dL_law_143 : decode cL_law 143 = .ok (.invokevirtual 17, 3) := dk_182 0 17 (dk_at dksL_law_5 7 rfl rfl)
theorem dL_law_146 : decode cL_law 146 = .ok (.goto 366, 3) := dk_167 1 110 (dk_at dksL_law_5 10 rfl rfl)
theorem dL_law_149 : decode cL_law 149 = .ok (.aload_n 1, 1) := dk_43 (dk_at dksL_law_5 13 rfl rfl)
theorem dL_law_150 : decode cL_law 150 = .ok (.aload_n 0, 1) := dk_42 (dk_at dksL_law_5 14 rfl rfl)
theorem dL_law_151 : decode cL_law 151 = .ok (.iload_n 3, 1) := dk_29 (dk_at dksL_law_5 15 rfl rfl)
theorem dL_law_152 : decode cL_law 152 = .ok (.iconst 1, 1) := dk_4 (dk_at dksL_law_5 16 rfl rfl)
theorem dL_law_153 : decode cL_law 153 = .ok (.iadd, 1) := dk_96 (dk_at dksL_law_5 17 rfl rfl)
theorem dL_law_154 : decode cL_law 154 = .ok (.iaload, 1) := dk_46 (dk_at dksL_law_5 18 rfl rfl)
theorem dL_law_155 : decode cL_law 155 = .ok (.aload_n 0, 1) := dk_42 (dk_at dksL_law_5 19 rfl rfl)
theorem dL_law_156 : decode cL_law 156 = .ok (.iload_n 3, 1) := dk_29 (dk_at dksL_law_5 20 rfl rfl)
theorem dL_law_157 : decode cL_law 157 = .ok (.iconst 2, 1) := dk_5 (dk_at dksL_law_5 21 rfl rfl)
theorem dL_law_158 : decode cL_law 158 = .ok (.iadd, 1) := dk_96 (dk_at dksL_law_5 22 rfl rfl)
theorem dL_law_159 : decode cL_law 159 = .ok (.iaload, 1) := dk_46 (dk_at dksL_law_5 23 rfl rfl)
theorem dL_law_160 : decode cL_law 160 = .ok (.invokevirtual 18, 3) := dk_182 0 18 (dk_at dksL_law_6 0 rfl rfl)
theorem dL_law_163 : decode cL_law 163 = .ok (.aload_n 2, 1) := dk_44 (dk_at dksL_law_6 3 rfl rfl)
theorem dL_law_164 : decode cL_law 164 = .ok (.aload_n 0, 1) := dk_42 (dk_at dksL_law_6 4 rfl rfl)
theorem dL_law_165 : decode cL_law 165 = .ok (.iload_n 3, 1) := dk_29 (dk_at dksL_law_6 5 rfl rfl)
theorem dL_law_166 : decode cL_law 166 = .ok (.iconst 1, 1) := dk_4 (dk_at dksL_law_6 6 rfl rfl)
theorem dL_law_167 : decode cL_law 167 = .ok (.iadd, 1) := dk_96 (dk_at dksL_law_6 7 rfl rfl)
theorem dL_law_168 : decode cL_law 168 = .ok (.iaload, 1) := dk_46 (dk_at dksL_law_6 8 rfl rfl)
theorem dL_law_169 : decode cL_law 169 = .ok (.aload_n 0, 1) := dk_42 (dk_at dksL_law_6 9 rfl rfl)
theorem dL_law_170 : decode cL_law 170 = .ok (.iload_n 3, 1) := dk_29 (dk_at dksL_law_6 10 rfl rfl)
theorem dL_law_171 : decode cL_law 171 = .ok (.iconst 2, 1) := dk_5 (dk_at dksL_law_6 11 rfl rfl)
theorem dL_law_172 : decode cL_law 172 = .ok (.iadd, 1) := dk_96 (dk_at dksL_law_6 12 rfl rfl)
theorem dL_law_173 : decode cL_law 173 = .ok (.iaload, 1) := dk_46 (dk_at dksL_law_6 13 rfl rfl)
theorem dL_law_174 : decode cL_law 174 = .ok (.invokevirtual 22, 3) := dk_182 0 22 (dk_at dksL_law_6 14 rfl rfl)
theorem dL_law_177 : decode cL_law 177 = .ok (.goto 335, 3) := dk_167 1 79 (dk_at dksL_law_6 17 rfl rfl)
theorem dL_law_180 : decode cL_law 180 = .ok (.aload_n 1, 1) := dk_43 (dk_at dksL_law_6 20 rfl rfl)
theorem dL_law_181 : decode cL_law 181 = .ok (.aload_n 0, 1) := dk_42 (dk_at dksL_law_6 21 rfl rfl)
theorem dL_law_182 : decode cL_law 182 = .ok (.iload_n 3, 1) := dk_29 (dk_at dksL_law_6 22 rfl rfl)
theorem dL_law_183 : decode cL_law 183 = .ok (.iconst 1, 1) := dk_4 (dk_at dksL_law_6 23 rfl rfl)
theorem dL_law_184 : decode cL_law 184 = .ok (.iadd, 1) := dk_96 (dk_at dksL_law_7 0 rfl rfl)
theorem dL_law_185 : decode cL_law 185 = .ok (.iaload, 1) := dk_46 (dk_at dksL_law_7 1 rfl rfl)
theorem dL_law_186 : decode cL_law 186 = .ok (.aload_n 0, 1) := dk_42 (dk_at dksL_law_7 2 rfl rfl)
theorem dL_law_187 : decode cL_law 187 = .ok (.iload_n 3, 1) := dk_29 (dk_at dksL_law_7 3 rfl rfl)
theorem dL_law_188 : decode cL_law 188 = .ok (.iconst 2, 1) := dk_5 (dk_at dksL_law_7 4 rfl rfl)
theorem dL_law_189 : decode cL_law 189 = .ok (.iadd, 1) := dk_96 (dk_at dksL_law_7 5 rfl rfl)
theorem dL_law_190 : decode cL_law 190 = .ok (.iaload, 1) := dk_46 (dk_at dksL_law_7 6 rfl rfl)
theorem dL_law_191 : decode cL_law 191 = .ok (.aload_n 0, 1) := dk_42 (dk_at dksL_law_7 7 rfl rfl)
theorem dL_law_192 : decode cL_law 192 = .ok (.iload_n 3, 1) := dk_29 (dk_at dksL_law_7 8 rfl rfl)
theorem dL_law_193 : decode cL_law 193 = .ok (.iconst 3, 1) := dk_6 (dk_at dksL_law_7 9 rfl rfl)
theorem dL_law_194 : decode cL_law 194 = .ok (.iadd, 1) := dk_96 (dk_at dksL_law_7 10 rfl rfl)
theorem dL_law_195 : decode cL_law 195 = .ok (.iaload, 1) := dk_46 (dk_at dksL_law_7 11 rfl rfl)
theorem dL_law_196 : decode cL_law 196 = .ok (.invokevirtual 23, 3) := dk_182 0 23 (dk_at dksL_law_7 12 rfl rfl)
theorem dL_law_199 : decode cL_law 199 = .ok (.aload_n 2, 1) := dk_44 (dk_at dksL_law_7 15 rfl rfl)
theorem dL_law_200 : decode cL_law 200 = .ok (.aload_n 0, 1) := dk_42 (dk_at dksL_law_7 16 rfl rfl)
theorem dL_law_201 : decode cL_law 201 = .ok (.iload_n 3, 1) := dk_29 (dk_at dksL_law_7 17 rfl rfl)
theorem dL_law_202 : decode cL_law 202 = .ok (.iconst 1, 1) := dk_4 (dk_at dksL_law_7 18 rfl rfl)
theorem dL_law_203 : decode cL_law 203 = .ok (.iadd, 1) := dk_96 (dk_at dksL_law_7 19 rfl rfl)
theorem dL_law_204 : decode cL_law 204 = .ok (.iaload, 1) := dk_46 (dk_at dksL_law_7 20 rfl rfl)
theorem dL_law_205 : decode cL_law 205 = .ok (.aload_n 0, 1) := dk_42 (dk_at dksL_law_7 21 rfl rfl)
theorem dL_law_206 : decode cL_law 206 = .ok (.iload_n 3, 1) := dk_29 (dk_at dksL_law_7 22 rfl rfl)
theorem dL_law_207 : decode cL_law 207 = .ok (.iconst 2, 1) := dk_5 (dk_at dksL_law_7 23 rfl rfl)
theorem dL_law_208 : decode cL_law 208 = .ok (.iadd, 1) := dk_96 (dk_at dksL_law_8 0 rfl rfl)
theorem dL_law_209 : decode cL_law 209 = .ok (.iaload, 1) := dk_46 (dk_at dksL_law_8 1 rfl rfl)
theorem dL_law_210 : decode cL_law 210 = .ok (.aload_n 0, 1) := dk_42 (dk_at dksL_law_8 2 rfl rfl)
theorem dL_law_211 : decode cL_law 211 = .ok (.iload_n 3, 1) := dk_29 (dk_at dksL_law_8 3 rfl rfl)
theorem dL_law_212 : decode cL_law 212 = .ok (.iconst 3, 1) := dk_6 (dk_at dksL_law_8 4 rfl rfl)
theorem dL_law_213 : decode cL_law 213 = .ok (.iadd, 1) := dk_96 (dk_at dksL_law_8 5 rfl rfl)
theorem dL_law_214 : decode cL_law 214 = .ok (.iaload, 1) := dk_46 (dk_at dksL_law_8 6 rfl rfl)
theorem dL_law_215 : decode cL_law 215 = .ok (.invokevirtual 27, 3) := dk_182 0 27 (dk_at dksL_law_8 7 rfl rfl)
theorem dL_law_218 : decode cL_law 218 = .ok (.goto 294, 3) := dk_167 1 38 (dk_at dksL_law_8 10 rfl rfl)
theorem dL_law_221 : decode cL_law 221 = .ok (.aload_n 1, 1) := dk_43 (dk_at dksL_law_8 13 rfl rfl)
theorem dL_law_222 : decode cL_law 222 = .ok (.aload_n 0, 1) := dk_42 (dk_at dksL_law_8 14 rfl rfl)
theorem dL_law_223 : decode cL_law 223 = .ok (.iload_n 3, 1) := dk_29 (dk_at dksL_law_8 15 rfl rfl)
theorem dL_law_224 : decode cL_law 224 = .ok (.iconst 1, 1) := dk_4 (dk_at dksL_law_8 16 rfl rfl)
theorem dL_law_225 : decode cL_law 225 = .ok (.iadd, 1) := dk_96 (dk_at dksL_law_8 17 rfl rfl)
theorem dL_law_226 : decode cL_law 226 = .ok (.iaload, 1) := dk_46 (dk_at dksL_law_8 18 rfl rfl)
theorem dL_law_227 : decode cL_law 227 = .ok (.aload_n 0, 1) := dk_42 (dk_at dksL_law_8 19 rfl rfl)
theorem dL_law_228 : decode cL_law 228 = .ok (.iload_n 3, 1) := dk_29 (dk_at dksL_law_8 20 rfl rfl)
theorem dL_law_229 : decode cL_law 229 = .ok (.iconst 2, 1) := dk_5 (dk_at dksL_law_8 21 rfl rfl)
theorem dL_law_230 : decode cL_law 230 = .ok (.iadd, 1) := dk_96 (dk_at dksL_law_8 22 rfl rfl)
theorem dL_law_231 : decode cL_law 231 = .ok (.iaload, 1) := dk_46 (dk_at dksL_law_8 23 rfl rfl)
theorem dL_law_232 : decode cL_law 232 = .ok (.aload_n 0, 1) := dk_42 (dk_at dksL_law_9 0 rfl rfl)
theorem dL_law_233 : decode cL_law 233 = .ok (.iload_n 3, 1) := dk_29 (dk_at dksL_law_9 1 rfl rfl)
theorem dL_law_234 : decode cL_law 234 = .ok (.iconst 3, 1) := dk_6 (dk_at dksL_law_9 2 rfl rfl)
theorem dL_law_235 : decode cL_law 235 = .ok (.iadd, 1) := dk_96 (dk_at dksL_law_9 3 rfl rfl)
theorem dL_law_236 : decode cL_law 236 = .ok (.iaload, 1) := dk_46 (dk_at dksL_law_9 4 rfl rfl)
theorem dL_law_237 : decode cL_law 237 = .ok (.invokevirtual 28, 3) := dk_182 0 28 (dk_at dksL_law_9 5 rfl rfl)
theorem dL_law_240 : decode cL_law 240 = .ok (.aload_n 2, 1) := dk_44 (dk_at dksL_law_9 8 rfl rfl)
theorem dL_law_241 : decode cL_law 241 = .ok (.aload_n 0, 1) := dk_42 (dk_at dksL_law_9 9 rfl rfl)
theorem dL_law_242 : decode cL_law 242 = .ok (.iload_n 3, 1) := dk_29 (dk_at dksL_law_9 10 rfl rfl)
theorem dL_law_243 : decode cL_law 243 = .ok (.iconst 1, 1) := dk_4 (dk_at dksL_law_9 11 rfl rfl)
theorem dL_law_244 : decode cL_law 244 = .ok (.iadd, 1) := dk_96 (dk_at dksL_law_9 12 rfl rfl)
theorem dL_law_245 : decode cL_law 245 = .ok (.iaload, 1) := dk_46 (dk_at dksL_law_9 13 rfl rfl)
theorem dL_law_246 : decode cL_law 246 = .ok (.aload_n 0, 1) := dk_42 (dk_at dksL_law_9 14 rfl rfl)
theorem dL_law_247 : decode cL_law 247 = .ok (.iload_n 3, 1) := dk_29 (dk_at dksL_law_9 15 rfl rfl)
theorem dL_law_248 : decode cL_law 248 = .ok (.iconst 2, 1) := dk_5 (dk_at dksL_law_9 16 rfl rfl)
theorem dL_law_249 : decode cL_law 249 = .ok (.iadd, 1) := dk_96 (dk_at dksL_law_9 17 rfl rfl)
theorem dL_law_250 : decode cL_law 250 = .ok (.iaload, 1) := dk_46 (dk_at dksL_law_9 18 rfl rfl)
theorem dL_law_251 : decode cL_law 251 = .ok (.aload_n 0, 1) := dk_42 (dk_at dksL_law_9 19 rfl rfl)
theorem dL_law_252 : decode cL_law 252 = .ok (.iload_n 3, 1) := dk_29 (dk_at dksL_law_9 20 rfl rfl)
theorem dL_law_253 : decode cL_law 253 = .ok (.iconst 3, 1) := dk_6 (dk_at dksL_law_9 21 rfl rfl)
theorem dL_law_254 : decode cL_law 254 = .ok (.iadd, 1) := dk_96 (dk_at dksL_law_9 22 rfl rfl)
theorem dL_law_255 : decode cL_law 255 = .ok (.iaload, 1) := dk_46 (dk_at dksL_law_9 23 rfl rfl)
theorem dL_law_256 : decode cL_law 256 = .ok (.invokevirtual 31, 3) := dk_182 0 31 (dk_at dksL_law_10 0 rfl rfl)
theorem dL_law_259 : decode cL_law 259 = .ok (.goto 253, 3) := dk_167 0 253 (dk_at dksL_law_10 3 rfl rfl)
theorem dL_law_262 : decode cL_law 262 = .ok (.aload_n 1, 1) := dk_43 (dk_at dksL_law_10 6 rfl rfl)
theorem dL_law_263 : decode cL_law 263 = .ok (.aload_n 0, 1) := dk_42 (dk_at dksL_law_10 7 rfl rfl)
theorem dL_law_264 : decode cL_law 264 = .ok (.iload_n 3, 1) := dk_29 (dk_at dksL_law_10 8 rfl rfl)
theorem dL_law_265 : decode cL_law 265 = .ok (.iconst 1, 1) := dk_4 (dk_at dksL_law_10 9 rfl rfl)
theorem dL_law_266 : decode cL_law 266 = .ok (.iadd, 1) := dk_96 (dk_at dksL_law_10 10 rfl rfl)
theorem dL_law_267 : decode cL_law 267 = .ok (.iaload, 1) := dk_46 (dk_at dksL_law_10 11 rfl rfl)
theorem dL_law_268 : decode cL_law 268 = .ok (.aload_n 0, 1) := dk_42 (dk_at dksL_law_10 12 rfl rfl)
theorem dL_law_269 : decode cL_law 269 = .ok (.iload_n 3, 1) := dk_29 (dk_at dksL_law_10 13 rfl rfl)
theorem dL_law_270 : decode cL_law 270 = .ok (.iconst 2, 1) := dk_5 (dk_at dksL_law_10 14 rfl rfl)
theorem dL_law_271 : decode cL_law 271 = .ok (.iadd, 1) := dk_96 (dk_at dksL_law_10 15 rfl rfl)
theorem dL_law_272 : decode cL_law 272 = .ok (.iaload, 1) := dk_46 (dk_at dksL_law_10 16 rfl rfl)
theorem dL_law_273 : decode cL_law 273 = .ok (.aload_n 0, 1) := dk_42 (dk_at dksL_law_10 17 rfl rfl)
theorem dL_law_274 : decode cL_law 274 = .ok (.iload_n 3, 1) := dk_29 (dk_at dksL_law_10 18 rfl rfl)
theorem dL_law_275 : decode cL_law 275 = .ok (.iconst 3, 1) := dk_6 (dk_at dksL_law_10 19 rfl rfl)
theorem dL_law_276 : decode cL_law 276 = .ok (.iadd, 1) := dk_96 (dk_at dksL_law_10 20 rfl rfl)
theorem dL_law_277 : decode cL_law 277 = .ok (.iaload, 1) := dk_46 (dk_at dksL_law_10 21 rfl rfl)
theorem dL_law_278 : decode cL_law 278 = .ok (.invokevirtual 32, 3) := dk_182 0 32 (dk_at dksL_law_11 0 rfl rfl)
theorem dL_law_281 : decode cL_law 281 = .ok (.aload_n 2, 1) := dk_44 (dk_at dksL_law_11 3 rfl rfl)
theorem dL_law_282 : decode cL_law 282 = .ok (.aload_n 0, 1) := dk_42 (dk_at dksL_law_11 4 rfl rfl)
theorem dL_law_283 : decode cL_law 283 = .ok (.iload_n 3, 1) := dk_29 (dk_at dksL_law_11 5 rfl rfl)
theorem dL_law_284 : decode cL_law 284 = .ok (.iconst 1, 1) := dk_4 (dk_at dksL_law_11 6 rfl rfl)
theorem dL_law_285 : decode cL_law 285 = .ok (.iadd, 1) := dk_96 (dk_at dksL_law_11 7 rfl rfl)
theorem dL_law_286 : decode cL_law 286 = .ok (.iaload, 1) := dk_46 (dk_at dksL_law_11 8 rfl rfl)
theorem dL_law_287 : decode cL_law 287 = .ok (.aload_n 0, 1) := dk_42 (dk_at dksL_law_11 9 rfl rfl)
theorem dL_law_288 : decode cL_law 288 = .ok (.iload_n 3, 1) := dk_29 (dk_at dksL_law_11 10 rfl rfl)
theorem dL_law_289 : decode cL_law 289 = .ok (.iconst 2, 1) := dk_5 (dk_at dksL_law_11 11 rfl rfl)
theorem dL_law_290 : decode cL_law 290 = .ok (.iadd, 1) := dk_96 (dk_at dksL_law_11 12 rfl rfl)
theorem dL_law_291 : decode cL_law 291 = .ok (.iaload, 1) := dk_46 (dk_at dksL_law_11 13 rfl rfl)
theorem dL_law_292 : decode cL_law 292 = .ok (.aload_n 0, 1) := dk_42 (dk_at dksL_law_11 14 rfl rfl)
theorem dL_law_293 : decode cL_law 293 = .ok (.iload_n 3, 1) := dk_29 (dk_at dksL_law_11 15 rfl rfl)
theorem dL_law_294 : decode cL_law 294 = .ok (.iconst 3, 1) := dk_6 (dk_at dksL_law_11 16 rfl rfl)
theorem dL_law_295 : decode cL_law 295 = .ok (.iadd, 1) := dk_96 (dk_at dksL_law_11 17 rfl rfl)
theorem dL_law_296 : decode cL_law 296 = .ok (.iaload, 1) := dk_46 (dk_at dksL_law_11 18 rfl rfl)
theorem dL_law_297 : decode cL_law 297 = .ok (.invokevirtual 35, 3) := dk_182 0 35 (dk_at dksL_law_11 19 rfl rfl)
theorem dL_law_300 : decode cL_law 300 = .ok (.goto 212, 3) := dk_167 0 212 (dk_at dksL_law_12 0 rfl rfl)
theorem dL_law_303 : decode cL_law 303 = .ok (.aload_n 1, 1) := dk_43 (dk_at dksL_law_12 3 rfl rfl)
theorem dL_law_304 : decode cL_law 304 = .ok (.aload_n 0, 1) := dk_42 (dk_at dksL_law_12 4 rfl rfl)
theorem dL_law_305 : decode cL_law 305 = .ok (.iload_n 3, 1) := dk_29 (dk_at dksL_law_12 5 rfl rfl)
theorem dL_law_306 : decode cL_law 306 = .ok (.iconst 1, 1) := dk_4 (dk_at dksL_law_12 6 rfl rfl)
theorem dL_law_307 : decode cL_law 307 = .ok (.iadd, 1) := dk_96 (dk_at dksL_law_12 7 rfl rfl)
theorem dL_law_308 : decode cL_law 308 = .ok (.iaload, 1) := dk_46 (dk_at dksL_law_12 8 rfl rfl)
theorem dL_law_309 : decode cL_law 309 = .ok (.aload_n 0, 1) := dk_42 (dk_at dksL_law_12 9 rfl rfl)
theorem dL_law_310 : decode cL_law 310 = .ok (.iload_n 3, 1) := dk_29 (dk_at dksL_law_12 10 rfl rfl)
theorem dL_law_311 : decode cL_law 311 = .ok (.iconst 2, 1) := dk_5 (dk_at dksL_law_12 11 rfl rfl)
theorem dL_law_312 : decode cL_law 312 = .ok (.iadd, 1) := dk_96 (dk_at dksL_law_12 12 rfl rfl)
theorem dL_law_313 : decode cL_law 313 = .ok (.iaload, 1) := dk_46 (dk_at dksL_law_12 13 rfl rfl)
theorem dL_law_314 : decode cL_law 314 = .ok (.aload_n 0, 1) := dk_42 (dk_at dksL_law_12 14 rfl rfl)
theorem dL_law_315 : decode cL_law 315 = .ok (.iload_n 3, 1) := dk_29 (dk_at dksL_law_12 15 rfl rfl)
theorem dL_law_316 : decode cL_law 316 = .ok (.iconst 3, 1) := dk_6 (dk_at dksL_law_12 16 rfl rfl)
theorem dL_law_317 : decode cL_law 317 = .ok (.iadd, 1) := dk_96 (dk_at dksL_law_12 17 rfl rfl)
theorem dL_law_318 : decode cL_law 318 = .ok (.iaload, 1) := dk_46 (dk_at dksL_law_12 18 rfl rfl)
theorem dL_law_319 : decode cL_law 319 = .ok (.aload_n 0, 1) := dk_42 (dk_at dksL_law_12 19 rfl rfl)
theorem dL_law_320 : decode cL_law 320 = .ok (.iload_n 3, 1) := dk_29 (dk_at dksL_law_12 20 rfl rfl)
theorem dL_law_321 : decode cL_law 321 = .ok (.iconst 4, 1) := dk_7 (dk_at dksL_law_12 21 rfl rfl)
theorem dL_law_322 : decode cL_law 322 = .ok (.iadd, 1) := dk_96 (dk_at dksL_law_12 22 rfl rfl)
theorem dL_law_323 : decode cL_law 323 = .ok (.iaload, 1) := dk_46 (dk_at dksL_law_12 23 rfl rfl)
theorem dL_law_324 : decode cL_law 324 = .ok (.invokevirtual 36, 3) := dk_182 0 36 (dk_at dksL_law_13 0 rfl rfl)
theorem dL_law_327 : decode cL_law 327 = .ok (.aload_n 2, 1) := dk_44 (dk_at dksL_law_13 3 rfl rfl)
theorem dL_law_328 : decode cL_law 328 = .ok (.aload_n 0, 1) := dk_42 (dk_at dksL_law_13 4 rfl rfl)
theorem dL_law_329 : decode cL_law 329 = .ok (.iload_n 3, 1) := dk_29 (dk_at dksL_law_13 5 rfl rfl)
theorem dL_law_330 : decode cL_law 330 = .ok (.iconst 1, 1) := dk_4 (dk_at dksL_law_13 6 rfl rfl)
theorem dL_law_331 : decode cL_law 331 = .ok (.iadd, 1) := dk_96 (dk_at dksL_law_13 7 rfl rfl)
theorem dL_law_332 : decode cL_law 332 = .ok (.iaload, 1) := dk_46 (dk_at dksL_law_13 8 rfl rfl)
theorem dL_law_333 : decode cL_law 333 = .ok (.aload_n 0, 1) := dk_42 (dk_at dksL_law_13 9 rfl rfl)
theorem dL_law_334 : decode cL_law 334 = .ok (.iload_n 3, 1) := dk_29 (dk_at dksL_law_13 10 rfl rfl)
theorem dL_law_335 : decode cL_law 335 = .ok (.iconst 2, 1) := dk_5 (dk_at dksL_law_13 11 rfl rfl)
theorem dL_law_336 : decode cL_law 336 = .ok (.iadd, 1) := dk_96 (dk_at dksL_law_13 12 rfl rfl)
theorem dL_law_337 : decode cL_law 337 = .ok (.iaload, 1) := dk_46 (dk_at dksL_law_13 13 rfl rfl)
theorem dL_law_338 : decode cL_law 338 = .ok (.aload_n 0, 1) := dk_42 (dk_at dksL_law_13 14 rfl rfl)
theorem dL_law_339 : decode cL_law 339 = .ok (.iload_n 3, 1) := dk_29 (dk_at dksL_law_13 15 rfl rfl)
theorem dL_law_340 : decode cL_law 340 = .ok (.iconst 3, 1) := dk_6 (dk_at dksL_law_13 16 rfl rfl)
theorem dL_law_341 : decode cL_law 341 = .ok (.iadd, 1) := dk_96 (dk_at dksL_law_13 17 rfl rfl)
theorem dL_law_342 : decode cL_law 342 = .ok (.iaload, 1) := dk_46 (dk_at dksL_law_13 18 rfl rfl)
theorem dL_law_343 : decode cL_law 343 = .ok (.aload_n 0, 1) := dk_42 (dk_at dksL_law_13 19 rfl rfl)
theorem dL_law_344 : decode cL_law 344 = .ok (.iload_n 3, 1) := dk_29 (dk_at dksL_law_13 20 rfl rfl)
theorem dL_law_345 : decode cL_law 345 = .ok (.iconst 4, 1) := dk_7 (dk_at dksL_law_13 21 rfl rfl)
theorem dL_law_346 : decode cL_law 346 = .ok (.iadd, 1) := dk_96 (dk_at dksL_law_13 22 rfl rfl)
theorem dL_law_347 : decode cL_law 347 = .ok (.iaload, 1) := dk_46 (dk_at dksL_law_13 23 rfl rfl)
theorem dL_law_348 : decode cL_law 348 = .ok (.invokevirtual 40, 3) := dk_182 0 40 (dk_at dksL_law_14 0 rfl rfl)
theorem dL_law_351 : decode cL_law 351 = .ok (.goto 161, 3) := dk_167 0 161 (dk_at dksL_law_14 3 rfl rfl)
theorem dL_law_354 : decode cL_law 354 = .ok (.aload_n 1, 1) := dk_43 (dk_at dksL_law_14 6 rfl rfl)
theorem dL_law_355 : decode cL_law 355 = .ok (.aload_n 0, 1) := dk_42 (dk_at dksL_law_14 7 rfl rfl)
theorem dL_law_356 : decode cL_law 356 = .ok (.iload_n 3, 1) := dk_29 (dk_at dksL_law_14 8 rfl rfl)
theorem dL_law_357 : decode cL_law 357 = .ok (.iconst 1, 1) := dk_4 (dk_at dksL_law_14 9 rfl rfl)
theorem dL_law_358 : decode cL_law 358 = .ok (.iadd, 1) := dk_96 (dk_at dksL_law_14 10 rfl rfl)
theorem dL_law_359 : decode cL_law 359 = .ok (.iaload, 1) := dk_46 (dk_at dksL_law_14 11 rfl rfl)
theorem dL_law_360 : decode cL_law 360 = .ok (.aload_n 0, 1) := dk_42 (dk_at dksL_law_14 12 rfl rfl)
theorem dL_law_361 : decode cL_law 361 = .ok (.iload_n 3, 1) := dk_29 (dk_at dksL_law_14 13 rfl rfl)
theorem dL_law_362 : decode cL_law 362 = .ok (.iconst 2, 1) := dk_5 (dk_at dksL_law_14 14 rfl rfl)
theorem dL_law_363 : decode cL_law 363 = .ok (.iadd, 1) := dk_96 (dk_at dksL_law_14 15 rfl rfl)
theorem dL_law_364 : decode cL_law 364 = .ok (.iaload, 1) := dk_46 (dk_at dksL_law_14 16 rfl rfl)
theorem dL_law_365 : decode cL_law 365 = .ok (.aload_n 0, 1) := dk_42 (dk_at dksL_law_14 17 rfl rfl)
theorem dL_law_366 : decode cL_law 366 = .ok (.iload_n 3, 1) := dk_29 (dk_at dksL_law_14 18 rfl rfl)
theorem dL_law_367 : decode cL_law 367 = .ok (.iconst 3, 1) := dk_6 (dk_at dksL_law_14 19 rfl rfl)
theorem dL_law_368 : decode cL_law 368 = .ok (.iadd, 1) := dk_96 (dk_at dksL_law_14 20 rfl rfl)
theorem dL_law_369 : decode cL_law 369 = .ok (.iaload, 1) := dk_46 (dk_at dksL_law_14 21 rfl rfl)
theorem dL_law_370 : decode cL_law 370 = .ok (.aload_n 0, 1) := dk_42 (dk_at dksL_law_14 22 rfl rfl)
theorem dL_law_371 : decode cL_law 371 = .ok (.iload_n 3, 1) := dk_29 (dk_at dksL_law_14 23 rfl rfl)
theorem dL_law_372 : decode cL_law 372 = .ok (.iconst 4, 1) := dk_7 (dk_at dksL_law_15 0 rfl rfl)
theorem dL_law_373 : decode cL_law 373 = .ok (.iadd, 1) := dk_96 (dk_at dksL_law_15 1 rfl rfl)
theorem dL_law_374 : decode cL_law 374 = .ok (.iaload, 1) := dk_46 (dk_at dksL_law_15 2 rfl rfl)
theorem dL_law_375 : decode cL_law 375 = .ok (.invokevirtual 41, 3) := dk_182 0 41 (dk_at dksL_law_15 3 rfl rfl)
theorem dL_law_378 : decode cL_law 378 = .ok (.aload_n 2, 1) := dk_44 (dk_at dksL_law_15 6 rfl rfl)
theorem dL_law_379 : decode cL_law 379 = .ok (.aload_n 0, 1) := dk_42 (dk_at dksL_law_15 7 rfl rfl)
theorem dL_law_380 : decode cL_law 380 = .ok (.iload_n 3, 1) := dk_29 (dk_at dksL_law_15 8 rfl rfl)
theorem dL_law_381 : decode cL_law 381 = .ok (.iconst 1, 1) := dk_4 (dk_at dksL_law_15 9 rfl rfl)
theorem dL_law_382 : decode cL_law 382 = .ok (.iadd, 1) := dk_96 (dk_at dksL_law_15 10 rfl rfl)
theorem dL_law_383 : decode cL_law 383 = .ok (.iaload, 1) := dk_46 (dk_at dksL_law_15 11 rfl rfl)
theorem dL_law_384 : decode cL_law 384 = .ok (.aload_n 0, 1) := dk_42 (dk_at dksL_law_15 12 rfl rfl)
theorem dL_law_385 : decode cL_law 385 = .ok (.iload_n 3, 1) := dk_29 (dk_at dksL_law_15 13 rfl rfl)
theorem dL_law_386 : decode cL_law 386 = .ok (.iconst 2, 1) := dk_5 (dk_at dksL_law_15 14 rfl rfl)
theorem dL_law_387 : decode cL_law 387 = .ok (.iadd, 1) := dk_96 (dk_at dksL_law_15 15 rfl rfl)
theorem dL_law_388 : decode cL_law 388 = .ok (.iaload, 1) := dk_46 (dk_at dksL_law_15 16 rfl rfl)
theorem dL_law_389 : decode cL_law 389 = .ok (.aload_n 0, 1) := dk_42 (dk_at dksL_law_15 17 rfl rfl)
theorem dL_law_390 : decode cL_law 390 = .ok (.iload_n 3, 1) := dk_29 (dk_at dksL_law_15 18 rfl rfl)
theorem dL_law_391 : decode cL_law 391 = .ok (.iconst 3, 1) := dk_6 (dk_at dksL_law_15 19 rfl rfl)
theorem dL_law_392 : decode cL_law 392 = .ok (.iadd, 1) := dk_96 (dk_at dksL_law_15 20 rfl rfl)
theorem dL_law_393 : decode cL_law 393 = .ok (.iaload, 1) := dk_46 (dk_at dksL_law_15 21 rfl rfl)
theorem dL_law_394 : decode cL_law 394 = .ok (.aload_n 0, 1) := dk_42 (dk_at dksL_law_15 22 rfl rfl)
theorem dL_law_395 : decode cL_law 395 = .ok (.iload_n 3, 1) := dk_29 (dk_at dksL_law_15 23 rfl rfl)
theorem dL_law_396 : decode cL_law 396 = .ok (.iconst 4, 1) := dk_7 (dk_at dksL_law_16 0 rfl rfl)
theorem dL_law_397 : decode cL_law 397 = .ok (.iadd, 1) := dk_96 (dk_at dksL_law_16 1 rfl rfl)
theorem dL_law_398 : decode cL_law 398 = .ok (.iaload, 1) := dk_46 (dk_at dksL_law_16 2 rfl rfl)
theorem dL_law_399 : decode cL_law 399 = .ok (.invokevirtual 44, 3) := dk_182 0 44 (dk_at dksL_law_16 3 rfl rfl)
theorem dL_law_402 : decode cL_law 402 = .ok (.goto 110, 3) := dk_167 0 110 (dk_at dksL_law_16 6 rfl rfl)
theorem dL_law_405 : decode cL_law 405 = .ok (.aload_n 1, 1) := dk_43 (dk_at dksL_law_16 9 rfl rfl)
theorem dL_law_406 : decode cL_law 406 = .ok (.aload_n 0, 1) := dk_42 (dk_at dksL_law_16 10 rfl rfl)
theorem dL_law_407 : decode cL_law 407 = .ok (.iload_n 3, 1) := dk_29 (dk_at dksL_law_16 11 rfl rfl)
theorem dL_law_408 : decode cL_law 408 = .ok (.iconst 1, 1) := dk_4 (dk_at dksL_law_16 12 rfl rfl)
theorem dL_law_409 : decode cL_law 409 = .ok (.iadd, 1) := dk_96 (dk_at dksL_law_16 13 rfl rfl)
theorem dL_law_410 : decode cL_law 410 = .ok (.iaload, 1) := dk_46 (dk_at dksL_law_16 14 rfl rfl)
theorem dL_law_411 : decode cL_law 411 = .ok (.aload_n 0, 1) := dk_42 (dk_at dksL_law_16 15 rfl rfl)
theorem dL_law_412 : decode cL_law 412 = .ok (.iload_n 3, 1) := dk_29 (dk_at dksL_law_16 16 rfl rfl)
theorem dL_law_413 : decode cL_law 413 = .ok (.iconst 2, 1) := dk_5 (dk_at dksL_law_16 17 rfl rfl)
theorem dL_law_414 : decode cL_law 414 = .ok (.iadd, 1) := dk_96 (dk_at dksL_law_16 18 rfl rfl)
theorem dL_law_415 : decode cL_law 415 = .ok (.iaload, 1) := dk_46 (dk_at dksL_law_16 19 rfl rfl)
theorem dL_law_416 : decode cL_law 416 = .ok (.invokevirtual 45, 3) := dk_182 0 45 (dk_at dksL_law_16 20 rfl rfl)
theorem dL_law_419 : decode cL_law 419 = .ok (.aload_n 2, 1) := dk_44 (dk_at dksL_law_16 23 rfl rfl)
theorem dL_law_420 : decode cL_law 420 = .ok (.aload_n 0, 1) := dk_42 (dk_at dksL_law_17 0 rfl rfl)
theorem dL_law_421 : decode cL_law 421 = .ok (.iload_n 3, 1) := dk_29 (dk_at dksL_law_17 1 rfl rfl)
theorem dL_law_422 : decode cL_law 422 = .ok (.iconst 1, 1) := dk_4 (dk_at dksL_law_17 2 rfl rfl)
theorem dL_law_423 : decode cL_law 423 = .ok (.iadd, 1) := dk_96 (dk_at dksL_law_17 3 rfl rfl)
theorem dL_law_424 : decode cL_law 424 = .ok (.iaload, 1) := dk_46 (dk_at dksL_law_17 4 rfl rfl)
theorem dL_law_425 : decode cL_law 425 = .ok (.aload_n 0, 1) := dk_42 (dk_at dksL_law_17 5 rfl rfl)
theorem dL_law_426 : decode cL_law 426 = .ok (.iload_n 3, 1) := dk_29 (dk_at dksL_law_17 6 rfl rfl)
theorem dL_law_427 : decode cL_law 427 = .ok (.iconst 2, 1) := dk_5 (dk_at dksL_law_17 7 rfl rfl)
theorem dL_law_428 : decode cL_law 428 = .ok (.iadd, 1) := dk_96 (dk_at dksL_law_17 8 rfl rfl)
theorem dL_law_429 : decode cL_law 429 = .ok (.iaload, 1) := dk_46 (dk_at dksL_law_17 9 rfl rfl)
theorem dL_law_430 : decode cL_law 430 = .ok (.invokevirtual 49, 3) := dk_182 0 49 (dk_at dksL_law_17 10 rfl rfl)
theorem dL_law_433 : decode cL_law 433 = .ok (.if_icmp .eq 79, 3) := dk_159 0 79 (dk_at dksL_law_17 13 rfl rfl)
theorem dL_law_436 : decode cL_law 436 = .ok (.iconst 0, 1) := dk_3 (dk_at dksL_law_17 16 rfl rfl)
theorem dL_law_437 : decode cL_law 437 = .ok (.ireturn, 1) := dk_172 (dk_at dksL_law_17 17 rfl rfl)
theorem dL_law_438 : decode cL_law 438 = .ok (.aload_n 1, 1) := dk_43 (dk_at dksL_law_17 18 rfl rfl)
theorem dL_law_439 : decode cL_law 439 = .ok (.aload_n 0, 1) := dk_42 (dk_at dksL_law_17 19 rfl rfl)
theorem dL_law_440 : decode cL_law 440 = .ok (.iload_n 3, 1) := dk_29 (dk_at dksL_law_17 20 rfl rfl)
theorem dL_law_441 : decode cL_law 441 = .ok (.iconst 1, 1) := dk_4 (dk_at dksL_law_17 21 rfl rfl)
theorem dL_law_442 : decode cL_law 442 = .ok (.iadd, 1) := dk_96 (dk_at dksL_law_17 22 rfl rfl)
theorem dL_law_443 : decode cL_law 443 = .ok (.iaload, 1) := dk_46 (dk_at dksL_law_17 23 rfl rfl)
theorem dL_law_444 : decode cL_law 444 = .ok (.aload_n 0, 1) := dk_42 (dk_at dksL_law_18 0 rfl rfl)
theorem dL_law_445 : decode cL_law 445 = .ok (.iload_n 3, 1) := dk_29 (dk_at dksL_law_18 1 rfl rfl)
theorem dL_law_446 : decode cL_law 446 = .ok (.iconst 2, 1) := dk_5 (dk_at dksL_law_18 2 rfl rfl)
theorem dL_law_447 : decode cL_law 447 = .ok (.iadd, 1) := dk_96 (dk_at dksL_law_18 3 rfl rfl)
theorem dL_law_448 : decode cL_law 448 = .ok (.iaload, 1) := dk_46 (dk_at dksL_law_18 4 rfl rfl)
theorem dL_law_449 : decode cL_law 449 = .ok (.aload_n 0, 1) := dk_42 (dk_at dksL_law_18 5 rfl rfl)
theorem dL_law_450 : decode cL_law 450 = .ok (.iload_n 3, 1) := dk_29 (dk_at dksL_law_18 6 rfl rfl)
theorem dL_law_451 : decode cL_law 451 = .ok (.iconst 3, 1) := dk_6 (dk_at dksL_law_18 7 rfl rfl)
theorem dL_law_452 : decode cL_law 452 = .ok (.iadd, 1) := dk_96 (dk_at dksL_law_18 8 rfl rfl)
theorem dL_law_453 : decode cL_law 453 = .ok (.iaload, 1) := dk_46 (dk_at dksL_law_18 9 rfl rfl)
theorem dL_law_454 : decode cL_law 454 = .ok (.invokevirtual 50, 3) := dk_182 0 50 (dk_at dksL_law_18 10 rfl rfl)
theorem dL_law_457 : decode cL_law 457 = .ok (.aload_n 2, 1) := dk_44 (dk_at dksL_law_18 13 rfl rfl)
theorem dL_law_458 : decode cL_law 458 = .ok (.aload_n 0, 1) := dk_42 (dk_at dksL_law_18 14 rfl rfl)
theorem dL_law_459 : decode cL_law 459 = .ok (.iload_n 3, 1) := dk_29 (dk_at dksL_law_18 15 rfl rfl)
theorem dL_law_460 : decode cL_law 460 = .ok (.iconst 1, 1) := dk_4 (dk_at dksL_law_18 16 rfl rfl)
theorem dL_law_461 : decode cL_law 461 = .ok (.iadd, 1) := dk_96 (dk_at dksL_law_18 17 rfl rfl)
theorem dL_law_462 : decode cL_law 462 = .ok (.iaload, 1) := dk_46 (dk_at dksL_law_18 18 rfl rfl)
theorem dL_law_463 : decode cL_law 463 = .ok (.aload_n 0, 1) := dk_42 (dk_at dksL_law_18 19 rfl rfl)
theorem dL_law_464 : decode cL_law 464 = .ok (.iload_n 3, 1) := dk_29 (dk_at dksL_law_18 20 rfl rfl)
theorem dL_law_465 : decode cL_law 465 = .ok (.iconst 2, 1) := dk_5 (dk_at dksL_law_18 21 rfl rfl)
theorem dL_law_466 : decode cL_law 466 = .ok (.iadd, 1) := dk_96 (dk_at dksL_law_18 22 rfl rfl)
theorem dL_law_467 : decode cL_law 467 = .ok (.iaload, 1) := dk_46 (dk_at dksL_law_18 23 rfl rfl)
theorem dL_law_468 : decode cL_law 468 = .ok (.aload_n 0, 1) := dk_42 (dk_at dksL_law_19 0 rfl rfl)
theorem dL_law_469 : decode cL_law 469 = .ok (.iload_n 3, 1) := dk_29 (dk_at dksL_law_19 1 rfl rfl)
theorem dL_law_470 : decode cL_law 470 = .ok (.iconst 3, 1) := dk_6 (dk_at dksL_law_19 2 rfl rfl)
theorem dL_law_471 : decode cL_law 471 = .ok (.iadd, 1) := dk_96 (dk_at dksL_law_19 3 rfl rfl)
theorem dL_law_472 : decode cL_law 472 = .ok (.iaload, 1) := dk_46 (dk_at dksL_law_19 4 rfl rfl)
theorem dL_law_473 : decode cL_law 473 = .ok (.invokevirtual 53, 3) := dk_182 0 53 (dk_at dksL_law_19 5 rfl rfl)
theorem dL_law_476 : decode cL_law 476 = .ok (.goto 36, 3) := dk_167 0 36 (dk_at dksL_law_19 8 rfl rfl)
theorem dL_law_479 : decode cL_law 479 = .ok (.aload_n 1, 1) := dk_43 (dk_at dksL_law_19 11 rfl rfl)
theorem dL_law_480 : decode cL_law 480 = .ok (.aload_n 0, 1) := dk_42 (dk_at dksL_law_19 12 rfl rfl)
theorem dL_law_481 : decode cL_law 481 = .ok (.iload_n 3, 1) := dk_29 (dk_at dksL_law_19 13 rfl rfl)
theorem dL_law_482 : decode cL_law 482 = .ok (.iconst 1, 1) := dk_4 (dk_at dksL_law_19 14 rfl rfl)
theorem dL_law_483 : decode cL_law 483 = .ok (.iadd, 1) := dk_96 (dk_at dksL_law_19 15 rfl rfl)
theorem dL_law_484 : decode cL_law 484 = .ok (.iaload, 1) := dk_46 (dk_at dksL_law_19 16 rfl rfl)
theorem dL_law_485 : decode cL_law 485 = .ok (.aload_n 0, 1) := dk_42 (dk_at dksL_law_19 17 rfl rfl)
theorem dL_law_486 : decode cL_law 486 = .ok (.iload_n 3, 1) := dk_29 (dk_at dksL_law_19 18 rfl rfl)
theorem dL_law_487 : decode cL_law 487 = .ok (.iconst 2, 1) := dk_5 (dk_at dksL_law_19 19 rfl rfl)
theorem dL_law_488 : decode cL_law 488 = .ok (.iadd, 1) := dk_96 (dk_at dksL_law_19 20 rfl rfl)
theorem dL_law_489 : decode cL_law 489 = .ok (.iaload, 1) := dk_46 (dk_at dksL_law_19 21 rfl rfl)
theorem dL_law_490 : decode cL_law 490 = .ok (.invokevirtual 54, 3) := dk_182 0 54 (dk_at dksL_law_20 0 rfl rfl)
theorem dL_law_493 : decode cL_law 493 = .ok (.aload_n 2, 1) := dk_44 (dk_at dksL_law_20 3 rfl rfl)
theorem dL_law_494 : decode cL_law 494 = .ok (.aload_n 0, 1) := dk_42 (dk_at dksL_law_20 4 rfl rfl)
theorem dL_law_495 : decode cL_law 495 = .ok (.iload_n 3, 1) := dk_29 (dk_at dksL_law_20 5 rfl rfl)
theorem dL_law_496 : decode cL_law 496 = .ok (.iconst 1, 1) := dk_4 (dk_at dksL_law_20 6 rfl rfl)
theorem dL_law_497 : decode cL_law 497 = .ok (.iadd, 1) := dk_96 (dk_at dksL_law_20 7 rfl rfl)
theorem dL_law_498 : decode cL_law 498 = .ok (.iaload, 1) := dk_46 (dk_at dksL_law_20 8 rfl rfl)
theorem dL_law_499 : decode cL_law 499 = .ok (.aload_n 0, 1) := dk_42 (dk_at dksL_law_20 9 rfl rfl)
theorem dL_law_500 : decode cL_law 500 = .ok (.iload_n 3, 1) := dk_29 (dk_at dksL_law_20 10 rfl rfl)
theorem dL_law_501 : decode cL_law 501 = .ok (.iconst 2, 1) := dk_5 (dk_at dksL_law_20 11 rfl rfl)
theorem dL_law_502 : decode cL_law 502 = .ok (.iadd, 1) := dk_96 (dk_at dksL_law_20 12 rfl rfl)
theorem dL_law_503 : decode cL_law 503 = .ok (.iaload, 1) := dk_46 (dk_at dksL_law_20 13 rfl rfl)
theorem dL_law_504 : decode cL_law 504 = .ok (.invokevirtual 57, 3) := dk_182 0 57 (dk_at dksL_law_20 14 rfl rfl)
theorem dL_law_507 : decode cL_law 507 = .ok (.if_icmp .eq 5, 3) := dk_159 0 5 (dk_at dksL_law_20 17 rfl rfl)
theorem dL_law_510 : decode cL_law 510 = .ok (.iconst 0, 1) := dk_3 (dk_at dksL_law_20 20 rfl rfl)
theorem dL_law_511 : decode cL_law 511 = .ok (.ireturn, 1) := dk_172 (dk_at dksL_law_20 21 rfl rfl)
theorem dL_law_512 : decode cL_law 512 = .ok (.iinc 3 6, 3) := dk_132 3 6 (dk_at dksL_law_21 0 rfl rfl)
theorem dL_law_515 : decode cL_law 515 = .ok (.goto (-497), 3) := dk_167 254 15 (dk_at dksL_law_21 3 rfl rfl)
theorem dL_law_518 : decode cL_law 518 = .ok (.iconst 1, 1) := dk_4 (dk_at dksL_law_21 6 rfl rfl)
theorem dL_law_519 : decode cL_law 519 = .ok (.ireturn, 1) := dk_172 (dk_at dksL_law_21 7 rfl rfl)
theorem q19 : (Jvm.Cond.arrayOver (Jvm.ClassFile.FieldType.array Jvm.ClassFile.FieldType.byte)) ∈ lw_tbl := lw_at lw_m0 16 rfl
set_option maxRecDepth 100000
theorem q24 : (Jvm.Cond.arrayClass Jvm.ClassFile.FieldType.byte) ∈ lw_all := lw_g (lw_at lw_m0 21 rfl) rfl
theorem q133 : (Jvm.Cond.arrayClass Jvm.ClassFile.FieldType.boolean) ∈ lw_all := lw_g (lw_at lw_m0 130 rfl) rfl
theorem q3 : (Jvm.Cond.initialized "OilVectorDeskLaw") ∈ lw_all := lw_g (lw_at lw_m0 0 rfl) rfl
set_option maxRecDepth 100000
theorem q10 : (Jvm.Cond.classLink "OilVectorDeskLaw" (7 : Nat) "OilVectorDesk") ∈ lw_all := lw_g (lw_at lw_m0 7 rfl) rfl
theorem q12 : (Jvm.Cond.methodLink "OilVectorDeskLaw" (9 : Nat) ({ cls := "OilVectorDesk", name := "<init>", desc := "()V" } : Jvm.MethodName)) ∈ lw_all := lw_g (lw_at lw_m0 9 rfl) rfl
theorem q25 : (Jvm.Cond.methodLink "OilVectorDeskLaw" (13 : Nat) ({ cls := "OilVectorDesk", name := "lay", desc := "(IIIII)V" } : Jvm.MethodName)) ∈ lw_all := lw_g (lw_at lw_m0 22 rfl) rfl
theorem q33 : (Jvm.Cond.methodLink "OilVectorDeskLaw" (18 : Nat) ({ cls := "OilVectorDesk", name := "add", desc := "(II)V" } : Jvm.MethodName)) ∈ lw_all := lw_g (lw_at lw_m0 30 rfl) rfl
theorem q40 : (Jvm.Cond.methodLink "OilVectorDeskLaw" (23 : Nat) ({ cls := "OilVectorDesk", name := "addIf", desc := "(III)V" } : Jvm.MethodName)) ∈ lw_all := lw_g (lw_at lw_m0 37 rfl) rfl
theorem q47 : (Jvm.Cond.methodLink "OilVectorDeskLaw" (28 : Nat) ({ cls := "OilVectorDesk", name := "times", desc := "(III)V" } : Jvm.MethodName)) ∈ lw_all := lw_g (lw_at lw_m0 44 rfl) rfl
theorem q76 : (Jvm.Cond.methodLink "OilVectorDeskLaw" (32 : Nat) ({ cls := "OilVectorDesk", name := "timesNibble", desc := "(III)V" } : Jvm.MethodName)) ∈ lw_all := lw_g (lw_at lw_m0 73 rfl) rfl
theorem q86 : (Jvm.Cond.methodLink "OilVectorDeskLaw" (36 : Nat) ({ cls := "OilVectorDesk", name := "more", desc := "(IIII)V" } : Jvm.MethodName)) ∈ lw_all := lw_g (lw_at lw_m0 83 rfl) rfl
theorem q93 : (Jvm.Cond.methodLink "OilVectorDeskLaw" (41 : Nat) ({ cls := "OilVectorDesk", name := "moreNibble", desc := "(IIII)V" } : Jvm.MethodName)) ∈ lw_all := lw_g (lw_at lw_m0 90 rfl) rfl
theorem q105 : (Jvm.Cond.methodLink "OilVectorDeskLaw" (45 : Nat) ({ cls := "OilVectorDesk", name := "nibble", desc := "(II)I" } : Jvm.MethodName)) ∈ lw_all := lw_g (lw_at lw_m0 102 rfl) rfl
theorem q112 : (Jvm.Cond.methodLink "OilVectorDeskLaw" (50 : Nat) ({ cls := "OilVectorDesk", name := "layNibble", desc := "(III)V" } : Jvm.MethodName)) ∈ lw_all := lw_g (lw_at lw_m0 109 rfl) rfl
theorem q119 : (Jvm.Cond.methodLink "OilVectorDeskLaw" (54 : Nat) ({ cls := "OilVectorDesk", name := "get", desc := "(II)I" } : Jvm.MethodName)) ∈ lw_all := lw_g (lw_at lw_m0 116 rfl) rfl
theorem q123 : (Jvm.Cond.classLink "OilVectorDeskLaw" (10 : Nat) "OilVectorDeskModel") ∈ lw_all := lw_g (lw_at lw_m0 120 rfl) rfl
theorem q125 : (Jvm.Cond.methodLink "OilVectorDeskLaw" (12 : Nat) ({ cls := "OilVectorDeskModel", name := "<init>", desc := "()V" } : Jvm.MethodName)) ∈ lw_all := lw_g (lw_at lw_m0 122 rfl) rfl
theorem q134 : (Jvm.Cond.methodLink "OilVectorDeskLaw" (17 : Nat) ({ cls := "OilVectorDeskModel", name := "lay", desc := "(IIIII)V" } : Jvm.MethodName)) ∈ lw_all := lw_g (lw_at lw_m0 131 rfl) rfl
theorem q143 : (Jvm.Cond.methodLink "OilVectorDeskLaw" (22 : Nat) ({ cls := "OilVectorDeskModel", name := "add", desc := "(II)V" } : Jvm.MethodName)) ∈ lw_all := lw_g (lw_at lw_m0 140 rfl) rfl
theorem q165 : (Jvm.Cond.methodLink "OilVectorDeskLaw" (27 : Nat) ({ cls := "OilVectorDeskModel", name := "addIf", desc := "(III)V" } : Jvm.MethodName)) ∈ lw_all := lw_g (lw_at lw_m0 162 rfl) rfl
theorem q166 : (Jvm.Cond.methodLink "OilVectorDeskLaw" (31 : Nat) ({ cls := "OilVectorDeskModel", name := "times", desc := "(III)V" } : Jvm.MethodName)) ∈ lw_all := lw_g (lw_at lw_m0 163 rfl) rfl
theorem q170 : (Jvm.Cond.methodLink "OilVectorDeskLaw" (35 : Nat) ({ cls := "OilVectorDeskModel", name := "timesNibble", desc := "(III)V" } : Jvm.MethodName)) ∈ lw_all := lw_g (lw_at lw_m0 167 rfl) rfl
theorem q174 : (Jvm.Cond.methodLink "OilVectorDeskLaw" (40 : Nat) ({ cls := "OilVectorDeskModel", name := "more", desc := "(IIII)V" } : Jvm.MethodName)) ∈ lw_all := lw_g (lw_at lw_m0 171 rfl) rfl
theorem q178 : (Jvm.Cond.methodLink "OilVectorDeskLaw" (44 : Nat) ({ cls := "OilVectorDeskModel", name := "moreNibble", desc := "(IIII)V" } : Jvm.MethodName)) ∈ lw_all := lw_g (lw_at lw_m0 175 rfl) rfl
theorem q182 : (Jvm.Cond.methodLink "OilVectorDeskLaw" (49 : Nat) ({ cls := "OilVectorDeskModel", name := "nibble", desc := "(II)I" } : Jvm.MethodName)) ∈ lw_all := lw_g (lw_at lw_m0 179 rfl) rfl
theorem q186 : (Jvm.Cond.methodLink "OilVectorDeskLaw" (53 : Nat) ({ cls := "OilVectorDeskModel", name := "layNibble", desc := "(III)V" } : Jvm.MethodName)) ∈ lw_all := lw_g (lw_at lw_m0 183 rfl) rfl
theorem q190 : (Jvm.Cond.methodLink "OilVectorDeskLaw" (57 : Nat) ({ cls := "OilVectorDeskModel", name := "get", desc := "(II)I" } : Jvm.MethodName)) ∈ lw_all := lw_g (lw_at lw_m0 187 rfl) rfl
end
section
/-! ===== Int32 by its bits: bt x i ===== -/
def bt (x : Int32) (i : Nat) : Bool := x.toBitVec.getLsbD i
theorem b_ext {x y : Int32} (h : ∀ i, i < 32 → bt x i = bt y i) : x = y := Int32.toBitVec_inj.mp (BitVec.eq_of_getLsbD_eq (fun i hi => h i hi))
theorem b_or (x y : Int32) (i : Nat) : bt (x ||| y) i = (bt x i || bt y i) := by unfold bt; rw [Int32.toBitVec_or, BitVec.getLsbD_or]
theorem b_and (x y : Int32) (i : Nat) : bt (x &&& y) i = (bt x i && bt y i) := by unfold bt; rw [Int32.toBitVec_and, BitVec.getLsbD_and]
theorem b_xor (x y : Int32) (i : Nat) : bt (x ^^^ y) i = (bt x i ^^ bt y i) := by unfold bt; rw [Int32.toBitVec_xor, BitVec.getLsbD_xor]
theorem b_big {x : Int32} {i : Nat} (h : 32 ≤ i) : bt x i = false := BitVec.getLsbD_of_ge _ _ h
theorem b_255 (i : Nat) : bt 255 i = decide (i < 8) := by
  rcases Nat.lt_or_ge i 32 with h | h
  · exact (by decide +kernel : ∀ i, i < 32 → bt 255 i = decide (i < 8)) i h
  · rw [b_big h, decide_eq_false (by omega)]
theorem b_65535 (i : Nat) : bt 65535 i = decide (i < 16) := by
  rcases Nat.lt_or_ge i 32 with h | h
  · exact (by decide +kernel : ∀ i, i < 32 → bt 65535 i = decide (i < 16)) i h
  · rw [b_big h, decide_eq_false (by omega)]
theorem b_m1 : ∀ i, i < 32 → bt (-1) i = true := by decide +kernel
theorem b_0 (i : Nat) : bt 0 i = false := BitVec.getLsbD_zero
theorem s_l : ∀ n, n < 32 → ((nI n &&& 31).toBitVec.smod 32).toNat = n := by decide +kernel
theorem s_u : ∀ n, n < 32 → (((nI n).toUInt32 &&& Int32.toUInt32 31).toBitVec % 32).toNat = n := by decide +kernel
theorem b_shl (n : Nat) (hn : n < 32) (x : Int32) {i : Nat} (hi : i < 32) : bt (x <<< (nI n &&& 31)) i = (decide (n ≤ i) && bt x (i - n)) := by
  unfold bt
  rw [Int32.toBitVec_shiftLeft]
  show (x.toBitVec <<< ((nI n &&& 31).toBitVec.smod 32).toNat).getLsbD i = _
  rw [s_l n hn, BitVec.getLsbD_shiftLeft]
  rcases Nat.lt_or_ge i n with h | h
  · simp [h, Nat.not_le.mpr h]
  · simp [hi, h, Nat.not_lt.mpr h]
theorem b_ushr (n : Nat) (hn : n < 32) (x : Int32) (i : Nat) : bt ((x.toUInt32 >>> ((nI n).toUInt32 &&& Int32.toUInt32 31)).toInt32) i = bt x (n + i) := by
  show (x.toUInt32 >>> ((nI n).toUInt32 &&& Int32.toUInt32 31)).toBitVec.getLsbD i = x.toUInt32.toBitVec.getLsbD (n + i)
  rw [UInt32.toBitVec_shiftRight]
  show (x.toUInt32.toBitVec >>> (((nI n).toUInt32 &&& Int32.toUInt32 31).toBitVec % 32).toNat).getLsbD i = _
  rw [s_u n hn, BitVec.getLsbD_ushiftRight]
theorem b_sshr (n : Nat) (hn : n < 32) (x : Int32) {i : Nat} (hi : i < 32) : bt (x >>> (nI n &&& 31)) i = if n + i < 32 then bt x (n + i) else bt x 31 := by
  unfold bt
  rw [Int32.toBitVec_shiftRight]
  show (x.toBitVec.sshiftRight ((nI n &&& 31).toBitVec.smod 32).toNat).getLsbD i = _
  rw [s_l n hn, BitVec.getLsbD_sshiftRight, BitVec.msb_eq_getLsbD_last]
  simp [hi]
theorem b_shl8 (x : Int32) {i : Nat} (hi : i < 32) : bt (x <<< ((8 : Int32) &&& 31)) i = (decide (8 ≤ i) && bt x (i - 8)) := b_shl 8 (by omega) x hi
theorem b_shl16 (x : Int32) {i : Nat} (hi : i < 32) : bt (x <<< ((16 : Int32) &&& 31)) i = (decide (16 ≤ i) && bt x (i - 16)) := b_shl 16 (by omega) x hi
theorem b_shl24 (x : Int32) {i : Nat} (hi : i < 32) : bt (x <<< ((24 : Int32) &&& 31)) i = (decide (24 ≤ i) && bt x (i - 24)) := b_shl 24 (by omega) x hi
theorem b_sshr8 (x : Int32) {i : Nat} (hi : i < 32) : bt (x >>> ((8 : Int32) &&& 31)) i = if 8 + i < 32 then bt x (8 + i) else bt x 31 := b_sshr 8 (by omega) x hi
/-! ===== nI under and, xor, >>>, one bit, 65535 ===== -/
theorem nx_and (a b : Nat) : nI a &&& nI b = nI (a &&& b) := by
  apply Int32.toBitVec_inj.1
  show BitVec.ofNat 32 a &&& BitVec.ofNat 32 b = BitVec.ofNat 32 (a &&& b)
  apply BitVec.eq_of_getLsbD_eq
  intro i hi
  simp [hi]
theorem nx_xor (a b : Nat) : nI a ^^^ nI b = nI (a ^^^ b) := by
  apply Int32.toBitVec_inj.1
  show BitVec.ofNat 32 a ^^^ BitVec.ofNat 32 b = BitVec.ofNat 32 (a ^^^ b)
  apply BitVec.eq_of_getLsbD_eq
  intro i hi
  simp [hi]
theorem nx_cnt : ∀ j : Fin 32, (UInt32.ofNat j.val &&& Int32.toUInt32 31).toNat % 32 = j.val := by decide +kernel
theorem nx_ush {k j : Nat} (hk : k < 65536) (hj : j < 32) : ((nI k).toUInt32 >>> ((nI j).toUInt32 &&& Int32.toUInt32 31)).toInt32 = nI (k >>> j) := by
  have hs : k >>> j ≤ k := by
    rw [Nat.shiftRight_eq_div_pow]
    exact Nat.div_le_self _ _
  have e2 : UInt32.ofNat k >>> (UInt32.ofNat j &&& Int32.toUInt32 31) = UInt32.ofNat (k >>> j) := by
    apply UInt32.toNat_inj.1
    have h1 : (UInt32.ofNat k).toNat = k := Nat.mod_eq_of_lt (by omega)
    have h2 : (UInt32.ofNat (k >>> j)).toNat = k >>> j := Nat.mod_eq_of_lt (by omega)
    rw [UInt32.toNat_shiftRight, nx_cnt ⟨j, hj⟩, h1, h2]
  show (UInt32.ofNat k >>> (UInt32.ofNat j &&& Int32.toUInt32 31)).toInt32 = _
  rw [e2]
  rfl
theorem nx_bit {k j : Nat} (hk : k < 65536) (hj : j < 16) : (((nI k).toUInt32 >>> ((nI j).toUInt32 &&& Int32.toUInt32 31)).toInt32 &&& 1) = 0 ↔ k.testBit j = false := by
  rw [nx_ush hk (by omega)]
  show nI (k >>> j) &&& nI 1 = 0 ↔ _
  rw [nx_and, Nat.and_one_is_mod, ← nI_0, nI_eq (by omega) (by omega), Nat.testBit_eq_decide_div_mod_eq, Nat.shiftRight_eq_div_pow, decide_eq_false_iff_not]
  generalize k / 2 ^ j = z
  omega
theorem nx_mod (k : Nat) : nI k &&& 65535 = nI (k % 65536) := by
  show nI k &&& nI 65535 = _
  rw [nx_and, show (65535 : Nat) = 2 ^ 16 - 1 from rfl, Nat.and_two_pow_sub_one_eq_mod]
theorem nx_m16 {k : Nat} (h : k < 65536) : nI k &&& 65535 = nI k := by rw [nx_mod, Nat.mod_eq_of_lt h]
theorem nx_mask (x : Int32) : ∃ k, k < 65536 ∧ x &&& 65535 = nI k := by
  have e : x = nI x.toBitVec.toNat := by
    apply Int32.toBitVec_inj.1
    show x.toBitVec = BitVec.ofNat 32 x.toBitVec.toNat
    simp
  refine ⟨x.toBitVec.toNat % 65536, Nat.mod_lt _ (by omega), ?_⟩
  rw [← nx_mod, ← e]
/-! ===== lN n to 2^64: shifts, and, or, masks, one bit ===== -/
theorem wb_tb (n : Nat) : (lN n).toBitVec = BitVec.ofNat 64 n := rfl
theorem wb_inj {a b : Int64} (h : a.toBitVec = b.toBitVec) : a = b := Int64.toBitVec_inj.mp h
theorem wb_tn {n : Nat} (h : n < 2 ^ 64) : (lN n).toBitVec.toNat = n := by rw [wb_tb, BitVec.toNat_ofNat, Nat.mod_eq_of_lt h]
theorem wb_of (x : Int64) : ∃ n, n < 2 ^ 64 ∧ x = lN n := ⟨x.toBitVec.toNat, x.toBitVec.isLt, wb_inj (by rw [wb_tb]; simp)⟩
theorem wb_of32 (x : Int32) : ∃ n, n < 2 ^ 32 ∧ x = nI n := ⟨x.toBitVec.toNat, x.toBitVec.isLt, Int32.toBitVec_inj.mp (by show _ = BitVec.ofNat 32 _; simp)⟩
theorem wb_c : ∀ k, k < 64 → ((nI k).toInt64 &&& 63) = lN k := by decide +kernel
theorem wb_cu : ∀ k, k < 64 → ((nI k).toInt64.toUInt64 &&& Int64.toUInt64 63) = UInt64.ofNat k := by decide +kernel
theorem wb_sm : ∀ k, k < 64 → (BitVec.ofNat 64 k).smod 64 = BitVec.ofNat 64 k := by decide +kernel
theorem wb_pw {a b : Nat} (h : a ≤ b) : 2 ^ b = 2 ^ a * 2 ^ (b - a) := by rw [← Nat.pow_add]; congr 1; omega
theorem wb_lt2 {a b : Nat} (h : a < b) : 2 ^ a < 2 ^ b := Nat.pow_lt_pow_right (by decide) h
theorem wb_mod (n : Nat) : lN n = lN (n % 2 ^ 64) := wb_inj (by rw [wb_tb, wb_tb]; apply BitVec.eq_of_toNat_eq; rw [BitVec.toNat_ofNat, BitVec.toNat_ofNat, Nat.mod_mod])
theorem wb_shr {n k : Nat} (hn : n < 2 ^ 64) (hk : k < 64) : ((lN n).toUInt64 >>> ((nI k).toInt64.toUInt64 &&& Int64.toUInt64 63)).toInt64 = lN (n / 2 ^ k) := by
  rw [wb_cu k hk]
  apply wb_inj
  apply BitVec.eq_of_toNat_eq
  show ((lN n).toUInt64 >>> UInt64.ofNat k).toNat = (BitVec.ofNat 64 _).toNat
  have h1 : (UInt64.ofNat k).toNat = k := by
    show (BitVec.ofNat 64 k).toNat = k
    rw [BitVec.toNat_ofNat, Nat.mod_eq_of_lt (by omega)]
  have h2 : (lN n).toUInt64.toNat = n := wb_tn hn
  rw [UInt64.toNat_shiftRight, h1, h2, Nat.mod_eq_of_lt hk, Nat.shiftRight_eq_div_pow, BitVec.toNat_ofNat, Nat.mod_eq_of_lt (Nat.lt_of_le_of_lt (Nat.div_le_self _ _) hn)]
theorem wb_shl (n : Nat) {k : Nat} (hk : k < 64) : lN n <<< ((nI k).toInt64 &&& 63) = lN (n * 2 ^ k) := by
  rw [wb_c k hk]
  apply wb_inj
  rw [Int64.toBitVec_shiftLeft, wb_tb, wb_tb, wb_tb, wb_sm k hk]
  apply BitVec.eq_of_toNat_eq
  rw [BitVec.shiftLeft_eq', BitVec.toNat_shiftLeft, BitVec.toNat_ofNat, BitVec.toNat_ofNat, BitVec.toNat_ofNat, Nat.mod_eq_of_lt (show k < 2 ^ 64 by omega), Nat.shiftLeft_eq, Nat.mul_mod, Nat.mod_mod, ← Nat.mul_mod]
theorem wb_and {a b : Nat} (ha : a < 2 ^ 64) (hb : b < 2 ^ 64) : lN a &&& lN b = lN (a &&& b) := by
  apply wb_inj
  rw [Int64.toBitVec_and, wb_tb, wb_tb, wb_tb]
  apply BitVec.eq_of_toNat_eq
  rw [BitVec.toNat_and, BitVec.toNat_ofNat, BitVec.toNat_ofNat, BitVec.toNat_ofNat, Nat.mod_eq_of_lt ha, Nat.mod_eq_of_lt hb, Nat.mod_eq_of_lt (Nat.and_lt_two_pow _ hb)]
theorem wb_or {a b : Nat} (ha : a < 2 ^ 64) (hb : b < 2 ^ 64) : lN a ||| lN b = lN (a ||| b) := by
  apply wb_inj
  rw [Int64.toBitVec_or, wb_tb, wb_tb, wb_tb]
  apply BitVec.eq_of_toNat_eq
  rw [BitVec.toNat_or, BitVec.toNat_ofNat, BitVec.toNat_ofNat, BitVec.toNat_ofNat, Nat.mod_eq_of_lt ha, Nat.mod_eq_of_lt hb, Nat.mod_eq_of_lt (Nat.or_lt_two_pow ha hb)]
theorem wb_mask {n k : Nat} (hn : n < 2 ^ 64) (hk : k < 64) : lN n &&& lN (2 ^ k - 1) = lN (n % 2 ^ k) := by
  rw [wb_and hn (by have := wb_lt2 hk; omega), Nat.and_two_pow_sub_one_eq_mod]
theorem wb_a1 {n : Nat} (hn : n < 2 ^ 64) : lN n &&& 1 = lN (n % 2) := wb_mask (k := 1) hn (by decide)
theorem wb_bit {n k : Nat} (hn : n < 2 ^ 64) (hk : k < 64) : ((lN n).toUInt64 >>> ((nI k).toInt64.toUInt64 &&& Int64.toUInt64 63)).toInt64 &&& 1 = lN (n / 2 ^ k % 2) := by
  rw [wb_shr hn hk, wb_a1 (Nat.lt_of_le_of_lt (Nat.div_le_self _ _) hn)]
theorem wb_xor {q k : Nat} (hk : k < 63) (h : 2 ^ k ≤ q) (h2 : q < 2 ^ (k + 1)) : lN q ^^^ lN (2 ^ k) = lN (q - 2 ^ k) := by
  obtain ⟨r, rfl⟩ : ∃ r, q = 2 ^ k + r := ⟨q - 2 ^ k, by omega⟩
  have hr : r < 2 ^ k := by rw [Nat.pow_succ] at h2; omega
  have hx : (2 ^ k + r) ^^^ 2 ^ k = r := by
    apply Nat.eq_of_testBit_eq
    intro i
    rw [Nat.testBit_xor, Nat.testBit_two_pow]
    rcases Nat.lt_trichotomy i k with h | h | h
    · rw [Nat.testBit_two_pow_add_gt h]
      simp [show ¬ k = i by omega]
    · subst h
      rw [Nat.testBit_two_pow_add_eq]
      simp
    · have a1 : 2 ^ (k + 1) ≤ 2 ^ i := Nat.pow_le_pow_right (by decide) h
      rw [Nat.testBit_lt_two_pow (show 2 ^ k + r < 2 ^ i by omega), Nat.testBit_lt_two_pow (show r < 2 ^ i by omega)]
      simp [show ¬ k = i by omega]
  have b1 := wb_lt2 (show k + 1 < 64 by omega)
  have b2 := wb_lt2 (show k < 64 by omega)
  apply wb_inj
  rw [Int64.toBitVec_xor, wb_tb, wb_tb, wb_tb]
  apply BitVec.eq_of_toNat_eq
  rw [BitVec.toNat_xor, BitVec.toNat_ofNat, BitVec.toNat_ofNat, BitVec.toNat_ofNat, Nat.mod_eq_of_lt (by omega : 2 ^ k + r < 2 ^ 64), Nat.mod_eq_of_lt b2, hx, Nat.add_sub_cancel_left, Nat.mod_eq_of_lt (by omega)]
/-! ===== lN: masks, 'or' of parts that don't overlap is a sum ===== -/
theorem u_tn {n : Nat} (h : n < 2 ^ 64) : (UInt64.ofNat n).toNat = n := Nat.mod_eq_of_lt h
theorem g_and {a b c : Nat} (ha : a < 2 ^ 64) (hb : b < 2 ^ 64) (hc : a &&& b = c) : lN a &&& lN b = lN c := by
  subst hc
  have h : UInt64.ofNat a &&& UInt64.ofNat b = UInt64.ofNat (a &&& b) := UInt64.toNat_inj.mp (by rw [UInt64.toNat_and, u_tn ha, u_tn hb, u_tn (Nat.and_lt_two_pow a hb)])
  have h2 := congrArg UInt64.toInt64 h
  exact h2
theorem g_and1 {a : Nat} (ha : a < 2 ^ 64) : lN a &&& 1 = lN (a % 2) := g_and (b := 1) ha (by decide) (Nat.and_two_pow_sub_one_eq_mod a 1)
theorem g_mask {a s p : Nat} (hp : 2 ^ s = p) (hs : s < 64) (ha : a < 2 ^ 64) : lN a &&& lN (p - 1) = lN (a % p) := by
  subst hp
  have := Nat.pow_lt_pow_right (show 1 < 2 by decide) hs
  exact g_and ha (by omega) (Nat.and_two_pow_sub_one_eq_mod a s)
theorem g_or {k p a b : Nat} (hp : 2 ^ k = p) (ha : a < p) (h : b * p + a < 2 ^ 64) : lN (b * p) ||| lN a = lN (b * p + a) := by
  subst hp
  have h1 : b * 2 ^ k ||| a = b * 2 ^ k + a := by rw [← Nat.shiftLeft_eq, Nat.shiftLeft_add_eq_or_of_lt ha]
  have h3 : UInt64.ofNat (b * 2 ^ k) ||| UInt64.ofNat a = UInt64.ofNat (b * 2 ^ k + a) := UInt64.toNat_inj.mp (by rw [UInt64.toNat_or, u_tn (by omega), u_tn (by omega), u_tn h, h1])
  have h2 := congrArg UInt64.toInt64 h3
  exact h2
theorem g_or' {k p a b : Nat} (hp : 2 ^ k = p) (ha : a < p) (h : a + b * p < 2 ^ 64) : lN a ||| lN (b * p) = lN (a + b * p) := by
  rw [Int64.or_comm, g_or hp ha (by omega), Nat.add_comm]
theorem g_ushr {a k p : Nat} {y : UInt64} (hy : y = UInt64.ofNat k) (hk : k < 64) (hp : 2 ^ k = p) (ha : a < 2 ^ 64) : ((lN a).toUInt64 >>> y).toInt64 = lN (a / p) := by
  subst hy hp
  have h : UInt64.ofNat a >>> UInt64.ofNat k = UInt64.ofNat (a / 2 ^ k) := UInt64.toNat_inj.mp (by rw [UInt64.toNat_shiftRight, u_tn ha, u_tn (by omega), u_tn (Nat.lt_of_le_of_lt (Nat.div_le_self _ _) ha), Nat.mod_eq_of_lt hk, Nat.shiftRight_eq_div_pow])
  have h2 := congrArg UInt64.toInt64 h
  exact h2
theorem g_shl {a k p : Nat} {y : Int64} (hy : y.toBitVec.smod 64 = BitVec.ofNat 64 k) (hk : k < 64) (hp : 2 ^ k = p) (ha : a < 2 ^ 64) : lN a <<< y = lN (a * p) := by
  subst hp
  apply Int64.toBitVec_inj.mp
  rw [Int64.toBitVec_shiftLeft, hy]
  apply BitVec.eq_of_toNat_eq
  have hb : (lN a).toBitVec.toNat = a := Nat.mod_eq_of_lt ha
  have hk' : (BitVec.ofNat 64 k).toNat = k := Nat.mod_eq_of_lt (by omega)
  have h : ((lN a).toBitVec <<< BitVec.ofNat 64 k).toNat = (a * 2 ^ k) % 2 ^ 64 := by simp only [BitVec.shiftLeft_eq', BitVec.toNat_shiftLeft, hb, hk', Nat.shiftLeft_eq]
  exact h
theorem lN_bv (n : Nat) : (lN n).toBitVec = BitVec.ofNat 64 n := rfl
theorem lN_nat {n : Nat} (h : n < 2 ^ 64) : (lN n).toBitVec.toNat = n := by rw [lN_bv, BitVec.toNat_ofNat]; exact Nat.mod_eq_of_lt h
theorem lN_xor (a b : Nat) : lN a ^^^ lN b = lN (a ^^^ b) := by
  apply Int64.toBitVec_inj.mp; rw [Int64.toBitVec_xor, lN_bv, lN_bv, lN_bv]; apply BitVec.eq_of_getLsbD_eq; intro i hi; simp [BitVec.getLsbD_ofNat, Nat.testBit_xor, hi]
/-! ===== own rows: numbers ===== -/
/-- a byte, as the machine's int -/
def nB (n : Nat) : Int32 := (nI n).toInt8.toInt32
theorem zi_tn {n : Nat} (h : n < 4294967296) : (nI n).toBitVec.toNat = n := pk_tn (by omega)
theorem zi_of (x : Int32) : x = nI x.toBitVec.toNat := by
  apply Int32.toBitVec_inj.1
  show x.toBitVec = BitVec.ofNat 32 x.toBitVec.toNat
  simp
theorem nx_or (a b : Nat) : nI a ||| nI b = nI (a ||| b) := by
  apply Int32.toBitVec_inj.1
  show BitVec.ofNat 32 a ||| BitVec.ofNat 32 b = BitVec.ofNat 32 (a ||| b)
  apply BitVec.eq_of_getLsbD_eq
  intro i hi
  simp [hi]
theorem zn_or (k : Nat) {a b p : Nat} (hp : 2 ^ k = p) (ha : a < p) : a ||| b * p = a + b * p := by
  subst hp
  rw [Nat.or_comm, ← Nat.shiftLeft_eq, ← Nat.shiftLeft_add_eq_or_of_lt ha, Nat.add_comm]
theorem zi_or (k : Nat) {a b p : Nat} (hp : 2 ^ k = p) (ha : a < p) : nI a ||| nI (b * p) = nI (a + b * p) := by
  rw [nx_or, zn_or k hp ha]
theorem zi_ro (k : Nat) {a b p : Nat} (hp : 2 ^ k = p) (ha : a < p) : nI (b * p) ||| nI a = nI (b * p + a) := by
  rw [nx_or, Nat.or_comm, zn_or k hp ha, Nat.add_comm]
theorem zi_1 (x : Nat) : nI x &&& nI 1 = nI (x % 2) := by rw [nx_and, Nat.and_one_is_mod]
theorem zi_15 (x : Nat) : nI x &&& nI 15 = nI (x % 16) := by
  rw [nx_and, show (15 : Nat) = 2 ^ 4 - 1 from rfl, Nat.and_two_pow_sub_one_eq_mod]
theorem zi_255 (x : Nat) : nI x &&& nI 255 = nI (x % 256) := by
  rw [nx_and, show (255 : Nat) = 2 ^ 8 - 1 from rfl, Nat.and_two_pow_sub_one_eq_mod]
theorem zi_and (x : Int32) (k : Nat) {m p : Nat} (hm : (nI m).toBitVec.toNat = 2 ^ k - 1) (hp : 2 ^ k = p) : x &&& nI m = nI (x.toBitVec.toNat % p) := by
  subst hp
  exact pk_and x k hm
theorem zi_shl (k : Nat) (hk : k < 32) {n p : Nat} (hp : 2 ^ k = p) (h : n * p < 4294967296) : nI n <<< (nI k &&& 31) = nI (n * p) := by
  subst hp
  exact pk_shlN _ k (s_l k hk) (by omega)
theorem zi_shr (k : Nat) (hk : k < 32) {n p : Nat} (hp : 2 ^ k = p) (h : n < 2147483648) : nI n >>> (nI k &&& 31) = nI (n / p) := by
  subst hp
  exact pk_shrN (by omega) _ k (s_l k hk)
theorem zi_ushr (k : Nat) (hk : k < 32) {n p : Nat} (hp : 2 ^ k = p) (h : n < 4294967296) : ((nI n).toUInt32 >>> ((nI k).toUInt32 &&& Int32.toUInt32 31)).toInt32 = nI (n / p) := by
  subst hp
  exact pk_ushrN (by omega) _ k (s_u k hk)
theorem zi_i1 (a : Nat) : nI a + Int32.ofInt 1 = nI (a + 1) := nI_1 a
theorem zi_i8 (a : Nat) : nI a + Int32.ofInt 8 = nI (a + 8) := nI_add a 8
theorem zi_i6 (a : Nat) : nI a + Int32.ofInt 6 = nI (a + 6) := nI_add a 6
theorem zi_dn (a : Nat) : nI (a + 1) + Int32.ofInt (-1) = nI a := pk_m1 a
theorem zi_0 (a : Nat) : nI 0 + nI a = nI a := by rw [nI_add, Nat.zero_add]
theorem nB_255 {n : Nat} (h : n < 256) : nB n &&& nI 255 = nI n := sc_k8 n h
theorem nB_s24 : ∀ n, n < 256 → nB n <<< (nI 24 &&& 31) = nI (n * 16777216) := by decide +kernel
theorem nB_mod (n : Nat) : nB (n % 256) = nB n := by
  unfold nB
  congr 1
  show (Int32.ofNat (n % 256)).toInt8 = (Int32.ofNat n).toInt8
  rw [Int32.toInt8_ofNat', Int32.toInt8_ofNat']
  apply Int8.toBitVec_inj.mp
  show BitVec.ofNat 8 (n % 256) = BitVec.ofNat 8 n
  apply BitVec.eq_of_toNat_eq
  simp
theorem nB_eq {a b : Nat} (h : a % 256 = b % 256) : nB a = nB b := by rw [← nB_mod a, h, nB_mod]
theorem nB_8 (a : Nat) : (nB a).toInt8 = (nI a).toInt8 := by unfold nB; simp
theorem nB_xor (a b : Nat) : (nB a ^^^ nB b).toInt8.toInt32 = nB (a ^^^ b) := by
  rw [Int32.toInt8_xor, nB_8, nB_8, ← Int32.toInt8_xor, nx_xor]
  rfl
theorem nB_nB (a : Nat) : (nB a).toInt8.toInt32 = nB a := by rw [nB_8]; rfl
theorem nB_and0 (a : Nat) : (nB a &&& nI 0).toInt8.toInt32 = nB 0 := by
  rw [Int32.toInt8_and, nB_8, ← Int32.toInt8_and, nx_and, Nat.and_zero]
  rfl
theorem nB_and1 (a : Nat) : (nB a &&& (-1)).toInt8.toInt32 = nB a := by
  have h : nB a &&& (-1) = nB a := by
    apply b_ext
    intro i hi
    rw [b_and, b_m1 i hi, Bool.and_true]
  rw [h, nB_nB]
/-- the low byte of a word shifted down, signed or not -/
theorem nB_sshr (k : Nat) (hk : k ≤ 24) (x : Int32) {p : Nat} (hp : 2 ^ k = p) : (x >>> (nI k &&& 31)).toInt8.toInt32 = nB (x.toBitVec.toNat / p) := by
  subst hp
  unfold nB
  congr 1
  apply Int8.toBitVec_inj.mp
  rw [Int32.toBitVec_toInt8, Int32.toBitVec_toInt8, BitVec.signExtend_eq_setWidth_of_le _ (by decide), BitVec.signExtend_eq_setWidth_of_le _ (by decide)]
  apply BitVec.eq_of_getLsbD_eq
  intro i hi
  rw [BitVec.getLsbD_setWidth, BitVec.getLsbD_setWidth]
  have h1 : bt (x >>> (nI k &&& 31)) i = bt x (k + i) := by
    rw [b_sshr k (by omega) x (by omega), if_pos (by omega)]
  have h2 : bt (nI (x.toBitVec.toNat / 2 ^ k)) i = bt x (k + i) := by
    unfold bt
    show (BitVec.ofNat 32 (x.toBitVec.toNat / 2 ^ k)).getLsbD i = _
    rw [BitVec.getLsbD_ofNat, Nat.testBit_div_two_pow, Nat.add_comm i k]
    simp [show i < 32 by omega, BitVec.getLsbD]
  have h3 : (x >>> (nI k &&& 31)).toBitVec.getLsbD i = (nI (x.toBitVec.toNat / 2 ^ k)).toBitVec.getLsbD i := h1.trans h2.symm
  rw [h3]
theorem nB_of (x : Int32) : x.toInt8.toInt32 = nB x.toBitVec.toNat := by
  unfold nB
  rw [← zi_of x]
/-! longs -/
theorem zl_and (a b : Nat) : lN a &&& lN b = lN (a &&& b) := by
  apply Int64.toBitVec_inj.mp
  rw [Int64.toBitVec_and, lN_bv, lN_bv, lN_bv]
  apply BitVec.eq_of_getLsbD_eq
  intro i hi
  simp [BitVec.getLsbD_ofNat, Nat.testBit_and, hi]
theorem zl_shl (k : Nat) (hk : k < 64) {n p : Nat} (hp : 2 ^ k = p) : lN n <<< ((nI k).toInt64 &&& 63) = lN (n * p) := by
  subst hp
  exact wb_shl n hk
theorem zl_shr (k : Nat) (hk : k < 64) {n p : Nat} (hp : 2 ^ k = p) (h : n < 18446744073709551616) : ((lN n).toUInt64 >>> ((nI k).toInt64.toUInt64 &&& Int64.toUInt64 63)).toInt64 = lN (n / p) := by
  subst hp
  exact wb_shr (by omega) hk
/-- the mask of one bit: all ones or none -/
def mk (b : Nat) : Int64 := if b = 1 then -1 else 0
theorem mk_neg {b : Nat} (h : b < 2) : -((nI b).toInt64) = mk b := by
  rcases (show b = 0 ∨ b = 1 by omega) with rfl | rfl <;> decide
theorem zl_m1 (n : Nat) : lN n &&& (-1) = lN n := by
  rw [show (-1 : Int64) = lN (2 ^ 64 - 1) from by decide +kernel, zl_and, Nat.and_two_pow_sub_one_eq_mod, ← wb_mod]
theorem mk_and (n b : Nat) : lN n &&& mk b = lN (if b = 1 then n else 0) := by
  unfold mk
  by_cases h : b = 1
  · rw [if_pos h, if_pos h, zl_m1]
  · rw [if_neg h, if_neg h]
    show lN n &&& lN 0 = lN 0
    rw [zl_and, Nat.and_zero]
theorem zl_i2l {n : Nat} (h : n < 4294967296) : (nI n).toInt64 &&& lN 4294967295 = lN n := by
  apply Int64.toBitVec_inj.mp
  rw [Int64.toBitVec_and, Int32.toBitVec_toInt64, lN_bv, lN_bv]
  show (BitVec.ofNat 32 n).signExtend 64 &&& BitVec.ofNat 64 4294967295 = BitVec.ofNat 64 n
  apply BitVec.eq_of_getLsbD_eq
  intro i hi
  rw [BitVec.getLsbD_and, BitVec.getLsbD_signExtend, BitVec.getLsbD_ofNat, BitVec.getLsbD_ofNat, BitVec.getLsbD_ofNat]
  have hm : Nat.testBit 4294967295 i = decide (i < 32) := by
    rw [show (4294967295 : Nat) = 2 ^ 32 - 1 from rfl, Nat.testBit_two_pow_sub_one]
  rw [hm]
  rcases Nat.lt_or_ge i 32 with z | z
  · simp [z, hi]
  · have hb : n.testBit i = false := Nat.testBit_lt_two_pow (Nat.lt_of_lt_of_le h (Nat.le_trans (by decide : 4294967296 ≤ 2 ^ 32) (Nat.pow_le_pow_right (by decide) z)))
    simp [hb, Nat.not_lt.mpr z]
theorem zl_l2i (n : Nat) : (lN n &&& lN 4294967295).toInt32 = nI (n % 4294967296) := by
  rw [zl_and, show (4294967295 : Nat) = 2 ^ 32 - 1 from rfl, Nat.and_two_pow_sub_one_eq_mod, lN_i]
theorem zl_or (k : Nat) {a b p : Nat} (hp : 2 ^ k = p) (ha : a < p) (h : b * p + a < 18446744073709551616) : lN (b * p) ||| lN a = lN (b * p + a) := g_or hp ha (by omega)
end
section
/-! ===== own rows: the two classes, the worlds, contracts, calls ===== -/
abbrev vwCl : List vw_C := [(RX0, TX0, 1), (RX1, TX1, 1)]
/-- bytes 0 .. 255 as an array of bytes holds them -/
def bf (m : Nat → Nat) : Nat → Int32 := fun j => nB (m j)
def bI (b : Bool) : Int32 := if b = true then 1 else 0
/-- bits as an array of booleans holds them -/
def zf (B : Nat → Bool) : Nat → Int32 := fun j => bI (B j)
theorem bf_up (m : Nat → Nat) (k v : Nat) : upd (bf m) k (vp_nar .byte (nB v)) = bf (va_up m k v) := by
  funext j
  unfold upd bf va_up
  by_cases h : j = k
  · rw [if_pos h, if_pos h]
    exact pk_vb (nI v)
  · rw [if_neg h, if_neg h]
theorem bI_nar (b : Bool) : vp_nar .boolean (bI b) = bI b := by cases b <;> decide
theorem zf_up (B : Nat → Bool) (k : Nat) (b : Bool) : upd (zf B) k (vp_nar .boolean (bI b)) = zf (va_up B k b) := by
  funext j
  unfold upd zf va_up
  by_cases h : j = k
  · rw [if_pos h, if_pos h, bI_nar]
  · rw [if_neg h, if_neg h]
theorem up_s {α : Type} (f : Nat → α) (k : Nat) (v : α) : va_up f k v k = v := if_pos rfl
theorem up_n {α : Type} (f : Nat → α) {k j : Nat} (v : α) (h : j ≠ k) : va_up f k v j = f j := if_neg h
/-! one-instruction rows in these words -/
section ZR
variable {p : Program} {l : Launch} {e : Env} {R : Room} {s : State} {m : MethodId} {args : Array Value} {below : List Frame} {meth : Method} {c : Code} {H : Heap} {locs : List Loc} {cells slots : Nat} {Q : State → Prop}
variable {cc : ByteArray} {pc : Nat} {ls : Array Slot} {rest : List Value} {D : va_G} {cl : List vw_C} {A : Nat → Prop} {a : Nat} {tys : List (ClassId × FieldType)} {ws : va_W} {H0 : Heap}
/-- the int on top, written otherwise -/
theorem zt_i {x v : Int32} (h : x = v) (k : W p l e R s m args below meth c H locs cells slots Q (F0 m pc ls (.int v :: rest))) : W p l e R s m args below meth c H locs cells slots Q (F0 m pc ls (.int x :: rest)) := h ▸ k
theorem zt_l {x v : Int64} (h : x = v) (k : W p l e R s m args below meth c H locs cells slots Q (F0 m pc ls (.long v :: rest))) : W p l e R s m args below meth c H locs cells slots Q (F0 m pc ls (.long x :: rest)) := h ▸ k
theorem zb_ald (hexec : p.tables.exec = Jvm.exec) (hb : c.code = cc) (hK : va_K D cl tys s) (hP : va_P D cl ws H) (q0 t0 : Nat) {cA : ClassId} {n j : Nat} {f : Nat → Nat} (ha : ws[q0]? = some (a, .inl (cA, n, .inl (bf f)))) (ht : tys[t0]? = some (cA, .byte)) (hj : j < n) (hn : n < 2 ^ 31) (hdg : decode cc pc = .ok (.baload, 1))
    (kk : W p l e R s m args below meth c H locs cells slots Q (F0 m (pc + 1) ls (.int (nB (f j)) :: rest))) : W p l e R s m args below meth c H locs cells slots Q (F0 m pc ls (.int (nI j) :: .ref a :: rest)) := by
  refine va_bald hexec hb hK hP q0 t0 ha ht (vp_in_nI hj hn) hdg ?_
  rw [nI_clamp (Nat.lt_trans hj hn)]
  exact kk
theorem zz_ald (hexec : p.tables.exec = Jvm.exec) (hb : c.code = cc) (hK : va_K D cl tys s) (hP : va_P D cl ws H) (q0 t0 : Nat) {cA : ClassId} {n j : Nat} {f : Nat → Bool} (ha : ws[q0]? = some (a, .inl (cA, n, .inl (zf f)))) (ht : tys[t0]? = some (cA, .boolean)) (hj : j < n) (hn : n < 2 ^ 31) (hdg : decode cc pc = .ok (.baload, 1))
    (kk : W p l e R s m args below meth c H locs cells slots Q (F0 m (pc + 1) ls (.int (bI (f j)) :: rest))) : W p l e R s m args below meth c H locs cells slots Q (F0 m pc ls (.int (nI j) :: .ref a :: rest)) := by
  refine va_zald hexec hb hK hP q0 t0 ha ht (vp_in_nI hj hn) hdg ?_
  rw [nI_clamp (Nat.lt_trans hj hn)]
  exact kk
theorem zb_ast (hexec : p.tables.exec = Jvm.exec) (hb : c.code = cc) (hK : va_K D cl tys s) (hP : va_P D cl ws H) (hD : va_D A ws) (hS : va_S A H0 H locs) (q0 t0 : Nat) {cA : ClassId} {n j v : Nat} {f : Nat → Nat} (ha : ws[q0]? = some (a, .inl (cA, n, .inl (bf f)))) (ht : tys[t0]? = some (cA, .byte)) (hj : j < n) (hn : n < 2 ^ 31) (hdg : decode cc pc = .ok (.bastore, 1))
    (kk : ∀ (H1 : Heap) (locs1 : List Loc), va_P D cl (ws.set q0 (a, .inl (cA, n, .inl (bf (va_up f j v))))) H1 → va_D A (ws.set q0 (a, .inl (cA, n, .inl (bf (va_up f j v))))) → va_S A H0 H1 locs1 → W p l e R s m args below meth c H1 locs1 cells slots Q (F0 m (pc + 1) ls rest)) : W p l e R s m args below meth c H locs cells slots Q (F0 m pc ls (.int (nB v) :: .int (nI j) :: .ref a :: rest)) := by
  refine va_bast hexec hb hK hP hD hS q0 t0 ha ht (vp_in_nI hj hn) hdg (fun H1 locs1 h1 h2 h3 => ?_)
  rw [nI_clamp (Nat.lt_trans hj hn), bf_up] at h1 h2
  exact kk H1 locs1 h1 h2 h3
theorem zz_ast (hexec : p.tables.exec = Jvm.exec) (hb : c.code = cc) (hK : va_K D cl tys s) (hP : va_P D cl ws H) (hD : va_D A ws) (hS : va_S A H0 H locs) (q0 t0 : Nat) {cA : ClassId} {n j : Nat} {v : Bool} {f : Nat → Bool} (ha : ws[q0]? = some (a, .inl (cA, n, .inl (zf f)))) (ht : tys[t0]? = some (cA, .boolean)) (hj : j < n) (hn : n < 2 ^ 31) (hdg : decode cc pc = .ok (.bastore, 1))
    (kk : ∀ (H1 : Heap) (locs1 : List Loc), va_P D cl (ws.set q0 (a, .inl (cA, n, .inl (zf (va_up f j v))))) H1 → va_D A (ws.set q0 (a, .inl (cA, n, .inl (zf (va_up f j v))))) → va_S A H0 H1 locs1 → W p l e R s m args below meth c H1 locs1 cells slots Q (F0 m (pc + 1) ls rest)) : W p l e R s m args below meth c H locs cells slots Q (F0 m pc ls (.int (bI v) :: .int (nI j) :: .ref a :: rest)) := by
  refine va_zast hexec hb hK hP hD hS q0 t0 ha ht (vp_in_nI hj hn) hdg (fun H1 locs1 h1 h2 h3 => ?_)
  rw [nI_clamp (Nat.lt_trans hj hn), zf_up] at h1 h2
  exact kk H1 locs1 h1 h2 h3
/-- an element of an array of arrays of bytes -/
theorem za_ald (hexec : p.tables.exec = Jvm.exec) (hb : c.code = cc) (hK : va_K D cl tys s) (hP : va_P D cl ws H) (q0 t0 : Nat) {cA : ClassId} {n j r : Nat} {f : Nat → Option Nat} (ha : ws[q0]? = some (a, .inl (cA, n, .inr (.inr (.inr (.inr f)))))) (ht : tys[t0]? = some (cA, .array .byte)) (hj : j < n) (hn : n < 2 ^ 31) (hf : f j = some r) (hdg : decode cc pc = .ok (.aaload, 1))
    (kk : W p l e R s m args below meth c H locs cells slots Q (F0 m (pc + 1) ls (.ref r :: rest))) : W p l e R s m args below meth c H locs cells slots Q (F0 m pc ls (.int (nI j) :: .ref a :: rest)) := by
  have hin := vp_in_nI hj hn
  have hcl := nI_clamp (Nat.lt_trans hj hn)
  have hlt : (nI j).toNatClampNeg < n := by rw [hcl]; exact hj
  refine W.aald (v := va_rf (f (nI j).toNatClampNeg)) (ty := .array .byte) hexec hb (hP q0 _ ha) ((hK.2 t0 _ ht).1 n (fun j => va_rf (f j))) rfl (fun q => by cases q) (by show ¬ (nI j < 0 ∨ (arrV _ _ _).slots.size ≤ _); rw [arrV_size]; exact hin) (by show (arrV _ _ _).slots[_]? = _; rw [arrV_read _ _ hlt]) rfl rfl hdg ?_
  rw [hcl, hf]
  exact kk
end ZR
/-! contracts of methods that make nothing -/
/-- a method's start: the world ws, arrays tys -/
abbrev zPre (dC : Nat → ClassId) (dI : Nat → Nat → Nat) (ws : va_W) (tys : List (ClassId × FieldType)) (sz : Nat) : State → Prop := fun U => U.heap.size = sz ∧ va_P (dC, dI) vwCl ws U.heap ∧ va_K (dC, dI) vwCl tys U ∧ va_D (fun _ => True) ws
abbrev zB {S : Type} (dC : Nat → ClassId) (dI : Nat → Nat → Nat) (ws' : S → va_W) : S → State → Prop := fun u t => va_P (dC, dI) vwCl (ws' u) t.heap
/-- y returns nothing; its world ws becomes ws' u, with post u -/
def CtV {S : Type} (l : Launch) (y : MethodName) (cc : ByteArray) (maxL : Nat) (rm : Room) (dC : Nat → ClassId) (dI : Nat → Nat → Nat) (args : List Value) (ws : va_W) (tys : List (ClassId × FieldType)) (post : S → Prop) (ws' : S → va_W) : Prop :=
  ∀ sz : Nat, Met l y (ws_ y cc maxL none) rm (va_Pc args (zPre dC dI ws tys sz)) (va_Qv post (zB dC dI ws') (va_A ws sz)) 0 0 (va_A ws sz)
/-- y returns an int with post; its world stays -/
def CtI (l : Launch) (y : MethodName) (cc : ByteArray) (maxL : Nat) (rm : Room) (dC : Nat → ClassId) (dI : Nat → Nat → Nat) (args : List Value) (ws : va_W) (tys : List (ClassId × FieldType)) (post : Int32 → Prop) : Prop :=
  ∀ sz : Nat, Met l y (ws_ y cc maxL (some .int)) rm (va_Pc args (zPre dC dI ws tys sz)) (va_Qi (fun r (_ : Unit) => post r) (zB dC dI (fun _ => ws)) (va_A ws sz)) 0 0 (va_A ws sz)
/-- y returns a long with post; its world stays -/
def CtL (l : Launch) (y : MethodName) (cc : ByteArray) (maxL : Nat) (rm : Room) (dC : Nat → ClassId) (dI : Nat → Nat → Nat) (args : List Value) (ws : va_W) (tys : List (ClassId × FieldType)) (post : Int64 → Prop) : Prop :=
  ∀ sz : Nat, Met l y (ws_ y cc maxL (some .long)) rm (va_Pc args (zPre dC dI ws tys sz)) (va_Ql (fun r (_ : Unit) => post r) (zB dC dI (fun _ => ws)) (va_A ws sz)) 0 0 (va_A ws sz)
section ZM
variable {l : Launch} {y : MethodName} {cc : ByteArray} {maxL : Nat} {rm : Room} {dC : Nat → ClassId} {dI : Nat → Nat → Nat} {av : List Value} {ws : va_W} {tys : List (ClassId × FieldType)}
theorem zm_v {S : Type} {post : S → Prop} {ws' : S → va_W} (hy : plainName y.cls = true) (hn : (lg_sl av).length ≤ maxL)
    (body : ∀ (p : Program) (e : Env) (s : State) (m : MethodId) (args : Array Value) (below : List Frame) (meth : Method) (c : Code) (A : Nat → Prop) (ls : Array Slot) (Q : State → Prop), p.tables.exec = Jvm.exec → c.code = cc → c.maxLocals = maxL → s.vm.findClass y.cls = some m.cls → (∀ w ∈ lw_all, w.before args s = true) → (∀ q : Nat, s.heap.size ≤ q → A q) → va_K (dC, dI) vwCl tys s → va_P (dC, dI) vwCl ws s.heap → va_D A ws → va_S A s.heap s.heap [] → lv_has ls maxL (lv_args 0 av) →
      (∀ (u : S) (H : Heap) (locs : List Loc) (pc : Nat) (ls : Array Slot), post u → va_P (dC, dI) vwCl (ws' u) H → va_S A s.heap H locs → decode cc pc = .ok (.return_, 1) → W p l e rm s m args below meth c H locs 0 0 Q (F0 m pc ls [])) →
      W p l e rm s m args below meth c s.heap [] 0 0 Q (F0 m 0 ls [])) : CtV l y cc maxL rm dC dI av ws tys post ws' := by
  intro sz
  refine Met.ofW (cc := cc) (maxL := maxL) (ret := none) hy rfl ?_
  intro p e s m args below meth c s₁ B hml hv
  obtain ⟨rfl, hsz, hP, hK, hD0⟩ := hv
  have hts := atoms_spec (ws := ws_ y cc maxL none) B.pre
  have hts : ∀ w ∈ lw_all, w.before _ s = true := fun w h => hts w (List.mem_cons_of_mem _ h)
  have hown : s.vm.findClass y.cls = some m.cls := findClass_of_methodNamed B.named
  subst hsz
  have hD := hD0.self (sz := s.heap.size)
  have hl := lv_entry av (n := maxL) hn
  rw [lg_entry_eq]
  generalize (lg_sl av ++ List.replicate (maxL - (lg_sl av).length) Slot.unset).toArray = ls at hl ⊢
  exact body p e s m _ below meth c (va_A ws s.heap.size) ls _ B.exec B.bytes hml hown hts (fun q h => Or.inr h) hK hP hD va_S.rf hl
    (fun u H locs pc ls h1 h2 h4 h5 => W.vret B.exec B.bytes B.returns (fun t ht hW => ⟨⟨u, rfl, h1, by show va_P (dC, dI) vwCl (ws' u) t.heap; rw [ht]; exact h2⟩, h4.F ht⟩) h4.2.2 h5 B.notSynchronized)
theorem zm_i {post : Int32 → Prop} (hy : plainName y.cls = true) (hn : (lg_sl av).length ≤ maxL)
    (body : ∀ (p : Program) (e : Env) (s : State) (m : MethodId) (args : Array Value) (below : List Frame) (meth : Method) (c : Code) (A : Nat → Prop) (ls : Array Slot) (Q : State → Prop), p.tables.exec = Jvm.exec → c.code = cc → c.maxLocals = maxL → s.vm.findClass y.cls = some m.cls → (∀ w ∈ lw_all, w.before args s = true) → (∀ q : Nat, s.heap.size ≤ q → A q) → va_K (dC, dI) vwCl tys s → va_P (dC, dI) vwCl ws s.heap → va_D A ws → va_S A s.heap s.heap [] → lv_has ls maxL (lv_args 0 av) →
      (∀ (r : Int32) (H : Heap) (locs : List Loc) (pc : Nat) (ls : Array Slot), post r → va_P (dC, dI) vwCl ws H → va_S A s.heap H locs → decode cc pc = .ok (.ireturn, 1) → W p l e rm s m args below meth c H locs 0 0 Q (F0 m pc ls [.int r])) →
      W p l e rm s m args below meth c s.heap [] 0 0 Q (F0 m 0 ls [])) : CtI l y cc maxL rm dC dI av ws tys post := by
  intro sz
  refine Met.ofW (cc := cc) (maxL := maxL) (ret := some .int) hy rfl ?_
  intro p e s m args below meth c s₁ B hml hv
  obtain ⟨rfl, hsz, hP, hK, hD0⟩ := hv
  have hts := atoms_spec (ws := ws_ y cc maxL (some .int)) B.pre
  have hts : ∀ w ∈ lw_all, w.before _ s = true := fun w h => hts w (List.mem_cons_of_mem _ h)
  have hown : s.vm.findClass y.cls = some m.cls := findClass_of_methodNamed B.named
  subst hsz
  have hD := hD0.self (sz := s.heap.size)
  have hl := lv_entry av (n := maxL) hn
  rw [lg_entry_eq]
  generalize (lg_sl av ++ List.replicate (maxL - (lg_sl av).length) Slot.unset).toArray = ls at hl ⊢
  exact body p e s m _ below meth c (va_A ws s.heap.size) ls _ B.exec B.bytes hml hown hts (fun q h => Or.inr h) hK hP hD va_S.rf hl
    (fun r H locs pc ls h1 h2 h4 h5 => W.iret (v := r) B.exec B.bytes B.returns (fun t ht hW => ⟨⟨r, (), rfl, h1, by show va_P (dC, dI) vwCl ws t.heap; rw [ht]; exact h2⟩, h4.F ht⟩) h4.2.2 h5 B.notSynchronized)
theorem zm_l {post : Int64 → Prop} (hy : plainName y.cls = true) (hn : (lg_sl av).length ≤ maxL)
    (body : ∀ (p : Program) (e : Env) (s : State) (m : MethodId) (args : Array Value) (below : List Frame) (meth : Method) (c : Code) (A : Nat → Prop) (ls : Array Slot) (Q : State → Prop), p.tables.exec = Jvm.exec → c.code = cc → c.maxLocals = maxL → s.vm.findClass y.cls = some m.cls → (∀ w ∈ lw_all, w.before args s = true) → (∀ q : Nat, s.heap.size ≤ q → A q) → va_K (dC, dI) vwCl tys s → va_P (dC, dI) vwCl ws s.heap → va_D A ws → va_S A s.heap s.heap [] → lv_has ls maxL (lv_args 0 av) →
      (∀ (r : Int64) (H : Heap) (locs : List Loc) (pc : Nat) (ls : Array Slot), post r → va_P (dC, dI) vwCl ws H → va_S A s.heap H locs → decode cc pc = .ok (.lreturn, 1) → W p l e rm s m args below meth c H locs 0 0 Q (F0 m pc ls [.long r])) →
      W p l e rm s m args below meth c s.heap [] 0 0 Q (F0 m 0 ls [])) : CtL l y cc maxL rm dC dI av ws tys post := by
  intro sz
  refine Met.ofW (cc := cc) (maxL := maxL) (ret := some .long) hy rfl ?_
  intro p e s m args below meth c s₁ B hml hv
  obtain ⟨rfl, hsz, hP, hK, hD0⟩ := hv
  have hts := atoms_spec (ws := ws_ y cc maxL (some .long)) B.pre
  have hts : ∀ w ∈ lw_all, w.before _ s = true := fun w h => hts w (List.mem_cons_of_mem _ h)
  have hown : s.vm.findClass y.cls = some m.cls := findClass_of_methodNamed B.named
  subst hsz
  have hD := hD0.self (sz := s.heap.size)
  have hl := lv_entry av (n := maxL) hn
  rw [lg_entry_eq]
  generalize (lg_sl av ++ List.replicate (maxL - (lg_sl av).length) Slot.unset).toArray = ls at hl ⊢
  exact body p e s m _ below meth c (va_A ws s.heap.size) ls _ B.exec B.bytes hml hown hts (fun q h => Or.inr h) hK hP hD va_S.rf hl
    (fun r H locs pc ls h1 h2 h4 h5 => W.lret (v := r) B.exec B.bytes B.returns (fun t ht hW => ⟨⟨r, (), rfl, h1, by show va_P (dC, dI) vwCl ws t.heap; rw [ht]; exact h2⟩, h4.F ht⟩) h4.2.2 h5 B.notSynchronized)
end ZM
/-! behind a call -/
theorem zj_in {ws wc : va_W} {isC : List Nat} (hC : isC.map (fun i => ws[i]?) = wc.map some) {k : Nat} {q : Nat × va_E} (h : wc[k]? = some q) : ∃ i, i ∈ isC ∧ ws[i]? = some q := by
  have h1 : (isC.map (fun i => ws[i]?))[k]? = some (some q) := by rw [hC, List.getElem?_map, h]; rfl
  rw [List.getElem?_map] at h1
  cases hi : isC[k]? with
  | none => rw [hi] at h1; cases h1
  | some i => rw [hi] at h1; exact ⟨i, List.mem_of_getElem? hi, Option.some.inj h1⟩
theorem zj_gen {D : va_G} {cl : List vw_C} {ws wc w1 wsn : va_W} {A : Nat → Prop} {H H1 : Heap} (hP : va_P D cl ws H) (hD : va_D A ws) (isC : List Nat) (hC : isC.map (fun i => ws[i]?) = wc.map some) (hk : ∀ q : Nat, q < H.size → ¬ va_A wc H.size q → H1[q]? = H[q]?) (hP1 : va_P D cl w1 H1)
    (hN : ∀ (k : Nat) (q : Nat × va_E), wsn[k]? = some q → (∃ j : Nat, w1[j]? = some q) ∨ (k ∉ isC ∧ ws[k]? = some q)) : va_P D cl wsn H1 := by
  intro k q hq
  rcases hN k q hq with ⟨j, hj⟩ | ⟨hn, hw⟩
  · exact hP1 j q hj
  · have hlt := (hP k q hw).lt
    refine (hP k q hw).kept (hk q.1 hlt ?_)
    intro h
    rcases h with ⟨k2, e, h⟩ | h
    · obtain ⟨i, hi, hwi⟩ := zj_in hC h
      have hki : k = i := hD.1 k i q (q.1, e) hw hwi rfl
      exact hn (by rw [hki]; exact hi)
    · omega
theorem zj_D {A : Nat → Prop} {ws wsn : va_W} (hD : va_D A ws) (h : wsn.map Prod.fst = ws.map Prod.fst) : va_D A wsn := by
  have key : ∀ (k : Nat) (q : Nat × va_E), wsn[k]? = some q → ∃ q0, ws[k]? = some q0 ∧ q0.1 = q.1 := by
    intro k q hq
    have h1 : (ws.map Prod.fst)[k]? = some q.1 := by rw [← h, List.getElem?_map, hq]; rfl
    rw [List.getElem?_map] at h1
    cases hw : ws[k]? with
    | none => rw [hw] at h1; cases h1
    | some q0 => rw [hw] at h1; exact ⟨q0, rfl, Option.some.inj h1⟩
  refine ⟨fun i j x z hx hz hxz => ?_, fun k q hq => ?_⟩
  · obtain ⟨x0, a1, a2⟩ := key i x hx
    obtain ⟨z0, b1, b2⟩ := key j z hz
    exact hD.1 i j x0 z0 a1 b1 (a2.trans (hxz.trans b2.symm))
  · obtain ⟨q0, a1, a2⟩ := key k q hq
    rw [← a2]
    exact hD.2 k q0 a1
/-- only the callee's first cell has changed -/
theorem zj_set {D : va_G} {cl : List vw_C} {ws wt : va_W} {A : Nat → Prop} {H H1 : Heap} {a i0 : Nat} {e0 e1 : va_E} {it : List Nat} (hP : va_P D cl ws H) (hD : va_D A ws) (hC : (i0 :: it).map (fun i => ws[i]?) = ((a, e0) :: wt).map some) (hk : ∀ q : Nat, q < H.size → ¬ va_A ((a, e0) :: wt) H.size q → H1[q]? = H[q]?) (hP1 : va_P D cl ((a, e1) :: wt) H1) : va_P D cl (ws.set i0 (a, e1)) H1 := by
  have h0 : ws[i0]? = some (a, e0) := (List.cons.inj hC).1
  have hC' : it.map (fun i => ws[i]?) = wt.map some := (List.cons.inj hC).2
  have hl := (List.getElem?_eq_some_iff.mp h0).1
  refine zj_gen (w1 := (a, e1) :: wt) hP hD (i0 :: it) hC hk hP1 ?_
  intro k q hq
  by_cases hki : k = i0
  · subst hki
    rw [List.getElem?_set_self hl] at hq
    exact Or.inl ⟨0, hq⟩
  · rw [List.getElem?_set_ne (Ne.symm hki)] at hq
    by_cases hm : k ∈ it
    · obtain ⟨j, hj⟩ := List.getElem?_of_mem hm
      have h1 : (wt.map some)[j]? = some (ws[k]?) := by rw [← hC', List.getElem?_map, hj]; rfl
      rw [List.getElem?_map, hq] at h1
      cases hw : wt[j]? with
      | none => rw [hw] at h1; cases h1
      | some q0 =>
        rw [hw] at h1
        have hq0 : q0 = q := Option.some.inj (Option.some.inj h1)
        exact Or.inl ⟨j + 1, by rw [List.getElem?_cons_succ, hw, hq0]⟩
    · exact Or.inr ⟨fun h => by rcases List.mem_cons.mp h with h | h
                                · exact hki h
                                · exact hm h, hq⟩
/-- the callee has only read -/
theorem zj_rd {D : va_G} {cl : List vw_C} {ws wc : va_W} {A : Nat → Prop} {H H1 : Heap} (hP : va_P D cl ws H) (hD : va_D A ws) (isC : List Nat) (hC : isC.map (fun i => ws[i]?) = wc.map some) (hk : ∀ q : Nat, q < H.size → ¬ va_A wc H.size q → H1[q]? = H[q]?) (hP1 : va_P D cl wc H1) : va_P D cl ws H1 := by
  refine zj_gen (w1 := wc) hP hD isC hC hk hP1 ?_
  intro k q hq
  by_cases hm : k ∈ isC
  · obtain ⟨j, hj⟩ := List.getElem?_of_mem hm
    have h1 : (wc.map some)[j]? = some (ws[k]?) := by rw [← hC, List.getElem?_map, hj]; rfl
    rw [List.getElem?_map, hq] at h1
    cases hw : wc[j]? with
    | none => rw [hw] at h1; cases h1
    | some q0 =>
      rw [hw] at h1
      exact Or.inl ⟨j, by rw [hw, Option.some.inj (Option.some.inj h1)]⟩
  · exact Or.inr ⟨hm, hq⟩
theorem zf_free {A0 : Nat → Prop} {ws wc : va_W} {H0 H : Heap} {locs : List Loc} (hD : va_D A0 ws) (hS : va_S A0 H0 H locs) (hA : ∀ q, H0.size ≤ q → A0 q) (isC : List Nat) (hC : isC.map (fun i => ws[i]?) = wc.map some) : ∀ q, va_A wc H.size q → A0 q := va_free hD hS hA isC hC
theorem zP_sub {D : va_G} {cl : List vw_C} {ws wc : va_W} {H : Heap} (hP : va_P D cl ws H) (isC : List Nat) (hC : isC.map (fun i => ws[i]?) = wc.map some) : va_P D cl wc H := by
  intro k q hq
  obtain ⟨i, -, hi⟩ := zj_in hC hq
  exact hP i q hi
section ZC
variable {p : Program} {l : Launch} {e : Env} {R : Room} {s : State} {m : MethodId} {args : Array Value} {below : List Frame} {meth : Method} {c : Code} {H : Heap} {locs : List Loc} {cells slots : Nat} {Q : State → Prop}
variable {cc bytes : ByteArray} {pc nL maxL index : Nat} {ls : Array Slot} {rest st As : List Value} {dC : Nat → ClassId} {dI : Nat → Nat → Nat} {A : Nat → Prop} {tys tysc : List (ClassId × FieldType)} {ws wc : va_W} {y : MethodName} {own : String} {rm : Room}
theorem zc_pre {av : List Value} (hK : va_K (dC, dI) vwCl tys s) (hP : va_P (dC, dI) vwCl wc H) (hD : va_D (fun _ => True) wc) (hT : va_K (dC, dI) vwCl tysc s) : PreS s H (va_Pc av (zPre dC dI wc tysc H.size)) av :=
  ⟨fun a U g mk q => by obtain ⟨q0, q1, qP, qK, qD⟩ := q; exact ⟨q0, q1, qP, va_K.moved (u := U) (U := U.calling g mk a) (Vm.Alike.refl U.vm) qK, qD⟩, fun U hU hW => ⟨rfl, by rw [hU], by rw [hU]; exact hP, va_K.moved hW.alike hT, hD⟩⟩
/-- a static call, nothing answered -/
theorem zc_Sv {S : Type} {post : S → Prop} {ws' : S → va_W} (n : Nat) (hM : CtV l y bytes maxL rm dC dI As wc tysc post ws')
    (hw : GoodIn lw_all (va_wsS own index y (ws_ y bytes maxL none))) (hd : y.cls ≠ "java/lang/invoke/MethodHandle" ∧ y.cls ≠ "java/lang/invoke/VarHandle" ∧ (parseMethodDescriptor y.desc).map (fun d => d.parameters.length) = some n)
    (hR : rm.frames + 1 ≤ R.frames ∧ 8 + (maxL + 11) + rm.locals ≤ R.locals) (hz : rm.cells = 0 ∧ rm.slots = 0) (hf : cells ≤ R.cells ∧ slots ≤ R.slots)
    (hx : p.tables.exec = Jvm.exec) (hb : c.code = cc) (hml : c.maxLocals = nL) (hown : s.vm.findClass own = some m.cls) (hts : ∀ w ∈ lw_all, w.before args s = true) (hA : ∀ q : Nat, s.heap.size ≤ q → A q)
    (hK : va_K (dC, dI) vwCl tys s) (hP : va_P (dC, dI) vwCl ws H) (hD : va_D A ws) (hS : va_S A s.heap H locs)
    (isC isT : List Nat) (hn : va_nd isC = true) (hC : isC.map (fun i => ws[i]?) = wc.map some) (hT : isT.filterMap (fun i => tys[i]?) = tysc)
    (hlen : As.length = n) (hl : ls.size = nL) (hst : st = As.reverse ++ rest) (hrm : (rest.map fun v => v.category).sum ≤ 8) (hdg : decode cc pc = .ok (.invokestatic index, 3))
    (kk : ∀ (u : S) (H1 : Heap) (locs1 : List Loc), post u → va_P (dC, dI) vwCl (ws' u) H1 → (∀ q : Nat, q < H.size → ¬ va_A wc H.size q → H1[q]? = H[q]?) → va_S A s.heap H1 locs1 → W p l e R s m args below meth c H1 locs1 cells slots Q (F0 m (pc + 3) ls rest)) :
    W p l e R s m args below meth c H locs cells slots Q (F0 m pc ls st) := by
  have hFc := va_free (wc := wc) hD hS hA isC hC
  exact va_callv (va_runS (As := As) (rest := rest) ⟨hx, hb, hml, hown, hts⟩ (hM H.size) (va_cwS n hts hw rfl hz.1 hz.2 hd hR) (zc_pre hK (zP_sub hP isC hC) ((hD.sub isC hn hC).weaken (fun _ _ _ _ => trivial)) (hK.sub isT hT)) rfl hlen hl hst (lv_room hrm) hdg hf) hS (fun q _ h => hFc q h) hFc
    (fun u t H1 locs1 ht hvm hp hB hz1 hk1 hS1 => kk u H1 locs1 hp (by rw [← ht]; exact hB) hk1 hS1)
/-- a static call, an int answered, nothing changed -/
theorem zc_Si {post : Int32 → Prop} (n : Nat) (hM : CtI l y bytes maxL rm dC dI As wc tysc post)
    (hw : GoodIn lw_all (va_wsS own index y (ws_ y bytes maxL (some .int)))) (hd : y.cls ≠ "java/lang/invoke/MethodHandle" ∧ y.cls ≠ "java/lang/invoke/VarHandle" ∧ (parseMethodDescriptor y.desc).map (fun d => d.parameters.length) = some n)
    (hR : rm.frames + 1 ≤ R.frames ∧ 8 + (maxL + 11) + rm.locals ≤ R.locals) (hz : rm.cells = 0 ∧ rm.slots = 0) (hf : cells ≤ R.cells ∧ slots ≤ R.slots)
    (hx : p.tables.exec = Jvm.exec) (hb : c.code = cc) (hml : c.maxLocals = nL) (hown : s.vm.findClass own = some m.cls) (hts : ∀ w ∈ lw_all, w.before args s = true) (hA : ∀ q : Nat, s.heap.size ≤ q → A q)
    (hK : va_K (dC, dI) vwCl tys s) (hP : va_P (dC, dI) vwCl ws H) (hD : va_D A ws) (hS : va_S A s.heap H locs)
    (isC isT : List Nat) (hn : va_nd isC = true) (hC : isC.map (fun i => ws[i]?) = wc.map some) (hT : isT.filterMap (fun i => tys[i]?) = tysc)
    (hlen : As.length = n) (hl : ls.size = nL) (hst : st = As.reverse ++ rest) (hrm : (rest.map fun v => v.category).sum ≤ 8) (hdg : decode cc pc = .ok (.invokestatic index, 3))
    (kk : ∀ (r : Int32) (H1 : Heap) (locs1 : List Loc), post r → va_P (dC, dI) vwCl ws H1 → va_S A s.heap H1 locs1 → W p l e R s m args below meth c H1 locs1 cells slots Q (F0 m (pc + 3) ls (.int r :: rest))) :
    W p l e R s m args below meth c H locs cells slots Q (F0 m pc ls st) := by
  have hFc := va_free (wc := wc) hD hS hA isC hC
  exact va_calli (va_runS (As := As) (rest := rest) ⟨hx, hb, hml, hown, hts⟩ (hM H.size) (va_cwS n hts hw rfl hz.1 hz.2 hd hR) (zc_pre hK (zP_sub hP isC hC) ((hD.sub isC hn hC).weaken (fun _ _ _ _ => trivial)) (hK.sub isT hT)) rfl hlen hl hst (lv_room hrm) hdg hf) hS (fun q _ h => hFc q h) hFc
    (fun r u t H1 locs1 ht hvm hp hB hz1 hk1 hS1 => kk r H1 locs1 hp (zj_rd hP hD isC hC hk1 (by rw [← ht]; exact hB)) hS1)
/-- a static call, a long answered, nothing changed -/
theorem zc_Sl {post : Int64 → Prop} (n : Nat) (hM : CtL l y bytes maxL rm dC dI As wc tysc post)
    (hw : GoodIn lw_all (va_wsS own index y (ws_ y bytes maxL (some .long)))) (hd : y.cls ≠ "java/lang/invoke/MethodHandle" ∧ y.cls ≠ "java/lang/invoke/VarHandle" ∧ (parseMethodDescriptor y.desc).map (fun d => d.parameters.length) = some n)
    (hR : rm.frames + 1 ≤ R.frames ∧ 8 + (maxL + 11) + rm.locals ≤ R.locals) (hz : rm.cells = 0 ∧ rm.slots = 0) (hf : cells ≤ R.cells ∧ slots ≤ R.slots)
    (hx : p.tables.exec = Jvm.exec) (hb : c.code = cc) (hml : c.maxLocals = nL) (hown : s.vm.findClass own = some m.cls) (hts : ∀ w ∈ lw_all, w.before args s = true) (hA : ∀ q : Nat, s.heap.size ≤ q → A q)
    (hK : va_K (dC, dI) vwCl tys s) (hP : va_P (dC, dI) vwCl ws H) (hD : va_D A ws) (hS : va_S A s.heap H locs)
    (isC isT : List Nat) (hn : va_nd isC = true) (hC : isC.map (fun i => ws[i]?) = wc.map some) (hT : isT.filterMap (fun i => tys[i]?) = tysc)
    (hlen : As.length = n) (hl : ls.size = nL) (hst : st = As.reverse ++ rest) (hrm : (rest.map fun v => v.category).sum ≤ 8) (hdg : decode cc pc = .ok (.invokestatic index, 3))
    (kk : ∀ (r : Int64) (H1 : Heap) (locs1 : List Loc), post r → va_P (dC, dI) vwCl ws H1 → va_S A s.heap H1 locs1 → W p l e R s m args below meth c H1 locs1 cells slots Q (F0 m (pc + 3) ls (.long r :: rest))) :
    W p l e R s m args below meth c H locs cells slots Q (F0 m pc ls st) := by
  have hFc := va_free (wc := wc) hD hS hA isC hC
  exact va_calll (va_runS (As := As) (rest := rest) ⟨hx, hb, hml, hown, hts⟩ (hM H.size) (va_cwS n hts hw rfl hz.1 hz.2 hd hR) (zc_pre hK (zP_sub hP isC hC) ((hD.sub isC hn hC).weaken (fun _ _ _ _ => trivial)) (hK.sub isT hT)) rfl hlen hl hst (lv_room hrm) hdg hf) hS (fun q _ h => hFc q h) hFc
    (fun r u t H1 locs1 ht hvm hp hB hz1 hk1 hS1 => kk r H1 locs1 hp (zj_rd hP hD isC hC hk1 (by rw [← ht]; exact hB)) hS1)
/-- a call through an object, nothing answered -/
theorem zc_Vv {S : Type} {post : S → Prop} {ws' : S → va_W} {b ci qr : Nat} {fs : List Value} {qc : vw_C} (n : Nat) (hM : CtV l y bytes maxL rm dC dI (.ref b :: As) wc tysc post ws')
    (hr : wc[qr]? = some (b, .inr (ci, fs))) (hc : vwCl[ci]? = some qc)
    (hw : GoodIn lw_all (wsV own index qc.1 y (ws_ y bytes maxL none))) (hd : y.cls = qc.1 ∧ y.cls ≠ "java/lang/invoke/MethodHandle" ∧ y.cls ≠ "java/lang/invoke/VarHandle" ∧ (parseMethodDescriptor y.desc).map (fun d => d.parameters.length) = some n)
    (hR : rm.frames + 1 ≤ R.frames ∧ 8 + (maxL + 11) + rm.locals ≤ R.locals) (hz : rm.cells = 0 ∧ rm.slots = 0) (hf : cells ≤ R.cells ∧ slots ≤ R.slots)
    (hx : p.tables.exec = Jvm.exec) (hb : c.code = cc) (hml : c.maxLocals = nL) (hown : s.vm.findClass own = some m.cls) (hts : ∀ w ∈ lw_all, w.before args s = true) (hA : ∀ q : Nat, s.heap.size ≤ q → A q)
    (hK : va_K (dC, dI) vwCl tys s) (hP : va_P (dC, dI) vwCl ws H) (hD : va_D A ws) (hS : va_S A s.heap H locs)
    (isC isT : List Nat) (hn : va_nd isC = true) (hC : isC.map (fun i => ws[i]?) = wc.map some) (hT : isT.filterMap (fun i => tys[i]?) = tysc)
    (hlen : As.length = n) (hl : ls.size = nL) (hst : st = As.reverse ++ .ref b :: rest) (hrm : (rest.map fun v => v.category).sum ≤ 8) (hdg : decode cc pc = .ok (.invokevirtual index, 3))
    (kk : ∀ (u : S) (H1 : Heap) (locs1 : List Loc), post u → va_P (dC, dI) vwCl (ws' u) H1 → (∀ q : Nat, q < H.size → ¬ va_A wc H.size q → H1[q]? = H[q]?) → va_S A s.heap H1 locs1 → W p l e R s m args below meth c H1 locs1 cells slots Q (F0 m (pc + 3) ls rest)) :
    W p l e R s m args below meth c H locs cells slots Q (F0 m pc ls st) := by
  have hFc := va_free (wc := wc) hD hS hA isC hC
  have hPc := zP_sub hP isC hC
  have hKc := hK.sub isT hT
  have hpre := zc_pre (av := .ref b :: As) hK hPc ((hD.sub isC hn hC).weaken (B := fun _ => True) (fun _ _ _ _ => trivial)) hKc
  exact va_callv (va_runV (As := As) (rest := rest) ⟨hx, hb, hml, hown, hts⟩ (hM H.size) (cwV n hts hw rfl hz.1 hz.2 hd hR) ⟨hpre.1, va_recv hKc hPc hc hr, hpre.2⟩ rfl hlen hl hst (lv_room hrm) hdg hf) hS (fun q _ h => hFc q h) hFc
    (fun u t H1 locs1 ht hvm hp hB hz1 hk1 hS1 => kk u H1 locs1 hp (by rw [← ht]; exact hB) hk1 hS1)
/-- a call through an object, an int answered, nothing changed -/
theorem zc_Vi {post : Int32 → Prop} {b ci qr : Nat} {fs : List Value} {qc : vw_C} (n : Nat) (hM : CtI l y bytes maxL rm dC dI (.ref b :: As) wc tysc post)
    (hr : wc[qr]? = some (b, .inr (ci, fs))) (hc : vwCl[ci]? = some qc)
    (hw : GoodIn lw_all (wsV own index qc.1 y (ws_ y bytes maxL (some .int)))) (hd : y.cls = qc.1 ∧ y.cls ≠ "java/lang/invoke/MethodHandle" ∧ y.cls ≠ "java/lang/invoke/VarHandle" ∧ (parseMethodDescriptor y.desc).map (fun d => d.parameters.length) = some n)
    (hR : rm.frames + 1 ≤ R.frames ∧ 8 + (maxL + 11) + rm.locals ≤ R.locals) (hz : rm.cells = 0 ∧ rm.slots = 0) (hf : cells ≤ R.cells ∧ slots ≤ R.slots)
    (hx : p.tables.exec = Jvm.exec) (hb : c.code = cc) (hml : c.maxLocals = nL) (hown : s.vm.findClass own = some m.cls) (hts : ∀ w ∈ lw_all, w.before args s = true) (hA : ∀ q : Nat, s.heap.size ≤ q → A q)
    (hK : va_K (dC, dI) vwCl tys s) (hP : va_P (dC, dI) vwCl ws H) (hD : va_D A ws) (hS : va_S A s.heap H locs)
    (isC isT : List Nat) (hn : va_nd isC = true) (hC : isC.map (fun i => ws[i]?) = wc.map some) (hT : isT.filterMap (fun i => tys[i]?) = tysc)
    (hlen : As.length = n) (hl : ls.size = nL) (hst : st = As.reverse ++ .ref b :: rest) (hrm : (rest.map fun v => v.category).sum ≤ 8) (hdg : decode cc pc = .ok (.invokevirtual index, 3))
    (kk : ∀ (r : Int32) (H1 : Heap) (locs1 : List Loc), post r → va_P (dC, dI) vwCl ws H1 → va_S A s.heap H1 locs1 → W p l e R s m args below meth c H1 locs1 cells slots Q (F0 m (pc + 3) ls (.int r :: rest))) :
    W p l e R s m args below meth c H locs cells slots Q (F0 m pc ls st) := by
  have hFc := va_free (wc := wc) hD hS hA isC hC
  have hPc := zP_sub hP isC hC
  have hKc := hK.sub isT hT
  have hpre := zc_pre (av := .ref b :: As) hK hPc ((hD.sub isC hn hC).weaken (B := fun _ => True) (fun _ _ _ _ => trivial)) hKc
  exact va_calli (va_runV (As := As) (rest := rest) ⟨hx, hb, hml, hown, hts⟩ (hM H.size) (cwV n hts hw rfl hz.1 hz.2 hd hR) ⟨hpre.1, va_recv hKc hPc hc hr, hpre.2⟩ rfl hlen hl hst (lv_room hrm) hdg hf) hS (fun q _ h => hFc q h) hFc
    (fun r u t H1 locs1 ht hvm hp hB hz1 hk1 hS1 => kk r H1 locs1 hp (zj_rd hP hD isC hC hk1 (by rw [← ht]; exact hB)) hS1)
end ZC
end
section
/-! ===== the pure law: products of polynomials over bits, by digits ===== -/
/-- the reference's first loop: the product of a and the low k bits of b -/
def pd_mul (a b : Nat) : Nat → Nat
  | 0 => 0
  | k + 1 => pd_mul a b k ^^^ (b / 2 ^ k % 2) * (a * 2 ^ k)
/-- its second loop: j steps are left, the next one looks at the bit n + j -/
def pd_red (q n : Nat) : Nat → Nat → Nat
  | x, 0 => x
  | x, j + 1 => pd_red q n (x ^^^ (x / 2 ^ (n + j) % 2) * (q * 2 ^ j)) j
def pd (a b q n : Nat) : Nat := pd_red q n (pd_mul a b n) (n - 1)
/-- the product of the element x by s, in the field of 2^8 and of 2^4 -/
def g8 (s x : Nat) : Nat := pd x s 283 8
def g4 (s x : Nat) : Nat := pd x s 19 4
/-- both nibbles of a byte -/
def n4 (s x : Nat) : Nat := g4 s (x % 16) + g4 s (x / 16) * 16
/-- digits to the base 256 -/
def dg (x j : Nat) : Nat := x / 256 ^ j % 256
def jn : (Nat → Nat) → Nat → Nat
  | _, 0 => 0
  | f, n + 1 => f 0 + 256 * jn (fun j => f (j + 1)) n
theorem dg_lt (x j : Nat) : dg x j < 256 := Nat.mod_lt _ (by decide)
theorem jn_lt : ∀ (n : Nat) (f : Nat → Nat), (∀ j, j < n → f j < 256) → jn f n < 256 ^ n
  | 0, f, _ => by simp [jn]
  | n + 1, f, h => by
    have h1 := jn_lt n (fun j => f (j + 1)) (fun j hj => h (j + 1) (by omega))
    have h2 := h 0 (by omega)
    have h3 : 256 ^ (n + 1) = 256 * 256 ^ n := by rw [Nat.pow_succ, Nat.mul_comm]
    unfold jn
    omega
theorem dg_jn : ∀ (n : Nat) (f : Nat → Nat), (∀ j, j < n → f j < 256) → ∀ j, j < n → dg (jn f n) j = f j
  | 0, f, _, j, hj => by omega
  | n + 1, f, h, 0, _ => by
    have h2 := h 0 (by omega)
    unfold dg jn
    rw [Nat.pow_zero, Nat.div_one]
    omega
  | n + 1, f, h, j + 1, hj => by
    have h1 := dg_jn n (fun j => f (j + 1)) (fun j hj => h (j + 1) (by omega)) j (by omega)
    have h2 := h 0 (by omega)
    unfold dg at h1 ⊢
    unfold jn
    rw [Nat.pow_succ, Nat.mul_comm (256 ^ j) 256, ← Nat.div_div_eq_div_mul, show (f 0 + 256 * jn (fun j => f (j + 1)) n) / 256 = jn (fun j => f (j + 1)) n by omega]
    exact h1
theorem jn_mul (k : Nat) : ∀ (n : Nat) (f : Nat → Nat), k * jn f n = jn (fun j => k * f j) n
  | 0, f => by simp [jn]
  | n + 1, f => by
    have h1 := jn_mul k n (fun j => f (j + 1))
    unfold jn
    rw [Nat.mul_add, Nat.mul_left_comm, h1]
theorem jn_congr : ∀ (n : Nat) (f g : Nat → Nat), (∀ j, j < n → f j = g j) → jn f n = jn g n
  | 0, f, g, _ => rfl
  | n + 1, f, g, h => by
    unfold jn
    rw [h 0 (by omega), jn_congr n _ _ (fun j hj => h (j + 1) (by omega))]
theorem jn_dg : ∀ (n x : Nat), x < 256 ^ n → jn (dg x) n = x
  | 0, x, h => by
    simp [jn] at h ⊢
    omega
  | n + 1, x, h => by
    have h3 : 256 ^ (n + 1) = 256 * 256 ^ n := by rw [Nat.pow_succ, Nat.mul_comm]
    have h1 := jn_dg n (x / 256) (by omega)
    have h2 : jn (fun j => dg x (j + 1)) n = jn (dg (x / 256)) n := by
      apply jn_congr
      intro j _
      unfold dg
      rw [Nat.pow_succ, Nat.mul_comm (256 ^ j) 256, ← Nat.div_div_eq_div_mul]
    unfold jn
    rw [h2, h1]
    unfold dg
    rw [Nat.pow_zero, Nat.div_one]
    omega
theorem dg_mul {x : Nat} (k : Nat) (hx : x < 256 ^ 8) (h : ∀ j, j < 8 → k * dg x j < 256) {j : Nat} (hj : j < 8) : dg (k * x) j = k * dg x j := by
  have h1 := jn_mul k 8 (dg x)
  rw [jn_dg 8 x hx] at h1
  rw [h1]
  exact dg_jn 8 _ h j hj
theorem dg_div {x : Nat} (k : Nat) (hk : 0 < k) (hx : x < 256 ^ 8) (h : ∀ j, j < 8 → dg x j % k = 0) {j : Nat} (hj : j < 8) : dg (x / k) j = dg x j / k := by
  have h0 : ∀ j, j < 8 → dg x j = k * (dg x j / k) := fun j hj => by
    have := Nat.div_add_mod (dg x j) k
    rw [h j hj] at this
    omega
  have h1 := jn_mul k 8 (fun j => dg x j / k)
  rw [← jn_congr 8 _ _ h0, jn_dg 8 x hx] at h1
  have h2 : x / k = jn (fun j => dg x j / k) 8 := Nat.div_eq_of_eq_mul_right hk h1.symm
  rw [h2]
  exact dg_jn 8 _ (fun j _ => Nat.lt_of_le_of_lt (Nat.div_le_self _ _) (dg_lt x j)) j hj
theorem pw_256 (j : Nat) : 256 ^ j = 2 ^ (8 * j) := by rw [Nat.pow_mul]
theorem dg_and (a b j : Nat) : dg (a &&& b) j = dg a j &&& dg b j := by
  unfold dg
  rw [pw_256, Nat.and_div_two_pow, show (256 : Nat) = 2 ^ 8 from rfl, Nat.and_mod_two_pow]
theorem dg_xor (a b j : Nat) : dg (a ^^^ b) j = dg a j ^^^ dg b j := by
  unfold dg
  rw [pw_256, Nat.xor_div_two_pow, show (256 : Nat) = 2 ^ 8 from rfl, Nat.xor_mod_two_pow]
theorem dg_zero (j : Nat) : dg 0 j = 0 := by unfold dg; rw [Nat.zero_div]
theorem dg_if {c : Prop} [Decidable c] (a b j : Nat) : dg (if c then a else b) j = if c then dg a j else dg b j := by
  by_cases h : c
  · rw [if_pos h, if_pos h]
  · rw [if_neg h, if_neg h]
/-! eight elements of the field of 2^8 at once -/
def xs (v : Nat) : Nat := (v * 2 &&& 18374403900871474942) ^^^ ((v / 128 &&& 72340172838076673) * 27)
def xt (b : Nat) : Nat := (b % 128 * 2) ^^^ (b / 128 * 27)
theorem dg_01 : ∀ j, j < 8 → dg 72340172838076673 j = 1 := by decide +kernel
theorem dg_fe : ∀ j, j < 8 → dg 18374403900871474942 j = 254 := by decide +kernel
theorem and_fe : ∀ x, x < 256 → x &&& 254 = x / 2 * 2 := by decide +kernel
theorem dg_h {v j : Nat} (hj : j < 8) : dg (v / 128 &&& 72340172838076673) j = dg v j / 128 := by
  rw [dg_and, dg_01 j hj, Nat.and_one_is_mod]
  unfold dg
  rw [Nat.div_div_eq_div_mul, Nat.mul_comm 128, ← Nat.div_div_eq_div_mul]
  generalize v / 256 ^ j = q
  omega
theorem dg_xs {v j : Nat} (hj : j < 8) : dg (xs v) j = xt (dg v j) := by
  unfold xs xt
  rw [dg_xor]
  congr 1
  · rw [dg_and, dg_fe j hj, and_fe _ (dg_lt _ _)]
    unfold dg
    have h1 : v * 2 / 256 ^ j / 2 = v / 256 ^ j := by
      rw [Nat.div_div_eq_div_mul, Nat.mul_div_mul_right _ _ (by decide)]
    revert h1
    generalize v * 2 / 256 ^ j = q
    generalize v / 256 ^ j = r
    intro h1
    omega
  · have hb : (v / 128 &&& 72340172838076673) < 256 ^ 8 := Nat.lt_of_le_of_lt Nat.and_le_right (by decide)
    rw [Nat.mul_comm, dg_mul 27 hb (fun i hi => by rw [dg_h hi]; have := dg_lt v i; omega) hj, dg_h hj, Nat.mul_comm]
theorem xs_lt {v : Nat} : xs v < 18446744073709551616 := by
  unfold xs
  refine Nat.xor_lt_two_pow (n := 64) ?_ ?_
  · exact Nat.lt_of_le_of_lt Nat.and_le_right (by decide)
  · have h : v / 128 &&& 72340172838076673 ≤ 72340172838076673 := Nat.and_le_right
    omega
def xk (v : Nat) : Nat → Nat
  | 0 => v
  | k + 1 => xs (xk v k)
def xkb (b : Nat) : Nat → Nat
  | 0 => b
  | k + 1 => xt (xkb b k)
def fa (s v : Nat) : Nat → Nat
  | 0 => if s % 2 = 1 then v else 0
  | k + 1 => fa s v k ^^^ (if s / 2 ^ (k + 1) % 2 = 1 then xk v (k + 1) else 0)
/-- what mulFx8 answers -/
def fx8 (s v : Nat) : Nat := fa s v 7
def fb (s b : Nat) : Nat → Nat
  | 0 => if s % 2 = 1 then b else 0
  | k + 1 => fb s b k ^^^ (if s / 2 ^ (k + 1) % 2 = 1 then xkb b (k + 1) else 0)
theorem xk_lt {v : Nat} (hv : v < 18446744073709551616) : ∀ k, xk v k < 18446744073709551616
  | 0 => hv
  | k + 1 => xs_lt
theorem fa_lt {s v : Nat} (hv : v < 18446744073709551616) : ∀ k, fa s v k < 18446744073709551616
  | 0 => by
    unfold fa
    by_cases h : s % 2 = 1
    · rw [if_pos h]; exact hv
    · rw [if_neg h]; decide
  | k + 1 => by
    unfold fa
    refine Nat.xor_lt_two_pow (n := 64) (fa_lt hv k) ?_
    by_cases h : s / 2 ^ (k + 1) % 2 = 1
    · rw [if_pos h]; exact xs_lt
    · rw [if_neg h]; decide
theorem dg_xk {v j : Nat} (hj : j < 8) : ∀ k, dg (xk v k) j = xkb (dg v j) k
  | 0 => rfl
  | k + 1 => by
    unfold xk xkb
    rw [dg_xs hj, dg_xk hj k]
theorem dg_fa {s v j : Nat} (hj : j < 8) : ∀ k, dg (fa s v k) j = fb s (dg v j) k
  | 0 => by
    unfold fa fb
    rw [dg_if, dg_zero]
  | k + 1 => by
    unfold fa fb
    rw [dg_xor, dg_fa hj k, dg_if, dg_zero, dg_xk hj]
/-! the rest's linearity -/
theorem zx_4 (a b c d : Nat) : (a ^^^ b) ^^^ (c ^^^ d) = (a ^^^ c) ^^^ (b ^^^ d) := by
  rw [Nat.xor_assoc, Nat.xor_assoc, ← Nat.xor_assoc b c d, Nat.xor_comm b c, Nat.xor_assoc c b d]
theorem zx_bit (x y i : Nat) : (x ^^^ y) / 2 ^ i % 2 = (x / 2 ^ i % 2) ^^^ (y / 2 ^ i % 2) := by
  rw [Nat.xor_div_two_pow]
  exact Nat.xor_mod_two_pow (n := 1)
theorem zx_dist : ∀ (a b w : Nat), a < 2 → b < 2 → (a ^^^ b) * w = a * w ^^^ b * w := by
  intro a b w ha hb
  rcases (show a = 0 ∨ a = 1 by omega) with rfl | rfl <;> rcases (show b = 0 ∨ b = 1 by omega) with rfl | rfl <;> simp
theorem pd_red_xor (q n : Nat) : ∀ (j x y : Nat), pd_red q n (x ^^^ y) j = pd_red q n x j ^^^ pd_red q n y j
  | 0, x, y => rfl
  | j + 1, x, y => by
    unfold pd_red
    rw [zx_bit, zx_dist _ _ _ (Nat.mod_lt _ (by decide)) (Nat.mod_lt _ (by decide)), zx_4]
    exact pd_red_xor q n j _ _
theorem pd_red_0 (q n : Nat) : ∀ j, pd_red q n 0 j = 0
  | 0 => rfl
  | j + 1 => by
    unfold pd_red
    rw [Nat.zero_div, Nat.zero_mod, Nat.zero_mul, Nat.xor_zero]
    exact pd_red_0 q n j
theorem g8_tab : ∀ b, b < 256 → ∀ k, k < 8 → pd_red 283 8 (b * 2 ^ k) 7 = xkb b k := by decide +kernel
theorem g8_one {s b k : Nat} (hb : b < 256) (hk : k < 8) : pd_red 283 8 ((s / 2 ^ k % 2) * (b * 2 ^ k)) 7 = if s / 2 ^ k % 2 = 1 then xkb b k else 0 := by
  rcases (show s / 2 ^ k % 2 = 0 ∨ s / 2 ^ k % 2 = 1 by omega) with h | h
  · rw [h, Nat.zero_mul, pd_red_0]
    rfl
  · rw [h, Nat.one_mul, if_pos rfl]
    exact g8_tab b hb k hk
theorem g8_fb {s b : Nat} (hb : b < 256) : ∀ k, k < 8 → pd_red 283 8 (pd_mul b s (k + 1)) 7 = fb s b k
  | 0, _ => by
    have h := g8_one (s := s) hb (show 0 < 8 by decide)
    unfold fb
    unfold pd_mul pd_mul
    rw [Nat.zero_xor, h, Nat.pow_zero, Nat.div_one]
    rfl
  | k + 1, hk => by
    have h := g8_one (s := s) hb hk
    unfold fb
    unfold pd_mul
    rw [pd_red_xor, g8_fb hb k (by omega), h]
theorem g8_eq {s b : Nat} (hb : b < 256) : fb s b 7 = g8 s b := (g8_fb hb 7 (by decide)).symm
theorem dg_fx8 {s v j : Nat} (hj : j < 8) : dg (fx8 s v) j = g8 s (dg v j) := by
  unfold fx8
  rw [dg_fa hj, g8_eq (dg_lt _ _)]
theorem fx8_lt {s v : Nat} (hv : v < 18446744073709551616) : fx8 s v < 18446744073709551616 := fa_lt hv 7
/-! sixteen elements of the field of 2^4 at once -/
def yh (v : Nat) : Nat := (v &&& 9838263505978427528) / 8
def ys (v : Nat) : Nat := ((v &&& 8608480567731124087) * 2) ^^^ (yh v + yh v * 2)
def yb (b : Nat) : Nat := ((b &&& 119) * 2) ^^^ (3 * ((b &&& 136) / 8))
theorem dg_77 : ∀ j, j < 8 → dg 8608480567731124087 j = 119 := by decide +kernel
theorem dg_88 : ∀ j, j < 8 → dg 9838263505978427528 j = 136 := by decide +kernel
theorem and_88 : ∀ x, x < 256 → (x &&& 136) % 8 = 0 := by decide +kernel
theorem and_88h : ∀ x, x < 256 → 3 * ((x &&& 136) / 8) < 256 := by decide +kernel
theorem dg_yh {v j : Nat} (hj : j < 8) : dg (yh v) j = (dg v j &&& 136) / 8 := by
  unfold yh
  rw [dg_div 8 (by decide) (Nat.lt_of_le_of_lt Nat.and_le_right (by decide)) (fun i hi => by rw [dg_and, dg_88 i hi]; exact and_88 _ (dg_lt _ _)) hj, dg_and, dg_88 j hj]
theorem yh_lt (v : Nat) : yh v ≤ 1229782938247303441 := by
  unfold yh
  have h : v &&& 9838263505978427528 ≤ 9838263505978427528 := Nat.and_le_right
  omega
theorem dg_ys {v j : Nat} (hj : j < 8) : dg (ys v) j = yb (dg v j) := by
  unfold ys yb
  rw [dg_xor]
  congr 1
  · have hb : (v &&& 8608480567731124087) < 256 ^ 8 := Nat.lt_of_le_of_lt Nat.and_le_right (by decide)
    have hd : ∀ i, i < 8 → dg (v &&& 8608480567731124087) i = dg v i &&& 119 := fun i hi => by rw [dg_and, dg_77 i hi]
    rw [Nat.mul_comm, dg_mul 2 hb (fun i hi => by rw [hd i hi]; have : dg v i &&& 119 ≤ 119 := Nat.and_le_right; omega) hj, hd j hj, Nat.mul_comm]
  · have hb : yh v < 256 ^ 8 := Nat.lt_of_le_of_lt (yh_lt v) (by decide)
    rw [show yh v + yh v * 2 = 3 * yh v by omega, dg_mul 3 hb (fun i hi => by rw [dg_yh hi]; exact and_88h _ (dg_lt _ _)) hj, dg_yh hj]
theorem ys_lt {v : Nat} : ys v < 18446744073709551616 := by
  unfold ys
  refine Nat.xor_lt_two_pow (n := 64) ?_ ?_
  · have h : v &&& 8608480567731124087 ≤ 8608480567731124087 := Nat.and_le_right
    omega
  · have := yh_lt v
    omega
/-- what mulAddStep16 answers, by the four bits of the scalar -/
def ma4 (b0 b1 b2 b3 v : Nat) : Nat := (((if b0 = 1 then v else 0) ^^^ (if b1 = 1 then ys v else 0)) ^^^ (if b2 = 1 then ys (ys v) else 0)) ^^^ (if b3 = 1 then ys (ys (ys v)) else 0)
def ma4b (b0 b1 b2 b3 v : Nat) : Nat := (((if b0 = 1 then v else 0) ^^^ (if b1 = 1 then yb v else 0)) ^^^ (if b2 = 1 then yb (yb v) else 0)) ^^^ (if b3 = 1 then yb (yb (yb v)) else 0)
theorem dg_ma4 {b0 b1 b2 b3 v j : Nat} (hj : j < 8) : dg (ma4 b0 b1 b2 b3 v) j = ma4b b0 b1 b2 b3 (dg v j) := by
  unfold ma4 ma4b
  simp only [dg_xor, dg_if, dg_zero, dg_ys hj]
theorem ma4_lt {b0 b1 b2 b3 v : Nat} (hv : v < 18446744073709551616) : ma4 b0 b1 b2 b3 v < 18446744073709551616 := by
  have h : ∀ (c : Prop) [Decidable c] (x : Nat), x < 18446744073709551616 → (if c then x else 0) < 2 ^ 64 := by
    intro c _ x hx
    by_cases hc : c
    · rw [if_pos hc]; exact hx
    · rw [if_neg hc]; decide
  unfold ma4
  exact Nat.xor_lt_two_pow (n := 64) (Nat.xor_lt_two_pow (Nat.xor_lt_two_pow (h _ _ hv) (h _ _ ys_lt)) (h _ _ ys_lt)) (h _ _ ys_lt)
theorem n4_tab : ∀ s, s < 16 → ∀ b, b < 256 → ma4b (s % 2) (s / 2 % 2) (s / 4 % 2) (s / 8 % 2) b = n4 s b := by decide +kernel
theorem dg_n4 {s v j : Nat} (hs : s < 16) (hj : j < 8) : dg (ma4 (s % 2) (s / 2 % 2) (s / 4 % 2) (s / 8 % 2) v) j = n4 s (dg v j) := by
  rw [dg_ma4 hj, n4_tab s hs _ (dg_lt _ _)]
/-! sizes -/
theorem g4_lt : ∀ s, s < 16 → ∀ x, x < 16 → g4 s x < 16 := by decide +kernel
theorem n4_lt {s x : Nat} (hs : s < 16) (hx : x < 256) : n4 s x < 256 := by
  unfold n4
  have h1 := g4_lt s hs (x % 16) (by omega)
  have h2 := g4_lt s hs (x / 16) (by omega)
  omega
theorem xt_lt : ∀ b, b < 256 → xt b < 256 := by decide +kernel
theorem xkb_lt {b : Nat} (hb : b < 256) : ∀ k, xkb b k < 256
  | 0 => hb
  | k + 1 => xt_lt _ (xkb_lt hb k)
theorem fb_lt {s b : Nat} (hb : b < 256) : ∀ k, fb s b k < 256
  | 0 => by
    unfold fb
    by_cases h : s % 2 = 1
    · rw [if_pos h]; exact hb
    · rw [if_neg h]; decide
  | k + 1 => by
    unfold fb
    refine Nat.xor_lt_two_pow (n := 8) (fb_lt hb k) ?_
    by_cases h : s / 2 ^ (k + 1) % 2 = 1
    · rw [if_pos h]; exact xkb_lt hb (k + 1)
    · rw [if_neg h]; decide
theorem g8_lt {s b : Nat} (hb : b < 256) : g8 s b < 256 := by
  rw [← g8_eq hb]
  exact fb_lt hb 7
theorem g8_1 : ∀ x, x < 256 → g8 1 x = x := by decide +kernel
end
section
/-! ===== contracts: Pack, GF256AES.mulFx8, GF16 ===== -/
abbrev rmN (f k : Nat) : Room := { frames := f, cells := 0, slots := 0, locals := k }
def le4 (f : Nat → Nat) (o : Nat) : Nat := f o + f (o + 1) * 256 + f (o + 2) * 65536 + f (o + 3) * 16777216
def le8 (f : Nat → Nat) (o : Nat) : Nat := le4 f (o + 4) * 4294967296 + le4 f o
def st4 (f : Nat → Nat) (o v : Nat) : Nat → Nat := va_up (va_up (va_up (va_up f o (v % 256)) (o + 1) (v / 256 % 256)) (o + 2) (v / 65536 % 256)) (o + 3) (v / 16777216 % 256)
def st8 (f : Nat → Nat) (o v : Nat) : Nat → Nat := fun j => if o ≤ j ∧ j < o + 8 then dg v (j - o) else f j
theorem le4_lt {f : Nat → Nat} (hf : ∀ j, f j < 256) (o : Nat) : le4 f o < 4294967296 := by
  have h0 := hf o
  have h1 := hf (o + 1)
  have h2 := hf (o + 2)
  have h3 := hf (o + 3)
  unfold le4
  omega
theorem le8_lt {f : Nat → Nat} (hf : ∀ j, f j < 256) (o : Nat) : le8 f o < 18446744073709551616 := by
  have h0 := le4_lt hf o
  have h1 := le4_lt hf (o + 4)
  unfold le8
  omega
theorem dg_le8 {f : Nat → Nat} (hf : ∀ j, f j < 256) (o : Nat) : ∀ j, j < 8 → dg (le8 f o) j = f (o + j) := by
  have e : le8 f o = jn (fun j => f (o + j)) 8 := by
    unfold le8 le4
    simp only [jn, Nat.add_zero, Nat.zero_add, Nat.reduceAdd, Nat.add_assoc]
    omega
  intro j hj
  rw [e]
  exact dg_jn 8 _ (fun j _ => hf _) j hj
theorem st8_eq (f : Nat → Nat) (o v : Nat) : st4 (st4 f o (v % 4294967296)) (o + 4) (v / 4294967296) = st8 f o v := by
  funext j
  unfold st4 st8 va_up dg
  by_cases h : o ≤ j ∧ j < o + 8
  · rw [if_pos h]
    obtain ⟨t, rfl⟩ : ∃ t, j = o + t := ⟨j - o, by omega⟩
    have ht : t < 8 := by omega
    rw [Nat.add_sub_cancel_left]
    rcases (show t = 0 ∨ t = 1 ∨ t = 2 ∨ t = 3 ∨ t = 4 ∨ t = 5 ∨ t = 6 ∨ t = 7 by omega) with rfl | rfl | rfl | rfl | rfl | rfl | rfl | rfl
    all_goals (repeat (first | rw [if_pos (by omega)] | rw [if_neg (by omega)]))
    all_goals omega
  · rw [if_neg h]
    repeat rw [if_neg (by omega)]
theorem va_up_lt {f : Nat → Nat} (hf : ∀ j, f j < 256) (k : Nat) {v : Nat} (hv : v < 256) : ∀ j, va_up f k v j < 256 := by
  intro j
  unfold va_up
  by_cases h : j = k
  · rw [if_pos h]; exact hv
  · rw [if_neg h]; exact hf j
theorem st4_lt {f : Nat → Nat} (hf : ∀ j, f j < 256) (o v : Nat) : ∀ j, st4 f o v j < 256 :=
  va_up_lt (va_up_lt (va_up_lt (va_up_lt hf _ (Nat.mod_lt _ (by decide))) _ (Nat.mod_lt _ (by decide))) _ (Nat.mod_lt _ (by decide))) _ (Nat.mod_lt _ (by decide))
theorem st8_lt {f : Nat → Nat} (hf : ∀ j, f j < 256) (o v : Nat) : ∀ j, st8 f o v j < 256 := by
  intro j
  unfold st8
  by_cases h : o ≤ j ∧ j < o + 8
  · rw [if_pos h]; exact dg_lt _ _
  · rw [if_neg h]; exact hf j
set_option maxHeartbeats 4000000 in
set_option maxRecDepth 100000 in
/-- Pack.littleEndianToInt -/
theorem ctX3_le4 (l : Launch) (dC : Nat → ClassId) (dI : Nat → Nat → Nat) (r : Nat) (cB : ClassId) (f : Nat → Nat) (hf : ∀ j, f j < 256) (o : Nat) (ho : o + 4 ≤ 32) : CtI l yX3_littleEndianToInt cX3_littleEndianToInt 3 (rmN 0 0) dC dI [.ref r, .int (nI o)] [(r, .inl (cB, 32, .inl (bf f)))] [(cB, .byte)] (fun v => v = nI (le4 f o)) := by
  refine zm_i (by decide) (Nat.le_of_ble_eq_true rfl) ?_
  intro p e s m args below meth c A ls Q hx hb hml hown hts hA hK hP hD hS hl hret
  have hl : lv_has ls 3 [(0, .ref r), (1, .int (nI o))] := hl
  have h0 := hf o
  have h1 := hf (o + 1)
  have h2 := hf (o + 2)
  have h3 := hf (o + 3)
  refine lv_aload_n hx hb dX3_littleEndianToInt_0 rfl (lv_at hl 0 rfl) ?_
  refine lv_iload_n hx hb dX3_littleEndianToInt_1 rfl (lv_at hl 1 rfl) ?_
  refine zb_ald hx hb hK hP 0 0 rfl rfl (by omega) (by decide) dX3_littleEndianToInt_2 ?_
  refine lv_sipush (v := (nI 255)) hx hb dX3_littleEndianToInt_3 (by decide) ?_
  refine lv_iand hx hb dX3_littleEndianToInt_6 ?_
  refine zt_i (v := (nI (f o))) (nB_255 (hf _)) ?_
  refine lv_istore_n (lv' := [(2, .int (nI (f o))), (0, .ref r), (1, .int (nI o))]) hx hb dX3_littleEndianToInt_7 rfl hl (by decide) rfl (fun ls hl => ?_)
  refine lv_iload_n hx hb dX3_littleEndianToInt_8 rfl (lv_at hl 0 rfl) ?_
  refine lv_aload_n hx hb dX3_littleEndianToInt_9 rfl (lv_at hl 1 rfl) ?_
  refine lv_iinc (v := (nI (o + 1))) (lv' := [(1, .int (nI (o + 1))), (2, .int (nI (f o))), (0, .ref r)]) hx hb dX3_littleEndianToInt_10 hl (k := 2) rfl (zi_i1 o) (by decide) rfl (fun ls hl => ?_)
  refine lv_iload_n hx hb dX3_littleEndianToInt_13 rfl (lv_at hl 0 rfl) ?_
  refine zb_ald hx hb hK hP 0 0 rfl rfl (by omega) (by decide) dX3_littleEndianToInt_14 ?_
  refine lv_sipush (v := (nI 255)) hx hb dX3_littleEndianToInt_15 (by decide) ?_
  refine lv_iand hx hb dX3_littleEndianToInt_18 ?_
  refine zt_i (v := (nI (f (o + 1)))) (nB_255 (hf _)) ?_
  refine lv_bipush (v := (nI 8)) hx hb dX3_littleEndianToInt_19 (by decide) ?_
  refine lv_ishl hx hb dX3_littleEndianToInt_21 ?_
  refine zt_i (v := (nI (f (o + 1) * 256))) (zi_shl 8 (by decide) rfl (by omega)) ?_
  refine lv_ior hx hb dX3_littleEndianToInt_22 ?_
  refine zt_i (v := (nI (f o + f (o + 1) * 256))) (zi_or 8 rfl (by omega)) ?_
  refine lv_istore_n (lv' := [(2, .int (nI (f o + f (o + 1) * 256))), (1, .int (nI (o + 1))), (0, .ref r)]) hx hb dX3_littleEndianToInt_23 rfl hl (by decide) rfl (fun ls hl => ?_)
  refine lv_iload_n hx hb dX3_littleEndianToInt_24 rfl (lv_at hl 0 rfl) ?_
  refine lv_aload_n hx hb dX3_littleEndianToInt_25 rfl (lv_at hl 2 rfl) ?_
  refine lv_iinc (v := (nI (o + 2))) (lv' := [(1, .int (nI (o + 2))), (2, .int (nI (f o + f (o + 1) * 256))), (0, .ref r)]) hx hb dX3_littleEndianToInt_26 hl (k := 1) rfl (zi_i1 (o + 1)) (by decide) rfl (fun ls hl => ?_)
  refine lv_iload_n hx hb dX3_littleEndianToInt_29 rfl (lv_at hl 0 rfl) ?_
  refine zb_ald hx hb hK hP 0 0 rfl rfl (by omega) (by decide) dX3_littleEndianToInt_30 ?_
  refine lv_sipush (v := (nI 255)) hx hb dX3_littleEndianToInt_31 (by decide) ?_
  refine lv_iand hx hb dX3_littleEndianToInt_34 ?_
  refine zt_i (v := (nI (f (o + 2)))) (nB_255 (hf _)) ?_
  refine lv_bipush (v := (nI 16)) hx hb dX3_littleEndianToInt_35 (by decide) ?_
  refine lv_ishl hx hb dX3_littleEndianToInt_37 ?_
  refine zt_i (v := (nI (f (o + 2) * 65536))) (zi_shl 16 (by decide) rfl (by omega)) ?_
  refine lv_ior hx hb dX3_littleEndianToInt_38 ?_
  refine zt_i (v := (nI (f o + f (o + 1) * 256 + f (o + 2) * 65536))) (zi_or 16 rfl (by omega)) ?_
  refine lv_istore_n (lv' := [(2, .int (nI (f o + f (o + 1) * 256 + f (o + 2) * 65536))), (1, .int (nI (o + 2))), (0, .ref r)]) hx hb dX3_littleEndianToInt_39 rfl hl (by decide) rfl (fun ls hl => ?_)
  refine lv_iload_n hx hb dX3_littleEndianToInt_40 rfl (lv_at hl 0 rfl) ?_
  refine lv_aload_n hx hb dX3_littleEndianToInt_41 rfl (lv_at hl 2 rfl) ?_
  refine lv_iinc (v := (nI (o + 3))) (lv' := [(1, .int (nI (o + 3))), (2, .int (nI (f o + f (o + 1) * 256 + f (o + 2) * 65536))), (0, .ref r)]) hx hb dX3_littleEndianToInt_42 hl (k := 1) rfl (zi_i1 (o + 2)) (by decide) rfl (fun ls hl => ?_)
  refine lv_iload_n hx hb dX3_littleEndianToInt_45 rfl (lv_at hl 0 rfl) ?_
  refine zb_ald hx hb hK hP 0 0 rfl rfl (by omega) (by decide) dX3_littleEndianToInt_46 ?_
  refine lv_bipush (v := (nI 24)) hx hb dX3_littleEndianToInt_47 (by decide) ?_
  refine lv_ishl hx hb dX3_littleEndianToInt_49 ?_
  refine zt_i (v := (nI (f (o + 3) * 16777216))) (nB_s24 _ (hf _)) ?_
  refine lv_ior hx hb dX3_littleEndianToInt_50 ?_
  refine zt_i (v := (nI (f o + f (o + 1) * 256 + f (o + 2) * 65536 + f (o + 3) * 16777216))) (zi_or 24 rfl (by omega)) ?_
  refine lv_istore_n (lv' := [(2, .int (nI (f o + f (o + 1) * 256 + f (o + 2) * 65536 + f (o + 3) * 16777216))), (1, .int (nI (o + 3))), (0, .ref r)]) hx hb dX3_littleEndianToInt_51 rfl hl (by decide) rfl (fun ls hl => ?_)
  refine lv_iload_n hx hb dX3_littleEndianToInt_52 rfl (lv_at hl 0 rfl) ?_
  exact hret _ _ _ _ _ rfl hP hS dX3_littleEndianToInt_53
set_option maxHeartbeats 4000000 in
set_option maxRecDepth 100000 in
/-- Pack.intToLittleEndian -/
theorem ctX3_st4 (l : Launch) (dC : Nat → ClassId) (dI : Nat → Nat → Nat) (r : Nat) (cB : ClassId) (f : Nat → Nat) (v : Nat) (hv : v < 4294967296) (o : Nat) (ho : o + 4 ≤ 32) : CtV l yX3_intToLittleEndian cX3_intToLittleEndian 3 (rmN 0 0) dC dI [.int (nI v), .ref r, .int (nI o)] [(r, .inl (cB, 32, .inl (bf f)))] [(cB, .byte)] (fun u : Nat → Nat => u = st4 f o v) (fun u => [(r, .inl (cB, 32, .inl (bf u)))]) := by
  refine zm_v (by decide) (Nat.le_of_ble_eq_true rfl) ?_
  intro p e s m args below meth c A ls Q hx hb hml hown hts hA hK hP hD hS hl hret
  have hl : lv_has ls 3 [(0, .int (nI v)), (1, .ref r), (2, .int (nI o))] := hl
  refine lv_aload_n hx hb dX3_intToLittleEndian_0 rfl (lv_at hl 1 rfl) ?_
  refine lv_iload_n hx hb dX3_intToLittleEndian_1 rfl (lv_at hl 2 rfl) ?_
  refine lv_iload_n hx hb dX3_intToLittleEndian_2 rfl (lv_at hl 0 rfl) ?_
  refine lv_i2b (v := (nB (v % 256))) hx hb dX3_intToLittleEndian_3 ((nB_mod v).symm) ?_
  refine zb_ast hx hb hK hP hD hS 0 0 rfl rfl (by omega) (by decide) dX3_intToLittleEndian_4 (fun H locs hP hD hS => ?_)
  have hP : va_P (dC, dI) vwCl [(r, .inl (cB, 32, .inl (bf (va_up f o (v % 256)))))] H := hP
  have hD : va_D A [(r, .inl (cB, 32, .inl (bf (va_up f o (v % 256)))))] := hD
  refine lv_aload_n hx hb dX3_intToLittleEndian_5 rfl (lv_at hl 1 rfl) ?_
  refine lv_iinc (v := (nI (o + 1))) (lv' := [(2, .int (nI (o + 1))), (0, .int (nI v)), (1, .ref r)]) hx hb dX3_intToLittleEndian_6 hl (k := 2) rfl (zi_i1 o) (by decide) rfl (fun ls hl => ?_)
  refine lv_iload_n hx hb dX3_intToLittleEndian_9 rfl (lv_at hl 0 rfl) ?_
  refine lv_iload_n hx hb dX3_intToLittleEndian_10 rfl (lv_at hl 1 rfl) ?_
  refine lv_bipush (v := (nI 8)) hx hb dX3_intToLittleEndian_11 (by decide) ?_
  refine lv_iushr (v := (nI (v / 256))) hx hb dX3_intToLittleEndian_13 (zi_ushr 8 (by decide) rfl hv) ?_
  refine lv_i2b (v := (nB (v / 256 % 256))) hx hb dX3_intToLittleEndian_14 ((nB_mod (v / 256)).symm) ?_
  refine zb_ast hx hb hK hP hD hS 0 0 rfl rfl (by omega) (by decide) dX3_intToLittleEndian_15 (fun H locs hP hD hS => ?_)
  have hP : va_P (dC, dI) vwCl [(r, .inl (cB, 32, .inl (bf (va_up (va_up f o (v % 256)) (o + 1) (v / 256 % 256)))))] H := hP
  have hD : va_D A [(r, .inl (cB, 32, .inl (bf (va_up (va_up f o (v % 256)) (o + 1) (v / 256 % 256)))))] := hD
  refine lv_aload_n hx hb dX3_intToLittleEndian_16 rfl (lv_at hl 2 rfl) ?_
  refine lv_iinc (v := (nI (o + 2))) (lv' := [(2, .int (nI (o + 2))), (0, .int (nI v)), (1, .ref r)]) hx hb dX3_intToLittleEndian_17 hl (k := 0) rfl (zi_i1 (o + 1)) (by decide) rfl (fun ls hl => ?_)
  refine lv_iload_n hx hb dX3_intToLittleEndian_20 rfl (lv_at hl 0 rfl) ?_
  refine lv_iload_n hx hb dX3_intToLittleEndian_21 rfl (lv_at hl 1 rfl) ?_
  refine lv_bipush (v := (nI 16)) hx hb dX3_intToLittleEndian_22 (by decide) ?_
  refine lv_iushr (v := (nI (v / 65536))) hx hb dX3_intToLittleEndian_24 (zi_ushr 16 (by decide) rfl hv) ?_
  refine lv_i2b (v := (nB (v / 65536 % 256))) hx hb dX3_intToLittleEndian_25 ((nB_mod (v / 65536)).symm) ?_
  refine zb_ast hx hb hK hP hD hS 0 0 rfl rfl (by omega) (by decide) dX3_intToLittleEndian_26 (fun H locs hP hD hS => ?_)
  have hP : va_P (dC, dI) vwCl [(r, .inl (cB, 32, .inl (bf (va_up (va_up (va_up f o (v % 256)) (o + 1) (v / 256 % 256)) (o + 2) (v / 65536 % 256)))))] H := hP
  have hD : va_D A [(r, .inl (cB, 32, .inl (bf (va_up (va_up (va_up f o (v % 256)) (o + 1) (v / 256 % 256)) (o + 2) (v / 65536 % 256)))))] := hD
  refine lv_aload_n hx hb dX3_intToLittleEndian_27 rfl (lv_at hl 2 rfl) ?_
  refine lv_iinc (v := (nI (o + 3))) (lv' := [(2, .int (nI (o + 3))), (0, .int (nI v)), (1, .ref r)]) hx hb dX3_intToLittleEndian_28 hl (k := 0) rfl (zi_i1 (o + 2)) (by decide) rfl (fun ls hl => ?_)
  refine lv_iload_n hx hb dX3_intToLittleEndian_31 rfl (lv_at hl 0 rfl) ?_
  refine lv_iload_n hx hb dX3_intToLittleEndian_32 rfl (lv_at hl 1 rfl) ?_
  refine lv_bipush (v := (nI 24)) hx hb dX3_intToLittleEndian_33 (by decide) ?_
  refine lv_iushr (v := (nI (v / 16777216))) hx hb dX3_intToLittleEndian_35 (zi_ushr 24 (by decide) rfl hv) ?_
  refine lv_i2b (v := (nB (v / 16777216 % 256))) hx hb dX3_intToLittleEndian_36 ((nB_mod (v / 16777216)).symm) ?_
  refine zb_ast hx hb hK hP hD hS 0 0 rfl rfl (by omega) (by decide) dX3_intToLittleEndian_37 (fun H locs hP hD hS => ?_)
  have hP : va_P (dC, dI) vwCl [(r, .inl (cB, 32, .inl (bf (va_up (va_up (va_up (va_up f o (v % 256)) (o + 1) (v / 256 % 256)) (o + 2) (v / 65536 % 256)) (o + 3) (v / 16777216 % 256)))))] H := hP
  have hD : va_D A [(r, .inl (cB, 32, .inl (bf (va_up (va_up (va_up (va_up f o (v % 256)) (o + 1) (v / 256 % 256)) (o + 2) (v / 65536 % 256)) (o + 3) (v / 16777216 % 256)))))] := hD
  exact hret _ _ _ _ _ rfl hP hS dX3_intToLittleEndian_38
set_option maxHeartbeats 4000000 in
set_option maxRecDepth 100000 in
/-- Pack.littleEndianToLong -/
theorem ctX3_le8 (l : Launch) (dC : Nat → ClassId) (dI : Nat → Nat → Nat) (r : Nat) (cB : ClassId) (f : Nat → Nat) (hf : ∀ j, f j < 256) (o : Nat) (ho : o + 8 ≤ 32) : CtL l yX3_littleEndianToLong cX3_littleEndianToLong 4 (rmN 1 22) dC dI [.ref r, .int (nI o)] [(r, .inl (cB, 32, .inl (bf f)))] [(cB, .byte)] (fun v => v = lN (le8 f o)) := by
  refine zm_l (by decide) (Nat.le_of_ble_eq_true rfl) ?_
  intro p e s m args below meth c A ls Q hx hb hml hown hts hA hK hP hD hS hl hret
  have hl : lv_has ls 4 [(0, .ref r), (1, .int (nI o))] := hl
  have h0 := le4_lt hf o
  have h1 := le4_lt hf (o + 4)
  refine lv_aload_n hx hb dX3_littleEndianToLong_0 rfl (lv_at hl 0 rfl) ?_
  refine lv_iload_n hx hb dX3_littleEndianToLong_1 rfl (lv_at hl 1 rfl) ?_
  refine zc_Si (As := [.ref r, .int (nI o)]) (rest := []) 2 (ctX3_le4 l dC dI r cB f hf o (by omega)) (lw_S q57 q58 q7 q59) (by decide +kernel) ⟨Nat.le_of_ble_eq_true rfl, Nat.le_of_ble_eq_true rfl⟩ ⟨rfl, rfl⟩ ⟨Nat.zero_le _, Nat.zero_le _⟩ hx hb hml hown hts hA hK hP hD hS [0] [0] rfl rfl rfl rfl hl.1 rfl (Nat.le_of_ble_eq_true rfl) dX3_littleEndianToLong_2 (fun v H locs hv hP hS => ?_)
  subst hv
  refine lv_istore_n (lv' := [(2, .int (nI (le4 f o))), (0, .ref r), (1, .int (nI o))]) hx hb dX3_littleEndianToLong_5 rfl hl (by decide) rfl (fun ls hl => ?_)
  refine lv_aload_n hx hb dX3_littleEndianToLong_6 rfl (lv_at hl 1 rfl) ?_
  refine lv_iload_n hx hb dX3_littleEndianToLong_7 rfl (lv_at hl 2 rfl) ?_
  refine lv_iconst (v := (nI 4)) hx hb dX3_littleEndianToLong_8 (by decide) ?_
  refine lv_iadd hx hb dX3_littleEndianToLong_9 ?_
  refine zt_i (v := (nI (o + 4))) (nI_add _ _) ?_
  refine zc_Si (As := [.ref r, .int (nI (o + 4))]) (rest := []) 2 (ctX3_le4 l dC dI r cB f hf (o + 4) (by omega)) (lw_S q57 q58 q7 q59) (by decide +kernel) ⟨Nat.le_of_ble_eq_true rfl, Nat.le_of_ble_eq_true rfl⟩ ⟨rfl, rfl⟩ ⟨Nat.zero_le _, Nat.zero_le _⟩ hx hb hml hown hts hA hK hP hD hS [0] [0] rfl rfl rfl rfl hl.1 rfl (Nat.le_of_ble_eq_true rfl) dX3_littleEndianToLong_10 (fun v H locs hv hP hS => ?_)
  subst hv
  refine lv_istore_n (lv' := [(3, .int (nI (le4 f (o + 4)))), (2, .int (nI (le4 f o))), (0, .ref r), (1, .int (nI o))]) hx hb dX3_littleEndianToLong_13 rfl hl (by decide) rfl (fun ls hl => ?_)
  refine lv_iload_n hx hb dX3_littleEndianToLong_14 rfl (lv_at hl 0 rfl) ?_
  refine lv_i2l (v := ((nI (le4 f (o + 4)))).toInt64) hx hb dX3_littleEndianToLong_15 (rfl) ?_
  refine lv_ldc2 (v := 4294967295) hx hb hown (hts _ q60) dX3_littleEndianToLong_16 ?_
  refine zt_l (v := (lN 4294967295)) (rfl) ?_
  refine lv_land hx hb dX3_littleEndianToLong_19 ?_
  refine zt_l (v := (lN (le4 f (o + 4)))) (zl_i2l h1) ?_
  refine lv_bipush (v := (nI 32)) hx hb dX3_littleEndianToLong_20 (by decide) ?_
  refine lv_lshl (v := (lN (le4 f (o + 4) * 4294967296))) hx hb dX3_littleEndianToLong_22 (zl_shl 32 (by decide) rfl) ?_
  refine lv_iload_n hx hb dX3_littleEndianToLong_23 rfl (lv_at hl 1 rfl) ?_
  refine lv_i2l (v := ((nI (le4 f o))).toInt64) hx hb dX3_littleEndianToLong_24 (rfl) ?_
  refine lv_ldc2 (v := 4294967295) hx hb hown (hts _ q60) dX3_littleEndianToLong_25 ?_
  refine zt_l (v := (lN 4294967295)) (rfl) ?_
  refine lv_land hx hb dX3_littleEndianToLong_28 ?_
  refine zt_l (v := (lN (le4 f o))) (zl_i2l h0) ?_
  refine lv_lor hx hb dX3_littleEndianToLong_29 ?_
  refine zt_l (v := (lN (le4 f (o + 4) * 4294967296 + le4 f o))) (zl_or 32 rfl h0 (by omega)) ?_
  exact hret _ _ _ _ _ rfl hP hS dX3_littleEndianToLong_30
end
section
theorem zn_hi {v : Nat} (hv : v < 18446744073709551616) : v / 4294967296 < 4294967296 := by omega
set_option maxHeartbeats 4000000 in
set_option maxRecDepth 100000 in
/-- Pack.longToLittleEndian -/
theorem ctX3_st8 (l : Launch) (dC : Nat → ClassId) (dI : Nat → Nat → Nat) (r : Nat) (cB : ClassId) (f : Nat → Nat) (v : Nat) (hv : v < 18446744073709551616) (o : Nat) (ho : o + 8 ≤ 32) : CtV l yX3_longToLittleEndian cX3_longToLittleEndian 4 (rmN 1 22) dC dI [.long (lN v), .ref r, .int (nI o)] [(r, .inl (cB, 32, .inl (bf f)))] [(cB, .byte)] (fun u : Nat → Nat => u = st8 f o v) (fun u => [(r, .inl (cB, 32, .inl (bf u)))]) := by
  refine zm_v (by decide) (Nat.le_of_ble_eq_true rfl) ?_
  intro p e s m args below meth c A ls Q hx hb hml hown hts hA hK hP hD hS hl hret
  have hl : lv_has ls 4 [(0, .long (lN v)), (2, .ref r), (3, .int (nI o))] := hl
  refine lv_lload_n hx hb dX3_longToLittleEndian_0 rfl (lv_at hl 0 rfl) ?_
  refine lv_ldc2 (v := 4294967295) hx hb hown (hts _ q60) dX3_longToLittleEndian_1 ?_
  refine zt_l (v := (lN 4294967295)) (rfl) ?_
  refine lv_land hx hb dX3_longToLittleEndian_4 ?_
  refine lv_l2i (v := (nI (v % 4294967296))) hx hb dX3_longToLittleEndian_5 (zl_l2i v) ?_
  refine lv_aload_n hx hb dX3_longToLittleEndian_6 rfl (lv_at hl 1 rfl) ?_
  refine lv_iload_n hx hb dX3_longToLittleEndian_7 rfl (lv_at hl 2 rfl) ?_
  refine zc_Sv (As := [.int (nI (v % 4294967296)), .ref r, .int (nI o)]) (rest := []) 3 (ctX3_st4 l dC dI r cB f (v % 4294967296) (Nat.mod_lt _ (by decide)) o (by omega)) (lw_S q70 q71 q7 q72) (by decide +kernel) ⟨Nat.le_of_ble_eq_true rfl, Nat.le_of_ble_eq_true rfl⟩ ⟨rfl, rfl⟩ ⟨Nat.zero_le _, Nat.zero_le _⟩ hx hb hml hown hts hA hK hP hD hS [0] [0] rfl rfl rfl rfl hl.1 rfl (Nat.le_of_ble_eq_true rfl) dX3_longToLittleEndian_8 (fun u H locs hu hP1 hk hS => ?_)
  subst hu
  have hP : va_P (dC, dI) vwCl [(r, .inl (cB, 32, .inl (bf (st4 f o (v % 4294967296)))))] H := zj_set (i0 := 0) (it := []) hP hD rfl hk hP1
  have hD : va_D A [(r, .inl (cB, 32, .inl (bf (st4 f o (v % 4294967296)))))] := hD.set (p := 0) rfl
  refine lv_lload_n hx hb dX3_longToLittleEndian_11 rfl (lv_at hl 0 rfl) ?_
  refine lv_bipush (v := (nI 32)) hx hb dX3_longToLittleEndian_12 (by decide) ?_
  refine lv_lushr (v := (lN (v / 4294967296))) hx hb dX3_longToLittleEndian_14 (zl_shr 32 (by decide) rfl hv) ?_
  refine lv_l2i (v := (nI (v / 4294967296))) hx hb dX3_longToLittleEndian_15 (lN_i _) ?_
  refine lv_aload_n hx hb dX3_longToLittleEndian_16 rfl (lv_at hl 1 rfl) ?_
  refine lv_iload_n hx hb dX3_longToLittleEndian_17 rfl (lv_at hl 2 rfl) ?_
  refine lv_iconst (v := (nI 4)) hx hb dX3_longToLittleEndian_18 (by decide) ?_
  refine lv_iadd hx hb dX3_longToLittleEndian_19 ?_
  refine zt_i (v := (nI (o + 4))) (nI_add _ _) ?_
  refine zc_Sv (As := [.int (nI (v / 4294967296)), .ref r, .int (nI (o + 4))]) (rest := []) 3 (ctX3_st4 l dC dI r cB (st4 f o (v % 4294967296)) (v / 4294967296) (zn_hi hv) (o + 4) (by omega)) (lw_S q70 q71 q7 q72) (by decide +kernel) ⟨Nat.le_of_ble_eq_true rfl, Nat.le_of_ble_eq_true rfl⟩ ⟨rfl, rfl⟩ ⟨Nat.zero_le _, Nat.zero_le _⟩ hx hb hml hown hts hA hK hP hD hS [0] [0] rfl rfl rfl rfl hl.1 rfl (Nat.le_of_ble_eq_true rfl) dX3_longToLittleEndian_20 (fun u H locs hu hP1 hk hS => ?_)
  subst hu
  have hP : va_P (dC, dI) vwCl [(r, .inl (cB, 32, .inl (bf (st4 (st4 f o (v % 4294967296)) (o + 4) (v / 4294967296)))))] H := zj_set (i0 := 0) (it := []) hP hD rfl hk hP1
  have hD : va_D A [(r, .inl (cB, 32, .inl (bf (st4 (st4 f o (v % 4294967296)) (o + 4) (v / 4294967296)))))] := hD.set (p := 0) rfl
  exact hret _ _ _ _ _ (st8_eq f o v) hP hS dX3_longToLittleEndian_23
end
section
set_option maxHeartbeats 4000000 in
set_option maxRecDepth 100000 in
/-- GF256AES.mulFx8 -/
theorem ctX4_fx8 (l : Launch) (dC : Nat → ClassId) (dI : Nat → Nat → Nat) (s0 : Nat) (hs : s0 < 256) (v : Nat) (hv : v < 18446744073709551616) : CtL l yX4_mulFx8 cX4_mulFx8 8 (rmN 0 0) dC dI [.int (nI s0), .long (lN v)] [] [] (fun r => r = lN (fx8 s0 v)) := by
  refine zm_l (by decide) (Nat.le_of_ble_eq_true rfl) ?_
  intro p e s m args below meth c A ls Q hx hb hml hown hts hA hK hP hD hS hl hret
  have hl : lv_has ls 8 [(0, .int (nI s0)), (1, .long (lN v))] := hl
  have loop : ∀ (n i : Nat) (ls : Array Slot), i + n = 7 → lv_has ls 8 [(5, .int (nI (i + 1))), (3, .long (lN (fa s0 v i))), (1, .long (lN (xk v i))), (0, .int (nI s0))] → W p l e (rmN 0 0) s m args below meth c s.heap [] 0 0 Q (F0 m 17 ls []) := by
    intro n
    induction n with
    | zero =>
      intro i ls hi hl
      have hi : i = 7 := by omega
      subst hi
      refine lv_iload hx hb dX4_mulFx8_17 (lv_at hl 0 rfl) ?_
      refine lv_bipush (v := (nI 8)) hx hb dX4_mulFx8_19 (by decide) ?_
      refine lv_icmp_ge (tgt := 68) hx hb dX4_mulFx8_21 (by decide) (fun cc => ?_) (fun cc => ?_)
      · skip
        refine lv_lload_n hx hb dX4_mulFx8_68 rfl (lv_at hl 1 rfl) ?_
        exact hret _ _ _ _ _ rfl hP hS dX4_mulFx8_69
      · exact absurd ((nI_leI (by decide) (by decide)).mpr (by decide)) cc
    | succ n ih =>
      intro i ls hi hl
      refine lv_iload hx hb dX4_mulFx8_17 (lv_at hl 0 rfl) ?_
      refine lv_bipush (v := (nI 8)) hx hb dX4_mulFx8_19 (by decide) ?_
      refine lv_icmp_ge (tgt := 68) hx hb dX4_mulFx8_21 (by decide) (fun cc => ?_) (fun cc => ?_)
      · exact absurd ((nI_leI (by decide) (by omega)).mp cc) (by omega)
      · have hX := xk_lt hv i
        refine lv_lload_n hx hb dX4_mulFx8_24 rfl (lv_at hl 2 rfl) ?_
        refine lv_bipush (v := (nI 7)) hx hb dX4_mulFx8_25 (by decide) ?_
        refine lv_lushr (v := (lN (xk v i / 128))) hx hb dX4_mulFx8_27 (zl_shr 7 (by decide) rfl hX) ?_
        refine lv_ldc2 (v := 72340172838076673) hx hb hown (hts _ q64) dX4_mulFx8_28 ?_
        refine zt_l (v := (lN 72340172838076673)) (rfl) ?_
        refine lv_land hx hb dX4_mulFx8_31 ?_
        refine zt_l (v := (lN (xk v i / 128 &&& 72340172838076673))) (zl_and _ _) ?_
        refine lv_lstore (lv' := [(6, .long (lN (xk v i / 128 &&& 72340172838076673))), (5, .int (nI (i + 1))), (3, .long (lN (fa s0 v i))), (1, .long (lN (xk v i))), (0, .int (nI s0))]) hx hb dX4_mulFx8_32 hl (by decide) rfl (fun ls hl => ?_)
        refine lv_lload_n hx hb dX4_mulFx8_34 rfl (lv_at hl 3 rfl) ?_
        refine lv_iconst (v := (nI 1)) hx hb dX4_mulFx8_35 (by decide) ?_
        refine lv_lshl (v := (lN (xk v i * 2))) hx hb dX4_mulFx8_36 (zl_shl 1 (by decide) rfl) ?_
        refine lv_ldc2 (v := (-72340172838076674)) hx hb hown (hts _ q65) dX4_mulFx8_37 ?_
        refine zt_l (v := (lN 18374403900871474942)) (by decide +kernel) ?_
        refine lv_land hx hb dX4_mulFx8_40 ?_
        refine zt_l (v := (lN (xk v i * 2 &&& 18374403900871474942))) (zl_and _ _) ?_
        refine lv_lload hx hb dX4_mulFx8_41 (lv_at hl 0 rfl) ?_
        refine lv_ldc2 (v := 27) hx hb hown (hts _ q66) dX4_mulFx8_43 ?_
        refine zt_l (v := (lN 27)) (rfl) ?_
        refine lv_lmul hx hb dX4_mulFx8_46 ?_
        refine zt_l (v := (lN ((xk v i / 128 &&& 72340172838076673) * 27))) (lN_mul _ _) ?_
        refine lv_lxor hx hb dX4_mulFx8_47 ?_
        refine zt_l (v := (lN (xk v (i + 1)))) (lN_xor _ _) ?_
        refine lv_lstore_n (lv' := [(1, .long (lN (xk v (i + 1)))), (6, .long (lN (xk v i / 128 &&& 72340172838076673))), (5, .int (nI (i + 1))), (3, .long (lN (fa s0 v i))), (0, .int (nI s0))]) hx hb dX4_mulFx8_48 rfl hl (by decide) rfl (fun ls hl => ?_)
        refine lv_lload_n hx hb dX4_mulFx8_49 rfl (lv_at hl 3 rfl) ?_
        refine lv_lload_n hx hb dX4_mulFx8_50 rfl (lv_at hl 0 rfl) ?_
        refine lv_iload_n hx hb dX4_mulFx8_51 rfl (lv_at hl 4 rfl) ?_
        refine lv_iload hx hb dX4_mulFx8_52 (lv_at hl 2 rfl) ?_
        refine lv_iushr (v := (nI (s0 / 2 ^ (i + 1)))) hx hb dX4_mulFx8_54 (zi_ushr (i + 1) (by omega) rfl (by omega)) ?_
        refine lv_iconst (v := (nI 1)) hx hb dX4_mulFx8_55 (by decide) ?_
        refine lv_iand hx hb dX4_mulFx8_56 ?_
        refine zt_i (v := (nI (s0 / 2 ^ (i + 1) % 2))) (zi_1 _) ?_
        refine lv_i2l (v := ((nI (s0 / 2 ^ (i + 1) % 2))).toInt64) hx hb dX4_mulFx8_57 (rfl) ?_
        refine lv_lneg hx hb dX4_mulFx8_58 ?_
        refine zt_l (v := (mk (s0 / 2 ^ (i + 1) % 2))) (mk_neg (Nat.mod_lt _ (by decide))) ?_
        refine lv_land hx hb dX4_mulFx8_59 ?_
        refine zt_l (v := (lN (if s0 / 2 ^ (i + 1) % 2 = 1 then xk v (i + 1) else 0))) (mk_and _ _) ?_
        refine lv_lxor hx hb dX4_mulFx8_60 ?_
        refine zt_l (v := (lN (fa s0 v (i + 1)))) (lN_xor _ _) ?_
        refine lv_lstore_n (lv' := [(3, .long (lN (fa s0 v (i + 1)))), (1, .long (lN (xk v (i + 1)))), (6, .long (lN (xk v i / 128 &&& 72340172838076673))), (5, .int (nI (i + 1))), (0, .int (nI s0))]) hx hb dX4_mulFx8_61 rfl hl (by decide) rfl (fun ls hl => ?_)
        refine lv_iinc (v := (nI (i + 1 + 1))) (lv' := [(5, .int (nI (i + 1 + 1))), (3, .long (lN (fa s0 v (i + 1)))), (1, .long (lN (xk v (i + 1)))), (6, .long (lN (xk v i / 128 &&& 72340172838076673))), (0, .int (nI s0))]) hx hb dX4_mulFx8_62 hl (k := 3) rfl (zi_i1 _) (by decide) rfl (fun ls hl => ?_)
        refine lv_goto (tgt := 17) hx hb dX4_mulFx8_65 (by decide) ?_
        exact ih (i + 1) ls (by omega) (lv_sub hl [0, 1, 2, 4] rfl)
  refine lv_iload_n hx hb dX4_mulFx8_0 rfl (lv_at hl 0 rfl) ?_
  refine lv_sipush (v := (nI 255)) hx hb dX4_mulFx8_1 (by decide) ?_
  refine lv_iand hx hb dX4_mulFx8_4 ?_
  refine zt_i (v := (nI s0)) (by rw [zi_255, Nat.mod_eq_of_lt hs]) ?_
  refine lv_istore_n (lv' := [(0, .int (nI s0)), (1, .long (lN v))]) hx hb dX4_mulFx8_5 rfl hl (by decide) rfl (fun ls hl => ?_)
  refine lv_lload_n hx hb dX4_mulFx8_6 rfl (lv_at hl 1 rfl) ?_
  refine lv_iload_n hx hb dX4_mulFx8_7 rfl (lv_at hl 0 rfl) ?_
  refine lv_iconst (v := (nI 1)) hx hb dX4_mulFx8_8 (by decide) ?_
  refine lv_iand hx hb dX4_mulFx8_9 ?_
  refine zt_i (v := (nI (s0 % 2))) (zi_1 _) ?_
  refine lv_i2l (v := ((nI (s0 % 2))).toInt64) hx hb dX4_mulFx8_10 (rfl) ?_
  refine lv_lneg hx hb dX4_mulFx8_11 ?_
  refine zt_l (v := (mk (s0 % 2))) (mk_neg (Nat.mod_lt _ (by decide))) ?_
  refine lv_land hx hb dX4_mulFx8_12 ?_
  refine zt_l (v := (lN (fa s0 v 0))) (mk_and _ _) ?_
  refine lv_lstore_n (lv' := [(3, .long (lN (fa s0 v 0))), (0, .int (nI s0)), (1, .long (lN v))]) hx hb dX4_mulFx8_13 rfl hl (by decide) rfl (fun ls hl => ?_)
  refine lv_iconst (v := (nI 1)) hx hb dX4_mulFx8_14 (by decide) ?_
  refine lv_istore (lv' := [(5, .int (nI 1)), (3, .long (lN (fa s0 v 0))), (0, .int (nI s0)), (1, .long (lN v))]) hx hb dX4_mulFx8_15 hl (by decide) rfl (fun ls hl => ?_)
  exact loop 7 0 ls rfl (lv_sub hl [0, 1, 3, 2] rfl)
end
section
set_option maxHeartbeats 4000000 in
set_option maxRecDepth 100000 in
/-- GF16.mulAddStep16 -/
theorem ctX5_ma4 (l : Launch) (dC : Nat → ClassId) (dI : Nat → Nat → Nat) (v : Nat) (hv : v < 18446744073709551616) (b0 b1 b2 b3 : Nat) : CtL l yX5_mulAddStep16 cX5_mulAddStep16 14 (rmN 0 0) dC dI [.long (lN v), .long (mk b0), .long (mk b1), .long (mk b2), .long (mk b3)] [] [] (fun r => r = lN (ma4 b0 b1 b2 b3 v)) := by
  refine zm_l (by decide) (Nat.le_of_ble_eq_true rfl) ?_
  intro p e s m args below meth c A ls Q hx hb hml hown hts hA hK hP hD hS hl hret
  have hl : lv_has ls 14 [(0, .long (lN v)), (2, .long (mk b0)), (4, .long (mk b1)), (6, .long (mk b2)), (8, .long (mk b3))] := hl
  have hb8 : ∀ x : Nat, (x &&& 9838263505978427528) < 18446744073709551616 := fun x => Nat.lt_of_le_of_lt Nat.and_le_right (by decide)
  refine lv_lload_n hx hb dX5_mulAddStep16_0 rfl (lv_at hl 0 rfl) ?_
  refine lv_lload_n hx hb dX5_mulAddStep16_1 rfl (lv_at hl 1 rfl) ?_
  refine lv_land hx hb dX5_mulAddStep16_2 ?_
  refine zt_l (v := (lN (if b0 = 1 then v else 0))) (mk_and _ _) ?_
  refine lv_lstore (lv' := [(10, .long (lN (if b0 = 1 then v else 0))), (0, .long (lN v)), (2, .long (mk b0)), (4, .long (mk b1)), (6, .long (mk b2)), (8, .long (mk b3))]) hx hb dX5_mulAddStep16_3 hl (by decide) rfl (fun ls hl => ?_)
  refine lv_lload_n hx hb dX5_mulAddStep16_5 rfl (lv_at hl 1 rfl) ?_
  refine lv_ldc2 (v := (-8608480567731124088)) hx hb hown (hts _ q103) dX5_mulAddStep16_6 ?_
  refine zt_l (v := (lN 9838263505978427528)) (by decide +kernel) ?_
  refine lv_land hx hb dX5_mulAddStep16_9 ?_
  refine zt_l (v := (lN (v &&& 9838263505978427528))) (zl_and _ _) ?_
  refine lv_iconst (v := (nI 3)) hx hb dX5_mulAddStep16_10 (by decide) ?_
  refine lv_lushr (v := (lN (yh v))) hx hb dX5_mulAddStep16_11 (zl_shr 3 (by decide) rfl (hb8 _)) ?_
  refine lv_lstore (lv' := [(12, .long (lN (yh v))), (10, .long (lN (if b0 = 1 then v else 0))), (0, .long (lN v)), (2, .long (mk b0)), (4, .long (mk b1)), (6, .long (mk b2)), (8, .long (mk b3))]) hx hb dX5_mulAddStep16_12 hl (by decide) rfl (fun ls hl => ?_)
  refine lv_lload_n hx hb dX5_mulAddStep16_14 rfl (lv_at hl 2 rfl) ?_
  refine lv_ldc2 (v := 8608480567731124087) hx hb hown (hts _ q104) dX5_mulAddStep16_15 ?_
  refine zt_l (v := (lN 8608480567731124087)) (rfl) ?_
  refine lv_land hx hb dX5_mulAddStep16_18 ?_
  refine zt_l (v := (lN (v &&& 8608480567731124087))) (zl_and _ _) ?_
  refine lv_iconst (v := (nI 1)) hx hb dX5_mulAddStep16_19 (by decide) ?_
  refine lv_lshl (v := (lN ((v &&& 8608480567731124087) * 2))) hx hb dX5_mulAddStep16_20 (zl_shl 1 (by decide) rfl) ?_
  refine lv_lload hx hb dX5_mulAddStep16_21 (lv_at hl 0 rfl) ?_
  refine lv_lload hx hb dX5_mulAddStep16_23 (lv_at hl 0 rfl) ?_
  refine lv_iconst (v := (nI 1)) hx hb dX5_mulAddStep16_25 (by decide) ?_
  refine lv_lshl (v := (lN (yh v * 2))) hx hb dX5_mulAddStep16_26 (zl_shl 1 (by decide) rfl) ?_
  refine lv_ladd hx hb dX5_mulAddStep16_27 ?_
  refine zt_l (v := (lN (yh v + yh v * 2))) (lN_add _ _) ?_
  refine lv_lxor hx hb dX5_mulAddStep16_28 ?_
  refine zt_l (v := (lN (ys v))) (lN_xor _ _) ?_
  refine lv_lstore_n (lv' := [(0, .long (lN (ys v))), (12, .long (lN (yh v))), (10, .long (lN (if b0 = 1 then v else 0))), (2, .long (mk b0)), (4, .long (mk b1)), (6, .long (mk b2)), (8, .long (mk b3))]) hx hb dX5_mulAddStep16_29 rfl hl (by decide) rfl (fun ls hl => ?_)
  refine lv_lload hx hb dX5_mulAddStep16_30 (lv_at hl 2 rfl) ?_
  refine lv_lload_n hx hb dX5_mulAddStep16_32 rfl (lv_at hl 0 rfl) ?_
  refine lv_lload hx hb dX5_mulAddStep16_33 (lv_at hl 4 rfl) ?_
  refine lv_land hx hb dX5_mulAddStep16_35 ?_
  refine zt_l (v := (lN (if b1 = 1 then (ys v) else 0))) (mk_and _ _) ?_
  refine lv_lxor hx hb dX5_mulAddStep16_36 ?_
  refine zt_l (v := (lN ((if b0 = 1 then v else 0) ^^^ (if b1 = 1 then (ys v) else 0)))) (lN_xor _ _) ?_
  refine lv_lstore (lv' := [(10, .long (lN ((if b0 = 1 then v else 0) ^^^ (if b1 = 1 then (ys v) else 0)))), (0, .long (lN (ys v))), (12, .long (lN (yh v))), (2, .long (mk b0)), (4, .long (mk b1)), (6, .long (mk b2)), (8, .long (mk b3))]) hx hb dX5_mulAddStep16_37 hl (by decide) rfl (fun ls hl => ?_)
  refine lv_lload_n hx hb dX5_mulAddStep16_39 rfl (lv_at hl 1 rfl) ?_
  refine lv_ldc2 (v := (-8608480567731124088)) hx hb hown (hts _ q103) dX5_mulAddStep16_40 ?_
  refine zt_l (v := (lN 9838263505978427528)) (by decide +kernel) ?_
  refine lv_land hx hb dX5_mulAddStep16_43 ?_
  refine zt_l (v := (lN ((ys v) &&& 9838263505978427528))) (zl_and _ _) ?_
  refine lv_iconst (v := (nI 3)) hx hb dX5_mulAddStep16_44 (by decide) ?_
  refine lv_lushr (v := (lN (yh (ys v)))) hx hb dX5_mulAddStep16_45 (zl_shr 3 (by decide) rfl (hb8 _)) ?_
  refine lv_lstore (lv' := [(12, .long (lN (yh (ys v)))), (10, .long (lN ((if b0 = 1 then v else 0) ^^^ (if b1 = 1 then (ys v) else 0)))), (0, .long (lN (ys v))), (2, .long (mk b0)), (4, .long (mk b1)), (6, .long (mk b2)), (8, .long (mk b3))]) hx hb dX5_mulAddStep16_46 hl (by decide) rfl (fun ls hl => ?_)
  refine lv_lload_n hx hb dX5_mulAddStep16_48 rfl (lv_at hl 2 rfl) ?_
  refine lv_ldc2 (v := 8608480567731124087) hx hb hown (hts _ q104) dX5_mulAddStep16_49 ?_
  refine zt_l (v := (lN 8608480567731124087)) (rfl) ?_
  refine lv_land hx hb dX5_mulAddStep16_52 ?_
  refine zt_l (v := (lN ((ys v) &&& 8608480567731124087))) (zl_and _ _) ?_
  refine lv_iconst (v := (nI 1)) hx hb dX5_mulAddStep16_53 (by decide) ?_
  refine lv_lshl (v := (lN (((ys v) &&& 8608480567731124087) * 2))) hx hb dX5_mulAddStep16_54 (zl_shl 1 (by decide) rfl) ?_
  refine lv_lload hx hb dX5_mulAddStep16_55 (lv_at hl 0 rfl) ?_
  refine lv_lload hx hb dX5_mulAddStep16_57 (lv_at hl 0 rfl) ?_
  refine lv_iconst (v := (nI 1)) hx hb dX5_mulAddStep16_59 (by decide) ?_
  refine lv_lshl (v := (lN (yh (ys v) * 2))) hx hb dX5_mulAddStep16_60 (zl_shl 1 (by decide) rfl) ?_
  refine lv_ladd hx hb dX5_mulAddStep16_61 ?_
  refine zt_l (v := (lN (yh (ys v) + yh (ys v) * 2))) (lN_add _ _) ?_
  refine lv_lxor hx hb dX5_mulAddStep16_62 ?_
  refine zt_l (v := (lN (ys (ys v)))) (lN_xor _ _) ?_
  refine lv_lstore_n (lv' := [(0, .long (lN (ys (ys v)))), (12, .long (lN (yh (ys v)))), (10, .long (lN ((if b0 = 1 then v else 0) ^^^ (if b1 = 1 then (ys v) else 0)))), (2, .long (mk b0)), (4, .long (mk b1)), (6, .long (mk b2)), (8, .long (mk b3))]) hx hb dX5_mulAddStep16_63 rfl hl (by decide) rfl (fun ls hl => ?_)
  refine lv_lload hx hb dX5_mulAddStep16_64 (lv_at hl 2 rfl) ?_
  refine lv_lload_n hx hb dX5_mulAddStep16_66 rfl (lv_at hl 0 rfl) ?_
  refine lv_lload hx hb dX5_mulAddStep16_67 (lv_at hl 5 rfl) ?_
  refine lv_land hx hb dX5_mulAddStep16_69 ?_
  refine zt_l (v := (lN (if b2 = 1 then (ys (ys v)) else 0))) (mk_and _ _) ?_
  refine lv_lxor hx hb dX5_mulAddStep16_70 ?_
  refine zt_l (v := (lN (((if b0 = 1 then v else 0) ^^^ (if b1 = 1 then (ys v) else 0)) ^^^ (if b2 = 1 then (ys (ys v)) else 0)))) (lN_xor _ _) ?_
  refine lv_lstore (lv' := [(10, .long (lN (((if b0 = 1 then v else 0) ^^^ (if b1 = 1 then (ys v) else 0)) ^^^ (if b2 = 1 then (ys (ys v)) else 0)))), (0, .long (lN (ys (ys v)))), (12, .long (lN (yh (ys v)))), (2, .long (mk b0)), (4, .long (mk b1)), (6, .long (mk b2)), (8, .long (mk b3))]) hx hb dX5_mulAddStep16_71 hl (by decide) rfl (fun ls hl => ?_)
  refine lv_lload_n hx hb dX5_mulAddStep16_73 rfl (lv_at hl 1 rfl) ?_
  refine lv_ldc2 (v := (-8608480567731124088)) hx hb hown (hts _ q103) dX5_mulAddStep16_74 ?_
  refine zt_l (v := (lN 9838263505978427528)) (by decide +kernel) ?_
  refine lv_land hx hb dX5_mulAddStep16_77 ?_
  refine zt_l (v := (lN ((ys (ys v)) &&& 9838263505978427528))) (zl_and _ _) ?_
  refine lv_iconst (v := (nI 3)) hx hb dX5_mulAddStep16_78 (by decide) ?_
  refine lv_lushr (v := (lN (yh (ys (ys v))))) hx hb dX5_mulAddStep16_79 (zl_shr 3 (by decide) rfl (hb8 _)) ?_
  refine lv_lstore (lv' := [(12, .long (lN (yh (ys (ys v))))), (10, .long (lN (((if b0 = 1 then v else 0) ^^^ (if b1 = 1 then (ys v) else 0)) ^^^ (if b2 = 1 then (ys (ys v)) else 0)))), (0, .long (lN (ys (ys v)))), (2, .long (mk b0)), (4, .long (mk b1)), (6, .long (mk b2)), (8, .long (mk b3))]) hx hb dX5_mulAddStep16_80 hl (by decide) rfl (fun ls hl => ?_)
  refine lv_lload_n hx hb dX5_mulAddStep16_82 rfl (lv_at hl 2 rfl) ?_
  refine lv_ldc2 (v := 8608480567731124087) hx hb hown (hts _ q104) dX5_mulAddStep16_83 ?_
  refine zt_l (v := (lN 8608480567731124087)) (rfl) ?_
  refine lv_land hx hb dX5_mulAddStep16_86 ?_
  refine zt_l (v := (lN ((ys (ys v)) &&& 8608480567731124087))) (zl_and _ _) ?_
  refine lv_iconst (v := (nI 1)) hx hb dX5_mulAddStep16_87 (by decide) ?_
  refine lv_lshl (v := (lN (((ys (ys v)) &&& 8608480567731124087) * 2))) hx hb dX5_mulAddStep16_88 (zl_shl 1 (by decide) rfl) ?_
  refine lv_lload hx hb dX5_mulAddStep16_89 (lv_at hl 0 rfl) ?_
  refine lv_lload hx hb dX5_mulAddStep16_91 (lv_at hl 0 rfl) ?_
  refine lv_iconst (v := (nI 1)) hx hb dX5_mulAddStep16_93 (by decide) ?_
  refine lv_lshl (v := (lN (yh (ys (ys v)) * 2))) hx hb dX5_mulAddStep16_94 (zl_shl 1 (by decide) rfl) ?_
  refine lv_ladd hx hb dX5_mulAddStep16_95 ?_
  refine zt_l (v := (lN (yh (ys (ys v)) + yh (ys (ys v)) * 2))) (lN_add _ _) ?_
  refine lv_lxor hx hb dX5_mulAddStep16_96 ?_
  refine zt_l (v := (lN (ys (ys (ys v))))) (lN_xor _ _) ?_
  refine lv_lstore_n (lv' := [(0, .long (lN (ys (ys (ys v))))), (12, .long (lN (yh (ys (ys v))))), (10, .long (lN (((if b0 = 1 then v else 0) ^^^ (if b1 = 1 then (ys v) else 0)) ^^^ (if b2 = 1 then (ys (ys v)) else 0)))), (2, .long (mk b0)), (4, .long (mk b1)), (6, .long (mk b2)), (8, .long (mk b3))]) hx hb dX5_mulAddStep16_97 rfl hl (by decide) rfl (fun ls hl => ?_)
  refine lv_lload hx hb dX5_mulAddStep16_98 (lv_at hl 2 rfl) ?_
  refine lv_lload_n hx hb dX5_mulAddStep16_100 rfl (lv_at hl 0 rfl) ?_
  refine lv_lload hx hb dX5_mulAddStep16_101 (lv_at hl 6 rfl) ?_
  refine lv_land hx hb dX5_mulAddStep16_103 ?_
  refine zt_l (v := (lN (if b3 = 1 then (ys (ys (ys v))) else 0))) (mk_and _ _) ?_
  refine lv_lxor hx hb dX5_mulAddStep16_104 ?_
  refine zt_l (v := (lN ((((if b0 = 1 then v else 0) ^^^ (if b1 = 1 then (ys v) else 0)) ^^^ (if b2 = 1 then (ys (ys v)) else 0)) ^^^ (if b3 = 1 then (ys (ys (ys v))) else 0)))) (lN_xor _ _) ?_
  refine lv_lstore (lv' := [(10, .long (lN ((((if b0 = 1 then v else 0) ^^^ (if b1 = 1 then (ys v) else 0)) ^^^ (if b2 = 1 then (ys (ys v)) else 0)) ^^^ (if b3 = 1 then (ys (ys (ys v))) else 0)))), (0, .long (lN (ys (ys (ys v))))), (12, .long (lN (yh (ys (ys v))))), (2, .long (mk b0)), (4, .long (mk b1)), (6, .long (mk b2)), (8, .long (mk b3))]) hx hb dX5_mulAddStep16_105 hl (by decide) rfl (fun ls hl => ?_)
  refine lv_lload hx hb dX5_mulAddStep16_107 (lv_at hl 0 rfl) ?_
  exact hret _ _ _ _ _ rfl hP hS dX5_mulAddStep16_109
theorem g4_tab : ∀ b, b < 16 → ∀ a, a < 16 → (((((((((nI a) &&& (nI 1)) * (nI b)) ^^^ (((nI a) &&& (nI 2)) * (nI b))) ^^^ (((nI a) &&& (nI 4)) * (nI b))) ^^^ (((nI a) &&& (nI 8)) * (nI b))) ^^^ ((((((((nI a) &&& (nI 1)) * (nI b)) ^^^ (((nI a) &&& (nI 2)) * (nI b))) ^^^ (((nI a) &&& (nI 4)) * (nI b))) ^^^ (((nI a) &&& (nI 8)) * (nI b))) &&& (nI 240)) >>> ((nI 4) &&& 31))) ^^^ ((((((((nI a) &&& (nI 1)) * (nI b)) ^^^ (((nI a) &&& (nI 2)) * (nI b))) ^^^ (((nI a) &&& (nI 4)) * (nI b))) ^^^ (((nI a) &&& (nI 8)) * (nI b))) &&& (nI 240)) >>> ((nI 3) &&& 31))) &&& (nI 15)) = nI (g4 b a) := by decide +kernel
set_option maxHeartbeats 4000000 in
set_option maxRecDepth 100000 in
/-- GF16.mul -/
theorem ctX5_mul (l : Launch) (dC : Nat → ClassId) (dI : Nat → Nat → Nat) (a b : Nat) (ha : a < 16) (hb4 : b < 16) : CtI l yX5_mul cX5_mul 4 (rmN 0 0) dC dI [.int (nI a), .int (nI b)] [] [] (fun r => r = nI (g4 b a)) := by
  refine zm_i (by decide) (Nat.le_of_ble_eq_true rfl) ?_
  intro p e s m args below meth c A ls Q hx hb hml hown hts hA hK hP hD hS hl hret
  have hl : lv_has ls 4 [(0, .int (nI a)), (1, .int (nI b))] := hl
  refine lv_iload_n hx hb dX5_mul_0 rfl (lv_at hl 0 rfl) ?_
  refine lv_iconst (v := (nI 1)) hx hb dX5_mul_1 (by decide) ?_
  refine lv_iand hx hb dX5_mul_2 ?_
  refine lv_iload_n hx hb dX5_mul_3 rfl (lv_at hl 1 rfl) ?_
  refine lv_imul hx hb dX5_mul_4 ?_
  refine lv_istore_n (lv' := [(2, .int (((nI a) &&& (nI 1)) * (nI b))), (0, .int (nI a)), (1, .int (nI b))]) hx hb dX5_mul_5 rfl hl (by decide) rfl (fun ls hl => ?_)
  refine lv_iload_n hx hb dX5_mul_6 rfl (lv_at hl 0 rfl) ?_
  refine lv_iload_n hx hb dX5_mul_7 rfl (lv_at hl 1 rfl) ?_
  refine lv_iconst (v := (nI 2)) hx hb dX5_mul_8 (by decide) ?_
  refine lv_iand hx hb dX5_mul_9 ?_
  refine lv_iload_n hx hb dX5_mul_10 rfl (lv_at hl 2 rfl) ?_
  refine lv_imul hx hb dX5_mul_11 ?_
  refine lv_ixor hx hb dX5_mul_12 ?_
  refine lv_istore_n (lv' := [(2, .int ((((nI a) &&& (nI 1)) * (nI b)) ^^^ (((nI a) &&& (nI 2)) * (nI b)))), (0, .int (nI a)), (1, .int (nI b))]) hx hb dX5_mul_13 rfl hl (by decide) rfl (fun ls hl => ?_)
  refine lv_iload_n hx hb dX5_mul_14 rfl (lv_at hl 0 rfl) ?_
  refine lv_iload_n hx hb dX5_mul_15 rfl (lv_at hl 1 rfl) ?_
  refine lv_iconst (v := (nI 4)) hx hb dX5_mul_16 (by decide) ?_
  refine lv_iand hx hb dX5_mul_17 ?_
  refine lv_iload_n hx hb dX5_mul_18 rfl (lv_at hl 2 rfl) ?_
  refine lv_imul hx hb dX5_mul_19 ?_
  refine lv_ixor hx hb dX5_mul_20 ?_
  refine lv_istore_n (lv' := [(2, .int (((((nI a) &&& (nI 1)) * (nI b)) ^^^ (((nI a) &&& (nI 2)) * (nI b))) ^^^ (((nI a) &&& (nI 4)) * (nI b)))), (0, .int (nI a)), (1, .int (nI b))]) hx hb dX5_mul_21 rfl hl (by decide) rfl (fun ls hl => ?_)
  refine lv_iload_n hx hb dX5_mul_22 rfl (lv_at hl 0 rfl) ?_
  refine lv_iload_n hx hb dX5_mul_23 rfl (lv_at hl 1 rfl) ?_
  refine lv_bipush (v := (nI 8)) hx hb dX5_mul_24 (by decide) ?_
  refine lv_iand hx hb dX5_mul_26 ?_
  refine lv_iload_n hx hb dX5_mul_27 rfl (lv_at hl 2 rfl) ?_
  refine lv_imul hx hb dX5_mul_28 ?_
  refine lv_ixor hx hb dX5_mul_29 ?_
  refine lv_istore_n (lv' := [(2, .int ((((((nI a) &&& (nI 1)) * (nI b)) ^^^ (((nI a) &&& (nI 2)) * (nI b))) ^^^ (((nI a) &&& (nI 4)) * (nI b))) ^^^ (((nI a) &&& (nI 8)) * (nI b)))), (0, .int (nI a)), (1, .int (nI b))]) hx hb dX5_mul_30 rfl hl (by decide) rfl (fun ls hl => ?_)
  refine lv_iload_n hx hb dX5_mul_31 rfl (lv_at hl 0 rfl) ?_
  refine lv_sipush (v := (nI 240)) hx hb dX5_mul_32 (by decide) ?_
  refine lv_iand hx hb dX5_mul_35 ?_
  refine lv_istore_n (lv' := [(3, .int (((((((nI a) &&& (nI 1)) * (nI b)) ^^^ (((nI a) &&& (nI 2)) * (nI b))) ^^^ (((nI a) &&& (nI 4)) * (nI b))) ^^^ (((nI a) &&& (nI 8)) * (nI b))) &&& (nI 240))), (2, .int ((((((nI a) &&& (nI 1)) * (nI b)) ^^^ (((nI a) &&& (nI 2)) * (nI b))) ^^^ (((nI a) &&& (nI 4)) * (nI b))) ^^^ (((nI a) &&& (nI 8)) * (nI b)))), (0, .int (nI a)), (1, .int (nI b))]) hx hb dX5_mul_36 rfl hl (by decide) rfl (fun ls hl => ?_)
  refine lv_iload_n hx hb dX5_mul_37 rfl (lv_at hl 1 rfl) ?_
  refine lv_iload_n hx hb dX5_mul_38 rfl (lv_at hl 0 rfl) ?_
  refine lv_iconst (v := (nI 4)) hx hb dX5_mul_39 (by decide) ?_
  refine lv_ishr hx hb dX5_mul_40 ?_
  refine lv_ixor hx hb dX5_mul_41 ?_
  refine lv_iload_n hx hb dX5_mul_42 rfl (lv_at hl 0 rfl) ?_
  refine lv_iconst (v := (nI 3)) hx hb dX5_mul_43 (by decide) ?_
  refine lv_ishr hx hb dX5_mul_44 ?_
  refine lv_ixor hx hb dX5_mul_45 ?_
  refine lv_bipush (v := (nI 15)) hx hb dX5_mul_46 (by decide) ?_
  refine lv_iand hx hb dX5_mul_48 ?_
  exact hret _ _ _ _ _ (g4_tab b hb4 a ha) hP hS dX5_mul_49
end
section
/-! ===== contracts: GF ===== -/
def nib (f : Nat → Nat) (n : Nat) : Nat := if n % 2 = 1 then f (n / 2) / 16 else f (n / 2) % 16
def setn (f : Nat → Nat) (n v : Nat) : Nat → Nat := va_up f (n / 2) (if n % 2 = 1 then f (n / 2) % 16 + v * 16 else f (n / 2) / 16 * 16 + v)
/-- the first i places xored by h's -/
def vx (f h : Nat → Nat) (i : Nat) : Nat → Nat := fun j => if j < i then f j ^^^ h j else f j
/-- the first i places mapped -/
def vm (g : Nat → Nat) (f : Nat → Nat) (i : Nat) : Nat → Nat := fun j => if j < i then g (f j) else f j
theorem zi_eq0 {n : Nat} (h : n < 2 ^ 31) : nI n = 0 ↔ n = 0 := by
  rw [← nI_0]
  exact nI_eq h (by decide)
theorem and_240 : ∀ x, x < 256 → x &&& 240 = x / 16 * 16 := by decide +kernel
theorem zi_240 {x : Nat} (h : x < 256) : nI x &&& nI 240 = nI (x / 16 * 16) := by rw [nx_and, and_240 x h]
theorem vx_i (f h : Nat → Nat) (i : Nat) : vx f h i i = f i := if_neg (Nat.lt_irrefl i)
theorem vm_i (g f : Nat → Nat) (i : Nat) : vm g f i i = g (f i) ∨ vm g f i i = f i := Or.inr (if_neg (Nat.lt_irrefl i))
theorem vm_ii (g f : Nat → Nat) (i : Nat) : vm g f i i = f i := if_neg (Nat.lt_irrefl i)
theorem vx_0 (f h : Nat → Nat) : vx f h 0 = f := by
  funext j
  exact if_neg (Nat.not_lt_zero j)
theorem vm_0 (g f : Nat → Nat) : vm g f 0 = f := by
  funext j
  exact if_neg (Nat.not_lt_zero j)
theorem vx_step (f h : Nat → Nat) (i : Nat) : va_up (vx f h i) i (f i ^^^ h i) = vx f h (i + 1) := by
  funext j
  unfold va_up vx
  by_cases h1 : j = i
  · subst h1
    rw [if_pos rfl, if_pos (by omega)]
  · rw [if_neg h1]
    by_cases h2 : j < i
    · rw [if_pos h2, if_pos (by omega)]
    · rw [if_neg h2, if_neg (by omega)]
theorem vm_step (g f : Nat → Nat) (i : Nat) : va_up (vm g f i) i (g (f i)) = vm g f (i + 1) := by
  funext j
  unfold va_up vm
  by_cases h1 : j = i
  · subst h1
    rw [if_pos rfl, if_pos (by omega)]
  · rw [if_neg h1]
    by_cases h2 : j < i
    · rw [if_pos h2, if_pos (by omega)]
    · rw [if_neg h2, if_neg (by omega)]
theorem vx_lt {f h : Nat → Nat} (hf : ∀ j, f j < 256) (hh : ∀ j, h j < 256) (i : Nat) : ∀ j, vx f h i j < 256 := by
  intro j
  unfold vx
  by_cases h2 : j < i
  · rw [if_pos h2]; exact Nat.xor_lt_two_pow (n := 8) (hf j) (hh j)
  · rw [if_neg h2]; exact hf j
theorem vm_lt {g f : Nat → Nat} (hf : ∀ j, f j < 256) (hg : ∀ x, x < 256 → g x < 256) (i : Nat) : ∀ j, vm g f i j < 256 := by
  intro j
  unfold vm
  by_cases h2 : j < i
  · rw [if_pos h2]; exact hg _ (hf j)
  · rw [if_neg h2]; exact hf j
theorem setn_lt {f : Nat → Nat} (hf : ∀ j, f j < 256) (n : Nat) {v : Nat} (hv : v < 16) : ∀ j, setn f n v j < 256 := by
  have h1 := hf (n / 2)
  refine va_up_lt hf _ ?_
  by_cases h : n % 2 = 1
  · rw [if_pos h]; omega
  · rw [if_neg h]; omega
theorem nB_msk {c : Nat} (hc : c < 2) (x : Nat) : (nB x &&& (-nI c)).toInt8.toInt32 = nB (if c = 1 then x else 0) := by
  rcases (show c = 0 ∨ c = 1 by omega) with rfl | rfl
  · rw [show -nI 0 = nI 0 from by decide]
    exact nB_and0 x
  · rw [show -nI 1 = (-1 : Int32) from by decide]
    exact nB_and1 x
/-- eight places at once: the chunk at 8 t -/
theorem vm_chunk {s : Nat} {f : Nat → Nat} (hf : ∀ j, f j < 256) (t : Nat) : st8 (vm (g8 s) f (8 * t)) (8 * t) (fx8 s (le8 (vm (g8 s) f (8 * t)) (8 * t))) = vm (g8 s) f (8 * (t + 1)) := by
  have hF := vm_lt (g := g8 s) hf (fun x hx => g8_lt hx) (8 * t)
  funext j
  unfold st8
  by_cases h : 8 * t ≤ j ∧ j < 8 * t + 8
  · rw [if_pos h, dg_fx8 (by omega), dg_le8 hF _ _ (by omega), show 8 * t + (j - 8 * t) = j by omega]
    unfold vm
    rw [if_neg (by omega), if_pos (by omega)]
  · rw [if_neg h]
    unfold vm
    by_cases h2 : j < 8 * t
    · rw [if_pos h2, if_pos (by omega)]
    · rw [if_neg h2, if_neg (by omega)]
theorem vx_chunk {f g : Nat → Nat} {X : Nat → Nat} {φ : Nat → Nat} (hf : ∀ j, f j < 256) (hg : ∀ j, g j < 256) (hφ : ∀ x, x < 256 → φ x < 256) (hX : ∀ v j, j < 8 → dg (X v) j = φ (dg v j)) (t : Nat) : st8 (vx f (fun j => φ (g j)) (8 * t)) (8 * t) (le8 (vx f (fun j => φ (g j)) (8 * t)) (8 * t) ^^^ X (le8 g (8 * t))) = vx f (fun j => φ (g j)) (8 * (t + 1)) := by
  have hF := vx_lt (h := fun j => φ (g j)) hf (fun j => hφ _ (hg j)) (8 * t)
  funext j
  unfold st8
  by_cases h : 8 * t ≤ j ∧ j < 8 * t + 8
  · rw [if_pos h, dg_xor, hX _ _ (by omega), dg_le8 hF _ _ (by omega), dg_le8 hg _ _ (by omega), show 8 * t + (j - 8 * t) = j by omega]
    unfold vx
    rw [if_neg (by omega), if_pos (by omega)]
  · rw [if_neg h]
    unfold vx
    by_cases h2 : j < 8 * t
    · rw [if_pos h2, if_pos (by omega)]
    · rw [if_neg h2, if_neg (by omega)]
theorem zx_lt {a b : Nat} (ha : a < 18446744073709551616) (hb : b < 18446744073709551616) : a ^^^ b < 18446744073709551616 := Nat.xor_lt_two_pow (n := 64) ha hb
set_option maxHeartbeats 4000000 in
set_option maxRecDepth 100000 in
/-- GF.getEle16 -/
theorem ctX2_get (l : Launch) (dC : Nat → ClassId) (dI : Nat → Nat → Nat) (r : Nat) (cB : ClassId) (f : Nat → Nat) (hf : ∀ j, f j < 256) (n : Nat) (hn : n < 64) : CtI l yX2_getEle16 cX2_getEle16 3 (rmN 0 0) dC dI [.ref r, .int (nI n)] [(r, .inl (cB, 32, .inl (bf f)))] [(cB, .byte)] (fun v => v = nI (nib f n)) := by
  refine zm_i (by decide) (Nat.le_of_ble_eq_true rfl) ?_
  intro p e s m args below meth c A ls Q hx hb hml hown hts hA hK hP hD hS hl hret
  have hl : lv_has ls 3 [(0, .ref r), (1, .int (nI n))] := hl
  have h0 := hf (n / 2)
  refine lv_aload_n hx hb dX2_getEle16_0 rfl (lv_at hl 0 rfl) ?_
  refine lv_iload_n hx hb dX2_getEle16_1 rfl (lv_at hl 1 rfl) ?_
  refine lv_iconst (v := (nI 1)) hx hb dX2_getEle16_2 (by decide) ?_
  refine lv_iushr (v := (nI (n / 2))) hx hb dX2_getEle16_3 (zi_ushr 1 (by decide) rfl (by omega)) ?_
  refine zb_ald hx hb hK hP 0 0 rfl rfl (by omega) (by decide) dX2_getEle16_4 ?_
  refine lv_sipush (v := (nI 255)) hx hb dX2_getEle16_5 (by decide) ?_
  refine lv_iand hx hb dX2_getEle16_8 ?_
  refine zt_i (v := (nI (f (n / 2)))) (nB_255 h0) ?_
  refine lv_istore_n (lv' := [(2, .int (nI (f (n / 2)))), (0, .ref r), (1, .int (nI n))]) hx hb dX2_getEle16_9 rfl hl (by decide) rfl (fun ls hl => ?_)
  refine lv_iload_n hx hb dX2_getEle16_10 rfl (lv_at hl 2 rfl) ?_
  refine lv_iconst (v := (nI 1)) hx hb dX2_getEle16_11 (by decide) ?_
  refine lv_iand hx hb dX2_getEle16_12 ?_
  refine zt_i (v := (nI (n % 2))) (zi_1 _) ?_
  refine lv_if_eq (tgt := 22) hx hb dX2_getEle16_13 (by decide) (fun cc => ?_) (fun cc => ?_)
  · have hc : n % 2 = 0 := (zi_eq0 (by omega)).mp cc
    refine lv_iload_n hx hb dX2_getEle16_22 rfl (lv_at hl 0 rfl) ?_
    refine lv_bipush (v := (nI 15)) hx hb dX2_getEle16_23 (by decide) ?_
    refine lv_iand hx hb dX2_getEle16_25 ?_
    refine zt_i (v := (nI (f (n / 2) % 16))) (zi_15 _) ?_
    exact hret _ _ _ _ _ (by unfold nib; rw [if_neg (by omega)]) hP hS dX2_getEle16_26
  · have hc : ¬ n % 2 = 0 := fun z => cc ((zi_eq0 (by omega)).mpr z)
    refine lv_iload_n hx hb dX2_getEle16_16 rfl (lv_at hl 0 rfl) ?_
    refine lv_iconst (v := (nI 4)) hx hb dX2_getEle16_17 (by decide) ?_
    refine lv_iushr (v := (nI (f (n / 2) / 16))) hx hb dX2_getEle16_18 (zi_ushr 4 (by decide) rfl (by omega)) ?_
    refine lv_goto (tgt := 26) hx hb dX2_getEle16_19 (by decide) ?_
    exact hret _ _ _ _ _ (by unfold nib; rw [if_pos (by omega)]) hP hS dX2_getEle16_26
set_option maxHeartbeats 4000000 in
set_option maxRecDepth 100000 in
/-- GF.setEle16 -/
theorem ctX2_set (l : Launch) (dC : Nat → ClassId) (dI : Nat → Nat → Nat) (r : Nat) (cB : ClassId) (f : Nat → Nat) (hf : ∀ j, f j < 256) (n : Nat) (hn : n < 64) (v : Nat) (hv : v < 16) : CtV l yX2_setEle16 cX2_setEle16 5 (rmN 0 0) dC dI [.ref r, .int (nI n), .int (nI v)] [(r, .inl (cB, 32, .inl (bf f)))] [(cB, .byte)] (fun u : Nat → Nat => u = setn f n v) (fun u => [(r, .inl (cB, 32, .inl (bf u)))]) := by
  refine zm_v (by decide) (Nat.le_of_ble_eq_true rfl) ?_
  intro p e s m args below meth c A ls Q hx hb hml hown hts hA hK hP hD hS hl hret
  have hl : lv_has ls 5 [(0, .ref r), (1, .int (nI n)), (2, .int (nI v))] := hl
  have h0 := hf (n / 2)
  refine lv_iload_n hx hb dX2_setEle16_0 rfl (lv_at hl 1 rfl) ?_
  refine lv_iconst (v := (nI 1)) hx hb dX2_setEle16_1 (by decide) ?_
  refine lv_iushr (v := (nI (n / 2))) hx hb dX2_setEle16_2 (zi_ushr 1 (by decide) rfl (by omega)) ?_
  refine lv_istore_n (lv' := [(3, .int (nI (n / 2))), (0, .ref r), (1, .int (nI n)), (2, .int (nI v))]) hx hb dX2_setEle16_3 rfl hl (by decide) rfl (fun ls hl => ?_)
  refine lv_aload_n hx hb dX2_setEle16_4 rfl (lv_at hl 1 rfl) ?_
  refine lv_iload_n hx hb dX2_setEle16_5 rfl (lv_at hl 0 rfl) ?_
  refine zb_ald hx hb hK hP 0 0 rfl rfl (by omega) (by decide) dX2_setEle16_6 ?_
  refine lv_sipush (v := (nI 255)) hx hb dX2_setEle16_7 (by decide) ?_
  refine lv_iand hx hb dX2_setEle16_10 ?_
  refine zt_i (v := (nI (f (n / 2)))) (nB_255 h0) ?_
  refine lv_istore (lv' := [(4, .int (nI (f (n / 2)))), (3, .int (nI (n / 2))), (0, .ref r), (1, .int (nI n)), (2, .int (nI v))]) hx hb dX2_setEle16_11 hl (by decide) rfl (fun ls hl => ?_)
  refine lv_iload_n hx hb dX2_setEle16_13 rfl (lv_at hl 3 rfl) ?_
  refine lv_iconst (v := (nI 1)) hx hb dX2_setEle16_14 (by decide) ?_
  refine lv_iand hx hb dX2_setEle16_15 ?_
  refine zt_i (v := (nI (n % 2))) (zi_1 _) ?_
  refine lv_if_eq (tgt := 36) hx hb dX2_setEle16_16 (by decide) (fun cc => ?_) (fun cc => ?_)
  · have hc : n % 2 = 0 := (zi_eq0 (by omega)).mp cc
    refine lv_iload hx hb dX2_setEle16_36 (lv_at hl 0 rfl) ?_
    refine lv_sipush (v := (nI 240)) hx hb dX2_setEle16_38 (by decide) ?_
    refine lv_iand hx hb dX2_setEle16_41 ?_
    refine zt_i (v := (nI (f (n / 2) / 16 * 16))) (zi_240 h0) ?_
    refine lv_iload_n hx hb dX2_setEle16_42 rfl (lv_at hl 4 rfl) ?_
    refine lv_bipush (v := (nI 15)) hx hb dX2_setEle16_43 (by decide) ?_
    refine lv_iand hx hb dX2_setEle16_45 ?_
    refine zt_i (v := (nI v)) (by rw [zi_15, Nat.mod_eq_of_lt hv]) ?_
    refine lv_ior hx hb dX2_setEle16_46 ?_
    refine zt_i (v := (nI (f (n / 2) / 16 * 16 + v))) (zi_ro 4 rfl hv) ?_
    refine lv_istore (lv' := [(4, .int (nI (f (n / 2) / 16 * 16 + v))), (3, .int (nI (n / 2))), (0, .ref r), (1, .int (nI n)), (2, .int (nI v))]) hx hb dX2_setEle16_47 hl (by decide) rfl (fun ls hl => ?_)
    refine lv_aload_n hx hb dX2_setEle16_49 rfl (lv_at hl 2 rfl) ?_
    refine lv_iload_n hx hb dX2_setEle16_50 rfl (lv_at hl 1 rfl) ?_
    refine lv_iload hx hb dX2_setEle16_51 (lv_at hl 0 rfl) ?_
    refine lv_i2b (v := (nB (f (n / 2) / 16 * 16 + v))) hx hb dX2_setEle16_53 (rfl) ?_
    refine zb_ast hx hb hK hP hD hS 0 0 rfl rfl (by omega) (by decide) dX2_setEle16_54 (fun H locs hP hD hS => ?_)
    exact hret (setn f n v) _ _ _ _ rfl (by unfold setn; rw [if_neg (by omega)]; exact hP) hS dX2_setEle16_55
  · have hc : ¬ n % 2 = 0 := fun z => cc ((zi_eq0 (by omega)).mpr z)
    refine lv_iload hx hb dX2_setEle16_19 (lv_at hl 0 rfl) ?_
    refine lv_bipush (v := (nI 15)) hx hb dX2_setEle16_21 (by decide) ?_
    refine lv_iand hx hb dX2_setEle16_23 ?_
    refine zt_i (v := (nI (f (n / 2) % 16))) (zi_15 _) ?_
    refine lv_iload_n hx hb dX2_setEle16_24 rfl (lv_at hl 4 rfl) ?_
    refine lv_bipush (v := (nI 15)) hx hb dX2_setEle16_25 (by decide) ?_
    refine lv_iand hx hb dX2_setEle16_27 ?_
    refine zt_i (v := (nI v)) (by rw [zi_15, Nat.mod_eq_of_lt hv]) ?_
    refine lv_iconst (v := (nI 4)) hx hb dX2_setEle16_28 (by decide) ?_
    refine lv_ishl hx hb dX2_setEle16_29 ?_
    refine zt_i (v := (nI (v * 16))) (zi_shl 4 (by decide) rfl (by omega)) ?_
    refine lv_ior hx hb dX2_setEle16_30 ?_
    refine zt_i (v := (nI (f (n / 2) % 16 + v * 16))) (zi_or 4 rfl (by omega)) ?_
    refine lv_istore (lv' := [(4, .int (nI (f (n / 2) % 16 + v * 16))), (3, .int (nI (n / 2))), (0, .ref r), (1, .int (nI n)), (2, .int (nI v))]) hx hb dX2_setEle16_31 hl (by decide) rfl (fun ls hl => ?_)
    refine lv_goto (tgt := 49) hx hb dX2_setEle16_33 (by decide) ?_
    refine lv_aload_n hx hb dX2_setEle16_49 rfl (lv_at hl 2 rfl) ?_
    refine lv_iload_n hx hb dX2_setEle16_50 rfl (lv_at hl 1 rfl) ?_
    refine lv_iload hx hb dX2_setEle16_51 (lv_at hl 0 rfl) ?_
    refine lv_i2b (v := (nB (f (n / 2) % 16 + v * 16))) hx hb dX2_setEle16_53 (rfl) ?_
    refine zb_ast hx hb hK hP hD hS 0 0 rfl rfl (by omega) (by decide) dX2_setEle16_54 (fun H locs hP hD hS => ?_)
    exact hret (setn f n v) _ _ _ _ rfl (by unfold setn; rw [if_pos (by omega)]; exact hP) hS dX2_setEle16_55
end
section
set_option maxHeartbeats 4000000 in
set_option maxRecDepth 100000 in
/-- GF.vecAdd -/
theorem ctX2_vecAdd (l : Launch) (dC : Nat → ClassId) (dI : Nat → Nat → Nat) (r q : Nat) (cB : ClassId) (f g : Nat → Nat) : CtV l yX2_vecAdd cX2_vecAdd 6 (rmN 0 0) dC dI [.ref r, .int (nI 0), .ref q, .int (nI 0), .int (nI 32)] [(r, .inl (cB, 32, .inl (bf f))), (q, .inl (cB, 32, .inl (bf g)))] [(cB, .byte)] (fun u : Nat → Nat => u = vx f g 32) (fun u => [(r, .inl (cB, 32, .inl (bf u))), (q, .inl (cB, 32, .inl (bf g)))]) := by
  refine zm_v (by decide) (Nat.le_of_ble_eq_true rfl) ?_
  intro p e s m args below meth c A ls Q hx hb hml hown hts hA hK hP hD hS hl hret
  have hl : lv_has ls 6 [(0, .ref r), (1, .int (nI 0)), (2, .ref q), (3, .int (nI 0)), (4, .int (nI 32))] := hl
  have loop : ∀ (n i : Nat) (H : Heap) (locs : List Loc) (ls : Array Slot), i + n = 32 → va_P (dC, dI) vwCl [(r, .inl (cB, 32, .inl (bf (vx f g i)))), (q, .inl (cB, 32, .inl (bf g)))] H → va_D A [(r, .inl (cB, 32, .inl (bf (vx f g i)))), (q, .inl (cB, 32, .inl (bf g)))] → va_S A s.heap H locs → lv_has ls 6 [(5, .int (nI i)), (0, .ref r), (1, .int (nI 0)), (2, .ref q), (3, .int (nI 0)), (4, .int (nI 32))] → W p l e (rmN 0 0) s m args below meth c H locs 0 0 Q (F0 m 3 ls []) := by
    intro n
    induction n with
    | zero =>
      intro i H locs ls hi hP hD hS hl
      have hi : i = 32 := by omega
      subst hi
      refine lv_iload hx hb dX2_vecAdd_3 (lv_at hl 0 rfl) ?_
      refine lv_iload hx hb dX2_vecAdd_5 (lv_at hl 5 rfl) ?_
      refine lv_icmp_ge (tgt := 32) hx hb dX2_vecAdd_7 (by decide) (fun cc => ?_) (fun cc => ?_)
      · exact hret (vx f g 32) _ _ _ _ rfl hP hS dX2_vecAdd_32
      · exact absurd (nI_le (Nat.le_refl _) (by decide)) cc
    | succ n ih =>
      intro i H locs ls hi hP hD hS hl
      refine lv_iload hx hb dX2_vecAdd_3 (lv_at hl 0 rfl) ?_
      refine lv_iload hx hb dX2_vecAdd_5 (lv_at hl 5 rfl) ?_
      refine lv_icmp_ge (tgt := 32) hx hb dX2_vecAdd_7 (by decide) (fun cc => ?_) (fun cc => ?_)
      · exact absurd ((nI_leI (by decide) (by omega)).mp cc) (by omega)
      · skip
        refine lv_aload_n hx hb dX2_vecAdd_10 rfl (lv_at hl 1 rfl) ?_
        refine lv_iload_n hx hb dX2_vecAdd_11 rfl (lv_at hl 2 rfl) ?_
        refine lv_iload hx hb dX2_vecAdd_12 (lv_at hl 0 rfl) ?_
        refine lv_iadd hx hb dX2_vecAdd_14 ?_
        refine zt_i (v := (nI i)) (zi_0 i) ?_
        refine lv_dup2_11 hx hb dX2_vecAdd_15 rfl rfl ?_
        refine zb_ald hx hb hK hP 0 0 rfl rfl (by omega) (by decide) dX2_vecAdd_16 ?_
        refine zt_i (v := (nB (f i))) (by rw [vx_i]) ?_
        refine lv_aload_n hx hb dX2_vecAdd_17 rfl (lv_at hl 3 rfl) ?_
        refine lv_iload_n hx hb dX2_vecAdd_18 rfl (lv_at hl 4 rfl) ?_
        refine lv_iload hx hb dX2_vecAdd_19 (lv_at hl 0 rfl) ?_
        refine lv_iadd hx hb dX2_vecAdd_21 ?_
        refine zt_i (v := (nI i)) (zi_0 i) ?_
        refine zb_ald hx hb hK hP 1 0 rfl rfl (by omega) (by decide) dX2_vecAdd_22 ?_
        refine lv_ixor hx hb dX2_vecAdd_23 ?_
        refine lv_i2b (v := (nB (f i ^^^ g i))) hx hb dX2_vecAdd_24 (nB_xor _ _) ?_
        refine zb_ast hx hb hK hP hD hS 0 0 rfl rfl (by omega) (by decide) dX2_vecAdd_25 (fun H locs hP hD hS => ?_)
        have hP : va_P (dC, dI) vwCl [(r, .inl (cB, 32, .inl (bf (va_up (vx f g i) i (f i ^^^ g i))))), (q, .inl (cB, 32, .inl (bf g)))] H := hP
        have hD : va_D A [(r, .inl (cB, 32, .inl (bf (va_up (vx f g i) i (f i ^^^ g i))))), (q, .inl (cB, 32, .inl (bf g)))] := hD
        rw [vx_step] at hP hD
        refine lv_iinc (v := (nI (i + 1))) (lv' := [(5, .int (nI (i + 1))), (0, .ref r), (1, .int (nI 0)), (2, .ref q), (3, .int (nI 0)), (4, .int (nI 32))]) hx hb dX2_vecAdd_26 hl (k := 0) rfl (zi_i1 i) (by decide) rfl (fun ls hl => ?_)
        refine lv_goto (tgt := 3) hx hb dX2_vecAdd_29 (by decide) ?_
        exact ih (i + 1) H locs ls (by omega) hP hD hS (lv_sub hl [0, 1, 2, 3, 4, 5] rfl)
  refine lv_iconst (v := (nI 0)) hx hb dX2_vecAdd_0 (by decide) ?_
  refine lv_istore (lv' := [(5, .int (nI 0)), (0, .ref r), (1, .int (nI 0)), (2, .ref q), (3, .int (nI 0)), (4, .int (nI 32))]) hx hb dX2_vecAdd_1 hl (by decide) rfl (fun ls hl => ?_)
  exact loop 32 0 s.heap [] ls rfl (by rw [vx_0]; exact hP) (by rw [vx_0]; exact hD) hS (lv_sub hl [0, 1, 2, 3, 4, 5] rfl)
set_option maxHeartbeats 4000000 in
set_option maxRecDepth 100000 in
/-- GF.vecConditionalAdd -/
theorem ctX2_vecCond (l : Launch) (dC : Nat → ClassId) (dI : Nat → Nat → Nat) (r q : Nat) (cB : ClassId) (f g : Nat → Nat) (k : Nat) (hk2 : k < 2) : CtV l yX2_vecConditionalAdd cX2_vecConditionalAdd 8 (rmN 0 0) dC dI [.ref r, .int (nI 0), .int (nI k), .ref q, .int (nI 0), .int (nI 32)] [(r, .inl (cB, 32, .inl (bf f))), (q, .inl (cB, 32, .inl (bf g)))] [(cB, .byte)] (fun u : Nat → Nat => u = vx f (fun j => if k = 1 then g j else 0) 32) (fun u => [(r, .inl (cB, 32, .inl (bf u))), (q, .inl (cB, 32, .inl (bf g)))]) := by
  refine zm_v (by decide) (Nat.le_of_ble_eq_true rfl) ?_
  intro p e s m args below meth c A ls Q hx hb hml hown hts hA hK hP hD hS hl hret
  have hl : lv_has ls 8 [(0, .ref r), (1, .int (nI 0)), (2, .int (nI k)), (3, .ref q), (4, .int (nI 0)), (5, .int (nI 32))] := hl
  have loop : ∀ (n i : Nat) (H : Heap) (locs : List Loc) (ls : Array Slot), i + n = 32 → va_P (dC, dI) vwCl [(r, .inl (cB, 32, .inl (bf (vx f (fun j => if k = 1 then g j else 0) i)))), (q, .inl (cB, 32, .inl (bf g)))] H → va_D A [(r, .inl (cB, 32, .inl (bf (vx f (fun j => if k = 1 then g j else 0) i)))), (q, .inl (cB, 32, .inl (bf g)))] → va_S A s.heap H locs → lv_has ls 8 [(7, .int (nI i)), (6, .int (-nI k)), (0, .ref r), (1, .int (nI 0)), (2, .int (nI k)), (3, .ref q), (4, .int (nI 0)), (5, .int (nI 32))] → W p l e (rmN 0 0) s m args below meth c H locs 0 0 Q (F0 m 9 ls []) := by
    intro n
    induction n with
    | zero =>
      intro i H locs ls hi hP hD hS hl
      have hi : i = 32 := by omega
      subst hi
      refine lv_iload hx hb dX2_vecConditionalAdd_9 (lv_at hl 0 rfl) ?_
      refine lv_iload hx hb dX2_vecConditionalAdd_11 (lv_at hl 7 rfl) ?_
      refine lv_icmp_ge (tgt := 43) hx hb dX2_vecConditionalAdd_13 (by decide) (fun cc => ?_) (fun cc => ?_)
      · exact hret (vx f (fun j => if k = 1 then g j else 0) 32) _ _ _ _ rfl hP hS dX2_vecConditionalAdd_43
      · exact absurd (nI_le (Nat.le_refl _) (by decide)) cc
    | succ n ih =>
      intro i H locs ls hi hP hD hS hl
      refine lv_iload hx hb dX2_vecConditionalAdd_9 (lv_at hl 0 rfl) ?_
      refine lv_iload hx hb dX2_vecConditionalAdd_11 (lv_at hl 7 rfl) ?_
      refine lv_icmp_ge (tgt := 43) hx hb dX2_vecConditionalAdd_13 (by decide) (fun cc => ?_) (fun cc => ?_)
      · exact absurd ((nI_leI (by decide) (by omega)).mp cc) (by omega)
      · skip
        refine lv_aload_n hx hb dX2_vecConditionalAdd_16 rfl (lv_at hl 2 rfl) ?_
        refine lv_iload_n hx hb dX2_vecConditionalAdd_17 rfl (lv_at hl 3 rfl) ?_
        refine lv_iload hx hb dX2_vecConditionalAdd_18 (lv_at hl 0 rfl) ?_
        refine lv_iadd hx hb dX2_vecConditionalAdd_20 ?_
        refine zt_i (v := (nI i)) (zi_0 i) ?_
        refine lv_dup2_11 hx hb dX2_vecConditionalAdd_21 rfl rfl ?_
        refine zb_ald hx hb hK hP 0 0 rfl rfl (by omega) (by decide) dX2_vecConditionalAdd_22 ?_
        refine zt_i (v := (nB (f i))) (by rw [vx_i]) ?_
        refine lv_aload_n hx hb dX2_vecConditionalAdd_23 rfl (lv_at hl 5 rfl) ?_
        refine lv_iload hx hb dX2_vecConditionalAdd_24 (lv_at hl 6 rfl) ?_
        refine lv_iload hx hb dX2_vecConditionalAdd_26 (lv_at hl 0 rfl) ?_
        refine lv_iadd hx hb dX2_vecConditionalAdd_28 ?_
        refine zt_i (v := (nI i)) (zi_0 i) ?_
        refine zb_ald hx hb hK hP 1 0 rfl rfl (by omega) (by decide) dX2_vecConditionalAdd_29 ?_
        refine lv_iload hx hb dX2_vecConditionalAdd_30 (lv_at hl 1 rfl) ?_
        refine lv_iand hx hb dX2_vecConditionalAdd_32 ?_
        refine lv_i2b (v := (nB (if k = 1 then g i else 0))) hx hb dX2_vecConditionalAdd_33 (nB_msk hk2 _) ?_
        refine lv_ixor hx hb dX2_vecConditionalAdd_34 ?_
        refine lv_i2b (v := (nB (f i ^^^ (if k = 1 then g i else 0)))) hx hb dX2_vecConditionalAdd_35 (nB_xor _ _) ?_
        refine zb_ast hx hb hK hP hD hS 0 0 rfl rfl (by omega) (by decide) dX2_vecConditionalAdd_36 (fun H locs hP hD hS => ?_)
        have hP : va_P (dC, dI) vwCl [(r, .inl (cB, 32, .inl (bf (va_up (vx f (fun j => if k = 1 then g j else 0) i) i (f i ^^^ (if k = 1 then g i else 0)))))), (q, .inl (cB, 32, .inl (bf g)))] H := hP
        have hD : va_D A [(r, .inl (cB, 32, .inl (bf (va_up (vx f (fun j => if k = 1 then g j else 0) i) i (f i ^^^ (if k = 1 then g i else 0)))))), (q, .inl (cB, 32, .inl (bf g)))] := hD
        have hv := vx_step f (fun j => if k = 1 then g j else 0) i
        have hv : (va_up (vx f (fun j => if k = 1 then g j else 0) i) i (f i ^^^ (if k = 1 then g i else 0))) = vx f (fun j => if k = 1 then g j else 0) (i + 1) := hv
        rw [hv] at hP hD
        refine lv_iinc (v := (nI (i + 1))) (lv' := [(7, .int (nI (i + 1))), (6, .int (-nI k)), (0, .ref r), (1, .int (nI 0)), (2, .int (nI k)), (3, .ref q), (4, .int (nI 0)), (5, .int (nI 32))]) hx hb dX2_vecConditionalAdd_37 hl (k := 0) rfl (zi_i1 i) (by decide) rfl (fun ls hl => ?_)
        refine lv_goto (tgt := 9) hx hb dX2_vecConditionalAdd_40 (by decide) ?_
        exact ih (i + 1) H locs ls (by omega) hP hD hS (lv_sub hl [0, 1, 2, 3, 4, 5, 6, 7] rfl)
  refine lv_iload_n hx hb dX2_vecConditionalAdd_0 rfl (lv_at hl 2 rfl) ?_
  refine lv_iconst (v := (nI 1)) hx hb dX2_vecConditionalAdd_1 (by decide) ?_
  refine lv_iand hx hb dX2_vecConditionalAdd_2 ?_
  refine zt_i (v := (nI k)) (by rw [zi_1, Nat.mod_eq_of_lt hk2]) ?_
  refine lv_ineg hx hb dX2_vecConditionalAdd_3 ?_
  refine lv_istore (lv' := [(6, .int (-(nI k))), (0, .ref r), (1, .int (nI 0)), (2, .int (nI k)), (3, .ref q), (4, .int (nI 0)), (5, .int (nI 32))]) hx hb dX2_vecConditionalAdd_4 hl (by decide) rfl (fun ls hl => ?_)
  refine lv_iconst (v := (nI 0)) hx hb dX2_vecConditionalAdd_6 (by decide) ?_
  refine lv_istore (lv' := [(7, .int (nI 0)), (6, .int (-(nI k))), (0, .ref r), (1, .int (nI 0)), (2, .int (nI k)), (3, .ref q), (4, .int (nI 0)), (5, .int (nI 32))]) hx hb dX2_vecConditionalAdd_7 hl (by decide) rfl (fun ls hl => ?_)
  exact loop 32 0 s.heap [] ls rfl (by rw [vx_0]; exact hP) (by rw [vx_0]; exact hD) hS (lv_sub hl [0, 1, 2, 3, 4, 5, 6, 7] rfl)
end
section
set_option maxHeartbeats 4000000 in
set_option maxRecDepth 100000 in
/-- GF.vecMulScalar256 -/
theorem ctX2_ms256 (l : Launch) (dC : Nat → ClassId) (dI : Nat → Nat → Nat) (r : Nat) (cB : ClassId) (f : Nat → Nat) (hf : ∀ j, f j < 256) (k : Nat) (hk8 : k < 256) (c8 : Nat) (hc8 : c8 ≤ 4) : CtV l yX2_vecMulScalar256 cX2_vecMulScalar256 7 (rmN 2 45) dC dI [.ref r, .int (nI 0), .int (nI k), .int (nI (8 * c8))] [(r, .inl (cB, 32, .inl (bf f)))] [(cB, .byte)] (fun u : Nat → Nat => u = vm (g8 k) f (8 * c8)) (fun u => [(r, .inl (cB, 32, .inl (bf u)))]) := by
  refine zm_v (by decide) (Nat.le_of_ble_eq_true rfl) ?_
  intro p e s m args below meth c A ls Q hx hb hml hown hts hA hK hP hD hS hl hret
  have hl : lv_has ls 7 [(0, .ref r), (1, .int (nI 0)), (2, .int (nI k)), (3, .int (nI (8 * c8)))] := hl
  have loop : ∀ (n i : Nat) (H : Heap) (locs : List Loc) (ls : Array Slot), i + n = c8 → va_P (dC, dI) vwCl [(r, .inl (cB, 32, .inl (bf (vm (g8 k) f (8 * i)))))] H → va_D A [(r, .inl (cB, 32, .inl (bf (vm (g8 k) f (8 * i)))))] → va_S A s.heap H locs → lv_has ls 7 [(4, .int (nI (8 * i))), (0, .ref r), (1, .int (nI 0)), (2, .int (nI k)), (3, .int (nI (8 * c8)))] → W p l e (rmN 2 45) s m args below meth c H locs 0 0 Q (F0 m 3 ls []) := by
    intro n
    induction n with
    | zero =>
      intro i H locs ls hi hP hD hS hl
      have hi : i = c8 := by omega
      subst hi
      refine lv_iload hx hb dX2_vecMulScalar256_3 (lv_at hl 0 rfl) ?_
      refine lv_bipush (v := (nI 8)) hx hb dX2_vecMulScalar256_5 (by decide) ?_
      refine lv_iadd hx hb dX2_vecMulScalar256_7 ?_
      refine zt_i (v := (nI (8 * i + 8))) (nI_add _ _) ?_
      refine lv_iload_n hx hb dX2_vecMulScalar256_8 rfl (lv_at hl 4 rfl) ?_
      refine lv_icmp_gt (tgt := 42) hx hb dX2_vecMulScalar256_9 (by decide) (fun cc => ?_) (fun cc => ?_)
      · skip
        refine lv_iload hx hb dX2_vecMulScalar256_42 (lv_at hl 0 rfl) ?_
        refine lv_iload_n hx hb dX2_vecMulScalar256_44 rfl (lv_at hl 4 rfl) ?_
        refine lv_icmp_ge (tgt := 75) hx hb dX2_vecMulScalar256_45 (by decide) (fun c2 => ?_) (fun c2 => ?_)
        · exact hret (vm (g8 k) f (8 * i)) _ _ _ _ rfl hP hS dX2_vecMulScalar256_75
        · exact absurd (nI_le (Nat.le_refl _) (by omega)) c2
      · exact absurd ((nI_ltI (by omega) (by omega)).mpr (by omega)) cc
    | succ n ih =>
      intro i H locs ls hi hP hD hS hl
      refine lv_iload hx hb dX2_vecMulScalar256_3 (lv_at hl 0 rfl) ?_
      refine lv_bipush (v := (nI 8)) hx hb dX2_vecMulScalar256_5 (by decide) ?_
      refine lv_iadd hx hb dX2_vecMulScalar256_7 ?_
      refine zt_i (v := (nI (8 * i + 8))) (nI_add _ _) ?_
      refine lv_iload_n hx hb dX2_vecMulScalar256_8 rfl (lv_at hl 4 rfl) ?_
      refine lv_icmp_gt (tgt := 42) hx hb dX2_vecMulScalar256_9 (by decide) (fun cc => ?_) (fun cc => ?_)
      · exact absurd ((nI_ltI (by omega) (by omega)).mp cc) (by omega)
      · have hF := vm_lt (g := g8 k) hf (fun x hx => g8_lt hx) (8 * i)
        have hX := le8_lt hF (8 * i)
        refine lv_aload_n hx hb dX2_vecMulScalar256_12 rfl (lv_at hl 1 rfl) ?_
        refine lv_iload_n hx hb dX2_vecMulScalar256_13 rfl (lv_at hl 2 rfl) ?_
        refine lv_iload hx hb dX2_vecMulScalar256_14 (lv_at hl 0 rfl) ?_
        refine lv_iadd hx hb dX2_vecMulScalar256_16 ?_
        refine zt_i (v := (nI (8 * i))) (zi_0 _) ?_
        refine zc_Sl (As := [.ref r, .int (nI (8 * i))]) (rest := []) 2 (ctX3_le8 l dC dI r cB (vm (g8 k) f (8 * i)) hF (8 * i) (by omega)) (lw_S q54 q55 q7 q56) (by decide +kernel) ⟨Nat.le_of_ble_eq_true rfl, Nat.le_of_ble_eq_true rfl⟩ ⟨rfl, rfl⟩ ⟨Nat.zero_le _, Nat.zero_le _⟩ hx hb hml hown hts hA hK hP hD hS [0] [0] rfl rfl rfl rfl hl.1 rfl (Nat.le_of_ble_eq_true rfl) dX2_vecMulScalar256_17 (fun v H locs hv hP hS => ?_)
        subst hv
        refine lv_lstore (lv' := [(5, .long (lN (le8 (vm (g8 k) f (8 * i)) (8 * i)))), (4, .int (nI (8 * i))), (0, .ref r), (1, .int (nI 0)), (2, .int (nI k)), (3, .int (nI (8 * c8)))]) hx hb dX2_vecMulScalar256_20 hl (by decide) rfl (fun ls hl => ?_)
        refine lv_iload_n hx hb dX2_vecMulScalar256_22 rfl (lv_at hl 4 rfl) ?_
        refine lv_lload hx hb dX2_vecMulScalar256_23 (lv_at hl 0 rfl) ?_
        refine zc_Sl (As := [.int (nI k), .long (lN (le8 (vm (g8 k) f (8 * i)) (8 * i)))]) (rest := []) 2 (ctX4_fx8 l dC dI k hk8 (le8 (vm (g8 k) f (8 * i)) (8 * i)) hX) (lw_S q61 q62 q8 q63) (by decide +kernel) ⟨Nat.le_of_ble_eq_true rfl, Nat.le_of_ble_eq_true rfl⟩ ⟨rfl, rfl⟩ ⟨Nat.zero_le _, Nat.zero_le _⟩ hx hb hml hown hts hA hK hP hD hS [] [] rfl rfl rfl rfl hl.1 rfl (Nat.le_of_ble_eq_true rfl) dX2_vecMulScalar256_25 (fun v H locs hv hP hS => ?_)
        subst hv
        refine lv_aload_n hx hb dX2_vecMulScalar256_28 rfl (lv_at hl 2 rfl) ?_
        refine lv_iload_n hx hb dX2_vecMulScalar256_29 rfl (lv_at hl 3 rfl) ?_
        refine lv_iload hx hb dX2_vecMulScalar256_30 (lv_at hl 1 rfl) ?_
        refine lv_iadd hx hb dX2_vecMulScalar256_32 ?_
        refine zt_i (v := (nI (8 * i))) (zi_0 _) ?_
        refine zc_Sv (As := [.long (lN (fx8 k (le8 (vm (g8 k) f (8 * i)) (8 * i)))), .ref r, .int (nI (8 * i))]) (rest := []) 3 (ctX3_st8 l dC dI r cB (vm (g8 k) f (8 * i)) (fx8 k (le8 (vm (g8 k) f (8 * i)) (8 * i))) (fx8_lt hX) (8 * i) (by omega)) (lw_S q67 q68 q7 q69) (by decide +kernel) ⟨Nat.le_of_ble_eq_true rfl, Nat.le_of_ble_eq_true rfl⟩ ⟨rfl, rfl⟩ ⟨Nat.zero_le _, Nat.zero_le _⟩ hx hb hml hown hts hA hK hP hD hS [0] [0] rfl rfl rfl rfl hl.1 rfl (Nat.le_of_ble_eq_true rfl) dX2_vecMulScalar256_33 (fun u H locs hu hP1 hk hS => ?_)
        subst hu
        have hP : va_P (dC, dI) vwCl [(r, .inl (cB, 32, .inl (bf (st8 (vm (g8 k) f (8 * i)) (8 * i) (fx8 k (le8 (vm (g8 k) f (8 * i)) (8 * i)))))))] H := zj_set (i0 := 0) (it := []) hP hD rfl hk hP1
        have hD : va_D A [(r, .inl (cB, 32, .inl (bf (st8 (vm (g8 k) f (8 * i)) (8 * i) (fx8 k (le8 (vm (g8 k) f (8 * i)) (8 * i)))))))] := hD.set (p := 0) rfl
        rw [vm_chunk hf i] at hP hD
        refine lv_iinc (v := (nI (8 * (i + 1)))) (lv' := [(4, .int (nI (8 * (i + 1)))), (5, .long (lN (le8 (vm (g8 k) f (8 * i)) (8 * i)))), (0, .ref r), (1, .int (nI 0)), (2, .int (nI k)), (3, .int (nI (8 * c8)))]) hx hb dX2_vecMulScalar256_36 hl (k := 1) rfl ((zi_i8 (8 * i)).trans (congrArg nI (by omega))) (by decide) rfl (fun ls hl => ?_)
        refine lv_goto (tgt := 3) hx hb dX2_vecMulScalar256_39 (by decide) ?_
        exact ih (i + 1) H locs ls (by omega) hP hD hS (lv_sub hl [0, 2, 3, 4, 5] rfl)
  refine lv_iconst (v := (nI 0)) hx hb dX2_vecMulScalar256_0 (by decide) ?_
  refine lv_istore (lv' := [(4, .int (nI 0)), (0, .ref r), (1, .int (nI 0)), (2, .int (nI k)), (3, .int (nI (8 * c8)))]) hx hb dX2_vecMulScalar256_1 hl (by decide) rfl (fun ls hl => ?_)
  exact loop c8 0 s.heap [] ls (Nat.zero_add _) (by rw [Nat.mul_zero, vm_0]; exact hP) (by rw [Nat.mul_zero, vm_0]; exact hD) hS (lv_sub hl [0, 1, 2, 3, 4] rfl)
set_option maxHeartbeats 4000000 in
set_option maxRecDepth 100000 in
/-- GF.vecMadd256 -/
theorem ctX2_ma256 (l : Launch) (dC : Nat → ClassId) (dI : Nat → Nat → Nat) (r q : Nat) (cB : ClassId) (f g : Nat → Nat) (hf : ∀ j, f j < 256) (hg : ∀ j, g j < 256) (k : Nat) (hk8 : k < 256) (c8 : Nat) (hc8 : c8 ≤ 4) : CtV l yX2_vecMadd256 cX2_vecMadd256 11 (rmN 2 45) dC dI [.ref r, .int (nI 0), .ref q, .int (nI 0), .int (nI k), .int (nI (8 * c8))] [(r, .inl (cB, 32, .inl (bf f))), (q, .inl (cB, 32, .inl (bf g)))] [(cB, .byte)] (fun u : Nat → Nat => u = vx f (fun j => g8 k (g j)) (8 * c8)) (fun u => [(r, .inl (cB, 32, .inl (bf u))), (q, .inl (cB, 32, .inl (bf g)))]) := by
  refine zm_v (by decide) (Nat.le_of_ble_eq_true rfl) ?_
  intro p e s m args below meth c A ls Q hx hb hml hown hts hA hK hP hD hS hl hret
  have hl : lv_has ls 11 [(0, .ref r), (1, .int (nI 0)), (2, .ref q), (3, .int (nI 0)), (4, .int (nI k)), (5, .int (nI (8 * c8)))] := hl
  have loop : ∀ (n i : Nat) (H : Heap) (locs : List Loc) (ls : Array Slot), i + n = c8 → va_P (dC, dI) vwCl [(r, .inl (cB, 32, .inl (bf (vx f (fun j => g8 k (g j)) (8 * i))))), (q, .inl (cB, 32, .inl (bf g)))] H → va_D A [(r, .inl (cB, 32, .inl (bf (vx f (fun j => g8 k (g j)) (8 * i))))), (q, .inl (cB, 32, .inl (bf g)))] → va_S A s.heap H locs → lv_has ls 11 [(6, .int (nI (8 * i))), (0, .ref r), (1, .int (nI 0)), (2, .ref q), (3, .int (nI 0)), (4, .int (nI k)), (5, .int (nI (8 * c8)))] → W p l e (rmN 2 45) s m args below meth c H locs 0 0 Q (F0 m 3 ls []) := by
    intro n
    induction n with
    | zero =>
      intro i H locs ls hi hP hD hS hl
      have hi : i = c8 := by omega
      subst hi
      refine lv_iload hx hb dX2_vecMadd256_3 (lv_at hl 0 rfl) ?_
      refine lv_bipush (v := (nI 8)) hx hb dX2_vecMadd256_5 (by decide) ?_
      refine lv_iadd hx hb dX2_vecMadd256_7 ?_
      refine zt_i (v := (nI (8 * i + 8))) (nI_add _ _) ?_
      refine lv_iload hx hb dX2_vecMadd256_8 (lv_at hl 6 rfl) ?_
      refine lv_icmp_gt (tgt := 57) hx hb dX2_vecMadd256_10 (by decide) (fun cc => ?_) (fun cc => ?_)
      · skip
        refine lv_iload hx hb dX2_vecMadd256_57 (lv_at hl 0 rfl) ?_
        refine lv_iload hx hb dX2_vecMadd256_59 (lv_at hl 6 rfl) ?_
        refine lv_icmp_ge (tgt := 96) hx hb dX2_vecMadd256_61 (by decide) (fun c2 => ?_) (fun c2 => ?_)
        · exact hret (vx f (fun j => g8 k (g j)) (8 * i)) _ _ _ _ rfl hP hS dX2_vecMadd256_96
        · exact absurd (nI_le (Nat.le_refl _) (by omega)) c2
      · exact absurd ((nI_ltI (by omega) (by omega)).mpr (by omega)) cc
    | succ n ih =>
      intro i H locs ls hi hP hD hS hl
      refine lv_iload hx hb dX2_vecMadd256_3 (lv_at hl 0 rfl) ?_
      refine lv_bipush (v := (nI 8)) hx hb dX2_vecMadd256_5 (by decide) ?_
      refine lv_iadd hx hb dX2_vecMadd256_7 ?_
      refine zt_i (v := (nI (8 * i + 8))) (nI_add _ _) ?_
      refine lv_iload hx hb dX2_vecMadd256_8 (lv_at hl 6 rfl) ?_
      refine lv_icmp_gt (tgt := 57) hx hb dX2_vecMadd256_10 (by decide) (fun cc => ?_) (fun cc => ?_)
      · exact absurd ((nI_ltI (by omega) (by omega)).mp cc) (by omega)
      · have hF := vx_lt (h := (fun j => g8 k (g j))) hf (fun j => g8_lt (hg j)) (8 * i)
        have hX := le8_lt hg (8 * i)
        have hY := le8_lt hF (8 * i)
        refine lv_aload_n hx hb dX2_vecMadd256_13 rfl (lv_at hl 3 rfl) ?_
        refine lv_iload_n hx hb dX2_vecMadd256_14 rfl (lv_at hl 4 rfl) ?_
        refine lv_iload hx hb dX2_vecMadd256_15 (lv_at hl 0 rfl) ?_
        refine lv_iadd hx hb dX2_vecMadd256_17 ?_
        refine zt_i (v := (nI (8 * i))) (zi_0 _) ?_
        refine zc_Sl (As := [.ref q, .int (nI (8 * i))]) (rest := []) 2 (ctX3_le8 l dC dI q cB g hg (8 * i) (by omega)) (lw_S q54 q55 q7 q56) (by decide +kernel) ⟨Nat.le_of_ble_eq_true rfl, Nat.le_of_ble_eq_true rfl⟩ ⟨rfl, rfl⟩ ⟨Nat.zero_le _, Nat.zero_le _⟩ hx hb hml hown hts hA hK hP hD hS [1] [0] rfl rfl rfl rfl hl.1 rfl (Nat.le_of_ble_eq_true rfl) dX2_vecMadd256_18 (fun v H locs hv hP hS => ?_)
        subst hv
        refine lv_lstore (lv' := [(7, .long (lN (le8 g (8 * i)))), (6, .int (nI (8 * i))), (0, .ref r), (1, .int (nI 0)), (2, .ref q), (3, .int (nI 0)), (4, .int (nI k)), (5, .int (nI (8 * c8)))]) hx hb dX2_vecMadd256_21 hl (by decide) rfl (fun ls hl => ?_)
        refine lv_aload_n hx hb dX2_vecMadd256_23 rfl (lv_at hl 2 rfl) ?_
        refine lv_iload_n hx hb dX2_vecMadd256_24 rfl (lv_at hl 3 rfl) ?_
        refine lv_iload hx hb dX2_vecMadd256_25 (lv_at hl 1 rfl) ?_
        refine lv_iadd hx hb dX2_vecMadd256_27 ?_
        refine zt_i (v := (nI (8 * i))) (zi_0 _) ?_
        refine zc_Sl (As := [.ref r, .int (nI (8 * i))]) (rest := []) 2 (ctX3_le8 l dC dI r cB (vx f (fun j => g8 k (g j)) (8 * i)) hF (8 * i) (by omega)) (lw_S q54 q55 q7 q56) (by decide +kernel) ⟨Nat.le_of_ble_eq_true rfl, Nat.le_of_ble_eq_true rfl⟩ ⟨rfl, rfl⟩ ⟨Nat.zero_le _, Nat.zero_le _⟩ hx hb hml hown hts hA hK hP hD hS [0] [0] rfl rfl rfl rfl hl.1 rfl (Nat.le_of_ble_eq_true rfl) dX2_vecMadd256_28 (fun v H locs hv hP hS => ?_)
        subst hv
        refine lv_lstore (lv' := [(9, .long (lN (le8 (vx f (fun j => g8 k (g j)) (8 * i)) (8 * i)))), (7, .long (lN (le8 g (8 * i)))), (6, .int (nI (8 * i))), (0, .ref r), (1, .int (nI 0)), (2, .ref q), (3, .int (nI 0)), (4, .int (nI k)), (5, .int (nI (8 * c8)))]) hx hb dX2_vecMadd256_31 hl (by decide) rfl (fun ls hl => ?_)
        refine lv_lload hx hb dX2_vecMadd256_33 (lv_at hl 0 rfl) ?_
        refine lv_iload hx hb dX2_vecMadd256_35 (lv_at hl 7 rfl) ?_
        refine lv_lload hx hb dX2_vecMadd256_37 (lv_at hl 1 rfl) ?_
        refine zc_Sl (As := [.int (nI k), .long (lN (le8 g (8 * i)))]) (rest := [.long (lN (le8 (vx f (fun j => g8 k (g j)) (8 * i)) (8 * i)))]) 2 (ctX4_fx8 l dC dI k hk8 (le8 g (8 * i)) hX) (lw_S q61 q62 q8 q63) (by decide +kernel) ⟨Nat.le_of_ble_eq_true rfl, Nat.le_of_ble_eq_true rfl⟩ ⟨rfl, rfl⟩ ⟨Nat.zero_le _, Nat.zero_le _⟩ hx hb hml hown hts hA hK hP hD hS [] [] rfl rfl rfl rfl hl.1 rfl (Nat.le_of_ble_eq_true rfl) dX2_vecMadd256_39 (fun v H locs hv hP hS => ?_)
        subst hv
        refine lv_lxor hx hb dX2_vecMadd256_42 ?_
        refine zt_l (v := (lN ((le8 (vx f (fun j => g8 k (g j)) (8 * i)) (8 * i)) ^^^ fx8 k (le8 g (8 * i))))) (lN_xor _ _) ?_
        refine lv_aload_n hx hb dX2_vecMadd256_43 rfl (lv_at hl 3 rfl) ?_
        refine lv_iload_n hx hb dX2_vecMadd256_44 rfl (lv_at hl 4 rfl) ?_
        refine lv_iload hx hb dX2_vecMadd256_45 (lv_at hl 2 rfl) ?_
        refine lv_iadd hx hb dX2_vecMadd256_47 ?_
        refine zt_i (v := (nI (8 * i))) (zi_0 _) ?_
        refine zc_Sv (As := [.long (lN ((le8 (vx f (fun j => g8 k (g j)) (8 * i)) (8 * i)) ^^^ fx8 k (le8 g (8 * i)))), .ref r, .int (nI (8 * i))]) (rest := []) 3 (ctX3_st8 l dC dI r cB (vx f (fun j => g8 k (g j)) (8 * i)) ((le8 (vx f (fun j => g8 k (g j)) (8 * i)) (8 * i)) ^^^ fx8 k (le8 g (8 * i))) (zx_lt hY (fx8_lt hX)) (8 * i) (by omega)) (lw_S q67 q68 q7 q69) (by decide +kernel) ⟨Nat.le_of_ble_eq_true rfl, Nat.le_of_ble_eq_true rfl⟩ ⟨rfl, rfl⟩ ⟨Nat.zero_le _, Nat.zero_le _⟩ hx hb hml hown hts hA hK hP hD hS [0] [0] rfl rfl rfl rfl hl.1 rfl (Nat.le_of_ble_eq_true rfl) dX2_vecMadd256_48 (fun u H locs hu hP1 hk hS => ?_)
        subst hu
        have hP : va_P (dC, dI) vwCl [(r, .inl (cB, 32, .inl (bf (st8 (vx f (fun j => g8 k (g j)) (8 * i)) (8 * i) ((le8 (vx f (fun j => g8 k (g j)) (8 * i)) (8 * i)) ^^^ fx8 k (le8 g (8 * i))))))), (q, .inl (cB, 32, .inl (bf g)))] H := zj_set (i0 := 0) (it := []) hP hD rfl hk hP1
        have hD : va_D A [(r, .inl (cB, 32, .inl (bf (st8 (vx f (fun j => g8 k (g j)) (8 * i)) (8 * i) ((le8 (vx f (fun j => g8 k (g j)) (8 * i)) (8 * i)) ^^^ fx8 k (le8 g (8 * i))))))), (q, .inl (cB, 32, .inl (bf g)))] := hD.set (p := 0) rfl
        rw [vx_chunk (X := fx8 k) (φ := g8 k) hf hg (fun x hx => g8_lt hx) (fun v j hj => dg_fx8 hj) i] at hP hD
        refine lv_iinc (v := (nI (8 * (i + 1)))) (lv' := [(6, .int (nI (8 * (i + 1)))), (9, .long (lN (le8 (vx f (fun j => g8 k (g j)) (8 * i)) (8 * i)))), (7, .long (lN (le8 g (8 * i)))), (0, .ref r), (1, .int (nI 0)), (2, .ref q), (3, .int (nI 0)), (4, .int (nI k)), (5, .int (nI (8 * c8)))]) hx hb dX2_vecMadd256_51 hl (k := 2) rfl ((zi_i8 (8 * i)).trans (congrArg nI (by omega))) (by decide) rfl (fun ls hl => ?_)
        refine lv_goto (tgt := 3) hx hb dX2_vecMadd256_54 (by decide) ?_
        exact ih (i + 1) H locs ls (by omega) hP hD hS (lv_sub hl [0, 3, 4, 5, 6, 7, 8] rfl)
  refine lv_iconst (v := (nI 0)) hx hb dX2_vecMadd256_0 (by decide) ?_
  refine lv_istore (lv' := [(6, .int (nI 0)), (0, .ref r), (1, .int (nI 0)), (2, .ref q), (3, .int (nI 0)), (4, .int (nI k)), (5, .int (nI (8 * c8)))]) hx hb dX2_vecMadd256_1 hl (by decide) rfl (fun ls hl => ?_)
  exact loop c8 0 s.heap [] ls (Nat.zero_add _) (by rw [Nat.mul_zero, vx_0]; exact hP) (by rw [Nat.mul_zero, vx_0]; exact hD) hS (lv_sub hl [0, 1, 2, 3, 4, 5, 6] rfl)
end
section
set_option maxHeartbeats 4000000 in
set_option maxRecDepth 100000 in
/-- GF.vecMulScalar16 -/
theorem ctX2_ms16 (l : Launch) (dC : Nat → ClassId) (dI : Nat → Nat → Nat) (r : Nat) (cB : ClassId) (f : Nat → Nat) (hf : ∀ j, f j < 256) (k : Nat) (hk4 : k < 16) (N : Nat) (hN : N ≤ 32) : CtV l yX2_vecMulScalar16 cX2_vecMulScalar16 8 (rmN 1 23) dC dI [.ref r, .int (nI 0), .int (nI k), .int (nI N)] [(r, .inl (cB, 32, .inl (bf f)))] [(cB, .byte)] (fun u : Nat → Nat => u = vm (n4 k) f N) (fun u => [(r, .inl (cB, 32, .inl (bf u)))]) := by
  refine zm_v (by decide) (Nat.le_of_ble_eq_true rfl) ?_
  intro p e s m args below meth c A ls Q hx hb hml hown hts hA hK hP hD hS hl hret
  have hl : lv_has ls 8 [(0, .ref r), (1, .int (nI 0)), (2, .int (nI k)), (3, .int (nI N))] := hl
  have loop : ∀ (n i : Nat) (H : Heap) (locs : List Loc) (ls : Array Slot), i + n = N → va_P (dC, dI) vwCl [(r, .inl (cB, 32, .inl (bf (vm (n4 k) f i))))] H → va_D A [(r, .inl (cB, 32, .inl (bf (vm (n4 k) f i))))] → va_S A s.heap H locs → lv_has ls 8 [(4, .int (nI i)), (0, .ref r), (1, .int (nI 0)), (2, .int (nI k)), (3, .int (nI N))] → W p l e (rmN 1 23) s m args below meth c H locs 0 0 Q (F0 m 3 ls []) := by
    intro n
    induction n with
    | zero =>
      intro i H locs ls hi hP hD hS hl
      have hi : i = N := by omega
      subst hi
      refine lv_iload hx hb dX2_vecMulScalar16_3 (lv_at hl 0 rfl) ?_
      refine lv_iload_n hx hb dX2_vecMulScalar16_5 rfl (lv_at hl 4 rfl) ?_
      refine lv_icmp_ge (tgt := 65) hx hb dX2_vecMulScalar16_6 (by decide) (fun cc => ?_) (fun cc => ?_)
      · exact hret (vm (n4 k) f i) _ _ _ _ rfl hP hS dX2_vecMulScalar16_65
      · exact absurd (nI_le (Nat.le_refl _) (by omega)) cc
    | succ n ih =>
      intro i H locs ls hi hP hD hS hl
      refine lv_iload hx hb dX2_vecMulScalar16_3 (lv_at hl 0 rfl) ?_
      refine lv_iload_n hx hb dX2_vecMulScalar16_5 rfl (lv_at hl 4 rfl) ?_
      refine lv_icmp_ge (tgt := 65) hx hb dX2_vecMulScalar16_6 (by decide) (fun cc => ?_) (fun cc => ?_)
      · exact absurd ((nI_leI (by omega) (by omega)).mp cc) (by omega)
      · have h0 := hf i
        have h1 := g4_lt k hk4 (f i % 16) (by omega)
        have h2 := g4_lt k hk4 (f i / 16) (by omega)
        refine lv_aload_n hx hb dX2_vecMulScalar16_9 rfl (lv_at hl 1 rfl) ?_
        refine lv_iload_n hx hb dX2_vecMulScalar16_10 rfl (lv_at hl 2 rfl) ?_
        refine lv_iload hx hb dX2_vecMulScalar16_11 (lv_at hl 0 rfl) ?_
        refine lv_iadd hx hb dX2_vecMulScalar16_13 ?_
        refine zt_i (v := (nI i)) (zi_0 _) ?_
        refine zb_ald hx hb hK hP 0 0 rfl rfl (by omega) (by decide) dX2_vecMulScalar16_14 ?_
        refine zt_i (v := (nB (f i))) (by rw [vm_ii]) ?_
        refine lv_sipush (v := (nI 255)) hx hb dX2_vecMulScalar16_15 (by decide) ?_
        refine lv_iand hx hb dX2_vecMulScalar16_18 ?_
        refine zt_i (v := (nI (f i))) (nB_255 h0) ?_
        refine lv_istore (lv' := [(5, .int (nI (f i))), (4, .int (nI i)), (0, .ref r), (1, .int (nI 0)), (2, .int (nI k)), (3, .int (nI N))]) hx hb dX2_vecMulScalar16_19 hl (by decide) rfl (fun ls hl => ?_)
        refine lv_iload hx hb dX2_vecMulScalar16_21 (lv_at hl 0 rfl) ?_
        refine lv_bipush (v := (nI 15)) hx hb dX2_vecMulScalar16_23 (by decide) ?_
        refine lv_iand hx hb dX2_vecMulScalar16_25 ?_
        refine zt_i (v := (nI (f i % 16))) (zi_15 _) ?_
        refine lv_iload_n hx hb dX2_vecMulScalar16_26 rfl (lv_at hl 4 rfl) ?_
        refine zc_Si (As := [.int (nI (f i % 16)), .int (nI k)]) (rest := []) 2 (ctX5_mul l dC dI (f i % 16) k (by omega) hk4) (lw_S q83 q84 q9 q85) (by decide +kernel) ⟨Nat.le_of_ble_eq_true rfl, Nat.le_of_ble_eq_true rfl⟩ ⟨rfl, rfl⟩ ⟨Nat.zero_le _, Nat.zero_le _⟩ hx hb hml hown hts hA hK hP hD hS [] [] rfl rfl rfl rfl hl.1 rfl (Nat.le_of_ble_eq_true rfl) dX2_vecMulScalar16_27 (fun v H locs hv hP hS => ?_)
        subst hv
        refine lv_istore (lv' := [(6, .int (nI (g4 k (f i % 16)))), (5, .int (nI (f i))), (4, .int (nI i)), (0, .ref r), (1, .int (nI 0)), (2, .int (nI k)), (3, .int (nI N))]) hx hb dX2_vecMulScalar16_30 hl (by decide) rfl (fun ls hl => ?_)
        refine lv_iload hx hb dX2_vecMulScalar16_32 (lv_at hl 1 rfl) ?_
        refine lv_iconst (v := (nI 4)) hx hb dX2_vecMulScalar16_34 (by decide) ?_
        refine lv_iushr (v := (nI (f i / 16))) hx hb dX2_vecMulScalar16_35 (zi_ushr 4 (by decide) rfl (by omega)) ?_
        refine lv_bipush (v := (nI 15)) hx hb dX2_vecMulScalar16_36 (by decide) ?_
        refine lv_iand hx hb dX2_vecMulScalar16_38 ?_
        refine zt_i (v := (nI (f i / 16))) (by rw [zi_15, Nat.mod_eq_of_lt (by omega)]) ?_
        refine lv_iload_n hx hb dX2_vecMulScalar16_39 rfl (lv_at hl 5 rfl) ?_
        refine zc_Si (As := [.int (nI (f i / 16)), .int (nI k)]) (rest := []) 2 (ctX5_mul l dC dI (f i / 16) k (by omega) hk4) (lw_S q83 q84 q9 q85) (by decide +kernel) ⟨Nat.le_of_ble_eq_true rfl, Nat.le_of_ble_eq_true rfl⟩ ⟨rfl, rfl⟩ ⟨Nat.zero_le _, Nat.zero_le _⟩ hx hb hml hown hts hA hK hP hD hS [] [] rfl rfl rfl rfl hl.1 rfl (Nat.le_of_ble_eq_true rfl) dX2_vecMulScalar16_40 (fun v H locs hv hP hS => ?_)
        subst hv
        refine lv_istore (lv' := [(7, .int (nI (g4 k (f i / 16)))), (6, .int (nI (g4 k (f i % 16)))), (5, .int (nI (f i))), (4, .int (nI i)), (0, .ref r), (1, .int (nI 0)), (2, .int (nI k)), (3, .int (nI N))]) hx hb dX2_vecMulScalar16_43 hl (by decide) rfl (fun ls hl => ?_)
        refine lv_aload_n hx hb dX2_vecMulScalar16_45 rfl (lv_at hl 4 rfl) ?_
        refine lv_iload_n hx hb dX2_vecMulScalar16_46 rfl (lv_at hl 5 rfl) ?_
        refine lv_iload hx hb dX2_vecMulScalar16_47 (lv_at hl 3 rfl) ?_
        refine lv_iadd hx hb dX2_vecMulScalar16_49 ?_
        refine zt_i (v := (nI i)) (zi_0 _) ?_
        refine lv_iload hx hb dX2_vecMulScalar16_50 (lv_at hl 0 rfl) ?_
        refine lv_iconst (v := (nI 4)) hx hb dX2_vecMulScalar16_52 (by decide) ?_
        refine lv_ishl hx hb dX2_vecMulScalar16_53 ?_
        refine zt_i (v := (nI (g4 k (f i / 16) * 16))) (zi_shl 4 (by decide) rfl (by omega)) ?_
        refine lv_iload hx hb dX2_vecMulScalar16_54 (lv_at hl 1 rfl) ?_
        refine lv_ior hx hb dX2_vecMulScalar16_56 ?_
        refine zt_i (v := (nI (n4 k (f i)))) ((zi_ro 4 rfl h1).trans (congrArg nI (Nat.add_comm _ _))) ?_
        refine lv_i2b (v := (nB (n4 k (f i)))) hx hb dX2_vecMulScalar16_57 (rfl) ?_
        refine zb_ast hx hb hK hP hD hS 0 0 rfl rfl (by omega) (by decide) dX2_vecMulScalar16_58 (fun H locs hP hD hS => ?_)
        have hP : va_P (dC, dI) vwCl [(r, .inl (cB, 32, .inl (bf (va_up (vm (n4 k) f i) i (n4 k (f i))))))] H := hP
        have hD : va_D A [(r, .inl (cB, 32, .inl (bf (va_up (vm (n4 k) f i) i (n4 k (f i))))))] := hD
        rw [vm_step] at hP hD
        refine lv_iinc (v := (nI (i + 1))) (lv' := [(4, .int (nI (i + 1))), (7, .int (nI (g4 k (f i / 16)))), (6, .int (nI (g4 k (f i % 16)))), (5, .int (nI (f i))), (0, .ref r), (1, .int (nI 0)), (2, .int (nI k)), (3, .int (nI N))]) hx hb dX2_vecMulScalar16_59 hl (k := 3) rfl (zi_i1 i) (by decide) rfl (fun ls hl => ?_)
        refine lv_goto (tgt := 3) hx hb dX2_vecMulScalar16_62 (by decide) ?_
        exact ih (i + 1) H locs ls (by omega) hP hD hS (lv_sub hl [0, 4, 5, 6, 7] rfl)
  refine lv_iconst (v := (nI 0)) hx hb dX2_vecMulScalar16_0 (by decide) ?_
  refine lv_istore (lv' := [(4, .int (nI 0)), (0, .ref r), (1, .int (nI 0)), (2, .int (nI k)), (3, .int (nI N))]) hx hb dX2_vecMulScalar16_1 hl (by decide) rfl (fun ls hl => ?_)
  exact loop N 0 s.heap [] ls (Nat.zero_add _) (by rw [vm_0]; exact hP) (by rw [vm_0]; exact hD) hS (lv_sub hl [0, 1, 2, 3, 4] rfl)
set_option maxHeartbeats 4000000 in
set_option maxRecDepth 100000 in
/-- GF.vecMadd16 -/
theorem ctX2_ma16 (l : Launch) (dC : Nat → ClassId) (dI : Nat → Nat → Nat) (r q : Nat) (cB : ClassId) (f g : Nat → Nat) (hf : ∀ j, f j < 256) (hg : ∀ j, g j < 256) (k : Nat) (hk4 : k < 16) (c8 : Nat) (hc8 : c8 ≤ 4) : CtV l yX2_vecMadd16 cX2_vecMadd16 19 (rmN 2 45) dC dI [.ref r, .int (nI 0), .ref q, .int (nI 0), .int (nI k), .int (nI (8 * c8))] [(r, .inl (cB, 32, .inl (bf f))), (q, .inl (cB, 32, .inl (bf g)))] [(cB, .byte)] (fun u : Nat → Nat => u = vx f (fun j => n4 k (g j)) (8 * c8)) (fun u => [(r, .inl (cB, 32, .inl (bf u))), (q, .inl (cB, 32, .inl (bf g)))]) := by
  refine zm_v (by decide) (Nat.le_of_ble_eq_true rfl) ?_
  intro p e s m args below meth c A ls Q hx hb hml hown hts hA hK hP hD hS hl hret
  have hl : lv_has ls 19 [(0, .ref r), (1, .int (nI 0)), (2, .ref q), (3, .int (nI 0)), (4, .int (nI k)), (5, .int (nI (8 * c8)))] := hl
  have loop : ∀ (n i : Nat) (H : Heap) (locs : List Loc) (ls : Array Slot), i + n = c8 → va_P (dC, dI) vwCl [(r, .inl (cB, 32, .inl (bf (vx f (fun j => n4 k (g j)) (8 * i))))), (q, .inl (cB, 32, .inl (bf g)))] H → va_D A [(r, .inl (cB, 32, .inl (bf (vx f (fun j => n4 k (g j)) (8 * i))))), (q, .inl (cB, 32, .inl (bf g)))] → va_S A s.heap H locs → lv_has ls 19 [(15, .int (nI (8 * i))), (13, .long (mk (k / 8 % 2))), (11, .long (mk (k / 4 % 2))), (9, .long (mk (k / 2 % 2))), (7, .long (mk (k % 2))), (0, .ref r), (1, .int (nI 0)), (2, .ref q), (3, .int (nI 0)), (4, .int (nI k)), (5, .int (nI (8 * c8)))] → W p l e (rmN 2 45) s m args below meth c H locs 0 0 Q (F0 m 48 ls []) := by
    intro n
    induction n with
    | zero =>
      intro i H locs ls hi hP hD hS hl
      have hi : i = c8 := by omega
      subst hi
      refine lv_iload hx hb dX2_vecMadd16_48 (lv_at hl 0 rfl) ?_
      refine lv_bipush (v := (nI 8)) hx hb dX2_vecMadd16_50 (by decide) ?_
      refine lv_iadd hx hb dX2_vecMadd16_52 ?_
      refine zt_i (v := (nI (8 * i + 8))) (nI_add _ _) ?_
      refine lv_iload hx hb dX2_vecMadd16_53 (lv_at hl 10 rfl) ?_
      refine lv_icmp_gt (tgt := 104) hx hb dX2_vecMadd16_55 (by decide) (fun cc => ?_) (fun cc => ?_)
      · skip
        refine lv_iload hx hb dX2_vecMadd16_104 (lv_at hl 0 rfl) ?_
        refine lv_iload hx hb dX2_vecMadd16_106 (lv_at hl 10 rfl) ?_
        refine lv_icmp_ge (tgt := 173) hx hb dX2_vecMadd16_108 (by decide) (fun c2 => ?_) (fun c2 => ?_)
        · exact hret (vx f (fun j => n4 k (g j)) (8 * i)) _ _ _ _ rfl hP hS dX2_vecMadd16_173
        · exact absurd (nI_le (Nat.le_refl _) (by omega)) c2
      · exact absurd ((nI_ltI (by omega) (by omega)).mpr (by omega)) cc
    | succ n ih =>
      intro i H locs ls hi hP hD hS hl
      refine lv_iload hx hb dX2_vecMadd16_48 (lv_at hl 0 rfl) ?_
      refine lv_bipush (v := (nI 8)) hx hb dX2_vecMadd16_50 (by decide) ?_
      refine lv_iadd hx hb dX2_vecMadd16_52 ?_
      refine zt_i (v := (nI (8 * i + 8))) (nI_add _ _) ?_
      refine lv_iload hx hb dX2_vecMadd16_53 (lv_at hl 10 rfl) ?_
      refine lv_icmp_gt (tgt := 104) hx hb dX2_vecMadd16_55 (by decide) (fun cc => ?_) (fun cc => ?_)
      · exact absurd ((nI_ltI (by omega) (by omega)).mp cc) (by omega)
      · have hF := vx_lt (h := (fun j => n4 k (g j))) hf (fun j => n4_lt hk4 (hg j)) (8 * i)
        have hX := le8_lt hg (8 * i)
        have hY := le8_lt hF (8 * i)
        refine lv_aload_n hx hb dX2_vecMadd16_58 rfl (lv_at hl 7 rfl) ?_
        refine lv_iload_n hx hb dX2_vecMadd16_59 rfl (lv_at hl 8 rfl) ?_
        refine lv_iload hx hb dX2_vecMadd16_60 (lv_at hl 0 rfl) ?_
        refine lv_iadd hx hb dX2_vecMadd16_62 ?_
        refine zt_i (v := (nI (8 * i))) (zi_0 _) ?_
        refine zc_Sl (As := [.ref q, .int (nI (8 * i))]) (rest := []) 2 (ctX3_le8 l dC dI q cB g hg (8 * i) (by omega)) (lw_S q54 q55 q7 q56) (by decide +kernel) ⟨Nat.le_of_ble_eq_true rfl, Nat.le_of_ble_eq_true rfl⟩ ⟨rfl, rfl⟩ ⟨Nat.zero_le _, Nat.zero_le _⟩ hx hb hml hown hts hA hK hP hD hS [1] [0] rfl rfl rfl rfl hl.1 rfl (Nat.le_of_ble_eq_true rfl) dX2_vecMadd16_63 (fun v H locs hv hP hS => ?_)
        subst hv
        refine lv_lload hx hb dX2_vecMadd16_66 (lv_at hl 4 rfl) ?_
        refine lv_lload hx hb dX2_vecMadd16_68 (lv_at hl 3 rfl) ?_
        refine lv_lload hx hb dX2_vecMadd16_70 (lv_at hl 2 rfl) ?_
        refine lv_lload hx hb dX2_vecMadd16_72 (lv_at hl 1 rfl) ?_
        refine zc_Sl (As := [.long (lN (le8 g (8 * i))), .long (mk (k % 2)), .long (mk (k / 2 % 2)), .long (mk (k / 4 % 2)), .long (mk (k / 8 % 2))]) (rest := []) 5 (ctX5_ma4 l dC dI (le8 g (8 * i)) hX (k % 2) (k / 2 % 2) (k / 4 % 2) (k / 8 % 2)) (lw_S q100 q101 q9 q102) (by decide +kernel) ⟨Nat.le_of_ble_eq_true rfl, Nat.le_of_ble_eq_true rfl⟩ ⟨rfl, rfl⟩ ⟨Nat.zero_le _, Nat.zero_le _⟩ hx hb hml hown hts hA hK hP hD hS [] [] rfl rfl rfl rfl hl.1 rfl (Nat.le_of_ble_eq_true rfl) dX2_vecMadd16_74 (fun v H locs hv hP hS => ?_)
        subst hv
        refine lv_lstore (lv' := [(16, .long (lN (ma4 (k % 2) (k / 2 % 2) (k / 4 % 2) (k / 8 % 2) (le8 g (8 * i))))), (15, .int (nI (8 * i))), (13, .long (mk (k / 8 % 2))), (11, .long (mk (k / 4 % 2))), (9, .long (mk (k / 2 % 2))), (7, .long (mk (k % 2))), (0, .ref r), (1, .int (nI 0)), (2, .ref q), (3, .int (nI 0)), (4, .int (nI k)), (5, .int (nI (8 * c8)))]) hx hb dX2_vecMadd16_77 hl (by decide) rfl (fun ls hl => ?_)
        refine lv_aload_n hx hb dX2_vecMadd16_79 rfl (lv_at hl 6 rfl) ?_
        refine lv_iload_n hx hb dX2_vecMadd16_80 rfl (lv_at hl 7 rfl) ?_
        refine lv_iload hx hb dX2_vecMadd16_81 (lv_at hl 1 rfl) ?_
        refine lv_iadd hx hb dX2_vecMadd16_83 ?_
        refine zt_i (v := (nI (8 * i))) (zi_0 _) ?_
        refine zc_Sl (As := [.ref r, .int (nI (8 * i))]) (rest := []) 2 (ctX3_le8 l dC dI r cB (vx f (fun j => n4 k (g j)) (8 * i)) hF (8 * i) (by omega)) (lw_S q54 q55 q7 q56) (by decide +kernel) ⟨Nat.le_of_ble_eq_true rfl, Nat.le_of_ble_eq_true rfl⟩ ⟨rfl, rfl⟩ ⟨Nat.zero_le _, Nat.zero_le _⟩ hx hb hml hown hts hA hK hP hD hS [0] [0] rfl rfl rfl rfl hl.1 rfl (Nat.le_of_ble_eq_true rfl) dX2_vecMadd16_84 (fun v H locs hv hP hS => ?_)
        subst hv
        refine lv_lload hx hb dX2_vecMadd16_87 (lv_at hl 0 rfl) ?_
        refine lv_lxor hx hb dX2_vecMadd16_89 ?_
        refine zt_l (v := (lN ((le8 (vx f (fun j => n4 k (g j)) (8 * i)) (8 * i)) ^^^ (ma4 (k % 2) (k / 2 % 2) (k / 4 % 2) (k / 8 % 2) (le8 g (8 * i)))))) (lN_xor _ _) ?_
        refine lv_aload_n hx hb dX2_vecMadd16_90 rfl (lv_at hl 6 rfl) ?_
        refine lv_iload_n hx hb dX2_vecMadd16_91 rfl (lv_at hl 7 rfl) ?_
        refine lv_iload hx hb dX2_vecMadd16_92 (lv_at hl 1 rfl) ?_
        refine lv_iadd hx hb dX2_vecMadd16_94 ?_
        refine zt_i (v := (nI (8 * i))) (zi_0 _) ?_
        refine zc_Sv (As := [.long (lN ((le8 (vx f (fun j => n4 k (g j)) (8 * i)) (8 * i)) ^^^ (ma4 (k % 2) (k / 2 % 2) (k / 4 % 2) (k / 8 % 2) (le8 g (8 * i))))), .ref r, .int (nI (8 * i))]) (rest := []) 3 (ctX3_st8 l dC dI r cB (vx f (fun j => n4 k (g j)) (8 * i)) ((le8 (vx f (fun j => n4 k (g j)) (8 * i)) (8 * i)) ^^^ (ma4 (k % 2) (k / 2 % 2) (k / 4 % 2) (k / 8 % 2) (le8 g (8 * i)))) (zx_lt hY (ma4_lt hX)) (8 * i) (by omega)) (lw_S q67 q68 q7 q69) (by decide +kernel) ⟨Nat.le_of_ble_eq_true rfl, Nat.le_of_ble_eq_true rfl⟩ ⟨rfl, rfl⟩ ⟨Nat.zero_le _, Nat.zero_le _⟩ hx hb hml hown hts hA hK hP hD hS [0] [0] rfl rfl rfl rfl hl.1 rfl (Nat.le_of_ble_eq_true rfl) dX2_vecMadd16_95 (fun u H locs hu hP1 hk hS => ?_)
        subst hu
        have hP : va_P (dC, dI) vwCl [(r, .inl (cB, 32, .inl (bf (st8 (vx f (fun j => n4 k (g j)) (8 * i)) (8 * i) ((le8 (vx f (fun j => n4 k (g j)) (8 * i)) (8 * i)) ^^^ (ma4 (k % 2) (k / 2 % 2) (k / 4 % 2) (k / 8 % 2) (le8 g (8 * i)))))))), (q, .inl (cB, 32, .inl (bf g)))] H := zj_set (i0 := 0) (it := []) hP hD rfl hk hP1
        have hD : va_D A [(r, .inl (cB, 32, .inl (bf (st8 (vx f (fun j => n4 k (g j)) (8 * i)) (8 * i) ((le8 (vx f (fun j => n4 k (g j)) (8 * i)) (8 * i)) ^^^ (ma4 (k % 2) (k / 2 % 2) (k / 4 % 2) (k / 8 % 2) (le8 g (8 * i)))))))), (q, .inl (cB, 32, .inl (bf g)))] := hD.set (p := 0) rfl
        rw [vx_chunk (X := ma4 (k % 2) (k / 2 % 2) (k / 4 % 2) (k / 8 % 2)) (φ := n4 k) hf hg (fun x hx => n4_lt hk4 hx) (fun v j hj => dg_n4 hk4 hj) i] at hP hD
        refine lv_iinc (v := (nI (8 * (i + 1)))) (lv' := [(15, .int (nI (8 * (i + 1)))), (16, .long (lN (ma4 (k % 2) (k / 2 % 2) (k / 4 % 2) (k / 8 % 2) (le8 g (8 * i))))), (13, .long (mk (k / 8 % 2))), (11, .long (mk (k / 4 % 2))), (9, .long (mk (k / 2 % 2))), (7, .long (mk (k % 2))), (0, .ref r), (1, .int (nI 0)), (2, .ref q), (3, .int (nI 0)), (4, .int (nI k)), (5, .int (nI (8 * c8)))]) hx hb dX2_vecMadd16_98 hl (k := 1) rfl ((zi_i8 (8 * i)).trans (congrArg nI (by omega))) (by decide) rfl (fun ls hl => ?_)
        refine lv_goto (tgt := 48) hx hb dX2_vecMadd16_101 (by decide) ?_
        exact ih (i + 1) H locs ls (by omega) hP hD hS (lv_sub hl [0, 2, 3, 4, 5, 6, 7, 8, 9, 10, 11] rfl)
  refine lv_iload hx hb dX2_vecMadd16_0 (lv_at hl 4 rfl) ?_
  refine lv_bipush (v := (nI 15)) hx hb dX2_vecMadd16_2 (by decide) ?_
  refine lv_iand hx hb dX2_vecMadd16_4 ?_
  refine zt_i (v := (nI k)) (by rw [zi_15, Nat.mod_eq_of_lt hk4]) ?_
  refine lv_istore (lv' := [(6, .int (nI k)), (0, .ref r), (1, .int (nI 0)), (2, .ref q), (3, .int (nI 0)), (4, .int (nI k)), (5, .int (nI (8 * c8)))]) hx hb dX2_vecMadd16_5 hl (by decide) rfl (fun ls hl => ?_)
  refine lv_iload hx hb dX2_vecMadd16_7 (lv_at hl 0 rfl) ?_
  refine lv_iconst (v := (nI 1)) hx hb dX2_vecMadd16_9 (by decide) ?_
  refine lv_iand hx hb dX2_vecMadd16_10 ?_
  refine zt_i (v := (nI (k % 2))) (zi_1 _) ?_
  refine lv_i2l (v := ((nI (k % 2))).toInt64) hx hb dX2_vecMadd16_11 (rfl) ?_
  refine lv_lneg hx hb dX2_vecMadd16_12 ?_
  refine zt_l (v := (mk (k % 2))) (mk_neg (Nat.mod_lt _ (by decide))) ?_
  refine lv_lstore (lv' := [(7, .long (mk (k % 2))), (6, .int (nI k)), (0, .ref r), (1, .int (nI 0)), (2, .ref q), (3, .int (nI 0)), (4, .int (nI k)), (5, .int (nI (8 * c8)))]) hx hb dX2_vecMadd16_13 hl (by decide) rfl (fun ls hl => ?_)
  refine lv_iload hx hb dX2_vecMadd16_15 (lv_at hl 1 rfl) ?_
  refine lv_iconst (v := (nI 1)) hx hb dX2_vecMadd16_17 (by decide) ?_
  refine lv_iushr (v := (nI (k / 2))) hx hb dX2_vecMadd16_18 (zi_ushr 1 (by decide) rfl (by omega)) ?_
  refine lv_iconst (v := (nI 1)) hx hb dX2_vecMadd16_19 (by decide) ?_
  refine lv_iand hx hb dX2_vecMadd16_20 ?_
  refine zt_i (v := (nI (k / 2 % 2))) (zi_1 _) ?_
  refine lv_i2l (v := ((nI (k / 2 % 2))).toInt64) hx hb dX2_vecMadd16_21 (rfl) ?_
  refine lv_lneg hx hb dX2_vecMadd16_22 ?_
  refine zt_l (v := (mk (k / 2 % 2))) (mk_neg (Nat.mod_lt _ (by decide))) ?_
  refine lv_lstore (lv' := [(9, .long (mk (k / 2 % 2))), (7, .long (mk (k % 2))), (6, .int (nI k)), (0, .ref r), (1, .int (nI 0)), (2, .ref q), (3, .int (nI 0)), (4, .int (nI k)), (5, .int (nI (8 * c8)))]) hx hb dX2_vecMadd16_23 hl (by decide) rfl (fun ls hl => ?_)
  refine lv_iload hx hb dX2_vecMadd16_25 (lv_at hl 2 rfl) ?_
  refine lv_iconst (v := (nI 2)) hx hb dX2_vecMadd16_27 (by decide) ?_
  refine lv_iushr (v := (nI (k / 4))) hx hb dX2_vecMadd16_28 (zi_ushr 2 (by decide) rfl (by omega)) ?_
  refine lv_iconst (v := (nI 1)) hx hb dX2_vecMadd16_29 (by decide) ?_
  refine lv_iand hx hb dX2_vecMadd16_30 ?_
  refine zt_i (v := (nI (k / 4 % 2))) (zi_1 _) ?_
  refine lv_i2l (v := ((nI (k / 4 % 2))).toInt64) hx hb dX2_vecMadd16_31 (rfl) ?_
  refine lv_lneg hx hb dX2_vecMadd16_32 ?_
  refine zt_l (v := (mk (k / 4 % 2))) (mk_neg (Nat.mod_lt _ (by decide))) ?_
  refine lv_lstore (lv' := [(11, .long (mk (k / 4 % 2))), (9, .long (mk (k / 2 % 2))), (7, .long (mk (k % 2))), (6, .int (nI k)), (0, .ref r), (1, .int (nI 0)), (2, .ref q), (3, .int (nI 0)), (4, .int (nI k)), (5, .int (nI (8 * c8)))]) hx hb dX2_vecMadd16_33 hl (by decide) rfl (fun ls hl => ?_)
  refine lv_iload hx hb dX2_vecMadd16_35 (lv_at hl 3 rfl) ?_
  refine lv_iconst (v := (nI 3)) hx hb dX2_vecMadd16_37 (by decide) ?_
  refine lv_iushr (v := (nI (k / 8))) hx hb dX2_vecMadd16_38 (zi_ushr 3 (by decide) rfl (by omega)) ?_
  refine lv_iconst (v := (nI 1)) hx hb dX2_vecMadd16_39 (by decide) ?_
  refine lv_iand hx hb dX2_vecMadd16_40 ?_
  refine zt_i (v := (nI (k / 8 % 2))) (zi_1 _) ?_
  refine lv_i2l (v := ((nI (k / 8 % 2))).toInt64) hx hb dX2_vecMadd16_41 (rfl) ?_
  refine lv_lneg hx hb dX2_vecMadd16_42 ?_
  refine zt_l (v := (mk (k / 8 % 2))) (mk_neg (Nat.mod_lt _ (by decide))) ?_
  refine lv_lstore (lv' := [(13, .long (mk (k / 8 % 2))), (11, .long (mk (k / 4 % 2))), (9, .long (mk (k / 2 % 2))), (7, .long (mk (k % 2))), (6, .int (nI k)), (0, .ref r), (1, .int (nI 0)), (2, .ref q), (3, .int (nI 0)), (4, .int (nI k)), (5, .int (nI (8 * c8)))]) hx hb dX2_vecMadd16_43 hl (by decide) rfl (fun ls hl => ?_)
  refine lv_iconst (v := (nI 0)) hx hb dX2_vecMadd16_45 (by decide) ?_
  refine lv_istore (lv' := [(15, .int (nI 0)), (13, .long (mk (k / 8 % 2))), (11, .long (mk (k / 4 % 2))), (9, .long (mk (k / 2 % 2))), (7, .long (mk (k % 2))), (6, .int (nI k)), (0, .ref r), (1, .int (nI 0)), (2, .ref q), (3, .int (nI 0)), (4, .int (nI k)), (5, .int (nI (8 * c8)))]) hx hb dX2_vecMadd16_46 hl (by decide) rfl (fun ls hl => ?_)
  exact loop c8 0 s.heap [] ls (Nat.zero_add _) (by rw [Nat.mul_zero, vx_0]; exact hP) (by rw [Nat.mul_zero, vx_0]; exact hD) hS (lv_sub hl [0, 1, 2, 3, 4, 6, 7, 8, 9, 10, 11] rfl)
end
section
/-! ===== the desk's world ===== -/
abbrev DW (h0 g : Nat) (r : Nat → Nat) (cO cB : ClassId) (M : Nat → Nat → Nat) : va_W := [(h0, .inr (0, [.ref g])), (g, .inl (cO, 4, .inr (.inr (.inr (.inr (fun i => some (r i))))))), (r 0, .inl (cB, 32, .inl (bf (M 0)))), (r 1, .inl (cB, 32, .inl (bf (M 1)))), (r 2, .inl (cB, 32, .inl (bf (M 2)))), (r 3, .inl (cB, 32, .inl (bf (M 3))))]
abbrev DT (cO cB : ClassId) : List (ClassId × FieldType) := [(cO, .array .byte), (cB, .byte)]
def ix (x : Int32) : Nat := x.toBitVec.toNat % 4
theorem ix_lt (x : Int32) : ix x < 4 := Nat.mod_lt _ (by decide)
theorem zi_3 (x : Int32) : x &&& nI 3 = nI (ix x) := zi_and x 2 (by decide) rfl
theorem up_up {α : Type} (f : Nat → α) (k : Nat) (v w : α) : va_up (va_up f k v) k w = va_up f k w := by
  funext j
  unfold va_up
  by_cases h : j = k
  · rw [if_pos h, if_pos h]
  · rw [if_neg h, if_neg h, if_neg h]
theorem DW_row (h0 g : Nat) (r : Nat → Nat) (cO cB : ClassId) (M : Nat → Nat → Nat) {k : Nat} (hk : k < 4) : (DW h0 g r cO cB M)[2 + k]? = some (r k, .inl (cB, 32, .inl (bf (M k)))) := by
  rcases (show k = 0 ∨ k = 1 ∨ k = 2 ∨ k = 3 by omega) with rfl | rfl | rfl | rfl <;> rfl
theorem DW_row' (h0 g : Nat) (r : Nat → Nat) (cO cB : ClassId) (M : Nat → Nat → Nat) {k : Nat} (hk : k < 4) (u : Nat → Nat) : (DW h0 g r cO cB (va_up M k u))[2 + k]? = some (r k, .inl (cB, 32, .inl (bf u))) := by
  rw [DW_row _ _ _ _ _ _ hk, up_s]
theorem DW_set (h0 g : Nat) (r : Nat → Nat) (cO cB : ClassId) (M : Nat → Nat → Nat) {k : Nat} (hk : k < 4) (u : Nat → Nat) : (DW h0 g r cO cB M).set (2 + k) (r k, .inl (cB, 32, .inl (bf u))) = DW h0 g r cO cB (va_up M k u) := by
  have e : ∀ i : Nat, DW h0 g r cO cB (va_up M k u) = [(h0, .inr (0, [.ref g])), (g, .inl (cO, 4, .inr (.inr (.inr (.inr (fun i => some (r i))))))), (r 0, .inl (cB, 32, .inl (bf (va_up M k u 0)))), (r 1, .inl (cB, 32, .inl (bf (va_up M k u 1)))), (r 2, .inl (cB, 32, .inl (bf (va_up M k u 2)))), (r 3, .inl (cB, 32, .inl (bf (va_up M k u 3))))] := fun _ => rfl
  rw [e 0]
  rcases (show k = 0 ∨ k = 1 ∨ k = 2 ∨ k = 3 by omega) with rfl | rfl | rfl | rfl
  · rw [up_s, up_n M u (show 1 ≠ 0 by decide), up_n M u (show 2 ≠ 0 by decide), up_n M u (show 3 ≠ 0 by decide)]; rfl
  · rw [up_s, up_n M u (show 0 ≠ 1 by decide), up_n M u (show 2 ≠ 1 by decide), up_n M u (show 3 ≠ 1 by decide)]; rfl
  · rw [up_s, up_n M u (show 0 ≠ 2 by decide), up_n M u (show 1 ≠ 2 by decide), up_n M u (show 3 ≠ 2 by decide)]; rfl
  · rw [up_s, up_n M u (show 0 ≠ 3 by decide), up_n M u (show 1 ≠ 3 by decide), up_n M u (show 2 ≠ 3 by decide)]; rfl
theorem DW_1 (h0 g : Nat) (r : Nat → Nat) (cO cB : ClassId) (M : Nat → Nat → Nat) {k : Nat} (hk : k < 4) : [2 + k].map (fun i => (DW h0 g r cO cB M)[i]?) = ([(r k, .inl (cB, 32, .inl (bf (M k))))] : va_W).map some := by
  show [(DW h0 g r cO cB M)[2 + k]?] = [some _]
  rw [DW_row _ _ _ _ _ _ hk]
theorem DW_1' (h0 g : Nat) (r : Nat → Nat) (cO cB : ClassId) (M : Nat → Nat → Nat) {k : Nat} (hk : k < 4) (u : Nat → Nat) : [2 + k].map (fun i => (DW h0 g r cO cB (va_up M k u))[i]?) = ([(r k, .inl (cB, 32, .inl (bf u)))] : va_W).map some := by
  show [(DW h0 g r cO cB (va_up M k u))[2 + k]?] = [some _]
  rw [DW_row' _ _ _ _ _ _ hk]
theorem DW_2 (h0 g : Nat) (r : Nat → Nat) (cO cB : ClassId) (M : Nat → Nat → Nat) {k i : Nat} (hk : k < 4) (hi : i < 4) : [2 + k, 2 + i].map (fun i => (DW h0 g r cO cB M)[i]?) = ([(r k, .inl (cB, 32, .inl (bf (M k)))), (r i, .inl (cB, 32, .inl (bf (M i))))] : va_W).map some := by
  show [(DW h0 g r cO cB M)[2 + k]?, (DW h0 g r cO cB M)[2 + i]?] = [some _, some _]
  rw [DW_row _ _ _ _ _ _ hk, DW_row _ _ _ _ _ _ hi]
theorem zn_nd2 {k i : Nat} (h : ¬ k = i) : va_nd [2 + k, 2 + i] = true := by
  have h1 : ¬ 2 + k = 2 + i := by omega
  simp [va_nd, h]
theorem zn_nd1 (k : Nat) : va_nd [k] = true := by simp [va_nd]
/-- behind a call that has changed row k alone -/
theorem DW_new {dC : Nat → ClassId} {dI : Nat → Nat → Nat} {h0 g : Nat} {r : Nat → Nat} {cO cB : ClassId} {M : Nat → Nat → Nat} {k : Nat} {A : Nat → Prop} {H H1 : Heap} {u : Nat → Nat} (hk4 : k < 4) (hP : va_P (dC, dI) vwCl (DW h0 g r cO cB M) H) (hD : va_D A (DW h0 g r cO cB M)) (hk : ∀ q : Nat, q < H.size → ¬ va_A [(r k, .inl (cB, 32, .inl (bf (M k))))] H.size q → H1[q]? = H[q]?) (hP1 : va_P (dC, dI) vwCl [(r k, .inl (cB, 32, .inl (bf u)))] H1) : va_P (dC, dI) vwCl (DW h0 g r cO cB (va_up M k u)) H1 ∧ va_D A (DW h0 g r cO cB (va_up M k u)) := by
  have h1 := zj_set (i0 := 2 + k) (it := []) hP hD (DW_1 h0 g r cO cB M hk4) hk hP1
  have h2 := hD.set (p := 2 + k) (e := .inl (cB, 32, .inl (bf u))) (DW_row h0 g r cO cB M hk4)
  rw [DW_set _ _ _ _ _ _ hk4] at h1 h2
  exact ⟨h1, h2⟩
theorem DW_new' {dC : Nat → ClassId} {dI : Nat → Nat → Nat} {h0 g : Nat} {r : Nat → Nat} {cO cB : ClassId} {M : Nat → Nat → Nat} {k : Nat} {A : Nat → Prop} {H H1 : Heap} {u0 u : Nat → Nat} (hk4 : k < 4) (hP : va_P (dC, dI) vwCl (DW h0 g r cO cB (va_up M k u0)) H) (hD : va_D A (DW h0 g r cO cB (va_up M k u0))) (hk : ∀ q : Nat, q < H.size → ¬ va_A [(r k, .inl (cB, 32, .inl (bf u0)))] H.size q → H1[q]? = H[q]?) (hP1 : va_P (dC, dI) vwCl [(r k, .inl (cB, 32, .inl (bf u)))] H1) : va_P (dC, dI) vwCl (DW h0 g r cO cB (va_up M k u)) H1 ∧ va_D A (DW h0 g r cO cB (va_up M k u)) := by
  have h := DW_new (M := va_up M k u0) hk4 hP hD (by rw [up_s]; exact hk) hP1
  rw [up_up] at h
  exact h
theorem DW_new2 {dC : Nat → ClassId} {dI : Nat → Nat → Nat} {h0 g : Nat} {r : Nat → Nat} {cO cB : ClassId} {M : Nat → Nat → Nat} {k i : Nat} {A : Nat → Prop} {H H1 : Heap} {u : Nat → Nat} (hk4 : k < 4) (hi : i < 4) (hP : va_P (dC, dI) vwCl (DW h0 g r cO cB M) H) (hD : va_D A (DW h0 g r cO cB M)) (hk : ∀ q : Nat, q < H.size → ¬ va_A [(r k, .inl (cB, 32, .inl (bf (M k)))), (r i, .inl (cB, 32, .inl (bf (M i))))] H.size q → H1[q]? = H[q]?) (hP1 : va_P (dC, dI) vwCl [(r k, .inl (cB, 32, .inl (bf u))), (r i, .inl (cB, 32, .inl (bf (M i))))] H1) : va_P (dC, dI) vwCl (DW h0 g r cO cB (va_up M k u)) H1 ∧ va_D A (DW h0 g r cO cB (va_up M k u)) := by
  have h1 := zj_set (i0 := 2 + k) (it := [2 + i]) hP hD (DW_2 h0 g r cO cB M hk4 hi) hk hP1
  have h2 := hD.set (p := 2 + k) (e := .inl (cB, 32, .inl (bf u))) (DW_row h0 g r cO cB M hk4)
  rw [DW_set _ _ _ _ _ _ hk4] at h1 h2
  exact ⟨h1, h2⟩
/-- a big-endian word -/
def wd4 (f : Nat → Nat) (o W : Nat) : Nat → Nat := va_up (va_up (va_up (va_up f o (W / 16777216 % 256)) (o + 1) (W / 65536 % 256)) (o + 2) (W / 256 % 256)) (o + 3) (W % 256)
/-- what the desk's calls make of its four rows -/
def dk_lay (M : Nat → Nat → Nat) (k p a b c : Nat) : Nat → Nat → Nat := va_up M k (wd4 (wd4 (wd4 (M k) p a) (p + 4) b) (p + 8) c)
def dk_addIf (M : Nat → Nat → Nat) (i j k : Nat) : Nat → Nat → Nat := if i = j then M else va_up M i (vx (M i) (fun t => if k = 1 then M j t else 0) 32)
def dk_add (M : Nat → Nat → Nat) (i j : Nat) : Nat → Nat → Nat := if i = j then M else va_up M i (vx (M i) (M j) 32)
def dk_times (M : Nat → Nat → Nat) (i k n : Nat) : Nat → Nat → Nat := va_up M i (vm (g8 k) (M i) n)
def dk_timesN (M : Nat → Nat → Nat) (i k n : Nat) : Nat → Nat → Nat := va_up M i (vm (n4 k) (M i) n)
def dk_more (M : Nat → Nat → Nat) (i j k n : Nat) : Nat → Nat → Nat := if i = j then M else va_up M i (vx (M i) (fun t => g8 k (M j t)) n)
def dk_moreN (M : Nat → Nat → Nat) (i j k n : Nat) : Nat → Nat → Nat := if i = j then M else va_up M i (vx (M i) (fun t => n4 k (M j t)) n)
def dk_layN (M : Nat → Nat → Nat) (i n v : Nat) : Nat → Nat → Nat := va_up M i (setn (M i) n v)
end
section
/-! ===== contracts: OilVectorDesk ===== -/
set_option maxHeartbeats 4000000 in
set_option maxRecDepth 100000 in
/-- OilVectorDesk.word -/
theorem ctX0_word (l : Launch) (dC : Nat → ClassId) (dI : Nat → Nat → Nat) (r : Nat) (cB : ClassId) (f : Nat → Nat) (o : Nat) (ho : o + 4 ≤ 32) (x : Int32) : CtV l yX0_word cX0_word 3 (rmN 0 0) dC dI [.ref r, .int (nI o), .int x] [(r, .inl (cB, 32, .inl (bf f)))] [(cB, .byte)] (fun u : Nat → Nat => u = wd4 f o x.toBitVec.toNat) (fun u => [(r, .inl (cB, 32, .inl (bf u)))]) := by
  refine zm_v (by decide) (Nat.le_of_ble_eq_true rfl) ?_
  intro p e s m args below meth c A ls Q hx hb hml hown hts hA hK hP hD hS hl hret
  have hl : lv_has ls 3 [(0, .ref r), (1, .int (nI o)), (2, .int x)] := hl
  refine lv_aload_n hx hb dX0_word_0 rfl (lv_at hl 0 rfl) ?_
  refine lv_iload_n hx hb dX0_word_1 rfl (lv_at hl 1 rfl) ?_
  refine lv_iload_n hx hb dX0_word_2 rfl (lv_at hl 2 rfl) ?_
  refine lv_bipush (v := (nI 24)) hx hb dX0_word_3 (by decide) ?_
  refine lv_ishr hx hb dX0_word_5 ?_
  refine lv_i2b (v := (nB (x.toBitVec.toNat / 16777216 % 256))) hx hb dX0_word_6 ((nB_sshr 24 (by decide) x rfl).trans (nB_mod _).symm) ?_
  refine zb_ast hx hb hK hP hD hS 0 0 rfl rfl (by omega) (by decide) dX0_word_7 (fun H locs hP hD hS => ?_)
  have hP : va_P (dC, dI) vwCl [(r, .inl (cB, 32, .inl (bf (va_up f o (x.toBitVec.toNat / 16777216 % 256)))))] H := hP
  have hD : va_D A [(r, .inl (cB, 32, .inl (bf (va_up f o (x.toBitVec.toNat / 16777216 % 256)))))] := hD
  refine lv_aload_n hx hb dX0_word_8 rfl (lv_at hl 0 rfl) ?_
  refine lv_iload_n hx hb dX0_word_9 rfl (lv_at hl 1 rfl) ?_
  refine lv_iconst (v := (nI 1)) hx hb dX0_word_10 (by decide) ?_
  refine lv_iadd hx hb dX0_word_11 ?_
  refine zt_i (v := (nI (o + 1))) (nI_add _ _) ?_
  refine lv_iload_n hx hb dX0_word_12 rfl (lv_at hl 2 rfl) ?_
  refine lv_bipush (v := (nI 16)) hx hb dX0_word_13 (by decide) ?_
  refine lv_ishr hx hb dX0_word_15 ?_
  refine lv_i2b (v := (nB (x.toBitVec.toNat / 65536 % 256))) hx hb dX0_word_16 ((nB_sshr 16 (by decide) x rfl).trans (nB_mod _).symm) ?_
  refine zb_ast hx hb hK hP hD hS 0 0 rfl rfl (by omega) (by decide) dX0_word_17 (fun H locs hP hD hS => ?_)
  have hP : va_P (dC, dI) vwCl [(r, .inl (cB, 32, .inl (bf (va_up (va_up f o (x.toBitVec.toNat / 16777216 % 256)) (o + 1) (x.toBitVec.toNat / 65536 % 256)))))] H := hP
  have hD : va_D A [(r, .inl (cB, 32, .inl (bf (va_up (va_up f o (x.toBitVec.toNat / 16777216 % 256)) (o + 1) (x.toBitVec.toNat / 65536 % 256)))))] := hD
  refine lv_aload_n hx hb dX0_word_18 rfl (lv_at hl 0 rfl) ?_
  refine lv_iload_n hx hb dX0_word_19 rfl (lv_at hl 1 rfl) ?_
  refine lv_iconst (v := (nI 2)) hx hb dX0_word_20 (by decide) ?_
  refine lv_iadd hx hb dX0_word_21 ?_
  refine zt_i (v := (nI (o + 2))) (nI_add _ _) ?_
  refine lv_iload_n hx hb dX0_word_22 rfl (lv_at hl 2 rfl) ?_
  refine lv_bipush (v := (nI 8)) hx hb dX0_word_23 (by decide) ?_
  refine lv_ishr hx hb dX0_word_25 ?_
  refine lv_i2b (v := (nB (x.toBitVec.toNat / 256 % 256))) hx hb dX0_word_26 ((nB_sshr 8 (by decide) x rfl).trans (nB_mod _).symm) ?_
  refine zb_ast hx hb hK hP hD hS 0 0 rfl rfl (by omega) (by decide) dX0_word_27 (fun H locs hP hD hS => ?_)
  have hP : va_P (dC, dI) vwCl [(r, .inl (cB, 32, .inl (bf (va_up (va_up (va_up f o (x.toBitVec.toNat / 16777216 % 256)) (o + 1) (x.toBitVec.toNat / 65536 % 256)) (o + 2) (x.toBitVec.toNat / 256 % 256)))))] H := hP
  have hD : va_D A [(r, .inl (cB, 32, .inl (bf (va_up (va_up (va_up f o (x.toBitVec.toNat / 16777216 % 256)) (o + 1) (x.toBitVec.toNat / 65536 % 256)) (o + 2) (x.toBitVec.toNat / 256 % 256)))))] := hD
  refine lv_aload_n hx hb dX0_word_28 rfl (lv_at hl 0 rfl) ?_
  refine lv_iload_n hx hb dX0_word_29 rfl (lv_at hl 1 rfl) ?_
  refine lv_iconst (v := (nI 3)) hx hb dX0_word_30 (by decide) ?_
  refine lv_iadd hx hb dX0_word_31 ?_
  refine zt_i (v := (nI (o + 3))) (nI_add _ _) ?_
  refine lv_iload_n hx hb dX0_word_32 rfl (lv_at hl 2 rfl) ?_
  refine lv_i2b (v := (nB (x.toBitVec.toNat % 256))) hx hb dX0_word_33 ((nB_of x).trans (nB_mod _).symm) ?_
  refine zb_ast hx hb hK hP hD hS 0 0 rfl rfl (by omega) (by decide) dX0_word_34 (fun H locs hP hD hS => ?_)
  have hP : va_P (dC, dI) vwCl [(r, .inl (cB, 32, .inl (bf (va_up (va_up (va_up (va_up f o (x.toBitVec.toNat / 16777216 % 256)) (o + 1) (x.toBitVec.toNat / 65536 % 256)) (o + 2) (x.toBitVec.toNat / 256 % 256)) (o + 3) (x.toBitVec.toNat % 256)))))] H := hP
  have hD : va_D A [(r, .inl (cB, 32, .inl (bf (va_up (va_up (va_up (va_up f o (x.toBitVec.toNat / 16777216 % 256)) (o + 1) (x.toBitVec.toNat / 65536 % 256)) (o + 2) (x.toBitVec.toNat / 256 % 256)) (o + 3) (x.toBitVec.toNat % 256)))))] := hD
  exact hret _ _ _ _ _ rfl hP hS dX0_word_35
set_option maxHeartbeats 4000000 in
set_option maxRecDepth 100000 in
/-- OilVectorDesk.lay -/
theorem ctX0_lay (l : Launch) (dC : Nat → ClassId) (dI : Nat → Nat → Nat) (h0 g : Nat) (r : Nat → Nat) (cO cB : ClassId) (M : Nat → Nat → Nat) (x y a b k : Int32) : CtV l yX0_lay cX0_lay 8 (rmN 1 22) dC dI [.ref h0, .int x, .int y, .int a, .int b, .int k] (DW h0 g r cO cB M) (DT cO cB) (fun u : Nat → Nat → Nat => u = dk_lay M (ix x) (y.toBitVec.toNat % 2147483648 % 6 * 4) a.toBitVec.toNat b.toBitVec.toNat k.toBitVec.toNat) (fun u => DW h0 g r cO cB u) := by
  refine zm_v (by decide) (Nat.le_of_ble_eq_true rfl) ?_
  intro p e s m args below meth c A ls Q hx hb hml hown hts hA hK hP hD hS hl hret
  have hl : lv_has ls 8 [(0, .ref h0), (1, .int x), (2, .int y), (3, .int a), (4, .int b), (5, .int k)] := hl
  have hp : (y.toBitVec.toNat % 2147483648 % 6 * 4) ≤ 20 := by omega
  refine lv_aload_n hx hb dX0_lay_0 rfl (lv_at hl 0 rfl) ?_
  refine va_get (D := (dC, dI)) (ci := 0) (v := .ref g) (C := RX0) (T := TX0) (N := 1) hx hb hts in_X0 hown hK hP 0 rfl rfl 0 (by decide) (hts _ q20) (fun _ h9 => h9) rfl dX0_lay_1 ?_
  refine lv_iload_n hx hb dX0_lay_4 rfl (lv_at hl 1 rfl) ?_
  refine lv_iconst (v := (nI 3)) hx hb dX0_lay_5 (by decide) ?_
  refine lv_iand hx hb dX0_lay_6 ?_
  refine zt_i (v := (nI (ix x))) (zi_3 x) ?_
  refine za_ald hx hb hK hP 1 0 rfl rfl (ix_lt x) (by decide) rfl dX0_lay_7 ?_
  refine lv_astore (lv' := [(6, .ref (r (ix x))), (0, .ref h0), (1, .int x), (2, .int y), (3, .int a), (4, .int b), (5, .int k)]) hx hb dX0_lay_8 hl (by decide) rfl (fun ls hl => ?_)
  refine lv_iload_n hx hb dX0_lay_10 rfl (lv_at hl 3 rfl) ?_
  refine lv_ldc (v := 2147483647) hx hb hown (hts _ q29) dX0_lay_11 ?_
  refine zt_i (v := (nI 2147483647)) (rfl) ?_
  refine lv_iand hx hb dX0_lay_13 ?_
  refine zt_i (v := (nI (y.toBitVec.toNat % 2147483648))) (zi_and y 31 (by decide) rfl) ?_
  refine lv_bipush (v := (nI 6)) hx hb dX0_lay_14 (by decide) ?_
  refine lv_irem hx hb dX0_lay_16 (by decide) ?_
  refine zt_i (v := (nI (y.toBitVec.toNat % 2147483648 % 6))) (pk_rem (by omega) (by decide) (by decide)) ?_
  refine lv_iconst (v := (nI 4)) hx hb dX0_lay_17 (by decide) ?_
  refine lv_imul hx hb dX0_lay_18 ?_
  refine zt_i (v := (nI (y.toBitVec.toNat % 2147483648 % 6 * 4))) (pk_mul _ _) ?_
  refine lv_istore (lv' := [(7, .int (nI (y.toBitVec.toNat % 2147483648 % 6 * 4))), (6, .ref (r (ix x))), (0, .ref h0), (1, .int x), (2, .int y), (3, .int a), (4, .int b), (5, .int k)]) hx hb dX0_lay_19 hl (by decide) rfl (fun ls hl => ?_)
  refine lv_aload hx hb dX0_lay_21 (lv_at hl 1 rfl) ?_
  refine lv_iload hx hb dX0_lay_23 (lv_at hl 0 rfl) ?_
  refine lv_iload_n hx hb dX0_lay_25 rfl (lv_at hl 5 rfl) ?_
  refine zc_Sv (As := [.ref (r (ix x)), .int (nI (y.toBitVec.toNat % 2147483648 % 6 * 4)), .int a]) (rest := []) 3 (ctX0_word l dC dI (r (ix x)) cB (M (ix x)) (y.toBitVec.toNat % 2147483648 % 6 * 4) (by omega) a) (lw_S q30 q31 q4 q32) (by decide +kernel) ⟨Nat.le_of_ble_eq_true rfl, Nat.le_of_ble_eq_true rfl⟩ ⟨rfl, rfl⟩ ⟨Nat.zero_le _, Nat.zero_le _⟩ hx hb hml hown hts hA hK hP hD hS [2 + ix x] [1] (zn_nd1 _) (DW_1 _ _ _ _ _ _ (ix_lt x)) rfl rfl hl.1 rfl (Nat.le_of_ble_eq_true rfl) dX0_lay_26 (fun u H locs hu hP1 hk hS => ?_)
  subst hu
  obtain ⟨hP, hD⟩ := DW_new (ix_lt x) hP hD hk hP1
  refine lv_aload hx hb dX0_lay_29 (lv_at hl 1 rfl) ?_
  refine lv_iload hx hb dX0_lay_31 (lv_at hl 0 rfl) ?_
  refine lv_iconst (v := (nI 4)) hx hb dX0_lay_33 (by decide) ?_
  refine lv_iadd hx hb dX0_lay_34 ?_
  refine zt_i (v := (nI ((y.toBitVec.toNat % 2147483648 % 6 * 4) + 4))) (nI_add _ _) ?_
  refine lv_iload hx hb dX0_lay_35 (lv_at hl 6 rfl) ?_
  refine zc_Sv (As := [.ref (r (ix x)), .int (nI ((y.toBitVec.toNat % 2147483648 % 6 * 4) + 4)), .int b]) (rest := []) 3 (ctX0_word l dC dI (r (ix x)) cB (wd4 (M (ix x)) (y.toBitVec.toNat % 2147483648 % 6 * 4) a.toBitVec.toNat) ((y.toBitVec.toNat % 2147483648 % 6 * 4) + 4) (by omega) b) (lw_S q30 q31 q4 q32) (by decide +kernel) ⟨Nat.le_of_ble_eq_true rfl, Nat.le_of_ble_eq_true rfl⟩ ⟨rfl, rfl⟩ ⟨Nat.zero_le _, Nat.zero_le _⟩ hx hb hml hown hts hA hK hP hD hS [2 + ix x] [1] (zn_nd1 _) (DW_1' _ _ _ _ _ _ (ix_lt x) _) rfl rfl hl.1 rfl (Nat.le_of_ble_eq_true rfl) dX0_lay_37 (fun u H locs hu hP1 hk hS => ?_)
  subst hu
  obtain ⟨hP, hD⟩ := DW_new' (ix_lt x) hP hD hk hP1
  refine lv_aload hx hb dX0_lay_40 (lv_at hl 1 rfl) ?_
  refine lv_iload hx hb dX0_lay_42 (lv_at hl 0 rfl) ?_
  refine lv_bipush (v := (nI 8)) hx hb dX0_lay_44 (by decide) ?_
  refine lv_iadd hx hb dX0_lay_46 ?_
  refine zt_i (v := (nI ((y.toBitVec.toNat % 2147483648 % 6 * 4) + 8))) (nI_add _ _) ?_
  refine lv_iload hx hb dX0_lay_47 (lv_at hl 7 rfl) ?_
  refine zc_Sv (As := [.ref (r (ix x)), .int (nI ((y.toBitVec.toNat % 2147483648 % 6 * 4) + 8)), .int k]) (rest := []) 3 (ctX0_word l dC dI (r (ix x)) cB (wd4 (wd4 (M (ix x)) (y.toBitVec.toNat % 2147483648 % 6 * 4) a.toBitVec.toNat) ((y.toBitVec.toNat % 2147483648 % 6 * 4) + 4) b.toBitVec.toNat) ((y.toBitVec.toNat % 2147483648 % 6 * 4) + 8) (by omega) k) (lw_S q30 q31 q4 q32) (by decide +kernel) ⟨Nat.le_of_ble_eq_true rfl, Nat.le_of_ble_eq_true rfl⟩ ⟨rfl, rfl⟩ ⟨Nat.zero_le _, Nat.zero_le _⟩ hx hb hml hown hts hA hK hP hD hS [2 + ix x] [1] (zn_nd1 _) (DW_1' _ _ _ _ _ _ (ix_lt x) _) rfl rfl hl.1 rfl (Nat.le_of_ble_eq_true rfl) dX0_lay_49 (fun u H locs hu hP1 hk hS => ?_)
  subst hu
  obtain ⟨hP, hD⟩ := DW_new' (ix_lt x) hP hD hk hP1
  exact hret _ _ _ _ _ rfl hP hS dX0_lay_52
end
section
set_option maxHeartbeats 4000000 in
set_option maxRecDepth 100000 in
/-- OilVectorDesk.add -/
theorem ctX0_add (l : Launch) (dC : Nat → ClassId) (dI : Nat → Nat → Nat) (h0 g : Nat) (r : Nat → Nat) (cO cB : ClassId) (M : Nat → Nat → Nat) (x y : Int32) : CtV l yX0_add cX0_add 3 (rmN 1 25) dC dI [.ref h0, .int x, .int y] (DW h0 g r cO cB M) (DT cO cB) (fun u : Nat → Nat → Nat => u = dk_add M (ix x) (ix y)) (fun u => DW h0 g r cO cB u) := by
  refine zm_v (by decide) (Nat.le_of_ble_eq_true rfl) ?_
  intro p e s m args below meth c A ls Q hx hb hml hown hts hA hK hP hD hS hl hret
  have hl : lv_has ls 3 [(0, .ref h0), (1, .int x), (2, .int y)] := hl
  refine lv_iload_n hx hb dX0_add_0 rfl (lv_at hl 1 rfl) ?_
  refine lv_iconst (v := (nI 3)) hx hb dX0_add_1 (by decide) ?_
  refine lv_iand hx hb dX0_add_2 ?_
  refine zt_i (v := (nI (ix x))) (zi_3 x) ?_
  refine lv_iload_n hx hb dX0_add_3 rfl (lv_at hl 2 rfl) ?_
  refine lv_iconst (v := (nI 3)) hx hb dX0_add_4 (by decide) ?_
  refine lv_iand hx hb dX0_add_5 ?_
  refine zt_i (v := (nI (ix y))) (zi_3 y) ?_
  refine lv_icmp_eq (tgt := 32) hx hb dX0_add_6 (by decide) (fun cc => ?_) (fun cc => ?_)
  · have hc : ix x = ix y := (nI_eq (by have := ix_lt x; omega) (by have := ix_lt y; omega)).mp cc
    exact hret M _ _ _ _ (if_pos hc).symm hP hS dX0_add_32
  · have hc : ¬ ix x = ix y := fun h => cc (congrArg nI h)
    refine lv_aload_n hx hb dX0_add_9 rfl (lv_at hl 0 rfl) ?_
    refine va_get (D := (dC, dI)) (ci := 0) (v := .ref g) (C := RX0) (T := TX0) (N := 1) hx hb hts in_X0 hown hK hP 0 rfl rfl 0 (by decide) (hts _ q20) (fun _ h9 => h9) rfl dX0_add_10 ?_
    refine lv_iload_n hx hb dX0_add_13 rfl (lv_at hl 1 rfl) ?_
    refine lv_iconst (v := (nI 3)) hx hb dX0_add_14 (by decide) ?_
    refine lv_iand hx hb dX0_add_15 ?_
    refine zt_i (v := (nI (ix x))) (zi_3 x) ?_
    refine za_ald hx hb hK hP 1 0 rfl rfl (ix_lt x) (by decide) rfl dX0_add_16 ?_
    refine lv_iconst (v := (nI 0)) hx hb dX0_add_17 (by decide) ?_
    refine lv_aload_n hx hb dX0_add_18 rfl (lv_at hl 0 rfl) ?_
    refine va_get (D := (dC, dI)) (ci := 0) (v := .ref g) (C := RX0) (T := TX0) (N := 1) hx hb hts in_X0 hown hK hP 0 rfl rfl 0 (by decide) (hts _ q20) (fun _ h9 => h9) rfl dX0_add_19 ?_
    refine lv_iload_n hx hb dX0_add_22 rfl (lv_at hl 2 rfl) ?_
    refine lv_iconst (v := (nI 3)) hx hb dX0_add_23 (by decide) ?_
    refine lv_iand hx hb dX0_add_24 ?_
    refine zt_i (v := (nI (ix y))) (zi_3 y) ?_
    refine za_ald hx hb hK hP 1 0 rfl rfl (ix_lt y) (by decide) rfl dX0_add_25 ?_
    refine lv_iconst (v := (nI 0)) hx hb dX0_add_26 (by decide) ?_
    refine lv_bipush (v := (nI 32)) hx hb dX0_add_27 (by decide) ?_
    refine zc_Sv (As := [.ref (r (ix x)), .int (nI 0), .ref (r (ix y)), .int (nI 0), .int (nI 32)]) (rest := []) 5 (ctX2_vecAdd l dC dI (r (ix x)) (r (ix y)) cB (M (ix x)) (M (ix y))) (lw_S q37 q38 q6 q39) (by decide +kernel) ⟨Nat.le_of_ble_eq_true rfl, Nat.le_of_ble_eq_true rfl⟩ ⟨rfl, rfl⟩ ⟨Nat.zero_le _, Nat.zero_le _⟩ hx hb hml hown hts hA hK hP hD hS [2 + ix x, 2 + ix y] [1] (zn_nd2 hc) (DW_2 _ _ _ _ _ _ (ix_lt x) (ix_lt y)) rfl rfl hl.1 rfl (Nat.le_of_ble_eq_true rfl) dX0_add_29 (fun u H locs hu hP1 hk hS => ?_)
    subst hu
    obtain ⟨hP, hD⟩ := DW_new2 (ix_lt x) (ix_lt y) hP hD hk hP1
    exact hret _ _ _ _ _ (if_neg hc).symm hP hS dX0_add_32
set_option maxHeartbeats 4000000 in
set_option maxRecDepth 100000 in
/-- OilVectorDesk.addIf -/
theorem ctX0_addIf (l : Launch) (dC : Nat → ClassId) (dI : Nat → Nat → Nat) (h0 g : Nat) (r : Nat → Nat) (cO cB : ClassId) (M : Nat → Nat → Nat) (x y z : Int32) : CtV l yX0_addIf cX0_addIf 4 (rmN 1 27) dC dI [.ref h0, .int x, .int y, .int z] (DW h0 g r cO cB M) (DT cO cB) (fun u : Nat → Nat → Nat => u = dk_addIf M (ix x) (ix y) (z.toBitVec.toNat % 2)) (fun u => DW h0 g r cO cB u) := by
  refine zm_v (by decide) (Nat.le_of_ble_eq_true rfl) ?_
  intro p e s m args below meth c A ls Q hx hb hml hown hts hA hK hP hD hS hl hret
  have hl : lv_has ls 4 [(0, .ref h0), (1, .int x), (2, .int y), (3, .int z)] := hl
  refine lv_iload_n hx hb dX0_addIf_0 rfl (lv_at hl 1 rfl) ?_
  refine lv_iconst (v := (nI 3)) hx hb dX0_addIf_1 (by decide) ?_
  refine lv_iand hx hb dX0_addIf_2 ?_
  refine zt_i (v := (nI (ix x))) (zi_3 x) ?_
  refine lv_iload_n hx hb dX0_addIf_3 rfl (lv_at hl 2 rfl) ?_
  refine lv_iconst (v := (nI 3)) hx hb dX0_addIf_4 (by decide) ?_
  refine lv_iand hx hb dX0_addIf_5 ?_
  refine zt_i (v := (nI (ix y))) (zi_3 y) ?_
  refine lv_icmp_eq (tgt := 35) hx hb dX0_addIf_6 (by decide) (fun cc => ?_) (fun cc => ?_)
  · have hc : ix x = ix y := (nI_eq (by have := ix_lt x; omega) (by have := ix_lt y; omega)).mp cc
    exact hret M _ _ _ _ (if_pos hc).symm hP hS dX0_addIf_35
  · have hc : ¬ ix x = ix y := fun h => cc (congrArg nI h)
    refine lv_aload_n hx hb dX0_addIf_9 rfl (lv_at hl 0 rfl) ?_
    refine va_get (D := (dC, dI)) (ci := 0) (v := .ref g) (C := RX0) (T := TX0) (N := 1) hx hb hts in_X0 hown hK hP 0 rfl rfl 0 (by decide) (hts _ q20) (fun _ h9 => h9) rfl dX0_addIf_10 ?_
    refine lv_iload_n hx hb dX0_addIf_13 rfl (lv_at hl 1 rfl) ?_
    refine lv_iconst (v := (nI 3)) hx hb dX0_addIf_14 (by decide) ?_
    refine lv_iand hx hb dX0_addIf_15 ?_
    refine zt_i (v := (nI (ix x))) (zi_3 x) ?_
    refine za_ald hx hb hK hP 1 0 rfl rfl (ix_lt x) (by decide) rfl dX0_addIf_16 ?_
    refine lv_iconst (v := (nI 0)) hx hb dX0_addIf_17 (by decide) ?_
    refine lv_iload_n hx hb dX0_addIf_18 rfl (lv_at hl 3 rfl) ?_
    refine lv_iconst (v := (nI 1)) hx hb dX0_addIf_19 (by decide) ?_
    refine lv_iand hx hb dX0_addIf_20 ?_
    refine zt_i (v := (nI (z.toBitVec.toNat % 2))) (zi_and z 1 (by decide) rfl) ?_
    refine lv_aload_n hx hb dX0_addIf_21 rfl (lv_at hl 0 rfl) ?_
    refine va_get (D := (dC, dI)) (ci := 0) (v := .ref g) (C := RX0) (T := TX0) (N := 1) hx hb hts in_X0 hown hK hP 0 rfl rfl 0 (by decide) (hts _ q20) (fun _ h9 => h9) rfl dX0_addIf_22 ?_
    refine lv_iload_n hx hb dX0_addIf_25 rfl (lv_at hl 2 rfl) ?_
    refine lv_iconst (v := (nI 3)) hx hb dX0_addIf_26 (by decide) ?_
    refine lv_iand hx hb dX0_addIf_27 ?_
    refine zt_i (v := (nI (ix y))) (zi_3 y) ?_
    refine za_ald hx hb hK hP 1 0 rfl rfl (ix_lt y) (by decide) rfl dX0_addIf_28 ?_
    refine lv_iconst (v := (nI 0)) hx hb dX0_addIf_29 (by decide) ?_
    refine lv_bipush (v := (nI 32)) hx hb dX0_addIf_30 (by decide) ?_
    refine zc_Sv (As := [.ref (r (ix x)), .int (nI 0), .int (nI (z.toBitVec.toNat % 2)), .ref (r (ix y)), .int (nI 0), .int (nI 32)]) (rest := []) 6 (ctX2_vecCond l dC dI (r (ix x)) (r (ix y)) cB (M (ix x)) (M (ix y)) (z.toBitVec.toNat % 2) (Nat.mod_lt _ (by decide))) (lw_S q44 q45 q6 q46) (by decide +kernel) ⟨Nat.le_of_ble_eq_true rfl, Nat.le_of_ble_eq_true rfl⟩ ⟨rfl, rfl⟩ ⟨Nat.zero_le _, Nat.zero_le _⟩ hx hb hml hown hts hA hK hP hD hS [2 + ix x, 2 + ix y] [1] (zn_nd2 hc) (DW_2 _ _ _ _ _ _ (ix_lt x) (ix_lt y)) rfl rfl hl.1 rfl (Nat.le_of_ble_eq_true rfl) dX0_addIf_32 (fun u H locs hu hP1 hk hS => ?_)
    subst hu
    obtain ⟨hP, hD⟩ := DW_new2 (ix_lt x) (ix_lt y) hP hD hk hP1
    exact hret _ _ _ _ _ (if_neg hc).symm hP hS dX0_addIf_35
end
section
set_option maxHeartbeats 4000000 in
set_option maxRecDepth 100000 in
/-- OilVectorDesk.more -/
theorem ctX0_more (l : Launch) (dC : Nat → ClassId) (dI : Nat → Nat → Nat) (h0 g : Nat) (r : Nat → Nat) (cO cB : ClassId) (M : Nat → Nat → Nat) (hM : ∀ k j, M k j < 256) (x y z v : Int32) : CtV l yX0_more cX0_more 5 (rmN 3 75) dC dI [.ref h0, .int x, .int y, .int z, .int v] (DW h0 g r cO cB M) (DT cO cB) (fun u : Nat → Nat → Nat => u = dk_more M (ix x) (ix y) (z.toBitVec.toNat % 256) (8 * (1 + ix v))) (fun u => DW h0 g r cO cB u) := by
  refine zm_v (by decide) (Nat.le_of_ble_eq_true rfl) ?_
  intro p e s m args below meth c A ls Q hx hb hml hown hts hA hK hP hD hS hl hret
  have hl : lv_has ls 5 [(0, .ref h0), (1, .int x), (2, .int y), (3, .int z), (4, .int v)] := hl
  refine lv_iload_n hx hb dX0_more_0 rfl (lv_at hl 1 rfl) ?_
  refine lv_iconst (v := (nI 3)) hx hb dX0_more_1 (by decide) ?_
  refine lv_iand hx hb dX0_more_2 ?_
  refine zt_i (v := (nI (ix x))) (zi_3 x) ?_
  refine lv_iload_n hx hb dX0_more_3 rfl (lv_at hl 2 rfl) ?_
  refine lv_iconst (v := (nI 3)) hx hb dX0_more_4 (by decide) ?_
  refine lv_iand hx hb dX0_more_5 ?_
  refine zt_i (v := (nI (ix y))) (zi_3 y) ?_
  refine lv_icmp_eq (tgt := 44) hx hb dX0_more_6 (by decide) (fun cc => ?_) (fun cc => ?_)
  · have hc : ix x = ix y := (nI_eq (by have := ix_lt x; omega) (by have := ix_lt y; omega)).mp cc
    exact hret M _ _ _ _ (if_pos hc).symm hP hS dX0_more_44
  · have hc : ¬ ix x = ix y := fun h => cc (congrArg nI h)
    refine lv_aload_n hx hb dX0_more_9 rfl (lv_at hl 0 rfl) ?_
    refine va_get (D := (dC, dI)) (ci := 0) (v := .ref g) (C := RX0) (T := TX0) (N := 1) hx hb hts in_X0 hown hK hP 0 rfl rfl 0 (by decide) (hts _ q20) (fun _ h9 => h9) rfl dX0_more_10 ?_
    refine lv_iload_n hx hb dX0_more_13 rfl (lv_at hl 1 rfl) ?_
    refine lv_iconst (v := (nI 3)) hx hb dX0_more_14 (by decide) ?_
    refine lv_iand hx hb dX0_more_15 ?_
    refine zt_i (v := (nI (ix x))) (zi_3 x) ?_
    refine za_ald hx hb hK hP 1 0 rfl rfl (ix_lt x) (by decide) rfl dX0_more_16 ?_
    refine lv_iconst (v := (nI 0)) hx hb dX0_more_17 (by decide) ?_
    refine lv_aload_n hx hb dX0_more_18 rfl (lv_at hl 0 rfl) ?_
    refine va_get (D := (dC, dI)) (ci := 0) (v := .ref g) (C := RX0) (T := TX0) (N := 1) hx hb hts in_X0 hown hK hP 0 rfl rfl 0 (by decide) (hts _ q20) (fun _ h9 => h9) rfl dX0_more_19 ?_
    refine lv_iload_n hx hb dX0_more_22 rfl (lv_at hl 2 rfl) ?_
    refine lv_iconst (v := (nI 3)) hx hb dX0_more_23 (by decide) ?_
    refine lv_iand hx hb dX0_more_24 ?_
    refine zt_i (v := (nI (ix y))) (zi_3 y) ?_
    refine za_ald hx hb hK hP 1 0 rfl rfl (ix_lt y) (by decide) rfl dX0_more_25 ?_
    refine lv_iconst (v := (nI 0)) hx hb dX0_more_26 (by decide) ?_
    refine lv_iload_n hx hb dX0_more_27 rfl (lv_at hl 3 rfl) ?_
    refine lv_sipush (v := (nI 255)) hx hb dX0_more_28 (by decide) ?_
    refine lv_iand hx hb dX0_more_31 ?_
    refine zt_i (v := (nI (z.toBitVec.toNat % 256))) (zi_and z 8 (by decide) rfl) ?_
    refine lv_bipush (v := (nI 8)) hx hb dX0_more_32 (by decide) ?_
    refine lv_iconst (v := (nI 1)) hx hb dX0_more_34 (by decide) ?_
    refine lv_iload hx hb dX0_more_35 (lv_at hl 4 rfl) ?_
    refine lv_iconst (v := (nI 3)) hx hb dX0_more_37 (by decide) ?_
    refine lv_iand hx hb dX0_more_38 ?_
    refine zt_i (v := (nI (ix v))) (zi_3 v) ?_
    refine lv_iadd hx hb dX0_more_39 ?_
    refine zt_i (v := (nI (1 + ix v))) (nI_add _ _) ?_
    refine lv_imul hx hb dX0_more_40 ?_
    refine zt_i (v := (nI (8 * (1 + ix v)))) (pk_mul _ _) ?_
    refine zc_Sv (As := [.ref (r (ix x)), .int (nI 0), .ref (r (ix y)), .int (nI 0), .int (nI (z.toBitVec.toNat % 256)), .int (nI (8 * (1 + ix v)))]) (rest := []) 6 (ctX2_ma256 l dC dI (r (ix x)) (r (ix y)) cB (M (ix x)) (M (ix y)) (hM _) (hM _) (z.toBitVec.toNat % 256) (Nat.mod_lt _ (by decide)) (1 + ix v) (by have := ix_lt v; omega)) (lw_S q90 q91 q6 q92) (by decide +kernel) ⟨Nat.le_of_ble_eq_true rfl, Nat.le_of_ble_eq_true rfl⟩ ⟨rfl, rfl⟩ ⟨Nat.zero_le _, Nat.zero_le _⟩ hx hb hml hown hts hA hK hP hD hS [2 + ix x, 2 + ix y] [1] (zn_nd2 hc) (DW_2 _ _ _ _ _ _ (ix_lt x) (ix_lt y)) rfl rfl hl.1 rfl (Nat.le_of_ble_eq_true rfl) dX0_more_41 (fun u H locs hu hP1 hk hS => ?_)
    subst hu
    obtain ⟨hP, hD⟩ := DW_new2 (ix_lt x) (ix_lt y) hP hD hk hP1
    exact hret _ _ _ _ _ (if_neg hc).symm hP hS dX0_more_44
set_option maxHeartbeats 4000000 in
set_option maxRecDepth 100000 in
/-- OilVectorDesk.moreNibble -/
theorem ctX0_moreN (l : Launch) (dC : Nat → ClassId) (dI : Nat → Nat → Nat) (h0 g : Nat) (r : Nat → Nat) (cO cB : ClassId) (M : Nat → Nat → Nat) (hM : ∀ k j, M k j < 256) (x y z v : Int32) : CtV l yX0_moreNibble cX0_moreNibble 5 (rmN 3 83) dC dI [.ref h0, .int x, .int y, .int z, .int v] (DW h0 g r cO cB M) (DT cO cB) (fun u : Nat → Nat → Nat => u = dk_moreN M (ix x) (ix y) (z.toBitVec.toNat % 16) (8 * (1 + ix v))) (fun u => DW h0 g r cO cB u) := by
  refine zm_v (by decide) (Nat.le_of_ble_eq_true rfl) ?_
  intro p e s m args below meth c A ls Q hx hb hml hown hts hA hK hP hD hS hl hret
  have hl : lv_has ls 5 [(0, .ref h0), (1, .int x), (2, .int y), (3, .int z), (4, .int v)] := hl
  refine lv_iload_n hx hb dX0_moreNibble_0 rfl (lv_at hl 1 rfl) ?_
  refine lv_iconst (v := (nI 3)) hx hb dX0_moreNibble_1 (by decide) ?_
  refine lv_iand hx hb dX0_moreNibble_2 ?_
  refine zt_i (v := (nI (ix x))) (zi_3 x) ?_
  refine lv_iload_n hx hb dX0_moreNibble_3 rfl (lv_at hl 2 rfl) ?_
  refine lv_iconst (v := (nI 3)) hx hb dX0_moreNibble_4 (by decide) ?_
  refine lv_iand hx hb dX0_moreNibble_5 ?_
  refine zt_i (v := (nI (ix y))) (zi_3 y) ?_
  refine lv_icmp_eq (tgt := 43) hx hb dX0_moreNibble_6 (by decide) (fun cc => ?_) (fun cc => ?_)
  · have hc : ix x = ix y := (nI_eq (by have := ix_lt x; omega) (by have := ix_lt y; omega)).mp cc
    exact hret M _ _ _ _ (if_pos hc).symm hP hS dX0_moreNibble_43
  · have hc : ¬ ix x = ix y := fun h => cc (congrArg nI h)
    refine lv_aload_n hx hb dX0_moreNibble_9 rfl (lv_at hl 0 rfl) ?_
    refine va_get (D := (dC, dI)) (ci := 0) (v := .ref g) (C := RX0) (T := TX0) (N := 1) hx hb hts in_X0 hown hK hP 0 rfl rfl 0 (by decide) (hts _ q20) (fun _ h9 => h9) rfl dX0_moreNibble_10 ?_
    refine lv_iload_n hx hb dX0_moreNibble_13 rfl (lv_at hl 1 rfl) ?_
    refine lv_iconst (v := (nI 3)) hx hb dX0_moreNibble_14 (by decide) ?_
    refine lv_iand hx hb dX0_moreNibble_15 ?_
    refine zt_i (v := (nI (ix x))) (zi_3 x) ?_
    refine za_ald hx hb hK hP 1 0 rfl rfl (ix_lt x) (by decide) rfl dX0_moreNibble_16 ?_
    refine lv_iconst (v := (nI 0)) hx hb dX0_moreNibble_17 (by decide) ?_
    refine lv_aload_n hx hb dX0_moreNibble_18 rfl (lv_at hl 0 rfl) ?_
    refine va_get (D := (dC, dI)) (ci := 0) (v := .ref g) (C := RX0) (T := TX0) (N := 1) hx hb hts in_X0 hown hK hP 0 rfl rfl 0 (by decide) (hts _ q20) (fun _ h9 => h9) rfl dX0_moreNibble_19 ?_
    refine lv_iload_n hx hb dX0_moreNibble_22 rfl (lv_at hl 2 rfl) ?_
    refine lv_iconst (v := (nI 3)) hx hb dX0_moreNibble_23 (by decide) ?_
    refine lv_iand hx hb dX0_moreNibble_24 ?_
    refine zt_i (v := (nI (ix y))) (zi_3 y) ?_
    refine za_ald hx hb hK hP 1 0 rfl rfl (ix_lt y) (by decide) rfl dX0_moreNibble_25 ?_
    refine lv_iconst (v := (nI 0)) hx hb dX0_moreNibble_26 (by decide) ?_
    refine lv_iload_n hx hb dX0_moreNibble_27 rfl (lv_at hl 3 rfl) ?_
    refine lv_bipush (v := (nI 15)) hx hb dX0_moreNibble_28 (by decide) ?_
    refine lv_iand hx hb dX0_moreNibble_30 ?_
    refine zt_i (v := (nI (z.toBitVec.toNat % 16))) (zi_and z 4 (by decide) rfl) ?_
    refine lv_bipush (v := (nI 8)) hx hb dX0_moreNibble_31 (by decide) ?_
    refine lv_iconst (v := (nI 1)) hx hb dX0_moreNibble_33 (by decide) ?_
    refine lv_iload hx hb dX0_moreNibble_34 (lv_at hl 4 rfl) ?_
    refine lv_iconst (v := (nI 3)) hx hb dX0_moreNibble_36 (by decide) ?_
    refine lv_iand hx hb dX0_moreNibble_37 ?_
    refine zt_i (v := (nI (ix v))) (zi_3 v) ?_
    refine lv_iadd hx hb dX0_moreNibble_38 ?_
    refine zt_i (v := (nI (1 + ix v))) (nI_add _ _) ?_
    refine lv_imul hx hb dX0_moreNibble_39 ?_
    refine zt_i (v := (nI (8 * (1 + ix v)))) (pk_mul _ _) ?_
    refine zc_Sv (As := [.ref (r (ix x)), .int (nI 0), .ref (r (ix y)), .int (nI 0), .int (nI (z.toBitVec.toNat % 16)), .int (nI (8 * (1 + ix v)))]) (rest := []) 6 (ctX2_ma16 l dC dI (r (ix x)) (r (ix y)) cB (M (ix x)) (M (ix y)) (hM _) (hM _) (z.toBitVec.toNat % 16) (Nat.mod_lt _ (by decide)) (1 + ix v) (by have := ix_lt v; omega)) (lw_S q97 q98 q6 q99) (by decide +kernel) ⟨Nat.le_of_ble_eq_true rfl, Nat.le_of_ble_eq_true rfl⟩ ⟨rfl, rfl⟩ ⟨Nat.zero_le _, Nat.zero_le _⟩ hx hb hml hown hts hA hK hP hD hS [2 + ix x, 2 + ix y] [1] (zn_nd2 hc) (DW_2 _ _ _ _ _ _ (ix_lt x) (ix_lt y)) rfl rfl hl.1 rfl (Nat.le_of_ble_eq_true rfl) dX0_moreNibble_40 (fun u H locs hu hP1 hk hS => ?_)
    subst hu
    obtain ⟨hP, hD⟩ := DW_new2 (ix_lt x) (ix_lt y) hP hD hk hP1
    exact hret _ _ _ _ _ (if_neg hc).symm hP hS dX0_moreNibble_43
end
section
set_option maxHeartbeats 4000000 in
set_option maxRecDepth 100000 in
/-- OilVectorDesk.times -/
theorem ctX0_times (l : Launch) (dC : Nat → ClassId) (dI : Nat → Nat → Nat) (h0 g : Nat) (r : Nat → Nat) (cO cB : ClassId) (M : Nat → Nat → Nat) (hM : ∀ k j, M k j < 256) (x y z : Int32) : CtV l yX0_times cX0_times 4 (rmN 3 71) dC dI [.ref h0, .int x, .int y, .int z] (DW h0 g r cO cB M) (DT cO cB) (fun u : Nat → Nat → Nat => u = dk_times M (ix x) (y.toBitVec.toNat % 256) (8 * (1 + ix z))) (fun u => DW h0 g r cO cB u) := by
  refine zm_v (by decide) (Nat.le_of_ble_eq_true rfl) ?_
  intro p e s m args below meth c A ls Q hx hb hml hown hts hA hK hP hD hS hl hret
  have hl : lv_has ls 4 [(0, .ref h0), (1, .int x), (2, .int y), (3, .int z)] := hl
  refine lv_aload_n hx hb dX0_times_0 rfl (lv_at hl 0 rfl) ?_
  refine va_get (D := (dC, dI)) (ci := 0) (v := .ref g) (C := RX0) (T := TX0) (N := 1) hx hb hts in_X0 hown hK hP 0 rfl rfl 0 (by decide) (hts _ q20) (fun _ h9 => h9) rfl dX0_times_1 ?_
  refine lv_iload_n hx hb dX0_times_4 rfl (lv_at hl 1 rfl) ?_
  refine lv_iconst (v := (nI 3)) hx hb dX0_times_5 (by decide) ?_
  refine lv_iand hx hb dX0_times_6 ?_
  refine zt_i (v := (nI (ix x))) (zi_3 x) ?_
  refine za_ald hx hb hK hP 1 0 rfl rfl (ix_lt x) (by decide) rfl dX0_times_7 ?_
  refine lv_iconst (v := (nI 0)) hx hb dX0_times_8 (by decide) ?_
  refine lv_iload_n hx hb dX0_times_9 rfl (lv_at hl 2 rfl) ?_
  refine lv_sipush (v := (nI 255)) hx hb dX0_times_10 (by decide) ?_
  refine lv_iand hx hb dX0_times_13 ?_
  refine zt_i (v := (nI (y.toBitVec.toNat % 256))) (zi_and y 8 (by decide) rfl) ?_
  refine lv_bipush (v := (nI 8)) hx hb dX0_times_14 (by decide) ?_
  refine lv_iconst (v := (nI 1)) hx hb dX0_times_16 (by decide) ?_
  refine lv_iload_n hx hb dX0_times_17 rfl (lv_at hl 3 rfl) ?_
  refine lv_iconst (v := (nI 3)) hx hb dX0_times_18 (by decide) ?_
  refine lv_iand hx hb dX0_times_19 ?_
  refine zt_i (v := (nI (ix z))) (zi_3 z) ?_
  refine lv_iadd hx hb dX0_times_20 ?_
  refine zt_i (v := (nI (1 + ix z))) (nI_add _ _) ?_
  refine lv_imul hx hb dX0_times_21 ?_
  refine zt_i (v := (nI (8 * (1 + ix z)))) (pk_mul _ _) ?_
  refine zc_Sv (As := [.ref (r (ix x)), .int (nI 0), .int (nI (y.toBitVec.toNat % 256)), .int (nI (8 * (1 + ix z)))]) (rest := []) 4 (ctX2_ms256 l dC dI (r (ix x)) cB (M (ix x)) (hM _) (y.toBitVec.toNat % 256) (Nat.mod_lt _ (by decide)) (1 + ix z) (by have := ix_lt z; omega)) (lw_S q51 q52 q6 q53) (by decide +kernel) ⟨Nat.le_of_ble_eq_true rfl, Nat.le_of_ble_eq_true rfl⟩ ⟨rfl, rfl⟩ ⟨Nat.zero_le _, Nat.zero_le _⟩ hx hb hml hown hts hA hK hP hD hS [2 + ix x] [1] (zn_nd1 _) (DW_1 _ _ _ _ _ _ (ix_lt x)) rfl rfl hl.1 rfl (Nat.le_of_ble_eq_true rfl) dX0_times_22 (fun u H locs hu hP1 hk hS => ?_)
  subst hu
  obtain ⟨hP, hD⟩ := DW_new (ix_lt x) hP hD hk hP1
  exact hret _ _ _ _ _ rfl hP hS dX0_times_25
set_option maxHeartbeats 4000000 in
set_option maxRecDepth 100000 in
/-- OilVectorDesk.timesNibble -/
theorem ctX0_timesN (l : Launch) (dC : Nat → ClassId) (dI : Nat → Nat → Nat) (h0 g : Nat) (r : Nat → Nat) (cO cB : ClassId) (M : Nat → Nat → Nat) (hM : ∀ k j, M k j < 256) (x y z : Int32) : CtV l yX0_timesNibble cX0_timesNibble 4 (rmN 2 50) dC dI [.ref h0, .int x, .int y, .int z] (DW h0 g r cO cB M) (DT cO cB) (fun u : Nat → Nat → Nat => u = dk_timesN M (ix x) (y.toBitVec.toNat % 16) (8 * (1 + ix z))) (fun u => DW h0 g r cO cB u) := by
  refine zm_v (by decide) (Nat.le_of_ble_eq_true rfl) ?_
  intro p e s m args below meth c A ls Q hx hb hml hown hts hA hK hP hD hS hl hret
  have hl : lv_has ls 4 [(0, .ref h0), (1, .int x), (2, .int y), (3, .int z)] := hl
  refine lv_aload_n hx hb dX0_timesNibble_0 rfl (lv_at hl 0 rfl) ?_
  refine va_get (D := (dC, dI)) (ci := 0) (v := .ref g) (C := RX0) (T := TX0) (N := 1) hx hb hts in_X0 hown hK hP 0 rfl rfl 0 (by decide) (hts _ q20) (fun _ h9 => h9) rfl dX0_timesNibble_1 ?_
  refine lv_iload_n hx hb dX0_timesNibble_4 rfl (lv_at hl 1 rfl) ?_
  refine lv_iconst (v := (nI 3)) hx hb dX0_timesNibble_5 (by decide) ?_
  refine lv_iand hx hb dX0_timesNibble_6 ?_
  refine zt_i (v := (nI (ix x))) (zi_3 x) ?_
  refine za_ald hx hb hK hP 1 0 rfl rfl (ix_lt x) (by decide) rfl dX0_timesNibble_7 ?_
  refine lv_iconst (v := (nI 0)) hx hb dX0_timesNibble_8 (by decide) ?_
  refine lv_iload_n hx hb dX0_timesNibble_9 rfl (lv_at hl 2 rfl) ?_
  refine lv_bipush (v := (nI 15)) hx hb dX0_timesNibble_10 (by decide) ?_
  refine lv_iand hx hb dX0_timesNibble_12 ?_
  refine zt_i (v := (nI (y.toBitVec.toNat % 16))) (zi_and y 4 (by decide) rfl) ?_
  refine lv_bipush (v := (nI 8)) hx hb dX0_timesNibble_13 (by decide) ?_
  refine lv_iconst (v := (nI 1)) hx hb dX0_timesNibble_15 (by decide) ?_
  refine lv_iload_n hx hb dX0_timesNibble_16 rfl (lv_at hl 3 rfl) ?_
  refine lv_iconst (v := (nI 3)) hx hb dX0_timesNibble_17 (by decide) ?_
  refine lv_iand hx hb dX0_timesNibble_18 ?_
  refine zt_i (v := (nI (ix z))) (zi_3 z) ?_
  refine lv_iadd hx hb dX0_timesNibble_19 ?_
  refine zt_i (v := (nI (1 + ix z))) (nI_add _ _) ?_
  refine lv_imul hx hb dX0_timesNibble_20 ?_
  refine zt_i (v := (nI (8 * (1 + ix z)))) (pk_mul _ _) ?_
  refine zc_Sv (As := [.ref (r (ix x)), .int (nI 0), .int (nI (y.toBitVec.toNat % 16)), .int (nI (8 * (1 + ix z)))]) (rest := []) 4 (ctX2_ms16 l dC dI (r (ix x)) cB (M (ix x)) (hM _) (y.toBitVec.toNat % 16) (Nat.mod_lt _ (by decide)) (8 * (1 + ix z)) (by have := ix_lt z; omega)) (lw_S q80 q81 q6 q82) (by decide +kernel) ⟨Nat.le_of_ble_eq_true rfl, Nat.le_of_ble_eq_true rfl⟩ ⟨rfl, rfl⟩ ⟨Nat.zero_le _, Nat.zero_le _⟩ hx hb hml hown hts hA hK hP hD hS [2 + ix x] [1] (zn_nd1 _) (DW_1 _ _ _ _ _ _ (ix_lt x)) rfl rfl hl.1 rfl (Nat.le_of_ble_eq_true rfl) dX0_timesNibble_21 (fun u H locs hu hP1 hk hS => ?_)
  subst hu
  obtain ⟨hP, hD⟩ := DW_new (ix_lt x) hP hD hk hP1
  exact hret _ _ _ _ _ rfl hP hS dX0_timesNibble_24
set_option maxHeartbeats 4000000 in
set_option maxRecDepth 100000 in
/-- OilVectorDesk.nibble -/
theorem ctX0_nibble (l : Launch) (dC : Nat → ClassId) (dI : Nat → Nat → Nat) (h0 g : Nat) (r : Nat → Nat) (cO cB : ClassId) (M : Nat → Nat → Nat) (hM : ∀ k j, M k j < 256) (x y : Int32) : CtI l yX0_nibble cX0_nibble 3 (rmN 1 22) dC dI [.ref h0, .int x, .int y] (DW h0 g r cO cB M) (DT cO cB) (fun v => v = nI (nib (M (ix x)) (y.toBitVec.toNat % 64))) := by
  refine zm_i (by decide) (Nat.le_of_ble_eq_true rfl) ?_
  intro p e s m args below meth c A ls Q hx hb hml hown hts hA hK hP hD hS hl hret
  have hl : lv_has ls 3 [(0, .ref h0), (1, .int x), (2, .int y)] := hl
  refine lv_aload_n hx hb dX0_nibble_0 rfl (lv_at hl 0 rfl) ?_
  refine va_get (D := (dC, dI)) (ci := 0) (v := .ref g) (C := RX0) (T := TX0) (N := 1) hx hb hts in_X0 hown hK hP 0 rfl rfl 0 (by decide) (hts _ q20) (fun _ h9 => h9) rfl dX0_nibble_1 ?_
  refine lv_iload_n hx hb dX0_nibble_4 rfl (lv_at hl 1 rfl) ?_
  refine lv_iconst (v := (nI 3)) hx hb dX0_nibble_5 (by decide) ?_
  refine lv_iand hx hb dX0_nibble_6 ?_
  refine zt_i (v := (nI (ix x))) (zi_3 x) ?_
  refine za_ald hx hb hK hP 1 0 rfl rfl (ix_lt x) (by decide) rfl dX0_nibble_7 ?_
  refine lv_iload_n hx hb dX0_nibble_8 rfl (lv_at hl 2 rfl) ?_
  refine lv_bipush (v := (nI 63)) hx hb dX0_nibble_9 (by decide) ?_
  refine lv_iand hx hb dX0_nibble_11 ?_
  refine zt_i (v := (nI (y.toBitVec.toNat % 64))) (zi_and y 6 (by decide) rfl) ?_
  refine zc_Si (As := [.ref (r (ix x)), .int (nI (y.toBitVec.toNat % 64))]) (rest := []) 2 (ctX2_get l dC dI (r (ix x)) cB (M (ix x)) (hM _) (y.toBitVec.toNat % 64) (Nat.mod_lt _ (by decide))) (lw_S q109 q110 q6 q111) (by decide +kernel) ⟨Nat.le_of_ble_eq_true rfl, Nat.le_of_ble_eq_true rfl⟩ ⟨rfl, rfl⟩ ⟨Nat.zero_le _, Nat.zero_le _⟩ hx hb hml hown hts hA hK hP hD hS [2 + ix x] [1] (zn_nd1 _) (DW_1 _ _ _ _ _ _ (ix_lt x)) rfl rfl hl.1 rfl (Nat.le_of_ble_eq_true rfl) dX0_nibble_12 (fun v H locs hv hP hS => ?_)
  subst hv
  exact hret _ _ _ _ _ rfl hP hS dX0_nibble_15
set_option maxHeartbeats 4000000 in
set_option maxRecDepth 100000 in
/-- OilVectorDesk.layNibble -/
theorem ctX0_layN (l : Launch) (dC : Nat → ClassId) (dI : Nat → Nat → Nat) (h0 g : Nat) (r : Nat → Nat) (cO cB : ClassId) (M : Nat → Nat → Nat) (hM : ∀ k j, M k j < 256) (x y z : Int32) : CtV l yX0_layNibble cX0_layNibble 4 (rmN 1 24) dC dI [.ref h0, .int x, .int y, .int z] (DW h0 g r cO cB M) (DT cO cB) (fun u : Nat → Nat → Nat => u = dk_layN M (ix x) (y.toBitVec.toNat % 64) (z.toBitVec.toNat % 16)) (fun u => DW h0 g r cO cB u) := by
  refine zm_v (by decide) (Nat.le_of_ble_eq_true rfl) ?_
  intro p e s m args below meth c A ls Q hx hb hml hown hts hA hK hP hD hS hl hret
  have hl : lv_has ls 4 [(0, .ref h0), (1, .int x), (2, .int y), (3, .int z)] := hl
  refine lv_aload_n hx hb dX0_layNibble_0 rfl (lv_at hl 0 rfl) ?_
  refine va_get (D := (dC, dI)) (ci := 0) (v := .ref g) (C := RX0) (T := TX0) (N := 1) hx hb hts in_X0 hown hK hP 0 rfl rfl 0 (by decide) (hts _ q20) (fun _ h9 => h9) rfl dX0_layNibble_1 ?_
  refine lv_iload_n hx hb dX0_layNibble_4 rfl (lv_at hl 1 rfl) ?_
  refine lv_iconst (v := (nI 3)) hx hb dX0_layNibble_5 (by decide) ?_
  refine lv_iand hx hb dX0_layNibble_6 ?_
  refine zt_i (v := (nI (ix x))) (zi_3 x) ?_
  refine za_ald hx hb hK hP 1 0 rfl rfl (ix_lt x) (by decide) rfl dX0_layNibble_7 ?_
  refine lv_iload_n hx hb dX0_layNibble_8 rfl (lv_at hl 2 rfl) ?_
  refine lv_bipush (v := (nI 63)) hx hb dX0_layNibble_9 (by decide) ?_
  refine lv_iand hx hb dX0_layNibble_11 ?_
  refine zt_i (v := (nI (y.toBitVec.toNat % 64))) (zi_and y 6 (by decide) rfl) ?_
  refine lv_iload_n hx hb dX0_layNibble_12 rfl (lv_at hl 3 rfl) ?_
  refine lv_bipush (v := (nI 15)) hx hb dX0_layNibble_13 (by decide) ?_
  refine lv_iand hx hb dX0_layNibble_15 ?_
  refine zt_i (v := (nI (z.toBitVec.toNat % 16))) (zi_and z 4 (by decide) rfl) ?_
  refine zc_Sv (As := [.ref (r (ix x)), .int (nI (y.toBitVec.toNat % 64)), .int (nI (z.toBitVec.toNat % 16))]) (rest := []) 3 (ctX2_set l dC dI (r (ix x)) cB (M (ix x)) (hM _) (y.toBitVec.toNat % 64) (Nat.mod_lt _ (by decide)) (z.toBitVec.toNat % 16) (Nat.mod_lt _ (by decide))) (lw_S q116 q117 q6 q118) (by decide +kernel) ⟨Nat.le_of_ble_eq_true rfl, Nat.le_of_ble_eq_true rfl⟩ ⟨rfl, rfl⟩ ⟨Nat.zero_le _, Nat.zero_le _⟩ hx hb hml hown hts hA hK hP hD hS [2 + ix x] [1] (zn_nd1 _) (DW_1 _ _ _ _ _ _ (ix_lt x)) rfl rfl hl.1 rfl (Nat.le_of_ble_eq_true rfl) dX0_layNibble_16 (fun u H locs hu hP1 hk hS => ?_)
  subst hu
  obtain ⟨hP, hD⟩ := DW_new (ix_lt x) hP hD hk hP1
  exact hret _ _ _ _ _ rfl hP hS dX0_layNibble_19
set_option maxHeartbeats 4000000 in
set_option maxRecDepth 100000 in
/-- OilVectorDesk.get -/
theorem ctX0_get (l : Launch) (dC : Nat → ClassId) (dI : Nat → Nat → Nat) (h0 g : Nat) (r : Nat → Nat) (cO cB : ClassId) (M : Nat → Nat → Nat) (hM : ∀ k j, M k j < 256) (x y : Int32) : CtI l yX0_get cX0_get 3 (rmN 0 0) dC dI [.ref h0, .int x, .int y] (DW h0 g r cO cB M) (DT cO cB) (fun v => v = nI (M (ix x) (y.toBitVec.toNat % 32))) := by
  refine zm_i (by decide) (Nat.le_of_ble_eq_true rfl) ?_
  intro p e s m args below meth c A ls Q hx hb hml hown hts hA hK hP hD hS hl hret
  have hl : lv_has ls 3 [(0, .ref h0), (1, .int x), (2, .int y)] := hl
  refine lv_aload_n hx hb dX0_get_0 rfl (lv_at hl 0 rfl) ?_
  refine va_get (D := (dC, dI)) (ci := 0) (v := .ref g) (C := RX0) (T := TX0) (N := 1) hx hb hts in_X0 hown hK hP 0 rfl rfl 0 (by decide) (hts _ q20) (fun _ h9 => h9) rfl dX0_get_1 ?_
  refine lv_iload_n hx hb dX0_get_4 rfl (lv_at hl 1 rfl) ?_
  refine lv_iconst (v := (nI 3)) hx hb dX0_get_5 (by decide) ?_
  refine lv_iand hx hb dX0_get_6 ?_
  refine zt_i (v := (nI (ix x))) (zi_3 x) ?_
  refine za_ald hx hb hK hP 1 0 rfl rfl (ix_lt x) (by decide) rfl dX0_get_7 ?_
  refine lv_iload_n hx hb dX0_get_8 rfl (lv_at hl 2 rfl) ?_
  refine lv_bipush (v := (nI 31)) hx hb dX0_get_9 (by decide) ?_
  refine lv_iand hx hb dX0_get_11 ?_
  refine zt_i (v := (nI (y.toBitVec.toNat % 32))) (zi_and y 5 (by decide) rfl) ?_
  refine zb_ald hx hb hK hP (2 + ix x) 1 (DW_row _ _ _ _ _ _ (ix_lt x)) rfl (Nat.mod_lt _ (by decide)) (by decide) dX0_get_12 ?_
  refine lv_sipush (v := (nI 255)) hx hb dX0_get_13 (by decide) ?_
  refine lv_iand hx hb dX0_get_16 ?_
  refine zt_i (v := (nI (M (ix x) (y.toBitVec.toNat % 32)))) (nB_255 (hM _ _)) ?_
  exact hret _ _ _ _ _ rfl hP hS dX0_get_17
end
section
/-! ===== a byte read unsigned ===== -/
theorem bp_b (x : Int32) : x.toInt8.toInt32 &&& 255 = x &&& 255 := by
  apply Int32.toBitVec_inj.mp
  rw [Int32.toBitVec_and, Int32.toBitVec_and, Int8.toBitVec_toInt32, Int32.toBitVec_toInt8]
  apply BitVec.eq_of_getLsbD_eq
  intro i hi
  rw [BitVec.getLsbD_and, BitVec.getLsbD_and]
  have hm : ∀ i < 32, 8 ≤ i → (255 : Int32).toBitVec.getLsbD i = false := by decide
  rcases Nat.lt_or_ge i 8 with z | z
  · rw [BitVec.getLsbD_signExtend, BitVec.getLsbD_signExtend, if_pos z, if_pos hi]
    simp only [z, hi, decide_true, Bool.true_and]
  · rw [hm i hi z]; simp
/-! ===== the reference's world, and what its calls make of its bits ===== -/
abbrev MW (h z : Nat) (cZ : ClassId) (B : Nat → Bool) : va_W := [(z, .inl (cZ, 1024, .inl (zf B))), (h, .inr (1, [.ref z]))]
abbrev MT (cZ : ClassId) : List (ClassId × FieldType) := [(cZ, .boolean)]
/-- so many bits from a place on, the first one lowest -/
def rd (B : Nat → Bool) : Nat → Nat → Nat
  | _, 0 => 0
  | p, w + 1 => 2 * rd B (p + 1) w + (if B p = true then 1 else 0)
def wr (B : Nat → Bool) (p w v : Nat) : Nat → Bool := fun n => if p ≤ n ∧ n < p + w then v.testBit (n - p) else B n
def tm (x k t : Nat) : Nat := if t = 1 then g8 k x else g4 k x
def cm (B : Nat → Bool) (i j k t mo w : Nat) : Nat → Nat → Bool
  | 0 => B
  | e + 1 => wr (cm B i j k t mo w e) (i * 256 + w * e) w ((if mo = 1 then rd (cm B i j k t mo w e) (i * 256 + w * e) w else 0) ^^^ tm (rd (cm B i j k t mo w e) (j * 256 + w * e) w) k t)
def wb12 (a b c i : Nat) : Nat := (if i < 4 then a else if i < 8 then b else c) / 2 ^ (24 - i % 4 * 8) % 256
def ly (B : Nat → Bool) (F : Nat) (wb : Nat → Nat) : Nat → Nat → Bool
  | 0 => B
  | i + 1 => wr (ly B F wb i) (F + 8 * i) 8 (wb i)
def md_addIf (B : Nat → Bool) (i j k : Nat) : Nat → Bool := if i = j then B else if k % 2 = 0 then B else cm B i j 1 1 1 8 32
def md_more (B : Nat → Bool) (i j k n : Nat) : Nat → Bool := if i = j then B else cm B i j k 1 1 8 n
def md_moreN (B : Nat → Bool) (i j k n : Nat) : Nat → Bool := if i = j then B else cm B i j k 0 1 4 (2 * n)
theorem bI_0 (b : Bool) : bI b = 0 ↔ b = false := by cases b <;> decide
theorem rd_lt (B : Nat → Bool) : ∀ (w p : Nat), rd B p w < 2 ^ w
  | 0, p => by simp [rd]
  | w + 1, p => by
    have h := rd_lt B w (p + 1)
    unfold rd
    rw [Nat.pow_succ]
    by_cases hb : B p = true
    · rw [if_pos hb]; omega
    · rw [if_neg hb]; omega
theorem rd_step (B : Nat → Bool) (p : Nat) {t w : Nat} (h : t < w) : rd B (p + t) (w - t) = 2 * rd B (p + (t + 1)) (w - (t + 1)) + (if B (p + t) = true then 1 else 0) := by
  obtain ⟨n, hn⟩ : ∃ n, w - t = n + 1 := ⟨w - t - 1, by omega⟩
  rw [hn, show w - (t + 1) = n by omega]
  rfl
theorem wr_0 (B : Nat → Bool) (p v : Nat) : wr B p 0 v = B := by
  funext n
  exact if_neg (by omega)
theorem wr_step (B : Nat → Bool) (p k v : Nat) {b : Bool} (hb : b = decide (v / 2 ^ k % 2 = 1)) : va_up (wr B p k v) (p + k) b = wr B p (k + 1) v := by
  funext n
  unfold va_up wr
  by_cases h : n = p + k
  · subst h
    rw [if_pos rfl, if_pos (by omega), hb, Nat.add_sub_cancel_left, Nat.testBit_eq_decide_div_mod_eq]
  · rw [if_neg h]
    by_cases h2 : p ≤ n ∧ n < p + k
    · rw [if_pos h2, if_pos (by omega)]
    · rw [if_neg h2, if_neg (by omega)]
theorem bm_lt {b X N : Nat} (hb : b < 2) (hX : X < N) : b * X < N := by
  rcases (show b = 0 ∨ b = 1 by omega) with rfl | rfl
  · omega
  · omega
theorem sh_lt {a k : Nat} (ha : a < 256) (hk : k ≤ 7) : a * 2 ^ k < 32768 := by
  have h1 : 2 ^ k ≤ 2 ^ 7 := Nat.pow_le_pow_right (by decide) hk
  have h2 : a * 2 ^ k ≤ 255 * 2 ^ 7 := Nat.mul_le_mul (by omega) h1
  omega
theorem sh_lt2 {a k : Nat} (ha : a < 512) (hk : k ≤ 6) : a * 2 ^ k < 32768 := by
  have h1 : 2 ^ k ≤ 2 ^ 6 := Nat.pow_le_pow_right (by decide) hk
  have h2 : a * 2 ^ k ≤ 511 * 2 ^ 6 := Nat.mul_le_mul (by omega) h1
  omega
theorem pd_mul_lt {a b : Nat} (ha : a < 256) : ∀ k, k ≤ 8 → pd_mul a b k < 32768
  | 0, _ => by show 0 < 32768; decide
  | k + 1, h => by
    unfold pd_mul
    exact Nat.xor_lt_two_pow (n := 15) (pd_mul_lt ha k (by omega)) (bm_lt (Nat.mod_lt _ (by decide)) (sh_lt ha (by omega)))
theorem pd_x_lt {X q j i : Nat} (hX : X < 32768) (hq : q < 512) (hj : j ≤ 6) : X ^^^ (X / 2 ^ i % 2) * (q * 2 ^ j) < 32768 :=
  Nat.xor_lt_two_pow (n := 15) hX (bm_lt (Nat.mod_lt _ (by decide)) (sh_lt2 hq hj))
theorem zi_m1 (t : Nat) : nI t + Int32.ofInt (-1) = nI t - nI 1 := by
  rw [Int32.sub_eq_add_neg]
  rfl
theorem zi_sub {a b : Nat} (h : b ≤ a) : nI a - nI b = nI (a - b) := pk_sub h
theorem zi_sb {k : Nat} (hk : k ≤ 24) (x : Int32) : (x >>> (nI k &&& 31)) &&& nI 255 = nI (x.toBitVec.toNat / 2 ^ k % 256) := by
  have h1 := bp_b (x >>> (nI k &&& 31))
  rw [nB_sshr k hk x rfl] at h1
  have h2 : nB (x.toBitVec.toNat / 2 ^ k) &&& nI 255 = nI (x.toBitVec.toNat / 2 ^ k % 256) := by
    rw [← nB_mod]
    exact nB_255 (Nat.mod_lt _ (by decide))
  exact h1.symm.trans h2
theorem ix_sub (x y : Int32) : ix (x - y) = 0 ↔ ix x = ix y := by
  unfold ix
  rw [Int32.toBitVec_sub, BitVec.toNat_sub]
  have h1 := x.toBitVec.isLt
  have h2 := y.toBitVec.isLt
  omega
theorem zi_rem2 (z : Int32) : z - z / nI 2 * nI 2 = 0 ↔ z.toBitVec.toNat % 2 = 0 := by
  have h2 : (nI 2).toInt = 2 := by decide
  have hd := Int32.toInt_div_of_ne_right z (nI 2) (by decide)
  rw [h2] at hd
  have hqr := Int.tdiv_mul_add_tmod z.toInt 2
  have h5 : (z - z / nI 2 * nI 2).toInt = z.toInt.tmod 2 := by
    rw [Int32.toInt_sub, Int32.toInt_mul, hd, h2, Int.sub_bmod_bmod, show z.toInt - z.toInt.tdiv 2 * 2 = z.toInt.tmod 2 by omega]
    rcases Int.tmod_two_eq z.toInt with h | h | h <;> rw [h] <;> decide
  have hc := BitVec.toInt_eq_toNat_cond z.toBitVec
  rw [Int32.toInt_toBitVec] at hc
  have h0 : (0 : Int32).toInt = 0 := by decide
  have h3 := Int.tmod_two_eq z.toInt
  constructor
  · intro h
    rw [h, h0] at h5
    split at hc <;> omega
  · intro h
    apply Int32.toInt_inj.mp
    rw [h5, h0]
    split at hc <;> omega
theorem tm_1 (x k : Nat) : tm x k 1 = g8 k x := if_pos rfl
theorem tm_0 (x k : Nat) : tm x k 0 = g4 k x := if_neg (by decide)
theorem tm_lt8 {x k : Nat} (hx : x < 256) : tm x k 1 < 256 := by
  rw [tm_1]
  exact g8_lt hx
theorem tm_lt4 {x k : Nat} (hk : k < 16) (hx : x < 16) : tm x k 0 < 256 := by
  rw [tm_0]
  exact Nat.lt_trans (g4_lt k hk x hx) (by decide)
end
section
/-! ===== contracts: OilVectorDeskModel ===== -/
theorem ts_nf2 {x : Bool} (h : ¬ x = false) : x = true := by cases x <;> first | rfl | exact absurd rfl h
set_option maxHeartbeats 4000000 in
set_option maxRecDepth 100000 in
/-- OilVectorDeskModel.read -/
theorem ctX1_read (l : Launch) (dC : Nat → ClassId) (dI : Nat → Nat → Nat) (h z : Nat) (cZ : ClassId) (B : Nat → Bool) (p0 w0 : Nat) (hp : p0 + w0 ≤ 1024) (hw8 : w0 ≤ 8) : CtI l yX1_read cX1_read 5 (rmN 0 0) dC dI [.ref h, .int (nI p0), .int (nI w0)] (MW h z cZ B) (MT cZ) (fun v => v = nI (rd B p0 w0)) := by
  refine zm_i (by decide) (Nat.le_of_ble_eq_true rfl) ?_
  intro p e s m args below meth c A ls Q hx hb hml hown hts hA hK hP hD hS hl hret
  have hl : lv_has ls 5 [(0, .ref h), (1, .int (nI p0)), (2, .int (nI w0))] := hl
  have loop : ∀ (t : Nat) (ls : Array Slot), t ≤ w0 → lv_has ls 5 [(4, .int (nI t - nI 1)), (3, .int (nI (rd B (p0 + t) (w0 - t)))), (0, .ref h), (1, .int (nI p0)), (2, .int (nI w0))] → W p l e (rmN 0 0) s m args below meth c s.heap [] 0 0 Q (F0 m 7 ls []) := by
    intro t
    induction t with
    | zero =>
      intro ls ht hl
      refine lv_iload hx hb dX1_read_7 (lv_at hl 0 rfl) ?_
      refine lv_if_lt (tgt := 40) hx hb dX1_read_9 (by decide) (fun cc => ?_) (fun cc => ?_)
      · skip
        refine lv_iload_n hx hb dX1_read_40 rfl (lv_at hl 1 rfl) ?_
        exact hret _ _ _ _ _ rfl hP hS dX1_read_41
      · exact absurd (by decide) cc
    | succ t ih =>
      intro ls ht hl
      have e1 : nI (t + 1) - nI 1 = nI t := zi_sub (by omega)
      rw [e1] at hl
      refine lv_iload hx hb dX1_read_7 (lv_at hl 0 rfl) ?_
      refine lv_if_lt (tgt := 40) hx hb dX1_read_9 (by decide) (fun cc => ?_) (fun cc => ?_)
      · exact absurd cc (nI_pos (by omega))
      · skip
        refine lv_iconst (v := (nI 2)) hx hb dX1_read_12 (by decide) ?_
        refine lv_iload_n hx hb dX1_read_13 rfl (lv_at hl 1 rfl) ?_
        refine lv_imul hx hb dX1_read_14 ?_
        refine zt_i (v := (nI (2 * (rd B (p0 + (t + 1)) (w0 - (t + 1)))))) (pk_mul _ _) ?_
        refine lv_aload_n hx hb dX1_read_15 rfl (lv_at hl 2 rfl) ?_
        refine va_get (D := (dC, dI)) (ci := 1) (v := .ref z) (C := RX1) (T := TX1) (N := 1) hx hb hts in_X1 hown hK hP 1 rfl rfl 0 (by decide) (hts _ q129) (fun _ h9 => h9) rfl dX1_read_16 ?_
        refine lv_iload_n hx hb dX1_read_19 rfl (lv_at hl 3 rfl) ?_
        refine lv_iload hx hb dX1_read_20 (lv_at hl 0 rfl) ?_
        refine lv_iadd hx hb dX1_read_22 ?_
        refine zt_i (v := (nI (p0 + t))) (nI_add _ _) ?_
        refine zz_ald hx hb hK hP 0 0 rfl rfl (by omega) (by decide) dX1_read_23 ?_
        refine lv_if_eq (tgt := 31) hx hb dX1_read_24 (by decide) (fun c2 => ?_) (fun c2 => ?_)
        · have hb0 : ¬ B (p0 + t) = true := by rw [(bI_0 _).mp c2]; decide
          refine lv_iconst (v := (nI 0)) hx hb dX1_read_31 (by decide) ?_
          refine lv_iadd hx hb dX1_read_32 ?_
          refine zt_i (v := (nI (rd B (p0 + t) (w0 - t)))) ((nI_add _ _).trans (congrArg nI (by rw [rd_step B p0 (show t < w0 by omega), if_neg hb0]))) ?_
          refine lv_istore_n (lv' := [(3, .int (nI (rd B (p0 + t) (w0 - t)))), (4, .int (nI t)), (0, .ref h), (1, .int (nI p0)), (2, .int (nI w0))]) hx hb dX1_read_33 rfl hl (by decide) rfl (fun ls hl => ?_)
          refine lv_iinc (v := (nI t - nI 1)) (lv' := [(4, .int (nI t - nI 1)), (3, .int (nI (rd B (p0 + t) (w0 - t)))), (0, .ref h), (1, .int (nI p0)), (2, .int (nI w0))]) hx hb dX1_read_34 hl (k := 1) rfl (zi_m1 t) (by decide) rfl (fun ls hl => ?_)
          refine lv_goto (tgt := 7) hx hb dX1_read_37 (by decide) ?_
          exact ih ls (by omega) (lv_sub hl [0, 1, 2, 3, 4] rfl)
        · have hb1 : B (p0 + t) = true := ts_nf2 (fun q => c2 ((bI_0 _).mpr q))
          refine lv_iconst (v := (nI 1)) hx hb dX1_read_27 (by decide) ?_
          refine lv_goto (tgt := 32) hx hb dX1_read_28 (by decide) ?_
          refine lv_iadd hx hb dX1_read_32 ?_
          refine zt_i (v := (nI (rd B (p0 + t) (w0 - t)))) ((nI_add _ _).trans (congrArg nI (by rw [rd_step B p0 (show t < w0 by omega), if_pos hb1]))) ?_
          refine lv_istore_n (lv' := [(3, .int (nI (rd B (p0 + t) (w0 - t)))), (4, .int (nI t)), (0, .ref h), (1, .int (nI p0)), (2, .int (nI w0))]) hx hb dX1_read_33 rfl hl (by decide) rfl (fun ls hl => ?_)
          refine lv_iinc (v := (nI t - nI 1)) (lv' := [(4, .int (nI t - nI 1)), (3, .int (nI (rd B (p0 + t) (w0 - t)))), (0, .ref h), (1, .int (nI p0)), (2, .int (nI w0))]) hx hb dX1_read_34 hl (k := 1) rfl (zi_m1 t) (by decide) rfl (fun ls hl => ?_)
          refine lv_goto (tgt := 7) hx hb dX1_read_37 (by decide) ?_
          exact ih ls (by omega) (lv_sub hl [0, 1, 2, 3, 4] rfl)
  refine lv_iconst (v := (nI 0)) hx hb dX1_read_0 (by decide) ?_
  refine lv_istore_n (lv' := [(3, .int (nI 0)), (0, .ref h), (1, .int (nI p0)), (2, .int (nI w0))]) hx hb dX1_read_1 rfl hl (by decide) rfl (fun ls hl => ?_)
  refine lv_iload_n hx hb dX1_read_2 rfl (lv_at hl 3 rfl) ?_
  refine lv_iconst (v := (nI 1)) hx hb dX1_read_3 (by decide) ?_
  refine lv_isub hx hb dX1_read_4 ?_
  refine lv_istore (lv' := [(4, .int ((nI w0) - (nI 1))), (3, .int (nI 0)), (0, .ref h), (1, .int (nI p0)), (2, .int (nI w0))]) hx hb dX1_read_5 hl (by decide) rfl (fun ls hl => ?_)
  have e0 : rd B (p0 + w0) (w0 - w0) = 0 := by rw [Nat.sub_self]; rfl
  exact loop w0 ls (Nat.le_refl _) (by rw [e0]; exact lv_sub hl [0, 1, 2, 3, 4] rfl)
set_option maxHeartbeats 4000000 in
set_option maxRecDepth 100000 in
/-- OilVectorDeskModel.write -/
theorem ctX1_write (l : Launch) (dC : Nat → ClassId) (dI : Nat → Nat → Nat) (h z : Nat) (cZ : ClassId) (B : Nat → Bool) (p0 w0 v0 : Nat) (hp : p0 + w0 ≤ 1024) (hv : v0 < 2147483648) : CtV l yX1_write cX1_write 5 (rmN 0 0) dC dI [.ref h, .int (nI p0), .int (nI w0), .int (nI v0)] (MW h z cZ B) (MT cZ) (fun u : Nat → Bool => u = wr B p0 w0 v0) (fun u => MW h z cZ u) := by
  refine zm_v (by decide) (Nat.le_of_ble_eq_true rfl) ?_
  intro p e s m args below meth c A ls Q hx hb hml hown hts hA hK hP hD hS hl hret
  have hl : lv_has ls 5 [(0, .ref h), (1, .int (nI p0)), (2, .int (nI w0)), (3, .int (nI v0))] := hl
  have loop : ∀ (n i : Nat) (H : Heap) (locs : List Loc) (ls : Array Slot), i + n = w0 → va_P (dC, dI) vwCl (MW h z cZ (wr B p0 i v0)) H → va_D A (MW h z cZ (wr B p0 i v0)) → va_S A s.heap H locs → lv_has ls 5 [(4, .int (nI i)), (3, .int (nI (v0 / 2 ^ i))), (0, .ref h), (1, .int (nI p0)), (2, .int (nI w0))] → W p l e (rmN 0 0) s m args below meth c H locs 0 0 Q (F0 m 3 ls []) := by
    intro n
    induction n with
    | zero =>
      intro i H locs ls hi hP hD hS hl
      have hi : i = w0 := by omega
      subst hi
      refine lv_iload hx hb dX1_write_3 (lv_at hl 0 rfl) ?_
      refine lv_iload_n hx hb dX1_write_5 rfl (lv_at hl 4 rfl) ?_
      refine lv_icmp_ge (tgt := 40) hx hb dX1_write_6 (by decide) (fun cc => ?_) (fun cc => ?_)
      · exact hret (wr B p0 i v0) _ _ _ _ rfl hP hS dX1_write_40
      · exact absurd (nI_le (Nat.le_refl _) (by omega)) cc
    | succ n ih =>
      intro i H locs ls hi hP hD hS hl
      refine lv_iload hx hb dX1_write_3 (lv_at hl 0 rfl) ?_
      refine lv_iload_n hx hb dX1_write_5 rfl (lv_at hl 4 rfl) ?_
      refine lv_icmp_ge (tgt := 40) hx hb dX1_write_6 (by decide) (fun cc => ?_) (fun cc => ?_)
      · exact absurd ((nI_leI (by omega) (by omega)).mp cc) (by omega)
      · have hq : v0 / 2 ^ i < 2147483648 := Nat.lt_of_le_of_lt (Nat.div_le_self _ _) hv
        refine lv_aload_n hx hb dX1_write_9 rfl (lv_at hl 2 rfl) ?_
        refine va_get (D := (dC, dI)) (ci := 1) (v := .ref z) (C := RX1) (T := TX1) (N := 1) hx hb hts in_X1 hown hK hP 1 rfl rfl 0 (by decide) (hts _ q129) (fun _ h9 => h9) rfl dX1_write_10 ?_
        refine lv_iload_n hx hb dX1_write_13 rfl (lv_at hl 3 rfl) ?_
        refine lv_iload hx hb dX1_write_14 (lv_at hl 0 rfl) ?_
        refine lv_iadd hx hb dX1_write_16 ?_
        refine zt_i (v := (nI (p0 + i))) (nI_add _ _) ?_
        refine lv_iload_n hx hb dX1_write_17 rfl (lv_at hl 1 rfl) ?_
        refine lv_iconst (v := (nI 2)) hx hb dX1_write_18 (by decide) ?_
        refine lv_irem hx hb dX1_write_19 (by decide) ?_
        refine zt_i (v := (nI (v0 / 2 ^ i % 2))) (pk_rem (by omega) (by decide) (by decide)) ?_
        refine lv_iconst (v := (nI 1)) hx hb dX1_write_20 (by decide) ?_
        refine lv_icmp_ne (tgt := 28) hx hb dX1_write_21 (by decide) (fun c2 => ?_) (fun c2 => ?_)
        · have hb0 : ¬ v0 / 2 ^ i % 2 = 1 := fun q => c2 (congrArg nI q)
          refine lv_iconst (v := (bI false)) hx hb dX1_write_28 (by decide) ?_
          refine zz_ast hx hb hK hP hD hS 0 0 rfl rfl (by omega) (by decide) dX1_write_29 (fun H locs hP hD hS => ?_)
          have hP : va_P (dC, dI) vwCl (MW h z cZ (va_up (wr B p0 i v0) (p0 + i) false)) H := hP
          have hD : va_D A (MW h z cZ (va_up (wr B p0 i v0) (p0 + i) false)) := hD
          rw [wr_step B p0 i v0 (b := false) (by rw [decide_eq_false hb0])] at hP hD
          refine lv_iload_n hx hb dX1_write_30 rfl (lv_at hl 1 rfl) ?_
          refine lv_iconst (v := (nI 2)) hx hb dX1_write_31 (by decide) ?_
          refine lv_idiv hx hb dX1_write_32 (by decide) ?_
          refine zt_i (v := (nI (v0 / 2 ^ (i + 1)))) ((pk_div (by omega) (by decide) (by decide)).trans (congrArg nI (by rw [Nat.div_div_eq_div_mul, Nat.pow_succ]))) ?_
          refine lv_istore_n (lv' := [(3, .int (nI (v0 / 2 ^ (i + 1)))), (4, .int (nI i)), (0, .ref h), (1, .int (nI p0)), (2, .int (nI w0))]) hx hb dX1_write_33 rfl hl (by decide) rfl (fun ls hl => ?_)
          refine lv_iinc (v := (nI (i + 1))) (lv' := [(4, .int (nI (i + 1))), (3, .int (nI (v0 / 2 ^ (i + 1)))), (0, .ref h), (1, .int (nI p0)), (2, .int (nI w0))]) hx hb dX1_write_34 hl (k := 1) rfl (zi_i1 i) (by decide) rfl (fun ls hl => ?_)
          refine lv_goto (tgt := 3) hx hb dX1_write_37 (by decide) ?_
          exact ih (i + 1) H locs ls (by omega) hP hD hS (lv_sub hl [0, 1, 2, 3, 4] rfl)
        · have hb1 : v0 / 2 ^ i % 2 = 1 := (nI_eq (by omega) (by decide)).mp c2
          refine lv_iconst (v := (bI true)) hx hb dX1_write_24 (by decide) ?_
          refine lv_goto (tgt := 29) hx hb dX1_write_25 (by decide) ?_
          refine zz_ast hx hb hK hP hD hS 0 0 rfl rfl (by omega) (by decide) dX1_write_29 (fun H locs hP hD hS => ?_)
          have hP : va_P (dC, dI) vwCl (MW h z cZ (va_up (wr B p0 i v0) (p0 + i) true)) H := hP
          have hD : va_D A (MW h z cZ (va_up (wr B p0 i v0) (p0 + i) true)) := hD
          rw [wr_step B p0 i v0 (b := true) (by rw [decide_eq_true hb1])] at hP hD
          refine lv_iload_n hx hb dX1_write_30 rfl (lv_at hl 1 rfl) ?_
          refine lv_iconst (v := (nI 2)) hx hb dX1_write_31 (by decide) ?_
          refine lv_idiv hx hb dX1_write_32 (by decide) ?_
          refine zt_i (v := (nI (v0 / 2 ^ (i + 1)))) ((pk_div (by omega) (by decide) (by decide)).trans (congrArg nI (by rw [Nat.div_div_eq_div_mul, Nat.pow_succ]))) ?_
          refine lv_istore_n (lv' := [(3, .int (nI (v0 / 2 ^ (i + 1)))), (4, .int (nI i)), (0, .ref h), (1, .int (nI p0)), (2, .int (nI w0))]) hx hb dX1_write_33 rfl hl (by decide) rfl (fun ls hl => ?_)
          refine lv_iinc (v := (nI (i + 1))) (lv' := [(4, .int (nI (i + 1))), (3, .int (nI (v0 / 2 ^ (i + 1)))), (0, .ref h), (1, .int (nI p0)), (2, .int (nI w0))]) hx hb dX1_write_34 hl (k := 1) rfl (zi_i1 i) (by decide) rfl (fun ls hl => ?_)
          refine lv_goto (tgt := 3) hx hb dX1_write_37 (by decide) ?_
          exact ih (i + 1) H locs ls (by omega) hP hD hS (lv_sub hl [0, 1, 2, 3, 4] rfl)
  refine lv_iconst (v := (nI 0)) hx hb dX1_write_0 (by decide) ?_
  refine lv_istore (lv' := [(4, .int (nI 0)), (0, .ref h), (1, .int (nI p0)), (2, .int (nI w0)), (3, .int (nI v0))]) hx hb dX1_write_1 hl (by decide) rfl (fun ls hl => ?_)
  have e0 : v0 / 2 ^ 0 = v0 := by rw [Nat.pow_zero, Nat.div_one]
  exact loop w0 0 s.heap [] ls (Nat.zero_add _) (by rw [wr_0]; exact hP) (by rw [wr_0]; exact hD) hS (by rw [e0]; exact lv_sub hl [0, 4, 1, 2, 3] rfl)
end
section
set_option maxHeartbeats 4000000 in
set_option maxRecDepth 100000 in
/-- OilVectorDeskModel.product -/
theorem ctX1_product (l : Launch) (dC : Nat → ClassId) (dI : Nat → Nat → Nat) (a b q n0 : Nat) (ha : a < 256) (hb8 : b < 256) (hq : q < 512) (hn0 : 2 ≤ n0) (hn8 : n0 ≤ 8) : CtI l yX1_product cX1_product 6 (rmN 0 0) dC dI [.int (nI a), .int (nI b), .int (nI q), .int (nI n0)] [] [] (fun v => v = nI (pd a b q n0)) := by
  refine zm_i (by decide) (Nat.le_of_ble_eq_true rfl) ?_
  intro p e s m args below meth c A ls Q hx hb hml hown hts hA hK hP hD hS hl hret
  have hl : lv_has ls 6 [(0, .int (nI a)), (1, .int (nI b)), (2, .int (nI q)), (3, .int (nI n0))] := hl
  have loop2 : ∀ (j X : Nat) (ls : Array Slot), j < n0 → X < 32768 → pd_red q n0 X j = pd a b q n0 → lv_has ls 6 [(5, .int (nI (n0 + j - 1))), (4, .int (nI X)), (0, .int (nI a)), (1, .int (nI b)), (2, .int (nI q)), (3, .int (nI n0))] → W p l e (rmN 0 0) s m args below meth c s.heap [] 0 0 Q (F0 m 41 ls []) := by
    intro j
    induction j with
    | zero =>
      intro X ls hj hX hR hl
      refine lv_iload hx hb dX1_product_41 (lv_at hl 0 rfl) ?_
      refine lv_iload_n hx hb dX1_product_43 rfl (lv_at hl 5 rfl) ?_
      refine lv_icmp_lt (tgt := 72) hx hb dX1_product_44 (by decide) (fun cc => ?_) (fun cc => ?_)
      · skip
        refine lv_iload hx hb dX1_product_72 (lv_at hl 1 rfl) ?_
        exact hret _ _ _ _ _ (congrArg nI hR) hP hS dX1_product_74
      · exact absurd ((nI_ltI (by omega) (by omega)).mpr (by omega)) cc
    | succ j ih =>
      intro X ls hj hX hR hl
      have e1 : n0 + (j + 1) - 1 = n0 + j := by omega
      rw [e1] at hl
      refine lv_iload hx hb dX1_product_41 (lv_at hl 0 rfl) ?_
      refine lv_iload_n hx hb dX1_product_43 rfl (lv_at hl 5 rfl) ?_
      refine lv_icmp_lt (tgt := 72) hx hb dX1_product_44 (by decide) (fun cc => ?_) (fun cc => ?_)
      · exact absurd ((nI_ltI (by omega) (by omega)).mp cc) (by omega)
      · have hs := sh_lt2 hq (show j ≤ 6 by omega)
        refine lv_iload hx hb dX1_product_47 (lv_at hl 1 rfl) ?_
        refine lv_iload hx hb dX1_product_49 (lv_at hl 1 rfl) ?_
        refine lv_iload hx hb dX1_product_51 (lv_at hl 0 rfl) ?_
        refine lv_ishr hx hb dX1_product_53 ?_
        refine zt_i (v := (nI (X / 2 ^ (n0 + j)))) (zi_shr (n0 + j) (by omega) rfl (by omega)) ?_
        refine lv_iconst (v := (nI 1)) hx hb dX1_product_54 (by decide) ?_
        refine lv_iand hx hb dX1_product_55 ?_
        refine zt_i (v := (nI (X / 2 ^ (n0 + j) % 2))) (zi_1 _) ?_
        refine lv_iload_n hx hb dX1_product_56 rfl (lv_at hl 4 rfl) ?_
        refine lv_iload hx hb dX1_product_57 (lv_at hl 0 rfl) ?_
        refine lv_iload_n hx hb dX1_product_59 rfl (lv_at hl 5 rfl) ?_
        refine lv_isub hx hb dX1_product_60 ?_
        refine zt_i (v := (nI j)) ((zi_sub (by omega)).trans (congrArg nI (by omega))) ?_
        refine lv_ishl hx hb dX1_product_61 ?_
        refine zt_i (v := (nI (q * 2 ^ j))) (zi_shl j (by omega) rfl (by omega)) ?_
        refine lv_imul hx hb dX1_product_62 ?_
        refine zt_i (v := (nI (X / 2 ^ (n0 + j) % 2 * (q * 2 ^ j)))) (pk_mul _ _) ?_
        refine lv_ixor hx hb dX1_product_63 ?_
        refine zt_i (v := (nI (X ^^^ X / 2 ^ (n0 + j) % 2 * (q * 2 ^ j)))) (nx_xor _ _) ?_
        refine lv_istore (lv' := [(4, .int (nI (X ^^^ X / 2 ^ (n0 + j) % 2 * (q * 2 ^ j)))), (5, .int (nI (n0 + j))), (0, .int (nI a)), (1, .int (nI b)), (2, .int (nI q)), (3, .int (nI n0))]) hx hb dX1_product_64 hl (by decide) rfl (fun ls hl => ?_)
        refine lv_iinc (v := (nI (n0 + j - 1))) (lv' := [(5, .int (nI (n0 + j - 1))), (4, .int (nI (X ^^^ X / 2 ^ (n0 + j) % 2 * (q * 2 ^ j)))), (0, .int (nI a)), (1, .int (nI b)), (2, .int (nI q)), (3, .int (nI n0))]) hx hb dX1_product_66 hl (k := 1) rfl ((zi_m1 (n0 + j)).trans (zi_sub (by omega))) (by decide) rfl (fun ls hl => ?_)
        refine lv_goto (tgt := 41) hx hb dX1_product_69 (by decide) ?_
        exact ih _ ls (by omega) (pd_x_lt hX hq (by omega)) hR (lv_sub hl [0, 1, 2, 3, 4, 5] rfl)
  have loop : ∀ (n i : Nat) (ls : Array Slot), i + n = n0 → lv_has ls 6 [(5, .int (nI i)), (4, .int (nI (pd_mul a b i))), (0, .int (nI a)), (1, .int (nI b)), (2, .int (nI q)), (3, .int (nI n0))] → W p l e (rmN 0 0) s m args below meth c s.heap [] 0 0 Q (F0 m 6 ls []) := by
    intro n
    induction n with
    | zero =>
      intro i ls hi hl
      have hi : i = n0 := by omega
      rw [hi] at hl
      refine lv_iload hx hb dX1_product_6 (lv_at hl 0 rfl) ?_
      refine lv_iload_n hx hb dX1_product_8 rfl (lv_at hl 5 rfl) ?_
      refine lv_icmp_ge (tgt := 34) hx hb dX1_product_9 (by decide) (fun cc => ?_) (fun cc => ?_)
      · skip
        refine lv_iconst (v := (nI 2)) hx hb dX1_product_34 (by decide) ?_
        refine lv_iload_n hx hb dX1_product_35 rfl (lv_at hl 5 rfl) ?_
        refine lv_imul hx hb dX1_product_36 ?_
        refine zt_i (v := (nI (2 * n0))) (pk_mul _ _) ?_
        refine lv_iconst (v := (nI 2)) hx hb dX1_product_37 (by decide) ?_
        refine lv_isub hx hb dX1_product_38 ?_
        refine zt_i (v := (nI (n0 + (n0 - 1) - 1))) ((zi_sub (by omega)).trans (congrArg nI (by omega))) ?_
        refine lv_istore (lv' := [(5, .int (nI (n0 + (n0 - 1) - 1))), (4, .int (nI (pd_mul a b n0))), (0, .int (nI a)), (1, .int (nI b)), (2, .int (nI q)), (3, .int (nI n0))]) hx hb dX1_product_39 hl (by decide) rfl (fun ls hl => ?_)
        exact loop2 (n0 - 1) _ ls (by omega) (pd_mul_lt ha n0 hn8) rfl (lv_sub hl [0, 1, 2, 3, 4, 5] rfl)
      · exact absurd (nI_le (Nat.le_refl _) (by omega)) cc
    | succ n ih =>
      intro i ls hi hl
      refine lv_iload hx hb dX1_product_6 (lv_at hl 0 rfl) ?_
      refine lv_iload_n hx hb dX1_product_8 rfl (lv_at hl 5 rfl) ?_
      refine lv_icmp_ge (tgt := 34) hx hb dX1_product_9 (by decide) (fun cc => ?_) (fun cc => ?_)
      · exact absurd ((nI_leI (by omega) (by omega)).mp cc) (by omega)
      · have hs := sh_lt ha (show i ≤ 7 by omega)
        refine lv_iload hx hb dX1_product_12 (lv_at hl 1 rfl) ?_
        refine lv_iload_n hx hb dX1_product_14 rfl (lv_at hl 3 rfl) ?_
        refine lv_iload hx hb dX1_product_15 (lv_at hl 0 rfl) ?_
        refine lv_ishr hx hb dX1_product_17 ?_
        refine zt_i (v := (nI (b / 2 ^ i))) (zi_shr i (by omega) rfl (by omega)) ?_
        refine lv_iconst (v := (nI 1)) hx hb dX1_product_18 (by decide) ?_
        refine lv_iand hx hb dX1_product_19 ?_
        refine zt_i (v := (nI (b / 2 ^ i % 2))) (zi_1 _) ?_
        refine lv_iload_n hx hb dX1_product_20 rfl (lv_at hl 2 rfl) ?_
        refine lv_iload hx hb dX1_product_21 (lv_at hl 0 rfl) ?_
        refine lv_ishl hx hb dX1_product_23 ?_
        refine zt_i (v := (nI (a * 2 ^ i))) (zi_shl i (by omega) rfl (by omega)) ?_
        refine lv_imul hx hb dX1_product_24 ?_
        refine zt_i (v := (nI (b / 2 ^ i % 2 * (a * 2 ^ i)))) (pk_mul _ _) ?_
        refine lv_ixor hx hb dX1_product_25 ?_
        refine zt_i (v := (nI (pd_mul a b (i + 1)))) (nx_xor _ _) ?_
        refine lv_istore (lv' := [(4, .int (nI (pd_mul a b (i + 1)))), (5, .int (nI i)), (0, .int (nI a)), (1, .int (nI b)), (2, .int (nI q)), (3, .int (nI n0))]) hx hb dX1_product_26 hl (by decide) rfl (fun ls hl => ?_)
        refine lv_iinc (v := (nI (i + 1))) (lv' := [(5, .int (nI (i + 1))), (4, .int (nI (pd_mul a b (i + 1)))), (0, .int (nI a)), (1, .int (nI b)), (2, .int (nI q)), (3, .int (nI n0))]) hx hb dX1_product_28 hl (k := 1) rfl (zi_i1 i) (by decide) rfl (fun ls hl => ?_)
        refine lv_goto (tgt := 6) hx hb dX1_product_31 (by decide) ?_
        exact ih (i + 1) ls (by omega) (lv_sub hl [0, 1, 2, 3, 4, 5] rfl)
  refine lv_iconst (v := (nI 0)) hx hb dX1_product_0 (by decide) ?_
  refine lv_istore (lv' := [(4, .int (nI 0)), (0, .int (nI a)), (1, .int (nI b)), (2, .int (nI q)), (3, .int (nI n0))]) hx hb dX1_product_1 hl (by decide) rfl (fun ls hl => ?_)
  refine lv_iconst (v := (nI 0)) hx hb dX1_product_3 (by decide) ?_
  refine lv_istore (lv' := [(5, .int (nI 0)), (4, .int (nI 0)), (0, .int (nI a)), (1, .int (nI b)), (2, .int (nI q)), (3, .int (nI n0))]) hx hb dX1_product_4 hl (by decide) rfl (fun ls hl => ?_)
  exact loop n0 0 ls (Nat.zero_add _) (lv_sub hl [0, 1, 2, 3, 4, 5] rfl)
set_option maxHeartbeats 4000000 in
set_option maxRecDepth 100000 in
/-- OilVectorDeskModel.times, size 8 -/
theorem ctX1_tm8 (l : Launch) (dC : Nat → ClassId) (dI : Nat → Nat → Nat) (a b : Nat) (ha : a < 256) (hb8 : b < 256) : CtI l yX1_times cX1_times 3 (rmN 1 25) dC dI [.int (nI a), .int (nI b), .int (nI 1)] [] [] (fun v => v = nI (tm a b 1)) := by
  refine zm_i (by decide) (Nat.le_of_ble_eq_true rfl) ?_
  intro p e s m args below meth c A ls Q hx hb hml hown hts hA hK hP hD hS hl hret
  have hl : lv_has ls 3 [(0, .int (nI a)), (1, .int (nI b)), (2, .int (nI 1))] := hl
  refine lv_iload_n hx hb dX1_times_0 rfl (lv_at hl 2 rfl) ?_
  refine lv_if_eq (tgt := 17) hx hb dX1_times_1 (by decide) (fun cc => ?_) (fun cc => ?_)
  · exact absurd cc (by decide)
  · skip
    refine lv_iload_n hx hb dX1_times_4 rfl (lv_at hl 0 rfl) ?_
    refine lv_iload_n hx hb dX1_times_5 rfl (lv_at hl 1 rfl) ?_
    refine lv_sipush (v := (nI 283)) hx hb dX1_times_6 (by decide) ?_
    refine lv_bipush (v := (nI 8)) hx hb dX1_times_9 (by decide) ?_
    refine zc_Si (As := [.int (nI a), .int (nI b), .int (nI 283), .int (nI 8)]) (rest := []) 4 (ctX1_product l dC dI a b 283 8 ha hb8 (by decide) (by decide) (by decide)) (lw_S q162 q163 q5 q164) (by decide +kernel) ⟨Nat.le_of_ble_eq_true rfl, Nat.le_of_ble_eq_true rfl⟩ ⟨rfl, rfl⟩ ⟨Nat.zero_le _, Nat.zero_le _⟩ hx hb hml hown hts hA hK hP hD hS [] [] rfl rfl rfl rfl hl.1 rfl (Nat.le_of_ble_eq_true rfl) dX1_times_11 (fun v H locs hv hP hS => ?_)
    subst hv
    refine lv_goto (tgt := 25) hx hb dX1_times_14 (by decide) ?_
    exact hret _ _ _ _ _ rfl hP hS dX1_times_25
set_option maxHeartbeats 4000000 in
set_option maxRecDepth 100000 in
/-- OilVectorDeskModel.times, size 4 -/
theorem ctX1_tm4 (l : Launch) (dC : Nat → ClassId) (dI : Nat → Nat → Nat) (a b : Nat) (ha : a < 256) (hb8 : b < 256) : CtI l yX1_times cX1_times 3 (rmN 1 25) dC dI [.int (nI a), .int (nI b), .int (nI 0)] [] [] (fun v => v = nI (tm a b 0)) := by
  refine zm_i (by decide) (Nat.le_of_ble_eq_true rfl) ?_
  intro p e s m args below meth c A ls Q hx hb hml hown hts hA hK hP hD hS hl hret
  have hl : lv_has ls 3 [(0, .int (nI a)), (1, .int (nI b)), (2, .int (nI 0))] := hl
  refine lv_iload_n hx hb dX1_times_0 rfl (lv_at hl 2 rfl) ?_
  refine lv_if_eq (tgt := 17) hx hb dX1_times_1 (by decide) (fun cc => ?_) (fun cc => ?_)
  · skip
    refine lv_iload_n hx hb dX1_times_17 rfl (lv_at hl 0 rfl) ?_
    refine lv_iload_n hx hb dX1_times_18 rfl (lv_at hl 1 rfl) ?_
    refine lv_bipush (v := (nI 19)) hx hb dX1_times_19 (by decide) ?_
    refine lv_iconst (v := (nI 4)) hx hb dX1_times_21 (by decide) ?_
    refine zc_Si (As := [.int (nI a), .int (nI b), .int (nI 19), .int (nI 4)]) (rest := []) 4 (ctX1_product l dC dI a b 19 4 ha hb8 (by decide) (by decide) (by decide)) (lw_S q162 q163 q5 q164) (by decide +kernel) ⟨Nat.le_of_ble_eq_true rfl, Nat.le_of_ble_eq_true rfl⟩ ⟨rfl, rfl⟩ ⟨Nat.zero_le _, Nat.zero_le _⟩ hx hb hml hown hts hA hK hP hD hS [] [] rfl rfl rfl rfl hl.1 rfl (Nat.le_of_ble_eq_true rfl) dX1_times_22 (fun v H locs hv hP hS => ?_)
    subst hv
    exact hret _ _ _ _ _ rfl hP hS dX1_times_25
  · exact absurd (by decide) cc
end
section
set_option maxHeartbeats 4000000 in
set_option maxRecDepth 100000 in
/-- OilVectorDeskModel.combine, size 8 -/
theorem ctX1_cm8 (l : Launch) (dC : Nat → ClassId) (dI : Nat → Nat → Nat) (h z : Nat) (cZ : ClassId) (B : Nat → Bool) (x y : Int32) (k : Nat) (hk8 : k < 256) (bs : Nat) (hbs : bs ≤ 32) (mo : Nat) (hmo : mo < 2) : CtV l yX1_combine cX1_combine 10 (rmN 2 47) dC dI [.ref h, .int x, .int y, .int (nI k), .int (nI bs), .int (nI 1), .int (nI mo)] (MW h z cZ B) (MT cZ) (fun u : Nat → Bool => u = cm B (ix x) (ix y) k 1 mo 8 bs) (fun u => MW h z cZ u) := by
  refine zm_v (by decide) (Nat.le_of_ble_eq_true rfl) ?_
  intro p e s m args below meth c A ls Q hx hb hml hown hts hA hK hP hD hS hl hret
  have hl : lv_has ls 10 [(0, .ref h), (1, .int x), (2, .int y), (3, .int (nI k)), (4, .int (nI bs)), (5, .int (nI 1)), (6, .int (nI mo))] := hl
  have hx4 := ix_lt x
  have hy4 := ix_lt y
  have loop : ∀ (n i : Nat) (H : Heap) (locs : List Loc) (ls : Array Slot), i + n = bs → va_P (dC, dI) vwCl (MW h z cZ (cm B (ix x) (ix y) k 1 mo 8 i)) H → va_D A (MW h z cZ (cm B (ix x) (ix y) k 1 mo 8 i)) → va_S A s.heap H locs → lv_has ls 10 [(8, .int (nI (8 * i))), (7, .int (nI 8)), (0, .ref h), (1, .int x), (2, .int y), (3, .int (nI k)), (4, .int (nI bs)), (5, .int (nI 1)), (6, .int (nI mo))] → W p l e (rmN 2 47) s m args below meth c H locs 0 0 Q (F0 m 16 ls []) := by
    intro n
    induction n with
    | zero =>
      intro i H locs ls hi hP hD hS hl
      have hi : i = bs := by omega
      refine lv_iload hx hb dX1_combine_16 (lv_at hl 0 rfl) ?_
      refine lv_bipush (v := (nI 8)) hx hb dX1_combine_18 (by decide) ?_
      refine lv_iload hx hb dX1_combine_20 (lv_at hl 6 rfl) ?_
      refine lv_imul hx hb dX1_combine_22 ?_
      refine zt_i (v := (nI (8 * bs))) (pk_mul _ _) ?_
      refine lv_icmp_ge (tgt := 104) hx hb dX1_combine_23 (by decide) (fun cc => ?_) (fun cc => ?_)
      · rw [hi] at hP
        exact hret (cm B (ix x) (ix y) k 1 mo 8 bs) _ _ _ _ rfl hP hS dX1_combine_104
      · exact absurd (nI_le (by omega) (by omega)) cc
    | succ n ih =>
      intro i H locs ls hi hP hD hS hl
      refine lv_iload hx hb dX1_combine_16 (lv_at hl 0 rfl) ?_
      refine lv_bipush (v := (nI 8)) hx hb dX1_combine_18 (by decide) ?_
      refine lv_iload hx hb dX1_combine_20 (lv_at hl 6 rfl) ?_
      refine lv_imul hx hb dX1_combine_22 ?_
      refine zt_i (v := (nI (8 * bs))) (pk_mul _ _) ?_
      refine lv_icmp_ge (tgt := 104) hx hb dX1_combine_23 (by decide) (fun cc => ?_) (fun cc => ?_)
      · exact absurd ((nI_leI (by omega) (by omega)).mp cc) (by omega)
      · skip
        have r1 := rd_lt (cm B (ix x) (ix y) k 1 mo 8 i) 8 (ix x * 256 + 8 * i)
        have r2 := rd_lt (cm B (ix x) (ix y) k 1 mo 8 i) 8 (ix y * 256 + 8 * i)
        have hT : (tm (rd (cm B (ix x) (ix y) k 1 mo 8 i) (ix y * 256 + 8 * i) 8) k 1) < 256 := by
          exact tm_lt8 (by omega)
        have tail : ∀ (ow : Nat) (H : Heap) (locs : List Loc) (ls : Array Slot), ow = (if mo = 1 then (rd (cm B (ix x) (ix y) k 1 mo 8 i) (ix x * 256 + 8 * i) 8) else 0) → va_P (dC, dI) vwCl (MW h z cZ (cm B (ix x) (ix y) k 1 mo 8 i)) H → va_S A s.heap H locs → lv_has ls 10 [(9, .int (nI ow)), (8, .int (nI (8 * i))), (7, .int (nI 8)), (0, .ref h), (1, .int x), (2, .int y), (3, .int (nI k)), (4, .int (nI bs)), (5, .int (nI 1)), (6, .int (nI mo))] → W p l e (rmN 2 47) s m args below meth c H locs 0 0 Q (F0 m 53 ls []) := by
          intro ow H locs ls how hP hS hl
          have how2 : ow < 256 := by
            rw [how]
            by_cases hm : mo = 1
            · rw [if_pos hm]; omega
            · rw [if_neg hm]; decide
          have hV : (ow ^^^ (tm (rd (cm B (ix x) (ix y) k 1 mo 8 i) (ix y * 256 + 8 * i) 8) k 1)) < 256 := Nat.xor_lt_two_pow (n := 8) how2 hT
          refine lv_aload_n hx hb dX1_combine_53 rfl (lv_at hl 3 rfl) ?_
          refine lv_iload_n hx hb dX1_combine_54 rfl (lv_at hl 4 rfl) ?_
          refine lv_iconst (v := (nI 3)) hx hb dX1_combine_55 (by decide) ?_
          refine lv_iand hx hb dX1_combine_56 ?_
          refine zt_i (v := (nI (ix x))) (zi_3 x) ?_
          refine lv_sipush (v := (nI 256)) hx hb dX1_combine_57 (by decide) ?_
          refine lv_imul hx hb dX1_combine_60 ?_
          refine zt_i (v := (nI (ix x * 256))) (pk_mul _ _) ?_
          refine lv_iload hx hb dX1_combine_61 (lv_at hl 1 rfl) ?_
          refine lv_iadd hx hb dX1_combine_63 ?_
          refine zt_i (v := (nI (ix x * 256 + 8 * i))) (nI_add _ _) ?_
          refine lv_iload hx hb dX1_combine_64 (lv_at hl 2 rfl) ?_
          refine lv_iload hx hb dX1_combine_66 (lv_at hl 0 rfl) ?_
          refine lv_aload_n hx hb dX1_combine_68 rfl (lv_at hl 3 rfl) ?_
          refine lv_iload_n hx hb dX1_combine_69 rfl (lv_at hl 5 rfl) ?_
          refine lv_iconst (v := (nI 3)) hx hb dX1_combine_70 (by decide) ?_
          refine lv_iand hx hb dX1_combine_71 ?_
          refine zt_i (v := (nI (ix y))) (zi_3 y) ?_
          refine lv_sipush (v := (nI 256)) hx hb dX1_combine_72 (by decide) ?_
          refine lv_imul hx hb dX1_combine_75 ?_
          refine zt_i (v := (nI (ix y * 256))) (pk_mul _ _) ?_
          refine lv_iload hx hb dX1_combine_76 (lv_at hl 1 rfl) ?_
          refine lv_iadd hx hb dX1_combine_78 ?_
          refine zt_i (v := (nI (ix y * 256 + 8 * i))) (nI_add _ _) ?_
          refine lv_iload hx hb dX1_combine_79 (lv_at hl 2 rfl) ?_
          refine zc_Vi (As := [.int (nI (ix y * 256 + 8 * i)), .int (nI 8)]) (rest := [.int (nI ow), .int (nI 8), .int (nI (ix x * 256 + 8 * i)), .ref h]) (b := h) (qr := 1) (ci := 1) 2 (ctX1_read l dC dI h z cZ (cm B (ix x) (ix y) k 1 mo 8 i) (ix y * 256 + 8 * i) 8 (by omega) (by decide)) rfl rfl (lw_V q155 q157 qs2 q5 q158) (by decide +kernel) ⟨Nat.le_of_ble_eq_true rfl, Nat.le_of_ble_eq_true rfl⟩ ⟨rfl, rfl⟩ ⟨Nat.zero_le _, Nat.zero_le _⟩ hx hb hml hown hts hA hK hP hD hS [0, 1] [0] rfl rfl rfl rfl hl.1 rfl (Nat.le_of_ble_eq_true rfl) dX1_combine_81 (fun v H locs hv hP hS => ?_)
          subst hv
          refine lv_iload_n hx hb dX1_combine_84 rfl (lv_at hl 6 rfl) ?_
          refine lv_iload hx hb dX1_combine_85 (lv_at hl 8 rfl) ?_
          refine zc_Si (As := [.int (nI (rd (cm B (ix x) (ix y) k 1 mo 8 i) (ix y * 256 + 8 * i) 8)), .int (nI k), .int (nI 1)]) (rest := [.int (nI ow), .int (nI 8), .int (nI (ix x * 256 + 8 * i)), .ref h]) 3 (ctX1_tm8 l dC dI (rd (cm B (ix x) (ix y) k 1 mo 8 i) (ix y * 256 + 8 * i) 8) k (by omega) hk8) (lw_S q159 q160 q5 q161) (by decide +kernel) ⟨Nat.le_of_ble_eq_true rfl, Nat.le_of_ble_eq_true rfl⟩ ⟨rfl, rfl⟩ ⟨Nat.zero_le _, Nat.zero_le _⟩ hx hb hml hown hts hA hK hP hD hS [] [] rfl rfl rfl rfl hl.1 rfl (Nat.le_of_ble_eq_true rfl) dX1_combine_87 (fun v H locs hv hP hS => ?_)
          subst hv
          refine lv_ixor hx hb dX1_combine_90 ?_
          refine zt_i (v := (nI (ow ^^^ (tm (rd (cm B (ix x) (ix y) k 1 mo 8 i) (ix y * 256 + 8 * i) 8) k 1)))) (nx_xor _ _) ?_
          refine zc_Vv (As := [.int (nI (ix x * 256 + 8 * i)), .int (nI 8), .int (nI (ow ^^^ (tm (rd (cm B (ix x) (ix y) k 1 mo 8 i) (ix y * 256 + 8 * i) 8) k 1)))]) (rest := []) (b := h) (qr := 1) (ci := 1) 3 (ctX1_write l dC dI h z cZ (cm B (ix x) (ix y) k 1 mo 8 i) (ix x * 256 + 8 * i) 8 (ow ^^^ (tm (rd (cm B (ix x) (ix y) k 1 mo 8 i) (ix y * 256 + 8 * i) 8) k 1)) (by omega) (by omega)) rfl rfl (lw_V q139 q141 qs0 q5 q142) (by decide +kernel) ⟨Nat.le_of_ble_eq_true rfl, Nat.le_of_ble_eq_true rfl⟩ ⟨rfl, rfl⟩ ⟨Nat.zero_le _, Nat.zero_le _⟩ hx hb hml hown hts hA hK hP hD hS [0, 1] [0] rfl rfl rfl rfl hl.1 rfl (Nat.le_of_ble_eq_true rfl) dX1_combine_91 (fun u H locs hu hP1 hk hS => ?_)
          subst hu
          have hP : va_P (dC, dI) vwCl (MW h z cZ (wr (cm B (ix x) (ix y) k 1 mo 8 i) (ix x * 256 + 8 * i) 8 (ow ^^^ (tm (rd (cm B (ix x) (ix y) k 1 mo 8 i) (ix y * 256 + 8 * i) 8) k 1)))) H := zj_set (i0 := 0) (it := [1]) hP hD rfl hk hP1
          have hD : va_D A (MW h z cZ (wr (cm B (ix x) (ix y) k 1 mo 8 i) (ix x * 256 + 8 * i) 8 (ow ^^^ (tm (rd (cm B (ix x) (ix y) k 1 mo 8 i) (ix y * 256 + 8 * i) 8) k 1)))) := hD.set (p := 0) rfl
          have hc : (wr (cm B (ix x) (ix y) k 1 mo 8 i) (ix x * 256 + 8 * i) 8 (ow ^^^ (tm (rd (cm B (ix x) (ix y) k 1 mo 8 i) (ix y * 256 + 8 * i) 8) k 1))) = (cm B (ix x) (ix y) k 1 mo 8 (i + 1)) := by rw [how]; rfl
          rw [hc] at hP hD
          refine lv_iload hx hb dX1_combine_94 (lv_at hl 1 rfl) ?_
          refine lv_iload hx hb dX1_combine_96 (lv_at hl 2 rfl) ?_
          refine lv_iadd hx hb dX1_combine_98 ?_
          refine zt_i (v := (nI (8 * (i + 1)))) ((nI_add _ _).trans (congrArg nI (by omega))) ?_
          refine lv_istore (lv' := [(8, .int (nI (8 * (i + 1)))), (9, .int (nI ow)), (7, .int (nI 8)), (0, .ref h), (1, .int x), (2, .int y), (3, .int (nI k)), (4, .int (nI bs)), (5, .int (nI 1)), (6, .int (nI mo))]) hx hb dX1_combine_99 hl (by decide) rfl (fun ls hl => ?_)
          refine lv_goto (tgt := 16) hx hb dX1_combine_101 (by decide) ?_
          exact ih (i + 1) H locs ls (by omega) hP hD hS (lv_sub hl [0, 2, 3, 4, 5, 6, 7, 8, 9] rfl)
        refine lv_iload hx hb dX1_combine_26 (lv_at hl 8 rfl) ?_
        refine lv_if_eq (tgt := 50) hx hb dX1_combine_28 (by decide) (fun c2 => ?_) (fun c2 => ?_)
        · have hm : ¬ mo = 1 := by have := (zi_eq0 (by omega)).mp c2; omega
          refine lv_iconst (v := (nI 0)) hx hb dX1_combine_50 (by decide) ?_
          refine lv_istore (lv' := [(9, .int (nI 0)), (8, .int (nI (8 * i))), (7, .int (nI 8)), (0, .ref h), (1, .int x), (2, .int y), (3, .int (nI k)), (4, .int (nI bs)), (5, .int (nI 1)), (6, .int (nI mo))]) hx hb dX1_combine_51 hl (by decide) rfl (fun ls hl => ?_)
          exact tail 0 H locs ls (if_neg hm).symm hP hS (lv_sub hl [0, 1, 2, 3, 4, 5, 6, 7, 8, 9] rfl)
        · have hm : mo = 1 := by have : ¬ mo = 0 := fun q => c2 ((zi_eq0 (by omega)).mpr q); omega
          refine lv_aload_n hx hb dX1_combine_31 rfl (lv_at hl 2 rfl) ?_
          refine lv_iload_n hx hb dX1_combine_32 rfl (lv_at hl 3 rfl) ?_
          refine lv_iconst (v := (nI 3)) hx hb dX1_combine_33 (by decide) ?_
          refine lv_iand hx hb dX1_combine_34 ?_
          refine zt_i (v := (nI (ix x))) (zi_3 x) ?_
          refine lv_sipush (v := (nI 256)) hx hb dX1_combine_35 (by decide) ?_
          refine lv_imul hx hb dX1_combine_38 ?_
          refine zt_i (v := (nI (ix x * 256))) (pk_mul _ _) ?_
          refine lv_iload hx hb dX1_combine_39 (lv_at hl 0 rfl) ?_
          refine lv_iadd hx hb dX1_combine_41 ?_
          refine zt_i (v := (nI (ix x * 256 + 8 * i))) (nI_add _ _) ?_
          refine lv_iload hx hb dX1_combine_42 (lv_at hl 1 rfl) ?_
          refine zc_Vi (As := [.int (nI (ix x * 256 + 8 * i)), .int (nI 8)]) (rest := []) (b := h) (qr := 1) (ci := 1) 2 (ctX1_read l dC dI h z cZ (cm B (ix x) (ix y) k 1 mo 8 i) (ix x * 256 + 8 * i) 8 (by omega) (by decide)) rfl rfl (lw_V q155 q157 qs2 q5 q158) (by decide +kernel) ⟨Nat.le_of_ble_eq_true rfl, Nat.le_of_ble_eq_true rfl⟩ ⟨rfl, rfl⟩ ⟨Nat.zero_le _, Nat.zero_le _⟩ hx hb hml hown hts hA hK hP hD hS [0, 1] [0] rfl rfl rfl rfl hl.1 rfl (Nat.le_of_ble_eq_true rfl) dX1_combine_44 (fun v H locs hv hP hS => ?_)
          subst hv
          refine lv_goto (tgt := 51) hx hb dX1_combine_47 (by decide) ?_
          refine lv_istore (lv' := [(9, .int (nI (rd (cm B (ix x) (ix y) k 1 mo 8 i) (ix x * 256 + 8 * i) 8))), (8, .int (nI (8 * i))), (7, .int (nI 8)), (0, .ref h), (1, .int x), (2, .int y), (3, .int (nI k)), (4, .int (nI bs)), (5, .int (nI 1)), (6, .int (nI mo))]) hx hb dX1_combine_51 hl (by decide) rfl (fun ls hl => ?_)
          exact tail (rd (cm B (ix x) (ix y) k 1 mo 8 i) (ix x * 256 + 8 * i) 8) H locs ls (if_pos hm).symm hP hS (lv_sub hl [0, 1, 2, 3, 4, 5, 6, 7, 8, 9] rfl)
  refine lv_iload hx hb dX1_combine_0 (lv_at hl 5 rfl) ?_
  refine lv_if_eq (tgt := 10) hx hb dX1_combine_2 (by decide) (fun cc => ?_) (fun cc => ?_)
  · exact absurd cc (by decide)
  · skip
    refine lv_bipush (v := (nI 8)) hx hb dX1_combine_5 (by decide) ?_
    refine lv_goto (tgt := 11) hx hb dX1_combine_7 (by decide) ?_
    refine lv_istore (lv' := [(7, .int (nI 8)), (0, .ref h), (1, .int x), (2, .int y), (3, .int (nI k)), (4, .int (nI bs)), (5, .int (nI 1)), (6, .int (nI mo))]) hx hb dX1_combine_11 hl (by decide) rfl (fun ls hl => ?_)
    refine lv_iconst (v := (nI 0)) hx hb dX1_combine_13 (by decide) ?_
    refine lv_istore (lv' := [(8, .int (nI 0)), (7, .int (nI 8)), (0, .ref h), (1, .int x), (2, .int y), (3, .int (nI k)), (4, .int (nI bs)), (5, .int (nI 1)), (6, .int (nI mo))]) hx hb dX1_combine_14 hl (by decide) rfl (fun ls hl => ?_)
    exact loop bs 0 s.heap [] ls (Nat.zero_add _) hP hD hS (lv_sub hl [0, 1, 2, 3, 4, 5, 6, 7, 8] rfl)
end
section
set_option maxHeartbeats 4000000 in
set_option maxRecDepth 100000 in
/-- OilVectorDeskModel.combine, size 4 -/
theorem ctX1_cm4 (l : Launch) (dC : Nat → ClassId) (dI : Nat → Nat → Nat) (h z : Nat) (cZ : ClassId) (B : Nat → Bool) (x y : Int32) (k : Nat) (hk8 : k < 256) (hk4 : k < 16) (bs : Nat) (hbs : bs ≤ 32) (mo : Nat) (hmo : mo < 2) : CtV l yX1_combine cX1_combine 10 (rmN 2 47) dC dI [.ref h, .int x, .int y, .int (nI k), .int (nI bs), .int (nI 0), .int (nI mo)] (MW h z cZ B) (MT cZ) (fun u : Nat → Bool => u = cm B (ix x) (ix y) k 0 mo 4 (2 * bs)) (fun u => MW h z cZ u) := by
  refine zm_v (by decide) (Nat.le_of_ble_eq_true rfl) ?_
  intro p e s m args below meth c A ls Q hx hb hml hown hts hA hK hP hD hS hl hret
  have hl : lv_has ls 10 [(0, .ref h), (1, .int x), (2, .int y), (3, .int (nI k)), (4, .int (nI bs)), (5, .int (nI 0)), (6, .int (nI mo))] := hl
  have hx4 := ix_lt x
  have hy4 := ix_lt y
  have loop : ∀ (n i : Nat) (H : Heap) (locs : List Loc) (ls : Array Slot), i + n = (2 * bs) → va_P (dC, dI) vwCl (MW h z cZ (cm B (ix x) (ix y) k 0 mo 4 i)) H → va_D A (MW h z cZ (cm B (ix x) (ix y) k 0 mo 4 i)) → va_S A s.heap H locs → lv_has ls 10 [(8, .int (nI (4 * i))), (7, .int (nI 4)), (0, .ref h), (1, .int x), (2, .int y), (3, .int (nI k)), (4, .int (nI bs)), (5, .int (nI 0)), (6, .int (nI mo))] → W p l e (rmN 2 47) s m args below meth c H locs 0 0 Q (F0 m 16 ls []) := by
    intro n
    induction n with
    | zero =>
      intro i H locs ls hi hP hD hS hl
      have hi : i = (2 * bs) := by omega
      refine lv_iload hx hb dX1_combine_16 (lv_at hl 0 rfl) ?_
      refine lv_bipush (v := (nI 8)) hx hb dX1_combine_18 (by decide) ?_
      refine lv_iload hx hb dX1_combine_20 (lv_at hl 6 rfl) ?_
      refine lv_imul hx hb dX1_combine_22 ?_
      refine zt_i (v := (nI (8 * bs))) (pk_mul _ _) ?_
      refine lv_icmp_ge (tgt := 104) hx hb dX1_combine_23 (by decide) (fun cc => ?_) (fun cc => ?_)
      · rw [hi] at hP
        exact hret (cm B (ix x) (ix y) k 0 mo 4 (2 * bs)) _ _ _ _ rfl hP hS dX1_combine_104
      · exact absurd (nI_le (by omega) (by omega)) cc
    | succ n ih =>
      intro i H locs ls hi hP hD hS hl
      refine lv_iload hx hb dX1_combine_16 (lv_at hl 0 rfl) ?_
      refine lv_bipush (v := (nI 8)) hx hb dX1_combine_18 (by decide) ?_
      refine lv_iload hx hb dX1_combine_20 (lv_at hl 6 rfl) ?_
      refine lv_imul hx hb dX1_combine_22 ?_
      refine zt_i (v := (nI (8 * bs))) (pk_mul _ _) ?_
      refine lv_icmp_ge (tgt := 104) hx hb dX1_combine_23 (by decide) (fun cc => ?_) (fun cc => ?_)
      · exact absurd ((nI_leI (by omega) (by omega)).mp cc) (by omega)
      · skip
        have r1 := rd_lt (cm B (ix x) (ix y) k 0 mo 4 i) 4 (ix x * 256 + 4 * i)
        have r2 := rd_lt (cm B (ix x) (ix y) k 0 mo 4 i) 4 (ix y * 256 + 4 * i)
        have hT : (tm (rd (cm B (ix x) (ix y) k 0 mo 4 i) (ix y * 256 + 4 * i) 4) k 0) < 256 := by
          exact tm_lt4 hk4 (by omega)
        have tail : ∀ (ow : Nat) (H : Heap) (locs : List Loc) (ls : Array Slot), ow = (if mo = 1 then (rd (cm B (ix x) (ix y) k 0 mo 4 i) (ix x * 256 + 4 * i) 4) else 0) → va_P (dC, dI) vwCl (MW h z cZ (cm B (ix x) (ix y) k 0 mo 4 i)) H → va_S A s.heap H locs → lv_has ls 10 [(9, .int (nI ow)), (8, .int (nI (4 * i))), (7, .int (nI 4)), (0, .ref h), (1, .int x), (2, .int y), (3, .int (nI k)), (4, .int (nI bs)), (5, .int (nI 0)), (6, .int (nI mo))] → W p l e (rmN 2 47) s m args below meth c H locs 0 0 Q (F0 m 53 ls []) := by
          intro ow H locs ls how hP hS hl
          have how2 : ow < 256 := by
            rw [how]
            by_cases hm : mo = 1
            · rw [if_pos hm]; omega
            · rw [if_neg hm]; decide
          have hV : (ow ^^^ (tm (rd (cm B (ix x) (ix y) k 0 mo 4 i) (ix y * 256 + 4 * i) 4) k 0)) < 256 := Nat.xor_lt_two_pow (n := 8) how2 hT
          refine lv_aload_n hx hb dX1_combine_53 rfl (lv_at hl 3 rfl) ?_
          refine lv_iload_n hx hb dX1_combine_54 rfl (lv_at hl 4 rfl) ?_
          refine lv_iconst (v := (nI 3)) hx hb dX1_combine_55 (by decide) ?_
          refine lv_iand hx hb dX1_combine_56 ?_
          refine zt_i (v := (nI (ix x))) (zi_3 x) ?_
          refine lv_sipush (v := (nI 256)) hx hb dX1_combine_57 (by decide) ?_
          refine lv_imul hx hb dX1_combine_60 ?_
          refine zt_i (v := (nI (ix x * 256))) (pk_mul _ _) ?_
          refine lv_iload hx hb dX1_combine_61 (lv_at hl 1 rfl) ?_
          refine lv_iadd hx hb dX1_combine_63 ?_
          refine zt_i (v := (nI (ix x * 256 + 4 * i))) (nI_add _ _) ?_
          refine lv_iload hx hb dX1_combine_64 (lv_at hl 2 rfl) ?_
          refine lv_iload hx hb dX1_combine_66 (lv_at hl 0 rfl) ?_
          refine lv_aload_n hx hb dX1_combine_68 rfl (lv_at hl 3 rfl) ?_
          refine lv_iload_n hx hb dX1_combine_69 rfl (lv_at hl 5 rfl) ?_
          refine lv_iconst (v := (nI 3)) hx hb dX1_combine_70 (by decide) ?_
          refine lv_iand hx hb dX1_combine_71 ?_
          refine zt_i (v := (nI (ix y))) (zi_3 y) ?_
          refine lv_sipush (v := (nI 256)) hx hb dX1_combine_72 (by decide) ?_
          refine lv_imul hx hb dX1_combine_75 ?_
          refine zt_i (v := (nI (ix y * 256))) (pk_mul _ _) ?_
          refine lv_iload hx hb dX1_combine_76 (lv_at hl 1 rfl) ?_
          refine lv_iadd hx hb dX1_combine_78 ?_
          refine zt_i (v := (nI (ix y * 256 + 4 * i))) (nI_add _ _) ?_
          refine lv_iload hx hb dX1_combine_79 (lv_at hl 2 rfl) ?_
          refine zc_Vi (As := [.int (nI (ix y * 256 + 4 * i)), .int (nI 4)]) (rest := [.int (nI ow), .int (nI 4), .int (nI (ix x * 256 + 4 * i)), .ref h]) (b := h) (qr := 1) (ci := 1) 2 (ctX1_read l dC dI h z cZ (cm B (ix x) (ix y) k 0 mo 4 i) (ix y * 256 + 4 * i) 4 (by omega) (by decide)) rfl rfl (lw_V q155 q157 qs2 q5 q158) (by decide +kernel) ⟨Nat.le_of_ble_eq_true rfl, Nat.le_of_ble_eq_true rfl⟩ ⟨rfl, rfl⟩ ⟨Nat.zero_le _, Nat.zero_le _⟩ hx hb hml hown hts hA hK hP hD hS [0, 1] [0] rfl rfl rfl rfl hl.1 rfl (Nat.le_of_ble_eq_true rfl) dX1_combine_81 (fun v H locs hv hP hS => ?_)
          subst hv
          refine lv_iload_n hx hb dX1_combine_84 rfl (lv_at hl 6 rfl) ?_
          refine lv_iload hx hb dX1_combine_85 (lv_at hl 8 rfl) ?_
          refine zc_Si (As := [.int (nI (rd (cm B (ix x) (ix y) k 0 mo 4 i) (ix y * 256 + 4 * i) 4)), .int (nI k), .int (nI 0)]) (rest := [.int (nI ow), .int (nI 4), .int (nI (ix x * 256 + 4 * i)), .ref h]) 3 (ctX1_tm4 l dC dI (rd (cm B (ix x) (ix y) k 0 mo 4 i) (ix y * 256 + 4 * i) 4) k (by omega) hk8) (lw_S q159 q160 q5 q161) (by decide +kernel) ⟨Nat.le_of_ble_eq_true rfl, Nat.le_of_ble_eq_true rfl⟩ ⟨rfl, rfl⟩ ⟨Nat.zero_le _, Nat.zero_le _⟩ hx hb hml hown hts hA hK hP hD hS [] [] rfl rfl rfl rfl hl.1 rfl (Nat.le_of_ble_eq_true rfl) dX1_combine_87 (fun v H locs hv hP hS => ?_)
          subst hv
          refine lv_ixor hx hb dX1_combine_90 ?_
          refine zt_i (v := (nI (ow ^^^ (tm (rd (cm B (ix x) (ix y) k 0 mo 4 i) (ix y * 256 + 4 * i) 4) k 0)))) (nx_xor _ _) ?_
          refine zc_Vv (As := [.int (nI (ix x * 256 + 4 * i)), .int (nI 4), .int (nI (ow ^^^ (tm (rd (cm B (ix x) (ix y) k 0 mo 4 i) (ix y * 256 + 4 * i) 4) k 0)))]) (rest := []) (b := h) (qr := 1) (ci := 1) 3 (ctX1_write l dC dI h z cZ (cm B (ix x) (ix y) k 0 mo 4 i) (ix x * 256 + 4 * i) 4 (ow ^^^ (tm (rd (cm B (ix x) (ix y) k 0 mo 4 i) (ix y * 256 + 4 * i) 4) k 0)) (by omega) (by omega)) rfl rfl (lw_V q139 q141 qs0 q5 q142) (by decide +kernel) ⟨Nat.le_of_ble_eq_true rfl, Nat.le_of_ble_eq_true rfl⟩ ⟨rfl, rfl⟩ ⟨Nat.zero_le _, Nat.zero_le _⟩ hx hb hml hown hts hA hK hP hD hS [0, 1] [0] rfl rfl rfl rfl hl.1 rfl (Nat.le_of_ble_eq_true rfl) dX1_combine_91 (fun u H locs hu hP1 hk hS => ?_)
          subst hu
          have hP : va_P (dC, dI) vwCl (MW h z cZ (wr (cm B (ix x) (ix y) k 0 mo 4 i) (ix x * 256 + 4 * i) 4 (ow ^^^ (tm (rd (cm B (ix x) (ix y) k 0 mo 4 i) (ix y * 256 + 4 * i) 4) k 0)))) H := zj_set (i0 := 0) (it := [1]) hP hD rfl hk hP1
          have hD : va_D A (MW h z cZ (wr (cm B (ix x) (ix y) k 0 mo 4 i) (ix x * 256 + 4 * i) 4 (ow ^^^ (tm (rd (cm B (ix x) (ix y) k 0 mo 4 i) (ix y * 256 + 4 * i) 4) k 0)))) := hD.set (p := 0) rfl
          have hc : (wr (cm B (ix x) (ix y) k 0 mo 4 i) (ix x * 256 + 4 * i) 4 (ow ^^^ (tm (rd (cm B (ix x) (ix y) k 0 mo 4 i) (ix y * 256 + 4 * i) 4) k 0))) = (cm B (ix x) (ix y) k 0 mo 4 (i + 1)) := by rw [how]; rfl
          rw [hc] at hP hD
          refine lv_iload hx hb dX1_combine_94 (lv_at hl 1 rfl) ?_
          refine lv_iload hx hb dX1_combine_96 (lv_at hl 2 rfl) ?_
          refine lv_iadd hx hb dX1_combine_98 ?_
          refine zt_i (v := (nI (4 * (i + 1)))) ((nI_add _ _).trans (congrArg nI (by omega))) ?_
          refine lv_istore (lv' := [(8, .int (nI (4 * (i + 1)))), (9, .int (nI ow)), (7, .int (nI 4)), (0, .ref h), (1, .int x), (2, .int y), (3, .int (nI k)), (4, .int (nI bs)), (5, .int (nI 0)), (6, .int (nI mo))]) hx hb dX1_combine_99 hl (by decide) rfl (fun ls hl => ?_)
          refine lv_goto (tgt := 16) hx hb dX1_combine_101 (by decide) ?_
          exact ih (i + 1) H locs ls (by omega) hP hD hS (lv_sub hl [0, 2, 3, 4, 5, 6, 7, 8, 9] rfl)
        refine lv_iload hx hb dX1_combine_26 (lv_at hl 8 rfl) ?_
        refine lv_if_eq (tgt := 50) hx hb dX1_combine_28 (by decide) (fun c2 => ?_) (fun c2 => ?_)
        · have hm : ¬ mo = 1 := by have := (zi_eq0 (by omega)).mp c2; omega
          refine lv_iconst (v := (nI 0)) hx hb dX1_combine_50 (by decide) ?_
          refine lv_istore (lv' := [(9, .int (nI 0)), (8, .int (nI (4 * i))), (7, .int (nI 4)), (0, .ref h), (1, .int x), (2, .int y), (3, .int (nI k)), (4, .int (nI bs)), (5, .int (nI 0)), (6, .int (nI mo))]) hx hb dX1_combine_51 hl (by decide) rfl (fun ls hl => ?_)
          exact tail 0 H locs ls (if_neg hm).symm hP hS (lv_sub hl [0, 1, 2, 3, 4, 5, 6, 7, 8, 9] rfl)
        · have hm : mo = 1 := by have : ¬ mo = 0 := fun q => c2 ((zi_eq0 (by omega)).mpr q); omega
          refine lv_aload_n hx hb dX1_combine_31 rfl (lv_at hl 2 rfl) ?_
          refine lv_iload_n hx hb dX1_combine_32 rfl (lv_at hl 3 rfl) ?_
          refine lv_iconst (v := (nI 3)) hx hb dX1_combine_33 (by decide) ?_
          refine lv_iand hx hb dX1_combine_34 ?_
          refine zt_i (v := (nI (ix x))) (zi_3 x) ?_
          refine lv_sipush (v := (nI 256)) hx hb dX1_combine_35 (by decide) ?_
          refine lv_imul hx hb dX1_combine_38 ?_
          refine zt_i (v := (nI (ix x * 256))) (pk_mul _ _) ?_
          refine lv_iload hx hb dX1_combine_39 (lv_at hl 0 rfl) ?_
          refine lv_iadd hx hb dX1_combine_41 ?_
          refine zt_i (v := (nI (ix x * 256 + 4 * i))) (nI_add _ _) ?_
          refine lv_iload hx hb dX1_combine_42 (lv_at hl 1 rfl) ?_
          refine zc_Vi (As := [.int (nI (ix x * 256 + 4 * i)), .int (nI 4)]) (rest := []) (b := h) (qr := 1) (ci := 1) 2 (ctX1_read l dC dI h z cZ (cm B (ix x) (ix y) k 0 mo 4 i) (ix x * 256 + 4 * i) 4 (by omega) (by decide)) rfl rfl (lw_V q155 q157 qs2 q5 q158) (by decide +kernel) ⟨Nat.le_of_ble_eq_true rfl, Nat.le_of_ble_eq_true rfl⟩ ⟨rfl, rfl⟩ ⟨Nat.zero_le _, Nat.zero_le _⟩ hx hb hml hown hts hA hK hP hD hS [0, 1] [0] rfl rfl rfl rfl hl.1 rfl (Nat.le_of_ble_eq_true rfl) dX1_combine_44 (fun v H locs hv hP hS => ?_)
          subst hv
          refine lv_goto (tgt := 51) hx hb dX1_combine_47 (by decide) ?_
          refine lv_istore (lv' := [(9, .int (nI (rd (cm B (ix x) (ix y) k 0 mo 4 i) (ix x * 256 + 4 * i) 4))), (8, .int (nI (4 * i))), (7, .int (nI 4)), (0, .ref h), (1, .int x), (2, .int y), (3, .int (nI k)), (4, .int (nI bs)), (5, .int (nI 0)), (6, .int (nI mo))]) hx hb dX1_combine_51 hl (by decide) rfl (fun ls hl => ?_)
          exact tail (rd (cm B (ix x) (ix y) k 0 mo 4 i) (ix x * 256 + 4 * i) 4) H locs ls (if_pos hm).symm hP hS (lv_sub hl [0, 1, 2, 3, 4, 5, 6, 7, 8, 9] rfl)
  refine lv_iload hx hb dX1_combine_0 (lv_at hl 5 rfl) ?_
  refine lv_if_eq (tgt := 10) hx hb dX1_combine_2 (by decide) (fun cc => ?_) (fun cc => ?_)
  · skip
    refine lv_iconst (v := (nI 4)) hx hb dX1_combine_10 (by decide) ?_
    refine lv_istore (lv' := [(7, .int (nI 4)), (0, .ref h), (1, .int x), (2, .int y), (3, .int (nI k)), (4, .int (nI bs)), (5, .int (nI 0)), (6, .int (nI mo))]) hx hb dX1_combine_11 hl (by decide) rfl (fun ls hl => ?_)
    refine lv_iconst (v := (nI 0)) hx hb dX1_combine_13 (by decide) ?_
    refine lv_istore (lv' := [(8, .int (nI 0)), (7, .int (nI 4)), (0, .ref h), (1, .int x), (2, .int y), (3, .int (nI k)), (4, .int (nI bs)), (5, .int (nI 0)), (6, .int (nI mo))]) hx hb dX1_combine_14 hl (by decide) rfl (fun ls hl => ?_)
    exact loop (2 * bs) 0 s.heap [] ls (Nat.zero_add _) hP hD hS (lv_sub hl [0, 1, 2, 3, 4, 5, 6, 7, 8] rfl)
  · exact absurd (by decide) cc
end
section
set_option maxHeartbeats 4000000 in
set_option maxRecDepth 100000 in
/-- OilVectorDeskModel.lay -/
theorem ctX1_lay (l : Launch) (dC : Nat → ClassId) (dI : Nat → Nat → Nat) (h z : Nat) (cZ : ClassId) (B : Nat → Bool) (x y a b k : Int32) : CtV l yX1_lay cX1_lay 9 (rmN 1 24) dC dI [.ref h, .int x, .int y, .int a, .int b, .int k] (MW h z cZ B) (MT cZ) (fun u : Nat → Bool => u = ly B (ix x * 256 + y.toBitVec.toNat % 2147483648 % 6 * 32) (wb12 a.toBitVec.toNat b.toBitVec.toNat k.toBitVec.toNat) 12) (fun u => MW h z cZ u) := by
  refine zm_v (by decide) (Nat.le_of_ble_eq_true rfl) ?_
  intro p e s m args below meth c A ls Q hx hb hml hown hts hA hK hP hD hS hl hret
  have hl : lv_has ls 9 [(0, .ref h), (1, .int x), (2, .int y), (3, .int a), (4, .int b), (5, .int k)] := hl
  have hx4 := ix_lt x
  have hF : (ix x * 256 + y.toBitVec.toNat % 2147483648 % 6 * 32) ≤ 928 := by omega
  have loop : ∀ (n i : Nat) (H : Heap) (locs : List Loc) (ls : Array Slot), i + n = 12 → va_P (dC, dI) vwCl (MW h z cZ (ly B (ix x * 256 + y.toBitVec.toNat % 2147483648 % 6 * 32) (wb12 a.toBitVec.toNat b.toBitVec.toNat k.toBitVec.toNat) i)) H → va_D A (MW h z cZ (ly B (ix x * 256 + y.toBitVec.toNat % 2147483648 % 6 * 32) (wb12 a.toBitVec.toNat b.toBitVec.toNat k.toBitVec.toNat) i)) → va_S A s.heap H locs → lv_has ls 9 [(7, .int (nI i)), (6, .int (nI (ix x * 256 + y.toBitVec.toNat % 2147483648 % 6 * 32))), (0, .ref h), (1, .int x), (2, .int y), (3, .int a), (4, .int b), (5, .int k)] → W p l e (rmN 1 24) s m args below meth c H locs 0 0 Q (F0 m 23 ls []) := by
    intro n
    induction n with
    | zero =>
      intro i H locs ls hi hP hD hS hl
      have hi : i = 12 := by omega
      subst hi
      refine lv_iload hx hb dX1_lay_23 (lv_at hl 0 rfl) ?_
      refine lv_bipush (v := (nI 12)) hx hb dX1_lay_25 (by decide) ?_
      refine lv_icmp_ge (tgt := 93) hx hb dX1_lay_27 (by decide) (fun cc => ?_) (fun cc => ?_)
      · exact hret (ly B (ix x * 256 + y.toBitVec.toNat % 2147483648 % 6 * 32) (wb12 a.toBitVec.toNat b.toBitVec.toNat k.toBitVec.toNat) 12) _ _ _ _ rfl hP hS dX1_lay_93
      · exact absurd (nI_le (Nat.le_refl _) (by decide)) cc
    | succ n ih =>
      intro i H locs ls hi hP hD hS hl
      refine lv_iload hx hb dX1_lay_23 (lv_at hl 0 rfl) ?_
      refine lv_bipush (v := (nI 12)) hx hb dX1_lay_25 (by decide) ?_
      refine lv_icmp_ge (tgt := 93) hx hb dX1_lay_27 (by decide) (fun cc => ?_) (fun cc => ?_)
      · exact absurd ((nI_leI (by decide) (by omega)).mp cc) (by omega)
      · skip
        have tail : ∀ (wv : Int32) (ls : Array Slot), wv.toBitVec.toNat = (if i < 4 then a.toBitVec.toNat else if i < 8 then b.toBitVec.toNat else k.toBitVec.toNat) → lv_has ls 9 [(8, .int wv), (7, .int (nI i)), (6, .int (nI (ix x * 256 + y.toBitVec.toNat % 2147483648 % 6 * 32))), (0, .ref h), (1, .int x), (2, .int y), (3, .int a), (4, .int b), (5, .int k)] → W p l e (rmN 1 24) s m args below meth c H locs 0 0 Q (F0 m 56 ls []) := by
          intro wv ls hwv hl
          refine lv_aload_n hx hb dX1_lay_56 rfl (lv_at hl 3 rfl) ?_
          refine lv_iload hx hb dX1_lay_57 (lv_at hl 2 rfl) ?_
          refine lv_bipush (v := (nI 8)) hx hb dX1_lay_59 (by decide) ?_
          refine lv_iload hx hb dX1_lay_61 (lv_at hl 1 rfl) ?_
          refine lv_imul hx hb dX1_lay_63 ?_
          refine zt_i (v := (nI (8 * i))) (pk_mul _ _) ?_
          refine lv_iadd hx hb dX1_lay_64 ?_
          refine zt_i (v := (nI ((ix x * 256 + y.toBitVec.toNat % 2147483648 % 6 * 32) + 8 * i))) (nI_add _ _) ?_
          refine lv_bipush (v := (nI 8)) hx hb dX1_lay_65 (by decide) ?_
          refine lv_iload hx hb dX1_lay_67 (lv_at hl 0 rfl) ?_
          refine lv_bipush (v := (nI 24)) hx hb dX1_lay_69 (by decide) ?_
          refine lv_iload hx hb dX1_lay_71 (lv_at hl 1 rfl) ?_
          refine lv_iconst (v := (nI 4)) hx hb dX1_lay_73 (by decide) ?_
          refine lv_irem hx hb dX1_lay_74 (by decide) ?_
          refine zt_i (v := (nI (i % 4))) (pk_rem (by omega) (by decide) (by decide)) ?_
          refine lv_bipush (v := (nI 8)) hx hb dX1_lay_75 (by decide) ?_
          refine lv_imul hx hb dX1_lay_77 ?_
          refine zt_i (v := (nI (i % 4 * 8))) (pk_mul _ _) ?_
          refine lv_isub hx hb dX1_lay_78 ?_
          refine zt_i (v := (nI (24 - i % 4 * 8))) (zi_sub (by omega)) ?_
          refine lv_ishr hx hb dX1_lay_79 ?_
          refine lv_sipush (v := (nI 255)) hx hb dX1_lay_80 (by decide) ?_
          refine lv_iand hx hb dX1_lay_83 ?_
          refine zt_i (v := (nI (wv.toBitVec.toNat / 2 ^ (24 - i % 4 * 8) % 256))) (zi_sb (by omega) wv) ?_
          refine zc_Vv (As := [.int (nI ((ix x * 256 + y.toBitVec.toNat % 2147483648 % 6 * 32) + 8 * i)), .int (nI 8), .int (nI (wv.toBitVec.toNat / 2 ^ (24 - i % 4 * 8) % 256))]) (rest := []) (b := h) (qr := 1) (ci := 1) 3 (ctX1_write l dC dI h z cZ (ly B (ix x * 256 + y.toBitVec.toNat % 2147483648 % 6 * 32) (wb12 a.toBitVec.toNat b.toBitVec.toNat k.toBitVec.toNat) i) ((ix x * 256 + y.toBitVec.toNat % 2147483648 % 6 * 32) + 8 * i) 8 (wv.toBitVec.toNat / 2 ^ (24 - i % 4 * 8) % 256) (by omega) (by omega)) rfl rfl (lw_V q139 q141 qs0 q5 q142) (by decide +kernel) ⟨Nat.le_of_ble_eq_true rfl, Nat.le_of_ble_eq_true rfl⟩ ⟨rfl, rfl⟩ ⟨Nat.zero_le _, Nat.zero_le _⟩ hx hb hml hown hts hA hK hP hD hS [0, 1] [0] rfl rfl rfl rfl hl.1 rfl (Nat.le_of_ble_eq_true rfl) dX1_lay_84 (fun u H locs hu hP1 hk hS => ?_)
          subst hu
          have hP : va_P (dC, dI) vwCl (MW h z cZ (wr (ly B (ix x * 256 + y.toBitVec.toNat % 2147483648 % 6 * 32) (wb12 a.toBitVec.toNat b.toBitVec.toNat k.toBitVec.toNat) i) ((ix x * 256 + y.toBitVec.toNat % 2147483648 % 6 * 32) + 8 * i) 8 (wv.toBitVec.toNat / 2 ^ (24 - i % 4 * 8) % 256))) H := zj_set (i0 := 0) (it := [1]) hP hD rfl hk hP1
          have hD : va_D A (MW h z cZ (wr (ly B (ix x * 256 + y.toBitVec.toNat % 2147483648 % 6 * 32) (wb12 a.toBitVec.toNat b.toBitVec.toNat k.toBitVec.toNat) i) ((ix x * 256 + y.toBitVec.toNat % 2147483648 % 6 * 32) + 8 * i) 8 (wv.toBitVec.toNat / 2 ^ (24 - i % 4 * 8) % 256))) := hD.set (p := 0) rfl
          have hc : (wr (ly B (ix x * 256 + y.toBitVec.toNat % 2147483648 % 6 * 32) (wb12 a.toBitVec.toNat b.toBitVec.toNat k.toBitVec.toNat) i) ((ix x * 256 + y.toBitVec.toNat % 2147483648 % 6 * 32) + 8 * i) 8 (wv.toBitVec.toNat / 2 ^ (24 - i % 4 * 8) % 256)) = (ly B (ix x * 256 + y.toBitVec.toNat % 2147483648 % 6 * 32) (wb12 a.toBitVec.toNat b.toBitVec.toNat k.toBitVec.toNat) (i + 1)) := by rw [hwv]; rfl
          rw [hc] at hP hD
          refine lv_iinc (v := (nI (i + 1))) (lv' := [(7, .int (nI (i + 1))), (8, .int wv), (6, .int (nI (ix x * 256 + y.toBitVec.toNat % 2147483648 % 6 * 32))), (0, .ref h), (1, .int x), (2, .int y), (3, .int a), (4, .int b), (5, .int k)]) hx hb dX1_lay_87 hl (k := 1) rfl (zi_i1 i) (by decide) rfl (fun ls hl => ?_)
          refine lv_goto (tgt := 23) hx hb dX1_lay_90 (by decide) ?_
          exact ih (i + 1) H locs ls (by omega) hP hD hS (lv_sub hl [0, 2, 3, 4, 5, 6, 7, 8] rfl)
        refine lv_iload hx hb dX1_lay_30 (lv_at hl 0 rfl) ?_
        refine lv_iconst (v := (nI 4)) hx hb dX1_lay_32 (by decide) ?_
        refine lv_icmp_ge (tgt := 40) hx hb dX1_lay_33 (by decide) (fun c2 => ?_) (fun c2 => ?_)
        · have h4 : ¬ i < 4 := by have := (nI_leI (by decide) (by omega)).mp c2; omega
          refine lv_iload hx hb dX1_lay_40 (lv_at hl 0 rfl) ?_
          refine lv_bipush (v := (nI 8)) hx hb dX1_lay_42 (by decide) ?_
          refine lv_icmp_ge (tgt := 52) hx hb dX1_lay_44 (by decide) (fun c3 => ?_) (fun c3 => ?_)
          · have h8 : ¬ i < 8 := by have := (nI_leI (by decide) (by omega)).mp c3; omega
            refine lv_iload hx hb dX1_lay_52 (lv_at hl 7 rfl) ?_
            refine lv_istore (lv' := [(8, .int k), (7, .int (nI i)), (6, .int (nI (ix x * 256 + y.toBitVec.toNat % 2147483648 % 6 * 32))), (0, .ref h), (1, .int x), (2, .int y), (3, .int a), (4, .int b), (5, .int k)]) hx hb dX1_lay_54 hl (by decide) rfl (fun ls hl => ?_)
            exact tail k ls (by rw [if_neg h4, if_neg h8]) (lv_sub hl [0, 1, 2, 3, 4, 5, 6, 7, 8] rfl)
          · have h8 : i < 8 := Nat.not_le.mp (fun q => c3 (nI_le q (by omega)))
            refine lv_iload hx hb dX1_lay_47 (lv_at hl 6 rfl) ?_
            refine lv_goto (tgt := 54) hx hb dX1_lay_49 (by decide) ?_
            refine lv_istore (lv' := [(8, .int b), (7, .int (nI i)), (6, .int (nI (ix x * 256 + y.toBitVec.toNat % 2147483648 % 6 * 32))), (0, .ref h), (1, .int x), (2, .int y), (3, .int a), (4, .int b), (5, .int k)]) hx hb dX1_lay_54 hl (by decide) rfl (fun ls hl => ?_)
            exact tail b ls (by rw [if_neg h4, if_pos h8]) (lv_sub hl [0, 1, 2, 3, 4, 5, 6, 7, 8] rfl)
        · have h4 : i < 4 := Nat.not_le.mp (fun q => c2 (nI_le q (by omega)))
          refine lv_iload_n hx hb dX1_lay_36 rfl (lv_at hl 5 rfl) ?_
          refine lv_goto (tgt := 54) hx hb dX1_lay_37 (by decide) ?_
          refine lv_istore (lv' := [(8, .int a), (7, .int (nI i)), (6, .int (nI (ix x * 256 + y.toBitVec.toNat % 2147483648 % 6 * 32))), (0, .ref h), (1, .int x), (2, .int y), (3, .int a), (4, .int b), (5, .int k)]) hx hb dX1_lay_54 hl (by decide) rfl (fun ls hl => ?_)
          exact tail a ls (by rw [if_pos h4]) (lv_sub hl [0, 1, 2, 3, 4, 5, 6, 7, 8] rfl)
  refine lv_iload_n hx hb dX1_lay_0 rfl (lv_at hl 1 rfl) ?_
  refine lv_iconst (v := (nI 3)) hx hb dX1_lay_1 (by decide) ?_
  refine lv_iand hx hb dX1_lay_2 ?_
  refine zt_i (v := (nI (ix x))) (zi_3 x) ?_
  refine lv_sipush (v := (nI 256)) hx hb dX1_lay_3 (by decide) ?_
  refine lv_imul hx hb dX1_lay_6 ?_
  refine zt_i (v := (nI (ix x * 256))) (pk_mul _ _) ?_
  refine lv_iload_n hx hb dX1_lay_7 rfl (lv_at hl 2 rfl) ?_
  refine lv_ldc (v := 2147483647) hx hb hown (hts _ q138) dX1_lay_8 ?_
  refine zt_i (v := (nI 2147483647)) (rfl) ?_
  refine lv_iand hx hb dX1_lay_10 ?_
  refine zt_i (v := (nI (y.toBitVec.toNat % 2147483648))) (zi_and y 31 (by decide) rfl) ?_
  refine lv_bipush (v := (nI 6)) hx hb dX1_lay_11 (by decide) ?_
  refine lv_irem hx hb dX1_lay_13 (by decide) ?_
  refine zt_i (v := (nI (y.toBitVec.toNat % 2147483648 % 6))) (pk_rem (by omega) (by decide) (by decide)) ?_
  refine lv_bipush (v := (nI 32)) hx hb dX1_lay_14 (by decide) ?_
  refine lv_imul hx hb dX1_lay_16 ?_
  refine zt_i (v := (nI (y.toBitVec.toNat % 2147483648 % 6 * 32))) (pk_mul _ _) ?_
  refine lv_iadd hx hb dX1_lay_17 ?_
  refine zt_i (v := (nI (ix x * 256 + y.toBitVec.toNat % 2147483648 % 6 * 32))) (nI_add _ _) ?_
  refine lv_istore (lv' := [(6, .int (nI (ix x * 256 + y.toBitVec.toNat % 2147483648 % 6 * 32))), (0, .ref h), (1, .int x), (2, .int y), (3, .int a), (4, .int b), (5, .int k)]) hx hb dX1_lay_18 hl (by decide) rfl (fun ls hl => ?_)
  refine lv_iconst (v := (nI 0)) hx hb dX1_lay_20 (by decide) ?_
  refine lv_istore (lv' := [(7, .int (nI 0)), (6, .int (nI (ix x * 256 + y.toBitVec.toNat % 2147483648 % 6 * 32))), (0, .ref h), (1, .int x), (2, .int y), (3, .int a), (4, .int b), (5, .int k)]) hx hb dX1_lay_21 hl (by decide) rfl (fun ls hl => ?_)
  exact loop 12 0 s.heap [] ls rfl hP hD hS (lv_sub hl [0, 1, 2, 3, 4, 5, 6, 7] rfl)
end
section
set_option maxHeartbeats 4000000 in
set_option maxRecDepth 100000 in
/-- OilVectorDeskModel.addIf -/
theorem ctX1_addIf (l : Launch) (dC : Nat → ClassId) (dI : Nat → Nat → Nat) (h z : Nat) (cZ : ClassId) (B : Nat → Bool) (x y t : Int32) : CtV l yX1_addIf cX1_addIf 4 (rmN 3 76) dC dI [.ref h, .int x, .int y, .int t] (MW h z cZ B) (MT cZ) (fun u : Nat → Bool => u = md_addIf B (ix x) (ix y) t.toBitVec.toNat) (fun u => MW h z cZ u) := by
  refine zm_v (by decide) (Nat.le_of_ble_eq_true rfl) ?_
  intro p e s m args below meth c A ls Q hx hb hml hown hts hA hK hP hD hS hl hret
  have hl : lv_has ls 4 [(0, .ref h), (1, .int x), (2, .int y), (3, .int t)] := hl
  refine lv_iload_n hx hb dX1_addIf_0 rfl (lv_at hl 1 rfl) ?_
  refine lv_iload_n hx hb dX1_addIf_1 rfl (lv_at hl 2 rfl) ?_
  refine lv_isub hx hb dX1_addIf_2 ?_
  refine lv_iconst (v := (nI 3)) hx hb dX1_addIf_3 (by decide) ?_
  refine lv_iand hx hb dX1_addIf_4 ?_
  refine zt_i (v := (nI (ix (x - y)))) (zi_3 (x - y)) ?_
  refine lv_if_eq (tgt := 25) hx hb dX1_addIf_5 (by decide) (fun cc => ?_) (fun cc => ?_)
  · have hc : ix x = ix y := (ix_sub x y).mp ((zi_eq0 (by have := ix_lt (x - y); omega)).mp cc)
    exact hret B _ _ _ _ (by unfold md_addIf; rw [if_pos hc]) hP hS dX1_addIf_25
  · have hc : ¬ ix x = ix y := fun q => cc ((zi_eq0 (by have := ix_lt (x - y); omega)).mpr ((ix_sub x y).mpr q))
    refine lv_iload_n hx hb dX1_addIf_8 rfl (lv_at hl 3 rfl) ?_
    refine lv_iconst (v := (nI 2)) hx hb dX1_addIf_9 (by decide) ?_
    refine lv_irem hx hb dX1_addIf_10 (by decide) ?_
    refine lv_if_eq (tgt := 25) hx hb dX1_addIf_11 (by decide) (fun c2 => ?_) (fun c2 => ?_)
    · have h2 := (zi_rem2 t).mp c2
      exact hret B _ _ _ _ (by unfold md_addIf; rw [if_neg hc, if_pos h2]) hP hS dX1_addIf_25
    · have h2 : ¬ t.toBitVec.toNat % 2 = 0 := fun q => c2 ((zi_rem2 t).mpr q)
      refine lv_aload_n hx hb dX1_addIf_14 rfl (lv_at hl 0 rfl) ?_
      refine lv_iload_n hx hb dX1_addIf_15 rfl (lv_at hl 1 rfl) ?_
      refine lv_iload_n hx hb dX1_addIf_16 rfl (lv_at hl 2 rfl) ?_
      refine lv_iconst (v := (nI 1)) hx hb dX1_addIf_17 (by decide) ?_
      refine lv_bipush (v := (nI 32)) hx hb dX1_addIf_18 (by decide) ?_
      refine lv_iconst (v := (nI 1)) hx hb dX1_addIf_20 (by decide) ?_
      refine lv_iconst (v := (nI 1)) hx hb dX1_addIf_21 (by decide) ?_
      refine zc_Vv (As := [.int x, .int y, .int (nI 1), .int (nI 32), .int (nI 1), .int (nI 1)]) (rest := []) (b := h) (qr := 1) (ci := 1) 6 (ctX1_cm8 l dC dI h z cZ B x y 1 (by decide) 32 (by decide) 1 (by decide)) rfl rfl (lw_V q151 q153 qs1 q5 q154) (by decide +kernel) ⟨Nat.le_of_ble_eq_true rfl, Nat.le_of_ble_eq_true rfl⟩ ⟨rfl, rfl⟩ ⟨Nat.zero_le _, Nat.zero_le _⟩ hx hb hml hown hts hA hK hP hD hS [0, 1] [0] rfl rfl rfl rfl hl.1 rfl (Nat.le_of_ble_eq_true rfl) dX1_addIf_22 (fun u H locs hu hP1 hk hS => ?_)
      subst hu
      have hP : va_P (dC, dI) vwCl (MW h z cZ (cm B (ix x) (ix y) 1 1 1 8 32)) H := zj_set (i0 := 0) (it := [1]) hP hD rfl hk hP1
      have hD : va_D A (MW h z cZ (cm B (ix x) (ix y) 1 1 1 8 32)) := hD.set (p := 0) rfl
      exact hret _ _ _ _ _ (by unfold md_addIf; rw [if_neg hc, if_neg h2]) hP hS dX1_addIf_25
set_option maxHeartbeats 4000000 in
set_option maxRecDepth 100000 in
/-- OilVectorDeskModel.add -/
theorem ctX1_add (l : Launch) (dC : Nat → ClassId) (dI : Nat → Nat → Nat) (h z : Nat) (cZ : ClassId) (B : Nat → Bool) (x y : Int32) : CtV l yX1_add cX1_add 3 (rmN 4 99) dC dI [.ref h, .int x, .int y] (MW h z cZ B) (MT cZ) (fun u : Nat → Bool => u = md_addIf B (ix x) (ix y) 1) (fun u => MW h z cZ u) := by
  refine zm_v (by decide) (Nat.le_of_ble_eq_true rfl) ?_
  intro p e s m args below meth c A ls Q hx hb hml hown hts hA hK hP hD hS hl hret
  have hl : lv_has ls 3 [(0, .ref h), (1, .int x), (2, .int y)] := hl
  refine lv_aload_n hx hb dX1_add_0 rfl (lv_at hl 0 rfl) ?_
  refine lv_iload_n hx hb dX1_add_1 rfl (lv_at hl 1 rfl) ?_
  refine lv_iload_n hx hb dX1_add_2 rfl (lv_at hl 2 rfl) ?_
  refine lv_iconst (v := (nI 1)) hx hb dX1_add_3 (by decide) ?_
  refine zc_Vv (As := [.int x, .int y, .int (nI 1)]) (rest := []) (b := h) (qr := 1) (ci := 1) 3 (ctX1_addIf l dC dI h z cZ B x y (nI 1)) rfl rfl (lw_V q147 q148 q149 q5 q150) (by decide +kernel) ⟨Nat.le_of_ble_eq_true rfl, Nat.le_of_ble_eq_true rfl⟩ ⟨rfl, rfl⟩ ⟨Nat.zero_le _, Nat.zero_le _⟩ hx hb hml hown hts hA hK hP hD hS [0, 1] [0] rfl rfl rfl rfl hl.1 rfl (Nat.le_of_ble_eq_true rfl) dX1_add_4 (fun u H locs hu hP1 hk hS => ?_)
  subst hu
  have hP : va_P (dC, dI) vwCl (MW h z cZ (md_addIf B (ix x) (ix y) (nI 1).toBitVec.toNat)) H := zj_set (i0 := 0) (it := [1]) hP hD rfl hk hP1
  have hD : va_D A (MW h z cZ (md_addIf B (ix x) (ix y) (nI 1).toBitVec.toNat)) := hD.set (p := 0) rfl
  exact hret _ _ _ _ _ rfl hP hS dX1_add_7
set_option maxHeartbeats 4000000 in
set_option maxRecDepth 100000 in
/-- OilVectorDeskModel.times (III)V -/
theorem ctX1_times (l : Launch) (dC : Nat → ClassId) (dI : Nat → Nat → Nat) (h z : Nat) (cZ : ClassId) (B : Nat → Bool) (x y t : Int32) : CtV l yX1_times_2 cX1_times_2 4 (rmN 3 76) dC dI [.ref h, .int x, .int y, .int t] (MW h z cZ B) (MT cZ) (fun u : Nat → Bool => u = cm B (ix x) (ix x) (y.toBitVec.toNat % 256) 1 0 8 (8 + 8 * ix t)) (fun u => MW h z cZ u) := by
  refine zm_v (by decide) (Nat.le_of_ble_eq_true rfl) ?_
  intro p e s m args below meth c A ls Q hx hb hml hown hts hA hK hP hD hS hl hret
  have hl : lv_has ls 4 [(0, .ref h), (1, .int x), (2, .int y), (3, .int t)] := hl
  have ht4 := ix_lt t
  refine lv_aload_n hx hb dX1_times_2_0 rfl (lv_at hl 0 rfl) ?_
  refine lv_iload_n hx hb dX1_times_2_1 rfl (lv_at hl 1 rfl) ?_
  refine lv_iload_n hx hb dX1_times_2_2 rfl (lv_at hl 1 rfl) ?_
  refine lv_iload_n hx hb dX1_times_2_3 rfl (lv_at hl 2 rfl) ?_
  refine lv_sipush (v := (nI 255)) hx hb dX1_times_2_4 (by decide) ?_
  refine lv_iand hx hb dX1_times_2_7 ?_
  refine zt_i (v := (nI (y.toBitVec.toNat % 256))) (zi_and y 8 (by decide) rfl) ?_
  refine lv_bipush (v := (nI 8)) hx hb dX1_times_2_8 (by decide) ?_
  refine lv_bipush (v := (nI 8)) hx hb dX1_times_2_10 (by decide) ?_
  refine lv_iload_n hx hb dX1_times_2_12 rfl (lv_at hl 3 rfl) ?_
  refine lv_iconst (v := (nI 3)) hx hb dX1_times_2_13 (by decide) ?_
  refine lv_iand hx hb dX1_times_2_14 ?_
  refine zt_i (v := (nI (ix t))) (zi_3 t) ?_
  refine lv_imul hx hb dX1_times_2_15 ?_
  refine zt_i (v := (nI (8 * ix t))) (pk_mul _ _) ?_
  refine lv_iadd hx hb dX1_times_2_16 ?_
  refine zt_i (v := (nI (8 + 8 * ix t))) (nI_add _ _) ?_
  refine lv_iconst (v := (nI 1)) hx hb dX1_times_2_17 (by decide) ?_
  refine lv_iconst (v := (nI 0)) hx hb dX1_times_2_18 (by decide) ?_
  refine zc_Vv (As := [.int x, .int x, .int (nI (y.toBitVec.toNat % 256)), .int (nI (8 + 8 * ix t)), .int (nI 1), .int (nI 0)]) (rest := []) (b := h) (qr := 1) (ci := 1) 6 (ctX1_cm8 l dC dI h z cZ B x x (y.toBitVec.toNat % 256) (by omega) (8 + 8 * ix t) (by omega) 0 (by decide)) rfl rfl (lw_V q151 q153 qs1 q5 q154) (by decide +kernel) ⟨Nat.le_of_ble_eq_true rfl, Nat.le_of_ble_eq_true rfl⟩ ⟨rfl, rfl⟩ ⟨Nat.zero_le _, Nat.zero_le _⟩ hx hb hml hown hts hA hK hP hD hS [0, 1] [0] rfl rfl rfl rfl hl.1 rfl (Nat.le_of_ble_eq_true rfl) dX1_times_2_19 (fun u H locs hu hP1 hk hS => ?_)
  subst hu
  have hP : va_P (dC, dI) vwCl (MW h z cZ (cm B (ix x) (ix x) (y.toBitVec.toNat % 256) 1 0 8 (8 + 8 * ix t))) H := zj_set (i0 := 0) (it := [1]) hP hD rfl hk hP1
  have hD : va_D A (MW h z cZ (cm B (ix x) (ix x) (y.toBitVec.toNat % 256) 1 0 8 (8 + 8 * ix t))) := hD.set (p := 0) rfl
  exact hret _ _ _ _ _ rfl hP hS dX1_times_2_22
set_option maxHeartbeats 4000000 in
set_option maxRecDepth 100000 in
/-- OilVectorDeskModel.timesNibble -/
theorem ctX1_timesN (l : Launch) (dC : Nat → ClassId) (dI : Nat → Nat → Nat) (h z : Nat) (cZ : ClassId) (B : Nat → Bool) (x y t : Int32) : CtV l yX1_timesNibble cX1_timesNibble 4 (rmN 3 76) dC dI [.ref h, .int x, .int y, .int t] (MW h z cZ B) (MT cZ) (fun u : Nat → Bool => u = cm B (ix x) (ix x) (y.toBitVec.toNat % 16) 0 0 4 (2 * (8 + 8 * ix t))) (fun u => MW h z cZ u) := by
  refine zm_v (by decide) (Nat.le_of_ble_eq_true rfl) ?_
  intro p e s m args below meth c A ls Q hx hb hml hown hts hA hK hP hD hS hl hret
  have hl : lv_has ls 4 [(0, .ref h), (1, .int x), (2, .int y), (3, .int t)] := hl
  have ht4 := ix_lt t
  refine lv_aload_n hx hb dX1_timesNibble_0 rfl (lv_at hl 0 rfl) ?_
  refine lv_iload_n hx hb dX1_timesNibble_1 rfl (lv_at hl 1 rfl) ?_
  refine lv_iload_n hx hb dX1_timesNibble_2 rfl (lv_at hl 1 rfl) ?_
  refine lv_iload_n hx hb dX1_timesNibble_3 rfl (lv_at hl 2 rfl) ?_
  refine lv_bipush (v := (nI 15)) hx hb dX1_timesNibble_4 (by decide) ?_
  refine lv_iand hx hb dX1_timesNibble_6 ?_
  refine zt_i (v := (nI (y.toBitVec.toNat % 16))) (zi_and y 4 (by decide) rfl) ?_
  refine lv_bipush (v := (nI 8)) hx hb dX1_timesNibble_7 (by decide) ?_
  refine lv_bipush (v := (nI 8)) hx hb dX1_timesNibble_9 (by decide) ?_
  refine lv_iload_n hx hb dX1_timesNibble_11 rfl (lv_at hl 3 rfl) ?_
  refine lv_iconst (v := (nI 3)) hx hb dX1_timesNibble_12 (by decide) ?_
  refine lv_iand hx hb dX1_timesNibble_13 ?_
  refine zt_i (v := (nI (ix t))) (zi_3 t) ?_
  refine lv_imul hx hb dX1_timesNibble_14 ?_
  refine zt_i (v := (nI (8 * ix t))) (pk_mul _ _) ?_
  refine lv_iadd hx hb dX1_timesNibble_15 ?_
  refine zt_i (v := (nI (8 + 8 * ix t))) (nI_add _ _) ?_
  refine lv_iconst (v := (nI 0)) hx hb dX1_timesNibble_16 (by decide) ?_
  refine lv_iconst (v := (nI 0)) hx hb dX1_timesNibble_17 (by decide) ?_
  refine zc_Vv (As := [.int x, .int x, .int (nI (y.toBitVec.toNat % 16)), .int (nI (8 + 8 * ix t)), .int (nI 0), .int (nI 0)]) (rest := []) (b := h) (qr := 1) (ci := 1) 6 (ctX1_cm4 l dC dI h z cZ B x x (y.toBitVec.toNat % 16) (by omega) (Nat.mod_lt _ (by decide)) (8 + 8 * ix t) (by omega) 0 (by decide)) rfl rfl (lw_V q151 q153 qs1 q5 q154) (by decide +kernel) ⟨Nat.le_of_ble_eq_true rfl, Nat.le_of_ble_eq_true rfl⟩ ⟨rfl, rfl⟩ ⟨Nat.zero_le _, Nat.zero_le _⟩ hx hb hml hown hts hA hK hP hD hS [0, 1] [0] rfl rfl rfl rfl hl.1 rfl (Nat.le_of_ble_eq_true rfl) dX1_timesNibble_18 (fun u H locs hu hP1 hk hS => ?_)
  subst hu
  have hP : va_P (dC, dI) vwCl (MW h z cZ (cm B (ix x) (ix x) (y.toBitVec.toNat % 16) 0 0 4 (2 * (8 + 8 * ix t)))) H := zj_set (i0 := 0) (it := [1]) hP hD rfl hk hP1
  have hD : va_D A (MW h z cZ (cm B (ix x) (ix x) (y.toBitVec.toNat % 16) 0 0 4 (2 * (8 + 8 * ix t)))) := hD.set (p := 0) rfl
  exact hret _ _ _ _ _ rfl hP hS dX1_timesNibble_21
end
section
set_option maxHeartbeats 4000000 in
set_option maxRecDepth 100000 in
/-- OilVectorDeskModel.more -/
theorem ctX1_more (l : Launch) (dC : Nat → ClassId) (dI : Nat → Nat → Nat) (h z : Nat) (cZ : ClassId) (B : Nat → Bool) (x y v t : Int32) : CtV l yX1_more cX1_more 5 (rmN 3 76) dC dI [.ref h, .int x, .int y, .int v, .int t] (MW h z cZ B) (MT cZ) (fun u : Nat → Bool => u = md_more B (ix x) (ix y) (v.toBitVec.toNat % 256) (8 + 8 * ix t)) (fun u => MW h z cZ u) := by
  refine zm_v (by decide) (Nat.le_of_ble_eq_true rfl) ?_
  intro p e s m args below meth c A ls Q hx hb hml hown hts hA hK hP hD hS hl hret
  have hl : lv_has ls 5 [(0, .ref h), (1, .int x), (2, .int y), (3, .int v), (4, .int t)] := hl
  have ht4 := ix_lt t
  refine lv_iload_n hx hb dX1_more_0 rfl (lv_at hl 1 rfl) ?_
  refine lv_iload_n hx hb dX1_more_1 rfl (lv_at hl 2 rfl) ?_
  refine lv_isub hx hb dX1_more_2 ?_
  refine lv_iconst (v := (nI 3)) hx hb dX1_more_3 (by decide) ?_
  refine lv_iand hx hb dX1_more_4 ?_
  refine zt_i (v := (nI (ix (x - y)))) (zi_3 (x - y)) ?_
  refine lv_if_eq (tgt := 31) hx hb dX1_more_5 (by decide) (fun cc => ?_) (fun cc => ?_)
  · have hc : ix x = ix y := (ix_sub x y).mp ((zi_eq0 (by have := ix_lt (x - y); omega)).mp cc)
    exact hret B _ _ _ _ (by unfold md_more; rw [if_pos hc]) hP hS dX1_more_31
  · have hc : ¬ ix x = ix y := fun q => cc ((zi_eq0 (by have := ix_lt (x - y); omega)).mpr ((ix_sub x y).mpr q))
    refine lv_aload_n hx hb dX1_more_8 rfl (lv_at hl 0 rfl) ?_
    refine lv_iload_n hx hb dX1_more_9 rfl (lv_at hl 1 rfl) ?_
    refine lv_iload_n hx hb dX1_more_10 rfl (lv_at hl 2 rfl) ?_
    refine lv_iload_n hx hb dX1_more_11 rfl (lv_at hl 3 rfl) ?_
    refine lv_sipush (v := (nI 255)) hx hb dX1_more_12 (by decide) ?_
    refine lv_iand hx hb dX1_more_15 ?_
    refine zt_i (v := (nI (v.toBitVec.toNat % 256))) (zi_and v 8 (by decide) rfl) ?_
    refine lv_bipush (v := (nI 8)) hx hb dX1_more_16 (by decide) ?_
    refine lv_bipush (v := (nI 8)) hx hb dX1_more_18 (by decide) ?_
    refine lv_iload hx hb dX1_more_20 (lv_at hl 4 rfl) ?_
    refine lv_iconst (v := (nI 3)) hx hb dX1_more_22 (by decide) ?_
    refine lv_iand hx hb dX1_more_23 ?_
    refine zt_i (v := (nI (ix t))) (zi_3 t) ?_
    refine lv_imul hx hb dX1_more_24 ?_
    refine zt_i (v := (nI (8 * ix t))) (pk_mul _ _) ?_
    refine lv_iadd hx hb dX1_more_25 ?_
    refine zt_i (v := (nI (8 + 8 * ix t))) (nI_add _ _) ?_
    refine lv_iconst (v := (nI 1)) hx hb dX1_more_26 (by decide) ?_
    refine lv_iconst (v := (nI 1)) hx hb dX1_more_27 (by decide) ?_
    refine zc_Vv (As := [.int x, .int y, .int (nI (v.toBitVec.toNat % 256)), .int (nI (8 + 8 * ix t)), .int (nI 1), .int (nI 1)]) (rest := []) (b := h) (qr := 1) (ci := 1) 6 (ctX1_cm8 l dC dI h z cZ B x y (v.toBitVec.toNat % 256) (by omega) (8 + 8 * ix t) (by omega) 1 (by decide)) rfl rfl (lw_V q151 q153 qs1 q5 q154) (by decide +kernel) ⟨Nat.le_of_ble_eq_true rfl, Nat.le_of_ble_eq_true rfl⟩ ⟨rfl, rfl⟩ ⟨Nat.zero_le _, Nat.zero_le _⟩ hx hb hml hown hts hA hK hP hD hS [0, 1] [0] rfl rfl rfl rfl hl.1 rfl (Nat.le_of_ble_eq_true rfl) dX1_more_28 (fun u H locs hu hP1 hk hS => ?_)
    subst hu
    have hP : va_P (dC, dI) vwCl (MW h z cZ (cm B (ix x) (ix y) (v.toBitVec.toNat % 256) 1 1 8 (8 + 8 * ix t))) H := zj_set (i0 := 0) (it := [1]) hP hD rfl hk hP1
    have hD : va_D A (MW h z cZ (cm B (ix x) (ix y) (v.toBitVec.toNat % 256) 1 1 8 (8 + 8 * ix t))) := hD.set (p := 0) rfl
    exact hret _ _ _ _ _ (by unfold md_more; rw [if_neg hc]) hP hS dX1_more_31
set_option maxHeartbeats 4000000 in
set_option maxRecDepth 100000 in
/-- OilVectorDeskModel.moreNibble -/
theorem ctX1_moreN (l : Launch) (dC : Nat → ClassId) (dI : Nat → Nat → Nat) (h z : Nat) (cZ : ClassId) (B : Nat → Bool) (x y v t : Int32) : CtV l yX1_moreNibble cX1_moreNibble 5 (rmN 3 76) dC dI [.ref h, .int x, .int y, .int v, .int t] (MW h z cZ B) (MT cZ) (fun u : Nat → Bool => u = md_moreN B (ix x) (ix y) (v.toBitVec.toNat % 16) (8 + 8 * ix t)) (fun u => MW h z cZ u) := by
  refine zm_v (by decide) (Nat.le_of_ble_eq_true rfl) ?_
  intro p e s m args below meth c A ls Q hx hb hml hown hts hA hK hP hD hS hl hret
  have hl : lv_has ls 5 [(0, .ref h), (1, .int x), (2, .int y), (3, .int v), (4, .int t)] := hl
  have ht4 := ix_lt t
  refine lv_iload_n hx hb dX1_moreNibble_0 rfl (lv_at hl 1 rfl) ?_
  refine lv_iload_n hx hb dX1_moreNibble_1 rfl (lv_at hl 2 rfl) ?_
  refine lv_isub hx hb dX1_moreNibble_2 ?_
  refine lv_iconst (v := (nI 3)) hx hb dX1_moreNibble_3 (by decide) ?_
  refine lv_iand hx hb dX1_moreNibble_4 ?_
  refine zt_i (v := (nI (ix (x - y)))) (zi_3 (x - y)) ?_
  refine lv_if_eq (tgt := 30) hx hb dX1_moreNibble_5 (by decide) (fun cc => ?_) (fun cc => ?_)
  · have hc : ix x = ix y := (ix_sub x y).mp ((zi_eq0 (by have := ix_lt (x - y); omega)).mp cc)
    exact hret B _ _ _ _ (by unfold md_moreN; rw [if_pos hc]) hP hS dX1_moreNibble_30
  · have hc : ¬ ix x = ix y := fun q => cc ((zi_eq0 (by have := ix_lt (x - y); omega)).mpr ((ix_sub x y).mpr q))
    refine lv_aload_n hx hb dX1_moreNibble_8 rfl (lv_at hl 0 rfl) ?_
    refine lv_iload_n hx hb dX1_moreNibble_9 rfl (lv_at hl 1 rfl) ?_
    refine lv_iload_n hx hb dX1_moreNibble_10 rfl (lv_at hl 2 rfl) ?_
    refine lv_iload_n hx hb dX1_moreNibble_11 rfl (lv_at hl 3 rfl) ?_
    refine lv_bipush (v := (nI 15)) hx hb dX1_moreNibble_12 (by decide) ?_
    refine lv_iand hx hb dX1_moreNibble_14 ?_
    refine zt_i (v := (nI (v.toBitVec.toNat % 16))) (zi_and v 4 (by decide) rfl) ?_
    refine lv_bipush (v := (nI 8)) hx hb dX1_moreNibble_15 (by decide) ?_
    refine lv_bipush (v := (nI 8)) hx hb dX1_moreNibble_17 (by decide) ?_
    refine lv_iload hx hb dX1_moreNibble_19 (lv_at hl 4 rfl) ?_
    refine lv_iconst (v := (nI 3)) hx hb dX1_moreNibble_21 (by decide) ?_
    refine lv_iand hx hb dX1_moreNibble_22 ?_
    refine zt_i (v := (nI (ix t))) (zi_3 t) ?_
    refine lv_imul hx hb dX1_moreNibble_23 ?_
    refine zt_i (v := (nI (8 * ix t))) (pk_mul _ _) ?_
    refine lv_iadd hx hb dX1_moreNibble_24 ?_
    refine zt_i (v := (nI (8 + 8 * ix t))) (nI_add _ _) ?_
    refine lv_iconst (v := (nI 0)) hx hb dX1_moreNibble_25 (by decide) ?_
    refine lv_iconst (v := (nI 1)) hx hb dX1_moreNibble_26 (by decide) ?_
    refine zc_Vv (As := [.int x, .int y, .int (nI (v.toBitVec.toNat % 16)), .int (nI (8 + 8 * ix t)), .int (nI 0), .int (nI 1)]) (rest := []) (b := h) (qr := 1) (ci := 1) 6 (ctX1_cm4 l dC dI h z cZ B x y (v.toBitVec.toNat % 16) (by omega) (Nat.mod_lt _ (by decide)) (8 + 8 * ix t) (by omega) 1 (by decide)) rfl rfl (lw_V q151 q153 qs1 q5 q154) (by decide +kernel) ⟨Nat.le_of_ble_eq_true rfl, Nat.le_of_ble_eq_true rfl⟩ ⟨rfl, rfl⟩ ⟨Nat.zero_le _, Nat.zero_le _⟩ hx hb hml hown hts hA hK hP hD hS [0, 1] [0] rfl rfl rfl rfl hl.1 rfl (Nat.le_of_ble_eq_true rfl) dX1_moreNibble_27 (fun u H locs hu hP1 hk hS => ?_)
    subst hu
    have hP : va_P (dC, dI) vwCl (MW h z cZ (cm B (ix x) (ix y) (v.toBitVec.toNat % 16) 0 1 4 (2 * (8 + 8 * ix t)))) H := zj_set (i0 := 0) (it := [1]) hP hD rfl hk hP1
    have hD : va_D A (MW h z cZ (cm B (ix x) (ix y) (v.toBitVec.toNat % 16) 0 1 4 (2 * (8 + 8 * ix t)))) := hD.set (p := 0) rfl
    exact hret _ _ _ _ _ (by unfold md_moreN; rw [if_neg hc]) hP hS dX1_moreNibble_30
set_option maxHeartbeats 4000000 in
set_option maxRecDepth 100000 in
/-- OilVectorDeskModel.nibble -/
theorem ctX1_nibble (l : Launch) (dC : Nat → ClassId) (dI : Nat → Nat → Nat) (h z : Nat) (cZ : ClassId) (B : Nat → Bool) (x y : Int32) : CtI l yX1_nibble cX1_nibble 3 (rmN 1 24) dC dI [.ref h, .int x, .int y] (MW h z cZ B) (MT cZ) (fun v => v = nI (rd B (ix x * 256 + (y.toBitVec.toNat % 64) * 4) 4)) := by
  refine zm_i (by decide) (Nat.le_of_ble_eq_true rfl) ?_
  intro p e s m args below meth c A ls Q hx hb hml hown hts hA hK hP hD hS hl hret
  have hl : lv_has ls 3 [(0, .ref h), (1, .int x), (2, .int y)] := hl
  have hx4 := ix_lt x
  refine lv_aload_n hx hb dX1_nibble_0 rfl (lv_at hl 0 rfl) ?_
  refine lv_iload_n hx hb dX1_nibble_1 rfl (lv_at hl 1 rfl) ?_
  refine lv_iconst (v := (nI 3)) hx hb dX1_nibble_2 (by decide) ?_
  refine lv_iand hx hb dX1_nibble_3 ?_
  refine zt_i (v := (nI (ix x))) (zi_3 x) ?_
  refine lv_sipush (v := (nI 256)) hx hb dX1_nibble_4 (by decide) ?_
  refine lv_imul hx hb dX1_nibble_7 ?_
  refine zt_i (v := (nI (ix x * 256))) (pk_mul _ _) ?_
  refine lv_iload_n hx hb dX1_nibble_8 rfl (lv_at hl 2 rfl) ?_
  refine lv_bipush (v := (nI 63)) hx hb dX1_nibble_9 (by decide) ?_
  refine lv_iand hx hb dX1_nibble_11 ?_
  refine zt_i (v := (nI (y.toBitVec.toNat % 64))) (zi_and y 6 (by decide) rfl) ?_
  refine lv_iconst (v := (nI 4)) hx hb dX1_nibble_12 (by decide) ?_
  refine lv_imul hx hb dX1_nibble_13 ?_
  refine zt_i (v := (nI ((y.toBitVec.toNat % 64) * 4))) (pk_mul _ _) ?_
  refine lv_iadd hx hb dX1_nibble_14 ?_
  refine zt_i (v := (nI (ix x * 256 + (y.toBitVec.toNat % 64) * 4))) (nI_add _ _) ?_
  refine lv_iconst (v := (nI 4)) hx hb dX1_nibble_15 (by decide) ?_
  refine zc_Vi (As := [.int (nI (ix x * 256 + (y.toBitVec.toNat % 64) * 4)), .int (nI 4)]) (rest := []) (b := h) (qr := 1) (ci := 1) 2 (ctX1_read l dC dI h z cZ B (ix x * 256 + (y.toBitVec.toNat % 64) * 4) 4 (by omega) (by decide)) rfl rfl (lw_V q155 q157 qs2 q5 q158) (by decide +kernel) ⟨Nat.le_of_ble_eq_true rfl, Nat.le_of_ble_eq_true rfl⟩ ⟨rfl, rfl⟩ ⟨Nat.zero_le _, Nat.zero_le _⟩ hx hb hml hown hts hA hK hP hD hS [0, 1] [0] rfl rfl rfl rfl hl.1 rfl (Nat.le_of_ble_eq_true rfl) dX1_nibble_16 (fun v H locs hv hP hS => ?_)
  subst hv
  exact hret _ _ _ _ _ rfl hP hS dX1_nibble_19
set_option maxHeartbeats 4000000 in
set_option maxRecDepth 100000 in
/-- OilVectorDeskModel.layNibble -/
theorem ctX1_layN (l : Launch) (dC : Nat → ClassId) (dI : Nat → Nat → Nat) (h z : Nat) (cZ : ClassId) (B : Nat → Bool) (x y t : Int32) : CtV l yX1_layNibble cX1_layNibble 4 (rmN 1 24) dC dI [.ref h, .int x, .int y, .int t] (MW h z cZ B) (MT cZ) (fun u : Nat → Bool => u = wr B (ix x * 256 + (y.toBitVec.toNat % 64) * 4) 4 (t.toBitVec.toNat % 16)) (fun u => MW h z cZ u) := by
  refine zm_v (by decide) (Nat.le_of_ble_eq_true rfl) ?_
  intro p e s m args below meth c A ls Q hx hb hml hown hts hA hK hP hD hS hl hret
  have hl : lv_has ls 4 [(0, .ref h), (1, .int x), (2, .int y), (3, .int t)] := hl
  have hx4 := ix_lt x
  refine lv_aload_n hx hb dX1_layNibble_0 rfl (lv_at hl 0 rfl) ?_
  refine lv_iload_n hx hb dX1_layNibble_1 rfl (lv_at hl 1 rfl) ?_
  refine lv_iconst (v := (nI 3)) hx hb dX1_layNibble_2 (by decide) ?_
  refine lv_iand hx hb dX1_layNibble_3 ?_
  refine zt_i (v := (nI (ix x))) (zi_3 x) ?_
  refine lv_sipush (v := (nI 256)) hx hb dX1_layNibble_4 (by decide) ?_
  refine lv_imul hx hb dX1_layNibble_7 ?_
  refine zt_i (v := (nI (ix x * 256))) (pk_mul _ _) ?_
  refine lv_iload_n hx hb dX1_layNibble_8 rfl (lv_at hl 2 rfl) ?_
  refine lv_bipush (v := (nI 63)) hx hb dX1_layNibble_9 (by decide) ?_
  refine lv_iand hx hb dX1_layNibble_11 ?_
  refine zt_i (v := (nI (y.toBitVec.toNat % 64))) (zi_and y 6 (by decide) rfl) ?_
  refine lv_iconst (v := (nI 4)) hx hb dX1_layNibble_12 (by decide) ?_
  refine lv_imul hx hb dX1_layNibble_13 ?_
  refine zt_i (v := (nI ((y.toBitVec.toNat % 64) * 4))) (pk_mul _ _) ?_
  refine lv_iadd hx hb dX1_layNibble_14 ?_
  refine zt_i (v := (nI (ix x * 256 + (y.toBitVec.toNat % 64) * 4))) (nI_add _ _) ?_
  refine lv_iconst (v := (nI 4)) hx hb dX1_layNibble_15 (by decide) ?_
  refine lv_iload_n hx hb dX1_layNibble_16 rfl (lv_at hl 3 rfl) ?_
  refine lv_bipush (v := (nI 15)) hx hb dX1_layNibble_17 (by decide) ?_
  refine lv_iand hx hb dX1_layNibble_19 ?_
  refine zt_i (v := (nI (t.toBitVec.toNat % 16))) (zi_and t 4 (by decide) rfl) ?_
  refine zc_Vv (As := [.int (nI (ix x * 256 + (y.toBitVec.toNat % 64) * 4)), .int (nI 4), .int (nI (t.toBitVec.toNat % 16))]) (rest := []) (b := h) (qr := 1) (ci := 1) 3 (ctX1_write l dC dI h z cZ B (ix x * 256 + (y.toBitVec.toNat % 64) * 4) 4 (t.toBitVec.toNat % 16) (by omega) (by omega)) rfl rfl (lw_V q139 q141 qs0 q5 q142) (by decide +kernel) ⟨Nat.le_of_ble_eq_true rfl, Nat.le_of_ble_eq_true rfl⟩ ⟨rfl, rfl⟩ ⟨Nat.zero_le _, Nat.zero_le _⟩ hx hb hml hown hts hA hK hP hD hS [0, 1] [0] rfl rfl rfl rfl hl.1 rfl (Nat.le_of_ble_eq_true rfl) dX1_layNibble_20 (fun u H locs hu hP1 hk hS => ?_)
  subst hu
  have hP : va_P (dC, dI) vwCl (MW h z cZ (wr B (ix x * 256 + (y.toBitVec.toNat % 64) * 4) 4 (t.toBitVec.toNat % 16))) H := zj_set (i0 := 0) (it := [1]) hP hD rfl hk hP1
  have hD : va_D A (MW h z cZ (wr B (ix x * 256 + (y.toBitVec.toNat % 64) * 4) 4 (t.toBitVec.toNat % 16))) := hD.set (p := 0) rfl
  exact hret _ _ _ _ _ rfl hP hS dX1_layNibble_23
set_option maxHeartbeats 4000000 in
set_option maxRecDepth 100000 in
/-- OilVectorDeskModel.get -/
theorem ctX1_get (l : Launch) (dC : Nat → ClassId) (dI : Nat → Nat → Nat) (h z : Nat) (cZ : ClassId) (B : Nat → Bool) (x y : Int32) : CtI l yX1_get cX1_get 3 (rmN 1 24) dC dI [.ref h, .int x, .int y] (MW h z cZ B) (MT cZ) (fun v => v = nI (rd B (ix x * 256 + (y.toBitVec.toNat % 32) * 8) 8)) := by
  refine zm_i (by decide) (Nat.le_of_ble_eq_true rfl) ?_
  intro p e s m args below meth c A ls Q hx hb hml hown hts hA hK hP hD hS hl hret
  have hl : lv_has ls 3 [(0, .ref h), (1, .int x), (2, .int y)] := hl
  have hx4 := ix_lt x
  refine lv_aload_n hx hb dX1_get_0 rfl (lv_at hl 0 rfl) ?_
  refine lv_iload_n hx hb dX1_get_1 rfl (lv_at hl 1 rfl) ?_
  refine lv_iconst (v := (nI 3)) hx hb dX1_get_2 (by decide) ?_
  refine lv_iand hx hb dX1_get_3 ?_
  refine zt_i (v := (nI (ix x))) (zi_3 x) ?_
  refine lv_sipush (v := (nI 256)) hx hb dX1_get_4 (by decide) ?_
  refine lv_imul hx hb dX1_get_7 ?_
  refine zt_i (v := (nI (ix x * 256))) (pk_mul _ _) ?_
  refine lv_iload_n hx hb dX1_get_8 rfl (lv_at hl 2 rfl) ?_
  refine lv_bipush (v := (nI 31)) hx hb dX1_get_9 (by decide) ?_
  refine lv_iand hx hb dX1_get_11 ?_
  refine zt_i (v := (nI (y.toBitVec.toNat % 32))) (zi_and y 5 (by decide) rfl) ?_
  refine lv_bipush (v := (nI 8)) hx hb dX1_get_12 (by decide) ?_
  refine lv_imul hx hb dX1_get_14 ?_
  refine zt_i (v := (nI ((y.toBitVec.toNat % 32) * 8))) (pk_mul _ _) ?_
  refine lv_iadd hx hb dX1_get_15 ?_
  refine zt_i (v := (nI (ix x * 256 + (y.toBitVec.toNat % 32) * 8))) (nI_add _ _) ?_
  refine lv_bipush (v := (nI 8)) hx hb dX1_get_16 (by decide) ?_
  refine zc_Vi (As := [.int (nI (ix x * 256 + (y.toBitVec.toNat % 32) * 8)), .int (nI 8)]) (rest := []) (b := h) (qr := 1) (ci := 1) 2 (ctX1_read l dC dI h z cZ B (ix x * 256 + (y.toBitVec.toNat % 32) * 8) 8 (by omega) (by decide)) rfl rfl (lw_V q155 q157 qs2 q5 q158) (by decide +kernel) ⟨Nat.le_of_ble_eq_true rfl, Nat.le_of_ble_eq_true rfl⟩ ⟨rfl, rfl⟩ ⟨Nat.zero_le _, Nat.zero_le _⟩ hx hb hml hown hts hA hK hP hD hS [0, 1] [0] rfl rfl rfl rfl hl.1 rfl (Nat.le_of_ble_eq_true rfl) dX1_get_18 (fun v H locs hv hP hS => ?_)
  subst hv
  exact hret _ _ _ _ _ rfl hP hS dX1_get_21
end
section
/-! ===== the relation of the two states, and that every call keeps it ===== -/
def Rel (M : Nat → Nat → Nat) (B : Nat → Bool) : Prop := (∀ k j, M k j < 256) ∧ ∀ k, k < 4 → ∀ j, j < 32 → ∀ t, t < 8 → B (k * 256 + 8 * j + t) = (M k j).testBit t
theorem rd_bit (B : Nat → Bool) : ∀ (w p j : Nat), (rd B p w).testBit j = (decide (j < w) && B (p + j))
  | 0, p, j => by simp [rd]
  | w + 1, p, 0 => by
    unfold rd
    rw [Nat.testBit_zero]
    cases hb : B p
    · simp [hb]
    · simp [hb]
      try omega
  | w + 1, p, j + 1 => by
    unfold rd
    rw [Nat.testBit_succ, show (2 * rd B (p + 1) w + (if B p = true then 1 else 0)) / 2 = rd B (p + 1) w by split <;> omega, rd_bit B w (p + 1) j, show p + 1 + j = p + (j + 1) by omega]
    congr 1
    simp
theorem rd_eq {B : Nat → Bool} {p w X : Nat} (hX : X < 2 ^ w) (h : ∀ j, j < w → B (p + j) = X.testBit j) : rd B p w = X := by
  apply Nat.eq_of_testBit_eq
  intro j
  rw [rd_bit]
  by_cases hj : j < w
  · rw [decide_eq_true hj, Bool.true_and]
    exact h j hj
  · rw [decide_eq_false hj, Bool.false_and, Nat.testBit_lt_two_pow (Nat.lt_of_lt_of_le hX (Nat.pow_le_pow_right (by decide) (by omega)))]
theorem rd_congr {B B' : Nat → Bool} : ∀ {w p : Nat}, (∀ j, j < w → B (p + j) = B' (p + j)) → rd B p w = rd B' p w
  | 0, p, _ => rfl
  | w + 1, p, h => by
    unfold rd
    have h0 := h 0 (by omega)
    rw [Nat.add_zero] at h0
    rw [rd_congr (B := B) (B' := B') (w := w) (p := p + 1) (fun j hj => by have := h (j + 1) (by omega); rw [show p + 1 + j = p + (j + 1) by omega]; exact this), h0]
theorem tb_nib {a b t : Nat} (ha : a < 16) : (a + b * 16).testBit t = if t < 4 then a.testBit t else b.testBit (t - 4) := by
  rw [show a + b * 16 = 2 ^ 4 * b + a by omega]
  exact Nat.testBit_two_pow_mul_add b (i := 4) ha t
theorem tb_lo {x t : Nat} (ht : t < 4) : (x % 16).testBit t = x.testBit t := by
  rw [show (16 : Nat) = 2 ^ 4 from rfl, Nat.testBit_mod_two_pow, decide_eq_true ht, Bool.true_and]
theorem tb_hi {x t : Nat} : (x / 16).testBit t = x.testBit (t + 4) := by
  rw [show (16 : Nat) = 2 ^ 4 from rfl, Nat.testBit_div_two_pow]
theorem nib_lt {f : Nat → Nat} (hf : ∀ j, f j < 256) (n : Nat) : nib f n < 16 := by
  have h := hf (n / 2)
  unfold nib
  by_cases h2 : n % 2 = 1
  · rw [if_pos h2]; omega
  · rw [if_neg h2]; omega
theorem Rel.rd8 {M : Nat → Nat → Nat} {B : Nat → Bool} (h : Rel M B) {k j : Nat} (hk : k < 4) (hj : j < 32) : rd B (k * 256 + 8 * j) 8 = M k j := by
  apply rd_eq (h.1 k j)
  intro t ht
  exact h.2 k hk j hj t ht
theorem Rel.rd4 {M : Nat → Nat → Nat} {B : Nat → Bool} (h : Rel M B) {k n : Nat} (hk : k < 4) (hn : n < 64) : rd B (k * 256 + 4 * n) 4 = nib (M k) n := by
  apply rd_eq (nib_lt (h.1 k) n)
  intro t ht
  have h1 := h.2 k hk (n / 2) (by omega) (4 * (n % 2) + t) (by omega)
  rw [show k * 256 + 8 * (n / 2) + (4 * (n % 2) + t) = k * 256 + 4 * n + t by omega] at h1
  rw [h1]
  unfold nib
  by_cases h2 : n % 2 = 1
  · rw [if_pos h2, tb_hi, h2, show 4 * 1 + t = t + 4 by omega]
  · rw [if_neg h2, tb_lo ht, show n % 2 = 0 by omega, show 4 * 0 + t = t by omega]
theorem Rel.row {M : Nat → Nat → Nat} {B B' : Nat → Bool} (h : Rel M B) {i : Nat} {u : Nat → Nat} (hu : ∀ j, u j < 256) (ho : ∀ k, k < 4 → k ≠ i → ∀ j, j < 32 → ∀ t, t < 8 → B' (k * 256 + 8 * j + t) = B (k * 256 + 8 * j + t)) (hi : ∀ j, j < 32 → ∀ t, t < 8 → B' (i * 256 + 8 * j + t) = (u j).testBit t) : Rel (va_up M i u) B' := by
  refine ⟨fun k j => ?_, fun k hk j hj t ht => ?_⟩
  · by_cases e : k = i
    · rw [e, up_s]; exact hu j
    · rw [up_n M u e]; exact h.1 k j
  · by_cases e : k = i
    · rw [e, up_s]; exact hi j hj t ht
    · rw [up_n M u e, ho k hk e j hj t ht]; exact h.2 k hk j hj t ht
set_option maxRecDepth 100000 in
theorem cm8_at (B : Nat → Bool) (i j k t mo : Nat) : ∀ N, 8 * N ≤ 256 → ∀ n, cm B i j k t mo 8 N n = if i * 256 ≤ n ∧ n < i * 256 + 8 * N then ((if mo = 1 then rd B (i * 256 + 8 * ((n - i * 256) / 8)) 8 else 0) ^^^ tm (rd B (j * 256 + 8 * ((n - i * 256) / 8)) 8) k t).testBit ((n - i * 256) % 8) else B n
  | 0, _, n => by rw [if_neg (by omega)]; rfl
  | N + 1, hN, n => by
    have ih := cm8_at B i j k t mo N (by omega)
    have h1 : rd (cm B i j k t mo 8 N) (i * 256 + 8 * N) 8 = rd B (i * 256 + 8 * N) 8 := rd_congr (fun a ha => by rw [ih, if_neg (by omega)])
    have h2 : rd (cm B i j k t mo 8 N) (j * 256 + 8 * N) 8 = rd B (j * 256 + 8 * N) 8 := rd_congr (fun a ha => by rw [ih, if_neg (by omega)])
    unfold cm wr
    rw [h1, h2]
    clear h1 h2
    by_cases h3 : i * 256 + 8 * N ≤ n ∧ n < i * 256 + 8 * N + 8
    · have hc : i * 256 ≤ n ∧ n < i * 256 + 8 * (N + 1) := by omega
      refine (if_pos h3).trans (Eq.trans ?_ (if_pos hc).symm)
      rw [show (n - i * 256) / 8 = N by omega, show (n - i * 256) % 8 = n - (i * 256 + 8 * N) by omega]
    · refine (if_neg h3).trans ((ih n).trans ?_)
      by_cases h4 : i * 256 ≤ n ∧ n < i * 256 + 8 * N
      · have hc : i * 256 ≤ n ∧ n < i * 256 + 8 * (N + 1) := by omega
        exact (if_pos h4).trans (if_pos hc).symm
      · have hc : ¬ (i * 256 ≤ n ∧ n < i * 256 + 8 * (N + 1)) := by omega
        exact (if_neg h4).trans (if_neg hc).symm
set_option maxRecDepth 100000 in
theorem cm4_at (B : Nat → Bool) (i j k t mo : Nat) : ∀ N, 4 * N ≤ 256 → ∀ n, cm B i j k t mo 4 N n = if i * 256 ≤ n ∧ n < i * 256 + 4 * N then ((if mo = 1 then rd B (i * 256 + 4 * ((n - i * 256) / 4)) 4 else 0) ^^^ tm (rd B (j * 256 + 4 * ((n - i * 256) / 4)) 4) k t).testBit ((n - i * 256) % 4) else B n
  | 0, _, n => by rw [if_neg (by omega)]; rfl
  | N + 1, hN, n => by
    have ih := cm4_at B i j k t mo N (by omega)
    have h1 : rd (cm B i j k t mo 4 N) (i * 256 + 4 * N) 4 = rd B (i * 256 + 4 * N) 4 := rd_congr (fun a ha => by rw [ih, if_neg (by omega)])
    have h2 : rd (cm B i j k t mo 4 N) (j * 256 + 4 * N) 4 = rd B (j * 256 + 4 * N) 4 := rd_congr (fun a ha => by rw [ih, if_neg (by omega)])
    unfold cm wr
    rw [h1, h2]
    clear h1 h2
    by_cases h3 : i * 256 + 4 * N ≤ n ∧ n < i * 256 + 4 * N + 4
    · have hc : i * 256 ≤ n ∧ n < i * 256 + 4 * (N + 1) := by omega
      refine (if_pos h3).trans (Eq.trans ?_ (if_pos hc).symm)
      rw [show (n - i * 256) / 4 = N by omega, show (n - i * 256) % 4 = n - (i * 256 + 4 * N) by omega]
    · refine (if_neg h3).trans ((ih n).trans ?_)
      by_cases h4 : i * 256 ≤ n ∧ n < i * 256 + 4 * N
      · have hc : i * 256 ≤ n ∧ n < i * 256 + 4 * (N + 1) := by omega
        exact (if_pos h4).trans (if_pos hc).symm
      · have hc : ¬ (i * 256 ≤ n ∧ n < i * 256 + 4 * (N + 1)) := by omega
        exact (if_neg h4).trans (if_neg hc).symm
theorem cm8_rel {M : Nat → Nat → Nat} {B : Nat → Bool} (h : Rel M B) {i j k mo N : Nat} (hi : i < 4) (hj : j < 4) (hN : N ≤ 32) {u : Nat → Nat} (hu : ∀ e, u e = if e < N then (if mo = 1 then M i e else 0) ^^^ g8 k (M j e) else M i e) : Rel (va_up M i u) (cm B i j k 1 mo 8 N) := by
  have hU : ∀ e, u e < 256 := by
    intro e
    rw [hu]
    by_cases h1 : e < N
    · rw [if_pos h1]
      refine Nat.xor_lt_two_pow (n := 8) ?_ (g8_lt (h.1 j e))
      by_cases hm : mo = 1
      · rw [if_pos hm]; exact h.1 i e
      · rw [if_neg hm]; decide
    · rw [if_neg h1]; exact h.1 i e
  refine h.row hU (fun a ha hai e he t ht => ?_) (fun e he t ht => ?_)
  · rw [cm8_at B i j k 1 mo N (by omega), if_neg (by omega)]
  · rw [cm8_at B i j k 1 mo N (by omega), hu e]
    by_cases h1 : e < N
    · rw [if_pos (by omega), if_pos h1, show (i * 256 + 8 * e + t - i * 256) / 8 = e by omega, show (i * 256 + 8 * e + t - i * 256) % 8 = t by omega, h.rd8 hi he, h.rd8 hj he, tm_1]
    · rw [if_neg (by omega), if_neg h1]
      exact h.2 i hi e he t ht
theorem cm4_rel {M : Nat → Nat → Nat} {B : Nat → Bool} (h : Rel M B) {i j k mo N : Nat} (hi : i < 4) (hj : j < 4) (hk : k < 16) (hN : N ≤ 32) {u : Nat → Nat} (hu : ∀ e, u e = if e < N then (if mo = 1 then M i e else 0) ^^^ n4 k (M j e) else M i e) : Rel (va_up M i u) (cm B i j k 0 mo 4 (2 * N)) := by
  have hU : ∀ e, u e < 256 := by
    intro e
    rw [hu]
    by_cases h1 : e < N
    · rw [if_pos h1]
      refine Nat.xor_lt_two_pow (n := 8) ?_ (n4_lt hk (h.1 j e))
      by_cases hm : mo = 1
      · rw [if_pos hm]; exact h.1 i e
      · rw [if_neg hm]; decide
    · rw [if_neg h1]; exact h.1 i e
  refine h.row hU (fun a ha hai e he t ht => ?_) (fun e he t ht => ?_)
  · rw [cm4_at B i j k 0 mo (2 * N) (by omega), if_neg (by omega)]
  · rw [cm4_at B i j k 0 mo (2 * N) (by omega), hu e]
    by_cases h1 : e < N
    · rw [if_pos (by omega), if_pos h1, show (i * 256 + 8 * e + t - i * 256) / 4 = 2 * e + t / 4 by omega, show (i * 256 + 8 * e + t - i * 256) % 4 = t % 4 by omega, h.rd4 hi (by omega), h.rd4 hj (by omega), tm_0]
      have hg := g4_lt k hk (M j e % 16) (by omega)
      rw [Nat.testBit_xor, Nat.testBit_xor, show n4 k (M j e) = g4 k (M j e % 16) + g4 k (M j e / 16) * 16 from rfl, tb_nib hg]
      by_cases h4 : t < 4
      · rw [if_pos h4, show 2 * e + t / 4 = 2 * e by omega, show t % 4 = t by omega]
        have e1 : ∀ f : Nat → Nat, nib f (2 * e) = f e % 16 := fun f => by
          unfold nib
          rw [if_neg (by omega), show 2 * e / 2 = e by omega]
        rw [e1, e1]
        congr 1
        by_cases hm : mo = 1
        · rw [if_pos hm, if_pos hm, tb_lo h4]
        · rw [if_neg hm, if_neg hm]
      · rw [if_neg h4, show 2 * e + t / 4 = 2 * e + 1 by omega, show t % 4 = t - 4 by omega]
        have e1 : ∀ f : Nat → Nat, nib f (2 * e + 1) = f e / 16 := fun f => by
          unfold nib
          rw [if_pos (by omega), show (2 * e + 1) / 2 = e by omega]
        rw [e1, e1]
        congr 1
        by_cases hm : mo = 1
        · rw [if_pos hm, if_pos hm, tb_hi, show t - 4 + 4 = t by omega]
        · rw [if_neg hm, if_neg hm, Nat.zero_testBit, Nat.zero_testBit]
    · rw [if_neg (by omega), if_neg h1]
      exact h.2 i hi e he t ht
/-! call by call -/
theorem rel_times {M : Nat → Nat → Nat} {B : Nat → Bool} (h : Rel M B) {i k c : Nat} (hi : i < 4) (hc : c < 4) : Rel (dk_times M i k (8 * (1 + c))) (cm B i i k 1 0 8 (8 + 8 * c)) := by
  unfold dk_times
  rw [show 8 * (1 + c) = 8 + 8 * c by omega]
  refine cm8_rel h hi hi (by omega) (fun e => ?_)
  unfold vm
  rw [if_neg (show ¬ 0 = 1 by decide), Nat.zero_xor]
theorem rel_timesN {M : Nat → Nat → Nat} {B : Nat → Bool} (h : Rel M B) {i k c : Nat} (hi : i < 4) (hk : k < 16) (hc : c < 4) : Rel (dk_timesN M i k (8 * (1 + c))) (cm B i i k 0 0 4 (2 * (8 + 8 * c))) := by
  unfold dk_timesN
  rw [show 8 * (1 + c) = 8 + 8 * c by omega]
  refine cm4_rel h hi hi hk (by omega) (fun e => ?_)
  unfold vm
  rw [if_neg (show ¬ 0 = 1 by decide), Nat.zero_xor]
theorem rel_more {M : Nat → Nat → Nat} {B : Nat → Bool} (h : Rel M B) {i j k c : Nat} (hi : i < 4) (hj : j < 4) (hc : c < 4) : Rel (dk_more M i j k (8 * (1 + c))) (md_more B i j k (8 + 8 * c)) := by
  unfold dk_more md_more
  by_cases e : i = j
  · rw [if_pos e, if_pos e]; exact h
  · rw [if_neg e, if_neg e, show 8 * (1 + c) = 8 + 8 * c by omega]
    refine cm8_rel h hi hj (by omega) (fun e => ?_)
    unfold vx
    rw [if_pos (show 1 = 1 from rfl)]
theorem rel_moreN {M : Nat → Nat → Nat} {B : Nat → Bool} (h : Rel M B) {i j k c : Nat} (hi : i < 4) (hj : j < 4) (hk : k < 16) (hc : c < 4) : Rel (dk_moreN M i j k (8 * (1 + c))) (md_moreN B i j k (8 + 8 * c)) := by
  unfold dk_moreN md_moreN
  by_cases e : i = j
  · rw [if_pos e, if_pos e]; exact h
  · rw [if_neg e, if_neg e, show 8 * (1 + c) = 8 + 8 * c by omega]
    refine cm4_rel h hi hj hk (by omega) (fun e => ?_)
    unfold vx
    rw [if_pos (show 1 = 1 from rfl)]
theorem rel_add {M : Nat → Nat → Nat} {B : Nat → Bool} (h : Rel M B) {i j : Nat} (hi : i < 4) (hj : j < 4) : Rel (dk_add M i j) (md_addIf B i j 1) := by
  unfold dk_add md_addIf
  by_cases e : i = j
  · rw [if_pos e, if_pos e]; exact h
  · rw [if_neg e, if_neg e, if_neg (show ¬ 1 % 2 = 0 by decide)]
    refine cm8_rel h hi hj (by omega) (fun e => ?_)
    unfold vx
    rw [if_pos (show 1 = 1 from rfl), g8_1 _ (h.1 j e)]
theorem rel_addIf {M : Nat → Nat → Nat} {B : Nat → Bool} (h : Rel M B) {i j k : Nat} (hi : i < 4) (hj : j < 4) : Rel (dk_addIf M i j (k % 2)) (md_addIf B i j k) := by
  unfold dk_addIf md_addIf
  by_cases e : i = j
  · rw [if_pos e, if_pos e]; exact h
  · rw [if_neg e, if_neg e]
    by_cases hk : k % 2 = 0
    · rw [if_pos hk]
      have e1 : ∀ a, vx (M i) (fun t => if k % 2 = 1 then M j t else 0) 32 a = M i a := by
        intro a
        unfold vx
        by_cases ha : a < 32
        · rw [if_pos ha]
          show M i a ^^^ (if k % 2 = 1 then M j a else 0) = M i a
          rw [if_neg (by omega), Nat.xor_zero]
        · rw [if_neg ha]
      exact h.row (fun a => by rw [e1]; exact h.1 i a) (fun _ _ _ _ _ _ _ => rfl) (fun a ha t ht => by rw [e1]; exact h.2 i hi a ha t ht)
    · rw [if_neg hk]
      refine cm8_rel h hi hj (by omega) (fun e => ?_)
      show (if e < 32 then M i e ^^^ (if k % 2 = 1 then M j e else 0) else M i e) = if e < 32 then (if 1 = 1 then M i e else 0) ^^^ g8 1 (M j e) else M i e
      rw [if_pos (show 1 = 1 from rfl), if_pos (show k % 2 = 1 by omega), g8_1 _ (h.1 j e)]
theorem ly_at (B : Nat → Bool) (F : Nat) (wb : Nat → Nat) : ∀ N n, ly B F wb N n = if F ≤ n ∧ n < F + 8 * N then (wb ((n - F) / 8)).testBit ((n - F) % 8) else B n
  | 0, n => by rw [if_neg (by omega)]; rfl
  | N + 1, n => by
    unfold ly wr
    by_cases h1 : F + 8 * N ≤ n ∧ n < F + 8 * N + 8
    · rw [if_pos h1, if_pos (by omega), show (n - F) / 8 = N by omega, show (n - F) % 8 = n - (F + 8 * N) by omega]
    · rw [if_neg h1, ly_at B F wb N n]
      by_cases h2 : F ≤ n ∧ n < F + 8 * N
      · rw [if_pos h2, if_pos (by omega)]
      · rw [if_neg h2, if_neg (by omega)]
theorem wd12 (f : Nat → Nat) (p a b c j : Nat) : wd4 (wd4 (wd4 f p a) (p + 4) b) (p + 8) c j = if p ≤ j ∧ j < p + 12 then wb12 a b c (j - p) else f j := by
  unfold wd4 va_up wb12
  by_cases h : p ≤ j ∧ j < p + 12
  · rw [if_pos h]
    obtain ⟨t, rfl⟩ : ∃ t, j = p + t := ⟨j - p, by omega⟩
    have ht : t < 12 := by omega
    rw [Nat.add_sub_cancel_left]
    rcases (show t = 0 ∨ t = 1 ∨ t = 2 ∨ t = 3 ∨ t = 4 ∨ t = 5 ∨ t = 6 ∨ t = 7 ∨ t = 8 ∨ t = 9 ∨ t = 10 ∨ t = 11 by omega) with rfl | rfl | rfl | rfl | rfl | rfl | rfl | rfl | rfl | rfl | rfl | rfl
    all_goals (repeat (first | rw [if_pos (by omega)] | rw [if_neg (by omega)]))
    all_goals first | rfl | (simp; done) | omega
  · rw [if_neg h]
    repeat rw [if_neg (by omega)]
theorem wb12_lt (a b c i : Nat) : wb12 a b c i < 256 := Nat.mod_lt _ (by decide)
theorem rel_lay {M : Nat → Nat → Nat} {B : Nat → Bool} (h : Rel M B) {i A a b c : Nat} (hi : i < 4) : Rel (dk_lay M i (A % 6 * 4) a b c) (ly B (i * 256 + A % 6 * 32) (wb12 a b c) 12) := by
  unfold dk_lay
  refine h.row (fun e => ?_) (fun k hk hki e he t ht => ?_) (fun e he t ht => ?_)
  · rw [wd12]
    by_cases h1 : A % 6 * 4 ≤ e ∧ e < A % 6 * 4 + 12
    · rw [if_pos h1]; exact wb12_lt _ _ _ _
    · rw [if_neg h1]; exact h.1 i e
  · rw [ly_at, if_neg (by omega)]
  · rw [ly_at, wd12]
    by_cases h1 : A % 6 * 4 ≤ e ∧ e < A % 6 * 4 + 12
    · rw [if_pos h1, if_pos (by omega), show (i * 256 + 8 * e + t - (i * 256 + A % 6 * 32)) / 8 = e - A % 6 * 4 by omega, show (i * 256 + 8 * e + t - (i * 256 + A % 6 * 32)) % 8 = t by omega]
    · rw [if_neg h1, if_neg (by omega)]
      exact h.2 i hi e he t ht
theorem rel_layN {M : Nat → Nat → Nat} {B : Nat → Bool} (h : Rel M B) {i n v : Nat} (hi : i < 4) (hn : n < 64) (hv : v < 16) : Rel (dk_layN M i n v) (wr B (i * 256 + n * 4) 4 v) := by
  unfold dk_layN
  refine h.row (setn_lt (h.1 i) n hv) (fun k hk hki e he t ht => ?_) (fun e he t ht => ?_)
  · unfold wr
    rw [if_neg (by omega)]
  · unfold wr setn va_up
    by_cases h1 : e = n / 2
    · rw [if_pos h1, h1]
      have h0 := h.2 i hi (n / 2) (by omega) t ht
      by_cases h2 : n % 2 = 1
      · rw [if_pos h2, tb_nib (by omega)]
        by_cases h3 : t < 4
        · rw [if_neg (by omega), if_pos h3, tb_lo h3]; exact h0
        · rw [if_pos (by omega), if_neg h3, show i * 256 + 8 * (n / 2) + t - (i * 256 + n * 4) = t - 4 by omega]
      · rw [if_neg h2, show M i (n / 2) / 16 * 16 + v = v + M i (n / 2) / 16 * 16 by omega, tb_nib hv]
        by_cases h3 : t < 4
        · rw [if_pos (by omega), if_pos h3, show i * 256 + 8 * (n / 2) + t - (i * 256 + n * 4) = t by omega]
        · rw [if_neg (by omega), if_neg h3, tb_hi, show t - 4 + 4 = t by omega]; exact h0
    · rw [if_neg h1, if_neg (by omega)]
      exact h.2 i hi e he t ht
theorem rel_0 : Rel (fun _ _ => 0) (fun _ => false) := ⟨fun _ _ => by show 0 < 256; decide, fun k _ j _ t _ => by show false = (0 : Nat).testBit t; rw [Nat.zero_testBit]⟩
end
section
/-! ===== constructors ===== -/
/-- the array class over byte[] is there: carried at a contract's start -/
def vz_AO (U : State) : Prop := (Cond.arrayOver (.array .byte)).before #[] U = true
theorem vz_AO.moved {u U : State} (hvm : u.vm.Alike U.vm) (h : vz_AO u) : vz_AO U := by
  obtain ⟨comp, c, k, h1, h2, h3, h4, h5⟩ := arrayOverA_spec h
  obtain ⟨k', hk', he⟩ := hvm.2.2 _ _ h3
  have hi : (U.vm.classes.findIdx? fun (x : Class) => match x.kind with | .array component _ => component == comp | _ => false) = some c := by
    refine (va_idx_bare U.vm comp).symm.trans ?_
    rw [hvm.bare_eq]
    exact (va_idx_bare u.vm comp).trans h2
  have hkind : k'.kind = .array comp (.array .byte) := by rw [he]; exact h4
  have f1 : U.vm.findClass (FieldType.array .byte).toString = some comp := by rw [hvm.findClass]; exact h1
  have f2 : U.vm.findClass ("[" ++ (FieldType.array .byte).toString) = some c := by rw [hvm.findClass]; exact h5
  unfold vz_AO Cond.before Cond.holds
  simp only [Cond.value]
  rw [f1, Option.bind_some]
  refine (congrArg (fun o : Option Nat => (o.bind (fun c => (U.vm.classes[c]?).map fun (k : Class) => match k.kind with | .array _ ty => decide (ty = FieldType.array .byte) && decide (U.vm.findClass ("[" ++ (FieldType.array .byte).toString) = some c) | _ => false) == some true)) hi).trans ?_
  simp [hk', hkind, f2]
section ZA
variable {p : Program} {l : Launch} {e : Env} {R : Room} {s : State} {m : MethodId} {args : Array Value} {below : List Frame} {meth : Method} {c : Code} {H : Heap} {locs : List Loc} {cells slots : Nat} {Q : State → Prop}
variable {cc : ByteArray} {pc : Nat} {ls : Array Slot} {rest : List Value} {D : va_G} {cl : List vw_C} {A : Nat → Prop} {a : Nat} {tys : List (ClassId × FieldType)} {ws : va_W} {H0 : Heap}
/-- what is known of the class of an array of byte[] -/
def vz_Co (s : State) (cA : ClassId) : Prop := ∃ (kA : Class) (comp : ClassId), s.vm.classes[cA]? = some kA ∧ kA.kind = .array comp (.array .byte) ∧ s.vm.findClass (FieldType.array .byte).toString = some comp
theorem za_new (hexec : p.tables.exec = Jvm.exec) (hb : c.code = cc) {own : String} {index : Nat} (hown : s.vm.findClass own = some m.cls) (hclink : (Cond.classLink own index (FieldType.array .byte).toString).before args s = true) (hover : (Cond.arrayOver (.array .byte)).before args s = true) (hK : va_K D cl tys s) (hP : va_P D cl ws H) (hD : va_D A ws) (hS : va_S A H0 H locs) (hA : ∀ q, H0.size ≤ q → A q)
    {n : Int32} {N' : Nat} (hn : ¬ n < 0) (hN : n.toNatClampNeg = N') (hbytes : N' * 4 ≤ 536870912) (hcells : cells + 1 ≤ R.cells) (hslots : slots + N' ≤ R.slots) (hdg : decode cc pc = .ok (.anewarray index, 3))
    (kk : ∀ (q : Nat) (cA : ClassId) (H1 : Heap), vz_Co s cA → va_K D cl (tys ++ [(cA, .array .byte)]) s → va_P D cl (ws ++ [(q, .inl (cA, N', .inr (.inr (.inr (.inr (fun _ => none))))))]) H1 → va_D A (ws ++ [(q, .inl (cA, N', .inr (.inr (.inr (.inr (fun _ => none))))))]) → va_S A H0 H1 locs →
      W p l e R s m args below meth c H1 locs (cells + 1) (slots + N') Q (F0 m (pc + 3) ls (.ref q :: rest))) : W p l e R s m args below meth c H locs cells slots Q (F0 m pc ls (.int n :: rest)) := by
  subst hN
  refine W.anewA hexec hb hown hclink hover rfl hdg rfl hn hbytes hcells hslots fun cA kA comp f1 f2 f3 f4 => ?_
  generalize hH1 : H.push ({ cls := cA, slots := Array.replicate n.toNatClampNeg .null, vm := .none } : Cell) = H1
  have z1 : H1.size = H.size + 1 := by rw [← hH1, Array.size_push]
  have e1 : H1[H.size]? = some (arrV cA n.toNatClampNeg (fun _ => .null)) := by rw [← hH1, Array.getElem?_push_size, ← arrV_new]
  have o1 : ∀ q : Nat, q < H.size → H1[q]? = H[q]? := fun q hq => by rw [← hH1, Array.getElem?_push, if_neg (Nat.ne_of_lt hq)]
  have hAr : ArrOfT s cA (.array .byte) := fun N z => ⟨(fun k h => by cases h), kA, f2, comp, f3⟩
  have hk : ∀ (k : Nat) (x : Nat × va_E), ws[k]? = some x → H1[x.1]? = H[x.1]? := fun k x hx => o1 x.1 ((hP k x hx).lt)
  refine kk H.size cA H1 ⟨kA, comp, f2, f3, f4⟩ ⟨hK.1, fun k x hx => ?_⟩ ((hP.kept hk).app (fun k x hx => ?_)) (hD.push hP rfl (hA _ hS.1)) ⟨Nat.le_trans hS.1 (by omega), fun x h1 h2 => (o1 x (Nat.lt_of_lt_of_le h1 hS.1)).trans (hS.2.1 x h1 h2), hS.2.2⟩
  · by_cases hl : k < tys.length
    · rw [List.getElem?_append_left hl] at hx
      exact hK.2 k x hx
    · rw [List.getElem?_append_right (by omega)] at hx
      have hz : k - tys.length < 1 := (List.getElem?_eq_some_iff.mp hx).1
      rw [show k - tys.length = 0 by omega] at hx
      cases hx
      exact ⟨hAr, f1⟩
  · have hz : k < 1 := (List.getElem?_eq_some_iff.mp hx).1
    rw [show k = 0 by omega] at hx
    cases hx
    show H1[H.size]? = some (vp_cell _ _)
    rw [vp_cell_q]
    exact e1
theorem vz_asg (vm : Vm) (x : ClassId) : vm.assignable x x = true := by
  unfold Vm.assignable
  rw [show (256 : Nat) = 255 + 1 from rfl]
  unfold Vm.assignableAux
  rw [beq_self_eq_true, Bool.true_or]
theorem za_ast (hexec : p.tables.exec = Jvm.exec) (hb : c.code = cc) (hK : va_K D cl tys s) (hP : va_P D cl ws H) (hD : va_D A ws) (hS : va_S A H0 H locs) (q0 t0 qk t1 : Nat) {cA cB : ClassId} {n j v nn : Nat} {f : Nat → Option Nat} {fb : Nat → Int32} (ha : ws[q0]? = some (a, .inl (cA, n, .inr (.inr (.inr (.inr f)))))) (ht : tys[t0]? = some (cA, .array .byte)) (hcomp : vz_Co s cA) (hv : ws[qk]? = some (v, .inl (cB, nn, .inl fb))) (ht1 : tys[t1]? = some (cB, .byte)) (hj : j < n) (hn : n < 2 ^ 31) (hdg : decode cc pc = .ok (.aastore, 1))
    (kk : ∀ (H1 : Heap) (locs1 : List Loc), va_P D cl (ws.set q0 (a, .inl (cA, n, .inr (.inr (.inr (.inr (va_up f j (some v)))))))) H1 → va_D A (ws.set q0 (a, .inl (cA, n, .inr (.inr (.inr (.inr (va_up f j (some v)))))))) → va_S A H0 H1 locs1 → W p l e R s m args below meth c H1 locs1 cells slots Q (F0 m (pc + 1) ls rest)) : W p l e R s m args below meth c H locs cells slots Q (F0 m pc ls (.ref v :: .int (nI j) :: .ref a :: rest)) := by
  have hcl := nI_clamp (Nat.lt_trans hj hn)
  have h0 : ¬ nI j < 0 := nI_pos (Nat.lt_trans hj hn)
  obtain ⟨kA, comp, k1, k2, k3⟩ := hcomp
  have hB := hK.2 t1 _ ht1
  obtain ⟨-, kB, hkB, -⟩ := hB.1 nn (fun j => .int (fb j))
  have hcls : s.vm.findClass (FieldType.array .byte).toString = some cB := hB.2
  have he : cB = comp := Option.some.inj (hcls.symm.trans k3)
  subst he
  refine W.aast (t := .array .byte) hexec hb (hP q0 _ ha) (fun q h => by cases h) (fun h => by cases h) k1 k2 rfl hkB ⟨h0, by show _ < (arrV _ _ _).slots.size; rw [arrV_size, hcl]; exact hj⟩ (hP qk _ hv) (fun q h => by cases h) hkB (vz_asg _ _) rfl rfl hdg fun H1 e z oq => ?_
  refine kk H1 _ (hP.set hD ha ?_ oq) (hD.set ha) (hS.put z oq (hD.2 q0 _ ha))
  show H1[a]? = some (vp_cell _ _)
  rw [e, hcl]
  rw [vp_cell_q, vp_cell_q, arrV_store]
  congr 2
  funext q
  by_cases hq : q = j
  · subst hq
    simp [updV, va_up, va_rf]
  · simp [updV, va_up, hq]
end ZA
theorem vz_cell {D : va_G} {cl : List vw_C} {ws : va_W} {H : Heap} {A : Nat → Prop} {i a : Nat} {cA : ClassId} {x y : vp_A} (hP : va_P D cl ws H) (hD : va_D A ws) (h : ws[i]? = some (a, .inl (cA, x))) (e : vp_cell cA x = vp_cell cA y) : va_P D cl (ws.set i (a, .inl (cA, y))) H ∧ va_D A (ws.set i (a, .inl (cA, y))) := by
  have hl := (List.getElem?_eq_some_iff.mp h).1
  refine ⟨fun k q hk => ?_, hD.set h⟩
  by_cases hki : k = i
  · subst hki
    rw [List.getElem?_set_self hl] at hk
    cases hk
    have h1 : H[a]? = some (vp_cell cA x) := hP k _ h
    show H[a]? = some (vp_cell cA y)
    rw [← e]
    exact h1
  · rw [List.getElem?_set_ne (Ne.symm hki)] at hk
    exact hP k q hk
theorem vz_four (cA : ClassId) (q0 q1 q2 q3 : Nat) : vp_cell cA (4, .inr (.inr (.inr (.inr (va_up (va_up (va_up (va_up (fun _ => none) 0 (some q0)) 1 (some q1)) 2 (some q2)) 3 (some q3)))))) = vp_cell cA (4, .inr (.inr (.inr (.inr (fun i => some (if i = 0 then q0 else if i = 1 then q1 else if i = 2 then q2 else q3)))))) := by
  rfl
theorem vz_b0 (cA : ClassId) : vp_cell cA (32, .inl (bf (fun _ => 0))) = arrV cA 32 (fun _ => defaultValue .byte) := by
  show arrV cA 32 (fun _ => Value.int (nB 0)) = arrV cA 32 (fun _ => Value.int 0)
  rw [show nB 0 = 0 from by decide]
theorem vz_z0 (cA : ClassId) : vp_cell cA (1024, .inl (zf (fun _ => false))) = arrV cA 1024 (fun _ => defaultValue .boolean) := rfl
end
section
/-! ===== constructors: their contracts ===== -/
abbrev wsX0_init : List Cond := ws_ yX0_init cX0_init 1 none
abbrev wsX1_init : List Cond := ws_ yX1_init cX1_init 1 none
set_option maxHeartbeats 4000000 in
set_option maxRecDepth 100000 in
/-- OilVectorDeskModel(): all bits clear -/
theorem metX1_init (l : Launch) (dC : Nat → ClassId) (dI : Nat → Nat → Nat) (h0 : Nat) (sz : Nat) : Met l yX1_init wsX1_init ({ frames := 1, cells := 1, slots := 1024, locals := 12 }) (va_Pc [.ref h0] (fun U => U.heap.size = sz ∧ va_P (dC, dI) vwCl [(h0, .inr (1, [.null]))] U.heap ∧ va_K (dC, dI) vwCl [] U ∧ va_D (fun _ => True) [(h0, .inr (1, [.null]))])) (va_Qv (fun _ : Nat × ClassId => True) (fun u t => va_P (dC, dI) vwCl (MW h0 u.1 u.2 (fun _ => false)) t.heap ∧ va_K (dC, dI) vwCl (MT u.2) t ∧ va_D (va_A [(h0, .inr (1, [.null]))] sz) (MW h0 u.1 u.2 (fun _ => false))) (va_A [(h0, .inr (1, [.null]))] sz)) 1 1024 (va_A [(h0, .inr (1, [.null]))] sz) := by
  refine Met.ofW (cc := cX1_init) (maxL := 1) (ret := none) (by decide) rfl ?_
  intro p e s m args below meth c s₁ B hml hv
  obtain ⟨rfl, hsz, hP, hK, hD0⟩ := hv
  have hx := B.exec
  have hb := B.bytes
  have hr := B.returns
  have hts := atoms_spec (ws := wsX1_init) B.pre
  have hts : ∀ w ∈ lw_all, w.before _ s = true := fun w h => hts w (List.mem_cons_of_mem _ h)
  have hown : s.vm.findClass RX1 = some m.cls := findClass_of_methodNamed B.named
  have hlocks := B.notSynchronized
  have hin : meth.name = "<init>" := (name_of_methodNamed B.named B.method).1
  subst hsz
  have hD := hD0.self (sz := s.heap.size)
  generalize hAe : va_A [(h0, .inr (1, [.null]))] s.heap.size = A at hD ⊢
  have hA : ∀ q : Nat, s.heap.size ≤ q → A q := fun q h => by rw [← hAe]; exact Or.inr h
  have hS : va_S A s.heap s.heap [] := va_S.rf
  have hP : va_P (dC, dI) vwCl [(h0, .inr (1, [.null]))] s.heap := hP
  have hl := lv_entry ([.ref h0]) (n := 1) (Nat.le_of_ble_eq_true rfl)
  rw [lg_entry_eq]
  generalize (lg_sl ([.ref h0]) ++ List.replicate (1 - (lg_sl ([.ref h0])).length) Slot.unset).toArray = ls at hl ⊢
  have hl : lv_has ls 1 [(0, .ref h0)] := hl
  refine lv_aload_n hx hb dX1_init_0 rfl (lv_at hl 0 rfl) ?_
  refine W.objInit hx hb hown (hts _ q128) (hts _ q16) (hts _ q17) rfl (by rw [hml]; exact hl.1) rfl dX1_init_1 (Nat.le_of_ble_eq_true rfl) (Nat.le_of_ble_eq_true rfl) ?_
  refine W.eq (g2 := F0 m 4 ls []) rfl ?_
  refine lv_aload_n hx hb dX1_init_4 rfl (lv_at hl 0 rfl) ?_
  refine lv_sipush (v := (nI 1024)) hx hb dX1_init_5 (by decide) ?_
  refine va_newa (atype := .boolean) (ty := .boolean) (N' := 1024) (a0 := (1024, .inl (zf (fun _ => false)))) hx hb (hts _ q133) rfl hK hP hD hS hA vz_z0 (by decide) (by decide) (Nat.le_of_ble_eq_true rfl) (Nat.le_of_ble_eq_true rfl) (Nat.le_of_ble_eq_true rfl) dX1_init_8 (fun qz cZ H hK hP hD hS => ?_)
  have hK : va_K (dC, dI) vwCl [(cZ, .boolean)] s := hK
  have hP : va_P (dC, dI) vwCl [(h0, .inr (1, [.null])), (qz, .inl (cZ, 1024, .inl (zf (fun _ => false))))] H := hP
  have hD : va_D A [(h0, .inr (1, [.null])), (qz, .inl (cZ, 1024, .inl (zf (fun _ => false))))] := hD
  refine W.widen (k := 1) (n := 1024) (by decide) (by decide) ?_
  refine va_putF (D := (dC, dI)) (ci := 1) (v := .ref qz) (ty := .array .boolean) (C := RX1) (T := TX1) (N := 1) hx hb hts in_X1 tyX1 tyX1_ok nmX1 hown hK hP hD hS 0 rfl rfl 0 (by decide) (hts _ q129) (fun _ h9 => h9) rfl hin rfl (by decide +kernel) rfl rfl (Nat.le_of_ble_eq_true rfl) dX1_init_10 (fun H locs hP hD hS => ?_)
  have hP : va_P (dC, dI) vwCl [(h0, .inr (1, [.ref qz])), (qz, .inl (cZ, 1024, .inl (zf (fun _ => false))))] H := hP
  have hD : va_D A [(h0, .inr (1, [.ref qz])), (qz, .inl (cZ, 1024, .inl (zf (fun _ => false))))] := hD
  have hP9 := hP.sub (ws' := MW h0 qz cZ (fun _ => false)) [1, 0] rfl
  have hD9 := hD.sub (ws' := MW h0 qz cZ (fun _ => false)) [1, 0] (by decide) rfl
  exact W.vret hx hb hr (fun t ht hW => ⟨⟨(qz, cZ), rfl, trivial, by rw [ht]; exact hP9, va_K.moved hW.alike hK, hD9⟩, hS.F ht⟩) hS.2.2 dX1_init_13
set_option maxHeartbeats 4000000 in
set_option maxRecDepth 100000 in
/-- OilVectorDesk(): four rows of zeros -/
theorem metX0_init (l : Launch) (dC : Nat → ClassId) (dI : Nat → Nat → Nat) (h0 : Nat) (sz : Nat) : Met l yX0_init wsX0_init ({ frames := 1, cells := 5, slots := 132, locals := 12 }) (va_Pc [.ref h0] (fun U => U.heap.size = sz ∧ va_P (dC, dI) vwCl [(h0, .inr (0, [.null]))] U.heap ∧ va_K (dC, dI) vwCl [] U ∧ va_D (fun _ => True) [(h0, .inr (0, [.null]))] ∧ vz_AO U)) (va_Qv (fun _ : Nat × (Nat → Nat) × ClassId × ClassId => True) (fun u t => va_P (dC, dI) vwCl (DW h0 u.1 u.2.1 u.2.2.1 u.2.2.2 (fun _ _ => 0)) t.heap ∧ va_K (dC, dI) vwCl (DT u.2.2.1 u.2.2.2) t ∧ va_D (va_A [(h0, .inr (0, [.null]))] sz) (DW h0 u.1 u.2.1 u.2.2.1 u.2.2.2 (fun _ _ => 0))) (va_A [(h0, .inr (0, [.null]))] sz)) 5 132 (va_A [(h0, .inr (0, [.null]))] sz) := by
  refine Met.ofW (cc := cX0_init) (maxL := 1) (ret := none) (by decide) rfl ?_
  intro p e s m args below meth c s₁ B hml hv
  obtain ⟨rfl, hsz, hP, hK, hD0, hO⟩ := hv
  have hx := B.exec
  have hb := B.bytes
  have hr := B.returns
  have hts := atoms_spec (ws := wsX0_init) B.pre
  have hts : ∀ w ∈ lw_all, w.before _ s = true := fun w h => hts w (List.mem_cons_of_mem _ h)
  have hown : s.vm.findClass RX0 = some m.cls := findClass_of_methodNamed B.named
  have hlocks := B.notSynchronized
  have hin : meth.name = "<init>" := (name_of_methodNamed B.named B.method).1
  subst hsz
  have hD := hD0.self (sz := s.heap.size)
  generalize hAe : va_A [(h0, .inr (0, [.null]))] s.heap.size = A at hD ⊢
  have hA : ∀ q : Nat, s.heap.size ≤ q → A q := fun q h => by rw [← hAe]; exact Or.inr h
  have hS : va_S A s.heap s.heap [] := va_S.rf
  have hP : va_P (dC, dI) vwCl [(h0, .inr (0, [.null]))] s.heap := hP
  have hl := lv_entry ([.ref h0]) (n := 1) (Nat.le_of_ble_eq_true rfl)
  rw [lg_entry_eq]
  generalize (lg_sl ([.ref h0]) ++ List.replicate (1 - (lg_sl ([.ref h0])).length) Slot.unset).toArray = ls at hl ⊢
  have hl : lv_has ls 1 [(0, .ref h0)] := hl
  have hO2 : (Cond.arrayOver (.array .byte)).before ([.ref h0] : List Value).toArray s = true := hO
  refine lv_aload_n hx hb dX0_init_0 rfl (lv_at hl 0 rfl) ?_
  refine W.objInit hx hb hown (hts _ q15) (hts _ q16) (hts _ q17) rfl (by rw [hml]; exact hl.1) rfl dX0_init_1 (Nat.le_of_ble_eq_true rfl) (Nat.le_of_ble_eq_true rfl) ?_
  refine W.eq (g2 := F0 m 4 ls []) rfl ?_
  refine lv_aload_n hx hb dX0_init_4 rfl (lv_at hl 0 rfl) ?_
  refine lv_iconst (v := (nI 4)) hx hb dX0_init_5 (by decide) ?_
  refine za_new (N' := 4) hx hb hown (hts _ q18) hO2 hK hP hD hS hA (by decide) (by decide) (Nat.le_of_ble_eq_true rfl) (Nat.le_of_ble_eq_true rfl) (Nat.le_of_ble_eq_true rfl) dX0_init_6 (fun qg cO H hCo hK hP hD hS => ?_)
  have hK : va_K (dC, dI) vwCl [(cO, .array .byte)] s := hK
  refine W.widen (k := 1) (n := 4) (by decide) (by decide) ?_
  have hP : va_P (dC, dI) vwCl [(h0, .inr (0, [.null])), (qg, .inl (cO, 4, .inr (.inr (.inr (.inr (fun _ => none))))))] H := hP
  have hD : va_D A [(h0, .inr (0, [.null])), (qg, .inl (cO, 4, .inr (.inr (.inr (.inr (fun _ => none))))))] := hD
  refine lv_dup hx hb dX0_init_9 rfl ?_
  refine lv_iconst (v := (nI 0)) hx hb dX0_init_10 (by decide) ?_
  refine lv_bipush (v := (nI 32)) hx hb dX0_init_11 (by decide) ?_
  refine va_newa (atype := .byte) (ty := .byte) (N' := 32) (a0 := (32, .inl (bf (fun _ => 0)))) hx hb (hts _ q24) rfl hK hP hD hS hA vz_b0 (by decide) (by decide) (Nat.le_of_ble_eq_true rfl) (Nat.le_of_ble_eq_true rfl) (Nat.le_of_ble_eq_true rfl) dX0_init_13 (fun r0 cB H hK hP hD hS => ?_)
  have hK : va_K (dC, dI) vwCl [(cO, .array .byte), (cB, .byte)] s := hK
  have hP : va_P (dC, dI) vwCl [(h0, .inr (0, [.null])), (qg, .inl (cO, 4, .inr (.inr (.inr (.inr (fun _ => none)))))), (r0, .inl (cB, 32, .inl (bf (fun _ => 0))))] H := hP
  have hD : va_D A [(h0, .inr (0, [.null])), (qg, .inl (cO, 4, .inr (.inr (.inr (.inr (fun _ => none)))))), (r0, .inl (cB, 32, .inl (bf (fun _ => 0))))] := hD
  refine W.widen (k := 2) (n := 36) (by decide) (by decide) ?_
  refine za_ast hx hb hK hP hD hS 1 0 2 1 rfl rfl hCo rfl rfl (by decide) (by decide) dX0_init_15 (fun H locs hP hD hS => ?_)
  have hP : va_P (dC, dI) vwCl [(h0, .inr (0, [.null])), (qg, .inl (cO, 4, .inr (.inr (.inr (.inr (va_up (fun _ => none) 0 (some r0))))))), (r0, .inl (cB, 32, .inl (bf (fun _ => 0))))] H := hP
  have hD : va_D A [(h0, .inr (0, [.null])), (qg, .inl (cO, 4, .inr (.inr (.inr (.inr (va_up (fun _ => none) 0 (some r0))))))), (r0, .inl (cB, 32, .inl (bf (fun _ => 0))))] := hD
  refine lv_dup hx hb dX0_init_16 rfl ?_
  refine lv_iconst (v := (nI 1)) hx hb dX0_init_17 (by decide) ?_
  refine lv_bipush (v := (nI 32)) hx hb dX0_init_18 (by decide) ?_
  refine va_newa (atype := .byte) (ty := .byte) (N' := 32) (a0 := (32, .inl (bf (fun _ => 0)))) hx hb (hts _ q24) rfl hK hP hD hS hA vz_b0 (by decide) (by decide) (Nat.le_of_ble_eq_true rfl) (Nat.le_of_ble_eq_true rfl) (Nat.le_of_ble_eq_true rfl) dX0_init_20 (fun r1 cB1 H hK hP hD hS => ?_)
  have hcb : cB = cB1 := by
    have h1 : s.vm.findClass ("[" ++ FieldType.byte.toString) = some cB1 := (hK.2 2 _ rfl).2
    have h2 : s.vm.findClass ("[" ++ FieldType.byte.toString) = some cB := (hK.2 1 _ rfl).2
    exact Option.some.inj (h2.symm.trans h1)
  subst hcb
  have hK : va_K (dC, dI) vwCl [(cO, .array .byte), (cB, .byte)] s := hK.sub [0, 1] rfl
  have hP : va_P (dC, dI) vwCl [(h0, .inr (0, [.null])), (qg, .inl (cO, 4, .inr (.inr (.inr (.inr (va_up (fun _ => none) 0 (some r0))))))), (r0, .inl (cB, 32, .inl (bf (fun _ => 0)))), (r1, .inl (cB, 32, .inl (bf (fun _ => 0))))] H := hP
  have hD : va_D A [(h0, .inr (0, [.null])), (qg, .inl (cO, 4, .inr (.inr (.inr (.inr (va_up (fun _ => none) 0 (some r0))))))), (r0, .inl (cB, 32, .inl (bf (fun _ => 0)))), (r1, .inl (cB, 32, .inl (bf (fun _ => 0))))] := hD
  refine W.widen (k := 3) (n := 68) (by decide) (by decide) ?_
  refine za_ast hx hb hK hP hD hS 1 0 3 1 rfl rfl hCo rfl rfl (by decide) (by decide) dX0_init_22 (fun H locs hP hD hS => ?_)
  have hP : va_P (dC, dI) vwCl [(h0, .inr (0, [.null])), (qg, .inl (cO, 4, .inr (.inr (.inr (.inr (va_up (va_up (fun _ => none) 0 (some r0)) 1 (some r1))))))), (r0, .inl (cB, 32, .inl (bf (fun _ => 0)))), (r1, .inl (cB, 32, .inl (bf (fun _ => 0))))] H := hP
  have hD : va_D A [(h0, .inr (0, [.null])), (qg, .inl (cO, 4, .inr (.inr (.inr (.inr (va_up (va_up (fun _ => none) 0 (some r0)) 1 (some r1))))))), (r0, .inl (cB, 32, .inl (bf (fun _ => 0)))), (r1, .inl (cB, 32, .inl (bf (fun _ => 0))))] := hD
  refine lv_dup hx hb dX0_init_23 rfl ?_
  refine lv_iconst (v := (nI 2)) hx hb dX0_init_24 (by decide) ?_
  refine lv_bipush (v := (nI 32)) hx hb dX0_init_25 (by decide) ?_
  refine va_newa (atype := .byte) (ty := .byte) (N' := 32) (a0 := (32, .inl (bf (fun _ => 0)))) hx hb (hts _ q24) rfl hK hP hD hS hA vz_b0 (by decide) (by decide) (Nat.le_of_ble_eq_true rfl) (Nat.le_of_ble_eq_true rfl) (Nat.le_of_ble_eq_true rfl) dX0_init_27 (fun r2 cB2 H hK hP hD hS => ?_)
  have hcb : cB = cB2 := by
    have h1 : s.vm.findClass ("[" ++ FieldType.byte.toString) = some cB2 := (hK.2 2 _ rfl).2
    have h2 : s.vm.findClass ("[" ++ FieldType.byte.toString) = some cB := (hK.2 1 _ rfl).2
    exact Option.some.inj (h2.symm.trans h1)
  subst hcb
  have hK : va_K (dC, dI) vwCl [(cO, .array .byte), (cB, .byte)] s := hK.sub [0, 1] rfl
  have hP : va_P (dC, dI) vwCl [(h0, .inr (0, [.null])), (qg, .inl (cO, 4, .inr (.inr (.inr (.inr (va_up (va_up (fun _ => none) 0 (some r0)) 1 (some r1))))))), (r0, .inl (cB, 32, .inl (bf (fun _ => 0)))), (r1, .inl (cB, 32, .inl (bf (fun _ => 0)))), (r2, .inl (cB, 32, .inl (bf (fun _ => 0))))] H := hP
  have hD : va_D A [(h0, .inr (0, [.null])), (qg, .inl (cO, 4, .inr (.inr (.inr (.inr (va_up (va_up (fun _ => none) 0 (some r0)) 1 (some r1))))))), (r0, .inl (cB, 32, .inl (bf (fun _ => 0)))), (r1, .inl (cB, 32, .inl (bf (fun _ => 0)))), (r2, .inl (cB, 32, .inl (bf (fun _ => 0))))] := hD
  refine W.widen (k := 4) (n := 100) (by decide) (by decide) ?_
  refine za_ast hx hb hK hP hD hS 1 0 4 1 rfl rfl hCo rfl rfl (by decide) (by decide) dX0_init_29 (fun H locs hP hD hS => ?_)
  have hP : va_P (dC, dI) vwCl [(h0, .inr (0, [.null])), (qg, .inl (cO, 4, .inr (.inr (.inr (.inr (va_up (va_up (va_up (fun _ => none) 0 (some r0)) 1 (some r1)) 2 (some r2))))))), (r0, .inl (cB, 32, .inl (bf (fun _ => 0)))), (r1, .inl (cB, 32, .inl (bf (fun _ => 0)))), (r2, .inl (cB, 32, .inl (bf (fun _ => 0))))] H := hP
  have hD : va_D A [(h0, .inr (0, [.null])), (qg, .inl (cO, 4, .inr (.inr (.inr (.inr (va_up (va_up (va_up (fun _ => none) 0 (some r0)) 1 (some r1)) 2 (some r2))))))), (r0, .inl (cB, 32, .inl (bf (fun _ => 0)))), (r1, .inl (cB, 32, .inl (bf (fun _ => 0)))), (r2, .inl (cB, 32, .inl (bf (fun _ => 0))))] := hD
  refine lv_dup hx hb dX0_init_30 rfl ?_
  refine lv_iconst (v := (nI 3)) hx hb dX0_init_31 (by decide) ?_
  refine lv_bipush (v := (nI 32)) hx hb dX0_init_32 (by decide) ?_
  refine va_newa (atype := .byte) (ty := .byte) (N' := 32) (a0 := (32, .inl (bf (fun _ => 0)))) hx hb (hts _ q24) rfl hK hP hD hS hA vz_b0 (by decide) (by decide) (Nat.le_of_ble_eq_true rfl) (Nat.le_of_ble_eq_true rfl) (Nat.le_of_ble_eq_true rfl) dX0_init_34 (fun r3 cB3 H hK hP hD hS => ?_)
  have hcb : cB = cB3 := by
    have h1 : s.vm.findClass ("[" ++ FieldType.byte.toString) = some cB3 := (hK.2 2 _ rfl).2
    have h2 : s.vm.findClass ("[" ++ FieldType.byte.toString) = some cB := (hK.2 1 _ rfl).2
    exact Option.some.inj (h2.symm.trans h1)
  subst hcb
  have hK : va_K (dC, dI) vwCl [(cO, .array .byte), (cB, .byte)] s := hK.sub [0, 1] rfl
  have hP : va_P (dC, dI) vwCl [(h0, .inr (0, [.null])), (qg, .inl (cO, 4, .inr (.inr (.inr (.inr (va_up (va_up (va_up (fun _ => none) 0 (some r0)) 1 (some r1)) 2 (some r2))))))), (r0, .inl (cB, 32, .inl (bf (fun _ => 0)))), (r1, .inl (cB, 32, .inl (bf (fun _ => 0)))), (r2, .inl (cB, 32, .inl (bf (fun _ => 0)))), (r3, .inl (cB, 32, .inl (bf (fun _ => 0))))] H := hP
  have hD : va_D A [(h0, .inr (0, [.null])), (qg, .inl (cO, 4, .inr (.inr (.inr (.inr (va_up (va_up (va_up (fun _ => none) 0 (some r0)) 1 (some r1)) 2 (some r2))))))), (r0, .inl (cB, 32, .inl (bf (fun _ => 0)))), (r1, .inl (cB, 32, .inl (bf (fun _ => 0)))), (r2, .inl (cB, 32, .inl (bf (fun _ => 0)))), (r3, .inl (cB, 32, .inl (bf (fun _ => 0))))] := hD
  refine W.widen (k := 5) (n := 132) (by decide) (by decide) ?_
  refine za_ast hx hb hK hP hD hS 1 0 5 1 rfl rfl hCo rfl rfl (by decide) (by decide) dX0_init_36 (fun H locs hP hD hS => ?_)
  have hP : va_P (dC, dI) vwCl [(h0, .inr (0, [.null])), (qg, .inl (cO, 4, .inr (.inr (.inr (.inr (va_up (va_up (va_up (va_up (fun _ => none) 0 (some r0)) 1 (some r1)) 2 (some r2)) 3 (some r3))))))), (r0, .inl (cB, 32, .inl (bf (fun _ => 0)))), (r1, .inl (cB, 32, .inl (bf (fun _ => 0)))), (r2, .inl (cB, 32, .inl (bf (fun _ => 0)))), (r3, .inl (cB, 32, .inl (bf (fun _ => 0))))] H := hP
  have hD : va_D A [(h0, .inr (0, [.null])), (qg, .inl (cO, 4, .inr (.inr (.inr (.inr (va_up (va_up (va_up (va_up (fun _ => none) 0 (some r0)) 1 (some r1)) 2 (some r2)) 3 (some r3))))))), (r0, .inl (cB, 32, .inl (bf (fun _ => 0)))), (r1, .inl (cB, 32, .inl (bf (fun _ => 0)))), (r2, .inl (cB, 32, .inl (bf (fun _ => 0)))), (r3, .inl (cB, 32, .inl (bf (fun _ => 0))))] := hD
  refine va_putF (D := (dC, dI)) (ci := 0) (v := .ref qg) (ty := .array (.array .byte)) (C := RX0) (T := TX0) (N := 1) hx hb hts in_X0 tyX0 tyX0_ok nmX0 hown hK hP hD hS 0 rfl rfl 0 (by decide) (hts _ q20) (fun _ h9 => h9) rfl hin rfl (by decide +kernel) rfl rfl (Nat.le_of_ble_eq_true rfl) dX0_init_37 (fun H locs hP hD hS => ?_)
  obtain ⟨hP, hD⟩ := vz_cell (i := 1) hP hD rfl (vz_four cO r0 r1 r2 r3)
  have hP9 : va_P (dC, dI) vwCl (DW h0 qg (fun i => if i = 0 then r0 else if i = 1 then r1 else if i = 2 then r2 else r3) cO cB (fun _ _ => 0)) H := hP
  have hD9 : va_D A (DW h0 qg (fun i => if i = 0 then r0 else if i = 1 then r1 else if i = 2 then r2 else r3) cO cB (fun _ _ => 0)) := hD
  exact W.vret hx hb hr (fun t ht hW => ⟨⟨(qg, (fun i => if i = 0 then r0 else if i = 1 then r1 else if i = 2 then r2 else r3), cO, cB), rfl, trivial, by rw [ht]; exact hP9, va_K.moved hW.alike hK, hD9⟩, hS.F ht⟩) hS.2.2 dX0_init_40
end
section
/-! THE CLAIM OUT OF ONE WALK OF THE LAW'S BODY. Your part is whole_start (and what it stands on); all else here is the same for every law, but numbers. -/
def R_law : String := "OilVectorDeskLaw"
def lw_P (b : Addr) (xs : List Int32) (args : Array Value) (s : State) : Prop := args = #[.ref b] ∧ s.IntsAt b xs ∧ xs.length ≤ 288 ∧ (Jvm.Cond.and given_1 narrow_1).before args s = true
def lw_Q (_ : Array Value) (s : State) (o : Outcome) (t : State) : Prop := o = .returned (some (.int 1)) ∧ Framed s o t [] 600000 7290000
def lw_Z (below : List Frame) (a : Array Value) (s : State) : State → Prop := fun t => ∃ o, t.status = .running ∧ Ended t below o ∧ lw_Q a s o t
/-- the law's own end, with 1 on the stack, nothing written that was there before, its room as the claim has it -/
theorem lw_ret {p : Program} {l : Launch} {e : Env} {s : State} {m : MethodId} {below : List Frame} {meth : Method} {c : Code} {b : Nat} (hx : p.tables.exec = Jvm.exec) (hb : c.code = code) (hr : meth.sig.returnType = ret) (hlocks : meth.locks = false) {pc : Nat} {H : Heap} {ls : Array Slot} (hdg : decode code pc = .ok (.ireturn, 1)) : W p l e room_1 s m #[Value.ref b] below meth c H [] 600000 7290000 (lw_Z below #[Value.ref b] s) (F0 m pc ls [.int 1]) := by
  intro T hT X
  obtain ⟨fs, hret, hrun, hended, hW, hframe⟩ := X.leave (v := some (.int 1)) (hlocks := hlocks) (fun h => by rw [hr] at h; cases h)
  have hmeth' : T.vm.method? m = some meth := X.method'
  refine ⟨T.setFrames fs, ?_, .returned (some (.int 1)), hrun, hended, rfl, ⟨_, rfl⟩, hW, hframe⟩
  jvm_step X.here [X.here.top, hx, hb, hdg, hmeth', hr, ret, narrow_b1]
  (try refine ⟨rfl, ?_⟩); (try refine ⟨rfl, ?_⟩)
  first | (intro acts; rw [hret _ acts rfl rfl rfl]) | rw [hret _ _ rfl rfl rfl]
  exact Steps.refl _
/-- what holds at the law's entry: the machine, the code, the tables' words (any of lw_tbl by 'hts w (by decide +kernel)'), the script of L ints xs at the cell b, what the Statement gives of the start (any of its parts by flat_of_before) -/
def lw_At (p : Program) (s : State) (m : MethodId) (meth : Method) (c : Code) (b L : Nat) (xs : Nat → Int32) : Prop :=
  p.tables.exec = Jvm.exec ∧ c.code = code ∧ meth.sig.returnType = ret ∧ c.maxLocals = 4 ∧ s.vm.findClass R_law = some m.cls ∧ (∀ w ∈ lw_tbl, w.before #[Value.ref b] s = true) ∧ va_X b L xs s s.heap ∧ b < s.heap.size ∧ meth.locks = false ∧ (Jvm.Cond.and given_1 narrow_1).before #[Value.ref b] s = true
/-! ===== the law's world: the desk beside the reference ===== -/
abbrev LW (h0 g : Nat) (r : Nat → Nat) (cO cB : ClassId) (M : Nat → Nat → Nat) (h z : Nat) (cZ : ClassId) (B : Nat → Bool) : va_W := DW h0 g r cO cB M ++ MW h z cZ B
abbrev LT (cO cB cZ : ClassId) : List (ClassId × FieldType) := [(cO, .array .byte), (cB, .byte), (cZ, .boolean)]
theorem LW_fst (h0 g : Nat) (r : Nat → Nat) (cO cB : ClassId) (M : Nat → Nat → Nat) (h z : Nat) (cZ : ClassId) (B : Nat → Bool) : (LW h0 g r cO cB M h z cZ B).map Prod.fst = [h0, g, r 0, r 1, r 2, r 3, z, h] := rfl
theorem DW_len (h0 g : Nat) (r : Nat → Nat) (cO cB : ClassId) (M : Nat → Nat → Nat) : (DW h0 g r cO cB M).length = 6 := rfl
theorem LW_x {dC : Nat → ClassId} {dI : Nat → Nat → Nat} {h0 g : Nat} {r : Nat → Nat} {cO cB : ClassId} {M M' : Nat → Nat → Nat} {h z : Nat} {cZ : ClassId} {B : Nat → Bool} {A : Nat → Prop} {H H1 : Heap} (hP : va_P (dC, dI) vwCl (LW h0 g r cO cB M h z cZ B) H) (hD : va_D A (LW h0 g r cO cB M h z cZ B)) (hk : ∀ q : Nat, q < H.size → ¬ va_A (DW h0 g r cO cB M) H.size q → H1[q]? = H[q]?) (hP1 : va_P (dC, dI) vwCl (DW h0 g r cO cB M') H1) : va_P (dC, dI) vwCl (LW h0 g r cO cB M' h z cZ B) H1 ∧ va_D A (LW h0 g r cO cB M' h z cZ B) := by
  refine ⟨zj_gen (w1 := DW h0 g r cO cB M') hP hD [0, 1, 2, 3, 4, 5] rfl hk hP1 (fun k q hq => ?_), zj_D hD ((LW_fst h0 g r cO cB M' h z cZ B).trans (LW_fst h0 g r cO cB M h z cZ B).symm)⟩
  by_cases h6 : k < 6
  · rw [List.getElem?_append_left (by rw [DW_len]; exact h6)] at hq
    exact Or.inl ⟨k, hq⟩
  · rw [List.getElem?_append_right (by rw [DW_len]; omega), DW_len] at hq
    refine Or.inr ⟨?_, ?_⟩
    · intro hm
      simp only [List.mem_cons, List.not_mem_nil, or_false] at hm
      omega
    · rw [List.getElem?_append_right (by rw [DW_len]; omega), DW_len]
      exact hq
theorem LW_m {dC : Nat → ClassId} {dI : Nat → Nat → Nat} {h0 g : Nat} {r : Nat → Nat} {cO cB : ClassId} {M : Nat → Nat → Nat} {h z : Nat} {cZ : ClassId} {B B' : Nat → Bool} {A : Nat → Prop} {H H1 : Heap} (hP : va_P (dC, dI) vwCl (LW h0 g r cO cB M h z cZ B) H) (hD : va_D A (LW h0 g r cO cB M h z cZ B)) (hk : ∀ q : Nat, q < H.size → ¬ va_A (MW h z cZ B) H.size q → H1[q]? = H[q]?) (hP1 : va_P (dC, dI) vwCl (MW h z cZ B') H1) : va_P (dC, dI) vwCl (LW h0 g r cO cB M h z cZ B') H1 ∧ va_D A (LW h0 g r cO cB M h z cZ B') := by
  refine ⟨zj_gen (w1 := MW h z cZ B') hP hD [6, 7] rfl hk hP1 (fun k q hq => ?_), zj_D hD ((LW_fst h0 g r cO cB M h z cZ B').trans (LW_fst h0 g r cO cB M h z cZ B).symm)⟩
  by_cases h6 : k < 6
  · rw [List.getElem?_append_left (by rw [DW_len]; exact h6)] at hq
    refine Or.inr ⟨?_, ?_⟩
    · intro hm
      simp only [List.mem_cons, List.not_mem_nil, or_false] at hm
      omega
    · rw [List.getElem?_append_left (by rw [DW_len]; exact h6)]
      exact hq
  · rw [List.getElem?_append_right (by rw [DW_len]; omega), DW_len] at hq
    exact Or.inl ⟨k - 6, hq⟩
theorem zs_ald {p : Program} {l : Launch} {e : Env} {R : Room} {s : State} {m : MethodId} {args : Array Value} {below : List Frame} {meth : Method} {c : Code} {H : Heap} {locs : List Loc} {cells slots : Nat} {Q : State → Prop} {cc : ByteArray} {pc : Nat} {ls : Array Slot} {rest : List Value} {A : Nat → Prop} {H0 : Heap} (hexec : p.tables.exec = Jvm.exec) (hb : c.code = cc) {b L : Nat} {xs : Nat → Int32} (hX : va_X b L xs s H0) (hbl : b < H0.size) (hbA : ¬ A b) (hS : va_S A H0 H locs) {j : Nat} (hj : j < L) (hL : L < 2 ^ 31) (hdg : decode cc pc = .ok (.iaload, 1))
    (kk : W p l e R s m args below meth c H locs cells slots Q (F0 m (pc + 1) ls (.int (xs j) :: rest))) : W p l e R s m args below meth c H locs cells slots Q (F0 m pc ls (.int (nI j) :: .ref b :: rest)) := by
  refine va_sld hexec hb hX hbl hbA hS (vp_in_nI hj hL) hdg ?_
  rw [nI_clamp (Nat.lt_trans hj hL)]
  exact kk
theorem zi_end {L k : Nat} (hL : L < 2 ^ 30) (hk : k < 2 ^ 30) : nI L - nI 6 < nI k ↔ L < k + 6 := by
  rw [Int32.lt_iff_toInt_lt, pk_sub_toInt hL (by decide), nI_toInt (by omega)]
  omega
end
section
/-! ===== the law: its loop ===== -/
set_option maxHeartbeats 8000000 in
set_option maxRecDepth 100000 in
/-- the law's loop at its head: i calls done, the two states agree -/
theorem law_loop {p : Program} {l : Launch} {e : Env} {s : State} {m : MethodId} {below : List Frame} {meth : Method} {c : Code} {dC : Nat → ClassId} {dI : Nat → Nat → Nat} {b L : Nat} {xs : Nat → Int32} {h0 g : Nat} {r : Nat → Nat} {cO cB : ClassId} {h z : Nat} {cZ : ClassId} (hL : L ≤ 288) (hx : p.tables.exec = Jvm.exec) (hb : c.code = code) (hr : meth.sig.returnType = ret) (hml : c.maxLocals = 4) (hlocks : meth.locks = false) (hown : s.vm.findClass R_law = some m.cls) (hts : ∀ w ∈ lw_all, w.before #[Value.ref b] s = true) (hX : va_X b L xs s s.heap) (hbl : b < s.heap.size) (hK : va_K (dC, dI) vwCl (LT cO cB cZ) s) :
    ∀ (n i : Nat) (M : Nat → Nat → Nat) (B : Nat → Bool) (H : Heap) (locs : List Loc) (ls : Array Slot), i + n = 49 → Rel M B → va_P (dC, dI) vwCl (LW h0 g r cO cB M h z cZ B) H → va_D (fun q : Nat => s.heap.size ≤ q) (LW h0 g r cO cB M h z cZ B) → va_S (fun q : Nat => s.heap.size ≤ q) s.heap H locs → lv_has ls 4 [(3, .int (nI (6 * i))), (0, .ref b), (1, .ref h0), (2, .ref h)] → W p l e room_1 s m #[Value.ref b] below meth c H locs 8 1158 (lw_Z below #[Value.ref b] s) (F0 m 18 ls []) := by
  have hA : ∀ q : Nat, s.heap.size ≤ q → (fun q : Nat => s.heap.size ≤ q) q := fun _ h => h
  have hbA : ¬ (fun q : Nat => s.heap.size ≤ q) b := Nat.not_le.mpr hbl
  have hL31 : L < 2 ^ 31 := by omega
  have hcs : 8 ≤ room_1.cells ∧ 1158 ≤ room_1.slots := ⟨Nat.le_of_ble_eq_true rfl, Nat.le_of_ble_eq_true rfl⟩
  intro n
  induction n with
  | zero =>
    intro i M B H locs ls hi hR hP hD hS hl
    refine lv_iload_n hx hb dL_law_18 rfl (lv_at hl 0 rfl) ?_
    refine lv_aload_n hx hb dL_law_19 rfl (lv_at hl 1 rfl) ?_
    refine va_slen hx hb hX hbl hbA hS dL_law_20 ?_
    refine lv_bipush (v := (nI 6)) hx hb dL_law_21 (by decide) ?_
    refine lv_isub hx hb dL_law_23 ?_
    refine lv_icmp_gt (tgt := 518) hx hb dL_law_24 (by decide) (fun cc => ?_) (fun cc => ?_)
    · skip
      refine lv_iconst (v := 1) hx hb dL_law_518 (by decide) ?_
      refine va_forget (fun q hq => hS.2.2 q hq) ?_
      refine W.widen (k := 600000) (n := 7290000) (Nat.le_of_ble_eq_true rfl) (Nat.le_of_ble_eq_true rfl) ?_
      exact lw_ret hx hb hr hlocks dL_law_519
    · exact absurd ((zi_end (by omega) (by omega)).mpr (by omega)) cc
  | succ n ih =>
    intro i M B H locs ls hi hR hP hD hS hl
    refine lv_iload_n hx hb dL_law_18 rfl (lv_at hl 0 rfl) ?_
    refine lv_aload_n hx hb dL_law_19 rfl (lv_at hl 1 rfl) ?_
    refine va_slen hx hb hX hbl hbA hS dL_law_20 ?_
    refine lv_bipush (v := (nI 6)) hx hb dL_law_21 (by decide) ?_
    refine lv_isub hx hb dL_law_23 ?_
    refine lv_icmp_gt (tgt := 518) hx hb dL_law_24 (by decide) (fun cc => ?_) (fun cc => ?_)
    · skip
      refine lv_iconst (v := 1) hx hb dL_law_518 (by decide) ?_
      refine va_forget (fun q hq => hS.2.2 q hq) ?_
      refine W.widen (k := 600000) (n := 7290000) (Nat.le_of_ble_eq_true rfl) (Nat.le_of_ble_eq_true rfl) ?_
      exact lw_ret hx hb hr hlocks dL_law_519
    · have hin : 6 * i + 5 < L := by
        rcases Nat.lt_or_ge (6 * i + 5) L with q | q
        · exact q
        · exact absurd ((zi_end (by omega) (by omega)).mpr (by omega)) cc
      have next : ∀ (M : Nat → Nat → Nat) (B : Nat → Bool) (H : Heap) (locs : List Loc) (ls : Array Slot), Rel M B → va_P (dC, dI) vwCl (LW h0 g r cO cB M h z cZ B) H → va_D (fun q : Nat => s.heap.size ≤ q) (LW h0 g r cO cB M h z cZ B) → va_S (fun q : Nat => s.heap.size ≤ q) s.heap H locs → lv_has ls 4 [(3, .int (nI (6 * i))), (0, .ref b), (1, .ref h0), (2, .ref h)] → W p l e room_1 s m #[Value.ref b] below meth c H locs 8 1158 (lw_Z below #[Value.ref b] s) (F0 m 512 ls []) := by
        intro M B H locs ls hR hP hD hS hl
        refine lv_iinc (v := (nI (6 * (i + 1)))) (lv' := [(3, .int (nI (6 * (i + 1)))), (0, .ref b), (1, .ref h0), (2, .ref h)]) hx hb dL_law_512 hl (k := 0) rfl ((zi_i6 (6 * i)).trans (congrArg nI (by omega))) (by decide) rfl (fun ls hl => ?_)
        refine lv_goto (tgt := 18) hx hb dL_law_515 (by decide) ?_
        exact ih (i + 1) M B H locs ls (by omega) hR hP hD hS (lv_sub hl [0, 1, 2, 3] rfl)
      refine lv_aload_n hx hb dL_law_27 rfl (lv_at hl 1 rfl) ?_
      refine lv_iload_n hx hb dL_law_28 rfl (lv_at hl 0 rfl) ?_
      refine zs_ald hx hb hX hbl hbA hS (j := 6 * i) (by omega) hL31 dL_law_29 ?_
      refine lv_bipush (v := (nI 15)) hx hb dL_law_30 (by decide) ?_
      refine lv_iand hx hb dL_law_32 ?_
      refine zt_i (v := (nI ((xs (6 * i)).toBitVec.toNat % 16))) (zi_and _ 4 (by decide) rfl) ?_
      have hv16 : ((xs (6 * i)).toBitVec.toNat % 16) < 16 := Nat.mod_lt _ (by decide)
      generalize ((xs (6 * i)).toBitVec.toNat % 16) = v at hv16 ⊢
      rcases (show v = 0 ∨ v = 1 ∨ v = 2 ∨ v = 3 ∨ v = 4 ∨ v = 5 ∨ v = 6 ∨ v = 7 ∨ v = 8 ∨ v = 9 ∨ 10 ≤ v by omega) with rfl | rfl | rfl | rfl | rfl | rfl | rfl | rfl | rfl | rfl | hge
      · refine lv_tableIn (off := 55) (tgt := 88) hx hb dL_law_33 (by decide +kernel) (by decide +kernel) (by decide +kernel) (by decide) ?_
        refine lv_aload_n hx hb dL_law_88 rfl (lv_at hl 2 rfl) ?_
        refine lv_aload_n hx hb dL_law_89 rfl (lv_at hl 1 rfl) ?_
        refine lv_iload_n hx hb dL_law_90 rfl (lv_at hl 0 rfl) ?_
        refine lv_iconst (v := (nI 1)) hx hb dL_law_91 (by decide) ?_
        refine lv_iadd hx hb dL_law_92 ?_
        refine zt_i (v := (nI (6 * i + 1))) (nI_add _ _) ?_
        refine zs_ald hx hb hX hbl hbA hS (j := 6 * i + 1) (by omega) hL31 dL_law_93 ?_
        refine lv_aload_n hx hb dL_law_94 rfl (lv_at hl 1 rfl) ?_
        refine lv_iload_n hx hb dL_law_95 rfl (lv_at hl 0 rfl) ?_
        refine lv_iconst (v := (nI 2)) hx hb dL_law_96 (by decide) ?_
        refine lv_iadd hx hb dL_law_97 ?_
        refine zt_i (v := (nI (6 * i + 2))) (nI_add _ _) ?_
        refine zs_ald hx hb hX hbl hbA hS (j := 6 * i + 2) (by omega) hL31 dL_law_98 ?_
        refine lv_aload_n hx hb dL_law_99 rfl (lv_at hl 1 rfl) ?_
        refine lv_iload_n hx hb dL_law_100 rfl (lv_at hl 0 rfl) ?_
        refine lv_iconst (v := (nI 3)) hx hb dL_law_101 (by decide) ?_
        refine lv_iadd hx hb dL_law_102 ?_
        refine zt_i (v := (nI (6 * i + 3))) (nI_add _ _) ?_
        refine zs_ald hx hb hX hbl hbA hS (j := 6 * i + 3) (by omega) hL31 dL_law_103 ?_
        refine lv_aload_n hx hb dL_law_104 rfl (lv_at hl 1 rfl) ?_
        refine lv_iload_n hx hb dL_law_105 rfl (lv_at hl 0 rfl) ?_
        refine lv_iconst (v := (nI 4)) hx hb dL_law_106 (by decide) ?_
        refine lv_iadd hx hb dL_law_107 ?_
        refine zt_i (v := (nI (6 * i + 4))) (nI_add _ _) ?_
        refine zs_ald hx hb hX hbl hbA hS (j := 6 * i + 4) (by omega) hL31 dL_law_108 ?_
        refine lv_aload_n hx hb dL_law_109 rfl (lv_at hl 1 rfl) ?_
        refine lv_iload_n hx hb dL_law_110 rfl (lv_at hl 0 rfl) ?_
        refine lv_iconst (v := (nI 5)) hx hb dL_law_111 (by decide) ?_
        refine lv_iadd hx hb dL_law_112 ?_
        refine zt_i (v := (nI (6 * i + 5))) (nI_add _ _) ?_
        refine zs_ald hx hb hX hbl hbA hS (j := 6 * i + 5) (by omega) hL31 dL_law_113 ?_
        refine zc_Vv (As := [.int (xs (6 * i + 1)), .int (xs (6 * i + 2)), .int (xs (6 * i + 3)), .int (xs (6 * i + 4)), .int (xs (6 * i + 5))]) (rest := []) (b := h0) (qr := 0) (ci := 0) 5 (ctX0_lay l dC dI h0 g r cO cB M (xs (6 * i + 1)) (xs (6 * i + 2)) (xs (6 * i + 3)) (xs (6 * i + 4)) (xs (6 * i + 5))) rfl rfl (lw_V q25 q26 q27 q4 q28) (by decide +kernel) ⟨Nat.le_of_ble_eq_true rfl, Nat.le_of_ble_eq_true rfl⟩ ⟨rfl, rfl⟩ hcs hx hb hml hown hts hA hK hP hD hS [0, 1, 2, 3, 4, 5] [0, 1] rfl rfl rfl rfl hl.1 rfl (Nat.le_of_ble_eq_true rfl) dL_law_114 (fun u H locs hu hP1 hk hS => ?_)
        subst hu
        obtain ⟨hP, hD⟩ := LW_x hP hD hk hP1
        refine lv_aload_n hx hb dL_law_117 rfl (lv_at hl 3 rfl) ?_
        refine lv_aload_n hx hb dL_law_118 rfl (lv_at hl 1 rfl) ?_
        refine lv_iload_n hx hb dL_law_119 rfl (lv_at hl 0 rfl) ?_
        refine lv_iconst (v := (nI 1)) hx hb dL_law_120 (by decide) ?_
        refine lv_iadd hx hb dL_law_121 ?_
        refine zt_i (v := (nI (6 * i + 1))) (nI_add _ _) ?_
        refine zs_ald hx hb hX hbl hbA hS (j := 6 * i + 1) (by omega) hL31 dL_law_122 ?_
        refine lv_aload_n hx hb dL_law_123 rfl (lv_at hl 1 rfl) ?_
        refine lv_iload_n hx hb dL_law_124 rfl (lv_at hl 0 rfl) ?_
        refine lv_iconst (v := (nI 2)) hx hb dL_law_125 (by decide) ?_
        refine lv_iadd hx hb dL_law_126 ?_
        refine zt_i (v := (nI (6 * i + 2))) (nI_add _ _) ?_
        refine zs_ald hx hb hX hbl hbA hS (j := 6 * i + 2) (by omega) hL31 dL_law_127 ?_
        refine lv_aload_n hx hb dL_law_128 rfl (lv_at hl 1 rfl) ?_
        refine lv_iload_n hx hb dL_law_129 rfl (lv_at hl 0 rfl) ?_
        refine lv_iconst (v := (nI 3)) hx hb dL_law_130 (by decide) ?_
        refine lv_iadd hx hb dL_law_131 ?_
        refine zt_i (v := (nI (6 * i + 3))) (nI_add _ _) ?_
        refine zs_ald hx hb hX hbl hbA hS (j := 6 * i + 3) (by omega) hL31 dL_law_132 ?_
        refine lv_aload_n hx hb dL_law_133 rfl (lv_at hl 1 rfl) ?_
        refine lv_iload_n hx hb dL_law_134 rfl (lv_at hl 0 rfl) ?_
        refine lv_iconst (v := (nI 4)) hx hb dL_law_135 (by decide) ?_
        refine lv_iadd hx hb dL_law_136 ?_
        refine zt_i (v := (nI (6 * i + 4))) (nI_add _ _) ?_
        refine zs_ald hx hb hX hbl hbA hS (j := 6 * i + 4) (by omega) hL31 dL_law_137 ?_
        refine lv_aload_n hx hb dL_law_138 rfl (lv_at hl 1 rfl) ?_
        refine lv_iload_n hx hb dL_law_139 rfl (lv_at hl 0 rfl) ?_
        refine lv_iconst (v := (nI 5)) hx hb dL_law_140 (by decide) ?_
        refine lv_iadd hx hb dL_law_141 ?_
        refine zt_i (v := (nI (6 * i + 5))) (nI_add _ _) ?_
        refine zs_ald hx hb hX hbl hbA hS (j := 6 * i + 5) (by omega) hL31 dL_law_142 ?_
        refine zc_Vv (As := [.int (xs (6 * i + 1)), .int (xs (6 * i + 2)), .int (xs (6 * i + 3)), .int (xs (6 * i + 4)), .int (xs (6 * i + 5))]) (rest := []) (b := h) (qr := 1) (ci := 1) 5 (ctX1_lay l dC dI h z cZ B (xs (6 * i + 1)) (xs (6 * i + 2)) (xs (6 * i + 3)) (xs (6 * i + 4)) (xs (6 * i + 5))) rfl rfl (lw_V q134 q135 q136 q5 q137) (by decide +kernel) ⟨Nat.le_of_ble_eq_true rfl, Nat.le_of_ble_eq_true rfl⟩ ⟨rfl, rfl⟩ hcs hx hb hml hown hts hA hK hP hD hS [6, 7] [2] rfl rfl rfl rfl hl.1 rfl (Nat.le_of_ble_eq_true rfl) dL_law_143 (fun u H locs hu hP1 hk hS => ?_)
        subst hu
        obtain ⟨hP, hD⟩ := LW_m hP hD hk hP1
        refine lv_goto (tgt := 512) hx hb dL_law_146 (by decide) ?_
        exact next _ _ _ _ ls (rel_lay hR (ix_lt _)) hP hD hS hl
      · refine lv_tableIn (off := 116) (tgt := 149) hx hb dL_law_33 (by decide +kernel) (by decide +kernel) (by decide +kernel) (by decide) ?_
        refine lv_aload_n hx hb dL_law_149 rfl (lv_at hl 2 rfl) ?_
        refine lv_aload_n hx hb dL_law_150 rfl (lv_at hl 1 rfl) ?_
        refine lv_iload_n hx hb dL_law_151 rfl (lv_at hl 0 rfl) ?_
        refine lv_iconst (v := (nI 1)) hx hb dL_law_152 (by decide) ?_
        refine lv_iadd hx hb dL_law_153 ?_
        refine zt_i (v := (nI (6 * i + 1))) (nI_add _ _) ?_
        refine zs_ald hx hb hX hbl hbA hS (j := 6 * i + 1) (by omega) hL31 dL_law_154 ?_
        refine lv_aload_n hx hb dL_law_155 rfl (lv_at hl 1 rfl) ?_
        refine lv_iload_n hx hb dL_law_156 rfl (lv_at hl 0 rfl) ?_
        refine lv_iconst (v := (nI 2)) hx hb dL_law_157 (by decide) ?_
        refine lv_iadd hx hb dL_law_158 ?_
        refine zt_i (v := (nI (6 * i + 2))) (nI_add _ _) ?_
        refine zs_ald hx hb hX hbl hbA hS (j := 6 * i + 2) (by omega) hL31 dL_law_159 ?_
        refine zc_Vv (As := [.int (xs (6 * i + 1)), .int (xs (6 * i + 2))]) (rest := []) (b := h0) (qr := 0) (ci := 0) 2 (ctX0_add l dC dI h0 g r cO cB M (xs (6 * i + 1)) (xs (6 * i + 2))) rfl rfl (lw_V q33 q34 q35 q4 q36) (by decide +kernel) ⟨Nat.le_of_ble_eq_true rfl, Nat.le_of_ble_eq_true rfl⟩ ⟨rfl, rfl⟩ hcs hx hb hml hown hts hA hK hP hD hS [0, 1, 2, 3, 4, 5] [0, 1] rfl rfl rfl rfl hl.1 rfl (Nat.le_of_ble_eq_true rfl) dL_law_160 (fun u H locs hu hP1 hk hS => ?_)
        subst hu
        obtain ⟨hP, hD⟩ := LW_x hP hD hk hP1
        refine lv_aload_n hx hb dL_law_163 rfl (lv_at hl 3 rfl) ?_
        refine lv_aload_n hx hb dL_law_164 rfl (lv_at hl 1 rfl) ?_
        refine lv_iload_n hx hb dL_law_165 rfl (lv_at hl 0 rfl) ?_
        refine lv_iconst (v := (nI 1)) hx hb dL_law_166 (by decide) ?_
        refine lv_iadd hx hb dL_law_167 ?_
        refine zt_i (v := (nI (6 * i + 1))) (nI_add _ _) ?_
        refine zs_ald hx hb hX hbl hbA hS (j := 6 * i + 1) (by omega) hL31 dL_law_168 ?_
        refine lv_aload_n hx hb dL_law_169 rfl (lv_at hl 1 rfl) ?_
        refine lv_iload_n hx hb dL_law_170 rfl (lv_at hl 0 rfl) ?_
        refine lv_iconst (v := (nI 2)) hx hb dL_law_171 (by decide) ?_
        refine lv_iadd hx hb dL_law_172 ?_
        refine zt_i (v := (nI (6 * i + 2))) (nI_add _ _) ?_
        refine zs_ald hx hb hX hbl hbA hS (j := 6 * i + 2) (by omega) hL31 dL_law_173 ?_
        refine zc_Vv (As := [.int (xs (6 * i + 1)), .int (xs (6 * i + 2))]) (rest := []) (b := h) (qr := 1) (ci := 1) 2 (ctX1_add l dC dI h z cZ B (xs (6 * i + 1)) (xs (6 * i + 2))) rfl rfl (lw_V q143 q144 q145 q5 q146) (by decide +kernel) ⟨Nat.le_of_ble_eq_true rfl, Nat.le_of_ble_eq_true rfl⟩ ⟨rfl, rfl⟩ hcs hx hb hml hown hts hA hK hP hD hS [6, 7] [2] rfl rfl rfl rfl hl.1 rfl (Nat.le_of_ble_eq_true rfl) dL_law_174 (fun u H locs hu hP1 hk hS => ?_)
        subst hu
        obtain ⟨hP, hD⟩ := LW_m hP hD hk hP1
        refine lv_goto (tgt := 512) hx hb dL_law_177 (by decide) ?_
        exact next _ _ _ _ ls (rel_add hR (ix_lt _) (ix_lt _)) hP hD hS hl
      · refine lv_tableIn (off := 147) (tgt := 180) hx hb dL_law_33 (by decide +kernel) (by decide +kernel) (by decide +kernel) (by decide) ?_
        refine lv_aload_n hx hb dL_law_180 rfl (lv_at hl 2 rfl) ?_
        refine lv_aload_n hx hb dL_law_181 rfl (lv_at hl 1 rfl) ?_
        refine lv_iload_n hx hb dL_law_182 rfl (lv_at hl 0 rfl) ?_
        refine lv_iconst (v := (nI 1)) hx hb dL_law_183 (by decide) ?_
        refine lv_iadd hx hb dL_law_184 ?_
        refine zt_i (v := (nI (6 * i + 1))) (nI_add _ _) ?_
        refine zs_ald hx hb hX hbl hbA hS (j := 6 * i + 1) (by omega) hL31 dL_law_185 ?_
        refine lv_aload_n hx hb dL_law_186 rfl (lv_at hl 1 rfl) ?_
        refine lv_iload_n hx hb dL_law_187 rfl (lv_at hl 0 rfl) ?_
        refine lv_iconst (v := (nI 2)) hx hb dL_law_188 (by decide) ?_
        refine lv_iadd hx hb dL_law_189 ?_
        refine zt_i (v := (nI (6 * i + 2))) (nI_add _ _) ?_
        refine zs_ald hx hb hX hbl hbA hS (j := 6 * i + 2) (by omega) hL31 dL_law_190 ?_
        refine lv_aload_n hx hb dL_law_191 rfl (lv_at hl 1 rfl) ?_
        refine lv_iload_n hx hb dL_law_192 rfl (lv_at hl 0 rfl) ?_
        refine lv_iconst (v := (nI 3)) hx hb dL_law_193 (by decide) ?_
        refine lv_iadd hx hb dL_law_194 ?_
        refine zt_i (v := (nI (6 * i + 3))) (nI_add _ _) ?_
        refine zs_ald hx hb hX hbl hbA hS (j := 6 * i + 3) (by omega) hL31 dL_law_195 ?_
        refine zc_Vv (As := [.int (xs (6 * i + 1)), .int (xs (6 * i + 2)), .int (xs (6 * i + 3))]) (rest := []) (b := h0) (qr := 0) (ci := 0) 3 (ctX0_addIf l dC dI h0 g r cO cB M (xs (6 * i + 1)) (xs (6 * i + 2)) (xs (6 * i + 3))) rfl rfl (lw_V q40 q41 q42 q4 q43) (by decide +kernel) ⟨Nat.le_of_ble_eq_true rfl, Nat.le_of_ble_eq_true rfl⟩ ⟨rfl, rfl⟩ hcs hx hb hml hown hts hA hK hP hD hS [0, 1, 2, 3, 4, 5] [0, 1] rfl rfl rfl rfl hl.1 rfl (Nat.le_of_ble_eq_true rfl) dL_law_196 (fun u H locs hu hP1 hk hS => ?_)
        subst hu
        obtain ⟨hP, hD⟩ := LW_x hP hD hk hP1
        refine lv_aload_n hx hb dL_law_199 rfl (lv_at hl 3 rfl) ?_
        refine lv_aload_n hx hb dL_law_200 rfl (lv_at hl 1 rfl) ?_
        refine lv_iload_n hx hb dL_law_201 rfl (lv_at hl 0 rfl) ?_
        refine lv_iconst (v := (nI 1)) hx hb dL_law_202 (by decide) ?_
        refine lv_iadd hx hb dL_law_203 ?_
        refine zt_i (v := (nI (6 * i + 1))) (nI_add _ _) ?_
        refine zs_ald hx hb hX hbl hbA hS (j := 6 * i + 1) (by omega) hL31 dL_law_204 ?_
        refine lv_aload_n hx hb dL_law_205 rfl (lv_at hl 1 rfl) ?_
        refine lv_iload_n hx hb dL_law_206 rfl (lv_at hl 0 rfl) ?_
        refine lv_iconst (v := (nI 2)) hx hb dL_law_207 (by decide) ?_
        refine lv_iadd hx hb dL_law_208 ?_
        refine zt_i (v := (nI (6 * i + 2))) (nI_add _ _) ?_
        refine zs_ald hx hb hX hbl hbA hS (j := 6 * i + 2) (by omega) hL31 dL_law_209 ?_
        refine lv_aload_n hx hb dL_law_210 rfl (lv_at hl 1 rfl) ?_
        refine lv_iload_n hx hb dL_law_211 rfl (lv_at hl 0 rfl) ?_
        refine lv_iconst (v := (nI 3)) hx hb dL_law_212 (by decide) ?_
        refine lv_iadd hx hb dL_law_213 ?_
        refine zt_i (v := (nI (6 * i + 3))) (nI_add _ _) ?_
        refine zs_ald hx hb hX hbl hbA hS (j := 6 * i + 3) (by omega) hL31 dL_law_214 ?_
        refine zc_Vv (As := [.int (xs (6 * i + 1)), .int (xs (6 * i + 2)), .int (xs (6 * i + 3))]) (rest := []) (b := h) (qr := 1) (ci := 1) 3 (ctX1_addIf l dC dI h z cZ B (xs (6 * i + 1)) (xs (6 * i + 2)) (xs (6 * i + 3))) rfl rfl (lw_V q165 q148 q149 q5 q150) (by decide +kernel) ⟨Nat.le_of_ble_eq_true rfl, Nat.le_of_ble_eq_true rfl⟩ ⟨rfl, rfl⟩ hcs hx hb hml hown hts hA hK hP hD hS [6, 7] [2] rfl rfl rfl rfl hl.1 rfl (Nat.le_of_ble_eq_true rfl) dL_law_215 (fun u H locs hu hP1 hk hS => ?_)
        subst hu
        obtain ⟨hP, hD⟩ := LW_m hP hD hk hP1
        refine lv_goto (tgt := 512) hx hb dL_law_218 (by decide) ?_
        exact next _ _ _ _ ls (rel_addIf hR (ix_lt _) (ix_lt _)) hP hD hS hl
      · refine lv_tableIn (off := 188) (tgt := 221) hx hb dL_law_33 (by decide +kernel) (by decide +kernel) (by decide +kernel) (by decide) ?_
        refine lv_aload_n hx hb dL_law_221 rfl (lv_at hl 2 rfl) ?_
        refine lv_aload_n hx hb dL_law_222 rfl (lv_at hl 1 rfl) ?_
        refine lv_iload_n hx hb dL_law_223 rfl (lv_at hl 0 rfl) ?_
        refine lv_iconst (v := (nI 1)) hx hb dL_law_224 (by decide) ?_
        refine lv_iadd hx hb dL_law_225 ?_
        refine zt_i (v := (nI (6 * i + 1))) (nI_add _ _) ?_
        refine zs_ald hx hb hX hbl hbA hS (j := 6 * i + 1) (by omega) hL31 dL_law_226 ?_
        refine lv_aload_n hx hb dL_law_227 rfl (lv_at hl 1 rfl) ?_
        refine lv_iload_n hx hb dL_law_228 rfl (lv_at hl 0 rfl) ?_
        refine lv_iconst (v := (nI 2)) hx hb dL_law_229 (by decide) ?_
        refine lv_iadd hx hb dL_law_230 ?_
        refine zt_i (v := (nI (6 * i + 2))) (nI_add _ _) ?_
        refine zs_ald hx hb hX hbl hbA hS (j := 6 * i + 2) (by omega) hL31 dL_law_231 ?_
        refine lv_aload_n hx hb dL_law_232 rfl (lv_at hl 1 rfl) ?_
        refine lv_iload_n hx hb dL_law_233 rfl (lv_at hl 0 rfl) ?_
        refine lv_iconst (v := (nI 3)) hx hb dL_law_234 (by decide) ?_
        refine lv_iadd hx hb dL_law_235 ?_
        refine zt_i (v := (nI (6 * i + 3))) (nI_add _ _) ?_
        refine zs_ald hx hb hX hbl hbA hS (j := 6 * i + 3) (by omega) hL31 dL_law_236 ?_
        refine zc_Vv (As := [.int (xs (6 * i + 1)), .int (xs (6 * i + 2)), .int (xs (6 * i + 3))]) (rest := []) (b := h0) (qr := 0) (ci := 0) 3 (ctX0_times l dC dI h0 g r cO cB M hR.1 (xs (6 * i + 1)) (xs (6 * i + 2)) (xs (6 * i + 3))) rfl rfl (lw_V q47 q48 q49 q4 q50) (by decide +kernel) ⟨Nat.le_of_ble_eq_true rfl, Nat.le_of_ble_eq_true rfl⟩ ⟨rfl, rfl⟩ hcs hx hb hml hown hts hA hK hP hD hS [0, 1, 2, 3, 4, 5] [0, 1] rfl rfl rfl rfl hl.1 rfl (Nat.le_of_ble_eq_true rfl) dL_law_237 (fun u H locs hu hP1 hk hS => ?_)
        subst hu
        obtain ⟨hP, hD⟩ := LW_x hP hD hk hP1
        refine lv_aload_n hx hb dL_law_240 rfl (lv_at hl 3 rfl) ?_
        refine lv_aload_n hx hb dL_law_241 rfl (lv_at hl 1 rfl) ?_
        refine lv_iload_n hx hb dL_law_242 rfl (lv_at hl 0 rfl) ?_
        refine lv_iconst (v := (nI 1)) hx hb dL_law_243 (by decide) ?_
        refine lv_iadd hx hb dL_law_244 ?_
        refine zt_i (v := (nI (6 * i + 1))) (nI_add _ _) ?_
        refine zs_ald hx hb hX hbl hbA hS (j := 6 * i + 1) (by omega) hL31 dL_law_245 ?_
        refine lv_aload_n hx hb dL_law_246 rfl (lv_at hl 1 rfl) ?_
        refine lv_iload_n hx hb dL_law_247 rfl (lv_at hl 0 rfl) ?_
        refine lv_iconst (v := (nI 2)) hx hb dL_law_248 (by decide) ?_
        refine lv_iadd hx hb dL_law_249 ?_
        refine zt_i (v := (nI (6 * i + 2))) (nI_add _ _) ?_
        refine zs_ald hx hb hX hbl hbA hS (j := 6 * i + 2) (by omega) hL31 dL_law_250 ?_
        refine lv_aload_n hx hb dL_law_251 rfl (lv_at hl 1 rfl) ?_
        refine lv_iload_n hx hb dL_law_252 rfl (lv_at hl 0 rfl) ?_
        refine lv_iconst (v := (nI 3)) hx hb dL_law_253 (by decide) ?_
        refine lv_iadd hx hb dL_law_254 ?_
        refine zt_i (v := (nI (6 * i + 3))) (nI_add _ _) ?_
        refine zs_ald hx hb hX hbl hbA hS (j := 6 * i + 3) (by omega) hL31 dL_law_255 ?_
        refine zc_Vv (As := [.int (xs (6 * i + 1)), .int (xs (6 * i + 2)), .int (xs (6 * i + 3))]) (rest := []) (b := h) (qr := 1) (ci := 1) 3 (ctX1_times l dC dI h z cZ B (xs (6 * i + 1)) (xs (6 * i + 2)) (xs (6 * i + 3))) rfl rfl (lw_V q166 q167 q168 q5 q169) (by decide +kernel) ⟨Nat.le_of_ble_eq_true rfl, Nat.le_of_ble_eq_true rfl⟩ ⟨rfl, rfl⟩ hcs hx hb hml hown hts hA hK hP hD hS [6, 7] [2] rfl rfl rfl rfl hl.1 rfl (Nat.le_of_ble_eq_true rfl) dL_law_256 (fun u H locs hu hP1 hk hS => ?_)
        subst hu
        obtain ⟨hP, hD⟩ := LW_m hP hD hk hP1
        refine lv_goto (tgt := 512) hx hb dL_law_259 (by decide) ?_
        exact next _ _ _ _ ls (rel_times hR (ix_lt _) (ix_lt _)) hP hD hS hl
      · refine lv_tableIn (off := 229) (tgt := 262) hx hb dL_law_33 (by decide +kernel) (by decide +kernel) (by decide +kernel) (by decide) ?_
        refine lv_aload_n hx hb dL_law_262 rfl (lv_at hl 2 rfl) ?_
        refine lv_aload_n hx hb dL_law_263 rfl (lv_at hl 1 rfl) ?_
        refine lv_iload_n hx hb dL_law_264 rfl (lv_at hl 0 rfl) ?_
        refine lv_iconst (v := (nI 1)) hx hb dL_law_265 (by decide) ?_
        refine lv_iadd hx hb dL_law_266 ?_
        refine zt_i (v := (nI (6 * i + 1))) (nI_add _ _) ?_
        refine zs_ald hx hb hX hbl hbA hS (j := 6 * i + 1) (by omega) hL31 dL_law_267 ?_
        refine lv_aload_n hx hb dL_law_268 rfl (lv_at hl 1 rfl) ?_
        refine lv_iload_n hx hb dL_law_269 rfl (lv_at hl 0 rfl) ?_
        refine lv_iconst (v := (nI 2)) hx hb dL_law_270 (by decide) ?_
        refine lv_iadd hx hb dL_law_271 ?_
        refine zt_i (v := (nI (6 * i + 2))) (nI_add _ _) ?_
        refine zs_ald hx hb hX hbl hbA hS (j := 6 * i + 2) (by omega) hL31 dL_law_272 ?_
        refine lv_aload_n hx hb dL_law_273 rfl (lv_at hl 1 rfl) ?_
        refine lv_iload_n hx hb dL_law_274 rfl (lv_at hl 0 rfl) ?_
        refine lv_iconst (v := (nI 3)) hx hb dL_law_275 (by decide) ?_
        refine lv_iadd hx hb dL_law_276 ?_
        refine zt_i (v := (nI (6 * i + 3))) (nI_add _ _) ?_
        refine zs_ald hx hb hX hbl hbA hS (j := 6 * i + 3) (by omega) hL31 dL_law_277 ?_
        refine zc_Vv (As := [.int (xs (6 * i + 1)), .int (xs (6 * i + 2)), .int (xs (6 * i + 3))]) (rest := []) (b := h0) (qr := 0) (ci := 0) 3 (ctX0_timesN l dC dI h0 g r cO cB M hR.1 (xs (6 * i + 1)) (xs (6 * i + 2)) (xs (6 * i + 3))) rfl rfl (lw_V q76 q77 q78 q4 q79) (by decide +kernel) ⟨Nat.le_of_ble_eq_true rfl, Nat.le_of_ble_eq_true rfl⟩ ⟨rfl, rfl⟩ hcs hx hb hml hown hts hA hK hP hD hS [0, 1, 2, 3, 4, 5] [0, 1] rfl rfl rfl rfl hl.1 rfl (Nat.le_of_ble_eq_true rfl) dL_law_278 (fun u H locs hu hP1 hk hS => ?_)
        subst hu
        obtain ⟨hP, hD⟩ := LW_x hP hD hk hP1
        refine lv_aload_n hx hb dL_law_281 rfl (lv_at hl 3 rfl) ?_
        refine lv_aload_n hx hb dL_law_282 rfl (lv_at hl 1 rfl) ?_
        refine lv_iload_n hx hb dL_law_283 rfl (lv_at hl 0 rfl) ?_
        refine lv_iconst (v := (nI 1)) hx hb dL_law_284 (by decide) ?_
        refine lv_iadd hx hb dL_law_285 ?_
        refine zt_i (v := (nI (6 * i + 1))) (nI_add _ _) ?_
        refine zs_ald hx hb hX hbl hbA hS (j := 6 * i + 1) (by omega) hL31 dL_law_286 ?_
        refine lv_aload_n hx hb dL_law_287 rfl (lv_at hl 1 rfl) ?_
        refine lv_iload_n hx hb dL_law_288 rfl (lv_at hl 0 rfl) ?_
        refine lv_iconst (v := (nI 2)) hx hb dL_law_289 (by decide) ?_
        refine lv_iadd hx hb dL_law_290 ?_
        refine zt_i (v := (nI (6 * i + 2))) (nI_add _ _) ?_
        refine zs_ald hx hb hX hbl hbA hS (j := 6 * i + 2) (by omega) hL31 dL_law_291 ?_
        refine lv_aload_n hx hb dL_law_292 rfl (lv_at hl 1 rfl) ?_
        refine lv_iload_n hx hb dL_law_293 rfl (lv_at hl 0 rfl) ?_
        refine lv_iconst (v := (nI 3)) hx hb dL_law_294 (by decide) ?_
        refine lv_iadd hx hb dL_law_295 ?_
        refine zt_i (v := (nI (6 * i + 3))) (nI_add _ _) ?_
        refine zs_ald hx hb hX hbl hbA hS (j := 6 * i + 3) (by omega) hL31 dL_law_296 ?_
        refine zc_Vv (As := [.int (xs (6 * i + 1)), .int (xs (6 * i + 2)), .int (xs (6 * i + 3))]) (rest := []) (b := h) (qr := 1) (ci := 1) 3 (ctX1_timesN l dC dI h z cZ B (xs (6 * i + 1)) (xs (6 * i + 2)) (xs (6 * i + 3))) rfl rfl (lw_V q170 q171 q172 q5 q173) (by decide +kernel) ⟨Nat.le_of_ble_eq_true rfl, Nat.le_of_ble_eq_true rfl⟩ ⟨rfl, rfl⟩ hcs hx hb hml hown hts hA hK hP hD hS [6, 7] [2] rfl rfl rfl rfl hl.1 rfl (Nat.le_of_ble_eq_true rfl) dL_law_297 (fun u H locs hu hP1 hk hS => ?_)
        subst hu
        obtain ⟨hP, hD⟩ := LW_m hP hD hk hP1
        refine lv_goto (tgt := 512) hx hb dL_law_300 (by decide) ?_
        exact next _ _ _ _ ls (rel_timesN hR (ix_lt _) (Nat.mod_lt _ (by decide)) (ix_lt _)) hP hD hS hl
      · refine lv_tableIn (off := 270) (tgt := 303) hx hb dL_law_33 (by decide +kernel) (by decide +kernel) (by decide +kernel) (by decide) ?_
        refine lv_aload_n hx hb dL_law_303 rfl (lv_at hl 2 rfl) ?_
        refine lv_aload_n hx hb dL_law_304 rfl (lv_at hl 1 rfl) ?_
        refine lv_iload_n hx hb dL_law_305 rfl (lv_at hl 0 rfl) ?_
        refine lv_iconst (v := (nI 1)) hx hb dL_law_306 (by decide) ?_
        refine lv_iadd hx hb dL_law_307 ?_
        refine zt_i (v := (nI (6 * i + 1))) (nI_add _ _) ?_
        refine zs_ald hx hb hX hbl hbA hS (j := 6 * i + 1) (by omega) hL31 dL_law_308 ?_
        refine lv_aload_n hx hb dL_law_309 rfl (lv_at hl 1 rfl) ?_
        refine lv_iload_n hx hb dL_law_310 rfl (lv_at hl 0 rfl) ?_
        refine lv_iconst (v := (nI 2)) hx hb dL_law_311 (by decide) ?_
        refine lv_iadd hx hb dL_law_312 ?_
        refine zt_i (v := (nI (6 * i + 2))) (nI_add _ _) ?_
        refine zs_ald hx hb hX hbl hbA hS (j := 6 * i + 2) (by omega) hL31 dL_law_313 ?_
        refine lv_aload_n hx hb dL_law_314 rfl (lv_at hl 1 rfl) ?_
        refine lv_iload_n hx hb dL_law_315 rfl (lv_at hl 0 rfl) ?_
        refine lv_iconst (v := (nI 3)) hx hb dL_law_316 (by decide) ?_
        refine lv_iadd hx hb dL_law_317 ?_
        refine zt_i (v := (nI (6 * i + 3))) (nI_add _ _) ?_
        refine zs_ald hx hb hX hbl hbA hS (j := 6 * i + 3) (by omega) hL31 dL_law_318 ?_
        refine lv_aload_n hx hb dL_law_319 rfl (lv_at hl 1 rfl) ?_
        refine lv_iload_n hx hb dL_law_320 rfl (lv_at hl 0 rfl) ?_
        refine lv_iconst (v := (nI 4)) hx hb dL_law_321 (by decide) ?_
        refine lv_iadd hx hb dL_law_322 ?_
        refine zt_i (v := (nI (6 * i + 4))) (nI_add _ _) ?_
        refine zs_ald hx hb hX hbl hbA hS (j := 6 * i + 4) (by omega) hL31 dL_law_323 ?_
        refine zc_Vv (As := [.int (xs (6 * i + 1)), .int (xs (6 * i + 2)), .int (xs (6 * i + 3)), .int (xs (6 * i + 4))]) (rest := []) (b := h0) (qr := 0) (ci := 0) 4 (ctX0_more l dC dI h0 g r cO cB M hR.1 (xs (6 * i + 1)) (xs (6 * i + 2)) (xs (6 * i + 3)) (xs (6 * i + 4))) rfl rfl (lw_V q86 q87 q88 q4 q89) (by decide +kernel) ⟨Nat.le_of_ble_eq_true rfl, Nat.le_of_ble_eq_true rfl⟩ ⟨rfl, rfl⟩ hcs hx hb hml hown hts hA hK hP hD hS [0, 1, 2, 3, 4, 5] [0, 1] rfl rfl rfl rfl hl.1 rfl (Nat.le_of_ble_eq_true rfl) dL_law_324 (fun u H locs hu hP1 hk hS => ?_)
        subst hu
        obtain ⟨hP, hD⟩ := LW_x hP hD hk hP1
        refine lv_aload_n hx hb dL_law_327 rfl (lv_at hl 3 rfl) ?_
        refine lv_aload_n hx hb dL_law_328 rfl (lv_at hl 1 rfl) ?_
        refine lv_iload_n hx hb dL_law_329 rfl (lv_at hl 0 rfl) ?_
        refine lv_iconst (v := (nI 1)) hx hb dL_law_330 (by decide) ?_
        refine lv_iadd hx hb dL_law_331 ?_
        refine zt_i (v := (nI (6 * i + 1))) (nI_add _ _) ?_
        refine zs_ald hx hb hX hbl hbA hS (j := 6 * i + 1) (by omega) hL31 dL_law_332 ?_
        refine lv_aload_n hx hb dL_law_333 rfl (lv_at hl 1 rfl) ?_
        refine lv_iload_n hx hb dL_law_334 rfl (lv_at hl 0 rfl) ?_
        refine lv_iconst (v := (nI 2)) hx hb dL_law_335 (by decide) ?_
        refine lv_iadd hx hb dL_law_336 ?_
        refine zt_i (v := (nI (6 * i + 2))) (nI_add _ _) ?_
        refine zs_ald hx hb hX hbl hbA hS (j := 6 * i + 2) (by omega) hL31 dL_law_337 ?_
        refine lv_aload_n hx hb dL_law_338 rfl (lv_at hl 1 rfl) ?_
        refine lv_iload_n hx hb dL_law_339 rfl (lv_at hl 0 rfl) ?_
        refine lv_iconst (v := (nI 3)) hx hb dL_law_340 (by decide) ?_
        refine lv_iadd hx hb dL_law_341 ?_
        refine zt_i (v := (nI (6 * i + 3))) (nI_add _ _) ?_
        refine zs_ald hx hb hX hbl hbA hS (j := 6 * i + 3) (by omega) hL31 dL_law_342 ?_
        refine lv_aload_n hx hb dL_law_343 rfl (lv_at hl 1 rfl) ?_
        refine lv_iload_n hx hb dL_law_344 rfl (lv_at hl 0 rfl) ?_
        refine lv_iconst (v := (nI 4)) hx hb dL_law_345 (by decide) ?_
        refine lv_iadd hx hb dL_law_346 ?_
        refine zt_i (v := (nI (6 * i + 4))) (nI_add _ _) ?_
        refine zs_ald hx hb hX hbl hbA hS (j := 6 * i + 4) (by omega) hL31 dL_law_347 ?_
        refine zc_Vv (As := [.int (xs (6 * i + 1)), .int (xs (6 * i + 2)), .int (xs (6 * i + 3)), .int (xs (6 * i + 4))]) (rest := []) (b := h) (qr := 1) (ci := 1) 4 (ctX1_more l dC dI h z cZ B (xs (6 * i + 1)) (xs (6 * i + 2)) (xs (6 * i + 3)) (xs (6 * i + 4))) rfl rfl (lw_V q174 q175 q176 q5 q177) (by decide +kernel) ⟨Nat.le_of_ble_eq_true rfl, Nat.le_of_ble_eq_true rfl⟩ ⟨rfl, rfl⟩ hcs hx hb hml hown hts hA hK hP hD hS [6, 7] [2] rfl rfl rfl rfl hl.1 rfl (Nat.le_of_ble_eq_true rfl) dL_law_348 (fun u H locs hu hP1 hk hS => ?_)
        subst hu
        obtain ⟨hP, hD⟩ := LW_m hP hD hk hP1
        refine lv_goto (tgt := 512) hx hb dL_law_351 (by decide) ?_
        exact next _ _ _ _ ls (rel_more hR (ix_lt _) (ix_lt _) (ix_lt _)) hP hD hS hl
      · refine lv_tableIn (off := 321) (tgt := 354) hx hb dL_law_33 (by decide +kernel) (by decide +kernel) (by decide +kernel) (by decide) ?_
        refine lv_aload_n hx hb dL_law_354 rfl (lv_at hl 2 rfl) ?_
        refine lv_aload_n hx hb dL_law_355 rfl (lv_at hl 1 rfl) ?_
        refine lv_iload_n hx hb dL_law_356 rfl (lv_at hl 0 rfl) ?_
        refine lv_iconst (v := (nI 1)) hx hb dL_law_357 (by decide) ?_
        refine lv_iadd hx hb dL_law_358 ?_
        refine zt_i (v := (nI (6 * i + 1))) (nI_add _ _) ?_
        refine zs_ald hx hb hX hbl hbA hS (j := 6 * i + 1) (by omega) hL31 dL_law_359 ?_
        refine lv_aload_n hx hb dL_law_360 rfl (lv_at hl 1 rfl) ?_
        refine lv_iload_n hx hb dL_law_361 rfl (lv_at hl 0 rfl) ?_
        refine lv_iconst (v := (nI 2)) hx hb dL_law_362 (by decide) ?_
        refine lv_iadd hx hb dL_law_363 ?_
        refine zt_i (v := (nI (6 * i + 2))) (nI_add _ _) ?_
        refine zs_ald hx hb hX hbl hbA hS (j := 6 * i + 2) (by omega) hL31 dL_law_364 ?_
        refine lv_aload_n hx hb dL_law_365 rfl (lv_at hl 1 rfl) ?_
        refine lv_iload_n hx hb dL_law_366 rfl (lv_at hl 0 rfl) ?_
        refine lv_iconst (v := (nI 3)) hx hb dL_law_367 (by decide) ?_
        refine lv_iadd hx hb dL_law_368 ?_
        refine zt_i (v := (nI (6 * i + 3))) (nI_add _ _) ?_
        refine zs_ald hx hb hX hbl hbA hS (j := 6 * i + 3) (by omega) hL31 dL_law_369 ?_
        refine lv_aload_n hx hb dL_law_370 rfl (lv_at hl 1 rfl) ?_
        refine lv_iload_n hx hb dL_law_371 rfl (lv_at hl 0 rfl) ?_
        refine lv_iconst (v := (nI 4)) hx hb dL_law_372 (by decide) ?_
        refine lv_iadd hx hb dL_law_373 ?_
        refine zt_i (v := (nI (6 * i + 4))) (nI_add _ _) ?_
        refine zs_ald hx hb hX hbl hbA hS (j := 6 * i + 4) (by omega) hL31 dL_law_374 ?_
        refine zc_Vv (As := [.int (xs (6 * i + 1)), .int (xs (6 * i + 2)), .int (xs (6 * i + 3)), .int (xs (6 * i + 4))]) (rest := []) (b := h0) (qr := 0) (ci := 0) 4 (ctX0_moreN l dC dI h0 g r cO cB M hR.1 (xs (6 * i + 1)) (xs (6 * i + 2)) (xs (6 * i + 3)) (xs (6 * i + 4))) rfl rfl (lw_V q93 q94 q95 q4 q96) (by decide +kernel) ⟨Nat.le_of_ble_eq_true rfl, Nat.le_of_ble_eq_true rfl⟩ ⟨rfl, rfl⟩ hcs hx hb hml hown hts hA hK hP hD hS [0, 1, 2, 3, 4, 5] [0, 1] rfl rfl rfl rfl hl.1 rfl (Nat.le_of_ble_eq_true rfl) dL_law_375 (fun u H locs hu hP1 hk hS => ?_)
        subst hu
        obtain ⟨hP, hD⟩ := LW_x hP hD hk hP1
        refine lv_aload_n hx hb dL_law_378 rfl (lv_at hl 3 rfl) ?_
        refine lv_aload_n hx hb dL_law_379 rfl (lv_at hl 1 rfl) ?_
        refine lv_iload_n hx hb dL_law_380 rfl (lv_at hl 0 rfl) ?_
        refine lv_iconst (v := (nI 1)) hx hb dL_law_381 (by decide) ?_
        refine lv_iadd hx hb dL_law_382 ?_
        refine zt_i (v := (nI (6 * i + 1))) (nI_add _ _) ?_
        refine zs_ald hx hb hX hbl hbA hS (j := 6 * i + 1) (by omega) hL31 dL_law_383 ?_
        refine lv_aload_n hx hb dL_law_384 rfl (lv_at hl 1 rfl) ?_
        refine lv_iload_n hx hb dL_law_385 rfl (lv_at hl 0 rfl) ?_
        refine lv_iconst (v := (nI 2)) hx hb dL_law_386 (by decide) ?_
        refine lv_iadd hx hb dL_law_387 ?_
        refine zt_i (v := (nI (6 * i + 2))) (nI_add _ _) ?_
        refine zs_ald hx hb hX hbl hbA hS (j := 6 * i + 2) (by omega) hL31 dL_law_388 ?_
        refine lv_aload_n hx hb dL_law_389 rfl (lv_at hl 1 rfl) ?_
        refine lv_iload_n hx hb dL_law_390 rfl (lv_at hl 0 rfl) ?_
        refine lv_iconst (v := (nI 3)) hx hb dL_law_391 (by decide) ?_
        refine lv_iadd hx hb dL_law_392 ?_
        refine zt_i (v := (nI (6 * i + 3))) (nI_add _ _) ?_
        refine zs_ald hx hb hX hbl hbA hS (j := 6 * i + 3) (by omega) hL31 dL_law_393 ?_
        refine lv_aload_n hx hb dL_law_394 rfl (lv_at hl 1 rfl) ?_
        refine lv_iload_n hx hb dL_law_395 rfl (lv_at hl 0 rfl) ?_
        refine lv_iconst (v := (nI 4)) hx hb dL_law_396 (by decide) ?_
        refine lv_iadd hx hb dL_law_397 ?_
        refine zt_i (v := (nI (6 * i + 4))) (nI_add _ _) ?_
        refine zs_ald hx hb hX hbl hbA hS (j := 6 * i + 4) (by omega) hL31 dL_law_398 ?_
        refine zc_Vv (As := [.int (xs (6 * i + 1)), .int (xs (6 * i + 2)), .int (xs (6 * i + 3)), .int (xs (6 * i + 4))]) (rest := []) (b := h) (qr := 1) (ci := 1) 4 (ctX1_moreN l dC dI h z cZ B (xs (6 * i + 1)) (xs (6 * i + 2)) (xs (6 * i + 3)) (xs (6 * i + 4))) rfl rfl (lw_V q178 q179 q180 q5 q181) (by decide +kernel) ⟨Nat.le_of_ble_eq_true rfl, Nat.le_of_ble_eq_true rfl⟩ ⟨rfl, rfl⟩ hcs hx hb hml hown hts hA hK hP hD hS [6, 7] [2] rfl rfl rfl rfl hl.1 rfl (Nat.le_of_ble_eq_true rfl) dL_law_399 (fun u H locs hu hP1 hk hS => ?_)
        subst hu
        obtain ⟨hP, hD⟩ := LW_m hP hD hk hP1
        refine lv_goto (tgt := 512) hx hb dL_law_402 (by decide) ?_
        exact next _ _ _ _ ls (rel_moreN hR (ix_lt _) (ix_lt _) (Nat.mod_lt _ (by decide)) (ix_lt _)) hP hD hS hl
      · refine lv_tableIn (off := 372) (tgt := 405) hx hb dL_law_33 (by decide +kernel) (by decide +kernel) (by decide +kernel) (by decide) ?_
        refine lv_aload_n hx hb dL_law_405 rfl (lv_at hl 2 rfl) ?_
        refine lv_aload_n hx hb dL_law_406 rfl (lv_at hl 1 rfl) ?_
        refine lv_iload_n hx hb dL_law_407 rfl (lv_at hl 0 rfl) ?_
        refine lv_iconst (v := (nI 1)) hx hb dL_law_408 (by decide) ?_
        refine lv_iadd hx hb dL_law_409 ?_
        refine zt_i (v := (nI (6 * i + 1))) (nI_add _ _) ?_
        refine zs_ald hx hb hX hbl hbA hS (j := 6 * i + 1) (by omega) hL31 dL_law_410 ?_
        refine lv_aload_n hx hb dL_law_411 rfl (lv_at hl 1 rfl) ?_
        refine lv_iload_n hx hb dL_law_412 rfl (lv_at hl 0 rfl) ?_
        refine lv_iconst (v := (nI 2)) hx hb dL_law_413 (by decide) ?_
        refine lv_iadd hx hb dL_law_414 ?_
        refine zt_i (v := (nI (6 * i + 2))) (nI_add _ _) ?_
        refine zs_ald hx hb hX hbl hbA hS (j := 6 * i + 2) (by omega) hL31 dL_law_415 ?_
        refine zc_Vi (As := [.int (xs (6 * i + 1)), .int (xs (6 * i + 2))]) (rest := []) (b := h0) (qr := 0) (ci := 0) 2 (ctX0_nibble l dC dI h0 g r cO cB M hR.1 (xs (6 * i + 1)) (xs (6 * i + 2))) rfl rfl (lw_V q105 q106 q107 q4 q108) (by decide +kernel) ⟨Nat.le_of_ble_eq_true rfl, Nat.le_of_ble_eq_true rfl⟩ ⟨rfl, rfl⟩ hcs hx hb hml hown hts hA hK hP hD hS [0, 1, 2, 3, 4, 5] [0, 1] rfl rfl rfl rfl hl.1 rfl (Nat.le_of_ble_eq_true rfl) dL_law_416 (fun v1 H locs hv1 hP hS => ?_)
        subst hv1
        refine lv_aload_n hx hb dL_law_419 rfl (lv_at hl 3 rfl) ?_
        refine lv_aload_n hx hb dL_law_420 rfl (lv_at hl 1 rfl) ?_
        refine lv_iload_n hx hb dL_law_421 rfl (lv_at hl 0 rfl) ?_
        refine lv_iconst (v := (nI 1)) hx hb dL_law_422 (by decide) ?_
        refine lv_iadd hx hb dL_law_423 ?_
        refine zt_i (v := (nI (6 * i + 1))) (nI_add _ _) ?_
        refine zs_ald hx hb hX hbl hbA hS (j := 6 * i + 1) (by omega) hL31 dL_law_424 ?_
        refine lv_aload_n hx hb dL_law_425 rfl (lv_at hl 1 rfl) ?_
        refine lv_iload_n hx hb dL_law_426 rfl (lv_at hl 0 rfl) ?_
        refine lv_iconst (v := (nI 2)) hx hb dL_law_427 (by decide) ?_
        refine lv_iadd hx hb dL_law_428 ?_
        refine zt_i (v := (nI (6 * i + 2))) (nI_add _ _) ?_
        refine zs_ald hx hb hX hbl hbA hS (j := 6 * i + 2) (by omega) hL31 dL_law_429 ?_
        refine zc_Vi (As := [.int (xs (6 * i + 1)), .int (xs (6 * i + 2))]) (rest := [.int (nI (nib (M (ix (xs (6 * i + 1)))) ((xs (6 * i + 2)).toBitVec.toNat % 64)))]) (b := h) (qr := 1) (ci := 1) 2 (ctX1_nibble l dC dI h z cZ B (xs (6 * i + 1)) (xs (6 * i + 2))) rfl rfl (lw_V q182 q183 q184 q5 q185) (by decide +kernel) ⟨Nat.le_of_ble_eq_true rfl, Nat.le_of_ble_eq_true rfl⟩ ⟨rfl, rfl⟩ hcs hx hb hml hown hts hA hK hP hD hS [6, 7] [2] rfl rfl rfl rfl hl.1 rfl (Nat.le_of_ble_eq_true rfl) dL_law_430 (fun v2 H locs hv2 hP hS => ?_)
        subst hv2
        refine lv_icmp_eq (tgt := 512) hx hb dL_law_433 (by decide) (fun c2 => ?_) (fun c2 => ?_)
        · exact next _ _ _ _ ls hR hP hD hS hl
        · have e4 := hR.rd4 (ix_lt (xs (6 * i + 1))) (show (xs (6 * i + 2)).toBitVec.toNat % 64 < 64 from Nat.mod_lt _ (by decide))
          rw [Nat.mul_comm 4] at e4
          exact absurd (congrArg nI e4.symm) c2
      · refine lv_tableIn (off := 405) (tgt := 438) hx hb dL_law_33 (by decide +kernel) (by decide +kernel) (by decide +kernel) (by decide) ?_
        refine lv_aload_n hx hb dL_law_438 rfl (lv_at hl 2 rfl) ?_
        refine lv_aload_n hx hb dL_law_439 rfl (lv_at hl 1 rfl) ?_
        refine lv_iload_n hx hb dL_law_440 rfl (lv_at hl 0 rfl) ?_
        refine lv_iconst (v := (nI 1)) hx hb dL_law_441 (by decide) ?_
        refine lv_iadd hx hb dL_law_442 ?_
        refine zt_i (v := (nI (6 * i + 1))) (nI_add _ _) ?_
        refine zs_ald hx hb hX hbl hbA hS (j := 6 * i + 1) (by omega) hL31 dL_law_443 ?_
        refine lv_aload_n hx hb dL_law_444 rfl (lv_at hl 1 rfl) ?_
        refine lv_iload_n hx hb dL_law_445 rfl (lv_at hl 0 rfl) ?_
        refine lv_iconst (v := (nI 2)) hx hb dL_law_446 (by decide) ?_
        refine lv_iadd hx hb dL_law_447 ?_
        refine zt_i (v := (nI (6 * i + 2))) (nI_add _ _) ?_
        refine zs_ald hx hb hX hbl hbA hS (j := 6 * i + 2) (by omega) hL31 dL_law_448 ?_
        refine lv_aload_n hx hb dL_law_449 rfl (lv_at hl 1 rfl) ?_
        refine lv_iload_n hx hb dL_law_450 rfl (lv_at hl 0 rfl) ?_
        refine lv_iconst (v := (nI 3)) hx hb dL_law_451 (by decide) ?_
        refine lv_iadd hx hb dL_law_452 ?_
        refine zt_i (v := (nI (6 * i + 3))) (nI_add _ _) ?_
        refine zs_ald hx hb hX hbl hbA hS (j := 6 * i + 3) (by omega) hL31 dL_law_453 ?_
        refine zc_Vv (As := [.int (xs (6 * i + 1)), .int (xs (6 * i + 2)), .int (xs (6 * i + 3))]) (rest := []) (b := h0) (qr := 0) (ci := 0) 3 (ctX0_layN l dC dI h0 g r cO cB M hR.1 (xs (6 * i + 1)) (xs (6 * i + 2)) (xs (6 * i + 3))) rfl rfl (lw_V q112 q113 q114 q4 q115) (by decide +kernel) ⟨Nat.le_of_ble_eq_true rfl, Nat.le_of_ble_eq_true rfl⟩ ⟨rfl, rfl⟩ hcs hx hb hml hown hts hA hK hP hD hS [0, 1, 2, 3, 4, 5] [0, 1] rfl rfl rfl rfl hl.1 rfl (Nat.le_of_ble_eq_true rfl) dL_law_454 (fun u H locs hu hP1 hk hS => ?_)
        subst hu
        obtain ⟨hP, hD⟩ := LW_x hP hD hk hP1
        refine lv_aload_n hx hb dL_law_457 rfl (lv_at hl 3 rfl) ?_
        refine lv_aload_n hx hb dL_law_458 rfl (lv_at hl 1 rfl) ?_
        refine lv_iload_n hx hb dL_law_459 rfl (lv_at hl 0 rfl) ?_
        refine lv_iconst (v := (nI 1)) hx hb dL_law_460 (by decide) ?_
        refine lv_iadd hx hb dL_law_461 ?_
        refine zt_i (v := (nI (6 * i + 1))) (nI_add _ _) ?_
        refine zs_ald hx hb hX hbl hbA hS (j := 6 * i + 1) (by omega) hL31 dL_law_462 ?_
        refine lv_aload_n hx hb dL_law_463 rfl (lv_at hl 1 rfl) ?_
        refine lv_iload_n hx hb dL_law_464 rfl (lv_at hl 0 rfl) ?_
        refine lv_iconst (v := (nI 2)) hx hb dL_law_465 (by decide) ?_
        refine lv_iadd hx hb dL_law_466 ?_
        refine zt_i (v := (nI (6 * i + 2))) (nI_add _ _) ?_
        refine zs_ald hx hb hX hbl hbA hS (j := 6 * i + 2) (by omega) hL31 dL_law_467 ?_
        refine lv_aload_n hx hb dL_law_468 rfl (lv_at hl 1 rfl) ?_
        refine lv_iload_n hx hb dL_law_469 rfl (lv_at hl 0 rfl) ?_
        refine lv_iconst (v := (nI 3)) hx hb dL_law_470 (by decide) ?_
        refine lv_iadd hx hb dL_law_471 ?_
        refine zt_i (v := (nI (6 * i + 3))) (nI_add _ _) ?_
        refine zs_ald hx hb hX hbl hbA hS (j := 6 * i + 3) (by omega) hL31 dL_law_472 ?_
        refine zc_Vv (As := [.int (xs (6 * i + 1)), .int (xs (6 * i + 2)), .int (xs (6 * i + 3))]) (rest := []) (b := h) (qr := 1) (ci := 1) 3 (ctX1_layN l dC dI h z cZ B (xs (6 * i + 1)) (xs (6 * i + 2)) (xs (6 * i + 3))) rfl rfl (lw_V q186 q187 q188 q5 q189) (by decide +kernel) ⟨Nat.le_of_ble_eq_true rfl, Nat.le_of_ble_eq_true rfl⟩ ⟨rfl, rfl⟩ hcs hx hb hml hown hts hA hK hP hD hS [6, 7] [2] rfl rfl rfl rfl hl.1 rfl (Nat.le_of_ble_eq_true rfl) dL_law_473 (fun u H locs hu hP1 hk hS => ?_)
        subst hu
        obtain ⟨hP, hD⟩ := LW_m hP hD hk hP1
        refine lv_goto (tgt := 512) hx hb dL_law_476 (by decide) ?_
        exact next _ _ _ _ ls (rel_layN hR (ix_lt _) (Nat.mod_lt _ (by decide)) (Nat.mod_lt _ (by decide))) hP hD hS hl
      · refine lv_tableIn (off := 446) (tgt := 479) hx hb dL_law_33 (by decide +kernel) (by decide +kernel) (by decide +kernel) (by decide) ?_
        refine lv_aload_n hx hb dL_law_479 rfl (lv_at hl 2 rfl) ?_
        refine lv_aload_n hx hb dL_law_480 rfl (lv_at hl 1 rfl) ?_
        refine lv_iload_n hx hb dL_law_481 rfl (lv_at hl 0 rfl) ?_
        refine lv_iconst (v := (nI 1)) hx hb dL_law_482 (by decide) ?_
        refine lv_iadd hx hb dL_law_483 ?_
        refine zt_i (v := (nI (6 * i + 1))) (nI_add _ _) ?_
        refine zs_ald hx hb hX hbl hbA hS (j := 6 * i + 1) (by omega) hL31 dL_law_484 ?_
        refine lv_aload_n hx hb dL_law_485 rfl (lv_at hl 1 rfl) ?_
        refine lv_iload_n hx hb dL_law_486 rfl (lv_at hl 0 rfl) ?_
        refine lv_iconst (v := (nI 2)) hx hb dL_law_487 (by decide) ?_
        refine lv_iadd hx hb dL_law_488 ?_
        refine zt_i (v := (nI (6 * i + 2))) (nI_add _ _) ?_
        refine zs_ald hx hb hX hbl hbA hS (j := 6 * i + 2) (by omega) hL31 dL_law_489 ?_
        refine zc_Vi (As := [.int (xs (6 * i + 1)), .int (xs (6 * i + 2))]) (rest := []) (b := h0) (qr := 0) (ci := 0) 2 (ctX0_get l dC dI h0 g r cO cB M hR.1 (xs (6 * i + 1)) (xs (6 * i + 2))) rfl rfl (lw_V q119 q120 q121 q4 q122) (by decide +kernel) ⟨Nat.le_of_ble_eq_true rfl, Nat.le_of_ble_eq_true rfl⟩ ⟨rfl, rfl⟩ hcs hx hb hml hown hts hA hK hP hD hS [0, 1, 2, 3, 4, 5] [0, 1] rfl rfl rfl rfl hl.1 rfl (Nat.le_of_ble_eq_true rfl) dL_law_490 (fun v1 H locs hv1 hP hS => ?_)
        subst hv1
        refine lv_aload_n hx hb dL_law_493 rfl (lv_at hl 3 rfl) ?_
        refine lv_aload_n hx hb dL_law_494 rfl (lv_at hl 1 rfl) ?_
        refine lv_iload_n hx hb dL_law_495 rfl (lv_at hl 0 rfl) ?_
        refine lv_iconst (v := (nI 1)) hx hb dL_law_496 (by decide) ?_
        refine lv_iadd hx hb dL_law_497 ?_
        refine zt_i (v := (nI (6 * i + 1))) (nI_add _ _) ?_
        refine zs_ald hx hb hX hbl hbA hS (j := 6 * i + 1) (by omega) hL31 dL_law_498 ?_
        refine lv_aload_n hx hb dL_law_499 rfl (lv_at hl 1 rfl) ?_
        refine lv_iload_n hx hb dL_law_500 rfl (lv_at hl 0 rfl) ?_
        refine lv_iconst (v := (nI 2)) hx hb dL_law_501 (by decide) ?_
        refine lv_iadd hx hb dL_law_502 ?_
        refine zt_i (v := (nI (6 * i + 2))) (nI_add _ _) ?_
        refine zs_ald hx hb hX hbl hbA hS (j := 6 * i + 2) (by omega) hL31 dL_law_503 ?_
        refine zc_Vi (As := [.int (xs (6 * i + 1)), .int (xs (6 * i + 2))]) (rest := [.int (nI (M (ix (xs (6 * i + 1))) ((xs (6 * i + 2)).toBitVec.toNat % 32)))]) (b := h) (qr := 1) (ci := 1) 2 (ctX1_get l dC dI h z cZ B (xs (6 * i + 1)) (xs (6 * i + 2))) rfl rfl (lw_V q190 q191 q192 q5 q193) (by decide +kernel) ⟨Nat.le_of_ble_eq_true rfl, Nat.le_of_ble_eq_true rfl⟩ ⟨rfl, rfl⟩ hcs hx hb hml hown hts hA hK hP hD hS [6, 7] [2] rfl rfl rfl rfl hl.1 rfl (Nat.le_of_ble_eq_true rfl) dL_law_504 (fun v2 H locs hv2 hP hS => ?_)
        subst hv2
        refine lv_icmp_eq (tgt := 512) hx hb dL_law_507 (by decide) (fun c2 => ?_) (fun c2 => ?_)
        · exact next _ _ _ _ ls hR hP hD hS hl
        · have e4 := hR.rd8 (ix_lt (xs (6 * i + 1))) (show (xs (6 * i + 2)).toBitVec.toNat % 32 < 32 from Nat.mod_lt _ (by decide))
          rw [Nat.mul_comm 8] at e4
          exact absurd (congrArg nI e4.symm) c2
      · refine lv_tableOut (tgt := 512) hx hb dL_law_33 (Or.inr (by rw [nI_toInt (by omega)]; omega)) (by decide) ?_
        exact next M B H locs ls hR hP hD hS hl
end
section
/-! ===== the law from its entry; the claim ===== -/
set_option maxHeartbeats 4000000 in
set_option maxRecDepth 100000 in
/-- THE LAW, from its entry -/
theorem whole_start {p : Program} {e : Env} {s : State} {m : MethodId} {below : List Frame} {meth : Method} {c : Code} (l : Launch) (hflags : l.flags = flags0) {b L : Nat} {xs : Nat → Int32} (hL : L ≤ 288) (C0 : lw_At p s m meth c b L xs) : W p l e room_1 s m #[Value.ref b] below meth c s.heap [] 0 0 (lw_Z below #[Value.ref b] s) (entryFrame m ([Value.ref b] : List Value).toArray 4) := by
  obtain ⟨hx, hb, hr, hml, hown, hts0, hX, hbl, hlocks, hgv⟩ := id C0
  have hts : ∀ w ∈ lw_all, w.before #[Value.ref b] s = true := fun w h => hts0 w (lw_all_tbl h)
  have hA : ∀ q : Nat, s.heap.size ≤ q → (fun q : Nat => s.heap.size ≤ q) q := fun _ h => h
  have hO : vz_AO s := hts0 _ q19
  obtain ⟨c0, iS0, hKn0⟩ := u_known (C := RX0) (T := TX0) (N := 1) (n := 1) hts0 (fun w h => lw_all_tbl (in_X0 w h)) (hts0 _ (lw_all_tbl q11))
  obtain ⟨c1, iS1, hKn1⟩ := u_known (C := RX1) (T := TX1) (N := 1) (n := 1) hts0 (fun w h => lw_all_tbl (in_X1 w h)) (hts0 _ (lw_all_tbl q124))
  obtain ⟨dC, dI, hKc⟩ : ∃ (dC : Nat → ClassId) (dI : Nat → Nat → Nat), ∀ (k : Nat) (q : vw_C), vwCl[k]? = some q → u_Kn s q.1 q.2.1 q.2.2 (dC k) (dI k) := by
    refine ⟨fun k => if k = 0 then c0 else c1, fun k => if k = 0 then iS0 else iS1, ?_⟩
    intro k q hq
    match k, hq with
    | 0, hq => cases hq; exact hKn0
    | 1, hq => cases hq; exact hKn1
    | k + 2, hq => simp [vwCl] at hq
  have hS : va_S (fun q : Nat => s.heap.size ≤ q) s.heap s.heap [] := va_S.rf
  have hK : va_K (dC, dI) vwCl [] s := ⟨hKc, fun k q h => by simp at h⟩
  have hP : va_P (dC, dI) vwCl [] s.heap := fun k q h => by simp at h
  have hD : va_D (fun q : Nat => s.heap.size ≤ q) [] := ⟨fun i j p q h => by simp at h, fun k q h => by simp at h⟩
  have hl := lv_entry ([.ref b]) (n := 4) (Nat.le_of_ble_eq_true rfl)
  rw [lg_entry_eq]
  generalize (lg_sl ([.ref b]) ++ List.replicate (4 - (lg_sl ([.ref b])).length) Slot.unset).toArray = ls at hl ⊢
  have hl : lv_has ls 4 [(0, .ref b)] := hl
  refine va_new (ci := 0) (fs := [.null]) (C := RX0) (T := TX0) (N := 1) hx hb hts in_X0 tyX0 tyX0_ok hown (hts _ q10) (hts _ q11) (hts _ q4) hK hP hD hS hA rfl (fun j hj => by rcases (show j = 0 by omega) with rfl <;> rfl) (Nat.le_of_ble_eq_true rfl) (Nat.le_of_ble_eq_true rfl) dL_law_0 (fun h0 H hP hD hS => ?_)
  have hP : va_P (dC, dI) vwCl [(h0, .inr (0, [.null]))] H := hP
  have hD : va_D (fun q : Nat => s.heap.size ≤ q) [(h0, .inr (0, [.null]))] := hD
  refine W.widen (k := 1) (n := 1) (by decide) (by decide) ?_
  refine lv_dup hx hb dL_law_3 rfl ?_
  have hFc := va_free (wc := [(h0, .inr (0, [.null]))]) hD hS hA [0] rfl
  refine va_callv (va_runI (As := []) (rest := [.ref h0]) ⟨hx, hb, hml, hown, hts⟩ (metX0_init l dC dI h0 H.size) (cwI 0 hts (lw_meth q14) rfl rfl rfl (hts _ q4) (hts _ q12) (hts _ q13) rfl (by decide +kernel) ⟨Nat.le_of_ble_eq_true rfl, Nat.le_of_ble_eq_true rfl⟩) ⟨fun a U g mk q => by obtain ⟨q0, q1, qP, qK, qD, qO⟩ := q; exact ⟨q0, q1, qP, va_K.moved (u := U) (U := U.calling g mk a) (Vm.Alike.refl U.vm) qK, qD, vz_AO.moved (u := U) (U := U.calling g mk a) (Vm.Alike.refl U.vm) qO⟩, fun U hU hW => ⟨rfl, by rw [hU], by rw [hU]; exact hP, va_K.moved hW.alike hK, hD.weaken (fun _ _ _ _ => trivial), vz_AO.moved hW.alike hO⟩⟩ rfl rfl hl.1 rfl (lv_room (Nat.le_of_ble_eq_true rfl)) dL_law_4 ⟨Nat.le_of_ble_eq_true rfl, Nat.le_of_ble_eq_true rfl⟩) hS (fun q _ h => hFc q h) hFc (fun u t H1 locs ht hvm hw1 hB hz1 hk1 hS => ?_)
  obtain ⟨g, r, cO, cB⟩ := u
  obtain ⟨hP1, hK1, hD1⟩ := hB
  rw [ht] at hP1
  have hK1 := va_K.moved hvm.symm hK1
  have hD1 := hD1.weaken (B := fun q : Nat => s.heap.size ≤ q) (fun _ q _ h => hFc q.1 h)
  generalize H1 = H at hP1 hS ⊢
  have hP : va_P (dC, dI) vwCl (DW h0 g r cO cB (fun _ _ => 0)) H := hP1
  have hD : va_D (fun q : Nat => s.heap.size ≤ q) (DW h0 g r cO cB (fun _ _ => 0)) := hD1
  have hK : va_K (dC, dI) vwCl (DT cO cB) s := hK1
  refine W.widen (k := 6) (n := 133) (by decide) (by decide) ?_
  refine lv_astore_n (lv' := [(1, .ref h0), (0, .ref b)]) hx hb dL_law_7 rfl hl (by decide) rfl (fun ls hl => ?_)
  refine va_new (ci := 1) (fs := [.null]) (C := RX1) (T := TX1) (N := 1) hx hb hts in_X1 tyX1 tyX1_ok hown (hts _ q123) (hts _ q124) (hts _ q5) hK hP hD hS hA rfl (fun j hj => by rcases (show j = 0 by omega) with rfl <;> rfl) (Nat.le_of_ble_eq_true rfl) (Nat.le_of_ble_eq_true rfl) dL_law_8 (fun h H hP hD hS => ?_)
  have hP : va_P (dC, dI) vwCl (DW h0 g r cO cB (fun _ _ => 0) ++ [(h, .inr (1, [.null]))]) H := hP
  have hD : va_D (fun q : Nat => s.heap.size ≤ q) (DW h0 g r cO cB (fun _ _ => 0) ++ [(h, .inr (1, [.null]))]) := hD
  refine W.widen (k := 7) (n := 134) (by decide) (by decide) ?_
  refine lv_dup hx hb dL_law_11 rfl ?_
  have hFc := va_free (wc := [(h, .inr (1, [.null]))]) hD hS hA [6] rfl
  have hPc := zP_sub (wc := [(h, .inr (1, [.null]))]) hP [6] rfl
  have hDc := hD.sub (ws' := [(h, .inr (1, [.null]))]) [6] (by decide) rfl
  have hKc := hK.sub (tys' := []) [] rfl
  refine va_callv (va_runI (As := []) (rest := [.ref h]) ⟨hx, hb, hml, hown, hts⟩ (metX1_init l dC dI h H.size) (cwI 0 hts (lw_meth q127) rfl rfl rfl (hts _ q5) (hts _ q125) (hts _ q126) rfl (by decide +kernel) ⟨Nat.le_of_ble_eq_true rfl, Nat.le_of_ble_eq_true rfl⟩) ⟨fun a U g mk q => by obtain ⟨q0, q1, qP, qK, qD⟩ := q; exact ⟨q0, q1, qP, va_K.moved (u := U) (U := U.calling g mk a) (Vm.Alike.refl U.vm) qK, qD⟩, fun U hU hW => ⟨rfl, by rw [hU], by rw [hU]; exact hPc, va_K.moved hW.alike hKc, hDc.weaken (fun _ _ _ _ => trivial)⟩⟩ rfl rfl hl.1 rfl (lv_room (Nat.le_of_ble_eq_true rfl)) dL_law_12 ⟨Nat.le_of_ble_eq_true rfl, Nat.le_of_ble_eq_true rfl⟩) hS (fun q _ h => hFc q h) hFc (fun u t H1 locs ht hvm hw2 hB hz1 hk1 hS => ?_)
  obtain ⟨z, cZ⟩ := u
  obtain ⟨hP1, hK1, hD1⟩ := hB
  rw [ht] at hP1
  have hK1 := va_K.moved hvm.symm hK1
  obtain ⟨hP, hD⟩ := va_join (wr := DW h0 g r cO cB (fun _ _ => 0)) (w1 := MW h z cZ (fun _ => false)) hP hD [6] [0, 1, 2, 3, 4, 5] rfl rfl (by decide) (by decide) hk1 hFc hP1 hD1
  have hK : va_K (dC, dI) vwCl (LT cO cB cZ) s := hK.app hK1
  generalize H1 = H at hP hS ⊢
  refine W.widen (k := 8) (n := 1158) (by decide) (by decide) ?_
  refine lv_astore_n (lv' := [(2, .ref h), (1, .ref h0), (0, .ref b)]) hx hb dL_law_15 rfl hl (by decide) rfl (fun ls hl => ?_)
  refine lv_iconst (v := (nI (6 * 0))) hx hb dL_law_16 (by decide) ?_
  refine lv_istore_n (lv' := [(3, .int (nI (6 * 0))), (2, .ref h), (1, .ref h0), (0, .ref b)]) hx hb dL_law_17 rfl hl (by decide) rfl (fun ls hl => ?_)
  exact law_loop hL hx hb hr hml hlocks hown hts hX hbl hK 49 0 (fun _ _ => 0) (fun _ => false) H locs ls rfl rel_0 hP hD hS (lv_sub hl [0, 3, 2, 1] rfl)
set_option maxHeartbeats 4000000 in
theorem lw_walk (l : Launch) (hflags : l.flags = flags0) (b : Addr) (xs : List Int32) : MetFree l x (headSpec (Jvm.Cond.code x code maxLocals ret :: tables_1) room_1) (lw_P b xs) (fun _ _ _ _ _ => True) lw_Q := by
  refine MetFree.of_bodyS (code := code) (maxLocals := maxLocals) (ret := ret) (by decide) ?_ ?_
  · intro args s m h hn
    obtain ⟨meth, c, h1, h2, h3, h4, h5, h6, -, -⟩ := Cond.code_spec hn (atoms_spec (ws := Jvm.Cond.code x code maxLocals ret :: tables_1) h _ List.mem_cons_self)
    exact ⟨meth, c, h1, h2, h3, h4, h5, h6⟩
  · intro p e s m args below meth c s₁ B hml0 hP _
    obtain ⟨rfl, hx, hbd, hgv⟩ := hP
    obtain ⟨scr, harrAt, hlist, hof, hsmall⟩ := hx
    obtain ⟨hcb, hkn, -, -⟩ := State.arrayAt?_spec harrAt
    have hown : s.vm.findClass R_law = some m.cls := findClass_of_methodNamed B.named
    have hts0 : ∀ c ∈ (Jvm.Cond.code x code maxLocals ret :: tables_1), c.before #[Value.ref b] s = true := atoms_spec (ws := Jvm.Cond.code x code maxLocals ret :: tables_1) B.pre
    have hts : ∀ w ∈ lw_tbl, w.before #[Value.ref b] s = true := k2_hts_sels lw_privs (fun w hw => hts0 w (List.mem_cons_of_mem _ hw)) lw_privs_ok
    have hml : c.maxLocals = 4 := B.maxLocals_eq (hts0 _ List.mem_cons_self)
    have X₀ : Stand p l e room_1 s m #[Value.ref b] below meth c s₁ [] 0 0 := Stand.of_body B
    have hh0 : s₁.heap = s.heap := by rw [B.state]; rfl
    have hsz : scr.slots.size = xs.length := by rw [← Array.length_toList, hlist, List.length_map]
    have hval : ∀ j : Nat, j < xs.length → scr.slots[j]? = some (.int (xs.getD j 0)) := fun j hj => by
      rw [← Array.getElem?_toList, hlist]
      simp [hj]
    have hbl : b < s.heap.size := (Array.getElem?_eq_some_iff.mp hcb).1
    have hX : va_X b xs.length (fun j => xs.getD j 0) s s.heap := ⟨scr, hcb, hof, hkn, hsz, hval⟩
    have K : W p l e room_1 s m #[Value.ref b] below meth c s₁.heap [] 0 0 (lw_Z below #[Value.ref b] s) (entryFrame m ([Value.ref b] : List Value).toArray 4) := by
      rw [hh0]
      exact whole_start l hflags hbd ⟨B.exec, B.bytes, B.returns, hml, hown, hts, hX, hbl, B.notSynchronized, hgv⟩
    obtain ⟨t, a1, o, b1, b2, b3⟩ := K s₁ rfl X₀
    exact ⟨t, o, a1, b1, b2, b3⟩
theorem lw_pre_spec {args : Array Value} {s : State} (h : (Jvm.Cond.and given_1 narrow_1).before args s = true) (hr : rest_1_c.before args s = true) : ∃ (b : Addr) (xs : List Int32), lw_P b xs args s := by
  have hs := flat_of_before _ h
  have hq := flat_of_before _ hr
  have hc : (Cond.count 1).before args s = true := hs _ (by decide +kernel)
  have harr : (Cond.arrayOf (.arg 0) .int).before args s = true := hs _ (by decide +kernel)
  have hle : (Cond.le (.length (.arg 0)) (.int 288)).before args s = true := hs _ (by decide +kernel)
  have hlen : (Cond.isInt (.length (.arg 0))).before args s = true := hq _ (by decide +kernel)
  have hall : (Cond.all (.arg 0) (.isInt (.elem (.arg 0) (.index 0)))).before args s = true := hq _ (by decide +kernel)
  obtain ⟨b, xs, hb, hx⟩ := State.ints_of_pre rfl harr hlen hall
  have hsm : xs.length < 2 ^ 31 := hx.choose_spec.2.2.2
  have hev : (Term.length (.arg 0)).eval args s none [] s = some (.int xs.length.toInt32) := hx.length_eval hb
  have hv := Cond.le_ints hev (show (Term.int 288).eval args s none [] s = some (.int 288) from rfl)
  have hd : xs.length.toInt32 ≤ 288 := by
    simpa [Cond.before, Cond.holds, hv] using hle
  have hN : xs.length ≤ 288 := (Int32.ofNat_le_ofNat hsm (by decide)).mp (show Int32.ofNat xs.length ≤ Int32.ofNat 288 from hd)
  exact ⟨b, xs, Cond.one_arg hc (show args[0]? = some (.ref b) from hb), hx, hN, h⟩
theorem lw_comes (l : Launch) (hflags : l.flags = flags0) : Comes l x (Jvm.Cond.code x code maxLocals ret :: tables_1) room_1 (fun tb e args s => Calls_1 tb e args s ∧ rest_1 tb e args s ∧ Pre_1 tb e args s)
    (fun _ _ args s o t => lw_Q args s o t) := by
  intro p e ha hc hk s m args below hf hfit hheap happ hpre
  obtain ⟨b, xs, hP⟩ := lw_pre_spec hpre.2.2 hpre.2.1
  obtain ⟨k, o, h1, h2, h3, hQ⟩ := lw_walk l hflags b xs p e ha hc hk s m args below hf ((Spec.applies_iff_loose hf).mp happ).1 hP trivial
  exact ⟨k, o, h1, h2, h3, hQ⟩
theorem lw_frame {s t : State} {o : Outcome} {args : Array Value} (h : Framed s o t [] 600000 7290000) :
    Framed s o t (fieldLocs frame_1_writes args s ++ arrayLocs frame_1_arrays args s ++ staticLocs frame_1_statics s) 600000 7290000 := h
theorem lw_limb (L : Cond) (hL : ∀ (args : Array Value) (s t : State), L.after args s (.returned (some (.int 1))) t = true) :
    ArmFor flags0 classFile x code maxLocals ret World_1 tables_1 room_1 Calls_1 rest_1 Pre_1
      (fun tb e a s o t => postC L tb e a s o t ∧ Framed s o t (fieldLocs frame_1_writes a s ++ arrayLocs frame_1_arrays a s ++ staticLocs frame_1_statics s) 600000 7290000) := by
  intro l hflags _ _ p e ha hc hk s m args below hf hfit hheap happ hpre
  obtain ⟨k, o, h1, h2, h3, rfl, hF⟩ := lw_comes l hflags p e ha hc hk s m args below hf hfit hheap happ hpre
  exact ⟨k, _, h1, h2, h3, hL args s _, lw_frame hF⟩
theorem i_vc : Claimed_1_1 ∧ Claimed_1_2 := ⟨lw_limb limb_1_1 (fun args s t => by simp [limb_1_1, Cond.after, Cond.holds, Cond.value]), lw_limb limb_1_2 (fun args s t => Cond.after_iff.mpr (by
  first | (rw [show limb_1_2 = Cond.eq .result (.int 1) from rfl, Cond.eq_ints (x := 1) (y := 1) rfl rfl]; simp; done) | (simp [limb_1_2, Cond.value, Term.eval]; done)))⟩
end
