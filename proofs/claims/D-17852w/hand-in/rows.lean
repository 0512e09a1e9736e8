section
-- ===== PART A: goes FIRST, ahead of the names: the tables' words, and 'selects' of the private methods out of them =====
/-- a private method of a class that the tables say can be made, by its rows of tables_1 -/
def lw_okq (q : MethodName × Nat) : Prop := (q.1.cls ≠ "java/lang/invoke/MethodHandle" ∧ q.1.cls ≠ "java/lang/invoke/VarHandle") ∧ Cond.instantiable q.1.cls q.2 ∈ tables_1 ∧ Cond.privateMethod q.1 ∈ tables_1 ∧ Cond.instanceMethod q.1 ∈ tables_1
set_option maxRecDepth 100000
theorem lw_t1 {w : Cond} (h : w ∈ tables_1_1) : w ∈ tables_1 := List.mem_append_left _ h
theorem lw_t2 {w : Cond} (h : w ∈ tables_1_2) : w ∈ tables_1 := List.mem_append_right _ h
theorem lw_p0 : lw_okq (⟨"java/lang/Throwable", "fillInStackTrace", "(I)Ljava/lang/Throwable;"⟩, 6) := ⟨⟨by decide +kernel, by decide +kernel⟩, lw_t1 (List.mem_of_getElem? (i := 74) rfl), lw_t1 (List.mem_of_getElem? (i := 72) rfl), lw_t1 (List.mem_of_getElem? (i := 73) rfl)⟩
theorem lw_p1 : lw_okq (⟨"UltraSketchDeskLaw", "holds", "([I)Z"⟩, 3) := ⟨⟨by decide +kernel, by decide +kernel⟩, lw_t1 (List.mem_of_getElem? (i := 16) rfl), lw_t1 (List.mem_of_getElem? (i := 132) rfl), lw_t1 (List.mem_of_getElem? (i := 133) rfl)⟩
theorem lw_p2 : lw_okq (⟨"UltraSketchDeskLaw", "are", "()Z"⟩, 3) := ⟨⟨by decide +kernel, by decide +kernel⟩, lw_t1 (List.mem_of_getElem? (i := 16) rfl), lw_t1 (List.mem_of_getElem? (i := 136) rfl), lw_t1 (List.mem_of_getElem? (i := 137) rfl)⟩
theorem lw_p3 : lw_okq (⟨"UltraSketchDeskLaw", "act", "(IIIIII)Z"⟩, 3) := ⟨⟨by decide +kernel, by decide +kernel⟩, lw_t1 (List.mem_of_getElem? (i := 16) rfl), lw_t1 (List.mem_of_getElem? (i := 182) rfl), lw_t1 (List.mem_of_getElem? (i := 183) rfl)⟩
theorem lw_p4 : lw_okq (⟨"UltraSketchDeskLaw", "marks", "(IJ)V"⟩, 3) := ⟨⟨by decide +kernel, by decide +kernel⟩, lw_t1 (List.mem_of_getElem? (i := 16) rfl), lw_t1 (List.mem_of_getElem? (i := 222) rfl), lw_t1 (List.mem_of_getElem? (i := 223) rfl)⟩
theorem lw_p5 : lw_okq (⟨"UltraSketchDeskLaw", "isToken", "(II)Z"⟩, 3) := ⟨⟨by decide +kernel, by decide +kernel⟩, lw_t1 (List.mem_of_getElem? (i := 16) rfl), lw_t2 (List.mem_of_getElem? (i := 86) rfl), lw_t2 (List.mem_of_getElem? (i := 87) rfl)⟩
def lw_privs_1 : List (MethodName × Nat) := [(⟨"java/lang/Throwable", "fillInStackTrace", "(I)Ljava/lang/Throwable;"⟩, 6), (⟨"UltraSketchDeskLaw", "holds", "([I)Z"⟩, 3), (⟨"UltraSketchDeskLaw", "are", "()Z"⟩, 3), (⟨"UltraSketchDeskLaw", "act", "(IIIIII)Z"⟩, 3), (⟨"UltraSketchDeskLaw", "marks", "(IJ)V"⟩, 3), (⟨"UltraSketchDeskLaw", "isToken", "(II)Z"⟩, 3)]
theorem lw_r1 : ∀ q ∈ lw_privs_1, lw_okq q := List.forall_mem_cons.mpr ⟨lw_p0, List.forall_mem_cons.mpr ⟨lw_p1, List.forall_mem_cons.mpr ⟨lw_p2, List.forall_mem_cons.mpr ⟨lw_p3, List.forall_mem_cons.mpr ⟨lw_p4, List.forall_mem_cons.mpr ⟨lw_p5, fun _ h => absurd h List.not_mem_nil⟩⟩⟩⟩⟩⟩
def lw_privs : List (MethodName × Nat) := lw_privs_1
def lw_tbl : List Cond := k2_sels lw_privs ++ tables_1
theorem lw_privs_ok : ∀ q ∈ lw_privs, lw_okq q := lw_r1
-- ===== ONE list of words for every method: the tables' words that hold all through a run =====
def lw_all : List Cond := lw_tbl.filter goodWord
/-- a word of the tables by its place: claim/WORDS.tsv -/
theorem lw_w {w : Cond} (i : Nat) (h : lw_tbl[i]? = some w) (g : goodWord w = true) : w ∈ lw_all := List.mem_filter.mpr ⟨List.mem_of_getElem? h, g⟩
theorem lw_all_tbl {w : Cond} (h : w ∈ lw_all) : w ∈ lw_tbl := (List.mem_filter.mp h).1
theorem lw_self : GoodIn lw_all lw_all := fun w h => ⟨h, good_of_word (List.mem_filter.mp h).2⟩
/-- a class's field words, by their places -/
theorem lw_in (ws : List Cond) (ps : List Nat) (hp : ws = ps.filterMap (fun i => lw_tbl[i]?)) (hg : ws.all goodWord = true) : ∀ w ∈ ws, w ∈ lw_all := by
  intro w h
  have h1 := List.all_eq_true.mp hg w h
  rw [hp] at h
  obtain ⟨i, -, hi⟩ := List.mem_filterMap.mp h
  exact lw_w i hi h1
/-- the words of a contract for the method y with code b, L locals, answer r -/
abbrev ws_ (y : MethodName) (b : ByteArray) (L : Nat) (r : Option FieldType) : List Cond := Cond.code y b L r :: lw_all
theorem lw_meth {y : MethodName} {b : ByteArray} {L : Nat} {r : Option FieldType} (h : Cond.code y b L r ∈ lw_all) : GoodIn lw_all (ws_ y b L r) := by
  intro w hw
  rcases List.mem_cons.mp hw with e | e
  · rw [e]
    exact lw_self _ h
  · exact lw_self _ e
theorem lw_app {a c : List Cond} (ha : ∀ w ∈ a, w ∈ lw_all) (hc : GoodIn lw_all c) : GoodIn lw_all (a ++ c) := by
  intro w hw
  rcases List.mem_append.mp hw with e | e
  · exact lw_self w (ha w e)
  · exact hc w e
/-- what a call through an object asks: cwV n hts (lw_V ..) -/
theorem lw_V {own : String} {idx : Nat} {C : String} {y : MethodName} {b : ByteArray} {L : Nat} {r : Option FieldType} (h1 : Cond.methodLink own idx y ∈ lw_all) (h2 : Cond.instanceMethod y ∈ lw_all) (h3 : Cond.selects C y y ∈ lw_all) (h4 : Cond.initialized C ∈ lw_all) (h5 : Cond.code y b L r ∈ lw_all) : GoodIn lw_all (wsV own idx C y (ws_ y b L r)) := by
  refine lw_app ?_ (lw_meth h5)
  intro w hw
  simp only [List.mem_cons, List.not_mem_nil, or_false] at hw
  rcases hw with e | e | e | e
  · rw [e]; exact h1
  · rw [e]; exact h2
  · rw [e]; exact h3
  · rw [e]; exact h4
/-- what a static call asks: va_cwS n hts (lw_S ..) -/
theorem lw_S {own : String} {idx : Nat} {y : MethodName} {b : ByteArray} {L : Nat} {r : Option FieldType} (h1 : Cond.methodLink own idx y ∈ lw_all) (h2 : Cond.static y ∈ lw_all) (h3 : Cond.initialized y.cls ∈ lw_all) (h4 : Cond.code y b L r ∈ lw_all) : GoodIn lw_all (va_wsS own idx y (ws_ y b L r)) := by
  refine lw_app ?_ (lw_meth h4)
  intro w hw
  simp only [List.mem_cons, List.not_mem_nil, or_false] at hw
  rcases hw with e | e | e
  · rw [e]; exact h1
  · rw [e]; exact h2
  · rw [e]; exact h3
/-- the words of a contract for a method WITH HANDLERS (hh: its table) -/
abbrev wsW_ (y : MethodName) (b : ByteArray) (L : Nat) (r : Option FieldType) (hh : List (Nat × Nat × Nat × Nat)) : List Cond := Cond.codeWith y b L r hh :: lw_all
theorem lw_methW {y : MethodName} {b : ByteArray} {L : Nat} {r : Option FieldType} {hh : List (Nat × Nat × Nat × Nat)} (h : Cond.codeWith y b L r hh ∈ lw_all) : GoodIn lw_all (wsW_ y b L r hh) := by
  intro w hw
  rcases List.mem_cons.mp hw with e | e
  · rw [e]
    exact lw_self _ h
  · exact lw_self _ e
/-- any list of words by their places (lw_in), good -/
theorem lw_good {ws : List Cond} (h : ∀ w ∈ ws, w ∈ lw_all) : GoodIn lw_all ws := fun w hw => lw_self w (h w hw)
/-- what a call of a method with handlers asks: vx_cwVW n hts (lw_VW ..), vx_cwSW n hts (lw_SW ..) -/
theorem lw_VW {own : String} {idx : Nat} {C : String} {y : MethodName} {b : ByteArray} {L : Nat} {r : Option FieldType} {hh : List (Nat × Nat × Nat × Nat)} (h1 : Cond.methodLink own idx y ∈ lw_all) (h2 : Cond.instanceMethod y ∈ lw_all) (h3 : Cond.selects C y y ∈ lw_all) (h4 : Cond.initialized C ∈ lw_all) (h5 : Cond.codeWith y b L r hh ∈ lw_all) : GoodIn lw_all (wsV own idx C y (wsW_ y b L r hh)) := by
  refine lw_app ?_ (lw_methW h5)
  intro w hw
  simp only [List.mem_cons, List.not_mem_nil, or_false] at hw
  rcases hw with e | e | e | e
  · rw [e]; exact h1
  · rw [e]; exact h2
  · rw [e]; exact h3
  · rw [e]; exact h4
theorem lw_SW {own : String} {idx : Nat} {y : MethodName} {b : ByteArray} {L : Nat} {r : Option FieldType} {hh : List (Nat × Nat × Nat × Nat)} (h1 : Cond.methodLink own idx y ∈ lw_all) (h2 : Cond.static y ∈ lw_all) (h3 : Cond.initialized y.cls ∈ lw_all) (h4 : Cond.codeWith y b L r hh ∈ lw_all) : GoodIn lw_all (va_wsS own idx y (wsW_ y b L r hh)) := by
  refine lw_app ?_ (lw_methW h4)
  intro w hw
  simp only [List.mem_cons, List.not_mem_nil, or_false] at hw
  rcases hw with e | e | e
  · rw [e]; exact h1
  · rw [e]; exact h2
  · rw [e]; exact h3
/-- a word by its place in its run of the tables -/
theorem lw_at {r : List Cond} (hr : ∀ w ∈ r, w ∈ lw_tbl) {w : Cond} (i : Nat) (h : r[i]? = some w) : w ∈ lw_tbl := hr w (List.mem_of_getElem? h)
theorem lw_g {w : Cond} (h : w ∈ lw_tbl) (g : goodWord w = true) : w ∈ lw_all := List.mem_filter.mpr ⟨h, g⟩
theorem lw_ms : ∀ w ∈ k2_sels lw_privs, w ∈ lw_tbl := fun w h => show w ∈ k2_sels lw_privs ++ tables_1 from List.mem_append_left _ h
theorem lw_m1 : ∀ w ∈ tables_1_1, w ∈ lw_tbl := fun w h => show w ∈ k2_sels lw_privs ++ tables_1 from List.mem_append_right (k2_sels lw_privs) (show w ∈ tables_1 from List.mem_append_left _ h)
theorem lw_m2 : ∀ w ∈ tables_1_2, w ∈ lw_tbl := fun w h => show w ∈ k2_sels lw_privs ++ tables_1 from List.mem_append_right (k2_sels lw_privs) (show w ∈ tables_1 from List.mem_append_right _ h)
theorem qs0 : (Cond.selects "java/lang/Throwable" ⟨"java/lang/Throwable", "fillInStackTrace", "(I)Ljava/lang/Throwable;"⟩ ⟨"java/lang/Throwable", "fillInStackTrace", "(I)Ljava/lang/Throwable;"⟩) ∈ lw_all := lw_g (lw_at lw_ms 0 rfl) rfl
theorem qs1 : (Cond.selects "UltraSketchDeskLaw" ⟨"UltraSketchDeskLaw", "holds", "([I)Z"⟩ ⟨"UltraSketchDeskLaw", "holds", "([I)Z"⟩) ∈ lw_all := lw_g (lw_at lw_ms 1 rfl) rfl
theorem qs2 : (Cond.selects "UltraSketchDeskLaw" ⟨"UltraSketchDeskLaw", "are", "()Z"⟩ ⟨"UltraSketchDeskLaw", "are", "()Z"⟩) ∈ lw_all := lw_g (lw_at lw_ms 2 rfl) rfl
theorem qs3 : (Cond.selects "UltraSketchDeskLaw" ⟨"UltraSketchDeskLaw", "act", "(IIIIII)Z"⟩ ⟨"UltraSketchDeskLaw", "act", "(IIIIII)Z"⟩) ∈ lw_all := lw_g (lw_at lw_ms 3 rfl) rfl
theorem qs4 : (Cond.selects "UltraSketchDeskLaw" ⟨"UltraSketchDeskLaw", "marks", "(IJ)V"⟩ ⟨"UltraSketchDeskLaw", "marks", "(IJ)V"⟩) ∈ lw_all := lw_g (lw_at lw_ms 4 rfl) rfl
theorem qs5 : (Cond.selects "UltraSketchDeskLaw" ⟨"UltraSketchDeskLaw", "isToken", "(II)Z"⟩ ⟨"UltraSketchDeskLaw", "isToken", "(II)Z"⟩) ∈ lw_all := lw_g (lw_at lw_ms 5 rfl) rfl
end
section
/-! DECODE ROWS BY BYTES: one lemma an opcode; a method's code is cut into short pieces once, and a row reads its own piece alone. -/
set_option maxRecDepth 100000
/-- the code has just these bytes from pc on -/
def DkAt (code : ByteArray) (pc : Nat) (bs : List UInt8) : Prop := ∀ (j : Nat) (b : UInt8), bs[j]? = some b → code.data.toList[pc + j]? = some b
/-- the piece W has the bytes bs from its place j on -/
def dkIn (W : List UInt8) (j : Nat) (bs : List UInt8) : Bool := decide ((W.drop j).take bs.length = bs)
theorem dk_seg {l W T : List UInt8} {o o2 : Nat} (h : l.drop o = W ++ T) (n : Nat) (hn : W.length = n) (ho : o + n = o2) : l.drop o2 = T := by
  subst ho
  rw [← List.drop_drop, h, List.drop_left' hn]
theorem dk_at {code : ByteArray} {W T bs : List UInt8} {o pc : Nat} (h : code.data.toList.drop o = W ++ T) (j : Nat) (hp : o + j = pc) (hw : dkIn W j bs = true) : DkAt code pc bs := by
  subst hp
  intro i b e
  have h1 := of_decide_eq_true hw
  have h2 : i < bs.length := (List.getElem?_eq_some_iff.mp e).1
  have h3 : W[j + i]? = some b := by
    rw [← h1, List.getElem?_take, if_pos h2, List.getElem?_drop] at e
    exact e
  have h4 : j + i < W.length := (List.getElem?_eq_some_iff.mp h3).1
  have h5 : (code.data.toList.drop o)[j + i]? = some b := by
    rw [h, List.getElem?_append_left h4]
    exact h3
  rw [List.getElem?_drop, ← Nat.add_assoc] at h5
  exact h5
theorem dk_u1 {A : ByteArray} {p : Nat} {b : UInt8} (h : A.data.toList[p]? = some b) : (Reader.u1 : Reader DecodeError Nat) A p = .ok (b.toNat, p + 1) := by
  obtain ⟨h1, h2⟩ := List.getElem?_eq_some_iff.mp h
  have h3 : p < A.size := by simpa using h1
  have h4 : A[p]'h3 = b := h2
  have e : (Reader.u1 : Reader DecodeError Nat) A p = (if h : p < A.size then .ok (A[p].toNat, p + 1) else .error (HasTruncated.truncated p)) := by
    show (do if h : p < A.size then do set (p + 1); Pure.pure A[p].toNat else MonadExcept.throw (HasTruncated.truncated p) : Reader DecodeError Nat) A p = _
    by_cases hi : p < A.size
    · rw [dif_pos hi, dif_pos hi]; rfl
    · rw [dif_neg hi, dif_neg hi]; rfl
  rw [e, dif_pos h3, h4]
theorem dk_bind {α β : Type} {r : Reader DecodeError α} {f : α → Reader DecodeError β} {A : ByteArray} {p s : Nat} {a : α} (h : r A p = .ok (a, s)) : (r >>= f) A p = f a A s := by
  show (do let (a, s) ← r A p; f a A s : Except DecodeError (β × Nat)) = _
  rw [h]
  rfl
theorem dk_map {α β : Type} {r : Reader DecodeError α} {g : α → β} {A : ByteArray} {p s : Nat} {a : α} (h : r A p = .ok (a, s)) : (g <$> r) A p = .ok (g a, s) := by
  show (do let (a, s) ← r A p; .ok (g a, s) : Except DecodeError (β × Nat)) = _
  rw [h]
  rfl
theorem dk_u2 {A : ByteArray} {p : Nat} {a b : UInt8} (h : A.data.toList[p]? = some a) (h2 : A.data.toList[p + 1]? = some b) : (Reader.u2 : Reader DecodeError Nat) A p = .ok (a.toNat * 256 + b.toNat, p + 2) := by
  show (Reader.u1 >>= fun hi => Reader.u1 >>= fun lo => Pure.pure (hi * 256 + lo) : Reader DecodeError Nat) A p = _
  rw [dk_bind (dk_u1 h), dk_bind (dk_u1 h2)]
  rfl
theorem dk_of {code : ByteArray} {pc n : Nat} {i : Instr} (h : Decoder.instr pc code pc = .ok (i, pc + n)) : decode code pc = .ok (i, n) := by
  have e : decode code pc = (match Decoder.instr pc code pc with | .error x => .error x | .ok (j, s) => .ok (j, s - pc)) := by
    show (do let (j, s) ← Decoder.instr pc code pc; Pure.pure (j, s - pc) : Except DecodeError (Instr × Nat)) = _
    cases Decoder.instr pc code pc <;> rfl
  rw [e, h]
  show Except.ok (i, pc + n - pc) = _
  rw [Nat.add_sub_cancel_left]
theorem dk_1 {code : ByteArray} {pc : Nat} (h : DkAt code pc [1]) : decode code pc = .ok (.aconst_null, 1) := dk_of ((dk_bind (dk_u1 (h 0 _ rfl))).trans rfl)
theorem dk_2 {code : ByteArray} {pc : Nat} (h : DkAt code pc [2]) : decode code pc = .ok (.iconst (-1), 1) := dk_of ((dk_bind (dk_u1 (h 0 _ rfl))).trans rfl)
theorem dk_3 {code : ByteArray} {pc : Nat} (h : DkAt code pc [3]) : decode code pc = .ok (.iconst 0, 1) := dk_of ((dk_bind (dk_u1 (h 0 _ rfl))).trans rfl)
theorem dk_4 {code : ByteArray} {pc : Nat} (h : DkAt code pc [4]) : decode code pc = .ok (.iconst 1, 1) := dk_of ((dk_bind (dk_u1 (h 0 _ rfl))).trans rfl)
theorem dk_5 {code : ByteArray} {pc : Nat} (h : DkAt code pc [5]) : decode code pc = .ok (.iconst 2, 1) := dk_of ((dk_bind (dk_u1 (h 0 _ rfl))).trans rfl)
theorem dk_6 {code : ByteArray} {pc : Nat} (h : DkAt code pc [6]) : decode code pc = .ok (.iconst 3, 1) := dk_of ((dk_bind (dk_u1 (h 0 _ rfl))).trans rfl)
theorem dk_7 {code : ByteArray} {pc : Nat} (h : DkAt code pc [7]) : decode code pc = .ok (.iconst 4, 1) := dk_of ((dk_bind (dk_u1 (h 0 _ rfl))).trans rfl)
theorem dk_8 {code : ByteArray} {pc : Nat} (h : DkAt code pc [8]) : decode code pc = .ok (.iconst 5, 1) := dk_of ((dk_bind (dk_u1 (h 0 _ rfl))).trans rfl)
theorem dk_9 {code : ByteArray} {pc : Nat} (h : DkAt code pc [9]) : decode code pc = .ok (.lconst 0, 1) := dk_of ((dk_bind (dk_u1 (h 0 _ rfl))).trans rfl)
theorem dk_10 {code : ByteArray} {pc : Nat} (h : DkAt code pc [10]) : decode code pc = .ok (.lconst 1, 1) := dk_of ((dk_bind (dk_u1 (h 0 _ rfl))).trans rfl)
theorem dk_16 {code : ByteArray} {pc : Nat} (a : UInt8) (h : DkAt code pc [16, a]) : decode code pc = .ok (.bipush (Reader.signed 8 a.toNat), 2) := dk_of ((dk_bind (dk_u1 (h 0 _ rfl))).trans ((dk_bind (dk_map (dk_u1 (h 1 _ rfl)))).trans rfl))
theorem dk_17 {code : ByteArray} {pc : Nat} (a b : UInt8) (h : DkAt code pc [17, a, b]) : decode code pc = .ok (.sipush (Reader.signed 16 (a.toNat * 256 + b.toNat)), 3) := dk_of ((dk_bind (dk_u1 (h 0 _ rfl))).trans ((dk_bind (dk_map (dk_u2 (h 1 _ rfl) (h 2 _ rfl)))).trans rfl))
theorem dk_18 {code : ByteArray} {pc : Nat} (a : UInt8) (h : DkAt code pc [18, a]) : decode code pc = .ok (.ldc a.toNat, 2) := dk_of ((dk_bind (dk_u1 (h 0 _ rfl))).trans ((dk_bind (dk_u1 (h 1 _ rfl))).trans rfl))
theorem dk_19 {code : ByteArray} {pc : Nat} (a b : UInt8) (h : DkAt code pc [19, a, b]) : decode code pc = .ok (.ldc_w (a.toNat * 256 + b.toNat), 3) := dk_of ((dk_bind (dk_u1 (h 0 _ rfl))).trans ((dk_bind (dk_u2 (h 1 _ rfl) (h 2 _ rfl))).trans rfl))
theorem dk_20 {code : ByteArray} {pc : Nat} (a b : UInt8) (h : DkAt code pc [20, a, b]) : decode code pc = .ok (.ldc2_w (a.toNat * 256 + b.toNat), 3) := dk_of ((dk_bind (dk_u1 (h 0 _ rfl))).trans ((dk_bind (dk_u2 (h 1 _ rfl) (h 2 _ rfl))).trans rfl))
theorem dk_21 {code : ByteArray} {pc : Nat} (a : UInt8) (h : DkAt code pc [21, a]) : decode code pc = .ok (.iload a.toNat, 2) := dk_of ((dk_bind (dk_u1 (h 0 _ rfl))).trans ((dk_bind (dk_u1 (h 1 _ rfl))).trans rfl))
theorem dk_22 {code : ByteArray} {pc : Nat} (a : UInt8) (h : DkAt code pc [22, a]) : decode code pc = .ok (.lload a.toNat, 2) := dk_of ((dk_bind (dk_u1 (h 0 _ rfl))).trans ((dk_bind (dk_u1 (h 1 _ rfl))).trans rfl))
theorem dk_25 {code : ByteArray} {pc : Nat} (a : UInt8) (h : DkAt code pc [25, a]) : decode code pc = .ok (.aload a.toNat, 2) := dk_of ((dk_bind (dk_u1 (h 0 _ rfl))).trans ((dk_bind (dk_u1 (h 1 _ rfl))).trans rfl))
theorem dk_26 {code : ByteArray} {pc : Nat} (h : DkAt code pc [26]) : decode code pc = .ok (.iload_n 0, 1) := dk_of ((dk_bind (dk_u1 (h 0 _ rfl))).trans rfl)
theorem dk_27 {code : ByteArray} {pc : Nat} (h : DkAt code pc [27]) : decode code pc = .ok (.iload_n 1, 1) := dk_of ((dk_bind (dk_u1 (h 0 _ rfl))).trans rfl)
theorem dk_28 {code : ByteArray} {pc : Nat} (h : DkAt code pc [28]) : decode code pc = .ok (.iload_n 2, 1) := dk_of ((dk_bind (dk_u1 (h 0 _ rfl))).trans rfl)
theorem dk_29 {code : ByteArray} {pc : Nat} (h : DkAt code pc [29]) : decode code pc = .ok (.iload_n 3, 1) := dk_of ((dk_bind (dk_u1 (h 0 _ rfl))).trans rfl)
theorem dk_30 {code : ByteArray} {pc : Nat} (h : DkAt code pc [30]) : decode code pc = .ok (.lload_n 0, 1) := dk_of ((dk_bind (dk_u1 (h 0 _ rfl))).trans rfl)
theorem dk_31 {code : ByteArray} {pc : Nat} (h : DkAt code pc [31]) : decode code pc = .ok (.lload_n 1, 1) := dk_of ((dk_bind (dk_u1 (h 0 _ rfl))).trans rfl)
theorem dk_32 {code : ByteArray} {pc : Nat} (h : DkAt code pc [32]) : decode code pc = .ok (.lload_n 2, 1) := dk_of ((dk_bind (dk_u1 (h 0 _ rfl))).trans rfl)
theorem dk_33 {code : ByteArray} {pc : Nat} (h : DkAt code pc [33]) : decode code pc = .ok (.lload_n 3, 1) := dk_of ((dk_bind (dk_u1 (h 0 _ rfl))).trans rfl)
theorem dk_42 {code : ByteArray} {pc : Nat} (h : DkAt code pc [42]) : decode code pc = .ok (.aload_n 0, 1) := dk_of ((dk_bind (dk_u1 (h 0 _ rfl))).trans rfl)
theorem dk_43 {code : ByteArray} {pc : Nat} (h : DkAt code pc [43]) : decode code pc = .ok (.aload_n 1, 1) := dk_of ((dk_bind (dk_u1 (h 0 _ rfl))).trans rfl)
theorem dk_44 {code : ByteArray} {pc : Nat} (h : DkAt code pc [44]) : decode code pc = .ok (.aload_n 2, 1) := dk_of ((dk_bind (dk_u1 (h 0 _ rfl))).trans rfl)
theorem dk_45 {code : ByteArray} {pc : Nat} (h : DkAt code pc [45]) : decode code pc = .ok (.aload_n 3, 1) := dk_of ((dk_bind (dk_u1 (h 0 _ rfl))).trans rfl)
theorem dk_46 {code : ByteArray} {pc : Nat} (h : DkAt code pc [46]) : decode code pc = .ok (.iaload, 1) := dk_of ((dk_bind (dk_u1 (h 0 _ rfl))).trans rfl)
theorem dk_47 {code : ByteArray} {pc : Nat} (h : DkAt code pc [47]) : decode code pc = .ok (.laload, 1) := dk_of ((dk_bind (dk_u1 (h 0 _ rfl))).trans rfl)
theorem dk_50 {code : ByteArray} {pc : Nat} (h : DkAt code pc [50]) : decode code pc = .ok (.aaload, 1) := dk_of ((dk_bind (dk_u1 (h 0 _ rfl))).trans rfl)
theorem dk_51 {code : ByteArray} {pc : Nat} (h : DkAt code pc [51]) : decode code pc = .ok (.baload, 1) := dk_of ((dk_bind (dk_u1 (h 0 _ rfl))).trans rfl)
theorem dk_54 {code : ByteArray} {pc : Nat} (a : UInt8) (h : DkAt code pc [54, a]) : decode code pc = .ok (.istore a.toNat, 2) := dk_of ((dk_bind (dk_u1 (h 0 _ rfl))).trans ((dk_bind (dk_u1 (h 1 _ rfl))).trans rfl))
theorem dk_55 {code : ByteArray} {pc : Nat} (a : UInt8) (h : DkAt code pc [55, a]) : decode code pc = .ok (.lstore a.toNat, 2) := dk_of ((dk_bind (dk_u1 (h 0 _ rfl))).trans ((dk_bind (dk_u1 (h 1 _ rfl))).trans rfl))
theorem dk_58 {code : ByteArray} {pc : Nat} (a : UInt8) (h : DkAt code pc [58, a]) : decode code pc = .ok (.astore a.toNat, 2) := dk_of ((dk_bind (dk_u1 (h 0 _ rfl))).trans ((dk_bind (dk_u1 (h 1 _ rfl))).trans rfl))
theorem dk_59 {code : ByteArray} {pc : Nat} (h : DkAt code pc [59]) : decode code pc = .ok (.istore_n 0, 1) := dk_of ((dk_bind (dk_u1 (h 0 _ rfl))).trans rfl)
theorem dk_60 {code : ByteArray} {pc : Nat} (h : DkAt code pc [60]) : decode code pc = .ok (.istore_n 1, 1) := dk_of ((dk_bind (dk_u1 (h 0 _ rfl))).trans rfl)
theorem dk_61 {code : ByteArray} {pc : Nat} (h : DkAt code pc [61]) : decode code pc = .ok (.istore_n 2, 1) := dk_of ((dk_bind (dk_u1 (h 0 _ rfl))).trans rfl)
theorem dk_62 {code : ByteArray} {pc : Nat} (h : DkAt code pc [62]) : decode code pc = .ok (.istore_n 3, 1) := dk_of ((dk_bind (dk_u1 (h 0 _ rfl))).trans rfl)
theorem dk_64 {code : ByteArray} {pc : Nat} (h : DkAt code pc [64]) : decode code pc = .ok (.lstore_n 1, 1) := dk_of ((dk_bind (dk_u1 (h 0 _ rfl))).trans rfl)
theorem dk_66 {code : ByteArray} {pc : Nat} (h : DkAt code pc [66]) : decode code pc = .ok (.lstore_n 3, 1) := dk_of ((dk_bind (dk_u1 (h 0 _ rfl))).trans rfl)
theorem dk_76 {code : ByteArray} {pc : Nat} (h : DkAt code pc [76]) : decode code pc = .ok (.astore_n 1, 1) := dk_of ((dk_bind (dk_u1 (h 0 _ rfl))).trans rfl)
theorem dk_77 {code : ByteArray} {pc : Nat} (h : DkAt code pc [77]) : decode code pc = .ok (.astore_n 2, 1) := dk_of ((dk_bind (dk_u1 (h 0 _ rfl))).trans rfl)
theorem dk_78 {code : ByteArray} {pc : Nat} (h : DkAt code pc [78]) : decode code pc = .ok (.astore_n 3, 1) := dk_of ((dk_bind (dk_u1 (h 0 _ rfl))).trans rfl)
theorem dk_79 {code : ByteArray} {pc : Nat} (h : DkAt code pc [79]) : decode code pc = .ok (.iastore, 1) := dk_of ((dk_bind (dk_u1 (h 0 _ rfl))).trans rfl)
theorem dk_80 {code : ByteArray} {pc : Nat} (h : DkAt code pc [80]) : decode code pc = .ok (.lastore, 1) := dk_of ((dk_bind (dk_u1 (h 0 _ rfl))).trans rfl)
theorem dk_83 {code : ByteArray} {pc : Nat} (h : DkAt code pc [83]) : decode code pc = .ok (.aastore, 1) := dk_of ((dk_bind (dk_u1 (h 0 _ rfl))).trans rfl)
theorem dk_84 {code : ByteArray} {pc : Nat} (h : DkAt code pc [84]) : decode code pc = .ok (.bastore, 1) := dk_of ((dk_bind (dk_u1 (h 0 _ rfl))).trans rfl)
theorem dk_87 {code : ByteArray} {pc : Nat} (h : DkAt code pc [87]) : decode code pc = .ok (.pop, 1) := dk_of ((dk_bind (dk_u1 (h 0 _ rfl))).trans rfl)
theorem dk_88 {code : ByteArray} {pc : Nat} (h : DkAt code pc [88]) : decode code pc = .ok (.pop2, 1) := dk_of ((dk_bind (dk_u1 (h 0 _ rfl))).trans rfl)
theorem dk_89 {code : ByteArray} {pc : Nat} (h : DkAt code pc [89]) : decode code pc = .ok (.dup, 1) := dk_of ((dk_bind (dk_u1 (h 0 _ rfl))).trans rfl)
theorem dk_92 {code : ByteArray} {pc : Nat} (h : DkAt code pc [92]) : decode code pc = .ok (.dup2, 1) := dk_of ((dk_bind (dk_u1 (h 0 _ rfl))).trans rfl)
theorem dk_96 {code : ByteArray} {pc : Nat} (h : DkAt code pc [96]) : decode code pc = .ok (.iadd, 1) := dk_of ((dk_bind (dk_u1 (h 0 _ rfl))).trans rfl)
theorem dk_97 {code : ByteArray} {pc : Nat} (h : DkAt code pc [97]) : decode code pc = .ok (.ladd, 1) := dk_of ((dk_bind (dk_u1 (h 0 _ rfl))).trans rfl)
theorem dk_100 {code : ByteArray} {pc : Nat} (h : DkAt code pc [100]) : decode code pc = .ok (.isub, 1) := dk_of ((dk_bind (dk_u1 (h 0 _ rfl))).trans rfl)
theorem dk_101 {code : ByteArray} {pc : Nat} (h : DkAt code pc [101]) : decode code pc = .ok (.lsub, 1) := dk_of ((dk_bind (dk_u1 (h 0 _ rfl))).trans rfl)
theorem dk_104 {code : ByteArray} {pc : Nat} (h : DkAt code pc [104]) : decode code pc = .ok (.imul, 1) := dk_of ((dk_bind (dk_u1 (h 0 _ rfl))).trans rfl)
theorem dk_105 {code : ByteArray} {pc : Nat} (h : DkAt code pc [105]) : decode code pc = .ok (.lmul, 1) := dk_of ((dk_bind (dk_u1 (h 0 _ rfl))).trans rfl)
theorem dk_112 {code : ByteArray} {pc : Nat} (h : DkAt code pc [112]) : decode code pc = .ok (.irem, 1) := dk_of ((dk_bind (dk_u1 (h 0 _ rfl))).trans rfl)
theorem dk_116 {code : ByteArray} {pc : Nat} (h : DkAt code pc [116]) : decode code pc = .ok (.ineg, 1) := dk_of ((dk_bind (dk_u1 (h 0 _ rfl))).trans rfl)
theorem dk_120 {code : ByteArray} {pc : Nat} (h : DkAt code pc [120]) : decode code pc = .ok (.ishl, 1) := dk_of ((dk_bind (dk_u1 (h 0 _ rfl))).trans rfl)
theorem dk_121 {code : ByteArray} {pc : Nat} (h : DkAt code pc [121]) : decode code pc = .ok (.lshl, 1) := dk_of ((dk_bind (dk_u1 (h 0 _ rfl))).trans rfl)
theorem dk_122 {code : ByteArray} {pc : Nat} (h : DkAt code pc [122]) : decode code pc = .ok (.ishr, 1) := dk_of ((dk_bind (dk_u1 (h 0 _ rfl))).trans rfl)
theorem dk_124 {code : ByteArray} {pc : Nat} (h : DkAt code pc [124]) : decode code pc = .ok (.iushr, 1) := dk_of ((dk_bind (dk_u1 (h 0 _ rfl))).trans rfl)
theorem dk_125 {code : ByteArray} {pc : Nat} (h : DkAt code pc [125]) : decode code pc = .ok (.lushr, 1) := dk_of ((dk_bind (dk_u1 (h 0 _ rfl))).trans rfl)
theorem dk_126 {code : ByteArray} {pc : Nat} (h : DkAt code pc [126]) : decode code pc = .ok (.iand, 1) := dk_of ((dk_bind (dk_u1 (h 0 _ rfl))).trans rfl)
theorem dk_127 {code : ByteArray} {pc : Nat} (h : DkAt code pc [127]) : decode code pc = .ok (.land, 1) := dk_of ((dk_bind (dk_u1 (h 0 _ rfl))).trans rfl)
theorem dk_128 {code : ByteArray} {pc : Nat} (h : DkAt code pc [128]) : decode code pc = .ok (.ior, 1) := dk_of ((dk_bind (dk_u1 (h 0 _ rfl))).trans rfl)
theorem dk_129 {code : ByteArray} {pc : Nat} (h : DkAt code pc [129]) : decode code pc = .ok (.lor, 1) := dk_of ((dk_bind (dk_u1 (h 0 _ rfl))).trans rfl)
theorem dk_130 {code : ByteArray} {pc : Nat} (h : DkAt code pc [130]) : decode code pc = .ok (.ixor, 1) := dk_of ((dk_bind (dk_u1 (h 0 _ rfl))).trans rfl)
theorem dk_131 {code : ByteArray} {pc : Nat} (h : DkAt code pc [131]) : decode code pc = .ok (.lxor, 1) := dk_of ((dk_bind (dk_u1 (h 0 _ rfl))).trans rfl)
theorem dk_132 {code : ByteArray} {pc : Nat} (a b : UInt8) (h : DkAt code pc [132, a, b]) : decode code pc = .ok (.iinc a.toNat (Reader.signed 8 b.toNat), 3) := dk_of ((dk_bind (dk_u1 (h 0 _ rfl))).trans ((dk_bind (dk_u1 (h 1 _ rfl))).trans ((dk_bind (dk_map (dk_u1 (h 2 _ rfl)))).trans rfl)))
theorem dk_133 {code : ByteArray} {pc : Nat} (h : DkAt code pc [133]) : decode code pc = .ok (.i2l, 1) := dk_of ((dk_bind (dk_u1 (h 0 _ rfl))).trans rfl)
theorem dk_136 {code : ByteArray} {pc : Nat} (h : DkAt code pc [136]) : decode code pc = .ok (.l2i, 1) := dk_of ((dk_bind (dk_u1 (h 0 _ rfl))).trans rfl)
theorem dk_145 {code : ByteArray} {pc : Nat} (h : DkAt code pc [145]) : decode code pc = .ok (.i2b, 1) := dk_of ((dk_bind (dk_u1 (h 0 _ rfl))).trans rfl)
theorem dk_148 {code : ByteArray} {pc : Nat} (h : DkAt code pc [148]) : decode code pc = .ok (.lcmp, 1) := dk_of ((dk_bind (dk_u1 (h 0 _ rfl))).trans rfl)
theorem dk_153 {code : ByteArray} {pc : Nat} (a b : UInt8) (h : DkAt code pc [153, a, b]) : decode code pc = .ok (.ifCond .eq (Reader.signed 16 (a.toNat * 256 + b.toNat)), 3) := dk_of ((dk_bind (dk_u1 (h 0 _ rfl))).trans ((dk_bind (dk_map (dk_u2 (h 1 _ rfl) (h 2 _ rfl)))).trans rfl))
theorem dk_154 {code : ByteArray} {pc : Nat} (a b : UInt8) (h : DkAt code pc [154, a, b]) : decode code pc = .ok (.ifCond .ne (Reader.signed 16 (a.toNat * 256 + b.toNat)), 3) := dk_of ((dk_bind (dk_u1 (h 0 _ rfl))).trans ((dk_bind (dk_map (dk_u2 (h 1 _ rfl) (h 2 _ rfl)))).trans rfl))
theorem dk_155 {code : ByteArray} {pc : Nat} (a b : UInt8) (h : DkAt code pc [155, a, b]) : decode code pc = .ok (.ifCond .lt (Reader.signed 16 (a.toNat * 256 + b.toNat)), 3) := dk_of ((dk_bind (dk_u1 (h 0 _ rfl))).trans ((dk_bind (dk_map (dk_u2 (h 1 _ rfl) (h 2 _ rfl)))).trans rfl))
theorem dk_156 {code : ByteArray} {pc : Nat} (a b : UInt8) (h : DkAt code pc [156, a, b]) : decode code pc = .ok (.ifCond .ge (Reader.signed 16 (a.toNat * 256 + b.toNat)), 3) := dk_of ((dk_bind (dk_u1 (h 0 _ rfl))).trans ((dk_bind (dk_map (dk_u2 (h 1 _ rfl) (h 2 _ rfl)))).trans rfl))
theorem dk_157 {code : ByteArray} {pc : Nat} (a b : UInt8) (h : DkAt code pc [157, a, b]) : decode code pc = .ok (.ifCond .gt (Reader.signed 16 (a.toNat * 256 + b.toNat)), 3) := dk_of ((dk_bind (dk_u1 (h 0 _ rfl))).trans ((dk_bind (dk_map (dk_u2 (h 1 _ rfl) (h 2 _ rfl)))).trans rfl))
theorem dk_158 {code : ByteArray} {pc : Nat} (a b : UInt8) (h : DkAt code pc [158, a, b]) : decode code pc = .ok (.ifCond .le (Reader.signed 16 (a.toNat * 256 + b.toNat)), 3) := dk_of ((dk_bind (dk_u1 (h 0 _ rfl))).trans ((dk_bind (dk_map (dk_u2 (h 1 _ rfl) (h 2 _ rfl)))).trans rfl))
theorem dk_159 {code : ByteArray} {pc : Nat} (a b : UInt8) (h : DkAt code pc [159, a, b]) : decode code pc = .ok (.if_icmp .eq (Reader.signed 16 (a.toNat * 256 + b.toNat)), 3) := dk_of ((dk_bind (dk_u1 (h 0 _ rfl))).trans ((dk_bind (dk_map (dk_u2 (h 1 _ rfl) (h 2 _ rfl)))).trans rfl))
theorem dk_160 {code : ByteArray} {pc : Nat} (a b : UInt8) (h : DkAt code pc [160, a, b]) : decode code pc = .ok (.if_icmp .ne (Reader.signed 16 (a.toNat * 256 + b.toNat)), 3) := dk_of ((dk_bind (dk_u1 (h 0 _ rfl))).trans ((dk_bind (dk_map (dk_u2 (h 1 _ rfl) (h 2 _ rfl)))).trans rfl))
theorem dk_161 {code : ByteArray} {pc : Nat} (a b : UInt8) (h : DkAt code pc [161, a, b]) : decode code pc = .ok (.if_icmp .lt (Reader.signed 16 (a.toNat * 256 + b.toNat)), 3) := dk_of ((dk_bind (dk_u1 (h 0 _ rfl))).trans ((dk_bind (dk_map (dk_u2 (h 1 _ rfl) (h 2 _ rfl)))).trans rfl))
theorem dk_162 {code : ByteArray} {pc : Nat} (a b : UInt8) (h : DkAt code pc [162, a, b]) : decode code pc = .ok (.if_icmp .ge (Reader.signed 16 (a.toNat * 256 + b.toNat)), 3) := dk_of ((dk_bind (dk_u1 (h 0 _ rfl))).trans ((dk_bind (dk_map (dk_u2 (h 1 _ rfl) (h 2 _ rfl)))).trans rfl))
theorem dk_163 {code : ByteArray} {pc : Nat} (a b : UInt8) (h : DkAt code pc [163, a, b]) : decode code pc = .ok (.if_icmp .gt (Reader.signed 16 (a.toNat * 256 + b.toNat)), 3) := dk_of ((dk_bind (dk_u1 (h 0 _ rfl))).trans ((dk_bind (dk_map (dk_u2 (h 1 _ rfl) (h 2 _ rfl)))).trans rfl))
theorem dk_164 {code : ByteArray} {pc : Nat} (a b : UInt8) (h : DkAt code pc [164, a, b]) : decode code pc = .ok (.if_icmp .le (Reader.signed 16 (a.toNat * 256 + b.toNat)), 3) := dk_of ((dk_bind (dk_u1 (h 0 _ rfl))).trans ((dk_bind (dk_map (dk_u2 (h 1 _ rfl) (h 2 _ rfl)))).trans rfl))
theorem dk_167 {code : ByteArray} {pc : Nat} (a b : UInt8) (h : DkAt code pc [167, a, b]) : decode code pc = .ok (.goto (Reader.signed 16 (a.toNat * 256 + b.toNat)), 3) := dk_of ((dk_bind (dk_u1 (h 0 _ rfl))).trans ((dk_bind (dk_map (dk_u2 (h 1 _ rfl) (h 2 _ rfl)))).trans rfl))
theorem dk_172 {code : ByteArray} {pc : Nat} (h : DkAt code pc [172]) : decode code pc = .ok (.ireturn, 1) := dk_of ((dk_bind (dk_u1 (h 0 _ rfl))).trans rfl)
theorem dk_173 {code : ByteArray} {pc : Nat} (h : DkAt code pc [173]) : decode code pc = .ok (.lreturn, 1) := dk_of ((dk_bind (dk_u1 (h 0 _ rfl))).trans rfl)
theorem dk_176 {code : ByteArray} {pc : Nat} (h : DkAt code pc [176]) : decode code pc = .ok (.areturn, 1) := dk_of ((dk_bind (dk_u1 (h 0 _ rfl))).trans rfl)
theorem dk_177 {code : ByteArray} {pc : Nat} (h : DkAt code pc [177]) : decode code pc = .ok (.return_, 1) := dk_of ((dk_bind (dk_u1 (h 0 _ rfl))).trans rfl)
theorem dk_178 {code : ByteArray} {pc : Nat} (a b : UInt8) (h : DkAt code pc [178, a, b]) : decode code pc = .ok (.getstatic (a.toNat * 256 + b.toNat), 3) := dk_of ((dk_bind (dk_u1 (h 0 _ rfl))).trans ((dk_bind (dk_u2 (h 1 _ rfl) (h 2 _ rfl))).trans rfl))
theorem dk_180 {code : ByteArray} {pc : Nat} (a b : UInt8) (h : DkAt code pc [180, a, b]) : decode code pc = .ok (.getfield (a.toNat * 256 + b.toNat), 3) := dk_of ((dk_bind (dk_u1 (h 0 _ rfl))).trans ((dk_bind (dk_u2 (h 1 _ rfl) (h 2 _ rfl))).trans rfl))
theorem dk_181 {code : ByteArray} {pc : Nat} (a b : UInt8) (h : DkAt code pc [181, a, b]) : decode code pc = .ok (.putfield (a.toNat * 256 + b.toNat), 3) := dk_of ((dk_bind (dk_u1 (h 0 _ rfl))).trans ((dk_bind (dk_u2 (h 1 _ rfl) (h 2 _ rfl))).trans rfl))
theorem dk_182 {code : ByteArray} {pc : Nat} (a b : UInt8) (h : DkAt code pc [182, a, b]) : decode code pc = .ok (.invokevirtual (a.toNat * 256 + b.toNat), 3) := dk_of ((dk_bind (dk_u1 (h 0 _ rfl))).trans ((dk_bind (dk_u2 (h 1 _ rfl) (h 2 _ rfl))).trans rfl))
theorem dk_183 {code : ByteArray} {pc : Nat} (a b : UInt8) (h : DkAt code pc [183, a, b]) : decode code pc = .ok (.invokespecial (a.toNat * 256 + b.toNat), 3) := dk_of ((dk_bind (dk_u1 (h 0 _ rfl))).trans ((dk_bind (dk_u2 (h 1 _ rfl) (h 2 _ rfl))).trans rfl))
theorem dk_184 {code : ByteArray} {pc : Nat} (a b : UInt8) (h : DkAt code pc [184, a, b]) : decode code pc = .ok (.invokestatic (a.toNat * 256 + b.toNat), 3) := dk_of ((dk_bind (dk_u1 (h 0 _ rfl))).trans ((dk_bind (dk_u2 (h 1 _ rfl) (h 2 _ rfl))).trans rfl))
theorem dk_187 {code : ByteArray} {pc : Nat} (a b : UInt8) (h : DkAt code pc [187, a, b]) : decode code pc = .ok (.new (a.toNat * 256 + b.toNat), 3) := dk_of ((dk_bind (dk_u1 (h 0 _ rfl))).trans ((dk_bind (dk_u2 (h 1 _ rfl) (h 2 _ rfl))).trans rfl))
theorem dk_188_8 {code : ByteArray} {pc : Nat} (h : DkAt code pc [188, 8]) : decode code pc = .ok (.newarray .byte, 2) := dk_of ((dk_bind (dk_u1 (h 0 _ rfl))).trans ((dk_bind (dk_u1 (h 1 _ rfl))).trans rfl))
theorem dk_188_10 {code : ByteArray} {pc : Nat} (h : DkAt code pc [188, 10]) : decode code pc = .ok (.newarray .int, 2) := dk_of ((dk_bind (dk_u1 (h 0 _ rfl))).trans ((dk_bind (dk_u1 (h 1 _ rfl))).trans rfl))
theorem dk_188_11 {code : ByteArray} {pc : Nat} (h : DkAt code pc [188, 11]) : decode code pc = .ok (.newarray .long, 2) := dk_of ((dk_bind (dk_u1 (h 0 _ rfl))).trans ((dk_bind (dk_u1 (h 1 _ rfl))).trans rfl))
theorem dk_189 {code : ByteArray} {pc : Nat} (a b : UInt8) (h : DkAt code pc [189, a, b]) : decode code pc = .ok (.anewarray (a.toNat * 256 + b.toNat), 3) := dk_of ((dk_bind (dk_u1 (h 0 _ rfl))).trans ((dk_bind (dk_u2 (h 1 _ rfl) (h 2 _ rfl))).trans rfl))
theorem dk_190 {code : ByteArray} {pc : Nat} (h : DkAt code pc [190]) : decode code pc = .ok (.arraylength, 1) := dk_of ((dk_bind (dk_u1 (h 0 _ rfl))).trans rfl)
theorem dk_191 {code : ByteArray} {pc : Nat} (h : DkAt code pc [191]) : decode code pc = .ok (.athrow, 1) := dk_of ((dk_bind (dk_u1 (h 0 _ rfl))).trans rfl)
theorem dk_192 {code : ByteArray} {pc : Nat} (a b : UInt8) (h : DkAt code pc [192, a, b]) : decode code pc = .ok (.checkcast (a.toNat * 256 + b.toNat), 3) := dk_of ((dk_bind (dk_u1 (h 0 _ rfl))).trans ((dk_bind (dk_u2 (h 1 _ rfl) (h 2 _ rfl))).trans rfl))
theorem dk_198 {code : ByteArray} {pc : Nat} (a b : UInt8) (h : DkAt code pc [198, a, b]) : decode code pc = .ok (.ifnull (Reader.signed 16 (a.toNat * 256 + b.toNat)), 3) := dk_of ((dk_bind (dk_u1 (h 0 _ rfl))).trans ((dk_bind (dk_map (dk_u2 (h 1 _ rfl) (h 2 _ rfl)))).trans rfl))
theorem dk_199 {code : ByteArray} {pc : Nat} (a b : UInt8) (h : DkAt code pc [199, a, b]) : decode code pc = .ok (.ifnonnull (Reader.signed 16 (a.toNat * 256 + b.toNat)), 3) := dk_of ((dk_bind (dk_u1 (h 0 _ rfl))).trans ((dk_bind (dk_map (dk_u2 (h 1 _ rfl) (h 2 _ rfl)))).trans rfl))
/-! DistinctCountUtil -/
set_option maxRecDepth 100000
def RX3 : String := "DistinctCountUtil"
abbrev cX3_checkPrecisionParameter : ByteArray := prog_1_method_1_code
def yX3_checkPrecisionParameter : MethodName := ⟨RX3, "checkPrecisionParameter", "(III)V"⟩
def dkwX3_checkPrecisionParameter_0 : List UInt8 := [26, 27, 161, 0, 8, 26, 28, 164, 0, 13, 187, 0, 1, 89, 18, 3, 183, 0, 5, 191, 177]
abbrev dktX3_checkPrecisionParameter_0 : List UInt8 := dkwX3_checkPrecisionParameter_0 ++ []
theorem dksX3_checkPrecisionParameter_0 : cX3_checkPrecisionParameter.data.toList.drop 0 = dktX3_checkPrecisionParameter_0 := by decide +kernel
theorem dX3_checkPrecisionParameter_0 : decode cX3_checkPrecisionParameter 0 = .ok (.iload_n 0, 1) := dk_26 (dk_at dksX3_checkPrecisionParameter_0 0 rfl rfl)
theorem dX3_checkPrecisionParameter_1 : decode cX3_checkPrecisionParameter 1 = .ok (.iload_n 1, 1) := dk_27 (dk_at dksX3_checkPrecisionParameter_0 1 rfl rfl)
theorem dX3_checkPrecisionParameter_2 : decode cX3_checkPrecisionParameter 2 = .ok (.if_icmp .lt 8, 3) := dk_161 0 8 (dk_at dksX3_checkPrecisionParameter_0 2 rfl rfl)
theorem dX3_checkPrecisionParameter_5 : decode cX3_checkPrecisionParameter 5 = .ok (.iload_n 0, 1) := dk_26 (dk_at dksX3_checkPrecisionParameter_0 5 rfl rfl)
theorem dX3_checkPrecisionParameter_6 : decode cX3_checkPrecisionParameter 6 = .ok (.iload_n 2, 1) := dk_28 (dk_at dksX3_checkPrecisionParameter_0 6 rfl rfl)
theorem dX3_checkPrecisionParameter_7 : decode cX3_checkPrecisionParameter 7 = .ok (.if_icmp .le 13, 3) := dk_164 0 13 (dk_at dksX3_checkPrecisionParameter_0 7 rfl rfl)
theorem dX3_checkPrecisionParameter_10 : decode cX3_checkPrecisionParameter 10 = .ok (.new 1, 3) := dk_187 0 1 (dk_at dksX3_checkPrecisionParameter_0 10 rfl rfl)
theorem dX3_checkPrecisionParameter_13 : decode cX3_checkPrecisionParameter 13 = .ok (.dup, 1) := dk_89 (dk_at dksX3_checkPrecisionParameter_0 13 rfl rfl)
theorem dX3_checkPrecisionParameter_14 : decode cX3_checkPrecisionParameter 14 = .ok (.ldc 3, 2) := dk_18 3 (dk_at dksX3_checkPrecisionParameter_0 14 rfl rfl)
theorem dX3_checkPrecisionParameter_16 : decode cX3_checkPrecisionParameter 16 = .ok (.invokespecial 5, 3) := dk_183 0 5 (dk_at dksX3_checkPrecisionParameter_0 16 rfl rfl)
theorem dX3_checkPrecisionParameter_19 : decode cX3_checkPrecisionParameter 19 = .ok (.athrow, 1) := dk_191 (dk_at dksX3_checkPrecisionParameter_0 19 rfl rfl)
theorem dX3_checkPrecisionParameter_20 : decode cX3_checkPrecisionParameter 20 = .ok (.return_, 1) := dk_177 (dk_at dksX3_checkPrecisionParameter_0 20 rfl rfl)
abbrev cX3_computeToken : ByteArray := prog_1_method_2_code
def yX3_computeToken : MethodName := ⟨RX3, "computeToken", "(J)I"⟩
def dkwX3_computeToken_1 : List UInt8 := [16, 6, 120, 29, 128, 172]
abbrev dktX3_computeToken_1 : List UInt8 := dkwX3_computeToken_1 ++ []
def dkwX3_computeToken_0 : List UInt8 := [30, 16, 38, 125, 136, 61, 30, 20, 0, 9, 131, 16, 26, 121, 20, 0, 9, 131, 184, 0, 11, 62, 28]
abbrev dktX3_computeToken_0 : List UInt8 := dkwX3_computeToken_0 ++ dktX3_computeToken_1
theorem dksX3_computeToken_0 : cX3_computeToken.data.toList.drop 0 = dktX3_computeToken_0 := by decide +kernel
theorem dksX3_computeToken_1 : cX3_computeToken.data.toList.drop 23 = dktX3_computeToken_1 := dk_seg dksX3_computeToken_0 23 rfl rfl
theorem dX3_computeToken_0 : decode cX3_computeToken 0 = .ok (.lload_n 0, 1) := dk_30 (dk_at dksX3_computeToken_0 0 rfl rfl)
theorem dX3_computeToken_1 : decode cX3_computeToken 1 = .ok (.bipush 38, 2) := dk_16 38 (dk_at dksX3_computeToken_0 1 rfl rfl)
theorem dX3_computeToken_3 : decode cX3_computeToken 3 = .ok (.lushr, 1) := dk_125 (dk_at dksX3_computeToken_0 3 rfl rfl)
theorem dX3_computeToken_4 : decode cX3_computeToken 4 = .ok (.l2i, 1) := dk_136 (dk_at dksX3_computeToken_0 4 rfl rfl)
theorem dX3_computeToken_5 : decode cX3_computeToken 5 = .ok (.istore_n 2, 1) := dk_61 (dk_at dksX3_computeToken_0 5 rfl rfl)
theorem dX3_computeToken_6 : decode cX3_computeToken 6 = .ok (.lload_n 0, 1) := dk_30 (dk_at dksX3_computeToken_0 6 rfl rfl)
theorem dX3_computeToken_7 : decode cX3_computeToken 7 = .ok (.ldc2_w 9, 3) := dk_20 0 9 (dk_at dksX3_computeToken_0 7 rfl rfl)
theorem dX3_computeToken_10 : decode cX3_computeToken 10 = .ok (.lxor, 1) := dk_131 (dk_at dksX3_computeToken_0 10 rfl rfl)
theorem dX3_computeToken_11 : decode cX3_computeToken 11 = .ok (.bipush 26, 2) := dk_16 26 (dk_at dksX3_computeToken_0 11 rfl rfl)
theorem dX3_computeToken_13 : decode cX3_computeToken 13 = .ok (.lshl, 1) := dk_121 (dk_at dksX3_computeToken_0 13 rfl rfl)
theorem dX3_computeToken_14 : decode cX3_computeToken 14 = .ok (.ldc2_w 9, 3) := dk_20 0 9 (dk_at dksX3_computeToken_0 14 rfl rfl)
theorem dX3_computeToken_17 : decode cX3_computeToken 17 = .ok (.lxor, 1) := dk_131 (dk_at dksX3_computeToken_0 17 rfl rfl)
theorem dX3_computeToken_18 : decode cX3_computeToken 18 = .ok (.invokestatic 11, 3) := dk_184 0 11 (dk_at dksX3_computeToken_0 18 rfl rfl)
theorem dX3_computeToken_21 : decode cX3_computeToken 21 = .ok (.istore_n 3, 1) := dk_62 (dk_at dksX3_computeToken_0 21 rfl rfl)
theorem dX3_computeToken_22 : decode cX3_computeToken 22 = .ok (.iload_n 2, 1) := dk_28 (dk_at dksX3_computeToken_0 22 rfl rfl)
theorem dX3_computeToken_23 : decode cX3_computeToken 23 = .ok (.bipush 6, 2) := dk_16 6 (dk_at dksX3_computeToken_1 0 rfl rfl)
theorem dX3_computeToken_25 : decode cX3_computeToken 25 = .ok (.ishl, 1) := dk_120 (dk_at dksX3_computeToken_1 2 rfl rfl)
theorem dX3_computeToken_26 : decode cX3_computeToken 26 = .ok (.iload_n 3, 1) := dk_29 (dk_at dksX3_computeToken_1 3 rfl rfl)
theorem dX3_computeToken_27 : decode cX3_computeToken 27 = .ok (.ior, 1) := dk_128 (dk_at dksX3_computeToken_1 4 rfl rfl)
theorem dX3_computeToken_28 : decode cX3_computeToken 28 = .ok (.ireturn, 1) := dk_172 (dk_at dksX3_computeToken_1 5 rfl rfl)
abbrev cX3_reconstructHash : ByteArray := prog_1_method_3_code
def yX3_reconstructHash : MethodName := ⟨RX3, "reconstructHash", "(I)J"⟩
def dkwX3_reconstructHash_0 : List UInt8 := [26, 133, 20, 0, 17, 127, 64, 20, 0, 19, 26, 125, 31, 16, 32, 121, 129, 173]
abbrev dktX3_reconstructHash_0 : List UInt8 := dkwX3_reconstructHash_0 ++ []
theorem dksX3_reconstructHash_0 : cX3_reconstructHash.data.toList.drop 0 = dktX3_reconstructHash_0 := by decide +kernel
theorem dX3_reconstructHash_0 : decode cX3_reconstructHash 0 = .ok (.iload_n 0, 1) := dk_26 (dk_at dksX3_reconstructHash_0 0 rfl rfl)
theorem dX3_reconstructHash_1 : decode cX3_reconstructHash 1 = .ok (.i2l, 1) := dk_133 (dk_at dksX3_reconstructHash_0 1 rfl rfl)
theorem dX3_reconstructHash_2 : decode cX3_reconstructHash 2 = .ok (.ldc2_w 17, 3) := dk_20 0 17 (dk_at dksX3_reconstructHash_0 2 rfl rfl)
theorem dX3_reconstructHash_5 : decode cX3_reconstructHash 5 = .ok (.land, 1) := dk_127 (dk_at dksX3_reconstructHash_0 5 rfl rfl)
theorem dX3_reconstructHash_6 : decode cX3_reconstructHash 6 = .ok (.lstore_n 1, 1) := dk_64 (dk_at dksX3_reconstructHash_0 6 rfl rfl)
theorem dX3_reconstructHash_7 : decode cX3_reconstructHash 7 = .ok (.ldc2_w 19, 3) := dk_20 0 19 (dk_at dksX3_reconstructHash_0 7 rfl rfl)
theorem dX3_reconstructHash_10 : decode cX3_reconstructHash 10 = .ok (.iload_n 0, 1) := dk_26 (dk_at dksX3_reconstructHash_0 10 rfl rfl)
theorem dX3_reconstructHash_11 : decode cX3_reconstructHash 11 = .ok (.lushr, 1) := dk_125 (dk_at dksX3_reconstructHash_0 11 rfl rfl)
theorem dX3_reconstructHash_12 : decode cX3_reconstructHash 12 = .ok (.lload_n 1, 1) := dk_31 (dk_at dksX3_reconstructHash_0 12 rfl rfl)
theorem dX3_reconstructHash_13 : decode cX3_reconstructHash 13 = .ok (.bipush 32, 2) := dk_16 32 (dk_at dksX3_reconstructHash_0 13 rfl rfl)
theorem dX3_reconstructHash_15 : decode cX3_reconstructHash 15 = .ok (.lshl, 1) := dk_121 (dk_at dksX3_reconstructHash_0 15 rfl rfl)
theorem dX3_reconstructHash_16 : decode cX3_reconstructHash 16 = .ok (.lor, 1) := dk_129 (dk_at dksX3_reconstructHash_0 16 rfl rfl)
theorem dX3_reconstructHash_17 : decode cX3_reconstructHash 17 = .ok (.lreturn, 1) := dk_173 (dk_at dksX3_reconstructHash_0 17 rfl rfl)
theorem q9 : (Jvm.Cond.initialized "DistinctCountUtil") ∈ lw_all := lw_g (lw_at lw_m1 3 rfl) rfl
theorem q41 : (Jvm.Cond.static ({ cls := "DistinctCountUtil", name := "checkPrecisionParameter", desc := "(III)V" } : Jvm.MethodName)) ∈ lw_all := lw_g (lw_at lw_m1 35 rfl) rfl
theorem q42 : (Jvm.Cond.code ({ cls := "DistinctCountUtil", name := "checkPrecisionParameter", desc := "(III)V" } : Jvm.MethodName) prog_1_method_1_code (3 : Nat) (Option.none : Option Jvm.ClassFile.FieldType)) ∈ lw_all := lw_g (lw_at lw_m1 36 rfl) rfl
theorem q43 : (Jvm.Cond.classLink "DistinctCountUtil" (1 : Nat) "java/lang/IllegalArgumentException") ∈ lw_all := lw_g (lw_at lw_m1 37 rfl) rfl
theorem q82 : (Jvm.Cond.stringRef "DistinctCountUtil" (3 : Nat) "illegal precision parameter") ∈ lw_tbl := lw_at lw_m1 76 rfl
theorem q83 : (Jvm.Cond.methodLink "DistinctCountUtil" (5 : Nat) ({ cls := "java/lang/IllegalArgumentException", name := "<init>", desc := "(Ljava/lang/String;)V" } : Jvm.MethodName)) ∈ lw_all := lw_g (lw_at lw_m1 77 rfl) rfl
theorem q317 : (Jvm.Cond.static ({ cls := "DistinctCountUtil", name := "computeToken", desc := "(J)I" } : Jvm.MethodName)) ∈ lw_all := lw_g (lw_at lw_m2 71 rfl) rfl
theorem q318 : (Jvm.Cond.code ({ cls := "DistinctCountUtil", name := "computeToken", desc := "(J)I" } : Jvm.MethodName) prog_1_method_2_code (4 : Nat) (Option.some Jvm.ClassFile.FieldType.int)) ∈ lw_all := lw_g (lw_at lw_m2 72 rfl) rfl
theorem q319 : (Jvm.Cond.constantLong "DistinctCountUtil" (9 : Nat) (-1 : Int64)) ∈ lw_all := lw_g (lw_at lw_m2 73 rfl) rfl
theorem q320 : (Jvm.Cond.methodLink "DistinctCountUtil" (11 : Nat) ({ cls := "java/lang/Long", name := "numberOfLeadingZeros", desc := "(J)I" } : Jvm.MethodName)) ∈ lw_all := lw_g (lw_at lw_m2 74 rfl) rfl
theorem q326 : (Jvm.Cond.static ({ cls := "DistinctCountUtil", name := "reconstructHash", desc := "(I)J" } : Jvm.MethodName)) ∈ lw_all := lw_g (lw_at lw_m2 80 rfl) rfl
theorem q327 : (Jvm.Cond.code ({ cls := "DistinctCountUtil", name := "reconstructHash", desc := "(I)J" } : Jvm.MethodName) prog_1_method_3_code (3 : Nat) (Option.some Jvm.ClassFile.FieldType.long)) ∈ lw_all := lw_g (lw_at lw_m2 81 rfl) rfl
theorem q328 : (Jvm.Cond.constantLong "DistinctCountUtil" (17 : Nat) (4294967232 : Int64)) ∈ lw_all := lw_g (lw_at lw_m2 82 rfl) rfl
theorem q329 : (Jvm.Cond.constantLong "DistinctCountUtil" (19 : Nat) (274877906943 : Int64)) ∈ lw_all := lw_g (lw_at lw_m2 83 rfl) rfl
/-! UltraLogLog -/
set_option maxRecDepth 100000
def RX2 : String := "UltraLogLog"
def TX2 : u_T := fun k => match k with
  | _ => ("UltraLogLog", "state", "[B", true)
def tyX2 : Nat → FieldType := fun k => match k with
  | _ => .array .byte
abbrev wsX20 : List Cond := u_ws RX2 TX2 1
theorem nmX2 : ∀ a, a < 1 → ∀ b, b < 1 → a ≠ b → (TX2 a).2.1 ≠ (TX2 b).2.1 := by decide +kernel
theorem tyX2_ok : ∀ k, k < 1 → parseFieldDescriptor (TX2 k).2.2.1 = some (tyX2 k) := by decide +kernel
abbrev cX2_create : ByteArray := prog_3_method_3_code
def yX2_create : MethodName := ⟨RX2, "create", "(I)LUltraLogLog;"⟩
def dkwX2_create_0 : List UInt8 := [26, 6, 16, 26, 184, 0, 15, 187, 0, 10, 89, 26, 183, 0, 21, 176]
abbrev dktX2_create_0 : List UInt8 := dkwX2_create_0 ++ []
theorem dksX2_create_0 : cX2_create.data.toList.drop 0 = dktX2_create_0 := by decide +kernel
theorem dX2_create_0 : decode cX2_create 0 = .ok (.iload_n 0, 1) := dk_26 (dk_at dksX2_create_0 0 rfl rfl)
theorem dX2_create_1 : decode cX2_create 1 = .ok (.iconst 3, 1) := dk_6 (dk_at dksX2_create_0 1 rfl rfl)
theorem dX2_create_2 : decode cX2_create 2 = .ok (.bipush 26, 2) := dk_16 26 (dk_at dksX2_create_0 2 rfl rfl)
theorem dX2_create_4 : decode cX2_create 4 = .ok (.invokestatic 15, 3) := dk_184 0 15 (dk_at dksX2_create_0 4 rfl rfl)
theorem dX2_create_7 : decode cX2_create 7 = .ok (.new 10, 3) := dk_187 0 10 (dk_at dksX2_create_0 7 rfl rfl)
theorem dX2_create_10 : decode cX2_create 10 = .ok (.dup, 1) := dk_89 (dk_at dksX2_create_0 10 rfl rfl)
theorem dX2_create_11 : decode cX2_create 11 = .ok (.iload_n 0, 1) := dk_26 (dk_at dksX2_create_0 11 rfl rfl)
theorem dX2_create_12 : decode cX2_create 12 = .ok (.invokespecial 21, 3) := dk_183 0 21 (dk_at dksX2_create_0 12 rfl rfl)
theorem dX2_create_15 : decode cX2_create 15 = .ok (.areturn, 1) := dk_176 (dk_at dksX2_create_0 15 rfl rfl)
abbrev cX2_init : ByteArray := prog_3_method_1_code
def yX2_init : MethodName := ⟨RX2, "<init>", "(I)V"⟩
def dkwX2_init_0 : List UInt8 := [42, 183, 0, 3, 42, 4, 27, 120, 188, 8, 181, 0, 9, 177]
abbrev dktX2_init_0 : List UInt8 := dkwX2_init_0 ++ []
theorem dksX2_init_0 : cX2_init.data.toList.drop 0 = dktX2_init_0 := by decide +kernel
theorem dX2_init_0 : decode cX2_init 0 = .ok (.aload_n 0, 1) := dk_42 (dk_at dksX2_init_0 0 rfl rfl)
theorem dX2_init_1 : decode cX2_init 1 = .ok (.invokespecial 3, 3) := dk_183 0 3 (dk_at dksX2_init_0 1 rfl rfl)
theorem dX2_init_4 : decode cX2_init 4 = .ok (.aload_n 0, 1) := dk_42 (dk_at dksX2_init_0 4 rfl rfl)
theorem dX2_init_5 : decode cX2_init 5 = .ok (.iconst 1, 1) := dk_4 (dk_at dksX2_init_0 5 rfl rfl)
theorem dX2_init_6 : decode cX2_init 6 = .ok (.iload_n 1, 1) := dk_27 (dk_at dksX2_init_0 6 rfl rfl)
theorem dX2_init_7 : decode cX2_init 7 = .ok (.ishl, 1) := dk_120 (dk_at dksX2_init_0 7 rfl rfl)
theorem dX2_init_8 : decode cX2_init 8 = .ok (.newarray .byte, 2) := dk_188_8 (dk_at dksX2_init_0 8 rfl rfl)
theorem dX2_init_10 : decode cX2_init 10 = .ok (.putfield 9, 3) := dk_181 0 9 (dk_at dksX2_init_0 10 rfl rfl)
theorem dX2_init_13 : decode cX2_init 13 = .ok (.return_, 1) := dk_177 (dk_at dksX2_init_0 13 rfl rfl)
abbrev cX2_getP : ByteArray := prog_3_method_8_code
def yX2_getP : MethodName := ⟨RX2, "getP", "()I"⟩
def dkwX2_getP_0 : List UInt8 := [16, 31, 42, 180, 0, 9, 190, 184, 0, 51, 100, 172]
abbrev dktX2_getP_0 : List UInt8 := dkwX2_getP_0 ++ []
theorem dksX2_getP_0 : cX2_getP.data.toList.drop 0 = dktX2_getP_0 := by decide +kernel
theorem dX2_getP_0 : decode cX2_getP 0 = .ok (.bipush 31, 2) := dk_16 31 (dk_at dksX2_getP_0 0 rfl rfl)
theorem dX2_getP_2 : decode cX2_getP 2 = .ok (.aload_n 0, 1) := dk_42 (dk_at dksX2_getP_0 2 rfl rfl)
theorem dX2_getP_3 : decode cX2_getP 3 = .ok (.getfield 9, 3) := dk_180 0 9 (dk_at dksX2_getP_0 3 rfl rfl)
theorem dX2_getP_6 : decode cX2_getP 6 = .ok (.arraylength, 1) := dk_190 (dk_at dksX2_getP_0 6 rfl rfl)
theorem dX2_getP_7 : decode cX2_getP 7 = .ok (.invokestatic 51, 3) := dk_184 0 51 (dk_at dksX2_getP_0 7 rfl rfl)
theorem dX2_getP_10 : decode cX2_getP 10 = .ok (.isub, 1) := dk_100 (dk_at dksX2_getP_0 10 rfl rfl)
theorem dX2_getP_11 : decode cX2_getP 11 = .ok (.ireturn, 1) := dk_172 (dk_at dksX2_getP_0 11 rfl rfl)
abbrev cX2_getState : ByteArray := prog_3_method_7_code
def yX2_getState : MethodName := ⟨RX2, "getState", "()[B"⟩
theorem dX2_getState_0 : decode cX2_getState 0 = .ok (.aload_n 0, 1) := by decide +kernel
theorem dX2_getState_1 : decode cX2_getState 1 = .ok (.getfield 9, 3) := by decide +kernel
theorem dX2_getState_4 : decode cX2_getState 4 = .ok (.areturn, 1) := by decide +kernel
abbrev cX2_isEmpty : ByteArray := prog_3_method_16_code
def yX2_isEmpty : MethodName := ⟨RX2, "isEmpty", "()Z"⟩
def dkwX2_isEmpty_1 : List UInt8 := [153, 0, 5, 3, 172, 132, 3, 1, 167, 255, 236, 4, 172]
abbrev dktX2_isEmpty_1 : List UInt8 := dkwX2_isEmpty_1 ++ []
def dkwX2_isEmpty_0 : List UInt8 := [42, 180, 0, 9, 76, 43, 190, 61, 3, 62, 29, 28, 162, 0, 21, 43, 29, 51, 54, 4, 21, 4]
abbrev dktX2_isEmpty_0 : List UInt8 := dkwX2_isEmpty_0 ++ dktX2_isEmpty_1
theorem dksX2_isEmpty_0 : cX2_isEmpty.data.toList.drop 0 = dktX2_isEmpty_0 := by decide +kernel
theorem dksX2_isEmpty_1 : cX2_isEmpty.data.toList.drop 22 = dktX2_isEmpty_1 := dk_seg dksX2_isEmpty_0 22 rfl rfl
theorem dX2_isEmpty_0 : decode cX2_isEmpty 0 = .ok (.aload_n 0, 1) := dk_42 (dk_at dksX2_isEmpty_0 0 rfl rfl)
theorem dX2_isEmpty_1 : decode cX2_isEmpty 1 = .ok (.getfield 9, 3) := dk_180 0 9 (dk_at dksX2_isEmpty_0 1 rfl rfl)
theorem dX2_isEmpty_4 : decode cX2_isEmpty 4 = .ok (.astore_n 1, 1) := dk_76 (dk_at dksX2_isEmpty_0 4 rfl rfl)
theorem dX2_isEmpty_5 : decode cX2_isEmpty 5 = .ok (.aload_n 1, 1) := dk_43 (dk_at dksX2_isEmpty_0 5 rfl rfl)
theorem dX2_isEmpty_6 : decode cX2_isEmpty 6 = .ok (.arraylength, 1) := dk_190 (dk_at dksX2_isEmpty_0 6 rfl rfl)
theorem dX2_isEmpty_7 : decode cX2_isEmpty 7 = .ok (.istore_n 2, 1) := dk_61 (dk_at dksX2_isEmpty_0 7 rfl rfl)
theorem dX2_isEmpty_8 : decode cX2_isEmpty 8 = .ok (.iconst 0, 1) := dk_3 (dk_at dksX2_isEmpty_0 8 rfl rfl)
theorem dX2_isEmpty_9 : decode cX2_isEmpty 9 = .ok (.istore_n 3, 1) := dk_62 (dk_at dksX2_isEmpty_0 9 rfl rfl)
theorem dX2_isEmpty_10 : decode cX2_isEmpty 10 = .ok (.iload_n 3, 1) := dk_29 (dk_at dksX2_isEmpty_0 10 rfl rfl)
theorem dX2_isEmpty_11 : decode cX2_isEmpty 11 = .ok (.iload_n 2, 1) := dk_28 (dk_at dksX2_isEmpty_0 11 rfl rfl)
theorem dX2_isEmpty_12 : decode cX2_isEmpty 12 = .ok (.if_icmp .ge 21, 3) := dk_162 0 21 (dk_at dksX2_isEmpty_0 12 rfl rfl)
theorem dX2_isEmpty_15 : decode cX2_isEmpty 15 = .ok (.aload_n 1, 1) := dk_43 (dk_at dksX2_isEmpty_0 15 rfl rfl)
theorem dX2_isEmpty_16 : decode cX2_isEmpty 16 = .ok (.iload_n 3, 1) := dk_29 (dk_at dksX2_isEmpty_0 16 rfl rfl)
theorem dX2_isEmpty_17 : decode cX2_isEmpty 17 = .ok (.baload, 1) := dk_51 (dk_at dksX2_isEmpty_0 17 rfl rfl)
theorem dX2_isEmpty_18 : decode cX2_isEmpty 18 = .ok (.istore 4, 2) := dk_54 4 (dk_at dksX2_isEmpty_0 18 rfl rfl)
theorem dX2_isEmpty_20 : decode cX2_isEmpty 20 = .ok (.iload 4, 2) := dk_21 4 (dk_at dksX2_isEmpty_0 20 rfl rfl)
theorem dX2_isEmpty_22 : decode cX2_isEmpty 22 = .ok (.ifCond .eq 5, 3) := dk_153 0 5 (dk_at dksX2_isEmpty_1 0 rfl rfl)
theorem dX2_isEmpty_25 : decode cX2_isEmpty 25 = .ok (.iconst 0, 1) := dk_3 (dk_at dksX2_isEmpty_1 3 rfl rfl)
theorem dX2_isEmpty_26 : decode cX2_isEmpty 26 = .ok (.ireturn, 1) := dk_172 (dk_at dksX2_isEmpty_1 4 rfl rfl)
theorem dX2_isEmpty_27 : decode cX2_isEmpty 27 = .ok (.iinc 3 1, 3) := dk_132 3 1 (dk_at dksX2_isEmpty_1 5 rfl rfl)
theorem dX2_isEmpty_30 : decode cX2_isEmpty 30 = .ok (.goto (-20), 3) := dk_167 255 236 (dk_at dksX2_isEmpty_1 8 rfl rfl)
theorem dX2_isEmpty_33 : decode cX2_isEmpty 33 = .ok (.iconst 1, 1) := dk_4 (dk_at dksX2_isEmpty_1 11 rfl rfl)
theorem dX2_isEmpty_34 : decode cX2_isEmpty 34 = .ok (.ireturn, 1) := dk_172 (dk_at dksX2_isEmpty_1 12 rfl rfl)
abbrev cX2_add : ByteArray := prog_3_method_9_code
def yX2_add : MethodName := ⟨RX2, "add", "(J)LUltraLogLog;"⟩
def dkwX2_add_0 : List UInt8 := [42, 31, 1, 182, 0, 55, 87, 42, 176]
abbrev dktX2_add_0 : List UInt8 := dkwX2_add_0 ++ []
theorem dksX2_add_0 : cX2_add.data.toList.drop 0 = dktX2_add_0 := by decide +kernel
theorem dX2_add_0 : decode cX2_add 0 = .ok (.aload_n 0, 1) := dk_42 (dk_at dksX2_add_0 0 rfl rfl)
theorem dX2_add_1 : decode cX2_add 1 = .ok (.lload_n 1, 1) := dk_31 (dk_at dksX2_add_0 1 rfl rfl)
theorem dX2_add_2 : decode cX2_add 2 = .ok (.aconst_null, 1) := dk_1 (dk_at dksX2_add_0 2 rfl rfl)
theorem dX2_add_3 : decode cX2_add 3 = .ok (.invokevirtual 55, 3) := dk_182 0 55 (dk_at dksX2_add_0 3 rfl rfl)
theorem dX2_add_6 : decode cX2_add 6 = .ok (.pop, 1) := dk_87 (dk_at dksX2_add_0 6 rfl rfl)
theorem dX2_add_7 : decode cX2_add 7 = .ok (.aload_n 0, 1) := dk_42 (dk_at dksX2_add_0 7 rfl rfl)
theorem dX2_add_8 : decode cX2_add 8 = .ok (.areturn, 1) := dk_176 (dk_at dksX2_add_0 8 rfl rfl)
abbrev cX2_add_2 : ByteArray := prog_3_method_12_code
def yX2_add_2 : MethodName := ⟨RX2, "add", "(JLStateChangeObserver;)LUltraLogLog;"⟩
def dkwX2_add_2_4 : List UInt8 := [159, 0, 15, 16, 64, 21, 4, 100, 54, 11, 3, 184, 0, 75, 88, 42, 176]
abbrev dktX2_add_2_4 : List UInt8 := dkwX2_add_2_4 ++ []
def dkwX2_add_2_3 : List UInt8 := [184, 0, 79, 54, 10, 42, 180, 0, 9, 21, 5, 21, 10, 84, 45, 198, 0, 22, 21, 10, 21, 7]
abbrev dktX2_add_2_3 : List UInt8 := dkwX2_add_2_3 ++ dktX2_add_2_4
def dkwX2_add_2_2 : List UInt8 := [21, 7, 184, 0, 75, 55, 8, 22, 8, 10, 21, 6, 21, 4, 2, 130, 96, 121, 129, 55, 8, 22, 8]
abbrev dktX2_add_2_2 : List UInt8 := dkwX2_add_2_2 ++ dktX2_add_2_3
def dkwX2_add_2_1 : List UInt8 := [131, 21, 4, 116, 121, 20, 0, 73, 131, 184, 0, 69, 54, 6, 42, 180, 0, 9, 21, 5, 51, 54, 7]
abbrev dktX2_add_2_1 : List UInt8 := dkwX2_add_2_1 ++ dktX2_add_2_2
def dkwX2_add_2_0 : List UInt8 := [42, 180, 0, 9, 190, 133, 10, 101, 184, 0, 69, 54, 4, 31, 21, 4, 125, 136, 54, 5, 31, 20, 0, 73]
abbrev dktX2_add_2_0 : List UInt8 := dkwX2_add_2_0 ++ dktX2_add_2_1
theorem dksX2_add_2_0 : cX2_add_2.data.toList.drop 0 = dktX2_add_2_0 := by decide +kernel
theorem dksX2_add_2_1 : cX2_add_2.data.toList.drop 24 = dktX2_add_2_1 := dk_seg dksX2_add_2_0 24 rfl rfl
theorem dksX2_add_2_2 : cX2_add_2.data.toList.drop 47 = dktX2_add_2_2 := dk_seg dksX2_add_2_1 23 rfl rfl
theorem dksX2_add_2_3 : cX2_add_2.data.toList.drop 70 = dktX2_add_2_3 := dk_seg dksX2_add_2_2 23 rfl rfl
theorem dksX2_add_2_4 : cX2_add_2.data.toList.drop 92 = dktX2_add_2_4 := dk_seg dksX2_add_2_3 22 rfl rfl
theorem dX2_add_2_0 : decode cX2_add_2 0 = .ok (.aload_n 0, 1) := dk_42 (dk_at dksX2_add_2_0 0 rfl rfl)
theorem dX2_add_2_1 : decode cX2_add_2 1 = .ok (.getfield 9, 3) := dk_180 0 9 (dk_at dksX2_add_2_0 1 rfl rfl)
theorem dX2_add_2_4 : decode cX2_add_2 4 = .ok (.arraylength, 1) := dk_190 (dk_at dksX2_add_2_0 4 rfl rfl)
theorem dX2_add_2_5 : decode cX2_add_2 5 = .ok (.i2l, 1) := dk_133 (dk_at dksX2_add_2_0 5 rfl rfl)
theorem dX2_add_2_6 : decode cX2_add_2 6 = .ok (.lconst 1, 1) := dk_10 (dk_at dksX2_add_2_0 6 rfl rfl)
theorem dX2_add_2_7 : decode cX2_add_2 7 = .ok (.lsub, 1) := dk_101 (dk_at dksX2_add_2_0 7 rfl rfl)
theorem dX2_add_2_8 : decode cX2_add_2 8 = .ok (.invokestatic 69, 3) := dk_184 0 69 (dk_at dksX2_add_2_0 8 rfl rfl)
theorem dX2_add_2_11 : decode cX2_add_2 11 = .ok (.istore 4, 2) := dk_54 4 (dk_at dksX2_add_2_0 11 rfl rfl)
theorem dX2_add_2_13 : decode cX2_add_2 13 = .ok (.lload_n 1, 1) := dk_31 (dk_at dksX2_add_2_0 13 rfl rfl)
theorem dX2_add_2_14 : decode cX2_add_2 14 = .ok (.iload 4, 2) := dk_21 4 (dk_at dksX2_add_2_0 14 rfl rfl)
theorem dX2_add_2_16 : decode cX2_add_2 16 = .ok (.lushr, 1) := dk_125 (dk_at dksX2_add_2_0 16 rfl rfl)
theorem dX2_add_2_17 : decode cX2_add_2 17 = .ok (.l2i, 1) := dk_136 (dk_at dksX2_add_2_0 17 rfl rfl)
theorem dX2_add_2_18 : decode cX2_add_2 18 = .ok (.istore 5, 2) := dk_54 5 (dk_at dksX2_add_2_0 18 rfl rfl)
theorem dX2_add_2_20 : decode cX2_add_2 20 = .ok (.lload_n 1, 1) := dk_31 (dk_at dksX2_add_2_0 20 rfl rfl)
theorem dX2_add_2_21 : decode cX2_add_2 21 = .ok (.ldc2_w 73, 3) := dk_20 0 73 (dk_at dksX2_add_2_0 21 rfl rfl)
theorem dX2_add_2_24 : decode cX2_add_2 24 = .ok (.lxor, 1) := dk_131 (dk_at dksX2_add_2_1 0 rfl rfl)
theorem dX2_add_2_25 : decode cX2_add_2 25 = .ok (.iload 4, 2) := dk_21 4 (dk_at dksX2_add_2_1 1 rfl rfl)
theorem dX2_add_2_27 : decode cX2_add_2 27 = .ok (.ineg, 1) := dk_116 (dk_at dksX2_add_2_1 3 rfl rfl)
theorem dX2_add_2_28 : decode cX2_add_2 28 = .ok (.lshl, 1) := dk_121 (dk_at dksX2_add_2_1 4 rfl rfl)
theorem dX2_add_2_29 : decode cX2_add_2 29 = .ok (.ldc2_w 73, 3) := dk_20 0 73 (dk_at dksX2_add_2_1 5 rfl rfl)
theorem dX2_add_2_32 : decode cX2_add_2 32 = .ok (.lxor, 1) := dk_131 (dk_at dksX2_add_2_1 8 rfl rfl)
theorem dX2_add_2_33 : decode cX2_add_2 33 = .ok (.invokestatic 69, 3) := dk_184 0 69 (dk_at dksX2_add_2_1 9 rfl rfl)
theorem dX2_add_2_36 : decode cX2_add_2 36 = .ok (.istore 6, 2) := dk_54 6 (dk_at dksX2_add_2_1 12 rfl rfl)
theorem dX2_add_2_38 : decode cX2_add_2 38 = .ok (.aload_n 0, 1) := dk_42 (dk_at dksX2_add_2_1 14 rfl rfl)
theorem dX2_add_2_39 : decode cX2_add_2 39 = .ok (.getfield 9, 3) := dk_180 0 9 (dk_at dksX2_add_2_1 15 rfl rfl)
theorem dX2_add_2_42 : decode cX2_add_2 42 = .ok (.iload 5, 2) := dk_21 5 (dk_at dksX2_add_2_1 18 rfl rfl)
theorem dX2_add_2_44 : decode cX2_add_2 44 = .ok (.baload, 1) := dk_51 (dk_at dksX2_add_2_1 20 rfl rfl)
theorem dX2_add_2_45 : decode cX2_add_2 45 = .ok (.istore 7, 2) := dk_54 7 (dk_at dksX2_add_2_1 21 rfl rfl)
theorem dX2_add_2_47 : decode cX2_add_2 47 = .ok (.iload 7, 2) := dk_21 7 (dk_at dksX2_add_2_2 0 rfl rfl)
theorem dX2_add_2_49 : decode cX2_add_2 49 = .ok (.invokestatic 75, 3) := dk_184 0 75 (dk_at dksX2_add_2_2 2 rfl rfl)
theorem dX2_add_2_52 : decode cX2_add_2 52 = .ok (.lstore 8, 2) := dk_55 8 (dk_at dksX2_add_2_2 5 rfl rfl)
theorem dX2_add_2_54 : decode cX2_add_2 54 = .ok (.lload 8, 2) := dk_22 8 (dk_at dksX2_add_2_2 7 rfl rfl)
theorem dX2_add_2_56 : decode cX2_add_2 56 = .ok (.lconst 1, 1) := dk_10 (dk_at dksX2_add_2_2 9 rfl rfl)
theorem dX2_add_2_57 : decode cX2_add_2 57 = .ok (.iload 6, 2) := dk_21 6 (dk_at dksX2_add_2_2 10 rfl rfl)
theorem dX2_add_2_59 : decode cX2_add_2 59 = .ok (.iload 4, 2) := dk_21 4 (dk_at dksX2_add_2_2 12 rfl rfl)
theorem dX2_add_2_61 : decode cX2_add_2 61 = .ok (.iconst (-1), 1) := dk_2 (dk_at dksX2_add_2_2 14 rfl rfl)
theorem dX2_add_2_62 : decode cX2_add_2 62 = .ok (.ixor, 1) := dk_130 (dk_at dksX2_add_2_2 15 rfl rfl)
theorem dX2_add_2_63 : decode cX2_add_2 63 = .ok (.iadd, 1) := dk_96 (dk_at dksX2_add_2_2 16 rfl rfl)
theorem dX2_add_2_64 : decode cX2_add_2 64 = .ok (.lshl, 1) := dk_121 (dk_at dksX2_add_2_2 17 rfl rfl)
theorem dX2_add_2_65 : decode cX2_add_2 65 = .ok (.lor, 1) := dk_129 (dk_at dksX2_add_2_2 18 rfl rfl)
theorem dX2_add_2_66 : decode cX2_add_2 66 = .ok (.lstore 8, 2) := dk_55 8 (dk_at dksX2_add_2_2 19 rfl rfl)
theorem dX2_add_2_68 : decode cX2_add_2 68 = .ok (.lload 8, 2) := dk_22 8 (dk_at dksX2_add_2_2 21 rfl rfl)
theorem dX2_add_2_70 : decode cX2_add_2 70 = .ok (.invokestatic 79, 3) := dk_184 0 79 (dk_at dksX2_add_2_3 0 rfl rfl)
theorem dX2_add_2_73 : decode cX2_add_2 73 = .ok (.istore 10, 2) := dk_54 10 (dk_at dksX2_add_2_3 3 rfl rfl)
theorem dX2_add_2_75 : decode cX2_add_2 75 = .ok (.aload_n 0, 1) := dk_42 (dk_at dksX2_add_2_3 5 rfl rfl)
theorem dX2_add_2_76 : decode cX2_add_2 76 = .ok (.getfield 9, 3) := dk_180 0 9 (dk_at dksX2_add_2_3 6 rfl rfl)
theorem dX2_add_2_79 : decode cX2_add_2 79 = .ok (.iload 5, 2) := dk_21 5 (dk_at dksX2_add_2_3 9 rfl rfl)
theorem dX2_add_2_81 : decode cX2_add_2 81 = .ok (.iload 10, 2) := dk_21 10 (dk_at dksX2_add_2_3 11 rfl rfl)
theorem dX2_add_2_83 : decode cX2_add_2 83 = .ok (.bastore, 1) := dk_84 (dk_at dksX2_add_2_3 13 rfl rfl)
theorem dX2_add_2_84 : decode cX2_add_2 84 = .ok (.aload_n 3, 1) := dk_45 (dk_at dksX2_add_2_3 14 rfl rfl)
theorem dX2_add_2_85 : decode cX2_add_2 85 = .ok (.ifnull 22, 3) := dk_198 0 22 (dk_at dksX2_add_2_3 15 rfl rfl)
theorem dX2_add_2_88 : decode cX2_add_2 88 = .ok (.iload 10, 2) := dk_21 10 (dk_at dksX2_add_2_3 18 rfl rfl)
theorem dX2_add_2_90 : decode cX2_add_2 90 = .ok (.iload 7, 2) := dk_21 7 (dk_at dksX2_add_2_3 20 rfl rfl)
theorem dX2_add_2_92 : decode cX2_add_2 92 = .ok (.if_icmp .eq 15, 3) := dk_159 0 15 (dk_at dksX2_add_2_4 0 rfl rfl)
theorem dX2_add_2_95 : decode cX2_add_2 95 = .ok (.bipush 64, 2) := dk_16 64 (dk_at dksX2_add_2_4 3 rfl rfl)
theorem dX2_add_2_97 : decode cX2_add_2 97 = .ok (.iload 4, 2) := dk_21 4 (dk_at dksX2_add_2_4 5 rfl rfl)
theorem dX2_add_2_99 : decode cX2_add_2 99 = .ok (.isub, 1) := dk_100 (dk_at dksX2_add_2_4 7 rfl rfl)
theorem dX2_add_2_100 : decode cX2_add_2 100 = .ok (.istore 11, 2) := dk_54 11 (dk_at dksX2_add_2_4 8 rfl rfl)
theorem dX2_add_2_102 : decode cX2_add_2 102 = .ok (.iconst 0, 1) := dk_3 (dk_at dksX2_add_2_4 10 rfl rfl)
theorem dX2_add_2_103 : decode cX2_add_2 103 = .ok (.invokestatic 75, 3) := dk_184 0 75 (dk_at dksX2_add_2_4 11 rfl rfl)
theorem dX2_add_2_106 : decode cX2_add_2 106 = .ok (.pop2, 1) := dk_88 (dk_at dksX2_add_2_4 14 rfl rfl)
theorem dX2_add_2_107 : decode cX2_add_2 107 = .ok (.aload_n 0, 1) := dk_42 (dk_at dksX2_add_2_4 15 rfl rfl)
theorem dX2_add_2_108 : decode cX2_add_2 108 = .ok (.areturn, 1) := dk_176 (dk_at dksX2_add_2_4 16 rfl rfl)
abbrev cX2_unpack : ByteArray := prog_3_method_14_code
def yX2_unpack : MethodName := ⟨RX2, "unpack", "(B)J"⟩
def dkwX2_unpack_0 : List UInt8 := [20, 0, 96, 26, 6, 126, 133, 129, 26, 5, 124, 5, 100, 121, 173]
abbrev dktX2_unpack_0 : List UInt8 := dkwX2_unpack_0 ++ []
theorem dksX2_unpack_0 : cX2_unpack.data.toList.drop 0 = dktX2_unpack_0 := by decide +kernel
theorem dX2_unpack_0 : decode cX2_unpack 0 = .ok (.ldc2_w 96, 3) := dk_20 0 96 (dk_at dksX2_unpack_0 0 rfl rfl)
theorem dX2_unpack_3 : decode cX2_unpack 3 = .ok (.iload_n 0, 1) := dk_26 (dk_at dksX2_unpack_0 3 rfl rfl)
theorem dX2_unpack_4 : decode cX2_unpack 4 = .ok (.iconst 3, 1) := dk_6 (dk_at dksX2_unpack_0 4 rfl rfl)
theorem dX2_unpack_5 : decode cX2_unpack 5 = .ok (.iand, 1) := dk_126 (dk_at dksX2_unpack_0 5 rfl rfl)
theorem dX2_unpack_6 : decode cX2_unpack 6 = .ok (.i2l, 1) := dk_133 (dk_at dksX2_unpack_0 6 rfl rfl)
theorem dX2_unpack_7 : decode cX2_unpack 7 = .ok (.lor, 1) := dk_129 (dk_at dksX2_unpack_0 7 rfl rfl)
theorem dX2_unpack_8 : decode cX2_unpack 8 = .ok (.iload_n 0, 1) := dk_26 (dk_at dksX2_unpack_0 8 rfl rfl)
theorem dX2_unpack_9 : decode cX2_unpack 9 = .ok (.iconst 2, 1) := dk_5 (dk_at dksX2_unpack_0 9 rfl rfl)
theorem dX2_unpack_10 : decode cX2_unpack 10 = .ok (.iushr, 1) := dk_124 (dk_at dksX2_unpack_0 10 rfl rfl)
theorem dX2_unpack_11 : decode cX2_unpack 11 = .ok (.iconst 2, 1) := dk_5 (dk_at dksX2_unpack_0 11 rfl rfl)
theorem dX2_unpack_12 : decode cX2_unpack 12 = .ok (.isub, 1) := dk_100 (dk_at dksX2_unpack_0 12 rfl rfl)
theorem dX2_unpack_13 : decode cX2_unpack 13 = .ok (.lshl, 1) := dk_121 (dk_at dksX2_unpack_0 13 rfl rfl)
theorem dX2_unpack_14 : decode cX2_unpack 14 = .ok (.lreturn, 1) := dk_173 (dk_at dksX2_unpack_0 14 rfl rfl)
abbrev cX2_pack : ByteArray := prog_3_method_15_code
def yX2_pack : MethodName := ⟨RX2, "pack", "(J)B"⟩
def dkwX2_pack_0 : List UInt8 := [30, 184, 0, 69, 4, 96, 61, 28, 116, 5, 120, 133, 30, 28, 121, 16, 62, 125, 129, 136, 145, 172]
abbrev dktX2_pack_0 : List UInt8 := dkwX2_pack_0 ++ []
theorem dksX2_pack_0 : cX2_pack.data.toList.drop 0 = dktX2_pack_0 := by decide +kernel
theorem dX2_pack_0 : decode cX2_pack 0 = .ok (.lload_n 0, 1) := dk_30 (dk_at dksX2_pack_0 0 rfl rfl)
theorem dX2_pack_1 : decode cX2_pack 1 = .ok (.invokestatic 69, 3) := dk_184 0 69 (dk_at dksX2_pack_0 1 rfl rfl)
theorem dX2_pack_4 : decode cX2_pack 4 = .ok (.iconst 1, 1) := dk_4 (dk_at dksX2_pack_0 4 rfl rfl)
theorem dX2_pack_5 : decode cX2_pack 5 = .ok (.iadd, 1) := dk_96 (dk_at dksX2_pack_0 5 rfl rfl)
theorem dX2_pack_6 : decode cX2_pack 6 = .ok (.istore_n 2, 1) := dk_61 (dk_at dksX2_pack_0 6 rfl rfl)
theorem dX2_pack_7 : decode cX2_pack 7 = .ok (.iload_n 2, 1) := dk_28 (dk_at dksX2_pack_0 7 rfl rfl)
theorem dX2_pack_8 : decode cX2_pack 8 = .ok (.ineg, 1) := dk_116 (dk_at dksX2_pack_0 8 rfl rfl)
theorem dX2_pack_9 : decode cX2_pack 9 = .ok (.iconst 2, 1) := dk_5 (dk_at dksX2_pack_0 9 rfl rfl)
theorem dX2_pack_10 : decode cX2_pack 10 = .ok (.ishl, 1) := dk_120 (dk_at dksX2_pack_0 10 rfl rfl)
theorem dX2_pack_11 : decode cX2_pack 11 = .ok (.i2l, 1) := dk_133 (dk_at dksX2_pack_0 11 rfl rfl)
theorem dX2_pack_12 : decode cX2_pack 12 = .ok (.lload_n 0, 1) := dk_30 (dk_at dksX2_pack_0 12 rfl rfl)
theorem dX2_pack_13 : decode cX2_pack 13 = .ok (.iload_n 2, 1) := dk_28 (dk_at dksX2_pack_0 13 rfl rfl)
theorem dX2_pack_14 : decode cX2_pack 14 = .ok (.lshl, 1) := dk_121 (dk_at dksX2_pack_0 14 rfl rfl)
theorem dX2_pack_15 : decode cX2_pack 15 = .ok (.bipush 62, 2) := dk_16 62 (dk_at dksX2_pack_0 15 rfl rfl)
theorem dX2_pack_17 : decode cX2_pack 17 = .ok (.lushr, 1) := dk_125 (dk_at dksX2_pack_0 17 rfl rfl)
theorem dX2_pack_18 : decode cX2_pack 18 = .ok (.lor, 1) := dk_129 (dk_at dksX2_pack_0 18 rfl rfl)
theorem dX2_pack_19 : decode cX2_pack 19 = .ok (.l2i, 1) := dk_136 (dk_at dksX2_pack_0 19 rfl rfl)
theorem dX2_pack_20 : decode cX2_pack 20 = .ok (.i2b, 1) := dk_145 (dk_at dksX2_pack_0 20 rfl rfl)
theorem dX2_pack_21 : decode cX2_pack 21 = .ok (.ireturn, 1) := dk_172 (dk_at dksX2_pack_0 21 rfl rfl)
abbrev cX2_merge : ByteArray := prog_3_method_6_code
def yX2_merge : MethodName := ⟨RX2, "merge", "(LUltraLogLog;LUltraLogLog;)LUltraLogLog;"⟩
def dkwX2_merge_1 : List UInt8 := [163, 0, 12, 42, 182, 0, 33, 43, 182, 0, 37, 176, 43, 182, 0, 33, 42, 182, 0, 37, 176]
abbrev dktX2_merge_1 : List UInt8 := dkwX2_merge_1 ++ []
def dkwX2_merge_0 : List UInt8 := [42, 18, 41, 184, 0, 43, 87, 43, 18, 49, 184, 0, 43, 87, 42, 180, 0, 9, 190, 43, 180, 0, 9, 190]
abbrev dktX2_merge_0 : List UInt8 := dkwX2_merge_0 ++ dktX2_merge_1
theorem dksX2_merge_0 : cX2_merge.data.toList.drop 0 = dktX2_merge_0 := by decide +kernel
theorem dksX2_merge_1 : cX2_merge.data.toList.drop 24 = dktX2_merge_1 := dk_seg dksX2_merge_0 24 rfl rfl
theorem dX2_merge_0 : decode cX2_merge 0 = .ok (.aload_n 0, 1) := dk_42 (dk_at dksX2_merge_0 0 rfl rfl)
theorem dX2_merge_1 : decode cX2_merge 1 = .ok (.ldc 41, 2) := dk_18 41 (dk_at dksX2_merge_0 1 rfl rfl)
theorem dX2_merge_3 : decode cX2_merge 3 = .ok (.invokestatic 43, 3) := dk_184 0 43 (dk_at dksX2_merge_0 3 rfl rfl)
theorem dX2_merge_6 : decode cX2_merge 6 = .ok (.pop, 1) := dk_87 (dk_at dksX2_merge_0 6 rfl rfl)
theorem dX2_merge_7 : decode cX2_merge 7 = .ok (.aload_n 1, 1) := dk_43 (dk_at dksX2_merge_0 7 rfl rfl)
theorem dX2_merge_8 : decode cX2_merge 8 = .ok (.ldc 49, 2) := dk_18 49 (dk_at dksX2_merge_0 8 rfl rfl)
theorem dX2_merge_10 : decode cX2_merge 10 = .ok (.invokestatic 43, 3) := dk_184 0 43 (dk_at dksX2_merge_0 10 rfl rfl)
theorem dX2_merge_13 : decode cX2_merge 13 = .ok (.pop, 1) := dk_87 (dk_at dksX2_merge_0 13 rfl rfl)
theorem dX2_merge_14 : decode cX2_merge 14 = .ok (.aload_n 0, 1) := dk_42 (dk_at dksX2_merge_0 14 rfl rfl)
theorem dX2_merge_15 : decode cX2_merge 15 = .ok (.getfield 9, 3) := dk_180 0 9 (dk_at dksX2_merge_0 15 rfl rfl)
theorem dX2_merge_18 : decode cX2_merge 18 = .ok (.arraylength, 1) := dk_190 (dk_at dksX2_merge_0 18 rfl rfl)
theorem dX2_merge_19 : decode cX2_merge 19 = .ok (.aload_n 1, 1) := dk_43 (dk_at dksX2_merge_0 19 rfl rfl)
theorem dX2_merge_20 : decode cX2_merge 20 = .ok (.getfield 9, 3) := dk_180 0 9 (dk_at dksX2_merge_0 20 rfl rfl)
theorem dX2_merge_23 : decode cX2_merge 23 = .ok (.arraylength, 1) := dk_190 (dk_at dksX2_merge_0 23 rfl rfl)
theorem dX2_merge_24 : decode cX2_merge 24 = .ok (.if_icmp .gt 12, 3) := dk_163 0 12 (dk_at dksX2_merge_1 0 rfl rfl)
theorem dX2_merge_27 : decode cX2_merge 27 = .ok (.aload_n 0, 1) := dk_42 (dk_at dksX2_merge_1 3 rfl rfl)
theorem dX2_merge_28 : decode cX2_merge 28 = .ok (.invokevirtual 33, 3) := dk_182 0 33 (dk_at dksX2_merge_1 4 rfl rfl)
theorem dX2_merge_31 : decode cX2_merge 31 = .ok (.aload_n 1, 1) := dk_43 (dk_at dksX2_merge_1 7 rfl rfl)
theorem dX2_merge_32 : decode cX2_merge 32 = .ok (.invokevirtual 37, 3) := dk_182 0 37 (dk_at dksX2_merge_1 8 rfl rfl)
theorem dX2_merge_35 : decode cX2_merge 35 = .ok (.areturn, 1) := dk_176 (dk_at dksX2_merge_1 11 rfl rfl)
theorem dX2_merge_36 : decode cX2_merge 36 = .ok (.aload_n 1, 1) := dk_43 (dk_at dksX2_merge_1 12 rfl rfl)
theorem dX2_merge_37 : decode cX2_merge 37 = .ok (.invokevirtual 33, 3) := dk_182 0 33 (dk_at dksX2_merge_1 13 rfl rfl)
theorem dX2_merge_40 : decode cX2_merge 40 = .ok (.aload_n 0, 1) := dk_42 (dk_at dksX2_merge_1 16 rfl rfl)
theorem dX2_merge_41 : decode cX2_merge 41 = .ok (.invokevirtual 37, 3) := dk_182 0 37 (dk_at dksX2_merge_1 17 rfl rfl)
theorem dX2_merge_44 : decode cX2_merge 44 = .ok (.areturn, 1) := dk_176 (dk_at dksX2_merge_1 20 rfl rfl)
abbrev cX2_copy : ByteArray := prog_3_method_4_code
def yX2_copy : MethodName := ⟨RX2, "copy", "()LUltraLogLog;"⟩
def dkwX2_copy_0 : List UInt8 := [187, 0, 10, 89, 42, 180, 0, 9, 42, 180, 0, 9, 190, 184, 0, 24, 183, 0, 30, 176]
abbrev dktX2_copy_0 : List UInt8 := dkwX2_copy_0 ++ []
theorem dksX2_copy_0 : cX2_copy.data.toList.drop 0 = dktX2_copy_0 := by decide +kernel
theorem dX2_copy_0 : decode cX2_copy 0 = .ok (.new 10, 3) := dk_187 0 10 (dk_at dksX2_copy_0 0 rfl rfl)
theorem dX2_copy_3 : decode cX2_copy 3 = .ok (.dup, 1) := dk_89 (dk_at dksX2_copy_0 3 rfl rfl)
theorem dX2_copy_4 : decode cX2_copy 4 = .ok (.aload_n 0, 1) := dk_42 (dk_at dksX2_copy_0 4 rfl rfl)
theorem dX2_copy_5 : decode cX2_copy 5 = .ok (.getfield 9, 3) := dk_180 0 9 (dk_at dksX2_copy_0 5 rfl rfl)
theorem dX2_copy_8 : decode cX2_copy 8 = .ok (.aload_n 0, 1) := dk_42 (dk_at dksX2_copy_0 8 rfl rfl)
theorem dX2_copy_9 : decode cX2_copy 9 = .ok (.getfield 9, 3) := dk_180 0 9 (dk_at dksX2_copy_0 9 rfl rfl)
theorem dX2_copy_12 : decode cX2_copy 12 = .ok (.arraylength, 1) := dk_190 (dk_at dksX2_copy_0 12 rfl rfl)
theorem dX2_copy_13 : decode cX2_copy 13 = .ok (.invokestatic 24, 3) := dk_184 0 24 (dk_at dksX2_copy_0 13 rfl rfl)
theorem dX2_copy_16 : decode cX2_copy 16 = .ok (.invokespecial 30, 3) := dk_183 0 30 (dk_at dksX2_copy_0 16 rfl rfl)
theorem dX2_copy_19 : decode cX2_copy 19 = .ok (.areturn, 1) := dk_176 (dk_at dksX2_copy_0 19 rfl rfl)
abbrev cX2_init_2 : ByteArray := prog_3_method_2_code
def yX2_init_2 : MethodName := ⟨RX2, "<init>", "([B)V"⟩
def dkwX2_init_2_0 : List UInt8 := [42, 183, 0, 3, 42, 43, 181, 0, 9, 177]
abbrev dktX2_init_2_0 : List UInt8 := dkwX2_init_2_0 ++ []
theorem dksX2_init_2_0 : cX2_init_2.data.toList.drop 0 = dktX2_init_2_0 := by decide +kernel
theorem dX2_init_2_0 : decode cX2_init_2 0 = .ok (.aload_n 0, 1) := dk_42 (dk_at dksX2_init_2_0 0 rfl rfl)
theorem dX2_init_2_1 : decode cX2_init_2 1 = .ok (.invokespecial 3, 3) := dk_183 0 3 (dk_at dksX2_init_2_0 1 rfl rfl)
theorem dX2_init_2_4 : decode cX2_init_2 4 = .ok (.aload_n 0, 1) := dk_42 (dk_at dksX2_init_2_0 4 rfl rfl)
theorem dX2_init_2_5 : decode cX2_init_2 5 = .ok (.aload_n 1, 1) := dk_43 (dk_at dksX2_init_2_0 5 rfl rfl)
theorem dX2_init_2_6 : decode cX2_init_2 6 = .ok (.putfield 9, 3) := dk_181 0 9 (dk_at dksX2_init_2_0 6 rfl rfl)
theorem dX2_init_2_9 : decode cX2_init_2 9 = .ok (.return_, 1) := dk_177 (dk_at dksX2_init_2_0 9 rfl rfl)
abbrev cX2_add_3 : ByteArray := prog_3_method_13_code
def yX2_add_3 : MethodName := ⟨RX2, "add", "(LUltraLogLog;)LUltraLogLog;"⟩
def dkwX2_add_3_9 : List UInt8 := [180, 0, 9, 21, 9, 22, 10, 184, 0, 79, 84, 132, 9, 1, 167, 255, 156, 42, 176]
abbrev dktX2_add_3_9 : List UInt8 := dkwX2_add_3_9 ++ []
def dkwX2_add_3_8 : List UInt8 := [121, 129, 55, 10, 132, 8, 1, 22, 12, 10, 97, 55, 12, 167, 255, 217, 22, 10, 9, 148, 153, 0, 15, 42]
abbrev dktX2_add_3_8 : List UInt8 := dkwX2_add_3_8 ++ dktX2_add_3_9
def dkwX2_add_3_7 : List UInt8 := [22, 6, 148, 156, 0, 37, 44, 21, 8, 51, 153, 0, 18, 22, 10, 10, 22, 12, 184, 0, 69, 21, 5, 96]
abbrev dktX2_add_3_7 : List UInt8 := dkwX2_add_3_7 ++ dktX2_add_3_8
def dkwX2_add_3_6 : List UInt8 := [21, 9, 51, 184, 0, 75, 44, 21, 8, 51, 184, 0, 75, 129, 55, 10, 132, 8, 1, 10, 55, 12, 22, 12]
abbrev dktX2_add_3_6 : List UInt8 := dkwX2_add_3_6 ++ dktX2_add_3_7
def dkwX2_add_3_5 : List UInt8 := [100, 121, 55, 6, 3, 54, 8, 3, 54, 9, 21, 9, 42, 180, 0, 9, 190, 162, 0, 96, 42, 180, 0, 9]
abbrev dktX2_add_3_5 : List UInt8 := dkwX2_add_3_5 ++ dktX2_add_3_6
def dkwX2_add_3_4 : List UInt8 := [167, 0, 137, 42, 182, 0, 92, 62, 43, 182, 0, 92, 54, 4, 21, 4, 4, 100, 54, 5, 10, 21, 4, 29]
abbrev dktX2_add_3_4 : List UInt8 := dkwX2_add_3_4 ++ dktX2_add_3_5
def dkwX2_add_3_3 : List UInt8 := [180, 0, 9, 29, 51, 184, 0, 75, 21, 4, 184, 0, 75, 129, 184, 0, 79, 84, 132, 3, 1, 167, 255, 210]
abbrev dktX2_add_3_3 : List UInt8 := dkwX2_add_3_3 ++ dktX2_add_3_4
def dkwX2_add_3_2 : List UInt8 := [180, 0, 9, 190, 162, 0, 43, 44, 29, 51, 54, 4, 21, 4, 153, 0, 27, 42, 180, 0, 9, 29, 42]
abbrev dktX2_add_3_2 : List UInt8 := dkwX2_add_3_2 ++ dktX2_add_3_3
def dkwX2_add_3_1 : List UInt8 := [187, 0, 85, 89, 18, 87, 183, 0, 89, 191, 44, 190, 42, 180, 0, 9, 190, 160, 0, 57, 3, 62, 29, 42]
abbrev dktX2_add_3_1 : List UInt8 := dkwX2_add_3_1 ++ dktX2_add_3_2
def dkwX2_add_3_0 : List UInt8 := [43, 18, 83, 184, 0, 43, 87, 43, 180, 0, 9, 77, 44, 190, 42, 180, 0, 9, 190, 162, 0, 13]
abbrev dktX2_add_3_0 : List UInt8 := dkwX2_add_3_0 ++ dktX2_add_3_1
theorem dksX2_add_3_0 : cX2_add_3.data.toList.drop 0 = dktX2_add_3_0 := by decide +kernel
theorem dksX2_add_3_1 : cX2_add_3.data.toList.drop 22 = dktX2_add_3_1 := dk_seg dksX2_add_3_0 22 rfl rfl
theorem dksX2_add_3_2 : cX2_add_3.data.toList.drop 46 = dktX2_add_3_2 := dk_seg dksX2_add_3_1 24 rfl rfl
theorem dksX2_add_3_3 : cX2_add_3.data.toList.drop 69 = dktX2_add_3_3 := dk_seg dksX2_add_3_2 23 rfl rfl
theorem dksX2_add_3_4 : cX2_add_3.data.toList.drop 93 = dktX2_add_3_4 := dk_seg dksX2_add_3_3 24 rfl rfl
theorem dksX2_add_3_5 : cX2_add_3.data.toList.drop 117 = dktX2_add_3_5 := dk_seg dksX2_add_3_4 24 rfl rfl
theorem dksX2_add_3_6 : cX2_add_3.data.toList.drop 141 = dktX2_add_3_6 := dk_seg dksX2_add_3_5 24 rfl rfl
theorem dksX2_add_3_7 : cX2_add_3.data.toList.drop 165 = dktX2_add_3_7 := dk_seg dksX2_add_3_6 24 rfl rfl
theorem dksX2_add_3_8 : cX2_add_3.data.toList.drop 189 = dktX2_add_3_8 := dk_seg dksX2_add_3_7 24 rfl rfl
theorem dksX2_add_3_9 : cX2_add_3.data.toList.drop 213 = dktX2_add_3_9 := dk_seg dksX2_add_3_8 24 rfl rfl
theorem dX2_add_3_0 : decode cX2_add_3 0 = .ok (.aload_n 1, 1) := dk_43 (dk_at dksX2_add_3_0 0 rfl rfl)
theorem dX2_add_3_1 : decode cX2_add_3 1 = .ok (.ldc 83, 2) := dk_18 83 (dk_at dksX2_add_3_0 1 rfl rfl)
theorem dX2_add_3_3 : decode cX2_add_3 3 = .ok (.invokestatic 43, 3) := dk_184 0 43 (dk_at dksX2_add_3_0 3 rfl rfl)
theorem dX2_add_3_6 : decode cX2_add_3 6 = .ok (.pop, 1) := dk_87 (dk_at dksX2_add_3_0 6 rfl rfl)
theorem dX2_add_3_7 : decode cX2_add_3 7 = .ok (.aload_n 1, 1) := dk_43 (dk_at dksX2_add_3_0 7 rfl rfl)
theorem dX2_add_3_8 : decode cX2_add_3 8 = .ok (.getfield 9, 3) := dk_180 0 9 (dk_at dksX2_add_3_0 8 rfl rfl)
theorem dX2_add_3_11 : decode cX2_add_3 11 = .ok (.astore_n 2, 1) := dk_77 (dk_at dksX2_add_3_0 11 rfl rfl)
theorem dX2_add_3_12 : decode cX2_add_3 12 = .ok (.aload_n 2, 1) := dk_44 (dk_at dksX2_add_3_0 12 rfl rfl)
theorem dX2_add_3_13 : decode cX2_add_3 13 = .ok (.arraylength, 1) := dk_190 (dk_at dksX2_add_3_0 13 rfl rfl)
theorem dX2_add_3_14 : decode cX2_add_3 14 = .ok (.aload_n 0, 1) := dk_42 (dk_at dksX2_add_3_0 14 rfl rfl)
theorem dX2_add_3_15 : decode cX2_add_3 15 = .ok (.getfield 9, 3) := dk_180 0 9 (dk_at dksX2_add_3_0 15 rfl rfl)
theorem dX2_add_3_18 : decode cX2_add_3 18 = .ok (.arraylength, 1) := dk_190 (dk_at dksX2_add_3_0 18 rfl rfl)
theorem dX2_add_3_19 : decode cX2_add_3 19 = .ok (.if_icmp .ge 13, 3) := dk_162 0 13 (dk_at dksX2_add_3_0 19 rfl rfl)
theorem dX2_add_3_22 : decode cX2_add_3 22 = .ok (.new 85, 3) := dk_187 0 85 (dk_at dksX2_add_3_1 0 rfl rfl)
theorem dX2_add_3_25 : decode cX2_add_3 25 = .ok (.dup, 1) := dk_89 (dk_at dksX2_add_3_1 3 rfl rfl)
theorem dX2_add_3_26 : decode cX2_add_3 26 = .ok (.ldc 87, 2) := dk_18 87 (dk_at dksX2_add_3_1 4 rfl rfl)
theorem dX2_add_3_28 : decode cX2_add_3 28 = .ok (.invokespecial 89, 3) := dk_183 0 89 (dk_at dksX2_add_3_1 6 rfl rfl)
theorem dX2_add_3_31 : decode cX2_add_3 31 = .ok (.athrow, 1) := dk_191 (dk_at dksX2_add_3_1 9 rfl rfl)
theorem dX2_add_3_32 : decode cX2_add_3 32 = .ok (.aload_n 2, 1) := dk_44 (dk_at dksX2_add_3_1 10 rfl rfl)
theorem dX2_add_3_33 : decode cX2_add_3 33 = .ok (.arraylength, 1) := dk_190 (dk_at dksX2_add_3_1 11 rfl rfl)
theorem dX2_add_3_34 : decode cX2_add_3 34 = .ok (.aload_n 0, 1) := dk_42 (dk_at dksX2_add_3_1 12 rfl rfl)
theorem dX2_add_3_35 : decode cX2_add_3 35 = .ok (.getfield 9, 3) := dk_180 0 9 (dk_at dksX2_add_3_1 13 rfl rfl)
theorem dX2_add_3_38 : decode cX2_add_3 38 = .ok (.arraylength, 1) := dk_190 (dk_at dksX2_add_3_1 16 rfl rfl)
theorem dX2_add_3_39 : decode cX2_add_3 39 = .ok (.if_icmp .ne 57, 3) := dk_160 0 57 (dk_at dksX2_add_3_1 17 rfl rfl)
theorem dX2_add_3_42 : decode cX2_add_3 42 = .ok (.iconst 0, 1) := dk_3 (dk_at dksX2_add_3_1 20 rfl rfl)
theorem dX2_add_3_43 : decode cX2_add_3 43 = .ok (.istore_n 3, 1) := dk_62 (dk_at dksX2_add_3_1 21 rfl rfl)
theorem dX2_add_3_44 : decode cX2_add_3 44 = .ok (.iload_n 3, 1) := dk_29 (dk_at dksX2_add_3_1 22 rfl rfl)
theorem dX2_add_3_45 : decode cX2_add_3 45 = .ok (.aload_n 0, 1) := dk_42 (dk_at dksX2_add_3_1 23 rfl rfl)
theorem dX2_add_3_46 : decode cX2_add_3 46 = .ok (.getfield 9, 3) := dk_180 0 9 (dk_at dksX2_add_3_2 0 rfl rfl)
theorem dX2_add_3_49 : decode cX2_add_3 49 = .ok (.arraylength, 1) := dk_190 (dk_at dksX2_add_3_2 3 rfl rfl)
theorem dX2_add_3_50 : decode cX2_add_3 50 = .ok (.if_icmp .ge 43, 3) := dk_162 0 43 (dk_at dksX2_add_3_2 4 rfl rfl)
theorem dX2_add_3_53 : decode cX2_add_3 53 = .ok (.aload_n 2, 1) := dk_44 (dk_at dksX2_add_3_2 7 rfl rfl)
theorem dX2_add_3_54 : decode cX2_add_3 54 = .ok (.iload_n 3, 1) := dk_29 (dk_at dksX2_add_3_2 8 rfl rfl)
theorem dX2_add_3_55 : decode cX2_add_3 55 = .ok (.baload, 1) := dk_51 (dk_at dksX2_add_3_2 9 rfl rfl)
theorem dX2_add_3_56 : decode cX2_add_3 56 = .ok (.istore 4, 2) := dk_54 4 (dk_at dksX2_add_3_2 10 rfl rfl)
theorem dX2_add_3_58 : decode cX2_add_3 58 = .ok (.iload 4, 2) := dk_21 4 (dk_at dksX2_add_3_2 12 rfl rfl)
theorem dX2_add_3_60 : decode cX2_add_3 60 = .ok (.ifCond .eq 27, 3) := dk_153 0 27 (dk_at dksX2_add_3_2 14 rfl rfl)
theorem dX2_add_3_63 : decode cX2_add_3 63 = .ok (.aload_n 0, 1) := dk_42 (dk_at dksX2_add_3_2 17 rfl rfl)
theorem dX2_add_3_64 : decode cX2_add_3 64 = .ok (.getfield 9, 3) := dk_180 0 9 (dk_at dksX2_add_3_2 18 rfl rfl)
theorem dX2_add_3_67 : decode cX2_add_3 67 = .ok (.iload_n 3, 1) := dk_29 (dk_at dksX2_add_3_2 21 rfl rfl)
theorem dX2_add_3_68 : decode cX2_add_3 68 = .ok (.aload_n 0, 1) := dk_42 (dk_at dksX2_add_3_2 22 rfl rfl)
theorem dX2_add_3_69 : decode cX2_add_3 69 = .ok (.getfield 9, 3) := dk_180 0 9 (dk_at dksX2_add_3_3 0 rfl rfl)
theorem dX2_add_3_72 : decode cX2_add_3 72 = .ok (.iload_n 3, 1) := dk_29 (dk_at dksX2_add_3_3 3 rfl rfl)
theorem dX2_add_3_73 : decode cX2_add_3 73 = .ok (.baload, 1) := dk_51 (dk_at dksX2_add_3_3 4 rfl rfl)
theorem dX2_add_3_74 : decode cX2_add_3 74 = .ok (.invokestatic 75, 3) := dk_184 0 75 (dk_at dksX2_add_3_3 5 rfl rfl)
theorem dX2_add_3_77 : decode cX2_add_3 77 = .ok (.iload 4, 2) := dk_21 4 (dk_at dksX2_add_3_3 8 rfl rfl)
theorem dX2_add_3_79 : decode cX2_add_3 79 = .ok (.invokestatic 75, 3) := dk_184 0 75 (dk_at dksX2_add_3_3 10 rfl rfl)
theorem dX2_add_3_82 : decode cX2_add_3 82 = .ok (.lor, 1) := dk_129 (dk_at dksX2_add_3_3 13 rfl rfl)
theorem dX2_add_3_83 : decode cX2_add_3 83 = .ok (.invokestatic 79, 3) := dk_184 0 79 (dk_at dksX2_add_3_3 14 rfl rfl)
theorem dX2_add_3_86 : decode cX2_add_3 86 = .ok (.bastore, 1) := dk_84 (dk_at dksX2_add_3_3 17 rfl rfl)
theorem dX2_add_3_87 : decode cX2_add_3 87 = .ok (.iinc 3 1, 3) := dk_132 3 1 (dk_at dksX2_add_3_3 18 rfl rfl)
theorem dX2_add_3_90 : decode cX2_add_3 90 = .ok (.goto (-46), 3) := dk_167 255 210 (dk_at dksX2_add_3_3 21 rfl rfl)
theorem dX2_add_3_93 : decode cX2_add_3 93 = .ok (.goto 137, 3) := dk_167 0 137 (dk_at dksX2_add_3_4 0 rfl rfl)
theorem dX2_add_3_96 : decode cX2_add_3 96 = .ok (.aload_n 0, 1) := dk_42 (dk_at dksX2_add_3_4 3 rfl rfl)
theorem dX2_add_3_97 : decode cX2_add_3 97 = .ok (.invokevirtual 92, 3) := dk_182 0 92 (dk_at dksX2_add_3_4 4 rfl rfl)
theorem dX2_add_3_100 : decode cX2_add_3 100 = .ok (.istore_n 3, 1) := dk_62 (dk_at dksX2_add_3_4 7 rfl rfl)
theorem dX2_add_3_101 : decode cX2_add_3 101 = .ok (.aload_n 1, 1) := dk_43 (dk_at dksX2_add_3_4 8 rfl rfl)
theorem dX2_add_3_102 : decode cX2_add_3 102 = .ok (.invokevirtual 92, 3) := dk_182 0 92 (dk_at dksX2_add_3_4 9 rfl rfl)
theorem dX2_add_3_105 : decode cX2_add_3 105 = .ok (.istore 4, 2) := dk_54 4 (dk_at dksX2_add_3_4 12 rfl rfl)
theorem dX2_add_3_107 : decode cX2_add_3 107 = .ok (.iload 4, 2) := dk_21 4 (dk_at dksX2_add_3_4 14 rfl rfl)
theorem dX2_add_3_109 : decode cX2_add_3 109 = .ok (.iconst 1, 1) := dk_4 (dk_at dksX2_add_3_4 16 rfl rfl)
theorem dX2_add_3_110 : decode cX2_add_3 110 = .ok (.isub, 1) := dk_100 (dk_at dksX2_add_3_4 17 rfl rfl)
theorem dX2_add_3_111 : decode cX2_add_3 111 = .ok (.istore 5, 2) := dk_54 5 (dk_at dksX2_add_3_4 18 rfl rfl)
theorem dX2_add_3_113 : decode cX2_add_3 113 = .ok (.lconst 1, 1) := dk_10 (dk_at dksX2_add_3_4 20 rfl rfl)
theorem dX2_add_3_114 : decode cX2_add_3 114 = .ok (.iload 4, 2) := dk_21 4 (dk_at dksX2_add_3_4 21 rfl rfl)
theorem dX2_add_3_116 : decode cX2_add_3 116 = .ok (.iload_n 3, 1) := dk_29 (dk_at dksX2_add_3_4 23 rfl rfl)
theorem dX2_add_3_117 : decode cX2_add_3 117 = .ok (.isub, 1) := dk_100 (dk_at dksX2_add_3_5 0 rfl rfl)
theorem dX2_add_3_118 : decode cX2_add_3 118 = .ok (.lshl, 1) := dk_121 (dk_at dksX2_add_3_5 1 rfl rfl)
theorem dX2_add_3_119 : decode cX2_add_3 119 = .ok (.lstore 6, 2) := dk_55 6 (dk_at dksX2_add_3_5 2 rfl rfl)
theorem dX2_add_3_121 : decode cX2_add_3 121 = .ok (.iconst 0, 1) := dk_3 (dk_at dksX2_add_3_5 4 rfl rfl)
theorem dX2_add_3_122 : decode cX2_add_3 122 = .ok (.istore 8, 2) := dk_54 8 (dk_at dksX2_add_3_5 5 rfl rfl)
theorem dX2_add_3_124 : decode cX2_add_3 124 = .ok (.iconst 0, 1) := dk_3 (dk_at dksX2_add_3_5 7 rfl rfl)
theorem dX2_add_3_125 : decode cX2_add_3 125 = .ok (.istore 9, 2) := dk_54 9 (dk_at dksX2_add_3_5 8 rfl rfl)
theorem dX2_add_3_127 : decode cX2_add_3 127 = .ok (.iload 9, 2) := dk_21 9 (dk_at dksX2_add_3_5 10 rfl rfl)
theorem dX2_add_3_129 : decode cX2_add_3 129 = .ok (.aload_n 0, 1) := dk_42 (dk_at dksX2_add_3_5 12 rfl rfl)
theorem dX2_add_3_130 : decode cX2_add_3 130 = .ok (.getfield 9, 3) := dk_180 0 9 (dk_at dksX2_add_3_5 13 rfl rfl)
theorem dX2_add_3_133 : decode cX2_add_3 133 = .ok (.arraylength, 1) := dk_190 (dk_at dksX2_add_3_5 16 rfl rfl)
theorem dX2_add_3_134 : decode cX2_add_3 134 = .ok (.if_icmp .ge 96, 3) := dk_162 0 96 (dk_at dksX2_add_3_5 17 rfl rfl)
theorem dX2_add_3_137 : decode cX2_add_3 137 = .ok (.aload_n 0, 1) := dk_42 (dk_at dksX2_add_3_5 20 rfl rfl)
theorem dX2_add_3_138 : decode cX2_add_3 138 = .ok (.getfield 9, 3) := dk_180 0 9 (dk_at dksX2_add_3_5 21 rfl rfl)
theorem dX2_add_3_141 : decode cX2_add_3 141 = .ok (.iload 9, 2) := dk_21 9 (dk_at dksX2_add_3_6 0 rfl rfl)
theorem dX2_add_3_143 : decode cX2_add_3 143 = .ok (.baload, 1) := dk_51 (dk_at dksX2_add_3_6 2 rfl rfl)
theorem dX2_add_3_144 : decode cX2_add_3 144 = .ok (.invokestatic 75, 3) := dk_184 0 75 (dk_at dksX2_add_3_6 3 rfl rfl)
theorem dX2_add_3_147 : decode cX2_add_3 147 = .ok (.aload_n 2, 1) := dk_44 (dk_at dksX2_add_3_6 6 rfl rfl)
theorem dX2_add_3_148 : decode cX2_add_3 148 = .ok (.iload 8, 2) := dk_21 8 (dk_at dksX2_add_3_6 7 rfl rfl)
theorem dX2_add_3_150 : decode cX2_add_3 150 = .ok (.baload, 1) := dk_51 (dk_at dksX2_add_3_6 9 rfl rfl)
theorem dX2_add_3_151 : decode cX2_add_3 151 = .ok (.invokestatic 75, 3) := dk_184 0 75 (dk_at dksX2_add_3_6 10 rfl rfl)
theorem dX2_add_3_154 : decode cX2_add_3 154 = .ok (.lor, 1) := dk_129 (dk_at dksX2_add_3_6 13 rfl rfl)
theorem dX2_add_3_155 : decode cX2_add_3 155 = .ok (.lstore 10, 2) := dk_55 10 (dk_at dksX2_add_3_6 14 rfl rfl)
theorem dX2_add_3_157 : decode cX2_add_3 157 = .ok (.iinc 8 1, 3) := dk_132 8 1 (dk_at dksX2_add_3_6 16 rfl rfl)
theorem dX2_add_3_160 : decode cX2_add_3 160 = .ok (.lconst 1, 1) := dk_10 (dk_at dksX2_add_3_6 19 rfl rfl)
theorem dX2_add_3_161 : decode cX2_add_3 161 = .ok (.lstore 12, 2) := dk_55 12 (dk_at dksX2_add_3_6 20 rfl rfl)
theorem dX2_add_3_163 : decode cX2_add_3 163 = .ok (.lload 12, 2) := dk_22 12 (dk_at dksX2_add_3_6 22 rfl rfl)
theorem dX2_add_3_165 : decode cX2_add_3 165 = .ok (.lload 6, 2) := dk_22 6 (dk_at dksX2_add_3_7 0 rfl rfl)
theorem dX2_add_3_167 : decode cX2_add_3 167 = .ok (.lcmp, 1) := dk_148 (dk_at dksX2_add_3_7 2 rfl rfl)
theorem dX2_add_3_168 : decode cX2_add_3 168 = .ok (.ifCond .ge 37, 3) := dk_156 0 37 (dk_at dksX2_add_3_7 3 rfl rfl)
theorem dX2_add_3_171 : decode cX2_add_3 171 = .ok (.aload_n 2, 1) := dk_44 (dk_at dksX2_add_3_7 6 rfl rfl)
theorem dX2_add_3_172 : decode cX2_add_3 172 = .ok (.iload 8, 2) := dk_21 8 (dk_at dksX2_add_3_7 7 rfl rfl)
theorem dX2_add_3_174 : decode cX2_add_3 174 = .ok (.baload, 1) := dk_51 (dk_at dksX2_add_3_7 9 rfl rfl)
theorem dX2_add_3_175 : decode cX2_add_3 175 = .ok (.ifCond .eq 18, 3) := dk_153 0 18 (dk_at dksX2_add_3_7 10 rfl rfl)
theorem dX2_add_3_178 : decode cX2_add_3 178 = .ok (.lload 10, 2) := dk_22 10 (dk_at dksX2_add_3_7 13 rfl rfl)
theorem dX2_add_3_180 : decode cX2_add_3 180 = .ok (.lconst 1, 1) := dk_10 (dk_at dksX2_add_3_7 15 rfl rfl)
theorem dX2_add_3_181 : decode cX2_add_3 181 = .ok (.lload 12, 2) := dk_22 12 (dk_at dksX2_add_3_7 16 rfl rfl)
theorem dX2_add_3_183 : decode cX2_add_3 183 = .ok (.invokestatic 69, 3) := dk_184 0 69 (dk_at dksX2_add_3_7 18 rfl rfl)
theorem dX2_add_3_186 : decode cX2_add_3 186 = .ok (.iload 5, 2) := dk_21 5 (dk_at dksX2_add_3_7 21 rfl rfl)
theorem dX2_add_3_188 : decode cX2_add_3 188 = .ok (.iadd, 1) := dk_96 (dk_at dksX2_add_3_7 23 rfl rfl)
theorem dX2_add_3_189 : decode cX2_add_3 189 = .ok (.lshl, 1) := dk_121 (dk_at dksX2_add_3_8 0 rfl rfl)
theorem dX2_add_3_190 : decode cX2_add_3 190 = .ok (.lor, 1) := dk_129 (dk_at dksX2_add_3_8 1 rfl rfl)
theorem dX2_add_3_191 : decode cX2_add_3 191 = .ok (.lstore 10, 2) := dk_55 10 (dk_at dksX2_add_3_8 2 rfl rfl)
theorem dX2_add_3_193 : decode cX2_add_3 193 = .ok (.iinc 8 1, 3) := dk_132 8 1 (dk_at dksX2_add_3_8 4 rfl rfl)
theorem dX2_add_3_196 : decode cX2_add_3 196 = .ok (.lload 12, 2) := dk_22 12 (dk_at dksX2_add_3_8 7 rfl rfl)
theorem dX2_add_3_198 : decode cX2_add_3 198 = .ok (.lconst 1, 1) := dk_10 (dk_at dksX2_add_3_8 9 rfl rfl)
theorem dX2_add_3_199 : decode cX2_add_3 199 = .ok (.ladd, 1) := dk_97 (dk_at dksX2_add_3_8 10 rfl rfl)
theorem dX2_add_3_200 : decode cX2_add_3 200 = .ok (.lstore 12, 2) := dk_55 12 (dk_at dksX2_add_3_8 11 rfl rfl)
theorem dX2_add_3_202 : decode cX2_add_3 202 = .ok (.goto (-39), 3) := dk_167 255 217 (dk_at dksX2_add_3_8 13 rfl rfl)
theorem dX2_add_3_205 : decode cX2_add_3 205 = .ok (.lload 10, 2) := dk_22 10 (dk_at dksX2_add_3_8 16 rfl rfl)
theorem dX2_add_3_207 : decode cX2_add_3 207 = .ok (.lconst 0, 1) := dk_9 (dk_at dksX2_add_3_8 18 rfl rfl)
theorem dX2_add_3_208 : decode cX2_add_3 208 = .ok (.lcmp, 1) := dk_148 (dk_at dksX2_add_3_8 19 rfl rfl)
theorem dX2_add_3_209 : decode cX2_add_3 209 = .ok (.ifCond .eq 15, 3) := dk_153 0 15 (dk_at dksX2_add_3_8 20 rfl rfl)
theorem dX2_add_3_212 : decode cX2_add_3 212 = .ok (.aload_n 0, 1) := dk_42 (dk_at dksX2_add_3_8 23 rfl rfl)
theorem dX2_add_3_213 : decode cX2_add_3 213 = .ok (.getfield 9, 3) := dk_180 0 9 (dk_at dksX2_add_3_9 0 rfl rfl)
theorem dX2_add_3_216 : decode cX2_add_3 216 = .ok (.iload 9, 2) := dk_21 9 (dk_at dksX2_add_3_9 3 rfl rfl)
theorem dX2_add_3_218 : decode cX2_add_3 218 = .ok (.lload 10, 2) := dk_22 10 (dk_at dksX2_add_3_9 5 rfl rfl)
theorem dX2_add_3_220 : decode cX2_add_3 220 = .ok (.invokestatic 79, 3) := dk_184 0 79 (dk_at dksX2_add_3_9 7 rfl rfl)
theorem dX2_add_3_223 : decode cX2_add_3 223 = .ok (.bastore, 1) := dk_84 (dk_at dksX2_add_3_9 10 rfl rfl)
theorem dX2_add_3_224 : decode cX2_add_3 224 = .ok (.iinc 9 1, 3) := dk_132 9 1 (dk_at dksX2_add_3_9 11 rfl rfl)
theorem dX2_add_3_227 : decode cX2_add_3 227 = .ok (.goto (-100), 3) := dk_167 255 156 (dk_at dksX2_add_3_9 14 rfl rfl)
theorem dX2_add_3_230 : decode cX2_add_3 230 = .ok (.aload_n 0, 1) := dk_42 (dk_at dksX2_add_3_9 17 rfl rfl)
theorem dX2_add_3_231 : decode cX2_add_3 231 = .ok (.areturn, 1) := dk_176 (dk_at dksX2_add_3_9 18 rfl rfl)
abbrev cX2_downsize : ByteArray := prog_3_method_5_code
def yX2_downsize : MethodName := ⟨RX2, "downsize", "(I)LUltraLogLog;"⟩
def dkwX2_downsize_1 : List UInt8 := [187, 0, 10, 89, 27, 183, 0, 21, 42, 182, 0, 37, 176]
abbrev dktX2_downsize_1 : List UInt8 := dkwX2_downsize_1 ++ []
def dkwX2_downsize_0 : List UInt8 := [27, 6, 16, 26, 184, 0, 15, 4, 27, 120, 42, 180, 0, 9, 190, 161, 0, 8, 42, 182, 0, 33, 176]
abbrev dktX2_downsize_0 : List UInt8 := dkwX2_downsize_0 ++ dktX2_downsize_1
theorem dksX2_downsize_0 : cX2_downsize.data.toList.drop 0 = dktX2_downsize_0 := by decide +kernel
theorem dksX2_downsize_1 : cX2_downsize.data.toList.drop 23 = dktX2_downsize_1 := dk_seg dksX2_downsize_0 23 rfl rfl
theorem dX2_downsize_0 : decode cX2_downsize 0 = .ok (.iload_n 1, 1) := dk_27 (dk_at dksX2_downsize_0 0 rfl rfl)
theorem dX2_downsize_1 : decode cX2_downsize 1 = .ok (.iconst 3, 1) := dk_6 (dk_at dksX2_downsize_0 1 rfl rfl)
theorem dX2_downsize_2 : decode cX2_downsize 2 = .ok (.bipush 26, 2) := dk_16 26 (dk_at dksX2_downsize_0 2 rfl rfl)
theorem dX2_downsize_4 : decode cX2_downsize 4 = .ok (.invokestatic 15, 3) := dk_184 0 15 (dk_at dksX2_downsize_0 4 rfl rfl)
theorem dX2_downsize_7 : decode cX2_downsize 7 = .ok (.iconst 1, 1) := dk_4 (dk_at dksX2_downsize_0 7 rfl rfl)
theorem dX2_downsize_8 : decode cX2_downsize 8 = .ok (.iload_n 1, 1) := dk_27 (dk_at dksX2_downsize_0 8 rfl rfl)
theorem dX2_downsize_9 : decode cX2_downsize 9 = .ok (.ishl, 1) := dk_120 (dk_at dksX2_downsize_0 9 rfl rfl)
theorem dX2_downsize_10 : decode cX2_downsize 10 = .ok (.aload_n 0, 1) := dk_42 (dk_at dksX2_downsize_0 10 rfl rfl)
theorem dX2_downsize_11 : decode cX2_downsize 11 = .ok (.getfield 9, 3) := dk_180 0 9 (dk_at dksX2_downsize_0 11 rfl rfl)
theorem dX2_downsize_14 : decode cX2_downsize 14 = .ok (.arraylength, 1) := dk_190 (dk_at dksX2_downsize_0 14 rfl rfl)
theorem dX2_downsize_15 : decode cX2_downsize 15 = .ok (.if_icmp .lt 8, 3) := dk_161 0 8 (dk_at dksX2_downsize_0 15 rfl rfl)
theorem dX2_downsize_18 : decode cX2_downsize 18 = .ok (.aload_n 0, 1) := dk_42 (dk_at dksX2_downsize_0 18 rfl rfl)
theorem dX2_downsize_19 : decode cX2_downsize 19 = .ok (.invokevirtual 33, 3) := dk_182 0 33 (dk_at dksX2_downsize_0 19 rfl rfl)
theorem dX2_downsize_22 : decode cX2_downsize 22 = .ok (.areturn, 1) := dk_176 (dk_at dksX2_downsize_0 22 rfl rfl)
theorem dX2_downsize_23 : decode cX2_downsize 23 = .ok (.new 10, 3) := dk_187 0 10 (dk_at dksX2_downsize_1 0 rfl rfl)
theorem dX2_downsize_26 : decode cX2_downsize 26 = .ok (.dup, 1) := dk_89 (dk_at dksX2_downsize_1 3 rfl rfl)
theorem dX2_downsize_27 : decode cX2_downsize 27 = .ok (.iload_n 1, 1) := dk_27 (dk_at dksX2_downsize_1 4 rfl rfl)
theorem dX2_downsize_28 : decode cX2_downsize 28 = .ok (.invokespecial 21, 3) := dk_183 0 21 (dk_at dksX2_downsize_1 5 rfl rfl)
theorem dX2_downsize_31 : decode cX2_downsize 31 = .ok (.aload_n 0, 1) := dk_42 (dk_at dksX2_downsize_1 8 rfl rfl)
theorem dX2_downsize_32 : decode cX2_downsize 32 = .ok (.invokevirtual 37, 3) := dk_182 0 37 (dk_at dksX2_downsize_1 9 rfl rfl)
theorem dX2_downsize_35 : decode cX2_downsize 35 = .ok (.areturn, 1) := dk_176 (dk_at dksX2_downsize_1 12 rfl rfl)
abbrev cX2_computeToken : ByteArray := prog_3_method_11_code
def yX2_computeToken : MethodName := ⟨RX2, "computeToken", "(J)I"⟩
theorem dX2_computeToken_0 : decode cX2_computeToken 0 = .ok (.lload_n 0, 1) := by decide +kernel
theorem dX2_computeToken_1 : decode cX2_computeToken 1 = .ok (.invokestatic 65, 3) := by decide +kernel
theorem dX2_computeToken_4 : decode cX2_computeToken 4 = .ok (.ireturn, 1) := by decide +kernel
abbrev cX2_addToken : ByteArray := prog_3_method_10_code
def yX2_addToken : MethodName := ⟨RX2, "addToken", "(I)LUltraLogLog;"⟩
def dkwX2_addToken_0 : List UInt8 := [42, 27, 184, 0, 58, 182, 0, 62, 176]
abbrev dktX2_addToken_0 : List UInt8 := dkwX2_addToken_0 ++ []
theorem dksX2_addToken_0 : cX2_addToken.data.toList.drop 0 = dktX2_addToken_0 := by decide +kernel
theorem dX2_addToken_0 : decode cX2_addToken 0 = .ok (.aload_n 0, 1) := dk_42 (dk_at dksX2_addToken_0 0 rfl rfl)
theorem dX2_addToken_1 : decode cX2_addToken 1 = .ok (.iload_n 1, 1) := dk_27 (dk_at dksX2_addToken_0 1 rfl rfl)
theorem dX2_addToken_2 : decode cX2_addToken 2 = .ok (.invokestatic 58, 3) := dk_184 0 58 (dk_at dksX2_addToken_0 2 rfl rfl)
theorem dX2_addToken_5 : decode cX2_addToken 5 = .ok (.invokevirtual 62, 3) := dk_182 0 62 (dk_at dksX2_addToken_0 5 rfl rfl)
theorem dX2_addToken_8 : decode cX2_addToken 8 = .ok (.areturn, 1) := dk_176 (dk_at dksX2_addToken_0 8 rfl rfl)
theorem q8 : (Jvm.Cond.initialized "UltraLogLog") ∈ lw_all := lw_g (lw_at lw_m1 2 rfl) rfl
theorem q38 : (Jvm.Cond.static ({ cls := "UltraLogLog", name := "create", desc := "(I)LUltraLogLog;" } : Jvm.MethodName)) ∈ lw_all := lw_g (lw_at lw_m1 32 rfl) rfl
theorem q39 : (Jvm.Cond.code ({ cls := "UltraLogLog", name := "create", desc := "(I)LUltraLogLog;" } : Jvm.MethodName) prog_3_method_3_code (1 : Nat) (Option.some (Jvm.ClassFile.FieldType.object "UltraLogLog"))) ∈ lw_all := lw_g (lw_at lw_m1 33 rfl) rfl
theorem q40 : (Jvm.Cond.methodLink "UltraLogLog" (15 : Nat) ({ cls := "DistinctCountUtil", name := "checkPrecisionParameter", desc := "(III)V" } : Jvm.MethodName)) ∈ lw_all := lw_g (lw_at lw_m1 34 rfl) rfl
theorem q109 : (Jvm.Cond.classLink "UltraLogLog" (10 : Nat) "UltraLogLog") ∈ lw_all := lw_g (lw_at lw_m1 103 rfl) rfl
theorem q110 : (Jvm.Cond.instantiable "UltraLogLog" (1 : Nat)) ∈ lw_all := lw_g (lw_at lw_m1 104 rfl) rfl
theorem q111 : (Jvm.Cond.methodLink "UltraLogLog" (21 : Nat) ({ cls := "UltraLogLog", name := "<init>", desc := "(I)V" } : Jvm.MethodName)) ∈ lw_all := lw_g (lw_at lw_m1 105 rfl) rfl
theorem q112 : (Jvm.Cond.instanceMethod ({ cls := "UltraLogLog", name := "<init>", desc := "(I)V" } : Jvm.MethodName)) ∈ lw_all := lw_g (lw_at lw_m1 106 rfl) rfl
theorem q113 : (Jvm.Cond.code ({ cls := "UltraLogLog", name := "<init>", desc := "(I)V" } : Jvm.MethodName) prog_3_method_1_code (2 : Nat) (Option.none : Option Jvm.ClassFile.FieldType)) ∈ lw_all := lw_g (lw_at lw_m1 107 rfl) rfl
theorem q114 : (Jvm.Cond.methodLink "UltraLogLog" (3 : Nat) ({ cls := "java/lang/Object", name := "<init>", desc := "()V" } : Jvm.MethodName)) ∈ lw_all := lw_g (lw_at lw_m1 108 rfl) rfl
theorem q115 : (Jvm.Cond.fieldLink "UltraLogLog" (9 : Nat) "UltraLogLog" "state" "[B") ∈ lw_all := lw_g (lw_at lw_m1 109 rfl) rfl
theorem q116 : (Jvm.Cond.laysFinal "UltraLogLog" "UltraLogLog" "state" "[B") ∈ lw_all := lw_g (lw_at lw_m1 110 rfl) rfl
theorem q117 : (Jvm.Cond.soleField "UltraLogLog" "state") ∈ lw_all := lw_g (lw_at lw_m1 111 rfl) rfl
theorem q118 : (Jvm.Cond.superclass "UltraLogLog" "java/lang/Object") ∈ lw_all := lw_g (lw_at lw_m1 112 rfl) rfl
theorem q154 : (Jvm.Cond.instanceMethod ({ cls := "UltraLogLog", name := "getP", desc := "()I" } : Jvm.MethodName)) ∈ lw_all := lw_g (lw_at lw_m1 148 rfl) rfl
theorem q155 : (Jvm.Cond.selects "UltraLogLog" ({ cls := "UltraLogLog", name := "getP", desc := "()I" } : Jvm.MethodName) ({ cls := "UltraLogLog", name := "getP", desc := "()I" } : Jvm.MethodName)) ∈ lw_all := lw_g (lw_at lw_m1 149 rfl) rfl
theorem q156 : (Jvm.Cond.code ({ cls := "UltraLogLog", name := "getP", desc := "()I" } : Jvm.MethodName) prog_3_method_8_code (1 : Nat) (Option.some Jvm.ClassFile.FieldType.int)) ∈ lw_all := lw_g (lw_at lw_m1 150 rfl) rfl
theorem q157 : (Jvm.Cond.methodLink "UltraLogLog" (51 : Nat) ({ cls := "java/lang/Integer", name := "numberOfLeadingZeros", desc := "(I)I" } : Jvm.MethodName)) ∈ lw_all := lw_g (lw_at lw_m1 151 rfl) rfl
theorem q166 : (Jvm.Cond.instanceMethod ({ cls := "UltraLogLog", name := "getState", desc := "()[B" } : Jvm.MethodName)) ∈ lw_all := lw_g (lw_at lw_m1 160 rfl) rfl
theorem q167 : (Jvm.Cond.selects "UltraLogLog" ({ cls := "UltraLogLog", name := "getState", desc := "()[B" } : Jvm.MethodName) ({ cls := "UltraLogLog", name := "getState", desc := "()[B" } : Jvm.MethodName)) ∈ lw_all := lw_g (lw_at lw_m1 161 rfl) rfl
theorem q168 : (Jvm.Cond.code ({ cls := "UltraLogLog", name := "getState", desc := "()[B" } : Jvm.MethodName) prog_3_method_7_code (1 : Nat) (Option.some (Jvm.ClassFile.FieldType.array Jvm.ClassFile.FieldType.byte))) ∈ lw_all := lw_g (lw_at lw_m1 162 rfl) rfl
theorem q177 : (Jvm.Cond.instanceMethod ({ cls := "UltraLogLog", name := "isEmpty", desc := "()Z" } : Jvm.MethodName)) ∈ lw_all := lw_g (lw_at lw_m1 171 rfl) rfl
theorem q178 : (Jvm.Cond.selects "UltraLogLog" ({ cls := "UltraLogLog", name := "isEmpty", desc := "()Z" } : Jvm.MethodName) ({ cls := "UltraLogLog", name := "isEmpty", desc := "()Z" } : Jvm.MethodName)) ∈ lw_all := lw_g (lw_at lw_m1 172 rfl) rfl
theorem q179 : (Jvm.Cond.code ({ cls := "UltraLogLog", name := "isEmpty", desc := "()Z" } : Jvm.MethodName) prog_3_method_16_code (5 : Nat) (Option.some Jvm.ClassFile.FieldType.boolean)) ∈ lw_all := lw_g (lw_at lw_m1 173 rfl) rfl
theorem q204 : (Jvm.Cond.instanceMethod ({ cls := "UltraLogLog", name := "add", desc := "(J)LUltraLogLog;" } : Jvm.MethodName)) ∈ lw_all := lw_g (lw_at lw_m1 198 rfl) rfl
theorem q205 : (Jvm.Cond.selects "UltraLogLog" ({ cls := "UltraLogLog", name := "add", desc := "(J)LUltraLogLog;" } : Jvm.MethodName) ({ cls := "UltraLogLog", name := "add", desc := "(J)LUltraLogLog;" } : Jvm.MethodName)) ∈ lw_all := lw_g (lw_at lw_m1 199 rfl) rfl
theorem q206 : (Jvm.Cond.code ({ cls := "UltraLogLog", name := "add", desc := "(J)LUltraLogLog;" } : Jvm.MethodName) prog_3_method_9_code (3 : Nat) (Option.some (Jvm.ClassFile.FieldType.object "UltraLogLog"))) ∈ lw_all := lw_g (lw_at lw_m1 200 rfl) rfl
theorem q207 : (Jvm.Cond.methodLink "UltraLogLog" (55 : Nat) ({ cls := "UltraLogLog", name := "add", desc := "(JLStateChangeObserver;)LUltraLogLog;" } : Jvm.MethodName)) ∈ lw_all := lw_g (lw_at lw_m1 201 rfl) rfl
theorem q208 : (Jvm.Cond.instanceMethod ({ cls := "UltraLogLog", name := "add", desc := "(JLStateChangeObserver;)LUltraLogLog;" } : Jvm.MethodName)) ∈ lw_all := lw_g (lw_at lw_m1 202 rfl) rfl
theorem q209 : (Jvm.Cond.selects "UltraLogLog" ({ cls := "UltraLogLog", name := "add", desc := "(JLStateChangeObserver;)LUltraLogLog;" } : Jvm.MethodName) ({ cls := "UltraLogLog", name := "add", desc := "(JLStateChangeObserver;)LUltraLogLog;" } : Jvm.MethodName)) ∈ lw_all := lw_g (lw_at lw_m1 203 rfl) rfl
theorem q210 : (Jvm.Cond.code ({ cls := "UltraLogLog", name := "add", desc := "(JLStateChangeObserver;)LUltraLogLog;" } : Jvm.MethodName) prog_3_method_12_code (12 : Nat) (Option.some (Jvm.ClassFile.FieldType.object "UltraLogLog"))) ∈ lw_all := lw_g (lw_at lw_m1 204 rfl) rfl
theorem q211 : (Jvm.Cond.methodLink "UltraLogLog" (69 : Nat) ({ cls := "java/lang/Long", name := "numberOfLeadingZeros", desc := "(J)I" } : Jvm.MethodName)) ∈ lw_all := lw_g (lw_at lw_m1 205 rfl) rfl
theorem q215 : (Jvm.Cond.constantLong "UltraLogLog" (73 : Nat) (-1 : Int64)) ∈ lw_all := lw_g (lw_at lw_m1 209 rfl) rfl
theorem q216 : (Jvm.Cond.methodLink "UltraLogLog" (75 : Nat) ({ cls := "UltraLogLog", name := "unpack", desc := "(B)J" } : Jvm.MethodName)) ∈ lw_all := lw_g (lw_at lw_m1 210 rfl) rfl
theorem q217 : (Jvm.Cond.static ({ cls := "UltraLogLog", name := "unpack", desc := "(B)J" } : Jvm.MethodName)) ∈ lw_all := lw_g (lw_at lw_m1 211 rfl) rfl
theorem q218 : (Jvm.Cond.code ({ cls := "UltraLogLog", name := "unpack", desc := "(B)J" } : Jvm.MethodName) prog_3_method_14_code (1 : Nat) (Option.some Jvm.ClassFile.FieldType.long)) ∈ lw_all := lw_g (lw_at lw_m1 212 rfl) rfl
theorem q219 : (Jvm.Cond.constantLong "UltraLogLog" (96 : Nat) (4 : Int64)) ∈ lw_all := lw_g (lw_at lw_m1 213 rfl) rfl
theorem q220 : (Jvm.Cond.methodLink "UltraLogLog" (79 : Nat) ({ cls := "UltraLogLog", name := "pack", desc := "(J)B" } : Jvm.MethodName)) ∈ lw_all := lw_g (lw_at lw_m1 214 rfl) rfl
theorem q221 : (Jvm.Cond.static ({ cls := "UltraLogLog", name := "pack", desc := "(J)B" } : Jvm.MethodName)) ∈ lw_all := lw_g (lw_at lw_m1 215 rfl) rfl
theorem q222 : (Jvm.Cond.code ({ cls := "UltraLogLog", name := "pack", desc := "(J)B" } : Jvm.MethodName) prog_3_method_15_code (3 : Nat) (Option.some Jvm.ClassFile.FieldType.byte)) ∈ lw_all := lw_g (lw_at lw_m1 216 rfl) rfl
theorem q257 : (Jvm.Cond.static ({ cls := "UltraLogLog", name := "merge", desc := "(LUltraLogLog;LUltraLogLog;)LUltraLogLog;" } : Jvm.MethodName)) ∈ lw_all := lw_g (lw_at lw_m2 11 rfl) rfl
theorem q258 : (Jvm.Cond.code ({ cls := "UltraLogLog", name := "merge", desc := "(LUltraLogLog;LUltraLogLog;)LUltraLogLog;" } : Jvm.MethodName) prog_3_method_6_code (2 : Nat) (Option.some (Jvm.ClassFile.FieldType.object "UltraLogLog"))) ∈ lw_all := lw_g (lw_at lw_m2 12 rfl) rfl
theorem q259 : (Jvm.Cond.stringRef "UltraLogLog" (41 : Nat) "first sketch was null") ∈ lw_tbl := lw_at lw_m2 13 rfl
theorem q260 : (Jvm.Cond.methodLink "UltraLogLog" (43 : Nat) ({ cls := "java/util/Objects", name := "requireNonNull", desc := "(Ljava/lang/Object;Ljava/lang/String;)Ljava/lang/Object;" } : Jvm.MethodName)) ∈ lw_all := lw_g (lw_at lw_m2 14 rfl) rfl
theorem q263 : (Jvm.Cond.stringRef "UltraLogLog" (49 : Nat) "second sketch was null") ∈ lw_tbl := lw_at lw_m2 17 rfl
theorem q264 : (Jvm.Cond.methodLink "UltraLogLog" (33 : Nat) ({ cls := "UltraLogLog", name := "copy", desc := "()LUltraLogLog;" } : Jvm.MethodName)) ∈ lw_all := lw_g (lw_at lw_m2 18 rfl) rfl
theorem q265 : (Jvm.Cond.instanceMethod ({ cls := "UltraLogLog", name := "copy", desc := "()LUltraLogLog;" } : Jvm.MethodName)) ∈ lw_all := lw_g (lw_at lw_m2 19 rfl) rfl
theorem q266 : (Jvm.Cond.selects "UltraLogLog" ({ cls := "UltraLogLog", name := "copy", desc := "()LUltraLogLog;" } : Jvm.MethodName) ({ cls := "UltraLogLog", name := "copy", desc := "()LUltraLogLog;" } : Jvm.MethodName)) ∈ lw_all := lw_g (lw_at lw_m2 20 rfl) rfl
theorem q267 : (Jvm.Cond.code ({ cls := "UltraLogLog", name := "copy", desc := "()LUltraLogLog;" } : Jvm.MethodName) prog_3_method_4_code (1 : Nat) (Option.some (Jvm.ClassFile.FieldType.object "UltraLogLog"))) ∈ lw_all := lw_g (lw_at lw_m2 21 rfl) rfl
theorem q268 : (Jvm.Cond.methodLink "UltraLogLog" (24 : Nat) ({ cls := "java/util/Arrays", name := "copyOf", desc := "([BI)[B" } : Jvm.MethodName)) ∈ lw_all := lw_g (lw_at lw_m2 22 rfl) rfl
theorem q284 : (Jvm.Cond.methodLink "UltraLogLog" (30 : Nat) ({ cls := "UltraLogLog", name := "<init>", desc := "([B)V" } : Jvm.MethodName)) ∈ lw_all := lw_g (lw_at lw_m2 38 rfl) rfl
theorem q285 : (Jvm.Cond.instanceMethod ({ cls := "UltraLogLog", name := "<init>", desc := "([B)V" } : Jvm.MethodName)) ∈ lw_all := lw_g (lw_at lw_m2 39 rfl) rfl
theorem q286 : (Jvm.Cond.code ({ cls := "UltraLogLog", name := "<init>", desc := "([B)V" } : Jvm.MethodName) prog_3_method_2_code (2 : Nat) (Option.none : Option Jvm.ClassFile.FieldType)) ∈ lw_all := lw_g (lw_at lw_m2 40 rfl) rfl
theorem q287 : (Jvm.Cond.methodLink "UltraLogLog" (37 : Nat) ({ cls := "UltraLogLog", name := "add", desc := "(LUltraLogLog;)LUltraLogLog;" } : Jvm.MethodName)) ∈ lw_all := lw_g (lw_at lw_m2 41 rfl) rfl
theorem q288 : (Jvm.Cond.instanceMethod ({ cls := "UltraLogLog", name := "add", desc := "(LUltraLogLog;)LUltraLogLog;" } : Jvm.MethodName)) ∈ lw_all := lw_g (lw_at lw_m2 42 rfl) rfl
theorem q289 : (Jvm.Cond.selects "UltraLogLog" ({ cls := "UltraLogLog", name := "add", desc := "(LUltraLogLog;)LUltraLogLog;" } : Jvm.MethodName) ({ cls := "UltraLogLog", name := "add", desc := "(LUltraLogLog;)LUltraLogLog;" } : Jvm.MethodName)) ∈ lw_all := lw_g (lw_at lw_m2 43 rfl) rfl
theorem q290 : (Jvm.Cond.code ({ cls := "UltraLogLog", name := "add", desc := "(LUltraLogLog;)LUltraLogLog;" } : Jvm.MethodName) prog_3_method_13_code (14 : Nat) (Option.some (Jvm.ClassFile.FieldType.object "UltraLogLog"))) ∈ lw_all := lw_g (lw_at lw_m2 44 rfl) rfl
theorem q291 : (Jvm.Cond.stringRef "UltraLogLog" (83 : Nat) "null argument") ∈ lw_tbl := lw_at lw_m2 45 rfl
theorem q292 : (Jvm.Cond.classLink "UltraLogLog" (85 : Nat) "java/lang/IllegalArgumentException") ∈ lw_all := lw_g (lw_at lw_m2 46 rfl) rfl
theorem q293 : (Jvm.Cond.stringRef "UltraLogLog" (87 : Nat) "other has smaller precision") ∈ lw_tbl := lw_at lw_m2 47 rfl
theorem q294 : (Jvm.Cond.methodLink "UltraLogLog" (89 : Nat) ({ cls := "java/lang/IllegalArgumentException", name := "<init>", desc := "(Ljava/lang/String;)V" } : Jvm.MethodName)) ∈ lw_all := lw_g (lw_at lw_m2 48 rfl) rfl
theorem q295 : (Jvm.Cond.methodLink "UltraLogLog" (92 : Nat) ({ cls := "UltraLogLog", name := "getP", desc := "()I" } : Jvm.MethodName)) ∈ lw_all := lw_g (lw_at lw_m2 49 rfl) rfl
theorem q306 : (Jvm.Cond.instanceMethod ({ cls := "UltraLogLog", name := "downsize", desc := "(I)LUltraLogLog;" } : Jvm.MethodName)) ∈ lw_all := lw_g (lw_at lw_m2 60 rfl) rfl
theorem q307 : (Jvm.Cond.selects "UltraLogLog" ({ cls := "UltraLogLog", name := "downsize", desc := "(I)LUltraLogLog;" } : Jvm.MethodName) ({ cls := "UltraLogLog", name := "downsize", desc := "(I)LUltraLogLog;" } : Jvm.MethodName)) ∈ lw_all := lw_g (lw_at lw_m2 61 rfl) rfl
theorem q308 : (Jvm.Cond.code ({ cls := "UltraLogLog", name := "downsize", desc := "(I)LUltraLogLog;" } : Jvm.MethodName) prog_3_method_5_code (2 : Nat) (Option.some (Jvm.ClassFile.FieldType.object "UltraLogLog"))) ∈ lw_all := lw_g (lw_at lw_m2 62 rfl) rfl
theorem q314 : (Jvm.Cond.static ({ cls := "UltraLogLog", name := "computeToken", desc := "(J)I" } : Jvm.MethodName)) ∈ lw_all := lw_g (lw_at lw_m2 68 rfl) rfl
theorem q315 : (Jvm.Cond.code ({ cls := "UltraLogLog", name := "computeToken", desc := "(J)I" } : Jvm.MethodName) prog_3_method_11_code (2 : Nat) (Option.some Jvm.ClassFile.FieldType.int)) ∈ lw_all := lw_g (lw_at lw_m2 69 rfl) rfl
theorem q316 : (Jvm.Cond.methodLink "UltraLogLog" (65 : Nat) ({ cls := "DistinctCountUtil", name := "computeToken", desc := "(J)I" } : Jvm.MethodName)) ∈ lw_all := lw_g (lw_at lw_m2 70 rfl) rfl
theorem q322 : (Jvm.Cond.instanceMethod ({ cls := "UltraLogLog", name := "addToken", desc := "(I)LUltraLogLog;" } : Jvm.MethodName)) ∈ lw_all := lw_g (lw_at lw_m2 76 rfl) rfl
theorem q323 : (Jvm.Cond.selects "UltraLogLog" ({ cls := "UltraLogLog", name := "addToken", desc := "(I)LUltraLogLog;" } : Jvm.MethodName) ({ cls := "UltraLogLog", name := "addToken", desc := "(I)LUltraLogLog;" } : Jvm.MethodName)) ∈ lw_all := lw_g (lw_at lw_m2 77 rfl) rfl
theorem q324 : (Jvm.Cond.code ({ cls := "UltraLogLog", name := "addToken", desc := "(I)LUltraLogLog;" } : Jvm.MethodName) prog_3_method_10_code (2 : Nat) (Option.some (Jvm.ClassFile.FieldType.object "UltraLogLog"))) ∈ lw_all := lw_g (lw_at lw_m2 78 rfl) rfl
theorem q325 : (Jvm.Cond.methodLink "UltraLogLog" (58 : Nat) ({ cls := "DistinctCountUtil", name := "reconstructHash", desc := "(I)J" } : Jvm.MethodName)) ∈ lw_all := lw_g (lw_at lw_m2 79 rfl) rfl
theorem q330 : (Jvm.Cond.methodLink "UltraLogLog" (62 : Nat) ({ cls := "UltraLogLog", name := "add", desc := "(J)LUltraLogLog;" } : Jvm.MethodName)) ∈ lw_all := lw_g (lw_at lw_m2 84 rfl) rfl
theorem in_X2 : ∀ w ∈ wsX20, w ∈ lw_all := lw_in wsX20 [116] (by decide +kernel) (by decide +kernel)
/-! UltraSketchDesk -/
set_option maxRecDepth 100000
def RX1 : String := "UltraSketchDesk"
def TX1 : u_T := fun k => match k with
  | _ => ("UltraSketchDesk", "rows", "[LUltraLogLog;", true)
def tyX1 : Nat → FieldType := fun k => match k with
  | _ => .array (.object "UltraLogLog")
abbrev wsX10 : List Cond := u_ws RX1 TX1 1
theorem nmX1 : ∀ a, a < 1 → ∀ b, b < 1 → a ≠ b → (TX1 a).2.1 ≠ (TX1 b).2.1 := by decide +kernel
theorem tyX1_ok : ∀ k, k < 1 → parseFieldDescriptor (TX1 k).2.2.1 = some (tyX1 k) := by decide +kernel
abbrev cX1_init : ByteArray := prog_4_method_1_code
def yX1_init : MethodName := ⟨RX1, "<init>", "()V"⟩
def dkwX1_init_1 : List UInt8 := [5, 8, 184, 0, 9, 83, 181, 0, 13, 177]
abbrev dktX1_init_1 : List UInt8 := dkwX1_init_1 ++ []
def dkwX1_init_0 : List UInt8 := [42, 183, 0, 1, 42, 6, 189, 0, 7, 89, 3, 8, 184, 0, 9, 83, 89, 4, 8, 184, 0, 9, 83, 89]
abbrev dktX1_init_0 : List UInt8 := dkwX1_init_0 ++ dktX1_init_1
theorem dksX1_init_0 : cX1_init.data.toList.drop 0 = dktX1_init_0 := by decide +kernel
theorem dksX1_init_1 : cX1_init.data.toList.drop 24 = dktX1_init_1 := dk_seg dksX1_init_0 24 rfl rfl
theorem dX1_init_0 : decode cX1_init 0 = .ok (.aload_n 0, 1) := dk_42 (dk_at dksX1_init_0 0 rfl rfl)
theorem dX1_init_1 : decode cX1_init 1 = .ok (.invokespecial 1, 3) := dk_183 0 1 (dk_at dksX1_init_0 1 rfl rfl)
theorem dX1_init_4 : decode cX1_init 4 = .ok (.aload_n 0, 1) := dk_42 (dk_at dksX1_init_0 4 rfl rfl)
theorem dX1_init_5 : decode cX1_init 5 = .ok (.iconst 3, 1) := dk_6 (dk_at dksX1_init_0 5 rfl rfl)
theorem dX1_init_6 : decode cX1_init 6 = .ok (.anewarray 7, 3) := dk_189 0 7 (dk_at dksX1_init_0 6 rfl rfl)
theorem dX1_init_9 : decode cX1_init 9 = .ok (.dup, 1) := dk_89 (dk_at dksX1_init_0 9 rfl rfl)
theorem dX1_init_10 : decode cX1_init 10 = .ok (.iconst 0, 1) := dk_3 (dk_at dksX1_init_0 10 rfl rfl)
theorem dX1_init_11 : decode cX1_init 11 = .ok (.iconst 5, 1) := dk_8 (dk_at dksX1_init_0 11 rfl rfl)
theorem dX1_init_12 : decode cX1_init 12 = .ok (.invokestatic 9, 3) := dk_184 0 9 (dk_at dksX1_init_0 12 rfl rfl)
theorem dX1_init_15 : decode cX1_init 15 = .ok (.aastore, 1) := dk_83 (dk_at dksX1_init_0 15 rfl rfl)
theorem dX1_init_16 : decode cX1_init 16 = .ok (.dup, 1) := dk_89 (dk_at dksX1_init_0 16 rfl rfl)
theorem dX1_init_17 : decode cX1_init 17 = .ok (.iconst 1, 1) := dk_4 (dk_at dksX1_init_0 17 rfl rfl)
theorem dX1_init_18 : decode cX1_init 18 = .ok (.iconst 5, 1) := dk_8 (dk_at dksX1_init_0 18 rfl rfl)
theorem dX1_init_19 : decode cX1_init 19 = .ok (.invokestatic 9, 3) := dk_184 0 9 (dk_at dksX1_init_0 19 rfl rfl)
theorem dX1_init_22 : decode cX1_init 22 = .ok (.aastore, 1) := dk_83 (dk_at dksX1_init_0 22 rfl rfl)
theorem dX1_init_23 : decode cX1_init 23 = .ok (.dup, 1) := dk_89 (dk_at dksX1_init_0 23 rfl rfl)
theorem dX1_init_24 : decode cX1_init 24 = .ok (.iconst 2, 1) := dk_5 (dk_at dksX1_init_1 0 rfl rfl)
theorem dX1_init_25 : decode cX1_init 25 = .ok (.iconst 5, 1) := dk_8 (dk_at dksX1_init_1 1 rfl rfl)
theorem dX1_init_26 : decode cX1_init 26 = .ok (.invokestatic 9, 3) := dk_184 0 9 (dk_at dksX1_init_1 2 rfl rfl)
theorem dX1_init_29 : decode cX1_init 29 = .ok (.aastore, 1) := dk_83 (dk_at dksX1_init_1 5 rfl rfl)
theorem dX1_init_30 : decode cX1_init 30 = .ok (.putfield 13, 3) := dk_181 0 13 (dk_at dksX1_init_1 6 rfl rfl)
theorem dX1_init_33 : decode cX1_init 33 = .ok (.return_, 1) := dk_177 (dk_at dksX1_init_1 9 rfl rfl)
abbrev cX1_p : ByteArray := prog_4_method_15_code
def yX1_p : MethodName := ⟨RX1, "p", "(I)I"⟩
def dkwX1_p_0 : List UInt8 := [42, 180, 0, 13, 27, 184, 0, 22, 50, 182, 0, 38, 172]
abbrev dktX1_p_0 : List UInt8 := dkwX1_p_0 ++ []
theorem dksX1_p_0 : cX1_p.data.toList.drop 0 = dktX1_p_0 := by decide +kernel
theorem dX1_p_0 : decode cX1_p 0 = .ok (.aload_n 0, 1) := dk_42 (dk_at dksX1_p_0 0 rfl rfl)
theorem dX1_p_1 : decode cX1_p 1 = .ok (.getfield 13, 3) := dk_180 0 13 (dk_at dksX1_p_0 1 rfl rfl)
theorem dX1_p_4 : decode cX1_p 4 = .ok (.iload_n 1, 1) := dk_27 (dk_at dksX1_p_0 4 rfl rfl)
theorem dX1_p_5 : decode cX1_p 5 = .ok (.invokestatic 22, 3) := dk_184 0 22 (dk_at dksX1_p_0 5 rfl rfl)
theorem dX1_p_8 : decode cX1_p 8 = .ok (.aaload, 1) := dk_50 (dk_at dksX1_p_0 8 rfl rfl)
theorem dX1_p_9 : decode cX1_p 9 = .ok (.invokevirtual 38, 3) := dk_182 0 38 (dk_at dksX1_p_0 9 rfl rfl)
theorem dX1_p_12 : decode cX1_p 12 = .ok (.ireturn, 1) := dk_172 (dk_at dksX1_p_0 12 rfl rfl)
abbrev cX1_k : ByteArray := prog_4_method_2_code
def yX1_k : MethodName := ⟨RX1, "k", "(I)I"⟩
def dkwX1_k_0 : List UInt8 := [26, 18, 19, 126, 6, 112, 172]
abbrev dktX1_k_0 : List UInt8 := dkwX1_k_0 ++ []
theorem dksX1_k_0 : cX1_k.data.toList.drop 0 = dktX1_k_0 := by decide +kernel
theorem dX1_k_0 : decode cX1_k 0 = .ok (.iload_n 0, 1) := dk_26 (dk_at dksX1_k_0 0 rfl rfl)
theorem dX1_k_1 : decode cX1_k 1 = .ok (.ldc 19, 2) := dk_18 19 (dk_at dksX1_k_0 1 rfl rfl)
theorem dX1_k_3 : decode cX1_k 3 = .ok (.iand, 1) := dk_126 (dk_at dksX1_k_0 3 rfl rfl)
theorem dX1_k_4 : decode cX1_k 4 = .ok (.iconst 3, 1) := dk_6 (dk_at dksX1_k_0 4 rfl rfl)
theorem dX1_k_5 : decode cX1_k 5 = .ok (.irem, 1) := dk_112 (dk_at dksX1_k_0 5 rfl rfl)
theorem dX1_k_6 : decode cX1_k 6 = .ok (.ireturn, 1) := dk_172 (dk_at dksX1_k_0 6 rfl rfl)
abbrev cX1_register : ByteArray := prog_4_method_11_code
def yX1_register : MethodName := ⟨RX1, "register", "(II)I"⟩
def dkwX1_register_1 : List UInt8 := [17, 0, 255, 126, 172]
abbrev dktX1_register_1 : List UInt8 := dkwX1_register_1 ++ []
def dkwX1_register_0 : List UInt8 := [42, 180, 0, 13, 27, 184, 0, 22, 50, 182, 0, 52, 78, 45, 28, 18, 19, 126, 45, 190, 112, 51]
abbrev dktX1_register_0 : List UInt8 := dkwX1_register_0 ++ dktX1_register_1
theorem dksX1_register_0 : cX1_register.data.toList.drop 0 = dktX1_register_0 := by decide +kernel
theorem dksX1_register_1 : cX1_register.data.toList.drop 22 = dktX1_register_1 := dk_seg dksX1_register_0 22 rfl rfl
theorem dX1_register_0 : decode cX1_register 0 = .ok (.aload_n 0, 1) := dk_42 (dk_at dksX1_register_0 0 rfl rfl)
theorem dX1_register_1 : decode cX1_register 1 = .ok (.getfield 13, 3) := dk_180 0 13 (dk_at dksX1_register_0 1 rfl rfl)
theorem dX1_register_4 : decode cX1_register 4 = .ok (.iload_n 1, 1) := dk_27 (dk_at dksX1_register_0 4 rfl rfl)
theorem dX1_register_5 : decode cX1_register 5 = .ok (.invokestatic 22, 3) := dk_184 0 22 (dk_at dksX1_register_0 5 rfl rfl)
theorem dX1_register_8 : decode cX1_register 8 = .ok (.aaload, 1) := dk_50 (dk_at dksX1_register_0 8 rfl rfl)
theorem dX1_register_9 : decode cX1_register 9 = .ok (.invokevirtual 52, 3) := dk_182 0 52 (dk_at dksX1_register_0 9 rfl rfl)
theorem dX1_register_12 : decode cX1_register 12 = .ok (.astore_n 3, 1) := dk_78 (dk_at dksX1_register_0 12 rfl rfl)
theorem dX1_register_13 : decode cX1_register 13 = .ok (.aload_n 3, 1) := dk_45 (dk_at dksX1_register_0 13 rfl rfl)
theorem dX1_register_14 : decode cX1_register 14 = .ok (.iload_n 2, 1) := dk_28 (dk_at dksX1_register_0 14 rfl rfl)
theorem dX1_register_15 : decode cX1_register 15 = .ok (.ldc 19, 2) := dk_18 19 (dk_at dksX1_register_0 15 rfl rfl)
theorem dX1_register_17 : decode cX1_register 17 = .ok (.iand, 1) := dk_126 (dk_at dksX1_register_0 17 rfl rfl)
theorem dX1_register_18 : decode cX1_register 18 = .ok (.aload_n 3, 1) := dk_45 (dk_at dksX1_register_0 18 rfl rfl)
theorem dX1_register_19 : decode cX1_register 19 = .ok (.arraylength, 1) := dk_190 (dk_at dksX1_register_0 19 rfl rfl)
theorem dX1_register_20 : decode cX1_register 20 = .ok (.irem, 1) := dk_112 (dk_at dksX1_register_0 20 rfl rfl)
theorem dX1_register_21 : decode cX1_register 21 = .ok (.baload, 1) := dk_51 (dk_at dksX1_register_0 21 rfl rfl)
theorem dX1_register_22 : decode cX1_register 22 = .ok (.sipush 255, 3) := dk_17 0 255 (dk_at dksX1_register_1 0 rfl rfl)
theorem dX1_register_25 : decode cX1_register 25 = .ok (.iand, 1) := dk_126 (dk_at dksX1_register_1 3 rfl rfl)
theorem dX1_register_26 : decode cX1_register 26 = .ok (.ireturn, 1) := dk_172 (dk_at dksX1_register_1 4 rfl rfl)
abbrev cX1_empty : ByteArray := prog_4_method_14_code
def yX1_empty : MethodName := ⟨RX1, "empty", "(I)Z"⟩
def dkwX1_empty_0 : List UInt8 := [42, 180, 0, 13, 27, 184, 0, 22, 50, 182, 0, 63, 172]
abbrev dktX1_empty_0 : List UInt8 := dkwX1_empty_0 ++ []
theorem dksX1_empty_0 : cX1_empty.data.toList.drop 0 = dktX1_empty_0 := by decide +kernel
theorem dX1_empty_0 : decode cX1_empty 0 = .ok (.aload_n 0, 1) := dk_42 (dk_at dksX1_empty_0 0 rfl rfl)
theorem dX1_empty_1 : decode cX1_empty 1 = .ok (.getfield 13, 3) := dk_180 0 13 (dk_at dksX1_empty_0 1 rfl rfl)
theorem dX1_empty_4 : decode cX1_empty 4 = .ok (.iload_n 1, 1) := dk_27 (dk_at dksX1_empty_0 4 rfl rfl)
theorem dX1_empty_5 : decode cX1_empty 5 = .ok (.invokestatic 22, 3) := dk_184 0 22 (dk_at dksX1_empty_0 5 rfl rfl)
theorem dX1_empty_8 : decode cX1_empty 8 = .ok (.aaload, 1) := dk_50 (dk_at dksX1_empty_0 8 rfl rfl)
theorem dX1_empty_9 : decode cX1_empty 9 = .ok (.invokevirtual 63, 3) := dk_182 0 63 (dk_at dksX1_empty_0 9 rfl rfl)
theorem dX1_empty_12 : decode cX1_empty 12 = .ok (.ireturn, 1) := dk_172 (dk_at dksX1_empty_0 12 rfl rfl)
abbrev cX1_anew : ByteArray := prog_4_method_10_code
def yX1_anew : MethodName := ⟨RX1, "anew", "(II)V"⟩
def dkwX1_anew_0 : List UInt8 := [42, 180, 0, 13, 27, 184, 0, 22, 6, 28, 6, 126, 96, 184, 0, 9, 83, 177]
abbrev dktX1_anew_0 : List UInt8 := dkwX1_anew_0 ++ []
theorem dksX1_anew_0 : cX1_anew.data.toList.drop 0 = dktX1_anew_0 := by decide +kernel
theorem dX1_anew_0 : decode cX1_anew 0 = .ok (.aload_n 0, 1) := dk_42 (dk_at dksX1_anew_0 0 rfl rfl)
theorem dX1_anew_1 : decode cX1_anew 1 = .ok (.getfield 13, 3) := dk_180 0 13 (dk_at dksX1_anew_0 1 rfl rfl)
theorem dX1_anew_4 : decode cX1_anew 4 = .ok (.iload_n 1, 1) := dk_27 (dk_at dksX1_anew_0 4 rfl rfl)
theorem dX1_anew_5 : decode cX1_anew 5 = .ok (.invokestatic 22, 3) := dk_184 0 22 (dk_at dksX1_anew_0 5 rfl rfl)
theorem dX1_anew_8 : decode cX1_anew 8 = .ok (.iconst 3, 1) := dk_6 (dk_at dksX1_anew_0 8 rfl rfl)
theorem dX1_anew_9 : decode cX1_anew 9 = .ok (.iload_n 2, 1) := dk_28 (dk_at dksX1_anew_0 9 rfl rfl)
theorem dX1_anew_10 : decode cX1_anew 10 = .ok (.iconst 3, 1) := dk_6 (dk_at dksX1_anew_0 10 rfl rfl)
theorem dX1_anew_11 : decode cX1_anew 11 = .ok (.iand, 1) := dk_126 (dk_at dksX1_anew_0 11 rfl rfl)
theorem dX1_anew_12 : decode cX1_anew 12 = .ok (.iadd, 1) := dk_96 (dk_at dksX1_anew_0 12 rfl rfl)
theorem dX1_anew_13 : decode cX1_anew 13 = .ok (.invokestatic 9, 3) := dk_184 0 9 (dk_at dksX1_anew_0 13 rfl rfl)
theorem dX1_anew_16 : decode cX1_anew 16 = .ok (.aastore, 1) := dk_83 (dk_at dksX1_anew_0 16 rfl rfl)
theorem dX1_anew_17 : decode cX1_anew 17 = .ok (.return_, 1) := dk_177 (dk_at dksX1_anew_0 17 rfl rfl)
abbrev cX1_add : ByteArray := prog_4_method_4_code
def yX1_add : MethodName := ⟨RX1, "add", "(III)V"⟩
def dkwX1_add_0 : List UInt8 := [42, 180, 0, 13, 27, 184, 0, 22, 50, 28, 29, 184, 0, 26, 182, 0, 30, 87, 177]
abbrev dktX1_add_0 : List UInt8 := dkwX1_add_0 ++ []
theorem dksX1_add_0 : cX1_add.data.toList.drop 0 = dktX1_add_0 := by decide +kernel
theorem dX1_add_0 : decode cX1_add 0 = .ok (.aload_n 0, 1) := dk_42 (dk_at dksX1_add_0 0 rfl rfl)
theorem dX1_add_1 : decode cX1_add 1 = .ok (.getfield 13, 3) := dk_180 0 13 (dk_at dksX1_add_0 1 rfl rfl)
theorem dX1_add_4 : decode cX1_add 4 = .ok (.iload_n 1, 1) := dk_27 (dk_at dksX1_add_0 4 rfl rfl)
theorem dX1_add_5 : decode cX1_add 5 = .ok (.invokestatic 22, 3) := dk_184 0 22 (dk_at dksX1_add_0 5 rfl rfl)
theorem dX1_add_8 : decode cX1_add 8 = .ok (.aaload, 1) := dk_50 (dk_at dksX1_add_0 8 rfl rfl)
theorem dX1_add_9 : decode cX1_add 9 = .ok (.iload_n 2, 1) := dk_28 (dk_at dksX1_add_0 9 rfl rfl)
theorem dX1_add_10 : decode cX1_add 10 = .ok (.iload_n 3, 1) := dk_29 (dk_at dksX1_add_0 10 rfl rfl)
theorem dX1_add_11 : decode cX1_add 11 = .ok (.invokestatic 26, 3) := dk_184 0 26 (dk_at dksX1_add_0 11 rfl rfl)
theorem dX1_add_14 : decode cX1_add 14 = .ok (.invokevirtual 30, 3) := dk_182 0 30 (dk_at dksX1_add_0 14 rfl rfl)
theorem dX1_add_17 : decode cX1_add 17 = .ok (.pop, 1) := dk_87 (dk_at dksX1_add_0 17 rfl rfl)
theorem dX1_add_18 : decode cX1_add 18 = .ok (.return_, 1) := dk_177 (dk_at dksX1_add_0 18 rfl rfl)
abbrev cX1_of : ByteArray := prog_4_method_3_code
def yX1_of : MethodName := ⟨RX1, "of", "(II)J"⟩
def dkwX1_of_0 : List UInt8 := [26, 133, 16, 32, 121, 27, 133, 20, 0, 20, 127, 129, 173]
abbrev dktX1_of_0 : List UInt8 := dkwX1_of_0 ++ []
theorem dksX1_of_0 : cX1_of.data.toList.drop 0 = dktX1_of_0 := by decide +kernel
theorem dX1_of_0 : decode cX1_of 0 = .ok (.iload_n 0, 1) := dk_26 (dk_at dksX1_of_0 0 rfl rfl)
theorem dX1_of_1 : decode cX1_of 1 = .ok (.i2l, 1) := dk_133 (dk_at dksX1_of_0 1 rfl rfl)
theorem dX1_of_2 : decode cX1_of 2 = .ok (.bipush 32, 2) := dk_16 32 (dk_at dksX1_of_0 2 rfl rfl)
theorem dX1_of_4 : decode cX1_of 4 = .ok (.lshl, 1) := dk_121 (dk_at dksX1_of_0 4 rfl rfl)
theorem dX1_of_5 : decode cX1_of 5 = .ok (.iload_n 1, 1) := dk_27 (dk_at dksX1_of_0 5 rfl rfl)
theorem dX1_of_6 : decode cX1_of 6 = .ok (.i2l, 1) := dk_133 (dk_at dksX1_of_0 6 rfl rfl)
theorem dX1_of_7 : decode cX1_of 7 = .ok (.ldc2_w 20, 3) := dk_20 0 20 (dk_at dksX1_of_0 7 rfl rfl)
theorem dX1_of_10 : decode cX1_of 10 = .ok (.land, 1) := dk_127 (dk_at dksX1_of_0 10 rfl rfl)
theorem dX1_of_11 : decode cX1_of 11 = .ok (.lor, 1) := dk_129 (dk_at dksX1_of_0 11 rfl rfl)
theorem dX1_of_12 : decode cX1_of 12 = .ok (.lreturn, 1) := dk_173 (dk_at dksX1_of_0 12 rfl rfl)
abbrev cX1_many : ByteArray := prog_4_method_5_code
def yX1_many : MethodName := ⟨RX1, "many", "(IIII)V"⟩
def dkwX1_many_2 : List UInt8 := [132, 7, 255, 167, 255, 221, 177]
abbrev dktX1_many_2 : List UInt8 := dkwX1_many_2 ++ []
def dkwX1_many_1 : List UInt8 := [184, 0, 22, 50, 22, 5, 182, 0, 30, 87, 22, 5, 20, 0, 34, 105, 20, 0, 36, 97, 55, 5]
abbrev dktX1_many_1 : List UInt8 := dkwX1_many_1 ++ dktX1_many_2
def dkwX1_many_0 : List UInt8 := [28, 29, 184, 0, 26, 55, 5, 21, 4, 16, 63, 126, 54, 7, 21, 7, 155, 0, 36, 42, 180, 0, 13, 27]
abbrev dktX1_many_0 : List UInt8 := dkwX1_many_0 ++ dktX1_many_1
theorem dksX1_many_0 : cX1_many.data.toList.drop 0 = dktX1_many_0 := by decide +kernel
theorem dksX1_many_1 : cX1_many.data.toList.drop 24 = dktX1_many_1 := dk_seg dksX1_many_0 24 rfl rfl
theorem dksX1_many_2 : cX1_many.data.toList.drop 46 = dktX1_many_2 := dk_seg dksX1_many_1 22 rfl rfl
theorem dX1_many_0 : decode cX1_many 0 = .ok (.iload_n 2, 1) := dk_28 (dk_at dksX1_many_0 0 rfl rfl)
theorem dX1_many_1 : decode cX1_many 1 = .ok (.iload_n 3, 1) := dk_29 (dk_at dksX1_many_0 1 rfl rfl)
theorem dX1_many_2 : decode cX1_many 2 = .ok (.invokestatic 26, 3) := dk_184 0 26 (dk_at dksX1_many_0 2 rfl rfl)
theorem dX1_many_5 : decode cX1_many 5 = .ok (.lstore 5, 2) := dk_55 5 (dk_at dksX1_many_0 5 rfl rfl)
theorem dX1_many_7 : decode cX1_many 7 = .ok (.iload 4, 2) := dk_21 4 (dk_at dksX1_many_0 7 rfl rfl)
theorem dX1_many_9 : decode cX1_many 9 = .ok (.bipush 63, 2) := dk_16 63 (dk_at dksX1_many_0 9 rfl rfl)
theorem dX1_many_11 : decode cX1_many 11 = .ok (.iand, 1) := dk_126 (dk_at dksX1_many_0 11 rfl rfl)
theorem dX1_many_12 : decode cX1_many 12 = .ok (.istore 7, 2) := dk_54 7 (dk_at dksX1_many_0 12 rfl rfl)
theorem dX1_many_14 : decode cX1_many 14 = .ok (.iload 7, 2) := dk_21 7 (dk_at dksX1_many_0 14 rfl rfl)
theorem dX1_many_16 : decode cX1_many 16 = .ok (.ifCond .lt 36, 3) := dk_155 0 36 (dk_at dksX1_many_0 16 rfl rfl)
theorem dX1_many_19 : decode cX1_many 19 = .ok (.aload_n 0, 1) := dk_42 (dk_at dksX1_many_0 19 rfl rfl)
theorem dX1_many_20 : decode cX1_many 20 = .ok (.getfield 13, 3) := dk_180 0 13 (dk_at dksX1_many_0 20 rfl rfl)
theorem dX1_many_23 : decode cX1_many 23 = .ok (.iload_n 1, 1) := dk_27 (dk_at dksX1_many_0 23 rfl rfl)
theorem dX1_many_24 : decode cX1_many 24 = .ok (.invokestatic 22, 3) := dk_184 0 22 (dk_at dksX1_many_1 0 rfl rfl)
theorem dX1_many_27 : decode cX1_many 27 = .ok (.aaload, 1) := dk_50 (dk_at dksX1_many_1 3 rfl rfl)
theorem dX1_many_28 : decode cX1_many 28 = .ok (.lload 5, 2) := dk_22 5 (dk_at dksX1_many_1 4 rfl rfl)
theorem dX1_many_30 : decode cX1_many 30 = .ok (.invokevirtual 30, 3) := dk_182 0 30 (dk_at dksX1_many_1 6 rfl rfl)
theorem dX1_many_33 : decode cX1_many 33 = .ok (.pop, 1) := dk_87 (dk_at dksX1_many_1 9 rfl rfl)
theorem dX1_many_34 : decode cX1_many 34 = .ok (.lload 5, 2) := dk_22 5 (dk_at dksX1_many_1 10 rfl rfl)
theorem dX1_many_36 : decode cX1_many 36 = .ok (.ldc2_w 34, 3) := dk_20 0 34 (dk_at dksX1_many_1 12 rfl rfl)
theorem dX1_many_39 : decode cX1_many 39 = .ok (.lmul, 1) := dk_105 (dk_at dksX1_many_1 15 rfl rfl)
theorem dX1_many_40 : decode cX1_many 40 = .ok (.ldc2_w 36, 3) := dk_20 0 36 (dk_at dksX1_many_1 16 rfl rfl)
theorem dX1_many_43 : decode cX1_many 43 = .ok (.ladd, 1) := dk_97 (dk_at dksX1_many_1 19 rfl rfl)
theorem dX1_many_44 : decode cX1_many 44 = .ok (.lstore 5, 2) := dk_55 5 (dk_at dksX1_many_1 20 rfl rfl)
theorem dX1_many_46 : decode cX1_many 46 = .ok (.iinc 7 (-1), 3) := dk_132 7 255 (dk_at dksX1_many_2 0 rfl rfl)
theorem dX1_many_49 : decode cX1_many 49 = .ok (.goto (-35), 3) := dk_167 255 221 (dk_at dksX1_many_2 3 rfl rfl)
theorem dX1_many_52 : decode cX1_many 52 = .ok (.return_, 1) := dk_177 (dk_at dksX1_many_2 6 rfl rfl)
abbrev cX1_high : ByteArray := prog_4_method_6_code
def yX1_high : MethodName := ⟨RX1, "high", "(III)V"⟩
def dkwX1_high_3 : List UInt8 := [21, 4, 100, 121, 22, 6, 129, 182, 0, 30, 87, 177]
abbrev dktX1_high_3 : List UInt8 := dkwX1_high_3 ++ []
def dkwX1_high_2 : List UInt8 := [100, 121, 55, 6, 42, 180, 0, 13, 27, 184, 0, 22, 50, 28, 4, 21, 4, 120, 4, 100, 126, 133, 16, 64]
abbrev dktX1_high_2 : List UInt8 := dkwX1_high_2 ++ dktX1_high_3
def dkwX1_high_1 : List UInt8 := [54, 5, 21, 5, 16, 64, 21, 4, 100, 160, 0, 7, 9, 167, 0, 13, 10, 16, 63, 21, 4, 100, 21, 5]
abbrev dktX1_high_1 : List UInt8 := dkwX1_high_1 ++ dktX1_high_2
def dkwX1_high_0 : List UInt8 := [42, 180, 0, 13, 27, 184, 0, 22, 50, 182, 0, 38, 54, 4, 29, 18, 19, 126, 16, 65, 21, 4, 100, 112]
abbrev dktX1_high_0 : List UInt8 := dkwX1_high_0 ++ dktX1_high_1
theorem dksX1_high_0 : cX1_high.data.toList.drop 0 = dktX1_high_0 := by decide +kernel
theorem dksX1_high_1 : cX1_high.data.toList.drop 24 = dktX1_high_1 := dk_seg dksX1_high_0 24 rfl rfl
theorem dksX1_high_2 : cX1_high.data.toList.drop 48 = dktX1_high_2 := dk_seg dksX1_high_1 24 rfl rfl
theorem dksX1_high_3 : cX1_high.data.toList.drop 72 = dktX1_high_3 := dk_seg dksX1_high_2 24 rfl rfl
theorem dX1_high_0 : decode cX1_high 0 = .ok (.aload_n 0, 1) := dk_42 (dk_at dksX1_high_0 0 rfl rfl)
theorem dX1_high_1 : decode cX1_high 1 = .ok (.getfield 13, 3) := dk_180 0 13 (dk_at dksX1_high_0 1 rfl rfl)
theorem dX1_high_4 : decode cX1_high 4 = .ok (.iload_n 1, 1) := dk_27 (dk_at dksX1_high_0 4 rfl rfl)
theorem dX1_high_5 : decode cX1_high 5 = .ok (.invokestatic 22, 3) := dk_184 0 22 (dk_at dksX1_high_0 5 rfl rfl)
theorem dX1_high_8 : decode cX1_high 8 = .ok (.aaload, 1) := dk_50 (dk_at dksX1_high_0 8 rfl rfl)
theorem dX1_high_9 : decode cX1_high 9 = .ok (.invokevirtual 38, 3) := dk_182 0 38 (dk_at dksX1_high_0 9 rfl rfl)
theorem dX1_high_12 : decode cX1_high 12 = .ok (.istore 4, 2) := dk_54 4 (dk_at dksX1_high_0 12 rfl rfl)
theorem dX1_high_14 : decode cX1_high 14 = .ok (.iload_n 3, 1) := dk_29 (dk_at dksX1_high_0 14 rfl rfl)
theorem dX1_high_15 : decode cX1_high 15 = .ok (.ldc 19, 2) := dk_18 19 (dk_at dksX1_high_0 15 rfl rfl)
theorem dX1_high_17 : decode cX1_high 17 = .ok (.iand, 1) := dk_126 (dk_at dksX1_high_0 17 rfl rfl)
theorem dX1_high_18 : decode cX1_high 18 = .ok (.bipush 65, 2) := dk_16 65 (dk_at dksX1_high_0 18 rfl rfl)
theorem dX1_high_20 : decode cX1_high 20 = .ok (.iload 4, 2) := dk_21 4 (dk_at dksX1_high_0 20 rfl rfl)
theorem dX1_high_22 : decode cX1_high 22 = .ok (.isub, 1) := dk_100 (dk_at dksX1_high_0 22 rfl rfl)
theorem dX1_high_23 : decode cX1_high 23 = .ok (.irem, 1) := dk_112 (dk_at dksX1_high_0 23 rfl rfl)
theorem dX1_high_24 : decode cX1_high 24 = .ok (.istore 5, 2) := dk_54 5 (dk_at dksX1_high_1 0 rfl rfl)
theorem dX1_high_26 : decode cX1_high 26 = .ok (.iload 5, 2) := dk_21 5 (dk_at dksX1_high_1 2 rfl rfl)
theorem dX1_high_28 : decode cX1_high 28 = .ok (.bipush 64, 2) := dk_16 64 (dk_at dksX1_high_1 4 rfl rfl)
theorem dX1_high_30 : decode cX1_high 30 = .ok (.iload 4, 2) := dk_21 4 (dk_at dksX1_high_1 6 rfl rfl)
theorem dX1_high_32 : decode cX1_high 32 = .ok (.isub, 1) := dk_100 (dk_at dksX1_high_1 8 rfl rfl)
theorem dX1_high_33 : decode cX1_high 33 = .ok (.if_icmp .ne 7, 3) := dk_160 0 7 (dk_at dksX1_high_1 9 rfl rfl)
theorem dX1_high_36 : decode cX1_high 36 = .ok (.lconst 0, 1) := dk_9 (dk_at dksX1_high_1 12 rfl rfl)
theorem dX1_high_37 : decode cX1_high 37 = .ok (.goto 13, 3) := dk_167 0 13 (dk_at dksX1_high_1 13 rfl rfl)
theorem dX1_high_40 : decode cX1_high 40 = .ok (.lconst 1, 1) := dk_10 (dk_at dksX1_high_1 16 rfl rfl)
theorem dX1_high_41 : decode cX1_high 41 = .ok (.bipush 63, 2) := dk_16 63 (dk_at dksX1_high_1 17 rfl rfl)
theorem dX1_high_43 : decode cX1_high 43 = .ok (.iload 4, 2) := dk_21 4 (dk_at dksX1_high_1 19 rfl rfl)
theorem dX1_high_45 : decode cX1_high 45 = .ok (.isub, 1) := dk_100 (dk_at dksX1_high_1 21 rfl rfl)
theorem dX1_high_46 : decode cX1_high 46 = .ok (.iload 5, 2) := dk_21 5 (dk_at dksX1_high_1 22 rfl rfl)
theorem dX1_high_48 : decode cX1_high 48 = .ok (.isub, 1) := dk_100 (dk_at dksX1_high_2 0 rfl rfl)
theorem dX1_high_49 : decode cX1_high 49 = .ok (.lshl, 1) := dk_121 (dk_at dksX1_high_2 1 rfl rfl)
theorem dX1_high_50 : decode cX1_high 50 = .ok (.lstore 6, 2) := dk_55 6 (dk_at dksX1_high_2 2 rfl rfl)
theorem dX1_high_52 : decode cX1_high 52 = .ok (.aload_n 0, 1) := dk_42 (dk_at dksX1_high_2 4 rfl rfl)
theorem dX1_high_53 : decode cX1_high 53 = .ok (.getfield 13, 3) := dk_180 0 13 (dk_at dksX1_high_2 5 rfl rfl)
theorem dX1_high_56 : decode cX1_high 56 = .ok (.iload_n 1, 1) := dk_27 (dk_at dksX1_high_2 8 rfl rfl)
theorem dX1_high_57 : decode cX1_high 57 = .ok (.invokestatic 22, 3) := dk_184 0 22 (dk_at dksX1_high_2 9 rfl rfl)
theorem dX1_high_60 : decode cX1_high 60 = .ok (.aaload, 1) := dk_50 (dk_at dksX1_high_2 12 rfl rfl)
theorem dX1_high_61 : decode cX1_high 61 = .ok (.iload_n 2, 1) := dk_28 (dk_at dksX1_high_2 13 rfl rfl)
theorem dX1_high_62 : decode cX1_high 62 = .ok (.iconst 1, 1) := dk_4 (dk_at dksX1_high_2 14 rfl rfl)
theorem dX1_high_63 : decode cX1_high 63 = .ok (.iload 4, 2) := dk_21 4 (dk_at dksX1_high_2 15 rfl rfl)
theorem dX1_high_65 : decode cX1_high 65 = .ok (.ishl, 1) := dk_120 (dk_at dksX1_high_2 17 rfl rfl)
theorem dX1_high_66 : decode cX1_high 66 = .ok (.iconst 1, 1) := dk_4 (dk_at dksX1_high_2 18 rfl rfl)
theorem dX1_high_67 : decode cX1_high 67 = .ok (.isub, 1) := dk_100 (dk_at dksX1_high_2 19 rfl rfl)
theorem dX1_high_68 : decode cX1_high 68 = .ok (.iand, 1) := dk_126 (dk_at dksX1_high_2 20 rfl rfl)
theorem dX1_high_69 : decode cX1_high 69 = .ok (.i2l, 1) := dk_133 (dk_at dksX1_high_2 21 rfl rfl)
theorem dX1_high_70 : decode cX1_high 70 = .ok (.bipush 64, 2) := dk_16 64 (dk_at dksX1_high_2 22 rfl rfl)
theorem dX1_high_72 : decode cX1_high 72 = .ok (.iload 4, 2) := dk_21 4 (dk_at dksX1_high_3 0 rfl rfl)
theorem dX1_high_74 : decode cX1_high 74 = .ok (.isub, 1) := dk_100 (dk_at dksX1_high_3 2 rfl rfl)
theorem dX1_high_75 : decode cX1_high 75 = .ok (.lshl, 1) := dk_121 (dk_at dksX1_high_3 3 rfl rfl)
theorem dX1_high_76 : decode cX1_high 76 = .ok (.lload 6, 2) := dk_22 6 (dk_at dksX1_high_3 4 rfl rfl)
theorem dX1_high_78 : decode cX1_high 78 = .ok (.lor, 1) := dk_129 (dk_at dksX1_high_3 6 rfl rfl)
theorem dX1_high_79 : decode cX1_high 79 = .ok (.invokevirtual 30, 3) := dk_182 0 30 (dk_at dksX1_high_3 7 rfl rfl)
theorem dX1_high_82 : decode cX1_high 82 = .ok (.pop, 1) := dk_87 (dk_at dksX1_high_3 10 rfl rfl)
theorem dX1_high_83 : decode cX1_high 83 = .ok (.return_, 1) := dk_177 (dk_at dksX1_high_3 11 rfl rfl)
abbrev cX1_join : ByteArray := prog_4_method_7_code
def yX1_join : MethodName := ⟨RX1, "join", "(III)V"⟩
def dkwX1_join_1 : List UInt8 := [184, 0, 22, 50, 184, 0, 42, 83, 177]
abbrev dktX1_join_1 : List UInt8 := dkwX1_join_1 ++ []
def dkwX1_join_0 : List UInt8 := [42, 180, 0, 13, 27, 184, 0, 22, 42, 180, 0, 13, 28, 184, 0, 22, 50, 42, 180, 0, 13, 29]
abbrev dktX1_join_0 : List UInt8 := dkwX1_join_0 ++ dktX1_join_1
theorem dksX1_join_0 : cX1_join.data.toList.drop 0 = dktX1_join_0 := by decide +kernel
theorem dksX1_join_1 : cX1_join.data.toList.drop 22 = dktX1_join_1 := dk_seg dksX1_join_0 22 rfl rfl
theorem dX1_join_0 : decode cX1_join 0 = .ok (.aload_n 0, 1) := dk_42 (dk_at dksX1_join_0 0 rfl rfl)
theorem dX1_join_1 : decode cX1_join 1 = .ok (.getfield 13, 3) := dk_180 0 13 (dk_at dksX1_join_0 1 rfl rfl)
theorem dX1_join_4 : decode cX1_join 4 = .ok (.iload_n 1, 1) := dk_27 (dk_at dksX1_join_0 4 rfl rfl)
theorem dX1_join_5 : decode cX1_join 5 = .ok (.invokestatic 22, 3) := dk_184 0 22 (dk_at dksX1_join_0 5 rfl rfl)
theorem dX1_join_8 : decode cX1_join 8 = .ok (.aload_n 0, 1) := dk_42 (dk_at dksX1_join_0 8 rfl rfl)
theorem dX1_join_9 : decode cX1_join 9 = .ok (.getfield 13, 3) := dk_180 0 13 (dk_at dksX1_join_0 9 rfl rfl)
theorem dX1_join_12 : decode cX1_join 12 = .ok (.iload_n 2, 1) := dk_28 (dk_at dksX1_join_0 12 rfl rfl)
theorem dX1_join_13 : decode cX1_join 13 = .ok (.invokestatic 22, 3) := dk_184 0 22 (dk_at dksX1_join_0 13 rfl rfl)
theorem dX1_join_16 : decode cX1_join 16 = .ok (.aaload, 1) := dk_50 (dk_at dksX1_join_0 16 rfl rfl)
theorem dX1_join_17 : decode cX1_join 17 = .ok (.aload_n 0, 1) := dk_42 (dk_at dksX1_join_0 17 rfl rfl)
theorem dX1_join_18 : decode cX1_join 18 = .ok (.getfield 13, 3) := dk_180 0 13 (dk_at dksX1_join_0 18 rfl rfl)
theorem dX1_join_21 : decode cX1_join 21 = .ok (.iload_n 3, 1) := dk_29 (dk_at dksX1_join_0 21 rfl rfl)
theorem dX1_join_22 : decode cX1_join 22 = .ok (.invokestatic 22, 3) := dk_184 0 22 (dk_at dksX1_join_1 0 rfl rfl)
theorem dX1_join_25 : decode cX1_join 25 = .ok (.aaload, 1) := dk_50 (dk_at dksX1_join_1 3 rfl rfl)
theorem dX1_join_26 : decode cX1_join 26 = .ok (.invokestatic 42, 3) := dk_184 0 42 (dk_at dksX1_join_1 4 rfl rfl)
theorem dX1_join_29 : decode cX1_join 29 = .ok (.aastore, 1) := dk_83 (dk_at dksX1_join_1 7 rfl rfl)
theorem dX1_join_30 : decode cX1_join 30 = .ok (.return_, 1) := dk_177 (dk_at dksX1_join_1 8 rfl rfl)
abbrev cX1_take : ByteArray := prog_4_method_8_code
def yX1_take : MethodName := ⟨RX1, "take", "(II)V"⟩
def dkwX1_take_2 : List UInt8 := [180, 0, 13, 28, 184, 0, 22, 50, 182, 0, 46, 87, 177]
abbrev dktX1_take_2 : List UInt8 := dkwX1_take_2 ++ []
def dkwX1_take_1 : List UInt8 := [161, 0, 36, 28, 184, 0, 22, 27, 184, 0, 22, 159, 0, 25, 42, 180, 0, 13, 27, 184, 0, 22, 50, 42]
abbrev dktX1_take_1 : List UInt8 := dkwX1_take_1 ++ dktX1_take_2
def dkwX1_take_0 : List UInt8 := [42, 180, 0, 13, 28, 184, 0, 22, 50, 182, 0, 38, 42, 180, 0, 13, 27, 184, 0, 22, 50, 182, 0, 38]
abbrev dktX1_take_0 : List UInt8 := dkwX1_take_0 ++ dktX1_take_1
theorem dksX1_take_0 : cX1_take.data.toList.drop 0 = dktX1_take_0 := by decide +kernel
theorem dksX1_take_1 : cX1_take.data.toList.drop 24 = dktX1_take_1 := dk_seg dksX1_take_0 24 rfl rfl
theorem dksX1_take_2 : cX1_take.data.toList.drop 48 = dktX1_take_2 := dk_seg dksX1_take_1 24 rfl rfl
theorem dX1_take_0 : decode cX1_take 0 = .ok (.aload_n 0, 1) := dk_42 (dk_at dksX1_take_0 0 rfl rfl)
theorem dX1_take_1 : decode cX1_take 1 = .ok (.getfield 13, 3) := dk_180 0 13 (dk_at dksX1_take_0 1 rfl rfl)
theorem dX1_take_4 : decode cX1_take 4 = .ok (.iload_n 2, 1) := dk_28 (dk_at dksX1_take_0 4 rfl rfl)
theorem dX1_take_5 : decode cX1_take 5 = .ok (.invokestatic 22, 3) := dk_184 0 22 (dk_at dksX1_take_0 5 rfl rfl)
theorem dX1_take_8 : decode cX1_take 8 = .ok (.aaload, 1) := dk_50 (dk_at dksX1_take_0 8 rfl rfl)
theorem dX1_take_9 : decode cX1_take 9 = .ok (.invokevirtual 38, 3) := dk_182 0 38 (dk_at dksX1_take_0 9 rfl rfl)
theorem dX1_take_12 : decode cX1_take 12 = .ok (.aload_n 0, 1) := dk_42 (dk_at dksX1_take_0 12 rfl rfl)
theorem dX1_take_13 : decode cX1_take 13 = .ok (.getfield 13, 3) := dk_180 0 13 (dk_at dksX1_take_0 13 rfl rfl)
theorem dX1_take_16 : decode cX1_take 16 = .ok (.iload_n 1, 1) := dk_27 (dk_at dksX1_take_0 16 rfl rfl)
theorem dX1_take_17 : decode cX1_take 17 = .ok (.invokestatic 22, 3) := dk_184 0 22 (dk_at dksX1_take_0 17 rfl rfl)
theorem dX1_take_20 : decode cX1_take 20 = .ok (.aaload, 1) := dk_50 (dk_at dksX1_take_0 20 rfl rfl)
theorem dX1_take_21 : decode cX1_take 21 = .ok (.invokevirtual 38, 3) := dk_182 0 38 (dk_at dksX1_take_0 21 rfl rfl)
theorem dX1_take_24 : decode cX1_take 24 = .ok (.if_icmp .lt 36, 3) := dk_161 0 36 (dk_at dksX1_take_1 0 rfl rfl)
theorem dX1_take_27 : decode cX1_take 27 = .ok (.iload_n 2, 1) := dk_28 (dk_at dksX1_take_1 3 rfl rfl)
theorem dX1_take_28 : decode cX1_take 28 = .ok (.invokestatic 22, 3) := dk_184 0 22 (dk_at dksX1_take_1 4 rfl rfl)
theorem dX1_take_31 : decode cX1_take 31 = .ok (.iload_n 1, 1) := dk_27 (dk_at dksX1_take_1 7 rfl rfl)
theorem dX1_take_32 : decode cX1_take 32 = .ok (.invokestatic 22, 3) := dk_184 0 22 (dk_at dksX1_take_1 8 rfl rfl)
theorem dX1_take_35 : decode cX1_take 35 = .ok (.if_icmp .eq 25, 3) := dk_159 0 25 (dk_at dksX1_take_1 11 rfl rfl)
theorem dX1_take_38 : decode cX1_take 38 = .ok (.aload_n 0, 1) := dk_42 (dk_at dksX1_take_1 14 rfl rfl)
theorem dX1_take_39 : decode cX1_take 39 = .ok (.getfield 13, 3) := dk_180 0 13 (dk_at dksX1_take_1 15 rfl rfl)
theorem dX1_take_42 : decode cX1_take 42 = .ok (.iload_n 1, 1) := dk_27 (dk_at dksX1_take_1 18 rfl rfl)
theorem dX1_take_43 : decode cX1_take 43 = .ok (.invokestatic 22, 3) := dk_184 0 22 (dk_at dksX1_take_1 19 rfl rfl)
theorem dX1_take_46 : decode cX1_take 46 = .ok (.aaload, 1) := dk_50 (dk_at dksX1_take_1 22 rfl rfl)
theorem dX1_take_47 : decode cX1_take 47 = .ok (.aload_n 0, 1) := dk_42 (dk_at dksX1_take_1 23 rfl rfl)
theorem dX1_take_48 : decode cX1_take 48 = .ok (.getfield 13, 3) := dk_180 0 13 (dk_at dksX1_take_2 0 rfl rfl)
theorem dX1_take_51 : decode cX1_take 51 = .ok (.iload_n 2, 1) := dk_28 (dk_at dksX1_take_2 3 rfl rfl)
theorem dX1_take_52 : decode cX1_take 52 = .ok (.invokestatic 22, 3) := dk_184 0 22 (dk_at dksX1_take_2 4 rfl rfl)
theorem dX1_take_55 : decode cX1_take 55 = .ok (.aaload, 1) := dk_50 (dk_at dksX1_take_2 7 rfl rfl)
theorem dX1_take_56 : decode cX1_take 56 = .ok (.invokevirtual 46, 3) := dk_182 0 46 (dk_at dksX1_take_2 8 rfl rfl)
theorem dX1_take_59 : decode cX1_take 59 = .ok (.pop, 1) := dk_87 (dk_at dksX1_take_2 11 rfl rfl)
theorem dX1_take_60 : decode cX1_take 60 = .ok (.return_, 1) := dk_177 (dk_at dksX1_take_2 12 rfl rfl)
abbrev cX1_smaller : ByteArray := prog_4_method_9_code
def yX1_smaller : MethodName := ⟨RX1, "smaller", "(III)I"⟩
def dkwX1_smaller_1 : List UInt8 := [182, 0, 49, 83, 42, 180, 0, 13, 27, 184, 0, 22, 50, 182, 0, 38, 172]
abbrev dktX1_smaller_1 : List UInt8 := dkwX1_smaller_1 ++ []
def dkwX1_smaller_0 : List UInt8 := [42, 180, 0, 13, 27, 184, 0, 22, 42, 180, 0, 13, 28, 184, 0, 22, 50, 6, 29, 16, 7, 126, 96]
abbrev dktX1_smaller_0 : List UInt8 := dkwX1_smaller_0 ++ dktX1_smaller_1
theorem dksX1_smaller_0 : cX1_smaller.data.toList.drop 0 = dktX1_smaller_0 := by decide +kernel
theorem dksX1_smaller_1 : cX1_smaller.data.toList.drop 23 = dktX1_smaller_1 := dk_seg dksX1_smaller_0 23 rfl rfl
theorem dX1_smaller_0 : decode cX1_smaller 0 = .ok (.aload_n 0, 1) := dk_42 (dk_at dksX1_smaller_0 0 rfl rfl)
theorem dX1_smaller_1 : decode cX1_smaller 1 = .ok (.getfield 13, 3) := dk_180 0 13 (dk_at dksX1_smaller_0 1 rfl rfl)
theorem dX1_smaller_4 : decode cX1_smaller 4 = .ok (.iload_n 1, 1) := dk_27 (dk_at dksX1_smaller_0 4 rfl rfl)
theorem dX1_smaller_5 : decode cX1_smaller 5 = .ok (.invokestatic 22, 3) := dk_184 0 22 (dk_at dksX1_smaller_0 5 rfl rfl)
theorem dX1_smaller_8 : decode cX1_smaller 8 = .ok (.aload_n 0, 1) := dk_42 (dk_at dksX1_smaller_0 8 rfl rfl)
theorem dX1_smaller_9 : decode cX1_smaller 9 = .ok (.getfield 13, 3) := dk_180 0 13 (dk_at dksX1_smaller_0 9 rfl rfl)
theorem dX1_smaller_12 : decode cX1_smaller 12 = .ok (.iload_n 2, 1) := dk_28 (dk_at dksX1_smaller_0 12 rfl rfl)
theorem dX1_smaller_13 : decode cX1_smaller 13 = .ok (.invokestatic 22, 3) := dk_184 0 22 (dk_at dksX1_smaller_0 13 rfl rfl)
theorem dX1_smaller_16 : decode cX1_smaller 16 = .ok (.aaload, 1) := dk_50 (dk_at dksX1_smaller_0 16 rfl rfl)
theorem dX1_smaller_17 : decode cX1_smaller 17 = .ok (.iconst 3, 1) := dk_6 (dk_at dksX1_smaller_0 17 rfl rfl)
theorem dX1_smaller_18 : decode cX1_smaller 18 = .ok (.iload_n 3, 1) := dk_29 (dk_at dksX1_smaller_0 18 rfl rfl)
theorem dX1_smaller_19 : decode cX1_smaller 19 = .ok (.bipush 7, 2) := dk_16 7 (dk_at dksX1_smaller_0 19 rfl rfl)
theorem dX1_smaller_21 : decode cX1_smaller 21 = .ok (.iand, 1) := dk_126 (dk_at dksX1_smaller_0 21 rfl rfl)
theorem dX1_smaller_22 : decode cX1_smaller 22 = .ok (.iadd, 1) := dk_96 (dk_at dksX1_smaller_0 22 rfl rfl)
theorem dX1_smaller_23 : decode cX1_smaller 23 = .ok (.invokevirtual 49, 3) := dk_182 0 49 (dk_at dksX1_smaller_1 0 rfl rfl)
theorem dX1_smaller_26 : decode cX1_smaller 26 = .ok (.aastore, 1) := dk_83 (dk_at dksX1_smaller_1 3 rfl rfl)
theorem dX1_smaller_27 : decode cX1_smaller 27 = .ok (.aload_n 0, 1) := dk_42 (dk_at dksX1_smaller_1 4 rfl rfl)
theorem dX1_smaller_28 : decode cX1_smaller 28 = .ok (.getfield 13, 3) := dk_180 0 13 (dk_at dksX1_smaller_1 5 rfl rfl)
theorem dX1_smaller_31 : decode cX1_smaller 31 = .ok (.iload_n 1, 1) := dk_27 (dk_at dksX1_smaller_1 8 rfl rfl)
theorem dX1_smaller_32 : decode cX1_smaller 32 = .ok (.invokestatic 22, 3) := dk_184 0 22 (dk_at dksX1_smaller_1 9 rfl rfl)
theorem dX1_smaller_35 : decode cX1_smaller 35 = .ok (.aaload, 1) := dk_50 (dk_at dksX1_smaller_1 12 rfl rfl)
theorem dX1_smaller_36 : decode cX1_smaller 36 = .ok (.invokevirtual 38, 3) := dk_182 0 38 (dk_at dksX1_smaller_1 13 rfl rfl)
theorem dX1_smaller_39 : decode cX1_smaller 39 = .ok (.ireturn, 1) := dk_172 (dk_at dksX1_smaller_1 16 rfl rfl)
abbrev cX1_addToken : ByteArray := prog_4_method_13_code
def yX1_addToken : MethodName := ⟨RX1, "addToken", "(III)V"⟩
def dkwX1_addToken_0 : List UInt8 := [42, 180, 0, 13, 27, 184, 0, 22, 50, 28, 29, 184, 0, 26, 184, 0, 56, 182, 0, 60, 87, 177]
abbrev dktX1_addToken_0 : List UInt8 := dkwX1_addToken_0 ++ []
theorem dksX1_addToken_0 : cX1_addToken.data.toList.drop 0 = dktX1_addToken_0 := by decide +kernel
theorem dX1_addToken_0 : decode cX1_addToken 0 = .ok (.aload_n 0, 1) := dk_42 (dk_at dksX1_addToken_0 0 rfl rfl)
theorem dX1_addToken_1 : decode cX1_addToken 1 = .ok (.getfield 13, 3) := dk_180 0 13 (dk_at dksX1_addToken_0 1 rfl rfl)
theorem dX1_addToken_4 : decode cX1_addToken 4 = .ok (.iload_n 1, 1) := dk_27 (dk_at dksX1_addToken_0 4 rfl rfl)
theorem dX1_addToken_5 : decode cX1_addToken 5 = .ok (.invokestatic 22, 3) := dk_184 0 22 (dk_at dksX1_addToken_0 5 rfl rfl)
theorem dX1_addToken_8 : decode cX1_addToken 8 = .ok (.aaload, 1) := dk_50 (dk_at dksX1_addToken_0 8 rfl rfl)
theorem dX1_addToken_9 : decode cX1_addToken 9 = .ok (.iload_n 2, 1) := dk_28 (dk_at dksX1_addToken_0 9 rfl rfl)
theorem dX1_addToken_10 : decode cX1_addToken 10 = .ok (.iload_n 3, 1) := dk_29 (dk_at dksX1_addToken_0 10 rfl rfl)
theorem dX1_addToken_11 : decode cX1_addToken 11 = .ok (.invokestatic 26, 3) := dk_184 0 26 (dk_at dksX1_addToken_0 11 rfl rfl)
theorem dX1_addToken_14 : decode cX1_addToken 14 = .ok (.invokestatic 56, 3) := dk_184 0 56 (dk_at dksX1_addToken_0 14 rfl rfl)
theorem dX1_addToken_17 : decode cX1_addToken 17 = .ok (.invokevirtual 60, 3) := dk_182 0 60 (dk_at dksX1_addToken_0 17 rfl rfl)
theorem dX1_addToken_20 : decode cX1_addToken 20 = .ok (.pop, 1) := dk_87 (dk_at dksX1_addToken_0 20 rfl rfl)
theorem dX1_addToken_21 : decode cX1_addToken 21 = .ok (.return_, 1) := dk_177 (dk_at dksX1_addToken_0 21 rfl rfl)
abbrev cX1_token : ByteArray := prog_4_method_12_code
def yX1_token : MethodName := ⟨RX1, "token", "(II)I"⟩
def dkwX1_token_0 : List UInt8 := [27, 28, 184, 0, 26, 184, 0, 56, 172]
abbrev dktX1_token_0 : List UInt8 := dkwX1_token_0 ++ []
theorem dksX1_token_0 : cX1_token.data.toList.drop 0 = dktX1_token_0 := by decide +kernel
theorem dX1_token_0 : decode cX1_token 0 = .ok (.iload_n 1, 1) := dk_27 (dk_at dksX1_token_0 0 rfl rfl)
theorem dX1_token_1 : decode cX1_token 1 = .ok (.iload_n 2, 1) := dk_28 (dk_at dksX1_token_0 1 rfl rfl)
theorem dX1_token_2 : decode cX1_token 2 = .ok (.invokestatic 26, 3) := dk_184 0 26 (dk_at dksX1_token_0 2 rfl rfl)
theorem dX1_token_5 : decode cX1_token 5 = .ok (.invokestatic 56, 3) := dk_184 0 56 (dk_at dksX1_token_0 5 rfl rfl)
theorem dX1_token_8 : decode cX1_token 8 = .ok (.ireturn, 1) := dk_172 (dk_at dksX1_token_0 8 rfl rfl)
theorem q7 : (Jvm.Cond.initialized "UltraSketchDesk") ∈ lw_all := lw_g (lw_at lw_m1 1 rfl) rfl
theorem q30 : (Jvm.Cond.instantiable "UltraSketchDesk" (1 : Nat)) ∈ lw_all := lw_g (lw_at lw_m1 24 rfl) rfl
theorem q32 : (Jvm.Cond.instanceMethod ({ cls := "UltraSketchDesk", name := "<init>", desc := "()V" } : Jvm.MethodName)) ∈ lw_all := lw_g (lw_at lw_m1 26 rfl) rfl
theorem q33 : (Jvm.Cond.code ({ cls := "UltraSketchDesk", name := "<init>", desc := "()V" } : Jvm.MethodName) prog_4_method_1_code (1 : Nat) (Option.none : Option Jvm.ClassFile.FieldType)) ∈ lw_all := lw_g (lw_at lw_m1 27 rfl) rfl
theorem q34 : (Jvm.Cond.methodLink "UltraSketchDesk" (1 : Nat) ({ cls := "java/lang/Object", name := "<init>", desc := "()V" } : Jvm.MethodName)) ∈ lw_all := lw_g (lw_at lw_m1 28 rfl) rfl
theorem q35 : (Jvm.Cond.classLink "UltraSketchDesk" (7 : Nat) "UltraLogLog") ∈ lw_all := lw_g (lw_at lw_m1 29 rfl) rfl
theorem q37 : (Jvm.Cond.methodLink "UltraSketchDesk" (9 : Nat) ({ cls := "UltraLogLog", name := "create", desc := "(I)LUltraLogLog;" } : Jvm.MethodName)) ∈ lw_all := lw_g (lw_at lw_m1 31 rfl) rfl
theorem q119 : (Jvm.Cond.fieldLink "UltraSketchDesk" (13 : Nat) "UltraSketchDesk" "rows" "[LUltraLogLog;") ∈ lw_all := lw_g (lw_at lw_m1 113 rfl) rfl
theorem q120 : (Jvm.Cond.laysFinal "UltraSketchDesk" "UltraSketchDesk" "rows" "[LUltraLogLog;") ∈ lw_all := lw_g (lw_at lw_m1 114 rfl) rfl
theorem q121 : (Jvm.Cond.soleField "UltraSketchDesk" "rows") ∈ lw_all := lw_g (lw_at lw_m1 115 rfl) rfl
theorem q122 : (Jvm.Cond.superclass "UltraSketchDesk" "java/lang/Object") ∈ lw_all := lw_g (lw_at lw_m1 116 rfl) rfl
theorem q146 : (Jvm.Cond.instanceMethod ({ cls := "UltraSketchDesk", name := "p", desc := "(I)I" } : Jvm.MethodName)) ∈ lw_all := lw_g (lw_at lw_m1 140 rfl) rfl
theorem q147 : (Jvm.Cond.selects "UltraSketchDesk" ({ cls := "UltraSketchDesk", name := "p", desc := "(I)I" } : Jvm.MethodName) ({ cls := "UltraSketchDesk", name := "p", desc := "(I)I" } : Jvm.MethodName)) ∈ lw_all := lw_g (lw_at lw_m1 141 rfl) rfl
theorem q148 : (Jvm.Cond.code ({ cls := "UltraSketchDesk", name := "p", desc := "(I)I" } : Jvm.MethodName) prog_4_method_15_code (2 : Nat) (Option.some Jvm.ClassFile.FieldType.int)) ∈ lw_all := lw_g (lw_at lw_m1 142 rfl) rfl
theorem q149 : (Jvm.Cond.methodLink "UltraSketchDesk" (22 : Nat) ({ cls := "UltraSketchDesk", name := "k", desc := "(I)I" } : Jvm.MethodName)) ∈ lw_all := lw_g (lw_at lw_m1 143 rfl) rfl
theorem q150 : (Jvm.Cond.static ({ cls := "UltraSketchDesk", name := "k", desc := "(I)I" } : Jvm.MethodName)) ∈ lw_all := lw_g (lw_at lw_m1 144 rfl) rfl
theorem q151 : (Jvm.Cond.code ({ cls := "UltraSketchDesk", name := "k", desc := "(I)I" } : Jvm.MethodName) prog_4_method_2_code (1 : Nat) (Option.some Jvm.ClassFile.FieldType.int)) ∈ lw_all := lw_g (lw_at lw_m1 145 rfl) rfl
theorem q152 : (Jvm.Cond.constant "UltraSketchDesk" (19 : Nat) (2147483647 : Int32)) ∈ lw_all := lw_g (lw_at lw_m1 146 rfl) rfl
theorem q153 : (Jvm.Cond.methodLink "UltraSketchDesk" (38 : Nat) ({ cls := "UltraLogLog", name := "getP", desc := "()I" } : Jvm.MethodName)) ∈ lw_all := lw_g (lw_at lw_m1 147 rfl) rfl
theorem q162 : (Jvm.Cond.instanceMethod ({ cls := "UltraSketchDesk", name := "register", desc := "(II)I" } : Jvm.MethodName)) ∈ lw_all := lw_g (lw_at lw_m1 156 rfl) rfl
theorem q163 : (Jvm.Cond.selects "UltraSketchDesk" ({ cls := "UltraSketchDesk", name := "register", desc := "(II)I" } : Jvm.MethodName) ({ cls := "UltraSketchDesk", name := "register", desc := "(II)I" } : Jvm.MethodName)) ∈ lw_all := lw_g (lw_at lw_m1 157 rfl) rfl
theorem q164 : (Jvm.Cond.code ({ cls := "UltraSketchDesk", name := "register", desc := "(II)I" } : Jvm.MethodName) prog_4_method_11_code (4 : Nat) (Option.some Jvm.ClassFile.FieldType.int)) ∈ lw_all := lw_g (lw_at lw_m1 158 rfl) rfl
theorem q165 : (Jvm.Cond.methodLink "UltraSketchDesk" (52 : Nat) ({ cls := "UltraLogLog", name := "getState", desc := "()[B" } : Jvm.MethodName)) ∈ lw_all := lw_g (lw_at lw_m1 159 rfl) rfl
theorem q173 : (Jvm.Cond.instanceMethod ({ cls := "UltraSketchDesk", name := "empty", desc := "(I)Z" } : Jvm.MethodName)) ∈ lw_all := lw_g (lw_at lw_m1 167 rfl) rfl
theorem q174 : (Jvm.Cond.selects "UltraSketchDesk" ({ cls := "UltraSketchDesk", name := "empty", desc := "(I)Z" } : Jvm.MethodName) ({ cls := "UltraSketchDesk", name := "empty", desc := "(I)Z" } : Jvm.MethodName)) ∈ lw_all := lw_g (lw_at lw_m1 168 rfl) rfl
theorem q175 : (Jvm.Cond.code ({ cls := "UltraSketchDesk", name := "empty", desc := "(I)Z" } : Jvm.MethodName) prog_4_method_14_code (2 : Nat) (Option.some Jvm.ClassFile.FieldType.boolean)) ∈ lw_all := lw_g (lw_at lw_m1 169 rfl) rfl
theorem q176 : (Jvm.Cond.methodLink "UltraSketchDesk" (63 : Nat) ({ cls := "UltraLogLog", name := "isEmpty", desc := "()Z" } : Jvm.MethodName)) ∈ lw_all := lw_g (lw_at lw_m1 170 rfl) rfl
theorem q184 : (Jvm.Cond.instanceMethod ({ cls := "UltraSketchDesk", name := "anew", desc := "(II)V" } : Jvm.MethodName)) ∈ lw_all := lw_g (lw_at lw_m1 178 rfl) rfl
theorem q185 : (Jvm.Cond.selects "UltraSketchDesk" ({ cls := "UltraSketchDesk", name := "anew", desc := "(II)V" } : Jvm.MethodName) ({ cls := "UltraSketchDesk", name := "anew", desc := "(II)V" } : Jvm.MethodName)) ∈ lw_all := lw_g (lw_at lw_m1 179 rfl) rfl
theorem q186 : (Jvm.Cond.code ({ cls := "UltraSketchDesk", name := "anew", desc := "(II)V" } : Jvm.MethodName) prog_4_method_10_code (3 : Nat) (Option.none : Option Jvm.ClassFile.FieldType)) ∈ lw_all := lw_g (lw_at lw_m1 180 rfl) rfl
theorem q196 : (Jvm.Cond.instanceMethod ({ cls := "UltraSketchDesk", name := "add", desc := "(III)V" } : Jvm.MethodName)) ∈ lw_all := lw_g (lw_at lw_m1 190 rfl) rfl
theorem q197 : (Jvm.Cond.selects "UltraSketchDesk" ({ cls := "UltraSketchDesk", name := "add", desc := "(III)V" } : Jvm.MethodName) ({ cls := "UltraSketchDesk", name := "add", desc := "(III)V" } : Jvm.MethodName)) ∈ lw_all := lw_g (lw_at lw_m1 191 rfl) rfl
theorem q198 : (Jvm.Cond.code ({ cls := "UltraSketchDesk", name := "add", desc := "(III)V" } : Jvm.MethodName) prog_4_method_4_code (4 : Nat) (Option.none : Option Jvm.ClassFile.FieldType)) ∈ lw_all := lw_g (lw_at lw_m1 192 rfl) rfl
theorem q199 : (Jvm.Cond.methodLink "UltraSketchDesk" (26 : Nat) ({ cls := "UltraSketchDesk", name := "of", desc := "(II)J" } : Jvm.MethodName)) ∈ lw_all := lw_g (lw_at lw_m1 193 rfl) rfl
theorem q200 : (Jvm.Cond.static ({ cls := "UltraSketchDesk", name := "of", desc := "(II)J" } : Jvm.MethodName)) ∈ lw_all := lw_g (lw_at lw_m1 194 rfl) rfl
theorem q201 : (Jvm.Cond.code ({ cls := "UltraSketchDesk", name := "of", desc := "(II)J" } : Jvm.MethodName) prog_4_method_3_code (2 : Nat) (Option.some Jvm.ClassFile.FieldType.long)) ∈ lw_all := lw_g (lw_at lw_m1 195 rfl) rfl
theorem q202 : (Jvm.Cond.constantLong "UltraSketchDesk" (20 : Nat) (4294967295 : Int64)) ∈ lw_all := lw_g (lw_at lw_m1 196 rfl) rfl
theorem q203 : (Jvm.Cond.methodLink "UltraSketchDesk" (30 : Nat) ({ cls := "UltraLogLog", name := "add", desc := "(J)LUltraLogLog;" } : Jvm.MethodName)) ∈ lw_all := lw_g (lw_at lw_m1 197 rfl) rfl
theorem q235 : (Jvm.Cond.instanceMethod ({ cls := "UltraSketchDesk", name := "many", desc := "(IIII)V" } : Jvm.MethodName)) ∈ lw_all := lw_g (lw_at lw_m1 229 rfl) rfl
theorem q236 : (Jvm.Cond.selects "UltraSketchDesk" ({ cls := "UltraSketchDesk", name := "many", desc := "(IIII)V" } : Jvm.MethodName) ({ cls := "UltraSketchDesk", name := "many", desc := "(IIII)V" } : Jvm.MethodName)) ∈ lw_all := lw_g (lw_at lw_m1 230 rfl) rfl
theorem q237 : (Jvm.Cond.code ({ cls := "UltraSketchDesk", name := "many", desc := "(IIII)V" } : Jvm.MethodName) prog_4_method_5_code (8 : Nat) (Option.none : Option Jvm.ClassFile.FieldType)) ∈ lw_all := lw_g (lw_at lw_m1 231 rfl) rfl
theorem q238 : (Jvm.Cond.constantLong "UltraSketchDesk" (34 : Nat) (6364136223846793005 : Int64)) ∈ lw_all := lw_g (lw_at lw_m1 232 rfl) rfl
theorem q239 : (Jvm.Cond.constantLong "UltraSketchDesk" (36 : Nat) (1442695040888963407 : Int64)) ∈ lw_all := lw_g (lw_at lw_m1 233 rfl) rfl
theorem q243 : (Jvm.Cond.instanceMethod ({ cls := "UltraSketchDesk", name := "high", desc := "(III)V" } : Jvm.MethodName)) ∈ lw_all := lw_g (lw_at lw_m1 237 rfl) rfl
theorem q244 : (Jvm.Cond.selects "UltraSketchDesk" ({ cls := "UltraSketchDesk", name := "high", desc := "(III)V" } : Jvm.MethodName) ({ cls := "UltraSketchDesk", name := "high", desc := "(III)V" } : Jvm.MethodName)) ∈ lw_all := lw_g (lw_at lw_m1 238 rfl) rfl
theorem q245 : (Jvm.Cond.code ({ cls := "UltraSketchDesk", name := "high", desc := "(III)V" } : Jvm.MethodName) prog_4_method_6_code (8 : Nat) (Option.none : Option Jvm.ClassFile.FieldType)) ∈ lw_all := lw_g (lw_at lw_m1 239 rfl) rfl
theorem q253 : (Jvm.Cond.instanceMethod ({ cls := "UltraSketchDesk", name := "join", desc := "(III)V" } : Jvm.MethodName)) ∈ lw_all := lw_g (lw_at lw_m2 7 rfl) rfl
theorem q254 : (Jvm.Cond.selects "UltraSketchDesk" ({ cls := "UltraSketchDesk", name := "join", desc := "(III)V" } : Jvm.MethodName) ({ cls := "UltraSketchDesk", name := "join", desc := "(III)V" } : Jvm.MethodName)) ∈ lw_all := lw_g (lw_at lw_m2 8 rfl) rfl
theorem q255 : (Jvm.Cond.code ({ cls := "UltraSketchDesk", name := "join", desc := "(III)V" } : Jvm.MethodName) prog_4_method_7_code (4 : Nat) (Option.none : Option Jvm.ClassFile.FieldType)) ∈ lw_all := lw_g (lw_at lw_m2 9 rfl) rfl
theorem q256 : (Jvm.Cond.methodLink "UltraSketchDesk" (42 : Nat) ({ cls := "UltraLogLog", name := "merge", desc := "(LUltraLogLog;LUltraLogLog;)LUltraLogLog;" } : Jvm.MethodName)) ∈ lw_all := lw_g (lw_at lw_m2 10 rfl) rfl
theorem q297 : (Jvm.Cond.instanceMethod ({ cls := "UltraSketchDesk", name := "take", desc := "(II)V" } : Jvm.MethodName)) ∈ lw_all := lw_g (lw_at lw_m2 51 rfl) rfl
theorem q298 : (Jvm.Cond.selects "UltraSketchDesk" ({ cls := "UltraSketchDesk", name := "take", desc := "(II)V" } : Jvm.MethodName) ({ cls := "UltraSketchDesk", name := "take", desc := "(II)V" } : Jvm.MethodName)) ∈ lw_all := lw_g (lw_at lw_m2 52 rfl) rfl
theorem q299 : (Jvm.Cond.code ({ cls := "UltraSketchDesk", name := "take", desc := "(II)V" } : Jvm.MethodName) prog_4_method_8_code (3 : Nat) (Option.none : Option Jvm.ClassFile.FieldType)) ∈ lw_all := lw_g (lw_at lw_m2 53 rfl) rfl
theorem q300 : (Jvm.Cond.methodLink "UltraSketchDesk" (46 : Nat) ({ cls := "UltraLogLog", name := "add", desc := "(LUltraLogLog;)LUltraLogLog;" } : Jvm.MethodName)) ∈ lw_all := lw_g (lw_at lw_m2 54 rfl) rfl
theorem q302 : (Jvm.Cond.instanceMethod ({ cls := "UltraSketchDesk", name := "smaller", desc := "(III)I" } : Jvm.MethodName)) ∈ lw_all := lw_g (lw_at lw_m2 56 rfl) rfl
theorem q303 : (Jvm.Cond.selects "UltraSketchDesk" ({ cls := "UltraSketchDesk", name := "smaller", desc := "(III)I" } : Jvm.MethodName) ({ cls := "UltraSketchDesk", name := "smaller", desc := "(III)I" } : Jvm.MethodName)) ∈ lw_all := lw_g (lw_at lw_m2 57 rfl) rfl
theorem q304 : (Jvm.Cond.code ({ cls := "UltraSketchDesk", name := "smaller", desc := "(III)I" } : Jvm.MethodName) prog_4_method_9_code (4 : Nat) (Option.some Jvm.ClassFile.FieldType.int)) ∈ lw_all := lw_g (lw_at lw_m2 58 rfl) rfl
theorem q305 : (Jvm.Cond.methodLink "UltraSketchDesk" (49 : Nat) ({ cls := "UltraLogLog", name := "downsize", desc := "(I)LUltraLogLog;" } : Jvm.MethodName)) ∈ lw_all := lw_g (lw_at lw_m2 59 rfl) rfl
theorem q310 : (Jvm.Cond.instanceMethod ({ cls := "UltraSketchDesk", name := "addToken", desc := "(III)V" } : Jvm.MethodName)) ∈ lw_all := lw_g (lw_at lw_m2 64 rfl) rfl
theorem q311 : (Jvm.Cond.selects "UltraSketchDesk" ({ cls := "UltraSketchDesk", name := "addToken", desc := "(III)V" } : Jvm.MethodName) ({ cls := "UltraSketchDesk", name := "addToken", desc := "(III)V" } : Jvm.MethodName)) ∈ lw_all := lw_g (lw_at lw_m2 65 rfl) rfl
theorem q312 : (Jvm.Cond.code ({ cls := "UltraSketchDesk", name := "addToken", desc := "(III)V" } : Jvm.MethodName) prog_4_method_13_code (4 : Nat) (Option.none : Option Jvm.ClassFile.FieldType)) ∈ lw_all := lw_g (lw_at lw_m2 66 rfl) rfl
theorem q313 : (Jvm.Cond.methodLink "UltraSketchDesk" (56 : Nat) ({ cls := "UltraLogLog", name := "computeToken", desc := "(J)I" } : Jvm.MethodName)) ∈ lw_all := lw_g (lw_at lw_m2 67 rfl) rfl
theorem q321 : (Jvm.Cond.methodLink "UltraSketchDesk" (60 : Nat) ({ cls := "UltraLogLog", name := "addToken", desc := "(I)LUltraLogLog;" } : Jvm.MethodName)) ∈ lw_all := lw_g (lw_at lw_m2 75 rfl) rfl
theorem q336 : (Jvm.Cond.instanceMethod ({ cls := "UltraSketchDesk", name := "token", desc := "(II)I" } : Jvm.MethodName)) ∈ lw_all := lw_g (lw_at lw_m2 90 rfl) rfl
theorem q337 : (Jvm.Cond.selects "UltraSketchDesk" ({ cls := "UltraSketchDesk", name := "token", desc := "(II)I" } : Jvm.MethodName) ({ cls := "UltraSketchDesk", name := "token", desc := "(II)I" } : Jvm.MethodName)) ∈ lw_all := lw_g (lw_at lw_m2 91 rfl) rfl
theorem q338 : (Jvm.Cond.code ({ cls := "UltraSketchDesk", name := "token", desc := "(II)I" } : Jvm.MethodName) prog_4_method_12_code (3 : Nat) (Option.some Jvm.ClassFile.FieldType.int)) ∈ lw_all := lw_g (lw_at lw_m2 92 rfl) rfl
theorem in_X1 : ∀ w ∈ wsX10, w ∈ lw_all := lw_in wsX10 [120] (by decide +kernel) (by decide +kernel)
/-! UltraSketchDeskLaw -/
set_option maxRecDepth 100000
def RX0 : String := "UltraSketchDeskLaw"
def TX0 : u_T := fun k => match k with
  | 0 => ("UltraSketchDeskLaw", "d", "LUltraSketchDesk;", true)
  | 1 => ("UltraSketchDeskLaw", "p", "[I", true)
  | _ => ("UltraSketchDeskLaw", "marks", "[[J", true)
def tyX0 : Nat → FieldType := fun k => match k with
  | 0 => .object "UltraSketchDesk"
  | 1 => .array .int
  | _ => .array (.array .long)
abbrev wsX00 : List Cond := u_ws RX0 TX0 3
theorem nmX0 : ∀ a, a < 3 → ∀ b, b < 3 → a ≠ b → (TX0 a).2.1 ≠ (TX0 b).2.1 := by decide +kernel
theorem tyX0_ok : ∀ k, k < 3 → parseFieldDescriptor (TX0 k).2.2.1 = some (tyX0 k) := by decide +kernel
abbrev cX0_init : ByteArray := method_1_code
def yX0_init : MethodName := ⟨RX0, "<init>", "()V"⟩
def dkwX0_init_2 : List UInt8 := [16, 32, 188, 11, 83, 89, 5, 16, 32, 188, 11, 83, 181, 0, 22, 177]
abbrev dktX0_init_2 : List UInt8 := dkwX0_init_2 ++ []
def dkwX0_init_1 : List UInt8 := [4, 8, 79, 89, 5, 8, 79, 181, 0, 16, 42, 6, 189, 0, 20, 89, 3, 16, 32, 188, 11, 83, 89, 4]
abbrev dktX0_init_1 : List UInt8 := dkwX0_init_1 ++ dktX0_init_2
def dkwX0_init_0 : List UInt8 := [42, 183, 0, 1, 42, 187, 0, 7, 89, 183, 0, 9, 181, 0, 10, 42, 6, 188, 10, 89, 3, 8, 79, 89]
abbrev dktX0_init_0 : List UInt8 := dkwX0_init_0 ++ dktX0_init_1
theorem dksX0_init_0 : cX0_init.data.toList.drop 0 = dktX0_init_0 := by decide +kernel
theorem dksX0_init_1 : cX0_init.data.toList.drop 24 = dktX0_init_1 := dk_seg dksX0_init_0 24 rfl rfl
theorem dksX0_init_2 : cX0_init.data.toList.drop 48 = dktX0_init_2 := dk_seg dksX0_init_1 24 rfl rfl
theorem dX0_init_0 : decode cX0_init 0 = .ok (.aload_n 0, 1) := dk_42 (dk_at dksX0_init_0 0 rfl rfl)
theorem dX0_init_1 : decode cX0_init 1 = .ok (.invokespecial 1, 3) := dk_183 0 1 (dk_at dksX0_init_0 1 rfl rfl)
theorem dX0_init_4 : decode cX0_init 4 = .ok (.aload_n 0, 1) := dk_42 (dk_at dksX0_init_0 4 rfl rfl)
theorem dX0_init_5 : decode cX0_init 5 = .ok (.new 7, 3) := dk_187 0 7 (dk_at dksX0_init_0 5 rfl rfl)
theorem dX0_init_8 : decode cX0_init 8 = .ok (.dup, 1) := dk_89 (dk_at dksX0_init_0 8 rfl rfl)
theorem dX0_init_9 : decode cX0_init 9 = .ok (.invokespecial 9, 3) := dk_183 0 9 (dk_at dksX0_init_0 9 rfl rfl)
theorem dX0_init_12 : decode cX0_init 12 = .ok (.putfield 10, 3) := dk_181 0 10 (dk_at dksX0_init_0 12 rfl rfl)
theorem dX0_init_15 : decode cX0_init 15 = .ok (.aload_n 0, 1) := dk_42 (dk_at dksX0_init_0 15 rfl rfl)
theorem dX0_init_16 : decode cX0_init 16 = .ok (.iconst 3, 1) := dk_6 (dk_at dksX0_init_0 16 rfl rfl)
theorem dX0_init_17 : decode cX0_init 17 = .ok (.newarray .int, 2) := dk_188_10 (dk_at dksX0_init_0 17 rfl rfl)
theorem dX0_init_19 : decode cX0_init 19 = .ok (.dup, 1) := dk_89 (dk_at dksX0_init_0 19 rfl rfl)
theorem dX0_init_20 : decode cX0_init 20 = .ok (.iconst 0, 1) := dk_3 (dk_at dksX0_init_0 20 rfl rfl)
theorem dX0_init_21 : decode cX0_init 21 = .ok (.iconst 5, 1) := dk_8 (dk_at dksX0_init_0 21 rfl rfl)
theorem dX0_init_22 : decode cX0_init 22 = .ok (.iastore, 1) := dk_79 (dk_at dksX0_init_0 22 rfl rfl)
theorem dX0_init_23 : decode cX0_init 23 = .ok (.dup, 1) := dk_89 (dk_at dksX0_init_0 23 rfl rfl)
theorem dX0_init_24 : decode cX0_init 24 = .ok (.iconst 1, 1) := dk_4 (dk_at dksX0_init_1 0 rfl rfl)
theorem dX0_init_25 : decode cX0_init 25 = .ok (.iconst 5, 1) := dk_8 (dk_at dksX0_init_1 1 rfl rfl)
theorem dX0_init_26 : decode cX0_init 26 = .ok (.iastore, 1) := dk_79 (dk_at dksX0_init_1 2 rfl rfl)
theorem dX0_init_27 : decode cX0_init 27 = .ok (.dup, 1) := dk_89 (dk_at dksX0_init_1 3 rfl rfl)
theorem dX0_init_28 : decode cX0_init 28 = .ok (.iconst 2, 1) := dk_5 (dk_at dksX0_init_1 4 rfl rfl)
theorem dX0_init_29 : decode cX0_init 29 = .ok (.iconst 5, 1) := dk_8 (dk_at dksX0_init_1 5 rfl rfl)
theorem dX0_init_30 : decode cX0_init 30 = .ok (.iastore, 1) := dk_79 (dk_at dksX0_init_1 6 rfl rfl)
theorem dX0_init_31 : decode cX0_init 31 = .ok (.putfield 16, 3) := dk_181 0 16 (dk_at dksX0_init_1 7 rfl rfl)
theorem dX0_init_34 : decode cX0_init 34 = .ok (.aload_n 0, 1) := dk_42 (dk_at dksX0_init_1 10 rfl rfl)
theorem dX0_init_35 : decode cX0_init 35 = .ok (.iconst 3, 1) := dk_6 (dk_at dksX0_init_1 11 rfl rfl)
theorem dX0_init_36 : decode cX0_init 36 = .ok (.anewarray 20, 3) := dk_189 0 20 (dk_at dksX0_init_1 12 rfl rfl)
theorem dX0_init_39 : decode cX0_init 39 = .ok (.dup, 1) := dk_89 (dk_at dksX0_init_1 15 rfl rfl)
theorem dX0_init_40 : decode cX0_init 40 = .ok (.iconst 0, 1) := dk_3 (dk_at dksX0_init_1 16 rfl rfl)
theorem dX0_init_41 : decode cX0_init 41 = .ok (.bipush 32, 2) := dk_16 32 (dk_at dksX0_init_1 17 rfl rfl)
theorem dX0_init_43 : decode cX0_init 43 = .ok (.newarray .long, 2) := dk_188_11 (dk_at dksX0_init_1 19 rfl rfl)
theorem dX0_init_45 : decode cX0_init 45 = .ok (.aastore, 1) := dk_83 (dk_at dksX0_init_1 21 rfl rfl)
theorem dX0_init_46 : decode cX0_init 46 = .ok (.dup, 1) := dk_89 (dk_at dksX0_init_1 22 rfl rfl)
theorem dX0_init_47 : decode cX0_init 47 = .ok (.iconst 1, 1) := dk_4 (dk_at dksX0_init_1 23 rfl rfl)
theorem dX0_init_48 : decode cX0_init 48 = .ok (.bipush 32, 2) := dk_16 32 (dk_at dksX0_init_2 0 rfl rfl)
theorem dX0_init_50 : decode cX0_init 50 = .ok (.newarray .long, 2) := dk_188_11 (dk_at dksX0_init_2 2 rfl rfl)
theorem dX0_init_52 : decode cX0_init 52 = .ok (.aastore, 1) := dk_83 (dk_at dksX0_init_2 4 rfl rfl)
theorem dX0_init_53 : decode cX0_init 53 = .ok (.dup, 1) := dk_89 (dk_at dksX0_init_2 5 rfl rfl)
theorem dX0_init_54 : decode cX0_init 54 = .ok (.iconst 2, 1) := dk_5 (dk_at dksX0_init_2 6 rfl rfl)
theorem dX0_init_55 : decode cX0_init 55 = .ok (.bipush 32, 2) := dk_16 32 (dk_at dksX0_init_2 7 rfl rfl)
theorem dX0_init_57 : decode cX0_init 57 = .ok (.newarray .long, 2) := dk_188_11 (dk_at dksX0_init_2 9 rfl rfl)
theorem dX0_init_59 : decode cX0_init 59 = .ok (.aastore, 1) := dk_83 (dk_at dksX0_init_2 11 rfl rfl)
theorem dX0_init_60 : decode cX0_init 60 = .ok (.putfield 22, 3) := dk_181 0 22 (dk_at dksX0_init_2 12 rfl rfl)
theorem dX0_init_63 : decode cX0_init 63 = .ok (.return_, 1) := dk_177 (dk_at dksX0_init_2 15 rfl rfl)
abbrev cX0_holds : ByteArray := method_13_code
def yX0_holds : MethodName := ⟨RX0, "holds", "([I)Z"⟩
def dkwX0_holds_10 : List UInt8 := [172]
abbrev dktX0_holds_10 : List UInt8 := dkwX0_holds_10 ++ []
def dkwX0_holds_9 : List UInt8 := [16, 192, 126, 21, 4, 17, 0, 255, 126, 182, 0, 113, 154, 0, 5, 3, 172, 132, 2, 6, 167, 255, 149, 4]
abbrev dktX0_holds_9 : List UInt8 := dkwX0_holds_9 ++ dktX0_holds_10
def dkwX0_holds_8 : List UInt8 := [153, 0, 39, 42, 29, 21, 4, 182, 0, 113, 153, 0, 29, 42, 29, 3, 182, 0, 113, 153, 0, 20, 42, 29]
abbrev dktX0_holds_8 : List UInt8 := dkwX0_holds_8 ++ dktX0_holds_9
def dkwX0_holds_7 : List UInt8 := [184, 0, 105, 43, 28, 6, 96, 184, 0, 105, 29, 21, 4, 182, 0, 109, 153, 0, 46, 42, 182, 0, 101]
abbrev dktX0_holds_7 : List UInt8 := dkwX0_holds_7 ++ dktX0_holds_8
def dkwX0_holds_6 : List UInt8 := [8, 96, 184, 0, 105, 54, 4, 42, 43, 28, 184, 0, 105, 43, 28, 4, 96, 184, 0, 105, 43, 28, 5, 96]
abbrev dktX0_holds_6 : List UInt8 := dkwX0_holds_6 ++ dktX0_holds_7
def dkwX0_holds_5 : List UInt8 := [132, 2, 1, 167, 255, 145, 3, 61, 28, 16, 96, 162, 0, 107, 43, 28, 7, 96, 184, 0, 105, 62, 43, 28]
abbrev dktX0_holds_5 : List UInt8 := dkwX0_holds_5 ++ dktX0_holds_6
def dkwX0_holds_4 : List UInt8 := [16, 6, 28, 104, 6, 96, 184, 0, 105, 182, 0, 109, 153, 0, 10, 42, 182, 0, 101, 154, 0, 5, 3, 172]
abbrev dktX0_holds_4 : List UInt8 := dkwX0_holds_4 ++ dktX0_holds_5
def dkwX0_holds_3 : List UInt8 := [28, 3, 43, 16, 6, 28, 104, 4, 96, 184, 0, 105, 43, 16, 6, 28, 104, 5, 96, 184, 0, 105, 43]
abbrev dktX0_holds_3 : List UInt8 := dkwX0_holds_3 ++ dktX0_holds_4
def dkwX0_holds_2 : List UInt8 := [8, 122, 6, 126, 96, 79, 42, 180, 0, 22, 28, 4, 42, 180, 0, 16, 28, 46, 120, 188, 11, 83, 42, 5]
abbrev dktX0_holds_2 : List UInt8 := dkwX0_holds_2 ++ dktX0_holds_3
def dkwX0_holds_1 : List UInt8 := [28, 104, 184, 0, 105, 8, 122, 182, 0, 90, 42, 180, 0, 16, 28, 6, 43, 16, 6, 28, 104, 184, 0, 105]
abbrev dktX0_holds_1 : List UInt8 := dkwX0_holds_1 ++ dktX0_holds_2
def dkwX0_holds_0 : List UInt8 := [42, 182, 0, 101, 154, 0, 5, 3, 172, 3, 61, 28, 6, 162, 0, 112, 42, 180, 0, 10, 28, 43, 16, 6]
abbrev dktX0_holds_0 : List UInt8 := dkwX0_holds_0 ++ dktX0_holds_1
theorem dksX0_holds_0 : cX0_holds.data.toList.drop 0 = dktX0_holds_0 := by decide +kernel
theorem dksX0_holds_1 : cX0_holds.data.toList.drop 24 = dktX0_holds_1 := dk_seg dksX0_holds_0 24 rfl rfl
theorem dksX0_holds_2 : cX0_holds.data.toList.drop 48 = dktX0_holds_2 := dk_seg dksX0_holds_1 24 rfl rfl
theorem dksX0_holds_3 : cX0_holds.data.toList.drop 72 = dktX0_holds_3 := dk_seg dksX0_holds_2 24 rfl rfl
theorem dksX0_holds_4 : cX0_holds.data.toList.drop 95 = dktX0_holds_4 := dk_seg dksX0_holds_3 23 rfl rfl
theorem dksX0_holds_5 : cX0_holds.data.toList.drop 119 = dktX0_holds_5 := dk_seg dksX0_holds_4 24 rfl rfl
theorem dksX0_holds_6 : cX0_holds.data.toList.drop 143 = dktX0_holds_6 := dk_seg dksX0_holds_5 24 rfl rfl
theorem dksX0_holds_7 : cX0_holds.data.toList.drop 167 = dktX0_holds_7 := dk_seg dksX0_holds_6 24 rfl rfl
theorem dksX0_holds_8 : cX0_holds.data.toList.drop 190 = dktX0_holds_8 := dk_seg dksX0_holds_7 23 rfl rfl
theorem dksX0_holds_9 : cX0_holds.data.toList.drop 214 = dktX0_holds_9 := dk_seg dksX0_holds_8 24 rfl rfl
theorem dksX0_holds_10 : cX0_holds.data.toList.drop 238 = dktX0_holds_10 := dk_seg dksX0_holds_9 24 rfl rfl
theorem dX0_holds_0 : decode cX0_holds 0 = .ok (.aload_n 0, 1) := dk_42 (dk_at dksX0_holds_0 0 rfl rfl)
theorem dX0_holds_1 : decode cX0_holds 1 = .ok (.invokevirtual 101, 3) := dk_182 0 101 (dk_at dksX0_holds_0 1 rfl rfl)
theorem dX0_holds_4 : decode cX0_holds 4 = .ok (.ifCond .ne 5, 3) := dk_154 0 5 (dk_at dksX0_holds_0 4 rfl rfl)
theorem dX0_holds_7 : decode cX0_holds 7 = .ok (.iconst 0, 1) := dk_3 (dk_at dksX0_holds_0 7 rfl rfl)
theorem dX0_holds_8 : decode cX0_holds 8 = .ok (.ireturn, 1) := dk_172 (dk_at dksX0_holds_0 8 rfl rfl)
theorem dX0_holds_9 : decode cX0_holds 9 = .ok (.iconst 0, 1) := dk_3 (dk_at dksX0_holds_0 9 rfl rfl)
theorem dX0_holds_10 : decode cX0_holds 10 = .ok (.istore_n 2, 1) := dk_61 (dk_at dksX0_holds_0 10 rfl rfl)
theorem dX0_holds_11 : decode cX0_holds 11 = .ok (.iload_n 2, 1) := dk_28 (dk_at dksX0_holds_0 11 rfl rfl)
theorem dX0_holds_12 : decode cX0_holds 12 = .ok (.iconst 3, 1) := dk_6 (dk_at dksX0_holds_0 12 rfl rfl)
theorem dX0_holds_13 : decode cX0_holds 13 = .ok (.if_icmp .ge 112, 3) := dk_162 0 112 (dk_at dksX0_holds_0 13 rfl rfl)
theorem dX0_holds_16 : decode cX0_holds 16 = .ok (.aload_n 0, 1) := dk_42 (dk_at dksX0_holds_0 16 rfl rfl)
theorem dX0_holds_17 : decode cX0_holds 17 = .ok (.getfield 10, 3) := dk_180 0 10 (dk_at dksX0_holds_0 17 rfl rfl)
theorem dX0_holds_20 : decode cX0_holds 20 = .ok (.iload_n 2, 1) := dk_28 (dk_at dksX0_holds_0 20 rfl rfl)
theorem dX0_holds_21 : decode cX0_holds 21 = .ok (.aload_n 1, 1) := dk_43 (dk_at dksX0_holds_0 21 rfl rfl)
theorem dX0_holds_22 : decode cX0_holds 22 = .ok (.bipush 6, 2) := dk_16 6 (dk_at dksX0_holds_0 22 rfl rfl)
theorem dX0_holds_24 : decode cX0_holds 24 = .ok (.iload_n 2, 1) := dk_28 (dk_at dksX0_holds_1 0 rfl rfl)
theorem dX0_holds_25 : decode cX0_holds 25 = .ok (.imul, 1) := dk_104 (dk_at dksX0_holds_1 1 rfl rfl)
theorem dX0_holds_26 : decode cX0_holds 26 = .ok (.invokestatic 105, 3) := dk_184 0 105 (dk_at dksX0_holds_1 2 rfl rfl)
theorem dX0_holds_29 : decode cX0_holds 29 = .ok (.iconst 5, 1) := dk_8 (dk_at dksX0_holds_1 5 rfl rfl)
theorem dX0_holds_30 : decode cX0_holds 30 = .ok (.ishr, 1) := dk_122 (dk_at dksX0_holds_1 6 rfl rfl)
theorem dX0_holds_31 : decode cX0_holds 31 = .ok (.invokevirtual 90, 3) := dk_182 0 90 (dk_at dksX0_holds_1 7 rfl rfl)
theorem dX0_holds_34 : decode cX0_holds 34 = .ok (.aload_n 0, 1) := dk_42 (dk_at dksX0_holds_1 10 rfl rfl)
theorem dX0_holds_35 : decode cX0_holds 35 = .ok (.getfield 16, 3) := dk_180 0 16 (dk_at dksX0_holds_1 11 rfl rfl)
theorem dX0_holds_38 : decode cX0_holds 38 = .ok (.iload_n 2, 1) := dk_28 (dk_at dksX0_holds_1 14 rfl rfl)
theorem dX0_holds_39 : decode cX0_holds 39 = .ok (.iconst 3, 1) := dk_6 (dk_at dksX0_holds_1 15 rfl rfl)
theorem dX0_holds_40 : decode cX0_holds 40 = .ok (.aload_n 1, 1) := dk_43 (dk_at dksX0_holds_1 16 rfl rfl)
theorem dX0_holds_41 : decode cX0_holds 41 = .ok (.bipush 6, 2) := dk_16 6 (dk_at dksX0_holds_1 17 rfl rfl)
theorem dX0_holds_43 : decode cX0_holds 43 = .ok (.iload_n 2, 1) := dk_28 (dk_at dksX0_holds_1 19 rfl rfl)
theorem dX0_holds_44 : decode cX0_holds 44 = .ok (.imul, 1) := dk_104 (dk_at dksX0_holds_1 20 rfl rfl)
theorem dX0_holds_45 : decode cX0_holds 45 = .ok (.invokestatic 105, 3) := dk_184 0 105 (dk_at dksX0_holds_1 21 rfl rfl)
theorem dX0_holds_48 : decode cX0_holds 48 = .ok (.iconst 5, 1) := dk_8 (dk_at dksX0_holds_2 0 rfl rfl)
theorem dX0_holds_49 : decode cX0_holds 49 = .ok (.ishr, 1) := dk_122 (dk_at dksX0_holds_2 1 rfl rfl)
theorem dX0_holds_50 : decode cX0_holds 50 = .ok (.iconst 3, 1) := dk_6 (dk_at dksX0_holds_2 2 rfl rfl)
theorem dX0_holds_51 : decode cX0_holds 51 = .ok (.iand, 1) := dk_126 (dk_at dksX0_holds_2 3 rfl rfl)
theorem dX0_holds_52 : decode cX0_holds 52 = .ok (.iadd, 1) := dk_96 (dk_at dksX0_holds_2 4 rfl rfl)
theorem dX0_holds_53 : decode cX0_holds 53 = .ok (.iastore, 1) := dk_79 (dk_at dksX0_holds_2 5 rfl rfl)
theorem dX0_holds_54 : decode cX0_holds 54 = .ok (.aload_n 0, 1) := dk_42 (dk_at dksX0_holds_2 6 rfl rfl)
theorem dX0_holds_55 : decode cX0_holds 55 = .ok (.getfield 22, 3) := dk_180 0 22 (dk_at dksX0_holds_2 7 rfl rfl)
theorem dX0_holds_58 : decode cX0_holds 58 = .ok (.iload_n 2, 1) := dk_28 (dk_at dksX0_holds_2 10 rfl rfl)
theorem dX0_holds_59 : decode cX0_holds 59 = .ok (.iconst 1, 1) := dk_4 (dk_at dksX0_holds_2 11 rfl rfl)
theorem dX0_holds_60 : decode cX0_holds 60 = .ok (.aload_n 0, 1) := dk_42 (dk_at dksX0_holds_2 12 rfl rfl)
theorem dX0_holds_61 : decode cX0_holds 61 = .ok (.getfield 16, 3) := dk_180 0 16 (dk_at dksX0_holds_2 13 rfl rfl)
theorem dX0_holds_64 : decode cX0_holds 64 = .ok (.iload_n 2, 1) := dk_28 (dk_at dksX0_holds_2 16 rfl rfl)
theorem dX0_holds_65 : decode cX0_holds 65 = .ok (.iaload, 1) := dk_46 (dk_at dksX0_holds_2 17 rfl rfl)
theorem dX0_holds_66 : decode cX0_holds 66 = .ok (.ishl, 1) := dk_120 (dk_at dksX0_holds_2 18 rfl rfl)
theorem dX0_holds_67 : decode cX0_holds 67 = .ok (.newarray .long, 2) := dk_188_11 (dk_at dksX0_holds_2 19 rfl rfl)
theorem dX0_holds_69 : decode cX0_holds 69 = .ok (.aastore, 1) := dk_83 (dk_at dksX0_holds_2 21 rfl rfl)
theorem dX0_holds_70 : decode cX0_holds 70 = .ok (.aload_n 0, 1) := dk_42 (dk_at dksX0_holds_2 22 rfl rfl)
theorem dX0_holds_71 : decode cX0_holds 71 = .ok (.iconst 2, 1) := dk_5 (dk_at dksX0_holds_2 23 rfl rfl)
theorem dX0_holds_72 : decode cX0_holds 72 = .ok (.iload_n 2, 1) := dk_28 (dk_at dksX0_holds_3 0 rfl rfl)
theorem dX0_holds_73 : decode cX0_holds 73 = .ok (.iconst 0, 1) := dk_3 (dk_at dksX0_holds_3 1 rfl rfl)
theorem dX0_holds_74 : decode cX0_holds 74 = .ok (.aload_n 1, 1) := dk_43 (dk_at dksX0_holds_3 2 rfl rfl)
theorem dX0_holds_75 : decode cX0_holds 75 = .ok (.bipush 6, 2) := dk_16 6 (dk_at dksX0_holds_3 3 rfl rfl)
theorem dX0_holds_77 : decode cX0_holds 77 = .ok (.iload_n 2, 1) := dk_28 (dk_at dksX0_holds_3 5 rfl rfl)
theorem dX0_holds_78 : decode cX0_holds 78 = .ok (.imul, 1) := dk_104 (dk_at dksX0_holds_3 6 rfl rfl)
theorem dX0_holds_79 : decode cX0_holds 79 = .ok (.iconst 1, 1) := dk_4 (dk_at dksX0_holds_3 7 rfl rfl)
theorem dX0_holds_80 : decode cX0_holds 80 = .ok (.iadd, 1) := dk_96 (dk_at dksX0_holds_3 8 rfl rfl)
theorem dX0_holds_81 : decode cX0_holds 81 = .ok (.invokestatic 105, 3) := dk_184 0 105 (dk_at dksX0_holds_3 9 rfl rfl)
theorem dX0_holds_84 : decode cX0_holds 84 = .ok (.aload_n 1, 1) := dk_43 (dk_at dksX0_holds_3 12 rfl rfl)
theorem dX0_holds_85 : decode cX0_holds 85 = .ok (.bipush 6, 2) := dk_16 6 (dk_at dksX0_holds_3 13 rfl rfl)
theorem dX0_holds_87 : decode cX0_holds 87 = .ok (.iload_n 2, 1) := dk_28 (dk_at dksX0_holds_3 15 rfl rfl)
theorem dX0_holds_88 : decode cX0_holds 88 = .ok (.imul, 1) := dk_104 (dk_at dksX0_holds_3 16 rfl rfl)
theorem dX0_holds_89 : decode cX0_holds 89 = .ok (.iconst 2, 1) := dk_5 (dk_at dksX0_holds_3 17 rfl rfl)
theorem dX0_holds_90 : decode cX0_holds 90 = .ok (.iadd, 1) := dk_96 (dk_at dksX0_holds_3 18 rfl rfl)
theorem dX0_holds_91 : decode cX0_holds 91 = .ok (.invokestatic 105, 3) := dk_184 0 105 (dk_at dksX0_holds_3 19 rfl rfl)
theorem dX0_holds_94 : decode cX0_holds 94 = .ok (.aload_n 1, 1) := dk_43 (dk_at dksX0_holds_3 22 rfl rfl)
theorem dX0_holds_95 : decode cX0_holds 95 = .ok (.bipush 6, 2) := dk_16 6 (dk_at dksX0_holds_4 0 rfl rfl)
theorem dX0_holds_97 : decode cX0_holds 97 = .ok (.iload_n 2, 1) := dk_28 (dk_at dksX0_holds_4 2 rfl rfl)
theorem dX0_holds_98 : decode cX0_holds 98 = .ok (.imul, 1) := dk_104 (dk_at dksX0_holds_4 3 rfl rfl)
theorem dX0_holds_99 : decode cX0_holds 99 = .ok (.iconst 3, 1) := dk_6 (dk_at dksX0_holds_4 4 rfl rfl)
theorem dX0_holds_100 : decode cX0_holds 100 = .ok (.iadd, 1) := dk_96 (dk_at dksX0_holds_4 5 rfl rfl)
theorem dX0_holds_101 : decode cX0_holds 101 = .ok (.invokestatic 105, 3) := dk_184 0 105 (dk_at dksX0_holds_4 6 rfl rfl)
theorem dX0_holds_104 : decode cX0_holds 104 = .ok (.invokevirtual 109, 3) := dk_182 0 109 (dk_at dksX0_holds_4 9 rfl rfl)
theorem dX0_holds_107 : decode cX0_holds 107 = .ok (.ifCond .eq 10, 3) := dk_153 0 10 (dk_at dksX0_holds_4 12 rfl rfl)
theorem dX0_holds_110 : decode cX0_holds 110 = .ok (.aload_n 0, 1) := dk_42 (dk_at dksX0_holds_4 15 rfl rfl)
theorem dX0_holds_111 : decode cX0_holds 111 = .ok (.invokevirtual 101, 3) := dk_182 0 101 (dk_at dksX0_holds_4 16 rfl rfl)
theorem dX0_holds_114 : decode cX0_holds 114 = .ok (.ifCond .ne 5, 3) := dk_154 0 5 (dk_at dksX0_holds_4 19 rfl rfl)
theorem dX0_holds_117 : decode cX0_holds 117 = .ok (.iconst 0, 1) := dk_3 (dk_at dksX0_holds_4 22 rfl rfl)
theorem dX0_holds_118 : decode cX0_holds 118 = .ok (.ireturn, 1) := dk_172 (dk_at dksX0_holds_4 23 rfl rfl)
theorem dX0_holds_119 : decode cX0_holds 119 = .ok (.iinc 2 1, 3) := dk_132 2 1 (dk_at dksX0_holds_5 0 rfl rfl)
theorem dX0_holds_122 : decode cX0_holds 122 = .ok (.goto (-111), 3) := dk_167 255 145 (dk_at dksX0_holds_5 3 rfl rfl)
theorem dX0_holds_125 : decode cX0_holds 125 = .ok (.iconst 0, 1) := dk_3 (dk_at dksX0_holds_5 6 rfl rfl)
theorem dX0_holds_126 : decode cX0_holds 126 = .ok (.istore_n 2, 1) := dk_61 (dk_at dksX0_holds_5 7 rfl rfl)
theorem dX0_holds_127 : decode cX0_holds 127 = .ok (.iload_n 2, 1) := dk_28 (dk_at dksX0_holds_5 8 rfl rfl)
theorem dX0_holds_128 : decode cX0_holds 128 = .ok (.bipush 96, 2) := dk_16 96 (dk_at dksX0_holds_5 9 rfl rfl)
theorem dX0_holds_130 : decode cX0_holds 130 = .ok (.if_icmp .ge 107, 3) := dk_162 0 107 (dk_at dksX0_holds_5 11 rfl rfl)
theorem dX0_holds_133 : decode cX0_holds 133 = .ok (.aload_n 1, 1) := dk_43 (dk_at dksX0_holds_5 14 rfl rfl)
theorem dX0_holds_134 : decode cX0_holds 134 = .ok (.iload_n 2, 1) := dk_28 (dk_at dksX0_holds_5 15 rfl rfl)
theorem dX0_holds_135 : decode cX0_holds 135 = .ok (.iconst 4, 1) := dk_7 (dk_at dksX0_holds_5 16 rfl rfl)
theorem dX0_holds_136 : decode cX0_holds 136 = .ok (.iadd, 1) := dk_96 (dk_at dksX0_holds_5 17 rfl rfl)
theorem dX0_holds_137 : decode cX0_holds 137 = .ok (.invokestatic 105, 3) := dk_184 0 105 (dk_at dksX0_holds_5 18 rfl rfl)
theorem dX0_holds_140 : decode cX0_holds 140 = .ok (.istore_n 3, 1) := dk_62 (dk_at dksX0_holds_5 21 rfl rfl)
theorem dX0_holds_141 : decode cX0_holds 141 = .ok (.aload_n 1, 1) := dk_43 (dk_at dksX0_holds_5 22 rfl rfl)
theorem dX0_holds_142 : decode cX0_holds 142 = .ok (.iload_n 2, 1) := dk_28 (dk_at dksX0_holds_5 23 rfl rfl)
theorem dX0_holds_143 : decode cX0_holds 143 = .ok (.iconst 5, 1) := dk_8 (dk_at dksX0_holds_6 0 rfl rfl)
theorem dX0_holds_144 : decode cX0_holds 144 = .ok (.iadd, 1) := dk_96 (dk_at dksX0_holds_6 1 rfl rfl)
theorem dX0_holds_145 : decode cX0_holds 145 = .ok (.invokestatic 105, 3) := dk_184 0 105 (dk_at dksX0_holds_6 2 rfl rfl)
theorem dX0_holds_148 : decode cX0_holds 148 = .ok (.istore 4, 2) := dk_54 4 (dk_at dksX0_holds_6 5 rfl rfl)
theorem dX0_holds_150 : decode cX0_holds 150 = .ok (.aload_n 0, 1) := dk_42 (dk_at dksX0_holds_6 7 rfl rfl)
theorem dX0_holds_151 : decode cX0_holds 151 = .ok (.aload_n 1, 1) := dk_43 (dk_at dksX0_holds_6 8 rfl rfl)
theorem dX0_holds_152 : decode cX0_holds 152 = .ok (.iload_n 2, 1) := dk_28 (dk_at dksX0_holds_6 9 rfl rfl)
theorem dX0_holds_153 : decode cX0_holds 153 = .ok (.invokestatic 105, 3) := dk_184 0 105 (dk_at dksX0_holds_6 10 rfl rfl)
theorem dX0_holds_156 : decode cX0_holds 156 = .ok (.aload_n 1, 1) := dk_43 (dk_at dksX0_holds_6 13 rfl rfl)
theorem dX0_holds_157 : decode cX0_holds 157 = .ok (.iload_n 2, 1) := dk_28 (dk_at dksX0_holds_6 14 rfl rfl)
theorem dX0_holds_158 : decode cX0_holds 158 = .ok (.iconst 1, 1) := dk_4 (dk_at dksX0_holds_6 15 rfl rfl)
theorem dX0_holds_159 : decode cX0_holds 159 = .ok (.iadd, 1) := dk_96 (dk_at dksX0_holds_6 16 rfl rfl)
theorem dX0_holds_160 : decode cX0_holds 160 = .ok (.invokestatic 105, 3) := dk_184 0 105 (dk_at dksX0_holds_6 17 rfl rfl)
theorem dX0_holds_163 : decode cX0_holds 163 = .ok (.aload_n 1, 1) := dk_43 (dk_at dksX0_holds_6 20 rfl rfl)
theorem dX0_holds_164 : decode cX0_holds 164 = .ok (.iload_n 2, 1) := dk_28 (dk_at dksX0_holds_6 21 rfl rfl)
theorem dX0_holds_165 : decode cX0_holds 165 = .ok (.iconst 2, 1) := dk_5 (dk_at dksX0_holds_6 22 rfl rfl)
theorem dX0_holds_166 : decode cX0_holds 166 = .ok (.iadd, 1) := dk_96 (dk_at dksX0_holds_6 23 rfl rfl)
theorem dX0_holds_167 : decode cX0_holds 167 = .ok (.invokestatic 105, 3) := dk_184 0 105 (dk_at dksX0_holds_7 0 rfl rfl)
theorem dX0_holds_170 : decode cX0_holds 170 = .ok (.aload_n 1, 1) := dk_43 (dk_at dksX0_holds_7 3 rfl rfl)
theorem dX0_holds_171 : decode cX0_holds 171 = .ok (.iload_n 2, 1) := dk_28 (dk_at dksX0_holds_7 4 rfl rfl)
theorem dX0_holds_172 : decode cX0_holds 172 = .ok (.iconst 3, 1) := dk_6 (dk_at dksX0_holds_7 5 rfl rfl)
theorem dX0_holds_173 : decode cX0_holds 173 = .ok (.iadd, 1) := dk_96 (dk_at dksX0_holds_7 6 rfl rfl)
theorem dX0_holds_174 : decode cX0_holds 174 = .ok (.invokestatic 105, 3) := dk_184 0 105 (dk_at dksX0_holds_7 7 rfl rfl)
theorem dX0_holds_177 : decode cX0_holds 177 = .ok (.iload_n 3, 1) := dk_29 (dk_at dksX0_holds_7 10 rfl rfl)
theorem dX0_holds_178 : decode cX0_holds 178 = .ok (.iload 4, 2) := dk_21 4 (dk_at dksX0_holds_7 11 rfl rfl)
theorem dX0_holds_180 : decode cX0_holds 180 = .ok (.invokevirtual 109, 3) := dk_182 0 109 (dk_at dksX0_holds_7 13 rfl rfl)
theorem dX0_holds_183 : decode cX0_holds 183 = .ok (.ifCond .eq 46, 3) := dk_153 0 46 (dk_at dksX0_holds_7 16 rfl rfl)
theorem dX0_holds_186 : decode cX0_holds 186 = .ok (.aload_n 0, 1) := dk_42 (dk_at dksX0_holds_7 19 rfl rfl)
theorem dX0_holds_187 : decode cX0_holds 187 = .ok (.invokevirtual 101, 3) := dk_182 0 101 (dk_at dksX0_holds_7 20 rfl rfl)
theorem dX0_holds_190 : decode cX0_holds 190 = .ok (.ifCond .eq 39, 3) := dk_153 0 39 (dk_at dksX0_holds_8 0 rfl rfl)
theorem dX0_holds_193 : decode cX0_holds 193 = .ok (.aload_n 0, 1) := dk_42 (dk_at dksX0_holds_8 3 rfl rfl)
theorem dX0_holds_194 : decode cX0_holds 194 = .ok (.iload_n 3, 1) := dk_29 (dk_at dksX0_holds_8 4 rfl rfl)
theorem dX0_holds_195 : decode cX0_holds 195 = .ok (.iload 4, 2) := dk_21 4 (dk_at dksX0_holds_8 5 rfl rfl)
theorem dX0_holds_197 : decode cX0_holds 197 = .ok (.invokevirtual 113, 3) := dk_182 0 113 (dk_at dksX0_holds_8 7 rfl rfl)
theorem dX0_holds_200 : decode cX0_holds 200 = .ok (.ifCond .eq 29, 3) := dk_153 0 29 (dk_at dksX0_holds_8 10 rfl rfl)
theorem dX0_holds_203 : decode cX0_holds 203 = .ok (.aload_n 0, 1) := dk_42 (dk_at dksX0_holds_8 13 rfl rfl)
theorem dX0_holds_204 : decode cX0_holds 204 = .ok (.iload_n 3, 1) := dk_29 (dk_at dksX0_holds_8 14 rfl rfl)
theorem dX0_holds_205 : decode cX0_holds 205 = .ok (.iconst 0, 1) := dk_3 (dk_at dksX0_holds_8 15 rfl rfl)
theorem dX0_holds_206 : decode cX0_holds 206 = .ok (.invokevirtual 113, 3) := dk_182 0 113 (dk_at dksX0_holds_8 16 rfl rfl)
theorem dX0_holds_209 : decode cX0_holds 209 = .ok (.ifCond .eq 20, 3) := dk_153 0 20 (dk_at dksX0_holds_8 19 rfl rfl)
theorem dX0_holds_212 : decode cX0_holds 212 = .ok (.aload_n 0, 1) := dk_42 (dk_at dksX0_holds_8 22 rfl rfl)
theorem dX0_holds_213 : decode cX0_holds 213 = .ok (.iload_n 3, 1) := dk_29 (dk_at dksX0_holds_8 23 rfl rfl)
theorem dX0_holds_214 : decode cX0_holds 214 = .ok (.bipush (-64), 2) := dk_16 192 (dk_at dksX0_holds_9 0 rfl rfl)
theorem dX0_holds_216 : decode cX0_holds 216 = .ok (.iand, 1) := dk_126 (dk_at dksX0_holds_9 2 rfl rfl)
theorem dX0_holds_217 : decode cX0_holds 217 = .ok (.iload 4, 2) := dk_21 4 (dk_at dksX0_holds_9 3 rfl rfl)
theorem dX0_holds_219 : decode cX0_holds 219 = .ok (.sipush 255, 3) := dk_17 0 255 (dk_at dksX0_holds_9 5 rfl rfl)
theorem dX0_holds_222 : decode cX0_holds 222 = .ok (.iand, 1) := dk_126 (dk_at dksX0_holds_9 8 rfl rfl)
theorem dX0_holds_223 : decode cX0_holds 223 = .ok (.invokevirtual 113, 3) := dk_182 0 113 (dk_at dksX0_holds_9 9 rfl rfl)
theorem dX0_holds_226 : decode cX0_holds 226 = .ok (.ifCond .ne 5, 3) := dk_154 0 5 (dk_at dksX0_holds_9 12 rfl rfl)
theorem dX0_holds_229 : decode cX0_holds 229 = .ok (.iconst 0, 1) := dk_3 (dk_at dksX0_holds_9 15 rfl rfl)
theorem dX0_holds_230 : decode cX0_holds 230 = .ok (.ireturn, 1) := dk_172 (dk_at dksX0_holds_9 16 rfl rfl)
theorem dX0_holds_231 : decode cX0_holds 231 = .ok (.iinc 2 6, 3) := dk_132 2 6 (dk_at dksX0_holds_9 17 rfl rfl)
theorem dX0_holds_234 : decode cX0_holds 234 = .ok (.goto (-107), 3) := dk_167 255 149 (dk_at dksX0_holds_9 20 rfl rfl)
theorem dX0_holds_237 : decode cX0_holds 237 = .ok (.iconst 1, 1) := dk_4 (dk_at dksX0_holds_9 23 rfl rfl)
theorem dX0_holds_238 : decode cX0_holds 238 = .ok (.ireturn, 1) := dk_172 (dk_at dksX0_holds_10 0 rfl rfl)
abbrev cX0_are : ByteArray := method_10_code
def yX0_are : MethodName := ⟨RX0, "are", "()Z"⟩
def dkwX0_are_5 : List UInt8 := [172]
abbrev dktX0_are_5 : List UInt8 := dkwX0_are_5 ++ []
def dkwX0_are_4 : List UInt8 := [167, 255, 194, 42, 180, 0, 10, 27, 182, 0, 47, 28, 159, 0, 5, 3, 172, 132, 1, 1, 167, 255, 146, 4]
abbrev dktX0_are_4 : List UInt8 := dkwX0_are_4 ++ dktX0_are_5
def dkwX0_are_3 : List UInt8 := [182, 0, 40, 42, 180, 0, 22, 27, 50, 29, 47, 184, 0, 44, 159, 0, 5, 3, 172, 132, 3, 1]
abbrev dktX0_are_3 : List UInt8 := dkwX0_are_3 ++ dktX0_are_4
def dkwX0_are_2 : List UInt8 := [180, 0, 22, 27, 50, 29, 47, 9, 148, 154, 0, 7, 4, 167, 0, 4, 3, 61, 42, 180, 0, 10, 27, 29]
abbrev dktX0_are_2 : List UInt8 := dkwX0_are_2 ++ dktX0_are_3
def dkwX0_are_1 : List UInt8 := [159, 0, 5, 3, 172, 3, 62, 29, 42, 180, 0, 22, 27, 50, 190, 162, 0, 57, 28, 153, 0, 20, 42]
abbrev dktX0_are_1 : List UInt8 := dkwX0_are_1 ++ dktX0_are_2
def dkwX0_are_0 : List UInt8 := [3, 60, 27, 6, 162, 0, 111, 4, 61, 42, 180, 0, 10, 27, 182, 0, 37, 42, 180, 0, 16, 27, 46]
abbrev dktX0_are_0 : List UInt8 := dkwX0_are_0 ++ dktX0_are_1
theorem dksX0_are_0 : cX0_are.data.toList.drop 0 = dktX0_are_0 := by decide +kernel
theorem dksX0_are_1 : cX0_are.data.toList.drop 23 = dktX0_are_1 := dk_seg dksX0_are_0 23 rfl rfl
theorem dksX0_are_2 : cX0_are.data.toList.drop 46 = dktX0_are_2 := dk_seg dksX0_are_1 23 rfl rfl
theorem dksX0_are_3 : cX0_are.data.toList.drop 70 = dktX0_are_3 := dk_seg dksX0_are_2 24 rfl rfl
theorem dksX0_are_4 : cX0_are.data.toList.drop 92 = dktX0_are_4 := dk_seg dksX0_are_3 22 rfl rfl
theorem dksX0_are_5 : cX0_are.data.toList.drop 116 = dktX0_are_5 := dk_seg dksX0_are_4 24 rfl rfl
theorem dX0_are_0 : decode cX0_are 0 = .ok (.iconst 0, 1) := dk_3 (dk_at dksX0_are_0 0 rfl rfl)
theorem dX0_are_1 : decode cX0_are 1 = .ok (.istore_n 1, 1) := dk_60 (dk_at dksX0_are_0 1 rfl rfl)
theorem dX0_are_2 : decode cX0_are 2 = .ok (.iload_n 1, 1) := dk_27 (dk_at dksX0_are_0 2 rfl rfl)
theorem dX0_are_3 : decode cX0_are 3 = .ok (.iconst 3, 1) := dk_6 (dk_at dksX0_are_0 3 rfl rfl)
theorem dX0_are_4 : decode cX0_are 4 = .ok (.if_icmp .ge 111, 3) := dk_162 0 111 (dk_at dksX0_are_0 4 rfl rfl)
theorem dX0_are_7 : decode cX0_are 7 = .ok (.iconst 1, 1) := dk_4 (dk_at dksX0_are_0 7 rfl rfl)
theorem dX0_are_8 : decode cX0_are 8 = .ok (.istore_n 2, 1) := dk_61 (dk_at dksX0_are_0 8 rfl rfl)
theorem dX0_are_9 : decode cX0_are 9 = .ok (.aload_n 0, 1) := dk_42 (dk_at dksX0_are_0 9 rfl rfl)
theorem dX0_are_10 : decode cX0_are 10 = .ok (.getfield 10, 3) := dk_180 0 10 (dk_at dksX0_are_0 10 rfl rfl)
theorem dX0_are_13 : decode cX0_are 13 = .ok (.iload_n 1, 1) := dk_27 (dk_at dksX0_are_0 13 rfl rfl)
theorem dX0_are_14 : decode cX0_are 14 = .ok (.invokevirtual 37, 3) := dk_182 0 37 (dk_at dksX0_are_0 14 rfl rfl)
theorem dX0_are_17 : decode cX0_are 17 = .ok (.aload_n 0, 1) := dk_42 (dk_at dksX0_are_0 17 rfl rfl)
theorem dX0_are_18 : decode cX0_are 18 = .ok (.getfield 16, 3) := dk_180 0 16 (dk_at dksX0_are_0 18 rfl rfl)
theorem dX0_are_21 : decode cX0_are 21 = .ok (.iload_n 1, 1) := dk_27 (dk_at dksX0_are_0 21 rfl rfl)
theorem dX0_are_22 : decode cX0_are 22 = .ok (.iaload, 1) := dk_46 (dk_at dksX0_are_0 22 rfl rfl)
theorem dX0_are_23 : decode cX0_are 23 = .ok (.if_icmp .eq 5, 3) := dk_159 0 5 (dk_at dksX0_are_1 0 rfl rfl)
theorem dX0_are_26 : decode cX0_are 26 = .ok (.iconst 0, 1) := dk_3 (dk_at dksX0_are_1 3 rfl rfl)
theorem dX0_are_27 : decode cX0_are 27 = .ok (.ireturn, 1) := dk_172 (dk_at dksX0_are_1 4 rfl rfl)
theorem dX0_are_28 : decode cX0_are 28 = .ok (.iconst 0, 1) := dk_3 (dk_at dksX0_are_1 5 rfl rfl)
theorem dX0_are_29 : decode cX0_are 29 = .ok (.istore_n 3, 1) := dk_62 (dk_at dksX0_are_1 6 rfl rfl)
theorem dX0_are_30 : decode cX0_are 30 = .ok (.iload_n 3, 1) := dk_29 (dk_at dksX0_are_1 7 rfl rfl)
theorem dX0_are_31 : decode cX0_are 31 = .ok (.aload_n 0, 1) := dk_42 (dk_at dksX0_are_1 8 rfl rfl)
theorem dX0_are_32 : decode cX0_are 32 = .ok (.getfield 22, 3) := dk_180 0 22 (dk_at dksX0_are_1 9 rfl rfl)
theorem dX0_are_35 : decode cX0_are 35 = .ok (.iload_n 1, 1) := dk_27 (dk_at dksX0_are_1 12 rfl rfl)
theorem dX0_are_36 : decode cX0_are 36 = .ok (.aaload, 1) := dk_50 (dk_at dksX0_are_1 13 rfl rfl)
theorem dX0_are_37 : decode cX0_are 37 = .ok (.arraylength, 1) := dk_190 (dk_at dksX0_are_1 14 rfl rfl)
theorem dX0_are_38 : decode cX0_are 38 = .ok (.if_icmp .ge 57, 3) := dk_162 0 57 (dk_at dksX0_are_1 15 rfl rfl)
theorem dX0_are_41 : decode cX0_are 41 = .ok (.iload_n 2, 1) := dk_28 (dk_at dksX0_are_1 18 rfl rfl)
theorem dX0_are_42 : decode cX0_are 42 = .ok (.ifCond .eq 20, 3) := dk_153 0 20 (dk_at dksX0_are_1 19 rfl rfl)
theorem dX0_are_45 : decode cX0_are 45 = .ok (.aload_n 0, 1) := dk_42 (dk_at dksX0_are_1 22 rfl rfl)
theorem dX0_are_46 : decode cX0_are 46 = .ok (.getfield 22, 3) := dk_180 0 22 (dk_at dksX0_are_2 0 rfl rfl)
theorem dX0_are_49 : decode cX0_are 49 = .ok (.iload_n 1, 1) := dk_27 (dk_at dksX0_are_2 3 rfl rfl)
theorem dX0_are_50 : decode cX0_are 50 = .ok (.aaload, 1) := dk_50 (dk_at dksX0_are_2 4 rfl rfl)
theorem dX0_are_51 : decode cX0_are 51 = .ok (.iload_n 3, 1) := dk_29 (dk_at dksX0_are_2 5 rfl rfl)
theorem dX0_are_52 : decode cX0_are 52 = .ok (.laload, 1) := dk_47 (dk_at dksX0_are_2 6 rfl rfl)
theorem dX0_are_53 : decode cX0_are 53 = .ok (.lconst 0, 1) := dk_9 (dk_at dksX0_are_2 7 rfl rfl)
theorem dX0_are_54 : decode cX0_are 54 = .ok (.lcmp, 1) := dk_148 (dk_at dksX0_are_2 8 rfl rfl)
theorem dX0_are_55 : decode cX0_are 55 = .ok (.ifCond .ne 7, 3) := dk_154 0 7 (dk_at dksX0_are_2 9 rfl rfl)
theorem dX0_are_58 : decode cX0_are 58 = .ok (.iconst 1, 1) := dk_4 (dk_at dksX0_are_2 12 rfl rfl)
theorem dX0_are_59 : decode cX0_are 59 = .ok (.goto 4, 3) := dk_167 0 4 (dk_at dksX0_are_2 13 rfl rfl)
theorem dX0_are_62 : decode cX0_are 62 = .ok (.iconst 0, 1) := dk_3 (dk_at dksX0_are_2 16 rfl rfl)
theorem dX0_are_63 : decode cX0_are 63 = .ok (.istore_n 2, 1) := dk_61 (dk_at dksX0_are_2 17 rfl rfl)
theorem dX0_are_64 : decode cX0_are 64 = .ok (.aload_n 0, 1) := dk_42 (dk_at dksX0_are_2 18 rfl rfl)
theorem dX0_are_65 : decode cX0_are 65 = .ok (.getfield 10, 3) := dk_180 0 10 (dk_at dksX0_are_2 19 rfl rfl)
theorem dX0_are_68 : decode cX0_are 68 = .ok (.iload_n 1, 1) := dk_27 (dk_at dksX0_are_2 22 rfl rfl)
theorem dX0_are_69 : decode cX0_are 69 = .ok (.iload_n 3, 1) := dk_29 (dk_at dksX0_are_2 23 rfl rfl)
theorem dX0_are_70 : decode cX0_are 70 = .ok (.invokevirtual 40, 3) := dk_182 0 40 (dk_at dksX0_are_3 0 rfl rfl)
theorem dX0_are_73 : decode cX0_are 73 = .ok (.aload_n 0, 1) := dk_42 (dk_at dksX0_are_3 3 rfl rfl)
theorem dX0_are_74 : decode cX0_are 74 = .ok (.getfield 22, 3) := dk_180 0 22 (dk_at dksX0_are_3 4 rfl rfl)
theorem dX0_are_77 : decode cX0_are 77 = .ok (.iload_n 1, 1) := dk_27 (dk_at dksX0_are_3 7 rfl rfl)
theorem dX0_are_78 : decode cX0_are 78 = .ok (.aaload, 1) := dk_50 (dk_at dksX0_are_3 8 rfl rfl)
theorem dX0_are_79 : decode cX0_are 79 = .ok (.iload_n 3, 1) := dk_29 (dk_at dksX0_are_3 9 rfl rfl)
theorem dX0_are_80 : decode cX0_are 80 = .ok (.laload, 1) := dk_47 (dk_at dksX0_are_3 10 rfl rfl)
theorem dX0_are_81 : decode cX0_are 81 = .ok (.invokestatic 44, 3) := dk_184 0 44 (dk_at dksX0_are_3 11 rfl rfl)
theorem dX0_are_84 : decode cX0_are 84 = .ok (.if_icmp .eq 5, 3) := dk_159 0 5 (dk_at dksX0_are_3 14 rfl rfl)
theorem dX0_are_87 : decode cX0_are 87 = .ok (.iconst 0, 1) := dk_3 (dk_at dksX0_are_3 17 rfl rfl)
theorem dX0_are_88 : decode cX0_are 88 = .ok (.ireturn, 1) := dk_172 (dk_at dksX0_are_3 18 rfl rfl)
theorem dX0_are_89 : decode cX0_are 89 = .ok (.iinc 3 1, 3) := dk_132 3 1 (dk_at dksX0_are_3 19 rfl rfl)
theorem dX0_are_92 : decode cX0_are 92 = .ok (.goto (-62), 3) := dk_167 255 194 (dk_at dksX0_are_4 0 rfl rfl)
theorem dX0_are_95 : decode cX0_are 95 = .ok (.aload_n 0, 1) := dk_42 (dk_at dksX0_are_4 3 rfl rfl)
theorem dX0_are_96 : decode cX0_are 96 = .ok (.getfield 10, 3) := dk_180 0 10 (dk_at dksX0_are_4 4 rfl rfl)
theorem dX0_are_99 : decode cX0_are 99 = .ok (.iload_n 1, 1) := dk_27 (dk_at dksX0_are_4 7 rfl rfl)
theorem dX0_are_100 : decode cX0_are 100 = .ok (.invokevirtual 47, 3) := dk_182 0 47 (dk_at dksX0_are_4 8 rfl rfl)
theorem dX0_are_103 : decode cX0_are 103 = .ok (.iload_n 2, 1) := dk_28 (dk_at dksX0_are_4 11 rfl rfl)
theorem dX0_are_104 : decode cX0_are 104 = .ok (.if_icmp .eq 5, 3) := dk_159 0 5 (dk_at dksX0_are_4 12 rfl rfl)
theorem dX0_are_107 : decode cX0_are 107 = .ok (.iconst 0, 1) := dk_3 (dk_at dksX0_are_4 15 rfl rfl)
theorem dX0_are_108 : decode cX0_are 108 = .ok (.ireturn, 1) := dk_172 (dk_at dksX0_are_4 16 rfl rfl)
theorem dX0_are_109 : decode cX0_are 109 = .ok (.iinc 1 1, 3) := dk_132 1 1 (dk_at dksX0_are_4 17 rfl rfl)
theorem dX0_are_112 : decode cX0_are 112 = .ok (.goto (-110), 3) := dk_167 255 146 (dk_at dksX0_are_4 20 rfl rfl)
theorem dX0_are_115 : decode cX0_are 115 = .ok (.iconst 1, 1) := dk_4 (dk_at dksX0_are_4 23 rfl rfl)
theorem dX0_are_116 : decode cX0_are 116 = .ok (.ireturn, 1) := dk_172 (dk_at dksX0_are_5 0 rfl rfl)
abbrev cX0_register : ByteArray := method_9_code
def yX0_register : MethodName := ⟨RX0, "register", "(J)I"⟩
def dkwX0_register_2 : List UInt8 := [96, 28, 4, 164, 0, 14, 30, 28, 5, 100, 125, 10, 127, 136, 167, 0, 4, 3, 96, 172]
abbrev dktX0_register_2 : List UInt8 := dkwX0_register_2 ++ []
def dkwX0_register_1 : List UInt8 := [167, 255, 243, 7, 28, 104, 28, 158, 0, 16, 5, 30, 28, 4, 100, 125, 10, 127, 136, 104, 167, 0, 4, 3]
abbrev dktX0_register_1 : List UInt8 := dkwX0_register_1 ++ dktX0_register_2
def dkwX0_register_0 : List UInt8 := [16, 63, 61, 30, 9, 148, 154, 0, 5, 3, 172, 30, 28, 125, 10, 127, 9, 148, 154, 0, 9, 132, 2, 255]
abbrev dktX0_register_0 : List UInt8 := dkwX0_register_0 ++ dktX0_register_1
theorem dksX0_register_0 : cX0_register.data.toList.drop 0 = dktX0_register_0 := by decide +kernel
theorem dksX0_register_1 : cX0_register.data.toList.drop 24 = dktX0_register_1 := dk_seg dksX0_register_0 24 rfl rfl
theorem dksX0_register_2 : cX0_register.data.toList.drop 48 = dktX0_register_2 := dk_seg dksX0_register_1 24 rfl rfl
theorem dX0_register_0 : decode cX0_register 0 = .ok (.bipush 63, 2) := dk_16 63 (dk_at dksX0_register_0 0 rfl rfl)
theorem dX0_register_2 : decode cX0_register 2 = .ok (.istore_n 2, 1) := dk_61 (dk_at dksX0_register_0 2 rfl rfl)
theorem dX0_register_3 : decode cX0_register 3 = .ok (.lload_n 0, 1) := dk_30 (dk_at dksX0_register_0 3 rfl rfl)
theorem dX0_register_4 : decode cX0_register 4 = .ok (.lconst 0, 1) := dk_9 (dk_at dksX0_register_0 4 rfl rfl)
theorem dX0_register_5 : decode cX0_register 5 = .ok (.lcmp, 1) := dk_148 (dk_at dksX0_register_0 5 rfl rfl)
theorem dX0_register_6 : decode cX0_register 6 = .ok (.ifCond .ne 5, 3) := dk_154 0 5 (dk_at dksX0_register_0 6 rfl rfl)
theorem dX0_register_9 : decode cX0_register 9 = .ok (.iconst 0, 1) := dk_3 (dk_at dksX0_register_0 9 rfl rfl)
theorem dX0_register_10 : decode cX0_register 10 = .ok (.ireturn, 1) := dk_172 (dk_at dksX0_register_0 10 rfl rfl)
theorem dX0_register_11 : decode cX0_register 11 = .ok (.lload_n 0, 1) := dk_30 (dk_at dksX0_register_0 11 rfl rfl)
theorem dX0_register_12 : decode cX0_register 12 = .ok (.iload_n 2, 1) := dk_28 (dk_at dksX0_register_0 12 rfl rfl)
theorem dX0_register_13 : decode cX0_register 13 = .ok (.lushr, 1) := dk_125 (dk_at dksX0_register_0 13 rfl rfl)
theorem dX0_register_14 : decode cX0_register 14 = .ok (.lconst 1, 1) := dk_10 (dk_at dksX0_register_0 14 rfl rfl)
theorem dX0_register_15 : decode cX0_register 15 = .ok (.land, 1) := dk_127 (dk_at dksX0_register_0 15 rfl rfl)
theorem dX0_register_16 : decode cX0_register 16 = .ok (.lconst 0, 1) := dk_9 (dk_at dksX0_register_0 16 rfl rfl)
theorem dX0_register_17 : decode cX0_register 17 = .ok (.lcmp, 1) := dk_148 (dk_at dksX0_register_0 17 rfl rfl)
theorem dX0_register_18 : decode cX0_register 18 = .ok (.ifCond .ne 9, 3) := dk_154 0 9 (dk_at dksX0_register_0 18 rfl rfl)
theorem dX0_register_21 : decode cX0_register 21 = .ok (.iinc 2 (-1), 3) := dk_132 2 255 (dk_at dksX0_register_0 21 rfl rfl)
theorem dX0_register_24 : decode cX0_register 24 = .ok (.goto (-13), 3) := dk_167 255 243 (dk_at dksX0_register_1 0 rfl rfl)
theorem dX0_register_27 : decode cX0_register 27 = .ok (.iconst 4, 1) := dk_7 (dk_at dksX0_register_1 3 rfl rfl)
theorem dX0_register_28 : decode cX0_register 28 = .ok (.iload_n 2, 1) := dk_28 (dk_at dksX0_register_1 4 rfl rfl)
theorem dX0_register_29 : decode cX0_register 29 = .ok (.imul, 1) := dk_104 (dk_at dksX0_register_1 5 rfl rfl)
theorem dX0_register_30 : decode cX0_register 30 = .ok (.iload_n 2, 1) := dk_28 (dk_at dksX0_register_1 6 rfl rfl)
theorem dX0_register_31 : decode cX0_register 31 = .ok (.ifCond .le 16, 3) := dk_158 0 16 (dk_at dksX0_register_1 7 rfl rfl)
theorem dX0_register_34 : decode cX0_register 34 = .ok (.iconst 2, 1) := dk_5 (dk_at dksX0_register_1 10 rfl rfl)
theorem dX0_register_35 : decode cX0_register 35 = .ok (.lload_n 0, 1) := dk_30 (dk_at dksX0_register_1 11 rfl rfl)
theorem dX0_register_36 : decode cX0_register 36 = .ok (.iload_n 2, 1) := dk_28 (dk_at dksX0_register_1 12 rfl rfl)
theorem dX0_register_37 : decode cX0_register 37 = .ok (.iconst 1, 1) := dk_4 (dk_at dksX0_register_1 13 rfl rfl)
theorem dX0_register_38 : decode cX0_register 38 = .ok (.isub, 1) := dk_100 (dk_at dksX0_register_1 14 rfl rfl)
theorem dX0_register_39 : decode cX0_register 39 = .ok (.lushr, 1) := dk_125 (dk_at dksX0_register_1 15 rfl rfl)
theorem dX0_register_40 : decode cX0_register 40 = .ok (.lconst 1, 1) := dk_10 (dk_at dksX0_register_1 16 rfl rfl)
theorem dX0_register_41 : decode cX0_register 41 = .ok (.land, 1) := dk_127 (dk_at dksX0_register_1 17 rfl rfl)
theorem dX0_register_42 : decode cX0_register 42 = .ok (.l2i, 1) := dk_136 (dk_at dksX0_register_1 18 rfl rfl)
theorem dX0_register_43 : decode cX0_register 43 = .ok (.imul, 1) := dk_104 (dk_at dksX0_register_1 19 rfl rfl)
theorem dX0_register_44 : decode cX0_register 44 = .ok (.goto 4, 3) := dk_167 0 4 (dk_at dksX0_register_1 20 rfl rfl)
theorem dX0_register_47 : decode cX0_register 47 = .ok (.iconst 0, 1) := dk_3 (dk_at dksX0_register_1 23 rfl rfl)
theorem dX0_register_48 : decode cX0_register 48 = .ok (.iadd, 1) := dk_96 (dk_at dksX0_register_2 0 rfl rfl)
theorem dX0_register_49 : decode cX0_register 49 = .ok (.iload_n 2, 1) := dk_28 (dk_at dksX0_register_2 1 rfl rfl)
theorem dX0_register_50 : decode cX0_register 50 = .ok (.iconst 1, 1) := dk_4 (dk_at dksX0_register_2 2 rfl rfl)
theorem dX0_register_51 : decode cX0_register 51 = .ok (.if_icmp .le 14, 3) := dk_164 0 14 (dk_at dksX0_register_2 3 rfl rfl)
theorem dX0_register_54 : decode cX0_register 54 = .ok (.lload_n 0, 1) := dk_30 (dk_at dksX0_register_2 6 rfl rfl)
theorem dX0_register_55 : decode cX0_register 55 = .ok (.iload_n 2, 1) := dk_28 (dk_at dksX0_register_2 7 rfl rfl)
theorem dX0_register_56 : decode cX0_register 56 = .ok (.iconst 2, 1) := dk_5 (dk_at dksX0_register_2 8 rfl rfl)
theorem dX0_register_57 : decode cX0_register 57 = .ok (.isub, 1) := dk_100 (dk_at dksX0_register_2 9 rfl rfl)
theorem dX0_register_58 : decode cX0_register 58 = .ok (.lushr, 1) := dk_125 (dk_at dksX0_register_2 10 rfl rfl)
theorem dX0_register_59 : decode cX0_register 59 = .ok (.lconst 1, 1) := dk_10 (dk_at dksX0_register_2 11 rfl rfl)
theorem dX0_register_60 : decode cX0_register 60 = .ok (.land, 1) := dk_127 (dk_at dksX0_register_2 12 rfl rfl)
theorem dX0_register_61 : decode cX0_register 61 = .ok (.l2i, 1) := dk_136 (dk_at dksX0_register_2 13 rfl rfl)
theorem dX0_register_62 : decode cX0_register 62 = .ok (.goto 4, 3) := dk_167 0 4 (dk_at dksX0_register_2 14 rfl rfl)
theorem dX0_register_65 : decode cX0_register 65 = .ok (.iconst 0, 1) := dk_3 (dk_at dksX0_register_2 17 rfl rfl)
theorem dX0_register_66 : decode cX0_register 66 = .ok (.iadd, 1) := dk_96 (dk_at dksX0_register_2 18 rfl rfl)
theorem dX0_register_67 : decode cX0_register 67 = .ok (.ireturn, 1) := dk_172 (dk_at dksX0_register_2 19 rfl rfl)
abbrev cX0_cell : ByteArray := method_2_code
def yX0_cell : MethodName := ⟨RX0, "cell", "([II)I"⟩
def dkwX0_cell_0 : List UInt8 := [27, 42, 190, 162, 0, 9, 42, 27, 46, 167, 0, 4, 3, 172]
abbrev dktX0_cell_0 : List UInt8 := dkwX0_cell_0 ++ []
theorem dksX0_cell_0 : cX0_cell.data.toList.drop 0 = dktX0_cell_0 := by decide +kernel
theorem dX0_cell_0 : decode cX0_cell 0 = .ok (.iload_n 1, 1) := dk_27 (dk_at dksX0_cell_0 0 rfl rfl)
theorem dX0_cell_1 : decode cX0_cell 1 = .ok (.aload_n 0, 1) := dk_42 (dk_at dksX0_cell_0 1 rfl rfl)
theorem dX0_cell_2 : decode cX0_cell 2 = .ok (.arraylength, 1) := dk_190 (dk_at dksX0_cell_0 2 rfl rfl)
theorem dX0_cell_3 : decode cX0_cell 3 = .ok (.if_icmp .ge 9, 3) := dk_162 0 9 (dk_at dksX0_cell_0 3 rfl rfl)
theorem dX0_cell_6 : decode cX0_cell 6 = .ok (.aload_n 0, 1) := dk_42 (dk_at dksX0_cell_0 6 rfl rfl)
theorem dX0_cell_7 : decode cX0_cell 7 = .ok (.iload_n 1, 1) := dk_27 (dk_at dksX0_cell_0 7 rfl rfl)
theorem dX0_cell_8 : decode cX0_cell 8 = .ok (.iaload, 1) := dk_46 (dk_at dksX0_cell_0 8 rfl rfl)
theorem dX0_cell_9 : decode cX0_cell 9 = .ok (.goto 4, 3) := dk_167 0 4 (dk_at dksX0_cell_0 9 rfl rfl)
theorem dX0_cell_12 : decode cX0_cell 12 = .ok (.iconst 0, 1) := dk_3 (dk_at dksX0_cell_0 12 rfl rfl)
theorem dX0_cell_13 : decode cX0_cell 13 = .ok (.ireturn, 1) := dk_172 (dk_at dksX0_cell_0 13 rfl rfl)
abbrev cX0_act : ByteArray := method_11_code
def yX0_act : MethodName := ⟨RX0, "act", "(IIIIII)Z"⟩
def dkwX0_act_23 : List UInt8 := [28, 21, 5, 21, 6, 182, 0, 93, 42, 21, 7, 21, 5, 21, 6, 184, 0, 58, 182, 0, 62, 4, 172]
abbrev dktX0_act_23 : List UInt8 := dkwX0_act_23 ++ []
def dkwX0_act_22 : List UInt8 := [42, 180, 0, 22, 21, 7, 4, 42, 180, 0, 16, 21, 7, 46, 120, 188, 11, 83, 4, 172, 42, 180, 0, 10]
abbrev dktX0_act_22 : List UInt8 := dkwX0_act_22 ++ dktX0_act_23
def dkwX0_act_21 : List UInt8 := [83, 4, 172, 42, 180, 0, 10, 28, 29, 182, 0, 90, 42, 180, 0, 16, 21, 7, 6, 29, 6, 126, 96, 79]
abbrev dktX0_act_21 : List UInt8 := dkwX0_act_21 ++ dktX0_act_22
def dkwX0_act_20 : List UInt8 := [21, 10, 159, 0, 5, 3, 172, 42, 180, 0, 16, 21, 7, 21, 10, 79, 42, 180, 0, 22, 21, 7, 25, 11]
abbrev dktX0_act_20 : List UInt8 := dkwX0_act_20 ++ dktX0_act_21
def dkwX0_act_19 : List UInt8 := [180, 0, 16, 21, 8, 46, 21, 10, 184, 0, 33, 58, 11, 42, 180, 0, 10, 28, 29, 21, 4, 182, 0, 87]
abbrev dktX0_act_19 : List UInt8 := dkwX0_act_19 ++ dktX0_act_20
def dkwX0_act_18 : List UInt8 := [126, 96, 167, 0, 10, 42, 180, 0, 16, 21, 8, 46, 54, 10, 42, 180, 0, 22, 21, 8, 50, 42]
abbrev dktX0_act_18 : List UInt8 := dkwX0_act_18 ++ dktX0_act_19
def dkwX0_act_17 : List UInt8 := [4, 172, 6, 21, 4, 16, 7, 126, 96, 42, 180, 0, 16, 21, 8, 46, 162, 0, 13, 6, 21, 4, 16, 7]
abbrev dktX0_act_17 : List UInt8 := dkwX0_act_17 ++ dktX0_act_18
def dkwX0_act_16 : List UInt8 := [180, 0, 16, 21, 7, 46, 42, 180, 0, 22, 21, 8, 50, 42, 180, 0, 16, 21, 8, 46, 184, 0, 76, 83]
abbrev dktX0_act_16 : List UInt8 := dkwX0_act_16 ++ dktX0_act_17
def dkwX0_act_15 : List UInt8 := [42, 180, 0, 16, 21, 7, 46, 161, 0, 41, 42, 180, 0, 22, 21, 7, 42, 180, 0, 22, 21, 7, 50, 42]
abbrev dktX0_act_15 : List UInt8 := dkwX0_act_15 ++ dktX0_act_16
def dkwX0_act_14 : List UInt8 := [172, 42, 180, 0, 10, 28, 29, 182, 0, 83, 21, 7, 21, 8, 159, 0, 58, 42, 180, 0, 16, 21, 8, 46]
abbrev dktX0_act_14 : List UInt8 := dkwX0_act_14 ++ dktX0_act_15
def dkwX0_act_13 : List UInt8 := [21, 8, 46, 167, 0, 10, 42, 180, 0, 16, 21, 9, 46, 79, 42, 180, 0, 22, 21, 7, 25, 10, 83, 4]
abbrev dktX0_act_13 : List UInt8 := dkwX0_act_13 ++ dktX0_act_14
def dkwX0_act_12 : List UInt8 := [21, 7, 42, 180, 0, 16, 21, 8, 46, 42, 180, 0, 16, 21, 9, 46, 162, 0, 13, 42, 180, 0, 16]
abbrev dktX0_act_12 : List UInt8 := dkwX0_act_12 ++ dktX0_act_13
def dkwX0_act_11 : List UInt8 := [21, 9, 46, 184, 0, 76, 58, 10, 42, 180, 0, 10, 28, 29, 21, 4, 182, 0, 80, 42, 180, 0, 16]
abbrev dktX0_act_11 : List UInt8 := dkwX0_act_11 ++ dktX0_act_12
def dkwX0_act_10 : List UInt8 := [180, 0, 22, 21, 8, 50, 42, 180, 0, 16, 21, 8, 46, 42, 180, 0, 22, 21, 9, 50, 42, 180, 0, 16]
abbrev dktX0_act_10 : List UInt8 := dkwX0_act_10 ++ dktX0_act_11
def dkwX0_act_9 : List UInt8 := [126, 92, 47, 10, 21, 10, 42, 180, 0, 16, 21, 7, 46, 96, 4, 100, 121, 129, 80, 4, 172, 42]
abbrev dktX0_act_9 : List UInt8 := dkwX0_act_9 ++ dktX0_act_10
def dkwX0_act_8 : List UInt8 := [21, 4, 182, 0, 73, 42, 180, 0, 22, 21, 7, 50, 29, 4, 42, 180, 0, 16, 21, 7, 46, 120, 4, 100]
abbrev dktX0_act_8 : List UInt8 := dkwX0_act_8 ++ dktX0_act_9
def dkwX0_act_7 : List UInt8 := [21, 4, 16, 65, 42, 180, 0, 16, 21, 7, 46, 100, 184, 0, 51, 54, 10, 42, 180, 0, 10, 28, 29]
abbrev dktX0_act_7 : List UInt8 := dkwX0_act_7 ++ dktX0_act_8
def dkwX0_act_6 : List UInt8 := [182, 0, 62, 22, 10, 20, 0, 69, 105, 20, 0, 71, 97, 55, 10, 132, 12, 255, 167, 255, 228, 4, 172]
abbrev dktX0_act_6 : List UInt8 := dkwX0_act_6 ++ dktX0_act_7
def dkwX0_act_5 : List UInt8 := [21, 4, 182, 0, 65, 21, 4, 16, 63, 126, 54, 12, 21, 12, 155, 0, 29, 42, 21, 7, 22, 10]
abbrev dktX0_act_5 : List UInt8 := dkwX0_act_5 ++ dktX0_act_6
def dkwX0_act_4 : List UInt8 := [182, 0, 62, 4, 172, 21, 5, 21, 6, 184, 0, 58, 55, 10, 42, 180, 0, 10, 28, 21, 5, 21, 6]
abbrev dktX0_act_4 : List UInt8 := dkwX0_act_4 ++ dktX0_act_5
def dkwX0_act_3 : List UInt8 := [42, 180, 0, 10, 28, 21, 5, 21, 6, 182, 0, 54, 42, 21, 7, 21, 5, 21, 6, 184, 0, 58]
abbrev dktX0_act_3 : List UInt8 := dkwX0_act_3 ++ dktX0_act_4
def dkwX0_act_2 : List UInt8 := [170, 0, 0, 0, 0, 0, 2, 11, 0, 0, 0, 0, 0, 0, 0, 10, 0, 0, 0, 60, 0, 0, 0, 60, 0, 0, 0, 87, 0, 0, 0, 150, 0, 0, 0, 150, 0, 0, 0, 150, 0, 0, 0, 218, 0, 0, 0, 218, 0, 0, 1, 58, 0, 0, 1, 131, 0, 0, 1, 226]
abbrev dktX0_act_2 : List UInt8 := dkwX0_act_2 ++ dktX0_act_3
def dkwX0_act_1 : List UInt8 := [16, 12, 184, 0, 51]
abbrev dktX0_act_1 : List UInt8 := dkwX0_act_1 ++ dktX0_act_2
def dkwX0_act_0 : List UInt8 := [28, 6, 184, 0, 51, 54, 7, 29, 6, 184, 0, 51, 54, 8, 21, 4, 6, 184, 0, 51, 54, 9, 27]
abbrev dktX0_act_0 : List UInt8 := dkwX0_act_0 ++ dktX0_act_1
theorem dksX0_act_0 : cX0_act.data.toList.drop 0 = dktX0_act_0 := by decide +kernel
theorem dksX0_act_1 : cX0_act.data.toList.drop 23 = dktX0_act_1 := dk_seg dksX0_act_0 23 rfl rfl
theorem dksX0_act_2 : cX0_act.data.toList.drop 28 = dktX0_act_2 := dk_seg dksX0_act_1 5 rfl rfl
theorem dksX0_act_3 : cX0_act.data.toList.drop 88 = dktX0_act_3 := dk_seg dksX0_act_2 60 rfl rfl
theorem dksX0_act_4 : cX0_act.data.toList.drop 110 = dktX0_act_4 := dk_seg dksX0_act_3 22 rfl rfl
theorem dksX0_act_5 : cX0_act.data.toList.drop 133 = dktX0_act_5 := dk_seg dksX0_act_4 23 rfl rfl
theorem dksX0_act_6 : cX0_act.data.toList.drop 155 = dktX0_act_6 := dk_seg dksX0_act_5 22 rfl rfl
theorem dksX0_act_7 : cX0_act.data.toList.drop 178 = dktX0_act_7 := dk_seg dksX0_act_6 23 rfl rfl
theorem dksX0_act_8 : cX0_act.data.toList.drop 201 = dktX0_act_8 := dk_seg dksX0_act_7 23 rfl rfl
theorem dksX0_act_9 : cX0_act.data.toList.drop 225 = dktX0_act_9 := dk_seg dksX0_act_8 24 rfl rfl
theorem dksX0_act_10 : cX0_act.data.toList.drop 247 = dktX0_act_10 := dk_seg dksX0_act_9 22 rfl rfl
theorem dksX0_act_11 : cX0_act.data.toList.drop 271 = dktX0_act_11 := dk_seg dksX0_act_10 24 rfl rfl
theorem dksX0_act_12 : cX0_act.data.toList.drop 294 = dktX0_act_12 := dk_seg dksX0_act_11 23 rfl rfl
theorem dksX0_act_13 : cX0_act.data.toList.drop 317 = dktX0_act_13 := dk_seg dksX0_act_12 23 rfl rfl
theorem dksX0_act_14 : cX0_act.data.toList.drop 341 = dktX0_act_14 := dk_seg dksX0_act_13 24 rfl rfl
theorem dksX0_act_15 : cX0_act.data.toList.drop 365 = dktX0_act_15 := dk_seg dksX0_act_14 24 rfl rfl
theorem dksX0_act_16 : cX0_act.data.toList.drop 389 = dktX0_act_16 := dk_seg dksX0_act_15 24 rfl rfl
theorem dksX0_act_17 : cX0_act.data.toList.drop 413 = dktX0_act_17 := dk_seg dksX0_act_16 24 rfl rfl
theorem dksX0_act_18 : cX0_act.data.toList.drop 437 = dktX0_act_18 := dk_seg dksX0_act_17 24 rfl rfl
theorem dksX0_act_19 : cX0_act.data.toList.drop 459 = dktX0_act_19 := dk_seg dksX0_act_18 22 rfl rfl
theorem dksX0_act_20 : cX0_act.data.toList.drop 483 = dktX0_act_20 := dk_seg dksX0_act_19 24 rfl rfl
theorem dksX0_act_21 : cX0_act.data.toList.drop 507 = dktX0_act_21 := dk_seg dksX0_act_20 24 rfl rfl
theorem dksX0_act_22 : cX0_act.data.toList.drop 531 = dktX0_act_22 := dk_seg dksX0_act_21 24 rfl rfl
theorem dksX0_act_23 : cX0_act.data.toList.drop 555 = dktX0_act_23 := dk_seg dksX0_act_22 24 rfl rfl
theorem dX0_act_0 : decode cX0_act 0 = .ok (.iload_n 2, 1) := dk_28 (dk_at dksX0_act_0 0 rfl rfl)
theorem dX0_act_1 : decode cX0_act 1 = .ok (.iconst 3, 1) := dk_6 (dk_at dksX0_act_0 1 rfl rfl)
theorem dX0_act_2 : decode cX0_act 2 = .ok (.invokestatic 51, 3) := dk_184 0 51 (dk_at dksX0_act_0 2 rfl rfl)
theorem dX0_act_5 : decode cX0_act 5 = .ok (.istore 7, 2) := dk_54 7 (dk_at dksX0_act_0 5 rfl rfl)
theorem dX0_act_7 : decode cX0_act 7 = .ok (.iload_n 3, 1) := dk_29 (dk_at dksX0_act_0 7 rfl rfl)
theorem dX0_act_8 : decode cX0_act 8 = .ok (.iconst 3, 1) := dk_6 (dk_at dksX0_act_0 8 rfl rfl)
theorem dX0_act_9 : decode cX0_act 9 = .ok (.invokestatic 51, 3) := dk_184 0 51 (dk_at dksX0_act_0 9 rfl rfl)
theorem dX0_act_12 : decode cX0_act 12 = .ok (.istore 8, 2) := dk_54 8 (dk_at dksX0_act_0 12 rfl rfl)
theorem dX0_act_14 : decode cX0_act 14 = .ok (.iload 4, 2) := dk_21 4 (dk_at dksX0_act_0 14 rfl rfl)
theorem dX0_act_16 : decode cX0_act 16 = .ok (.iconst 3, 1) := dk_6 (dk_at dksX0_act_0 16 rfl rfl)
theorem dX0_act_17 : decode cX0_act 17 = .ok (.invokestatic 51, 3) := dk_184 0 51 (dk_at dksX0_act_0 17 rfl rfl)
theorem dX0_act_20 : decode cX0_act 20 = .ok (.istore 9, 2) := dk_54 9 (dk_at dksX0_act_0 20 rfl rfl)
theorem dX0_act_22 : decode cX0_act 22 = .ok (.iload_n 1, 1) := dk_27 (dk_at dksX0_act_0 22 rfl rfl)
theorem dX0_act_23 : decode cX0_act 23 = .ok (.bipush 12, 2) := dk_16 12 (dk_at dksX0_act_1 0 rfl rfl)
theorem dX0_act_25 : decode cX0_act 25 = .ok (.invokestatic 51, 3) := dk_184 0 51 (dk_at dksX0_act_1 2 rfl rfl)
theorem dX0_act_28 : decode cX0_act 28 = .ok (.tableswitch 523 0 10 #[60, 60, 87, 150, 150, 150, 218, 218, 314, 387, 482], 60) := by decide +kernel
theorem dX0_act_88 : decode cX0_act 88 = .ok (.aload_n 0, 1) := dk_42 (dk_at dksX0_act_3 0 rfl rfl)
theorem dX0_act_89 : decode cX0_act 89 = .ok (.getfield 10, 3) := dk_180 0 10 (dk_at dksX0_act_3 1 rfl rfl)
theorem dX0_act_92 : decode cX0_act 92 = .ok (.iload_n 2, 1) := dk_28 (dk_at dksX0_act_3 4 rfl rfl)
theorem dX0_act_93 : decode cX0_act 93 = .ok (.iload 5, 2) := dk_21 5 (dk_at dksX0_act_3 5 rfl rfl)
theorem dX0_act_95 : decode cX0_act 95 = .ok (.iload 6, 2) := dk_21 6 (dk_at dksX0_act_3 7 rfl rfl)
theorem dX0_act_97 : decode cX0_act 97 = .ok (.invokevirtual 54, 3) := dk_182 0 54 (dk_at dksX0_act_3 9 rfl rfl)
theorem dX0_act_100 : decode cX0_act 100 = .ok (.aload_n 0, 1) := dk_42 (dk_at dksX0_act_3 12 rfl rfl)
theorem dX0_act_101 : decode cX0_act 101 = .ok (.iload 7, 2) := dk_21 7 (dk_at dksX0_act_3 13 rfl rfl)
theorem dX0_act_103 : decode cX0_act 103 = .ok (.iload 5, 2) := dk_21 5 (dk_at dksX0_act_3 15 rfl rfl)
theorem dX0_act_105 : decode cX0_act 105 = .ok (.iload 6, 2) := dk_21 6 (dk_at dksX0_act_3 17 rfl rfl)
theorem dX0_act_107 : decode cX0_act 107 = .ok (.invokestatic 58, 3) := dk_184 0 58 (dk_at dksX0_act_3 19 rfl rfl)
theorem dX0_act_110 : decode cX0_act 110 = .ok (.invokevirtual 62, 3) := dk_182 0 62 (dk_at dksX0_act_4 0 rfl rfl)
theorem dX0_act_113 : decode cX0_act 113 = .ok (.iconst 1, 1) := dk_4 (dk_at dksX0_act_4 3 rfl rfl)
theorem dX0_act_114 : decode cX0_act 114 = .ok (.ireturn, 1) := dk_172 (dk_at dksX0_act_4 4 rfl rfl)
theorem dX0_act_115 : decode cX0_act 115 = .ok (.iload 5, 2) := dk_21 5 (dk_at dksX0_act_4 5 rfl rfl)
theorem dX0_act_117 : decode cX0_act 117 = .ok (.iload 6, 2) := dk_21 6 (dk_at dksX0_act_4 7 rfl rfl)
theorem dX0_act_119 : decode cX0_act 119 = .ok (.invokestatic 58, 3) := dk_184 0 58 (dk_at dksX0_act_4 9 rfl rfl)
theorem dX0_act_122 : decode cX0_act 122 = .ok (.lstore 10, 2) := dk_55 10 (dk_at dksX0_act_4 12 rfl rfl)
theorem dX0_act_124 : decode cX0_act 124 = .ok (.aload_n 0, 1) := dk_42 (dk_at dksX0_act_4 14 rfl rfl)
theorem dX0_act_125 : decode cX0_act 125 = .ok (.getfield 10, 3) := dk_180 0 10 (dk_at dksX0_act_4 15 rfl rfl)
theorem dX0_act_128 : decode cX0_act 128 = .ok (.iload_n 2, 1) := dk_28 (dk_at dksX0_act_4 18 rfl rfl)
theorem dX0_act_129 : decode cX0_act 129 = .ok (.iload 5, 2) := dk_21 5 (dk_at dksX0_act_4 19 rfl rfl)
theorem dX0_act_131 : decode cX0_act 131 = .ok (.iload 6, 2) := dk_21 6 (dk_at dksX0_act_4 21 rfl rfl)
theorem dX0_act_133 : decode cX0_act 133 = .ok (.iload 4, 2) := dk_21 4 (dk_at dksX0_act_5 0 rfl rfl)
theorem dX0_act_135 : decode cX0_act 135 = .ok (.invokevirtual 65, 3) := dk_182 0 65 (dk_at dksX0_act_5 2 rfl rfl)
theorem dX0_act_138 : decode cX0_act 138 = .ok (.iload 4, 2) := dk_21 4 (dk_at dksX0_act_5 5 rfl rfl)
theorem dX0_act_140 : decode cX0_act 140 = .ok (.bipush 63, 2) := dk_16 63 (dk_at dksX0_act_5 7 rfl rfl)
theorem dX0_act_142 : decode cX0_act 142 = .ok (.iand, 1) := dk_126 (dk_at dksX0_act_5 9 rfl rfl)
theorem dX0_act_143 : decode cX0_act 143 = .ok (.istore 12, 2) := dk_54 12 (dk_at dksX0_act_5 10 rfl rfl)
theorem dX0_act_145 : decode cX0_act 145 = .ok (.iload 12, 2) := dk_21 12 (dk_at dksX0_act_5 12 rfl rfl)
theorem dX0_act_147 : decode cX0_act 147 = .ok (.ifCond .lt 29, 3) := dk_155 0 29 (dk_at dksX0_act_5 14 rfl rfl)
theorem dX0_act_150 : decode cX0_act 150 = .ok (.aload_n 0, 1) := dk_42 (dk_at dksX0_act_5 17 rfl rfl)
theorem dX0_act_151 : decode cX0_act 151 = .ok (.iload 7, 2) := dk_21 7 (dk_at dksX0_act_5 18 rfl rfl)
theorem dX0_act_153 : decode cX0_act 153 = .ok (.lload 10, 2) := dk_22 10 (dk_at dksX0_act_5 20 rfl rfl)
theorem dX0_act_155 : decode cX0_act 155 = .ok (.invokevirtual 62, 3) := dk_182 0 62 (dk_at dksX0_act_6 0 rfl rfl)
theorem dX0_act_158 : decode cX0_act 158 = .ok (.lload 10, 2) := dk_22 10 (dk_at dksX0_act_6 3 rfl rfl)
theorem dX0_act_160 : decode cX0_act 160 = .ok (.ldc2_w 69, 3) := dk_20 0 69 (dk_at dksX0_act_6 5 rfl rfl)
theorem dX0_act_163 : decode cX0_act 163 = .ok (.lmul, 1) := dk_105 (dk_at dksX0_act_6 8 rfl rfl)
theorem dX0_act_164 : decode cX0_act 164 = .ok (.ldc2_w 71, 3) := dk_20 0 71 (dk_at dksX0_act_6 9 rfl rfl)
theorem dX0_act_167 : decode cX0_act 167 = .ok (.ladd, 1) := dk_97 (dk_at dksX0_act_6 12 rfl rfl)
theorem dX0_act_168 : decode cX0_act 168 = .ok (.lstore 10, 2) := dk_55 10 (dk_at dksX0_act_6 13 rfl rfl)
theorem dX0_act_170 : decode cX0_act 170 = .ok (.iinc 12 (-1), 3) := dk_132 12 255 (dk_at dksX0_act_6 15 rfl rfl)
theorem dX0_act_173 : decode cX0_act 173 = .ok (.goto (-28), 3) := dk_167 255 228 (dk_at dksX0_act_6 18 rfl rfl)
theorem dX0_act_176 : decode cX0_act 176 = .ok (.iconst 1, 1) := dk_4 (dk_at dksX0_act_6 21 rfl rfl)
theorem dX0_act_177 : decode cX0_act 177 = .ok (.ireturn, 1) := dk_172 (dk_at dksX0_act_6 22 rfl rfl)
theorem dX0_act_178 : decode cX0_act 178 = .ok (.iload 4, 2) := dk_21 4 (dk_at dksX0_act_7 0 rfl rfl)
theorem dX0_act_180 : decode cX0_act 180 = .ok (.bipush 65, 2) := dk_16 65 (dk_at dksX0_act_7 2 rfl rfl)
theorem dX0_act_182 : decode cX0_act 182 = .ok (.aload_n 0, 1) := dk_42 (dk_at dksX0_act_7 4 rfl rfl)
theorem dX0_act_183 : decode cX0_act 183 = .ok (.getfield 16, 3) := dk_180 0 16 (dk_at dksX0_act_7 5 rfl rfl)
theorem dX0_act_186 : decode cX0_act 186 = .ok (.iload 7, 2) := dk_21 7 (dk_at dksX0_act_7 8 rfl rfl)
theorem dX0_act_188 : decode cX0_act 188 = .ok (.iaload, 1) := dk_46 (dk_at dksX0_act_7 10 rfl rfl)
theorem dX0_act_189 : decode cX0_act 189 = .ok (.isub, 1) := dk_100 (dk_at dksX0_act_7 11 rfl rfl)
theorem dX0_act_190 : decode cX0_act 190 = .ok (.invokestatic 51, 3) := dk_184 0 51 (dk_at dksX0_act_7 12 rfl rfl)
theorem dX0_act_193 : decode cX0_act 193 = .ok (.istore 10, 2) := dk_54 10 (dk_at dksX0_act_7 15 rfl rfl)
theorem dX0_act_195 : decode cX0_act 195 = .ok (.aload_n 0, 1) := dk_42 (dk_at dksX0_act_7 17 rfl rfl)
theorem dX0_act_196 : decode cX0_act 196 = .ok (.getfield 10, 3) := dk_180 0 10 (dk_at dksX0_act_7 18 rfl rfl)
theorem dX0_act_199 : decode cX0_act 199 = .ok (.iload_n 2, 1) := dk_28 (dk_at dksX0_act_7 21 rfl rfl)
theorem dX0_act_200 : decode cX0_act 200 = .ok (.iload_n 3, 1) := dk_29 (dk_at dksX0_act_7 22 rfl rfl)
theorem dX0_act_201 : decode cX0_act 201 = .ok (.iload 4, 2) := dk_21 4 (dk_at dksX0_act_8 0 rfl rfl)
theorem dX0_act_203 : decode cX0_act 203 = .ok (.invokevirtual 73, 3) := dk_182 0 73 (dk_at dksX0_act_8 2 rfl rfl)
theorem dX0_act_206 : decode cX0_act 206 = .ok (.aload_n 0, 1) := dk_42 (dk_at dksX0_act_8 5 rfl rfl)
theorem dX0_act_207 : decode cX0_act 207 = .ok (.getfield 22, 3) := dk_180 0 22 (dk_at dksX0_act_8 6 rfl rfl)
theorem dX0_act_210 : decode cX0_act 210 = .ok (.iload 7, 2) := dk_21 7 (dk_at dksX0_act_8 9 rfl rfl)
theorem dX0_act_212 : decode cX0_act 212 = .ok (.aaload, 1) := dk_50 (dk_at dksX0_act_8 11 rfl rfl)
theorem dX0_act_213 : decode cX0_act 213 = .ok (.iload_n 3, 1) := dk_29 (dk_at dksX0_act_8 12 rfl rfl)
theorem dX0_act_214 : decode cX0_act 214 = .ok (.iconst 1, 1) := dk_4 (dk_at dksX0_act_8 13 rfl rfl)
theorem dX0_act_215 : decode cX0_act 215 = .ok (.aload_n 0, 1) := dk_42 (dk_at dksX0_act_8 14 rfl rfl)
theorem dX0_act_216 : decode cX0_act 216 = .ok (.getfield 16, 3) := dk_180 0 16 (dk_at dksX0_act_8 15 rfl rfl)
theorem dX0_act_219 : decode cX0_act 219 = .ok (.iload 7, 2) := dk_21 7 (dk_at dksX0_act_8 18 rfl rfl)
theorem dX0_act_221 : decode cX0_act 221 = .ok (.iaload, 1) := dk_46 (dk_at dksX0_act_8 20 rfl rfl)
theorem dX0_act_222 : decode cX0_act 222 = .ok (.ishl, 1) := dk_120 (dk_at dksX0_act_8 21 rfl rfl)
theorem dX0_act_223 : decode cX0_act 223 = .ok (.iconst 1, 1) := dk_4 (dk_at dksX0_act_8 22 rfl rfl)
theorem dX0_act_224 : decode cX0_act 224 = .ok (.isub, 1) := dk_100 (dk_at dksX0_act_8 23 rfl rfl)
theorem dX0_act_225 : decode cX0_act 225 = .ok (.iand, 1) := dk_126 (dk_at dksX0_act_9 0 rfl rfl)
theorem dX0_act_226 : decode cX0_act 226 = .ok (.dup2, 1) := dk_92 (dk_at dksX0_act_9 1 rfl rfl)
theorem dX0_act_227 : decode cX0_act 227 = .ok (.laload, 1) := dk_47 (dk_at dksX0_act_9 2 rfl rfl)
theorem dX0_act_228 : decode cX0_act 228 = .ok (.lconst 1, 1) := dk_10 (dk_at dksX0_act_9 3 rfl rfl)
theorem dX0_act_229 : decode cX0_act 229 = .ok (.iload 10, 2) := dk_21 10 (dk_at dksX0_act_9 4 rfl rfl)
theorem dX0_act_231 : decode cX0_act 231 = .ok (.aload_n 0, 1) := dk_42 (dk_at dksX0_act_9 6 rfl rfl)
theorem dX0_act_232 : decode cX0_act 232 = .ok (.getfield 16, 3) := dk_180 0 16 (dk_at dksX0_act_9 7 rfl rfl)
theorem dX0_act_235 : decode cX0_act 235 = .ok (.iload 7, 2) := dk_21 7 (dk_at dksX0_act_9 10 rfl rfl)
theorem dX0_act_237 : decode cX0_act 237 = .ok (.iaload, 1) := dk_46 (dk_at dksX0_act_9 12 rfl rfl)
theorem dX0_act_238 : decode cX0_act 238 = .ok (.iadd, 1) := dk_96 (dk_at dksX0_act_9 13 rfl rfl)
theorem dX0_act_239 : decode cX0_act 239 = .ok (.iconst 1, 1) := dk_4 (dk_at dksX0_act_9 14 rfl rfl)
theorem dX0_act_240 : decode cX0_act 240 = .ok (.isub, 1) := dk_100 (dk_at dksX0_act_9 15 rfl rfl)
theorem dX0_act_241 : decode cX0_act 241 = .ok (.lshl, 1) := dk_121 (dk_at dksX0_act_9 16 rfl rfl)
theorem dX0_act_242 : decode cX0_act 242 = .ok (.lor, 1) := dk_129 (dk_at dksX0_act_9 17 rfl rfl)
theorem dX0_act_243 : decode cX0_act 243 = .ok (.lastore, 1) := dk_80 (dk_at dksX0_act_9 18 rfl rfl)
theorem dX0_act_244 : decode cX0_act 244 = .ok (.iconst 1, 1) := dk_4 (dk_at dksX0_act_9 19 rfl rfl)
theorem dX0_act_245 : decode cX0_act 245 = .ok (.ireturn, 1) := dk_172 (dk_at dksX0_act_9 20 rfl rfl)
theorem dX0_act_246 : decode cX0_act 246 = .ok (.aload_n 0, 1) := dk_42 (dk_at dksX0_act_9 21 rfl rfl)
theorem dX0_act_247 : decode cX0_act 247 = .ok (.getfield 22, 3) := dk_180 0 22 (dk_at dksX0_act_10 0 rfl rfl)
theorem dX0_act_250 : decode cX0_act 250 = .ok (.iload 8, 2) := dk_21 8 (dk_at dksX0_act_10 3 rfl rfl)
theorem dX0_act_252 : decode cX0_act 252 = .ok (.aaload, 1) := dk_50 (dk_at dksX0_act_10 5 rfl rfl)
theorem dX0_act_253 : decode cX0_act 253 = .ok (.aload_n 0, 1) := dk_42 (dk_at dksX0_act_10 6 rfl rfl)
theorem dX0_act_254 : decode cX0_act 254 = .ok (.getfield 16, 3) := dk_180 0 16 (dk_at dksX0_act_10 7 rfl rfl)
theorem dX0_act_257 : decode cX0_act 257 = .ok (.iload 8, 2) := dk_21 8 (dk_at dksX0_act_10 10 rfl rfl)
theorem dX0_act_259 : decode cX0_act 259 = .ok (.iaload, 1) := dk_46 (dk_at dksX0_act_10 12 rfl rfl)
theorem dX0_act_260 : decode cX0_act 260 = .ok (.aload_n 0, 1) := dk_42 (dk_at dksX0_act_10 13 rfl rfl)
theorem dX0_act_261 : decode cX0_act 261 = .ok (.getfield 22, 3) := dk_180 0 22 (dk_at dksX0_act_10 14 rfl rfl)
theorem dX0_act_264 : decode cX0_act 264 = .ok (.iload 9, 2) := dk_21 9 (dk_at dksX0_act_10 17 rfl rfl)
theorem dX0_act_266 : decode cX0_act 266 = .ok (.aaload, 1) := dk_50 (dk_at dksX0_act_10 19 rfl rfl)
theorem dX0_act_267 : decode cX0_act 267 = .ok (.aload_n 0, 1) := dk_42 (dk_at dksX0_act_10 20 rfl rfl)
theorem dX0_act_268 : decode cX0_act 268 = .ok (.getfield 16, 3) := dk_180 0 16 (dk_at dksX0_act_10 21 rfl rfl)
theorem dX0_act_271 : decode cX0_act 271 = .ok (.iload 9, 2) := dk_21 9 (dk_at dksX0_act_11 0 rfl rfl)
theorem dX0_act_273 : decode cX0_act 273 = .ok (.iaload, 1) := dk_46 (dk_at dksX0_act_11 2 rfl rfl)
theorem dX0_act_274 : decode cX0_act 274 = .ok (.invokestatic 76, 3) := dk_184 0 76 (dk_at dksX0_act_11 3 rfl rfl)
theorem dX0_act_277 : decode cX0_act 277 = .ok (.astore 10, 2) := dk_58 10 (dk_at dksX0_act_11 6 rfl rfl)
theorem dX0_act_279 : decode cX0_act 279 = .ok (.aload_n 0, 1) := dk_42 (dk_at dksX0_act_11 8 rfl rfl)
theorem dX0_act_280 : decode cX0_act 280 = .ok (.getfield 10, 3) := dk_180 0 10 (dk_at dksX0_act_11 9 rfl rfl)
theorem dX0_act_283 : decode cX0_act 283 = .ok (.iload_n 2, 1) := dk_28 (dk_at dksX0_act_11 12 rfl rfl)
theorem dX0_act_284 : decode cX0_act 284 = .ok (.iload_n 3, 1) := dk_29 (dk_at dksX0_act_11 13 rfl rfl)
theorem dX0_act_285 : decode cX0_act 285 = .ok (.iload 4, 2) := dk_21 4 (dk_at dksX0_act_11 14 rfl rfl)
theorem dX0_act_287 : decode cX0_act 287 = .ok (.invokevirtual 80, 3) := dk_182 0 80 (dk_at dksX0_act_11 16 rfl rfl)
theorem dX0_act_290 : decode cX0_act 290 = .ok (.aload_n 0, 1) := dk_42 (dk_at dksX0_act_11 19 rfl rfl)
theorem dX0_act_291 : decode cX0_act 291 = .ok (.getfield 16, 3) := dk_180 0 16 (dk_at dksX0_act_11 20 rfl rfl)
theorem dX0_act_294 : decode cX0_act 294 = .ok (.iload 7, 2) := dk_21 7 (dk_at dksX0_act_12 0 rfl rfl)
theorem dX0_act_296 : decode cX0_act 296 = .ok (.aload_n 0, 1) := dk_42 (dk_at dksX0_act_12 2 rfl rfl)
theorem dX0_act_297 : decode cX0_act 297 = .ok (.getfield 16, 3) := dk_180 0 16 (dk_at dksX0_act_12 3 rfl rfl)
theorem dX0_act_300 : decode cX0_act 300 = .ok (.iload 8, 2) := dk_21 8 (dk_at dksX0_act_12 6 rfl rfl)
theorem dX0_act_302 : decode cX0_act 302 = .ok (.iaload, 1) := dk_46 (dk_at dksX0_act_12 8 rfl rfl)
theorem dX0_act_303 : decode cX0_act 303 = .ok (.aload_n 0, 1) := dk_42 (dk_at dksX0_act_12 9 rfl rfl)
theorem dX0_act_304 : decode cX0_act 304 = .ok (.getfield 16, 3) := dk_180 0 16 (dk_at dksX0_act_12 10 rfl rfl)
theorem dX0_act_307 : decode cX0_act 307 = .ok (.iload 9, 2) := dk_21 9 (dk_at dksX0_act_12 13 rfl rfl)
theorem dX0_act_309 : decode cX0_act 309 = .ok (.iaload, 1) := dk_46 (dk_at dksX0_act_12 15 rfl rfl)
theorem dX0_act_310 : decode cX0_act 310 = .ok (.if_icmp .ge 13, 3) := dk_162 0 13 (dk_at dksX0_act_12 16 rfl rfl)
theorem dX0_act_313 : decode cX0_act 313 = .ok (.aload_n 0, 1) := dk_42 (dk_at dksX0_act_12 19 rfl rfl)
theorem dX0_act_314 : decode cX0_act 314 = .ok (.getfield 16, 3) := dk_180 0 16 (dk_at dksX0_act_12 20 rfl rfl)
theorem dX0_act_317 : decode cX0_act 317 = .ok (.iload 8, 2) := dk_21 8 (dk_at dksX0_act_13 0 rfl rfl)
theorem dX0_act_319 : decode cX0_act 319 = .ok (.iaload, 1) := dk_46 (dk_at dksX0_act_13 2 rfl rfl)
theorem dX0_act_320 : decode cX0_act 320 = .ok (.goto 10, 3) := dk_167 0 10 (dk_at dksX0_act_13 3 rfl rfl)
theorem dX0_act_323 : decode cX0_act 323 = .ok (.aload_n 0, 1) := dk_42 (dk_at dksX0_act_13 6 rfl rfl)
theorem dX0_act_324 : decode cX0_act 324 = .ok (.getfield 16, 3) := dk_180 0 16 (dk_at dksX0_act_13 7 rfl rfl)
theorem dX0_act_327 : decode cX0_act 327 = .ok (.iload 9, 2) := dk_21 9 (dk_at dksX0_act_13 10 rfl rfl)
theorem dX0_act_329 : decode cX0_act 329 = .ok (.iaload, 1) := dk_46 (dk_at dksX0_act_13 12 rfl rfl)
theorem dX0_act_330 : decode cX0_act 330 = .ok (.iastore, 1) := dk_79 (dk_at dksX0_act_13 13 rfl rfl)
theorem dX0_act_331 : decode cX0_act 331 = .ok (.aload_n 0, 1) := dk_42 (dk_at dksX0_act_13 14 rfl rfl)
theorem dX0_act_332 : decode cX0_act 332 = .ok (.getfield 22, 3) := dk_180 0 22 (dk_at dksX0_act_13 15 rfl rfl)
theorem dX0_act_335 : decode cX0_act 335 = .ok (.iload 7, 2) := dk_21 7 (dk_at dksX0_act_13 18 rfl rfl)
theorem dX0_act_337 : decode cX0_act 337 = .ok (.aload 10, 2) := dk_25 10 (dk_at dksX0_act_13 20 rfl rfl)
theorem dX0_act_339 : decode cX0_act 339 = .ok (.aastore, 1) := dk_83 (dk_at dksX0_act_13 22 rfl rfl)
theorem dX0_act_340 : decode cX0_act 340 = .ok (.iconst 1, 1) := dk_4 (dk_at dksX0_act_13 23 rfl rfl)
theorem dX0_act_341 : decode cX0_act 341 = .ok (.ireturn, 1) := dk_172 (dk_at dksX0_act_14 0 rfl rfl)
theorem dX0_act_342 : decode cX0_act 342 = .ok (.aload_n 0, 1) := dk_42 (dk_at dksX0_act_14 1 rfl rfl)
theorem dX0_act_343 : decode cX0_act 343 = .ok (.getfield 10, 3) := dk_180 0 10 (dk_at dksX0_act_14 2 rfl rfl)
theorem dX0_act_346 : decode cX0_act 346 = .ok (.iload_n 2, 1) := dk_28 (dk_at dksX0_act_14 5 rfl rfl)
theorem dX0_act_347 : decode cX0_act 347 = .ok (.iload_n 3, 1) := dk_29 (dk_at dksX0_act_14 6 rfl rfl)
theorem dX0_act_348 : decode cX0_act 348 = .ok (.invokevirtual 83, 3) := dk_182 0 83 (dk_at dksX0_act_14 7 rfl rfl)
theorem dX0_act_351 : decode cX0_act 351 = .ok (.iload 7, 2) := dk_21 7 (dk_at dksX0_act_14 10 rfl rfl)
theorem dX0_act_353 : decode cX0_act 353 = .ok (.iload 8, 2) := dk_21 8 (dk_at dksX0_act_14 12 rfl rfl)
theorem dX0_act_355 : decode cX0_act 355 = .ok (.if_icmp .eq 58, 3) := dk_159 0 58 (dk_at dksX0_act_14 14 rfl rfl)
theorem dX0_act_358 : decode cX0_act 358 = .ok (.aload_n 0, 1) := dk_42 (dk_at dksX0_act_14 17 rfl rfl)
theorem dX0_act_359 : decode cX0_act 359 = .ok (.getfield 16, 3) := dk_180 0 16 (dk_at dksX0_act_14 18 rfl rfl)
theorem dX0_act_362 : decode cX0_act 362 = .ok (.iload 8, 2) := dk_21 8 (dk_at dksX0_act_14 21 rfl rfl)
theorem dX0_act_364 : decode cX0_act 364 = .ok (.iaload, 1) := dk_46 (dk_at dksX0_act_14 23 rfl rfl)
theorem dX0_act_365 : decode cX0_act 365 = .ok (.aload_n 0, 1) := dk_42 (dk_at dksX0_act_15 0 rfl rfl)
theorem dX0_act_366 : decode cX0_act 366 = .ok (.getfield 16, 3) := dk_180 0 16 (dk_at dksX0_act_15 1 rfl rfl)
theorem dX0_act_369 : decode cX0_act 369 = .ok (.iload 7, 2) := dk_21 7 (dk_at dksX0_act_15 4 rfl rfl)
theorem dX0_act_371 : decode cX0_act 371 = .ok (.iaload, 1) := dk_46 (dk_at dksX0_act_15 6 rfl rfl)
theorem dX0_act_372 : decode cX0_act 372 = .ok (.if_icmp .lt 41, 3) := dk_161 0 41 (dk_at dksX0_act_15 7 rfl rfl)
theorem dX0_act_375 : decode cX0_act 375 = .ok (.aload_n 0, 1) := dk_42 (dk_at dksX0_act_15 10 rfl rfl)
theorem dX0_act_376 : decode cX0_act 376 = .ok (.getfield 22, 3) := dk_180 0 22 (dk_at dksX0_act_15 11 rfl rfl)
theorem dX0_act_379 : decode cX0_act 379 = .ok (.iload 7, 2) := dk_21 7 (dk_at dksX0_act_15 14 rfl rfl)
theorem dX0_act_381 : decode cX0_act 381 = .ok (.aload_n 0, 1) := dk_42 (dk_at dksX0_act_15 16 rfl rfl)
theorem dX0_act_382 : decode cX0_act 382 = .ok (.getfield 22, 3) := dk_180 0 22 (dk_at dksX0_act_15 17 rfl rfl)
theorem dX0_act_385 : decode cX0_act 385 = .ok (.iload 7, 2) := dk_21 7 (dk_at dksX0_act_15 20 rfl rfl)
theorem dX0_act_387 : decode cX0_act 387 = .ok (.aaload, 1) := dk_50 (dk_at dksX0_act_15 22 rfl rfl)
theorem dX0_act_388 : decode cX0_act 388 = .ok (.aload_n 0, 1) := dk_42 (dk_at dksX0_act_15 23 rfl rfl)
theorem dX0_act_389 : decode cX0_act 389 = .ok (.getfield 16, 3) := dk_180 0 16 (dk_at dksX0_act_16 0 rfl rfl)
theorem dX0_act_392 : decode cX0_act 392 = .ok (.iload 7, 2) := dk_21 7 (dk_at dksX0_act_16 3 rfl rfl)
theorem dX0_act_394 : decode cX0_act 394 = .ok (.iaload, 1) := dk_46 (dk_at dksX0_act_16 5 rfl rfl)
theorem dX0_act_395 : decode cX0_act 395 = .ok (.aload_n 0, 1) := dk_42 (dk_at dksX0_act_16 6 rfl rfl)
theorem dX0_act_396 : decode cX0_act 396 = .ok (.getfield 22, 3) := dk_180 0 22 (dk_at dksX0_act_16 7 rfl rfl)
theorem dX0_act_399 : decode cX0_act 399 = .ok (.iload 8, 2) := dk_21 8 (dk_at dksX0_act_16 10 rfl rfl)
theorem dX0_act_401 : decode cX0_act 401 = .ok (.aaload, 1) := dk_50 (dk_at dksX0_act_16 12 rfl rfl)
theorem dX0_act_402 : decode cX0_act 402 = .ok (.aload_n 0, 1) := dk_42 (dk_at dksX0_act_16 13 rfl rfl)
theorem dX0_act_403 : decode cX0_act 403 = .ok (.getfield 16, 3) := dk_180 0 16 (dk_at dksX0_act_16 14 rfl rfl)
theorem dX0_act_406 : decode cX0_act 406 = .ok (.iload 8, 2) := dk_21 8 (dk_at dksX0_act_16 17 rfl rfl)
theorem dX0_act_408 : decode cX0_act 408 = .ok (.iaload, 1) := dk_46 (dk_at dksX0_act_16 19 rfl rfl)
theorem dX0_act_409 : decode cX0_act 409 = .ok (.invokestatic 76, 3) := dk_184 0 76 (dk_at dksX0_act_16 20 rfl rfl)
theorem dX0_act_412 : decode cX0_act 412 = .ok (.aastore, 1) := dk_83 (dk_at dksX0_act_16 23 rfl rfl)
theorem dX0_act_413 : decode cX0_act 413 = .ok (.iconst 1, 1) := dk_4 (dk_at dksX0_act_17 0 rfl rfl)
theorem dX0_act_414 : decode cX0_act 414 = .ok (.ireturn, 1) := dk_172 (dk_at dksX0_act_17 1 rfl rfl)
theorem dX0_act_415 : decode cX0_act 415 = .ok (.iconst 3, 1) := dk_6 (dk_at dksX0_act_17 2 rfl rfl)
theorem dX0_act_416 : decode cX0_act 416 = .ok (.iload 4, 2) := dk_21 4 (dk_at dksX0_act_17 3 rfl rfl)
theorem dX0_act_418 : decode cX0_act 418 = .ok (.bipush 7, 2) := dk_16 7 (dk_at dksX0_act_17 5 rfl rfl)
theorem dX0_act_420 : decode cX0_act 420 = .ok (.iand, 1) := dk_126 (dk_at dksX0_act_17 7 rfl rfl)
theorem dX0_act_421 : decode cX0_act 421 = .ok (.iadd, 1) := dk_96 (dk_at dksX0_act_17 8 rfl rfl)
theorem dX0_act_422 : decode cX0_act 422 = .ok (.aload_n 0, 1) := dk_42 (dk_at dksX0_act_17 9 rfl rfl)
theorem dX0_act_423 : decode cX0_act 423 = .ok (.getfield 16, 3) := dk_180 0 16 (dk_at dksX0_act_17 10 rfl rfl)
theorem dX0_act_426 : decode cX0_act 426 = .ok (.iload 8, 2) := dk_21 8 (dk_at dksX0_act_17 13 rfl rfl)
theorem dX0_act_428 : decode cX0_act 428 = .ok (.iaload, 1) := dk_46 (dk_at dksX0_act_17 15 rfl rfl)
theorem dX0_act_429 : decode cX0_act 429 = .ok (.if_icmp .ge 13, 3) := dk_162 0 13 (dk_at dksX0_act_17 16 rfl rfl)
theorem dX0_act_432 : decode cX0_act 432 = .ok (.iconst 3, 1) := dk_6 (dk_at dksX0_act_17 19 rfl rfl)
theorem dX0_act_433 : decode cX0_act 433 = .ok (.iload 4, 2) := dk_21 4 (dk_at dksX0_act_17 20 rfl rfl)
theorem dX0_act_435 : decode cX0_act 435 = .ok (.bipush 7, 2) := dk_16 7 (dk_at dksX0_act_17 22 rfl rfl)
theorem dX0_act_437 : decode cX0_act 437 = .ok (.iand, 1) := dk_126 (dk_at dksX0_act_18 0 rfl rfl)
theorem dX0_act_438 : decode cX0_act 438 = .ok (.iadd, 1) := dk_96 (dk_at dksX0_act_18 1 rfl rfl)
theorem dX0_act_439 : decode cX0_act 439 = .ok (.goto 10, 3) := dk_167 0 10 (dk_at dksX0_act_18 2 rfl rfl)
theorem dX0_act_442 : decode cX0_act 442 = .ok (.aload_n 0, 1) := dk_42 (dk_at dksX0_act_18 5 rfl rfl)
theorem dX0_act_443 : decode cX0_act 443 = .ok (.getfield 16, 3) := dk_180 0 16 (dk_at dksX0_act_18 6 rfl rfl)
theorem dX0_act_446 : decode cX0_act 446 = .ok (.iload 8, 2) := dk_21 8 (dk_at dksX0_act_18 9 rfl rfl)
theorem dX0_act_448 : decode cX0_act 448 = .ok (.iaload, 1) := dk_46 (dk_at dksX0_act_18 11 rfl rfl)
theorem dX0_act_449 : decode cX0_act 449 = .ok (.istore 10, 2) := dk_54 10 (dk_at dksX0_act_18 12 rfl rfl)
theorem dX0_act_451 : decode cX0_act 451 = .ok (.aload_n 0, 1) := dk_42 (dk_at dksX0_act_18 14 rfl rfl)
theorem dX0_act_452 : decode cX0_act 452 = .ok (.getfield 22, 3) := dk_180 0 22 (dk_at dksX0_act_18 15 rfl rfl)
theorem dX0_act_455 : decode cX0_act 455 = .ok (.iload 8, 2) := dk_21 8 (dk_at dksX0_act_18 18 rfl rfl)
theorem dX0_act_457 : decode cX0_act 457 = .ok (.aaload, 1) := dk_50 (dk_at dksX0_act_18 20 rfl rfl)
theorem dX0_act_458 : decode cX0_act 458 = .ok (.aload_n 0, 1) := dk_42 (dk_at dksX0_act_18 21 rfl rfl)
theorem dX0_act_459 : decode cX0_act 459 = .ok (.getfield 16, 3) := dk_180 0 16 (dk_at dksX0_act_19 0 rfl rfl)
theorem dX0_act_462 : decode cX0_act 462 = .ok (.iload 8, 2) := dk_21 8 (dk_at dksX0_act_19 3 rfl rfl)
theorem dX0_act_464 : decode cX0_act 464 = .ok (.iaload, 1) := dk_46 (dk_at dksX0_act_19 5 rfl rfl)
theorem dX0_act_465 : decode cX0_act 465 = .ok (.iload 10, 2) := dk_21 10 (dk_at dksX0_act_19 6 rfl rfl)
theorem dX0_act_467 : decode cX0_act 467 = .ok (.invokestatic 33, 3) := dk_184 0 33 (dk_at dksX0_act_19 8 rfl rfl)
theorem dX0_act_470 : decode cX0_act 470 = .ok (.astore 11, 2) := dk_58 11 (dk_at dksX0_act_19 11 rfl rfl)
theorem dX0_act_472 : decode cX0_act 472 = .ok (.aload_n 0, 1) := dk_42 (dk_at dksX0_act_19 13 rfl rfl)
theorem dX0_act_473 : decode cX0_act 473 = .ok (.getfield 10, 3) := dk_180 0 10 (dk_at dksX0_act_19 14 rfl rfl)
theorem dX0_act_476 : decode cX0_act 476 = .ok (.iload_n 2, 1) := dk_28 (dk_at dksX0_act_19 17 rfl rfl)
theorem dX0_act_477 : decode cX0_act 477 = .ok (.iload_n 3, 1) := dk_29 (dk_at dksX0_act_19 18 rfl rfl)
theorem dX0_act_478 : decode cX0_act 478 = .ok (.iload 4, 2) := dk_21 4 (dk_at dksX0_act_19 19 rfl rfl)
theorem dX0_act_480 : decode cX0_act 480 = .ok (.invokevirtual 87, 3) := dk_182 0 87 (dk_at dksX0_act_19 21 rfl rfl)
theorem dX0_act_483 : decode cX0_act 483 = .ok (.iload 10, 2) := dk_21 10 (dk_at dksX0_act_20 0 rfl rfl)
theorem dX0_act_485 : decode cX0_act 485 = .ok (.if_icmp .eq 5, 3) := dk_159 0 5 (dk_at dksX0_act_20 2 rfl rfl)
theorem dX0_act_488 : decode cX0_act 488 = .ok (.iconst 0, 1) := dk_3 (dk_at dksX0_act_20 5 rfl rfl)
theorem dX0_act_489 : decode cX0_act 489 = .ok (.ireturn, 1) := dk_172 (dk_at dksX0_act_20 6 rfl rfl)
theorem dX0_act_490 : decode cX0_act 490 = .ok (.aload_n 0, 1) := dk_42 (dk_at dksX0_act_20 7 rfl rfl)
theorem dX0_act_491 : decode cX0_act 491 = .ok (.getfield 16, 3) := dk_180 0 16 (dk_at dksX0_act_20 8 rfl rfl)
theorem dX0_act_494 : decode cX0_act 494 = .ok (.iload 7, 2) := dk_21 7 (dk_at dksX0_act_20 11 rfl rfl)
theorem dX0_act_496 : decode cX0_act 496 = .ok (.iload 10, 2) := dk_21 10 (dk_at dksX0_act_20 13 rfl rfl)
theorem dX0_act_498 : decode cX0_act 498 = .ok (.iastore, 1) := dk_79 (dk_at dksX0_act_20 15 rfl rfl)
theorem dX0_act_499 : decode cX0_act 499 = .ok (.aload_n 0, 1) := dk_42 (dk_at dksX0_act_20 16 rfl rfl)
theorem dX0_act_500 : decode cX0_act 500 = .ok (.getfield 22, 3) := dk_180 0 22 (dk_at dksX0_act_20 17 rfl rfl)
theorem dX0_act_503 : decode cX0_act 503 = .ok (.iload 7, 2) := dk_21 7 (dk_at dksX0_act_20 20 rfl rfl)
theorem dX0_act_505 : decode cX0_act 505 = .ok (.aload 11, 2) := dk_25 11 (dk_at dksX0_act_20 22 rfl rfl)
theorem dX0_act_507 : decode cX0_act 507 = .ok (.aastore, 1) := dk_83 (dk_at dksX0_act_21 0 rfl rfl)
theorem dX0_act_508 : decode cX0_act 508 = .ok (.iconst 1, 1) := dk_4 (dk_at dksX0_act_21 1 rfl rfl)
theorem dX0_act_509 : decode cX0_act 509 = .ok (.ireturn, 1) := dk_172 (dk_at dksX0_act_21 2 rfl rfl)
theorem dX0_act_510 : decode cX0_act 510 = .ok (.aload_n 0, 1) := dk_42 (dk_at dksX0_act_21 3 rfl rfl)
theorem dX0_act_511 : decode cX0_act 511 = .ok (.getfield 10, 3) := dk_180 0 10 (dk_at dksX0_act_21 4 rfl rfl)
theorem dX0_act_514 : decode cX0_act 514 = .ok (.iload_n 2, 1) := dk_28 (dk_at dksX0_act_21 7 rfl rfl)
theorem dX0_act_515 : decode cX0_act 515 = .ok (.iload_n 3, 1) := dk_29 (dk_at dksX0_act_21 8 rfl rfl)
theorem dX0_act_516 : decode cX0_act 516 = .ok (.invokevirtual 90, 3) := dk_182 0 90 (dk_at dksX0_act_21 9 rfl rfl)
theorem dX0_act_519 : decode cX0_act 519 = .ok (.aload_n 0, 1) := dk_42 (dk_at dksX0_act_21 12 rfl rfl)
theorem dX0_act_520 : decode cX0_act 520 = .ok (.getfield 16, 3) := dk_180 0 16 (dk_at dksX0_act_21 13 rfl rfl)
theorem dX0_act_523 : decode cX0_act 523 = .ok (.iload 7, 2) := dk_21 7 (dk_at dksX0_act_21 16 rfl rfl)
theorem dX0_act_525 : decode cX0_act 525 = .ok (.iconst 3, 1) := dk_6 (dk_at dksX0_act_21 18 rfl rfl)
theorem dX0_act_526 : decode cX0_act 526 = .ok (.iload_n 3, 1) := dk_29 (dk_at dksX0_act_21 19 rfl rfl)
theorem dX0_act_527 : decode cX0_act 527 = .ok (.iconst 3, 1) := dk_6 (dk_at dksX0_act_21 20 rfl rfl)
theorem dX0_act_528 : decode cX0_act 528 = .ok (.iand, 1) := dk_126 (dk_at dksX0_act_21 21 rfl rfl)
theorem dX0_act_529 : decode cX0_act 529 = .ok (.iadd, 1) := dk_96 (dk_at dksX0_act_21 22 rfl rfl)
theorem dX0_act_530 : decode cX0_act 530 = .ok (.iastore, 1) := dk_79 (dk_at dksX0_act_21 23 rfl rfl)
theorem dX0_act_531 : decode cX0_act 531 = .ok (.aload_n 0, 1) := dk_42 (dk_at dksX0_act_22 0 rfl rfl)
theorem dX0_act_532 : decode cX0_act 532 = .ok (.getfield 22, 3) := dk_180 0 22 (dk_at dksX0_act_22 1 rfl rfl)
theorem dX0_act_535 : decode cX0_act 535 = .ok (.iload 7, 2) := dk_21 7 (dk_at dksX0_act_22 4 rfl rfl)
theorem dX0_act_537 : decode cX0_act 537 = .ok (.iconst 1, 1) := dk_4 (dk_at dksX0_act_22 6 rfl rfl)
theorem dX0_act_538 : decode cX0_act 538 = .ok (.aload_n 0, 1) := dk_42 (dk_at dksX0_act_22 7 rfl rfl)
theorem dX0_act_539 : decode cX0_act 539 = .ok (.getfield 16, 3) := dk_180 0 16 (dk_at dksX0_act_22 8 rfl rfl)
theorem dX0_act_542 : decode cX0_act 542 = .ok (.iload 7, 2) := dk_21 7 (dk_at dksX0_act_22 11 rfl rfl)
theorem dX0_act_544 : decode cX0_act 544 = .ok (.iaload, 1) := dk_46 (dk_at dksX0_act_22 13 rfl rfl)
theorem dX0_act_545 : decode cX0_act 545 = .ok (.ishl, 1) := dk_120 (dk_at dksX0_act_22 14 rfl rfl)
theorem dX0_act_546 : decode cX0_act 546 = .ok (.newarray .long, 2) := dk_188_11 (dk_at dksX0_act_22 15 rfl rfl)
theorem dX0_act_548 : decode cX0_act 548 = .ok (.aastore, 1) := dk_83 (dk_at dksX0_act_22 17 rfl rfl)
theorem dX0_act_549 : decode cX0_act 549 = .ok (.iconst 1, 1) := dk_4 (dk_at dksX0_act_22 18 rfl rfl)
theorem dX0_act_550 : decode cX0_act 550 = .ok (.ireturn, 1) := dk_172 (dk_at dksX0_act_22 19 rfl rfl)
theorem dX0_act_551 : decode cX0_act 551 = .ok (.aload_n 0, 1) := dk_42 (dk_at dksX0_act_22 20 rfl rfl)
theorem dX0_act_552 : decode cX0_act 552 = .ok (.getfield 10, 3) := dk_180 0 10 (dk_at dksX0_act_22 21 rfl rfl)
theorem dX0_act_555 : decode cX0_act 555 = .ok (.iload_n 2, 1) := dk_28 (dk_at dksX0_act_23 0 rfl rfl)
theorem dX0_act_556 : decode cX0_act 556 = .ok (.iload 5, 2) := dk_21 5 (dk_at dksX0_act_23 1 rfl rfl)
theorem dX0_act_558 : decode cX0_act 558 = .ok (.iload 6, 2) := dk_21 6 (dk_at dksX0_act_23 3 rfl rfl)
theorem dX0_act_560 : decode cX0_act 560 = .ok (.invokevirtual 93, 3) := dk_182 0 93 (dk_at dksX0_act_23 5 rfl rfl)
theorem dX0_act_563 : decode cX0_act 563 = .ok (.aload_n 0, 1) := dk_42 (dk_at dksX0_act_23 8 rfl rfl)
theorem dX0_act_564 : decode cX0_act 564 = .ok (.iload 7, 2) := dk_21 7 (dk_at dksX0_act_23 9 rfl rfl)
theorem dX0_act_566 : decode cX0_act 566 = .ok (.iload 5, 2) := dk_21 5 (dk_at dksX0_act_23 11 rfl rfl)
theorem dX0_act_568 : decode cX0_act 568 = .ok (.iload 6, 2) := dk_21 6 (dk_at dksX0_act_23 13 rfl rfl)
theorem dX0_act_570 : decode cX0_act 570 = .ok (.invokestatic 58, 3) := dk_184 0 58 (dk_at dksX0_act_23 15 rfl rfl)
theorem dX0_act_573 : decode cX0_act 573 = .ok (.invokevirtual 62, 3) := dk_182 0 62 (dk_at dksX0_act_23 18 rfl rfl)
theorem dX0_act_576 : decode cX0_act 576 = .ok (.iconst 1, 1) := dk_4 (dk_at dksX0_act_23 21 rfl rfl)
theorem dX0_act_577 : decode cX0_act 577 = .ok (.ireturn, 1) := dk_172 (dk_at dksX0_act_23 22 rfl rfl)
abbrev cX0_rest : ByteArray := method_3_code
def yX0_rest : MethodName := ⟨RX0, "rest", "(II)I"⟩
def dkwX0_rest_0 : List UInt8 := [26, 18, 26, 126, 27, 112, 172]
abbrev dktX0_rest_0 : List UInt8 := dkwX0_rest_0 ++ []
theorem dksX0_rest_0 : cX0_rest.data.toList.drop 0 = dktX0_rest_0 := by decide +kernel
theorem dX0_rest_0 : decode cX0_rest 0 = .ok (.iload_n 0, 1) := dk_26 (dk_at dksX0_rest_0 0 rfl rfl)
theorem dX0_rest_1 : decode cX0_rest 1 = .ok (.ldc 26, 2) := dk_18 26 (dk_at dksX0_rest_0 1 rfl rfl)
theorem dX0_rest_3 : decode cX0_rest 3 = .ok (.iand, 1) := dk_126 (dk_at dksX0_rest_0 3 rfl rfl)
theorem dX0_rest_4 : decode cX0_rest 4 = .ok (.iload_n 1, 1) := dk_27 (dk_at dksX0_rest_0 4 rfl rfl)
theorem dX0_rest_5 : decode cX0_rest 5 = .ok (.irem, 1) := dk_112 (dk_at dksX0_rest_0 5 rfl rfl)
theorem dX0_rest_6 : decode cX0_rest 6 = .ok (.ireturn, 1) := dk_172 (dk_at dksX0_rest_0 6 rfl rfl)
abbrev cX0_whole : ByteArray := method_4_code
def yX0_whole : MethodName := ⟨RX0, "whole", "(II)J"⟩
def dkwX0_whole_0 : List UInt8 := [26, 133, 16, 32, 121, 27, 133, 20, 0, 27, 127, 129, 173]
abbrev dktX0_whole_0 : List UInt8 := dkwX0_whole_0 ++ []
theorem dksX0_whole_0 : cX0_whole.data.toList.drop 0 = dktX0_whole_0 := by decide +kernel
theorem dX0_whole_0 : decode cX0_whole 0 = .ok (.iload_n 0, 1) := dk_26 (dk_at dksX0_whole_0 0 rfl rfl)
theorem dX0_whole_1 : decode cX0_whole 1 = .ok (.i2l, 1) := dk_133 (dk_at dksX0_whole_0 1 rfl rfl)
theorem dX0_whole_2 : decode cX0_whole 2 = .ok (.bipush 32, 2) := dk_16 32 (dk_at dksX0_whole_0 2 rfl rfl)
theorem dX0_whole_4 : decode cX0_whole 4 = .ok (.lshl, 1) := dk_121 (dk_at dksX0_whole_0 4 rfl rfl)
theorem dX0_whole_5 : decode cX0_whole 5 = .ok (.iload_n 1, 1) := dk_27 (dk_at dksX0_whole_0 5 rfl rfl)
theorem dX0_whole_6 : decode cX0_whole 6 = .ok (.i2l, 1) := dk_133 (dk_at dksX0_whole_0 6 rfl rfl)
theorem dX0_whole_7 : decode cX0_whole 7 = .ok (.ldc2_w 27, 3) := dk_20 0 27 (dk_at dksX0_whole_0 7 rfl rfl)
theorem dX0_whole_10 : decode cX0_whole 10 = .ok (.land, 1) := dk_127 (dk_at dksX0_whole_0 10 rfl rfl)
theorem dX0_whole_11 : decode cX0_whole 11 = .ok (.lor, 1) := dk_129 (dk_at dksX0_whole_0 11 rfl rfl)
theorem dX0_whole_12 : decode cX0_whole 12 = .ok (.lreturn, 1) := dk_173 (dk_at dksX0_whole_0 12 rfl rfl)
abbrev cX0_marks : ByteArray := method_6_code
def yX0_marks : MethodName := ⟨RX0, "marks", "(IJ)V"⟩
def dkwX0_marks_2 : List UInt8 := [129, 80, 177]
abbrev dktX0_marks_2 : List UInt8 := dkwX0_marks_2 ++ []
def dkwX0_marks_1 : List UInt8 := [10, 32, 16, 64, 42, 180, 0, 16, 27, 46, 100, 184, 0, 29, 42, 180, 0, 16, 27, 46, 96, 4, 100, 121]
abbrev dktX0_marks_1 : List UInt8 := dkwX0_marks_1 ++ dktX0_marks_2
def dkwX0_marks_0 : List UInt8 := [32, 16, 64, 42, 180, 0, 16, 27, 46, 100, 125, 136, 54, 4, 42, 180, 0, 22, 27, 50, 21, 4, 92, 47]
abbrev dktX0_marks_0 : List UInt8 := dkwX0_marks_0 ++ dktX0_marks_1
theorem dksX0_marks_0 : cX0_marks.data.toList.drop 0 = dktX0_marks_0 := by decide +kernel
theorem dksX0_marks_1 : cX0_marks.data.toList.drop 24 = dktX0_marks_1 := dk_seg dksX0_marks_0 24 rfl rfl
theorem dksX0_marks_2 : cX0_marks.data.toList.drop 48 = dktX0_marks_2 := dk_seg dksX0_marks_1 24 rfl rfl
theorem dX0_marks_0 : decode cX0_marks 0 = .ok (.lload_n 2, 1) := dk_32 (dk_at dksX0_marks_0 0 rfl rfl)
theorem dX0_marks_1 : decode cX0_marks 1 = .ok (.bipush 64, 2) := dk_16 64 (dk_at dksX0_marks_0 1 rfl rfl)
theorem dX0_marks_3 : decode cX0_marks 3 = .ok (.aload_n 0, 1) := dk_42 (dk_at dksX0_marks_0 3 rfl rfl)
theorem dX0_marks_4 : decode cX0_marks 4 = .ok (.getfield 16, 3) := dk_180 0 16 (dk_at dksX0_marks_0 4 rfl rfl)
theorem dX0_marks_7 : decode cX0_marks 7 = .ok (.iload_n 1, 1) := dk_27 (dk_at dksX0_marks_0 7 rfl rfl)
theorem dX0_marks_8 : decode cX0_marks 8 = .ok (.iaload, 1) := dk_46 (dk_at dksX0_marks_0 8 rfl rfl)
theorem dX0_marks_9 : decode cX0_marks 9 = .ok (.isub, 1) := dk_100 (dk_at dksX0_marks_0 9 rfl rfl)
theorem dX0_marks_10 : decode cX0_marks 10 = .ok (.lushr, 1) := dk_125 (dk_at dksX0_marks_0 10 rfl rfl)
theorem dX0_marks_11 : decode cX0_marks 11 = .ok (.l2i, 1) := dk_136 (dk_at dksX0_marks_0 11 rfl rfl)
theorem dX0_marks_12 : decode cX0_marks 12 = .ok (.istore 4, 2) := dk_54 4 (dk_at dksX0_marks_0 12 rfl rfl)
theorem dX0_marks_14 : decode cX0_marks 14 = .ok (.aload_n 0, 1) := dk_42 (dk_at dksX0_marks_0 14 rfl rfl)
theorem dX0_marks_15 : decode cX0_marks 15 = .ok (.getfield 22, 3) := dk_180 0 22 (dk_at dksX0_marks_0 15 rfl rfl)
theorem dX0_marks_18 : decode cX0_marks 18 = .ok (.iload_n 1, 1) := dk_27 (dk_at dksX0_marks_0 18 rfl rfl)
theorem dX0_marks_19 : decode cX0_marks 19 = .ok (.aaload, 1) := dk_50 (dk_at dksX0_marks_0 19 rfl rfl)
theorem dX0_marks_20 : decode cX0_marks 20 = .ok (.iload 4, 2) := dk_21 4 (dk_at dksX0_marks_0 20 rfl rfl)
theorem dX0_marks_22 : decode cX0_marks 22 = .ok (.dup2, 1) := dk_92 (dk_at dksX0_marks_0 22 rfl rfl)
theorem dX0_marks_23 : decode cX0_marks 23 = .ok (.laload, 1) := dk_47 (dk_at dksX0_marks_0 23 rfl rfl)
theorem dX0_marks_24 : decode cX0_marks 24 = .ok (.lconst 1, 1) := dk_10 (dk_at dksX0_marks_1 0 rfl rfl)
theorem dX0_marks_25 : decode cX0_marks 25 = .ok (.lload_n 2, 1) := dk_32 (dk_at dksX0_marks_1 1 rfl rfl)
theorem dX0_marks_26 : decode cX0_marks 26 = .ok (.bipush 64, 2) := dk_16 64 (dk_at dksX0_marks_1 2 rfl rfl)
theorem dX0_marks_28 : decode cX0_marks 28 = .ok (.aload_n 0, 1) := dk_42 (dk_at dksX0_marks_1 4 rfl rfl)
theorem dX0_marks_29 : decode cX0_marks 29 = .ok (.getfield 16, 3) := dk_180 0 16 (dk_at dksX0_marks_1 5 rfl rfl)
theorem dX0_marks_32 : decode cX0_marks 32 = .ok (.iload_n 1, 1) := dk_27 (dk_at dksX0_marks_1 8 rfl rfl)
theorem dX0_marks_33 : decode cX0_marks 33 = .ok (.iaload, 1) := dk_46 (dk_at dksX0_marks_1 9 rfl rfl)
theorem dX0_marks_34 : decode cX0_marks 34 = .ok (.isub, 1) := dk_100 (dk_at dksX0_marks_1 10 rfl rfl)
theorem dX0_marks_35 : decode cX0_marks 35 = .ok (.invokestatic 29, 3) := dk_184 0 29 (dk_at dksX0_marks_1 11 rfl rfl)
theorem dX0_marks_38 : decode cX0_marks 38 = .ok (.aload_n 0, 1) := dk_42 (dk_at dksX0_marks_1 14 rfl rfl)
theorem dX0_marks_39 : decode cX0_marks 39 = .ok (.getfield 16, 3) := dk_180 0 16 (dk_at dksX0_marks_1 15 rfl rfl)
theorem dX0_marks_42 : decode cX0_marks 42 = .ok (.iload_n 1, 1) := dk_27 (dk_at dksX0_marks_1 18 rfl rfl)
theorem dX0_marks_43 : decode cX0_marks 43 = .ok (.iaload, 1) := dk_46 (dk_at dksX0_marks_1 19 rfl rfl)
theorem dX0_marks_44 : decode cX0_marks 44 = .ok (.iadd, 1) := dk_96 (dk_at dksX0_marks_1 20 rfl rfl)
theorem dX0_marks_45 : decode cX0_marks 45 = .ok (.iconst 1, 1) := dk_4 (dk_at dksX0_marks_1 21 rfl rfl)
theorem dX0_marks_46 : decode cX0_marks 46 = .ok (.isub, 1) := dk_100 (dk_at dksX0_marks_1 22 rfl rfl)
theorem dX0_marks_47 : decode cX0_marks 47 = .ok (.lshl, 1) := dk_121 (dk_at dksX0_marks_1 23 rfl rfl)
theorem dX0_marks_48 : decode cX0_marks 48 = .ok (.lor, 1) := dk_129 (dk_at dksX0_marks_2 0 rfl rfl)
theorem dX0_marks_49 : decode cX0_marks 49 = .ok (.lastore, 1) := dk_80 (dk_at dksX0_marks_2 1 rfl rfl)
theorem dX0_marks_50 : decode cX0_marks 50 = .ok (.return_, 1) := dk_177 (dk_at dksX0_marks_2 2 rfl rfl)
abbrev cX0_noughts : ByteArray := method_5_code
def yX0_noughts : MethodName := ⟨RX0, "noughts", "(JI)I"⟩
def dkwX0_noughts_1 : List UInt8 := [167, 255, 234, 29, 172]
abbrev dktX0_noughts_1 : List UInt8 := dkwX0_noughts_1 ++ []
def dkwX0_noughts_0 : List UInt8 := [3, 62, 29, 28, 162, 0, 23, 30, 28, 4, 100, 29, 100, 125, 10, 127, 9, 148, 154, 0, 9, 132, 3, 1]
abbrev dktX0_noughts_0 : List UInt8 := dkwX0_noughts_0 ++ dktX0_noughts_1
theorem dksX0_noughts_0 : cX0_noughts.data.toList.drop 0 = dktX0_noughts_0 := by decide +kernel
theorem dksX0_noughts_1 : cX0_noughts.data.toList.drop 24 = dktX0_noughts_1 := dk_seg dksX0_noughts_0 24 rfl rfl
theorem dX0_noughts_0 : decode cX0_noughts 0 = .ok (.iconst 0, 1) := dk_3 (dk_at dksX0_noughts_0 0 rfl rfl)
theorem dX0_noughts_1 : decode cX0_noughts 1 = .ok (.istore_n 3, 1) := dk_62 (dk_at dksX0_noughts_0 1 rfl rfl)
theorem dX0_noughts_2 : decode cX0_noughts 2 = .ok (.iload_n 3, 1) := dk_29 (dk_at dksX0_noughts_0 2 rfl rfl)
theorem dX0_noughts_3 : decode cX0_noughts 3 = .ok (.iload_n 2, 1) := dk_28 (dk_at dksX0_noughts_0 3 rfl rfl)
theorem dX0_noughts_4 : decode cX0_noughts 4 = .ok (.if_icmp .ge 23, 3) := dk_162 0 23 (dk_at dksX0_noughts_0 4 rfl rfl)
theorem dX0_noughts_7 : decode cX0_noughts 7 = .ok (.lload_n 0, 1) := dk_30 (dk_at dksX0_noughts_0 7 rfl rfl)
theorem dX0_noughts_8 : decode cX0_noughts 8 = .ok (.iload_n 2, 1) := dk_28 (dk_at dksX0_noughts_0 8 rfl rfl)
theorem dX0_noughts_9 : decode cX0_noughts 9 = .ok (.iconst 1, 1) := dk_4 (dk_at dksX0_noughts_0 9 rfl rfl)
theorem dX0_noughts_10 : decode cX0_noughts 10 = .ok (.isub, 1) := dk_100 (dk_at dksX0_noughts_0 10 rfl rfl)
theorem dX0_noughts_11 : decode cX0_noughts 11 = .ok (.iload_n 3, 1) := dk_29 (dk_at dksX0_noughts_0 11 rfl rfl)
theorem dX0_noughts_12 : decode cX0_noughts 12 = .ok (.isub, 1) := dk_100 (dk_at dksX0_noughts_0 12 rfl rfl)
theorem dX0_noughts_13 : decode cX0_noughts 13 = .ok (.lushr, 1) := dk_125 (dk_at dksX0_noughts_0 13 rfl rfl)
theorem dX0_noughts_14 : decode cX0_noughts 14 = .ok (.lconst 1, 1) := dk_10 (dk_at dksX0_noughts_0 14 rfl rfl)
theorem dX0_noughts_15 : decode cX0_noughts 15 = .ok (.land, 1) := dk_127 (dk_at dksX0_noughts_0 15 rfl rfl)
theorem dX0_noughts_16 : decode cX0_noughts 16 = .ok (.lconst 0, 1) := dk_9 (dk_at dksX0_noughts_0 16 rfl rfl)
theorem dX0_noughts_17 : decode cX0_noughts 17 = .ok (.lcmp, 1) := dk_148 (dk_at dksX0_noughts_0 17 rfl rfl)
theorem dX0_noughts_18 : decode cX0_noughts 18 = .ok (.ifCond .ne 9, 3) := dk_154 0 9 (dk_at dksX0_noughts_0 18 rfl rfl)
theorem dX0_noughts_21 : decode cX0_noughts 21 = .ok (.iinc 3 1, 3) := dk_132 3 1 (dk_at dksX0_noughts_0 21 rfl rfl)
theorem dX0_noughts_24 : decode cX0_noughts 24 = .ok (.goto (-22), 3) := dk_167 255 234 (dk_at dksX0_noughts_1 0 rfl rfl)
theorem dX0_noughts_27 : decode cX0_noughts 27 = .ok (.iload_n 3, 1) := dk_29 (dk_at dksX0_noughts_1 3 rfl rfl)
theorem dX0_noughts_28 : decode cX0_noughts 28 = .ok (.ireturn, 1) := dk_172 (dk_at dksX0_noughts_1 4 rfl rfl)
abbrev cX0_both : ByteArray := method_8_code
def yX0_both : MethodName := ⟨RX0, "both", "([JI[JI)[J"⟩
def dkwX0_both_2 : List UInt8 := [25, 6, 21, 7, 47, 129, 80, 132, 7, 1, 167, 255, 232, 25, 5, 176]
abbrev dktX0_both_2 : List UInt8 := dkwX0_both_2 ++ []
def dkwX0_both_1 : List UInt8 := [21, 4, 184, 0, 33, 58, 6, 3, 54, 7, 21, 7, 25, 5, 190, 162, 0, 22, 25, 5, 21, 7, 92, 47]
abbrev dktX0_both_1 : List UInt8 := dkwX0_both_1 ++ dktX0_both_2
def dkwX0_both_0 : List UInt8 := [27, 29, 162, 0, 7, 27, 167, 0, 4, 29, 54, 4, 42, 27, 21, 4, 184, 0, 33, 58, 5, 44, 29]
abbrev dktX0_both_0 : List UInt8 := dkwX0_both_0 ++ dktX0_both_1
theorem dksX0_both_0 : cX0_both.data.toList.drop 0 = dktX0_both_0 := by decide +kernel
theorem dksX0_both_1 : cX0_both.data.toList.drop 23 = dktX0_both_1 := dk_seg dksX0_both_0 23 rfl rfl
theorem dksX0_both_2 : cX0_both.data.toList.drop 47 = dktX0_both_2 := dk_seg dksX0_both_1 24 rfl rfl
theorem dX0_both_0 : decode cX0_both 0 = .ok (.iload_n 1, 1) := dk_27 (dk_at dksX0_both_0 0 rfl rfl)
theorem dX0_both_1 : decode cX0_both 1 = .ok (.iload_n 3, 1) := dk_29 (dk_at dksX0_both_0 1 rfl rfl)
theorem dX0_both_2 : decode cX0_both 2 = .ok (.if_icmp .ge 7, 3) := dk_162 0 7 (dk_at dksX0_both_0 2 rfl rfl)
theorem dX0_both_5 : decode cX0_both 5 = .ok (.iload_n 1, 1) := dk_27 (dk_at dksX0_both_0 5 rfl rfl)
theorem dX0_both_6 : decode cX0_both 6 = .ok (.goto 4, 3) := dk_167 0 4 (dk_at dksX0_both_0 6 rfl rfl)
theorem dX0_both_9 : decode cX0_both 9 = .ok (.iload_n 3, 1) := dk_29 (dk_at dksX0_both_0 9 rfl rfl)
theorem dX0_both_10 : decode cX0_both 10 = .ok (.istore 4, 2) := dk_54 4 (dk_at dksX0_both_0 10 rfl rfl)
theorem dX0_both_12 : decode cX0_both 12 = .ok (.aload_n 0, 1) := dk_42 (dk_at dksX0_both_0 12 rfl rfl)
theorem dX0_both_13 : decode cX0_both 13 = .ok (.iload_n 1, 1) := dk_27 (dk_at dksX0_both_0 13 rfl rfl)
theorem dX0_both_14 : decode cX0_both 14 = .ok (.iload 4, 2) := dk_21 4 (dk_at dksX0_both_0 14 rfl rfl)
theorem dX0_both_16 : decode cX0_both 16 = .ok (.invokestatic 33, 3) := dk_184 0 33 (dk_at dksX0_both_0 16 rfl rfl)
theorem dX0_both_19 : decode cX0_both 19 = .ok (.astore 5, 2) := dk_58 5 (dk_at dksX0_both_0 19 rfl rfl)
theorem dX0_both_21 : decode cX0_both 21 = .ok (.aload_n 2, 1) := dk_44 (dk_at dksX0_both_0 21 rfl rfl)
theorem dX0_both_22 : decode cX0_both 22 = .ok (.iload_n 3, 1) := dk_29 (dk_at dksX0_both_0 22 rfl rfl)
theorem dX0_both_23 : decode cX0_both 23 = .ok (.iload 4, 2) := dk_21 4 (dk_at dksX0_both_1 0 rfl rfl)
theorem dX0_both_25 : decode cX0_both 25 = .ok (.invokestatic 33, 3) := dk_184 0 33 (dk_at dksX0_both_1 2 rfl rfl)
theorem dX0_both_28 : decode cX0_both 28 = .ok (.astore 6, 2) := dk_58 6 (dk_at dksX0_both_1 5 rfl rfl)
theorem dX0_both_30 : decode cX0_both 30 = .ok (.iconst 0, 1) := dk_3 (dk_at dksX0_both_1 7 rfl rfl)
theorem dX0_both_31 : decode cX0_both 31 = .ok (.istore 7, 2) := dk_54 7 (dk_at dksX0_both_1 8 rfl rfl)
theorem dX0_both_33 : decode cX0_both 33 = .ok (.iload 7, 2) := dk_21 7 (dk_at dksX0_both_1 10 rfl rfl)
theorem dX0_both_35 : decode cX0_both 35 = .ok (.aload 5, 2) := dk_25 5 (dk_at dksX0_both_1 12 rfl rfl)
theorem dX0_both_37 : decode cX0_both 37 = .ok (.arraylength, 1) := dk_190 (dk_at dksX0_both_1 14 rfl rfl)
theorem dX0_both_38 : decode cX0_both 38 = .ok (.if_icmp .ge 22, 3) := dk_162 0 22 (dk_at dksX0_both_1 15 rfl rfl)
theorem dX0_both_41 : decode cX0_both 41 = .ok (.aload 5, 2) := dk_25 5 (dk_at dksX0_both_1 18 rfl rfl)
theorem dX0_both_43 : decode cX0_both 43 = .ok (.iload 7, 2) := dk_21 7 (dk_at dksX0_both_1 20 rfl rfl)
theorem dX0_both_45 : decode cX0_both 45 = .ok (.dup2, 1) := dk_92 (dk_at dksX0_both_1 22 rfl rfl)
theorem dX0_both_46 : decode cX0_both 46 = .ok (.laload, 1) := dk_47 (dk_at dksX0_both_1 23 rfl rfl)
theorem dX0_both_47 : decode cX0_both 47 = .ok (.aload 6, 2) := dk_25 6 (dk_at dksX0_both_2 0 rfl rfl)
theorem dX0_both_49 : decode cX0_both 49 = .ok (.iload 7, 2) := dk_21 7 (dk_at dksX0_both_2 2 rfl rfl)
theorem dX0_both_51 : decode cX0_both 51 = .ok (.laload, 1) := dk_47 (dk_at dksX0_both_2 4 rfl rfl)
theorem dX0_both_52 : decode cX0_both 52 = .ok (.lor, 1) := dk_129 (dk_at dksX0_both_2 5 rfl rfl)
theorem dX0_both_53 : decode cX0_both 53 = .ok (.lastore, 1) := dk_80 (dk_at dksX0_both_2 6 rfl rfl)
theorem dX0_both_54 : decode cX0_both 54 = .ok (.iinc 7 1, 3) := dk_132 7 1 (dk_at dksX0_both_2 7 rfl rfl)
theorem dX0_both_57 : decode cX0_both 57 = .ok (.goto (-24), 3) := dk_167 255 232 (dk_at dksX0_both_2 10 rfl rfl)
theorem dX0_both_60 : decode cX0_both 60 = .ok (.aload 5, 2) := dk_25 5 (dk_at dksX0_both_2 13 rfl rfl)
theorem dX0_both_62 : decode cX0_both 62 = .ok (.areturn, 1) := dk_176 (dk_at dksX0_both_2 15 rfl rfl)
abbrev cX0_smaller : ByteArray := method_7_code
def yX0_smaller : MethodName := ⟨RX0, "smaller", "([JII)[J"⟩
def dkwX0_smaller_3 : List UInt8 := [21, 4, 184, 0, 29, 28, 96, 4, 100, 121, 129, 80, 132, 5, 1, 167, 255, 186, 45, 176]
abbrev dktX0_smaller_3 : List UInt8 := dkwX0_smaller_3 ++ []
def dkwX0_smaller_2 : List UInt8 := [154, 0, 7, 9, 167, 0, 29, 21, 6, 154, 0, 10, 42, 21, 5, 47, 167, 0, 17, 10, 21, 6, 133]
abbrev dktX0_smaller_2 : List UInt8 := dkwX0_smaller_2 ++ dktX0_smaller_3
def dkwX0_smaller_1 : List UInt8 := [21, 4, 120, 4, 100, 126, 54, 6, 45, 21, 5, 21, 4, 122, 92, 47, 42, 21, 5, 47, 9, 148]
abbrev dktX0_smaller_1 : List UInt8 := dkwX0_smaller_1 ++ dktX0_smaller_2
def dkwX0_smaller_0 : List UInt8 := [4, 28, 120, 188, 11, 78, 27, 28, 100, 54, 4, 3, 54, 5, 21, 5, 42, 190, 162, 0, 69, 21, 5, 4]
abbrev dktX0_smaller_0 : List UInt8 := dkwX0_smaller_0 ++ dktX0_smaller_1
theorem dksX0_smaller_0 : cX0_smaller.data.toList.drop 0 = dktX0_smaller_0 := by decide +kernel
theorem dksX0_smaller_1 : cX0_smaller.data.toList.drop 24 = dktX0_smaller_1 := dk_seg dksX0_smaller_0 24 rfl rfl
theorem dksX0_smaller_2 : cX0_smaller.data.toList.drop 46 = dktX0_smaller_2 := dk_seg dksX0_smaller_1 22 rfl rfl
theorem dksX0_smaller_3 : cX0_smaller.data.toList.drop 69 = dktX0_smaller_3 := dk_seg dksX0_smaller_2 23 rfl rfl
theorem dX0_smaller_0 : decode cX0_smaller 0 = .ok (.iconst 1, 1) := dk_4 (dk_at dksX0_smaller_0 0 rfl rfl)
theorem dX0_smaller_1 : decode cX0_smaller 1 = .ok (.iload_n 2, 1) := dk_28 (dk_at dksX0_smaller_0 1 rfl rfl)
theorem dX0_smaller_2 : decode cX0_smaller 2 = .ok (.ishl, 1) := dk_120 (dk_at dksX0_smaller_0 2 rfl rfl)
theorem dX0_smaller_3 : decode cX0_smaller 3 = .ok (.newarray .long, 2) := dk_188_11 (dk_at dksX0_smaller_0 3 rfl rfl)
theorem dX0_smaller_5 : decode cX0_smaller 5 = .ok (.astore_n 3, 1) := dk_78 (dk_at dksX0_smaller_0 5 rfl rfl)
theorem dX0_smaller_6 : decode cX0_smaller 6 = .ok (.iload_n 1, 1) := dk_27 (dk_at dksX0_smaller_0 6 rfl rfl)
theorem dX0_smaller_7 : decode cX0_smaller 7 = .ok (.iload_n 2, 1) := dk_28 (dk_at dksX0_smaller_0 7 rfl rfl)
theorem dX0_smaller_8 : decode cX0_smaller 8 = .ok (.isub, 1) := dk_100 (dk_at dksX0_smaller_0 8 rfl rfl)
theorem dX0_smaller_9 : decode cX0_smaller 9 = .ok (.istore 4, 2) := dk_54 4 (dk_at dksX0_smaller_0 9 rfl rfl)
theorem dX0_smaller_11 : decode cX0_smaller 11 = .ok (.iconst 0, 1) := dk_3 (dk_at dksX0_smaller_0 11 rfl rfl)
theorem dX0_smaller_12 : decode cX0_smaller 12 = .ok (.istore 5, 2) := dk_54 5 (dk_at dksX0_smaller_0 12 rfl rfl)
theorem dX0_smaller_14 : decode cX0_smaller 14 = .ok (.iload 5, 2) := dk_21 5 (dk_at dksX0_smaller_0 14 rfl rfl)
theorem dX0_smaller_16 : decode cX0_smaller 16 = .ok (.aload_n 0, 1) := dk_42 (dk_at dksX0_smaller_0 16 rfl rfl)
theorem dX0_smaller_17 : decode cX0_smaller 17 = .ok (.arraylength, 1) := dk_190 (dk_at dksX0_smaller_0 17 rfl rfl)
theorem dX0_smaller_18 : decode cX0_smaller 18 = .ok (.if_icmp .ge 69, 3) := dk_162 0 69 (dk_at dksX0_smaller_0 18 rfl rfl)
theorem dX0_smaller_21 : decode cX0_smaller 21 = .ok (.iload 5, 2) := dk_21 5 (dk_at dksX0_smaller_0 21 rfl rfl)
theorem dX0_smaller_23 : decode cX0_smaller 23 = .ok (.iconst 1, 1) := dk_4 (dk_at dksX0_smaller_0 23 rfl rfl)
theorem dX0_smaller_24 : decode cX0_smaller 24 = .ok (.iload 4, 2) := dk_21 4 (dk_at dksX0_smaller_1 0 rfl rfl)
theorem dX0_smaller_26 : decode cX0_smaller 26 = .ok (.ishl, 1) := dk_120 (dk_at dksX0_smaller_1 2 rfl rfl)
theorem dX0_smaller_27 : decode cX0_smaller 27 = .ok (.iconst 1, 1) := dk_4 (dk_at dksX0_smaller_1 3 rfl rfl)
theorem dX0_smaller_28 : decode cX0_smaller 28 = .ok (.isub, 1) := dk_100 (dk_at dksX0_smaller_1 4 rfl rfl)
theorem dX0_smaller_29 : decode cX0_smaller 29 = .ok (.iand, 1) := dk_126 (dk_at dksX0_smaller_1 5 rfl rfl)
theorem dX0_smaller_30 : decode cX0_smaller 30 = .ok (.istore 6, 2) := dk_54 6 (dk_at dksX0_smaller_1 6 rfl rfl)
theorem dX0_smaller_32 : decode cX0_smaller 32 = .ok (.aload_n 3, 1) := dk_45 (dk_at dksX0_smaller_1 8 rfl rfl)
theorem dX0_smaller_33 : decode cX0_smaller 33 = .ok (.iload 5, 2) := dk_21 5 (dk_at dksX0_smaller_1 9 rfl rfl)
theorem dX0_smaller_35 : decode cX0_smaller 35 = .ok (.iload 4, 2) := dk_21 4 (dk_at dksX0_smaller_1 11 rfl rfl)
theorem dX0_smaller_37 : decode cX0_smaller 37 = .ok (.ishr, 1) := dk_122 (dk_at dksX0_smaller_1 13 rfl rfl)
theorem dX0_smaller_38 : decode cX0_smaller 38 = .ok (.dup2, 1) := dk_92 (dk_at dksX0_smaller_1 14 rfl rfl)
theorem dX0_smaller_39 : decode cX0_smaller 39 = .ok (.laload, 1) := dk_47 (dk_at dksX0_smaller_1 15 rfl rfl)
theorem dX0_smaller_40 : decode cX0_smaller 40 = .ok (.aload_n 0, 1) := dk_42 (dk_at dksX0_smaller_1 16 rfl rfl)
theorem dX0_smaller_41 : decode cX0_smaller 41 = .ok (.iload 5, 2) := dk_21 5 (dk_at dksX0_smaller_1 17 rfl rfl)
theorem dX0_smaller_43 : decode cX0_smaller 43 = .ok (.laload, 1) := dk_47 (dk_at dksX0_smaller_1 19 rfl rfl)
theorem dX0_smaller_44 : decode cX0_smaller 44 = .ok (.lconst 0, 1) := dk_9 (dk_at dksX0_smaller_1 20 rfl rfl)
theorem dX0_smaller_45 : decode cX0_smaller 45 = .ok (.lcmp, 1) := dk_148 (dk_at dksX0_smaller_1 21 rfl rfl)
theorem dX0_smaller_46 : decode cX0_smaller 46 = .ok (.ifCond .ne 7, 3) := dk_154 0 7 (dk_at dksX0_smaller_2 0 rfl rfl)
theorem dX0_smaller_49 : decode cX0_smaller 49 = .ok (.lconst 0, 1) := dk_9 (dk_at dksX0_smaller_2 3 rfl rfl)
theorem dX0_smaller_50 : decode cX0_smaller 50 = .ok (.goto 29, 3) := dk_167 0 29 (dk_at dksX0_smaller_2 4 rfl rfl)
theorem dX0_smaller_53 : decode cX0_smaller 53 = .ok (.iload 6, 2) := dk_21 6 (dk_at dksX0_smaller_2 7 rfl rfl)
theorem dX0_smaller_55 : decode cX0_smaller 55 = .ok (.ifCond .ne 10, 3) := dk_154 0 10 (dk_at dksX0_smaller_2 9 rfl rfl)
theorem dX0_smaller_58 : decode cX0_smaller 58 = .ok (.aload_n 0, 1) := dk_42 (dk_at dksX0_smaller_2 12 rfl rfl)
theorem dX0_smaller_59 : decode cX0_smaller 59 = .ok (.iload 5, 2) := dk_21 5 (dk_at dksX0_smaller_2 13 rfl rfl)
theorem dX0_smaller_61 : decode cX0_smaller 61 = .ok (.laload, 1) := dk_47 (dk_at dksX0_smaller_2 15 rfl rfl)
theorem dX0_smaller_62 : decode cX0_smaller 62 = .ok (.goto 17, 3) := dk_167 0 17 (dk_at dksX0_smaller_2 16 rfl rfl)
theorem dX0_smaller_65 : decode cX0_smaller 65 = .ok (.lconst 1, 1) := dk_10 (dk_at dksX0_smaller_2 19 rfl rfl)
theorem dX0_smaller_66 : decode cX0_smaller 66 = .ok (.iload 6, 2) := dk_21 6 (dk_at dksX0_smaller_2 20 rfl rfl)
theorem dX0_smaller_68 : decode cX0_smaller 68 = .ok (.i2l, 1) := dk_133 (dk_at dksX0_smaller_2 22 rfl rfl)
theorem dX0_smaller_69 : decode cX0_smaller 69 = .ok (.iload 4, 2) := dk_21 4 (dk_at dksX0_smaller_3 0 rfl rfl)
theorem dX0_smaller_71 : decode cX0_smaller 71 = .ok (.invokestatic 29, 3) := dk_184 0 29 (dk_at dksX0_smaller_3 2 rfl rfl)
theorem dX0_smaller_74 : decode cX0_smaller 74 = .ok (.iload_n 2, 1) := dk_28 (dk_at dksX0_smaller_3 5 rfl rfl)
theorem dX0_smaller_75 : decode cX0_smaller 75 = .ok (.iadd, 1) := dk_96 (dk_at dksX0_smaller_3 6 rfl rfl)
theorem dX0_smaller_76 : decode cX0_smaller 76 = .ok (.iconst 1, 1) := dk_4 (dk_at dksX0_smaller_3 7 rfl rfl)
theorem dX0_smaller_77 : decode cX0_smaller 77 = .ok (.isub, 1) := dk_100 (dk_at dksX0_smaller_3 8 rfl rfl)
theorem dX0_smaller_78 : decode cX0_smaller 78 = .ok (.lshl, 1) := dk_121 (dk_at dksX0_smaller_3 9 rfl rfl)
theorem dX0_smaller_79 : decode cX0_smaller 79 = .ok (.lor, 1) := dk_129 (dk_at dksX0_smaller_3 10 rfl rfl)
theorem dX0_smaller_80 : decode cX0_smaller 80 = .ok (.lastore, 1) := dk_80 (dk_at dksX0_smaller_3 11 rfl rfl)
theorem dX0_smaller_81 : decode cX0_smaller 81 = .ok (.iinc 5 1, 3) := dk_132 5 1 (dk_at dksX0_smaller_3 12 rfl rfl)
theorem dX0_smaller_84 : decode cX0_smaller 84 = .ok (.goto (-70), 3) := dk_167 255 186 (dk_at dksX0_smaller_3 15 rfl rfl)
theorem dX0_smaller_87 : decode cX0_smaller 87 = .ok (.aload_n 3, 1) := dk_45 (dk_at dksX0_smaller_3 18 rfl rfl)
theorem dX0_smaller_88 : decode cX0_smaller 88 = .ok (.areturn, 1) := dk_176 (dk_at dksX0_smaller_3 19 rfl rfl)
abbrev cX0_isToken : ByteArray := method_12_code
def yX0_isToken : MethodName := ⟨RX0, "isToken", "(II)Z"⟩
def dkwX0_isToken_1 : List UInt8 := [16, 38, 184, 0, 29, 133, 97, 136, 160, 0, 7, 4, 167, 0, 4, 3, 172]
abbrev dktX0_isToken_1 : List UInt8 := dkwX0_isToken_1 ++ []
def dkwX0_isToken_0 : List UInt8 := [27, 28, 184, 0, 58, 66, 42, 180, 0, 10, 27, 28, 182, 0, 96, 33, 16, 38, 125, 20, 0, 99, 105, 33]
abbrev dktX0_isToken_0 : List UInt8 := dkwX0_isToken_0 ++ dktX0_isToken_1
theorem dksX0_isToken_0 : cX0_isToken.data.toList.drop 0 = dktX0_isToken_0 := by decide +kernel
theorem dksX0_isToken_1 : cX0_isToken.data.toList.drop 24 = dktX0_isToken_1 := dk_seg dksX0_isToken_0 24 rfl rfl
theorem dX0_isToken_0 : decode cX0_isToken 0 = .ok (.iload_n 1, 1) := dk_27 (dk_at dksX0_isToken_0 0 rfl rfl)
theorem dX0_isToken_1 : decode cX0_isToken 1 = .ok (.iload_n 2, 1) := dk_28 (dk_at dksX0_isToken_0 1 rfl rfl)
theorem dX0_isToken_2 : decode cX0_isToken 2 = .ok (.invokestatic 58, 3) := dk_184 0 58 (dk_at dksX0_isToken_0 2 rfl rfl)
theorem dX0_isToken_5 : decode cX0_isToken 5 = .ok (.lstore_n 3, 1) := dk_66 (dk_at dksX0_isToken_0 5 rfl rfl)
theorem dX0_isToken_6 : decode cX0_isToken 6 = .ok (.aload_n 0, 1) := dk_42 (dk_at dksX0_isToken_0 6 rfl rfl)
theorem dX0_isToken_7 : decode cX0_isToken 7 = .ok (.getfield 10, 3) := dk_180 0 10 (dk_at dksX0_isToken_0 7 rfl rfl)
theorem dX0_isToken_10 : decode cX0_isToken 10 = .ok (.iload_n 1, 1) := dk_27 (dk_at dksX0_isToken_0 10 rfl rfl)
theorem dX0_isToken_11 : decode cX0_isToken 11 = .ok (.iload_n 2, 1) := dk_28 (dk_at dksX0_isToken_0 11 rfl rfl)
theorem dX0_isToken_12 : decode cX0_isToken 12 = .ok (.invokevirtual 96, 3) := dk_182 0 96 (dk_at dksX0_isToken_0 12 rfl rfl)
theorem dX0_isToken_15 : decode cX0_isToken 15 = .ok (.lload_n 3, 1) := dk_33 (dk_at dksX0_isToken_0 15 rfl rfl)
theorem dX0_isToken_16 : decode cX0_isToken 16 = .ok (.bipush 38, 2) := dk_16 38 (dk_at dksX0_isToken_0 16 rfl rfl)
theorem dX0_isToken_18 : decode cX0_isToken 18 = .ok (.lushr, 1) := dk_125 (dk_at dksX0_isToken_0 18 rfl rfl)
theorem dX0_isToken_19 : decode cX0_isToken 19 = .ok (.ldc2_w 99, 3) := dk_20 0 99 (dk_at dksX0_isToken_0 19 rfl rfl)
theorem dX0_isToken_22 : decode cX0_isToken 22 = .ok (.lmul, 1) := dk_105 (dk_at dksX0_isToken_0 22 rfl rfl)
theorem dX0_isToken_23 : decode cX0_isToken 23 = .ok (.lload_n 3, 1) := dk_33 (dk_at dksX0_isToken_0 23 rfl rfl)
theorem dX0_isToken_24 : decode cX0_isToken 24 = .ok (.bipush 38, 2) := dk_16 38 (dk_at dksX0_isToken_1 0 rfl rfl)
theorem dX0_isToken_26 : decode cX0_isToken 26 = .ok (.invokestatic 29, 3) := dk_184 0 29 (dk_at dksX0_isToken_1 2 rfl rfl)
theorem dX0_isToken_29 : decode cX0_isToken 29 = .ok (.i2l, 1) := dk_133 (dk_at dksX0_isToken_1 5 rfl rfl)
theorem dX0_isToken_30 : decode cX0_isToken 30 = .ok (.ladd, 1) := dk_97 (dk_at dksX0_isToken_1 6 rfl rfl)
theorem dX0_isToken_31 : decode cX0_isToken 31 = .ok (.l2i, 1) := dk_136 (dk_at dksX0_isToken_1 7 rfl rfl)
theorem dX0_isToken_32 : decode cX0_isToken 32 = .ok (.if_icmp .ne 7, 3) := dk_160 0 7 (dk_at dksX0_isToken_1 8 rfl rfl)
theorem dX0_isToken_35 : decode cX0_isToken 35 = .ok (.iconst 1, 1) := dk_4 (dk_at dksX0_isToken_1 11 rfl rfl)
theorem dX0_isToken_36 : decode cX0_isToken 36 = .ok (.goto 4, 3) := dk_167 0 4 (dk_at dksX0_isToken_1 12 rfl rfl)
theorem dX0_isToken_39 : decode cX0_isToken 39 = .ok (.iconst 0, 1) := dk_3 (dk_at dksX0_isToken_1 15 rfl rfl)
theorem dX0_isToken_40 : decode cX0_isToken 40 = .ok (.ireturn, 1) := dk_172 (dk_at dksX0_isToken_1 16 rfl rfl)
theorem q6 : (Jvm.Cond.initialized "UltraSketchDeskLaw") ∈ lw_all := lw_g (lw_at lw_m1 0 rfl) rfl
theorem q21 : (Jvm.Cond.classLink "UltraSketchDeskLaw" (11 : Nat) "UltraSketchDeskLaw") ∈ lw_all := lw_g (lw_at lw_m1 15 rfl) rfl
theorem q22 : (Jvm.Cond.instantiable "UltraSketchDeskLaw" (3 : Nat)) ∈ lw_all := lw_g (lw_at lw_m1 16 rfl) rfl
theorem q23 : (Jvm.Cond.methodLink "UltraSketchDeskLaw" (117 : Nat) ({ cls := "UltraSketchDeskLaw", name := "<init>", desc := "()V" } : Jvm.MethodName)) ∈ lw_all := lw_g (lw_at lw_m1 17 rfl) rfl
theorem q24 : (Jvm.Cond.instanceMethod ({ cls := "UltraSketchDeskLaw", name := "<init>", desc := "()V" } : Jvm.MethodName)) ∈ lw_all := lw_g (lw_at lw_m1 18 rfl) rfl
theorem q25 : (Jvm.Cond.code ({ cls := "UltraSketchDeskLaw", name := "<init>", desc := "()V" } : Jvm.MethodName) method_1_code (1 : Nat) (Option.none : Option Jvm.ClassFile.FieldType)) ∈ lw_all := lw_g (lw_at lw_m1 19 rfl) rfl
theorem q26 : (Jvm.Cond.methodLink "UltraSketchDeskLaw" (1 : Nat) ({ cls := "java/lang/Object", name := "<init>", desc := "()V" } : Jvm.MethodName)) ∈ lw_all := lw_g (lw_at lw_m1 20 rfl) rfl
theorem q29 : (Jvm.Cond.classLink "UltraSketchDeskLaw" (7 : Nat) "UltraSketchDesk") ∈ lw_all := lw_g (lw_at lw_m1 23 rfl) rfl
theorem q31 : (Jvm.Cond.methodLink "UltraSketchDeskLaw" (9 : Nat) ({ cls := "UltraSketchDesk", name := "<init>", desc := "()V" } : Jvm.MethodName)) ∈ lw_all := lw_g (lw_at lw_m1 25 rfl) rfl
theorem q123 : (Jvm.Cond.classLink "UltraSketchDeskLaw" (20 : Nat) "[J") ∈ lw_all := lw_g (lw_at lw_m1 117 rfl) rfl
theorem q125 : (Jvm.Cond.fieldLink "UltraSketchDeskLaw" (10 : Nat) "UltraSketchDeskLaw" "d" "LUltraSketchDesk;") ∈ lw_all := lw_g (lw_at lw_m1 119 rfl) rfl
theorem q126 : (Jvm.Cond.fieldLink "UltraSketchDeskLaw" (16 : Nat) "UltraSketchDeskLaw" "p" "[I") ∈ lw_all := lw_g (lw_at lw_m1 120 rfl) rfl
theorem q127 : (Jvm.Cond.fieldLink "UltraSketchDeskLaw" (22 : Nat) "UltraSketchDeskLaw" "marks" "[[J") ∈ lw_all := lw_g (lw_at lw_m1 121 rfl) rfl
theorem q128 : (Jvm.Cond.laysFinal "UltraSketchDeskLaw" "UltraSketchDeskLaw" "d" "LUltraSketchDesk;") ∈ lw_all := lw_g (lw_at lw_m1 122 rfl) rfl
theorem q129 : (Jvm.Cond.soleField "UltraSketchDeskLaw" "d") ∈ lw_all := lw_g (lw_at lw_m1 123 rfl) rfl
theorem q130 : (Jvm.Cond.laysFinal "UltraSketchDeskLaw" "UltraSketchDeskLaw" "p" "[I") ∈ lw_all := lw_g (lw_at lw_m1 124 rfl) rfl
theorem q131 : (Jvm.Cond.soleField "UltraSketchDeskLaw" "p") ∈ lw_all := lw_g (lw_at lw_m1 125 rfl) rfl
theorem q132 : (Jvm.Cond.laysFinal "UltraSketchDeskLaw" "UltraSketchDeskLaw" "marks" "[[J") ∈ lw_all := lw_g (lw_at lw_m1 126 rfl) rfl
theorem q133 : (Jvm.Cond.soleField "UltraSketchDeskLaw" "marks") ∈ lw_all := lw_g (lw_at lw_m1 127 rfl) rfl
theorem q134 : (Jvm.Cond.superclass "UltraSketchDeskLaw" "java/lang/Object") ∈ lw_all := lw_g (lw_at lw_m1 128 rfl) rfl
theorem q137 : (Jvm.Cond.methodLink "UltraSketchDeskLaw" (118 : Nat) ({ cls := "UltraSketchDeskLaw", name := "holds", desc := "([I)Z" } : Jvm.MethodName)) ∈ lw_all := lw_g (lw_at lw_m1 131 rfl) rfl
theorem q138 : (Jvm.Cond.privateMethod ({ cls := "UltraSketchDeskLaw", name := "holds", desc := "([I)Z" } : Jvm.MethodName)) ∈ lw_tbl := lw_at lw_m1 132 rfl
theorem q139 : (Jvm.Cond.instanceMethod ({ cls := "UltraSketchDeskLaw", name := "holds", desc := "([I)Z" } : Jvm.MethodName)) ∈ lw_all := lw_g (lw_at lw_m1 133 rfl) rfl
theorem q140 : (Jvm.Cond.code ({ cls := "UltraSketchDeskLaw", name := "holds", desc := "([I)Z" } : Jvm.MethodName) method_13_code (5 : Nat) (Option.some Jvm.ClassFile.FieldType.boolean)) ∈ lw_all := lw_g (lw_at lw_m1 134 rfl) rfl
theorem q141 : (Jvm.Cond.methodLink "UltraSketchDeskLaw" (101 : Nat) ({ cls := "UltraSketchDeskLaw", name := "are", desc := "()Z" } : Jvm.MethodName)) ∈ lw_all := lw_g (lw_at lw_m1 135 rfl) rfl
theorem q142 : (Jvm.Cond.privateMethod ({ cls := "UltraSketchDeskLaw", name := "are", desc := "()Z" } : Jvm.MethodName)) ∈ lw_tbl := lw_at lw_m1 136 rfl
theorem q143 : (Jvm.Cond.instanceMethod ({ cls := "UltraSketchDeskLaw", name := "are", desc := "()Z" } : Jvm.MethodName)) ∈ lw_all := lw_g (lw_at lw_m1 137 rfl) rfl
theorem q144 : (Jvm.Cond.code ({ cls := "UltraSketchDeskLaw", name := "are", desc := "()Z" } : Jvm.MethodName) method_10_code (4 : Nat) (Option.some Jvm.ClassFile.FieldType.boolean)) ∈ lw_all := lw_g (lw_at lw_m1 138 rfl) rfl
theorem q145 : (Jvm.Cond.methodLink "UltraSketchDeskLaw" (37 : Nat) ({ cls := "UltraSketchDesk", name := "p", desc := "(I)I" } : Jvm.MethodName)) ∈ lw_all := lw_g (lw_at lw_m1 139 rfl) rfl
theorem q161 : (Jvm.Cond.methodLink "UltraSketchDeskLaw" (40 : Nat) ({ cls := "UltraSketchDesk", name := "register", desc := "(II)I" } : Jvm.MethodName)) ∈ lw_all := lw_g (lw_at lw_m1 155 rfl) rfl
theorem q169 : (Jvm.Cond.methodLink "UltraSketchDeskLaw" (44 : Nat) ({ cls := "UltraSketchDeskLaw", name := "register", desc := "(J)I" } : Jvm.MethodName)) ∈ lw_all := lw_g (lw_at lw_m1 163 rfl) rfl
theorem q170 : (Jvm.Cond.static ({ cls := "UltraSketchDeskLaw", name := "register", desc := "(J)I" } : Jvm.MethodName)) ∈ lw_all := lw_g (lw_at lw_m1 164 rfl) rfl
theorem q171 : (Jvm.Cond.code ({ cls := "UltraSketchDeskLaw", name := "register", desc := "(J)I" } : Jvm.MethodName) method_9_code (3 : Nat) (Option.some Jvm.ClassFile.FieldType.int)) ∈ lw_all := lw_g (lw_at lw_m1 165 rfl) rfl
theorem q172 : (Jvm.Cond.methodLink "UltraSketchDeskLaw" (47 : Nat) ({ cls := "UltraSketchDesk", name := "empty", desc := "(I)Z" } : Jvm.MethodName)) ∈ lw_all := lw_g (lw_at lw_m1 166 rfl) rfl
theorem q180 : (Jvm.Cond.methodLink "UltraSketchDeskLaw" (105 : Nat) ({ cls := "UltraSketchDeskLaw", name := "cell", desc := "([II)I" } : Jvm.MethodName)) ∈ lw_all := lw_g (lw_at lw_m1 174 rfl) rfl
theorem q181 : (Jvm.Cond.static ({ cls := "UltraSketchDeskLaw", name := "cell", desc := "([II)I" } : Jvm.MethodName)) ∈ lw_all := lw_g (lw_at lw_m1 175 rfl) rfl
theorem q182 : (Jvm.Cond.code ({ cls := "UltraSketchDeskLaw", name := "cell", desc := "([II)I" } : Jvm.MethodName) method_2_code (2 : Nat) (Option.some Jvm.ClassFile.FieldType.int)) ∈ lw_all := lw_g (lw_at lw_m1 176 rfl) rfl
theorem q183 : (Jvm.Cond.methodLink "UltraSketchDeskLaw" (90 : Nat) ({ cls := "UltraSketchDesk", name := "anew", desc := "(II)V" } : Jvm.MethodName)) ∈ lw_all := lw_g (lw_at lw_m1 177 rfl) rfl
theorem q187 : (Jvm.Cond.methodLink "UltraSketchDeskLaw" (109 : Nat) ({ cls := "UltraSketchDeskLaw", name := "act", desc := "(IIIIII)Z" } : Jvm.MethodName)) ∈ lw_all := lw_g (lw_at lw_m1 181 rfl) rfl
theorem q188 : (Jvm.Cond.privateMethod ({ cls := "UltraSketchDeskLaw", name := "act", desc := "(IIIIII)Z" } : Jvm.MethodName)) ∈ lw_tbl := lw_at lw_m1 182 rfl
theorem q189 : (Jvm.Cond.instanceMethod ({ cls := "UltraSketchDeskLaw", name := "act", desc := "(IIIIII)Z" } : Jvm.MethodName)) ∈ lw_all := lw_g (lw_at lw_m1 183 rfl) rfl
theorem q190 : (Jvm.Cond.code ({ cls := "UltraSketchDeskLaw", name := "act", desc := "(IIIIII)Z" } : Jvm.MethodName) method_11_code (13 : Nat) (Option.some Jvm.ClassFile.FieldType.boolean)) ∈ lw_all := lw_g (lw_at lw_m1 184 rfl) rfl
theorem q191 : (Jvm.Cond.methodLink "UltraSketchDeskLaw" (51 : Nat) ({ cls := "UltraSketchDeskLaw", name := "rest", desc := "(II)I" } : Jvm.MethodName)) ∈ lw_all := lw_g (lw_at lw_m1 185 rfl) rfl
theorem q192 : (Jvm.Cond.static ({ cls := "UltraSketchDeskLaw", name := "rest", desc := "(II)I" } : Jvm.MethodName)) ∈ lw_all := lw_g (lw_at lw_m1 186 rfl) rfl
theorem q193 : (Jvm.Cond.code ({ cls := "UltraSketchDeskLaw", name := "rest", desc := "(II)I" } : Jvm.MethodName) method_3_code (2 : Nat) (Option.some Jvm.ClassFile.FieldType.int)) ∈ lw_all := lw_g (lw_at lw_m1 187 rfl) rfl
theorem q194 : (Jvm.Cond.constant "UltraSketchDeskLaw" (26 : Nat) (2147483647 : Int32)) ∈ lw_all := lw_g (lw_at lw_m1 188 rfl) rfl
theorem q195 : (Jvm.Cond.methodLink "UltraSketchDeskLaw" (54 : Nat) ({ cls := "UltraSketchDesk", name := "add", desc := "(III)V" } : Jvm.MethodName)) ∈ lw_all := lw_g (lw_at lw_m1 189 rfl) rfl
theorem q223 : (Jvm.Cond.methodLink "UltraSketchDeskLaw" (58 : Nat) ({ cls := "UltraSketchDeskLaw", name := "whole", desc := "(II)J" } : Jvm.MethodName)) ∈ lw_all := lw_g (lw_at lw_m1 217 rfl) rfl
theorem q224 : (Jvm.Cond.static ({ cls := "UltraSketchDeskLaw", name := "whole", desc := "(II)J" } : Jvm.MethodName)) ∈ lw_all := lw_g (lw_at lw_m1 218 rfl) rfl
theorem q225 : (Jvm.Cond.code ({ cls := "UltraSketchDeskLaw", name := "whole", desc := "(II)J" } : Jvm.MethodName) method_4_code (2 : Nat) (Option.some Jvm.ClassFile.FieldType.long)) ∈ lw_all := lw_g (lw_at lw_m1 219 rfl) rfl
theorem q226 : (Jvm.Cond.constantLong "UltraSketchDeskLaw" (27 : Nat) (4294967295 : Int64)) ∈ lw_all := lw_g (lw_at lw_m1 220 rfl) rfl
theorem q227 : (Jvm.Cond.methodLink "UltraSketchDeskLaw" (62 : Nat) ({ cls := "UltraSketchDeskLaw", name := "marks", desc := "(IJ)V" } : Jvm.MethodName)) ∈ lw_all := lw_g (lw_at lw_m1 221 rfl) rfl
theorem q228 : (Jvm.Cond.privateMethod ({ cls := "UltraSketchDeskLaw", name := "marks", desc := "(IJ)V" } : Jvm.MethodName)) ∈ lw_tbl := lw_at lw_m1 222 rfl
theorem q229 : (Jvm.Cond.instanceMethod ({ cls := "UltraSketchDeskLaw", name := "marks", desc := "(IJ)V" } : Jvm.MethodName)) ∈ lw_all := lw_g (lw_at lw_m1 223 rfl) rfl
theorem q230 : (Jvm.Cond.code ({ cls := "UltraSketchDeskLaw", name := "marks", desc := "(IJ)V" } : Jvm.MethodName) method_6_code (5 : Nat) (Option.none : Option Jvm.ClassFile.FieldType)) ∈ lw_all := lw_g (lw_at lw_m1 224 rfl) rfl
theorem q231 : (Jvm.Cond.methodLink "UltraSketchDeskLaw" (29 : Nat) ({ cls := "UltraSketchDeskLaw", name := "noughts", desc := "(JI)I" } : Jvm.MethodName)) ∈ lw_all := lw_g (lw_at lw_m1 225 rfl) rfl
theorem q232 : (Jvm.Cond.static ({ cls := "UltraSketchDeskLaw", name := "noughts", desc := "(JI)I" } : Jvm.MethodName)) ∈ lw_all := lw_g (lw_at lw_m1 226 rfl) rfl
theorem q233 : (Jvm.Cond.code ({ cls := "UltraSketchDeskLaw", name := "noughts", desc := "(JI)I" } : Jvm.MethodName) method_5_code (4 : Nat) (Option.some Jvm.ClassFile.FieldType.int)) ∈ lw_all := lw_g (lw_at lw_m1 227 rfl) rfl
theorem q234 : (Jvm.Cond.methodLink "UltraSketchDeskLaw" (65 : Nat) ({ cls := "UltraSketchDesk", name := "many", desc := "(IIII)V" } : Jvm.MethodName)) ∈ lw_all := lw_g (lw_at lw_m1 228 rfl) rfl
theorem q240 : (Jvm.Cond.constantLong "UltraSketchDeskLaw" (69 : Nat) (6364136223846793005 : Int64)) ∈ lw_all := lw_g (lw_at lw_m1 234 rfl) rfl
theorem q241 : (Jvm.Cond.constantLong "UltraSketchDeskLaw" (71 : Nat) (1442695040888963407 : Int64)) ∈ lw_all := lw_g (lw_at lw_m1 235 rfl) rfl
theorem q242 : (Jvm.Cond.methodLink "UltraSketchDeskLaw" (73 : Nat) ({ cls := "UltraSketchDesk", name := "high", desc := "(III)V" } : Jvm.MethodName)) ∈ lw_all := lw_g (lw_at lw_m1 236 rfl) rfl
theorem q246 : (Jvm.Cond.methodLink "UltraSketchDeskLaw" (76 : Nat) ({ cls := "UltraSketchDeskLaw", name := "both", desc := "([JI[JI)[J" } : Jvm.MethodName)) ∈ lw_all := lw_g (lw_at lw_m2 0 rfl) rfl
theorem q247 : (Jvm.Cond.static ({ cls := "UltraSketchDeskLaw", name := "both", desc := "([JI[JI)[J" } : Jvm.MethodName)) ∈ lw_all := lw_g (lw_at lw_m2 1 rfl) rfl
theorem q248 : (Jvm.Cond.code ({ cls := "UltraSketchDeskLaw", name := "both", desc := "([JI[JI)[J" } : Jvm.MethodName) method_8_code (8 : Nat) (Option.some (Jvm.ClassFile.FieldType.array Jvm.ClassFile.FieldType.long))) ∈ lw_all := lw_g (lw_at lw_m2 2 rfl) rfl
theorem q249 : (Jvm.Cond.methodLink "UltraSketchDeskLaw" (33 : Nat) ({ cls := "UltraSketchDeskLaw", name := "smaller", desc := "([JII)[J" } : Jvm.MethodName)) ∈ lw_all := lw_g (lw_at lw_m2 3 rfl) rfl
theorem q250 : (Jvm.Cond.static ({ cls := "UltraSketchDeskLaw", name := "smaller", desc := "([JII)[J" } : Jvm.MethodName)) ∈ lw_all := lw_g (lw_at lw_m2 4 rfl) rfl
theorem q251 : (Jvm.Cond.code ({ cls := "UltraSketchDeskLaw", name := "smaller", desc := "([JII)[J" } : Jvm.MethodName) method_7_code (7 : Nat) (Option.some (Jvm.ClassFile.FieldType.array Jvm.ClassFile.FieldType.long))) ∈ lw_all := lw_g (lw_at lw_m2 5 rfl) rfl
theorem q252 : (Jvm.Cond.methodLink "UltraSketchDeskLaw" (80 : Nat) ({ cls := "UltraSketchDesk", name := "join", desc := "(III)V" } : Jvm.MethodName)) ∈ lw_all := lw_g (lw_at lw_m2 6 rfl) rfl
theorem q296 : (Jvm.Cond.methodLink "UltraSketchDeskLaw" (83 : Nat) ({ cls := "UltraSketchDesk", name := "take", desc := "(II)V" } : Jvm.MethodName)) ∈ lw_all := lw_g (lw_at lw_m2 50 rfl) rfl
theorem q301 : (Jvm.Cond.methodLink "UltraSketchDeskLaw" (87 : Nat) ({ cls := "UltraSketchDesk", name := "smaller", desc := "(III)I" } : Jvm.MethodName)) ∈ lw_all := lw_g (lw_at lw_m2 55 rfl) rfl
theorem q309 : (Jvm.Cond.methodLink "UltraSketchDeskLaw" (93 : Nat) ({ cls := "UltraSketchDesk", name := "addToken", desc := "(III)V" } : Jvm.MethodName)) ∈ lw_all := lw_g (lw_at lw_m2 63 rfl) rfl
theorem q331 : (Jvm.Cond.methodLink "UltraSketchDeskLaw" (113 : Nat) ({ cls := "UltraSketchDeskLaw", name := "isToken", desc := "(II)Z" } : Jvm.MethodName)) ∈ lw_all := lw_g (lw_at lw_m2 85 rfl) rfl
theorem q332 : (Jvm.Cond.privateMethod ({ cls := "UltraSketchDeskLaw", name := "isToken", desc := "(II)Z" } : Jvm.MethodName)) ∈ lw_tbl := lw_at lw_m2 86 rfl
theorem q333 : (Jvm.Cond.instanceMethod ({ cls := "UltraSketchDeskLaw", name := "isToken", desc := "(II)Z" } : Jvm.MethodName)) ∈ lw_all := lw_g (lw_at lw_m2 87 rfl) rfl
theorem q334 : (Jvm.Cond.code ({ cls := "UltraSketchDeskLaw", name := "isToken", desc := "(II)Z" } : Jvm.MethodName) method_12_code (5 : Nat) (Option.some Jvm.ClassFile.FieldType.boolean)) ∈ lw_all := lw_g (lw_at lw_m2 88 rfl) rfl
theorem q335 : (Jvm.Cond.methodLink "UltraSketchDeskLaw" (96 : Nat) ({ cls := "UltraSketchDesk", name := "token", desc := "(II)I" } : Jvm.MethodName)) ∈ lw_all := lw_g (lw_at lw_m2 89 rfl) rfl
theorem q339 : (Jvm.Cond.constantLong "UltraSketchDeskLaw" (99 : Nat) (64 : Int64)) ∈ lw_all := lw_g (lw_at lw_m2 93 rfl) rfl
theorem in_X0 : ∀ w ∈ wsX00, w ∈ lw_all := lw_in wsX00 [128, 130, 132] (by decide +kernel) (by decide +kernel)
/-! java/lang/Integer -/
set_option maxRecDepth 100000
def RJ4 : String := "java/lang/Integer"
abbrev cJ4_numberOfLeadingZeros : ByteArray := prog_9_method_47_code
def yJ4_numberOfLeadingZeros : MethodName := ⟨RJ4, "numberOfLeadingZeros", "(I)I"⟩
def dkwJ4_numberOfLeadingZeros_3 : List UInt8 := [5, 124, 59, 27, 26, 4, 124, 100, 172]
abbrev dktJ4_numberOfLeadingZeros_3 : List UInt8 := dkwJ4_numberOfLeadingZeros_3 ++ []
def dkwJ4_numberOfLeadingZeros_2 : List UInt8 := [124, 59, 26, 16, 16, 161, 0, 10, 132, 1, 252, 26, 7, 124, 59, 26, 7, 161, 0, 10, 132, 1, 254, 26]
abbrev dktJ4_numberOfLeadingZeros_2 : List UInt8 := dkwJ4_numberOfLeadingZeros_2 ++ dktJ4_numberOfLeadingZeros_3
def dkwJ4_numberOfLeadingZeros_1 : List UInt8 := [161, 0, 11, 132, 1, 240, 26, 16, 16, 124, 59, 26, 17, 1, 0, 161, 0, 11, 132, 1, 248, 26, 16, 8]
abbrev dktJ4_numberOfLeadingZeros_1 : List UInt8 := dkwJ4_numberOfLeadingZeros_1 ++ dktJ4_numberOfLeadingZeros_2
def dkwJ4_numberOfLeadingZeros_0 : List UInt8 := [26, 157, 0, 14, 26, 154, 0, 8, 16, 32, 167, 0, 4, 3, 172, 16, 31, 60, 26, 19, 1, 8]
abbrev dktJ4_numberOfLeadingZeros_0 : List UInt8 := dkwJ4_numberOfLeadingZeros_0 ++ dktJ4_numberOfLeadingZeros_1
theorem dksJ4_numberOfLeadingZeros_0 : cJ4_numberOfLeadingZeros.data.toList.drop 0 = dktJ4_numberOfLeadingZeros_0 := by decide +kernel
theorem dksJ4_numberOfLeadingZeros_1 : cJ4_numberOfLeadingZeros.data.toList.drop 22 = dktJ4_numberOfLeadingZeros_1 := dk_seg dksJ4_numberOfLeadingZeros_0 22 rfl rfl
theorem dksJ4_numberOfLeadingZeros_2 : cJ4_numberOfLeadingZeros.data.toList.drop 46 = dktJ4_numberOfLeadingZeros_2 := dk_seg dksJ4_numberOfLeadingZeros_1 24 rfl rfl
theorem dksJ4_numberOfLeadingZeros_3 : cJ4_numberOfLeadingZeros.data.toList.drop 70 = dktJ4_numberOfLeadingZeros_3 := dk_seg dksJ4_numberOfLeadingZeros_2 24 rfl rfl
theorem dJ4_numberOfLeadingZeros_0 : decode cJ4_numberOfLeadingZeros 0 = .ok (.iload_n 0, 1) := dk_26 (dk_at dksJ4_numberOfLeadingZeros_0 0 rfl rfl)
theorem dJ4_numberOfLeadingZeros_1 : decode cJ4_numberOfLeadingZeros 1 = .ok (.ifCond .gt 14, 3) := dk_157 0 14 (dk_at dksJ4_numberOfLeadingZeros_0 1 rfl rfl)
theorem dJ4_numberOfLeadingZeros_4 : decode cJ4_numberOfLeadingZeros 4 = .ok (.iload_n 0, 1) := dk_26 (dk_at dksJ4_numberOfLeadingZeros_0 4 rfl rfl)
theorem dJ4_numberOfLeadingZeros_5 : decode cJ4_numberOfLeadingZeros 5 = .ok (.ifCond .ne 8, 3) := dk_154 0 8 (dk_at dksJ4_numberOfLeadingZeros_0 5 rfl rfl)
theorem dJ4_numberOfLeadingZeros_8 : decode cJ4_numberOfLeadingZeros 8 = .ok (.bipush 32, 2) := dk_16 32 (dk_at dksJ4_numberOfLeadingZeros_0 8 rfl rfl)
theorem dJ4_numberOfLeadingZeros_10 : decode cJ4_numberOfLeadingZeros 10 = .ok (.goto 4, 3) := dk_167 0 4 (dk_at dksJ4_numberOfLeadingZeros_0 10 rfl rfl)
theorem dJ4_numberOfLeadingZeros_13 : decode cJ4_numberOfLeadingZeros 13 = .ok (.iconst 0, 1) := dk_3 (dk_at dksJ4_numberOfLeadingZeros_0 13 rfl rfl)
theorem dJ4_numberOfLeadingZeros_14 : decode cJ4_numberOfLeadingZeros 14 = .ok (.ireturn, 1) := dk_172 (dk_at dksJ4_numberOfLeadingZeros_0 14 rfl rfl)
theorem dJ4_numberOfLeadingZeros_15 : decode cJ4_numberOfLeadingZeros 15 = .ok (.bipush 31, 2) := dk_16 31 (dk_at dksJ4_numberOfLeadingZeros_0 15 rfl rfl)
theorem dJ4_numberOfLeadingZeros_17 : decode cJ4_numberOfLeadingZeros 17 = .ok (.istore_n 1, 1) := dk_60 (dk_at dksJ4_numberOfLeadingZeros_0 17 rfl rfl)
theorem dJ4_numberOfLeadingZeros_18 : decode cJ4_numberOfLeadingZeros 18 = .ok (.iload_n 0, 1) := dk_26 (dk_at dksJ4_numberOfLeadingZeros_0 18 rfl rfl)
theorem dJ4_numberOfLeadingZeros_19 : decode cJ4_numberOfLeadingZeros 19 = .ok (.ldc_w 264, 3) := dk_19 1 8 (dk_at dksJ4_numberOfLeadingZeros_0 19 rfl rfl)
theorem dJ4_numberOfLeadingZeros_22 : decode cJ4_numberOfLeadingZeros 22 = .ok (.if_icmp .lt 11, 3) := dk_161 0 11 (dk_at dksJ4_numberOfLeadingZeros_1 0 rfl rfl)
theorem dJ4_numberOfLeadingZeros_25 : decode cJ4_numberOfLeadingZeros 25 = .ok (.iinc 1 (-16), 3) := dk_132 1 240 (dk_at dksJ4_numberOfLeadingZeros_1 3 rfl rfl)
theorem dJ4_numberOfLeadingZeros_28 : decode cJ4_numberOfLeadingZeros 28 = .ok (.iload_n 0, 1) := dk_26 (dk_at dksJ4_numberOfLeadingZeros_1 6 rfl rfl)
theorem dJ4_numberOfLeadingZeros_29 : decode cJ4_numberOfLeadingZeros 29 = .ok (.bipush 16, 2) := dk_16 16 (dk_at dksJ4_numberOfLeadingZeros_1 7 rfl rfl)
theorem dJ4_numberOfLeadingZeros_31 : decode cJ4_numberOfLeadingZeros 31 = .ok (.iushr, 1) := dk_124 (dk_at dksJ4_numberOfLeadingZeros_1 9 rfl rfl)
theorem dJ4_numberOfLeadingZeros_32 : decode cJ4_numberOfLeadingZeros 32 = .ok (.istore_n 0, 1) := dk_59 (dk_at dksJ4_numberOfLeadingZeros_1 10 rfl rfl)
theorem dJ4_numberOfLeadingZeros_33 : decode cJ4_numberOfLeadingZeros 33 = .ok (.iload_n 0, 1) := dk_26 (dk_at dksJ4_numberOfLeadingZeros_1 11 rfl rfl)
theorem dJ4_numberOfLeadingZeros_34 : decode cJ4_numberOfLeadingZeros 34 = .ok (.sipush 256, 3) := dk_17 1 0 (dk_at dksJ4_numberOfLeadingZeros_1 12 rfl rfl)
theorem dJ4_numberOfLeadingZeros_37 : decode cJ4_numberOfLeadingZeros 37 = .ok (.if_icmp .lt 11, 3) := dk_161 0 11 (dk_at dksJ4_numberOfLeadingZeros_1 15 rfl rfl)
theorem dJ4_numberOfLeadingZeros_40 : decode cJ4_numberOfLeadingZeros 40 = .ok (.iinc 1 (-8), 3) := dk_132 1 248 (dk_at dksJ4_numberOfLeadingZeros_1 18 rfl rfl)
theorem dJ4_numberOfLeadingZeros_43 : decode cJ4_numberOfLeadingZeros 43 = .ok (.iload_n 0, 1) := dk_26 (dk_at dksJ4_numberOfLeadingZeros_1 21 rfl rfl)
theorem dJ4_numberOfLeadingZeros_44 : decode cJ4_numberOfLeadingZeros 44 = .ok (.bipush 8, 2) := dk_16 8 (dk_at dksJ4_numberOfLeadingZeros_1 22 rfl rfl)
theorem dJ4_numberOfLeadingZeros_46 : decode cJ4_numberOfLeadingZeros 46 = .ok (.iushr, 1) := dk_124 (dk_at dksJ4_numberOfLeadingZeros_2 0 rfl rfl)
theorem dJ4_numberOfLeadingZeros_47 : decode cJ4_numberOfLeadingZeros 47 = .ok (.istore_n 0, 1) := dk_59 (dk_at dksJ4_numberOfLeadingZeros_2 1 rfl rfl)
theorem dJ4_numberOfLeadingZeros_48 : decode cJ4_numberOfLeadingZeros 48 = .ok (.iload_n 0, 1) := dk_26 (dk_at dksJ4_numberOfLeadingZeros_2 2 rfl rfl)
theorem dJ4_numberOfLeadingZeros_49 : decode cJ4_numberOfLeadingZeros 49 = .ok (.bipush 16, 2) := dk_16 16 (dk_at dksJ4_numberOfLeadingZeros_2 3 rfl rfl)
theorem dJ4_numberOfLeadingZeros_51 : decode cJ4_numberOfLeadingZeros 51 = .ok (.if_icmp .lt 10, 3) := dk_161 0 10 (dk_at dksJ4_numberOfLeadingZeros_2 5 rfl rfl)
theorem dJ4_numberOfLeadingZeros_54 : decode cJ4_numberOfLeadingZeros 54 = .ok (.iinc 1 (-4), 3) := dk_132 1 252 (dk_at dksJ4_numberOfLeadingZeros_2 8 rfl rfl)
theorem dJ4_numberOfLeadingZeros_57 : decode cJ4_numberOfLeadingZeros 57 = .ok (.iload_n 0, 1) := dk_26 (dk_at dksJ4_numberOfLeadingZeros_2 11 rfl rfl)
theorem dJ4_numberOfLeadingZeros_58 : decode cJ4_numberOfLeadingZeros 58 = .ok (.iconst 4, 1) := dk_7 (dk_at dksJ4_numberOfLeadingZeros_2 12 rfl rfl)
theorem dJ4_numberOfLeadingZeros_59 : decode cJ4_numberOfLeadingZeros 59 = .ok (.iushr, 1) := dk_124 (dk_at dksJ4_numberOfLeadingZeros_2 13 rfl rfl)
theorem dJ4_numberOfLeadingZeros_60 : decode cJ4_numberOfLeadingZeros 60 = .ok (.istore_n 0, 1) := dk_59 (dk_at dksJ4_numberOfLeadingZeros_2 14 rfl rfl)
theorem dJ4_numberOfLeadingZeros_61 : decode cJ4_numberOfLeadingZeros 61 = .ok (.iload_n 0, 1) := dk_26 (dk_at dksJ4_numberOfLeadingZeros_2 15 rfl rfl)
theorem dJ4_numberOfLeadingZeros_62 : decode cJ4_numberOfLeadingZeros 62 = .ok (.iconst 4, 1) := dk_7 (dk_at dksJ4_numberOfLeadingZeros_2 16 rfl rfl)
theorem dJ4_numberOfLeadingZeros_63 : decode cJ4_numberOfLeadingZeros 63 = .ok (.if_icmp .lt 10, 3) := dk_161 0 10 (dk_at dksJ4_numberOfLeadingZeros_2 17 rfl rfl)
theorem dJ4_numberOfLeadingZeros_66 : decode cJ4_numberOfLeadingZeros 66 = .ok (.iinc 1 (-2), 3) := dk_132 1 254 (dk_at dksJ4_numberOfLeadingZeros_2 20 rfl rfl)
theorem dJ4_numberOfLeadingZeros_69 : decode cJ4_numberOfLeadingZeros 69 = .ok (.iload_n 0, 1) := dk_26 (dk_at dksJ4_numberOfLeadingZeros_2 23 rfl rfl)
theorem dJ4_numberOfLeadingZeros_70 : decode cJ4_numberOfLeadingZeros 70 = .ok (.iconst 2, 1) := dk_5 (dk_at dksJ4_numberOfLeadingZeros_3 0 rfl rfl)
theorem dJ4_numberOfLeadingZeros_71 : decode cJ4_numberOfLeadingZeros 71 = .ok (.iushr, 1) := dk_124 (dk_at dksJ4_numberOfLeadingZeros_3 1 rfl rfl)
theorem dJ4_numberOfLeadingZeros_72 : decode cJ4_numberOfLeadingZeros 72 = .ok (.istore_n 0, 1) := dk_59 (dk_at dksJ4_numberOfLeadingZeros_3 2 rfl rfl)
theorem dJ4_numberOfLeadingZeros_73 : decode cJ4_numberOfLeadingZeros 73 = .ok (.iload_n 1, 1) := dk_27 (dk_at dksJ4_numberOfLeadingZeros_3 3 rfl rfl)
theorem dJ4_numberOfLeadingZeros_74 : decode cJ4_numberOfLeadingZeros 74 = .ok (.iload_n 0, 1) := dk_26 (dk_at dksJ4_numberOfLeadingZeros_3 4 rfl rfl)
theorem dJ4_numberOfLeadingZeros_75 : decode cJ4_numberOfLeadingZeros 75 = .ok (.iconst 1, 1) := dk_4 (dk_at dksJ4_numberOfLeadingZeros_3 5 rfl rfl)
theorem dJ4_numberOfLeadingZeros_76 : decode cJ4_numberOfLeadingZeros 76 = .ok (.iushr, 1) := dk_124 (dk_at dksJ4_numberOfLeadingZeros_3 6 rfl rfl)
theorem dJ4_numberOfLeadingZeros_77 : decode cJ4_numberOfLeadingZeros 77 = .ok (.isub, 1) := dk_100 (dk_at dksJ4_numberOfLeadingZeros_3 7 rfl rfl)
theorem dJ4_numberOfLeadingZeros_78 : decode cJ4_numberOfLeadingZeros 78 = .ok (.ireturn, 1) := dk_172 (dk_at dksJ4_numberOfLeadingZeros_3 8 rfl rfl)
theorem q15 : (Jvm.Cond.initialized "java/lang/Integer") ∈ lw_all := lw_g (lw_at lw_m1 9 rfl) rfl
theorem q158 : (Jvm.Cond.static ({ cls := "java/lang/Integer", name := "numberOfLeadingZeros", desc := "(I)I" } : Jvm.MethodName)) ∈ lw_all := lw_g (lw_at lw_m1 152 rfl) rfl
theorem q159 : (Jvm.Cond.code ({ cls := "java/lang/Integer", name := "numberOfLeadingZeros", desc := "(I)I" } : Jvm.MethodName) prog_9_method_47_code (2 : Nat) (Option.some Jvm.ClassFile.FieldType.int)) ∈ lw_all := lw_g (lw_at lw_m1 153 rfl) rfl
theorem q160 : (Jvm.Cond.constant "java/lang/Integer" (264 : Nat) (65536 : Int32)) ∈ lw_all := lw_g (lw_at lw_m1 154 rfl) rfl
/-! java/lang/Long -/
set_option maxRecDepth 100000
def RJ5 : String := "java/lang/Long"
abbrev cJ5_numberOfLeadingZeros : ByteArray := prog_10_method_48_code
def yJ5_numberOfLeadingZeros : MethodName := ⟨RJ5, "numberOfLeadingZeros", "(J)I"⟩
def dkwJ5_numberOfLeadingZeros_1 : List UInt8 := [184, 1, 52, 172]
abbrev dktJ5_numberOfLeadingZeros_1 : List UInt8 := dkwJ5_numberOfLeadingZeros_1 ++ []
def dkwJ5_numberOfLeadingZeros_0 : List UInt8 := [30, 16, 32, 125, 136, 61, 28, 154, 0, 14, 16, 32, 30, 136, 184, 1, 52, 96, 167, 0, 7, 28]
abbrev dktJ5_numberOfLeadingZeros_0 : List UInt8 := dkwJ5_numberOfLeadingZeros_0 ++ dktJ5_numberOfLeadingZeros_1
theorem dksJ5_numberOfLeadingZeros_0 : cJ5_numberOfLeadingZeros.data.toList.drop 0 = dktJ5_numberOfLeadingZeros_0 := by decide +kernel
theorem dksJ5_numberOfLeadingZeros_1 : cJ5_numberOfLeadingZeros.data.toList.drop 22 = dktJ5_numberOfLeadingZeros_1 := dk_seg dksJ5_numberOfLeadingZeros_0 22 rfl rfl
theorem dJ5_numberOfLeadingZeros_0 : decode cJ5_numberOfLeadingZeros 0 = .ok (.lload_n 0, 1) := dk_30 (dk_at dksJ5_numberOfLeadingZeros_0 0 rfl rfl)
theorem dJ5_numberOfLeadingZeros_1 : decode cJ5_numberOfLeadingZeros 1 = .ok (.bipush 32, 2) := dk_16 32 (dk_at dksJ5_numberOfLeadingZeros_0 1 rfl rfl)
theorem dJ5_numberOfLeadingZeros_3 : decode cJ5_numberOfLeadingZeros 3 = .ok (.lushr, 1) := dk_125 (dk_at dksJ5_numberOfLeadingZeros_0 3 rfl rfl)
theorem dJ5_numberOfLeadingZeros_4 : decode cJ5_numberOfLeadingZeros 4 = .ok (.l2i, 1) := dk_136 (dk_at dksJ5_numberOfLeadingZeros_0 4 rfl rfl)
theorem dJ5_numberOfLeadingZeros_5 : decode cJ5_numberOfLeadingZeros 5 = .ok (.istore_n 2, 1) := dk_61 (dk_at dksJ5_numberOfLeadingZeros_0 5 rfl rfl)
theorem dJ5_numberOfLeadingZeros_6 : decode cJ5_numberOfLeadingZeros 6 = .ok (.iload_n 2, 1) := dk_28 (dk_at dksJ5_numberOfLeadingZeros_0 6 rfl rfl)
theorem dJ5_numberOfLeadingZeros_7 : decode cJ5_numberOfLeadingZeros 7 = .ok (.ifCond .ne 14, 3) := dk_154 0 14 (dk_at dksJ5_numberOfLeadingZeros_0 7 rfl rfl)
theorem dJ5_numberOfLeadingZeros_10 : decode cJ5_numberOfLeadingZeros 10 = .ok (.bipush 32, 2) := dk_16 32 (dk_at dksJ5_numberOfLeadingZeros_0 10 rfl rfl)
theorem dJ5_numberOfLeadingZeros_12 : decode cJ5_numberOfLeadingZeros 12 = .ok (.lload_n 0, 1) := dk_30 (dk_at dksJ5_numberOfLeadingZeros_0 12 rfl rfl)
theorem dJ5_numberOfLeadingZeros_13 : decode cJ5_numberOfLeadingZeros 13 = .ok (.l2i, 1) := dk_136 (dk_at dksJ5_numberOfLeadingZeros_0 13 rfl rfl)
theorem dJ5_numberOfLeadingZeros_14 : decode cJ5_numberOfLeadingZeros 14 = .ok (.invokestatic 308, 3) := dk_184 1 52 (dk_at dksJ5_numberOfLeadingZeros_0 14 rfl rfl)
theorem dJ5_numberOfLeadingZeros_17 : decode cJ5_numberOfLeadingZeros 17 = .ok (.iadd, 1) := dk_96 (dk_at dksJ5_numberOfLeadingZeros_0 17 rfl rfl)
theorem dJ5_numberOfLeadingZeros_18 : decode cJ5_numberOfLeadingZeros 18 = .ok (.goto 7, 3) := dk_167 0 7 (dk_at dksJ5_numberOfLeadingZeros_0 18 rfl rfl)
theorem dJ5_numberOfLeadingZeros_21 : decode cJ5_numberOfLeadingZeros 21 = .ok (.iload_n 2, 1) := dk_28 (dk_at dksJ5_numberOfLeadingZeros_0 21 rfl rfl)
theorem dJ5_numberOfLeadingZeros_22 : decode cJ5_numberOfLeadingZeros 22 = .ok (.invokestatic 308, 3) := dk_184 1 52 (dk_at dksJ5_numberOfLeadingZeros_1 0 rfl rfl)
theorem dJ5_numberOfLeadingZeros_25 : decode cJ5_numberOfLeadingZeros 25 = .ok (.ireturn, 1) := dk_172 (dk_at dksJ5_numberOfLeadingZeros_1 3 rfl rfl)
theorem q16 : (Jvm.Cond.initialized "java/lang/Long") ∈ lw_all := lw_g (lw_at lw_m1 10 rfl) rfl
theorem q212 : (Jvm.Cond.static ({ cls := "java/lang/Long", name := "numberOfLeadingZeros", desc := "(J)I" } : Jvm.MethodName)) ∈ lw_all := lw_g (lw_at lw_m1 206 rfl) rfl
theorem q213 : (Jvm.Cond.code ({ cls := "java/lang/Long", name := "numberOfLeadingZeros", desc := "(J)I" } : Jvm.MethodName) prog_10_method_48_code (3 : Nat) (Option.some Jvm.ClassFile.FieldType.int)) ∈ lw_all := lw_g (lw_at lw_m1 207 rfl) rfl
theorem q214 : (Jvm.Cond.methodLink "java/lang/Long" (308 : Nat) ({ cls := "java/lang/Integer", name := "numberOfLeadingZeros", desc := "(I)I" } : Jvm.MethodName)) ∈ lw_all := lw_g (lw_at lw_m1 208 rfl) rfl
/-! java/util/Objects -/
set_option maxRecDepth 100000
def RJ6 : String := "java/util/Objects"
abbrev cJ6_requireNonNull : ByteArray := prog_18_method_11_code
def yJ6_requireNonNull : MethodName := ⟨RJ6, "requireNonNull", "(Ljava/lang/Object;Ljava/lang/String;)Ljava/lang/Object;"⟩
def dkwJ6_requireNonNull_0 : List UInt8 := [42, 199, 0, 12, 187, 0, 84, 89, 43, 183, 0, 87, 191, 42, 176]
abbrev dktJ6_requireNonNull_0 : List UInt8 := dkwJ6_requireNonNull_0 ++ []
theorem dksJ6_requireNonNull_0 : cJ6_requireNonNull.data.toList.drop 0 = dktJ6_requireNonNull_0 := by decide +kernel
theorem dJ6_requireNonNull_0 : decode cJ6_requireNonNull 0 = .ok (.aload_n 0, 1) := dk_42 (dk_at dksJ6_requireNonNull_0 0 rfl rfl)
theorem dJ6_requireNonNull_1 : decode cJ6_requireNonNull 1 = .ok (.ifnonnull 12, 3) := dk_199 0 12 (dk_at dksJ6_requireNonNull_0 1 rfl rfl)
theorem dJ6_requireNonNull_4 : decode cJ6_requireNonNull 4 = .ok (.new 84, 3) := dk_187 0 84 (dk_at dksJ6_requireNonNull_0 4 rfl rfl)
theorem dJ6_requireNonNull_7 : decode cJ6_requireNonNull 7 = .ok (.dup, 1) := dk_89 (dk_at dksJ6_requireNonNull_0 7 rfl rfl)
theorem dJ6_requireNonNull_8 : decode cJ6_requireNonNull 8 = .ok (.aload_n 1, 1) := dk_43 (dk_at dksJ6_requireNonNull_0 8 rfl rfl)
theorem dJ6_requireNonNull_9 : decode cJ6_requireNonNull 9 = .ok (.invokespecial 87, 3) := dk_183 0 87 (dk_at dksJ6_requireNonNull_0 9 rfl rfl)
theorem dJ6_requireNonNull_12 : decode cJ6_requireNonNull 12 = .ok (.athrow, 1) := dk_191 (dk_at dksJ6_requireNonNull_0 12 rfl rfl)
theorem dJ6_requireNonNull_13 : decode cJ6_requireNonNull 13 = .ok (.aload_n 0, 1) := dk_42 (dk_at dksJ6_requireNonNull_0 13 rfl rfl)
theorem dJ6_requireNonNull_14 : decode cJ6_requireNonNull 14 = .ok (.areturn, 1) := dk_176 (dk_at dksJ6_requireNonNull_0 14 rfl rfl)
theorem q17 : (Jvm.Cond.initialized "java/util/Objects") ∈ lw_all := lw_g (lw_at lw_m1 11 rfl) rfl
theorem q261 : (Jvm.Cond.static ({ cls := "java/util/Objects", name := "requireNonNull", desc := "(Ljava/lang/Object;Ljava/lang/String;)Ljava/lang/Object;" } : Jvm.MethodName)) ∈ lw_all := lw_g (lw_at lw_m2 15 rfl) rfl
theorem q262 : (Jvm.Cond.code ({ cls := "java/util/Objects", name := "requireNonNull", desc := "(Ljava/lang/Object;Ljava/lang/String;)Ljava/lang/Object;" } : Jvm.MethodName) prog_18_method_11_code (2 : Nat) (Option.some (Jvm.ClassFile.FieldType.object "java/lang/Object"))) ∈ lw_all := lw_g (lw_at lw_m2 16 rfl) rfl
/-! java/util/Arrays -/
set_option maxRecDepth 100000
def RJ7 : String := "java/util/Arrays"
abbrev cJ7_copyOf : ByteArray := prog_17_method_121_code
def yJ7_copyOf : MethodName := ⟨RJ7, "copyOf", "([BI)[B"⟩
def dkwJ7_copyOf_1 : List UInt8 := [27, 184, 1, 48, 184, 0, 150, 44, 176]
abbrev dktJ7_copyOf_1 : List UInt8 := dkwJ7_copyOf_1 ++ []
def dkwJ7_copyOf_0 : List UInt8 := [27, 42, 190, 160, 0, 11, 42, 182, 1, 54, 192, 1, 55, 176, 27, 188, 8, 77, 42, 3, 44, 3, 42, 190]
abbrev dktJ7_copyOf_0 : List UInt8 := dkwJ7_copyOf_0 ++ dktJ7_copyOf_1
theorem dksJ7_copyOf_0 : cJ7_copyOf.data.toList.drop 0 = dktJ7_copyOf_0 := by decide +kernel
theorem dksJ7_copyOf_1 : cJ7_copyOf.data.toList.drop 24 = dktJ7_copyOf_1 := dk_seg dksJ7_copyOf_0 24 rfl rfl
theorem dJ7_copyOf_0 : decode cJ7_copyOf 0 = .ok (.iload_n 1, 1) := dk_27 (dk_at dksJ7_copyOf_0 0 rfl rfl)
theorem dJ7_copyOf_1 : decode cJ7_copyOf 1 = .ok (.aload_n 0, 1) := dk_42 (dk_at dksJ7_copyOf_0 1 rfl rfl)
theorem dJ7_copyOf_2 : decode cJ7_copyOf 2 = .ok (.arraylength, 1) := dk_190 (dk_at dksJ7_copyOf_0 2 rfl rfl)
theorem dJ7_copyOf_3 : decode cJ7_copyOf 3 = .ok (.if_icmp .ne 11, 3) := dk_160 0 11 (dk_at dksJ7_copyOf_0 3 rfl rfl)
theorem dJ7_copyOf_6 : decode cJ7_copyOf 6 = .ok (.aload_n 0, 1) := dk_42 (dk_at dksJ7_copyOf_0 6 rfl rfl)
theorem dJ7_copyOf_7 : decode cJ7_copyOf 7 = .ok (.invokevirtual 310, 3) := dk_182 1 54 (dk_at dksJ7_copyOf_0 7 rfl rfl)
theorem dJ7_copyOf_10 : decode cJ7_copyOf 10 = .ok (.checkcast 311, 3) := dk_192 1 55 (dk_at dksJ7_copyOf_0 10 rfl rfl)
theorem dJ7_copyOf_13 : decode cJ7_copyOf 13 = .ok (.areturn, 1) := dk_176 (dk_at dksJ7_copyOf_0 13 rfl rfl)
theorem dJ7_copyOf_14 : decode cJ7_copyOf 14 = .ok (.iload_n 1, 1) := dk_27 (dk_at dksJ7_copyOf_0 14 rfl rfl)
theorem dJ7_copyOf_15 : decode cJ7_copyOf 15 = .ok (.newarray .byte, 2) := dk_188_8 (dk_at dksJ7_copyOf_0 15 rfl rfl)
theorem dJ7_copyOf_17 : decode cJ7_copyOf 17 = .ok (.astore_n 2, 1) := dk_77 (dk_at dksJ7_copyOf_0 17 rfl rfl)
theorem dJ7_copyOf_18 : decode cJ7_copyOf 18 = .ok (.aload_n 0, 1) := dk_42 (dk_at dksJ7_copyOf_0 18 rfl rfl)
theorem dJ7_copyOf_19 : decode cJ7_copyOf 19 = .ok (.iconst 0, 1) := dk_3 (dk_at dksJ7_copyOf_0 19 rfl rfl)
theorem dJ7_copyOf_20 : decode cJ7_copyOf 20 = .ok (.aload_n 2, 1) := dk_44 (dk_at dksJ7_copyOf_0 20 rfl rfl)
theorem dJ7_copyOf_21 : decode cJ7_copyOf 21 = .ok (.iconst 0, 1) := dk_3 (dk_at dksJ7_copyOf_0 21 rfl rfl)
theorem dJ7_copyOf_22 : decode cJ7_copyOf 22 = .ok (.aload_n 0, 1) := dk_42 (dk_at dksJ7_copyOf_0 22 rfl rfl)
theorem dJ7_copyOf_23 : decode cJ7_copyOf 23 = .ok (.arraylength, 1) := dk_190 (dk_at dksJ7_copyOf_0 23 rfl rfl)
theorem dJ7_copyOf_24 : decode cJ7_copyOf 24 = .ok (.iload_n 1, 1) := dk_27 (dk_at dksJ7_copyOf_1 0 rfl rfl)
theorem dJ7_copyOf_25 : decode cJ7_copyOf 25 = .ok (.invokestatic 304, 3) := dk_184 1 48 (dk_at dksJ7_copyOf_1 1 rfl rfl)
theorem dJ7_copyOf_28 : decode cJ7_copyOf 28 = .ok (.invokestatic 150, 3) := dk_184 0 150 (dk_at dksJ7_copyOf_1 4 rfl rfl)
theorem dJ7_copyOf_31 : decode cJ7_copyOf 31 = .ok (.aload_n 2, 1) := dk_44 (dk_at dksJ7_copyOf_1 7 rfl rfl)
theorem dJ7_copyOf_32 : decode cJ7_copyOf 32 = .ok (.areturn, 1) := dk_176 (dk_at dksJ7_copyOf_1 8 rfl rfl)
theorem q18 : (Jvm.Cond.initialized "java/util/Arrays") ∈ lw_all := lw_g (lw_at lw_m1 12 rfl) rfl
theorem q269 : (Jvm.Cond.static ({ cls := "java/util/Arrays", name := "copyOf", desc := "([BI)[B" } : Jvm.MethodName)) ∈ lw_all := lw_g (lw_at lw_m2 23 rfl) rfl
theorem q270 : (Jvm.Cond.code ({ cls := "java/util/Arrays", name := "copyOf", desc := "([BI)[B" } : Jvm.MethodName) prog_17_method_121_code (3 : Nat) (Option.some (Jvm.ClassFile.FieldType.array Jvm.ClassFile.FieldType.byte))) ∈ lw_all := lw_g (lw_at lw_m2 24 rfl) rfl
theorem q271 : (Jvm.Cond.methodLink "java/util/Arrays" (310 : Nat) ({ cls := "[B", name := "clone", desc := "()Ljava/lang/Object;" } : Jvm.MethodName)) ∈ lw_all := lw_g (lw_at lw_m2 25 rfl) rfl
theorem q277 : (Jvm.Cond.classLink "java/util/Arrays" (311 : Nat) "[B") ∈ lw_all := lw_g (lw_at lw_m2 31 rfl) rfl
theorem q278 : (Jvm.Cond.methodLink "java/util/Arrays" (304 : Nat) ({ cls := "java/lang/Math", name := "min", desc := "(II)I" } : Jvm.MethodName)) ∈ lw_all := lw_g (lw_at lw_m2 32 rfl) rfl
theorem q281 : (Jvm.Cond.methodLink "java/util/Arrays" (150 : Nat) ({ cls := "java/lang/System", name := "arraycopy", desc := "(Ljava/lang/Object;ILjava/lang/Object;II)V" } : Jvm.MethodName)) ∈ lw_all := lw_g (lw_at lw_m2 35 rfl) rfl
/-! java/lang/Math -/
set_option maxRecDepth 100000
def RJ8 : String := "java/lang/Math"
abbrev cJ8_min : ByteArray := prog_11_method_69_code
def yJ8_min : MethodName := ⟨RJ8, "min", "(II)I"⟩
def dkwJ8_min_0 : List UInt8 := [26, 27, 163, 0, 7, 26, 167, 0, 4, 27, 172]
abbrev dktJ8_min_0 : List UInt8 := dkwJ8_min_0 ++ []
theorem dksJ8_min_0 : cJ8_min.data.toList.drop 0 = dktJ8_min_0 := by decide +kernel
theorem dJ8_min_0 : decode cJ8_min 0 = .ok (.iload_n 0, 1) := dk_26 (dk_at dksJ8_min_0 0 rfl rfl)
theorem dJ8_min_1 : decode cJ8_min 1 = .ok (.iload_n 1, 1) := dk_27 (dk_at dksJ8_min_0 1 rfl rfl)
theorem dJ8_min_2 : decode cJ8_min 2 = .ok (.if_icmp .gt 7, 3) := dk_163 0 7 (dk_at dksJ8_min_0 2 rfl rfl)
theorem dJ8_min_5 : decode cJ8_min 5 = .ok (.iload_n 0, 1) := dk_26 (dk_at dksJ8_min_0 5 rfl rfl)
theorem dJ8_min_6 : decode cJ8_min 6 = .ok (.goto 4, 3) := dk_167 0 4 (dk_at dksJ8_min_0 6 rfl rfl)
theorem dJ8_min_9 : decode cJ8_min 9 = .ok (.iload_n 1, 1) := dk_27 (dk_at dksJ8_min_0 9 rfl rfl)
theorem dJ8_min_10 : decode cJ8_min 10 = .ok (.ireturn, 1) := dk_172 (dk_at dksJ8_min_0 10 rfl rfl)
theorem q19 : (Jvm.Cond.initialized "java/lang/Math") ∈ lw_all := lw_g (lw_at lw_m1 13 rfl) rfl
theorem q279 : (Jvm.Cond.static ({ cls := "java/lang/Math", name := "min", desc := "(II)I" } : Jvm.MethodName)) ∈ lw_all := lw_g (lw_at lw_m2 33 rfl) rfl
theorem q280 : (Jvm.Cond.code ({ cls := "java/lang/Math", name := "min", desc := "(II)I" } : Jvm.MethodName) prog_11_method_69_code (2 : Nat) (Option.some Jvm.ClassFile.FieldType.int)) ∈ lw_all := lw_g (lw_at lw_m2 34 rfl) rfl
/-! java/lang/Object -/
set_option maxRecDepth 100000
def RJ9 : String := "java/lang/Object"
abbrev cJ9_init : ByteArray := object_method_1_code
def yJ9_init : MethodName := ⟨RJ9, "<init>", "()V"⟩
theorem dJ9_init_0 : decode cJ9_init 0 = .ok (.return_, 1) := by decide +kernel
theorem q27 : (Jvm.Cond.instanceMethod ({ cls := "java/lang/Object", name := "<init>", desc := "()V" } : Jvm.MethodName)) ∈ lw_all := lw_g (lw_at lw_m1 21 rfl) rfl
theorem q28 : (Jvm.Cond.code ({ cls := "java/lang/Object", name := "<init>", desc := "()V" } : Jvm.MethodName) object_method_1_code (1 : Nat) (Option.none : Option Jvm.ClassFile.FieldType)) ∈ lw_all := lw_g (lw_at lw_m1 22 rfl) rfl
theorem q273 : (Jvm.Cond.native ({ cls := "java/lang/Object", name := "clone", desc := "()Ljava/lang/Object;" } : Jvm.MethodName)) ∈ lw_all := lw_g (lw_at lw_m2 27 rfl) rfl
theorem q274 : (Jvm.Cond.instanceMethod ({ cls := "java/lang/Object", name := "clone", desc := "()Ljava/lang/Object;" } : Jvm.MethodName)) ∈ lw_all := lw_g (lw_at lw_m2 28 rfl) rfl
theorem q341 : (Jvm.Cond.initialized "java/lang/Object") ∈ lw_all := lw_g (lw_at lw_m2 95 rfl) rfl
/-! the law's own entry -/
set_option maxRecDepth 100000
abbrev cL_law : ByteArray := code
def dkwL_law_0 : List UInt8 := [187, 0, 11, 89, 183, 0, 117, 42, 182, 0, 118, 172]
abbrev dktL_law_0 : List UInt8 := dkwL_law_0 ++ []
theorem dksL_law_0 : cL_law.data.toList.drop 0 = dktL_law_0 := by decide +kernel
theorem dL_law_0 : decode cL_law 0 = .ok (.new 11, 3) := dk_187 0 11 (dk_at dksL_law_0 0 rfl rfl)
theorem dL_law_3 : decode cL_law 3 = .ok (.dup, 1) := dk_89 (dk_at dksL_law_0 3 rfl rfl)
theorem dL_law_4 : decode cL_law 4 = .ok (.invokespecial 117, 3) := dk_183 0 117 (dk_at dksL_law_0 4 rfl rfl)
theorem dL_law_7 : decode cL_law 7 = .ok (.aload_n 0, 1) := dk_42 (dk_at dksL_law_0 7 rfl rfl)
theorem dL_law_8 : decode cL_law 8 = .ok (.invokevirtual 118, 3) := dk_182 0 118 (dk_at dksL_law_0 8 rfl rfl)
theorem dL_law_11 : decode cL_law 11 = .ok (.ireturn, 1) := dk_172 (dk_at dksL_law_0 11 rfl rfl)
theorem q36 : (Jvm.Cond.arrayOver (Jvm.ClassFile.FieldType.object "UltraLogLog")) ∈ lw_tbl := lw_at lw_m1 30 rfl
set_option maxRecDepth 100000
theorem q108 : (Jvm.Cond.arrayClass Jvm.ClassFile.FieldType.byte) ∈ lw_all := lw_g (lw_at lw_m1 102 rfl) rfl
theorem q124 : (Jvm.Cond.arrayOver (Jvm.ClassFile.FieldType.array Jvm.ClassFile.FieldType.long)) ∈ lw_tbl := lw_at lw_m1 118 rfl
theorem q135 : (Jvm.Cond.arrayClass Jvm.ClassFile.FieldType.int) ∈ lw_all := lw_g (lw_at lw_m1 129 rfl) rfl
theorem q136 : (Jvm.Cond.arrayClass Jvm.ClassFile.FieldType.long) ∈ lw_all := lw_g (lw_at lw_m1 130 rfl) rfl
theorem q272 : (Jvm.Cond.sameMethod "[B" "java/lang/Object" "clone" "()Ljava/lang/Object;") ∈ lw_all := lw_g (lw_at lw_m2 26 rfl) rfl
set_option maxRecDepth 100000
theorem q275 : (Jvm.Cond.selects "[B" ({ cls := "[B", name := "clone", desc := "()Ljava/lang/Object;" } : Jvm.MethodName) ({ cls := "java/lang/Object", name := "clone", desc := "()Ljava/lang/Object;" } : Jvm.MethodName)) ∈ lw_all := lw_g (lw_at lw_m2 29 rfl) rfl
theorem q276 : (Jvm.Cond.castable "[B" "java/lang/Cloneable") ∈ lw_tbl := lw_at lw_m2 30 rfl
theorem q20 : (Jvm.Cond.initialized "java/lang/System") ∈ lw_all := lw_g (lw_at lw_m1 14 rfl) rfl
set_option maxRecDepth 100000
theorem q282 : (Jvm.Cond.static ({ cls := "java/lang/System", name := "arraycopy", desc := "(Ljava/lang/Object;ILjava/lang/Object;II)V" } : Jvm.MethodName)) ∈ lw_all := lw_g (lw_at lw_m2 36 rfl) rfl
theorem q283 : (Jvm.Cond.native ({ cls := "java/lang/System", name := "arraycopy", desc := "(Ljava/lang/Object;ILjava/lang/Object;II)V" } : Jvm.MethodName)) ∈ lw_all := lw_g (lw_at lw_m2 37 rfl) rfl
end
section
/-! ROWS OF THIS PROOF'S OWN: arrays at a place nI j, arrays of arrays, joins and loops, calls with their frame, the tables' knowledge KK -/
set_option maxRecDepth 100000
abbrev vwCl : List vw_C := [(RX0, TX0, 3), (RX1, TX1, 1), (RX2, TX2, 1)]
/-- the array classes: 0 int, 1 long, 2 byte, 3 UltraLogLog, 4 long[] -/
abbrev tyA (t : Nat → ClassId) : List (ClassId × FieldType) := [(t 0, .int), (t 1, .long), (t 2, .byte), (t 3, .object "UltraLogLog"), (t 4, .array .long)]
def SR (own : String) (k : Nat) (tx : String) (U : State) : Prop := ∃ a : Nat, vk_R own k tx a U
/-- what every method knows of the tables -/
def KK (D : va_G) (t : Nat → ClassId) (U : State) : Prop :=
  va_K D vwCl (tyA t) U ∧ va_AO "UltraLogLog" U ∧ (Cond.arrayOver (.array .long)).before #[] U = true ∧ va_Nw (.castable "[B" "java/lang/Cloneable") U ∧
  SR "UltraLogLog" 41 "first sketch was null" U ∧ SR "UltraLogLog" 49 "second sketch was null" U ∧ SR "UltraLogLog" 83 "null argument" U
theorem KK.same {D : va_G} {t : Nat → ClassId} {u U : State} (hv : U.vm = u.vm) (h : KK D t u) : KK D t U := by
  have hA : u.vm.Alike U.vm := by rw [hv]; exact Vm.Alike.refl _
  obtain ⟨h1, h2, h3, h4, ⟨a5, h5⟩, ⟨a6, h6⟩, ⟨a7, h7⟩⟩ := h
  exact ⟨va_K.moved hA h1, va_AO.moved hA h2, over_moved hA h3, va_Nw.same rfl hv.symm h4, ⟨a5, vk_R.same hv h5⟩, ⟨a6, vk_R.same hv h6⟩, ⟨a7, vk_R.same hv h7⟩⟩
theorem KK.warm {D : va_G} {t : Nat → ClassId} {s U : State} (hW : s.WarmedH U.vm) (h : KK D t s) : KK D t U := by
  obtain ⟨h1, h2, h3, h4, ⟨a5, h5⟩, ⟨a6, h6⟩, ⟨a7, h7⟩⟩ := h
  exact ⟨va_K.moved hW.alike h1, va_AO.moved hW.alike h2, over_moved hW.alike h3, va_Nw.warmC hW h4, ⟨a5, vk_R.warm hW h5⟩, ⟨a6, vk_R.warm hW h6⟩, ⟨a7, vk_R.warm hW h7⟩⟩
/-- two classes of arrays of one type are one -/
theorem ra_one {s : State} {c1 c2 : ClassId} {ty : FieldType} (h1 : va_RA s c1 ty) (h2 : va_RA s c2 ty) : c1 = c2 := by
  cases ty with
  | object C =>
    obtain ⟨-, -, -, -, -, h3⟩ := h1
    obtain ⟨-, -, -, -, -, h4⟩ := h2
    exact Option.some.inj (h3.symm.trans h4)
  | _ => exact Option.some.inj (Eq.trans (Eq.symm h1) h2)
theorem K_last {D : va_G} {cl : List vw_C} {tys : List (ClassId × FieldType)} {cA : ClassId} {ty : FieldType} {s : State} (h : va_K D cl (tys ++ [(cA, ty)]) s) : va_RA s cA ty := by
  refine (h.2 tys.length (cA, ty) ?_).2
  rw [List.getElem?_append_right (Nat.le_refl _)]
  simp
/-- contents of an array matter at its places alone -/
theorem cell_i {cA : ClassId} {n : Nat} {f g : Nat → Int32} (h : ∀ i, i < n → f i = g i) : vp_cell cA (n, .inl f) = vp_cell cA (n, .inl g) := by
  rw [vp_cell_i, vp_cell_i]
  unfold arrV
  congr 2
  funext i
  exact congrArg Value.int (h i.val i.isLt)
theorem cell_l {cA : ClassId} {n : Nat} {f g : Nat → Int64} (h : ∀ i, i < n → f i = g i) : vp_cell cA (n, .inr (.inl f)) = vp_cell cA (n, .inr (.inl g)) := by
  rw [vp_cell_l, vp_cell_l]
  unfold arrV
  congr 2
  funext i
  exact congrArg Value.long (h i.val i.isLt)
theorem cell_q {cA : ClassId} {n : Nat} {f g : Nat → Option Nat} (h : ∀ i, i < n → f i = g i) : vp_cell cA (n, .inr (.inr (.inr (.inr f)))) = vp_cell cA (n, .inr (.inr (.inr (.inr g)))) := by
  rw [vp_cell_q, vp_cell_q]
  unfold arrV
  congr 2
  funext i
  exact congrArg va_rf (h i.val i.isLt)
theorem asg_self (vm : Vm) (n : Nat) (c : ClassId) : vm.assignableAux (n + 1) c c = true := by
  rw [Vm.assignableAux]
  simp
theorem va_P.chg {D : va_G} {cl : List vw_C} {ws : va_W} {H : Heap} {q0 a : Nat} {cA : ClassId} {x y : vp_A} (h : va_P D cl (ws.set q0 (a, .inl (cA, x))) H) (he : vp_cell cA x = vp_cell cA y) : va_P D cl (ws.set q0 (a, .inl (cA, y))) H := by
  intro k q hk
  by_cases hkq : q0 = k
  · subst hkq
    have hlt : q0 < ws.length := by
      have h1 := (List.getElem?_eq_some_iff.mp hk).1
      simpa using h1
    rw [List.getElem?_set_self hlt] at hk
    cases hk
    have h2 := h q0 (a, .inl (cA, x)) (List.getElem?_set_self hlt)
    show H[a]? = some (vp_cell cA y)
    rw [← he]
    exact h2
  · rw [List.getElem?_set_ne hkq] at hk
    exact h k q (by rw [List.getElem?_set_ne hkq]; exact hk)
/-- one cell's contents said otherwise -/
theorem va_P.say {D : va_G} {cl : List vw_C} {ws : va_W} {H : Heap} (q0 : Nat) {a : Nat} {cA : ClassId} {x y : vp_A} (h : va_P D cl ws H) (hq : ws[q0]? = some (a, .inl (cA, x))) (he : vp_cell cA x = vp_cell cA y) : va_P D cl (ws.set q0 (a, .inl (cA, y))) H := by
  refine va_P.chg (x := x) ?_ he
  have e : ws.set q0 (a, .inl (cA, x)) = ws := by
    refine List.ext_getElem? fun i => ?_
    by_cases hi : q0 = i
    · subst hi
      rw [List.getElem?_set_self (List.getElem?_eq_some_iff.mp hq).1, hq]
    · rw [List.getElem?_set_ne hi]
  rw [e]
  exact h
/-- a method's start over a world of cells -/
abbrev Pw (av : List Value) (D : va_G) (t : Nat → ClassId) (sz : Nat) (ws : va_W) : Array Value → State → Prop := va_Pc av (fun U => KK D t U ∧ U.heap.size = sz ∧ va_P D vwCl ws U.heap ∧ va_D (fun _ => True) ws)
theorem preS_w {s : State} {H : Heap} {av : List Value} {D : va_G} {t : Nat → ClassId} {A : Nat → Prop} {ws : va_W} (hK : KK D t s) (hP : va_P D vwCl ws H) (hD : va_D A ws) : PreS s H (Pw av D t H.size ws) av :=
  ⟨fun a U g mk q => ⟨q.1, KK.same (U := U.calling g mk a) rfl q.2.1, q.2.2⟩, fun U hU hW => ⟨rfl, hK.warm hW, by rw [hU], by rw [hU]; exact hP, hD.weaken (fun _ _ _ _ => trivial)⟩⟩
theorem preV_w {s : State} {H : Heap} {b : Nat} {av : List Value} {D : va_G} {t : Nat → ClassId} {A : Nat → Prop} {ws : va_W} (q0 ci : Nat) {q : vw_C} {fs : List Value} (hK : KK D t s) (hP : va_P D vwCl ws H) (hD : va_D A ws) (hc : vwCl[ci]? = some q) (he : ws[q0]? = some (b, .inr (ci, fs))) : PreV s H q.1 b (Pw (.ref b :: av) D t H.size ws) av :=
  ⟨fun a U g mk q => ⟨q.1, KK.same (U := U.calling g mk a) rfl q.2.1, q.2.2⟩, va_recv hK.1 hP hc he, fun U hU hW => ⟨rfl, hK.warm hW, by rw [hU], by rw [hU]; exact hP, hD.weaken (fun _ _ _ _ => trivial)⟩⟩
/-- a method that touches no cell -/
abbrev Pp (av : List Value) : Array Value → State → Prop := va_Pc av (fun _ => True)
theorem preS_p {s : State} {H : Heap} {av : List Value} : PreS s H (Pp av) av := ⟨fun _ _ _ _ q => ⟨q.1, trivial⟩, fun _ _ _ => ⟨rfl, trivial⟩⟩
/-- a method that reads cells alone -/
abbrev Pr (av : List Value) (D : va_G) (t : Nat → ClassId) (ws : va_W) : Array Value → State → Prop := va_Pc av (fun U => KK D t U ∧ va_P D vwCl ws U.heap)
theorem preS_r {s : State} {H : Heap} {av : List Value} {D : va_G} {t : Nat → ClassId} {ws : va_W} (hK : KK D t s) (hP : va_P D vwCl ws H) : PreS s H (Pr av D t ws) av :=
  ⟨fun a U g mk q => ⟨q.1, KK.same (U := U.calling g mk a) rfl q.2.1, q.2.2⟩, fun U hU hW => ⟨rfl, hK.warm hW, by rw [hU]; exact hP⟩⟩
theorem preV_r {s : State} {H : Heap} {b : Nat} {av : List Value} {D : va_G} {t : Nat → ClassId} {ws : va_W} (q0 ci : Nat) {q : vw_C} {fs : List Value} (hK : KK D t s) (hP : va_P D vwCl ws H) (hc : vwCl[ci]? = some q) (he : ws[q0]? = some (b, .inr (ci, fs))) : PreV s H q.1 b (Pr (.ref b :: av) D t ws) av :=
  ⟨fun a U g mk q => ⟨q.1, KK.same (U := U.calling g mk a) rfl q.2.1, q.2.2⟩, va_recv hK.1 hP hc he, fun U hU hW => ⟨rfl, hK.warm hW, by rw [hU]; exact hP⟩⟩
section R3
variable {p : Program} {l : Launch} {e : Env} {R : Room} {s : State} {m : MethodId} {args : Array Value} {below : List Frame} {meth : Method} {c : Code} {H : Heap} {locs : List Loc} {cells slots : Nat} {Q : State → Prop}
variable {cc : ByteArray} {pc nL : Nat} {ls : Array Slot} {rest st0 : List Value} {D : va_G} {cl : List vw_C} {A : Nat → Prop} {a : Nat} {tys : List (ClassId × FieldType)} {ws : va_W} {H0 : Heap}
theorem w_entry (vs : List Value) {n : Nat} (h : (lg_sl vs).length ≤ n) (k : ∀ ls : Array Slot, lv_has ls n (lv_args 0 vs) → W p l e R s m args below meth c H locs cells slots Q (F0 m 0 ls [])) : W p l e R s m args below meth c H locs cells slots Q (entryFrame m vs.toArray n) := by
  rw [lg_entry_eq]
  exact k _ (lv_entry vs h)
theorem xr_iald (hx : p.tables.exec = Jvm.exec) (hb : c.code = cc) (hK : va_K D cl tys s) (hP : va_P D cl ws H) (q0 t0 : Nat) {cA : ClassId} {n : Nat} {f : Nat → Int32} (ha : ws[q0]? = some (a, .inl (cA, n, .inl f))) (ht : tys[t0]? = some (cA, .int)) {j : Nat} (hj : j < n) (hn : n < 2 ^ 31) {v : Int32} (hv : f j = v) (hdg : decode cc pc = .ok (.iaload, 1))
    (kk : W p l e R s m args below meth c H locs cells slots Q (F0 m (pc + 1) ls (.int v :: rest))) : W p l e R s m args below meth c H locs cells slots Q (F0 m pc ls (.int (nI j) :: .ref a :: rest)) := by
  refine va_iald hx hb hK hP q0 t0 ha ht (vp_in_nI hj hn) hdg ?_
  rw [nI_clamp (Nat.lt_trans hj hn), hv]
  exact kk
theorem xr_bald (hx : p.tables.exec = Jvm.exec) (hb : c.code = cc) (hK : va_K D cl tys s) (hP : va_P D cl ws H) (q0 t0 : Nat) {cA : ClassId} {n : Nat} {f : Nat → Int32} (ha : ws[q0]? = some (a, .inl (cA, n, .inl f))) (ht : tys[t0]? = some (cA, .byte)) {j : Nat} (hj : j < n) (hn : n < 2 ^ 31) {v : Int32} (hv : f j = v) (hdg : decode cc pc = .ok (.baload, 1))
    (kk : W p l e R s m args below meth c H locs cells slots Q (F0 m (pc + 1) ls (.int v :: rest))) : W p l e R s m args below meth c H locs cells slots Q (F0 m pc ls (.int (nI j) :: .ref a :: rest)) := by
  refine va_bald hx hb hK hP q0 t0 ha ht (vp_in_nI hj hn) hdg ?_
  rw [nI_clamp (Nat.lt_trans hj hn), hv]
  exact kk
theorem xr_lald (hx : p.tables.exec = Jvm.exec) (hb : c.code = cc) (hK : va_K D cl tys s) (hP : va_P D cl ws H) (q0 t0 : Nat) {cA : ClassId} {n : Nat} {f : Nat → Int64} (ha : ws[q0]? = some (a, .inl (cA, n, .inr (.inl f)))) (ht : tys[t0]? = some (cA, .long)) {j : Nat} (hj : j < n) (hn : n < 2 ^ 31) {v : Int64} (hv : f j = v) (hdg : decode cc pc = .ok (.laload, 1))
    (kk : W p l e R s m args below meth c H locs cells slots Q (F0 m (pc + 1) ls (.long v :: rest))) : W p l e R s m args below meth c H locs cells slots Q (F0 m pc ls (.int (nI j) :: .ref a :: rest)) := by
  refine va_lald hx hb hK hP q0 t0 ha ht (vp_in_nI hj hn) hdg ?_
  rw [nI_clamp (Nat.lt_trans hj hn), hv]
  exact kk
theorem xr_aald (hx : p.tables.exec = Jvm.exec) (hb : c.code = cc) (hK : va_K D cl tys s) (hP : va_P D cl ws H) (q0 t0 : Nat) {cA : ClassId} {ty : FieldType} (hty : ty.isReference = true) {n : Nat} {f : Nat → Option Nat} (ha : ws[q0]? = some (a, .inl (cA, n, .inr (.inr (.inr (.inr f)))))) (ht : tys[t0]? = some (cA, ty)) {j : Nat} (hj : j < n) (hn : n < 2 ^ 31) {v : Nat} (hv : f j = some v) (hdg : decode cc pc = .ok (.aaload, 1))
    (kk : W p l e R s m args below meth c H locs cells slots Q (F0 m (pc + 1) ls (.ref v :: rest))) : W p l e R s m args below meth c H locs cells slots Q (F0 m pc ls (.int (nI j) :: .ref a :: rest)) := by
  refine W.aald (v := .ref v) (ty := ty) hx hb (hP q0 _ ha) ((hK.2 t0 _ ht).1 n (fun j => va_rf (f j))) hty (fun q => by cases q) ?_ ?_ rfl rfl hdg kk
  · show ¬ (nI j < 0 ∨ (arrV _ _ _).slots.size ≤ _)
    rw [arrV_size]
    exact vp_in_nI hj hn
  · show (arrV _ _ _).slots[_]? = _
    rw [nI_clamp (Nat.lt_trans hj hn), arrV_read _ _ hj, hv]
    rfl
theorem xr_iast (hx : p.tables.exec = Jvm.exec) (hb : c.code = cc) (hK : va_K D cl tys s) (hP : va_P D cl ws H) (hD : va_D A ws) (hS : va_S A H0 H locs) (q0 t0 : Nat) {cA : ClassId} {n : Nat} {f : Nat → Int32} (g : Nat → Int32) (ha : ws[q0]? = some (a, .inl (cA, n, .inl f))) (ht : tys[t0]? = some (cA, .int)) {j : Nat} {x : Int32} (hj : j < n) (hn : n < 2 ^ 31) (hg : ∀ i, i < n → (if i = j then x else f i) = g i) (hdg : decode cc pc = .ok (.iastore, 1))
    (kk : ∀ (H1 : Heap) (locs1 : List Loc), va_P D cl (ws.set q0 (a, .inl (cA, n, .inl g))) H1 → va_D A (ws.set q0 (a, .inl (cA, n, .inl g))) → va_S A H0 H1 locs1 → W p l e R s m args below meth c H1 locs1 cells slots Q (F0 m (pc + 1) ls rest)) : W p l e R s m args below meth c H locs cells slots Q (F0 m pc ls (.int x :: .int (nI j) :: .ref a :: rest)) := by
  refine va_iast hx hb hK hP hD hS q0 t0 ha ht (vp_in_nI hj hn) hdg (fun H1 locs1 h1 _ h3 => kk H1 locs1 (va_P.chg h1 (cell_i fun i hi => ?_)) (hD.set ha) h3)
  rw [nI_clamp (Nat.lt_trans hj hn)]
  exact hg i hi
theorem xr_bast (hx : p.tables.exec = Jvm.exec) (hb : c.code = cc) (hK : va_K D cl tys s) (hP : va_P D cl ws H) (hD : va_D A ws) (hS : va_S A H0 H locs) (q0 t0 : Nat) {cA : ClassId} {n : Nat} {f : Nat → Int32} (g : Nat → Int32) (ha : ws[q0]? = some (a, .inl (cA, n, .inl f))) (ht : tys[t0]? = some (cA, .byte)) {j : Nat} {x : Int32} (hj : j < n) (hn : n < 2 ^ 31) (hg : ∀ i, i < n → (if i = j then x.toInt8.toInt32 else f i) = g i) (hdg : decode cc pc = .ok (.bastore, 1))
    (kk : ∀ (H1 : Heap) (locs1 : List Loc), va_P D cl (ws.set q0 (a, .inl (cA, n, .inl g))) H1 → va_D A (ws.set q0 (a, .inl (cA, n, .inl g))) → va_S A H0 H1 locs1 → W p l e R s m args below meth c H1 locs1 cells slots Q (F0 m (pc + 1) ls rest)) : W p l e R s m args below meth c H locs cells slots Q (F0 m pc ls (.int x :: .int (nI j) :: .ref a :: rest)) := by
  refine va_bast hx hb hK hP hD hS q0 t0 ha ht (vp_in_nI hj hn) hdg (fun H1 locs1 h1 _ h3 => kk H1 locs1 (va_P.chg h1 (cell_i fun i hi => ?_)) (hD.set ha) h3)
  rw [nI_clamp (Nat.lt_trans hj hn)]
  exact hg i hi
theorem xr_last (hx : p.tables.exec = Jvm.exec) (hb : c.code = cc) (hK : va_K D cl tys s) (hP : va_P D cl ws H) (hD : va_D A ws) (hS : va_S A H0 H locs) (q0 t0 : Nat) {cA : ClassId} {n : Nat} {f : Nat → Int64} (g : Nat → Int64) (ha : ws[q0]? = some (a, .inl (cA, n, .inr (.inl f)))) (ht : tys[t0]? = some (cA, .long)) {j : Nat} {x : Int64} (hj : j < n) (hn : n < 2 ^ 31) (hg : ∀ i, i < n → (if i = j then x else f i) = g i) (hdg : decode cc pc = .ok (.lastore, 1))
    (kk : ∀ (H1 : Heap) (locs1 : List Loc), va_P D cl (ws.set q0 (a, .inl (cA, n, .inr (.inl g)))) H1 → va_D A (ws.set q0 (a, .inl (cA, n, .inr (.inl g)))) → va_S A H0 H1 locs1 → W p l e R s m args below meth c H1 locs1 cells slots Q (F0 m (pc + 1) ls rest)) : W p l e R s m args below meth c H locs cells slots Q (F0 m pc ls (.long x :: .int (nI j) :: .ref a :: rest)) := by
  refine va_last hx hb hK hP hD hS q0 t0 ha ht (vp_in_nI hj hn) hdg (fun H1 locs1 h1 _ h3 => kk H1 locs1 (va_P.chg h1 (cell_l fun i hi => ?_)) (hD.set ha) h3)
  rw [nI_clamp (Nat.lt_trans hj hn)]
  exact hg i hi
theorem xr_aast (hx : p.tables.exec = Jvm.exec) (hb : c.code = cc) (hK : va_K D cl tys s) (hP : va_P D cl ws H) (hD : va_D A ws) (hS : va_S A H0 H locs) (q0 t0 qk ci : Nat) {cA : ClassId} {r : vw_C} {n v : Nat} {vs : List Value} {f : Nat → Option Nat} (g : Nat → Option Nat) (ha : ws[q0]? = some (a, .inl (cA, n, .inr (.inr (.inr (.inr f)))))) (ht : tys[t0]? = some (cA, .object r.1)) (hv : ws[qk]? = some (v, .inr (ci, vs))) (hc : cl[ci]? = some r) {j : Nat} (hj : j < n) (hn : n < 2 ^ 31) (hg : ∀ i, i < n → (if i = j then some v else f i) = g i) (hdg : decode cc pc = .ok (.aastore, 1))
    (kk : ∀ (H1 : Heap) (locs1 : List Loc), va_P D cl (ws.set q0 (a, .inl (cA, n, .inr (.inr (.inr (.inr g)))))) H1 → va_D A (ws.set q0 (a, .inl (cA, n, .inr (.inr (.inr (.inr g)))))) → va_S A H0 H1 locs1 → W p l e R s m args below meth c H1 locs1 cells slots Q (F0 m (pc + 1) ls rest)) : W p l e R s m args below meth c H locs cells slots Q (F0 m pc ls (.ref v :: .int (nI j) :: .ref a :: rest)) := by
  refine va_astq hx hb hK hP hD hS q0 t0 qk ci ha ht hv hc (vp_in_nI hj hn) hdg (fun H1 locs1 h1 _ h3 => kk H1 locs1 (va_P.chg h1 (cell_q fun i hi => ?_)) (hD.set ha) h3)
  rw [nI_clamp (Nat.lt_trans hj hn)]
  exact hg i hi
/-- an array of longs put into an array of such arrays -/
theorem xr_aastA (hx : p.tables.exec = Jvm.exec) (hb : c.code = cc) (hover : (Cond.arrayOver (.array .long)).before #[] s = true) (hK : va_K D cl tys s) (hP : va_P D cl ws H) (hD : va_D A ws) (hS : va_S A H0 H locs) (q0 t0 qk t1 : Nat) {cA cV : ClassId} {n v : Nat} {x : vp_A} {f : Nat → Option Nat} (g : Nat → Option Nat) (ha : ws[q0]? = some (a, .inl (cA, n, .inr (.inr (.inr (.inr f)))))) (ht : tys[t0]? = some (cA, .array .long)) (hv : ws[qk]? = some (v, .inl (cV, x))) (ht1 : tys[t1]? = some (cV, .long)) {j : Nat} (hj : j < n) (hn : n < 2 ^ 31) (hg : ∀ i, i < n → (if i = j then some v else f i) = g i) (hdg : decode cc pc = .ok (.aastore, 1))
    (kk : ∀ (H1 : Heap) (locs1 : List Loc), va_P D cl (ws.set q0 (a, .inl (cA, n, .inr (.inr (.inr (.inr g)))))) H1 → va_D A (ws.set q0 (a, .inl (cA, n, .inr (.inr (.inr (.inr g)))))) → va_S A H0 H1 locs1 → W p l e R s m args below meth c H1 locs1 cells slots Q (F0 m (pc + 1) ls rest)) : W p l e R s m args below meth c H locs cells slots Q (F0 m pc ls (.ref v :: .int (nI j) :: .ref a :: rest)) := by
  obtain ⟨comp, cA2, kA, k3, -, k1, k2, k4⟩ := arrayOverA_spec hover
  have hcA : cA2 = cA := Option.some.inj (k4.symm.trans (hK.2 t0 _ ht).2)
  subst hcA
  have hcV : s.vm.findClass "[J" = some cV := by
    have h := (hK.2 t1 _ ht1).2
    have e : "[" ++ FieldType.long.toString = "[J" := by decide +kernel
    rw [← e]
    exact h
  have hcomp : s.vm.findClass "[J" = some comp := by
    have e : (FieldType.array FieldType.long).toString = "[J" := by decide +kernel
    rw [← e]
    exact k3
  have ec : cV = comp := Option.some.inj (hcV.symm.trans hcomp)
  subst ec
  obtain ⟨kE, hkE, -⟩ := Vm.findClass_spec hcV
  have h0 : ¬ nI j < 0 := fun q => vp_in_nI hj hn (Or.inl q)
  refine W.aast hx hb (hP q0 _ ha) (fun q h => by cases h) (fun h => by cases h) k1 k2 rfl hkE ⟨h0, ?_⟩ (hP qk _ hv) (fun q h => ?_) (kv := kE) ?_ ?_ rfl rfl hdg fun H1 e z oq => ?_
  · show _ < (arrV _ _ _).slots.size
    rw [arrV_size, nI_clamp (Nat.lt_trans hj hn)]
    exact hj
  · obtain ⟨xn, xf⟩ := x
    rcases xf with f | f | f | f | f <;> cases h
  · have : (vp_cell cV x).cls = cV := by
      obtain ⟨xn, xf⟩ := x
      rcases xf with f | f | f | f | f <;> rfl
    show s.vm.classes[(vp_cell cV x).cls]? = some kE
    rw [this]
    exact hkE
  · have : (vp_cell cV x).cls = cV := by
      obtain ⟨xn, xf⟩ := x
      rcases xf with f | f | f | f | f <;> rfl
    show s.vm.assignable (vp_cell cV x).cls cV = true
    rw [this]
    exact asg_self s.vm 255 cV
  · refine kk H1 _ (hP.set hD ha ?_ oq) (hD.set ha) (hS.put z oq (hD.2 q0 _ ha))
    show H1[a]? = some (vp_cell _ _)
    rw [e, nI_clamp (Nat.lt_trans hj hn), ← cell_q hg]
    show some ((vp_cell _ _).setSlot _ _) = _
    rw [vp_cell_q, vp_cell_q, arrV_store]
    congr 2
    funext q
    by_cases hq : q = j
    · subst hq
      simp [updV, va_rf]
    · simp [updV, hq]
/-- a new array of arrays of longs -/
theorem xr_newqA (hx : p.tables.exec = Jvm.exec) (hb : c.code = cc) {own : String} {index : Nat} (hown : s.vm.findClass own = some m.cls) (hclink : (Cond.classLink own index "[J").before args s = true) (hover : (Cond.arrayOver (.array .long)).before #[] s = true) (hK : va_K D cl tys s) (hP : va_P D cl ws H) (hD : va_D A ws) (hS : va_S A H0 H locs) (hA : ∀ q, H0.size ≤ q → A q) (t0 : Nat) {cA : ClassId} (ht : tys[t0]? = some (cA, .array .long))
    {n : Int32} {N' : Nat} (hn : ¬ n < 0) (hN : n.toNatClampNeg = N') (hbytes : N' * 4 ≤ 536870912) (hcells : cells + 1 ≤ R.cells) (hslots : slots + N' ≤ R.slots) (hdg : decode cc pc = .ok (.anewarray index, 3))
    (kk : ∀ (q : Nat) (H1 : Heap), va_P D cl (ws ++ [(q, .inl (cA, N', .inr (.inr (.inr (.inr (fun _ => none))))))]) H1 → va_D A (ws ++ [(q, .inl (cA, N', .inr (.inr (.inr (.inr (fun _ => none))))))]) → va_S A H0 H1 locs →
      W p l e R s m args below meth c H1 locs (cells + 1) (slots + N') Q (F0 m (pc + 3) ls (.ref q :: rest))) : W p l e R s m args below meth c H locs cells slots Q (F0 m pc ls (.int n :: rest)) := by
  subst hN
  have e9 : (FieldType.array FieldType.long).toString = "[J" := by decide +kernel
  refine W.anewA (t := .long) hx hb hown (by rw [e9]; exact hclink) (over_moved (Vm.Alike.refl _) hover) rfl hdg rfl hn hbytes hcells hslots fun cA2 kA comp f1 f2 f3 f4 => ?_
  have hcA : cA2 = cA := Option.some.inj (f1.symm.trans (hK.2 t0 _ ht).2)
  subst hcA
  generalize hH1 : H.push ({ cls := cA2, slots := Array.replicate n.toNatClampNeg .null, vm := .none } : Cell) = H1
  have z1 : H1.size = H.size + 1 := by rw [← hH1, Array.size_push]
  have e1 : H1[H.size]? = some (arrV cA2 n.toNatClampNeg (fun _ => .null)) := by rw [← hH1, Array.getElem?_push_size, ← arrV_new]
  have o1 : ∀ q : Nat, q < H.size → H1[q]? = H[q]? := fun q hq => by rw [← hH1, Array.getElem?_push, if_neg (Nat.ne_of_lt hq)]
  have hk : ∀ (k : Nat) (x : Nat × va_E), ws[k]? = some x → H1[x.1]? = H[x.1]? := fun k x hx => o1 x.1 ((hP k x hx).lt)
  refine kk H.size H1 ((hP.kept hk).app (fun k x hx => ?_)) (hD.push hP rfl (hA _ hS.1)) ⟨Nat.le_trans hS.1 (by omega), fun x h1 h2 => (o1 x (Nat.lt_of_lt_of_le h1 hS.1)).trans (hS.2.1 x h1 h2), hS.2.2⟩
  have hz : k < 1 := (List.getElem?_eq_some_iff.mp hx).1
  rw [show k = 0 by omega] at hx
  cases hx
  show H1[H.size]? = some (vp_cell _ _)
  rw [vp_cell_q]
  exact e1
/-- a new array, its class being known -/
theorem xr_newa (hx : p.tables.exec = Jvm.exec) (hb : c.code = cc) {atype : ArrayType} (harr : (Cond.arrayClass (newarray.typeOf atype)).before args s = true) {ty : FieldType} (hty : newarray.typeOf atype = ty) (hK : va_K D cl tys s) (hP : va_P D cl ws H) (hD : va_D A ws) (hS : va_S A H0 H locs) (hA : ∀ q, H0.size ≤ q → A q) (t0 : Nat) {cA : ClassId} (ht : tys[t0]? = some (cA, ty))
    {n : Int32} {N' : Nat} {a0 : vp_A} (ha : ∀ cA : ClassId, vp_cell cA a0 = arrV cA N' (fun _ => defaultValue ty)) (hn : ¬ n < 0) (hN : n.toNatClampNeg = N') (hbytes : N' * componentBytes ty ≤ 536870912) (hcells : cells + 1 ≤ R.cells) (hslots : slots + N' ≤ R.slots) (hdg : decode cc pc = .ok (.newarray atype, 2))
    (kk : ∀ (q : Nat) (H1 : Heap), va_P D cl (ws ++ [(q, .inl (cA, a0))]) H1 → va_D A (ws ++ [(q, .inl (cA, a0))]) → va_S A H0 H1 locs →
      W p l e R s m args below meth c H1 locs (cells + 1) (slots + N') Q (F0 m (pc + 2) ls (.ref q :: rest))) : W p l e R s m args below meth c H locs cells slots Q (F0 m pc ls (.int n :: rest)) := by
  refine va_newa hx hb harr hty hK hP hD hS hA ha hn hN hbytes hcells hslots hdg fun q cA2 H1 hK1 h1 h2 h3 => ?_
  have hcA : cA2 = cA := ra_one (K_last hK1) (hK.2 t0 _ ht).2
  subst hcA
  exact kk q H1 h1 h2 h3
/-- a new array of objects, its class being known -/
theorem xr_newq (hx : p.tables.exec = Jvm.exec) (hb : c.code = cc) {own C : String} {index : Nat} (hown : s.vm.findClass own = some m.cls) (hclink : (Cond.classLink own index C).before args s = true) (hover : va_AO C s) (hK : va_K D cl tys s) (hP : va_P D cl ws H) (hD : va_D A ws) (hS : va_S A H0 H locs) (hA : ∀ q, H0.size ≤ q → A q) (t0 : Nat) {cA : ClassId} (ht : tys[t0]? = some (cA, .object C))
    {n : Int32} {N' : Nat} (hn : ¬ n < 0) (hN : n.toNatClampNeg = N') (hbytes : N' * 4 ≤ 536870912) (hcells : cells + 1 ≤ R.cells) (hslots : slots + N' ≤ R.slots) (hdg : decode cc pc = .ok (.anewarray index, 3))
    (kk : ∀ (q : Nat) (H1 : Heap), va_P D cl (ws ++ [(q, .inl (cA, N', .inr (.inr (.inr (.inr (fun _ => none))))))]) H1 → va_D A (ws ++ [(q, .inl (cA, N', .inr (.inr (.inr (.inr (fun _ => none))))))]) → va_S A H0 H1 locs →
      W p l e R s m args below meth c H1 locs (cells + 1) (slots + N') Q (F0 m (pc + 3) ls (.ref q :: rest))) : W p l e R s m args below meth c H locs cells slots Q (F0 m pc ls (.int n :: rest)) := by
  refine va_newq hx hb hown hclink hover hK hP hD hS hA hn hN hbytes hcells hslots hdg fun q cA2 H1 hK1 h1 h2 h3 => ?_
  have hcA : cA2 = cA := ra_one (K_last hK1) (hK.2 t0 _ ht).2
  subst hcA
  exact kk q H1 h1 h2 h3
/-- two ways that meet again -/
theorem W_join {α : Type} {pcJ : Nat} (lv : α → List (Nat × Value)) (I : α → Prop) {g : JFrame} (J : ∀ (b : α) (ls1 : Array Slot), I b → lv_has ls1 nL (lv b) → W p l e R s m args below meth c H locs cells slots Q (F0 m pcJ ls1 []))
    (k : (∀ (b : α) (ls1 : Array Slot), I b → lv_has ls1 nL (lv b) → W p l e R s m args below meth c H locs cells slots Q (F0 m pcJ ls1 [])) → W p l e R s m args below meth c H locs cells slots Q g) : W p l e R s m args below meth c H locs cells slots Q g := k J
/-- a loop at its head -/
theorem W_loop {α : Type} (I : α → Heap → List Loc → Prop) (lv : α → List (Nat × Value)) (mu : α → Nat) (ce sl : α → Nat)
    (body : ∀ (b : α) (H1 : Heap) (locs1 : List Loc) (ls1 : Array Slot), I b H1 locs1 → lv_has ls1 nL (lv b) →
      (∀ (b2 : α) (H2 : Heap) (locs2 : List Loc) (ls2 : Array Slot), mu b2 < mu b → I b2 H2 locs2 → lv_has ls2 nL (lv b2) → W p l e R s m args below meth c H2 locs2 (ce b2) (sl b2) Q (F0 m pc ls2 [])) →
      W p l e R s m args below meth c H1 locs1 (ce b) (sl b) Q (F0 m pc ls1 []))
    (b : α) (hI : I b H locs) (hl : lv_has ls nL (lv b)) : W p l e R s m args below meth c H locs (ce b) (sl b) Q (F0 m pc ls []) := by
  have key : ∀ (n : Nat) (b : α) (H1 : Heap) (locs1 : List Loc) (ls1 : Array Slot), mu b < n → I b H1 locs1 → lv_has ls1 nL (lv b) → W p l e R s m args below meth c H1 locs1 (ce b) (sl b) Q (F0 m pc ls1 []) := by
    intro n
    induction n with
    | zero => intro b _ _ _ h; exact absurd h (Nat.not_lt_zero _)
    | succ n ih =>
      intro b H1 locs1 ls1 h hI hl
      exact body b H1 locs1 ls1 hI hl (fun b2 H2 locs2 ls2 h2 hI2 hl2 => ih b2 H2 locs2 ls2 (by omega) hI2 hl2)
  exact key (mu b + 1) b H locs ls (Nat.lt_succ_self _) hI hl
end R3
/-- the shapes of what a method leaves -/
abbrev Qv {S : Type} (D : va_G) (ws : va_W) (sz : Nat) (post : S → Prop) (Wd : S → va_W) : Array Value → State → Outcome → State → Prop := va_Qv post (fun u t => va_P D vwCl (Wd u) t.heap ∧ va_D (va_A ws sz) (Wd u)) (va_A ws sz)
abbrev Qi {S : Type} (D : va_G) (ws : va_W) (sz : Nat) (post : Int32 → S → Prop) (Wd : S → va_W) : Array Value → State → Outcome → State → Prop := va_Qi post (fun u t => va_P D vwCl (Wd u) t.heap ∧ va_D (va_A ws sz) (Wd u)) (va_A ws sz)
abbrev Qr {S : Type} (D : va_G) (ws : va_W) (sz : Nat) (post : S → Prop) (Wd : S → Nat → va_W) : Array Value → State → Outcome → State → Prop := va_Qr post (fun u z t => va_P D vwCl (Wd u z) t.heap ∧ va_D (va_A ws sz) (Wd u z)) (va_A ws sz)
/-- an answer that is known -/
abbrev Qh {S : Type} (D : va_G) (ws : va_W) (sz : Nat) (z0 : Nat) (post : S → Prop) (Wd : S → va_W) : Array Value → State → Outcome → State → Prop := va_Qr post (fun u z t => z = z0 ∧ va_P D vwCl (Wd u) t.heap ∧ va_D (va_A ws sz) (Wd u)) (va_A ws sz)
section R4
variable {p : Program} {l : Launch} {e : Env} {R : Room} {s : State} {m : MethodId} {args : Array Value} {below : List Frame} {meth : Method} {c : Code} {H : Heap} {locs : List Loc} {cells slots : Nat} {Q : State → Prop}
variable {pc : Nat} {ls : Array Slot} {rest st0 : List Value} {D : va_G} {A : Nat → Prop} {ws : va_W} {H0 : Heap}
theorem A_all (hD : va_D A ws) (hS : va_S A H0 H locs) (hA : ∀ q, H0.size ≤ q → A q) : ∀ q, va_A ws H.size q → A q := by
  intro q h
  rcases h with ⟨k, e, h⟩ | h
  · exact hD.2 k (q, e) h
  · exact hA q (Nat.le_trans hS.1 h)
/-- calls that are given the whole world -/
theorem cw_v {S : Type} {post : S → Prop} {Wd : S → va_W} {av : Array Value} {mc ms : Nat} (hr : va_Run p l e R s m args below meth c H locs cells slots mc ms (F0 m pc ls st0) rest (Qv D ws H.size post Wd av) (va_A ws H.size)) (hD : va_D A ws) (hS : va_S A H0 H locs) (hA : ∀ q, H0.size ≤ q → A q)
    (kk : ∀ (u : S) (H1 : Heap) (locs1 : List Loc), post u → va_P D vwCl (Wd u) H1 → va_D A (Wd u) → va_S A H0 H1 locs1 → W p l e R s m args below meth c H1 locs1 (cells + mc) (slots + ms) Q (F0 m (pc + 3) ls rest)) : W p l e R s m args below meth c H locs cells slots Q (F0 m pc ls st0) := by
  have hF := A_all hD hS hA
  refine va_callv hr hS (fun q _ h => hF q h) hF (fun u t H1 locs1 ht hvm hp hB hz hk hS1 => ?_)
  obtain ⟨hP1, hD1⟩ := hB
  rw [ht] at hP1
  exact kk u H1 locs1 hp hP1 (hD1.weaken (fun _ q _ h => hF q.1 h)) hS1
theorem cw_i {S : Type} {post : Int32 → S → Prop} {Wd : S → va_W} {av : Array Value} {mc ms : Nat} (hr : va_Run p l e R s m args below meth c H locs cells slots mc ms (F0 m pc ls st0) rest (Qi D ws H.size post Wd av) (va_A ws H.size)) (hD : va_D A ws) (hS : va_S A H0 H locs) (hA : ∀ q, H0.size ≤ q → A q)
    (kk : ∀ (r : Int32) (u : S) (H1 : Heap) (locs1 : List Loc), post r u → va_P D vwCl (Wd u) H1 → va_D A (Wd u) → va_S A H0 H1 locs1 → W p l e R s m args below meth c H1 locs1 (cells + mc) (slots + ms) Q (F0 m (pc + 3) ls (.int r :: rest))) : W p l e R s m args below meth c H locs cells slots Q (F0 m pc ls st0) := by
  have hF := A_all hD hS hA
  refine va_calli hr hS (fun q _ h => hF q h) hF (fun r u t H1 locs1 ht hvm hp hB hz hk hS1 => ?_)
  obtain ⟨hP1, hD1⟩ := hB
  rw [ht] at hP1
  exact kk r u H1 locs1 hp hP1 (hD1.weaken (fun _ q _ h => hF q.1 h)) hS1
theorem cw_r {S : Type} {post : S → Prop} {Wd : S → Nat → va_W} {av : Array Value} {mc ms : Nat} (hr : va_Run p l e R s m args below meth c H locs cells slots mc ms (F0 m pc ls st0) rest (Qr D ws H.size post Wd av) (va_A ws H.size)) (hD : va_D A ws) (hS : va_S A H0 H locs) (hA : ∀ q, H0.size ≤ q → A q)
    (kk : ∀ (u : S) (z : Nat) (H1 : Heap) (locs1 : List Loc), post u → va_P D vwCl (Wd u z) H1 → va_D A (Wd u z) → va_S A H0 H1 locs1 → W p l e R s m args below meth c H1 locs1 (cells + mc) (slots + ms) Q (F0 m (pc + 3) ls (.ref z :: rest))) : W p l e R s m args below meth c H locs cells slots Q (F0 m pc ls st0) := by
  have hF := A_all hD hS hA
  refine va_callr hr hS (fun q _ h => hF q h) hF (fun u z t H1 locs1 ht hvm hp hB hz hk hS1 => ?_)
  obtain ⟨hP1, hD1⟩ := hB
  rw [ht] at hP1
  exact kk u z H1 locs1 hp hP1 (hD1.weaken (fun _ q _ h => hF q.1 h)) hS1
theorem cw_h {S : Type} {z0 : Nat} {post : S → Prop} {Wd : S → va_W} {av : Array Value} {mc ms : Nat} (hr : va_Run p l e R s m args below meth c H locs cells slots mc ms (F0 m pc ls st0) rest (Qh D ws H.size z0 post Wd av) (va_A ws H.size)) (hD : va_D A ws) (hS : va_S A H0 H locs) (hA : ∀ q, H0.size ≤ q → A q)
    (kk : ∀ (u : S) (H1 : Heap) (locs1 : List Loc), post u → va_P D vwCl (Wd u) H1 → va_D A (Wd u) → va_S A H0 H1 locs1 → W p l e R s m args below meth c H1 locs1 (cells + mc) (slots + ms) Q (F0 m (pc + 3) ls (.ref z0 :: rest))) : W p l e R s m args below meth c H locs cells slots Q (F0 m pc ls st0) := by
  have hF := A_all hD hS hA
  refine va_callr hr hS (fun q _ h => hF q h) hF (fun u z t H1 locs1 ht hvm hp hB hz hk hS1 => ?_)
  obtain ⟨rfl, hP1, hD1⟩ := hB
  rw [ht] at hP1
  exact kk u H1 locs1 hp hP1 (hD1.weaken (fun _ q _ h => hF q.1 h)) hS1
end R4
theorem preV_p {s : State} {H : Heap} {b : Nat} {av : List Value} {D : va_G} {t : Nat → ClassId} {ws : va_W} (q0 ci : Nat) {q : vw_C} {fs : List Value} (hK : KK D t s) (hP : va_P D vwCl ws H) (hc : vwCl[ci]? = some q) (he : ws[q0]? = some (b, .inr (ci, fs))) : PreV s H q.1 b (Pp (.ref b :: av)) av :=
  ⟨fun _ _ _ _ q => ⟨q.1, trivial⟩, va_recv hK.1 hP hc he, fun _ _ _ => ⟨rfl, trivial⟩⟩
/-- places in a world -/
theorem ws_ne {ws : va_W} {a b : Nat} {q x : Nat × va_E} (hab : a ≠ b) (h : ws[a]? = some q) : (ws.set b x)[a]? = some q := by
  rw [List.getElem?_set_ne (Ne.symm hab)]
  exact h
theorem ws_eq {ws : va_W} {b : Nat} {q x : Nat × va_E} (h : ws[b]? = some q) : (ws.set b x)[b]? = some x := List.getElem?_set_self (List.getElem?_eq_some_iff.mp h).1
theorem ws_ss {ws : va_W} {b : Nat} {x y : Nat × va_E} : (ws.set b x).set b y = ws.set b y := List.set_set ..
theorem ws_id {ws : va_W} {b : Nat} {x : Nat × va_E} (h : ws[b]? = some x) : ws.set b x = ws := by
  refine List.ext_getElem? fun i => ?_
  by_cases hi : b = i
  · subst hi
    rw [List.getElem?_set_self (List.getElem?_eq_some_iff.mp h).1, h]
  · rw [List.getElem?_set_ne hi]
theorem ws_app {ws xs : va_W} {a : Nat} {q : Nat × va_E} (h : ws[a]? = some q) : (ws ++ xs)[a]? = some q := by
  rw [List.getElem?_append_left (List.getElem?_eq_some_iff.mp h).1]
  exact h
theorem ws_new {ws xs : va_W} (k : Nat) {q : Nat × va_E} (h : xs[k]? = some q) : (ws ++ xs)[ws.length + k]? = some q := by
  rw [List.getElem?_append_right (Nat.le_add_right _ _), Nat.add_sub_cancel_left]
  exact h
theorem ws_setn {ws xs : va_W} (k : Nat) {x : Nat × va_E} : (ws ++ xs).set (ws.length + k) x = ws ++ xs.set k x := by
  rw [List.set_append_right _ _ (Nat.le_add_right _ _), Nat.add_sub_cancel_left]
theorem ws_seta {ws xs : va_W} {a : Nat} {q x : Nat × va_E} (h : ws[a]? = some q) : (ws ++ xs).set a x = ws.set a x ++ xs := List.set_append_left _ _ (List.getElem?_eq_some_iff.mp h).1
theorem ws_oa {ws : va_W} {a b x y : Nat} {o : Nat × List Value} {z : ClassId × vp_A} (ha : ws[a]? = some (x, .inr o)) (hb : ws[b]? = some (y, .inl z)) : a ≠ b := by
  intro h
  subst h
  rw [ha] at hb
  cases hb
end
section
/-! PLAIN LAWS: numbers (the wb and g families of kit/laws/BITS, and our own) -/
set_option maxRecDepth 100000
/-! ===== lN n to 2^64: shifts, and, or, masks, one bit ===== -/
theorem wb_tb (n : Nat) : (lN n).toBitVec = BitVec.ofNat 64 n := rfl
theorem wb_inj {a b : Int64} (h : a.toBitVec = b.toBitVec) : a = b := Int64.toBitVec_inj.mp h
theorem wb_tn {n : Nat} (h : n < 2 ^ 64) : (lN n).toBitVec.toNat = n := by rw [wb_tb, BitVec.toNat_ofNat, Nat.mod_eq_of_lt h]
theorem wb_of (x : Int64) : ∃ n, n < 2 ^ 64 ∧ x = lN n := ⟨x.toBitVec.toNat, x.toBitVec.isLt, wb_inj (by rw [wb_tb]; simp)⟩
theorem wb_of32 (x : Int32) : ∃ n, n < 2 ^ 32 ∧ x = nI n := ⟨x.toBitVec.toNat, x.toBitVec.isLt, Int32.toBitVec_inj.mp (by show _ = BitVec.ofNat 32 _; simp)⟩
theorem wb_c : ∀ k, k < 64 → ((nI k).toInt64 &&& 63) = lN k := by decide +kernel
theorem wb_cu : ∀ k, k < 64 → ((nI k).toInt64.toUInt64 &&& Int64.toUInt64 63) = UInt64.ofNat k := by decide +kernel
theorem wb_sm : ∀ k, k < 64 → (BitVec.ofNat 64 k).smod 64 = BitVec.ofNat 64 k := by decide +kernel
theorem wb_pw {a b : Nat} (h : a ≤ b) : 2 ^ b = 2 ^ a * 2 ^ (b - a) := by rw [← Nat.pow_add]; congr 1; omega
theorem wb_lt2 {a b : Nat} (h : a < b) : 2 ^ a < 2 ^ b := Nat.pow_lt_pow_right (by decide) h
theorem wb_mod (n : Nat) : lN n = lN (n % 2 ^ 64) := wb_inj (by rw [wb_tb, wb_tb]; apply BitVec.eq_of_toNat_eq; rw [BitVec.toNat_ofNat, BitVec.toNat_ofNat, Nat.mod_mod])
theorem wb_shr {n k : Nat} (hn : n < 2 ^ 64) (hk : k < 64) : ((lN n).toUInt64 >>> ((nI k).toInt64.toUInt64 &&& Int64.toUInt64 63)).toInt64 = lN (n / 2 ^ k) := by
  rw [wb_cu k hk]
  apply wb_inj
  apply BitVec.eq_of_toNat_eq
  show ((lN n).toUInt64 >>> UInt64.ofNat k).toNat = (BitVec.ofNat 64 _).toNat
  have h1 : (UInt64.ofNat k).toNat = k := by
    show (BitVec.ofNat 64 k).toNat = k
    rw [BitVec.toNat_ofNat, Nat.mod_eq_of_lt (by omega)]
  have h2 : (lN n).toUInt64.toNat = n := wb_tn hn
  rw [UInt64.toNat_shiftRight, h1, h2, Nat.mod_eq_of_lt hk, Nat.shiftRight_eq_div_pow, BitVec.toNat_ofNat, Nat.mod_eq_of_lt (Nat.lt_of_le_of_lt (Nat.div_le_self _ _) hn)]
theorem wb_shl (n : Nat) {k : Nat} (hk : k < 64) : lN n <<< ((nI k).toInt64 &&& 63) = lN (n * 2 ^ k) := by
  rw [wb_c k hk]
  apply wb_inj
  rw [Int64.toBitVec_shiftLeft, wb_tb, wb_tb, wb_tb, wb_sm k hk]
  apply BitVec.eq_of_toNat_eq
  rw [BitVec.shiftLeft_eq', BitVec.toNat_shiftLeft, BitVec.toNat_ofNat, BitVec.toNat_ofNat, BitVec.toNat_ofNat, Nat.mod_eq_of_lt (show k < 2 ^ 64 by omega), Nat.shiftLeft_eq, Nat.mul_mod, Nat.mod_mod, ← Nat.mul_mod]
theorem wb_and {a b : Nat} (ha : a < 2 ^ 64) (hb : b < 2 ^ 64) : lN a &&& lN b = lN (a &&& b) := by
  apply wb_inj
  rw [Int64.toBitVec_and, wb_tb, wb_tb, wb_tb]
  apply BitVec.eq_of_toNat_eq
  rw [BitVec.toNat_and, BitVec.toNat_ofNat, BitVec.toNat_ofNat, BitVec.toNat_ofNat, Nat.mod_eq_of_lt ha, Nat.mod_eq_of_lt hb, Nat.mod_eq_of_lt (Nat.and_lt_two_pow _ hb)]
theorem wb_or {a b : Nat} (ha : a < 2 ^ 64) (hb : b < 2 ^ 64) : lN a ||| lN b = lN (a ||| b) := by
  apply wb_inj
  rw [Int64.toBitVec_or, wb_tb, wb_tb, wb_tb]
  apply BitVec.eq_of_toNat_eq
  rw [BitVec.toNat_or, BitVec.toNat_ofNat, BitVec.toNat_ofNat, BitVec.toNat_ofNat, Nat.mod_eq_of_lt ha, Nat.mod_eq_of_lt hb, Nat.mod_eq_of_lt (Nat.or_lt_two_pow ha hb)]
theorem wb_mask {n k : Nat} (hn : n < 2 ^ 64) (hk : k < 64) : lN n &&& lN (2 ^ k - 1) = lN (n % 2 ^ k) := by
  rw [wb_and hn (by have := wb_lt2 hk; omega), Nat.and_two_pow_sub_one_eq_mod]
theorem wb_a1 {n : Nat} (hn : n < 2 ^ 64) : lN n &&& 1 = lN (n % 2) := wb_mask (k := 1) hn (by decide)
theorem wb_bit {n k : Nat} (hn : n < 2 ^ 64) (hk : k < 64) : ((lN n).toUInt64 >>> ((nI k).toInt64.toUInt64 &&& Int64.toUInt64 63)).toInt64 &&& 1 = lN (n / 2 ^ k % 2) := by
  rw [wb_shr hn hk, wb_a1 (Nat.lt_of_le_of_lt (Nat.div_le_self _ _) hn)]
theorem wb_xor {q k : Nat} (hk : k < 63) (h : 2 ^ k ≤ q) (h2 : q < 2 ^ (k + 1)) : lN q ^^^ lN (2 ^ k) = lN (q - 2 ^ k) := by
  obtain ⟨r, rfl⟩ : ∃ r, q = 2 ^ k + r := ⟨q - 2 ^ k, by omega⟩
  have hr : r < 2 ^ k := by rw [Nat.pow_succ] at h2; omega
  have hx : (2 ^ k + r) ^^^ 2 ^ k = r := by
    apply Nat.eq_of_testBit_eq
    intro i
    rw [Nat.testBit_xor, Nat.testBit_two_pow]
    rcases Nat.lt_trichotomy i k with h | h | h
    · rw [Nat.testBit_two_pow_add_gt h]
      simp [show ¬ k = i by omega]
    · subst h
      rw [Nat.testBit_two_pow_add_eq]
      simp
    · have a1 : 2 ^ (k + 1) ≤ 2 ^ i := Nat.pow_le_pow_right (by decide) h
      rw [Nat.testBit_lt_two_pow (show 2 ^ k + r < 2 ^ i by omega), Nat.testBit_lt_two_pow (show r < 2 ^ i by omega)]
      simp [show ¬ k = i by omega]
  have b1 := wb_lt2 (show k + 1 < 64 by omega)
  have b2 := wb_lt2 (show k < 64 by omega)
  apply wb_inj
  rw [Int64.toBitVec_xor, wb_tb, wb_tb, wb_tb]
  apply BitVec.eq_of_toNat_eq
  rw [BitVec.toNat_xor, BitVec.toNat_ofNat, BitVec.toNat_ofNat, BitVec.toNat_ofNat, Nat.mod_eq_of_lt (by omega : 2 ^ k + r < 2 ^ 64), Nat.mod_eq_of_lt b2, hx, Nat.add_sub_cancel_left, Nat.mod_eq_of_lt (by omega)]
/-! ===== lN: masks, 'or' of parts that don't overlap is a sum ===== -/
theorem u_tn {n : Nat} (h : n < 2 ^ 64) : (UInt64.ofNat n).toNat = n := Nat.mod_eq_of_lt h
theorem g_and {a b c : Nat} (ha : a < 2 ^ 64) (hb : b < 2 ^ 64) (hc : a &&& b = c) : lN a &&& lN b = lN c := by
  subst hc
  have h : UInt64.ofNat a &&& UInt64.ofNat b = UInt64.ofNat (a &&& b) := UInt64.toNat_inj.mp (by rw [UInt64.toNat_and, u_tn ha, u_tn hb, u_tn (Nat.and_lt_two_pow a hb)])
  have h2 := congrArg UInt64.toInt64 h
  exact h2
theorem g_and1 {a : Nat} (ha : a < 2 ^ 64) : lN a &&& 1 = lN (a % 2) := g_and (b := 1) ha (by decide) (Nat.and_two_pow_sub_one_eq_mod a 1)
theorem g_mask {a s p : Nat} (hp : 2 ^ s = p) (hs : s < 64) (ha : a < 2 ^ 64) : lN a &&& lN (p - 1) = lN (a % p) := by
  subst hp
  have := Nat.pow_lt_pow_right (show 1 < 2 by decide) hs
  exact g_and ha (by omega) (Nat.and_two_pow_sub_one_eq_mod a s)
theorem g_or {k p a b : Nat} (hp : 2 ^ k = p) (ha : a < p) (h : b * p + a < 2 ^ 64) : lN (b * p) ||| lN a = lN (b * p + a) := by
  subst hp
  have h1 : b * 2 ^ k ||| a = b * 2 ^ k + a := by rw [← Nat.shiftLeft_eq, Nat.shiftLeft_add_eq_or_of_lt ha]
  have h3 : UInt64.ofNat (b * 2 ^ k) ||| UInt64.ofNat a = UInt64.ofNat (b * 2 ^ k + a) := UInt64.toNat_inj.mp (by rw [UInt64.toNat_or, u_tn (by omega), u_tn (by omega), u_tn h, h1])
  have h2 := congrArg UInt64.toInt64 h3
  exact h2
theorem g_or' {k p a b : Nat} (hp : 2 ^ k = p) (ha : a < p) (h : a + b * p < 2 ^ 64) : lN a ||| lN (b * p) = lN (a + b * p) := by
  rw [Int64.or_comm, g_or hp ha (by omega), Nat.add_comm]
theorem g_ushr {a k p : Nat} {y : UInt64} (hy : y = UInt64.ofNat k) (hk : k < 64) (hp : 2 ^ k = p) (ha : a < 2 ^ 64) : ((lN a).toUInt64 >>> y).toInt64 = lN (a / p) := by
  subst hy hp
  have h : UInt64.ofNat a >>> UInt64.ofNat k = UInt64.ofNat (a / 2 ^ k) := UInt64.toNat_inj.mp (by rw [UInt64.toNat_shiftRight, u_tn ha, u_tn (by omega), u_tn (Nat.lt_of_le_of_lt (Nat.div_le_self _ _) ha), Nat.mod_eq_of_lt hk, Nat.shiftRight_eq_div_pow])
  have h2 := congrArg UInt64.toInt64 h
  exact h2
theorem g_shl {a k p : Nat} {y : Int64} (hy : y.toBitVec.smod 64 = BitVec.ofNat 64 k) (hk : k < 64) (hp : 2 ^ k = p) (ha : a < 2 ^ 64) : lN a <<< y = lN (a * p) := by
  subst hp
  apply Int64.toBitVec_inj.mp
  rw [Int64.toBitVec_shiftLeft, hy]
  apply BitVec.eq_of_toNat_eq
  have hb : (lN a).toBitVec.toNat = a := Nat.mod_eq_of_lt ha
  have hk' : (BitVec.ofNat 64 k).toNat = k := Nat.mod_eq_of_lt (by omega)
  have h : ((lN a).toBitVec <<< BitVec.ofNat 64 k).toNat = (a * 2 ^ k) % 2 ^ 64 := by simp only [BitVec.shiftLeft_eq', BitVec.toNat_shiftLeft, hb, hk', Nat.shiftLeft_eq]
  exact h
/-! ===== our own ===== -/
theorem nI_int {n : Nat} (h : n < 2 ^ 32) : (nI n).toInt = if n < 2 ^ 31 then (n : Int) else (n : Int) - 2 ^ 32 := by
  show (BitVec.ofNat 32 n).toInt = _
  rw [BitVec.toInt_eq_toNat_cond, BitVec.toNat_ofNat, Nat.mod_eq_of_lt h]
  split <;> split <;> first | rfl | omega
theorem nI_eq32 {a b : Nat} (ha : a < 2 ^ 32) (hb : b < 2 ^ 32) : nI a = nI b ↔ a = b := by
  constructor
  · intro h
    have h1 : (nI a).toInt = (nI b).toInt := by rw [h]
    rw [nI_int ha, nI_int hb] at h1
    split at h1 <;> split at h1 <;> omega
  · intro h; rw [h]
theorem nI_gt0 {n : Nat} (h : n < 2 ^ 32) : 0 < nI n ↔ (0 < n ∧ n < 2 ^ 31) := by
  rw [Int32.lt_iff_toInt_lt, nI_int h]
  show (0 : Int) < _ ↔ _
  split <;> omega
theorem nI_mod (n : Nat) : nI n = nI (n % 2 ^ 32) := by
  apply Int32.toBitVec_inj.mp
  show BitVec.ofNat 32 n = BitVec.ofNat 32 (n % 2 ^ 32)
  apply BitVec.eq_of_toNat_eq
  rw [BitVec.toNat_ofNat, BitVec.toNat_ofNat, Nat.mod_mod]
abbrev uI (x : Int32) : Nat := x.toBitVec.toNat
theorem uI_lt (x : Int32) : uI x < 2 ^ 32 := x.toBitVec.isLt
theorem uI_nI (x : Int32) : x = nI (uI x) := Int32.toBitVec_inj.mp (by show _ = BitVec.ofNat 32 _; simp)
def clz32 (n : Nat) : Nat := if n = 0 then 32 else 31 - n.log2
def clz64 (n : Nat) : Nat := if n = 0 then 64 else 63 - n.log2
theorem l2_eq {n k : Nat} (h1 : 2 ^ k ≤ n) (h2 : n < 2 ^ (k + 1)) : n.log2 = k := by
  have h0 : n ≠ 0 := by have := Nat.two_pow_pos k; omega
  have a1 : k ≤ n.log2 := (Nat.le_log2 h0).mpr h1
  have a2 : n.log2 < k + 1 := (Nat.log2_lt h0).mpr h2
  omega
theorem l2_lo {n : Nat} (h : n ≠ 0) : 2 ^ n.log2 ≤ n := (Nat.le_log2 h).mp (Nat.le_refl _)
theorem l2_hi {n : Nat} (h : n ≠ 0) : n < 2 ^ (n.log2 + 1) := (Nat.log2_lt h).mp (Nat.lt_succ_self _)
theorem l2_ge {n k : Nat} (h : 2 ^ k ≤ n) : k ≤ n.log2 := (Nat.le_log2 (by have := Nat.two_pow_pos k; omega)).mpr h
theorem l2_lt {n k : Nat} (h0 : n ≠ 0) (h : n < 2 ^ k) : n.log2 < k := (Nat.log2_lt h0).mpr h
theorem l2_div {n k : Nat} (h : 2 ^ k ≤ n) : (n / 2 ^ k).log2 = n.log2 - k := by
  have h0 : n ≠ 0 := by have := Nat.two_pow_pos k; omega
  have hk : k ≤ n.log2 := l2_ge h
  refine l2_eq ?_ ?_
  · rw [Nat.le_div_iff_mul_le (Nat.two_pow_pos k), ← Nat.pow_add, show n.log2 - k + k = n.log2 by omega]
    exact l2_lo h0
  · rw [Nat.div_lt_iff_lt_mul (Nat.two_pow_pos k), ← Nat.pow_add, show n.log2 - k + 1 + k = n.log2 + 1 by omega]
    exact l2_hi h0
theorem clz64_32 (n : Nat) (hn : n < 2 ^ 64) : clz64 n = if n / 2 ^ 32 = 0 then 32 + clz32 (n % 2 ^ 32) else clz32 (n / 2 ^ 32) := by
  unfold clz64 clz32
  by_cases h : n / 2 ^ 32 = 0
  · rw [if_pos h]
    have h1 : n < 2 ^ 32 := by omega
    rw [Nat.mod_eq_of_lt h1]
    by_cases h2 : n = 0
    · rw [if_pos h2, if_pos h2]
    · rw [if_neg h2, if_neg h2]
      have := l2_lt h2 h1
      omega
  · rw [if_neg h, if_neg h, if_neg (by intro h3; rw [h3] at h; exact h (by decide))]
    have h1 : 2 ^ 32 ≤ n := by omega
    rw [l2_div h1]
    have := l2_ge h1
    have h4 : n.log2 < 64 := l2_lt (by omega) hn
    omega
theorem sh_neg : ∀ p, p < 64 → 1 ≤ p → ((-(nI (64 - p))).toInt64 &&& 63) = lN p := by decide +kernel
theorem sh_q : ∀ p, p < 64 → ∀ z, z < 65 → 1 ≤ p → z + p ≤ 64 → ((nI z + (nI (64 - p) ^^^ (-1))).toInt64 &&& 63) = lN (z + p - 1) := by decide +kernel
theorem xm1 {n : Nat} (hn : n < 2 ^ 64) : lN n ^^^ (-1) = lN (2 ^ 64 - 1 - n) := by
  apply wb_inj
  rw [Int64.toBitVec_xor, wb_tb, wb_tb]
  show BitVec.ofNat 64 n ^^^ BitVec.allOnes 64 = _
  rw [BitVec.xor_allOnes]
  apply BitVec.eq_of_toNat_eq
  rw [BitVec.toNat_not, BitVec.toNat_ofNat, BitVec.toNat_ofNat, Nat.mod_eq_of_lt hn, Nat.mod_eq_of_lt (by omega)]
theorem nsn {h p : Nat} (hh : h < 2 ^ 64) (hp : p < 64) : ((lN h ^^^ (-1)) <<< lN p) ^^^ (-1) = lN ((h % 2 ^ (64 - p)) * 2 ^ p + (2 ^ p - 1)) := by
  have hAB : 2 ^ p * 2 ^ (64 - p) = 2 ^ 64 := by rw [← Nat.pow_add]; congr 1; omega
  have hA0 := Nat.two_pow_pos p
  have hB0 := Nat.two_pow_pos (64 - p)
  rw [xm1 hh, ← wb_c p hp, wb_shl _ hp, wb_mod, xm1 (Nat.mod_lt _ (by decide))]
  congr 1
  generalize 2 ^ p = A at *
  generalize 2 ^ (64 - p) = B at *
  have hr : (h * A) % 2 ^ 64 = (h % B) * A := by rw [← hAB, Nat.mul_comm h A, Nat.mul_mod_mul_left, Nat.mul_comm]
  have hw : h % B < B := Nat.mod_lt _ hB0
  have hr2 : (h % B) * A + A ≤ 2 ^ 64 := by
    rw [← hAB, ← Nat.succ_mul, Nat.mul_comm A B]
    exact Nat.mul_le_mul_right A hw
  have e1 : (2 ^ 64 - 1 - h) * A = 2 ^ 64 * A - A - h * A := by
    rw [Nat.sub_mul, Nat.sub_mul, Nat.one_mul]
  have e2 : h * A = 2 ^ 64 * (h * A / 2 ^ 64) + (h % B) * A := by
    have := Nat.div_add_mod (h * A) (2 ^ 64)
    rw [hr] at this
    exact this.symm
  have hle : h * A + A ≤ 2 ^ 64 * A := by
    rw [← Nat.succ_mul]
    exact Nat.mul_le_mul_right A hh
  have e3 : (2 ^ 64 - 1 - h) * A = 2 ^ 64 * (A - h * A / 2 ^ 64 - 1) + (2 ^ 64 - A - (h % B) * A) := by
    rw [e1]
    generalize h * A / 2 ^ 64 = qq at *
    generalize h * A = X at *
    generalize (h % B) * A = r at *
    omega
  rw [e3, Nat.mul_add_mod, Nat.mod_eq_of_lt (by omega)]
  omega
def nz (b v : Nat) : Nat := if v % 2 ^ b = 0 then b else b - 1 - (v % 2 ^ b).log2
theorem nz_le (b v : Nat) : nz b v ≤ b := by unfold nz; split <;> omega
theorem clz_nz {h p : Nat} (hp : p < 64) (h1 : 1 ≤ p) : clz64 ((h % 2 ^ (64 - p)) * 2 ^ p + (2 ^ p - 1)) = nz (64 - p) h := by
  have hA0 := Nat.two_pow_pos p
  have hA1 : 2 ^ 1 ≤ 2 ^ p := Nat.pow_le_pow_right (by decide) h1
  have hw : h % 2 ^ (64 - p) < 2 ^ (64 - p) := Nat.mod_lt _ (Nat.two_pow_pos _)
  unfold clz64 nz
  generalize h % 2 ^ (64 - p) = w at *
  rw [if_neg (by omega)]
  by_cases h0 : w = 0
  · rw [if_pos h0, h0, Nat.zero_mul, Nat.zero_add]
    have e : (2 ^ p - 1).log2 = p - 1 := by
      have e2 : 2 ^ p = 2 * 2 ^ (p - 1) := by rw [← Nat.pow_succ']; congr 1; omega
      have := Nat.two_pow_pos (p - 1)
      refine l2_eq (by omega) ?_
      rw [show p - 1 + 1 = p by omega]
      omega
    rw [e]; omega
  · rw [if_neg h0]
    have e : (w * 2 ^ p + (2 ^ p - 1)).log2 = w.log2 + p := by
      have a1 := l2_lo h0
      have a2 := l2_hi h0
      refine l2_eq ?_ ?_
      · rw [Nat.pow_add]
        have := Nat.mul_le_mul_right (2 ^ p) a1
        omega
      · rw [show w.log2 + p + 1 = w.log2 + 1 + p by omega, Nat.pow_add]
        have := Nat.mul_le_mul_right (2 ^ p) (Nat.succ_le_of_lt a2)
        rw [Nat.succ_mul] at this
        omega
    have a3 := l2_lt h0 hw
    rw [e]; omega
/-- a byte out of a number under 256 -/
def sb (r : Nat) : Int32 := (nI r).toInt8.toInt32
def unp (r : Nat) : Nat := if r = 0 then 0 else (4 + r % 4) * 2 ^ (r / 4 - 2)
theorem unp_raw : ∀ r, r < 256 → (r = 0 ∨ 8 ≤ r) → ((lN 4 ||| (sb r &&& nI 3).toInt64) <<< ((((sb r).toUInt32 >>> ((nI 2).toUInt32 &&& Int32.toUInt32 31)).toInt32 - nI 2).toInt64 &&& 63)) = lN (unp r) := by decide +kernel
theorem sb_byte8 : ∀ r, r < 256 → (sb r).toInt8.toInt32 = sb r := by decide +kernel
theorem sb_nar (r : Nat) : narrow .byte (.int (sb r)) = .int (sb r) := congrArg Value.int (by unfold sb; simp)
theorem sb_0 : sb 0 = nI 0 := by decide +kernel
theorem sb_eq0 : ∀ r, r < 256 → (sb r = 0 ↔ r = 0) := by decide +kernel
theorem sb_255 : ∀ r, r < 256 → sb r &&& nI 255 = nI r := by decide +kernel
/-- the register of a set of marks -/
def rg (n : Nat) : Nat := if n = 0 then 0 else 4 * (n.log2 - 1) + n / 2 ^ (n.log2 - 2)
theorem rg_win {n : Nat} (h4 : 4 ≤ n) : 4 ≤ n / 2 ^ (n.log2 - 2) ∧ n / 2 ^ (n.log2 - 2) < 8 ∧ 2 ≤ n.log2 := by
  have h0 : n ≠ 0 := by omega
  have h2 : 2 ≤ n.log2 := l2_ge (k := 2) h4
  have a1 := l2_lo h0
  have a2 := l2_hi h0
  refine ⟨?_, ?_, h2⟩
  · rw [Nat.le_div_iff_mul_le (Nat.two_pow_pos _), show (4 : Nat) = 2 ^ 2 from rfl, ← Nat.pow_add, show 2 + (n.log2 - 2) = n.log2 by omega]
    exact a1
  · rw [Nat.div_lt_iff_lt_mul (Nat.two_pow_pos _), show (8 : Nat) = 2 ^ 3 from rfl, ← Nat.pow_add, show 3 + (n.log2 - 2) = n.log2 + 1 by omega]
    exact a2
theorem rg_lt {n : Nat} (hn : n < 2 ^ 64) (h4 : n = 0 ∨ 4 ≤ n) : rg n < 256 ∧ (rg n = 0 ∨ 8 ≤ rg n) := by
  unfold rg
  rcases h4 with h | h
  · rw [if_pos h]; exact ⟨by decide, Or.inl rfl⟩
  · rw [if_neg (by omega)]
    obtain ⟨b1, b2, b3⟩ := rg_win h
    have b4 : n.log2 < 64 := l2_lt (by omega) hn
    omega
theorem rg_0 {n : Nat} (h4 : n = 0 ∨ 4 ≤ n) : rg n = 0 ↔ n = 0 := by
  constructor
  · intro h
    rcases h4 with h0 | h0
    · exact h0
    · obtain ⟨b1, b2, b3⟩ := rg_win h0
      unfold rg at h
      rw [if_neg (by omega)] at h
      omega
  · intro h; rw [h]; rfl
/-- what unpack gives back: the three greatest places -/
def win (n : Nat) : Nat := if n = 0 then 0 else n / 2 ^ (n.log2 - 2) * 2 ^ (n.log2 - 2)
theorem unp_rg {n : Nat} (h4 : n = 0 ∨ 4 ≤ n) : unp (rg n) = win n := by
  rcases h4 with h | h
  · rw [h]; decide
  · obtain ⟨b1, b2, b3⟩ := rg_win h
    have e0 : rg n = 4 * (n.log2 - 1) + n / 2 ^ (n.log2 - 2) := by unfold rg; rw [if_neg (by omega)]
    have e9 : win n = n / 2 ^ (n.log2 - 2) * 2 ^ (n.log2 - 2) := by unfold win; rw [if_neg (by omega)]
    unfold unp
    rw [e0, e9, if_neg (by omega)]
    generalize n / 2 ^ (n.log2 - 2) = w at *
    have e1 : (4 * (n.log2 - 1) + w) % 4 = w - 4 := by omega
    have e2 : (4 * (n.log2 - 1) + w) / 4 - 2 = n.log2 - 2 := by omega
    rw [e1, e2]
    congr 1
    omega
theorem pack_raw : ∀ t, t < 64 → ∀ w, w < 4 → 2 ≤ t → (((-(nI (64 - t))) <<< (nI 2 &&& 31)).toInt64 ||| lN w).toInt32.toInt8.toInt32 = sb (4 * t + w) := by decide +kernel
theorem pack_sh {n : Nat} (hn : n < 2 ^ 64) (h4 : 4 ≤ n) : n * 2 ^ (64 - n.log2) % 2 ^ 64 / 2 ^ 62 = n / 2 ^ (n.log2 - 2) - 4 := by
  obtain ⟨b1, b2, b3⟩ := rg_win h4
  have b4 : n.log2 < 64 := l2_lt (by omega) hn
  have a1 := l2_lo (show n ≠ 0 by omega)
  have a2 := l2_hi (show n ≠ 0 by omega)
  have e1 : 2 ^ (n.log2 - 2) * 2 ^ (64 - n.log2) = 2 ^ 62 := by rw [← Nat.pow_add]; congr 1; omega
  have hd := Nat.div_add_mod n (2 ^ (n.log2 - 2))
  have hm : n % 2 ^ (n.log2 - 2) < 2 ^ (n.log2 - 2) := Nat.mod_lt _ (Nat.two_pow_pos _)
  generalize hw : n / 2 ^ (n.log2 - 2) = w at *
  generalize hr : n % 2 ^ (n.log2 - 2) = r at *
  have e2 : n * 2 ^ (64 - n.log2) = w * 2 ^ 62 + r * 2 ^ (64 - n.log2) := by
    rw [← e1]
    clear a1 a2 e1
    generalize 2 ^ (64 - n.log2) = K at *
    generalize 2 ^ (n.log2 - 2) = A at *
    rw [← hd, Nat.add_mul, Nat.mul_comm A w, Nat.mul_assoc]
  have e3 : r * 2 ^ (64 - n.log2) < 2 ^ 62 := by
    rw [← e1]
    exact Nat.mul_lt_mul_of_pos_right hm (Nat.two_pow_pos _)
  rw [e2]
  omega
end
section
/-! PLAIN LAWS, second: 32 bits into 64, tokens, noughts, the law's register -/
set_option maxRecDepth 100000
theorem lN_int {n : Nat} (h : n < 2 ^ 64) : (lN n).toInt = if n < 2 ^ 63 then (n : Int) else (n : Int) - 2 ^ 64 := by
  show (BitVec.ofNat 64 n).toInt = _
  rw [BitVec.toInt_eq_toNat_cond, BitVec.toNat_ofNat, Nat.mod_eq_of_lt h]
  split <;> split <;> first | rfl | omega
/-- an int widened -/
def wid (a : Nat) : Nat := if a < 2 ^ 31 then a else a + (2 ^ 64 - 2 ^ 32)
theorem wid_lt {a : Nat} (h : a < 2 ^ 32) : wid a < 2 ^ 64 := by unfold wid; split <;> omega
theorem i2l_w {a : Nat} (h : a < 2 ^ 32) : (nI a).toInt64 = lN (wid a) := by
  apply Int64.toInt_inj.mp
  rw [Int32.toInt_toInt64, nI_int h, lN_int (wid_lt h)]
  unfold wid
  split <;> split <;> omega
theorem lN_eq64 {a b : Nat} (ha : a < 2 ^ 64) (hb : b < 2 ^ 64) : lN a = lN b ↔ a = b := by
  constructor
  · intro h
    have h1 : (lN a).toBitVec.toNat = (lN b).toBitVec.toNat := by rw [h]
    rw [wb_tn ha, wb_tn hb] at h1
    exact h1
  · intro h; rw [h]
/-- two ints put together -/
def hw (x y : Int32) : Nat := uI x * 2 ^ 32 + uI y
theorem hw_lt (x y : Int32) : hw x y < 2 ^ 64 := by
  have := uI_lt x
  have := uI_lt y
  unfold hw
  omega
theorem of_raw (x y : Int32) : (x.toInt64 <<< ((nI 32).toInt64 &&& 63)) ||| (y.toInt64 &&& lN 4294967295) = lN (hw x y) := by
  have hx := uI_lt x
  have hy := uI_lt y
  have ex : x.toInt64 = lN (wid (uI x)) := by conv => lhs; rw [uI_nI x]
                                              exact i2l_w hx
  have ey : y.toInt64 = lN (wid (uI y)) := by conv => lhs; rw [uI_nI y]
                                              exact i2l_w hy
  rw [ex, ey, wb_shl _ (by decide), wb_mod]
  have e1 : wid (uI x) * 2 ^ 32 % 2 ^ 64 = uI x * 2 ^ 32 := by unfold wid; split <;> omega
  have e2 : lN (wid (uI y)) &&& lN 4294967295 = lN (uI y) := by
    rw [show (4294967295 : Nat) = 2 ^ 32 - 1 from rfl, wb_mask (wid_lt hy) (by decide)]
    congr 1
    unfold wid
    split <;> omega
  rw [e1, e2]
  exact g_or (k := 32) rfl hy (by omega)
theorem nI_or {a b : Nat} (ha : a < 2 ^ 32) (hb : b < 2 ^ 32) : nI a ||| nI b = nI (a ||| b) := by
  apply Int32.toBitVec_inj.mp
  rw [Int32.toBitVec_or]
  show BitVec.ofNat 32 a ||| BitVec.ofNat 32 b = BitVec.ofNat 32 (a ||| b)
  apply BitVec.eq_of_toNat_eq
  rw [BitVec.toNat_or, BitVec.toNat_ofNat, BitVec.toNat_ofNat, BitVec.toNat_ofNat, Nat.mod_eq_of_lt ha, Nat.mod_eq_of_lt hb, Nat.mod_eq_of_lt (Nat.or_lt_two_pow ha hb)]
theorem or_sum {a b k : Nat} (hb : b < 2 ^ k) : a * 2 ^ k ||| b = a * 2 ^ k + b := by
  rw [Nat.mul_comm]
  exact (Nat.two_pow_add_eq_or_of_lt hb a).symm
/-- a token -/
def tok (h : Nat) : Nat := h / 2 ^ 38 * 2 ^ 6 + nz 38 h
theorem tok_lt {h : Nat} (hh : h < 2 ^ 64) : tok h < 2 ^ 32 := by
  have := nz_le 38 h
  unfold tok
  omega
/-- a hash out of a token -/
def unt (t : Nat) : Nat := (2 ^ 38 - 1) / 2 ^ (t % 64) + t / 64 * 2 ^ 38
theorem unt_and {t : Nat} (ht : t < 2 ^ 32) : lN (wid t) &&& lN 4294967232 = lN (t / 64 * 64) := by
  rw [wb_and (wid_lt ht) (by decide)]
  congr 1
  have e1 : (4294967232 : Nat) = (2 ^ 26 - 1) <<< 6 := by decide
  have e2 : wid t &&& ((2 ^ 26 - 1) <<< 6) = ((wid t >>> 6) &&& (2 ^ 26 - 1)) <<< 6 := by
    apply Nat.eq_of_testBit_eq
    intro i
    rw [Nat.testBit_and, Nat.testBit_shiftLeft, Nat.testBit_shiftLeft, Nat.testBit_and, Nat.testBit_shiftRight]
    by_cases h6 : 6 ≤ i
    · rw [show 6 + (i - 6) = i by omega]
      simp [h6]
    · simp [h6]
  rw [e1, e2, Nat.and_two_pow_sub_one_eq_mod, Nat.shiftRight_eq_div_pow, Nat.shiftLeft_eq]
  congr 1
  unfold wid
  split <;> omega
theorem unt_cnt {t : Nat} (ht : t < 2 ^ 32) : ((nI t).toInt64.toUInt64 &&& Int64.toUInt64 63) = UInt64.ofNat (t % 64) := by
  rw [i2l_w ht]
  apply UInt64.toNat_inj.mp
  rw [UInt64.toNat_and, show (lN (wid t)).toUInt64.toNat = wid t from wb_tn (wid_lt ht), show (Int64.toUInt64 63).toNat = 2 ^ 6 - 1 from rfl, Nat.and_two_pow_sub_one_eq_mod, u_tn (by omega)]
  unfold wid
  split <;> omega
theorem unt_raw {t : Nat} (ht : t < 2 ^ 32) : (((lN 274877906943).toUInt64 >>> ((nI t).toInt64.toUInt64 &&& Int64.toUInt64 63)).toInt64 ||| (lN (t / 64 * 64) <<< ((nI 32).toInt64 &&& 63))) = lN (unt t) := by
  rw [g_ushr (unt_cnt ht) (by omega) rfl (by decide), wb_shl _ (by decide)]
  have e1 : t / 64 * 64 * 2 ^ 32 = t / 64 * 2 ^ 38 := by omega
  have e2 : (2 ^ 38 - 1) / 2 ^ (t % 64) < 2 ^ 38 := Nat.lt_of_le_of_lt (Nat.div_le_self _ _) (by decide)
  rw [e1, show (274877906943 : Nat) = 2 ^ 38 - 1 from rfl]
  exact g_or' (k := 38) rfl e2 (by omega)
theorem unt_lt {t : Nat} (ht : t < 2 ^ 32) : unt t < 2 ^ 64 := by
  have e2 : (2 ^ 38 - 1) / 2 ^ (t % 64) < 2 ^ 38 := Nat.lt_of_le_of_lt (Nat.div_le_self _ _) (by decide)
  unfold unt
  omega
theorem div_two (z : Nat) (hz : z ≤ 38) : (2 ^ 38 - 1) / 2 ^ z = 2 ^ (38 - z) - 1 := by
  have h := Nat.two_pow_pos z
  have h2 := Nat.two_pow_pos (38 - z)
  have e : 2 ^ 38 = 2 ^ (38 - z) * 2 ^ z := by rw [← Nat.pow_add]; congr 1; omega
  rw [e]
  generalize 2 ^ (38 - z) = B at *
  generalize 2 ^ z = A at *
  rw [Nat.div_eq_iff h]
  have e3 : (B - 1) * A + A = B * A := by rw [← Nat.succ_mul]; congr 1; omega
  omega
theorem ne_top {u x : Nat} (hu : u ≠ 0) : ¬ u * 2 ^ 38 + x = 0 := by intro h; omega
/-- the token keeps place and noughts -/
theorem tok_keeps {h p : Nat} (hp : 1 ≤ p) (hp2 : p ≤ 26) : unt (tok h) / 2 ^ (64 - p) = h / 2 ^ (64 - p) ∧ nz (64 - p) (unt (tok h)) = nz (64 - p) h := by
  have hz := nz_le 38 h
  have t1 : tok h / 64 = h / 2 ^ 38 := by unfold tok; omega
  have t2 : tok h % 64 = nz 38 h := by unfold tok; omega
  have hc : (2 ^ 38 - 1) / 2 ^ (nz 38 h) < 2 ^ 38 := Nat.lt_of_le_of_lt (Nat.div_le_self _ _) (by decide)
  have eu : unt (tok h) = h / 2 ^ 38 * 2 ^ 38 + (2 ^ 38 - 1) / 2 ^ (nz 38 h) := by unfold unt; rw [t1, t2]; omega
  have e38 : 2 ^ (64 - p) = 2 ^ 38 * 2 ^ (26 - p) := by rw [← Nat.pow_add]; congr 1; omega
  have hlow : (2 ^ 38 - 1) / 2 ^ (nz 38 h) = if h % 2 ^ 38 = 0 then 0 else 2 ^ ((h % 2 ^ 38).log2 + 1) - 1 := by
    rw [div_two _ hz]
    unfold nz
    by_cases h0 : h % 2 ^ 38 = 0
    · rw [if_pos h0, if_pos h0]
    · rw [if_neg h0, if_neg h0]
      have := l2_lt h0 (Nat.mod_lt h (show 0 < 2 ^ 38 by decide))
      congr 2
      omega
  generalize hcc : (2 ^ 38 - 1) / 2 ^ (nz 38 h) = c at *
  have d1 : unt (tok h) / 2 ^ 38 = h / 2 ^ 38 := by rw [eu]; omega
  constructor
  · rw [e38, ← Nat.div_div_eq_div_mul, ← Nat.div_div_eq_div_mul, d1]
  · have m1 : ∀ x, x % 2 ^ (64 - p) = x / 2 ^ 38 % 2 ^ (26 - p) * 2 ^ 38 + x % 2 ^ 38 := by
      intro x
      rw [e38, Nat.mod_mul, Nat.mul_comm, Nat.add_comm, Nat.mul_comm]
    have m2 : unt (tok h) % 2 ^ 38 = c := by rw [eu]; omega
    have hv : h % 2 ^ 38 < 2 ^ 38 := Nat.mod_lt _ (by decide)
    unfold nz
    rw [m1, m1, d1, m2]
    generalize h / 2 ^ 38 % 2 ^ (26 - p) = u at *
    generalize h % 2 ^ 38 = v at *
    by_cases hu : u = 0
    · subst hu
      rw [Nat.zero_mul, Nat.zero_add, Nat.zero_add]
      by_cases h0 : v = 0
      · rw [if_pos h0] at hlow
        rw [if_pos hlow, if_pos h0]
      · rw [if_neg h0] at hlow
        have h3 := Nat.two_pow_pos v.log2
        have h4 : 2 ^ (v.log2 + 1) = 2 * 2 ^ v.log2 := by rw [Nat.pow_succ, Nat.mul_comm]
        rw [if_neg (by omega), if_neg h0]
        have : c.log2 = v.log2 := l2_eq (by omega) (by omega)
        rw [this]
    · have key : ∀ x, x < 2 ^ 38 → (u * 2 ^ 38 + x).log2 = u.log2 + 38 := by
        intro x hx
        have a1 := l2_lo hu
        have a2 := l2_hi hu
        refine l2_eq ?_ ?_
        · rw [Nat.pow_add]
          exact Nat.le_trans (Nat.mul_le_mul_right (2 ^ 38) a1) (Nat.le_add_right _ _)
        · rw [show u.log2 + 38 + 1 = u.log2 + 1 + 38 by omega, Nat.pow_add]
          have h9 := Nat.mul_le_mul_right (2 ^ 38) (Nat.succ_le_of_lt a2)
          rw [Nat.succ_mul] at h9
          exact Nat.lt_of_lt_of_le (Nat.add_lt_add_left hx _) h9
      rw [if_neg (ne_top hu), if_neg (ne_top hu), key c hc, key v hv]
/-! the law's own counting -/
theorem mod_bit {n b k : Nat} (h : k < b) : n % 2 ^ b / 2 ^ k % 2 = n / 2 ^ k % 2 := by
  have e : 2 ^ b = 2 ^ k * 2 ^ (b - k) := by rw [← Nat.pow_add]; congr 1; omega
  have e2 : 2 ^ (b - k) = 2 * 2 ^ (b - k - 1) := by rw [← Nat.pow_succ']; congr 1; omega
  rw [e, Nat.mod_mul_right_div_self, e2]
  exact Nat.mod_mul_right_mod _ _ _
theorem nz_end {b n : Nat} (h : n % 2 ^ b < 2 ^ (b - b)) : nz b n = b := by
  rw [Nat.sub_self] at h
  unfold nz
  rw [if_pos (by omega)]
theorem bit_zero {n b : Nat} (h : n < 2 ^ (b + 1)) (h0 : n / 2 ^ b % 2 = 0) : n < 2 ^ b := by
  have h1 := Nat.two_pow_pos b
  have h2 : n / 2 ^ b < 2 := by rw [Nat.div_lt_iff_lt_mul h1, Nat.mul_comm, ← Nat.pow_succ]; exact h
  have h3 : n / 2 ^ b = 0 := by
    generalize n / 2 ^ b = q at *
    omega
  rcases Nat.lt_or_ge n (2 ^ b) with h4 | h4
  · exact h4
  · have := Nat.div_pos h4 h1
    omega
theorem bit_one {n b : Nat} (h0 : n / 2 ^ b % 2 ≠ 0) : 2 ^ b ≤ n := by
  rcases Nat.lt_or_ge n (2 ^ b) with h4 | h4
  · rw [Nat.div_eq_of_lt h4] at h0
    exact absurd rfl h0
  · exact h4
theorem nz_step {b n i : Nat} (hi : i < b) (h : n % 2 ^ b < 2 ^ (b - i)) (h0 : n / 2 ^ (b - 1 - i) % 2 = 0) : n % 2 ^ b < 2 ^ (b - (i + 1)) := by
  rw [← mod_bit (b := b) (by omega)] at h0
  have e : b - (i + 1) = b - 1 - i := by omega
  rw [e]
  exact bit_zero (by rw [show b - 1 - i + 1 = b - i by omega]; exact h) h0
theorem nz_stop {b n i : Nat} (hi : i < b) (h : n % 2 ^ b < 2 ^ (b - i)) (h0 : n / 2 ^ (b - 1 - i) % 2 ≠ 0) : nz b n = i := by
  rw [← mod_bit (b := b) (by omega)] at h0
  have h1 := bit_one h0
  have h2 := Nat.two_pow_pos (b - 1 - i)
  unfold nz
  rw [if_neg (by omega), l2_eq h1 (by rw [show b - 1 - i + 1 = b - i by omega]; exact h)]
  omega
theorem rg_sum {n t : Nat} (h2 : 2 ≤ t) (h : 2 ^ t ≤ n) (h1 : n < 2 ^ (t + 1)) : 4 * t + n / 2 ^ (t - 1) % 2 * 2 + n / 2 ^ (t - 2) % 2 = rg n := by
  have hl := l2_eq h h1
  have h0 : n ≠ 0 := by have := Nat.two_pow_pos t; omega
  have h4 : 4 ≤ n := by
    have : 2 ^ 2 ≤ 2 ^ t := Nat.pow_le_pow_right (by decide) h2
    omega
  obtain ⟨b1, b2, b3⟩ := rg_win h4
  unfold rg
  rw [if_neg h0]
  rw [hl] at b1 b2 ⊢
  have e : n / 2 ^ (t - 1) = n / 2 ^ (t - 2) / 2 := by
    rw [Nat.div_div_eq_div_mul, ← Nat.pow_succ]
    congr 2
    omega
  rw [e]
  omega
end
section
/-! PLAIN LAWS, third: sets of marks, their registers, unions of less precise ones -/
set_option maxRecDepth 100000
/-- marks of any place that a register can tell -/
def Okn (m : Nat) : Prop := m < 2 ^ 64 ∧ (m = 0 ∨ 4 ≤ m)
def Ok (M : Nat → Nat) : Prop := ∀ i, Okn (M i)
def rgs (M : Nat → Nat) : Nat → Int32 := fun i => sb (rg (M i))
theorem okn_0 : Okn 0 := ⟨by decide, Or.inl rfl⟩
theorem okn_or {a b : Nat} (ha : Okn a) (hb : Okn b) : Okn (a ||| b) := by
  refine ⟨Nat.or_lt_two_pow ha.1 hb.1, ?_⟩
  rcases ha.2 with h | h
  · rw [h, Nat.zero_or]; exact hb.2
  · exact Or.inr (Nat.le_trans h Nat.left_le_or)
theorem okn_pw {k : Nat} (h2 : 2 ≤ k) (h : k < 64) : Okn (2 ^ k) :=
  ⟨Nat.pow_lt_pow_right (by decide) h, Or.inr (Nat.pow_le_pow_right (n := 2) (by decide) h2)⟩
def addM (q : Nat) (M : Nat → Nat) (h : Nat) : Nat → Nat := fun i => if i = h / 2 ^ (64 - q) then M i ||| 2 ^ (nz (64 - q) h + q - 1) else M i
theorem addM_bit {q h : Nat} (h3 : 3 ≤ q) (h6 : q ≤ 26) : Okn (2 ^ (nz (64 - q) h + q - 1)) := by
  have := nz_le (64 - q) h
  exact okn_pw (by omega) (by omega)
theorem addM_ok {q h : Nat} {M : Nat → Nat} (h3 : 3 ≤ q) (h6 : q ≤ 26) (hM : Ok M) : Ok (addM q M h) := by
  intro i
  unfold addM
  split
  · exact okn_or (hM i) (addM_bit h3 h6)
  · exact hM i
theorem win_le (m : Nat) : win m ≤ m := by
  unfold win
  split
  · exact Nat.zero_le _
  · exact Nat.div_mul_le_self _ _
theorem win_ok {m : Nat} (h : Okn m) : Okn (win m) := by
  refine ⟨Nat.lt_of_le_of_lt (win_le m) h.1, ?_⟩
  rcases h.2 with h0 | h4
  · left; rw [h0]; rfl
  · right
    obtain ⟨b1, b2, b3⟩ := rg_win h4
    unfold win
    rw [if_neg (by omega)]
    exact Nat.le_trans b1 (Nat.le_mul_of_pos_right _ (Nat.two_pow_pos _))
theorem win_0 {m : Nat} (h : m = 0 ∨ 4 ≤ m) : win m = 0 ↔ m = 0 := by
  constructor
  · intro hw
    rcases h with h0 | h4
    · exact h0
    · obtain ⟨b1, b2, b3⟩ := rg_win h4
      unfold win at hw
      rw [if_neg (by omega)] at hw
      have := Nat.le_mul_of_pos_right (m / 2 ^ (m.log2 - 2)) (Nat.two_pow_pos (m.log2 - 2))
      omega
  · intro h0; rw [h0]; rfl
theorem win_div {m k : Nat} (h4 : 4 ≤ m) (hk : m.log2 - 2 ≤ k) : win m / 2 ^ k = m / 2 ^ k := by
  unfold win
  rw [if_neg (by omega)]
  have e : 2 ^ k = 2 ^ (m.log2 - 2) * 2 ^ (k - (m.log2 - 2)) := by rw [← Nat.pow_add]; congr 1; omega
  rw [e, ← Nat.div_div_eq_div_mul, ← Nat.div_div_eq_div_mul, Nat.mul_div_cancel _ (Nat.two_pow_pos _)]
theorem or_div (a b k : Nat) : (a ||| b) / 2 ^ k = a / 2 ^ k ||| b / 2 ^ k := by
  rw [← Nat.shiftRight_eq_div_pow, ← Nat.shiftRight_eq_div_pow, ← Nat.shiftRight_eq_div_pow, Nat.shiftRight_or_distrib]
/-- of a union the three greatest places of a part are enough -/
theorem rg_or {m x : Nat} (hm : m = 0 ∨ 4 ≤ m) : rg (win m ||| x) = rg (m ||| x) := by
  rcases hm with h | h4
  · rw [h]; rfl
  · have hge : m ≤ m ||| x := Nat.left_le_or
    have hM4 : 4 ≤ m ||| x := Nat.le_trans h4 hge
    obtain ⟨b1, b2, b3⟩ := rg_win hM4
    have hT : m.log2 ≤ (m ||| x).log2 := l2_ge (Nat.le_trans (l2_lo (by omega)) hge)
    have e : (win m ||| x) / 2 ^ ((m ||| x).log2 - 2) = (m ||| x) / 2 ^ ((m ||| x).log2 - 2) := by
      rw [or_div, or_div, win_div h4 (by omega)]
    generalize hN : win m ||| x = N at *
    generalize m ||| x = M at *
    have p1 : 2 ^ M.log2 = 4 * 2 ^ (M.log2 - 2) := by
      rw [show (4 : Nat) = 2 ^ 2 from rfl, ← Nat.pow_add]; congr 1; omega
    have p2 : 2 ^ (M.log2 + 1) = 8 * 2 ^ (M.log2 - 2) := by
      rw [show (8 : Nat) = 2 ^ 3 from rfl, ← Nat.pow_add]; congr 1; omega
    have n1 : 2 ^ M.log2 ≤ N := by
      rw [p1, ← Nat.le_div_iff_mul_le (Nat.two_pow_pos _), e]; exact b1
    have n2 : N < 2 ^ (M.log2 + 1) := by
      rw [p2, ← Nat.div_lt_iff_lt_mul (Nat.two_pow_pos _), e]; exact b2
    have hl := l2_eq n1 n2
    have hN0 : N ≠ 0 := by have := Nat.two_pow_pos M.log2; omega
    unfold rg
    rw [if_neg hN0, if_neg (by omega), hl, e]
theorem rg_or2 {a b x : Nat} (ha : a = 0 ∨ 4 ≤ a) (hb : b = 0 ∨ 4 ≤ b) : rg (win a ||| (win b ||| x)) = rg (a ||| (b ||| x)) := by
  rw [rg_or ha, ← Nat.or_assoc, Nat.or_comm a, Nat.or_assoc, rg_or hb, ← Nat.or_assoc, Nat.or_comm b, Nat.or_assoc]
theorem clz_len {q : Nat} (h1 : 1 ≤ q) (h2 : q < 64) : clz64 (2 ^ q - 1) = 64 - q := by
  have e := clz_nz (h := 0) h2 h1
  rw [Nat.zero_mod, Nat.zero_mul, Nat.zero_add] at e
  rw [e]
  unfold nz
  rw [if_pos (Nat.zero_mod _)]
theorem clz_pw {q : Nat} (h : q < 32) : clz32 (2 ^ q) = 31 - q := by
  unfold clz32
  rw [if_neg (by have := Nat.two_pow_pos q; omega), l2_eq (Nat.le_refl _) (Nat.pow_lt_pow_right (by decide) (Nat.lt_succ_self q))]
theorem p64 {q : Nat} (h : q ≤ 6) : 2 ^ q ≤ 64 := Nat.le_trans (Nat.pow_le_pow_right (n := 2) (by decide) h) (by decide)
theorem idx_lt {h q : Nat} (hh : h < 2 ^ 64) (hq : q ≤ 64) : h / 2 ^ (64 - q) < 2 ^ q := by
  rw [Nat.div_lt_iff_lt_mul (Nat.two_pow_pos _), ← Nat.pow_add, show q + (64 - q) = 64 by omega]
  exact hh
theorem hash_lt (h q : Nat) (hq : q ≤ 64) : (h % 2 ^ (64 - q)) * 2 ^ q + (2 ^ q - 1) < 2 ^ 64 := by
  have h1 := Nat.mod_lt h (Nat.two_pow_pos (64 - q))
  have h2 := Nat.mul_le_mul_right (2 ^ q) (Nat.succ_le_of_lt h1)
  rw [← Nat.pow_add, show 64 - q + q = 64 by omega, Nat.succ_mul] at h2
  have := Nat.two_pow_pos q
  omega
/-! a more precise sketch seen at a lesser precision -/
def ctr (q less : Nat) (N : Nat → Nat) (j : Nat) : Nat := if N j = 0 then 0 else if j % 2 ^ less = 0 then N j else 2 ^ (q - 2 - (j % 2 ^ less).log2)
def dnS (q less : Nat) (N : Nat → Nat) (i : Nat) : Nat → Nat
  | 0 => 0
  | c + 1 => dnS q less N i c ||| ctr q less N (i * 2 ^ less + c)
def dn (q less : Nat) (N : Nat → Nat) : Nat → Nat := fun i => dnS q less N i (2 ^ less)
theorem ctr_ok {q less : Nat} {N : Nat → Nat} (hN : Ok N) (hq : less + 3 ≤ q) (hq2 : q ≤ 26) (j : Nat) : Okn (ctr q less N j) := by
  unfold ctr
  split
  · exact okn_0
  · split
    · exact hN j
    · rename_i h1 h2
      have := l2_lt h2 (Nat.mod_lt j (Nat.two_pow_pos less))
      exact okn_pw (by omega) (by omega)
theorem dnS_ok {q less : Nat} {N : Nat → Nat} (hN : Ok N) (hq : less + 3 ≤ q) (hq2 : q ≤ 26) (i c : Nat) : Okn (dnS q less N i c) := by
  induction c with
  | zero => exact okn_0
  | succ c ih => exact okn_or ih (ctr_ok hN hq hq2 _)
theorem dn_ok {q less : Nat} {N : Nat → Nat} (hN : Ok N) (hq : less + 3 ≤ q) (hq2 : q ≤ 26) : Ok (dn q less N) := fun i => dnS_ok hN hq hq2 i _
theorem dn_0 {q : Nat} {N : Nat → Nat} (i : Nat) : dn q 0 N i = N i := by
  show 0 ||| ctr q 0 N (i * 2 ^ 0 + 0) = N i
  rw [Nat.zero_or]
  unfold ctr
  simp only [Nat.pow_zero, Nat.mul_one, Nat.add_zero, Nat.mod_one, if_true]
  split
  · rename_i h; exact h.symm
  · rfl
end
section
/-! PLAIN LAWS, fourth: the union's loop, written down -/
set_option maxRecDepth 100000
/-- the first k places changed -/
def upto {α : Type} (k : Nat) (M M2 : Nat → α) : Nat → α := fun j => if j < k then M2 j else M j
theorem upto_0 {α : Type} (M M2 : Nat → α) : upto 0 M M2 = M := by funext j; simp [upto]
theorem upto_at {α : Type} (k : Nat) (M M2 : Nat → α) : upto k M M2 k = M k := by simp [upto]
theorem upto_s {α : Type} {k j : Nat} {M M2 : Nat → α} : upto (k + 1) M M2 j = if j = k then M2 k else upto k M M2 j := by
  unfold upto
  by_cases h : j = k
  · subst h; simp
  · by_cases h2 : j < k
    · rw [if_pos (by omega), if_neg h, if_pos h2]
    · rw [if_neg (by omega), if_neg h, if_neg h2]
theorem upto_eq {α : Type} {k : Nat} {M M2 : Nat → α} (h : M2 k = M k) : upto (k + 1) M M2 = upto k M M2 := by
  funext j
  rw [upto_s]
  by_cases hj : j = k
  · rw [if_pos hj, hj, upto_at, h]
  · rw [if_neg hj]
theorem upto_in {α : Type} {k j : Nat} {M M2 : Nat → α} (h : j < k) : upto k M M2 j = M2 j := if_pos h
theorem upto_ok {k : Nat} {M M2 : Nat → Nat} (h : Ok M) (h2 : Ok M2) : Ok (upto k M M2) := by
  intro i
  unfold upto
  split
  · exact h2 i
  · exact h i
theorem rg_or3 {a b : Nat} (ha : a = 0 ∨ 4 ≤ a) (hb : b = 0 ∨ 4 ≤ b) : rg (win a ||| win b) = rg (a ||| b) := by
  rw [rg_or ha, Nat.or_comm, rg_or hb, Nat.or_comm]
def rsS (q less : Nat) (N : Nat → Nat) (i : Nat) : Nat → Nat
  | 0 => 0
  | c + 1 => if c = 0 then 0 else rsS q less N i c ||| ctr q less N (i * 2 ^ less + c)
theorem rsS_ok {q less : Nat} {N : Nat → Nat} (hN : Ok N) (hq : less + 3 ≤ q) (hq2 : q ≤ 26) (i c : Nat) : Okn (rsS q less N i c) := by
  induction c with
  | zero => exact okn_0
  | succ c ih =>
    unfold rsS
    split
    · exact okn_0
    · exact okn_or ih (ctr_ok hN hq hq2 _)
theorem ctr_head {q less : Nat} {N : Nat → Nat} (i : Nat) : ctr q less N (i * 2 ^ less + 0) = N (i * 2 ^ less) := by
  unfold ctr
  rw [Nat.add_zero, Nat.mul_mod_left, if_pos rfl]
  split
  · rename_i h; exact h.symm
  · rfl
theorem dnS_rs {q less : Nat} {N : Nat → Nat} {i : Nat} (c : Nat) : dnS q less N i (c + 1) = N (i * 2 ^ less) ||| rsS q less N i (c + 1) := by
  induction c with
  | zero =>
    show (0 ||| ctr q less N (i * 2 ^ less + 0)) = N (i * 2 ^ less) ||| 0
    rw [ctr_head, Nat.zero_or, Nat.or_zero]
  | succ c ih =>
    have e : rsS q less N i (c + 1 + 1) = rsS q less N i (c + 1) ||| ctr q less N (i * 2 ^ less + (c + 1)) := by
      show (if c + 1 = 0 then 0 else _) = _
      rw [if_neg (Nat.succ_ne_zero c)]
    rw [e, ← Nat.or_assoc, ← ih]
    rfl
theorem dn_rs {q less : Nat} {N : Nat → Nat} {i : Nat} : dn q less N i = N (i * 2 ^ less) ||| rsS q less N i (2 ^ less) := by
  have h := Nat.two_pow_pos less
  have e : 2 ^ less = (2 ^ less - 1) + 1 := by omega
  have h2 := dnS_rs (q := q) (less := less) (N := N) (i := i) (2 ^ less - 1)
  rw [← e] at h2
  exact h2
theorem rs_step {q less : Nat} {N : Nat → Nat} {i c : Nat} (h1 : 1 ≤ c) : rsS q less N i (c + 1) = rsS q less N i c ||| ctr q less N (i * 2 ^ less + c) := by
  show (if c = 0 then 0 else _) = _
  rw [if_neg (by omega)]
theorem blk_mod {i less c : Nat} (hc : c < 2 ^ less) : (i * 2 ^ less + c) % 2 ^ less = c := by
  rw [Nat.mul_comm, Nat.mul_add_mod, Nat.mod_eq_of_lt hc]
theorem ctr_zero {q less j : Nat} {N : Nat → Nat} (h : N j = 0) : ctr q less N j = 0 := if_pos h
theorem ctr_in {q less i c : Nat} {N : Nat → Nat} (h : N (i * 2 ^ less + c) ≠ 0) (h1 : 1 ≤ c) (hc : c < 2 ^ less) : ctr q less N (i * 2 ^ less + c) = 2 ^ (q - 2 - c.log2) := by
  unfold ctr
  rw [if_neg h, blk_mod hc, if_neg (by omega)]
theorem blk_lt {i q less c : Nat} (hi : i < 2 ^ q) (hc : c < 2 ^ less) : i * 2 ^ less + c < 2 ^ (q + less) := by
  have h := Nat.mul_le_mul_right (2 ^ less) (Nat.succ_le_of_lt hi)
  rw [Nat.succ_mul, ← Nat.pow_add] at h
  omega
theorem sh_k : ∀ q, q < 27 → ∀ lc, lc < 27 → lc + 2 ≤ q → ((nI (63 - lc + (q - 1))).toInt64 &&& 63) = lN (q - 2 - lc) := by decide +kernel
/-- what a union's register holds -/
theorem uni_rg {q less i : Nat} {M N : Nat → Nat} (hM : Ok M) (hN : Ok N) : rg (win (M i) ||| (win (N (i * 2 ^ less)) ||| rsS q less N i (2 ^ less))) = rg (M i ||| dn q less N i) := by
  rw [dn_rs, rg_or2 (hM i).2 (hN _).2]
theorem or_zero {a b : Nat} (h : a ||| b = 0) : a = 0 ∧ b = 0 := by
  have h1 : a ≤ a ||| b := Nat.left_le_or
  have h2 : b ≤ a ||| b := Nat.right_le_or
  omega
theorem uni_zero {q less i : Nat} {M N : Nat → Nat} (hM : Ok M) (hN : Ok N) (h : win (M i) ||| (win (N (i * 2 ^ less)) ||| rsS q less N i (2 ^ less)) = 0) : M i ||| dn q less N i = M i := by
  obtain ⟨h1, h2⟩ := or_zero h
  obtain ⟨h3, h4⟩ := or_zero h2
  rw [dn_rs, (win_0 (hN _).2).mp h3, h4, Nat.or_zero, Nat.or_zero]
theorem D_chg {A : Nat → Prop} {ws : va_W} {b x : Nat} {e e2 : va_E} {q : Nat × va_E} (h : va_D A (ws.set b (x, e))) (hb : ws[b]? = some q) : va_D A (ws.set b (x, e2)) := by
  have h9 := h.set (e := e2) (ws_eq hb)
  rw [ws_ss] at h9
  exact h9
end
section
/-! PLAIN LAWS, fifth: many hashes, a hash of a drawn place, what a take does -/
set_option maxRecDepth 100000
def lcg (h : Nat) : Nat := (h * 6364136223846793005 + 1442695040888963407) % 2 ^ 64
theorem lcg_lt (h : Nat) : lcg h < 2 ^ 64 := Nat.mod_lt _ (by decide)
/-- so many hashes, each out of the one before -/
def manyN (q : Nat) (f : Nat → Nat) : Nat → (Nat → Nat) → Nat → (Nat → Nat)
  | 0, M, _ => M
  | n + 1, M, h => manyN q f n (addM q M h) (f h)
theorem manyN_0 {q : Nat} {f : Nat → Nat} (M : Nat → Nat) (h : Nat) : manyN q f 0 M h = M := rfl
theorem manyN_s {q : Nat} {f : Nat → Nat} (n : Nat) (M : Nat → Nat) (h : Nat) : manyN q f (n + 1) M h = manyN q f n (addM q M h) (f h) := rfl
theorem manyN_ok {q : Nat} {f : Nat → Nat} (h3 : 3 ≤ q) (h6 : q ≤ 26) : ∀ (n : Nat) (M : Nat → Nat) (h : Nat), Ok M → Ok (manyN q f n M h) := by
  intro n
  induction n with
  | zero => intro M h hM; exact hM
  | succ n ih => intro M h hM; exact ih _ _ (addM_ok h3 h6 hM)
/-- a hash with a drawn place and so many noughts -/
def hiH (q a z : Nat) : Nat := (a % 2 ^ q) * 2 ^ (64 - q) + (if z = 64 - q then 0 else 2 ^ (63 - q - z))
theorem hi_rest {q z : Nat} (hq : q ≤ 63) : (if z = 64 - q then 0 else 2 ^ (63 - q - z)) < 2 ^ (64 - q) := by
  split
  · exact Nat.two_pow_pos _
  · exact Nat.pow_lt_pow_right (by decide) (by omega)
theorem hiH_lt {q a z : Nat} (hq : q ≤ 63) : hiH q a z < 2 ^ 64 := by
  have h1 := hi_rest (q := q) (z := z) hq
  have h2 := Nat.mod_lt a (Nat.two_pow_pos q)
  have h3 := Nat.mul_le_mul_right (2 ^ (64 - q)) (Nat.succ_le_of_lt h2)
  rw [Nat.succ_mul, ← Nat.pow_add, show q + (64 - q) = 64 by omega] at h3
  unfold hiH
  exact Nat.lt_of_lt_of_le (Nat.add_lt_add_left h1 _) h3
def addH (q : Nat) (M : Nat → Nat) (a z : Nat) : Nat → Nat := fun i => if i = a % 2 ^ q then M i ||| 2 ^ (z + q - 1) else M i
theorem addH_is {q a z : Nat} {M : Nat → Nat} (hq : q ≤ 63) (hz : z ≤ 64 - q) : addM q M (hiH q a z) = addH q M a z := by
  have h1 := hi_rest (q := q) (z := z) hq
  have d1 : hiH q a z / 2 ^ (64 - q) = a % 2 ^ q := by
    unfold hiH
    rw [Nat.mul_comm, Nat.mul_add_div (Nat.two_pow_pos _), Nat.div_eq_of_lt h1, Nat.add_zero]
  have d2 : hiH q a z % 2 ^ (64 - q) = (if z = 64 - q then 0 else 2 ^ (63 - q - z)) := by
    unfold hiH
    rw [Nat.mul_comm, Nat.mul_add_mod, Nat.mod_eq_of_lt h1]
  have d3 : nz (64 - q) (hiH q a z) = z := by
    unfold nz
    rw [d2]
    by_cases h : z = 64 - q
    · rw [if_pos h, if_pos rfl]; exact h.symm
    · rw [if_neg h, if_neg (by have := Nat.two_pow_pos (63 - q - z); omega), l2_eq (Nat.le_refl _) (Nat.pow_lt_pow_right (by decide) (Nat.lt_succ_self _))]
      omega
  unfold addM addH
  rw [d1, d3]
/-- one sketch takes another one, no less precise, into itself -/
def takeM (p : Nat → Nat) (M : Nat → Nat → Nat) (jt jf : Nat) : Nat → Nat → Nat := if p jt ≤ p jf ∧ jf ≠ jt then va_up M jt (fun i => M jt i ||| dn (p jf) (p jf - p jt) (M jf) i) else M
def mrgM (p : Nat → Nat) (M : Nat → Nat → Nat) (ja jb r : Nat) : Nat → Nat := fun i => dn (p ja) (p ja - r) (M ja) i ||| dn (p jb) (p jb - r) (M jb) i
theorem up_same {α : Type} (M : Nat → α) (j : Nat) : va_up M j (M j) = M := by
  funext i
  unfold va_up
  by_cases h : i = j
  · rw [if_pos h, h]
  · rw [if_neg h]
theorem up_up {α : Type} (M : Nat → α) (j : Nat) (x y : α) : va_up (va_up M j x) j y = va_up M j y := by
  funext i
  unfold va_up
  by_cases h : i = j
  · rw [if_pos h, if_pos h]
  · rw [if_neg h, if_neg h, if_neg h]
theorem up_ok {M : Nat → Nat → Nat} {j : Nat} {m : Nat → Nat} (h : ∀ i, Ok (M i)) (hm : Ok m) : ∀ i, Ok (va_up M j m i) := by
  intro i
  unfold va_up
  split
  · exact hm
  · exact h i
theorem up_p {p : Nat → Nat} {j q : Nat} (h : ∀ i, 3 ≤ p i ∧ p i ≤ 6) (hq : 3 ≤ q ∧ q ≤ 6) : ∀ i, 3 ≤ va_up p j q i ∧ va_up p j q i ≤ 6 := by
  intro i
  unfold va_up
  split
  · exact hq
  · exact h i
theorem or_ok {M N : Nat → Nat} (hM : Ok M) (hN : Ok N) : Ok (fun i => M i ||| N i) := fun i => okn_or (hM i) (hN i)
theorem mrg_ok {p : Nat → Nat} {M : Nat → Nat → Nat} {ja jb r : Nat} (hM : ∀ i, Ok (M i)) (hp : ∀ i, 3 ≤ p i ∧ p i ≤ 6) (h3 : 3 ≤ r) (ha : r ≤ p ja) (hb : r ≤ p jb) : Ok (mrgM p M ja jb r) := by
  have := hp ja
  have := hp jb
  exact or_ok (dn_ok (hM ja) (by omega) (by omega)) (dn_ok (hM jb) (by omega) (by omega))
end
section
set_option maxRecDepth 100000
set_option maxHeartbeats 4000000 in
set_option maxRecDepth 100000 in
/-- Integer.numberOfLeadingZeros -/
theorem met_nlzI (l : Launch) (n : Nat) (hn : n < 2 ^ 32) : Met l yJ4_numberOfLeadingZeros (ws_ yJ4_numberOfLeadingZeros cJ4_numberOfLeadingZeros 2 (some .int)) ({ frames := 0, cells := 0, slots := 0, locals := 0 } : Room) (Pp [.int (nI n)]) (vp_Si (fun r => r = nI (clz32 n))) 0 0 (fun _ => False) := by
  refine Met.ofW (cc := cJ4_numberOfLeadingZeros) (maxL := 2) (ret := (some .int)) (by decide) rfl ?_
  intro p e s m args below meth c s₁ B hml hv
  obtain ⟨rfl, -⟩ := hv
  have hx := B.exec
  have hb := B.bytes
  have hr := B.returns
  have hts := atoms_spec (ws := ws_ yJ4_numberOfLeadingZeros cJ4_numberOfLeadingZeros 2 (some .int)) B.pre
  have hts : ∀ w ∈ lw_all, w.before _ s = true := fun w h => hts w (List.mem_cons_of_mem _ h)
  have hown : s.vm.findClass RJ4 = some m.cls := findClass_of_methodNamed B.named
  have hlocks := B.notSynchronized
  refine w_entry [.int (nI n)] (Nat.le_of_ble_eq_true rfl) (fun ls hl => ?_)
  have hl : lv_has ls 2 [(0, .int (nI n))] := hl
  refine lv_iload_n hx hb dJ4_numberOfLeadingZeros_0 rfl (lv_at hl 0 rfl) ?_
  refine lv_if_gt (tgt := 15) hx hb dJ4_numberOfLeadingZeros_1 (by decide) (fun c1 => ?_) (fun c1 => ?_)
  · have hn1 := (nI_gt0 hn).mp c1
    have hl30 : n.log2 < 31 := l2_lt (by omega) hn1.2
    refine W_join (nL := 2) (pcJ := 73) (fun (b : Nat × Nat) => [(0, .int (nI b.1)), (1, .int (nI b.2))]) (fun b => 1 ≤ b.1 ∧ b.1 < 2 ^ 2 ∧ b.2 ≤ 31 ∧ n.log2 + b.2 = b.1.log2 + 31) (fun b ls ib hl => ?_) (fun J73 => ?_)
    · have hl : lv_has ls 2 [(0, .int (nI b.1)), (1, .int (nI b.2))] := hl
      obtain ⟨i1, i2, i3, i4⟩ := ib
      refine lv_iload_n hx hb dJ4_numberOfLeadingZeros_73 rfl (lv_at hl 1 rfl) ?_
      refine lv_iload_n hx hb dJ4_numberOfLeadingZeros_74 rfl (lv_at hl 0 rfl) ?_
      refine lv_iconst (v := (nI 1)) hx hb dJ4_numberOfLeadingZeros_75 (by decide) ?_
      refine lv_iushr hx hb dJ4_numberOfLeadingZeros_76 rfl ?_
      refine lv_topi (fun v76 e76 => ?_)
      obtain rfl : v76 = (nI (b.1 / 2 ^ 1)) := by rw [e76]; exact pk_ushrN (by omega) (nI 1) 1 (by decide)
      refine lv_isub hx hb dJ4_numberOfLeadingZeros_77 ?_
      refine lv_topi (fun v77 e77 => ?_)
      have hlog : b.1.log2 = b.1 / 2 ^ 1 := by
        have h3 : b.1 = 1 ∨ b.1 = 2 ∨ b.1 = 3 := by omega
        rcases h3 with h | h | h <;> rw [h] <;> decide
      exact W.iret (v := v77) hx hb hr (fun t ht hW => ⟨_, rfl, by rw [e77, pk_sub (by omega), ← hlog]; unfold clz32; rw [if_neg (by omega), show b.2 - b.1.log2 = 31 - n.log2 by omega], ht⟩) (fun q h => by cases h) dJ4_numberOfLeadingZeros_78
    · refine W_join (nL := 2) (pcJ := 61) (fun (b : Nat × Nat) => [(0, .int (nI b.1)), (1, .int (nI b.2))]) (fun b => 1 ≤ b.1 ∧ b.1 < 2 ^ 4 ∧ b.2 ≤ 31 ∧ n.log2 + b.2 = b.1.log2 + 31) (fun b ls ib hl => ?_) (fun J61 => ?_)
      · have hl : lv_has ls 2 [(0, .int (nI b.1)), (1, .int (nI b.2))] := hl
        obtain ⟨i1, i2, i3, i4⟩ := ib
        refine lv_iload_n hx hb dJ4_numberOfLeadingZeros_61 rfl (lv_at hl 0 rfl) ?_
        refine lv_iconst (v := (nI 4)) hx hb dJ4_numberOfLeadingZeros_62 (by decide) ?_
        refine lv_icmp_lt (tgt := 73) hx hb dJ4_numberOfLeadingZeros_63 (by decide) (fun c63 => ?_) (fun c63 => ?_)
        · have hc := (nI_ltI (by omega) (by omega)).mp c63
          exact J73 (b.1, b.2) ls ⟨i1, by omega, i3, i4⟩ (lv_sub hl [0, 1] rfl)
        · have hc : ¬ b.1 < 4 := fun h => c63 (nI_lt h (by omega))
          have hg := l2_ge (n := b.1) (k := 2) (by omega)
          refine lv_iinc (v := (nI (b.2 - 2))) (lv' := [(1, .int (nI (b.2 - 2))), (0, .int (nI b.1))]) hx hb dJ4_numberOfLeadingZeros_66 hl (k := 1) rfl (by show nI b.2 + (-nI 2) = _; rw [← Int32.sub_eq_add_neg]; exact pk_sub (by omega)) (by decide) rfl (fun ls hl => ?_)
          refine lv_iload_n hx hb dJ4_numberOfLeadingZeros_69 rfl (lv_at hl 1 rfl) ?_
          refine lv_iconst (v := (nI 2)) hx hb dJ4_numberOfLeadingZeros_70 (by decide) ?_
          refine lv_iushr hx hb dJ4_numberOfLeadingZeros_71 rfl ?_
          refine lv_topi (fun v71 e71 => ?_)
          obtain rfl : v71 = (nI (b.1 / 2 ^ 2)) := by rw [e71]; exact pk_ushrN (by omega) (nI 2) 2 (by decide)
          refine lv_istore_n (lv' := [(0, .int (nI (b.1 / 2 ^ 2))), (1, .int (nI (b.2 - 2)))]) hx hb dJ4_numberOfLeadingZeros_72 rfl hl (by decide) rfl (fun ls hl => ?_)
          have hd := l2_div (n := b.1) (k := 2) (by omega)
          exact J73 (b.1 / 2 ^ 2, b.2 - 2) ls ⟨by show 1 ≤ b.1 / 2 ^ 2; omega, by show b.1 / 2 ^ 2 < 2 ^ 2; omega, by show b.2 - 2 ≤ 31; omega, by show n.log2 + (b.2 - 2) = (b.1 / 2 ^ 2).log2 + 31; omega⟩ (lv_sub hl [0, 1] rfl)
      · refine W_join (nL := 2) (pcJ := 48) (fun (b : Nat × Nat) => [(0, .int (nI b.1)), (1, .int (nI b.2))]) (fun b => 1 ≤ b.1 ∧ b.1 < 2 ^ 8 ∧ b.2 ≤ 31 ∧ n.log2 + b.2 = b.1.log2 + 31) (fun b ls ib hl => ?_) (fun J48 => ?_)
        · have hl : lv_has ls 2 [(0, .int (nI b.1)), (1, .int (nI b.2))] := hl
          obtain ⟨i1, i2, i3, i4⟩ := ib
          refine lv_iload_n hx hb dJ4_numberOfLeadingZeros_48 rfl (lv_at hl 0 rfl) ?_
          refine lv_bipush (v := (nI 16)) hx hb dJ4_numberOfLeadingZeros_49 (by decide) ?_
          refine lv_icmp_lt (tgt := 61) hx hb dJ4_numberOfLeadingZeros_51 (by decide) (fun c51 => ?_) (fun c51 => ?_)
          · have hc := (nI_ltI (by omega) (by omega)).mp c51
            exact J61 (b.1, b.2) ls ⟨i1, by omega, i3, i4⟩ (lv_sub hl [0, 1] rfl)
          · have hc : ¬ b.1 < 16 := fun h => c51 (nI_lt h (by omega))
            have hg := l2_ge (n := b.1) (k := 4) (by omega)
            refine lv_iinc (v := (nI (b.2 - 4))) (lv' := [(1, .int (nI (b.2 - 4))), (0, .int (nI b.1))]) hx hb dJ4_numberOfLeadingZeros_54 hl (k := 1) rfl (by show nI b.2 + (-nI 4) = _; rw [← Int32.sub_eq_add_neg]; exact pk_sub (by omega)) (by decide) rfl (fun ls hl => ?_)
            refine lv_iload_n hx hb dJ4_numberOfLeadingZeros_57 rfl (lv_at hl 1 rfl) ?_
            refine lv_iconst (v := (nI 4)) hx hb dJ4_numberOfLeadingZeros_58 (by decide) ?_
            refine lv_iushr hx hb dJ4_numberOfLeadingZeros_59 rfl ?_
            refine lv_topi (fun v59 e59 => ?_)
            obtain rfl : v59 = (nI (b.1 / 2 ^ 4)) := by rw [e59]; exact pk_ushrN (by omega) (nI 4) 4 (by decide)
            refine lv_istore_n (lv' := [(0, .int (nI (b.1 / 2 ^ 4))), (1, .int (nI (b.2 - 4)))]) hx hb dJ4_numberOfLeadingZeros_60 rfl hl (by decide) rfl (fun ls hl => ?_)
            have hd := l2_div (n := b.1) (k := 4) (by omega)
            exact J61 (b.1 / 2 ^ 4, b.2 - 4) ls ⟨by show 1 ≤ b.1 / 2 ^ 4; omega, by show b.1 / 2 ^ 4 < 2 ^ 4; omega, by show b.2 - 4 ≤ 31; omega, by show n.log2 + (b.2 - 4) = (b.1 / 2 ^ 4).log2 + 31; omega⟩ (lv_sub hl [0, 1] rfl)
        · refine W_join (nL := 2) (pcJ := 33) (fun (b : Nat × Nat) => [(0, .int (nI b.1)), (1, .int (nI b.2))]) (fun b => 1 ≤ b.1 ∧ b.1 < 2 ^ 16 ∧ b.2 ≤ 31 ∧ n.log2 + b.2 = b.1.log2 + 31) (fun b ls ib hl => ?_) (fun J33 => ?_)
          · have hl : lv_has ls 2 [(0, .int (nI b.1)), (1, .int (nI b.2))] := hl
            obtain ⟨i1, i2, i3, i4⟩ := ib
            refine lv_iload_n hx hb dJ4_numberOfLeadingZeros_33 rfl (lv_at hl 0 rfl) ?_
            refine lv_sipush (v := (nI 256)) hx hb dJ4_numberOfLeadingZeros_34 (by decide) ?_
            refine lv_icmp_lt (tgt := 48) hx hb dJ4_numberOfLeadingZeros_37 (by decide) (fun c37 => ?_) (fun c37 => ?_)
            · have hc := (nI_ltI (by omega) (by omega)).mp c37
              exact J48 (b.1, b.2) ls ⟨i1, by omega, i3, i4⟩ (lv_sub hl [0, 1] rfl)
            · have hc : ¬ b.1 < 256 := fun h => c37 (nI_lt h (by omega))
              have hg := l2_ge (n := b.1) (k := 8) (by omega)
              refine lv_iinc (v := (nI (b.2 - 8))) (lv' := [(1, .int (nI (b.2 - 8))), (0, .int (nI b.1))]) hx hb dJ4_numberOfLeadingZeros_40 hl (k := 1) rfl (by show nI b.2 + (-nI 8) = _; rw [← Int32.sub_eq_add_neg]; exact pk_sub (by omega)) (by decide) rfl (fun ls hl => ?_)
              refine lv_iload_n hx hb dJ4_numberOfLeadingZeros_43 rfl (lv_at hl 1 rfl) ?_
              refine lv_bipush (v := (nI 8)) hx hb dJ4_numberOfLeadingZeros_44 (by decide) ?_
              refine lv_iushr hx hb dJ4_numberOfLeadingZeros_46 rfl ?_
              refine lv_topi (fun v46 e46 => ?_)
              obtain rfl : v46 = (nI (b.1 / 2 ^ 8)) := by rw [e46]; exact pk_ushrN (by omega) (nI 8) 8 (by decide)
              refine lv_istore_n (lv' := [(0, .int (nI (b.1 / 2 ^ 8))), (1, .int (nI (b.2 - 8)))]) hx hb dJ4_numberOfLeadingZeros_47 rfl hl (by decide) rfl (fun ls hl => ?_)
              have hd := l2_div (n := b.1) (k := 8) (by omega)
              exact J48 (b.1 / 2 ^ 8, b.2 - 8) ls ⟨by show 1 ≤ b.1 / 2 ^ 8; omega, by show b.1 / 2 ^ 8 < 2 ^ 8; omega, by show b.2 - 8 ≤ 31; omega, by show n.log2 + (b.2 - 8) = (b.1 / 2 ^ 8).log2 + 31; omega⟩ (lv_sub hl [0, 1] rfl)
          · refine lv_bipush (v := (nI 31)) hx hb dJ4_numberOfLeadingZeros_15 (by decide) ?_
            refine lv_istore_n (lv' := [(1, .int (nI 31)), (0, .int (nI n))]) hx hb dJ4_numberOfLeadingZeros_17 rfl hl (by decide) rfl (fun ls hl => ?_)
            refine lv_iload_n hx hb dJ4_numberOfLeadingZeros_18 rfl (lv_at hl 1 rfl) ?_
            refine lv_ldcw (v := (nI 65536)) hx hb hown (hts _ q160) dJ4_numberOfLeadingZeros_19 ?_
            refine lv_icmp_lt (tgt := 33) hx hb dJ4_numberOfLeadingZeros_22 (by decide) (fun c22 => ?_) (fun c22 => ?_)
            · have hc := (nI_ltI (by omega) (by omega)).mp c22
              exact J33 (n, 31) ls ⟨by show 1 ≤ n; omega, by show n < 2 ^ 16; omega, by show 31 ≤ 31; decide, rfl⟩ (lv_sub hl [1, 0] rfl)
            · have hc : ¬ n < 65536 := fun h => c22 (nI_lt h (by omega))
              refine lv_iinc (v := (nI (31 - 16))) (lv' := [(1, .int (nI (31 - 16))), (0, .int (nI n))]) hx hb dJ4_numberOfLeadingZeros_25 hl (k := 0) rfl (by decide) (by decide) rfl (fun ls hl => ?_)
              refine lv_iload_n hx hb dJ4_numberOfLeadingZeros_28 rfl (lv_at hl 1 rfl) ?_
              refine lv_bipush (v := (nI 16)) hx hb dJ4_numberOfLeadingZeros_29 (by decide) ?_
              refine lv_iushr hx hb dJ4_numberOfLeadingZeros_31 rfl ?_
              refine lv_topi (fun v31 e31 => ?_)
              obtain rfl : v31 = (nI (n / 2 ^ 16)) := by rw [e31]; exact pk_ushrN (by omega) (nI 16) 16 (by decide)
              refine lv_istore_n (lv' := [(0, .int (nI (n / 2 ^ 16))), (1, .int (nI (31 - 16)))]) hx hb dJ4_numberOfLeadingZeros_32 rfl hl (by decide) rfl (fun ls hl => ?_)
              have hg := l2_ge (n := n) (k := 16) (by omega)
              have hd := l2_div (n := n) (k := 16) (by omega)
              exact J33 (n / 2 ^ 16, 31 - 16) ls ⟨by show 1 ≤ n / 2 ^ 16; omega, by show n / 2 ^ 16 < 2 ^ 16; omega, by show 31 - 16 ≤ 31; decide, by show n.log2 + (31 - 16) = (n / 2 ^ 16).log2 + 31; omega⟩ (lv_sub hl [0, 1] rfl)
  · have hc : ¬ (0 < n ∧ n < 2 ^ 31) := fun h => c1 ((nI_gt0 hn).mpr h)
    refine lv_iload_n hx hb dJ4_numberOfLeadingZeros_4 rfl (lv_at hl 0 rfl) ?_
    refine lv_if_ne (tgt := 13) hx hb dJ4_numberOfLeadingZeros_5 (by decide) (fun c5 => ?_) (fun c5 => ?_)
    · have hn0 : n ≠ 0 := fun h => c5 (by rw [h]; rfl)
      refine lv_iconst (v := (nI 0)) hx hb dJ4_numberOfLeadingZeros_13 (by decide) ?_
      exact W.iret (v := (nI 0)) hx hb hr (fun t ht hW => ⟨_, rfl, by unfold clz32; rw [if_neg hn0, show n.log2 = 31 from l2_eq (by omega) (by omega)], ht⟩) (fun q h => by cases h) dJ4_numberOfLeadingZeros_14
    · have hn0 : n = 0 := (nI_eq32 hn (by decide)).mp c5
      refine lv_bipush (v := (nI 32)) hx hb dJ4_numberOfLeadingZeros_8 (by decide) ?_
      refine lv_goto (tgt := 14) hx hb dJ4_numberOfLeadingZeros_10 (by decide) ?_
      exact W.iret (v := (nI 32)) hx hb hr (fun t ht hW => ⟨_, rfl, by rw [hn0]; rfl, ht⟩) (fun q h => by cases h) dJ4_numberOfLeadingZeros_14

set_option maxHeartbeats 4000000 in
set_option maxRecDepth 100000 in
/-- Long.numberOfLeadingZeros -/
theorem met_nlzL (l : Launch) (n : Nat) (hn : n < 2 ^ 64) : Met l yJ5_numberOfLeadingZeros (ws_ yJ5_numberOfLeadingZeros cJ5_numberOfLeadingZeros 3 (some .int)) ({ frames := 1, cells := 0, slots := 0, locals := 21 } : Room) (Pp [.long (lN n)]) (vp_Si (fun r => r = nI (clz64 n))) 0 0 (fun _ => False) := by
  refine Met.ofW (cc := cJ5_numberOfLeadingZeros) (maxL := 3) (ret := (some .int)) (by decide) rfl ?_
  intro p e s m args below meth c s₁ B hml hv
  obtain ⟨rfl, -⟩ := hv
  have hx := B.exec
  have hb := B.bytes
  have hr := B.returns
  have hts := atoms_spec (ws := ws_ yJ5_numberOfLeadingZeros cJ5_numberOfLeadingZeros 3 (some .int)) B.pre
  have hts : ∀ w ∈ lw_all, w.before _ s = true := fun w h => hts w (List.mem_cons_of_mem _ h)
  have hown : s.vm.findClass RJ5 = some m.cls := findClass_of_methodNamed B.named
  have hlocks := B.notSynchronized
  refine w_entry [.long (lN n)] (Nat.le_of_ble_eq_true rfl) (fun ls hl => ?_)
  have hl : lv_has ls 3 [(0, .long (lN n))] := hl
  refine lv_lload_n hx hb dJ5_numberOfLeadingZeros_0 rfl (lv_at hl 0 rfl) ?_
  refine lv_bipush (v := (nI 32)) hx hb dJ5_numberOfLeadingZeros_1 (by decide) ?_
  refine lv_lushr hx hb dJ5_numberOfLeadingZeros_3 rfl ?_
  refine lv_topl (fun v3 e3 => ?_)
  obtain rfl : v3 = (lN (n / 2 ^ 32)) := by rw [e3]; exact wb_shr hn (k := 32) (by decide)
  refine lv_l2i hx hb dJ5_numberOfLeadingZeros_4 rfl ?_
  refine lv_topi (fun v4 e4 => ?_)
  obtain rfl : v4 = (nI (n / 2 ^ 32)) := by rw [e4]; exact lN_i _
  refine lv_istore_n (lv' := [(2, .int (nI (n / 2 ^ 32))), (0, .long (lN n))]) hx hb dJ5_numberOfLeadingZeros_5 rfl hl (by decide) rfl (fun ls hl => ?_)
  refine lv_iload_n hx hb dJ5_numberOfLeadingZeros_6 rfl (lv_at hl 0 rfl) ?_
  refine lv_if_ne (tgt := 21) hx hb dJ5_numberOfLeadingZeros_7 (by decide) (fun c7 => ?_) (fun c7 => ?_)
  · have hc : n / 2 ^ 32 ≠ 0 := fun h => c7 (by rw [h]; rfl)
    refine lv_iload_n hx hb dJ5_numberOfLeadingZeros_21 rfl (lv_at hl 0 rfl) ?_
    refine vp_callSi (W.runS (As := [.int (nI (n / 2 ^ 32))]) (rest := []) ⟨hx, hb, hml, hown, hts⟩ (met_nlzI l (n / 2 ^ 32) (by omega)) (va_cwS 1 hts (lw_S q214 q158 q15 q159) rfl rfl rfl (by decide +kernel) ⟨Nat.le_of_ble_eq_true rfl, Nat.le_of_ble_eq_true rfl⟩) (preS_p) rfl rfl hl.1 rfl (lv_room (Nat.le_of_ble_eq_true rfl)) dJ5_numberOfLeadingZeros_22 ⟨Nat.le_of_ble_eq_true rfl, Nat.le_of_ble_eq_true rfl⟩) (fun r22 e22 => ?_)
    obtain rfl : r22 = (nI (clz32 (n / 2 ^ 32))) := e22
    exact W.iret (v := (nI (clz32 (n / 2 ^ 32)))) hx hb hr (fun t ht hW => ⟨_, rfl, by rw [clz64_32 n hn, if_neg hc], ht⟩) (fun q h => by cases h) dJ5_numberOfLeadingZeros_25
  · have hc : n / 2 ^ 32 = 0 := (nI_eq32 (by omega) (by decide)).mp c7
    refine lv_bipush (v := (nI 32)) hx hb dJ5_numberOfLeadingZeros_10 (by decide) ?_
    refine lv_lload_n hx hb dJ5_numberOfLeadingZeros_12 rfl (lv_at hl 1 rfl) ?_
    refine lv_l2i hx hb dJ5_numberOfLeadingZeros_13 rfl ?_
    refine lv_topi (fun v13 e13 => ?_)
    obtain rfl : v13 = (nI (n % 2 ^ 32)) := by rw [e13, lN_i]; exact nI_mod n
    refine vp_callSi (W.runS (As := [.int (nI (n % 2 ^ 32))]) (rest := [.int (nI 32)]) ⟨hx, hb, hml, hown, hts⟩ (met_nlzI l (n % 2 ^ 32) (Nat.mod_lt _ (by decide))) (va_cwS 1 hts (lw_S q214 q158 q15 q159) rfl rfl rfl (by decide +kernel) ⟨Nat.le_of_ble_eq_true rfl, Nat.le_of_ble_eq_true rfl⟩) (preS_p) rfl rfl hl.1 rfl (lv_room (Nat.le_of_ble_eq_true rfl)) dJ5_numberOfLeadingZeros_14 ⟨Nat.le_of_ble_eq_true rfl, Nat.le_of_ble_eq_true rfl⟩) (fun r14 e14 => ?_)
    obtain rfl : r14 = (nI (clz32 (n % 2 ^ 32))) := e14
    refine lv_iadd hx hb dJ5_numberOfLeadingZeros_17 ?_
    refine lv_topi (fun v17 e17 => ?_)
    refine lv_goto (tgt := 25) hx hb dJ5_numberOfLeadingZeros_18 (by decide) ?_
    exact W.iret (v := v17) hx hb hr (fun t ht hW => ⟨_, rfl, by rw [e17, clz64_32 n hn, if_pos hc]; exact nI_add 32 _, ht⟩) (fun q h => by cases h) dJ5_numberOfLeadingZeros_25

set_option maxHeartbeats 4000000 in
set_option maxRecDepth 100000 in
/-- Objects.requireNonNull of an object -/
theorem met_rnn (l : Launch) (a1 a2 : Nat) : Met l yJ6_requireNonNull (ws_ yJ6_requireNonNull cJ6_requireNonNull 2 (some (.object "java/lang/Object"))) ({ frames := 0, cells := 0, slots := 0, locals := 0 } : Room) (Pp [.ref a1, .ref a2]) (va_Sr (fun z => z = a1) (fun z => .ref z)) 0 0 (fun _ => False) := by
  refine Met.ofW (cc := cJ6_requireNonNull) (maxL := 2) (ret := (some (.object "java/lang/Object"))) (by decide) rfl ?_
  intro p e s m args below meth c s₁ B hml hv
  obtain ⟨rfl, -⟩ := hv
  have hx := B.exec
  have hb := B.bytes
  have hr := B.returns
  have hts := atoms_spec (ws := ws_ yJ6_requireNonNull cJ6_requireNonNull 2 (some (.object "java/lang/Object"))) B.pre
  have hts : ∀ w ∈ lw_all, w.before _ s = true := fun w h => hts w (List.mem_cons_of_mem _ h)
  have hown : s.vm.findClass RJ6 = some m.cls := findClass_of_methodNamed B.named
  have hlocks := B.notSynchronized
  refine w_entry [.ref a1, .ref a2] (Nat.le_of_ble_eq_true rfl) (fun ls hl => ?_)
  have hl : lv_has ls 2 [(0, .ref a1), (1, .ref a2)] := hl
  refine lv_aload_n hx hb dJ6_requireNonNull_0 rfl (lv_at hl 0 rfl) ?_
  refine lv_ifnonnull (tgt := 13) hx hb dJ6_requireNonNull_1 (by decide) ?_
  refine lv_aload_n hx hb dJ6_requireNonNull_13 rfl (lv_at hl 0 rfl) ?_
  exact W.aret (v := .ref a1) hx hb hr (Or.inl ⟨_, rfl⟩) (Or.inr ⟨_, rfl⟩) (fun t ht hW => ⟨_, rfl, rfl, ht⟩) (fun q h => by cases h) dJ6_requireNonNull_14

set_option maxHeartbeats 4000000 in
set_option maxRecDepth 100000 in
/-- checkPrecisionParameter within its bounds -/
theorem met_chk (l : Launch) (q : Nat) (h3 : 3 ≤ q) (h26 : q ≤ 26) : Met l yX3_checkPrecisionParameter (ws_ yX3_checkPrecisionParameter cX3_checkPrecisionParameter 3 none) ({ frames := 0, cells := 0, slots := 0, locals := 0 } : Room) (Pp [.int (nI q), .int (nI 3), .int (nI 26)]) (va_Sv (fun _ => True)) 0 0 (fun _ => False) := by
  refine Met.ofW (cc := cX3_checkPrecisionParameter) (maxL := 3) (ret := none) (by decide) rfl ?_
  intro p e s m args below meth c s₁ B hml hv
  obtain ⟨rfl, -⟩ := hv
  have hx := B.exec
  have hb := B.bytes
  have hr := B.returns
  have hts := atoms_spec (ws := ws_ yX3_checkPrecisionParameter cX3_checkPrecisionParameter 3 none) B.pre
  have hts : ∀ w ∈ lw_all, w.before _ s = true := fun w h => hts w (List.mem_cons_of_mem _ h)
  have hown : s.vm.findClass RX3 = some m.cls := findClass_of_methodNamed B.named
  have hlocks := B.notSynchronized
  refine w_entry [.int (nI q), .int (nI 3), .int (nI 26)] (Nat.le_of_ble_eq_true rfl) (fun ls hl => ?_)
  have hl : lv_has ls 3 [(0, .int (nI q)), (1, .int (nI 3)), (2, .int (nI 26))] := hl
  refine lv_iload_n hx hb dX3_checkPrecisionParameter_0 rfl (lv_at hl 0 rfl) ?_
  refine lv_iload_n hx hb dX3_checkPrecisionParameter_1 rfl (lv_at hl 1 rfl) ?_
  refine lv_icmp_lt (tgt := 10) hx hb dX3_checkPrecisionParameter_2 (by decide) (fun c2 => absurd c2 (nI_nlt h3 (by omega))) (fun c2 => ?_)
  refine lv_iload_n hx hb dX3_checkPrecisionParameter_5 rfl (lv_at hl 0 rfl) ?_
  refine lv_iload_n hx hb dX3_checkPrecisionParameter_6 rfl (lv_at hl 2 rfl) ?_
  refine lv_icmp_le (tgt := 20) hx hb dX3_checkPrecisionParameter_7 (by decide) (fun c7 => ?_) (fun c7 => absurd (nI_le h26 (by decide)) c7)
  exact W.vret hx hb hr (fun t ht hW => ⟨rfl, trivial, ht⟩) (fun q h => by cases h) dX3_checkPrecisionParameter_20

set_option maxHeartbeats 4000000 in
set_option maxRecDepth 100000 in
/-- unpack -/
theorem met_unpack (l : Launch) (r : Nat) (hr1 : r < 256) (hr8 : r = 0 ∨ 8 ≤ r) : Met l yX2_unpack (ws_ yX2_unpack cX2_unpack 1 (some .long)) ({ frames := 0, cells := 0, slots := 0, locals := 0 } : Room) (Pp [.int (sb r)]) (vp_Sl (fun z => z = lN (unp r))) 0 0 (fun _ => False) := by
  refine Met.ofW (cc := cX2_unpack) (maxL := 1) (ret := (some .long)) (by decide) rfl ?_
  intro p e s m args below meth c s₁ B hml hv
  obtain ⟨rfl, -⟩ := hv
  have hx := B.exec
  have hb := B.bytes
  have hr := B.returns
  have hts := atoms_spec (ws := ws_ yX2_unpack cX2_unpack 1 (some .long)) B.pre
  have hts : ∀ w ∈ lw_all, w.before _ s = true := fun w h => hts w (List.mem_cons_of_mem _ h)
  have hown : s.vm.findClass RX2 = some m.cls := findClass_of_methodNamed B.named
  have hlocks := B.notSynchronized
  refine w_entry [.int (sb r)] (Nat.le_of_ble_eq_true rfl) (fun ls hl => ?_)
  have hl : lv_has ls 1 [(0, .int (sb r))] := hl
  refine lv_ldc2 (v := (lN 4)) hx hb hown (hts _ q219) dX2_unpack_0 ?_
  refine lv_iload_n hx hb dX2_unpack_3 rfl (lv_at hl 0 rfl) ?_
  refine lv_iconst (v := (nI 3)) hx hb dX2_unpack_4 (by decide) ?_
  refine lv_iand hx hb dX2_unpack_5 ?_
  refine lv_topi (fun v5 e5 => ?_)
  refine lv_i2l hx hb dX2_unpack_6 rfl ?_
  refine lv_topl (fun v6 e6 => ?_)
  refine lv_lor hx hb dX2_unpack_7 ?_
  refine lv_topl (fun v7 e7 => ?_)
  refine lv_iload_n hx hb dX2_unpack_8 rfl (lv_at hl 0 rfl) ?_
  refine lv_iconst (v := (nI 2)) hx hb dX2_unpack_9 (by decide) ?_
  refine lv_iushr hx hb dX2_unpack_10 rfl ?_
  refine lv_topi (fun v10 e10 => ?_)
  refine lv_iconst (v := (nI 2)) hx hb dX2_unpack_11 (by decide) ?_
  refine lv_isub hx hb dX2_unpack_12 ?_
  refine lv_topi (fun v12 e12 => ?_)
  refine lv_lshl hx hb dX2_unpack_13 rfl ?_
  refine lv_topl (fun v13 e13 => ?_)
  exact W.lret (v := v13) hx hb hr (fun t ht hW => ⟨_, rfl, by rw [e13, e7, e6, e5, e12, e10]; exact unp_raw r hr1 hr8, ht⟩) (fun q h => by cases h) dX2_unpack_14

set_option maxHeartbeats 4000000 in
set_option maxRecDepth 100000 in
/-- pack -/
theorem met_pack (l : Launch) (n : Nat) (hn : n < 2 ^ 64) (h4 : 4 ≤ n) : Met l yX2_pack (ws_ yX2_pack cX2_pack 3 (some .byte)) ({ frames := 2, cells := 0, slots := 0, locals := 43 } : Room) (Pp [.long (lN n)]) (vp_Si (fun z => z = sb (rg n))) 0 0 (fun _ => False) := by
  refine Met.ofW (cc := cX2_pack) (maxL := 3) (ret := (some .byte)) (by decide) rfl ?_
  intro p e s m args below meth c s₁ B hml hv
  obtain ⟨rfl, -⟩ := hv
  have hx := B.exec
  have hb := B.bytes
  have hr := B.returns
  have hts := atoms_spec (ws := ws_ yX2_pack cX2_pack 3 (some .byte)) B.pre
  have hts : ∀ w ∈ lw_all, w.before _ s = true := fun w h => hts w (List.mem_cons_of_mem _ h)
  have hown : s.vm.findClass RX2 = some m.cls := findClass_of_methodNamed B.named
  have hlocks := B.notSynchronized
  refine w_entry [.long (lN n)] (Nat.le_of_ble_eq_true rfl) (fun ls hl => ?_)
  have hl : lv_has ls 3 [(0, .long (lN n))] := hl
  have hlg : n.log2 < 64 := l2_lt (by omega) hn
  have hl2 := l2_ge (n := n) (k := 2) h4
  have hcz : clz64 n + 1 = 64 - n.log2 := by unfold clz64; rw [if_neg (by omega)]; omega
  refine lv_lload_n hx hb dX2_pack_0 rfl (lv_at hl 0 rfl) ?_
  refine vp_callSi (W.runS (As := [.long (lN n)]) (rest := []) ⟨hx, hb, hml, hown, hts⟩ (met_nlzL l n hn) (va_cwS 1 hts (lw_S q211 q212 q16 q213) rfl rfl rfl (by decide +kernel) ⟨Nat.le_of_ble_eq_true rfl, Nat.le_of_ble_eq_true rfl⟩) (preS_p) rfl rfl hl.1 rfl (lv_room (Nat.le_of_ble_eq_true rfl)) dX2_pack_1 ⟨Nat.le_of_ble_eq_true rfl, Nat.le_of_ble_eq_true rfl⟩) (fun r1 e1 => ?_)
  obtain rfl : r1 = (nI (clz64 n)) := e1
  refine lv_iconst (v := (nI 1)) hx hb dX2_pack_4 (by decide) ?_
  refine lv_iadd hx hb dX2_pack_5 ?_
  refine lv_topi (fun v5 e5 => ?_)
  obtain rfl : v5 = (nI (64 - n.log2)) := by rw [e5, nI_add, hcz]
  refine lv_istore_n (lv' := [(2, .int (nI (64 - n.log2))), (0, .long (lN n))]) hx hb dX2_pack_6 rfl hl (by decide) rfl (fun ls hl => ?_)
  refine lv_iload_n hx hb dX2_pack_7 rfl (lv_at hl 0 rfl) ?_
  refine lv_ineg hx hb dX2_pack_8 ?_
  refine lv_topi (fun v8 e8 => ?_)
  refine lv_iconst (v := (nI 2)) hx hb dX2_pack_9 (by decide) ?_
  refine lv_ishl hx hb dX2_pack_10 ?_
  refine lv_topi (fun v10 e10 => ?_)
  refine lv_i2l hx hb dX2_pack_11 rfl ?_
  refine lv_topl (fun v11 e11 => ?_)
  refine lv_lload_n hx hb dX2_pack_12 rfl (lv_at hl 1 rfl) ?_
  refine lv_iload_n hx hb dX2_pack_13 rfl (lv_at hl 0 rfl) ?_
  refine lv_lshl hx hb dX2_pack_14 rfl ?_
  refine lv_topl (fun v14 e14 => ?_)
  obtain rfl : v14 = (lN (n * 2 ^ (64 - n.log2) % 2 ^ 64)) := by rw [e14, wb_shl n (by omega)]; exact wb_mod _
  refine lv_bipush (v := (nI 62)) hx hb dX2_pack_15 (by decide) ?_
  refine lv_lushr hx hb dX2_pack_17 rfl ?_
  refine lv_topl (fun v17 e17 => ?_)
  obtain rfl : v17 = (lN (n / 2 ^ (n.log2 - 2) - 4)) := by rw [e17, ← pack_sh hn h4]; exact wb_shr (Nat.mod_lt _ (by decide)) (k := 62) (by decide)
  refine lv_lor hx hb dX2_pack_18 ?_
  refine lv_topl (fun v18 e18 => ?_)
  refine lv_l2i hx hb dX2_pack_19 rfl ?_
  refine lv_topi (fun v19 e19 => ?_)
  refine lv_i2b hx hb dX2_pack_20 rfl ?_
  refine lv_topi (fun v20 e20 => ?_)
  have hw := rg_win h4
  have hfin : v20 = sb (rg n) := by
    rw [e20, e19, e18, e11, e10, e8, pack_raw n.log2 hlg (n / 2 ^ (n.log2 - 2) - 4) (by omega) hl2]
    unfold rg
    rw [if_neg (by omega)]
    congr 1
    omega
  exact W.zret (v := v20) hx hb hr (by rw [hfin]; exact sb_nar _) (fun t ht hW => ⟨_, rfl, hfin, ht⟩) (fun q h => by cases h) dX2_pack_21
end
section
set_option maxRecDepth 100000
set_option maxHeartbeats 4000000 in
set_option maxRecDepth 100000 in
/-- UltraSketchDesk.k -/
theorem met_k (l : Launch) (x : Int32) : Met l yX1_k (ws_ yX1_k cX1_k 1 (some .int)) ({ frames := 0, cells := 0, slots := 0, locals := 0 } : Room) (Pp [.int x]) (vp_Si (fun r => r = nI (uI x % 2 ^ 31 % 3))) 0 0 (fun _ => False) := by
  refine Met.ofW (cc := cX1_k) (maxL := 1) (ret := (some .int)) (by decide) rfl ?_
  intro p e s m args below meth c s₁ B hml hv
  obtain ⟨rfl, -⟩ := hv
  have hx := B.exec
  have hb := B.bytes
  have hr := B.returns
  have hts := atoms_spec (ws := ws_ yX1_k cX1_k 1 (some .int)) B.pre
  have hts : ∀ w ∈ lw_all, w.before _ s = true := fun w h => hts w (List.mem_cons_of_mem _ h)
  have hown : s.vm.findClass RX1 = some m.cls := findClass_of_methodNamed B.named
  have hlocks := B.notSynchronized
  refine w_entry [.int x] (Nat.le_of_ble_eq_true rfl) (fun ls hl => ?_)
  have hl : lv_has ls 1 [(0, .int x)] := hl
  refine lv_iload_n hx hb dX1_k_0 rfl (lv_at hl 0 rfl) ?_
  refine lv_ldc (v := (nI 2147483647)) hx hb hown (hts _ q152) dX1_k_1 ?_
  refine lv_iand hx hb dX1_k_3 ?_
  refine lv_topi (fun v3 e3 => ?_)
  obtain rfl : v3 = (nI (uI x % 2 ^ 31)) := by rw [e3]; exact pk_and x 31 (by decide)
  refine lv_iconst (v := (nI 3)) hx hb dX1_k_4 (by decide) ?_
  refine lv_irem hx hb dX1_k_5 (by decide) ?_
  refine lv_topi (fun v5 e5 => ?_)
  obtain rfl : v5 = (nI (uI x % 2 ^ 31 % 3)) := by rw [e5]; exact pk_rem (Nat.mod_lt _ (by decide)) (by decide) (by decide)
  exact W.iret (v := (nI (uI x % 2 ^ 31 % 3))) hx hb hr (fun t ht hW => ⟨_, rfl, rfl, ht⟩) (fun q h => by cases h) dX1_k_6

set_option maxHeartbeats 4000000 in
set_option maxRecDepth 100000 in
/-- UltraSketchDeskLaw.rest -/
theorem met_rest (l : Launch) (x : Int32) (n : Nat) (h0 : 0 < n) (hn : n < 2 ^ 31) : Met l yX0_rest (ws_ yX0_rest cX0_rest 2 (some .int)) ({ frames := 0, cells := 0, slots := 0, locals := 0 } : Room) (Pp [.int x, .int (nI n)]) (vp_Si (fun r => r = nI (uI x % 2 ^ 31 % n))) 0 0 (fun _ => False) := by
  refine Met.ofW (cc := cX0_rest) (maxL := 2) (ret := (some .int)) (by decide) rfl ?_
  intro p e s m args below meth c s₁ B hml hv
  obtain ⟨rfl, -⟩ := hv
  have hx := B.exec
  have hb := B.bytes
  have hr := B.returns
  have hts := atoms_spec (ws := ws_ yX0_rest cX0_rest 2 (some .int)) B.pre
  have hts : ∀ w ∈ lw_all, w.before _ s = true := fun w h => hts w (List.mem_cons_of_mem _ h)
  have hown : s.vm.findClass RX0 = some m.cls := findClass_of_methodNamed B.named
  have hlocks := B.notSynchronized
  refine w_entry [.int x, .int (nI n)] (Nat.le_of_ble_eq_true rfl) (fun ls hl => ?_)
  have hl : lv_has ls 2 [(0, .int x), (1, .int (nI n))] := hl
  refine lv_iload_n hx hb dX0_rest_0 rfl (lv_at hl 0 rfl) ?_
  refine lv_ldc (v := (nI 2147483647)) hx hb hown (hts _ q194) dX0_rest_1 ?_
  refine lv_iand hx hb dX0_rest_3 ?_
  refine lv_topi (fun v3 e3 => ?_)
  obtain rfl : v3 = (nI (uI x % 2 ^ 31)) := by rw [e3]; exact pk_and x 31 (by decide)
  refine lv_iload_n hx hb dX0_rest_4 rfl (lv_at hl 1 rfl) ?_
  refine lv_irem hx hb dX0_rest_5 (nI_ne0 h0 hn) ?_
  refine lv_topi (fun v5 e5 => ?_)
  obtain rfl : v5 = (nI (uI x % 2 ^ 31 % n)) := by rw [e5]; exact pk_rem (Nat.mod_lt _ (by decide)) h0 hn
  exact W.iret (v := (nI (uI x % 2 ^ 31 % n))) hx hb hr (fun t ht hW => ⟨_, rfl, rfl, ht⟩) (fun q h => by cases h) dX0_rest_6

set_option maxHeartbeats 4000000 in
set_option maxRecDepth 100000 in
/-- X1_of -/
theorem met_of (l : Launch) (x y : Int32) : Met l yX1_of (ws_ yX1_of cX1_of 2 (some .long)) ({ frames := 0, cells := 0, slots := 0, locals := 0 } : Room) (Pp [.int x, .int y]) (vp_Sl (fun r => r = lN (hw x y))) 0 0 (fun _ => False) := by
  refine Met.ofW (cc := cX1_of) (maxL := 2) (ret := (some .long)) (by decide) rfl ?_
  intro p e s m args below meth c s₁ B hml hv
  obtain ⟨rfl, -⟩ := hv
  have hx := B.exec
  have hb := B.bytes
  have hr := B.returns
  have hts := atoms_spec (ws := ws_ yX1_of cX1_of 2 (some .long)) B.pre
  have hts : ∀ w ∈ lw_all, w.before _ s = true := fun w h => hts w (List.mem_cons_of_mem _ h)
  have hown : s.vm.findClass RX1 = some m.cls := findClass_of_methodNamed B.named
  have hlocks := B.notSynchronized
  refine w_entry [.int x, .int y] (Nat.le_of_ble_eq_true rfl) (fun ls hl => ?_)
  have hl : lv_has ls 2 [(0, .int x), (1, .int y)] := hl
  refine lv_iload_n hx hb dX1_of_0 rfl (lv_at hl 0 rfl) ?_
  refine lv_i2l hx hb dX1_of_1 rfl ?_
  refine lv_topl (fun v1 e1 => ?_)
  refine lv_bipush (v := (nI 32)) hx hb dX1_of_2 (by decide) ?_
  refine lv_lshl hx hb dX1_of_4 rfl ?_
  refine lv_topl (fun v4 e4 => ?_)
  refine lv_iload_n hx hb dX1_of_5 rfl (lv_at hl 1 rfl) ?_
  refine lv_i2l hx hb dX1_of_6 rfl ?_
  refine lv_topl (fun v6 e6 => ?_)
  refine lv_ldc2 (v := (lN 4294967295)) hx hb hown (hts _ q202) dX1_of_7 ?_
  refine lv_land hx hb dX1_of_10 ?_
  refine lv_topl (fun v10 e10 => ?_)
  refine lv_lor hx hb dX1_of_11 ?_
  refine lv_topl (fun v11 e11 => ?_)
  exact W.lret (v := v11) hx hb hr (fun t ht hW => ⟨_, rfl, by rw [e11, e10, e6, e4, e1]; exact of_raw x y, ht⟩) (fun q h => by cases h) dX1_of_12

set_option maxHeartbeats 4000000 in
set_option maxRecDepth 100000 in
/-- X0_whole -/
theorem met_whole (l : Launch) (x y : Int32) : Met l yX0_whole (ws_ yX0_whole cX0_whole 2 (some .long)) ({ frames := 0, cells := 0, slots := 0, locals := 0 } : Room) (Pp [.int x, .int y]) (vp_Sl (fun r => r = lN (hw x y))) 0 0 (fun _ => False) := by
  refine Met.ofW (cc := cX0_whole) (maxL := 2) (ret := (some .long)) (by decide) rfl ?_
  intro p e s m args below meth c s₁ B hml hv
  obtain ⟨rfl, -⟩ := hv
  have hx := B.exec
  have hb := B.bytes
  have hr := B.returns
  have hts := atoms_spec (ws := ws_ yX0_whole cX0_whole 2 (some .long)) B.pre
  have hts : ∀ w ∈ lw_all, w.before _ s = true := fun w h => hts w (List.mem_cons_of_mem _ h)
  have hown : s.vm.findClass RX0 = some m.cls := findClass_of_methodNamed B.named
  have hlocks := B.notSynchronized
  refine w_entry [.int x, .int y] (Nat.le_of_ble_eq_true rfl) (fun ls hl => ?_)
  have hl : lv_has ls 2 [(0, .int x), (1, .int y)] := hl
  refine lv_iload_n hx hb dX0_whole_0 rfl (lv_at hl 0 rfl) ?_
  refine lv_i2l hx hb dX0_whole_1 rfl ?_
  refine lv_topl (fun v1 e1 => ?_)
  refine lv_bipush (v := (nI 32)) hx hb dX0_whole_2 (by decide) ?_
  refine lv_lshl hx hb dX0_whole_4 rfl ?_
  refine lv_topl (fun v4 e4 => ?_)
  refine lv_iload_n hx hb dX0_whole_5 rfl (lv_at hl 1 rfl) ?_
  refine lv_i2l hx hb dX0_whole_6 rfl ?_
  refine lv_topl (fun v6 e6 => ?_)
  refine lv_ldc2 (v := (lN 4294967295)) hx hb hown (hts _ q226) dX0_whole_7 ?_
  refine lv_land hx hb dX0_whole_10 ?_
  refine lv_topl (fun v10 e10 => ?_)
  refine lv_lor hx hb dX0_whole_11 ?_
  refine lv_topl (fun v11 e11 => ?_)
  exact W.lret (v := v11) hx hb hr (fun t ht hW => ⟨_, rfl, by rw [e11, e10, e6, e4, e1]; exact of_raw x y, ht⟩) (fun q h => by cases h) dX0_whole_12

set_option maxHeartbeats 4000000 in
set_option maxRecDepth 100000 in
/-- DistinctCountUtil.computeToken -/
theorem met_tokU (l : Launch) (h : Nat) (hh : h < 2 ^ 64) : Met l yX3_computeToken (ws_ yX3_computeToken cX3_computeToken 4 (some .int)) ({ frames := 2, cells := 0, slots := 0, locals := 43 } : Room) (Pp [.long (lN h)]) (vp_Si (fun r => r = nI (tok h))) 0 0 (fun _ => False) := by
  refine Met.ofW (cc := cX3_computeToken) (maxL := 4) (ret := (some .int)) (by decide) rfl ?_
  intro p e s m args below meth c s₁ B hml hv
  obtain ⟨rfl, -⟩ := hv
  have hx := B.exec
  have hb := B.bytes
  have hr := B.returns
  have hts := atoms_spec (ws := ws_ yX3_computeToken cX3_computeToken 4 (some .int)) B.pre
  have hts : ∀ w ∈ lw_all, w.before _ s = true := fun w h => hts w (List.mem_cons_of_mem _ h)
  have hown : s.vm.findClass RX3 = some m.cls := findClass_of_methodNamed B.named
  have hlocks := B.notSynchronized
  refine w_entry [.long (lN h)] (Nat.le_of_ble_eq_true rfl) (fun ls hl => ?_)
  have hl : lv_has ls 4 [(0, .long (lN h))] := hl
  have hlt : (h % 2 ^ (64 - 26)) * 2 ^ 26 + (2 ^ 26 - 1) < 2 ^ 64 := by have := Nat.mod_lt h (Nat.two_pow_pos (64 - 26)); omega
  refine lv_lload_n hx hb dX3_computeToken_0 rfl (lv_at hl 0 rfl) ?_
  refine lv_bipush (v := (nI 38)) hx hb dX3_computeToken_1 (by decide) ?_
  refine lv_lushr hx hb dX3_computeToken_3 rfl ?_
  refine lv_topl (fun v3 e3 => ?_)
  obtain rfl : v3 = (lN (h / 2 ^ 38)) := by rw [e3]; exact wb_shr hh (k := 38) (by decide)
  refine lv_l2i hx hb dX3_computeToken_4 rfl ?_
  refine lv_topi (fun v4 e4 => ?_)
  obtain rfl : v4 = (nI (h / 2 ^ 38)) := by rw [e4]; exact lN_i _
  refine lv_istore_n (lv' := [(2, .int (nI (h / 2 ^ 38))), (0, .long (lN h))]) hx hb dX3_computeToken_5 rfl hl (by decide) rfl (fun ls hl => ?_)
  refine lv_lload_n hx hb dX3_computeToken_6 rfl (lv_at hl 1 rfl) ?_
  refine lv_ldc2 (v := (-1)) hx hb hown (hts _ q319) dX3_computeToken_7 ?_
  refine lv_lxor hx hb dX3_computeToken_10 ?_
  refine lv_topl (fun v10 e10 => ?_)
  refine lv_bipush (v := (nI 26)) hx hb dX3_computeToken_11 (by decide) ?_
  refine lv_lshl hx hb dX3_computeToken_13 rfl ?_
  refine lv_topl (fun v13 e13 => ?_)
  refine lv_ldc2 (v := (-1)) hx hb hown (hts _ q319) dX3_computeToken_14 ?_
  refine lv_lxor hx hb dX3_computeToken_17 ?_
  refine lv_topl (fun v17 e17 => ?_)
  obtain rfl : v17 = (lN ((h % 2 ^ (64 - 26)) * 2 ^ 26 + (2 ^ 26 - 1))) := by rw [e17, e13, e10, wb_c 26 (by decide)]; exact nsn hh (by decide)
  refine vp_callSi (W.runS (As := [.long (lN ((h % 2 ^ (64 - 26)) * 2 ^ 26 + (2 ^ 26 - 1)))]) (rest := []) ⟨hx, hb, hml, hown, hts⟩ (met_nlzL l ((h % 2 ^ (64 - 26)) * 2 ^ 26 + (2 ^ 26 - 1)) hlt) (va_cwS 1 hts (lw_S q320 q212 q16 q213) rfl rfl rfl (by decide +kernel) ⟨Nat.le_of_ble_eq_true rfl, Nat.le_of_ble_eq_true rfl⟩) (preS_p) rfl rfl hl.1 rfl (lv_room (Nat.le_of_ble_eq_true rfl)) dX3_computeToken_18 ⟨Nat.le_of_ble_eq_true rfl, Nat.le_of_ble_eq_true rfl⟩) (fun r18 e18 => ?_)
  obtain rfl : r18 = (nI (clz64 ((h % 2 ^ (64 - 26)) * 2 ^ 26 + (2 ^ 26 - 1)))) := e18
  rw [clz_nz (h := h) (p := 26) (by decide) (by decide)]
  refine lv_istore_n (lv' := [(3, .int (nI (nz (64 - 26) h))), (2, .int (nI (h / 2 ^ 38))), (0, .long (lN h))]) hx hb dX3_computeToken_21 rfl hl (by decide) rfl (fun ls hl => ?_)
  refine lv_iload_n hx hb dX3_computeToken_22 rfl (lv_at hl 1 rfl) ?_
  refine lv_bipush (v := (nI 6)) hx hb dX3_computeToken_23 (by decide) ?_
  refine lv_ishl hx hb dX3_computeToken_25 ?_
  refine lv_topi (fun v25 e25 => ?_)
  obtain rfl : v25 = (nI (h / 2 ^ 38 * 2 ^ 6)) := by rw [e25]; exact pk_shlN _ 6 (by decide) (by omega)
  refine lv_iload_n hx hb dX3_computeToken_26 rfl (lv_at hl 0 rfl) ?_
  refine lv_ior hx hb dX3_computeToken_27 ?_
  refine lv_topi (fun v27 e27 => ?_)
  exact W.iret (v := v27) hx hb hr (fun t ht hW => ⟨_, rfl, by have hz := nz_le 38 h; rw [e27, show nz (64 - 26) h = nz 38 h from rfl]; rw [nI_or (by omega) (by omega)]; unfold tok; rw [← or_sum (show nz 38 h < 2 ^ 6 by omega)], ht⟩) (fun q h => by cases h) dX3_computeToken_28

set_option maxHeartbeats 4000000 in
set_option maxRecDepth 100000 in
/-- UltraLogLog.computeToken -/
theorem met_tok (l : Launch) (h : Nat) (hh : h < 2 ^ 64) : Met l yX2_computeToken (ws_ yX2_computeToken cX2_computeToken 2 (some .int)) ({ frames := 3, cells := 0, slots := 0, locals := 66 } : Room) (Pp [.long (lN h)]) (vp_Si (fun r => r = nI (tok h))) 0 0 (fun _ => False) := by
  refine Met.ofW (cc := cX2_computeToken) (maxL := 2) (ret := (some .int)) (by decide) rfl ?_
  intro p e s m args below meth c s₁ B hml hv
  obtain ⟨rfl, -⟩ := hv
  have hx := B.exec
  have hb := B.bytes
  have hr := B.returns
  have hts := atoms_spec (ws := ws_ yX2_computeToken cX2_computeToken 2 (some .int)) B.pre
  have hts : ∀ w ∈ lw_all, w.before _ s = true := fun w h => hts w (List.mem_cons_of_mem _ h)
  have hown : s.vm.findClass RX2 = some m.cls := findClass_of_methodNamed B.named
  have hlocks := B.notSynchronized
  refine w_entry [.long (lN h)] (Nat.le_of_ble_eq_true rfl) (fun ls hl => ?_)
  have hl : lv_has ls 2 [(0, .long (lN h))] := hl
  refine lv_lload_n hx hb dX2_computeToken_0 rfl (lv_at hl 0 rfl) ?_
  refine vp_callSi (W.runS (As := [.long (lN h)]) (rest := []) ⟨hx, hb, hml, hown, hts⟩ (met_tokU l h hh) (va_cwS 1 hts (lw_S q316 q317 q9 q318) rfl rfl rfl (by decide +kernel) ⟨Nat.le_of_ble_eq_true rfl, Nat.le_of_ble_eq_true rfl⟩) (preS_p) rfl rfl hl.1 rfl (lv_room (Nat.le_of_ble_eq_true rfl)) dX2_computeToken_1 ⟨Nat.le_of_ble_eq_true rfl, Nat.le_of_ble_eq_true rfl⟩) (fun r1 e1 => ?_)
  obtain rfl : r1 = (nI (tok h)) := e1
  exact W.iret (v := (nI (tok h))) hx hb hr (fun t ht hW => ⟨_, rfl, rfl, ht⟩) (fun q h => by cases h) dX2_computeToken_4

set_option maxHeartbeats 4000000 in
set_option maxRecDepth 100000 in
/-- reconstructHash -/
theorem met_unt (l : Launch) (t : Nat) (ht1 : t < 2 ^ 32) : Met l yX3_reconstructHash (ws_ yX3_reconstructHash cX3_reconstructHash 3 (some .long)) ({ frames := 0, cells := 0, slots := 0, locals := 0 } : Room) (Pp [.int (nI t)]) (vp_Sl (fun r => r = lN (unt t))) 0 0 (fun _ => False) := by
  refine Met.ofW (cc := cX3_reconstructHash) (maxL := 3) (ret := (some .long)) (by decide) rfl ?_
  intro p e s m args below meth c s₁ B hml hv
  obtain ⟨rfl, -⟩ := hv
  have hx := B.exec
  have hb := B.bytes
  have hr := B.returns
  have hts := atoms_spec (ws := ws_ yX3_reconstructHash cX3_reconstructHash 3 (some .long)) B.pre
  have hts : ∀ w ∈ lw_all, w.before _ s = true := fun w h => hts w (List.mem_cons_of_mem _ h)
  have hown : s.vm.findClass RX3 = some m.cls := findClass_of_methodNamed B.named
  have hlocks := B.notSynchronized
  refine w_entry [.int (nI t)] (Nat.le_of_ble_eq_true rfl) (fun ls hl => ?_)
  have hl : lv_has ls 3 [(0, .int (nI t))] := hl
  refine lv_iload_n hx hb dX3_reconstructHash_0 rfl (lv_at hl 0 rfl) ?_
  refine lv_i2l hx hb dX3_reconstructHash_1 rfl ?_
  refine lv_topl (fun v1 e1 => ?_)
  refine lv_ldc2 (v := (lN 4294967232)) hx hb hown (hts _ q328) dX3_reconstructHash_2 ?_
  refine lv_land hx hb dX3_reconstructHash_5 ?_
  refine lv_topl (fun v5 e5 => ?_)
  obtain rfl : v5 = (lN (t / 64 * 64)) := by rw [e5, e1, i2l_w ht1]; exact unt_and ht1
  refine lv_lstore_n (lv' := [(1, .long (lN (t / 64 * 64))), (0, .int (nI t))]) hx hb dX3_reconstructHash_6 rfl hl (by decide) rfl (fun ls hl => ?_)
  refine lv_ldc2 (v := (lN 274877906943)) hx hb hown (hts _ q329) dX3_reconstructHash_7 ?_
  refine lv_iload_n hx hb dX3_reconstructHash_10 rfl (lv_at hl 1 rfl) ?_
  refine lv_lushr hx hb dX3_reconstructHash_11 rfl ?_
  refine lv_topl (fun v11 e11 => ?_)
  refine lv_lload_n hx hb dX3_reconstructHash_12 rfl (lv_at hl 0 rfl) ?_
  refine lv_bipush (v := (nI 32)) hx hb dX3_reconstructHash_13 (by decide) ?_
  refine lv_lshl hx hb dX3_reconstructHash_15 rfl ?_
  refine lv_topl (fun v15 e15 => ?_)
  refine lv_lor hx hb dX3_reconstructHash_16 ?_
  refine lv_topl (fun v16 e16 => ?_)
  exact W.lret (v := v16) hx hb hr (fun t ht hW => ⟨_, rfl, by rw [e16, e11, e15]; exact unt_raw ht1, ht⟩) (fun q h => by cases h) dX3_reconstructHash_17

set_option maxHeartbeats 4000000 in
set_option maxRecDepth 100000 in
/-- noughts -/
theorem met_noughts (l : Launch) (n q : Nat) (hn : n < 2 ^ 64) (hq : q ≤ 64) : Met l yX0_noughts (ws_ yX0_noughts cX0_noughts 4 (some .int)) ({ frames := 0, cells := 0, slots := 0, locals := 0 } : Room) (Pp [.long (lN n), .int (nI q)]) (vp_Si (fun r => r = nI (nz q n))) 0 0 (fun _ => False) := by
  refine Met.ofW (cc := cX0_noughts) (maxL := 4) (ret := (some .int)) (by decide) rfl ?_
  intro p e s m args below meth c s₁ B hml hv
  obtain ⟨rfl, -⟩ := hv
  have hx := B.exec
  have hb := B.bytes
  have hr := B.returns
  have hts := atoms_spec (ws := ws_ yX0_noughts cX0_noughts 4 (some .int)) B.pre
  have hts : ∀ w ∈ lw_all, w.before _ s = true := fun w h => hts w (List.mem_cons_of_mem _ h)
  have hown : s.vm.findClass RX0 = some m.cls := findClass_of_methodNamed B.named
  have hlocks := B.notSynchronized
  refine w_entry [.long (lN n), .int (nI q)] (Nat.le_of_ble_eq_true rfl) (fun ls hl => ?_)
  have hl : lv_has ls 4 [(0, .long (lN n)), (2, .int (nI q))] := hl
  refine lv_iconst (v := (nI 0)) hx hb dX0_noughts_0 (by decide) ?_
  refine lv_istore_n (lv' := [(3, .int (nI 0)), (0, .long (lN n)), (2, .int (nI q))]) hx hb dX0_noughts_1 rfl hl (by decide) rfl (fun ls hl => ?_)
  refine W_loop (nL := 4) (fun (b : Nat) H1 L1 => (b ≤ q ∧ n % 2 ^ q < 2 ^ (q - b)) ∧ H1 = s.heap ∧ L1 = []) (fun b => [(3, .int (nI b)), (0, .long (lN n)), (2, .int (nI q))]) (fun b => q - b) (fun _ => 0) (fun _ => 0) (fun b H1 L1 ls hI hl ih => ?_) 0 ⟨⟨Nat.zero_le _, Nat.mod_lt _ (Nat.two_pow_pos _)⟩, rfl, rfl⟩ (lv_sub hl [0, 1, 2] rfl)
  obtain ⟨⟨hbq, hm⟩, rfl, rfl⟩ := hI
  have hl : lv_has ls 4 [(3, .int (nI b)), (0, .long (lN n)), (2, .int (nI q))] := hl
  refine lv_iload_n hx hb dX0_noughts_2 rfl (lv_at hl 0 rfl) ?_
  refine lv_iload_n hx hb dX0_noughts_3 rfl (lv_at hl 2 rfl) ?_
  refine lv_icmp_ge (tgt := 27) hx hb dX0_noughts_4 (by decide) (fun c4 => ?_) (fun c4 => ?_)
  · have hc : q = b := by have := (nI_leI (by omega) (by omega)).mp c4; omega
    subst hc
    refine lv_iload_n hx hb dX0_noughts_27 rfl (lv_at hl 0 rfl) ?_
    exact W.iret (v := (nI q)) hx hb hr (fun t ht hW => ⟨_, rfl, by rw [nz_end hm], ht⟩) (fun q h => by cases h) dX0_noughts_28
  · have hc : b < q := by rcases Nat.lt_or_ge b q with h | h; exact h; exact absurd (nI_le h (by omega)) c4
    refine lv_lload_n hx hb dX0_noughts_7 rfl (lv_at hl 1 rfl) ?_
    refine lv_iload_n hx hb dX0_noughts_8 rfl (lv_at hl 2 rfl) ?_
    refine lv_iconst (v := (nI 1)) hx hb dX0_noughts_9 (by decide) ?_
    refine lv_isub hx hb dX0_noughts_10 ?_
    refine lv_topi (fun v10 e10 => ?_)
    obtain rfl : v10 = (nI (q - 1)) := by rw [e10]; exact pk_sub (by omega)
    refine lv_iload_n hx hb dX0_noughts_11 rfl (lv_at hl 0 rfl) ?_
    refine lv_isub hx hb dX0_noughts_12 ?_
    refine lv_topi (fun v12 e12 => ?_)
    obtain rfl : v12 = (nI (q - 1 - b)) := by rw [e12]; exact pk_sub (by omega)
    refine lv_lushr hx hb dX0_noughts_13 rfl ?_
    refine lv_topl (fun v13 e13 => ?_)
    obtain rfl : v13 = (lN (n / 2 ^ (q - 1 - b))) := by rw [e13]; exact wb_shr hn (by omega)
    refine lv_lconst (v := (lN 1)) hx hb dX0_noughts_14 (by decide) ?_
    refine lv_land hx hb dX0_noughts_15 ?_
    refine lv_topl (fun v15 e15 => ?_)
    obtain rfl : v15 = (lN (n / 2 ^ (q - 1 - b) % 2)) := by rw [e15]; exact wb_a1 (Nat.lt_of_le_of_lt (Nat.div_le_self _ _) hn)
    refine lv_lconst (v := (lN 0)) hx hb dX0_noughts_16 (by decide) ?_
    refine W.lcmp hx hb dX0_noughts_17 ?_
    refine lv_topi (fun v17 e17 => ?_)
    refine lv_if_ne (tgt := 27) hx hb dX0_noughts_18 (by decide) (fun c18 => ?_) (fun c18 => ?_)
    · have h0 : n / 2 ^ (q - 1 - b) % 2 ≠ 0 := fun h => c18 (by rw [e17, h]; exact (lg_cmp_eq _ _).mpr rfl)
      refine lv_iload_n hx hb dX0_noughts_27 rfl (lv_at hl 0 rfl) ?_
      exact W.iret (v := (nI b)) hx hb hr (fun t ht hW => ⟨_, rfl, by rw [nz_stop hc hm h0], ht⟩) (fun q h => by cases h) dX0_noughts_28
    · have h0 : n / 2 ^ (q - 1 - b) % 2 = 0 := (lN_eq64 (by omega) (by decide)).mp ((lg_cmp_eq _ _).mp (by rw [← e17]; exact c18))
      refine lv_iinc (v := (nI (b + 1))) (lv' := [(3, .int (nI (b + 1))), (0, .long (lN n)), (2, .int (nI q))]) hx hb dX0_noughts_21 hl (k := 0) rfl (nI_1 b) (by decide) rfl (fun ls hl => ?_)
      refine lv_goto (tgt := 2) hx hb dX0_noughts_24 (by decide) ?_
      exact ih (b + 1) _ _ ls (by omega) ⟨⟨hc, nz_step hc hm h0⟩, rfl, rfl⟩ (lv_sub hl [0, 1, 2] rfl)

set_option maxHeartbeats 4000000 in
set_option maxRecDepth 100000 in
/-- the law's register -/
theorem met_reg (l : Launch) (n : Nat) (hn : n < 2 ^ 64) (h4 : n = 0 ∨ 4 ≤ n) : Met l yX0_register (ws_ yX0_register cX0_register 3 (some .int)) ({ frames := 0, cells := 0, slots := 0, locals := 0 } : Room) (Pp [.long (lN n)]) (vp_Si (fun r => r = nI (rg n))) 0 0 (fun _ => False) := by
  refine Met.ofW (cc := cX0_register) (maxL := 3) (ret := (some .int)) (by decide) rfl ?_
  intro p e s m args below meth c s₁ B hml hv
  obtain ⟨rfl, -⟩ := hv
  have hx := B.exec
  have hb := B.bytes
  have hr := B.returns
  have hts := atoms_spec (ws := ws_ yX0_register cX0_register 3 (some .int)) B.pre
  have hts : ∀ w ∈ lw_all, w.before _ s = true := fun w h => hts w (List.mem_cons_of_mem _ h)
  have hown : s.vm.findClass RX0 = some m.cls := findClass_of_methodNamed B.named
  have hlocks := B.notSynchronized
  refine w_entry [.long (lN n)] (Nat.le_of_ble_eq_true rfl) (fun ls hl => ?_)
  have hl : lv_has ls 3 [(0, .long (lN n))] := hl
  refine lv_bipush (v := (nI 63)) hx hb dX0_register_0 (by decide) ?_
  refine lv_istore_n (lv' := [(2, .int (nI 63)), (0, .long (lN n))]) hx hb dX0_register_2 rfl hl (by decide) rfl (fun ls hl => ?_)
  refine lv_lload_n hx hb dX0_register_3 rfl (lv_at hl 1 rfl) ?_
  refine lv_lconst (v := (lN 0)) hx hb dX0_register_4 (by decide) ?_
  refine W.lcmp hx hb dX0_register_5 ?_
  refine lv_topi (fun v5 e5 => ?_)
  refine lv_if_ne (tgt := 11) hx hb dX0_register_6 (by decide) (fun c6 => ?_) (fun c6 => ?_)
  · have h0 : n ≠ 0 := fun h => c6 (by rw [e5, h]; exact (lg_cmp_eq _ _).mpr rfl)
    refine W_loop (nL := 3) (fun (b : Nat) H1 L1 => (b ≤ 63 ∧ n < 2 ^ (b + 1)) ∧ H1 = s.heap ∧ L1 = []) (fun b => [(2, .int (nI b)), (0, .long (lN n))]) (fun b => b) (fun _ => 0) (fun _ => 0) (fun b H1 L1 ls hI hl ih => ?_) 63 ⟨⟨Nat.le_refl _, hn⟩, rfl, rfl⟩ (lv_sub hl [0, 1] rfl)
    obtain ⟨⟨hb63, hm⟩, rfl, rfl⟩ := hI
    have hl : lv_has ls 3 [(2, .int (nI b)), (0, .long (lN n))] := hl
    have hb2 : 2 ≤ b := by
      have h1 := l2_ge (n := n) (k := 2) (by omega)
      have h2 := l2_lt h0 hm
      omega
    refine lv_lload_n hx hb dX0_register_11 rfl (lv_at hl 1 rfl) ?_
    refine lv_iload_n hx hb dX0_register_12 rfl (lv_at hl 0 rfl) ?_
    refine lv_lushr hx hb dX0_register_13 rfl ?_
    refine lv_topl (fun v13 e13 => ?_)
    obtain rfl : v13 = (lN (n / 2 ^ b)) := by rw [e13]; exact wb_shr hn (by omega)
    refine lv_lconst (v := (lN 1)) hx hb dX0_register_14 (by decide) ?_
    refine lv_land hx hb dX0_register_15 ?_
    refine lv_topl (fun v15 e15 => ?_)
    obtain rfl : v15 = (lN (n / 2 ^ b % 2)) := by rw [e15]; exact wb_a1 (Nat.lt_of_le_of_lt (Nat.div_le_self _ _) hn)
    refine lv_lconst (v := (lN 0)) hx hb dX0_register_16 (by decide) ?_
    refine W.lcmp hx hb dX0_register_17 ?_
    refine lv_topi (fun v17 e17 => ?_)
    refine lv_if_ne (tgt := 27) hx hb dX0_register_18 (by decide) (fun c18 => ?_) (fun c18 => ?_)
    · have hk : n / 2 ^ b % 2 ≠ 0 := fun h => c18 (by rw [e17, h]; exact (lg_cmp_eq _ _).mpr rfl)
      have hge := bit_one hk
      refine lv_iconst (v := (nI 4)) hx hb dX0_register_27 (by decide) ?_
      refine lv_iload_n hx hb dX0_register_28 rfl (lv_at hl 0 rfl) ?_
      refine lv_imul hx hb dX0_register_29 ?_
      refine lv_topi (fun v29 e29 => ?_)
      obtain rfl : v29 = (nI (4 * b)) := by rw [e29]; exact pk_mul 4 b
      refine lv_iload_n hx hb dX0_register_30 rfl (lv_at hl 0 rfl) ?_
      refine lv_if_le (tgt := 47) hx hb dX0_register_31 (by decide) (fun c31 => absurd c31 (nI_nle (by omega) (by omega))) (fun c31 => ?_)
      refine lv_iconst (v := (nI 2)) hx hb dX0_register_34 (by decide) ?_
      refine lv_lload_n hx hb dX0_register_35 rfl (lv_at hl 1 rfl) ?_
      refine lv_iload_n hx hb dX0_register_36 rfl (lv_at hl 0 rfl) ?_
      refine lv_iconst (v := (nI 1)) hx hb dX0_register_37 (by decide) ?_
      refine lv_isub hx hb dX0_register_38 ?_
      refine lv_topi (fun v38 e38 => ?_)
      obtain rfl : v38 = (nI (b - 1)) := by rw [e38]; exact pk_sub (by omega)
      refine lv_lushr hx hb dX0_register_39 rfl ?_
      refine lv_topl (fun v39 e39 => ?_)
      obtain rfl : v39 = (lN (n / 2 ^ (b - 1))) := by rw [e39]; exact wb_shr hn (by omega)
      refine lv_lconst (v := (lN 1)) hx hb dX0_register_40 (by decide) ?_
      refine lv_land hx hb dX0_register_41 ?_
      refine lv_topl (fun v41 e41 => ?_)
      obtain rfl : v41 = (lN (n / 2 ^ (b - 1) % 2)) := by rw [e41]; exact wb_a1 (Nat.lt_of_le_of_lt (Nat.div_le_self _ _) hn)
      refine lv_l2i hx hb dX0_register_42 rfl ?_
      refine lv_topi (fun v42 e42 => ?_)
      obtain rfl : v42 = (nI (n / 2 ^ (b - 1) % 2)) := by rw [e42]; exact lN_i _
      refine lv_imul hx hb dX0_register_43 ?_
      refine lv_topi (fun v43 e43 => ?_)
      obtain rfl : v43 = (nI (2 * (n / 2 ^ (b - 1) % 2))) := by rw [e43]; exact pk_mul 2 _
      refine lv_goto (tgt := 48) hx hb dX0_register_44 (by decide) ?_
      refine lv_iadd hx hb dX0_register_48 ?_
      refine lv_topi (fun v48 e48 => ?_)
      obtain rfl : v48 = (nI (4 * b + 2 * (n / 2 ^ (b - 1) % 2))) := by rw [e48]; exact nI_add _ _
      refine lv_iload_n hx hb dX0_register_49 rfl (lv_at hl 0 rfl) ?_
      refine lv_iconst (v := (nI 1)) hx hb dX0_register_50 (by decide) ?_
      refine lv_icmp_le (tgt := 65) hx hb dX0_register_51 (by decide) (fun c51 => absurd c51 (nI_ge (a := 1) (by omega) (by omega))) (fun c51 => ?_)
      refine lv_lload_n hx hb dX0_register_54 rfl (lv_at hl 1 rfl) ?_
      refine lv_iload_n hx hb dX0_register_55 rfl (lv_at hl 0 rfl) ?_
      refine lv_iconst (v := (nI 2)) hx hb dX0_register_56 (by decide) ?_
      refine lv_isub hx hb dX0_register_57 ?_
      refine lv_topi (fun v57 e57 => ?_)
      obtain rfl : v57 = (nI (b - 2)) := by rw [e57]; exact pk_sub (by omega)
      refine lv_lushr hx hb dX0_register_58 rfl ?_
      refine lv_topl (fun v58 e58 => ?_)
      obtain rfl : v58 = (lN (n / 2 ^ (b - 2))) := by rw [e58]; exact wb_shr hn (by omega)
      refine lv_lconst (v := (lN 1)) hx hb dX0_register_59 (by decide) ?_
      refine lv_land hx hb dX0_register_60 ?_
      refine lv_topl (fun v60 e60 => ?_)
      obtain rfl : v60 = (lN (n / 2 ^ (b - 2) % 2)) := by rw [e60]; exact wb_a1 (Nat.lt_of_le_of_lt (Nat.div_le_self _ _) hn)
      refine lv_l2i hx hb dX0_register_61 rfl ?_
      refine lv_topi (fun v61 e61 => ?_)
      obtain rfl : v61 = (nI (n / 2 ^ (b - 2) % 2)) := by rw [e61]; exact lN_i _
      refine lv_goto (tgt := 66) hx hb dX0_register_62 (by decide) ?_
      refine lv_iadd hx hb dX0_register_66 ?_
      refine lv_topi (fun v66 e66 => ?_)
      obtain rfl : v66 = (nI (4 * b + 2 * (n / 2 ^ (b - 1) % 2) + n / 2 ^ (b - 2) % 2)) := by rw [e66]; exact nI_add _ _
      exact W.iret (v := (nI (4 * b + 2 * (n / 2 ^ (b - 1) % 2) + n / 2 ^ (b - 2) % 2))) hx hb hr (fun t ht hW => ⟨_, rfl, by rw [← rg_sum hb2 hge hm, Nat.mul_comm 2], ht⟩) (fun q h => by cases h) dX0_register_67
    · have hk : n / 2 ^ b % 2 = 0 := (lN_eq64 (by omega) (by decide)).mp ((lg_cmp_eq _ _).mp (by rw [← e17]; exact c18))
      refine lv_iinc (v := (nI (b - 1))) (lv' := [(2, .int (nI (b - 1))), (0, .long (lN n))]) hx hb dX0_register_21 hl (k := 0) rfl (by show nI b + (-nI 1) = _; rw [← Int32.sub_eq_add_neg]; exact pk_sub (by omega)) (by decide) rfl (fun ls hl => ?_)
      refine lv_goto (tgt := 11) hx hb dX0_register_24 (by decide) ?_
      exact ih (b - 1) _ _ ls (by omega) ⟨⟨by omega, by rw [show b - 1 + 1 = b by omega]; exact bit_zero hm hk⟩, rfl, rfl⟩ (lv_sub hl [0, 1] rfl)
  · have h0 : n = 0 := (lN_eq64 hn (by decide)).mp ((lg_cmp_eq _ _).mp (by rw [← e5]; exact c6))
    refine lv_iconst (v := (nI 0)) hx hb dX0_register_9 (by decide) ?_
    exact W.iret (v := (nI 0)) hx hb hr (fun t ht hW => ⟨_, rfl, by rw [h0]; rfl, ht⟩) (fun q h => by cases h) dX0_register_10
end
section
set_option maxRecDepth 100000
set_option maxHeartbeats 4000000 in
set_option maxRecDepth 100000 in
/-- getP -/
theorem met_getP (l : Launch) (D : va_G) (t : Nat → ClassId) (ws : va_W) (a b h0 st q : Nat) (M : Nat → Nat) (h6 : q ≤ 6) (ha : ws[a]? = some (h0, .inr (2, [.ref st]))) (hb1 : ws[b]? = some (st, .inl (t 2, 2 ^ q, .inl (rgs M)))) : Met l yX2_getP (ws_ yX2_getP cX2_getP 1 (some .int)) ({ frames := 1, cells := 0, slots := 0, locals := 21 } : Room) (Pr [.ref h0] D t ws) (vp_Si (fun r => r = nI q)) 0 0 (fun _ => False) := by
  refine Met.ofW (cc := cX2_getP) (maxL := 1) (ret := (some .int)) (by decide) rfl ?_
  intro p e s m args below meth c s₁ B hml hv
  obtain ⟨rfl, hK, hP⟩ := hv
  have hx := B.exec
  have hb := B.bytes
  have hr := B.returns
  have hts := atoms_spec (ws := ws_ yX2_getP cX2_getP 1 (some .int)) B.pre
  have hts : ∀ w ∈ lw_all, w.before _ s = true := fun w h => hts w (List.mem_cons_of_mem _ h)
  have hown : s.vm.findClass RX2 = some m.cls := findClass_of_methodNamed B.named
  have hlocks := B.notSynchronized
  refine w_entry [.ref h0] (Nat.le_of_ble_eq_true rfl) (fun ls hl => ?_)
  have hl : lv_has ls 1 [(0, .ref h0)] := hl
  have h64 := p64 h6
  refine lv_bipush (v := (nI 31)) hx hb dX2_getP_0 (by decide) ?_
  refine lv_aload_n hx hb dX2_getP_2 rfl (lv_at hl 0 rfl) ?_
  refine va_get (D := D) (ci := 2) (v := .ref st) (C := RX2) (T := TX2) (N := 1) hx hb hts in_X2 hown hK.1 hP a (ha) rfl 0 (by decide) (hts _ q115) (fun _ h9 => h9) rfl dX2_getP_3 ?_
  refine va_alen (v := nI (2 ^ q)) hx hb hK.1 hP b 2 (hb1) rfl rfl dX2_getP_6 ?_
  refine vp_callSi (W.runS (As := [.int (nI (2 ^ q))]) (rest := [.int (nI 31)]) ⟨hx, hb, hml, hown, hts⟩ (met_nlzI l (2 ^ q) (by omega)) (va_cwS 1 hts (lw_S q157 q158 q15 q159) rfl rfl rfl (by decide +kernel) ⟨Nat.le_of_ble_eq_true rfl, Nat.le_of_ble_eq_true rfl⟩) (preS_p) rfl rfl hl.1 rfl (lv_room (Nat.le_of_ble_eq_true rfl)) dX2_getP_7 ⟨Nat.le_of_ble_eq_true rfl, Nat.le_of_ble_eq_true rfl⟩) (fun r7 e7 => ?_)
  obtain rfl : r7 = (nI (clz32 (2 ^ q))) := e7
  rw [clz_pw (by omega)]
  refine lv_isub hx hb dX2_getP_10 ?_
  refine lv_topi (fun v10 e10 => ?_)
  obtain rfl : v10 = (nI q) := by rw [e10, show q = 31 - (31 - q) by omega, show 31 - (31 - (31 - q)) = 31 - q by omega]; exact pk_sub (by omega)
  exact W.iret (v := (nI q)) hx hb hr (fun t ht hW => ⟨_, rfl, rfl, ht⟩) (fun q h => by cases h) dX2_getP_11

set_option maxHeartbeats 4000000 in
set_option maxRecDepth 100000 in
/-- getState -/
theorem met_getState (l : Launch) (D : va_G) (t : Nat → ClassId) (ws : va_W) (a h0 st : Nat) (ha : ws[a]? = some (h0, .inr (2, [.ref st]))) : Met l yX2_getState (ws_ yX2_getState cX2_getState 1 (some (.array .byte))) ({ frames := 0, cells := 0, slots := 0, locals := 0 } : Room) (Pr [.ref h0] D t ws) (va_Sr (fun z => z = st) (fun z => .ref z)) 0 0 (fun _ => False) := by
  refine Met.ofW (cc := cX2_getState) (maxL := 1) (ret := (some (.array .byte))) (by decide) rfl ?_
  intro p e s m args below meth c s₁ B hml hv
  obtain ⟨rfl, hK, hP⟩ := hv
  have hx := B.exec
  have hb := B.bytes
  have hr := B.returns
  have hts := atoms_spec (ws := ws_ yX2_getState cX2_getState 1 (some (.array .byte))) B.pre
  have hts : ∀ w ∈ lw_all, w.before _ s = true := fun w h => hts w (List.mem_cons_of_mem _ h)
  have hown : s.vm.findClass RX2 = some m.cls := findClass_of_methodNamed B.named
  have hlocks := B.notSynchronized
  refine w_entry [.ref h0] (Nat.le_of_ble_eq_true rfl) (fun ls hl => ?_)
  have hl : lv_has ls 1 [(0, .ref h0)] := hl
  refine lv_aload_n hx hb dX2_getState_0 rfl (lv_at hl 0 rfl) ?_
  refine va_get (D := D) (ci := 2) (v := .ref st) (C := RX2) (T := TX2) (N := 1) hx hb hts in_X2 hown hK.1 hP a (ha) rfl 0 (by decide) (hts _ q115) (fun _ h9 => h9) rfl dX2_getState_1 ?_
  exact W.aret (v := .ref st) hx hb hr (Or.inr ⟨_, rfl⟩) (Or.inr ⟨_, rfl⟩) (fun t ht hW => ⟨_, rfl, rfl, ht⟩) (fun q h => by cases h) dX2_getState_4

set_option maxHeartbeats 4000000 in
set_option maxRecDepth 100000 in
/-- isEmpty -/
theorem met_isEmpty (l : Launch) (D : va_G) (t : Nat → ClassId) (ws : va_W) (a b h0 st q : Nat) (M : Nat → Nat) (h6 : q ≤ 6) (hM : Ok M) (ha : ws[a]? = some (h0, .inr (2, [.ref st]))) (hb1 : ws[b]? = some (st, .inl (t 2, 2 ^ q, .inl (rgs M)))) : Met l yX2_isEmpty (ws_ yX2_isEmpty cX2_isEmpty 5 (some .boolean)) ({ frames := 0, cells := 0, slots := 0, locals := 0 } : Room) (Pr [.ref h0] D t ws) (vp_Si (fun r => (r = nI 1 ∧ ∀ i, i < 2 ^ q → M i = 0) ∨ (r = nI 0 ∧ ∃ i, i < 2 ^ q ∧ M i ≠ 0))) 0 0 (fun _ => False) := by
  refine Met.ofW (cc := cX2_isEmpty) (maxL := 5) (ret := (some .boolean)) (by decide) rfl ?_
  intro p e s m args below meth c s₁ B hml hv
  obtain ⟨rfl, hK, hP⟩ := hv
  have hx := B.exec
  have hb := B.bytes
  have hr := B.returns
  have hts := atoms_spec (ws := ws_ yX2_isEmpty cX2_isEmpty 5 (some .boolean)) B.pre
  have hts : ∀ w ∈ lw_all, w.before _ s = true := fun w h => hts w (List.mem_cons_of_mem _ h)
  have hown : s.vm.findClass RX2 = some m.cls := findClass_of_methodNamed B.named
  have hlocks := B.notSynchronized
  refine w_entry [.ref h0] (Nat.le_of_ble_eq_true rfl) (fun ls hl => ?_)
  have hl : lv_has ls 5 [(0, .ref h0)] := hl
  have h64 := p64 h6
  refine lv_aload_n hx hb dX2_isEmpty_0 rfl (lv_at hl 0 rfl) ?_
  refine va_get (D := D) (ci := 2) (v := .ref st) (C := RX2) (T := TX2) (N := 1) hx hb hts in_X2 hown hK.1 hP a (ha) rfl 0 (by decide) (hts _ q115) (fun _ h9 => h9) rfl dX2_isEmpty_1 ?_
  refine lv_astore_n (lv' := [(1, .ref st), (0, .ref h0)]) hx hb dX2_isEmpty_4 rfl hl (by decide) rfl (fun ls hl => ?_)
  refine lv_aload_n hx hb dX2_isEmpty_5 rfl (lv_at hl 0 rfl) ?_
  refine va_alen (v := nI (2 ^ q)) hx hb hK.1 hP b 2 (hb1) rfl rfl dX2_isEmpty_6 ?_
  refine lv_istore_n (lv' := [(2, .int (nI (2 ^ q))), (1, .ref st), (0, .ref h0)]) hx hb dX2_isEmpty_7 rfl hl (by decide) rfl (fun ls hl => ?_)
  refine lv_iconst (v := (nI 0)) hx hb dX2_isEmpty_8 (by decide) ?_
  refine lv_istore_n (lv' := [(3, .int (nI 0)), (2, .int (nI (2 ^ q))), (1, .ref st), (0, .ref h0)]) hx hb dX2_isEmpty_9 rfl hl (by decide) rfl (fun ls hl => ?_)
  refine W_loop (nL := 5) (fun (b2 : Nat) H1 L1 => (b2 ≤ 2 ^ q ∧ ∀ j, j < b2 → M j = 0) ∧ H1 = s.heap ∧ L1 = []) (fun b2 => [(3, .int (nI b2)), (2, .int (nI (2 ^ q))), (1, .ref st), (0, .ref h0)]) (fun b2 => 2 ^ q - b2) (fun _ => 0) (fun _ => 0) (fun b2 H1 L1 ls hI hl ih => ?_) 0 ⟨⟨Nat.zero_le _, fun j h => absurd h (Nat.not_lt_zero _)⟩, rfl, rfl⟩ (lv_sub hl [0, 1, 2, 3] rfl)
  obtain ⟨⟨hbq, hm⟩, rfl, rfl⟩ := hI
  have hl : lv_has ls 5 [(3, .int (nI b2)), (2, .int (nI (2 ^ q))), (1, .ref st), (0, .ref h0)] := hl
  refine lv_iload_n hx hb dX2_isEmpty_10 rfl (lv_at hl 0 rfl) ?_
  refine lv_iload_n hx hb dX2_isEmpty_11 rfl (lv_at hl 1 rfl) ?_
  refine lv_icmp_ge (tgt := 33) hx hb dX2_isEmpty_12 (by decide) (fun c12 => ?_) (fun c12 => ?_)
  · have hc : b2 = 2 ^ q := by have := (nI_leI (by omega) (by omega)).mp c12; omega
    refine lv_iconst (v := (nI 1)) hx hb dX2_isEmpty_33 (by decide) ?_
    exact W.zret (v := (nI 1)) hx hb hr (rfl) (fun t ht hW => ⟨_, rfl, Or.inl ⟨rfl, by rw [← hc]; exact hm⟩, ht⟩) (fun q h => by cases h) dX2_isEmpty_34
  · have hc : b2 < 2 ^ q := by rcases Nat.lt_or_ge b2 (2 ^ q) with h | h; exact h; exact absurd (nI_le h (by omega)) c12
    refine lv_aload_n hx hb dX2_isEmpty_15 rfl (lv_at hl 2 rfl) ?_
    refine lv_iload_n hx hb dX2_isEmpty_16 rfl (lv_at hl 0 rfl) ?_
    refine xr_bald hx hb hK.1 hP b 2 (hb1) rfl (hc) (by omega) (v := (sb (rg (M b2)))) (rfl) dX2_isEmpty_17 ?_
    refine lv_istore (lv' := [(4, .int (sb (rg (M b2)))), (3, .int (nI b2)), (2, .int (nI (2 ^ q))), (1, .ref st), (0, .ref h0)]) hx hb dX2_isEmpty_18 hl (by decide) rfl (fun ls hl => ?_)
    refine lv_iload hx hb dX2_isEmpty_20 (lv_at hl 0 rfl) ?_
    refine lv_if_eq (tgt := 27) hx hb dX2_isEmpty_22 (by decide) (fun c22 => ?_) (fun c22 => ?_)
    · have hz0 : M b2 = 0 := (rg_0 (hM b2).2).mp ((sb_eq0 _ (rg_lt (hM b2).1 (hM b2).2).1).mp c22)
      refine lv_iinc (v := (nI (b2 + 1))) (lv' := [(3, .int (nI (b2 + 1))), (4, .int (sb (rg (M b2)))), (2, .int (nI (2 ^ q))), (1, .ref st), (0, .ref h0)]) hx hb dX2_isEmpty_27 hl (k := 1) rfl (nI_1 b2) (by decide) rfl (fun ls hl => ?_)
      refine lv_goto (tgt := 10) hx hb dX2_isEmpty_30 (by decide) ?_
      exact ih (b2 + 1) _ _ ls (by omega) ⟨⟨hc, fun j hj => by rcases Nat.lt_or_ge j b2 with h | h; exact hm j h; rw [show j = b2 by omega]; exact hz0⟩, rfl, rfl⟩ (lv_sub hl [0, 2, 3, 4] rfl)
    · have hz0 : M b2 ≠ 0 := fun h => c22 (by rw [h]; decide +kernel)
      refine lv_iconst (v := (nI 0)) hx hb dX2_isEmpty_25 (by decide) ?_
      exact W.zret (v := (nI 0)) hx hb hr (rfl) (fun t ht hW => ⟨_, rfl, Or.inr ⟨rfl, b2, hc, hz0⟩, ht⟩) (fun q h => by cases h) dX2_isEmpty_26

set_option maxHeartbeats 4000000 in
set_option maxRecDepth 100000 in
/-- add(hash, null) -/
theorem met_addO (l : Launch) (D : va_G) (t : Nat → ClassId) (ws : va_W) (sz : Nat) (a b h0 st q : Nat) (M : Nat → Nat) (h : Nat) (h3 : 3 ≤ q) (h6 : q ≤ 6) (hh : h < 2 ^ 64) (hM : Ok M) (ha : ws[a]? = some (h0, .inr (2, [.ref st]))) (hb1 : ws[b]? = some (st, .inl (t 2, 2 ^ q, .inl (rgs M)))) : Met l yX2_add_2 (ws_ yX2_add_2 cX2_add_2 12 (some (.object "UltraLogLog"))) ({ frames := 3, cells := 0, slots := 0, locals := 65 } : Room) (Pw [.ref h0, .long (lN h), .null] D t sz ws) (Qh D ws sz h0 (fun _ : Unit => True) (fun _ => ws.set b (st, .inl (t 2, 2 ^ q, .inl (rgs (addM q M h)))))) 0 0 (va_A ws sz) := by
  refine Met.ofW (cc := cX2_add_2) (maxL := 12) (ret := (some (.object "UltraLogLog"))) (by decide) rfl ?_
  intro p e s m args below meth c s₁ B hml hv
  obtain ⟨rfl, hK, hsz, hP, hD0⟩ := hv
  subst hsz
  have hD := hD0.self (sz := s.heap.size)
  have hA : ∀ q : Nat, s.heap.size ≤ q → va_A ws s.heap.size q := fun q h => Or.inr h
  have hS : va_S (va_A ws s.heap.size) s.heap s.heap [] := va_S.rf
  have hx := B.exec
  have hb := B.bytes
  have hr := B.returns
  have hts := atoms_spec (ws := ws_ yX2_add_2 cX2_add_2 12 (some (.object "UltraLogLog"))) B.pre
  have hts : ∀ w ∈ lw_all, w.before _ s = true := fun w h => hts w (List.mem_cons_of_mem _ h)
  have hown : s.vm.findClass RX2 = some m.cls := findClass_of_methodNamed B.named
  have hlocks := B.notSynchronized
  refine w_entry [.ref h0, .long (lN h), .null] (Nat.le_of_ble_eq_true rfl) (fun ls hl => ?_)
  have hl : lv_has ls 12 [(0, .ref h0), (1, .long (lN h)), (3, .null)] := hl
  have h64 := p64 h6
  have hix := idx_lt (q := q) hh (by omega)
  have hnz := nz_le (64 - q) h
  have hbit := addM_bit (h := h) h3 (show q ≤ 26 by omega)
  have hwin := win_ok (hM (h / 2 ^ (64 - q)))
  have hpos := Nat.two_pow_pos q
  refine lv_aload_n hx hb dX2_add_2_0 rfl (lv_at hl 0 rfl) ?_
  refine va_get (D := D) (ci := 2) (v := .ref st) (C := RX2) (T := TX2) (N := 1) hx hb hts in_X2 hown hK.1 hP a (ha) rfl 0 (by decide) (hts _ q115) (fun _ h9 => h9) rfl dX2_add_2_1 ?_
  refine va_alen (v := nI (2 ^ q)) hx hb hK.1 hP b 2 (hb1) rfl rfl dX2_add_2_4 ?_
  refine lv_i2l hx hb dX2_add_2_5 rfl ?_
  refine lv_topl (fun v5 e5 => ?_)
  obtain rfl : v5 = (lN (2 ^ q)) := by rw [e5]; exact nI_l (by omega)
  refine lv_lconst (v := (lN 1)) hx hb dX2_add_2_6 (by decide) ?_
  refine lv_lsub hx hb dX2_add_2_7 ?_
  refine lv_topl (fun v7 e7 => ?_)
  obtain rfl : v7 = (lN (2 ^ q - 1)) := by rw [e7]; exact lN_sub hpos
  refine vp_callSi (W.runS (As := [.long (lN (2 ^ q - 1))]) (rest := []) ⟨hx, hb, hml, hown, hts⟩ (met_nlzL l (2 ^ q - 1) (by omega)) (va_cwS 1 hts (lw_S q211 q212 q16 q213) rfl rfl rfl (by decide +kernel) ⟨Nat.le_of_ble_eq_true rfl, Nat.le_of_ble_eq_true rfl⟩) (preS_p) rfl rfl hl.1 rfl (lv_room (Nat.le_of_ble_eq_true rfl)) dX2_add_2_8 ⟨Nat.le_of_ble_eq_true rfl, Nat.le_of_ble_eq_true rfl⟩) (fun r8 e8 => ?_)
  obtain rfl : r8 = (nI (clz64 (2 ^ q - 1))) := e8
  rw [clz_len (by omega) (by omega)]
  refine lv_istore (lv' := [(4, .int (nI (64 - q))), (0, .ref h0), (1, .long (lN h)), (3, .null)]) hx hb dX2_add_2_11 hl (by decide) rfl (fun ls hl => ?_)
  refine lv_lload_n hx hb dX2_add_2_13 rfl (lv_at hl 2 rfl) ?_
  refine lv_iload hx hb dX2_add_2_14 (lv_at hl 0 rfl) ?_
  refine lv_lushr hx hb dX2_add_2_16 rfl ?_
  refine lv_topl (fun v16 e16 => ?_)
  obtain rfl : v16 = (lN (h / 2 ^ (64 - q))) := by rw [e16]; exact wb_shr hh (by omega)
  refine lv_l2i hx hb dX2_add_2_17 rfl ?_
  refine lv_topi (fun v17 e17 => ?_)
  obtain rfl : v17 = (nI (h / 2 ^ (64 - q))) := by rw [e17]; exact lN_i _
  refine lv_istore (lv' := [(5, .int (nI (h / 2 ^ (64 - q)))), (4, .int (nI (64 - q))), (0, .ref h0), (1, .long (lN h)), (3, .null)]) hx hb dX2_add_2_18 hl (by decide) rfl (fun ls hl => ?_)
  refine lv_lload_n hx hb dX2_add_2_20 rfl (lv_at hl 3 rfl) ?_
  refine lv_ldc2 (v := (-1)) hx hb hown (hts _ q215) dX2_add_2_21 ?_
  refine lv_lxor hx hb dX2_add_2_24 ?_
  refine lv_topl (fun v24 e24 => ?_)
  refine lv_iload hx hb dX2_add_2_25 (lv_at hl 1 rfl) ?_
  refine lv_ineg hx hb dX2_add_2_27 ?_
  refine lv_topi (fun v27 e27 => ?_)
  refine lv_lshl hx hb dX2_add_2_28 rfl ?_
  refine lv_topl (fun v28 e28 => ?_)
  refine lv_ldc2 (v := (-1)) hx hb hown (hts _ q215) dX2_add_2_29 ?_
  refine lv_lxor hx hb dX2_add_2_32 ?_
  refine lv_topl (fun v32 e32 => ?_)
  obtain rfl : v32 = (lN ((h % 2 ^ (64 - q)) * 2 ^ q + (2 ^ q - 1))) := by rw [e32, e28, e27, e24, sh_neg q (by omega) (by omega)]; exact nsn hh (by omega)
  refine vp_callSi (W.runS (As := [.long (lN ((h % 2 ^ (64 - q)) * 2 ^ q + (2 ^ q - 1)))]) (rest := []) ⟨hx, hb, hml, hown, hts⟩ (met_nlzL l ((h % 2 ^ (64 - q)) * 2 ^ q + (2 ^ q - 1)) (hash_lt h q (by omega))) (va_cwS 1 hts (lw_S q211 q212 q16 q213) rfl rfl rfl (by decide +kernel) ⟨Nat.le_of_ble_eq_true rfl, Nat.le_of_ble_eq_true rfl⟩) (preS_p) rfl rfl hl.1 rfl (lv_room (Nat.le_of_ble_eq_true rfl)) dX2_add_2_33 ⟨Nat.le_of_ble_eq_true rfl, Nat.le_of_ble_eq_true rfl⟩) (fun r33 e33 => ?_)
  obtain rfl : r33 = (nI (clz64 ((h % 2 ^ (64 - q)) * 2 ^ q + (2 ^ q - 1)))) := e33
  rw [clz_nz (h := h) (p := q) (by omega) (by omega)]
  refine lv_istore (lv' := [(6, .int (nI (nz (64 - q) h))), (5, .int (nI (h / 2 ^ (64 - q)))), (4, .int (nI (64 - q))), (0, .ref h0), (1, .long (lN h)), (3, .null)]) hx hb dX2_add_2_36 hl (by decide) rfl (fun ls hl => ?_)
  refine lv_aload_n hx hb dX2_add_2_38 rfl (lv_at hl 3 rfl) ?_
  refine va_get (D := D) (ci := 2) (v := .ref st) (C := RX2) (T := TX2) (N := 1) hx hb hts in_X2 hown hK.1 hP a (ha) rfl 0 (by decide) (hts _ q115) (fun _ h9 => h9) rfl dX2_add_2_39 ?_
  refine lv_iload hx hb dX2_add_2_42 (lv_at hl 1 rfl) ?_
  refine xr_bald hx hb hK.1 hP b 2 (hb1) rfl (hix) (by omega) (v := (sb (rg (M (h / 2 ^ (64 - q)))))) (rfl) dX2_add_2_44 ?_
  refine lv_istore (lv' := [(7, .int (sb (rg (M (h / 2 ^ (64 - q)))))), (6, .int (nI (nz (64 - q) h))), (5, .int (nI (h / 2 ^ (64 - q)))), (4, .int (nI (64 - q))), (0, .ref h0), (1, .long (lN h)), (3, .null)]) hx hb dX2_add_2_45 hl (by decide) rfl (fun ls hl => ?_)
  refine lv_iload hx hb dX2_add_2_47 (lv_at hl 0 rfl) ?_
  have hrg := rg_lt (hM (h / 2 ^ (64 - q))).1 (hM (h / 2 ^ (64 - q))).2
  refine vp_callSl (W.runS (As := [.int (sb (rg (M (h / 2 ^ (64 - q)))))]) (rest := []) ⟨hx, hb, hml, hown, hts⟩ (met_unpack l (rg (M (h / 2 ^ (64 - q)))) hrg.1 hrg.2) (va_cwS 1 hts (lw_S q216 q217 q8 q218) rfl rfl rfl (by decide +kernel) ⟨Nat.le_of_ble_eq_true rfl, Nat.le_of_ble_eq_true rfl⟩) (preS_p) rfl rfl hl.1 rfl (lv_room (Nat.le_of_ble_eq_true rfl)) dX2_add_2_49 ⟨Nat.le_of_ble_eq_true rfl, Nat.le_of_ble_eq_true rfl⟩) (fun r49 e49 => ?_)
  obtain rfl : r49 = (lN (unp (rg (M (h / 2 ^ (64 - q)))))) := e49
  rw [unp_rg (hM (h / 2 ^ (64 - q))).2]
  refine lv_lstore (lv' := [(8, .long (lN (win (M (h / 2 ^ (64 - q)))))), (7, .int (sb (rg (M (h / 2 ^ (64 - q)))))), (6, .int (nI (nz (64 - q) h))), (5, .int (nI (h / 2 ^ (64 - q)))), (4, .int (nI (64 - q))), (0, .ref h0), (1, .long (lN h)), (3, .null)]) hx hb dX2_add_2_52 hl (by decide) rfl (fun ls hl => ?_)
  refine lv_lload hx hb dX2_add_2_54 (lv_at hl 0 rfl) ?_
  refine lv_lconst (v := (lN 1)) hx hb dX2_add_2_56 (by decide) ?_
  refine lv_iload hx hb dX2_add_2_57 (lv_at hl 2 rfl) ?_
  refine lv_iload hx hb dX2_add_2_59 (lv_at hl 4 rfl) ?_
  refine lv_iconst (v := (-1)) hx hb dX2_add_2_61 (by decide) ?_
  refine lv_ixor hx hb dX2_add_2_62 ?_
  refine lv_topi (fun v62 e62 => ?_)
  refine lv_iadd hx hb dX2_add_2_63 ?_
  refine lv_topi (fun v63 e63 => ?_)
  refine lv_lshl hx hb dX2_add_2_64 rfl ?_
  refine lv_topl (fun v64 e64 => ?_)
  obtain rfl : v64 = (lN (2 ^ ((nz (64 - q) h) + q - 1))) := by rw [e64, e63, e62, sh_q q (by omega) _ (by omega) (by omega) (by omega), ← wb_c ((nz (64 - q) h) + q - 1) (by omega), wb_shl _ (by omega)]; exact congrArg lN (Nat.one_mul _)
  refine lv_lor hx hb dX2_add_2_65 ?_
  refine lv_topl (fun v65 e65 => ?_)
  obtain rfl : v65 = (lN (win (M (h / 2 ^ (64 - q))) ||| 2 ^ ((nz (64 - q) h) + q - 1))) := by rw [e65]; exact wb_or hwin.1 hbit.1
  refine lv_lstore (lv' := [(8, .long (lN (win (M (h / 2 ^ (64 - q))) ||| 2 ^ ((nz (64 - q) h) + q - 1)))), (7, .int (sb (rg (M (h / 2 ^ (64 - q)))))), (6, .int (nI (nz (64 - q) h))), (5, .int (nI (h / 2 ^ (64 - q)))), (4, .int (nI (64 - q))), (0, .ref h0), (1, .long (lN h)), (3, .null)]) hx hb dX2_add_2_66 hl (by decide) rfl (fun ls hl => ?_)
  refine lv_lload hx hb dX2_add_2_68 (lv_at hl 0 rfl) ?_
  have hor := okn_or hwin hbit
  have hor2 := okn_or (hM (h / 2 ^ (64 - q))) hbit
  have hor4 : 4 ≤ win (M (h / 2 ^ (64 - q))) ||| 2 ^ ((nz (64 - q) h) + q - 1) := Nat.le_trans (show 2 ^ 2 ≤ 2 ^ ((nz (64 - q) h) + q - 1) from Nat.pow_le_pow_right (by decide) (by omega)) Nat.right_le_or
  refine vp_callSi (W.runS (As := [.long (lN (win (M (h / 2 ^ (64 - q))) ||| 2 ^ ((nz (64 - q) h) + q - 1)))]) (rest := []) ⟨hx, hb, hml, hown, hts⟩ (met_pack l (win (M (h / 2 ^ (64 - q))) ||| 2 ^ ((nz (64 - q) h) + q - 1)) hor.1 hor4) (va_cwS 1 hts (lw_S q220 q221 q8 q222) rfl rfl rfl (by decide +kernel) ⟨Nat.le_of_ble_eq_true rfl, Nat.le_of_ble_eq_true rfl⟩) (preS_p) rfl rfl hl.1 rfl (lv_room (Nat.le_of_ble_eq_true rfl)) dX2_add_2_70 ⟨Nat.le_of_ble_eq_true rfl, Nat.le_of_ble_eq_true rfl⟩) (fun r70 e70 => ?_)
  obtain rfl : r70 = (sb (rg (win (M (h / 2 ^ (64 - q))) ||| 2 ^ ((nz (64 - q) h) + q - 1)))) := e70
  rw [rg_or (hM (h / 2 ^ (64 - q))).2]
  refine lv_istore (lv' := [(10, .int (sb (rg (M (h / 2 ^ (64 - q)) ||| 2 ^ ((nz (64 - q) h) + q - 1))))), (8, .long (lN (win (M (h / 2 ^ (64 - q))) ||| 2 ^ ((nz (64 - q) h) + q - 1)))), (7, .int (sb (rg (M (h / 2 ^ (64 - q)))))), (6, .int (nI (nz (64 - q) h))), (5, .int (nI (h / 2 ^ (64 - q)))), (4, .int (nI (64 - q))), (0, .ref h0), (1, .long (lN h)), (3, .null)]) hx hb dX2_add_2_73 hl (by decide) rfl (fun ls hl => ?_)
  refine lv_aload_n hx hb dX2_add_2_75 rfl (lv_at hl 6 rfl) ?_
  refine va_get (D := D) (ci := 2) (v := .ref st) (C := RX2) (T := TX2) (N := 1) hx hb hts in_X2 hown hK.1 hP a (ha) rfl 0 (by decide) (hts _ q115) (fun _ h9 => h9) rfl dX2_add_2_76 ?_
  refine lv_iload hx hb dX2_add_2_79 (lv_at hl 4 rfl) ?_
  refine lv_iload hx hb dX2_add_2_81 (lv_at hl 0 rfl) ?_
  refine xr_bast hx hb hK.1 hP hD hS b 2 (rgs (addM q M h)) (hb1) rfl (hix) (by omega) (fun i hi => by
      show (if i = (h / 2 ^ (64 - q)) then (sb (rg (M (h / 2 ^ (64 - q)) ||| 2 ^ ((nz (64 - q) h) + q - 1)))).toInt8.toInt32 else sb (rg (M i))) = sb (rg (addM q M h i))
      unfold addM
      by_cases hii : i = (h / 2 ^ (64 - q))
      · rw [if_pos hii, if_pos hii, sb_byte8 _ (rg_lt hor2.1 hor2.2).1, hii]
      · rw [if_neg hii, if_neg hii]) dX2_add_2_83 (fun H locs hP hD hS => ?_)
  have hP : va_P D vwCl (ws.set b (st, .inl (t 2, 2 ^ q, .inl (rgs (addM q M h))))) H := hP
  have hD : va_D (va_A ws s.heap.size) (ws.set b (st, .inl (t 2, 2 ^ q, .inl (rgs (addM q M h))))) := hD
  refine lv_aload_nN hx hb dX2_add_2_84 rfl (lv_at hl 8 rfl) ?_
  refine lv_ifnullN (tgt := 107) hx hb dX2_add_2_85 (by decide) ?_
  refine lv_aload_n hx hb dX2_add_2_107 rfl (lv_at hl 6 rfl) ?_
  exact W.aret (v := .ref h0) hx hb hr (Or.inl ⟨_, rfl⟩) (Or.inr ⟨_, rfl⟩) (fun t ht hW => ⟨⟨(), h0, rfl, trivial, rfl, by rw [ht]; exact hP, hD⟩, hS.F ht⟩) hS.2.2 dX2_add_2_108

set_option maxHeartbeats 4000000 in
set_option maxRecDepth 100000 in
/-- add(hash) -/
theorem met_add (l : Launch) (D : va_G) (t : Nat → ClassId) (ws : va_W) (sz : Nat) (a b h0 st q : Nat) (M : Nat → Nat) (h : Nat) (h3 : 3 ≤ q) (h6 : q ≤ 6) (hh : h < 2 ^ 64) (hM : Ok M) (ha : ws[a]? = some (h0, .inr (2, [.ref st]))) (hb1 : ws[b]? = some (st, .inl (t 2, 2 ^ q, .inl (rgs M)))) : Met l yX2_add (ws_ yX2_add cX2_add 3 (some (.object "UltraLogLog"))) ({ frames := 4, cells := 0, slots := 0, locals := 96 } : Room) (Pw [.ref h0, .long (lN h)] D t sz ws) (Qh D ws sz h0 (fun _ : Unit => True) (fun _ => ws.set b (st, .inl (t 2, 2 ^ q, .inl (rgs (addM q M h)))))) 0 0 (va_A ws sz) := by
  refine Met.ofW (cc := cX2_add) (maxL := 3) (ret := (some (.object "UltraLogLog"))) (by decide) rfl ?_
  intro p e s m args below meth c s₁ B hml hv
  obtain ⟨rfl, hK, hsz, hP, hD0⟩ := hv
  subst hsz
  have hD := hD0.self (sz := s.heap.size)
  have hA : ∀ q : Nat, s.heap.size ≤ q → va_A ws s.heap.size q := fun q h => Or.inr h
  have hS : va_S (va_A ws s.heap.size) s.heap s.heap [] := va_S.rf
  have hx := B.exec
  have hb := B.bytes
  have hr := B.returns
  have hts := atoms_spec (ws := ws_ yX2_add cX2_add 3 (some (.object "UltraLogLog"))) B.pre
  have hts : ∀ w ∈ lw_all, w.before _ s = true := fun w h => hts w (List.mem_cons_of_mem _ h)
  have hown : s.vm.findClass RX2 = some m.cls := findClass_of_methodNamed B.named
  have hlocks := B.notSynchronized
  refine w_entry [.ref h0, .long (lN h)] (Nat.le_of_ble_eq_true rfl) (fun ls hl => ?_)
  have hl : lv_has ls 3 [(0, .ref h0), (1, .long (lN h))] := hl
  refine lv_aload_n hx hb dX2_add_0 rfl (lv_at hl 0 rfl) ?_
  refine lv_lload_n hx hb dX2_add_1 rfl (lv_at hl 1 rfl) ?_
  refine lv_null hx hb dX2_add_2 ?_
  refine cw_h (va_runV (As := [.long (lN h), .null]) (rest := []) ⟨hx, hb, hml, hown, hts⟩ (met_addO l D t ws s.heap.size a b h0 st q M h h3 h6 hh hM ha hb1) (cwV 2 hts (lw_V q207 q208 q209 q8 q210) rfl rfl rfl (by decide +kernel) ⟨Nat.le_of_ble_eq_true rfl, Nat.le_of_ble_eq_true rfl⟩) (preV_w a 2 hK hP hD rfl ha) rfl rfl hl.1 rfl (lv_room (Nat.le_of_ble_eq_true rfl)) dX2_add_3 ⟨Nat.le_of_ble_eq_true rfl, Nat.le_of_ble_eq_true rfl⟩) hD hS hA (fun u3 H locs hp3 hP hD hS => ?_)
  refine W.widen (k := 0) (n := 0) (by omega) (by omega) ?_
  refine lv_pop hx hb dX2_add_6 rfl ?_
  refine lv_aload_n hx hb dX2_add_7 rfl (lv_at hl 0 rfl) ?_
  exact W.aret (v := .ref h0) hx hb hr (Or.inl ⟨_, rfl⟩) (Or.inr ⟨_, rfl⟩) (fun t ht hW => ⟨⟨(), h0, rfl, trivial, rfl, by rw [ht]; exact hP, hD⟩, hS.F ht⟩) hS.2.2 dX2_add_8

set_option maxHeartbeats 4000000 in
set_option maxRecDepth 100000 in
/-- addToken of a hash's token -/
theorem met_addToken (l : Launch) (D : va_G) (t : Nat → ClassId) (ws : va_W) (sz : Nat) (a b h0 st q : Nat) (M : Nat → Nat) (h : Nat) (h3 : 3 ≤ q) (h6 : q ≤ 6) (hh : h < 2 ^ 64) (hM : Ok M) (ha : ws[a]? = some (h0, .inr (2, [.ref st]))) (hb1 : ws[b]? = some (st, .inl (t 2, 2 ^ q, .inl (rgs M)))) : Met l yX2_addToken (ws_ yX2_addToken cX2_addToken 2 (some (.object "UltraLogLog"))) ({ frames := 5, cells := 0, slots := 0, locals := 118 } : Room) (Pw [.ref h0, .int (nI (tok h))] D t sz ws) (Qh D ws sz h0 (fun _ : Unit => True) (fun _ => ws.set b (st, .inl (t 2, 2 ^ q, .inl (rgs (addM q M h)))))) 0 0 (va_A ws sz) := by
  refine Met.ofW (cc := cX2_addToken) (maxL := 2) (ret := (some (.object "UltraLogLog"))) (by decide) rfl ?_
  intro p e s m args below meth c s₁ B hml hv
  obtain ⟨rfl, hK, hsz, hP, hD0⟩ := hv
  subst hsz
  have hD := hD0.self (sz := s.heap.size)
  have hA : ∀ q : Nat, s.heap.size ≤ q → va_A ws s.heap.size q := fun q h => Or.inr h
  have hS : va_S (va_A ws s.heap.size) s.heap s.heap [] := va_S.rf
  have hx := B.exec
  have hb := B.bytes
  have hr := B.returns
  have hts := atoms_spec (ws := ws_ yX2_addToken cX2_addToken 2 (some (.object "UltraLogLog"))) B.pre
  have hts : ∀ w ∈ lw_all, w.before _ s = true := fun w h => hts w (List.mem_cons_of_mem _ h)
  have hown : s.vm.findClass RX2 = some m.cls := findClass_of_methodNamed B.named
  have hlocks := B.notSynchronized
  refine w_entry [.ref h0, .int (nI (tok h))] (Nat.le_of_ble_eq_true rfl) (fun ls hl => ?_)
  have hl : lv_has ls 2 [(0, .ref h0), (1, .int (nI (tok h)))] := hl
  have hk := tok_keeps (h := h) (p := q) (by omega) (by omega)
  refine lv_aload_n hx hb dX2_addToken_0 rfl (lv_at hl 0 rfl) ?_
  refine lv_iload_n hx hb dX2_addToken_1 rfl (lv_at hl 1 rfl) ?_
  refine vp_callSl (W.runS (As := [.int (nI (tok h))]) (rest := [.ref h0]) ⟨hx, hb, hml, hown, hts⟩ (met_unt l (tok h) (tok_lt hh)) (va_cwS 1 hts (lw_S q325 q326 q9 q327) rfl rfl rfl (by decide +kernel) ⟨Nat.le_of_ble_eq_true rfl, Nat.le_of_ble_eq_true rfl⟩) (preS_p) rfl rfl hl.1 rfl (lv_room (Nat.le_of_ble_eq_true rfl)) dX2_addToken_2 ⟨Nat.le_of_ble_eq_true rfl, Nat.le_of_ble_eq_true rfl⟩) (fun r2 e2 => ?_)
  obtain rfl : r2 = (lN (unt (tok h))) := e2
  refine cw_h (va_runV (As := [.long (lN (unt (tok h)))]) (rest := []) ⟨hx, hb, hml, hown, hts⟩ (met_add l D t ws s.heap.size a b h0 st q M (unt (tok h)) h3 h6 (unt_lt (tok_lt hh)) hM ha hb1) (cwV 1 hts (lw_V q330 q204 q205 q8 q206) rfl rfl rfl (by decide +kernel) ⟨Nat.le_of_ble_eq_true rfl, Nat.le_of_ble_eq_true rfl⟩) (preV_w a 2 hK hP hD rfl ha) rfl rfl hl.1 rfl (lv_room (Nat.le_of_ble_eq_true rfl)) dX2_addToken_5 ⟨Nat.le_of_ble_eq_true rfl, Nat.le_of_ble_eq_true rfl⟩) hD hS hA (fun u5 H locs hp5 hP hD hS => ?_)
  refine W.widen (k := 0) (n := 0) (by omega) (by omega) ?_
  have hae : addM q M (unt (tok h)) = addM q M h := by unfold addM; rw [hk.1, hk.2]
  rw [hae] at hP hD
  exact W.aret (v := .ref h0) hx hb hr (Or.inl ⟨_, rfl⟩) (Or.inr ⟨_, rfl⟩) (fun t ht hW => ⟨⟨(), h0, rfl, trivial, rfl, by rw [ht]; exact hP, hD⟩, hS.F ht⟩) hS.2.2 dX2_addToken_8

set_option maxHeartbeats 4000000 in
set_option maxRecDepth 100000 in
/-- UltraLogLog(p) -/
theorem met_init (l : Launch) (D : va_G) (t : Nat → ClassId) (ws : va_W) (sz : Nat) (a h0 q : Nat) (h6 : q ≤ 6) (ha : ws[a]? = some (h0, .inr (2, [.null]))) : Met l yX2_init (ws_ yX2_init cX2_init 2 none) ({ frames := 1, cells := 1, slots := 64, locals := 12 } : Room) (Pw [.ref h0, .int (nI q)] D t sz ws) (Qv D ws sz (fun _ : Nat => True) (fun st => ws.set a (h0, .inr (2, [.ref st])) ++ [(st, .inl (t 2, 2 ^ q, .inl (rgs (fun _ => 0))))])) 1 64 (va_A ws sz) := by
  refine Met.ofW (cc := cX2_init) (maxL := 2) (ret := none) (by decide) rfl ?_
  intro p e s m args below meth c s₁ B hml hv
  obtain ⟨rfl, hK, hsz, hP, hD0⟩ := hv
  subst hsz
  have hD := hD0.self (sz := s.heap.size)
  have hA : ∀ q : Nat, s.heap.size ≤ q → va_A ws s.heap.size q := fun q h => Or.inr h
  have hS : va_S (va_A ws s.heap.size) s.heap s.heap [] := va_S.rf
  have hx := B.exec
  have hb := B.bytes
  have hr := B.returns
  have hts := atoms_spec (ws := ws_ yX2_init cX2_init 2 none) B.pre
  have hts : ∀ w ∈ lw_all, w.before _ s = true := fun w h => hts w (List.mem_cons_of_mem _ h)
  have hown : s.vm.findClass RX2 = some m.cls := findClass_of_methodNamed B.named
  have hlocks := B.notSynchronized
  have hin : meth.name = "<init>" := (name_of_methodNamed B.named B.method).1
  refine w_entry [.ref h0, .int (nI q)] (Nat.le_of_ble_eq_true rfl) (fun ls hl => ?_)
  have hl : lv_has ls 2 [(0, .ref h0), (1, .int (nI q))] := hl
  have h64 := p64 h6
  refine lv_aload_n hx hb dX2_init_0 rfl (lv_at hl 0 rfl) ?_
  refine W.objInit hx hb hown (hts _ q114) (hts _ q27) (hts _ q28) rfl (by rw [hml]; exact hl.1) rfl dX2_init_1 (Nat.le_of_ble_eq_true rfl) (Nat.le_of_ble_eq_true rfl) ?_
  refine W.eq (g2 := F0 m 4 ls []) rfl ?_
  refine lv_aload_n hx hb dX2_init_4 rfl (lv_at hl 0 rfl) ?_
  refine lv_iconst (v := (nI 1)) hx hb dX2_init_5 (by decide) ?_
  refine lv_iload_n hx hb dX2_init_6 rfl (lv_at hl 1 rfl) ?_
  refine lv_ishl hx hb dX2_init_7 ?_
  refine lv_topi (fun v7 e7 => ?_)
  obtain rfl : v7 = (nI (2 ^ q)) := by rw [e7]; exact (pk_shlN (n := 1) (nI q &&& 31) q ((by decide +kernel : ∀ k, k < 7 → ((nI k &&& 31).toBitVec.smod 32).toNat = k) q (by omega)) (by omega)).trans (congrArg nI (Nat.one_mul _))
  refine xr_newa (atype := .byte) hx hb (hts _ q108) (ty := .byte) rfl hK.1 hP hD hS hA 2 rfl (N' := 2 ^ q) (a0 := (2 ^ q, .inl (rgs (fun _ => 0)))) ((fun cA => (vp_cell_i cA _ _).trans (congrArg (arrV cA (2 ^ q)) (funext fun _ => congrArg Value.int (show sb (rg 0) = 0 by decide +kernel))))) (nI_pos (by omega)) (nI_clamp (by omega)) (by show 2 ^ q * 1 ≤ _; omega) (Nat.le_of_ble_eq_true rfl) (Nat.le_trans (show 0 + 2 ^ q ≤ 64 by omega) (Nat.le_of_ble_eq_true rfl)) dX2_init_8 (fun z8 H hP hD hS => ?_)
  refine W.widen (k := 1) (n := 64) (by omega) (by omega) ?_
  have hP : va_P D vwCl (ws ++ [(z8, .inl (t 2, 2 ^ q, .inl (rgs (fun _ => 0))))]) H := hP
  have hD : va_D (va_A ws s.heap.size) (ws ++ [(z8, .inl (t 2, 2 ^ q, .inl (rgs (fun _ => 0))))]) := hD
  refine va_putF (D := D) (ci := 2) (v := .ref z8) (ty := tyX2 0) (C := RX2) (T := TX2) (N := 1) hx hb hts in_X2 tyX2 tyX2_ok nmX2 hown hK.1 hP hD hS a (ws_app ha) rfl 0 (by decide) (hts _ q115) (fun _ h9 => h9) rfl hin rfl (by decide +kernel) rfl rfl (Nat.le_of_ble_eq_true rfl) dX2_init_10 (fun H locs hP hD hS => ?_)
  have hP : va_P D vwCl (ws.set a (h0, .inr (2, [.ref z8])) ++ [(z8, .inl (t 2, 2 ^ q, .inl (rgs (fun _ => 0))))]) H := by rw [← ws_seta ha]; exact hP
  have hD : va_D (va_A ws s.heap.size) (ws.set a (h0, .inr (2, [.ref z8])) ++ [(z8, .inl (t 2, 2 ^ q, .inl (rgs (fun _ => 0))))]) := by rw [← ws_seta ha]; exact hD
  exact W.vret hx hb hr (fun t ht hW => ⟨⟨z8, rfl, trivial, by rw [ht]; exact hP, hD⟩, hS.F ht⟩) hS.2.2 dX2_init_13

set_option maxHeartbeats 4000000 in
set_option maxRecDepth 100000 in
/-- UltraLogLog(state) -/
theorem met_init2 (l : Launch) (D : va_G) (t : Nat → ClassId) (ws : va_W) (sz : Nat) (a h0 st : Nat) (ha : ws[a]? = some (h0, .inr (2, [.null]))) : Met l yX2_init_2 (ws_ yX2_init_2 cX2_init_2 2 none) ({ frames := 1, cells := 0, slots := 0, locals := 12 } : Room) (Pw [.ref h0, .ref st] D t sz ws) (Qv D ws sz (fun _ : Unit => True) (fun _ => ws.set a (h0, .inr (2, [.ref st])))) 0 0 (va_A ws sz) := by
  refine Met.ofW (cc := cX2_init_2) (maxL := 2) (ret := none) (by decide) rfl ?_
  intro p e s m args below meth c s₁ B hml hv
  obtain ⟨rfl, hK, hsz, hP, hD0⟩ := hv
  subst hsz
  have hD := hD0.self (sz := s.heap.size)
  have hA : ∀ q : Nat, s.heap.size ≤ q → va_A ws s.heap.size q := fun q h => Or.inr h
  have hS : va_S (va_A ws s.heap.size) s.heap s.heap [] := va_S.rf
  have hx := B.exec
  have hb := B.bytes
  have hr := B.returns
  have hts := atoms_spec (ws := ws_ yX2_init_2 cX2_init_2 2 none) B.pre
  have hts : ∀ w ∈ lw_all, w.before _ s = true := fun w h => hts w (List.mem_cons_of_mem _ h)
  have hown : s.vm.findClass RX2 = some m.cls := findClass_of_methodNamed B.named
  have hlocks := B.notSynchronized
  have hin : meth.name = "<init>" := (name_of_methodNamed B.named B.method).1
  refine w_entry [.ref h0, .ref st] (Nat.le_of_ble_eq_true rfl) (fun ls hl => ?_)
  have hl : lv_has ls 2 [(0, .ref h0), (1, .ref st)] := hl
  refine lv_aload_n hx hb dX2_init_2_0 rfl (lv_at hl 0 rfl) ?_
  refine W.objInit hx hb hown (hts _ q114) (hts _ q27) (hts _ q28) rfl (by rw [hml]; exact hl.1) rfl dX2_init_2_1 (Nat.le_of_ble_eq_true rfl) (Nat.le_of_ble_eq_true rfl) ?_
  refine W.eq (g2 := F0 m 4 ls []) rfl ?_
  refine lv_aload_n hx hb dX2_init_2_4 rfl (lv_at hl 0 rfl) ?_
  refine lv_aload_n hx hb dX2_init_2_5 rfl (lv_at hl 1 rfl) ?_
  refine va_putF (D := D) (ci := 2) (v := .ref st) (ty := tyX2 0) (C := RX2) (T := TX2) (N := 1) hx hb hts in_X2 tyX2 tyX2_ok nmX2 hown hK.1 hP hD hS a (ha) rfl 0 (by decide) (hts _ q115) (fun _ h9 => h9) rfl hin rfl (by decide +kernel) rfl rfl (Nat.le_of_ble_eq_true rfl) dX2_init_2_6 (fun H locs hP hD hS => ?_)
  have hP : va_P D vwCl (ws.set a (h0, .inr (2, [.ref st]))) H := hP
  have hD : va_D (va_A ws s.heap.size) (ws.set a (h0, .inr (2, [.ref st]))) := hD
  exact W.vret hx hb hr (fun t ht hW => ⟨⟨(), rfl, trivial, by rw [ht]; exact hP, hD⟩, hS.F ht⟩) hS.2.2 dX2_init_2_9

set_option maxHeartbeats 4000000 in
set_option maxRecDepth 100000 in
/-- create -/
theorem met_create (l : Launch) (D : va_G) (t : Nat → ClassId) (ws : va_W) (sz : Nat) (q : Nat) (h3 : 3 ≤ q) (h6 : q ≤ 6) : Met l yX2_create (ws_ yX2_create cX2_create 1 (some (.object "UltraLogLog"))) ({ frames := 2, cells := 2, slots := 65, locals := 33 } : Room) (Pw [.int (nI q)] D t sz ws) (Qr D ws sz (fun _ : Nat => True) (fun st z => ws ++ [(z, .inr (2, [.ref st])), (st, .inl (t 2, 2 ^ q, .inl (rgs (fun _ => 0))))])) 2 65 (va_A ws sz) := by
  refine Met.ofW (cc := cX2_create) (maxL := 1) (ret := (some (.object "UltraLogLog"))) (by decide) rfl ?_
  intro p e s m args below meth c s₁ B hml hv
  obtain ⟨rfl, hK, hsz, hP, hD0⟩ := hv
  subst hsz
  have hD := hD0.self (sz := s.heap.size)
  have hA : ∀ q : Nat, s.heap.size ≤ q → va_A ws s.heap.size q := fun q h => Or.inr h
  have hS : va_S (va_A ws s.heap.size) s.heap s.heap [] := va_S.rf
  have hx := B.exec
  have hb := B.bytes
  have hr := B.returns
  have hts := atoms_spec (ws := ws_ yX2_create cX2_create 1 (some (.object "UltraLogLog"))) B.pre
  have hts : ∀ w ∈ lw_all, w.before _ s = true := fun w h => hts w (List.mem_cons_of_mem _ h)
  have hown : s.vm.findClass RX2 = some m.cls := findClass_of_methodNamed B.named
  have hlocks := B.notSynchronized
  refine w_entry [.int (nI q)] (Nat.le_of_ble_eq_true rfl) (fun ls hl => ?_)
  have hl : lv_has ls 1 [(0, .int (nI q))] := hl
  refine lv_iload_n hx hb dX2_create_0 rfl (lv_at hl 0 rfl) ?_
  refine lv_iconst (v := (nI 3)) hx hb dX2_create_1 (by decide) ?_
  refine lv_bipush (v := (nI 26)) hx hb dX2_create_2 (by decide) ?_
  refine va_csv (W.runS (As := [.int (nI q), .int (nI 3), .int (nI 26)]) (rest := []) ⟨hx, hb, hml, hown, hts⟩ (met_chk l q h3 (by omega)) (va_cwS 3 hts (lw_S q40 q41 q9 q42) rfl rfl rfl (by decide +kernel) ⟨Nat.le_of_ble_eq_true rfl, Nat.le_of_ble_eq_true rfl⟩) (preS_p) rfl rfl hl.1 rfl (lv_room (Nat.le_of_ble_eq_true rfl)) dX2_create_4 ⟨Nat.le_of_ble_eq_true rfl, Nat.le_of_ble_eq_true rfl⟩) (fun _ => ?_)
  refine va_new (ci := 2) (fs := [.null]) (C := RX2) (T := TX2) (N := 1) hx hb hts in_X2 tyX2 tyX2_ok hown (hts _ q109) (hts _ q110) (hts _ q8) hK.1 hP hD hS hA rfl (fun j hj => by rcases (show j = 0 by omega) with rfl <;> rfl) (Nat.le_of_ble_eq_true rfl) (Nat.le_of_ble_eq_true rfl) dX2_create_7 (fun z7 H hP hD hS => ?_)
  refine W.widen (k := 1) (n := 1) (by omega) (by omega) ?_
  have hP : va_P D vwCl (ws ++ [(z7, .inr (2, [.null]))]) H := hP
  have hD : va_D (va_A ws s.heap.size) (ws ++ [(z7, .inr (2, [.null]))]) := hD
  refine lv_dup hx hb dX2_create_10 rfl ?_
  refine lv_iload_n hx hb dX2_create_11 rfl (lv_at hl 0 rfl) ?_
  refine cw_v (va_runI (As := [.int (nI q)]) (rest := [.ref z7]) ⟨hx, hb, hml, hown, hts⟩ (met_init l D t (ws ++ [(z7, .inr (2, [.null]))]) H.size (ws.length + 0) z7 q h6 (ws_new (ws := ws) 0 rfl)) (cwI 1 hts (lw_meth q113) rfl rfl rfl (hts _ q8) (hts _ q111) (hts _ q112) rfl (by decide +kernel) ⟨Nat.le_of_ble_eq_true rfl, Nat.le_of_ble_eq_true rfl⟩) (preS_w hK hP hD) rfl rfl hl.1 rfl (lv_room (Nat.le_of_ble_eq_true rfl)) dX2_create_12 ⟨Nat.le_of_ble_eq_true rfl, Nat.le_of_ble_eq_true rfl⟩) hD hS hA (fun u12 H locs hp12 hP hD hS => ?_)
  refine W.widen (k := 2) (n := 65) (by omega) (by omega) ?_
  have hP : va_P D vwCl (ws ++ [(z7, .inr (2, [.ref u12])), (u12, .inl (t 2, 2 ^ q, .inl (rgs (fun _ => 0))))]) H := by rw [ws_setn (ws := ws) 0, List.append_assoc] at hP; exact hP
  have hD : va_D (va_A ws s.heap.size) (ws ++ [(z7, .inr (2, [.ref u12])), (u12, .inl (t 2, 2 ^ q, .inl (rgs (fun _ => 0))))]) := by rw [ws_setn (ws := ws) 0, List.append_assoc] at hD; exact hD
  exact W.aret (v := .ref z7) hx hb hr (Or.inl ⟨_, rfl⟩) (Or.inr ⟨_, rfl⟩) (fun t ht hW => ⟨⟨u12, z7, rfl, trivial, by rw [ht]; exact hP, hD⟩, hS.F ht⟩) hS.2.2 dX2_create_15

set_option maxHeartbeats 4000000 in
set_option maxRecDepth 100000 in
/-- Arrays.copyOf of its own length -/
theorem met_copyOf (l : Launch) (D : va_G) (t : Nat → ClassId) (ws : va_W) (sz : Nat) (b st q : Nat) (M : Nat → Nat) (h6 : q ≤ 6) (hb1 : ws[b]? = some (st, .inl (t 2, 2 ^ q, .inl (rgs M)))) : Met l yJ7_copyOf (ws_ yJ7_copyOf cJ7_copyOf 3 (some (.array .byte))) ({ frames := 1, cells := 1, slots := 64, locals := 14 } : Room) (Pw [.ref st, .int (nI (2 ^ q))] D t sz ws) (Qr D ws sz (fun _ : Unit => True) (fun _ z => ws ++ [(z, .inl (t 2, 2 ^ q, .inl (rgs M)))])) 1 64 (va_A ws sz) := by
  refine Met.ofW (cc := cJ7_copyOf) (maxL := 3) (ret := (some (.array .byte))) (by decide) rfl ?_
  intro p e s m args below meth c s₁ B hml hv
  obtain ⟨rfl, hK, hsz, hP, hD0⟩ := hv
  subst hsz
  have hD := hD0.self (sz := s.heap.size)
  have hA : ∀ q : Nat, s.heap.size ≤ q → va_A ws s.heap.size q := fun q h => Or.inr h
  have hS : va_S (va_A ws s.heap.size) s.heap s.heap [] := va_S.rf
  have hx := B.exec
  have hb := B.bytes
  have hr := B.returns
  have hts := atoms_spec (ws := ws_ yJ7_copyOf cJ7_copyOf 3 (some (.array .byte))) B.pre
  have hts : ∀ w ∈ lw_all, w.before _ s = true := fun w h => hts w (List.mem_cons_of_mem _ h)
  have hown : s.vm.findClass RJ7 = some m.cls := findClass_of_methodNamed B.named
  have hlocks := B.notSynchronized
  refine w_entry [.ref st, .int (nI (2 ^ q))] (Nat.le_of_ble_eq_true rfl) (fun ls hl => ?_)
  have hl : lv_has ls 3 [(0, .ref st), (1, .int (nI (2 ^ q)))] := hl
  have h64 := p64 h6
  refine lv_iload_n hx hb dJ7_copyOf_0 rfl (lv_at hl 1 rfl) ?_
  refine lv_aload_n hx hb dJ7_copyOf_1 rfl (lv_at hl 0 rfl) ?_
  refine va_alen (v := nI (2 ^ q)) hx hb hK.1 hP b 2 (hb1) rfl rfl dJ7_copyOf_2 ?_
  refine lv_icmp_ne (tgt := 14) hx hb dJ7_copyOf_3 (by decide) (fun c3 => absurd c3 (fun h => h rfl)) (fun c3 => ?_)
  refine lv_aload_n hx hb dJ7_copyOf_6 rfl (lv_at hl 0 rfl) ?_
  have hnmB : s.vm.findClass "[B" = some (t 2) := va_nm_byte (hK.1.2 2 _ rfl).2
  refine va_clone hx hb (by rw [hml]; exact hl.1.symm) hown (hts _ q271) (hts _ q272) (hts _ q273) (hts _ q274) (hts _ q275) hK.2.2.2.1 hK.1 hP hD hS hA b 2 hb1 rfl hnmB ?_ (Nat.le_of_ble_eq_true rfl) (Nat.le_of_ble_eq_true rfl) (Nat.le_of_ble_eq_true rfl) (Nat.le_trans (show 0 + 2 ^ q ≤ 64 by omega) (Nat.le_of_ble_eq_true rfl)) dJ7_copyOf_7 (fun z7 H hK1 hP hD hS => ?_)
  · intro i v hv
    rw [vp_cell_i] at hv
    have hi : i < 2 ^ q := by
      have h9 := (Array.getElem?_eq_some_iff.mp hv).1
      rw [arrV_size] at h9
      exact h9
    rw [arrV_read _ _ hi] at hv
    cases hv
    exact pk_fb _
  refine W.widen (k := 1) (n := 64) (by omega) (by omega) ?_
  have hP : va_P D vwCl (ws ++ [(z7, .inl (t 2, 2 ^ q, .inl (rgs M)))]) H := hP
  have hD : va_D (va_A ws s.heap.size) (ws ++ [(z7, .inl (t 2, 2 ^ q, .inl (rgs M)))]) := hD
  refine va_castA hx hb hown (hts _ q277) hP (ws.length + 0) (ws_new (ws := ws) 0 rfl) hnmB dJ7_copyOf_10 ?_
  exact W.aret (v := .ref z7) hx hb hr (Or.inr ⟨_, rfl⟩) (Or.inr ⟨_, rfl⟩) (fun t ht hW => ⟨⟨(), z7, rfl, trivial, by rw [ht]; exact hP, hD⟩, hS.F ht⟩) hS.2.2 dJ7_copyOf_13

set_option maxHeartbeats 4000000 in
set_option maxRecDepth 100000 in
/-- copy -/
theorem met_copy (l : Launch) (D : va_G) (t : Nat → ClassId) (ws : va_W) (sz : Nat) (a b h0 st q : Nat) (M : Nat → Nat) (h6 : q ≤ 6) (ha : ws[a]? = some (h0, .inr (2, [.ref st]))) (hb1 : ws[b]? = some (st, .inl (t 2, 2 ^ q, .inl (rgs M)))) : Met l yX2_copy (ws_ yX2_copy cX2_copy 1 (some (.object "UltraLogLog"))) ({ frames := 2, cells := 2, slots := 65, locals := 36 } : Room) (Pw [.ref h0] D t sz ws) (Qr D ws sz (fun _ : Nat => True) (fun st2 z => ws ++ [(z, .inr (2, [.ref st2])), (st2, .inl (t 2, 2 ^ q, .inl (rgs M)))])) 2 65 (va_A ws sz) := by
  refine Met.ofW (cc := cX2_copy) (maxL := 1) (ret := (some (.object "UltraLogLog"))) (by decide) rfl ?_
  intro p e s m args below meth c s₁ B hml hv
  obtain ⟨rfl, hK, hsz, hP, hD0⟩ := hv
  subst hsz
  have hD := hD0.self (sz := s.heap.size)
  have hA : ∀ q : Nat, s.heap.size ≤ q → va_A ws s.heap.size q := fun q h => Or.inr h
  have hS : va_S (va_A ws s.heap.size) s.heap s.heap [] := va_S.rf
  have hx := B.exec
  have hb := B.bytes
  have hr := B.returns
  have hts := atoms_spec (ws := ws_ yX2_copy cX2_copy 1 (some (.object "UltraLogLog"))) B.pre
  have hts : ∀ w ∈ lw_all, w.before _ s = true := fun w h => hts w (List.mem_cons_of_mem _ h)
  have hown : s.vm.findClass RX2 = some m.cls := findClass_of_methodNamed B.named
  have hlocks := B.notSynchronized
  refine w_entry [.ref h0] (Nat.le_of_ble_eq_true rfl) (fun ls hl => ?_)
  have hl : lv_has ls 1 [(0, .ref h0)] := hl
  refine va_new (ci := 2) (fs := [.null]) (C := RX2) (T := TX2) (N := 1) hx hb hts in_X2 tyX2 tyX2_ok hown (hts _ q109) (hts _ q110) (hts _ q8) hK.1 hP hD hS hA rfl (fun j hj => by rcases (show j = 0 by omega) with rfl <;> rfl) (Nat.le_of_ble_eq_true rfl) (Nat.le_of_ble_eq_true rfl) dX2_copy_0 (fun z0 H hP hD hS => ?_)
  refine W.widen (k := 1) (n := 1) (by omega) (by omega) ?_
  have hP : va_P D vwCl (ws ++ [(z0, .inr (2, [.null]))]) H := hP
  have hD : va_D (va_A ws s.heap.size) (ws ++ [(z0, .inr (2, [.null]))]) := hD
  refine lv_dup hx hb dX2_copy_3 rfl ?_
  refine lv_aload_n hx hb dX2_copy_4 rfl (lv_at hl 0 rfl) ?_
  refine va_get (D := D) (ci := 2) (v := .ref st) (C := RX2) (T := TX2) (N := 1) hx hb hts in_X2 hown hK.1 hP a (ws_app ha) rfl 0 (by decide) (hts _ q115) (fun _ h9 => h9) rfl dX2_copy_5 ?_
  refine lv_aload_n hx hb dX2_copy_8 rfl (lv_at hl 0 rfl) ?_
  refine va_get (D := D) (ci := 2) (v := .ref st) (C := RX2) (T := TX2) (N := 1) hx hb hts in_X2 hown hK.1 hP a (ws_app ha) rfl 0 (by decide) (hts _ q115) (fun _ h9 => h9) rfl dX2_copy_9 ?_
  refine va_alen (v := nI (2 ^ q)) hx hb hK.1 hP b 2 (ws_app hb1) rfl rfl dX2_copy_12 ?_
  refine cw_r (va_runS (As := [.ref st, .int (nI (2 ^ q))]) (rest := [.ref z0, .ref z0]) ⟨hx, hb, hml, hown, hts⟩ (met_copyOf l D t (ws ++ [(z0, .inr (2, [.null]))]) H.size b st q M h6 (ws_app hb1)) (va_cwS 2 hts (lw_S q268 q269 q18 q270) rfl rfl rfl (by decide +kernel) ⟨Nat.le_of_ble_eq_true rfl, Nat.le_of_ble_eq_true rfl⟩) (preS_w hK hP hD) rfl rfl hl.1 rfl (lv_room (Nat.le_of_ble_eq_true rfl)) dX2_copy_13 ⟨Nat.le_of_ble_eq_true rfl, Nat.le_of_ble_eq_true rfl⟩) hD hS hA (fun u13 z13 H locs hp13 hP hD hS => ?_)
  refine W.widen (k := 2) (n := 65) (by omega) (by omega) ?_
  have hP : va_P D vwCl (ws ++ [(z0, .inr (2, [.null])), (z13, .inl (t 2, 2 ^ q, .inl (rgs M)))]) H := by rw [List.append_assoc] at hP; exact hP
  have hD : va_D (va_A ws s.heap.size) (ws ++ [(z0, .inr (2, [.null])), (z13, .inl (t 2, 2 ^ q, .inl (rgs M)))]) := by rw [List.append_assoc] at hD; exact hD
  refine cw_v (va_runI (As := [.ref z13]) (rest := [.ref z0]) ⟨hx, hb, hml, hown, hts⟩ (met_init2 l D t (ws ++ [(z0, .inr (2, [.null])), (z13, .inl (t 2, 2 ^ q, .inl (rgs M)))]) H.size (ws.length + 0) z0 z13 (ws_new (ws := ws) 0 rfl)) (cwI 1 hts (lw_meth q286) rfl rfl rfl (hts _ q8) (hts _ q284) (hts _ q285) rfl (by decide +kernel) ⟨Nat.le_of_ble_eq_true rfl, Nat.le_of_ble_eq_true rfl⟩) (preS_w hK hP hD) rfl rfl hl.1 rfl (lv_room (Nat.le_of_ble_eq_true rfl)) dX2_copy_16 ⟨Nat.le_of_ble_eq_true rfl, Nat.le_of_ble_eq_true rfl⟩) hD hS hA (fun u16 H locs hp16 hP hD hS => ?_)
  refine W.widen (k := 2) (n := 65) (by omega) (by omega) ?_
  have hP : va_P D vwCl (ws ++ [(z0, .inr (2, [.ref z13])), (z13, .inl (t 2, 2 ^ q, .inl (rgs M)))]) H := by rw [ws_setn (ws := ws) 0] at hP; exact hP
  have hD : va_D (va_A ws s.heap.size) (ws ++ [(z0, .inr (2, [.ref z13])), (z13, .inl (t 2, 2 ^ q, .inl (rgs M)))]) := by rw [ws_setn (ws := ws) 0] at hD; exact hD
  exact W.aret (v := .ref z0) hx hb hr (Or.inl ⟨_, rfl⟩) (Or.inr ⟨_, rfl⟩) (fun t ht hW => ⟨⟨z13, z0, rfl, trivial, by rw [ht]; exact hP, hD⟩, hS.F ht⟩) hS.2.2 dX2_copy_19
end
section
set_option maxRecDepth 100000
set_option maxHeartbeats 4000000 in
set_option maxRecDepth 100000 in
/-- add(other) of the same precision -/
theorem met_addE (l : Launch) (D : va_G) (t : Nat → ClassId) (ws : va_W) (sz : Nat) (a b h0 st q : Nat) (M : Nat → Nat) (c2 d2 g0 so : Nat) (N : Nat → Nat) (h3 : 3 ≤ q) (h6 : q ≤ 6) (hM : Ok M) (hN : Ok N) (ha : ws[a]? = some (h0, .inr (2, [.ref st]))) (hb1 : ws[b]? = some (st, .inl (t 2, 2 ^ q, .inl (rgs M)))) (hc : ws[c2]? = some (g0, .inr (2, [.ref so]))) (hd : ws[d2]? = some (so, .inl (t 2, 2 ^ q, .inl (rgs N)))) (hdb : d2 ≠ b) : Met l yX2_add_3 (ws_ yX2_add_3 cX2_add_3 14 (some (.object "UltraLogLog"))) ({ frames := 3, cells := 0, slots := 0, locals := 90 } : Room) (Pw [.ref h0, .ref g0] D t sz ws) (Qh D ws sz h0 (fun _ : Unit => True) (fun _ => ws.set b (st, .inl (t 2, 2 ^ q, .inl (rgs (fun i => M i ||| N i)))))) 0 0 (va_A ws sz) := by
  refine Met.ofW (cc := cX2_add_3) (maxL := 14) (ret := (some (.object "UltraLogLog"))) (by decide) rfl ?_
  intro p e s m args below meth c s₁ B hml hv
  obtain ⟨rfl, hK, hsz, hP, hD0⟩ := hv
  subst hsz
  have hD := hD0.self (sz := s.heap.size)
  have hA : ∀ q : Nat, s.heap.size ≤ q → va_A ws s.heap.size q := fun q h => Or.inr h
  have hS : va_S (va_A ws s.heap.size) s.heap s.heap [] := va_S.rf
  have hx := B.exec
  have hb := B.bytes
  have hr := B.returns
  have hts := atoms_spec (ws := ws_ yX2_add_3 cX2_add_3 14 (some (.object "UltraLogLog"))) B.pre
  have hts : ∀ w ∈ lw_all, w.before _ s = true := fun w h => hts w (List.mem_cons_of_mem _ h)
  have hown : s.vm.findClass RX2 = some m.cls := findClass_of_methodNamed B.named
  have hlocks := B.notSynchronized
  refine w_entry [.ref h0, .ref g0] (Nat.le_of_ble_eq_true rfl) (fun ls hl => ?_)
  have hl : lv_has ls 14 [(0, .ref h0), (1, .ref g0)] := hl
  have h64 := p64 h6
  have hab := ws_oa ha hb1
  have hcb := ws_oa hc hb1
  refine lv_aload_n hx hb dX2_add_3_0 rfl (lv_at hl 1 rfl) ?_
  obtain ⟨sr1, hsr1⟩ := hK.2.2.2.2.2.2
  refine va_ldcS hx hb hown hsr1 dX2_add_3_1 ?_
  refine va_csr (ad := fun z => .ref z) (W.runS (As := [.ref g0, .ref sr1]) (rest := []) ⟨hx, hb, hml, hown, hts⟩ (met_rnn l g0 sr1) (va_cwS 2 hts (lw_S q260 q261 q17 q262) rfl rfl rfl (by decide +kernel) ⟨Nat.le_of_ble_eq_true rfl, Nat.le_of_ble_eq_true rfl⟩) (preS_p) rfl rfl hl.1 rfl (lv_room (Nat.le_of_ble_eq_true rfl)) dX2_add_3_3 ⟨Nat.le_of_ble_eq_true rfl, Nat.le_of_ble_eq_true rfl⟩) (fun r3 e3 => ?_)
  obtain rfl : g0 = r3 := Eq.symm e3
  refine lv_pop hx hb dX2_add_3_6 rfl ?_
  refine lv_aload_n hx hb dX2_add_3_7 rfl (lv_at hl 1 rfl) ?_
  refine va_get (D := D) (ci := 2) (v := .ref so) (C := RX2) (T := TX2) (N := 1) hx hb hts in_X2 hown hK.1 hP c2 (hc) rfl 0 (by decide) (hts _ q115) (fun _ h9 => h9) rfl dX2_add_3_8 ?_
  refine lv_astore_n (lv' := [(2, .ref so), (0, .ref h0), (1, .ref g0)]) hx hb dX2_add_3_11 rfl hl (by decide) rfl (fun ls hl => ?_)
  refine lv_aload_n hx hb dX2_add_3_12 rfl (lv_at hl 0 rfl) ?_
  refine va_alen (v := nI (2 ^ q)) hx hb hK.1 hP d2 2 (hd) rfl rfl dX2_add_3_13 ?_
  refine lv_aload_n hx hb dX2_add_3_14 rfl (lv_at hl 1 rfl) ?_
  refine va_get (D := D) (ci := 2) (v := .ref st) (C := RX2) (T := TX2) (N := 1) hx hb hts in_X2 hown hK.1 hP a (ha) rfl 0 (by decide) (hts _ q115) (fun _ h9 => h9) rfl dX2_add_3_15 ?_
  refine va_alen (v := nI (2 ^ q)) hx hb hK.1 hP b 2 (hb1) rfl rfl dX2_add_3_18 ?_
  refine lv_icmp_ge (tgt := 32) hx hb dX2_add_3_19 (by decide) (fun c19 => ?_) (fun c19 => absurd (nI_le (Nat.le_refl _) (by omega)) c19)
  refine lv_aload_n hx hb dX2_add_3_32 rfl (lv_at hl 0 rfl) ?_
  refine va_alen (v := nI (2 ^ q)) hx hb hK.1 hP d2 2 (hd) rfl rfl dX2_add_3_33 ?_
  refine lv_aload_n hx hb dX2_add_3_34 rfl (lv_at hl 1 rfl) ?_
  refine va_get (D := D) (ci := 2) (v := .ref st) (C := RX2) (T := TX2) (N := 1) hx hb hts in_X2 hown hK.1 hP a (ha) rfl 0 (by decide) (hts _ q115) (fun _ h9 => h9) rfl dX2_add_3_35 ?_
  refine va_alen (v := nI (2 ^ q)) hx hb hK.1 hP b 2 (hb1) rfl rfl dX2_add_3_38 ?_
  refine lv_icmp_ne (tgt := 96) hx hb dX2_add_3_39 (by decide) (fun c39 => absurd c39 (fun h => h rfl)) (fun c39 => ?_)
  refine lv_iconst (v := (nI 0)) hx hb dX2_add_3_42 (by decide) ?_
  refine lv_istore_n (lv' := [(3, .int (nI 0)), (2, .ref so), (0, .ref h0), (1, .ref g0)]) hx hb dX2_add_3_43 rfl hl (by decide) rfl (fun ls hl => ?_)
  refine W_loop (nL := 14) (fun (i2 : Nat) H1 L1 => i2 ≤ 2 ^ q ∧ va_P D vwCl (ws.set b (st, .inl (t 2, 2 ^ q, .inl (rgs (upto i2 M (fun i => M i ||| N i)))))) H1 ∧ va_D (va_A ws s.heap.size) (ws.set b (st, .inl (t 2, 2 ^ q, .inl (rgs (upto i2 M (fun i => M i ||| N i)))))) ∧ va_S (va_A ws s.heap.size) s.heap H1 L1) (fun i2 => [(3, .int (nI i2)), (2, .ref so), (0, .ref h0), (1, .ref g0)]) (fun i2 => 2 ^ q - i2) (fun _ => 0) (fun _ => 0) (fun i2 H locs ls hI hl ih => ?_) 0 ⟨Nat.zero_le _, by rw [upto_0, ws_id hb1]; exact hP, by rw [upto_0, ws_id hb1]; exact hD, hS⟩ (lv_sub hl [0, 1, 2, 3] rfl)
  obtain ⟨hbq, hP, hD, hS⟩ := hI
  have hl : lv_has ls 14 [(3, .int (nI i2)), (2, .ref so), (0, .ref h0), (1, .ref g0)] := hl
  refine lv_iload_n hx hb dX2_add_3_44 rfl (lv_at hl 0 rfl) ?_
  refine lv_aload_n hx hb dX2_add_3_45 rfl (lv_at hl 2 rfl) ?_
  refine va_get (D := D) (ci := 2) (v := .ref st) (C := RX2) (T := TX2) (N := 1) hx hb hts in_X2 hown hK.1 hP a ((ws_ne hab ha)) rfl 0 (by decide) (hts _ q115) (fun _ h9 => h9) rfl dX2_add_3_46 ?_
  refine va_alen (v := nI (2 ^ q)) hx hb hK.1 hP b 2 ((ws_eq hb1)) rfl rfl dX2_add_3_49 ?_
  refine lv_icmp_ge (tgt := 93) hx hb dX2_add_3_50 (by decide) (fun c50 => ?_) (fun c50 => ?_)
  · have hcc : i2 = 2 ^ q := by have := (nI_leI (by omega) (by omega)).mp c50; omega
    subst hcc
    refine lv_goto (tgt := 230) hx hb dX2_add_3_93 (by decide) ?_
    refine lv_aload_n hx hb dX2_add_3_230 rfl (lv_at hl 2 rfl) ?_
    have hP : va_P D vwCl (ws.set b (st, .inl (t 2, 2 ^ q, .inl (rgs (fun i => M i ||| N i))))) H := va_P.chg hP (cell_i fun i hi => by show sb (rg (upto _ M (fun i => M i ||| N i) i)) = _; rw [upto_in hi]; rfl)
    have hD : va_D (va_A ws s.heap.size) (ws.set b (st, .inl (t 2, 2 ^ q, .inl (rgs (fun i => M i ||| N i))))) := D_chg hD hb1
    exact W.aret (v := .ref h0) hx hb hr (Or.inl ⟨_, rfl⟩) (Or.inr ⟨_, rfl⟩) (fun t ht hW => ⟨⟨(), h0, rfl, trivial, rfl, by rw [ht]; exact hP, hD⟩, hS.F ht⟩) hS.2.2 dX2_add_3_231
  · have hlt : i2 < 2 ^ q := by rcases Nat.lt_or_ge i2 (2 ^ q) with h | h; exact h; exact absurd (nI_le h (by omega)) c50
    have hrm := rg_lt (hM i2).1 (hM i2).2
    have hrn := rg_lt (hN i2).1 (hN i2).2
    refine lv_aload_n hx hb dX2_add_3_53 rfl (lv_at hl 1 rfl) ?_
    refine lv_iload_n hx hb dX2_add_3_54 rfl (lv_at hl 0 rfl) ?_
    refine xr_bald hx hb hK.1 hP d2 2 ((ws_ne hdb hd)) rfl (hlt) (by omega) (v := (sb (rg (N i2)))) (rfl) dX2_add_3_55 ?_
    refine lv_istore (lv' := [(4, .int (sb (rg (N i2)))), (3, .int (nI i2)), (2, .ref so), (0, .ref h0), (1, .ref g0)]) hx hb dX2_add_3_56 hl (by decide) rfl (fun ls hl => ?_)
    refine lv_iload hx hb dX2_add_3_58 (lv_at hl 0 rfl) ?_
    refine lv_if_eq (tgt := 87) hx hb dX2_add_3_60 (by decide) (fun c60 => ?_) (fun c60 => ?_)
    · have hz0 : N i2 = 0 := (rg_0 (hN i2).2).mp ((sb_eq0 _ hrn.1).mp c60)
      have hup : upto (i2 + 1) M (fun i => M i ||| N i) = upto i2 M (fun i => M i ||| N i) := upto_eq (by show M i2 ||| N i2 = M i2; rw [hz0, Nat.or_zero])
      refine lv_iinc (v := (nI (i2 + 1))) (lv' := [(3, .int (nI (i2 + 1))), (4, .int (sb (rg (N i2)))), (2, .ref so), (0, .ref h0), (1, .ref g0)]) hx hb dX2_add_3_87 hl (k := 1) rfl (nI_1 i2) (by decide) rfl (fun ls hl => ?_)
      refine lv_goto (tgt := 44) hx hb dX2_add_3_90 (by decide) ?_
      exact ih (i2 + 1) _ _ ls (by omega) ⟨hlt, by rw [hup]; exact hP, by rw [hup]; exact hD, hS⟩ (lv_sub hl [0, 2, 3, 4] rfl)
    · have hn0 : N i2 ≠ 0 := fun h => c60 (by rw [h]; decide +kernel)
      refine lv_aload_n hx hb dX2_add_3_63 rfl (lv_at hl 3 rfl) ?_
      refine va_get (D := D) (ci := 2) (v := .ref st) (C := RX2) (T := TX2) (N := 1) hx hb hts in_X2 hown hK.1 hP a ((ws_ne hab ha)) rfl 0 (by decide) (hts _ q115) (fun _ h9 => h9) rfl dX2_add_3_64 ?_
      refine lv_iload_n hx hb dX2_add_3_67 rfl (lv_at hl 1 rfl) ?_
      refine lv_aload_n hx hb dX2_add_3_68 rfl (lv_at hl 3 rfl) ?_
      refine va_get (D := D) (ci := 2) (v := .ref st) (C := RX2) (T := TX2) (N := 1) hx hb hts in_X2 hown hK.1 hP a ((ws_ne hab ha)) rfl 0 (by decide) (hts _ q115) (fun _ h9 => h9) rfl dX2_add_3_69 ?_
      refine lv_iload_n hx hb dX2_add_3_72 rfl (lv_at hl 1 rfl) ?_
      refine xr_bald hx hb hK.1 hP b 2 ((ws_eq hb1)) rfl (hlt) (by omega) (v := (sb (rg (M i2)))) (congrArg (fun z => sb (rg z)) (upto_at _ _ _)) dX2_add_3_73 ?_
      refine vp_callSl (W.runS (As := [.int (sb (rg (M i2)))]) (rest := [.int (nI i2), .ref st]) ⟨hx, hb, hml, hown, hts⟩ (met_unpack l (rg (M i2)) hrm.1 hrm.2) (va_cwS 1 hts (lw_S q216 q217 q8 q218) rfl rfl rfl (by decide +kernel) ⟨Nat.le_of_ble_eq_true rfl, Nat.le_of_ble_eq_true rfl⟩) (preS_p) rfl rfl hl.1 rfl (lv_room (Nat.le_of_ble_eq_true rfl)) dX2_add_3_74 ⟨Nat.le_of_ble_eq_true rfl, Nat.le_of_ble_eq_true rfl⟩) (fun r74 e74 => ?_)
      obtain rfl : r74 = (lN (unp (rg (M i2)))) := e74
      rw [unp_rg (hM i2).2]
      refine lv_iload hx hb dX2_add_3_77 (lv_at hl 0 rfl) ?_
      refine vp_callSl (W.runS (As := [.int (sb (rg (N i2)))]) (rest := [.long (lN (win (M i2))), .int (nI i2), .ref st]) ⟨hx, hb, hml, hown, hts⟩ (met_unpack l (rg (N i2)) hrn.1 hrn.2) (va_cwS 1 hts (lw_S q216 q217 q8 q218) rfl rfl rfl (by decide +kernel) ⟨Nat.le_of_ble_eq_true rfl, Nat.le_of_ble_eq_true rfl⟩) (preS_p) rfl rfl hl.1 rfl (lv_room (Nat.le_of_ble_eq_true rfl)) dX2_add_3_79 ⟨Nat.le_of_ble_eq_true rfl, Nat.le_of_ble_eq_true rfl⟩) (fun r79 e79 => ?_)
      obtain rfl : r79 = (lN (unp (rg (N i2)))) := e79
      rw [unp_rg (hN i2).2]
      refine lv_lor hx hb dX2_add_3_82 ?_
      refine lv_topl (fun v82 e82 => ?_)
      obtain rfl : v82 = (lN (win (M i2) ||| win (N i2))) := by rw [e82]; exact wb_or (win_ok (hM i2)).1 (win_ok (hN i2)).1
      have hwn := win_ok (hN i2)
      have hor := okn_or (win_ok (hM i2)) hwn
      have hor2 := okn_or (hM i2) (hN i2)
      have hor4 : 4 ≤ win (M i2) ||| win (N i2) := Nat.le_trans (show 4 ≤ win (N i2) by rcases hwn.2 with h | h; exact absurd ((win_0 (hN i2).2).mp h) hn0; exact h) Nat.right_le_or
      refine vp_callSi (W.runS (As := [.long (lN (win (M i2) ||| win (N i2)))]) (rest := [.int (nI i2), .ref st]) ⟨hx, hb, hml, hown, hts⟩ (met_pack l (win (M i2) ||| win (N i2)) hor.1 hor4) (va_cwS 1 hts (lw_S q220 q221 q8 q222) rfl rfl rfl (by decide +kernel) ⟨Nat.le_of_ble_eq_true rfl, Nat.le_of_ble_eq_true rfl⟩) (preS_p) rfl rfl hl.1 rfl (lv_room (Nat.le_of_ble_eq_true rfl)) dX2_add_3_83 ⟨Nat.le_of_ble_eq_true rfl, Nat.le_of_ble_eq_true rfl⟩) (fun r83 e83 => ?_)
      obtain rfl : r83 = (sb (rg (win (M i2) ||| win (N i2)))) := e83
      rw [rg_or3 (hM i2).2 (hN i2).2]
      refine xr_bast hx hb hK.1 hP hD hS b 2 (rgs (upto (i2 + 1) M (fun i => M i ||| N i))) ((ws_eq hb1)) rfl (hlt) (by omega) (fun i hi => by
          show (if i = i2 then (sb (rg (M i2 ||| N i2))).toInt8.toInt32 else sb (rg (upto i2 M (fun i => M i ||| N i) i))) = sb (rg (upto (i2 + 1) M (fun i => M i ||| N i) i))
          rw [upto_s]
          by_cases hii : i = i2
          · rw [if_pos hii, if_pos hii, sb_byte8 _ (rg_lt hor2.1 hor2.2).1]
          · rw [if_neg hii, if_neg hii]) dX2_add_3_86 (fun H locs hP hD hS => ?_)
      have hP : va_P D vwCl (ws.set b (st, .inl (t 2, 2 ^ q, .inl (rgs (upto (i2 + 1) M (fun i => M i ||| N i)))))) H := by rw [ws_ss] at hP; exact hP
      have hD : va_D (va_A ws s.heap.size) (ws.set b (st, .inl (t 2, 2 ^ q, .inl (rgs (upto (i2 + 1) M (fun i => M i ||| N i)))))) := by rw [ws_ss] at hD; exact hD
      refine lv_iinc (v := (nI (i2 + 1))) (lv' := [(3, .int (nI (i2 + 1))), (4, .int (sb (rg (N i2)))), (2, .ref so), (0, .ref h0), (1, .ref g0)]) hx hb dX2_add_3_87 hl (k := 1) rfl (nI_1 i2) (by decide) rfl (fun ls hl => ?_)
      refine lv_goto (tgt := 44) hx hb dX2_add_3_90 (by decide) ?_
      exact ih (i2 + 1) _ _ ls (by omega) ⟨hlt, hP, hD, hS⟩ (lv_sub hl [0, 2, 3, 4] rfl)

set_option maxHeartbeats 4000000 in
set_option maxRecDepth 100000 in
/-- add(other), the other more precise -/
theorem met_addG (l : Launch) (D : va_G) (t : Nat → ClassId) (ws : va_W) (sz : Nat) (a b h0 st q : Nat) (M : Nat → Nat) (c2 d2 g0 so : Nat) (N : Nat → Nat) (h3 : 3 ≤ q) (h6 : q ≤ 6) (less : Nat) (h1 : 1 ≤ less) (h6b : q + less ≤ 6) (hM : Ok M) (hN : Ok N) (ha : ws[a]? = some (h0, .inr (2, [.ref st]))) (hb1 : ws[b]? = some (st, .inl (t 2, 2 ^ q, .inl (rgs M)))) (hc : ws[c2]? = some (g0, .inr (2, [.ref so]))) (hd : ws[d2]? = some (so, .inl (t 2, 2 ^ (q + less), .inl (rgs N)))) (hdb : d2 ≠ b) : Met l yX2_add_3 (ws_ yX2_add_3 cX2_add_3 14 (some (.object "UltraLogLog"))) ({ frames := 3, cells := 0, slots := 0, locals := 90 } : Room) (Pw [.ref h0, .ref g0] D t sz ws) (Qh D ws sz h0 (fun _ : Unit => True) (fun _ => ws.set b (st, .inl (t 2, 2 ^ q, .inl (rgs (fun i => M i ||| dn (q + less) less N i)))))) 0 0 (va_A ws sz) := by
  refine Met.ofW (cc := cX2_add_3) (maxL := 14) (ret := (some (.object "UltraLogLog"))) (by decide) rfl ?_
  intro p e s m args below meth c s₁ B hml hv
  obtain ⟨rfl, hK, hsz, hP, hD0⟩ := hv
  subst hsz
  have hD := hD0.self (sz := s.heap.size)
  have hA : ∀ q : Nat, s.heap.size ≤ q → va_A ws s.heap.size q := fun q h => Or.inr h
  have hS : va_S (va_A ws s.heap.size) s.heap s.heap [] := va_S.rf
  have hx := B.exec
  have hb := B.bytes
  have hr := B.returns
  have hts := atoms_spec (ws := ws_ yX2_add_3 cX2_add_3 14 (some (.object "UltraLogLog"))) B.pre
  have hts : ∀ w ∈ lw_all, w.before _ s = true := fun w h => hts w (List.mem_cons_of_mem _ h)
  have hown : s.vm.findClass RX2 = some m.cls := findClass_of_methodNamed B.named
  have hlocks := B.notSynchronized
  refine w_entry [.ref h0, .ref g0] (Nat.le_of_ble_eq_true rfl) (fun ls hl => ?_)
  have hl : lv_has ls 14 [(0, .ref h0), (1, .ref g0)] := hl
  have h64 := p64 h6
  have hab := ws_oa ha hb1
  have hcb := ws_oa hc hb1
  have h64b := p64 h6b
  have hpl := Nat.two_pow_pos less
  have hlo : 2 ^ q < 2 ^ (q + less) := Nat.pow_lt_pow_right (by decide) (by omega)
  have hl64 : 2 ^ less ≤ 64 := p64 (by omega)
  refine lv_aload_n hx hb dX2_add_3_0 rfl (lv_at hl 1 rfl) ?_
  obtain ⟨sr1, hsr1⟩ := hK.2.2.2.2.2.2
  refine va_ldcS hx hb hown hsr1 dX2_add_3_1 ?_
  refine va_csr (ad := fun z => .ref z) (W.runS (As := [.ref g0, .ref sr1]) (rest := []) ⟨hx, hb, hml, hown, hts⟩ (met_rnn l g0 sr1) (va_cwS 2 hts (lw_S q260 q261 q17 q262) rfl rfl rfl (by decide +kernel) ⟨Nat.le_of_ble_eq_true rfl, Nat.le_of_ble_eq_true rfl⟩) (preS_p) rfl rfl hl.1 rfl (lv_room (Nat.le_of_ble_eq_true rfl)) dX2_add_3_3 ⟨Nat.le_of_ble_eq_true rfl, Nat.le_of_ble_eq_true rfl⟩) (fun r3 e3 => ?_)
  obtain rfl : g0 = r3 := Eq.symm e3
  refine lv_pop hx hb dX2_add_3_6 rfl ?_
  refine lv_aload_n hx hb dX2_add_3_7 rfl (lv_at hl 1 rfl) ?_
  refine va_get (D := D) (ci := 2) (v := .ref so) (C := RX2) (T := TX2) (N := 1) hx hb hts in_X2 hown hK.1 hP c2 (hc) rfl 0 (by decide) (hts _ q115) (fun _ h9 => h9) rfl dX2_add_3_8 ?_
  refine lv_astore_n (lv' := [(2, .ref so), (0, .ref h0), (1, .ref g0)]) hx hb dX2_add_3_11 rfl hl (by decide) rfl (fun ls hl => ?_)
  refine lv_aload_n hx hb dX2_add_3_12 rfl (lv_at hl 0 rfl) ?_
  refine va_alen (v := nI (2 ^ (q + less))) hx hb hK.1 hP d2 2 (hd) rfl rfl dX2_add_3_13 ?_
  refine lv_aload_n hx hb dX2_add_3_14 rfl (lv_at hl 1 rfl) ?_
  refine va_get (D := D) (ci := 2) (v := .ref st) (C := RX2) (T := TX2) (N := 1) hx hb hts in_X2 hown hK.1 hP a (ha) rfl 0 (by decide) (hts _ q115) (fun _ h9 => h9) rfl dX2_add_3_15 ?_
  refine va_alen (v := nI (2 ^ q)) hx hb hK.1 hP b 2 (hb1) rfl rfl dX2_add_3_18 ?_
  refine lv_icmp_ge (tgt := 32) hx hb dX2_add_3_19 (by decide) (fun c19 => ?_) (fun c19 => absurd (nI_le (Nat.le_of_lt hlo) (by omega)) c19)
  have hne : ¬ nI (2 ^ (q + less)) = nI (2 ^ q) := fun h => by have := (nI_eq (a := 2 ^ (q + less)) (b := 2 ^ q) (by omega) (by omega)).mp h; omega
  refine lv_aload_n hx hb dX2_add_3_32 rfl (lv_at hl 0 rfl) ?_
  refine va_alen (v := nI (2 ^ (q + less))) hx hb hK.1 hP d2 2 (hd) rfl rfl dX2_add_3_33 ?_
  refine lv_aload_n hx hb dX2_add_3_34 rfl (lv_at hl 1 rfl) ?_
  refine va_get (D := D) (ci := 2) (v := .ref st) (C := RX2) (T := TX2) (N := 1) hx hb hts in_X2 hown hK.1 hP a (ha) rfl 0 (by decide) (hts _ q115) (fun _ h9 => h9) rfl dX2_add_3_35 ?_
  refine va_alen (v := nI (2 ^ q)) hx hb hK.1 hP b 2 (hb1) rfl rfl dX2_add_3_38 ?_
  refine lv_icmp_ne (tgt := 96) hx hb dX2_add_3_39 (by decide) (fun c39 => ?_) (fun c39 => absurd c39 (hne))
  refine lv_aload_n hx hb dX2_add_3_96 rfl (lv_at hl 1 rfl) ?_
  refine vp_callSi (W.runV (As := []) (rest := []) ⟨hx, hb, hml, hown, hts⟩ (met_getP l D t ws a b h0 st q M h6 ha hb1) (cwV 0 hts (lw_V q295 q154 q155 q8 q156) rfl rfl rfl (by decide +kernel) ⟨Nat.le_of_ble_eq_true rfl, Nat.le_of_ble_eq_true rfl⟩) (preV_r a 2 hK hP rfl ha) rfl rfl hl.1 rfl (lv_room (Nat.le_of_ble_eq_true rfl)) dX2_add_3_97 ⟨Nat.le_of_ble_eq_true rfl, Nat.le_of_ble_eq_true rfl⟩) (fun r97 e97 => ?_)
  obtain rfl : r97 = (nI q) := e97
  refine lv_istore_n (lv' := [(3, .int (nI q)), (2, .ref so), (0, .ref h0), (1, .ref g0)]) hx hb dX2_add_3_100 rfl hl (by decide) rfl (fun ls hl => ?_)
  refine lv_aload_n hx hb dX2_add_3_101 rfl (lv_at hl 3 rfl) ?_
  refine vp_callSi (W.runV (As := []) (rest := []) ⟨hx, hb, hml, hown, hts⟩ (met_getP l D t ws c2 d2 g0 so (q + less) N h6b hc hd) (cwV 0 hts (lw_V q295 q154 q155 q8 q156) rfl rfl rfl (by decide +kernel) ⟨Nat.le_of_ble_eq_true rfl, Nat.le_of_ble_eq_true rfl⟩) (preV_r c2 2 hK hP rfl hc) rfl rfl hl.1 rfl (lv_room (Nat.le_of_ble_eq_true rfl)) dX2_add_3_102 ⟨Nat.le_of_ble_eq_true rfl, Nat.le_of_ble_eq_true rfl⟩) (fun r102 e102 => ?_)
  obtain rfl : r102 = (nI (q + less)) := e102
  refine lv_istore (lv' := [(4, .int (nI (q + less))), (3, .int (nI q)), (2, .ref so), (0, .ref h0), (1, .ref g0)]) hx hb dX2_add_3_105 hl (by decide) rfl (fun ls hl => ?_)
  refine lv_iload hx hb dX2_add_3_107 (lv_at hl 0 rfl) ?_
  refine lv_iconst (v := (nI 1)) hx hb dX2_add_3_109 (by decide) ?_
  refine lv_isub hx hb dX2_add_3_110 ?_
  refine lv_topi (fun v110 e110 => ?_)
  obtain rfl : v110 = (nI (q + less - 1)) := by rw [e110]; exact pk_sub (by omega)
  refine lv_istore (lv' := [(5, .int (nI (q + less - 1))), (4, .int (nI (q + less))), (3, .int (nI q)), (2, .ref so), (0, .ref h0), (1, .ref g0)]) hx hb dX2_add_3_111 hl (by decide) rfl (fun ls hl => ?_)
  refine lv_lconst (v := (lN 1)) hx hb dX2_add_3_113 (by decide) ?_
  refine lv_iload hx hb dX2_add_3_114 (lv_at hl 1 rfl) ?_
  refine lv_iload_n hx hb dX2_add_3_116 rfl (lv_at hl 2 rfl) ?_
  refine lv_isub hx hb dX2_add_3_117 ?_
  refine lv_topi (fun v117 e117 => ?_)
  obtain rfl : v117 = (nI less) := by rw [e117, pk_sub (by omega), Nat.add_sub_cancel_left]
  refine lv_lshl hx hb dX2_add_3_118 rfl ?_
  refine lv_topl (fun v118 e118 => ?_)
  obtain rfl : v118 = (lN (2 ^ less)) := by rw [e118]; exact (wb_shl 1 (by omega)).trans (congrArg lN (Nat.one_mul _))
  refine lv_lstore (lv' := [(6, .long (lN (2 ^ less))), (5, .int (nI (q + less - 1))), (4, .int (nI (q + less))), (3, .int (nI q)), (2, .ref so), (0, .ref h0), (1, .ref g0)]) hx hb dX2_add_3_119 hl (by decide) rfl (fun ls hl => ?_)
  refine lv_iconst (v := (nI 0)) hx hb dX2_add_3_121 (by decide) ?_
  refine lv_istore (lv' := [(8, .int (nI 0)), (6, .long (lN (2 ^ less))), (5, .int (nI (q + less - 1))), (4, .int (nI (q + less))), (3, .int (nI q)), (2, .ref so), (0, .ref h0), (1, .ref g0)]) hx hb dX2_add_3_122 hl (by decide) rfl (fun ls hl => ?_)
  refine lv_iconst (v := (nI 0)) hx hb dX2_add_3_124 (by decide) ?_
  refine lv_istore (lv' := [(9, .int (nI 0)), (8, .int (nI 0)), (6, .long (lN (2 ^ less))), (5, .int (nI (q + less - 1))), (4, .int (nI (q + less))), (3, .int (nI q)), (2, .ref so), (0, .ref h0), (1, .ref g0)]) hx hb dX2_add_3_125 hl (by decide) rfl (fun ls hl => ?_)
  refine W_loop (nL := 14) (fun (i2 : Nat) H1 L1 => i2 ≤ 2 ^ q ∧ va_P D vwCl (ws.set b (st, .inl (t 2, 2 ^ q, .inl (rgs (upto i2 M (fun i => M i ||| dn (q + less) less N i)))))) H1 ∧ va_D (va_A ws s.heap.size) (ws.set b (st, .inl (t 2, 2 ^ q, .inl (rgs (upto i2 M (fun i => M i ||| dn (q + less) less N i)))))) ∧ va_S (va_A ws s.heap.size) s.heap H1 L1) (fun i2 => [(9, .int (nI i2)), (8, .int (nI (i2 * 2 ^ less))), (6, .long (lN (2 ^ less))), (5, .int (nI (q + less - 1))), (2, .ref so), (0, .ref h0), (1, .ref g0)]) (fun i2 => 2 ^ q - i2) (fun _ => 0) (fun _ => 0) (fun i2 H locs ls hI hl ih => ?_) 0 ⟨Nat.zero_le _, by rw [upto_0, ws_id hb1]; exact hP, by rw [upto_0, ws_id hb1]; exact hD, hS⟩ (by have hl9 : lv_has ls 14 [(9, .int (nI 0)), (8, .int (nI 0)), (6, .long (lN (2 ^ less))), (5, .int (nI (q + less - 1))), (2, .ref so), (0, .ref h0), (1, .ref g0)] := lv_sub hl [0, 1, 2, 3, 6, 7, 8] rfl; simpa only [Nat.zero_mul] using hl9)
  obtain ⟨hbq, hP, hD, hS⟩ := hI
  have hl : lv_has ls 14 [(9, .int (nI i2)), (8, .int (nI (i2 * 2 ^ less))), (6, .long (lN (2 ^ less))), (5, .int (nI (q + less - 1))), (2, .ref so), (0, .ref h0), (1, .ref g0)] := hl
  refine lv_iload hx hb dX2_add_3_127 (lv_at hl 0 rfl) ?_
  refine lv_aload_n hx hb dX2_add_3_129 rfl (lv_at hl 5 rfl) ?_
  refine va_get (D := D) (ci := 2) (v := .ref st) (C := RX2) (T := TX2) (N := 1) hx hb hts in_X2 hown hK.1 hP a ((ws_ne hab ha)) rfl 0 (by decide) (hts _ q115) (fun _ h9 => h9) rfl dX2_add_3_130 ?_
  refine va_alen (v := nI (2 ^ q)) hx hb hK.1 hP b 2 ((ws_eq hb1)) rfl rfl dX2_add_3_133 ?_
  refine lv_icmp_ge (tgt := 230) hx hb dX2_add_3_134 (by decide) (fun c134 => ?_) (fun c134 => ?_)
  · have hcc : i2 = 2 ^ q := by have := (nI_leI (by omega) (by omega)).mp c134; omega
    subst hcc
    refine lv_aload_n hx hb dX2_add_3_230 rfl (lv_at hl 5 rfl) ?_
    have hP : va_P D vwCl (ws.set b (st, .inl (t 2, 2 ^ q, .inl (rgs (fun i => M i ||| dn (q + less) less N i))))) H := va_P.chg hP (cell_i fun i hi => by show sb (rg (upto _ M (fun i => M i ||| dn (q + less) less N i) i)) = _; rw [upto_in hi]; rfl)
    have hD : va_D (va_A ws s.heap.size) (ws.set b (st, .inl (t 2, 2 ^ q, .inl (rgs (fun i => M i ||| dn (q + less) less N i))))) := D_chg hD hb1
    exact W.aret (v := .ref h0) hx hb hr (Or.inl ⟨_, rfl⟩) (Or.inr ⟨_, rfl⟩) (fun t ht hW => ⟨⟨(), h0, rfl, trivial, rfl, by rw [ht]; exact hP, hD⟩, hS.F ht⟩) hS.2.2 dX2_add_3_231
  · have hlt : i2 < 2 ^ q := by rcases Nat.lt_or_ge i2 (2 ^ q) with h | h; exact h; exact absurd (nI_le h (by omega)) c134
    have hj0 := blk_lt (less := less) (c := 0) hlt hpl
    have hrm := rg_lt (hM i2).1 (hM i2).2
    have hrn := rg_lt (hN (i2 * 2 ^ less)).1 (hN (i2 * 2 ^ less)).2
    refine lv_aload_n hx hb dX2_add_3_137 rfl (lv_at hl 5 rfl) ?_
    refine va_get (D := D) (ci := 2) (v := .ref st) (C := RX2) (T := TX2) (N := 1) hx hb hts in_X2 hown hK.1 hP a ((ws_ne hab ha)) rfl 0 (by decide) (hts _ q115) (fun _ h9 => h9) rfl dX2_add_3_138 ?_
    refine lv_iload hx hb dX2_add_3_141 (lv_at hl 0 rfl) ?_
    refine xr_bald hx hb hK.1 hP b 2 ((ws_eq hb1)) rfl (hlt) (by omega) (v := (sb (rg (M i2)))) (congrArg (fun z => sb (rg z)) (upto_at _ _ _)) dX2_add_3_143 ?_
    refine vp_callSl (W.runS (As := [.int (sb (rg (M i2)))]) (rest := []) ⟨hx, hb, hml, hown, hts⟩ (met_unpack l (rg (M i2)) hrm.1 hrm.2) (va_cwS 1 hts (lw_S q216 q217 q8 q218) rfl rfl rfl (by decide +kernel) ⟨Nat.le_of_ble_eq_true rfl, Nat.le_of_ble_eq_true rfl⟩) (preS_p) rfl rfl hl.1 rfl (lv_room (Nat.le_of_ble_eq_true rfl)) dX2_add_3_144 ⟨Nat.le_of_ble_eq_true rfl, Nat.le_of_ble_eq_true rfl⟩) (fun r144 e144 => ?_)
    obtain rfl : r144 = (lN (unp (rg (M i2)))) := e144
    rw [unp_rg (hM i2).2]
    refine lv_aload_n hx hb dX2_add_3_147 rfl (lv_at hl 4 rfl) ?_
    refine lv_iload hx hb dX2_add_3_148 (lv_at hl 1 rfl) ?_
    refine xr_bald hx hb hK.1 hP d2 2 ((ws_ne hdb hd)) rfl (by omega) (by omega) (v := (sb (rg (N (i2 * 2 ^ less))))) (rfl) dX2_add_3_150 ?_
    refine vp_callSl (W.runS (As := [.int (sb (rg (N (i2 * 2 ^ less))))]) (rest := [.long (lN (win (M i2)))]) ⟨hx, hb, hml, hown, hts⟩ (met_unpack l (rg (N (i2 * 2 ^ less))) hrn.1 hrn.2) (va_cwS 1 hts (lw_S q216 q217 q8 q218) rfl rfl rfl (by decide +kernel) ⟨Nat.le_of_ble_eq_true rfl, Nat.le_of_ble_eq_true rfl⟩) (preS_p) rfl rfl hl.1 rfl (lv_room (Nat.le_of_ble_eq_true rfl)) dX2_add_3_151 ⟨Nat.le_of_ble_eq_true rfl, Nat.le_of_ble_eq_true rfl⟩) (fun r151 e151 => ?_)
    obtain rfl : r151 = (lN (unp (rg (N (i2 * 2 ^ less))))) := e151
    rw [unp_rg (hN (i2 * 2 ^ less)).2]
    refine lv_lor hx hb dX2_add_3_154 ?_
    refine lv_topl (fun v154 e154 => ?_)
    obtain rfl : v154 = (lN (win (M i2) ||| (win (N (i2 * 2 ^ less)) ||| 0))) := by rw [e154, Nat.or_zero]; exact wb_or (win_ok (hM i2)).1 (win_ok (hN _)).1
    refine lv_lstore (lv' := [(10, .long (lN (win (M i2) ||| (win (N (i2 * 2 ^ less)) ||| 0)))), (9, .int (nI i2)), (8, .int (nI (i2 * 2 ^ less))), (6, .long (lN (2 ^ less))), (5, .int (nI (q + less - 1))), (2, .ref so), (0, .ref h0), (1, .ref g0)]) hx hb dX2_add_3_155 hl (by decide) rfl (fun ls hl => ?_)
    refine lv_iinc (v := (nI (i2 * 2 ^ less + 1))) (lv' := [(8, .int (nI (i2 * 2 ^ less + 1))), (10, .long (lN (win (M i2) ||| (win (N (i2 * 2 ^ less)) ||| 0)))), (9, .int (nI i2)), (6, .long (lN (2 ^ less))), (5, .int (nI (q + less - 1))), (2, .ref so), (0, .ref h0), (1, .ref g0)]) hx hb dX2_add_3_157 hl (k := 2) rfl (nI_1 _) (by decide) rfl (fun ls hl => ?_)
    refine lv_lconst (v := (lN 1)) hx hb dX2_add_3_160 (by decide) ?_
    refine lv_lstore (lv' := [(12, .long (lN 1)), (8, .int (nI (i2 * 2 ^ less + 1))), (10, .long (lN (win (M i2) ||| (win (N (i2 * 2 ^ less)) ||| 0)))), (9, .int (nI i2)), (6, .long (lN (2 ^ less))), (5, .int (nI (q + less - 1))), (2, .ref so), (0, .ref h0), (1, .ref g0)]) hx hb dX2_add_3_161 hl (by decide) rfl (fun ls hl => ?_)
    refine W_loop (nL := 14) (fun (c3 : Nat) H1 L1 => (1 ≤ c3 ∧ c3 ≤ 2 ^ less) ∧ H = H1 ∧ locs = L1) (fun c3 => [(12, .long (lN c3)), (8, .int (nI ((i2 * 2 ^ less) + c3))), (10, .long (lN (win (M i2) ||| (win (N (i2 * 2 ^ less)) ||| (rsS (q + less) less N i2 c3))))), (9, .int (nI i2)), (6, .long (lN (2 ^ less))), (5, .int (nI (q + less - 1))), (2, .ref so), (0, .ref h0), (1, .ref g0)]) (fun c3 => 2 ^ less - c3) (fun _ => 0) (fun _ => 0) (fun c3 H1 L1 ls hI hl ih2 => ?_) 1 ⟨⟨Nat.le_refl _, hpl⟩, rfl, rfl⟩ (lv_sub hl [0, 1, 2, 3, 4, 5, 6, 7, 8] rfl)
    obtain ⟨⟨hc1, hc2⟩, rfl, rfl⟩ := hI
    have hl : lv_has ls 14 [(12, .long (lN c3)), (8, .int (nI ((i2 * 2 ^ less) + c3))), (10, .long (lN (win (M i2) ||| (win (N (i2 * 2 ^ less)) ||| (rsS (q + less) less N i2 c3))))), (9, .int (nI i2)), (6, .long (lN (2 ^ less))), (5, .int (nI (q + less - 1))), (2, .ref so), (0, .ref h0), (1, .ref g0)] := hl
    have hrs := rsS_ok hN (q := q + less) (less := less) (by omega) (by omega) i2 c3
    have hhp := okn_or (win_ok (hM i2)) (okn_or (win_ok (hN (i2 * 2 ^ less))) hrs)
    refine lv_lload hx hb dX2_add_3_163 (lv_at hl 0 rfl) ?_
    refine lv_lload hx hb dX2_add_3_165 (lv_at hl 4 rfl) ?_
    refine W.lcmp hx hb dX2_add_3_167 ?_
    refine lv_topi (fun v167 e167 => ?_)
    refine lv_if_ge (tgt := 205) hx hb dX2_add_3_168 (by decide) (fun c168 => ?_) (fun c168 => ?_)
    · have hcc : c3 = 2 ^ less := by have := (lN_le (a := 2 ^ less) (b := c3) (by omega) (by omega)).mp ((lg_cmp_ge _ _).mp (by rw [← e167]; exact c168)); omega
      subst hcc
      refine lv_lload hx hb dX2_add_3_205 (lv_at hl 2 rfl) ?_
      refine lv_lconst (v := (lN 0)) hx hb dX2_add_3_207 (by decide) ?_
      refine W.lcmp hx hb dX2_add_3_208 ?_
      refine lv_topi (fun v208 e208 => ?_)
      refine lv_if_eq (tgt := 224) hx hb dX2_add_3_209 (by decide) (fun c209 => ?_) (fun c209 => ?_)
      · have hz0 : (win (M i2) ||| (win (N (i2 * 2 ^ less)) ||| (rsS (q + less) less N i2 (2 ^ less)))) = 0 := (lN_eq64 hhp.1 (by decide)).mp ((lg_cmp_eq _ _).mp (by rw [← e208]; exact c209))
        have hup : upto (i2 + 1) M (fun i => M i ||| dn (q + less) less N i) = upto i2 M (fun i => M i ||| dn (q + less) less N i) := upto_eq (uni_zero hM hN hz0)
        refine lv_iinc (v := (nI (i2 + 1))) (lv' := [(9, .int (nI (i2 + 1))), (12, .long (lN (2 ^ less))), (8, .int (nI ((i2 * 2 ^ less) + 2 ^ less))), (10, .long (lN (win (M i2) ||| (win (N (i2 * 2 ^ less)) ||| (rsS (q + less) less N i2 (2 ^ less)))))), (6, .long (lN (2 ^ less))), (5, .int (nI (q + less - 1))), (2, .ref so), (0, .ref h0), (1, .ref g0)]) hx hb dX2_add_3_224 hl (k := 3) rfl (nI_1 i2) (by decide) rfl (fun ls hl => ?_)
        refine lv_goto (tgt := 127) hx hb dX2_add_3_227 (by decide) ?_
        have e8 : i2 * 2 ^ less + 2 ^ less = (i2 + 1) * 2 ^ less := by rw [Nat.succ_mul]
        rw [e8] at hl
        exact ih (i2 + 1) _ _ ls (by omega) ⟨hlt, by rw [hup]; exact hP, by rw [hup]; exact hD, hS⟩ (lv_sub hl [0, 2, 4, 5, 6, 7, 8] rfl)
      · have hn0 : (win (M i2) ||| (win (N (i2 * 2 ^ less)) ||| (rsS (q + less) less N i2 (2 ^ less)))) ≠ 0 := fun h => c209 (by rw [e208, h]; exact (lg_cmp_eq _ _).mpr rfl)
        have hor4 : 4 ≤ (win (M i2) ||| (win (N (i2 * 2 ^ less)) ||| (rsS (q + less) less N i2 (2 ^ less)))) := by rcases hhp.2 with h | h; exact absurd h hn0; exact h
        have hor2 := okn_or (hM i2) (dn_ok hN (q := q + less) (less := less) (by omega) (by omega) i2)
        refine lv_aload_n hx hb dX2_add_3_212 rfl (lv_at hl 7 rfl) ?_
        refine va_get (D := D) (ci := 2) (v := .ref st) (C := RX2) (T := TX2) (N := 1) hx hb hts in_X2 hown hK.1 hP a ((ws_ne hab ha)) rfl 0 (by decide) (hts _ q115) (fun _ h9 => h9) rfl dX2_add_3_213 ?_
        refine lv_iload hx hb dX2_add_3_216 (lv_at hl 3 rfl) ?_
        refine lv_lload hx hb dX2_add_3_218 (lv_at hl 2 rfl) ?_
        refine vp_callSi (W.runS (As := [.long (lN (win (M i2) ||| (win (N (i2 * 2 ^ less)) ||| (rsS (q + less) less N i2 (2 ^ less)))))]) (rest := [.int (nI i2), .ref st]) ⟨hx, hb, hml, hown, hts⟩ (met_pack l (win (M i2) ||| (win (N (i2 * 2 ^ less)) ||| (rsS (q + less) less N i2 (2 ^ less)))) hhp.1 hor4) (va_cwS 1 hts (lw_S q220 q221 q8 q222) rfl rfl rfl (by decide +kernel) ⟨Nat.le_of_ble_eq_true rfl, Nat.le_of_ble_eq_true rfl⟩) (preS_p) rfl rfl hl.1 rfl (lv_room (Nat.le_of_ble_eq_true rfl)) dX2_add_3_220 ⟨Nat.le_of_ble_eq_true rfl, Nat.le_of_ble_eq_true rfl⟩) (fun r220 e220 => ?_)
        obtain rfl : r220 = (sb (rg (win (M i2) ||| (win (N (i2 * 2 ^ less)) ||| (rsS (q + less) less N i2 (2 ^ less)))))) := e220
        rw [uni_rg hM hN]
        refine xr_bast hx hb hK.1 hP hD hS b 2 (rgs (upto (i2 + 1) M (fun i => M i ||| dn (q + less) less N i))) ((ws_eq hb1)) rfl (hlt) (by omega) (fun i hi => by
            show (if i = i2 then (sb (rg (M i2 ||| dn (q + less) less N i2))).toInt8.toInt32 else sb (rg (upto i2 M (fun i => M i ||| dn (q + less) less N i) i))) = sb (rg (upto (i2 + 1) M (fun i => M i ||| dn (q + less) less N i) i))
            rw [upto_s]
            by_cases hii : i = i2
            · rw [if_pos hii, if_pos hii, sb_byte8 _ (rg_lt hor2.1 hor2.2).1]
            · rw [if_neg hii, if_neg hii]) dX2_add_3_223 (fun H locs hP hD hS => ?_)
        have hP : va_P D vwCl (ws.set b (st, .inl (t 2, 2 ^ q, .inl (rgs (upto (i2 + 1) M (fun i => M i ||| dn (q + less) less N i)))))) H := by rw [ws_ss] at hP; exact hP
        have hD : va_D (va_A ws s.heap.size) (ws.set b (st, .inl (t 2, 2 ^ q, .inl (rgs (upto (i2 + 1) M (fun i => M i ||| dn (q + less) less N i)))))) := by rw [ws_ss] at hD; exact hD
        refine lv_iinc (v := (nI (i2 + 1))) (lv' := [(9, .int (nI (i2 + 1))), (12, .long (lN (2 ^ less))), (8, .int (nI ((i2 * 2 ^ less) + 2 ^ less))), (10, .long (lN (win (M i2) ||| (win (N (i2 * 2 ^ less)) ||| (rsS (q + less) less N i2 (2 ^ less)))))), (6, .long (lN (2 ^ less))), (5, .int (nI (q + less - 1))), (2, .ref so), (0, .ref h0), (1, .ref g0)]) hx hb dX2_add_3_224 hl (k := 3) rfl (nI_1 i2) (by decide) rfl (fun ls hl => ?_)
        refine lv_goto (tgt := 127) hx hb dX2_add_3_227 (by decide) ?_
        have e8 : i2 * 2 ^ less + 2 ^ less = (i2 + 1) * 2 ^ less := by rw [Nat.succ_mul]
        rw [e8] at hl
        exact ih (i2 + 1) _ _ ls (by omega) ⟨hlt, hP, hD, hS⟩ (lv_sub hl [0, 2, 4, 5, 6, 7, 8] rfl)
    · have hclt : c3 < 2 ^ less := by rcases Nat.lt_or_ge c3 (2 ^ less) with h | h; exact h; exact absurd (by rw [e167]; exact (lg_cmp_ge _ _).mpr ((lN_le (a := 2 ^ less) (b := c3) (by omega) (by omega)).mpr h)) c168
      have hjc := blk_lt hlt hclt
      have hrc := rg_lt (hN (i2 * 2 ^ less + c3)).1 (hN (i2 * 2 ^ less + c3)).2
      refine lv_aload_n hx hb dX2_add_3_171 rfl (lv_at hl 6 rfl) ?_
      refine lv_iload hx hb dX2_add_3_172 (lv_at hl 1 rfl) ?_
      refine xr_bald hx hb hK.1 hP d2 2 ((ws_ne hdb hd)) rfl (hjc) (by omega) (v := (sb (rg (N ((i2 * 2 ^ less) + c3))))) (rfl) dX2_add_3_174 ?_
      refine lv_if_eq (tgt := 193) hx hb dX2_add_3_175 (by decide) (fun c175 => ?_) (fun c175 => ?_)
      · have hz0 : N (i2 * 2 ^ less + c3) = 0 := (rg_0 (hN _).2).mp ((sb_eq0 _ hrc.1).mp c175)
        refine lv_iinc (v := (nI (i2 * 2 ^ less + (c3 + 1)))) (lv' := [(8, .int (nI (i2 * 2 ^ less + (c3 + 1)))), (12, .long (lN c3)), (10, .long (lN (win (M i2) ||| (win (N (i2 * 2 ^ less)) ||| (rsS (q + less) less N i2 c3))))), (9, .int (nI i2)), (6, .long (lN (2 ^ less))), (5, .int (nI (q + less - 1))), (2, .ref so), (0, .ref h0), (1, .ref g0)]) hx hb dX2_add_3_193 hl (k := 1) rfl (nI_1 _) (by decide) rfl (fun ls hl => ?_)
        refine lv_lload hx hb dX2_add_3_196 (lv_at hl 1 rfl) ?_
        refine lv_lconst (v := (lN 1)) hx hb dX2_add_3_198 (by decide) ?_
        refine lv_ladd hx hb dX2_add_3_199 ?_
        refine lv_topl (fun v199 e199 => ?_)
        obtain rfl : v199 = (lN (c3 + 1)) := by rw [e199]; exact lN_1 _
        refine lv_lstore (lv' := [(12, .long (lN (c3 + 1))), (8, .int (nI (i2 * 2 ^ less + (c3 + 1)))), (10, .long (lN (win (M i2) ||| (win (N (i2 * 2 ^ less)) ||| (rsS (q + less) less N i2 c3))))), (9, .int (nI i2)), (6, .long (lN (2 ^ less))), (5, .int (nI (q + less - 1))), (2, .ref so), (0, .ref h0), (1, .ref g0)]) hx hb dX2_add_3_200 hl (by decide) rfl (fun ls hl => ?_)
        refine lv_goto (tgt := 163) hx hb dX2_add_3_202 (by decide) ?_
        have hl : lv_has ls 14 [(12, .long (lN (c3 + 1))), (8, .int (nI (i2 * 2 ^ less + (c3 + 1)))), (10, .long (lN (win (M i2) ||| (win (N (i2 * 2 ^ less)) ||| (rsS (q + less) less N i2 (c3 + 1)))))), (9, .int (nI i2)), (6, .long (lN (2 ^ less))), (5, .int (nI (q + less - 1))), (2, .ref so), (0, .ref h0), (1, .ref g0)] := by rw [rs_step hc1, ctr_zero hz0, Nat.or_zero]; exact hl
        exact ih2 (c3 + 1) _ _ ls (by omega) ⟨⟨by omega, hclt⟩, rfl, rfl⟩ (lv_sub hl [0, 1, 2, 3, 4, 5, 6, 7, 8] rfl)
      · have hn0 : N (i2 * 2 ^ less + c3) ≠ 0 := fun h => c175 (by rw [h]; decide +kernel)
        have hlc : c3.log2 < less := l2_lt (by omega) hclt
        refine lv_lload hx hb dX2_add_3_178 (lv_at hl 2 rfl) ?_
        refine lv_lconst (v := (lN 1)) hx hb dX2_add_3_180 (by decide) ?_
        refine lv_lload hx hb dX2_add_3_181 (lv_at hl 0 rfl) ?_
        refine vp_callSi (W.runS (As := [.long (lN c3)]) (rest := [.long (lN 1), .long (lN (win (M i2) ||| (win (N (i2 * 2 ^ less)) ||| (rsS (q + less) less N i2 c3))))]) ⟨hx, hb, hml, hown, hts⟩ (met_nlzL l c3 (by omega)) (va_cwS 1 hts (lw_S q211 q212 q16 q213) rfl rfl rfl (by decide +kernel) ⟨Nat.le_of_ble_eq_true rfl, Nat.le_of_ble_eq_true rfl⟩) (preS_p) rfl rfl hl.1 rfl (lv_room (Nat.le_of_ble_eq_true rfl)) dX2_add_3_183 ⟨Nat.le_of_ble_eq_true rfl, Nat.le_of_ble_eq_true rfl⟩) (fun r183 e183 => ?_)
        obtain rfl : r183 = (nI (clz64 c3)) := e183
        have hcz : clz64 c3 = 63 - c3.log2 := by unfold clz64; rw [if_neg (by omega)]
        rw [hcz]
        refine lv_iload hx hb dX2_add_3_186 (lv_at hl 5 rfl) ?_
        refine lv_iadd hx hb dX2_add_3_188 ?_
        refine lv_topi (fun v188 e188 => ?_)
        obtain rfl : v188 = (nI (63 - c3.log2 + (q + less - 1))) := by rw [e188]; exact nI_add _ _
        refine lv_lshl hx hb dX2_add_3_189 rfl ?_
        refine lv_topl (fun v189 e189 => ?_)
        obtain rfl : v189 = (lN (2 ^ (q + less - 2 - c3.log2))) := by rw [e189, sh_k (q + less) (by omega) c3.log2 (by omega) (by omega), ← wb_c (q + less - 2 - c3.log2) (by omega), wb_shl _ (by omega)]; exact congrArg lN (Nat.one_mul _)
        refine lv_lor hx hb dX2_add_3_190 ?_
        refine lv_topl (fun v190 e190 => ?_)
        obtain rfl : v190 = (lN ((win (M i2) ||| (win (N (i2 * 2 ^ less)) ||| (rsS (q + less) less N i2 c3))) ||| 2 ^ (q + less - 2 - c3.log2))) := by rw [e190]; exact wb_or hhp.1 (okn_pw (by omega) (by omega)).1
        refine lv_lstore (lv' := [(10, .long (lN ((win (M i2) ||| (win (N (i2 * 2 ^ less)) ||| (rsS (q + less) less N i2 c3))) ||| 2 ^ (q + less - 2 - c3.log2)))), (12, .long (lN c3)), (8, .int (nI ((i2 * 2 ^ less) + c3))), (9, .int (nI i2)), (6, .long (lN (2 ^ less))), (5, .int (nI (q + less - 1))), (2, .ref so), (0, .ref h0), (1, .ref g0)]) hx hb dX2_add_3_191 hl (by decide) rfl (fun ls hl => ?_)
        refine lv_iinc (v := (nI (i2 * 2 ^ less + (c3 + 1)))) (lv' := [(8, .int (nI (i2 * 2 ^ less + (c3 + 1)))), (10, .long (lN ((win (M i2) ||| (win (N (i2 * 2 ^ less)) ||| (rsS (q + less) less N i2 c3))) ||| 2 ^ (q + less - 2 - c3.log2)))), (12, .long (lN c3)), (9, .int (nI i2)), (6, .long (lN (2 ^ less))), (5, .int (nI (q + less - 1))), (2, .ref so), (0, .ref h0), (1, .ref g0)]) hx hb dX2_add_3_193 hl (k := 2) rfl (nI_1 _) (by decide) rfl (fun ls hl => ?_)
        refine lv_lload hx hb dX2_add_3_196 (lv_at hl 2 rfl) ?_
        refine lv_lconst (v := (lN 1)) hx hb dX2_add_3_198 (by decide) ?_
        refine lv_ladd hx hb dX2_add_3_199 ?_
        refine lv_topl (fun v199 e199 => ?_)
        obtain rfl : v199 = (lN (c3 + 1)) := by rw [e199]; exact lN_1 _
        refine lv_lstore (lv' := [(12, .long (lN (c3 + 1))), (8, .int (nI (i2 * 2 ^ less + (c3 + 1)))), (10, .long (lN ((win (M i2) ||| (win (N (i2 * 2 ^ less)) ||| (rsS (q + less) less N i2 c3))) ||| 2 ^ (q + less - 2 - c3.log2)))), (9, .int (nI i2)), (6, .long (lN (2 ^ less))), (5, .int (nI (q + less - 1))), (2, .ref so), (0, .ref h0), (1, .ref g0)]) hx hb dX2_add_3_200 hl (by decide) rfl (fun ls hl => ?_)
        refine lv_goto (tgt := 163) hx hb dX2_add_3_202 (by decide) ?_
        have hl : lv_has ls 14 [(12, .long (lN (c3 + 1))), (8, .int (nI (i2 * 2 ^ less + (c3 + 1)))), (10, .long (lN (win (M i2) ||| (win (N (i2 * 2 ^ less)) ||| (rsS (q + less) less N i2 (c3 + 1)))))), (9, .int (nI i2)), (6, .long (lN (2 ^ less))), (5, .int (nI (q + less - 1))), (2, .ref so), (0, .ref h0), (1, .ref g0)] := by rw [rs_step hc1, ctr_in hn0 hc1 hclt, ← Nat.or_assoc (win (N _)), ← Nat.or_assoc (win (M _))]; exact hl
        exact ih2 (c3 + 1) _ _ ls (by omega) ⟨⟨by omega, hclt⟩, rfl, rfl⟩ (lv_sub hl [0, 1, 2, 3, 4, 5, 6, 7, 8] rfl)
end
section
/-! THE WORLD OF THE LAW: fourteen cells, the address of cell k is ad k: 0 the law, 1 p, 2 marks, 3..5 its rows, 6 the desk, 7 rows, 8..10 the sketches, 11..13 their states -/
set_option maxRecDepth 100000
abbrev cL (t : Nat → ClassId) (q : Nat) (m : Nat → Nat) : va_E := .inl (t 1, 2 ^ q, .inr (.inl (fun i => lN (m i))))
abbrev cB (t : Nat → ClassId) (q : Nat) (m : Nat → Nat) : va_E := .inl (t 2, 2 ^ q, .inl (rgs m))
abbrev cR (c : ClassId) (g : Nat → Option Nat) : va_E := .inl (c, 3, .inr (.inr (.inr (.inr g))))
def ref3 (x y z : Nat) : Nat → Option Nat := fun j => if j = 0 then some x else if j = 1 then some y else some z
def WW (t : Nat → ClassId) (ad : Nat → Nat) (pA pL : Nat → Nat) (mL : Nat → Nat → Nat) (pD : Nat → Nat) (mD : Nat → Nat → Nat) : va_W :=
  [(ad 0, .inr (0, [.ref (ad 6), .ref (ad 1), .ref (ad 2)])), (ad 1, .inl (t 0, 3, .inl (fun j => nI (pA j)))), (ad 2, cR (t 4) (ref3 (ad 3) (ad 4) (ad 5))),
   (ad 3, cL t (pL 0) (mL 0)), (ad 4, cL t (pL 1) (mL 1)), (ad 5, cL t (pL 2) (mL 2)),
   (ad 6, .inr (1, [.ref (ad 7)])), (ad 7, cR (t 3) (ref3 (ad 8) (ad 9) (ad 10))),
   (ad 8, .inr (2, [.ref (ad 11)])), (ad 9, .inr (2, [.ref (ad 12)])), (ad 10, .inr (2, [.ref (ad 13)])),
   (ad 11, cB t (pD 0) (mD 0)), (ad 12, cB t (pD 1) (mD 1)), (ad 13, cB t (pD 2) (mD 2))]
section WWs
variable {t : Nat → ClassId} {ad : Nat → Nat} {pA pL : Nat → Nat} {mL : Nat → Nat → Nat} {pD : Nat → Nat} {mD : Nat → Nat → Nat}
theorem j3 {j : Nat} (h : j < 3) : j = 0 ∨ j = 1 ∨ j = 2 := by omega
theorem WW_len : (WW t ad pA pL mL pD mD).length = 14 := rfl
theorem WW_m {j : Nat} (h : j < 3) : (WW t ad pA pL mL pD mD)[3 + j]? = some (ad (3 + j), cL t (pL j) (mL j)) := by
  rcases j3 h with rfl | rfl | rfl <;> rfl
theorem WW_u {j : Nat} (h : j < 3) : (WW t ad pA pL mL pD mD)[8 + j]? = some (ad (8 + j), .inr (2, [.ref (ad (11 + j))])) := by
  rcases j3 h with rfl | rfl | rfl <;> rfl
theorem WW_b {j : Nat} (h : j < 3) : (WW t ad pA pL mL pD mD)[11 + j]? = some (ad (11 + j), cB t (pD j) (mD j)) := by
  rcases j3 h with rfl | rfl | rfl <;> rfl
theorem WW_setb {j : Nat} (h : j < 3) (m : Nat → Nat) : (WW t ad pA pL mL pD mD).set (11 + j) (ad (11 + j), cB t (pD j) m) = WW t ad pA pL mL pD (va_up mD j m) := by
  rcases j3 h with rfl | rfl | rfl <;> rfl
theorem WW_setm {j : Nat} (h : j < 3) (m : Nat → Nat) : (WW t ad pA pL mL pD mD).set (3 + j) (ad (3 + j), cL t (pL j) m) = WW t ad pA pL (va_up mL j m) pD mD := by
  rcases j3 h with rfl | rfl | rfl <;> rfl
theorem WW_setp (p2 : Nat → Nat) : (WW t ad pA pL mL pD mD).set 1 (ad 1, .inl (t 0, 3, .inl (fun j => nI (p2 j)))) = WW t ad p2 pL mL pD mD := rfl
/-- a new sketch in a row: its two cells instead of the old ones -/
def adR (ad : Nat → Nat) (j z s : Nat) : Nat → Nat := fun k => if k = 8 + j then z else if k = 11 + j then s else ad k
theorem WW_row {j z s q : Nat} (h : j < 3) (m : Nat → Nat) : ∀ (k : Nat) (x : Nat × va_E), (WW t (adR ad j z s) pA pL mL (va_up pD j q) (va_up mD j m))[k]? = some x →
    ((WW t ad pA pL mL pD mD ++ [(z, .inr (2, [.ref s])), (s, cB t q m)]).set 7 (ad 7, cR (t 3) (ref3 (adR ad j z s 8) (adR ad j z s 9) (adR ad j z s 10))))[if k = 8 + j then 14 else if k = 11 + j then 15 else k]? = some x := by
  intro k x hk
  rcases j3 h with rfl | rfl | rfl
  · match k, hk with
    | 0, hk => exact hk
    | 1, hk => exact hk
    | 2, hk => exact hk
    | 3, hk => exact hk
    | 4, hk => exact hk
    | 5, hk => exact hk
    | 6, hk => exact hk
    | 7, hk => exact hk
    | 8, hk => exact hk
    | 9, hk => exact hk
    | 10, hk => exact hk
    | 11, hk => exact hk
    | 12, hk => exact hk
    | 13, hk => exact hk
    | k + 14, hk => cases hk
  · match k, hk with
    | 0, hk => exact hk
    | 1, hk => exact hk
    | 2, hk => exact hk
    | 3, hk => exact hk
    | 4, hk => exact hk
    | 5, hk => exact hk
    | 6, hk => exact hk
    | 7, hk => exact hk
    | 8, hk => exact hk
    | 9, hk => exact hk
    | 10, hk => exact hk
    | 11, hk => exact hk
    | 12, hk => exact hk
    | 13, hk => exact hk
    | k + 14, hk => cases hk
  · match k, hk with
    | 0, hk => exact hk
    | 1, hk => exact hk
    | 2, hk => exact hk
    | 3, hk => exact hk
    | 4, hk => exact hk
    | 5, hk => exact hk
    | 6, hk => exact hk
    | 7, hk => exact hk
    | 8, hk => exact hk
    | 9, hk => exact hk
    | 10, hk => exact hk
    | 11, hk => exact hk
    | 12, hk => exact hk
    | 13, hk => exact hk
    | k + 14, hk => cases hk
/-- a new row of marks: its cell instead of the old one -/
def adM (ad : Nat → Nat) (j z : Nat) : Nat → Nat := fun k => if k = 3 + j then z else ad k
theorem WW_mrow {j z q : Nat} (h : j < 3) (m : Nat → Nat) : ∀ (k : Nat) (x : Nat × va_E), (WW t (adM ad j z) pA (va_up pL j q) (va_up mL j m) pD mD)[k]? = some x →
    ((WW t ad pA pL mL pD mD ++ [(z, cL t q m)]).set 2 (ad 2, cR (t 4) (ref3 (adM ad j z 3) (adM ad j z 4) (adM ad j z 5))))[if k = 3 + j then 14 else k]? = some x := by
  intro k x hk
  rcases j3 h with rfl | rfl | rfl
  · match k, hk with
    | 0, hk => exact hk
    | 1, hk => exact hk
    | 2, hk => exact hk
    | 3, hk => exact hk
    | 4, hk => exact hk
    | 5, hk => exact hk
    | 6, hk => exact hk
    | 7, hk => exact hk
    | 8, hk => exact hk
    | 9, hk => exact hk
    | 10, hk => exact hk
    | 11, hk => exact hk
    | 12, hk => exact hk
    | 13, hk => exact hk
    | k + 14, hk => cases hk
  · match k, hk with
    | 0, hk => exact hk
    | 1, hk => exact hk
    | 2, hk => exact hk
    | 3, hk => exact hk
    | 4, hk => exact hk
    | 5, hk => exact hk
    | 6, hk => exact hk
    | 7, hk => exact hk
    | 8, hk => exact hk
    | 9, hk => exact hk
    | 10, hk => exact hk
    | 11, hk => exact hk
    | 12, hk => exact hk
    | 13, hk => exact hk
    | k + 14, hk => cases hk
  · match k, hk with
    | 0, hk => exact hk
    | 1, hk => exact hk
    | 2, hk => exact hk
    | 3, hk => exact hk
    | 4, hk => exact hk
    | 5, hk => exact hk
    | 6, hk => exact hk
    | 7, hk => exact hk
    | 8, hk => exact hk
    | 9, hk => exact hk
    | 10, hk => exact hk
    | 11, hk => exact hk
    | 12, hk => exact hk
    | 13, hk => exact hk
    | k + 14, hk => cases hk
variable {D : va_G} {A : Nat → Prop} {H : Heap}
theorem WW_rowP {j z s q : Nat} (h : j < 3) (m : Nat → Nat) (hP : va_P D vwCl ((WW t ad pA pL mL pD mD ++ [(z, .inr (2, [.ref s])), (s, cB t q m)]).set 7 (ad 7, cR (t 3) (ref3 (adR ad j z s 8) (adR ad j z s 9) (adR ad j z s 10)))) H) : va_P D vwCl (WW t (adR ad j z s) pA pL mL (va_up pD j q) (va_up mD j m)) H := hP.by _ (WW_row h m)
theorem WW_rowD {j z s q : Nat} (h : j < 3) (m : Nat → Nat) (hD : va_D A ((WW t ad pA pL mL pD mD ++ [(z, .inr (2, [.ref s])), (s, cB t q m)]).set 7 (ad 7, cR (t 3) (ref3 (adR ad j z s 8) (adR ad j z s 9) (adR ad j z s 10))))) : va_D A (WW t (adR ad j z s) pA pL mL (va_up pD j q) (va_up mD j m)) := by
  refine ⟨fun i i2 x y hx hy hxy => ?_, fun k x hx => hD.2 _ x (WW_row h m k x hx)⟩
  have hi : i < 14 := (List.getElem?_eq_some_iff.mp hx).1
  have hi2 : i2 < 14 := (List.getElem?_eq_some_iff.mp hy).1
  have e := hD.1 _ _ x y (WW_row h m i x hx) (WW_row h m i2 y hy) hxy
  split at e <;> split at e <;> (try split at e) <;> (try split at e) <;> omega
theorem WW_mrowP {j z q : Nat} (h : j < 3) (m : Nat → Nat) (hP : va_P D vwCl ((WW t ad pA pL mL pD mD ++ [(z, cL t q m)]).set 2 (ad 2, cR (t 4) (ref3 (adM ad j z 3) (adM ad j z 4) (adM ad j z 5)))) H) : va_P D vwCl (WW t (adM ad j z) pA (va_up pL j q) (va_up mL j m) pD mD) H := hP.by _ (WW_mrow h m)
theorem WW_mrowD {j z q : Nat} (h : j < 3) (m : Nat → Nat) (hD : va_D A ((WW t ad pA pL mL pD mD ++ [(z, cL t q m)]).set 2 (ad 2, cR (t 4) (ref3 (adM ad j z 3) (adM ad j z 4) (adM ad j z 5))))) : va_D A (WW t (adM ad j z) pA (va_up pL j q) (va_up mL j m) pD mD) := by
  refine ⟨fun i i2 x y hx hy hxy => ?_, fun k x hx => hD.2 _ x (WW_mrow h m k x hx)⟩
  have hi : i < 14 := (List.getElem?_eq_some_iff.mp hx).1
  have hi2 : i2 < 14 := (List.getElem?_eq_some_iff.mp hy).1
  have e := hD.1 _ _ x y (WW_mrow h m i x hx) (WW_mrow h m i2 y hy) hxy
  split at e <;> split at e <;> omega
theorem ref3_m {j : Nat} (h : j < 3) : ref3 (ad 3) (ad 4) (ad 5) j = some (ad (3 + j)) := by
  rcases j3 h with rfl | rfl | rfl <;> rfl
theorem ref3_u {j : Nat} (h : j < 3) : ref3 (ad 8) (ad 9) (ad 10) j = some (ad (8 + j)) := by
  rcases j3 h with rfl | rfl | rfl <;> rfl
theorem adR_hg {j z s : Nat} (hj : j < 3) : ∀ i, i < 3 → (if i = j then some z else ref3 (ad 8) (ad 9) (ad 10) i) = ref3 (adR ad j z s 8) (adR ad j z s 9) (adR ad j z s 10) i := by
  intro i hi
  rcases j3 hi with rfl | rfl | rfl <;> rcases j3 hj with rfl | rfl | rfl <;> rfl
theorem adM_hg {j z : Nat} (hj : j < 3) : ∀ i, i < 3 → (if i = j then some z else ref3 (ad 3) (ad 4) (ad 5) i) = ref3 (adM ad j z 3) (adM ad j z 4) (adM ad j z 5) i := by
  intro i hi
  rcases j3 hi with rfl | rfl | rfl <;> rcases j3 hj with rfl | rfl | rfl <;> rfl
end WWs
theorem ws_lt {ws : va_W} {d : Nat} {q : Nat × va_E} (h : ws[d]? = some q) : d < ws.length := (List.getElem?_eq_some_iff.mp h).1
end
section
set_option maxRecDepth 100000
/-- add(other), the other no less precise -/
theorem met_addU (l : Launch) (D : va_G) (t : Nat → ClassId) (ws : va_W) (sz : Nat) (a b h0 st q : Nat) (M : Nat → Nat) (c2 d2 g0 so : Nat) (N : Nat → Nat) (q2 : Nat) (h3 : 3 ≤ q) (hq : q ≤ q2) (h6 : q2 ≤ 6) (hM : Ok M) (hN : Ok N) (ha : ws[a]? = some (h0, .inr (2, [.ref st]))) (hb1 : ws[b]? = some (st, .inl (t 2, 2 ^ q, .inl (rgs M)))) (hc : ws[c2]? = some (g0, .inr (2, [.ref so]))) (hd : ws[d2]? = some (so, .inl (t 2, 2 ^ q2, .inl (rgs N)))) (hdb : d2 ≠ b) : Met l yX2_add_3 (ws_ yX2_add_3 cX2_add_3 14 (some (.object "UltraLogLog"))) ({ frames := 3, cells := 0, slots := 0, locals := 90 } : Room) (Pw [.ref h0, .ref g0] D t sz ws) (Qh D ws sz h0 (fun _ : Unit => True) (fun _ => ws.set b (st, .inl (t 2, 2 ^ q, .inl (rgs (fun i => M i ||| dn q2 (q2 - q) N i)))))) 0 0 (va_A ws sz) := by
  rcases Nat.lt_or_ge q q2 with h | h
  · have e : q + (q2 - q) = q2 := by omega
    have h9 := met_addG l D t ws sz a b h0 st q M c2 d2 g0 so N h3 (by omega) (q2 - q) (by omega) (by omega) hM hN ha hb1 hc (by rw [e]; exact hd) hdb
    rw [e] at h9
    exact h9
  · have e : q2 = q := by omega
    subst e
    have h9 := met_addE l D t ws sz a b h0 st q2 M c2 d2 g0 so N h3 (by omega) hM hN ha hb1 hc hd hdb
    have ef : (fun i => M i ||| dn q2 (q2 - q2) N i) = fun i => M i ||| N i := funext fun i => by rw [Nat.sub_self, dn_0]
    rw [ef]
    exact h9

set_option maxHeartbeats 4000000 in
set_option maxRecDepth 100000 in
/-- downsize -/
theorem met_downsize (l : Launch) (D : va_G) (t : Nat → ClassId) (ws : va_W) (sz : Nat) (a b h0 st q : Nat) (M : Nat → Nat) (p2 r : Nat) (h6 : q ≤ 6) (h3p : 3 ≤ p2) (h26p : p2 ≤ 26) (hr1 : (p2 < q ∧ r = p2) ∨ (q ≤ p2 ∧ r = q)) (hM : Ok M) (ha : ws[a]? = some (h0, .inr (2, [.ref st]))) (hb1 : ws[b]? = some (st, .inl (t 2, 2 ^ q, .inl (rgs M)))) : Met l yX2_downsize (ws_ yX2_downsize cX2_downsize 2 (some (.object "UltraLogLog"))) ({ frames := 4, cells := 2, slots := 65, locals := 123 } : Room) (Pw [.ref h0, .int (nI p2)] D t sz ws) (Qr D ws sz (fun _ : Nat => True) (fun s2 z => ws ++ [(z, .inr (2, [.ref s2])), (s2, .inl (t 2, 2 ^ r, .inl (rgs (dn q (q - r) M))))])) 2 65 (va_A ws sz) := by
  refine Met.ofW (cc := cX2_downsize) (maxL := 2) (ret := (some (.object "UltraLogLog"))) (by decide) rfl ?_
  intro p e s m args below meth c s₁ B hml hv
  obtain ⟨rfl, hK, hsz, hP, hD0⟩ := hv
  subst hsz
  have hD := hD0.self (sz := s.heap.size)
  have hA : ∀ q : Nat, s.heap.size ≤ q → va_A ws s.heap.size q := fun q h => Or.inr h
  have hS : va_S (va_A ws s.heap.size) s.heap s.heap [] := va_S.rf
  have hx := B.exec
  have hb := B.bytes
  have hr := B.returns
  have hts := atoms_spec (ws := ws_ yX2_downsize cX2_downsize 2 (some (.object "UltraLogLog"))) B.pre
  have hts : ∀ w ∈ lw_all, w.before _ s = true := fun w h => hts w (List.mem_cons_of_mem _ h)
  have hown : s.vm.findClass RX2 = some m.cls := findClass_of_methodNamed B.named
  have hlocks := B.notSynchronized
  refine w_entry [.ref h0, .int (nI p2)] (Nat.le_of_ble_eq_true rfl) (fun ls hl => ?_)
  have hl : lv_has ls 2 [(0, .ref h0), (1, .int (nI p2))] := hl
  have h64 := p64 h6
  have hp26 : 2 ^ p2 < 2 ^ 27 := Nat.pow_lt_pow_right (by decide) (by omega)
  refine lv_iload_n hx hb dX2_downsize_0 rfl (lv_at hl 1 rfl) ?_
  refine lv_iconst (v := (nI 3)) hx hb dX2_downsize_1 (by decide) ?_
  refine lv_bipush (v := (nI 26)) hx hb dX2_downsize_2 (by decide) ?_
  refine va_csv (W.runS (As := [.int (nI p2), .int (nI 3), .int (nI 26)]) (rest := []) ⟨hx, hb, hml, hown, hts⟩ (met_chk l p2 h3p h26p) (va_cwS 3 hts (lw_S q40 q41 q9 q42) rfl rfl rfl (by decide +kernel) ⟨Nat.le_of_ble_eq_true rfl, Nat.le_of_ble_eq_true rfl⟩) (preS_p) rfl rfl hl.1 rfl (lv_room (Nat.le_of_ble_eq_true rfl)) dX2_downsize_4 ⟨Nat.le_of_ble_eq_true rfl, Nat.le_of_ble_eq_true rfl⟩) (fun _ => ?_)
  refine lv_iconst (v := (nI 1)) hx hb dX2_downsize_7 (by decide) ?_
  refine lv_iload_n hx hb dX2_downsize_8 rfl (lv_at hl 1 rfl) ?_
  refine lv_ishl hx hb dX2_downsize_9 ?_
  refine lv_topi (fun v9 e9 => ?_)
  obtain rfl : v9 = (nI (2 ^ p2)) := by rw [e9]; exact (pk_shlN (n := 1) (nI p2 &&& 31) p2 ((by decide +kernel : ∀ k, k < 31 → ((nI k &&& 31).toBitVec.smod 32).toNat = k) p2 (by omega)) (by omega)).trans (congrArg nI (Nat.one_mul _))
  refine lv_aload_n hx hb dX2_downsize_10 rfl (lv_at hl 0 rfl) ?_
  refine va_get (D := D) (ci := 2) (v := .ref st) (C := RX2) (T := TX2) (N := 1) hx hb hts in_X2 hown hK.1 hP a (ha) rfl 0 (by decide) (hts _ q115) (fun _ h9 => h9) rfl dX2_downsize_11 ?_
  refine va_alen (v := nI (2 ^ q)) hx hb hK.1 hP b 2 (hb1) rfl rfl dX2_downsize_14 ?_
  refine lv_icmp_lt (tgt := 23) hx hb dX2_downsize_15 (by decide) (fun c15 => ?_) (fun c15 => ?_)
  · have hlt : p2 < q := by
      have h := (nI_ltI (a := 2 ^ p2) (b := 2 ^ q) (by omega) (by omega)).mp c15
      rcases Nat.lt_or_ge p2 q with h9 | h9
      · exact h9
      · exact absurd (Nat.pow_le_pow_right (show 2 > 0 by decide) h9) (by omega)
    have hr9 : r = p2 := by omega
    subst hr9
    refine va_new (ci := 2) (fs := [.null]) (C := RX2) (T := TX2) (N := 1) hx hb hts in_X2 tyX2 tyX2_ok hown (hts _ q109) (hts _ q110) (hts _ q8) hK.1 hP hD hS hA rfl (fun j hj => by rcases (show j = 0 by omega) with rfl <;> rfl) (Nat.le_of_ble_eq_true rfl) (Nat.le_of_ble_eq_true rfl) dX2_downsize_23 (fun z23 H hP hD hS => ?_)
    refine W.widen (k := 1) (n := 1) (by omega) (by omega) ?_
    have hP : va_P D vwCl (ws ++ [(z23, .inr (2, [.null]))]) H := hP
    have hD : va_D (va_A ws s.heap.size) (ws ++ [(z23, .inr (2, [.null]))]) := hD
    refine lv_dup hx hb dX2_downsize_26 rfl ?_
    refine lv_iload_n hx hb dX2_downsize_27 rfl (lv_at hl 1 rfl) ?_
    refine cw_v (va_runI (As := [.int (nI r)]) (rest := [.ref z23]) ⟨hx, hb, hml, hown, hts⟩ (met_init l D t (ws ++ [(z23, .inr (2, [.null]))]) H.size (ws.length + 0) z23 r (by omega) (ws_new (ws := ws) 0 rfl)) (cwI 1 hts (lw_meth q113) rfl rfl rfl (hts _ q8) (hts _ q111) (hts _ q112) rfl (by decide +kernel) ⟨Nat.le_of_ble_eq_true rfl, Nat.le_of_ble_eq_true rfl⟩) (preS_w hK hP hD) rfl rfl hl.1 rfl (lv_room (Nat.le_of_ble_eq_true rfl)) dX2_downsize_28 ⟨Nat.le_of_ble_eq_true rfl, Nat.le_of_ble_eq_true rfl⟩) hD hS hA (fun u28 H locs hp28 hP hD hS => ?_)
    refine W.widen (k := 2) (n := 65) (by omega) (by omega) ?_
    have hP : va_P D vwCl (ws ++ [(z23, .inr (2, [.ref u28])), (u28, .inl (t 2, 2 ^ r, .inl (rgs (fun _ => 0))))]) H := by rw [ws_setn (ws := ws) 0, List.append_assoc] at hP; exact hP
    have hD : va_D (va_A ws s.heap.size) (ws ++ [(z23, .inr (2, [.ref u28])), (u28, .inl (t 2, 2 ^ r, .inl (rgs (fun _ => 0))))]) := by rw [ws_setn (ws := ws) 0, List.append_assoc] at hD; exact hD
    refine lv_aload_n hx hb dX2_downsize_31 rfl (lv_at hl 0 rfl) ?_
    refine cw_h (va_runV (As := [.ref h0]) (rest := []) ⟨hx, hb, hml, hown, hts⟩ (met_addU l D t (ws ++ [(z23, .inr (2, [.ref u28])), (u28, .inl (t 2, 2 ^ r, .inl (rgs (fun _ => 0))))]) H.size (ws.length + 0) (ws.length + 1) z23 u28 r (fun _ => 0) a b h0 st M q h3p (by omega) h6 (fun _ => okn_0) hM (ws_new (ws := ws) 0 rfl) (ws_new (ws := ws) 1 rfl) (ws_app ha) (ws_app hb1) (Nat.ne_of_lt (Nat.lt_of_lt_of_le (ws_lt hb1) (Nat.le_add_right _ _)))) (cwV 1 hts (lw_V q287 q288 q289 q8 q290) rfl rfl rfl (by decide +kernel) ⟨Nat.le_of_ble_eq_true rfl, Nat.le_of_ble_eq_true rfl⟩) (preV_w (ws.length + 0) 2 hK hP hD rfl (ws_new (ws := ws) 0 rfl)) rfl rfl hl.1 rfl (lv_room (Nat.le_of_ble_eq_true rfl)) dX2_downsize_32 ⟨Nat.le_of_ble_eq_true rfl, Nat.le_of_ble_eq_true rfl⟩) hD hS hA (fun u32 H locs hp32 hP hD hS => ?_)
    refine W.widen (k := 2) (n := 65) (by omega) (by omega) ?_
    have ez : (fun i => 0 ||| dn q (q - r) M i) = dn q (q - r) M := funext fun i => Nat.zero_or _
    have hP : va_P D vwCl (ws ++ [(z23, .inr (2, [.ref u28])), (u28, .inl (t 2, 2 ^ r, .inl (rgs (dn q (q - r) M))))]) H := by rw [ws_setn (ws := ws) 1, ez] at hP; exact hP
    have hD : va_D (va_A ws s.heap.size) (ws ++ [(z23, .inr (2, [.ref u28])), (u28, .inl (t 2, 2 ^ r, .inl (rgs (dn q (q - r) M))))]) := by rw [ws_setn (ws := ws) 1, ez] at hD; exact hD
    exact W.aret (v := .ref z23) hx hb hr (Or.inl ⟨_, rfl⟩) (Or.inr ⟨_, rfl⟩) (fun t ht hW => ⟨⟨u28, z23, rfl, trivial, by rw [ht]; exact hP, hD⟩, hS.F ht⟩) hS.2.2 dX2_downsize_35
  · have hge : q ≤ p2 := by
      rcases Nat.lt_or_ge p2 q with h9 | h9
      · exact absurd (nI_lt (Nat.pow_lt_pow_right (by decide) h9) (by omega)) c15
      · exact h9
    have hr9 : r = q := by omega
    subst hr9
    refine lv_aload_n hx hb dX2_downsize_18 rfl (lv_at hl 0 rfl) ?_
    refine cw_r (va_runV (As := []) (rest := []) ⟨hx, hb, hml, hown, hts⟩ (met_copy l D t ws s.heap.size a b h0 st r M h6 ha hb1) (cwV 0 hts (lw_V q264 q265 q266 q8 q267) rfl rfl rfl (by decide +kernel) ⟨Nat.le_of_ble_eq_true rfl, Nat.le_of_ble_eq_true rfl⟩) (preV_w a 2 hK hP hD rfl ha) rfl rfl hl.1 rfl (lv_room (Nat.le_of_ble_eq_true rfl)) dX2_downsize_19 ⟨Nat.le_of_ble_eq_true rfl, Nat.le_of_ble_eq_true rfl⟩) hD hS hA (fun u19 z19 H locs hp19 hP hD hS => ?_)
    refine W.widen (k := 2) (n := 65) (by omega) (by omega) ?_
    have ez : dn r (r - r) M = M := funext fun i => by rw [Nat.sub_self, dn_0]
    have hP : va_P D vwCl (ws ++ [(z19, .inr (2, [.ref u19])), (u19, .inl (t 2, 2 ^ r, .inl (rgs (dn r (r - r) M))))]) H := by rw [ez]; exact hP
    have hD : va_D (va_A ws s.heap.size) (ws ++ [(z19, .inr (2, [.ref u19])), (u19, .inl (t 2, 2 ^ r, .inl (rgs (dn r (r - r) M))))]) := by rw [ez]; exact hD
    exact W.aret (v := .ref z19) hx hb hr (Or.inl ⟨_, rfl⟩) (Or.inr ⟨_, rfl⟩) (fun t ht hW => ⟨⟨u19, z19, rfl, trivial, by rw [ht]; exact hP, hD⟩, hS.F ht⟩) hS.2.2 dX2_downsize_22

set_option maxHeartbeats 4000000 in
set_option maxRecDepth 100000 in
/-- merge -/
theorem met_merge (l : Launch) (D : va_G) (t : Nat → ClassId) (ws : va_W) (sz : Nat) (a1 b1 h1 s1 q1 : Nat) (M1 : Nat → Nat) (a2 b2 h2 s2 q2 : Nat) (M2 : Nat → Nat) (r : Nat) (h3 : 3 ≤ q1) (h6 : q1 ≤ 6) (h3b : 3 ≤ q2) (h6b : q2 ≤ 6) (hr1 : (q1 ≤ q2 ∧ r = q1) ∨ (q2 < q1 ∧ r = q2)) (hM1 : Ok M1) (hM2 : Ok M2) (ha1 : ws[a1]? = some (h1, .inr (2, [.ref s1]))) (hb1 : ws[b1]? = some (s1, .inl (t 2, 2 ^ q1, .inl (rgs M1)))) (ha2 : ws[a2]? = some (h2, .inr (2, [.ref s2]))) (hb2 : ws[b2]? = some (s2, .inl (t 2, 2 ^ q2, .inl (rgs M2)))) : Met l yX2_merge (ws_ yX2_merge cX2_merge 2 (some (.object "UltraLogLog"))) ({ frames := 4, cells := 2, slots := 65, locals := 123 } : Room) (Pw [.ref h1, .ref h2] D t sz ws) (Qr D ws sz (fun _ : Nat => True) (fun s3 z => ws ++ [(z, .inr (2, [.ref s3])), (s3, .inl (t 2, 2 ^ r, .inl (rgs (fun i => dn q1 (q1 - r) M1 i ||| dn q2 (q2 - r) M2 i))))])) 2 65 (va_A ws sz) := by
  refine Met.ofW (cc := cX2_merge) (maxL := 2) (ret := (some (.object "UltraLogLog"))) (by decide) rfl ?_
  intro p e s m args below meth c s₁ B hml hv
  obtain ⟨rfl, hK, hsz, hP, hD0⟩ := hv
  subst hsz
  have hD := hD0.self (sz := s.heap.size)
  have hA : ∀ q : Nat, s.heap.size ≤ q → va_A ws s.heap.size q := fun q h => Or.inr h
  have hS : va_S (va_A ws s.heap.size) s.heap s.heap [] := va_S.rf
  have hx := B.exec
  have hb := B.bytes
  have hr := B.returns
  have hts := atoms_spec (ws := ws_ yX2_merge cX2_merge 2 (some (.object "UltraLogLog"))) B.pre
  have hts : ∀ w ∈ lw_all, w.before _ s = true := fun w h => hts w (List.mem_cons_of_mem _ h)
  have hown : s.vm.findClass RX2 = some m.cls := findClass_of_methodNamed B.named
  have hlocks := B.notSynchronized
  refine w_entry [.ref h1, .ref h2] (Nat.le_of_ble_eq_true rfl) (fun ls hl => ?_)
  have hl : lv_has ls 2 [(0, .ref h1), (1, .ref h2)] := hl
  have h64 := p64 h6
  have h64b := p64 h6b
  refine lv_aload_n hx hb dX2_merge_0 rfl (lv_at hl 0 rfl) ?_
  obtain ⟨sr1, hsr1⟩ := hK.2.2.2.2.1
  refine va_ldcS hx hb hown hsr1 dX2_merge_1 ?_
  refine va_csr (ad := fun z => .ref z) (W.runS (As := [.ref h1, .ref sr1]) (rest := []) ⟨hx, hb, hml, hown, hts⟩ (met_rnn l h1 sr1) (va_cwS 2 hts (lw_S q260 q261 q17 q262) rfl rfl rfl (by decide +kernel) ⟨Nat.le_of_ble_eq_true rfl, Nat.le_of_ble_eq_true rfl⟩) (preS_p) rfl rfl hl.1 rfl (lv_room (Nat.le_of_ble_eq_true rfl)) dX2_merge_3 ⟨Nat.le_of_ble_eq_true rfl, Nat.le_of_ble_eq_true rfl⟩) (fun r3 e3 => ?_)
  obtain rfl : h1 = r3 := Eq.symm e3
  refine lv_pop hx hb dX2_merge_6 rfl ?_
  refine lv_aload_n hx hb dX2_merge_7 rfl (lv_at hl 1 rfl) ?_
  obtain ⟨sr8, hsr8⟩ := hK.2.2.2.2.2.1
  refine va_ldcS hx hb hown hsr8 dX2_merge_8 ?_
  refine va_csr (ad := fun z => .ref z) (W.runS (As := [.ref h2, .ref sr8]) (rest := []) ⟨hx, hb, hml, hown, hts⟩ (met_rnn l h2 sr8) (va_cwS 2 hts (lw_S q260 q261 q17 q262) rfl rfl rfl (by decide +kernel) ⟨Nat.le_of_ble_eq_true rfl, Nat.le_of_ble_eq_true rfl⟩) (preS_p) rfl rfl hl.1 rfl (lv_room (Nat.le_of_ble_eq_true rfl)) dX2_merge_10 ⟨Nat.le_of_ble_eq_true rfl, Nat.le_of_ble_eq_true rfl⟩) (fun r10 e10 => ?_)
  obtain rfl : h2 = r10 := Eq.symm e10
  refine lv_pop hx hb dX2_merge_13 rfl ?_
  refine lv_aload_n hx hb dX2_merge_14 rfl (lv_at hl 0 rfl) ?_
  refine va_get (D := D) (ci := 2) (v := .ref s1) (C := RX2) (T := TX2) (N := 1) hx hb hts in_X2 hown hK.1 hP a1 (ha1) rfl 0 (by decide) (hts _ q115) (fun _ h9 => h9) rfl dX2_merge_15 ?_
  refine va_alen (v := nI (2 ^ q1)) hx hb hK.1 hP b1 2 (hb1) rfl rfl dX2_merge_18 ?_
  refine lv_aload_n hx hb dX2_merge_19 rfl (lv_at hl 1 rfl) ?_
  refine va_get (D := D) (ci := 2) (v := .ref s2) (C := RX2) (T := TX2) (N := 1) hx hb hts in_X2 hown hK.1 hP a2 (ha2) rfl 0 (by decide) (hts _ q115) (fun _ h9 => h9) rfl dX2_merge_20 ?_
  refine va_alen (v := nI (2 ^ q2)) hx hb hK.1 hP b2 2 (hb2) rfl rfl dX2_merge_23 ?_
  refine lv_icmp_gt (tgt := 36) hx hb dX2_merge_24 (by decide) (fun c24 => ?_) (fun c24 => ?_)
  · have hgt : q2 < q1 := by
      have h := (nI_ltI (a := 2 ^ q2) (b := 2 ^ q1) (by omega) (by omega)).mp c24
      rcases Nat.lt_or_ge q2 q1 with h9 | h9
      · exact h9
      · exact absurd (Nat.pow_le_pow_right (show 2 > 0 by decide) h9) (by omega)
    have hr9 : r = q2 := by omega
    subst hr9
    refine lv_aload_n hx hb dX2_merge_36 rfl (lv_at hl 1 rfl) ?_
    refine cw_r (va_runV (As := []) (rest := []) ⟨hx, hb, hml, hown, hts⟩ (met_copy l D t ws s.heap.size a2 b2 h2 s2 r M2 h6b ha2 hb2) (cwV 0 hts (lw_V q264 q265 q266 q8 q267) rfl rfl rfl (by decide +kernel) ⟨Nat.le_of_ble_eq_true rfl, Nat.le_of_ble_eq_true rfl⟩) (preV_w a2 2 hK hP hD rfl ha2) rfl rfl hl.1 rfl (lv_room (Nat.le_of_ble_eq_true rfl)) dX2_merge_37 ⟨Nat.le_of_ble_eq_true rfl, Nat.le_of_ble_eq_true rfl⟩) hD hS hA (fun u37 z37 H locs hp37 hP hD hS => ?_)
    refine W.widen (k := 2) (n := 65) (by omega) (by omega) ?_
    refine lv_aload_n hx hb dX2_merge_40 rfl (lv_at hl 0 rfl) ?_
    have hP : va_P D vwCl (ws ++ [(z37, .inr (2, [.ref u37])), (u37, .inl (t 2, 2 ^ r, .inl (rgs M2)))]) H := hP
    have hD : va_D (va_A ws s.heap.size) (ws ++ [(z37, .inr (2, [.ref u37])), (u37, .inl (t 2, 2 ^ r, .inl (rgs M2)))]) := hD
    refine cw_h (va_runV (As := [.ref h1]) (rest := []) ⟨hx, hb, hml, hown, hts⟩ (met_addU l D t (ws ++ [(z37, .inr (2, [.ref u37])), (u37, .inl (t 2, 2 ^ r, .inl (rgs M2)))]) H.size (ws.length + 0) (ws.length + 1) z37 u37 r M2 a1 b1 h1 s1 M1 q1 h3b (by omega) h6 hM2 hM1 (ws_new (ws := ws) 0 rfl) (ws_new (ws := ws) 1 rfl) (ws_app ha1) (ws_app hb1) (Nat.ne_of_lt (Nat.lt_of_lt_of_le (ws_lt hb1) (Nat.le_add_right _ _)))) (cwV 1 hts (lw_V q287 q288 q289 q8 q290) rfl rfl rfl (by decide +kernel) ⟨Nat.le_of_ble_eq_true rfl, Nat.le_of_ble_eq_true rfl⟩) (preV_w (ws.length + 0) 2 hK hP hD rfl (ws_new (ws := ws) 0 rfl)) rfl rfl hl.1 rfl (lv_room (Nat.le_of_ble_eq_true rfl)) dX2_merge_41 ⟨Nat.le_of_ble_eq_true rfl, Nat.le_of_ble_eq_true rfl⟩) hD hS hA (fun u41 H locs hp41 hP hD hS => ?_)
    refine W.widen (k := 2) (n := 65) (by omega) (by omega) ?_
    have ez : (fun i => M2 i ||| dn q1 (q1 - r) M1 i) = (fun i => dn q1 (q1 - r) M1 i ||| dn r (r - r) M2 i) := funext fun i => by rw [Nat.sub_self r, dn_0, Nat.or_comm]
    have hP : va_P D vwCl (ws ++ [(z37, .inr (2, [.ref u37])), (u37, .inl (t 2, 2 ^ r, .inl (rgs (fun i => dn q1 (q1 - r) M1 i ||| dn r (r - r) M2 i))))]) H := by rw [ws_setn (ws := ws) 1, ez] at hP; exact hP
    have hD : va_D (va_A ws s.heap.size) (ws ++ [(z37, .inr (2, [.ref u37])), (u37, .inl (t 2, 2 ^ r, .inl (rgs (fun i => dn q1 (q1 - r) M1 i ||| dn r (r - r) M2 i))))]) := by rw [ws_setn (ws := ws) 1, ez] at hD; exact hD
    exact W.aret (v := .ref z37) hx hb hr (Or.inl ⟨_, rfl⟩) (Or.inr ⟨_, rfl⟩) (fun t ht hW => ⟨⟨u37, z37, rfl, trivial, by rw [ht]; exact hP, hD⟩, hS.F ht⟩) hS.2.2 dX2_merge_44
  · have hle : q1 ≤ q2 := by
      rcases Nat.lt_or_ge q2 q1 with h9 | h9
      · exact absurd (nI_lt (Nat.pow_lt_pow_right (by decide) h9) (by omega)) c24
      · exact h9
    have hr9 : r = q1 := by omega
    subst hr9
    refine lv_aload_n hx hb dX2_merge_27 rfl (lv_at hl 0 rfl) ?_
    refine cw_r (va_runV (As := []) (rest := []) ⟨hx, hb, hml, hown, hts⟩ (met_copy l D t ws s.heap.size a1 b1 h1 s1 r M1 h6 ha1 hb1) (cwV 0 hts (lw_V q264 q265 q266 q8 q267) rfl rfl rfl (by decide +kernel) ⟨Nat.le_of_ble_eq_true rfl, Nat.le_of_ble_eq_true rfl⟩) (preV_w a1 2 hK hP hD rfl ha1) rfl rfl hl.1 rfl (lv_room (Nat.le_of_ble_eq_true rfl)) dX2_merge_28 ⟨Nat.le_of_ble_eq_true rfl, Nat.le_of_ble_eq_true rfl⟩) hD hS hA (fun u28 z28 H locs hp28 hP hD hS => ?_)
    refine W.widen (k := 2) (n := 65) (by omega) (by omega) ?_
    refine lv_aload_n hx hb dX2_merge_31 rfl (lv_at hl 1 rfl) ?_
    have hP : va_P D vwCl (ws ++ [(z28, .inr (2, [.ref u28])), (u28, .inl (t 2, 2 ^ r, .inl (rgs M1)))]) H := hP
    have hD : va_D (va_A ws s.heap.size) (ws ++ [(z28, .inr (2, [.ref u28])), (u28, .inl (t 2, 2 ^ r, .inl (rgs M1)))]) := hD
    refine cw_h (va_runV (As := [.ref h2]) (rest := []) ⟨hx, hb, hml, hown, hts⟩ (met_addU l D t (ws ++ [(z28, .inr (2, [.ref u28])), (u28, .inl (t 2, 2 ^ r, .inl (rgs M1)))]) H.size (ws.length + 0) (ws.length + 1) z28 u28 r M1 a2 b2 h2 s2 M2 q2 h3 (by omega) h6b hM1 hM2 (ws_new (ws := ws) 0 rfl) (ws_new (ws := ws) 1 rfl) (ws_app ha2) (ws_app hb2) (Nat.ne_of_lt (Nat.lt_of_lt_of_le (ws_lt hb2) (Nat.le_add_right _ _)))) (cwV 1 hts (lw_V q287 q288 q289 q8 q290) rfl rfl rfl (by decide +kernel) ⟨Nat.le_of_ble_eq_true rfl, Nat.le_of_ble_eq_true rfl⟩) (preV_w (ws.length + 0) 2 hK hP hD rfl (ws_new (ws := ws) 0 rfl)) rfl rfl hl.1 rfl (lv_room (Nat.le_of_ble_eq_true rfl)) dX2_merge_32 ⟨Nat.le_of_ble_eq_true rfl, Nat.le_of_ble_eq_true rfl⟩) hD hS hA (fun u32 H locs hp32 hP hD hS => ?_)
    refine W.widen (k := 2) (n := 65) (by omega) (by omega) ?_
    have ez : (fun i => M1 i ||| dn q2 (q2 - r) M2 i) = (fun i => dn r (r - r) M1 i ||| dn q2 (q2 - r) M2 i) := funext fun i => by rw [Nat.sub_self r, dn_0]
    have hP : va_P D vwCl (ws ++ [(z28, .inr (2, [.ref u28])), (u28, .inl (t 2, 2 ^ r, .inl (rgs (fun i => dn r (r - r) M1 i ||| dn q2 (q2 - r) M2 i))))]) H := by rw [ws_setn (ws := ws) 1, ez] at hP; exact hP
    have hD : va_D (va_A ws s.heap.size) (ws ++ [(z28, .inr (2, [.ref u28])), (u28, .inl (t 2, 2 ^ r, .inl (rgs (fun i => dn r (r - r) M1 i ||| dn q2 (q2 - r) M2 i))))]) := by rw [ws_setn (ws := ws) 1, ez] at hD; exact hD
    exact W.aret (v := .ref z28) hx hb hr (Or.inl ⟨_, rfl⟩) (Or.inr ⟨_, rfl⟩) (fun t ht hW => ⟨⟨u28, z28, rfl, trivial, by rw [ht]; exact hP, hD⟩, hS.F ht⟩) hS.2.2 dX2_merge_35
end
section
set_option maxRecDepth 100000
set_option maxHeartbeats 4000000 in
set_option maxRecDepth 100000 in
/-- UltraSketchDesk.p -/
theorem met_dp (l : Launch) (D : va_G) (t : Nat → ClassId) (ad pA pL : Nat → Nat) (mL : Nat → Nat → Nat) (pD : Nat → Nat) (mD : Nat → Nat → Nat) (hp : ∀ j, 3 ≤ pD j ∧ pD j ≤ 6) (hM : ∀ j, Ok (mD j)) (x : Int32) (j : Nat) (hj : uI x % 2 ^ 31 % 3 = j) (hj3 : j < 3) : Met l yX1_p (ws_ yX1_p cX1_p 2 (some .int)) ({ frames := 2, cells := 0, slots := 0, locals := 41 } : Room) (Pr [.ref (ad 6), .int x] D t (WW t ad pA pL mL pD mD)) (vp_Si (fun r => r = nI (pD j))) 0 0 (fun _ => False) := by
  refine Met.ofW (cc := cX1_p) (maxL := 2) (ret := (some .int)) (by decide) rfl ?_
  intro p e s m args below meth c s₁ B hml hv
  obtain ⟨rfl, hK, hP⟩ := hv
  have hx := B.exec
  have hb := B.bytes
  have hr := B.returns
  have hts := atoms_spec (ws := ws_ yX1_p cX1_p 2 (some .int)) B.pre
  have hts : ∀ w ∈ lw_all, w.before _ s = true := fun w h => hts w (List.mem_cons_of_mem _ h)
  have hown : s.vm.findClass RX1 = some m.cls := findClass_of_methodNamed B.named
  have hlocks := B.notSynchronized
  refine w_entry [.ref (ad 6), .int x] (Nat.le_of_ble_eq_true rfl) (fun ls hl => ?_)
  have hl : lv_has ls 2 [(0, .ref (ad 6)), (1, .int x)] := hl
  refine lv_aload_n hx hb dX1_p_0 rfl (lv_at hl 0 rfl) ?_
  refine va_get (D := D) (ci := 1) (v := .ref (ad 7)) (C := RX1) (T := TX1) (N := 1) hx hb hts in_X1 hown hK.1 hP 6 (rfl) rfl 0 (by decide) (hts _ q119) (fun _ h9 => h9) rfl dX1_p_1 ?_
  refine lv_iload_n hx hb dX1_p_4 rfl (lv_at hl 1 rfl) ?_
  refine vp_callSi (W.runS (As := [.int x]) (rest := [.ref (ad 7)]) ⟨hx, hb, hml, hown, hts⟩ (met_k l x) (va_cwS 1 hts (lw_S q149 q150 q7 q151) rfl rfl rfl (by decide +kernel) ⟨Nat.le_of_ble_eq_true rfl, Nat.le_of_ble_eq_true rfl⟩) (preS_p) rfl rfl hl.1 rfl (lv_room (Nat.le_of_ble_eq_true rfl)) dX1_p_5 ⟨Nat.le_of_ble_eq_true rfl, Nat.le_of_ble_eq_true rfl⟩) (fun r5 e5 => ?_)
  obtain rfl : r5 = (nI (uI x % 2 ^ 31 % 3)) := e5
  rw [hj]
  refine xr_aald hx hb hK.1 hP 7 3 rfl (rfl) rfl (hj3) (by omega) (v := (ad (8 + j))) (ref3_u hj3) dX1_p_8 ?_
  refine vp_callSi (W.runV (As := []) (rest := []) ⟨hx, hb, hml, hown, hts⟩ (met_getP l D t (WW t ad pA pL mL pD mD) (8 + j) (11 + j) (ad (8 + j)) (ad (11 + j)) (pD j) (mD j) ((hp j).2) (WW_u hj3) (WW_b hj3)) (cwV 0 hts (lw_V q153 q154 q155 q8 q156) rfl rfl rfl (by decide +kernel) ⟨Nat.le_of_ble_eq_true rfl, Nat.le_of_ble_eq_true rfl⟩) (preV_r (8 + j) 2 hK hP rfl (WW_u hj3)) rfl rfl hl.1 rfl (lv_room (Nat.le_of_ble_eq_true rfl)) dX1_p_9 ⟨Nat.le_of_ble_eq_true rfl, Nat.le_of_ble_eq_true rfl⟩) (fun r9 e9 => ?_)
  obtain rfl : r9 = (nI (pD j)) := e9
  exact W.iret (v := (nI (pD j))) hx hb hr (fun t ht hW => ⟨_, rfl, rfl, ht⟩) (fun q h => by cases h) dX1_p_12

set_option maxHeartbeats 4000000 in
set_option maxRecDepth 100000 in
/-- UltraSketchDesk.empty -/
theorem met_dempty (l : Launch) (D : va_G) (t : Nat → ClassId) (ad pA pL : Nat → Nat) (mL : Nat → Nat → Nat) (pD : Nat → Nat) (mD : Nat → Nat → Nat) (hp : ∀ j, 3 ≤ pD j ∧ pD j ≤ 6) (hM : ∀ j, Ok (mD j)) (x : Int32) (j : Nat) (hj : uI x % 2 ^ 31 % 3 = j) (hj3 : j < 3) : Met l yX1_empty (ws_ yX1_empty cX1_empty 2 (some .boolean)) ({ frames := 1, cells := 0, slots := 0, locals := 24 } : Room) (Pr [.ref (ad 6), .int x] D t (WW t ad pA pL mL pD mD)) (vp_Si (fun r => (r = nI 1 ∧ ∀ i, i < 2 ^ pD j → mD j i = 0) ∨ (r = nI 0 ∧ ∃ i, i < 2 ^ pD j ∧ mD j i ≠ 0))) 0 0 (fun _ => False) := by
  refine Met.ofW (cc := cX1_empty) (maxL := 2) (ret := (some .boolean)) (by decide) rfl ?_
  intro p e s m args below meth c s₁ B hml hv
  obtain ⟨rfl, hK, hP⟩ := hv
  have hx := B.exec
  have hb := B.bytes
  have hr := B.returns
  have hts := atoms_spec (ws := ws_ yX1_empty cX1_empty 2 (some .boolean)) B.pre
  have hts : ∀ w ∈ lw_all, w.before _ s = true := fun w h => hts w (List.mem_cons_of_mem _ h)
  have hown : s.vm.findClass RX1 = some m.cls := findClass_of_methodNamed B.named
  have hlocks := B.notSynchronized
  refine w_entry [.ref (ad 6), .int x] (Nat.le_of_ble_eq_true rfl) (fun ls hl => ?_)
  have hl : lv_has ls 2 [(0, .ref (ad 6)), (1, .int x)] := hl
  refine lv_aload_n hx hb dX1_empty_0 rfl (lv_at hl 0 rfl) ?_
  refine va_get (D := D) (ci := 1) (v := .ref (ad 7)) (C := RX1) (T := TX1) (N := 1) hx hb hts in_X1 hown hK.1 hP 6 (rfl) rfl 0 (by decide) (hts _ q119) (fun _ h9 => h9) rfl dX1_empty_1 ?_
  refine lv_iload_n hx hb dX1_empty_4 rfl (lv_at hl 1 rfl) ?_
  refine vp_callSi (W.runS (As := [.int x]) (rest := [.ref (ad 7)]) ⟨hx, hb, hml, hown, hts⟩ (met_k l x) (va_cwS 1 hts (lw_S q149 q150 q7 q151) rfl rfl rfl (by decide +kernel) ⟨Nat.le_of_ble_eq_true rfl, Nat.le_of_ble_eq_true rfl⟩) (preS_p) rfl rfl hl.1 rfl (lv_room (Nat.le_of_ble_eq_true rfl)) dX1_empty_5 ⟨Nat.le_of_ble_eq_true rfl, Nat.le_of_ble_eq_true rfl⟩) (fun r5 e5 => ?_)
  obtain rfl : r5 = (nI (uI x % 2 ^ 31 % 3)) := e5
  rw [hj]
  refine xr_aald hx hb hK.1 hP 7 3 rfl (rfl) rfl (hj3) (by omega) (v := (ad (8 + j))) (ref3_u hj3) dX1_empty_8 ?_
  refine vp_callSi (W.runV (As := []) (rest := []) ⟨hx, hb, hml, hown, hts⟩ (met_isEmpty l D t (WW t ad pA pL mL pD mD) (8 + j) (11 + j) (ad (8 + j)) (ad (11 + j)) (pD j) (mD j) ((hp j).2) (hM j) (WW_u hj3) (WW_b hj3)) (cwV 0 hts (lw_V q176 q177 q178 q8 q179) rfl rfl rfl (by decide +kernel) ⟨Nat.le_of_ble_eq_true rfl, Nat.le_of_ble_eq_true rfl⟩) (preV_r (8 + j) 2 hK hP rfl (WW_u hj3)) rfl rfl hl.1 rfl (lv_room (Nat.le_of_ble_eq_true rfl)) dX1_empty_9 ⟨Nat.le_of_ble_eq_true rfl, Nat.le_of_ble_eq_true rfl⟩) (fun r9 e9 => ?_)
  have hnr : narrow .boolean (.int r9) = .int r9 := by rcases e9 with ⟨h, -⟩ | ⟨h, -⟩ <;> rw [h] <;> rfl
  exact W.zret (v := r9) hx hb hr (hnr) (fun t ht hW => ⟨_, rfl, e9, ht⟩) (fun q h => by cases h) dX1_empty_12

set_option maxHeartbeats 4000000 in
set_option maxRecDepth 100000 in
/-- UltraSketchDesk.register -/
theorem met_dreg (l : Launch) (D : va_G) (t : Nat → ClassId) (ad pA pL : Nat → Nat) (mL : Nat → Nat → Nat) (pD : Nat → Nat) (mD : Nat → Nat → Nat) (hp : ∀ j, 3 ≤ pD j ∧ pD j ≤ 6) (hM : ∀ j, Ok (mD j)) (x : Int32) (j : Nat) (hj : uI x % 2 ^ 31 % 3 = j) (hj3 : j < 3) (y : Int32) : Met l yX1_register (ws_ yX1_register cX1_register 4 (some .int)) ({ frames := 1, cells := 0, slots := 0, locals := 20 } : Room) (Pr [.ref (ad 6), .int x, .int y] D t (WW t ad pA pL mL pD mD)) (vp_Si (fun r => r = nI (rg (mD j (uI y % 2 ^ 31 % 2 ^ pD j))))) 0 0 (fun _ => False) := by
  refine Met.ofW (cc := cX1_register) (maxL := 4) (ret := (some .int)) (by decide) rfl ?_
  intro p e s m args below meth c s₁ B hml hv
  obtain ⟨rfl, hK, hP⟩ := hv
  have hx := B.exec
  have hb := B.bytes
  have hr := B.returns
  have hts := atoms_spec (ws := ws_ yX1_register cX1_register 4 (some .int)) B.pre
  have hts : ∀ w ∈ lw_all, w.before _ s = true := fun w h => hts w (List.mem_cons_of_mem _ h)
  have hown : s.vm.findClass RX1 = some m.cls := findClass_of_methodNamed B.named
  have hlocks := B.notSynchronized
  refine w_entry [.ref (ad 6), .int x, .int y] (Nat.le_of_ble_eq_true rfl) (fun ls hl => ?_)
  have hl : lv_has ls 4 [(0, .ref (ad 6)), (1, .int x), (2, .int y)] := hl
  have h64 := p64 (hp j).2
  have hpos := Nat.two_pow_pos (pD j)
  have hmod := Nat.mod_lt (uI y % 2 ^ 31) hpos
  have hrg := rg_lt (hM j (uI y % 2 ^ 31 % 2 ^ pD j)).1 (hM j (uI y % 2 ^ 31 % 2 ^ pD j)).2
  refine lv_aload_n hx hb dX1_register_0 rfl (lv_at hl 0 rfl) ?_
  refine va_get (D := D) (ci := 1) (v := .ref (ad 7)) (C := RX1) (T := TX1) (N := 1) hx hb hts in_X1 hown hK.1 hP 6 (rfl) rfl 0 (by decide) (hts _ q119) (fun _ h9 => h9) rfl dX1_register_1 ?_
  refine lv_iload_n hx hb dX1_register_4 rfl (lv_at hl 1 rfl) ?_
  refine vp_callSi (W.runS (As := [.int x]) (rest := [.ref (ad 7)]) ⟨hx, hb, hml, hown, hts⟩ (met_k l x) (va_cwS 1 hts (lw_S q149 q150 q7 q151) rfl rfl rfl (by decide +kernel) ⟨Nat.le_of_ble_eq_true rfl, Nat.le_of_ble_eq_true rfl⟩) (preS_p) rfl rfl hl.1 rfl (lv_room (Nat.le_of_ble_eq_true rfl)) dX1_register_5 ⟨Nat.le_of_ble_eq_true rfl, Nat.le_of_ble_eq_true rfl⟩) (fun r5 e5 => ?_)
  obtain rfl : r5 = (nI (uI x % 2 ^ 31 % 3)) := e5
  rw [hj]
  refine xr_aald hx hb hK.1 hP 7 3 rfl (rfl) rfl (hj3) (by omega) (v := (ad (8 + j))) (ref3_u hj3) dX1_register_8 ?_
  refine va_csr (ad := fun z => .ref z) (W.runV (As := []) (rest := []) ⟨hx, hb, hml, hown, hts⟩ (met_getState l D t (WW t ad pA pL mL pD mD) (8 + j) (ad (8 + j)) (ad (11 + j)) (WW_u hj3)) (cwV 0 hts (lw_V q165 q166 q167 q8 q168) rfl rfl rfl (by decide +kernel) ⟨Nat.le_of_ble_eq_true rfl, Nat.le_of_ble_eq_true rfl⟩) (preV_r (8 + j) 2 hK hP rfl (WW_u hj3)) rfl rfl hl.1 rfl (lv_room (Nat.le_of_ble_eq_true rfl)) dX1_register_9 ⟨Nat.le_of_ble_eq_true rfl, Nat.le_of_ble_eq_true rfl⟩) (fun r9 e9 => ?_)
  obtain rfl : (ad (11 + j)) = r9 := Eq.symm e9
  refine lv_astore_n (lv' := [(3, .ref (ad (11 + j))), (0, .ref (ad 6)), (1, .int x), (2, .int y)]) hx hb dX1_register_12 rfl hl (by decide) rfl (fun ls hl => ?_)
  refine lv_aload_n hx hb dX1_register_13 rfl (lv_at hl 0 rfl) ?_
  refine lv_iload_n hx hb dX1_register_14 rfl (lv_at hl 3 rfl) ?_
  refine lv_ldc (v := (nI 2147483647)) hx hb hown (hts _ q152) dX1_register_15 ?_
  refine lv_iand hx hb dX1_register_17 ?_
  refine lv_topi (fun v17 e17 => ?_)
  obtain rfl : v17 = (nI (uI y % 2 ^ 31)) := by rw [e17]; exact pk_and y 31 (by decide)
  refine lv_aload_n hx hb dX1_register_18 rfl (lv_at hl 0 rfl) ?_
  refine va_alen (v := nI (2 ^ pD j)) hx hb hK.1 hP (11 + j) 2 ((WW_b hj3)) rfl rfl dX1_register_19 ?_
  refine lv_irem hx hb dX1_register_20 (nI_ne0 hpos (by omega)) ?_
  refine lv_topi (fun v20 e20 => ?_)
  obtain rfl : v20 = (nI (uI y % 2 ^ 31 % 2 ^ pD j)) := by rw [e20]; exact pk_rem (Nat.mod_lt _ (by decide)) hpos (by omega)
  refine xr_bald hx hb hK.1 hP (11 + j) 2 ((WW_b hj3)) rfl (hmod) (by omega) (v := (sb (rg (mD j (uI y % 2 ^ 31 % 2 ^ pD j))))) (rfl) dX1_register_21 ?_
  refine lv_sipush (v := (nI 255)) hx hb dX1_register_22 (by decide) ?_
  refine lv_iand hx hb dX1_register_25 ?_
  refine lv_topi (fun v25 e25 => ?_)
  obtain rfl : v25 = (nI (rg (mD j (uI y % 2 ^ 31 % 2 ^ pD j)))) := by rw [e25]; exact sb_255 _ hrg.1
  exact W.iret (v := (nI (rg (mD j (uI y % 2 ^ 31 % 2 ^ pD j))))) hx hb hr (fun t ht hW => ⟨_, rfl, rfl, ht⟩) (fun q h => by cases h) dX1_register_26

set_option maxHeartbeats 4000000 in
set_option maxRecDepth 100000 in
/-- UltraSketchDesk.token -/
theorem met_dtok (l : Launch) (h0 : Nat) (x y : Int32) : Met l yX1_token (ws_ yX1_token cX1_token 3 (some .int)) ({ frames := 4, cells := 0, slots := 0, locals := 87 } : Room) (Pp [.ref h0, .int x, .int y]) (vp_Si (fun r => r = nI (tok (hw x y)))) 0 0 (fun _ => False) := by
  refine Met.ofW (cc := cX1_token) (maxL := 3) (ret := (some .int)) (by decide) rfl ?_
  intro p e s m args below meth c s₁ B hml hv
  obtain ⟨rfl, -⟩ := hv
  have hx := B.exec
  have hb := B.bytes
  have hr := B.returns
  have hts := atoms_spec (ws := ws_ yX1_token cX1_token 3 (some .int)) B.pre
  have hts : ∀ w ∈ lw_all, w.before _ s = true := fun w h => hts w (List.mem_cons_of_mem _ h)
  have hown : s.vm.findClass RX1 = some m.cls := findClass_of_methodNamed B.named
  have hlocks := B.notSynchronized
  refine w_entry [.ref h0, .int x, .int y] (Nat.le_of_ble_eq_true rfl) (fun ls hl => ?_)
  have hl : lv_has ls 3 [(0, .ref h0), (1, .int x), (2, .int y)] := hl
  refine lv_iload_n hx hb dX1_token_0 rfl (lv_at hl 1 rfl) ?_
  refine lv_iload_n hx hb dX1_token_1 rfl (lv_at hl 2 rfl) ?_
  refine vp_callSl (W.runS (As := [.int x, .int y]) (rest := []) ⟨hx, hb, hml, hown, hts⟩ (met_of l x y) (va_cwS 2 hts (lw_S q199 q200 q7 q201) rfl rfl rfl (by decide +kernel) ⟨Nat.le_of_ble_eq_true rfl, Nat.le_of_ble_eq_true rfl⟩) (preS_p) rfl rfl hl.1 rfl (lv_room (Nat.le_of_ble_eq_true rfl)) dX1_token_2 ⟨Nat.le_of_ble_eq_true rfl, Nat.le_of_ble_eq_true rfl⟩) (fun r2 e2 => ?_)
  obtain rfl : r2 = (lN (hw x y)) := e2
  refine vp_callSi (W.runS (As := [.long (lN (hw x y))]) (rest := []) ⟨hx, hb, hml, hown, hts⟩ (met_tok l (hw x y) (hw_lt x y)) (va_cwS 1 hts (lw_S q313 q314 q8 q315) rfl rfl rfl (by decide +kernel) ⟨Nat.le_of_ble_eq_true rfl, Nat.le_of_ble_eq_true rfl⟩) (preS_p) rfl rfl hl.1 rfl (lv_room (Nat.le_of_ble_eq_true rfl)) dX1_token_5 ⟨Nat.le_of_ble_eq_true rfl, Nat.le_of_ble_eq_true rfl⟩) (fun r5 e5 => ?_)
  obtain rfl : r5 = (nI (tok (hw x y))) := e5
  exact W.iret (v := (nI (tok (hw x y)))) hx hb hr (fun t ht hW => ⟨_, rfl, rfl, ht⟩) (fun q h => by cases h) dX1_token_8

set_option maxHeartbeats 4000000 in
set_option maxRecDepth 100000 in
/-- X1_add -/
theorem met_dadd (l : Launch) (D : va_G) (t : Nat → ClassId) (ad pA pL : Nat → Nat) (mL : Nat → Nat → Nat) (pD : Nat → Nat) (mD : Nat → Nat → Nat) (sz : Nat) (hp : ∀ j, 3 ≤ pD j ∧ pD j ≤ 6) (hM : ∀ j, Ok (mD j)) (x : Int32) (j : Nat) (hj : uI x % 2 ^ 31 % 3 = j) (hj3 : j < 3) (y z : Int32) : Met l yX1_add (ws_ yX1_add cX1_add 4 none) ({ frames := 5, cells := 0, slots := 0, locals := 118 } : Room) (Pw [.ref (ad 6), .int x, .int y, .int z] D t sz (WW t ad pA pL mL pD mD)) (Qv D (WW t ad pA pL mL pD mD) sz (fun _ : Unit => True) (fun u => (WW t ad pA pL mL pD (va_up mD j (addM (pD j) (mD j) (hw y z)))))) 0 0 (va_A (WW t ad pA pL mL pD mD) sz) := by
  refine Met.ofW (cc := cX1_add) (maxL := 4) (ret := none) (by decide) rfl ?_
  intro p e s m args below meth c s₁ B hml hv
  obtain ⟨rfl, hK, hsz, hP, hD0⟩ := hv
  subst hsz
  have hD := hD0.self (sz := s.heap.size)
  have hA : ∀ q : Nat, s.heap.size ≤ q → va_A (WW t ad pA pL mL pD mD) s.heap.size q := fun q h => Or.inr h
  have hS : va_S (va_A (WW t ad pA pL mL pD mD) s.heap.size) s.heap s.heap [] := va_S.rf
  have hx := B.exec
  have hb := B.bytes
  have hr := B.returns
  have hts := atoms_spec (ws := ws_ yX1_add cX1_add 4 none) B.pre
  have hts : ∀ w ∈ lw_all, w.before _ s = true := fun w h => hts w (List.mem_cons_of_mem _ h)
  have hown : s.vm.findClass RX1 = some m.cls := findClass_of_methodNamed B.named
  have hlocks := B.notSynchronized
  refine w_entry [.ref (ad 6), .int x, .int y, .int z] (Nat.le_of_ble_eq_true rfl) (fun ls hl => ?_)
  have hl : lv_has ls 4 [(0, .ref (ad 6)), (1, .int x), (2, .int y), (3, .int z)] := hl
  refine lv_aload_n hx hb dX1_add_0 rfl (lv_at hl 0 rfl) ?_
  refine va_get (D := D) (ci := 1) (v := .ref (ad 7)) (C := RX1) (T := TX1) (N := 1) hx hb hts in_X1 hown hK.1 hP 6 (rfl) rfl 0 (by decide) (hts _ q119) (fun _ h9 => h9) rfl dX1_add_1 ?_
  refine lv_iload_n hx hb dX1_add_4 rfl (lv_at hl 1 rfl) ?_
  refine vp_callSi (W.runS (As := [.int x]) (rest := [.ref (ad 7)]) ⟨hx, hb, hml, hown, hts⟩ (met_k l x) (va_cwS 1 hts (lw_S q149 q150 q7 q151) rfl rfl rfl (by decide +kernel) ⟨Nat.le_of_ble_eq_true rfl, Nat.le_of_ble_eq_true rfl⟩) (preS_p) rfl rfl hl.1 rfl (lv_room (Nat.le_of_ble_eq_true rfl)) dX1_add_5 ⟨Nat.le_of_ble_eq_true rfl, Nat.le_of_ble_eq_true rfl⟩) (fun r5 e5 => ?_)
  obtain rfl : r5 = (nI (uI x % 2 ^ 31 % 3)) := e5
  rw [hj]
  refine xr_aald hx hb hK.1 hP 7 3 rfl (rfl) rfl (hj3) (by omega) (v := (ad (8 + j))) (ref3_u hj3) dX1_add_8 ?_
  refine lv_iload_n hx hb dX1_add_9 rfl (lv_at hl 2 rfl) ?_
  refine lv_iload_n hx hb dX1_add_10 rfl (lv_at hl 3 rfl) ?_
  refine vp_callSl (W.runS (As := [.int y, .int z]) (rest := [.ref (ad (8 + j))]) ⟨hx, hb, hml, hown, hts⟩ (met_of l y z) (va_cwS 2 hts (lw_S q199 q200 q7 q201) rfl rfl rfl (by decide +kernel) ⟨Nat.le_of_ble_eq_true rfl, Nat.le_of_ble_eq_true rfl⟩) (preS_p) rfl rfl hl.1 rfl (lv_room (Nat.le_of_ble_eq_true rfl)) dX1_add_11 ⟨Nat.le_of_ble_eq_true rfl, Nat.le_of_ble_eq_true rfl⟩) (fun r11 e11 => ?_)
  obtain rfl : r11 = (lN (hw y z)) := e11
  refine cw_h (va_runV (As := [.long (lN (hw y z))]) (rest := []) ⟨hx, hb, hml, hown, hts⟩ (met_add l D t (WW t ad pA pL mL pD mD) s.heap.size (8 + j) (11 + j) (ad (8 + j)) (ad (11 + j)) (pD j) (mD j) (hw y z) ((hp j).1) ((hp j).2) (hw_lt y z) (hM j) (WW_u hj3) (WW_b hj3)) (cwV 1 hts (lw_V q203 q204 q205 q8 q206) rfl rfl rfl (by decide +kernel) ⟨Nat.le_of_ble_eq_true rfl, Nat.le_of_ble_eq_true rfl⟩) (preV_w (8 + j) 2 hK hP hD rfl (WW_u hj3)) rfl rfl hl.1 rfl (lv_room (Nat.le_of_ble_eq_true rfl)) dX1_add_14 ⟨Nat.le_of_ble_eq_true rfl, Nat.le_of_ble_eq_true rfl⟩) hD hS hA (fun u14 H locs hp14 hP hD hS => ?_)
  refine W.widen (k := 0) (n := 0) (by omega) (by omega) ?_
  have hP : va_P D vwCl ((WW t ad pA pL mL pD (va_up mD j (addM (pD j) (mD j) (hw y z))))) H := by rw [WW_setb hj3] at hP; exact hP
  have hD : va_D (va_A (WW t ad pA pL mL pD mD) s.heap.size) ((WW t ad pA pL mL pD (va_up mD j (addM (pD j) (mD j) (hw y z))))) := by rw [WW_setb hj3] at hD; exact hD
  refine lv_pop hx hb dX1_add_17 rfl ?_
  exact W.vret hx hb hr (fun t ht hW => ⟨⟨(), rfl, trivial, by rw [ht]; exact hP, hD⟩, hS.F ht⟩) hS.2.2 dX1_add_18

set_option maxHeartbeats 4000000 in
set_option maxRecDepth 100000 in
/-- X1_addToken -/
theorem met_daddT (l : Launch) (D : va_G) (t : Nat → ClassId) (ad pA pL : Nat → Nat) (mL : Nat → Nat → Nat) (pD : Nat → Nat) (mD : Nat → Nat → Nat) (sz : Nat) (hp : ∀ j, 3 ≤ pD j ∧ pD j ≤ 6) (hM : ∀ j, Ok (mD j)) (x : Int32) (j : Nat) (hj : uI x % 2 ^ 31 % 3 = j) (hj3 : j < 3) (y z : Int32) : Met l yX1_addToken (ws_ yX1_addToken cX1_addToken 4 none) ({ frames := 6, cells := 0, slots := 0, locals := 139 } : Room) (Pw [.ref (ad 6), .int x, .int y, .int z] D t sz (WW t ad pA pL mL pD mD)) (Qv D (WW t ad pA pL mL pD mD) sz (fun _ : Unit => True) (fun u => (WW t ad pA pL mL pD (va_up mD j (addM (pD j) (mD j) (hw y z)))))) 0 0 (va_A (WW t ad pA pL mL pD mD) sz) := by
  refine Met.ofW (cc := cX1_addToken) (maxL := 4) (ret := none) (by decide) rfl ?_
  intro p e s m args below meth c s₁ B hml hv
  obtain ⟨rfl, hK, hsz, hP, hD0⟩ := hv
  subst hsz
  have hD := hD0.self (sz := s.heap.size)
  have hA : ∀ q : Nat, s.heap.size ≤ q → va_A (WW t ad pA pL mL pD mD) s.heap.size q := fun q h => Or.inr h
  have hS : va_S (va_A (WW t ad pA pL mL pD mD) s.heap.size) s.heap s.heap [] := va_S.rf
  have hx := B.exec
  have hb := B.bytes
  have hr := B.returns
  have hts := atoms_spec (ws := ws_ yX1_addToken cX1_addToken 4 none) B.pre
  have hts : ∀ w ∈ lw_all, w.before _ s = true := fun w h => hts w (List.mem_cons_of_mem _ h)
  have hown : s.vm.findClass RX1 = some m.cls := findClass_of_methodNamed B.named
  have hlocks := B.notSynchronized
  refine w_entry [.ref (ad 6), .int x, .int y, .int z] (Nat.le_of_ble_eq_true rfl) (fun ls hl => ?_)
  have hl : lv_has ls 4 [(0, .ref (ad 6)), (1, .int x), (2, .int y), (3, .int z)] := hl
  refine lv_aload_n hx hb dX1_addToken_0 rfl (lv_at hl 0 rfl) ?_
  refine va_get (D := D) (ci := 1) (v := .ref (ad 7)) (C := RX1) (T := TX1) (N := 1) hx hb hts in_X1 hown hK.1 hP 6 (rfl) rfl 0 (by decide) (hts _ q119) (fun _ h9 => h9) rfl dX1_addToken_1 ?_
  refine lv_iload_n hx hb dX1_addToken_4 rfl (lv_at hl 1 rfl) ?_
  refine vp_callSi (W.runS (As := [.int x]) (rest := [.ref (ad 7)]) ⟨hx, hb, hml, hown, hts⟩ (met_k l x) (va_cwS 1 hts (lw_S q149 q150 q7 q151) rfl rfl rfl (by decide +kernel) ⟨Nat.le_of_ble_eq_true rfl, Nat.le_of_ble_eq_true rfl⟩) (preS_p) rfl rfl hl.1 rfl (lv_room (Nat.le_of_ble_eq_true rfl)) dX1_addToken_5 ⟨Nat.le_of_ble_eq_true rfl, Nat.le_of_ble_eq_true rfl⟩) (fun r5 e5 => ?_)
  obtain rfl : r5 = (nI (uI x % 2 ^ 31 % 3)) := e5
  rw [hj]
  refine xr_aald hx hb hK.1 hP 7 3 rfl (rfl) rfl (hj3) (by omega) (v := (ad (8 + j))) (ref3_u hj3) dX1_addToken_8 ?_
  refine lv_iload_n hx hb dX1_addToken_9 rfl (lv_at hl 2 rfl) ?_
  refine lv_iload_n hx hb dX1_addToken_10 rfl (lv_at hl 3 rfl) ?_
  refine vp_callSl (W.runS (As := [.int y, .int z]) (rest := [.ref (ad (8 + j))]) ⟨hx, hb, hml, hown, hts⟩ (met_of l y z) (va_cwS 2 hts (lw_S q199 q200 q7 q201) rfl rfl rfl (by decide +kernel) ⟨Nat.le_of_ble_eq_true rfl, Nat.le_of_ble_eq_true rfl⟩) (preS_p) rfl rfl hl.1 rfl (lv_room (Nat.le_of_ble_eq_true rfl)) dX1_addToken_11 ⟨Nat.le_of_ble_eq_true rfl, Nat.le_of_ble_eq_true rfl⟩) (fun r11 e11 => ?_)
  obtain rfl : r11 = (lN (hw y z)) := e11
  refine vp_callSi (W.runS (As := [.long (lN (hw y z))]) (rest := [.ref (ad (8 + j))]) ⟨hx, hb, hml, hown, hts⟩ (met_tok l (hw y z) (hw_lt y z)) (va_cwS 1 hts (lw_S q313 q314 q8 q315) rfl rfl rfl (by decide +kernel) ⟨Nat.le_of_ble_eq_true rfl, Nat.le_of_ble_eq_true rfl⟩) (preS_p) rfl rfl hl.1 rfl (lv_room (Nat.le_of_ble_eq_true rfl)) dX1_addToken_14 ⟨Nat.le_of_ble_eq_true rfl, Nat.le_of_ble_eq_true rfl⟩) (fun r14 e14 => ?_)
  obtain rfl : r14 = (nI (tok (hw y z))) := e14
  refine cw_h (va_runV (As := [.int (nI (tok (hw y z)))]) (rest := []) ⟨hx, hb, hml, hown, hts⟩ (met_addToken l D t (WW t ad pA pL mL pD mD) s.heap.size (8 + j) (11 + j) (ad (8 + j)) (ad (11 + j)) (pD j) (mD j) (hw y z) ((hp j).1) ((hp j).2) (hw_lt y z) (hM j) (WW_u hj3) (WW_b hj3)) (cwV 1 hts (lw_V q321 q322 q323 q8 q324) rfl rfl rfl (by decide +kernel) ⟨Nat.le_of_ble_eq_true rfl, Nat.le_of_ble_eq_true rfl⟩) (preV_w (8 + j) 2 hK hP hD rfl (WW_u hj3)) rfl rfl hl.1 rfl (lv_room (Nat.le_of_ble_eq_true rfl)) dX1_addToken_17 ⟨Nat.le_of_ble_eq_true rfl, Nat.le_of_ble_eq_true rfl⟩) hD hS hA (fun u17 H locs hp17 hP hD hS => ?_)
  refine W.widen (k := 0) (n := 0) (by omega) (by omega) ?_
  have hP : va_P D vwCl ((WW t ad pA pL mL pD (va_up mD j (addM (pD j) (mD j) (hw y z))))) H := by rw [WW_setb hj3] at hP; exact hP
  have hD : va_D (va_A (WW t ad pA pL mL pD mD) s.heap.size) ((WW t ad pA pL mL pD (va_up mD j (addM (pD j) (mD j) (hw y z))))) := by rw [WW_setb hj3] at hD; exact hD
  refine lv_pop hx hb dX1_addToken_20 rfl ?_
  exact W.vret hx hb hr (fun t ht hW => ⟨⟨(), rfl, trivial, by rw [ht]; exact hP, hD⟩, hS.F ht⟩) hS.2.2 dX1_addToken_21

set_option maxHeartbeats 4000000 in
set_option maxRecDepth 100000 in
/-- UltraSketchDesk.many -/
theorem met_dmany (l : Launch) (D : va_G) (t : Nat → ClassId) (ad pA pL : Nat → Nat) (mL : Nat → Nat → Nat) (pD : Nat → Nat) (mD : Nat → Nat → Nat) (sz : Nat) (hp : ∀ j, 3 ≤ pD j ∧ pD j ≤ 6) (hM : ∀ j, Ok (mD j)) (x : Int32) (j : Nat) (hj : uI x % 2 ^ 31 % 3 = j) (hj3 : j < 3) (y z n : Int32) : Met l yX1_many (ws_ yX1_many cX1_many 8 none) ({ frames := 5, cells := 0, slots := 0, locals := 118 } : Room) (Pw [.ref (ad 6), .int x, .int y, .int z, .int n] D t sz (WW t ad pA pL mL pD mD)) (Qv D (WW t ad pA pL mL pD mD) sz (fun _ : Unit => True) (fun u => (WW t ad pA pL mL pD (va_up mD j (manyN (pD j) lcg (uI n % 2 ^ 6 + 1) (mD j) (hw y z)))))) 0 0 (va_A (WW t ad pA pL mL pD mD) sz) := by
  refine Met.ofW (cc := cX1_many) (maxL := 8) (ret := none) (by decide) rfl ?_
  intro p e s m args below meth c s₁ B hml hv
  obtain ⟨rfl, hK, hsz, hP, hD0⟩ := hv
  subst hsz
  have hD := hD0.self (sz := s.heap.size)
  have hA : ∀ q : Nat, s.heap.size ≤ q → va_A (WW t ad pA pL mL pD mD) s.heap.size q := fun q h => Or.inr h
  have hS : va_S (va_A (WW t ad pA pL mL pD mD) s.heap.size) s.heap s.heap [] := va_S.rf
  have hx := B.exec
  have hb := B.bytes
  have hr := B.returns
  have hts := atoms_spec (ws := ws_ yX1_many cX1_many 8 none) B.pre
  have hts : ∀ w ∈ lw_all, w.before _ s = true := fun w h => hts w (List.mem_cons_of_mem _ h)
  have hown : s.vm.findClass RX1 = some m.cls := findClass_of_methodNamed B.named
  have hlocks := B.notSynchronized
  refine w_entry [.ref (ad 6), .int x, .int y, .int z, .int n] (Nat.le_of_ble_eq_true rfl) (fun ls hl => ?_)
  have hl : lv_has ls 8 [(0, .ref (ad 6)), (1, .int x), (2, .int y), (3, .int z), (4, .int n)] := hl
  refine lv_iload_n hx hb dX1_many_0 rfl (lv_at hl 2 rfl) ?_
  refine lv_iload_n hx hb dX1_many_1 rfl (lv_at hl 3 rfl) ?_
  refine vp_callSl (W.runS (As := [.int y, .int z]) (rest := []) ⟨hx, hb, hml, hown, hts⟩ (met_of l y z) (va_cwS 2 hts (lw_S q199 q200 q7 q201) rfl rfl rfl (by decide +kernel) ⟨Nat.le_of_ble_eq_true rfl, Nat.le_of_ble_eq_true rfl⟩) (preS_p) rfl rfl hl.1 rfl (lv_room (Nat.le_of_ble_eq_true rfl)) dX1_many_2 ⟨Nat.le_of_ble_eq_true rfl, Nat.le_of_ble_eq_true rfl⟩) (fun r2 e2 => ?_)
  obtain rfl : r2 = (lN (hw y z)) := e2
  refine lv_lstore (lv' := [(5, .long (lN (hw y z))), (0, .ref (ad 6)), (1, .int x), (2, .int y), (3, .int z), (4, .int n)]) hx hb dX1_many_5 hl (by decide) rfl (fun ls hl => ?_)
  refine lv_iload hx hb dX1_many_7 (lv_at hl 5 rfl) ?_
  refine lv_bipush (v := (nI 63)) hx hb dX1_many_9 (by decide) ?_
  refine lv_iand hx hb dX1_many_11 ?_
  refine lv_topi (fun v11 e11 => ?_)
  obtain rfl : v11 = (nI (uI n % 2 ^ 6)) := by rw [e11]; exact pk_and n 6 (by decide)
  refine lv_istore (lv' := [(7, .int (nI (uI n % 2 ^ 6))), (5, .long (lN (hw y z))), (0, .ref (ad 6)), (1, .int x), (2, .int y), (3, .int z), (4, .int n)]) hx hb dX1_many_12 hl (by decide) rfl (fun ls hl => ?_)
  have hl : lv_has ls 8 [(7, .int (nI (uI n % 2 ^ 6 + 1) + (-1))), (5, .long (lN (hw y z))), (0, .ref (ad 6)), (1, .int x), (2, .int y), (3, .int z), (4, .int n)] := by rw [pk_m1]; exact hl
  refine W_loop (nL := 8) (fun (b : Nat × (Nat → Nat) × Nat) H1 L1 => (b.1 ≤ 64 ∧ Ok b.2.1 ∧ b.2.2 < 2 ^ 64 ∧ manyN (pD j) lcg b.1 b.2.1 b.2.2 = (manyN (pD j) lcg (uI n % 2 ^ 6 + 1) (mD j) (hw y z))) ∧ va_P D vwCl (WW t ad pA pL mL pD (va_up mD j b.2.1)) H1 ∧ va_D (va_A (WW t ad pA pL mL pD mD) s.heap.size) (WW t ad pA pL mL pD (va_up mD j b.2.1)) ∧ va_S (va_A (WW t ad pA pL mL pD mD) s.heap.size) s.heap H1 L1) (fun b => [(7, .int (nI b.1 + (-1))), (5, .long (lN b.2.2)), (0, .ref (ad 6)), (1, .int x)]) (fun b => b.1) (fun _ => 0) (fun _ => 0) (fun b H locs ls hI hl ih => ?_) (uI n % 2 ^ 6 + 1, mD j, hw y z) ⟨⟨Nat.succ_le_of_lt (Nat.mod_lt _ (by decide)), hM j, hw_lt y z, rfl⟩, by rw [up_same]; exact hP, by rw [up_same]; exact hD, hS⟩ (lv_sub hl [0, 1, 2, 3] rfl)
  obtain ⟨c0, M1, h1⟩ := b
  obtain ⟨⟨hb64, hM1, hh1, hF⟩, hP, hD, hS⟩ := hI
  have hl : lv_has ls 8 [(7, .int (nI c0 + (-1))), (5, .long (lN h1)), (0, .ref (ad 6)), (1, .int x)] := hl
  have hP : va_P D vwCl (WW t ad pA pL mL pD (va_up mD j M1)) H := hP
  have hD : va_D (va_A (WW t ad pA pL mL pD mD) s.heap.size) (WW t ad pA pL mL pD (va_up mD j M1)) := hD
  have hF : manyN (pD j) lcg c0 M1 h1 = (manyN (pD j) lcg (uI n % 2 ^ 6 + 1) (mD j) (hw y z)) := hF
  have hM1 : Ok M1 := hM1
  have hh1 : h1 < 2 ^ 64 := hh1
  refine lv_iload hx hb dX1_many_14 (lv_at hl 0 rfl) ?_
  refine lv_if_lt (tgt := 52) hx hb dX1_many_16 (by decide) (fun c16 => ?_) (fun c16 => ?_)
  · have hz0 : c0 = 0 := by
      rcases Nat.eq_zero_or_pos c0 with h | h
      · exact h
      · rw [show c0 = c0 - 1 + 1 by omega, pk_m1] at c16
        have hb9 : c0 ≤ 64 := hb64
        exact absurd c16 (nI_pos (by omega))
    subst hz0
    have hF : M1 = (manyN (pD j) lcg (uI n % 2 ^ 6 + 1) (mD j) (hw y z)) := by rw [manyN_0] at hF; exact hF
    have hP : va_P D vwCl ((WW t ad pA pL mL pD (va_up mD j (manyN (pD j) lcg (uI n % 2 ^ 6 + 1) (mD j) (hw y z))))) H := by rw [← hF]; exact hP
    have hD : va_D (va_A (WW t ad pA pL mL pD mD) s.heap.size) ((WW t ad pA pL mL pD (va_up mD j (manyN (pD j) lcg (uI n % 2 ^ 6 + 1) (mD j) (hw y z))))) := by rw [← hF]; exact hD
    exact W.vret hx hb hr (fun t ht hW => ⟨⟨(), rfl, trivial, by rw [ht]; exact hP, hD⟩, hS.F ht⟩) hS.2.2 dX1_many_52
  · obtain ⟨c1, rfl⟩ : ∃ c1, c0 = c1 + 1 := by
      rcases Nat.eq_zero_or_pos c0 with h | h
      · subst h
        exact absurd (by decide) c16
      · exact ⟨c0 - 1, by omega⟩
    refine lv_aload_n hx hb dX1_many_19 rfl (lv_at hl 2 rfl) ?_
    refine va_get (D := D) (ci := 1) (v := .ref (ad 7)) (C := RX1) (T := TX1) (N := 1) hx hb hts in_X1 hown hK.1 hP 6 (rfl) rfl 0 (by decide) (hts _ q119) (fun _ h9 => h9) rfl dX1_many_20 ?_
    refine lv_iload_n hx hb dX1_many_23 rfl (lv_at hl 3 rfl) ?_
    refine vp_callSi (W.runS (As := [.int x]) (rest := [.ref (ad 7)]) ⟨hx, hb, hml, hown, hts⟩ (met_k l x) (va_cwS 1 hts (lw_S q149 q150 q7 q151) rfl rfl rfl (by decide +kernel) ⟨Nat.le_of_ble_eq_true rfl, Nat.le_of_ble_eq_true rfl⟩) (preS_p) rfl rfl hl.1 rfl (lv_room (Nat.le_of_ble_eq_true rfl)) dX1_many_24 ⟨Nat.le_of_ble_eq_true rfl, Nat.le_of_ble_eq_true rfl⟩) (fun r24 e24 => ?_)
    obtain rfl : r24 = (nI (uI x % 2 ^ 31 % 3)) := e24
    rw [hj]
    refine xr_aald hx hb hK.1 hP 7 3 rfl (rfl) rfl (hj3) (by omega) (v := (ad (8 + j))) (ref3_u hj3) dX1_many_27 ?_
    refine lv_lload hx hb dX1_many_28 (lv_at hl 1 rfl) ?_
    refine cw_h (va_runV (As := [.long (lN h1)]) (rest := []) ⟨hx, hb, hml, hown, hts⟩ (met_add l D t (WW t ad pA pL mL pD (va_up mD j M1)) H.size (8 + j) (11 + j) (ad (8 + j)) (ad (11 + j)) (pD j) ((va_up mD j M1) j) h1 ((hp j).1) ((hp j).2) hh1 (by rw [va_up_self]; exact hM1) (WW_u hj3) (WW_b hj3)) (cwV 1 hts (lw_V q203 q204 q205 q8 q206) rfl rfl rfl (by decide +kernel) ⟨Nat.le_of_ble_eq_true rfl, Nat.le_of_ble_eq_true rfl⟩) (preV_w (8 + j) 2 hK hP hD rfl (WW_u hj3)) rfl rfl hl.1 rfl (lv_room (Nat.le_of_ble_eq_true rfl)) dX1_many_30 ⟨Nat.le_of_ble_eq_true rfl, Nat.le_of_ble_eq_true rfl⟩) hD hS hA (fun u30 H locs hp30 hP hD hS => ?_)
    refine W.widen (k := 0) (n := 0) (by omega) (by omega) ?_
    have hP : va_P D vwCl ((WW t ad pA pL mL pD (va_up mD j (addM (pD j) M1 h1)))) H := by rw [WW_setb hj3, up_up, va_up_self] at hP; exact hP
    have hD : va_D (va_A (WW t ad pA pL mL pD mD) s.heap.size) ((WW t ad pA pL mL pD (va_up mD j (addM (pD j) M1 h1)))) := by rw [WW_setb hj3, up_up, va_up_self] at hD; exact hD
    refine lv_pop hx hb dX1_many_33 rfl ?_
    refine lv_lload hx hb dX1_many_34 (lv_at hl 1 rfl) ?_
    refine lv_ldc2 (v := (lN 6364136223846793005)) hx hb hown (hts _ q238) dX1_many_36 ?_
    refine lv_lmul hx hb dX1_many_39 ?_
    refine lv_topl (fun v39 e39 => ?_)
    refine lv_ldc2 (v := (lN 1442695040888963407)) hx hb hown (hts _ q239) dX1_many_40 ?_
    refine lv_ladd hx hb dX1_many_43 ?_
    refine lv_topl (fun v43 e43 => ?_)
    obtain rfl : v43 = (lN (lcg h1)) := by rw [e43, e39, lN_mul, lN_add]; exact wb_mod _
    refine lv_lstore (lv' := [(5, .long (lN (lcg h1))), (7, .int (nI (c1 + 1) + (-1))), (0, .ref (ad 6)), (1, .int x)]) hx hb dX1_many_44 hl (by decide) rfl (fun ls hl => ?_)
    refine lv_iinc (v := (nI c1 + (-1))) (lv' := [(7, .int (nI c1 + (-1))), (5, .long (lN (lcg h1))), (0, .ref (ad 6)), (1, .int x)]) hx hb dX1_many_46 hl (k := 1) rfl (by rw [pk_m1]; rfl) (by decide) rfl (fun ls hl => ?_)
    refine lv_goto (tgt := 14) hx hb dX1_many_49 (by decide) ?_
    exact ih (c1, addM (pD j) M1 h1, lcg h1) _ _ ls (Nat.lt_succ_self _) ⟨⟨by have hb9 : c1 + 1 ≤ 64 := hb64; show c1 ≤ 64; omega, addM_ok (hp j).1 (Nat.le_trans (hp j).2 (by decide)) hM1, lcg_lt _, by rw [manyN_s] at hF; exact hF⟩, hP, hD, hS⟩ (lv_sub hl [0, 1, 2, 3] rfl)
end
section
set_option maxRecDepth 100000
set_option maxHeartbeats 4000000 in
set_option maxRecDepth 100000 in
/-- UltraSketchDesk.high -/
theorem met_dhigh (l : Launch) (D : va_G) (t : Nat → ClassId) (ad pA pL : Nat → Nat) (mL : Nat → Nat → Nat) (pD : Nat → Nat) (mD : Nat → Nat → Nat) (sz : Nat) (hp : ∀ j, 3 ≤ pD j ∧ pD j ≤ 6) (hM : ∀ j, Ok (mD j)) (x : Int32) (j : Nat) (hj : uI x % 2 ^ 31 % 3 = j) (hj3 : j < 3) (y z : Int32) : Met l yX1_high (ws_ yX1_high cX1_high 8 none) ({ frames := 5, cells := 0, slots := 0, locals := 118 } : Room) (Pw [.ref (ad 6), .int x, .int y, .int z] D t sz (WW t ad pA pL mL pD mD)) (Qv D (WW t ad pA pL mL pD mD) sz (fun _ : Unit => True) (fun u => (WW t ad pA pL mL pD (va_up mD j (addH (pD j) (mD j) (uI y) (uI z % 2 ^ 31 % (65 - pD j))))))) 0 0 (va_A (WW t ad pA pL mL pD mD) sz) := by
  refine Met.ofW (cc := cX1_high) (maxL := 8) (ret := none) (by decide) rfl ?_
  intro p e s m args below meth c s₁ B hml hv
  obtain ⟨rfl, hK, hsz, hP, hD0⟩ := hv
  subst hsz
  have hD := hD0.self (sz := s.heap.size)
  have hA : ∀ q : Nat, s.heap.size ≤ q → va_A (WW t ad pA pL mL pD mD) s.heap.size q := fun q h => Or.inr h
  have hS : va_S (va_A (WW t ad pA pL mL pD mD) s.heap.size) s.heap s.heap [] := va_S.rf
  have hx := B.exec
  have hb := B.bytes
  have hr := B.returns
  have hts := atoms_spec (ws := ws_ yX1_high cX1_high 8 none) B.pre
  have hts : ∀ w ∈ lw_all, w.before _ s = true := fun w h => hts w (List.mem_cons_of_mem _ h)
  have hown : s.vm.findClass RX1 = some m.cls := findClass_of_methodNamed B.named
  have hlocks := B.notSynchronized
  refine w_entry [.ref (ad 6), .int x, .int y, .int z] (Nat.le_of_ble_eq_true rfl) (fun ls hl => ?_)
  have hl : lv_has ls 8 [(0, .ref (ad 6)), (1, .int x), (2, .int y), (3, .int z)] := hl
  have hp3 := (hp j).1
  have hp6 := (hp j).2
  have h64 := p64 hp6
  have hpos := Nat.two_pow_pos (pD j)
  have hz : (uI z % 2 ^ 31 % (65 - pD j)) ≤ 64 - pD j := by have := Nat.mod_lt (uI z % 2 ^ 31) (show 0 < 65 - pD j by omega); omega
  refine lv_aload_n hx hb dX1_high_0 rfl (lv_at hl 0 rfl) ?_
  refine va_get (D := D) (ci := 1) (v := .ref (ad 7)) (C := RX1) (T := TX1) (N := 1) hx hb hts in_X1 hown hK.1 hP 6 (rfl) rfl 0 (by decide) (hts _ q119) (fun _ h9 => h9) rfl dX1_high_1 ?_
  refine lv_iload_n hx hb dX1_high_4 rfl (lv_at hl 1 rfl) ?_
  refine vp_callSi (W.runS (As := [.int x]) (rest := [.ref (ad 7)]) ⟨hx, hb, hml, hown, hts⟩ (met_k l x) (va_cwS 1 hts (lw_S q149 q150 q7 q151) rfl rfl rfl (by decide +kernel) ⟨Nat.le_of_ble_eq_true rfl, Nat.le_of_ble_eq_true rfl⟩) (preS_p) rfl rfl hl.1 rfl (lv_room (Nat.le_of_ble_eq_true rfl)) dX1_high_5 ⟨Nat.le_of_ble_eq_true rfl, Nat.le_of_ble_eq_true rfl⟩) (fun r5 e5 => ?_)
  obtain rfl : r5 = (nI (uI x % 2 ^ 31 % 3)) := e5
  rw [hj]
  refine xr_aald hx hb hK.1 hP 7 3 rfl (rfl) rfl (hj3) (by omega) (v := (ad (8 + j))) (ref3_u hj3) dX1_high_8 ?_
  refine vp_callSi (W.runV (As := []) (rest := []) ⟨hx, hb, hml, hown, hts⟩ (met_getP l D t (WW t ad pA pL mL pD mD) (8 + j) (11 + j) (ad (8 + j)) (ad (11 + j)) (pD j) (mD j) ((hp j).2) (WW_u hj3) (WW_b hj3)) (cwV 0 hts (lw_V q153 q154 q155 q8 q156) rfl rfl rfl (by decide +kernel) ⟨Nat.le_of_ble_eq_true rfl, Nat.le_of_ble_eq_true rfl⟩) (preV_r (8 + j) 2 hK hP rfl (WW_u hj3)) rfl rfl hl.1 rfl (lv_room (Nat.le_of_ble_eq_true rfl)) dX1_high_9 ⟨Nat.le_of_ble_eq_true rfl, Nat.le_of_ble_eq_true rfl⟩) (fun r9 e9 => ?_)
  obtain rfl : r9 = (nI (pD j)) := e9
  refine lv_istore (lv' := [(4, .int (nI (pD j))), (0, .ref (ad 6)), (1, .int x), (2, .int y), (3, .int z)]) hx hb dX1_high_12 hl (by decide) rfl (fun ls hl => ?_)
  refine lv_iload_n hx hb dX1_high_14 rfl (lv_at hl 4 rfl) ?_
  refine lv_ldc (v := (nI 2147483647)) hx hb hown (hts _ q152) dX1_high_15 ?_
  refine lv_iand hx hb dX1_high_17 ?_
  refine lv_topi (fun v17 e17 => ?_)
  obtain rfl : v17 = (nI (uI z % 2 ^ 31)) := by rw [e17]; exact pk_and z 31 (by decide)
  refine lv_bipush (v := (nI 65)) hx hb dX1_high_18 (by decide) ?_
  refine lv_iload hx hb dX1_high_20 (lv_at hl 0 rfl) ?_
  refine lv_isub hx hb dX1_high_22 ?_
  refine lv_topi (fun v22 e22 => ?_)
  obtain rfl : v22 = (nI (65 - pD j)) := by rw [e22]; exact pk_sub (by omega)
  refine lv_irem hx hb dX1_high_23 (nI_ne0 (by omega) (by omega)) ?_
  refine lv_topi (fun v23 e23 => ?_)
  obtain rfl : v23 = (nI (uI z % 2 ^ 31 % (65 - pD j))) := by rw [e23]; exact pk_rem (Nat.mod_lt _ (by decide)) (by omega) (by omega)
  refine lv_istore (lv' := [(5, .int (nI (uI z % 2 ^ 31 % (65 - pD j)))), (4, .int (nI (pD j))), (0, .ref (ad 6)), (1, .int x), (2, .int y), (3, .int z)]) hx hb dX1_high_24 hl (by decide) rfl (fun ls hl => ?_)
  refine lv_iload hx hb dX1_high_26 (lv_at hl 0 rfl) ?_
  refine lv_bipush (v := (nI 64)) hx hb dX1_high_28 (by decide) ?_
  refine lv_iload hx hb dX1_high_30 (lv_at hl 1 rfl) ?_
  refine lv_isub hx hb dX1_high_32 ?_
  refine lv_topi (fun v32 e32 => ?_)
  obtain rfl : v32 = (nI (64 - pD j)) := by rw [e32]; exact pk_sub (by omega)
  refine lv_icmp_ne (tgt := 40) hx hb dX1_high_33 (by decide) (fun c33 => ?_) (fun c33 => ?_)
  · have hc : ¬ (uI z % 2 ^ 31 % (65 - pD j)) = 64 - pD j := fun h => c33 (by rw [h])
    refine lv_lconst (v := (lN 1)) hx hb dX1_high_40 (by decide) ?_
    refine lv_bipush (v := (nI 63)) hx hb dX1_high_41 (by decide) ?_
    refine lv_iload hx hb dX1_high_43 (lv_at hl 1 rfl) ?_
    refine lv_isub hx hb dX1_high_45 ?_
    refine lv_topi (fun v45 e45 => ?_)
    obtain rfl : v45 = (nI (63 - pD j)) := by rw [e45]; exact pk_sub (by omega)
    refine lv_iload hx hb dX1_high_46 (lv_at hl 0 rfl) ?_
    refine lv_isub hx hb dX1_high_48 ?_
    refine lv_topi (fun v48 e48 => ?_)
    obtain rfl : v48 = (nI (63 - pD j - (uI z % 2 ^ 31 % (65 - pD j)))) := by rw [e48]; exact pk_sub (by omega)
    refine lv_lshl hx hb dX1_high_49 rfl ?_
    refine lv_topl (fun v49 e49 => ?_)
    obtain rfl : v49 = (lN (if (uI z % 2 ^ 31 % (65 - pD j)) = 64 - pD j then 0 else 2 ^ (63 - pD j - (uI z % 2 ^ 31 % (65 - pD j))))) := by rw [e49, if_neg hc]; exact (wb_shl 1 (by omega)).trans (congrArg lN (Nat.one_mul _))
    refine lv_lstore (lv' := [(6, .long (lN (if (uI z % 2 ^ 31 % (65 - pD j)) = 64 - pD j then 0 else 2 ^ (63 - pD j - (uI z % 2 ^ 31 % (65 - pD j)))))), (5, .int (nI (uI z % 2 ^ 31 % (65 - pD j)))), (4, .int (nI (pD j))), (0, .ref (ad 6)), (1, .int x), (2, .int y), (3, .int z)]) hx hb dX1_high_50 hl (by decide) rfl (fun ls hl => ?_)
    refine lv_aload_n hx hb dX1_high_52 rfl (lv_at hl 3 rfl) ?_
    refine va_get (D := D) (ci := 1) (v := .ref (ad 7)) (C := RX1) (T := TX1) (N := 1) hx hb hts in_X1 hown hK.1 hP 6 (rfl) rfl 0 (by decide) (hts _ q119) (fun _ h9 => h9) rfl dX1_high_53 ?_
    refine lv_iload_n hx hb dX1_high_56 rfl (lv_at hl 4 rfl) ?_
    refine vp_callSi (W.runS (As := [.int x]) (rest := [.ref (ad 7)]) ⟨hx, hb, hml, hown, hts⟩ (met_k l x) (va_cwS 1 hts (lw_S q149 q150 q7 q151) rfl rfl rfl (by decide +kernel) ⟨Nat.le_of_ble_eq_true rfl, Nat.le_of_ble_eq_true rfl⟩) (preS_p) rfl rfl hl.1 rfl (lv_room (Nat.le_of_ble_eq_true rfl)) dX1_high_57 ⟨Nat.le_of_ble_eq_true rfl, Nat.le_of_ble_eq_true rfl⟩) (fun r57 e57 => ?_)
    obtain rfl : r57 = (nI (uI x % 2 ^ 31 % 3)) := e57
    rw [hj]
    refine xr_aald hx hb hK.1 hP 7 3 rfl (rfl) rfl (hj3) (by omega) (v := (ad (8 + j))) (ref3_u hj3) dX1_high_60 ?_
    refine lv_iload_n hx hb dX1_high_61 rfl (lv_at hl 5 rfl) ?_
    refine lv_iconst (v := (nI 1)) hx hb dX1_high_62 (by decide) ?_
    refine lv_iload hx hb dX1_high_63 (lv_at hl 2 rfl) ?_
    refine lv_ishl hx hb dX1_high_65 ?_
    refine lv_topi (fun v65 e65 => ?_)
    obtain rfl : v65 = (nI (2 ^ pD j)) := by rw [e65]; exact (pk_shlN (n := 1) (nI (pD j) &&& 31) (pD j) ((by decide +kernel : ∀ k, k < 31 → ((nI k &&& 31).toBitVec.smod 32).toNat = k) (pD j) (by omega)) (by omega)).trans (congrArg nI (Nat.one_mul _))
    refine lv_iconst (v := (nI 1)) hx hb dX1_high_66 (by decide) ?_
    refine lv_isub hx hb dX1_high_67 ?_
    refine lv_topi (fun v67 e67 => ?_)
    obtain rfl : v67 = (nI (2 ^ pD j - 1)) := by rw [e67]; exact pk_sub hpos
    refine lv_iand hx hb dX1_high_68 ?_
    refine lv_topi (fun v68 e68 => ?_)
    obtain rfl : v68 = (nI (uI y % 2 ^ pD j)) := by rw [e68]; exact pk_and y (pD j) (pk_tn (by omega))
    refine lv_i2l hx hb dX1_high_69 rfl ?_
    refine lv_topl (fun v69 e69 => ?_)
    obtain rfl : v69 = (lN (uI y % 2 ^ pD j)) := by rw [e69]; exact nI_l (Nat.lt_trans (Nat.mod_lt _ hpos) (by omega))
    refine lv_bipush (v := (nI 64)) hx hb dX1_high_70 (by decide) ?_
    refine lv_iload hx hb dX1_high_72 (lv_at hl 2 rfl) ?_
    refine lv_isub hx hb dX1_high_74 ?_
    refine lv_topi (fun v74 e74 => ?_)
    obtain rfl : v74 = (nI (64 - pD j)) := by rw [e74]; exact pk_sub (by omega)
    refine lv_lshl hx hb dX1_high_75 rfl ?_
    refine lv_topl (fun v75 e75 => ?_)
    obtain rfl : v75 = (lN (uI y % 2 ^ pD j * 2 ^ (64 - pD j))) := by rw [e75]; exact wb_shl _ (by omega)
    refine lv_lload hx hb dX1_high_76 (lv_at hl 0 rfl) ?_
    refine lv_lor hx hb dX1_high_78 ?_
    refine lv_topl (fun v78 e78 => ?_)
    obtain rfl : v78 = (lN (hiH (pD j) (uI y) (uI z % 2 ^ 31 % (65 - pD j)))) := by rw [e78]; exact g_or (k := 64 - pD j) rfl (hi_rest (by omega)) (hiH_lt (q := pD j) (by omega))
    refine cw_h (va_runV (As := [.long (lN (hiH (pD j) (uI y) (uI z % 2 ^ 31 % (65 - pD j))))]) (rest := []) ⟨hx, hb, hml, hown, hts⟩ (met_add l D t (WW t ad pA pL mL pD mD) s.heap.size (8 + j) (11 + j) (ad (8 + j)) (ad (11 + j)) (pD j) (mD j) (hiH (pD j) (uI y) (uI z % 2 ^ 31 % (65 - pD j))) ((hp j).1) ((hp j).2) (hiH_lt (by omega)) (hM j) (WW_u hj3) (WW_b hj3)) (cwV 1 hts (lw_V q203 q204 q205 q8 q206) rfl rfl rfl (by decide +kernel) ⟨Nat.le_of_ble_eq_true rfl, Nat.le_of_ble_eq_true rfl⟩) (preV_w (8 + j) 2 hK hP hD rfl (WW_u hj3)) rfl rfl hl.1 rfl (lv_room (Nat.le_of_ble_eq_true rfl)) dX1_high_79 ⟨Nat.le_of_ble_eq_true rfl, Nat.le_of_ble_eq_true rfl⟩) hD hS hA (fun u79 H locs hp79 hP hD hS => ?_)
    refine W.widen (k := 0) (n := 0) (by omega) (by omega) ?_
    rw [addH_is (by omega) hz] at hP hD
    have hP : va_P D vwCl ((WW t ad pA pL mL pD (va_up mD j (addH (pD j) (mD j) (uI y) (uI z % 2 ^ 31 % (65 - pD j)))))) H := by rw [WW_setb hj3] at hP; exact hP
    have hD : va_D (va_A (WW t ad pA pL mL pD mD) s.heap.size) ((WW t ad pA pL mL pD (va_up mD j (addH (pD j) (mD j) (uI y) (uI z % 2 ^ 31 % (65 - pD j)))))) := by rw [WW_setb hj3] at hD; exact hD
    refine lv_pop hx hb dX1_high_82 rfl ?_
    exact W.vret hx hb hr (fun t ht hW => ⟨⟨(), rfl, trivial, by rw [ht]; exact hP, hD⟩, hS.F ht⟩) hS.2.2 dX1_high_83
  · have hc : (uI z % 2 ^ 31 % (65 - pD j)) = 64 - pD j := (nI_eq (by omega) (by omega)).mp c33
    refine lv_lconst (v := (lN 0)) hx hb dX1_high_36 (by decide) ?_
    refine lv_goto (tgt := 50) hx hb dX1_high_37 (by decide) ?_
    have e9 : lN 0 = lN (if (uI z % 2 ^ 31 % (65 - pD j)) = 64 - pD j then 0 else 2 ^ (63 - pD j - (uI z % 2 ^ 31 % (65 - pD j)))) := by rw [if_pos hc]
    rw [e9]
    refine lv_lstore (lv' := [(6, .long (lN (if (uI z % 2 ^ 31 % (65 - pD j)) = 64 - pD j then 0 else 2 ^ (63 - pD j - (uI z % 2 ^ 31 % (65 - pD j)))))), (5, .int (nI (uI z % 2 ^ 31 % (65 - pD j)))), (4, .int (nI (pD j))), (0, .ref (ad 6)), (1, .int x), (2, .int y), (3, .int z)]) hx hb dX1_high_50 hl (by decide) rfl (fun ls hl => ?_)
    refine lv_aload_n hx hb dX1_high_52 rfl (lv_at hl 3 rfl) ?_
    refine va_get (D := D) (ci := 1) (v := .ref (ad 7)) (C := RX1) (T := TX1) (N := 1) hx hb hts in_X1 hown hK.1 hP 6 (rfl) rfl 0 (by decide) (hts _ q119) (fun _ h9 => h9) rfl dX1_high_53 ?_
    refine lv_iload_n hx hb dX1_high_56 rfl (lv_at hl 4 rfl) ?_
    refine vp_callSi (W.runS (As := [.int x]) (rest := [.ref (ad 7)]) ⟨hx, hb, hml, hown, hts⟩ (met_k l x) (va_cwS 1 hts (lw_S q149 q150 q7 q151) rfl rfl rfl (by decide +kernel) ⟨Nat.le_of_ble_eq_true rfl, Nat.le_of_ble_eq_true rfl⟩) (preS_p) rfl rfl hl.1 rfl (lv_room (Nat.le_of_ble_eq_true rfl)) dX1_high_57 ⟨Nat.le_of_ble_eq_true rfl, Nat.le_of_ble_eq_true rfl⟩) (fun r57 e57 => ?_)
    obtain rfl : r57 = (nI (uI x % 2 ^ 31 % 3)) := e57
    rw [hj]
    refine xr_aald hx hb hK.1 hP 7 3 rfl (rfl) rfl (hj3) (by omega) (v := (ad (8 + j))) (ref3_u hj3) dX1_high_60 ?_
    refine lv_iload_n hx hb dX1_high_61 rfl (lv_at hl 5 rfl) ?_
    refine lv_iconst (v := (nI 1)) hx hb dX1_high_62 (by decide) ?_
    refine lv_iload hx hb dX1_high_63 (lv_at hl 2 rfl) ?_
    refine lv_ishl hx hb dX1_high_65 ?_
    refine lv_topi (fun v65 e65 => ?_)
    obtain rfl : v65 = (nI (2 ^ pD j)) := by rw [e65]; exact (pk_shlN (n := 1) (nI (pD j) &&& 31) (pD j) ((by decide +kernel : ∀ k, k < 31 → ((nI k &&& 31).toBitVec.smod 32).toNat = k) (pD j) (by omega)) (by omega)).trans (congrArg nI (Nat.one_mul _))
    refine lv_iconst (v := (nI 1)) hx hb dX1_high_66 (by decide) ?_
    refine lv_isub hx hb dX1_high_67 ?_
    refine lv_topi (fun v67 e67 => ?_)
    obtain rfl : v67 = (nI (2 ^ pD j - 1)) := by rw [e67]; exact pk_sub hpos
    refine lv_iand hx hb dX1_high_68 ?_
    refine lv_topi (fun v68 e68 => ?_)
    obtain rfl : v68 = (nI (uI y % 2 ^ pD j)) := by rw [e68]; exact pk_and y (pD j) (pk_tn (by omega))
    refine lv_i2l hx hb dX1_high_69 rfl ?_
    refine lv_topl (fun v69 e69 => ?_)
    obtain rfl : v69 = (lN (uI y % 2 ^ pD j)) := by rw [e69]; exact nI_l (Nat.lt_trans (Nat.mod_lt _ hpos) (by omega))
    refine lv_bipush (v := (nI 64)) hx hb dX1_high_70 (by decide) ?_
    refine lv_iload hx hb dX1_high_72 (lv_at hl 2 rfl) ?_
    refine lv_isub hx hb dX1_high_74 ?_
    refine lv_topi (fun v74 e74 => ?_)
    obtain rfl : v74 = (nI (64 - pD j)) := by rw [e74]; exact pk_sub (by omega)
    refine lv_lshl hx hb dX1_high_75 rfl ?_
    refine lv_topl (fun v75 e75 => ?_)
    obtain rfl : v75 = (lN (uI y % 2 ^ pD j * 2 ^ (64 - pD j))) := by rw [e75]; exact wb_shl _ (by omega)
    refine lv_lload hx hb dX1_high_76 (lv_at hl 0 rfl) ?_
    refine lv_lor hx hb dX1_high_78 ?_
    refine lv_topl (fun v78 e78 => ?_)
    obtain rfl : v78 = (lN (hiH (pD j) (uI y) (uI z % 2 ^ 31 % (65 - pD j)))) := by rw [e78]; exact g_or (k := 64 - pD j) rfl (hi_rest (by omega)) (hiH_lt (q := pD j) (by omega))
    refine cw_h (va_runV (As := [.long (lN (hiH (pD j) (uI y) (uI z % 2 ^ 31 % (65 - pD j))))]) (rest := []) ⟨hx, hb, hml, hown, hts⟩ (met_add l D t (WW t ad pA pL mL pD mD) s.heap.size (8 + j) (11 + j) (ad (8 + j)) (ad (11 + j)) (pD j) (mD j) (hiH (pD j) (uI y) (uI z % 2 ^ 31 % (65 - pD j))) ((hp j).1) ((hp j).2) (hiH_lt (by omega)) (hM j) (WW_u hj3) (WW_b hj3)) (cwV 1 hts (lw_V q203 q204 q205 q8 q206) rfl rfl rfl (by decide +kernel) ⟨Nat.le_of_ble_eq_true rfl, Nat.le_of_ble_eq_true rfl⟩) (preV_w (8 + j) 2 hK hP hD rfl (WW_u hj3)) rfl rfl hl.1 rfl (lv_room (Nat.le_of_ble_eq_true rfl)) dX1_high_79 ⟨Nat.le_of_ble_eq_true rfl, Nat.le_of_ble_eq_true rfl⟩) hD hS hA (fun u79 H locs hp79 hP hD hS => ?_)
    refine W.widen (k := 0) (n := 0) (by omega) (by omega) ?_
    rw [addH_is (by omega) hz] at hP hD
    have hP : va_P D vwCl ((WW t ad pA pL mL pD (va_up mD j (addH (pD j) (mD j) (uI y) (uI z % 2 ^ 31 % (65 - pD j)))))) H := by rw [WW_setb hj3] at hP; exact hP
    have hD : va_D (va_A (WW t ad pA pL mL pD mD) s.heap.size) ((WW t ad pA pL mL pD (va_up mD j (addH (pD j) (mD j) (uI y) (uI z % 2 ^ 31 % (65 - pD j)))))) := by rw [WW_setb hj3] at hD; exact hD
    refine lv_pop hx hb dX1_high_82 rfl ?_
    exact W.vret hx hb hr (fun t ht hW => ⟨⟨(), rfl, trivial, by rw [ht]; exact hP, hD⟩, hS.F ht⟩) hS.2.2 dX1_high_83

set_option maxHeartbeats 4000000 in
set_option maxRecDepth 100000 in
/-- UltraSketchDesk.take -/
theorem met_dtake (l : Launch) (D : va_G) (t : Nat → ClassId) (ad pA pL : Nat → Nat) (mL : Nat → Nat → Nat) (pD : Nat → Nat) (mD : Nat → Nat → Nat) (sz : Nat) (hp : ∀ j, 3 ≤ pD j ∧ pD j ≤ 6) (hM : ∀ j, Ok (mD j)) (x : Int32) (jt : Nat) (hjt : uI x % 2 ^ 31 % 3 = jt) (hjt3 : jt < 3) (y : Int32) (jf : Nat) (hjf : uI y % 2 ^ 31 % 3 = jf) (hjf3 : jf < 3) : Met l yX1_take (ws_ yX1_take cX1_take 3 none) ({ frames := 4, cells := 0, slots := 0, locals := 123 } : Room) (Pw [.ref (ad 6), .int x, .int y] D t sz (WW t ad pA pL mL pD mD)) (Qv D (WW t ad pA pL mL pD mD) sz (fun _ : Unit => True) (fun u => (WW t ad pA pL mL pD (takeM pD mD jt jf)))) 0 0 (va_A (WW t ad pA pL mL pD mD) sz) := by
  refine Met.ofW (cc := cX1_take) (maxL := 3) (ret := none) (by decide) rfl ?_
  intro p e s m args below meth c s₁ B hml hv
  obtain ⟨rfl, hK, hsz, hP, hD0⟩ := hv
  subst hsz
  have hD := hD0.self (sz := s.heap.size)
  have hA : ∀ q : Nat, s.heap.size ≤ q → va_A (WW t ad pA pL mL pD mD) s.heap.size q := fun q h => Or.inr h
  have hS : va_S (va_A (WW t ad pA pL mL pD mD) s.heap.size) s.heap s.heap [] := va_S.rf
  have hx := B.exec
  have hb := B.bytes
  have hr := B.returns
  have hts := atoms_spec (ws := ws_ yX1_take cX1_take 3 none) B.pre
  have hts : ∀ w ∈ lw_all, w.before _ s = true := fun w h => hts w (List.mem_cons_of_mem _ h)
  have hown : s.vm.findClass RX1 = some m.cls := findClass_of_methodNamed B.named
  have hlocks := B.notSynchronized
  refine w_entry [.ref (ad 6), .int x, .int y] (Nat.le_of_ble_eq_true rfl) (fun ls hl => ?_)
  have hl : lv_has ls 3 [(0, .ref (ad 6)), (1, .int x), (2, .int y)] := hl
  refine lv_aload_n hx hb dX1_take_0 rfl (lv_at hl 0 rfl) ?_
  refine va_get (D := D) (ci := 1) (v := .ref (ad 7)) (C := RX1) (T := TX1) (N := 1) hx hb hts in_X1 hown hK.1 hP 6 (rfl) rfl 0 (by decide) (hts _ q119) (fun _ h9 => h9) rfl dX1_take_1 ?_
  refine lv_iload_n hx hb dX1_take_4 rfl (lv_at hl 2 rfl) ?_
  refine vp_callSi (W.runS (As := [.int y]) (rest := [.ref (ad 7)]) ⟨hx, hb, hml, hown, hts⟩ (met_k l y) (va_cwS 1 hts (lw_S q149 q150 q7 q151) rfl rfl rfl (by decide +kernel) ⟨Nat.le_of_ble_eq_true rfl, Nat.le_of_ble_eq_true rfl⟩) (preS_p) rfl rfl hl.1 rfl (lv_room (Nat.le_of_ble_eq_true rfl)) dX1_take_5 ⟨Nat.le_of_ble_eq_true rfl, Nat.le_of_ble_eq_true rfl⟩) (fun r5 e5 => ?_)
  obtain rfl : r5 = (nI (uI y % 2 ^ 31 % 3)) := e5
  rw [hjf]
  refine xr_aald hx hb hK.1 hP 7 3 rfl (rfl) rfl (hjf3) (by omega) (v := (ad (8 + jf))) (ref3_u hjf3) dX1_take_8 ?_
  refine vp_callSi (W.runV (As := []) (rest := []) ⟨hx, hb, hml, hown, hts⟩ (met_getP l D t (WW t ad pA pL mL pD mD) (8 + jf) (11 + jf) (ad (8 + jf)) (ad (11 + jf)) (pD jf) (mD jf) ((hp jf).2) (WW_u hjf3) (WW_b hjf3)) (cwV 0 hts (lw_V q153 q154 q155 q8 q156) rfl rfl rfl (by decide +kernel) ⟨Nat.le_of_ble_eq_true rfl, Nat.le_of_ble_eq_true rfl⟩) (preV_r (8 + jf) 2 hK hP rfl (WW_u hjf3)) rfl rfl hl.1 rfl (lv_room (Nat.le_of_ble_eq_true rfl)) dX1_take_9 ⟨Nat.le_of_ble_eq_true rfl, Nat.le_of_ble_eq_true rfl⟩) (fun r9 e9 => ?_)
  obtain rfl : r9 = (nI (pD jf)) := e9
  refine lv_aload_n hx hb dX1_take_12 rfl (lv_at hl 0 rfl) ?_
  refine va_get (D := D) (ci := 1) (v := .ref (ad 7)) (C := RX1) (T := TX1) (N := 1) hx hb hts in_X1 hown hK.1 hP 6 (rfl) rfl 0 (by decide) (hts _ q119) (fun _ h9 => h9) rfl dX1_take_13 ?_
  refine lv_iload_n hx hb dX1_take_16 rfl (lv_at hl 1 rfl) ?_
  refine vp_callSi (W.runS (As := [.int x]) (rest := [.ref (ad 7), .int (nI (pD jf))]) ⟨hx, hb, hml, hown, hts⟩ (met_k l x) (va_cwS 1 hts (lw_S q149 q150 q7 q151) rfl rfl rfl (by decide +kernel) ⟨Nat.le_of_ble_eq_true rfl, Nat.le_of_ble_eq_true rfl⟩) (preS_p) rfl rfl hl.1 rfl (lv_room (Nat.le_of_ble_eq_true rfl)) dX1_take_17 ⟨Nat.le_of_ble_eq_true rfl, Nat.le_of_ble_eq_true rfl⟩) (fun r17 e17 => ?_)
  obtain rfl : r17 = (nI (uI x % 2 ^ 31 % 3)) := e17
  rw [hjt]
  refine xr_aald hx hb hK.1 hP 7 3 rfl (rfl) rfl (hjt3) (by omega) (v := (ad (8 + jt))) (ref3_u hjt3) dX1_take_20 ?_
  refine vp_callSi (W.runV (As := []) (rest := [.int (nI (pD jf))]) ⟨hx, hb, hml, hown, hts⟩ (met_getP l D t (WW t ad pA pL mL pD mD) (8 + jt) (11 + jt) (ad (8 + jt)) (ad (11 + jt)) (pD jt) (mD jt) ((hp jt).2) (WW_u hjt3) (WW_b hjt3)) (cwV 0 hts (lw_V q153 q154 q155 q8 q156) rfl rfl rfl (by decide +kernel) ⟨Nat.le_of_ble_eq_true rfl, Nat.le_of_ble_eq_true rfl⟩) (preV_r (8 + jt) 2 hK hP rfl (WW_u hjt3)) rfl rfl hl.1 rfl (lv_room (Nat.le_of_ble_eq_true rfl)) dX1_take_21 ⟨Nat.le_of_ble_eq_true rfl, Nat.le_of_ble_eq_true rfl⟩) (fun r21 e21 => ?_)
  obtain rfl : r21 = (nI (pD jt)) := e21
  have h6t := (hp jt).2
  have h6f := (hp jf).2
  refine lv_icmp_lt (tgt := 60) hx hb dX1_take_24 (by decide) (fun c24 => ?_) (fun c24 => ?_)
  · have hn : ¬ (pD jt ≤ pD jf ∧ jf ≠ jt) := fun h => by have h9 := (nI_ltI (by omega) (by omega)).mp c24; omega
    have hP : va_P D vwCl (WW t ad pA pL mL pD (takeM pD mD jt jf)) s.heap := by unfold takeM; rw [if_neg hn]; exact hP
    have hD : va_D (va_A (WW t ad pA pL mL pD mD) s.heap.size) (WW t ad pA pL mL pD (takeM pD mD jt jf)) := by unfold takeM; rw [if_neg hn]; exact hD
    exact W.vret hx hb hr (fun t ht hW => ⟨⟨(), rfl, trivial, by rw [ht]; exact hP, hD⟩, hS.F ht⟩) hS.2.2 dX1_take_60
  · have hle : pD jt ≤ pD jf := by rcases Nat.lt_or_ge (pD jf) (pD jt) with h | h; exact absurd (nI_lt h (by omega)) c24; exact h
    refine lv_iload_n hx hb dX1_take_27 rfl (lv_at hl 2 rfl) ?_
    refine vp_callSi (W.runS (As := [.int y]) (rest := []) ⟨hx, hb, hml, hown, hts⟩ (met_k l y) (va_cwS 1 hts (lw_S q149 q150 q7 q151) rfl rfl rfl (by decide +kernel) ⟨Nat.le_of_ble_eq_true rfl, Nat.le_of_ble_eq_true rfl⟩) (preS_p) rfl rfl hl.1 rfl (lv_room (Nat.le_of_ble_eq_true rfl)) dX1_take_28 ⟨Nat.le_of_ble_eq_true rfl, Nat.le_of_ble_eq_true rfl⟩) (fun r28 e28 => ?_)
    obtain rfl : r28 = (nI (uI y % 2 ^ 31 % 3)) := e28
    rw [hjf]
    refine lv_iload_n hx hb dX1_take_31 rfl (lv_at hl 1 rfl) ?_
    refine vp_callSi (W.runS (As := [.int x]) (rest := [.int (nI jf)]) ⟨hx, hb, hml, hown, hts⟩ (met_k l x) (va_cwS 1 hts (lw_S q149 q150 q7 q151) rfl rfl rfl (by decide +kernel) ⟨Nat.le_of_ble_eq_true rfl, Nat.le_of_ble_eq_true rfl⟩) (preS_p) rfl rfl hl.1 rfl (lv_room (Nat.le_of_ble_eq_true rfl)) dX1_take_32 ⟨Nat.le_of_ble_eq_true rfl, Nat.le_of_ble_eq_true rfl⟩) (fun r32 e32 => ?_)
    obtain rfl : r32 = (nI (uI x % 2 ^ 31 % 3)) := e32
    rw [hjt]
    refine lv_icmp_eq (tgt := 60) hx hb dX1_take_35 (by decide) (fun c35 => ?_) (fun c35 => ?_)
    · have hn : ¬ (pD jt ≤ pD jf ∧ jf ≠ jt) := fun h => h.2 ((nI_eq (by omega) (by omega)).mp c35)
      have hP : va_P D vwCl (WW t ad pA pL mL pD (takeM pD mD jt jf)) s.heap := by unfold takeM; rw [if_neg hn]; exact hP
      have hD : va_D (va_A (WW t ad pA pL mL pD mD) s.heap.size) (WW t ad pA pL mL pD (takeM pD mD jt jf)) := by unfold takeM; rw [if_neg hn]; exact hD
      exact W.vret hx hb hr (fun t ht hW => ⟨⟨(), rfl, trivial, by rw [ht]; exact hP, hD⟩, hS.F ht⟩) hS.2.2 dX1_take_60
    · have hne : jf ≠ jt := fun h => c35 (by rw [h])
      refine lv_aload_n hx hb dX1_take_38 rfl (lv_at hl 0 rfl) ?_
      refine va_get (D := D) (ci := 1) (v := .ref (ad 7)) (C := RX1) (T := TX1) (N := 1) hx hb hts in_X1 hown hK.1 hP 6 (rfl) rfl 0 (by decide) (hts _ q119) (fun _ h9 => h9) rfl dX1_take_39 ?_
      refine lv_iload_n hx hb dX1_take_42 rfl (lv_at hl 1 rfl) ?_
      refine vp_callSi (W.runS (As := [.int x]) (rest := [.ref (ad 7)]) ⟨hx, hb, hml, hown, hts⟩ (met_k l x) (va_cwS 1 hts (lw_S q149 q150 q7 q151) rfl rfl rfl (by decide +kernel) ⟨Nat.le_of_ble_eq_true rfl, Nat.le_of_ble_eq_true rfl⟩) (preS_p) rfl rfl hl.1 rfl (lv_room (Nat.le_of_ble_eq_true rfl)) dX1_take_43 ⟨Nat.le_of_ble_eq_true rfl, Nat.le_of_ble_eq_true rfl⟩) (fun r43 e43 => ?_)
      obtain rfl : r43 = (nI (uI x % 2 ^ 31 % 3)) := e43
      rw [hjt]
      refine xr_aald hx hb hK.1 hP 7 3 rfl (rfl) rfl (hjt3) (by omega) (v := (ad (8 + jt))) (ref3_u hjt3) dX1_take_46 ?_
      refine lv_aload_n hx hb dX1_take_47 rfl (lv_at hl 0 rfl) ?_
      refine va_get (D := D) (ci := 1) (v := .ref (ad 7)) (C := RX1) (T := TX1) (N := 1) hx hb hts in_X1 hown hK.1 hP 6 (rfl) rfl 0 (by decide) (hts _ q119) (fun _ h9 => h9) rfl dX1_take_48 ?_
      refine lv_iload_n hx hb dX1_take_51 rfl (lv_at hl 2 rfl) ?_
      refine vp_callSi (W.runS (As := [.int y]) (rest := [.ref (ad 7), .ref (ad (8 + jt))]) ⟨hx, hb, hml, hown, hts⟩ (met_k l y) (va_cwS 1 hts (lw_S q149 q150 q7 q151) rfl rfl rfl (by decide +kernel) ⟨Nat.le_of_ble_eq_true rfl, Nat.le_of_ble_eq_true rfl⟩) (preS_p) rfl rfl hl.1 rfl (lv_room (Nat.le_of_ble_eq_true rfl)) dX1_take_52 ⟨Nat.le_of_ble_eq_true rfl, Nat.le_of_ble_eq_true rfl⟩) (fun r52 e52 => ?_)
      obtain rfl : r52 = (nI (uI y % 2 ^ 31 % 3)) := e52
      rw [hjf]
      refine xr_aald hx hb hK.1 hP 7 3 rfl (rfl) rfl (hjf3) (by omega) (v := (ad (8 + jf))) (ref3_u hjf3) dX1_take_55 ?_
      refine cw_h (va_runV (As := [.ref (ad (8 + jf))]) (rest := []) ⟨hx, hb, hml, hown, hts⟩ (met_addU l D t (WW t ad pA pL mL pD mD) s.heap.size (8 + jt) (11 + jt) (ad (8 + jt)) (ad (11 + jt)) (pD jt) (mD jt) (8 + jf) (11 + jf) (ad (8 + jf)) (ad (11 + jf)) (mD jf) (pD jf) ((hp jt).1) hle h6f (hM jt) (hM jf) (WW_u hjt3) (WW_b hjt3) (WW_u hjf3) (WW_b hjf3) (by omega)) (cwV 1 hts (lw_V q300 q288 q289 q8 q290) rfl rfl rfl (by decide +kernel) ⟨Nat.le_of_ble_eq_true rfl, Nat.le_of_ble_eq_true rfl⟩) (preV_w (8 + jt) 2 hK hP hD rfl (WW_u hjt3)) rfl rfl hl.1 rfl (lv_room (Nat.le_of_ble_eq_true rfl)) dX1_take_56 ⟨Nat.le_of_ble_eq_true rfl, Nat.le_of_ble_eq_true rfl⟩) hD hS hA (fun u56 H locs hp56 hP hD hS => ?_)
      refine W.widen (k := 0) (n := 0) (by omega) (by omega) ?_
      have hP : va_P D vwCl ((WW t ad pA pL mL pD (takeM pD mD jt jf))) H := by unfold takeM; rw [if_pos ⟨hle, hne⟩, ← WW_setb hjt3]; exact hP
      have hD : va_D (va_A (WW t ad pA pL mL pD mD) s.heap.size) ((WW t ad pA pL mL pD (takeM pD mD jt jf))) := by unfold takeM; rw [if_pos ⟨hle, hne⟩, ← WW_setb hjt3]; exact hD
      refine lv_pop hx hb dX1_take_59 rfl ?_
      exact W.vret hx hb hr (fun t ht hW => ⟨⟨(), rfl, trivial, by rw [ht]; exact hP, hD⟩, hS.F ht⟩) hS.2.2 dX1_take_60

set_option maxHeartbeats 4000000 in
set_option maxRecDepth 100000 in
/-- UltraSketchDesk.anew -/
theorem met_danew (l : Launch) (D : va_G) (t : Nat → ClassId) (ad pA pL : Nat → Nat) (mL : Nat → Nat → Nat) (pD : Nat → Nat) (mD : Nat → Nat → Nat) (sz : Nat) (hp : ∀ j, 3 ≤ pD j ∧ pD j ≤ 6) (hM : ∀ j, Ok (mD j)) (x : Int32) (j : Nat) (hj : uI x % 2 ^ 31 % 3 = j) (hj3 : j < 3) (y : Int32) : Met l yX1_anew (ws_ yX1_anew cX1_anew 3 none) ({ frames := 3, cells := 2, slots := 65, locals := 53 } : Room) (Pw [.ref (ad 6), .int x, .int y] D t sz (WW t ad pA pL mL pD mD)) (Qv D (WW t ad pA pL mL pD mD) sz (fun _ : Nat × Nat => True) (fun u => (WW t (adR ad j u.1 u.2) pA pL mL (va_up pD j (3 + uI y % 2 ^ 2)) (va_up mD j (fun _ => 0))))) 2 65 (va_A (WW t ad pA pL mL pD mD) sz) := by
  refine Met.ofW (cc := cX1_anew) (maxL := 3) (ret := none) (by decide) rfl ?_
  intro p e s m args below meth c s₁ B hml hv
  obtain ⟨rfl, hK, hsz, hP, hD0⟩ := hv
  subst hsz
  have hD := hD0.self (sz := s.heap.size)
  have hA : ∀ q : Nat, s.heap.size ≤ q → va_A (WW t ad pA pL mL pD mD) s.heap.size q := fun q h => Or.inr h
  have hS : va_S (va_A (WW t ad pA pL mL pD mD) s.heap.size) s.heap s.heap [] := va_S.rf
  have hx := B.exec
  have hb := B.bytes
  have hr := B.returns
  have hts := atoms_spec (ws := ws_ yX1_anew cX1_anew 3 none) B.pre
  have hts : ∀ w ∈ lw_all, w.before _ s = true := fun w h => hts w (List.mem_cons_of_mem _ h)
  have hown : s.vm.findClass RX1 = some m.cls := findClass_of_methodNamed B.named
  have hlocks := B.notSynchronized
  refine w_entry [.ref (ad 6), .int x, .int y] (Nat.le_of_ble_eq_true rfl) (fun ls hl => ?_)
  have hl : lv_has ls 3 [(0, .ref (ad 6)), (1, .int x), (2, .int y)] := hl
  refine lv_aload_n hx hb dX1_anew_0 rfl (lv_at hl 0 rfl) ?_
  refine va_get (D := D) (ci := 1) (v := .ref (ad 7)) (C := RX1) (T := TX1) (N := 1) hx hb hts in_X1 hown hK.1 hP 6 (rfl) rfl 0 (by decide) (hts _ q119) (fun _ h9 => h9) rfl dX1_anew_1 ?_
  refine lv_iload_n hx hb dX1_anew_4 rfl (lv_at hl 1 rfl) ?_
  refine vp_callSi (W.runS (As := [.int x]) (rest := [.ref (ad 7)]) ⟨hx, hb, hml, hown, hts⟩ (met_k l x) (va_cwS 1 hts (lw_S q149 q150 q7 q151) rfl rfl rfl (by decide +kernel) ⟨Nat.le_of_ble_eq_true rfl, Nat.le_of_ble_eq_true rfl⟩) (preS_p) rfl rfl hl.1 rfl (lv_room (Nat.le_of_ble_eq_true rfl)) dX1_anew_5 ⟨Nat.le_of_ble_eq_true rfl, Nat.le_of_ble_eq_true rfl⟩) (fun r5 e5 => ?_)
  obtain rfl : r5 = (nI (uI x % 2 ^ 31 % 3)) := e5
  rw [hj]
  refine lv_iconst (v := (nI 3)) hx hb dX1_anew_8 (by decide) ?_
  refine lv_iload_n hx hb dX1_anew_9 rfl (lv_at hl 2 rfl) ?_
  refine lv_iconst (v := (nI 3)) hx hb dX1_anew_10 (by decide) ?_
  refine lv_iand hx hb dX1_anew_11 ?_
  refine lv_topi (fun v11 e11 => ?_)
  obtain rfl : v11 = (nI (uI y % 2 ^ 2)) := by rw [e11]; exact pk_and y 2 (by decide)
  refine lv_iadd hx hb dX1_anew_12 ?_
  refine lv_topi (fun v12 e12 => ?_)
  obtain rfl : v12 = (nI (3 + uI y % 2 ^ 2)) := by rw [e12]; exact nI_add _ _
  refine cw_r (va_runS (As := [.int (nI (3 + uI y % 2 ^ 2))]) (rest := [.int (nI j), .ref (ad 7)]) ⟨hx, hb, hml, hown, hts⟩ (met_create l D t (WW t ad pA pL mL pD mD) s.heap.size (3 + uI y % 2 ^ 2) (by omega) (by omega)) (va_cwS 1 hts (lw_S q37 q38 q8 q39) rfl rfl rfl (by decide +kernel) ⟨Nat.le_of_ble_eq_true rfl, Nat.le_of_ble_eq_true rfl⟩) (preS_w hK hP hD) rfl rfl hl.1 rfl (lv_room (Nat.le_of_ble_eq_true rfl)) dX1_anew_13 ⟨Nat.le_of_ble_eq_true rfl, Nat.le_of_ble_eq_true rfl⟩) hD hS hA (fun u13 z13 H locs hp13 hP hD hS => ?_)
  refine W.widen (k := 2) (n := 65) (by omega) (by omega) ?_
  have hP : va_P D vwCl (((WW t ad pA pL mL pD mD) ++ [(z13, .inr (2, [.ref u13])), (u13, cB t (3 + uI y % 2 ^ 2) (fun _ => 0))])) H := hP
  have hD : va_D (va_A (WW t ad pA pL mL pD mD) s.heap.size) (((WW t ad pA pL mL pD mD) ++ [(z13, .inr (2, [.ref u13])), (u13, cB t (3 + uI y % 2 ^ 2) (fun _ => 0))])) := hD
  refine xr_aast hx hb hK.1 hP hD hS 7 3 (14) 2 ((ref3 (adR ad j z13 u13 8) (adR ad j z13 u13 9) (adR ad j z13 u13 10))) (rfl) rfl (rfl) rfl (hj3) (by decide) (adR_hg hj3) dX1_anew_16 (fun H locs hP hD hS => ?_)
  have hP : va_P D vwCl (WW t (adR ad j z13 u13) pA pL mL (va_up pD j (3 + uI y % 2 ^ 2)) (va_up mD j (fun _ => 0))) H := WW_rowP hj3 _ hP
  have hD : va_D (va_A (WW t ad pA pL mL pD mD) s.heap.size) (WW t (adR ad j z13 u13) pA pL mL (va_up pD j (3 + uI y % 2 ^ 2)) (va_up mD j (fun _ => 0))) := WW_rowD hj3 _ hD
  exact W.vret hx hb hr (fun t ht hW => ⟨⟨(z13, u13), rfl, trivial, by rw [ht]; exact hP, hD⟩, hS.F ht⟩) hS.2.2 dX1_anew_17

set_option maxHeartbeats 4000000 in
set_option maxRecDepth 100000 in
/-- UltraSketchDesk.join -/
theorem met_djoin (l : Launch) (D : va_G) (t : Nat → ClassId) (ad pA pL : Nat → Nat) (mL : Nat → Nat → Nat) (pD : Nat → Nat) (mD : Nat → Nat → Nat) (sz : Nat) (hp : ∀ j, 3 ≤ pD j ∧ pD j ≤ 6) (hM : ∀ j, Ok (mD j)) (x : Int32) (jt : Nat) (hjt : uI x % 2 ^ 31 % 3 = jt) (hjt3 : jt < 3) (y : Int32) (ja : Nat) (hja : uI y % 2 ^ 31 % 3 = ja) (hja3 : ja < 3) (z : Int32) (jb : Nat) (hjb : uI z % 2 ^ 31 % 3 = jb) (hjb3 : jb < 3) (r : Nat) (hr1 : (pD ja ≤ pD jb ∧ r = pD ja) ∨ (pD jb < pD ja ∧ r = pD jb)) : Met l yX1_join (ws_ yX1_join cX1_join 4 none) ({ frames := 5, cells := 2, slots := 65, locals := 144 } : Room) (Pw [.ref (ad 6), .int x, .int y, .int z] D t sz (WW t ad pA pL mL pD mD)) (Qv D (WW t ad pA pL mL pD mD) sz (fun _ : Nat × Nat => True) (fun u => (WW t (adR ad jt u.1 u.2) pA pL mL (va_up pD jt r) (va_up mD jt (mrgM pD mD ja jb r))))) 2 65 (va_A (WW t ad pA pL mL pD mD) sz) := by
  refine Met.ofW (cc := cX1_join) (maxL := 4) (ret := none) (by decide) rfl ?_
  intro p e s m args below meth c s₁ B hml hv
  obtain ⟨rfl, hK, hsz, hP, hD0⟩ := hv
  subst hsz
  have hD := hD0.self (sz := s.heap.size)
  have hA : ∀ q : Nat, s.heap.size ≤ q → va_A (WW t ad pA pL mL pD mD) s.heap.size q := fun q h => Or.inr h
  have hS : va_S (va_A (WW t ad pA pL mL pD mD) s.heap.size) s.heap s.heap [] := va_S.rf
  have hx := B.exec
  have hb := B.bytes
  have hr := B.returns
  have hts := atoms_spec (ws := ws_ yX1_join cX1_join 4 none) B.pre
  have hts : ∀ w ∈ lw_all, w.before _ s = true := fun w h => hts w (List.mem_cons_of_mem _ h)
  have hown : s.vm.findClass RX1 = some m.cls := findClass_of_methodNamed B.named
  have hlocks := B.notSynchronized
  refine w_entry [.ref (ad 6), .int x, .int y, .int z] (Nat.le_of_ble_eq_true rfl) (fun ls hl => ?_)
  have hl : lv_has ls 4 [(0, .ref (ad 6)), (1, .int x), (2, .int y), (3, .int z)] := hl
  refine lv_aload_n hx hb dX1_join_0 rfl (lv_at hl 0 rfl) ?_
  refine va_get (D := D) (ci := 1) (v := .ref (ad 7)) (C := RX1) (T := TX1) (N := 1) hx hb hts in_X1 hown hK.1 hP 6 (rfl) rfl 0 (by decide) (hts _ q119) (fun _ h9 => h9) rfl dX1_join_1 ?_
  refine lv_iload_n hx hb dX1_join_4 rfl (lv_at hl 1 rfl) ?_
  refine vp_callSi (W.runS (As := [.int x]) (rest := [.ref (ad 7)]) ⟨hx, hb, hml, hown, hts⟩ (met_k l x) (va_cwS 1 hts (lw_S q149 q150 q7 q151) rfl rfl rfl (by decide +kernel) ⟨Nat.le_of_ble_eq_true rfl, Nat.le_of_ble_eq_true rfl⟩) (preS_p) rfl rfl hl.1 rfl (lv_room (Nat.le_of_ble_eq_true rfl)) dX1_join_5 ⟨Nat.le_of_ble_eq_true rfl, Nat.le_of_ble_eq_true rfl⟩) (fun r5 e5 => ?_)
  obtain rfl : r5 = (nI (uI x % 2 ^ 31 % 3)) := e5
  rw [hjt]
  refine lv_aload_n hx hb dX1_join_8 rfl (lv_at hl 0 rfl) ?_
  refine va_get (D := D) (ci := 1) (v := .ref (ad 7)) (C := RX1) (T := TX1) (N := 1) hx hb hts in_X1 hown hK.1 hP 6 (rfl) rfl 0 (by decide) (hts _ q119) (fun _ h9 => h9) rfl dX1_join_9 ?_
  refine lv_iload_n hx hb dX1_join_12 rfl (lv_at hl 2 rfl) ?_
  refine vp_callSi (W.runS (As := [.int y]) (rest := [.ref (ad 7), .int (nI jt), .ref (ad 7)]) ⟨hx, hb, hml, hown, hts⟩ (met_k l y) (va_cwS 1 hts (lw_S q149 q150 q7 q151) rfl rfl rfl (by decide +kernel) ⟨Nat.le_of_ble_eq_true rfl, Nat.le_of_ble_eq_true rfl⟩) (preS_p) rfl rfl hl.1 rfl (lv_room (Nat.le_of_ble_eq_true rfl)) dX1_join_13 ⟨Nat.le_of_ble_eq_true rfl, Nat.le_of_ble_eq_true rfl⟩) (fun r13 e13 => ?_)
  obtain rfl : r13 = (nI (uI y % 2 ^ 31 % 3)) := e13
  rw [hja]
  refine xr_aald hx hb hK.1 hP 7 3 rfl (rfl) rfl (hja3) (by omega) (v := (ad (8 + ja))) (ref3_u hja3) dX1_join_16 ?_
  refine lv_aload_n hx hb dX1_join_17 rfl (lv_at hl 0 rfl) ?_
  refine va_get (D := D) (ci := 1) (v := .ref (ad 7)) (C := RX1) (T := TX1) (N := 1) hx hb hts in_X1 hown hK.1 hP 6 (rfl) rfl 0 (by decide) (hts _ q119) (fun _ h9 => h9) rfl dX1_join_18 ?_
  refine lv_iload_n hx hb dX1_join_21 rfl (lv_at hl 3 rfl) ?_
  refine vp_callSi (W.runS (As := [.int z]) (rest := [.ref (ad 7), .ref (ad (8 + ja)), .int (nI jt), .ref (ad 7)]) ⟨hx, hb, hml, hown, hts⟩ (met_k l z) (va_cwS 1 hts (lw_S q149 q150 q7 q151) rfl rfl rfl (by decide +kernel) ⟨Nat.le_of_ble_eq_true rfl, Nat.le_of_ble_eq_true rfl⟩) (preS_p) rfl rfl hl.1 rfl (lv_room (Nat.le_of_ble_eq_true rfl)) dX1_join_22 ⟨Nat.le_of_ble_eq_true rfl, Nat.le_of_ble_eq_true rfl⟩) (fun r22 e22 => ?_)
  obtain rfl : r22 = (nI (uI z % 2 ^ 31 % 3)) := e22
  rw [hjb]
  refine xr_aald hx hb hK.1 hP 7 3 rfl (rfl) rfl (hjb3) (by omega) (v := (ad (8 + jb))) (ref3_u hjb3) dX1_join_25 ?_
  refine cw_r (va_runS (As := [.ref (ad (8 + ja)), .ref (ad (8 + jb))]) (rest := [.int (nI jt), .ref (ad 7)]) ⟨hx, hb, hml, hown, hts⟩ (met_merge l D t (WW t ad pA pL mL pD mD) s.heap.size (8 + ja) (11 + ja) (ad (8 + ja)) (ad (11 + ja)) (pD ja) (mD ja) (8 + jb) (11 + jb) (ad (8 + jb)) (ad (11 + jb)) (pD jb) (mD jb) r ((hp ja).1) ((hp ja).2) ((hp jb).1) ((hp jb).2) hr1 (hM ja) (hM jb) (WW_u hja3) (WW_b hja3) (WW_u hjb3) (WW_b hjb3)) (va_cwS 2 hts (lw_S q256 q257 q8 q258) rfl rfl rfl (by decide +kernel) ⟨Nat.le_of_ble_eq_true rfl, Nat.le_of_ble_eq_true rfl⟩) (preS_w hK hP hD) rfl rfl hl.1 rfl (lv_room (Nat.le_of_ble_eq_true rfl)) dX1_join_26 ⟨Nat.le_of_ble_eq_true rfl, Nat.le_of_ble_eq_true rfl⟩) hD hS hA (fun u26 z26 H locs hp26 hP hD hS => ?_)
  refine W.widen (k := 2) (n := 65) (by omega) (by omega) ?_
  have hP : va_P D vwCl (((WW t ad pA pL mL pD mD) ++ [(z26, .inr (2, [.ref u26])), (u26, cB t r (mrgM pD mD ja jb r))])) H := hP
  have hD : va_D (va_A (WW t ad pA pL mL pD mD) s.heap.size) (((WW t ad pA pL mL pD mD) ++ [(z26, .inr (2, [.ref u26])), (u26, cB t r (mrgM pD mD ja jb r))])) := hD
  refine xr_aast hx hb hK.1 hP hD hS 7 3 (14) 2 ((ref3 (adR ad jt z26 u26 8) (adR ad jt z26 u26 9) (adR ad jt z26 u26 10))) (rfl) rfl (rfl) rfl (hjt3) (by decide) (adR_hg hjt3) dX1_join_29 (fun H locs hP hD hS => ?_)
  have hP : va_P D vwCl (WW t (adR ad jt z26 u26) pA pL mL (va_up pD jt r) (va_up mD jt (mrgM pD mD ja jb r))) H := WW_rowP hjt3 _ hP
  have hD : va_D (va_A (WW t ad pA pL mL pD mD) s.heap.size) (WW t (adR ad jt z26 u26) pA pL mL (va_up pD jt r) (va_up mD jt (mrgM pD mD ja jb r))) := WW_rowD hjt3 _ hD
  exact W.vret hx hb hr (fun t ht hW => ⟨⟨(z26, u26), rfl, trivial, by rw [ht]; exact hP, hD⟩, hS.F ht⟩) hS.2.2 dX1_join_30

set_option maxHeartbeats 4000000 in
set_option maxRecDepth 100000 in
/-- UltraSketchDesk.smaller -/
theorem met_dsmaller (l : Launch) (D : va_G) (t : Nat → ClassId) (ad pA pL : Nat → Nat) (mL : Nat → Nat → Nat) (pD : Nat → Nat) (mD : Nat → Nat → Nat) (sz : Nat) (hp : ∀ j, 3 ≤ pD j ∧ pD j ≤ 6) (hM : ∀ j, Ok (mD j)) (x : Int32) (jt : Nat) (hjt : uI x % 2 ^ 31 % 3 = jt) (hjt3 : jt < 3) (y : Int32) (jf : Nat) (hjf : uI y % 2 ^ 31 % 3 = jf) (hjf3 : jf < 3) (z : Int32) (r : Nat) (hr1 : (3 + uI z % 2 ^ 3 < pD jf ∧ r = 3 + uI z % 2 ^ 3) ∨ (pD jf ≤ 3 + uI z % 2 ^ 3 ∧ r = pD jf)) : Met l yX1_smaller (ws_ yX1_smaller cX1_smaller 4 (some .int)) ({ frames := 5, cells := 2, slots := 65, locals := 144 } : Room) (Pw [.ref (ad 6), .int x, .int y, .int z] D t sz (WW t ad pA pL mL pD mD)) (Qi D (WW t ad pA pL mL pD mD) sz (fun (x : Int32) (_ : Nat × Nat) => x = nI r) (fun u => (WW t (adR ad jt u.1 u.2) pA pL mL (va_up pD jt r) (va_up mD jt (dn (pD jf) (pD jf - r) (mD jf)))))) 2 65 (va_A (WW t ad pA pL mL pD mD) sz) := by
  refine Met.ofW (cc := cX1_smaller) (maxL := 4) (ret := (some .int)) (by decide) rfl ?_
  intro p e s m args below meth c s₁ B hml hv
  obtain ⟨rfl, hK, hsz, hP, hD0⟩ := hv
  subst hsz
  have hD := hD0.self (sz := s.heap.size)
  have hA : ∀ q : Nat, s.heap.size ≤ q → va_A (WW t ad pA pL mL pD mD) s.heap.size q := fun q h => Or.inr h
  have hS : va_S (va_A (WW t ad pA pL mL pD mD) s.heap.size) s.heap s.heap [] := va_S.rf
  have hx := B.exec
  have hb := B.bytes
  have hr := B.returns
  have hts := atoms_spec (ws := ws_ yX1_smaller cX1_smaller 4 (some .int)) B.pre
  have hts : ∀ w ∈ lw_all, w.before _ s = true := fun w h => hts w (List.mem_cons_of_mem _ h)
  have hown : s.vm.findClass RX1 = some m.cls := findClass_of_methodNamed B.named
  have hlocks := B.notSynchronized
  refine w_entry [.ref (ad 6), .int x, .int y, .int z] (Nat.le_of_ble_eq_true rfl) (fun ls hl => ?_)
  have hl : lv_has ls 4 [(0, .ref (ad 6)), (1, .int x), (2, .int y), (3, .int z)] := hl
  refine lv_aload_n hx hb dX1_smaller_0 rfl (lv_at hl 0 rfl) ?_
  refine va_get (D := D) (ci := 1) (v := .ref (ad 7)) (C := RX1) (T := TX1) (N := 1) hx hb hts in_X1 hown hK.1 hP 6 (rfl) rfl 0 (by decide) (hts _ q119) (fun _ h9 => h9) rfl dX1_smaller_1 ?_
  refine lv_iload_n hx hb dX1_smaller_4 rfl (lv_at hl 1 rfl) ?_
  refine vp_callSi (W.runS (As := [.int x]) (rest := [.ref (ad 7)]) ⟨hx, hb, hml, hown, hts⟩ (met_k l x) (va_cwS 1 hts (lw_S q149 q150 q7 q151) rfl rfl rfl (by decide +kernel) ⟨Nat.le_of_ble_eq_true rfl, Nat.le_of_ble_eq_true rfl⟩) (preS_p) rfl rfl hl.1 rfl (lv_room (Nat.le_of_ble_eq_true rfl)) dX1_smaller_5 ⟨Nat.le_of_ble_eq_true rfl, Nat.le_of_ble_eq_true rfl⟩) (fun r5 e5 => ?_)
  obtain rfl : r5 = (nI (uI x % 2 ^ 31 % 3)) := e5
  rw [hjt]
  refine lv_aload_n hx hb dX1_smaller_8 rfl (lv_at hl 0 rfl) ?_
  refine va_get (D := D) (ci := 1) (v := .ref (ad 7)) (C := RX1) (T := TX1) (N := 1) hx hb hts in_X1 hown hK.1 hP 6 (rfl) rfl 0 (by decide) (hts _ q119) (fun _ h9 => h9) rfl dX1_smaller_9 ?_
  refine lv_iload_n hx hb dX1_smaller_12 rfl (lv_at hl 2 rfl) ?_
  refine vp_callSi (W.runS (As := [.int y]) (rest := [.ref (ad 7), .int (nI jt), .ref (ad 7)]) ⟨hx, hb, hml, hown, hts⟩ (met_k l y) (va_cwS 1 hts (lw_S q149 q150 q7 q151) rfl rfl rfl (by decide +kernel) ⟨Nat.le_of_ble_eq_true rfl, Nat.le_of_ble_eq_true rfl⟩) (preS_p) rfl rfl hl.1 rfl (lv_room (Nat.le_of_ble_eq_true rfl)) dX1_smaller_13 ⟨Nat.le_of_ble_eq_true rfl, Nat.le_of_ble_eq_true rfl⟩) (fun r13 e13 => ?_)
  obtain rfl : r13 = (nI (uI y % 2 ^ 31 % 3)) := e13
  rw [hjf]
  refine xr_aald hx hb hK.1 hP 7 3 rfl (rfl) rfl (hjf3) (by omega) (v := (ad (8 + jf))) (ref3_u hjf3) dX1_smaller_16 ?_
  refine lv_iconst (v := (nI 3)) hx hb dX1_smaller_17 (by decide) ?_
  refine lv_iload_n hx hb dX1_smaller_18 rfl (lv_at hl 3 rfl) ?_
  refine lv_bipush (v := (nI 7)) hx hb dX1_smaller_19 (by decide) ?_
  refine lv_iand hx hb dX1_smaller_21 ?_
  refine lv_topi (fun v21 e21 => ?_)
  obtain rfl : v21 = (nI (uI z % 2 ^ 3)) := by rw [e21]; exact pk_and z 3 (by decide)
  refine lv_iadd hx hb dX1_smaller_22 ?_
  refine lv_topi (fun v22 e22 => ?_)
  obtain rfl : v22 = (nI (3 + uI z % 2 ^ 3)) := by rw [e22]; exact nI_add _ _
  refine cw_r (va_runV (As := [.int (nI (3 + uI z % 2 ^ 3))]) (rest := [.int (nI jt), .ref (ad 7)]) ⟨hx, hb, hml, hown, hts⟩ (met_downsize l D t (WW t ad pA pL mL pD mD) s.heap.size (8 + jf) (11 + jf) (ad (8 + jf)) (ad (11 + jf)) (pD jf) (mD jf) (3 + uI z % 2 ^ 3) r ((hp jf).2) (by omega) (by omega) hr1 (hM jf) (WW_u hjf3) (WW_b hjf3)) (cwV 1 hts (lw_V q305 q306 q307 q8 q308) rfl rfl rfl (by decide +kernel) ⟨Nat.le_of_ble_eq_true rfl, Nat.le_of_ble_eq_true rfl⟩) (preV_w (8 + jf) 2 hK hP hD rfl (WW_u hjf3)) rfl rfl hl.1 rfl (lv_room (Nat.le_of_ble_eq_true rfl)) dX1_smaller_23 ⟨Nat.le_of_ble_eq_true rfl, Nat.le_of_ble_eq_true rfl⟩) hD hS hA (fun u23 z23 H locs hp23 hP hD hS => ?_)
  refine W.widen (k := 2) (n := 65) (by omega) (by omega) ?_
  have hP : va_P D vwCl (((WW t ad pA pL mL pD mD) ++ [(z23, .inr (2, [.ref u23])), (u23, cB t r (dn (pD jf) (pD jf - r) (mD jf)))])) H := hP
  have hD : va_D (va_A (WW t ad pA pL mL pD mD) s.heap.size) (((WW t ad pA pL mL pD mD) ++ [(z23, .inr (2, [.ref u23])), (u23, cB t r (dn (pD jf) (pD jf - r) (mD jf)))])) := hD
  refine xr_aast hx hb hK.1 hP hD hS 7 3 (14) 2 ((ref3 (adR ad jt z23 u23 8) (adR ad jt z23 u23 9) (adR ad jt z23 u23 10))) (rfl) rfl (rfl) rfl (hjt3) (by decide) (adR_hg hjt3) dX1_smaller_26 (fun H locs hP hD hS => ?_)
  have hP : va_P D vwCl (WW t (adR ad jt z23 u23) pA pL mL (va_up pD jt r) (va_up mD jt (dn (pD jf) (pD jf - r) (mD jf)))) H := WW_rowP hjt3 _ hP
  have hD : va_D (va_A (WW t ad pA pL mL pD mD) s.heap.size) (WW t (adR ad jt z23 u23) pA pL mL (va_up pD jt r) (va_up mD jt (dn (pD jf) (pD jf - r) (mD jf)))) := WW_rowD hjt3 _ hD
  have e6 : adR ad jt z23 u23 6 = ad 6 := by unfold adR; rw [if_neg (by omega), if_neg (by omega)]
  have e7 : adR ad jt z23 u23 7 = ad 7 := by unfold adR; rw [if_neg (by omega), if_neg (by omega)]
  have w6 : (WW t (adR ad jt z23 u23) pA pL mL (va_up pD jt r) (va_up mD jt (dn (pD jf) (pD jf - r) (mD jf))))[6]? = some (ad 6, .inr (1, [.ref (ad 7)])) := by rw [← e6, ← e7]; rfl
  have w7 : (WW t (adR ad jt z23 u23) pA pL mL (va_up pD jt r) (va_up mD jt (dn (pD jf) (pD jf - r) (mD jf))))[7]? = some (ad 7, cR (t 3) (ref3 ((adR ad jt z23 u23) 8) ((adR ad jt z23 u23) 9) ((adR ad jt z23 u23) 10))) := by rw [← e7]; rfl
  refine lv_aload_n hx hb dX1_smaller_27 rfl (lv_at hl 0 rfl) ?_
  refine va_get (D := D) (ci := 1) (v := .ref (ad 7)) (C := RX1) (T := TX1) (N := 1) hx hb hts in_X1 hown hK.1 hP 6 (w6) rfl 0 (by decide) (hts _ q119) (fun _ h9 => h9) rfl dX1_smaller_28 ?_
  refine lv_iload_n hx hb dX1_smaller_31 rfl (lv_at hl 1 rfl) ?_
  refine vp_callSi (W.runS (As := [.int x]) (rest := [.ref (ad 7)]) ⟨hx, hb, hml, hown, hts⟩ (met_k l x) (va_cwS 1 hts (lw_S q149 q150 q7 q151) rfl rfl rfl (by decide +kernel) ⟨Nat.le_of_ble_eq_true rfl, Nat.le_of_ble_eq_true rfl⟩) (preS_p) rfl rfl hl.1 rfl (lv_room (Nat.le_of_ble_eq_true rfl)) dX1_smaller_32 ⟨Nat.le_of_ble_eq_true rfl, Nat.le_of_ble_eq_true rfl⟩) (fun r32 e32 => ?_)
  obtain rfl : r32 = (nI (uI x % 2 ^ 31 % 3)) := e32
  rw [hjt]
  refine xr_aald hx hb hK.1 hP 7 3 rfl (w7) rfl (hjt3) (by omega) (v := ((adR ad jt z23 u23) (8 + jt))) (ref3_u hjt3) dX1_smaller_35 ?_
  have hp9 : 3 ≤ r ∧ r ≤ 6 := by have h1 := hp jf; omega
  refine vp_callSi (W.runV (As := []) (rest := []) ⟨hx, hb, hml, hown, hts⟩ (met_getP l D t (WW t (adR ad jt z23 u23) pA pL mL (va_up pD jt r) (va_up mD jt (dn (pD jf) (pD jf - r) (mD jf)))) (8 + jt) (11 + jt) ((adR ad jt z23 u23) (8 + jt)) ((adR ad jt z23 u23) (11 + jt)) ((va_up pD jt r) jt) ((va_up mD jt (dn (pD jf) (pD jf - r) (mD jf))) jt) ((up_p hp hp9 jt).2) (WW_u hjt3) (WW_b hjt3)) (cwV 0 hts (lw_V q153 q154 q155 q8 q156) rfl rfl rfl (by decide +kernel) ⟨Nat.le_of_ble_eq_true rfl, Nat.le_of_ble_eq_true rfl⟩) (preV_r (8 + jt) 2 hK hP rfl (WW_u hjt3)) rfl rfl hl.1 rfl (lv_room (Nat.le_of_ble_eq_true rfl)) dX1_smaller_36 ⟨Nat.le_of_ble_eq_true rfl, Nat.le_of_ble_eq_true rfl⟩) (fun r36 e36 => ?_)
  obtain rfl : r36 = (nI ((va_up pD jt r) jt)) := e36
  rw [va_up_self]
  exact W.iret (v := (nI r)) hx hb hr (fun t ht hW => ⟨⟨(nI r), (z23, u23), rfl, rfl, by rw [ht]; exact hP, hD⟩, hS.F ht⟩) hS.2.2 dX1_smaller_39
end
section
/-! PLAIN LAWS, sixth: the law's own loops -/
set_option maxRecDepth 100000
/-- what 'smaller' has written when it has read i marks -/
def zf (q less : Nat) (N : Nat → Nat) (i : Nat) : Nat → Nat := fun a => dnS q less N a (min (2 ^ less) (i - a * 2 ^ less))
theorem zf_0 {q less : Nat} {N : Nat → Nat} (a : Nat) : zf q less N 0 a = 0 := by
  unfold zf
  rw [Nat.zero_sub, Nat.min_eq_right (Nat.zero_le _)]
  rfl
theorem zf_s {q less i : Nat} {N : Nat → Nat} (a : Nat) : (if a = i / 2 ^ less then zf q less N i (i / 2 ^ less) ||| ctr q less N i else zf q less N i a) = zf q less N (i + 1) a := by
  have hp := Nat.two_pow_pos less
  have hd := Nat.div_add_mod i (2 ^ less)
  have hm := Nat.mod_lt i hp
  by_cases h : a = i / 2 ^ less
  · rw [if_pos h]
    subst h
    unfold zf
    rw [Nat.mul_comm] at hd
    have e1 : i - i / 2 ^ less * 2 ^ less = i % 2 ^ less := by omega
    have e2 : i + 1 - i / 2 ^ less * 2 ^ less = i % 2 ^ less + 1 := by omega
    rw [e1, e2, Nat.min_eq_right (by omega), Nat.min_eq_right (by omega)]
    show _ = dnS q less N (i / 2 ^ less) (i % 2 ^ less) ||| ctr q less N (i / 2 ^ less * 2 ^ less + i % 2 ^ less)
    rw [hd]
  · rw [if_neg h]
    unfold zf
    rcases Nat.lt_or_ge a (i / 2 ^ less) with h1 | h1
    · have h2 := Nat.mul_le_mul_right (2 ^ less) (Nat.succ_le_of_lt h1)
      rw [Nat.succ_mul] at h2
      rw [Nat.mul_comm] at hd
      rw [Nat.min_eq_left (by omega), Nat.min_eq_left (by omega)]
    · have h3 : i / 2 ^ less + 1 ≤ a := by omega
      have h2 := Nat.mul_le_mul_right (2 ^ less) h3
      rw [Nat.succ_mul] at h2
      rw [Nat.mul_comm] at hd
      rw [show i - a * 2 ^ less = 0 by omega, show i + 1 - a * 2 ^ less = 0 by omega]
theorem zf_end {p less : Nat} {N : Nat → Nat} {a : Nat} (h : a < 2 ^ p) : zf (p + less) less N (2 ^ (p + less)) a = dn (p + less) less N a := by
  have h2 := Nat.mul_le_mul_right (2 ^ less) (Nat.succ_le_of_lt h)
  rw [Nat.succ_mul, ← Nat.pow_add] at h2
  unfold zf dn
  rw [Nat.min_eq_left (by omega)]
theorem zf_ok {q less : Nat} {N : Nat → Nat} (hN : Ok N) (hq : less + 3 ≤ q) (hq2 : q ≤ 26) (i : Nat) : Ok (zf q less N i) := fun a => dnS_ok hN hq hq2 a _
theorem uI_small {b : Nat} (h : b < 2 ^ 31) : uI (nI b) % 2 ^ 31 = b := by
  show (nI b).toBitVec.toNat % 2 ^ 31 = b
  rw [pk_tn (by omega), Nat.mod_eq_of_lt h]
theorem tok_law {h : Nat} (hh : h < 2 ^ 64) : (lN (h / 2 ^ 38) * lN 64 + (nI (nz 38 h)).toInt64).toInt32 = nI (tok h) := by
  have := nz_le 38 h
  rw [nI_l (by omega), lN_mul, lN_add, lN_i]
  rfl
theorem drop_P {D : va_G} {ws : va_W} {x y : Nat × va_E} {H : Heap} (h : va_P D vwCl (ws ++ [x, y]) H) : va_P D vwCl (ws ++ [x]) H := h.by id (fun k q hk => by
  show (ws ++ [x, y])[k]? = some q
  rw [show ws ++ [x, y] = (ws ++ [x]) ++ [y] by simp]
  exact ws_app hk)
theorem drop_D {A : Nat → Prop} {ws : va_W} {x y : Nat × va_E} (h : va_D A (ws ++ [x, y])) : va_D A (ws ++ [x]) := h.by id (fun k q hk => by
  show (ws ++ [x, y])[k]? = some q
  rw [show ws ++ [x, y] = (ws ++ [x]) ++ [y] by simp]
  exact ws_app hk) (fun i j _ _ e => e)
def cv (xs : Nat → Int32) (L i : Nat) : Int32 := if i < L then xs i else 0
abbrev Px (av : List Value) (b L : Nat) (xs : Nat → Int32) : Array Value → State → Prop := va_Pc av (fun U => va_X b L xs U U.heap ∧ b < U.heap.size)
theorem preS_x {s : State} {H : Heap} {av : List Value} {b L : Nat} {xs : Nat → Int32} {A : Nat → Prop} {locs : List Loc} (hX : va_X b L xs s s.heap) (hbl : b < s.heap.size) (hbA : ¬ A b) (hS : va_S A s.heap H locs) : PreS s H (Px av b L xs) av :=
  ⟨fun a U g mk q => ⟨q.1, va_X.moved (u := U) (U := U.calling g mk a) (Vm.Alike.refl U.vm) q.2.1, q.2.2⟩, fun U hU hW => ⟨rfl, va_X.moved hW.alike (by rw [hU]; exact va_X.kept hX (hS.2.1 b hbl hbA)), by rw [hU]; exact Nat.lt_of_lt_of_le hbl hS.1⟩⟩
end
section
set_option maxRecDepth 100000
set_option maxHeartbeats 4000000 in
set_option maxRecDepth 100000 in
/-- the law's smaller -/
theorem met_smaller (l : Launch) (D : va_G) (t : Nat → ClassId) (ws : va_W) (sz : Nat) (a its pp less : Nat) (N : Nat → Nat) (h3 : 3 ≤ pp) (h6 : pp + less ≤ 6) (hN : Ok N) (ha : ws[a]? = some (its, cL t (pp + less) N)) : Met l yX0_smaller (ws_ yX0_smaller cX0_smaller 7 (some (.array .long))) ({ frames := 1, cells := 1, slots := 64, locals := 23 } : Room) (Pw [.ref its, .int (nI (pp + less)), .int (nI pp)] D t sz ws) (Qr D ws sz (fun _ : Unit => True) (fun _ z => ws ++ [(z, cL t pp (dn (pp + less) less N))])) 1 64 (va_A ws sz) := by
  refine Met.ofW (cc := cX0_smaller) (maxL := 7) (ret := (some (.array .long))) (by decide) rfl ?_
  intro p e s m args below meth c s₁ B hml hv
  obtain ⟨rfl, hK, hsz, hP, hD0⟩ := hv
  subst hsz
  have hD := hD0.self (sz := s.heap.size)
  have hA : ∀ q : Nat, s.heap.size ≤ q → va_A ws s.heap.size q := fun q h => Or.inr h
  have hS : va_S (va_A ws s.heap.size) s.heap s.heap [] := va_S.rf
  have hx := B.exec
  have hb := B.bytes
  have hr := B.returns
  have hts := atoms_spec (ws := ws_ yX0_smaller cX0_smaller 7 (some (.array .long))) B.pre
  have hts : ∀ w ∈ lw_all, w.before _ s = true := fun w h => hts w (List.mem_cons_of_mem _ h)
  have hown : s.vm.findClass RX0 = some m.cls := findClass_of_methodNamed B.named
  have hlocks := B.notSynchronized
  refine w_entry [.ref its, .int (nI (pp + less)), .int (nI pp)] (Nat.le_of_ble_eq_true rfl) (fun ls hl => ?_)
  have hl : lv_has ls 7 [(0, .ref its), (1, .int (nI (pp + less))), (2, .int (nI pp))] := hl
  have h64 := p64 h6
  have hp64 : 2 ^ pp ≤ 64 := p64 (by omega)
  have hl64 : 2 ^ less ≤ 64 := p64 (by omega)
  have hpl := Nat.two_pow_pos less
  refine lv_iconst (v := (nI 1)) hx hb dX0_smaller_0 (by decide) ?_
  refine lv_iload_n hx hb dX0_smaller_1 rfl (lv_at hl 2 rfl) ?_
  refine lv_ishl hx hb dX0_smaller_2 ?_
  refine lv_topi (fun v2 e2 => ?_)
  obtain rfl : v2 = (nI (2 ^ pp)) := by rw [e2]; exact (pk_shlN (n := 1) (nI pp &&& 31) pp ((by decide +kernel : ∀ k, k < 31 → ((nI k &&& 31).toBitVec.smod 32).toNat = k) pp (by omega)) (by omega)).trans (congrArg nI (Nat.one_mul _))
  refine xr_newa (atype := .long) hx hb (hts _ q136) (ty := .long) rfl hK.1 hP hD hS hA 1 rfl (N' := 2 ^ pp) (a0 := (2 ^ pp, .inr (.inl (fun i => lN ((zf (pp + less) less N 0) i))))) ((fun cA => (vp_cell_l cA _ _).trans (congrArg (arrV cA (2 ^ pp)) (funext fun i => congrArg Value.long (by show lN (zf (pp + less) less N 0 i) = 0; rw [zf_0]; rfl))))) (nI_pos (by omega)) (nI_clamp (by omega)) (by show 2 ^ pp * 8 ≤ _; omega) (Nat.le_of_ble_eq_true rfl) (Nat.le_trans (show 0 + 2 ^ pp ≤ 64 by omega) (Nat.le_of_ble_eq_true rfl)) dX0_smaller_3 (fun z3 H hP hD hS => ?_)
  refine W.widen (k := 1) (n := 64) (by omega) (by omega) ?_
  have hP : va_P D vwCl (ws ++ [(z3, cL t pp (zf (pp + less) less N 0))]) H := hP
  have hD : va_D (va_A ws s.heap.size) (ws ++ [(z3, cL t pp (zf (pp + less) less N 0))]) := hD
  refine lv_astore_n (lv' := [(3, .ref z3), (0, .ref its), (1, .int (nI (pp + less))), (2, .int (nI pp))]) hx hb dX0_smaller_5 rfl hl (by decide) rfl (fun ls hl => ?_)
  refine lv_iload_n hx hb dX0_smaller_6 rfl (lv_at hl 2 rfl) ?_
  refine lv_iload_n hx hb dX0_smaller_7 rfl (lv_at hl 3 rfl) ?_
  refine lv_isub hx hb dX0_smaller_8 ?_
  refine lv_topi (fun v8 e8 => ?_)
  obtain rfl : v8 = (nI less) := by rw [e8, pk_sub (by omega), Nat.add_sub_cancel_left]
  refine lv_istore (lv' := [(4, .int (nI less)), (3, .ref z3), (0, .ref its), (1, .int (nI (pp + less))), (2, .int (nI pp))]) hx hb dX0_smaller_9 hl (by decide) rfl (fun ls hl => ?_)
  refine lv_iconst (v := (nI 0)) hx hb dX0_smaller_11 (by decide) ?_
  refine lv_istore (lv' := [(5, .int (nI 0)), (4, .int (nI less)), (3, .ref z3), (0, .ref its), (1, .int (nI (pp + less))), (2, .int (nI pp))]) hx hb dX0_smaller_12 hl (by decide) rfl (fun ls hl => ?_)
  refine W_loop (nL := 7) (fun (i2 : Nat) H1 L1 => i2 ≤ 2 ^ (pp + less) ∧ va_P D vwCl (ws ++ [(z3, cL t pp (zf (pp + less) less N i2))]) H1 ∧ va_D (va_A ws s.heap.size) (ws ++ [(z3, cL t pp (zf (pp + less) less N i2))]) ∧ va_S (va_A ws s.heap.size) s.heap H1 L1) (fun i2 => [(5, .int (nI i2)), (4, .int (nI less)), (3, .ref z3), (0, .ref its), (2, .int (nI pp))]) (fun i2 => 2 ^ (pp + less) - i2) (fun _ => 1) (fun _ => 64) (fun i2 H locs ls hI hl ih => ?_) 0 ⟨Nat.zero_le _, hP, hD, hS⟩ (lv_sub hl [0, 1, 2, 3, 5] rfl)
  obtain ⟨hbq, hP, hD, hS⟩ := hI
  have hl : lv_has ls 7 [(5, .int (nI i2)), (4, .int (nI less)), (3, .ref z3), (0, .ref its), (2, .int (nI pp))] := hl
  refine lv_iload hx hb dX0_smaller_14 (lv_at hl 0 rfl) ?_
  refine lv_aload_n hx hb dX0_smaller_16 rfl (lv_at hl 3 rfl) ?_
  refine va_alen (v := nI (2 ^ (pp + less))) hx hb hK.1 hP a 1 ((ws_app ha)) rfl rfl dX0_smaller_17 ?_
  refine lv_icmp_ge (tgt := 87) hx hb dX0_smaller_18 (by decide) (fun c18 => ?_) (fun c18 => ?_)
  · have hcc : i2 = 2 ^ (pp + less) := by have := (nI_leI (a := 2 ^ (pp + less)) (b := i2) (by omega) (by omega)).mp c18; omega
    subst hcc
    have hP : va_P D vwCl (ws ++ [(z3, cL t pp (dn (pp + less) less N))]) H := by
      have h9 := va_P.say (ws.length + 0) hP (ws_new (ws := ws) 0 rfl) (cell_l (g := fun i => lN (dn (pp + less) less N i)) fun i hi => by show lN (zf _ _ _ _ i) = _; rw [zf_end hi])
      rw [ws_setn (ws := ws) 0] at h9
      exact h9
    have hD : va_D (va_A ws s.heap.size) (ws ++ [(z3, cL t pp (dn (pp + less) less N))]) := by
      have h9 := hD.set (e := cL t pp (dn (pp + less) less N)) (ws_new (ws := ws) 0 rfl)
      rw [ws_setn (ws := ws) 0] at h9
      exact h9
    refine lv_aload_n hx hb dX0_smaller_87 rfl (lv_at hl 2 rfl) ?_
    exact W.aret (v := .ref z3) hx hb hr (Or.inr ⟨_, rfl⟩) (Or.inr ⟨_, rfl⟩) (fun t ht hW => ⟨⟨(), z3, rfl, trivial, by rw [ht]; exact hP, hD⟩, hS.F ht⟩) hS.2.2 dX0_smaller_88
  · have hlt : i2 < 2 ^ (pp + less) := by rcases Nat.lt_or_ge i2 (2 ^ (pp + less)) with h | h; exact h; exact absurd (nI_le h (by omega)) c18
    have hix : i2 / 2 ^ less < 2 ^ pp := by rw [Nat.div_lt_iff_lt_mul hpl, ← Nat.pow_add]; exact hlt
    have hzk := zf_ok hN (q := pp + less) (less := less) (by omega) (by omega) i2
    have hck := ctr_ok hN (q := pp + less) (less := less) (by omega) (by omega) i2
    have hmd := Nat.mod_lt i2 hpl
    refine lv_iload hx hb dX0_smaller_21 (lv_at hl 0 rfl) ?_
    refine lv_iconst (v := (nI 1)) hx hb dX0_smaller_23 (by decide) ?_
    refine lv_iload hx hb dX0_smaller_24 (lv_at hl 1 rfl) ?_
    refine lv_ishl hx hb dX0_smaller_26 ?_
    refine lv_topi (fun v26 e26 => ?_)
    obtain rfl : v26 = (nI (2 ^ less)) := by rw [e26]; exact (pk_shlN (n := 1) (nI less &&& 31) less ((by decide +kernel : ∀ k, k < 31 → ((nI k &&& 31).toBitVec.smod 32).toNat = k) less (by omega)) (by omega)).trans (congrArg nI (Nat.one_mul _))
    refine lv_iconst (v := (nI 1)) hx hb dX0_smaller_27 (by decide) ?_
    refine lv_isub hx hb dX0_smaller_28 ?_
    refine lv_topi (fun v28 e28 => ?_)
    obtain rfl : v28 = (nI (2 ^ less - 1)) := by rw [e28]; exact pk_sub hpl
    refine lv_iand hx hb dX0_smaller_29 ?_
    refine lv_topi (fun v29 e29 => ?_)
    obtain rfl : v29 = (nI (i2 % 2 ^ less)) := by rw [e29]; exact pk_andN (by omega) less (pk_tn (by omega))
    refine lv_istore (lv' := [(6, .int (nI (i2 % 2 ^ less))), (5, .int (nI i2)), (4, .int (nI less)), (3, .ref z3), (0, .ref its), (2, .int (nI pp))]) hx hb dX0_smaller_30 hl (by decide) rfl (fun ls hl => ?_)
    refine lv_aload_n hx hb dX0_smaller_32 rfl (lv_at hl 3 rfl) ?_
    refine lv_iload hx hb dX0_smaller_33 (lv_at hl 1 rfl) ?_
    refine lv_iload hx hb dX0_smaller_35 (lv_at hl 2 rfl) ?_
    refine lv_ishr hx hb dX0_smaller_37 ?_
    refine lv_topi (fun v37 e37 => ?_)
    obtain rfl : v37 = (nI (i2 / 2 ^ less)) := by rw [e37]; exact pk_shrN (by omega) (nI less &&& 31) less ((by decide +kernel : ∀ k, k < 31 → ((nI k &&& 31).toBitVec.smod 32).toNat = k) less (by omega))
    refine lv_dup2_11 hx hb dX0_smaller_38 rfl rfl ?_
    refine xr_lald hx hb hK.1 hP (ws.length + 0) 1 ((ws_new (ws := ws) 0 rfl)) rfl (hix) (by omega) (v := (lN ((zf (pp + less) less N i2) (i2 / 2 ^ less)))) (rfl) dX0_smaller_39 ?_
    refine lv_aload_n hx hb dX0_smaller_40 rfl (lv_at hl 4 rfl) ?_
    refine lv_iload hx hb dX0_smaller_41 (lv_at hl 1 rfl) ?_
    refine xr_lald hx hb hK.1 hP a 1 ((ws_app ha)) rfl (hlt) (by omega) (v := (lN (N i2))) (rfl) dX0_smaller_43 ?_
    refine lv_lconst (v := (lN 0)) hx hb dX0_smaller_44 (by decide) ?_
    refine W.lcmp hx hb dX0_smaller_45 ?_
    refine lv_topi (fun v45 e45 => ?_)
    refine lv_if_ne (tgt := 53) hx hb dX0_smaller_46 (by decide) (fun c46 => ?_) (fun c46 => ?_)
    · have hn0 : N i2 ≠ 0 := fun h => c46 (by rw [e45, h]; exact (lg_cmp_eq _ _).mpr rfl)
      refine lv_iload hx hb dX0_smaller_53 (lv_at hl 0 rfl) ?_
      refine lv_if_ne (tgt := 65) hx hb dX0_smaller_55 (by decide) (fun c55 => ?_) (fun c55 => ?_)
      · have hm0 : i2 % 2 ^ less ≠ 0 := fun h => c55 (by rw [h]; rfl)
        have hlg := l2_lt hm0 hmd
        have hnz : (nz less (i2 % 2 ^ less)) = less - 1 - (i2 % 2 ^ less).log2 := by unfold nz; rw [Nat.mod_mod, if_neg hm0]
        refine lv_lconst (v := (lN 1)) hx hb dX0_smaller_65 (by decide) ?_
        refine lv_iload hx hb dX0_smaller_66 (lv_at hl 0 rfl) ?_
        refine lv_i2l hx hb dX0_smaller_68 rfl ?_
        refine lv_topl (fun v68 e68 => ?_)
        obtain rfl : v68 = (lN (i2 % 2 ^ less)) := by rw [e68]; exact nI_l (by omega)
        refine lv_iload hx hb dX0_smaller_69 (lv_at hl 2 rfl) ?_
        refine vp_callSi (W.runS (As := [.long (lN (i2 % 2 ^ less)), .int (nI less)]) (rest := [.long (lN 1), .long (lN ((zf (pp + less) less N i2) (i2 / 2 ^ less))), .int (nI (i2 / 2 ^ less)), .ref z3]) ⟨hx, hb, hml, hown, hts⟩ (met_noughts l (i2 % 2 ^ less) less (by omega) (by omega)) (va_cwS 2 hts (lw_S q231 q232 q6 q233) rfl rfl rfl (by decide +kernel) ⟨Nat.le_of_ble_eq_true rfl, Nat.le_of_ble_eq_true rfl⟩) (preS_p) rfl rfl hl.1 rfl (lv_room (Nat.le_of_ble_eq_true rfl)) dX0_smaller_71 ⟨Nat.le_of_ble_eq_true rfl, Nat.le_of_ble_eq_true rfl⟩) (fun r71 e71 => ?_)
        obtain rfl : r71 = (nI (nz less (i2 % 2 ^ less))) := e71
        have hcv : lN (ctr (pp + less) less N i2) = lN (2 ^ ((nz less (i2 % 2 ^ less)) + pp - 1)) := by unfold ctr; rw [if_neg hn0, if_neg hm0, hnz, show less - 1 - (i2 % 2 ^ less).log2 + pp - 1 = pp + less - 2 - (i2 % 2 ^ less).log2 by omega]
        refine lv_iload_n hx hb dX0_smaller_74 rfl (lv_at hl 5 rfl) ?_
        refine lv_iadd hx hb dX0_smaller_75 ?_
        refine lv_topi (fun v75 e75 => ?_)
        obtain rfl : v75 = (nI ((nz less (i2 % 2 ^ less)) + pp)) := by rw [e75]; exact nI_add _ _
        refine lv_iconst (v := (nI 1)) hx hb dX0_smaller_76 (by decide) ?_
        refine lv_isub hx hb dX0_smaller_77 ?_
        refine lv_topi (fun v77 e77 => ?_)
        obtain rfl : v77 = (nI ((nz less (i2 % 2 ^ less)) + pp - 1)) := by rw [e77]; exact pk_sub (by omega)
        refine lv_lshl hx hb dX0_smaller_78 rfl ?_
        refine lv_topl (fun v78 e78 => ?_)
        obtain rfl : v78 = (lN (2 ^ ((nz less (i2 % 2 ^ less)) + pp - 1))) := by rw [e78]; exact (wb_shl 1 (by omega)).trans (congrArg lN (Nat.one_mul _))
        rw [← hcv]
        refine lv_lor hx hb dX0_smaller_79 ?_
        refine lv_topl (fun v79 e79 => ?_)
        obtain rfl : v79 = (lN ((zf (pp + less) less N i2) (i2 / 2 ^ less) ||| (ctr (pp + less) less N i2))) := by rw [e79]; exact wb_or (hzk _).1 hck.1
        refine xr_last hx hb hK.1 hP hD hS (ws.length + 0) 1 (fun i => lN ((zf (pp + less) less N (i2 + 1)) i)) ((ws_new (ws := ws) 0 rfl)) rfl (hix) (by omega) (fun i hi => by
            rw [← zf_s i]
            by_cases hii : i = i2 / 2 ^ less
            · rw [if_pos hii, if_pos hii]
            · rw [if_neg hii, if_neg hii]) dX0_smaller_80 (fun H locs hP hD hS => ?_)
        have hP : va_P D vwCl (ws ++ [(z3, cL t pp (zf (pp + less) less N (i2 + 1)))]) H := by rw [ws_setn (ws := ws) 0] at hP; exact hP
        have hD : va_D (va_A ws s.heap.size) (ws ++ [(z3, cL t pp (zf (pp + less) less N (i2 + 1)))]) := by rw [ws_setn (ws := ws) 0] at hD; exact hD
        refine lv_iinc (v := (nI (i2 + 1))) (lv' := [(5, .int (nI (i2 + 1))), (6, .int (nI (i2 % 2 ^ less))), (4, .int (nI less)), (3, .ref z3), (0, .ref its), (2, .int (nI pp))]) hx hb dX0_smaller_81 hl (k := 1) rfl (nI_1 i2) (by decide) rfl (fun ls hl => ?_)
        refine lv_goto (tgt := 14) hx hb dX0_smaller_84 (by decide) ?_
        exact ih (i2 + 1) _ _ ls (by omega) ⟨hlt, hP, hD, hS⟩ (lv_sub hl [0, 2, 3, 4, 5] rfl)
      · have hm0 : i2 % 2 ^ less = 0 := (nI_eq (by omega) (by decide)).mp c55
        have hcv : lN (ctr (pp + less) less N i2) = lN (N i2) := by unfold ctr; rw [if_neg hn0, if_pos hm0]
        refine lv_aload_n hx hb dX0_smaller_58 rfl (lv_at hl 4 rfl) ?_
        refine lv_iload hx hb dX0_smaller_59 (lv_at hl 1 rfl) ?_
        refine xr_lald hx hb hK.1 hP a 1 ((ws_app ha)) rfl (hlt) (by omega) (v := (lN (N i2))) (rfl) dX0_smaller_61 ?_
        refine lv_goto (tgt := 79) hx hb dX0_smaller_62 (by decide) ?_
        rw [← hcv]
        refine lv_lor hx hb dX0_smaller_79 ?_
        refine lv_topl (fun v79 e79 => ?_)
        obtain rfl : v79 = (lN ((zf (pp + less) less N i2) (i2 / 2 ^ less) ||| (ctr (pp + less) less N i2))) := by rw [e79]; exact wb_or (hzk _).1 hck.1
        refine xr_last hx hb hK.1 hP hD hS (ws.length + 0) 1 (fun i => lN ((zf (pp + less) less N (i2 + 1)) i)) ((ws_new (ws := ws) 0 rfl)) rfl (hix) (by omega) (fun i hi => by
            rw [← zf_s i]
            by_cases hii : i = i2 / 2 ^ less
            · rw [if_pos hii, if_pos hii]
            · rw [if_neg hii, if_neg hii]) dX0_smaller_80 (fun H locs hP hD hS => ?_)
        have hP : va_P D vwCl (ws ++ [(z3, cL t pp (zf (pp + less) less N (i2 + 1)))]) H := by rw [ws_setn (ws := ws) 0] at hP; exact hP
        have hD : va_D (va_A ws s.heap.size) (ws ++ [(z3, cL t pp (zf (pp + less) less N (i2 + 1)))]) := by rw [ws_setn (ws := ws) 0] at hD; exact hD
        refine lv_iinc (v := (nI (i2 + 1))) (lv' := [(5, .int (nI (i2 + 1))), (6, .int (nI (i2 % 2 ^ less))), (4, .int (nI less)), (3, .ref z3), (0, .ref its), (2, .int (nI pp))]) hx hb dX0_smaller_81 hl (k := 1) rfl (nI_1 i2) (by decide) rfl (fun ls hl => ?_)
        refine lv_goto (tgt := 14) hx hb dX0_smaller_84 (by decide) ?_
        exact ih (i2 + 1) _ _ ls (by omega) ⟨hlt, hP, hD, hS⟩ (lv_sub hl [0, 2, 3, 4, 5] rfl)
    · have hn0 : N i2 = 0 := (lN_eq64 (hN i2).1 (by decide)).mp ((lg_cmp_eq _ _).mp (by rw [← e45]; exact c46))
      have hcv : lN (ctr (pp + less) less N i2) = lN 0 := by unfold ctr; rw [if_pos hn0]
      refine lv_lconst (v := (lN 0)) hx hb dX0_smaller_49 (by decide) ?_
      refine lv_goto (tgt := 79) hx hb dX0_smaller_50 (by decide) ?_
      rw [← hcv]
      refine lv_lor hx hb dX0_smaller_79 ?_
      refine lv_topl (fun v79 e79 => ?_)
      obtain rfl : v79 = (lN ((zf (pp + less) less N i2) (i2 / 2 ^ less) ||| (ctr (pp + less) less N i2))) := by rw [e79]; exact wb_or (hzk _).1 hck.1
      refine xr_last hx hb hK.1 hP hD hS (ws.length + 0) 1 (fun i => lN ((zf (pp + less) less N (i2 + 1)) i)) ((ws_new (ws := ws) 0 rfl)) rfl (hix) (by omega) (fun i hi => by
          rw [← zf_s i]
          by_cases hii : i = i2 / 2 ^ less
          · rw [if_pos hii, if_pos hii]
          · rw [if_neg hii, if_neg hii]) dX0_smaller_80 (fun H locs hP hD hS => ?_)
      have hP : va_P D vwCl (ws ++ [(z3, cL t pp (zf (pp + less) less N (i2 + 1)))]) H := by rw [ws_setn (ws := ws) 0] at hP; exact hP
      have hD : va_D (va_A ws s.heap.size) (ws ++ [(z3, cL t pp (zf (pp + less) less N (i2 + 1)))]) := by rw [ws_setn (ws := ws) 0] at hD; exact hD
      refine lv_iinc (v := (nI (i2 + 1))) (lv' := [(5, .int (nI (i2 + 1))), (6, .int (nI (i2 % 2 ^ less))), (4, .int (nI less)), (3, .ref z3), (0, .ref its), (2, .int (nI pp))]) hx hb dX0_smaller_81 hl (k := 1) rfl (nI_1 i2) (by decide) rfl (fun ls hl => ?_)
      refine lv_goto (tgt := 14) hx hb dX0_smaller_84 (by decide) ?_
      exact ih (i2 + 1) _ _ ls (by omega) ⟨hlt, hP, hD, hS⟩ (lv_sub hl [0, 2, 3, 4, 5] rfl)

set_option maxHeartbeats 4000000 in
set_option maxRecDepth 100000 in
/-- the law's both -/
theorem met_both (l : Launch) (D : va_G) (t : Nat → ClassId) (ws : va_W) (sz : Nat) (a1 one p1 : Nat) (N1 : Nat → Nat) (a2 oth p2 : Nat) (N2 : Nat → Nat) (r : Nat) (h3 : 3 ≤ r) (h6a : p1 ≤ 6) (h6b : p2 ≤ 6) (hr1 : (p1 ≤ p2 ∧ r = p1) ∨ (p2 < p1 ∧ r = p2)) (hN1 : Ok N1) (hN2 : Ok N2) (ha1 : ws[a1]? = some (one, cL t p1 N1)) (ha2 : ws[a2]? = some (oth, cL t p2 N2)) : Met l yX0_both (ws_ yX0_both cX0_both 8 (some (.array .long))) ({ frames := 2, cells := 2, slots := 128, locals := 49 } : Room) (Pw [.ref one, .int (nI p1), .ref oth, .int (nI p2)] D t sz ws) (Qr D ws sz (fun _ : Unit => True) (fun _ z => ws ++ [(z, cL t r (fun i => dn p1 (p1 - r) N1 i ||| dn p2 (p2 - r) N2 i))])) 2 128 (va_A ws sz) := by
  refine Met.ofW (cc := cX0_both) (maxL := 8) (ret := (some (.array .long))) (by decide) rfl ?_
  intro p e s m args below meth c s₁ B hml hv
  obtain ⟨rfl, hK, hsz, hP, hD0⟩ := hv
  subst hsz
  have hD := hD0.self (sz := s.heap.size)
  have hA : ∀ q : Nat, s.heap.size ≤ q → va_A ws s.heap.size q := fun q h => Or.inr h
  have hS : va_S (va_A ws s.heap.size) s.heap s.heap [] := va_S.rf
  have hx := B.exec
  have hb := B.bytes
  have hr := B.returns
  have hts := atoms_spec (ws := ws_ yX0_both cX0_both 8 (some (.array .long))) B.pre
  have hts : ∀ w ∈ lw_all, w.before _ s = true := fun w h => hts w (List.mem_cons_of_mem _ h)
  have hown : s.vm.findClass RX0 = some m.cls := findClass_of_methodNamed B.named
  have hlocks := B.notSynchronized
  refine w_entry [.ref one, .int (nI p1), .ref oth, .int (nI p2)] (Nat.le_of_ble_eq_true rfl) (fun ls hl => ?_)
  have hl : lv_has ls 8 [(0, .ref one), (1, .int (nI p1)), (2, .ref oth), (3, .int (nI p2))] := hl
  have hr64 : 2 ^ r ≤ 64 := p64 (by omega)
  have e1 : r + (p1 - r) = p1 := by omega
  have e2 : r + (p2 - r) = p2 := by omega
  have hA1 := dn_ok hN1 (q := p1) (less := p1 - r) (by omega) (by omega)
  have hA2 := dn_ok hN2 (q := p2) (less := p2 - r) (by omega) (by omega)
  refine lv_iload_n hx hb dX0_both_0 rfl (lv_at hl 1 rfl) ?_
  refine lv_iload_n hx hb dX0_both_1 rfl (lv_at hl 3 rfl) ?_
  refine lv_icmp_ge (tgt := 9) hx hb dX0_both_2 (by decide) (fun c2 => ?_) (fun c2 => ?_)
  · have hge : p2 ≤ p1 := (nI_leI (by omega) (by omega)).mp c2
    refine lv_iload_n hx hb dX0_both_9 rfl (lv_at hl 3 rfl) ?_
    refine lv_topi (fun v910 e910 => ?_)
    obtain rfl : v910 = (nI r) := by rw [e910, show p2 = r by omega]
    refine lv_istore (lv' := [(4, .int (nI r)), (0, .ref one), (1, .int (nI p1)), (2, .ref oth), (3, .int (nI p2))]) hx hb dX0_both_10 hl (by decide) rfl (fun ls hl => ?_)
    refine lv_aload_n hx hb dX0_both_12 rfl (lv_at hl 1 rfl) ?_
    refine lv_iload_n hx hb dX0_both_13 rfl (lv_at hl 2 rfl) ?_
    refine lv_iload hx hb dX0_both_14 (lv_at hl 0 rfl) ?_
    have hs1 := met_smaller l D t ws s.heap.size a1 one r (p1 - r) N1 h3 (by omega) hN1 (by rw [e1]; exact ha1)
    rw [e1] at hs1
    have hs2 : ∀ (ws2 : va_W) (sz2 : Nat), ws2[a2]? = some (oth, cL t p2 N2) → _ := fun ws2 sz2 h9 => met_smaller l D t ws2 sz2 a2 oth r (p2 - r) N2 h3 (by omega) hN2 (by rw [e2]; exact h9)
    rw [e2] at hs2
    refine cw_r (va_runS (As := [.ref one, .int (nI p1), .int (nI r)]) (rest := []) ⟨hx, hb, hml, hown, hts⟩ hs1 (va_cwS 3 hts (lw_S q249 q250 q6 q251) rfl rfl rfl (by decide +kernel) ⟨Nat.le_of_ble_eq_true rfl, Nat.le_of_ble_eq_true rfl⟩) (preS_w hK hP hD) rfl rfl hl.1 rfl (lv_room (Nat.le_of_ble_eq_true rfl)) dX0_both_16 ⟨Nat.le_of_ble_eq_true rfl, Nat.le_of_ble_eq_true rfl⟩) hD hS hA (fun u16 z16 H locs hp16 hP hD hS => ?_)
    refine W.widen (k := 1) (n := 64) (by omega) (by omega) ?_
    have hP : va_P D vwCl (ws ++ [(z16, cL t r (dn p1 (p1 - r) N1))]) H := hP
    have hD : va_D (va_A ws s.heap.size) (ws ++ [(z16, cL t r (dn p1 (p1 - r) N1))]) := hD
    refine lv_astore (lv' := [(5, .ref z16), (4, .int (nI r)), (0, .ref one), (1, .int (nI p1)), (2, .ref oth), (3, .int (nI p2))]) hx hb dX0_both_19 hl (by decide) rfl (fun ls hl => ?_)
    refine lv_aload_n hx hb dX0_both_21 rfl (lv_at hl 4 rfl) ?_
    refine lv_iload_n hx hb dX0_both_22 rfl (lv_at hl 5 rfl) ?_
    refine lv_iload hx hb dX0_both_23 (lv_at hl 1 rfl) ?_
    refine cw_r (va_runS (As := [.ref oth, .int (nI p2), .int (nI r)]) (rest := []) ⟨hx, hb, hml, hown, hts⟩ (hs2 (ws ++ [(z16, cL t r (dn p1 (p1 - r) N1))]) H.size (ws_app ha2)) (va_cwS 3 hts (lw_S q249 q250 q6 q251) rfl rfl rfl (by decide +kernel) ⟨Nat.le_of_ble_eq_true rfl, Nat.le_of_ble_eq_true rfl⟩) (preS_w hK hP hD) rfl rfl hl.1 rfl (lv_room (Nat.le_of_ble_eq_true rfl)) dX0_both_25 ⟨Nat.le_of_ble_eq_true rfl, Nat.le_of_ble_eq_true rfl⟩) hD hS hA (fun u25 z25 H locs hp25 hP hD hS => ?_)
    refine W.widen (k := 2) (n := 128) (by omega) (by omega) ?_
    have hP : va_P D vwCl (ws ++ [(z16, cL t r (dn p1 (p1 - r) N1)), (z25, cL t r (dn p2 (p2 - r) N2))]) H := by rw [List.append_assoc] at hP; exact hP
    have hD : va_D (va_A ws s.heap.size) (ws ++ [(z16, cL t r (dn p1 (p1 - r) N1)), (z25, cL t r (dn p2 (p2 - r) N2))]) := by rw [List.append_assoc] at hD; exact hD
    refine lv_astore (lv' := [(6, .ref z25), (5, .ref z16), (4, .int (nI r)), (0, .ref one), (1, .int (nI p1)), (2, .ref oth), (3, .int (nI p2))]) hx hb dX0_both_28 hl (by decide) rfl (fun ls hl => ?_)
    refine lv_iconst (v := (nI 0)) hx hb dX0_both_30 (by decide) ?_
    refine lv_istore (lv' := [(7, .int (nI 0)), (6, .ref z25), (5, .ref z16), (4, .int (nI r)), (0, .ref one), (1, .int (nI p1)), (2, .ref oth), (3, .int (nI p2))]) hx hb dX0_both_31 hl (by decide) rfl (fun ls hl => ?_)
    refine W_loop (nL := 8) (fun (i2 : Nat) H1 L1 => i2 ≤ 2 ^ r ∧ va_P D vwCl (ws ++ [(z16, cL t r (upto i2 (dn p1 (p1 - r) N1) (fun i => dn p1 (p1 - r) N1 i ||| dn p2 (p2 - r) N2 i))), (z25, cL t r (dn p2 (p2 - r) N2))]) H1 ∧ va_D (va_A ws s.heap.size) (ws ++ [(z16, cL t r (upto i2 (dn p1 (p1 - r) N1) (fun i => dn p1 (p1 - r) N1 i ||| dn p2 (p2 - r) N2 i))), (z25, cL t r (dn p2 (p2 - r) N2))]) ∧ va_S (va_A ws s.heap.size) s.heap H1 L1) (fun i2 => [(7, .int (nI i2)), (6, .ref z25), (5, .ref z16)]) (fun i2 => 2 ^ r - i2) (fun _ => 2) (fun _ => 128) (fun i2 H locs ls hI hl ih => ?_) 0 ⟨Nat.zero_le _, by rw [upto_0]; exact hP, by rw [upto_0]; exact hD, hS⟩ (lv_sub hl [0, 1, 2] rfl)
    obtain ⟨hbq, hP, hD, hS⟩ := hI
    have hl : lv_has ls 8 [(7, .int (nI i2)), (6, .ref z25), (5, .ref z16)] := hl
    refine lv_iload hx hb dX0_both_33 (lv_at hl 0 rfl) ?_
    refine lv_aload hx hb dX0_both_35 (lv_at hl 2 rfl) ?_
    refine va_alen (v := nI (2 ^ r)) hx hb hK.1 hP (ws.length + 0) 1 ((ws_new (ws := ws) 0 rfl)) rfl rfl dX0_both_37 ?_
    refine lv_icmp_ge (tgt := 60) hx hb dX0_both_38 (by decide) (fun c38 => ?_) (fun c38 => ?_)
    · have hcc : i2 = 2 ^ r := by have := (nI_leI (a := 2 ^ r) (b := i2) (by omega) (by omega)).mp c38; omega
      subst hcc
      have hP := drop_P hP
      have hD := drop_D hD
      have hP : va_P D vwCl (ws ++ [(z16, cL t r (fun i => dn p1 (p1 - r) N1 i ||| dn p2 (p2 - r) N2 i))]) H := by
        have h9 := va_P.say (ws.length + 0) hP (ws_new (ws := ws) 0 rfl) (cell_l (g := fun i => lN ((fun i => dn p1 (p1 - r) N1 i ||| dn p2 (p2 - r) N2 i) i)) fun i hi => by show lN (upto _ _ _ i) = _; rw [upto_in hi])
        rw [ws_setn (ws := ws) 0] at h9
        exact h9
      have hD : va_D (va_A ws s.heap.size) (ws ++ [(z16, cL t r (fun i => dn p1 (p1 - r) N1 i ||| dn p2 (p2 - r) N2 i))]) := by
        have h9 := hD.set (e := cL t r (fun i => dn p1 (p1 - r) N1 i ||| dn p2 (p2 - r) N2 i)) (ws_new (ws := ws) 0 rfl)
        rw [ws_setn (ws := ws) 0] at h9
        exact h9
      refine lv_aload hx hb dX0_both_60 (lv_at hl 2 rfl) ?_
      exact W.aret (v := .ref z16) hx hb hr (Or.inr ⟨_, rfl⟩) (Or.inr ⟨_, rfl⟩) (fun t ht hW => ⟨⟨(), z16, rfl, trivial, by rw [ht]; exact hP, hD⟩, hS.F ht⟩) hS.2.2 dX0_both_62
    · have hlt : i2 < 2 ^ r := by rcases Nat.lt_or_ge i2 (2 ^ r) with h | h; exact h; exact absurd (nI_le h (by omega)) c38
      refine lv_aload hx hb dX0_both_41 (lv_at hl 2 rfl) ?_
      refine lv_iload hx hb dX0_both_43 (lv_at hl 0 rfl) ?_
      refine lv_dup2_11 hx hb dX0_both_45 rfl rfl ?_
      refine xr_lald hx hb hK.1 hP (ws.length + 0) 1 ((ws_new (ws := ws) 0 rfl)) rfl (hlt) (by omega) (v := (lN (dn p1 (p1 - r) N1 i2))) (congrArg lN (upto_at _ _ _)) dX0_both_46 ?_
      refine lv_aload hx hb dX0_both_47 (lv_at hl 1 rfl) ?_
      refine lv_iload hx hb dX0_both_49 (lv_at hl 0 rfl) ?_
      refine xr_lald hx hb hK.1 hP (ws.length + 1) 1 ((ws_new (ws := ws) 1 rfl)) rfl (hlt) (by omega) (v := (lN ((dn p2 (p2 - r) N2) i2))) (rfl) dX0_both_51 ?_
      refine lv_lor hx hb dX0_both_52 ?_
      refine lv_topl (fun v52 e52 => ?_)
      obtain rfl : v52 = (lN (dn p1 (p1 - r) N1 i2 ||| dn p2 (p2 - r) N2 i2)) := by rw [e52]; exact wb_or (hA1 i2).1 (hA2 i2).1
      refine xr_last hx hb hK.1 hP hD hS (ws.length + 0) 1 (fun i => lN ((upto (i2 + 1) (dn p1 (p1 - r) N1) (fun i => dn p1 (p1 - r) N1 i ||| dn p2 (p2 - r) N2 i)) i)) ((ws_new (ws := ws) 0 rfl)) rfl (hlt) (by omega) (fun i hi => by
          show (if i = i2 then _ else lN (upto i2 _ (fun i => dn p1 (p1 - r) N1 i ||| dn p2 (p2 - r) N2 i) i)) = lN (upto (i2 + 1) _ (fun i => dn p1 (p1 - r) N1 i ||| dn p2 (p2 - r) N2 i) i)
          rw [upto_s]
          by_cases hii : i = i2
          · rw [if_pos hii, if_pos hii]
          · rw [if_neg hii, if_neg hii]) dX0_both_53 (fun H locs hP hD hS => ?_)
      have hP : va_P D vwCl (ws ++ [(z16, cL t r (upto (i2 + 1) (dn p1 (p1 - r) N1) (fun i => dn p1 (p1 - r) N1 i ||| dn p2 (p2 - r) N2 i))), (z25, cL t r (dn p2 (p2 - r) N2))]) H := by rw [ws_setn (ws := ws) 0] at hP; exact hP
      have hD : va_D (va_A ws s.heap.size) (ws ++ [(z16, cL t r (upto (i2 + 1) (dn p1 (p1 - r) N1) (fun i => dn p1 (p1 - r) N1 i ||| dn p2 (p2 - r) N2 i))), (z25, cL t r (dn p2 (p2 - r) N2))]) := by rw [ws_setn (ws := ws) 0] at hD; exact hD
      refine lv_iinc (v := (nI (i2 + 1))) (lv' := [(7, .int (nI (i2 + 1))), (6, .ref z25), (5, .ref z16)]) hx hb dX0_both_54 hl (k := 0) rfl (nI_1 i2) (by decide) rfl (fun ls hl => ?_)
      refine lv_goto (tgt := 33) hx hb dX0_both_57 (by decide) ?_
      exact ih (i2 + 1) _ _ ls (by omega) ⟨hlt, hP, hD, hS⟩ (lv_sub hl [0, 1, 2] rfl)
  · have hge : p1 < p2 := by rcases Nat.lt_or_ge p1 p2 with h | h; exact h; exact absurd (nI_le h (by omega)) c2
    refine lv_iload_n hx hb dX0_both_5 rfl (lv_at hl 1 rfl) ?_
    refine lv_goto (tgt := 10) hx hb dX0_both_6 (by decide) ?_
    refine lv_topi (fun v910 e910 => ?_)
    obtain rfl : v910 = (nI r) := by rw [e910, show p1 = r by omega]
    refine lv_istore (lv' := [(4, .int (nI r)), (0, .ref one), (1, .int (nI p1)), (2, .ref oth), (3, .int (nI p2))]) hx hb dX0_both_10 hl (by decide) rfl (fun ls hl => ?_)
    refine lv_aload_n hx hb dX0_both_12 rfl (lv_at hl 1 rfl) ?_
    refine lv_iload_n hx hb dX0_both_13 rfl (lv_at hl 2 rfl) ?_
    refine lv_iload hx hb dX0_both_14 (lv_at hl 0 rfl) ?_
    have hs1 := met_smaller l D t ws s.heap.size a1 one r (p1 - r) N1 h3 (by omega) hN1 (by rw [e1]; exact ha1)
    rw [e1] at hs1
    have hs2 : ∀ (ws2 : va_W) (sz2 : Nat), ws2[a2]? = some (oth, cL t p2 N2) → _ := fun ws2 sz2 h9 => met_smaller l D t ws2 sz2 a2 oth r (p2 - r) N2 h3 (by omega) hN2 (by rw [e2]; exact h9)
    rw [e2] at hs2
    refine cw_r (va_runS (As := [.ref one, .int (nI p1), .int (nI r)]) (rest := []) ⟨hx, hb, hml, hown, hts⟩ hs1 (va_cwS 3 hts (lw_S q249 q250 q6 q251) rfl rfl rfl (by decide +kernel) ⟨Nat.le_of_ble_eq_true rfl, Nat.le_of_ble_eq_true rfl⟩) (preS_w hK hP hD) rfl rfl hl.1 rfl (lv_room (Nat.le_of_ble_eq_true rfl)) dX0_both_16 ⟨Nat.le_of_ble_eq_true rfl, Nat.le_of_ble_eq_true rfl⟩) hD hS hA (fun u16 z16 H locs hp16 hP hD hS => ?_)
    refine W.widen (k := 1) (n := 64) (by omega) (by omega) ?_
    have hP : va_P D vwCl (ws ++ [(z16, cL t r (dn p1 (p1 - r) N1))]) H := hP
    have hD : va_D (va_A ws s.heap.size) (ws ++ [(z16, cL t r (dn p1 (p1 - r) N1))]) := hD
    refine lv_astore (lv' := [(5, .ref z16), (4, .int (nI r)), (0, .ref one), (1, .int (nI p1)), (2, .ref oth), (3, .int (nI p2))]) hx hb dX0_both_19 hl (by decide) rfl (fun ls hl => ?_)
    refine lv_aload_n hx hb dX0_both_21 rfl (lv_at hl 4 rfl) ?_
    refine lv_iload_n hx hb dX0_both_22 rfl (lv_at hl 5 rfl) ?_
    refine lv_iload hx hb dX0_both_23 (lv_at hl 1 rfl) ?_
    refine cw_r (va_runS (As := [.ref oth, .int (nI p2), .int (nI r)]) (rest := []) ⟨hx, hb, hml, hown, hts⟩ (hs2 (ws ++ [(z16, cL t r (dn p1 (p1 - r) N1))]) H.size (ws_app ha2)) (va_cwS 3 hts (lw_S q249 q250 q6 q251) rfl rfl rfl (by decide +kernel) ⟨Nat.le_of_ble_eq_true rfl, Nat.le_of_ble_eq_true rfl⟩) (preS_w hK hP hD) rfl rfl hl.1 rfl (lv_room (Nat.le_of_ble_eq_true rfl)) dX0_both_25 ⟨Nat.le_of_ble_eq_true rfl, Nat.le_of_ble_eq_true rfl⟩) hD hS hA (fun u25 z25 H locs hp25 hP hD hS => ?_)
    refine W.widen (k := 2) (n := 128) (by omega) (by omega) ?_
    have hP : va_P D vwCl (ws ++ [(z16, cL t r (dn p1 (p1 - r) N1)), (z25, cL t r (dn p2 (p2 - r) N2))]) H := by rw [List.append_assoc] at hP; exact hP
    have hD : va_D (va_A ws s.heap.size) (ws ++ [(z16, cL t r (dn p1 (p1 - r) N1)), (z25, cL t r (dn p2 (p2 - r) N2))]) := by rw [List.append_assoc] at hD; exact hD
    refine lv_astore (lv' := [(6, .ref z25), (5, .ref z16), (4, .int (nI r)), (0, .ref one), (1, .int (nI p1)), (2, .ref oth), (3, .int (nI p2))]) hx hb dX0_both_28 hl (by decide) rfl (fun ls hl => ?_)
    refine lv_iconst (v := (nI 0)) hx hb dX0_both_30 (by decide) ?_
    refine lv_istore (lv' := [(7, .int (nI 0)), (6, .ref z25), (5, .ref z16), (4, .int (nI r)), (0, .ref one), (1, .int (nI p1)), (2, .ref oth), (3, .int (nI p2))]) hx hb dX0_both_31 hl (by decide) rfl (fun ls hl => ?_)
    refine W_loop (nL := 8) (fun (i2 : Nat) H1 L1 => i2 ≤ 2 ^ r ∧ va_P D vwCl (ws ++ [(z16, cL t r (upto i2 (dn p1 (p1 - r) N1) (fun i => dn p1 (p1 - r) N1 i ||| dn p2 (p2 - r) N2 i))), (z25, cL t r (dn p2 (p2 - r) N2))]) H1 ∧ va_D (va_A ws s.heap.size) (ws ++ [(z16, cL t r (upto i2 (dn p1 (p1 - r) N1) (fun i => dn p1 (p1 - r) N1 i ||| dn p2 (p2 - r) N2 i))), (z25, cL t r (dn p2 (p2 - r) N2))]) ∧ va_S (va_A ws s.heap.size) s.heap H1 L1) (fun i2 => [(7, .int (nI i2)), (6, .ref z25), (5, .ref z16)]) (fun i2 => 2 ^ r - i2) (fun _ => 2) (fun _ => 128) (fun i2 H locs ls hI hl ih => ?_) 0 ⟨Nat.zero_le _, by rw [upto_0]; exact hP, by rw [upto_0]; exact hD, hS⟩ (lv_sub hl [0, 1, 2] rfl)
    obtain ⟨hbq, hP, hD, hS⟩ := hI
    have hl : lv_has ls 8 [(7, .int (nI i2)), (6, .ref z25), (5, .ref z16)] := hl
    refine lv_iload hx hb dX0_both_33 (lv_at hl 0 rfl) ?_
    refine lv_aload hx hb dX0_both_35 (lv_at hl 2 rfl) ?_
    refine va_alen (v := nI (2 ^ r)) hx hb hK.1 hP (ws.length + 0) 1 ((ws_new (ws := ws) 0 rfl)) rfl rfl dX0_both_37 ?_
    refine lv_icmp_ge (tgt := 60) hx hb dX0_both_38 (by decide) (fun c38 => ?_) (fun c38 => ?_)
    · have hcc : i2 = 2 ^ r := by have := (nI_leI (a := 2 ^ r) (b := i2) (by omega) (by omega)).mp c38; omega
      subst hcc
      have hP := drop_P hP
      have hD := drop_D hD
      have hP : va_P D vwCl (ws ++ [(z16, cL t r (fun i => dn p1 (p1 - r) N1 i ||| dn p2 (p2 - r) N2 i))]) H := by
        have h9 := va_P.say (ws.length + 0) hP (ws_new (ws := ws) 0 rfl) (cell_l (g := fun i => lN ((fun i => dn p1 (p1 - r) N1 i ||| dn p2 (p2 - r) N2 i) i)) fun i hi => by show lN (upto _ _ _ i) = _; rw [upto_in hi])
        rw [ws_setn (ws := ws) 0] at h9
        exact h9
      have hD : va_D (va_A ws s.heap.size) (ws ++ [(z16, cL t r (fun i => dn p1 (p1 - r) N1 i ||| dn p2 (p2 - r) N2 i))]) := by
        have h9 := hD.set (e := cL t r (fun i => dn p1 (p1 - r) N1 i ||| dn p2 (p2 - r) N2 i)) (ws_new (ws := ws) 0 rfl)
        rw [ws_setn (ws := ws) 0] at h9
        exact h9
      refine lv_aload hx hb dX0_both_60 (lv_at hl 2 rfl) ?_
      exact W.aret (v := .ref z16) hx hb hr (Or.inr ⟨_, rfl⟩) (Or.inr ⟨_, rfl⟩) (fun t ht hW => ⟨⟨(), z16, rfl, trivial, by rw [ht]; exact hP, hD⟩, hS.F ht⟩) hS.2.2 dX0_both_62
    · have hlt : i2 < 2 ^ r := by rcases Nat.lt_or_ge i2 (2 ^ r) with h | h; exact h; exact absurd (nI_le h (by omega)) c38
      refine lv_aload hx hb dX0_both_41 (lv_at hl 2 rfl) ?_
      refine lv_iload hx hb dX0_both_43 (lv_at hl 0 rfl) ?_
      refine lv_dup2_11 hx hb dX0_both_45 rfl rfl ?_
      refine xr_lald hx hb hK.1 hP (ws.length + 0) 1 ((ws_new (ws := ws) 0 rfl)) rfl (hlt) (by omega) (v := (lN (dn p1 (p1 - r) N1 i2))) (congrArg lN (upto_at _ _ _)) dX0_both_46 ?_
      refine lv_aload hx hb dX0_both_47 (lv_at hl 1 rfl) ?_
      refine lv_iload hx hb dX0_both_49 (lv_at hl 0 rfl) ?_
      refine xr_lald hx hb hK.1 hP (ws.length + 1) 1 ((ws_new (ws := ws) 1 rfl)) rfl (hlt) (by omega) (v := (lN ((dn p2 (p2 - r) N2) i2))) (rfl) dX0_both_51 ?_
      refine lv_lor hx hb dX0_both_52 ?_
      refine lv_topl (fun v52 e52 => ?_)
      obtain rfl : v52 = (lN (dn p1 (p1 - r) N1 i2 ||| dn p2 (p2 - r) N2 i2)) := by rw [e52]; exact wb_or (hA1 i2).1 (hA2 i2).1
      refine xr_last hx hb hK.1 hP hD hS (ws.length + 0) 1 (fun i => lN ((upto (i2 + 1) (dn p1 (p1 - r) N1) (fun i => dn p1 (p1 - r) N1 i ||| dn p2 (p2 - r) N2 i)) i)) ((ws_new (ws := ws) 0 rfl)) rfl (hlt) (by omega) (fun i hi => by
          show (if i = i2 then _ else lN (upto i2 _ (fun i => dn p1 (p1 - r) N1 i ||| dn p2 (p2 - r) N2 i) i)) = lN (upto (i2 + 1) _ (fun i => dn p1 (p1 - r) N1 i ||| dn p2 (p2 - r) N2 i) i)
          rw [upto_s]
          by_cases hii : i = i2
          · rw [if_pos hii, if_pos hii]
          · rw [if_neg hii, if_neg hii]) dX0_both_53 (fun H locs hP hD hS => ?_)
      have hP : va_P D vwCl (ws ++ [(z16, cL t r (upto (i2 + 1) (dn p1 (p1 - r) N1) (fun i => dn p1 (p1 - r) N1 i ||| dn p2 (p2 - r) N2 i))), (z25, cL t r (dn p2 (p2 - r) N2))]) H := by rw [ws_setn (ws := ws) 0] at hP; exact hP
      have hD : va_D (va_A ws s.heap.size) (ws ++ [(z16, cL t r (upto (i2 + 1) (dn p1 (p1 - r) N1) (fun i => dn p1 (p1 - r) N1 i ||| dn p2 (p2 - r) N2 i))), (z25, cL t r (dn p2 (p2 - r) N2))]) := by rw [ws_setn (ws := ws) 0] at hD; exact hD
      refine lv_iinc (v := (nI (i2 + 1))) (lv' := [(7, .int (nI (i2 + 1))), (6, .ref z25), (5, .ref z16)]) hx hb dX0_both_54 hl (k := 0) rfl (nI_1 i2) (by decide) rfl (fun ls hl => ?_)
      refine lv_goto (tgt := 33) hx hb dX0_both_57 (by decide) ?_
      exact ih (i2 + 1) _ _ ls (by omega) ⟨hlt, hP, hD, hS⟩ (lv_sub hl [0, 1, 2] rfl)
end
section
set_option maxRecDepth 100000
set_option maxHeartbeats 4000000 in
set_option maxRecDepth 100000 in
/-- cell -/
theorem met_cell (l : Launch) (b1 L i : Nat) (xs : Nat → Int32) (hL : L ≤ 96) (hi : i < 2 ^ 31) : Met l yX0_cell (ws_ yX0_cell cX0_cell 2 (some .int)) ({ frames := 0, cells := 0, slots := 0, locals := 0 } : Room) (Px [.ref b1, .int (nI i)] b1 L xs) (vp_Si (fun r => r = cv xs L i)) 0 0 (fun _ => False) := by
  refine Met.ofW (cc := cX0_cell) (maxL := 2) (ret := (some .int)) (by decide) rfl ?_
  intro p e s m args below meth c s₁ B hml hv
  obtain ⟨rfl, hX, hbl⟩ := hv
  have hx := B.exec
  have hb := B.bytes
  have hr := B.returns
  have hts := atoms_spec (ws := ws_ yX0_cell cX0_cell 2 (some .int)) B.pre
  have hts : ∀ w ∈ lw_all, w.before _ s = true := fun w h => hts w (List.mem_cons_of_mem _ h)
  have hown : s.vm.findClass RX0 = some m.cls := findClass_of_methodNamed B.named
  have hlocks := B.notSynchronized
  refine w_entry [.ref b1, .int (nI i)] (Nat.le_of_ble_eq_true rfl) (fun ls hl => ?_)
  have hl : lv_has ls 2 [(0, .ref b1), (1, .int (nI i))] := hl
  have hS : va_S (fun _ => False) s.heap s.heap [] := va_S.rf
  refine lv_iload_n hx hb dX0_cell_0 rfl (lv_at hl 1 rfl) ?_
  refine lv_aload_n hx hb dX0_cell_1 rfl (lv_at hl 0 rfl) ?_
  refine va_slen hx hb hX hbl (fun h => h) hS dX0_cell_2 ?_
  refine lv_icmp_ge (tgt := 12) hx hb dX0_cell_3 (by decide) (fun c3 => ?_) (fun c3 => ?_)
  · have hc : ¬ i < L := by have := (nI_leI (a := L) (b := i) (by omega) (by omega)).mp c3; omega
    refine lv_iconst (v := (nI 0)) hx hb dX0_cell_12 (by decide) ?_
    exact W.iret (v := (nI 0)) hx hb hr (fun t ht hW => ⟨_, rfl, by unfold cv; rw [if_neg hc]; rfl, ht⟩) (fun q h => by cases h) dX0_cell_13
  · have hc : i < L := by rcases Nat.lt_or_ge i L with h | h; exact h; exact absurd (nI_le h (by omega)) c3
    refine lv_aload_n hx hb dX0_cell_6 rfl (lv_at hl 0 rfl) ?_
    refine lv_iload_n hx hb dX0_cell_7 rfl (lv_at hl 1 rfl) ?_
    refine va_sld hx hb hX hbl (fun h => h) hS (vp_in_nI hc (by omega)) dX0_cell_8 ?_
    refine lv_topi (fun v8 e8 => ?_)
    refine lv_goto (tgt := 13) hx hb dX0_cell_9 (by decide) ?_
    exact W.iret (v := v8) hx hb hr (fun t ht hW => ⟨_, rfl, by rw [e8, nI_clamp (by omega)]; unfold cv; rw [if_pos hc], ht⟩) (fun q h => by cases h) dX0_cell_13

set_option maxHeartbeats 4000000 in
set_option maxRecDepth 100000 in
/-- the law's marks -/
theorem met_marks (l : Launch) (D : va_G) (t : Nat → ClassId) (ad pA pL : Nat → Nat) (mL : Nat → Nat → Nat) (pD : Nat → Nat) (mD : Nat → Nat → Nat) (sz : Nat) (hq : ∀ j, 3 ≤ pL j ∧ pL j ≤ 6) (hm : ∀ j, Ok (mL j)) (j h : Nat) (hj3 : j < 3) (hpa : pA j = pL j) (hh : h < 2 ^ 64) : Met l yX0_marks (ws_ yX0_marks cX0_marks 5 none) ({ frames := 1, cells := 0, slots := 0, locals := 23 } : Room) (Pw [.ref (ad 0), .int (nI j), .long (lN h)] D t sz (WW t ad pA pL mL pD mD)) (Qv D (WW t ad pA pL mL pD mD) sz (fun _ : Unit => True) (fun u => (WW t ad pA pL (va_up mL j (addM (pL j) (mL j) h)) pD mD))) 0 0 (va_A (WW t ad pA pL mL pD mD) sz) := by
  refine Met.ofW (cc := cX0_marks) (maxL := 5) (ret := none) (by decide) rfl ?_
  intro p e s m args below meth c s₁ B hml hv
  obtain ⟨rfl, hK, hsz, hP, hD0⟩ := hv
  subst hsz
  have hD := hD0.self (sz := s.heap.size)
  have hA : ∀ q : Nat, s.heap.size ≤ q → va_A (WW t ad pA pL mL pD mD) s.heap.size q := fun q h => Or.inr h
  have hS : va_S (va_A (WW t ad pA pL mL pD mD) s.heap.size) s.heap s.heap [] := va_S.rf
  have hx := B.exec
  have hb := B.bytes
  have hr := B.returns
  have hts := atoms_spec (ws := ws_ yX0_marks cX0_marks 5 none) B.pre
  have hts : ∀ w ∈ lw_all, w.before _ s = true := fun w h => hts w (List.mem_cons_of_mem _ h)
  have hown : s.vm.findClass RX0 = some m.cls := findClass_of_methodNamed B.named
  have hlocks := B.notSynchronized
  refine w_entry [.ref (ad 0), .int (nI j), .long (lN h)] (Nat.le_of_ble_eq_true rfl) (fun ls hl => ?_)
  have hl : lv_has ls 5 [(0, .ref (ad 0)), (1, .int (nI j)), (2, .long (lN h))] := hl
  have h64 := p64 (hq j).2
  have hq3 := (hq j).1
  have hq6 := (hq j).2
  have hnz := nz_le (64 - pL j) h
  have hix := idx_lt (q := pL j) hh (by omega)
  have hbit := addM_bit (h := h) hq3 (show pL j ≤ 26 by omega)
  refine lv_lload_n hx hb dX0_marks_0 rfl (lv_at hl 2 rfl) ?_
  refine lv_bipush (v := (nI 64)) hx hb dX0_marks_1 (by decide) ?_
  refine lv_aload_n hx hb dX0_marks_3 rfl (lv_at hl 0 rfl) ?_
  refine va_get (D := D) (ci := 0) (v := .ref (ad 1)) (C := RX0) (T := TX0) (N := 3) hx hb hts in_X0 hown hK.1 hP 0 (rfl) rfl 1 (by decide) (hts _ q126) (fun _ h9 => h9) rfl dX0_marks_4 ?_
  refine lv_iload_n hx hb dX0_marks_7 rfl (lv_at hl 1 rfl) ?_
  refine xr_iald hx hb hK.1 hP 1 0 (rfl) rfl (hj3) (by omega) (v := (nI (pL j))) (by show nI (pA j) = _; rw [hpa]) dX0_marks_8 ?_
  refine lv_isub hx hb dX0_marks_9 ?_
  refine lv_topi (fun v9 e9 => ?_)
  obtain rfl : v9 = (nI (64 - pL j)) := by rw [e9]; exact pk_sub (by omega)
  refine lv_lushr hx hb dX0_marks_10 rfl ?_
  refine lv_topl (fun v10 e10 => ?_)
  obtain rfl : v10 = (lN (h / 2 ^ (64 - pL j))) := by rw [e10]; exact wb_shr hh (by omega)
  refine lv_l2i hx hb dX0_marks_11 rfl ?_
  refine lv_topi (fun v11 e11 => ?_)
  obtain rfl : v11 = (nI (h / 2 ^ (64 - pL j))) := by rw [e11]; exact lN_i _
  refine lv_istore (lv' := [(4, .int (nI (h / 2 ^ (64 - pL j)))), (0, .ref (ad 0)), (1, .int (nI j)), (2, .long (lN h))]) hx hb dX0_marks_12 hl (by decide) rfl (fun ls hl => ?_)
  refine lv_aload_n hx hb dX0_marks_14 rfl (lv_at hl 1 rfl) ?_
  refine va_get (D := D) (ci := 0) (v := .ref (ad 2)) (C := RX0) (T := TX0) (N := 3) hx hb hts in_X0 hown hK.1 hP 0 (rfl) rfl 2 (by decide) (hts _ q127) (fun _ h9 => h9) rfl dX0_marks_15 ?_
  refine lv_iload_n hx hb dX0_marks_18 rfl (lv_at hl 2 rfl) ?_
  refine xr_aald hx hb hK.1 hP 2 4 rfl (rfl) rfl (hj3) (by omega) (v := (ad (3 + j))) (ref3_m hj3) dX0_marks_19 ?_
  refine lv_iload hx hb dX0_marks_20 (lv_at hl 0 rfl) ?_
  refine lv_dup2_11 hx hb dX0_marks_22 rfl rfl ?_
  refine xr_lald hx hb hK.1 hP (3 + j) 1 ((WW_m hj3)) rfl (hix) (by omega) (v := (lN (mL j (h / 2 ^ (64 - pL j))))) (rfl) dX0_marks_23 ?_
  refine lv_lconst (v := (lN 1)) hx hb dX0_marks_24 (by decide) ?_
  refine lv_lload_n hx hb dX0_marks_25 rfl (lv_at hl 3 rfl) ?_
  refine lv_bipush (v := (nI 64)) hx hb dX0_marks_26 (by decide) ?_
  refine lv_aload_n hx hb dX0_marks_28 rfl (lv_at hl 1 rfl) ?_
  refine va_get (D := D) (ci := 0) (v := .ref (ad 1)) (C := RX0) (T := TX0) (N := 3) hx hb hts in_X0 hown hK.1 hP 0 (rfl) rfl 1 (by decide) (hts _ q126) (fun _ h9 => h9) rfl dX0_marks_29 ?_
  refine lv_iload_n hx hb dX0_marks_32 rfl (lv_at hl 2 rfl) ?_
  refine xr_iald hx hb hK.1 hP 1 0 (rfl) rfl (hj3) (by omega) (v := (nI (pL j))) (by show nI (pA j) = _; rw [hpa]) dX0_marks_33 ?_
  refine lv_isub hx hb dX0_marks_34 ?_
  refine lv_topi (fun v34 e34 => ?_)
  obtain rfl : v34 = (nI (64 - pL j)) := by rw [e34]; exact pk_sub (by omega)
  refine vp_callSi (W.runS (As := [.long (lN h), .int (nI (64 - pL j))]) (rest := [.long (lN 1), .long (lN (mL j (h / 2 ^ (64 - pL j)))), .int (nI (h / 2 ^ (64 - pL j))), .ref (ad (3 + j))]) ⟨hx, hb, hml, hown, hts⟩ (met_noughts l h (64 - pL j) hh (by omega)) (va_cwS 2 hts (lw_S q231 q232 q6 q233) rfl rfl rfl (by decide +kernel) ⟨Nat.le_of_ble_eq_true rfl, Nat.le_of_ble_eq_true rfl⟩) (preS_p) rfl rfl hl.1 rfl (lv_room (Nat.le_of_ble_eq_true rfl)) dX0_marks_35 ⟨Nat.le_of_ble_eq_true rfl, Nat.le_of_ble_eq_true rfl⟩) (fun r35 e35 => ?_)
  obtain rfl : r35 = (nI (nz (64 - pL j) h)) := e35
  refine lv_aload_n hx hb dX0_marks_38 rfl (lv_at hl 1 rfl) ?_
  refine va_get (D := D) (ci := 0) (v := .ref (ad 1)) (C := RX0) (T := TX0) (N := 3) hx hb hts in_X0 hown hK.1 hP 0 (rfl) rfl 1 (by decide) (hts _ q126) (fun _ h9 => h9) rfl dX0_marks_39 ?_
  refine lv_iload_n hx hb dX0_marks_42 rfl (lv_at hl 2 rfl) ?_
  refine xr_iald hx hb hK.1 hP 1 0 (rfl) rfl (hj3) (by omega) (v := (nI (pL j))) (by show nI (pA j) = _; rw [hpa]) dX0_marks_43 ?_
  refine lv_iadd hx hb dX0_marks_44 ?_
  refine lv_topi (fun v44 e44 => ?_)
  obtain rfl : v44 = (nI ((nz (64 - pL j) h) + pL j)) := by rw [e44]; exact nI_add _ _
  refine lv_iconst (v := (nI 1)) hx hb dX0_marks_45 (by decide) ?_
  refine lv_isub hx hb dX0_marks_46 ?_
  refine lv_topi (fun v46 e46 => ?_)
  obtain rfl : v46 = (nI ((nz (64 - pL j) h) + pL j - 1)) := by rw [e46]; exact pk_sub (by omega)
  refine lv_lshl hx hb dX0_marks_47 rfl ?_
  refine lv_topl (fun v47 e47 => ?_)
  obtain rfl : v47 = (lN (2 ^ ((nz (64 - pL j) h) + pL j - 1))) := by rw [e47]; exact (wb_shl 1 (by omega)).trans (congrArg lN (Nat.one_mul _))
  refine lv_lor hx hb dX0_marks_48 ?_
  refine lv_topl (fun v48 e48 => ?_)
  obtain rfl : v48 = (lN (mL j (h / 2 ^ (64 - pL j)) ||| 2 ^ ((nz (64 - pL j) h) + pL j - 1))) := by rw [e48]; exact wb_or (hm j _).1 hbit.1
  refine xr_last hx hb hK.1 hP hD hS (3 + j) 1 (fun i => lN ((addM (pL j) (mL j) h) i)) ((WW_m hj3)) rfl (hix) (by omega) (fun i hi => by
      unfold addM
      by_cases hii : i = (h / 2 ^ (64 - pL j))
      · rw [if_pos hii, if_pos hii, hii]
      · rw [if_neg hii, if_neg hii]) dX0_marks_49 (fun H locs hP hD hS => ?_)
  have hP : va_P D vwCl ((WW t ad pA pL (va_up mL j (addM (pL j) (mL j) h)) pD mD)) H := by rw [← WW_setm hj3]; exact hP
  have hD : va_D (va_A (WW t ad pA pL mL pD mD) s.heap.size) ((WW t ad pA pL (va_up mL j (addM (pL j) (mL j) h)) pD mD)) := by rw [← WW_setm hj3]; exact hD
  exact W.vret hx hb hr (fun t ht hW => ⟨⟨(), rfl, trivial, by rw [ht]; exact hP, hD⟩, hS.F ht⟩) hS.2.2 dX0_marks_50

set_option maxHeartbeats 4000000 in
set_option maxRecDepth 100000 in
/-- isToken answers true -/
theorem met_isToken (l : Launch) (D : va_G) (t : Nat → ClassId) (ad pA pL : Nat → Nat) (mL : Nat → Nat → Nat) (pD : Nat → Nat) (mD : Nat → Nat → Nat) (x y : Int32) : Met l yX0_isToken (ws_ yX0_isToken cX0_isToken 5 (some .boolean)) ({ frames := 5, cells := 0, slots := 0, locals := 109 } : Room) (Pr [.ref (ad 0), .int x, .int y] D t (WW t ad pA pL mL pD mD)) (vp_Si (fun r => r = nI 1)) 0 0 (fun _ => False) := by
  refine Met.ofW (cc := cX0_isToken) (maxL := 5) (ret := (some .boolean)) (by decide) rfl ?_
  intro p e s m args below meth c s₁ B hml hv
  obtain ⟨rfl, hK, hP⟩ := hv
  have hx := B.exec
  have hb := B.bytes
  have hr := B.returns
  have hts := atoms_spec (ws := ws_ yX0_isToken cX0_isToken 5 (some .boolean)) B.pre
  have hts : ∀ w ∈ lw_all, w.before _ s = true := fun w h => hts w (List.mem_cons_of_mem _ h)
  have hown : s.vm.findClass RX0 = some m.cls := findClass_of_methodNamed B.named
  have hlocks := B.notSynchronized
  refine w_entry [.ref (ad 0), .int x, .int y] (Nat.le_of_ble_eq_true rfl) (fun ls hl => ?_)
  have hl : lv_has ls 5 [(0, .ref (ad 0)), (1, .int x), (2, .int y)] := hl
  refine lv_iload_n hx hb dX0_isToken_0 rfl (lv_at hl 1 rfl) ?_
  refine lv_iload_n hx hb dX0_isToken_1 rfl (lv_at hl 2 rfl) ?_
  refine vp_callSl (W.runS (As := [.int x, .int y]) (rest := []) ⟨hx, hb, hml, hown, hts⟩ (met_whole l x y) (va_cwS 2 hts (lw_S q223 q224 q6 q225) rfl rfl rfl (by decide +kernel) ⟨Nat.le_of_ble_eq_true rfl, Nat.le_of_ble_eq_true rfl⟩) (preS_p) rfl rfl hl.1 rfl (lv_room (Nat.le_of_ble_eq_true rfl)) dX0_isToken_2 ⟨Nat.le_of_ble_eq_true rfl, Nat.le_of_ble_eq_true rfl⟩) (fun r2 e2 => ?_)
  obtain rfl : r2 = (lN (hw x y)) := e2
  refine lv_lstore_n (lv' := [(3, .long (lN (hw x y))), (0, .ref (ad 0)), (1, .int x), (2, .int y)]) hx hb dX0_isToken_5 rfl hl (by decide) rfl (fun ls hl => ?_)
  refine lv_aload_n hx hb dX0_isToken_6 rfl (lv_at hl 1 rfl) ?_
  refine va_get (D := D) (ci := 0) (v := .ref (ad 6)) (C := RX0) (T := TX0) (N := 3) hx hb hts in_X0 hown hK.1 hP 0 (rfl) rfl 0 (by decide) (hts _ q125) (fun _ h9 => h9) rfl dX0_isToken_7 ?_
  refine lv_iload_n hx hb dX0_isToken_10 rfl (lv_at hl 2 rfl) ?_
  refine lv_iload_n hx hb dX0_isToken_11 rfl (lv_at hl 3 rfl) ?_
  refine vp_callSi (W.runV (As := [.int x, .int y]) (rest := []) ⟨hx, hb, hml, hown, hts⟩ (met_dtok l (ad 6) x y) (cwV 2 hts (lw_V q335 q336 q337 q7 q338) rfl rfl rfl (by decide +kernel) ⟨Nat.le_of_ble_eq_true rfl, Nat.le_of_ble_eq_true rfl⟩) (preV_p 6 1 hK hP rfl rfl) rfl rfl hl.1 rfl (lv_room (Nat.le_of_ble_eq_true rfl)) dX0_isToken_12 ⟨Nat.le_of_ble_eq_true rfl, Nat.le_of_ble_eq_true rfl⟩) (fun r12 e12 => ?_)
  obtain rfl : r12 = (nI (tok (hw x y))) := e12
  refine lv_lload_n hx hb dX0_isToken_15 rfl (lv_at hl 0 rfl) ?_
  refine lv_bipush (v := (nI 38)) hx hb dX0_isToken_16 (by decide) ?_
  refine lv_lushr hx hb dX0_isToken_18 rfl ?_
  refine lv_topl (fun v18 e18 => ?_)
  obtain rfl : v18 = (lN (hw x y / 2 ^ 38)) := by rw [e18]; exact wb_shr (hw_lt x y) (k := 38) (by decide)
  refine lv_ldc2 (v := (lN 64)) hx hb hown (hts _ q339) dX0_isToken_19 ?_
  refine lv_lmul hx hb dX0_isToken_22 ?_
  refine lv_topl (fun v22 e22 => ?_)
  refine lv_lload_n hx hb dX0_isToken_23 rfl (lv_at hl 0 rfl) ?_
  refine lv_bipush (v := (nI 38)) hx hb dX0_isToken_24 (by decide) ?_
  refine vp_callSi (W.runS (As := [.long (lN (hw x y)), .int (nI 38)]) (rest := [.long v22, .int (nI (tok (hw x y)))]) ⟨hx, hb, hml, hown, hts⟩ (met_noughts l (hw x y) 38 (hw_lt x y) (by decide)) (va_cwS 2 hts (lw_S q231 q232 q6 q233) rfl rfl rfl (by decide +kernel) ⟨Nat.le_of_ble_eq_true rfl, Nat.le_of_ble_eq_true rfl⟩) (preS_p) rfl rfl hl.1 rfl (lv_room (Nat.le_of_ble_eq_true rfl)) dX0_isToken_26 ⟨Nat.le_of_ble_eq_true rfl, Nat.le_of_ble_eq_true rfl⟩) (fun r26 e26 => ?_)
  obtain rfl : r26 = (nI (nz 38 (hw x y))) := e26
  refine lv_i2l hx hb dX0_isToken_29 rfl ?_
  refine lv_topl (fun v29 e29 => ?_)
  refine lv_ladd hx hb dX0_isToken_30 ?_
  refine lv_topl (fun v30 e30 => ?_)
  refine lv_l2i hx hb dX0_isToken_31 rfl ?_
  refine lv_topi (fun v31 e31 => ?_)
  obtain rfl : v31 = (nI (tok (hw x y))) := by rw [e31, e30, e29, e22]; exact tok_law (hw_lt x y)
  refine lv_icmp_ne (tgt := 39) hx hb dX0_isToken_32 (by decide) (fun c32 => absurd c32 (fun h => h rfl)) (fun c32 => ?_)
  refine lv_iconst (v := (nI 1)) hx hb dX0_isToken_35 (by decide) ?_
  refine lv_goto (tgt := 40) hx hb dX0_isToken_36 (by decide) ?_
  exact W.zret (v := (nI 1)) hx hb hr (rfl) (fun t ht hW => ⟨_, rfl, rfl, ht⟩) (fun q h => by cases h) dX0_isToken_40

set_option maxHeartbeats 4000000 in
set_option maxRecDepth 100000 in
/-- are answers true -/
theorem met_are (l : Launch) (D : va_G) (t : Nat → ClassId) (ad pp : Nat → Nat) (mm : Nat → Nat → Nat) (hq : ∀ j, 3 ≤ pp j ∧ pp j ≤ 6) (hm : ∀ j, Ok (mm j)) : Met l yX0_are (ws_ yX0_are cX0_are 4 (some .boolean)) ({ frames := 3, cells := 0, slots := 0, locals := 62 } : Room) (Pr [.ref (ad 0)] D t (WW t ad pp pp mm pp mm)) (vp_Si (fun r => r = nI 1)) 0 0 (fun _ => False) := by
  refine Met.ofW (cc := cX0_are) (maxL := 4) (ret := (some .boolean)) (by decide) rfl ?_
  intro p e s m args below meth c s₁ B hml hv
  obtain ⟨rfl, hK, hP⟩ := hv
  have hx := B.exec
  have hb := B.bytes
  have hr := B.returns
  have hts := atoms_spec (ws := ws_ yX0_are cX0_are 4 (some .boolean)) B.pre
  have hts : ∀ w ∈ lw_all, w.before _ s = true := fun w h => hts w (List.mem_cons_of_mem _ h)
  have hown : s.vm.findClass RX0 = some m.cls := findClass_of_methodNamed B.named
  have hlocks := B.notSynchronized
  refine w_entry [.ref (ad 0)] (Nat.le_of_ble_eq_true rfl) (fun ls hl => ?_)
  have hl : lv_has ls 4 [(0, .ref (ad 0))] := hl
  refine lv_iconst (v := (nI 0)) hx hb dX0_are_0 (by decide) ?_
  refine lv_istore_n (lv' := [(1, .int (nI 0)), (0, .ref (ad 0))]) hx hb dX0_are_1 rfl hl (by decide) rfl (fun ls hl => ?_)
  refine W_loop (nL := 4) (fun (j : Nat) H1 L1 => j ≤ 3 ∧ H1 = s.heap ∧ L1 = []) (fun j => [(1, .int (nI j)), (0, .ref (ad 0))]) (fun j => 3 - j) (fun _ => 0) (fun _ => 0) (fun j H1 L1 ls hI hl ih => ?_) 0 ⟨Nat.zero_le _, rfl, rfl⟩ (lv_sub hl [0, 1] rfl)
  obtain ⟨hjle, rfl, rfl⟩ := hI
  have hl : lv_has ls 4 [(1, .int (nI j)), (0, .ref (ad 0))] := hl
  refine lv_iload_n hx hb dX0_are_2 rfl (lv_at hl 0 rfl) ?_
  refine lv_iconst (v := (nI 3)) hx hb dX0_are_3 (by decide) ?_
  refine lv_icmp_ge (tgt := 115) hx hb dX0_are_4 (by decide) (fun c4 => ?_) (fun c4 => ?_)
  · refine lv_iconst (v := (nI 1)) hx hb dX0_are_115 (by decide) ?_
    exact W.zret (v := (nI 1)) hx hb hr (rfl) (fun t ht hW => ⟨_, rfl, rfl, ht⟩) (fun q h => by cases h) dX0_are_116
  · have hj3 : j < 3 := by rcases Nat.lt_or_ge j 3 with h | h; exact h; exact absurd (nI_le h (by omega)) c4
    have hq3 := (hq j).1
    have hq6 := (hq j).2
    have h64 := p64 hq6
    have huj : uI (nI j) % 2 ^ 31 % 3 = j := by rw [uI_small (by omega)]; exact Nat.mod_eq_of_lt hj3
    refine lv_iconst (v := (nI 1)) hx hb dX0_are_7 (by decide) ?_
    refine lv_istore_n (lv' := [(2, .int (nI 1)), (1, .int (nI j)), (0, .ref (ad 0))]) hx hb dX0_are_8 rfl hl (by decide) rfl (fun ls hl => ?_)
    refine lv_aload_n hx hb dX0_are_9 rfl (lv_at hl 2 rfl) ?_
    refine va_get (D := D) (ci := 0) (v := .ref (ad 6)) (C := RX0) (T := TX0) (N := 3) hx hb hts in_X0 hown hK.1 hP 0 (rfl) rfl 0 (by decide) (hts _ q125) (fun _ h9 => h9) rfl dX0_are_10 ?_
    refine lv_iload_n hx hb dX0_are_13 rfl (lv_at hl 1 rfl) ?_
    refine vp_callSi (W.runV (As := [.int (nI j)]) (rest := []) ⟨hx, hb, hml, hown, hts⟩ (met_dp l D t ad pp pp mm pp mm hq hm (nI j) j huj hj3) (cwV 1 hts (lw_V q145 q146 q147 q7 q148) rfl rfl rfl (by decide +kernel) ⟨Nat.le_of_ble_eq_true rfl, Nat.le_of_ble_eq_true rfl⟩) (preV_r 6 1 hK hP rfl rfl) rfl rfl hl.1 rfl (lv_room (Nat.le_of_ble_eq_true rfl)) dX0_are_14 ⟨Nat.le_of_ble_eq_true rfl, Nat.le_of_ble_eq_true rfl⟩) (fun r14 e14 => ?_)
    obtain rfl : r14 = (nI (pp j)) := e14
    refine lv_aload_n hx hb dX0_are_17 rfl (lv_at hl 2 rfl) ?_
    refine va_get (D := D) (ci := 0) (v := .ref (ad 1)) (C := RX0) (T := TX0) (N := 3) hx hb hts in_X0 hown hK.1 hP 0 (rfl) rfl 1 (by decide) (hts _ q126) (fun _ h9 => h9) rfl dX0_are_18 ?_
    refine lv_iload_n hx hb dX0_are_21 rfl (lv_at hl 1 rfl) ?_
    refine xr_iald hx hb hK.1 hP 1 0 (rfl) rfl (hj3) (by omega) (v := (nI (pp j))) (rfl) dX0_are_22 ?_
    refine lv_icmp_eq (tgt := 28) hx hb dX0_are_23 (by decide) (fun c23 => ?_) (fun c23 => absurd (rfl) c23)
    refine lv_iconst (v := (nI 0)) hx hb dX0_are_28 (by decide) ?_
    refine lv_istore_n (lv' := [(3, .int (nI 0)), (2, .int (nI 1)), (1, .int (nI j)), (0, .ref (ad 0))]) hx hb dX0_are_29 rfl hl (by decide) rfl (fun ls hl => ?_)
    refine W_loop (nL := 4) (fun (b2 : Nat × Nat) H1 L1 => (b2.1 ≤ 2 ^ pp j ∧ ((b2.2 = 1 ∧ ∀ a, a < b2.1 → mm j a = 0) ∨ (b2.2 = 0 ∧ ∃ a, a < b2.1 ∧ mm j a ≠ 0))) ∧ H1 = s.heap ∧ L1 = []) (fun b2 => [(3, .int (nI b2.1)), (2, .int (nI b2.2)), (1, .int (nI j)), (0, .ref (ad 0))]) (fun b2 => 2 ^ pp j - b2.1) (fun _ => 0) (fun _ => 0) (fun b2 H1 L1 ls hI hl ih2 => ?_) (0, 1) ⟨⟨Nat.zero_le _, Or.inl ⟨rfl, fun a h => absurd h (Nat.not_lt_zero _)⟩⟩, rfl, rfl⟩ (lv_sub hl [0, 1, 2, 3] rfl)
    obtain ⟨i2, e2⟩ := b2
    obtain ⟨⟨hile, hev⟩, rfl, rfl⟩ := hI
    have hile : i2 ≤ 2 ^ pp j := hile
    have hev : ((e2 = 1 ∧ ∀ a, a < i2 → mm j a = 0) ∨ (e2 = 0 ∧ ∃ a, a < i2 ∧ mm j a ≠ 0)) := hev
    have hl : lv_has ls 4 [(3, .int (nI i2)), (2, .int (nI e2)), (1, .int (nI j)), (0, .ref (ad 0))] := hl
    refine lv_iload_n hx hb dX0_are_30 rfl (lv_at hl 0 rfl) ?_
    refine lv_aload_n hx hb dX0_are_31 rfl (lv_at hl 3 rfl) ?_
    refine va_get (D := D) (ci := 0) (v := .ref (ad 2)) (C := RX0) (T := TX0) (N := 3) hx hb hts in_X0 hown hK.1 hP 0 (rfl) rfl 2 (by decide) (hts _ q127) (fun _ h9 => h9) rfl dX0_are_32 ?_
    refine lv_iload_n hx hb dX0_are_35 rfl (lv_at hl 2 rfl) ?_
    refine xr_aald hx hb hK.1 hP 2 4 rfl (rfl) rfl (hj3) (by omega) (v := (ad (3 + j))) (ref3_m hj3) dX0_are_36 ?_
    refine va_alen (v := nI (2 ^ pp j)) hx hb hK.1 hP (3 + j) 1 ((WW_m hj3)) rfl rfl dX0_are_37 ?_
    refine lv_icmp_ge (tgt := 95) hx hb dX0_are_38 (by decide) (fun c38 => ?_) (fun c38 => ?_)
    · have hie : i2 = 2 ^ pp j := by have := (nI_leI (a := 2 ^ pp j) (b := i2) (by omega) (by omega)).mp c38; omega
      refine lv_aload_n hx hb dX0_are_95 rfl (lv_at hl 3 rfl) ?_
      refine va_get (D := D) (ci := 0) (v := .ref (ad 6)) (C := RX0) (T := TX0) (N := 3) hx hb hts in_X0 hown hK.1 hP 0 (rfl) rfl 0 (by decide) (hts _ q125) (fun _ h9 => h9) rfl dX0_are_96 ?_
      refine lv_iload_n hx hb dX0_are_99 rfl (lv_at hl 2 rfl) ?_
      refine vp_callSi (W.runV (As := [.int (nI j)]) (rest := []) ⟨hx, hb, hml, hown, hts⟩ (met_dempty l D t ad pp pp mm pp mm hq hm (nI j) j huj hj3) (cwV 1 hts (lw_V q172 q173 q174 q7 q175) rfl rfl rfl (by decide +kernel) ⟨Nat.le_of_ble_eq_true rfl, Nat.le_of_ble_eq_true rfl⟩) (preV_r 6 1 hK hP rfl rfl) rfl rfl hl.1 rfl (lv_room (Nat.le_of_ble_eq_true rfl)) dX0_are_100 ⟨Nat.le_of_ble_eq_true rfl, Nat.le_of_ble_eq_true rfl⟩) (fun r100 e100 => ?_)
      refine lv_iload_n hx hb dX0_are_103 rfl (lv_at hl 1 rfl) ?_
      have heq : r100 = nI e2 := by
        rw [hie] at hev
        rcases e100 with ⟨h1, h2⟩ | ⟨h1, a, ha, h2⟩ <;> rcases hev with ⟨h3, h4⟩ | ⟨h3, a2, ha2, h4⟩
        · rw [h1, h3]
        · exact absurd (h2 a2 ha2) h4
        · exact absurd (h4 a ha) h2
        · rw [h1, h3]
      refine lv_icmp_eq (tgt := 109) hx hb dX0_are_104 (by decide) (fun c104 => ?_) (fun c104 => absurd (heq) c104)
      refine lv_iinc (v := (nI (j + 1))) (lv' := [(1, .int (nI (j + 1))), (3, .int (nI i2)), (2, .int (nI e2)), (0, .ref (ad 0))]) hx hb dX0_are_109 hl (k := 2) rfl (nI_1 j) (by decide) rfl (fun ls hl => ?_)
      refine lv_goto (tgt := 2) hx hb dX0_are_112 (by decide) ?_
      exact ih (j + 1) _ _ ls (by omega) ⟨hj3, rfl, rfl⟩ (lv_sub hl [0, 3] rfl)
    · have hilt : i2 < 2 ^ pp j := by rcases Nat.lt_or_ge i2 (2 ^ pp j) with h | h; exact h; exact absurd (nI_le h (by omega)) c38
      have he1 : e2 ≤ 1 := by rcases hev with ⟨h, -⟩ | ⟨h, -⟩ <;> omega
      have hui : uI (nI i2) % 2 ^ 31 % 2 ^ pp j = i2 := by rw [uI_small (by omega)]; exact Nat.mod_eq_of_lt hilt
      refine lv_iload_n hx hb dX0_are_41 rfl (lv_at hl 1 rfl) ?_
      refine lv_if_eq (tgt := 62) hx hb dX0_are_42 (by decide) (fun c42 => ?_) (fun c42 => ?_)
      · have h0 : e2 = 0 := (nI_eq (by omega) (by decide)).mp c42
        have hex : ∃ a, a < i2 ∧ mm j a ≠ 0 := by rcases hev with ⟨h, -⟩ | ⟨-, h⟩; omega; exact h
        refine lv_iconst (v := (nI 0)) hx hb dX0_are_62 (by decide) ?_
        have hev2 : ((0 = 1 ∧ ∀ a, a < (i2 + 1) → mm j a = 0) ∨ (0 = 0 ∧ ∃ a, a < (i2 + 1) ∧ mm j a ≠ 0)) := by obtain ⟨a, h1, h2⟩ := hex; exact Or.inr ⟨rfl, a, by omega, h2⟩
        refine lv_istore_n (lv' := [(2, .int (nI 0)), (3, .int (nI i2)), (1, .int (nI j)), (0, .ref (ad 0))]) hx hb dX0_are_63 rfl hl (by decide) rfl (fun ls hl => ?_)
        refine lv_aload_n hx hb dX0_are_64 rfl (lv_at hl 3 rfl) ?_
        refine va_get (D := D) (ci := 0) (v := .ref (ad 6)) (C := RX0) (T := TX0) (N := 3) hx hb hts in_X0 hown hK.1 hP 0 (rfl) rfl 0 (by decide) (hts _ q125) (fun _ h9 => h9) rfl dX0_are_65 ?_
        refine lv_iload_n hx hb dX0_are_68 rfl (lv_at hl 2 rfl) ?_
        refine lv_iload_n hx hb dX0_are_69 rfl (lv_at hl 1 rfl) ?_
        refine vp_callSi (W.runV (As := [.int (nI j), .int (nI i2)]) (rest := []) ⟨hx, hb, hml, hown, hts⟩ (met_dreg l D t ad pp pp mm pp mm hq hm (nI j) j huj hj3 (nI i2)) (cwV 2 hts (lw_V q161 q162 q163 q7 q164) rfl rfl rfl (by decide +kernel) ⟨Nat.le_of_ble_eq_true rfl, Nat.le_of_ble_eq_true rfl⟩) (preV_r 6 1 hK hP rfl rfl) rfl rfl hl.1 rfl (lv_room (Nat.le_of_ble_eq_true rfl)) dX0_are_70 ⟨Nat.le_of_ble_eq_true rfl, Nat.le_of_ble_eq_true rfl⟩) (fun r70 e70 => ?_)
        obtain rfl : r70 = (nI (rg (mm j (uI (nI i2) % 2 ^ 31 % 2 ^ pp j)))) := e70
        rw [hui]
        refine lv_aload_n hx hb dX0_are_73 rfl (lv_at hl 3 rfl) ?_
        refine va_get (D := D) (ci := 0) (v := .ref (ad 2)) (C := RX0) (T := TX0) (N := 3) hx hb hts in_X0 hown hK.1 hP 0 (rfl) rfl 2 (by decide) (hts _ q127) (fun _ h9 => h9) rfl dX0_are_74 ?_
        refine lv_iload_n hx hb dX0_are_77 rfl (lv_at hl 2 rfl) ?_
        refine xr_aald hx hb hK.1 hP 2 4 rfl (rfl) rfl (hj3) (by omega) (v := (ad (3 + j))) (ref3_m hj3) dX0_are_78 ?_
        refine lv_iload_n hx hb dX0_are_79 rfl (lv_at hl 1 rfl) ?_
        refine xr_lald hx hb hK.1 hP (3 + j) 1 ((WW_m hj3)) rfl (hilt) (by omega) (v := (lN (mm j i2))) (rfl) dX0_are_80 ?_
        refine vp_callSi (W.runS (As := [.long (lN (mm j i2))]) (rest := [.int (nI (rg (mm j i2)))]) ⟨hx, hb, hml, hown, hts⟩ (met_reg l (mm j i2) ((hm j i2).1) ((hm j i2).2)) (va_cwS 1 hts (lw_S q169 q170 q6 q171) rfl rfl rfl (by decide +kernel) ⟨Nat.le_of_ble_eq_true rfl, Nat.le_of_ble_eq_true rfl⟩) (preS_p) rfl rfl hl.1 rfl (lv_room (Nat.le_of_ble_eq_true rfl)) dX0_are_81 ⟨Nat.le_of_ble_eq_true rfl, Nat.le_of_ble_eq_true rfl⟩) (fun r81 e81 => ?_)
        obtain rfl : r81 = (nI (rg (mm j i2))) := e81
        refine lv_icmp_eq (tgt := 89) hx hb dX0_are_84 (by decide) (fun c84 => ?_) (fun c84 => absurd (rfl) c84)
        refine lv_iinc (v := (nI (i2 + 1))) (lv' := [(3, .int (nI (i2 + 1))), (2, .int (nI 0)), (1, .int (nI j)), (0, .ref (ad 0))]) hx hb dX0_are_89 hl (k := 1) rfl (nI_1 i2) (by decide) rfl (fun ls hl => ?_)
        refine lv_goto (tgt := 30) hx hb dX0_are_92 (by decide) ?_
        exact ih2 (i2 + 1, 0) _ _ ls (by show 2 ^ pp j - (i2 + 1) < 2 ^ pp j - i2; omega) ⟨⟨hilt, hev2⟩, rfl, rfl⟩ (lv_sub hl [0, 1, 2, 3] rfl)
      · have h1 : ∀ a, a < i2 → mm j a = 0 := by rcases hev with ⟨-, h⟩ | ⟨h, -⟩; exact h; exact absurd (by rw [h]; rfl) c42
        refine lv_aload_n hx hb dX0_are_45 rfl (lv_at hl 3 rfl) ?_
        refine va_get (D := D) (ci := 0) (v := .ref (ad 2)) (C := RX0) (T := TX0) (N := 3) hx hb hts in_X0 hown hK.1 hP 0 (rfl) rfl 2 (by decide) (hts _ q127) (fun _ h9 => h9) rfl dX0_are_46 ?_
        refine lv_iload_n hx hb dX0_are_49 rfl (lv_at hl 2 rfl) ?_
        refine xr_aald hx hb hK.1 hP 2 4 rfl (rfl) rfl (hj3) (by omega) (v := (ad (3 + j))) (ref3_m hj3) dX0_are_50 ?_
        refine lv_iload_n hx hb dX0_are_51 rfl (lv_at hl 0 rfl) ?_
        refine xr_lald hx hb hK.1 hP (3 + j) 1 ((WW_m hj3)) rfl (hilt) (by omega) (v := (lN (mm j i2))) (rfl) dX0_are_52 ?_
        refine lv_lconst (v := (lN 0)) hx hb dX0_are_53 (by decide) ?_
        refine W.lcmp hx hb dX0_are_54 ?_
        refine lv_topi (fun v54 e54 => ?_)
        refine lv_if_ne (tgt := 62) hx hb dX0_are_55 (by decide) (fun c55 => ?_) (fun c55 => ?_)
        · have hn0 : mm j i2 ≠ 0 := fun h => c55 (by rw [e54, h]; exact (lg_cmp_eq _ _).mpr rfl)
          refine lv_iconst (v := (nI 0)) hx hb dX0_are_62 (by decide) ?_
          have hev2 : ((0 = 1 ∧ ∀ a, a < (i2 + 1) → mm j a = 0) ∨ (0 = 0 ∧ ∃ a, a < (i2 + 1) ∧ mm j a ≠ 0)) := Or.inr ⟨rfl, i2, by omega, hn0⟩
          refine lv_istore_n (lv' := [(2, .int (nI 0)), (3, .int (nI i2)), (1, .int (nI j)), (0, .ref (ad 0))]) hx hb dX0_are_63 rfl hl (by decide) rfl (fun ls hl => ?_)
          refine lv_aload_n hx hb dX0_are_64 rfl (lv_at hl 3 rfl) ?_
          refine va_get (D := D) (ci := 0) (v := .ref (ad 6)) (C := RX0) (T := TX0) (N := 3) hx hb hts in_X0 hown hK.1 hP 0 (rfl) rfl 0 (by decide) (hts _ q125) (fun _ h9 => h9) rfl dX0_are_65 ?_
          refine lv_iload_n hx hb dX0_are_68 rfl (lv_at hl 2 rfl) ?_
          refine lv_iload_n hx hb dX0_are_69 rfl (lv_at hl 1 rfl) ?_
          refine vp_callSi (W.runV (As := [.int (nI j), .int (nI i2)]) (rest := []) ⟨hx, hb, hml, hown, hts⟩ (met_dreg l D t ad pp pp mm pp mm hq hm (nI j) j huj hj3 (nI i2)) (cwV 2 hts (lw_V q161 q162 q163 q7 q164) rfl rfl rfl (by decide +kernel) ⟨Nat.le_of_ble_eq_true rfl, Nat.le_of_ble_eq_true rfl⟩) (preV_r 6 1 hK hP rfl rfl) rfl rfl hl.1 rfl (lv_room (Nat.le_of_ble_eq_true rfl)) dX0_are_70 ⟨Nat.le_of_ble_eq_true rfl, Nat.le_of_ble_eq_true rfl⟩) (fun r70 e70 => ?_)
          obtain rfl : r70 = (nI (rg (mm j (uI (nI i2) % 2 ^ 31 % 2 ^ pp j)))) := e70
          rw [hui]
          refine lv_aload_n hx hb dX0_are_73 rfl (lv_at hl 3 rfl) ?_
          refine va_get (D := D) (ci := 0) (v := .ref (ad 2)) (C := RX0) (T := TX0) (N := 3) hx hb hts in_X0 hown hK.1 hP 0 (rfl) rfl 2 (by decide) (hts _ q127) (fun _ h9 => h9) rfl dX0_are_74 ?_
          refine lv_iload_n hx hb dX0_are_77 rfl (lv_at hl 2 rfl) ?_
          refine xr_aald hx hb hK.1 hP 2 4 rfl (rfl) rfl (hj3) (by omega) (v := (ad (3 + j))) (ref3_m hj3) dX0_are_78 ?_
          refine lv_iload_n hx hb dX0_are_79 rfl (lv_at hl 1 rfl) ?_
          refine xr_lald hx hb hK.1 hP (3 + j) 1 ((WW_m hj3)) rfl (hilt) (by omega) (v := (lN (mm j i2))) (rfl) dX0_are_80 ?_
          refine vp_callSi (W.runS (As := [.long (lN (mm j i2))]) (rest := [.int (nI (rg (mm j i2)))]) ⟨hx, hb, hml, hown, hts⟩ (met_reg l (mm j i2) ((hm j i2).1) ((hm j i2).2)) (va_cwS 1 hts (lw_S q169 q170 q6 q171) rfl rfl rfl (by decide +kernel) ⟨Nat.le_of_ble_eq_true rfl, Nat.le_of_ble_eq_true rfl⟩) (preS_p) rfl rfl hl.1 rfl (lv_room (Nat.le_of_ble_eq_true rfl)) dX0_are_81 ⟨Nat.le_of_ble_eq_true rfl, Nat.le_of_ble_eq_true rfl⟩) (fun r81 e81 => ?_)
          obtain rfl : r81 = (nI (rg (mm j i2))) := e81
          refine lv_icmp_eq (tgt := 89) hx hb dX0_are_84 (by decide) (fun c84 => ?_) (fun c84 => absurd (rfl) c84)
          refine lv_iinc (v := (nI (i2 + 1))) (lv' := [(3, .int (nI (i2 + 1))), (2, .int (nI 0)), (1, .int (nI j)), (0, .ref (ad 0))]) hx hb dX0_are_89 hl (k := 1) rfl (nI_1 i2) (by decide) rfl (fun ls hl => ?_)
          refine lv_goto (tgt := 30) hx hb dX0_are_92 (by decide) ?_
          exact ih2 (i2 + 1, 0) _ _ ls (by show 2 ^ pp j - (i2 + 1) < 2 ^ pp j - i2; omega) ⟨⟨hilt, hev2⟩, rfl, rfl⟩ (lv_sub hl [0, 1, 2, 3] rfl)
        · have hz0 : mm j i2 = 0 := (lN_eq64 (hm j i2).1 (by decide)).mp ((lg_cmp_eq _ _).mp (by rw [← e54]; exact c55))
          refine lv_iconst (v := (nI 1)) hx hb dX0_are_58 (by decide) ?_
          refine lv_goto (tgt := 63) hx hb dX0_are_59 (by decide) ?_
          have hev2 : ((1 = 1 ∧ ∀ a, a < (i2 + 1) → mm j a = 0) ∨ (1 = 0 ∧ ∃ a, a < (i2 + 1) ∧ mm j a ≠ 0)) := Or.inl ⟨rfl, fun a ha => by rcases Nat.lt_or_ge a i2 with h | h; exact h1 a h; rw [show a = i2 by omega]; exact hz0⟩
          refine lv_istore_n (lv' := [(2, .int (nI 1)), (3, .int (nI i2)), (1, .int (nI j)), (0, .ref (ad 0))]) hx hb dX0_are_63 rfl hl (by decide) rfl (fun ls hl => ?_)
          refine lv_aload_n hx hb dX0_are_64 rfl (lv_at hl 3 rfl) ?_
          refine va_get (D := D) (ci := 0) (v := .ref (ad 6)) (C := RX0) (T := TX0) (N := 3) hx hb hts in_X0 hown hK.1 hP 0 (rfl) rfl 0 (by decide) (hts _ q125) (fun _ h9 => h9) rfl dX0_are_65 ?_
          refine lv_iload_n hx hb dX0_are_68 rfl (lv_at hl 2 rfl) ?_
          refine lv_iload_n hx hb dX0_are_69 rfl (lv_at hl 1 rfl) ?_
          refine vp_callSi (W.runV (As := [.int (nI j), .int (nI i2)]) (rest := []) ⟨hx, hb, hml, hown, hts⟩ (met_dreg l D t ad pp pp mm pp mm hq hm (nI j) j huj hj3 (nI i2)) (cwV 2 hts (lw_V q161 q162 q163 q7 q164) rfl rfl rfl (by decide +kernel) ⟨Nat.le_of_ble_eq_true rfl, Nat.le_of_ble_eq_true rfl⟩) (preV_r 6 1 hK hP rfl rfl) rfl rfl hl.1 rfl (lv_room (Nat.le_of_ble_eq_true rfl)) dX0_are_70 ⟨Nat.le_of_ble_eq_true rfl, Nat.le_of_ble_eq_true rfl⟩) (fun r70 e70 => ?_)
          obtain rfl : r70 = (nI (rg (mm j (uI (nI i2) % 2 ^ 31 % 2 ^ pp j)))) := e70
          rw [hui]
          refine lv_aload_n hx hb dX0_are_73 rfl (lv_at hl 3 rfl) ?_
          refine va_get (D := D) (ci := 0) (v := .ref (ad 2)) (C := RX0) (T := TX0) (N := 3) hx hb hts in_X0 hown hK.1 hP 0 (rfl) rfl 2 (by decide) (hts _ q127) (fun _ h9 => h9) rfl dX0_are_74 ?_
          refine lv_iload_n hx hb dX0_are_77 rfl (lv_at hl 2 rfl) ?_
          refine xr_aald hx hb hK.1 hP 2 4 rfl (rfl) rfl (hj3) (by omega) (v := (ad (3 + j))) (ref3_m hj3) dX0_are_78 ?_
          refine lv_iload_n hx hb dX0_are_79 rfl (lv_at hl 1 rfl) ?_
          refine xr_lald hx hb hK.1 hP (3 + j) 1 ((WW_m hj3)) rfl (hilt) (by omega) (v := (lN (mm j i2))) (rfl) dX0_are_80 ?_
          refine vp_callSi (W.runS (As := [.long (lN (mm j i2))]) (rest := [.int (nI (rg (mm j i2)))]) ⟨hx, hb, hml, hown, hts⟩ (met_reg l (mm j i2) ((hm j i2).1) ((hm j i2).2)) (va_cwS 1 hts (lw_S q169 q170 q6 q171) rfl rfl rfl (by decide +kernel) ⟨Nat.le_of_ble_eq_true rfl, Nat.le_of_ble_eq_true rfl⟩) (preS_p) rfl rfl hl.1 rfl (lv_room (Nat.le_of_ble_eq_true rfl)) dX0_are_81 ⟨Nat.le_of_ble_eq_true rfl, Nat.le_of_ble_eq_true rfl⟩) (fun r81 e81 => ?_)
          obtain rfl : r81 = (nI (rg (mm j i2))) := e81
          refine lv_icmp_eq (tgt := 89) hx hb dX0_are_84 (by decide) (fun c84 => ?_) (fun c84 => absurd (rfl) c84)
          refine lv_iinc (v := (nI (i2 + 1))) (lv' := [(3, .int (nI (i2 + 1))), (2, .int (nI 1)), (1, .int (nI j)), (0, .ref (ad 0))]) hx hb dX0_are_89 hl (k := 1) rfl (nI_1 i2) (by decide) rfl (fun ls hl => ?_)
          refine lv_goto (tgt := 30) hx hb dX0_are_92 (by decide) ?_
          exact ih2 (i2 + 1, 1) _ _ ls (by show 2 ^ pp j - (i2 + 1) < 2 ^ pp j - i2; omega) ⟨⟨hilt, hev2⟩, rfl, rfl⟩ (lv_sub hl [0, 1, 2, 3] rfl)
end
section
/-! calls that are given a part of the world; the law's world with new rows, read by the old names -/
set_option maxRecDepth 100000
section R5
variable {p : Program} {l : Launch} {e : Env} {R : Room} {s : State} {m : MethodId} {args : Array Value} {below : List Frame} {meth : Method} {c : Code} {H : Heap} {locs : List Loc} {cells slots : Nat} {Q : State → Prop}
variable {pc : Nat} {ls : Array Slot} {rest st0 : List Value} {D : va_G} {A : Nat → Prop} {ws : va_W} {H0 : Heap}
theorem cj_v {S : Type} {post : S → Prop} {Wd : S → va_W} {wc wr : va_W} {av : Array Value} {mc ms : Nat} (hr : va_Run p l e R s m args below meth c H locs cells slots mc ms (F0 m pc ls st0) rest (Qv D wc H.size post Wd av) (va_A wc H.size)) (hP : va_P D vwCl ws H) (hD : va_D A ws) (hS : va_S A H0 H locs) (hA : ∀ q, H0.size ≤ q → A q) (isC isR : List Nat) (hC : isC.map (fun i => ws[i]?) = wc.map some) (hR : isR.map (fun i => ws[i]?) = wr.map some) (hn : va_nd isR = true) (hdis : ∀ i ∈ isR, i ∉ isC)
    (kk : ∀ (u : S) (H1 : Heap) (locs1 : List Loc), post u → va_P D vwCl (wr ++ Wd u) H1 → va_D A (wr ++ Wd u) → va_S A H0 H1 locs1 → W p l e R s m args below meth c H1 locs1 (cells + mc) (slots + ms) Q (F0 m (pc + 3) ls rest)) : W p l e R s m args below meth c H locs cells slots Q (F0 m pc ls st0) := by
  have hF := va_free (wc := wc) hD hS hA isC hC
  refine va_callv hr hS (fun q _ h => hF q h) hF (fun u t H1 locs1 ht hvm hp hB hz hk hS1 => ?_)
  obtain ⟨hP1, hD1⟩ := hB
  rw [ht] at hP1
  obtain ⟨hP2, hD2⟩ := va_join hP hD isC isR hC hR hn hdis hk hF hP1 hD1
  exact kk u H1 locs1 hp hP2 hD2 hS1
theorem cj_i {S : Type} {post : Int32 → S → Prop} {Wd : S → va_W} {wc wr : va_W} {av : Array Value} {mc ms : Nat} (hr : va_Run p l e R s m args below meth c H locs cells slots mc ms (F0 m pc ls st0) rest (Qi D wc H.size post Wd av) (va_A wc H.size)) (hP : va_P D vwCl ws H) (hD : va_D A ws) (hS : va_S A H0 H locs) (hA : ∀ q, H0.size ≤ q → A q) (isC isR : List Nat) (hC : isC.map (fun i => ws[i]?) = wc.map some) (hR : isR.map (fun i => ws[i]?) = wr.map some) (hn : va_nd isR = true) (hdis : ∀ i ∈ isR, i ∉ isC)
    (kk : ∀ (r : Int32) (u : S) (H1 : Heap) (locs1 : List Loc), post r u → va_P D vwCl (wr ++ Wd u) H1 → va_D A (wr ++ Wd u) → va_S A H0 H1 locs1 → W p l e R s m args below meth c H1 locs1 (cells + mc) (slots + ms) Q (F0 m (pc + 3) ls (.int r :: rest))) : W p l e R s m args below meth c H locs cells slots Q (F0 m pc ls st0) := by
  have hF := va_free (wc := wc) hD hS hA isC hC
  refine va_calli hr hS (fun q _ h => hF q h) hF (fun r u t H1 locs1 ht hvm hp hB hz hk hS1 => ?_)
  obtain ⟨hP1, hD1⟩ := hB
  rw [ht] at hP1
  obtain ⟨hP2, hD2⟩ := va_join hP hD isC isR hC hR hn hdis hk hF hP1 hD1
  exact kk r u H1 locs1 hp hP2 hD2 hS1
end R5
section WRs
variable {t : Nat → ClassId} {ad : Nat → Nat} {pA pL : Nat → Nat} {mL : Nat → Nat → Nat} {pD : Nat → Nat} {mD : Nat → Nat → Nat} {j z s : Nat}
theorem adR_lo {k : Nat} (h : k < 8) : adR ad j z s k = ad k := by
  unfold adR
  rw [if_neg (by omega), if_neg (by omega)]
theorem adM_lo {k : Nat} (h : k < 3) : adM ad j z k = ad k := by
  unfold adM
  rw [if_neg (by omega)]
theorem WR_0 : (WW t (adR ad j z s) pA pL mL pD mD)[0]? = some (ad 0, .inr (0, [.ref (ad 6), .ref (ad 1), .ref (ad 2)])) := by
  show some (adR ad j z s 0, (Sum.inr (0, [Value.ref (adR ad j z s 6), Value.ref (adR ad j z s 1), Value.ref (adR ad j z s 2)]) : va_E)) = _
  rw [adR_lo (by decide), adR_lo (by decide), adR_lo (by decide), adR_lo (by decide)]
theorem WR_1 : (WW t (adR ad j z s) pA pL mL pD mD)[1]? = some (ad 1, .inl (t 0, 3, .inl (fun j => nI (pA j)))) := by
  show some (adR ad j z s 1, (_ : va_E)) = _
  rw [adR_lo (by decide)]
theorem WR_2 : (WW t (adR ad j z s) pA pL mL pD mD)[2]? = some (ad 2, cR (t 4) (ref3 (adR ad j z s 3) (adR ad j z s 4) (adR ad j z s 5))) := by
  show some (adR ad j z s 2, (_ : va_E)) = _
  rw [adR_lo (by decide)]
theorem app_len {x : Nat × va_E} : (WW t ad pA pL mL pD mD ++ [x])[14]? = some x := rfl
end WRs
end
section
set_option maxRecDepth 100000
set_option maxHeartbeats 4000000 in
set_option maxRecDepth 100000 in
/-- UltraSketchDesk() -/
theorem met_dinit (l : Launch) (D : va_G) (t : Nat → ClassId) (ws : va_W) (sz : Nat) (a h0 : Nat) (ha : ws[a]? = some (h0, .inr (1, [.null]))) : Met l yX1_init (ws_ yX1_init cX1_init 1 none) ({ frames := 3, cells := 7, slots := 198, locals := 53 } : Room) (Pw [.ref h0] D t sz ws) (Qv D ws sz (fun _ : Nat → Nat => True) (fun u => ws.set a (h0, .inr (1, [.ref (u 0)])) ++ [((u 0), cR (t 3) (ref3 (u 1) (u 3) (u 5))), ((u 1), .inr (2, [.ref (u 2)])), ((u 2), cB t 5 (fun _ => 0)), ((u 3), .inr (2, [.ref (u 4)])), ((u 4), cB t 5 (fun _ => 0)), ((u 5), .inr (2, [.ref (u 6)])), ((u 6), cB t 5 (fun _ => 0))])) 7 198 (va_A ws sz) := by
  refine Met.ofW (cc := cX1_init) (maxL := 1) (ret := none) (by decide) rfl ?_
  intro p e s m args below meth c s₁ B hml hv
  obtain ⟨rfl, hK, hsz, hP, hD0⟩ := hv
  subst hsz
  have hD := hD0.self (sz := s.heap.size)
  have hA : ∀ q : Nat, s.heap.size ≤ q → va_A ws s.heap.size q := fun q h => Or.inr h
  have hS : va_S (va_A ws s.heap.size) s.heap s.heap [] := va_S.rf
  have hx := B.exec
  have hb := B.bytes
  have hr := B.returns
  have hts := atoms_spec (ws := ws_ yX1_init cX1_init 1 none) B.pre
  have hts : ∀ w ∈ lw_all, w.before _ s = true := fun w h => hts w (List.mem_cons_of_mem _ h)
  have hown : s.vm.findClass RX1 = some m.cls := findClass_of_methodNamed B.named
  have hlocks := B.notSynchronized
  have hin : meth.name = "<init>" := (name_of_methodNamed B.named B.method).1
  refine w_entry [.ref h0] (Nat.le_of_ble_eq_true rfl) (fun ls hl => ?_)
  have hl : lv_has ls 1 [(0, .ref h0)] := hl
  refine lv_aload_n hx hb dX1_init_0 rfl (lv_at hl 0 rfl) ?_
  refine W.objInit hx hb hown (hts _ q34) (hts _ q27) (hts _ q28) rfl (by rw [hml]; exact hl.1) rfl dX1_init_1 (Nat.le_of_ble_eq_true rfl) (Nat.le_of_ble_eq_true rfl) ?_
  refine W.eq (g2 := F0 m 4 ls []) rfl ?_
  refine lv_aload_n hx hb dX1_init_4 rfl (lv_at hl 0 rfl) ?_
  refine lv_iconst (v := (nI 3)) hx hb dX1_init_5 (by decide) ?_
  refine xr_newq hx hb hown (hts _ q35) hK.2.1 hK.1 hP hD hS hA 3 rfl (N' := 3) (nI_pos (by decide)) (nI_clamp (by decide)) (by decide) (Nat.le_of_ble_eq_true rfl) (Nat.le_of_ble_eq_true rfl) dX1_init_6 (fun z6 H hP hD hS => ?_)
  refine W.widen (k := 1) (n := 3) (by omega) (by omega) ?_
  have hP : va_P D vwCl (ws ++ [(z6, cR (t 3) (fun _ => none))]) H := hP
  have hD : va_D (va_A ws s.heap.size) (ws ++ [(z6, cR (t 3) (fun _ => none))]) := hD
  refine lv_dup hx hb dX1_init_9 rfl ?_
  refine lv_iconst (v := (nI 0)) hx hb dX1_init_10 (by decide) ?_
  refine lv_iconst (v := (nI 5)) hx hb dX1_init_11 (by decide) ?_
  refine cw_r (va_runS (As := [.int (nI 5)]) (rest := [.int (nI 0), .ref z6, .ref z6, .ref h0]) ⟨hx, hb, hml, hown, hts⟩ (met_create l D t (ws ++ [(z6, cR (t 3) (fun _ => none))]) H.size 5 (by decide) (by decide)) (va_cwS 1 hts (lw_S q37 q38 q8 q39) rfl rfl rfl (by decide +kernel) ⟨Nat.le_of_ble_eq_true rfl, Nat.le_of_ble_eq_true rfl⟩) (preS_w hK hP hD) rfl rfl hl.1 rfl (lv_room (Nat.le_of_ble_eq_true rfl)) dX1_init_12 ⟨Nat.le_of_ble_eq_true rfl, Nat.le_of_ble_eq_true rfl⟩) hD hS hA (fun u12 z12 H locs hp12 hP hD hS => ?_)
  refine W.widen (k := 3) (n := 68) (by omega) (by omega) ?_
  have hP : va_P D vwCl (ws ++ [(z6, cR (t 3) (fun _ => none)), (z12, .inr (2, [.ref u12])), (u12, cB t 5 (fun _ => 0))]) H := by rw [List.append_assoc] at hP; exact hP
  have hD : va_D (va_A ws s.heap.size) (ws ++ [(z6, cR (t 3) (fun _ => none)), (z12, .inr (2, [.ref u12])), (u12, cB t 5 (fun _ => 0))]) := by rw [List.append_assoc] at hD; exact hD
  refine xr_aast hx hb hK.1 hP hD hS (ws.length + 0) 3 ((ws.length + 1)) 2 ((fun i => if i = 0 then some z12 else (fun _ => none) i)) ((ws_new (ws := ws) 0 rfl)) rfl ((ws_new (ws := ws) 1 rfl)) rfl (by decide) (by decide) (fun i _ => rfl) dX1_init_15 (fun H locs hP hD hS => ?_)
  have hP : va_P D vwCl (ws ++ [(z6, cR (t 3) (fun i => if i = 0 then some z12 else (fun _ => none) i)), (z12, .inr (2, [.ref u12])), (u12, cB t 5 (fun _ => 0))]) H := by rw [ws_setn (ws := ws) 0] at hP; exact hP
  have hD : va_D (va_A ws s.heap.size) (ws ++ [(z6, cR (t 3) (fun i => if i = 0 then some z12 else (fun _ => none) i)), (z12, .inr (2, [.ref u12])), (u12, cB t 5 (fun _ => 0))]) := by rw [ws_setn (ws := ws) 0] at hD; exact hD
  refine lv_dup hx hb dX1_init_16 rfl ?_
  refine lv_iconst (v := (nI 1)) hx hb dX1_init_17 (by decide) ?_
  refine lv_iconst (v := (nI 5)) hx hb dX1_init_18 (by decide) ?_
  refine cw_r (va_runS (As := [.int (nI 5)]) (rest := [.int (nI 1), .ref z6, .ref z6, .ref h0]) ⟨hx, hb, hml, hown, hts⟩ (met_create l D t (ws ++ [(z6, cR (t 3) (fun i => if i = 0 then some z12 else (fun _ => none) i)), (z12, .inr (2, [.ref u12])), (u12, cB t 5 (fun _ => 0))]) H.size 5 (by decide) (by decide)) (va_cwS 1 hts (lw_S q37 q38 q8 q39) rfl rfl rfl (by decide +kernel) ⟨Nat.le_of_ble_eq_true rfl, Nat.le_of_ble_eq_true rfl⟩) (preS_w hK hP hD) rfl rfl hl.1 rfl (lv_room (Nat.le_of_ble_eq_true rfl)) dX1_init_19 ⟨Nat.le_of_ble_eq_true rfl, Nat.le_of_ble_eq_true rfl⟩) hD hS hA (fun u19 z19 H locs hp19 hP hD hS => ?_)
  refine W.widen (k := 5) (n := 133) (by omega) (by omega) ?_
  have hP : va_P D vwCl (ws ++ [(z6, cR (t 3) (fun i => if i = 0 then some z12 else (fun _ => none) i)), (z12, .inr (2, [.ref u12])), (u12, cB t 5 (fun _ => 0)), (z19, .inr (2, [.ref u19])), (u19, cB t 5 (fun _ => 0))]) H := by rw [List.append_assoc] at hP; exact hP
  have hD : va_D (va_A ws s.heap.size) (ws ++ [(z6, cR (t 3) (fun i => if i = 0 then some z12 else (fun _ => none) i)), (z12, .inr (2, [.ref u12])), (u12, cB t 5 (fun _ => 0)), (z19, .inr (2, [.ref u19])), (u19, cB t 5 (fun _ => 0))]) := by rw [List.append_assoc] at hD; exact hD
  refine xr_aast hx hb hK.1 hP hD hS (ws.length + 0) 3 ((ws.length + 3)) 2 ((fun i => if i = 1 then some z19 else (fun i => if i = 0 then some z12 else (fun _ => none) i) i)) ((ws_new (ws := ws) 0 rfl)) rfl ((ws_new (ws := ws) 3 rfl)) rfl (by decide) (by decide) (fun i _ => rfl) dX1_init_22 (fun H locs hP hD hS => ?_)
  have hP : va_P D vwCl (ws ++ [(z6, cR (t 3) (fun i => if i = 1 then some z19 else (fun i => if i = 0 then some z12 else (fun _ => none) i) i)), (z12, .inr (2, [.ref u12])), (u12, cB t 5 (fun _ => 0)), (z19, .inr (2, [.ref u19])), (u19, cB t 5 (fun _ => 0))]) H := by rw [ws_setn (ws := ws) 0] at hP; exact hP
  have hD : va_D (va_A ws s.heap.size) (ws ++ [(z6, cR (t 3) (fun i => if i = 1 then some z19 else (fun i => if i = 0 then some z12 else (fun _ => none) i) i)), (z12, .inr (2, [.ref u12])), (u12, cB t 5 (fun _ => 0)), (z19, .inr (2, [.ref u19])), (u19, cB t 5 (fun _ => 0))]) := by rw [ws_setn (ws := ws) 0] at hD; exact hD
  refine lv_dup hx hb dX1_init_23 rfl ?_
  refine lv_iconst (v := (nI 2)) hx hb dX1_init_24 (by decide) ?_
  refine lv_iconst (v := (nI 5)) hx hb dX1_init_25 (by decide) ?_
  refine cw_r (va_runS (As := [.int (nI 5)]) (rest := [.int (nI 2), .ref z6, .ref z6, .ref h0]) ⟨hx, hb, hml, hown, hts⟩ (met_create l D t (ws ++ [(z6, cR (t 3) (fun i => if i = 1 then some z19 else (fun i => if i = 0 then some z12 else (fun _ => none) i) i)), (z12, .inr (2, [.ref u12])), (u12, cB t 5 (fun _ => 0)), (z19, .inr (2, [.ref u19])), (u19, cB t 5 (fun _ => 0))]) H.size 5 (by decide) (by decide)) (va_cwS 1 hts (lw_S q37 q38 q8 q39) rfl rfl rfl (by decide +kernel) ⟨Nat.le_of_ble_eq_true rfl, Nat.le_of_ble_eq_true rfl⟩) (preS_w hK hP hD) rfl rfl hl.1 rfl (lv_room (Nat.le_of_ble_eq_true rfl)) dX1_init_26 ⟨Nat.le_of_ble_eq_true rfl, Nat.le_of_ble_eq_true rfl⟩) hD hS hA (fun u26 z26 H locs hp26 hP hD hS => ?_)
  refine W.widen (k := 7) (n := 198) (by omega) (by omega) ?_
  have hP : va_P D vwCl (ws ++ [(z6, cR (t 3) (fun i => if i = 1 then some z19 else (fun i => if i = 0 then some z12 else (fun _ => none) i) i)), (z12, .inr (2, [.ref u12])), (u12, cB t 5 (fun _ => 0)), (z19, .inr (2, [.ref u19])), (u19, cB t 5 (fun _ => 0)), (z26, .inr (2, [.ref u26])), (u26, cB t 5 (fun _ => 0))]) H := by rw [List.append_assoc] at hP; exact hP
  have hD : va_D (va_A ws s.heap.size) (ws ++ [(z6, cR (t 3) (fun i => if i = 1 then some z19 else (fun i => if i = 0 then some z12 else (fun _ => none) i) i)), (z12, .inr (2, [.ref u12])), (u12, cB t 5 (fun _ => 0)), (z19, .inr (2, [.ref u19])), (u19, cB t 5 (fun _ => 0)), (z26, .inr (2, [.ref u26])), (u26, cB t 5 (fun _ => 0))]) := by rw [List.append_assoc] at hD; exact hD
  refine xr_aast hx hb hK.1 hP hD hS (ws.length + 0) 3 ((ws.length + 5)) 2 ((ref3 z12 z19 z26)) ((ws_new (ws := ws) 0 rfl)) rfl ((ws_new (ws := ws) 5 rfl)) rfl (by decide) (by decide) (fun i hi => by rcases j3 hi with rfl | rfl | rfl <;> rfl) dX1_init_29 (fun H locs hP hD hS => ?_)
  have hP : va_P D vwCl (ws ++ [(z6, cR (t 3) (ref3 z12 z19 z26)), (z12, .inr (2, [.ref u12])), (u12, cB t 5 (fun _ => 0)), (z19, .inr (2, [.ref u19])), (u19, cB t 5 (fun _ => 0)), (z26, .inr (2, [.ref u26])), (u26, cB t 5 (fun _ => 0))]) H := by rw [ws_setn (ws := ws) 0] at hP; exact hP
  have hD : va_D (va_A ws s.heap.size) (ws ++ [(z6, cR (t 3) (ref3 z12 z19 z26)), (z12, .inr (2, [.ref u12])), (u12, cB t 5 (fun _ => 0)), (z19, .inr (2, [.ref u19])), (u19, cB t 5 (fun _ => 0)), (z26, .inr (2, [.ref u26])), (u26, cB t 5 (fun _ => 0))]) := by rw [ws_setn (ws := ws) 0] at hD; exact hD
  refine va_putF (D := D) (ci := 1) (v := .ref z6) (ty := tyX1 0) (C := RX1) (T := TX1) (N := 1) hx hb hts in_X1 tyX1 tyX1_ok nmX1 hown hK.1 hP hD hS a (ws_app ha) rfl 0 (by decide) (hts _ q119) (fun _ h9 => h9) rfl hin rfl (by decide +kernel) rfl rfl (Nat.le_of_ble_eq_true rfl) dX1_init_30 (fun H locs hP hD hS => ?_)
  have hP : va_P D vwCl (ws.set a (h0, .inr (1, [.ref z6])) ++ [(z6, cR (t 3) (ref3 z12 z19 z26)), (z12, .inr (2, [.ref u12])), (u12, cB t 5 (fun _ => 0)), (z19, .inr (2, [.ref u19])), (u19, cB t 5 (fun _ => 0)), (z26, .inr (2, [.ref u26])), (u26, cB t 5 (fun _ => 0))]) H := by rw [ws_seta ha] at hP; exact hP
  have hD : va_D (va_A ws s.heap.size) (ws.set a (h0, .inr (1, [.ref z6])) ++ [(z6, cR (t 3) (ref3 z12 z19 z26)), (z12, .inr (2, [.ref u12])), (u12, cB t 5 (fun _ => 0)), (z19, .inr (2, [.ref u19])), (u19, cB t 5 (fun _ => 0)), (z26, .inr (2, [.ref u26])), (u26, cB t 5 (fun _ => 0))]) := by rw [ws_seta ha] at hD; exact hD
  exact W.vret hx hb hr (fun t ht hW => ⟨⟨(fun k => [z6, z12, u12, z19, u19, z26, u26].getD k 0), rfl, trivial, by rw [ht]; exact hP, hD⟩, hS.F ht⟩) hS.2.2 dX1_init_33

set_option maxHeartbeats 4000000 in
set_option maxRecDepth 100000 in
/-- UltraSketchDeskLaw() -/
theorem met_linit (l : Launch) (D : va_G) (t : Nat → ClassId) (sz : Nat) (h0 : Nat) : Met l yX0_init (ws_ yX0_init cX0_init 1 none) ({ frames := 4, cells := 13, slots := 301, locals := 73 } : Room) (Pw [.ref h0] D t sz [(h0, .inr (0, [.null, .null, .null]))]) (Qv D [(h0, .inr (0, [.null, .null, .null]))] sz (fun ad : Nat → Nat => ad 0 = h0) (fun ad => (WW t ad (fun _ => 5) (fun _ => 5) (fun _ _ => 0) (fun _ => 5) (fun _ _ => 0)))) 13 301 (va_A [(h0, .inr (0, [.null, .null, .null]))] sz) := by
  refine Met.ofW (cc := cX0_init) (maxL := 1) (ret := none) (by decide) rfl ?_
  intro p e s m args below meth c s₁ B hml hv
  obtain ⟨rfl, hK, hsz, hP, hD0⟩ := hv
  subst hsz
  have hD := hD0.self (sz := s.heap.size)
  have hA : ∀ q : Nat, s.heap.size ≤ q → va_A ([(h0, .inr (0, [.null, .null, .null]))]) s.heap.size q := fun q h => Or.inr h
  have hS : va_S (va_A ([(h0, .inr (0, [.null, .null, .null]))]) s.heap.size) s.heap s.heap [] := va_S.rf
  have hx := B.exec
  have hb := B.bytes
  have hr := B.returns
  have hts := atoms_spec (ws := ws_ yX0_init cX0_init 1 none) B.pre
  have hts : ∀ w ∈ lw_all, w.before _ s = true := fun w h => hts w (List.mem_cons_of_mem _ h)
  have hown : s.vm.findClass RX0 = some m.cls := findClass_of_methodNamed B.named
  have hlocks := B.notSynchronized
  have hin : meth.name = "<init>" := (name_of_methodNamed B.named B.method).1
  refine w_entry [.ref h0] (Nat.le_of_ble_eq_true rfl) (fun ls hl => ?_)
  have hl : lv_has ls 1 [(0, .ref h0)] := hl
  refine lv_aload_n hx hb dX0_init_0 rfl (lv_at hl 0 rfl) ?_
  refine W.objInit hx hb hown (hts _ q26) (hts _ q27) (hts _ q28) rfl (by rw [hml]; exact hl.1) rfl dX0_init_1 (Nat.le_of_ble_eq_true rfl) (Nat.le_of_ble_eq_true rfl) ?_
  refine W.eq (g2 := F0 m 4 ls []) rfl ?_
  refine lv_aload_n hx hb dX0_init_4 rfl (lv_at hl 0 rfl) ?_
  refine va_new (ci := 1) (fs := [.null]) (C := RX1) (T := TX1) (N := 1) hx hb hts in_X1 tyX1 tyX1_ok hown (hts _ q29) (hts _ q30) (hts _ q7) hK.1 hP hD hS hA rfl (fun j hj => by rcases (show j = 0 by omega) with rfl <;> rfl) (Nat.le_of_ble_eq_true rfl) (Nat.le_of_ble_eq_true rfl) dX0_init_5 (fun z5 H hP hD hS => ?_)
  refine W.widen (k := 1) (n := 1) (by omega) (by omega) ?_
  have hP : va_P D vwCl ([(h0, .inr (0, [.null, .null, .null])), (z5, .inr (1, [.null]))]) H := hP
  have hD : va_D (va_A ([(h0, .inr (0, [.null, .null, .null]))]) s.heap.size) ([(h0, .inr (0, [.null, .null, .null])), (z5, .inr (1, [.null]))]) := hD
  refine lv_dup hx hb dX0_init_8 rfl ?_
  refine cw_v (va_runI (As := []) (rest := [.ref z5, .ref h0]) ⟨hx, hb, hml, hown, hts⟩ (met_dinit l D t ([(h0, .inr (0, [.null, .null, .null])), (z5, .inr (1, [.null]))]) H.size 1 z5 rfl) (cwI 0 hts (lw_meth q33) rfl rfl rfl (hts _ q7) (hts _ q31) (hts _ q32) rfl (by decide +kernel) ⟨Nat.le_of_ble_eq_true rfl, Nat.le_of_ble_eq_true rfl⟩) (preS_w hK hP hD) rfl rfl hl.1 rfl (lv_room (Nat.le_of_ble_eq_true rfl)) dX0_init_9 ⟨Nat.le_of_ble_eq_true rfl, Nat.le_of_ble_eq_true rfl⟩) hD hS hA (fun u9 H locs hp9 hP hD hS => ?_)
  refine W.widen (k := 8) (n := 199) (by omega) (by omega) ?_
  have hP : va_P D vwCl ([(h0, .inr (0, [.null, .null, .null])), (z5, .inr (1, [.ref (u9 0)])), (u9 0, cR (t 3) (ref3 (u9 1) (u9 3) (u9 5))), (u9 1, .inr (2, [.ref (u9 2)])), (u9 2, cB t 5 (fun _ => 0)), (u9 3, .inr (2, [.ref (u9 4)])), (u9 4, cB t 5 (fun _ => 0)), (u9 5, .inr (2, [.ref (u9 6)])), (u9 6, cB t 5 (fun _ => 0))]) H := hP
  have hD : va_D (va_A ([(h0, .inr (0, [.null, .null, .null]))]) s.heap.size) ([(h0, .inr (0, [.null, .null, .null])), (z5, .inr (1, [.ref (u9 0)])), (u9 0, cR (t 3) (ref3 (u9 1) (u9 3) (u9 5))), (u9 1, .inr (2, [.ref (u9 2)])), (u9 2, cB t 5 (fun _ => 0)), (u9 3, .inr (2, [.ref (u9 4)])), (u9 4, cB t 5 (fun _ => 0)), (u9 5, .inr (2, [.ref (u9 6)])), (u9 6, cB t 5 (fun _ => 0))]) := hD
  refine va_putF (D := D) (ci := 0) (v := .ref z5) (ty := tyX0 0) (C := RX0) (T := TX0) (N := 3) hx hb hts in_X0 tyX0 tyX0_ok nmX0 hown hK.1 hP hD hS 0 (rfl) rfl 0 (by decide) (hts _ q125) (fun _ h9 => h9) rfl hin rfl (by decide +kernel) rfl rfl (Nat.le_of_ble_eq_true rfl) dX0_init_12 (fun H locs hP hD hS => ?_)
  have hP : va_P D vwCl ([(h0, .inr (0, [.ref z5, .null, .null])), (z5, .inr (1, [.ref (u9 0)])), (u9 0, cR (t 3) (ref3 (u9 1) (u9 3) (u9 5))), (u9 1, .inr (2, [.ref (u9 2)])), (u9 2, cB t 5 (fun _ => 0)), (u9 3, .inr (2, [.ref (u9 4)])), (u9 4, cB t 5 (fun _ => 0)), (u9 5, .inr (2, [.ref (u9 6)])), (u9 6, cB t 5 (fun _ => 0))]) H := hP
  have hD : va_D (va_A ([(h0, .inr (0, [.null, .null, .null]))]) s.heap.size) ([(h0, .inr (0, [.ref z5, .null, .null])), (z5, .inr (1, [.ref (u9 0)])), (u9 0, cR (t 3) (ref3 (u9 1) (u9 3) (u9 5))), (u9 1, .inr (2, [.ref (u9 2)])), (u9 2, cB t 5 (fun _ => 0)), (u9 3, .inr (2, [.ref (u9 4)])), (u9 4, cB t 5 (fun _ => 0)), (u9 5, .inr (2, [.ref (u9 6)])), (u9 6, cB t 5 (fun _ => 0))]) := hD
  refine lv_aload_n hx hb dX0_init_15 rfl (lv_at hl 0 rfl) ?_
  refine lv_iconst (v := (nI 3)) hx hb dX0_init_16 (by decide) ?_
  refine xr_newa (atype := .int) hx hb (hts _ q135) (ty := .int) rfl hK.1 hP hD hS hA 0 rfl (N' := 3) (a0 := (3, .inl (fun _ => 0))) ((fun cA => rfl)) (nI_pos (by decide)) (nI_clamp (by decide)) (by decide) (Nat.le_of_ble_eq_true rfl) (Nat.le_of_ble_eq_true rfl) dX0_init_17 (fun z17 H hP hD hS => ?_)
  refine W.widen (k := 9) (n := 202) (by omega) (by omega) ?_
  have hP : va_P D vwCl ([(h0, .inr (0, [.ref z5, .null, .null])), (z5, .inr (1, [.ref (u9 0)])), (u9 0, cR (t 3) (ref3 (u9 1) (u9 3) (u9 5))), (u9 1, .inr (2, [.ref (u9 2)])), (u9 2, cB t 5 (fun _ => 0)), (u9 3, .inr (2, [.ref (u9 4)])), (u9 4, cB t 5 (fun _ => 0)), (u9 5, .inr (2, [.ref (u9 6)])), (u9 6, cB t 5 (fun _ => 0)), (z17, .inl (t 0, 3, .inl (fun _ => 0)))]) H := hP
  have hD : va_D (va_A ([(h0, .inr (0, [.null, .null, .null]))]) s.heap.size) ([(h0, .inr (0, [.ref z5, .null, .null])), (z5, .inr (1, [.ref (u9 0)])), (u9 0, cR (t 3) (ref3 (u9 1) (u9 3) (u9 5))), (u9 1, .inr (2, [.ref (u9 2)])), (u9 2, cB t 5 (fun _ => 0)), (u9 3, .inr (2, [.ref (u9 4)])), (u9 4, cB t 5 (fun _ => 0)), (u9 5, .inr (2, [.ref (u9 6)])), (u9 6, cB t 5 (fun _ => 0)), (z17, .inl (t 0, 3, .inl (fun _ => 0)))]) := hD
  refine lv_dup hx hb dX0_init_19 rfl ?_
  refine lv_iconst (v := (nI 0)) hx hb dX0_init_20 (by decide) ?_
  refine lv_iconst (v := (nI 5)) hx hb dX0_init_21 (by decide) ?_
  refine xr_iast hx hb hK.1 hP hD hS 9 0 ((fun i => if i = 0 then nI 5 else (fun _ => 0) i)) (rfl) rfl (by decide) (by decide) (fun i _ => rfl) dX0_init_22 (fun H locs hP hD hS => ?_)
  have hP : va_P D vwCl ([(h0, .inr (0, [.ref z5, .null, .null])), (z5, .inr (1, [.ref (u9 0)])), (u9 0, cR (t 3) (ref3 (u9 1) (u9 3) (u9 5))), (u9 1, .inr (2, [.ref (u9 2)])), (u9 2, cB t 5 (fun _ => 0)), (u9 3, .inr (2, [.ref (u9 4)])), (u9 4, cB t 5 (fun _ => 0)), (u9 5, .inr (2, [.ref (u9 6)])), (u9 6, cB t 5 (fun _ => 0)), (z17, .inl (t 0, 3, .inl (fun i => if i = 0 then nI 5 else (fun _ => 0) i)))]) H := hP
  have hD : va_D (va_A ([(h0, .inr (0, [.null, .null, .null]))]) s.heap.size) ([(h0, .inr (0, [.ref z5, .null, .null])), (z5, .inr (1, [.ref (u9 0)])), (u9 0, cR (t 3) (ref3 (u9 1) (u9 3) (u9 5))), (u9 1, .inr (2, [.ref (u9 2)])), (u9 2, cB t 5 (fun _ => 0)), (u9 3, .inr (2, [.ref (u9 4)])), (u9 4, cB t 5 (fun _ => 0)), (u9 5, .inr (2, [.ref (u9 6)])), (u9 6, cB t 5 (fun _ => 0)), (z17, .inl (t 0, 3, .inl (fun i => if i = 0 then nI 5 else (fun _ => 0) i)))]) := hD
  refine lv_dup hx hb dX0_init_23 rfl ?_
  refine lv_iconst (v := (nI 1)) hx hb dX0_init_24 (by decide) ?_
  refine lv_iconst (v := (nI 5)) hx hb dX0_init_25 (by decide) ?_
  refine xr_iast hx hb hK.1 hP hD hS 9 0 ((fun i => if i = 1 then nI 5 else (fun i => if i = 0 then nI 5 else (fun _ => 0) i) i)) (rfl) rfl (by decide) (by decide) (fun i _ => rfl) dX0_init_26 (fun H locs hP hD hS => ?_)
  have hP : va_P D vwCl ([(h0, .inr (0, [.ref z5, .null, .null])), (z5, .inr (1, [.ref (u9 0)])), (u9 0, cR (t 3) (ref3 (u9 1) (u9 3) (u9 5))), (u9 1, .inr (2, [.ref (u9 2)])), (u9 2, cB t 5 (fun _ => 0)), (u9 3, .inr (2, [.ref (u9 4)])), (u9 4, cB t 5 (fun _ => 0)), (u9 5, .inr (2, [.ref (u9 6)])), (u9 6, cB t 5 (fun _ => 0)), (z17, .inl (t 0, 3, .inl (fun i => if i = 1 then nI 5 else (fun i => if i = 0 then nI 5 else (fun _ => 0) i) i)))]) H := hP
  have hD : va_D (va_A ([(h0, .inr (0, [.null, .null, .null]))]) s.heap.size) ([(h0, .inr (0, [.ref z5, .null, .null])), (z5, .inr (1, [.ref (u9 0)])), (u9 0, cR (t 3) (ref3 (u9 1) (u9 3) (u9 5))), (u9 1, .inr (2, [.ref (u9 2)])), (u9 2, cB t 5 (fun _ => 0)), (u9 3, .inr (2, [.ref (u9 4)])), (u9 4, cB t 5 (fun _ => 0)), (u9 5, .inr (2, [.ref (u9 6)])), (u9 6, cB t 5 (fun _ => 0)), (z17, .inl (t 0, 3, .inl (fun i => if i = 1 then nI 5 else (fun i => if i = 0 then nI 5 else (fun _ => 0) i) i)))]) := hD
  refine lv_dup hx hb dX0_init_27 rfl ?_
  refine lv_iconst (v := (nI 2)) hx hb dX0_init_28 (by decide) ?_
  refine lv_iconst (v := (nI 5)) hx hb dX0_init_29 (by decide) ?_
  refine xr_iast hx hb hK.1 hP hD hS 9 0 ((fun j => nI ((fun _ => 5) j))) (rfl) rfl (by decide) (by decide) (fun i hi => by rcases j3 hi with rfl | rfl | rfl <;> rfl) dX0_init_30 (fun H locs hP hD hS => ?_)
  have hP : va_P D vwCl ([(h0, .inr (0, [.ref z5, .null, .null])), (z5, .inr (1, [.ref (u9 0)])), (u9 0, cR (t 3) (ref3 (u9 1) (u9 3) (u9 5))), (u9 1, .inr (2, [.ref (u9 2)])), (u9 2, cB t 5 (fun _ => 0)), (u9 3, .inr (2, [.ref (u9 4)])), (u9 4, cB t 5 (fun _ => 0)), (u9 5, .inr (2, [.ref (u9 6)])), (u9 6, cB t 5 (fun _ => 0)), (z17, .inl (t 0, 3, .inl (fun j => nI ((fun _ => 5) j))))]) H := hP
  have hD : va_D (va_A ([(h0, .inr (0, [.null, .null, .null]))]) s.heap.size) ([(h0, .inr (0, [.ref z5, .null, .null])), (z5, .inr (1, [.ref (u9 0)])), (u9 0, cR (t 3) (ref3 (u9 1) (u9 3) (u9 5))), (u9 1, .inr (2, [.ref (u9 2)])), (u9 2, cB t 5 (fun _ => 0)), (u9 3, .inr (2, [.ref (u9 4)])), (u9 4, cB t 5 (fun _ => 0)), (u9 5, .inr (2, [.ref (u9 6)])), (u9 6, cB t 5 (fun _ => 0)), (z17, .inl (t 0, 3, .inl (fun j => nI ((fun _ => 5) j))))]) := hD
  refine va_putF (D := D) (ci := 0) (v := .ref z17) (ty := tyX0 1) (C := RX0) (T := TX0) (N := 3) hx hb hts in_X0 tyX0 tyX0_ok nmX0 hown hK.1 hP hD hS 0 (rfl) rfl 1 (by decide) (hts _ q126) (fun _ h9 => h9) rfl hin rfl (by decide +kernel) rfl rfl (Nat.le_of_ble_eq_true rfl) dX0_init_31 (fun H locs hP hD hS => ?_)
  have hP : va_P D vwCl ([(h0, .inr (0, [.ref z5, .ref z17, .null])), (z5, .inr (1, [.ref (u9 0)])), (u9 0, cR (t 3) (ref3 (u9 1) (u9 3) (u9 5))), (u9 1, .inr (2, [.ref (u9 2)])), (u9 2, cB t 5 (fun _ => 0)), (u9 3, .inr (2, [.ref (u9 4)])), (u9 4, cB t 5 (fun _ => 0)), (u9 5, .inr (2, [.ref (u9 6)])), (u9 6, cB t 5 (fun _ => 0)), (z17, .inl (t 0, 3, .inl (fun j => nI ((fun _ => 5) j))))]) H := hP
  have hD : va_D (va_A ([(h0, .inr (0, [.null, .null, .null]))]) s.heap.size) ([(h0, .inr (0, [.ref z5, .ref z17, .null])), (z5, .inr (1, [.ref (u9 0)])), (u9 0, cR (t 3) (ref3 (u9 1) (u9 3) (u9 5))), (u9 1, .inr (2, [.ref (u9 2)])), (u9 2, cB t 5 (fun _ => 0)), (u9 3, .inr (2, [.ref (u9 4)])), (u9 4, cB t 5 (fun _ => 0)), (u9 5, .inr (2, [.ref (u9 6)])), (u9 6, cB t 5 (fun _ => 0)), (z17, .inl (t 0, 3, .inl (fun j => nI ((fun _ => 5) j))))]) := hD
  refine lv_aload_n hx hb dX0_init_34 rfl (lv_at hl 0 rfl) ?_
  refine lv_iconst (v := (nI 3)) hx hb dX0_init_35 (by decide) ?_
  refine xr_newqA hx hb hown (hts _ q123) hK.2.2.1 hK.1 hP hD hS hA 4 rfl (N' := 3) (nI_pos (by decide)) (nI_clamp (by decide)) (by decide) (Nat.le_of_ble_eq_true rfl) (Nat.le_of_ble_eq_true rfl) dX0_init_36 (fun z36 H hP hD hS => ?_)
  refine W.widen (k := 10) (n := 205) (by omega) (by omega) ?_
  have hP : va_P D vwCl ([(h0, .inr (0, [.ref z5, .ref z17, .null])), (z5, .inr (1, [.ref (u9 0)])), (u9 0, cR (t 3) (ref3 (u9 1) (u9 3) (u9 5))), (u9 1, .inr (2, [.ref (u9 2)])), (u9 2, cB t 5 (fun _ => 0)), (u9 3, .inr (2, [.ref (u9 4)])), (u9 4, cB t 5 (fun _ => 0)), (u9 5, .inr (2, [.ref (u9 6)])), (u9 6, cB t 5 (fun _ => 0)), (z17, .inl (t 0, 3, .inl (fun j => nI ((fun _ => 5) j)))), (z36, cR (t 4) (fun _ => none))]) H := hP
  have hD : va_D (va_A ([(h0, .inr (0, [.null, .null, .null]))]) s.heap.size) ([(h0, .inr (0, [.ref z5, .ref z17, .null])), (z5, .inr (1, [.ref (u9 0)])), (u9 0, cR (t 3) (ref3 (u9 1) (u9 3) (u9 5))), (u9 1, .inr (2, [.ref (u9 2)])), (u9 2, cB t 5 (fun _ => 0)), (u9 3, .inr (2, [.ref (u9 4)])), (u9 4, cB t 5 (fun _ => 0)), (u9 5, .inr (2, [.ref (u9 6)])), (u9 6, cB t 5 (fun _ => 0)), (z17, .inl (t 0, 3, .inl (fun j => nI ((fun _ => 5) j)))), (z36, cR (t 4) (fun _ => none))]) := hD
  refine lv_dup hx hb dX0_init_39 rfl ?_
  refine lv_iconst (v := (nI 0)) hx hb dX0_init_40 (by decide) ?_
  refine lv_bipush (v := (nI 32)) hx hb dX0_init_41 (by decide) ?_
  refine xr_newa (atype := .long) hx hb (hts _ q136) (ty := .long) rfl hK.1 hP hD hS hA 1 rfl (N' := 2 ^ 5) (a0 := (2 ^ 5, .inr (.inl (fun i => lN ((fun _ => 0) i))))) ((fun cA => rfl)) (nI_pos (by decide)) (nI_clamp (by decide)) (by decide) (Nat.le_of_ble_eq_true rfl) (Nat.le_of_ble_eq_true rfl) dX0_init_43 (fun z43 H hP hD hS => ?_)
  refine W.widen (k := 11) (n := 237) (by omega) (by omega) ?_
  have hP : va_P D vwCl ([(h0, .inr (0, [.ref z5, .ref z17, .null])), (z5, .inr (1, [.ref (u9 0)])), (u9 0, cR (t 3) (ref3 (u9 1) (u9 3) (u9 5))), (u9 1, .inr (2, [.ref (u9 2)])), (u9 2, cB t 5 (fun _ => 0)), (u9 3, .inr (2, [.ref (u9 4)])), (u9 4, cB t 5 (fun _ => 0)), (u9 5, .inr (2, [.ref (u9 6)])), (u9 6, cB t 5 (fun _ => 0)), (z17, .inl (t 0, 3, .inl (fun j => nI ((fun _ => 5) j)))), (z36, cR (t 4) (fun _ => none)), (z43, cL t 5 (fun _ => 0))]) H := hP
  have hD : va_D (va_A ([(h0, .inr (0, [.null, .null, .null]))]) s.heap.size) ([(h0, .inr (0, [.ref z5, .ref z17, .null])), (z5, .inr (1, [.ref (u9 0)])), (u9 0, cR (t 3) (ref3 (u9 1) (u9 3) (u9 5))), (u9 1, .inr (2, [.ref (u9 2)])), (u9 2, cB t 5 (fun _ => 0)), (u9 3, .inr (2, [.ref (u9 4)])), (u9 4, cB t 5 (fun _ => 0)), (u9 5, .inr (2, [.ref (u9 6)])), (u9 6, cB t 5 (fun _ => 0)), (z17, .inl (t 0, 3, .inl (fun j => nI ((fun _ => 5) j)))), (z36, cR (t 4) (fun _ => none)), (z43, cL t 5 (fun _ => 0))]) := hD
  refine xr_aastA hx hb hK.2.2.1 hK.1 hP hD hS 10 4 (11) 1 ((fun i => if i = 0 then some z43 else (fun _ => none) i)) (rfl) rfl (rfl) rfl (by decide) (by decide) (fun i _ => rfl) dX0_init_45 (fun H locs hP hD hS => ?_)
  have hP : va_P D vwCl ([(h0, .inr (0, [.ref z5, .ref z17, .null])), (z5, .inr (1, [.ref (u9 0)])), (u9 0, cR (t 3) (ref3 (u9 1) (u9 3) (u9 5))), (u9 1, .inr (2, [.ref (u9 2)])), (u9 2, cB t 5 (fun _ => 0)), (u9 3, .inr (2, [.ref (u9 4)])), (u9 4, cB t 5 (fun _ => 0)), (u9 5, .inr (2, [.ref (u9 6)])), (u9 6, cB t 5 (fun _ => 0)), (z17, .inl (t 0, 3, .inl (fun j => nI ((fun _ => 5) j)))), (z36, cR (t 4) (fun i => if i = 0 then some z43 else (fun _ => none) i)), (z43, cL t 5 (fun _ => 0))]) H := hP
  have hD : va_D (va_A ([(h0, .inr (0, [.null, .null, .null]))]) s.heap.size) ([(h0, .inr (0, [.ref z5, .ref z17, .null])), (z5, .inr (1, [.ref (u9 0)])), (u9 0, cR (t 3) (ref3 (u9 1) (u9 3) (u9 5))), (u9 1, .inr (2, [.ref (u9 2)])), (u9 2, cB t 5 (fun _ => 0)), (u9 3, .inr (2, [.ref (u9 4)])), (u9 4, cB t 5 (fun _ => 0)), (u9 5, .inr (2, [.ref (u9 6)])), (u9 6, cB t 5 (fun _ => 0)), (z17, .inl (t 0, 3, .inl (fun j => nI ((fun _ => 5) j)))), (z36, cR (t 4) (fun i => if i = 0 then some z43 else (fun _ => none) i)), (z43, cL t 5 (fun _ => 0))]) := hD
  refine lv_dup hx hb dX0_init_46 rfl ?_
  refine lv_iconst (v := (nI 1)) hx hb dX0_init_47 (by decide) ?_
  refine lv_bipush (v := (nI 32)) hx hb dX0_init_48 (by decide) ?_
  refine xr_newa (atype := .long) hx hb (hts _ q136) (ty := .long) rfl hK.1 hP hD hS hA 1 rfl (N' := 2 ^ 5) (a0 := (2 ^ 5, .inr (.inl (fun i => lN ((fun _ => 0) i))))) ((fun cA => rfl)) (nI_pos (by decide)) (nI_clamp (by decide)) (by decide) (Nat.le_of_ble_eq_true rfl) (Nat.le_of_ble_eq_true rfl) dX0_init_50 (fun z50 H hP hD hS => ?_)
  refine W.widen (k := 12) (n := 269) (by omega) (by omega) ?_
  have hP : va_P D vwCl ([(h0, .inr (0, [.ref z5, .ref z17, .null])), (z5, .inr (1, [.ref (u9 0)])), (u9 0, cR (t 3) (ref3 (u9 1) (u9 3) (u9 5))), (u9 1, .inr (2, [.ref (u9 2)])), (u9 2, cB t 5 (fun _ => 0)), (u9 3, .inr (2, [.ref (u9 4)])), (u9 4, cB t 5 (fun _ => 0)), (u9 5, .inr (2, [.ref (u9 6)])), (u9 6, cB t 5 (fun _ => 0)), (z17, .inl (t 0, 3, .inl (fun j => nI ((fun _ => 5) j)))), (z36, cR (t 4) (fun i => if i = 0 then some z43 else (fun _ => none) i)), (z43, cL t 5 (fun _ => 0)), (z50, cL t 5 (fun _ => 0))]) H := hP
  have hD : va_D (va_A ([(h0, .inr (0, [.null, .null, .null]))]) s.heap.size) ([(h0, .inr (0, [.ref z5, .ref z17, .null])), (z5, .inr (1, [.ref (u9 0)])), (u9 0, cR (t 3) (ref3 (u9 1) (u9 3) (u9 5))), (u9 1, .inr (2, [.ref (u9 2)])), (u9 2, cB t 5 (fun _ => 0)), (u9 3, .inr (2, [.ref (u9 4)])), (u9 4, cB t 5 (fun _ => 0)), (u9 5, .inr (2, [.ref (u9 6)])), (u9 6, cB t 5 (fun _ => 0)), (z17, .inl (t 0, 3, .inl (fun j => nI ((fun _ => 5) j)))), (z36, cR (t 4) (fun i => if i = 0 then some z43 else (fun _ => none) i)), (z43, cL t 5 (fun _ => 0)), (z50, cL t 5 (fun _ => 0))]) := hD
  refine xr_aastA hx hb hK.2.2.1 hK.1 hP hD hS 10 4 (12) 1 ((fun i => if i = 1 then some z50 else (fun i => if i = 0 then some z43 else (fun _ => none) i) i)) (rfl) rfl (rfl) rfl (by decide) (by decide) (fun i _ => rfl) dX0_init_52 (fun H locs hP hD hS => ?_)
  have hP : va_P D vwCl ([(h0, .inr (0, [.ref z5, .ref z17, .null])), (z5, .inr (1, [.ref (u9 0)])), (u9 0, cR (t 3) (ref3 (u9 1) (u9 3) (u9 5))), (u9 1, .inr (2, [.ref (u9 2)])), (u9 2, cB t 5 (fun _ => 0)), (u9 3, .inr (2, [.ref (u9 4)])), (u9 4, cB t 5 (fun _ => 0)), (u9 5, .inr (2, [.ref (u9 6)])), (u9 6, cB t 5 (fun _ => 0)), (z17, .inl (t 0, 3, .inl (fun j => nI ((fun _ => 5) j)))), (z36, cR (t 4) (fun i => if i = 1 then some z50 else (fun i => if i = 0 then some z43 else (fun _ => none) i) i)), (z43, cL t 5 (fun _ => 0)), (z50, cL t 5 (fun _ => 0))]) H := hP
  have hD : va_D (va_A ([(h0, .inr (0, [.null, .null, .null]))]) s.heap.size) ([(h0, .inr (0, [.ref z5, .ref z17, .null])), (z5, .inr (1, [.ref (u9 0)])), (u9 0, cR (t 3) (ref3 (u9 1) (u9 3) (u9 5))), (u9 1, .inr (2, [.ref (u9 2)])), (u9 2, cB t 5 (fun _ => 0)), (u9 3, .inr (2, [.ref (u9 4)])), (u9 4, cB t 5 (fun _ => 0)), (u9 5, .inr (2, [.ref (u9 6)])), (u9 6, cB t 5 (fun _ => 0)), (z17, .inl (t 0, 3, .inl (fun j => nI ((fun _ => 5) j)))), (z36, cR (t 4) (fun i => if i = 1 then some z50 else (fun i => if i = 0 then some z43 else (fun _ => none) i) i)), (z43, cL t 5 (fun _ => 0)), (z50, cL t 5 (fun _ => 0))]) := hD
  refine lv_dup hx hb dX0_init_53 rfl ?_
  refine lv_iconst (v := (nI 2)) hx hb dX0_init_54 (by decide) ?_
  refine lv_bipush (v := (nI 32)) hx hb dX0_init_55 (by decide) ?_
  refine xr_newa (atype := .long) hx hb (hts _ q136) (ty := .long) rfl hK.1 hP hD hS hA 1 rfl (N' := 2 ^ 5) (a0 := (2 ^ 5, .inr (.inl (fun i => lN ((fun _ => 0) i))))) ((fun cA => rfl)) (nI_pos (by decide)) (nI_clamp (by decide)) (by decide) (Nat.le_of_ble_eq_true rfl) (Nat.le_of_ble_eq_true rfl) dX0_init_57 (fun z57 H hP hD hS => ?_)
  refine W.widen (k := 13) (n := 301) (by omega) (by omega) ?_
  have hP : va_P D vwCl ([(h0, .inr (0, [.ref z5, .ref z17, .null])), (z5, .inr (1, [.ref (u9 0)])), (u9 0, cR (t 3) (ref3 (u9 1) (u9 3) (u9 5))), (u9 1, .inr (2, [.ref (u9 2)])), (u9 2, cB t 5 (fun _ => 0)), (u9 3, .inr (2, [.ref (u9 4)])), (u9 4, cB t 5 (fun _ => 0)), (u9 5, .inr (2, [.ref (u9 6)])), (u9 6, cB t 5 (fun _ => 0)), (z17, .inl (t 0, 3, .inl (fun j => nI ((fun _ => 5) j)))), (z36, cR (t 4) (fun i => if i = 1 then some z50 else (fun i => if i = 0 then some z43 else (fun _ => none) i) i)), (z43, cL t 5 (fun _ => 0)), (z50, cL t 5 (fun _ => 0)), (z57, cL t 5 (fun _ => 0))]) H := hP
  have hD : va_D (va_A ([(h0, .inr (0, [.null, .null, .null]))]) s.heap.size) ([(h0, .inr (0, [.ref z5, .ref z17, .null])), (z5, .inr (1, [.ref (u9 0)])), (u9 0, cR (t 3) (ref3 (u9 1) (u9 3) (u9 5))), (u9 1, .inr (2, [.ref (u9 2)])), (u9 2, cB t 5 (fun _ => 0)), (u9 3, .inr (2, [.ref (u9 4)])), (u9 4, cB t 5 (fun _ => 0)), (u9 5, .inr (2, [.ref (u9 6)])), (u9 6, cB t 5 (fun _ => 0)), (z17, .inl (t 0, 3, .inl (fun j => nI ((fun _ => 5) j)))), (z36, cR (t 4) (fun i => if i = 1 then some z50 else (fun i => if i = 0 then some z43 else (fun _ => none) i) i)), (z43, cL t 5 (fun _ => 0)), (z50, cL t 5 (fun _ => 0)), (z57, cL t 5 (fun _ => 0))]) := hD
  refine xr_aastA hx hb hK.2.2.1 hK.1 hP hD hS 10 4 (13) 1 ((ref3 z43 z50 z57)) (rfl) rfl (rfl) rfl (by decide) (by decide) (fun i hi => by rcases j3 hi with rfl | rfl | rfl <;> rfl) dX0_init_59 (fun H locs hP hD hS => ?_)
  have hP : va_P D vwCl ([(h0, .inr (0, [.ref z5, .ref z17, .null])), (z5, .inr (1, [.ref (u9 0)])), (u9 0, cR (t 3) (ref3 (u9 1) (u9 3) (u9 5))), (u9 1, .inr (2, [.ref (u9 2)])), (u9 2, cB t 5 (fun _ => 0)), (u9 3, .inr (2, [.ref (u9 4)])), (u9 4, cB t 5 (fun _ => 0)), (u9 5, .inr (2, [.ref (u9 6)])), (u9 6, cB t 5 (fun _ => 0)), (z17, .inl (t 0, 3, .inl (fun j => nI ((fun _ => 5) j)))), (z36, cR (t 4) (ref3 z43 z50 z57)), (z43, cL t 5 (fun _ => 0)), (z50, cL t 5 (fun _ => 0)), (z57, cL t 5 (fun _ => 0))]) H := hP
  have hD : va_D (va_A ([(h0, .inr (0, [.null, .null, .null]))]) s.heap.size) ([(h0, .inr (0, [.ref z5, .ref z17, .null])), (z5, .inr (1, [.ref (u9 0)])), (u9 0, cR (t 3) (ref3 (u9 1) (u9 3) (u9 5))), (u9 1, .inr (2, [.ref (u9 2)])), (u9 2, cB t 5 (fun _ => 0)), (u9 3, .inr (2, [.ref (u9 4)])), (u9 4, cB t 5 (fun _ => 0)), (u9 5, .inr (2, [.ref (u9 6)])), (u9 6, cB t 5 (fun _ => 0)), (z17, .inl (t 0, 3, .inl (fun j => nI ((fun _ => 5) j)))), (z36, cR (t 4) (ref3 z43 z50 z57)), (z43, cL t 5 (fun _ => 0)), (z50, cL t 5 (fun _ => 0)), (z57, cL t 5 (fun _ => 0))]) := hD
  refine va_putF (D := D) (ci := 0) (v := .ref z36) (ty := tyX0 2) (C := RX0) (T := TX0) (N := 3) hx hb hts in_X0 tyX0 tyX0_ok nmX0 hown hK.1 hP hD hS 0 (rfl) rfl 2 (by decide) (hts _ q127) (fun _ h9 => h9) rfl hin rfl (by decide +kernel) rfl rfl (Nat.le_of_ble_eq_true rfl) dX0_init_60 (fun H locs hP hD hS => ?_)
  have hP : va_P D vwCl ([(h0, .inr (0, [.ref z5, .ref z17, .ref z36])), (z5, .inr (1, [.ref (u9 0)])), (u9 0, cR (t 3) (ref3 (u9 1) (u9 3) (u9 5))), (u9 1, .inr (2, [.ref (u9 2)])), (u9 2, cB t 5 (fun _ => 0)), (u9 3, .inr (2, [.ref (u9 4)])), (u9 4, cB t 5 (fun _ => 0)), (u9 5, .inr (2, [.ref (u9 6)])), (u9 6, cB t 5 (fun _ => 0)), (z17, .inl (t 0, 3, .inl (fun j => nI ((fun _ => 5) j)))), (z36, cR (t 4) (ref3 z43 z50 z57)), (z43, cL t 5 (fun _ => 0)), (z50, cL t 5 (fun _ => 0)), (z57, cL t 5 (fun _ => 0))]) H := hP
  have hD : va_D (va_A ([(h0, .inr (0, [.null, .null, .null]))]) s.heap.size) ([(h0, .inr (0, [.ref z5, .ref z17, .ref z36])), (z5, .inr (1, [.ref (u9 0)])), (u9 0, cR (t 3) (ref3 (u9 1) (u9 3) (u9 5))), (u9 1, .inr (2, [.ref (u9 2)])), (u9 2, cB t 5 (fun _ => 0)), (u9 3, .inr (2, [.ref (u9 4)])), (u9 4, cB t 5 (fun _ => 0)), (u9 5, .inr (2, [.ref (u9 6)])), (u9 6, cB t 5 (fun _ => 0)), (z17, .inl (t 0, 3, .inl (fun j => nI ((fun _ => 5) j)))), (z36, cR (t 4) (ref3 z43 z50 z57)), (z43, cL t 5 (fun _ => 0)), (z50, cL t 5 (fun _ => 0)), (z57, cL t 5 (fun _ => 0))]) := hD
  have hP : va_P D vwCl (WW t (fun k => [h0, z17, z36, z43, z50, z57, z5, u9 0, u9 1, u9 3, u9 5, u9 2, u9 4, u9 6].getD k 0) (fun _ => 5) (fun _ => 5) (fun _ _ => 0) (fun _ => 5) (fun _ _ => 0)) H := hP.sub [0, 9, 10, 11, 12, 13, 1, 2, 3, 5, 7, 4, 6, 8] rfl
  have hD : va_D (va_A [(h0, .inr (0, [.null, .null, .null]))] s.heap.size) (WW t (fun k => [h0, z17, z36, z43, z50, z57, z5, u9 0, u9 1, u9 3, u9 5, u9 2, u9 4, u9 6].getD k 0) (fun _ => 5) (fun _ => 5) (fun _ _ => 0) (fun _ => 5) (fun _ _ => 0)) := hD.sub [0, 9, 10, 11, 12, 13, 1, 2, 3, 5, 7, 4, 6, 8] (by decide) rfl
  exact W.vret hx hb hr (fun t ht hW => ⟨⟨(fun k => [h0, z17, z36, z43, z50, z57, z5, u9 0, u9 1, u9 3, u9 5, u9 2, u9 4, u9 6].getD k 0), rfl, rfl, by rw [ht]; exact hP, hD⟩, hS.F ht⟩) hS.2.2 dX0_init_63
end
section
set_option maxRecDepth 100000
set_option maxHeartbeats 4000000 in
set_option maxRecDepth 100000 in
/-- act answers true, and leaves a law's world -/
theorem met_act (l : Launch) (D : va_G) (t : Nat → ClassId) (ad pp : Nat → Nat) (mm : Nat → Nat → Nat) (sz : Nat) (hq : ∀ j, 3 ≤ pp j ∧ pp j ≤ 6) (hm : ∀ j, Ok (mm j)) (xc xt xa xb xh xl : Int32) : Met l yX0_act (ws_ yX0_act cX0_act 13 (some .boolean)) ({ frames := 7, cells := 4, slots := 193, locals := 167 } : Room) (Pw [.ref (ad 0), .int xc, .int xt, .int xa, .int xb, .int xh, .int xl] D t sz (WW t ad pp pp mm pp mm)) (Qi D (WW t ad pp pp mm pp mm) sz (fun (r : Int32) (u : (Nat → Nat) × (Nat → Nat) × (Nat → Nat → Nat)) => r = nI 1 ∧ (∀ j, 3 ≤ u.2.1 j ∧ u.2.1 j ≤ 6) ∧ (∀ j, Ok (u.2.2 j)) ∧ u.1 0 = ad 0) (fun u => WW t u.1 u.2.1 u.2.1 u.2.2 u.2.1 u.2.2)) 4 193 (va_A (WW t ad pp pp mm pp mm) sz) := by
  refine Met.ofW (cc := cX0_act) (maxL := 13) (ret := (some .boolean)) (by decide) rfl ?_
  intro p e s m args below meth c s₁ B hml hv
  obtain ⟨rfl, hK, hsz, hP, hD0⟩ := hv
  subst hsz
  have hD := hD0.self (sz := s.heap.size)
  have hA : ∀ q : Nat, s.heap.size ≤ q → va_A (WW t ad pp pp mm pp mm) s.heap.size q := fun q h => Or.inr h
  have hS : va_S (va_A (WW t ad pp pp mm pp mm) s.heap.size) s.heap s.heap [] := va_S.rf
  have hx := B.exec
  have hb := B.bytes
  have hr := B.returns
  have hts := atoms_spec (ws := ws_ yX0_act cX0_act 13 (some .boolean)) B.pre
  have hts : ∀ w ∈ lw_all, w.before _ s = true := fun w h => hts w (List.mem_cons_of_mem _ h)
  have hown : s.vm.findClass RX0 = some m.cls := findClass_of_methodNamed B.named
  have hlocks := B.notSynchronized
  refine w_entry [.ref (ad 0), .int xc, .int xt, .int xa, .int xb, .int xh, .int xl] (Nat.le_of_ble_eq_true rfl) (fun ls hl => ?_)
  have hl : lv_has ls 13 [(0, .ref (ad 0)), (1, .int xc), (2, .int xt), (3, .int xa), (4, .int xb), (5, .int xh), (6, .int xl)] := hl
  obtain ⟨jt, hjt⟩ : ∃ j, uI xt % 2 ^ 31 % 3 = j := ⟨_, rfl⟩
  have hjt3 : jt < 3 := by rw [← hjt]; exact Nat.mod_lt _ (by decide)
  obtain ⟨ja, hja⟩ : ∃ j, uI xa % 2 ^ 31 % 3 = j := ⟨_, rfl⟩
  have hja3 : ja < 3 := by rw [← hja]; exact Nat.mod_lt _ (by decide)
  obtain ⟨jb, hjb⟩ : ∃ j, uI xb % 2 ^ 31 % 3 = j := ⟨_, rfl⟩
  have hjb3 : jb < 3 := by rw [← hjb]; exact Nat.mod_lt _ (by decide)
  obtain ⟨cc, hcc⟩ : ∃ j, uI xc % 2 ^ 31 % 12 = j := ⟨_, rfl⟩
  have hcc12 : cc < 12 := by rw [← hcc]; exact Nat.mod_lt _ (by decide)
  refine lv_iload_n hx hb dX0_act_0 rfl (lv_at hl 2 rfl) ?_
  refine lv_iconst (v := (nI 3)) hx hb dX0_act_1 (by decide) ?_
  refine vp_callSi (W.runS (As := [.int xt, .int (nI 3)]) (rest := []) ⟨hx, hb, hml, hown, hts⟩ (met_rest l xt 3 (by decide) (by decide)) (va_cwS 2 hts (lw_S q191 q192 q6 q193) rfl rfl rfl (by decide +kernel) ⟨Nat.le_of_ble_eq_true rfl, Nat.le_of_ble_eq_true rfl⟩) (preS_p) rfl rfl hl.1 rfl (lv_room (Nat.le_of_ble_eq_true rfl)) dX0_act_2 ⟨Nat.le_of_ble_eq_true rfl, Nat.le_of_ble_eq_true rfl⟩) (fun r2 e2 => ?_)
  obtain rfl : r2 = (nI (uI xt % 2 ^ 31 % 3)) := e2
  rw [hjt]
  refine lv_istore (lv' := [(7, .int (nI jt)), (0, .ref (ad 0)), (1, .int xc), (2, .int xt), (3, .int xa), (4, .int xb), (5, .int xh), (6, .int xl)]) hx hb dX0_act_5 hl (by decide) rfl (fun ls hl => ?_)
  refine lv_iload_n hx hb dX0_act_7 rfl (lv_at hl 4 rfl) ?_
  refine lv_iconst (v := (nI 3)) hx hb dX0_act_8 (by decide) ?_
  refine vp_callSi (W.runS (As := [.int xa, .int (nI 3)]) (rest := []) ⟨hx, hb, hml, hown, hts⟩ (met_rest l xa 3 (by decide) (by decide)) (va_cwS 2 hts (lw_S q191 q192 q6 q193) rfl rfl rfl (by decide +kernel) ⟨Nat.le_of_ble_eq_true rfl, Nat.le_of_ble_eq_true rfl⟩) (preS_p) rfl rfl hl.1 rfl (lv_room (Nat.le_of_ble_eq_true rfl)) dX0_act_9 ⟨Nat.le_of_ble_eq_true rfl, Nat.le_of_ble_eq_true rfl⟩) (fun r9 e9 => ?_)
  obtain rfl : r9 = (nI (uI xa % 2 ^ 31 % 3)) := e9
  rw [hja]
  refine lv_istore (lv' := [(8, .int (nI ja)), (7, .int (nI jt)), (0, .ref (ad 0)), (1, .int xc), (2, .int xt), (3, .int xa), (4, .int xb), (5, .int xh), (6, .int xl)]) hx hb dX0_act_12 hl (by decide) rfl (fun ls hl => ?_)
  refine lv_iload hx hb dX0_act_14 (lv_at hl 6 rfl) ?_
  refine lv_iconst (v := (nI 3)) hx hb dX0_act_16 (by decide) ?_
  refine vp_callSi (W.runS (As := [.int xb, .int (nI 3)]) (rest := []) ⟨hx, hb, hml, hown, hts⟩ (met_rest l xb 3 (by decide) (by decide)) (va_cwS 2 hts (lw_S q191 q192 q6 q193) rfl rfl rfl (by decide +kernel) ⟨Nat.le_of_ble_eq_true rfl, Nat.le_of_ble_eq_true rfl⟩) (preS_p) rfl rfl hl.1 rfl (lv_room (Nat.le_of_ble_eq_true rfl)) dX0_act_17 ⟨Nat.le_of_ble_eq_true rfl, Nat.le_of_ble_eq_true rfl⟩) (fun r17 e17 => ?_)
  obtain rfl : r17 = (nI (uI xb % 2 ^ 31 % 3)) := e17
  rw [hjb]
  refine lv_istore (lv' := [(9, .int (nI jb)), (8, .int (nI ja)), (7, .int (nI jt)), (0, .ref (ad 0)), (1, .int xc), (2, .int xt), (3, .int xa), (4, .int xb), (5, .int xh), (6, .int xl)]) hx hb dX0_act_20 hl (by decide) rfl (fun ls hl => ?_)
  refine lv_iload_n hx hb dX0_act_22 rfl (lv_at hl 4 rfl) ?_
  refine lv_bipush (v := (nI 12)) hx hb dX0_act_23 (by decide) ?_
  refine vp_callSi (W.runS (As := [.int xc, .int (nI 12)]) (rest := []) ⟨hx, hb, hml, hown, hts⟩ (met_rest l xc 12 (by decide) (by decide)) (va_cwS 2 hts (lw_S q191 q192 q6 q193) rfl rfl rfl (by decide +kernel) ⟨Nat.le_of_ble_eq_true rfl, Nat.le_of_ble_eq_true rfl⟩) (preS_p) rfl rfl hl.1 rfl (lv_room (Nat.le_of_ble_eq_true rfl)) dX0_act_25 ⟨Nat.le_of_ble_eq_true rfl, Nat.le_of_ble_eq_true rfl⟩) (fun r25 e25 => ?_)
  obtain rfl : r25 = (nI (uI xc % 2 ^ 31 % 12)) := e25
  rw [hcc]
  have hsw : (cc = 0 ∨ cc = 1) ∨ cc = 2 ∨ (cc = 3 ∨ cc = 4 ∨ cc = 5) ∨ (cc = 6 ∨ cc = 7) ∨ cc = 8 ∨ cc = 9 ∨ cc = 10 ∨ cc = 11 := by omega
  rcases hsw with hs | hs | hs | hs | hs | hs | hs | hs
  · refine lv_tableIn (tgt := 88) (off := 60) hx hb dX0_act_28 (by rcases hs with rfl | rfl <;> decide) (by rcases hs with rfl | rfl <;> decide) (by rcases hs with rfl | rfl <;> rfl) (by decide) ?_
    refine lv_aload_n hx hb dX0_act_88 rfl (lv_at hl 3 rfl) ?_
    refine va_get (D := D) (ci := 0) (v := .ref (ad 6)) (C := RX0) (T := TX0) (N := 3) hx hb hts in_X0 hown hK.1 hP 0 (rfl) rfl 0 (by decide) (hts _ q125) (fun _ h9 => h9) rfl dX0_act_89 ?_
    refine lv_iload_n hx hb dX0_act_92 rfl (lv_at hl 5 rfl) ?_
    refine lv_iload hx hb dX0_act_93 (lv_at hl 8 rfl) ?_
    refine lv_iload hx hb dX0_act_95 (lv_at hl 9 rfl) ?_
    refine cw_v (va_runV (As := [.int xt, .int xh, .int xl]) (rest := []) ⟨hx, hb, hml, hown, hts⟩ (met_dadd l D t ad pp pp mm pp mm s.heap.size hq hm xt jt hjt hjt3 xh xl) (cwV 3 hts (lw_V q195 q196 q197 q7 q198) rfl rfl rfl (by decide +kernel) ⟨Nat.le_of_ble_eq_true rfl, Nat.le_of_ble_eq_true rfl⟩) (preV_w 6 1 hK hP hD rfl rfl) rfl rfl hl.1 rfl (lv_room (Nat.le_of_ble_eq_true rfl)) dX0_act_97 ⟨Nat.le_of_ble_eq_true rfl, Nat.le_of_ble_eq_true rfl⟩) hD hS hA (fun u97 H locs hp97 hP hD hS => ?_)
    refine W.widen (k := 0) (n := 0) (by omega) (by omega) ?_
    refine lv_aload_n hx hb dX0_act_100 rfl (lv_at hl 3 rfl) ?_
    refine lv_iload hx hb dX0_act_101 (lv_at hl 2 rfl) ?_
    refine lv_iload hx hb dX0_act_103 (lv_at hl 8 rfl) ?_
    refine lv_iload hx hb dX0_act_105 (lv_at hl 9 rfl) ?_
    refine vp_callSl (W.runS (As := [.int xh, .int xl]) (rest := [.int (nI jt), .ref (ad 0)]) ⟨hx, hb, hml, hown, hts⟩ (met_whole l xh xl) (va_cwS 2 hts (lw_S q223 q224 q6 q225) rfl rfl rfl (by decide +kernel) ⟨Nat.le_of_ble_eq_true rfl, Nat.le_of_ble_eq_true rfl⟩) (preS_p) rfl rfl hl.1 rfl (lv_room (Nat.le_of_ble_eq_true rfl)) dX0_act_107 ⟨Nat.le_of_ble_eq_true rfl, Nat.le_of_ble_eq_true rfl⟩) (fun r107 e107 => ?_)
    obtain rfl : r107 = (lN (hw xh xl)) := e107
    refine cw_v (va_runV (As := [.int (nI jt), .long (lN (hw xh xl))]) (rest := []) ⟨hx, hb, hml, hown, hts⟩ (met_marks l D t ad pp pp mm pp (va_up mm jt (addM (pp jt) (mm jt) (hw xh xl))) H.size hq hm jt (hw xh xl) hjt3 rfl (hw_lt xh xl)) (cwV 2 hts (lw_V q227 q229 qs4 q6 q230) rfl rfl rfl (by decide +kernel) ⟨Nat.le_of_ble_eq_true rfl, Nat.le_of_ble_eq_true rfl⟩) (preV_w 0 0 hK hP hD rfl rfl) rfl rfl hl.1 rfl (lv_room (Nat.le_of_ble_eq_true rfl)) dX0_act_110 ⟨Nat.le_of_ble_eq_true rfl, Nat.le_of_ble_eq_true rfl⟩) hD hS hA (fun u110 H locs hp110 hP hD hS => ?_)
    refine W.widen (k := 0) (n := 0) (by omega) (by omega) ?_
    refine lv_iconst (v := (nI 1)) hx hb dX0_act_113 (by decide) ?_
    refine W.widen (k := 4) (n := 193) (by omega) (by omega) ?_
    exact W.zret (v := (nI 1)) hx hb hr (rfl) (fun t ht hW => ⟨⟨(nI 1), (ad, pp, (va_up mm jt (addM (pp jt) (mm jt) (hw xh xl)))), rfl, ⟨rfl, hq, (up_ok hm (addM_ok (hq jt).1 (Nat.le_trans (hq jt).2 (by decide)) (hm jt))), rfl⟩, by rw [ht]; exact hP, hD⟩, hS.F ht⟩) hS.2.2 dX0_act_114
  · refine lv_tableIn (tgt := 115) (off := 87) hx hb dX0_act_28 (by subst hs; decide) (by subst hs; decide) (by subst hs; rfl) (by decide) ?_
    refine lv_iload hx hb dX0_act_115 (lv_at hl 8 rfl) ?_
    refine lv_iload hx hb dX0_act_117 (lv_at hl 9 rfl) ?_
    refine vp_callSl (W.runS (As := [.int xh, .int xl]) (rest := []) ⟨hx, hb, hml, hown, hts⟩ (met_whole l xh xl) (va_cwS 2 hts (lw_S q223 q224 q6 q225) rfl rfl rfl (by decide +kernel) ⟨Nat.le_of_ble_eq_true rfl, Nat.le_of_ble_eq_true rfl⟩) (preS_p) rfl rfl hl.1 rfl (lv_room (Nat.le_of_ble_eq_true rfl)) dX0_act_119 ⟨Nat.le_of_ble_eq_true rfl, Nat.le_of_ble_eq_true rfl⟩) (fun r119 e119 => ?_)
    obtain rfl : r119 = (lN (hw xh xl)) := e119
    refine lv_lstore (lv' := [(10, .long (lN (hw xh xl))), (9, .int (nI jb)), (8, .int (nI ja)), (7, .int (nI jt)), (0, .ref (ad 0)), (1, .int xc), (2, .int xt), (3, .int xa), (4, .int xb), (5, .int xh), (6, .int xl)]) hx hb dX0_act_122 hl (by decide) rfl (fun ls hl => ?_)
    refine lv_aload_n hx hb dX0_act_124 rfl (lv_at hl 4 rfl) ?_
    refine va_get (D := D) (ci := 0) (v := .ref (ad 6)) (C := RX0) (T := TX0) (N := 3) hx hb hts in_X0 hown hK.1 hP 0 (rfl) rfl 0 (by decide) (hts _ q125) (fun _ h9 => h9) rfl dX0_act_125 ?_
    refine lv_iload_n hx hb dX0_act_128 rfl (lv_at hl 6 rfl) ?_
    refine lv_iload hx hb dX0_act_129 (lv_at hl 9 rfl) ?_
    refine lv_iload hx hb dX0_act_131 (lv_at hl 10 rfl) ?_
    refine lv_iload hx hb dX0_act_133 (lv_at hl 8 rfl) ?_
    refine cw_v (va_runV (As := [.int xt, .int xh, .int xl, .int xb]) (rest := []) ⟨hx, hb, hml, hown, hts⟩ (met_dmany l D t ad pp pp mm pp mm s.heap.size hq hm xt jt hjt hjt3 xh xl xb) (cwV 4 hts (lw_V q234 q235 q236 q7 q237) rfl rfl rfl (by decide +kernel) ⟨Nat.le_of_ble_eq_true rfl, Nat.le_of_ble_eq_true rfl⟩) (preV_w 6 1 hK hP hD rfl rfl) rfl rfl hl.1 rfl (lv_room (Nat.le_of_ble_eq_true rfl)) dX0_act_135 ⟨Nat.le_of_ble_eq_true rfl, Nat.le_of_ble_eq_true rfl⟩) hD hS hA (fun u135 H locs hp135 hP hD hS => ?_)
    refine W.widen (k := 0) (n := 0) (by omega) (by omega) ?_
    refine lv_iload hx hb dX0_act_138 (lv_at hl 8 rfl) ?_
    refine lv_bipush (v := (nI 63)) hx hb dX0_act_140 (by decide) ?_
    refine lv_iand hx hb dX0_act_142 ?_
    refine lv_topi (fun v142 e142 => ?_)
    obtain rfl : v142 = (nI (uI xb % 2 ^ 6)) := by rw [e142]; exact pk_and xb 6 (by decide)
    refine lv_istore (lv' := [(12, .int (nI (uI xb % 2 ^ 6))), (10, .long (lN (hw xh xl))), (9, .int (nI jb)), (8, .int (nI ja)), (7, .int (nI jt)), (0, .ref (ad 0)), (1, .int xc), (2, .int xt), (3, .int xa), (4, .int xb), (5, .int xh), (6, .int xl)]) hx hb dX0_act_143 hl (by decide) rfl (fun ls hl => ?_)
    have hl : lv_has ls 13 [(12, .int (nI (uI xb % 2 ^ 6 + 1) + (-1))), (10, .long (lN (hw xh xl))), (9, .int (nI jb)), (8, .int (nI ja)), (7, .int (nI jt)), (0, .ref (ad 0)), (1, .int xc), (2, .int xt), (3, .int xa), (4, .int xb), (5, .int xh), (6, .int xl)] := by rw [pk_m1]; exact hl
    refine W_loop (nL := 13) (fun (b : Nat × (Nat → Nat) × Nat) H1 L1 => (b.1 ≤ 64 ∧ Ok b.2.1 ∧ b.2.2 < 2 ^ 64 ∧ manyN (pp jt) lcg b.1 b.2.1 b.2.2 = (manyN (pp jt) lcg (uI xb % 2 ^ 6 + 1) (mm jt) (hw xh xl))) ∧ va_P D vwCl (WW t ad pp pp (va_up mm jt b.2.1) pp (va_up mm jt (manyN (pp jt) lcg (uI xb % 2 ^ 6 + 1) (mm jt) (hw xh xl)))) H1 ∧ va_D (va_A (WW t ad pp pp mm pp mm) s.heap.size) (WW t ad pp pp (va_up mm jt b.2.1) pp (va_up mm jt (manyN (pp jt) lcg (uI xb % 2 ^ 6 + 1) (mm jt) (hw xh xl)))) ∧ va_S (va_A (WW t ad pp pp mm pp mm) s.heap.size) s.heap H1 L1) (fun b => [(12, .int (nI b.1 + (-1))), (10, .long (lN b.2.2)), (0, .ref (ad 0)), (7, .int (nI jt))]) (fun b => b.1) (fun _ => 0) (fun _ => 0) (fun b H locs ls hI hl ih => ?_) (uI xb % 2 ^ 6 + 1, mm jt, hw xh xl) ⟨⟨Nat.succ_le_of_lt (Nat.mod_lt _ (by decide)), hm jt, hw_lt xh xl, rfl⟩, by rw [up_same]; exact hP, by rw [up_same]; exact hD, hS⟩ (lv_sub hl [0, 1, 5, 4] rfl)
    obtain ⟨c0, M1, h1⟩ := b
    obtain ⟨⟨hb64, hM1, hh1, hF⟩, hP, hD, hS⟩ := hI
    have hl : lv_has ls 13 [(12, .int (nI c0 + (-1))), (10, .long (lN h1)), (0, .ref (ad 0)), (7, .int (nI jt))] := hl
    have hP : va_P D vwCl (WW t ad pp pp (va_up mm jt M1) pp (va_up mm jt (manyN (pp jt) lcg (uI xb % 2 ^ 6 + 1) (mm jt) (hw xh xl)))) H := hP
    have hD : va_D (va_A (WW t ad pp pp mm pp mm) s.heap.size) (WW t ad pp pp (va_up mm jt M1) pp (va_up mm jt (manyN (pp jt) lcg (uI xb % 2 ^ 6 + 1) (mm jt) (hw xh xl)))) := hD
    have hF : manyN (pp jt) lcg c0 M1 h1 = (manyN (pp jt) lcg (uI xb % 2 ^ 6 + 1) (mm jt) (hw xh xl)) := hF
    have hM1 : Ok M1 := hM1
    have hh1 : h1 < 2 ^ 64 := hh1
    refine lv_iload hx hb dX0_act_145 (lv_at hl 0 rfl) ?_
    refine lv_if_lt (tgt := 176) hx hb dX0_act_147 (by decide) (fun c147 => ?_) (fun c147 => ?_)
    · have hz0 : c0 = 0 := by
        rcases Nat.eq_zero_or_pos c0 with h | h
        · exact h
        · rw [show c0 = c0 - 1 + 1 by omega, pk_m1] at c147
          have hb9 : c0 ≤ 64 := hb64
          exact absurd c147 (nI_pos (by omega))
      subst hz0
      have hF : M1 = (manyN (pp jt) lcg (uI xb % 2 ^ 6 + 1) (mm jt) (hw xh xl)) := by rw [manyN_0] at hF; exact hF
      have hP : va_P D vwCl ((WW t ad pp pp (va_up mm jt (manyN (pp jt) lcg (uI xb % 2 ^ 6 + 1) (mm jt) (hw xh xl))) pp (va_up mm jt (manyN (pp jt) lcg (uI xb % 2 ^ 6 + 1) (mm jt) (hw xh xl))))) H := by rw [← hF]; rw [← hF] at hP; exact hP
      have hD : va_D (va_A (WW t ad pp pp mm pp mm) s.heap.size) ((WW t ad pp pp (va_up mm jt (manyN (pp jt) lcg (uI xb % 2 ^ 6 + 1) (mm jt) (hw xh xl))) pp (va_up mm jt (manyN (pp jt) lcg (uI xb % 2 ^ 6 + 1) (mm jt) (hw xh xl))))) := by rw [← hF]; rw [← hF] at hD; exact hD
      refine lv_iconst (v := (nI 1)) hx hb dX0_act_176 (by decide) ?_
      refine W.widen (k := 4) (n := 193) (by omega) (by omega) ?_
      exact W.zret (v := (nI 1)) hx hb hr (rfl) (fun t ht hW => ⟨⟨(nI 1), (ad, pp, (va_up mm jt (manyN (pp jt) lcg (uI xb % 2 ^ 6 + 1) (mm jt) (hw xh xl)))), rfl, ⟨rfl, hq, (up_ok hm (manyN_ok (hq jt).1 (Nat.le_trans (hq jt).2 (by decide)) _ _ _ (hm jt))), rfl⟩, by rw [ht]; exact hP, hD⟩, hS.F ht⟩) hS.2.2 dX0_act_177
    · obtain ⟨c1, rfl⟩ : ∃ c1, c0 = c1 + 1 := by
        rcases Nat.eq_zero_or_pos c0 with h | h
        · subst h
          exact absurd (by decide) c147
        · exact ⟨c0 - 1, by omega⟩
      refine lv_aload_n hx hb dX0_act_150 rfl (lv_at hl 2 rfl) ?_
      refine lv_iload hx hb dX0_act_151 (lv_at hl 3 rfl) ?_
      refine lv_lload hx hb dX0_act_153 (lv_at hl 1 rfl) ?_
      refine cw_v (va_runV (As := [.int (nI jt), .long (lN h1)]) (rest := []) ⟨hx, hb, hml, hown, hts⟩ (met_marks l D t ad pp pp (va_up mm jt M1) pp (va_up mm jt (manyN (pp jt) lcg (uI xb % 2 ^ 6 + 1) (mm jt) (hw xh xl))) H.size hq (up_ok hm hM1) jt h1 hjt3 rfl hh1) (cwV 2 hts (lw_V q227 q229 qs4 q6 q230) rfl rfl rfl (by decide +kernel) ⟨Nat.le_of_ble_eq_true rfl, Nat.le_of_ble_eq_true rfl⟩) (preV_w 0 0 hK hP hD rfl rfl) rfl rfl hl.1 rfl (lv_room (Nat.le_of_ble_eq_true rfl)) dX0_act_155 ⟨Nat.le_of_ble_eq_true rfl, Nat.le_of_ble_eq_true rfl⟩) hD hS hA (fun u155 H locs hp155 hP hD hS => ?_)
      refine W.widen (k := 0) (n := 0) (by omega) (by omega) ?_
      have hP : va_P D vwCl ((WW t ad pp pp (va_up mm jt (addM (pp jt) M1 h1)) pp (va_up mm jt (manyN (pp jt) lcg (uI xb % 2 ^ 6 + 1) (mm jt) (hw xh xl))))) H := by rw [up_up, va_up_self] at hP; exact hP
      have hD : va_D (va_A (WW t ad pp pp mm pp mm) s.heap.size) ((WW t ad pp pp (va_up mm jt (addM (pp jt) M1 h1)) pp (va_up mm jt (manyN (pp jt) lcg (uI xb % 2 ^ 6 + 1) (mm jt) (hw xh xl))))) := by rw [up_up, va_up_self] at hD; exact hD
      refine lv_lload hx hb dX0_act_158 (lv_at hl 1 rfl) ?_
      refine lv_ldc2 (v := (lN 6364136223846793005)) hx hb hown (hts _ q240) dX0_act_160 ?_
      refine lv_lmul hx hb dX0_act_163 ?_
      refine lv_topl (fun v163 e163 => ?_)
      refine lv_ldc2 (v := (lN 1442695040888963407)) hx hb hown (hts _ q241) dX0_act_164 ?_
      refine lv_ladd hx hb dX0_act_167 ?_
      refine lv_topl (fun v167 e167 => ?_)
      obtain rfl : v167 = (lN (lcg h1)) := by rw [e167, e163, lN_mul, lN_add]; exact wb_mod _
      refine lv_lstore (lv' := [(10, .long (lN (lcg h1))), (12, .int (nI (c1 + 1) + (-1))), (0, .ref (ad 0)), (7, .int (nI jt))]) hx hb dX0_act_168 hl (by decide) rfl (fun ls hl => ?_)
      refine lv_iinc (v := (nI c1 + (-1))) (lv' := [(12, .int (nI c1 + (-1))), (10, .long (lN (lcg h1))), (0, .ref (ad 0)), (7, .int (nI jt))]) hx hb dX0_act_170 hl (k := 1) rfl (by rw [pk_m1]; rfl) (by decide) rfl (fun ls hl => ?_)
      refine lv_goto (tgt := 145) hx hb dX0_act_173 (by decide) ?_
      exact ih (c1, addM (pp jt) M1 h1, lcg h1) _ _ ls (Nat.lt_succ_self _) ⟨⟨by have hb9 : c1 + 1 ≤ 64 := hb64; show c1 ≤ 64; omega, addM_ok (hq jt).1 (Nat.le_trans (hq jt).2 (by decide)) hM1, lcg_lt _, by rw [manyN_s] at hF; exact hF⟩, hP, hD, hS⟩ (lv_sub hl [0, 1, 2, 3] rfl)
  · refine lv_tableIn (tgt := 178) (off := 150) hx hb dX0_act_28 (by rcases hs with rfl | rfl | rfl <;> decide) (by rcases hs with rfl | rfl | rfl <;> decide) (by rcases hs with rfl | rfl | rfl <;> rfl) (by decide) ?_
    have hp3 := (hq jt).1
    have hp6 := (hq jt).2
    have h64 := p64 hp6
    have hpos := Nat.two_pow_pos (pp jt)
    have hz : (uI xb % 2 ^ 31 % (65 - pp jt)) ≤ 64 - pp jt := by have := Nat.mod_lt (uI xb % 2 ^ 31) (show 0 < 65 - pp jt by omega); omega
    have hix := Nat.mod_lt (uI xa) hpos
    have hbit : Okn (2 ^ ((uI xb % 2 ^ 31 % (65 - pp jt)) + pp jt - 1)) := okn_pw (by omega) (by omega)
    refine lv_iload hx hb dX0_act_178 (lv_at hl 7 rfl) ?_
    refine lv_bipush (v := (nI 65)) hx hb dX0_act_180 (by decide) ?_
    refine lv_aload_n hx hb dX0_act_182 rfl (lv_at hl 3 rfl) ?_
    refine va_get (D := D) (ci := 0) (v := .ref (ad 1)) (C := RX0) (T := TX0) (N := 3) hx hb hts in_X0 hown hK.1 hP 0 (rfl) rfl 1 (by decide) (hts _ q126) (fun _ h9 => h9) rfl dX0_act_183 ?_
    refine lv_iload hx hb dX0_act_186 (lv_at hl 2 rfl) ?_
    refine xr_iald hx hb hK.1 hP 1 0 (rfl) rfl (hjt3) (by omega) (v := (nI (pp jt))) (rfl) dX0_act_188 ?_
    refine lv_isub hx hb dX0_act_189 ?_
    refine lv_topi (fun v189 e189 => ?_)
    obtain rfl : v189 = (nI (65 - pp jt)) := by rw [e189]; exact pk_sub (by omega)
    refine vp_callSi (W.runS (As := [.int xb, .int (nI (65 - pp jt))]) (rest := []) ⟨hx, hb, hml, hown, hts⟩ (met_rest l xb (65 - pp jt) (by omega) (by omega)) (va_cwS 2 hts (lw_S q191 q192 q6 q193) rfl rfl rfl (by decide +kernel) ⟨Nat.le_of_ble_eq_true rfl, Nat.le_of_ble_eq_true rfl⟩) (preS_p) rfl rfl hl.1 rfl (lv_room (Nat.le_of_ble_eq_true rfl)) dX0_act_190 ⟨Nat.le_of_ble_eq_true rfl, Nat.le_of_ble_eq_true rfl⟩) (fun r190 e190 => ?_)
    obtain rfl : r190 = (nI (uI xb % 2 ^ 31 % (65 - pp jt))) := e190
    refine lv_istore (lv' := [(10, .int (nI (uI xb % 2 ^ 31 % (65 - pp jt)))), (9, .int (nI jb)), (8, .int (nI ja)), (7, .int (nI jt)), (0, .ref (ad 0)), (1, .int xc), (2, .int xt), (3, .int xa), (4, .int xb), (5, .int xh), (6, .int xl)]) hx hb dX0_act_193 hl (by decide) rfl (fun ls hl => ?_)
    refine lv_aload_n hx hb dX0_act_195 rfl (lv_at hl 4 rfl) ?_
    refine va_get (D := D) (ci := 0) (v := .ref (ad 6)) (C := RX0) (T := TX0) (N := 3) hx hb hts in_X0 hown hK.1 hP 0 (rfl) rfl 0 (by decide) (hts _ q125) (fun _ h9 => h9) rfl dX0_act_196 ?_
    refine lv_iload_n hx hb dX0_act_199 rfl (lv_at hl 6 rfl) ?_
    refine lv_iload_n hx hb dX0_act_200 rfl (lv_at hl 7 rfl) ?_
    refine lv_iload hx hb dX0_act_201 (lv_at hl 8 rfl) ?_
    refine cw_v (va_runV (As := [.int xt, .int xa, .int xb]) (rest := []) ⟨hx, hb, hml, hown, hts⟩ (met_dhigh l D t ad pp pp mm pp mm s.heap.size hq hm xt jt hjt hjt3 xa xb) (cwV 3 hts (lw_V q242 q243 q244 q7 q245) rfl rfl rfl (by decide +kernel) ⟨Nat.le_of_ble_eq_true rfl, Nat.le_of_ble_eq_true rfl⟩) (preV_w 6 1 hK hP hD rfl rfl) rfl rfl hl.1 rfl (lv_room (Nat.le_of_ble_eq_true rfl)) dX0_act_203 ⟨Nat.le_of_ble_eq_true rfl, Nat.le_of_ble_eq_true rfl⟩) hD hS hA (fun u203 H locs hp203 hP hD hS => ?_)
    refine W.widen (k := 0) (n := 0) (by omega) (by omega) ?_
    refine lv_aload_n hx hb dX0_act_206 rfl (lv_at hl 4 rfl) ?_
    refine va_get (D := D) (ci := 0) (v := .ref (ad 2)) (C := RX0) (T := TX0) (N := 3) hx hb hts in_X0 hown hK.1 hP 0 (rfl) rfl 2 (by decide) (hts _ q127) (fun _ h9 => h9) rfl dX0_act_207 ?_
    refine lv_iload hx hb dX0_act_210 (lv_at hl 3 rfl) ?_
    refine xr_aald hx hb hK.1 hP 2 4 rfl (rfl) rfl (hjt3) (by omega) (v := (ad (3 + jt))) (ref3_m hjt3) dX0_act_212 ?_
    refine lv_iload_n hx hb dX0_act_213 rfl (lv_at hl 7 rfl) ?_
    refine lv_iconst (v := (nI 1)) hx hb dX0_act_214 (by decide) ?_
    refine lv_aload_n hx hb dX0_act_215 rfl (lv_at hl 4 rfl) ?_
    refine va_get (D := D) (ci := 0) (v := .ref (ad 1)) (C := RX0) (T := TX0) (N := 3) hx hb hts in_X0 hown hK.1 hP 0 (rfl) rfl 1 (by decide) (hts _ q126) (fun _ h9 => h9) rfl dX0_act_216 ?_
    refine lv_iload hx hb dX0_act_219 (lv_at hl 3 rfl) ?_
    refine xr_iald hx hb hK.1 hP 1 0 (rfl) rfl (hjt3) (by omega) (v := (nI (pp jt))) (rfl) dX0_act_221 ?_
    refine lv_ishl hx hb dX0_act_222 ?_
    refine lv_topi (fun v222 e222 => ?_)
    obtain rfl : v222 = (nI (2 ^ pp jt)) := by rw [e222]; exact (pk_shlN (n := 1) (nI (pp jt) &&& 31) (pp jt) ((by decide +kernel : ∀ k, k < 31 → ((nI k &&& 31).toBitVec.smod 32).toNat = k) (pp jt) (by omega)) (by omega)).trans (congrArg nI (Nat.one_mul _))
    refine lv_iconst (v := (nI 1)) hx hb dX0_act_223 (by decide) ?_
    refine lv_isub hx hb dX0_act_224 ?_
    refine lv_topi (fun v224 e224 => ?_)
    obtain rfl : v224 = (nI (2 ^ pp jt - 1)) := by rw [e224]; exact pk_sub hpos
    refine lv_iand hx hb dX0_act_225 ?_
    refine lv_topi (fun v225 e225 => ?_)
    obtain rfl : v225 = (nI (uI xa % 2 ^ pp jt)) := by rw [e225]; exact pk_and xa (pp jt) (pk_tn (by omega))
    refine lv_dup2_11 hx hb dX0_act_226 rfl rfl ?_
    refine xr_lald hx hb hK.1 hP (3 + jt) 1 ((WW_m hjt3)) rfl (hix) (by omega) (v := (lN (mm jt (uI xa % 2 ^ pp jt)))) (rfl) dX0_act_227 ?_
    refine lv_lconst (v := (lN 1)) hx hb dX0_act_228 (by decide) ?_
    refine lv_iload hx hb dX0_act_229 (lv_at hl 0 rfl) ?_
    refine lv_aload_n hx hb dX0_act_231 rfl (lv_at hl 4 rfl) ?_
    refine va_get (D := D) (ci := 0) (v := .ref (ad 1)) (C := RX0) (T := TX0) (N := 3) hx hb hts in_X0 hown hK.1 hP 0 (rfl) rfl 1 (by decide) (hts _ q126) (fun _ h9 => h9) rfl dX0_act_232 ?_
    refine lv_iload hx hb dX0_act_235 (lv_at hl 3 rfl) ?_
    refine xr_iald hx hb hK.1 hP 1 0 (rfl) rfl (hjt3) (by omega) (v := (nI (pp jt))) (rfl) dX0_act_237 ?_
    refine lv_iadd hx hb dX0_act_238 ?_
    refine lv_topi (fun v238 e238 => ?_)
    obtain rfl : v238 = (nI ((uI xb % 2 ^ 31 % (65 - pp jt)) + pp jt)) := by rw [e238]; exact nI_add _ _
    refine lv_iconst (v := (nI 1)) hx hb dX0_act_239 (by decide) ?_
    refine lv_isub hx hb dX0_act_240 ?_
    refine lv_topi (fun v240 e240 => ?_)
    obtain rfl : v240 = (nI ((uI xb % 2 ^ 31 % (65 - pp jt)) + pp jt - 1)) := by rw [e240]; exact pk_sub (by omega)
    refine lv_lshl hx hb dX0_act_241 rfl ?_
    refine lv_topl (fun v241 e241 => ?_)
    obtain rfl : v241 = (lN (2 ^ ((uI xb % 2 ^ 31 % (65 - pp jt)) + pp jt - 1))) := by rw [e241]; exact (wb_shl 1 (by omega)).trans (congrArg lN (Nat.one_mul _))
    refine lv_lor hx hb dX0_act_242 ?_
    refine lv_topl (fun v242 e242 => ?_)
    obtain rfl : v242 = (lN (mm jt (uI xa % 2 ^ pp jt) ||| 2 ^ ((uI xb % 2 ^ 31 % (65 - pp jt)) + pp jt - 1))) := by rw [e242]; exact wb_or (hm jt _).1 hbit.1
    refine xr_last hx hb hK.1 hP hD hS (3 + jt) 1 (fun i => lN ((addH (pp jt) (mm jt) (uI xa) (uI xb % 2 ^ 31 % (65 - pp jt))) i)) ((WW_m hjt3)) rfl (hix) (by omega) (fun i hi => by
        unfold addH
        by_cases hii : i = (uI xa % 2 ^ pp jt)
        · rw [if_pos hii, if_pos hii, hii]
        · rw [if_neg hii, if_neg hii]) dX0_act_243 (fun H locs hP hD hS => ?_)
    have hP : va_P D vwCl ((WW t ad pp pp (va_up mm jt (addH (pp jt) (mm jt) (uI xa) (uI xb % 2 ^ 31 % (65 - pp jt)))) pp (va_up mm jt (addH (pp jt) (mm jt) (uI xa) (uI xb % 2 ^ 31 % (65 - pp jt)))))) H := by rw [← WW_setm hjt3]; exact hP
    have hD : va_D (va_A (WW t ad pp pp mm pp mm) s.heap.size) ((WW t ad pp pp (va_up mm jt (addH (pp jt) (mm jt) (uI xa) (uI xb % 2 ^ 31 % (65 - pp jt)))) pp (va_up mm jt (addH (pp jt) (mm jt) (uI xa) (uI xb % 2 ^ 31 % (65 - pp jt)))))) := by rw [← WW_setm hjt3]; exact hD
    have hok : Ok (addH (pp jt) (mm jt) (uI xa) (uI xb % 2 ^ 31 % (65 - pp jt))) := fun i => by unfold addH; split; exact okn_or (hm jt i) hbit; exact hm jt i
    refine lv_iconst (v := (nI 1)) hx hb dX0_act_244 (by decide) ?_
    refine W.widen (k := 4) (n := 193) (by omega) (by omega) ?_
    exact W.zret (v := (nI 1)) hx hb hr (rfl) (fun t ht hW => ⟨⟨(nI 1), (ad, pp, (va_up mm jt (addH (pp jt) (mm jt) (uI xa) (uI xb % 2 ^ 31 % (65 - pp jt))))), rfl, ⟨rfl, hq, (up_ok hm hok), rfl⟩, by rw [ht]; exact hP, hD⟩, hS.F ht⟩) hS.2.2 dX0_act_245
  · refine lv_tableIn (tgt := 246) (off := 218) hx hb dX0_act_28 (by rcases hs with rfl | rfl <;> decide) (by rcases hs with rfl | rfl <;> decide) (by rcases hs with rfl | rfl <;> rfl) (by decide) ?_
    have hr0 : ∃ r, (pp ja ≤ pp jb ∧ r = pp ja) ∨ (pp jb < pp ja ∧ r = pp jb) := by
      rcases Nat.lt_or_ge (pp jb) (pp ja) with h | h
      · exact ⟨_, Or.inr ⟨h, rfl⟩⟩
      · exact ⟨_, Or.inl ⟨h, rfl⟩⟩
    obtain ⟨r, hr1⟩ := hr0
    have ha3 := hq ja
    have hb3 := hq jb
    refine lv_aload_n hx hb dX0_act_246 rfl (lv_at hl 3 rfl) ?_
    refine va_get (D := D) (ci := 0) (v := .ref (ad 2)) (C := RX0) (T := TX0) (N := 3) hx hb hts in_X0 hown hK.1 hP 0 (rfl) rfl 2 (by decide) (hts _ q127) (fun _ h9 => h9) rfl dX0_act_247 ?_
    refine lv_iload hx hb dX0_act_250 (lv_at hl 1 rfl) ?_
    refine xr_aald hx hb hK.1 hP 2 4 rfl (rfl) rfl (hja3) (by omega) (v := (ad (3 + ja))) (ref3_m hja3) dX0_act_252 ?_
    refine lv_aload_n hx hb dX0_act_253 rfl (lv_at hl 3 rfl) ?_
    refine va_get (D := D) (ci := 0) (v := .ref (ad 1)) (C := RX0) (T := TX0) (N := 3) hx hb hts in_X0 hown hK.1 hP 0 (rfl) rfl 1 (by decide) (hts _ q126) (fun _ h9 => h9) rfl dX0_act_254 ?_
    refine lv_iload hx hb dX0_act_257 (lv_at hl 1 rfl) ?_
    refine xr_iald hx hb hK.1 hP 1 0 (rfl) rfl (hja3) (by omega) (v := (nI (pp ja))) (rfl) dX0_act_259 ?_
    refine lv_aload_n hx hb dX0_act_260 rfl (lv_at hl 3 rfl) ?_
    refine va_get (D := D) (ci := 0) (v := .ref (ad 2)) (C := RX0) (T := TX0) (N := 3) hx hb hts in_X0 hown hK.1 hP 0 (rfl) rfl 2 (by decide) (hts _ q127) (fun _ h9 => h9) rfl dX0_act_261 ?_
    refine lv_iload hx hb dX0_act_264 (lv_at hl 0 rfl) ?_
    refine xr_aald hx hb hK.1 hP 2 4 rfl (rfl) rfl (hjb3) (by omega) (v := (ad (3 + jb))) (ref3_m hjb3) dX0_act_266 ?_
    refine lv_aload_n hx hb dX0_act_267 rfl (lv_at hl 3 rfl) ?_
    refine va_get (D := D) (ci := 0) (v := .ref (ad 1)) (C := RX0) (T := TX0) (N := 3) hx hb hts in_X0 hown hK.1 hP 0 (rfl) rfl 1 (by decide) (hts _ q126) (fun _ h9 => h9) rfl dX0_act_268 ?_
    refine lv_iload hx hb dX0_act_271 (lv_at hl 0 rfl) ?_
    refine xr_iald hx hb hK.1 hP 1 0 (rfl) rfl (hjb3) (by omega) (v := (nI (pp jb))) (rfl) dX0_act_273 ?_
    refine cw_r (va_runS (As := [.ref (ad (3 + ja)), .int (nI (pp ja)), .ref (ad (3 + jb)), .int (nI (pp jb))]) (rest := []) ⟨hx, hb, hml, hown, hts⟩ (met_both l D t (WW t ad pp pp mm pp mm) s.heap.size (3 + ja) (ad (3 + ja)) (pp ja) (mm ja) (3 + jb) (ad (3 + jb)) (pp jb) (mm jb) r (by omega) (by omega) (by omega) hr1 (hm ja) (hm jb) (WW_m hja3) (WW_m hjb3)) (va_cwS 4 hts (lw_S q246 q247 q6 q248) rfl rfl rfl (by decide +kernel) ⟨Nat.le_of_ble_eq_true rfl, Nat.le_of_ble_eq_true rfl⟩) (preS_w hK hP hD) rfl rfl hl.1 rfl (lv_room (Nat.le_of_ble_eq_true rfl)) dX0_act_274 ⟨Nat.le_of_ble_eq_true rfl, Nat.le_of_ble_eq_true rfl⟩) hD hS hA (fun u274 z274 H locs hp274 hP hD hS => ?_)
    refine W.widen (k := 2) (n := 128) (by omega) (by omega) ?_
    have hP : va_P D vwCl (((WW t ad pp pp mm pp mm) ++ [(z274, cL t r (mrgM pp mm ja jb r))])) H := hP
    have hD : va_D (va_A (WW t ad pp pp mm pp mm) s.heap.size) (((WW t ad pp pp mm pp mm) ++ [(z274, cL t r (mrgM pp mm ja jb r))])) := hD
    refine lv_astore (lv' := [(10, .ref z274), (9, .int (nI jb)), (8, .int (nI ja)), (7, .int (nI jt)), (0, .ref (ad 0)), (1, .int xc), (2, .int xt), (3, .int xa), (4, .int xb), (5, .int xh), (6, .int xl)]) hx hb dX0_act_277 hl (by decide) rfl (fun ls hl => ?_)
    refine lv_aload_n hx hb dX0_act_279 rfl (lv_at hl 4 rfl) ?_
    refine va_get (D := D) (ci := 0) (v := .ref (ad 6)) (C := RX0) (T := TX0) (N := 3) hx hb hts in_X0 hown hK.1 hP 0 ((ws_app (ws := (WW t ad pp pp mm pp mm)) rfl)) rfl 0 (by decide) (hts _ q125) (fun _ h9 => h9) rfl dX0_act_280 ?_
    refine lv_iload_n hx hb dX0_act_283 rfl (lv_at hl 6 rfl) ?_
    refine lv_iload_n hx hb dX0_act_284 rfl (lv_at hl 7 rfl) ?_
    refine lv_iload hx hb dX0_act_285 (lv_at hl 8 rfl) ?_
    have hPc : va_P D vwCl (WW t ad pp pp mm pp mm) H := hP.sub [0, 1, 2, 3, 4, 5, 6, 7, 8, 9, 10, 11, 12, 13] rfl
    have hDc : va_D (va_A (WW t ad pp pp mm pp mm) s.heap.size) (WW t ad pp pp mm pp mm) := hD.sub [0, 1, 2, 3, 4, 5, 6, 7, 8, 9, 10, 11, 12, 13] (by decide) rfl
    refine cj_v (wr := [(z274, cL t r (mrgM pp mm ja jb r))]) (va_runV (As := [.int xt, .int xa, .int xb]) (rest := []) ⟨hx, hb, hml, hown, hts⟩ (met_djoin l D t ad pp pp mm pp mm H.size hq hm xt jt hjt hjt3 xa ja hja hja3 xb jb hjb hjb3 r hr1) (cwV 3 hts (lw_V q252 q253 q254 q7 q255) rfl rfl rfl (by decide +kernel) ⟨Nat.le_of_ble_eq_true rfl, Nat.le_of_ble_eq_true rfl⟩) (preV_w 6 1 hK hPc hDc rfl rfl) rfl rfl hl.1 rfl (lv_room (Nat.le_of_ble_eq_true rfl)) dX0_act_287 ⟨Nat.le_of_ble_eq_true rfl, Nat.le_of_ble_eq_true rfl⟩) hP hD hS hA [0, 1, 2, 3, 4, 5, 6, 7, 8, 9, 10, 11, 12, 13] [14] rfl rfl (by decide) (by decide) (fun u287 H locs hp287 hP hD hS => ?_)
    refine W.widen (k := 4) (n := 193) (by omega) (by omega) ?_
    have hP : va_P D vwCl ((WW t (adR ad jt u287.1 u287.2) pp pp mm (va_up pp jt r) (va_up mm jt (mrgM pp mm ja jb r))) ++ [(z274, cL t r (mrgM pp mm ja jb r))]) H := hP.sub [1, 2, 3, 4, 5, 6, 7, 8, 9, 10, 11, 12, 13, 14, 0] rfl
    have hD : va_D (va_A (WW t ad pp pp mm pp mm) s.heap.size) ((WW t (adR ad jt u287.1 u287.2) pp pp mm (va_up pp jt r) (va_up mm jt (mrgM pp mm ja jb r))) ++ [(z274, cL t r (mrgM pp mm ja jb r))]) := hD.sub [1, 2, 3, 4, 5, 6, 7, 8, 9, 10, 11, 12, 13, 14, 0] (by decide) rfl
    refine lv_aload_n hx hb dX0_act_290 rfl (lv_at hl 4 rfl) ?_
    refine va_get (D := D) (ci := 0) (v := .ref (ad 1)) (C := RX0) (T := TX0) (N := 3) hx hb hts in_X0 hown hK.1 hP 0 ((ws_app (ws := (WW t (adR ad jt u287.1 u287.2) pp pp mm (va_up pp jt r) (va_up mm jt (mrgM pp mm ja jb r)))) WR_0)) rfl 1 (by decide) (hts _ q126) (fun _ h9 => h9) rfl dX0_act_291 ?_
    refine lv_iload hx hb dX0_act_294 (lv_at hl 3 rfl) ?_
    refine lv_aload_n hx hb dX0_act_296 rfl (lv_at hl 4 rfl) ?_
    refine va_get (D := D) (ci := 0) (v := .ref (ad 1)) (C := RX0) (T := TX0) (N := 3) hx hb hts in_X0 hown hK.1 hP 0 ((ws_app (ws := (WW t (adR ad jt u287.1 u287.2) pp pp mm (va_up pp jt r) (va_up mm jt (mrgM pp mm ja jb r)))) WR_0)) rfl 1 (by decide) (hts _ q126) (fun _ h9 => h9) rfl dX0_act_297 ?_
    refine lv_iload hx hb dX0_act_300 (lv_at hl 2 rfl) ?_
    refine xr_iald hx hb hK.1 hP 1 0 ((ws_app (ws := (WW t (adR ad jt u287.1 u287.2) pp pp mm (va_up pp jt r) (va_up mm jt (mrgM pp mm ja jb r)))) WR_1)) rfl (hja3) (by omega) (v := (nI (pp ja))) (rfl) dX0_act_302 ?_
    refine lv_aload_n hx hb dX0_act_303 rfl (lv_at hl 4 rfl) ?_
    refine va_get (D := D) (ci := 0) (v := .ref (ad 1)) (C := RX0) (T := TX0) (N := 3) hx hb hts in_X0 hown hK.1 hP 0 ((ws_app (ws := (WW t (adR ad jt u287.1 u287.2) pp pp mm (va_up pp jt r) (va_up mm jt (mrgM pp mm ja jb r)))) WR_0)) rfl 1 (by decide) (hts _ q126) (fun _ h9 => h9) rfl dX0_act_304 ?_
    refine lv_iload hx hb dX0_act_307 (lv_at hl 1 rfl) ?_
    refine xr_iald hx hb hK.1 hP 1 0 ((ws_app (ws := (WW t (adR ad jt u287.1 u287.2) pp pp mm (va_up pp jt r) (va_up mm jt (mrgM pp mm ja jb r)))) WR_1)) rfl (hjb3) (by omega) (v := (nI (pp jb))) (rfl) dX0_act_309 ?_
    refine lv_icmp_ge (tgt := 323) hx hb dX0_act_310 (by decide) (fun c310 => ?_) (fun c310 => ?_)
    · have hge : pp jb ≤ pp ja := (nI_leI (by omega) (by omega)).mp c310
      refine lv_aload_n hx hb dX0_act_323 rfl (lv_at hl 4 rfl) ?_
      refine va_get (D := D) (ci := 0) (v := .ref (ad 1)) (C := RX0) (T := TX0) (N := 3) hx hb hts in_X0 hown hK.1 hP 0 ((ws_app (ws := (WW t (adR ad jt u287.1 u287.2) pp pp mm (va_up pp jt r) (va_up mm jt (mrgM pp mm ja jb r)))) WR_0)) rfl 1 (by decide) (hts _ q126) (fun _ h9 => h9) rfl dX0_act_324 ?_
      refine lv_iload hx hb dX0_act_327 (lv_at hl 1 rfl) ?_
      refine xr_iald hx hb hK.1 hP 1 0 ((ws_app (ws := (WW t (adR ad jt u287.1 u287.2) pp pp mm (va_up pp jt r) (va_up mm jt (mrgM pp mm ja jb r)))) WR_1)) rfl (hjb3) (by omega) (v := (nI (pp jb))) (rfl) dX0_act_329 ?_
      refine lv_topi (fun v930 e930 => ?_)
      obtain rfl : v930 = (nI r) := by rw [e930, show pp jb = r by omega]
      refine xr_iast hx hb hK.1 hP hD hS 1 0 (fun j => nI ((va_up pp jt r) j)) ((ws_app (ws := (WW t (adR ad jt u287.1 u287.2) pp pp mm (va_up pp jt r) (va_up mm jt (mrgM pp mm ja jb r)))) WR_1)) rfl (hjt3) (by decide) (fun i hi => by
          unfold va_up
          by_cases hii : i = jt
          · rw [if_pos hii, if_pos hii]
          · rw [if_neg hii, if_neg hii]) dX0_act_330 (fun H locs hP hD hS => ?_)
      have e11 : (adR ad jt u287.1 u287.2) 1 = ad 1 := adR_lo (by decide)
      rw [← e11] at hP hD
      have hP : va_P D vwCl (((WW t (adR ad jt u287.1 u287.2) (va_up pp jt r) pp mm (va_up pp jt r) (va_up mm jt (mrgM pp mm ja jb r))) ++ [(z274, cL t r (mrgM pp mm ja jb r))])) H := hP
      have hD : va_D (va_A (WW t ad pp pp mm pp mm) s.heap.size) (((WW t (adR ad jt u287.1 u287.2) (va_up pp jt r) pp mm (va_up pp jt r) (va_up mm jt (mrgM pp mm ja jb r))) ++ [(z274, cL t r (mrgM pp mm ja jb r))])) := hD
      refine lv_aload_n hx hb dX0_act_331 rfl (lv_at hl 4 rfl) ?_
      refine va_get (D := D) (ci := 0) (v := .ref (ad 2)) (C := RX0) (T := TX0) (N := 3) hx hb hts in_X0 hown hK.1 hP 0 ((ws_app (ws := (WW t (adR ad jt u287.1 u287.2) (va_up pp jt r) pp mm (va_up pp jt r) (va_up mm jt (mrgM pp mm ja jb r)))) WR_0)) rfl 2 (by decide) (hts _ q127) (fun _ h9 => h9) rfl dX0_act_332 ?_
      refine lv_iload hx hb dX0_act_335 (lv_at hl 3 rfl) ?_
      refine lv_aload hx hb dX0_act_337 (lv_at hl 0 rfl) ?_
      have e22 : (adR ad jt u287.1 u287.2) 2 = ad 2 := adR_lo (by decide)
      refine xr_aastA hx hb hK.2.2.1 hK.1 hP hD hS 2 4 (14) 1 ((ref3 ((adM (adR ad jt u287.1 u287.2) jt z274) 3) ((adM (adR ad jt u287.1 u287.2) jt z274) 4) ((adM (adR ad jt u287.1 u287.2) jt z274) 5))) ((ws_app (ws := (WW t (adR ad jt u287.1 u287.2) (va_up pp jt r) pp mm (va_up pp jt r) (va_up mm jt (mrgM pp mm ja jb r)))) WR_2)) rfl (rfl) rfl (hjt3) (by decide) (adM_hg hjt3) dX0_act_339 (fun H locs hP hD hS => ?_)
      rw [← e22] at hP hD
      have hP : va_P D vwCl (WW t (adM (adR ad jt u287.1 u287.2) jt z274) (va_up pp jt r) (va_up pp jt r) (va_up mm jt (mrgM pp mm ja jb r)) (va_up pp jt r) (va_up mm jt (mrgM pp mm ja jb r))) H := WW_mrowP hjt3 _ hP
      have hD : va_D (va_A (WW t ad pp pp mm pp mm) s.heap.size) (WW t (adM (adR ad jt u287.1 u287.2) jt z274) (va_up pp jt r) (va_up pp jt r) (va_up mm jt (mrgM pp mm ja jb r)) (va_up pp jt r) (va_up mm jt (mrgM pp mm ja jb r))) := WW_mrowD hjt3 _ hD
      have e00 : (adM (adR ad jt u287.1 u287.2) jt z274) 0 = ad 0 := (adM_lo (by decide)).trans (adR_lo (by decide))
      refine lv_iconst (v := (nI 1)) hx hb dX0_act_340 (by decide) ?_
      refine W.widen (k := 4) (n := 193) (by omega) (by omega) ?_
      exact W.zret (v := (nI 1)) hx hb hr (rfl) (fun t ht hW => ⟨⟨(nI 1), ((adM (adR ad jt u287.1 u287.2) jt z274), (va_up pp jt r), (va_up mm jt (mrgM pp mm ja jb r))), rfl, ⟨rfl, (up_p hq (by omega)), (up_ok hm (mrg_ok hm hq (by omega) (by omega) (by omega))), e00⟩, by rw [ht]; exact hP, hD⟩, hS.F ht⟩) hS.2.2 dX0_act_341
    · have hge : pp ja < pp jb := by rcases Nat.lt_or_ge (pp ja) (pp jb) with h | h; exact h; exact absurd (nI_le h (by omega)) c310
      refine lv_aload_n hx hb dX0_act_313 rfl (lv_at hl 4 rfl) ?_
      refine va_get (D := D) (ci := 0) (v := .ref (ad 1)) (C := RX0) (T := TX0) (N := 3) hx hb hts in_X0 hown hK.1 hP 0 ((ws_app (ws := (WW t (adR ad jt u287.1 u287.2) pp pp mm (va_up pp jt r) (va_up mm jt (mrgM pp mm ja jb r)))) WR_0)) rfl 1 (by decide) (hts _ q126) (fun _ h9 => h9) rfl dX0_act_314 ?_
      refine lv_iload hx hb dX0_act_317 (lv_at hl 2 rfl) ?_
      refine xr_iald hx hb hK.1 hP 1 0 ((ws_app (ws := (WW t (adR ad jt u287.1 u287.2) pp pp mm (va_up pp jt r) (va_up mm jt (mrgM pp mm ja jb r)))) WR_1)) rfl (hja3) (by omega) (v := (nI (pp ja))) (rfl) dX0_act_319 ?_
      refine lv_goto (tgt := 330) hx hb dX0_act_320 (by decide) ?_
      refine lv_topi (fun v930 e930 => ?_)
      obtain rfl : v930 = (nI r) := by rw [e930, show pp ja = r by omega]
      refine xr_iast hx hb hK.1 hP hD hS 1 0 (fun j => nI ((va_up pp jt r) j)) ((ws_app (ws := (WW t (adR ad jt u287.1 u287.2) pp pp mm (va_up pp jt r) (va_up mm jt (mrgM pp mm ja jb r)))) WR_1)) rfl (hjt3) (by decide) (fun i hi => by
          unfold va_up
          by_cases hii : i = jt
          · rw [if_pos hii, if_pos hii]
          · rw [if_neg hii, if_neg hii]) dX0_act_330 (fun H locs hP hD hS => ?_)
      have e11 : (adR ad jt u287.1 u287.2) 1 = ad 1 := adR_lo (by decide)
      rw [← e11] at hP hD
      have hP : va_P D vwCl (((WW t (adR ad jt u287.1 u287.2) (va_up pp jt r) pp mm (va_up pp jt r) (va_up mm jt (mrgM pp mm ja jb r))) ++ [(z274, cL t r (mrgM pp mm ja jb r))])) H := hP
      have hD : va_D (va_A (WW t ad pp pp mm pp mm) s.heap.size) (((WW t (adR ad jt u287.1 u287.2) (va_up pp jt r) pp mm (va_up pp jt r) (va_up mm jt (mrgM pp mm ja jb r))) ++ [(z274, cL t r (mrgM pp mm ja jb r))])) := hD
      refine lv_aload_n hx hb dX0_act_331 rfl (lv_at hl 4 rfl) ?_
      refine va_get (D := D) (ci := 0) (v := .ref (ad 2)) (C := RX0) (T := TX0) (N := 3) hx hb hts in_X0 hown hK.1 hP 0 ((ws_app (ws := (WW t (adR ad jt u287.1 u287.2) (va_up pp jt r) pp mm (va_up pp jt r) (va_up mm jt (mrgM pp mm ja jb r)))) WR_0)) rfl 2 (by decide) (hts _ q127) (fun _ h9 => h9) rfl dX0_act_332 ?_
      refine lv_iload hx hb dX0_act_335 (lv_at hl 3 rfl) ?_
      refine lv_aload hx hb dX0_act_337 (lv_at hl 0 rfl) ?_
      have e22 : (adR ad jt u287.1 u287.2) 2 = ad 2 := adR_lo (by decide)
      refine xr_aastA hx hb hK.2.2.1 hK.1 hP hD hS 2 4 (14) 1 ((ref3 ((adM (adR ad jt u287.1 u287.2) jt z274) 3) ((adM (adR ad jt u287.1 u287.2) jt z274) 4) ((adM (adR ad jt u287.1 u287.2) jt z274) 5))) ((ws_app (ws := (WW t (adR ad jt u287.1 u287.2) (va_up pp jt r) pp mm (va_up pp jt r) (va_up mm jt (mrgM pp mm ja jb r)))) WR_2)) rfl (rfl) rfl (hjt3) (by decide) (adM_hg hjt3) dX0_act_339 (fun H locs hP hD hS => ?_)
      rw [← e22] at hP hD
      have hP : va_P D vwCl (WW t (adM (adR ad jt u287.1 u287.2) jt z274) (va_up pp jt r) (va_up pp jt r) (va_up mm jt (mrgM pp mm ja jb r)) (va_up pp jt r) (va_up mm jt (mrgM pp mm ja jb r))) H := WW_mrowP hjt3 _ hP
      have hD : va_D (va_A (WW t ad pp pp mm pp mm) s.heap.size) (WW t (adM (adR ad jt u287.1 u287.2) jt z274) (va_up pp jt r) (va_up pp jt r) (va_up mm jt (mrgM pp mm ja jb r)) (va_up pp jt r) (va_up mm jt (mrgM pp mm ja jb r))) := WW_mrowD hjt3 _ hD
      have e00 : (adM (adR ad jt u287.1 u287.2) jt z274) 0 = ad 0 := (adM_lo (by decide)).trans (adR_lo (by decide))
      refine lv_iconst (v := (nI 1)) hx hb dX0_act_340 (by decide) ?_
      refine W.widen (k := 4) (n := 193) (by omega) (by omega) ?_
      exact W.zret (v := (nI 1)) hx hb hr (rfl) (fun t ht hW => ⟨⟨(nI 1), ((adM (adR ad jt u287.1 u287.2) jt z274), (va_up pp jt r), (va_up mm jt (mrgM pp mm ja jb r))), rfl, ⟨rfl, (up_p hq (by omega)), (up_ok hm (mrg_ok hm hq (by omega) (by omega) (by omega))), e00⟩, by rw [ht]; exact hP, hD⟩, hS.F ht⟩) hS.2.2 dX0_act_341
  · refine lv_tableIn (tgt := 342) (off := 314) hx hb dX0_act_28 (by subst hs; decide) (by subst hs; decide) (by subst hs; rfl) (by decide) ?_
    refine lv_aload_n hx hb dX0_act_342 rfl (lv_at hl 3 rfl) ?_
    refine va_get (D := D) (ci := 0) (v := .ref (ad 6)) (C := RX0) (T := TX0) (N := 3) hx hb hts in_X0 hown hK.1 hP 0 (rfl) rfl 0 (by decide) (hts _ q125) (fun _ h9 => h9) rfl dX0_act_343 ?_
    refine lv_iload_n hx hb dX0_act_346 rfl (lv_at hl 5 rfl) ?_
    refine lv_iload_n hx hb dX0_act_347 rfl (lv_at hl 6 rfl) ?_
    refine cw_v (va_runV (As := [.int xt, .int xa]) (rest := []) ⟨hx, hb, hml, hown, hts⟩ (met_dtake l D t ad pp pp mm pp mm s.heap.size hq hm xt jt hjt hjt3 xa ja hja hja3) (cwV 2 hts (lw_V q296 q297 q298 q7 q299) rfl rfl rfl (by decide +kernel) ⟨Nat.le_of_ble_eq_true rfl, Nat.le_of_ble_eq_true rfl⟩) (preV_w 6 1 hK hP hD rfl rfl) rfl rfl hl.1 rfl (lv_room (Nat.le_of_ble_eq_true rfl)) dX0_act_348 ⟨Nat.le_of_ble_eq_true rfl, Nat.le_of_ble_eq_true rfl⟩) hD hS hA (fun u348 H locs hp348 hP hD hS => ?_)
    refine W.widen (k := 0) (n := 0) (by omega) (by omega) ?_
    have ha3 := hq ja
    have ht3 := hq jt
    refine lv_iload hx hb dX0_act_351 (lv_at hl 2 rfl) ?_
    refine lv_iload hx hb dX0_act_353 (lv_at hl 1 rfl) ?_
    refine lv_icmp_eq (tgt := 413) hx hb dX0_act_355 (by decide) (fun c355 => ?_) (fun c355 => ?_)
    · have hn : ¬ (pp jt ≤ pp ja ∧ ja ≠ jt) := fun h => h.2 ((nI_eq (by omega) (by omega)).mp c355).symm
      have etk : (takeM pp mm jt ja) = mm := by unfold takeM; rw [if_neg hn]
      have hP : va_P D vwCl ((WW t ad pp pp mm pp mm)) H := by rw [etk] at hP; exact hP
      have hD : va_D (va_A (WW t ad pp pp mm pp mm) s.heap.size) ((WW t ad pp pp mm pp mm)) := by rw [etk] at hD; exact hD
      refine lv_iconst (v := (nI 1)) hx hb dX0_act_413 (by decide) ?_
      refine W.widen (k := 4) (n := 193) (by omega) (by omega) ?_
      exact W.zret (v := (nI 1)) hx hb hr (rfl) (fun t ht hW => ⟨⟨(nI 1), (ad, pp, mm), rfl, ⟨rfl, hq, hm, rfl⟩, by rw [ht]; exact hP, hD⟩, hS.F ht⟩) hS.2.2 dX0_act_414
    · have hne : ja ≠ jt := fun h => c355 (by rw [h])
      refine lv_aload_n hx hb dX0_act_358 rfl (lv_at hl 3 rfl) ?_
      refine va_get (D := D) (ci := 0) (v := .ref (ad 1)) (C := RX0) (T := TX0) (N := 3) hx hb hts in_X0 hown hK.1 hP 0 (rfl) rfl 1 (by decide) (hts _ q126) (fun _ h9 => h9) rfl dX0_act_359 ?_
      refine lv_iload hx hb dX0_act_362 (lv_at hl 1 rfl) ?_
      refine xr_iald hx hb hK.1 hP 1 0 (rfl) rfl (hja3) (by omega) (v := (nI (pp ja))) (rfl) dX0_act_364 ?_
      refine lv_aload_n hx hb dX0_act_365 rfl (lv_at hl 3 rfl) ?_
      refine va_get (D := D) (ci := 0) (v := .ref (ad 1)) (C := RX0) (T := TX0) (N := 3) hx hb hts in_X0 hown hK.1 hP 0 (rfl) rfl 1 (by decide) (hts _ q126) (fun _ h9 => h9) rfl dX0_act_366 ?_
      refine lv_iload hx hb dX0_act_369 (lv_at hl 2 rfl) ?_
      refine xr_iald hx hb hK.1 hP 1 0 (rfl) rfl (hjt3) (by omega) (v := (nI (pp jt))) (rfl) dX0_act_371 ?_
      refine lv_icmp_lt (tgt := 413) hx hb dX0_act_372 (by decide) (fun c372 => ?_) (fun c372 => ?_)
      · have hn : ¬ (pp jt ≤ pp ja ∧ ja ≠ jt) := fun h => by have h9 := (nI_ltI (by omega) (by omega)).mp c372; omega
        have etk : (takeM pp mm jt ja) = mm := by unfold takeM; rw [if_neg hn]
        have hP : va_P D vwCl ((WW t ad pp pp mm pp mm)) H := by rw [etk] at hP; exact hP
        have hD : va_D (va_A (WW t ad pp pp mm pp mm) s.heap.size) ((WW t ad pp pp mm pp mm)) := by rw [etk] at hD; exact hD
        refine lv_iconst (v := (nI 1)) hx hb dX0_act_413 (by decide) ?_
        refine W.widen (k := 4) (n := 193) (by omega) (by omega) ?_
        exact W.zret (v := (nI 1)) hx hb hr (rfl) (fun t ht hW => ⟨⟨(nI 1), (ad, pp, mm), rfl, ⟨rfl, hq, hm, rfl⟩, by rw [ht]; exact hP, hD⟩, hS.F ht⟩) hS.2.2 dX0_act_414
      · have hle : pp jt ≤ pp ja := by rcases Nat.lt_or_ge (pp ja) (pp jt) with h | h; exact absurd (nI_lt h (by omega)) c372; exact h
        refine lv_aload_n hx hb dX0_act_375 rfl (lv_at hl 3 rfl) ?_
        refine va_get (D := D) (ci := 0) (v := .ref (ad 2)) (C := RX0) (T := TX0) (N := 3) hx hb hts in_X0 hown hK.1 hP 0 (rfl) rfl 2 (by decide) (hts _ q127) (fun _ h9 => h9) rfl dX0_act_376 ?_
        refine lv_iload hx hb dX0_act_379 (lv_at hl 2 rfl) ?_
        refine lv_aload_n hx hb dX0_act_381 rfl (lv_at hl 3 rfl) ?_
        refine va_get (D := D) (ci := 0) (v := .ref (ad 2)) (C := RX0) (T := TX0) (N := 3) hx hb hts in_X0 hown hK.1 hP 0 (rfl) rfl 2 (by decide) (hts _ q127) (fun _ h9 => h9) rfl dX0_act_382 ?_
        refine lv_iload hx hb dX0_act_385 (lv_at hl 2 rfl) ?_
        refine xr_aald hx hb hK.1 hP 2 4 rfl (rfl) rfl (hjt3) (by omega) (v := (ad (3 + jt))) (ref3_m hjt3) dX0_act_387 ?_
        refine lv_aload_n hx hb dX0_act_388 rfl (lv_at hl 3 rfl) ?_
        refine va_get (D := D) (ci := 0) (v := .ref (ad 1)) (C := RX0) (T := TX0) (N := 3) hx hb hts in_X0 hown hK.1 hP 0 (rfl) rfl 1 (by decide) (hts _ q126) (fun _ h9 => h9) rfl dX0_act_389 ?_
        refine lv_iload hx hb dX0_act_392 (lv_at hl 2 rfl) ?_
        refine xr_iald hx hb hK.1 hP 1 0 (rfl) rfl (hjt3) (by omega) (v := (nI (pp jt))) (rfl) dX0_act_394 ?_
        refine lv_aload_n hx hb dX0_act_395 rfl (lv_at hl 3 rfl) ?_
        refine va_get (D := D) (ci := 0) (v := .ref (ad 2)) (C := RX0) (T := TX0) (N := 3) hx hb hts in_X0 hown hK.1 hP 0 (rfl) rfl 2 (by decide) (hts _ q127) (fun _ h9 => h9) rfl dX0_act_396 ?_
        refine lv_iload hx hb dX0_act_399 (lv_at hl 1 rfl) ?_
        refine xr_aald hx hb hK.1 hP 2 4 rfl (rfl) rfl (hja3) (by omega) (v := (ad (3 + ja))) (ref3_m hja3) dX0_act_401 ?_
        refine lv_aload_n hx hb dX0_act_402 rfl (lv_at hl 3 rfl) ?_
        refine va_get (D := D) (ci := 0) (v := .ref (ad 1)) (C := RX0) (T := TX0) (N := 3) hx hb hts in_X0 hown hK.1 hP 0 (rfl) rfl 1 (by decide) (hts _ q126) (fun _ h9 => h9) rfl dX0_act_403 ?_
        refine lv_iload hx hb dX0_act_406 (lv_at hl 1 rfl) ?_
        refine xr_iald hx hb hK.1 hP 1 0 (rfl) rfl (hja3) (by omega) (v := (nI (pp ja))) (rfl) dX0_act_408 ?_
        refine cw_r (va_runS (As := [.ref (ad (3 + jt)), .int (nI (pp jt)), .ref (ad (3 + ja)), .int (nI (pp ja))]) (rest := [.int (nI jt), .ref (ad 2)]) ⟨hx, hb, hml, hown, hts⟩ (met_both l D t (WW t ad pp pp mm pp (takeM pp mm jt ja)) H.size (3 + jt) (ad (3 + jt)) (pp jt) (mm jt) (3 + ja) (ad (3 + ja)) (pp ja) (mm ja) (pp jt) (by omega) (by omega) (by omega) (Or.inl ⟨hle, rfl⟩) (hm jt) (hm ja) (WW_m hjt3) (WW_m hja3)) (va_cwS 4 hts (lw_S q246 q247 q6 q248) rfl rfl rfl (by decide +kernel) ⟨Nat.le_of_ble_eq_true rfl, Nat.le_of_ble_eq_true rfl⟩) (preS_w hK hP hD) rfl rfl hl.1 rfl (lv_room (Nat.le_of_ble_eq_true rfl)) dX0_act_409 ⟨Nat.le_of_ble_eq_true rfl, Nat.le_of_ble_eq_true rfl⟩) hD hS hA (fun u409 z409 H locs hp409 hP hD hS => ?_)
        refine W.widen (k := 2) (n := 128) (by omega) (by omega) ?_
        have eab : (fun i => dn (pp jt) (pp jt - pp jt) (mm jt) i ||| dn (pp ja) (pp ja - pp jt) (mm ja) i) = (fun i => mm jt i ||| dn (pp ja) (pp ja - pp jt) (mm ja) i) := funext fun i => by rw [Nat.sub_self, dn_0]
        have etk : (takeM pp mm jt ja) = va_up mm jt (fun i => mm jt i ||| dn (pp ja) (pp ja - pp jt) (mm ja) i) := by unfold takeM; rw [if_pos ⟨hle, hne⟩]
        have hP : va_P D vwCl (((WW t ad pp pp mm pp (takeM pp mm jt ja)) ++ [(z409, cL t (pp jt) (fun i => mm jt i ||| dn (pp ja) (pp ja - pp jt) (mm ja) i))])) H := by rw [eab] at hP; exact hP
        have hD : va_D (va_A (WW t ad pp pp mm pp mm) s.heap.size) (((WW t ad pp pp mm pp (takeM pp mm jt ja)) ++ [(z409, cL t (pp jt) (fun i => mm jt i ||| dn (pp ja) (pp ja - pp jt) (mm ja) i))])) := by rw [eab] at hD; exact hD
        refine xr_aastA hx hb hK.2.2.1 hK.1 hP hD hS 2 4 (14) 1 ((ref3 ((adM ad jt z409) 3) ((adM ad jt z409) 4) ((adM ad jt z409) 5))) ((ws_app (ws := (WW t ad pp pp mm pp (takeM pp mm jt ja))) rfl)) rfl (rfl) rfl (hjt3) (by decide) (adM_hg hjt3) dX0_act_412 (fun H locs hP hD hS => ?_)
        have hP : va_P D vwCl (WW t (adM ad jt z409) pp (va_up pp jt (pp jt)) (va_up mm jt (fun i => mm jt i ||| dn (pp ja) (pp ja - pp jt) (mm ja) i)) pp (takeM pp mm jt ja)) H := WW_mrowP hjt3 _ hP
        have hD : va_D (va_A (WW t ad pp pp mm pp mm) s.heap.size) (WW t (adM ad jt z409) pp (va_up pp jt (pp jt)) (va_up mm jt (fun i => mm jt i ||| dn (pp ja) (pp ja - pp jt) (mm ja) i)) pp (takeM pp mm jt ja)) := WW_mrowD hjt3 _ hD
        have hP : va_P D vwCl ((WW t (adM ad jt z409) pp pp (takeM pp mm jt ja) pp (takeM pp mm jt ja))) H := by rw [up_same, ← etk] at hP; exact hP
        have hD : va_D (va_A (WW t ad pp pp mm pp mm) s.heap.size) ((WW t (adM ad jt z409) pp pp (takeM pp mm jt ja) pp (takeM pp mm jt ja))) := by rw [up_same, ← etk] at hD; exact hD
        have e00 : (adM ad jt z409) 0 = ad 0 := adM_lo (by decide)
        have hok : ∀ i, Ok ((takeM pp mm jt ja) i) := by rw [etk]; exact up_ok hm (or_ok (hm jt) (dn_ok (hm ja) (by omega) (by omega)))
        refine lv_iconst (v := (nI 1)) hx hb dX0_act_413 (by decide) ?_
        refine W.widen (k := 4) (n := 193) (by omega) (by omega) ?_
        exact W.zret (v := (nI 1)) hx hb hr (rfl) (fun t ht hW => ⟨⟨(nI 1), ((adM ad jt z409), pp, (takeM pp mm jt ja)), rfl, ⟨rfl, hq, hok, e00⟩, by rw [ht]; exact hP, hD⟩, hS.F ht⟩) hS.2.2 dX0_act_414
  · refine lv_tableIn (tgt := 415) (off := 387) hx hb dX0_act_28 (by subst hs; decide) (by subst hs; decide) (by subst hs; rfl) (by decide) ?_
    have hr0 : ∃ r, ((3 + uI xb % 2 ^ 3) < pp ja ∧ r = (3 + uI xb % 2 ^ 3)) ∨ (pp ja ≤ (3 + uI xb % 2 ^ 3) ∧ r = pp ja) := by
      rcases Nat.lt_or_ge (3 + uI xb % 2 ^ 3) (pp ja) with h | h
      · exact ⟨_, Or.inl ⟨h, rfl⟩⟩
      · exact ⟨_, Or.inr ⟨h, rfl⟩⟩
    obtain ⟨r, hr1⟩ := hr0
    have ha3 := hq ja
    have hm8 : uI xb % 2 ^ 3 < 2 ^ 3 := Nat.mod_lt _ (by decide)
    have er : r + (pp ja - r) = pp ja := by omega
    refine lv_iconst (v := (nI 3)) hx hb dX0_act_415 (by decide) ?_
    refine lv_iload hx hb dX0_act_416 (lv_at hl 7 rfl) ?_
    refine lv_bipush (v := (nI 7)) hx hb dX0_act_418 (by decide) ?_
    refine lv_iand hx hb dX0_act_420 ?_
    refine lv_topi (fun v420 e420 => ?_)
    obtain rfl : v420 = (nI (uI xb % 2 ^ 3)) := by rw [e420]; exact pk_and xb 3 (by decide)
    refine lv_iadd hx hb dX0_act_421 ?_
    refine lv_topi (fun v421 e421 => ?_)
    obtain rfl : v421 = (nI (3 + uI xb % 2 ^ 3)) := by rw [e421]; exact nI_add _ _
    refine lv_aload_n hx hb dX0_act_422 rfl (lv_at hl 3 rfl) ?_
    refine va_get (D := D) (ci := 0) (v := .ref (ad 1)) (C := RX0) (T := TX0) (N := 3) hx hb hts in_X0 hown hK.1 hP 0 (rfl) rfl 1 (by decide) (hts _ q126) (fun _ h9 => h9) rfl dX0_act_423 ?_
    refine lv_iload hx hb dX0_act_426 (lv_at hl 1 rfl) ?_
    refine xr_iald hx hb hK.1 hP 1 0 (rfl) rfl (hja3) (by omega) (v := (nI (pp ja))) (rfl) dX0_act_428 ?_
    refine lv_icmp_ge (tgt := 442) hx hb dX0_act_429 (by decide) (fun c429 => ?_) (fun c429 => ?_)
    · have hge : pp ja ≤ (3 + uI xb % 2 ^ 3) := (nI_leI (by omega) (by omega)).mp c429
      refine lv_aload_n hx hb dX0_act_442 rfl (lv_at hl 3 rfl) ?_
      refine va_get (D := D) (ci := 0) (v := .ref (ad 1)) (C := RX0) (T := TX0) (N := 3) hx hb hts in_X0 hown hK.1 hP 0 (rfl) rfl 1 (by decide) (hts _ q126) (fun _ h9 => h9) rfl dX0_act_443 ?_
      refine lv_iload hx hb dX0_act_446 (lv_at hl 1 rfl) ?_
      refine xr_iald hx hb hK.1 hP 1 0 (rfl) rfl (hja3) (by omega) (v := (nI (pp ja))) (rfl) dX0_act_448 ?_
      refine lv_topi (fun v949 e949 => ?_)
      obtain rfl : v949 = (nI r) := by rw [e949, show pp ja = r by omega]
      refine lv_istore (lv' := [(10, .int (nI r)), (9, .int (nI jb)), (8, .int (nI ja)), (7, .int (nI jt)), (0, .ref (ad 0)), (1, .int xc), (2, .int xt), (3, .int xa), (4, .int xb), (5, .int xh), (6, .int xl)]) hx hb dX0_act_449 hl (by decide) rfl (fun ls hl => ?_)
      refine lv_aload_n hx hb dX0_act_451 rfl (lv_at hl 4 rfl) ?_
      refine va_get (D := D) (ci := 0) (v := .ref (ad 2)) (C := RX0) (T := TX0) (N := 3) hx hb hts in_X0 hown hK.1 hP 0 (rfl) rfl 2 (by decide) (hts _ q127) (fun _ h9 => h9) rfl dX0_act_452 ?_
      refine lv_iload hx hb dX0_act_455 (lv_at hl 2 rfl) ?_
      refine xr_aald hx hb hK.1 hP 2 4 rfl (rfl) rfl (hja3) (by omega) (v := (ad (3 + ja))) (ref3_m hja3) dX0_act_457 ?_
      refine lv_aload_n hx hb dX0_act_458 rfl (lv_at hl 4 rfl) ?_
      refine va_get (D := D) (ci := 0) (v := .ref (ad 1)) (C := RX0) (T := TX0) (N := 3) hx hb hts in_X0 hown hK.1 hP 0 (rfl) rfl 1 (by decide) (hts _ q126) (fun _ h9 => h9) rfl dX0_act_459 ?_
      refine lv_iload hx hb dX0_act_462 (lv_at hl 2 rfl) ?_
      refine xr_iald hx hb hK.1 hP 1 0 (rfl) rfl (hja3) (by omega) (v := (nI (pp ja))) (rfl) dX0_act_464 ?_
      refine lv_iload hx hb dX0_act_465 (lv_at hl 0 rfl) ?_
      have hs1 := met_smaller l D t (WW t ad pp pp mm pp mm) s.heap.size (3 + ja) (ad (3 + ja)) r (pp ja - r) (mm ja) (by omega) (by omega) (hm ja) (by rw [er]; exact WW_m hja3)
      rw [er] at hs1
      refine cw_r (va_runS (As := [.ref (ad (3 + ja)), .int (nI (pp ja)), .int (nI r)]) (rest := []) ⟨hx, hb, hml, hown, hts⟩ hs1 (va_cwS 3 hts (lw_S q249 q250 q6 q251) rfl rfl rfl (by decide +kernel) ⟨Nat.le_of_ble_eq_true rfl, Nat.le_of_ble_eq_true rfl⟩) (preS_w hK hP hD) rfl rfl hl.1 rfl (lv_room (Nat.le_of_ble_eq_true rfl)) dX0_act_467 ⟨Nat.le_of_ble_eq_true rfl, Nat.le_of_ble_eq_true rfl⟩) hD hS hA (fun u467 z467 H locs hp467 hP hD hS => ?_)
      refine W.widen (k := 1) (n := 64) (by omega) (by omega) ?_
      have hP : va_P D vwCl (((WW t ad pp pp mm pp mm) ++ [(z467, cL t r (dn (pp ja) (pp ja - r) (mm ja)))])) H := hP
      have hD : va_D (va_A (WW t ad pp pp mm pp mm) s.heap.size) (((WW t ad pp pp mm pp mm) ++ [(z467, cL t r (dn (pp ja) (pp ja - r) (mm ja)))])) := hD
      refine lv_astore (lv' := [(11, .ref z467), (10, .int (nI r)), (9, .int (nI jb)), (8, .int (nI ja)), (7, .int (nI jt)), (0, .ref (ad 0)), (1, .int xc), (2, .int xt), (3, .int xa), (4, .int xb), (5, .int xh), (6, .int xl)]) hx hb dX0_act_470 hl (by decide) rfl (fun ls hl => ?_)
      refine lv_aload_n hx hb dX0_act_472 rfl (lv_at hl 5 rfl) ?_
      refine va_get (D := D) (ci := 0) (v := .ref (ad 6)) (C := RX0) (T := TX0) (N := 3) hx hb hts in_X0 hown hK.1 hP 0 ((ws_app (ws := (WW t ad pp pp mm pp mm)) rfl)) rfl 0 (by decide) (hts _ q125) (fun _ h9 => h9) rfl dX0_act_473 ?_
      refine lv_iload_n hx hb dX0_act_476 rfl (lv_at hl 7 rfl) ?_
      refine lv_iload_n hx hb dX0_act_477 rfl (lv_at hl 8 rfl) ?_
      refine lv_iload hx hb dX0_act_478 (lv_at hl 9 rfl) ?_
      have hPc : va_P D vwCl (WW t ad pp pp mm pp mm) H := hP.sub [0, 1, 2, 3, 4, 5, 6, 7, 8, 9, 10, 11, 12, 13] rfl
      have hDc : va_D (va_A (WW t ad pp pp mm pp mm) s.heap.size) (WW t ad pp pp mm pp mm) := hD.sub [0, 1, 2, 3, 4, 5, 6, 7, 8, 9, 10, 11, 12, 13] (by decide) rfl
      refine cj_i (wr := [(z467, cL t r (dn (pp ja) (pp ja - r) (mm ja)))]) (va_runV (As := [.int xt, .int xa, .int xb]) (rest := []) ⟨hx, hb, hml, hown, hts⟩ (met_dsmaller l D t ad pp pp mm pp mm H.size hq hm xt jt hjt hjt3 xa ja hja hja3 xb r hr1) (cwV 3 hts (lw_V q301 q302 q303 q7 q304) rfl rfl rfl (by decide +kernel) ⟨Nat.le_of_ble_eq_true rfl, Nat.le_of_ble_eq_true rfl⟩) (preV_w 6 1 hK hPc hDc rfl rfl) rfl rfl hl.1 rfl (lv_room (Nat.le_of_ble_eq_true rfl)) dX0_act_480 ⟨Nat.le_of_ble_eq_true rfl, Nat.le_of_ble_eq_true rfl⟩) hP hD hS hA [0, 1, 2, 3, 4, 5, 6, 7, 8, 9, 10, 11, 12, 13] [14] rfl rfl (by decide) (by decide) (fun r480 u480 H locs hp480 hP hD hS => ?_)
      refine W.widen (k := 3) (n := 129) (by omega) (by omega) ?_
      subst hp480
      have hP : va_P D vwCl ((WW t (adR ad jt u480.1 u480.2) pp pp mm (va_up pp jt r) (va_up mm jt (dn (pp ja) (pp ja - r) (mm ja)))) ++ [(z467, cL t r (dn (pp ja) (pp ja - r) (mm ja)))]) H := hP.sub [1, 2, 3, 4, 5, 6, 7, 8, 9, 10, 11, 12, 13, 14, 0] rfl
      have hD : va_D (va_A (WW t ad pp pp mm pp mm) s.heap.size) ((WW t (adR ad jt u480.1 u480.2) pp pp mm (va_up pp jt r) (va_up mm jt (dn (pp ja) (pp ja - r) (mm ja)))) ++ [(z467, cL t r (dn (pp ja) (pp ja - r) (mm ja)))]) := hD.sub [1, 2, 3, 4, 5, 6, 7, 8, 9, 10, 11, 12, 13, 14, 0] (by decide) rfl
      refine lv_iload hx hb dX0_act_483 (lv_at hl 1 rfl) ?_
      refine lv_icmp_eq (tgt := 490) hx hb dX0_act_485 (by decide) (fun c485 => ?_) (fun c485 => absurd (rfl) c485)
      refine lv_aload_n hx hb dX0_act_490 rfl (lv_at hl 5 rfl) ?_
      refine va_get (D := D) (ci := 0) (v := .ref (ad 1)) (C := RX0) (T := TX0) (N := 3) hx hb hts in_X0 hown hK.1 hP 0 ((ws_app (ws := (WW t (adR ad jt u480.1 u480.2) pp pp mm (va_up pp jt r) (va_up mm jt (dn (pp ja) (pp ja - r) (mm ja))))) WR_0)) rfl 1 (by decide) (hts _ q126) (fun _ h9 => h9) rfl dX0_act_491 ?_
      refine lv_iload hx hb dX0_act_494 (lv_at hl 4 rfl) ?_
      refine lv_iload hx hb dX0_act_496 (lv_at hl 1 rfl) ?_
      refine xr_iast hx hb hK.1 hP hD hS 1 0 (fun j => nI ((va_up pp jt r) j)) ((ws_app (ws := (WW t (adR ad jt u480.1 u480.2) pp pp mm (va_up pp jt r) (va_up mm jt (dn (pp ja) (pp ja - r) (mm ja))))) WR_1)) rfl (hjt3) (by decide) (fun i hi => by
          unfold va_up
          by_cases hii : i = jt
          · rw [if_pos hii, if_pos hii]
          · rw [if_neg hii, if_neg hii]) dX0_act_498 (fun H locs hP hD hS => ?_)
      have e11 : (adR ad jt u480.1 u480.2) 1 = ad 1 := adR_lo (by decide)
      rw [← e11] at hP hD
      have hP : va_P D vwCl (((WW t (adR ad jt u480.1 u480.2) (va_up pp jt r) pp mm (va_up pp jt r) (va_up mm jt (dn (pp ja) (pp ja - r) (mm ja)))) ++ [(z467, cL t r (dn (pp ja) (pp ja - r) (mm ja)))])) H := hP
      have hD : va_D (va_A (WW t ad pp pp mm pp mm) s.heap.size) (((WW t (adR ad jt u480.1 u480.2) (va_up pp jt r) pp mm (va_up pp jt r) (va_up mm jt (dn (pp ja) (pp ja - r) (mm ja)))) ++ [(z467, cL t r (dn (pp ja) (pp ja - r) (mm ja)))])) := hD
      refine lv_aload_n hx hb dX0_act_499 rfl (lv_at hl 5 rfl) ?_
      refine va_get (D := D) (ci := 0) (v := .ref (ad 2)) (C := RX0) (T := TX0) (N := 3) hx hb hts in_X0 hown hK.1 hP 0 ((ws_app (ws := (WW t (adR ad jt u480.1 u480.2) (va_up pp jt r) pp mm (va_up pp jt r) (va_up mm jt (dn (pp ja) (pp ja - r) (mm ja))))) WR_0)) rfl 2 (by decide) (hts _ q127) (fun _ h9 => h9) rfl dX0_act_500 ?_
      refine lv_iload hx hb dX0_act_503 (lv_at hl 4 rfl) ?_
      refine lv_aload hx hb dX0_act_505 (lv_at hl 0 rfl) ?_
      have e22 : (adR ad jt u480.1 u480.2) 2 = ad 2 := adR_lo (by decide)
      refine xr_aastA hx hb hK.2.2.1 hK.1 hP hD hS 2 4 (14) 1 ((ref3 ((adM (adR ad jt u480.1 u480.2) jt z467) 3) ((adM (adR ad jt u480.1 u480.2) jt z467) 4) ((adM (adR ad jt u480.1 u480.2) jt z467) 5))) ((ws_app (ws := (WW t (adR ad jt u480.1 u480.2) (va_up pp jt r) pp mm (va_up pp jt r) (va_up mm jt (dn (pp ja) (pp ja - r) (mm ja))))) WR_2)) rfl (rfl) rfl (hjt3) (by decide) (adM_hg hjt3) dX0_act_507 (fun H locs hP hD hS => ?_)
      rw [← e22] at hP hD
      have hP : va_P D vwCl (WW t (adM (adR ad jt u480.1 u480.2) jt z467) (va_up pp jt r) (va_up pp jt r) (va_up mm jt (dn (pp ja) (pp ja - r) (mm ja))) (va_up pp jt r) (va_up mm jt (dn (pp ja) (pp ja - r) (mm ja)))) H := WW_mrowP hjt3 _ hP
      have hD : va_D (va_A (WW t ad pp pp mm pp mm) s.heap.size) (WW t (adM (adR ad jt u480.1 u480.2) jt z467) (va_up pp jt r) (va_up pp jt r) (va_up mm jt (dn (pp ja) (pp ja - r) (mm ja))) (va_up pp jt r) (va_up mm jt (dn (pp ja) (pp ja - r) (mm ja)))) := WW_mrowD hjt3 _ hD
      have e00 : (adM (adR ad jt u480.1 u480.2) jt z467) 0 = ad 0 := (adM_lo (by decide)).trans (adR_lo (by decide))
      refine lv_iconst (v := (nI 1)) hx hb dX0_act_508 (by decide) ?_
      refine W.widen (k := 4) (n := 193) (by omega) (by omega) ?_
      exact W.zret (v := (nI 1)) hx hb hr (rfl) (fun t ht hW => ⟨⟨(nI 1), ((adM (adR ad jt u480.1 u480.2) jt z467), (va_up pp jt r), (va_up mm jt (dn (pp ja) (pp ja - r) (mm ja)))), rfl, ⟨rfl, (up_p hq (by omega)), (up_ok hm (dn_ok (hm ja) (by omega) (by omega))), e00⟩, by rw [ht]; exact hP, hD⟩, hS.F ht⟩) hS.2.2 dX0_act_509
    · have hge : (3 + uI xb % 2 ^ 3) < pp ja := by rcases Nat.lt_or_ge (3 + uI xb % 2 ^ 3) (pp ja) with h | h; exact h; exact absurd (nI_le h (by omega)) c429
      refine lv_iconst (v := (nI 3)) hx hb dX0_act_432 (by decide) ?_
      refine lv_iload hx hb dX0_act_433 (lv_at hl 7 rfl) ?_
      refine lv_bipush (v := (nI 7)) hx hb dX0_act_435 (by decide) ?_
      refine lv_iand hx hb dX0_act_437 ?_
      refine lv_topi (fun v437 e437 => ?_)
      obtain rfl : v437 = (nI (uI xb % 2 ^ 3)) := by rw [e437]; exact pk_and xb 3 (by decide)
      refine lv_iadd hx hb dX0_act_438 ?_
      refine lv_topi (fun v438 e438 => ?_)
      obtain rfl : v438 = (nI (3 + uI xb % 2 ^ 3)) := by rw [e438]; exact nI_add _ _
      refine lv_goto (tgt := 449) hx hb dX0_act_439 (by decide) ?_
      refine lv_topi (fun v949 e949 => ?_)
      obtain rfl : v949 = (nI r) := by rw [e949, show (3 + uI xb % 2 ^ 3) = r by omega]
      refine lv_istore (lv' := [(10, .int (nI r)), (9, .int (nI jb)), (8, .int (nI ja)), (7, .int (nI jt)), (0, .ref (ad 0)), (1, .int xc), (2, .int xt), (3, .int xa), (4, .int xb), (5, .int xh), (6, .int xl)]) hx hb dX0_act_449 hl (by decide) rfl (fun ls hl => ?_)
      refine lv_aload_n hx hb dX0_act_451 rfl (lv_at hl 4 rfl) ?_
      refine va_get (D := D) (ci := 0) (v := .ref (ad 2)) (C := RX0) (T := TX0) (N := 3) hx hb hts in_X0 hown hK.1 hP 0 (rfl) rfl 2 (by decide) (hts _ q127) (fun _ h9 => h9) rfl dX0_act_452 ?_
      refine lv_iload hx hb dX0_act_455 (lv_at hl 2 rfl) ?_
      refine xr_aald hx hb hK.1 hP 2 4 rfl (rfl) rfl (hja3) (by omega) (v := (ad (3 + ja))) (ref3_m hja3) dX0_act_457 ?_
      refine lv_aload_n hx hb dX0_act_458 rfl (lv_at hl 4 rfl) ?_
      refine va_get (D := D) (ci := 0) (v := .ref (ad 1)) (C := RX0) (T := TX0) (N := 3) hx hb hts in_X0 hown hK.1 hP 0 (rfl) rfl 1 (by decide) (hts _ q126) (fun _ h9 => h9) rfl dX0_act_459 ?_
      refine lv_iload hx hb dX0_act_462 (lv_at hl 2 rfl) ?_
      refine xr_iald hx hb hK.1 hP 1 0 (rfl) rfl (hja3) (by omega) (v := (nI (pp ja))) (rfl) dX0_act_464 ?_
      refine lv_iload hx hb dX0_act_465 (lv_at hl 0 rfl) ?_
      have hs1 := met_smaller l D t (WW t ad pp pp mm pp mm) s.heap.size (3 + ja) (ad (3 + ja)) r (pp ja - r) (mm ja) (by omega) (by omega) (hm ja) (by rw [er]; exact WW_m hja3)
      rw [er] at hs1
      refine cw_r (va_runS (As := [.ref (ad (3 + ja)), .int (nI (pp ja)), .int (nI r)]) (rest := []) ⟨hx, hb, hml, hown, hts⟩ hs1 (va_cwS 3 hts (lw_S q249 q250 q6 q251) rfl rfl rfl (by decide +kernel) ⟨Nat.le_of_ble_eq_true rfl, Nat.le_of_ble_eq_true rfl⟩) (preS_w hK hP hD) rfl rfl hl.1 rfl (lv_room (Nat.le_of_ble_eq_true rfl)) dX0_act_467 ⟨Nat.le_of_ble_eq_true rfl, Nat.le_of_ble_eq_true rfl⟩) hD hS hA (fun u467 z467 H locs hp467 hP hD hS => ?_)
      refine W.widen (k := 1) (n := 64) (by omega) (by omega) ?_
      have hP : va_P D vwCl (((WW t ad pp pp mm pp mm) ++ [(z467, cL t r (dn (pp ja) (pp ja - r) (mm ja)))])) H := hP
      have hD : va_D (va_A (WW t ad pp pp mm pp mm) s.heap.size) (((WW t ad pp pp mm pp mm) ++ [(z467, cL t r (dn (pp ja) (pp ja - r) (mm ja)))])) := hD
      refine lv_astore (lv' := [(11, .ref z467), (10, .int (nI r)), (9, .int (nI jb)), (8, .int (nI ja)), (7, .int (nI jt)), (0, .ref (ad 0)), (1, .int xc), (2, .int xt), (3, .int xa), (4, .int xb), (5, .int xh), (6, .int xl)]) hx hb dX0_act_470 hl (by decide) rfl (fun ls hl => ?_)
      refine lv_aload_n hx hb dX0_act_472 rfl (lv_at hl 5 rfl) ?_
      refine va_get (D := D) (ci := 0) (v := .ref (ad 6)) (C := RX0) (T := TX0) (N := 3) hx hb hts in_X0 hown hK.1 hP 0 ((ws_app (ws := (WW t ad pp pp mm pp mm)) rfl)) rfl 0 (by decide) (hts _ q125) (fun _ h9 => h9) rfl dX0_act_473 ?_
      refine lv_iload_n hx hb dX0_act_476 rfl (lv_at hl 7 rfl) ?_
      refine lv_iload_n hx hb dX0_act_477 rfl (lv_at hl 8 rfl) ?_
      refine lv_iload hx hb dX0_act_478 (lv_at hl 9 rfl) ?_
      have hPc : va_P D vwCl (WW t ad pp pp mm pp mm) H := hP.sub [0, 1, 2, 3, 4, 5, 6, 7, 8, 9, 10, 11, 12, 13] rfl
      have hDc : va_D (va_A (WW t ad pp pp mm pp mm) s.heap.size) (WW t ad pp pp mm pp mm) := hD.sub [0, 1, 2, 3, 4, 5, 6, 7, 8, 9, 10, 11, 12, 13] (by decide) rfl
      refine cj_i (wr := [(z467, cL t r (dn (pp ja) (pp ja - r) (mm ja)))]) (va_runV (As := [.int xt, .int xa, .int xb]) (rest := []) ⟨hx, hb, hml, hown, hts⟩ (met_dsmaller l D t ad pp pp mm pp mm H.size hq hm xt jt hjt hjt3 xa ja hja hja3 xb r hr1) (cwV 3 hts (lw_V q301 q302 q303 q7 q304) rfl rfl rfl (by decide +kernel) ⟨Nat.le_of_ble_eq_true rfl, Nat.le_of_ble_eq_true rfl⟩) (preV_w 6 1 hK hPc hDc rfl rfl) rfl rfl hl.1 rfl (lv_room (Nat.le_of_ble_eq_true rfl)) dX0_act_480 ⟨Nat.le_of_ble_eq_true rfl, Nat.le_of_ble_eq_true rfl⟩) hP hD hS hA [0, 1, 2, 3, 4, 5, 6, 7, 8, 9, 10, 11, 12, 13] [14] rfl rfl (by decide) (by decide) (fun r480 u480 H locs hp480 hP hD hS => ?_)
      refine W.widen (k := 3) (n := 129) (by omega) (by omega) ?_
      subst hp480
      have hP : va_P D vwCl ((WW t (adR ad jt u480.1 u480.2) pp pp mm (va_up pp jt r) (va_up mm jt (dn (pp ja) (pp ja - r) (mm ja)))) ++ [(z467, cL t r (dn (pp ja) (pp ja - r) (mm ja)))]) H := hP.sub [1, 2, 3, 4, 5, 6, 7, 8, 9, 10, 11, 12, 13, 14, 0] rfl
      have hD : va_D (va_A (WW t ad pp pp mm pp mm) s.heap.size) ((WW t (adR ad jt u480.1 u480.2) pp pp mm (va_up pp jt r) (va_up mm jt (dn (pp ja) (pp ja - r) (mm ja)))) ++ [(z467, cL t r (dn (pp ja) (pp ja - r) (mm ja)))]) := hD.sub [1, 2, 3, 4, 5, 6, 7, 8, 9, 10, 11, 12, 13, 14, 0] (by decide) rfl
      refine lv_iload hx hb dX0_act_483 (lv_at hl 1 rfl) ?_
      refine lv_icmp_eq (tgt := 490) hx hb dX0_act_485 (by decide) (fun c485 => ?_) (fun c485 => absurd (rfl) c485)
      refine lv_aload_n hx hb dX0_act_490 rfl (lv_at hl 5 rfl) ?_
      refine va_get (D := D) (ci := 0) (v := .ref (ad 1)) (C := RX0) (T := TX0) (N := 3) hx hb hts in_X0 hown hK.1 hP 0 ((ws_app (ws := (WW t (adR ad jt u480.1 u480.2) pp pp mm (va_up pp jt r) (va_up mm jt (dn (pp ja) (pp ja - r) (mm ja))))) WR_0)) rfl 1 (by decide) (hts _ q126) (fun _ h9 => h9) rfl dX0_act_491 ?_
      refine lv_iload hx hb dX0_act_494 (lv_at hl 4 rfl) ?_
      refine lv_iload hx hb dX0_act_496 (lv_at hl 1 rfl) ?_
      refine xr_iast hx hb hK.1 hP hD hS 1 0 (fun j => nI ((va_up pp jt r) j)) ((ws_app (ws := (WW t (adR ad jt u480.1 u480.2) pp pp mm (va_up pp jt r) (va_up mm jt (dn (pp ja) (pp ja - r) (mm ja))))) WR_1)) rfl (hjt3) (by decide) (fun i hi => by
          unfold va_up
          by_cases hii : i = jt
          · rw [if_pos hii, if_pos hii]
          · rw [if_neg hii, if_neg hii]) dX0_act_498 (fun H locs hP hD hS => ?_)
      have e11 : (adR ad jt u480.1 u480.2) 1 = ad 1 := adR_lo (by decide)
      rw [← e11] at hP hD
      have hP : va_P D vwCl (((WW t (adR ad jt u480.1 u480.2) (va_up pp jt r) pp mm (va_up pp jt r) (va_up mm jt (dn (pp ja) (pp ja - r) (mm ja)))) ++ [(z467, cL t r (dn (pp ja) (pp ja - r) (mm ja)))])) H := hP
      have hD : va_D (va_A (WW t ad pp pp mm pp mm) s.heap.size) (((WW t (adR ad jt u480.1 u480.2) (va_up pp jt r) pp mm (va_up pp jt r) (va_up mm jt (dn (pp ja) (pp ja - r) (mm ja)))) ++ [(z467, cL t r (dn (pp ja) (pp ja - r) (mm ja)))])) := hD
      refine lv_aload_n hx hb dX0_act_499 rfl (lv_at hl 5 rfl) ?_
      refine va_get (D := D) (ci := 0) (v := .ref (ad 2)) (C := RX0) (T := TX0) (N := 3) hx hb hts in_X0 hown hK.1 hP 0 ((ws_app (ws := (WW t (adR ad jt u480.1 u480.2) (va_up pp jt r) pp mm (va_up pp jt r) (va_up mm jt (dn (pp ja) (pp ja - r) (mm ja))))) WR_0)) rfl 2 (by decide) (hts _ q127) (fun _ h9 => h9) rfl dX0_act_500 ?_
      refine lv_iload hx hb dX0_act_503 (lv_at hl 4 rfl) ?_
      refine lv_aload hx hb dX0_act_505 (lv_at hl 0 rfl) ?_
      have e22 : (adR ad jt u480.1 u480.2) 2 = ad 2 := adR_lo (by decide)
      refine xr_aastA hx hb hK.2.2.1 hK.1 hP hD hS 2 4 (14) 1 ((ref3 ((adM (adR ad jt u480.1 u480.2) jt z467) 3) ((adM (adR ad jt u480.1 u480.2) jt z467) 4) ((adM (adR ad jt u480.1 u480.2) jt z467) 5))) ((ws_app (ws := (WW t (adR ad jt u480.1 u480.2) (va_up pp jt r) pp mm (va_up pp jt r) (va_up mm jt (dn (pp ja) (pp ja - r) (mm ja))))) WR_2)) rfl (rfl) rfl (hjt3) (by decide) (adM_hg hjt3) dX0_act_507 (fun H locs hP hD hS => ?_)
      rw [← e22] at hP hD
      have hP : va_P D vwCl (WW t (adM (adR ad jt u480.1 u480.2) jt z467) (va_up pp jt r) (va_up pp jt r) (va_up mm jt (dn (pp ja) (pp ja - r) (mm ja))) (va_up pp jt r) (va_up mm jt (dn (pp ja) (pp ja - r) (mm ja)))) H := WW_mrowP hjt3 _ hP
      have hD : va_D (va_A (WW t ad pp pp mm pp mm) s.heap.size) (WW t (adM (adR ad jt u480.1 u480.2) jt z467) (va_up pp jt r) (va_up pp jt r) (va_up mm jt (dn (pp ja) (pp ja - r) (mm ja))) (va_up pp jt r) (va_up mm jt (dn (pp ja) (pp ja - r) (mm ja)))) := WW_mrowD hjt3 _ hD
      have e00 : (adM (adR ad jt u480.1 u480.2) jt z467) 0 = ad 0 := (adM_lo (by decide)).trans (adR_lo (by decide))
      refine lv_iconst (v := (nI 1)) hx hb dX0_act_508 (by decide) ?_
      refine W.widen (k := 4) (n := 193) (by omega) (by omega) ?_
      exact W.zret (v := (nI 1)) hx hb hr (rfl) (fun t ht hW => ⟨⟨(nI 1), ((adM (adR ad jt u480.1 u480.2) jt z467), (va_up pp jt r), (va_up mm jt (dn (pp ja) (pp ja - r) (mm ja)))), rfl, ⟨rfl, (up_p hq (by omega)), (up_ok hm (dn_ok (hm ja) (by omega) (by omega))), e00⟩, by rw [ht]; exact hP, hD⟩, hS.F ht⟩) hS.2.2 dX0_act_509
  · refine lv_tableIn (tgt := 510) (off := 482) hx hb dX0_act_28 (by subst hs; decide) (by subst hs; decide) (by subst hs; rfl) (by decide) ?_
    refine lv_aload_n hx hb dX0_act_510 rfl (lv_at hl 3 rfl) ?_
    refine va_get (D := D) (ci := 0) (v := .ref (ad 6)) (C := RX0) (T := TX0) (N := 3) hx hb hts in_X0 hown hK.1 hP 0 (rfl) rfl 0 (by decide) (hts _ q125) (fun _ h9 => h9) rfl dX0_act_511 ?_
    refine lv_iload_n hx hb dX0_act_514 rfl (lv_at hl 5 rfl) ?_
    refine lv_iload_n hx hb dX0_act_515 rfl (lv_at hl 6 rfl) ?_
    refine cw_v (va_runV (As := [.int xt, .int xa]) (rest := []) ⟨hx, hb, hml, hown, hts⟩ (met_danew l D t ad pp pp mm pp mm s.heap.size hq hm xt jt hjt hjt3 xa) (cwV 2 hts (lw_V q183 q184 q185 q7 q186) rfl rfl rfl (by decide +kernel) ⟨Nat.le_of_ble_eq_true rfl, Nat.le_of_ble_eq_true rfl⟩) (preV_w 6 1 hK hP hD rfl rfl) rfl rfl hl.1 rfl (lv_room (Nat.le_of_ble_eq_true rfl)) dX0_act_516 ⟨Nat.le_of_ble_eq_true rfl, Nat.le_of_ble_eq_true rfl⟩) hD hS hA (fun u516 H locs hp516 hP hD hS => ?_)
    refine W.widen (k := 2) (n := 65) (by omega) (by omega) ?_
    have hm4 : uI xa % 2 ^ 2 < 2 ^ 2 := Nat.mod_lt _ (by decide)
    have h64 := p64 (show (3 + uI xa % 2 ^ 2) ≤ 6 by omega)
    have hP : va_P D vwCl ((WW t (adR ad jt u516.1 u516.2) pp pp mm (va_up pp jt (3 + uI xa % 2 ^ 2)) (va_up mm jt (fun _ => 0)))) H := hP
    have hD : va_D (va_A (WW t ad pp pp mm pp mm) s.heap.size) ((WW t (adR ad jt u516.1 u516.2) pp pp mm (va_up pp jt (3 + uI xa % 2 ^ 2)) (va_up mm jt (fun _ => 0)))) := hD
    refine lv_aload_n hx hb dX0_act_519 rfl (lv_at hl 3 rfl) ?_
    refine va_get (D := D) (ci := 0) (v := .ref (ad 1)) (C := RX0) (T := TX0) (N := 3) hx hb hts in_X0 hown hK.1 hP 0 (WR_0) rfl 1 (by decide) (hts _ q126) (fun _ h9 => h9) rfl dX0_act_520 ?_
    refine lv_iload hx hb dX0_act_523 (lv_at hl 2 rfl) ?_
    refine lv_iconst (v := (nI 3)) hx hb dX0_act_525 (by decide) ?_
    refine lv_iload_n hx hb dX0_act_526 rfl (lv_at hl 6 rfl) ?_
    refine lv_iconst (v := (nI 3)) hx hb dX0_act_527 (by decide) ?_
    refine lv_iand hx hb dX0_act_528 ?_
    refine lv_topi (fun v528 e528 => ?_)
    obtain rfl : v528 = (nI (uI xa % 2 ^ 2)) := by rw [e528]; exact pk_and xa 2 (by decide)
    refine lv_iadd hx hb dX0_act_529 ?_
    refine lv_topi (fun v529 e529 => ?_)
    obtain rfl : v529 = (nI (3 + uI xa % 2 ^ 2)) := by rw [e529]; exact nI_add _ _
    refine xr_iast hx hb hK.1 hP hD hS 1 0 (fun j => nI ((va_up pp jt (3 + uI xa % 2 ^ 2)) j)) (WR_1) rfl (hjt3) (by decide) (fun i hi => by
        unfold va_up
        by_cases hii : i = jt
        · rw [if_pos hii, if_pos hii]
        · rw [if_neg hii, if_neg hii]) dX0_act_530 (fun H locs hP hD hS => ?_)
    have e11 : (adR ad jt u516.1 u516.2) 1 = ad 1 := adR_lo (by decide)
    rw [← e11] at hP hD
    have hP : va_P D vwCl ((WW t (adR ad jt u516.1 u516.2) (va_up pp jt (3 + uI xa % 2 ^ 2)) pp mm (va_up pp jt (3 + uI xa % 2 ^ 2)) (va_up mm jt (fun _ => 0)))) H := hP
    have hD : va_D (va_A (WW t ad pp pp mm pp mm) s.heap.size) ((WW t (adR ad jt u516.1 u516.2) (va_up pp jt (3 + uI xa % 2 ^ 2)) pp mm (va_up pp jt (3 + uI xa % 2 ^ 2)) (va_up mm jt (fun _ => 0)))) := hD
    refine lv_aload_n hx hb dX0_act_531 rfl (lv_at hl 3 rfl) ?_
    refine va_get (D := D) (ci := 0) (v := .ref (ad 2)) (C := RX0) (T := TX0) (N := 3) hx hb hts in_X0 hown hK.1 hP 0 (WR_0) rfl 2 (by decide) (hts _ q127) (fun _ h9 => h9) rfl dX0_act_532 ?_
    refine lv_iload hx hb dX0_act_535 (lv_at hl 2 rfl) ?_
    refine lv_iconst (v := (nI 1)) hx hb dX0_act_537 (by decide) ?_
    refine lv_aload_n hx hb dX0_act_538 rfl (lv_at hl 3 rfl) ?_
    refine va_get (D := D) (ci := 0) (v := .ref (ad 1)) (C := RX0) (T := TX0) (N := 3) hx hb hts in_X0 hown hK.1 hP 0 (WR_0) rfl 1 (by decide) (hts _ q126) (fun _ h9 => h9) rfl dX0_act_539 ?_
    refine lv_iload hx hb dX0_act_542 (lv_at hl 2 rfl) ?_
    refine xr_iald hx hb hK.1 hP 1 0 (WR_1) rfl (hjt3) (by omega) (v := (nI (3 + uI xa % 2 ^ 2))) (congrArg nI (va_up_self _ _ _)) dX0_act_544 ?_
    refine lv_ishl hx hb dX0_act_545 ?_
    refine lv_topi (fun v545 e545 => ?_)
    obtain rfl : v545 = (nI (2 ^ (3 + uI xa % 2 ^ 2))) := by rw [e545]; exact (pk_shlN (n := 1) (nI (3 + uI xa % 2 ^ 2) &&& 31) (3 + uI xa % 2 ^ 2) ((by decide +kernel : ∀ k, k < 31 → ((nI k &&& 31).toBitVec.smod 32).toNat = k) (3 + uI xa % 2 ^ 2) (by omega)) (by omega)).trans (congrArg nI (Nat.one_mul _))
    refine xr_newa (atype := .long) hx hb (hts _ q136) (ty := .long) rfl hK.1 hP hD hS hA 1 rfl (N' := 2 ^ (3 + uI xa % 2 ^ 2)) (a0 := (2 ^ (3 + uI xa % 2 ^ 2), .inr (.inl (fun i => lN ((fun _ => 0) i))))) ((fun cA => rfl)) (nI_pos (by omega)) (nI_clamp (by omega)) (by show 2 ^ (3 + uI xa % 2 ^ 2) * 8 ≤ _; omega) (Nat.le_of_ble_eq_true rfl) (Nat.le_trans (show 65 + 2 ^ (3 + uI xa % 2 ^ 2) ≤ 129 by omega) (Nat.le_of_ble_eq_true rfl)) dX0_act_546 (fun z546 H hP hD hS => ?_)
    refine W.widen (k := 3) (n := 129) (by omega) (by omega) ?_
    have hP : va_P D vwCl (((WW t (adR ad jt u516.1 u516.2) (va_up pp jt (3 + uI xa % 2 ^ 2)) pp mm (va_up pp jt (3 + uI xa % 2 ^ 2)) (va_up mm jt (fun _ => 0))) ++ [(z546, cL t (3 + uI xa % 2 ^ 2) (fun _ => 0))])) H := hP
    have hD : va_D (va_A (WW t ad pp pp mm pp mm) s.heap.size) (((WW t (adR ad jt u516.1 u516.2) (va_up pp jt (3 + uI xa % 2 ^ 2)) pp mm (va_up pp jt (3 + uI xa % 2 ^ 2)) (va_up mm jt (fun _ => 0))) ++ [(z546, cL t (3 + uI xa % 2 ^ 2) (fun _ => 0))])) := hD
    have e22 : (adR ad jt u516.1 u516.2) 2 = ad 2 := adR_lo (by decide)
    refine xr_aastA hx hb hK.2.2.1 hK.1 hP hD hS 2 4 (14) 1 ((ref3 ((adM (adR ad jt u516.1 u516.2) jt z546) 3) ((adM (adR ad jt u516.1 u516.2) jt z546) 4) ((adM (adR ad jt u516.1 u516.2) jt z546) 5))) ((ws_app (ws := (WW t (adR ad jt u516.1 u516.2) (va_up pp jt (3 + uI xa % 2 ^ 2)) pp mm (va_up pp jt (3 + uI xa % 2 ^ 2)) (va_up mm jt (fun _ => 0)))) WR_2)) rfl (rfl) rfl (hjt3) (by decide) (adM_hg hjt3) dX0_act_548 (fun H locs hP hD hS => ?_)
    rw [← e22] at hP hD
    have hP : va_P D vwCl (WW t (adM (adR ad jt u516.1 u516.2) jt z546) (va_up pp jt (3 + uI xa % 2 ^ 2)) (va_up pp jt (3 + uI xa % 2 ^ 2)) (va_up mm jt (fun _ => 0)) (va_up pp jt (3 + uI xa % 2 ^ 2)) (va_up mm jt (fun _ => 0))) H := WW_mrowP hjt3 _ hP
    have hD : va_D (va_A (WW t ad pp pp mm pp mm) s.heap.size) (WW t (adM (adR ad jt u516.1 u516.2) jt z546) (va_up pp jt (3 + uI xa % 2 ^ 2)) (va_up pp jt (3 + uI xa % 2 ^ 2)) (va_up mm jt (fun _ => 0)) (va_up pp jt (3 + uI xa % 2 ^ 2)) (va_up mm jt (fun _ => 0))) := WW_mrowD hjt3 _ hD
    have e00 : (adM (adR ad jt u516.1 u516.2) jt z546) 0 = ad 0 := (adM_lo (by decide)).trans (adR_lo (by decide))
    refine lv_iconst (v := (nI 1)) hx hb dX0_act_549 (by decide) ?_
    refine W.widen (k := 4) (n := 193) (by omega) (by omega) ?_
    exact W.zret (v := (nI 1)) hx hb hr (rfl) (fun t ht hW => ⟨⟨(nI 1), ((adM (adR ad jt u516.1 u516.2) jt z546), (va_up pp jt (3 + uI xa % 2 ^ 2)), (va_up mm jt (fun _ => 0))), rfl, ⟨rfl, (up_p hq (by omega)), (up_ok hm (fun _ => okn_0)), e00⟩, by rw [ht]; exact hP, hD⟩, hS.F ht⟩) hS.2.2 dX0_act_550
  · subst hs
    refine lv_tableOut (tgt := 551) hx hb dX0_act_28 (Or.inr (by decide)) (by decide) ?_
    refine lv_aload_n hx hb dX0_act_551 rfl (lv_at hl 3 rfl) ?_
    refine va_get (D := D) (ci := 0) (v := .ref (ad 6)) (C := RX0) (T := TX0) (N := 3) hx hb hts in_X0 hown hK.1 hP 0 (rfl) rfl 0 (by decide) (hts _ q125) (fun _ h9 => h9) rfl dX0_act_552 ?_
    refine lv_iload_n hx hb dX0_act_555 rfl (lv_at hl 5 rfl) ?_
    refine lv_iload hx hb dX0_act_556 (lv_at hl 8 rfl) ?_
    refine lv_iload hx hb dX0_act_558 (lv_at hl 9 rfl) ?_
    refine cw_v (va_runV (As := [.int xt, .int xh, .int xl]) (rest := []) ⟨hx, hb, hml, hown, hts⟩ (met_daddT l D t ad pp pp mm pp mm s.heap.size hq hm xt jt hjt hjt3 xh xl) (cwV 3 hts (lw_V q309 q310 q311 q7 q312) rfl rfl rfl (by decide +kernel) ⟨Nat.le_of_ble_eq_true rfl, Nat.le_of_ble_eq_true rfl⟩) (preV_w 6 1 hK hP hD rfl rfl) rfl rfl hl.1 rfl (lv_room (Nat.le_of_ble_eq_true rfl)) dX0_act_560 ⟨Nat.le_of_ble_eq_true rfl, Nat.le_of_ble_eq_true rfl⟩) hD hS hA (fun u560 H locs hp560 hP hD hS => ?_)
    refine W.widen (k := 0) (n := 0) (by omega) (by omega) ?_
    refine lv_aload_n hx hb dX0_act_563 rfl (lv_at hl 3 rfl) ?_
    refine lv_iload hx hb dX0_act_564 (lv_at hl 2 rfl) ?_
    refine lv_iload hx hb dX0_act_566 (lv_at hl 8 rfl) ?_
    refine lv_iload hx hb dX0_act_568 (lv_at hl 9 rfl) ?_
    refine vp_callSl (W.runS (As := [.int xh, .int xl]) (rest := [.int (nI jt), .ref (ad 0)]) ⟨hx, hb, hml, hown, hts⟩ (met_whole l xh xl) (va_cwS 2 hts (lw_S q223 q224 q6 q225) rfl rfl rfl (by decide +kernel) ⟨Nat.le_of_ble_eq_true rfl, Nat.le_of_ble_eq_true rfl⟩) (preS_p) rfl rfl hl.1 rfl (lv_room (Nat.le_of_ble_eq_true rfl)) dX0_act_570 ⟨Nat.le_of_ble_eq_true rfl, Nat.le_of_ble_eq_true rfl⟩) (fun r570 e570 => ?_)
    obtain rfl : r570 = (lN (hw xh xl)) := e570
    refine cw_v (va_runV (As := [.int (nI jt), .long (lN (hw xh xl))]) (rest := []) ⟨hx, hb, hml, hown, hts⟩ (met_marks l D t ad pp pp mm pp (va_up mm jt (addM (pp jt) (mm jt) (hw xh xl))) H.size hq hm jt (hw xh xl) hjt3 rfl (hw_lt xh xl)) (cwV 2 hts (lw_V q227 q229 qs4 q6 q230) rfl rfl rfl (by decide +kernel) ⟨Nat.le_of_ble_eq_true rfl, Nat.le_of_ble_eq_true rfl⟩) (preV_w 0 0 hK hP hD rfl rfl) rfl rfl hl.1 rfl (lv_room (Nat.le_of_ble_eq_true rfl)) dX0_act_573 ⟨Nat.le_of_ble_eq_true rfl, Nat.le_of_ble_eq_true rfl⟩) hD hS hA (fun u573 H locs hp573 hP hD hS => ?_)
    refine W.widen (k := 0) (n := 0) (by omega) (by omega) ?_
    refine lv_iconst (v := (nI 1)) hx hb dX0_act_576 (by decide) ?_
    refine W.widen (k := 4) (n := 193) (by omega) (by omega) ?_
    exact W.zret (v := (nI 1)) hx hb hr (rfl) (fun t ht hW => ⟨⟨(nI 1), (ad, pp, (va_up mm jt (addM (pp jt) (mm jt) (hw xh xl)))), rfl, ⟨rfl, hq, (up_ok hm (addM_ok (hq jt).1 (Nat.le_trans (hq jt).2 (by decide)) (hm jt))), rfl⟩, by rw [ht]; exact hP, hD⟩, hS.F ht⟩) hS.2.2 dX0_act_577
end
section
set_option maxRecDepth 100000
set_option maxHeartbeats 4000000 in
set_option maxRecDepth 100000 in
/-- holds answers true -/
theorem met_holds (l : Launch) (D : va_G) (t : Nat → ClassId) (ad : Nat → Nat) (sz : Nat) (b1 L : Nat) (xs : Nat → Int32) (hL : L ≤ 96) : Met l yX0_holds (ws_ yX0_holds cX0_holds 5 (some .boolean)) ({ frames := 8, cells := 85, slots := 4054, locals := 199 } : Room) (va_Pc [.ref (ad 0), .ref b1] (fun U => KK D t U ∧ U.heap.size = sz ∧ va_P D vwCl (WW t ad (fun _ => 5) (fun _ => 5) (fun _ _ => 0) (fun _ => 5) (fun _ _ => 0)) U.heap ∧ va_D (fun _ => True) (WW t ad (fun _ => 5) (fun _ => 5) (fun _ _ => 0) (fun _ => 5) (fun _ _ => 0)) ∧ va_X b1 L xs U U.heap ∧ b1 < U.heap.size ∧ ∀ (k : Nat) (q : Nat × va_E), (WW t ad (fun _ => 5) (fun _ => 5) (fun _ _ => 0) (fun _ => 5) (fun _ _ => 0))[k]? = some q → q.1 ≠ b1)) (va_Qi (fun (r : Int32) (_ : Unit) => r = nI 1) (fun _ _ => True) (va_A (WW t ad (fun _ => 5) (fun _ => 5) (fun _ _ => 0) (fun _ => 5) (fun _ _ => 0)) sz)) 85 4054 (va_A (WW t ad (fun _ => 5) (fun _ => 5) (fun _ _ => 0) (fun _ => 5) (fun _ _ => 0)) sz) := by
  refine Met.ofW (cc := cX0_holds) (maxL := 5) (ret := (some .boolean)) (by decide) rfl ?_
  intro p e s m args below meth c s₁ B hml hv
  obtain ⟨rfl, hK, hsz, hP, hD0, hX, hbl, hnb⟩ := hv
  subst hsz
  have hD := hD0.self (sz := s.heap.size)
  have hA : ∀ q : Nat, s.heap.size ≤ q → va_A (WW t ad (fun _ => 5) (fun _ => 5) (fun _ _ => 0) (fun _ => 5) (fun _ _ => 0)) s.heap.size q := fun q h => Or.inr h
  have hS : va_S (va_A (WW t ad (fun _ => 5) (fun _ => 5) (fun _ _ => 0) (fun _ => 5) (fun _ _ => 0)) s.heap.size) s.heap s.heap [] := va_S.rf
  have hx := B.exec
  have hb := B.bytes
  have hr := B.returns
  have hts := atoms_spec (ws := ws_ yX0_holds cX0_holds 5 (some .boolean)) B.pre
  have hts : ∀ w ∈ lw_all, w.before _ s = true := fun w h => hts w (List.mem_cons_of_mem _ h)
  have hown : s.vm.findClass RX0 = some m.cls := findClass_of_methodNamed B.named
  have hlocks := B.notSynchronized
  refine w_entry [.ref (ad 0), .ref b1] (Nat.le_of_ble_eq_true rfl) (fun ls hl => ?_)
  have hl : lv_has ls 5 [(0, .ref (ad 0)), (1, .ref b1)] := hl
  have hbA : ¬ va_A (WW t ad (fun _ => 5) (fun _ => 5) (fun _ _ => 0) (fun _ => 5) (fun _ _ => 0)) s.heap.size b1 := by
    rintro (⟨k, e9, h⟩ | h)
    · exact hnb k (b1, e9) h rfl
    · omega
  have hq5 : ∀ j : Nat, 3 ≤ (fun _ : Nat => 5) j ∧ (fun _ : Nat => 5) j ≤ 6 := fun _ => ⟨show 3 ≤ 5 by decide, show 5 ≤ 6 by decide⟩
  have hm5 : ∀ j : Nat, Ok ((fun _ _ => 0 : Nat → Nat → Nat) j) := fun _ _ => okn_0
  refine lv_aload_n hx hb dX0_holds_0 rfl (lv_at hl 0 rfl) ?_
  refine vp_callSi (W.runV (As := []) (rest := []) ⟨hx, hb, hml, hown, hts⟩ (met_are l D t ad (fun _ => 5) (fun _ _ => 0) hq5 hm5) (cwV 0 hts (lw_V q141 q143 qs2 q6 q144) rfl rfl rfl (by decide +kernel) ⟨Nat.le_of_ble_eq_true rfl, Nat.le_of_ble_eq_true rfl⟩) (preV_r 0 0 hK hP rfl rfl) rfl rfl hl.1 rfl (lv_room (Nat.le_of_ble_eq_true rfl)) dX0_holds_1 ⟨Nat.le_of_ble_eq_true rfl, Nat.le_of_ble_eq_true rfl⟩) (fun r1 e1 => ?_)
  obtain rfl : r1 = (nI 1) := e1
  refine lv_if_ne (tgt := 9) hx hb dX0_holds_4 (by decide) (fun c4 => ?_) (fun c4 => absurd c4 (by decide))
  refine lv_iconst (v := (nI 0)) hx hb dX0_holds_9 (by decide) ?_
  refine lv_istore_n (lv' := [(2, .int (nI 0)), (0, .ref (ad 0)), (1, .ref b1)]) hx hb dX0_holds_10 rfl hl (by decide) rfl (fun ls hl => ?_)
  refine W_loop (nL := 5) (fun (b : Nat × (Nat → Nat) × (Nat → Nat) × (Nat → Nat → Nat)) H1 L1 => b.1 ≤ 3 ∧ (∀ j, 3 ≤ b.2.2.1 j ∧ b.2.2.1 j ≤ 6) ∧ (∀ j, Ok (b.2.2.2 j)) ∧ va_P D vwCl (WW t b.2.1 b.2.2.1 b.2.2.1 b.2.2.2 b.2.2.1 b.2.2.2) H1 ∧ va_D (va_A (WW t ad (fun _ => 5) (fun _ => 5) (fun _ _ => 0) (fun _ => 5) (fun _ _ => 0)) s.heap.size) (WW t b.2.1 b.2.2.1 b.2.2.1 b.2.2.2 b.2.2.1 b.2.2.2) ∧ va_S (va_A (WW t ad (fun _ => 5) (fun _ => 5) (fun _ _ => 0) (fun _ => 5) (fun _ _ => 0)) s.heap.size) s.heap H1 L1) (fun b => [(2, .int (nI b.1)), (0, .ref (b.2.1 0)), (1, .ref b1)]) (fun b => 3 - b.1) (fun b => 7 * b.1) (fun b => 322 * b.1) (fun b H locs ls hI hl ih => ?_) (0, ad, (fun _ => 5), (fun _ _ => 0)) ⟨Nat.zero_le _, hq5, hm5, hP, hD, hS⟩ (lv_sub hl [0, 1, 2] rfl)
  obtain ⟨k1, ad1, p1, m1⟩ := b
  obtain ⟨hk1, hq1, hm1, hP, hD, hS⟩ := hI
  have hP : va_P D vwCl (WW t ad1 p1 p1 m1 p1 m1) H := hP
  have hD : va_D (va_A (WW t ad (fun _ => 5) (fun _ => 5) (fun _ _ => 0) (fun _ => 5) (fun _ _ => 0)) s.heap.size) (WW t ad1 p1 p1 m1 p1 m1) := hD
  have hq1 : ∀ j, 3 ≤ p1 j ∧ p1 j ≤ 6 := hq1
  have hm1 : ∀ j, Ok (m1 j) := hm1
  have hk1 : k1 ≤ 3 := hk1
  have hl : lv_has ls 5 [(2, .int (nI k1)), (0, .ref (ad1 0)), (1, .ref b1)] := hl
  refine W.widen (k := 7 * k1) (n := 322 * k1) (Nat.le_refl _) (Nat.le_refl _) ?_
  refine lv_iload_n hx hb dX0_holds_11 rfl (lv_at hl 0 rfl) ?_
  refine lv_iconst (v := (nI 3)) hx hb dX0_holds_12 (by decide) ?_
  refine lv_icmp_ge (tgt := 125) hx hb dX0_holds_13 (by decide) (fun c13 => ?_) (fun c13 => ?_)
  · have hk3 : k1 = 3 := by have := (nI_leI (a := 3) (b := k1) (by omega) (by omega)).mp c13; omega
    refine lv_iconst (v := (nI 0)) hx hb dX0_holds_125 (by decide) ?_
    refine lv_istore_n (lv' := [(2, .int (nI 0)), (0, .ref (ad1 0)), (1, .ref b1)]) hx hb dX0_holds_126 rfl hl (by decide) rfl (fun ls hl => ?_)
    refine W.widen (k := 21 + 4 * 0) (n := 966 + 193 * 0) (by omega) (by omega) ?_
    refine W_loop (nL := 5) (fun (b : Nat × (Nat → Nat) × (Nat → Nat) × (Nat → Nat → Nat)) H1 L1 => b.1 ≤ 16 ∧ (∀ j, 3 ≤ b.2.2.1 j ∧ b.2.2.1 j ≤ 6) ∧ (∀ j, Ok (b.2.2.2 j)) ∧ va_P D vwCl (WW t b.2.1 b.2.2.1 b.2.2.1 b.2.2.2 b.2.2.1 b.2.2.2) H1 ∧ va_D (va_A (WW t ad (fun _ => 5) (fun _ => 5) (fun _ _ => 0) (fun _ => 5) (fun _ _ => 0)) s.heap.size) (WW t b.2.1 b.2.2.1 b.2.2.1 b.2.2.2 b.2.2.1 b.2.2.2) ∧ va_S (va_A (WW t ad (fun _ => 5) (fun _ => 5) (fun _ _ => 0) (fun _ => 5) (fun _ _ => 0)) s.heap.size) s.heap H1 L1) (fun b => [(2, .int (nI (6 * b.1))), (0, .ref (b.2.1 0)), (1, .ref b1)]) (fun b => 16 - b.1) (fun b => 21 + 4 * b.1) (fun b => 966 + 193 * b.1) (fun b H locs ls hI hl ih => ?_) (0, ad1, p1, m1) ⟨Nat.zero_le _, hq1, hm1, hP, hD, hS⟩ (lv_sub hl [0, 1, 2] rfl)
    obtain ⟨k4, ad4, p4, m4⟩ := b
    obtain ⟨hk4, hq4, hm4, hP, hD, hS⟩ := hI
    have hP : va_P D vwCl (WW t ad4 p4 p4 m4 p4 m4) H := hP
    have hD : va_D (va_A (WW t ad (fun _ => 5) (fun _ => 5) (fun _ _ => 0) (fun _ => 5) (fun _ _ => 0)) s.heap.size) (WW t ad4 p4 p4 m4 p4 m4) := hD
    have hq4 : ∀ j, 3 ≤ p4 j ∧ p4 j ≤ 6 := hq4
    have hm4 : ∀ j, Ok (m4 j) := hm4
    have hk4 : k4 ≤ 16 := hk4
    have hl : lv_has ls 5 [(2, .int (nI (6 * k4))), (0, .ref (ad4 0)), (1, .ref b1)] := hl
    refine W.widen (k := 21 + 4 * k4) (n := 966 + 193 * k4) (Nat.le_refl _) (Nat.le_refl _) ?_
    refine lv_iload_n hx hb dX0_holds_127 rfl (lv_at hl 0 rfl) ?_
    refine lv_bipush (v := (nI 96)) hx hb dX0_holds_128 (by decide) ?_
    refine lv_icmp_ge (tgt := 237) hx hb dX0_holds_130 (by decide) (fun c130 => ?_) (fun c130 => ?_)
    · have hk16 : k4 = 16 := by have := (nI_leI (a := 96) (b := 6 * k4) (by omega) (by omega)).mp c130; omega
      refine lv_iconst (v := (nI 1)) hx hb dX0_holds_237 (by decide) ?_
      refine W.widen (k := 85) (n := 4054) (by omega) (by omega) ?_
      exact W.zret (v := nI 1) hx hb hr rfl (fun t ht hW => ⟨⟨nI 1, (), rfl, rfl, trivial⟩, hS.F ht⟩) hS.2.2 dX0_holds_238
    · have hlt : k4 < 16 := by rcases Nat.lt_or_ge k4 16 with h | h; exact h; exact absurd (nI_le (a := 96) (b := 6 * k4) (by omega) (by omega)) c130
      refine lv_aload_n hx hb dX0_holds_133 rfl (lv_at hl 2 rfl) ?_
      refine lv_iload_n hx hb dX0_holds_134 rfl (lv_at hl 0 rfl) ?_
      refine lv_iconst (v := (nI 4)) hx hb dX0_holds_135 (by decide) ?_
      refine lv_iadd hx hb dX0_holds_136 ?_
      refine lv_topi (fun v136 e136 => ?_)
      obtain rfl : v136 = (nI (6 * k4 + 4)) := by rw [e136]; exact nI_add _ _
      refine vp_callSi (W.runS (As := [.ref b1, .int (nI (6 * k4 + 4))]) (rest := []) ⟨hx, hb, hml, hown, hts⟩ (met_cell l b1 L (6 * k4 + 4) xs hL (by omega)) (va_cwS 2 hts (lw_S q180 q181 q6 q182) rfl rfl rfl (by decide +kernel) ⟨Nat.le_of_ble_eq_true rfl, Nat.le_of_ble_eq_true rfl⟩) (preS_x hX hbl hbA hS) rfl rfl hl.1 rfl (lv_room (Nat.le_of_ble_eq_true rfl)) dX0_holds_137 ⟨by show 21 + 4 * k4 + 0 ≤ 85; omega, by show 966 + 193 * k4 + 0 ≤ 4054; omega⟩) (fun r137 e137 => ?_)
      obtain rfl : r137 = (cv xs L (6 * k4 + 4)) := e137
      refine lv_istore_n (lv' := [(3, .int (cv xs L (6 * k4 + 4))), (2, .int (nI (6 * k4))), (0, .ref (ad4 0)), (1, .ref b1)]) hx hb dX0_holds_140 rfl hl (by decide) rfl (fun ls hl => ?_)
      refine lv_aload_n hx hb dX0_holds_141 rfl (lv_at hl 3 rfl) ?_
      refine lv_iload_n hx hb dX0_holds_142 rfl (lv_at hl 1 rfl) ?_
      refine lv_iconst (v := (nI 5)) hx hb dX0_holds_143 (by decide) ?_
      refine lv_iadd hx hb dX0_holds_144 ?_
      refine lv_topi (fun v144 e144 => ?_)
      obtain rfl : v144 = (nI (6 * k4 + 5)) := by rw [e144]; exact nI_add _ _
      refine vp_callSi (W.runS (As := [.ref b1, .int (nI (6 * k4 + 5))]) (rest := []) ⟨hx, hb, hml, hown, hts⟩ (met_cell l b1 L (6 * k4 + 5) xs hL (by omega)) (va_cwS 2 hts (lw_S q180 q181 q6 q182) rfl rfl rfl (by decide +kernel) ⟨Nat.le_of_ble_eq_true rfl, Nat.le_of_ble_eq_true rfl⟩) (preS_x hX hbl hbA hS) rfl rfl hl.1 rfl (lv_room (Nat.le_of_ble_eq_true rfl)) dX0_holds_145 ⟨by show 21 + 4 * k4 + 0 ≤ 85; omega, by show 966 + 193 * k4 + 0 ≤ 4054; omega⟩) (fun r145 e145 => ?_)
      obtain rfl : r145 = (cv xs L (6 * k4 + 5)) := e145
      refine lv_istore (lv' := [(4, .int (cv xs L (6 * k4 + 5))), (3, .int (cv xs L (6 * k4 + 4))), (2, .int (nI (6 * k4))), (0, .ref (ad4 0)), (1, .ref b1)]) hx hb dX0_holds_148 hl (by decide) rfl (fun ls hl => ?_)
      refine lv_aload_n hx hb dX0_holds_150 rfl (lv_at hl 3 rfl) ?_
      refine lv_aload_n hx hb dX0_holds_151 rfl (lv_at hl 4 rfl) ?_
      refine lv_iload_n hx hb dX0_holds_152 rfl (lv_at hl 2 rfl) ?_
      refine vp_callSi (W.runS (As := [.ref b1, .int (nI (6 * k4))]) (rest := [.ref (ad4 0)]) ⟨hx, hb, hml, hown, hts⟩ (met_cell l b1 L (6 * k4) xs hL (by omega)) (va_cwS 2 hts (lw_S q180 q181 q6 q182) rfl rfl rfl (by decide +kernel) ⟨Nat.le_of_ble_eq_true rfl, Nat.le_of_ble_eq_true rfl⟩) (preS_x hX hbl hbA hS) rfl rfl hl.1 rfl (lv_room (Nat.le_of_ble_eq_true rfl)) dX0_holds_153 ⟨by show 21 + 4 * k4 + 0 ≤ 85; omega, by show 966 + 193 * k4 + 0 ≤ 4054; omega⟩) (fun r153 e153 => ?_)
      obtain rfl : r153 = (cv xs L (6 * k4)) := e153
      refine lv_aload_n hx hb dX0_holds_156 rfl (lv_at hl 4 rfl) ?_
      refine lv_iload_n hx hb dX0_holds_157 rfl (lv_at hl 2 rfl) ?_
      refine lv_iconst (v := (nI 1)) hx hb dX0_holds_158 (by decide) ?_
      refine lv_iadd hx hb dX0_holds_159 ?_
      refine lv_topi (fun v159 e159 => ?_)
      obtain rfl : v159 = (nI (6 * k4 + 1)) := by rw [e159]; exact nI_add _ _
      refine vp_callSi (W.runS (As := [.ref b1, .int (nI (6 * k4 + 1))]) (rest := [.int (cv xs L (6 * k4)), .ref (ad4 0)]) ⟨hx, hb, hml, hown, hts⟩ (met_cell l b1 L (6 * k4 + 1) xs hL (by omega)) (va_cwS 2 hts (lw_S q180 q181 q6 q182) rfl rfl rfl (by decide +kernel) ⟨Nat.le_of_ble_eq_true rfl, Nat.le_of_ble_eq_true rfl⟩) (preS_x hX hbl hbA hS) rfl rfl hl.1 rfl (lv_room (Nat.le_of_ble_eq_true rfl)) dX0_holds_160 ⟨by show 21 + 4 * k4 + 0 ≤ 85; omega, by show 966 + 193 * k4 + 0 ≤ 4054; omega⟩) (fun r160 e160 => ?_)
      obtain rfl : r160 = (cv xs L (6 * k4 + 1)) := e160
      refine lv_aload_n hx hb dX0_holds_163 rfl (lv_at hl 4 rfl) ?_
      refine lv_iload_n hx hb dX0_holds_164 rfl (lv_at hl 2 rfl) ?_
      refine lv_iconst (v := (nI 2)) hx hb dX0_holds_165 (by decide) ?_
      refine lv_iadd hx hb dX0_holds_166 ?_
      refine lv_topi (fun v166 e166 => ?_)
      obtain rfl : v166 = (nI (6 * k4 + 2)) := by rw [e166]; exact nI_add _ _
      refine vp_callSi (W.runS (As := [.ref b1, .int (nI (6 * k4 + 2))]) (rest := [.int (cv xs L (6 * k4 + 1)), .int (cv xs L (6 * k4)), .ref (ad4 0)]) ⟨hx, hb, hml, hown, hts⟩ (met_cell l b1 L (6 * k4 + 2) xs hL (by omega)) (va_cwS 2 hts (lw_S q180 q181 q6 q182) rfl rfl rfl (by decide +kernel) ⟨Nat.le_of_ble_eq_true rfl, Nat.le_of_ble_eq_true rfl⟩) (preS_x hX hbl hbA hS) rfl rfl hl.1 rfl (lv_room (Nat.le_of_ble_eq_true rfl)) dX0_holds_167 ⟨by show 21 + 4 * k4 + 0 ≤ 85; omega, by show 966 + 193 * k4 + 0 ≤ 4054; omega⟩) (fun r167 e167 => ?_)
      obtain rfl : r167 = (cv xs L (6 * k4 + 2)) := e167
      refine lv_aload_n hx hb dX0_holds_170 rfl (lv_at hl 4 rfl) ?_
      refine lv_iload_n hx hb dX0_holds_171 rfl (lv_at hl 2 rfl) ?_
      refine lv_iconst (v := (nI 3)) hx hb dX0_holds_172 (by decide) ?_
      refine lv_iadd hx hb dX0_holds_173 ?_
      refine lv_topi (fun v173 e173 => ?_)
      obtain rfl : v173 = (nI (6 * k4 + 3)) := by rw [e173]; exact nI_add _ _
      refine vp_callSi (W.runS (As := [.ref b1, .int (nI (6 * k4 + 3))]) (rest := [.int (cv xs L (6 * k4 + 2)), .int (cv xs L (6 * k4 + 1)), .int (cv xs L (6 * k4)), .ref (ad4 0)]) ⟨hx, hb, hml, hown, hts⟩ (met_cell l b1 L (6 * k4 + 3) xs hL (by omega)) (va_cwS 2 hts (lw_S q180 q181 q6 q182) rfl rfl rfl (by decide +kernel) ⟨Nat.le_of_ble_eq_true rfl, Nat.le_of_ble_eq_true rfl⟩) (preS_x hX hbl hbA hS) rfl rfl hl.1 rfl (lv_room (Nat.le_of_ble_eq_true rfl)) dX0_holds_174 ⟨by show 21 + 4 * k4 + 0 ≤ 85; omega, by show 966 + 193 * k4 + 0 ≤ 4054; omega⟩) (fun r174 e174 => ?_)
      obtain rfl : r174 = (cv xs L (6 * k4 + 3)) := e174
      refine lv_iload_n hx hb dX0_holds_177 rfl (lv_at hl 1 rfl) ?_
      refine lv_iload hx hb dX0_holds_178 (lv_at hl 0 rfl) ?_
      refine cw_i (va_runV (As := [.int (cv xs L (6 * k4)), .int (cv xs L (6 * k4 + 1)), .int (cv xs L (6 * k4 + 2)), .int (cv xs L (6 * k4 + 3)), .int (cv xs L (6 * k4 + 4)), .int (cv xs L (6 * k4 + 5))]) (rest := []) ⟨hx, hb, hml, hown, hts⟩ (met_act l D t ad4 p4 m4 H.size hq4 hm4 (cv xs L (6 * k4)) (cv xs L (6 * k4 + 1)) (cv xs L (6 * k4 + 2)) (cv xs L (6 * k4 + 3)) (cv xs L (6 * k4 + 4)) (cv xs L (6 * k4 + 5))) (cwV 6 hts (lw_V q187 q189 qs3 q6 q190) rfl rfl rfl (by decide +kernel) ⟨Nat.le_of_ble_eq_true rfl, Nat.le_of_ble_eq_true rfl⟩) (preV_w 0 0 hK hP hD rfl rfl) rfl rfl hl.1 rfl (lv_room (Nat.le_of_ble_eq_true rfl)) dX0_holds_180 ⟨by show 21 + 4 * k4 + 4 ≤ 85; omega, by show 966 + 193 * k4 + 193 ≤ 4054; omega⟩) hD hS hA (fun r180 u180 H locs hp180 hP hD hS => ?_)
      obtain ⟨rfl, hq5, hm5, h05⟩ := hp180
      obtain ⟨ad5, p5, m5⟩ := u180
      have hP : va_P D vwCl (WW t ad5 p5 p5 m5 p5 m5) H := hP
      have hD : va_D (va_A (WW t ad (fun _ => 5) (fun _ => 5) (fun _ _ => 0) (fun _ => 5) (fun _ _ => 0)) s.heap.size) (WW t ad5 p5 p5 m5 p5 m5) := hD
      have hq5 : ∀ j, 3 ≤ p5 j ∧ p5 j ≤ 6 := hq5
      have hm5 : ∀ j, Ok (m5 j) := hm5
      have h05 : ad5 0 = ad4 0 := h05
      rw [← h05] at hl
      refine lv_if_eq (tgt := 229) hx hb dX0_holds_183 (by decide) (fun c183 => absurd c183 (by decide)) (fun c183 => ?_)
      refine lv_aload_n hx hb dX0_holds_186 rfl (lv_at hl 3 rfl) ?_
      refine vp_callSi (W.runV (As := []) (rest := []) ⟨hx, hb, hml, hown, hts⟩ (met_are l D t ad5 p5 m5 hq5 hm5) (cwV 0 hts (lw_V q141 q143 qs2 q6 q144) rfl rfl rfl (by decide +kernel) ⟨Nat.le_of_ble_eq_true rfl, Nat.le_of_ble_eq_true rfl⟩) (preV_r 0 0 hK hP rfl rfl) rfl rfl hl.1 rfl (lv_room (Nat.le_of_ble_eq_true rfl)) dX0_holds_187 ⟨by show 21 + 4 * k4 + 4 + 0 ≤ 85; omega, by show 966 + 193 * k4 + 193 + 0 ≤ 4054; omega⟩) (fun r187 e187 => ?_)
      obtain rfl : r187 = (nI 1) := e187
      refine lv_if_eq (tgt := 229) hx hb dX0_holds_190 (by decide) (fun c190 => absurd c190 (by decide)) (fun c190 => ?_)
      refine lv_aload_n hx hb dX0_holds_193 rfl (lv_at hl 3 rfl) ?_
      refine lv_iload_n hx hb dX0_holds_194 rfl (lv_at hl 1 rfl) ?_
      refine lv_iload hx hb dX0_holds_195 (lv_at hl 0 rfl) ?_
      refine vp_callSi (W.runV (As := [.int (cv xs L (6 * k4 + 4)), .int (cv xs L (6 * k4 + 5))]) (rest := []) ⟨hx, hb, hml, hown, hts⟩ (met_isToken l D t ad5 p5 p5 m5 p5 m5 (cv xs L (6 * k4 + 4)) (cv xs L (6 * k4 + 5))) (cwV 2 hts (lw_V q331 q333 qs5 q6 q334) rfl rfl rfl (by decide +kernel) ⟨Nat.le_of_ble_eq_true rfl, Nat.le_of_ble_eq_true rfl⟩) (preV_r 0 0 hK hP rfl rfl) rfl rfl hl.1 rfl (lv_room (Nat.le_of_ble_eq_true rfl)) dX0_holds_197 ⟨by show 21 + 4 * k4 + 4 + 0 ≤ 85; omega, by show 966 + 193 * k4 + 193 + 0 ≤ 4054; omega⟩) (fun r197 e197 => ?_)
      obtain rfl : r197 = (nI 1) := e197
      refine lv_if_eq (tgt := 229) hx hb dX0_holds_200 (by decide) (fun c200 => absurd c200 (by decide)) (fun c200 => ?_)
      refine lv_aload_n hx hb dX0_holds_203 rfl (lv_at hl 3 rfl) ?_
      refine lv_iload_n hx hb dX0_holds_204 rfl (lv_at hl 1 rfl) ?_
      refine lv_iconst (v := (nI 0)) hx hb dX0_holds_205 (by decide) ?_
      refine vp_callSi (W.runV (As := [.int (cv xs L (6 * k4 + 4)), .int (nI 0)]) (rest := []) ⟨hx, hb, hml, hown, hts⟩ (met_isToken l D t ad5 p5 p5 m5 p5 m5 (cv xs L (6 * k4 + 4)) (nI 0)) (cwV 2 hts (lw_V q331 q333 qs5 q6 q334) rfl rfl rfl (by decide +kernel) ⟨Nat.le_of_ble_eq_true rfl, Nat.le_of_ble_eq_true rfl⟩) (preV_r 0 0 hK hP rfl rfl) rfl rfl hl.1 rfl (lv_room (Nat.le_of_ble_eq_true rfl)) dX0_holds_206 ⟨by show 21 + 4 * k4 + 4 + 0 ≤ 85; omega, by show 966 + 193 * k4 + 193 + 0 ≤ 4054; omega⟩) (fun r206 e206 => ?_)
      obtain rfl : r206 = (nI 1) := e206
      refine lv_if_eq (tgt := 229) hx hb dX0_holds_209 (by decide) (fun c209 => absurd c209 (by decide)) (fun c209 => ?_)
      refine lv_aload_n hx hb dX0_holds_212 rfl (lv_at hl 3 rfl) ?_
      refine lv_iload_n hx hb dX0_holds_213 rfl (lv_at hl 1 rfl) ?_
      refine lv_bipush (v := (-64)) hx hb dX0_holds_214 (by decide) ?_
      refine lv_iand hx hb dX0_holds_216 ?_
      refine lv_topi (fun v216 e216 => ?_)
      refine lv_iload hx hb dX0_holds_217 (lv_at hl 0 rfl) ?_
      refine lv_sipush (v := (nI 255)) hx hb dX0_holds_219 (by decide) ?_
      refine lv_iand hx hb dX0_holds_222 ?_
      refine lv_topi (fun v222 e222 => ?_)
      refine vp_callSi (W.runV (As := [.int v216, .int v222]) (rest := []) ⟨hx, hb, hml, hown, hts⟩ (met_isToken l D t ad5 p5 p5 m5 p5 m5 v216 v222) (cwV 2 hts (lw_V q331 q333 qs5 q6 q334) rfl rfl rfl (by decide +kernel) ⟨Nat.le_of_ble_eq_true rfl, Nat.le_of_ble_eq_true rfl⟩) (preV_r 0 0 hK hP rfl rfl) rfl rfl hl.1 rfl (lv_room (Nat.le_of_ble_eq_true rfl)) dX0_holds_223 ⟨by show 21 + 4 * k4 + 4 + 0 ≤ 85; omega, by show 966 + 193 * k4 + 193 + 0 ≤ 4054; omega⟩) (fun r223 e223 => ?_)
      obtain rfl : r223 = (nI 1) := e223
      refine lv_if_ne (tgt := 231) hx hb dX0_holds_226 (by decide) (fun c226 => ?_) (fun c226 => absurd c226 (by decide))
      refine lv_iinc (v := (nI (6 * (k4 + 1)))) (lv' := [(2, .int (nI (6 * (k4 + 1)))), (4, .int (cv xs L (6 * k4 + 5))), (3, .int (cv xs L (6 * k4 + 4))), (0, .ref (ad5 0)), (1, .ref b1)]) hx hb dX0_holds_231 hl (k := 2) rfl (by rw [show 6 * (k4 + 1) = 6 * k4 + 6 by omega]; exact nI_add _ 6) (by decide) rfl (fun ls hl => ?_)
      refine lv_goto (tgt := 127) hx hb dX0_holds_234 (by decide) ?_
      refine W.widen (k := 21 + 4 * (k4 + 1)) (n := 966 + 193 * (k4 + 1)) (by omega) (by omega) ?_
      exact ih (k4 + 1, ad5, p5, m5) _ _ ls (by show 16 - (k4 + 1) < 16 - k4; omega) ⟨hlt, hq5, hm5, hP, hD, hS⟩ (lv_sub hl [0, 3, 4] rfl)
  · have hlt : k1 < 3 := by rcases Nat.lt_or_ge k1 3 with h | h; exact h; exact absurd (nI_le h (by omega)) c13
    have huk : uI (nI k1) % 2 ^ 31 % 3 = k1 := by rw [uI_small (by omega)]; exact Nat.mod_eq_of_lt hlt
    refine lv_aload_n hx hb dX0_holds_16 rfl (lv_at hl 1 rfl) ?_
    refine va_get (D := D) (ci := 0) (v := .ref (ad1 6)) (C := RX0) (T := TX0) (N := 3) hx hb hts in_X0 hown hK.1 hP 0 (rfl) rfl 0 (by decide) (hts _ q125) (fun _ h9 => h9) rfl dX0_holds_17 ?_
    refine lv_iload_n hx hb dX0_holds_20 rfl (lv_at hl 0 rfl) ?_
    refine lv_aload_n hx hb dX0_holds_21 rfl (lv_at hl 2 rfl) ?_
    refine lv_bipush (v := (nI 6)) hx hb dX0_holds_22 (by decide) ?_
    refine lv_iload_n hx hb dX0_holds_24 rfl (lv_at hl 0 rfl) ?_
    refine lv_imul hx hb dX0_holds_25 ?_
    refine lv_topi (fun v25 e25 => ?_)
    obtain rfl : v25 = (nI (6 * k1)) := by rw [e25]; exact pk_mul 6 k1
    refine vp_callSi (W.runS (As := [.ref b1, .int (nI (6 * k1))]) (rest := [.int (nI k1), .ref (ad1 6)]) ⟨hx, hb, hml, hown, hts⟩ (met_cell l b1 L (6 * k1) xs hL (by omega)) (va_cwS 2 hts (lw_S q180 q181 q6 q182) rfl rfl rfl (by decide +kernel) ⟨Nat.le_of_ble_eq_true rfl, Nat.le_of_ble_eq_true rfl⟩) (preS_x hX hbl hbA hS) rfl rfl hl.1 rfl (lv_room (Nat.le_of_ble_eq_true rfl)) dX0_holds_26 ⟨by show 7 * k1 + 0 ≤ 85; omega, by show 322 * k1 + 0 ≤ 4054; omega⟩) (fun r26 e26 => ?_)
    obtain rfl : r26 = (cv xs L (6 * k1)) := e26
    refine lv_iconst (v := (nI 5)) hx hb dX0_holds_29 (by decide) ?_
    refine lv_ishr hx hb dX0_holds_30 ?_
    refine lv_topi (fun v30 e30 => ?_)
    refine cw_v (va_runV (As := [.int (nI k1), .int v30]) (rest := []) ⟨hx, hb, hml, hown, hts⟩ (met_danew l D t ad1 p1 p1 m1 p1 m1 H.size hq1 hm1 (nI k1) k1 huk hlt v30) (cwV 2 hts (lw_V q183 q184 q185 q7 q186) rfl rfl rfl (by decide +kernel) ⟨Nat.le_of_ble_eq_true rfl, Nat.le_of_ble_eq_true rfl⟩) (preV_w 6 1 hK hP hD rfl rfl) rfl rfl hl.1 rfl (lv_room (Nat.le_of_ble_eq_true rfl)) dX0_holds_31 ⟨by show 7 * k1 + 2 ≤ 85; omega, by show 322 * k1 + 65 ≤ 4054; omega⟩) hD hS hA (fun u31 H locs hp31 hP hD hS => ?_)
    have hm4 : uI v30 % 2 ^ 2 < 2 ^ 2 := Nat.mod_lt _ (by decide)
    have h64 := p64 (show (3 + uI v30 % 2 ^ 2) ≤ 6 by omega)
    have hP : va_P D vwCl ((WW t (adR ad1 k1 u31.1 u31.2) p1 p1 m1 (va_up p1 k1 (3 + uI v30 % 2 ^ 2)) (va_up m1 k1 (fun _ => 0)))) H := hP
    have hD : va_D (va_A (WW t ad (fun _ => 5) (fun _ => 5) (fun _ _ => 0) (fun _ => 5) (fun _ _ => 0)) s.heap.size) ((WW t (adR ad1 k1 u31.1 u31.2) p1 p1 m1 (va_up p1 k1 (3 + uI v30 % 2 ^ 2)) (va_up m1 k1 (fun _ => 0)))) := hD
    refine lv_aload_n hx hb dX0_holds_34 rfl (lv_at hl 1 rfl) ?_
    refine va_get (D := D) (ci := 0) (v := .ref (ad1 1)) (C := RX0) (T := TX0) (N := 3) hx hb hts in_X0 hown hK.1 hP 0 (WR_0) rfl 1 (by decide) (hts _ q126) (fun _ h9 => h9) rfl dX0_holds_35 ?_
    refine lv_iload_n hx hb dX0_holds_38 rfl (lv_at hl 0 rfl) ?_
    refine lv_iconst (v := (nI 3)) hx hb dX0_holds_39 (by decide) ?_
    refine lv_aload_n hx hb dX0_holds_40 rfl (lv_at hl 2 rfl) ?_
    refine lv_bipush (v := (nI 6)) hx hb dX0_holds_41 (by decide) ?_
    refine lv_iload_n hx hb dX0_holds_43 rfl (lv_at hl 0 rfl) ?_
    refine lv_imul hx hb dX0_holds_44 ?_
    refine lv_topi (fun v44 e44 => ?_)
    obtain rfl : v44 = (nI (6 * k1)) := by rw [e44]; exact pk_mul 6 k1
    refine vp_callSi (W.runS (As := [.ref b1, .int (nI (6 * k1))]) (rest := [.int (nI 3), .int (nI k1), .ref (ad1 1)]) ⟨hx, hb, hml, hown, hts⟩ (met_cell l b1 L (6 * k1) xs hL (by omega)) (va_cwS 2 hts (lw_S q180 q181 q6 q182) rfl rfl rfl (by decide +kernel) ⟨Nat.le_of_ble_eq_true rfl, Nat.le_of_ble_eq_true rfl⟩) (preS_x hX hbl hbA hS) rfl rfl hl.1 rfl (lv_room (Nat.le_of_ble_eq_true rfl)) dX0_holds_45 ⟨by show 7 * k1 + 2 + 0 ≤ 85; omega, by show 322 * k1 + 65 + 0 ≤ 4054; omega⟩) (fun r45 e45 => ?_)
    obtain rfl : r45 = (cv xs L (6 * k1)) := e45
    refine lv_iconst (v := (nI 5)) hx hb dX0_holds_48 (by decide) ?_
    refine lv_ishr hx hb dX0_holds_49 ?_
    refine lv_topi (fun v49 e49 => ?_)
    obtain rfl : v30 = v49 := by rw [e30, e49]
    refine lv_iconst (v := (nI 3)) hx hb dX0_holds_50 (by decide) ?_
    refine lv_iand hx hb dX0_holds_51 ?_
    refine lv_topi (fun v51 e51 => ?_)
    obtain rfl : v51 = (nI (uI v30 % 2 ^ 2)) := by rw [e51]; exact pk_and v30 2 (by decide)
    refine lv_iadd hx hb dX0_holds_52 ?_
    refine lv_topi (fun v52 e52 => ?_)
    obtain rfl : v52 = (nI (3 + uI v30 % 2 ^ 2)) := by rw [e52]; exact nI_add _ _
    refine xr_iast hx hb hK.1 hP hD hS 1 0 (fun j => nI ((va_up p1 k1 (3 + uI v30 % 2 ^ 2)) j)) (WR_1) rfl (hlt) (by decide) (fun i hi => by
        unfold va_up
        by_cases hii : i = k1
        · rw [if_pos hii, if_pos hii]
        · rw [if_neg hii, if_neg hii]) dX0_holds_53 (fun H locs hP hD hS => ?_)
    have e11 : (adR ad1 k1 u31.1 u31.2) 1 = ad1 1 := adR_lo (by decide)
    rw [← e11] at hP hD
    have hP : va_P D vwCl ((WW t (adR ad1 k1 u31.1 u31.2) (va_up p1 k1 (3 + uI v30 % 2 ^ 2)) p1 m1 (va_up p1 k1 (3 + uI v30 % 2 ^ 2)) (va_up m1 k1 (fun _ => 0)))) H := hP
    have hD : va_D (va_A (WW t ad (fun _ => 5) (fun _ => 5) (fun _ _ => 0) (fun _ => 5) (fun _ _ => 0)) s.heap.size) ((WW t (adR ad1 k1 u31.1 u31.2) (va_up p1 k1 (3 + uI v30 % 2 ^ 2)) p1 m1 (va_up p1 k1 (3 + uI v30 % 2 ^ 2)) (va_up m1 k1 (fun _ => 0)))) := hD
    refine lv_aload_n hx hb dX0_holds_54 rfl (lv_at hl 1 rfl) ?_
    refine va_get (D := D) (ci := 0) (v := .ref (ad1 2)) (C := RX0) (T := TX0) (N := 3) hx hb hts in_X0 hown hK.1 hP 0 (WR_0) rfl 2 (by decide) (hts _ q127) (fun _ h9 => h9) rfl dX0_holds_55 ?_
    refine lv_iload_n hx hb dX0_holds_58 rfl (lv_at hl 0 rfl) ?_
    refine lv_iconst (v := (nI 1)) hx hb dX0_holds_59 (by decide) ?_
    refine lv_aload_n hx hb dX0_holds_60 rfl (lv_at hl 1 rfl) ?_
    refine va_get (D := D) (ci := 0) (v := .ref (ad1 1)) (C := RX0) (T := TX0) (N := 3) hx hb hts in_X0 hown hK.1 hP 0 (WR_0) rfl 1 (by decide) (hts _ q126) (fun _ h9 => h9) rfl dX0_holds_61 ?_
    refine lv_iload_n hx hb dX0_holds_64 rfl (lv_at hl 0 rfl) ?_
    refine xr_iald hx hb hK.1 hP 1 0 (WR_1) rfl (hlt) (by omega) (v := (nI (3 + uI v30 % 2 ^ 2))) (congrArg nI (va_up_self _ _ _)) dX0_holds_65 ?_
    refine lv_ishl hx hb dX0_holds_66 ?_
    refine lv_topi (fun v66 e66 => ?_)
    obtain rfl : v66 = (nI (2 ^ (3 + uI v30 % 2 ^ 2))) := by rw [e66]; exact (pk_shlN (n := 1) (nI (3 + uI v30 % 2 ^ 2) &&& 31) (3 + uI v30 % 2 ^ 2) ((by decide +kernel : ∀ k, k < 31 → ((nI k &&& 31).toBitVec.smod 32).toNat = k) (3 + uI v30 % 2 ^ 2) (by omega)) (by omega)).trans (congrArg nI (Nat.one_mul _))
    refine xr_newa (atype := .long) hx hb (hts _ q136) (ty := .long) rfl hK.1 hP hD hS hA 1 rfl (N' := 2 ^ (3 + uI v30 % 2 ^ 2)) (a0 := (2 ^ (3 + uI v30 % 2 ^ 2), .inr (.inl (fun i => lN ((fun _ => 0) i))))) ((fun cA => rfl)) (nI_pos (by omega)) (nI_clamp (by omega)) (by show 2 ^ (3 + uI v30 % 2 ^ 2) * 8 ≤ _; omega) (by show 7 * k1 + 2 + 1 ≤ 85; omega) (by show 322 * k1 + 65 + 2 ^ (3 + uI v30 % 2 ^ 2) ≤ 4054; omega) dX0_holds_67 (fun z67 H hP hD hS => ?_)
    refine W.widen (k := 7 * k1 + 3) (n := 322 * k1 + 129) (by omega) (by omega) ?_
    have hP : va_P D vwCl (((WW t (adR ad1 k1 u31.1 u31.2) (va_up p1 k1 (3 + uI v30 % 2 ^ 2)) p1 m1 (va_up p1 k1 (3 + uI v30 % 2 ^ 2)) (va_up m1 k1 (fun _ => 0))) ++ [(z67, cL t (3 + uI v30 % 2 ^ 2) (fun _ => 0))])) H := hP
    have hD : va_D (va_A (WW t ad (fun _ => 5) (fun _ => 5) (fun _ _ => 0) (fun _ => 5) (fun _ _ => 0)) s.heap.size) (((WW t (adR ad1 k1 u31.1 u31.2) (va_up p1 k1 (3 + uI v30 % 2 ^ 2)) p1 m1 (va_up p1 k1 (3 + uI v30 % 2 ^ 2)) (va_up m1 k1 (fun _ => 0))) ++ [(z67, cL t (3 + uI v30 % 2 ^ 2) (fun _ => 0))])) := hD
    have e22 : (adR ad1 k1 u31.1 u31.2) 2 = ad1 2 := adR_lo (by decide)
    refine xr_aastA hx hb hK.2.2.1 hK.1 hP hD hS 2 4 (14) 1 ((ref3 ((adM (adR ad1 k1 u31.1 u31.2) k1 z67) 3) ((adM (adR ad1 k1 u31.1 u31.2) k1 z67) 4) ((adM (adR ad1 k1 u31.1 u31.2) k1 z67) 5))) ((ws_app (ws := (WW t (adR ad1 k1 u31.1 u31.2) (va_up p1 k1 (3 + uI v30 % 2 ^ 2)) p1 m1 (va_up p1 k1 (3 + uI v30 % 2 ^ 2)) (va_up m1 k1 (fun _ => 0)))) WR_2)) rfl (rfl) rfl (hlt) (by decide) (adM_hg hlt) dX0_holds_69 (fun H locs hP hD hS => ?_)
    rw [← e22] at hP hD
    obtain ⟨ad2, p2, m2, hq2, hm2, h02, hP, hD⟩ : ∃ (ad2 : Nat → Nat) (p2 : Nat → Nat) (m2 : Nat → Nat → Nat), (∀ j, 3 ≤ p2 j ∧ p2 j ≤ 6) ∧ (∀ j, Ok (m2 j)) ∧ ad2 0 = ad1 0 ∧ va_P D vwCl (WW t ad2 p2 p2 m2 p2 m2) H ∧ va_D (va_A (WW t ad (fun _ => 5) (fun _ => 5) (fun _ _ => 0) (fun _ => 5) (fun _ _ => 0)) s.heap.size) (WW t ad2 p2 p2 m2 p2 m2) := ⟨_, _, _, up_p hq1 (show 3 ≤ (3 + uI v30 % 2 ^ 2) ∧ (3 + uI v30 % 2 ^ 2) ≤ 6 by omega), up_ok hm1 (fun _ => okn_0), (adM_lo (by decide)).trans (adR_lo (by decide)), WW_mrowP hlt _ hP, WW_mrowD hlt _ hD⟩
    rw [← h02] at hl
    refine lv_aload_n hx hb dX0_holds_70 rfl (lv_at hl 1 rfl) ?_
    refine lv_iconst (v := (nI 2)) hx hb dX0_holds_71 (by decide) ?_
    refine lv_iload_n hx hb dX0_holds_72 rfl (lv_at hl 0 rfl) ?_
    refine lv_iconst (v := (nI 0)) hx hb dX0_holds_73 (by decide) ?_
    refine lv_aload_n hx hb dX0_holds_74 rfl (lv_at hl 2 rfl) ?_
    refine lv_bipush (v := (nI 6)) hx hb dX0_holds_75 (by decide) ?_
    refine lv_iload_n hx hb dX0_holds_77 rfl (lv_at hl 0 rfl) ?_
    refine lv_imul hx hb dX0_holds_78 ?_
    refine lv_topi (fun v78 e78 => ?_)
    obtain rfl : v78 = (nI (6 * k1)) := by rw [e78]; exact pk_mul 6 k1
    refine lv_iconst (v := (nI 1)) hx hb dX0_holds_79 (by decide) ?_
    refine lv_iadd hx hb dX0_holds_80 ?_
    refine lv_topi (fun v80 e80 => ?_)
    obtain rfl : v80 = (nI (6 * k1 + 1)) := by rw [e80]; exact nI_add _ _
    refine vp_callSi (W.runS (As := [.ref b1, .int (nI (6 * k1 + 1))]) (rest := [.int (nI 0), .int (nI k1), .int (nI 2), .ref (ad2 0)]) ⟨hx, hb, hml, hown, hts⟩ (met_cell l b1 L (6 * k1 + 1) xs hL (by omega)) (va_cwS 2 hts (lw_S q180 q181 q6 q182) rfl rfl rfl (by decide +kernel) ⟨Nat.le_of_ble_eq_true rfl, Nat.le_of_ble_eq_true rfl⟩) (preS_x hX hbl hbA hS) rfl rfl hl.1 rfl (lv_room (Nat.le_of_ble_eq_true rfl)) dX0_holds_81 ⟨by show 7 * k1 + 3 + 0 ≤ 85; omega, by show 322 * k1 + 129 + 0 ≤ 4054; omega⟩) (fun r81 e81 => ?_)
    obtain rfl : r81 = (cv xs L (6 * k1 + 1)) := e81
    refine lv_aload_n hx hb dX0_holds_84 rfl (lv_at hl 2 rfl) ?_
    refine lv_bipush (v := (nI 6)) hx hb dX0_holds_85 (by decide) ?_
    refine lv_iload_n hx hb dX0_holds_87 rfl (lv_at hl 0 rfl) ?_
    refine lv_imul hx hb dX0_holds_88 ?_
    refine lv_topi (fun v88 e88 => ?_)
    obtain rfl : v88 = (nI (6 * k1)) := by rw [e88]; exact pk_mul 6 k1
    refine lv_iconst (v := (nI 2)) hx hb dX0_holds_89 (by decide) ?_
    refine lv_iadd hx hb dX0_holds_90 ?_
    refine lv_topi (fun v90 e90 => ?_)
    obtain rfl : v90 = (nI (6 * k1 + 2)) := by rw [e90]; exact nI_add _ _
    refine vp_callSi (W.runS (As := [.ref b1, .int (nI (6 * k1 + 2))]) (rest := [.int (cv xs L (6 * k1 + 1)), .int (nI 0), .int (nI k1), .int (nI 2), .ref (ad2 0)]) ⟨hx, hb, hml, hown, hts⟩ (met_cell l b1 L (6 * k1 + 2) xs hL (by omega)) (va_cwS 2 hts (lw_S q180 q181 q6 q182) rfl rfl rfl (by decide +kernel) ⟨Nat.le_of_ble_eq_true rfl, Nat.le_of_ble_eq_true rfl⟩) (preS_x hX hbl hbA hS) rfl rfl hl.1 rfl (lv_room (Nat.le_of_ble_eq_true rfl)) dX0_holds_91 ⟨by show 7 * k1 + 3 + 0 ≤ 85; omega, by show 322 * k1 + 129 + 0 ≤ 4054; omega⟩) (fun r91 e91 => ?_)
    obtain rfl : r91 = (cv xs L (6 * k1 + 2)) := e91
    refine lv_aload_n hx hb dX0_holds_94 rfl (lv_at hl 2 rfl) ?_
    refine lv_bipush (v := (nI 6)) hx hb dX0_holds_95 (by decide) ?_
    refine lv_iload_n hx hb dX0_holds_97 rfl (lv_at hl 0 rfl) ?_
    refine lv_imul hx hb dX0_holds_98 ?_
    refine lv_topi (fun v98 e98 => ?_)
    obtain rfl : v98 = (nI (6 * k1)) := by rw [e98]; exact pk_mul 6 k1
    refine lv_iconst (v := (nI 3)) hx hb dX0_holds_99 (by decide) ?_
    refine lv_iadd hx hb dX0_holds_100 ?_
    refine lv_topi (fun v100 e100 => ?_)
    obtain rfl : v100 = (nI (6 * k1 + 3)) := by rw [e100]; exact nI_add _ _
    refine vp_callSi (W.runS (As := [.ref b1, .int (nI (6 * k1 + 3))]) (rest := [.int (cv xs L (6 * k1 + 2)), .int (cv xs L (6 * k1 + 1)), .int (nI 0), .int (nI k1), .int (nI 2), .ref (ad2 0)]) ⟨hx, hb, hml, hown, hts⟩ (met_cell l b1 L (6 * k1 + 3) xs hL (by omega)) (va_cwS 2 hts (lw_S q180 q181 q6 q182) rfl rfl rfl (by decide +kernel) ⟨Nat.le_of_ble_eq_true rfl, Nat.le_of_ble_eq_true rfl⟩) (preS_x hX hbl hbA hS) rfl rfl hl.1 rfl (lv_room (Nat.le_of_ble_eq_true rfl)) dX0_holds_101 ⟨by show 7 * k1 + 3 + 0 ≤ 85; omega, by show 322 * k1 + 129 + 0 ≤ 4054; omega⟩) (fun r101 e101 => ?_)
    obtain rfl : r101 = (cv xs L (6 * k1 + 3)) := e101
    refine cw_i (va_runV (As := [.int (nI 2), .int (nI k1), .int (nI 0), .int (cv xs L (6 * k1 + 1)), .int (cv xs L (6 * k1 + 2)), .int (cv xs L (6 * k1 + 3))]) (rest := []) ⟨hx, hb, hml, hown, hts⟩ (met_act l D t ad2 p2 m2 H.size hq2 hm2 (nI 2) (nI k1) (nI 0) (cv xs L (6 * k1 + 1)) (cv xs L (6 * k1 + 2)) (cv xs L (6 * k1 + 3))) (cwV 6 hts (lw_V q187 q189 qs3 q6 q190) rfl rfl rfl (by decide +kernel) ⟨Nat.le_of_ble_eq_true rfl, Nat.le_of_ble_eq_true rfl⟩) (preV_w 0 0 hK hP hD rfl rfl) rfl rfl hl.1 rfl (lv_room (Nat.le_of_ble_eq_true rfl)) dX0_holds_104 ⟨by show 7 * k1 + 3 + 4 ≤ 85; omega, by show 322 * k1 + 129 + 193 ≤ 4054; omega⟩) hD hS hA (fun r104 u104 H locs hp104 hP hD hS => ?_)
    obtain ⟨rfl, hq3, hm3, h03⟩ := hp104
    obtain ⟨ad3, p3, m3⟩ := u104
    have hP : va_P D vwCl (WW t ad3 p3 p3 m3 p3 m3) H := hP
    have hD : va_D (va_A (WW t ad (fun _ => 5) (fun _ => 5) (fun _ _ => 0) (fun _ => 5) (fun _ _ => 0)) s.heap.size) (WW t ad3 p3 p3 m3 p3 m3) := hD
    have hq3 : ∀ j, 3 ≤ p3 j ∧ p3 j ≤ 6 := hq3
    have hm3 : ∀ j, Ok (m3 j) := hm3
    have h03 : ad3 0 = ad2 0 := h03
    rw [← h03] at hl
    refine lv_if_eq (tgt := 117) hx hb dX0_holds_107 (by decide) (fun c107 => absurd c107 (by decide)) (fun c107 => ?_)
    refine lv_aload_n hx hb dX0_holds_110 rfl (lv_at hl 1 rfl) ?_
    refine vp_callSi (W.runV (As := []) (rest := []) ⟨hx, hb, hml, hown, hts⟩ (met_are l D t ad3 p3 m3 hq3 hm3) (cwV 0 hts (lw_V q141 q143 qs2 q6 q144) rfl rfl rfl (by decide +kernel) ⟨Nat.le_of_ble_eq_true rfl, Nat.le_of_ble_eq_true rfl⟩) (preV_r 0 0 hK hP rfl rfl) rfl rfl hl.1 rfl (lv_room (Nat.le_of_ble_eq_true rfl)) dX0_holds_111 ⟨by show 7 * k1 + 3 + 4 + 0 ≤ 85; omega, by show 322 * k1 + 129 + 193 + 0 ≤ 4054; omega⟩) (fun r111 e111 => ?_)
    obtain rfl : r111 = (nI 1) := e111
    refine lv_if_ne (tgt := 119) hx hb dX0_holds_114 (by decide) (fun c114 => ?_) (fun c114 => absurd c114 (by decide))
    refine lv_iinc (v := (nI (k1 + 1))) (lv' := [(2, .int (nI (k1 + 1))), (0, .ref (ad3 0)), (1, .ref b1)]) hx hb dX0_holds_119 hl (k := 0) rfl (nI_1 k1) (by decide) rfl (fun ls hl => ?_)
    refine lv_goto (tgt := 11) hx hb dX0_holds_122 (by decide) ?_
    refine W.widen (k := 7 * (k1 + 1)) (n := 322 * (k1 + 1)) (by omega) (by omega) ?_
    exact ih (k1 + 1, ad3, p3, m3) _ _ ls (by show 3 - (k1 + 1) < 3 - k1; omega) ⟨hlt, hq3, hm3, hP, hD, hS⟩ (lv_sub hl [0, 1, 2] rfl)
end
section
/-! WHAT HOLDS AT THE START: the classes, the array classes, the strings -/
set_option maxRecDepth 100000
theorem arr_start {s : State} {b0 : Addr} {ty : FieldType} (h : (Cond.arrayClass ty).before #[Value.ref b0] s = true) (hp : ∀ C, ty ≠ .object C) : ∃ cA, ArrOfT s cA ty ∧ va_RA s cA ty := by
  obtain ⟨c, k, comp, h1, h2, h3⟩ := Cond.arrayClass_spec h
  refine ⟨c, fun N z => ⟨(fun k h => by cases h), k, h2, comp, h3⟩, ?_⟩
  cases ty with
  | object C => exact absurd rfl (hp C)
  | _ => exact h1
theorem str_start {s : State} {b0 : Addr} {own tx : String} {k : Nat} (h1 : (Cond.stringRef own k tx).before #[Value.ref b0] s = true) (h2 : (Cond.exactly (Term.string own k) "java/lang/String").before #[Value.ref b0] s = true) : SR own k tx s := by
  obtain ⟨a, c, cell, kk, h3, -⟩ := Cond.exactly_spec h2
  exact ⟨a, vk_R.of h1 h3⟩
theorem KK_start {s : State} {b0 : Addr} (hts : ∀ w ∈ lw_tbl, w.before #[Value.ref b0] s = true) (hg : (Jvm.Cond.and given_1 narrow_1).before #[Value.ref b0] s = true) : ∃ (D : va_G) (t : Nat → ClassId), KK D t s := by
  obtain ⟨c0, iS0, hKn0⟩ := u_known (C := RX0) (T := TX0) (N := 3) (n := 3) hts (fun w h => lw_all_tbl (in_X0 w h)) (hts _ (lw_all_tbl q22))
  obtain ⟨c1, iS1, hKn1⟩ := u_known (C := RX1) (T := TX1) (N := 1) (n := 1) hts (fun w h => lw_all_tbl (in_X1 w h)) (hts _ (lw_all_tbl q30))
  obtain ⟨c2, iS2, hKn2⟩ := u_known (C := RX2) (T := TX2) (N := 1) (n := 1) hts (fun w h => lw_all_tbl (in_X2 w h)) (hts _ (lw_all_tbl q110))
  obtain ⟨dC, dI, hKc⟩ : ∃ (dC : Nat → ClassId) (dI : Nat → Nat → Nat), ∀ (k : Nat) (q : vw_C), vwCl[k]? = some q → u_Kn s q.1 q.2.1 q.2.2 (dC k) (dI k) := by
    refine ⟨fun k => if k = 0 then c0 else if k = 1 then c1 else c2, fun k => if k = 0 then iS0 else if k = 1 then iS1 else iS2, ?_⟩
    intro k q hq
    match k, hq with
    | 0, hq => cases hq; exact hKn0
    | 1, hq => cases hq; exact hKn1
    | 2, hq => cases hq; exact hKn2
    | k + 3, hq => simp [vwCl] at hq
  obtain ⟨tI, hI1, hI2⟩ := arr_start (ty := .int) (hts _ (lw_all_tbl q135)) (fun _ h => by cases h)
  obtain ⟨tJ, hJ1, hJ2⟩ := arr_start (ty := .long) (hts _ (lw_all_tbl q136)) (fun _ h => by cases h)
  obtain ⟨tB, hB1, hB2⟩ := arr_start (ty := .byte) (hts _ (lw_all_tbl q108)) (fun _ h => by cases h)
  obtain ⟨compU, tU, kU, hU1, -, hU3, hU4, hU5⟩ := Cond.arrayOver_spec (hts _ q36)
  obtain ⟨compM, tM, kM, hM1, -, hM3, hM4, hM5⟩ := arrayOverA_spec (hts _ q124)
  have hs := flat_of_before _ hg
  refine ⟨(dC, dI), fun k => if k = 0 then tI else if k = 1 then tJ else if k = 2 then tB else if k = 3 then tU else tM, ⟨hKc, ?_⟩, va_AO.of (hts _ q36), over_moved (Vm.Alike.refl _) (hts _ q124), va_Nw.of rfl (hts _ q276), str_start (hts _ q259) (hs _ (by decide +kernel)), str_start (hts _ q263) (hs _ (by decide +kernel)), str_start (hts _ q291) (hs _ (by decide +kernel))⟩
  intro k q hq
  match k, hq with
  | 0, hq => cases hq; exact ⟨hI1, hI2⟩
  | 1, hq => cases hq; exact ⟨hJ1, hJ2⟩
  | 2, hq => cases hq; exact ⟨hB1, hB2⟩
  | 3, hq => cases hq; exact ⟨fun N z => ⟨(fun k h => by cases h), kU, hU3, compU, hU4⟩, kU, compU, hU3, hU4, hU1, hU5⟩
  | 4, hq => cases hq; exact ⟨fun N z => ⟨(fun k h => by cases h), kM, hM3, compM, hM4⟩, hM5⟩
  | k + 5, hq => simp [tyA] at hq
end
section
/-! THE CLAIM OUT OF ONE WALK OF THE LAW'S BODY. Your part is whole_start (and what it stands on); all else here is the same for every law, but numbers. -/
def R_law : String := "UltraSketchDeskLaw"
def lw_P (b : Addr) (xs : List Int32) (args : Array Value) (s : State) : Prop := args = #[.ref b] ∧ s.IntsAt b xs ∧ xs.length ≤ 96 ∧ (Jvm.Cond.and given_1 narrow_1).before args s = true
def lw_Q (_ : Array Value) (s : State) (o : Outcome) (t : State) : Prop := o = .returned (some (.int 1)) ∧ Framed s o t [] 1200192 5500522
def lw_Z (below : List Frame) (a : Array Value) (s : State) : State → Prop := fun t => ∃ o, t.status = .running ∧ Ended t below o ∧ lw_Q a s o t
/-- the law's own end, with 1 on the stack, nothing written that was there before, its room as the claim has it -/
theorem lw_ret {p : Program} {l : Launch} {e : Env} {s : State} {m : MethodId} {below : List Frame} {meth : Method} {c : Code} {b : Nat} (hx : p.tables.exec = Jvm.exec) (hb : c.code = code) (hr : meth.sig.returnType = ret) (hlocks : meth.locks = false) {pc : Nat} {H : Heap} {ls : Array Slot} (hdg : decode code pc = .ok (.ireturn, 1)) : W p l e room_1 s m #[Value.ref b] below meth c H [] 1200192 5500522 (lw_Z below #[Value.ref b] s) (F0 m pc ls [.int 1]) := by
  intro T hT X
  obtain ⟨fs, hret, hrun, hended, hW, hframe⟩ := X.leave (v := some (.int 1)) (hlocks := hlocks) (fun h => by rw [hr] at h; cases h)
  have hmeth' : T.vm.method? m = some meth := X.method'
  refine ⟨T.setFrames fs, ?_, .returned (some (.int 1)), hrun, hended, rfl, ⟨_, rfl⟩, hW, hframe⟩
  jvm_step X.here [X.here.top, hx, hb, hdg, hmeth', hr, ret, narrow_b1]
  (try refine ⟨rfl, ?_⟩); (try refine ⟨rfl, ?_⟩)
  first | (intro acts; rw [hret _ acts rfl rfl rfl]) | rw [hret _ _ rfl rfl rfl]
  exact Steps.refl _
/-- what holds at the law's entry: the machine, the code, the tables' words (any of lw_tbl by 'hts w (by decide +kernel)'), the script of L ints xs at the cell b, what the Statement gives of the start (any of its parts by flat_of_before) -/
def lw_At (p : Program) (s : State) (m : MethodId) (meth : Method) (c : Code) (b L : Nat) (xs : Nat → Int32) : Prop :=
  p.tables.exec = Jvm.exec ∧ c.code = code ∧ meth.sig.returnType = ret ∧ c.maxLocals = 1 ∧ s.vm.findClass R_law = some m.cls ∧ (∀ w ∈ lw_tbl, w.before #[Value.ref b] s = true) ∧ va_X b L xs s s.heap ∧ b < s.heap.size ∧ meth.locks = false ∧ (Jvm.Cond.and given_1 narrow_1).before #[Value.ref b] s = true
-- ===== YOUR PART BEGINS =====
set_option maxHeartbeats 4000000 in
set_option maxRecDepth 100000 in
/-- from the entry, for every script of at most 96 ints, the law comes to its end with true ('hflags': the launch's flags, for a law that throws: no stack traces) -/
theorem whole_start {p : Program} {e : Env} {s : State} {m : MethodId} {below : List Frame} {meth : Method} {c : Code} (l : Launch) (hflags : l.flags = flags0) {b L : Nat} {xs : Nat → Int32} (hL : L ≤ 96) (C0 : lw_At p s m meth c b L xs) : W p l e room_1 s m #[Value.ref b] below meth c s.heap [] 0 0 (lw_Z below #[Value.ref b] s) (entryFrame m ([Value.ref b] : List Value).toArray 1) := by
  obtain ⟨hx, hb, hr, hml, hown0, hts0, hX, hbl, hlocks, hgv⟩ := id C0
  obtain ⟨D, t, hK⟩ := KK_start hts0 hgv
  have hts : ∀ w ∈ lw_all, w.before #[Value.ref b] s = true := fun w h => hts0 w (lw_all_tbl h)
  have hown : s.vm.findClass RX0 = some m.cls := hown0
  have hA : ∀ q : Nat, s.heap.size ≤ q → (fun q : Nat => s.heap.size ≤ q) q := fun _ h => h
  have hbA : ¬ (fun q : Nat => s.heap.size ≤ q) b := Nat.not_le.mpr hbl
  have hS : va_S (fun q : Nat => s.heap.size ≤ q) s.heap s.heap [] := va_S.rf
  have hP : va_P D vwCl [] s.heap := fun k q h => by simp at h
  have hD : va_D (fun q : Nat => s.heap.size ≤ q) [] := ⟨fun i j p q h => by simp at h, fun k q h => by simp at h⟩
  refine w_entry [.ref b] (Nat.le_of_ble_eq_true rfl) (fun ls hl => ?_)
  have hl : lv_has ls 1 [(0, .ref b)] := hl
  refine va_new (ci := 0) (fs := [.null, .null, .null]) (C := RX0) (T := TX0) (N := 3) hx hb hts in_X0 tyX0 tyX0_ok hown (hts _ q21) (hts _ q22) (hts _ q6) hK.1 hP hD hS hA rfl (fun j hj => by rcases (show j = 0 ∨ j = 1 ∨ j = 2 by omega) with rfl | rfl | rfl <;> rfl) (Nat.le_of_ble_eq_true rfl) (Nat.le_of_ble_eq_true rfl) dL_law_0 (fun z0 H hP hD hS => ?_)
  have hP : va_P D vwCl [(z0, .inr (0, [.null, .null, .null]))] H := hP
  have hD : va_D (fun q : Nat => s.heap.size ≤ q) [(z0, .inr (0, [.null, .null, .null]))] := hD
  refine W.widen (k := 1) (n := 3) (by omega) (by omega) ?_
  refine lv_dup hx hb dL_law_3 rfl ?_
  refine cw_v (va_runI (As := []) (rest := [.ref z0]) ⟨hx, hb, hml, hown, hts⟩ (met_linit l D t H.size z0) (cwI 0 hts (lw_meth q25) rfl rfl rfl (hts _ q6) (hts _ q23) (hts _ q24) rfl (by decide +kernel) ⟨Nat.le_of_ble_eq_true rfl, Nat.le_of_ble_eq_true rfl⟩) (preS_w hK hP hD) rfl rfl hl.1 rfl (lv_room (Nat.le_of_ble_eq_true rfl)) dL_law_4 ⟨Nat.le_of_ble_eq_true rfl, Nat.le_of_ble_eq_true rfl⟩) hD hS hA (fun ad H locs had hP hD hS => ?_)
  have had : ad 0 = z0 := had
  rw [← had]
  have hP : va_P D vwCl (WW t ad (fun _ => 5) (fun _ => 5) (fun _ _ => 0) (fun _ => 5) (fun _ _ => 0)) H := hP
  have hD : va_D (fun q : Nat => s.heap.size ≤ q) (WW t ad (fun _ => 5) (fun _ => 5) (fun _ _ => 0) (fun _ => 5) (fun _ _ => 0)) := hD
  refine W.widen (k := 14) (n := 304) (by omega) (by omega) ?_
  refine lv_aload_n hx hb dL_law_7 rfl (lv_at hl 0 rfl) ?_
  have hF := A_all hD hS hA
  refine va_calli (va_runV (As := [.ref b]) (rest := []) ⟨hx, hb, hml, hown, hts⟩ (met_holds l D t ad H.size b L xs hL) (cwV 1 hts (lw_V q137 q139 qs1 q6 q140) rfl rfl rfl (by decide +kernel) ⟨Nat.le_of_ble_eq_true rfl, Nat.le_of_ble_eq_true rfl⟩) ⟨fun a U g mk q => ⟨q.1, KK.same (U := U.calling g mk a) rfl q.2.1, q.2.2.1, q.2.2.2.1, q.2.2.2.2.1, va_X.moved (u := U) (U := U.calling g mk a) (Vm.Alike.refl U.vm) q.2.2.2.2.2.1, q.2.2.2.2.2.2⟩, va_recv hK.1 hP (ci := 0) (q0 := 0) rfl rfl, fun U hU hW => ⟨rfl, hK.warm hW, by rw [hU], by rw [hU]; exact hP, hD.weaken (fun _ _ _ _ => trivial), va_X.moved hW.alike (by rw [hU]; exact va_X.kept hX (hS.2.1 b hbl hbA)), by rw [hU]; exact Nat.lt_of_lt_of_le hbl hS.1, fun k q hq h9 => by have h8 := hD.2 k q hq; rw [h9] at h8; exact hbA h8⟩⟩ rfl rfl hl.1 rfl (lv_room (Nat.le_of_ble_eq_true rfl)) dL_law_8 ⟨Nat.le_of_ble_eq_true rfl, Nat.le_of_ble_eq_true rfl⟩) hS (fun q _ h => hF q h) hF (fun r u t2 H1 locs1 ht hvm hw1 hB hz1 hk1 hS => ?_)
  have hw1 : r = nI 1 := hw1
  subst hw1
  refine va_forget (fun q hq => hS.2.2 q hq) ?_
  refine W.widen (k := 1200192) (n := 5500522) (Nat.le_of_ble_eq_true rfl) (Nat.le_of_ble_eq_true rfl) ?_
  exact lw_ret hx hb hr hlocks dL_law_11
-- ===== YOUR PART ENDS =====
set_option maxHeartbeats 4000000 in
theorem lw_walk (l : Launch) (hflags : l.flags = flags0) (b : Addr) (xs : List Int32) : MetFree l x (headSpec (Jvm.Cond.code x code maxLocals ret :: tables_1) room_1) (lw_P b xs) (fun _ _ _ _ _ => True) lw_Q := by
  refine MetFree.of_bodyS (code := code) (maxLocals := maxLocals) (ret := ret) (by decide) ?_ ?_
  · intro args s m h hn
    obtain ⟨meth, c, h1, h2, h3, h4, h5, h6, -, -⟩ := Cond.code_spec hn (atoms_spec (ws := Jvm.Cond.code x code maxLocals ret :: tables_1) h _ List.mem_cons_self)
    exact ⟨meth, c, h1, h2, h3, h4, h5, h6⟩
  · intro p e s m args below meth c s₁ B hml0 hP _
    obtain ⟨rfl, hx, hbd, hgv⟩ := hP
    obtain ⟨scr, harrAt, hlist, hof, hsmall⟩ := hx
    obtain ⟨hcb, hkn, -, -⟩ := State.arrayAt?_spec harrAt
    have hown : s.vm.findClass R_law = some m.cls := findClass_of_methodNamed B.named
    have hts0 : ∀ c ∈ (Jvm.Cond.code x code maxLocals ret :: tables_1), c.before #[Value.ref b] s = true := atoms_spec (ws := Jvm.Cond.code x code maxLocals ret :: tables_1) B.pre
    have hts : ∀ w ∈ lw_tbl, w.before #[Value.ref b] s = true := k2_hts_sels lw_privs (fun w hw => hts0 w (List.mem_cons_of_mem _ hw)) lw_privs_ok
    have hml : c.maxLocals = 1 := B.maxLocals_eq (hts0 _ List.mem_cons_self)
    have X₀ : Stand p l e room_1 s m #[Value.ref b] below meth c s₁ [] 0 0 := Stand.of_body B
    have hh0 : s₁.heap = s.heap := by rw [B.state]; rfl
    have hsz : scr.slots.size = xs.length := by rw [← Array.length_toList, hlist, List.length_map]
    have hval : ∀ j : Nat, j < xs.length → scr.slots[j]? = some (.int (xs.getD j 0)) := fun j hj => by
      rw [← Array.getElem?_toList, hlist]
      simp [hj]
    have hbl : b < s.heap.size := (Array.getElem?_eq_some_iff.mp hcb).1
    have hX : va_X b xs.length (fun j => xs.getD j 0) s s.heap := ⟨scr, hcb, hof, hkn, hsz, hval⟩
    have K : W p l e room_1 s m #[Value.ref b] below meth c s₁.heap [] 0 0 (lw_Z below #[Value.ref b] s) (entryFrame m ([Value.ref b] : List Value).toArray 1) := by
      rw [hh0]
      exact whole_start l hflags hbd ⟨B.exec, B.bytes, B.returns, hml, hown, hts, hX, hbl, B.notSynchronized, hgv⟩
    obtain ⟨t, a1, o, b1, b2, b3⟩ := K s₁ rfl X₀
    exact ⟨t, o, a1, b1, b2, b3⟩
theorem lw_pre_spec {args : Array Value} {s : State} (h : (Jvm.Cond.and given_1 narrow_1).before args s = true) (hr : rest_1_c.before args s = true) : ∃ (b : Addr) (xs : List Int32), lw_P b xs args s := by
  have hs := flat_of_before _ h
  have hq := flat_of_before _ hr
  have hc : (Cond.count 1).before args s = true := hs _ (by decide +kernel)
  have harr : (Cond.arrayOf (.arg 0) .int).before args s = true := hs _ (by decide +kernel)
  have hle : (Cond.le (.length (.arg 0)) (.int 96)).before args s = true := hs _ (by decide +kernel)
  have hlen : (Cond.isInt (.length (.arg 0))).before args s = true := hq _ (by decide +kernel)
  have hall : (Cond.all (.arg 0) (.isInt (.elem (.arg 0) (.index 0)))).before args s = true := hq _ (by decide +kernel)
  obtain ⟨b, xs, hb, hx⟩ := State.ints_of_pre rfl harr hlen hall
  have hsm : xs.length < 2 ^ 31 := hx.choose_spec.2.2.2
  have hev : (Term.length (.arg 0)).eval args s none [] s = some (.int xs.length.toInt32) := hx.length_eval hb
  have hv := Cond.le_ints hev (show (Term.int 96).eval args s none [] s = some (.int 96) from rfl)
  have hd : xs.length.toInt32 ≤ 96 := by
    simpa [Cond.before, Cond.holds, hv] using hle
  have hN : xs.length ≤ 96 := (Int32.ofNat_le_ofNat hsm (by decide)).mp (show Int32.ofNat xs.length ≤ Int32.ofNat 96 from hd)
  exact ⟨b, xs, Cond.one_arg hc (show args[0]? = some (.ref b) from hb), hx, hN, h⟩
theorem lw_comes (l : Launch) (hflags : l.flags = flags0) : Comes l x (Jvm.Cond.code x code maxLocals ret :: tables_1) room_1 (fun tb e args s => Calls_1 tb e args s ∧ rest_1 tb e args s ∧ Pre_1 tb e args s)
    (fun _ _ args s o t => lw_Q args s o t) := by
  intro p e ha hc hk s m args below hf hfit hheap happ hpre
  obtain ⟨b, xs, hP⟩ := lw_pre_spec hpre.2.2 hpre.2.1
  obtain ⟨k, o, h1, h2, h3, hQ⟩ := lw_walk l hflags b xs p e ha hc hk s m args below hf ((Spec.applies_iff_loose hf).mp happ).1 hP trivial
  exact ⟨k, o, h1, h2, h3, hQ⟩
theorem lw_frame {s t : State} {o : Outcome} {args : Array Value} (h : Framed s o t [] 1200192 5500522) :
    Framed s o t (fieldLocs frame_1_writes args s ++ arrayLocs frame_1_arrays args s ++ staticLocs frame_1_statics s) 1200192 5500522 := h
theorem lw_limb (L : Cond) (hL : ∀ (args : Array Value) (s t : State), L.after args s (.returned (some (.int 1))) t = true) :
    ArmFor flags0 classFile x code maxLocals ret World_1 tables_1 room_1 Calls_1 rest_1 Pre_1
      (fun tb e a s o t => postC L tb e a s o t ∧ Framed s o t (fieldLocs frame_1_writes a s ++ arrayLocs frame_1_arrays a s ++ staticLocs frame_1_statics s) 1200192 5500522) := by
  intro l hflags _ _ p e ha hc hk s m args below hf hfit hheap happ hpre
  obtain ⟨k, o, h1, h2, h3, rfl, hF⟩ := lw_comes l hflags p e ha hc hk s m args below hf hfit hheap happ hpre
  exact ⟨k, _, h1, h2, h3, hL args s _, lw_frame hF⟩
theorem i_vc : Claimed_1_1 ∧ Claimed_1_2 := ⟨lw_limb limb_1_1 (fun args s t => by simp [limb_1_1, Cond.after, Cond.holds, Cond.value]), lw_limb limb_1_2 (fun args s t => Cond.after_iff.mpr (by
  first | (rw [show limb_1_2 = Cond.eq .result (.int 1) from rfl, Cond.eq_ints (x := 1) (y := 1) rfl rfl]; simp; done) | (simp [limb_1_2, Cond.value, Term.eval]; done)))⟩
end
