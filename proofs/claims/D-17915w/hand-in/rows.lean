section
-- ===== PART A: goes FIRST, ahead of the names: the tables' words, and 'selects' of the private methods out of them =====
/-- a private method of a class that the tables say can be made, by its rows of tables_1 -/
def lw_okq (q : MethodName × Nat) : Prop := (q.1.cls ≠ "java/lang/invoke/MethodHandle" ∧ q.1.cls ≠ "java/lang/invoke/VarHandle") ∧ Cond.instantiable q.1.cls q.2 ∈ tables_1 ∧ Cond.privateMethod q.1 ∈ tables_1 ∧ Cond.instanceMethod q.1 ∈ tables_1
set_option maxRecDepth 100000
theorem lw_t1 {w : Cond} (h : w ∈ tables_1_1) : w ∈ tables_1 := List.mem_append_left _ h
theorem lw_t2 {w : Cond} (h : w ∈ tables_1_2) : w ∈ tables_1 := List.mem_append_right _ (List.mem_append_left _ h)
theorem lw_t3 {w : Cond} (h : w ∈ tables_1_3) : w ∈ tables_1 := List.mem_append_right _ (List.mem_append_right _ h)
theorem lw_p0 : lw_okq (⟨"java/lang/Throwable", "fillInStackTrace", "(I)Ljava/lang/Throwable;"⟩, 6) := ⟨⟨by decide +kernel, by decide +kernel⟩, lw_t1 (List.mem_of_getElem? (i := 88) rfl), lw_t1 (List.mem_of_getElem? (i := 86) rfl), lw_t1 (List.mem_of_getElem? (i := 87) rfl)⟩
theorem lw_p1 : lw_okq (⟨"java/util/ArrayList", "add", "(Ljava/lang/Object;[Ljava/lang/Object;I)V"⟩, 3) := ⟨⟨by decide +kernel, by decide +kernel⟩, lw_t1 (List.mem_of_getElem? (i := 149) rfl), lw_t2 (List.mem_of_getElem? (i := 56) rfl), lw_t2 (List.mem_of_getElem? (i := 57) rfl)⟩
theorem lw_p2 : lw_okq (⟨"java/util/ArrayList", "grow", "()[Ljava/lang/Object;"⟩, 3) := ⟨⟨by decide +kernel, by decide +kernel⟩, lw_t1 (List.mem_of_getElem? (i := 149) rfl), lw_t2 (List.mem_of_getElem? (i := 60) rfl), lw_t2 (List.mem_of_getElem? (i := 61) rfl)⟩
theorem lw_p3 : lw_okq (⟨"java/util/ArrayList", "grow", "(I)[Ljava/lang/Object;"⟩, 3) := ⟨⟨by decide +kernel, by decide +kernel⟩, lw_t1 (List.mem_of_getElem? (i := 149) rfl), lw_t2 (List.mem_of_getElem? (i := 64) rfl), lw_t2 (List.mem_of_getElem? (i := 65) rfl)⟩
theorem lw_p4 : lw_okq (⟨"java/util/ArrayList", "fastRemove", "([Ljava/lang/Object;I)V"⟩, 3) := ⟨⟨by decide +kernel, by decide +kernel⟩, lw_t1 (List.mem_of_getElem? (i := 149) rfl), lw_t2 (List.mem_of_getElem? (i := 182) rfl), lw_t2 (List.mem_of_getElem? (i := 183) rfl)⟩
theorem lw_p5 : lw_okq (⟨"LongRadixHeapDeskModel", "lay", "(II)Z"⟩, 4) := ⟨⟨by decide +kernel, by decide +kernel⟩, lw_t3 (List.mem_of_getElem? (i := 38) rfl), lw_t3 (List.mem_of_getElem? (i := 62) rfl), lw_t3 (List.mem_of_getElem? (i := 63) rfl)⟩
theorem lw_p6 : lw_okq (⟨"LongRadixHeapDeskModel", "first", "(I)I"⟩, 4) := ⟨⟨by decide +kernel, by decide +kernel⟩, lw_t3 (List.mem_of_getElem? (i := 38) rfl), lw_t3 (List.mem_of_getElem? (i := 75) rfl), lw_t3 (List.mem_of_getElem? (i := 76) rfl)⟩
def lw_privs_1 : List (MethodName × Nat) := [(⟨"java/lang/Throwable", "fillInStackTrace", "(I)Ljava/lang/Throwable;"⟩, 6), (⟨"java/util/ArrayList", "add", "(Ljava/lang/Object;[Ljava/lang/Object;I)V"⟩, 3), (⟨"java/util/ArrayList", "grow", "()[Ljava/lang/Object;"⟩, 3), (⟨"java/util/ArrayList", "grow", "(I)[Ljava/lang/Object;"⟩, 3), (⟨"java/util/ArrayList", "fastRemove", "([Ljava/lang/Object;I)V"⟩, 3), (⟨"LongRadixHeapDeskModel", "lay", "(II)Z"⟩, 4), (⟨"LongRadixHeapDeskModel", "first", "(I)I"⟩, 4)]
theorem lw_r1 : ∀ q ∈ lw_privs_1, lw_okq q := List.forall_mem_cons.mpr ⟨lw_p0, List.forall_mem_cons.mpr ⟨lw_p1, List.forall_mem_cons.mpr ⟨lw_p2, List.forall_mem_cons.mpr ⟨lw_p3, List.forall_mem_cons.mpr ⟨lw_p4, List.forall_mem_cons.mpr ⟨lw_p5, List.forall_mem_cons.mpr ⟨lw_p6, fun _ h => absurd h List.not_mem_nil⟩⟩⟩⟩⟩⟩⟩
def lw_privs : List (MethodName × Nat) := lw_privs_1
def lw_tbl : List Cond := k2_sels lw_privs ++ tables_1
theorem lw_privs_ok : ∀ q ∈ lw_privs, lw_okq q := lw_r1
-- ===== ONE list of words for every method: the tables' words that hold all through a run =====
def lw_all : List Cond := lw_tbl.filter goodWord
/-- a word of the tables by its place: claim/WORDS.tsv -/
theorem lw_w {w : Cond} (i : Nat) (h : lw_tbl[i]? = some w) (g : goodWord w = true) : w ∈ lw_all := List.mem_filter.mpr ⟨List.mem_of_getElem? h, g⟩
theorem lw_all_tbl {w : Cond} (h : w ∈ lw_all) : w ∈ lw_tbl := (List.mem_filter.mp h).1
theorem lw_self : GoodIn lw_all lw_all := fun w h => ⟨h, good_of_word (List.mem_filter.mp h).2⟩
/-- a class's field words, by their places -/
theorem lw_in (ws : List Cond) (ps : List Nat) (hp : ws = ps.filterMap (fun i => lw_tbl[i]?)) (hg : ws.all goodWord = true) : ∀ w ∈ ws, w ∈ lw_all := by
  intro w h
  have h1 := List.all_eq_true.mp hg w h
  rw [hp] at h
  obtain ⟨i, -, hi⟩ := List.mem_filterMap.mp h
  exact lw_w i hi h1
/-- the words of a contract for the method y with code b, L locals, answer r -/
abbrev ws_ (y : MethodName) (b : ByteArray) (L : Nat) (r : Option FieldType) : List Cond := Cond.code y b L r :: lw_all
theorem lw_meth {y : MethodName} {b : ByteArray} {L : Nat} {r : Option FieldType} (h : Cond.code y b L r ∈ lw_all) : GoodIn lw_all (ws_ y b L r) := by
  intro w hw
  rcases List.mem_cons.mp hw with e | e
  · rw [e]
    exact lw_self _ h
  · exact lw_self _ e
theorem lw_app {a c : List Cond} (ha : ∀ w ∈ a, w ∈ lw_all) (hc : GoodIn lw_all c) : GoodIn lw_all (a ++ c) := by
  intro w hw
  rcases List.mem_append.mp hw with e | e
  · exact lw_self w (ha w e)
  · exact hc w e
/-- what a call through an object asks: cwV n hts (lw_V ..) -/
theorem lw_V {own : String} {idx : Nat} {C : String} {y : MethodName} {b : ByteArray} {L : Nat} {r : Option FieldType} (h1 : Cond.methodLink own idx y ∈ lw_all) (h2 : Cond.instanceMethod y ∈ lw_all) (h3 : Cond.selects C y y ∈ lw_all) (h4 : Cond.initialized C ∈ lw_all) (h5 : Cond.code y b L r ∈ lw_all) : GoodIn lw_all (wsV own idx C y (ws_ y b L r)) := by
  refine lw_app ?_ (lw_meth h5)
  intro w hw
  simp only [List.mem_cons, List.not_mem_nil, or_false] at hw
  rcases hw with e | e | e | e
  · rw [e]; exact h1
  · rw [e]; exact h2
  · rw [e]; exact h3
  · rw [e]; exact h4
/-- what a static call asks: va_cwS n hts (lw_S ..) -/
theorem lw_S {own : String} {idx : Nat} {y : MethodName} {b : ByteArray} {L : Nat} {r : Option FieldType} (h1 : Cond.methodLink own idx y ∈ lw_all) (h2 : Cond.static y ∈ lw_all) (h3 : Cond.initialized y.cls ∈ lw_all) (h4 : Cond.code y b L r ∈ lw_all) : GoodIn lw_all (va_wsS own idx y (ws_ y b L r)) := by
  refine lw_app ?_ (lw_meth h4)
  intro w hw
  simp only [List.mem_cons, List.not_mem_nil, or_false] at hw
  rcases hw with e | e | e
  · rw [e]; exact h1
  · rw [e]; exact h2
  · rw [e]; exact h3
/-- the words of a contract for a method WITH HANDLERS (hh: its table) -/
abbrev wsW_ (y : MethodName) (b : ByteArray) (L : Nat) (r : Option FieldType) (hh : List (Nat × Nat × Nat × Nat)) : List Cond := Cond.codeWith y b L r hh :: lw_all
theorem lw_methW {y : MethodName} {b : ByteArray} {L : Nat} {r : Option FieldType} {hh : List (Nat × Nat × Nat × Nat)} (h : Cond.codeWith y b L r hh ∈ lw_all) : GoodIn lw_all (wsW_ y b L r hh) := by
  intro w hw
  rcases List.mem_cons.mp hw with e | e
  · rw [e]
    exact lw_self _ h
  · exact lw_self _ e
/-- any list of words by their places (lw_in), good -/
theorem lw_good {ws : List Cond} (h : ∀ w ∈ ws, w ∈ lw_all) : GoodIn lw_all ws := fun w hw => lw_self w (h w hw)
/-- what a call of a method with handlers asks: vx_cwVW n hts (lw_VW ..), vx_cwSW n hts (lw_SW ..) -/
theorem lw_VW {own : String} {idx : Nat} {C : String} {y : MethodName} {b : ByteArray} {L : Nat} {r : Option FieldType} {hh : List (Nat × Nat × Nat × Nat)} (h1 : Cond.methodLink own idx y ∈ lw_all) (h2 : Cond.instanceMethod y ∈ lw_all) (h3 : Cond.selects C y y ∈ lw_all) (h4 : Cond.initialized C ∈ lw_all) (h5 : Cond.codeWith y b L r hh ∈ lw_all) : GoodIn lw_all (wsV own idx C y (wsW_ y b L r hh)) := by
  refine lw_app ?_ (lw_methW h5)
  intro w hw
  simp only [List.mem_cons, List.not_mem_nil, or_false] at hw
  rcases hw with e | e | e | e
  · rw [e]; exact h1
  · rw [e]; exact h2
  · rw [e]; exact h3
  · rw [e]; exact h4
theorem lw_SW {own : String} {idx : Nat} {y : MethodName} {b : ByteArray} {L : Nat} {r : Option FieldType} {hh : List (Nat × Nat × Nat × Nat)} (h1 : Cond.methodLink own idx y ∈ lw_all) (h2 : Cond.static y ∈ lw_all) (h3 : Cond.initialized y.cls ∈ lw_all) (h4 : Cond.codeWith y b L r hh ∈ lw_all) : GoodIn lw_all (va_wsS own idx y (wsW_ y b L r hh)) := by
  refine lw_app ?_ (lw_methW h4)
  intro w hw
  simp only [List.mem_cons, List.not_mem_nil, or_false] at hw
  rcases hw with e | e | e
  · rw [e]; exact h1
  · rw [e]; exact h2
  · rw [e]; exact h3
/-- a word by its place in its run of the tables -/
theorem lw_at {r : List Cond} (hr : ∀ w ∈ r, w ∈ lw_tbl) {w : Cond} (i : Nat) (h : r[i]? = some w) : w ∈ lw_tbl := hr w (List.mem_of_getElem? h)
theorem lw_g {w : Cond} (h : w ∈ lw_tbl) (g : goodWord w = true) : w ∈ lw_all := List.mem_filter.mpr ⟨h, g⟩
theorem lw_ms : ∀ w ∈ k2_sels lw_privs, w ∈ lw_tbl := fun w h => show w ∈ k2_sels lw_privs ++ tables_1 from List.mem_append_left _ h
theorem lw_m1 : ∀ w ∈ tables_1_1, w ∈ lw_tbl := fun w h => show w ∈ k2_sels lw_privs ++ tables_1 from List.mem_append_right (k2_sels lw_privs) (show w ∈ tables_1 from List.mem_append_left _ h)
theorem lw_m2 : ∀ w ∈ tables_1_2, w ∈ lw_tbl := fun w h => show w ∈ k2_sels lw_privs ++ tables_1 from List.mem_append_right (k2_sels lw_privs) (show w ∈ tables_1 from List.mem_append_right _ (List.mem_append_left _ h))
theorem lw_m3 : ∀ w ∈ tables_1_3, w ∈ lw_tbl := fun w h => show w ∈ k2_sels lw_privs ++ tables_1 from List.mem_append_right (k2_sels lw_privs) (show w ∈ tables_1 from List.mem_append_right _ (List.mem_append_right _ h))
theorem qs0 : (Cond.selects "java/lang/Throwable" ⟨"java/lang/Throwable", "fillInStackTrace", "(I)Ljava/lang/Throwable;"⟩ ⟨"java/lang/Throwable", "fillInStackTrace", "(I)Ljava/lang/Throwable;"⟩) ∈ lw_all := lw_g (lw_at lw_ms 0 rfl) rfl
theorem qs1 : (Cond.selects "java/util/ArrayList" ⟨"java/util/ArrayList", "add", "(Ljava/lang/Object;[Ljava/lang/Object;I)V"⟩ ⟨"java/util/ArrayList", "add", "(Ljava/lang/Object;[Ljava/lang/Object;I)V"⟩) ∈ lw_all := lw_g (lw_at lw_ms 1 rfl) rfl
theorem qs2 : (Cond.selects "java/util/ArrayList" ⟨"java/util/ArrayList", "grow", "()[Ljava/lang/Object;"⟩ ⟨"java/util/ArrayList", "grow", "()[Ljava/lang/Object;"⟩) ∈ lw_all := lw_g (lw_at lw_ms 2 rfl) rfl
theorem qs3 : (Cond.selects "java/util/ArrayList" ⟨"java/util/ArrayList", "grow", "(I)[Ljava/lang/Object;"⟩ ⟨"java/util/ArrayList", "grow", "(I)[Ljava/lang/Object;"⟩) ∈ lw_all := lw_g (lw_at lw_ms 3 rfl) rfl
theorem qs4 : (Cond.selects "java/util/ArrayList" ⟨"java/util/ArrayList", "fastRemove", "([Ljava/lang/Object;I)V"⟩ ⟨"java/util/ArrayList", "fastRemove", "([Ljava/lang/Object;I)V"⟩) ∈ lw_all := lw_g (lw_at lw_ms 4 rfl) rfl
theorem qs5 : (Cond.selects "LongRadixHeapDeskModel" ⟨"LongRadixHeapDeskModel", "lay", "(II)Z"⟩ ⟨"LongRadixHeapDeskModel", "lay", "(II)Z"⟩) ∈ lw_all := lw_g (lw_at lw_ms 5 rfl) rfl
theorem qs6 : (Cond.selects "LongRadixHeapDeskModel" ⟨"LongRadixHeapDeskModel", "first", "(I)I"⟩ ⟨"LongRadixHeapDeskModel", "first", "(I)I"⟩) ∈ lw_all := lw_g (lw_at lw_ms 6 rfl) rfl
/-! DECODE ROWS BY BYTES: one lemma an opcode; a method's code is cut into short pieces once, and a row reads its own piece alone. -/
set_option maxRecDepth 100000
/-- the code has just these bytes from pc on -/
def DkAt (code : ByteArray) (pc : Nat) (bs : List UInt8) : Prop := ∀ (j : Nat) (b : UInt8), bs[j]? = some b → code.data.toList[pc + j]? = some b
/-- the piece W has the bytes bs from its place j on -/
def dkIn (W : List UInt8) (j : Nat) (bs : List UInt8) : Bool := decide ((W.drop j).take bs.length = bs)
theorem dk_seg {l W T : List UInt8} {o o2 : Nat} (h : l.drop o = W ++ T) (n : Nat) (hn : W.length = n) (ho : o + n = o2) : l.drop o2 = T := by
  subst ho
  rw [← List.drop_drop, h, List.drop_left' hn]
theorem dk_at {code : ByteArray} {W T bs : List UInt8} {o pc : Nat} (h : code.data.toList.drop o = W ++ T) (j : Nat) (hp : o + j = pc) (hw : dkIn W j bs = true) : DkAt code pc bs := by
  subst hp
  intro i b e
  have h1 := of_decide_eq_true hw
  have h2 : i < bs.length := (List.getElem?_eq_some_iff.mp e).1
  have h3 : W[j + i]? = some b := by
    rw [← h1, List.getElem?_take, if_pos h2, List.getElem?_drop] at e
    exact e
  have h4 : j + i < W.length := (List.getElem?_eq_some_iff.mp h3).1
  have h5 : (code.data.toList.drop o)[j + i]? = some b := by
    rw [h, List.getElem?_append_left h4]
    exact h3
  rw [List.getElem?_drop, ← Nat.add_assoc] at h5
  exact h5
theorem dk_u1 {A : ByteArray} {p : Nat} {b : UInt8} (h : A.data.toList[p]? = some b) : (Reader.u1 : Reader DecodeError Nat) A p = .ok (b.toNat, p + 1) := by
  obtain ⟨h1, h2⟩ := List.getElem?_eq_some_iff.mp h
  have h3 : p < A.size := by simpa using h1
  have h4 : A[p]'h3 = b := h2
  have e : (Reader.u1 : Reader DecodeError Nat) A p = (if h : p < A.size then .ok (A[p].toNat, p + 1) else .error (HasTruncated.truncated p)) := by
    show (do if h : p < A.size then do set (p + 1); Pure.pure A[p].toNat else MonadExcept.throw (HasTruncated.truncated p) : Reader DecodeError Nat) A p = _
    by_cases hi : p < A.size
    · rw [dif_pos hi, dif_pos hi]; rfl
    · rw [dif_neg hi, dif_neg hi]; rfl
  rw [e, dif_pos h3, h4]
theorem dk_bind {α β : Type} {r : Reader DecodeError α} {f : α → Reader DecodeError β} {A : ByteArray} {p s : Nat} {a : α} (h : r A p = .ok (a, s)) : (r >>= f) A p = f a A s := by
  show (do let (a, s) ← r A p; f a A s : Except DecodeError (β × Nat)) = _
  rw [h]
  rfl
theorem dk_map {α β : Type} {r : Reader DecodeError α} {g : α → β} {A : ByteArray} {p s : Nat} {a : α} (h : r A p = .ok (a, s)) : (g <$> r) A p = .ok (g a, s) := by
  show (do let (a, s) ← r A p; .ok (g a, s) : Except DecodeError (β × Nat)) = _
  rw [h]
  rfl
theorem dk_u2 {A : ByteArray} {p : Nat} {a b : UInt8} (h : A.data.toList[p]? = some a) (h2 : A.data.toList[p + 1]? = some b) : (Reader.u2 : Reader DecodeError Nat) A p = .ok (a.toNat * 256 + b.toNat, p + 2) := by
  show (Reader.u1 >>= fun hi => Reader.u1 >>= fun lo => Pure.pure (hi * 256 + lo) : Reader DecodeError Nat) A p = _
  rw [dk_bind (dk_u1 h), dk_bind (dk_u1 h2)]
  rfl
theorem dk_of {code : ByteArray} {pc n : Nat} {i : Instr} (h : Decoder.instr pc code pc = .ok (i, pc + n)) : decode code pc = .ok (i, n) := by
  have e : decode code pc = (match Decoder.instr pc code pc with | .error x => .error x | .ok (j, s) => .ok (j, s - pc)) := by
    show (do let (j, s) ← Decoder.instr pc code pc; Pure.pure (j, s - pc) : Except DecodeError (Instr × Nat)) = _
    cases Decoder.instr pc code pc <;> rfl
  rw [e, h]
  show Except.ok (i, pc + n - pc) = _
  rw [Nat.add_sub_cancel_left]
theorem dk_1 {code : ByteArray} {pc : Nat} (h : DkAt code pc [1]) : decode code pc = .ok (.aconst_null, 1) := dk_of ((dk_bind (dk_u1 (h 0 _ rfl))).trans rfl)
theorem dk_2 {code : ByteArray} {pc : Nat} (h : DkAt code pc [2]) : decode code pc = .ok (.iconst (-1), 1) := dk_of ((dk_bind (dk_u1 (h 0 _ rfl))).trans rfl)
theorem dk_3 {code : ByteArray} {pc : Nat} (h : DkAt code pc [3]) : decode code pc = .ok (.iconst 0, 1) := dk_of ((dk_bind (dk_u1 (h 0 _ rfl))).trans rfl)
theorem dk_4 {code : ByteArray} {pc : Nat} (h : DkAt code pc [4]) : decode code pc = .ok (.iconst 1, 1) := dk_of ((dk_bind (dk_u1 (h 0 _ rfl))).trans rfl)
theorem dk_5 {code : ByteArray} {pc : Nat} (h : DkAt code pc [5]) : decode code pc = .ok (.iconst 2, 1) := dk_of ((dk_bind (dk_u1 (h 0 _ rfl))).trans rfl)
theorem dk_6 {code : ByteArray} {pc : Nat} (h : DkAt code pc [6]) : decode code pc = .ok (.iconst 3, 1) := dk_of ((dk_bind (dk_u1 (h 0 _ rfl))).trans rfl)
theorem dk_7 {code : ByteArray} {pc : Nat} (h : DkAt code pc [7]) : decode code pc = .ok (.iconst 4, 1) := dk_of ((dk_bind (dk_u1 (h 0 _ rfl))).trans rfl)
theorem dk_9 {code : ByteArray} {pc : Nat} (h : DkAt code pc [9]) : decode code pc = .ok (.lconst 0, 1) := dk_of ((dk_bind (dk_u1 (h 0 _ rfl))).trans rfl)
theorem dk_10 {code : ByteArray} {pc : Nat} (h : DkAt code pc [10]) : decode code pc = .ok (.lconst 1, 1) := dk_of ((dk_bind (dk_u1 (h 0 _ rfl))).trans rfl)
theorem dk_15 {code : ByteArray} {pc : Nat} (h : DkAt code pc [15]) : decode code pc = .ok (.dconst 1, 1) := dk_of ((dk_bind (dk_u1 (h 0 _ rfl))).trans rfl)
theorem dk_16 {code : ByteArray} {pc : Nat} (a : UInt8) (h : DkAt code pc [16, a]) : decode code pc = .ok (.bipush (Reader.signed 8 a.toNat), 2) := dk_of ((dk_bind (dk_u1 (h 0 _ rfl))).trans ((dk_bind (dk_map (dk_u1 (h 1 _ rfl)))).trans rfl))
theorem dk_17 {code : ByteArray} {pc : Nat} (a b : UInt8) (h : DkAt code pc [17, a, b]) : decode code pc = .ok (.sipush (Reader.signed 16 (a.toNat * 256 + b.toNat)), 3) := dk_of ((dk_bind (dk_u1 (h 0 _ rfl))).trans ((dk_bind (dk_map (dk_u2 (h 1 _ rfl) (h 2 _ rfl)))).trans rfl))
theorem dk_18 {code : ByteArray} {pc : Nat} (a : UInt8) (h : DkAt code pc [18, a]) : decode code pc = .ok (.ldc a.toNat, 2) := dk_of ((dk_bind (dk_u1 (h 0 _ rfl))).trans ((dk_bind (dk_u1 (h 1 _ rfl))).trans rfl))
theorem dk_20 {code : ByteArray} {pc : Nat} (a b : UInt8) (h : DkAt code pc [20, a, b]) : decode code pc = .ok (.ldc2_w (a.toNat * 256 + b.toNat), 3) := dk_of ((dk_bind (dk_u1 (h 0 _ rfl))).trans ((dk_bind (dk_u2 (h 1 _ rfl) (h 2 _ rfl))).trans rfl))
theorem dk_21 {code : ByteArray} {pc : Nat} (a : UInt8) (h : DkAt code pc [21, a]) : decode code pc = .ok (.iload a.toNat, 2) := dk_of ((dk_bind (dk_u1 (h 0 _ rfl))).trans ((dk_bind (dk_u1 (h 1 _ rfl))).trans rfl))
theorem dk_25 {code : ByteArray} {pc : Nat} (a : UInt8) (h : DkAt code pc [25, a]) : decode code pc = .ok (.aload a.toNat, 2) := dk_of ((dk_bind (dk_u1 (h 0 _ rfl))).trans ((dk_bind (dk_u1 (h 1 _ rfl))).trans rfl))
theorem dk_26 {code : ByteArray} {pc : Nat} (h : DkAt code pc [26]) : decode code pc = .ok (.iload_n 0, 1) := dk_of ((dk_bind (dk_u1 (h 0 _ rfl))).trans rfl)
theorem dk_27 {code : ByteArray} {pc : Nat} (h : DkAt code pc [27]) : decode code pc = .ok (.iload_n 1, 1) := dk_of ((dk_bind (dk_u1 (h 0 _ rfl))).trans rfl)
theorem dk_28 {code : ByteArray} {pc : Nat} (h : DkAt code pc [28]) : decode code pc = .ok (.iload_n 2, 1) := dk_of ((dk_bind (dk_u1 (h 0 _ rfl))).trans rfl)
theorem dk_29 {code : ByteArray} {pc : Nat} (h : DkAt code pc [29]) : decode code pc = .ok (.iload_n 3, 1) := dk_of ((dk_bind (dk_u1 (h 0 _ rfl))).trans rfl)
theorem dk_30 {code : ByteArray} {pc : Nat} (h : DkAt code pc [30]) : decode code pc = .ok (.lload_n 0, 1) := dk_of ((dk_bind (dk_u1 (h 0 _ rfl))).trans rfl)
theorem dk_31 {code : ByteArray} {pc : Nat} (h : DkAt code pc [31]) : decode code pc = .ok (.lload_n 1, 1) := dk_of ((dk_bind (dk_u1 (h 0 _ rfl))).trans rfl)
theorem dk_32 {code : ByteArray} {pc : Nat} (h : DkAt code pc [32]) : decode code pc = .ok (.lload_n 2, 1) := dk_of ((dk_bind (dk_u1 (h 0 _ rfl))).trans rfl)
theorem dk_33 {code : ByteArray} {pc : Nat} (h : DkAt code pc [33]) : decode code pc = .ok (.lload_n 3, 1) := dk_of ((dk_bind (dk_u1 (h 0 _ rfl))).trans rfl)
theorem dk_38 {code : ByteArray} {pc : Nat} (h : DkAt code pc [38]) : decode code pc = .ok (.dload_n 0, 1) := dk_of ((dk_bind (dk_u1 (h 0 _ rfl))).trans rfl)
theorem dk_40 {code : ByteArray} {pc : Nat} (h : DkAt code pc [40]) : decode code pc = .ok (.dload_n 2, 1) := dk_of ((dk_bind (dk_u1 (h 0 _ rfl))).trans rfl)
theorem dk_41 {code : ByteArray} {pc : Nat} (h : DkAt code pc [41]) : decode code pc = .ok (.dload_n 3, 1) := dk_of ((dk_bind (dk_u1 (h 0 _ rfl))).trans rfl)
theorem dk_42 {code : ByteArray} {pc : Nat} (h : DkAt code pc [42]) : decode code pc = .ok (.aload_n 0, 1) := dk_of ((dk_bind (dk_u1 (h 0 _ rfl))).trans rfl)
theorem dk_43 {code : ByteArray} {pc : Nat} (h : DkAt code pc [43]) : decode code pc = .ok (.aload_n 1, 1) := dk_of ((dk_bind (dk_u1 (h 0 _ rfl))).trans rfl)
theorem dk_44 {code : ByteArray} {pc : Nat} (h : DkAt code pc [44]) : decode code pc = .ok (.aload_n 2, 1) := dk_of ((dk_bind (dk_u1 (h 0 _ rfl))).trans rfl)
theorem dk_45 {code : ByteArray} {pc : Nat} (h : DkAt code pc [45]) : decode code pc = .ok (.aload_n 3, 1) := dk_of ((dk_bind (dk_u1 (h 0 _ rfl))).trans rfl)
theorem dk_46 {code : ByteArray} {pc : Nat} (h : DkAt code pc [46]) : decode code pc = .ok (.iaload, 1) := dk_of ((dk_bind (dk_u1 (h 0 _ rfl))).trans rfl)
theorem dk_50 {code : ByteArray} {pc : Nat} (h : DkAt code pc [50]) : decode code pc = .ok (.aaload, 1) := dk_of ((dk_bind (dk_u1 (h 0 _ rfl))).trans rfl)
theorem dk_54 {code : ByteArray} {pc : Nat} (a : UInt8) (h : DkAt code pc [54, a]) : decode code pc = .ok (.istore a.toNat, 2) := dk_of ((dk_bind (dk_u1 (h 0 _ rfl))).trans ((dk_bind (dk_u1 (h 1 _ rfl))).trans rfl))
theorem dk_58 {code : ByteArray} {pc : Nat} (a : UInt8) (h : DkAt code pc [58, a]) : decode code pc = .ok (.astore a.toNat, 2) := dk_of ((dk_bind (dk_u1 (h 0 _ rfl))).trans ((dk_bind (dk_u1 (h 1 _ rfl))).trans rfl))
theorem dk_60 {code : ByteArray} {pc : Nat} (h : DkAt code pc [60]) : decode code pc = .ok (.istore_n 1, 1) := dk_of ((dk_bind (dk_u1 (h 0 _ rfl))).trans rfl)
theorem dk_61 {code : ByteArray} {pc : Nat} (h : DkAt code pc [61]) : decode code pc = .ok (.istore_n 2, 1) := dk_of ((dk_bind (dk_u1 (h 0 _ rfl))).trans rfl)
theorem dk_62 {code : ByteArray} {pc : Nat} (h : DkAt code pc [62]) : decode code pc = .ok (.istore_n 3, 1) := dk_of ((dk_bind (dk_u1 (h 0 _ rfl))).trans rfl)
theorem dk_65 {code : ByteArray} {pc : Nat} (h : DkAt code pc [65]) : decode code pc = .ok (.lstore_n 2, 1) := dk_of ((dk_bind (dk_u1 (h 0 _ rfl))).trans rfl)
theorem dk_73 {code : ByteArray} {pc : Nat} (h : DkAt code pc [73]) : decode code pc = .ok (.dstore_n 2, 1) := dk_of ((dk_bind (dk_u1 (h 0 _ rfl))).trans rfl)
theorem dk_74 {code : ByteArray} {pc : Nat} (h : DkAt code pc [74]) : decode code pc = .ok (.dstore_n 3, 1) := dk_of ((dk_bind (dk_u1 (h 0 _ rfl))).trans rfl)
theorem dk_75 {code : ByteArray} {pc : Nat} (h : DkAt code pc [75]) : decode code pc = .ok (.astore_n 0, 1) := dk_of ((dk_bind (dk_u1 (h 0 _ rfl))).trans rfl)
theorem dk_76 {code : ByteArray} {pc : Nat} (h : DkAt code pc [76]) : decode code pc = .ok (.astore_n 1, 1) := dk_of ((dk_bind (dk_u1 (h 0 _ rfl))).trans rfl)
theorem dk_77 {code : ByteArray} {pc : Nat} (h : DkAt code pc [77]) : decode code pc = .ok (.astore_n 2, 1) := dk_of ((dk_bind (dk_u1 (h 0 _ rfl))).trans rfl)
theorem dk_78 {code : ByteArray} {pc : Nat} (h : DkAt code pc [78]) : decode code pc = .ok (.astore_n 3, 1) := dk_of ((dk_bind (dk_u1 (h 0 _ rfl))).trans rfl)
theorem dk_79 {code : ByteArray} {pc : Nat} (h : DkAt code pc [79]) : decode code pc = .ok (.iastore, 1) := dk_of ((dk_bind (dk_u1 (h 0 _ rfl))).trans rfl)
theorem dk_83 {code : ByteArray} {pc : Nat} (h : DkAt code pc [83]) : decode code pc = .ok (.aastore, 1) := dk_of ((dk_bind (dk_u1 (h 0 _ rfl))).trans rfl)
theorem dk_87 {code : ByteArray} {pc : Nat} (h : DkAt code pc [87]) : decode code pc = .ok (.pop, 1) := dk_of ((dk_bind (dk_u1 (h 0 _ rfl))).trans rfl)
theorem dk_89 {code : ByteArray} {pc : Nat} (h : DkAt code pc [89]) : decode code pc = .ok (.dup, 1) := dk_of ((dk_bind (dk_u1 (h 0 _ rfl))).trans rfl)
theorem dk_90 {code : ByteArray} {pc : Nat} (h : DkAt code pc [90]) : decode code pc = .ok (.dup_x1, 1) := dk_of ((dk_bind (dk_u1 (h 0 _ rfl))).trans rfl)
theorem dk_93 {code : ByteArray} {pc : Nat} (h : DkAt code pc [93]) : decode code pc = .ok (.dup2_x1, 1) := dk_of ((dk_bind (dk_u1 (h 0 _ rfl))).trans rfl)
theorem dk_96 {code : ByteArray} {pc : Nat} (h : DkAt code pc [96]) : decode code pc = .ok (.iadd, 1) := dk_of ((dk_bind (dk_u1 (h 0 _ rfl))).trans rfl)
theorem dk_97 {code : ByteArray} {pc : Nat} (h : DkAt code pc [97]) : decode code pc = .ok (.ladd, 1) := dk_of ((dk_bind (dk_u1 (h 0 _ rfl))).trans rfl)
theorem dk_99 {code : ByteArray} {pc : Nat} (h : DkAt code pc [99]) : decode code pc = .ok (.dadd, 1) := dk_of ((dk_bind (dk_u1 (h 0 _ rfl))).trans rfl)
theorem dk_100 {code : ByteArray} {pc : Nat} (h : DkAt code pc [100]) : decode code pc = .ok (.isub, 1) := dk_of ((dk_bind (dk_u1 (h 0 _ rfl))).trans rfl)
theorem dk_101 {code : ByteArray} {pc : Nat} (h : DkAt code pc [101]) : decode code pc = .ok (.lsub, 1) := dk_of ((dk_bind (dk_u1 (h 0 _ rfl))).trans rfl)
theorem dk_103 {code : ByteArray} {pc : Nat} (h : DkAt code pc [103]) : decode code pc = .ok (.dsub, 1) := dk_of ((dk_bind (dk_u1 (h 0 _ rfl))).trans rfl)
theorem dk_111 {code : ByteArray} {pc : Nat} (h : DkAt code pc [111]) : decode code pc = .ok (.ddiv, 1) := dk_of ((dk_bind (dk_u1 (h 0 _ rfl))).trans rfl)
theorem dk_122 {code : ByteArray} {pc : Nat} (h : DkAt code pc [122]) : decode code pc = .ok (.ishr, 1) := dk_of ((dk_bind (dk_u1 (h 0 _ rfl))).trans rfl)
theorem dk_123 {code : ByteArray} {pc : Nat} (h : DkAt code pc [123]) : decode code pc = .ok (.lshr, 1) := dk_of ((dk_bind (dk_u1 (h 0 _ rfl))).trans rfl)
theorem dk_126 {code : ByteArray} {pc : Nat} (h : DkAt code pc [126]) : decode code pc = .ok (.iand, 1) := dk_of ((dk_bind (dk_u1 (h 0 _ rfl))).trans rfl)
theorem dk_127 {code : ByteArray} {pc : Nat} (h : DkAt code pc [127]) : decode code pc = .ok (.land, 1) := dk_of ((dk_bind (dk_u1 (h 0 _ rfl))).trans rfl)
theorem dk_131 {code : ByteArray} {pc : Nat} (h : DkAt code pc [131]) : decode code pc = .ok (.lxor, 1) := dk_of ((dk_bind (dk_u1 (h 0 _ rfl))).trans rfl)
theorem dk_132 {code : ByteArray} {pc : Nat} (a b : UInt8) (h : DkAt code pc [132, a, b]) : decode code pc = .ok (.iinc a.toNat (Reader.signed 8 b.toNat), 3) := dk_of ((dk_bind (dk_u1 (h 0 _ rfl))).trans ((dk_bind (dk_u1 (h 1 _ rfl))).trans ((dk_bind (dk_map (dk_u1 (h 2 _ rfl)))).trans rfl)))
theorem dk_133 {code : ByteArray} {pc : Nat} (h : DkAt code pc [133]) : decode code pc = .ok (.i2l, 1) := dk_of ((dk_bind (dk_u1 (h 0 _ rfl))).trans rfl)
theorem dk_135 {code : ByteArray} {pc : Nat} (h : DkAt code pc [135]) : decode code pc = .ok (.i2d, 1) := dk_of ((dk_bind (dk_u1 (h 0 _ rfl))).trans rfl)
theorem dk_136 {code : ByteArray} {pc : Nat} (h : DkAt code pc [136]) : decode code pc = .ok (.l2i, 1) := dk_of ((dk_bind (dk_u1 (h 0 _ rfl))).trans rfl)
theorem dk_138 {code : ByteArray} {pc : Nat} (h : DkAt code pc [138]) : decode code pc = .ok (.l2d, 1) := dk_of ((dk_bind (dk_u1 (h 0 _ rfl))).trans rfl)
theorem dk_142 {code : ByteArray} {pc : Nat} (h : DkAt code pc [142]) : decode code pc = .ok (.d2i, 1) := dk_of ((dk_bind (dk_u1 (h 0 _ rfl))).trans rfl)
theorem dk_143 {code : ByteArray} {pc : Nat} (h : DkAt code pc [143]) : decode code pc = .ok (.d2l, 1) := dk_of ((dk_bind (dk_u1 (h 0 _ rfl))).trans rfl)
theorem dk_148 {code : ByteArray} {pc : Nat} (h : DkAt code pc [148]) : decode code pc = .ok (.lcmp, 1) := dk_of ((dk_bind (dk_u1 (h 0 _ rfl))).trans rfl)
theorem dk_151 {code : ByteArray} {pc : Nat} (h : DkAt code pc [151]) : decode code pc = .ok (.dcmp .l, 1) := dk_of ((dk_bind (dk_u1 (h 0 _ rfl))).trans rfl)
theorem dk_153 {code : ByteArray} {pc : Nat} (a b : UInt8) (h : DkAt code pc [153, a, b]) : decode code pc = .ok (.ifCond .eq (Reader.signed 16 (a.toNat * 256 + b.toNat)), 3) := dk_of ((dk_bind (dk_u1 (h 0 _ rfl))).trans ((dk_bind (dk_map (dk_u2 (h 1 _ rfl) (h 2 _ rfl)))).trans rfl))
theorem dk_154 {code : ByteArray} {pc : Nat} (a b : UInt8) (h : DkAt code pc [154, a, b]) : decode code pc = .ok (.ifCond .ne (Reader.signed 16 (a.toNat * 256 + b.toNat)), 3) := dk_of ((dk_bind (dk_u1 (h 0 _ rfl))).trans ((dk_bind (dk_map (dk_u2 (h 1 _ rfl) (h 2 _ rfl)))).trans rfl))
theorem dk_155 {code : ByteArray} {pc : Nat} (a b : UInt8) (h : DkAt code pc [155, a, b]) : decode code pc = .ok (.ifCond .lt (Reader.signed 16 (a.toNat * 256 + b.toNat)), 3) := dk_of ((dk_bind (dk_u1 (h 0 _ rfl))).trans ((dk_bind (dk_map (dk_u2 (h 1 _ rfl) (h 2 _ rfl)))).trans rfl))
theorem dk_156 {code : ByteArray} {pc : Nat} (a b : UInt8) (h : DkAt code pc [156, a, b]) : decode code pc = .ok (.ifCond .ge (Reader.signed 16 (a.toNat * 256 + b.toNat)), 3) := dk_of ((dk_bind (dk_u1 (h 0 _ rfl))).trans ((dk_bind (dk_map (dk_u2 (h 1 _ rfl) (h 2 _ rfl)))).trans rfl))
theorem dk_157 {code : ByteArray} {pc : Nat} (a b : UInt8) (h : DkAt code pc [157, a, b]) : decode code pc = .ok (.ifCond .gt (Reader.signed 16 (a.toNat * 256 + b.toNat)), 3) := dk_of ((dk_bind (dk_u1 (h 0 _ rfl))).trans ((dk_bind (dk_map (dk_u2 (h 1 _ rfl) (h 2 _ rfl)))).trans rfl))
theorem dk_158 {code : ByteArray} {pc : Nat} (a b : UInt8) (h : DkAt code pc [158, a, b]) : decode code pc = .ok (.ifCond .le (Reader.signed 16 (a.toNat * 256 + b.toNat)), 3) := dk_of ((dk_bind (dk_u1 (h 0 _ rfl))).trans ((dk_bind (dk_map (dk_u2 (h 1 _ rfl) (h 2 _ rfl)))).trans rfl))
theorem dk_159 {code : ByteArray} {pc : Nat} (a b : UInt8) (h : DkAt code pc [159, a, b]) : decode code pc = .ok (.if_icmp .eq (Reader.signed 16 (a.toNat * 256 + b.toNat)), 3) := dk_of ((dk_bind (dk_u1 (h 0 _ rfl))).trans ((dk_bind (dk_map (dk_u2 (h 1 _ rfl) (h 2 _ rfl)))).trans rfl))
theorem dk_160 {code : ByteArray} {pc : Nat} (a b : UInt8) (h : DkAt code pc [160, a, b]) : decode code pc = .ok (.if_icmp .ne (Reader.signed 16 (a.toNat * 256 + b.toNat)), 3) := dk_of ((dk_bind (dk_u1 (h 0 _ rfl))).trans ((dk_bind (dk_map (dk_u2 (h 1 _ rfl) (h 2 _ rfl)))).trans rfl))
theorem dk_161 {code : ByteArray} {pc : Nat} (a b : UInt8) (h : DkAt code pc [161, a, b]) : decode code pc = .ok (.if_icmp .lt (Reader.signed 16 (a.toNat * 256 + b.toNat)), 3) := dk_of ((dk_bind (dk_u1 (h 0 _ rfl))).trans ((dk_bind (dk_map (dk_u2 (h 1 _ rfl) (h 2 _ rfl)))).trans rfl))
theorem dk_162 {code : ByteArray} {pc : Nat} (a b : UInt8) (h : DkAt code pc [162, a, b]) : decode code pc = .ok (.if_icmp .ge (Reader.signed 16 (a.toNat * 256 + b.toNat)), 3) := dk_of ((dk_bind (dk_u1 (h 0 _ rfl))).trans ((dk_bind (dk_map (dk_u2 (h 1 _ rfl) (h 2 _ rfl)))).trans rfl))
theorem dk_163 {code : ByteArray} {pc : Nat} (a b : UInt8) (h : DkAt code pc [163, a, b]) : decode code pc = .ok (.if_icmp .gt (Reader.signed 16 (a.toNat * 256 + b.toNat)), 3) := dk_of ((dk_bind (dk_u1 (h 0 _ rfl))).trans ((dk_bind (dk_map (dk_u2 (h 1 _ rfl) (h 2 _ rfl)))).trans rfl))
theorem dk_164 {code : ByteArray} {pc : Nat} (a b : UInt8) (h : DkAt code pc [164, a, b]) : decode code pc = .ok (.if_icmp .le (Reader.signed 16 (a.toNat * 256 + b.toNat)), 3) := dk_of ((dk_bind (dk_u1 (h 0 _ rfl))).trans ((dk_bind (dk_map (dk_u2 (h 1 _ rfl) (h 2 _ rfl)))).trans rfl))
theorem dk_165 {code : ByteArray} {pc : Nat} (a b : UInt8) (h : DkAt code pc [165, a, b]) : decode code pc = .ok (.if_acmp .eq (Reader.signed 16 (a.toNat * 256 + b.toNat)), 3) := dk_of ((dk_bind (dk_u1 (h 0 _ rfl))).trans ((dk_bind (dk_map (dk_u2 (h 1 _ rfl) (h 2 _ rfl)))).trans rfl))
theorem dk_166 {code : ByteArray} {pc : Nat} (a b : UInt8) (h : DkAt code pc [166, a, b]) : decode code pc = .ok (.if_acmp .ne (Reader.signed 16 (a.toNat * 256 + b.toNat)), 3) := dk_of ((dk_bind (dk_u1 (h 0 _ rfl))).trans ((dk_bind (dk_map (dk_u2 (h 1 _ rfl) (h 2 _ rfl)))).trans rfl))
theorem dk_167 {code : ByteArray} {pc : Nat} (a b : UInt8) (h : DkAt code pc [167, a, b]) : decode code pc = .ok (.goto (Reader.signed 16 (a.toNat * 256 + b.toNat)), 3) := dk_of ((dk_bind (dk_u1 (h 0 _ rfl))).trans ((dk_bind (dk_map (dk_u2 (h 1 _ rfl) (h 2 _ rfl)))).trans rfl))
theorem dk_172 {code : ByteArray} {pc : Nat} (h : DkAt code pc [172]) : decode code pc = .ok (.ireturn, 1) := dk_of ((dk_bind (dk_u1 (h 0 _ rfl))).trans rfl)
theorem dk_175 {code : ByteArray} {pc : Nat} (h : DkAt code pc [175]) : decode code pc = .ok (.dreturn, 1) := dk_of ((dk_bind (dk_u1 (h 0 _ rfl))).trans rfl)
theorem dk_176 {code : ByteArray} {pc : Nat} (h : DkAt code pc [176]) : decode code pc = .ok (.areturn, 1) := dk_of ((dk_bind (dk_u1 (h 0 _ rfl))).trans rfl)
theorem dk_177 {code : ByteArray} {pc : Nat} (h : DkAt code pc [177]) : decode code pc = .ok (.return_, 1) := dk_of ((dk_bind (dk_u1 (h 0 _ rfl))).trans rfl)
theorem dk_178 {code : ByteArray} {pc : Nat} (a b : UInt8) (h : DkAt code pc [178, a, b]) : decode code pc = .ok (.getstatic (a.toNat * 256 + b.toNat), 3) := dk_of ((dk_bind (dk_u1 (h 0 _ rfl))).trans ((dk_bind (dk_u2 (h 1 _ rfl) (h 2 _ rfl))).trans rfl))
theorem dk_180 {code : ByteArray} {pc : Nat} (a b : UInt8) (h : DkAt code pc [180, a, b]) : decode code pc = .ok (.getfield (a.toNat * 256 + b.toNat), 3) := dk_of ((dk_bind (dk_u1 (h 0 _ rfl))).trans ((dk_bind (dk_u2 (h 1 _ rfl) (h 2 _ rfl))).trans rfl))
theorem dk_181 {code : ByteArray} {pc : Nat} (a b : UInt8) (h : DkAt code pc [181, a, b]) : decode code pc = .ok (.putfield (a.toNat * 256 + b.toNat), 3) := dk_of ((dk_bind (dk_u1 (h 0 _ rfl))).trans ((dk_bind (dk_u2 (h 1 _ rfl) (h 2 _ rfl))).trans rfl))
theorem dk_182 {code : ByteArray} {pc : Nat} (a b : UInt8) (h : DkAt code pc [182, a, b]) : decode code pc = .ok (.invokevirtual (a.toNat * 256 + b.toNat), 3) := dk_of ((dk_bind (dk_u1 (h 0 _ rfl))).trans ((dk_bind (dk_u2 (h 1 _ rfl) (h 2 _ rfl))).trans rfl))
theorem dk_183 {code : ByteArray} {pc : Nat} (a b : UInt8) (h : DkAt code pc [183, a, b]) : decode code pc = .ok (.invokespecial (a.toNat * 256 + b.toNat), 3) := dk_of ((dk_bind (dk_u1 (h 0 _ rfl))).trans ((dk_bind (dk_u2 (h 1 _ rfl) (h 2 _ rfl))).trans rfl))
theorem dk_184 {code : ByteArray} {pc : Nat} (a b : UInt8) (h : DkAt code pc [184, a, b]) : decode code pc = .ok (.invokestatic (a.toNat * 256 + b.toNat), 3) := dk_of ((dk_bind (dk_u1 (h 0 _ rfl))).trans ((dk_bind (dk_u2 (h 1 _ rfl) (h 2 _ rfl))).trans rfl))
theorem dk_187 {code : ByteArray} {pc : Nat} (a b : UInt8) (h : DkAt code pc [187, a, b]) : decode code pc = .ok (.new (a.toNat * 256 + b.toNat), 3) := dk_of ((dk_bind (dk_u1 (h 0 _ rfl))).trans ((dk_bind (dk_u2 (h 1 _ rfl) (h 2 _ rfl))).trans rfl))
theorem dk_188_10 {code : ByteArray} {pc : Nat} (h : DkAt code pc [188, 10]) : decode code pc = .ok (.newarray .int, 2) := dk_of ((dk_bind (dk_u1 (h 0 _ rfl))).trans ((dk_bind (dk_u1 (h 1 _ rfl))).trans rfl))
theorem dk_189 {code : ByteArray} {pc : Nat} (a b : UInt8) (h : DkAt code pc [189, a, b]) : decode code pc = .ok (.anewarray (a.toNat * 256 + b.toNat), 3) := dk_of ((dk_bind (dk_u1 (h 0 _ rfl))).trans ((dk_bind (dk_u2 (h 1 _ rfl) (h 2 _ rfl))).trans rfl))
theorem dk_190 {code : ByteArray} {pc : Nat} (h : DkAt code pc [190]) : decode code pc = .ok (.arraylength, 1) := dk_of ((dk_bind (dk_u1 (h 0 _ rfl))).trans rfl)
theorem dk_191 {code : ByteArray} {pc : Nat} (h : DkAt code pc [191]) : decode code pc = .ok (.athrow, 1) := dk_of ((dk_bind (dk_u1 (h 0 _ rfl))).trans rfl)
theorem dk_192 {code : ByteArray} {pc : Nat} (a b : UInt8) (h : DkAt code pc [192, a, b]) : decode code pc = .ok (.checkcast (a.toNat * 256 + b.toNat), 3) := dk_of ((dk_bind (dk_u1 (h 0 _ rfl))).trans ((dk_bind (dk_u2 (h 1 _ rfl) (h 2 _ rfl))).trans rfl))
theorem dk_198 {code : ByteArray} {pc : Nat} (a b : UInt8) (h : DkAt code pc [198, a, b]) : decode code pc = .ok (.ifnull (Reader.signed 16 (a.toNat * 256 + b.toNat)), 3) := dk_of ((dk_bind (dk_u1 (h 0 _ rfl))).trans ((dk_bind (dk_map (dk_u2 (h 1 _ rfl) (h 2 _ rfl)))).trans rfl))
theorem dk_199 {code : ByteArray} {pc : Nat} (a b : UInt8) (h : DkAt code pc [199, a, b]) : decode code pc = .ok (.ifnonnull (Reader.signed 16 (a.toNat * 256 + b.toNat)), 3) := dk_of ((dk_bind (dk_u1 (h 0 _ rfl))).trans ((dk_bind (dk_map (dk_u2 (h 1 _ rfl) (h 2 _ rfl)))).trans rfl))
end
section
/-! LongRadixHeapDesk -/
set_option maxRecDepth 100000
def RX0 : String := "LongRadixHeapDesk"
def TX0 : u_T := fun k => match k with
  | 0 => ("LongRadixHeapDesk", "file", "[LLongRadixHeap;", true)
  | 1 => ("LongRadixHeapDesk", "floor", "[I", true)
  | _ => ("LongRadixHeapDesk", "puts", "I", false)
def tyX0 : Nat → FieldType := fun k => match k with
  | 0 => .array (.object "LongRadixHeap")
  | 1 => .array .int
  | _ => .int
abbrev wsX00 : List Cond := u_ws RX0 TX0 3
theorem nmX0 : ∀ a, a < 3 → ∀ b, b < 3 → a ≠ b → (TX0 a).2.1 ≠ (TX0 b).2.1 := by decide +kernel
theorem tyX0_ok : ∀ k, k < 3 → parseFieldDescriptor (TX0 k).2.2.1 = some (tyX0 k) := by decide +kernel
abbrev cX0_init : ByteArray := prog_3_method_1_code
def yX0_init : MethodName := ⟨RX0, "<init>", "()V"⟩
def dkwX0_init_0 : List UInt8 := [42, 183, 0, 1, 42, 184, 0, 7, 181, 0, 13, 42, 7, 188, 10, 181, 0, 17, 177]
abbrev dktX0_init_0 : List UInt8 := dkwX0_init_0 ++ []
theorem dksX0_init_0 : cX0_init.data.toList.drop 0 = dktX0_init_0 := by decide +kernel
theorem dX0_init_0 : decode cX0_init 0 = .ok (.aload_n 0, 1) := dk_42 (dk_at dksX0_init_0 0 rfl rfl)
theorem dX0_init_1 : decode cX0_init 1 = .ok (.invokespecial 1, 3) := dk_183 0 1 (dk_at dksX0_init_0 1 rfl rfl)
theorem dX0_init_4 : decode cX0_init 4 = .ok (.aload_n 0, 1) := dk_42 (dk_at dksX0_init_0 4 rfl rfl)
theorem dX0_init_5 : decode cX0_init 5 = .ok (.invokestatic 7, 3) := dk_184 0 7 (dk_at dksX0_init_0 5 rfl rfl)
theorem dX0_init_8 : decode cX0_init 8 = .ok (.putfield 13, 3) := dk_181 0 13 (dk_at dksX0_init_0 8 rfl rfl)
theorem dX0_init_11 : decode cX0_init 11 = .ok (.aload_n 0, 1) := dk_42 (dk_at dksX0_init_0 11 rfl rfl)
theorem dX0_init_12 : decode cX0_init 12 = .ok (.iconst 4, 1) := dk_7 (dk_at dksX0_init_0 12 rfl rfl)
theorem dX0_init_13 : decode cX0_init 13 = .ok (.newarray .int, 2) := dk_188_10 (dk_at dksX0_init_0 13 rfl rfl)
theorem dX0_init_15 : decode cX0_init 15 = .ok (.putfield 17, 3) := dk_181 0 17 (dk_at dksX0_init_0 15 rfl rfl)
theorem dX0_init_18 : decode cX0_init 18 = .ok (.return_, 1) := dk_177 (dk_at dksX0_init_0 18 rfl rfl)
abbrev cX0_make : ByteArray := prog_3_method_4_code
def yX0_make : MethodName := ⟨RX0, "make", "()[LLongRadixHeap;"⟩
def dkwX0_make_1 : List UInt8 := [42, 176]
abbrev dktX0_make_1 : List UInt8 := dkwX0_make_1 ++ []
def dkwX0_make_0 : List UInt8 := [7, 189, 0, 23, 75, 3, 60, 27, 7, 162, 0, 15, 42, 27, 184, 0, 25, 83, 132, 1, 1, 167, 255, 242]
abbrev dktX0_make_0 : List UInt8 := dkwX0_make_0 ++ dktX0_make_1
theorem dksX0_make_0 : cX0_make.data.toList.drop 0 = dktX0_make_0 := by decide +kernel
theorem dksX0_make_1 : cX0_make.data.toList.drop 24 = dktX0_make_1 := dk_seg dksX0_make_0 24 rfl rfl
theorem dX0_make_0 : decode cX0_make 0 = .ok (.iconst 4, 1) := dk_7 (dk_at dksX0_make_0 0 rfl rfl)
theorem dX0_make_1 : decode cX0_make 1 = .ok (.anewarray 23, 3) := dk_189 0 23 (dk_at dksX0_make_0 1 rfl rfl)
theorem dX0_make_4 : decode cX0_make 4 = .ok (.astore_n 0, 1) := dk_75 (dk_at dksX0_make_0 4 rfl rfl)
theorem dX0_make_5 : decode cX0_make 5 = .ok (.iconst 0, 1) := dk_3 (dk_at dksX0_make_0 5 rfl rfl)
theorem dX0_make_6 : decode cX0_make 6 = .ok (.istore_n 1, 1) := dk_60 (dk_at dksX0_make_0 6 rfl rfl)
theorem dX0_make_7 : decode cX0_make 7 = .ok (.iload_n 1, 1) := dk_27 (dk_at dksX0_make_0 7 rfl rfl)
theorem dX0_make_8 : decode cX0_make 8 = .ok (.iconst 4, 1) := dk_7 (dk_at dksX0_make_0 8 rfl rfl)
theorem dX0_make_9 : decode cX0_make 9 = .ok (.if_icmp .ge 15, 3) := dk_162 0 15 (dk_at dksX0_make_0 9 rfl rfl)
theorem dX0_make_12 : decode cX0_make 12 = .ok (.aload_n 0, 1) := dk_42 (dk_at dksX0_make_0 12 rfl rfl)
theorem dX0_make_13 : decode cX0_make 13 = .ok (.iload_n 1, 1) := dk_27 (dk_at dksX0_make_0 13 rfl rfl)
theorem dX0_make_14 : decode cX0_make 14 = .ok (.invokestatic 25, 3) := dk_184 0 25 (dk_at dksX0_make_0 14 rfl rfl)
theorem dX0_make_17 : decode cX0_make 17 = .ok (.aastore, 1) := dk_83 (dk_at dksX0_make_0 17 rfl rfl)
theorem dX0_make_18 : decode cX0_make 18 = .ok (.iinc 1 1, 3) := dk_132 1 1 (dk_at dksX0_make_0 18 rfl rfl)
theorem dX0_make_21 : decode cX0_make 21 = .ok (.goto (-14), 3) := dk_167 255 242 (dk_at dksX0_make_0 21 rfl rfl)
theorem dX0_make_24 : decode cX0_make 24 = .ok (.aload_n 0, 1) := dk_42 (dk_at dksX0_make_1 0 rfl rfl)
theorem dX0_make_25 : decode cX0_make 25 = .ok (.areturn, 1) := dk_176 (dk_at dksX0_make_1 1 rfl rfl)
abbrev cX0_fresh : ByteArray := prog_3_method_5_code
def yX0_fresh : MethodName := ⟨RX0, "fresh", "()LLongRadixHeap;"⟩
def dkwX0_fresh_0 : List UInt8 := [187, 0, 23, 89, 9, 20, 0, 29, 183, 0, 31, 176]
abbrev dktX0_fresh_0 : List UInt8 := dkwX0_fresh_0 ++ []
theorem dksX0_fresh_0 : cX0_fresh.data.toList.drop 0 = dktX0_fresh_0 := by decide +kernel
theorem dX0_fresh_0 : decode cX0_fresh 0 = .ok (.new 23, 3) := dk_187 0 23 (dk_at dksX0_fresh_0 0 rfl rfl)
theorem dX0_fresh_3 : decode cX0_fresh 3 = .ok (.dup, 1) := dk_89 (dk_at dksX0_fresh_0 3 rfl rfl)
theorem dX0_fresh_4 : decode cX0_fresh 4 = .ok (.lconst 0, 1) := dk_9 (dk_at dksX0_fresh_0 4 rfl rfl)
theorem dX0_fresh_5 : decode cX0_fresh 5 = .ok (.ldc2_w 29, 3) := dk_20 0 29 (dk_at dksX0_fresh_0 5 rfl rfl)
theorem dX0_fresh_8 : decode cX0_fresh 8 = .ok (.invokespecial 31, 3) := dk_183 0 31 (dk_at dksX0_fresh_0 8 rfl rfl)
theorem dX0_fresh_11 : decode cX0_fresh 11 = .ok (.areturn, 1) := dk_176 (dk_at dksX0_fresh_0 11 rfl rfl)
abbrev cX0_log : ByteArray := prog_3_method_3_code
def yX0_log : MethodName := ⟨RX0, "log", "(D)D"⟩
def dkwX0_log_1 : List UInt8 := [167, 255, 239, 21, 4, 135, 40, 15, 103, 99, 175]
abbrev dktX0_log_1 : List UInt8 := dkwX0_log_1 ++ []
def dkwX0_log_0 : List UInt8 := [38, 73, 3, 54, 4, 40, 20, 0, 21, 151, 155, 0, 15, 40, 20, 0, 21, 111, 73, 132, 4, 1]
abbrev dktX0_log_0 : List UInt8 := dkwX0_log_0 ++ dktX0_log_1
theorem dksX0_log_0 : cX0_log.data.toList.drop 0 = dktX0_log_0 := by decide +kernel
theorem dksX0_log_1 : cX0_log.data.toList.drop 22 = dktX0_log_1 := dk_seg dksX0_log_0 22 rfl rfl
theorem dX0_log_0 : decode cX0_log 0 = .ok (.dload_n 0, 1) := dk_38 (dk_at dksX0_log_0 0 rfl rfl)
theorem dX0_log_1 : decode cX0_log 1 = .ok (.dstore_n 2, 1) := dk_73 (dk_at dksX0_log_0 1 rfl rfl)
theorem dX0_log_2 : decode cX0_log 2 = .ok (.iconst 0, 1) := dk_3 (dk_at dksX0_log_0 2 rfl rfl)
theorem dX0_log_3 : decode cX0_log 3 = .ok (.istore 4, 2) := dk_54 4 (dk_at dksX0_log_0 3 rfl rfl)
theorem dX0_log_5 : decode cX0_log 5 = .ok (.dload_n 2, 1) := dk_40 (dk_at dksX0_log_0 5 rfl rfl)
theorem dX0_log_6 : decode cX0_log 6 = .ok (.ldc2_w 21, 3) := dk_20 0 21 (dk_at dksX0_log_0 6 rfl rfl)
theorem dX0_log_9 : decode cX0_log 9 = .ok (.dcmp .l, 1) := dk_151 (dk_at dksX0_log_0 9 rfl rfl)
theorem dX0_log_10 : decode cX0_log 10 = .ok (.ifCond .lt 15, 3) := dk_155 0 15 (dk_at dksX0_log_0 10 rfl rfl)
theorem dX0_log_13 : decode cX0_log 13 = .ok (.dload_n 2, 1) := dk_40 (dk_at dksX0_log_0 13 rfl rfl)
theorem dX0_log_14 : decode cX0_log 14 = .ok (.ldc2_w 21, 3) := dk_20 0 21 (dk_at dksX0_log_0 14 rfl rfl)
theorem dX0_log_17 : decode cX0_log 17 = .ok (.ddiv, 1) := dk_111 (dk_at dksX0_log_0 17 rfl rfl)
theorem dX0_log_18 : decode cX0_log 18 = .ok (.dstore_n 2, 1) := dk_73 (dk_at dksX0_log_0 18 rfl rfl)
theorem dX0_log_19 : decode cX0_log 19 = .ok (.iinc 4 1, 3) := dk_132 4 1 (dk_at dksX0_log_0 19 rfl rfl)
theorem dX0_log_22 : decode cX0_log 22 = .ok (.goto (-17), 3) := dk_167 255 239 (dk_at dksX0_log_1 0 rfl rfl)
theorem dX0_log_25 : decode cX0_log 25 = .ok (.iload 4, 2) := dk_21 4 (dk_at dksX0_log_1 3 rfl rfl)
theorem dX0_log_27 : decode cX0_log 27 = .ok (.i2d, 1) := dk_135 (dk_at dksX0_log_1 5 rfl rfl)
theorem dX0_log_28 : decode cX0_log 28 = .ok (.dload_n 2, 1) := dk_40 (dk_at dksX0_log_1 6 rfl rfl)
theorem dX0_log_29 : decode cX0_log 29 = .ok (.dconst 1, 1) := dk_15 (dk_at dksX0_log_1 7 rfl rfl)
theorem dX0_log_30 : decode cX0_log 30 = .ok (.dsub, 1) := dk_103 (dk_at dksX0_log_1 8 rfl rfl)
theorem dX0_log_31 : decode cX0_log 31 = .ok (.dadd, 1) := dk_99 (dk_at dksX0_log_1 9 rfl rfl)
theorem dX0_log_32 : decode cX0_log 32 = .ok (.dreturn, 1) := dk_175 (dk_at dksX0_log_1 10 rfl rfl)
abbrev cX0_floor : ByteArray := prog_3_method_2_code
def yX0_floor : MethodName := ⟨RX0, "floor", "(D)D"⟩
def dkwX0_floor_0 : List UInt8 := [38, 143, 65, 32, 138, 38, 151, 158, 0, 10, 32, 10, 101, 138, 167, 0, 5, 32, 138, 175]
abbrev dktX0_floor_0 : List UInt8 := dkwX0_floor_0 ++ []
theorem dksX0_floor_0 : cX0_floor.data.toList.drop 0 = dktX0_floor_0 := by decide +kernel
theorem dX0_floor_0 : decode cX0_floor 0 = .ok (.dload_n 0, 1) := dk_38 (dk_at dksX0_floor_0 0 rfl rfl)
theorem dX0_floor_1 : decode cX0_floor 1 = .ok (.d2l, 1) := dk_143 (dk_at dksX0_floor_0 1 rfl rfl)
theorem dX0_floor_2 : decode cX0_floor 2 = .ok (.lstore_n 2, 1) := dk_65 (dk_at dksX0_floor_0 2 rfl rfl)
theorem dX0_floor_3 : decode cX0_floor 3 = .ok (.lload_n 2, 1) := dk_32 (dk_at dksX0_floor_0 3 rfl rfl)
theorem dX0_floor_4 : decode cX0_floor 4 = .ok (.l2d, 1) := dk_138 (dk_at dksX0_floor_0 4 rfl rfl)
theorem dX0_floor_5 : decode cX0_floor 5 = .ok (.dload_n 0, 1) := dk_38 (dk_at dksX0_floor_0 5 rfl rfl)
theorem dX0_floor_6 : decode cX0_floor 6 = .ok (.dcmp .l, 1) := dk_151 (dk_at dksX0_floor_0 6 rfl rfl)
theorem dX0_floor_7 : decode cX0_floor 7 = .ok (.ifCond .le 10, 3) := dk_158 0 10 (dk_at dksX0_floor_0 7 rfl rfl)
theorem dX0_floor_10 : decode cX0_floor 10 = .ok (.lload_n 2, 1) := dk_32 (dk_at dksX0_floor_0 10 rfl rfl)
theorem dX0_floor_11 : decode cX0_floor 11 = .ok (.lconst 1, 1) := dk_10 (dk_at dksX0_floor_0 11 rfl rfl)
theorem dX0_floor_12 : decode cX0_floor 12 = .ok (.lsub, 1) := dk_101 (dk_at dksX0_floor_0 12 rfl rfl)
theorem dX0_floor_13 : decode cX0_floor 13 = .ok (.l2d, 1) := dk_138 (dk_at dksX0_floor_0 13 rfl rfl)
theorem dX0_floor_14 : decode cX0_floor 14 = .ok (.goto 5, 3) := dk_167 0 5 (dk_at dksX0_floor_0 14 rfl rfl)
theorem dX0_floor_17 : decode cX0_floor 17 = .ok (.lload_n 2, 1) := dk_32 (dk_at dksX0_floor_0 17 rfl rfl)
theorem dX0_floor_18 : decode cX0_floor 18 = .ok (.l2d, 1) := dk_138 (dk_at dksX0_floor_0 18 rfl rfl)
theorem dX0_floor_19 : decode cX0_floor 19 = .ok (.dreturn, 1) := dk_175 (dk_at dksX0_floor_0 19 rfl rfl)
abbrev cX0_put : ByteArray := prog_3_method_7_code
def yX0_put : MethodName := ⟨RX0, "put", "(II)Z"⟩
def dkwX0_put_2 : List UInt8 := [29, 50, 21, 4, 133, 184, 0, 43, 182, 0, 49, 4, 172]
abbrev dktX0_put_2 : List UInt8 := dkwX0_put_2 ++ []
def dkwX0_put_1 : List UInt8 := [180, 0, 17, 29, 46, 162, 0, 5, 3, 172, 42, 89, 180, 0, 39, 4, 96, 181, 0, 39, 42, 180, 0, 13]
abbrev dktX0_put_1 : List UInt8 := dkwX0_put_1 ++ dktX0_put_2
def dkwX0_put_0 : List UInt8 := [27, 6, 126, 62, 28, 184, 0, 35, 54, 4, 42, 180, 0, 39, 16, 64, 162, 0, 14, 21, 4, 42]
abbrev dktX0_put_0 : List UInt8 := dkwX0_put_0 ++ dktX0_put_1
theorem dksX0_put_0 : cX0_put.data.toList.drop 0 = dktX0_put_0 := by decide +kernel
theorem dksX0_put_1 : cX0_put.data.toList.drop 22 = dktX0_put_1 := dk_seg dksX0_put_0 22 rfl rfl
theorem dksX0_put_2 : cX0_put.data.toList.drop 46 = dktX0_put_2 := dk_seg dksX0_put_1 24 rfl rfl
theorem dX0_put_0 : decode cX0_put 0 = .ok (.iload_n 1, 1) := dk_27 (dk_at dksX0_put_0 0 rfl rfl)
theorem dX0_put_1 : decode cX0_put 1 = .ok (.iconst 3, 1) := dk_6 (dk_at dksX0_put_0 1 rfl rfl)
theorem dX0_put_2 : decode cX0_put 2 = .ok (.iand, 1) := dk_126 (dk_at dksX0_put_0 2 rfl rfl)
theorem dX0_put_3 : decode cX0_put 3 = .ok (.istore_n 3, 1) := dk_62 (dk_at dksX0_put_0 3 rfl rfl)
theorem dX0_put_4 : decode cX0_put 4 = .ok (.iload_n 2, 1) := dk_28 (dk_at dksX0_put_0 4 rfl rfl)
theorem dX0_put_5 : decode cX0_put 5 = .ok (.invokestatic 35, 3) := dk_184 0 35 (dk_at dksX0_put_0 5 rfl rfl)
theorem dX0_put_8 : decode cX0_put 8 = .ok (.istore 4, 2) := dk_54 4 (dk_at dksX0_put_0 8 rfl rfl)
theorem dX0_put_10 : decode cX0_put 10 = .ok (.aload_n 0, 1) := dk_42 (dk_at dksX0_put_0 10 rfl rfl)
theorem dX0_put_11 : decode cX0_put 11 = .ok (.getfield 39, 3) := dk_180 0 39 (dk_at dksX0_put_0 11 rfl rfl)
theorem dX0_put_14 : decode cX0_put 14 = .ok (.bipush 64, 2) := dk_16 64 (dk_at dksX0_put_0 14 rfl rfl)
theorem dX0_put_16 : decode cX0_put 16 = .ok (.if_icmp .ge 14, 3) := dk_162 0 14 (dk_at dksX0_put_0 16 rfl rfl)
theorem dX0_put_19 : decode cX0_put 19 = .ok (.iload 4, 2) := dk_21 4 (dk_at dksX0_put_0 19 rfl rfl)
theorem dX0_put_21 : decode cX0_put 21 = .ok (.aload_n 0, 1) := dk_42 (dk_at dksX0_put_0 21 rfl rfl)
theorem dX0_put_22 : decode cX0_put 22 = .ok (.getfield 17, 3) := dk_180 0 17 (dk_at dksX0_put_1 0 rfl rfl)
theorem dX0_put_25 : decode cX0_put 25 = .ok (.iload_n 3, 1) := dk_29 (dk_at dksX0_put_1 3 rfl rfl)
theorem dX0_put_26 : decode cX0_put 26 = .ok (.iaload, 1) := dk_46 (dk_at dksX0_put_1 4 rfl rfl)
theorem dX0_put_27 : decode cX0_put 27 = .ok (.if_icmp .ge 5, 3) := dk_162 0 5 (dk_at dksX0_put_1 5 rfl rfl)
theorem dX0_put_30 : decode cX0_put 30 = .ok (.iconst 0, 1) := dk_3 (dk_at dksX0_put_1 8 rfl rfl)
theorem dX0_put_31 : decode cX0_put 31 = .ok (.ireturn, 1) := dk_172 (dk_at dksX0_put_1 9 rfl rfl)
theorem dX0_put_32 : decode cX0_put 32 = .ok (.aload_n 0, 1) := dk_42 (dk_at dksX0_put_1 10 rfl rfl)
theorem dX0_put_33 : decode cX0_put 33 = .ok (.dup, 1) := dk_89 (dk_at dksX0_put_1 11 rfl rfl)
theorem dX0_put_34 : decode cX0_put 34 = .ok (.getfield 39, 3) := dk_180 0 39 (dk_at dksX0_put_1 12 rfl rfl)
theorem dX0_put_37 : decode cX0_put 37 = .ok (.iconst 1, 1) := dk_4 (dk_at dksX0_put_1 15 rfl rfl)
theorem dX0_put_38 : decode cX0_put 38 = .ok (.iadd, 1) := dk_96 (dk_at dksX0_put_1 16 rfl rfl)
theorem dX0_put_39 : decode cX0_put 39 = .ok (.putfield 39, 3) := dk_181 0 39 (dk_at dksX0_put_1 17 rfl rfl)
theorem dX0_put_42 : decode cX0_put 42 = .ok (.aload_n 0, 1) := dk_42 (dk_at dksX0_put_1 20 rfl rfl)
theorem dX0_put_43 : decode cX0_put 43 = .ok (.getfield 13, 3) := dk_180 0 13 (dk_at dksX0_put_1 21 rfl rfl)
theorem dX0_put_46 : decode cX0_put 46 = .ok (.iload_n 3, 1) := dk_29 (dk_at dksX0_put_2 0 rfl rfl)
theorem dX0_put_47 : decode cX0_put 47 = .ok (.aaload, 1) := dk_50 (dk_at dksX0_put_2 1 rfl rfl)
theorem dX0_put_48 : decode cX0_put 48 = .ok (.iload 4, 2) := dk_21 4 (dk_at dksX0_put_2 2 rfl rfl)
theorem dX0_put_50 : decode cX0_put 50 = .ok (.i2l, 1) := dk_133 (dk_at dksX0_put_2 4 rfl rfl)
theorem dX0_put_51 : decode cX0_put 51 = .ok (.invokestatic 43, 3) := dk_184 0 43 (dk_at dksX0_put_2 5 rfl rfl)
theorem dX0_put_54 : decode cX0_put 54 = .ok (.invokevirtual 49, 3) := dk_182 0 49 (dk_at dksX0_put_2 8 rfl rfl)
theorem dX0_put_57 : decode cX0_put 57 = .ok (.iconst 1, 1) := dk_4 (dk_at dksX0_put_2 11 rfl rfl)
theorem dX0_put_58 : decode cX0_put 58 = .ok (.ireturn, 1) := dk_172 (dk_at dksX0_put_2 12 rfl rfl)
abbrev cX0_told : ByteArray := prog_3_method_6_code
def yX0_told : MethodName := ⟨RX0, "told", "(I)I"⟩
def dkwX0_told_0 : List UInt8 := [26, 18, 34, 126, 172]
abbrev dktX0_told_0 : List UInt8 := dkwX0_told_0 ++ []
theorem dksX0_told_0 : cX0_told.data.toList.drop 0 = dktX0_told_0 := by decide +kernel
theorem dX0_told_0 : decode cX0_told 0 = .ok (.iload_n 0, 1) := dk_26 (dk_at dksX0_told_0 0 rfl rfl)
theorem dX0_told_1 : decode cX0_told 1 = .ok (.ldc 34, 2) := dk_18 34 (dk_at dksX0_told_0 1 rfl rfl)
theorem dX0_told_3 : decode cX0_told 3 = .ok (.iand, 1) := dk_126 (dk_at dksX0_told_0 3 rfl rfl)
theorem dX0_told_4 : decode cX0_told 4 = .ok (.ireturn, 1) := dk_172 (dk_at dksX0_told_0 4 rfl rfl)
abbrev cX0_above : ByteArray := prog_3_method_8_code
def yX0_above : MethodName := ⟨RX0, "above", "(II)Z"⟩
def dkwX0_above_2 : List UInt8 := [180, 0, 13, 29, 50, 21, 4, 133, 184, 0, 43, 182, 0, 49, 4, 172]
abbrev dktX0_above_2 : List UInt8 := dkwX0_above_2 ++ []
def dkwX0_above_1 : List UInt8 := [162, 0, 10, 21, 4, 18, 34, 164, 0, 5, 3, 172, 42, 89, 180, 0, 39, 4, 96, 181, 0, 39, 42]
abbrev dktX0_above_1 : List UInt8 := dkwX0_above_1 ++ dktX0_above_2
def dkwX0_above_0 : List UInt8 := [27, 6, 126, 62, 42, 180, 0, 17, 29, 46, 28, 17, 3, 255, 126, 96, 54, 4, 42, 180, 0, 39, 16, 64]
abbrev dktX0_above_0 : List UInt8 := dkwX0_above_0 ++ dktX0_above_1
theorem dksX0_above_0 : cX0_above.data.toList.drop 0 = dktX0_above_0 := by decide +kernel
theorem dksX0_above_1 : cX0_above.data.toList.drop 24 = dktX0_above_1 := dk_seg dksX0_above_0 24 rfl rfl
theorem dksX0_above_2 : cX0_above.data.toList.drop 47 = dktX0_above_2 := dk_seg dksX0_above_1 23 rfl rfl
theorem dX0_above_0 : decode cX0_above 0 = .ok (.iload_n 1, 1) := dk_27 (dk_at dksX0_above_0 0 rfl rfl)
theorem dX0_above_1 : decode cX0_above 1 = .ok (.iconst 3, 1) := dk_6 (dk_at dksX0_above_0 1 rfl rfl)
theorem dX0_above_2 : decode cX0_above 2 = .ok (.iand, 1) := dk_126 (dk_at dksX0_above_0 2 rfl rfl)
theorem dX0_above_3 : decode cX0_above 3 = .ok (.istore_n 3, 1) := dk_62 (dk_at dksX0_above_0 3 rfl rfl)
theorem dX0_above_4 : decode cX0_above 4 = .ok (.aload_n 0, 1) := dk_42 (dk_at dksX0_above_0 4 rfl rfl)
theorem dX0_above_5 : decode cX0_above 5 = .ok (.getfield 17, 3) := dk_180 0 17 (dk_at dksX0_above_0 5 rfl rfl)
theorem dX0_above_8 : decode cX0_above 8 = .ok (.iload_n 3, 1) := dk_29 (dk_at dksX0_above_0 8 rfl rfl)
theorem dX0_above_9 : decode cX0_above 9 = .ok (.iaload, 1) := dk_46 (dk_at dksX0_above_0 9 rfl rfl)
theorem dX0_above_10 : decode cX0_above 10 = .ok (.iload_n 2, 1) := dk_28 (dk_at dksX0_above_0 10 rfl rfl)
theorem dX0_above_11 : decode cX0_above 11 = .ok (.sipush 1023, 3) := dk_17 3 255 (dk_at dksX0_above_0 11 rfl rfl)
theorem dX0_above_14 : decode cX0_above 14 = .ok (.iand, 1) := dk_126 (dk_at dksX0_above_0 14 rfl rfl)
theorem dX0_above_15 : decode cX0_above 15 = .ok (.iadd, 1) := dk_96 (dk_at dksX0_above_0 15 rfl rfl)
theorem dX0_above_16 : decode cX0_above 16 = .ok (.istore 4, 2) := dk_54 4 (dk_at dksX0_above_0 16 rfl rfl)
theorem dX0_above_18 : decode cX0_above 18 = .ok (.aload_n 0, 1) := dk_42 (dk_at dksX0_above_0 18 rfl rfl)
theorem dX0_above_19 : decode cX0_above 19 = .ok (.getfield 39, 3) := dk_180 0 39 (dk_at dksX0_above_0 19 rfl rfl)
theorem dX0_above_22 : decode cX0_above 22 = .ok (.bipush 64, 2) := dk_16 64 (dk_at dksX0_above_0 22 rfl rfl)
theorem dX0_above_24 : decode cX0_above 24 = .ok (.if_icmp .ge 10, 3) := dk_162 0 10 (dk_at dksX0_above_1 0 rfl rfl)
theorem dX0_above_27 : decode cX0_above 27 = .ok (.iload 4, 2) := dk_21 4 (dk_at dksX0_above_1 3 rfl rfl)
theorem dX0_above_29 : decode cX0_above 29 = .ok (.ldc 34, 2) := dk_18 34 (dk_at dksX0_above_1 5 rfl rfl)
theorem dX0_above_31 : decode cX0_above 31 = .ok (.if_icmp .le 5, 3) := dk_164 0 5 (dk_at dksX0_above_1 7 rfl rfl)
theorem dX0_above_34 : decode cX0_above 34 = .ok (.iconst 0, 1) := dk_3 (dk_at dksX0_above_1 10 rfl rfl)
theorem dX0_above_35 : decode cX0_above 35 = .ok (.ireturn, 1) := dk_172 (dk_at dksX0_above_1 11 rfl rfl)
theorem dX0_above_36 : decode cX0_above 36 = .ok (.aload_n 0, 1) := dk_42 (dk_at dksX0_above_1 12 rfl rfl)
theorem dX0_above_37 : decode cX0_above 37 = .ok (.dup, 1) := dk_89 (dk_at dksX0_above_1 13 rfl rfl)
theorem dX0_above_38 : decode cX0_above 38 = .ok (.getfield 39, 3) := dk_180 0 39 (dk_at dksX0_above_1 14 rfl rfl)
theorem dX0_above_41 : decode cX0_above 41 = .ok (.iconst 1, 1) := dk_4 (dk_at dksX0_above_1 17 rfl rfl)
theorem dX0_above_42 : decode cX0_above 42 = .ok (.iadd, 1) := dk_96 (dk_at dksX0_above_1 18 rfl rfl)
theorem dX0_above_43 : decode cX0_above 43 = .ok (.putfield 39, 3) := dk_181 0 39 (dk_at dksX0_above_1 19 rfl rfl)
theorem dX0_above_46 : decode cX0_above 46 = .ok (.aload_n 0, 1) := dk_42 (dk_at dksX0_above_1 22 rfl rfl)
theorem dX0_above_47 : decode cX0_above 47 = .ok (.getfield 13, 3) := dk_180 0 13 (dk_at dksX0_above_2 0 rfl rfl)
theorem dX0_above_50 : decode cX0_above 50 = .ok (.iload_n 3, 1) := dk_29 (dk_at dksX0_above_2 3 rfl rfl)
theorem dX0_above_51 : decode cX0_above 51 = .ok (.aaload, 1) := dk_50 (dk_at dksX0_above_2 4 rfl rfl)
theorem dX0_above_52 : decode cX0_above 52 = .ok (.iload 4, 2) := dk_21 4 (dk_at dksX0_above_2 5 rfl rfl)
theorem dX0_above_54 : decode cX0_above 54 = .ok (.i2l, 1) := dk_133 (dk_at dksX0_above_2 7 rfl rfl)
theorem dX0_above_55 : decode cX0_above 55 = .ok (.invokestatic 43, 3) := dk_184 0 43 (dk_at dksX0_above_2 8 rfl rfl)
theorem dX0_above_58 : decode cX0_above 58 = .ok (.invokevirtual 49, 3) := dk_182 0 49 (dk_at dksX0_above_2 11 rfl rfl)
theorem dX0_above_61 : decode cX0_above 61 = .ok (.iconst 1, 1) := dk_4 (dk_at dksX0_above_2 14 rfl rfl)
theorem dX0_above_62 : decode cX0_above 62 = .ok (.ireturn, 1) := dk_172 (dk_at dksX0_above_2 15 rfl rfl)
abbrev cX0_least : ByteArray := prog_3_method_9_code
def yX0_least : MethodName := ⟨RX0, "least", "(I)I"⟩
def dkwX0_least_1 : List UInt8 := [192, 0, 44, 182, 0, 61, 136, 172]
abbrev dktX0_least_1 : List UInt8 := dkwX0_least_1 ++ []
def dkwX0_least_0 : List UInt8 := [42, 180, 0, 13, 27, 6, 126, 50, 77, 44, 182, 0, 53, 153, 0, 7, 2, 167, 0, 14, 44, 182, 0, 57]
abbrev dktX0_least_0 : List UInt8 := dkwX0_least_0 ++ dktX0_least_1
theorem dksX0_least_0 : cX0_least.data.toList.drop 0 = dktX0_least_0 := by decide +kernel
theorem dksX0_least_1 : cX0_least.data.toList.drop 24 = dktX0_least_1 := dk_seg dksX0_least_0 24 rfl rfl
theorem dX0_least_0 : decode cX0_least 0 = .ok (.aload_n 0, 1) := dk_42 (dk_at dksX0_least_0 0 rfl rfl)
theorem dX0_least_1 : decode cX0_least 1 = .ok (.getfield 13, 3) := dk_180 0 13 (dk_at dksX0_least_0 1 rfl rfl)
theorem dX0_least_4 : decode cX0_least 4 = .ok (.iload_n 1, 1) := dk_27 (dk_at dksX0_least_0 4 rfl rfl)
theorem dX0_least_5 : decode cX0_least 5 = .ok (.iconst 3, 1) := dk_6 (dk_at dksX0_least_0 5 rfl rfl)
theorem dX0_least_6 : decode cX0_least 6 = .ok (.iand, 1) := dk_126 (dk_at dksX0_least_0 6 rfl rfl)
theorem dX0_least_7 : decode cX0_least 7 = .ok (.aaload, 1) := dk_50 (dk_at dksX0_least_0 7 rfl rfl)
theorem dX0_least_8 : decode cX0_least 8 = .ok (.astore_n 2, 1) := dk_77 (dk_at dksX0_least_0 8 rfl rfl)
theorem dX0_least_9 : decode cX0_least 9 = .ok (.aload_n 2, 1) := dk_44 (dk_at dksX0_least_0 9 rfl rfl)
theorem dX0_least_10 : decode cX0_least 10 = .ok (.invokevirtual 53, 3) := dk_182 0 53 (dk_at dksX0_least_0 10 rfl rfl)
theorem dX0_least_13 : decode cX0_least 13 = .ok (.ifCond .eq 7, 3) := dk_153 0 7 (dk_at dksX0_least_0 13 rfl rfl)
theorem dX0_least_16 : decode cX0_least 16 = .ok (.iconst (-1), 1) := dk_2 (dk_at dksX0_least_0 16 rfl rfl)
theorem dX0_least_17 : decode cX0_least 17 = .ok (.goto 14, 3) := dk_167 0 14 (dk_at dksX0_least_0 17 rfl rfl)
theorem dX0_least_20 : decode cX0_least 20 = .ok (.aload_n 2, 1) := dk_44 (dk_at dksX0_least_0 20 rfl rfl)
theorem dX0_least_21 : decode cX0_least 21 = .ok (.invokevirtual 57, 3) := dk_182 0 57 (dk_at dksX0_least_0 21 rfl rfl)
theorem dX0_least_24 : decode cX0_least 24 = .ok (.checkcast 44, 3) := dk_192 0 44 (dk_at dksX0_least_1 0 rfl rfl)
theorem dX0_least_27 : decode cX0_least 27 = .ok (.invokevirtual 61, 3) := dk_182 0 61 (dk_at dksX0_least_1 3 rfl rfl)
theorem dX0_least_30 : decode cX0_least 30 = .ok (.l2i, 1) := dk_136 (dk_at dksX0_least_1 6 rfl rfl)
theorem dX0_least_31 : decode cX0_least 31 = .ok (.ireturn, 1) := dk_172 (dk_at dksX0_least_1 7 rfl rfl)
abbrev cX0_takeLeast : ByteArray := prog_3_method_10_code
def yX0_takeLeast : MethodName := ⟨RX0, "takeLeast", "(I)I"⟩
def dkwX0_takeLeast_1 : List UInt8 := [192, 0, 44, 182, 0, 61, 136, 62, 42, 180, 0, 17, 27, 6, 126, 29, 79, 29, 172]
abbrev dktX0_takeLeast_1 : List UInt8 := dkwX0_takeLeast_1 ++ []
def dkwX0_takeLeast_0 : List UInt8 := [42, 180, 0, 13, 27, 6, 126, 50, 77, 44, 182, 0, 53, 153, 0, 5, 2, 172, 44, 182, 0, 65]
abbrev dktX0_takeLeast_0 : List UInt8 := dkwX0_takeLeast_0 ++ dktX0_takeLeast_1
theorem dksX0_takeLeast_0 : cX0_takeLeast.data.toList.drop 0 = dktX0_takeLeast_0 := by decide +kernel
theorem dksX0_takeLeast_1 : cX0_takeLeast.data.toList.drop 22 = dktX0_takeLeast_1 := dk_seg dksX0_takeLeast_0 22 rfl rfl
theorem dX0_takeLeast_0 : decode cX0_takeLeast 0 = .ok (.aload_n 0, 1) := dk_42 (dk_at dksX0_takeLeast_0 0 rfl rfl)
theorem dX0_takeLeast_1 : decode cX0_takeLeast 1 = .ok (.getfield 13, 3) := dk_180 0 13 (dk_at dksX0_takeLeast_0 1 rfl rfl)
theorem dX0_takeLeast_4 : decode cX0_takeLeast 4 = .ok (.iload_n 1, 1) := dk_27 (dk_at dksX0_takeLeast_0 4 rfl rfl)
theorem dX0_takeLeast_5 : decode cX0_takeLeast 5 = .ok (.iconst 3, 1) := dk_6 (dk_at dksX0_takeLeast_0 5 rfl rfl)
theorem dX0_takeLeast_6 : decode cX0_takeLeast 6 = .ok (.iand, 1) := dk_126 (dk_at dksX0_takeLeast_0 6 rfl rfl)
theorem dX0_takeLeast_7 : decode cX0_takeLeast 7 = .ok (.aaload, 1) := dk_50 (dk_at dksX0_takeLeast_0 7 rfl rfl)
theorem dX0_takeLeast_8 : decode cX0_takeLeast 8 = .ok (.astore_n 2, 1) := dk_77 (dk_at dksX0_takeLeast_0 8 rfl rfl)
theorem dX0_takeLeast_9 : decode cX0_takeLeast 9 = .ok (.aload_n 2, 1) := dk_44 (dk_at dksX0_takeLeast_0 9 rfl rfl)
theorem dX0_takeLeast_10 : decode cX0_takeLeast 10 = .ok (.invokevirtual 53, 3) := dk_182 0 53 (dk_at dksX0_takeLeast_0 10 rfl rfl)
theorem dX0_takeLeast_13 : decode cX0_takeLeast 13 = .ok (.ifCond .eq 5, 3) := dk_153 0 5 (dk_at dksX0_takeLeast_0 13 rfl rfl)
theorem dX0_takeLeast_16 : decode cX0_takeLeast 16 = .ok (.iconst (-1), 1) := dk_2 (dk_at dksX0_takeLeast_0 16 rfl rfl)
theorem dX0_takeLeast_17 : decode cX0_takeLeast 17 = .ok (.ireturn, 1) := dk_172 (dk_at dksX0_takeLeast_0 17 rfl rfl)
theorem dX0_takeLeast_18 : decode cX0_takeLeast 18 = .ok (.aload_n 2, 1) := dk_44 (dk_at dksX0_takeLeast_0 18 rfl rfl)
theorem dX0_takeLeast_19 : decode cX0_takeLeast 19 = .ok (.invokevirtual 65, 3) := dk_182 0 65 (dk_at dksX0_takeLeast_0 19 rfl rfl)
theorem dX0_takeLeast_22 : decode cX0_takeLeast 22 = .ok (.checkcast 44, 3) := dk_192 0 44 (dk_at dksX0_takeLeast_1 0 rfl rfl)
theorem dX0_takeLeast_25 : decode cX0_takeLeast 25 = .ok (.invokevirtual 61, 3) := dk_182 0 61 (dk_at dksX0_takeLeast_1 3 rfl rfl)
theorem dX0_takeLeast_28 : decode cX0_takeLeast 28 = .ok (.l2i, 1) := dk_136 (dk_at dksX0_takeLeast_1 6 rfl rfl)
theorem dX0_takeLeast_29 : decode cX0_takeLeast 29 = .ok (.istore_n 3, 1) := dk_62 (dk_at dksX0_takeLeast_1 7 rfl rfl)
theorem dX0_takeLeast_30 : decode cX0_takeLeast 30 = .ok (.aload_n 0, 1) := dk_42 (dk_at dksX0_takeLeast_1 8 rfl rfl)
theorem dX0_takeLeast_31 : decode cX0_takeLeast 31 = .ok (.getfield 17, 3) := dk_180 0 17 (dk_at dksX0_takeLeast_1 9 rfl rfl)
theorem dX0_takeLeast_34 : decode cX0_takeLeast 34 = .ok (.iload_n 1, 1) := dk_27 (dk_at dksX0_takeLeast_1 12 rfl rfl)
theorem dX0_takeLeast_35 : decode cX0_takeLeast 35 = .ok (.iconst 3, 1) := dk_6 (dk_at dksX0_takeLeast_1 13 rfl rfl)
theorem dX0_takeLeast_36 : decode cX0_takeLeast 36 = .ok (.iand, 1) := dk_126 (dk_at dksX0_takeLeast_1 14 rfl rfl)
theorem dX0_takeLeast_37 : decode cX0_takeLeast 37 = .ok (.iload_n 3, 1) := dk_29 (dk_at dksX0_takeLeast_1 15 rfl rfl)
theorem dX0_takeLeast_38 : decode cX0_takeLeast 38 = .ok (.iastore, 1) := dk_79 (dk_at dksX0_takeLeast_1 16 rfl rfl)
theorem dX0_takeLeast_39 : decode cX0_takeLeast 39 = .ok (.iload_n 3, 1) := dk_29 (dk_at dksX0_takeLeast_1 17 rfl rfl)
theorem dX0_takeLeast_40 : decode cX0_takeLeast 40 = .ok (.ireturn, 1) := dk_172 (dk_at dksX0_takeLeast_1 18 rfl rfl)
abbrev cX0_size : ByteArray := prog_3_method_11_code
def yX0_size : MethodName := ⟨RX0, "size", "(I)I"⟩
def dkwX0_size_0 : List UInt8 := [42, 180, 0, 13, 27, 6, 126, 50, 182, 0, 68, 136, 172]
abbrev dktX0_size_0 : List UInt8 := dkwX0_size_0 ++ []
theorem dksX0_size_0 : cX0_size.data.toList.drop 0 = dktX0_size_0 := by decide +kernel
theorem dX0_size_0 : decode cX0_size 0 = .ok (.aload_n 0, 1) := dk_42 (dk_at dksX0_size_0 0 rfl rfl)
theorem dX0_size_1 : decode cX0_size 1 = .ok (.getfield 13, 3) := dk_180 0 13 (dk_at dksX0_size_0 1 rfl rfl)
theorem dX0_size_4 : decode cX0_size 4 = .ok (.iload_n 1, 1) := dk_27 (dk_at dksX0_size_0 4 rfl rfl)
theorem dX0_size_5 : decode cX0_size 5 = .ok (.iconst 3, 1) := dk_6 (dk_at dksX0_size_0 5 rfl rfl)
theorem dX0_size_6 : decode cX0_size 6 = .ok (.iand, 1) := dk_126 (dk_at dksX0_size_0 6 rfl rfl)
theorem dX0_size_7 : decode cX0_size 7 = .ok (.aaload, 1) := dk_50 (dk_at dksX0_size_0 7 rfl rfl)
theorem dX0_size_8 : decode cX0_size 8 = .ok (.invokevirtual 68, 3) := dk_182 0 68 (dk_at dksX0_size_0 8 rfl rfl)
theorem dX0_size_11 : decode cX0_size 11 = .ok (.l2i, 1) := dk_136 (dk_at dksX0_size_0 11 rfl rfl)
theorem dX0_size_12 : decode cX0_size 12 = .ok (.ireturn, 1) := dk_172 (dk_at dksX0_size_0 12 rfl rfl)
abbrev cX0_isEmpty : ByteArray := prog_3_method_12_code
def yX0_isEmpty : MethodName := ⟨RX0, "isEmpty", "(I)Z"⟩
def dkwX0_isEmpty_0 : List UInt8 := [42, 180, 0, 13, 27, 6, 126, 50, 182, 0, 53, 172]
abbrev dktX0_isEmpty_0 : List UInt8 := dkwX0_isEmpty_0 ++ []
theorem dksX0_isEmpty_0 : cX0_isEmpty.data.toList.drop 0 = dktX0_isEmpty_0 := by decide +kernel
theorem dX0_isEmpty_0 : decode cX0_isEmpty 0 = .ok (.aload_n 0, 1) := dk_42 (dk_at dksX0_isEmpty_0 0 rfl rfl)
theorem dX0_isEmpty_1 : decode cX0_isEmpty 1 = .ok (.getfield 13, 3) := dk_180 0 13 (dk_at dksX0_isEmpty_0 1 rfl rfl)
theorem dX0_isEmpty_4 : decode cX0_isEmpty 4 = .ok (.iload_n 1, 1) := dk_27 (dk_at dksX0_isEmpty_0 4 rfl rfl)
theorem dX0_isEmpty_5 : decode cX0_isEmpty 5 = .ok (.iconst 3, 1) := dk_6 (dk_at dksX0_isEmpty_0 5 rfl rfl)
theorem dX0_isEmpty_6 : decode cX0_isEmpty 6 = .ok (.iand, 1) := dk_126 (dk_at dksX0_isEmpty_0 6 rfl rfl)
theorem dX0_isEmpty_7 : decode cX0_isEmpty 7 = .ok (.aaload, 1) := dk_50 (dk_at dksX0_isEmpty_0 7 rfl rfl)
theorem dX0_isEmpty_8 : decode cX0_isEmpty 8 = .ok (.invokevirtual 53, 3) := dk_182 0 53 (dk_at dksX0_isEmpty_0 8 rfl rfl)
theorem dX0_isEmpty_11 : decode cX0_isEmpty 11 = .ok (.ireturn, 1) := dk_172 (dk_at dksX0_isEmpty_0 11 rfl rfl)
abbrev cX0_renew : ByteArray := prog_3_method_13_code
def yX0_renew : MethodName := ⟨RX0, "renew", "(I)V"⟩
def dkwX0_renew_0 : List UInt8 := [42, 180, 0, 13, 27, 6, 126, 184, 0, 25, 83, 42, 180, 0, 17, 27, 6, 126, 3, 79, 177]
abbrev dktX0_renew_0 : List UInt8 := dkwX0_renew_0 ++ []
theorem dksX0_renew_0 : cX0_renew.data.toList.drop 0 = dktX0_renew_0 := by decide +kernel
theorem dX0_renew_0 : decode cX0_renew 0 = .ok (.aload_n 0, 1) := dk_42 (dk_at dksX0_renew_0 0 rfl rfl)
theorem dX0_renew_1 : decode cX0_renew 1 = .ok (.getfield 13, 3) := dk_180 0 13 (dk_at dksX0_renew_0 1 rfl rfl)
theorem dX0_renew_4 : decode cX0_renew 4 = .ok (.iload_n 1, 1) := dk_27 (dk_at dksX0_renew_0 4 rfl rfl)
theorem dX0_renew_5 : decode cX0_renew 5 = .ok (.iconst 3, 1) := dk_6 (dk_at dksX0_renew_0 5 rfl rfl)
theorem dX0_renew_6 : decode cX0_renew 6 = .ok (.iand, 1) := dk_126 (dk_at dksX0_renew_0 6 rfl rfl)
theorem dX0_renew_7 : decode cX0_renew 7 = .ok (.invokestatic 25, 3) := dk_184 0 25 (dk_at dksX0_renew_0 7 rfl rfl)
theorem dX0_renew_10 : decode cX0_renew 10 = .ok (.aastore, 1) := dk_83 (dk_at dksX0_renew_0 10 rfl rfl)
theorem dX0_renew_11 : decode cX0_renew 11 = .ok (.aload_n 0, 1) := dk_42 (dk_at dksX0_renew_0 11 rfl rfl)
theorem dX0_renew_12 : decode cX0_renew 12 = .ok (.getfield 17, 3) := dk_180 0 17 (dk_at dksX0_renew_0 12 rfl rfl)
theorem dX0_renew_15 : decode cX0_renew 15 = .ok (.iload_n 1, 1) := dk_27 (dk_at dksX0_renew_0 15 rfl rfl)
theorem dX0_renew_16 : decode cX0_renew 16 = .ok (.iconst 3, 1) := dk_6 (dk_at dksX0_renew_0 16 rfl rfl)
theorem dX0_renew_17 : decode cX0_renew 17 = .ok (.iand, 1) := dk_126 (dk_at dksX0_renew_0 17 rfl rfl)
theorem dX0_renew_18 : decode cX0_renew 18 = .ok (.iconst 0, 1) := dk_3 (dk_at dksX0_renew_0 18 rfl rfl)
theorem dX0_renew_19 : decode cX0_renew 19 = .ok (.iastore, 1) := dk_79 (dk_at dksX0_renew_0 19 rfl rfl)
theorem dX0_renew_20 : decode cX0_renew 20 = .ok (.return_, 1) := dk_177 (dk_at dksX0_renew_0 20 rfl rfl)
theorem q8 : (Jvm.Cond.initialized "LongRadixHeapDesk") ∈ lw_all := lw_g (lw_at lw_m1 1 rfl) rfl
theorem q33 : (Jvm.Cond.instantiable "LongRadixHeapDesk" (3 : Nat)) ∈ lw_all := lw_g (lw_at lw_m1 26 rfl) rfl
theorem q35 : (Jvm.Cond.instanceMethod ({ cls := "LongRadixHeapDesk", name := "<init>", desc := "()V" } : Jvm.MethodName)) ∈ lw_all := lw_g (lw_at lw_m1 28 rfl) rfl
theorem q36 : (Jvm.Cond.code ({ cls := "LongRadixHeapDesk", name := "<init>", desc := "()V" } : Jvm.MethodName) prog_3_method_1_code (1 : Nat) (Option.none : Option Jvm.ClassFile.FieldType)) ∈ lw_all := lw_g (lw_at lw_m1 29 rfl) rfl
theorem q37 : (Jvm.Cond.methodLink "LongRadixHeapDesk" (1 : Nat) ({ cls := "java/lang/Object", name := "<init>", desc := "()V" } : Jvm.MethodName)) ∈ lw_all := lw_g (lw_at lw_m1 30 rfl) rfl
theorem q40 : (Jvm.Cond.methodLink "LongRadixHeapDesk" (7 : Nat) ({ cls := "LongRadixHeapDesk", name := "make", desc := "()[LLongRadixHeap;" } : Jvm.MethodName)) ∈ lw_all := lw_g (lw_at lw_m1 33 rfl) rfl
theorem q41 : (Jvm.Cond.static ({ cls := "LongRadixHeapDesk", name := "make", desc := "()[LLongRadixHeap;" } : Jvm.MethodName)) ∈ lw_all := lw_g (lw_at lw_m1 34 rfl) rfl
theorem q42 : (Jvm.Cond.code ({ cls := "LongRadixHeapDesk", name := "make", desc := "()[LLongRadixHeap;" } : Jvm.MethodName) prog_3_method_4_code (2 : Nat) (Option.some (Jvm.ClassFile.FieldType.array (Jvm.ClassFile.FieldType.object "LongRadixHeap")))) ∈ lw_all := lw_g (lw_at lw_m1 35 rfl) rfl
theorem q43 : (Jvm.Cond.classLink "LongRadixHeapDesk" (23 : Nat) "LongRadixHeap") ∈ lw_all := lw_g (lw_at lw_m1 36 rfl) rfl
theorem q45 : (Jvm.Cond.methodLink "LongRadixHeapDesk" (25 : Nat) ({ cls := "LongRadixHeapDesk", name := "fresh", desc := "()LLongRadixHeap;" } : Jvm.MethodName)) ∈ lw_all := lw_g (lw_at lw_m1 38 rfl) rfl
theorem q46 : (Jvm.Cond.static ({ cls := "LongRadixHeapDesk", name := "fresh", desc := "()LLongRadixHeap;" } : Jvm.MethodName)) ∈ lw_all := lw_g (lw_at lw_m1 39 rfl) rfl
theorem q47 : (Jvm.Cond.code ({ cls := "LongRadixHeapDesk", name := "fresh", desc := "()LLongRadixHeap;" } : Jvm.MethodName) prog_3_method_5_code (0 : Nat) (Option.some (Jvm.ClassFile.FieldType.object "LongRadixHeap"))) ∈ lw_all := lw_g (lw_at lw_m1 40 rfl) rfl
theorem q49 : (Jvm.Cond.constantLong "LongRadixHeapDesk" (29 : Nat) (1048575 : Int64)) ∈ lw_all := lw_g (lw_at lw_m1 42 rfl) rfl
theorem q50 : (Jvm.Cond.methodLink "LongRadixHeapDesk" (31 : Nat) ({ cls := "LongRadixHeap", name := "<init>", desc := "(JJ)V" } : Jvm.MethodName)) ∈ lw_all := lw_g (lw_at lw_m1 43 rfl) rfl
theorem q146 : (Jvm.Cond.static ({ cls := "LongRadixHeapDesk", name := "log", desc := "(D)D" } : Jvm.MethodName)) ∈ lw_all := lw_g (lw_at lw_m1 139 rfl) rfl
theorem q147 : (Jvm.Cond.code ({ cls := "LongRadixHeapDesk", name := "log", desc := "(D)D" } : Jvm.MethodName) prog_3_method_3_code (5 : Nat) (Option.some Jvm.ClassFile.FieldType.double)) ∈ lw_all := lw_g (lw_at lw_m1 140 rfl) rfl
theorem q148 : (Jvm.Cond.constantDouble "LongRadixHeapDesk" (21 : Nat) (4611686018427387904 : UInt64)) ∈ lw_all := lw_g (lw_at lw_m1 141 rfl) rfl
theorem q151 : (Jvm.Cond.static ({ cls := "LongRadixHeapDesk", name := "floor", desc := "(D)D" } : Jvm.MethodName)) ∈ lw_all := lw_g (lw_at lw_m1 144 rfl) rfl
theorem q152 : (Jvm.Cond.code ({ cls := "LongRadixHeapDesk", name := "floor", desc := "(D)D" } : Jvm.MethodName) prog_3_method_2_code (4 : Nat) (Option.some Jvm.ClassFile.FieldType.double)) ∈ lw_all := lw_g (lw_at lw_m1 145 rfl) rfl
theorem q220 : (Jvm.Cond.fieldLink "LongRadixHeapDesk" (13 : Nat) "LongRadixHeapDesk" "file" "[LLongRadixHeap;") ∈ lw_all := lw_g (lw_at lw_m1 213 rfl) rfl
theorem q221 : (Jvm.Cond.fieldLink "LongRadixHeapDesk" (17 : Nat) "LongRadixHeapDesk" "floor" "[I") ∈ lw_all := lw_g (lw_at lw_m1 214 rfl) rfl
theorem q222 : (Jvm.Cond.fieldLink "LongRadixHeapDesk" (39 : Nat) "LongRadixHeapDesk" "puts" "I") ∈ lw_all := lw_g (lw_at lw_m1 215 rfl) rfl
theorem q223 : (Jvm.Cond.laysFinal "LongRadixHeapDesk" "LongRadixHeapDesk" "file" "[LLongRadixHeap;") ∈ lw_all := lw_g (lw_at lw_m1 216 rfl) rfl
theorem q224 : (Jvm.Cond.soleField "LongRadixHeapDesk" "file") ∈ lw_all := lw_g (lw_at lw_m1 217 rfl) rfl
theorem q225 : (Jvm.Cond.laysFinal "LongRadixHeapDesk" "LongRadixHeapDesk" "floor" "[I") ∈ lw_all := lw_g (lw_at lw_m1 218 rfl) rfl
theorem q226 : (Jvm.Cond.soleField "LongRadixHeapDesk" "floor") ∈ lw_all := lw_g (lw_at lw_m1 219 rfl) rfl
theorem q227 : (Jvm.Cond.lays "LongRadixHeapDesk" "LongRadixHeapDesk" "puts" "I") ∈ lw_all := lw_g (lw_at lw_m1 220 rfl) rfl
theorem q228 : (Jvm.Cond.soleField "LongRadixHeapDesk" "puts") ∈ lw_all := lw_g (lw_at lw_m1 221 rfl) rfl
theorem q229 : (Jvm.Cond.superclass "LongRadixHeapDesk" "java/lang/Object") ∈ lw_all := lw_g (lw_at lw_m1 222 rfl) rfl
theorem q232 : (Jvm.Cond.instanceMethod ({ cls := "LongRadixHeapDesk", name := "put", desc := "(II)Z" } : Jvm.MethodName)) ∈ lw_all := lw_g (lw_at lw_m1 225 rfl) rfl
theorem q233 : (Jvm.Cond.selects "LongRadixHeapDesk" ({ cls := "LongRadixHeapDesk", name := "put", desc := "(II)Z" } : Jvm.MethodName) ({ cls := "LongRadixHeapDesk", name := "put", desc := "(II)Z" } : Jvm.MethodName)) ∈ lw_all := lw_g (lw_at lw_m1 226 rfl) rfl
theorem q234 : (Jvm.Cond.code ({ cls := "LongRadixHeapDesk", name := "put", desc := "(II)Z" } : Jvm.MethodName) prog_3_method_7_code (5 : Nat) (Option.some Jvm.ClassFile.FieldType.boolean)) ∈ lw_all := lw_g (lw_at lw_m1 227 rfl) rfl
theorem q235 : (Jvm.Cond.methodLink "LongRadixHeapDesk" (35 : Nat) ({ cls := "LongRadixHeapDesk", name := "told", desc := "(I)I" } : Jvm.MethodName)) ∈ lw_all := lw_g (lw_at lw_m1 228 rfl) rfl
theorem q236 : (Jvm.Cond.static ({ cls := "LongRadixHeapDesk", name := "told", desc := "(I)I" } : Jvm.MethodName)) ∈ lw_all := lw_g (lw_at lw_m1 229 rfl) rfl
theorem q237 : (Jvm.Cond.code ({ cls := "LongRadixHeapDesk", name := "told", desc := "(I)I" } : Jvm.MethodName) prog_3_method_6_code (1 : Nat) (Option.some Jvm.ClassFile.FieldType.int)) ∈ lw_all := lw_g (lw_at lw_m1 230 rfl) rfl
theorem q238 : (Jvm.Cond.constant "LongRadixHeapDesk" (34 : Nat) (1048575 : Int32)) ∈ lw_all := lw_g (lw_at lw_m1 231 rfl) rfl
theorem q239 : (Jvm.Cond.methodLink "LongRadixHeapDesk" (43 : Nat) ({ cls := "java/lang/Long", name := "valueOf", desc := "(J)Ljava/lang/Long;" } : Jvm.MethodName)) ∈ lw_all := lw_g (lw_at lw_m1 232 rfl) rfl
theorem q240 : (Jvm.Cond.methodLink "LongRadixHeapDesk" (49 : Nat) ({ cls := "LongRadixHeap", name := "insert", desc := "(Ljava/lang/Object;)V" } : Jvm.MethodName)) ∈ lw_all := lw_g (lw_at lw_m1 233 rfl) rfl
theorem q331 : (Jvm.Cond.selects "LongRadixHeapDesk" ({ cls := "java/lang/Object", name := "getClass", desc := "()Ljava/lang/Class;" } : Jvm.MethodName) ({ cls := "java/lang/Object", name := "getClass", desc := "()Ljava/lang/Class;" } : Jvm.MethodName)) ∈ lw_all := lw_g (lw_at lw_m2 84 rfl) rfl
theorem q361 : (Jvm.Cond.instanceMethod ({ cls := "LongRadixHeapDesk", name := "above", desc := "(II)Z" } : Jvm.MethodName)) ∈ lw_all := lw_g (lw_at lw_m2 114 rfl) rfl
theorem q362 : (Jvm.Cond.selects "LongRadixHeapDesk" ({ cls := "LongRadixHeapDesk", name := "above", desc := "(II)Z" } : Jvm.MethodName) ({ cls := "LongRadixHeapDesk", name := "above", desc := "(II)Z" } : Jvm.MethodName)) ∈ lw_all := lw_g (lw_at lw_m2 115 rfl) rfl
theorem q363 : (Jvm.Cond.code ({ cls := "LongRadixHeapDesk", name := "above", desc := "(II)Z" } : Jvm.MethodName) prog_3_method_8_code (5 : Nat) (Option.some Jvm.ClassFile.FieldType.boolean)) ∈ lw_all := lw_g (lw_at lw_m2 116 rfl) rfl
theorem q365 : (Jvm.Cond.instanceMethod ({ cls := "LongRadixHeapDesk", name := "least", desc := "(I)I" } : Jvm.MethodName)) ∈ lw_all := lw_g (lw_at lw_m2 118 rfl) rfl
theorem q366 : (Jvm.Cond.selects "LongRadixHeapDesk" ({ cls := "LongRadixHeapDesk", name := "least", desc := "(I)I" } : Jvm.MethodName) ({ cls := "LongRadixHeapDesk", name := "least", desc := "(I)I" } : Jvm.MethodName)) ∈ lw_all := lw_g (lw_at lw_m2 119 rfl) rfl
theorem q367 : (Jvm.Cond.code ({ cls := "LongRadixHeapDesk", name := "least", desc := "(I)I" } : Jvm.MethodName) prog_3_method_9_code (3 : Nat) (Option.some Jvm.ClassFile.FieldType.int)) ∈ lw_all := lw_g (lw_at lw_m2 120 rfl) rfl
theorem q368 : (Jvm.Cond.methodLink "LongRadixHeapDesk" (53 : Nat) ({ cls := "LongRadixHeap", name := "isEmpty", desc := "()Z" } : Jvm.MethodName)) ∈ lw_all := lw_g (lw_at lw_m2 121 rfl) rfl
theorem q374 : (Jvm.Cond.methodLink "LongRadixHeapDesk" (57 : Nat) ({ cls := "LongRadixHeap", name := "findMin", desc := "()Ljava/lang/Object;" } : Jvm.MethodName)) ∈ lw_all := lw_g (lw_at lw_m2 127 rfl) rfl
theorem q401 : (Jvm.Cond.classLink "LongRadixHeapDesk" (44 : Nat) "java/lang/Long") ∈ lw_all := lw_g (lw_at lw_m2 154 rfl) rfl
theorem q402 : (Jvm.Cond.methodLink "LongRadixHeapDesk" (61 : Nat) ({ cls := "java/lang/Long", name := "longValue", desc := "()J" } : Jvm.MethodName)) ∈ lw_all := lw_g (lw_at lw_m2 155 rfl) rfl
theorem q404 : (Jvm.Cond.instanceMethod ({ cls := "LongRadixHeapDesk", name := "takeLeast", desc := "(I)I" } : Jvm.MethodName)) ∈ lw_all := lw_g (lw_at lw_m2 157 rfl) rfl
theorem q405 : (Jvm.Cond.selects "LongRadixHeapDesk" ({ cls := "LongRadixHeapDesk", name := "takeLeast", desc := "(I)I" } : Jvm.MethodName) ({ cls := "LongRadixHeapDesk", name := "takeLeast", desc := "(I)I" } : Jvm.MethodName)) ∈ lw_all := lw_g (lw_at lw_m2 158 rfl) rfl
theorem q406 : (Jvm.Cond.code ({ cls := "LongRadixHeapDesk", name := "takeLeast", desc := "(I)I" } : Jvm.MethodName) prog_3_method_10_code (4 : Nat) (Option.some Jvm.ClassFile.FieldType.int)) ∈ lw_all := lw_g (lw_at lw_m2 159 rfl) rfl
theorem q407 : (Jvm.Cond.methodLink "LongRadixHeapDesk" (65 : Nat) ({ cls := "LongRadixHeap", name := "deleteMin", desc := "()Ljava/lang/Object;" } : Jvm.MethodName)) ∈ lw_all := lw_g (lw_at lw_m2 160 rfl) rfl
theorem q507 : (Jvm.Cond.instanceMethod ({ cls := "LongRadixHeapDesk", name := "size", desc := "(I)I" } : Jvm.MethodName)) ∈ lw_all := lw_g (lw_at lw_m3 20 rfl) rfl
theorem q508 : (Jvm.Cond.selects "LongRadixHeapDesk" ({ cls := "LongRadixHeapDesk", name := "size", desc := "(I)I" } : Jvm.MethodName) ({ cls := "LongRadixHeapDesk", name := "size", desc := "(I)I" } : Jvm.MethodName)) ∈ lw_all := lw_g (lw_at lw_m3 21 rfl) rfl
theorem q509 : (Jvm.Cond.code ({ cls := "LongRadixHeapDesk", name := "size", desc := "(I)I" } : Jvm.MethodName) prog_3_method_11_code (2 : Nat) (Option.some Jvm.ClassFile.FieldType.int)) ∈ lw_all := lw_g (lw_at lw_m3 22 rfl) rfl
theorem q510 : (Jvm.Cond.methodLink "LongRadixHeapDesk" (68 : Nat) ({ cls := "LongRadixHeap", name := "size", desc := "()J" } : Jvm.MethodName)) ∈ lw_all := lw_g (lw_at lw_m3 23 rfl) rfl
theorem q517 : (Jvm.Cond.instanceMethod ({ cls := "LongRadixHeapDesk", name := "isEmpty", desc := "(I)Z" } : Jvm.MethodName)) ∈ lw_all := lw_g (lw_at lw_m3 30 rfl) rfl
theorem q518 : (Jvm.Cond.selects "LongRadixHeapDesk" ({ cls := "LongRadixHeapDesk", name := "isEmpty", desc := "(I)Z" } : Jvm.MethodName) ({ cls := "LongRadixHeapDesk", name := "isEmpty", desc := "(I)Z" } : Jvm.MethodName)) ∈ lw_all := lw_g (lw_at lw_m3 31 rfl) rfl
theorem q519 : (Jvm.Cond.code ({ cls := "LongRadixHeapDesk", name := "isEmpty", desc := "(I)Z" } : Jvm.MethodName) prog_3_method_12_code (2 : Nat) (Option.some Jvm.ClassFile.FieldType.boolean)) ∈ lw_all := lw_g (lw_at lw_m3 32 rfl) rfl
theorem q521 : (Jvm.Cond.instanceMethod ({ cls := "LongRadixHeapDesk", name := "renew", desc := "(I)V" } : Jvm.MethodName)) ∈ lw_all := lw_g (lw_at lw_m3 34 rfl) rfl
theorem q522 : (Jvm.Cond.selects "LongRadixHeapDesk" ({ cls := "LongRadixHeapDesk", name := "renew", desc := "(I)V" } : Jvm.MethodName) ({ cls := "LongRadixHeapDesk", name := "renew", desc := "(I)V" } : Jvm.MethodName)) ∈ lw_all := lw_g (lw_at lw_m3 35 rfl) rfl
theorem q523 : (Jvm.Cond.code ({ cls := "LongRadixHeapDesk", name := "renew", desc := "(I)V" } : Jvm.MethodName) prog_3_method_13_code (2 : Nat) (Option.none : Option Jvm.ClassFile.FieldType)) ∈ lw_all := lw_g (lw_at lw_m3 36 rfl) rfl
theorem q586 : (Jvm.Cond.castable "LongRadixHeapDesk" "java/lang/Object") ∈ lw_tbl := lw_at lw_m3 99 rfl
theorem in_X0 : ∀ w ∈ wsX00, w ∈ lw_all := lw_in wsX00 [223, 225, 227] (by decide +kernel) (by decide +kernel)
/-! AbstractRadixHeap -/
set_option maxRecDepth 100000
def RX1 : String := "AbstractRadixHeap"
abbrev cX1_init : ByteArray := prog_1_method_1_code
def yX1_init : MethodName := ⟨RX1, "<init>", "()V"⟩
theorem dX1_init_0 : decode cX1_init 0 = .ok (.aload_n 0, 1) := by decide +kernel
theorem dX1_init_1 : decode cX1_init 1 = .ok (.invokespecial 1, 3) := by decide +kernel
theorem dX1_init_4 : decode cX1_init 4 = .ok (.return_, 1) := by decide +kernel
abbrev cX1_insert : ByteArray := prog_1_method_3_code
def yX1_insert : MethodName := ⟨RX1, "insert", "(Ljava/lang/Object;)V"⟩
def dkwX1_insert_5 : List UInt8 := [28, 50, 185, 0, 58, 1, 0, 4, 100, 181, 0, 61, 42, 89, 180, 0, 7, 10, 97, 181, 0, 7, 177]
abbrev dktX1_insert_5 : List UInt8 := dkwX1_insert_5 ++ []
def dkwX1_insert_4 : List UInt8 := [180, 0, 16, 182, 0, 30, 156, 0, 30, 42, 43, 181, 0, 16, 42, 28, 181, 0, 54, 42, 42, 180, 0, 44]
abbrev dktX1_insert_4 : List UInt8 := dkwX1_insert_4 ++ dktX1_insert_5
def dkwX1_insert_3 : List UInt8 := [180, 0, 44, 28, 50, 43, 185, 0, 48, 2, 0, 87, 42, 180, 0, 16, 198, 0, 15, 42, 43, 42]
abbrev dktX1_insert_3 : List UInt8 := dkwX1_insert_3 ++ dktX1_insert_4
def dkwX1_insert_2 : List UInt8 := [156, 0, 13, 187, 0, 20, 89, 18, 39, 183, 0, 24, 191, 42, 43, 42, 180, 0, 36, 182, 0, 41, 61, 42]
abbrev dktX1_insert_2 : List UInt8 := dkwX1_insert_2 ++ dktX1_insert_3
def dkwX1_insert_1 : List UInt8 := [158, 0, 13, 187, 0, 20, 89, 18, 34, 183, 0, 24, 191, 42, 43, 42, 180, 0, 36, 182, 0, 30]
abbrev dktX1_insert_1 : List UInt8 := dkwX1_insert_1 ++ dktX1_insert_2
def dkwX1_insert_0 : List UInt8 := [43, 199, 0, 13, 187, 0, 20, 89, 18, 22, 183, 0, 24, 191, 42, 43, 42, 180, 0, 27, 182, 0, 30]
abbrev dktX1_insert_0 : List UInt8 := dkwX1_insert_0 ++ dktX1_insert_1
theorem dksX1_insert_0 : cX1_insert.data.toList.drop 0 = dktX1_insert_0 := by decide +kernel
theorem dksX1_insert_1 : cX1_insert.data.toList.drop 23 = dktX1_insert_1 := dk_seg dksX1_insert_0 23 rfl rfl
theorem dksX1_insert_2 : cX1_insert.data.toList.drop 45 = dktX1_insert_2 := dk_seg dksX1_insert_1 22 rfl rfl
theorem dksX1_insert_3 : cX1_insert.data.toList.drop 69 = dktX1_insert_3 := dk_seg dksX1_insert_2 24 rfl rfl
theorem dksX1_insert_4 : cX1_insert.data.toList.drop 91 = dktX1_insert_4 := dk_seg dksX1_insert_3 22 rfl rfl
theorem dksX1_insert_5 : cX1_insert.data.toList.drop 115 = dktX1_insert_5 := dk_seg dksX1_insert_4 24 rfl rfl
theorem dX1_insert_0 : decode cX1_insert 0 = .ok (.aload_n 1, 1) := dk_43 (dk_at dksX1_insert_0 0 rfl rfl)
theorem dX1_insert_1 : decode cX1_insert 1 = .ok (.ifnonnull 13, 3) := dk_199 0 13 (dk_at dksX1_insert_0 1 rfl rfl)
theorem dX1_insert_4 : decode cX1_insert 4 = .ok (.new 20, 3) := dk_187 0 20 (dk_at dksX1_insert_0 4 rfl rfl)
theorem dX1_insert_7 : decode cX1_insert 7 = .ok (.dup, 1) := dk_89 (dk_at dksX1_insert_0 7 rfl rfl)
theorem dX1_insert_8 : decode cX1_insert 8 = .ok (.ldc 22, 2) := dk_18 22 (dk_at dksX1_insert_0 8 rfl rfl)
theorem dX1_insert_10 : decode cX1_insert 10 = .ok (.invokespecial 24, 3) := dk_183 0 24 (dk_at dksX1_insert_0 10 rfl rfl)
theorem dX1_insert_13 : decode cX1_insert 13 = .ok (.athrow, 1) := dk_191 (dk_at dksX1_insert_0 13 rfl rfl)
theorem dX1_insert_14 : decode cX1_insert 14 = .ok (.aload_n 0, 1) := dk_42 (dk_at dksX1_insert_0 14 rfl rfl)
theorem dX1_insert_15 : decode cX1_insert 15 = .ok (.aload_n 1, 1) := dk_43 (dk_at dksX1_insert_0 15 rfl rfl)
theorem dX1_insert_16 : decode cX1_insert 16 = .ok (.aload_n 0, 1) := dk_42 (dk_at dksX1_insert_0 16 rfl rfl)
theorem dX1_insert_17 : decode cX1_insert 17 = .ok (.getfield 27, 3) := dk_180 0 27 (dk_at dksX1_insert_0 17 rfl rfl)
theorem dX1_insert_20 : decode cX1_insert 20 = .ok (.invokevirtual 30, 3) := dk_182 0 30 (dk_at dksX1_insert_0 20 rfl rfl)
theorem dX1_insert_23 : decode cX1_insert 23 = .ok (.ifCond .le 13, 3) := dk_158 0 13 (dk_at dksX1_insert_1 0 rfl rfl)
theorem dX1_insert_26 : decode cX1_insert 26 = .ok (.new 20, 3) := dk_187 0 20 (dk_at dksX1_insert_1 3 rfl rfl)
theorem dX1_insert_29 : decode cX1_insert 29 = .ok (.dup, 1) := dk_89 (dk_at dksX1_insert_1 6 rfl rfl)
theorem dX1_insert_30 : decode cX1_insert 30 = .ok (.ldc 34, 2) := dk_18 34 (dk_at dksX1_insert_1 7 rfl rfl)
theorem dX1_insert_32 : decode cX1_insert 32 = .ok (.invokespecial 24, 3) := dk_183 0 24 (dk_at dksX1_insert_1 9 rfl rfl)
theorem dX1_insert_35 : decode cX1_insert 35 = .ok (.athrow, 1) := dk_191 (dk_at dksX1_insert_1 12 rfl rfl)
theorem dX1_insert_36 : decode cX1_insert 36 = .ok (.aload_n 0, 1) := dk_42 (dk_at dksX1_insert_1 13 rfl rfl)
theorem dX1_insert_37 : decode cX1_insert 37 = .ok (.aload_n 1, 1) := dk_43 (dk_at dksX1_insert_1 14 rfl rfl)
theorem dX1_insert_38 : decode cX1_insert 38 = .ok (.aload_n 0, 1) := dk_42 (dk_at dksX1_insert_1 15 rfl rfl)
theorem dX1_insert_39 : decode cX1_insert 39 = .ok (.getfield 36, 3) := dk_180 0 36 (dk_at dksX1_insert_1 16 rfl rfl)
theorem dX1_insert_42 : decode cX1_insert 42 = .ok (.invokevirtual 30, 3) := dk_182 0 30 (dk_at dksX1_insert_1 19 rfl rfl)
theorem dX1_insert_45 : decode cX1_insert 45 = .ok (.ifCond .ge 13, 3) := dk_156 0 13 (dk_at dksX1_insert_2 0 rfl rfl)
theorem dX1_insert_48 : decode cX1_insert 48 = .ok (.new 20, 3) := dk_187 0 20 (dk_at dksX1_insert_2 3 rfl rfl)
theorem dX1_insert_51 : decode cX1_insert 51 = .ok (.dup, 1) := dk_89 (dk_at dksX1_insert_2 6 rfl rfl)
theorem dX1_insert_52 : decode cX1_insert 52 = .ok (.ldc 39, 2) := dk_18 39 (dk_at dksX1_insert_2 7 rfl rfl)
theorem dX1_insert_54 : decode cX1_insert 54 = .ok (.invokespecial 24, 3) := dk_183 0 24 (dk_at dksX1_insert_2 9 rfl rfl)
theorem dX1_insert_57 : decode cX1_insert 57 = .ok (.athrow, 1) := dk_191 (dk_at dksX1_insert_2 12 rfl rfl)
theorem dX1_insert_58 : decode cX1_insert 58 = .ok (.aload_n 0, 1) := dk_42 (dk_at dksX1_insert_2 13 rfl rfl)
theorem dX1_insert_59 : decode cX1_insert 59 = .ok (.aload_n 1, 1) := dk_43 (dk_at dksX1_insert_2 14 rfl rfl)
theorem dX1_insert_60 : decode cX1_insert 60 = .ok (.aload_n 0, 1) := dk_42 (dk_at dksX1_insert_2 15 rfl rfl)
theorem dX1_insert_61 : decode cX1_insert 61 = .ok (.getfield 36, 3) := dk_180 0 36 (dk_at dksX1_insert_2 16 rfl rfl)
theorem dX1_insert_64 : decode cX1_insert 64 = .ok (.invokevirtual 41, 3) := dk_182 0 41 (dk_at dksX1_insert_2 19 rfl rfl)
theorem dX1_insert_67 : decode cX1_insert 67 = .ok (.istore_n 2, 1) := dk_61 (dk_at dksX1_insert_2 22 rfl rfl)
theorem dX1_insert_68 : decode cX1_insert 68 = .ok (.aload_n 0, 1) := dk_42 (dk_at dksX1_insert_2 23 rfl rfl)
theorem dX1_insert_69 : decode cX1_insert 69 = .ok (.getfield 44, 3) := dk_180 0 44 (dk_at dksX1_insert_3 0 rfl rfl)
theorem dX1_insert_72 : decode cX1_insert 72 = .ok (.iload_n 2, 1) := dk_28 (dk_at dksX1_insert_3 3 rfl rfl)
theorem dX1_insert_73 : decode cX1_insert 73 = .ok (.aaload, 1) := dk_50 (dk_at dksX1_insert_3 4 rfl rfl)
theorem dX1_insert_74 : decode cX1_insert 74 = .ok (.aload_n 1, 1) := dk_43 (dk_at dksX1_insert_3 5 rfl rfl)
theorem dX1_insert_75 : decode cX1_insert 75 = .ok (.invokeinterface 48 2, 5) := by decide +kernel
theorem dX1_insert_80 : decode cX1_insert 80 = .ok (.pop, 1) := dk_87 (dk_at dksX1_insert_3 11 rfl rfl)
theorem dX1_insert_81 : decode cX1_insert 81 = .ok (.aload_n 0, 1) := dk_42 (dk_at dksX1_insert_3 12 rfl rfl)
theorem dX1_insert_82 : decode cX1_insert 82 = .ok (.getfield 16, 3) := dk_180 0 16 (dk_at dksX1_insert_3 13 rfl rfl)
theorem dX1_insert_85 : decode cX1_insert 85 = .ok (.ifnull 15, 3) := dk_198 0 15 (dk_at dksX1_insert_3 16 rfl rfl)
theorem dX1_insert_88 : decode cX1_insert 88 = .ok (.aload_n 0, 1) := dk_42 (dk_at dksX1_insert_3 19 rfl rfl)
theorem dX1_insert_89 : decode cX1_insert 89 = .ok (.aload_n 1, 1) := dk_43 (dk_at dksX1_insert_3 20 rfl rfl)
theorem dX1_insert_90 : decode cX1_insert 90 = .ok (.aload_n 0, 1) := dk_42 (dk_at dksX1_insert_3 21 rfl rfl)
theorem dX1_insert_91 : decode cX1_insert 91 = .ok (.getfield 16, 3) := dk_180 0 16 (dk_at dksX1_insert_4 0 rfl rfl)
theorem dX1_insert_94 : decode cX1_insert 94 = .ok (.invokevirtual 30, 3) := dk_182 0 30 (dk_at dksX1_insert_4 3 rfl rfl)
theorem dX1_insert_97 : decode cX1_insert 97 = .ok (.ifCond .ge 30, 3) := dk_156 0 30 (dk_at dksX1_insert_4 6 rfl rfl)
theorem dX1_insert_100 : decode cX1_insert 100 = .ok (.aload_n 0, 1) := dk_42 (dk_at dksX1_insert_4 9 rfl rfl)
theorem dX1_insert_101 : decode cX1_insert 101 = .ok (.aload_n 1, 1) := dk_43 (dk_at dksX1_insert_4 10 rfl rfl)
theorem dX1_insert_102 : decode cX1_insert 102 = .ok (.putfield 16, 3) := dk_181 0 16 (dk_at dksX1_insert_4 11 rfl rfl)
theorem dX1_insert_105 : decode cX1_insert 105 = .ok (.aload_n 0, 1) := dk_42 (dk_at dksX1_insert_4 14 rfl rfl)
theorem dX1_insert_106 : decode cX1_insert 106 = .ok (.iload_n 2, 1) := dk_28 (dk_at dksX1_insert_4 15 rfl rfl)
theorem dX1_insert_107 : decode cX1_insert 107 = .ok (.putfield 54, 3) := dk_181 0 54 (dk_at dksX1_insert_4 16 rfl rfl)
theorem dX1_insert_110 : decode cX1_insert 110 = .ok (.aload_n 0, 1) := dk_42 (dk_at dksX1_insert_4 19 rfl rfl)
theorem dX1_insert_111 : decode cX1_insert 111 = .ok (.aload_n 0, 1) := dk_42 (dk_at dksX1_insert_4 20 rfl rfl)
theorem dX1_insert_112 : decode cX1_insert 112 = .ok (.getfield 44, 3) := dk_180 0 44 (dk_at dksX1_insert_4 21 rfl rfl)
theorem dX1_insert_115 : decode cX1_insert 115 = .ok (.iload_n 2, 1) := dk_28 (dk_at dksX1_insert_5 0 rfl rfl)
theorem dX1_insert_116 : decode cX1_insert 116 = .ok (.aaload, 1) := dk_50 (dk_at dksX1_insert_5 1 rfl rfl)
theorem dX1_insert_117 : decode cX1_insert 117 = .ok (.invokeinterface 58 1, 5) := by decide +kernel
theorem dX1_insert_122 : decode cX1_insert 122 = .ok (.iconst 1, 1) := dk_4 (dk_at dksX1_insert_5 7 rfl rfl)
theorem dX1_insert_123 : decode cX1_insert 123 = .ok (.isub, 1) := dk_100 (dk_at dksX1_insert_5 8 rfl rfl)
theorem dX1_insert_124 : decode cX1_insert 124 = .ok (.putfield 61, 3) := dk_181 0 61 (dk_at dksX1_insert_5 9 rfl rfl)
theorem dX1_insert_127 : decode cX1_insert 127 = .ok (.aload_n 0, 1) := dk_42 (dk_at dksX1_insert_5 12 rfl rfl)
theorem dX1_insert_128 : decode cX1_insert 128 = .ok (.dup, 1) := dk_89 (dk_at dksX1_insert_5 13 rfl rfl)
theorem dX1_insert_129 : decode cX1_insert 129 = .ok (.getfield 7, 3) := dk_180 0 7 (dk_at dksX1_insert_5 14 rfl rfl)
theorem dX1_insert_132 : decode cX1_insert 132 = .ok (.lconst 1, 1) := dk_10 (dk_at dksX1_insert_5 17 rfl rfl)
theorem dX1_insert_133 : decode cX1_insert 133 = .ok (.ladd, 1) := dk_97 (dk_at dksX1_insert_5 18 rfl rfl)
theorem dX1_insert_134 : decode cX1_insert 134 = .ok (.putfield 7, 3) := dk_181 0 7 (dk_at dksX1_insert_5 19 rfl rfl)
theorem dX1_insert_137 : decode cX1_insert 137 = .ok (.return_, 1) := dk_177 (dk_at dksX1_insert_5 22 rfl rfl)
abbrev cX1_computeBucket : ByteArray := prog_1_method_8_code
def yX1_computeBucket : MethodName := ⟨RX1, "computeBucket", "(Ljava/lang/Object;Ljava/lang/Object;)I"⟩
def dkwX1_computeBucket_0 : List UInt8 := [4, 42, 43, 44, 182, 0, 89, 42, 180, 0, 44, 190, 5, 100, 184, 0, 92, 96, 172]
abbrev dktX1_computeBucket_0 : List UInt8 := dkwX1_computeBucket_0 ++ []
theorem dksX1_computeBucket_0 : cX1_computeBucket.data.toList.drop 0 = dktX1_computeBucket_0 := by decide +kernel
theorem dX1_computeBucket_0 : decode cX1_computeBucket 0 = .ok (.iconst 1, 1) := dk_4 (dk_at dksX1_computeBucket_0 0 rfl rfl)
theorem dX1_computeBucket_1 : decode cX1_computeBucket 1 = .ok (.aload_n 0, 1) := dk_42 (dk_at dksX1_computeBucket_0 1 rfl rfl)
theorem dX1_computeBucket_2 : decode cX1_computeBucket 2 = .ok (.aload_n 1, 1) := dk_43 (dk_at dksX1_computeBucket_0 2 rfl rfl)
theorem dX1_computeBucket_3 : decode cX1_computeBucket 3 = .ok (.aload_n 2, 1) := dk_44 (dk_at dksX1_computeBucket_0 3 rfl rfl)
theorem dX1_computeBucket_4 : decode cX1_computeBucket 4 = .ok (.invokevirtual 89, 3) := dk_182 0 89 (dk_at dksX1_computeBucket_0 4 rfl rfl)
theorem dX1_computeBucket_7 : decode cX1_computeBucket 7 = .ok (.aload_n 0, 1) := dk_42 (dk_at dksX1_computeBucket_0 7 rfl rfl)
theorem dX1_computeBucket_8 : decode cX1_computeBucket 8 = .ok (.getfield 44, 3) := dk_180 0 44 (dk_at dksX1_computeBucket_0 8 rfl rfl)
theorem dX1_computeBucket_11 : decode cX1_computeBucket 11 = .ok (.arraylength, 1) := dk_190 (dk_at dksX1_computeBucket_0 11 rfl rfl)
theorem dX1_computeBucket_12 : decode cX1_computeBucket 12 = .ok (.iconst 2, 1) := dk_5 (dk_at dksX1_computeBucket_0 12 rfl rfl)
theorem dX1_computeBucket_13 : decode cX1_computeBucket 13 = .ok (.isub, 1) := dk_100 (dk_at dksX1_computeBucket_0 13 rfl rfl)
theorem dX1_computeBucket_14 : decode cX1_computeBucket 14 = .ok (.invokestatic 92, 3) := dk_184 0 92 (dk_at dksX1_computeBucket_0 14 rfl rfl)
theorem dX1_computeBucket_17 : decode cX1_computeBucket 17 = .ok (.iadd, 1) := dk_96 (dk_at dksX1_computeBucket_0 17 rfl rfl)
theorem dX1_computeBucket_18 : decode cX1_computeBucket 18 = .ok (.ireturn, 1) := dk_172 (dk_at dksX1_computeBucket_0 18 rfl rfl)
abbrev cX1_isEmpty : ByteArray := prog_1_method_5_code
def yX1_isEmpty : MethodName := ⟨RX1, "isEmpty", "()Z"⟩
def dkwX1_isEmpty_0 : List UInt8 := [42, 180, 0, 7, 9, 148, 154, 0, 7, 4, 167, 0, 4, 3, 172]
abbrev dktX1_isEmpty_0 : List UInt8 := dkwX1_isEmpty_0 ++ []
theorem dksX1_isEmpty_0 : cX1_isEmpty.data.toList.drop 0 = dktX1_isEmpty_0 := by decide +kernel
theorem dX1_isEmpty_0 : decode cX1_isEmpty 0 = .ok (.aload_n 0, 1) := dk_42 (dk_at dksX1_isEmpty_0 0 rfl rfl)
theorem dX1_isEmpty_1 : decode cX1_isEmpty 1 = .ok (.getfield 7, 3) := dk_180 0 7 (dk_at dksX1_isEmpty_0 1 rfl rfl)
theorem dX1_isEmpty_4 : decode cX1_isEmpty 4 = .ok (.lconst 0, 1) := dk_9 (dk_at dksX1_isEmpty_0 4 rfl rfl)
theorem dX1_isEmpty_5 : decode cX1_isEmpty 5 = .ok (.lcmp, 1) := dk_148 (dk_at dksX1_isEmpty_0 5 rfl rfl)
theorem dX1_isEmpty_6 : decode cX1_isEmpty 6 = .ok (.ifCond .ne 7, 3) := dk_154 0 7 (dk_at dksX1_isEmpty_0 6 rfl rfl)
theorem dX1_isEmpty_9 : decode cX1_isEmpty 9 = .ok (.iconst 1, 1) := dk_4 (dk_at dksX1_isEmpty_0 9 rfl rfl)
theorem dX1_isEmpty_10 : decode cX1_isEmpty 10 = .ok (.goto 4, 3) := dk_167 0 4 (dk_at dksX1_isEmpty_0 10 rfl rfl)
theorem dX1_isEmpty_13 : decode cX1_isEmpty 13 = .ok (.iconst 0, 1) := dk_3 (dk_at dksX1_isEmpty_0 13 rfl rfl)
theorem dX1_isEmpty_14 : decode cX1_isEmpty 14 = .ok (.ireturn, 1) := dk_172 (dk_at dksX1_isEmpty_0 14 rfl rfl)
abbrev cX1_findMin : ByteArray := prog_1_method_2_code
def yX1_findMin : MethodName := ⟨RX1, "findMin", "()Ljava/lang/Object;"⟩
def dkwX1_findMin_0 : List UInt8 := [42, 180, 0, 7, 9, 148, 154, 0, 11, 187, 0, 13, 89, 183, 0, 15, 191, 42, 180, 0, 16, 176]
abbrev dktX1_findMin_0 : List UInt8 := dkwX1_findMin_0 ++ []
theorem dksX1_findMin_0 : cX1_findMin.data.toList.drop 0 = dktX1_findMin_0 := by decide +kernel
theorem dX1_findMin_0 : decode cX1_findMin 0 = .ok (.aload_n 0, 1) := dk_42 (dk_at dksX1_findMin_0 0 rfl rfl)
theorem dX1_findMin_1 : decode cX1_findMin 1 = .ok (.getfield 7, 3) := dk_180 0 7 (dk_at dksX1_findMin_0 1 rfl rfl)
theorem dX1_findMin_4 : decode cX1_findMin 4 = .ok (.lconst 0, 1) := dk_9 (dk_at dksX1_findMin_0 4 rfl rfl)
theorem dX1_findMin_5 : decode cX1_findMin 5 = .ok (.lcmp, 1) := dk_148 (dk_at dksX1_findMin_0 5 rfl rfl)
theorem dX1_findMin_6 : decode cX1_findMin 6 = .ok (.ifCond .ne 11, 3) := dk_154 0 11 (dk_at dksX1_findMin_0 6 rfl rfl)
theorem dX1_findMin_9 : decode cX1_findMin 9 = .ok (.new 13, 3) := dk_187 0 13 (dk_at dksX1_findMin_0 9 rfl rfl)
theorem dX1_findMin_12 : decode cX1_findMin 12 = .ok (.dup, 1) := dk_89 (dk_at dksX1_findMin_0 12 rfl rfl)
theorem dX1_findMin_13 : decode cX1_findMin 13 = .ok (.invokespecial 15, 3) := dk_183 0 15 (dk_at dksX1_findMin_0 13 rfl rfl)
theorem dX1_findMin_16 : decode cX1_findMin 16 = .ok (.athrow, 1) := dk_191 (dk_at dksX1_findMin_0 16 rfl rfl)
theorem dX1_findMin_17 : decode cX1_findMin 17 = .ok (.aload_n 0, 1) := dk_42 (dk_at dksX1_findMin_0 17 rfl rfl)
theorem dX1_findMin_18 : decode cX1_findMin 18 = .ok (.getfield 16, 3) := dk_180 0 16 (dk_at dksX1_findMin_0 18 rfl rfl)
theorem dX1_findMin_21 : decode cX1_findMin 21 = .ok (.areturn, 1) := dk_176 (dk_at dksX1_findMin_0 21 rfl rfl)
abbrev cX1_deleteMin : ByteArray := prog_1_method_4_code
def yX1_deleteMin : MethodName := ⟨RX1, "deleteMin", "()Ljava/lang/Object;"⟩
def dkwX1_deleteMin_11 : List UInt8 := [42, 42, 180, 0, 54, 4, 96, 182, 0, 68, 42, 180, 0, 36, 176]
abbrev dktX1_deleteMin_11 : List UInt8 := dkwX1_deleteMin_11 ++ []
def dkwX1_deleteMin_10 : List UInt8 := [181, 0, 54, 42, 29, 181, 0, 61, 42, 89, 180, 0, 7, 10, 101, 93, 181, 0, 7, 9, 148, 158, 0, 13]
abbrev dktX1_deleteMin_10 : List UInt8 := dkwX1_deleteMin_10 ++ dktX1_deleteMin_11
def dkwX1_deleteMin_9 : List UInt8 := [167, 255, 163, 42, 180, 0, 44, 42, 180, 0, 54, 50, 185, 0, 86, 1, 0, 42, 43, 181, 0, 16, 42, 28]
abbrev dktX1_deleteMin_9 : List UInt8 := dkwX1_deleteMin_9 ++ dktX1_deleteMin_10
def dkwX1_deleteMin_8 : List UInt8 := [25, 6, 76, 21, 7, 61, 42, 180, 0, 44, 21, 7, 50, 185, 0, 58, 1, 0, 4, 100, 62, 132, 4, 1]
abbrev dktX1_deleteMin_8 : List UInt8 := dkwX1_deleteMin_8 ++ dktX1_deleteMin_9
def dkwX1_deleteMin_7 : List UInt8 := [50, 25, 6, 185, 0, 48, 2, 0, 87, 43, 198, 0, 13, 42, 25, 6, 43, 182, 0, 30, 156, 0, 24]
abbrev dktX1_deleteMin_7 : List UInt8 := dkwX1_deleteMin_7 ++ dktX1_deleteMin_8
def dkwX1_deleteMin_6 : List UInt8 := [180, 0, 61, 159, 0, 65, 42, 25, 6, 42, 180, 0, 36, 182, 0, 41, 54, 7, 42, 180, 0, 44, 21, 7]
abbrev dktX1_deleteMin_6 : List UInt8 := dkwX1_deleteMin_6 ++ dktX1_deleteMin_7
def dkwX1_deleteMin_5 : List UInt8 := [25, 5, 185, 0, 76, 1, 0, 153, 0, 89, 25, 5, 185, 0, 82, 1, 0, 58, 6, 21, 4, 42]
abbrev dktX1_deleteMin_5 : List UInt8 := dkwX1_deleteMin_5 ++ dktX1_deleteMin_6
def dkwX1_deleteMin_4 : List UInt8 := [2, 61, 2, 62, 3, 54, 4, 42, 180, 0, 44, 42, 180, 0, 54, 50, 185, 0, 72, 1, 0, 58, 5]
abbrev dktX1_deleteMin_4 : List UInt8 := dkwX1_deleteMin_4 ++ dktX1_deleteMin_5
def dkwX1_deleteMin_3 : List UInt8 := [180, 0, 7, 10, 101, 93, 181, 0, 7, 9, 148, 158, 0, 187, 42, 3, 182, 0, 68, 167, 0, 179, 1, 76]
abbrev dktX1_deleteMin_3 : List UInt8 := dkwX1_deleteMin_3 ++ dktX1_deleteMin_4
def dkwX1_deleteMin_2 : List UInt8 := [185, 0, 64, 2, 0, 87, 42, 1, 181, 0, 16, 42, 2, 181, 0, 54, 42, 2, 181, 0, 61, 42, 89]
abbrev dktX1_deleteMin_2 : List UInt8 := dkwX1_deleteMin_2 ++ dktX1_deleteMin_3
def dkwX1_deleteMin_1 : List UInt8 := [181, 0, 36, 42, 180, 0, 54, 154, 0, 61, 42, 180, 0, 44, 42, 180, 0, 54, 50, 42, 180, 0, 61]
abbrev dktX1_deleteMin_1 : List UInt8 := dkwX1_deleteMin_1 ++ dktX1_deleteMin_2
def dkwX1_deleteMin_0 : List UInt8 := [42, 180, 0, 7, 9, 148, 154, 0, 11, 187, 0, 13, 89, 183, 0, 15, 191, 42, 42, 180, 0, 16]
abbrev dktX1_deleteMin_0 : List UInt8 := dkwX1_deleteMin_0 ++ dktX1_deleteMin_1
theorem dksX1_deleteMin_0 : cX1_deleteMin.data.toList.drop 0 = dktX1_deleteMin_0 := by decide +kernel
theorem dksX1_deleteMin_1 : cX1_deleteMin.data.toList.drop 22 = dktX1_deleteMin_1 := dk_seg dksX1_deleteMin_0 22 rfl rfl
theorem dksX1_deleteMin_2 : cX1_deleteMin.data.toList.drop 45 = dktX1_deleteMin_2 := dk_seg dksX1_deleteMin_1 23 rfl rfl
theorem dksX1_deleteMin_3 : cX1_deleteMin.data.toList.drop 68 = dktX1_deleteMin_3 := dk_seg dksX1_deleteMin_2 23 rfl rfl
theorem dksX1_deleteMin_4 : cX1_deleteMin.data.toList.drop 92 = dktX1_deleteMin_4 := dk_seg dksX1_deleteMin_3 24 rfl rfl
theorem dksX1_deleteMin_5 : cX1_deleteMin.data.toList.drop 115 = dktX1_deleteMin_5 := dk_seg dksX1_deleteMin_4 23 rfl rfl
theorem dksX1_deleteMin_6 : cX1_deleteMin.data.toList.drop 137 = dktX1_deleteMin_6 := dk_seg dksX1_deleteMin_5 22 rfl rfl
theorem dksX1_deleteMin_7 : cX1_deleteMin.data.toList.drop 161 = dktX1_deleteMin_7 := dk_seg dksX1_deleteMin_6 24 rfl rfl
theorem dksX1_deleteMin_8 : cX1_deleteMin.data.toList.drop 184 = dktX1_deleteMin_8 := dk_seg dksX1_deleteMin_7 23 rfl rfl
theorem dksX1_deleteMin_9 : cX1_deleteMin.data.toList.drop 208 = dktX1_deleteMin_9 := dk_seg dksX1_deleteMin_8 24 rfl rfl
theorem dksX1_deleteMin_10 : cX1_deleteMin.data.toList.drop 232 = dktX1_deleteMin_10 := dk_seg dksX1_deleteMin_9 24 rfl rfl
theorem dksX1_deleteMin_11 : cX1_deleteMin.data.toList.drop 256 = dktX1_deleteMin_11 := dk_seg dksX1_deleteMin_10 24 rfl rfl
theorem dX1_deleteMin_0 : decode cX1_deleteMin 0 = .ok (.aload_n 0, 1) := dk_42 (dk_at dksX1_deleteMin_0 0 rfl rfl)
theorem dX1_deleteMin_1 : decode cX1_deleteMin 1 = .ok (.getfield 7, 3) := dk_180 0 7 (dk_at dksX1_deleteMin_0 1 rfl rfl)
theorem dX1_deleteMin_4 : decode cX1_deleteMin 4 = .ok (.lconst 0, 1) := dk_9 (dk_at dksX1_deleteMin_0 4 rfl rfl)
theorem dX1_deleteMin_5 : decode cX1_deleteMin 5 = .ok (.lcmp, 1) := dk_148 (dk_at dksX1_deleteMin_0 5 rfl rfl)
theorem dX1_deleteMin_6 : decode cX1_deleteMin 6 = .ok (.ifCond .ne 11, 3) := dk_154 0 11 (dk_at dksX1_deleteMin_0 6 rfl rfl)
theorem dX1_deleteMin_9 : decode cX1_deleteMin 9 = .ok (.new 13, 3) := dk_187 0 13 (dk_at dksX1_deleteMin_0 9 rfl rfl)
theorem dX1_deleteMin_12 : decode cX1_deleteMin 12 = .ok (.dup, 1) := dk_89 (dk_at dksX1_deleteMin_0 12 rfl rfl)
theorem dX1_deleteMin_13 : decode cX1_deleteMin 13 = .ok (.invokespecial 15, 3) := dk_183 0 15 (dk_at dksX1_deleteMin_0 13 rfl rfl)
theorem dX1_deleteMin_16 : decode cX1_deleteMin 16 = .ok (.athrow, 1) := dk_191 (dk_at dksX1_deleteMin_0 16 rfl rfl)
theorem dX1_deleteMin_17 : decode cX1_deleteMin 17 = .ok (.aload_n 0, 1) := dk_42 (dk_at dksX1_deleteMin_0 17 rfl rfl)
theorem dX1_deleteMin_18 : decode cX1_deleteMin 18 = .ok (.aload_n 0, 1) := dk_42 (dk_at dksX1_deleteMin_0 18 rfl rfl)
theorem dX1_deleteMin_19 : decode cX1_deleteMin 19 = .ok (.getfield 16, 3) := dk_180 0 16 (dk_at dksX1_deleteMin_0 19 rfl rfl)
theorem dX1_deleteMin_22 : decode cX1_deleteMin 22 = .ok (.putfield 36, 3) := dk_181 0 36 (dk_at dksX1_deleteMin_1 0 rfl rfl)
theorem dX1_deleteMin_25 : decode cX1_deleteMin 25 = .ok (.aload_n 0, 1) := dk_42 (dk_at dksX1_deleteMin_1 3 rfl rfl)
theorem dX1_deleteMin_26 : decode cX1_deleteMin 26 = .ok (.getfield 54, 3) := dk_180 0 54 (dk_at dksX1_deleteMin_1 4 rfl rfl)
theorem dX1_deleteMin_29 : decode cX1_deleteMin 29 = .ok (.ifCond .ne 61, 3) := dk_154 0 61 (dk_at dksX1_deleteMin_1 7 rfl rfl)
theorem dX1_deleteMin_32 : decode cX1_deleteMin 32 = .ok (.aload_n 0, 1) := dk_42 (dk_at dksX1_deleteMin_1 10 rfl rfl)
theorem dX1_deleteMin_33 : decode cX1_deleteMin 33 = .ok (.getfield 44, 3) := dk_180 0 44 (dk_at dksX1_deleteMin_1 11 rfl rfl)
theorem dX1_deleteMin_36 : decode cX1_deleteMin 36 = .ok (.aload_n 0, 1) := dk_42 (dk_at dksX1_deleteMin_1 14 rfl rfl)
theorem dX1_deleteMin_37 : decode cX1_deleteMin 37 = .ok (.getfield 54, 3) := dk_180 0 54 (dk_at dksX1_deleteMin_1 15 rfl rfl)
theorem dX1_deleteMin_40 : decode cX1_deleteMin 40 = .ok (.aaload, 1) := dk_50 (dk_at dksX1_deleteMin_1 18 rfl rfl)
theorem dX1_deleteMin_41 : decode cX1_deleteMin 41 = .ok (.aload_n 0, 1) := dk_42 (dk_at dksX1_deleteMin_1 19 rfl rfl)
theorem dX1_deleteMin_42 : decode cX1_deleteMin 42 = .ok (.getfield 61, 3) := dk_180 0 61 (dk_at dksX1_deleteMin_1 20 rfl rfl)
theorem dX1_deleteMin_45 : decode cX1_deleteMin 45 = .ok (.invokeinterface 64 2, 5) := by decide +kernel
theorem dX1_deleteMin_50 : decode cX1_deleteMin 50 = .ok (.pop, 1) := dk_87 (dk_at dksX1_deleteMin_2 5 rfl rfl)
theorem dX1_deleteMin_51 : decode cX1_deleteMin 51 = .ok (.aload_n 0, 1) := dk_42 (dk_at dksX1_deleteMin_2 6 rfl rfl)
theorem dX1_deleteMin_52 : decode cX1_deleteMin 52 = .ok (.aconst_null, 1) := dk_1 (dk_at dksX1_deleteMin_2 7 rfl rfl)
theorem dX1_deleteMin_53 : decode cX1_deleteMin 53 = .ok (.putfield 16, 3) := dk_181 0 16 (dk_at dksX1_deleteMin_2 8 rfl rfl)
theorem dX1_deleteMin_56 : decode cX1_deleteMin 56 = .ok (.aload_n 0, 1) := dk_42 (dk_at dksX1_deleteMin_2 11 rfl rfl)
theorem dX1_deleteMin_57 : decode cX1_deleteMin 57 = .ok (.iconst (-1), 1) := dk_2 (dk_at dksX1_deleteMin_2 12 rfl rfl)
theorem dX1_deleteMin_58 : decode cX1_deleteMin 58 = .ok (.putfield 54, 3) := dk_181 0 54 (dk_at dksX1_deleteMin_2 13 rfl rfl)
theorem dX1_deleteMin_61 : decode cX1_deleteMin 61 = .ok (.aload_n 0, 1) := dk_42 (dk_at dksX1_deleteMin_2 16 rfl rfl)
theorem dX1_deleteMin_62 : decode cX1_deleteMin 62 = .ok (.iconst (-1), 1) := dk_2 (dk_at dksX1_deleteMin_2 17 rfl rfl)
theorem dX1_deleteMin_63 : decode cX1_deleteMin 63 = .ok (.putfield 61, 3) := dk_181 0 61 (dk_at dksX1_deleteMin_2 18 rfl rfl)
theorem dX1_deleteMin_66 : decode cX1_deleteMin 66 = .ok (.aload_n 0, 1) := dk_42 (dk_at dksX1_deleteMin_2 21 rfl rfl)
theorem dX1_deleteMin_67 : decode cX1_deleteMin 67 = .ok (.dup, 1) := dk_89 (dk_at dksX1_deleteMin_2 22 rfl rfl)
theorem dX1_deleteMin_68 : decode cX1_deleteMin 68 = .ok (.getfield 7, 3) := dk_180 0 7 (dk_at dksX1_deleteMin_3 0 rfl rfl)
theorem dX1_deleteMin_71 : decode cX1_deleteMin 71 = .ok (.lconst 1, 1) := dk_10 (dk_at dksX1_deleteMin_3 3 rfl rfl)
theorem dX1_deleteMin_72 : decode cX1_deleteMin 72 = .ok (.lsub, 1) := dk_101 (dk_at dksX1_deleteMin_3 4 rfl rfl)
theorem dX1_deleteMin_73 : decode cX1_deleteMin 73 = .ok (.dup2_x1, 1) := dk_93 (dk_at dksX1_deleteMin_3 5 rfl rfl)
theorem dX1_deleteMin_74 : decode cX1_deleteMin 74 = .ok (.putfield 7, 3) := dk_181 0 7 (dk_at dksX1_deleteMin_3 6 rfl rfl)
theorem dX1_deleteMin_77 : decode cX1_deleteMin 77 = .ok (.lconst 0, 1) := dk_9 (dk_at dksX1_deleteMin_3 9 rfl rfl)
theorem dX1_deleteMin_78 : decode cX1_deleteMin 78 = .ok (.lcmp, 1) := dk_148 (dk_at dksX1_deleteMin_3 10 rfl rfl)
theorem dX1_deleteMin_79 : decode cX1_deleteMin 79 = .ok (.ifCond .le 187, 3) := dk_158 0 187 (dk_at dksX1_deleteMin_3 11 rfl rfl)
theorem dX1_deleteMin_82 : decode cX1_deleteMin 82 = .ok (.aload_n 0, 1) := dk_42 (dk_at dksX1_deleteMin_3 14 rfl rfl)
theorem dX1_deleteMin_83 : decode cX1_deleteMin 83 = .ok (.iconst 0, 1) := dk_3 (dk_at dksX1_deleteMin_3 15 rfl rfl)
theorem dX1_deleteMin_84 : decode cX1_deleteMin 84 = .ok (.invokevirtual 68, 3) := dk_182 0 68 (dk_at dksX1_deleteMin_3 16 rfl rfl)
theorem dX1_deleteMin_87 : decode cX1_deleteMin 87 = .ok (.goto 179, 3) := dk_167 0 179 (dk_at dksX1_deleteMin_3 19 rfl rfl)
theorem dX1_deleteMin_90 : decode cX1_deleteMin 90 = .ok (.aconst_null, 1) := dk_1 (dk_at dksX1_deleteMin_3 22 rfl rfl)
theorem dX1_deleteMin_91 : decode cX1_deleteMin 91 = .ok (.astore_n 1, 1) := dk_76 (dk_at dksX1_deleteMin_3 23 rfl rfl)
theorem dX1_deleteMin_92 : decode cX1_deleteMin 92 = .ok (.iconst (-1), 1) := dk_2 (dk_at dksX1_deleteMin_4 0 rfl rfl)
theorem dX1_deleteMin_93 : decode cX1_deleteMin 93 = .ok (.istore_n 2, 1) := dk_61 (dk_at dksX1_deleteMin_4 1 rfl rfl)
theorem dX1_deleteMin_94 : decode cX1_deleteMin 94 = .ok (.iconst (-1), 1) := dk_2 (dk_at dksX1_deleteMin_4 2 rfl rfl)
theorem dX1_deleteMin_95 : decode cX1_deleteMin 95 = .ok (.istore_n 3, 1) := dk_62 (dk_at dksX1_deleteMin_4 3 rfl rfl)
theorem dX1_deleteMin_96 : decode cX1_deleteMin 96 = .ok (.iconst 0, 1) := dk_3 (dk_at dksX1_deleteMin_4 4 rfl rfl)
theorem dX1_deleteMin_97 : decode cX1_deleteMin 97 = .ok (.istore 4, 2) := dk_54 4 (dk_at dksX1_deleteMin_4 5 rfl rfl)
theorem dX1_deleteMin_99 : decode cX1_deleteMin 99 = .ok (.aload_n 0, 1) := dk_42 (dk_at dksX1_deleteMin_4 7 rfl rfl)
theorem dX1_deleteMin_100 : decode cX1_deleteMin 100 = .ok (.getfield 44, 3) := dk_180 0 44 (dk_at dksX1_deleteMin_4 8 rfl rfl)
theorem dX1_deleteMin_103 : decode cX1_deleteMin 103 = .ok (.aload_n 0, 1) := dk_42 (dk_at dksX1_deleteMin_4 11 rfl rfl)
theorem dX1_deleteMin_104 : decode cX1_deleteMin 104 = .ok (.getfield 54, 3) := dk_180 0 54 (dk_at dksX1_deleteMin_4 12 rfl rfl)
theorem dX1_deleteMin_107 : decode cX1_deleteMin 107 = .ok (.aaload, 1) := dk_50 (dk_at dksX1_deleteMin_4 15 rfl rfl)
theorem dX1_deleteMin_108 : decode cX1_deleteMin 108 = .ok (.invokeinterface 72 1, 5) := by decide +kernel
theorem dX1_deleteMin_113 : decode cX1_deleteMin 113 = .ok (.astore 5, 2) := dk_58 5 (dk_at dksX1_deleteMin_4 21 rfl rfl)
theorem dX1_deleteMin_115 : decode cX1_deleteMin 115 = .ok (.aload 5, 2) := dk_25 5 (dk_at dksX1_deleteMin_5 0 rfl rfl)
theorem dX1_deleteMin_117 : decode cX1_deleteMin 117 = .ok (.invokeinterface 76 1, 5) := by decide +kernel
theorem dX1_deleteMin_122 : decode cX1_deleteMin 122 = .ok (.ifCond .eq 89, 3) := dk_153 0 89 (dk_at dksX1_deleteMin_5 7 rfl rfl)
theorem dX1_deleteMin_125 : decode cX1_deleteMin 125 = .ok (.aload 5, 2) := dk_25 5 (dk_at dksX1_deleteMin_5 10 rfl rfl)
theorem dX1_deleteMin_127 : decode cX1_deleteMin 127 = .ok (.invokeinterface 82 1, 5) := by decide +kernel
theorem dX1_deleteMin_132 : decode cX1_deleteMin 132 = .ok (.astore 6, 2) := dk_58 6 (dk_at dksX1_deleteMin_5 17 rfl rfl)
theorem dX1_deleteMin_134 : decode cX1_deleteMin 134 = .ok (.iload 4, 2) := dk_21 4 (dk_at dksX1_deleteMin_5 19 rfl rfl)
theorem dX1_deleteMin_136 : decode cX1_deleteMin 136 = .ok (.aload_n 0, 1) := dk_42 (dk_at dksX1_deleteMin_5 21 rfl rfl)
theorem dX1_deleteMin_137 : decode cX1_deleteMin 137 = .ok (.getfield 61, 3) := dk_180 0 61 (dk_at dksX1_deleteMin_6 0 rfl rfl)
theorem dX1_deleteMin_140 : decode cX1_deleteMin 140 = .ok (.if_icmp .eq 65, 3) := dk_159 0 65 (dk_at dksX1_deleteMin_6 3 rfl rfl)
theorem dX1_deleteMin_143 : decode cX1_deleteMin 143 = .ok (.aload_n 0, 1) := dk_42 (dk_at dksX1_deleteMin_6 6 rfl rfl)
theorem dX1_deleteMin_144 : decode cX1_deleteMin 144 = .ok (.aload 6, 2) := dk_25 6 (dk_at dksX1_deleteMin_6 7 rfl rfl)
theorem dX1_deleteMin_146 : decode cX1_deleteMin 146 = .ok (.aload_n 0, 1) := dk_42 (dk_at dksX1_deleteMin_6 9 rfl rfl)
theorem dX1_deleteMin_147 : decode cX1_deleteMin 147 = .ok (.getfield 36, 3) := dk_180 0 36 (dk_at dksX1_deleteMin_6 10 rfl rfl)
theorem dX1_deleteMin_150 : decode cX1_deleteMin 150 = .ok (.invokevirtual 41, 3) := dk_182 0 41 (dk_at dksX1_deleteMin_6 13 rfl rfl)
theorem dX1_deleteMin_153 : decode cX1_deleteMin 153 = .ok (.istore 7, 2) := dk_54 7 (dk_at dksX1_deleteMin_6 16 rfl rfl)
theorem dX1_deleteMin_155 : decode cX1_deleteMin 155 = .ok (.aload_n 0, 1) := dk_42 (dk_at dksX1_deleteMin_6 18 rfl rfl)
theorem dX1_deleteMin_156 : decode cX1_deleteMin 156 = .ok (.getfield 44, 3) := dk_180 0 44 (dk_at dksX1_deleteMin_6 19 rfl rfl)
theorem dX1_deleteMin_159 : decode cX1_deleteMin 159 = .ok (.iload 7, 2) := dk_21 7 (dk_at dksX1_deleteMin_6 22 rfl rfl)
theorem dX1_deleteMin_161 : decode cX1_deleteMin 161 = .ok (.aaload, 1) := dk_50 (dk_at dksX1_deleteMin_7 0 rfl rfl)
theorem dX1_deleteMin_162 : decode cX1_deleteMin 162 = .ok (.aload 6, 2) := dk_25 6 (dk_at dksX1_deleteMin_7 1 rfl rfl)
theorem dX1_deleteMin_164 : decode cX1_deleteMin 164 = .ok (.invokeinterface 48 2, 5) := by decide +kernel
theorem dX1_deleteMin_169 : decode cX1_deleteMin 169 = .ok (.pop, 1) := dk_87 (dk_at dksX1_deleteMin_7 8 rfl rfl)
theorem dX1_deleteMin_170 : decode cX1_deleteMin 170 = .ok (.aload_n 1, 1) := dk_43 (dk_at dksX1_deleteMin_7 9 rfl rfl)
theorem dX1_deleteMin_171 : decode cX1_deleteMin 171 = .ok (.ifnull 13, 3) := dk_198 0 13 (dk_at dksX1_deleteMin_7 10 rfl rfl)
theorem dX1_deleteMin_174 : decode cX1_deleteMin 174 = .ok (.aload_n 0, 1) := dk_42 (dk_at dksX1_deleteMin_7 13 rfl rfl)
theorem dX1_deleteMin_175 : decode cX1_deleteMin 175 = .ok (.aload 6, 2) := dk_25 6 (dk_at dksX1_deleteMin_7 14 rfl rfl)
theorem dX1_deleteMin_177 : decode cX1_deleteMin 177 = .ok (.aload_n 1, 1) := dk_43 (dk_at dksX1_deleteMin_7 16 rfl rfl)
theorem dX1_deleteMin_178 : decode cX1_deleteMin 178 = .ok (.invokevirtual 30, 3) := dk_182 0 30 (dk_at dksX1_deleteMin_7 17 rfl rfl)
theorem dX1_deleteMin_181 : decode cX1_deleteMin 181 = .ok (.ifCond .ge 24, 3) := dk_156 0 24 (dk_at dksX1_deleteMin_7 20 rfl rfl)
theorem dX1_deleteMin_184 : decode cX1_deleteMin 184 = .ok (.aload 6, 2) := dk_25 6 (dk_at dksX1_deleteMin_8 0 rfl rfl)
theorem dX1_deleteMin_186 : decode cX1_deleteMin 186 = .ok (.astore_n 1, 1) := dk_76 (dk_at dksX1_deleteMin_8 2 rfl rfl)
theorem dX1_deleteMin_187 : decode cX1_deleteMin 187 = .ok (.iload 7, 2) := dk_21 7 (dk_at dksX1_deleteMin_8 3 rfl rfl)
theorem dX1_deleteMin_189 : decode cX1_deleteMin 189 = .ok (.istore_n 2, 1) := dk_61 (dk_at dksX1_deleteMin_8 5 rfl rfl)
theorem dX1_deleteMin_190 : decode cX1_deleteMin 190 = .ok (.aload_n 0, 1) := dk_42 (dk_at dksX1_deleteMin_8 6 rfl rfl)
theorem dX1_deleteMin_191 : decode cX1_deleteMin 191 = .ok (.getfield 44, 3) := dk_180 0 44 (dk_at dksX1_deleteMin_8 7 rfl rfl)
theorem dX1_deleteMin_194 : decode cX1_deleteMin 194 = .ok (.iload 7, 2) := dk_21 7 (dk_at dksX1_deleteMin_8 10 rfl rfl)
theorem dX1_deleteMin_196 : decode cX1_deleteMin 196 = .ok (.aaload, 1) := dk_50 (dk_at dksX1_deleteMin_8 12 rfl rfl)
theorem dX1_deleteMin_197 : decode cX1_deleteMin 197 = .ok (.invokeinterface 58 1, 5) := by decide +kernel
theorem dX1_deleteMin_202 : decode cX1_deleteMin 202 = .ok (.iconst 1, 1) := dk_4 (dk_at dksX1_deleteMin_8 18 rfl rfl)
theorem dX1_deleteMin_203 : decode cX1_deleteMin 203 = .ok (.isub, 1) := dk_100 (dk_at dksX1_deleteMin_8 19 rfl rfl)
theorem dX1_deleteMin_204 : decode cX1_deleteMin 204 = .ok (.istore_n 3, 1) := dk_62 (dk_at dksX1_deleteMin_8 20 rfl rfl)
theorem dX1_deleteMin_205 : decode cX1_deleteMin 205 = .ok (.iinc 4 1, 3) := dk_132 4 1 (dk_at dksX1_deleteMin_8 21 rfl rfl)
theorem dX1_deleteMin_208 : decode cX1_deleteMin 208 = .ok (.goto (-93), 3) := dk_167 255 163 (dk_at dksX1_deleteMin_9 0 rfl rfl)
theorem dX1_deleteMin_211 : decode cX1_deleteMin 211 = .ok (.aload_n 0, 1) := dk_42 (dk_at dksX1_deleteMin_9 3 rfl rfl)
theorem dX1_deleteMin_212 : decode cX1_deleteMin 212 = .ok (.getfield 44, 3) := dk_180 0 44 (dk_at dksX1_deleteMin_9 4 rfl rfl)
theorem dX1_deleteMin_215 : decode cX1_deleteMin 215 = .ok (.aload_n 0, 1) := dk_42 (dk_at dksX1_deleteMin_9 7 rfl rfl)
theorem dX1_deleteMin_216 : decode cX1_deleteMin 216 = .ok (.getfield 54, 3) := dk_180 0 54 (dk_at dksX1_deleteMin_9 8 rfl rfl)
theorem dX1_deleteMin_219 : decode cX1_deleteMin 219 = .ok (.aaload, 1) := dk_50 (dk_at dksX1_deleteMin_9 11 rfl rfl)
theorem dX1_deleteMin_220 : decode cX1_deleteMin 220 = .ok (.invokeinterface 86 1, 5) := by decide +kernel
theorem dX1_deleteMin_225 : decode cX1_deleteMin 225 = .ok (.aload_n 0, 1) := dk_42 (dk_at dksX1_deleteMin_9 17 rfl rfl)
theorem dX1_deleteMin_226 : decode cX1_deleteMin 226 = .ok (.aload_n 1, 1) := dk_43 (dk_at dksX1_deleteMin_9 18 rfl rfl)
theorem dX1_deleteMin_227 : decode cX1_deleteMin 227 = .ok (.putfield 16, 3) := dk_181 0 16 (dk_at dksX1_deleteMin_9 19 rfl rfl)
theorem dX1_deleteMin_230 : decode cX1_deleteMin 230 = .ok (.aload_n 0, 1) := dk_42 (dk_at dksX1_deleteMin_9 22 rfl rfl)
theorem dX1_deleteMin_231 : decode cX1_deleteMin 231 = .ok (.iload_n 2, 1) := dk_28 (dk_at dksX1_deleteMin_9 23 rfl rfl)
theorem dX1_deleteMin_232 : decode cX1_deleteMin 232 = .ok (.putfield 54, 3) := dk_181 0 54 (dk_at dksX1_deleteMin_10 0 rfl rfl)
theorem dX1_deleteMin_235 : decode cX1_deleteMin 235 = .ok (.aload_n 0, 1) := dk_42 (dk_at dksX1_deleteMin_10 3 rfl rfl)
theorem dX1_deleteMin_236 : decode cX1_deleteMin 236 = .ok (.iload_n 3, 1) := dk_29 (dk_at dksX1_deleteMin_10 4 rfl rfl)
theorem dX1_deleteMin_237 : decode cX1_deleteMin 237 = .ok (.putfield 61, 3) := dk_181 0 61 (dk_at dksX1_deleteMin_10 5 rfl rfl)
theorem dX1_deleteMin_240 : decode cX1_deleteMin 240 = .ok (.aload_n 0, 1) := dk_42 (dk_at dksX1_deleteMin_10 8 rfl rfl)
theorem dX1_deleteMin_241 : decode cX1_deleteMin 241 = .ok (.dup, 1) := dk_89 (dk_at dksX1_deleteMin_10 9 rfl rfl)
theorem dX1_deleteMin_242 : decode cX1_deleteMin 242 = .ok (.getfield 7, 3) := dk_180 0 7 (dk_at dksX1_deleteMin_10 10 rfl rfl)
theorem dX1_deleteMin_245 : decode cX1_deleteMin 245 = .ok (.lconst 1, 1) := dk_10 (dk_at dksX1_deleteMin_10 13 rfl rfl)
theorem dX1_deleteMin_246 : decode cX1_deleteMin 246 = .ok (.lsub, 1) := dk_101 (dk_at dksX1_deleteMin_10 14 rfl rfl)
theorem dX1_deleteMin_247 : decode cX1_deleteMin 247 = .ok (.dup2_x1, 1) := dk_93 (dk_at dksX1_deleteMin_10 15 rfl rfl)
theorem dX1_deleteMin_248 : decode cX1_deleteMin 248 = .ok (.putfield 7, 3) := dk_181 0 7 (dk_at dksX1_deleteMin_10 16 rfl rfl)
theorem dX1_deleteMin_251 : decode cX1_deleteMin 251 = .ok (.lconst 0, 1) := dk_9 (dk_at dksX1_deleteMin_10 19 rfl rfl)
theorem dX1_deleteMin_252 : decode cX1_deleteMin 252 = .ok (.lcmp, 1) := dk_148 (dk_at dksX1_deleteMin_10 20 rfl rfl)
theorem dX1_deleteMin_253 : decode cX1_deleteMin 253 = .ok (.ifCond .le 13, 3) := dk_158 0 13 (dk_at dksX1_deleteMin_10 21 rfl rfl)
theorem dX1_deleteMin_256 : decode cX1_deleteMin 256 = .ok (.aload_n 0, 1) := dk_42 (dk_at dksX1_deleteMin_11 0 rfl rfl)
theorem dX1_deleteMin_257 : decode cX1_deleteMin 257 = .ok (.aload_n 0, 1) := dk_42 (dk_at dksX1_deleteMin_11 1 rfl rfl)
theorem dX1_deleteMin_258 : decode cX1_deleteMin 258 = .ok (.getfield 54, 3) := dk_180 0 54 (dk_at dksX1_deleteMin_11 2 rfl rfl)
theorem dX1_deleteMin_261 : decode cX1_deleteMin 261 = .ok (.iconst 1, 1) := dk_4 (dk_at dksX1_deleteMin_11 5 rfl rfl)
theorem dX1_deleteMin_262 : decode cX1_deleteMin 262 = .ok (.iadd, 1) := dk_96 (dk_at dksX1_deleteMin_11 6 rfl rfl)
theorem dX1_deleteMin_263 : decode cX1_deleteMin 263 = .ok (.invokevirtual 68, 3) := dk_182 0 68 (dk_at dksX1_deleteMin_11 7 rfl rfl)
theorem dX1_deleteMin_266 : decode cX1_deleteMin 266 = .ok (.aload_n 0, 1) := dk_42 (dk_at dksX1_deleteMin_11 10 rfl rfl)
theorem dX1_deleteMin_267 : decode cX1_deleteMin 267 = .ok (.getfield 36, 3) := dk_180 0 36 (dk_at dksX1_deleteMin_11 11 rfl rfl)
theorem dX1_deleteMin_270 : decode cX1_deleteMin 270 = .ok (.areturn, 1) := dk_176 (dk_at dksX1_deleteMin_11 14 rfl rfl)
abbrev cX1_findAndCacheMinimum : ByteArray := prog_1_method_10_code
def yX1_findAndCacheMinimum : MethodName := ⟨RX1, "findAndCacheMinimum", "(I)V"⟩
def dkwX1_findAndCacheMinimum_5 : List UInt8 := [156, 0, 14, 42, 25, 4, 181, 0, 16, 42, 28, 181, 0, 61, 132, 2, 1, 167, 255, 205, 177]
abbrev dktX1_findAndCacheMinimum_5 : List UInt8 := dkwX1_findAndCacheMinimum_5 ++ []
def dkwX1_findAndCacheMinimum_4 : List UInt8 := [185, 0, 82, 1, 0, 58, 4, 42, 180, 0, 16, 198, 0, 16, 42, 25, 4, 42, 180, 0, 16, 182, 0, 30]
abbrev dktX1_findAndCacheMinimum_4 : List UInt8 := dkwX1_findAndCacheMinimum_4 ++ dktX1_findAndCacheMinimum_5
def dkwX1_findAndCacheMinimum_3 : List UInt8 := [180, 0, 54, 50, 185, 0, 72, 1, 0, 78, 45, 185, 0, 76, 1, 0, 153, 0, 48, 45]
abbrev dktX1_findAndCacheMinimum_3 : List UInt8 := dkwX1_findAndCacheMinimum_3 ++ dktX1_findAndCacheMinimum_4
def dkwX1_findAndCacheMinimum_2 : List UInt8 := [167, 255, 222, 42, 2, 181, 0, 61, 42, 180, 0, 54, 155, 0, 74, 3, 61, 42, 180, 0, 44, 42]
abbrev dktX1_findAndCacheMinimum_2 : List UInt8 := dkwX1_findAndCacheMinimum_2 ++ dktX1_findAndCacheMinimum_3
def dkwX1_findAndCacheMinimum_1 : List UInt8 := [180, 0, 44, 28, 50, 185, 0, 98, 1, 0, 154, 0, 11, 42, 28, 181, 0, 54, 167, 0, 9, 132, 2, 1]
abbrev dktX1_findAndCacheMinimum_1 : List UInt8 := dkwX1_findAndCacheMinimum_1 ++ dktX1_findAndCacheMinimum_2
def dkwX1_findAndCacheMinimum_0 : List UInt8 := [42, 180, 0, 16, 199, 0, 130, 42, 2, 181, 0, 54, 27, 61, 28, 42, 180, 0, 44, 190, 162, 0, 31, 42]
abbrev dktX1_findAndCacheMinimum_0 : List UInt8 := dkwX1_findAndCacheMinimum_0 ++ dktX1_findAndCacheMinimum_1
theorem dksX1_findAndCacheMinimum_0 : cX1_findAndCacheMinimum.data.toList.drop 0 = dktX1_findAndCacheMinimum_0 := by decide +kernel
theorem dksX1_findAndCacheMinimum_1 : cX1_findAndCacheMinimum.data.toList.drop 24 = dktX1_findAndCacheMinimum_1 := dk_seg dksX1_findAndCacheMinimum_0 24 rfl rfl
theorem dksX1_findAndCacheMinimum_2 : cX1_findAndCacheMinimum.data.toList.drop 48 = dktX1_findAndCacheMinimum_2 := dk_seg dksX1_findAndCacheMinimum_1 24 rfl rfl
theorem dksX1_findAndCacheMinimum_3 : cX1_findAndCacheMinimum.data.toList.drop 70 = dktX1_findAndCacheMinimum_3 := dk_seg dksX1_findAndCacheMinimum_2 22 rfl rfl
theorem dksX1_findAndCacheMinimum_4 : cX1_findAndCacheMinimum.data.toList.drop 90 = dktX1_findAndCacheMinimum_4 := dk_seg dksX1_findAndCacheMinimum_3 20 rfl rfl
theorem dksX1_findAndCacheMinimum_5 : cX1_findAndCacheMinimum.data.toList.drop 114 = dktX1_findAndCacheMinimum_5 := dk_seg dksX1_findAndCacheMinimum_4 24 rfl rfl
theorem dX1_findAndCacheMinimum_0 : decode cX1_findAndCacheMinimum 0 = .ok (.aload_n 0, 1) := dk_42 (dk_at dksX1_findAndCacheMinimum_0 0 rfl rfl)
theorem dX1_findAndCacheMinimum_1 : decode cX1_findAndCacheMinimum 1 = .ok (.getfield 16, 3) := dk_180 0 16 (dk_at dksX1_findAndCacheMinimum_0 1 rfl rfl)
theorem dX1_findAndCacheMinimum_4 : decode cX1_findAndCacheMinimum 4 = .ok (.ifnonnull 130, 3) := dk_199 0 130 (dk_at dksX1_findAndCacheMinimum_0 4 rfl rfl)
theorem dX1_findAndCacheMinimum_7 : decode cX1_findAndCacheMinimum 7 = .ok (.aload_n 0, 1) := dk_42 (dk_at dksX1_findAndCacheMinimum_0 7 rfl rfl)
theorem dX1_findAndCacheMinimum_8 : decode cX1_findAndCacheMinimum 8 = .ok (.iconst (-1), 1) := dk_2 (dk_at dksX1_findAndCacheMinimum_0 8 rfl rfl)
theorem dX1_findAndCacheMinimum_9 : decode cX1_findAndCacheMinimum 9 = .ok (.putfield 54, 3) := dk_181 0 54 (dk_at dksX1_findAndCacheMinimum_0 9 rfl rfl)
theorem dX1_findAndCacheMinimum_12 : decode cX1_findAndCacheMinimum 12 = .ok (.iload_n 1, 1) := dk_27 (dk_at dksX1_findAndCacheMinimum_0 12 rfl rfl)
theorem dX1_findAndCacheMinimum_13 : decode cX1_findAndCacheMinimum 13 = .ok (.istore_n 2, 1) := dk_61 (dk_at dksX1_findAndCacheMinimum_0 13 rfl rfl)
theorem dX1_findAndCacheMinimum_14 : decode cX1_findAndCacheMinimum 14 = .ok (.iload_n 2, 1) := dk_28 (dk_at dksX1_findAndCacheMinimum_0 14 rfl rfl)
theorem dX1_findAndCacheMinimum_15 : decode cX1_findAndCacheMinimum 15 = .ok (.aload_n 0, 1) := dk_42 (dk_at dksX1_findAndCacheMinimum_0 15 rfl rfl)
theorem dX1_findAndCacheMinimum_16 : decode cX1_findAndCacheMinimum 16 = .ok (.getfield 44, 3) := dk_180 0 44 (dk_at dksX1_findAndCacheMinimum_0 16 rfl rfl)
theorem dX1_findAndCacheMinimum_19 : decode cX1_findAndCacheMinimum 19 = .ok (.arraylength, 1) := dk_190 (dk_at dksX1_findAndCacheMinimum_0 19 rfl rfl)
theorem dX1_findAndCacheMinimum_20 : decode cX1_findAndCacheMinimum 20 = .ok (.if_icmp .ge 31, 3) := dk_162 0 31 (dk_at dksX1_findAndCacheMinimum_0 20 rfl rfl)
theorem dX1_findAndCacheMinimum_23 : decode cX1_findAndCacheMinimum 23 = .ok (.aload_n 0, 1) := dk_42 (dk_at dksX1_findAndCacheMinimum_0 23 rfl rfl)
theorem dX1_findAndCacheMinimum_24 : decode cX1_findAndCacheMinimum 24 = .ok (.getfield 44, 3) := dk_180 0 44 (dk_at dksX1_findAndCacheMinimum_1 0 rfl rfl)
theorem dX1_findAndCacheMinimum_27 : decode cX1_findAndCacheMinimum 27 = .ok (.iload_n 2, 1) := dk_28 (dk_at dksX1_findAndCacheMinimum_1 3 rfl rfl)
theorem dX1_findAndCacheMinimum_28 : decode cX1_findAndCacheMinimum 28 = .ok (.aaload, 1) := dk_50 (dk_at dksX1_findAndCacheMinimum_1 4 rfl rfl)
theorem dX1_findAndCacheMinimum_29 : decode cX1_findAndCacheMinimum 29 = .ok (.invokeinterface 98 1, 5) := by decide +kernel
theorem dX1_findAndCacheMinimum_34 : decode cX1_findAndCacheMinimum 34 = .ok (.ifCond .ne 11, 3) := dk_154 0 11 (dk_at dksX1_findAndCacheMinimum_1 10 rfl rfl)
theorem dX1_findAndCacheMinimum_37 : decode cX1_findAndCacheMinimum 37 = .ok (.aload_n 0, 1) := dk_42 (dk_at dksX1_findAndCacheMinimum_1 13 rfl rfl)
theorem dX1_findAndCacheMinimum_38 : decode cX1_findAndCacheMinimum 38 = .ok (.iload_n 2, 1) := dk_28 (dk_at dksX1_findAndCacheMinimum_1 14 rfl rfl)
theorem dX1_findAndCacheMinimum_39 : decode cX1_findAndCacheMinimum 39 = .ok (.putfield 54, 3) := dk_181 0 54 (dk_at dksX1_findAndCacheMinimum_1 15 rfl rfl)
theorem dX1_findAndCacheMinimum_42 : decode cX1_findAndCacheMinimum 42 = .ok (.goto 9, 3) := dk_167 0 9 (dk_at dksX1_findAndCacheMinimum_1 18 rfl rfl)
theorem dX1_findAndCacheMinimum_45 : decode cX1_findAndCacheMinimum 45 = .ok (.iinc 2 1, 3) := dk_132 2 1 (dk_at dksX1_findAndCacheMinimum_1 21 rfl rfl)
theorem dX1_findAndCacheMinimum_48 : decode cX1_findAndCacheMinimum 48 = .ok (.goto (-34), 3) := dk_167 255 222 (dk_at dksX1_findAndCacheMinimum_2 0 rfl rfl)
theorem dX1_findAndCacheMinimum_51 : decode cX1_findAndCacheMinimum 51 = .ok (.aload_n 0, 1) := dk_42 (dk_at dksX1_findAndCacheMinimum_2 3 rfl rfl)
theorem dX1_findAndCacheMinimum_52 : decode cX1_findAndCacheMinimum 52 = .ok (.iconst (-1), 1) := dk_2 (dk_at dksX1_findAndCacheMinimum_2 4 rfl rfl)
theorem dX1_findAndCacheMinimum_53 : decode cX1_findAndCacheMinimum 53 = .ok (.putfield 61, 3) := dk_181 0 61 (dk_at dksX1_findAndCacheMinimum_2 5 rfl rfl)
theorem dX1_findAndCacheMinimum_56 : decode cX1_findAndCacheMinimum 56 = .ok (.aload_n 0, 1) := dk_42 (dk_at dksX1_findAndCacheMinimum_2 8 rfl rfl)
theorem dX1_findAndCacheMinimum_57 : decode cX1_findAndCacheMinimum 57 = .ok (.getfield 54, 3) := dk_180 0 54 (dk_at dksX1_findAndCacheMinimum_2 9 rfl rfl)
theorem dX1_findAndCacheMinimum_60 : decode cX1_findAndCacheMinimum 60 = .ok (.ifCond .lt 74, 3) := dk_155 0 74 (dk_at dksX1_findAndCacheMinimum_2 12 rfl rfl)
theorem dX1_findAndCacheMinimum_63 : decode cX1_findAndCacheMinimum 63 = .ok (.iconst 0, 1) := dk_3 (dk_at dksX1_findAndCacheMinimum_2 15 rfl rfl)
theorem dX1_findAndCacheMinimum_64 : decode cX1_findAndCacheMinimum 64 = .ok (.istore_n 2, 1) := dk_61 (dk_at dksX1_findAndCacheMinimum_2 16 rfl rfl)
theorem dX1_findAndCacheMinimum_65 : decode cX1_findAndCacheMinimum 65 = .ok (.aload_n 0, 1) := dk_42 (dk_at dksX1_findAndCacheMinimum_2 17 rfl rfl)
theorem dX1_findAndCacheMinimum_66 : decode cX1_findAndCacheMinimum 66 = .ok (.getfield 44, 3) := dk_180 0 44 (dk_at dksX1_findAndCacheMinimum_2 18 rfl rfl)
theorem dX1_findAndCacheMinimum_69 : decode cX1_findAndCacheMinimum 69 = .ok (.aload_n 0, 1) := dk_42 (dk_at dksX1_findAndCacheMinimum_2 21 rfl rfl)
theorem dX1_findAndCacheMinimum_70 : decode cX1_findAndCacheMinimum 70 = .ok (.getfield 54, 3) := dk_180 0 54 (dk_at dksX1_findAndCacheMinimum_3 0 rfl rfl)
theorem dX1_findAndCacheMinimum_73 : decode cX1_findAndCacheMinimum 73 = .ok (.aaload, 1) := dk_50 (dk_at dksX1_findAndCacheMinimum_3 3 rfl rfl)
theorem dX1_findAndCacheMinimum_74 : decode cX1_findAndCacheMinimum 74 = .ok (.invokeinterface 72 1, 5) := by decide +kernel
theorem dX1_findAndCacheMinimum_79 : decode cX1_findAndCacheMinimum 79 = .ok (.astore_n 3, 1) := dk_78 (dk_at dksX1_findAndCacheMinimum_3 9 rfl rfl)
theorem dX1_findAndCacheMinimum_80 : decode cX1_findAndCacheMinimum 80 = .ok (.aload_n 3, 1) := dk_45 (dk_at dksX1_findAndCacheMinimum_3 10 rfl rfl)
theorem dX1_findAndCacheMinimum_81 : decode cX1_findAndCacheMinimum 81 = .ok (.invokeinterface 76 1, 5) := by decide +kernel
theorem dX1_findAndCacheMinimum_86 : decode cX1_findAndCacheMinimum 86 = .ok (.ifCond .eq 48, 3) := dk_153 0 48 (dk_at dksX1_findAndCacheMinimum_3 16 rfl rfl)
theorem dX1_findAndCacheMinimum_89 : decode cX1_findAndCacheMinimum 89 = .ok (.aload_n 3, 1) := dk_45 (dk_at dksX1_findAndCacheMinimum_3 19 rfl rfl)
theorem dX1_findAndCacheMinimum_90 : decode cX1_findAndCacheMinimum 90 = .ok (.invokeinterface 82 1, 5) := by decide +kernel
theorem dX1_findAndCacheMinimum_95 : decode cX1_findAndCacheMinimum 95 = .ok (.astore 4, 2) := dk_58 4 (dk_at dksX1_findAndCacheMinimum_4 5 rfl rfl)
theorem dX1_findAndCacheMinimum_97 : decode cX1_findAndCacheMinimum 97 = .ok (.aload_n 0, 1) := dk_42 (dk_at dksX1_findAndCacheMinimum_4 7 rfl rfl)
theorem dX1_findAndCacheMinimum_98 : decode cX1_findAndCacheMinimum 98 = .ok (.getfield 16, 3) := dk_180 0 16 (dk_at dksX1_findAndCacheMinimum_4 8 rfl rfl)
theorem dX1_findAndCacheMinimum_101 : decode cX1_findAndCacheMinimum 101 = .ok (.ifnull 16, 3) := dk_198 0 16 (dk_at dksX1_findAndCacheMinimum_4 11 rfl rfl)
theorem dX1_findAndCacheMinimum_104 : decode cX1_findAndCacheMinimum 104 = .ok (.aload_n 0, 1) := dk_42 (dk_at dksX1_findAndCacheMinimum_4 14 rfl rfl)
theorem dX1_findAndCacheMinimum_105 : decode cX1_findAndCacheMinimum 105 = .ok (.aload 4, 2) := dk_25 4 (dk_at dksX1_findAndCacheMinimum_4 15 rfl rfl)
theorem dX1_findAndCacheMinimum_107 : decode cX1_findAndCacheMinimum 107 = .ok (.aload_n 0, 1) := dk_42 (dk_at dksX1_findAndCacheMinimum_4 17 rfl rfl)
theorem dX1_findAndCacheMinimum_108 : decode cX1_findAndCacheMinimum 108 = .ok (.getfield 16, 3) := dk_180 0 16 (dk_at dksX1_findAndCacheMinimum_4 18 rfl rfl)
theorem dX1_findAndCacheMinimum_111 : decode cX1_findAndCacheMinimum 111 = .ok (.invokevirtual 30, 3) := dk_182 0 30 (dk_at dksX1_findAndCacheMinimum_4 21 rfl rfl)
theorem dX1_findAndCacheMinimum_114 : decode cX1_findAndCacheMinimum 114 = .ok (.ifCond .ge 14, 3) := dk_156 0 14 (dk_at dksX1_findAndCacheMinimum_5 0 rfl rfl)
theorem dX1_findAndCacheMinimum_117 : decode cX1_findAndCacheMinimum 117 = .ok (.aload_n 0, 1) := dk_42 (dk_at dksX1_findAndCacheMinimum_5 3 rfl rfl)
theorem dX1_findAndCacheMinimum_118 : decode cX1_findAndCacheMinimum 118 = .ok (.aload 4, 2) := dk_25 4 (dk_at dksX1_findAndCacheMinimum_5 4 rfl rfl)
theorem dX1_findAndCacheMinimum_120 : decode cX1_findAndCacheMinimum 120 = .ok (.putfield 16, 3) := dk_181 0 16 (dk_at dksX1_findAndCacheMinimum_5 6 rfl rfl)
theorem dX1_findAndCacheMinimum_123 : decode cX1_findAndCacheMinimum 123 = .ok (.aload_n 0, 1) := dk_42 (dk_at dksX1_findAndCacheMinimum_5 9 rfl rfl)
theorem dX1_findAndCacheMinimum_124 : decode cX1_findAndCacheMinimum 124 = .ok (.iload_n 2, 1) := dk_28 (dk_at dksX1_findAndCacheMinimum_5 10 rfl rfl)
theorem dX1_findAndCacheMinimum_125 : decode cX1_findAndCacheMinimum 125 = .ok (.putfield 61, 3) := dk_181 0 61 (dk_at dksX1_findAndCacheMinimum_5 11 rfl rfl)
theorem dX1_findAndCacheMinimum_128 : decode cX1_findAndCacheMinimum 128 = .ok (.iinc 2 1, 3) := dk_132 2 1 (dk_at dksX1_findAndCacheMinimum_5 14 rfl rfl)
theorem dX1_findAndCacheMinimum_131 : decode cX1_findAndCacheMinimum 131 = .ok (.goto (-51), 3) := dk_167 255 205 (dk_at dksX1_findAndCacheMinimum_5 17 rfl rfl)
theorem dX1_findAndCacheMinimum_134 : decode cX1_findAndCacheMinimum 134 = .ok (.return_, 1) := dk_177 (dk_at dksX1_findAndCacheMinimum_5 20 rfl rfl)
abbrev cX1_size : ByteArray := prog_1_method_6_code
def yX1_size : MethodName := ⟨RX1, "size", "()J"⟩
theorem dX1_size_0 : decode cX1_size 0 = .ok (.aload_n 0, 1) := by decide +kernel
theorem dX1_size_1 : decode cX1_size 1 = .ok (.getfield 7, 3) := by decide +kernel
theorem dX1_size_4 : decode cX1_size 4 = .ok (.lreturn, 1) := by decide +kernel
theorem q9 : (Jvm.Cond.initialized "AbstractRadixHeap") ∈ lw_all := lw_g (lw_at lw_m1 2 rfl) rfl
theorem q54 : (Jvm.Cond.instanceMethod ({ cls := "AbstractRadixHeap", name := "<init>", desc := "()V" } : Jvm.MethodName)) ∈ lw_all := lw_g (lw_at lw_m1 47 rfl) rfl
theorem q55 : (Jvm.Cond.code ({ cls := "AbstractRadixHeap", name := "<init>", desc := "()V" } : Jvm.MethodName) prog_1_method_1_code (1 : Nat) (Option.none : Option Jvm.ClassFile.FieldType)) ∈ lw_all := lw_g (lw_at lw_m1 48 rfl) rfl
theorem q56 : (Jvm.Cond.methodLink "AbstractRadixHeap" (1 : Nat) ({ cls := "java/lang/Object", name := "<init>", desc := "()V" } : Jvm.MethodName)) ∈ lw_all := lw_g (lw_at lw_m1 49 rfl) rfl
theorem q186 : (Jvm.Cond.fieldLink "AbstractRadixHeap" (44 : Nat) "AbstractRadixHeap" "buckets" "[Ljava/util/List;") ∈ lw_all := lw_g (lw_at lw_m1 179 rfl) rfl
theorem q189 : (Jvm.Cond.fieldLink "AbstractRadixHeap" (7 : Nat) "AbstractRadixHeap" "size" "J") ∈ lw_all := lw_g (lw_at lw_m1 182 rfl) rfl
theorem q192 : (Jvm.Cond.fieldLink "AbstractRadixHeap" (36 : Nat) "AbstractRadixHeap" "lastDeletedKey" "Ljava/lang/Object;") ∈ lw_all := lw_g (lw_at lw_m1 185 rfl) rfl
theorem q195 : (Jvm.Cond.fieldLink "AbstractRadixHeap" (16 : Nat) "AbstractRadixHeap" "currentMin" "Ljava/lang/Object;") ∈ lw_all := lw_g (lw_at lw_m1 188 rfl) rfl
theorem q196 : (Jvm.Cond.fieldLink "AbstractRadixHeap" (54 : Nat) "AbstractRadixHeap" "currentMinBucket" "I") ∈ lw_all := lw_g (lw_at lw_m1 189 rfl) rfl
theorem q197 : (Jvm.Cond.fieldLink "AbstractRadixHeap" (61 : Nat) "AbstractRadixHeap" "currentMinPos" "I") ∈ lw_all := lw_g (lw_at lw_m1 190 rfl) rfl
theorem q202 : (Jvm.Cond.fieldLink "AbstractRadixHeap" (27 : Nat) "AbstractRadixHeap" "maxKey" "Ljava/lang/Object;") ∈ lw_all := lw_g (lw_at lw_m1 195 rfl) rfl
theorem q204 : (Jvm.Cond.soleField "AbstractRadixHeap" "buckets") ∈ lw_all := lw_g (lw_at lw_m1 197 rfl) rfl
theorem q206 : (Jvm.Cond.soleField "AbstractRadixHeap" "size") ∈ lw_all := lw_g (lw_at lw_m1 199 rfl) rfl
theorem q208 : (Jvm.Cond.soleField "AbstractRadixHeap" "lastDeletedKey") ∈ lw_all := lw_g (lw_at lw_m1 201 rfl) rfl
theorem q210 : (Jvm.Cond.soleField "AbstractRadixHeap" "currentMin") ∈ lw_all := lw_g (lw_at lw_m1 203 rfl) rfl
theorem q212 : (Jvm.Cond.soleField "AbstractRadixHeap" "currentMinBucket") ∈ lw_all := lw_g (lw_at lw_m1 205 rfl) rfl
theorem q214 : (Jvm.Cond.soleField "AbstractRadixHeap" "currentMinPos") ∈ lw_all := lw_g (lw_at lw_m1 207 rfl) rfl
theorem q216 : (Jvm.Cond.soleField "AbstractRadixHeap" "minKey") ∈ lw_all := lw_g (lw_at lw_m1 209 rfl) rfl
theorem q218 : (Jvm.Cond.soleField "AbstractRadixHeap" "maxKey") ∈ lw_all := lw_g (lw_at lw_m1 211 rfl) rfl
theorem q242 : (Jvm.Cond.declares ({ cls := "AbstractRadixHeap", name := "insert", desc := "(Ljava/lang/Object;)V" } : Jvm.MethodName)) ∈ lw_tbl := lw_at lw_m1 235 rfl
theorem q244 : (Jvm.Cond.instanceMethod ({ cls := "AbstractRadixHeap", name := "insert", desc := "(Ljava/lang/Object;)V" } : Jvm.MethodName)) ∈ lw_all := lw_g (lw_at lw_m1 237 rfl) rfl
theorem q245 : (Jvm.Cond.code ({ cls := "AbstractRadixHeap", name := "insert", desc := "(Ljava/lang/Object;)V" } : Jvm.MethodName) prog_1_method_3_code (3 : Nat) (Option.none : Option Jvm.ClassFile.FieldType)) ∈ lw_all := lw_g (lw_at lw_m1 238 rfl) rfl
theorem q246 : (Jvm.Cond.classLink "AbstractRadixHeap" (20 : Nat) "java/lang/IllegalArgumentException") ∈ lw_all := lw_g (lw_at lw_m1 239 rfl) rfl
theorem q247 : (Jvm.Cond.stringRef "AbstractRadixHeap" (22 : Nat) "Null keys not permitted") ∈ lw_tbl := lw_at lw_m2 0 rfl
theorem q248 : (Jvm.Cond.methodLink "AbstractRadixHeap" (24 : Nat) ({ cls := "java/lang/IllegalArgumentException", name := "<init>", desc := "(Ljava/lang/String;)V" } : Jvm.MethodName)) ∈ lw_all := lw_g (lw_at lw_m2 1 rfl) rfl
theorem q249 : (Jvm.Cond.methodLink "AbstractRadixHeap" (30 : Nat) ({ cls := "AbstractRadixHeap", name := "compare", desc := "(Ljava/lang/Object;Ljava/lang/Object;)I" } : Jvm.MethodName)) ∈ lw_all := lw_g (lw_at lw_m2 2 rfl) rfl
theorem q250 : (Jvm.Cond.declares ({ cls := "AbstractRadixHeap", name := "compare", desc := "(Ljava/lang/Object;Ljava/lang/Object;)I" } : Jvm.MethodName)) ∈ lw_tbl := lw_at lw_m2 3 rfl
theorem q251 : (Jvm.Cond.sameMethod "AbstractRadixHeap" "AbstractRadixHeap" "compare" "(Ljava/lang/Object;Ljava/lang/Object;)I") ∈ lw_all := lw_g (lw_at lw_m2 4 rfl) rfl
theorem q264 : (Jvm.Cond.stringRef "AbstractRadixHeap" (34 : Nat) "Key is more than the maximum allowed key") ∈ lw_tbl := lw_at lw_m2 17 rfl
theorem q265 : (Jvm.Cond.stringRef "AbstractRadixHeap" (39 : Nat) "Invalid key. Monotone heap.") ∈ lw_tbl := lw_at lw_m2 18 rfl
theorem q266 : (Jvm.Cond.methodLink "AbstractRadixHeap" (41 : Nat) ({ cls := "AbstractRadixHeap", name := "computeBucket", desc := "(Ljava/lang/Object;Ljava/lang/Object;)I" } : Jvm.MethodName)) ∈ lw_all := lw_g (lw_at lw_m2 19 rfl) rfl
theorem q267 : (Jvm.Cond.instanceMethod ({ cls := "AbstractRadixHeap", name := "computeBucket", desc := "(Ljava/lang/Object;Ljava/lang/Object;)I" } : Jvm.MethodName)) ∈ lw_all := lw_g (lw_at lw_m2 20 rfl) rfl
theorem q268 : (Jvm.Cond.sameMethod "AbstractRadixHeap" "AbstractRadixHeap" "computeBucket" "(Ljava/lang/Object;Ljava/lang/Object;)I") ∈ lw_all := lw_g (lw_at lw_m2 21 rfl) rfl
theorem q270 : (Jvm.Cond.code ({ cls := "AbstractRadixHeap", name := "computeBucket", desc := "(Ljava/lang/Object;Ljava/lang/Object;)I" } : Jvm.MethodName) prog_1_method_8_code (3 : Nat) (Option.some Jvm.ClassFile.FieldType.int)) ∈ lw_all := lw_g (lw_at lw_m2 23 rfl) rfl
theorem q271 : (Jvm.Cond.methodLink "AbstractRadixHeap" (89 : Nat) ({ cls := "AbstractRadixHeap", name := "msd", desc := "(Ljava/lang/Object;Ljava/lang/Object;)I" } : Jvm.MethodName)) ∈ lw_all := lw_g (lw_at lw_m2 24 rfl) rfl
theorem q272 : (Jvm.Cond.declares ({ cls := "AbstractRadixHeap", name := "msd", desc := "(Ljava/lang/Object;Ljava/lang/Object;)I" } : Jvm.MethodName)) ∈ lw_tbl := lw_at lw_m2 25 rfl
theorem q273 : (Jvm.Cond.sameMethod "AbstractRadixHeap" "AbstractRadixHeap" "msd" "(Ljava/lang/Object;Ljava/lang/Object;)I") ∈ lw_all := lw_g (lw_at lw_m2 26 rfl) rfl
theorem q289 : (Jvm.Cond.methodLink "AbstractRadixHeap" (92 : Nat) ({ cls := "java/lang/Math", name := "min", desc := "(II)I" } : Jvm.MethodName)) ∈ lw_all := lw_g (lw_at lw_m2 42 rfl) rfl
theorem q292 : (Jvm.Cond.interfaceEntry "AbstractRadixHeap" (48 : Nat)) ∈ lw_tbl := lw_at lw_m2 45 rfl
theorem q293 : (Jvm.Cond.methodLink "AbstractRadixHeap" (48 : Nat) ({ cls := "java/util/List", name := "add", desc := "(Ljava/lang/Object;)Z" } : Jvm.MethodName)) ∈ lw_all := lw_g (lw_at lw_m2 46 rfl) rfl
theorem q351 : (Jvm.Cond.interfaceEntry "AbstractRadixHeap" (58 : Nat)) ∈ lw_tbl := lw_at lw_m2 104 rfl
theorem q352 : (Jvm.Cond.methodLink "AbstractRadixHeap" (58 : Nat) ({ cls := "java/util/List", name := "size", desc := "()I" } : Jvm.MethodName)) ∈ lw_all := lw_g (lw_at lw_m2 105 rfl) rfl
theorem q370 : (Jvm.Cond.declares ({ cls := "AbstractRadixHeap", name := "isEmpty", desc := "()Z" } : Jvm.MethodName)) ∈ lw_tbl := lw_at lw_m2 123 rfl
theorem q372 : (Jvm.Cond.instanceMethod ({ cls := "AbstractRadixHeap", name := "isEmpty", desc := "()Z" } : Jvm.MethodName)) ∈ lw_all := lw_g (lw_at lw_m2 125 rfl) rfl
theorem q373 : (Jvm.Cond.code ({ cls := "AbstractRadixHeap", name := "isEmpty", desc := "()Z" } : Jvm.MethodName) prog_1_method_5_code (1 : Nat) (Option.some Jvm.ClassFile.FieldType.boolean)) ∈ lw_all := lw_g (lw_at lw_m2 126 rfl) rfl
theorem q376 : (Jvm.Cond.declares ({ cls := "AbstractRadixHeap", name := "findMin", desc := "()Ljava/lang/Object;" } : Jvm.MethodName)) ∈ lw_tbl := lw_at lw_m2 129 rfl
theorem q378 : (Jvm.Cond.instanceMethod ({ cls := "AbstractRadixHeap", name := "findMin", desc := "()Ljava/lang/Object;" } : Jvm.MethodName)) ∈ lw_all := lw_g (lw_at lw_m2 131 rfl) rfl
theorem q379 : (Jvm.Cond.code ({ cls := "AbstractRadixHeap", name := "findMin", desc := "()Ljava/lang/Object;" } : Jvm.MethodName) prog_1_method_2_code (1 : Nat) (Option.some (Jvm.ClassFile.FieldType.object "java/lang/Object"))) ∈ lw_all := lw_g (lw_at lw_m2 132 rfl) rfl
theorem q380 : (Jvm.Cond.classLink "AbstractRadixHeap" (13 : Nat) "java/util/NoSuchElementException") ∈ lw_all := lw_g (lw_at lw_m2 133 rfl) rfl
theorem q389 : (Jvm.Cond.methodLink "AbstractRadixHeap" (15 : Nat) ({ cls := "java/util/NoSuchElementException", name := "<init>", desc := "()V" } : Jvm.MethodName)) ∈ lw_all := lw_g (lw_at lw_m2 142 rfl) rfl
theorem q409 : (Jvm.Cond.declares ({ cls := "AbstractRadixHeap", name := "deleteMin", desc := "()Ljava/lang/Object;" } : Jvm.MethodName)) ∈ lw_tbl := lw_at lw_m2 162 rfl
theorem q411 : (Jvm.Cond.instanceMethod ({ cls := "AbstractRadixHeap", name := "deleteMin", desc := "()Ljava/lang/Object;" } : Jvm.MethodName)) ∈ lw_all := lw_g (lw_at lw_m2 164 rfl) rfl
theorem q412 : (Jvm.Cond.code ({ cls := "AbstractRadixHeap", name := "deleteMin", desc := "()Ljava/lang/Object;" } : Jvm.MethodName) prog_1_method_4_code (8 : Nat) (Option.some (Jvm.ClassFile.FieldType.object "java/lang/Object"))) ∈ lw_all := lw_g (lw_at lw_m2 165 rfl) rfl
theorem q413 : (Jvm.Cond.interfaceEntry "AbstractRadixHeap" (64 : Nat)) ∈ lw_tbl := lw_at lw_m2 166 rfl
theorem q414 : (Jvm.Cond.methodLink "AbstractRadixHeap" (64 : Nat) ({ cls := "java/util/List", name := "remove", desc := "(I)Ljava/lang/Object;" } : Jvm.MethodName)) ∈ lw_all := lw_g (lw_at lw_m2 167 rfl) rfl
theorem q433 : (Jvm.Cond.methodLink "AbstractRadixHeap" (68 : Nat) ({ cls := "AbstractRadixHeap", name := "findAndCacheMinimum", desc := "(I)V" } : Jvm.MethodName)) ∈ lw_all := lw_g (lw_at lw_m2 186 rfl) rfl
theorem q434 : (Jvm.Cond.privateMethod ({ cls := "AbstractRadixHeap", name := "findAndCacheMinimum", desc := "(I)V" } : Jvm.MethodName)) ∈ lw_tbl := lw_at lw_m2 187 rfl
theorem q435 : (Jvm.Cond.instanceMethod ({ cls := "AbstractRadixHeap", name := "findAndCacheMinimum", desc := "(I)V" } : Jvm.MethodName)) ∈ lw_all := lw_g (lw_at lw_m2 188 rfl) rfl
theorem q436 : (Jvm.Cond.code ({ cls := "AbstractRadixHeap", name := "findAndCacheMinimum", desc := "(I)V" } : Jvm.MethodName) prog_1_method_10_code (5 : Nat) (Option.none : Option Jvm.ClassFile.FieldType)) ∈ lw_all := lw_g (lw_at lw_m2 189 rfl) rfl
theorem q437 : (Jvm.Cond.interfaceEntry "AbstractRadixHeap" (98 : Nat)) ∈ lw_tbl := lw_at lw_m2 190 rfl
theorem q438 : (Jvm.Cond.methodLink "AbstractRadixHeap" (98 : Nat) ({ cls := "java/util/List", name := "isEmpty", desc := "()Z" } : Jvm.MethodName)) ∈ lw_all := lw_g (lw_at lw_m2 191 rfl) rfl
theorem q446 : (Jvm.Cond.interfaceEntry "AbstractRadixHeap" (72 : Nat)) ∈ lw_tbl := lw_at lw_m2 199 rfl
theorem q447 : (Jvm.Cond.methodLink "AbstractRadixHeap" (72 : Nat) ({ cls := "java/util/List", name := "iterator", desc := "()Ljava/util/Iterator;" } : Jvm.MethodName)) ∈ lw_all := lw_g (lw_at lw_m2 200 rfl) rfl
theorem q474 : (Jvm.Cond.interfaceEntry "AbstractRadixHeap" (76 : Nat)) ∈ lw_tbl := lw_at lw_m2 227 rfl
theorem q475 : (Jvm.Cond.methodLink "AbstractRadixHeap" (76 : Nat) ({ cls := "java/util/Iterator", name := "hasNext", desc := "()Z" } : Jvm.MethodName)) ∈ lw_all := lw_g (lw_at lw_m2 228 rfl) rfl
theorem q484 : (Jvm.Cond.interfaceEntry "AbstractRadixHeap" (82 : Nat)) ∈ lw_tbl := lw_at lw_m2 237 rfl
theorem q485 : (Jvm.Cond.methodLink "AbstractRadixHeap" (82 : Nat) ({ cls := "java/util/Iterator", name := "next", desc := "()Ljava/lang/Object;" } : Jvm.MethodName)) ∈ lw_all := lw_g (lw_at lw_m2 238 rfl) rfl
theorem q497 : (Jvm.Cond.interfaceEntry "AbstractRadixHeap" (86 : Nat)) ∈ lw_tbl := lw_at lw_m3 10 rfl
theorem q498 : (Jvm.Cond.methodLink "AbstractRadixHeap" (86 : Nat) ({ cls := "java/util/List", name := "clear", desc := "()V" } : Jvm.MethodName)) ∈ lw_all := lw_g (lw_at lw_m3 11 rfl) rfl
theorem q512 : (Jvm.Cond.declares ({ cls := "AbstractRadixHeap", name := "size", desc := "()J" } : Jvm.MethodName)) ∈ lw_tbl := lw_at lw_m3 25 rfl
theorem q514 : (Jvm.Cond.instanceMethod ({ cls := "AbstractRadixHeap", name := "size", desc := "()J" } : Jvm.MethodName)) ∈ lw_all := lw_g (lw_at lw_m3 27 rfl) rfl
theorem q515 : (Jvm.Cond.code ({ cls := "AbstractRadixHeap", name := "size", desc := "()J" } : Jvm.MethodName) prog_1_method_6_code (1 : Nat) (Option.some Jvm.ClassFile.FieldType.long)) ∈ lw_all := lw_g (lw_at lw_m3 28 rfl) rfl
theorem q582 : (Jvm.Cond.sameMethod "AbstractRadixHeap" "AbstractRadixHeap" "findAndCacheMinimum" "(I)V") ∈ lw_all := lw_g (lw_at lw_m3 95 rfl) rfl
/-! LongRadixHeap -/
set_option maxRecDepth 100000
def RX2 : String := "LongRadixHeap"
def TX2 : u_T := fun k => match k with
  | 0 => ("AbstractRadixHeap", "buckets", "[Ljava/util/List;", false)
  | 1 => ("AbstractRadixHeap", "size", "J", false)
  | 2 => ("AbstractRadixHeap", "lastDeletedKey", "Ljava/lang/Object;", false)
  | 3 => ("AbstractRadixHeap", "currentMin", "Ljava/lang/Object;", false)
  | 4 => ("AbstractRadixHeap", "currentMinBucket", "I", false)
  | 5 => ("AbstractRadixHeap", "currentMinPos", "I", false)
  | 6 => ("AbstractRadixHeap", "minKey", "Ljava/lang/Object;", false)
  | _ => ("AbstractRadixHeap", "maxKey", "Ljava/lang/Object;", false)
def tyX2 : Nat → FieldType := fun k => match k with
  | 0 => .array (.object "java/util/List")
  | 1 => .long
  | 2 => .object "java/lang/Object"
  | 3 => .object "java/lang/Object"
  | 4 => .int
  | 5 => .int
  | 6 => .object "java/lang/Object"
  | _ => .object "java/lang/Object"
abbrev wsX20 : List Cond := u_ws RX2 TX2 8
theorem nmX2 : ∀ a, a < 8 → ∀ b, b < 8 → a ≠ b → (TX2 a).2.1 ≠ (TX2 b).2.1 := by decide +kernel
theorem tyX2_ok : ∀ k, k < 8 → parseFieldDescriptor (TX2 k).2.2.1 = some (tyX2 k) := by decide +kernel
abbrev cX2_init : ByteArray := prog_2_method_1_code
def yX2_init : MethodName := ⟨RX2, "<init>", "(JJ)V"⟩
def dkwX2_init_6 : List UInt8 := [181, 0, 54, 42, 1, 181, 0, 58, 177]
abbrev dktX2_init_6 : List UInt8 := dkwX2_init_6 ++ []
def dkwX2_init_5 : List UInt8 := [42, 180, 0, 47, 21, 6, 187, 0, 51, 89, 183, 0, 53, 83, 132, 6, 1, 167, 255, 229, 42, 9]
abbrev dktX2_init_5 : List UInt8 := dkwX2_init_5 ++ dktX2_init_6
def dkwX2_init_4 : List UInt8 := [54, 5, 42, 21, 5, 189, 0, 45, 181, 0, 47, 3, 54, 6, 21, 6, 42, 180, 0, 47, 190, 162, 0, 23]
abbrev dktX2_init_4 : List UInt8 := dkwX2_init_4 ++ dktX2_init_5
def dkwX2_init_3 : List UInt8 := [167, 0, 26, 6, 33, 138, 31, 138, 103, 184, 0, 34, 20, 0, 40, 184, 0, 34, 111, 184, 0, 42, 142, 96]
abbrev dktX2_init_3 : List UInt8 := dkwX2_init_3 ++ dktX2_init_4
def dkwX2_init_2 : List UInt8 := [18, 29, 183, 0, 11, 191, 42, 33, 184, 0, 14, 181, 0, 31, 33, 31, 148, 154, 0, 9, 5, 54, 5]
abbrev dktX2_init_2 : List UInt8 := dkwX2_init_2 ++ dktX2_init_3
def dkwX2_init_1 : List UInt8 := [184, 0, 14, 181, 0, 20, 42, 31, 184, 0, 14, 181, 0, 26, 33, 31, 148, 156, 0, 13, 187, 0, 7, 89]
abbrev dktX2_init_1 : List UInt8 := dkwX2_init_1 ++ dktX2_init_2
def dkwX2_init_0 : List UInt8 := [42, 183, 0, 1, 31, 9, 148, 156, 0, 13, 187, 0, 7, 89, 18, 9, 183, 0, 11, 191, 42, 31]
abbrev dktX2_init_0 : List UInt8 := dkwX2_init_0 ++ dktX2_init_1
theorem dksX2_init_0 : cX2_init.data.toList.drop 0 = dktX2_init_0 := by decide +kernel
theorem dksX2_init_1 : cX2_init.data.toList.drop 22 = dktX2_init_1 := dk_seg dksX2_init_0 22 rfl rfl
theorem dksX2_init_2 : cX2_init.data.toList.drop 46 = dktX2_init_2 := dk_seg dksX2_init_1 24 rfl rfl
theorem dksX2_init_3 : cX2_init.data.toList.drop 69 = dktX2_init_3 := dk_seg dksX2_init_2 23 rfl rfl
theorem dksX2_init_4 : cX2_init.data.toList.drop 93 = dktX2_init_4 := dk_seg dksX2_init_3 24 rfl rfl
theorem dksX2_init_5 : cX2_init.data.toList.drop 117 = dktX2_init_5 := dk_seg dksX2_init_4 24 rfl rfl
theorem dksX2_init_6 : cX2_init.data.toList.drop 139 = dktX2_init_6 := dk_seg dksX2_init_5 22 rfl rfl
theorem dX2_init_0 : decode cX2_init 0 = .ok (.aload_n 0, 1) := dk_42 (dk_at dksX2_init_0 0 rfl rfl)
theorem dX2_init_1 : decode cX2_init 1 = .ok (.invokespecial 1, 3) := dk_183 0 1 (dk_at dksX2_init_0 1 rfl rfl)
theorem dX2_init_4 : decode cX2_init 4 = .ok (.lload_n 1, 1) := dk_31 (dk_at dksX2_init_0 4 rfl rfl)
theorem dX2_init_5 : decode cX2_init 5 = .ok (.lconst 0, 1) := dk_9 (dk_at dksX2_init_0 5 rfl rfl)
theorem dX2_init_6 : decode cX2_init 6 = .ok (.lcmp, 1) := dk_148 (dk_at dksX2_init_0 6 rfl rfl)
theorem dX2_init_7 : decode cX2_init 7 = .ok (.ifCond .ge 13, 3) := dk_156 0 13 (dk_at dksX2_init_0 7 rfl rfl)
theorem dX2_init_10 : decode cX2_init 10 = .ok (.new 7, 3) := dk_187 0 7 (dk_at dksX2_init_0 10 rfl rfl)
theorem dX2_init_13 : decode cX2_init 13 = .ok (.dup, 1) := dk_89 (dk_at dksX2_init_0 13 rfl rfl)
theorem dX2_init_14 : decode cX2_init 14 = .ok (.ldc 9, 2) := dk_18 9 (dk_at dksX2_init_0 14 rfl rfl)
theorem dX2_init_16 : decode cX2_init 16 = .ok (.invokespecial 11, 3) := dk_183 0 11 (dk_at dksX2_init_0 16 rfl rfl)
theorem dX2_init_19 : decode cX2_init 19 = .ok (.athrow, 1) := dk_191 (dk_at dksX2_init_0 19 rfl rfl)
theorem dX2_init_20 : decode cX2_init 20 = .ok (.aload_n 0, 1) := dk_42 (dk_at dksX2_init_0 20 rfl rfl)
theorem dX2_init_21 : decode cX2_init 21 = .ok (.lload_n 1, 1) := dk_31 (dk_at dksX2_init_0 21 rfl rfl)
theorem dX2_init_22 : decode cX2_init 22 = .ok (.invokestatic 14, 3) := dk_184 0 14 (dk_at dksX2_init_1 0 rfl rfl)
theorem dX2_init_25 : decode cX2_init 25 = .ok (.putfield 20, 3) := dk_181 0 20 (dk_at dksX2_init_1 3 rfl rfl)
theorem dX2_init_28 : decode cX2_init 28 = .ok (.aload_n 0, 1) := dk_42 (dk_at dksX2_init_1 6 rfl rfl)
theorem dX2_init_29 : decode cX2_init 29 = .ok (.lload_n 1, 1) := dk_31 (dk_at dksX2_init_1 7 rfl rfl)
theorem dX2_init_30 : decode cX2_init 30 = .ok (.invokestatic 14, 3) := dk_184 0 14 (dk_at dksX2_init_1 8 rfl rfl)
theorem dX2_init_33 : decode cX2_init 33 = .ok (.putfield 26, 3) := dk_181 0 26 (dk_at dksX2_init_1 11 rfl rfl)
theorem dX2_init_36 : decode cX2_init 36 = .ok (.lload_n 3, 1) := dk_33 (dk_at dksX2_init_1 14 rfl rfl)
theorem dX2_init_37 : decode cX2_init 37 = .ok (.lload_n 1, 1) := dk_31 (dk_at dksX2_init_1 15 rfl rfl)
theorem dX2_init_38 : decode cX2_init 38 = .ok (.lcmp, 1) := dk_148 (dk_at dksX2_init_1 16 rfl rfl)
theorem dX2_init_39 : decode cX2_init 39 = .ok (.ifCond .ge 13, 3) := dk_156 0 13 (dk_at dksX2_init_1 17 rfl rfl)
theorem dX2_init_42 : decode cX2_init 42 = .ok (.new 7, 3) := dk_187 0 7 (dk_at dksX2_init_1 20 rfl rfl)
theorem dX2_init_45 : decode cX2_init 45 = .ok (.dup, 1) := dk_89 (dk_at dksX2_init_1 23 rfl rfl)
theorem dX2_init_46 : decode cX2_init 46 = .ok (.ldc 29, 2) := dk_18 29 (dk_at dksX2_init_2 0 rfl rfl)
theorem dX2_init_48 : decode cX2_init 48 = .ok (.invokespecial 11, 3) := dk_183 0 11 (dk_at dksX2_init_2 2 rfl rfl)
theorem dX2_init_51 : decode cX2_init 51 = .ok (.athrow, 1) := dk_191 (dk_at dksX2_init_2 5 rfl rfl)
theorem dX2_init_52 : decode cX2_init 52 = .ok (.aload_n 0, 1) := dk_42 (dk_at dksX2_init_2 6 rfl rfl)
theorem dX2_init_53 : decode cX2_init 53 = .ok (.lload_n 3, 1) := dk_33 (dk_at dksX2_init_2 7 rfl rfl)
theorem dX2_init_54 : decode cX2_init 54 = .ok (.invokestatic 14, 3) := dk_184 0 14 (dk_at dksX2_init_2 8 rfl rfl)
theorem dX2_init_57 : decode cX2_init 57 = .ok (.putfield 31, 3) := dk_181 0 31 (dk_at dksX2_init_2 11 rfl rfl)
theorem dX2_init_60 : decode cX2_init 60 = .ok (.lload_n 3, 1) := dk_33 (dk_at dksX2_init_2 14 rfl rfl)
theorem dX2_init_61 : decode cX2_init 61 = .ok (.lload_n 1, 1) := dk_31 (dk_at dksX2_init_2 15 rfl rfl)
theorem dX2_init_62 : decode cX2_init 62 = .ok (.lcmp, 1) := dk_148 (dk_at dksX2_init_2 16 rfl rfl)
theorem dX2_init_63 : decode cX2_init 63 = .ok (.ifCond .ne 9, 3) := dk_154 0 9 (dk_at dksX2_init_2 17 rfl rfl)
theorem dX2_init_66 : decode cX2_init 66 = .ok (.iconst 2, 1) := dk_5 (dk_at dksX2_init_2 20 rfl rfl)
theorem dX2_init_67 : decode cX2_init 67 = .ok (.istore 5, 2) := dk_54 5 (dk_at dksX2_init_2 21 rfl rfl)
theorem dX2_init_69 : decode cX2_init 69 = .ok (.goto 26, 3) := dk_167 0 26 (dk_at dksX2_init_3 0 rfl rfl)
theorem dX2_init_72 : decode cX2_init 72 = .ok (.iconst 3, 1) := dk_6 (dk_at dksX2_init_3 3 rfl rfl)
theorem dX2_init_73 : decode cX2_init 73 = .ok (.lload_n 3, 1) := dk_33 (dk_at dksX2_init_3 4 rfl rfl)
theorem dX2_init_74 : decode cX2_init 74 = .ok (.l2d, 1) := dk_138 (dk_at dksX2_init_3 5 rfl rfl)
theorem dX2_init_75 : decode cX2_init 75 = .ok (.lload_n 1, 1) := dk_31 (dk_at dksX2_init_3 6 rfl rfl)
theorem dX2_init_76 : decode cX2_init 76 = .ok (.l2d, 1) := dk_138 (dk_at dksX2_init_3 7 rfl rfl)
theorem dX2_init_77 : decode cX2_init 77 = .ok (.dsub, 1) := dk_103 (dk_at dksX2_init_3 8 rfl rfl)
theorem dX2_init_78 : decode cX2_init 78 = .ok (.invokestatic 34, 3) := dk_184 0 34 (dk_at dksX2_init_3 9 rfl rfl)
theorem dX2_init_81 : decode cX2_init 81 = .ok (.ldc2_w 40, 3) := dk_20 0 40 (dk_at dksX2_init_3 12 rfl rfl)
theorem dX2_init_84 : decode cX2_init 84 = .ok (.invokestatic 34, 3) := dk_184 0 34 (dk_at dksX2_init_3 15 rfl rfl)
theorem dX2_init_87 : decode cX2_init 87 = .ok (.ddiv, 1) := dk_111 (dk_at dksX2_init_3 18 rfl rfl)
theorem dX2_init_88 : decode cX2_init 88 = .ok (.invokestatic 42, 3) := dk_184 0 42 (dk_at dksX2_init_3 19 rfl rfl)
theorem dX2_init_91 : decode cX2_init 91 = .ok (.d2i, 1) := dk_142 (dk_at dksX2_init_3 22 rfl rfl)
theorem dX2_init_92 : decode cX2_init 92 = .ok (.iadd, 1) := dk_96 (dk_at dksX2_init_3 23 rfl rfl)
theorem dX2_init_93 : decode cX2_init 93 = .ok (.istore 5, 2) := dk_54 5 (dk_at dksX2_init_4 0 rfl rfl)
theorem dX2_init_95 : decode cX2_init 95 = .ok (.aload_n 0, 1) := dk_42 (dk_at dksX2_init_4 2 rfl rfl)
theorem dX2_init_96 : decode cX2_init 96 = .ok (.iload 5, 2) := dk_21 5 (dk_at dksX2_init_4 3 rfl rfl)
theorem dX2_init_98 : decode cX2_init 98 = .ok (.anewarray 45, 3) := dk_189 0 45 (dk_at dksX2_init_4 5 rfl rfl)
theorem dX2_init_101 : decode cX2_init 101 = .ok (.putfield 47, 3) := dk_181 0 47 (dk_at dksX2_init_4 8 rfl rfl)
theorem dX2_init_104 : decode cX2_init 104 = .ok (.iconst 0, 1) := dk_3 (dk_at dksX2_init_4 11 rfl rfl)
theorem dX2_init_105 : decode cX2_init 105 = .ok (.istore 6, 2) := dk_54 6 (dk_at dksX2_init_4 12 rfl rfl)
theorem dX2_init_107 : decode cX2_init 107 = .ok (.iload 6, 2) := dk_21 6 (dk_at dksX2_init_4 14 rfl rfl)
theorem dX2_init_109 : decode cX2_init 109 = .ok (.aload_n 0, 1) := dk_42 (dk_at dksX2_init_4 16 rfl rfl)
theorem dX2_init_110 : decode cX2_init 110 = .ok (.getfield 47, 3) := dk_180 0 47 (dk_at dksX2_init_4 17 rfl rfl)
theorem dX2_init_113 : decode cX2_init 113 = .ok (.arraylength, 1) := dk_190 (dk_at dksX2_init_4 20 rfl rfl)
theorem dX2_init_114 : decode cX2_init 114 = .ok (.if_icmp .ge 23, 3) := dk_162 0 23 (dk_at dksX2_init_4 21 rfl rfl)
theorem dX2_init_117 : decode cX2_init 117 = .ok (.aload_n 0, 1) := dk_42 (dk_at dksX2_init_5 0 rfl rfl)
theorem dX2_init_118 : decode cX2_init 118 = .ok (.getfield 47, 3) := dk_180 0 47 (dk_at dksX2_init_5 1 rfl rfl)
theorem dX2_init_121 : decode cX2_init 121 = .ok (.iload 6, 2) := dk_21 6 (dk_at dksX2_init_5 4 rfl rfl)
theorem dX2_init_123 : decode cX2_init 123 = .ok (.new 51, 3) := dk_187 0 51 (dk_at dksX2_init_5 6 rfl rfl)
theorem dX2_init_126 : decode cX2_init 126 = .ok (.dup, 1) := dk_89 (dk_at dksX2_init_5 9 rfl rfl)
theorem dX2_init_127 : decode cX2_init 127 = .ok (.invokespecial 53, 3) := dk_183 0 53 (dk_at dksX2_init_5 10 rfl rfl)
theorem dX2_init_130 : decode cX2_init 130 = .ok (.aastore, 1) := dk_83 (dk_at dksX2_init_5 13 rfl rfl)
theorem dX2_init_131 : decode cX2_init 131 = .ok (.iinc 6 1, 3) := dk_132 6 1 (dk_at dksX2_init_5 14 rfl rfl)
theorem dX2_init_134 : decode cX2_init 134 = .ok (.goto (-27), 3) := dk_167 255 229 (dk_at dksX2_init_5 17 rfl rfl)
theorem dX2_init_137 : decode cX2_init 137 = .ok (.aload_n 0, 1) := dk_42 (dk_at dksX2_init_5 20 rfl rfl)
theorem dX2_init_138 : decode cX2_init 138 = .ok (.lconst 0, 1) := dk_9 (dk_at dksX2_init_5 21 rfl rfl)
theorem dX2_init_139 : decode cX2_init 139 = .ok (.putfield 54, 3) := dk_181 0 54 (dk_at dksX2_init_6 0 rfl rfl)
theorem dX2_init_142 : decode cX2_init 142 = .ok (.aload_n 0, 1) := dk_42 (dk_at dksX2_init_6 3 rfl rfl)
theorem dX2_init_143 : decode cX2_init 143 = .ok (.aconst_null, 1) := dk_1 (dk_at dksX2_init_6 4 rfl rfl)
theorem dX2_init_144 : decode cX2_init 144 = .ok (.putfield 58, 3) := dk_181 0 58 (dk_at dksX2_init_6 5 rfl rfl)
theorem dX2_init_147 : decode cX2_init 147 = .ok (.return_, 1) := dk_177 (dk_at dksX2_init_6 8 rfl rfl)
abbrev cX2_compare : ByteArray := prog_2_method_5_code
def yX2_compare : MethodName := ⟨RX2, "compare", "(Ljava/lang/Object;Ljava/lang/Object;)I"⟩
def dkwX2_compare_0 : List UInt8 := [42, 43, 192, 0, 15, 44, 192, 0, 15, 182, 0, 75, 172]
abbrev dktX2_compare_0 : List UInt8 := dkwX2_compare_0 ++ []
theorem dksX2_compare_0 : cX2_compare.data.toList.drop 0 = dktX2_compare_0 := by decide +kernel
theorem dX2_compare_0 : decode cX2_compare 0 = .ok (.aload_n 0, 1) := dk_42 (dk_at dksX2_compare_0 0 rfl rfl)
theorem dX2_compare_1 : decode cX2_compare 1 = .ok (.aload_n 1, 1) := dk_43 (dk_at dksX2_compare_0 1 rfl rfl)
theorem dX2_compare_2 : decode cX2_compare 2 = .ok (.checkcast 15, 3) := dk_192 0 15 (dk_at dksX2_compare_0 2 rfl rfl)
theorem dX2_compare_5 : decode cX2_compare 5 = .ok (.aload_n 2, 1) := dk_44 (dk_at dksX2_compare_0 5 rfl rfl)
theorem dX2_compare_6 : decode cX2_compare 6 = .ok (.checkcast 15, 3) := dk_192 0 15 (dk_at dksX2_compare_0 6 rfl rfl)
theorem dX2_compare_9 : decode cX2_compare 9 = .ok (.invokevirtual 75, 3) := dk_182 0 75 (dk_at dksX2_compare_0 9 rfl rfl)
theorem dX2_compare_12 : decode cX2_compare 12 = .ok (.ireturn, 1) := dk_172 (dk_at dksX2_compare_0 12 rfl rfl)
abbrev cX2_compare_2 : ByteArray := prog_2_method_2_code
def yX2_compare_2 : MethodName := ⟨RX2, "compare", "(Ljava/lang/Long;Ljava/lang/Long;)I"⟩
def dkwX2_compare_2_1 : List UInt8 := [158, 0, 5, 4, 172, 3, 172]
abbrev dktX2_compare_2_1 : List UInt8 := dkwX2_compare_2_1 ++ []
def dkwX2_compare_2_0 : List UInt8 := [43, 182, 0, 61, 44, 182, 0, 61, 148, 156, 0, 5, 2, 172, 43, 182, 0, 61, 44, 182, 0, 61, 148]
abbrev dktX2_compare_2_0 : List UInt8 := dkwX2_compare_2_0 ++ dktX2_compare_2_1
theorem dksX2_compare_2_0 : cX2_compare_2.data.toList.drop 0 = dktX2_compare_2_0 := by decide +kernel
theorem dksX2_compare_2_1 : cX2_compare_2.data.toList.drop 23 = dktX2_compare_2_1 := dk_seg dksX2_compare_2_0 23 rfl rfl
theorem dX2_compare_2_0 : decode cX2_compare_2 0 = .ok (.aload_n 1, 1) := dk_43 (dk_at dksX2_compare_2_0 0 rfl rfl)
theorem dX2_compare_2_1 : decode cX2_compare_2 1 = .ok (.invokevirtual 61, 3) := dk_182 0 61 (dk_at dksX2_compare_2_0 1 rfl rfl)
theorem dX2_compare_2_4 : decode cX2_compare_2 4 = .ok (.aload_n 2, 1) := dk_44 (dk_at dksX2_compare_2_0 4 rfl rfl)
theorem dX2_compare_2_5 : decode cX2_compare_2 5 = .ok (.invokevirtual 61, 3) := dk_182 0 61 (dk_at dksX2_compare_2_0 5 rfl rfl)
theorem dX2_compare_2_8 : decode cX2_compare_2 8 = .ok (.lcmp, 1) := dk_148 (dk_at dksX2_compare_2_0 8 rfl rfl)
theorem dX2_compare_2_9 : decode cX2_compare_2 9 = .ok (.ifCond .ge 5, 3) := dk_156 0 5 (dk_at dksX2_compare_2_0 9 rfl rfl)
theorem dX2_compare_2_12 : decode cX2_compare_2 12 = .ok (.iconst (-1), 1) := dk_2 (dk_at dksX2_compare_2_0 12 rfl rfl)
theorem dX2_compare_2_13 : decode cX2_compare_2 13 = .ok (.ireturn, 1) := dk_172 (dk_at dksX2_compare_2_0 13 rfl rfl)
theorem dX2_compare_2_14 : decode cX2_compare_2 14 = .ok (.aload_n 1, 1) := dk_43 (dk_at dksX2_compare_2_0 14 rfl rfl)
theorem dX2_compare_2_15 : decode cX2_compare_2 15 = .ok (.invokevirtual 61, 3) := dk_182 0 61 (dk_at dksX2_compare_2_0 15 rfl rfl)
theorem dX2_compare_2_18 : decode cX2_compare_2 18 = .ok (.aload_n 2, 1) := dk_44 (dk_at dksX2_compare_2_0 18 rfl rfl)
theorem dX2_compare_2_19 : decode cX2_compare_2 19 = .ok (.invokevirtual 61, 3) := dk_182 0 61 (dk_at dksX2_compare_2_0 19 rfl rfl)
theorem dX2_compare_2_22 : decode cX2_compare_2 22 = .ok (.lcmp, 1) := dk_148 (dk_at dksX2_compare_2_0 22 rfl rfl)
theorem dX2_compare_2_23 : decode cX2_compare_2 23 = .ok (.ifCond .le 5, 3) := dk_158 0 5 (dk_at dksX2_compare_2_1 0 rfl rfl)
theorem dX2_compare_2_26 : decode cX2_compare_2 26 = .ok (.iconst 1, 1) := dk_4 (dk_at dksX2_compare_2_1 3 rfl rfl)
theorem dX2_compare_2_27 : decode cX2_compare_2 27 = .ok (.ireturn, 1) := dk_172 (dk_at dksX2_compare_2_1 4 rfl rfl)
theorem dX2_compare_2_28 : decode cX2_compare_2 28 = .ok (.iconst 0, 1) := dk_3 (dk_at dksX2_compare_2_1 5 rfl rfl)
theorem dX2_compare_2_29 : decode cX2_compare_2 29 = .ok (.ireturn, 1) := dk_172 (dk_at dksX2_compare_2_1 6 rfl rfl)
abbrev cX2_msd : ByteArray := prog_2_method_4_code
def yX2_msd : MethodName := ⟨RX2, "msd", "(Ljava/lang/Object;Ljava/lang/Object;)I"⟩
def dkwX2_msd_0 : List UInt8 := [42, 43, 192, 0, 15, 44, 192, 0, 15, 182, 0, 71, 172]
abbrev dktX2_msd_0 : List UInt8 := dkwX2_msd_0 ++ []
theorem dksX2_msd_0 : cX2_msd.data.toList.drop 0 = dktX2_msd_0 := by decide +kernel
theorem dX2_msd_0 : decode cX2_msd 0 = .ok (.aload_n 0, 1) := dk_42 (dk_at dksX2_msd_0 0 rfl rfl)
theorem dX2_msd_1 : decode cX2_msd 1 = .ok (.aload_n 1, 1) := dk_43 (dk_at dksX2_msd_0 1 rfl rfl)
theorem dX2_msd_2 : decode cX2_msd 2 = .ok (.checkcast 15, 3) := dk_192 0 15 (dk_at dksX2_msd_0 2 rfl rfl)
theorem dX2_msd_5 : decode cX2_msd 5 = .ok (.aload_n 2, 1) := dk_44 (dk_at dksX2_msd_0 5 rfl rfl)
theorem dX2_msd_6 : decode cX2_msd 6 = .ok (.checkcast 15, 3) := dk_192 0 15 (dk_at dksX2_msd_0 6 rfl rfl)
theorem dX2_msd_9 : decode cX2_msd 9 = .ok (.invokevirtual 71, 3) := dk_182 0 71 (dk_at dksX2_msd_0 9 rfl rfl)
theorem dX2_msd_12 : decode cX2_msd 12 = .ok (.ireturn, 1) := dk_172 (dk_at dksX2_msd_0 12 rfl rfl)
abbrev cX2_msd_2 : ByteArray := prog_2_method_3_code
def yX2_msd_2 : MethodName := ⟨RX2, "msd", "(Ljava/lang/Long;Ljava/lang/Long;)I"⟩
def dkwX2_msd_2_1 : List UInt8 := [74, 41, 184, 0, 65, 172]
abbrev dktX2_msd_2_1 : List UInt8 := dkwX2_msd_2_1 ++ []
def dkwX2_msd_2_0 : List UInt8 := [43, 182, 0, 61, 44, 182, 0, 61, 148, 154, 0, 5, 2, 172, 43, 182, 0, 61, 44, 182, 0, 61, 131, 138]
abbrev dktX2_msd_2_0 : List UInt8 := dkwX2_msd_2_0 ++ dktX2_msd_2_1
theorem dksX2_msd_2_0 : cX2_msd_2.data.toList.drop 0 = dktX2_msd_2_0 := by decide +kernel
theorem dksX2_msd_2_1 : cX2_msd_2.data.toList.drop 24 = dktX2_msd_2_1 := dk_seg dksX2_msd_2_0 24 rfl rfl
theorem dX2_msd_2_0 : decode cX2_msd_2 0 = .ok (.aload_n 1, 1) := dk_43 (dk_at dksX2_msd_2_0 0 rfl rfl)
theorem dX2_msd_2_1 : decode cX2_msd_2 1 = .ok (.invokevirtual 61, 3) := dk_182 0 61 (dk_at dksX2_msd_2_0 1 rfl rfl)
theorem dX2_msd_2_4 : decode cX2_msd_2 4 = .ok (.aload_n 2, 1) := dk_44 (dk_at dksX2_msd_2_0 4 rfl rfl)
theorem dX2_msd_2_5 : decode cX2_msd_2 5 = .ok (.invokevirtual 61, 3) := dk_182 0 61 (dk_at dksX2_msd_2_0 5 rfl rfl)
theorem dX2_msd_2_8 : decode cX2_msd_2 8 = .ok (.lcmp, 1) := dk_148 (dk_at dksX2_msd_2_0 8 rfl rfl)
theorem dX2_msd_2_9 : decode cX2_msd_2 9 = .ok (.ifCond .ne 5, 3) := dk_154 0 5 (dk_at dksX2_msd_2_0 9 rfl rfl)
theorem dX2_msd_2_12 : decode cX2_msd_2 12 = .ok (.iconst (-1), 1) := dk_2 (dk_at dksX2_msd_2_0 12 rfl rfl)
theorem dX2_msd_2_13 : decode cX2_msd_2 13 = .ok (.ireturn, 1) := dk_172 (dk_at dksX2_msd_2_0 13 rfl rfl)
theorem dX2_msd_2_14 : decode cX2_msd_2 14 = .ok (.aload_n 1, 1) := dk_43 (dk_at dksX2_msd_2_0 14 rfl rfl)
theorem dX2_msd_2_15 : decode cX2_msd_2 15 = .ok (.invokevirtual 61, 3) := dk_182 0 61 (dk_at dksX2_msd_2_0 15 rfl rfl)
theorem dX2_msd_2_18 : decode cX2_msd_2 18 = .ok (.aload_n 2, 1) := dk_44 (dk_at dksX2_msd_2_0 18 rfl rfl)
theorem dX2_msd_2_19 : decode cX2_msd_2 19 = .ok (.invokevirtual 61, 3) := dk_182 0 61 (dk_at dksX2_msd_2_0 19 rfl rfl)
theorem dX2_msd_2_22 : decode cX2_msd_2 22 = .ok (.lxor, 1) := dk_131 (dk_at dksX2_msd_2_0 22 rfl rfl)
theorem dX2_msd_2_23 : decode cX2_msd_2 23 = .ok (.l2d, 1) := dk_138 (dk_at dksX2_msd_2_0 23 rfl rfl)
theorem dX2_msd_2_24 : decode cX2_msd_2 24 = .ok (.dstore_n 3, 1) := dk_74 (dk_at dksX2_msd_2_1 0 rfl rfl)
theorem dX2_msd_2_25 : decode cX2_msd_2 25 = .ok (.dload_n 3, 1) := dk_41 (dk_at dksX2_msd_2_1 1 rfl rfl)
theorem dX2_msd_2_26 : decode cX2_msd_2 26 = .ok (.invokestatic 65, 3) := dk_184 0 65 (dk_at dksX2_msd_2_1 2 rfl rfl)
theorem dX2_msd_2_29 : decode cX2_msd_2 29 = .ok (.ireturn, 1) := dk_172 (dk_at dksX2_msd_2_1 5 rfl rfl)
theorem q10 : (Jvm.Cond.initialized "LongRadixHeap") ∈ lw_all := lw_g (lw_at lw_m1 3 rfl) rfl
theorem q48 : (Jvm.Cond.instantiable "LongRadixHeap" (8 : Nat)) ∈ lw_all := lw_g (lw_at lw_m1 41 rfl) rfl
theorem q51 : (Jvm.Cond.instanceMethod ({ cls := "LongRadixHeap", name := "<init>", desc := "(JJ)V" } : Jvm.MethodName)) ∈ lw_all := lw_g (lw_at lw_m1 44 rfl) rfl
theorem q52 : (Jvm.Cond.code ({ cls := "LongRadixHeap", name := "<init>", desc := "(JJ)V" } : Jvm.MethodName) prog_2_method_1_code (7 : Nat) (Option.none : Option Jvm.ClassFile.FieldType)) ∈ lw_all := lw_g (lw_at lw_m1 45 rfl) rfl
theorem q53 : (Jvm.Cond.methodLink "LongRadixHeap" (1 : Nat) ({ cls := "AbstractRadixHeap", name := "<init>", desc := "()V" } : Jvm.MethodName)) ∈ lw_all := lw_g (lw_at lw_m1 46 rfl) rfl
theorem q57 : (Jvm.Cond.classLink "LongRadixHeap" (7 : Nat) "java/lang/IllegalArgumentException") ∈ lw_all := lw_g (lw_at lw_m1 50 rfl) rfl
theorem q97 : (Jvm.Cond.stringRef "LongRadixHeap" (9 : Nat) "Minimum key must be non-negative") ∈ lw_tbl := lw_at lw_m1 90 rfl
theorem q98 : (Jvm.Cond.methodLink "LongRadixHeap" (11 : Nat) ({ cls := "java/lang/IllegalArgumentException", name := "<init>", desc := "(Ljava/lang/String;)V" } : Jvm.MethodName)) ∈ lw_all := lw_g (lw_at lw_m1 91 rfl) rfl
theorem q124 : (Jvm.Cond.methodLink "LongRadixHeap" (14 : Nat) ({ cls := "java/lang/Long", name := "valueOf", desc := "(J)Ljava/lang/Long;" } : Jvm.MethodName)) ∈ lw_all := lw_g (lw_at lw_m1 117 rfl) rfl
theorem q144 : (Jvm.Cond.stringRef "LongRadixHeap" (29 : Nat) "Maximum key cannot be less than the minimum") ∈ lw_tbl := lw_at lw_m1 137 rfl
theorem q145 : (Jvm.Cond.methodLink "LongRadixHeap" (34 : Nat) ({ cls := "LongRadixHeapDesk", name := "log", desc := "(D)D" } : Jvm.MethodName)) ∈ lw_all := lw_g (lw_at lw_m1 138 rfl) rfl
theorem q149 : (Jvm.Cond.constantDouble "LongRadixHeap" (40 : Nat) (4611686018427387904 : UInt64)) ∈ lw_all := lw_g (lw_at lw_m1 142 rfl) rfl
theorem q150 : (Jvm.Cond.methodLink "LongRadixHeap" (42 : Nat) ({ cls := "LongRadixHeapDesk", name := "floor", desc := "(D)D" } : Jvm.MethodName)) ∈ lw_all := lw_g (lw_at lw_m1 143 rfl) rfl
theorem q153 : (Jvm.Cond.classLink "LongRadixHeap" (45 : Nat) "java/util/List") ∈ lw_all := lw_g (lw_at lw_m1 146 rfl) rfl
theorem q155 : (Jvm.Cond.classLink "LongRadixHeap" (51 : Nat) "java/util/ArrayList") ∈ lw_all := lw_g (lw_at lw_m1 148 rfl) rfl
theorem q157 : (Jvm.Cond.methodLink "LongRadixHeap" (53 : Nat) ({ cls := "java/util/ArrayList", name := "<init>", desc := "()V" } : Jvm.MethodName)) ∈ lw_all := lw_g (lw_at lw_m1 150 rfl) rfl
theorem q184 : (Jvm.Cond.fieldLink "LongRadixHeap" (47 : Nat) "LongRadixHeap" "buckets" "[Ljava/util/List;") ∈ lw_all := lw_g (lw_at lw_m1 177 rfl) rfl
theorem q185 : (Jvm.Cond.sameField "LongRadixHeap" "AbstractRadixHeap" "buckets" "[Ljava/util/List;") ∈ lw_all := lw_g (lw_at lw_m1 178 rfl) rfl
theorem q187 : (Jvm.Cond.fieldLink "LongRadixHeap" (54 : Nat) "LongRadixHeap" "size" "J") ∈ lw_all := lw_g (lw_at lw_m1 180 rfl) rfl
theorem q188 : (Jvm.Cond.sameField "LongRadixHeap" "AbstractRadixHeap" "size" "J") ∈ lw_all := lw_g (lw_at lw_m1 181 rfl) rfl
theorem q190 : (Jvm.Cond.fieldLink "LongRadixHeap" (26 : Nat) "LongRadixHeap" "lastDeletedKey" "Ljava/lang/Object;") ∈ lw_all := lw_g (lw_at lw_m1 183 rfl) rfl
theorem q191 : (Jvm.Cond.sameField "LongRadixHeap" "AbstractRadixHeap" "lastDeletedKey" "Ljava/lang/Object;") ∈ lw_all := lw_g (lw_at lw_m1 184 rfl) rfl
theorem q193 : (Jvm.Cond.fieldLink "LongRadixHeap" (58 : Nat) "LongRadixHeap" "currentMin" "Ljava/lang/Object;") ∈ lw_all := lw_g (lw_at lw_m1 186 rfl) rfl
theorem q194 : (Jvm.Cond.sameField "LongRadixHeap" "AbstractRadixHeap" "currentMin" "Ljava/lang/Object;") ∈ lw_all := lw_g (lw_at lw_m1 187 rfl) rfl
theorem q198 : (Jvm.Cond.fieldLink "LongRadixHeap" (20 : Nat) "LongRadixHeap" "minKey" "Ljava/lang/Object;") ∈ lw_all := lw_g (lw_at lw_m1 191 rfl) rfl
theorem q199 : (Jvm.Cond.sameField "LongRadixHeap" "AbstractRadixHeap" "minKey" "Ljava/lang/Object;") ∈ lw_all := lw_g (lw_at lw_m1 192 rfl) rfl
theorem q200 : (Jvm.Cond.fieldLink "LongRadixHeap" (31 : Nat) "LongRadixHeap" "maxKey" "Ljava/lang/Object;") ∈ lw_all := lw_g (lw_at lw_m1 193 rfl) rfl
theorem q201 : (Jvm.Cond.sameField "LongRadixHeap" "AbstractRadixHeap" "maxKey" "Ljava/lang/Object;") ∈ lw_all := lw_g (lw_at lw_m1 194 rfl) rfl
theorem q203 : (Jvm.Cond.lays "LongRadixHeap" "AbstractRadixHeap" "buckets" "[Ljava/util/List;") ∈ lw_all := lw_g (lw_at lw_m1 196 rfl) rfl
theorem q205 : (Jvm.Cond.lays "LongRadixHeap" "AbstractRadixHeap" "size" "J") ∈ lw_all := lw_g (lw_at lw_m1 198 rfl) rfl
theorem q207 : (Jvm.Cond.lays "LongRadixHeap" "AbstractRadixHeap" "lastDeletedKey" "Ljava/lang/Object;") ∈ lw_all := lw_g (lw_at lw_m1 200 rfl) rfl
theorem q209 : (Jvm.Cond.lays "LongRadixHeap" "AbstractRadixHeap" "currentMin" "Ljava/lang/Object;") ∈ lw_all := lw_g (lw_at lw_m1 202 rfl) rfl
theorem q211 : (Jvm.Cond.lays "LongRadixHeap" "AbstractRadixHeap" "currentMinBucket" "I") ∈ lw_all := lw_g (lw_at lw_m1 204 rfl) rfl
theorem q213 : (Jvm.Cond.lays "LongRadixHeap" "AbstractRadixHeap" "currentMinPos" "I") ∈ lw_all := lw_g (lw_at lw_m1 206 rfl) rfl
theorem q215 : (Jvm.Cond.lays "LongRadixHeap" "AbstractRadixHeap" "minKey" "Ljava/lang/Object;") ∈ lw_all := lw_g (lw_at lw_m1 208 rfl) rfl
theorem q217 : (Jvm.Cond.lays "LongRadixHeap" "AbstractRadixHeap" "maxKey" "Ljava/lang/Object;") ∈ lw_all := lw_g (lw_at lw_m1 210 rfl) rfl
theorem q219 : (Jvm.Cond.superclass "LongRadixHeap" "AbstractRadixHeap") ∈ lw_all := lw_g (lw_at lw_m1 212 rfl) rfl
theorem q241 : (Jvm.Cond.sameMethod "LongRadixHeap" "AbstractRadixHeap" "insert" "(Ljava/lang/Object;)V") ∈ lw_all := lw_g (lw_at lw_m1 234 rfl) rfl
theorem q243 : (Jvm.Cond.selects "LongRadixHeap" ({ cls := "LongRadixHeap", name := "insert", desc := "(Ljava/lang/Object;)V" } : Jvm.MethodName) ({ cls := "AbstractRadixHeap", name := "insert", desc := "(Ljava/lang/Object;)V" } : Jvm.MethodName)) ∈ lw_all := lw_g (lw_at lw_m1 236 rfl) rfl
theorem q252 : (Jvm.Cond.selects "LongRadixHeap" ({ cls := "AbstractRadixHeap", name := "compare", desc := "(Ljava/lang/Object;Ljava/lang/Object;)I" } : Jvm.MethodName) ({ cls := "LongRadixHeap", name := "compare", desc := "(Ljava/lang/Object;Ljava/lang/Object;)I" } : Jvm.MethodName)) ∈ lw_all := lw_g (lw_at lw_m2 5 rfl) rfl
theorem q253 : (Jvm.Cond.instanceMethod ({ cls := "LongRadixHeap", name := "compare", desc := "(Ljava/lang/Object;Ljava/lang/Object;)I" } : Jvm.MethodName)) ∈ lw_all := lw_g (lw_at lw_m2 6 rfl) rfl
theorem q254 : (Jvm.Cond.code ({ cls := "LongRadixHeap", name := "compare", desc := "(Ljava/lang/Object;Ljava/lang/Object;)I" } : Jvm.MethodName) prog_2_method_5_code (3 : Nat) (Option.some Jvm.ClassFile.FieldType.int)) ∈ lw_all := lw_g (lw_at lw_m2 7 rfl) rfl
theorem q255 : (Jvm.Cond.classLink "LongRadixHeap" (15 : Nat) "java/lang/Long") ∈ lw_all := lw_g (lw_at lw_m2 8 rfl) rfl
theorem q256 : (Jvm.Cond.methodLink "LongRadixHeap" (75 : Nat) ({ cls := "LongRadixHeap", name := "compare", desc := "(Ljava/lang/Long;Ljava/lang/Long;)I" } : Jvm.MethodName)) ∈ lw_all := lw_g (lw_at lw_m2 9 rfl) rfl
theorem q257 : (Jvm.Cond.instanceMethod ({ cls := "LongRadixHeap", name := "compare", desc := "(Ljava/lang/Long;Ljava/lang/Long;)I" } : Jvm.MethodName)) ∈ lw_all := lw_g (lw_at lw_m2 10 rfl) rfl
theorem q258 : (Jvm.Cond.selects "LongRadixHeap" ({ cls := "LongRadixHeap", name := "compare", desc := "(Ljava/lang/Long;Ljava/lang/Long;)I" } : Jvm.MethodName) ({ cls := "LongRadixHeap", name := "compare", desc := "(Ljava/lang/Long;Ljava/lang/Long;)I" } : Jvm.MethodName)) ∈ lw_all := lw_g (lw_at lw_m2 11 rfl) rfl
theorem q259 : (Jvm.Cond.code ({ cls := "LongRadixHeap", name := "compare", desc := "(Ljava/lang/Long;Ljava/lang/Long;)I" } : Jvm.MethodName) prog_2_method_2_code (3 : Nat) (Option.some Jvm.ClassFile.FieldType.int)) ∈ lw_all := lw_g (lw_at lw_m2 12 rfl) rfl
theorem q260 : (Jvm.Cond.methodLink "LongRadixHeap" (61 : Nat) ({ cls := "java/lang/Long", name := "longValue", desc := "()J" } : Jvm.MethodName)) ∈ lw_all := lw_g (lw_at lw_m2 13 rfl) rfl
theorem q269 : (Jvm.Cond.selects "LongRadixHeap" ({ cls := "AbstractRadixHeap", name := "computeBucket", desc := "(Ljava/lang/Object;Ljava/lang/Object;)I" } : Jvm.MethodName) ({ cls := "AbstractRadixHeap", name := "computeBucket", desc := "(Ljava/lang/Object;Ljava/lang/Object;)I" } : Jvm.MethodName)) ∈ lw_all := lw_g (lw_at lw_m2 22 rfl) rfl
theorem q274 : (Jvm.Cond.selects "LongRadixHeap" ({ cls := "AbstractRadixHeap", name := "msd", desc := "(Ljava/lang/Object;Ljava/lang/Object;)I" } : Jvm.MethodName) ({ cls := "LongRadixHeap", name := "msd", desc := "(Ljava/lang/Object;Ljava/lang/Object;)I" } : Jvm.MethodName)) ∈ lw_all := lw_g (lw_at lw_m2 27 rfl) rfl
theorem q275 : (Jvm.Cond.instanceMethod ({ cls := "LongRadixHeap", name := "msd", desc := "(Ljava/lang/Object;Ljava/lang/Object;)I" } : Jvm.MethodName)) ∈ lw_all := lw_g (lw_at lw_m2 28 rfl) rfl
theorem q276 : (Jvm.Cond.code ({ cls := "LongRadixHeap", name := "msd", desc := "(Ljava/lang/Object;Ljava/lang/Object;)I" } : Jvm.MethodName) prog_2_method_4_code (3 : Nat) (Option.some Jvm.ClassFile.FieldType.int)) ∈ lw_all := lw_g (lw_at lw_m2 29 rfl) rfl
theorem q277 : (Jvm.Cond.methodLink "LongRadixHeap" (71 : Nat) ({ cls := "LongRadixHeap", name := "msd", desc := "(Ljava/lang/Long;Ljava/lang/Long;)I" } : Jvm.MethodName)) ∈ lw_all := lw_g (lw_at lw_m2 30 rfl) rfl
theorem q278 : (Jvm.Cond.instanceMethod ({ cls := "LongRadixHeap", name := "msd", desc := "(Ljava/lang/Long;Ljava/lang/Long;)I" } : Jvm.MethodName)) ∈ lw_all := lw_g (lw_at lw_m2 31 rfl) rfl
theorem q279 : (Jvm.Cond.selects "LongRadixHeap" ({ cls := "LongRadixHeap", name := "msd", desc := "(Ljava/lang/Long;Ljava/lang/Long;)I" } : Jvm.MethodName) ({ cls := "LongRadixHeap", name := "msd", desc := "(Ljava/lang/Long;Ljava/lang/Long;)I" } : Jvm.MethodName)) ∈ lw_all := lw_g (lw_at lw_m2 32 rfl) rfl
theorem q280 : (Jvm.Cond.code ({ cls := "LongRadixHeap", name := "msd", desc := "(Ljava/lang/Long;Ljava/lang/Long;)I" } : Jvm.MethodName) prog_2_method_3_code (5 : Nat) (Option.some Jvm.ClassFile.FieldType.int)) ∈ lw_all := lw_g (lw_at lw_m2 33 rfl) rfl
theorem q281 : (Jvm.Cond.methodLink "LongRadixHeap" (65 : Nat) ({ cls := "java/lang/Math", name := "getExponent", desc := "(D)I" } : Jvm.MethodName)) ∈ lw_all := lw_g (lw_at lw_m2 34 rfl) rfl
theorem q330 : (Jvm.Cond.selects "LongRadixHeap" ({ cls := "java/lang/Object", name := "getClass", desc := "()Ljava/lang/Class;" } : Jvm.MethodName) ({ cls := "java/lang/Object", name := "getClass", desc := "()Ljava/lang/Class;" } : Jvm.MethodName)) ∈ lw_all := lw_g (lw_at lw_m2 83 rfl) rfl
theorem q369 : (Jvm.Cond.sameMethod "LongRadixHeap" "AbstractRadixHeap" "isEmpty" "()Z") ∈ lw_all := lw_g (lw_at lw_m2 122 rfl) rfl
theorem q371 : (Jvm.Cond.selects "LongRadixHeap" ({ cls := "LongRadixHeap", name := "isEmpty", desc := "()Z" } : Jvm.MethodName) ({ cls := "AbstractRadixHeap", name := "isEmpty", desc := "()Z" } : Jvm.MethodName)) ∈ lw_all := lw_g (lw_at lw_m2 124 rfl) rfl
theorem q375 : (Jvm.Cond.sameMethod "LongRadixHeap" "AbstractRadixHeap" "findMin" "()Ljava/lang/Object;") ∈ lw_all := lw_g (lw_at lw_m2 128 rfl) rfl
theorem q377 : (Jvm.Cond.selects "LongRadixHeap" ({ cls := "LongRadixHeap", name := "findMin", desc := "()Ljava/lang/Object;" } : Jvm.MethodName) ({ cls := "AbstractRadixHeap", name := "findMin", desc := "()Ljava/lang/Object;" } : Jvm.MethodName)) ∈ lw_all := lw_g (lw_at lw_m2 130 rfl) rfl
theorem q408 : (Jvm.Cond.sameMethod "LongRadixHeap" "AbstractRadixHeap" "deleteMin" "()Ljava/lang/Object;") ∈ lw_all := lw_g (lw_at lw_m2 161 rfl) rfl
theorem q410 : (Jvm.Cond.selects "LongRadixHeap" ({ cls := "LongRadixHeap", name := "deleteMin", desc := "()Ljava/lang/Object;" } : Jvm.MethodName) ({ cls := "AbstractRadixHeap", name := "deleteMin", desc := "()Ljava/lang/Object;" } : Jvm.MethodName)) ∈ lw_all := lw_g (lw_at lw_m2 163 rfl) rfl
theorem q511 : (Jvm.Cond.sameMethod "LongRadixHeap" "AbstractRadixHeap" "size" "()J") ∈ lw_all := lw_g (lw_at lw_m3 24 rfl) rfl
theorem q513 : (Jvm.Cond.selects "LongRadixHeap" ({ cls := "LongRadixHeap", name := "size", desc := "()J" } : Jvm.MethodName) ({ cls := "AbstractRadixHeap", name := "size", desc := "()J" } : Jvm.MethodName)) ∈ lw_all := lw_g (lw_at lw_m3 26 rfl) rfl
theorem q584 : (Jvm.Cond.castable "LongRadixHeap" "java/lang/Object") ∈ lw_tbl := lw_at lw_m3 97 rfl
theorem in_X2 : ∀ w ∈ wsX20, w ∈ lw_all := lw_in wsX20 [203, 205, 207, 209, 211, 213, 215, 217] (by decide +kernel) (by decide +kernel)
/-! LongRadixHeapDeskModel -/
set_option maxRecDepth 100000
def RX3 : String := "LongRadixHeapDeskModel"
def TX3 : u_T := fun k => match k with
  | 0 => ("LongRadixHeapDeskModel", "keys", "[I", true)
  | 1 => ("LongRadixHeapDeskModel", "home", "[I", true)
  | 2 => ("LongRadixHeapDeskModel", "taken", "[I", true)
  | _ => ("LongRadixHeapDeskModel", "puts", "I", false)
def tyX3 : Nat → FieldType := fun k => match k with
  | 0 => .array .int
  | 1 => .array .int
  | 2 => .array .int
  | _ => .int
abbrev wsX30 : List Cond := u_ws RX3 TX3 4
theorem nmX3 : ∀ a, a < 4 → ∀ b, b < 4 → a ≠ b → (TX3 a).2.1 ≠ (TX3 b).2.1 := by decide +kernel
theorem tyX3_ok : ∀ k, k < 4 → parseFieldDescriptor (TX3 k).2.2.1 = some (tyX3 k) := by decide +kernel
abbrev cX3_init : ByteArray := prog_5_method_1_code
def yX3_init : MethodName := ⟨RX3, "<init>", "()V"⟩
def dkwX3_init_1 : List UInt8 := [181, 0, 16, 177]
abbrev dktX3_init_1 : List UInt8 := dkwX3_init_1 ++ []
def dkwX3_init_0 : List UInt8 := [42, 183, 0, 1, 42, 16, 64, 188, 10, 181, 0, 7, 42, 16, 64, 188, 10, 181, 0, 13, 42, 7, 188, 10]
abbrev dktX3_init_0 : List UInt8 := dkwX3_init_0 ++ dktX3_init_1
theorem dksX3_init_0 : cX3_init.data.toList.drop 0 = dktX3_init_0 := by decide +kernel
theorem dksX3_init_1 : cX3_init.data.toList.drop 24 = dktX3_init_1 := dk_seg dksX3_init_0 24 rfl rfl
theorem dX3_init_0 : decode cX3_init 0 = .ok (.aload_n 0, 1) := dk_42 (dk_at dksX3_init_0 0 rfl rfl)
theorem dX3_init_1 : decode cX3_init 1 = .ok (.invokespecial 1, 3) := dk_183 0 1 (dk_at dksX3_init_0 1 rfl rfl)
theorem dX3_init_4 : decode cX3_init 4 = .ok (.aload_n 0, 1) := dk_42 (dk_at dksX3_init_0 4 rfl rfl)
theorem dX3_init_5 : decode cX3_init 5 = .ok (.bipush 64, 2) := dk_16 64 (dk_at dksX3_init_0 5 rfl rfl)
theorem dX3_init_7 : decode cX3_init 7 = .ok (.newarray .int, 2) := dk_188_10 (dk_at dksX3_init_0 7 rfl rfl)
theorem dX3_init_9 : decode cX3_init 9 = .ok (.putfield 7, 3) := dk_181 0 7 (dk_at dksX3_init_0 9 rfl rfl)
theorem dX3_init_12 : decode cX3_init 12 = .ok (.aload_n 0, 1) := dk_42 (dk_at dksX3_init_0 12 rfl rfl)
theorem dX3_init_13 : decode cX3_init 13 = .ok (.bipush 64, 2) := dk_16 64 (dk_at dksX3_init_0 13 rfl rfl)
theorem dX3_init_15 : decode cX3_init 15 = .ok (.newarray .int, 2) := dk_188_10 (dk_at dksX3_init_0 15 rfl rfl)
theorem dX3_init_17 : decode cX3_init 17 = .ok (.putfield 13, 3) := dk_181 0 13 (dk_at dksX3_init_0 17 rfl rfl)
theorem dX3_init_20 : decode cX3_init 20 = .ok (.aload_n 0, 1) := dk_42 (dk_at dksX3_init_0 20 rfl rfl)
theorem dX3_init_21 : decode cX3_init 21 = .ok (.iconst 4, 1) := dk_7 (dk_at dksX3_init_0 21 rfl rfl)
theorem dX3_init_22 : decode cX3_init 22 = .ok (.newarray .int, 2) := dk_188_10 (dk_at dksX3_init_0 22 rfl rfl)
theorem dX3_init_24 : decode cX3_init 24 = .ok (.putfield 16, 3) := dk_181 0 16 (dk_at dksX3_init_1 0 rfl rfl)
theorem dX3_init_27 : decode cX3_init 27 = .ok (.return_, 1) := dk_177 (dk_at dksX3_init_1 3 rfl rfl)
abbrev cX3_put : ByteArray := prog_5_method_4_code
def yX3_put : MethodName := ⟨RX3, "put", "(II)Z"⟩
def dkwX3_put_0 : List UInt8 := [42, 27, 28, 18, 24, 126, 182, 0, 25, 172]
abbrev dktX3_put_0 : List UInt8 := dkwX3_put_0 ++ []
theorem dksX3_put_0 : cX3_put.data.toList.drop 0 = dktX3_put_0 := by decide +kernel
theorem dX3_put_0 : decode cX3_put 0 = .ok (.aload_n 0, 1) := dk_42 (dk_at dksX3_put_0 0 rfl rfl)
theorem dX3_put_1 : decode cX3_put 1 = .ok (.iload_n 1, 1) := dk_27 (dk_at dksX3_put_0 1 rfl rfl)
theorem dX3_put_2 : decode cX3_put 2 = .ok (.iload_n 2, 1) := dk_28 (dk_at dksX3_put_0 2 rfl rfl)
theorem dX3_put_3 : decode cX3_put 3 = .ok (.ldc 24, 2) := dk_18 24 (dk_at dksX3_put_0 3 rfl rfl)
theorem dX3_put_5 : decode cX3_put 5 = .ok (.iand, 1) := dk_126 (dk_at dksX3_put_0 5 rfl rfl)
theorem dX3_put_6 : decode cX3_put 6 = .ok (.invokevirtual 25, 3) := dk_182 0 25 (dk_at dksX3_put_0 6 rfl rfl)
theorem dX3_put_9 : decode cX3_put 9 = .ok (.ireturn, 1) := dk_172 (dk_at dksX3_put_0 9 rfl rfl)
abbrev cX3_lay : ByteArray := prog_5_method_3_code
def yX3_lay : MethodName := ⟨RX3, "lay", "(II)Z"⟩
def dkwX3_lay_2 : List UInt8 := [27, 6, 126, 96, 79, 42, 42, 180, 0, 19, 4, 96, 181, 0, 19, 4, 172]
abbrev dktX3_lay_2 : List UInt8 := dkwX3_lay_2 ++ []
def dkwX3_lay_1 : List UInt8 := [161, 0, 5, 3, 172, 42, 180, 0, 7, 42, 180, 0, 19, 28, 79, 42, 180, 0, 13, 42, 180, 0, 19, 4]
abbrev dktX3_lay_1 : List UInt8 := dkwX3_lay_1 ++ dktX3_lay_2
def dkwX3_lay_0 : List UInt8 := [42, 180, 0, 19, 16, 64, 159, 0, 21, 28, 42, 180, 0, 16, 27, 6, 126, 46, 161, 0, 9, 28, 18, 23]
abbrev dktX3_lay_0 : List UInt8 := dkwX3_lay_0 ++ dktX3_lay_1
theorem dksX3_lay_0 : cX3_lay.data.toList.drop 0 = dktX3_lay_0 := by decide +kernel
theorem dksX3_lay_1 : cX3_lay.data.toList.drop 24 = dktX3_lay_1 := dk_seg dksX3_lay_0 24 rfl rfl
theorem dksX3_lay_2 : cX3_lay.data.toList.drop 48 = dktX3_lay_2 := dk_seg dksX3_lay_1 24 rfl rfl
theorem dX3_lay_0 : decode cX3_lay 0 = .ok (.aload_n 0, 1) := dk_42 (dk_at dksX3_lay_0 0 rfl rfl)
theorem dX3_lay_1 : decode cX3_lay 1 = .ok (.getfield 19, 3) := dk_180 0 19 (dk_at dksX3_lay_0 1 rfl rfl)
theorem dX3_lay_4 : decode cX3_lay 4 = .ok (.bipush 64, 2) := dk_16 64 (dk_at dksX3_lay_0 4 rfl rfl)
theorem dX3_lay_6 : decode cX3_lay 6 = .ok (.if_icmp .eq 21, 3) := dk_159 0 21 (dk_at dksX3_lay_0 6 rfl rfl)
theorem dX3_lay_9 : decode cX3_lay 9 = .ok (.iload_n 2, 1) := dk_28 (dk_at dksX3_lay_0 9 rfl rfl)
theorem dX3_lay_10 : decode cX3_lay 10 = .ok (.aload_n 0, 1) := dk_42 (dk_at dksX3_lay_0 10 rfl rfl)
theorem dX3_lay_11 : decode cX3_lay 11 = .ok (.getfield 16, 3) := dk_180 0 16 (dk_at dksX3_lay_0 11 rfl rfl)
theorem dX3_lay_14 : decode cX3_lay 14 = .ok (.iload_n 1, 1) := dk_27 (dk_at dksX3_lay_0 14 rfl rfl)
theorem dX3_lay_15 : decode cX3_lay 15 = .ok (.iconst 3, 1) := dk_6 (dk_at dksX3_lay_0 15 rfl rfl)
theorem dX3_lay_16 : decode cX3_lay 16 = .ok (.iand, 1) := dk_126 (dk_at dksX3_lay_0 16 rfl rfl)
theorem dX3_lay_17 : decode cX3_lay 17 = .ok (.iaload, 1) := dk_46 (dk_at dksX3_lay_0 17 rfl rfl)
theorem dX3_lay_18 : decode cX3_lay 18 = .ok (.if_icmp .lt 9, 3) := dk_161 0 9 (dk_at dksX3_lay_0 18 rfl rfl)
theorem dX3_lay_21 : decode cX3_lay 21 = .ok (.iload_n 2, 1) := dk_28 (dk_at dksX3_lay_0 21 rfl rfl)
theorem dX3_lay_22 : decode cX3_lay 22 = .ok (.ldc 23, 2) := dk_18 23 (dk_at dksX3_lay_0 22 rfl rfl)
theorem dX3_lay_24 : decode cX3_lay 24 = .ok (.if_icmp .lt 5, 3) := dk_161 0 5 (dk_at dksX3_lay_1 0 rfl rfl)
theorem dX3_lay_27 : decode cX3_lay 27 = .ok (.iconst 0, 1) := dk_3 (dk_at dksX3_lay_1 3 rfl rfl)
theorem dX3_lay_28 : decode cX3_lay 28 = .ok (.ireturn, 1) := dk_172 (dk_at dksX3_lay_1 4 rfl rfl)
theorem dX3_lay_29 : decode cX3_lay 29 = .ok (.aload_n 0, 1) := dk_42 (dk_at dksX3_lay_1 5 rfl rfl)
theorem dX3_lay_30 : decode cX3_lay 30 = .ok (.getfield 7, 3) := dk_180 0 7 (dk_at dksX3_lay_1 6 rfl rfl)
theorem dX3_lay_33 : decode cX3_lay 33 = .ok (.aload_n 0, 1) := dk_42 (dk_at dksX3_lay_1 9 rfl rfl)
theorem dX3_lay_34 : decode cX3_lay 34 = .ok (.getfield 19, 3) := dk_180 0 19 (dk_at dksX3_lay_1 10 rfl rfl)
theorem dX3_lay_37 : decode cX3_lay 37 = .ok (.iload_n 2, 1) := dk_28 (dk_at dksX3_lay_1 13 rfl rfl)
theorem dX3_lay_38 : decode cX3_lay 38 = .ok (.iastore, 1) := dk_79 (dk_at dksX3_lay_1 14 rfl rfl)
theorem dX3_lay_39 : decode cX3_lay 39 = .ok (.aload_n 0, 1) := dk_42 (dk_at dksX3_lay_1 15 rfl rfl)
theorem dX3_lay_40 : decode cX3_lay 40 = .ok (.getfield 13, 3) := dk_180 0 13 (dk_at dksX3_lay_1 16 rfl rfl)
theorem dX3_lay_43 : decode cX3_lay 43 = .ok (.aload_n 0, 1) := dk_42 (dk_at dksX3_lay_1 19 rfl rfl)
theorem dX3_lay_44 : decode cX3_lay 44 = .ok (.getfield 19, 3) := dk_180 0 19 (dk_at dksX3_lay_1 20 rfl rfl)
theorem dX3_lay_47 : decode cX3_lay 47 = .ok (.iconst 1, 1) := dk_4 (dk_at dksX3_lay_1 23 rfl rfl)
theorem dX3_lay_48 : decode cX3_lay 48 = .ok (.iload_n 1, 1) := dk_27 (dk_at dksX3_lay_2 0 rfl rfl)
theorem dX3_lay_49 : decode cX3_lay 49 = .ok (.iconst 3, 1) := dk_6 (dk_at dksX3_lay_2 1 rfl rfl)
theorem dX3_lay_50 : decode cX3_lay 50 = .ok (.iand, 1) := dk_126 (dk_at dksX3_lay_2 2 rfl rfl)
theorem dX3_lay_51 : decode cX3_lay 51 = .ok (.iadd, 1) := dk_96 (dk_at dksX3_lay_2 3 rfl rfl)
theorem dX3_lay_52 : decode cX3_lay 52 = .ok (.iastore, 1) := dk_79 (dk_at dksX3_lay_2 4 rfl rfl)
theorem dX3_lay_53 : decode cX3_lay 53 = .ok (.aload_n 0, 1) := dk_42 (dk_at dksX3_lay_2 5 rfl rfl)
theorem dX3_lay_54 : decode cX3_lay 54 = .ok (.aload_n 0, 1) := dk_42 (dk_at dksX3_lay_2 6 rfl rfl)
theorem dX3_lay_55 : decode cX3_lay 55 = .ok (.getfield 19, 3) := dk_180 0 19 (dk_at dksX3_lay_2 7 rfl rfl)
theorem dX3_lay_58 : decode cX3_lay 58 = .ok (.iconst 1, 1) := dk_4 (dk_at dksX3_lay_2 10 rfl rfl)
theorem dX3_lay_59 : decode cX3_lay 59 = .ok (.iadd, 1) := dk_96 (dk_at dksX3_lay_2 11 rfl rfl)
theorem dX3_lay_60 : decode cX3_lay 60 = .ok (.putfield 19, 3) := dk_181 0 19 (dk_at dksX3_lay_2 12 rfl rfl)
theorem dX3_lay_63 : decode cX3_lay 63 = .ok (.iconst 1, 1) := dk_4 (dk_at dksX3_lay_2 15 rfl rfl)
theorem dX3_lay_64 : decode cX3_lay 64 = .ok (.ireturn, 1) := dk_172 (dk_at dksX3_lay_2 16 rfl rfl)
abbrev cX3_above : ByteArray := prog_5_method_5_code
def yX3_above : MethodName := ⟨RX3, "above", "(II)Z"⟩
def dkwX3_above_0 : List UInt8 := [42, 27, 42, 180, 0, 16, 27, 6, 126, 46, 28, 17, 3, 255, 126, 96, 182, 0, 25, 172]
abbrev dktX3_above_0 : List UInt8 := dkwX3_above_0 ++ []
theorem dksX3_above_0 : cX3_above.data.toList.drop 0 = dktX3_above_0 := by decide +kernel
theorem dX3_above_0 : decode cX3_above 0 = .ok (.aload_n 0, 1) := dk_42 (dk_at dksX3_above_0 0 rfl rfl)
theorem dX3_above_1 : decode cX3_above 1 = .ok (.iload_n 1, 1) := dk_27 (dk_at dksX3_above_0 1 rfl rfl)
theorem dX3_above_2 : decode cX3_above 2 = .ok (.aload_n 0, 1) := dk_42 (dk_at dksX3_above_0 2 rfl rfl)
theorem dX3_above_3 : decode cX3_above 3 = .ok (.getfield 16, 3) := dk_180 0 16 (dk_at dksX3_above_0 3 rfl rfl)
theorem dX3_above_6 : decode cX3_above 6 = .ok (.iload_n 1, 1) := dk_27 (dk_at dksX3_above_0 6 rfl rfl)
theorem dX3_above_7 : decode cX3_above 7 = .ok (.iconst 3, 1) := dk_6 (dk_at dksX3_above_0 7 rfl rfl)
theorem dX3_above_8 : decode cX3_above 8 = .ok (.iand, 1) := dk_126 (dk_at dksX3_above_0 8 rfl rfl)
theorem dX3_above_9 : decode cX3_above 9 = .ok (.iaload, 1) := dk_46 (dk_at dksX3_above_0 9 rfl rfl)
theorem dX3_above_10 : decode cX3_above 10 = .ok (.iload_n 2, 1) := dk_28 (dk_at dksX3_above_0 10 rfl rfl)
theorem dX3_above_11 : decode cX3_above 11 = .ok (.sipush 1023, 3) := dk_17 3 255 (dk_at dksX3_above_0 11 rfl rfl)
theorem dX3_above_14 : decode cX3_above 14 = .ok (.iand, 1) := dk_126 (dk_at dksX3_above_0 14 rfl rfl)
theorem dX3_above_15 : decode cX3_above 15 = .ok (.iadd, 1) := dk_96 (dk_at dksX3_above_0 15 rfl rfl)
theorem dX3_above_16 : decode cX3_above 16 = .ok (.invokevirtual 25, 3) := dk_182 0 25 (dk_at dksX3_above_0 16 rfl rfl)
theorem dX3_above_19 : decode cX3_above 19 = .ok (.ireturn, 1) := dk_172 (dk_at dksX3_above_0 19 rfl rfl)
abbrev cX3_least : ByteArray := prog_5_method_6_code
def yX3_least : MethodName := ⟨RX3, "least", "(I)I"⟩
def dkwX3_least_0 : List UInt8 := [42, 27, 182, 0, 29, 61, 28, 156, 0, 7, 2, 167, 0, 9, 42, 180, 0, 7, 28, 46, 172]
abbrev dktX3_least_0 : List UInt8 := dkwX3_least_0 ++ []
theorem dksX3_least_0 : cX3_least.data.toList.drop 0 = dktX3_least_0 := by decide +kernel
theorem dX3_least_0 : decode cX3_least 0 = .ok (.aload_n 0, 1) := dk_42 (dk_at dksX3_least_0 0 rfl rfl)
theorem dX3_least_1 : decode cX3_least 1 = .ok (.iload_n 1, 1) := dk_27 (dk_at dksX3_least_0 1 rfl rfl)
theorem dX3_least_2 : decode cX3_least 2 = .ok (.invokevirtual 29, 3) := dk_182 0 29 (dk_at dksX3_least_0 2 rfl rfl)
theorem dX3_least_5 : decode cX3_least 5 = .ok (.istore_n 2, 1) := dk_61 (dk_at dksX3_least_0 5 rfl rfl)
theorem dX3_least_6 : decode cX3_least 6 = .ok (.iload_n 2, 1) := dk_28 (dk_at dksX3_least_0 6 rfl rfl)
theorem dX3_least_7 : decode cX3_least 7 = .ok (.ifCond .ge 7, 3) := dk_156 0 7 (dk_at dksX3_least_0 7 rfl rfl)
theorem dX3_least_10 : decode cX3_least 10 = .ok (.iconst (-1), 1) := dk_2 (dk_at dksX3_least_0 10 rfl rfl)
theorem dX3_least_11 : decode cX3_least 11 = .ok (.goto 9, 3) := dk_167 0 9 (dk_at dksX3_least_0 11 rfl rfl)
theorem dX3_least_14 : decode cX3_least 14 = .ok (.aload_n 0, 1) := dk_42 (dk_at dksX3_least_0 14 rfl rfl)
theorem dX3_least_15 : decode cX3_least 15 = .ok (.getfield 7, 3) := dk_180 0 7 (dk_at dksX3_least_0 15 rfl rfl)
theorem dX3_least_18 : decode cX3_least 18 = .ok (.iload_n 2, 1) := dk_28 (dk_at dksX3_least_0 18 rfl rfl)
theorem dX3_least_19 : decode cX3_least 19 = .ok (.iaload, 1) := dk_46 (dk_at dksX3_least_0 19 rfl rfl)
theorem dX3_least_20 : decode cX3_least 20 = .ok (.ireturn, 1) := dk_172 (dk_at dksX3_least_0 20 rfl rfl)
abbrev cX3_first : ByteArray := prog_5_method_2_code
def yX3_first : MethodName := ⟨RX3, "first", "(I)I"⟩
def dkwX3_first_2 : List UInt8 := [132, 3, 1, 167, 255, 210, 28, 172]
abbrev dktX3_first_2 : List UInt8 := dkwX3_first_2 ++ []
def dkwX3_first_1 : List UInt8 := [160, 0, 24, 28, 155, 0, 18, 42, 180, 0, 7, 29, 46, 42, 180, 0, 7, 28, 46, 162, 0, 5, 29, 61]
abbrev dktX3_first_1 : List UInt8 := dkwX3_first_1 ++ dktX3_first_2
def dkwX3_first_0 : List UInt8 := [2, 61, 3, 62, 29, 42, 180, 0, 19, 162, 0, 44, 42, 180, 0, 13, 29, 46, 4, 27, 6, 126, 96]
abbrev dktX3_first_0 : List UInt8 := dkwX3_first_0 ++ dktX3_first_1
theorem dksX3_first_0 : cX3_first.data.toList.drop 0 = dktX3_first_0 := by decide +kernel
theorem dksX3_first_1 : cX3_first.data.toList.drop 23 = dktX3_first_1 := dk_seg dksX3_first_0 23 rfl rfl
theorem dksX3_first_2 : cX3_first.data.toList.drop 47 = dktX3_first_2 := dk_seg dksX3_first_1 24 rfl rfl
theorem dX3_first_0 : decode cX3_first 0 = .ok (.iconst (-1), 1) := dk_2 (dk_at dksX3_first_0 0 rfl rfl)
theorem dX3_first_1 : decode cX3_first 1 = .ok (.istore_n 2, 1) := dk_61 (dk_at dksX3_first_0 1 rfl rfl)
theorem dX3_first_2 : decode cX3_first 2 = .ok (.iconst 0, 1) := dk_3 (dk_at dksX3_first_0 2 rfl rfl)
theorem dX3_first_3 : decode cX3_first 3 = .ok (.istore_n 3, 1) := dk_62 (dk_at dksX3_first_0 3 rfl rfl)
theorem dX3_first_4 : decode cX3_first 4 = .ok (.iload_n 3, 1) := dk_29 (dk_at dksX3_first_0 4 rfl rfl)
theorem dX3_first_5 : decode cX3_first 5 = .ok (.aload_n 0, 1) := dk_42 (dk_at dksX3_first_0 5 rfl rfl)
theorem dX3_first_6 : decode cX3_first 6 = .ok (.getfield 19, 3) := dk_180 0 19 (dk_at dksX3_first_0 6 rfl rfl)
theorem dX3_first_9 : decode cX3_first 9 = .ok (.if_icmp .ge 44, 3) := dk_162 0 44 (dk_at dksX3_first_0 9 rfl rfl)
theorem dX3_first_12 : decode cX3_first 12 = .ok (.aload_n 0, 1) := dk_42 (dk_at dksX3_first_0 12 rfl rfl)
theorem dX3_first_13 : decode cX3_first 13 = .ok (.getfield 13, 3) := dk_180 0 13 (dk_at dksX3_first_0 13 rfl rfl)
theorem dX3_first_16 : decode cX3_first 16 = .ok (.iload_n 3, 1) := dk_29 (dk_at dksX3_first_0 16 rfl rfl)
theorem dX3_first_17 : decode cX3_first 17 = .ok (.iaload, 1) := dk_46 (dk_at dksX3_first_0 17 rfl rfl)
theorem dX3_first_18 : decode cX3_first 18 = .ok (.iconst 1, 1) := dk_4 (dk_at dksX3_first_0 18 rfl rfl)
theorem dX3_first_19 : decode cX3_first 19 = .ok (.iload_n 1, 1) := dk_27 (dk_at dksX3_first_0 19 rfl rfl)
theorem dX3_first_20 : decode cX3_first 20 = .ok (.iconst 3, 1) := dk_6 (dk_at dksX3_first_0 20 rfl rfl)
theorem dX3_first_21 : decode cX3_first 21 = .ok (.iand, 1) := dk_126 (dk_at dksX3_first_0 21 rfl rfl)
theorem dX3_first_22 : decode cX3_first 22 = .ok (.iadd, 1) := dk_96 (dk_at dksX3_first_0 22 rfl rfl)
theorem dX3_first_23 : decode cX3_first 23 = .ok (.if_icmp .ne 24, 3) := dk_160 0 24 (dk_at dksX3_first_1 0 rfl rfl)
theorem dX3_first_26 : decode cX3_first 26 = .ok (.iload_n 2, 1) := dk_28 (dk_at dksX3_first_1 3 rfl rfl)
theorem dX3_first_27 : decode cX3_first 27 = .ok (.ifCond .lt 18, 3) := dk_155 0 18 (dk_at dksX3_first_1 4 rfl rfl)
theorem dX3_first_30 : decode cX3_first 30 = .ok (.aload_n 0, 1) := dk_42 (dk_at dksX3_first_1 7 rfl rfl)
theorem dX3_first_31 : decode cX3_first 31 = .ok (.getfield 7, 3) := dk_180 0 7 (dk_at dksX3_first_1 8 rfl rfl)
theorem dX3_first_34 : decode cX3_first 34 = .ok (.iload_n 3, 1) := dk_29 (dk_at dksX3_first_1 11 rfl rfl)
theorem dX3_first_35 : decode cX3_first 35 = .ok (.iaload, 1) := dk_46 (dk_at dksX3_first_1 12 rfl rfl)
theorem dX3_first_36 : decode cX3_first 36 = .ok (.aload_n 0, 1) := dk_42 (dk_at dksX3_first_1 13 rfl rfl)
theorem dX3_first_37 : decode cX3_first 37 = .ok (.getfield 7, 3) := dk_180 0 7 (dk_at dksX3_first_1 14 rfl rfl)
theorem dX3_first_40 : decode cX3_first 40 = .ok (.iload_n 2, 1) := dk_28 (dk_at dksX3_first_1 17 rfl rfl)
theorem dX3_first_41 : decode cX3_first 41 = .ok (.iaload, 1) := dk_46 (dk_at dksX3_first_1 18 rfl rfl)
theorem dX3_first_42 : decode cX3_first 42 = .ok (.if_icmp .ge 5, 3) := dk_162 0 5 (dk_at dksX3_first_1 19 rfl rfl)
theorem dX3_first_45 : decode cX3_first 45 = .ok (.iload_n 3, 1) := dk_29 (dk_at dksX3_first_1 22 rfl rfl)
theorem dX3_first_46 : decode cX3_first 46 = .ok (.istore_n 2, 1) := dk_61 (dk_at dksX3_first_1 23 rfl rfl)
theorem dX3_first_47 : decode cX3_first 47 = .ok (.iinc 3 1, 3) := dk_132 3 1 (dk_at dksX3_first_2 0 rfl rfl)
theorem dX3_first_50 : decode cX3_first 50 = .ok (.goto (-46), 3) := dk_167 255 210 (dk_at dksX3_first_2 3 rfl rfl)
theorem dX3_first_53 : decode cX3_first 53 = .ok (.iload_n 2, 1) := dk_28 (dk_at dksX3_first_2 6 rfl rfl)
theorem dX3_first_54 : decode cX3_first 54 = .ok (.ireturn, 1) := dk_172 (dk_at dksX3_first_2 7 rfl rfl)
abbrev cX3_takeLeast : ByteArray := prog_5_method_7_code
def yX3_takeLeast : MethodName := ⟨RX3, "takeLeast", "(I)I"⟩
def dkwX3_takeLeast_1 : List UInt8 := [6, 126, 42, 180, 0, 7, 28, 46, 79, 42, 180, 0, 7, 28, 46, 172]
abbrev dktX3_takeLeast_1 : List UInt8 := dkwX3_takeLeast_1 ++ []
def dkwX3_takeLeast_0 : List UInt8 := [42, 27, 182, 0, 29, 61, 28, 156, 0, 5, 2, 172, 42, 180, 0, 13, 28, 3, 79, 42, 180, 0, 16, 27]
abbrev dktX3_takeLeast_0 : List UInt8 := dkwX3_takeLeast_0 ++ dktX3_takeLeast_1
theorem dksX3_takeLeast_0 : cX3_takeLeast.data.toList.drop 0 = dktX3_takeLeast_0 := by decide +kernel
theorem dksX3_takeLeast_1 : cX3_takeLeast.data.toList.drop 24 = dktX3_takeLeast_1 := dk_seg dksX3_takeLeast_0 24 rfl rfl
theorem dX3_takeLeast_0 : decode cX3_takeLeast 0 = .ok (.aload_n 0, 1) := dk_42 (dk_at dksX3_takeLeast_0 0 rfl rfl)
theorem dX3_takeLeast_1 : decode cX3_takeLeast 1 = .ok (.iload_n 1, 1) := dk_27 (dk_at dksX3_takeLeast_0 1 rfl rfl)
theorem dX3_takeLeast_2 : decode cX3_takeLeast 2 = .ok (.invokevirtual 29, 3) := dk_182 0 29 (dk_at dksX3_takeLeast_0 2 rfl rfl)
theorem dX3_takeLeast_5 : decode cX3_takeLeast 5 = .ok (.istore_n 2, 1) := dk_61 (dk_at dksX3_takeLeast_0 5 rfl rfl)
theorem dX3_takeLeast_6 : decode cX3_takeLeast 6 = .ok (.iload_n 2, 1) := dk_28 (dk_at dksX3_takeLeast_0 6 rfl rfl)
theorem dX3_takeLeast_7 : decode cX3_takeLeast 7 = .ok (.ifCond .ge 5, 3) := dk_156 0 5 (dk_at dksX3_takeLeast_0 7 rfl rfl)
theorem dX3_takeLeast_10 : decode cX3_takeLeast 10 = .ok (.iconst (-1), 1) := dk_2 (dk_at dksX3_takeLeast_0 10 rfl rfl)
theorem dX3_takeLeast_11 : decode cX3_takeLeast 11 = .ok (.ireturn, 1) := dk_172 (dk_at dksX3_takeLeast_0 11 rfl rfl)
theorem dX3_takeLeast_12 : decode cX3_takeLeast 12 = .ok (.aload_n 0, 1) := dk_42 (dk_at dksX3_takeLeast_0 12 rfl rfl)
theorem dX3_takeLeast_13 : decode cX3_takeLeast 13 = .ok (.getfield 13, 3) := dk_180 0 13 (dk_at dksX3_takeLeast_0 13 rfl rfl)
theorem dX3_takeLeast_16 : decode cX3_takeLeast 16 = .ok (.iload_n 2, 1) := dk_28 (dk_at dksX3_takeLeast_0 16 rfl rfl)
theorem dX3_takeLeast_17 : decode cX3_takeLeast 17 = .ok (.iconst 0, 1) := dk_3 (dk_at dksX3_takeLeast_0 17 rfl rfl)
theorem dX3_takeLeast_18 : decode cX3_takeLeast 18 = .ok (.iastore, 1) := dk_79 (dk_at dksX3_takeLeast_0 18 rfl rfl)
theorem dX3_takeLeast_19 : decode cX3_takeLeast 19 = .ok (.aload_n 0, 1) := dk_42 (dk_at dksX3_takeLeast_0 19 rfl rfl)
theorem dX3_takeLeast_20 : decode cX3_takeLeast 20 = .ok (.getfield 16, 3) := dk_180 0 16 (dk_at dksX3_takeLeast_0 20 rfl rfl)
theorem dX3_takeLeast_23 : decode cX3_takeLeast 23 = .ok (.iload_n 1, 1) := dk_27 (dk_at dksX3_takeLeast_0 23 rfl rfl)
theorem dX3_takeLeast_24 : decode cX3_takeLeast 24 = .ok (.iconst 3, 1) := dk_6 (dk_at dksX3_takeLeast_1 0 rfl rfl)
theorem dX3_takeLeast_25 : decode cX3_takeLeast 25 = .ok (.iand, 1) := dk_126 (dk_at dksX3_takeLeast_1 1 rfl rfl)
theorem dX3_takeLeast_26 : decode cX3_takeLeast 26 = .ok (.aload_n 0, 1) := dk_42 (dk_at dksX3_takeLeast_1 2 rfl rfl)
theorem dX3_takeLeast_27 : decode cX3_takeLeast 27 = .ok (.getfield 7, 3) := dk_180 0 7 (dk_at dksX3_takeLeast_1 3 rfl rfl)
theorem dX3_takeLeast_30 : decode cX3_takeLeast 30 = .ok (.iload_n 2, 1) := dk_28 (dk_at dksX3_takeLeast_1 6 rfl rfl)
theorem dX3_takeLeast_31 : decode cX3_takeLeast 31 = .ok (.iaload, 1) := dk_46 (dk_at dksX3_takeLeast_1 7 rfl rfl)
theorem dX3_takeLeast_32 : decode cX3_takeLeast 32 = .ok (.iastore, 1) := dk_79 (dk_at dksX3_takeLeast_1 8 rfl rfl)
theorem dX3_takeLeast_33 : decode cX3_takeLeast 33 = .ok (.aload_n 0, 1) := dk_42 (dk_at dksX3_takeLeast_1 9 rfl rfl)
theorem dX3_takeLeast_34 : decode cX3_takeLeast 34 = .ok (.getfield 7, 3) := dk_180 0 7 (dk_at dksX3_takeLeast_1 10 rfl rfl)
theorem dX3_takeLeast_37 : decode cX3_takeLeast 37 = .ok (.iload_n 2, 1) := dk_28 (dk_at dksX3_takeLeast_1 13 rfl rfl)
theorem dX3_takeLeast_38 : decode cX3_takeLeast 38 = .ok (.iaload, 1) := dk_46 (dk_at dksX3_takeLeast_1 14 rfl rfl)
theorem dX3_takeLeast_39 : decode cX3_takeLeast 39 = .ok (.ireturn, 1) := dk_172 (dk_at dksX3_takeLeast_1 15 rfl rfl)
abbrev cX3_size : ByteArray := prog_5_method_8_code
def yX3_size : MethodName := ⟨RX3, "size", "(I)I"⟩
def dkwX3_size_1 : List UInt8 := [160, 0, 7, 4, 167, 0, 4, 3, 96, 61, 132, 3, 1, 167, 255, 223, 28, 172]
abbrev dktX3_size_1 : List UInt8 := dkwX3_size_1 ++ []
def dkwX3_size_0 : List UInt8 := [3, 61, 3, 62, 29, 42, 180, 0, 19, 162, 0, 31, 28, 42, 180, 0, 13, 29, 46, 4, 27, 6, 126, 96]
abbrev dktX3_size_0 : List UInt8 := dkwX3_size_0 ++ dktX3_size_1
theorem dksX3_size_0 : cX3_size.data.toList.drop 0 = dktX3_size_0 := by decide +kernel
theorem dksX3_size_1 : cX3_size.data.toList.drop 24 = dktX3_size_1 := dk_seg dksX3_size_0 24 rfl rfl
theorem dX3_size_0 : decode cX3_size 0 = .ok (.iconst 0, 1) := dk_3 (dk_at dksX3_size_0 0 rfl rfl)
theorem dX3_size_1 : decode cX3_size 1 = .ok (.istore_n 2, 1) := dk_61 (dk_at dksX3_size_0 1 rfl rfl)
theorem dX3_size_2 : decode cX3_size 2 = .ok (.iconst 0, 1) := dk_3 (dk_at dksX3_size_0 2 rfl rfl)
theorem dX3_size_3 : decode cX3_size 3 = .ok (.istore_n 3, 1) := dk_62 (dk_at dksX3_size_0 3 rfl rfl)
theorem dX3_size_4 : decode cX3_size 4 = .ok (.iload_n 3, 1) := dk_29 (dk_at dksX3_size_0 4 rfl rfl)
theorem dX3_size_5 : decode cX3_size 5 = .ok (.aload_n 0, 1) := dk_42 (dk_at dksX3_size_0 5 rfl rfl)
theorem dX3_size_6 : decode cX3_size 6 = .ok (.getfield 19, 3) := dk_180 0 19 (dk_at dksX3_size_0 6 rfl rfl)
theorem dX3_size_9 : decode cX3_size 9 = .ok (.if_icmp .ge 31, 3) := dk_162 0 31 (dk_at dksX3_size_0 9 rfl rfl)
theorem dX3_size_12 : decode cX3_size 12 = .ok (.iload_n 2, 1) := dk_28 (dk_at dksX3_size_0 12 rfl rfl)
theorem dX3_size_13 : decode cX3_size 13 = .ok (.aload_n 0, 1) := dk_42 (dk_at dksX3_size_0 13 rfl rfl)
theorem dX3_size_14 : decode cX3_size 14 = .ok (.getfield 13, 3) := dk_180 0 13 (dk_at dksX3_size_0 14 rfl rfl)
theorem dX3_size_17 : decode cX3_size 17 = .ok (.iload_n 3, 1) := dk_29 (dk_at dksX3_size_0 17 rfl rfl)
theorem dX3_size_18 : decode cX3_size 18 = .ok (.iaload, 1) := dk_46 (dk_at dksX3_size_0 18 rfl rfl)
theorem dX3_size_19 : decode cX3_size 19 = .ok (.iconst 1, 1) := dk_4 (dk_at dksX3_size_0 19 rfl rfl)
theorem dX3_size_20 : decode cX3_size 20 = .ok (.iload_n 1, 1) := dk_27 (dk_at dksX3_size_0 20 rfl rfl)
theorem dX3_size_21 : decode cX3_size 21 = .ok (.iconst 3, 1) := dk_6 (dk_at dksX3_size_0 21 rfl rfl)
theorem dX3_size_22 : decode cX3_size 22 = .ok (.iand, 1) := dk_126 (dk_at dksX3_size_0 22 rfl rfl)
theorem dX3_size_23 : decode cX3_size 23 = .ok (.iadd, 1) := dk_96 (dk_at dksX3_size_0 23 rfl rfl)
theorem dX3_size_24 : decode cX3_size 24 = .ok (.if_icmp .ne 7, 3) := dk_160 0 7 (dk_at dksX3_size_1 0 rfl rfl)
theorem dX3_size_27 : decode cX3_size 27 = .ok (.iconst 1, 1) := dk_4 (dk_at dksX3_size_1 3 rfl rfl)
theorem dX3_size_28 : decode cX3_size 28 = .ok (.goto 4, 3) := dk_167 0 4 (dk_at dksX3_size_1 4 rfl rfl)
theorem dX3_size_31 : decode cX3_size 31 = .ok (.iconst 0, 1) := dk_3 (dk_at dksX3_size_1 7 rfl rfl)
theorem dX3_size_32 : decode cX3_size 32 = .ok (.iadd, 1) := dk_96 (dk_at dksX3_size_1 8 rfl rfl)
theorem dX3_size_33 : decode cX3_size 33 = .ok (.istore_n 2, 1) := dk_61 (dk_at dksX3_size_1 9 rfl rfl)
theorem dX3_size_34 : decode cX3_size 34 = .ok (.iinc 3 1, 3) := dk_132 3 1 (dk_at dksX3_size_1 10 rfl rfl)
theorem dX3_size_37 : decode cX3_size 37 = .ok (.goto (-33), 3) := dk_167 255 223 (dk_at dksX3_size_1 13 rfl rfl)
theorem dX3_size_40 : decode cX3_size 40 = .ok (.iload_n 2, 1) := dk_28 (dk_at dksX3_size_1 16 rfl rfl)
theorem dX3_size_41 : decode cX3_size 41 = .ok (.ireturn, 1) := dk_172 (dk_at dksX3_size_1 17 rfl rfl)
abbrev cX3_isEmpty : ByteArray := prog_5_method_9_code
def yX3_isEmpty : MethodName := ⟨RX3, "isEmpty", "(I)Z"⟩
def dkwX3_isEmpty_0 : List UInt8 := [42, 27, 182, 0, 29, 156, 0, 7, 4, 167, 0, 4, 3, 172]
abbrev dktX3_isEmpty_0 : List UInt8 := dkwX3_isEmpty_0 ++ []
theorem dksX3_isEmpty_0 : cX3_isEmpty.data.toList.drop 0 = dktX3_isEmpty_0 := by decide +kernel
theorem dX3_isEmpty_0 : decode cX3_isEmpty 0 = .ok (.aload_n 0, 1) := dk_42 (dk_at dksX3_isEmpty_0 0 rfl rfl)
theorem dX3_isEmpty_1 : decode cX3_isEmpty 1 = .ok (.iload_n 1, 1) := dk_27 (dk_at dksX3_isEmpty_0 1 rfl rfl)
theorem dX3_isEmpty_2 : decode cX3_isEmpty 2 = .ok (.invokevirtual 29, 3) := dk_182 0 29 (dk_at dksX3_isEmpty_0 2 rfl rfl)
theorem dX3_isEmpty_5 : decode cX3_isEmpty 5 = .ok (.ifCond .ge 7, 3) := dk_156 0 7 (dk_at dksX3_isEmpty_0 5 rfl rfl)
theorem dX3_isEmpty_8 : decode cX3_isEmpty 8 = .ok (.iconst 1, 1) := dk_4 (dk_at dksX3_isEmpty_0 8 rfl rfl)
theorem dX3_isEmpty_9 : decode cX3_isEmpty 9 = .ok (.goto 4, 3) := dk_167 0 4 (dk_at dksX3_isEmpty_0 9 rfl rfl)
theorem dX3_isEmpty_12 : decode cX3_isEmpty 12 = .ok (.iconst 0, 1) := dk_3 (dk_at dksX3_isEmpty_0 12 rfl rfl)
theorem dX3_isEmpty_13 : decode cX3_isEmpty 13 = .ok (.ireturn, 1) := dk_172 (dk_at dksX3_isEmpty_0 13 rfl rfl)
abbrev cX3_renew : ByteArray := prog_5_method_10_code
def yX3_renew : MethodName := ⟨RX3, "renew", "(I)V"⟩
def dkwX3_renew_1 : List UInt8 := [42, 180, 0, 13, 28, 3, 79, 132, 2, 1, 167, 255, 224, 42, 180, 0, 16, 27, 6, 126, 3, 79, 177]
abbrev dktX3_renew_1 : List UInt8 := dkwX3_renew_1 ++ []
def dkwX3_renew_0 : List UInt8 := [3, 61, 28, 42, 180, 0, 19, 162, 0, 30, 42, 180, 0, 13, 28, 46, 4, 27, 6, 126, 96, 160, 0, 10]
abbrev dktX3_renew_0 : List UInt8 := dkwX3_renew_0 ++ dktX3_renew_1
theorem dksX3_renew_0 : cX3_renew.data.toList.drop 0 = dktX3_renew_0 := by decide +kernel
theorem dksX3_renew_1 : cX3_renew.data.toList.drop 24 = dktX3_renew_1 := dk_seg dksX3_renew_0 24 rfl rfl
theorem dX3_renew_0 : decode cX3_renew 0 = .ok (.iconst 0, 1) := dk_3 (dk_at dksX3_renew_0 0 rfl rfl)
theorem dX3_renew_1 : decode cX3_renew 1 = .ok (.istore_n 2, 1) := dk_61 (dk_at dksX3_renew_0 1 rfl rfl)
theorem dX3_renew_2 : decode cX3_renew 2 = .ok (.iload_n 2, 1) := dk_28 (dk_at dksX3_renew_0 2 rfl rfl)
theorem dX3_renew_3 : decode cX3_renew 3 = .ok (.aload_n 0, 1) := dk_42 (dk_at dksX3_renew_0 3 rfl rfl)
theorem dX3_renew_4 : decode cX3_renew 4 = .ok (.getfield 19, 3) := dk_180 0 19 (dk_at dksX3_renew_0 4 rfl rfl)
theorem dX3_renew_7 : decode cX3_renew 7 = .ok (.if_icmp .ge 30, 3) := dk_162 0 30 (dk_at dksX3_renew_0 7 rfl rfl)
theorem dX3_renew_10 : decode cX3_renew 10 = .ok (.aload_n 0, 1) := dk_42 (dk_at dksX3_renew_0 10 rfl rfl)
theorem dX3_renew_11 : decode cX3_renew 11 = .ok (.getfield 13, 3) := dk_180 0 13 (dk_at dksX3_renew_0 11 rfl rfl)
theorem dX3_renew_14 : decode cX3_renew 14 = .ok (.iload_n 2, 1) := dk_28 (dk_at dksX3_renew_0 14 rfl rfl)
theorem dX3_renew_15 : decode cX3_renew 15 = .ok (.iaload, 1) := dk_46 (dk_at dksX3_renew_0 15 rfl rfl)
theorem dX3_renew_16 : decode cX3_renew 16 = .ok (.iconst 1, 1) := dk_4 (dk_at dksX3_renew_0 16 rfl rfl)
theorem dX3_renew_17 : decode cX3_renew 17 = .ok (.iload_n 1, 1) := dk_27 (dk_at dksX3_renew_0 17 rfl rfl)
theorem dX3_renew_18 : decode cX3_renew 18 = .ok (.iconst 3, 1) := dk_6 (dk_at dksX3_renew_0 18 rfl rfl)
theorem dX3_renew_19 : decode cX3_renew 19 = .ok (.iand, 1) := dk_126 (dk_at dksX3_renew_0 19 rfl rfl)
theorem dX3_renew_20 : decode cX3_renew 20 = .ok (.iadd, 1) := dk_96 (dk_at dksX3_renew_0 20 rfl rfl)
theorem dX3_renew_21 : decode cX3_renew 21 = .ok (.if_icmp .ne 10, 3) := dk_160 0 10 (dk_at dksX3_renew_0 21 rfl rfl)
theorem dX3_renew_24 : decode cX3_renew 24 = .ok (.aload_n 0, 1) := dk_42 (dk_at dksX3_renew_1 0 rfl rfl)
theorem dX3_renew_25 : decode cX3_renew 25 = .ok (.getfield 13, 3) := dk_180 0 13 (dk_at dksX3_renew_1 1 rfl rfl)
theorem dX3_renew_28 : decode cX3_renew 28 = .ok (.iload_n 2, 1) := dk_28 (dk_at dksX3_renew_1 4 rfl rfl)
theorem dX3_renew_29 : decode cX3_renew 29 = .ok (.iconst 0, 1) := dk_3 (dk_at dksX3_renew_1 5 rfl rfl)
theorem dX3_renew_30 : decode cX3_renew 30 = .ok (.iastore, 1) := dk_79 (dk_at dksX3_renew_1 6 rfl rfl)
theorem dX3_renew_31 : decode cX3_renew 31 = .ok (.iinc 2 1, 3) := dk_132 2 1 (dk_at dksX3_renew_1 7 rfl rfl)
theorem dX3_renew_34 : decode cX3_renew 34 = .ok (.goto (-32), 3) := dk_167 255 224 (dk_at dksX3_renew_1 10 rfl rfl)
theorem dX3_renew_37 : decode cX3_renew 37 = .ok (.aload_n 0, 1) := dk_42 (dk_at dksX3_renew_1 13 rfl rfl)
theorem dX3_renew_38 : decode cX3_renew 38 = .ok (.getfield 16, 3) := dk_180 0 16 (dk_at dksX3_renew_1 14 rfl rfl)
theorem dX3_renew_41 : decode cX3_renew 41 = .ok (.iload_n 1, 1) := dk_27 (dk_at dksX3_renew_1 17 rfl rfl)
theorem dX3_renew_42 : decode cX3_renew 42 = .ok (.iconst 3, 1) := dk_6 (dk_at dksX3_renew_1 18 rfl rfl)
theorem dX3_renew_43 : decode cX3_renew 43 = .ok (.iand, 1) := dk_126 (dk_at dksX3_renew_1 19 rfl rfl)
theorem dX3_renew_44 : decode cX3_renew 44 = .ok (.iconst 0, 1) := dk_3 (dk_at dksX3_renew_1 20 rfl rfl)
theorem dX3_renew_45 : decode cX3_renew 45 = .ok (.iastore, 1) := dk_79 (dk_at dksX3_renew_1 21 rfl rfl)
theorem dX3_renew_46 : decode cX3_renew 46 = .ok (.return_, 1) := dk_177 (dk_at dksX3_renew_1 22 rfl rfl)
theorem q21 : (Jvm.Cond.initialized "LongRadixHeapDeskModel") ∈ lw_all := lw_g (lw_at lw_m1 14 rfl) rfl
theorem q332 : (Jvm.Cond.selects "LongRadixHeapDeskModel" ({ cls := "java/lang/Object", name := "getClass", desc := "()Ljava/lang/Class;" } : Jvm.MethodName) ({ cls := "java/lang/Object", name := "getClass", desc := "()Ljava/lang/Class;" } : Jvm.MethodName)) ∈ lw_all := lw_g (lw_at lw_m2 85 rfl) rfl
theorem q525 : (Jvm.Cond.instantiable "LongRadixHeapDeskModel" (4 : Nat)) ∈ lw_all := lw_g (lw_at lw_m3 38 rfl) rfl
theorem q527 : (Jvm.Cond.instanceMethod ({ cls := "LongRadixHeapDeskModel", name := "<init>", desc := "()V" } : Jvm.MethodName)) ∈ lw_all := lw_g (lw_at lw_m3 40 rfl) rfl
theorem q528 : (Jvm.Cond.code ({ cls := "LongRadixHeapDeskModel", name := "<init>", desc := "()V" } : Jvm.MethodName) prog_5_method_1_code (1 : Nat) (Option.none : Option Jvm.ClassFile.FieldType)) ∈ lw_all := lw_g (lw_at lw_m3 41 rfl) rfl
theorem q529 : (Jvm.Cond.methodLink "LongRadixHeapDeskModel" (1 : Nat) ({ cls := "java/lang/Object", name := "<init>", desc := "()V" } : Jvm.MethodName)) ∈ lw_all := lw_g (lw_at lw_m3 42 rfl) rfl
theorem q530 : (Jvm.Cond.fieldLink "LongRadixHeapDeskModel" (7 : Nat) "LongRadixHeapDeskModel" "keys" "[I") ∈ lw_all := lw_g (lw_at lw_m3 43 rfl) rfl
theorem q531 : (Jvm.Cond.fieldLink "LongRadixHeapDeskModel" (13 : Nat) "LongRadixHeapDeskModel" "home" "[I") ∈ lw_all := lw_g (lw_at lw_m3 44 rfl) rfl
theorem q532 : (Jvm.Cond.fieldLink "LongRadixHeapDeskModel" (16 : Nat) "LongRadixHeapDeskModel" "taken" "[I") ∈ lw_all := lw_g (lw_at lw_m3 45 rfl) rfl
theorem q533 : (Jvm.Cond.fieldLink "LongRadixHeapDeskModel" (19 : Nat) "LongRadixHeapDeskModel" "puts" "I") ∈ lw_all := lw_g (lw_at lw_m3 46 rfl) rfl
theorem q534 : (Jvm.Cond.laysFinal "LongRadixHeapDeskModel" "LongRadixHeapDeskModel" "keys" "[I") ∈ lw_all := lw_g (lw_at lw_m3 47 rfl) rfl
theorem q535 : (Jvm.Cond.soleField "LongRadixHeapDeskModel" "keys") ∈ lw_all := lw_g (lw_at lw_m3 48 rfl) rfl
theorem q536 : (Jvm.Cond.laysFinal "LongRadixHeapDeskModel" "LongRadixHeapDeskModel" "home" "[I") ∈ lw_all := lw_g (lw_at lw_m3 49 rfl) rfl
theorem q537 : (Jvm.Cond.soleField "LongRadixHeapDeskModel" "home") ∈ lw_all := lw_g (lw_at lw_m3 50 rfl) rfl
theorem q538 : (Jvm.Cond.laysFinal "LongRadixHeapDeskModel" "LongRadixHeapDeskModel" "taken" "[I") ∈ lw_all := lw_g (lw_at lw_m3 51 rfl) rfl
theorem q539 : (Jvm.Cond.soleField "LongRadixHeapDeskModel" "taken") ∈ lw_all := lw_g (lw_at lw_m3 52 rfl) rfl
theorem q540 : (Jvm.Cond.lays "LongRadixHeapDeskModel" "LongRadixHeapDeskModel" "puts" "I") ∈ lw_all := lw_g (lw_at lw_m3 53 rfl) rfl
theorem q541 : (Jvm.Cond.soleField "LongRadixHeapDeskModel" "puts") ∈ lw_all := lw_g (lw_at lw_m3 54 rfl) rfl
theorem q542 : (Jvm.Cond.superclass "LongRadixHeapDeskModel" "java/lang/Object") ∈ lw_all := lw_g (lw_at lw_m3 55 rfl) rfl
theorem q544 : (Jvm.Cond.instanceMethod ({ cls := "LongRadixHeapDeskModel", name := "put", desc := "(II)Z" } : Jvm.MethodName)) ∈ lw_all := lw_g (lw_at lw_m3 57 rfl) rfl
theorem q545 : (Jvm.Cond.selects "LongRadixHeapDeskModel" ({ cls := "LongRadixHeapDeskModel", name := "put", desc := "(II)Z" } : Jvm.MethodName) ({ cls := "LongRadixHeapDeskModel", name := "put", desc := "(II)Z" } : Jvm.MethodName)) ∈ lw_all := lw_g (lw_at lw_m3 58 rfl) rfl
theorem q546 : (Jvm.Cond.code ({ cls := "LongRadixHeapDeskModel", name := "put", desc := "(II)Z" } : Jvm.MethodName) prog_5_method_4_code (3 : Nat) (Option.some Jvm.ClassFile.FieldType.boolean)) ∈ lw_all := lw_g (lw_at lw_m3 59 rfl) rfl
theorem q547 : (Jvm.Cond.constant "LongRadixHeapDeskModel" (24 : Nat) (1048575 : Int32)) ∈ lw_all := lw_g (lw_at lw_m3 60 rfl) rfl
theorem q548 : (Jvm.Cond.methodLink "LongRadixHeapDeskModel" (25 : Nat) ({ cls := "LongRadixHeapDeskModel", name := "lay", desc := "(II)Z" } : Jvm.MethodName)) ∈ lw_all := lw_g (lw_at lw_m3 61 rfl) rfl
theorem q549 : (Jvm.Cond.privateMethod ({ cls := "LongRadixHeapDeskModel", name := "lay", desc := "(II)Z" } : Jvm.MethodName)) ∈ lw_tbl := lw_at lw_m3 62 rfl
theorem q550 : (Jvm.Cond.instanceMethod ({ cls := "LongRadixHeapDeskModel", name := "lay", desc := "(II)Z" } : Jvm.MethodName)) ∈ lw_all := lw_g (lw_at lw_m3 63 rfl) rfl
theorem q551 : (Jvm.Cond.code ({ cls := "LongRadixHeapDeskModel", name := "lay", desc := "(II)Z" } : Jvm.MethodName) prog_5_method_3_code (3 : Nat) (Option.some Jvm.ClassFile.FieldType.boolean)) ∈ lw_all := lw_g (lw_at lw_m3 64 rfl) rfl
theorem q552 : (Jvm.Cond.constant "LongRadixHeapDeskModel" (23 : Nat) (1048576 : Int32)) ∈ lw_all := lw_g (lw_at lw_m3 65 rfl) rfl
theorem q554 : (Jvm.Cond.instanceMethod ({ cls := "LongRadixHeapDeskModel", name := "above", desc := "(II)Z" } : Jvm.MethodName)) ∈ lw_all := lw_g (lw_at lw_m3 67 rfl) rfl
theorem q555 : (Jvm.Cond.selects "LongRadixHeapDeskModel" ({ cls := "LongRadixHeapDeskModel", name := "above", desc := "(II)Z" } : Jvm.MethodName) ({ cls := "LongRadixHeapDeskModel", name := "above", desc := "(II)Z" } : Jvm.MethodName)) ∈ lw_all := lw_g (lw_at lw_m3 68 rfl) rfl
theorem q556 : (Jvm.Cond.code ({ cls := "LongRadixHeapDeskModel", name := "above", desc := "(II)Z" } : Jvm.MethodName) prog_5_method_5_code (3 : Nat) (Option.some Jvm.ClassFile.FieldType.boolean)) ∈ lw_all := lw_g (lw_at lw_m3 69 rfl) rfl
theorem q558 : (Jvm.Cond.instanceMethod ({ cls := "LongRadixHeapDeskModel", name := "least", desc := "(I)I" } : Jvm.MethodName)) ∈ lw_all := lw_g (lw_at lw_m3 71 rfl) rfl
theorem q559 : (Jvm.Cond.selects "LongRadixHeapDeskModel" ({ cls := "LongRadixHeapDeskModel", name := "least", desc := "(I)I" } : Jvm.MethodName) ({ cls := "LongRadixHeapDeskModel", name := "least", desc := "(I)I" } : Jvm.MethodName)) ∈ lw_all := lw_g (lw_at lw_m3 72 rfl) rfl
theorem q560 : (Jvm.Cond.code ({ cls := "LongRadixHeapDeskModel", name := "least", desc := "(I)I" } : Jvm.MethodName) prog_5_method_6_code (3 : Nat) (Option.some Jvm.ClassFile.FieldType.int)) ∈ lw_all := lw_g (lw_at lw_m3 73 rfl) rfl
theorem q561 : (Jvm.Cond.methodLink "LongRadixHeapDeskModel" (29 : Nat) ({ cls := "LongRadixHeapDeskModel", name := "first", desc := "(I)I" } : Jvm.MethodName)) ∈ lw_all := lw_g (lw_at lw_m3 74 rfl) rfl
theorem q562 : (Jvm.Cond.privateMethod ({ cls := "LongRadixHeapDeskModel", name := "first", desc := "(I)I" } : Jvm.MethodName)) ∈ lw_tbl := lw_at lw_m3 75 rfl
theorem q563 : (Jvm.Cond.instanceMethod ({ cls := "LongRadixHeapDeskModel", name := "first", desc := "(I)I" } : Jvm.MethodName)) ∈ lw_all := lw_g (lw_at lw_m3 76 rfl) rfl
theorem q564 : (Jvm.Cond.code ({ cls := "LongRadixHeapDeskModel", name := "first", desc := "(I)I" } : Jvm.MethodName) prog_5_method_2_code (4 : Nat) (Option.some Jvm.ClassFile.FieldType.int)) ∈ lw_all := lw_g (lw_at lw_m3 77 rfl) rfl
theorem q566 : (Jvm.Cond.instanceMethod ({ cls := "LongRadixHeapDeskModel", name := "takeLeast", desc := "(I)I" } : Jvm.MethodName)) ∈ lw_all := lw_g (lw_at lw_m3 79 rfl) rfl
theorem q567 : (Jvm.Cond.selects "LongRadixHeapDeskModel" ({ cls := "LongRadixHeapDeskModel", name := "takeLeast", desc := "(I)I" } : Jvm.MethodName) ({ cls := "LongRadixHeapDeskModel", name := "takeLeast", desc := "(I)I" } : Jvm.MethodName)) ∈ lw_all := lw_g (lw_at lw_m3 80 rfl) rfl
theorem q568 : (Jvm.Cond.code ({ cls := "LongRadixHeapDeskModel", name := "takeLeast", desc := "(I)I" } : Jvm.MethodName) prog_5_method_7_code (3 : Nat) (Option.some Jvm.ClassFile.FieldType.int)) ∈ lw_all := lw_g (lw_at lw_m3 81 rfl) rfl
theorem q570 : (Jvm.Cond.instanceMethod ({ cls := "LongRadixHeapDeskModel", name := "size", desc := "(I)I" } : Jvm.MethodName)) ∈ lw_all := lw_g (lw_at lw_m3 83 rfl) rfl
theorem q571 : (Jvm.Cond.selects "LongRadixHeapDeskModel" ({ cls := "LongRadixHeapDeskModel", name := "size", desc := "(I)I" } : Jvm.MethodName) ({ cls := "LongRadixHeapDeskModel", name := "size", desc := "(I)I" } : Jvm.MethodName)) ∈ lw_all := lw_g (lw_at lw_m3 84 rfl) rfl
theorem q572 : (Jvm.Cond.code ({ cls := "LongRadixHeapDeskModel", name := "size", desc := "(I)I" } : Jvm.MethodName) prog_5_method_8_code (4 : Nat) (Option.some Jvm.ClassFile.FieldType.int)) ∈ lw_all := lw_g (lw_at lw_m3 85 rfl) rfl
theorem q574 : (Jvm.Cond.instanceMethod ({ cls := "LongRadixHeapDeskModel", name := "isEmpty", desc := "(I)Z" } : Jvm.MethodName)) ∈ lw_all := lw_g (lw_at lw_m3 87 rfl) rfl
theorem q575 : (Jvm.Cond.selects "LongRadixHeapDeskModel" ({ cls := "LongRadixHeapDeskModel", name := "isEmpty", desc := "(I)Z" } : Jvm.MethodName) ({ cls := "LongRadixHeapDeskModel", name := "isEmpty", desc := "(I)Z" } : Jvm.MethodName)) ∈ lw_all := lw_g (lw_at lw_m3 88 rfl) rfl
theorem q576 : (Jvm.Cond.code ({ cls := "LongRadixHeapDeskModel", name := "isEmpty", desc := "(I)Z" } : Jvm.MethodName) prog_5_method_9_code (2 : Nat) (Option.some Jvm.ClassFile.FieldType.boolean)) ∈ lw_all := lw_g (lw_at lw_m3 89 rfl) rfl
theorem q578 : (Jvm.Cond.instanceMethod ({ cls := "LongRadixHeapDeskModel", name := "renew", desc := "(I)V" } : Jvm.MethodName)) ∈ lw_all := lw_g (lw_at lw_m3 91 rfl) rfl
theorem q579 : (Jvm.Cond.selects "LongRadixHeapDeskModel" ({ cls := "LongRadixHeapDeskModel", name := "renew", desc := "(I)V" } : Jvm.MethodName) ({ cls := "LongRadixHeapDeskModel", name := "renew", desc := "(I)V" } : Jvm.MethodName)) ∈ lw_all := lw_g (lw_at lw_m3 92 rfl) rfl
theorem q580 : (Jvm.Cond.code ({ cls := "LongRadixHeapDeskModel", name := "renew", desc := "(I)V" } : Jvm.MethodName) prog_5_method_10_code (3 : Nat) (Option.none : Option Jvm.ClassFile.FieldType)) ∈ lw_all := lw_g (lw_at lw_m3 93 rfl) rfl
theorem q590 : (Jvm.Cond.castable "LongRadixHeapDeskModel" "java/lang/Object") ∈ lw_tbl := lw_at lw_m3 103 rfl
theorem in_X3 : ∀ w ∈ wsX30, w ∈ lw_all := lw_in wsX30 [534, 536, 538, 540] (by decide +kernel) (by decide +kernel)
theorem q7 : (Jvm.Cond.initialized "LongRadixHeapDeskLaw") ∈ lw_all := lw_g (lw_at lw_m1 0 rfl) rfl
set_option maxRecDepth 100000
theorem q32 : (Jvm.Cond.classLink "LongRadixHeapDeskLaw" (7 : Nat) "LongRadixHeapDesk") ∈ lw_all := lw_g (lw_at lw_m1 25 rfl) rfl
theorem q34 : (Jvm.Cond.methodLink "LongRadixHeapDeskLaw" (9 : Nat) ({ cls := "LongRadixHeapDesk", name := "<init>", desc := "()V" } : Jvm.MethodName)) ∈ lw_all := lw_g (lw_at lw_m1 27 rfl) rfl
theorem q231 : (Jvm.Cond.methodLink "LongRadixHeapDeskLaw" (13 : Nat) ({ cls := "LongRadixHeapDesk", name := "put", desc := "(II)Z" } : Jvm.MethodName)) ∈ lw_all := lw_g (lw_at lw_m1 224 rfl) rfl
theorem q360 : (Jvm.Cond.methodLink "LongRadixHeapDeskLaw" (18 : Nat) ({ cls := "LongRadixHeapDesk", name := "above", desc := "(II)Z" } : Jvm.MethodName)) ∈ lw_all := lw_g (lw_at lw_m2 113 rfl) rfl
theorem q364 : (Jvm.Cond.methodLink "LongRadixHeapDeskLaw" (22 : Nat) ({ cls := "LongRadixHeapDesk", name := "least", desc := "(I)I" } : Jvm.MethodName)) ∈ lw_all := lw_g (lw_at lw_m2 117 rfl) rfl
theorem q403 : (Jvm.Cond.methodLink "LongRadixHeapDeskLaw" (27 : Nat) ({ cls := "LongRadixHeapDesk", name := "takeLeast", desc := "(I)I" } : Jvm.MethodName)) ∈ lw_all := lw_g (lw_at lw_m2 156 rfl) rfl
theorem q506 : (Jvm.Cond.methodLink "LongRadixHeapDeskLaw" (31 : Nat) ({ cls := "LongRadixHeapDesk", name := "size", desc := "(I)I" } : Jvm.MethodName)) ∈ lw_all := lw_g (lw_at lw_m3 19 rfl) rfl
theorem q516 : (Jvm.Cond.methodLink "LongRadixHeapDeskLaw" (35 : Nat) ({ cls := "LongRadixHeapDesk", name := "isEmpty", desc := "(I)Z" } : Jvm.MethodName)) ∈ lw_all := lw_g (lw_at lw_m3 29 rfl) rfl
theorem q520 : (Jvm.Cond.methodLink "LongRadixHeapDeskLaw" (40 : Nat) ({ cls := "LongRadixHeapDesk", name := "renew", desc := "(I)V" } : Jvm.MethodName)) ∈ lw_all := lw_g (lw_at lw_m3 33 rfl) rfl
theorem q524 : (Jvm.Cond.classLink "LongRadixHeapDeskLaw" (10 : Nat) "LongRadixHeapDeskModel") ∈ lw_all := lw_g (lw_at lw_m3 37 rfl) rfl
theorem q526 : (Jvm.Cond.methodLink "LongRadixHeapDeskLaw" (12 : Nat) ({ cls := "LongRadixHeapDeskModel", name := "<init>", desc := "()V" } : Jvm.MethodName)) ∈ lw_all := lw_g (lw_at lw_m3 39 rfl) rfl
theorem q543 : (Jvm.Cond.methodLink "LongRadixHeapDeskLaw" (17 : Nat) ({ cls := "LongRadixHeapDeskModel", name := "put", desc := "(II)Z" } : Jvm.MethodName)) ∈ lw_all := lw_g (lw_at lw_m3 56 rfl) rfl
theorem q553 : (Jvm.Cond.methodLink "LongRadixHeapDeskLaw" (21 : Nat) ({ cls := "LongRadixHeapDeskModel", name := "above", desc := "(II)Z" } : Jvm.MethodName)) ∈ lw_all := lw_g (lw_at lw_m3 66 rfl) rfl
theorem q557 : (Jvm.Cond.methodLink "LongRadixHeapDeskLaw" (26 : Nat) ({ cls := "LongRadixHeapDeskModel", name := "least", desc := "(I)I" } : Jvm.MethodName)) ∈ lw_all := lw_g (lw_at lw_m3 70 rfl) rfl
theorem q565 : (Jvm.Cond.methodLink "LongRadixHeapDeskLaw" (30 : Nat) ({ cls := "LongRadixHeapDeskModel", name := "takeLeast", desc := "(I)I" } : Jvm.MethodName)) ∈ lw_all := lw_g (lw_at lw_m3 78 rfl) rfl
theorem q569 : (Jvm.Cond.methodLink "LongRadixHeapDeskLaw" (34 : Nat) ({ cls := "LongRadixHeapDeskModel", name := "size", desc := "(I)I" } : Jvm.MethodName)) ∈ lw_all := lw_g (lw_at lw_m3 82 rfl) rfl
theorem q573 : (Jvm.Cond.methodLink "LongRadixHeapDeskLaw" (39 : Nat) ({ cls := "LongRadixHeapDeskModel", name := "isEmpty", desc := "(I)Z" } : Jvm.MethodName)) ∈ lw_all := lw_g (lw_at lw_m3 86 rfl) rfl
theorem q577 : (Jvm.Cond.methodLink "LongRadixHeapDeskLaw" (44 : Nat) ({ cls := "LongRadixHeapDeskModel", name := "renew", desc := "(I)V" } : Jvm.MethodName)) ∈ lw_all := lw_g (lw_at lw_m3 90 rfl) rfl
end
section
/-! java/lang/Number -/
set_option maxRecDepth 100000
def RJ4 : String := "java/lang/Number"
abbrev cJ4_init : ByteArray := prog_17_method_1_code
def yJ4_init : MethodName := ⟨RJ4, "<init>", "()V"⟩
theorem dJ4_init_0 : decode cJ4_init 0 = .ok (.aload_n 0, 1) := by decide +kernel
theorem dJ4_init_1 : decode cJ4_init 1 = .ok (.invokespecial 1, 3) := by decide +kernel
theorem dJ4_init_4 : decode cJ4_init 4 = .ok (.return_, 1) := by decide +kernel
theorem q15 : (Jvm.Cond.initialized "java/lang/Number") ∈ lw_all := lw_g (lw_at lw_m1 8 rfl) rfl
theorem q137 : (Jvm.Cond.instanceMethod ({ cls := "java/lang/Number", name := "<init>", desc := "()V" } : Jvm.MethodName)) ∈ lw_all := lw_g (lw_at lw_m1 130 rfl) rfl
theorem q138 : (Jvm.Cond.code ({ cls := "java/lang/Number", name := "<init>", desc := "()V" } : Jvm.MethodName) prog_17_method_1_code (1 : Nat) (Option.none : Option Jvm.ClassFile.FieldType)) ∈ lw_all := lw_g (lw_at lw_m1 131 rfl) rfl
theorem q139 : (Jvm.Cond.methodLink "java/lang/Number" (1 : Nat) ({ cls := "java/lang/Object", name := "<init>", desc := "()V" } : Jvm.MethodName)) ∈ lw_all := lw_g (lw_at lw_m1 132 rfl) rfl
/-! java/lang/Long -/
set_option maxRecDepth 100000
def RJ5 : String := "java/lang/Long"
def TJ5 : u_T := fun k => match k with
  | _ => ("java/lang/Long", "value", "J", true)
def tyJ5 : Nat → FieldType := fun k => match k with
  | _ => .long
abbrev wsJ50 : List Cond := u_ws RJ5 TJ5 1
theorem nmJ5 : ∀ a, a < 1 → ∀ b, b < 1 → a ≠ b → (TJ5 a).2.1 ≠ (TJ5 b).2.1 := by decide +kernel
theorem tyJ5_ok : ∀ k, k < 1 → parseFieldDescriptor (TJ5 k).2.2.1 = some (tyJ5 k) := by decide +kernel
abbrev cJ5_valueOf : ByteArray := prog_14_method_24_code
def yJ5_valueOf : MethodName := ⟨RJ5, "valueOf", "(J)Ljava/lang/Long;"⟩
def dkwJ5_valueOf_1 : List UInt8 := [136, 17, 0, 128, 96, 50, 176, 187, 0, 1, 89, 30, 183, 0, 240, 176]
abbrev dktJ5_valueOf_1 : List UInt8 := dkwJ5_valueOf_1 ++ []
def dkwJ5_valueOf_0 : List UInt8 := [17, 0, 128, 61, 30, 20, 0, 230, 148, 155, 0, 22, 30, 20, 0, 232, 148, 157, 0, 14, 178, 0, 234, 30]
abbrev dktJ5_valueOf_0 : List UInt8 := dkwJ5_valueOf_0 ++ dktJ5_valueOf_1
theorem dksJ5_valueOf_0 : cJ5_valueOf.data.toList.drop 0 = dktJ5_valueOf_0 := by decide +kernel
theorem dksJ5_valueOf_1 : cJ5_valueOf.data.toList.drop 24 = dktJ5_valueOf_1 := dk_seg dksJ5_valueOf_0 24 rfl rfl
theorem dJ5_valueOf_0 : decode cJ5_valueOf 0 = .ok (.sipush 128, 3) := dk_17 0 128 (dk_at dksJ5_valueOf_0 0 rfl rfl)
theorem dJ5_valueOf_3 : decode cJ5_valueOf 3 = .ok (.istore_n 2, 1) := dk_61 (dk_at dksJ5_valueOf_0 3 rfl rfl)
theorem dJ5_valueOf_4 : decode cJ5_valueOf 4 = .ok (.lload_n 0, 1) := dk_30 (dk_at dksJ5_valueOf_0 4 rfl rfl)
theorem dJ5_valueOf_5 : decode cJ5_valueOf 5 = .ok (.ldc2_w 230, 3) := dk_20 0 230 (dk_at dksJ5_valueOf_0 5 rfl rfl)
theorem dJ5_valueOf_8 : decode cJ5_valueOf 8 = .ok (.lcmp, 1) := dk_148 (dk_at dksJ5_valueOf_0 8 rfl rfl)
theorem dJ5_valueOf_9 : decode cJ5_valueOf 9 = .ok (.ifCond .lt 22, 3) := dk_155 0 22 (dk_at dksJ5_valueOf_0 9 rfl rfl)
theorem dJ5_valueOf_12 : decode cJ5_valueOf 12 = .ok (.lload_n 0, 1) := dk_30 (dk_at dksJ5_valueOf_0 12 rfl rfl)
theorem dJ5_valueOf_13 : decode cJ5_valueOf 13 = .ok (.ldc2_w 232, 3) := dk_20 0 232 (dk_at dksJ5_valueOf_0 13 rfl rfl)
theorem dJ5_valueOf_16 : decode cJ5_valueOf 16 = .ok (.lcmp, 1) := dk_148 (dk_at dksJ5_valueOf_0 16 rfl rfl)
theorem dJ5_valueOf_17 : decode cJ5_valueOf 17 = .ok (.ifCond .gt 14, 3) := dk_157 0 14 (dk_at dksJ5_valueOf_0 17 rfl rfl)
theorem dJ5_valueOf_20 : decode cJ5_valueOf 20 = .ok (.getstatic 234, 3) := dk_178 0 234 (dk_at dksJ5_valueOf_0 20 rfl rfl)
theorem dJ5_valueOf_23 : decode cJ5_valueOf 23 = .ok (.lload_n 0, 1) := dk_30 (dk_at dksJ5_valueOf_0 23 rfl rfl)
theorem dJ5_valueOf_24 : decode cJ5_valueOf 24 = .ok (.l2i, 1) := dk_136 (dk_at dksJ5_valueOf_1 0 rfl rfl)
theorem dJ5_valueOf_25 : decode cJ5_valueOf 25 = .ok (.sipush 128, 3) := dk_17 0 128 (dk_at dksJ5_valueOf_1 1 rfl rfl)
theorem dJ5_valueOf_28 : decode cJ5_valueOf 28 = .ok (.iadd, 1) := dk_96 (dk_at dksJ5_valueOf_1 4 rfl rfl)
theorem dJ5_valueOf_29 : decode cJ5_valueOf 29 = .ok (.aaload, 1) := dk_50 (dk_at dksJ5_valueOf_1 5 rfl rfl)
theorem dJ5_valueOf_30 : decode cJ5_valueOf 30 = .ok (.areturn, 1) := dk_176 (dk_at dksJ5_valueOf_1 6 rfl rfl)
theorem dJ5_valueOf_31 : decode cJ5_valueOf 31 = .ok (.new 1, 3) := dk_187 0 1 (dk_at dksJ5_valueOf_1 7 rfl rfl)
theorem dJ5_valueOf_34 : decode cJ5_valueOf 34 = .ok (.dup, 1) := dk_89 (dk_at dksJ5_valueOf_1 10 rfl rfl)
theorem dJ5_valueOf_35 : decode cJ5_valueOf 35 = .ok (.lload_n 0, 1) := dk_30 (dk_at dksJ5_valueOf_1 11 rfl rfl)
theorem dJ5_valueOf_36 : decode cJ5_valueOf 36 = .ok (.invokespecial 240, 3) := dk_183 0 240 (dk_at dksJ5_valueOf_1 12 rfl rfl)
theorem dJ5_valueOf_39 : decode cJ5_valueOf 39 = .ok (.areturn, 1) := dk_176 (dk_at dksJ5_valueOf_1 15 rfl rfl)
abbrev cJ5_init : ByteArray := prog_14_method_26_code
def yJ5_init : MethodName := ⟨RJ5, "<init>", "(J)V"⟩
def dkwJ5_init_0 : List UInt8 := [42, 183, 1, 14, 42, 31, 181, 1, 17, 177]
abbrev dktJ5_init_0 : List UInt8 := dkwJ5_init_0 ++ []
theorem dksJ5_init_0 : cJ5_init.data.toList.drop 0 = dktJ5_init_0 := by decide +kernel
theorem dJ5_init_0 : decode cJ5_init 0 = .ok (.aload_n 0, 1) := dk_42 (dk_at dksJ5_init_0 0 rfl rfl)
theorem dJ5_init_1 : decode cJ5_init 1 = .ok (.invokespecial 270, 3) := dk_183 1 14 (dk_at dksJ5_init_0 1 rfl rfl)
theorem dJ5_init_4 : decode cJ5_init 4 = .ok (.aload_n 0, 1) := dk_42 (dk_at dksJ5_init_0 4 rfl rfl)
theorem dJ5_init_5 : decode cJ5_init 5 = .ok (.lload_n 1, 1) := dk_31 (dk_at dksJ5_init_0 5 rfl rfl)
theorem dJ5_init_6 : decode cJ5_init 6 = .ok (.putfield 273, 3) := dk_181 1 17 (dk_at dksJ5_init_0 6 rfl rfl)
theorem dJ5_init_9 : decode cJ5_init 9 = .ok (.return_, 1) := dk_177 (dk_at dksJ5_init_0 9 rfl rfl)
abbrev cJ5_longValue : ByteArray := prog_14_method_31_code
def yJ5_longValue : MethodName := ⟨RJ5, "longValue", "()J"⟩
theorem dJ5_longValue_0 : decode cJ5_longValue 0 = .ok (.aload_n 0, 1) := by decide +kernel
theorem dJ5_longValue_1 : decode cJ5_longValue 1 = .ok (.getfield 273, 3) := by decide +kernel
theorem dJ5_longValue_4 : decode cJ5_longValue 4 = .ok (.lreturn, 1) := by decide +kernel
theorem q16 : (Jvm.Cond.initialized "java/lang/Long") ∈ lw_all := lw_g (lw_at lw_m1 9 rfl) rfl
theorem q125 : (Jvm.Cond.static ({ cls := "java/lang/Long", name := "valueOf", desc := "(J)Ljava/lang/Long;" } : Jvm.MethodName)) ∈ lw_all := lw_g (lw_at lw_m1 118 rfl) rfl
theorem q126 : (Jvm.Cond.code ({ cls := "java/lang/Long", name := "valueOf", desc := "(J)Ljava/lang/Long;" } : Jvm.MethodName) prog_14_method_24_code (3 : Nat) (Option.some (Jvm.ClassFile.FieldType.object "java/lang/Long"))) ∈ lw_all := lw_g (lw_at lw_m1 119 rfl) rfl
theorem q127 : (Jvm.Cond.constantLong "java/lang/Long" (230 : Nat) (-128 : Int64)) ∈ lw_all := lw_g (lw_at lw_m1 120 rfl) rfl
theorem q128 : (Jvm.Cond.constantLong "java/lang/Long" (232 : Nat) (127 : Int64)) ∈ lw_all := lw_g (lw_at lw_m1 121 rfl) rfl
theorem q129 : (Jvm.Cond.fieldLink "java/lang/Long" (234 : Nat) "java/lang/Long$LongCache" "cache" "[Ljava/lang/Long;") ∈ lw_all := lw_g (lw_at lw_m1 122 rfl) rfl
theorem q131 : (Jvm.Cond.classLink "java/lang/Long" (1 : Nat) "java/lang/Long") ∈ lw_all := lw_g (lw_at lw_m1 124 rfl) rfl
theorem q132 : (Jvm.Cond.instantiable "java/lang/Long" (1 : Nat)) ∈ lw_all := lw_g (lw_at lw_m1 125 rfl) rfl
theorem q133 : (Jvm.Cond.methodLink "java/lang/Long" (240 : Nat) ({ cls := "java/lang/Long", name := "<init>", desc := "(J)V" } : Jvm.MethodName)) ∈ lw_all := lw_g (lw_at lw_m1 126 rfl) rfl
theorem q134 : (Jvm.Cond.instanceMethod ({ cls := "java/lang/Long", name := "<init>", desc := "(J)V" } : Jvm.MethodName)) ∈ lw_all := lw_g (lw_at lw_m1 127 rfl) rfl
theorem q135 : (Jvm.Cond.code ({ cls := "java/lang/Long", name := "<init>", desc := "(J)V" } : Jvm.MethodName) prog_14_method_26_code (3 : Nat) (Option.none : Option Jvm.ClassFile.FieldType)) ∈ lw_all := lw_g (lw_at lw_m1 128 rfl) rfl
theorem q136 : (Jvm.Cond.methodLink "java/lang/Long" (270 : Nat) ({ cls := "java/lang/Number", name := "<init>", desc := "()V" } : Jvm.MethodName)) ∈ lw_all := lw_g (lw_at lw_m1 129 rfl) rfl
theorem q140 : (Jvm.Cond.fieldLink "java/lang/Long" (273 : Nat) "java/lang/Long" "value" "J") ∈ lw_all := lw_g (lw_at lw_m1 133 rfl) rfl
theorem q141 : (Jvm.Cond.laysFinal "java/lang/Long" "java/lang/Long" "value" "J") ∈ lw_all := lw_g (lw_at lw_m1 134 rfl) rfl
theorem q142 : (Jvm.Cond.soleField "java/lang/Long" "value") ∈ lw_all := lw_g (lw_at lw_m1 135 rfl) rfl
theorem q143 : (Jvm.Cond.superclass "java/lang/Long" "java/lang/Number") ∈ lw_all := lw_g (lw_at lw_m1 136 rfl) rfl
theorem q261 : (Jvm.Cond.instanceMethod ({ cls := "java/lang/Long", name := "longValue", desc := "()J" } : Jvm.MethodName)) ∈ lw_all := lw_g (lw_at lw_m2 14 rfl) rfl
theorem q262 : (Jvm.Cond.selects "java/lang/Long" ({ cls := "java/lang/Long", name := "longValue", desc := "()J" } : Jvm.MethodName) ({ cls := "java/lang/Long", name := "longValue", desc := "()J" } : Jvm.MethodName)) ∈ lw_all := lw_g (lw_at lw_m2 15 rfl) rfl
theorem q263 : (Jvm.Cond.code ({ cls := "java/lang/Long", name := "longValue", desc := "()J" } : Jvm.MethodName) prog_14_method_31_code (1 : Nat) (Option.some Jvm.ClassFile.FieldType.long)) ∈ lw_all := lw_g (lw_at lw_m2 16 rfl) rfl
theorem q334 : (Jvm.Cond.selects "java/lang/Long" ({ cls := "java/lang/Object", name := "getClass", desc := "()Ljava/lang/Class;" } : Jvm.MethodName) ({ cls := "java/lang/Object", name := "getClass", desc := "()Ljava/lang/Class;" } : Jvm.MethodName)) ∈ lw_all := lw_g (lw_at lw_m2 87 rfl) rfl
theorem q588 : (Jvm.Cond.castable "java/lang/Long" "java/lang/Object") ∈ lw_tbl := lw_at lw_m3 101 rfl
theorem in_J5 : ∀ w ∈ wsJ50, w ∈ lw_all := lw_in wsJ50 [141] (by decide +kernel) (by decide +kernel)
/-! java/util/AbstractCollection -/
set_option maxRecDepth 100000
def RJ6 : String := "java/util/AbstractCollection"
abbrev cJ6_init : ByteArray := prog_25_method_1_code
def yJ6_init : MethodName := ⟨RJ6, "<init>", "()V"⟩
theorem dJ6_init_0 : decode cJ6_init 0 = .ok (.aload_n 0, 1) := by decide +kernel
theorem dJ6_init_1 : decode cJ6_init 1 = .ok (.invokespecial 1, 3) := by decide +kernel
theorem dJ6_init_4 : decode cJ6_init 4 = .ok (.return_, 1) := by decide +kernel
theorem q18 : (Jvm.Cond.initialized "java/util/AbstractCollection") ∈ lw_all := lw_g (lw_at lw_m1 11 rfl) rfl
theorem q164 : (Jvm.Cond.instanceMethod ({ cls := "java/util/AbstractCollection", name := "<init>", desc := "()V" } : Jvm.MethodName)) ∈ lw_all := lw_g (lw_at lw_m1 157 rfl) rfl
theorem q165 : (Jvm.Cond.code ({ cls := "java/util/AbstractCollection", name := "<init>", desc := "()V" } : Jvm.MethodName) prog_25_method_1_code (1 : Nat) (Option.none : Option Jvm.ClassFile.FieldType)) ∈ lw_all := lw_g (lw_at lw_m1 158 rfl) rfl
theorem q166 : (Jvm.Cond.methodLink "java/util/AbstractCollection" (1 : Nat) ({ cls := "java/lang/Object", name := "<init>", desc := "()V" } : Jvm.MethodName)) ∈ lw_all := lw_g (lw_at lw_m1 159 rfl) rfl
/-! java/util/AbstractList -/
set_option maxRecDepth 100000
def RJ7 : String := "java/util/AbstractList"
abbrev cJ7_init : ByteArray := prog_26_method_1_code
def yJ7_init : MethodName := ⟨RJ7, "<init>", "()V"⟩
def dkwJ7_init_0 : List UInt8 := [42, 183, 0, 1, 42, 3, 181, 0, 7, 177]
abbrev dktJ7_init_0 : List UInt8 := dkwJ7_init_0 ++ []
theorem dksJ7_init_0 : cJ7_init.data.toList.drop 0 = dktJ7_init_0 := by decide +kernel
theorem dJ7_init_0 : decode cJ7_init 0 = .ok (.aload_n 0, 1) := dk_42 (dk_at dksJ7_init_0 0 rfl rfl)
theorem dJ7_init_1 : decode cJ7_init 1 = .ok (.invokespecial 1, 3) := dk_183 0 1 (dk_at dksJ7_init_0 1 rfl rfl)
theorem dJ7_init_4 : decode cJ7_init 4 = .ok (.aload_n 0, 1) := dk_42 (dk_at dksJ7_init_0 4 rfl rfl)
theorem dJ7_init_5 : decode cJ7_init 5 = .ok (.iconst 0, 1) := dk_3 (dk_at dksJ7_init_0 5 rfl rfl)
theorem dJ7_init_6 : decode cJ7_init 6 = .ok (.putfield 7, 3) := dk_181 0 7 (dk_at dksJ7_init_0 6 rfl rfl)
theorem dJ7_init_9 : decode cJ7_init 9 = .ok (.return_, 1) := dk_177 (dk_at dksJ7_init_0 9 rfl rfl)
theorem q19 : (Jvm.Cond.initialized "java/util/AbstractList") ∈ lw_all := lw_g (lw_at lw_m1 12 rfl) rfl
theorem q161 : (Jvm.Cond.instanceMethod ({ cls := "java/util/AbstractList", name := "<init>", desc := "()V" } : Jvm.MethodName)) ∈ lw_all := lw_g (lw_at lw_m1 154 rfl) rfl
theorem q162 : (Jvm.Cond.code ({ cls := "java/util/AbstractList", name := "<init>", desc := "()V" } : Jvm.MethodName) prog_26_method_1_code (1 : Nat) (Option.none : Option Jvm.ClassFile.FieldType)) ∈ lw_all := lw_g (lw_at lw_m1 155 rfl) rfl
theorem q163 : (Jvm.Cond.methodLink "java/util/AbstractList" (1 : Nat) ({ cls := "java/util/AbstractCollection", name := "<init>", desc := "()V" } : Jvm.MethodName)) ∈ lw_all := lw_g (lw_at lw_m1 156 rfl) rfl
theorem q173 : (Jvm.Cond.fieldLink "java/util/AbstractList" (7 : Nat) "java/util/AbstractList" "modCount" "I") ∈ lw_all := lw_g (lw_at lw_m1 166 rfl) rfl
theorem q182 : (Jvm.Cond.soleField "java/util/AbstractList" "modCount") ∈ lw_all := lw_g (lw_at lw_m1 175 rfl) rfl
/-! java/util/ArrayList -/
set_option maxRecDepth 100000
def RJ8 : String := "java/util/ArrayList"
def TJ8 : u_T := fun k => match k with
  | 0 => ("java/util/AbstractList", "modCount", "I", false)
  | 1 => ("java/util/ArrayList", "elementData", "[Ljava/lang/Object;", false)
  | _ => ("java/util/ArrayList", "size", "I", false)
def tyJ8 : Nat → FieldType := fun k => match k with
  | 0 => .int
  | 1 => .array (.object "java/lang/Object")
  | _ => .int
abbrev wsJ80 : List Cond := u_ws RJ8 TJ8 3
theorem nmJ8 : ∀ a, a < 3 → ∀ b, b < 3 → a ≠ b → (TJ8 a).2.1 ≠ (TJ8 b).2.1 := by decide +kernel
theorem tyJ8_ok : ∀ k, k < 3 → parseFieldDescriptor (TJ8 k).2.2.1 = some (tyJ8 k) := by decide +kernel
abbrev cJ8_init : ByteArray := prog_27_method_2_code
def yJ8_init : MethodName := ⟨RJ8, "<init>", "()V"⟩
def dkwJ8_init_0 : List UInt8 := [42, 183, 0, 1, 42, 178, 0, 39, 181, 0, 9, 177]
abbrev dktJ8_init_0 : List UInt8 := dkwJ8_init_0 ++ []
theorem dksJ8_init_0 : cJ8_init.data.toList.drop 0 = dktJ8_init_0 := by decide +kernel
theorem dJ8_init_0 : decode cJ8_init 0 = .ok (.aload_n 0, 1) := dk_42 (dk_at dksJ8_init_0 0 rfl rfl)
theorem dJ8_init_1 : decode cJ8_init 1 = .ok (.invokespecial 1, 3) := dk_183 0 1 (dk_at dksJ8_init_0 1 rfl rfl)
theorem dJ8_init_4 : decode cJ8_init 4 = .ok (.aload_n 0, 1) := dk_42 (dk_at dksJ8_init_0 4 rfl rfl)
theorem dJ8_init_5 : decode cJ8_init 5 = .ok (.getstatic 39, 3) := dk_178 0 39 (dk_at dksJ8_init_0 5 rfl rfl)
theorem dJ8_init_8 : decode cJ8_init 8 = .ok (.putfield 9, 3) := dk_181 0 9 (dk_at dksJ8_init_0 8 rfl rfl)
theorem dJ8_init_11 : decode cJ8_init 11 = .ok (.return_, 1) := dk_177 (dk_at dksJ8_init_0 11 rfl rfl)
abbrev cJ8_add : ByteArray := prog_27_method_25_code
def yJ8_add : MethodName := ⟨RJ8, "add", "(Ljava/lang/Object;)Z"⟩
def dkwJ8_add_1 : List UInt8 := [172]
abbrev dktJ8_add_1 : List UInt8 := dkwJ8_add_1 ++ []
def dkwJ8_add_0 : List UInt8 := [42, 89, 180, 0, 63, 4, 96, 181, 0, 63, 42, 43, 42, 180, 0, 9, 42, 180, 0, 48, 182, 0, 131, 4]
abbrev dktJ8_add_0 : List UInt8 := dkwJ8_add_0 ++ dktJ8_add_1
theorem dksJ8_add_0 : cJ8_add.data.toList.drop 0 = dktJ8_add_0 := by decide +kernel
theorem dksJ8_add_1 : cJ8_add.data.toList.drop 24 = dktJ8_add_1 := dk_seg dksJ8_add_0 24 rfl rfl
theorem dJ8_add_0 : decode cJ8_add 0 = .ok (.aload_n 0, 1) := dk_42 (dk_at dksJ8_add_0 0 rfl rfl)
theorem dJ8_add_1 : decode cJ8_add 1 = .ok (.dup, 1) := dk_89 (dk_at dksJ8_add_0 1 rfl rfl)
theorem dJ8_add_2 : decode cJ8_add 2 = .ok (.getfield 63, 3) := dk_180 0 63 (dk_at dksJ8_add_0 2 rfl rfl)
theorem dJ8_add_5 : decode cJ8_add 5 = .ok (.iconst 1, 1) := dk_4 (dk_at dksJ8_add_0 5 rfl rfl)
theorem dJ8_add_6 : decode cJ8_add 6 = .ok (.iadd, 1) := dk_96 (dk_at dksJ8_add_0 6 rfl rfl)
theorem dJ8_add_7 : decode cJ8_add 7 = .ok (.putfield 63, 3) := dk_181 0 63 (dk_at dksJ8_add_0 7 rfl rfl)
theorem dJ8_add_10 : decode cJ8_add 10 = .ok (.aload_n 0, 1) := dk_42 (dk_at dksJ8_add_0 10 rfl rfl)
theorem dJ8_add_11 : decode cJ8_add 11 = .ok (.aload_n 1, 1) := dk_43 (dk_at dksJ8_add_0 11 rfl rfl)
theorem dJ8_add_12 : decode cJ8_add 12 = .ok (.aload_n 0, 1) := dk_42 (dk_at dksJ8_add_0 12 rfl rfl)
theorem dJ8_add_13 : decode cJ8_add 13 = .ok (.getfield 9, 3) := dk_180 0 9 (dk_at dksJ8_add_0 13 rfl rfl)
theorem dJ8_add_16 : decode cJ8_add 16 = .ok (.aload_n 0, 1) := dk_42 (dk_at dksJ8_add_0 16 rfl rfl)
theorem dJ8_add_17 : decode cJ8_add 17 = .ok (.getfield 48, 3) := dk_180 0 48 (dk_at dksJ8_add_0 17 rfl rfl)
theorem dJ8_add_20 : decode cJ8_add 20 = .ok (.invokevirtual 131, 3) := dk_182 0 131 (dk_at dksJ8_add_0 20 rfl rfl)
theorem dJ8_add_23 : decode cJ8_add 23 = .ok (.iconst 1, 1) := dk_4 (dk_at dksJ8_add_0 23 rfl rfl)
theorem dJ8_add_24 : decode cJ8_add 24 = .ok (.ireturn, 1) := dk_172 (dk_at dksJ8_add_1 0 rfl rfl)
abbrev cJ8_add_2 : ByteArray := prog_27_method_24_code
def yJ8_add_2 : MethodName := ⟨RJ8, "add", "(Ljava/lang/Object;[Ljava/lang/Object;I)V"⟩
def dkwJ8_add_2_0 : List UInt8 := [29, 44, 190, 160, 0, 8, 42, 182, 0, 129, 77, 44, 29, 43, 83, 42, 29, 4, 96, 181, 0, 48, 177]
abbrev dktJ8_add_2_0 : List UInt8 := dkwJ8_add_2_0 ++ []
theorem dksJ8_add_2_0 : cJ8_add_2.data.toList.drop 0 = dktJ8_add_2_0 := by decide +kernel
theorem dJ8_add_2_0 : decode cJ8_add_2 0 = .ok (.iload_n 3, 1) := dk_29 (dk_at dksJ8_add_2_0 0 rfl rfl)
theorem dJ8_add_2_1 : decode cJ8_add_2 1 = .ok (.aload_n 2, 1) := dk_44 (dk_at dksJ8_add_2_0 1 rfl rfl)
theorem dJ8_add_2_2 : decode cJ8_add_2 2 = .ok (.arraylength, 1) := dk_190 (dk_at dksJ8_add_2_0 2 rfl rfl)
theorem dJ8_add_2_3 : decode cJ8_add_2 3 = .ok (.if_icmp .ne 8, 3) := dk_160 0 8 (dk_at dksJ8_add_2_0 3 rfl rfl)
theorem dJ8_add_2_6 : decode cJ8_add_2 6 = .ok (.aload_n 0, 1) := dk_42 (dk_at dksJ8_add_2_0 6 rfl rfl)
theorem dJ8_add_2_7 : decode cJ8_add_2 7 = .ok (.invokevirtual 129, 3) := dk_182 0 129 (dk_at dksJ8_add_2_0 7 rfl rfl)
theorem dJ8_add_2_10 : decode cJ8_add_2 10 = .ok (.astore_n 2, 1) := dk_77 (dk_at dksJ8_add_2_0 10 rfl rfl)
theorem dJ8_add_2_11 : decode cJ8_add_2 11 = .ok (.aload_n 2, 1) := dk_44 (dk_at dksJ8_add_2_0 11 rfl rfl)
theorem dJ8_add_2_12 : decode cJ8_add_2 12 = .ok (.iload_n 3, 1) := dk_29 (dk_at dksJ8_add_2_0 12 rfl rfl)
theorem dJ8_add_2_13 : decode cJ8_add_2 13 = .ok (.aload_n 1, 1) := dk_43 (dk_at dksJ8_add_2_0 13 rfl rfl)
theorem dJ8_add_2_14 : decode cJ8_add_2 14 = .ok (.aastore, 1) := dk_83 (dk_at dksJ8_add_2_0 14 rfl rfl)
theorem dJ8_add_2_15 : decode cJ8_add_2 15 = .ok (.aload_n 0, 1) := dk_42 (dk_at dksJ8_add_2_0 15 rfl rfl)
theorem dJ8_add_2_16 : decode cJ8_add_2 16 = .ok (.iload_n 3, 1) := dk_29 (dk_at dksJ8_add_2_0 16 rfl rfl)
theorem dJ8_add_2_17 : decode cJ8_add_2 17 = .ok (.iconst 1, 1) := dk_4 (dk_at dksJ8_add_2_0 17 rfl rfl)
theorem dJ8_add_2_18 : decode cJ8_add_2 18 = .ok (.iadd, 1) := dk_96 (dk_at dksJ8_add_2_0 18 rfl rfl)
theorem dJ8_add_2_19 : decode cJ8_add_2 19 = .ok (.putfield 48, 3) := dk_181 0 48 (dk_at dksJ8_add_2_0 19 rfl rfl)
theorem dJ8_add_2_22 : decode cJ8_add_2 22 = .ok (.return_, 1) := dk_177 (dk_at dksJ8_add_2_0 22 rfl rfl)
abbrev cJ8_grow : ByteArray := prog_27_method_7_code
def yJ8_grow : MethodName := ⟨RJ8, "grow", "()[Ljava/lang/Object;"⟩
def dkwJ8_grow_0 : List UInt8 := [42, 42, 180, 0, 48, 4, 96, 182, 0, 69, 176]
abbrev dktJ8_grow_0 : List UInt8 := dkwJ8_grow_0 ++ []
theorem dksJ8_grow_0 : cJ8_grow.data.toList.drop 0 = dktJ8_grow_0 := by decide +kernel
theorem dJ8_grow_0 : decode cJ8_grow 0 = .ok (.aload_n 0, 1) := dk_42 (dk_at dksJ8_grow_0 0 rfl rfl)
theorem dJ8_grow_1 : decode cJ8_grow 1 = .ok (.aload_n 0, 1) := dk_42 (dk_at dksJ8_grow_0 1 rfl rfl)
theorem dJ8_grow_2 : decode cJ8_grow 2 = .ok (.getfield 48, 3) := dk_180 0 48 (dk_at dksJ8_grow_0 2 rfl rfl)
theorem dJ8_grow_5 : decode cJ8_grow 5 = .ok (.iconst 1, 1) := dk_4 (dk_at dksJ8_grow_0 5 rfl rfl)
theorem dJ8_grow_6 : decode cJ8_grow 6 = .ok (.iadd, 1) := dk_96 (dk_at dksJ8_grow_0 6 rfl rfl)
theorem dJ8_grow_7 : decode cJ8_grow 7 = .ok (.invokevirtual 69, 3) := dk_182 0 69 (dk_at dksJ8_grow_0 7 rfl rfl)
theorem dJ8_grow_10 : decode cJ8_grow 10 = .ok (.areturn, 1) := dk_176 (dk_at dksJ8_grow_0 10 rfl rfl)
abbrev cJ8_grow_2 : ByteArray := prog_27_method_6_code
def yJ8_grow_2 : MethodName := ⟨RJ8, "grow", "(I)[Ljava/lang/Object;"⟩
def dkwJ8_grow_2_2 : List UInt8 := [27, 184, 0, 79, 189, 0, 7, 90, 181, 0, 9, 176]
abbrev dktJ8_grow_2_2 : List UInt8 := dkwJ8_grow_2_2 ++ []
def dkwJ8_grow_2_1 : List UInt8 := [28, 4, 122, 184, 0, 73, 62, 42, 42, 180, 0, 9, 29, 184, 0, 66, 90, 181, 0, 9, 176, 42, 16, 10]
abbrev dktJ8_grow_2_1 : List UInt8 := dkwJ8_grow_2_1 ++ dktJ8_grow_2_2
def dkwJ8_grow_2_0 : List UInt8 := [42, 180, 0, 9, 190, 61, 28, 157, 0, 13, 42, 180, 0, 9, 178, 0, 39, 165, 0, 28, 28, 27, 28, 100]
abbrev dktJ8_grow_2_0 : List UInt8 := dkwJ8_grow_2_0 ++ dktJ8_grow_2_1
theorem dksJ8_grow_2_0 : cJ8_grow_2.data.toList.drop 0 = dktJ8_grow_2_0 := by decide +kernel
theorem dksJ8_grow_2_1 : cJ8_grow_2.data.toList.drop 24 = dktJ8_grow_2_1 := dk_seg dksJ8_grow_2_0 24 rfl rfl
theorem dksJ8_grow_2_2 : cJ8_grow_2.data.toList.drop 48 = dktJ8_grow_2_2 := dk_seg dksJ8_grow_2_1 24 rfl rfl
theorem dJ8_grow_2_0 : decode cJ8_grow_2 0 = .ok (.aload_n 0, 1) := dk_42 (dk_at dksJ8_grow_2_0 0 rfl rfl)
theorem dJ8_grow_2_1 : decode cJ8_grow_2 1 = .ok (.getfield 9, 3) := dk_180 0 9 (dk_at dksJ8_grow_2_0 1 rfl rfl)
theorem dJ8_grow_2_4 : decode cJ8_grow_2 4 = .ok (.arraylength, 1) := dk_190 (dk_at dksJ8_grow_2_0 4 rfl rfl)
theorem dJ8_grow_2_5 : decode cJ8_grow_2 5 = .ok (.istore_n 2, 1) := dk_61 (dk_at dksJ8_grow_2_0 5 rfl rfl)
theorem dJ8_grow_2_6 : decode cJ8_grow_2 6 = .ok (.iload_n 2, 1) := dk_28 (dk_at dksJ8_grow_2_0 6 rfl rfl)
theorem dJ8_grow_2_7 : decode cJ8_grow_2 7 = .ok (.ifCond .gt 13, 3) := dk_157 0 13 (dk_at dksJ8_grow_2_0 7 rfl rfl)
theorem dJ8_grow_2_10 : decode cJ8_grow_2 10 = .ok (.aload_n 0, 1) := dk_42 (dk_at dksJ8_grow_2_0 10 rfl rfl)
theorem dJ8_grow_2_11 : decode cJ8_grow_2 11 = .ok (.getfield 9, 3) := dk_180 0 9 (dk_at dksJ8_grow_2_0 11 rfl rfl)
theorem dJ8_grow_2_14 : decode cJ8_grow_2 14 = .ok (.getstatic 39, 3) := dk_178 0 39 (dk_at dksJ8_grow_2_0 14 rfl rfl)
theorem dJ8_grow_2_17 : decode cJ8_grow_2 17 = .ok (.if_acmp .eq 28, 3) := dk_165 0 28 (dk_at dksJ8_grow_2_0 17 rfl rfl)
theorem dJ8_grow_2_20 : decode cJ8_grow_2 20 = .ok (.iload_n 2, 1) := dk_28 (dk_at dksJ8_grow_2_0 20 rfl rfl)
theorem dJ8_grow_2_21 : decode cJ8_grow_2 21 = .ok (.iload_n 1, 1) := dk_27 (dk_at dksJ8_grow_2_0 21 rfl rfl)
theorem dJ8_grow_2_22 : decode cJ8_grow_2 22 = .ok (.iload_n 2, 1) := dk_28 (dk_at dksJ8_grow_2_0 22 rfl rfl)
theorem dJ8_grow_2_23 : decode cJ8_grow_2 23 = .ok (.isub, 1) := dk_100 (dk_at dksJ8_grow_2_0 23 rfl rfl)
theorem dJ8_grow_2_24 : decode cJ8_grow_2 24 = .ok (.iload_n 2, 1) := dk_28 (dk_at dksJ8_grow_2_1 0 rfl rfl)
theorem dJ8_grow_2_25 : decode cJ8_grow_2 25 = .ok (.iconst 1, 1) := dk_4 (dk_at dksJ8_grow_2_1 1 rfl rfl)
theorem dJ8_grow_2_26 : decode cJ8_grow_2 26 = .ok (.ishr, 1) := dk_122 (dk_at dksJ8_grow_2_1 2 rfl rfl)
theorem dJ8_grow_2_27 : decode cJ8_grow_2 27 = .ok (.invokestatic 73, 3) := dk_184 0 73 (dk_at dksJ8_grow_2_1 3 rfl rfl)
theorem dJ8_grow_2_30 : decode cJ8_grow_2 30 = .ok (.istore_n 3, 1) := dk_62 (dk_at dksJ8_grow_2_1 6 rfl rfl)
theorem dJ8_grow_2_31 : decode cJ8_grow_2 31 = .ok (.aload_n 0, 1) := dk_42 (dk_at dksJ8_grow_2_1 7 rfl rfl)
theorem dJ8_grow_2_32 : decode cJ8_grow_2 32 = .ok (.aload_n 0, 1) := dk_42 (dk_at dksJ8_grow_2_1 8 rfl rfl)
theorem dJ8_grow_2_33 : decode cJ8_grow_2 33 = .ok (.getfield 9, 3) := dk_180 0 9 (dk_at dksJ8_grow_2_1 9 rfl rfl)
theorem dJ8_grow_2_36 : decode cJ8_grow_2 36 = .ok (.iload_n 3, 1) := dk_29 (dk_at dksJ8_grow_2_1 12 rfl rfl)
theorem dJ8_grow_2_37 : decode cJ8_grow_2 37 = .ok (.invokestatic 66, 3) := dk_184 0 66 (dk_at dksJ8_grow_2_1 13 rfl rfl)
theorem dJ8_grow_2_40 : decode cJ8_grow_2 40 = .ok (.dup_x1, 1) := dk_90 (dk_at dksJ8_grow_2_1 16 rfl rfl)
theorem dJ8_grow_2_41 : decode cJ8_grow_2 41 = .ok (.putfield 9, 3) := dk_181 0 9 (dk_at dksJ8_grow_2_1 17 rfl rfl)
theorem dJ8_grow_2_44 : decode cJ8_grow_2 44 = .ok (.areturn, 1) := dk_176 (dk_at dksJ8_grow_2_1 20 rfl rfl)
theorem dJ8_grow_2_45 : decode cJ8_grow_2 45 = .ok (.aload_n 0, 1) := dk_42 (dk_at dksJ8_grow_2_1 21 rfl rfl)
theorem dJ8_grow_2_46 : decode cJ8_grow_2 46 = .ok (.bipush 10, 2) := dk_16 10 (dk_at dksJ8_grow_2_1 22 rfl rfl)
theorem dJ8_grow_2_48 : decode cJ8_grow_2 48 = .ok (.iload_n 1, 1) := dk_27 (dk_at dksJ8_grow_2_2 0 rfl rfl)
theorem dJ8_grow_2_49 : decode cJ8_grow_2 49 = .ok (.invokestatic 79, 3) := dk_184 0 79 (dk_at dksJ8_grow_2_2 1 rfl rfl)
theorem dJ8_grow_2_52 : decode cJ8_grow_2 52 = .ok (.anewarray 7, 3) := dk_189 0 7 (dk_at dksJ8_grow_2_2 4 rfl rfl)
theorem dJ8_grow_2_55 : decode cJ8_grow_2 55 = .ok (.dup_x1, 1) := dk_90 (dk_at dksJ8_grow_2_2 7 rfl rfl)
theorem dJ8_grow_2_56 : decode cJ8_grow_2 56 = .ok (.putfield 9, 3) := dk_181 0 9 (dk_at dksJ8_grow_2_2 8 rfl rfl)
theorem dJ8_grow_2_59 : decode cJ8_grow_2 59 = .ok (.areturn, 1) := dk_176 (dk_at dksJ8_grow_2_2 11 rfl rfl)
abbrev cJ8_size : ByteArray := prog_27_method_8_code
def yJ8_size : MethodName := ⟨RJ8, "size", "()I"⟩
theorem dJ8_size_0 : decode cJ8_size 0 = .ok (.aload_n 0, 1) := by decide +kernel
theorem dJ8_size_1 : decode cJ8_size 1 = .ok (.getfield 48, 3) := by decide +kernel
theorem dJ8_size_4 : decode cJ8_size 4 = .ok (.ireturn, 1) := by decide +kernel
abbrev cJ8_remove : ByteArray := prog_27_method_29_code
def yJ8_remove : MethodName := ⟨RJ8, "remove", "(I)Ljava/lang/Object;"⟩
def dkwJ8_remove_1 : List UInt8 := [45, 176]
abbrev dktJ8_remove_1 : List UInt8 := dkwJ8_remove_1 ++ []
def dkwJ8_remove_0 : List UInt8 := [27, 42, 180, 0, 48, 184, 0, 118, 87, 42, 180, 0, 9, 77, 44, 27, 50, 78, 42, 44, 27, 182, 0, 144]
abbrev dktJ8_remove_0 : List UInt8 := dkwJ8_remove_0 ++ dktJ8_remove_1
theorem dksJ8_remove_0 : cJ8_remove.data.toList.drop 0 = dktJ8_remove_0 := by decide +kernel
theorem dksJ8_remove_1 : cJ8_remove.data.toList.drop 24 = dktJ8_remove_1 := dk_seg dksJ8_remove_0 24 rfl rfl
theorem dJ8_remove_0 : decode cJ8_remove 0 = .ok (.iload_n 1, 1) := dk_27 (dk_at dksJ8_remove_0 0 rfl rfl)
theorem dJ8_remove_1 : decode cJ8_remove 1 = .ok (.aload_n 0, 1) := dk_42 (dk_at dksJ8_remove_0 1 rfl rfl)
theorem dJ8_remove_2 : decode cJ8_remove 2 = .ok (.getfield 48, 3) := dk_180 0 48 (dk_at dksJ8_remove_0 2 rfl rfl)
theorem dJ8_remove_5 : decode cJ8_remove 5 = .ok (.invokestatic 118, 3) := dk_184 0 118 (dk_at dksJ8_remove_0 5 rfl rfl)
theorem dJ8_remove_8 : decode cJ8_remove 8 = .ok (.pop, 1) := dk_87 (dk_at dksJ8_remove_0 8 rfl rfl)
theorem dJ8_remove_9 : decode cJ8_remove 9 = .ok (.aload_n 0, 1) := dk_42 (dk_at dksJ8_remove_0 9 rfl rfl)
theorem dJ8_remove_10 : decode cJ8_remove 10 = .ok (.getfield 9, 3) := dk_180 0 9 (dk_at dksJ8_remove_0 10 rfl rfl)
theorem dJ8_remove_13 : decode cJ8_remove 13 = .ok (.astore_n 2, 1) := dk_77 (dk_at dksJ8_remove_0 13 rfl rfl)
theorem dJ8_remove_14 : decode cJ8_remove 14 = .ok (.aload_n 2, 1) := dk_44 (dk_at dksJ8_remove_0 14 rfl rfl)
theorem dJ8_remove_15 : decode cJ8_remove 15 = .ok (.iload_n 1, 1) := dk_27 (dk_at dksJ8_remove_0 15 rfl rfl)
theorem dJ8_remove_16 : decode cJ8_remove 16 = .ok (.aaload, 1) := dk_50 (dk_at dksJ8_remove_0 16 rfl rfl)
theorem dJ8_remove_17 : decode cJ8_remove 17 = .ok (.astore_n 3, 1) := dk_78 (dk_at dksJ8_remove_0 17 rfl rfl)
theorem dJ8_remove_18 : decode cJ8_remove 18 = .ok (.aload_n 0, 1) := dk_42 (dk_at dksJ8_remove_0 18 rfl rfl)
theorem dJ8_remove_19 : decode cJ8_remove 19 = .ok (.aload_n 2, 1) := dk_44 (dk_at dksJ8_remove_0 19 rfl rfl)
theorem dJ8_remove_20 : decode cJ8_remove 20 = .ok (.iload_n 1, 1) := dk_27 (dk_at dksJ8_remove_0 20 rfl rfl)
theorem dJ8_remove_21 : decode cJ8_remove 21 = .ok (.invokevirtual 144, 3) := dk_182 0 144 (dk_at dksJ8_remove_0 21 rfl rfl)
theorem dJ8_remove_24 : decode cJ8_remove 24 = .ok (.aload_n 3, 1) := dk_45 (dk_at dksJ8_remove_1 0 rfl rfl)
theorem dJ8_remove_25 : decode cJ8_remove 25 = .ok (.areturn, 1) := dk_176 (dk_at dksJ8_remove_1 1 rfl rfl)
abbrev cJ8_fastRemove : ByteArray := prog_27_method_39_code
def yJ8_fastRemove : MethodName := ⟨RJ8, "fastRemove", "([Ljava/lang/Object;I)V"⟩
def dkwJ8_fastRemove_1 : List UInt8 := [4, 96, 43, 28, 29, 28, 100, 184, 0, 112, 43, 42, 29, 90, 181, 0, 48, 1, 83, 177]
abbrev dktJ8_fastRemove_1 : List UInt8 := dkwJ8_fastRemove_1 ++ []
def dkwJ8_fastRemove_0 : List UInt8 := [42, 89, 180, 0, 63, 4, 96, 181, 0, 63, 42, 180, 0, 48, 4, 100, 89, 62, 28, 164, 0, 15, 43, 28]
abbrev dktJ8_fastRemove_0 : List UInt8 := dkwJ8_fastRemove_0 ++ dktJ8_fastRemove_1
theorem dksJ8_fastRemove_0 : cJ8_fastRemove.data.toList.drop 0 = dktJ8_fastRemove_0 := by decide +kernel
theorem dksJ8_fastRemove_1 : cJ8_fastRemove.data.toList.drop 24 = dktJ8_fastRemove_1 := dk_seg dksJ8_fastRemove_0 24 rfl rfl
theorem dJ8_fastRemove_0 : decode cJ8_fastRemove 0 = .ok (.aload_n 0, 1) := dk_42 (dk_at dksJ8_fastRemove_0 0 rfl rfl)
theorem dJ8_fastRemove_1 : decode cJ8_fastRemove 1 = .ok (.dup, 1) := dk_89 (dk_at dksJ8_fastRemove_0 1 rfl rfl)
theorem dJ8_fastRemove_2 : decode cJ8_fastRemove 2 = .ok (.getfield 63, 3) := dk_180 0 63 (dk_at dksJ8_fastRemove_0 2 rfl rfl)
theorem dJ8_fastRemove_5 : decode cJ8_fastRemove 5 = .ok (.iconst 1, 1) := dk_4 (dk_at dksJ8_fastRemove_0 5 rfl rfl)
theorem dJ8_fastRemove_6 : decode cJ8_fastRemove 6 = .ok (.iadd, 1) := dk_96 (dk_at dksJ8_fastRemove_0 6 rfl rfl)
theorem dJ8_fastRemove_7 : decode cJ8_fastRemove 7 = .ok (.putfield 63, 3) := dk_181 0 63 (dk_at dksJ8_fastRemove_0 7 rfl rfl)
theorem dJ8_fastRemove_10 : decode cJ8_fastRemove 10 = .ok (.aload_n 0, 1) := dk_42 (dk_at dksJ8_fastRemove_0 10 rfl rfl)
theorem dJ8_fastRemove_11 : decode cJ8_fastRemove 11 = .ok (.getfield 48, 3) := dk_180 0 48 (dk_at dksJ8_fastRemove_0 11 rfl rfl)
theorem dJ8_fastRemove_14 : decode cJ8_fastRemove 14 = .ok (.iconst 1, 1) := dk_4 (dk_at dksJ8_fastRemove_0 14 rfl rfl)
theorem dJ8_fastRemove_15 : decode cJ8_fastRemove 15 = .ok (.isub, 1) := dk_100 (dk_at dksJ8_fastRemove_0 15 rfl rfl)
theorem dJ8_fastRemove_16 : decode cJ8_fastRemove 16 = .ok (.dup, 1) := dk_89 (dk_at dksJ8_fastRemove_0 16 rfl rfl)
theorem dJ8_fastRemove_17 : decode cJ8_fastRemove 17 = .ok (.istore_n 3, 1) := dk_62 (dk_at dksJ8_fastRemove_0 17 rfl rfl)
theorem dJ8_fastRemove_18 : decode cJ8_fastRemove 18 = .ok (.iload_n 2, 1) := dk_28 (dk_at dksJ8_fastRemove_0 18 rfl rfl)
theorem dJ8_fastRemove_19 : decode cJ8_fastRemove 19 = .ok (.if_icmp .le 15, 3) := dk_164 0 15 (dk_at dksJ8_fastRemove_0 19 rfl rfl)
theorem dJ8_fastRemove_22 : decode cJ8_fastRemove 22 = .ok (.aload_n 1, 1) := dk_43 (dk_at dksJ8_fastRemove_0 22 rfl rfl)
theorem dJ8_fastRemove_23 : decode cJ8_fastRemove 23 = .ok (.iload_n 2, 1) := dk_28 (dk_at dksJ8_fastRemove_0 23 rfl rfl)
theorem dJ8_fastRemove_24 : decode cJ8_fastRemove 24 = .ok (.iconst 1, 1) := dk_4 (dk_at dksJ8_fastRemove_1 0 rfl rfl)
theorem dJ8_fastRemove_25 : decode cJ8_fastRemove 25 = .ok (.iadd, 1) := dk_96 (dk_at dksJ8_fastRemove_1 1 rfl rfl)
theorem dJ8_fastRemove_26 : decode cJ8_fastRemove 26 = .ok (.aload_n 1, 1) := dk_43 (dk_at dksJ8_fastRemove_1 2 rfl rfl)
theorem dJ8_fastRemove_27 : decode cJ8_fastRemove 27 = .ok (.iload_n 2, 1) := dk_28 (dk_at dksJ8_fastRemove_1 3 rfl rfl)
theorem dJ8_fastRemove_28 : decode cJ8_fastRemove 28 = .ok (.iload_n 3, 1) := dk_29 (dk_at dksJ8_fastRemove_1 4 rfl rfl)
theorem dJ8_fastRemove_29 : decode cJ8_fastRemove 29 = .ok (.iload_n 2, 1) := dk_28 (dk_at dksJ8_fastRemove_1 5 rfl rfl)
theorem dJ8_fastRemove_30 : decode cJ8_fastRemove 30 = .ok (.isub, 1) := dk_100 (dk_at dksJ8_fastRemove_1 6 rfl rfl)
theorem dJ8_fastRemove_31 : decode cJ8_fastRemove 31 = .ok (.invokestatic 112, 3) := dk_184 0 112 (dk_at dksJ8_fastRemove_1 7 rfl rfl)
theorem dJ8_fastRemove_34 : decode cJ8_fastRemove 34 = .ok (.aload_n 1, 1) := dk_43 (dk_at dksJ8_fastRemove_1 10 rfl rfl)
theorem dJ8_fastRemove_35 : decode cJ8_fastRemove 35 = .ok (.aload_n 0, 1) := dk_42 (dk_at dksJ8_fastRemove_1 11 rfl rfl)
theorem dJ8_fastRemove_36 : decode cJ8_fastRemove 36 = .ok (.iload_n 3, 1) := dk_29 (dk_at dksJ8_fastRemove_1 12 rfl rfl)
theorem dJ8_fastRemove_37 : decode cJ8_fastRemove 37 = .ok (.dup_x1, 1) := dk_90 (dk_at dksJ8_fastRemove_1 13 rfl rfl)
theorem dJ8_fastRemove_38 : decode cJ8_fastRemove 38 = .ok (.putfield 48, 3) := dk_181 0 48 (dk_at dksJ8_fastRemove_1 14 rfl rfl)
theorem dJ8_fastRemove_41 : decode cJ8_fastRemove 41 = .ok (.aconst_null, 1) := dk_1 (dk_at dksJ8_fastRemove_1 17 rfl rfl)
theorem dJ8_fastRemove_42 : decode cJ8_fastRemove 42 = .ok (.aastore, 1) := dk_83 (dk_at dksJ8_fastRemove_1 18 rfl rfl)
theorem dJ8_fastRemove_43 : decode cJ8_fastRemove 43 = .ok (.return_, 1) := dk_177 (dk_at dksJ8_fastRemove_1 19 rfl rfl)
abbrev cJ8_isEmpty : ByteArray := prog_27_method_9_code
def yJ8_isEmpty : MethodName := ⟨RJ8, "isEmpty", "()Z"⟩
def dkwJ8_isEmpty_0 : List UInt8 := [42, 180, 0, 48, 154, 0, 7, 4, 167, 0, 4, 3, 172]
abbrev dktJ8_isEmpty_0 : List UInt8 := dkwJ8_isEmpty_0 ++ []
theorem dksJ8_isEmpty_0 : cJ8_isEmpty.data.toList.drop 0 = dktJ8_isEmpty_0 := by decide +kernel
theorem dJ8_isEmpty_0 : decode cJ8_isEmpty 0 = .ok (.aload_n 0, 1) := dk_42 (dk_at dksJ8_isEmpty_0 0 rfl rfl)
theorem dJ8_isEmpty_1 : decode cJ8_isEmpty 1 = .ok (.getfield 48, 3) := dk_180 0 48 (dk_at dksJ8_isEmpty_0 1 rfl rfl)
theorem dJ8_isEmpty_4 : decode cJ8_isEmpty 4 = .ok (.ifCond .ne 7, 3) := dk_154 0 7 (dk_at dksJ8_isEmpty_0 4 rfl rfl)
theorem dJ8_isEmpty_7 : decode cJ8_isEmpty 7 = .ok (.iconst 1, 1) := dk_4 (dk_at dksJ8_isEmpty_0 7 rfl rfl)
theorem dJ8_isEmpty_8 : decode cJ8_isEmpty 8 = .ok (.goto 4, 3) := dk_167 0 4 (dk_at dksJ8_isEmpty_0 8 rfl rfl)
theorem dJ8_isEmpty_11 : decode cJ8_isEmpty 11 = .ok (.iconst 0, 1) := dk_3 (dk_at dksJ8_isEmpty_0 11 rfl rfl)
theorem dJ8_isEmpty_12 : decode cJ8_isEmpty 12 = .ok (.ireturn, 1) := dk_172 (dk_at dksJ8_isEmpty_0 12 rfl rfl)
abbrev cJ8_iterator : ByteArray := prog_27_method_55_code
def yJ8_iterator : MethodName := ⟨RJ8, "iterator", "()Ljava/util/Iterator;"⟩
def dkwJ8_iterator_0 : List UInt8 := [187, 1, 11, 89, 42, 183, 1, 13, 176]
abbrev dktJ8_iterator_0 : List UInt8 := dkwJ8_iterator_0 ++ []
theorem dksJ8_iterator_0 : cJ8_iterator.data.toList.drop 0 = dktJ8_iterator_0 := by decide +kernel
theorem dJ8_iterator_0 : decode cJ8_iterator 0 = .ok (.new 267, 3) := dk_187 1 11 (dk_at dksJ8_iterator_0 0 rfl rfl)
theorem dJ8_iterator_3 : decode cJ8_iterator 3 = .ok (.dup, 1) := dk_89 (dk_at dksJ8_iterator_0 3 rfl rfl)
theorem dJ8_iterator_4 : decode cJ8_iterator 4 = .ok (.aload_n 0, 1) := dk_42 (dk_at dksJ8_iterator_0 4 rfl rfl)
theorem dJ8_iterator_5 : decode cJ8_iterator 5 = .ok (.invokespecial 269, 3) := dk_183 1 13 (dk_at dksJ8_iterator_0 5 rfl rfl)
theorem dJ8_iterator_8 : decode cJ8_iterator 8 = .ok (.areturn, 1) := dk_176 (dk_at dksJ8_iterator_0 8 rfl rfl)
abbrev cJ8_clear : ByteArray := prog_27_method_40_code
def yJ8_clear : MethodName := ⟨RJ8, "clear", "()V"⟩
def dkwJ8_clear_1 : List UInt8 := [181, 0, 48, 62, 29, 28, 162, 0, 13, 43, 29, 1, 83, 132, 3, 1, 167, 255, 244, 177]
abbrev dktJ8_clear_1 : List UInt8 := dkwJ8_clear_1 ++ []
def dkwJ8_clear_0 : List UInt8 := [42, 89, 180, 0, 63, 4, 96, 181, 0, 63, 42, 180, 0, 9, 76, 42, 180, 0, 48, 61, 42, 3, 90]
abbrev dktJ8_clear_0 : List UInt8 := dkwJ8_clear_0 ++ dktJ8_clear_1
theorem dksJ8_clear_0 : cJ8_clear.data.toList.drop 0 = dktJ8_clear_0 := by decide +kernel
theorem dksJ8_clear_1 : cJ8_clear.data.toList.drop 23 = dktJ8_clear_1 := dk_seg dksJ8_clear_0 23 rfl rfl
theorem dJ8_clear_0 : decode cJ8_clear 0 = .ok (.aload_n 0, 1) := dk_42 (dk_at dksJ8_clear_0 0 rfl rfl)
theorem dJ8_clear_1 : decode cJ8_clear 1 = .ok (.dup, 1) := dk_89 (dk_at dksJ8_clear_0 1 rfl rfl)
theorem dJ8_clear_2 : decode cJ8_clear 2 = .ok (.getfield 63, 3) := dk_180 0 63 (dk_at dksJ8_clear_0 2 rfl rfl)
theorem dJ8_clear_5 : decode cJ8_clear 5 = .ok (.iconst 1, 1) := dk_4 (dk_at dksJ8_clear_0 5 rfl rfl)
theorem dJ8_clear_6 : decode cJ8_clear 6 = .ok (.iadd, 1) := dk_96 (dk_at dksJ8_clear_0 6 rfl rfl)
theorem dJ8_clear_7 : decode cJ8_clear 7 = .ok (.putfield 63, 3) := dk_181 0 63 (dk_at dksJ8_clear_0 7 rfl rfl)
theorem dJ8_clear_10 : decode cJ8_clear 10 = .ok (.aload_n 0, 1) := dk_42 (dk_at dksJ8_clear_0 10 rfl rfl)
theorem dJ8_clear_11 : decode cJ8_clear 11 = .ok (.getfield 9, 3) := dk_180 0 9 (dk_at dksJ8_clear_0 11 rfl rfl)
theorem dJ8_clear_14 : decode cJ8_clear 14 = .ok (.astore_n 1, 1) := dk_76 (dk_at dksJ8_clear_0 14 rfl rfl)
theorem dJ8_clear_15 : decode cJ8_clear 15 = .ok (.aload_n 0, 1) := dk_42 (dk_at dksJ8_clear_0 15 rfl rfl)
theorem dJ8_clear_16 : decode cJ8_clear 16 = .ok (.getfield 48, 3) := dk_180 0 48 (dk_at dksJ8_clear_0 16 rfl rfl)
theorem dJ8_clear_19 : decode cJ8_clear 19 = .ok (.istore_n 2, 1) := dk_61 (dk_at dksJ8_clear_0 19 rfl rfl)
theorem dJ8_clear_20 : decode cJ8_clear 20 = .ok (.aload_n 0, 1) := dk_42 (dk_at dksJ8_clear_0 20 rfl rfl)
theorem dJ8_clear_21 : decode cJ8_clear 21 = .ok (.iconst 0, 1) := dk_3 (dk_at dksJ8_clear_0 21 rfl rfl)
theorem dJ8_clear_22 : decode cJ8_clear 22 = .ok (.dup_x1, 1) := dk_90 (dk_at dksJ8_clear_0 22 rfl rfl)
theorem dJ8_clear_23 : decode cJ8_clear 23 = .ok (.putfield 48, 3) := dk_181 0 48 (dk_at dksJ8_clear_1 0 rfl rfl)
theorem dJ8_clear_26 : decode cJ8_clear 26 = .ok (.istore_n 3, 1) := dk_62 (dk_at dksJ8_clear_1 3 rfl rfl)
theorem dJ8_clear_27 : decode cJ8_clear 27 = .ok (.iload_n 3, 1) := dk_29 (dk_at dksJ8_clear_1 4 rfl rfl)
theorem dJ8_clear_28 : decode cJ8_clear 28 = .ok (.iload_n 2, 1) := dk_28 (dk_at dksJ8_clear_1 5 rfl rfl)
theorem dJ8_clear_29 : decode cJ8_clear 29 = .ok (.if_icmp .ge 13, 3) := dk_162 0 13 (dk_at dksJ8_clear_1 6 rfl rfl)
theorem dJ8_clear_32 : decode cJ8_clear 32 = .ok (.aload_n 1, 1) := dk_43 (dk_at dksJ8_clear_1 9 rfl rfl)
theorem dJ8_clear_33 : decode cJ8_clear 33 = .ok (.iload_n 3, 1) := dk_29 (dk_at dksJ8_clear_1 10 rfl rfl)
theorem dJ8_clear_34 : decode cJ8_clear 34 = .ok (.aconst_null, 1) := dk_1 (dk_at dksJ8_clear_1 11 rfl rfl)
theorem dJ8_clear_35 : decode cJ8_clear 35 = .ok (.aastore, 1) := dk_83 (dk_at dksJ8_clear_1 12 rfl rfl)
theorem dJ8_clear_36 : decode cJ8_clear 36 = .ok (.iinc 3 1, 3) := dk_132 3 1 (dk_at dksJ8_clear_1 13 rfl rfl)
theorem dJ8_clear_39 : decode cJ8_clear 39 = .ok (.goto (-12), 3) := dk_167 255 244 (dk_at dksJ8_clear_1 16 rfl rfl)
theorem dJ8_clear_42 : decode cJ8_clear 42 = .ok (.return_, 1) := dk_177 (dk_at dksJ8_clear_1 19 rfl rfl)
theorem q20 : (Jvm.Cond.initialized "java/util/ArrayList") ∈ lw_all := lw_g (lw_at lw_m1 13 rfl) rfl
theorem q156 : (Jvm.Cond.instantiable "java/util/ArrayList" (3 : Nat)) ∈ lw_all := lw_g (lw_at lw_m1 149 rfl) rfl
theorem q158 : (Jvm.Cond.instanceMethod ({ cls := "java/util/ArrayList", name := "<init>", desc := "()V" } : Jvm.MethodName)) ∈ lw_all := lw_g (lw_at lw_m1 151 rfl) rfl
theorem q159 : (Jvm.Cond.code ({ cls := "java/util/ArrayList", name := "<init>", desc := "()V" } : Jvm.MethodName) prog_27_method_2_code (1 : Nat) (Option.none : Option Jvm.ClassFile.FieldType)) ∈ lw_all := lw_g (lw_at lw_m1 152 rfl) rfl
theorem q160 : (Jvm.Cond.methodLink "java/util/ArrayList" (1 : Nat) ({ cls := "java/util/AbstractList", name := "<init>", desc := "()V" } : Jvm.MethodName)) ∈ lw_all := lw_g (lw_at lw_m1 153 rfl) rfl
theorem q167 : (Jvm.Cond.fieldLink "java/util/ArrayList" (39 : Nat) "java/util/ArrayList" "DEFAULTCAPACITY_EMPTY_ELEMENTDATA" "[Ljava/lang/Object;") ∈ lw_all := lw_g (lw_at lw_m1 160 rfl) rfl
theorem q168 : (Jvm.Cond.laysStatic "java/util/ArrayList" "DEFAULTCAPACITY_EMPTY_ELEMENTDATA" "[Ljava/lang/Object;") ∈ lw_tbl := lw_at lw_m1 161 rfl
theorem q169 : (Jvm.Cond.fieldLink "java/util/ArrayList" (9 : Nat) "java/util/ArrayList" "elementData" "[Ljava/lang/Object;") ∈ lw_all := lw_g (lw_at lw_m1 162 rfl) rfl
theorem q172 : (Jvm.Cond.fieldLink "java/util/ArrayList" (48 : Nat) "java/util/ArrayList" "size" "I") ∈ lw_all := lw_g (lw_at lw_m1 165 rfl) rfl
theorem q175 : (Jvm.Cond.sameField "java/util/ArrayList" "java/util/AbstractList" "modCount" "I") ∈ lw_all := lw_g (lw_at lw_m1 168 rfl) rfl
theorem q176 : (Jvm.Cond.fieldLink "java/util/ArrayList" (63 : Nat) "java/util/ArrayList" "modCount" "I") ∈ lw_all := lw_g (lw_at lw_m1 169 rfl) rfl
theorem q177 : (Jvm.Cond.lays "java/util/ArrayList" "java/util/ArrayList" "elementData" "[Ljava/lang/Object;") ∈ lw_all := lw_g (lw_at lw_m1 170 rfl) rfl
theorem q178 : (Jvm.Cond.soleField "java/util/ArrayList" "elementData") ∈ lw_all := lw_g (lw_at lw_m1 171 rfl) rfl
theorem q179 : (Jvm.Cond.lays "java/util/ArrayList" "java/util/ArrayList" "size" "I") ∈ lw_all := lw_g (lw_at lw_m1 172 rfl) rfl
theorem q180 : (Jvm.Cond.soleField "java/util/ArrayList" "size") ∈ lw_all := lw_g (lw_at lw_m1 173 rfl) rfl
theorem q181 : (Jvm.Cond.lays "java/util/ArrayList" "java/util/AbstractList" "modCount" "I") ∈ lw_all := lw_g (lw_at lw_m1 174 rfl) rfl
theorem q183 : (Jvm.Cond.superclass "java/util/ArrayList" "java/util/AbstractList") ∈ lw_all := lw_g (lw_at lw_m1 176 rfl) rfl
theorem q296 : (Jvm.Cond.castable "java/util/ArrayList" "java/util/List") ∈ lw_tbl := lw_at lw_m2 49 rfl
theorem q297 : (Jvm.Cond.selects "java/util/ArrayList" ({ cls := "java/util/List", name := "add", desc := "(Ljava/lang/Object;)Z" } : Jvm.MethodName) ({ cls := "java/util/ArrayList", name := "add", desc := "(Ljava/lang/Object;)Z" } : Jvm.MethodName)) ∈ lw_all := lw_g (lw_at lw_m2 50 rfl) rfl
theorem q298 : (Jvm.Cond.unhidden "java/util/ArrayList" "add" "(Ljava/lang/Object;)Z") ∈ lw_tbl := lw_at lw_m2 51 rfl
theorem q299 : (Jvm.Cond.instanceMethod ({ cls := "java/util/ArrayList", name := "add", desc := "(Ljava/lang/Object;)Z" } : Jvm.MethodName)) ∈ lw_all := lw_g (lw_at lw_m2 52 rfl) rfl
theorem q300 : (Jvm.Cond.publicMethod ({ cls := "java/util/ArrayList", name := "add", desc := "(Ljava/lang/Object;)Z" } : Jvm.MethodName)) ∈ lw_tbl := lw_at lw_m2 53 rfl
theorem q301 : (Jvm.Cond.code ({ cls := "java/util/ArrayList", name := "add", desc := "(Ljava/lang/Object;)Z" } : Jvm.MethodName) prog_27_method_25_code (2 : Nat) (Option.some Jvm.ClassFile.FieldType.boolean)) ∈ lw_all := lw_g (lw_at lw_m2 54 rfl) rfl
theorem q302 : (Jvm.Cond.methodLink "java/util/ArrayList" (131 : Nat) ({ cls := "java/util/ArrayList", name := "add", desc := "(Ljava/lang/Object;[Ljava/lang/Object;I)V" } : Jvm.MethodName)) ∈ lw_all := lw_g (lw_at lw_m2 55 rfl) rfl
theorem q303 : (Jvm.Cond.privateMethod ({ cls := "java/util/ArrayList", name := "add", desc := "(Ljava/lang/Object;[Ljava/lang/Object;I)V" } : Jvm.MethodName)) ∈ lw_tbl := lw_at lw_m2 56 rfl
theorem q304 : (Jvm.Cond.instanceMethod ({ cls := "java/util/ArrayList", name := "add", desc := "(Ljava/lang/Object;[Ljava/lang/Object;I)V" } : Jvm.MethodName)) ∈ lw_all := lw_g (lw_at lw_m2 57 rfl) rfl
theorem q305 : (Jvm.Cond.code ({ cls := "java/util/ArrayList", name := "add", desc := "(Ljava/lang/Object;[Ljava/lang/Object;I)V" } : Jvm.MethodName) prog_27_method_24_code (4 : Nat) (Option.none : Option Jvm.ClassFile.FieldType)) ∈ lw_all := lw_g (lw_at lw_m2 58 rfl) rfl
theorem q306 : (Jvm.Cond.methodLink "java/util/ArrayList" (129 : Nat) ({ cls := "java/util/ArrayList", name := "grow", desc := "()[Ljava/lang/Object;" } : Jvm.MethodName)) ∈ lw_all := lw_g (lw_at lw_m2 59 rfl) rfl
theorem q307 : (Jvm.Cond.privateMethod ({ cls := "java/util/ArrayList", name := "grow", desc := "()[Ljava/lang/Object;" } : Jvm.MethodName)) ∈ lw_tbl := lw_at lw_m2 60 rfl
theorem q308 : (Jvm.Cond.instanceMethod ({ cls := "java/util/ArrayList", name := "grow", desc := "()[Ljava/lang/Object;" } : Jvm.MethodName)) ∈ lw_all := lw_g (lw_at lw_m2 61 rfl) rfl
theorem q309 : (Jvm.Cond.code ({ cls := "java/util/ArrayList", name := "grow", desc := "()[Ljava/lang/Object;" } : Jvm.MethodName) prog_27_method_7_code (1 : Nat) (Option.some (Jvm.ClassFile.FieldType.array (Jvm.ClassFile.FieldType.object "java/lang/Object")))) ∈ lw_all := lw_g (lw_at lw_m2 62 rfl) rfl
theorem q310 : (Jvm.Cond.methodLink "java/util/ArrayList" (69 : Nat) ({ cls := "java/util/ArrayList", name := "grow", desc := "(I)[Ljava/lang/Object;" } : Jvm.MethodName)) ∈ lw_all := lw_g (lw_at lw_m2 63 rfl) rfl
theorem q311 : (Jvm.Cond.privateMethod ({ cls := "java/util/ArrayList", name := "grow", desc := "(I)[Ljava/lang/Object;" } : Jvm.MethodName)) ∈ lw_tbl := lw_at lw_m2 64 rfl
theorem q312 : (Jvm.Cond.instanceMethod ({ cls := "java/util/ArrayList", name := "grow", desc := "(I)[Ljava/lang/Object;" } : Jvm.MethodName)) ∈ lw_all := lw_g (lw_at lw_m2 65 rfl) rfl
theorem q313 : (Jvm.Cond.code ({ cls := "java/util/ArrayList", name := "grow", desc := "(I)[Ljava/lang/Object;" } : Jvm.MethodName) prog_27_method_6_code (4 : Nat) (Option.some (Jvm.ClassFile.FieldType.array (Jvm.ClassFile.FieldType.object "java/lang/Object")))) ∈ lw_all := lw_g (lw_at lw_m2 66 rfl) rfl
theorem q314 : (Jvm.Cond.methodLink "java/util/ArrayList" (73 : Nat) ({ cls := "jdk/internal/util/ArraysSupport", name := "newLength", desc := "(III)I" } : Jvm.MethodName)) ∈ lw_all := lw_g (lw_at lw_m2 67 rfl) rfl
theorem q324 : (Jvm.Cond.methodLink "java/util/ArrayList" (66 : Nat) ({ cls := "java/util/Arrays", name := "copyOf", desc := "([Ljava/lang/Object;I)[Ljava/lang/Object;" } : Jvm.MethodName)) ∈ lw_all := lw_g (lw_at lw_m2 77 rfl) rfl
theorem q335 : (Jvm.Cond.selects "java/util/ArrayList" ({ cls := "java/lang/Object", name := "getClass", desc := "()Ljava/lang/Class;" } : Jvm.MethodName) ({ cls := "java/lang/Object", name := "getClass", desc := "()Ljava/lang/Class;" } : Jvm.MethodName)) ∈ lw_all := lw_g (lw_at lw_m2 88 rfl) rfl
theorem q349 : (Jvm.Cond.methodLink "java/util/ArrayList" (79 : Nat) ({ cls := "java/lang/Math", name := "max", desc := "(II)I" } : Jvm.MethodName)) ∈ lw_all := lw_g (lw_at lw_m2 102 rfl) rfl
theorem q350 : (Jvm.Cond.classLink "java/util/ArrayList" (7 : Nat) "java/lang/Object") ∈ lw_all := lw_g (lw_at lw_m2 103 rfl) rfl
theorem q355 : (Jvm.Cond.selects "java/util/ArrayList" ({ cls := "java/util/List", name := "size", desc := "()I" } : Jvm.MethodName) ({ cls := "java/util/ArrayList", name := "size", desc := "()I" } : Jvm.MethodName)) ∈ lw_all := lw_g (lw_at lw_m2 108 rfl) rfl
theorem q356 : (Jvm.Cond.unhidden "java/util/ArrayList" "size" "()I") ∈ lw_tbl := lw_at lw_m2 109 rfl
theorem q357 : (Jvm.Cond.instanceMethod ({ cls := "java/util/ArrayList", name := "size", desc := "()I" } : Jvm.MethodName)) ∈ lw_all := lw_g (lw_at lw_m2 110 rfl) rfl
theorem q358 : (Jvm.Cond.publicMethod ({ cls := "java/util/ArrayList", name := "size", desc := "()I" } : Jvm.MethodName)) ∈ lw_tbl := lw_at lw_m2 111 rfl
theorem q359 : (Jvm.Cond.code ({ cls := "java/util/ArrayList", name := "size", desc := "()I" } : Jvm.MethodName) prog_27_method_8_code (1 : Nat) (Option.some Jvm.ClassFile.FieldType.int)) ∈ lw_all := lw_g (lw_at lw_m2 112 rfl) rfl
theorem q417 : (Jvm.Cond.selects "java/util/ArrayList" ({ cls := "java/util/List", name := "remove", desc := "(I)Ljava/lang/Object;" } : Jvm.MethodName) ({ cls := "java/util/ArrayList", name := "remove", desc := "(I)Ljava/lang/Object;" } : Jvm.MethodName)) ∈ lw_all := lw_g (lw_at lw_m2 170 rfl) rfl
theorem q418 : (Jvm.Cond.unhidden "java/util/ArrayList" "remove" "(I)Ljava/lang/Object;") ∈ lw_tbl := lw_at lw_m2 171 rfl
theorem q419 : (Jvm.Cond.instanceMethod ({ cls := "java/util/ArrayList", name := "remove", desc := "(I)Ljava/lang/Object;" } : Jvm.MethodName)) ∈ lw_all := lw_g (lw_at lw_m2 172 rfl) rfl
theorem q420 : (Jvm.Cond.publicMethod ({ cls := "java/util/ArrayList", name := "remove", desc := "(I)Ljava/lang/Object;" } : Jvm.MethodName)) ∈ lw_tbl := lw_at lw_m2 173 rfl
theorem q421 : (Jvm.Cond.code ({ cls := "java/util/ArrayList", name := "remove", desc := "(I)Ljava/lang/Object;" } : Jvm.MethodName) prog_27_method_29_code (4 : Nat) (Option.some (Jvm.ClassFile.FieldType.object "java/lang/Object"))) ∈ lw_all := lw_g (lw_at lw_m2 174 rfl) rfl
theorem q422 : (Jvm.Cond.methodLink "java/util/ArrayList" (118 : Nat) ({ cls := "java/util/Objects", name := "checkIndex", desc := "(II)I" } : Jvm.MethodName)) ∈ lw_all := lw_g (lw_at lw_m2 175 rfl) rfl
theorem q428 : (Jvm.Cond.methodLink "java/util/ArrayList" (144 : Nat) ({ cls := "java/util/ArrayList", name := "fastRemove", desc := "([Ljava/lang/Object;I)V" } : Jvm.MethodName)) ∈ lw_all := lw_g (lw_at lw_m2 181 rfl) rfl
theorem q429 : (Jvm.Cond.privateMethod ({ cls := "java/util/ArrayList", name := "fastRemove", desc := "([Ljava/lang/Object;I)V" } : Jvm.MethodName)) ∈ lw_tbl := lw_at lw_m2 182 rfl
theorem q430 : (Jvm.Cond.instanceMethod ({ cls := "java/util/ArrayList", name := "fastRemove", desc := "([Ljava/lang/Object;I)V" } : Jvm.MethodName)) ∈ lw_all := lw_g (lw_at lw_m2 183 rfl) rfl
theorem q431 : (Jvm.Cond.code ({ cls := "java/util/ArrayList", name := "fastRemove", desc := "([Ljava/lang/Object;I)V" } : Jvm.MethodName) prog_27_method_39_code (4 : Nat) (Option.none : Option Jvm.ClassFile.FieldType)) ∈ lw_all := lw_g (lw_at lw_m2 184 rfl) rfl
theorem q432 : (Jvm.Cond.methodLink "java/util/ArrayList" (112 : Nat) ({ cls := "java/lang/System", name := "arraycopy", desc := "(Ljava/lang/Object;ILjava/lang/Object;II)V" } : Jvm.MethodName)) ∈ lw_all := lw_g (lw_at lw_m2 185 rfl) rfl
theorem q441 : (Jvm.Cond.selects "java/util/ArrayList" ({ cls := "java/util/List", name := "isEmpty", desc := "()Z" } : Jvm.MethodName) ({ cls := "java/util/ArrayList", name := "isEmpty", desc := "()Z" } : Jvm.MethodName)) ∈ lw_all := lw_g (lw_at lw_m2 194 rfl) rfl
theorem q442 : (Jvm.Cond.unhidden "java/util/ArrayList" "isEmpty" "()Z") ∈ lw_tbl := lw_at lw_m2 195 rfl
theorem q443 : (Jvm.Cond.instanceMethod ({ cls := "java/util/ArrayList", name := "isEmpty", desc := "()Z" } : Jvm.MethodName)) ∈ lw_all := lw_g (lw_at lw_m2 196 rfl) rfl
theorem q444 : (Jvm.Cond.publicMethod ({ cls := "java/util/ArrayList", name := "isEmpty", desc := "()Z" } : Jvm.MethodName)) ∈ lw_tbl := lw_at lw_m2 197 rfl
theorem q445 : (Jvm.Cond.code ({ cls := "java/util/ArrayList", name := "isEmpty", desc := "()Z" } : Jvm.MethodName) prog_27_method_9_code (1 : Nat) (Option.some Jvm.ClassFile.FieldType.boolean)) ∈ lw_all := lw_g (lw_at lw_m2 198 rfl) rfl
theorem q450 : (Jvm.Cond.selects "java/util/ArrayList" ({ cls := "java/util/List", name := "iterator", desc := "()Ljava/util/Iterator;" } : Jvm.MethodName) ({ cls := "java/util/ArrayList", name := "iterator", desc := "()Ljava/util/Iterator;" } : Jvm.MethodName)) ∈ lw_all := lw_g (lw_at lw_m2 203 rfl) rfl
theorem q451 : (Jvm.Cond.unhidden "java/util/ArrayList" "iterator" "()Ljava/util/Iterator;") ∈ lw_tbl := lw_at lw_m2 204 rfl
theorem q452 : (Jvm.Cond.instanceMethod ({ cls := "java/util/ArrayList", name := "iterator", desc := "()Ljava/util/Iterator;" } : Jvm.MethodName)) ∈ lw_all := lw_g (lw_at lw_m2 205 rfl) rfl
theorem q453 : (Jvm.Cond.publicMethod ({ cls := "java/util/ArrayList", name := "iterator", desc := "()Ljava/util/Iterator;" } : Jvm.MethodName)) ∈ lw_tbl := lw_at lw_m2 206 rfl
theorem q454 : (Jvm.Cond.code ({ cls := "java/util/ArrayList", name := "iterator", desc := "()Ljava/util/Iterator;" } : Jvm.MethodName) prog_27_method_55_code (1 : Nat) (Option.some (Jvm.ClassFile.FieldType.object "java/util/Iterator"))) ∈ lw_all := lw_g (lw_at lw_m2 207 rfl) rfl
theorem q455 : (Jvm.Cond.classLink "java/util/ArrayList" (267 : Nat) "java/util/ArrayList$Itr") ∈ lw_all := lw_g (lw_at lw_m2 208 rfl) rfl
theorem q457 : (Jvm.Cond.methodLink "java/util/ArrayList" (269 : Nat) ({ cls := "java/util/ArrayList$Itr", name := "<init>", desc := "(Ljava/util/ArrayList;)V" } : Jvm.MethodName)) ∈ lw_all := lw_g (lw_at lw_m2 210 rfl) rfl
theorem q501 : (Jvm.Cond.selects "java/util/ArrayList" ({ cls := "java/util/List", name := "clear", desc := "()V" } : Jvm.MethodName) ({ cls := "java/util/ArrayList", name := "clear", desc := "()V" } : Jvm.MethodName)) ∈ lw_all := lw_g (lw_at lw_m3 14 rfl) rfl
theorem q502 : (Jvm.Cond.unhidden "java/util/ArrayList" "clear" "()V") ∈ lw_tbl := lw_at lw_m3 15 rfl
theorem q503 : (Jvm.Cond.instanceMethod ({ cls := "java/util/ArrayList", name := "clear", desc := "()V" } : Jvm.MethodName)) ∈ lw_all := lw_g (lw_at lw_m3 16 rfl) rfl
theorem q504 : (Jvm.Cond.publicMethod ({ cls := "java/util/ArrayList", name := "clear", desc := "()V" } : Jvm.MethodName)) ∈ lw_tbl := lw_at lw_m3 17 rfl
theorem q505 : (Jvm.Cond.code ({ cls := "java/util/ArrayList", name := "clear", desc := "()V" } : Jvm.MethodName) prog_27_method_40_code (4 : Nat) (Option.none : Option Jvm.ClassFile.FieldType)) ∈ lw_all := lw_g (lw_at lw_m3 18 rfl) rfl
theorem q589 : (Jvm.Cond.castable "java/util/ArrayList" "java/lang/Object") ∈ lw_tbl := lw_at lw_m3 102 rfl
theorem in_J8 : ∀ w ∈ wsJ80, w ∈ lw_all := lw_in wsJ80 [181, 177, 179] (by decide +kernel) (by decide +kernel)
/-! java/lang/Math -/
set_option maxRecDepth 100000
def RJ9 : String := "java/lang/Math"
abbrev cJ9_getExponent : ByteArray := prog_16_method_92_code
def yJ9_getExponent : MethodName := ⟨RJ9, "getExponent", "(D)I"⟩
def dkwJ9_getExponent_0 : List UInt8 := [38, 184, 0, 79, 20, 0, 87, 127, 16, 52, 123, 20, 1, 66, 101, 136, 172]
abbrev dktJ9_getExponent_0 : List UInt8 := dkwJ9_getExponent_0 ++ []
theorem dksJ9_getExponent_0 : cJ9_getExponent.data.toList.drop 0 = dktJ9_getExponent_0 := by decide +kernel
theorem dJ9_getExponent_0 : decode cJ9_getExponent 0 = .ok (.dload_n 0, 1) := dk_38 (dk_at dksJ9_getExponent_0 0 rfl rfl)
theorem dJ9_getExponent_1 : decode cJ9_getExponent 1 = .ok (.invokestatic 79, 3) := dk_184 0 79 (dk_at dksJ9_getExponent_0 1 rfl rfl)
theorem dJ9_getExponent_4 : decode cJ9_getExponent 4 = .ok (.ldc2_w 87, 3) := dk_20 0 87 (dk_at dksJ9_getExponent_0 4 rfl rfl)
theorem dJ9_getExponent_7 : decode cJ9_getExponent 7 = .ok (.land, 1) := dk_127 (dk_at dksJ9_getExponent_0 7 rfl rfl)
theorem dJ9_getExponent_8 : decode cJ9_getExponent 8 = .ok (.bipush 52, 2) := dk_16 52 (dk_at dksJ9_getExponent_0 8 rfl rfl)
theorem dJ9_getExponent_10 : decode cJ9_getExponent 10 = .ok (.lshr, 1) := dk_123 (dk_at dksJ9_getExponent_0 10 rfl rfl)
theorem dJ9_getExponent_11 : decode cJ9_getExponent 11 = .ok (.ldc2_w 322, 3) := dk_20 1 66 (dk_at dksJ9_getExponent_0 11 rfl rfl)
theorem dJ9_getExponent_14 : decode cJ9_getExponent 14 = .ok (.lsub, 1) := dk_101 (dk_at dksJ9_getExponent_0 14 rfl rfl)
theorem dJ9_getExponent_15 : decode cJ9_getExponent 15 = .ok (.l2i, 1) := dk_136 (dk_at dksJ9_getExponent_0 15 rfl rfl)
theorem dJ9_getExponent_16 : decode cJ9_getExponent 16 = .ok (.ireturn, 1) := dk_172 (dk_at dksJ9_getExponent_0 16 rfl rfl)
abbrev cJ9_min : ByteArray := prog_16_method_69_code
def yJ9_min : MethodName := ⟨RJ9, "min", "(II)I"⟩
def dkwJ9_min_0 : List UInt8 := [26, 27, 163, 0, 7, 26, 167, 0, 4, 27, 172]
abbrev dktJ9_min_0 : List UInt8 := dkwJ9_min_0 ++ []
theorem dksJ9_min_0 : cJ9_min.data.toList.drop 0 = dktJ9_min_0 := by decide +kernel
theorem dJ9_min_0 : decode cJ9_min 0 = .ok (.iload_n 0, 1) := dk_26 (dk_at dksJ9_min_0 0 rfl rfl)
theorem dJ9_min_1 : decode cJ9_min 1 = .ok (.iload_n 1, 1) := dk_27 (dk_at dksJ9_min_0 1 rfl rfl)
theorem dJ9_min_2 : decode cJ9_min 2 = .ok (.if_icmp .gt 7, 3) := dk_163 0 7 (dk_at dksJ9_min_0 2 rfl rfl)
theorem dJ9_min_5 : decode cJ9_min 5 = .ok (.iload_n 0, 1) := dk_26 (dk_at dksJ9_min_0 5 rfl rfl)
theorem dJ9_min_6 : decode cJ9_min 6 = .ok (.goto 4, 3) := dk_167 0 4 (dk_at dksJ9_min_0 6 rfl rfl)
theorem dJ9_min_9 : decode cJ9_min 9 = .ok (.iload_n 1, 1) := dk_27 (dk_at dksJ9_min_0 9 rfl rfl)
theorem dJ9_min_10 : decode cJ9_min 10 = .ok (.ireturn, 1) := dk_172 (dk_at dksJ9_min_0 10 rfl rfl)
abbrev cJ9_max : ByteArray := prog_16_method_65_code
def yJ9_max : MethodName := ⟨RJ9, "max", "(II)I"⟩
def dkwJ9_max_0 : List UInt8 := [26, 27, 161, 0, 7, 26, 167, 0, 4, 27, 172]
abbrev dktJ9_max_0 : List UInt8 := dkwJ9_max_0 ++ []
theorem dksJ9_max_0 : cJ9_max.data.toList.drop 0 = dktJ9_max_0 := by decide +kernel
theorem dJ9_max_0 : decode cJ9_max 0 = .ok (.iload_n 0, 1) := dk_26 (dk_at dksJ9_max_0 0 rfl rfl)
theorem dJ9_max_1 : decode cJ9_max 1 = .ok (.iload_n 1, 1) := dk_27 (dk_at dksJ9_max_0 1 rfl rfl)
theorem dJ9_max_2 : decode cJ9_max 2 = .ok (.if_icmp .lt 7, 3) := dk_161 0 7 (dk_at dksJ9_max_0 2 rfl rfl)
theorem dJ9_max_5 : decode cJ9_max 5 = .ok (.iload_n 0, 1) := dk_26 (dk_at dksJ9_max_0 5 rfl rfl)
theorem dJ9_max_6 : decode cJ9_max 6 = .ok (.goto 4, 3) := dk_167 0 4 (dk_at dksJ9_max_0 6 rfl rfl)
theorem dJ9_max_9 : decode cJ9_max 9 = .ok (.iload_n 1, 1) := dk_27 (dk_at dksJ9_max_0 9 rfl rfl)
theorem dJ9_max_10 : decode cJ9_max 10 = .ok (.ireturn, 1) := dk_172 (dk_at dksJ9_max_0 10 rfl rfl)
theorem q22 : (Jvm.Cond.initialized "java/lang/Math") ∈ lw_all := lw_g (lw_at lw_m1 15 rfl) rfl
theorem q282 : (Jvm.Cond.static ({ cls := "java/lang/Math", name := "getExponent", desc := "(D)I" } : Jvm.MethodName)) ∈ lw_all := lw_g (lw_at lw_m2 35 rfl) rfl
theorem q283 : (Jvm.Cond.code ({ cls := "java/lang/Math", name := "getExponent", desc := "(D)I" } : Jvm.MethodName) prog_16_method_92_code (2 : Nat) (Option.some Jvm.ClassFile.FieldType.int)) ∈ lw_all := lw_g (lw_at lw_m2 36 rfl) rfl
theorem q284 : (Jvm.Cond.methodLink "java/lang/Math" (79 : Nat) ({ cls := "java/lang/Double", name := "doubleToRawLongBits", desc := "(D)J" } : Jvm.MethodName)) ∈ lw_all := lw_g (lw_at lw_m2 37 rfl) rfl
theorem q287 : (Jvm.Cond.constantLong "java/lang/Math" (87 : Nat) (9218868437227405312 : Int64)) ∈ lw_all := lw_g (lw_at lw_m2 40 rfl) rfl
theorem q288 : (Jvm.Cond.constantLong "java/lang/Math" (322 : Nat) (1023 : Int64)) ∈ lw_all := lw_g (lw_at lw_m2 41 rfl) rfl
theorem q290 : (Jvm.Cond.static ({ cls := "java/lang/Math", name := "min", desc := "(II)I" } : Jvm.MethodName)) ∈ lw_all := lw_g (lw_at lw_m2 43 rfl) rfl
theorem q291 : (Jvm.Cond.code ({ cls := "java/lang/Math", name := "min", desc := "(II)I" } : Jvm.MethodName) prog_16_method_69_code (2 : Nat) (Option.some Jvm.ClassFile.FieldType.int)) ∈ lw_all := lw_g (lw_at lw_m2 44 rfl) rfl
theorem q318 : (Jvm.Cond.static ({ cls := "java/lang/Math", name := "max", desc := "(II)I" } : Jvm.MethodName)) ∈ lw_all := lw_g (lw_at lw_m2 71 rfl) rfl
theorem q319 : (Jvm.Cond.code ({ cls := "java/lang/Math", name := "max", desc := "(II)I" } : Jvm.MethodName) prog_16_method_65_code (2 : Nat) (Option.some Jvm.ClassFile.FieldType.int)) ∈ lw_all := lw_g (lw_at lw_m2 72 rfl) rfl
/-! jdk/internal/util/ArraysSupport -/
set_option maxRecDepth 100000
def RJ10 : String := "jdk/internal/util/ArraysSupport"
abbrev cJ10_newLength : ByteArray := prog_37_method_27_code
def yJ10_newLength : MethodName := ⟨RJ10, "newLength", "(III)I"⟩
def dkwJ10_newLength_1 : List UInt8 := [184, 0, 201, 172]
abbrev dktJ10_newLength_1 : List UInt8 := dkwJ10_newLength_1 ++ []
def dkwJ10_newLength_0 : List UInt8 := [26, 27, 28, 184, 0, 194, 96, 62, 3, 29, 162, 0, 11, 29, 18, 200, 163, 0, 5, 29, 172, 26, 27]
abbrev dktJ10_newLength_0 : List UInt8 := dkwJ10_newLength_0 ++ dktJ10_newLength_1
theorem dksJ10_newLength_0 : cJ10_newLength.data.toList.drop 0 = dktJ10_newLength_0 := by decide +kernel
theorem dksJ10_newLength_1 : cJ10_newLength.data.toList.drop 23 = dktJ10_newLength_1 := dk_seg dksJ10_newLength_0 23 rfl rfl
theorem dJ10_newLength_0 : decode cJ10_newLength 0 = .ok (.iload_n 0, 1) := dk_26 (dk_at dksJ10_newLength_0 0 rfl rfl)
theorem dJ10_newLength_1 : decode cJ10_newLength 1 = .ok (.iload_n 1, 1) := dk_27 (dk_at dksJ10_newLength_0 1 rfl rfl)
theorem dJ10_newLength_2 : decode cJ10_newLength 2 = .ok (.iload_n 2, 1) := dk_28 (dk_at dksJ10_newLength_0 2 rfl rfl)
theorem dJ10_newLength_3 : decode cJ10_newLength 3 = .ok (.invokestatic 194, 3) := dk_184 0 194 (dk_at dksJ10_newLength_0 3 rfl rfl)
theorem dJ10_newLength_6 : decode cJ10_newLength 6 = .ok (.iadd, 1) := dk_96 (dk_at dksJ10_newLength_0 6 rfl rfl)
theorem dJ10_newLength_7 : decode cJ10_newLength 7 = .ok (.istore_n 3, 1) := dk_62 (dk_at dksJ10_newLength_0 7 rfl rfl)
theorem dJ10_newLength_8 : decode cJ10_newLength 8 = .ok (.iconst 0, 1) := dk_3 (dk_at dksJ10_newLength_0 8 rfl rfl)
theorem dJ10_newLength_9 : decode cJ10_newLength 9 = .ok (.iload_n 3, 1) := dk_29 (dk_at dksJ10_newLength_0 9 rfl rfl)
theorem dJ10_newLength_10 : decode cJ10_newLength 10 = .ok (.if_icmp .ge 11, 3) := dk_162 0 11 (dk_at dksJ10_newLength_0 10 rfl rfl)
theorem dJ10_newLength_13 : decode cJ10_newLength 13 = .ok (.iload_n 3, 1) := dk_29 (dk_at dksJ10_newLength_0 13 rfl rfl)
theorem dJ10_newLength_14 : decode cJ10_newLength 14 = .ok (.ldc 200, 2) := dk_18 200 (dk_at dksJ10_newLength_0 14 rfl rfl)
theorem dJ10_newLength_16 : decode cJ10_newLength 16 = .ok (.if_icmp .gt 5, 3) := dk_163 0 5 (dk_at dksJ10_newLength_0 16 rfl rfl)
theorem dJ10_newLength_19 : decode cJ10_newLength 19 = .ok (.iload_n 3, 1) := dk_29 (dk_at dksJ10_newLength_0 19 rfl rfl)
theorem dJ10_newLength_20 : decode cJ10_newLength 20 = .ok (.ireturn, 1) := dk_172 (dk_at dksJ10_newLength_0 20 rfl rfl)
theorem dJ10_newLength_21 : decode cJ10_newLength 21 = .ok (.iload_n 0, 1) := dk_26 (dk_at dksJ10_newLength_0 21 rfl rfl)
theorem dJ10_newLength_22 : decode cJ10_newLength 22 = .ok (.iload_n 1, 1) := dk_27 (dk_at dksJ10_newLength_0 22 rfl rfl)
theorem dJ10_newLength_23 : decode cJ10_newLength 23 = .ok (.invokestatic 201, 3) := dk_184 0 201 (dk_at dksJ10_newLength_1 0 rfl rfl)
theorem dJ10_newLength_26 : decode cJ10_newLength 26 = .ok (.ireturn, 1) := dk_172 (dk_at dksJ10_newLength_1 3 rfl rfl)
abbrev cJ10_hugeLength : ByteArray := prog_37_method_28_code
def yJ10_hugeLength : MethodName := ⟨RJ10, "hugeLength", "(II)I"⟩
def dkwJ10_hugeLength_2 : List UInt8 := [191, 28, 18, 200, 163, 0, 6, 18, 200, 172, 28, 172]
abbrev dktJ10_hugeLength_2 : List UInt8 := dkwJ10_hugeLength_2 ++ []
def dkwJ10_hugeLength_1 : List UInt8 := [26, 182, 0, 98, 18, 208, 182, 0, 94, 27, 182, 0, 98, 18, 210, 182, 0, 94, 182, 0, 101, 183, 0, 212]
abbrev dktJ10_hugeLength_1 : List UInt8 := dkwJ10_hugeLength_1 ++ dktJ10_hugeLength_2
def dkwJ10_hugeLength_0 : List UInt8 := [26, 27, 96, 61, 28, 156, 0, 44, 187, 0, 204, 89, 187, 0, 89, 89, 183, 0, 91, 18, 206, 182, 0, 94]
abbrev dktJ10_hugeLength_0 : List UInt8 := dkwJ10_hugeLength_0 ++ dktJ10_hugeLength_1
theorem dksJ10_hugeLength_0 : cJ10_hugeLength.data.toList.drop 0 = dktJ10_hugeLength_0 := by decide +kernel
theorem dksJ10_hugeLength_1 : cJ10_hugeLength.data.toList.drop 24 = dktJ10_hugeLength_1 := dk_seg dksJ10_hugeLength_0 24 rfl rfl
theorem dksJ10_hugeLength_2 : cJ10_hugeLength.data.toList.drop 48 = dktJ10_hugeLength_2 := dk_seg dksJ10_hugeLength_1 24 rfl rfl
theorem dJ10_hugeLength_0 : decode cJ10_hugeLength 0 = .ok (.iload_n 0, 1) := dk_26 (dk_at dksJ10_hugeLength_0 0 rfl rfl)
theorem dJ10_hugeLength_1 : decode cJ10_hugeLength 1 = .ok (.iload_n 1, 1) := dk_27 (dk_at dksJ10_hugeLength_0 1 rfl rfl)
theorem dJ10_hugeLength_2 : decode cJ10_hugeLength 2 = .ok (.iadd, 1) := dk_96 (dk_at dksJ10_hugeLength_0 2 rfl rfl)
theorem dJ10_hugeLength_3 : decode cJ10_hugeLength 3 = .ok (.istore_n 2, 1) := dk_61 (dk_at dksJ10_hugeLength_0 3 rfl rfl)
theorem dJ10_hugeLength_4 : decode cJ10_hugeLength 4 = .ok (.iload_n 2, 1) := dk_28 (dk_at dksJ10_hugeLength_0 4 rfl rfl)
theorem dJ10_hugeLength_5 : decode cJ10_hugeLength 5 = .ok (.ifCond .ge 44, 3) := dk_156 0 44 (dk_at dksJ10_hugeLength_0 5 rfl rfl)
theorem dJ10_hugeLength_8 : decode cJ10_hugeLength 8 = .ok (.new 204, 3) := dk_187 0 204 (dk_at dksJ10_hugeLength_0 8 rfl rfl)
theorem dJ10_hugeLength_11 : decode cJ10_hugeLength 11 = .ok (.dup, 1) := dk_89 (dk_at dksJ10_hugeLength_0 11 rfl rfl)
theorem dJ10_hugeLength_12 : decode cJ10_hugeLength 12 = .ok (.new 89, 3) := dk_187 0 89 (dk_at dksJ10_hugeLength_0 12 rfl rfl)
theorem dJ10_hugeLength_15 : decode cJ10_hugeLength 15 = .ok (.dup, 1) := dk_89 (dk_at dksJ10_hugeLength_0 15 rfl rfl)
theorem dJ10_hugeLength_16 : decode cJ10_hugeLength 16 = .ok (.invokespecial 91, 3) := dk_183 0 91 (dk_at dksJ10_hugeLength_0 16 rfl rfl)
theorem dJ10_hugeLength_19 : decode cJ10_hugeLength 19 = .ok (.ldc 206, 2) := dk_18 206 (dk_at dksJ10_hugeLength_0 19 rfl rfl)
theorem dJ10_hugeLength_21 : decode cJ10_hugeLength 21 = .ok (.invokevirtual 94, 3) := dk_182 0 94 (dk_at dksJ10_hugeLength_0 21 rfl rfl)
theorem dJ10_hugeLength_24 : decode cJ10_hugeLength 24 = .ok (.iload_n 0, 1) := dk_26 (dk_at dksJ10_hugeLength_1 0 rfl rfl)
theorem dJ10_hugeLength_25 : decode cJ10_hugeLength 25 = .ok (.invokevirtual 98, 3) := dk_182 0 98 (dk_at dksJ10_hugeLength_1 1 rfl rfl)
theorem dJ10_hugeLength_28 : decode cJ10_hugeLength 28 = .ok (.ldc 208, 2) := dk_18 208 (dk_at dksJ10_hugeLength_1 4 rfl rfl)
theorem dJ10_hugeLength_30 : decode cJ10_hugeLength 30 = .ok (.invokevirtual 94, 3) := dk_182 0 94 (dk_at dksJ10_hugeLength_1 6 rfl rfl)
theorem dJ10_hugeLength_33 : decode cJ10_hugeLength 33 = .ok (.iload_n 1, 1) := dk_27 (dk_at dksJ10_hugeLength_1 9 rfl rfl)
theorem dJ10_hugeLength_34 : decode cJ10_hugeLength 34 = .ok (.invokevirtual 98, 3) := dk_182 0 98 (dk_at dksJ10_hugeLength_1 10 rfl rfl)
theorem dJ10_hugeLength_37 : decode cJ10_hugeLength 37 = .ok (.ldc 210, 2) := dk_18 210 (dk_at dksJ10_hugeLength_1 13 rfl rfl)
theorem dJ10_hugeLength_39 : decode cJ10_hugeLength 39 = .ok (.invokevirtual 94, 3) := dk_182 0 94 (dk_at dksJ10_hugeLength_1 15 rfl rfl)
theorem dJ10_hugeLength_42 : decode cJ10_hugeLength 42 = .ok (.invokevirtual 101, 3) := dk_182 0 101 (dk_at dksJ10_hugeLength_1 18 rfl rfl)
theorem dJ10_hugeLength_45 : decode cJ10_hugeLength 45 = .ok (.invokespecial 212, 3) := dk_183 0 212 (dk_at dksJ10_hugeLength_1 21 rfl rfl)
theorem dJ10_hugeLength_48 : decode cJ10_hugeLength 48 = .ok (.athrow, 1) := dk_191 (dk_at dksJ10_hugeLength_2 0 rfl rfl)
theorem dJ10_hugeLength_49 : decode cJ10_hugeLength 49 = .ok (.iload_n 2, 1) := dk_28 (dk_at dksJ10_hugeLength_2 1 rfl rfl)
theorem dJ10_hugeLength_50 : decode cJ10_hugeLength 50 = .ok (.ldc 200, 2) := dk_18 200 (dk_at dksJ10_hugeLength_2 2 rfl rfl)
theorem dJ10_hugeLength_52 : decode cJ10_hugeLength 52 = .ok (.if_icmp .gt 6, 3) := dk_163 0 6 (dk_at dksJ10_hugeLength_2 4 rfl rfl)
theorem dJ10_hugeLength_55 : decode cJ10_hugeLength 55 = .ok (.ldc 200, 2) := dk_18 200 (dk_at dksJ10_hugeLength_2 7 rfl rfl)
theorem dJ10_hugeLength_57 : decode cJ10_hugeLength 57 = .ok (.ireturn, 1) := dk_172 (dk_at dksJ10_hugeLength_2 9 rfl rfl)
theorem dJ10_hugeLength_58 : decode cJ10_hugeLength 58 = .ok (.iload_n 2, 1) := dk_28 (dk_at dksJ10_hugeLength_2 10 rfl rfl)
theorem dJ10_hugeLength_59 : decode cJ10_hugeLength 59 = .ok (.ireturn, 1) := dk_172 (dk_at dksJ10_hugeLength_2 11 rfl rfl)
theorem q24 : (Jvm.Cond.initialized "jdk/internal/util/ArraysSupport") ∈ lw_all := lw_g (lw_at lw_m1 17 rfl) rfl
theorem q315 : (Jvm.Cond.static ({ cls := "jdk/internal/util/ArraysSupport", name := "newLength", desc := "(III)I" } : Jvm.MethodName)) ∈ lw_all := lw_g (lw_at lw_m2 68 rfl) rfl
theorem q316 : (Jvm.Cond.code ({ cls := "jdk/internal/util/ArraysSupport", name := "newLength", desc := "(III)I" } : Jvm.MethodName) prog_37_method_27_code (4 : Nat) (Option.some Jvm.ClassFile.FieldType.int)) ∈ lw_all := lw_g (lw_at lw_m2 69 rfl) rfl
theorem q317 : (Jvm.Cond.methodLink "jdk/internal/util/ArraysSupport" (194 : Nat) ({ cls := "java/lang/Math", name := "max", desc := "(II)I" } : Jvm.MethodName)) ∈ lw_all := lw_g (lw_at lw_m2 70 rfl) rfl
theorem q320 : (Jvm.Cond.constant "jdk/internal/util/ArraysSupport" (200 : Nat) (2147483639 : Int32)) ∈ lw_all := lw_g (lw_at lw_m2 73 rfl) rfl
theorem q321 : (Jvm.Cond.methodLink "jdk/internal/util/ArraysSupport" (201 : Nat) ({ cls := "jdk/internal/util/ArraysSupport", name := "hugeLength", desc := "(II)I" } : Jvm.MethodName)) ∈ lw_all := lw_g (lw_at lw_m2 74 rfl) rfl
theorem q322 : (Jvm.Cond.static ({ cls := "jdk/internal/util/ArraysSupport", name := "hugeLength", desc := "(II)I" } : Jvm.MethodName)) ∈ lw_all := lw_g (lw_at lw_m2 75 rfl) rfl
theorem q323 : (Jvm.Cond.code ({ cls := "jdk/internal/util/ArraysSupport", name := "hugeLength", desc := "(II)I" } : Jvm.MethodName) prog_37_method_28_code (3 : Nat) (Option.some Jvm.ClassFile.FieldType.int)) ∈ lw_all := lw_g (lw_at lw_m2 76 rfl) rfl
/-! java/util/Arrays -/
set_option maxRecDepth 100000
def RJ11 : String := "java/util/Arrays"
abbrev cJ11_copyOf : ByteArray := prog_29_method_119_code
def yJ11_copyOf : MethodName := ⟨RJ11, "copyOf", "([Ljava/lang/Object;I)[Ljava/lang/Object;"⟩
def dkwJ11_copyOf_0 : List UInt8 := [42, 27, 42, 182, 0, 86, 184, 1, 44, 176]
abbrev dktJ11_copyOf_0 : List UInt8 := dkwJ11_copyOf_0 ++ []
theorem dksJ11_copyOf_0 : cJ11_copyOf.data.toList.drop 0 = dktJ11_copyOf_0 := by decide +kernel
theorem dJ11_copyOf_0 : decode cJ11_copyOf 0 = .ok (.aload_n 0, 1) := dk_42 (dk_at dksJ11_copyOf_0 0 rfl rfl)
theorem dJ11_copyOf_1 : decode cJ11_copyOf 1 = .ok (.iload_n 1, 1) := dk_27 (dk_at dksJ11_copyOf_0 1 rfl rfl)
theorem dJ11_copyOf_2 : decode cJ11_copyOf 2 = .ok (.aload_n 0, 1) := dk_42 (dk_at dksJ11_copyOf_0 2 rfl rfl)
theorem dJ11_copyOf_3 : decode cJ11_copyOf 3 = .ok (.invokevirtual 86, 3) := dk_182 0 86 (dk_at dksJ11_copyOf_0 3 rfl rfl)
theorem dJ11_copyOf_6 : decode cJ11_copyOf 6 = .ok (.invokestatic 300, 3) := dk_184 1 44 (dk_at dksJ11_copyOf_0 6 rfl rfl)
theorem dJ11_copyOf_9 : decode cJ11_copyOf 9 = .ok (.areturn, 1) := dk_176 (dk_at dksJ11_copyOf_0 9 rfl rfl)
abbrev cJ11_copyOf_2 : ByteArray := prog_29_method_120_code
def yJ11_copyOf_2 : MethodName := ⟨RJ11, "copyOf", "([Ljava/lang/Object;ILjava/lang/Class;)[Ljava/lang/Object;"⟩
def dkwJ11_copyOf_2_1 : List UInt8 := [78, 42, 3, 45, 3, 42, 190, 27, 184, 1, 48, 184, 0, 150, 45, 176]
abbrev dktJ11_copyOf_2_1 : List UInt8 := dkwJ11_copyOf_2_1 ++ []
def dkwJ11_copyOf_2_0 : List UInt8 := [44, 18, 110, 166, 0, 10, 27, 189, 0, 2, 167, 0, 14, 44, 182, 0, 90, 27, 184, 0, 95, 192, 0, 110]
abbrev dktJ11_copyOf_2_0 : List UInt8 := dkwJ11_copyOf_2_0 ++ dktJ11_copyOf_2_1
theorem dksJ11_copyOf_2_0 : cJ11_copyOf_2.data.toList.drop 0 = dktJ11_copyOf_2_0 := by decide +kernel
theorem dksJ11_copyOf_2_1 : cJ11_copyOf_2.data.toList.drop 24 = dktJ11_copyOf_2_1 := dk_seg dksJ11_copyOf_2_0 24 rfl rfl
theorem dJ11_copyOf_2_0 : decode cJ11_copyOf_2 0 = .ok (.aload_n 2, 1) := dk_44 (dk_at dksJ11_copyOf_2_0 0 rfl rfl)
theorem dJ11_copyOf_2_1 : decode cJ11_copyOf_2 1 = .ok (.ldc 110, 2) := dk_18 110 (dk_at dksJ11_copyOf_2_0 1 rfl rfl)
theorem dJ11_copyOf_2_3 : decode cJ11_copyOf_2 3 = .ok (.if_acmp .ne 10, 3) := dk_166 0 10 (dk_at dksJ11_copyOf_2_0 3 rfl rfl)
theorem dJ11_copyOf_2_6 : decode cJ11_copyOf_2 6 = .ok (.iload_n 1, 1) := dk_27 (dk_at dksJ11_copyOf_2_0 6 rfl rfl)
theorem dJ11_copyOf_2_7 : decode cJ11_copyOf_2 7 = .ok (.anewarray 2, 3) := dk_189 0 2 (dk_at dksJ11_copyOf_2_0 7 rfl rfl)
theorem dJ11_copyOf_2_10 : decode cJ11_copyOf_2 10 = .ok (.goto 14, 3) := dk_167 0 14 (dk_at dksJ11_copyOf_2_0 10 rfl rfl)
theorem dJ11_copyOf_2_13 : decode cJ11_copyOf_2 13 = .ok (.aload_n 2, 1) := dk_44 (dk_at dksJ11_copyOf_2_0 13 rfl rfl)
theorem dJ11_copyOf_2_14 : decode cJ11_copyOf_2 14 = .ok (.invokevirtual 90, 3) := dk_182 0 90 (dk_at dksJ11_copyOf_2_0 14 rfl rfl)
theorem dJ11_copyOf_2_17 : decode cJ11_copyOf_2 17 = .ok (.iload_n 1, 1) := dk_27 (dk_at dksJ11_copyOf_2_0 17 rfl rfl)
theorem dJ11_copyOf_2_18 : decode cJ11_copyOf_2 18 = .ok (.invokestatic 95, 3) := dk_184 0 95 (dk_at dksJ11_copyOf_2_0 18 rfl rfl)
theorem dJ11_copyOf_2_21 : decode cJ11_copyOf_2 21 = .ok (.checkcast 110, 3) := dk_192 0 110 (dk_at dksJ11_copyOf_2_0 21 rfl rfl)
theorem dJ11_copyOf_2_24 : decode cJ11_copyOf_2 24 = .ok (.astore_n 3, 1) := dk_78 (dk_at dksJ11_copyOf_2_1 0 rfl rfl)
theorem dJ11_copyOf_2_25 : decode cJ11_copyOf_2 25 = .ok (.aload_n 0, 1) := dk_42 (dk_at dksJ11_copyOf_2_1 1 rfl rfl)
theorem dJ11_copyOf_2_26 : decode cJ11_copyOf_2 26 = .ok (.iconst 0, 1) := dk_3 (dk_at dksJ11_copyOf_2_1 2 rfl rfl)
theorem dJ11_copyOf_2_27 : decode cJ11_copyOf_2 27 = .ok (.aload_n 3, 1) := dk_45 (dk_at dksJ11_copyOf_2_1 3 rfl rfl)
theorem dJ11_copyOf_2_28 : decode cJ11_copyOf_2 28 = .ok (.iconst 0, 1) := dk_3 (dk_at dksJ11_copyOf_2_1 4 rfl rfl)
theorem dJ11_copyOf_2_29 : decode cJ11_copyOf_2 29 = .ok (.aload_n 0, 1) := dk_42 (dk_at dksJ11_copyOf_2_1 5 rfl rfl)
theorem dJ11_copyOf_2_30 : decode cJ11_copyOf_2 30 = .ok (.arraylength, 1) := dk_190 (dk_at dksJ11_copyOf_2_1 6 rfl rfl)
theorem dJ11_copyOf_2_31 : decode cJ11_copyOf_2 31 = .ok (.iload_n 1, 1) := dk_27 (dk_at dksJ11_copyOf_2_1 7 rfl rfl)
theorem dJ11_copyOf_2_32 : decode cJ11_copyOf_2 32 = .ok (.invokestatic 304, 3) := dk_184 1 48 (dk_at dksJ11_copyOf_2_1 8 rfl rfl)
theorem dJ11_copyOf_2_35 : decode cJ11_copyOf_2 35 = .ok (.invokestatic 150, 3) := dk_184 0 150 (dk_at dksJ11_copyOf_2_1 11 rfl rfl)
theorem dJ11_copyOf_2_38 : decode cJ11_copyOf_2 38 = .ok (.aload_n 3, 1) := dk_45 (dk_at dksJ11_copyOf_2_1 14 rfl rfl)
theorem dJ11_copyOf_2_39 : decode cJ11_copyOf_2 39 = .ok (.areturn, 1) := dk_176 (dk_at dksJ11_copyOf_2_1 15 rfl rfl)
theorem q25 : (Jvm.Cond.initialized "java/util/Arrays") ∈ lw_all := lw_g (lw_at lw_m1 18 rfl) rfl
theorem q325 : (Jvm.Cond.static ({ cls := "java/util/Arrays", name := "copyOf", desc := "([Ljava/lang/Object;I)[Ljava/lang/Object;" } : Jvm.MethodName)) ∈ lw_all := lw_g (lw_at lw_m2 78 rfl) rfl
theorem q326 : (Jvm.Cond.code ({ cls := "java/util/Arrays", name := "copyOf", desc := "([Ljava/lang/Object;I)[Ljava/lang/Object;" } : Jvm.MethodName) prog_29_method_119_code (2 : Nat) (Option.some (Jvm.ClassFile.FieldType.array (Jvm.ClassFile.FieldType.object "java/lang/Object")))) ∈ lw_all := lw_g (lw_at lw_m2 79 rfl) rfl
theorem q327 : (Jvm.Cond.methodLink "java/util/Arrays" (86 : Nat) ({ cls := "java/lang/Object", name := "getClass", desc := "()Ljava/lang/Class;" } : Jvm.MethodName)) ∈ lw_all := lw_g (lw_at lw_m2 80 rfl) rfl
theorem q339 : (Jvm.Cond.methodLink "java/util/Arrays" (300 : Nat) ({ cls := "java/util/Arrays", name := "copyOf", desc := "([Ljava/lang/Object;ILjava/lang/Class;)[Ljava/lang/Object;" } : Jvm.MethodName)) ∈ lw_all := lw_g (lw_at lw_m2 92 rfl) rfl
theorem q340 : (Jvm.Cond.static ({ cls := "java/util/Arrays", name := "copyOf", desc := "([Ljava/lang/Object;ILjava/lang/Class;)[Ljava/lang/Object;" } : Jvm.MethodName)) ∈ lw_all := lw_g (lw_at lw_m2 93 rfl) rfl
theorem q341 : (Jvm.Cond.code ({ cls := "java/util/Arrays", name := "copyOf", desc := "([Ljava/lang/Object;ILjava/lang/Class;)[Ljava/lang/Object;" } : Jvm.MethodName) prog_29_method_120_code (4 : Nat) (Option.some (Jvm.ClassFile.FieldType.array (Jvm.ClassFile.FieldType.object "java/lang/Object")))) ∈ lw_all := lw_g (lw_at lw_m2 94 rfl) rfl
theorem q342 : (Jvm.Cond.classLink "java/util/Arrays" (110 : Nat) "[Ljava/lang/Object;") ∈ lw_all := lw_g (lw_at lw_m2 95 rfl) rfl
theorem q344 : (Jvm.Cond.classLink "java/util/Arrays" (2 : Nat) "java/lang/Object") ∈ lw_all := lw_g (lw_at lw_m2 97 rfl) rfl
theorem q345 : (Jvm.Cond.methodLink "java/util/Arrays" (304 : Nat) ({ cls := "java/lang/Math", name := "min", desc := "(II)I" } : Jvm.MethodName)) ∈ lw_all := lw_g (lw_at lw_m2 98 rfl) rfl
theorem q346 : (Jvm.Cond.methodLink "java/util/Arrays" (150 : Nat) ({ cls := "java/lang/System", name := "arraycopy", desc := "(Ljava/lang/Object;ILjava/lang/Object;II)V" } : Jvm.MethodName)) ∈ lw_all := lw_g (lw_at lw_m2 99 rfl) rfl
/-! java/util/Objects -/
set_option maxRecDepth 100000
def RJ13 : String := "java/util/Objects"
abbrev cJ13_checkIndex : ByteArray := prog_34_method_17_code
def yJ13_checkIndex : MethodName := ⟨RJ13, "checkIndex", "(II)I"⟩
def dkwJ13_checkIndex_0 : List UInt8 := [26, 27, 1, 184, 0, 105, 172]
abbrev dktJ13_checkIndex_0 : List UInt8 := dkwJ13_checkIndex_0 ++ []
theorem dksJ13_checkIndex_0 : cJ13_checkIndex.data.toList.drop 0 = dktJ13_checkIndex_0 := by decide +kernel
theorem dJ13_checkIndex_0 : decode cJ13_checkIndex 0 = .ok (.iload_n 0, 1) := dk_26 (dk_at dksJ13_checkIndex_0 0 rfl rfl)
theorem dJ13_checkIndex_1 : decode cJ13_checkIndex 1 = .ok (.iload_n 1, 1) := dk_27 (dk_at dksJ13_checkIndex_0 1 rfl rfl)
theorem dJ13_checkIndex_2 : decode cJ13_checkIndex 2 = .ok (.aconst_null, 1) := dk_1 (dk_at dksJ13_checkIndex_0 2 rfl rfl)
theorem dJ13_checkIndex_3 : decode cJ13_checkIndex 3 = .ok (.invokestatic 105, 3) := dk_184 0 105 (dk_at dksJ13_checkIndex_0 3 rfl rfl)
theorem dJ13_checkIndex_6 : decode cJ13_checkIndex 6 = .ok (.ireturn, 1) := dk_172 (dk_at dksJ13_checkIndex_0 6 rfl rfl)
theorem q29 : (Jvm.Cond.initialized "java/util/Objects") ∈ lw_all := lw_g (lw_at lw_m1 22 rfl) rfl
theorem q423 : (Jvm.Cond.static ({ cls := "java/util/Objects", name := "checkIndex", desc := "(II)I" } : Jvm.MethodName)) ∈ lw_all := lw_g (lw_at lw_m2 176 rfl) rfl
theorem q424 : (Jvm.Cond.code ({ cls := "java/util/Objects", name := "checkIndex", desc := "(II)I" } : Jvm.MethodName) prog_34_method_17_code (2 : Nat) (Option.some Jvm.ClassFile.FieldType.int)) ∈ lw_all := lw_g (lw_at lw_m2 177 rfl) rfl
theorem q425 : (Jvm.Cond.methodLink "java/util/Objects" (105 : Nat) ({ cls := "jdk/internal/util/Preconditions", name := "checkIndex", desc := "(IILjava/util/function/BiFunction;)I" } : Jvm.MethodName)) ∈ lw_all := lw_g (lw_at lw_m2 178 rfl) rfl
/-! jdk/internal/util/Preconditions -/
set_option maxRecDepth 100000
def RJ14 : String := "jdk/internal/util/Preconditions"
abbrev cJ14_checkIndex : ByteArray := prog_38_method_11_code
def yJ14_checkIndex : MethodName := ⟨RJ14, "checkIndex", "(IILjava/util/function/BiFunction;)I"⟩
def dkwJ14_checkIndex_0 : List UInt8 := [26, 155, 0, 8, 26, 27, 161, 0, 10, 44, 26, 27, 184, 0, 95, 191, 26, 172]
abbrev dktJ14_checkIndex_0 : List UInt8 := dkwJ14_checkIndex_0 ++ []
theorem dksJ14_checkIndex_0 : cJ14_checkIndex.data.toList.drop 0 = dktJ14_checkIndex_0 := by decide +kernel
theorem dJ14_checkIndex_0 : decode cJ14_checkIndex 0 = .ok (.iload_n 0, 1) := dk_26 (dk_at dksJ14_checkIndex_0 0 rfl rfl)
theorem dJ14_checkIndex_1 : decode cJ14_checkIndex 1 = .ok (.ifCond .lt 8, 3) := dk_155 0 8 (dk_at dksJ14_checkIndex_0 1 rfl rfl)
theorem dJ14_checkIndex_4 : decode cJ14_checkIndex 4 = .ok (.iload_n 0, 1) := dk_26 (dk_at dksJ14_checkIndex_0 4 rfl rfl)
theorem dJ14_checkIndex_5 : decode cJ14_checkIndex 5 = .ok (.iload_n 1, 1) := dk_27 (dk_at dksJ14_checkIndex_0 5 rfl rfl)
theorem dJ14_checkIndex_6 : decode cJ14_checkIndex 6 = .ok (.if_icmp .lt 10, 3) := dk_161 0 10 (dk_at dksJ14_checkIndex_0 6 rfl rfl)
theorem dJ14_checkIndex_9 : decode cJ14_checkIndex 9 = .ok (.aload_n 2, 1) := dk_44 (dk_at dksJ14_checkIndex_0 9 rfl rfl)
theorem dJ14_checkIndex_10 : decode cJ14_checkIndex 10 = .ok (.iload_n 0, 1) := dk_26 (dk_at dksJ14_checkIndex_0 10 rfl rfl)
theorem dJ14_checkIndex_11 : decode cJ14_checkIndex 11 = .ok (.iload_n 1, 1) := dk_27 (dk_at dksJ14_checkIndex_0 11 rfl rfl)
theorem dJ14_checkIndex_12 : decode cJ14_checkIndex 12 = .ok (.invokestatic 95, 3) := dk_184 0 95 (dk_at dksJ14_checkIndex_0 12 rfl rfl)
theorem dJ14_checkIndex_15 : decode cJ14_checkIndex 15 = .ok (.athrow, 1) := dk_191 (dk_at dksJ14_checkIndex_0 15 rfl rfl)
theorem dJ14_checkIndex_16 : decode cJ14_checkIndex 16 = .ok (.iload_n 0, 1) := dk_26 (dk_at dksJ14_checkIndex_0 16 rfl rfl)
theorem dJ14_checkIndex_17 : decode cJ14_checkIndex 17 = .ok (.ireturn, 1) := dk_172 (dk_at dksJ14_checkIndex_0 17 rfl rfl)
theorem q30 : (Jvm.Cond.initialized "jdk/internal/util/Preconditions") ∈ lw_all := lw_g (lw_at lw_m1 23 rfl) rfl
theorem q426 : (Jvm.Cond.static ({ cls := "jdk/internal/util/Preconditions", name := "checkIndex", desc := "(IILjava/util/function/BiFunction;)I" } : Jvm.MethodName)) ∈ lw_all := lw_g (lw_at lw_m2 179 rfl) rfl
theorem q427 : (Jvm.Cond.code ({ cls := "jdk/internal/util/Preconditions", name := "checkIndex", desc := "(IILjava/util/function/BiFunction;)I" } : Jvm.MethodName) prog_38_method_11_code (3 : Nat) (Option.some Jvm.ClassFile.FieldType.int)) ∈ lw_all := lw_g (lw_at lw_m2 180 rfl) rfl
/-! java/util/ArrayList$Itr -/
set_option maxRecDepth 100000
def RJ15 : String := "java/util/ArrayList$Itr"
def TJ15 : u_T := fun k => match k with
  | 0 => ("java/util/ArrayList$Itr", "cursor", "I", false)
  | 1 => ("java/util/ArrayList$Itr", "lastRet", "I", false)
  | 2 => ("java/util/ArrayList$Itr", "expectedModCount", "I", false)
  | _ => ("java/util/ArrayList$Itr", "this$0", "Ljava/util/ArrayList;", true)
def tyJ15 : Nat → FieldType := fun k => match k with
  | 0 => .int
  | 1 => .int
  | 2 => .int
  | _ => .object "java/util/ArrayList"
abbrev wsJ150 : List Cond := u_ws RJ15 TJ15 4
theorem nmJ15 : ∀ a, a < 4 → ∀ b, b < 4 → a ≠ b → (TJ15 a).2.1 ≠ (TJ15 b).2.1 := by decide +kernel
theorem tyJ15_ok : ∀ k, k < 4 → parseFieldDescriptor (TJ15 k).2.2.1 = some (tyJ15 k) := by decide +kernel
abbrev cJ15_init : ByteArray := prog_28_method_1_code
def yJ15_init : MethodName := ⟨RJ15, "<init>", "(Ljava/util/ArrayList;)V"⟩
def dkwJ15_init_1 : List UInt8 := [181, 0, 22, 177]
abbrev dktJ15_init_1 : List UInt8 := dkwJ15_init_1 ++ []
def dkwJ15_init_0 : List UInt8 := [42, 43, 181, 0, 1, 42, 183, 0, 7, 42, 2, 181, 0, 13, 42, 42, 180, 0, 1, 180, 0, 17]
abbrev dktJ15_init_0 : List UInt8 := dkwJ15_init_0 ++ dktJ15_init_1
theorem dksJ15_init_0 : cJ15_init.data.toList.drop 0 = dktJ15_init_0 := by decide +kernel
theorem dksJ15_init_1 : cJ15_init.data.toList.drop 22 = dktJ15_init_1 := dk_seg dksJ15_init_0 22 rfl rfl
theorem dJ15_init_0 : decode cJ15_init 0 = .ok (.aload_n 0, 1) := dk_42 (dk_at dksJ15_init_0 0 rfl rfl)
theorem dJ15_init_1 : decode cJ15_init 1 = .ok (.aload_n 1, 1) := dk_43 (dk_at dksJ15_init_0 1 rfl rfl)
theorem dJ15_init_2 : decode cJ15_init 2 = .ok (.putfield 1, 3) := dk_181 0 1 (dk_at dksJ15_init_0 2 rfl rfl)
theorem dJ15_init_5 : decode cJ15_init 5 = .ok (.aload_n 0, 1) := dk_42 (dk_at dksJ15_init_0 5 rfl rfl)
theorem dJ15_init_6 : decode cJ15_init 6 = .ok (.invokespecial 7, 3) := dk_183 0 7 (dk_at dksJ15_init_0 6 rfl rfl)
theorem dJ15_init_9 : decode cJ15_init 9 = .ok (.aload_n 0, 1) := dk_42 (dk_at dksJ15_init_0 9 rfl rfl)
theorem dJ15_init_10 : decode cJ15_init 10 = .ok (.iconst (-1), 1) := dk_2 (dk_at dksJ15_init_0 10 rfl rfl)
theorem dJ15_init_11 : decode cJ15_init 11 = .ok (.putfield 13, 3) := dk_181 0 13 (dk_at dksJ15_init_0 11 rfl rfl)
theorem dJ15_init_14 : decode cJ15_init 14 = .ok (.aload_n 0, 1) := dk_42 (dk_at dksJ15_init_0 14 rfl rfl)
theorem dJ15_init_15 : decode cJ15_init 15 = .ok (.aload_n 0, 1) := dk_42 (dk_at dksJ15_init_0 15 rfl rfl)
theorem dJ15_init_16 : decode cJ15_init 16 = .ok (.getfield 1, 3) := dk_180 0 1 (dk_at dksJ15_init_0 16 rfl rfl)
theorem dJ15_init_19 : decode cJ15_init 19 = .ok (.getfield 17, 3) := dk_180 0 17 (dk_at dksJ15_init_0 19 rfl rfl)
theorem dJ15_init_22 : decode cJ15_init 22 = .ok (.putfield 22, 3) := dk_181 0 22 (dk_at dksJ15_init_1 0 rfl rfl)
theorem dJ15_init_25 : decode cJ15_init 25 = .ok (.return_, 1) := dk_177 (dk_at dksJ15_init_1 3 rfl rfl)
abbrev cJ15_hasNext : ByteArray := prog_28_method_2_code
def yJ15_hasNext : MethodName := ⟨RJ15, "hasNext", "()Z"⟩
def dkwJ15_hasNext_0 : List UInt8 := [42, 180, 0, 25, 42, 180, 0, 1, 180, 0, 28, 159, 0, 7, 4, 167, 0, 4, 3, 172]
abbrev dktJ15_hasNext_0 : List UInt8 := dkwJ15_hasNext_0 ++ []
theorem dksJ15_hasNext_0 : cJ15_hasNext.data.toList.drop 0 = dktJ15_hasNext_0 := by decide +kernel
theorem dJ15_hasNext_0 : decode cJ15_hasNext 0 = .ok (.aload_n 0, 1) := dk_42 (dk_at dksJ15_hasNext_0 0 rfl rfl)
theorem dJ15_hasNext_1 : decode cJ15_hasNext 1 = .ok (.getfield 25, 3) := dk_180 0 25 (dk_at dksJ15_hasNext_0 1 rfl rfl)
theorem dJ15_hasNext_4 : decode cJ15_hasNext 4 = .ok (.aload_n 0, 1) := dk_42 (dk_at dksJ15_hasNext_0 4 rfl rfl)
theorem dJ15_hasNext_5 : decode cJ15_hasNext 5 = .ok (.getfield 1, 3) := dk_180 0 1 (dk_at dksJ15_hasNext_0 5 rfl rfl)
theorem dJ15_hasNext_8 : decode cJ15_hasNext 8 = .ok (.getfield 28, 3) := dk_180 0 28 (dk_at dksJ15_hasNext_0 8 rfl rfl)
theorem dJ15_hasNext_11 : decode cJ15_hasNext 11 = .ok (.if_icmp .eq 7, 3) := dk_159 0 7 (dk_at dksJ15_hasNext_0 11 rfl rfl)
theorem dJ15_hasNext_14 : decode cJ15_hasNext 14 = .ok (.iconst 1, 1) := dk_4 (dk_at dksJ15_hasNext_0 14 rfl rfl)
theorem dJ15_hasNext_15 : decode cJ15_hasNext 15 = .ok (.goto 4, 3) := dk_167 0 4 (dk_at dksJ15_hasNext_0 15 rfl rfl)
theorem dJ15_hasNext_18 : decode cJ15_hasNext 18 = .ok (.iconst 0, 1) := dk_3 (dk_at dksJ15_hasNext_0 18 rfl rfl)
theorem dJ15_hasNext_19 : decode cJ15_hasNext 19 = .ok (.ireturn, 1) := dk_172 (dk_at dksJ15_hasNext_0 19 rfl rfl)
abbrev cJ15_next : ByteArray := prog_28_method_3_code
def yJ15_next : MethodName := ⟨RJ15, "next", "()Ljava/lang/Object;"⟩
def dkwJ15_next_2 : List UInt8 := [183, 0, 43, 191, 42, 27, 4, 96, 181, 0, 25, 44, 42, 27, 90, 181, 0, 13, 50, 176]
abbrev dktJ15_next_2 : List UInt8 := dkwJ15_next_2 ++ []
def dkwJ15_next_1 : List UInt8 := [183, 0, 36, 191, 42, 180, 0, 1, 180, 0, 37, 77, 27, 44, 190, 161, 0, 11, 187, 0, 41, 89]
abbrev dktJ15_next_1 : List UInt8 := dkwJ15_next_1 ++ dktJ15_next_2
def dkwJ15_next_0 : List UInt8 := [42, 182, 0, 31, 42, 180, 0, 25, 60, 27, 42, 180, 0, 1, 180, 0, 28, 161, 0, 11, 187, 0, 34, 89]
abbrev dktJ15_next_0 : List UInt8 := dkwJ15_next_0 ++ dktJ15_next_1
theorem dksJ15_next_0 : cJ15_next.data.toList.drop 0 = dktJ15_next_0 := by decide +kernel
theorem dksJ15_next_1 : cJ15_next.data.toList.drop 24 = dktJ15_next_1 := dk_seg dksJ15_next_0 24 rfl rfl
theorem dksJ15_next_2 : cJ15_next.data.toList.drop 46 = dktJ15_next_2 := dk_seg dksJ15_next_1 22 rfl rfl
theorem dJ15_next_0 : decode cJ15_next 0 = .ok (.aload_n 0, 1) := dk_42 (dk_at dksJ15_next_0 0 rfl rfl)
theorem dJ15_next_1 : decode cJ15_next 1 = .ok (.invokevirtual 31, 3) := dk_182 0 31 (dk_at dksJ15_next_0 1 rfl rfl)
theorem dJ15_next_4 : decode cJ15_next 4 = .ok (.aload_n 0, 1) := dk_42 (dk_at dksJ15_next_0 4 rfl rfl)
theorem dJ15_next_5 : decode cJ15_next 5 = .ok (.getfield 25, 3) := dk_180 0 25 (dk_at dksJ15_next_0 5 rfl rfl)
theorem dJ15_next_8 : decode cJ15_next 8 = .ok (.istore_n 1, 1) := dk_60 (dk_at dksJ15_next_0 8 rfl rfl)
theorem dJ15_next_9 : decode cJ15_next 9 = .ok (.iload_n 1, 1) := dk_27 (dk_at dksJ15_next_0 9 rfl rfl)
theorem dJ15_next_10 : decode cJ15_next 10 = .ok (.aload_n 0, 1) := dk_42 (dk_at dksJ15_next_0 10 rfl rfl)
theorem dJ15_next_11 : decode cJ15_next 11 = .ok (.getfield 1, 3) := dk_180 0 1 (dk_at dksJ15_next_0 11 rfl rfl)
theorem dJ15_next_14 : decode cJ15_next 14 = .ok (.getfield 28, 3) := dk_180 0 28 (dk_at dksJ15_next_0 14 rfl rfl)
theorem dJ15_next_17 : decode cJ15_next 17 = .ok (.if_icmp .lt 11, 3) := dk_161 0 11 (dk_at dksJ15_next_0 17 rfl rfl)
theorem dJ15_next_20 : decode cJ15_next 20 = .ok (.new 34, 3) := dk_187 0 34 (dk_at dksJ15_next_0 20 rfl rfl)
theorem dJ15_next_23 : decode cJ15_next 23 = .ok (.dup, 1) := dk_89 (dk_at dksJ15_next_0 23 rfl rfl)
theorem dJ15_next_24 : decode cJ15_next 24 = .ok (.invokespecial 36, 3) := dk_183 0 36 (dk_at dksJ15_next_1 0 rfl rfl)
theorem dJ15_next_27 : decode cJ15_next 27 = .ok (.athrow, 1) := dk_191 (dk_at dksJ15_next_1 3 rfl rfl)
theorem dJ15_next_28 : decode cJ15_next 28 = .ok (.aload_n 0, 1) := dk_42 (dk_at dksJ15_next_1 4 rfl rfl)
theorem dJ15_next_29 : decode cJ15_next 29 = .ok (.getfield 1, 3) := dk_180 0 1 (dk_at dksJ15_next_1 5 rfl rfl)
theorem dJ15_next_32 : decode cJ15_next 32 = .ok (.getfield 37, 3) := dk_180 0 37 (dk_at dksJ15_next_1 8 rfl rfl)
theorem dJ15_next_35 : decode cJ15_next 35 = .ok (.astore_n 2, 1) := dk_77 (dk_at dksJ15_next_1 11 rfl rfl)
theorem dJ15_next_36 : decode cJ15_next 36 = .ok (.iload_n 1, 1) := dk_27 (dk_at dksJ15_next_1 12 rfl rfl)
theorem dJ15_next_37 : decode cJ15_next 37 = .ok (.aload_n 2, 1) := dk_44 (dk_at dksJ15_next_1 13 rfl rfl)
theorem dJ15_next_38 : decode cJ15_next 38 = .ok (.arraylength, 1) := dk_190 (dk_at dksJ15_next_1 14 rfl rfl)
theorem dJ15_next_39 : decode cJ15_next 39 = .ok (.if_icmp .lt 11, 3) := dk_161 0 11 (dk_at dksJ15_next_1 15 rfl rfl)
theorem dJ15_next_42 : decode cJ15_next 42 = .ok (.new 41, 3) := dk_187 0 41 (dk_at dksJ15_next_1 18 rfl rfl)
theorem dJ15_next_45 : decode cJ15_next 45 = .ok (.dup, 1) := dk_89 (dk_at dksJ15_next_1 21 rfl rfl)
theorem dJ15_next_46 : decode cJ15_next 46 = .ok (.invokespecial 43, 3) := dk_183 0 43 (dk_at dksJ15_next_2 0 rfl rfl)
theorem dJ15_next_49 : decode cJ15_next 49 = .ok (.athrow, 1) := dk_191 (dk_at dksJ15_next_2 3 rfl rfl)
theorem dJ15_next_50 : decode cJ15_next 50 = .ok (.aload_n 0, 1) := dk_42 (dk_at dksJ15_next_2 4 rfl rfl)
theorem dJ15_next_51 : decode cJ15_next 51 = .ok (.iload_n 1, 1) := dk_27 (dk_at dksJ15_next_2 5 rfl rfl)
theorem dJ15_next_52 : decode cJ15_next 52 = .ok (.iconst 1, 1) := dk_4 (dk_at dksJ15_next_2 6 rfl rfl)
theorem dJ15_next_53 : decode cJ15_next 53 = .ok (.iadd, 1) := dk_96 (dk_at dksJ15_next_2 7 rfl rfl)
theorem dJ15_next_54 : decode cJ15_next 54 = .ok (.putfield 25, 3) := dk_181 0 25 (dk_at dksJ15_next_2 8 rfl rfl)
theorem dJ15_next_57 : decode cJ15_next 57 = .ok (.aload_n 2, 1) := dk_44 (dk_at dksJ15_next_2 11 rfl rfl)
theorem dJ15_next_58 : decode cJ15_next 58 = .ok (.aload_n 0, 1) := dk_42 (dk_at dksJ15_next_2 12 rfl rfl)
theorem dJ15_next_59 : decode cJ15_next 59 = .ok (.iload_n 1, 1) := dk_27 (dk_at dksJ15_next_2 13 rfl rfl)
theorem dJ15_next_60 : decode cJ15_next 60 = .ok (.dup_x1, 1) := dk_90 (dk_at dksJ15_next_2 14 rfl rfl)
theorem dJ15_next_61 : decode cJ15_next 61 = .ok (.putfield 13, 3) := dk_181 0 13 (dk_at dksJ15_next_2 15 rfl rfl)
theorem dJ15_next_64 : decode cJ15_next 64 = .ok (.aaload, 1) := dk_50 (dk_at dksJ15_next_2 18 rfl rfl)
theorem dJ15_next_65 : decode cJ15_next 65 = .ok (.areturn, 1) := dk_176 (dk_at dksJ15_next_2 19 rfl rfl)
abbrev cJ15_checkForComodification : ByteArray := prog_28_method_6_code
def yJ15_checkForComodification : MethodName := ⟨RJ15, "checkForComodification", "()V"⟩
def dkwJ15_checkForComodification_0 : List UInt8 := [42, 180, 0, 1, 180, 0, 17, 42, 180, 0, 22, 159, 0, 11, 187, 0, 41, 89, 183, 0, 43, 191, 177]
abbrev dktJ15_checkForComodification_0 : List UInt8 := dkwJ15_checkForComodification_0 ++ []
theorem dksJ15_checkForComodification_0 : cJ15_checkForComodification.data.toList.drop 0 = dktJ15_checkForComodification_0 := by decide +kernel
theorem dJ15_checkForComodification_0 : decode cJ15_checkForComodification 0 = .ok (.aload_n 0, 1) := dk_42 (dk_at dksJ15_checkForComodification_0 0 rfl rfl)
theorem dJ15_checkForComodification_1 : decode cJ15_checkForComodification 1 = .ok (.getfield 1, 3) := dk_180 0 1 (dk_at dksJ15_checkForComodification_0 1 rfl rfl)
theorem dJ15_checkForComodification_4 : decode cJ15_checkForComodification 4 = .ok (.getfield 17, 3) := dk_180 0 17 (dk_at dksJ15_checkForComodification_0 4 rfl rfl)
theorem dJ15_checkForComodification_7 : decode cJ15_checkForComodification 7 = .ok (.aload_n 0, 1) := dk_42 (dk_at dksJ15_checkForComodification_0 7 rfl rfl)
theorem dJ15_checkForComodification_8 : decode cJ15_checkForComodification 8 = .ok (.getfield 22, 3) := dk_180 0 22 (dk_at dksJ15_checkForComodification_0 8 rfl rfl)
theorem dJ15_checkForComodification_11 : decode cJ15_checkForComodification 11 = .ok (.if_icmp .eq 11, 3) := dk_159 0 11 (dk_at dksJ15_checkForComodification_0 11 rfl rfl)
theorem dJ15_checkForComodification_14 : decode cJ15_checkForComodification 14 = .ok (.new 41, 3) := dk_187 0 41 (dk_at dksJ15_checkForComodification_0 14 rfl rfl)
theorem dJ15_checkForComodification_17 : decode cJ15_checkForComodification 17 = .ok (.dup, 1) := dk_89 (dk_at dksJ15_checkForComodification_0 17 rfl rfl)
theorem dJ15_checkForComodification_18 : decode cJ15_checkForComodification 18 = .ok (.invokespecial 43, 3) := dk_183 0 43 (dk_at dksJ15_checkForComodification_0 18 rfl rfl)
theorem dJ15_checkForComodification_21 : decode cJ15_checkForComodification 21 = .ok (.athrow, 1) := dk_191 (dk_at dksJ15_checkForComodification_0 21 rfl rfl)
theorem dJ15_checkForComodification_22 : decode cJ15_checkForComodification 22 = .ok (.return_, 1) := dk_177 (dk_at dksJ15_checkForComodification_0 22 rfl rfl)
theorem q31 : (Jvm.Cond.initialized "java/util/ArrayList$Itr") ∈ lw_all := lw_g (lw_at lw_m1 24 rfl) rfl
theorem q170 : (Jvm.Cond.fieldLink "java/util/ArrayList$Itr" (37 : Nat) "java/util/ArrayList" "elementData" "[Ljava/lang/Object;") ∈ lw_all := lw_g (lw_at lw_m1 163 rfl) rfl
theorem q171 : (Jvm.Cond.fieldLinkNest "java/util/ArrayList$Itr" (28 : Nat) "java/util/ArrayList" "size" "I" "java/util/ArrayList") ∈ lw_tbl := lw_at lw_m1 164 rfl
theorem q174 : (Jvm.Cond.fieldLink "java/util/ArrayList$Itr" (17 : Nat) "java/util/ArrayList" "modCount" "I") ∈ lw_all := lw_g (lw_at lw_m1 167 rfl) rfl
theorem q336 : (Jvm.Cond.selects "java/util/ArrayList$Itr" ({ cls := "java/lang/Object", name := "getClass", desc := "()Ljava/lang/Class;" } : Jvm.MethodName) ({ cls := "java/lang/Object", name := "getClass", desc := "()Ljava/lang/Class;" } : Jvm.MethodName)) ∈ lw_all := lw_g (lw_at lw_m2 89 rfl) rfl
theorem q456 : (Jvm.Cond.instantiable "java/util/ArrayList$Itr" (4 : Nat)) ∈ lw_all := lw_g (lw_at lw_m2 209 rfl) rfl
theorem q458 : (Jvm.Cond.instanceMethod ({ cls := "java/util/ArrayList$Itr", name := "<init>", desc := "(Ljava/util/ArrayList;)V" } : Jvm.MethodName)) ∈ lw_all := lw_g (lw_at lw_m2 211 rfl) rfl
theorem q459 : (Jvm.Cond.code ({ cls := "java/util/ArrayList$Itr", name := "<init>", desc := "(Ljava/util/ArrayList;)V" } : Jvm.MethodName) prog_28_method_1_code (2 : Nat) (Option.none : Option Jvm.ClassFile.FieldType)) ∈ lw_all := lw_g (lw_at lw_m2 212 rfl) rfl
theorem q460 : (Jvm.Cond.methodLink "java/util/ArrayList$Itr" (7 : Nat) ({ cls := "java/lang/Object", name := "<init>", desc := "()V" } : Jvm.MethodName)) ∈ lw_all := lw_g (lw_at lw_m2 213 rfl) rfl
theorem q461 : (Jvm.Cond.fieldLink "java/util/ArrayList$Itr" (25 : Nat) "java/util/ArrayList$Itr" "cursor" "I") ∈ lw_all := lw_g (lw_at lw_m2 214 rfl) rfl
theorem q462 : (Jvm.Cond.fieldLink "java/util/ArrayList$Itr" (13 : Nat) "java/util/ArrayList$Itr" "lastRet" "I") ∈ lw_all := lw_g (lw_at lw_m2 215 rfl) rfl
theorem q463 : (Jvm.Cond.fieldLink "java/util/ArrayList$Itr" (22 : Nat) "java/util/ArrayList$Itr" "expectedModCount" "I") ∈ lw_all := lw_g (lw_at lw_m2 216 rfl) rfl
theorem q464 : (Jvm.Cond.fieldLink "java/util/ArrayList$Itr" (1 : Nat) "java/util/ArrayList$Itr" "this$0" "Ljava/util/ArrayList;") ∈ lw_all := lw_g (lw_at lw_m2 217 rfl) rfl
theorem q465 : (Jvm.Cond.lays "java/util/ArrayList$Itr" "java/util/ArrayList$Itr" "cursor" "I") ∈ lw_all := lw_g (lw_at lw_m2 218 rfl) rfl
theorem q466 : (Jvm.Cond.soleField "java/util/ArrayList$Itr" "cursor") ∈ lw_all := lw_g (lw_at lw_m2 219 rfl) rfl
theorem q467 : (Jvm.Cond.lays "java/util/ArrayList$Itr" "java/util/ArrayList$Itr" "lastRet" "I") ∈ lw_all := lw_g (lw_at lw_m2 220 rfl) rfl
theorem q468 : (Jvm.Cond.soleField "java/util/ArrayList$Itr" "lastRet") ∈ lw_all := lw_g (lw_at lw_m2 221 rfl) rfl
theorem q469 : (Jvm.Cond.lays "java/util/ArrayList$Itr" "java/util/ArrayList$Itr" "expectedModCount" "I") ∈ lw_all := lw_g (lw_at lw_m2 222 rfl) rfl
theorem q470 : (Jvm.Cond.soleField "java/util/ArrayList$Itr" "expectedModCount") ∈ lw_all := lw_g (lw_at lw_m2 223 rfl) rfl
theorem q471 : (Jvm.Cond.laysFinal "java/util/ArrayList$Itr" "java/util/ArrayList$Itr" "this$0" "Ljava/util/ArrayList;") ∈ lw_all := lw_g (lw_at lw_m2 224 rfl) rfl
theorem q472 : (Jvm.Cond.soleField "java/util/ArrayList$Itr" "this$0") ∈ lw_all := lw_g (lw_at lw_m2 225 rfl) rfl
theorem q473 : (Jvm.Cond.superclass "java/util/ArrayList$Itr" "java/lang/Object") ∈ lw_all := lw_g (lw_at lw_m2 226 rfl) rfl
theorem q478 : (Jvm.Cond.castable "java/util/ArrayList$Itr" "java/util/Iterator") ∈ lw_tbl := lw_at lw_m2 231 rfl
theorem q479 : (Jvm.Cond.selects "java/util/ArrayList$Itr" ({ cls := "java/util/Iterator", name := "hasNext", desc := "()Z" } : Jvm.MethodName) ({ cls := "java/util/ArrayList$Itr", name := "hasNext", desc := "()Z" } : Jvm.MethodName)) ∈ lw_all := lw_g (lw_at lw_m2 232 rfl) rfl
theorem q480 : (Jvm.Cond.unhidden "java/util/ArrayList$Itr" "hasNext" "()Z") ∈ lw_tbl := lw_at lw_m2 233 rfl
theorem q481 : (Jvm.Cond.instanceMethod ({ cls := "java/util/ArrayList$Itr", name := "hasNext", desc := "()Z" } : Jvm.MethodName)) ∈ lw_all := lw_g (lw_at lw_m2 234 rfl) rfl
theorem q482 : (Jvm.Cond.publicMethod ({ cls := "java/util/ArrayList$Itr", name := "hasNext", desc := "()Z" } : Jvm.MethodName)) ∈ lw_tbl := lw_at lw_m2 235 rfl
theorem q483 : (Jvm.Cond.code ({ cls := "java/util/ArrayList$Itr", name := "hasNext", desc := "()Z" } : Jvm.MethodName) prog_28_method_2_code (1 : Nat) (Option.some Jvm.ClassFile.FieldType.boolean)) ∈ lw_all := lw_g (lw_at lw_m2 236 rfl) rfl
theorem q488 : (Jvm.Cond.selects "java/util/ArrayList$Itr" ({ cls := "java/util/Iterator", name := "next", desc := "()Ljava/lang/Object;" } : Jvm.MethodName) ({ cls := "java/util/ArrayList$Itr", name := "next", desc := "()Ljava/lang/Object;" } : Jvm.MethodName)) ∈ lw_all := lw_g (lw_at lw_m3 1 rfl) rfl
theorem q489 : (Jvm.Cond.unhidden "java/util/ArrayList$Itr" "next" "()Ljava/lang/Object;") ∈ lw_tbl := lw_at lw_m3 2 rfl
theorem q490 : (Jvm.Cond.instanceMethod ({ cls := "java/util/ArrayList$Itr", name := "next", desc := "()Ljava/lang/Object;" } : Jvm.MethodName)) ∈ lw_all := lw_g (lw_at lw_m3 3 rfl) rfl
theorem q491 : (Jvm.Cond.publicMethod ({ cls := "java/util/ArrayList$Itr", name := "next", desc := "()Ljava/lang/Object;" } : Jvm.MethodName)) ∈ lw_tbl := lw_at lw_m3 4 rfl
theorem q492 : (Jvm.Cond.code ({ cls := "java/util/ArrayList$Itr", name := "next", desc := "()Ljava/lang/Object;" } : Jvm.MethodName) prog_28_method_3_code (3 : Nat) (Option.some (Jvm.ClassFile.FieldType.object "java/lang/Object"))) ∈ lw_all := lw_g (lw_at lw_m3 5 rfl) rfl
theorem q493 : (Jvm.Cond.methodLink "java/util/ArrayList$Itr" (31 : Nat) ({ cls := "java/util/ArrayList$Itr", name := "checkForComodification", desc := "()V" } : Jvm.MethodName)) ∈ lw_all := lw_g (lw_at lw_m3 6 rfl) rfl
theorem q494 : (Jvm.Cond.instanceMethod ({ cls := "java/util/ArrayList$Itr", name := "checkForComodification", desc := "()V" } : Jvm.MethodName)) ∈ lw_all := lw_g (lw_at lw_m3 7 rfl) rfl
theorem q495 : (Jvm.Cond.selects "java/util/ArrayList$Itr" ({ cls := "java/util/ArrayList$Itr", name := "checkForComodification", desc := "()V" } : Jvm.MethodName) ({ cls := "java/util/ArrayList$Itr", name := "checkForComodification", desc := "()V" } : Jvm.MethodName)) ∈ lw_all := lw_g (lw_at lw_m3 8 rfl) rfl
theorem q496 : (Jvm.Cond.code ({ cls := "java/util/ArrayList$Itr", name := "checkForComodification", desc := "()V" } : Jvm.MethodName) prog_28_method_6_code (1 : Nat) (Option.none : Option Jvm.ClassFile.FieldType)) ∈ lw_all := lw_g (lw_at lw_m3 9 rfl) rfl
theorem q592 : (Jvm.Cond.castable "java/util/ArrayList$Itr" "java/lang/Object") ∈ lw_tbl := lw_at lw_m3 105 rfl
theorem in_J15 : ∀ w ∈ wsJ150, w ∈ lw_all := lw_in wsJ150 [465, 467, 469, 471] (by decide +kernel) (by decide +kernel)
/-! java/lang/Object -/
set_option maxRecDepth 100000
def RJ16 : String := "java/lang/Object"
abbrev cJ16_init : ByteArray := object_method_1_code
def yJ16_init : MethodName := ⟨RJ16, "<init>", "()V"⟩
theorem dJ16_init_0 : decode cJ16_init 0 = .ok (.return_, 1) := by decide +kernel
theorem q38 : (Jvm.Cond.instanceMethod ({ cls := "java/lang/Object", name := "<init>", desc := "()V" } : Jvm.MethodName)) ∈ lw_all := lw_g (lw_at lw_m1 31 rfl) rfl
theorem q39 : (Jvm.Cond.code ({ cls := "java/lang/Object", name := "<init>", desc := "()V" } : Jvm.MethodName) object_method_1_code (1 : Nat) (Option.none : Option Jvm.ClassFile.FieldType)) ∈ lw_all := lw_g (lw_at lw_m1 32 rfl) rfl
theorem q328 : (Jvm.Cond.instanceMethod ({ cls := "java/lang/Object", name := "getClass", desc := "()Ljava/lang/Class;" } : Jvm.MethodName)) ∈ lw_all := lw_g (lw_at lw_m2 81 rfl) rfl
theorem q329 : (Jvm.Cond.sameMethod "java/lang/Object" "java/lang/Object" "getClass" "()Ljava/lang/Class;") ∈ lw_all := lw_g (lw_at lw_m2 82 rfl) rfl
theorem q338 : (Jvm.Cond.native ({ cls := "java/lang/Object", name := "getClass", desc := "()Ljava/lang/Class;" } : Jvm.MethodName)) ∈ lw_all := lw_g (lw_at lw_m2 91 rfl) rfl
theorem q583 : (Jvm.Cond.initialized "java/lang/Object") ∈ lw_all := lw_g (lw_at lw_m3 96 rfl) rfl
theorem q597 : (Jvm.Cond.declares ({ cls := "java/lang/Object", name := "getClass", desc := "()Ljava/lang/Class;" } : Jvm.MethodName)) ∈ lw_tbl := lw_at lw_m3 110 rfl
theorem q599 : (Jvm.Cond.castable "[B" "java/lang/Object") ∈ lw_tbl := lw_at lw_m3 112 rfl
set_option maxRecDepth 100000
theorem q601 : (Jvm.Cond.castable "[I" "java/lang/Object") ∈ lw_tbl := lw_at lw_m3 114 rfl
set_option maxRecDepth 100000
theorem q598 : (Jvm.Cond.castable "[LLongRadixHeap;" "java/lang/Object") ∈ lw_tbl := lw_at lw_m3 111 rfl
set_option maxRecDepth 100000
theorem q595 : (Jvm.Cond.sameMethod "[Ljava/lang/Object;" "java/lang/Object" "getClass" "()Ljava/lang/Class;") ∈ lw_all := lw_g (lw_at lw_m3 108 rfl) rfl
set_option maxRecDepth 100000
theorem q596 : (Jvm.Cond.selects "[Ljava/lang/Object;" ({ cls := "java/lang/Object", name := "getClass", desc := "()Ljava/lang/Class;" } : Jvm.MethodName) ({ cls := "java/lang/Object", name := "getClass", desc := "()Ljava/lang/Class;" } : Jvm.MethodName)) ∈ lw_all := lw_g (lw_at lw_m3 109 rfl) rfl
theorem q602 : (Jvm.Cond.castable "[Ljava/lang/Object;" "java/lang/Object") ∈ lw_tbl := lw_at lw_m3 115 rfl
theorem q600 : (Jvm.Cond.castable "[Ljava/util/List;" "java/lang/Object") ∈ lw_tbl := lw_at lw_m3 113 rfl
set_option maxRecDepth 100000
theorem q603 : (Jvm.Cond.fieldLink "java/lang/Class" (13 : Nat) "java/lang/Class" "componentType" "Ljava/lang/Class;") ∈ lw_all := lw_g (lw_at lw_m3 116 rfl) rfl
set_option maxRecDepth 100000
theorem q23 : (Jvm.Cond.initialized "java/lang/Double") ∈ lw_all := lw_g (lw_at lw_m1 16 rfl) rfl
set_option maxRecDepth 100000
theorem q285 : (Jvm.Cond.static ({ cls := "java/lang/Double", name := "doubleToRawLongBits", desc := "(D)J" } : Jvm.MethodName)) ∈ lw_all := lw_g (lw_at lw_m2 38 rfl) rfl
theorem q286 : (Jvm.Cond.native ({ cls := "java/lang/Double", name := "doubleToRawLongBits", desc := "(D)J" } : Jvm.MethodName)) ∈ lw_all := lw_g (lw_at lw_m2 39 rfl) rfl
theorem q17 : (Jvm.Cond.initialized "java/lang/Long$LongCache") ∈ lw_all := lw_g (lw_at lw_m1 10 rfl) rfl
set_option maxRecDepth 100000
theorem q130 : (Jvm.Cond.laysStatic "java/lang/Long$LongCache" "cache" "[Ljava/lang/Long;") ∈ lw_tbl := lw_at lw_m1 123 rfl
theorem q594 : (Jvm.Cond.castable "java/lang/String" "java/lang/Object") ∈ lw_tbl := lw_at lw_m3 107 rfl
set_option maxRecDepth 100000
theorem q27 : (Jvm.Cond.initialized "java/lang/System") ∈ lw_all := lw_g (lw_at lw_m1 20 rfl) rfl
set_option maxRecDepth 100000
theorem q347 : (Jvm.Cond.static ({ cls := "java/lang/System", name := "arraycopy", desc := "(Ljava/lang/Object;ILjava/lang/Object;II)V" } : Jvm.MethodName)) ∈ lw_all := lw_g (lw_at lw_m2 100 rfl) rfl
theorem q348 : (Jvm.Cond.native ({ cls := "java/lang/System", name := "arraycopy", desc := "(Ljava/lang/Object;ILjava/lang/Object;II)V" } : Jvm.MethodName)) ∈ lw_all := lw_g (lw_at lw_m2 101 rfl) rfl
theorem q26 : (Jvm.Cond.initialized "java/lang/reflect/Array") ∈ lw_all := lw_g (lw_at lw_m1 19 rfl) rfl
set_option maxRecDepth 100000
theorem q476 : (Jvm.Cond.interfaceMethod "java/util/Iterator" "java/util/Iterator" "hasNext" "()Z") ∈ lw_tbl := lw_at lw_m2 229 rfl
set_option maxRecDepth 100000
theorem q477 : (Jvm.Cond.declares ({ cls := "java/util/Iterator", name := "hasNext", desc := "()Z" } : Jvm.MethodName)) ∈ lw_tbl := lw_at lw_m2 230 rfl
theorem q486 : (Jvm.Cond.interfaceMethod "java/util/Iterator" "java/util/Iterator" "next" "()Ljava/lang/Object;") ∈ lw_tbl := lw_at lw_m2 239 rfl
theorem q487 : (Jvm.Cond.declares ({ cls := "java/util/Iterator", name := "next", desc := "()Ljava/lang/Object;" } : Jvm.MethodName)) ∈ lw_tbl := lw_at lw_m3 0 rfl
theorem q294 : (Jvm.Cond.interfaceMethod "java/util/List" "java/util/List" "add" "(Ljava/lang/Object;)Z") ∈ lw_tbl := lw_at lw_m2 47 rfl
set_option maxRecDepth 100000
theorem q295 : (Jvm.Cond.declares ({ cls := "java/util/List", name := "add", desc := "(Ljava/lang/Object;)Z" } : Jvm.MethodName)) ∈ lw_tbl := lw_at lw_m2 48 rfl
theorem q353 : (Jvm.Cond.interfaceMethod "java/util/List" "java/util/List" "size" "()I") ∈ lw_tbl := lw_at lw_m2 106 rfl
theorem q354 : (Jvm.Cond.declares ({ cls := "java/util/List", name := "size", desc := "()I" } : Jvm.MethodName)) ∈ lw_tbl := lw_at lw_m2 107 rfl
theorem q415 : (Jvm.Cond.interfaceMethod "java/util/List" "java/util/List" "remove" "(I)Ljava/lang/Object;") ∈ lw_tbl := lw_at lw_m2 168 rfl
theorem q416 : (Jvm.Cond.declares ({ cls := "java/util/List", name := "remove", desc := "(I)Ljava/lang/Object;" } : Jvm.MethodName)) ∈ lw_tbl := lw_at lw_m2 169 rfl
theorem q439 : (Jvm.Cond.interfaceMethod "java/util/List" "java/util/List" "isEmpty" "()Z") ∈ lw_tbl := lw_at lw_m2 192 rfl
theorem q440 : (Jvm.Cond.declares ({ cls := "java/util/List", name := "isEmpty", desc := "()Z" } : Jvm.MethodName)) ∈ lw_tbl := lw_at lw_m2 193 rfl
theorem q448 : (Jvm.Cond.interfaceMethod "java/util/List" "java/util/List" "iterator" "()Ljava/util/Iterator;") ∈ lw_tbl := lw_at lw_m2 201 rfl
theorem q449 : (Jvm.Cond.declares ({ cls := "java/util/List", name := "iterator", desc := "()Ljava/util/Iterator;" } : Jvm.MethodName)) ∈ lw_tbl := lw_at lw_m2 202 rfl
theorem q499 : (Jvm.Cond.interfaceMethod "java/util/List" "java/util/List" "clear" "()V") ∈ lw_tbl := lw_at lw_m3 12 rfl
theorem q500 : (Jvm.Cond.declares ({ cls := "java/util/List", name := "clear", desc := "()V" } : Jvm.MethodName)) ∈ lw_tbl := lw_at lw_m3 13 rfl
theorem q585 : (Jvm.Cond.castable "java/util/List" "java/lang/Object") ∈ lw_tbl := lw_at lw_m3 98 rfl
theorem q44 : (Jvm.Cond.arrayOver (Jvm.ClassFile.FieldType.object "LongRadixHeap")) ∈ lw_tbl := lw_at lw_m1 37 rfl
set_option maxRecDepth 100000
theorem q123 : (Jvm.Cond.arrayClass Jvm.ClassFile.FieldType.byte) ∈ lw_all := lw_g (lw_at lw_m1 116 rfl) rfl
theorem q154 : (Jvm.Cond.arrayOver (Jvm.ClassFile.FieldType.object "java/util/List")) ∈ lw_tbl := lw_at lw_m1 147 rfl
theorem q230 : (Jvm.Cond.arrayClass Jvm.ClassFile.FieldType.int) ∈ lw_all := lw_g (lw_at lw_m1 223 rfl) rfl
theorem q343 : (Jvm.Cond.arrayOver (Jvm.ClassFile.FieldType.object "java/lang/Object")) ∈ lw_tbl := lw_at lw_m2 96 rfl
end
section
/-! the law's own entry -/
set_option maxRecDepth 100000
abbrev cL_law : ByteArray := code
def dkwL_law_10 : List UInt8 := [182, 0, 40, 44, 42, 29, 4, 96, 46, 182, 0, 44, 167, 0, 3, 132, 3, 6, 167, 255, 16, 4, 172]
abbrev dktL_law_10 : List UInt8 := dkwL_law_10 ++ []
def dkwL_law_9 : List UInt8 := [182, 0, 35, 44, 42, 29, 4, 96, 46, 182, 0, 39, 159, 0, 26, 3, 172, 43, 42, 29, 4, 96, 46]
abbrev dktL_law_9 : List UInt8 := dkwL_law_9 ++ dktL_law_10
def dkwL_law_8 : List UInt8 := [182, 0, 31, 44, 42, 29, 4, 96, 46, 182, 0, 34, 159, 0, 49, 3, 172, 43, 42, 29, 4, 96, 46]
abbrev dktL_law_8 : List UInt8 := dkwL_law_8 ++ dktL_law_9
def dkwL_law_7 : List UInt8 := [182, 0, 27, 44, 42, 29, 4, 96, 46, 182, 0, 30, 159, 0, 72, 3, 172, 43, 42, 29, 4, 96, 46]
abbrev dktL_law_7 : List UInt8 := dkwL_law_7 ++ dktL_law_8
def dkwL_law_6 : List UInt8 := [182, 0, 22, 44, 42, 29, 4, 96, 46, 182, 0, 26, 159, 0, 95, 3, 172, 43, 42, 29, 4, 96, 46]
abbrev dktL_law_6 : List UInt8 := dkwL_law_6 ++ dktL_law_7
def dkwL_law_5 : List UInt8 := [42, 29, 4, 96, 46, 42, 29, 5, 96, 46, 182, 0, 21, 159, 0, 118, 3, 172, 43, 42, 29, 4, 96, 46]
abbrev dktL_law_5 : List UInt8 := dkwL_law_5 ++ dktL_law_6
def dkwL_law_4 : List UInt8 := [46, 182, 0, 17, 159, 0, 151, 3, 172, 43, 42, 29, 4, 96, 46, 42, 29, 5, 96, 46, 182, 0, 18, 44]
abbrev dktL_law_4 : List UInt8 := dkwL_law_4 ++ dktL_law_5
def dkwL_law_3 : List UInt8 := [43, 42, 29, 4, 96, 46, 42, 29, 5, 96, 46, 182, 0, 13, 44, 42, 29, 4, 96, 46, 42, 29, 5, 96]
abbrev dktL_law_3 : List UInt8 := dkwL_law_3 ++ dktL_law_4
def dkwL_law_2 : List UInt8 := [170, 0, 0, 0, 0, 0, 222, 0, 0, 0, 0, 0, 0, 0, 6, 0, 0, 0, 43, 0, 0, 0, 76, 0, 0, 0, 109, 0, 0, 0, 132, 0, 0, 0, 155, 0, 0, 0, 178, 0, 0, 0, 201]
abbrev dktL_law_2 : List UInt8 := dkwL_law_2 ++ dktL_law_3
def dkwL_law_1 : List UInt8 := [163, 0, 237, 42, 29, 46, 16, 15, 126]
abbrev dktL_law_1 : List UInt8 := dkwL_law_1 ++ dktL_law_2
def dkwL_law_0 : List UInt8 := [187, 0, 7, 89, 183, 0, 9, 76, 187, 0, 10, 89, 183, 0, 12, 77, 3, 62, 29, 42, 190, 16, 6, 100]
abbrev dktL_law_0 : List UInt8 := dkwL_law_0 ++ dktL_law_1
theorem dksL_law_0 : cL_law.data.toList.drop 0 = dktL_law_0 := by decide +kernel
theorem dksL_law_1 : cL_law.data.toList.drop 24 = dktL_law_1 := dk_seg dksL_law_0 24 rfl rfl
theorem dksL_law_2 : cL_law.data.toList.drop 33 = dktL_law_2 := dk_seg dksL_law_1 9 rfl rfl
theorem dksL_law_3 : cL_law.data.toList.drop 76 = dktL_law_3 := dk_seg dksL_law_2 43 rfl rfl
theorem dksL_law_4 : cL_law.data.toList.drop 100 = dktL_law_4 := dk_seg dksL_law_3 24 rfl rfl
theorem dksL_law_5 : cL_law.data.toList.drop 124 = dktL_law_5 := dk_seg dksL_law_4 24 rfl rfl
theorem dksL_law_6 : cL_law.data.toList.drop 148 = dktL_law_6 := dk_seg dksL_law_5 24 rfl rfl
theorem dksL_law_7 : cL_law.data.toList.drop 171 = dktL_law_7 := dk_seg dksL_law_6 23 rfl rfl
theorem dksL_law_8 : cL_law.data.toList.drop 194 = dktL_law_8 := dk_seg dksL_law_7 23 rfl rfl
theorem dksL_law_9 : cL_law.data.toList.drop 217 = dktL_law_9 := dk_seg dksL_law_8 23 rfl rfl
theorem dksL_law_10 : cL_law.data.toList.drop 240 = dktL_law_10 := dk_seg dksL_law_9 23 rfl rfl
theorem dL_law_0 : decode cL_law 0 = .ok (.new 7, 3) := dk_187 0 7 (dk_at dksL_law_0 0 rfl rfl)
theorem dL_law_3 : decode cL_law 3 = .ok (.dup, 1) := dk_89 (dk_at dksL_law_0 3 rfl rfl)
theorem dL_law_4 : decode cL_law 4 = .ok (.invokespecial 9, 3) := dk_183 0 9 (dk_at dksL_law_0 4 rfl rfl)
theorem dL_law_7 : decode cL_law 7 = .ok (.astore_n 1, 1) := dk_76 (dk_at dksL_law_0 7 rfl rfl)
theorem dL_law_8 : decode cL_law 8 = .ok (.new 10, 3) := dk_187 0 10 (dk_at dksL_law_0 8 rfl rfl)
theorem dL_law_11 : decode cL_law 11 = .ok (.dup, 1) := dk_89 (dk_at dksL_law_0 11 rfl rfl)
theorem dL_law_12 : decode cL_law 12 = .ok (.invokespecial 12, 3) := dk_183 0 12 (dk_at dksL_law_0 12 rfl rfl)
theorem dL_law_15 : decode cL_law 15 = .ok (.astore_n 2, 1) := dk_77 (dk_at dksL_law_0 15 rfl rfl)
theorem dL_law_16 : decode cL_law 16 = .ok (.iconst 0, 1) := dk_3 (dk_at dksL_law_0 16 rfl rfl)
theorem dL_law_17 : decode cL_law 17 = .ok (.istore_n 3, 1) := dk_62 (dk_at dksL_law_0 17 rfl rfl)
theorem dL_law_18 : decode cL_law 18 = .ok (.iload_n 3, 1) := dk_29 (dk_at dksL_law_0 18 rfl rfl)
theorem dL_law_19 : decode cL_law 19 = .ok (.aload_n 0, 1) := dk_42 (dk_at dksL_law_0 19 rfl rfl)
theorem dL_law_20 : decode cL_law 20 = .ok (.arraylength, 1) := dk_190 (dk_at dksL_law_0 20 rfl rfl)
theorem dL_law_21 : decode cL_law 21 = .ok (.bipush 6, 2) := dk_16 6 (dk_at dksL_law_0 21 rfl rfl)
theorem dL_law_23 : decode cL_law 23 = .ok (.isub, 1) := dk_100 (dk_at dksL_law_0 23 rfl rfl)
theorem dL_law_24 : decode cL_law 24 = .ok (.if_icmp .gt 237, 3) := dk_163 0 237 (dk_at dksL_law_1 0 rfl rfl)
theorem dL_law_27 : decode cL_law 27 = .ok (.aload_n 0, 1) := dk_42 (dk_at dksL_law_1 3 rfl rfl)
theorem dL_law_28 : decode cL_law 28 = .ok (.iload_n 3, 1) := dk_29 (dk_at dksL_law_1 4 rfl rfl)
theorem dL_law_29 : decode cL_law 29 = .ok (.iaload, 1) := dk_46 (dk_at dksL_law_1 5 rfl rfl)
theorem dL_law_30 : decode cL_law 30 = .ok (.bipush 15, 2) := dk_16 15 (dk_at dksL_law_1 6 rfl rfl)
theorem dL_law_32 : decode cL_law 32 = .ok (.iand, 1) := dk_126 (dk_at dksL_law_1 8 rfl rfl)
theorem dL_law_33 : decode cL_law 33 = .ok (.tableswitch 222 0 6 #[43, 76, 109, 132, 155, 178, 201], 43) := by decide +kernel
theorem dL_law_76 : decode cL_law 76 = .ok (.aload_n 1, 1) := dk_43 (dk_at dksL_law_3 0 rfl rfl)
theorem dL_law_77 : decode cL_law 77 = .ok (.aload_n 0, 1) := dk_42 (dk_at dksL_law_3 1 rfl rfl)
theorem dL_law_78 : decode cL_law 78 = .ok (.iload_n 3, 1) := dk_29 (dk_at dksL_law_3 2 rfl rfl)
theorem dL_law_79 : decode cL_law 79 = .ok (.iconst 1, 1) := dk_4 (dk_at dksL_law_3 3 rfl rfl)
theorem dL_law_80 : decode cL_law 80 = .ok (.iadd, 1) := dk_96 (dk_at dksL_law_3 4 rfl rfl)
theorem dL_law_81 : decode cL_law 81 = .ok (.iaload, 1) := dk_46 (dk_at dksL_law_3 5 rfl rfl)
theorem dL_law_82 : decode cL_law 82 = .ok (.aload_n 0, 1) := dk_42 (dk_at dksL_law_3 6 rfl rfl)
theorem dL_law_83 : decode cL_law 83 = .ok (.iload_n 3, 1) := dk_29 (dk_at dksL_law_3 7 rfl rfl)
theorem dL_law_84 : decode cL_law 84 = .ok (.iconst 2, 1) := dk_5 (dk_at dksL_law_3 8 rfl rfl)
theorem dL_law_85 : decode cL_law 85 = .ok (.iadd, 1) := dk_96 (dk_at dksL_law_3 9 rfl rfl)
theorem dL_law_86 : decode cL_law 86 = .ok (.iaload, 1) := dk_46 (dk_at dksL_law_3 10 rfl rfl)
theorem dL_law_87 : decode cL_law 87 = .ok (.invokevirtual 13, 3) := dk_182 0 13 (dk_at dksL_law_3 11 rfl rfl)
theorem dL_law_90 : decode cL_law 90 = .ok (.aload_n 2, 1) := dk_44 (dk_at dksL_law_3 14 rfl rfl)
theorem dL_law_91 : decode cL_law 91 = .ok (.aload_n 0, 1) := dk_42 (dk_at dksL_law_3 15 rfl rfl)
theorem dL_law_92 : decode cL_law 92 = .ok (.iload_n 3, 1) := dk_29 (dk_at dksL_law_3 16 rfl rfl)
theorem dL_law_93 : decode cL_law 93 = .ok (.iconst 1, 1) := dk_4 (dk_at dksL_law_3 17 rfl rfl)
theorem dL_law_94 : decode cL_law 94 = .ok (.iadd, 1) := dk_96 (dk_at dksL_law_3 18 rfl rfl)
theorem dL_law_95 : decode cL_law 95 = .ok (.iaload, 1) := dk_46 (dk_at dksL_law_3 19 rfl rfl)
theorem dL_law_96 : decode cL_law 96 = .ok (.aload_n 0, 1) := dk_42 (dk_at dksL_law_3 20 rfl rfl)
theorem dL_law_97 : decode cL_law 97 = .ok (.iload_n 3, 1) := dk_29 (dk_at dksL_law_3 21 rfl rfl)
theorem dL_law_98 : decode cL_law 98 = .ok (.iconst 2, 1) := dk_5 (dk_at dksL_law_3 22 rfl rfl)
theorem dL_law_99 : decode cL_law 99 = .ok (.iadd, 1) := dk_96 (dk_at dksL_law_3 23 rfl rfl)
theorem dL_law_100 : decode cL_law 100 = .ok (.iaload, 1) := dk_46 (dk_at dksL_law_4 0 rfl rfl)
theorem dL_law_101 : decode cL_law 101 = .ok (.invokevirtual 17, 3) := dk_182 0 17 (dk_at dksL_law_4 1 rfl rfl)
theorem dL_law_104 : decode cL_law 104 = .ok (.if_icmp .eq 151, 3) := dk_159 0 151 (dk_at dksL_law_4 4 rfl rfl)
theorem dL_law_107 : decode cL_law 107 = .ok (.iconst 0, 1) := dk_3 (dk_at dksL_law_4 7 rfl rfl)
theorem dL_law_108 : decode cL_law 108 = .ok (.ireturn, 1) := dk_172 (dk_at dksL_law_4 8 rfl rfl)
theorem dL_law_109 : decode cL_law 109 = .ok (.aload_n 1, 1) := dk_43 (dk_at dksL_law_4 9 rfl rfl)
theorem dL_law_110 : decode cL_law 110 = .ok (.aload_n 0, 1) := dk_42 (dk_at dksL_law_4 10 rfl rfl)
theorem dL_law_111 : decode cL_law 111 = .ok (.iload_n 3, 1) := dk_29 (dk_at dksL_law_4 11 rfl rfl)
theorem dL_law_112 : decode cL_law 112 = .ok (.iconst 1, 1) := dk_4 (dk_at dksL_law_4 12 rfl rfl)
theorem dL_law_113 : decode cL_law 113 = .ok (.iadd, 1) := dk_96 (dk_at dksL_law_4 13 rfl rfl)
theorem dL_law_114 : decode cL_law 114 = .ok (.iaload, 1) := dk_46 (dk_at dksL_law_4 14 rfl rfl)
theorem dL_law_115 : decode cL_law 115 = .ok (.aload_n 0, 1) := dk_42 (dk_at dksL_law_4 15 rfl rfl)
theorem dL_law_116 : decode cL_law 116 = .ok (.iload_n 3, 1) := dk_29 (dk_at dksL_law_4 16 rfl rfl)
theorem dL_law_117 : decode cL_law 117 = .ok (.iconst 2, 1) := dk_5 (dk_at dksL_law_4 17 rfl rfl)
theorem dL_law_118 : decode cL_law 118 = .ok (.iadd, 1) := dk_96 (dk_at dksL_law_4 18 rfl rfl)
theorem dL_law_119 : decode cL_law 119 = .ok (.iaload, 1) := dk_46 (dk_at dksL_law_4 19 rfl rfl)
theorem dL_law_120 : decode cL_law 120 = .ok (.invokevirtual 18, 3) := dk_182 0 18 (dk_at dksL_law_4 20 rfl rfl)
theorem dL_law_123 : decode cL_law 123 = .ok (.aload_n 2, 1) := dk_44 (dk_at dksL_law_4 23 rfl rfl)
theorem dL_law_124 : decode cL_law 124 = .ok (.aload_n 0, 1) := dk_42 (dk_at dksL_law_5 0 rfl rfl)
theorem dL_law_125 : decode cL_law 125 = .ok (.iload_n 3, 1) := dk_29 (dk_at dksL_law_5 1 rfl rfl)
theorem dL_law_126 : decode cL_law 126 = .ok (.iconst 1, 1) := dk_4 (dk_at dksL_law_5 2 rfl rfl)
theorem dL_law_127 : decode cL_law 127 = .ok (.iadd, 1) := dk_96 (dk_at dksL_law_5 3 rfl rfl)
theorem dL_law_128 : decode cL_law 128 = .ok (.iaload, 1) := dk_46 (dk_at dksL_law_5 4 rfl rfl)
theorem dL_law_129 : decode cL_law 129 = .ok (.aload_n 0, 1) := dk_42 (dk_at dksL_law_5 5 rfl rfl)
theorem dL_law_130 : decode cL_law 130 = .ok (.iload_n 3, 1) := dk_29 (dk_at dksL_law_5 6 rfl rfl)
theorem dL_law_131 : decode cL_law 131 = .ok (.iconst 2, 1) := dk_5 (dk_at dksL_law_5 7 rfl rfl)
theorem dL_law_132 : decode cL_law 132 = .ok (.iadd, 1) := dk_96 (dk_at dksL_law_5 8 rfl rfl)
theorem dL_law_133 : decode cL_law 133 = .ok (.iaload, 1) := dk_46 (dk_at dksL_law_5 9 rfl rfl)
theorem dL_law_134 : decode cL_law 134 = .ok (.invokevirtual 21, 3) := dk_182 0 21 (dk_at dksL_law_5 10 rfl rfl)
theorem dL_law_137 : decode cL_law 137 = .ok (.if_icmp .eq 118, 3) := dk_159 0 118 (dk_at dksL_law_5 13 rfl rfl)
theorem dL_law_140 : decode cL_law 140 = .ok (.iconst 0, 1) := dk_3 (dk_at dksL_law_5 16 rfl rfl)
theorem dL_law_141 : decode cL_law 141 = .ok (.ireturn, 1) := dk_172 (dk_at dksL_law_5 17 rfl rfl)
theorem dL_law_142 : decode cL_law 142 = .ok (.aload_n 1, 1) := dk_43 (dk_at dksL_law_5 18 rfl rfl)
theorem dL_law_143 : decode cL_law 143 = .ok (.aload_n 0, 1) := dk_42 (dk_at dksL_law_5 19 rfl rfl)
theorem dL_law_144 : decode cL_law 144 = .ok (.iload_n 3, 1) := dk_29 (dk_at dksL_law_5 20 rfl rfl)
theorem dL_law_145 : decode cL_law 145 = .ok (.iconst 1, 1) := dk_4 (dk_at dksL_law_5 21 rfl rfl)
theorem dL_law_146 : decode cL_law 146 = .ok (.iadd, 1) := dk_96 (dk_at dksL_law_5 22 rfl rfl)
theorem dL_law_147 : decode cL_law 147 = .ok (.iaload, 1) := dk_46 (dk_at dksL_law_5 23 rfl rfl)
theorem dL_law_148 : decode cL_law 148 = .ok (.invokevirtual 22, 3) := dk_182 0 22 (dk_at dksL_law_6 0 rfl rfl)
theorem dL_law_151 : decode cL_law 151 = .ok (.aload_n 2, 1) := dk_44 (dk_at dksL_law_6 3 rfl rfl)
theorem dL_law_152 : decode cL_law 152 = .ok (.aload_n 0, 1) := dk_42 (dk_at dksL_law_6 4 rfl rfl)
theorem dL_law_153 : decode cL_law 153 = .ok (.iload_n 3, 1) := dk_29 (dk_at dksL_law_6 5 rfl rfl)
theorem dL_law_154 : decode cL_law 154 = .ok (.iconst 1, 1) := dk_4 (dk_at dksL_law_6 6 rfl rfl)
theorem dL_law_155 : decode cL_law 155 = .ok (.iadd, 1) := dk_96 (dk_at dksL_law_6 7 rfl rfl)
theorem dL_law_156 : decode cL_law 156 = .ok (.iaload, 1) := dk_46 (dk_at dksL_law_6 8 rfl rfl)
theorem dL_law_157 : decode cL_law 157 = .ok (.invokevirtual 26, 3) := dk_182 0 26 (dk_at dksL_law_6 9 rfl rfl)
theorem dL_law_160 : decode cL_law 160 = .ok (.if_icmp .eq 95, 3) := dk_159 0 95 (dk_at dksL_law_6 12 rfl rfl)
theorem dL_law_163 : decode cL_law 163 = .ok (.iconst 0, 1) := dk_3 (dk_at dksL_law_6 15 rfl rfl)
theorem dL_law_164 : decode cL_law 164 = .ok (.ireturn, 1) := dk_172 (dk_at dksL_law_6 16 rfl rfl)
theorem dL_law_165 : decode cL_law 165 = .ok (.aload_n 1, 1) := dk_43 (dk_at dksL_law_6 17 rfl rfl)
theorem dL_law_166 : decode cL_law 166 = .ok (.aload_n 0, 1) := dk_42 (dk_at dksL_law_6 18 rfl rfl)
theorem dL_law_167 : decode cL_law 167 = .ok (.iload_n 3, 1) := dk_29 (dk_at dksL_law_6 19 rfl rfl)
theorem dL_law_168 : decode cL_law 168 = .ok (.iconst 1, 1) := dk_4 (dk_at dksL_law_6 20 rfl rfl)
theorem dL_law_169 : decode cL_law 169 = .ok (.iadd, 1) := dk_96 (dk_at dksL_law_6 21 rfl rfl)
theorem dL_law_170 : decode cL_law 170 = .ok (.iaload, 1) := dk_46 (dk_at dksL_law_6 22 rfl rfl)
theorem dL_law_171 : decode cL_law 171 = .ok (.invokevirtual 27, 3) := dk_182 0 27 (dk_at dksL_law_7 0 rfl rfl)
theorem dL_law_174 : decode cL_law 174 = .ok (.aload_n 2, 1) := dk_44 (dk_at dksL_law_7 3 rfl rfl)
theorem dL_law_175 : decode cL_law 175 = .ok (.aload_n 0, 1) := dk_42 (dk_at dksL_law_7 4 rfl rfl)
theorem dL_law_176 : decode cL_law 176 = .ok (.iload_n 3, 1) := dk_29 (dk_at dksL_law_7 5 rfl rfl)
theorem dL_law_177 : decode cL_law 177 = .ok (.iconst 1, 1) := dk_4 (dk_at dksL_law_7 6 rfl rfl)
theorem dL_law_178 : decode cL_law 178 = .ok (.iadd, 1) := dk_96 (dk_at dksL_law_7 7 rfl rfl)
theorem dL_law_179 : decode cL_law 179 = .ok (.iaload, 1) := dk_46 (dk_at dksL_law_7 8 rfl rfl)
theorem dL_law_180 : decode cL_law 180 = .ok (.invokevirtual 30, 3) := dk_182 0 30 (dk_at dksL_law_7 9 rfl rfl)
theorem dL_law_183 : decode cL_law 183 = .ok (.if_icmp .eq 72, 3) := dk_159 0 72 (dk_at dksL_law_7 12 rfl rfl)
theorem dL_law_186 : decode cL_law 186 = .ok (.iconst 0, 1) := dk_3 (dk_at dksL_law_7 15 rfl rfl)
theorem dL_law_187 : decode cL_law 187 = .ok (.ireturn, 1) := dk_172 (dk_at dksL_law_7 16 rfl rfl)
theorem dL_law_188 : decode cL_law 188 = .ok (.aload_n 1, 1) := dk_43 (dk_at dksL_law_7 17 rfl rfl)
theorem dL_law_189 : decode cL_law 189 = .ok (.aload_n 0, 1) := dk_42 (dk_at dksL_law_7 18 rfl rfl)
theorem dL_law_190 : decode cL_law 190 = .ok (.iload_n 3, 1) := dk_29 (dk_at dksL_law_7 19 rfl rfl)
theorem dL_law_191 : decode cL_law 191 = .ok (.iconst 1, 1) := dk_4 (dk_at dksL_law_7 20 rfl rfl)
theorem dL_law_192 : decode cL_law 192 = .ok (.iadd, 1) := dk_96 (dk_at dksL_law_7 21 rfl rfl)
theorem dL_law_193 : decode cL_law 193 = .ok (.iaload, 1) := dk_46 (dk_at dksL_law_7 22 rfl rfl)
theorem dL_law_194 : decode cL_law 194 = .ok (.invokevirtual 31, 3) := dk_182 0 31 (dk_at dksL_law_8 0 rfl rfl)
theorem dL_law_197 : decode cL_law 197 = .ok (.aload_n 2, 1) := dk_44 (dk_at dksL_law_8 3 rfl rfl)
theorem dL_law_198 : decode cL_law 198 = .ok (.aload_n 0, 1) := dk_42 (dk_at dksL_law_8 4 rfl rfl)
theorem dL_law_199 : decode cL_law 199 = .ok (.iload_n 3, 1) := dk_29 (dk_at dksL_law_8 5 rfl rfl)
theorem dL_law_200 : decode cL_law 200 = .ok (.iconst 1, 1) := dk_4 (dk_at dksL_law_8 6 rfl rfl)
theorem dL_law_201 : decode cL_law 201 = .ok (.iadd, 1) := dk_96 (dk_at dksL_law_8 7 rfl rfl)
theorem dL_law_202 : decode cL_law 202 = .ok (.iaload, 1) := dk_46 (dk_at dksL_law_8 8 rfl rfl)
theorem dL_law_203 : decode cL_law 203 = .ok (.invokevirtual 34, 3) := dk_182 0 34 (dk_at dksL_law_8 9 rfl rfl)
theorem dL_law_206 : decode cL_law 206 = .ok (.if_icmp .eq 49, 3) := dk_159 0 49 (dk_at dksL_law_8 12 rfl rfl)
theorem dL_law_209 : decode cL_law 209 = .ok (.iconst 0, 1) := dk_3 (dk_at dksL_law_8 15 rfl rfl)
theorem dL_law_210 : decode cL_law 210 = .ok (.ireturn, 1) := dk_172 (dk_at dksL_law_8 16 rfl rfl)
theorem dL_law_211 : decode cL_law 211 = .ok (.aload_n 1, 1) := dk_43 (dk_at dksL_law_8 17 rfl rfl)
theorem dL_law_212 : decode cL_law 212 = .ok (.aload_n 0, 1) := dk_42 (dk_at dksL_law_8 18 rfl rfl)
theorem dL_law_213 : decode cL_law 213 = .ok (.iload_n 3, 1) := dk_29 (dk_at dksL_law_8 19 rfl rfl)
theorem dL_law_214 : decode cL_law 214 = .ok (.iconst 1, 1) := dk_4 (dk_at dksL_law_8 20 rfl rfl)
theorem dL_law_215 : decode cL_law 215 = .ok (.iadd, 1) := dk_96 (dk_at dksL_law_8 21 rfl rfl)
theorem dL_law_216 : decode cL_law 216 = .ok (.iaload, 1) := dk_46 (dk_at dksL_law_8 22 rfl rfl)
theorem dL_law_217 : decode cL_law 217 = .ok (.invokevirtual 35, 3) := dk_182 0 35 (dk_at dksL_law_9 0 rfl rfl)
theorem dL_law_220 : decode cL_law 220 = .ok (.aload_n 2, 1) := dk_44 (dk_at dksL_law_9 3 rfl rfl)
theorem dL_law_221 : decode cL_law 221 = .ok (.aload_n 0, 1) := dk_42 (dk_at dksL_law_9 4 rfl rfl)
theorem dL_law_222 : decode cL_law 222 = .ok (.iload_n 3, 1) := dk_29 (dk_at dksL_law_9 5 rfl rfl)
theorem dL_law_223 : decode cL_law 223 = .ok (.iconst 1, 1) := dk_4 (dk_at dksL_law_9 6 rfl rfl)
theorem dL_law_224 : decode cL_law 224 = .ok (.iadd, 1) := dk_96 (dk_at dksL_law_9 7 rfl rfl)
theorem dL_law_225 : decode cL_law 225 = .ok (.iaload, 1) := dk_46 (dk_at dksL_law_9 8 rfl rfl)
theorem dL_law_226 : decode cL_law 226 = .ok (.invokevirtual 39, 3) := dk_182 0 39 (dk_at dksL_law_9 9 rfl rfl)
theorem dL_law_229 : decode cL_law 229 = .ok (.if_icmp .eq 26, 3) := dk_159 0 26 (dk_at dksL_law_9 12 rfl rfl)
theorem dL_law_232 : decode cL_law 232 = .ok (.iconst 0, 1) := dk_3 (dk_at dksL_law_9 15 rfl rfl)
theorem dL_law_233 : decode cL_law 233 = .ok (.ireturn, 1) := dk_172 (dk_at dksL_law_9 16 rfl rfl)
theorem dL_law_234 : decode cL_law 234 = .ok (.aload_n 1, 1) := dk_43 (dk_at dksL_law_9 17 rfl rfl)
theorem dL_law_235 : decode cL_law 235 = .ok (.aload_n 0, 1) := dk_42 (dk_at dksL_law_9 18 rfl rfl)
theorem dL_law_236 : decode cL_law 236 = .ok (.iload_n 3, 1) := dk_29 (dk_at dksL_law_9 19 rfl rfl)
theorem dL_law_237 : decode cL_law 237 = .ok (.iconst 1, 1) := dk_4 (dk_at dksL_law_9 20 rfl rfl)
theorem dL_law_238 : decode cL_law 238 = .ok (.iadd, 1) := dk_96 (dk_at dksL_law_9 21 rfl rfl)
theorem dL_law_239 : decode cL_law 239 = .ok (.iaload, 1) := dk_46 (dk_at dksL_law_9 22 rfl rfl)
theorem dL_law_240 : decode cL_law 240 = .ok (.invokevirtual 40, 3) := dk_182 0 40 (dk_at dksL_law_10 0 rfl rfl)
theorem dL_law_243 : decode cL_law 243 = .ok (.aload_n 2, 1) := dk_44 (dk_at dksL_law_10 3 rfl rfl)
theorem dL_law_244 : decode cL_law 244 = .ok (.aload_n 0, 1) := dk_42 (dk_at dksL_law_10 4 rfl rfl)
theorem dL_law_245 : decode cL_law 245 = .ok (.iload_n 3, 1) := dk_29 (dk_at dksL_law_10 5 rfl rfl)
theorem dL_law_246 : decode cL_law 246 = .ok (.iconst 1, 1) := dk_4 (dk_at dksL_law_10 6 rfl rfl)
theorem dL_law_247 : decode cL_law 247 = .ok (.iadd, 1) := dk_96 (dk_at dksL_law_10 7 rfl rfl)
theorem dL_law_248 : decode cL_law 248 = .ok (.iaload, 1) := dk_46 (dk_at dksL_law_10 8 rfl rfl)
theorem dL_law_249 : decode cL_law 249 = .ok (.invokevirtual 44, 3) := dk_182 0 44 (dk_at dksL_law_10 9 rfl rfl)
theorem dL_law_252 : decode cL_law 252 = .ok (.goto 3, 3) := dk_167 0 3 (dk_at dksL_law_10 12 rfl rfl)
theorem dL_law_255 : decode cL_law 255 = .ok (.iinc 3 6, 3) := dk_132 3 6 (dk_at dksL_law_10 15 rfl rfl)
theorem dL_law_258 : decode cL_law 258 = .ok (.goto (-240), 3) := dk_167 255 16 (dk_at dksL_law_10 18 rfl rfl)
theorem dL_law_261 : decode cL_law 261 = .ok (.iconst 1, 1) := dk_4 (dk_at dksL_law_10 21 rfl rfl)
theorem dL_law_262 : decode cL_law 262 = .ok (.ireturn, 1) := dk_172 (dk_at dksL_law_10 22 rfl rfl)
end
section
/-! THE POOL: every contract's world is the whole pool of owned cells, L the addresses, f what each holds; D: class numbers and slots; Z: frozen addresses (Z 0: the heap's size at the law's start, Z 1: ArrayList's empty array, Z 2: the Long cache, Z 3: the Class object of Object[], Z (10 + j): the cache's places) -/
set_option maxRecDepth 100000
abbrev rhCl : List vw_C := [(RX0, TX0, 3), (RX2, TX2, 8), (RX3, TX3, 4), (RJ5, TJ5, 1), (RJ8, TJ8, 3), (RJ15, TJ15, 4)]
abbrev rhTy (D : va_G) : List (ClassId × FieldType) := [(D.1 100, .object "java/lang/Object"), (D.1 101, .object "java/util/List"), (D.1 102, .object "LongRadixHeap"), (D.1 103, .int)]
abbrev eDesk (fi fl : Nat) (pu : Int32) : va_E := .inr (0, [.ref fi, .ref fl, .int pu])
abbrev eHeap (ba : Nat) (sz : Int64) (la : Nat) (cm : Option Nat) (cb cp : Int32) (mn mx : Nat) : va_E := .inr (1, [.ref ba, .long sz, .ref la, va_rf cm, .int cb, .int cp, .ref mn, .ref mx])
abbrev eModel (ks ho ta : Nat) (pu : Int32) : va_E := .inr (2, [.ref ks, .ref ho, .ref ta, .int pu])
abbrev eLong (k : Nat) : va_E := .inr (3, [.long (lN k)])
abbrev eAL (md : Int32) (ea : Nat) (n : Int32) : va_E := .inr (4, [.int md, .ref ea, .int n])
abbrev eItr (cu lr em : Int32) (li : Nat) : va_E := .inr (5, [.int cu, .int lr, .int em, .ref li])
abbrev eRefs (cA : ClassId) (n : Nat) (F : Nat → Option Nat) : va_E := .inl (cA, n, .inr (.inr (.inr (.inr F))))
abbrev eInts (D : va_G) (n : Nat) (g : Nat → Int32) : va_E := .inl (D.1 103, n, .inl g)
def yList_add : MethodName := ⟨"java/util/List", "add", "(Ljava/lang/Object;)Z"⟩
def yList_size : MethodName := ⟨"java/util/List", "size", "()I"⟩
def yList_remove : MethodName := ⟨"java/util/List", "remove", "(I)Ljava/lang/Object;"⟩
def yList_isEmpty : MethodName := ⟨"java/util/List", "isEmpty", "()Z"⟩
def yList_iterator : MethodName := ⟨"java/util/List", "iterator", "()Ljava/util/Iterator;"⟩
def yList_clear : MethodName := ⟨"java/util/List", "clear", "()V"⟩
def yIt_hasNext : MethodName := ⟨"java/util/Iterator", "hasNext", "()Z"⟩
def yIt_next : MethodName := ⟨"java/util/Iterator", "next", "()Ljava/lang/Object;"⟩
def yAb_compare : MethodName := ⟨"AbstractRadixHeap", "compare", "(Ljava/lang/Object;Ljava/lang/Object;)I"⟩
def yAb_msd : MethodName := ⟨"AbstractRadixHeap", "msd", "(Ljava/lang/Object;Ljava/lang/Object;)I"⟩
/-- what the methods need of the tables, and no list carries -/
def rhWd (D : va_G) (Z : Nat → Nat) (U : State) : Prop :=
  (va_Fw RJ8 yList_add yJ8_add U ∧ va_Fw RJ8 yList_size yJ8_size U ∧ va_Fw RJ8 yList_remove yJ8_remove U ∧ va_Fw RJ8 yList_isEmpty yJ8_isEmpty U ∧ va_Fw RJ8 yList_iterator yJ8_iterator U ∧ va_Fw RJ8 yList_clear yJ8_clear U) ∧
  (va_Fw RJ15 yIt_hasNext yJ15_hasNext U ∧ va_Fw RJ15 yIt_next yJ15_next U) ∧
  (va_AO "java/lang/Object" U ∧ va_AO "java/util/List" U ∧ va_AO "LongRadixHeap" U) ∧
  (va_Nw (.castable RJ5 "java/lang/Object") U ∧ va_Nw (.castable RJ8 "java/util/List") U) ∧
  (va_Nw (.declares yAb_compare) U ∧ va_Nw (.declares yAb_msd) U) ∧
  (va_Nw (.fieldLinkNest "java/util/ArrayList$Itr" 28 "java/util/ArrayList" "size" "I" "java/util/ArrayList") U ∧ va_Nw (.privateMethod yX1_findAndCacheMinimum) U) ∧
  (va_Dc U ∧ va_Mi "[Ljava/lang/Object;" (Z 3) U) ∧
  (D.1 100 ≠ D.1 101 ∧ D.1 100 ≠ D.1 102 ∧ D.1 101 ≠ D.1 102)
theorem va_Nw_mvC {C T : String} {u U : State} (hvm : u.vm.Alike U.vm) (h : va_Nw (.castable C T) u) : va_Nw (.castable C T) U := va_tabs rfl (rfl : (u.setVm U.vm).vm = U.vm) (by rw [Cond.castable_setVm hvm]; exact h)
theorem va_Nw_mvD {x : MethodName} {u U : State} (hvm : u.vm.Alike U.vm) (h : va_Nw (.declares x) u) : va_Nw (.declares x) U := va_tabs rfl (rfl : (u.setVm U.vm).vm = U.vm) (by rw [Cond.declares_setVm hvm]; exact h)
theorem va_Nw_mvP {x : MethodName} {u U : State} (hvm : u.vm.Alike U.vm) (h : va_Nw (.privateMethod x) u) : va_Nw (.privateMethod x) U := va_tabs rfl (rfl : (u.setVm U.vm).vm = U.vm) (by rw [Cond.privateMethod_setVm hvm]; exact h)
theorem rhWd.moved {D : va_G} {Z : Nat → Nat} {u U : State} (hW : u.WarmedH U.vm) (h : rhWd D Z u) : rhWd D Z U := by
  obtain ⟨⟨a1, a2, a3, a4, a5, a6⟩, ⟨b1, b2⟩, ⟨c1, c2, c3⟩, ⟨d1, d2⟩, ⟨e1, e2⟩, ⟨f1, f2⟩, ⟨g1, g2⟩, h1⟩ := h
  have hv := hW.alike
  have nn : ("java/util/List" ≠ "java/lang/invoke/MethodHandle" ∧ "java/util/List" ≠ "java/lang/invoke/VarHandle") := by decide +kernel
  have ni : ("java/util/Iterator" ≠ "java/lang/invoke/MethodHandle" ∧ "java/util/Iterator" ≠ "java/lang/invoke/VarHandle") := by decide +kernel
  exact ⟨⟨a1.moved nn hv, a2.moved nn hv, a3.moved nn hv, a4.moved nn hv, a5.moved nn hv, a6.moved nn hv⟩, ⟨b1.moved ni hv, b2.moved ni hv⟩, ⟨c1.moved hv, c2.moved hv, c3.moved hv⟩, ⟨va_Nw_mvC hv d1, va_Nw_mvC hv d2⟩, ⟨va_Nw_mvD hv e1, va_Nw_mvD hv e2⟩, ⟨va_Nw.warmF hW f1, va_Nw_mvP hv f2⟩, ⟨g1.moved hv, g2.moved hv⟩, h1⟩
abbrev rhA (Z : Nat → Nat) : Nat → Prop := fun q => Z 0 ≤ q
/-- what stays as it was at the law's start -/
def rhGx (D : va_G) (Z : Nat → Nat) (U : State) (H : Heap) : Prop :=
  (Z 0 ≤ H.size ∧ va_Z "java/util/ArrayList" "DEFAULTCAPACITY_EMPTY_ELEMENTDATA" "[Ljava/lang/Object;" (.ref (Z 1)) (rhA Z) U H ∧ va_T (.object "java/lang/Object") (Z 1) 0 (fun _ => .null) (rhA Z) U H) ∧
  (va_Z "java/lang/Long$LongCache" "cache" "[Ljava/lang/Long;" (.ref (Z 2)) (rhA Z) U H ∧ va_T (.object "java/lang/Long") (Z 2) 256 (fun j => .ref (Z (10 + j))) (rhA Z) U H) ∧
  (∀ k : Nat, k < 128 → ¬ Z 0 ≤ Z (138 + k) ∧ va_at D rhCl (Z (138 + k), eLong k) H) ∧ rhWd D Z U
theorem rhGx.moved {D : va_G} {Z : Nat → Nat} {u U : State} {H : Heap} (hW : u.WarmedH U.vm) (h : rhGx D Z u H) : rhGx D Z U H := by
  obtain ⟨⟨h1, h2, h3⟩, ⟨h4, h5⟩, h6, h7⟩ := h
  exact ⟨⟨h1, h2.moved hW.alike, h3.moved hW.alike⟩, ⟨h4.moved hW.alike, h5.moved hW.alike⟩, h6, h7.moved hW⟩
theorem rhGx.kept {D : va_G} {Z : Nat → Nat} {U : State} {H H1 : Heap} (hz : H.size ≤ H1.size) (hq : ∀ a : Nat, a < H.size → ¬ rhA Z a → H1[a]? = H[a]?) (h : rhGx D Z U H) : rhGx D Z U H1 := by
  obtain ⟨⟨h1, h2, h3⟩, ⟨h4, h5⟩, h6, h7⟩ := h
  refine ⟨⟨Nat.le_trans h1 hz, h2.kept hq, h3.kept hq⟩, ⟨h4.kept hq, h5.kept hq⟩, fun k hk => ⟨(h6 k hk).1, ?_⟩, h7⟩
  have ha := (h6 k hk).2
  exact ha.kept (hq _ ha.lt (h6 k hk).1)
def rhCx (D : va_G) (Z : Nat → Nat) (s : State) : Prop := rhGx D Z s s.heap ∧ va_K D rhCl (rhTy D) s
def rhHp (D : va_G) (Z : Nat → Nat) (L : List Nat) (f : Nat → va_E) (s : State) (H : Heap) (locs : List Loc) : Prop := va_P D rhCl (va_pl L f) H ∧ va_D (rhA Z) (va_pl L f) ∧ va_S (rhA Z) s.heap H locs
/-- the world of a contract -/
def rhW (D : va_G) (Z : Nat → Nat) (L : List Nat) (f : Nat → va_E) (U : State) : Prop := rhGx D Z U U.heap ∧ va_K D rhCl (rhTy D) U ∧ va_P D rhCl (va_pl L f) U.heap ∧ va_D (rhA Z) (va_pl L f)
theorem rhHp.gx {D : va_G} {Z : Nat → Nat} {L : List Nat} {f : Nat → va_E} {s : State} {H : Heap} {locs : List Loc} (hC : rhCx D Z s) (hH : rhHp D Z L f s H locs) : rhGx D Z s H := rhGx.kept hH.2.2.1 hH.2.2.2.1 hC.1
theorem rhHp.world {D : va_G} {Z : Nat → Nat} {L : List Nat} {f : Nat → va_E} {s : State} {H : Heap} {locs : List Loc} (hC : rhCx D Z s) (hH : rhHp D Z L f s H locs) {t : State} (ht : t.heap = H) (hW : s.WarmedH t.vm) : rhW D Z L f t := by
  refine ⟨?_, va_K.moved hW.alike hC.2, by rw [ht]; exact hH.1, hH.2.1⟩
  rw [ht]
  exact (hH.gx hC).moved hW
abbrev rhPc (D : va_G) (Z : Nat → Nat) (L : List Nat) (f : Nat → va_E) (av : List Value) : Array Value → State → Prop := va_Pc av (rhW D Z L f)
abbrev rhB (D : va_G) (Z : Nat → Nat) : List Nat × (Nat → va_E) → State → Prop := fun u t => rhW D Z u.1 u.2 t
abbrev rhQi (D : va_G) (Z : Nat → Nat) (post : Int32 → List Nat → (Nat → va_E) → Prop) := va_Qi (S := List Nat × (Nat → va_E)) (fun r u => post r u.1 u.2) (rhB D Z) (rhA Z)
abbrev rhQl (D : va_G) (Z : Nat → Nat) (post : Int64 → List Nat → (Nat → va_E) → Prop) := va_Ql (S := List Nat × (Nat → va_E)) (fun r u => post r u.1 u.2) (rhB D Z) (rhA Z)
abbrev rhQd (D : va_G) (Z : Nat → Nat) (post : UInt64 → List Nat → (Nat → va_E) → Prop) := va_Qd (S := List Nat × (Nat → va_E)) (fun r u => post r u.1 u.2) (rhB D Z) (rhA Z)
abbrev rhQv (D : va_G) (Z : Nat → Nat) (post : List Nat → (Nat → va_E) → Prop) := va_Qv (S := List Nat × (Nat → va_E)) (fun u => post u.1 u.2) (rhB D Z) (rhA Z)
abbrev rhQr (D : va_G) (Z : Nat → Nat) (post : Nat → List Nat → (Nat → va_E) → Prop) := va_Qr (S := List Nat × (Nat → va_E) × Nat) (fun u => post u.2.2 u.1 u.2.1) (fun u a t => a = u.2.2 ∧ rhW D Z u.1 u.2.1 t) (rhA Z)
theorem rh_pl {L : List Nat} {f : Nat → va_E} {a : Nat} (h : a ∈ L) : ∃ k : Nat, (va_pl L f)[k]? = some (a, f a) := va_pl_get (X := []) h
theorem rh_plset {A : Nat → Prop} {L : List Nat} {f : Nat → va_E} {a k : Nat} {e : va_E} (hD : va_D A (va_pl L f)) (h : a ∈ L) (hk : (va_pl L f)[k]? = some (a, f a)) : (va_pl L f).set k (a, e) = va_pl L (va_up f a e) := va_pl_set (X := []) hD h hk
theorem rh_ne {f : Nat → va_E} {a b : Nat} {x y : va_E} (ha : f a = x) (hb : f b = y) (h : x ≠ y) : a ≠ b := fun e => h (by rw [← ha, e, hb])
theorem rh_last (L : List Nat) (q : Nat) : q ∈ L ++ [q] := List.mem_append_right _ (List.mem_cons_self ..)
section RHP
variable {p : Program} {l : Launch} {e : Env} {R : Room} {s : State} {m : MethodId} {args : Array Value} {below : List Frame} {meth : Method} {c : Code} {H : Heap} {locs : List Loc} {cells slots : Nat} {Q : State → Prop}
variable {cc : ByteArray} {pc : Nat} {ls : Array Slot} {rest : List Value} {D : va_G} {Z : Nat → Nat} {L : List Nat} {f : Nat → va_E} {a : Nat}
/-- the address of a pooled object is a receiver -/
theorem rh_recv (hC : rhCx D Z s) (hH : rhHp D Z L f s H locs) {ci : Nat} {q : vw_C} {fs : List Value} (ha : a ∈ L) (hf : f a = .inr (ci, fs)) (hc : rhCl[ci]? = some q) : ∃ cell : Cell, H[a]? = some cell ∧ cell.vm.isStatics = false ∧ s.vm.findClass q.1 = some cell.cls := by
  obtain ⟨k, hk⟩ := rh_pl (f := f) ha
  rw [hf] at hk
  exact va_recv hC.2 hH.1 hc hk
theorem rh_get (hexec : p.tables.exec = Jvm.exec) (hb : c.code = cc) {own ref C : String} {T : u_T} {N ci index : Nat} {Ts : List Cond} (hts : ∀ w ∈ Ts, w.before args s = true) (hin : ∀ w ∈ u_ws C T N, w ∈ Ts) (hown : s.vm.findClass own = some m.cls) (hC : rhCx D Z s) (hH : rhHp D Z L f s H locs) {fs : List Value} (ha : a ∈ L) (hf : f a = .inr (ci, fs)) (hc : rhCl[ci]? = some (C, T, N)) (k : Nat) (hk : k < N) (hlink : (Cond.fieldLink own index ref (T k).2.1 (T k).2.2.1).before args s = true) (hsame : ∀ x, s.fieldFound? (T k).1 (T k).2.1 (T k).2.2.1 = some x → s.fieldFound? ref (T k).2.1 (T k).2.2.1 = some x) {v : Value} (hv : fs[k]? = some v) (hdg : decode cc pc = .ok (.getfield index, 3))
    (kk : W p l e R s m args below meth c H locs cells slots Q (F0 m (pc + 3) ls (v :: rest))) : W p l e R s m args below meth c H locs cells slots Q (F0 m pc ls (.ref a :: rest)) := by
  obtain ⟨q0, hq⟩ := rh_pl (f := f) ha
  rw [hf] at hq
  exact va_get (D := D) hexec hb hts hin hown hC.2 hH.1 q0 hq hc k hk hlink hsame hv hdg kk
theorem rh_getN (hexec : p.tables.exec = Jvm.exec) (hb : c.code = cc) {own ref C host : String} {T : u_T} {N ci index : Nat} {Ts : List Cond} (hts : ∀ w ∈ Ts, w.before args s = true) (hin : ∀ w ∈ u_ws C T N, w ∈ Ts) (hown : s.vm.findClass own = some m.cls) (hC : rhCx D Z s) (hH : rhHp D Z L f s H locs) {fs : List Value} (ha : a ∈ L) (hf : f a = .inr (ci, fs)) (hc : rhCl[ci]? = some (C, T, N)) (k : Nat) (hk : k < N) (hlink : (Cond.fieldLinkNest own index ref (T k).2.1 (T k).2.2.1 host).before args s = true) (hsame : ∀ x, s.fieldFound? (T k).1 (T k).2.1 (T k).2.2.1 = some x → s.fieldFound? ref (T k).2.1 (T k).2.2.1 = some x) {v : Value} (hv : fs[k]? = some v) (hdg : decode cc pc = .ok (.getfield index, 3))
    (kk : W p l e R s m args below meth c H locs cells slots Q (F0 m (pc + 3) ls (v :: rest))) : W p l e R s m args below meth c H locs cells slots Q (F0 m pc ls (.ref a :: rest)) := by
  obtain ⟨q0, hq⟩ := rh_pl (f := f) ha
  rw [hf] at hq
  exact va_getN (D := D) hexec hb hts hin hown hC.2 hH.1 q0 hq hc k hk hlink hsame hv hdg kk
theorem rh_put (hexec : p.tables.exec = Jvm.exec) (hb : c.code = cc) {own ref C : String} {T : u_T} {N ci index : Nat} {Ts : List Cond} (hts : ∀ w ∈ Ts, w.before args s = true) (hin : ∀ w ∈ u_ws C T N, w ∈ Ts) (ty0 : Nat → FieldType) (hty : ∀ k, k < N → parseFieldDescriptor (T k).2.2.1 = some (ty0 k)) (hnm : ∀ a, a < N → ∀ b, b < N → a ≠ b → (T a).2.1 ≠ (T b).2.1) (hown : s.vm.findClass own = some m.cls) (hC : rhCx D Z s) (hH : rhHp D Z L f s H locs) {fs : List Value} (ha : a ∈ L) (hf : f a = .inr (ci, fs)) (hc : rhCl[ci]? = some (C, T, N)) (k : Nat) (hk : k < N) (hlink : (Cond.fieldLink own index ref (T k).2.1 (T k).2.2.1).before args s = true) (hsame : ∀ x, s.fieldFound? (T k).1 (T k).2.1 (T k).2.2.1 = some x → s.fieldFound? ref (T k).2.1 (T k).2.2.1 = some x) (hfin : (T k).2.2.2 = false) {ty : FieldType} {v : Value} (hd : parseFieldDescriptor (T k).2.2.1 = some ty) (hn : narrow ty v = v) (hfit : fits ty v = true) (hl : k < fs.length) (hdg : decode cc pc = .ok (.putfield index, 3))
    (kk : ∀ (f' : Nat → va_E) (H1 : Heap) (locs1 : List Loc), f' a = .inr (ci, fs.set k v) → (∀ b : Nat, b ≠ a → f' b = f b) → rhHp D Z L f' s H1 locs1 → W p l e R s m args below meth c H1 locs1 cells slots Q (F0 m (pc + 3) ls rest)) : W p l e R s m args below meth c H locs cells slots Q (F0 m pc ls (v :: .ref a :: rest)) := by
  obtain ⟨q0, hq⟩ := rh_pl (f := f) ha
  have hq' := hq
  rw [hf] at hq
  refine va_put (D := D) hexec hb hts hin ty0 hty hnm hown hC.2 hH.1 hH.2.1 hH.2.2 q0 hq hc k hk hlink hsame hfin hd hn hfit hl hdg (fun H1 locs1 hP1 hD1 hS1 => ?_)
  rw [rh_plset hH.2.1 ha hq'] at hP1 hD1
  exact kk _ H1 locs1 (va_up_self f a _) (fun b hb => va_up_ne f _ hb) ⟨hP1, hD1, hS1⟩
theorem rh_putF (hexec : p.tables.exec = Jvm.exec) (hb : c.code = cc) {own ref C : String} {T : u_T} {N ci index : Nat} {Ts : List Cond} (hts : ∀ w ∈ Ts, w.before args s = true) (hin : ∀ w ∈ u_ws C T N, w ∈ Ts) (ty0 : Nat → FieldType) (hty : ∀ k, k < N → parseFieldDescriptor (T k).2.2.1 = some (ty0 k)) (hnm : ∀ a, a < N → ∀ b, b < N → a ≠ b → (T a).2.1 ≠ (T b).2.1) (hown : s.vm.findClass own = some m.cls) (hC : rhCx D Z s) (hH : rhHp D Z L f s H locs) {fs : List Value} (ha : a ∈ L) (hf : f a = .inr (ci, fs)) (hc : rhCl[ci]? = some (C, T, N)) (k : Nat) (hk : k < N) (hlink : (Cond.fieldLink own index ref (T k).2.1 (T k).2.2.1).before args s = true) (hsame : ∀ x, s.fieldFound? (T k).1 (T k).2.1 (T k).2.2.1 = some x → s.fieldFound? ref (T k).2.1 (T k).2.2.1 = some x) (hfin : (T k).2.2.2 = true) (hin2 : meth.name = "<init>") (hdecl : (T k).1 = own) {ty : FieldType} {v : Value} (hd : parseFieldDescriptor (T k).2.2.1 = some ty) (hn : narrow ty v = v) (hfit : fits ty v = true) (hl : k < fs.length) (hdg : decode cc pc = .ok (.putfield index, 3))
    (kk : ∀ (f' : Nat → va_E) (H1 : Heap) (locs1 : List Loc), f' a = .inr (ci, fs.set k v) → (∀ b : Nat, b ≠ a → f' b = f b) → rhHp D Z L f' s H1 locs1 → W p l e R s m args below meth c H1 locs1 cells slots Q (F0 m (pc + 3) ls rest)) : W p l e R s m args below meth c H locs cells slots Q (F0 m pc ls (v :: .ref a :: rest)) := by
  obtain ⟨q0, hq⟩ := rh_pl (f := f) ha
  have hq' := hq
  rw [hf] at hq
  refine va_putF (D := D) hexec hb hts hin ty0 hty hnm hown hC.2 hH.1 hH.2.1 hH.2.2 q0 hq hc k hk hlink hsame hfin hin2 hdecl hd hn hfit hl hdg (fun H1 locs1 hP1 hD1 hS1 => ?_)
  rw [rh_plset hH.2.1 ha hq'] at hP1 hD1
  exact kk _ H1 locs1 (va_up_self f a _) (fun b hb => va_up_ne f _ hb) ⟨hP1, hD1, hS1⟩
theorem rh_iald (hexec : p.tables.exec = Jvm.exec) (hb : c.code = cc) (hC : rhCx D Z s) (hH : rhHp D Z L f s H locs) {n : Nat} {g : Nat → Int32} (ha : a ∈ L) (hf : f a = eInts D n g) {i : Int32} (hin : vp_in i n) (hdg : decode cc pc = .ok (.iaload, 1))
    (kk : W p l e R s m args below meth c H locs cells slots Q (F0 m (pc + 1) ls (.int (g i.toNatClampNeg) :: rest))) : W p l e R s m args below meth c H locs cells slots Q (F0 m pc ls (.int i :: .ref a :: rest)) := by
  obtain ⟨q0, hq⟩ := rh_pl (f := f) ha
  rw [hf] at hq
  exact va_iald (D := D) hexec hb hC.2 hH.1 q0 3 hq rfl hin hdg kk
theorem rh_iast (hexec : p.tables.exec = Jvm.exec) (hb : c.code = cc) (hC : rhCx D Z s) (hH : rhHp D Z L f s H locs) {n : Nat} {g : Nat → Int32} (ha : a ∈ L) (hf : f a = eInts D n g) {i x : Int32} (hin : vp_in i n) (hdg : decode cc pc = .ok (.iastore, 1))
    (kk : ∀ (f' : Nat → va_E) (H1 : Heap) (locs1 : List Loc), f' a = eInts D n (upd g i.toNatClampNeg x) → (∀ b : Nat, b ≠ a → f' b = f b) → rhHp D Z L f' s H1 locs1 → W p l e R s m args below meth c H1 locs1 cells slots Q (F0 m (pc + 1) ls rest)) : W p l e R s m args below meth c H locs cells slots Q (F0 m pc ls (.int x :: .int i :: .ref a :: rest)) := by
  obtain ⟨q0, hq⟩ := rh_pl (f := f) ha
  have hq' := hq
  rw [hf] at hq
  refine va_iast (D := D) hexec hb hC.2 hH.1 hH.2.1 hH.2.2 q0 3 hq rfl hin hdg (fun H1 locs1 hP1 hD1 hS1 => ?_)
  rw [rh_plset hH.2.1 ha hq'] at hP1 hD1
  exact kk _ H1 locs1 (va_up_self f a _) (fun b hb => va_up_ne f _ hb) ⟨hP1, hD1, hS1⟩
theorem rh_aald (hexec : p.tables.exec = Jvm.exec) (hb : c.code = cc) (hC : rhCx D Z s) (hH : rhHp D Z L f s H locs) {n t0 : Nat} {cA : ClassId} {C : String} {g : Nat → Option Nat} (ha : a ∈ L) (hf : f a = eRefs cA n g) (ht : (rhTy D)[t0]? = some (cA, .object C)) {i : Int32} (hin : vp_in i n) (hdg : decode cc pc = .ok (.aaload, 1))
    (kk : W p l e R s m args below meth c H locs cells slots Q (F0 m (pc + 1) ls (va_rf (g i.toNatClampNeg) :: rest))) : W p l e R s m args below meth c H locs cells slots Q (F0 m pc ls (.int i :: .ref a :: rest)) := by
  obtain ⟨q0, hq⟩ := rh_pl (f := f) ha
  rw [hf] at hq
  exact va_aldq (D := D) hexec hb hC.2 hH.1 q0 t0 hq ht hin hdg kk
theorem rh_aast (hexec : p.tables.exec = Jvm.exec) (hb : c.code = cc) (hC : rhCx D Z s) (hH : rhHp D Z L f s H locs) {n t0 v : Nat} {cA : ClassId} {E : String} {g : Nat → Option Nat} (ha : a ∈ L) (hf : f a = eRefs cA n g) (ht : (rhTy D)[t0]? = some (cA, .object E)) (hr : va_Any E s H v) {i : Int32} (hin : vp_in i n) (hdg : decode cc pc = .ok (.aastore, 1))
    (kk : ∀ (f' : Nat → va_E) (H1 : Heap) (locs1 : List Loc), f' a = eRefs cA n (va_up g i.toNatClampNeg (some v)) → (∀ b : Nat, b ≠ a → f' b = f b) → rhHp D Z L f' s H1 locs1 → W p l e R s m args below meth c H1 locs1 cells slots Q (F0 m (pc + 1) ls rest)) : W p l e R s m args below meth c H locs cells slots Q (F0 m pc ls (.ref v :: .int i :: .ref a :: rest)) := by
  obtain ⟨q0, hq⟩ := rh_pl (f := f) ha
  have hq' := hq
  rw [hf] at hq
  refine va_astqM (D := D) hexec hb hC.2 hH.1 hH.2.1 hH.2.2 q0 t0 hq ht hr hin hdg (fun H1 locs1 hP1 hD1 hS1 => ?_)
  rw [rh_plset hH.2.1 ha hq'] at hP1 hD1
  exact kk _ H1 locs1 (va_up_self f a _) (fun b hb => va_up_ne f _ hb) ⟨hP1, hD1, hS1⟩
theorem rh_alen (hexec : p.tables.exec = Jvm.exec) (hb : c.code = cc) (hC : rhCx D Z s) (hH : rhHp D Z L f s H locs) {t0 : Nat} {cA : ClassId} {x : vp_A} {ty : FieldType} (ha : a ∈ L) (hf : f a = .inl (cA, x)) (ht : (rhTy D)[t0]? = some (cA, ty)) {v : Int32} (hv : Int32.ofNat x.1 = v) (hdg : decode cc pc = .ok (.arraylength, 1))
    (kk : W p l e R s m args below meth c H locs cells slots Q (F0 m (pc + 1) ls (.int v :: rest))) : W p l e R s m args below meth c H locs cells slots Q (F0 m pc ls (.ref a :: rest)) := by
  obtain ⟨q0, hq⟩ := rh_pl (f := f) ha
  rw [hf] at hq
  exact va_alen (D := D) hexec hb hC.2 hH.1 q0 t0 hq ht hv hdg kk
theorem rh_free (hC : rhCx D Z s) : ∀ q : Nat, s.heap.size ≤ q → rhA Z q := fun q h => Nat.le_trans hC.1.1.1 h
/-- a new cell: the pool grows -/
theorem rh_grow {q : Nat} {e0 : va_E} (hD : va_D (rhA Z) (va_pl L f ++ [(q, e0)])) : q ∉ L ∧ va_pl L f ++ [(q, e0)] = va_pl (L ++ [q]) (va_up f q e0) := by
  have hq : q ∉ L := va_pl_fresh2 (X := []) hD
  exact ⟨hq, va_pl_push hq⟩
theorem rh_new (hexec : p.tables.exec = Jvm.exec) (hb : c.code = cc) {own C : String} {T : u_T} {N ci index : Nat} {Ts : List Cond} (hts : ∀ w ∈ Ts, w.before args s = true) (hin : ∀ w ∈ u_ws C T N, w ∈ Ts) (ty : Nat → FieldType) (hty : ∀ k, k < N → parseFieldDescriptor (T k).2.2.1 = some (ty k)) (hown : s.vm.findClass own = some m.cls) (hcl : (Cond.classLink own index C).before args s = true) (hinst : (Cond.instantiable C N).before args s = true) (hini : (Cond.initialized C).before args s = true) (hC : rhCx D Z s) (hH : rhHp D Z L f s H locs) (hc : rhCl[ci]? = some (C, T, N)) {fs : List Value} (hfs : ∀ j, j < N → defaultValue (ty j) = vp_V fs j) (hcells : cells + 1 ≤ R.cells) (hslots : slots + N ≤ R.slots) (hdg : decode cc pc = .ok (.new index, 3))
    (kk : ∀ (q : Nat) (f' : Nat → va_E) (H1 : Heap), q ∉ L → f' q = .inr (ci, fs) → (∀ b : Nat, b ∈ L → f' b = f b) → rhHp D Z (L ++ [q]) f' s H1 locs → W p l e R s m args below meth c H1 locs (cells + 1) (slots + N) Q (F0 m (pc + 3) ls (.ref q :: rest))) : W p l e R s m args below meth c H locs cells slots Q (F0 m pc ls rest) := by
  refine va_new (D := D) hexec hb hts hin ty hty hown hcl hinst hini hC.2 hH.1 hH.2.1 hH.2.2 (rh_free hC) hc hfs hcells hslots hdg (fun q H1 hP1 hD1 hS1 => ?_)
  obtain ⟨hq, he⟩ := rh_grow hD1
  rw [he] at hP1 hD1
  exact kk q _ H1 hq (va_up_self f q _) (fun b hb => va_up_ne f _ (fun z => hq (z ▸ hb))) ⟨hP1, hD1, hS1⟩
/-- two array classes of one type are one -/
theorem rh_cA {cA d : ClassId} {ty : FieldType} (h1 : va_RA s cA ty) (h2 : va_RA s d ty) : cA = d := by
  cases ty with
  | object C =>
    obtain ⟨-, -, -, -, -, h4⟩ := h1
    obtain ⟨-, -, -, -, -, g4⟩ := h2
    exact Option.some.inj (h4.symm.trans g4)
  | _ =>
    have a1 : s.vm.findClass _ = some cA := h1
    have a2 : s.vm.findClass _ = some d := h2
    exact Option.some.inj (a1.symm.trans a2)
theorem rh_newi (hexec : p.tables.exec = Jvm.exec) (hb : c.code = cc) (harr : (Cond.arrayClass .int).before args s = true) (hC : rhCx D Z s) (hH : rhHp D Z L f s H locs) {n : Int32} {N : Nat} (hn : ¬ n < 0) (hN : n.toNatClampNeg = N) (hbytes : N * 4 ≤ 536870912) (hcells : cells + 1 ≤ R.cells) (hslots : slots + N ≤ R.slots) (hdg : decode cc pc = .ok (.newarray .int, 2))
    (kk : ∀ (q : Nat) (f' : Nat → va_E) (H1 : Heap), q ∉ L → f' q = eInts D N (fun _ => 0) → (∀ b : Nat, b ∈ L → f' b = f b) → rhHp D Z (L ++ [q]) f' s H1 locs → W p l e R s m args below meth c H1 locs (cells + 1) (slots + N) Q (F0 m (pc + 2) ls (.ref q :: rest))) : W p l e R s m args below meth c H locs cells slots Q (F0 m pc ls (.int n :: rest)) := by
  refine va_newa (D := D) (atype := .int) (ty := .int) (a0 := (N, .inl (fun _ => 0))) hexec hb harr rfl hC.2 hH.1 hH.2.1 hH.2.2 (rh_free hC) (fun cA => by rw [vp_cell_i]; rfl) hn hN hbytes hcells hslots hdg (fun q cA H1 hK1 hP1 hD1 hS1 => ?_)
  have hcA : cA = D.1 103 := rh_cA (s := s) (hK1.2 4 _ rfl).2 (hC.2.2 3 _ rfl).2
  subst hcA
  obtain ⟨hq, he⟩ := rh_grow hD1
  rw [he] at hP1 hD1
  exact kk q _ H1 hq (va_up_self f q _) (fun b hb => va_up_ne f _ (fun z => hq (z ▸ hb))) ⟨hP1, hD1, hS1⟩
theorem rh_newq (hexec : p.tables.exec = Jvm.exec) (hb : c.code = cc) {own C : String} {index t0 : Nat} {d : ClassId} (hown : s.vm.findClass own = some m.cls) (hclink : (Cond.classLink own index C).before args s = true) (hover : va_AO C s) (hC : rhCx D Z s) (hH : rhHp D Z L f s H locs) (ht : (rhTy D)[t0]? = some (d, .object C)) {n : Int32} {N : Nat} (hn : ¬ n < 0) (hN : n.toNatClampNeg = N) (hbytes : N * 4 ≤ 536870912) (hcells : cells + 1 ≤ R.cells) (hslots : slots + N ≤ R.slots) (hdg : decode cc pc = .ok (.anewarray index, 3))
    (kk : ∀ (q : Nat) (f' : Nat → va_E) (H1 : Heap), q ∉ L → f' q = eRefs d N (fun _ => none) → (∀ b : Nat, b ∈ L → f' b = f b) → rhHp D Z (L ++ [q]) f' s H1 locs → W p l e R s m args below meth c H1 locs (cells + 1) (slots + N) Q (F0 m (pc + 3) ls (.ref q :: rest))) : W p l e R s m args below meth c H locs cells slots Q (F0 m pc ls (.int n :: rest)) := by
  refine va_newq (D := D) hexec hb hown hclink hover hC.2 hH.1 hH.2.1 hH.2.2 (rh_free hC) hn hN hbytes hcells hslots hdg (fun q cA H1 hK1 hP1 hD1 hS1 => ?_)
  have hcA : cA = d := rh_cA (s := s) (hK1.2 4 _ rfl).2 (hC.2.2 t0 _ ht).2
  subst hcA
  obtain ⟨hq, he⟩ := rh_grow hD1
  rw [he] at hP1 hD1
  exact kk q _ H1 hq (va_up_self f q _) (fun b hb => va_up_ne f _ (fun z => hq (z ▸ hb))) ⟨hP1, hD1, hS1⟩
/-! ends of methods -/
theorem rh_iret (hx : p.tables.exec = Jvm.exec) (hb : c.code = cc) {post : Int32 → List Nat → (Nat → va_E) → Prop} {mc ms : Nat} {v : Int32} (hr : meth.sig.returnType = some .int) (hlocks : meth.locks = false) (hC : rhCx D Z s) (hH : rhHp D Z L f s H locs) (h1 : cells ≤ mc) (h2 : slots ≤ ms) (hp : post v L f) (hdg : decode cc pc = .ok (.ireturn, 1)) : W p l e R s m args below meth c H locs cells slots (MQ below (rhQi D Z post) args s mc ms (rhA Z)) (F0 m pc ls [.int v]) :=
  W.widen h1 h2 (W.iret hx hb hr (fun _ ht hW => ⟨⟨v, (L, f), rfl, hp, hH.world hC ht hW⟩, hH.2.2.F ht⟩) hH.2.2.2.2 hdg hlocks)
theorem rh_zret (hx : p.tables.exec = Jvm.exec) (hb : c.code = cc) {post : Int32 → List Nat → (Nat → va_E) → Prop} {mc ms : Nat} {v : Int32} (hr : meth.sig.returnType = some .boolean) (hv : narrow .boolean (.int v) = .int v) (hlocks : meth.locks = false) (hC : rhCx D Z s) (hH : rhHp D Z L f s H locs) (h1 : cells ≤ mc) (h2 : slots ≤ ms) (hp : post v L f) (hdg : decode cc pc = .ok (.ireturn, 1)) : W p l e R s m args below meth c H locs cells slots (MQ below (rhQi D Z post) args s mc ms (rhA Z)) (F0 m pc ls [.int v]) :=
  W.widen h1 h2 (W.zret hx hb hr hv (fun _ ht hW => ⟨⟨v, (L, f), rfl, hp, hH.world hC ht hW⟩, hH.2.2.F ht⟩) hH.2.2.2.2 hdg hlocks)
theorem rh_lret (hx : p.tables.exec = Jvm.exec) (hb : c.code = cc) {post : Int64 → List Nat → (Nat → va_E) → Prop} {mc ms : Nat} {v : Int64} (hr : meth.sig.returnType = some .long) (hlocks : meth.locks = false) (hC : rhCx D Z s) (hH : rhHp D Z L f s H locs) (h1 : cells ≤ mc) (h2 : slots ≤ ms) (hp : post v L f) (hdg : decode cc pc = .ok (.lreturn, 1)) : W p l e R s m args below meth c H locs cells slots (MQ below (rhQl D Z post) args s mc ms (rhA Z)) (F0 m pc ls [.long v]) :=
  W.widen h1 h2 (W.lret hx hb hr (fun _ ht hW => ⟨⟨v, (L, f), rfl, hp, hH.world hC ht hW⟩, hH.2.2.F ht⟩) hH.2.2.2.2 hdg hlocks)
theorem rh_dret (hx : p.tables.exec = Jvm.exec) (hb : c.code = cc) {post : UInt64 → List Nat → (Nat → va_E) → Prop} {mc ms : Nat} {v : UInt64} (hr : meth.sig.returnType = some .double) (hlocks : meth.locks = false) (hC : rhCx D Z s) (hH : rhHp D Z L f s H locs) (h1 : cells ≤ mc) (h2 : slots ≤ ms) (hp : post v L f) (hdg : decode cc pc = .ok (.dreturn, 1)) : W p l e R s m args below meth c H locs cells slots (MQ below (rhQd D Z post) args s mc ms (rhA Z)) (F0 m pc ls [.double v]) :=
  W.widen h1 h2 (W.dret hx hb hr (fun _ ht hW => ⟨⟨v, (L, f), rfl, hp, hH.world hC ht hW⟩, hH.2.2.F ht⟩) hH.2.2.2.2 hdg hlocks)
theorem rh_vret (hx : p.tables.exec = Jvm.exec) (hb : c.code = cc) {post : List Nat → (Nat → va_E) → Prop} {mc ms : Nat} (hr : meth.sig.returnType = none) (hlocks : meth.locks = false) (hC : rhCx D Z s) (hH : rhHp D Z L f s H locs) (h1 : cells ≤ mc) (h2 : slots ≤ ms) (hp : post L f) (hdg : decode cc pc = .ok (.return_, 1)) : W p l e R s m args below meth c H locs cells slots (MQ below (rhQv D Z post) args s mc ms (rhA Z)) (F0 m pc ls []) :=
  W.widen h1 h2 (W.vret hx hb hr (fun _ ht hW => ⟨⟨(L, f), rfl, hp, hH.world hC ht hW⟩, hH.2.2.F ht⟩) hH.2.2.2.2 hdg hlocks)
theorem rh_aret (hx : p.tables.exec = Jvm.exec) (hb : c.code = cc) {post : Nat → List Nat → (Nat → va_E) → Prop} {mc ms : Nat} {v : Nat} {rt : FieldType} (hr : meth.sig.returnType = some rt) (hrt : (∃ n, rt = .object n) ∨ ∃ t, rt = .array t) (hlocks : meth.locks = false) (hC : rhCx D Z s) (hH : rhHp D Z L f s H locs) (h1 : cells ≤ mc) (h2 : slots ≤ ms) (hp : post v L f) (hdg : decode cc pc = .ok (.areturn, 1)) : W p l e R s m args below meth c H locs cells slots (MQ below (rhQr D Z post) args s mc ms (rhA Z)) (F0 m pc ls [.ref v]) :=
  W.widen h1 h2 (W.aret hx hb hr hrt (Or.inr ⟨v, rfl⟩) (fun _ ht hW => ⟨⟨(L, f, v), v, rfl, hp, rfl, hH.world hC ht hW⟩, hH.2.2.F ht⟩) hH.2.2.2.2 hdg hlocks)
/-! calls -/
theorem rh_preS (hC : rhCx D Z s) (hH : rhHp D Z L f s H locs) (As : List Value) : PreS s H (rhPc D Z L f As) As := by
  refine ⟨fun a U g mk q => ?_, fun U hU hW => ⟨rfl, hH.world hC hU hW⟩⟩
  obtain ⟨q0, q1, q2, q3, q4⟩ := q
  exact ⟨q0, q1, va_K.moved (u := U) (U := U.calling g mk a) (Vm.Alike.refl U.vm) q2, q3, q4⟩
theorem rh_preV (hC : rhCx D Z s) (hH : rhHp D Z L f s H locs) {C : String} {b : Nat} (As : List Value) (hr : ∃ cell : Cell, H[b]? = some cell ∧ cell.vm.isStatics = false ∧ s.vm.findClass C = some cell.cls) : PreV s H C b (rhPc D Z L f (.ref b :: As)) As := by
  refine ⟨fun a U g mk q => ?_, hr, fun U hU hW => ⟨rfl, hH.world hC hU hW⟩⟩
  obtain ⟨q0, q1, q2, q3, q4⟩ := q
  exact ⟨q0, q1, va_K.moved (u := U) (U := U.calling g mk a) (Vm.Alike.refl U.vm) q2, q3, q4⟩
theorem rh_after {L' : List Nat} {f' : Nat → va_E} {t : State} {H1 : Heap} {locs1 : List Loc} (ht : t.heap = H1) (h : rhW D Z L' f' t) (hS : va_S (rhA Z) s.heap H1 locs1) : rhHp D Z L' f' s H1 locs1 := ⟨by rw [← ht]; exact h.2.2.1, h.2.2.2, hS⟩
variable {st0 : List Value} {av : Array Value} {mc ms : Nat}
theorem rh_ki {post : Int32 → List Nat → (Nat → va_E) → Prop} (hC : rhCx D Z s) (hH : rhHp D Z L f s H locs) (hr : va_Run p l e R s m args below meth c H locs cells slots mc ms (F0 m pc ls st0) rest (rhQi D Z post av) (rhA Z))
    (kk : ∀ (r : Int32) (L' : List Nat) (f' : Nat → va_E) (H1 : Heap) (locs1 : List Loc), post r L' f' → rhHp D Z L' f' s H1 locs1 → W p l e R s m args below meth c H1 locs1 (cells + mc) (slots + ms) Q (F0 m (pc + 3) ls (.int r :: rest))) : W p l e R s m args below meth c H locs cells slots Q (F0 m pc ls st0) :=
  va_calli hr hH.2.2 (fun _ _ h => h) (fun _ h => h) (fun r u t H1 locs1 ht _ hp hB _ _ hS => kk r u.1 u.2 H1 locs1 hp (rh_after ht hB hS))
theorem rh_kl {post : Int64 → List Nat → (Nat → va_E) → Prop} (hC : rhCx D Z s) (hH : rhHp D Z L f s H locs) (hr : va_Run p l e R s m args below meth c H locs cells slots mc ms (F0 m pc ls st0) rest (rhQl D Z post av) (rhA Z))
    (kk : ∀ (r : Int64) (L' : List Nat) (f' : Nat → va_E) (H1 : Heap) (locs1 : List Loc), post r L' f' → rhHp D Z L' f' s H1 locs1 → W p l e R s m args below meth c H1 locs1 (cells + mc) (slots + ms) Q (F0 m (pc + 3) ls (.long r :: rest))) : W p l e R s m args below meth c H locs cells slots Q (F0 m pc ls st0) :=
  va_calll hr hH.2.2 (fun _ _ h => h) (fun _ h => h) (fun r u t H1 locs1 ht _ hp hB _ _ hS => kk r u.1 u.2 H1 locs1 hp (rh_after ht hB hS))
theorem rh_kd {post : UInt64 → List Nat → (Nat → va_E) → Prop} (hC : rhCx D Z s) (hH : rhHp D Z L f s H locs) (hr : va_Run p l e R s m args below meth c H locs cells slots mc ms (F0 m pc ls st0) rest (rhQd D Z post av) (rhA Z))
    (kk : ∀ (r : UInt64) (L' : List Nat) (f' : Nat → va_E) (H1 : Heap) (locs1 : List Loc), post r L' f' → rhHp D Z L' f' s H1 locs1 → W p l e R s m args below meth c H1 locs1 (cells + mc) (slots + ms) Q (F0 m (pc + 3) ls (.double r :: rest))) : W p l e R s m args below meth c H locs cells slots Q (F0 m pc ls st0) :=
  va_calld hr hH.2.2 (fun _ _ h => h) (fun _ h => h) (fun r u t H1 locs1 ht _ hp hB _ _ hS => kk r u.1 u.2 H1 locs1 hp (rh_after ht hB hS))
theorem rh_kv {post : List Nat → (Nat → va_E) → Prop} (hC : rhCx D Z s) (hH : rhHp D Z L f s H locs) (hr : va_Run p l e R s m args below meth c H locs cells slots mc ms (F0 m pc ls st0) rest (rhQv D Z post av) (rhA Z))
    (kk : ∀ (L' : List Nat) (f' : Nat → va_E) (H1 : Heap) (locs1 : List Loc), post L' f' → rhHp D Z L' f' s H1 locs1 → W p l e R s m args below meth c H1 locs1 (cells + mc) (slots + ms) Q (F0 m (pc + 3) ls rest)) : W p l e R s m args below meth c H locs cells slots Q (F0 m pc ls st0) :=
  va_callv hr hH.2.2 (fun _ _ h => h) (fun _ h => h) (fun u t H1 locs1 ht _ hp hB _ _ hS => kk u.1 u.2 H1 locs1 hp (rh_after ht hB hS))
theorem rh_kr {post : Nat → List Nat → (Nat → va_E) → Prop} (hC : rhCx D Z s) (hH : rhHp D Z L f s H locs) (hr : va_Run p l e R s m args below meth c H locs cells slots mc ms (F0 m pc ls st0) rest (rhQr D Z post av) (rhA Z))
    (kk : ∀ (r : Nat) (L' : List Nat) (f' : Nat → va_E) (H1 : Heap) (locs1 : List Loc), post r L' f' → rhHp D Z L' f' s H1 locs1 → W p l e R s m args below meth c H1 locs1 (cells + mc) (slots + ms) Q (F0 m (pc + 3) ls (.ref r :: rest))) : W p l e R s m args below meth c H locs cells slots Q (F0 m pc ls st0) :=
  va_callr hr hH.2.2 (fun _ _ h => h) (fun _ h => h) (fun u ra t H1 locs1 ht _ hp hB _ _ hS => by
    obtain ⟨e1, hW⟩ := hB
    subst e1
    exact kk u.2.2 u.1 u.2.1 H1 locs1 hp (rh_after ht hW hS))
theorem rh_kFi {post : Int32 → List Nat → (Nat → va_E) → Prop} (hC : rhCx D Z s) (hH : rhHp D Z L f s H locs) (hr : va_Run5 p l e R s m args below meth c H locs cells slots mc ms (F0 m pc ls st0) rest (rhQi D Z post av) (rhA Z))
    (kk : ∀ (r : Int32) (L' : List Nat) (f' : Nat → va_E) (H1 : Heap) (locs1 : List Loc), post r L' f' → rhHp D Z L' f' s H1 locs1 → W p l e R s m args below meth c H1 locs1 (cells + mc) (slots + ms) Q (F0 m (pc + 5) ls (.int r :: rest))) : W p l e R s m args below meth c H locs cells slots Q (F0 m pc ls st0) :=
  va_callFi hr hH.2.2 (fun _ _ h => h) (fun _ h => h) (fun r u t H1 locs1 ht _ hp hB _ _ hS => kk r u.1 u.2 H1 locs1 hp (rh_after ht hB hS))
theorem rh_kFv {post : List Nat → (Nat → va_E) → Prop} (hC : rhCx D Z s) (hH : rhHp D Z L f s H locs) (hr : va_Run5 p l e R s m args below meth c H locs cells slots mc ms (F0 m pc ls st0) rest (rhQv D Z post av) (rhA Z))
    (kk : ∀ (L' : List Nat) (f' : Nat → va_E) (H1 : Heap) (locs1 : List Loc), post L' f' → rhHp D Z L' f' s H1 locs1 → W p l e R s m args below meth c H1 locs1 (cells + mc) (slots + ms) Q (F0 m (pc + 5) ls rest)) : W p l e R s m args below meth c H locs cells slots Q (F0 m pc ls st0) :=
  va_callFv hr hH.2.2 (fun _ _ h => h) (fun _ h => h) (fun u t H1 locs1 ht _ hp hB _ _ hS => kk u.1 u.2 H1 locs1 hp (rh_after ht hB hS))
theorem rh_kFr {post : Nat → List Nat → (Nat → va_E) → Prop} (hC : rhCx D Z s) (hH : rhHp D Z L f s H locs) (hr : va_Run5 p l e R s m args below meth c H locs cells slots mc ms (F0 m pc ls st0) rest (rhQr D Z post av) (rhA Z))
    (kk : ∀ (r : Nat) (L' : List Nat) (f' : Nat → va_E) (H1 : Heap) (locs1 : List Loc), post r L' f' → rhHp D Z L' f' s H1 locs1 → W p l e R s m args below meth c H1 locs1 (cells + mc) (slots + ms) Q (F0 m (pc + 5) ls (.ref r :: rest))) : W p l e R s m args below meth c H locs cells slots Q (F0 m pc ls st0) :=
  va_callFr hr hH.2.2 (fun _ _ h => h) (fun _ h => h) (fun u ra t H1 locs1 ht _ hp hB _ _ hS => by
    obtain ⟨e1, hW⟩ := hB
    subst e1
    exact kk u.2.2 u.1 u.2.1 H1 locs1 hp (rh_after ht hW hS))
/-! Longs: from the pool or from the cache -/
end RHP
/-- the cell a is a Long of value k -/
def rhLg (Z : Nat → Nat) (L : List Nat) (f : Nat → va_E) (a k : Nat) : Prop := (a ∈ L ∧ f a = eLong k) ∨ (k < 128 ∧ a = Z (138 + k))
theorem rh_lgAt {D : va_G} {Z : Nat → Nat} {L : List Nat} {f : Nat → va_E} {s : State} {H : Heap} {locs : List Loc} {a k : Nat} (hC : rhCx D Z s) (hH : rhHp D Z L f s H locs) (h : rhLg Z L f a k) : va_P D rhCl [(a, eLong k)] H := by
  intro j q hj
  have hz : j < 1 := (List.getElem?_eq_some_iff.mp hj).1
  rw [show j = 0 by omega] at hj
  cases hj
  rcases h with ⟨h1, h2⟩ | ⟨h1, h2⟩
  · obtain ⟨k0, hk⟩ := rh_pl (f := f) h1
    rw [h2] at hk
    exact hH.1 k0 _ hk
  · subst h2
    exact ((hH.gx hC).2.2.1 k h1).2
theorem rh_lgRecv {D : va_G} {Z : Nat → Nat} {L : List Nat} {f : Nat → va_E} {s : State} {H : Heap} {locs : List Loc} {a k : Nat} (hC : rhCx D Z s) (hH : rhHp D Z L f s H locs) (h : rhLg Z L f a k) : ∃ cell : Cell, H[a]? = some cell ∧ cell.vm.isStatics = false ∧ s.vm.findClass RJ5 = some cell.cls := va_recv (q := (RJ5, TJ5, 1)) (ci := 3) (q0 := 0) hC.2 (rh_lgAt hC hH h) rfl rfl
/-- the start of a method's walk -/
theorem rh_ofW {l : Launch} {y : MethodName} {cc : ByteArray} {maxL : Nat} {ret : Option FieldType} {rm : Room} {D : va_G} {Z : Nat → Nat} {L : List Nat} {f : Nat → va_E} {av : List Value} {Qc : Array Value → State → Outcome → State → Prop} {mc ms : Nat} (hy : plainName y.cls = true) (hav : (lg_sl av).length ≤ maxL)
    (body : ∀ (p : Program) (e : Env) (s : State) (m : MethodId) (args : Array Value) (below : List Frame) (meth : Method) (c : Code), p.tables.exec = Jvm.exec → c.code = cc → meth.sig.returnType = ret → meth.locks = false → c.maxLocals = maxL → s.vm.findClass y.cls = some m.cls → meth.name = y.name → (∀ w ∈ lw_all, w.before args s = true) → rhCx D Z s → rhHp D Z L f s s.heap [] → ∀ ls : Array Slot, lv_has ls maxL (lv_args 0 av) → W p l e rm s m args below meth c s.heap [] 0 0 (MQ below Qc args s mc ms (rhA Z)) (F0 m 0 ls [])) :
    Met l y (ws_ y cc maxL ret) rm (rhPc D Z L f av) Qc mc ms (rhA Z) := by
  refine Met.ofW (cc := cc) (maxL := maxL) (ret := ret) hy rfl ?_
  intro p e s m args below meth c s₁ B hml hv
  obtain ⟨rfl, hG, hK, hP, hD⟩ := hv
  have hts := atoms_spec (ws := ws_ y cc maxL ret) B.pre
  have hts : ∀ w ∈ lw_all, w.before _ s = true := fun w h => hts w (List.mem_cons_of_mem _ h)
  have hl := lv_entry av (n := maxL) hav
  rw [lg_entry_eq]
  exact body p e s m _ below meth c B.exec B.bytes B.returns B.notSynchronized hml (findClass_of_methodNamed B.named) (name_of_methodNamed B.named B.method).1 hts ⟨hG, hK⟩ ⟨hP, hD, va_S.rf⟩ _ hl
theorem rh_ofWF {l : Launch} {y : MethodName} {cc : ByteArray} {maxL : Nat} {ret : Option FieldType} {rm : Room} {D : va_G} {Z : Nat → Nat} {L : List Nat} {f : Nat → va_E} {av : List Value} {Qc : Array Value → State → Outcome → State → Prop} {mc ms : Nat} (hy : plainFor y = true) (hav : (lg_sl av).length ≤ maxL)
    (body : ∀ (p : Program) (e : Env) (s : State) (m : MethodId) (args : Array Value) (below : List Frame) (meth : Method) (c : Code), p.tables.exec = Jvm.exec → c.code = cc → meth.sig.returnType = ret → meth.locks = false → c.maxLocals = maxL → s.vm.findClass y.cls = some m.cls → meth.name = y.name → (∀ w ∈ lw_all, w.before args s = true) → rhCx D Z s → rhHp D Z L f s s.heap [] → ∀ ls : Array Slot, lv_has ls maxL (lv_args 0 av) → W p l e rm s m args below meth c s.heap [] 0 0 (MQ below Qc args s mc ms (rhA Z)) (F0 m 0 ls [])) :
    Met l y (ws_ y cc maxL ret) rm (rhPc D Z L f av) Qc mc ms (rhA Z) := by
  refine va_MetF (cc := cc) (maxL := maxL) (ret := ret) hy rfl ?_
  intro p e s m args below meth c s₁ B hml hv
  obtain ⟨rfl, hG, hK, hP, hD⟩ := hv
  have hts := atoms_spec (ws := ws_ y cc maxL ret) B.pre
  have hts : ∀ w ∈ lw_all, w.before _ s = true := fun w h => hts w (List.mem_cons_of_mem _ h)
  have hl := lv_entry av (n := maxL) hav
  rw [lg_entry_eq]
  exact body p e s m _ below meth c B.exec B.bytes B.returns B.notSynchronized hml (findClass_of_methodNamed B.named) (name_of_methodNamed B.named B.method).1 hts ⟨hG, hK⟩ ⟨hP, hD, va_S.rf⟩ _ hl
theorem rhCx.wd {D : va_G} {Z : Nat → Nat} {s : State} (h : rhCx D Z s) : rhWd D Z s := h.1.2.2.2
theorem rhCx.nest {D : va_G} {Z : Nat → Nat} {s : State} (h : rhCx D Z s) : va_Nw (.fieldLinkNest "java/util/ArrayList$Itr" 28 "java/util/ArrayList" "size" "I" "java/util/ArrayList") s := h.wd.2.2.2.2.2.1.1
theorem rhCx.priv {D : va_G} {Z : Nat → Nat} {s : State} (h : rhCx D Z s) : va_Nw (.privateMethod yX1_findAndCacheMinimum) s := h.wd.2.2.2.2.2.1.2
theorem rhCx.dCmp {D : va_G} {Z : Nat → Nat} {s : State} (h : rhCx D Z s) : va_Nw (.declares yAb_compare) s := h.wd.2.2.2.2.1.1
theorem rhCx.dMsd {D : va_G} {Z : Nat → Nat} {s : State} (h : rhCx D Z s) : va_Nw (.declares yAb_msd) s := h.wd.2.2.2.2.1.2
theorem rhCx.cLong {D : va_G} {Z : Nat → Nat} {s : State} (h : rhCx D Z s) : va_Nw (.castable RJ5 "java/lang/Object") s := h.wd.2.2.2.1.1
theorem rhCx.cAL {D : va_G} {Z : Nat → Nat} {s : State} (h : rhCx D Z s) : va_Nw (.castable RJ8 "java/util/List") s := h.wd.2.2.2.1.2
theorem rhCx.oObj {D : va_G} {Z : Nat → Nat} {s : State} (h : rhCx D Z s) : va_AO "java/lang/Object" s := h.wd.2.2.1.1
theorem rhCx.oList {D : va_G} {Z : Nat → Nat} {s : State} (h : rhCx D Z s) : va_AO "java/util/List" s := h.wd.2.2.1.2.1
theorem rhCx.oHeap {D : va_G} {Z : Nat → Nat} {s : State} (h : rhCx D Z s) : va_AO "LongRadixHeap" s := h.wd.2.2.1.2.2
theorem rhCx.fAdd {D : va_G} {Z : Nat → Nat} {s : State} (h : rhCx D Z s) : va_Fw RJ8 yList_add yJ8_add s := h.wd.1.1
theorem rhCx.fSize {D : va_G} {Z : Nat → Nat} {s : State} (h : rhCx D Z s) : va_Fw RJ8 yList_size yJ8_size s := h.wd.1.2.1
theorem rhCx.fRemove {D : va_G} {Z : Nat → Nat} {s : State} (h : rhCx D Z s) : va_Fw RJ8 yList_remove yJ8_remove s := h.wd.1.2.2.1
theorem rhCx.fIsEmpty {D : va_G} {Z : Nat → Nat} {s : State} (h : rhCx D Z s) : va_Fw RJ8 yList_isEmpty yJ8_isEmpty s := h.wd.1.2.2.2.1
theorem rhCx.fIterator {D : va_G} {Z : Nat → Nat} {s : State} (h : rhCx D Z s) : va_Fw RJ8 yList_iterator yJ8_iterator s := h.wd.1.2.2.2.2.1
theorem rhCx.fClear {D : va_G} {Z : Nat → Nat} {s : State} (h : rhCx D Z s) : va_Fw RJ8 yList_clear yJ8_clear s := h.wd.1.2.2.2.2.2
theorem rhCx.fHasNext {D : va_G} {Z : Nat → Nat} {s : State} (h : rhCx D Z s) : va_Fw RJ15 yIt_hasNext yJ15_hasNext s := h.wd.2.1.1
theorem rhCx.fNext {D : va_G} {Z : Nat → Nat} {s : State} (h : rhCx D Z s) : va_Fw RJ15 yIt_next yJ15_next s := h.wd.2.1.2
theorem rhCx.dc {D : va_G} {Z : Nat → Nat} {s : State} (h : rhCx D Z s) : va_Dc s := h.wd.2.2.2.2.2.2.1.1
theorem rhCx.mi {D : va_G} {Z : Nat → Nat} {s : State} (h : rhCx D Z s) : va_Mi "[Ljava/lang/Object;" (Z 3) s := h.wd.2.2.2.2.2.2.1.2
theorem rhCx.at {D : va_G} {Z : Nat → Nat} {s : State} (h : rhCx D Z s) {c : Nat} {q : vw_C} (hq : rhCl[c]? = some q) : ClassAt s q.1 (D.1 c) := (h.2.1 c q hq).2
theorem lw_U {own : String} {idx : Nat} {C owner : String} {x y : MethodName} {b : ByteArray} {L : Nat} {r : Option FieldType} (h1 : Cond.methodLink own idx x ∈ lw_all) (h2 : Cond.sameMethod x.cls owner x.name x.desc ∈ lw_all) (h3 : Cond.selects C x y ∈ lw_all) (h4 : Cond.instanceMethod y ∈ lw_all) (h5 : Cond.initialized y.cls ∈ lw_all) (h6 : Cond.code y b L r ∈ lw_all) : GoodIn lw_all (va_wsU own idx C owner x y (ws_ y b L r)) := by
  refine lw_app ?_ (lw_meth h6)
  intro w hw
  simp only [List.mem_cons, List.not_mem_nil, or_false] at hw
  rcases hw with e | e | e | e | e
  · rw [e]; exact h1
  · rw [e]; exact h2
  · rw [e]; exact h3
  · rw [e]; exact h4
  · rw [e]; exact h5
theorem lw_F {own : String} {idx : Nat} {C : String} {x y : MethodName} {b : ByteArray} {L : Nat} {r : Option FieldType} (h1 : Cond.methodLink own idx x ∈ lw_all) (h3 : Cond.selects C x y ∈ lw_all) (h4 : Cond.instanceMethod y ∈ lw_all) (h5 : Cond.initialized y.cls ∈ lw_all) (h6 : Cond.code y b L r ∈ lw_all) : GoodIn lw_all (va_wsF own idx C x y (ws_ y b L r)) := by
  refine lw_app ?_ (lw_meth h6)
  intro w hw
  simp only [List.mem_cons, List.not_mem_nil, or_false] at hw
  rcases hw with e | e | e | e
  · rw [e]; exact h1
  · rw [e]; exact h3
  · rw [e]; exact h4
  · rw [e]; exact h5
section RHN
variable {p : Program} {l : Launch} {e : Env} {R : Room} {s : State} {m : MethodId} {args : Array Value} {below : List Frame} {meth : Method} {c : Code} {H : Heap} {locs : List Loc} {cells slots : Nat} {Q : State → Prop}
variable {cc : ByteArray} {pc : Nat} {ls : Array Slot} {rest : List Value} {D : va_G} {Z : Nat → Nat} {L : List Nat} {f : Nat → va_E} {a : Nat}
theorem rh_aastN (hexec : p.tables.exec = Jvm.exec) (hb : c.code = cc) (hC : rhCx D Z s) (hH : rhHp D Z L f s H locs) {n t0 : Nat} {cA : ClassId} {E : String} {g : Nat → Option Nat} (ha : a ∈ L) (hf : f a = eRefs cA n g) (ht : (rhTy D)[t0]? = some (cA, .object E)) {i : Int32} (hin : vp_in i n) (hdg : decode cc pc = .ok (.aastore, 1))
    (kk : ∀ (f' : Nat → va_E) (H1 : Heap) (locs1 : List Loc), f' a = eRefs cA n (va_up g i.toNatClampNeg none) → (∀ b : Nat, b ≠ a → f' b = f b) → rhHp D Z L f' s H1 locs1 → W p l e R s m args below meth c H1 locs1 cells slots Q (F0 m (pc + 1) ls rest)) : W p l e R s m args below meth c H locs cells slots Q (F0 m pc ls (.null :: .int i :: .ref a :: rest)) := by
  obtain ⟨q0, hq⟩ := rh_pl (f := f) ha
  have hq' := hq
  rw [hf] at hq
  refine va_astqN (D := D) hexec hb hC.2 hH.1 hH.2.1 hH.2.2 q0 t0 hq ht hin hdg (fun H1 locs1 hP1 hD1 hS1 => ?_)
  rw [rh_plset hH.2.1 ha hq'] at hP1 hD1
  exact kk _ H1 locs1 (va_up_self f a _) (fun b hb => va_up_ne f _ hb) ⟨hP1, hD1, hS1⟩
/-- a Long may stand in an array of Objects -/
theorem rh_anyL (hC : rhCx D Z s) (hH : rhHp D Z L f s H locs) {k : Nat} (h : rhLg Z L f a k) : va_Any "java/lang/Object" s H a := by
  refine va_rAny (q0 := 0) hC.2 (rh_lgAt hC hH h) rfl (r := (RJ5, TJ5, 1)) rfl (fun comp c0 h1 h2 => ?_)
  obtain ⟨c', t', g1, g2, g3⟩ := Cond.castable_spec (va_Nw.use rfl hC.cLong (A := #[]))
  cases h1.symm.trans g2
  cases h2.symm.trans g1
  exact g3
/-- an ArrayList may stand in an array of Lists -/
theorem rh_anyA (hC : rhCx D Z s) (hH : rhHp D Z L f s H locs) {fs : List Value} (ha : a ∈ L) (hf : f a = .inr (4, fs)) : va_Any "java/util/List" s H a := by
  obtain ⟨k, hk⟩ := rh_pl (f := f) ha
  rw [hf] at hk
  refine va_rAny hC.2 hH.1 hk (r := (RJ8, TJ8, 3)) rfl (fun comp c0 h1 h2 => ?_)
  obtain ⟨c', t', g1, g2, g3⟩ := Cond.castable_spec (va_Nw.use rfl hC.cAL (A := #[]))
  cases h1.symm.trans g2
  cases h2.symm.trans g1
  exact g3
/-- a heap may stand in an array of heaps -/
theorem rh_anyH (hC : rhCx D Z s) (hH : rhHp D Z L f s H locs) {fs : List Value} (ha : a ∈ L) (hf : f a = .inr (1, fs)) : va_Any "LongRadixHeap" s H a := by
  obtain ⟨k, hk⟩ := rh_pl (f := f) ha
  rw [hf] at hk
  refine va_rAny hC.2 hH.1 hk (r := (RX2, TX2, 8)) rfl (fun comp c0 h1 h2 => ?_)
  have h3 : s.vm.findClass "LongRadixHeap" = some c0 := h2
  cases h1.symm.trans h3
  exact va_asg _ _
end RHN
end
section
/-! PLAIN LAWS, no machine in sight: bits of a whole double, the bucket's number, lists -/
theorem rp_and (a b : Nat) : lN a &&& lN b = lN (a &&& b) := by
  apply Int64.toBitVec_inj.mp
  apply BitVec.eq_of_toNat_eq
  rw [Int64.toBitVec_and, BitVec.toNat_and]
  show (BitVec.ofNat 64 a).toNat &&& (BitVec.ofNat 64 b).toNat = (BitVec.ofNat 64 (a &&& b)).toNat
  rw [BitVec.toNat_ofNat, BitVec.toNat_ofNat, BitVec.toNat_ofNat, Nat.and_mod_two_pow]
theorem rp_xor (a b : Nat) : lN a ^^^ lN b = lN (a ^^^ b) := by
  apply Int64.toBitVec_inj.mp
  apply BitVec.eq_of_toNat_eq
  rw [Int64.toBitVec_xor, BitVec.toNat_xor]
  show (BitVec.ofNat 64 a).toNat ^^^ (BitVec.ofNat 64 b).toNat = (BitVec.ofNat 64 (a ^^^ b)).toNat
  rw [BitVec.toNat_ofNat, BitVec.toNat_ofNat, BitVec.toNat_ofNat, Nat.xor_mod_two_pow]
theorem rp_shr {a d : Nat} {D : Int64} (hD : (D.toBitVec.smod 64).toNat = d) (h : a < 2 ^ 63) : lN a >>> D = lN (a / 2 ^ d) := by
  apply Int64.toInt_inj.mp
  show ((lN a).toBitVec.sshiftRight (D.toBitVec.smod 64).toNat).toInt = _
  rw [hD, BitVec.toInt_sshiftRight]
  show (lN a).toInt >>> d = _
  have h2 : a / 2 ^ d ≤ a := Nat.div_le_self _ _
  rw [pk_lT h, pk_lT (by omega), Int.shiftRight_eq_div_pow]
  rfl
/-- Math.getExponent's bytecode, on bits -/
def rhExp (b : UInt64) : Int32 := (((b.toInt64 &&& 9218868437227405312) >>> ((52 : Int32).toInt64 &&& 63)) - 1023).toInt32
theorem rp_exp {e r : Nat} (he : e < 1000) (hr : r < 2 ^ 52) : rhExp (UInt64.ofNat ((e + 1023) * 2 ^ 52 + r)) = nI e := by
  have hm : (e + 1023) * 2 ^ 52 + r < 2 ^ 63 := by omega
  have hd : ((e + 1023) * 2 ^ 52 + r) / 2 ^ 52 = e + 1023 := by omega
  generalize (e + 1023) * 2 ^ 52 + r = m at hm hd
  have h1 : rhExp (UInt64.ofNat m) = ((lN m &&& lN 9218868437227405312) >>> ((52 : Int32).toInt64 &&& 63) - lN 1023).toInt32 := rfl
  have h3 : (m &&& 9218868437227405312) / 2 ^ 52 = e + 1023 := by
    rw [← Nat.shiftRight_eq_div_pow, Nat.shiftRight_and_distrib, Nat.shiftRight_eq_div_pow, hd]
    rw [show (9218868437227405312 : Nat) >>> 52 = 2 ^ 11 - 1 from by decide +kernel, Nat.and_two_pow_sub_one_eq_mod]
    omega
  have h4 : m &&& 9218868437227405312 < 2 ^ 63 := Nat.lt_of_le_of_lt Nat.and_le_left hm
  rw [h1, rp_and, rp_shr (d := 52) (by decide +kernel) h4, h3, lN_sub (by omega), lN_i, Nat.add_sub_cancel]
theorem rp_lead {n : Nat} (h0 : 0 < n) : FP.Core.leading n 1 = (n.log2 : Int) := by
  have h1 : 2 ^ n.log2 ≤ n := Nat.log2_self_le (by omega)
  have e1 : (1 : Nat).log2 = 0 := by decide
  unfold FP.Core.leading
  simp only [e1]
  have e2 : ((n.log2 : Int) - ((0 : Nat) : Int)) = (n.log2 : Int) := by omega
  rw [e2]
  have e3 : ((n.log2 : Int)).toNat = n.log2 := by omega
  have e4 : (-(n.log2 : Int)).toNat = 0 := by omega
  rw [e3, e4, if_pos (by omega)]
theorem rp_from {n : Nat} (h0 : 0 < n) (h : n < 2 ^ 20) : FP.Core.fromInt FP.Core.b64 (n : Int) = (n.log2 + 1023) * 2 ^ 52 + (n * 2 ^ (52 - n.log2) - 2 ^ 52) := by
  have he : n.log2 < 20 := (Nat.log2_lt (by omega)).mpr h
  have h1 : 2 ^ n.log2 ≤ n := Nat.log2_self_le (by omega)
  have h2 : n < 2 ^ (n.log2 + 1) := Nat.lt_log2_self
  have hl := rp_lead h0
  generalize n.log2 = e at he h1 h2 hl
  have hN1 : 2 ^ 52 ≤ n * 2 ^ (52 - e) := by
    have : 2 ^ e * 2 ^ (52 - e) = 2 ^ 52 := by rw [← Nat.pow_add]; congr 1; omega
    rw [← this]; exact Nat.mul_le_mul_right _ h1
  have hN2 : n * 2 ^ (52 - e) < 2 ^ 53 := by
    have : 2 ^ (e + 1) * 2 ^ (52 - e) = 2 ^ 53 := by rw [← Nat.pow_add]; congr 1; omega
    rw [← this]; exact Nat.mul_lt_mul_of_pos_right h2 (Nat.two_pow_pos _)
  have hq : FP.Core.quantum FP.Core.b64 n 1 0 = (e : Int) - 52 := by
    show max (-1074 : Int) (FP.Core.leading n 1 + 0 - (((53 : Nat) : Int) - 1)) = _
    rw [hl]; omega
  have hr : FP.Core.round FP.Core.b64 (FP.Core.ofInt (n : Int)) = .fin false (n * 2 ^ (52 - e)) ((e : Int) - 52) := by
    show FP.Core.roundRatio FP.Core.b64 (decide ((n : Int) < 0)) (n : Int).natAbs 1 0 = _
    rw [show decide ((n : Int) < 0) = false from by simp, Int.natAbs_natCast]
    unfold FP.Core.roundRatio
    rw [if_neg (by omega), hq]
    unfold FP.Core.roundAt FP.Core.unitsNum FP.Core.unitsDen
    rw [show (0 - ((e : Int) - 52)).toNat = 52 - e from by omega, show ((e : Int) - 52 - 0).toNat = 0 from by omega]
    have hn : FP.Core.nearest (n * 2 ^ (52 - e)) (1 * 2 ^ 0) = n * 2 ^ (52 - e) := by
      unfold FP.Core.nearest
      rw [if_pos (by simp [Nat.mod_one])]
      simp
    rw [hn]
    unfold FP.Core.settle
    rw [if_pos (show n * 2 ^ (52 - e) < 2 ^ FP.Core.b64.p from hN2)]
    unfold FP.Core.bound
    rw [if_pos (show (e : Int) - 52 ≤ FP.Core.b64.qmax from (show (e : Int) - 52 ≤ 971 from by omega))]
  unfold FP.Core.fromInt
  rw [hr]
  show (if n * 2 ^ (52 - e) < 2 ^ 52 then _ else FP.Core.assemble FP.Core.b64 false (((e : Int) - 52 - (-1074)).toNat + 1) (n * 2 ^ (52 - e) - 2 ^ 52)) = _
  rw [if_neg (by omega), show (((e : Int) - 52 - (-1074)).toNat + 1) = e + 1023 from by omega]
  show ((0 * 2048 + (e + 1023)) * 2 ^ 52 + (n * 2 ^ (52 - e) - 2 ^ 52)) = _
  rw [Nat.zero_mul, Nat.zero_add]
/-- the exponent of a whole number below 2^20 is its highest bit's place -/
theorem rp_expo {n : Nat} (h0 : 0 < n) (h : n < 2 ^ 20) : rhExp (FP.l2d (lN n)) = nI n.log2 := by
  have he : n.log2 < 20 := (Nat.log2_lt (by omega)).mpr h
  have h2 : n < 2 ^ (n.log2 + 1) := Nat.lt_log2_self
  have hN2 : n * 2 ^ (52 - n.log2) < 2 ^ 53 := by
    have : 2 ^ (n.log2 + 1) * 2 ^ (52 - n.log2) = 2 ^ 53 := by rw [← Nat.pow_add]; congr 1; omega
    rw [← this]; exact Nat.mul_lt_mul_of_pos_right h2 (Nat.two_pow_pos _)
  have e1 : FP.l2d (lN n) = UInt64.ofNat ((n.log2 + 1023) * 2 ^ 52 + (n * 2 ^ (52 - n.log2) - 2 ^ 52)) := by
    show UInt64.ofNat (FP.Core.fromInt FP.Core.b64 (lN n).toInt) = _
    rw [pk_lT (by omega), rp_from h0 h]
  rw [e1, rp_exp (by omega) (by omega)]
theorem rp_xor0 {a b : Nat} (h : a ^^^ b = 0) : a = b := by
  have h1 : a ^^^ b ^^^ b = b := by rw [h, Nat.zero_xor]
  rwa [Nat.xor_assoc, Nat.xor_self, Nat.xor_zero] at h1
/-- the bucket of the key a under the last key b -/
def rhBk (a b : Nat) : Nat := if a = b then 0 else (a ^^^ b).log2 + 1
theorem rb_le (a b j : Nat) : rhBk a b ≤ j ↔ a / 2 ^ j = b / 2 ^ j := by
  have hx : a / 2 ^ j = b / 2 ^ j ↔ a ^^^ b < 2 ^ j := by
    rw [← Nat.shiftRight_eq_div_pow, ← Nat.shiftRight_eq_div_pow]
    constructor
    · intro h
      have h1 : (a ^^^ b) >>> j = 0 := by rw [Nat.shiftRight_xor_distrib, h, Nat.xor_self]
      rw [Nat.shiftRight_eq_div_pow] at h1
      rcases Nat.div_eq_zero_iff.mp h1 with h2 | h2
      · exact absurd h2 (Nat.ne_of_gt (Nat.two_pow_pos j))
      · exact h2
    · intro h
      have h1 : (a ^^^ b) >>> j = 0 := by rw [Nat.shiftRight_eq_div_pow]; exact Nat.div_eq_of_lt h
      rw [Nat.shiftRight_xor_distrib] at h1
      exact rp_xor0 h1
  rw [hx]
  unfold rhBk
  by_cases hab : a = b
  · subst hab
    rw [if_pos rfl, Nat.xor_self]
    exact ⟨fun _ => Nat.two_pow_pos j, fun _ => Nat.zero_le _⟩
  · rw [if_neg hab]
    have hne : a ^^^ b ≠ 0 := fun h => hab (rp_xor0 h)
    rw [← Nat.log2_lt hne]
    omega
theorem rb_bound {a b : Nat} (ha : a < 2 ^ 20) (hb : b < 2 ^ 20) : rhBk a b ≤ 20 := by
  rw [rb_le, Nat.div_eq_of_lt ha, Nat.div_eq_of_lt hb]
theorem rb_self (a : Nat) : rhBk a a = 0 := if_pos rfl
theorem rb_zero {a b : Nat} (h : rhBk a b = 0) : a = b := by
  have := (rb_le a b 0).mp (by omega)
  simpa using this
/-- in a lower bucket, smaller -/
theorem rb_lt {x y l : Nat} (hy : l ≤ y) (h : rhBk x l < rhBk y l) : x < y := by
  have h1 := (rb_le x l (rhBk x l)).mp (Nat.le_refl _)
  have h2 : ¬ y / 2 ^ (rhBk x l) = l / 2 ^ (rhBk x l) := fun e => by
    have := (rb_le y l (rhBk x l)).mpr e
    omega
  have h3 : l / 2 ^ (rhBk x l) ≤ y / 2 ^ (rhBk x l) := Nat.div_le_div_right hy
  rcases Nat.lt_or_ge x y with q | q
  · exact q
  · have h4 : y / 2 ^ (rhBk x l) ≤ x / 2 ^ (rhBk x l) := Nat.div_le_div_right q
    omega
/-- a higher bucket keeps its number under the new last key -/
theorem rb_up {y m l : Nat} (h : rhBk m l < rhBk y l) : rhBk y m = rhBk y l := by
  have key : ∀ i, rhBk m l ≤ i → (rhBk y m ≤ i ↔ rhBk y l ≤ i) := by
    intro i hi
    rw [rb_le, rb_le, (rb_le m l i).mp hi]
  have h1 := (key (rhBk y l) (by omega)).mpr (Nat.le_refl _)
  have h2 : ¬ rhBk y m ≤ rhBk y l - 1 := fun q => by
    have := (key (rhBk y l - 1) (by omega)).mp q
    omega
  omega
/-- the least one's own bucket is spread below -/
theorem rb_down {y m l : Nat} (hm : l ≤ m) (hy : m ≤ y) (hb : 0 < rhBk m l) (h : rhBk y l = rhBk m l) : rhBk y m < rhBk m l := by
  obtain ⟨b, hb⟩ : ∃ b, rhBk m l = b + 1 := ⟨rhBk m l - 1, by omega⟩
  have e1 := (rb_le m l (b + 1)).mp (by omega)
  have e2 := (rb_le y l (b + 1)).mp (by omega)
  have n1 : ¬ m / 2 ^ b = l / 2 ^ b := fun e => by
    have := (rb_le m l b).mpr e
    omega
  have n2 : ¬ y / 2 ^ b = l / 2 ^ b := fun e => by
    have := (rb_le y l b).mpr e
    omega
  have d : ∀ x : Nat, x / 2 ^ (b + 1) = x / 2 ^ b / 2 := fun x => by rw [Nat.pow_succ, Nat.div_div_eq_div_mul]
  rw [d, d] at e1 e2
  have l1 : l / 2 ^ b ≤ m / 2 ^ b := Nat.div_le_div_right hm
  have l2 : l / 2 ^ b ≤ y / 2 ^ b := Nat.div_le_div_right (Nat.le_trans hm hy)
  have : rhBk y m ≤ b := (rb_le y m b).mpr (by omega)
  omega
/-- msd's answer -/
def rhMsd (a b : Nat) : Int32 := if a = b then -1 else nI (a ^^^ b).log2
theorem rb_xlt {a b : Nat} (ha : a < 2 ^ 20) (hb : b < 2 ^ 20) : a ^^^ b < 2 ^ 20 := Nat.xor_lt_two_pow ha hb
theorem rb_msd {a b : Nat} (ha : a < 2 ^ 20) (hb : b < 2 ^ 20) : 1 + (if (20 : Int32) < rhMsd a b then 20 else rhMsd a b) = nI (rhBk a b) := by
  unfold rhMsd rhBk
  by_cases h : a = b
  · rw [if_pos h, if_pos h]
    decide
  · rw [if_neg h, if_neg h]
    have hne : a ^^^ b ≠ 0 := fun h1 => h (rp_xor0 h1)
    have hl : (a ^^^ b).log2 < 20 := (Nat.log2_lt hne).mpr (rb_xlt ha hb)
    rw [if_neg (show ¬ (20 : Int32) < nI (a ^^^ b).log2 from nI_nlt (a := 20) (by omega) (by omega))]
    show nI 1 + nI _ = _
    rw [nI_add, Nat.add_comm]
end
section
/-! LEAVES: Longs, their comparison, the bucket of a key (printed by tools/p07.py) -/
set_option maxHeartbeats 4000000 in
set_option maxRecDepth 100000 in
theorem met_longValue (l : Launch) (D : va_G) (Z : Nat → Nat) (L : List Nat) (f : Nat → va_E) (a k : Nat) (hk : rhLg Z L f a k) : Met l yJ5_longValue (ws_ yJ5_longValue cJ5_longValue 1 (some .long)) ({ frames := 0, cells := 0, slots := 0, locals := 0 }) (rhPc D Z L f [.ref a]) (rhQl D Z (fun r L' f' => lN k = r ∧ L = L' ∧ f = f')) 0 0 (rhA Z) := by
  refine rh_ofW (by decide +kernel) (Nat.le_of_ble_eq_true rfl) ?_
  intro p e s m args below meth c hx hb hr hlocks hml hown hin hts hC hH ls hl
  have hown : s.vm.findClass RJ5 = some m.cls := hown
  have hl : lv_has ls 1 [(0, .ref a)] := hl
  refine lv_aload_n hx hb dJ5_longValue_0 rfl (lv_at hl 0 rfl) ?_
  have hP1 := rh_lgAt hC hH hk
  refine va_get (D := D) (cl := rhCl) (ci := 3) (v := .long (lN k)) (C := RJ5) (T := TJ5) (N := 1) hx hb hts in_J5 hown hC.2 hP1 0 rfl rfl 0 (by decide) (hts _ q140) (fun _ h9 => h9) rfl dJ5_longValue_1 ?_
  exact rh_lret hx hb hr hlocks hC hH (Nat.le_of_ble_eq_true rfl) (Nat.le_of_ble_eq_true rfl) (⟨rfl, rfl, rfl⟩) dJ5_longValue_4

set_option maxHeartbeats 4000000 in
set_option maxRecDepth 100000 in
theorem met_Number (l : Launch) (D : va_G) (Z : Nat → Nat) (L : List Nat) (f : Nat → va_E) (a : Nat) : Met l yJ4_init (ws_ yJ4_init cJ4_init 1 (none)) ({ frames := 1, cells := 0, slots := 0, locals := 20 }) (rhPc D Z L f [.ref a]) (rhQv D Z (fun L' f' => L = L' ∧ f = f')) 0 0 (rhA Z) := by
  refine rh_ofW (by decide +kernel) (Nat.le_of_ble_eq_true rfl) ?_
  intro p e s m args below meth c hx hb hr hlocks hml hown hin hts hC hH ls hl
  have hown : s.vm.findClass RJ4 = some m.cls := hown
  have hl : lv_has ls 1 [(0, .ref a)] := hl
  refine lv_aload_n hx hb dJ4_init_0 rfl (lv_at hl 0 rfl) ?_
  refine W.objInit hx hb hown (hts _ q139) (hts _ q38) (hts _ q39) rfl (by rw [hml]; exact hl.1) rfl dJ4_init_1 (Nat.le_of_ble_eq_true rfl) (Nat.le_of_ble_eq_true rfl) ?_
  refine W.eq (g2 := F0 m 4 ls []) rfl ?_
  exact rh_vret hx hb hr hlocks hC hH (Nat.le_of_ble_eq_true rfl) (Nat.le_of_ble_eq_true rfl) (⟨rfl, rfl⟩) dJ4_init_4

set_option maxHeartbeats 4000000 in
set_option maxRecDepth 100000 in
theorem met_Long (l : Launch) (D : va_G) (Z : Nat → Nat) (L : List Nat) (f : Nat → va_E) (a : Nat) (v v0 : Int64) (ha : a ∈ L) (hx0 : f a = .inr (3, [.long v0])) : Met l yJ5_init (ws_ yJ5_init cJ5_init 3 (none)) ({ frames := 2, cells := 0, slots := 0, locals := 40 }) (rhPc D Z L f [.ref a, .long v]) (rhQv D Z (fun L' f' => L = L' ∧ f' a = .inr (3, [.long v]) ∧ (∀ b : Nat, b ≠ a → f' b = f b))) 0 0 (rhA Z) := by
  refine rh_ofW (by decide +kernel) (Nat.le_of_ble_eq_true rfl) ?_
  intro p e s m args below meth c hx hb hr hlocks hml hown hin hts hC hH ls hl
  have hown : s.vm.findClass RJ5 = some m.cls := hown
  have hl : lv_has ls 3 [(0, .ref a), (1, .long v)] := hl
  refine lv_aload_n hx hb dJ5_init_0 rfl (lv_at hl 0 rfl) ?_
  refine rh_kv hC hH (va_runI (As := []) (rest := []) ⟨hx, hb, hml, hown, hts⟩ (met_Number l D Z L f a) (cwI 0 hts (lw_meth q138) rfl rfl rfl (hts _ q15) (hts _ q136) (hts _ q137) rfl (by decide +kernel) ⟨Nat.le_of_ble_eq_true rfl, Nat.le_of_ble_eq_true rfl⟩) (rh_preS hC hH (.ref a :: [])) rfl rfl hl.1 rfl (lv_room (Nat.le_of_ble_eq_true rfl)) dJ5_init_1 ⟨Nat.le_of_ble_eq_true rfl, Nat.le_of_ble_eq_true rfl⟩) (fun L1 f1 H locs hp1 hH => ?_)
  obtain ⟨rfl, rfl⟩ := hp1
  refine lv_aload_n hx hb dJ5_init_4 rfl (lv_at hl 0 rfl) ?_
  refine lv_lload_n hx hb dJ5_init_5 rfl (lv_at hl 1 rfl) ?_
  refine rh_putF (ci := 3) (v := .long v) (ty := .long) (C := RJ5) (T := TJ5) (N := 1) hx hb hts in_J5 tyJ5 tyJ5_ok nmJ5 hown hC hH ha hx0 rfl 0 (by decide) (hts _ q140) (fun _ h9 => h9) rfl hin rfl (by decide +kernel) rfl rfl (Nat.le_of_ble_eq_true rfl) dJ5_init_6 (fun f2 H locs hu2 hfr2 hH => ?_)
  have hx3 : f2 a = .inr (3, [.long v]) := hu2
  exact rh_vret hx hb hr hlocks hC hH (Nat.le_of_ble_eq_true rfl) (Nat.le_of_ble_eq_true rfl) (⟨rfl, hx3, hfr2⟩) dJ5_init_9

theorem vo_lo {k : Nat} (hk : k < 2 ^ 20) : ¬ lN k < (-128 : Int64) := by
  intro h
  have h1 := Int64.lt_iff_toInt_lt.mp h
  rw [pk_lT (by omega)] at h1
  have h2 : (-128 : Int64).toInt = -128 := by decide
  omega
theorem vo_hi {k : Nat} (hk : k < 2 ^ 20) (h : ¬ (127 : Int64) < lN k) : k < 128 := by
  rcases Nat.lt_or_ge k 128 with q | q
  · exact q
  · refine absurd ?_ h
    show lN 127 < lN k
    exact (pk_lLT (by omega) (by omega)).mpr (by omega)
theorem vo_ix {k : Nat} (hk : k < 2 ^ 20) : (lN k).toInt32 + 128 = nI (128 + k) := by
  rw [lN_i]
  show nI k + nI 128 = _
  rw [nI_add, Nat.add_comm]
set_option maxHeartbeats 4000000 in
set_option maxRecDepth 100000 in
theorem met_valueOf (l : Launch) (D : va_G) (Z : Nat → Nat) (L : List Nat) (f : Nat → va_E) (k : Nat) (hk : k < 2 ^ 20) : Met l yJ5_valueOf (ws_ yJ5_valueOf cJ5_valueOf 3 (some (.object "java/lang/Long"))) ({ frames := 3, cells := 1, slots := 1, locals := 70 }) (rhPc D Z L f [.long (lN k)]) (rhQr D Z (fun r L' f' => rhLg Z L' f' r k ∧ (∀ b ∈ L, b ∈ L') ∧ (∀ b ∈ L, f' b = f b))) 1 1 (rhA Z) := by
  refine rh_ofW (by decide +kernel) (Nat.le_of_ble_eq_true rfl) ?_
  intro p e s m args below meth c hx hb hr hlocks hml hown hin hts hC hH ls hl
  have hown : s.vm.findClass RJ5 = some m.cls := hown
  have hl : lv_has ls 3 [(0, .long (lN k))] := hl
  refine lv_sipush (v := 128) hx hb dJ5_valueOf_0 (by decide) ?_
  refine lv_istore_n (lv' := [(2, .int 128), (0, .long (lN k))]) hx hb dJ5_valueOf_3 rfl hl (by decide) rfl (fun ls hl => ?_)
  refine lv_lload_n hx hb dJ5_valueOf_4 rfl (lv_at hl 1 rfl) ?_
  refine lv_ldc2 hx hb hown (hts _ q127) dJ5_valueOf_5 ?_
  refine W.lcmp hx hb dJ5_valueOf_8 ?_
  refine lv_if_lt (tgt := 31) hx hb dJ5_valueOf_9 (by decide) (fun c_1 => ?_) (fun c_1 => ?_)
  · exact absurd ((lg_cmp_lt _ _).mp c_1) (vo_lo hk)
  refine lv_lload_n hx hb dJ5_valueOf_12 rfl (lv_at hl 1 rfl) ?_
  refine lv_ldc2 hx hb hown (hts _ q128) dJ5_valueOf_13 ?_
  refine W.lcmp hx hb dJ5_valueOf_16 ?_
  refine lv_if_gt (tgt := 31) hx hb dJ5_valueOf_17 (by decide) (fun c_2 => ?_) (fun c_2 => ?_)
  · refine rh_new (ci := 3) (fs := [.long 0]) (C := RJ5) (T := TJ5) (N := 1) hx hb hts in_J5 tyJ5 tyJ5_ok hown (hts _ q131) (hts _ q132) (hts _ q16) hC hH rfl (fun j hj => by rcases (show j = 0 by omega) with rfl; rfl) (Nat.le_of_ble_eq_true rfl) (Nat.le_of_ble_eq_true rfl) dJ5_valueOf_31 (fun q f1 H hq hf1 hfr hH => ?_)
    refine lv_dup hx hb dJ5_valueOf_34 rfl ?_
    refine lv_lload_n hx hb dJ5_valueOf_35 rfl (lv_at hl 1 rfl) ?_
    refine rh_kv hC hH (va_runI (As := [.long (lN k)]) (rest := [.ref q]) ⟨hx, hb, hml, hown, hts⟩ (met_Long l D Z (L ++ [q]) f1 q (lN k) 0 (rh_last L q) hf1) (cwI 1 hts (lw_meth q135) rfl rfl rfl (hts _ q16) (hts _ q133) (hts _ q134) rfl (by decide +kernel) ⟨Nat.le_of_ble_eq_true rfl, Nat.le_of_ble_eq_true rfl⟩) (rh_preS hC hH (.ref q :: [.long (lN k)])) rfl rfl hl.1 rfl (lv_room (Nat.le_of_ble_eq_true rfl)) dJ5_valueOf_36 ⟨Nat.le_of_ble_eq_true rfl, Nat.le_of_ble_eq_true rfl⟩) (fun L4 f4 H locs hp4 hH => ?_)
    obtain ⟨rfl, h3, h4⟩ := hp4
    exact rh_aret (v := q) hx hb hr (Or.inl ⟨_, rfl⟩) hlocks hC hH (Nat.le_of_ble_eq_true rfl) (Nat.le_of_ble_eq_true rfl) (⟨Or.inl ⟨rh_last L q, h3⟩, fun b hb9 => List.mem_append_left _ hb9, fun b hb9 => (h4 b (fun z => hq (by rw [← z]; exact hb9))).trans (hfr b hb9)⟩) dJ5_valueOf_39
  · have hk2 : k < 128 := vo_hi hk (fun h => c_2 ((lg_cmp_gt _ _).mpr h))
    refine va_gets (A := rhA Z) hx hb hC.1.2.1.1 hH.2.2 hown (hts _ q129) (fun _ h9 => h9) dJ5_valueOf_20 ?_
    refine lv_lload_n hx hb dJ5_valueOf_23 rfl (lv_at hl 1 rfl) ?_
    refine lv_l2i hx hb dJ5_valueOf_24 rfl ?_
    refine lv_sipush (v := 128) hx hb dJ5_valueOf_25 (by decide) ?_
    refine lv_iadd hx hb dJ5_valueOf_28 ?_
    refine lv_topi (fun y ey => ?_)
    obtain rfl : y = nI (128 + k) := ey.trans (vo_ix hk)
    refine vb_tq (A := rhA Z) (v := .ref (Z (138 + k))) hx hb hC.1.2.1.2 hH.2.2 (vp_in_nI (show 128 + k < 256 by omega) (by decide)) (by show Value.ref (Z (10 + (nI (128 + k)).toNatClampNeg)) = _; rw [nI_clamp (show 128 + k < 2 ^ 31 by omega), show 10 + (128 + k) = 138 + k by omega]) dJ5_valueOf_29 ?_
    exact rh_aret (v := (Z (138 + k))) hx hb hr (Or.inl ⟨_, rfl⟩) hlocks hC hH (Nat.le_of_ble_eq_true rfl) (Nat.le_of_ble_eq_true rfl) (⟨Or.inr ⟨hk2, rfl⟩, fun b hb9 => hb9, fun b hb9 => rfl⟩) dJ5_valueOf_30

set_option maxHeartbeats 4000000 in
set_option maxRecDepth 100000 in
theorem met_getExponent (l : Launch) (D : va_G) (Z : Nat → Nat) (L : List Nat) (f : Nat → va_E) (b : UInt64) : Met l yJ9_getExponent (ws_ yJ9_getExponent cJ9_getExponent 2 (some .int)) ({ frames := 1, cells := 0, slots := 0, locals := 30 }) (rhPc D Z L f [.double b]) (rhQi D Z (fun r L' f' => rhExp b = r ∧ L = L' ∧ f = f')) 0 0 (rhA Z) := by
  refine rh_ofWF (by decide +kernel) (Nat.le_of_ble_eq_true rfl) ?_
  intro p e s m args below meth c hx hb hr hlocks hml hown hin hts hC hH ls hl
  have hown : s.vm.findClass RJ9 = some m.cls := hown
  have hl : lv_has ls 2 [(0, .double b)] := hl
  refine lv_dload_n hx hb dJ9_getExponent_0 rfl (lv_at hl 0 rfl) ?_
  refine vn_d2l hx hb (by rw [hml]; exact hl.1.symm) hown (hts _ q284) (hts _ q286) (hts _ q285) (hts _ q23) (Nat.le_of_ble_eq_true rfl) (Nat.le_of_ble_eq_true rfl) dJ9_getExponent_1 ?_
  refine lv_ldc2 hx hb hown (hts _ q287) dJ9_getExponent_4 ?_
  refine lv_land hx hb dJ9_getExponent_7 ?_
  refine lv_bipush (v := 52) hx hb dJ9_getExponent_8 (by decide) ?_
  refine lv_lshr hx hb dJ9_getExponent_10 rfl ?_
  refine lv_ldc2 hx hb hown (hts _ q288) dJ9_getExponent_11 ?_
  refine lv_lsub hx hb dJ9_getExponent_14 ?_
  refine lv_l2i hx hb dJ9_getExponent_15 rfl ?_
  exact rh_iret hx hb hr hlocks hC hH (Nat.le_of_ble_eq_true rfl) (Nat.le_of_ble_eq_true rfl) (⟨rfl, rfl, rfl⟩) dJ9_getExponent_16

/-- compare's answer -/
def rhCmp (i j : Nat) : Int32 := if i < j then -1 else if j < i then 1 else 0
set_option maxHeartbeats 4000000 in
set_option maxRecDepth 100000 in
theorem met_compareL (l : Launch) (D : va_G) (Z : Nat → Nat) (L : List Nat) (f : Nat → va_E) (h a b i j : Nat) (hi : i < 2 ^ 20) (hj : j < 2 ^ 20) (ha : rhLg Z L f a i) (hb0 : rhLg Z L f b j) : Met l yX2_compare_2 (ws_ yX2_compare_2 cX2_compare_2 3 (some .int)) ({ frames := 1, cells := 0, slots := 0, locals := 22 }) (rhPc D Z L f [.ref h, .ref a, .ref b]) (rhQi D Z (fun r L' f' => rhCmp i j = r ∧ L = L' ∧ f = f')) 0 0 (rhA Z) := by
  refine rh_ofW (by decide +kernel) (Nat.le_of_ble_eq_true rfl) ?_
  intro p e s m args below meth c hx hb hr hlocks hml hown hin hts hC hH ls hl
  have hown : s.vm.findClass RX2 = some m.cls := hown
  have hl : lv_has ls 3 [(0, .ref h), (1, .ref a), (2, .ref b)] := hl
  refine lv_aload_n hx hb dX2_compare_2_0 rfl (lv_at hl 1 rfl) ?_
  refine rh_kl hC hH (va_runV (As := []) (rest := []) ⟨hx, hb, hml, hown, hts⟩ (met_longValue l D Z L f a i ha) (cwV 0 hts (lw_V q260 q261 q262 q16 q263) rfl rfl rfl (by decide +kernel) ⟨Nat.le_of_ble_eq_true rfl, Nat.le_of_ble_eq_true rfl⟩) (rh_preV hC hH [] (rh_lgRecv hC hH ha)) rfl rfl hl.1 rfl (lv_room (Nat.le_of_ble_eq_true rfl)) dX2_compare_2_1 ⟨Nat.le_of_ble_eq_true rfl, Nat.le_of_ble_eq_true rfl⟩) (fun r5 L5 f5 H locs hp5 hH => ?_)
  obtain ⟨rfl, rfl, rfl⟩ := hp5
  refine lv_aload_n hx hb dX2_compare_2_4 rfl (lv_at hl 2 rfl) ?_
  refine rh_kl hC hH (va_runV (As := []) (rest := [.long (lN i)]) ⟨hx, hb, hml, hown, hts⟩ (met_longValue l D Z L f b j hb0) (cwV 0 hts (lw_V q260 q261 q262 q16 q263) rfl rfl rfl (by decide +kernel) ⟨Nat.le_of_ble_eq_true rfl, Nat.le_of_ble_eq_true rfl⟩) (rh_preV hC hH [] (rh_lgRecv hC hH hb0)) rfl rfl hl.1 rfl (lv_room (Nat.le_of_ble_eq_true rfl)) dX2_compare_2_5 ⟨Nat.le_of_ble_eq_true rfl, Nat.le_of_ble_eq_true rfl⟩) (fun r6 L6 f6 H locs hp6 hH => ?_)
  obtain ⟨rfl, rfl, rfl⟩ := hp6
  refine W.lcmp hx hb dX2_compare_2_8 ?_
  refine lv_if_ge (tgt := 14) hx hb dX2_compare_2_9 (by decide) (fun c_1 => ?_) (fun c_1 => ?_)
  · have h1 : ¬ i < j := fun q => absurd ((lg_cmp_ge _ _).mp c_1) (fun z => by have := (pk_lLE (by omega) (by omega)).mp z; omega)
    refine lv_aload_n hx hb dX2_compare_2_14 rfl (lv_at hl 1 rfl) ?_
    refine rh_kl hC hH (va_runV (As := []) (rest := []) ⟨hx, hb, hml, hown, hts⟩ (met_longValue l D Z L f a i ha) (cwV 0 hts (lw_V q260 q261 q262 q16 q263) rfl rfl rfl (by decide +kernel) ⟨Nat.le_of_ble_eq_true rfl, Nat.le_of_ble_eq_true rfl⟩) (rh_preV hC hH [] (rh_lgRecv hC hH ha)) rfl rfl hl.1 rfl (lv_room (Nat.le_of_ble_eq_true rfl)) dX2_compare_2_15 ⟨Nat.le_of_ble_eq_true rfl, Nat.le_of_ble_eq_true rfl⟩) (fun r7 L7 f7 H locs hp7 hH => ?_)
    obtain ⟨rfl, rfl, rfl⟩ := hp7
    refine lv_aload_n hx hb dX2_compare_2_18 rfl (lv_at hl 2 rfl) ?_
    refine rh_kl hC hH (va_runV (As := []) (rest := [.long (lN i)]) ⟨hx, hb, hml, hown, hts⟩ (met_longValue l D Z L f b j hb0) (cwV 0 hts (lw_V q260 q261 q262 q16 q263) rfl rfl rfl (by decide +kernel) ⟨Nat.le_of_ble_eq_true rfl, Nat.le_of_ble_eq_true rfl⟩) (rh_preV hC hH [] (rh_lgRecv hC hH hb0)) rfl rfl hl.1 rfl (lv_room (Nat.le_of_ble_eq_true rfl)) dX2_compare_2_19 ⟨Nat.le_of_ble_eq_true rfl, Nat.le_of_ble_eq_true rfl⟩) (fun r8 L8 f8 H locs hp8 hH => ?_)
    obtain ⟨rfl, rfl, rfl⟩ := hp8
    refine W.lcmp hx hb dX2_compare_2_22 ?_
    refine lv_if_le (tgt := 28) hx hb dX2_compare_2_23 (by decide) (fun c_2 => ?_) (fun c_2 => ?_)
    · have h2 : ¬ j < i := fun q => absurd ((lg_cmp_le _ _).mp c_2) (fun z => by have := (pk_lLE (by omega) (by omega)).mp z; omega)
      refine lv_iconst (v := 0) hx hb dX2_compare_2_28 (by decide) ?_
      exact rh_iret hx hb hr hlocks hC hH (Nat.le_of_ble_eq_true rfl) (Nat.le_of_ble_eq_true rfl) (⟨by unfold rhCmp; rw [if_neg h1, if_neg h2], rfl, rfl⟩) dX2_compare_2_29
    · have h2 : j < i := by
        rcases Nat.lt_or_ge j i with q | q
        · exact q
        · exact absurd ((lg_cmp_le _ _).mpr ((pk_lLE (by omega) (by omega)).mpr q)) c_2
      refine lv_iconst (v := 1) hx hb dX2_compare_2_26 (by decide) ?_
      exact rh_iret hx hb hr hlocks hC hH (Nat.le_of_ble_eq_true rfl) (Nat.le_of_ble_eq_true rfl) (⟨by unfold rhCmp; rw [if_neg h1, if_pos h2], rfl, rfl⟩) dX2_compare_2_27
  · have h1 : i < j := by
      rcases Nat.lt_or_ge i j with q | q
      · exact q
      · exact absurd ((lg_cmp_ge _ _).mpr ((pk_lLE (by omega) (by omega)).mpr q)) c_1
    refine lv_iconst (v := -1) hx hb dX2_compare_2_12 (by decide) ?_
    exact rh_iret hx hb hr hlocks hC hH (Nat.le_of_ble_eq_true rfl) (Nat.le_of_ble_eq_true rfl) (⟨by unfold rhCmp; rw [if_pos h1], rfl, rfl⟩) dX2_compare_2_13

set_option maxHeartbeats 4000000 in
set_option maxRecDepth 100000 in
theorem met_compare (l : Launch) (D : va_G) (Z : Nat → Nat) (L : List Nat) (f : Nat → va_E) (h a b i j : Nat) (fs : List Value) (hhL : h ∈ L) (hhf : f h = .inr (1, fs)) (hi : i < 2 ^ 20) (hj : j < 2 ^ 20) (ha : rhLg Z L f a i) (hb0 : rhLg Z L f b j) : Met l yX2_compare (ws_ yX2_compare cX2_compare 3 (some .int)) ({ frames := 2, cells := 0, slots := 0, locals := 44 }) (rhPc D Z L f [.ref h, .ref a, .ref b]) (rhQi D Z (fun r L' f' => rhCmp i j = r ∧ L = L' ∧ f = f')) 0 0 (rhA Z) := by
  refine rh_ofW (by decide +kernel) (Nat.le_of_ble_eq_true rfl) ?_
  intro p e s m args below meth c hx hb hr hlocks hml hown hin hts hC hH ls hl
  have hown : s.vm.findClass RX2 = some m.cls := hown
  have hl : lv_has ls 3 [(0, .ref h), (1, .ref a), (2, .ref b)] := hl
  refine lv_aload_n hx hb dX2_compare_0 rfl (lv_at hl 0 rfl) ?_
  refine lv_aload_n hx hb dX2_compare_1 rfl (lv_at hl 1 rfl) ?_
  refine va_castS hx hb hown (hts _ q255) (hC.at (c := 3) rfl) (rh_lgRecv hC hH ha) dX2_compare_2 ?_
  refine lv_aload_n hx hb dX2_compare_5 rfl (lv_at hl 2 rfl) ?_
  refine va_castS hx hb hown (hts _ q255) (hC.at (c := 3) rfl) (rh_lgRecv hC hH hb0) dX2_compare_6 ?_
  refine rh_ki hC hH (va_runV (As := [.ref a, .ref b]) (rest := []) ⟨hx, hb, hml, hown, hts⟩ (met_compareL l D Z L f h a b i j hi hj ha hb0) (cwV 2 hts (lw_V q256 q257 q258 q10 q259) rfl rfl rfl (by decide +kernel) ⟨Nat.le_of_ble_eq_true rfl, Nat.le_of_ble_eq_true rfl⟩) (rh_preV hC hH [.ref a, .ref b] (rh_recv hC hH hhL hhf (q := (RX2, TX2, 8)) rfl)) rfl rfl hl.1 rfl (lv_room (Nat.le_of_ble_eq_true rfl)) dX2_compare_9 ⟨Nat.le_of_ble_eq_true rfl, Nat.le_of_ble_eq_true rfl⟩) (fun r9 L9 f9 H locs hp9 hH => ?_)
  obtain ⟨rfl, rfl, rfl⟩ := hp9
  exact rh_iret hx hb hr hlocks hC hH (Nat.le_of_ble_eq_true rfl) (Nat.le_of_ble_eq_true rfl) (⟨rfl, rfl, rfl⟩) dX2_compare_12

set_option maxHeartbeats 4000000 in
set_option maxRecDepth 100000 in
theorem met_msdL (l : Launch) (D : va_G) (Z : Nat → Nat) (L : List Nat) (f : Nat → va_E) (h a b i j : Nat) (hi : i < 2 ^ 20) (hj : j < 2 ^ 20) (ha : rhLg Z L f a i) (hb0 : rhLg Z L f b j) : Met l yX2_msd_2 (ws_ yX2_msd_2 cX2_msd_2 5 (some .int)) ({ frames := 2, cells := 0, slots := 0, locals := 51 }) (rhPc D Z L f [.ref h, .ref a, .ref b]) (rhQi D Z (fun r L' f' => rhMsd i j = r ∧ L = L' ∧ f = f')) 0 0 (rhA Z) := by
  refine rh_ofW (by decide +kernel) (Nat.le_of_ble_eq_true rfl) ?_
  intro p e s m args below meth c hx hb hr hlocks hml hown hin hts hC hH ls hl
  have hown : s.vm.findClass RX2 = some m.cls := hown
  have hl : lv_has ls 5 [(0, .ref h), (1, .ref a), (2, .ref b)] := hl
  refine lv_aload_n hx hb dX2_msd_2_0 rfl (lv_at hl 1 rfl) ?_
  refine rh_kl hC hH (va_runV (As := []) (rest := []) ⟨hx, hb, hml, hown, hts⟩ (met_longValue l D Z L f a i ha) (cwV 0 hts (lw_V q260 q261 q262 q16 q263) rfl rfl rfl (by decide +kernel) ⟨Nat.le_of_ble_eq_true rfl, Nat.le_of_ble_eq_true rfl⟩) (rh_preV hC hH [] (rh_lgRecv hC hH ha)) rfl rfl hl.1 rfl (lv_room (Nat.le_of_ble_eq_true rfl)) dX2_msd_2_1 ⟨Nat.le_of_ble_eq_true rfl, Nat.le_of_ble_eq_true rfl⟩) (fun r10 L10 f10 H locs hp10 hH => ?_)
  obtain ⟨rfl, rfl, rfl⟩ := hp10
  refine lv_aload_n hx hb dX2_msd_2_4 rfl (lv_at hl 2 rfl) ?_
  refine rh_kl hC hH (va_runV (As := []) (rest := [.long (lN i)]) ⟨hx, hb, hml, hown, hts⟩ (met_longValue l D Z L f b j hb0) (cwV 0 hts (lw_V q260 q261 q262 q16 q263) rfl rfl rfl (by decide +kernel) ⟨Nat.le_of_ble_eq_true rfl, Nat.le_of_ble_eq_true rfl⟩) (rh_preV hC hH [] (rh_lgRecv hC hH hb0)) rfl rfl hl.1 rfl (lv_room (Nat.le_of_ble_eq_true rfl)) dX2_msd_2_5 ⟨Nat.le_of_ble_eq_true rfl, Nat.le_of_ble_eq_true rfl⟩) (fun r11 L11 f11 H locs hp11 hH => ?_)
  obtain ⟨rfl, rfl, rfl⟩ := hp11
  refine W.lcmp hx hb dX2_msd_2_8 ?_
  refine lv_if_ne (tgt := 14) hx hb dX2_msd_2_9 (by decide) (fun c_1 => ?_) (fun c_1 => ?_)
  · have h1 : ¬ i = j := fun q => c_1 ((lg_cmp_eq _ _).mpr (by rw [q]))
    refine lv_aload_n hx hb dX2_msd_2_14 rfl (lv_at hl 1 rfl) ?_
    refine rh_kl hC hH (va_runV (As := []) (rest := []) ⟨hx, hb, hml, hown, hts⟩ (met_longValue l D Z L f a i ha) (cwV 0 hts (lw_V q260 q261 q262 q16 q263) rfl rfl rfl (by decide +kernel) ⟨Nat.le_of_ble_eq_true rfl, Nat.le_of_ble_eq_true rfl⟩) (rh_preV hC hH [] (rh_lgRecv hC hH ha)) rfl rfl hl.1 rfl (lv_room (Nat.le_of_ble_eq_true rfl)) dX2_msd_2_15 ⟨Nat.le_of_ble_eq_true rfl, Nat.le_of_ble_eq_true rfl⟩) (fun r12 L12 f12 H locs hp12 hH => ?_)
    obtain ⟨rfl, rfl, rfl⟩ := hp12
    refine lv_aload_n hx hb dX2_msd_2_18 rfl (lv_at hl 2 rfl) ?_
    refine rh_kl hC hH (va_runV (As := []) (rest := [.long (lN i)]) ⟨hx, hb, hml, hown, hts⟩ (met_longValue l D Z L f b j hb0) (cwV 0 hts (lw_V q260 q261 q262 q16 q263) rfl rfl rfl (by decide +kernel) ⟨Nat.le_of_ble_eq_true rfl, Nat.le_of_ble_eq_true rfl⟩) (rh_preV hC hH [] (rh_lgRecv hC hH hb0)) rfl rfl hl.1 rfl (lv_room (Nat.le_of_ble_eq_true rfl)) dX2_msd_2_19 ⟨Nat.le_of_ble_eq_true rfl, Nat.le_of_ble_eq_true rfl⟩) (fun r13 L13 f13 H locs hp13 hH => ?_)
    obtain ⟨rfl, rfl, rfl⟩ := hp13
    refine lv_lxor hx hb dX2_msd_2_22 ?_
    rw [rp_xor]
    refine lv_l2d hx hb dX2_msd_2_23 ?_
    refine lv_dstore_n (lv' := [(3, .double (FP.l2d (lN (i ^^^ j)))), (0, .ref h), (1, .ref a), (2, .ref b)]) hx hb dX2_msd_2_24 rfl hl (by decide) rfl (fun ls hl => ?_)
    refine lv_dload_n hx hb dX2_msd_2_25 rfl (lv_at hl 0 rfl) ?_
    refine rh_ki hC hH (va_runS (As := [.double (FP.l2d (lN (i ^^^ j)))]) (rest := []) ⟨hx, hb, hml, hown, hts⟩ (met_getExponent l D Z L f (FP.l2d (lN (i ^^^ j)))) (va_cwS 1 hts (lw_S q281 q282 q22 q283) rfl rfl rfl (by decide +kernel) ⟨Nat.le_of_ble_eq_true rfl, Nat.le_of_ble_eq_true rfl⟩) (rh_preS hC hH [.double (FP.l2d (lN (i ^^^ j)))]) rfl rfl hl.1 rfl (lv_room (Nat.le_of_ble_eq_true rfl)) dX2_msd_2_26 ⟨Nat.le_of_ble_eq_true rfl, Nat.le_of_ble_eq_true rfl⟩) (fun r14 L14 f14 H locs hp14 hH => ?_)
    obtain ⟨rfl, rfl, rfl⟩ := hp14
    have hne : i ^^^ j ≠ 0 := fun q => h1 (rp_xor0 q)
    exact rh_iret hx hb hr hlocks hC hH (Nat.le_of_ble_eq_true rfl) (Nat.le_of_ble_eq_true rfl) (⟨by rw [rp_expo (by omega) (rb_xlt hi hj)]; unfold rhMsd; rw [if_neg h1], rfl, rfl⟩) dX2_msd_2_29
  · have h1 : i = j := by
      have q := (lg_cmp_eq _ _).mp c_1
      exact (pk_lEQ (by omega) (by omega)).mp q
    refine lv_iconst (v := -1) hx hb dX2_msd_2_12 (by decide) ?_
    exact rh_iret hx hb hr hlocks hC hH (Nat.le_of_ble_eq_true rfl) (Nat.le_of_ble_eq_true rfl) (⟨by unfold rhMsd; rw [if_pos h1], rfl, rfl⟩) dX2_msd_2_13

set_option maxHeartbeats 4000000 in
set_option maxRecDepth 100000 in
theorem met_msd (l : Launch) (D : va_G) (Z : Nat → Nat) (L : List Nat) (f : Nat → va_E) (h a b i j : Nat) (fs : List Value) (hhL : h ∈ L) (hhf : f h = .inr (1, fs)) (hi : i < 2 ^ 20) (hj : j < 2 ^ 20) (ha : rhLg Z L f a i) (hb0 : rhLg Z L f b j) : Met l yX2_msd (ws_ yX2_msd cX2_msd 3 (some .int)) ({ frames := 3, cells := 0, slots := 0, locals := 75 }) (rhPc D Z L f [.ref h, .ref a, .ref b]) (rhQi D Z (fun r L' f' => rhMsd i j = r ∧ L = L' ∧ f = f')) 0 0 (rhA Z) := by
  refine rh_ofW (by decide +kernel) (Nat.le_of_ble_eq_true rfl) ?_
  intro p e s m args below meth c hx hb hr hlocks hml hown hin hts hC hH ls hl
  have hown : s.vm.findClass RX2 = some m.cls := hown
  have hl : lv_has ls 3 [(0, .ref h), (1, .ref a), (2, .ref b)] := hl
  refine lv_aload_n hx hb dX2_msd_0 rfl (lv_at hl 0 rfl) ?_
  refine lv_aload_n hx hb dX2_msd_1 rfl (lv_at hl 1 rfl) ?_
  refine va_castS hx hb hown (hts _ q255) (hC.at (c := 3) rfl) (rh_lgRecv hC hH ha) dX2_msd_2 ?_
  refine lv_aload_n hx hb dX2_msd_5 rfl (lv_at hl 2 rfl) ?_
  refine va_castS hx hb hown (hts _ q255) (hC.at (c := 3) rfl) (rh_lgRecv hC hH hb0) dX2_msd_6 ?_
  refine rh_ki hC hH (va_runV (As := [.ref a, .ref b]) (rest := []) ⟨hx, hb, hml, hown, hts⟩ (met_msdL l D Z L f h a b i j hi hj ha hb0) (cwV 2 hts (lw_V q277 q278 q279 q10 q280) rfl rfl rfl (by decide +kernel) ⟨Nat.le_of_ble_eq_true rfl, Nat.le_of_ble_eq_true rfl⟩) (rh_preV hC hH [.ref a, .ref b] (rh_recv hC hH hhL hhf (q := (RX2, TX2, 8)) rfl)) rfl rfl hl.1 rfl (lv_room (Nat.le_of_ble_eq_true rfl)) dX2_msd_9 ⟨Nat.le_of_ble_eq_true rfl, Nat.le_of_ble_eq_true rfl⟩) (fun r15 L15 f15 H locs hp15 hH => ?_)
  obtain ⟨rfl, rfl, rfl⟩ := hp15
  exact rh_iret hx hb hr hlocks hC hH (Nat.le_of_ble_eq_true rfl) (Nat.le_of_ble_eq_true rfl) (⟨rfl, rfl, rfl⟩) dX2_msd_12

set_option maxHeartbeats 4000000 in
set_option maxRecDepth 100000 in
theorem met_computeBucket (l : Launch) (D : va_G) (Z : Nat → Nat) (L : List Nat) (f : Nat → va_E) (h a b i j : Nat) (ba : Nat) (x1 : Value) (x2 x3 x4 x5 x6 x7 : Value) (G : Nat → Option Nat) (hhL : h ∈ L) (hhf : f h = .inr (1, [.ref ba, x1, x2, x3, x4, x5, x6, x7])) (hbL : ba ∈ L) (hbf : f ba = eRefs (D.1 101) 22 G) (hi : i < 2 ^ 20) (hj : j < 2 ^ 20) (ha : rhLg Z L f a i) (hb0 : rhLg Z L f b j) : Met l yX1_computeBucket (ws_ yX1_computeBucket cX1_computeBucket 3 (some .int)) ({ frames := 4, cells := 0, slots := 0, locals := 97 }) (rhPc D Z L f [.ref h, .ref a, .ref b]) (rhQi D Z (fun r L' f' => nI (rhBk i j) = r ∧ L = L' ∧ f = f')) 0 0 (rhA Z) := by
  refine rh_ofW (by decide +kernel) (Nat.le_of_ble_eq_true rfl) ?_
  intro p e s m args below meth c hx hb hr hlocks hml hown hin hts hC hH ls hl
  have hown : s.vm.findClass RX1 = some m.cls := hown
  have hl : lv_has ls 3 [(0, .ref h), (1, .ref a), (2, .ref b)] := hl
  refine lv_iconst (v := 1) hx hb dX1_computeBucket_0 (by decide) ?_
  refine lv_aload_n hx hb dX1_computeBucket_1 rfl (lv_at hl 0 rfl) ?_
  refine lv_aload_n hx hb dX1_computeBucket_2 rfl (lv_at hl 1 rfl) ?_
  refine lv_aload_n hx hb dX1_computeBucket_3 rfl (lv_at hl 2 rfl) ?_
  refine rh_ki hC hH (va_runU (As := [.ref a, .ref b]) (rest := [.int 1]) ⟨hx, hb, hml, hown, hts⟩ (met_msd l D Z L f h a b i j _ hhL hhf hi hj ha hb0) (va_cwA (owner := "AbstractRadixHeap") (C := "LongRadixHeap") 2 hts (lw_U q271 q273 q274 q275 q10 q276) rfl rfl rfl hC.dMsd (by decide +kernel) ⟨Nat.le_of_ble_eq_true rfl, Nat.le_of_ble_eq_true rfl⟩) (rh_preV hC hH [.ref a, .ref b] (rh_recv hC hH hhL hhf (q := (RX2, TX2, 8)) rfl)) rfl rfl hl.1 rfl (lv_room (Nat.le_of_ble_eq_true rfl)) dX1_computeBucket_4 ⟨Nat.le_of_ble_eq_true rfl, Nat.le_of_ble_eq_true rfl⟩) (fun r16 L16 f16 H locs hp16 hH => ?_)
  obtain ⟨rfl, rfl, rfl⟩ := hp16
  refine lv_aload_n hx hb dX1_computeBucket_7 rfl (lv_at hl 0 rfl) ?_
  refine rh_get (ci := 1) (C := RX2) (T := TX2) (N := 8) hx hb hts in_X2 hown hC hH hhL hhf rfl 0 (by decide) (hts _ q186) (fun _ h9 => h9) rfl dX1_computeBucket_8 ?_
  refine rh_alen hx hb hC hH hbL hbf (t0 := 1) rfl (v := 22) rfl dX1_computeBucket_11 ?_
  refine lv_iconst (v := 2) hx hb dX1_computeBucket_12 (by decide) ?_
  refine lv_isub hx hb dX1_computeBucket_13 ?_
  refine va_mmin hx hb (by rw [hml]; exact hl.1.symm) hown (hts _ q289) (hts _ q290) (hts _ q22) (hts _ q291) (Nat.le_of_ble_eq_true rfl) (Nat.le_of_ble_eq_true rfl) (Nat.le_of_ble_eq_true rfl) (Nat.le_of_ble_eq_true rfl) dX1_computeBucket_14 ?_
  refine lv_iadd hx hb dX1_computeBucket_17 ?_
  have he : (1 + (if ((22 : Int32) - 2) < rhMsd i j then (22 - 2) else rhMsd i j)) = nI (rhBk i j) := rb_msd hi hj
  exact rh_iret hx hb hr hlocks hC hH (Nat.le_of_ble_eq_true rfl) (Nat.le_of_ble_eq_true rfl) (⟨he.symm, rfl, rfl⟩) dX1_computeBucket_18
end
section
/-! ArrayList: the list cell, its element array (ArrayList's empty one or one of the pool) (printed by tools/p08.py) -/
/-- the element array ea holds the Longs xs -/
def rhEl (D : va_G) (Z : Nat → Nat) (L : List Nat) (f : Nat → va_E) (ea : Nat) (xs : List (Nat × Nat)) : Prop := (∀ x ∈ xs, rhLg Z L f x.1 x.2) ∧ ((xs = [] ∧ ea = Z 1) ∨ (ea ∈ L ∧ ∃ (cap : Nat) (F : Nat → Option Nat), f ea = eRefs (D.1 100) cap F ∧ xs.length ≤ cap ∧ 10 ≤ cap ∧ cap ≤ 96 ∧ ∀ j : Nat, j < xs.length → F j = (xs[j]?).map (·.1)))
theorem rhLg.fr {Z : Nat → Nat} {L L' : List Nat} {f f' : Nat → va_E} {a k : Nat} (h : rhLg Z L f a k) (hs : ∀ b ∈ L, b ∈ L') (hk : ∀ b ∈ L, f b = eLong k → f' b = f b) : rhLg Z L' f' a k := by
  rcases h with ⟨h1, h2⟩ | h
  · exact Or.inl ⟨hs _ h1, (hk _ h1 h2).trans h2⟩
  · exact Or.inr h
theorem rhEl.fr {D : va_G} {Z : Nat → Nat} {L L' : List Nat} {f f' : Nat → va_E} {ea : Nat} {xs : List (Nat × Nat)} (h : rhEl D Z L f ea xs) (hs : ∀ b ∈ L, b ∈ L') (he : ea ∈ L → f' ea = f ea) (hk : ∀ b ∈ L, ∀ k : Nat, f b = eLong k → f' b = f b) : rhEl D Z L' f' ea xs := by
  obtain ⟨h1, h2⟩ := h
  refine ⟨fun x hx => (h1 x hx).fr hs (fun b hb => hk b hb _), ?_⟩
  rcases h2 with h2 | ⟨h2, cap, F, h3, h4⟩
  · exact Or.inl h2
  · exact Or.inr ⟨hs _ h2, cap, F, (he h2).trans h3, h4⟩
theorem rh_inA {D : va_G} {Z : Nat → Nat} {L : List Nat} {f : Nat → va_E} {s : State} {H : Heap} {locs : List Loc} {a : Nat} (hH : rhHp D Z L f s H locs) (ha : a ∈ L) : Z 0 ≤ a := by
  obtain ⟨k, hk⟩ := rh_pl (f := f) ha
  exact hH.2.1.2 k _ hk
theorem rh_Z1 {D : va_G} {Z : Nat → Nat} {L : List Nat} {f : Nat → va_E} {s : State} {H : Heap} {locs : List Loc} (hC : rhCx D Z s) (hH : rhHp D Z L f s H locs) : Z 1 ∉ L := fun h => hC.1.1.2.2.out (rh_inA hH h)
theorem rf_some {o : Option Nat} {x : Nat} (h : o = some x) : va_rf o = .ref x := by rw [h]; rfl
set_option maxHeartbeats 4000000 in
set_option maxRecDepth 100000 in
theorem met_AbstractCollection (l : Launch) (D : va_G) (Z : Nat → Nat) (L : List Nat) (f : Nat → va_E) (a : Nat) : Met l yJ6_init (ws_ yJ6_init cJ6_init 1 (none)) ({ frames := 1, cells := 0, slots := 0, locals := 20 }) (rhPc D Z L f [.ref a]) (rhQv D Z (fun L' f' => L = L' ∧ f = f')) 0 0 (rhA Z) := by
  refine rh_ofW (by decide +kernel) (Nat.le_of_ble_eq_true rfl) ?_
  intro p e s m args below meth c hx hb hr hlocks hml hown hin hts hC hH ls hl
  have hown : s.vm.findClass RJ6 = some m.cls := hown
  have hl : lv_has ls 1 [(0, .ref a)] := hl
  refine lv_aload_n hx hb dJ6_init_0 rfl (lv_at hl 0 rfl) ?_
  refine W.objInit hx hb hown (hts _ q166) (hts _ q38) (hts _ q39) rfl (by rw [hml]; exact hl.1) rfl dJ6_init_1 (Nat.le_of_ble_eq_true rfl) (Nat.le_of_ble_eq_true rfl) ?_
  refine W.eq (g2 := F0 m 4 ls []) rfl ?_
  exact rh_vret hx hb hr hlocks hC hH (Nat.le_of_ble_eq_true rfl) (Nat.le_of_ble_eq_true rfl) (⟨rfl, rfl⟩) dJ6_init_4

set_option maxHeartbeats 4000000 in
set_option maxRecDepth 100000 in
theorem met_AbstractList (l : Launch) (D : va_G) (Z : Nat → Nat) (L : List Nat) (f : Nat → va_E) (a : Nat) (x0 x1 x2 : Value) (ha : a ∈ L) (hx0 : f a = .inr (4, [x0, x1, x2])) : Met l yJ7_init (ws_ yJ7_init cJ7_init 1 (none)) ({ frames := 2, cells := 0, slots := 0, locals := 40 }) (rhPc D Z L f [.ref a]) (rhQv D Z (fun L' f' => L = L' ∧ f' a = .inr (4, [.int 0, x1, x2]) ∧ (∀ b : Nat, b ≠ a → f' b = f b))) 0 0 (rhA Z) := by
  refine rh_ofW (by decide +kernel) (Nat.le_of_ble_eq_true rfl) ?_
  intro p e s m args below meth c hx hb hr hlocks hml hown hin hts hC hH ls hl
  have hown : s.vm.findClass RJ7 = some m.cls := hown
  have hl : lv_has ls 1 [(0, .ref a)] := hl
  refine lv_aload_n hx hb dJ7_init_0 rfl (lv_at hl 0 rfl) ?_
  refine rh_kv hC hH (va_runI (As := []) (rest := []) ⟨hx, hb, hml, hown, hts⟩ (met_AbstractCollection l D Z L f a) (cwI 0 hts (lw_meth q165) rfl rfl rfl (hts _ q18) (hts _ q163) (hts _ q164) rfl (by decide +kernel) ⟨Nat.le_of_ble_eq_true rfl, Nat.le_of_ble_eq_true rfl⟩) (rh_preS hC hH (.ref a :: [])) rfl rfl hl.1 rfl (lv_room (Nat.le_of_ble_eq_true rfl)) dJ7_init_1 ⟨Nat.le_of_ble_eq_true rfl, Nat.le_of_ble_eq_true rfl⟩) (fun L1 f1 H locs hp1 hH => ?_)
  obtain ⟨rfl, rfl⟩ := hp1
  refine lv_aload_n hx hb dJ7_init_4 rfl (lv_at hl 0 rfl) ?_
  refine lv_iconst (v := 0) hx hb dJ7_init_5 (by decide) ?_
  refine rh_put (ci := 4) (v := .int 0) (ty := .int) (C := RJ8) (T := TJ8) (N := 3) hx hb hts in_J8 tyJ8 tyJ8_ok nmJ8 hown hC hH ha hx0 rfl 0 (by decide) (hts _ q173) (fun _ h9 => h9) rfl (by decide +kernel) rfl rfl (Nat.le_of_ble_eq_true rfl) dJ7_init_6 (fun f2 H locs hu2 hfr2 hH => ?_)
  have hx3 : f2 a = .inr (4, [.int 0, x1, x2]) := hu2
  exact rh_vret hx hb hr hlocks hC hH (Nat.le_of_ble_eq_true rfl) (Nat.le_of_ble_eq_true rfl) (⟨rfl, hx3, hfr2⟩) dJ7_init_9

set_option maxHeartbeats 4000000 in
set_option maxRecDepth 100000 in
theorem met_ArrayList (l : Launch) (D : va_G) (Z : Nat → Nat) (L : List Nat) (f : Nat → va_E) (a : Nat) (x0 x1 : Value) (ha : a ∈ L) (hx0 : f a = .inr (4, [x0, x1, .int 0])) : Met l yJ8_init (ws_ yJ8_init cJ8_init 1 (none)) ({ frames := 3, cells := 0, slots := 0, locals := 60 }) (rhPc D Z L f [.ref a]) (rhQv D Z (fun L' f' => L = L' ∧ f' a = eAL 0 (Z 1) 0 ∧ (∀ b : Nat, b ≠ a → f' b = f b))) 0 0 (rhA Z) := by
  refine rh_ofW (by decide +kernel) (Nat.le_of_ble_eq_true rfl) ?_
  intro p e s m args below meth c hx hb hr hlocks hml hown hin hts hC hH ls hl
  have hown : s.vm.findClass RJ8 = some m.cls := hown
  have hl : lv_has ls 1 [(0, .ref a)] := hl
  refine lv_aload_n hx hb dJ8_init_0 rfl (lv_at hl 0 rfl) ?_
  refine rh_kv hC hH (va_runI (As := []) (rest := []) ⟨hx, hb, hml, hown, hts⟩ (met_AbstractList l D Z L f a x0 x1 (.int 0) ha hx0) (cwI 0 hts (lw_meth q162) rfl rfl rfl (hts _ q19) (hts _ q160) (hts _ q161) rfl (by decide +kernel) ⟨Nat.le_of_ble_eq_true rfl, Nat.le_of_ble_eq_true rfl⟩) (rh_preS hC hH (.ref a :: [])) rfl rfl hl.1 rfl (lv_room (Nat.le_of_ble_eq_true rfl)) dJ8_init_1 ⟨Nat.le_of_ble_eq_true rfl, Nat.le_of_ble_eq_true rfl⟩) (fun L4 f4 H locs hp4 hH => ?_)
  obtain ⟨rfl, h3, h4⟩ := hp4
  refine lv_aload_n hx hb dJ8_init_4 rfl (lv_at hl 0 rfl) ?_
  refine va_gets (A := rhA Z) hx hb hC.1.1.2.1 hH.2.2 hown (hts _ q167) (fun _ h9 => h9) dJ8_init_5 ?_
  refine rh_put (ci := 4) (v := .ref (Z 1)) (ty := .array (.object "java/lang/Object")) (C := RJ8) (T := TJ8) (N := 3) hx hb hts in_J8 tyJ8 tyJ8_ok nmJ8 hown hC hH ha h3 rfl 1 (by decide) (hts _ q169) (fun _ h9 => h9) rfl (by decide +kernel) rfl rfl (Nat.le_of_ble_eq_true rfl) dJ8_init_8 (fun f5 H locs hu5 hfr5 hH => ?_)
  have hx6 : f5 a = .inr (4, [.int 0, .ref (Z 1), .int 0]) := hu5
  exact rh_vret hx hb hr hlocks hC hH (Nat.le_of_ble_eq_true rfl) (Nat.le_of_ble_eq_true rfl) (⟨rfl, hx6, fun b hb9 => (hfr5 b hb9).trans (h4 b hb9)⟩) dJ8_init_11

set_option maxHeartbeats 4000000 in
set_option maxRecDepth 100000 in
theorem met_size (l : Launch) (D : va_G) (Z : Nat → Nat) (L : List Nat) (f : Nat → va_E) (la ea : Nat) (md : Int32) (xs : List (Nat × Nat)) (hla : la ∈ L) (hlf : f la = eAL md ea (nI xs.length))  : Met l yJ8_size (ws_ yJ8_size cJ8_size 1 (some .int)) ({ frames := 0, cells := 0, slots := 0, locals := 0 }) (rhPc D Z L f [.ref la]) (rhQi D Z (fun r L' f' => nI xs.length = r ∧ L = L' ∧ f = f')) 0 0 (rhA Z) := by
  refine rh_ofW (by decide +kernel) (Nat.le_of_ble_eq_true rfl) ?_
  intro p e s m args below meth c hx hb hr hlocks hml hown hin hts hC hH ls hl
  have hown : s.vm.findClass RJ8 = some m.cls := hown
  have hl : lv_has ls 1 [(0, .ref la)] := hl
  refine lv_aload_n hx hb dJ8_size_0 rfl (lv_at hl 0 rfl) ?_
  refine rh_get (ci := 4) (C := RJ8) (T := TJ8) (N := 3) hx hb hts in_J8 hown hC hH hla hlf rfl 2 (by decide) (hts _ q172) (fun _ h9 => h9) rfl dJ8_size_1 ?_
  exact rh_iret hx hb hr hlocks hC hH (Nat.le_of_ble_eq_true rfl) (Nat.le_of_ble_eq_true rfl) (⟨rfl, rfl, rfl⟩) dJ8_size_4

set_option maxHeartbeats 4000000 in
set_option maxRecDepth 100000 in
theorem met_isEmpty (l : Launch) (D : va_G) (Z : Nat → Nat) (L : List Nat) (f : Nat → va_E) (la ea : Nat) (md : Int32) (xs : List (Nat × Nat)) (hla : la ∈ L) (hlf : f la = eAL md ea (nI xs.length)) (hn : xs.length < 2 ^ 31) : Met l yJ8_isEmpty (ws_ yJ8_isEmpty cJ8_isEmpty 1 (some .boolean)) ({ frames := 0, cells := 0, slots := 0, locals := 0 }) (rhPc D Z L f [.ref la]) (rhQi D Z (fun r L' f' => (if xs.length = 0 then (1 : Int32) else 0) = r ∧ L = L' ∧ f = f')) 0 0 (rhA Z) := by
  refine rh_ofW (by decide +kernel) (Nat.le_of_ble_eq_true rfl) ?_
  intro p e s m args below meth c hx hb hr hlocks hml hown hin hts hC hH ls hl
  have hown : s.vm.findClass RJ8 = some m.cls := hown
  have hl : lv_has ls 1 [(0, .ref la)] := hl
  refine lv_aload_n hx hb dJ8_isEmpty_0 rfl (lv_at hl 0 rfl) ?_
  refine rh_get (ci := 4) (C := RJ8) (T := TJ8) (N := 3) hx hb hts in_J8 hown hC hH hla hlf rfl 2 (by decide) (hts _ q172) (fun _ h9 => h9) rfl dJ8_isEmpty_1 ?_
  refine lv_if_ne (tgt := 11) hx hb dJ8_isEmpty_4 (by decide) (fun c_1 => ?_) (fun c_1 => ?_)
  · have h1 : ¬ xs.length = 0 := fun z => c_1 (by rw [z]; rfl)
    refine lv_iconst (v := 0) hx hb dJ8_isEmpty_11 (by decide) ?_
    exact rh_zret hx hb hr (by decide) hlocks hC hH (Nat.le_of_ble_eq_true rfl) (Nat.le_of_ble_eq_true rfl) (⟨if_neg h1, rfl, rfl⟩) dJ8_isEmpty_12
  · have h1 : xs.length = 0 := (nI_eq hn (by decide)).mp c_1
    refine lv_iconst (v := 1) hx hb dJ8_isEmpty_7 (by decide) ?_
    refine lv_goto (tgt := 12) hx hb dJ8_isEmpty_8 (by decide) ?_
    exact rh_zret hx hb hr (by decide) hlocks hC hH (Nat.le_of_ble_eq_true rfl) (Nat.le_of_ble_eq_true rfl) (⟨if_pos h1, rfl, rfl⟩) dJ8_isEmpty_12

set_option maxHeartbeats 4000000 in
set_option maxRecDepth 100000 in
theorem met_newLength (l : Launch) (D : va_G) (Z : Nat → Nat) (L : List Nat) (f : Nat → va_E) (a b g : Nat) (hs : a + b + g < 2 ^ 30) (h0 : 0 < b) : Met l yJ10_newLength (ws_ yJ10_newLength cJ10_newLength 4 (some .int)) ({ frames := 1, cells := 0, slots := 0, locals := 30 }) (rhPc D Z L f [.int (nI a), .int (nI b), .int (nI g)]) (rhQi D Z (fun r L' f' => nI (a + max b g) = r ∧ L = L' ∧ f = f')) 0 0 (rhA Z) := by
  refine rh_ofW (by decide +kernel) (Nat.le_of_ble_eq_true rfl) ?_
  intro p e s m args below meth c hx hb hr hlocks hml hown hin hts hC hH ls hl
  have hown : s.vm.findClass RJ10 = some m.cls := hown
  have hl : lv_has ls 4 [(0, .int (nI a)), (1, .int (nI b)), (2, .int (nI g))] := hl
  refine lv_iload_n hx hb dJ10_newLength_0 rfl (lv_at hl 0 rfl) ?_
  refine lv_iload_n hx hb dJ10_newLength_1 rfl (lv_at hl 1 rfl) ?_
  refine lv_iload_n hx hb dJ10_newLength_2 rfl (lv_at hl 2 rfl) ?_
  refine va_mmax hx hb (by rw [hml]; exact hl.1.symm) hown (hts _ q317) (hts _ q318) (hts _ q22) (hts _ q319) (Nat.le_of_ble_eq_true rfl) (Nat.le_of_ble_eq_true rfl) (Nat.le_of_ble_eq_true rfl) (Nat.le_of_ble_eq_true rfl) dJ10_newLength_3 ?_
  refine lv_iadd hx hb dJ10_newLength_6 ?_
  refine lv_topi (fun y ey => ?_)
  obtain rfl : y = nI (a + max b g) := by
    rw [ey]
    by_cases h : b < g
    · rw [if_pos (nI_lt h (by omega)), nI_add, Nat.max_eq_right (by omega)]
    · rw [if_neg (nI_nlt (by omega) (by omega)), nI_add, Nat.max_eq_left (by omega)]
  have hm : a + max b g < 2 ^ 30 := by omega
  have hm0 : 0 < a + max b g := by omega
  refine lv_istore_n (lv' := [(3, .int (nI (a + max b g))), (0, .int (nI a)), (1, .int (nI b)), (2, .int (nI g))]) hx hb dJ10_newLength_7 rfl hl (by decide) rfl (fun ls hl => ?_)
  refine lv_iconst (v := 0) hx hb dJ10_newLength_8 (by decide) ?_
  refine lv_iload_n hx hb dJ10_newLength_9 rfl (lv_at hl 0 rfl) ?_
  refine lv_icmp_ge (tgt := 21) hx hb dJ10_newLength_10 (by decide) (fun c_1 => ?_) (fun c_1 => ?_)
  · exact absurd c_1 (nI_nle hm0 (by omega))
  refine lv_iload_n hx hb dJ10_newLength_13 rfl (lv_at hl 0 rfl) ?_
  refine lv_ldc hx hb hown (hts _ q320) dJ10_newLength_14 ?_
  refine lv_icmp_gt (tgt := 21) hx hb dJ10_newLength_16 (by decide) (fun c_2 => ?_) (fun c_2 => ?_)
  · exact absurd c_2 (nI_nlt (a := 2147483639) (b := a + max b g) (by omega) (by omega))
  refine lv_iload_n hx hb dJ10_newLength_19 rfl (lv_at hl 0 rfl) ?_
  exact rh_iret hx hb hr hlocks hC hH (Nat.le_of_ble_eq_true rfl) (Nat.le_of_ble_eq_true rfl) (⟨rfl, rfl, rfl⟩) dJ10_newLength_20

theorem cp_at {F : Nat → Option Nat} {cap j : Nat} (h : j < cap) (hc : cap < 2 ^ 31) : va_cpy F (fun _ => none) (0 : Int32).toNatClampNeg (0 : Int32).toNatClampNeg (nI cap).toNatClampNeg j = F j := by
  rw [nI_clamp hc]
  show (if 0 ≤ j ∧ j < 0 + cap then F (0 + (j - 0)) else none) = F j
  rw [if_pos ⟨Nat.zero_le _, by omega⟩, Nat.sub_zero, Nat.zero_add]
set_option maxHeartbeats 4000000 in
set_option maxRecDepth 100000 in
theorem met_copyOf3 (l : Launch) (D : va_G) (Z : Nat → Nat) (L : List Nat) (f : Nat → va_E) (ea cap N : Nat) (F : Nat → Option Nat) (hea : ea ∈ L) (hef : f ea = eRefs (D.1 100) cap F) (hN : cap ≤ N) (hN2 : N ≤ 96) (hel : ∀ i : Nat, i < cap → ∃ y k : Nat, F i = some y ∧ rhLg Z L f y k)  : Met l yJ11_copyOf_2 (ws_ yJ11_copyOf_2 cJ11_copyOf_2 4 (some (.array (.object "java/lang/Object")))) ({ frames := 1, cells := 1, slots := 96, locals := 40 }) (rhPc D Z L f [.ref ea, .int (nI N), .ref (Z 3)]) (rhQr D Z (fun r L' f' => r ∉ L ∧ L ++ [r] = L' ∧ (∃ F' : Nat → Option Nat, f' r = eRefs (D.1 100) N F' ∧ ∀ j : Nat, j < cap → F' j = F j) ∧ (∀ b : Nat, b ∈ L → f' b = f b))) 1 96 (rhA Z) := by
  refine rh_ofW (by decide +kernel) (Nat.le_of_ble_eq_true rfl) ?_
  intro p e s m args below meth c hx hb hr hlocks hml hown hin hts hC hH ls hl
  have hown : s.vm.findClass RJ11 = some m.cls := hown
  have hl : lv_has ls 4 [(0, .ref ea), (1, .int (nI N)), (2, .ref (Z 3))] := hl
  refine lv_aload_n hx hb dJ11_copyOf_2_0 rfl (lv_at hl 2 rfl) ?_
  refine va_ldcM hx hb hown (hts _ q342) hC.mi dJ11_copyOf_2_1 ?_
  refine lv_acmp_ne (rx := some (Z 3)) (ry := some (Z 3)) (tgt := 13) hx hb dJ11_copyOf_2_3 (by decide) (fun c_1 => absurd rfl c_1) (fun c_1 => ?_)
  refine lv_iload_n hx hb dJ11_copyOf_2_6 rfl (lv_at hl 1 rfl) ?_
  refine rh_newq (t0 := 0) (N := N) hx hb hown (hts _ q344) hC.oObj hC hH rfl (nI_pos (by omega)) (nI_clamp (by omega)) (by omega) (Nat.le_of_ble_eq_true rfl) (show 0 + N ≤ 96 by omega) dJ11_copyOf_2_7 (fun q f1 H hq hf1 hfr hH => ?_)
  refine lv_goto (tgt := 24) hx hb dJ11_copyOf_2_10 (by decide) ?_
  refine lv_astore_n (lv' := [(3, .ref q), (0, .ref ea), (1, .int (nI N)), (2, .ref (Z 3))]) hx hb dJ11_copyOf_2_24 rfl hl (by decide) rfl (fun ls hl => ?_)
  refine lv_aload_n hx hb dJ11_copyOf_2_25 rfl (lv_at hl 1 rfl) ?_
  refine lv_iconst (v := 0) hx hb dJ11_copyOf_2_26 (by decide) ?_
  refine lv_aload_n hx hb dJ11_copyOf_2_27 rfl (lv_at hl 0 rfl) ?_
  refine lv_iconst (v := 0) hx hb dJ11_copyOf_2_28 (by decide) ?_
  refine lv_aload_n hx hb dJ11_copyOf_2_29 rfl (lv_at hl 1 rfl) ?_
  refine rh_alen hx hb hC hH (List.mem_append_left _ hea) ((hfr ea hea).trans hef) (t0 := 0) rfl (v := nI cap) rfl dJ11_copyOf_2_30 ?_
  refine lv_iload_n hx hb dJ11_copyOf_2_31 rfl (lv_at hl 2 rfl) ?_
  refine va_mmin hx hb (by rw [hml]; exact hl.1.symm) hown (hts _ q345) (hts _ q290) (hts _ q22) (hts _ q291) (Nat.le_of_ble_eq_true rfl) (Nat.le_of_ble_eq_true rfl) (Nat.le_of_ble_eq_true rfl) (show 0 + N ≤ 96 by omega) dJ11_copyOf_2_32 ?_
  rw [if_neg (nI_nlt (a := N) (b := cap) hN (by omega))]
  obtain ⟨k0, hk0⟩ := rh_pl (f := f1) (List.mem_append_left [q] hea)
  obtain ⟨k1, hk1⟩ := rh_pl (f := f1) (rh_last L q)
  have hk1s := hk1
  rw [(hfr ea hea).trans hef] at hk0
  rw [hf1] at hk1
  refine va_copyM (D := D) (A := rhA Z) hx hb (by rw [hml]; exact hl.1.symm) hown (hts _ q346) (hts _ q348) (hts _ q347) (hts _ q27) hC.2 hH.1 hH.2.1 hH.2.2 k0 k1 0 0 hk0 hk1 rfl rfl (by decide) (by decide) (nI_pos (by omega)) (by rw [nI_clamp (show cap < 2 ^ 31 by omega)]; exact Nat.le_of_eq (Nat.zero_add _)) (by rw [nI_clamp (show cap < 2 ^ 31 by omega)]; exact Nat.le_trans (Nat.le_of_eq (Nat.zero_add _)) hN) (fun i hi y hy => ?_) (Nat.le_of_ble_eq_true rfl) (Nat.le_of_ble_eq_true rfl) dJ11_copyOf_2_35 (fun H locs hP1 hD1 hS1 => ?_)
  · rw [nI_clamp (show cap < 2 ^ 31 by omega)] at hi
    have hy : F (0 + i) = some y := hy
    rw [Nat.zero_add] at hy
    obtain ⟨y2, k2, g1, g2⟩ := hel i hi
    cases g1.symm.trans hy
    exact rh_anyL hC hH (g2.fr (fun b hb9 => List.mem_append_left _ hb9) (fun b hb9 _ => hfr b hb9))
  · rw [rh_plset hH.2.1 (rh_last L q) hk1s] at hP1 hD1
    have hH : rhHp D Z (L ++ [q]) (va_up f1 q (eRefs (D.1 100) N (va_cpy F (fun _ => none) (0 : Int32).toNatClampNeg (0 : Int32).toNatClampNeg (nI cap).toNatClampNeg))) s H locs := ⟨hP1, hD1, hS1⟩
    refine lv_aload_n hx hb dJ11_copyOf_2_38 rfl (lv_at hl 0 rfl) ?_
    have hup : va_up f1 q (eRefs (D.1 100) N (va_cpy F (fun _ => none) (0 : Int32).toNatClampNeg (0 : Int32).toNatClampNeg (nI cap).toNatClampNeg)) q = _ := va_up_self _ _ _
    exact rh_aret (v := q) hx hb hr (Or.inr ⟨_, rfl⟩) hlocks hC hH (Nat.le_of_ble_eq_true rfl) (show 0 + N ≤ 96 by omega) (⟨hq, rfl, ⟨_, hup, fun j hj => cp_at hj (by omega)⟩, fun b hb9 => (va_up_ne _ _ (fun z => hq (by rw [← z]; exact hb9))).trans (hfr b hb9)⟩) dJ11_copyOf_2_39
end
section
/-! ArrayList: growing, adding (printed by tools/p09.py) -/
set_option maxHeartbeats 4000000 in
set_option maxRecDepth 100000 in
theorem met_copyOf (l : Launch) (D : va_G) (Z : Nat → Nat) (L : List Nat) (f : Nat → va_E) (ea cap N : Nat) (F : Nat → Option Nat) (hea : ea ∈ L) (hef : f ea = eRefs (D.1 100) cap F) (hN : cap ≤ N) (hN2 : N ≤ 96) (hel : ∀ i : Nat, i < cap → ∃ y k : Nat, F i = some y ∧ rhLg Z L f y k)  : Met l yJ11_copyOf (ws_ yJ11_copyOf cJ11_copyOf 2 (some (.array (.object "java/lang/Object")))) ({ frames := 2, cells := 1, slots := 96, locals := 70 }) (rhPc D Z L f [.ref ea, .int (nI N)]) (rhQr D Z (fun r L' f' => r ∉ L ∧ L ++ [r] = L' ∧ (∃ F' : Nat → Option Nat, f' r = eRefs (D.1 100) N F' ∧ ∀ j : Nat, j < cap → F' j = F j) ∧ (∀ b : Nat, b ∈ L → f' b = f b))) 1 96 (rhA Z) := by
  refine rh_ofW (by decide +kernel) (Nat.le_of_ble_eq_true rfl) ?_
  intro p e s m args below meth c hx hb hr hlocks hml hown hin hts hC hH ls hl
  have hown : s.vm.findClass RJ11 = some m.cls := hown
  have hl : lv_has ls 2 [(0, .ref ea), (1, .int (nI N))] := hl
  refine lv_aload_n hx hb dJ11_copyOf_0 rfl (lv_at hl 0 rfl) ?_
  refine lv_iload_n hx hb dJ11_copyOf_1 rfl (lv_at hl 1 rfl) ?_
  refine lv_aload_n hx hb dJ11_copyOf_2 rfl (lv_at hl 0 rfl) ?_
  have hrc : ∃ cell : Cell, s.heap[ea]? = some cell ∧ cell.vm.isStatics = false ∧ s.vm.findClass "[Ljava/lang/Object;" = some cell.cls := by
    obtain ⟨k0, hk0⟩ := rh_pl (f := f) hea
    rw [hef] at hk0
    exact ⟨_, hH.1 k0 _ hk0, rfl, va_nmO (hC.2.2 0 _ rfl).2 (by decide +kernel)⟩
  refine va_getC (C := "[Ljava/lang/Object;") hx hb (by rw [hml]; exact hl.1.symm) hown (hts _ q327) hC.dc.use (hts _ q596) (hts _ q328) (hts _ q338) hC.mi hrc (Nat.le_of_ble_eq_true rfl) (Nat.le_of_ble_eq_true rfl) dJ11_copyOf_3 ?_
  refine rh_kr hC hH (va_runS (As := [.ref ea, .int (nI N), .ref (Z 3)]) (rest := []) ⟨hx, hb, hml, hown, hts⟩ (met_copyOf3 l D Z L f ea cap N F hea hef hN hN2 hel) (va_cwS 3 hts (lw_S q339 q340 q25 q341) rfl rfl rfl (by decide +kernel) ⟨Nat.le_of_ble_eq_true rfl, Nat.le_of_ble_eq_true rfl⟩) (rh_preS hC hH [.ref ea, .int (nI N), .ref (Z 3)]) rfl rfl hl.1 rfl (lv_room (Nat.le_of_ble_eq_true rfl)) dJ11_copyOf_6 ⟨Nat.le_of_ble_eq_true rfl, Nat.le_of_ble_eq_true rfl⟩) (fun r1 L1 f1 H locs hp1 hH => ?_)
  exact rh_aret hx hb hr (Or.inr ⟨_, rfl⟩) hlocks hC hH (Nat.le_of_ble_eq_true rfl) (Nat.le_of_ble_eq_true rfl) (hp1) dJ11_copyOf_9

theorem sh_half {n : Nat} (h : n < 2 ^ 31) : nI n >>> ((1 : Int32) &&& 31) = nI (n / 2) := pk_shrN h _ 1 (by decide +kernel)
theorem el_get {Z : Nat → Nat} {L : List Nat} {f : Nat → va_E} {xs : List (Nat × Nat)} {F : Nat → Option Nat} {i : Nat} (hxs : ∀ x ∈ xs, rhLg Z L f x.1 x.2) (h3 : ∀ j : Nat, j < xs.length → F j = (xs[j]?).map (·.1)) (hi : i < xs.length) : ∃ y k : Nat, F i = some y ∧ rhLg Z L f y k := by
  refine ⟨xs[i].1, xs[i].2, ?_, hxs _ (List.getElem_mem hi)⟩
  rw [h3 i hi, List.getElem?_eq_getElem hi]
  rfl
set_option maxHeartbeats 4000000 in
set_option maxRecDepth 100000 in
theorem met_grow2 (l : Launch) (D : va_G) (Z : Nat → Nat) (L : List Nat) (f : Nat → va_E) (la ea : Nat) (md : Int32) (xs : List (Nat × Nat)) (hla : la ∈ L) (hlf : f la = eAL md ea (nI xs.length)) (hxs : ∀ x ∈ xs, rhLg Z L f x.1 x.2) (hn : xs.length < 64) (hful : (xs = [] ∧ ea = Z 1) ∨ (ea ∈ L ∧ 10 ≤ xs.length ∧ ∃ F : Nat → Option Nat, f ea = eRefs (D.1 100) xs.length F ∧ ∀ j : Nat, j < xs.length → F j = (xs[j]?).map (·.1))) : Met l yJ8_grow_2 (ws_ yJ8_grow_2 cJ8_grow_2 4 (some (.array (.object "java/lang/Object")))) ({ frames := 3, cells := 1, slots := 96, locals := 100 }) (rhPc D Z L f [.ref la, .int (nI (xs.length + 1))]) (rhQr D Z (fun r L' f' => r ∉ L ∧ r ∈ L' ∧ f' la = eAL md r (nI xs.length) ∧ (∃ (cap : Nat) (F : Nat → Option Nat), f' r = eRefs (D.1 100) cap F ∧ xs.length + 1 ≤ cap ∧ 10 ≤ cap ∧ cap ≤ 96 ∧ ∀ j : Nat, j < xs.length → F j = (xs[j]?).map (·.1)) ∧ (∀ b ∈ L, b ∈ L') ∧ (∀ b ∈ L, b ≠ la → f' b = f b))) 1 96 (rhA Z) := by
  refine rh_ofW (by decide +kernel) (Nat.le_of_ble_eq_true rfl) ?_
  intro p e s m args below meth c hx hb hr hlocks hml hown hin hts hC hH ls hl
  have hown : s.vm.findClass RJ8 = some m.cls := hown
  have hl : lv_has ls 4 [(0, .ref la), (1, .int (nI (xs.length + 1)))] := hl
  rcases hful with ⟨h1, h2⟩ | ⟨h1, h10, F, h2, h3⟩
  · subst h1
    subst h2
    have hl : lv_has ls 4 [(0, .ref la), (1, .int (nI 1))] := hl
    have hlf : f la = eAL md (Z 1) (nI 0) := hlf
    refine lv_aload_n hx hb dJ8_grow_2_0 rfl (lv_at hl 0 rfl) ?_
    refine rh_get (ci := 4) (C := RJ8) (T := TJ8) (N := 3) hx hb hts in_J8 hown hC hH hla hlf rfl 1 (by decide) (hts _ q169) (fun _ h9 => h9) rfl dJ8_grow_2_1 ?_
    refine va_tlen hx hb hC.1.1.2.2 hH.2.2 (v := 0) rfl dJ8_grow_2_4 ?_
    refine lv_istore_n (lv' := [(2, .int 0), (0, .ref la), (1, .int (nI 1))]) hx hb dJ8_grow_2_5 rfl hl (by decide) rfl (fun ls hl => ?_)
    refine lv_iload_n hx hb dJ8_grow_2_6 rfl (lv_at hl 0 rfl) ?_
    refine lv_if_gt (tgt := 20) hx hb dJ8_grow_2_7 (by decide) (fun c_1 => absurd c_1 (by decide)) (fun _ => ?_)
    refine lv_aload_n hx hb dJ8_grow_2_10 rfl (lv_at hl 1 rfl) ?_
    refine rh_get (ci := 4) (C := RJ8) (T := TJ8) (N := 3) hx hb hts in_J8 hown hC hH hla hlf rfl 1 (by decide) (hts _ q169) (fun _ h9 => h9) rfl dJ8_grow_2_11 ?_
    refine va_gets (A := rhA Z) hx hb hC.1.1.2.1 hH.2.2 hown (hts _ q167) (fun _ h9 => h9) dJ8_grow_2_14 ?_
    refine lv_acmp_eq (rx := some (Z 1)) (ry := some (Z 1)) (tgt := 45) hx hb dJ8_grow_2_17 (by decide) (fun _ => ?_) (fun c_1 => absurd rfl c_1)
    refine lv_aload_n hx hb dJ8_grow_2_45 rfl (lv_at hl 1 rfl) ?_
    refine lv_bipush (v := 10) hx hb dJ8_grow_2_46 (by decide) ?_
    refine lv_iload_n hx hb dJ8_grow_2_48 rfl (lv_at hl 2 rfl) ?_
    refine va_mmax hx hb (by rw [hml]; exact hl.1.symm) hown (hts _ q349) (hts _ q318) (hts _ q22) (hts _ q319) (Nat.le_of_ble_eq_true rfl) (Nat.le_of_ble_eq_true rfl) (Nat.le_of_ble_eq_true rfl) (Nat.le_of_ble_eq_true rfl) dJ8_grow_2_49 ?_
    rw [show (if (10 : Int32) < nI 1 then nI 1 else 10) = 10 from by decide]
    refine rh_newq (t0 := 0) (N := 10) hx hb hown (hts _ q350) hC.oObj hC hH rfl (by decide) (by decide) (by decide) (Nat.le_of_ble_eq_true rfl) (Nat.le_of_ble_eq_true rfl) dJ8_grow_2_52 (fun q f1 H hq hf1 hfr hH => ?_)
    have hx1 : f1 la = eAL md (Z 1) (nI 0) := (hfr la hla).trans hlf
    refine lv_dup_x1 hx hb dJ8_grow_2_55 rfl rfl ?_
    refine rh_put (ci := 4) (v := .ref q) (ty := .array (.object "java/lang/Object")) (C := RJ8) (T := TJ8) (N := 3) hx hb hts in_J8 tyJ8 tyJ8_ok nmJ8 hown hC hH (List.mem_append_left _ hla) hx1 rfl 1 (by decide) (hts _ q169) (fun _ h9 => h9) rfl (by decide +kernel) rfl rfl (Nat.le_of_ble_eq_true rfl) dJ8_grow_2_56 (fun f2 H locs hu2 hfr2 hH => ?_)
    have hx3 : f2 q = eRefs (D.1 100) 10 (fun _ => none) := (hfr2 q (rh_ne hf1 hx1 (by nofun))).trans hf1
    have hx4 : f2 la = .inr (4, [.int md, .ref q, .int (nI 0)]) := hu2
    exact rh_aret (v := q) hx hb hr (Or.inr ⟨_, rfl⟩) hlocks hC hH (Nat.le_of_ble_eq_true rfl) (Nat.le_of_ble_eq_true rfl) (⟨hq, rh_last L q, hx4, ⟨10, _, hx3, by decide, by decide, by decide, fun j hj => absurd hj (Nat.not_lt_zero j)⟩, fun b hb9 => List.mem_append_left _ hb9, fun b hb9 h9 => (hfr2 b h9).trans (hfr b hb9)⟩) dJ8_grow_2_59
  · refine lv_aload_n hx hb dJ8_grow_2_0 rfl (lv_at hl 0 rfl) ?_
    refine rh_get (ci := 4) (C := RJ8) (T := TJ8) (N := 3) hx hb hts in_J8 hown hC hH hla hlf rfl 1 (by decide) (hts _ q169) (fun _ h9 => h9) rfl dJ8_grow_2_1 ?_
    refine rh_alen hx hb hC hH h1 h2 (t0 := 0) rfl (v := nI xs.length) rfl dJ8_grow_2_4 ?_
    refine lv_istore_n (lv' := [(2, .int (nI xs.length)), (0, .ref la), (1, .int (nI (xs.length + 1)))]) hx hb dJ8_grow_2_5 rfl hl (by decide) rfl (fun ls hl => ?_)
    refine lv_iload_n hx hb dJ8_grow_2_6 rfl (lv_at hl 0 rfl) ?_
    refine lv_if_gt (tgt := 20) hx hb dJ8_grow_2_7 (by decide) (fun _ => ?_) (fun c_1 => absurd (show nI 0 < nI xs.length from nI_lt (by omega) (by omega)) c_1)
    refine lv_iload_n hx hb dJ8_grow_2_20 rfl (lv_at hl 0 rfl) ?_
    refine lv_iload_n hx hb dJ8_grow_2_21 rfl (lv_at hl 2 rfl) ?_
    refine lv_iload_n hx hb dJ8_grow_2_22 rfl (lv_at hl 0 rfl) ?_
    refine lv_isub hx hb dJ8_grow_2_23 ?_
    refine lv_topi (fun y ey => ?_)
    obtain rfl : y = nI 1 := ey.trans (by rw [pk_sub (by omega), Nat.add_sub_cancel_left])
    refine lv_iload_n hx hb dJ8_grow_2_24 rfl (lv_at hl 0 rfl) ?_
    refine lv_iconst (v := 1) hx hb dJ8_grow_2_25 (by decide) ?_
    refine lv_ishr hx hb dJ8_grow_2_26 ?_
    refine lv_topi (fun y ey => ?_)
    obtain rfl : y = nI (xs.length / 2) := ey.trans (sh_half (show xs.length < 2 ^ 31 by omega))
    refine rh_ki hC hH (va_runS (As := [.int (nI xs.length), .int (nI 1), .int (nI (xs.length / 2))]) (rest := []) ⟨hx, hb, hml, hown, hts⟩ (met_newLength l D Z L f xs.length 1 (xs.length / 2) (by omega) (by omega)) (va_cwS 3 hts (lw_S q314 q315 q24 q316) rfl rfl rfl (by decide +kernel) ⟨Nat.le_of_ble_eq_true rfl, Nat.le_of_ble_eq_true rfl⟩) (rh_preS hC hH [.int (nI xs.length), .int (nI 1), .int (nI (xs.length / 2))]) rfl rfl hl.1 rfl (lv_room (Nat.le_of_ble_eq_true rfl)) dJ8_grow_2_27 ⟨Nat.le_of_ble_eq_true rfl, Nat.le_of_ble_eq_true rfl⟩) (fun r5 L5 f5 H locs hp5 hH => ?_)
    obtain ⟨rfl, rfl, rfl⟩ := hp5
    obtain ⟨N, hN⟩ : ∃ N, N = xs.length + max 1 (xs.length / 2) := ⟨_, rfl⟩
    rw [← hN]
    refine lv_istore_n (lv' := [(3, .int (nI N)), (2, .int (nI xs.length)), (0, .ref la), (1, .int (nI (xs.length + 1)))]) hx hb dJ8_grow_2_30 rfl hl (by decide) rfl (fun ls hl => ?_)
    refine lv_aload_n hx hb dJ8_grow_2_31 rfl (lv_at hl 2 rfl) ?_
    refine lv_aload_n hx hb dJ8_grow_2_32 rfl (lv_at hl 2 rfl) ?_
    refine rh_get (ci := 4) (C := RJ8) (T := TJ8) (N := 3) hx hb hts in_J8 hown hC hH hla hlf rfl 1 (by decide) (hts _ q169) (fun _ h9 => h9) rfl dJ8_grow_2_33 ?_
    refine lv_iload_n hx hb dJ8_grow_2_36 rfl (lv_at hl 0 rfl) ?_
    refine rh_kr hC hH (va_runS (As := [.ref ea, .int (nI N)]) (rest := [.ref la]) ⟨hx, hb, hml, hown, hts⟩ (met_copyOf l D Z L f ea xs.length N F h1 h2 (by omega) (by omega) (fun i hi => el_get hxs h3 hi)) (va_cwS 2 hts (lw_S q324 q325 q25 q326) rfl rfl rfl (by decide +kernel) ⟨Nat.le_of_ble_eq_true rfl, Nat.le_of_ble_eq_true rfl⟩) (rh_preS hC hH [.ref ea, .int (nI N)]) rfl rfl hl.1 rfl (lv_room (Nat.le_of_ble_eq_true rfl)) dJ8_grow_2_37 ⟨Nat.le_of_ble_eq_true rfl, Nat.le_of_ble_eq_true rfl⟩) (fun q6 L6 f6 H locs hp6 hH => ?_)
    obtain ⟨hq, rfl, ⟨F2, hf1, hF2⟩, hfr⟩ := hp6
    have hx1 : f6 la = eAL md ea (nI xs.length) := (hfr la hla).trans hlf
    refine lv_dup_x1 hx hb dJ8_grow_2_40 rfl rfl ?_
    refine rh_put (ci := 4) (v := .ref q6) (ty := .array (.object "java/lang/Object")) (C := RJ8) (T := TJ8) (N := 3) hx hb hts in_J8 tyJ8 tyJ8_ok nmJ8 hown hC hH (List.mem_append_left _ hla) hx1 rfl 1 (by decide) (hts _ q169) (fun _ h9 => h9) rfl (by decide +kernel) rfl rfl (Nat.le_of_ble_eq_true rfl) dJ8_grow_2_41 (fun f7 H locs hu7 hfr7 hH => ?_)
    have hx8 : f7 q6 = eRefs (D.1 100) N F2 := (hfr7 q6 (rh_ne hf1 hx1 (by nofun))).trans hf1
    have hx9 : f7 la = .inr (4, [.int md, .ref q6, .int (nI xs.length)]) := hu7
    exact rh_aret (v := q6) hx hb hr (Or.inr ⟨_, rfl⟩) hlocks hC hH (Nat.le_of_ble_eq_true rfl) (Nat.le_of_ble_eq_true rfl) (⟨hq, rh_last L q6, hx9, ⟨N, F2, hx8, by omega, by omega, by omega, fun j hj => (hF2 j hj).trans (h3 j hj)⟩, fun b hb9 => List.mem_append_left _ hb9, fun b hb9 h9 => (hfr7 b h9).trans (hfr b hb9)⟩) dJ8_grow_2_44

set_option maxHeartbeats 4000000 in
set_option maxRecDepth 100000 in
theorem met_grow (l : Launch) (D : va_G) (Z : Nat → Nat) (L : List Nat) (f : Nat → va_E) (la ea : Nat) (md : Int32) (xs : List (Nat × Nat)) (hla : la ∈ L) (hlf : f la = eAL md ea (nI xs.length)) (hxs : ∀ x ∈ xs, rhLg Z L f x.1 x.2) (hn : xs.length < 64) (hful : (xs = [] ∧ ea = Z 1) ∨ (ea ∈ L ∧ 10 ≤ xs.length ∧ ∃ F : Nat → Option Nat, f ea = eRefs (D.1 100) xs.length F ∧ ∀ j : Nat, j < xs.length → F j = (xs[j]?).map (·.1))) : Met l yJ8_grow (ws_ yJ8_grow cJ8_grow 1 (some (.array (.object "java/lang/Object")))) ({ frames := 4, cells := 1, slots := 96, locals := 124 }) (rhPc D Z L f [.ref la]) (rhQr D Z (fun r L' f' => r ∉ L ∧ r ∈ L' ∧ f' la = eAL md r (nI xs.length) ∧ (∃ (cap : Nat) (F : Nat → Option Nat), f' r = eRefs (D.1 100) cap F ∧ xs.length + 1 ≤ cap ∧ 10 ≤ cap ∧ cap ≤ 96 ∧ ∀ j : Nat, j < xs.length → F j = (xs[j]?).map (·.1)) ∧ (∀ b ∈ L, b ∈ L') ∧ (∀ b ∈ L, b ≠ la → f' b = f b))) 1 96 (rhA Z) := by
  refine rh_ofW (by decide +kernel) (Nat.le_of_ble_eq_true rfl) ?_
  intro p e s m args below meth c hx hb hr hlocks hml hown hin hts hC hH ls hl
  have hown : s.vm.findClass RJ8 = some m.cls := hown
  have hl : lv_has ls 1 [(0, .ref la)] := hl
  refine lv_aload_n hx hb dJ8_grow_0 rfl (lv_at hl 0 rfl) ?_
  refine lv_aload_n hx hb dJ8_grow_1 rfl (lv_at hl 0 rfl) ?_
  refine rh_get (ci := 4) (C := RJ8) (T := TJ8) (N := 3) hx hb hts in_J8 hown hC hH hla hlf rfl 2 (by decide) (hts _ q172) (fun _ h9 => h9) rfl dJ8_grow_2 ?_
  refine lv_iconst (v := 1) hx hb dJ8_grow_5 (by decide) ?_
  refine lv_iadd hx hb dJ8_grow_6 ?_
  refine lv_topi (fun y ey => ?_)
  obtain rfl : y = nI (xs.length + 1) := ey.trans (nI_1 _)
  refine rh_kr hC hH (va_runV (As := [.int (nI (xs.length + 1))]) (rest := []) ⟨hx, hb, hml, hown, hts⟩ (met_grow2 l D Z L f la ea md xs hla hlf hxs hn hful) (cwV 1 hts (lw_V q310 q312 qs3 q20 q313) rfl rfl rfl (by decide +kernel) ⟨Nat.le_of_ble_eq_true rfl, Nat.le_of_ble_eq_true rfl⟩) (rh_preV hC hH [.int (nI (xs.length + 1))] (rh_recv hC hH hla hlf (q := (RJ8, TJ8, 3)) rfl)) rfl rfl hl.1 rfl (lv_room (Nat.le_of_ble_eq_true rfl)) dJ8_grow_7 ⟨Nat.le_of_ble_eq_true rfl, Nat.le_of_ble_eq_true rfl⟩) (fun r10 L10 f10 H locs hp10 hH => ?_)
  exact rh_aret hx hb hr (Or.inr ⟨_, rfl⟩) hlocks hC hH (Nat.le_of_ble_eq_true rfl) (Nat.le_of_ble_eq_true rfl) (hp10) dJ8_grow_10

theorem ad_el {D : va_G} {Z : Nat → Nat} {L : List Nat} {f : Nat → va_E} {ea cap x k : Nat} {xs : List (Nat × Nat)} {F : Nat → Option Nat} (hxs : ∀ z ∈ xs, rhLg Z L f z.1 z.2) (hk : rhLg Z L f x k) (he : ea ∈ L) (hf : f ea = eRefs (D.1 100) cap (va_up F xs.length (some x))) (hlt : xs.length < cap) (h10 : 10 ≤ cap) (h96 : cap ≤ 96) (h4 : ∀ j : Nat, j < xs.length → F j = (xs[j]?).map (·.1)) : rhEl D Z L f ea (xs ++ [(x, k)]) := by
  refine ⟨fun z hz => ?_, Or.inr ⟨he, cap, _, hf, by rw [List.length_append]; exact hlt, h10, h96, fun j hj => ?_⟩⟩
  · rcases List.mem_append.mp hz with h | h
    · exact hxs z h
    · rw [List.mem_singleton.mp h]; exact hk
  · rw [List.length_append] at hj
    have hj : j < xs.length + 1 := hj
    by_cases h : j = xs.length
    · subst h
      rw [va_up_self, List.getElem?_append_right (Nat.le_refl _), Nat.sub_self]
      rfl
    · rw [va_up_ne _ _ h, h4 j (by omega), List.getElem?_append_left (by omega)]
set_option maxHeartbeats 4000000 in
set_option maxRecDepth 100000 in
theorem met_add2 (l : Launch) (D : va_G) (Z : Nat → Nat) (L : List Nat) (f : Nat → va_E) (la ea : Nat) (md : Int32) (xs : List (Nat × Nat)) (hla : la ∈ L) (hlf : f la = eAL md ea (nI xs.length)) (x k : Nat) (hel : rhEl D Z L f ea xs) (hn : xs.length < 64) (hk : rhLg Z L f x k) : Met l yJ8_add_2 (ws_ yJ8_add_2 cJ8_add_2 4 (none)) ({ frames := 5, cells := 1, slots := 96, locals := 144 }) (rhPc D Z L f [.ref la, .ref x, .ref ea, .int (nI xs.length)]) (rhQv D Z (fun L' f' => ∃ ea' : Nat, (ea' = ea ∨ ea' ∉ L) ∧ f' la = eAL md ea' (nI (xs.length + 1)) ∧ rhEl D Z L' f' ea' (xs ++ [(x, k)]) ∧ (∀ b ∈ L, b ∈ L') ∧ (∀ b ∈ L, b ≠ la → b ≠ ea → f' b = f b))) 1 96 (rhA Z) := by
  refine rh_ofW (by decide +kernel) (Nat.le_of_ble_eq_true rfl) ?_
  intro p e s m args below meth c hx hb hr hlocks hml hown hin hts hC hH ls hl
  have hown : s.vm.findClass RJ8 = some m.cls := hown
  have hl : lv_has ls 4 [(0, .ref la), (1, .ref x), (2, .ref ea), (3, .int (nI xs.length))] := hl
  refine lv_iload_n hx hb dJ8_add_2_0 rfl (lv_at hl 3 rfl) ?_
  refine lv_aload_n hx hb dJ8_add_2_1 rfl (lv_at hl 2 rfl) ?_
  obtain ⟨hxs, hel2⟩ := hel
  rcases hel2 with ⟨h1, h2⟩ | ⟨h1, cap, F, h2, h3, h10, h96, h4⟩
  · have hne0 : xs.length = 0 := by rw [h1]; rfl
    subst h2
    refine va_tlen hx hb hC.1.1.2.2 hH.2.2 (v := 0) rfl dJ8_add_2_2 ?_
    refine lv_icmp_ne (tgt := 11) hx hb dJ8_add_2_3 (by decide) (fun c_1 => absurd (show nI xs.length = 0 by rw [hne0]; rfl) c_1) (fun _ => ?_)
    refine lv_aload_n hx hb dJ8_add_2_6 rfl (lv_at hl 0 rfl) ?_
    refine rh_kr hC hH (va_runV (As := []) (rest := []) ⟨hx, hb, hml, hown, hts⟩ (met_grow l D Z L f la (Z 1) md xs hla hlf hxs hn (Or.inl ⟨h1, rfl⟩)) (cwV 0 hts (lw_V q306 q308 qs2 q20 q309) rfl rfl rfl (by decide +kernel) ⟨Nat.le_of_ble_eq_true rfl, Nat.le_of_ble_eq_true rfl⟩) (rh_preV hC hH [] (rh_recv hC hH hla hlf (q := (RJ8, TJ8, 3)) rfl)) rfl rfl hl.1 rfl (lv_room (Nat.le_of_ble_eq_true rfl)) dJ8_add_2_7 ⟨Nat.le_of_ble_eq_true rfl, Nat.le_of_ble_eq_true rfl⟩) (fun q11 L11 f11 H locs hp11 hH => ?_)
    obtain ⟨hq, hq2, hg1, ⟨cap2, F2, hg2, hc1, hc10, hc96, hF2⟩, hsub, hfr⟩ := hp11
    refine lv_astore_n (lv' := [(2, .ref q11), (0, .ref la), (1, .ref x), (3, .int (nI xs.length))]) hx hb dJ8_add_2_10 rfl hl (by decide) rfl (fun ls hl => ?_)
    refine lv_aload_n hx hb dJ8_add_2_11 rfl (lv_at hl 0 rfl) ?_
    refine lv_iload_n hx hb dJ8_add_2_12 rfl (lv_at hl 3 rfl) ?_
    refine lv_aload_n hx hb dJ8_add_2_13 rfl (lv_at hl 2 rfl) ?_
    have hkx : rhLg Z L11 f11 x k := hk.fr hsub (fun b hb9 e9 => hfr b hb9 (rh_ne e9 hlf (by nofun)))
    refine rh_aast (t0 := 0) hx hb hC hH hq2 hg2 rfl (rh_anyL hC hH hkx) (vp_in_nI (show xs.length < cap2 by omega) (by omega)) dJ8_add_2_14 (fun f12 H locs hu hfr2 hH => ?_)
    rw [nI_clamp (show xs.length < 2 ^ 31 by omega)] at hu
    have hx1 : f12 la = eAL md q11 (nI xs.length) := (hfr2 la (rh_ne hg1 hg2 (by nofun))).trans hg1
    refine lv_aload_n hx hb dJ8_add_2_15 rfl (lv_at hl 1 rfl) ?_
    refine lv_iload_n hx hb dJ8_add_2_16 rfl (lv_at hl 3 rfl) ?_
    refine lv_iconst (v := 1) hx hb dJ8_add_2_17 (by decide) ?_
    refine lv_iadd hx hb dJ8_add_2_18 ?_
    refine lv_topi (fun y ey => ?_)
    obtain rfl : y = nI (xs.length + 1) := ey.trans (nI_1 _)
    refine rh_put (ci := 4) (v := .int (nI (xs.length + 1))) (ty := .int) (C := RJ8) (T := TJ8) (N := 3) hx hb hts in_J8 tyJ8 tyJ8_ok nmJ8 hown hC hH (hsub _ hla) hx1 rfl 2 (by decide) (hts _ q172) (fun _ h9 => h9) rfl (by decide +kernel) rfl rfl (Nat.le_of_ble_eq_true rfl) dJ8_add_2_19 (fun f13 H locs hu13 hfr13 hH => ?_)
    have hx14 : f13 q11 = eRefs (D.1 100) cap2 (va_up F2 xs.length (some x)) := (hfr13 q11 (rh_ne hu hx1 (by nofun))).trans hu
    have hx15 : f13 la = .inr (4, [.int md, .ref q11, .int (nI (xs.length + 1))]) := hu13
    have hlq : la ≠ q11 := rh_ne hg1 hg2 (by nofun)
    have hfin : ∀ b ∈ L, b ≠ la → f13 b = f b := fun b hb9 h9 => (hfr13 b h9).trans ((hfr2 b (fun z => hq (by rw [← z]; exact hb9))).trans (hfr b hb9 h9))
    have hlg : ∀ b ∈ L, ∀ k : Nat, f b = eLong k → f13 b = f b := fun b hb9 k9 e9 => hfin b hb9 (rh_ne e9 hlf (by nofun))
    exact rh_vret hx hb hr hlocks hC hH (Nat.le_of_ble_eq_true rfl) (Nat.le_of_ble_eq_true rfl) (⟨q11, Or.inr hq, hx15, ad_el (fun z hz => (hxs z hz).fr hsub (fun b hb9 => hlg b hb9 _)) (hk.fr hsub (fun b hb9 => hlg b hb9 _)) hq2 hx14 (by omega) hc10 hc96 hF2, hsub, fun b hb9 h9 _ => hfin b hb9 h9⟩) dJ8_add_2_22
  · refine rh_alen hx hb hC hH h1 h2 (t0 := 0) rfl (v := nI cap) rfl dJ8_add_2_2 ?_
    refine lv_icmp_ne (tgt := 11) hx hb dJ8_add_2_3 (by decide) (fun c_1 => ?_) (fun c_1 => ?_)
    · have hlt : xs.length < cap := by
        rcases Nat.lt_or_ge xs.length cap with q | q
        · exact q
        · exact absurd (by rw [show xs.length = cap by omega]) c_1
      refine lv_aload_n hx hb dJ8_add_2_11 rfl (lv_at hl 2 rfl) ?_
      refine lv_iload_n hx hb dJ8_add_2_12 rfl (lv_at hl 3 rfl) ?_
      refine lv_aload_n hx hb dJ8_add_2_13 rfl (lv_at hl 1 rfl) ?_
      refine rh_aast (t0 := 0) hx hb hC hH h1 h2 rfl (rh_anyL hC hH hk) (vp_in_nI hlt (by omega)) dJ8_add_2_14 (fun f16 H locs hu hfr2 hH => ?_)
      rw [nI_clamp (show xs.length < 2 ^ 31 by omega)] at hu
      have hlq : la ≠ ea := rh_ne hlf h2 (by nofun)
      have hx1 : f16 la = eAL md ea (nI xs.length) := (hfr2 la hlq).trans hlf
      refine lv_aload_n hx hb dJ8_add_2_15 rfl (lv_at hl 0 rfl) ?_
      refine lv_iload_n hx hb dJ8_add_2_16 rfl (lv_at hl 3 rfl) ?_
      refine lv_iconst (v := 1) hx hb dJ8_add_2_17 (by decide) ?_
      refine lv_iadd hx hb dJ8_add_2_18 ?_
      refine lv_topi (fun y ey => ?_)
      obtain rfl : y = nI (xs.length + 1) := ey.trans (nI_1 _)
      refine rh_put (ci := 4) (v := .int (nI (xs.length + 1))) (ty := .int) (C := RJ8) (T := TJ8) (N := 3) hx hb hts in_J8 tyJ8 tyJ8_ok nmJ8 hown hC hH hla hx1 rfl 2 (by decide) (hts _ q172) (fun _ h9 => h9) rfl (by decide +kernel) rfl rfl (Nat.le_of_ble_eq_true rfl) dJ8_add_2_19 (fun f17 H locs hu17 hfr17 hH => ?_)
      have hx18 : f17 ea = eRefs (D.1 100) cap (va_up F xs.length (some x)) := (hfr17 ea (rh_ne hu hx1 (by nofun))).trans hu
      have hx19 : f17 la = .inr (4, [.int md, .ref ea, .int (nI (xs.length + 1))]) := hu17
      have hfin : ∀ b ∈ L, b ≠ la → b ≠ ea → f17 b = f b := fun b hb9 h9 h8 => (hfr17 b h9).trans (hfr2 b h8)
      have hlg : ∀ b ∈ L, ∀ k : Nat, f b = eLong k → f17 b = f b := fun b hb9 k9 e9 => hfin b hb9 (rh_ne e9 hlf (by nofun)) (rh_ne e9 h2 (by nofun))
      exact rh_vret hx hb hr hlocks hC hH (Nat.le_of_ble_eq_true rfl) (Nat.le_of_ble_eq_true rfl) (⟨ea, Or.inl rfl, hx19, ad_el (fun z hz => (hxs z hz).fr (fun _ h9 => h9) (fun b hb9 => hlg b hb9 _)) (hk.fr (fun _ h9 => h9) (fun b hb9 => hlg b hb9 _)) h1 hx18 hlt h10 h96 h4, fun _ h9 => h9, hfin⟩) dJ8_add_2_22
    · have hcl : cap = xs.length := ((nI_eq (by omega) (by omega)).mp c_1).symm
      subst hcl
      refine lv_aload_n hx hb dJ8_add_2_6 rfl (lv_at hl 0 rfl) ?_
      refine rh_kr hC hH (va_runV (As := []) (rest := []) ⟨hx, hb, hml, hown, hts⟩ (met_grow l D Z L f la ea md xs hla hlf hxs hn (Or.inr ⟨h1, h10, F, h2, h4⟩)) (cwV 0 hts (lw_V q306 q308 qs2 q20 q309) rfl rfl rfl (by decide +kernel) ⟨Nat.le_of_ble_eq_true rfl, Nat.le_of_ble_eq_true rfl⟩) (rh_preV hC hH [] (rh_recv hC hH hla hlf (q := (RJ8, TJ8, 3)) rfl)) rfl rfl hl.1 rfl (lv_room (Nat.le_of_ble_eq_true rfl)) dJ8_add_2_7 ⟨Nat.le_of_ble_eq_true rfl, Nat.le_of_ble_eq_true rfl⟩) (fun q20 L20 f20 H locs hp20 hH => ?_)
      obtain ⟨hq, hq2, hg1, ⟨cap2, F2, hg2, hc1, hc10, hc96, hF2⟩, hsub, hfr⟩ := hp20
      refine lv_astore_n (lv' := [(2, .ref q20), (0, .ref la), (1, .ref x), (3, .int (nI xs.length))]) hx hb dJ8_add_2_10 rfl hl (by decide) rfl (fun ls hl => ?_)
      refine lv_aload_n hx hb dJ8_add_2_11 rfl (lv_at hl 0 rfl) ?_
      refine lv_iload_n hx hb dJ8_add_2_12 rfl (lv_at hl 3 rfl) ?_
      refine lv_aload_n hx hb dJ8_add_2_13 rfl (lv_at hl 2 rfl) ?_
      have hkx : rhLg Z L20 f20 x k := hk.fr hsub (fun b hb9 e9 => hfr b hb9 (rh_ne e9 hlf (by nofun)))
      refine rh_aast (t0 := 0) hx hb hC hH hq2 hg2 rfl (rh_anyL hC hH hkx) (vp_in_nI (show xs.length < cap2 by omega) (by omega)) dJ8_add_2_14 (fun f21 H locs hu hfr2 hH => ?_)
      rw [nI_clamp (show xs.length < 2 ^ 31 by omega)] at hu
      have hx1 : f21 la = eAL md q20 (nI xs.length) := (hfr2 la (rh_ne hg1 hg2 (by nofun))).trans hg1
      refine lv_aload_n hx hb dJ8_add_2_15 rfl (lv_at hl 1 rfl) ?_
      refine lv_iload_n hx hb dJ8_add_2_16 rfl (lv_at hl 3 rfl) ?_
      refine lv_iconst (v := 1) hx hb dJ8_add_2_17 (by decide) ?_
      refine lv_iadd hx hb dJ8_add_2_18 ?_
      refine lv_topi (fun y ey => ?_)
      obtain rfl : y = nI (xs.length + 1) := ey.trans (nI_1 _)
      refine rh_put (ci := 4) (v := .int (nI (xs.length + 1))) (ty := .int) (C := RJ8) (T := TJ8) (N := 3) hx hb hts in_J8 tyJ8 tyJ8_ok nmJ8 hown hC hH (hsub _ hla) hx1 rfl 2 (by decide) (hts _ q172) (fun _ h9 => h9) rfl (by decide +kernel) rfl rfl (Nat.le_of_ble_eq_true rfl) dJ8_add_2_19 (fun f22 H locs hu22 hfr22 hH => ?_)
      have hx23 : f22 q20 = eRefs (D.1 100) cap2 (va_up F2 xs.length (some x)) := (hfr22 q20 (rh_ne hu hx1 (by nofun))).trans hu
      have hx24 : f22 la = .inr (4, [.int md, .ref q20, .int (nI (xs.length + 1))]) := hu22
      have hlq : la ≠ q20 := rh_ne hg1 hg2 (by nofun)
      have hfin : ∀ b ∈ L, b ≠ la → f22 b = f b := fun b hb9 h9 => (hfr22 b h9).trans ((hfr2 b (fun z => hq (by rw [← z]; exact hb9))).trans (hfr b hb9 h9))
      have hlg : ∀ b ∈ L, ∀ k : Nat, f b = eLong k → f22 b = f b := fun b hb9 k9 e9 => hfin b hb9 (rh_ne e9 hlf (by nofun))
      exact rh_vret hx hb hr hlocks hC hH (Nat.le_of_ble_eq_true rfl) (Nat.le_of_ble_eq_true rfl) (⟨q20, Or.inr hq, hx24, ad_el (fun z hz => (hxs z hz).fr hsub (fun b hb9 => hlg b hb9 _)) (hk.fr hsub (fun b hb9 => hlg b hb9 _)) hq2 hx23 (by omega) hc10 hc96 hF2, hsub, fun b hb9 h9 _ => hfin b hb9 h9⟩) dJ8_add_2_22

theorem ea_ne {D : va_G} {Z : Nat → Nat} {L : List Nat} {f : Nat → va_E} {s : State} {H : Heap} {locs : List Loc} {f2 : Nat → va_E} {la ea : Nat} {md n : Int32} {xs : List (Nat × Nat)} (hC : rhCx D Z s) (hH : rhHp D Z L f2 s H locs) (hla : la ∈ L) (hlf : f la = eAL md ea n) (hel : rhEl D Z L f ea xs) : la ≠ ea := by
  rcases hel.2 with ⟨-, h⟩ | ⟨-, cap, F, h, -⟩
  · exact fun z => rh_Z1 hC hH (by rw [← h, ← z]; exact hla)
  · exact rh_ne hlf h (by nofun)
set_option maxHeartbeats 4000000 in
set_option maxRecDepth 100000 in
theorem met_add (l : Launch) (D : va_G) (Z : Nat → Nat) (L : List Nat) (f : Nat → va_E) (la ea : Nat) (md : Int32) (xs : List (Nat × Nat)) (hla : la ∈ L) (hlf : f la = eAL md ea (nI xs.length)) (x k : Nat) (hel : rhEl D Z L f ea xs) (hn : xs.length < 64) (hk : rhLg Z L f x k) : Met l yJ8_add (ws_ yJ8_add cJ8_add 2 (some .boolean)) ({ frames := 6, cells := 1, slots := 96, locals := 168 }) (rhPc D Z L f [.ref la, .ref x]) (rhQi D Z (fun r L' f' => 1 = r ∧ ∃ ea' : Nat, (ea' = ea ∨ ea' ∉ L) ∧ f' la = eAL (md + 1) ea' (nI (xs.length + 1)) ∧ rhEl D Z L' f' ea' (xs ++ [(x, k)]) ∧ (∀ b ∈ L, b ∈ L') ∧ (∀ b ∈ L, b ≠ la → b ≠ ea → f' b = f b))) 1 96 (rhA Z) := by
  refine rh_ofW (by decide +kernel) (Nat.le_of_ble_eq_true rfl) ?_
  intro p e s m args below meth c hx hb hr hlocks hml hown hin hts hC hH ls hl
  have hown : s.vm.findClass RJ8 = some m.cls := hown
  have hl : lv_has ls 2 [(0, .ref la), (1, .ref x)] := hl
  refine lv_aload_n hx hb dJ8_add_0 rfl (lv_at hl 0 rfl) ?_
  refine lv_dup hx hb dJ8_add_1 rfl ?_
  refine rh_get (ci := 4) (C := RJ8) (T := TJ8) (N := 3) hx hb hts in_J8 hown hC hH hla hlf rfl 0 (by decide) (hts _ q176) (fun x9 h9 => u_same (hts _ q175) x9 h9) rfl dJ8_add_2 ?_
  refine lv_iconst (v := 1) hx hb dJ8_add_5 (by decide) ?_
  refine lv_iadd hx hb dJ8_add_6 ?_
  refine rh_put (ci := 4) (v := .int (md + 1)) (ty := .int) (C := RJ8) (T := TJ8) (N := 3) hx hb hts in_J8 tyJ8 tyJ8_ok nmJ8 hown hC hH hla hlf rfl 0 (by decide) (hts _ q176) (fun x9 h9 => u_same (hts _ q175) x9 h9) rfl (by decide +kernel) rfl rfl (Nat.le_of_ble_eq_true rfl) dJ8_add_7 (fun f25 H locs hu25 hfr25 hH => ?_)
  have hx26 : f25 la = .inr (4, [.int (md + 1), .ref ea, .int (nI xs.length)]) := hu25
  refine lv_aload_n hx hb dJ8_add_10 rfl (lv_at hl 0 rfl) ?_
  refine lv_aload_n hx hb dJ8_add_11 rfl (lv_at hl 1 rfl) ?_
  refine lv_aload_n hx hb dJ8_add_12 rfl (lv_at hl 0 rfl) ?_
  refine rh_get (ci := 4) (C := RJ8) (T := TJ8) (N := 3) hx hb hts in_J8 hown hC hH hla hx26 rfl 1 (by decide) (hts _ q169) (fun _ h9 => h9) rfl dJ8_add_13 ?_
  refine lv_aload_n hx hb dJ8_add_16 rfl (lv_at hl 0 rfl) ?_
  refine rh_get (ci := 4) (C := RJ8) (T := TJ8) (N := 3) hx hb hts in_J8 hown hC hH hla hx26 rfl 2 (by decide) (hts _ q172) (fun _ h9 => h9) rfl dJ8_add_17 ?_
  have hel1 : rhEl D Z L f25 ea xs := hel.fr (fun _ h9 => h9) (fun h9 => hfr25 ea (fun z => ea_ne hC hH hla hlf hel z.symm)) (fun b hb9 k9 e9 => hfr25 b (rh_ne e9 hlf (by nofun)))
  have hk1 : rhLg Z L f25 x k := hk.fr (fun _ h9 => h9) (fun b hb9 e9 => hfr25 b (rh_ne e9 hlf (by nofun)))
  refine rh_kv hC hH (va_runV (As := [.ref x, .ref ea, .int (nI xs.length)]) (rest := []) ⟨hx, hb, hml, hown, hts⟩ (met_add2 l D Z L f25 la ea (md + 1) xs hla hx26 x k hel1 hn hk1) (cwV 3 hts (lw_V q302 q304 qs1 q20 q305) rfl rfl rfl (by decide +kernel) ⟨Nat.le_of_ble_eq_true rfl, Nat.le_of_ble_eq_true rfl⟩) (rh_preV hC hH [.ref x, .ref ea, .int (nI xs.length)] (rh_recv hC hH hla hx26 (q := (RJ8, TJ8, 3)) rfl)) rfl rfl hl.1 rfl (lv_room (Nat.le_of_ble_eq_true rfl)) dJ8_add_20 ⟨Nat.le_of_ble_eq_true rfl, Nat.le_of_ble_eq_true rfl⟩) (fun L27 f27 H locs hp27 hH => ?_)
  obtain ⟨ea', g1, g2, g3, g4, g5⟩ := hp27
  refine lv_iconst (v := 1) hx hb dJ8_add_23 (by decide) ?_
  exact rh_zret hx hb hr (by decide) hlocks hC hH (Nat.le_of_ble_eq_true rfl) (Nat.le_of_ble_eq_true rfl) (⟨rfl, ea', g1, g2, g3, g4, fun b hb9 h9 h8 => (g5 b hb9 h9 h8).trans (hfr25 b h9)⟩) dJ8_add_24
end
section
/-! ArrayList: removing, clearing, the iterator (printed by tools/p10.py) -/
set_option maxHeartbeats 4000000 in
set_option maxRecDepth 100000 in
theorem met_preIndex (l : Launch) (D : va_G) (Z : Nat → Nat) (L : List Nat) (f : Nat → va_E) (i n : Nat) (hi : i < n) (hn : n < 2 ^ 31) : Met l yJ14_checkIndex (ws_ yJ14_checkIndex cJ14_checkIndex 3 (some .int)) ({ frames := 0, cells := 0, slots := 0, locals := 0 }) (rhPc D Z L f [.int (nI i), .int (nI n), .null]) (rhQi D Z (fun r L' f' => nI i = r ∧ L = L' ∧ f = f')) 0 0 (rhA Z) := by
  refine rh_ofW (by decide +kernel) (Nat.le_of_ble_eq_true rfl) ?_
  intro p e s m args below meth c hx hb hr hlocks hml hown hin hts hC hH ls hl
  have hown : s.vm.findClass RJ14 = some m.cls := hown
  have hl : lv_has ls 3 [(0, .int (nI i)), (1, .int (nI n)), (2, .null)] := hl
  refine lv_iload_n hx hb dJ14_checkIndex_0 rfl (lv_at hl 0 rfl) ?_
  refine lv_if_lt (tgt := 9) hx hb dJ14_checkIndex_1 (by decide) (fun c_1 => absurd c_1 (nI_pos (by omega))) (fun _ => ?_)
  refine lv_iload_n hx hb dJ14_checkIndex_4 rfl (lv_at hl 0 rfl) ?_
  refine lv_iload_n hx hb dJ14_checkIndex_5 rfl (lv_at hl 1 rfl) ?_
  refine lv_icmp_lt (tgt := 16) hx hb dJ14_checkIndex_6 (by decide) (fun _ => ?_) (fun c_1 => absurd (nI_lt hi hn) c_1)
  refine lv_iload_n hx hb dJ14_checkIndex_16 rfl (lv_at hl 0 rfl) ?_
  exact rh_iret hx hb hr hlocks hC hH (Nat.le_of_ble_eq_true rfl) (Nat.le_of_ble_eq_true rfl) (⟨rfl, rfl, rfl⟩) dJ14_checkIndex_17

set_option maxHeartbeats 4000000 in
set_option maxRecDepth 100000 in
theorem met_checkIndex (l : Launch) (D : va_G) (Z : Nat → Nat) (L : List Nat) (f : Nat → va_E) (i n : Nat) (hi : i < n) (hn : n < 2 ^ 31) : Met l yJ13_checkIndex (ws_ yJ13_checkIndex cJ13_checkIndex 2 (some .int)) ({ frames := 1, cells := 0, slots := 0, locals := 24 }) (rhPc D Z L f [.int (nI i), .int (nI n)]) (rhQi D Z (fun r L' f' => nI i = r ∧ L = L' ∧ f = f')) 0 0 (rhA Z) := by
  refine rh_ofW (by decide +kernel) (Nat.le_of_ble_eq_true rfl) ?_
  intro p e s m args below meth c hx hb hr hlocks hml hown hin hts hC hH ls hl
  have hown : s.vm.findClass RJ13 = some m.cls := hown
  have hl : lv_has ls 2 [(0, .int (nI i)), (1, .int (nI n))] := hl
  refine lv_iload_n hx hb dJ13_checkIndex_0 rfl (lv_at hl 0 rfl) ?_
  refine lv_iload_n hx hb dJ13_checkIndex_1 rfl (lv_at hl 1 rfl) ?_
  refine lv_null hx hb dJ13_checkIndex_2 ?_
  refine rh_ki hC hH (va_runS (As := [.int (nI i), .int (nI n), .null]) (rest := []) ⟨hx, hb, hml, hown, hts⟩ (met_preIndex l D Z L f i n hi hn) (va_cwS 3 hts (lw_S q425 q426 q30 q427) rfl rfl rfl (by decide +kernel) ⟨Nat.le_of_ble_eq_true rfl, Nat.le_of_ble_eq_true rfl⟩) (rh_preS hC hH [.int (nI i), .int (nI n), .null]) rfl rfl hl.1 rfl (lv_room (Nat.le_of_ble_eq_true rfl)) dJ13_checkIndex_3 ⟨Nat.le_of_ble_eq_true rfl, Nat.le_of_ble_eq_true rfl⟩) (fun r1 L1 f1 H locs hp1 hH => ?_)
  obtain ⟨rfl, rfl, rfl⟩ := hp1
  exact rh_iret hx hb hr hlocks hC hH (Nat.le_of_ble_eq_true rfl) (Nat.le_of_ble_eq_true rfl) (⟨rfl, rfl, rfl⟩) dJ13_checkIndex_6

theorem rm_el {F G : Nat → Option Nat} {xs : List (Nat × Nat)} {i : Nat} (hi : i < xs.length) (hF : ∀ j : Nat, j < xs.length → F j = (xs[j]?).map (·.1)) (hG : ∀ j : Nat, j < xs.length - 1 → G j = if j < i then F j else F (j + 1)) : ∀ j : Nat, j < (xs.eraseIdx i).length → G j = ((xs.eraseIdx i)[j]?).map (·.1) := by
  intro j hj
  rw [List.length_eraseIdx, if_pos hi] at hj
  rw [hG j hj, List.getElem?_eraseIdx]
  by_cases h : j < i
  · rw [if_pos h, if_pos h]; exact hF j (by omega)
  · rw [if_neg h, if_neg h]; exact hF (j + 1) (by omega)
theorem rm_cp {F : Nat → Option Nat} {i n j : Nat} (hj : j < n - 1) (hi : i < n) (hn : n < 2 ^ 31) : va_cpy F F (nI (i + 1)).toNatClampNeg (nI i).toNatClampNeg (nI (n - 1 - i)).toNatClampNeg j = if j < i then F j else F (j + 1) := by
  by_cases h : j < i
  · rw [if_pos h]
    exact pk_cpy_out (Or.inl (by rw [nI_clamp (by omega)]; exact h))
  · rw [if_neg h, nI_clamp (show n - 1 - i < 2 ^ 31 by omega)]
    rw [nI_clamp (show i < 2 ^ 31 by omega), nI_clamp (show i + 1 < 2 ^ 31 by omega), pk_cpy_in (by omega) (by omega)]
    congr 1; omega
set_option maxHeartbeats 4000000 in
set_option maxRecDepth 100000 in
theorem met_fastRemove (l : Launch) (D : va_G) (Z : Nat → Nat) (L : List Nat) (f : Nat → va_E) (la ea : Nat) (md : Int32) (xs : List (Nat × Nat)) (hla : la ∈ L) (hlf : f la = eAL md ea (nI xs.length)) (i cap : Nat) (F : Nat → Option Nat) (hi : i < xs.length) (hxs : ∀ x ∈ xs, rhLg Z L f x.1 x.2) (hea : ea ∈ L) (hef : f ea = eRefs (D.1 100) cap F) (hc1 : xs.length ≤ cap) (hc10 : 10 ≤ cap) (hc96 : cap ≤ 96) (hF : ∀ j : Nat, j < xs.length → F j = (xs[j]?).map (·.1)) : Met l yJ8_fastRemove (ws_ yJ8_fastRemove cJ8_fastRemove 4 (none)) ({ frames := 1, cells := 0, slots := 0, locals := 40 }) (rhPc D Z L f [.ref la, .ref ea, .int (nI i)]) (rhQv D Z (fun  L' f' => L = L' ∧ f' la = eAL (md + 1) ea (nI (xs.length - 1)) ∧ rhEl D Z L f' ea (xs.eraseIdx i) ∧ (∀ b ∈ L, b ≠ la → b ≠ ea → f' b = f b))) 0 0 (rhA Z) := by
  refine rh_ofW (by decide +kernel) (Nat.le_of_ble_eq_true rfl) ?_
  intro p e s m args below meth c hx hb hr hlocks hml hown hin hts hC hH ls hl
  have hown : s.vm.findClass RJ8 = some m.cls := hown
  have hl : lv_has ls 4 [(0, .ref la), (1, .ref ea), (2, .int (nI i))] := hl
  refine lv_aload_n hx hb dJ8_fastRemove_0 rfl (lv_at hl 0 rfl) ?_
  refine lv_dup hx hb dJ8_fastRemove_1 rfl ?_
  refine rh_get (ci := 4) (C := RJ8) (T := TJ8) (N := 3) hx hb hts in_J8 hown hC hH hla hlf rfl 0 (by decide) (hts _ q176) (fun x9 h9 => u_same (hts _ q175) x9 h9) rfl dJ8_fastRemove_2 ?_
  refine lv_iconst (v := 1) hx hb dJ8_fastRemove_5 (by decide) ?_
  refine lv_iadd hx hb dJ8_fastRemove_6 ?_
  refine rh_put (ci := 4) (v := .int (md + 1)) (ty := .int) (C := RJ8) (T := TJ8) (N := 3) hx hb hts in_J8 tyJ8 tyJ8_ok nmJ8 hown hC hH hla hlf rfl 0 (by decide) (hts _ q176) (fun x9 h9 => u_same (hts _ q175) x9 h9) rfl (by decide +kernel) rfl rfl (Nat.le_of_ble_eq_true rfl) dJ8_fastRemove_7 (fun f2 H locs hu2 hfr2 hH => ?_)
  have hx3 : f2 ea = eRefs (D.1 100) cap F := (hfr2 ea (rh_ne hef hlf (by nofun))).trans hef
  have hx4 : f2 la = .inr (4, [.int (md + 1), .ref ea, .int (nI xs.length)]) := hu2
  refine lv_aload_n hx hb dJ8_fastRemove_10 rfl (lv_at hl 0 rfl) ?_
  refine rh_get (ci := 4) (C := RJ8) (T := TJ8) (N := 3) hx hb hts in_J8 hown hC hH hla hx4 rfl 2 (by decide) (hts _ q172) (fun _ h9 => h9) rfl dJ8_fastRemove_11 ?_
  refine lv_iconst (v := 1) hx hb dJ8_fastRemove_14 (by decide) ?_
  refine lv_isub hx hb dJ8_fastRemove_15 ?_
  refine lv_topi (fun y ey => ?_)
  obtain rfl : y = nI (xs.length - 1) := ey.trans (pk_sub (b := 1) (by omega))
  refine lv_dup hx hb dJ8_fastRemove_16 rfl ?_
  refine lv_istore_n (lv' := [(3, .int (nI (xs.length - 1))), (0, .ref la), (1, .ref ea), (2, .int (nI i))]) hx hb dJ8_fastRemove_17 rfl hl (by decide) rfl (fun ls hl => ?_)
  refine lv_iload_n hx hb dJ8_fastRemove_18 rfl (lv_at hl 3 rfl) ?_
  refine lv_icmp_le (tgt := 34) hx hb dJ8_fastRemove_19 (by decide) (fun c_1 => ?_) (fun c_1 => ?_)
  · have hlast : xs.length - 1 ≤ i := (nI_leI (by omega) (by omega)).mp c_1
    refine lv_aload_n hx hb dJ8_fastRemove_34 rfl (lv_at hl 2 rfl) ?_
    refine lv_aload_n hx hb dJ8_fastRemove_35 rfl (lv_at hl 1 rfl) ?_
    refine lv_iload_n hx hb dJ8_fastRemove_36 rfl (lv_at hl 0 rfl) ?_
    refine lv_dup_x1 hx hb dJ8_fastRemove_37 rfl rfl ?_
    refine rh_put (ci := 4) (v := .int (nI (xs.length - 1))) (ty := .int) (C := RJ8) (T := TJ8) (N := 3) hx hb hts in_J8 tyJ8 tyJ8_ok nmJ8 hown hC hH hla hx4 rfl 2 (by decide) (hts _ q172) (fun _ h9 => h9) rfl (by decide +kernel) rfl rfl (Nat.le_of_ble_eq_true rfl) dJ8_fastRemove_38 (fun f5 H locs hu5 hfr5 hH => ?_)
    have hx6 : f5 ea = eRefs (D.1 100) cap F := (hfr5 ea (rh_ne hx3 hx4 (by nofun))).trans hx3
    have hx7 : f5 la = .inr (4, [.int (md + 1), .ref ea, .int (nI (xs.length - 1))]) := hu5
    refine lv_null hx hb dJ8_fastRemove_41 ?_
    refine rh_aastN (t0 := 0) hx hb hC hH hea hx6 rfl (vp_in_nI (show xs.length - 1 < cap by omega) (by omega)) dJ8_fastRemove_42 (fun f8 H locs hu8 hfr8 hH => ?_)
    rw [nI_clamp (show xs.length - 1 < 2 ^ 31 by omega)] at hu8
    have hx9 : f8 la = .inr (4, [.int (md + 1), .ref ea, .int (nI (xs.length - 1))]) := (hfr8 la (rh_ne hx7 hx6 (by nofun))).trans hx7
    have hx10 : f8 ea = eRefs (D.1 100) cap (va_up (F) (xs.length - 1) none) := hu8
    have hfin : ∀ b ∈ L, b ≠ la → b ≠ ea → f8 b = f b := fun b hb9 h9 h8 => (((hfr8 b h8)).trans (hfr5 b h9)).trans (hfr2 b h9)
    have hlg : ∀ b ∈ L, ∀ k : Nat, f b = eLong k → f8 b = f b := fun b hb9 k9 e9 => hfin b hb9 (rh_ne e9 hlf (by nofun)) (rh_ne e9 hef (by nofun))
    have hle : (xs.eraseIdx i).length = xs.length - 1 := by rw [List.length_eraseIdx, if_pos hi]
    exact rh_vret hx hb hr hlocks hC hH (Nat.le_of_ble_eq_true rfl) (Nat.le_of_ble_eq_true rfl) (⟨rfl, hx9, ⟨fun z hz => (hxs z (List.mem_of_mem_eraseIdx hz)).fr (fun _ h9 => h9) (fun b hb9 => hlg b hb9 _), Or.inr ⟨hea, cap, _, hx10, by omega, hc10, hc96, rm_el hi hF (fun j hj => (va_up_ne _ _ (by omega)).trans (by rw [if_pos (by omega)]))⟩⟩, hfin⟩) dJ8_fastRemove_43
  · have hlast : i < xs.length - 1 := by
      rcases Nat.lt_or_ge i (xs.length - 1) with q | q
      · exact q
      · exact absurd (nI_le q (by omega)) c_1
    refine lv_aload_n hx hb dJ8_fastRemove_22 rfl (lv_at hl 2 rfl) ?_
    refine lv_iload_n hx hb dJ8_fastRemove_23 rfl (lv_at hl 3 rfl) ?_
    refine lv_iconst (v := 1) hx hb dJ8_fastRemove_24 (by decide) ?_
    refine lv_iadd hx hb dJ8_fastRemove_25 ?_
    refine lv_topi (fun y ey => ?_)
    obtain rfl : y = nI (i + 1) := ey.trans (nI_1 _)
    refine lv_aload_n hx hb dJ8_fastRemove_26 rfl (lv_at hl 2 rfl) ?_
    refine lv_iload_n hx hb dJ8_fastRemove_27 rfl (lv_at hl 3 rfl) ?_
    refine lv_iload_n hx hb dJ8_fastRemove_28 rfl (lv_at hl 0 rfl) ?_
    refine lv_iload_n hx hb dJ8_fastRemove_29 rfl (lv_at hl 3 rfl) ?_
    refine lv_isub hx hb dJ8_fastRemove_30 ?_
    refine lv_topi (fun y ey => ?_)
    obtain rfl : y = nI (xs.length - 1 - i) := ey.trans (pk_sub (by omega))
    obtain ⟨k0, hk0⟩ := rh_pl (f := f2) hea
    have hk1 := hk0
    rw [hx3] at hk0
    refine va_copyM (D := D) (A := rhA Z) hx hb (by rw [hml]; exact hl.1.symm) hown (hts _ q432) (hts _ q348) (hts _ q347) (hts _ q27) hC.2 hH.1 hH.2.1 hH.2.2 k0 k0 0 0 hk0 hk0 rfl rfl (nI_pos (by omega)) (nI_pos (by omega)) (nI_pos (by omega)) (by rw [nI_clamp (show i + 1 < 2 ^ 31 by omega), nI_clamp (show xs.length - 1 - i < 2 ^ 31 by omega)]; omega) (by rw [nI_clamp (show i < 2 ^ 31 by omega), nI_clamp (show xs.length - 1 - i < 2 ^ 31 by omega)]; omega) (fun j hj y hy => ?_) (Nat.le_of_ble_eq_true rfl) (Nat.le_of_ble_eq_true rfl) dJ8_fastRemove_31 (fun H locs hP1 hD1 hS1 => ?_)
    · rw [nI_clamp (show xs.length - 1 - i < 2 ^ 31 by omega)] at hj
      rw [nI_clamp (show i + 1 < 2 ^ 31 by omega)] at hy
      obtain ⟨y2, k2, g1, g2⟩ := el_get hxs hF (i := i + 1 + j) (by omega)
      cases g1.symm.trans hy
      exact rh_anyL hC hH (g2.fr (fun _ h9 => h9) (fun b hb9 e9 => hfr2 b (rh_ne e9 hlf (by nofun))))
    · rw [rh_plset hH.2.1 hea hk1] at hP1 hD1
      obtain ⟨f11, ef11⟩ : ∃ z, z = va_up f2 ea (eRefs (D.1 100) cap (va_cpy F F (nI (i + 1)).toNatClampNeg (nI i).toNatClampNeg (nI (xs.length - 1 - i)).toNatClampNeg)) := ⟨_, rfl⟩
      rw [← ef11] at hP1 hD1
      have hH : rhHp D Z L f11 s H locs := ⟨hP1, hD1, hS1⟩
      have hu11 : f11 ea = eRefs (D.1 100) cap (va_cpy F F (nI (i + 1)).toNatClampNeg (nI i).toNatClampNeg (nI (xs.length - 1 - i)).toNatClampNeg) := by rw [ef11]; exact va_up_self _ _ _
      have hfr11 : ∀ b : Nat, b ≠ ea → f11 b = f2 b := fun b h => by rw [ef11]; exact va_up_ne _ _ h
      have hx12 : f11 la = .inr (4, [.int (md + 1), .ref ea, .int (nI xs.length)]) := (hfr11 la (rh_ne hx4 hx3 (by nofun))).trans hx4
      have hx13 : f11 ea = eRefs (D.1 100) cap (va_cpy F F (nI (i + 1)).toNatClampNeg (nI i).toNatClampNeg (nI (xs.length - 1 - i)).toNatClampNeg) := hu11
      refine lv_aload_n hx hb dJ8_fastRemove_34 rfl (lv_at hl 2 rfl) ?_
      refine lv_aload_n hx hb dJ8_fastRemove_35 rfl (lv_at hl 1 rfl) ?_
      refine lv_iload_n hx hb dJ8_fastRemove_36 rfl (lv_at hl 0 rfl) ?_
      refine lv_dup_x1 hx hb dJ8_fastRemove_37 rfl rfl ?_
      refine rh_put (ci := 4) (v := .int (nI (xs.length - 1))) (ty := .int) (C := RJ8) (T := TJ8) (N := 3) hx hb hts in_J8 tyJ8 tyJ8_ok nmJ8 hown hC hH hla hx12 rfl 2 (by decide) (hts _ q172) (fun _ h9 => h9) rfl (by decide +kernel) rfl rfl (Nat.le_of_ble_eq_true rfl) dJ8_fastRemove_38 (fun f14 H locs hu14 hfr14 hH => ?_)
      have hx15 : f14 ea = eRefs (D.1 100) cap (va_cpy F F (nI (i + 1)).toNatClampNeg (nI i).toNatClampNeg (nI (xs.length - 1 - i)).toNatClampNeg) := (hfr14 ea (rh_ne hx13 hx12 (by nofun))).trans hx13
      have hx16 : f14 la = .inr (4, [.int (md + 1), .ref ea, .int (nI (xs.length - 1))]) := hu14
      refine lv_null hx hb dJ8_fastRemove_41 ?_
      refine rh_aastN (t0 := 0) hx hb hC hH hea hx15 rfl (vp_in_nI (show xs.length - 1 < cap by omega) (by omega)) dJ8_fastRemove_42 (fun f17 H locs hu17 hfr17 hH => ?_)
      rw [nI_clamp (show xs.length - 1 < 2 ^ 31 by omega)] at hu17
      have hx18 : f17 la = .inr (4, [.int (md + 1), .ref ea, .int (nI (xs.length - 1))]) := (hfr17 la (rh_ne hx16 hx15 (by nofun))).trans hx16
      have hx19 : f17 ea = eRefs (D.1 100) cap (va_up ((va_cpy F F (nI (i + 1)).toNatClampNeg (nI i).toNatClampNeg (nI (xs.length - 1 - i)).toNatClampNeg)) (xs.length - 1) none) := hu17
      have hfin : ∀ b ∈ L, b ≠ la → b ≠ ea → f17 b = f b := fun b hb9 h9 h8 => ((((hfr17 b h8)).trans (hfr14 b h9)).trans (hfr11 b h8)).trans (hfr2 b h9)
      have hlg : ∀ b ∈ L, ∀ k : Nat, f b = eLong k → f17 b = f b := fun b hb9 k9 e9 => hfin b hb9 (rh_ne e9 hlf (by nofun)) (rh_ne e9 hef (by nofun))
      have hle : (xs.eraseIdx i).length = xs.length - 1 := by rw [List.length_eraseIdx, if_pos hi]
      exact rh_vret hx hb hr hlocks hC hH (Nat.le_of_ble_eq_true rfl) (Nat.le_of_ble_eq_true rfl) (⟨rfl, hx18, ⟨fun z hz => (hxs z (List.mem_of_mem_eraseIdx hz)).fr (fun _ h9 => h9) (fun b hb9 => hlg b hb9 _), Or.inr ⟨hea, cap, _, hx19, by omega, hc10, hc96, rm_el hi hF (fun j hj => (va_up_ne _ _ (by omega)).trans (rm_cp (by omega) hi (by omega)))⟩⟩, hfin⟩) dJ8_fastRemove_43

set_option maxHeartbeats 4000000 in
set_option maxRecDepth 100000 in
theorem met_remove (l : Launch) (D : va_G) (Z : Nat → Nat) (L : List Nat) (f : Nat → va_E) (la ea : Nat) (md : Int32) (xs : List (Nat × Nat)) (hla : la ∈ L) (hlf : f la = eAL md ea (nI xs.length)) (i cap : Nat) (F : Nat → Option Nat) (hi : i < xs.length) (hxs : ∀ x ∈ xs, rhLg Z L f x.1 x.2) (hea : ea ∈ L) (hef : f ea = eRefs (D.1 100) cap F) (hc1 : xs.length ≤ cap) (hc10 : 10 ≤ cap) (hc96 : cap ≤ 96) (hF : ∀ j : Nat, j < xs.length → F j = (xs[j]?).map (·.1)) : Met l yJ8_remove (ws_ yJ8_remove cJ8_remove 4 (some (.object "java/lang/Object"))) ({ frames := 2, cells := 0, slots := 0, locals := 63 }) (rhPc D Z L f [.ref la, .int (nI i)]) (rhQr D Z (fun _ L' f' => L = L' ∧ f' la = eAL (md + 1) ea (nI (xs.length - 1)) ∧ rhEl D Z L f' ea (xs.eraseIdx i) ∧ (∀ b ∈ L, b ≠ la → b ≠ ea → f' b = f b))) 0 0 (rhA Z) := by
  refine rh_ofW (by decide +kernel) (Nat.le_of_ble_eq_true rfl) ?_
  intro p e s m args below meth c hx hb hr hlocks hml hown hin hts hC hH ls hl
  have hown : s.vm.findClass RJ8 = some m.cls := hown
  have hl : lv_has ls 4 [(0, .ref la), (1, .int (nI i))] := hl
  refine lv_iload_n hx hb dJ8_remove_0 rfl (lv_at hl 1 rfl) ?_
  refine lv_aload_n hx hb dJ8_remove_1 rfl (lv_at hl 0 rfl) ?_
  refine rh_get (ci := 4) (C := RJ8) (T := TJ8) (N := 3) hx hb hts in_J8 hown hC hH hla hlf rfl 2 (by decide) (hts _ q172) (fun _ h9 => h9) rfl dJ8_remove_2 ?_
  refine rh_ki hC hH (va_runS (As := [.int (nI i), .int (nI xs.length)]) (rest := []) ⟨hx, hb, hml, hown, hts⟩ (met_checkIndex l D Z L f i xs.length hi (by omega)) (va_cwS 2 hts (lw_S q422 q423 q29 q424) rfl rfl rfl (by decide +kernel) ⟨Nat.le_of_ble_eq_true rfl, Nat.le_of_ble_eq_true rfl⟩) (rh_preS hC hH [.int (nI i), .int (nI xs.length)]) rfl rfl hl.1 rfl (lv_room (Nat.le_of_ble_eq_true rfl)) dJ8_remove_5 ⟨Nat.le_of_ble_eq_true rfl, Nat.le_of_ble_eq_true rfl⟩) (fun r20 L20 f20 H locs hp20 hH => ?_)
  obtain ⟨rfl, rfl, rfl⟩ := hp20
  refine lv_pop hx hb dJ8_remove_8 rfl ?_
  refine lv_aload_n hx hb dJ8_remove_9 rfl (lv_at hl 0 rfl) ?_
  refine rh_get (ci := 4) (C := RJ8) (T := TJ8) (N := 3) hx hb hts in_J8 hown hC hH hla hlf rfl 1 (by decide) (hts _ q169) (fun _ h9 => h9) rfl dJ8_remove_10 ?_
  refine lv_astore_n (lv' := [(2, .ref ea), (0, .ref la), (1, .int (nI i))]) hx hb dJ8_remove_13 rfl hl (by decide) rfl (fun ls hl => ?_)
  refine lv_aload_n hx hb dJ8_remove_14 rfl (lv_at hl 0 rfl) ?_
  refine lv_iload_n hx hb dJ8_remove_15 rfl (lv_at hl 2 rfl) ?_
  obtain ⟨y, k1, g1, g2⟩ := el_get hxs hF hi
  refine rh_aald (t0 := 0) hx hb hC hH hea hef rfl (vp_in_nI (show i < cap by omega) (by omega)) dJ8_remove_16 ?_
  rw [nI_clamp (show i < 2 ^ 31 by omega), rf_some g1]
  refine lv_astore_n (lv' := [(3, .ref y), (2, .ref ea), (0, .ref la), (1, .int (nI i))]) hx hb dJ8_remove_17 rfl hl (by decide) rfl (fun ls hl => ?_)
  refine lv_aload_n hx hb dJ8_remove_18 rfl (lv_at hl 2 rfl) ?_
  refine lv_aload_n hx hb dJ8_remove_19 rfl (lv_at hl 1 rfl) ?_
  refine lv_iload_n hx hb dJ8_remove_20 rfl (lv_at hl 3 rfl) ?_
  refine rh_kv hC hH (va_runV (As := [.ref ea, .int (nI i)]) (rest := []) ⟨hx, hb, hml, hown, hts⟩ (met_fastRemove l D Z L f la ea md xs hla hlf i cap F hi hxs hea hef hc1 hc10 hc96 hF) (cwV 2 hts (lw_V q428 q430 qs4 q20 q431) rfl rfl rfl (by decide +kernel) ⟨Nat.le_of_ble_eq_true rfl, Nat.le_of_ble_eq_true rfl⟩) (rh_preV hC hH [.ref ea, .int (nI i)] (rh_recv hC hH hla hlf (q := (RJ8, TJ8, 3)) rfl)) rfl rfl hl.1 rfl (lv_room (Nat.le_of_ble_eq_true rfl)) dJ8_remove_21 ⟨Nat.le_of_ble_eq_true rfl, Nat.le_of_ble_eq_true rfl⟩) (fun L21 f21 H locs hp21 hH => ?_)
  refine lv_aload_n hx hb dJ8_remove_24 rfl (lv_at hl 0 rfl) ?_
  exact rh_aret hx hb hr (Or.inl ⟨_, rfl⟩) hlocks hC hH (Nat.le_of_ble_eq_true rfl) (Nat.le_of_ble_eq_true rfl) (hp21) dJ8_remove_25

set_option maxHeartbeats 4000000 in
set_option maxRecDepth 100000 in
theorem clear_loop {p : Program} {l : Launch} {e : Env} {R : Room} {s : State} {m : MethodId} {args : Array Value} {below : List Frame} {meth : Method} {c : Code} {D : va_G} {Z : Nat → Nat} {L : List Nat} {f : Nat → va_E} {la ea cap : Nat} {md : Int32} {n0 : Int32} {F : Nat → Option Nat} (n : Nat) (hx : p.tables.exec = Jvm.exec) (hb : c.code = cJ8_clear) (hr : meth.sig.returnType = none) (hlocks : meth.locks = false) (hC : rhCx D Z s) (hla : la ∈ L) (hlf : f la = eAL md ea n0) (hea : ea ∈ L) (hef : f ea = eRefs (D.1 100) cap F) (hc1 : n ≤ cap) (hc10 : 10 ≤ cap) (hc96 : cap ≤ 96) :
    ∀ (d i : Nat), i ≤ n → n + 1 ≤ i + d → ∀ (f1 : Nat → va_E) (F1 : Nat → Option Nat) (H : Heap) (locs : List Loc), f1 la = .inr (4, [.int (md + 1), .ref ea, .int 0]) → f1 ea = eRefs (D.1 100) cap F1 → (∀ b ∈ L, b ≠ la → b ≠ ea → f1 b = f b) → rhHp D Z L f1 s H locs → ∀ (ls : Array Slot), lv_has ls 4 [(0, .ref la), (1, .ref ea), (2, .int (nI n)), (3, .int (nI i))] → W p l e R s m args below meth c H locs 0 0 (MQ below (rhQv D Z (fun L' f' => L = L' ∧ f' la = eAL (md + 1) ea 0 ∧ rhEl D Z L f' ea [] ∧ (∀ b ∈ L, b ≠ la → b ≠ ea → f' b = f b))) args s 0 0 (rhA Z)) (F0 m 27 ls []) := by
  intro d
  induction d with
  | zero => intro i h1 h2; omega
  | succ d ih =>
    intro i hi hid f1 F1 H locs hlf1 hef1 hfin hH ls hl
    refine lv_iload_n hx hb dJ8_clear_27 rfl (lv_at hl 3 rfl) ?_
    refine lv_iload_n hx hb dJ8_clear_28 rfl (lv_at hl 2 rfl) ?_
    refine lv_icmp_ge (tgt := 42) hx hb dJ8_clear_29 (by decide) (fun c_1 => ?_) (fun c_1 => ?_)
    · exact rh_vret hx hb hr hlocks hC hH (Nat.le_of_ble_eq_true rfl) (Nat.le_of_ble_eq_true rfl) (⟨rfl, hlf1, ⟨fun _ h9 => absurd h9 List.not_mem_nil, Or.inr ⟨hea, cap, F1, hef1, Nat.zero_le _, hc10, hc96, fun j hj => absurd hj (Nat.not_lt_zero j)⟩⟩, hfin⟩) dJ8_clear_42
    · have hlt : i < n := by
        rcases Nat.lt_or_ge i n with q | q
        · exact q
        · exact absurd (nI_le q (by omega)) c_1
      refine lv_aload_n hx hb dJ8_clear_32 rfl (lv_at hl 1 rfl) ?_
      refine lv_iload_n hx hb dJ8_clear_33 rfl (lv_at hl 3 rfl) ?_
      refine lv_null hx hb dJ8_clear_34 ?_
      refine rh_aastN (t0 := 0) hx hb hC hH hea hef1 rfl (vp_in_nI (show i < cap by omega) (by omega)) dJ8_clear_35 (fun f28 H locs hu28 hfr28 hH => ?_)
      refine lv_iinc (v := nI (i + 1)) (lv' := [(3, .int (nI (i + 1))), (0, .ref la), (1, .ref ea), (2, .int (nI n))]) hx hb dJ8_clear_36 hl (k := 3) rfl (nI_1 i) (by decide) rfl (fun ls hl => ?_)
      refine lv_goto (tgt := 27) hx hb dJ8_clear_39 (by decide) ?_
      exact ih (i + 1) hlt (by omega) f28 _ H locs ((hfr28 la (rh_ne hlf1 hef1 (by nofun))).trans hlf1) hu28 (fun b hb9 h9 h8 => (hfr28 b h8).trans (hfin b hb9 h9 h8)) hH ls (lv_sub hl [1, 2, 3, 0] rfl)

set_option maxHeartbeats 4000000 in
set_option maxRecDepth 100000 in
theorem met_clear (l : Launch) (D : va_G) (Z : Nat → Nat) (L : List Nat) (f : Nat → va_E) (la ea : Nat) (md : Int32) (xs : List (Nat × Nat)) (hla : la ∈ L) (hlf : f la = eAL md ea (nI xs.length)) (cap : Nat) (F : Nat → Option Nat) (hxs : ∀ x ∈ xs, rhLg Z L f x.1 x.2) (hea : ea ∈ L) (hef : f ea = eRefs (D.1 100) cap F) (hc1 : xs.length ≤ cap) (hc10 : 10 ≤ cap) (hc96 : cap ≤ 96) (hF : ∀ j : Nat, j < xs.length → F j = (xs[j]?).map (·.1)) : Met l yJ8_clear (ws_ yJ8_clear cJ8_clear 4 (none)) ({ frames := 0, cells := 0, slots := 0, locals := 0 }) (rhPc D Z L f [.ref la]) (rhQv D Z (fun L' f' => L = L' ∧ f' la = eAL (md + 1) ea 0 ∧ rhEl D Z L f' ea [] ∧ (∀ b ∈ L, b ≠ la → b ≠ ea → f' b = f b))) 0 0 (rhA Z) := by
  refine rh_ofW (by decide +kernel) (Nat.le_of_ble_eq_true rfl) ?_
  intro p e s m args below meth c hx hb hr hlocks hml hown hin hts hC hH ls hl
  have hown : s.vm.findClass RJ8 = some m.cls := hown
  have hl : lv_has ls 4 [(0, .ref la)] := hl
  refine lv_aload_n hx hb dJ8_clear_0 rfl (lv_at hl 0 rfl) ?_
  refine lv_dup hx hb dJ8_clear_1 rfl ?_
  refine rh_get (ci := 4) (C := RJ8) (T := TJ8) (N := 3) hx hb hts in_J8 hown hC hH hla hlf rfl 0 (by decide) (hts _ q176) (fun x9 h9 => u_same (hts _ q175) x9 h9) rfl dJ8_clear_2 ?_
  refine lv_iconst (v := 1) hx hb dJ8_clear_5 (by decide) ?_
  refine lv_iadd hx hb dJ8_clear_6 ?_
  refine rh_put (ci := 4) (v := .int (md + 1)) (ty := .int) (C := RJ8) (T := TJ8) (N := 3) hx hb hts in_J8 tyJ8 tyJ8_ok nmJ8 hown hC hH hla hlf rfl 0 (by decide) (hts _ q176) (fun x9 h9 => u_same (hts _ q175) x9 h9) rfl (by decide +kernel) rfl rfl (Nat.le_of_ble_eq_true rfl) dJ8_clear_7 (fun f22 H locs hu22 hfr22 hH => ?_)
  have hx23 : f22 ea = eRefs (D.1 100) cap F := (hfr22 ea (rh_ne hef hlf (by nofun))).trans hef
  have hx24 : f22 la = .inr (4, [.int (md + 1), .ref ea, .int (nI xs.length)]) := hu22
  refine lv_aload_n hx hb dJ8_clear_10 rfl (lv_at hl 0 rfl) ?_
  refine rh_get (ci := 4) (C := RJ8) (T := TJ8) (N := 3) hx hb hts in_J8 hown hC hH hla hx24 rfl 1 (by decide) (hts _ q169) (fun _ h9 => h9) rfl dJ8_clear_11 ?_
  refine lv_astore_n (lv' := [(1, .ref ea), (0, .ref la)]) hx hb dJ8_clear_14 rfl hl (by decide) rfl (fun ls hl => ?_)
  refine lv_aload_n hx hb dJ8_clear_15 rfl (lv_at hl 1 rfl) ?_
  refine rh_get (ci := 4) (C := RJ8) (T := TJ8) (N := 3) hx hb hts in_J8 hown hC hH hla hx24 rfl 2 (by decide) (hts _ q172) (fun _ h9 => h9) rfl dJ8_clear_16 ?_
  refine lv_istore_n (lv' := [(2, .int (nI xs.length)), (1, .ref ea), (0, .ref la)]) hx hb dJ8_clear_19 rfl hl (by decide) rfl (fun ls hl => ?_)
  refine lv_aload_n hx hb dJ8_clear_20 rfl (lv_at hl 2 rfl) ?_
  refine lv_iconst (v := 0) hx hb dJ8_clear_21 (by decide) ?_
  refine lv_dup_x1 hx hb dJ8_clear_22 rfl rfl ?_
  refine rh_put (ci := 4) (v := .int 0) (ty := .int) (C := RJ8) (T := TJ8) (N := 3) hx hb hts in_J8 tyJ8 tyJ8_ok nmJ8 hown hC hH hla hx24 rfl 2 (by decide) (hts _ q172) (fun _ h9 => h9) rfl (by decide +kernel) rfl rfl (Nat.le_of_ble_eq_true rfl) dJ8_clear_23 (fun f25 H locs hu25 hfr25 hH => ?_)
  have hx26 : f25 ea = eRefs (D.1 100) cap F := (hfr25 ea (rh_ne hx23 hx24 (by nofun))).trans hx23
  have hx27 : f25 la = .inr (4, [.int (md + 1), .ref ea, .int 0]) := hu25
  refine lv_istore_n (lv' := [(3, .int 0), (2, .int (nI xs.length)), (1, .ref ea), (0, .ref la)]) hx hb dJ8_clear_26 rfl hl (by decide) rfl (fun ls hl => ?_)
  have hfin0 : ∀ b ∈ L, b ≠ la → b ≠ ea → f25 b = f b := fun b hb9 h9 _ => (hfr25 b h9).trans (hfr22 b h9)
  have hl : lv_has ls 4 [(0, .ref la), (1, .ref ea), (2, .int (nI xs.length)), (3, .int (nI 0))] := lv_sub hl [3, 2, 1, 0] rfl
  exact clear_loop xs.length hx hb hr hlocks hC hla hlf hea hef hc1 hc10 hc96 (xs.length + 1) 0 (Nat.zero_le _) (by omega) f25 F H locs hx27 hx26 hfin0 hH ls hl

set_option maxHeartbeats 4000000 in
set_option maxRecDepth 100000 in
theorem met_Itr (l : Launch) (D : va_G) (Z : Nat → Nat) (L : List Nat) (f : Nat → va_E) (q la ea : Nat) (md n : Int32) (x0 x1 x2 x3 : Value) (hq : q ∈ L) (hqf : f q = .inr (5, [.int 0, x1, x2, x3])) (hla : la ∈ L) (hlf : f la = eAL md ea n) : Met l yJ15_init (ws_ yJ15_init cJ15_init 2 (none)) ({ frames := 1, cells := 0, slots := 0, locals := 20 }) (rhPc D Z L f [.ref q, .ref la]) (rhQv D Z (fun L' f' => L = L' ∧ f' q = eItr 0 (-1) md la ∧ (∀ b : Nat, b ≠ q → f' b = f b))) 0 0 (rhA Z) := by
  refine rh_ofW (by decide +kernel) (Nat.le_of_ble_eq_true rfl) ?_
  intro p e s m args below meth c hx hb hr hlocks hml hown hin hts hC hH ls hl
  have hown : s.vm.findClass RJ15 = some m.cls := hown
  have hl : lv_has ls 2 [(0, .ref q), (1, .ref la)] := hl
  refine lv_aload_n hx hb dJ15_init_0 rfl (lv_at hl 0 rfl) ?_
  refine lv_aload_n hx hb dJ15_init_1 rfl (lv_at hl 1 rfl) ?_
  refine rh_putF (ci := 5) (v := .ref la) (ty := .object "java/util/ArrayList") (C := RJ15) (T := TJ15) (N := 4) hx hb hts in_J15 tyJ15 tyJ15_ok nmJ15 hown hC hH hq hqf rfl 3 (by decide) (hts _ q464) (fun _ h9 => h9) rfl hin rfl (by decide +kernel) rfl rfl (Nat.le_of_ble_eq_true rfl) dJ15_init_2 (fun f29 H locs hu29 hfr29 hH => ?_)
  have hx30 : f29 la = .inr (4, [.int md, .ref ea, .int n]) := (hfr29 la (rh_ne hlf hqf (by nofun))).trans hlf
  have hx31 : f29 q = .inr (5, [.int 0, x1, x2, .ref la]) := hu29
  refine lv_aload_n hx hb dJ15_init_5 rfl (lv_at hl 0 rfl) ?_
  refine W.objInit hx hb hown (hts _ q460) (hts _ q38) (hts _ q39) rfl (by rw [hml]; exact hl.1) rfl dJ15_init_6 (Nat.le_of_ble_eq_true rfl) (Nat.le_of_ble_eq_true rfl) ?_
  refine W.eq (g2 := F0 m 9 ls []) rfl ?_
  refine lv_aload_n hx hb dJ15_init_9 rfl (lv_at hl 0 rfl) ?_
  refine lv_iconst (v := -1) hx hb dJ15_init_10 (by decide) ?_
  refine rh_put (ci := 5) (v := .int (-1)) (ty := .int) (C := RJ15) (T := TJ15) (N := 4) hx hb hts in_J15 tyJ15 tyJ15_ok nmJ15 hown hC hH hq hx31 rfl 1 (by decide) (hts _ q462) (fun _ h9 => h9) rfl (by decide +kernel) rfl rfl (Nat.le_of_ble_eq_true rfl) dJ15_init_11 (fun f32 H locs hu32 hfr32 hH => ?_)
  have hx33 : f32 la = .inr (4, [.int md, .ref ea, .int n]) := (hfr32 la (rh_ne hx30 hx31 (by nofun))).trans hx30
  have hx34 : f32 q = .inr (5, [.int 0, .int (-1), x2, .ref la]) := hu32
  refine lv_aload_n hx hb dJ15_init_14 rfl (lv_at hl 0 rfl) ?_
  refine lv_aload_n hx hb dJ15_init_15 rfl (lv_at hl 0 rfl) ?_
  refine rh_get (ci := 5) (C := RJ15) (T := TJ15) (N := 4) hx hb hts in_J15 hown hC hH hq hx34 rfl 3 (by decide) (hts _ q464) (fun _ h9 => h9) rfl dJ15_init_16 ?_
  refine rh_get (ci := 4) (C := RJ8) (T := TJ8) (N := 3) hx hb hts in_J8 hown hC hH hla hx33 rfl 0 (by decide) (hts _ q174) (fun x9 h9 => u_same (hts _ q175) x9 h9) rfl dJ15_init_19 ?_
  refine rh_put (ci := 5) (v := .int md) (ty := .int) (C := RJ15) (T := TJ15) (N := 4) hx hb hts in_J15 tyJ15 tyJ15_ok nmJ15 hown hC hH hq hx34 rfl 2 (by decide) (hts _ q463) (fun _ h9 => h9) rfl (by decide +kernel) rfl rfl (Nat.le_of_ble_eq_true rfl) dJ15_init_22 (fun f35 H locs hu35 hfr35 hH => ?_)
  have hx36 : f35 la = .inr (4, [.int md, .ref ea, .int n]) := (hfr35 la (rh_ne hx33 hx34 (by nofun))).trans hx33
  have hx37 : f35 q = .inr (5, [.int 0, .int (-1), .int md, .ref la]) := hu35
  exact rh_vret hx hb hr hlocks hC hH (Nat.le_of_ble_eq_true rfl) (Nat.le_of_ble_eq_true rfl) (⟨rfl, hx37, fun b h9 => (hfr35 b h9).trans ((hfr32 b h9).trans (hfr29 b h9))⟩) dJ15_init_25

set_option maxHeartbeats 4000000 in
set_option maxRecDepth 100000 in
theorem met_iterator (l : Launch) (D : va_G) (Z : Nat → Nat) (L : List Nat) (f : Nat → va_E) (la ea : Nat) (md n : Int32) (hla : la ∈ L) (hlf : f la = eAL md ea n) : Met l yJ8_iterator (ws_ yJ8_iterator cJ8_iterator 1 (some (.object "java/util/Iterator"))) ({ frames := 2, cells := 1, slots := 4, locals := 44 }) (rhPc D Z L f [.ref la]) (rhQr D Z (fun r L' f' => r ∉ L ∧ L ++ [r] = L' ∧ f' r = eItr 0 (-1) md la ∧ (∀ b ∈ L, f' b = f b))) 1 4 (rhA Z) := by
  refine rh_ofW (by decide +kernel) (Nat.le_of_ble_eq_true rfl) ?_
  intro p e s m args below meth c hx hb hr hlocks hml hown hin hts hC hH ls hl
  have hown : s.vm.findClass RJ8 = some m.cls := hown
  have hl : lv_has ls 1 [(0, .ref la)] := hl
  refine rh_new (ci := 5) (fs := [.int 0, .int 0, .int 0, .null]) (C := RJ15) (T := TJ15) (N := 4) hx hb hts in_J15 tyJ15 tyJ15_ok hown (hts _ q455) (hts _ q456) (hts _ q31) hC hH rfl (fun j hj => by rcases (show j = 0 ∨ j = 1 ∨ j = 2 ∨ j = 3 by omega) with rfl | rfl | rfl | rfl <;> rfl) (Nat.le_of_ble_eq_true rfl) (Nat.le_of_ble_eq_true rfl) dJ8_iterator_0 (fun q f1 H hq hf1 hfr hH => ?_)
  refine lv_dup hx hb dJ8_iterator_3 rfl ?_
  refine lv_aload_n hx hb dJ8_iterator_4 rfl (lv_at hl 0 rfl) ?_
  refine rh_kv hC hH (va_runI (As := [.ref la]) (rest := [.ref q]) ⟨hx, hb, hml, hown, hts⟩ (met_Itr l D Z (L ++ [q]) f1 q la ea md n (.int 0) (.int 0) (.int 0) .null (rh_last L q) hf1 (List.mem_append_left _ hla) ((hfr la hla).trans hlf)) (cwI 1 hts (lw_meth q459) rfl rfl rfl (hts _ q31) (hts _ q457) (hts _ q458) rfl (by decide +kernel) ⟨Nat.le_of_ble_eq_true rfl, Nat.le_of_ble_eq_true rfl⟩) (rh_preS hC hH (.ref q :: [.ref la])) rfl rfl hl.1 rfl (lv_room (Nat.le_of_ble_eq_true rfl)) dJ8_iterator_5 ⟨Nat.le_of_ble_eq_true rfl, Nat.le_of_ble_eq_true rfl⟩) (fun L38 f38 H locs hp38 hH => ?_)
  obtain ⟨rfl, h3, h4⟩ := hp38
  exact rh_aret (v := q) hx hb hr (Or.inl ⟨_, rfl⟩) hlocks hC hH (Nat.le_of_ble_eq_true rfl) (Nat.le_of_ble_eq_true rfl) (⟨hq, rfl, h3, fun b hb9 => (h4 b (fun z => hq (by rw [← z]; exact hb9))).trans (hfr b hb9)⟩) dJ8_iterator_8

set_option maxHeartbeats 4000000 in
set_option maxRecDepth 100000 in
theorem met_hasNext (l : Launch) (D : va_G) (Z : Nat → Nat) (L : List Nat) (f : Nat → va_E) (it la ea : Nat) (md lr : Int32) (j : Nat) (xs : List (Nat × Nat)) (hit : it ∈ L) (hif : f it = eItr (nI j) lr md la) (hla : la ∈ L) (hlf : f la = eAL md ea (nI xs.length)) (hn : xs.length ≤ 64) (hj : j ≤ xs.length) : Met l yJ15_hasNext (ws_ yJ15_hasNext cJ15_hasNext 1 (some .boolean)) ({ frames := 0, cells := 0, slots := 0, locals := 0 }) (rhPc D Z L f [.ref it]) (rhQi D Z (fun r L' f' => (if j = xs.length then (0 : Int32) else 1) = r ∧ L = L' ∧ f = f')) 0 0 (rhA Z) := by
  refine rh_ofW (by decide +kernel) (Nat.le_of_ble_eq_true rfl) ?_
  intro p e s m args below meth c hx hb hr hlocks hml hown hin hts hC hH ls hl
  have hown : s.vm.findClass RJ15 = some m.cls := hown
  have hl : lv_has ls 1 [(0, .ref it)] := hl
  refine lv_aload_n hx hb dJ15_hasNext_0 rfl (lv_at hl 0 rfl) ?_
  refine rh_get (ci := 5) (C := RJ15) (T := TJ15) (N := 4) hx hb hts in_J15 hown hC hH hit hif rfl 0 (by decide) (hts _ q461) (fun _ h9 => h9) rfl dJ15_hasNext_1 ?_
  refine lv_aload_n hx hb dJ15_hasNext_4 rfl (lv_at hl 0 rfl) ?_
  refine rh_get (ci := 5) (C := RJ15) (T := TJ15) (N := 4) hx hb hts in_J15 hown hC hH hit hif rfl 3 (by decide) (hts _ q464) (fun _ h9 => h9) rfl dJ15_hasNext_5 ?_
  refine rh_getN (ci := 4) (C := RJ8) (T := TJ8) (N := 3) (host := "java/util/ArrayList") hx hb hts in_J8 hown hC hH hla hlf rfl 2 (by decide) (va_Nw.use rfl hC.nest) (fun _ h9 => h9) rfl dJ15_hasNext_8 ?_
  refine lv_icmp_eq (tgt := 18) hx hb dJ15_hasNext_11 (by decide) (fun c_1 => ?_) (fun c_1 => ?_)
  · have h1 : j = xs.length := (nI_eq (by omega) (by omega)).mp c_1
    refine lv_iconst (v := 0) hx hb dJ15_hasNext_18 (by decide) ?_
    exact rh_zret hx hb hr (by decide) hlocks hC hH (Nat.le_of_ble_eq_true rfl) (Nat.le_of_ble_eq_true rfl) (⟨if_pos h1, rfl, rfl⟩) dJ15_hasNext_19
  · have h1 : ¬ j = xs.length := fun z => c_1 (by rw [z])
    refine lv_iconst (v := 1) hx hb dJ15_hasNext_14 (by decide) ?_
    refine lv_goto (tgt := 19) hx hb dJ15_hasNext_15 (by decide) ?_
    exact rh_zret hx hb hr (by decide) hlocks hC hH (Nat.le_of_ble_eq_true rfl) (Nat.le_of_ble_eq_true rfl) (⟨if_neg h1, rfl, rfl⟩) dJ15_hasNext_19

set_option maxHeartbeats 4000000 in
set_option maxRecDepth 100000 in
theorem met_checkCo (l : Launch) (D : va_G) (Z : Nat → Nat) (L : List Nat) (f : Nat → va_E) (it la ea : Nat) (md lr : Int32) (j : Nat) (xs : List (Nat × Nat)) (hit : it ∈ L) (hif : f it = eItr (nI j) lr md la) (hla : la ∈ L) (hlf : f la = eAL md ea (nI xs.length)) (hn : xs.length ≤ 64)  : Met l yJ15_checkForComodification (ws_ yJ15_checkForComodification cJ15_checkForComodification 1 (none)) ({ frames := 0, cells := 0, slots := 0, locals := 0 }) (rhPc D Z L f [.ref it]) (rhQv D Z (fun L' f' => L = L' ∧ f = f')) 0 0 (rhA Z) := by
  refine rh_ofW (by decide +kernel) (Nat.le_of_ble_eq_true rfl) ?_
  intro p e s m args below meth c hx hb hr hlocks hml hown hin hts hC hH ls hl
  have hown : s.vm.findClass RJ15 = some m.cls := hown
  have hl : lv_has ls 1 [(0, .ref it)] := hl
  refine lv_aload_n hx hb dJ15_checkForComodification_0 rfl (lv_at hl 0 rfl) ?_
  refine rh_get (ci := 5) (C := RJ15) (T := TJ15) (N := 4) hx hb hts in_J15 hown hC hH hit hif rfl 3 (by decide) (hts _ q464) (fun _ h9 => h9) rfl dJ15_checkForComodification_1 ?_
  refine rh_get (ci := 4) (C := RJ8) (T := TJ8) (N := 3) hx hb hts in_J8 hown hC hH hla hlf rfl 0 (by decide) (hts _ q174) (fun x9 h9 => u_same (hts _ q175) x9 h9) rfl dJ15_checkForComodification_4 ?_
  refine lv_aload_n hx hb dJ15_checkForComodification_7 rfl (lv_at hl 0 rfl) ?_
  refine rh_get (ci := 5) (C := RJ15) (T := TJ15) (N := 4) hx hb hts in_J15 hown hC hH hit hif rfl 2 (by decide) (hts _ q463) (fun _ h9 => h9) rfl dJ15_checkForComodification_8 ?_
  refine lv_icmp_eq (tgt := 22) hx hb dJ15_checkForComodification_11 (by decide) (fun c_1 => ?_) (fun c_1 => absurd rfl c_1)
  exact rh_vret hx hb hr hlocks hC hH (Nat.le_of_ble_eq_true rfl) (Nat.le_of_ble_eq_true rfl) (⟨rfl, rfl⟩) dJ15_checkForComodification_22

set_option maxHeartbeats 4000000 in
set_option maxRecDepth 100000 in
theorem met_next (l : Launch) (D : va_G) (Z : Nat → Nat) (L : List Nat) (f : Nat → va_E) (it la ea : Nat) (md lr : Int32) (j : Nat) (xs : List (Nat × Nat)) (hit : it ∈ L) (hif : f it = eItr (nI j) lr md la) (hla : la ∈ L) (hlf : f la = eAL md ea (nI xs.length)) (hn : xs.length ≤ 64) (x : Nat × Nat) (hel : rhEl D Z L f ea xs) (hx0 : xs[j]? = some x) : Met l yJ15_next (ws_ yJ15_next cJ15_next 3 (some (.object "java/lang/Object"))) ({ frames := 1, cells := 0, slots := 0, locals := 22 }) (rhPc D Z L f [.ref it]) (rhQr D Z (fun r L' f' => x.1 = r ∧ L = L' ∧ f' it = eItr (nI (j + 1)) (nI j) md la ∧ (∀ b : Nat, b ≠ it → f' b = f b))) 0 0 (rhA Z) := by
  refine rh_ofW (by decide +kernel) (Nat.le_of_ble_eq_true rfl) ?_
  intro p e s m args below meth c hx hb hr hlocks hml hown hin hts hC hH ls hl
  have hown : s.vm.findClass RJ15 = some m.cls := hown
  have hl : lv_has ls 3 [(0, .ref it)] := hl
  have hj : j < xs.length := (List.getElem?_eq_some_iff.mp hx0).1
  obtain ⟨hxs, hel2⟩ := hel
  rcases hel2 with ⟨h1, -⟩ | ⟨hea, cap, F, hef, hc1, hc10, hc96, hF⟩
  · rw [h1] at hj; exact absurd hj (Nat.not_lt_zero _)
  refine lv_aload_n hx hb dJ15_next_0 rfl (lv_at hl 0 rfl) ?_
  refine rh_kv hC hH (va_runV (As := []) (rest := []) ⟨hx, hb, hml, hown, hts⟩ (met_checkCo l D Z L f it la ea md lr j xs hit hif hla hlf hn) (cwV 0 hts (lw_V q493 q494 q495 q31 q496) rfl rfl rfl (by decide +kernel) ⟨Nat.le_of_ble_eq_true rfl, Nat.le_of_ble_eq_true rfl⟩) (rh_preV hC hH [] (rh_recv hC hH hit hif (q := (RJ15, TJ15, 4)) rfl)) rfl rfl hl.1 rfl (lv_room (Nat.le_of_ble_eq_true rfl)) dJ15_next_1 ⟨Nat.le_of_ble_eq_true rfl, Nat.le_of_ble_eq_true rfl⟩) (fun L39 f39 H locs hp39 hH => ?_)
  obtain ⟨rfl, rfl⟩ := hp39
  refine lv_aload_n hx hb dJ15_next_4 rfl (lv_at hl 0 rfl) ?_
  refine rh_get (ci := 5) (C := RJ15) (T := TJ15) (N := 4) hx hb hts in_J15 hown hC hH hit hif rfl 0 (by decide) (hts _ q461) (fun _ h9 => h9) rfl dJ15_next_5 ?_
  refine lv_istore_n (lv' := [(1, .int (nI j)), (0, .ref it)]) hx hb dJ15_next_8 rfl hl (by decide) rfl (fun ls hl => ?_)
  refine lv_iload_n hx hb dJ15_next_9 rfl (lv_at hl 0 rfl) ?_
  refine lv_aload_n hx hb dJ15_next_10 rfl (lv_at hl 1 rfl) ?_
  refine rh_get (ci := 5) (C := RJ15) (T := TJ15) (N := 4) hx hb hts in_J15 hown hC hH hit hif rfl 3 (by decide) (hts _ q464) (fun _ h9 => h9) rfl dJ15_next_11 ?_
  refine rh_getN (ci := 4) (C := RJ8) (T := TJ8) (N := 3) (host := "java/util/ArrayList") hx hb hts in_J8 hown hC hH hla hlf rfl 2 (by decide) (va_Nw.use rfl hC.nest) (fun _ h9 => h9) rfl dJ15_next_14 ?_
  refine lv_icmp_lt (tgt := 28) hx hb dJ15_next_17 (by decide) (fun _ => ?_) (fun c_1 => absurd (nI_lt hj (by omega)) c_1)
  refine lv_aload_n hx hb dJ15_next_28 rfl (lv_at hl 1 rfl) ?_
  refine rh_get (ci := 5) (C := RJ15) (T := TJ15) (N := 4) hx hb hts in_J15 hown hC hH hit hif rfl 3 (by decide) (hts _ q464) (fun _ h9 => h9) rfl dJ15_next_29 ?_
  refine rh_get (ci := 4) (C := RJ8) (T := TJ8) (N := 3) hx hb hts in_J8 hown hC hH hla hlf rfl 1 (by decide) (hts _ q170) (fun _ h9 => h9) rfl dJ15_next_32 ?_
  refine lv_astore_n (lv' := [(2, .ref ea), (1, .int (nI j)), (0, .ref it)]) hx hb dJ15_next_35 rfl hl (by decide) rfl (fun ls hl => ?_)
  refine lv_iload_n hx hb dJ15_next_36 rfl (lv_at hl 1 rfl) ?_
  refine lv_aload_n hx hb dJ15_next_37 rfl (lv_at hl 0 rfl) ?_
  refine rh_alen hx hb hC hH hea hef (t0 := 0) rfl (v := nI cap) rfl dJ15_next_38 ?_
  refine lv_icmp_lt (tgt := 50) hx hb dJ15_next_39 (by decide) (fun _ => ?_) (fun c_1 => absurd (nI_lt (show j < cap by omega) (by omega)) c_1)
  refine lv_aload_n hx hb dJ15_next_50 rfl (lv_at hl 2 rfl) ?_
  refine lv_iload_n hx hb dJ15_next_51 rfl (lv_at hl 1 rfl) ?_
  refine lv_iconst (v := 1) hx hb dJ15_next_52 (by decide) ?_
  refine lv_iadd hx hb dJ15_next_53 ?_
  refine lv_topi (fun y ey => ?_)
  obtain rfl : y = nI (j + 1) := ey.trans (nI_1 _)
  refine rh_put (ci := 5) (v := .int (nI (j + 1))) (ty := .int) (C := RJ15) (T := TJ15) (N := 4) hx hb hts in_J15 tyJ15 tyJ15_ok nmJ15 hown hC hH hit hif rfl 0 (by decide) (hts _ q461) (fun _ h9 => h9) rfl (by decide +kernel) rfl rfl (Nat.le_of_ble_eq_true rfl) dJ15_next_54 (fun f40 H locs hu40 hfr40 hH => ?_)
  have hx41 : f40 la = .inr (4, [.int md, .ref ea, .int (nI xs.length)]) := (hfr40 la (rh_ne hlf hif (by nofun))).trans hlf
  have hx42 : f40 ea = eRefs (D.1 100) cap F := (hfr40 ea (rh_ne hef hif (by nofun))).trans hef
  have hx43 : f40 it = .inr (5, [.int (nI (j + 1)), .int lr, .int md, .ref la]) := hu40
  refine lv_aload_n hx hb dJ15_next_57 rfl (lv_at hl 0 rfl) ?_
  refine lv_aload_n hx hb dJ15_next_58 rfl (lv_at hl 2 rfl) ?_
  refine lv_iload_n hx hb dJ15_next_59 rfl (lv_at hl 1 rfl) ?_
  refine lv_dup_x1 hx hb dJ15_next_60 rfl rfl ?_
  refine rh_put (ci := 5) (v := .int (nI j)) (ty := .int) (C := RJ15) (T := TJ15) (N := 4) hx hb hts in_J15 tyJ15 tyJ15_ok nmJ15 hown hC hH hit hx43 rfl 1 (by decide) (hts _ q462) (fun _ h9 => h9) rfl (by decide +kernel) rfl rfl (Nat.le_of_ble_eq_true rfl) dJ15_next_61 (fun f44 H locs hu44 hfr44 hH => ?_)
  have hx45 : f44 la = .inr (4, [.int md, .ref ea, .int (nI xs.length)]) := (hfr44 la (rh_ne hx41 hx43 (by nofun))).trans hx41
  have hx46 : f44 ea = eRefs (D.1 100) cap F := (hfr44 ea (rh_ne hx42 hx43 (by nofun))).trans hx42
  have hx47 : f44 it = .inr (5, [.int (nI (j + 1)), .int (nI j), .int md, .ref la]) := hu44
  refine rh_aald (t0 := 0) hx hb hC hH hea hx46 rfl (vp_in_nI (show j < cap by omega) (by omega)) dJ15_next_64 ?_
  have hFj : F j = some x.1 := by rw [hF j hj, hx0]; rfl
  rw [nI_clamp (show j < 2 ^ 31 by omega), rf_some hFj]
  exact rh_aret hx hb hr (Or.inl ⟨_, rfl⟩) hlocks hC hH (Nat.le_of_ble_eq_true rfl) (Nat.le_of_ble_eq_true rfl) (⟨rfl, rfl, hx47, fun b h9 => (hfr44 b h9).trans (hfr40 b h9)⟩) dJ15_next_65
end
section
/-! THE RADIX HEAP, said of the pool: its buckets, its least key; plain rows about them -/
theorem rhEl.fr2 {D : va_G} {Z : Nat → Nat} {L L' : List Nat} {f f' : Nat → va_E} {ea : Nat} {xs : List (Nat × Nat)} (h : rhEl D Z L f ea xs) (hs : ∀ b ∈ L, b ∈ L') (he : ∀ (n : Nat) (F : Nat → Option Nat), ea ∈ L → f ea = eRefs (D.1 100) n F → f' ea = f ea) (hk : ∀ b ∈ L, ∀ k : Nat, f b = eLong k → f' b = f b) : rhEl D Z L' f' ea xs := by
  obtain ⟨h1, h2⟩ := h
  refine ⟨fun x hx => (h1 x hx).fr hs (fun b hb => hk b hb _), ?_⟩
  rcases h2 with h2 | ⟨h2, cap, F, h3, h4⟩
  · exact Or.inl h2
  · exact Or.inr ⟨hs _ h2, cap, F, (he cap F h2 h3).trans h3, h4⟩
/-- the 22 buckets: the array ba, the lists la i with element arrays ea i, change counts md i, contents B i -/
def rhBks (D : va_G) (Z : Nat → Nat) (L : List Nat) (f : Nat → va_E) (ba : Nat) (la ea : Nat → Nat) (md : Nat → Int32) (B : Nat → List (Nat × Nat)) : Prop :=
  (ba ∈ L ∧ ∃ G : Nat → Option Nat, f ba = eRefs (D.1 101) 22 G ∧ ∀ i : Nat, i < 22 → G i = some (la i)) ∧
  (∀ i : Nat, i < 22 → la i ∈ L ∧ f (la i) = eAL (md i) (ea i) (nI (B i).length) ∧ rhEl D Z L f (ea i) (B i)) ∧
  (∀ i j : Nat, i < 22 → j < 22 → la i = la j → i = j) ∧
  (∀ i j : Nat, i < 22 → j < 22 → ea i = ea j → ea i ≠ Z 1 → i = j)
theorem rhBks.fr {D : va_G} {Z : Nat → Nat} {L L' : List Nat} {f f' : Nat → va_E} {ba : Nat} {la ea : Nat → Nat} {md : Nat → Int32} {B : Nat → List (Nat × Nat)} (h : rhBks D Z L f ba la ea md B) (hs : ∀ b ∈ L, b ∈ L') (h1 : f' ba = f ba) (h2 : ∀ i : Nat, i < 22 → f' (la i) = f (la i)) (h3 : ∀ i : Nat, i < 22 → ∀ (n : Nat) (F : Nat → Option Nat), ea i ∈ L → f (ea i) = eRefs (D.1 100) n F → f' (ea i) = f (ea i)) (h4 : ∀ b ∈ L, ∀ k : Nat, f b = eLong k → f' b = f b) : rhBks D Z L' f' ba la ea md B := by
  obtain ⟨⟨a1, G, a2, a3⟩, b1, c1, d1⟩ := h
  refine ⟨⟨hs _ a1, G, h1.trans a2, a3⟩, fun i hi => ?_, c1, d1⟩
  obtain ⟨g1, g2, g3⟩ := b1 i hi
  exact ⟨hs _ g1, (h2 i hi).trans g2, g3.fr2 hs (h3 i hi) h4⟩
/-- another object was written, or cells were made -/
theorem rhBks.frO {D : va_G} {Z : Nat → Nat} {L L' : List Nat} {f f' : Nat → va_E} {ba : Nat} {la ea : Nat → Nat} {md : Nat → Int32} {B : Nat → List (Nat × Nat)} (h : rhBks D Z L f ba la ea md B) (hs : ∀ b ∈ L, b ∈ L') {o ci : Nat} {fs : List Value} (ho : f o = .inr (ci, fs)) (h3 : ci ≠ 3) (h4 : ci ≠ 4) (hk : ∀ b ∈ L, b ≠ o → f' b = f b) : rhBks D Z L' f' ba la ea md B := by
  obtain ⟨⟨a1, G, a2, a3⟩, b1, c1, d1⟩ := h
  refine rhBks.fr ⟨⟨a1, G, a2, a3⟩, b1, c1, d1⟩ hs (hk _ a1 (rh_ne a2 ho (by nofun))) (fun i hi => ?_) (fun i hi n F g1 g2 => hk _ g1 (rh_ne g2 ho (by nofun))) (fun b hb k e => hk b hb (rh_ne e ho (fun z => h3 (by cases z; rfl))))
  obtain ⟨g1, g2, g3⟩ := b1 i hi
  exact hk _ g1 (rh_ne g2 ho (fun z => h4 (by cases z; rfl)))
theorem rhBks.frA {D : va_G} {Z : Nat → Nat} {L L' : List Nat} {f f' : Nat → va_E} {ba : Nat} {la ea : Nat → Nat} {md : Nat → Int32} {B : Nat → List (Nat × Nat)} (h : rhBks D Z L f ba la ea md B) (hs : ∀ b ∈ L, b ∈ L') (hk : ∀ b ∈ L, f' b = f b) : rhBks D Z L' f' ba la ea md B := by
  refine h.fr hs (hk _ h.1.1) (fun i hi => hk _ (h.2.1 i hi).1) (fun i hi n F g1 g2 => hk _ g1) (fun b hb k e => hk b hb)
/-- the list j was changed -/
theorem rhBks.upd {D : va_G} {Z : Nat → Nat} {L L' : List Nat} {f f' : Nat → va_E} {ba : Nat} {la ea : Nat → Nat} {md : Nat → Int32} {B : Nat → List (Nat × Nat)} (h : rhBks D Z L f ba la ea md B) (hs : ∀ b ∈ L, b ∈ L') (hZ : Z 1 ∉ L) (hD : D.1 100 ≠ D.1 101) {j : Nat} (hj : j < 22) {ea' : Nat} {md' : Int32} {xs : List (Nat × Nat)} (g1 : f' (la j) = eAL md' ea' (nI xs.length)) (g2 : rhEl D Z L' f' ea' xs) (g3 : ea' = ea j ∨ ea' ∉ L) (g4 : ∀ b ∈ L, b ≠ la j → b ≠ ea j → f' b = f b) : rhBks D Z L' f' ba la (va_up ea j ea') (va_up md j md') (va_up B j xs) := by
  obtain ⟨⟨a1, G, a2, a3⟩, b1, c1, d1⟩ := h
  obtain ⟨p1, p2, p3⟩ := b1 j hj
  have hea : ∀ (b : Nat) (x : va_E), b ∈ L → f b = x → (∀ (n : Nat) (F : Nat → Option Nat), x ≠ eRefs (D.1 100) n F) → b ≠ ea j := by
    intro b x hb hx hn z
    rcases p3.2 with ⟨-, q⟩ | ⟨-, cap, F, q, -⟩
    · exact hZ (by rw [← q, ← z]; exact hb)
    · exact hn cap F (by rw [← hx, z, q])
  have hlg : ∀ b ∈ L, ∀ k : Nat, f b = eLong k → f' b = f b := fun b hb k e => g4 b hb (rh_ne e p2 (by nofun)) (hea b _ hb e (by nofun))
  refine ⟨⟨hs _ a1, G, (g4 ba a1 (rh_ne a2 p2 (by nofun)) (hea ba _ a1 a2 (fun n F z => hD (Prod.mk.inj (Sum.inl.inj z)).1.symm))).trans a2, a3⟩, fun i hi => ?_, c1, fun i i' hi hi' e1 e2 => ?_⟩
  · by_cases hij : i = j
    · subst hij
      rw [va_up_self, va_up_self, va_up_self]
      exact ⟨hs _ p1, g1, g2⟩
    · rw [va_up_ne _ _ hij, va_up_ne _ _ hij, va_up_ne _ _ hij]
      obtain ⟨q1, q2, q3⟩ := b1 i hi
      refine ⟨hs _ q1, (g4 _ q1 (fun z => hij (c1 i j hi hj z)) (hea _ _ q1 q2 (by nofun))).trans q2, q3.fr2 hs (fun n F r1 r2 => g4 _ r1 (rh_ne r2 p2 (by nofun)) (fun z => hij (d1 i j hi hj z (fun w => hZ (w ▸ r1))))) hlg⟩
  · have in_of : ∀ k : Nat, k < 22 → ea k ≠ Z 1 → ea k ∈ L := fun k hk hn => by
      rcases (b1 k hk).2.2.2 with ⟨-, q⟩ | ⟨q, -⟩
      · exact absurd q hn
      · exact q
    by_cases hij : i = j
    · subst hij
      by_cases hij' : i' = i
      · exact hij'.symm
      · rw [va_up_self, va_up_ne _ _ hij'] at e1
        rw [va_up_self] at e2
        rcases g3 with g3 | g3
        · exact d1 i i' hi hi' (g3.symm.trans e1) (by rw [← g3]; exact e2)
        · exact absurd (by rw [e1]; exact in_of i' hi' (by rw [← e1]; exact e2)) g3
    · by_cases hij' : i' = j
      · subst hij'
        rw [va_up_self, va_up_ne _ _ hij] at e1
        rw [va_up_ne _ _ hij] at e2
        rcases g3 with g3 | g3
        · exact d1 i i' hi hi' (e1.trans g3) e2
        · exact absurd (by rw [← e1]; exact in_of i hi e2) g3
      · rw [va_up_ne _ _ hij, va_up_ne _ _ hij'] at e1
        rw [va_up_ne _ _ hij] at e2
        exact d1 i i' hi hi' e1 e2
/-- the values in the first n buckets -/
def rhFl (B : Nat → List (Nat × Nat)) : Nat → List Nat
  | 0 => []
  | n + 1 => rhFl B n ++ (B n).map (·.2)
theorem rhFl_ge {B : Nat → List (Nat × Nat)} {j : Nat} (xs : List (Nat × Nat)) : ∀ {n : Nat}, n ≤ j → rhFl (va_up B j xs) n = rhFl B n
  | 0, _ => rfl
  | n + 1, h => by
    show rhFl (va_up B j xs) n ++ (va_up B j xs n).map (·.2) = rhFl B n ++ (B n).map (·.2)
    rw [rhFl_ge xs (by omega), va_up_ne _ _ (show n ≠ j by omega)]
theorem rhFl_lt {B : Nat → List (Nat × Nat)} {j : Nat} : ∀ {n : Nat}, j < n → ∃ u v : List Nat, ∀ xs : List (Nat × Nat), rhFl (va_up B j xs) n = u ++ xs.map (·.2) ++ v
  | 0, h => absurd h (Nat.not_lt_zero j)
  | n + 1, h => by
    by_cases hj : j = n
    · subst hj
      refine ⟨rhFl B j, [], fun xs => ?_⟩
      show rhFl (va_up B j xs) j ++ (va_up B j xs j).map (·.2) = _
      rw [rhFl_ge xs (Nat.le_refl _), va_up_self, List.append_nil]
    · obtain ⟨u, v, huv⟩ := rhFl_lt (B := B) (show j < n by omega)
      refine ⟨u, v ++ (B n).map (·.2), fun xs => ?_⟩
      show rhFl (va_up B j xs) n ++ (va_up B j xs n).map (·.2) = _
      rw [huv xs, va_up_ne _ _ (show n ≠ j from fun z => hj z.symm), List.append_assoc]
theorem va_up_id {α : Type} (B : Nat → α) (j : Nat) : va_up B j (B j) = B := by
  funext i
  by_cases h : i = j
  · subst h; exact va_up_self _ _ _
  · exact va_up_ne _ _ h
theorem rhFl_mem {B : Nat → List (Nat × Nat)} {k : Nat} : ∀ {n : Nat}, k ∈ rhFl B n ↔ ∃ i, i < n ∧ ∃ x ∈ B i, x.2 = k
  | 0 => ⟨fun h => absurd h List.not_mem_nil, fun ⟨i, h, _⟩ => absurd h (Nat.not_lt_zero i)⟩
  | n + 1 => by
    show k ∈ rhFl B n ++ (B n).map (·.2) ↔ _
    rw [List.mem_append, rhFl_mem, List.mem_map]
    constructor
    · rintro (⟨i, h, h2⟩ | ⟨x, h1, h2⟩)
      · exact ⟨i, by omega, h2⟩
      · exact ⟨n, by omega, x, h1, h2⟩
    · rintro ⟨i, h, x, h1, h2⟩
      by_cases hi : i = n
      · subst hi; exact Or.inr ⟨x, h1, h2⟩
      · exact Or.inl ⟨i, by omega, x, h1, h2⟩
/-- one more in the bucket j -/
theorem rhFl_add {B : Nat → List (Nat × Nat)} {j n : Nat} (hj : j < n) (x : Nat × Nat) : (rhFl (va_up B j (B j ++ [x])) n).Perm (x.2 :: rhFl B n) := by
  obtain ⟨u, v, huv⟩ := rhFl_lt (B := B) hj
  have h0 := huv (B j)
  rw [va_up_id] at h0
  rw [huv, h0, List.map_append, List.map_cons, List.map_nil]
  have h1 : u ++ ((B j).map (·.2) ++ [x.2]) ++ v = (u ++ (B j).map (·.2)) ++ x.2 :: v := by simp
  rw [h1]
  exact List.perm_middle
theorem er_perm {α : Type} : ∀ (l : List α) (q : Nat) (x : α), l[q]? = some x → l.Perm (x :: l.eraseIdx q)
  | [], q, x, h => by simp at h
  | a :: l, 0, x, h => by
    rw [List.getElem?_cons_zero] at h
    cases h
    exact List.Perm.refl _
  | a :: l, q + 1, x, h => by
    rw [List.getElem?_cons_succ] at h
    exact ((er_perm l q x h).cons a).trans (List.Perm.swap x a _)
/-- the bucket j without its place q -/
theorem rhFl_del {B : Nat → List (Nat × Nat)} {j n q : Nat} (hj : j < n) {x : Nat × Nat} (hq : (B j)[q]? = some x) : (rhFl B n).Perm (x.2 :: rhFl (va_up B j ((B j).eraseIdx q)) n) := by
  obtain ⟨u, v, huv⟩ := rhFl_lt (B := B) hj
  have h0 := huv (B j)
  rw [va_up_id] at h0
  rw [h0, huv]
  have h1 : (B j).Perm (x :: (B j).eraseIdx q) := by
    exact er_perm _ _ _ hq
  have h2 := ((h1.map (·.2)).append_left u).append_right v
  refine h2.trans ?_
  rw [List.map_cons]
  have h3 : u ++ x.2 :: ((B j).eraseIdx q).map (·.2) ++ v = u ++ x.2 :: (((B j).eraseIdx q).map (·.2) ++ v) := by simp
  rw [h3, List.append_assoc]
  exact List.perm_middle
theorem rhFl_clear {B : Nat → List (Nat × Nat)} {j n : Nat} (hj : j < n) : (rhFl B n).Perm ((B j).map (·.2) ++ rhFl (va_up B j []) n) := by
  obtain ⟨u, v, huv⟩ := rhFl_lt (B := B) hj
  have h0 := huv (B j)
  rw [va_up_id] at h0
  rw [h0, huv, List.map_nil, List.append_nil, List.append_assoc]
  exact List.perm_append_comm_assoc u _ v
/-- the least key's place -/
def rhMin (B : Nat → List (Nat × Nat)) (ks : List Nat) (cm : Option (Nat × Nat)) (cb cp : Int32) : Prop := (ks = [] ∧ cm = none) ∨ ∃ (m : Nat × Nat) (b q : Nat), cm = some m ∧ cb = nI b ∧ cp = nI q ∧ b < 22 ∧ (B b)[q]? = some m ∧ ∀ k ∈ ks, m.2 ≤ k
/-- what holds of the keys: ks all of them, lv the last deleted -/
def rhPure (B : Nat → List (Nat × Nat)) (ks : List Nat) (lv : Nat) : Prop := lv < 2 ^ 20 ∧ (∀ i : Nat, i < 22 → ∀ x ∈ B i, lv ≤ x.2 ∧ x.2 < 2 ^ 20 ∧ rhBk x.2 lv = i) ∧ ks.Perm (rhFl B 22)
/-- the cells of a heap that it may write -/
def rhFT (Z : Nat → Nat) (h ba : Nat) (la ea : Nat → Nat) : Nat → Prop := fun b => b = h ∨ b = ba ∨ (∃ i : Nat, i < 22 ∧ b = la i) ∨ (∃ i : Nat, i < 22 ∧ b = ea i ∧ b ≠ Z 1)
/-- a heap between calls: its keys are ks (in any order), its last deleted key lv -/
def rhHeap (D : va_G) (Z : Nat → Nat) (L : List Nat) (f : Nat → va_E) (h ba : Nat) (la ea : Nat → Nat) (ks : List Nat) (lv : Nat) : Prop := ∃ (md : Nat → Int32) (B : Nat → List (Nat × Nat)) (ls mn mx : Nat) (cm : Option (Nat × Nat)) (cb cp : Int32),
  (h ∈ L ∧ f h = eHeap ba (lN ks.length) ls (cm.map (·.1)) cb cp mn mx) ∧ rhBks D Z L f ba la ea md B ∧ (rhLg Z L f ls lv ∧ rhLg Z L f mx 1048575) ∧ rhPure B ks lv ∧ rhMin B ks cm cb cp
theorem rhHeap.fr {D : va_G} {Z : Nat → Nat} {L L' : List Nat} {f f' : Nat → va_E} {h ba : Nat} {la ea : Nat → Nat} {ks : List Nat} {lv : Nat} (hh : rhHeap D Z L f h ba la ea ks lv) (hs : ∀ b ∈ L, b ∈ L') (hZ : Z 1 ∉ L) (hk : ∀ b ∈ L, rhFT Z h ba la ea b → f' b = f b) (hg : ∀ b ∈ L, ∀ k : Nat, f b = eLong k → f' b = f b) : rhHeap D Z L' f' h ba la ea ks lv := by
  obtain ⟨md, B, ls, mn, mx, cm, cb, cp, ⟨a1, a2⟩, b, ⟨c1, c2⟩, d, e⟩ := hh
  refine ⟨md, B, ls, mn, mx, cm, cb, cp, ⟨hs _ a1, (hk _ a1 (Or.inl rfl)).trans a2⟩, ?_, ⟨c1.fr hs (fun b hb => hg b hb _), c2.fr hs (fun b hb => hg b hb _)⟩, d, e⟩
  exact b.fr hs (hk _ b.1.1 (Or.inr (Or.inl rfl))) (fun i hi => hk _ (b.2.1 i hi).1 (Or.inr (Or.inr (Or.inl ⟨i, hi, rfl⟩)))) (fun i hi n F g1 g2 => hk _ g1 (Or.inr (Or.inr (Or.inr ⟨i, hi, rfl, fun z => hZ (z ▸ g1)⟩)))) hg
theorem rhPure.len {B : Nat → List (Nat × Nat)} {ks : List Nat} {lv : Nat} (h : rhPure B ks lv) {i : Nat} (hi : i < 22) : (B i).length ≤ ks.length := by
  have h1 := h.2.2.length_eq
  obtain ⟨u, v, huv⟩ := rhFl_lt (B := B) hi
  have h0 := huv (B i)
  rw [va_up_id] at h0
  rw [h1, h0]
  simp
  omega
end
section
/-! LongRadixHeapDesk.log, floor; the heap is made (printed by tools/p12.py) -/
set_option maxHeartbeats 4000000 in
set_option maxRecDepth 100000 in
theorem met_floor (l : Launch) (D : va_G) (Z : Nat → Nat) (L : List Nat) (f : Nat → va_E) (x : UInt64) (y : Int64) (h1 : FP.d2l x = y) (h2 : Op.cmpValue (FP.dcmp (FP.l2d y) x) .l ≤ 0) : Met l yX0_floor (ws_ yX0_floor cX0_floor 4 (some .double)) ({ frames := 0, cells := 0, slots := 0, locals := 0 }) (rhPc D Z L f [.double x]) (rhQd D Z (fun r L' f' => FP.l2d y = r ∧ L = L' ∧ f = f')) 0 0 (rhA Z) := by
  refine rh_ofW (by decide +kernel) (Nat.le_of_ble_eq_true rfl) ?_
  intro p e s m args below meth c hx hb hr hlocks hml hown hin hts hC hH ls hl
  have hown : s.vm.findClass RX0 = some m.cls := hown
  have hl : lv_has ls 4 [(0, .double x)] := hl
  refine lv_dload_n hx hb dX0_floor_0 rfl (lv_at hl 0 rfl) ?_
  refine lv_d2l hx hb dX0_floor_1 ?_
  rw [h1]
  refine lv_lstore_n (lv' := [(2, .long y), (0, .double x)]) hx hb dX0_floor_2 rfl hl (by decide) rfl (fun ls hl => ?_)
  refine lv_lload_n hx hb dX0_floor_3 rfl (lv_at hl 0 rfl) ?_
  refine lv_l2d hx hb dX0_floor_4 ?_
  refine lv_dload_n hx hb dX0_floor_5 rfl (lv_at hl 1 rfl) ?_
  refine lv_dcmp hx hb dX0_floor_6 ?_
  refine lv_if_le (tgt := 17) hx hb dX0_floor_7 (by decide) (fun _ => ?_) (fun c_1 => absurd h2 c_1)
  refine lv_lload_n hx hb dX0_floor_17 rfl (lv_at hl 0 rfl) ?_
  refine lv_l2d hx hb dX0_floor_18 ?_
  exact rh_dret hx hb hr hlocks hC hH (Nat.le_of_ble_eq_true rfl) (Nat.le_of_ble_eq_true rfl) (⟨rfl, rfl, rfl⟩) dX0_floor_19

set_option maxHeartbeats 4000000 in
set_option maxRecDepth 100000 in
theorem log_loop {p : Program} {l : Launch} {e : Env} {R : Room} {s : State} {m : MethodId} {args : Array Value} {below : List Frame} {meth : Method} {c : Code} {D : va_G} {Z : Nat → Nat} {H : Heap} {locs : List Loc} {L : List Nat} {f : Nat → va_E} (v : UInt64) (it : Nat → UInt64) (n : Nat) (hn : n < 100) (h1 : ∀ k : Nat, k < n → ¬ (Op.cmpValue (FP.dcmp (it k) 4611686018427387904) .l < 0) ∧ vf_n64 (FP.ddiv (it k) 4611686018427387904) ∧ FP.ddiv (it k) 4611686018427387904 = it (k + 1)) (h2 : Op.cmpValue (FP.dcmp (it n) 4611686018427387904) .l < 0) (h3 : vf_n64 (FP.dsub (it n) FP.dconst1) ∧ vf_n64 (FP.dadd (FP.i2d (nI n)) (FP.dsub (it n) FP.dconst1))) (h4 : FP.dadd (FP.i2d (nI n)) (FP.dsub (it n) FP.dconst1) = v) (hx : p.tables.exec = Jvm.exec) (hb : c.code = cX0_log) (hr : meth.sig.returnType = some .double) (hlocks : meth.locks = false) (hown : s.vm.findClass RX0 = some m.cls) (hts : ∀ w ∈ lw_all, w.before args s = true) (hC : rhCx D Z s) (hH : rhHp D Z L f s H locs) :
    ∀ (d i : Nat), i ≤ n → n + 1 ≤ i + d → ∀ (ls : Array Slot), lv_has ls 5 [(2, .double (it i)), (4, .int (nI i))] → W p l e R s m args below meth c H locs 0 0 (MQ below (rhQd D Z (fun r L' f' => v = r ∧ L = L' ∧ f = f')) args s 0 0 (rhA Z)) (F0 m 5 ls []) := by
  intro d
  induction d with
  | zero => intro i h1 h2; omega
  | succ d ih =>
    intro i hi hid ls hl
    refine lv_dload_n hx hb dX0_log_5 rfl (lv_at hl 0 rfl) ?_
    refine lv_ldc2d hx hb hown (hts _ q148) dX0_log_6 ?_
    refine lv_dcmp hx hb dX0_log_9 ?_
    by_cases hin : i = n
    · subst hin
      refine lv_if_lt (tgt := 25) hx hb dX0_log_10 (by decide) (fun _ => ?_) (fun c_1 => absurd h2 c_1)
      refine lv_iload hx hb dX0_log_25 (lv_at hl 1 rfl) ?_
      refine lv_i2d hx hb dX0_log_27 ?_
      refine lv_dload_n hx hb dX0_log_28 rfl (lv_at hl 0 rfl) ?_
      refine lv_dconst1 hx hb dX0_log_29 ?_
      refine lv_dsub hx hb dX0_log_30 h3.1 ?_
      refine lv_dadd hx hb dX0_log_31 h3.2 ?_
      exact rh_dret hx hb hr hlocks hC hH (Nat.le_of_ble_eq_true rfl) (Nat.le_of_ble_eq_true rfl) (⟨h4.symm, rfl, rfl⟩) dX0_log_32
    · obtain ⟨g1, g2, g3⟩ := h1 i (by omega)
      refine lv_if_lt (tgt := 25) hx hb dX0_log_10 (by decide) (fun c_1 => absurd c_1 g1) (fun _ => ?_)
      refine lv_dload_n hx hb dX0_log_13 rfl (lv_at hl 0 rfl) ?_
      refine lv_ldc2d hx hb hown (hts _ q148) dX0_log_14 ?_
      refine lv_ddiv hx hb dX0_log_17 g2 ?_
      rw [g3]
      refine lv_dstore_n (lv' := [(2, .double (it (i + 1))), (4, .int (nI i))]) hx hb dX0_log_18 rfl hl (by decide) rfl (fun ls hl => ?_)
      refine lv_iinc (v := nI (i + 1)) (lv' := [(4, .int (nI (i + 1))), (2, .double (it (i + 1)))]) hx hb dX0_log_19 hl (k := 1) rfl (nI_1 i) (by decide) rfl (fun ls hl => ?_)
      refine lv_goto (tgt := 5) hx hb dX0_log_22 (by decide) ?_
      exact ih (i + 1) (by omega) (by omega) ls (lv_sub hl [1, 0] rfl)

set_option maxHeartbeats 4000000 in
set_option maxRecDepth 100000 in
theorem met_log (l : Launch) (D : va_G) (Z : Nat → Nat) (L : List Nat) (f : Nat → va_E) (x v : UInt64) (it : Nat → UInt64) (n : Nat) (hn : n < 100) (h0 : it 0 = x) (h1 : ∀ k : Nat, k < n → ¬ (Op.cmpValue (FP.dcmp (it k) 4611686018427387904) .l < 0) ∧ vf_n64 (FP.ddiv (it k) 4611686018427387904) ∧ FP.ddiv (it k) 4611686018427387904 = it (k + 1)) (h2 : Op.cmpValue (FP.dcmp (it n) 4611686018427387904) .l < 0) (h3 : vf_n64 (FP.dsub (it n) FP.dconst1) ∧ vf_n64 (FP.dadd (FP.i2d (nI n)) (FP.dsub (it n) FP.dconst1))) (h4 : FP.dadd (FP.i2d (nI n)) (FP.dsub (it n) FP.dconst1) = v) : Met l yX0_log (ws_ yX0_log cX0_log 5 (some .double)) ({ frames := 0, cells := 0, slots := 0, locals := 0 }) (rhPc D Z L f [.double x]) (rhQd D Z (fun r L' f' => v = r ∧ L = L' ∧ f = f')) 0 0 (rhA Z) := by
  refine rh_ofW (by decide +kernel) (Nat.le_of_ble_eq_true rfl) ?_
  intro p e s m args below meth c hx hb hr hlocks hml hown hin hts hC hH ls hl
  have hown : s.vm.findClass RX0 = some m.cls := hown
  have hl : lv_has ls 5 [(0, .double x)] := hl
  subst h0
  have hl : lv_has ls 5 [(0, .double (it 0))] := hl
  refine lv_dload_n hx hb dX0_log_0 rfl (lv_at hl 0 rfl) ?_
  refine lv_dstore_n (lv' := [(2, .double (it 0)), (0, .double (it 0))]) hx hb dX0_log_1 rfl hl (by decide) rfl (fun ls hl => ?_)
  refine lv_iconst (v := 0) hx hb dX0_log_2 (by decide) ?_
  refine lv_istore (lv' := [(4, .int 0), (2, .double (it 0)), (0, .double (it 0))]) hx hb dX0_log_3 hl (by decide) rfl (fun ls hl => ?_)
  exact log_loop v it n hn h1 h2 h3 h4 hx hb hr hlocks hown hts hC hH (n + 1) 0 (Nat.zero_le _) (by omega) ls (lv_sub hl [1, 0] rfl)

/-- 1048575 / 2^k, as a double -/
def rhY (k : Nat) : UInt64 := UInt64.ofNat (0x412ffffe00000000 - k * 2 ^ 52)
def rhT (k : Nat) : UInt64 := if k = 0 then 4611686018427387904 else FP.dconst1
theorem rhY_ok : ∀ k : Nat, k < 19 → ¬ (Op.cmpValue (FP.dcmp (rhY k) 4611686018427387904) .l < 0) ∧ (FP.ddiv (rhY k) 4611686018427387904 &&& 0x7fffffffffffffff ≤ 0x7ff0000000000000) ∧ FP.ddiv (rhY k) 4611686018427387904 = rhY (k + 1) := by decide +kernel
theorem rhY_end : Op.cmpValue (FP.dcmp (rhY 19) 4611686018427387904) .l < 0 := by decide +kernel
theorem rhY_n1 : FP.dsub (rhY 19) FP.dconst1 &&& 0x7fffffffffffffff ≤ 0x7ff0000000000000 := by decide +kernel
theorem rhY_n2 : FP.dadd (FP.i2d (nI 19)) (FP.dsub (rhY 19) FP.dconst1) &&& 0x7fffffffffffffff ≤ 0x7ff0000000000000 := by decide +kernel
theorem rhY_v : FP.dadd (FP.i2d (nI 19)) (FP.dsub (rhY 19) FP.dconst1) = 0x4033ffffe0000000 := by decide +kernel
theorem rhT_ok : ∀ k : Nat, k < 1 → ¬ (Op.cmpValue (FP.dcmp (rhT k) 4611686018427387904) .l < 0) ∧ (FP.ddiv (rhT k) 4611686018427387904 &&& 0x7fffffffffffffff ≤ 0x7ff0000000000000) ∧ FP.ddiv (rhT k) 4611686018427387904 = rhT (k + 1) := by decide +kernel
theorem rhT_end : Op.cmpValue (FP.dcmp (rhT 1) 4611686018427387904) .l < 0 := by decide +kernel
theorem rhT_n1 : FP.dsub (rhT 1) FP.dconst1 &&& 0x7fffffffffffffff ≤ 0x7ff0000000000000 := by decide +kernel
theorem rhT_n2 : FP.dadd (FP.i2d (nI 1)) (FP.dsub (rhT 1) FP.dconst1) &&& 0x7fffffffffffffff ≤ 0x7ff0000000000000 := by decide +kernel
theorem rhT_v : FP.dadd (FP.i2d (nI 1)) (FP.dsub (rhT 1) FP.dconst1) = 0x3ff0000000000000 := by decide +kernel
theorem rhY_d0 : FP.dsub (FP.l2d (lN 1048575)) (FP.l2d (lN 0)) &&& 0x7fffffffffffffff ≤ 0x7ff0000000000000 := by decide +kernel
theorem rhY_0 : FP.dsub (FP.l2d (lN 1048575)) (FP.l2d (lN 0)) = rhY 0 := by decide +kernel
theorem rhY_q0 : FP.ddiv 0x4033ffffe0000000 0x3ff0000000000000 &&& 0x7fffffffffffffff ≤ 0x7ff0000000000000 := by decide +kernel
theorem rhY_q : FP.ddiv 0x4033ffffe0000000 0x3ff0000000000000 = 0x4033ffffe0000000 := by decide +kernel
theorem rhY_l : FP.d2l 0x4033ffffe0000000 = 19 := by decide +kernel
theorem rhY_c : Op.cmpValue (FP.dcmp (FP.l2d 19) 0x4033ffffe0000000) .l ≤ 0 := by decide +kernel
theorem rhY_i : 3 + FP.d2i (FP.l2d 19) = nI 22 := by decide +kernel
set_option maxHeartbeats 4000000 in
set_option maxRecDepth 100000 in
theorem met_Abstract (l : Launch) (D : va_G) (Z : Nat → Nat) (L : List Nat) (f : Nat → va_E) (a : Nat) : Met l yX1_init (ws_ yX1_init cX1_init 1 (none)) ({ frames := 1, cells := 0, slots := 0, locals := 20 }) (rhPc D Z L f [.ref a]) (rhQv D Z (fun L' f' => L = L' ∧ f = f')) 0 0 (rhA Z) := by
  refine rh_ofW (by decide +kernel) (Nat.le_of_ble_eq_true rfl) ?_
  intro p e s m args below meth c hx hb hr hlocks hml hown hin hts hC hH ls hl
  have hown : s.vm.findClass RX1 = some m.cls := hown
  have hl : lv_has ls 1 [(0, .ref a)] := hl
  refine lv_aload_n hx hb dX1_init_0 rfl (lv_at hl 0 rfl) ?_
  refine W.objInit hx hb hown (hts _ q56) (hts _ q38) (hts _ q39) rfl (by rw [hml]; exact hl.1) rfl dX1_init_1 (Nat.le_of_ble_eq_true rfl) (Nat.le_of_ble_eq_true rfl) ?_
  refine W.eq (g2 := F0 m 4 ls []) rfl ?_
  exact rh_vret hx hb hr hlocks hC hH (Nat.le_of_ble_eq_true rfl) (Nat.le_of_ble_eq_true rfl) (⟨rfl, rfl⟩) dX1_init_4

set_option maxHeartbeats 4000000 in
set_option maxRecDepth 100000 in
theorem mkheap_loop {p : Program} {l : Launch} {e : Env} {s : State} {m : MethodId} {args : Array Value} {below : List Frame} {meth : Method} {c : Code} {D : va_G} {Z : Nat → Nat} {L : List Nat} {f : Nat → va_E} {h : Nat} (hx : p.tables.exec = Jvm.exec) (hb : c.code = cX2_init) (hr : meth.sig.returnType = none) (hlocks : meth.locks = false) (hml : c.maxLocals = 7) (hown : s.vm.findClass RX2 = some m.cls) (hts : ∀ w ∈ lw_all, w.before args s = true) (hC : rhCx D Z s) :
    ∀ (d i : Nat), i ≤ 22 → 22 + 1 ≤ i + d → ∀ (L1 : List Nat) (f1 : Nat → va_E) (la : Nat → Nat) (G : Nat → Option Nat) (z0 y0 x0 ba : Nat) (H : Heap) (locs : List Loc), h ∈ L1 → f1 h = .inr (1, [.ref ba, .long 0, .ref y0, .null, .int 0, .int 0, .ref z0, .ref x0]) → ba ∈ L1 → f1 ba = eRefs (D.1 101) 22 G → (∀ b ∈ L, b ≠ h → f1 b = f b) → (∀ b ∈ L, b ∈ L1) → ba ∉ L → rhLg Z L1 f1 y0 0 → rhLg Z L1 f1 x0 1048575 → (∀ j : Nat, j < i → la j ∈ L1 ∧ f1 (la j) = eAL 0 (Z 1) 0 ∧ G j = some (la j) ∧ la j ∉ L) → (∀ j1 j2 : Nat, j1 < i → j2 < i → la j1 = la j2 → j1 = j2) → rhHp D Z L1 f1 s H locs → ∀ (ls : Array Slot), lv_has ls 7 [(0, .ref h), (6, .int (nI i))] → W p l e ({ frames := 4, cells := 26, slots := 91, locals := 100 } : Room) s m args below meth c H locs (4 + i) (25 + 3 * i) (MQ below (rhQv D Z (fun L' f' => ∃ (ba : Nat) (la : Nat → Nat), rhHeap D Z L' f' h ba la (fun _ => Z 1) [] 0 ∧ (∀ b ∈ L, b ∈ L') ∧ (∀ b ∈ L, b ≠ h → f' b = f b) ∧ ba ∉ L ∧ ∀ i : Nat, i < 22 → la i ∉ L)) args s 26 91 (rhA Z)) (F0 m 107 ls []) := by
  intro d
  induction d with
  | zero => intro i h1 h2; omega
  | succ d ih =>
    intro i hi hid L1 f1 la G z0 y0 x0 ba H locs hhL hhf hbL hbf hfr hsub hbaL hgy hgx hla hinj hH ls hl
    refine lv_iload hx hb dX2_init_107 (lv_at hl 1 rfl) ?_
    refine lv_aload_n hx hb dX2_init_109 rfl (lv_at hl 0 rfl) ?_
    refine rh_get (ci := 1) (C := RX2) (T := TX2) (N := 8) hx hb hts in_X2 hown hC hH hhL hhf rfl 0 (by decide) (hts _ q184) (fun x9 h9 => u_same (hts _ q185) x9 h9) rfl dX2_init_110 ?_
    refine rh_alen hx hb hC hH hbL hbf (t0 := 1) rfl (v := nI 22) rfl dX2_init_113 ?_
    refine lv_icmp_ge (tgt := 137) hx hb dX2_init_114 (by decide) (fun c_1 => ?_) (fun c_1 => ?_)
    · have hi22 : i = 22 := by
        rcases Nat.lt_or_ge i 22 with q | q
        · exact absurd c_1 (nI_ge q (by decide))
        · omega
      subst hi22
      have h0f := hhf
      refine lv_aload_n hx hb dX2_init_137 rfl (lv_at hl 0 rfl) ?_
      refine lv_lconst (v := 0) hx hb dX2_init_138 (by decide) ?_
      refine rh_put (ci := 1) (v := .long 0) (ty := .long) (C := RX2) (T := TX2) (N := 8) hx hb hts in_X2 tyX2 tyX2_ok nmX2 hown hC hH hhL hhf rfl 1 (by decide) (hts _ q187) (fun x9 h9 => u_same (hts _ q188) x9 h9) rfl (by decide +kernel) rfl rfl (Nat.le_of_ble_eq_true rfl) dX2_init_139 (fun f17 H locs hu17 hfr17 hH => ?_)
      have hx18 : f17 ba = eRefs (D.1 101) 22 G := (hfr17 ba (rh_ne hbf hhf (by nofun))).trans hbf
      have hx19 : f17 h = .inr (1, [.ref ba, .long 0, .ref y0, .null, .int 0, .int 0, .ref z0, .ref x0]) := hu17
      refine lv_aload_n hx hb dX2_init_142 rfl (lv_at hl 0 rfl) ?_
      refine lv_null hx hb dX2_init_143 ?_
      refine rh_put (ci := 1) (v := .null) (ty := .object "java/lang/Object") (C := RX2) (T := TX2) (N := 8) hx hb hts in_X2 tyX2 tyX2_ok nmX2 hown hC hH hhL hx19 rfl 3 (by decide) (hts _ q193) (fun x9 h9 => u_same (hts _ q194) x9 h9) rfl (by decide +kernel) rfl rfl (Nat.le_of_ble_eq_true rfl) dX2_init_144 (fun f20 H locs hu20 hfr20 hH => ?_)
      have hx21 : f20 ba = eRefs (D.1 101) 22 G := (hfr20 ba (rh_ne hx18 hx19 (by nofun))).trans hx18
      have hx22 : f20 h = .inr (1, [.ref ba, .long 0, .ref y0, .null, .int 0, .int 0, .ref z0, .ref x0]) := hu20
      have hk2 : ∀ b ∈ L1, b ≠ h → f20 b = f1 b := fun b _ h9 => (hfr20 b h9).trans (hfr17 b h9)
      have hlg : ∀ b ∈ L1, ∀ k : Nat, f1 b = eLong k → f20 b = f1 b := fun b hb9 k9 e9 => hk2 b hb9 (rh_ne e9 h0f (by nofun))
      have hbk : rhBks D Z L1 f1 ba la (fun _ => Z 1) (fun _ => 0) (fun _ => []) := ⟨⟨hbL, G, hbf, fun j hj => (hla j hj).2.2.1⟩, fun j hj => ⟨(hla j hj).1, (hla j hj).2.1, fun _ h9 => absurd h9 List.not_mem_nil, Or.inl ⟨rfl, rfl⟩⟩, fun i j hi hj e9 => hinj i j hi hj e9, fun i j hi hj _ h9 => absurd rfl h9⟩
      have hheap : rhHeap D Z L1 f20 h ba la (fun _ => Z 1) [] 0 := ⟨fun _ => 0, fun _ => [], y0, z0, x0, none, 0, 0, ⟨hhL, hx22⟩, hbk.frO (fun _ h9 => h9) h0f (by decide) (by decide) hk2, ⟨hgy.fr (fun _ h9 => h9) (fun b hb9 => hlg b hb9 _), hgx.fr (fun _ h9 => h9) (fun b hb9 => hlg b hb9 _)⟩, ⟨by decide, fun i hi x hx9 => absurd hx9 List.not_mem_nil, by decide⟩, Or.inl ⟨rfl, rfl⟩⟩
      exact rh_vret hx hb hr hlocks hC hH (Nat.le_of_ble_eq_true rfl) (Nat.le_of_ble_eq_true rfl) (⟨ba, la, hheap, hsub, fun b hb9 h9 => (hk2 b (hsub b hb9) h9).trans (hfr b hb9 h9), hbaL, fun j hj => (hla j hj).2.2.2⟩) dX2_init_147
    · have hlt : i < 22 := by
        rcases Nat.lt_or_ge i 22 with q | q
        · exact q
        · exact absurd (nI_le q (by omega)) c_1
      refine lv_aload_n hx hb dX2_init_117 rfl (lv_at hl 0 rfl) ?_
      refine rh_get (ci := 1) (C := RX2) (T := TX2) (N := 8) hx hb hts in_X2 hown hC hH hhL hhf rfl 0 (by decide) (hts _ q184) (fun x9 h9 => u_same (hts _ q185) x9 h9) rfl dX2_init_118 ?_
      refine lv_iload hx hb dX2_init_121 (lv_at hl 1 rfl) ?_
      refine rh_new (ci := 4) (fs := [.int 0, .null, .int 0]) (C := RJ8) (T := TJ8) (N := 3) hx hb hts in_J8 tyJ8 tyJ8_ok hown (hts _ q155) (hts _ q156) (hts _ q20) hC hH rfl (fun j hj => by rcases (show j = 0 ∨ j = 1 ∨ j = 2 by omega) with rfl | rfl | rfl <;> rfl) (show 4 + i + 1 ≤ 26 by omega) (show 25 + 3 * i + 3 ≤ 91 by omega) dX2_init_123 (fun q f2 H hq hf2 hfq hH => ?_)
      refine lv_dup hx hb dX2_init_126 rfl ?_
      refine rh_kv hC hH (va_runI (As := []) (rest := [.ref q, .int (nI i), .ref ba]) ⟨hx, hb, hml, hown, hts⟩ (met_ArrayList l D Z (L1 ++ [q]) f2 q (.int 0) .null (rh_last L1 q) hf2) (cwI 0 hts (lw_meth q159) rfl rfl rfl (hts _ q20) (hts _ q157) (hts _ q158) rfl (by decide +kernel) ⟨Nat.le_of_ble_eq_true rfl, Nat.le_of_ble_eq_true rfl⟩) (rh_preS hC hH (.ref q :: [])) rfl rfl hl.1 rfl (lv_room (Nat.le_of_ble_eq_true rfl)) dX2_init_127 ⟨show 4 + i + 1 + 0 ≤ 26 by omega, show 25 + 3 * i + 3 + 0 ≤ 91 by omega⟩) (fun L23 f23 H locs hp23 hH => ?_)
      obtain ⟨rfl, h3, h4⟩ := hp23
      have hk3 : ∀ b ∈ L1, f23 b = f1 b := fun b hb9 => (h4 b (fun z => hq (by rw [← z]; exact hb9))).trans (hfq b hb9)
      have hbf3 := (hk3 ba hbL).trans hbf
      refine rh_aast (t0 := 1) hx hb hC hH (List.mem_append_left _ hbL) hbf3 rfl (rh_anyA hC hH (rh_last L1 q) h3) (vp_in_nI hlt (by decide)) dX2_init_130 (fun f24 H locs hu hfr4 hH => ?_)
      rw [nI_clamp (show i < 2 ^ 31 by omega)] at hu
      refine lv_iinc (v := nI (i + 1)) (lv' := [(6, .int (nI (i + 1))), (0, .ref h)]) hx hb dX2_init_131 hl (k := 1) rfl (nI_1 i) (by decide) rfl (fun ls hl => ?_)
      refine lv_goto (tgt := 107) hx hb dX2_init_134 (by decide) ?_
      have hk4 : ∀ b ∈ L1, b ≠ ba → f24 b = f1 b := fun b hb9 h9 => (hfr4 b h9).trans (hk3 b hb9)
      have hlg : ∀ b ∈ L1, ∀ k : Nat, f1 b = eLong k → f24 b = f1 b := fun b hb9 k9 e9 => hk4 b hb9 (rh_ne e9 hbf (by nofun))
      have hap : ∀ b ∈ L1, b ∈ L1 ++ [q] := fun _ h9 => List.mem_append_left _ h9
      refine W.widen (k := 4 + (i + 1)) (n := 25 + 3 * (i + 1)) (by omega) (by omega) ?_
      refine ih (i + 1) (by omega) (by omega) (L1 ++ [q]) f24 (va_up la i q) _ z0 y0 x0 ba H locs (hap _ hhL) ((hk4 h hhL (rh_ne hhf hbf (by nofun))).trans hhf) (hap _ hbL) hu (fun b hb9 h9 => (hk4 b (hsub b hb9) (fun z => hbaL (by rw [← z]; exact hb9))).trans (hfr b hb9 h9)) (fun b hb9 => hap _ (hsub b hb9)) hbaL (hgy.fr hap (fun b hb9 => hlg b hb9 _)) (hgx.fr hap (fun b hb9 => hlg b hb9 _)) (fun j hj => ?_) (fun j1 j2 hj1 hj2 e9 => ?_) hH ls (lv_sub hl [1, 0] rfl)
      · by_cases hji : j = i
        · subst hji
          rw [va_up_self]
          exact ⟨rh_last L1 q, (hfr4 q (fun z => hq (by rw [z]; exact hbL))).trans h3, va_up_self _ _ _, fun z => hq (hsub _ z)⟩
        · rw [va_up_ne _ _ hji]
          obtain ⟨g1, g2, g3, g4⟩ := hla j (by omega)
          exact ⟨hap _ g1, (hk4 _ g1 (rh_ne g2 hbf (by nofun))).trans g2, (va_up_ne _ _ hji).trans g3, g4⟩
      · by_cases h1 : j1 = i
        · subst h1
          by_cases h2 : j2 = j1
          · exact h2.symm
          · rw [va_up_self, va_up_ne _ _ h2] at e9
            exact absurd (hla j2 (by omega)).1 (by rw [← e9]; exact hq)
        · by_cases h2 : j2 = i
          · subst h2
            rw [va_up_self, va_up_ne _ _ h1] at e9
            exact absurd (hla j1 (by omega)).1 (by rw [e9]; exact hq)
          · rw [va_up_ne _ _ h1, va_up_ne _ _ h2] at e9
            exact hinj j1 j2 (by omega) (by omega) e9

set_option maxHeartbeats 4000000 in
set_option maxRecDepth 100000 in
theorem met_RadixHeap (l : Launch) (D : va_G) (Z : Nat → Nat) (L : List Nat) (f : Nat → va_E) (h : Nat) (hhL : h ∈ L) (hhf : f h = .inr (1, [.null, .long 0, .null, .null, .int 0, .int 0, .null, .null])) : Met l yX2_init (ws_ yX2_init cX2_init 7 (none)) ({ frames := 4, cells := 26, slots := 91, locals := 100 }) (rhPc D Z L f [.ref h, .long (lN 0), .long (lN 1048575)]) (rhQv D Z (fun L' f' => ∃ (ba : Nat) (la : Nat → Nat), rhHeap D Z L' f' h ba la (fun _ => Z 1) [] 0 ∧ (∀ b ∈ L, b ∈ L') ∧ (∀ b ∈ L, b ≠ h → f' b = f b) ∧ ba ∉ L ∧ ∀ i : Nat, i < 22 → la i ∉ L)) 26 91 (rhA Z) := by
  refine rh_ofW (by decide +kernel) (Nat.le_of_ble_eq_true rfl) ?_
  intro p e s m args below meth c hx hb hr hlocks hml hown hin hts hC hH ls hl
  have hown : s.vm.findClass RX2 = some m.cls := hown
  have hl : lv_has ls 7 [(0, .ref h), (1, .long (lN 0)), (3, .long (lN 1048575))] := hl
  refine lv_aload_n hx hb dX2_init_0 rfl (lv_at hl 0 rfl) ?_
  refine rh_kv hC hH (va_runI (As := []) (rest := []) ⟨hx, hb, hml, hown, hts⟩ (met_Abstract l D Z L f h) (cwI 0 hts (lw_meth q55) rfl rfl rfl (hts _ q9) (hts _ q53) (hts _ q54) rfl (by decide +kernel) ⟨Nat.le_of_ble_eq_true rfl, Nat.le_of_ble_eq_true rfl⟩) (rh_preS hC hH (.ref h :: [])) rfl rfl hl.1 rfl (lv_room (Nat.le_of_ble_eq_true rfl)) dX2_init_1 ⟨Nat.le_of_ble_eq_true rfl, Nat.le_of_ble_eq_true rfl⟩) (fun L1 f1 H locs hp1 hH => ?_)
  obtain ⟨rfl, rfl⟩ := hp1
  refine lv_lload_n hx hb dX2_init_4 rfl (lv_at hl 1 rfl) ?_
  refine lv_lconst (v := 0) hx hb dX2_init_5 (by decide) ?_
  refine W.lcmp hx hb dX2_init_6 ?_
  refine lv_if_ge (tgt := 20) hx hb dX2_init_7 (by decide) (fun _ => ?_) (fun c_1 => absurd (show 0 ≤ lg_cmp (lN 0) 0 by decide +kernel) c_1)
  have hsub : ∀ b ∈ L, b ∈ L := fun _ h9 => h9
  have hfr : ∀ b ∈ L, b ≠ h → f b = f b := fun _ _ _ => rfl
  refine lv_aload_n hx hb dX2_init_20 rfl (lv_at hl 0 rfl) ?_
  refine lv_lload_n hx hb dX2_init_21 rfl (lv_at hl 1 rfl) ?_
  refine rh_kr hC hH (va_runS (As := [.long (lN 0)]) (rest := [.ref h]) ⟨hx, hb, hml, hown, hts⟩ (met_valueOf l D Z L f 0 (by decide)) (va_cwS 1 hts (lw_S q124 q125 q16 q126) rfl rfl rfl (by decide +kernel) ⟨Nat.le_of_ble_eq_true rfl, Nat.le_of_ble_eq_true rfl⟩) (rh_preS hC hH [.long (lN 0)]) rfl rfl hl.1 rfl (lv_room (Nat.le_of_ble_eq_true rfl)) dX2_init_22 ⟨Nat.le_of_ble_eq_true rfl, Nat.le_of_ble_eq_true rfl⟩) (fun z2 L2 f2 H locs hp2 hH => ?_)
  obtain ⟨hg2, hs2, hf2⟩ := hp2
  have hg_z : rhLg Z L2 f2 z2 0 := hg2
  have hfr : ∀ b ∈ L, b ≠ h → f2 b = f b := fun b hb9 h9 => (hf2 b (hsub b hb9)).trans (hfr b hb9 h9)
  have hsub : ∀ b ∈ L, b ∈ L2 := fun b hb9 => hs2 b (hsub b hb9)
  have hxh2 : f2 h = .inr (1, [.null, .long 0, .null, .null, .int 0, .int 0, .null, .null]) := (hf2 h hhL).trans hhf
  have hhL2 : h ∈ L2 := hs2 _ hhL
  refine rh_put (ci := 1) (v := .ref z2) (ty := .object "java/lang/Object") (C := RX2) (T := TX2) (N := 8) hx hb hts in_X2 tyX2 tyX2_ok nmX2 hown hC hH hhL2 hxh2 rfl 6 (by decide) (hts _ q198) (fun x9 h9 => u_same (hts _ q199) x9 h9) rfl (by decide +kernel) rfl rfl (Nat.le_of_ble_eq_true rfl) dX2_init_25 (fun f3 H locs hu3 hfr3 hH => ?_)
  have hx4 : f3 h = .inr (1, [.null, .long 0, .null, .null, .int 0, .int 0, .ref z2, .null]) := hu3
  have hg_z : rhLg Z L2 f3 z2 0 := hg_z.fr (fun _ h9 => h9) (fun b hb9 e9 => hfr3 b (rh_ne e9 hxh2 (by nofun)))
  have hfr : ∀ b ∈ L, b ≠ h → f3 b = f b := fun b hb9 h9 => (hfr3 b h9).trans (hfr b hb9 h9)
  refine lv_aload_n hx hb dX2_init_28 rfl (lv_at hl 0 rfl) ?_
  refine lv_lload_n hx hb dX2_init_29 rfl (lv_at hl 1 rfl) ?_
  refine rh_kr hC hH (va_runS (As := [.long (lN 0)]) (rest := [.ref h]) ⟨hx, hb, hml, hown, hts⟩ (met_valueOf l D Z L2 f3 0 (by decide)) (va_cwS 1 hts (lw_S q124 q125 q16 q126) rfl rfl rfl (by decide +kernel) ⟨Nat.le_of_ble_eq_true rfl, Nat.le_of_ble_eq_true rfl⟩) (rh_preS hC hH [.long (lN 0)]) rfl rfl hl.1 rfl (lv_room (Nat.le_of_ble_eq_true rfl)) dX2_init_30 ⟨Nat.le_of_ble_eq_true rfl, Nat.le_of_ble_eq_true rfl⟩) (fun y5 L5 f5 H locs hp5 hH => ?_)
  obtain ⟨hg5, hs5, hf5⟩ := hp5
  have hg_z : rhLg Z L5 f5 z2 0 := hg_z.fr hs5 (fun b hb9 _ => hf5 b hb9)
  have hg_y : rhLg Z L5 f5 y5 0 := hg5
  have hfr : ∀ b ∈ L, b ≠ h → f5 b = f b := fun b hb9 h9 => (hf5 b (hsub b hb9)).trans (hfr b hb9 h9)
  have hsub : ∀ b ∈ L, b ∈ L5 := fun b hb9 => hs5 b (hsub b hb9)
  have hxh5 : f5 h = .inr (1, [.null, .long 0, .null, .null, .int 0, .int 0, .ref z2, .null]) := (hf5 h hhL2).trans hx4
  have hhL5 : h ∈ L5 := hs5 _ hhL2
  refine rh_put (ci := 1) (v := .ref y5) (ty := .object "java/lang/Object") (C := RX2) (T := TX2) (N := 8) hx hb hts in_X2 tyX2 tyX2_ok nmX2 hown hC hH hhL5 hxh5 rfl 2 (by decide) (hts _ q190) (fun x9 h9 => u_same (hts _ q191) x9 h9) rfl (by decide +kernel) rfl rfl (Nat.le_of_ble_eq_true rfl) dX2_init_33 (fun f6 H locs hu6 hfr6 hH => ?_)
  have hx7 : f6 h = .inr (1, [.null, .long 0, .ref y5, .null, .int 0, .int 0, .ref z2, .null]) := hu6
  have hg_z : rhLg Z L5 f6 z2 0 := hg_z.fr (fun _ h9 => h9) (fun b hb9 e9 => hfr6 b (rh_ne e9 hxh5 (by nofun)))
  have hg_y : rhLg Z L5 f6 y5 0 := hg_y.fr (fun _ h9 => h9) (fun b hb9 e9 => hfr6 b (rh_ne e9 hxh5 (by nofun)))
  have hfr : ∀ b ∈ L, b ≠ h → f6 b = f b := fun b hb9 h9 => (hfr6 b h9).trans (hfr b hb9 h9)
  refine lv_lload_n hx hb dX2_init_36 rfl (lv_at hl 2 rfl) ?_
  refine lv_lload_n hx hb dX2_init_37 rfl (lv_at hl 1 rfl) ?_
  refine W.lcmp hx hb dX2_init_38 ?_
  refine lv_if_ge (tgt := 52) hx hb dX2_init_39 (by decide) (fun _ => ?_) (fun c_1 => absurd (show 0 ≤ lg_cmp (lN 1048575) (lN 0) by decide +kernel) c_1)
  refine lv_aload_n hx hb dX2_init_52 rfl (lv_at hl 0 rfl) ?_
  refine lv_lload_n hx hb dX2_init_53 rfl (lv_at hl 2 rfl) ?_
  refine rh_kr hC hH (va_runS (As := [.long (lN 1048575)]) (rest := [.ref h]) ⟨hx, hb, hml, hown, hts⟩ (met_valueOf l D Z L5 f6 1048575 (by decide)) (va_cwS 1 hts (lw_S q124 q125 q16 q126) rfl rfl rfl (by decide +kernel) ⟨Nat.le_of_ble_eq_true rfl, Nat.le_of_ble_eq_true rfl⟩) (rh_preS hC hH [.long (lN 1048575)]) rfl rfl hl.1 rfl (lv_room (Nat.le_of_ble_eq_true rfl)) dX2_init_54 ⟨Nat.le_of_ble_eq_true rfl, Nat.le_of_ble_eq_true rfl⟩) (fun x8 L8 f8 H locs hp8 hH => ?_)
  obtain ⟨hg8, hs8, hf8⟩ := hp8
  have hg_z : rhLg Z L8 f8 z2 0 := hg_z.fr hs8 (fun b hb9 _ => hf8 b hb9)
  have hg_y : rhLg Z L8 f8 y5 0 := hg_y.fr hs8 (fun b hb9 _ => hf8 b hb9)
  have hg_x : rhLg Z L8 f8 x8 1048575 := hg8
  have hfr : ∀ b ∈ L, b ≠ h → f8 b = f b := fun b hb9 h9 => (hf8 b (hsub b hb9)).trans (hfr b hb9 h9)
  have hsub : ∀ b ∈ L, b ∈ L8 := fun b hb9 => hs8 b (hsub b hb9)
  have hxh8 : f8 h = .inr (1, [.null, .long 0, .ref y5, .null, .int 0, .int 0, .ref z2, .null]) := (hf8 h hhL5).trans hx7
  have hhL8 : h ∈ L8 := hs8 _ hhL5
  refine rh_put (ci := 1) (v := .ref x8) (ty := .object "java/lang/Object") (C := RX2) (T := TX2) (N := 8) hx hb hts in_X2 tyX2 tyX2_ok nmX2 hown hC hH hhL8 hxh8 rfl 7 (by decide) (hts _ q200) (fun x9 h9 => u_same (hts _ q201) x9 h9) rfl (by decide +kernel) rfl rfl (Nat.le_of_ble_eq_true rfl) dX2_init_57 (fun f9 H locs hu9 hfr9 hH => ?_)
  have hx10 : f9 h = .inr (1, [.null, .long 0, .ref y5, .null, .int 0, .int 0, .ref z2, .ref x8]) := hu9
  have hg_z : rhLg Z L8 f9 z2 0 := hg_z.fr (fun _ h9 => h9) (fun b hb9 e9 => hfr9 b (rh_ne e9 hxh8 (by nofun)))
  have hg_y : rhLg Z L8 f9 y5 0 := hg_y.fr (fun _ h9 => h9) (fun b hb9 e9 => hfr9 b (rh_ne e9 hxh8 (by nofun)))
  have hg_x : rhLg Z L8 f9 x8 1048575 := hg_x.fr (fun _ h9 => h9) (fun b hb9 e9 => hfr9 b (rh_ne e9 hxh8 (by nofun)))
  have hfr : ∀ b ∈ L, b ≠ h → f9 b = f b := fun b hb9 h9 => (hfr9 b h9).trans (hfr b hb9 h9)
  refine lv_lload_n hx hb dX2_init_60 rfl (lv_at hl 2 rfl) ?_
  refine lv_lload_n hx hb dX2_init_61 rfl (lv_at hl 1 rfl) ?_
  refine W.lcmp hx hb dX2_init_62 ?_
  refine lv_if_ne (tgt := 72) hx hb dX2_init_63 (by decide) (fun _ => ?_) (fun c_1 => absurd c_1 (show ¬ lg_cmp (lN 1048575) (lN 0) = 0 by decide +kernel))
  refine lv_iconst (v := 3) hx hb dX2_init_72 (by decide) ?_
  refine lv_lload_n hx hb dX2_init_73 rfl (lv_at hl 2 rfl) ?_
  refine lv_l2d hx hb dX2_init_74 ?_
  refine lv_lload_n hx hb dX2_init_75 rfl (lv_at hl 1 rfl) ?_
  refine lv_l2d hx hb dX2_init_76 ?_
  refine lv_dsub hx hb dX2_init_77 rhY_d0 ?_
  rw [rhY_0]
  refine rh_kd hC hH (va_runS (As := [.double (rhY 0)]) (rest := [.int 3]) ⟨hx, hb, hml, hown, hts⟩ (met_log l D Z L8 f9 (rhY 0) 0x4033ffffe0000000 rhY 19 (by decide) rfl rhY_ok rhY_end ⟨rhY_n1, rhY_n2⟩ rhY_v) (va_cwS 1 hts (lw_S q145 q146 q8 q147) rfl rfl rfl (by decide +kernel) ⟨Nat.le_of_ble_eq_true rfl, Nat.le_of_ble_eq_true rfl⟩) (rh_preS hC hH [.double (rhY 0)]) rfl rfl hl.1 rfl (lv_room (Nat.le_of_ble_eq_true rfl)) dX2_init_78 ⟨Nat.le_of_ble_eq_true rfl, Nat.le_of_ble_eq_true rfl⟩) (fun r11 L11 f11 H locs hp11 hH => ?_)
  obtain ⟨rfl, rfl, rfl⟩ := hp11
  refine lv_ldc2d hx hb hown (hts _ q149) dX2_init_81 ?_
  refine rh_kd hC hH (va_runS (As := [.double 4611686018427387904]) (rest := [.double 0x4033ffffe0000000, .int 3]) ⟨hx, hb, hml, hown, hts⟩ (met_log l D Z L8 f9 4611686018427387904 0x3ff0000000000000 rhT 1 (by decide) rfl rhT_ok rhT_end ⟨rhT_n1, rhT_n2⟩ rhT_v) (va_cwS 1 hts (lw_S q145 q146 q8 q147) rfl rfl rfl (by decide +kernel) ⟨Nat.le_of_ble_eq_true rfl, Nat.le_of_ble_eq_true rfl⟩) (rh_preS hC hH [.double 4611686018427387904]) rfl rfl hl.1 rfl (lv_room (Nat.le_of_ble_eq_true rfl)) dX2_init_84 ⟨Nat.le_of_ble_eq_true rfl, Nat.le_of_ble_eq_true rfl⟩) (fun r12 L12 f12 H locs hp12 hH => ?_)
  obtain ⟨rfl, rfl, rfl⟩ := hp12
  refine lv_ddiv hx hb dX2_init_87 rhY_q0 ?_
  rw [rhY_q]
  refine rh_kd hC hH (va_runS (As := [.double 0x4033ffffe0000000]) (rest := [.int 3]) ⟨hx, hb, hml, hown, hts⟩ (met_floor l D Z L8 f9 0x4033ffffe0000000 19 rhY_l rhY_c) (va_cwS 1 hts (lw_S q150 q151 q8 q152) rfl rfl rfl (by decide +kernel) ⟨Nat.le_of_ble_eq_true rfl, Nat.le_of_ble_eq_true rfl⟩) (rh_preS hC hH [.double 0x4033ffffe0000000]) rfl rfl hl.1 rfl (lv_room (Nat.le_of_ble_eq_true rfl)) dX2_init_88 ⟨Nat.le_of_ble_eq_true rfl, Nat.le_of_ble_eq_true rfl⟩) (fun r13 L13 f13 H locs hp13 hH => ?_)
  obtain ⟨rfl, rfl, rfl⟩ := hp13
  refine lv_d2i hx hb dX2_init_91 ?_
  refine lv_iadd hx hb dX2_init_92 ?_
  rw [rhY_i]
  refine lv_istore (lv' := [(5, .int (nI 22)), (0, .ref h), (1, .long (lN 0)), (3, .long (lN 1048575))]) hx hb dX2_init_93 hl (by decide) rfl (fun ls hl => ?_)
  refine lv_aload_n hx hb dX2_init_95 rfl (lv_at hl 1 rfl) ?_
  refine lv_iload hx hb dX2_init_96 (lv_at hl 0 rfl) ?_
  refine rh_newq (t0 := 1) (N := 22) hx hb hown (hts _ q153) hC.oList hC hH rfl (nI_pos (by decide)) (nI_clamp (by decide)) (by decide) (Nat.le_of_ble_eq_true rfl) (Nat.le_of_ble_eq_true rfl) dX2_init_98 (fun ba f0 H hq hf1 hfb hH => ?_)
  have hxh : f0 h = .inr (1, [.null, .long 0, .ref y5, .null, .int 0, .int 0, .ref z2, .ref x8]) := (hfb h hhL8).trans hx10
  have hg_z : rhLg Z (L8 ++ [ba]) f0 z2 0 := hg_z.fr (fun _ h9 => List.mem_append_left _ h9) (fun b hb9 _ => hfb b hb9)
  have hg_y : rhLg Z (L8 ++ [ba]) f0 y5 0 := hg_y.fr (fun _ h9 => List.mem_append_left _ h9) (fun b hb9 _ => hfb b hb9)
  have hg_x : rhLg Z (L8 ++ [ba]) f0 x8 1048575 := hg_x.fr (fun _ h9 => List.mem_append_left _ h9) (fun b hb9 _ => hfb b hb9)
  have hfr : ∀ b ∈ L, b ≠ h → f0 b = f b := fun b hb9 h9 => (hfb b (hsub b hb9)).trans (hfr b hb9 h9)
  have hbaL : ba ∉ L := fun z => hq (hsub _ z)
  have hsub : ∀ b ∈ L, b ∈ L8 ++ [ba] := fun b hb9 => List.mem_append_left _ (hsub b hb9)
  refine rh_put (ci := 1) (v := .ref ba) (ty := .array (.object "java/util/List")) (C := RX2) (T := TX2) (N := 8) hx hb hts in_X2 tyX2 tyX2_ok nmX2 hown hC hH (List.mem_append_left _ hhL8) hxh rfl 0 (by decide) (hts _ q184) (fun x9 h9 => u_same (hts _ q185) x9 h9) rfl (by decide +kernel) rfl rfl (Nat.le_of_ble_eq_true rfl) dX2_init_101 (fun f14 H locs hu14 hfr14 hH => ?_)
  have hx15 : f14 ba = eRefs (D.1 101) 22 (fun _ => none) := (hfr14 ba (rh_ne hf1 hxh (by nofun))).trans hf1
  have hx16 : f14 h = .inr (1, [.ref ba, .long 0, .ref y5, .null, .int 0, .int 0, .ref z2, .ref x8]) := hu14
  have hg_z : rhLg Z (L8 ++ [ba]) f14 z2 0 := hg_z.fr (fun _ h9 => h9) (fun b hb9 e9 => hfr14 b (rh_ne e9 hxh (by nofun)))
  have hg_y : rhLg Z (L8 ++ [ba]) f14 y5 0 := hg_y.fr (fun _ h9 => h9) (fun b hb9 e9 => hfr14 b (rh_ne e9 hxh (by nofun)))
  have hg_x : rhLg Z (L8 ++ [ba]) f14 x8 1048575 := hg_x.fr (fun _ h9 => h9) (fun b hb9 e9 => hfr14 b (rh_ne e9 hxh (by nofun)))
  have hfr : ∀ b ∈ L, b ≠ h → f14 b = f b := fun b hb9 h9 => (hfr14 b h9).trans (hfr b hb9 h9)
  refine lv_iconst (v := 0) hx hb dX2_init_104 (by decide) ?_
  refine lv_istore (lv' := [(6, .int 0), (5, .int (nI 22)), (0, .ref h), (1, .long (lN 0)), (3, .long (lN 1048575))]) hx hb dX2_init_105 hl (by decide) rfl (fun ls hl => ?_)
  refine W.widen (k := 4 + 0) (n := 25 + 3 * 0) (Nat.le_of_ble_eq_true rfl) (Nat.le_of_ble_eq_true rfl) ?_
  exact mkheap_loop hx hb hr hlocks hml hown hts hC 23 0 (by decide) (by decide) _ _ (fun _ => 0) (fun _ => none) z2 y5 x8 ba H locs (List.mem_append_left _ hhL8) hx16 (rh_last L8 ba) hx15 hfr hsub hbaL hg_y hg_x (fun j hj => absurd hj (Nat.not_lt_zero j)) (fun i j hi => absurd hi (Nat.not_lt_zero i)) hH ls (lv_sub hl [2, 0] rfl)

set_option maxHeartbeats 4000000 in
set_option maxRecDepth 100000 in
theorem met_fresh (l : Launch) (D : va_G) (Z : Nat → Nat) (L : List Nat) (f : Nat → va_E)  : Met l yX0_fresh (ws_ yX0_fresh cX0_fresh 0 (some (.object "LongRadixHeap"))) ({ frames := 5, cells := 27, slots := 99, locals := 130 }) (rhPc D Z L f []) (rhQr D Z (fun r L' f' => r ∉ L ∧ ∃ (ba : Nat) (la : Nat → Nat), rhHeap D Z L' f' r ba la (fun _ => Z 1) [] 0 ∧ (∀ b ∈ L, b ∈ L') ∧ (∀ b ∈ L, f' b = f b) ∧ ba ∉ L ∧ ∀ i : Nat, i < 22 → la i ∉ L)) 27 99 (rhA Z) := by
  refine rh_ofW (by decide +kernel) (Nat.le_of_ble_eq_true rfl) ?_
  intro p e s m args below meth c hx hb hr hlocks hml hown hin hts hC hH ls hl
  have hown : s.vm.findClass RX0 = some m.cls := hown
  have hl : lv_has ls 0 [] := hl
  refine rh_new (ci := 1) (fs := [.null, .long 0, .null, .null, .int 0, .int 0, .null, .null]) (C := RX2) (T := TX2) (N := 8) hx hb hts in_X2 tyX2 tyX2_ok hown (hts _ q43) (hts _ q48) (hts _ q10) hC hH rfl (fun j hj => by rcases (show j = 0 ∨ j = 1 ∨ j = 2 ∨ j = 3 ∨ j = 4 ∨ j = 5 ∨ j = 6 ∨ j = 7 by omega) with rfl | rfl | rfl | rfl | rfl | rfl | rfl | rfl <;> rfl) (Nat.le_of_ble_eq_true rfl) (Nat.le_of_ble_eq_true rfl) dX0_fresh_0 (fun q f1 H hq hf1 hfq hH => ?_)
  refine lv_dup hx hb dX0_fresh_3 rfl ?_
  refine lv_lconst (v := 0) hx hb dX0_fresh_4 (by decide) ?_
  refine lv_ldc2 hx hb hown (hts _ q49) dX0_fresh_5 ?_
  refine rh_kv hC hH (va_runI (As := [.long 0, .long 1048575]) (rest := [.ref q]) ⟨hx, hb, hml, hown, hts⟩ (met_RadixHeap l D Z (L ++ [q]) f1 q (rh_last L q) hf1) (cwI 2 hts (lw_meth q52) rfl rfl rfl (hts _ q10) (hts _ q50) (hts _ q51) rfl (by decide +kernel) ⟨Nat.le_of_ble_eq_true rfl, Nat.le_of_ble_eq_true rfl⟩) (rh_preS hC hH (.ref q :: [.long 0, .long 1048575])) rfl rfl hl.1 rfl (lv_room (Nat.le_of_ble_eq_true rfl)) dX0_fresh_8 ⟨Nat.le_of_ble_eq_true rfl, Nat.le_of_ble_eq_true rfl⟩) (fun L25 f25 H locs hp25 hH => ?_)
  obtain ⟨ba, la, h1, h2, h3, h4, h5⟩ := hp25
  exact rh_aret (v := q) hx hb hr (Or.inl ⟨_, rfl⟩) hlocks hC hH (Nat.le_of_ble_eq_true rfl) (Nat.le_of_ble_eq_true rfl) (⟨hq, ba, la, h1, fun b hb9 => h2 b (List.mem_append_left _ hb9), fun b hb9 => (h3 b (List.mem_append_left _ hb9) (fun z => hq (by rw [← z]; exact hb9))).trans (hfq b hb9), fun z => h4 (List.mem_append_left _ z), fun i hi z => h5 i hi (List.mem_append_left _ z)⟩) dX0_fresh_11
end
section
/-! AbstractRadixHeap: isEmpty, size, findMin, insert (printed by tools/p13.py) -/
theorem rhPure.ins {B : Nat → List (Nat × Nat)} {ks : List Nat} {lv x k : Nat} (h : rhPure B ks lv) (h1 : lv ≤ k) (h2 : k < 2 ^ 20) : rhPure (va_up B (rhBk k lv) (B (rhBk k lv) ++ [(x, k)])) (k :: ks) lv := by
  have hb : rhBk k lv < 22 := by have := rb_bound h2 h.1; omega
  refine ⟨h.1, fun i hi y hy => ?_, (h.2.2.cons k).trans (rhFl_add hb (x, k)).symm⟩
  by_cases hib : i = rhBk k lv
  · subst hib
    rw [va_up_self] at hy
    rcases List.mem_append.mp hy with hy | hy
    · exact h.2.1 _ hi y hy
    · rw [List.mem_singleton.mp hy]; exact ⟨h1, h2, rfl⟩
  · rw [va_up_ne _ _ hib] at hy
    exact h.2.1 _ hi y hy
theorem rhMin.insNew {B : Nat → List (Nat × Nat)} {ks : List Nat} {b x k : Nat} (hb : b < 22) (hk : ∀ j ∈ ks, k ≤ j) : rhMin (va_up B b (B b ++ [(x, k)])) (k :: ks) (some (x, k)) (nI b) (nI (B b).length) := by
  refine Or.inr ⟨(x, k), b, (B b).length, rfl, rfl, rfl, hb, ?_, fun j hj => ?_⟩
  · rw [va_up_self, List.getElem?_append_right (Nat.le_refl _), Nat.sub_self]; rfl
  · rcases List.mem_cons.mp hj with h | h
    · rw [h]; exact Nat.le_refl _
    · exact hk j h
theorem rhMin.insKeep {B : Nat → List (Nat × Nat)} {ks : List Nat} {b x k b0 q0 : Nat} {m : Nat × Nat} (hb0 : b0 < 22) (hq : (B b0)[q0]? = some m) (hm : ∀ j ∈ ks, m.2 ≤ j) (hk : m.2 ≤ k) : rhMin (va_up B b (B b ++ [(x, k)])) (k :: ks) (some m) (nI b0) (nI q0) := by
  refine Or.inr ⟨m, b0, q0, rfl, rfl, rfl, hb0, ?_, fun j hj => ?_⟩
  · by_cases h : b0 = b
    · subst h
      rw [va_up_self, List.getElem?_append_left (List.getElem?_eq_some_iff.mp hq).1]; exact hq
    · rw [va_up_ne _ _ h]; exact hq
  · rcases List.mem_cons.mp hj with h | h
    · rw [h]; exact hk
    · exact hm j h
/-- a cell of the pool that is no element array isn't ea -/
theorem rh_nea {D : va_G} {Z : Nat → Nat} {L : List Nat} {f : Nat → va_E} {ea a : Nat} {xs : List (Nat × Nat)} {y : va_E} (h : rhEl D Z L f ea xs) (hZ : Z 1 ∉ L) (ha : a ∈ L) (hf : f a = y) (hy : ∀ (n : Nat) (F : Nat → Option Nat), y ≠ eRefs (D.1 100) n F) : a ≠ ea := by
  intro z
  rcases h.2 with ⟨-, q⟩ | ⟨-, cap, F, q, -⟩
  · exact hZ (by rw [← q, ← z]; exact ha)
  · exact hy cap F (by rw [← hf, z, q])
theorem rhCx.dne {D : va_G} {Z : Nat → Nat} {s : State} (h : rhCx D Z s) : D.1 100 ≠ D.1 101 := h.wd.2.2.2.2.2.2.2.1
theorem cmp_le {i j : Nat} : rhCmp i j ≤ 0 ↔ i ≤ j := by
  unfold rhCmp
  by_cases h : i < j
  · rw [if_pos h]; exact ⟨fun _ => by omega, fun _ => by decide⟩
  · rw [if_neg h]
    by_cases h2 : j < i
    · rw [if_pos h2]; exact ⟨fun z => absurd z (by decide), fun z => by omega⟩
    · rw [if_neg h2]; exact ⟨fun _ => by omega, fun _ => by decide⟩
theorem cmp_ge {i j : Nat} : 0 ≤ rhCmp i j ↔ j ≤ i := by
  unfold rhCmp
  by_cases h : i < j
  · rw [if_pos h]; exact ⟨fun z => absurd z (by decide), fun z => by omega⟩
  · rw [if_neg h]
    by_cases h2 : j < i
    · rw [if_pos h2]; exact ⟨fun _ => by omega, fun _ => by decide⟩
    · rw [if_neg h2]; exact ⟨fun _ => by omega, fun _ => by decide⟩
set_option maxHeartbeats 4000000 in
set_option maxRecDepth 100000 in
theorem met_hIsEmpty (l : Launch) (D : va_G) (Z : Nat → Nat) (L : List Nat) (f : Nat → va_E) (h ba : Nat) (la ea : Nat → Nat) (ks : List Nat) (lv : Nat) (hh : rhHeap D Z L f h ba la ea ks lv) (hn : ks.length < 2 ^ 31) : Met l yX1_isEmpty (ws_ yX1_isEmpty cX1_isEmpty 1 (some .boolean)) ({ frames := 0, cells := 0, slots := 0, locals := 0 }) (rhPc D Z L f [.ref h]) (rhQi D Z (fun r L' f' => (if ks.length = 0 then (1 : Int32) else 0) = r ∧ L = L' ∧ f = f')) 0 0 (rhA Z) := by
  refine rh_ofW (by decide +kernel) (Nat.le_of_ble_eq_true rfl) ?_
  intro p e s m args below meth c hx hb hr hlocks hml hown hin hts hC hH ls hl
  have hown : s.vm.findClass RX1 = some m.cls := hown
  have hl : lv_has ls 1 [(0, .ref h)] := hl
  obtain ⟨md, B, ls0, mn, mx, cm, cb, cp, ⟨hhL, hhf⟩, hBk, ⟨hls, hmx⟩, hpu, hmin⟩ := hh
  refine lv_aload_n hx hb dX1_isEmpty_0 rfl (lv_at hl 0 rfl) ?_
  refine rh_get (ci := 1) (C := RX2) (T := TX2) (N := 8) hx hb hts in_X2 hown hC hH hhL hhf rfl 1 (by decide) (hts _ q189) (fun _ h9 => h9) rfl dX1_isEmpty_1 ?_
  refine lv_lconst (v := 0) hx hb dX1_isEmpty_4 (by decide) ?_
  refine W.lcmp hx hb dX1_isEmpty_5 ?_
  refine lv_if_ne (tgt := 13) hx hb dX1_isEmpty_6 (by decide) (fun c_1 => ?_) (fun c_1 => ?_)
  · have h1 : ¬ ks.length = 0 := fun z => c_1 ((lg_cmp_eq _ _).mpr (by rw [z]; rfl))
    refine lv_iconst (v := 0) hx hb dX1_isEmpty_13 (by decide) ?_
    exact rh_zret hx hb hr (by decide) hlocks hC hH (Nat.le_of_ble_eq_true rfl) (Nat.le_of_ble_eq_true rfl) (⟨if_neg h1, rfl, rfl⟩) dX1_isEmpty_14
  · have h1 : ks.length = 0 := (pk_lEQ (b := 0) (by omega) (by decide)).mp ((lg_cmp_eq _ _).mp c_1)
    refine lv_iconst (v := 1) hx hb dX1_isEmpty_9 (by decide) ?_
    refine lv_goto (tgt := 14) hx hb dX1_isEmpty_10 (by decide) ?_
    exact rh_zret hx hb hr (by decide) hlocks hC hH (Nat.le_of_ble_eq_true rfl) (Nat.le_of_ble_eq_true rfl) (⟨if_pos h1, rfl, rfl⟩) dX1_isEmpty_14

set_option maxHeartbeats 4000000 in
set_option maxRecDepth 100000 in
theorem met_hSize (l : Launch) (D : va_G) (Z : Nat → Nat) (L : List Nat) (f : Nat → va_E) (h ba : Nat) (la ea : Nat → Nat) (ks : List Nat) (lv : Nat) (hh : rhHeap D Z L f h ba la ea ks lv)  : Met l yX1_size (ws_ yX1_size cX1_size 1 (some .long)) ({ frames := 0, cells := 0, slots := 0, locals := 0 }) (rhPc D Z L f [.ref h]) (rhQl D Z (fun r L' f' => lN ks.length = r ∧ L = L' ∧ f = f')) 0 0 (rhA Z) := by
  refine rh_ofW (by decide +kernel) (Nat.le_of_ble_eq_true rfl) ?_
  intro p e s m args below meth c hx hb hr hlocks hml hown hin hts hC hH ls hl
  have hown : s.vm.findClass RX1 = some m.cls := hown
  have hl : lv_has ls 1 [(0, .ref h)] := hl
  obtain ⟨md, B, ls0, mn, mx, cm, cb, cp, ⟨hhL, hhf⟩, hBk, ⟨hls, hmx⟩, hpu, hmin⟩ := hh
  refine lv_aload_n hx hb dX1_size_0 rfl (lv_at hl 0 rfl) ?_
  refine rh_get (ci := 1) (C := RX2) (T := TX2) (N := 8) hx hb hts in_X2 hown hC hH hhL hhf rfl 1 (by decide) (hts _ q189) (fun _ h9 => h9) rfl dX1_size_1 ?_
  exact rh_lret hx hb hr hlocks hC hH (Nat.le_of_ble_eq_true rfl) (Nat.le_of_ble_eq_true rfl) (⟨rfl, rfl, rfl⟩) dX1_size_4

set_option maxHeartbeats 4000000 in
set_option maxRecDepth 100000 in
theorem met_findMin (l : Launch) (D : va_G) (Z : Nat → Nat) (L : List Nat) (f : Nat → va_E) (h ba : Nat) (la ea : Nat → Nat) (ks : List Nat) (lv : Nat) (hh : rhHeap D Z L f h ba la ea ks lv) (hn : ks.length < 2 ^ 31) (h0 : ks.length ≠ 0) : Met l yX1_findMin (ws_ yX1_findMin cX1_findMin 1 (some (.object "java/lang/Object"))) ({ frames := 0, cells := 0, slots := 0, locals := 0 }) (rhPc D Z L f [.ref h]) (rhQr D Z (fun r L' f' => L = L' ∧ f = f' ∧ ∃ k : Nat, rhLg Z L f r k ∧ k ∈ ks ∧ k < 2 ^ 20 ∧ ∀ j ∈ ks, k ≤ j)) 0 0 (rhA Z) := by
  refine rh_ofW (by decide +kernel) (Nat.le_of_ble_eq_true rfl) ?_
  intro p e s m args below meth c hx hb hr hlocks hml hown hin hts hC hH ls hl
  have hown : s.vm.findClass RX1 = some m.cls := hown
  have hl : lv_has ls 1 [(0, .ref h)] := hl
  obtain ⟨md, B, ls0, mn, mx, cm, cb, cp, ⟨hhL, hhf⟩, hBk, ⟨hls, hmx⟩, hpu, hmin⟩ := hh
  rcases hmin with ⟨z, -⟩ | ⟨m0, b0, q0, rfl, rfl, rfl, hb0, hq0, hm0⟩
  · rw [z] at h0; exact absurd rfl h0
  have hhf : f h = .inr (1, [.ref ba, .long (lN ks.length), .ref ls0, .ref m0.1, .int (nI b0), .int (nI q0), .ref mn, .ref mx]) := hhf
  refine lv_aload_n hx hb dX1_findMin_0 rfl (lv_at hl 0 rfl) ?_
  refine rh_get (ci := 1) (C := RX2) (T := TX2) (N := 8) hx hb hts in_X2 hown hC hH hhL hhf rfl 1 (by decide) (hts _ q189) (fun _ h9 => h9) rfl dX1_findMin_1 ?_
  refine lv_lconst (v := 0) hx hb dX1_findMin_4 (by decide) ?_
  refine W.lcmp hx hb dX1_findMin_5 ?_
  refine lv_if_ne (tgt := 17) hx hb dX1_findMin_6 (by decide) (fun _ => ?_) (fun c_1 => absurd ((pk_lEQ (b := 0) (by omega) (by decide)).mp ((lg_cmp_eq _ _).mp c_1)) h0)
  refine lv_aload_n hx hb dX1_findMin_17 rfl (lv_at hl 0 rfl) ?_
  refine rh_get (ci := 1) (C := RX2) (T := TX2) (N := 8) hx hb hts in_X2 hown hC hH hhL hhf rfl 3 (by decide) (hts _ q195) (fun _ h9 => h9) rfl dX1_findMin_18 ?_
  have hm1 : m0 ∈ B b0 := List.mem_of_getElem? hq0
  exact rh_aret hx hb hr (Or.inl ⟨_, rfl⟩) hlocks hC hH (Nat.le_of_ble_eq_true rfl) (Nat.le_of_ble_eq_true rfl) (⟨rfl, rfl, m0.2, (hBk.2.1 b0 hb0).2.2.1 m0 hm1, (hpu.2.2.mem_iff).mpr (rhFl_mem.mpr ⟨b0, hb0, m0, hm1, rfl⟩), (hpu.2.1 b0 hb0 m0 hm1).2.1, hm0⟩) dX1_findMin_21

set_option maxHeartbeats 4000000 in
set_option maxRecDepth 100000 in
theorem met_insert (l : Launch) (D : va_G) (Z : Nat → Nat) (L : List Nat) (f : Nat → va_E) (h ba : Nat) (la ea : Nat → Nat) (ks : List Nat) (lv : Nat) (hh : rhHeap D Z L f h ba la ea ks lv) (x k : Nat) (hk : rhLg Z L f x k) (hk1 : lv ≤ k) (hk2 : k < 2 ^ 20) (hn : ks.length < 64) : Met l yX1_insert (ws_ yX1_insert cX1_insert 3 (none)) ({ frames := 7, cells := 1, slots := 96, locals := 200 }) (rhPc D Z L f [.ref h, .ref x]) (rhQv D Z (fun L' f' => ∃ ea' : Nat → Nat, rhHeap D Z L' f' h ba la ea' (k :: ks) lv ∧ (∀ b ∈ L, b ∈ L') ∧ (∀ b ∈ L, ¬ rhFT Z h ba la ea b → f' b = f b) ∧ (∀ i : Nat, i < 22 → ea' i = ea i ∨ ea' i ∉ L))) 1 96 (rhA Z) := by
  refine rh_ofW (by decide +kernel) (Nat.le_of_ble_eq_true rfl) ?_
  intro p e s m args below meth c hx hb hr hlocks hml hown hin hts hC hH ls hl
  have hown : s.vm.findClass RX1 = some m.cls := hown
  have hl : lv_has ls 3 [(0, .ref h), (1, .ref x)] := hl
  obtain ⟨md, B, ls0, mn, mx, cm, cb, cp, ⟨hhL, hhf⟩, hBk, ⟨hls, hmx⟩, hpu, hmin⟩ := hh
  have hZ := rh_Z1 hC hH
  have hk3 : k ≤ 1048575 := by omega
  have hbk : rhBk k lv < 22 := by have := rb_bound hk2 hpu.1; omega
  obtain ⟨hbaL, G, hbaf, hG⟩ := hBk.1
  obtain ⟨hlaL, hlaf, hlae⟩ := hBk.2.1 _ hbk
  refine lv_aload_n hx hb dX1_insert_0 rfl (lv_at hl 1 rfl) ?_
  refine lv_ifnonnull (tgt := 14) hx hb dX1_insert_1 (by decide) ?_
  refine lv_aload_n hx hb dX1_insert_14 rfl (lv_at hl 0 rfl) ?_
  refine lv_aload_n hx hb dX1_insert_15 rfl (lv_at hl 1 rfl) ?_
  refine lv_aload_n hx hb dX1_insert_16 rfl (lv_at hl 0 rfl) ?_
  refine rh_get (ci := 1) (C := RX2) (T := TX2) (N := 8) hx hb hts in_X2 hown hC hH hhL hhf rfl 7 (by decide) (hts _ q202) (fun _ h9 => h9) rfl dX1_insert_17 ?_
  refine rh_ki hC hH (va_runU (As := [.ref x, .ref mx]) (rest := []) ⟨hx, hb, hml, hown, hts⟩ (met_compare l D Z L f h x mx k 1048575 _ hhL hhf hk2 (by decide) hk hmx) (va_cwA (owner := "AbstractRadixHeap") (C := "LongRadixHeap") 2 hts (lw_U q249 q251 q252 q253 q10 q254) rfl rfl rfl hC.dCmp (by decide +kernel) ⟨Nat.le_of_ble_eq_true rfl, Nat.le_of_ble_eq_true rfl⟩) (rh_preV hC hH [.ref x, .ref mx] (rh_recv hC hH hhL hhf (q := (RX2, TX2, 8)) rfl)) rfl rfl hl.1 rfl (lv_room (Nat.le_of_ble_eq_true rfl)) dX1_insert_20 ⟨Nat.le_of_ble_eq_true rfl, Nat.le_of_ble_eq_true rfl⟩) (fun r1 L1 f1 H locs hp1 hH => ?_)
  obtain ⟨rfl, rfl, rfl⟩ := hp1
  refine lv_if_le (tgt := 36) hx hb dX1_insert_23 (by decide) (fun _ => ?_) (fun c_1 => absurd (cmp_le.mpr hk3) c_1)
  refine lv_aload_n hx hb dX1_insert_36 rfl (lv_at hl 0 rfl) ?_
  refine lv_aload_n hx hb dX1_insert_37 rfl (lv_at hl 1 rfl) ?_
  refine lv_aload_n hx hb dX1_insert_38 rfl (lv_at hl 0 rfl) ?_
  refine rh_get (ci := 1) (C := RX2) (T := TX2) (N := 8) hx hb hts in_X2 hown hC hH hhL hhf rfl 2 (by decide) (hts _ q192) (fun _ h9 => h9) rfl dX1_insert_39 ?_
  refine rh_ki hC hH (va_runU (As := [.ref x, .ref ls0]) (rest := []) ⟨hx, hb, hml, hown, hts⟩ (met_compare l D Z L f h x ls0 k lv _ hhL hhf hk2 hpu.1 hk hls) (va_cwA (owner := "AbstractRadixHeap") (C := "LongRadixHeap") 2 hts (lw_U q249 q251 q252 q253 q10 q254) rfl rfl rfl hC.dCmp (by decide +kernel) ⟨Nat.le_of_ble_eq_true rfl, Nat.le_of_ble_eq_true rfl⟩) (rh_preV hC hH [.ref x, .ref ls0] (rh_recv hC hH hhL hhf (q := (RX2, TX2, 8)) rfl)) rfl rfl hl.1 rfl (lv_room (Nat.le_of_ble_eq_true rfl)) dX1_insert_42 ⟨Nat.le_of_ble_eq_true rfl, Nat.le_of_ble_eq_true rfl⟩) (fun r2 L2 f2 H locs hp2 hH => ?_)
  obtain ⟨rfl, rfl, rfl⟩ := hp2
  refine lv_if_ge (tgt := 58) hx hb dX1_insert_45 (by decide) (fun _ => ?_) (fun c_1 => absurd (cmp_ge.mpr hk1) c_1)
  refine lv_aload_n hx hb dX1_insert_58 rfl (lv_at hl 0 rfl) ?_
  refine lv_aload_n hx hb dX1_insert_59 rfl (lv_at hl 1 rfl) ?_
  refine lv_aload_n hx hb dX1_insert_60 rfl (lv_at hl 0 rfl) ?_
  refine rh_get (ci := 1) (C := RX2) (T := TX2) (N := 8) hx hb hts in_X2 hown hC hH hhL hhf rfl 2 (by decide) (hts _ q192) (fun _ h9 => h9) rfl dX1_insert_61 ?_
  refine rh_ki hC hH (va_runU (As := [.ref x, .ref ls0]) (rest := []) ⟨hx, hb, hml, hown, hts⟩ (met_computeBucket l D Z L f h x ls0 k lv ba _ _ _ _ _ _ _ _ hhL hhf hbaL hbaf hk2 hpu.1 hk hls) (va_cwU (owner := "AbstractRadixHeap") (C := "LongRadixHeap") 2 hts (lw_U q266 q268 q269 q267 q9 q270) rfl rfl rfl rfl (by decide +kernel) ⟨Nat.le_of_ble_eq_true rfl, Nat.le_of_ble_eq_true rfl⟩) (rh_preV hC hH [.ref x, .ref ls0] (rh_recv hC hH hhL hhf (q := (RX2, TX2, 8)) rfl)) rfl rfl hl.1 rfl (lv_room (Nat.le_of_ble_eq_true rfl)) dX1_insert_64 ⟨Nat.le_of_ble_eq_true rfl, Nat.le_of_ble_eq_true rfl⟩) (fun r3 L3 f3 H locs hp3 hH => ?_)
  obtain ⟨rfl, rfl, rfl⟩ := hp3
  obtain ⟨b, hbe⟩ : ∃ b, b = rhBk k lv := ⟨_, rfl⟩
  rw [← hbe] at hbk hlaL hlaf hlae ⊢
  refine lv_istore_n (lv' := [(2, .int (nI b)), (0, .ref h), (1, .ref x)]) hx hb dX1_insert_67 rfl hl (by decide) rfl (fun ls hl => ?_)
  refine lv_aload_n hx hb dX1_insert_68 rfl (lv_at hl 1 rfl) ?_
  refine rh_get (ci := 1) (C := RX2) (T := TX2) (N := 8) hx hb hts in_X2 hown hC hH hhL hhf rfl 0 (by decide) (hts _ q186) (fun _ h9 => h9) rfl dX1_insert_69 ?_
  refine lv_iload_n hx hb dX1_insert_72 rfl (lv_at hl 0 rfl) ?_
  refine rh_aald (t0 := 1) hx hb hC hH hbaL hbaf rfl (vp_in_nI hbk (by decide)) dX1_insert_73 ?_
  rw [nI_clamp (show b < 2 ^ 31 by omega), rf_some (hG b hbk)]
  refine lv_aload_n hx hb dX1_insert_74 rfl (lv_at hl 2 rfl) ?_
  have hlen : (B b).length < 64 := by have := rhPure.len hpu hbk; omega
  refine rh_kFi hC hH (va_runF (As := [.ref x]) (rest := []) (hC.at (c := 4) rfl) ⟨hx, hb, hml, hown, hts⟩ (met_add l D Z L f (la b) (ea b) (md b) (B b) hlaL hlaf x k hlae hlen hk) (va_cwF (C := "java/util/ArrayList") 1 hts (lw_F q293 q297 q299 q20 q301) rfl rfl rfl (hC.fAdd) (by decide +kernel) ⟨Nat.le_of_ble_eq_true rfl, Nat.le_of_ble_eq_true rfl⟩) (rh_preV hC hH [.ref x] (rh_recv hC hH hlaL hlaf (q := (RJ8, TJ8, 3)) rfl)) rfl rfl hl.1 rfl (lv_room (Nat.le_of_ble_eq_true rfl)) dX1_insert_75 ⟨Nat.le_of_ble_eq_true rfl, Nat.le_of_ble_eq_true rfl⟩) (fun r4 L4 f4 H locs hp4 hH => ?_)
  obtain ⟨rfl, ea1, g1, g2, g3, g4, g5⟩ := hp4
  have hk4 : ∀ a ∈ L, a ≠ la b → a ≠ ea b → f4 a = f a := g5
  have hlg : ∀ a ∈ L, ∀ k : Nat, f a = eLong k → f4 a = f a := fun a ha9 k9 e9 => hk4 a ha9 (rh_ne e9 hlaf (by nofun)) (rh_nea hlae hZ ha9 e9 (by nofun))
  have hB1 : rhBks D Z L4 f4 ba la (va_up ea b ea1) (va_up md b (md b + 1)) (va_up B b (B b ++ [(x, k)])) := hBk.upd g4 hZ hC.dne hbk (by rw [List.length_append]; exact g2) g3 g1 g5
  have hhf1 : f4 h = .inr (1, [.ref ba, .long (lN ks.length), .ref ls0, (va_rf (cm.map (·.1))), .int cb, .int cp, .ref mn, .ref mx]) := (hk4 h hhL (rh_ne hhf hlaf (by nofun)) (rh_nea hlae hZ hhL hhf (by nofun))).trans hhf
  have hhL1 := g4 h hhL
  have hk5 : rhLg Z L4 f4 x k := hk.fr g4 (fun a ha9 => hlg a ha9 _)
  have hls1 : rhLg Z L4 f4 ls0 lv := hls.fr g4 (fun a ha9 => hlg a ha9 _)
  have hmx1 : rhLg Z L4 f4 mx 1048575 := hmx.fr g4 (fun a ha9 => hlg a ha9 _)
  have hfr1 : ∀ a ∈ L, ¬ rhFT Z h ba la ea a → f4 a = f a := fun a ha9 n9 => hk4 a ha9 (fun z => n9 (Or.inr (Or.inr (Or.inl ⟨b, hbk, z⟩)))) (fun z => n9 (Or.inr (Or.inr (Or.inr ⟨b, hbk, z, fun z2 => hZ (z2 ▸ ha9)⟩))))
  have hea1 : ∀ i : Nat, i < 22 → va_up ea b ea1 i = ea i ∨ va_up ea b ea1 i ∉ L := by
    intro i hi
    by_cases h9 : i = b
    · subst h9; rw [va_up_self]; exact g1
    · rw [va_up_ne _ _ h9]; exact Or.inl rfl
  have hpu1 : rhPure (va_up B b (B b ++ [(x, k)])) (k :: ks) lv := by rw [hbe]; exact hpu.ins hk1 hk2
  refine lv_pop hx hb dX1_insert_80 rfl ?_
  rcases hmin with ⟨hz, rfl⟩ | ⟨m0, b0, q0, rfl, rfl, rfl, hb0, hq0, hm0⟩
  · have hhf1 : f4 h = .inr (1, [.ref ba, .long (lN ks.length), .ref ls0, .null, .int cb, .int cp, .ref mn, .ref mx]) := hhf1
    refine lv_aload_n hx hb dX1_insert_81 rfl (lv_at hl 1 rfl) ?_
    refine rh_get (ci := 1) (C := RX2) (T := TX2) (N := 8) hx hb hts in_X2 hown hC hH hhL1 hhf1 rfl 3 (by decide) (hts _ q195) (fun _ h9 => h9) rfl dX1_insert_82 ?_
    refine lv_ifnullN (tgt := 100) hx hb dX1_insert_85 (by decide) ?_
    obtain ⟨hbaL1, G1, hbaf1, hG1⟩ := hB1.1
    have hlaf1 : f4 (la b) = .inr (4, [.int (md b + 1), .ref ea1, .int (nI (B b ++ [(x, k)]).length)]) := by rw [List.length_append]; exact g2
    refine lv_aload_n hx hb dX1_insert_100 rfl (lv_at hl 1 rfl) ?_
    refine lv_aload_n hx hb dX1_insert_101 rfl (lv_at hl 2 rfl) ?_
    refine rh_put (ci := 1) (v := .ref x) (ty := .object "java/lang/Object") (C := RX2) (T := TX2) (N := 8) hx hb hts in_X2 tyX2 tyX2_ok nmX2 hown hC hH hhL1 hhf1 rfl 3 (by decide) (hts _ q195) (fun _ h9 => h9) rfl (by decide +kernel) rfl rfl (Nat.le_of_ble_eq_true rfl) dX1_insert_102 (fun f5 H locs hu5 hfr5 hH => ?_)
    have hx6 : f5 ba = eRefs (D.1 101) 22 G1 := (hfr5 ba (rh_ne hbaf1 hhf1 (by nofun))).trans hbaf1
    have hx7 : f5 (la b) = .inr (4, [.int (md b + 1), .ref ea1, .int (nI (B b ++ [(x, k)]).length)]) := (hfr5 (la b) (rh_ne hlaf1 hhf1 (by nofun))).trans hlaf1
    have hx8 : f5 h = .inr (1, [.ref ba, .long (lN ks.length), .ref ls0, .ref x, .int cb, .int cp, .ref mn, .ref mx]) := hu5
    refine lv_aload_n hx hb dX1_insert_105 rfl (lv_at hl 1 rfl) ?_
    refine lv_iload_n hx hb dX1_insert_106 rfl (lv_at hl 0 rfl) ?_
    refine rh_put (ci := 1) (v := .int (nI b)) (ty := .int) (C := RX2) (T := TX2) (N := 8) hx hb hts in_X2 tyX2 tyX2_ok nmX2 hown hC hH hhL1 hx8 rfl 4 (by decide) (hts _ q196) (fun _ h9 => h9) rfl (by decide +kernel) rfl rfl (Nat.le_of_ble_eq_true rfl) dX1_insert_107 (fun f9 H locs hu9 hfr9 hH => ?_)
    have hx10 : f9 ba = eRefs (D.1 101) 22 G1 := (hfr9 ba (rh_ne hx6 hx8 (by nofun))).trans hx6
    have hx11 : f9 (la b) = .inr (4, [.int (md b + 1), .ref ea1, .int (nI (B b ++ [(x, k)]).length)]) := (hfr9 (la b) (rh_ne hx7 hx8 (by nofun))).trans hx7
    have hx12 : f9 h = .inr (1, [.ref ba, .long (lN ks.length), .ref ls0, .ref x, .int (nI b), .int cp, .ref mn, .ref mx]) := hu9
    refine lv_aload_n hx hb dX1_insert_110 rfl (lv_at hl 1 rfl) ?_
    refine lv_aload_n hx hb dX1_insert_111 rfl (lv_at hl 1 rfl) ?_
    refine rh_get (ci := 1) (C := RX2) (T := TX2) (N := 8) hx hb hts in_X2 hown hC hH hhL1 hx12 rfl 0 (by decide) (hts _ q186) (fun _ h9 => h9) rfl dX1_insert_112 ?_
    refine lv_iload_n hx hb dX1_insert_115 rfl (lv_at hl 0 rfl) ?_
    refine rh_aald (t0 := 1) hx hb hC hH hbaL1 hx10 rfl (vp_in_nI hbk (by decide)) dX1_insert_116 ?_
    rw [nI_clamp (show b < 2 ^ 31 by omega), rf_some (hG1 b hbk)]
    refine rh_kFi hC hH (va_runF (As := []) (rest := [.ref h]) (hC.at (c := 4) rfl) ⟨hx, hb, hml, hown, hts⟩ (met_size l D Z L4 f9 (la b) ea1 (md b + 1) (B b ++ [(x, k)]) (g4 _ hlaL) hx11) (va_cwF (C := "java/util/ArrayList") 0 hts (lw_F q352 q355 q357 q20 q359) rfl rfl rfl (hC.fSize) (by decide +kernel) ⟨Nat.le_of_ble_eq_true rfl, Nat.le_of_ble_eq_true rfl⟩) (rh_preV hC hH [] (rh_recv hC hH (g4 _ hlaL) hx11 (q := (RJ8, TJ8, 3)) rfl)) rfl rfl hl.1 rfl (lv_room (Nat.le_of_ble_eq_true rfl)) dX1_insert_117 ⟨Nat.le_of_ble_eq_true rfl, Nat.le_of_ble_eq_true rfl⟩) (fun r13 L13 f13 H locs hp13 hH => ?_)
    obtain ⟨rfl, rfl, rfl⟩ := hp13
    refine lv_iconst (v := 1) hx hb dX1_insert_122 (by decide) ?_
    refine lv_isub hx hb dX1_insert_123 ?_
    refine lv_topi (fun y ey => ?_)
    obtain rfl : y = nI (B b).length := ey.trans (by rw [List.length_append]; exact nI_pred _)
    refine rh_put (ci := 1) (v := .int (nI (B b).length)) (ty := .int) (C := RX2) (T := TX2) (N := 8) hx hb hts in_X2 tyX2 tyX2_ok nmX2 hown hC hH hhL1 hx12 rfl 5 (by decide) (hts _ q197) (fun _ h9 => h9) rfl (by decide +kernel) rfl rfl (Nat.le_of_ble_eq_true rfl) dX1_insert_124 (fun f14 H locs hu14 hfr14 hH => ?_)
    have hx15 : f14 ba = eRefs (D.1 101) 22 G1 := (hfr14 ba (rh_ne hx10 hx12 (by nofun))).trans hx10
    have hx16 : f14 (la b) = .inr (4, [.int (md b + 1), .ref ea1, .int (nI (B b ++ [(x, k)]).length)]) := (hfr14 (la b) (rh_ne hx11 hx12 (by nofun))).trans hx11
    have hx17 : f14 h = .inr (1, [.ref ba, .long (lN ks.length), .ref ls0, .ref x, .int (nI b), .int (nI (B b).length), .ref mn, .ref mx]) := hu14
    refine lv_aload_n hx hb dX1_insert_127 rfl (lv_at hl 1 rfl) ?_
    refine lv_dup hx hb dX1_insert_128 rfl ?_
    refine rh_get (ci := 1) (C := RX2) (T := TX2) (N := 8) hx hb hts in_X2 hown hC hH hhL1 hx17 rfl 1 (by decide) (hts _ q189) (fun _ h9 => h9) rfl dX1_insert_129 ?_
    refine lv_lconst (v := 1) hx hb dX1_insert_132 (by decide) ?_
    refine lv_ladd hx hb dX1_insert_133 ?_
    rw [lN_1]
    refine rh_put (ci := 1) (v := .long (lN (ks.length + 1))) (ty := .long) (C := RX2) (T := TX2) (N := 8) hx hb hts in_X2 tyX2 tyX2_ok nmX2 hown hC hH hhL1 hx17 rfl 1 (by decide) (hts _ q189) (fun _ h9 => h9) rfl (by decide +kernel) rfl rfl (Nat.le_of_ble_eq_true rfl) dX1_insert_134 (fun f18 H locs hu18 hfr18 hH => ?_)
    have hx19 : f18 h = .inr (1, [.ref ba, .long (lN (ks.length + 1)), .ref ls0, .ref x, .int (nI b), .int (nI (B b).length), .ref mn, .ref mx]) := hu18
    have hk6 : ∀ a ∈ L4, a ≠ h → f18 a = f4 a := fun a _ h9 => ((((hfr18 a h9)).trans (hfr14 a h9)).trans (hfr9 a h9)).trans (hfr5 a h9)
    have hlg2 : ∀ a ∈ L4, ∀ k : Nat, f4 a = eLong k → f18 a = f4 a := fun a ha9 k9 e9 => hk6 a ha9 (rh_ne e9 hhf1 (by nofun))
    exact rh_vret hx hb hr hlocks hC hH (Nat.le_of_ble_eq_true rfl) (Nat.le_of_ble_eq_true rfl) (⟨va_up ea b ea1, ⟨va_up md b (md b + 1), va_up B b (B b ++ [(x, k)]), ls0, mn, mx, (some (x, k)), (nI b), (nI (B b).length), ⟨hhL1, hx19⟩, hB1.frO (fun _ h9 => h9) hhf1 (by decide) (by decide) hk6, ⟨hls1.fr (fun _ h9 => h9) (fun a ha9 => hlg2 a ha9 _), hmx1.fr (fun _ h9 => h9) (fun a ha9 => hlg2 a ha9 _)⟩, hpu1, rhMin.insNew hbk (fun j hj => by rw [hz] at hj; exact absurd hj List.not_mem_nil)⟩, g4, fun a ha9 n9 => (hk6 a (g4 a ha9) (fun z => n9 (Or.inl z))).trans (hfr1 a ha9 n9), hea1⟩) dX1_insert_137
  · have hhf1 : f4 h = .inr (1, [.ref ba, .long (lN ks.length), .ref ls0, .ref m0.1, .int (nI b0), .int (nI q0), .ref mn, .ref mx]) := hhf1
    have hm1 : m0 ∈ B b0 := List.mem_of_getElem? hq0
    have hm2 : rhLg Z L4 f4 m0.1 m0.2 := ((hBk.2.1 b0 hb0).2.2.1 m0 hm1).fr g4 (fun a ha9 => hlg a ha9 _)
    have hm20 := (hpu.2.1 b0 hb0 m0 hm1).2.1
    refine lv_aload_n hx hb dX1_insert_81 rfl (lv_at hl 1 rfl) ?_
    refine rh_get (ci := 1) (C := RX2) (T := TX2) (N := 8) hx hb hts in_X2 hown hC hH hhL1 hhf1 rfl 3 (by decide) (hts _ q195) (fun _ h9 => h9) rfl dX1_insert_82 ?_
    refine lv_ifnull hx hb dX1_insert_85 ?_
    refine lv_aload_n hx hb dX1_insert_88 rfl (lv_at hl 1 rfl) ?_
    refine lv_aload_n hx hb dX1_insert_89 rfl (lv_at hl 2 rfl) ?_
    refine lv_aload_n hx hb dX1_insert_90 rfl (lv_at hl 1 rfl) ?_
    refine rh_get (ci := 1) (C := RX2) (T := TX2) (N := 8) hx hb hts in_X2 hown hC hH hhL1 hhf1 rfl 3 (by decide) (hts _ q195) (fun _ h9 => h9) rfl dX1_insert_91 ?_
    refine rh_ki hC hH (va_runU (As := [.ref x, .ref m0.1]) (rest := []) ⟨hx, hb, hml, hown, hts⟩ (met_compare l D Z L4 f4 h x m0.1 k m0.2 _ hhL1 hhf1 hk2 hm20 hk5 hm2) (va_cwA (owner := "AbstractRadixHeap") (C := "LongRadixHeap") 2 hts (lw_U q249 q251 q252 q253 q10 q254) rfl rfl rfl hC.dCmp (by decide +kernel) ⟨Nat.le_of_ble_eq_true rfl, Nat.le_of_ble_eq_true rfl⟩) (rh_preV hC hH [.ref x, .ref m0.1] (rh_recv hC hH hhL1 hhf1 (q := (RX2, TX2, 8)) rfl)) rfl rfl hl.1 rfl (lv_room (Nat.le_of_ble_eq_true rfl)) dX1_insert_94 ⟨Nat.le_of_ble_eq_true rfl, Nat.le_of_ble_eq_true rfl⟩) (fun r20 L20 f20 H locs hp20 hH => ?_)
    obtain ⟨rfl, rfl, rfl⟩ := hp20
    refine lv_if_ge (tgt := 127) hx hb dX1_insert_97 (by decide) (fun c_1 => ?_) (fun c_1 => ?_)
    · refine lv_aload_n hx hb dX1_insert_127 rfl (lv_at hl 1 rfl) ?_
      refine lv_dup hx hb dX1_insert_128 rfl ?_
      refine rh_get (ci := 1) (C := RX2) (T := TX2) (N := 8) hx hb hts in_X2 hown hC hH hhL1 hhf1 rfl 1 (by decide) (hts _ q189) (fun _ h9 => h9) rfl dX1_insert_129 ?_
      refine lv_lconst (v := 1) hx hb dX1_insert_132 (by decide) ?_
      refine lv_ladd hx hb dX1_insert_133 ?_
      rw [lN_1]
      refine rh_put (ci := 1) (v := .long (lN (ks.length + 1))) (ty := .long) (C := RX2) (T := TX2) (N := 8) hx hb hts in_X2 tyX2 tyX2_ok nmX2 hown hC hH hhL1 hhf1 rfl 1 (by decide) (hts _ q189) (fun _ h9 => h9) rfl (by decide +kernel) rfl rfl (Nat.le_of_ble_eq_true rfl) dX1_insert_134 (fun f21 H locs hu21 hfr21 hH => ?_)
      have hx22 : f21 h = .inr (1, [.ref ba, .long (lN (ks.length + 1)), .ref ls0, .ref m0.1, .int (nI b0), .int (nI q0), .ref mn, .ref mx]) := hu21
      have hk6 : ∀ a ∈ L4, a ≠ h → f21 a = f4 a := fun a _ h9 => (hfr21 a h9)
      have hlg2 : ∀ a ∈ L4, ∀ k : Nat, f4 a = eLong k → f21 a = f4 a := fun a ha9 k9 e9 => hk6 a ha9 (rh_ne e9 hhf1 (by nofun))
      exact rh_vret hx hb hr hlocks hC hH (Nat.le_of_ble_eq_true rfl) (Nat.le_of_ble_eq_true rfl) (⟨va_up ea b ea1, ⟨va_up md b (md b + 1), va_up B b (B b ++ [(x, k)]), ls0, mn, mx, (some m0), (nI b0), (nI q0), ⟨hhL1, hx22⟩, hB1.frO (fun _ h9 => h9) hhf1 (by decide) (by decide) hk6, ⟨hls1.fr (fun _ h9 => h9) (fun a ha9 => hlg2 a ha9 _), hmx1.fr (fun _ h9 => h9) (fun a ha9 => hlg2 a ha9 _)⟩, hpu1, rhMin.insKeep hb0 hq0 hm0 (cmp_ge.mp c_1)⟩, g4, fun a ha9 n9 => (hk6 a (g4 a ha9) (fun z => n9 (Or.inl z))).trans (hfr1 a ha9 n9), hea1⟩) dX1_insert_137
    · obtain ⟨hbaL1, G1, hbaf1, hG1⟩ := hB1.1
      have hlaf1 : f4 (la b) = .inr (4, [.int (md b + 1), .ref ea1, .int (nI (B b ++ [(x, k)]).length)]) := by rw [List.length_append]; exact g2
      refine lv_aload_n hx hb dX1_insert_100 rfl (lv_at hl 1 rfl) ?_
      refine lv_aload_n hx hb dX1_insert_101 rfl (lv_at hl 2 rfl) ?_
      refine rh_put (ci := 1) (v := .ref x) (ty := .object "java/lang/Object") (C := RX2) (T := TX2) (N := 8) hx hb hts in_X2 tyX2 tyX2_ok nmX2 hown hC hH hhL1 hhf1 rfl 3 (by decide) (hts _ q195) (fun _ h9 => h9) rfl (by decide +kernel) rfl rfl (Nat.le_of_ble_eq_true rfl) dX1_insert_102 (fun f23 H locs hu23 hfr23 hH => ?_)
      have hx24 : f23 ba = eRefs (D.1 101) 22 G1 := (hfr23 ba (rh_ne hbaf1 hhf1 (by nofun))).trans hbaf1
      have hx25 : f23 (la b) = .inr (4, [.int (md b + 1), .ref ea1, .int (nI (B b ++ [(x, k)]).length)]) := (hfr23 (la b) (rh_ne hlaf1 hhf1 (by nofun))).trans hlaf1
      have hx26 : f23 h = .inr (1, [.ref ba, .long (lN ks.length), .ref ls0, .ref x, .int (nI b0), .int (nI q0), .ref mn, .ref mx]) := hu23
      refine lv_aload_n hx hb dX1_insert_105 rfl (lv_at hl 1 rfl) ?_
      refine lv_iload_n hx hb dX1_insert_106 rfl (lv_at hl 0 rfl) ?_
      refine rh_put (ci := 1) (v := .int (nI b)) (ty := .int) (C := RX2) (T := TX2) (N := 8) hx hb hts in_X2 tyX2 tyX2_ok nmX2 hown hC hH hhL1 hx26 rfl 4 (by decide) (hts _ q196) (fun _ h9 => h9) rfl (by decide +kernel) rfl rfl (Nat.le_of_ble_eq_true rfl) dX1_insert_107 (fun f27 H locs hu27 hfr27 hH => ?_)
      have hx28 : f27 ba = eRefs (D.1 101) 22 G1 := (hfr27 ba (rh_ne hx24 hx26 (by nofun))).trans hx24
      have hx29 : f27 (la b) = .inr (4, [.int (md b + 1), .ref ea1, .int (nI (B b ++ [(x, k)]).length)]) := (hfr27 (la b) (rh_ne hx25 hx26 (by nofun))).trans hx25
      have hx30 : f27 h = .inr (1, [.ref ba, .long (lN ks.length), .ref ls0, .ref x, .int (nI b), .int (nI q0), .ref mn, .ref mx]) := hu27
      refine lv_aload_n hx hb dX1_insert_110 rfl (lv_at hl 1 rfl) ?_
      refine lv_aload_n hx hb dX1_insert_111 rfl (lv_at hl 1 rfl) ?_
      refine rh_get (ci := 1) (C := RX2) (T := TX2) (N := 8) hx hb hts in_X2 hown hC hH hhL1 hx30 rfl 0 (by decide) (hts _ q186) (fun _ h9 => h9) rfl dX1_insert_112 ?_
      refine lv_iload_n hx hb dX1_insert_115 rfl (lv_at hl 0 rfl) ?_
      refine rh_aald (t0 := 1) hx hb hC hH hbaL1 hx28 rfl (vp_in_nI hbk (by decide)) dX1_insert_116 ?_
      rw [nI_clamp (show b < 2 ^ 31 by omega), rf_some (hG1 b hbk)]
      refine rh_kFi hC hH (va_runF (As := []) (rest := [.ref h]) (hC.at (c := 4) rfl) ⟨hx, hb, hml, hown, hts⟩ (met_size l D Z L4 f27 (la b) ea1 (md b + 1) (B b ++ [(x, k)]) (g4 _ hlaL) hx29) (va_cwF (C := "java/util/ArrayList") 0 hts (lw_F q352 q355 q357 q20 q359) rfl rfl rfl (hC.fSize) (by decide +kernel) ⟨Nat.le_of_ble_eq_true rfl, Nat.le_of_ble_eq_true rfl⟩) (rh_preV hC hH [] (rh_recv hC hH (g4 _ hlaL) hx29 (q := (RJ8, TJ8, 3)) rfl)) rfl rfl hl.1 rfl (lv_room (Nat.le_of_ble_eq_true rfl)) dX1_insert_117 ⟨Nat.le_of_ble_eq_true rfl, Nat.le_of_ble_eq_true rfl⟩) (fun r31 L31 f31 H locs hp31 hH => ?_)
      obtain ⟨rfl, rfl, rfl⟩ := hp31
      refine lv_iconst (v := 1) hx hb dX1_insert_122 (by decide) ?_
      refine lv_isub hx hb dX1_insert_123 ?_
      refine lv_topi (fun y ey => ?_)
      obtain rfl : y = nI (B b).length := ey.trans (by rw [List.length_append]; exact nI_pred _)
      refine rh_put (ci := 1) (v := .int (nI (B b).length)) (ty := .int) (C := RX2) (T := TX2) (N := 8) hx hb hts in_X2 tyX2 tyX2_ok nmX2 hown hC hH hhL1 hx30 rfl 5 (by decide) (hts _ q197) (fun _ h9 => h9) rfl (by decide +kernel) rfl rfl (Nat.le_of_ble_eq_true rfl) dX1_insert_124 (fun f32 H locs hu32 hfr32 hH => ?_)
      have hx33 : f32 ba = eRefs (D.1 101) 22 G1 := (hfr32 ba (rh_ne hx28 hx30 (by nofun))).trans hx28
      have hx34 : f32 (la b) = .inr (4, [.int (md b + 1), .ref ea1, .int (nI (B b ++ [(x, k)]).length)]) := (hfr32 (la b) (rh_ne hx29 hx30 (by nofun))).trans hx29
      have hx35 : f32 h = .inr (1, [.ref ba, .long (lN ks.length), .ref ls0, .ref x, .int (nI b), .int (nI (B b).length), .ref mn, .ref mx]) := hu32
      refine lv_aload_n hx hb dX1_insert_127 rfl (lv_at hl 1 rfl) ?_
      refine lv_dup hx hb dX1_insert_128 rfl ?_
      refine rh_get (ci := 1) (C := RX2) (T := TX2) (N := 8) hx hb hts in_X2 hown hC hH hhL1 hx35 rfl 1 (by decide) (hts _ q189) (fun _ h9 => h9) rfl dX1_insert_129 ?_
      refine lv_lconst (v := 1) hx hb dX1_insert_132 (by decide) ?_
      refine lv_ladd hx hb dX1_insert_133 ?_
      rw [lN_1]
      refine rh_put (ci := 1) (v := .long (lN (ks.length + 1))) (ty := .long) (C := RX2) (T := TX2) (N := 8) hx hb hts in_X2 tyX2 tyX2_ok nmX2 hown hC hH hhL1 hx35 rfl 1 (by decide) (hts _ q189) (fun _ h9 => h9) rfl (by decide +kernel) rfl rfl (Nat.le_of_ble_eq_true rfl) dX1_insert_134 (fun f36 H locs hu36 hfr36 hH => ?_)
      have hx37 : f36 h = .inr (1, [.ref ba, .long (lN (ks.length + 1)), .ref ls0, .ref x, .int (nI b), .int (nI (B b).length), .ref mn, .ref mx]) := hu36
      have hk6 : ∀ a ∈ L4, a ≠ h → f36 a = f4 a := fun a _ h9 => ((((hfr36 a h9)).trans (hfr32 a h9)).trans (hfr27 a h9)).trans (hfr23 a h9)
      have hlg2 : ∀ a ∈ L4, ∀ k : Nat, f4 a = eLong k → f36 a = f4 a := fun a ha9 k9 e9 => hk6 a ha9 (rh_ne e9 hhf1 (by nofun))
      exact rh_vret hx hb hr hlocks hC hH (Nat.le_of_ble_eq_true rfl) (Nat.le_of_ble_eq_true rfl) (⟨va_up ea b ea1, ⟨va_up md b (md b + 1), va_up B b (B b ++ [(x, k)]), ls0, mn, mx, (some (x, k)), (nI b), (nI (B b).length), ⟨hhL1, hx37⟩, hB1.frO (fun _ h9 => h9) hhf1 (by decide) (by decide) hk6, ⟨hls1.fr (fun _ h9 => h9) (fun a ha9 => hlg2 a ha9 _), hmx1.fr (fun _ h9 => h9) (fun a ha9 => hlg2 a ha9 _)⟩, hpu1, rhMin.insNew hbk (fun j hj => by have h1 := hm0 j hj; have h2 : ¬ m0.2 ≤ k := fun z => c_1 (cmp_ge.mpr z); omega)⟩, g4, fun a ha9 n9 => (hk6 a (g4 a ha9) (fun z => n9 (Or.inl z))).trans (hfr1 a ha9 n9), hea1⟩) dX1_insert_137
end
section
/-! AbstractRadixHeap.findAndCacheMinimum (private, called on a LongRadixHeap) (printed by tools/p14.py) -/
theorem sel_fc {s : State} {args : Array Value} {D : va_G} {Z : Nat → Nat} (hC : rhCx D Z s) (hts : ∀ w ∈ lw_all, w.before args s = true) : (Cond.selects "LongRadixHeap" yX1_findAndCacheMinimum yX1_findAndCacheMinimum).before args s = true := by
  have hfc : s.vm.findClass "LongRadixHeap" = some (D.1 1) := (hC.at (c := 1) (q := (RX2, TX2, 8)) rfl).1
  obtain ⟨mk, methM, hnamed, hmethM, -, -⟩ := Cond.instanceMethod_spec (hts _ q435)
  have hfound := State.methodFound?_of_named hnamed (by decide +kernel)
  have hpriv := Cond.privateMethod_at (va_Nw.use rfl hC.priv (A := #[]))
  have hsel : selectMethod {} s.vm (D.1 1) mk = .method mk := selectMethod_private hmethM (hpriv mk methM hnamed hmethM)
  obtain ⟨c2, r2, m2, -, -, hm2, -, kA, hkA, hni⟩ := Cond.selects_spec (hts _ q269)
  have e1 : s.vm.findClass "AbstractRadixHeap" = some mk.cls := findClass_of_methodNamed hnamed
  have e2 : s.vm.findClass "AbstractRadixHeap" = some m2.cls := findClass_of_methodNamed hm2
  have hcl : mk.cls = m2.cls := Option.some.inj (e1.symm.trans e2)
  have hkA' : s.vm.classes[mk.cls]? = some kA := by rw [hcl]; exact hkA
  have hn1 : s.methodNamed? yX1_findAndCacheMinimum = some mk := hnamed
  have hf1 : s.methodFound? yX1_findAndCacheMinimum.cls yX1_findAndCacheMinimum.name yX1_findAndCacheMinimum.desc = some mk := hfound
  simp only [Cond.before, Cond.holds, Cond.value, hfc, hf1, hn1, hsel, hkA']
  simp [hni]
theorem rh_cwP {R : Room} {s : State} {args : Array Value} {D : va_G} {Z : Nat → Nat} (hC : rhCx D Z s) (hts : ∀ w ∈ lw_all, w.before args s = true) {rm : Room} {mc ms : Nat} (hrc : rm.cells = mc) (hrs : rm.slots = ms) (hR : rm.frames + 1 ≤ R.frames ∧ 8 + (5 + 11) + rm.locals ≤ R.locals) : va_CU R s args "AbstractRadixHeap" "LongRadixHeap" "AbstractRadixHeap" 68 yX1_findAndCacheMinimum yX1_findAndCacheMinimum cX1_findAndCacheMinimum 5 none (ws_ yX1_findAndCacheMinimum cX1_findAndCacheMinimum 5 none) rm mc ms 1 := by
  have hG : GoodIn lw_all (ws_ yX1_findAndCacheMinimum cX1_findAndCacheMinimum 5 none) := lw_meth q436
  refine ⟨⟨hrc, hrs, hR.1, hR.2, pay_in hts hG, List.mem_cons_self⟩, hts _ q436, hts _ q9, by decide +kernel, fun sig h => ?_, hts _ q433, hts _ q582, va_Decl.of (hts _ q435) (hts _ q436), sel_fc hC hts, hts _ q435⟩
  have h2 : (parseMethodDescriptor yX1_findAndCacheMinimum.desc).map (fun d => d.parameters.length) = some 1 := by decide +kernel
  rw [h] at h2
  exact (Option.some.inj h2).symm
theorem tk_succ {α : Type} {l : List α} {j : Nat} {x y : α} (h : l[j]? = some x) (hy : y ∈ l.take (j + 1)) : y ∈ l.take j ∨ y = x := by
  rw [List.take_add_one, h] at hy
  rcases List.mem_append.mp hy with h1 | h1
  · exact Or.inl h1
  · exact Or.inr (List.mem_singleton.mp h1)
theorem tk_one {l : List (Nat × Nat)} {x y : Nat × Nat} (h : l[0]? = some x) (hy : y ∈ l.take (0 + 1)) : x.2 ≤ y.2 := by
  rcases tk_succ h hy with h1 | h1
  · simp at h1
  · rw [h1]; exact Nat.le_refl _
set_option maxHeartbeats 4000000 in
set_option maxRecDepth 100000 in
theorem fc_loop2 {p : Program} {l : Launch} {e : Env} {s : State} {m : MethodId} {args : Array Value} {below : List Frame} {meth : Method} {c : Code} {D : va_G} {Z : Nat → Nat} {L : List Nat} {f : Nat → va_E} {h ba : Nat} {la ea : Nat → Nat} {md : Nat → Int32} {B : Nat → List (Nat × Nat)} {sz : Int64} {ls0 mn mx : Nat} {L1 : List Nat} {it b : Nat} (hx : p.tables.exec = Jvm.exec) (hb : c.code = cX1_findAndCacheMinimum) (hr : meth.sig.returnType = none) (hlocks : meth.locks = false) (hml : c.maxLocals = 5) (hown : s.vm.findClass RX1 = some m.cls) (hts : ∀ w ∈ lw_all, w.before args s = true) (hC : rhCx D Z s) (hlen : ∀ i : Nat, i < 22 → (B i).length ≤ 64) (hval : ∀ i : Nat, i < 22 → ∀ x ∈ B i, x.2 < 2 ^ 20) (hhL : h ∈ L1) (hit : it ∈ L1) (hitL : it ∉ L) (hsub : ∀ a ∈ L, a ∈ L1) (hbk : b < 22) (hne : B b ≠ []) (hlow : ∀ i : Nat, i < b → B i = []) :
    ∀ (d j : Nat), j ≤ (B b).length → (B b).length + 1 ≤ j + d → ∀ (f1 : Nat → va_E) (cm : Option (Nat × Nat)) (cp lr : Int32) (H : Heap) (locs : List Loc), f1 h = .inr (1, [.ref ba, .long sz, .ref ls0, va_rf (cm.map (·.1)), .int (nI b), .int cp, .ref mn, .ref mx]) → f1 it = eItr (nI j) lr (md b) (la b) → rhBks D Z L1 f1 ba la ea md B → (∀ a ∈ L, a ≠ h → f1 a = f a) → ((j = 0 ∧ cm = none ∧ cp = -1) ∨ ∃ (m0 : Nat × Nat) (q : Nat), cm = some m0 ∧ cp = nI q ∧ q < j ∧ (B b)[q]? = some m0 ∧ ∀ x ∈ (B b).take j, m0.2 ≤ x.2) → rhHp D Z L1 f1 s H locs → ∀ (ls : Array Slot), lv_has ls 5 [(0, .ref h), (2, .int (nI j)), (3, .ref it)] → W p l e ({ frames := 3, cells := 1, slots := 4, locals := 80 } : Room) s m args below meth c H locs 1 4 (MQ below (rhQv D Z (fun L' f' => ∃ (m0 : Nat × Nat) (b q : Nat), f' h = eHeap ba sz ls0 (some m0.1) (nI b) (nI q) mn mx ∧ b < 22 ∧ (B b)[q]? = some m0 ∧ (∀ i : Nat, i < b → B i = []) ∧ (∀ x ∈ B b, m0.2 ≤ x.2) ∧ (∀ a ∈ L, a ∈ L') ∧ (∀ a ∈ L, a ≠ h → f' a = f a))) args s 1 4 (rhA Z)) (F0 m 80 ls []) := by
  intro d
  induction d with
  | zero => intro j h1 h2; omega
  | succ d ih =>
    intro j hj hjd f1 cm cp lr H locs hhf hif hBk hfr hcm hH ls hl
    obtain ⟨hlaL, hlaf, hlae⟩ := hBk.2.1 b hbk
    have hl64 := hlen b hbk
    refine lv_aload_n hx hb dX1_findAndCacheMinimum_80 rfl (lv_at hl 2 rfl) ?_
    refine rh_kFi hC hH (va_runF (As := []) (rest := []) (hC.at (c := 5) rfl) ⟨hx, hb, hml, hown, hts⟩ (met_hasNext l D Z L1 f1 it (la b) (ea b) (md b) lr j (B b) hit hif hlaL hlaf hl64 hj) (va_cwF (C := "java/util/ArrayList$Itr") 0 hts (lw_F q475 q479 q481 q31 q483) rfl rfl rfl (hC.fHasNext) (by decide +kernel) ⟨Nat.le_of_ble_eq_true rfl, Nat.le_of_ble_eq_true rfl⟩) (rh_preV hC hH [] (rh_recv hC hH hit hif (q := (RJ15, TJ15, 4)) rfl)) rfl rfl hl.1 rfl (lv_room (Nat.le_of_ble_eq_true rfl)) dX1_findAndCacheMinimum_81 ⟨Nat.le_of_ble_eq_true rfl, Nat.le_of_ble_eq_true rfl⟩) (fun r1 L1 f1 H locs hp1 hH => ?_)
    obtain ⟨rfl, rfl, rfl⟩ := hp1
    by_cases hjn : j = (B b).length
    · rw [if_pos hjn]
      refine lv_if_eq (tgt := 134) hx hb dX1_findAndCacheMinimum_86 (by decide) (fun _ => ?_) (fun c_1 => absurd rfl c_1)
      rcases hcm with ⟨z, -, -⟩ | ⟨m0, q, rfl, rfl, hq, hmq, hmm⟩
      · exact absurd (List.length_eq_zero_iff.mp (hjn.symm.trans z)) hne
      exact rh_vret hx hb hr hlocks hC hH (Nat.le_of_ble_eq_true rfl) (Nat.le_of_ble_eq_true rfl) (⟨m0, b, q, hhf, hbk, hmq, hlow, fun x hx9 => hmm x (by rw [hjn, List.take_length]; exact hx9), hsub, hfr⟩) dX1_findAndCacheMinimum_134
    · rw [if_neg hjn]
      refine lv_if_eq (tgt := 134) hx hb dX1_findAndCacheMinimum_86 (by decide) (fun c_1 => absurd c_1 (by decide)) (fun _ => ?_)
      have hlt : j < (B b).length := by omega
      obtain ⟨x, hx0⟩ : ∃ x, (B b)[j]? = some x := ⟨_, List.getElem?_eq_getElem hlt⟩
      have hxm : x ∈ B b := List.mem_of_getElem? hx0
      have hx20 := hval b hbk x hxm
      refine lv_aload_n hx hb dX1_findAndCacheMinimum_89 rfl (lv_at hl 2 rfl) ?_
      refine rh_kFr hC hH (va_runF (As := []) (rest := []) (hC.at (c := 5) rfl) ⟨hx, hb, hml, hown, hts⟩ (met_next l D Z L1 f1 it (la b) (ea b) (md b) lr j (B b) hit hif hlaL hlaf hl64 x hlae hx0) (va_cwF (C := "java/util/ArrayList$Itr") 0 hts (lw_F q485 q488 q490 q31 q492) rfl rfl rfl (hC.fNext) (by decide +kernel) ⟨Nat.le_of_ble_eq_true rfl, Nat.le_of_ble_eq_true rfl⟩) (rh_preV hC hH [] (rh_recv hC hH hit hif (q := (RJ15, TJ15, 4)) rfl)) rfl rfl hl.1 rfl (lv_room (Nat.le_of_ble_eq_true rfl)) dX1_findAndCacheMinimum_90 ⟨Nat.le_of_ble_eq_true rfl, Nat.le_of_ble_eq_true rfl⟩) (fun r2 L2 f2 H locs hp2 hH => ?_)
      obtain ⟨rfl, rfl, hif2, hgN⟩ := hp2
      have hhit : h ≠ it := rh_ne hhf hif (by nofun)
      have hhf2 : f2 h = .inr (1, [.ref ba, .long sz, .ref ls0, (va_rf (cm.map (·.1))), .int (nI b), .int cp, .ref mn, .ref mx]) := (hgN h hhit).trans hhf
      have hBk2 : rhBks D Z L1 f2 ba la ea md B := hBk.frO (fun _ h9 => h9) hif (by decide) (by decide) (fun a _ h9 => hgN a h9)
      have hgM : ∀ a ∈ L, a ≠ h → f2 a = f a := fun a ha9 h9 => (hgN a (fun z => hitL (by rw [← z]; exact ha9))).trans (hfr a ha9 h9)
      have hxl : rhLg Z L1 f2 x.1 x.2 := (hBk2.2.1 b hbk).2.2.1 x hxm
      refine lv_astore (lv' := [(4, .ref x.1), (0, .ref h), (2, .int (nI j)), (3, .ref it)]) hx hb dX1_findAndCacheMinimum_95 hl (by decide) rfl (fun ls hl => ?_)
      rcases hcm with ⟨hj0, rfl, rfl⟩ | ⟨m0, q, rfl, rfl, hq, hmq, hmm⟩
      · have hhf2 : f2 h = .inr (1, [.ref ba, .long sz, .ref ls0, .null, .int (nI b), .int (-1), .ref mn, .ref mx]) := hhf2
        refine lv_aload_n hx hb dX1_findAndCacheMinimum_97 rfl (lv_at hl 1 rfl) ?_
        refine rh_get (ci := 1) (C := RX2) (T := TX2) (N := 8) hx hb hts in_X2 hown hC hH hhL hhf2 rfl 3 (by decide) (hts _ q195) (fun _ h9 => h9) rfl dX1_findAndCacheMinimum_98 ?_
        refine lv_ifnullN (tgt := 117) hx hb dX1_findAndCacheMinimum_101 (by decide) ?_
        refine lv_aload_n hx hb dX1_findAndCacheMinimum_117 rfl (lv_at hl 1 rfl) ?_
        refine lv_aload hx hb dX1_findAndCacheMinimum_118 (lv_at hl 0 rfl) ?_
        refine rh_put (ci := 1) (v := .ref x.1) (ty := .object "java/lang/Object") (C := RX2) (T := TX2) (N := 8) hx hb hts in_X2 tyX2 tyX2_ok nmX2 hown hC hH hhL hhf2 rfl 3 (by decide) (hts _ q195) (fun _ h9 => h9) rfl (by decide +kernel) rfl rfl (Nat.le_of_ble_eq_true rfl) dX1_findAndCacheMinimum_120 (fun f3 H locs hu3 hfr3 hH => ?_)
        have hx4 : f3 h = .inr (1, [.ref ba, .long sz, .ref ls0, .ref x.1, .int (nI b), .int (-1), .ref mn, .ref mx]) := hu3
        refine lv_aload_n hx hb dX1_findAndCacheMinimum_123 rfl (lv_at hl 1 rfl) ?_
        refine lv_iload_n hx hb dX1_findAndCacheMinimum_124 rfl (lv_at hl 2 rfl) ?_
        refine rh_put (ci := 1) (v := .int (nI j)) (ty := .int) (C := RX2) (T := TX2) (N := 8) hx hb hts in_X2 tyX2 tyX2_ok nmX2 hown hC hH hhL hx4 rfl 5 (by decide) (hts _ q197) (fun _ h9 => h9) rfl (by decide +kernel) rfl rfl (Nat.le_of_ble_eq_true rfl) dX1_findAndCacheMinimum_125 (fun f5 H locs hu5 hfr5 hH => ?_)
        have hx6 : f5 h = .inr (1, [.ref ba, .long sz, .ref ls0, .ref x.1, .int (nI b), .int (nI j), .ref mn, .ref mx]) := hu5
        have hgK : ∀ a ∈ L1, a ≠ h → f5 a = f2 a := fun a _ h9 => (hfr5 a h9).trans (hfr3 a h9)
        refine lv_iinc (v := nI (j + 1)) (lv' := [(2, .int (nI (j + 1))), (4, .ref x.1), (0, .ref h), (3, .ref it)]) hx hb dX1_findAndCacheMinimum_128 hl (k := 2) rfl (nI_1 j) (by decide) rfl (fun ls hl => ?_)
        refine lv_goto (tgt := 80) hx hb dX1_findAndCacheMinimum_131 (by decide) ?_
        exact ih (j + 1) hlt (by omega) f5 (some x) (nI j) (nI j) _ _ hx6 ((hgK it hit hhit.symm).trans hif2) (hBk2.frO (fun _ h9 => h9) hhf2 (by decide) (by decide) hgK) (fun a ha9 h9 => (hgK a (hsub a ha9) h9).trans (hgM a ha9 h9)) (Or.inr ⟨x, j, rfl, rfl, Nat.lt_succ_self j, hx0, fun y hy => by rw [hj0] at hy hx0; exact tk_one hx0 hy⟩) hH ls (lv_sub hl [2, 0, 3] rfl)
      · have hhf2 : f2 h = .inr (1, [.ref ba, .long sz, .ref ls0, .ref m0.1, .int (nI b), .int (nI q), .ref mn, .ref mx]) := hhf2
        have hm1 : m0 ∈ B b := List.mem_of_getElem? hmq
        have hm2 : rhLg Z L1 f2 m0.1 m0.2 := (hBk2.2.1 b hbk).2.2.1 m0 hm1
        refine lv_aload_n hx hb dX1_findAndCacheMinimum_97 rfl (lv_at hl 1 rfl) ?_
        refine rh_get (ci := 1) (C := RX2) (T := TX2) (N := 8) hx hb hts in_X2 hown hC hH hhL hhf2 rfl 3 (by decide) (hts _ q195) (fun _ h9 => h9) rfl dX1_findAndCacheMinimum_98 ?_
        refine lv_ifnull hx hb dX1_findAndCacheMinimum_101 ?_
        refine lv_aload_n hx hb dX1_findAndCacheMinimum_104 rfl (lv_at hl 1 rfl) ?_
        refine lv_aload hx hb dX1_findAndCacheMinimum_105 (lv_at hl 0 rfl) ?_
        refine lv_aload_n hx hb dX1_findAndCacheMinimum_107 rfl (lv_at hl 1 rfl) ?_
        refine rh_get (ci := 1) (C := RX2) (T := TX2) (N := 8) hx hb hts in_X2 hown hC hH hhL hhf2 rfl 3 (by decide) (hts _ q195) (fun _ h9 => h9) rfl dX1_findAndCacheMinimum_108 ?_
        refine rh_ki hC hH (va_runU (As := [.ref x.1, .ref m0.1]) (rest := []) ⟨hx, hb, hml, hown, hts⟩ (met_compare l D Z L1 f2 h x.1 m0.1 x.2 m0.2 _ hhL hhf2 hx20 (hval b hbk m0 hm1) hxl hm2) (va_cwA (owner := "AbstractRadixHeap") (C := "LongRadixHeap") 2 hts (lw_U q249 q251 q252 q253 q10 q254) rfl rfl rfl hC.dCmp (by decide +kernel) ⟨Nat.le_of_ble_eq_true rfl, Nat.le_of_ble_eq_true rfl⟩) (rh_preV hC hH [.ref x.1, .ref m0.1] (rh_recv hC hH hhL hhf2 (q := (RX2, TX2, 8)) rfl)) rfl rfl hl.1 rfl (lv_room (Nat.le_of_ble_eq_true rfl)) dX1_findAndCacheMinimum_111 ⟨Nat.le_of_ble_eq_true rfl, Nat.le_of_ble_eq_true rfl⟩) (fun r7 L7 f7 H locs hp7 hH => ?_)
        obtain ⟨rfl, rfl, rfl⟩ := hp7
        refine lv_if_ge (tgt := 128) hx hb dX1_findAndCacheMinimum_114 (by decide) (fun c_1 => ?_) (fun c_1 => ?_)
        · refine lv_iinc (v := nI (j + 1)) (lv' := [(2, .int (nI (j + 1))), (4, .ref x.1), (0, .ref h), (3, .ref it)]) hx hb dX1_findAndCacheMinimum_128 hl (k := 2) rfl (nI_1 j) (by decide) rfl (fun ls hl => ?_)
          refine lv_goto (tgt := 80) hx hb dX1_findAndCacheMinimum_131 (by decide) ?_
          exact ih (j + 1) hlt (by omega) f2 (some m0) (nI q) (nI j) _ _ hhf2 hif2 hBk2 hgM (Or.inr ⟨m0, q, rfl, rfl, Nat.lt_succ_of_lt hq, hmq, fun y hy => (tk_succ hx0 hy).elim (hmm y) (fun z => by rw [z]; exact cmp_ge.mp c_1)⟩) hH ls (lv_sub hl [2, 0, 3] rfl)
        · have hxm0 : x.2 < m0.2 := by
            rcases Nat.lt_or_ge x.2 m0.2 with z | z
            · exact z
            · exact absurd (cmp_ge.mpr z) c_1
          refine lv_aload_n hx hb dX1_findAndCacheMinimum_117 rfl (lv_at hl 1 rfl) ?_
          refine lv_aload hx hb dX1_findAndCacheMinimum_118 (lv_at hl 0 rfl) ?_
          refine rh_put (ci := 1) (v := .ref x.1) (ty := .object "java/lang/Object") (C := RX2) (T := TX2) (N := 8) hx hb hts in_X2 tyX2 tyX2_ok nmX2 hown hC hH hhL hhf2 rfl 3 (by decide) (hts _ q195) (fun _ h9 => h9) rfl (by decide +kernel) rfl rfl (Nat.le_of_ble_eq_true rfl) dX1_findAndCacheMinimum_120 (fun f8 H locs hu8 hfr8 hH => ?_)
          have hx9 : f8 h = .inr (1, [.ref ba, .long sz, .ref ls0, .ref x.1, .int (nI b), .int (nI q), .ref mn, .ref mx]) := hu8
          refine lv_aload_n hx hb dX1_findAndCacheMinimum_123 rfl (lv_at hl 1 rfl) ?_
          refine lv_iload_n hx hb dX1_findAndCacheMinimum_124 rfl (lv_at hl 2 rfl) ?_
          refine rh_put (ci := 1) (v := .int (nI j)) (ty := .int) (C := RX2) (T := TX2) (N := 8) hx hb hts in_X2 tyX2 tyX2_ok nmX2 hown hC hH hhL hx9 rfl 5 (by decide) (hts _ q197) (fun _ h9 => h9) rfl (by decide +kernel) rfl rfl (Nat.le_of_ble_eq_true rfl) dX1_findAndCacheMinimum_125 (fun f10 H locs hu10 hfr10 hH => ?_)
          have hx11 : f10 h = .inr (1, [.ref ba, .long sz, .ref ls0, .ref x.1, .int (nI b), .int (nI j), .ref mn, .ref mx]) := hu10
          have hgK : ∀ a ∈ L1, a ≠ h → f10 a = f2 a := fun a _ h9 => (hfr10 a h9).trans (hfr8 a h9)
          refine lv_iinc (v := nI (j + 1)) (lv' := [(2, .int (nI (j + 1))), (4, .ref x.1), (0, .ref h), (3, .ref it)]) hx hb dX1_findAndCacheMinimum_128 hl (k := 2) rfl (nI_1 j) (by decide) rfl (fun ls hl => ?_)
          refine lv_goto (tgt := 80) hx hb dX1_findAndCacheMinimum_131 (by decide) ?_
          exact ih (j + 1) hlt (by omega) f10 (some x) (nI j) (nI j) _ _ hx11 ((hgK it hit hhit.symm).trans hif2) (hBk2.frO (fun _ h9 => h9) hhf2 (by decide) (by decide) hgK) (fun a ha9 h9 => (hgK a (hsub a ha9) h9).trans (hgM a ha9 h9)) (Or.inr ⟨x, j, rfl, rfl, Nat.lt_succ_self j, hx0, fun y hy => (tk_succ hx0 hy).elim (fun z => Nat.le_of_lt (Nat.lt_of_lt_of_le hxm0 (hmm y z))) (fun z => by rw [z]; exact Nat.le_refl _)⟩) hH ls (lv_sub hl [2, 0, 3] rfl)

set_option maxHeartbeats 4000000 in
set_option maxRecDepth 100000 in
theorem fc_tail {p : Program} {l : Launch} {e : Env} {s : State} {m : MethodId} {args : Array Value} {below : List Frame} {meth : Method} {c : Code} {D : va_G} {Z : Nat → Nat} {L : List Nat} {f : Nat → va_E} {h ba : Nat} {la ea : Nat → Nat} {md : Nat → Int32} {B : Nat → List (Nat × Nat)} {sz : Int64} {ls0 mn mx : Nat} {f1 : Nat → va_E} {cp : Int32} {H : Heap} {locs : List Loc} (hx : p.tables.exec = Jvm.exec) (hb : c.code = cX1_findAndCacheMinimum) (hr : meth.sig.returnType = none) (hlocks : meth.locks = false) (hml : c.maxLocals = 5) (hown : s.vm.findClass RX1 = some m.cls) (hts : ∀ w ∈ lw_all, w.before args s = true) (hC : rhCx D Z s) (hlen : ∀ i : Nat, i < 22 → (B i).length ≤ 64) (hval : ∀ i : Nat, i < 22 → ∀ x ∈ B i, x.2 < 2 ^ 20) (hhL : h ∈ L) (b : Nat) (hbk : b < 22) (hne : B b ≠ []) (hlow : ∀ i : Nat, i < b → B i = []) (hhf : f1 h = .inr (1, [.ref ba, .long sz, .ref ls0, .null, .int (nI b), .int cp, .ref mn, .ref mx])) (hBk : rhBks D Z L f1 ba la ea md B) (hfr : ∀ a ∈ L, a ≠ h → f1 a = f a) (hH : rhHp D Z L f1 s H locs) (ls : Array Slot) (hl : lv_has ls 5 [(0, .ref h)]) : W p l e ({ frames := 3, cells := 1, slots := 4, locals := 80 } : Room) s m args below meth c H locs 0 0 (MQ below (rhQv D Z (fun L' f' => ∃ (m0 : Nat × Nat) (b q : Nat), f' h = eHeap ba sz ls0 (some m0.1) (nI b) (nI q) mn mx ∧ b < 22 ∧ (B b)[q]? = some m0 ∧ (∀ i : Nat, i < b → B i = []) ∧ (∀ x ∈ B b, m0.2 ≤ x.2) ∧ (∀ a ∈ L, a ∈ L') ∧ (∀ a ∈ L, a ≠ h → f' a = f a))) args s 1 4 (rhA Z)) (F0 m 51 ls []) := by
  refine lv_aload_n hx hb dX1_findAndCacheMinimum_51 rfl (lv_at hl 0 rfl) ?_
  refine lv_iconst (v := -1) hx hb dX1_findAndCacheMinimum_52 (by decide) ?_
  refine rh_put (ci := 1) (v := .int (-1)) (ty := .int) (C := RX2) (T := TX2) (N := 8) hx hb hts in_X2 tyX2 tyX2_ok nmX2 hown hC hH hhL hhf rfl 5 (by decide) (hts _ q197) (fun _ h9 => h9) rfl (by decide +kernel) rfl rfl (Nat.le_of_ble_eq_true rfl) dX1_findAndCacheMinimum_53 (fun f12 H locs hu12 hfr12 hH => ?_)
  have hx13 : f12 h = .inr (1, [.ref ba, .long sz, .ref ls0, .null, .int (nI b), .int (-1), .ref mn, .ref mx]) := hu12
  refine lv_aload_n hx hb dX1_findAndCacheMinimum_56 rfl (lv_at hl 0 rfl) ?_
  refine rh_get (ci := 1) (C := RX2) (T := TX2) (N := 8) hx hb hts in_X2 hown hC hH hhL hx13 rfl 4 (by decide) (hts _ q196) (fun _ h9 => h9) rfl dX1_findAndCacheMinimum_57 ?_
  refine lv_if_lt (tgt := 134) hx hb dX1_findAndCacheMinimum_60 (by decide) (fun c_1 => absurd c_1 (nI_pos (by omega))) (fun _ => ?_)
  have hBk2 : rhBks D Z L f12 ba la ea md B := hBk.frO (fun _ h9 => h9) hhf (by decide) (by decide) (fun a _ h9 => hfr12 a h9)
  obtain ⟨hlaL, hlaf, hlae⟩ := hBk2.2.1 b hbk
  obtain ⟨hbaL, G, hbaf, hG⟩ := hBk2.1
  refine lv_iconst (v := 0) hx hb dX1_findAndCacheMinimum_63 (by decide) ?_
  refine lv_istore_n (lv' := [(2, .int 0), (0, .ref h)]) hx hb dX1_findAndCacheMinimum_64 rfl hl (by decide) rfl (fun ls hl => ?_)
  refine lv_aload_n hx hb dX1_findAndCacheMinimum_65 rfl (lv_at hl 1 rfl) ?_
  refine rh_get (ci := 1) (C := RX2) (T := TX2) (N := 8) hx hb hts in_X2 hown hC hH hhL hx13 rfl 0 (by decide) (hts _ q186) (fun _ h9 => h9) rfl dX1_findAndCacheMinimum_66 ?_
  refine lv_aload_n hx hb dX1_findAndCacheMinimum_69 rfl (lv_at hl 1 rfl) ?_
  refine rh_get (ci := 1) (C := RX2) (T := TX2) (N := 8) hx hb hts in_X2 hown hC hH hhL hx13 rfl 4 (by decide) (hts _ q196) (fun _ h9 => h9) rfl dX1_findAndCacheMinimum_70 ?_
  refine rh_aald (t0 := 1) hx hb hC hH hbaL hbaf rfl (vp_in_nI hbk (by decide)) dX1_findAndCacheMinimum_73 ?_
  rw [nI_clamp (show b < 2 ^ 31 by omega), rf_some (hG b hbk)]
  refine rh_kFr hC hH (va_runF (As := []) (rest := []) (hC.at (c := 4) rfl) ⟨hx, hb, hml, hown, hts⟩ (met_iterator l D Z L f12 (la b) (ea b) (md b) (nI (B b).length) hlaL hlaf) (va_cwF (C := "java/util/ArrayList") 0 hts (lw_F q447 q450 q452 q20 q454) rfl rfl rfl (hC.fIterator) (by decide +kernel) ⟨Nat.le_of_ble_eq_true rfl, Nat.le_of_ble_eq_true rfl⟩) (rh_preV hC hH [] (rh_recv hC hH hlaL hlaf (q := (RJ8, TJ8, 3)) rfl)) rfl rfl hl.1 rfl (lv_room (Nat.le_of_ble_eq_true rfl)) dX1_findAndCacheMinimum_74 ⟨Nat.le_of_ble_eq_true rfl, Nat.le_of_ble_eq_true rfl⟩) (fun it14 L14 f14 H locs hp14 hH => ?_)
  obtain ⟨hq, rfl, hif, hgM⟩ := hp14
  refine lv_astore_n (lv' := [(3, .ref it14), (2, .int 0), (0, .ref h)]) hx hb dX1_findAndCacheMinimum_79 rfl hl (by decide) rfl (fun ls hl => ?_)
  exact fc_loop2 hx hb hr hlocks hml hown hts hC hlen hval (List.mem_append_left _ hhL) (rh_last L it14) hq (fun _ h9 => List.mem_append_left _ h9) hbk hne hlow ((B b).length + 1) 0 (Nat.zero_le _) (by omega) f14 none (-1) (-1) _ _ ((hgM h hhL).trans hx13) hif (hBk2.frA (fun _ h9 => List.mem_append_left _ h9) hgM) (fun a ha9 h9 => (hgM a ha9).trans ((hfr12 a h9).trans (hfr a ha9 h9))) (Or.inl ⟨rfl, rfl, rfl⟩) hH ls (lv_sub hl [2, 1, 0] rfl)

set_option maxHeartbeats 4000000 in
set_option maxRecDepth 100000 in
theorem fc_loop1 {p : Program} {l : Launch} {e : Env} {s : State} {m : MethodId} {args : Array Value} {below : List Frame} {meth : Method} {c : Code} {D : va_G} {Z : Nat → Nat} {L : List Nat} {f : Nat → va_E} {h ba : Nat} {la ea : Nat → Nat} {md : Nat → Int32} {B : Nat → List (Nat × Nat)} {sz : Int64} {ls0 mn mx : Nat} {f1 : Nat → va_E} {cp : Int32} (hx : p.tables.exec = Jvm.exec) (hb : c.code = cX1_findAndCacheMinimum) (hr : meth.sig.returnType = none) (hlocks : meth.locks = false) (hml : c.maxLocals = 5) (hown : s.vm.findClass RX1 = some m.cls) (hts : ∀ w ∈ lw_all, w.before args s = true) (hC : rhCx D Z s) (hlen : ∀ i : Nat, i < 22 → (B i).length ≤ 64) (hval : ∀ i : Nat, i < 22 → ∀ x ∈ B i, x.2 < 2 ^ 20) (hhL : h ∈ L) (hex : ∃ i : Nat, i < 22 ∧ B i ≠ []) (hhf : f1 h = .inr (1, [.ref ba, .long sz, .ref ls0, .null, .int (-1), .int cp, .ref mn, .ref mx])) (hBk : rhBks D Z L f1 ba la ea md B) (hfr : ∀ a ∈ L, a ≠ h → f1 a = f a) :
    ∀ (d i : Nat), i ≤ 22 → 22 + 1 ≤ i + d → (∀ k : Nat, k < i → B k = []) → ∀ (H : Heap) (locs : List Loc), rhHp D Z L f1 s H locs → ∀ (ls : Array Slot), lv_has ls 5 [(0, .ref h), (2, .int (nI i))] → W p l e ({ frames := 3, cells := 1, slots := 4, locals := 80 } : Room) s m args below meth c H locs 0 0 (MQ below (rhQv D Z (fun L' f' => ∃ (m0 : Nat × Nat) (b q : Nat), f' h = eHeap ba sz ls0 (some m0.1) (nI b) (nI q) mn mx ∧ b < 22 ∧ (B b)[q]? = some m0 ∧ (∀ i : Nat, i < b → B i = []) ∧ (∀ x ∈ B b, m0.2 ≤ x.2) ∧ (∀ a ∈ L, a ∈ L') ∧ (∀ a ∈ L, a ≠ h → f' a = f a))) args s 1 4 (rhA Z)) (F0 m 14 ls []) := by
  intro d
  induction d with
  | zero => intro i h1 h2; omega
  | succ d ih =>
    intro i hi hid hlow H locs hH ls hl
    obtain ⟨hbaL, G, hbaf, hG⟩ := hBk.1
    refine lv_iload_n hx hb dX1_findAndCacheMinimum_14 rfl (lv_at hl 1 rfl) ?_
    refine lv_aload_n hx hb dX1_findAndCacheMinimum_15 rfl (lv_at hl 0 rfl) ?_
    refine rh_get (ci := 1) (C := RX2) (T := TX2) (N := 8) hx hb hts in_X2 hown hC hH hhL hhf rfl 0 (by decide) (hts _ q186) (fun _ h9 => h9) rfl dX1_findAndCacheMinimum_16 ?_
    refine rh_alen hx hb hC hH hbaL hbaf (t0 := 1) rfl (v := nI 22) rfl dX1_findAndCacheMinimum_19 ?_
    refine lv_icmp_ge (tgt := 51) hx hb dX1_findAndCacheMinimum_20 (by decide) (fun c_1 => ?_) (fun c_1 => ?_)
    · have hi22 : 22 ≤ i := by
        rcases Nat.lt_or_ge i 22 with q | q
        · exact absurd c_1 (nI_ge q (by decide))
        · exact q
      obtain ⟨k, hk, hk2⟩ := hex
      exact absurd (hlow k (by omega)) hk2
    · have hlt : i < 22 := by
        rcases Nat.lt_or_ge i 22 with q | q
        · exact q
        · exact absurd (nI_le q (by omega)) c_1
      obtain ⟨hlaL, hlaf, hlae⟩ := hBk.2.1 i hlt
      refine lv_aload_n hx hb dX1_findAndCacheMinimum_23 rfl (lv_at hl 0 rfl) ?_
      refine rh_get (ci := 1) (C := RX2) (T := TX2) (N := 8) hx hb hts in_X2 hown hC hH hhL hhf rfl 0 (by decide) (hts _ q186) (fun _ h9 => h9) rfl dX1_findAndCacheMinimum_24 ?_
      refine lv_iload_n hx hb dX1_findAndCacheMinimum_27 rfl (lv_at hl 1 rfl) ?_
      refine rh_aald (t0 := 1) hx hb hC hH hbaL hbaf rfl (vp_in_nI hlt (by decide)) dX1_findAndCacheMinimum_28 ?_
      rw [nI_clamp (show i < 2 ^ 31 by omega), rf_some (hG i hlt)]
      have hl64 := hlen i hlt
      refine rh_kFi hC hH (va_runF (As := []) (rest := []) (hC.at (c := 4) rfl) ⟨hx, hb, hml, hown, hts⟩ (met_isEmpty l D Z L f1 (la i) (ea i) (md i) (B i) hlaL hlaf (by omega)) (va_cwF (C := "java/util/ArrayList") 0 hts (lw_F q438 q441 q443 q20 q445) rfl rfl rfl (hC.fIsEmpty) (by decide +kernel) ⟨Nat.le_of_ble_eq_true rfl, Nat.le_of_ble_eq_true rfl⟩) (rh_preV hC hH [] (rh_recv hC hH hlaL hlaf (q := (RJ8, TJ8, 3)) rfl)) rfl rfl hl.1 rfl (lv_room (Nat.le_of_ble_eq_true rfl)) dX1_findAndCacheMinimum_29 ⟨Nat.le_of_ble_eq_true rfl, Nat.le_of_ble_eq_true rfl⟩) (fun r15 L15 f15 H locs hp15 hH => ?_)
      obtain ⟨rfl, rfl, rfl⟩ := hp15
      by_cases hemp : (B i).length = 0
      · rw [if_pos hemp]
        refine lv_if_ne (tgt := 45) hx hb dX1_findAndCacheMinimum_34 (by decide) (fun _ => ?_) (fun z => absurd z (by decide))
        refine lv_iinc (v := nI (i + 1)) (lv' := [(2, .int (nI (i + 1))), (0, .ref h)]) hx hb dX1_findAndCacheMinimum_45 hl (k := 1) rfl (nI_1 i) (by decide) rfl (fun ls hl => ?_)
        refine lv_goto (tgt := 14) hx hb dX1_findAndCacheMinimum_48 (by decide) ?_
        exact ih (i + 1) hlt (by omega) (fun k hk => by
          by_cases hki : k = i
          · subst hki; exact List.length_eq_zero_iff.mp hemp
          · exact hlow k (by omega)) _ _ hH ls (lv_sub hl [1, 0] rfl)
      · rw [if_neg hemp]
        refine lv_if_ne (tgt := 45) hx hb dX1_findAndCacheMinimum_34 (by decide) (fun z => absurd rfl z) (fun _ => ?_)
        refine lv_aload_n hx hb dX1_findAndCacheMinimum_37 rfl (lv_at hl 0 rfl) ?_
        refine lv_iload_n hx hb dX1_findAndCacheMinimum_38 rfl (lv_at hl 1 rfl) ?_
        refine rh_put (ci := 1) (v := .int (nI i)) (ty := .int) (C := RX2) (T := TX2) (N := 8) hx hb hts in_X2 tyX2 tyX2_ok nmX2 hown hC hH hhL hhf rfl 4 (by decide) (hts _ q196) (fun _ h9 => h9) rfl (by decide +kernel) rfl rfl (Nat.le_of_ble_eq_true rfl) dX1_findAndCacheMinimum_39 (fun f16 H locs hu16 hfr16 hH => ?_)
        have hx17 : f16 h = .inr (1, [.ref ba, .long sz, .ref ls0, .null, .int (nI i), .int cp, .ref mn, .ref mx]) := hu16
        refine lv_goto (tgt := 51) hx hb dX1_findAndCacheMinimum_42 (by decide) ?_
        exact fc_tail hx hb hr hlocks hml hown hts hC hlen hval hhL i hlt (fun z => hemp (by rw [z]; rfl)) hlow hx17 (hBk.frO (fun _ h9 => h9) hhf (by decide) (by decide) (fun a _ h9 => hfr16 a h9)) (fun a ha9 h9 => (hfr16 a h9).trans (hfr a ha9 h9)) hH ls (lv_sub hl [0] rfl)

set_option maxHeartbeats 4000000 in
set_option maxRecDepth 100000 in
theorem met_fcNone (l : Launch) (D : va_G) (Z : Nat → Nat) (L : List Nat) (f : Nat → va_E) (h ba : Nat) (la ea : Nat → Nat) (md : Nat → Int32) (B : Nat → List (Nat × Nat)) (sz : Int64) (ls0 mn mx : Nat) (cb cp : Int32) (hhL : h ∈ L) (hhf : f h = eHeap ba sz ls0 none cb cp mn mx) (hBk : rhBks D Z L f ba la ea md B) (i0 : Nat) (hi0 : i0 ≤ 22) (hlow : ∀ i : Nat, i < i0 → B i = []) (hex : ∃ i : Nat, i < 22 ∧ B i ≠ []) (hlen : ∀ i : Nat, i < 22 → (B i).length ≤ 64) (hval : ∀ i : Nat, i < 22 → ∀ x ∈ B i, x.2 < 2 ^ 20) : Met l yX1_findAndCacheMinimum (ws_ yX1_findAndCacheMinimum cX1_findAndCacheMinimum 5 (none)) ({ frames := 3, cells := 1, slots := 4, locals := 80 }) (rhPc D Z L f [.ref h, .int (nI i0)]) (rhQv D Z (fun L' f' => ∃ (m0 : Nat × Nat) (b q : Nat), f' h = eHeap ba sz ls0 (some m0.1) (nI b) (nI q) mn mx ∧ b < 22 ∧ (B b)[q]? = some m0 ∧ (∀ i : Nat, i < b → B i = []) ∧ (∀ x ∈ B b, m0.2 ≤ x.2) ∧ (∀ a ∈ L, a ∈ L') ∧ (∀ a ∈ L, a ≠ h → f' a = f a))) 1 4 (rhA Z) := by
  refine rh_ofW (by decide +kernel) (Nat.le_of_ble_eq_true rfl) ?_
  intro p e s m args below meth c hx hb hr hlocks hml hown hin hts hC hH ls hl
  have hown : s.vm.findClass RX1 = some m.cls := hown
  have hl : lv_has ls 5 [(0, .ref h), (1, .int (nI i0))] := hl
  have hhf : f h = .inr (1, [.ref ba, .long sz, .ref ls0, .null, .int cb, .int cp, .ref mn, .ref mx]) := hhf
  refine lv_aload_n hx hb dX1_findAndCacheMinimum_0 rfl (lv_at hl 0 rfl) ?_
  refine rh_get (ci := 1) (C := RX2) (T := TX2) (N := 8) hx hb hts in_X2 hown hC hH hhL hhf rfl 3 (by decide) (hts _ q195) (fun _ h9 => h9) rfl dX1_findAndCacheMinimum_1 ?_
  refine lv_ifnonnullN hx hb dX1_findAndCacheMinimum_4 ?_
  refine lv_aload_n hx hb dX1_findAndCacheMinimum_7 rfl (lv_at hl 0 rfl) ?_
  refine lv_iconst (v := -1) hx hb dX1_findAndCacheMinimum_8 (by decide) ?_
  refine rh_put (ci := 1) (v := .int (-1)) (ty := .int) (C := RX2) (T := TX2) (N := 8) hx hb hts in_X2 tyX2 tyX2_ok nmX2 hown hC hH hhL hhf rfl 4 (by decide) (hts _ q196) (fun _ h9 => h9) rfl (by decide +kernel) rfl rfl (Nat.le_of_ble_eq_true rfl) dX1_findAndCacheMinimum_9 (fun f18 H locs hu18 hfr18 hH => ?_)
  have hx19 : f18 h = .inr (1, [.ref ba, .long sz, .ref ls0, .null, .int (-1), .int cp, .ref mn, .ref mx]) := hu18
  refine lv_iload_n hx hb dX1_findAndCacheMinimum_12 rfl (lv_at hl 1 rfl) ?_
  refine lv_istore_n (lv' := [(2, .int (nI i0)), (0, .ref h), (1, .int (nI i0))]) hx hb dX1_findAndCacheMinimum_13 rfl hl (by decide) rfl (fun ls hl => ?_)
  exact fc_loop1 hx hb hr hlocks hml hown hts hC hlen hval hhL hex hx19 (hBk.frO (fun _ h9 => h9) hhf (by decide) (by decide) (fun a _ h9 => hfr18 a h9)) (fun a _ h9 => hfr18 a h9) 23 i0 hi0 (by omega) hlow _ _ hH ls (lv_sub hl [1, 0] rfl)

set_option maxHeartbeats 4000000 in
set_option maxRecDepth 100000 in
theorem met_fcSome (l : Launch) (D : va_G) (Z : Nat → Nat) (L : List Nat) (f : Nat → va_E) (h : Nat) (x0 x1 x2 x4 x5 x6 x7 : Value) (m0 : Nat) (j0 : Int32) (hhL : h ∈ L) (hhf : f h = .inr (1, [x0, x1, x2, .ref m0, x4, x5, x6, x7])) : Met l yX1_findAndCacheMinimum (ws_ yX1_findAndCacheMinimum cX1_findAndCacheMinimum 5 (none)) ({ frames := 3, cells := 1, slots := 4, locals := 80 }) (rhPc D Z L f [.ref h, .int j0]) (rhQv D Z (fun L' f' => L = L' ∧ f = f')) 1 4 (rhA Z) := by
  refine rh_ofW (by decide +kernel) (Nat.le_of_ble_eq_true rfl) ?_
  intro p e s m args below meth c hx hb hr hlocks hml hown hin hts hC hH ls hl
  have hown : s.vm.findClass RX1 = some m.cls := hown
  have hl : lv_has ls 5 [(0, .ref h), (1, .int j0)] := hl
  refine lv_aload_n hx hb dX1_findAndCacheMinimum_0 rfl (lv_at hl 0 rfl) ?_
  refine rh_get (ci := 1) (C := RX2) (T := TX2) (N := 8) hx hb hts in_X2 hown hC hH hhL hhf rfl 3 (by decide) (hts _ q195) (fun _ h9 => h9) rfl dX1_findAndCacheMinimum_1 ?_
  refine lv_ifnonnull (tgt := 134) hx hb dX1_findAndCacheMinimum_4 (by decide) ?_
  exact rh_vret hx hb hr hlocks hC hH (Nat.le_of_ble_eq_true rfl) (Nat.le_of_ble_eq_true rfl) (⟨rfl, rfl⟩) dX1_findAndCacheMinimum_134
end
section
/-! AbstractRadixHeap.deleteMin (printed by tools/p15.py) -/
theorem rhFl_ex {B : Nat → List (Nat × Nat)} : ∀ {n : Nat}, rhFl B n ≠ [] → ∃ i : Nat, i < n ∧ B i ≠ []
  | 0, h => absurd rfl h
  | n + 1, h => by
    by_cases h1 : rhFl B n = []
    · refine ⟨n, Nat.lt_succ_self n, fun z => h ?_⟩
      show rhFl B n ++ (B n).map (·.2) = []
      rw [h1, z]; rfl
    · obtain ⟨i, h2, h3⟩ := rhFl_ex h1
      exact ⟨i, by omega, h3⟩
theorem rhMin.scan {B : Nat → List (Nat × Nat)} {ks : List Nat} {lv b q : Nat} {m : Nat × Nat} (h : rhPure B ks lv) (hb : b < 22) (hq : (B b)[q]? = some m) (hlow : ∀ i : Nat, i < b → B i = []) (hm : ∀ x ∈ B b, m.2 ≤ x.2) : rhMin B ks (some m) (nI b) (nI q) := by
  refine Or.inr ⟨m, b, q, rfl, rfl, rfl, hb, hq, fun k hk => ?_⟩
  obtain ⟨i, hi, x, hx, rfl⟩ := rhFl_mem.mp ((h.2.2.mem_iff).mp hk)
  have h1 := h.2.1 i hi x hx
  have h2 := h.2.1 b hb m (List.mem_of_getElem? hq)
  rcases Nat.lt_trichotomy i b with z | z | z
  · rw [hlow i z] at hx; exact absurd hx List.not_mem_nil
  · subst z; exact hm x hx
  · exact Nat.le_of_lt (rb_lt (l := lv) h1.1 (by rw [h1.2.2, h2.2.2]; exact z))
/-- out of the lowest bucket -/
theorem rhPure.del0 {B : Nat → List (Nat × Nat)} {ks : List Nat} {lv q : Nat} {m : Nat × Nat} (h : rhPure B ks lv) (hq : (B 0)[q]? = some m) : m.2 = lv ∧ rhPure (va_up B 0 ((B 0).eraseIdx q)) (ks.erase m.2) m.2 := by
  have h2 := h.2.1 0 (by decide) m (List.mem_of_getElem? hq)
  have h3 : m.2 = lv := rb_zero h2.2.2
  refine ⟨h3, by rw [h3]; exact h.1, fun i hi x hx => ?_, ?_⟩
  · rw [h3]
    by_cases hi0 : i = 0
    · subst hi0
      rw [va_up_self] at hx
      exact h.2.1 0 hi x (List.mem_of_mem_eraseIdx hx)
    · rw [va_up_ne _ _ hi0] at hx
      exact h.2.1 i hi x hx
  · have h4 := (h.2.2.trans (rhFl_del (n := 22) (by decide) hq)).erase m.2
    rw [List.erase_cons_head] at h4
    exact h4
/-- the bucket b0 spread below -/
theorem rhPure.delS {B B1 : Nat → List (Nat × Nat)} {ks : List Nat} {b0 q0 : Nat} {m : Nat × Nat} (hks : ks.Perm (rhFl B 22)) (hb : b0 < 22) (hB : B1 b0 = B b0) (hq : (B b0)[q0]? = some m) (hm : m.2 < 2 ^ 20) (h1 : ∀ i : Nat, i < 22 → i ≠ b0 → ∀ x ∈ B1 i, m.2 ≤ x.2 ∧ x.2 < 2 ^ 20 ∧ rhBk x.2 m.2 = i) (h2 : (rhFl B1 22).Perm (((B b0).eraseIdx q0).map (·.2) ++ rhFl B 22)) : rhPure (va_up B1 b0 []) (ks.erase m.2) m.2 := by
  refine ⟨hm, fun i hi x hx => ?_, ?_⟩
  · by_cases hib : i = b0
    · subst hib
      rw [va_up_self] at hx
      exact absurd hx List.not_mem_nil
    · rw [va_up_ne _ _ hib] at hx
      exact h1 i hi hib x hx
  · have e1 := rhFl_clear (B := B1) (n := 22) hb
    rw [hB] at e1
    have e2 : ((B b0).map (·.2)).Perm (m.2 :: ((B b0).eraseIdx q0).map (·.2)) := (er_perm _ _ _ hq).map (·.2)
    have e3 : (((B b0).eraseIdx q0).map (·.2) ++ ks).Perm (((B b0).eraseIdx q0).map (·.2) ++ (m.2 :: rhFl (va_up B1 b0 []) 22)) := by
      refine (hks.append_left _).trans (h2.symm.trans (e1.trans ((e2.append_right _).trans ?_)))
      rw [List.cons_append]
      exact List.perm_middle.symm
    have e4 := (List.perm_append_left_iff _).mp e3
    have e5 := e4.erase m.2
    rw [List.erase_cons_head] at e5
    exact e5
theorem oth_skip {l : List (Nat × Nat)} {j q : Nat} (h : j = q) : (l.take (j + 1)).eraseIdx q = (l.take j).eraseIdx q := by
  subst h
  rw [List.eraseIdx_of_length_le (l := l.take j) (by rw [List.length_take]; omega), List.eraseIdx_eq_take_drop_succ]
  rw [List.take_take, Nat.min_eq_left (by omega), List.drop_eq_nil_of_le (by rw [List.length_take]; omega), List.append_nil]
theorem oth_step {l : List (Nat × Nat)} {j q : Nat} {x : Nat × Nat} (hx : l[j]? = some x) (h : j ≠ q) : (l.take (j + 1)).eraseIdx q = (l.take j).eraseIdx q ++ [x] := by
  rw [List.take_add_one, hx]
  have hl := (List.getElem?_eq_some_iff.mp hx).1
  show (l.take j ++ [x]).eraseIdx q = _
  rcases Nat.lt_or_ge q j with z | z
  · rw [List.eraseIdx_append_of_lt_length (by rw [List.length_take]; omega)]
  · rw [List.eraseIdx_append_of_length_le (by rw [List.length_take]; omega), List.eraseIdx_of_length_le (l := l.take j) (by rw [List.length_take]; omega), List.length_take, Nat.min_eq_left (by omega)]
    rw [List.eraseIdx_of_length_le (by show 1 ≤ q - j; omega)]
theorem ft_step {D : va_G} {Z : Nat → Nat} {L L1 : List Nat} {f f1 f2 : Nat → va_E} {h ba b : Nat} {la ea ea1 : Nat → Nat} (hfr : ∀ a ∈ L, ¬ rhFT Z h ba la ea a → f1 a = f a) (hea : ∀ i : Nat, i < 22 → ea1 i = ea i ∨ ea1 i ∉ L) (hZ : Z 1 ∉ L) (hb : b < 22) (hsub : ∀ a ∈ L, a ∈ L1) (g5 : ∀ a ∈ L1, a ≠ la b → a ≠ ea1 b → f2 a = f1 a) : ∀ a ∈ L, ¬ rhFT Z h ba la ea a → f2 a = f a := by
  intro a ha n9
  refine (g5 a (hsub a ha) (fun z => n9 (Or.inr (Or.inr (Or.inl ⟨b, hb, z⟩)))) (fun z => ?_)).trans (hfr a ha n9)
  rcases hea b hb with q | q
  · exact n9 (Or.inr (Or.inr (Or.inr ⟨b, hb, z.trans q, fun z2 => hZ (z2 ▸ ha)⟩)))
  · exact q (z ▸ ha)
theorem ea_step {L L1 : List Nat} {ea ea1 : Nat → Nat} {b eax : Nat} (hea : ∀ i : Nat, i < 22 → ea1 i = ea i ∨ ea1 i ∉ L) (hsub : ∀ a ∈ L, a ∈ L1) (g : eax = ea1 b ∨ eax ∉ L1) : ∀ i : Nat, i < 22 → va_up ea1 b eax i = ea i ∨ va_up ea1 b eax i ∉ L := by
  intro i hi
  by_cases h9 : i = b
  · subst h9
    rw [va_up_self]
    rcases g with g | g
    · rw [g]; exact hea i hi
    · exact Or.inr (fun z => g (hsub _ z))
  · rw [va_up_ne _ _ h9]
    exact hea i hi
theorem rhEl.own {D : va_G} {Z : Nat → Nat} {L : List Nat} {f : Nat → va_E} {ea : Nat} {xs : List (Nat × Nat)} (h : rhEl D Z L f ea xs) (hne : xs ≠ []) : ea ∈ L ∧ ∃ (cap : Nat) (F : Nat → Option Nat), f ea = eRefs (D.1 100) cap F ∧ xs.length ≤ cap ∧ 10 ≤ cap ∧ cap ≤ 96 ∧ ∀ j : Nat, j < xs.length → F j = (xs[j]?).map (·.1) := by
  rcases h.2 with ⟨z, -⟩ | z
  · exact absurd z hne
  · exact z
theorem er_len {ks : List Nat} {k : Nat} (h : k ∈ ks) : (ks.erase k).length = ks.length - 1 := List.length_erase_of_mem h
theorem lN_pred {n : Nat} (h : 0 < n) : lN n - 1 = lN (n - 1) := lN_sub (a := n) (b := 1) h
set_option maxHeartbeats 4000000 in
set_option maxRecDepth 100000 in
theorem dm_low {p : Program} {l : Launch} {e : Env} {s : State} {m : MethodId} {args : Array Value} {below : List Frame} {meth : Method} {c : Code} {D : va_G} {Z : Nat → Nat} {L : List Nat} {f : Nat → va_E} {h ba : Nat} {la ea : Nat → Nat} {ks : List Nat} {mn mx : Nat} {f1 : Nat → va_E} {H : Heap} {locs : List Loc} {md : Nat → Int32} {B : Nat → List (Nat × Nat)} {lv q0 : Nat} (hx : p.tables.exec = Jvm.exec) (hb : c.code = cX1_deleteMin) (hr : meth.sig.returnType = some (.object "java/lang/Object")) (hlocks : meth.locks = false) (hml : c.maxLocals = 8) (hown : s.vm.findClass RX1 = some m.cls) (hts : ∀ w ∈ lw_all, w.before args s = true) (hC : rhCx D Z s) (m0 : Nat × Nat) (hm0k : m0.2 ∈ ks) (hmin : ∀ j ∈ ks, m0.2 ≤ j) (hm20 : m0.2 < 2 ^ 20) (hn : ks.length ≤ 64) (hhL : h ∈ L) (hhf : f1 h = .inr (1, [.ref ba, .long (lN ks.length), .ref m0.1, .ref m0.1, .int (nI 0), .int (nI q0), .ref mn, .ref mx])) (hBk : rhBks D Z L f1 ba la ea md B) (hpu : rhPure B ks lv) (hq : (B 0)[q0]? = some m0) (hm2 : rhLg Z L f1 m0.1 m0.2) (hmx : rhLg Z L f1 mx 1048575) (hfr0 : ∀ a ∈ L, ¬ rhFT Z h ba la ea a → f1 a = f a) (hH : rhHp D Z L f1 s H locs) (ls : Array Slot) (hl : lv_has ls 8 [(0, .ref h)]) : W p l e ({ frames := 7, cells := 70, slots := 6200, locals := 210 } : Room) s m args below meth c H locs 0 0 (MQ below (rhQr D Z (fun r L' f' => ∃ (k : Nat) (ea' : Nat → Nat), rhLg Z L' f' r k ∧ k ∈ ks ∧ (∀ j ∈ ks, k ≤ j) ∧ k < 2 ^ 20 ∧ rhHeap D Z L' f' h ba la ea' (ks.erase k) k ∧ (∀ b ∈ L, b ∈ L') ∧ (∀ b ∈ L, ¬ rhFT Z h ba la ea b → f' b = f b) ∧ (∀ i : Nat, i < 22 → ea' i = ea i ∨ ea' i ∉ L))) args s 70 6200 (rhA Z)) (F0 m 32 ls []) := by
  have hZ := rh_Z1 hC hH
  have hn0 : 0 < ks.length := List.length_pos_of_mem hm0k
  obtain ⟨hbaL, G, hbaf, hG⟩ := hBk.1
  obtain ⟨hlaL, hlaf, hlae⟩ := hBk.2.1 0 (by decide)
  obtain ⟨heL, cap, F, hef, hc1, hc10, hc96, hF⟩ := hlae.own (fun z => by rw [z] at hq; cases hq)
  have hq1 : q0 < (B 0).length := (List.getElem?_eq_some_iff.mp hq).1
  obtain ⟨hmv, hpz⟩ := hpu.del0 hq
  refine lv_aload_n hx hb dX1_deleteMin_32 rfl (lv_at hl 0 rfl) ?_
  refine rh_get (ci := 1) (C := RX2) (T := TX2) (N := 8) hx hb hts in_X2 hown hC hH hhL hhf rfl 0 (by decide) (hts _ q186) (fun _ h9 => h9) rfl dX1_deleteMin_33 ?_
  refine lv_aload_n hx hb dX1_deleteMin_36 rfl (lv_at hl 0 rfl) ?_
  refine rh_get (ci := 1) (C := RX2) (T := TX2) (N := 8) hx hb hts in_X2 hown hC hH hhL hhf rfl 4 (by decide) (hts _ q196) (fun _ h9 => h9) rfl dX1_deleteMin_37 ?_
  refine rh_aald (t0 := 1) hx hb hC hH hbaL hbaf rfl (vp_in_nI (show 0 < 22 by decide) (by decide)) dX1_deleteMin_40 ?_
  rw [nI_clamp (show 0 < 2 ^ 31 by decide), rf_some (hG 0 (by decide))]
  refine lv_aload_n hx hb dX1_deleteMin_41 rfl (lv_at hl 0 rfl) ?_
  refine rh_get (ci := 1) (C := RX2) (T := TX2) (N := 8) hx hb hts in_X2 hown hC hH hhL hhf rfl 5 (by decide) (hts _ q197) (fun _ h9 => h9) rfl dX1_deleteMin_42 ?_
  refine rh_kFr hC hH (va_runF (As := [.int (nI q0)]) (rest := []) (hC.at (c := 4) rfl) ⟨hx, hb, hml, hown, hts⟩ (met_remove l D Z L f1 (la 0) (ea 0) (md 0) (B 0) hlaL hlaf q0 cap F hq1 hlae.1 heL hef hc1 hc10 hc96 hF) (va_cwF (C := "java/util/ArrayList") 1 hts (lw_F q414 q417 q419 q20 q421) rfl rfl rfl (hC.fRemove) (by decide +kernel) ⟨Nat.le_of_ble_eq_true rfl, Nat.le_of_ble_eq_true rfl⟩) (rh_preV hC hH [.int (nI q0)] (rh_recv hC hH hlaL hlaf (q := (RJ8, TJ8, 3)) rfl)) rfl rfl hl.1 rfl (lv_room (Nat.le_of_ble_eq_true rfl)) dX1_deleteMin_45 ⟨Nat.le_of_ble_eq_true rfl, Nat.le_of_ble_eq_true rfl⟩) (fun r101 L101 f101 H locs hp101 hH => ?_)
  obtain ⟨rfl, g1, g2, g5⟩ := hp101
  have hB1 : rhBks D Z L f101 ba la (va_up ea 0 (ea 0)) (va_up md 0 (md 0 + 1)) (va_up B 0 ((B 0).eraseIdx q0)) := hBk.upd (fun _ h9 => h9) hZ hC.dne (by decide) (by rw [List.length_eraseIdx, if_pos hq1]; exact g1) g2 (Or.inl rfl) g5
  rw [va_up_id] at hB1
  have hhne : h ≠ la 0 ∧ h ≠ ea 0 := ⟨rh_ne hhf hlaf (by nofun), rh_ne hhf hef (by nofun)⟩
  have hlgR : ∀ a ∈ L, ∀ k : Nat, f1 a = eLong k → f101 a = f1 a := fun a ha9 k9 e9 => g5 a ha9 (rh_ne e9 hlaf (by nofun)) (rh_ne e9 hef (by nofun))
  have hhfR : f101 h = .inr (1, [.ref ba, .long (lN ks.length), .ref m0.1, .ref m0.1, .int (nI 0), .int (nI q0), .ref mn, .ref mx]) := (g5 h hhL hhne.1 hhne.2).trans hhf
  have hfrR : ∀ a ∈ L, ¬ rhFT Z h ba la ea a → f101 a = f a := ft_step (D := D) hfr0 (fun i _ => Or.inl rfl) hZ (show 0 < 22 by decide) (fun _ h9 => h9) g5
  refine lv_pop hx hb dX1_deleteMin_50 rfl ?_
  refine lv_aload_n hx hb dX1_deleteMin_51 rfl (lv_at hl 0 rfl) ?_
  refine lv_null hx hb dX1_deleteMin_52 ?_
  refine rh_put (ci := 1) (v := .null) (ty := .object "java/lang/Object") (C := RX2) (T := TX2) (N := 8) hx hb hts in_X2 tyX2 tyX2_ok nmX2 hown hC hH hhL hhfR rfl 3 (by decide) (hts _ q195) (fun _ h9 => h9) rfl (by decide +kernel) rfl rfl (Nat.le_of_ble_eq_true rfl) dX1_deleteMin_53 (fun f102 H locs hu102 hfr102 hH => ?_)
  have hx103 : f102 h = .inr (1, [.ref ba, .long (lN ks.length), .ref m0.1, .null, .int (nI 0), .int (nI q0), .ref mn, .ref mx]) := hu102
  refine lv_aload_n hx hb dX1_deleteMin_56 rfl (lv_at hl 0 rfl) ?_
  refine lv_iconst (v := -1) hx hb dX1_deleteMin_57 (by decide) ?_
  refine rh_put (ci := 1) (v := .int (-1)) (ty := .int) (C := RX2) (T := TX2) (N := 8) hx hb hts in_X2 tyX2 tyX2_ok nmX2 hown hC hH hhL hx103 rfl 4 (by decide) (hts _ q196) (fun _ h9 => h9) rfl (by decide +kernel) rfl rfl (Nat.le_of_ble_eq_true rfl) dX1_deleteMin_58 (fun f104 H locs hu104 hfr104 hH => ?_)
  have hx105 : f104 h = .inr (1, [.ref ba, .long (lN ks.length), .ref m0.1, .null, .int (-1), .int (nI q0), .ref mn, .ref mx]) := hu104
  refine lv_aload_n hx hb dX1_deleteMin_61 rfl (lv_at hl 0 rfl) ?_
  refine lv_iconst (v := -1) hx hb dX1_deleteMin_62 (by decide) ?_
  refine rh_put (ci := 1) (v := .int (-1)) (ty := .int) (C := RX2) (T := TX2) (N := 8) hx hb hts in_X2 tyX2 tyX2_ok nmX2 hown hC hH hhL hx105 rfl 5 (by decide) (hts _ q197) (fun _ h9 => h9) rfl (by decide +kernel) rfl rfl (Nat.le_of_ble_eq_true rfl) dX1_deleteMin_63 (fun f106 H locs hu106 hfr106 hH => ?_)
  have hx107 : f106 h = .inr (1, [.ref ba, .long (lN ks.length), .ref m0.1, .null, .int (-1), .int (-1), .ref mn, .ref mx]) := hu106
  refine lv_aload_n hx hb dX1_deleteMin_66 rfl (lv_at hl 0 rfl) ?_
  refine lv_dup hx hb dX1_deleteMin_67 rfl ?_
  refine rh_get (ci := 1) (C := RX2) (T := TX2) (N := 8) hx hb hts in_X2 hown hC hH hhL hx107 rfl 1 (by decide) (hts _ q189) (fun _ h9 => h9) rfl dX1_deleteMin_68 ?_
  refine lv_lconst (v := 1) hx hb dX1_deleteMin_71 (by decide) ?_
  refine lv_lsub hx hb dX1_deleteMin_72 ?_
  rw [lN_pred hn0]
  refine lv_dup2_x1_2 hx hb dX1_deleteMin_73 rfl rfl ?_
  refine rh_put (ci := 1) (v := .long (lN (ks.length - 1))) (ty := .long) (C := RX2) (T := TX2) (N := 8) hx hb hts in_X2 tyX2 tyX2_ok nmX2 hown hC hH hhL hx107 rfl 1 (by decide) (hts _ q189) (fun _ h9 => h9) rfl (by decide +kernel) rfl rfl (Nat.le_of_ble_eq_true rfl) dX1_deleteMin_74 (fun f108 H locs hu108 hfr108 hH => ?_)
  have hx109 : f108 h = .inr (1, [.ref ba, .long (lN (ks.length - 1)), .ref m0.1, .null, .int (-1), .int (-1), .ref mn, .ref mx]) := hu108
  refine lv_lconst (v := 0) hx hb dX1_deleteMin_77 (by decide) ?_
  refine W.lcmp hx hb dX1_deleteMin_78 ?_
  have hgK : ∀ a ∈ L, a ≠ h → f108 a = f101 a := fun a _ h9 => ((((hfr108 a h9)).trans (hfr106 a h9)).trans (hfr104 a h9)).trans (hfr102 a h9)
  have hB2 := hB1.frO (fun _ h9 => h9) hhfR (by decide) (by decide) hgK
  have hlg2 : ∀ a ∈ L, ∀ k : Nat, f1 a = eLong k → f108 a = f1 a := fun a ha9 k9 e9 => (hgK a ha9 (rh_ne e9 hhf (by nofun))).trans (hlgR a ha9 k9 e9)
  have hm3 := hm2.fr (fun _ h9 => h9) (fun a ha9 => hlg2 a ha9 _)
  have hmx3 := hmx.fr (fun _ h9 => h9) (fun a ha9 => hlg2 a ha9 _)
  have hfr3z : ∀ a ∈ L, ¬ rhFT Z h ba la ea a → f108 a = f a := fun a ha9 n9 => (hgK a ha9 (fun z => n9 (Or.inl z))).trans (hfrR a ha9 n9)
  refine lv_if_le (tgt := 266) hx hb dX1_deleteMin_79 (by decide) (fun c_1 => ?_) (fun c_1 => ?_)
  · have hk0 : ks.length - 1 = 0 := by
      have := (pk_lLE (b := 0) (by omega) (by decide)).mp ((lg_cmp_le _ _).mp c_1)
      omega
    refine lv_aload_n hx hb dX1_deleteMin_266 rfl (lv_at hl 0 rfl) ?_
    refine rh_get (ci := 1) (C := RX2) (T := TX2) (N := 8) hx hb hts in_X2 hown hC hH hhL hx109 rfl 2 (by decide) (hts _ q192) (fun _ h9 => h9) rfl dX1_deleteMin_267 ?_
    exact rh_aret (v := m0.1) hx hb hr (Or.inl ⟨_, rfl⟩) hlocks hC hH (Nat.le_of_ble_eq_true rfl) (Nat.le_of_ble_eq_true rfl) (⟨m0.2, ea, hm3, hm0k, hmin, hm20, ⟨(va_up md 0 (md 0 + 1)), (va_up B 0 ((B 0).eraseIdx q0)), m0.1, mn, mx, none, (-1), (-1), ⟨hhL, by rw [er_len hm0k]; exact hx109⟩, hB2, ⟨hm3, hmx3⟩, hpz, Or.inl ⟨List.length_eq_zero_iff.mp (by rw [er_len hm0k]; exact hk0), rfl⟩⟩, fun _ h9 => h9, hfr3z, fun i _ => Or.inl rfl⟩) dX1_deleteMin_270
  · have hk0 : ¬ (ks.erase m0.2).length = 0 := by
      rw [er_len hm0k]
      intro z
      exact c_1 ((lg_cmp_le _ _).mpr ((pk_lLE (b := 0) (by omega) (by decide)).mpr (by omega)))
    have hkl := er_len hm0k
    refine lv_aload_n hx hb dX1_deleteMin_82 rfl (lv_at hl 0 rfl) ?_
    refine lv_iconst (v := 0) hx hb dX1_deleteMin_83 (by decide) ?_
    have hhz : f108 h = eHeap ba (lN (ks.length - 1)) m0.1 none (-1) (-1) mn mx := hx109
    have hex := rhFl_ex (B := (va_up B 0 ((B 0).eraseIdx q0))) (n := 22) (fun z => hk0 (by rw [hpz.2.2.length_eq, z]; rfl))
    refine rh_kv hC hH (va_runU (As := [.int (nI 0)]) (rest := []) ⟨hx, hb, hml, hown, hts⟩ (met_fcNone l D Z L f108 h ba la ea (va_up md 0 (md 0 + 1)) (va_up B 0 ((B 0).eraseIdx q0)) _ m0.1 mn mx (-1) (-1) hhL hhz hB2 0 (Nat.zero_le _) (fun i hi => absurd hi (Nat.not_lt_zero i)) hex (fun i hi => by have := rhPure.len hpz hi; omega) (fun i hi x hx9 => (hpz.2.1 i hi x hx9).2.1)) (rh_cwP hC hts rfl rfl ⟨Nat.le_of_ble_eq_true rfl, Nat.le_of_ble_eq_true rfl⟩) (rh_preV hC hH [.int (nI 0)] (rh_recv hC hH hhL hhz (q := (RX2, TX2, 8)) rfl)) rfl rfl hl.1 rfl (lv_room (Nat.le_of_ble_eq_true rfl)) dX1_deleteMin_84 ⟨show 0 + 1 ≤ 70 by omega, show 0 + 4 ≤ 6200 by omega⟩) (fun L110 f110 H locs hp110 hH => ?_)
    obtain ⟨m1, b1, q1, g1, g2, g3, g4, g5, g6, g7⟩ := hp110
    refine lv_goto (tgt := 266) hx hb dX1_deleteMin_87 (by decide) ?_
    have hhg : f110 h = .inr (1, [.ref ba, .long (lN (ks.length - 1)), .ref m0.1, .ref m1.1, .int (nI b1), .int (nI q1), .ref mn, .ref mx]) := g1
    have hlg4 : ∀ a ∈ L, ∀ k : Nat, f108 a = eLong k → f110 a = f108 a := fun a ha9 k9 e9 => g7 a ha9 (rh_ne e9 hhz (by nofun))
    refine lv_aload_n hx hb dX1_deleteMin_266 rfl (lv_at hl 0 rfl) ?_
    refine rh_get (ci := 1) (C := RX2) (T := TX2) (N := 8) hx hb hts in_X2 hown hC hH (g6 _ hhL) hhg rfl 2 (by decide) (hts _ q192) (fun _ h9 => h9) rfl dX1_deleteMin_267 ?_
    exact rh_aret (v := m0.1) hx hb hr (Or.inl ⟨_, rfl⟩) hlocks hC hH (Nat.le_of_ble_eq_true rfl) (Nat.le_of_ble_eq_true rfl) (⟨m0.2, ea, (hm3.fr g6 (fun a ha9 => hlg4 a ha9 _)), hm0k, hmin, hm20, ⟨(va_up md 0 (md 0 + 1)), (va_up B 0 ((B 0).eraseIdx q0)), m0.1, mn, mx, (some m1), (nI b1), (nI q1), ⟨(g6 _ hhL), by rw [er_len hm0k]; exact hhg⟩, (hB2.frO g6 hhz (by decide) (by decide) g7), ⟨(hm3.fr g6 (fun a ha9 => hlg4 a ha9 _)), (hmx3.fr g6 (fun a ha9 => hlg4 a ha9 _))⟩, hpz, rhMin.scan hpz g2 g3 g4 g5⟩, g6, fun a ha9 n9 => (g7 a ha9 (fun z => n9 (Or.inl z))).trans (hfr3z a ha9 n9), fun i _ => Or.inl rfl⟩) dX1_deleteMin_270

set_option maxHeartbeats 4000000 in
set_option maxRecDepth 100000 in
theorem dm_done {p : Program} {l : Launch} {e : Env} {s : State} {m : MethodId} {args : Array Value} {below : List Frame} {meth : Method} {c : Code} {D : va_G} {Z : Nat → Nat} {L : List Nat} {f : Nat → va_E} {h ba : Nat} {la ea : Nat → Nat} {ks : List Nat} {mn mx : Nat} {L1 : List Nat} {f1 : Nat → va_E} {H : Heap} {locs : List Loc} {ea1 : Nat → Nat} {md1 : Nat → Int32} {B B1 : Nat → List (Nat × Nat)} {b0 q0 n1 n2 : Nat} {nm : Option (Nat × Nat)} {nb np : Int32} (hx : p.tables.exec = Jvm.exec) (hb : c.code = cX1_deleteMin) (hr : meth.sig.returnType = some (.object "java/lang/Object")) (hlocks : meth.locks = false) (hml : c.maxLocals = 8) (hown : s.vm.findClass RX1 = some m.cls) (hts : ∀ w ∈ lw_all, w.before args s = true) (hC : rhCx D Z s) (m0 : Nat × Nat) (hm0k : m0.2 ∈ ks) (hmin : ∀ j ∈ ks, m0.2 ≤ j) (hm20 : m0.2 < 2 ^ 20) (hn : ks.length ≤ 64) (hc70 : n1 ≤ 66) (hs62 : n2 ≤ 6190) (hhL : h ∈ L1) (hhf : f1 h = .inr (1, [.ref ba, .long (lN ks.length), .ref m0.1, .ref m0.1, .int (nI b0), .int (nI q0), .ref mn, .ref mx])) (hBk : rhBks D Z L1 f1 ba la ea1 md1 B1) (hb0 : b0 < 22) (hB : B1 b0 = B b0) (hks : ks.Perm (rhFl B 22)) (hq : (B b0)[q0]? = some m0) (hm2 : rhLg Z L1 f1 m0.1 m0.2) (hmx : rhLg Z L1 f1 mx 1048575) (hI1 : ∀ i : Nat, i < 22 → i ≠ b0 → ∀ x ∈ B1 i, m0.2 ≤ x.2 ∧ x.2 < 2 ^ 20 ∧ rhBk x.2 m0.2 = i) (hI2 : (rhFl B1 22).Perm (((B b0).eraseIdx q0).map (·.2) ++ rhFl B 22)) (hI3 : ((nm = none ∧ nb = -1 ∧ np = -1 ∧ ∀ i : Nat, i < b0 → B1 i = []) ∨ ∃ (m1 : Nat × Nat) (b1 q1 : Nat), nm = some m1 ∧ nb = nI b1 ∧ np = nI q1 ∧ b1 < b0 ∧ (B1 b1)[q1]? = some m1 ∧ ∀ i : Nat, i < b0 → ∀ x ∈ B1 i, m1.2 ≤ x.2)) (hsub : ∀ a ∈ L, a ∈ L1) (hfr0 : ∀ a ∈ L, ¬ rhFT Z h ba la ea a → f1 a = f a) (hea : ∀ i : Nat, i < 22 → ea1 i = ea i ∨ ea1 i ∉ L) (hH : rhHp D Z L1 f1 s H locs) (ls : Array Slot) (hl : lv_has ls 8 [(0, .ref h), (1, va_rf (nm.map (·.1))), (2, .int nb), (3, .int np)]) : W p l e ({ frames := 7, cells := 70, slots := 6200, locals := 210 } : Room) s m args below meth c H locs n1 n2 (MQ below (rhQr D Z (fun r L' f' => ∃ (k : Nat) (ea' : Nat → Nat), rhLg Z L' f' r k ∧ k ∈ ks ∧ (∀ j ∈ ks, k ≤ j) ∧ k < 2 ^ 20 ∧ rhHeap D Z L' f' h ba la ea' (ks.erase k) k ∧ (∀ b ∈ L, b ∈ L') ∧ (∀ b ∈ L, ¬ rhFT Z h ba la ea b → f' b = f b) ∧ (∀ i : Nat, i < 22 → ea' i = ea i ∨ ea' i ∉ L))) args s 70 6200 (rhA Z)) (F0 m 211 ls []) := by
  have hZ1 := rh_Z1 hC hH
  have hZ : Z 1 ∉ L := fun z => hZ1 (hsub _ z)
  have hn0 : 0 < ks.length := List.length_pos_of_mem hm0k
  obtain ⟨hbaL, G, hbaf, hG⟩ := hBk.1
  obtain ⟨hlaL, hlaf, hlae⟩ := hBk.2.1 b0 hb0
  have hne : B1 b0 ≠ [] := fun z => by rw [← hB, z] at hq; cases hq
  obtain ⟨heL, cap, F, hef, hc1, hc10, hc96, hF⟩ := hlae.own hne
  have hpz := rhPure.delS hks hb0 hB hq hm20 hI1 hI2
  refine lv_aload_n hx hb dX1_deleteMin_211 rfl (lv_at hl 0 rfl) ?_
  refine rh_get (ci := 1) (C := RX2) (T := TX2) (N := 8) hx hb hts in_X2 hown hC hH hhL hhf rfl 0 (by decide) (hts _ q186) (fun _ h9 => h9) rfl dX1_deleteMin_212 ?_
  refine lv_aload_n hx hb dX1_deleteMin_215 rfl (lv_at hl 0 rfl) ?_
  refine rh_get (ci := 1) (C := RX2) (T := TX2) (N := 8) hx hb hts in_X2 hown hC hH hhL hhf rfl 4 (by decide) (hts _ q196) (fun _ h9 => h9) rfl dX1_deleteMin_216 ?_
  refine rh_aald (t0 := 1) hx hb hC hH hbaL hbaf rfl (vp_in_nI hb0 (by decide)) dX1_deleteMin_219 ?_
  rw [nI_clamp (show b0 < 2 ^ 31 by omega), rf_some (hG b0 hb0)]
  refine rh_kFv hC hH (va_runF (As := []) (rest := []) (hC.at (c := 4) rfl) ⟨hx, hb, hml, hown, hts⟩ (met_clear l D Z L1 f1 (la b0) (ea1 b0) (md1 b0) (B1 b0) hlaL hlaf cap F hlae.1 heL hef hc1 hc10 hc96 hF) (va_cwF (C := "java/util/ArrayList") 0 hts (lw_F q498 q501 q503 q20 q505) rfl rfl rfl (hC.fClear) (by decide +kernel) ⟨Nat.le_of_ble_eq_true rfl, Nat.le_of_ble_eq_true rfl⟩) (rh_preV hC hH [] (rh_recv hC hH hlaL hlaf (q := (RJ8, TJ8, 3)) rfl)) rfl rfl hl.1 rfl (lv_room (Nat.le_of_ble_eq_true rfl)) dX1_deleteMin_220 ⟨show n1 + 0 ≤ 70 by omega, show n2 + 0 ≤ 6200 by omega⟩) (fun L111 f111 H locs hp111 hH => ?_)
  obtain ⟨rfl, g1, g2, g5⟩ := hp111
  have hB1 : rhBks D Z L1 f111 ba la (va_up ea1 b0 (ea1 b0)) (va_up md1 b0 (md1 b0 + 1)) (va_up B1 b0 []) := hBk.upd (fun _ h9 => h9) hZ1 hC.dne hb0 g1 g2 (Or.inl rfl) g5
  rw [va_up_id] at hB1
  have hhne : h ≠ la b0 ∧ h ≠ ea1 b0 := ⟨rh_ne hhf hlaf (by nofun), rh_ne hhf hef (by nofun)⟩
  have hlgR : ∀ a ∈ L1, ∀ k : Nat, f1 a = eLong k → f111 a = f1 a := fun a ha9 k9 e9 => g5 a ha9 (rh_ne e9 hlaf (by nofun)) (rh_ne e9 hef (by nofun))
  have hhfR : f111 h = .inr (1, [.ref ba, .long (lN ks.length), .ref m0.1, .ref m0.1, .int (nI b0), .int (nI q0), .ref mn, .ref mx]) := (g5 h hhL hhne.1 hhne.2).trans hhf
  have hfrR : ∀ a ∈ L, ¬ rhFT Z h ba la ea a → f111 a = f a := ft_step (D := D) hfr0 hea hZ hb0 hsub g5
  rcases hI3 with ⟨rfl, rfl, rfl, hlow⟩ | ⟨m1, b1, q1, rfl, rfl, rfl, hb1, hq1, hall⟩
  · have hl : lv_has ls 8 [(0, .ref h), (1, .null), (2, .int (-1)), (3, .int (-1))] := hl
    refine lv_aload_n hx hb dX1_deleteMin_225 rfl (lv_at hl 0 rfl) ?_
    refine lv_aload_nN hx hb dX1_deleteMin_226 rfl (lv_at hl 1 rfl) ?_
    refine rh_put (ci := 1) (v := .null) (ty := .object "java/lang/Object") (C := RX2) (T := TX2) (N := 8) hx hb hts in_X2 tyX2 tyX2_ok nmX2 hown hC hH hhL hhfR rfl 3 (by decide) (hts _ q195) (fun _ h9 => h9) rfl (by decide +kernel) rfl rfl (Nat.le_of_ble_eq_true rfl) dX1_deleteMin_227 (fun f112 H locs hu112 hfr112 hH => ?_)
    have hx113 : f112 h = .inr (1, [.ref ba, .long (lN ks.length), .ref m0.1, .null, .int (nI b0), .int (nI q0), .ref mn, .ref mx]) := hu112
    refine lv_aload_n hx hb dX1_deleteMin_230 rfl (lv_at hl 0 rfl) ?_
    refine lv_iload_n hx hb dX1_deleteMin_231 rfl (lv_at hl 2 rfl) ?_
    refine rh_put (ci := 1) (v := .int (-1)) (ty := .int) (C := RX2) (T := TX2) (N := 8) hx hb hts in_X2 tyX2 tyX2_ok nmX2 hown hC hH hhL hx113 rfl 4 (by decide) (hts _ q196) (fun _ h9 => h9) rfl (by decide +kernel) rfl rfl (Nat.le_of_ble_eq_true rfl) dX1_deleteMin_232 (fun f114 H locs hu114 hfr114 hH => ?_)
    have hx115 : f114 h = .inr (1, [.ref ba, .long (lN ks.length), .ref m0.1, .null, .int (-1), .int (nI q0), .ref mn, .ref mx]) := hu114
    refine lv_aload_n hx hb dX1_deleteMin_235 rfl (lv_at hl 0 rfl) ?_
    refine lv_iload_n hx hb dX1_deleteMin_236 rfl (lv_at hl 3 rfl) ?_
    refine rh_put (ci := 1) (v := .int (-1)) (ty := .int) (C := RX2) (T := TX2) (N := 8) hx hb hts in_X2 tyX2 tyX2_ok nmX2 hown hC hH hhL hx115 rfl 5 (by decide) (hts _ q197) (fun _ h9 => h9) rfl (by decide +kernel) rfl rfl (Nat.le_of_ble_eq_true rfl) dX1_deleteMin_237 (fun f116 H locs hu116 hfr116 hH => ?_)
    have hx117 : f116 h = .inr (1, [.ref ba, .long (lN ks.length), .ref m0.1, .null, .int (-1), .int (-1), .ref mn, .ref mx]) := hu116
    refine lv_aload_n hx hb dX1_deleteMin_240 rfl (lv_at hl 0 rfl) ?_
    refine lv_dup hx hb dX1_deleteMin_241 rfl ?_
    refine rh_get (ci := 1) (C := RX2) (T := TX2) (N := 8) hx hb hts in_X2 hown hC hH hhL hx117 rfl 1 (by decide) (hts _ q189) (fun _ h9 => h9) rfl dX1_deleteMin_242 ?_
    refine lv_lconst (v := 1) hx hb dX1_deleteMin_245 (by decide) ?_
    refine lv_lsub hx hb dX1_deleteMin_246 ?_
    rw [lN_pred hn0]
    refine lv_dup2_x1_2 hx hb dX1_deleteMin_247 rfl rfl ?_
    refine rh_put (ci := 1) (v := .long (lN (ks.length - 1))) (ty := .long) (C := RX2) (T := TX2) (N := 8) hx hb hts in_X2 tyX2 tyX2_ok nmX2 hown hC hH hhL hx117 rfl 1 (by decide) (hts _ q189) (fun _ h9 => h9) rfl (by decide +kernel) rfl rfl (Nat.le_of_ble_eq_true rfl) dX1_deleteMin_248 (fun f118 H locs hu118 hfr118 hH => ?_)
    have hx119 : f118 h = .inr (1, [.ref ba, .long (lN (ks.length - 1)), .ref m0.1, .null, .int (-1), .int (-1), .ref mn, .ref mx]) := hu118
    refine lv_lconst (v := 0) hx hb dX1_deleteMin_251 (by decide) ?_
    refine W.lcmp hx hb dX1_deleteMin_252 ?_
    have hgK : ∀ a ∈ L1, a ≠ h → f118 a = f111 a := fun a _ h9 => ((((hfr118 a h9)).trans (hfr116 a h9)).trans (hfr114 a h9)).trans (hfr112 a h9)
    have hB2 := hB1.frO (fun _ h9 => h9) hhfR (by decide) (by decide) hgK
    have hlg2 : ∀ a ∈ L1, ∀ k : Nat, f1 a = eLong k → f118 a = f1 a := fun a ha9 k9 e9 => (hgK a ha9 (rh_ne e9 hhf (by nofun))).trans (hlgR a ha9 k9 e9)
    have hm3 := hm2.fr (fun _ h9 => h9) (fun a ha9 => hlg2 a ha9 _)
    have hmx3 := hmx.fr (fun _ h9 => h9) (fun a ha9 => hlg2 a ha9 _)
    have hfr3z : ∀ a ∈ L, ¬ rhFT Z h ba la ea a → f118 a = f a := fun a ha9 n9 => (hgK a (hsub a ha9) (fun z => n9 (Or.inl z))).trans (hfrR a ha9 n9)
    refine lv_if_le (tgt := 266) hx hb dX1_deleteMin_253 (by decide) (fun c_1 => ?_) (fun c_1 => ?_)
    · have hk0 : ks.length - 1 = 0 := by
        have := (pk_lLE (b := 0) (by omega) (by decide)).mp ((lg_cmp_le _ _).mp c_1)
        omega
      refine lv_aload_n hx hb dX1_deleteMin_266 rfl (lv_at hl 0 rfl) ?_
      refine rh_get (ci := 1) (C := RX2) (T := TX2) (N := 8) hx hb hts in_X2 hown hC hH hhL hx119 rfl 2 (by decide) (hts _ q192) (fun _ h9 => h9) rfl dX1_deleteMin_267 ?_
      exact rh_aret (v := m0.1) hx hb hr (Or.inl ⟨_, rfl⟩) hlocks hC hH (show n1 + 0 ≤ 70 by omega) (show n2 + 0 ≤ 6200 by omega) (⟨m0.2, ea1, hm3, hm0k, hmin, hm20, ⟨(va_up md1 b0 (md1 b0 + 1)), (va_up B1 b0 []), m0.1, mn, mx, none, (-1), (-1), ⟨hhL, by rw [er_len hm0k]; exact hx119⟩, hB2, ⟨hm3, hmx3⟩, hpz, Or.inl ⟨List.length_eq_zero_iff.mp (by rw [er_len hm0k]; exact hk0), rfl⟩⟩, hsub, hfr3z, hea⟩) dX1_deleteMin_270
    · have hk0 : ¬ (ks.erase m0.2).length = 0 := by
        rw [er_len hm0k]
        intro z
        exact c_1 ((lg_cmp_le _ _).mpr ((pk_lLE (b := 0) (by omega) (by decide)).mpr (by omega)))
      have hkl := er_len hm0k
      refine lv_aload_n hx hb dX1_deleteMin_256 rfl (lv_at hl 0 rfl) ?_
      refine lv_aload_n hx hb dX1_deleteMin_257 rfl (lv_at hl 0 rfl) ?_
      refine rh_get (ci := 1) (C := RX2) (T := TX2) (N := 8) hx hb hts in_X2 hown hC hH hhL hx119 rfl 4 (by decide) (hts _ q196) (fun _ h9 => h9) rfl dX1_deleteMin_258 ?_
      refine lv_iconst (v := 1) hx hb dX1_deleteMin_261 (by decide) ?_
      refine lv_iadd hx hb dX1_deleteMin_262 ?_
      refine lv_topi (fun y ey => ?_)
      obtain rfl : y = nI 0 := ey.trans (by decide)
      have hhz : f118 h = eHeap ba (lN (ks.length - 1)) m0.1 none (-1) (-1) mn mx := hx119
      have hex := rhFl_ex (B := (va_up B1 b0 [])) (n := 22) (fun z => hk0 (by rw [hpz.2.2.length_eq, z]; rfl))
      refine rh_kv hC hH (va_runU (As := [.int (nI 0)]) (rest := []) ⟨hx, hb, hml, hown, hts⟩ (met_fcNone l D Z L1 f118 h ba la ea1 (va_up md1 b0 (md1 b0 + 1)) (va_up B1 b0 []) _ m0.1 mn mx (-1) (-1) hhL hhz hB2 0 (Nat.zero_le _) (fun i hi => absurd hi (Nat.not_lt_zero i)) hex (fun i hi => by have := rhPure.len hpz hi; omega) (fun i hi x hx9 => (hpz.2.1 i hi x hx9).2.1)) (rh_cwP hC hts rfl rfl ⟨Nat.le_of_ble_eq_true rfl, Nat.le_of_ble_eq_true rfl⟩) (rh_preV hC hH [.int (nI 0)] (rh_recv hC hH hhL hhz (q := (RX2, TX2, 8)) rfl)) rfl rfl hl.1 rfl (lv_room (Nat.le_of_ble_eq_true rfl)) dX1_deleteMin_263 ⟨show n1 + 0 + 1 ≤ 70 by omega, show n2 + 0 + 4 ≤ 6200 by omega⟩) (fun L120 f120 H locs hp120 hH => ?_)
      obtain ⟨m1, b1, q1, g1, g2, g3, g4, g5, g6, g7⟩ := hp120
      have hhg : f120 h = .inr (1, [.ref ba, .long (lN (ks.length - 1)), .ref m0.1, .ref m1.1, .int (nI b1), .int (nI q1), .ref mn, .ref mx]) := g1
      have hlg4 : ∀ a ∈ L1, ∀ k : Nat, f118 a = eLong k → f120 a = f118 a := fun a ha9 k9 e9 => g7 a ha9 (rh_ne e9 hhz (by nofun))
      refine lv_aload_n hx hb dX1_deleteMin_266 rfl (lv_at hl 0 rfl) ?_
      refine rh_get (ci := 1) (C := RX2) (T := TX2) (N := 8) hx hb hts in_X2 hown hC hH (g6 _ hhL) hhg rfl 2 (by decide) (hts _ q192) (fun _ h9 => h9) rfl dX1_deleteMin_267 ?_
      exact rh_aret (v := m0.1) hx hb hr (Or.inl ⟨_, rfl⟩) hlocks hC hH (show n1 + 0 + 1 ≤ 70 by omega) (show n2 + 0 + 4 ≤ 6200 by omega) (⟨m0.2, ea1, (hm3.fr g6 (fun a ha9 => hlg4 a ha9 _)), hm0k, hmin, hm20, ⟨(va_up md1 b0 (md1 b0 + 1)), (va_up B1 b0 []), m0.1, mn, mx, (some m1), (nI b1), (nI q1), ⟨(g6 _ hhL), by rw [er_len hm0k]; exact hhg⟩, (hB2.frO g6 hhz (by decide) (by decide) g7), ⟨(hm3.fr g6 (fun a ha9 => hlg4 a ha9 _)), (hmx3.fr g6 (fun a ha9 => hlg4 a ha9 _))⟩, hpz, rhMin.scan hpz g2 g3 g4 g5⟩, fun a ha9 => g6 a (hsub a ha9), fun a ha9 n9 => (g7 a (hsub a ha9) (fun z => n9 (Or.inl z))).trans (hfr3z a ha9 n9), hea⟩) dX1_deleteMin_270
  · have hmem1 : m1.2 ∈ ks.erase m0.2 := (hpz.2.2.mem_iff).mpr (rhFl_mem.mpr ⟨b1, by omega, m1, by rw [va_up_ne _ _ (show b1 ≠ b0 by omega)]; exact List.mem_of_getElem? hq1, rfl⟩)
    have hminz : rhMin (va_up B1 b0 []) (ks.erase m0.2) (some m1) (nI b1) (nI q1) := by
      refine Or.inr ⟨m1, b1, q1, rfl, rfl, rfl, by omega, by rw [va_up_ne _ _ (show b1 ≠ b0 by omega)]; exact hq1, fun k hk => ?_⟩
      obtain ⟨i, hi, x, hx9, rfl⟩ := rhFl_mem.mp ((hpz.2.2.mem_iff).mp hk)
      have h1 := hpz.2.1 i hi x hx9
      have h2 := hI1 b1 (by omega) (by omega) m1 (List.mem_of_getElem? hq1)
      rcases Nat.lt_trichotomy i b0 with z | z | z
      · rw [va_up_ne _ _ (show i ≠ b0 by omega)] at hx9; exact hall i z x hx9
      · subst z; rw [va_up_self] at hx9; exact absurd hx9 List.not_mem_nil
      · exact Nat.le_of_lt (rb_lt (l := m0.2) h1.1 (by rw [h1.2.2, h2.2.2]; omega))
    have hl : lv_has ls 8 [(0, .ref h), (1, .ref m1.1), (2, .int (nI b1)), (3, .int (nI q1))] := hl
    refine lv_aload_n hx hb dX1_deleteMin_225 rfl (lv_at hl 0 rfl) ?_
    refine lv_aload_n hx hb dX1_deleteMin_226 rfl (lv_at hl 1 rfl) ?_
    refine rh_put (ci := 1) (v := .ref m1.1) (ty := .object "java/lang/Object") (C := RX2) (T := TX2) (N := 8) hx hb hts in_X2 tyX2 tyX2_ok nmX2 hown hC hH hhL hhfR rfl 3 (by decide) (hts _ q195) (fun _ h9 => h9) rfl (by decide +kernel) rfl rfl (Nat.le_of_ble_eq_true rfl) dX1_deleteMin_227 (fun f121 H locs hu121 hfr121 hH => ?_)
    have hx122 : f121 h = .inr (1, [.ref ba, .long (lN ks.length), .ref m0.1, .ref m1.1, .int (nI b0), .int (nI q0), .ref mn, .ref mx]) := hu121
    refine lv_aload_n hx hb dX1_deleteMin_230 rfl (lv_at hl 0 rfl) ?_
    refine lv_iload_n hx hb dX1_deleteMin_231 rfl (lv_at hl 2 rfl) ?_
    refine rh_put (ci := 1) (v := .int (nI b1)) (ty := .int) (C := RX2) (T := TX2) (N := 8) hx hb hts in_X2 tyX2 tyX2_ok nmX2 hown hC hH hhL hx122 rfl 4 (by decide) (hts _ q196) (fun _ h9 => h9) rfl (by decide +kernel) rfl rfl (Nat.le_of_ble_eq_true rfl) dX1_deleteMin_232 (fun f123 H locs hu123 hfr123 hH => ?_)
    have hx124 : f123 h = .inr (1, [.ref ba, .long (lN ks.length), .ref m0.1, .ref m1.1, .int (nI b1), .int (nI q0), .ref mn, .ref mx]) := hu123
    refine lv_aload_n hx hb dX1_deleteMin_235 rfl (lv_at hl 0 rfl) ?_
    refine lv_iload_n hx hb dX1_deleteMin_236 rfl (lv_at hl 3 rfl) ?_
    refine rh_put (ci := 1) (v := .int (nI q1)) (ty := .int) (C := RX2) (T := TX2) (N := 8) hx hb hts in_X2 tyX2 tyX2_ok nmX2 hown hC hH hhL hx124 rfl 5 (by decide) (hts _ q197) (fun _ h9 => h9) rfl (by decide +kernel) rfl rfl (Nat.le_of_ble_eq_true rfl) dX1_deleteMin_237 (fun f125 H locs hu125 hfr125 hH => ?_)
    have hx126 : f125 h = .inr (1, [.ref ba, .long (lN ks.length), .ref m0.1, .ref m1.1, .int (nI b1), .int (nI q1), .ref mn, .ref mx]) := hu125
    refine lv_aload_n hx hb dX1_deleteMin_240 rfl (lv_at hl 0 rfl) ?_
    refine lv_dup hx hb dX1_deleteMin_241 rfl ?_
    refine rh_get (ci := 1) (C := RX2) (T := TX2) (N := 8) hx hb hts in_X2 hown hC hH hhL hx126 rfl 1 (by decide) (hts _ q189) (fun _ h9 => h9) rfl dX1_deleteMin_242 ?_
    refine lv_lconst (v := 1) hx hb dX1_deleteMin_245 (by decide) ?_
    refine lv_lsub hx hb dX1_deleteMin_246 ?_
    rw [lN_pred hn0]
    refine lv_dup2_x1_2 hx hb dX1_deleteMin_247 rfl rfl ?_
    refine rh_put (ci := 1) (v := .long (lN (ks.length - 1))) (ty := .long) (C := RX2) (T := TX2) (N := 8) hx hb hts in_X2 tyX2 tyX2_ok nmX2 hown hC hH hhL hx126 rfl 1 (by decide) (hts _ q189) (fun _ h9 => h9) rfl (by decide +kernel) rfl rfl (Nat.le_of_ble_eq_true rfl) dX1_deleteMin_248 (fun f127 H locs hu127 hfr127 hH => ?_)
    have hx128 : f127 h = .inr (1, [.ref ba, .long (lN (ks.length - 1)), .ref m0.1, .ref m1.1, .int (nI b1), .int (nI q1), .ref mn, .ref mx]) := hu127
    refine lv_lconst (v := 0) hx hb dX1_deleteMin_251 (by decide) ?_
    refine W.lcmp hx hb dX1_deleteMin_252 ?_
    have hgK : ∀ a ∈ L1, a ≠ h → f127 a = f111 a := fun a _ h9 => ((((hfr127 a h9)).trans (hfr125 a h9)).trans (hfr123 a h9)).trans (hfr121 a h9)
    have hB2 := hB1.frO (fun _ h9 => h9) hhfR (by decide) (by decide) hgK
    have hlg2 : ∀ a ∈ L1, ∀ k : Nat, f1 a = eLong k → f127 a = f1 a := fun a ha9 k9 e9 => (hgK a ha9 (rh_ne e9 hhf (by nofun))).trans (hlgR a ha9 k9 e9)
    have hm3 := hm2.fr (fun _ h9 => h9) (fun a ha9 => hlg2 a ha9 _)
    have hmx3 := hmx.fr (fun _ h9 => h9) (fun a ha9 => hlg2 a ha9 _)
    have hfr3z : ∀ a ∈ L, ¬ rhFT Z h ba la ea a → f127 a = f a := fun a ha9 n9 => (hgK a (hsub a ha9) (fun z => n9 (Or.inl z))).trans (hfrR a ha9 n9)
    refine lv_if_le (tgt := 266) hx hb dX1_deleteMin_253 (by decide) (fun c_1 => ?_) (fun c_1 => ?_)
    · have hk0 : ks.length - 1 = 0 := by
        have := (pk_lLE (b := 0) (by omega) (by decide)).mp ((lg_cmp_le _ _).mp c_1)
        omega
      have hlz := List.length_pos_of_mem hmem1
      rw [er_len hm0k] at hlz
      exact absurd hk0 (by omega)
    · refine lv_aload_n hx hb dX1_deleteMin_256 rfl (lv_at hl 0 rfl) ?_
      refine lv_aload_n hx hb dX1_deleteMin_257 rfl (lv_at hl 0 rfl) ?_
      refine rh_get (ci := 1) (C := RX2) (T := TX2) (N := 8) hx hb hts in_X2 hown hC hH hhL hx128 rfl 4 (by decide) (hts _ q196) (fun _ h9 => h9) rfl dX1_deleteMin_258 ?_
      refine lv_iconst (v := 1) hx hb dX1_deleteMin_261 (by decide) ?_
      refine lv_iadd hx hb dX1_deleteMin_262 ?_
      refine rh_kv hC hH (va_runU (As := [.int (nI b1 + 1)]) (rest := []) ⟨hx, hb, hml, hown, hts⟩ (met_fcSome l D Z L1 f127 h _ _ _ _ _ _ _ m1.1 (nI b1 + 1) hhL hx128) (rh_cwP hC hts rfl rfl ⟨Nat.le_of_ble_eq_true rfl, Nat.le_of_ble_eq_true rfl⟩) (rh_preV hC hH [.int (nI b1 + 1)] (rh_recv hC hH hhL hx128 (q := (RX2, TX2, 8)) rfl)) rfl rfl hl.1 rfl (lv_room (Nat.le_of_ble_eq_true rfl)) dX1_deleteMin_263 ⟨show n1 + 0 + 1 ≤ 70 by omega, show n2 + 0 + 4 ≤ 6200 by omega⟩) (fun L129 f129 H locs hp129 hH => ?_)
      obtain ⟨rfl, rfl⟩ := hp129
      refine lv_aload_n hx hb dX1_deleteMin_266 rfl (lv_at hl 0 rfl) ?_
      refine rh_get (ci := 1) (C := RX2) (T := TX2) (N := 8) hx hb hts in_X2 hown hC hH hhL hx128 rfl 2 (by decide) (hts _ q192) (fun _ h9 => h9) rfl dX1_deleteMin_267 ?_
      exact rh_aret (v := m0.1) hx hb hr (Or.inl ⟨_, rfl⟩) hlocks hC hH (show n1 + 0 + 1 ≤ 70 by omega) (show n2 + 0 + 4 ≤ 6200 by omega) (⟨m0.2, ea1, hm3, hm0k, hmin, hm20, ⟨(va_up md1 b0 (md1 b0 + 1)), (va_up B1 b0 []), m0.1, mn, mx, (some m1), (nI b1), (nI q1), ⟨hhL, by rw [er_len hm0k]; exact hx128⟩, hB2, ⟨hm3, hmx3⟩, hpz, hminz⟩, hsub, hfr3z, hea⟩) dX1_deleteMin_270
end
section
/-! AbstractRadixHeap.deleteMin: the loop (printed by tools/p16.py) -/
theorem dmI1 {B1 : Nat → List (Nat × Nat)} {b0 b1 lv : Nat} {x : Nat × Nat} (hI1 : ∀ i : Nat, i < 22 → i ≠ b0 → ∀ y ∈ B1 i, lv ≤ y.2 ∧ y.2 < 2 ^ 20 ∧ rhBk y.2 lv = i) (hx : lv ≤ x.2 ∧ x.2 < 2 ^ 20 ∧ rhBk x.2 lv = b1) : ∀ i : Nat, i < 22 → i ≠ b0 → ∀ y ∈ va_up B1 b1 (B1 b1 ++ [x]) i, lv ≤ y.2 ∧ y.2 < 2 ^ 20 ∧ rhBk y.2 lv = i := by
  intro i hi hib y hy
  by_cases h : i = b1
  · subst h
    rw [va_up_self] at hy
    rcases List.mem_append.mp hy with hy | hy
    · exact hI1 i hi hib y hy
    · rw [List.mem_singleton.mp hy]; exact hx
  · rw [va_up_ne _ _ h] at hy
    exact hI1 i hi hib y hy
theorem dmI2 {B B1 : Nat → List (Nat × Nat)} {l : List (Nat × Nat)} {b1 j q : Nat} {x : Nat × Nat} (hI2 : (rhFl B1 22).Perm (((l.take j).eraseIdx q).map (·.2) ++ rhFl B 22)) (hb : b1 < 22) (hx : l[j]? = some x) (hj : j ≠ q) : (rhFl (va_up B1 b1 (B1 b1 ++ [x])) 22).Perm (((l.take (j + 1)).eraseIdx q).map (·.2) ++ rhFl B 22) := by
  rw [oth_step hx hj, List.map_append, List.map_cons, List.map_nil, List.append_assoc]
  have h1 := rhFl_add (B := B1) hb x
  generalize rhFl (va_up B1 b1 (B1 b1 ++ [x])) 22 = w1 at h1 ⊢
  generalize rhFl B1 22 = w2 at h1 hI2
  generalize rhFl B 22 = w at hI2 ⊢
  generalize ((l.take j).eraseIdx q).map (·.2) = u at hI2 ⊢
  refine h1.trans ((hI2.cons x.2).trans ?_)
  rw [List.cons_append, List.nil_append]
  exact List.perm_middle.symm
theorem dmI5 {B1 : Nat → List (Nat × Nat)} {b0 b1 j : Nat} {x : Nat × Nat} (hI5 : ∀ i : Nat, i < b0 → (B1 i).length ≤ j) : ∀ i : Nat, i < b0 → (va_up B1 b1 (B1 b1 ++ [x]) i).length ≤ j + 1 := by
  intro i hi
  by_cases h : i = b1
  · subst h
    rw [va_up_self, List.length_append]
    have := hI5 i hi
    show _ + 1 ≤ j + 1
    omega
  · rw [va_up_ne _ _ h]
    have := hI5 i hi
    omega
theorem dmI3n {B1 : Nat → List (Nat × Nat)} {b0 b1 : Nat} {x : Nat × Nat} (hb : b1 < b0) (hall : ∀ i : Nat, i < b0 → ∀ y ∈ B1 i, x.2 ≤ y.2) : (some x = none ∧ nI b1 = -1 ∧ nI (B1 b1).length = -1 ∧ ∀ i : Nat, i < b0 → va_up B1 b1 (B1 b1 ++ [x]) i = []) ∨ ∃ (m1 : Nat × Nat) (b2 q1 : Nat), some x = some m1 ∧ nI b1 = nI b2 ∧ nI (B1 b1).length = nI q1 ∧ b2 < b0 ∧ (va_up B1 b1 (B1 b1 ++ [x]) b2)[q1]? = some m1 ∧ ∀ i : Nat, i < b0 → ∀ y ∈ va_up B1 b1 (B1 b1 ++ [x]) i, m1.2 ≤ y.2 := by
  refine Or.inr ⟨x, b1, (B1 b1).length, rfl, rfl, rfl, hb, ?_, fun i hi y hy => ?_⟩
  · rw [va_up_self, List.getElem?_append_right (Nat.le_refl _), Nat.sub_self]; rfl
  · by_cases h : i = b1
    · subst h
      rw [va_up_self] at hy
      rcases List.mem_append.mp hy with hy | hy
      · exact hall i hi y hy
      · rw [List.mem_singleton.mp hy]; exact Nat.le_refl _
    · rw [va_up_ne _ _ h] at hy
      exact hall i hi y hy
theorem dmI3k {B1 : Nat → List (Nat × Nat)} {b0 b1 b2 q1 : Nat} {x m1 : Nat × Nat} (hb2 : b2 < b0) (hq : (B1 b2)[q1]? = some m1) (hall : ∀ i : Nat, i < b0 → ∀ y ∈ B1 i, m1.2 ≤ y.2) (hx : m1.2 ≤ x.2) : (some m1 = none ∧ nI b2 = -1 ∧ nI q1 = -1 ∧ ∀ i : Nat, i < b0 → va_up B1 b1 (B1 b1 ++ [x]) i = []) ∨ ∃ (m2 : Nat × Nat) (b3 q2 : Nat), some m1 = some m2 ∧ nI b2 = nI b3 ∧ nI q1 = nI q2 ∧ b3 < b0 ∧ (va_up B1 b1 (B1 b1 ++ [x]) b3)[q2]? = some m2 ∧ ∀ i : Nat, i < b0 → ∀ y ∈ va_up B1 b1 (B1 b1 ++ [x]) i, m2.2 ≤ y.2 := by
  refine Or.inr ⟨m1, b2, q1, rfl, rfl, rfl, hb2, ?_, fun i hi y hy => ?_⟩
  · by_cases h : b2 = b1
    · subst h
      rw [va_up_self, List.getElem?_append_left (List.getElem?_eq_some_iff.mp hq).1]; exact hq
    · rw [va_up_ne _ _ h]; exact hq
  · by_cases h : i = b1
    · subst h
      rw [va_up_self] at hy
      rcases List.mem_append.mp hy with hy | hy
      · exact hall i hi y hy
      · rw [List.mem_singleton.mp hy]; exact hx
    · rw [va_up_ne _ _ h] at hy
      exact hall i hi y hy
set_option maxHeartbeats 4000000 in
set_option maxRecDepth 100000 in
theorem dm_loop {p : Program} {l : Launch} {e : Env} {s : State} {m : MethodId} {args : Array Value} {below : List Frame} {meth : Method} {c : Code} {D : va_G} {Z : Nat → Nat} {L : List Nat} {f : Nat → va_E} {h ba : Nat} {la ea : Nat → Nat} {ks : List Nat} {mn mx : Nat} {B : Nat → List (Nat × Nat)} {b0 q0 it lv : Nat} {mdb : Int32} (hx : p.tables.exec = Jvm.exec) (hb : c.code = cX1_deleteMin) (hr : meth.sig.returnType = some (.object "java/lang/Object")) (hlocks : meth.locks = false) (hml : c.maxLocals = 8) (hown : s.vm.findClass RX1 = some m.cls) (hts : ∀ w ∈ lw_all, w.before args s = true) (hC : rhCx D Z s) (m0 : Nat × Nat) (hm0k : m0.2 ∈ ks) (hmin : ∀ j ∈ ks, m0.2 ≤ j) (hm20 : m0.2 < 2 ^ 20) (hn : ks.length ≤ 64) (hb0 : b0 < 22) (hb00 : 0 < b0) (hpu : rhPure B ks lv) (hq : (B b0)[q0]? = some m0) (hl64 : (B b0).length ≤ 64) (hq64 : q0 < 64) (hitL : it ∉ L) :
    ∀ (d j : Nat), j ≤ (B b0).length → (B b0).length + 1 ≤ j + d → ∀ (L1 : List Nat) (f1 : Nat → va_E) (B1 : Nat → List (Nat × Nat)) (md1 : Nat → Int32) (ea1 : Nat → Nat) (nm : Option (Nat × Nat)) (nb np lr : Int32) (H : Heap) (locs : List Loc), h ∈ L1 → f1 h = .inr (1, [.ref ba, .long (lN ks.length), .ref m0.1, .ref m0.1, .int (nI b0), .int (nI q0), .ref mn, .ref mx]) → it ∈ L1 → f1 it = eItr (nI j) lr mdb (la b0) → md1 b0 = mdb → rhBks D Z L1 f1 ba la ea1 md1 B1 → B1 b0 = B b0 → rhLg Z L1 f1 m0.1 m0.2 → rhLg Z L1 f1 mx 1048575 → (∀ i : Nat, i < 22 → i ≠ b0 → ∀ x ∈ B1 i, m0.2 ≤ x.2 ∧ x.2 < 2 ^ 20 ∧ rhBk x.2 m0.2 = i) → (rhFl B1 22).Perm ((((B b0).take j).eraseIdx q0).map (·.2) ++ rhFl B 22) → (((nm = none ∧ nb = -1 ∧ np = -1 ∧ ∀ i : Nat, i < b0 → B1 i = []) ∨ ∃ (m1 : Nat × Nat) (b1 q1 : Nat), nm = some m1 ∧ nb = nI b1 ∧ np = nI q1 ∧ b1 < b0 ∧ (B1 b1)[q1]? = some m1 ∧ ∀ i : Nat, i < b0 → ∀ x ∈ B1 i, m1.2 ≤ x.2)) → (∀ i : Nat, i < b0 → (B1 i).length ≤ j) → (∀ a ∈ L, a ∈ L1) → (∀ a ∈ L, ¬ rhFT Z h ba la ea a → f1 a = f a) → (∀ i : Nat, i < 22 → ea1 i = ea i ∨ ea1 i ∉ L) → rhHp D Z L1 f1 s H locs → ∀ (ls : Array Slot), lv_has ls 8 [(0, .ref h), (1, va_rf (nm.map (·.1))), (2, .int nb), (3, .int np), (4, .int (nI j)), (5, .ref it)] → W p l e ({ frames := 7, cells := 70, slots := 6200, locals := 210 } : Room) s m args below meth c H locs (1 + j) (4 + 96 * j) (MQ below (rhQr D Z (fun r L' f' => ∃ (k : Nat) (ea' : Nat → Nat), rhLg Z L' f' r k ∧ k ∈ ks ∧ (∀ j ∈ ks, k ≤ j) ∧ k < 2 ^ 20 ∧ rhHeap D Z L' f' h ba la ea' (ks.erase k) k ∧ (∀ b ∈ L, b ∈ L') ∧ (∀ b ∈ L, ¬ rhFT Z h ba la ea b → f' b = f b) ∧ (∀ i : Nat, i < 22 → ea' i = ea i ∨ ea' i ∉ L))) args s 70 6200 (rhA Z)) (F0 m 115 ls []) := by
  intro d
  induction d with
  | zero => intro j h1 h2; omega
  | succ d ih =>
    intro j hj hjd L1 f1 B1 md1 ea1 nm nb np lr H locs hhL hhf hit hif hmdb hBk hB hm2 hmx hI1 hI2 hI3 hI5 hsub hfr0 hea hH ls hl
    have hZ1 := rh_Z1 hC hH
    have hZ : Z 1 ∉ L := fun z => hZ1 (hsub _ z)
    obtain ⟨hlaL, hlaf, hlae⟩ := hBk.2.1 b0 hb0
    rw [hmdb] at hlaf
    rw [hB] at hlaf hlae
    refine lv_aload hx hb dX1_deleteMin_115 (lv_at hl 5 rfl) ?_
    refine rh_kFi hC hH (va_runF (As := []) (rest := []) (hC.at (c := 5) rfl) ⟨hx, hb, hml, hown, hts⟩ (met_hasNext l D Z L1 f1 it (la b0) (ea1 b0) mdb lr j (B b0) hit hif hlaL hlaf hl64 hj) (va_cwF (C := "java/util/ArrayList$Itr") 0 hts (lw_F q475 q479 q481 q31 q483) rfl rfl rfl (hC.fHasNext) (by decide +kernel) ⟨Nat.le_of_ble_eq_true rfl, Nat.le_of_ble_eq_true rfl⟩) (rh_preV hC hH [] (rh_recv hC hH hit hif (q := (RJ15, TJ15, 4)) rfl)) rfl rfl hl.1 rfl (lv_room (Nat.le_of_ble_eq_true rfl)) dX1_deleteMin_117 ⟨show 1 + j + 0 ≤ 70 by omega, show 4 + 96 * j + 0 ≤ 6200 by omega⟩) (fun r101 L101 f101 H locs hp101 hH => ?_)
    obtain ⟨rfl, rfl, rfl⟩ := hp101
    by_cases hjn : j = (B b0).length
    · rw [if_pos hjn]
      refine lv_if_eq (tgt := 211) hx hb dX1_deleteMin_122 (by decide) (fun _ => ?_) (fun c_1 => absurd rfl c_1)
      exact dm_done hx hb hr hlocks hml hown hts hC m0 hm0k hmin hm20 hn (by omega) (by omega) hhL hhf hBk hb0 hB hpu.2.2 hq hm2 hmx hI1 (by rw [hjn, List.take_length] at hI2; exact hI2) hI3 hsub hfr0 hea hH ls (lv_sub hl [0, 1, 2, 3] rfl)
    · rw [if_neg hjn]
      refine lv_if_eq (tgt := 211) hx hb dX1_deleteMin_122 (by decide) (fun c_1 => absurd c_1 (by decide)) (fun _ => ?_)
      have hlt : j < (B b0).length := by omega
      obtain ⟨x, hx0⟩ : ∃ x, (B b0)[j]? = some x := ⟨_, List.getElem?_eq_getElem hlt⟩
      have hxm : x ∈ B b0 := List.mem_of_getElem? hx0
      obtain ⟨hx1, hx2, hx3⟩ := hpu.2.1 b0 hb0 x hxm
      have hxk : m0.2 ≤ x.2 := hmin _ ((hpu.2.2.mem_iff).mpr (rhFl_mem.mpr ⟨b0, hb0, x, hxm, rfl⟩))
      obtain ⟨hmv1, -, hmv3⟩ := hpu.2.1 b0 hb0 m0 (List.mem_of_getElem? hq)
      refine lv_aload hx hb dX1_deleteMin_125 (lv_at hl 5 rfl) ?_
      refine rh_kFr hC hH (va_runF (As := []) (rest := []) (hC.at (c := 5) rfl) ⟨hx, hb, hml, hown, hts⟩ (met_next l D Z L1 f1 it (la b0) (ea1 b0) mdb lr j (B b0) hit hif hlaL hlaf hl64 x hlae hx0) (va_cwF (C := "java/util/ArrayList$Itr") 0 hts (lw_F q485 q488 q490 q31 q492) rfl rfl rfl (hC.fNext) (by decide +kernel) ⟨Nat.le_of_ble_eq_true rfl, Nat.le_of_ble_eq_true rfl⟩) (rh_preV hC hH [] (rh_recv hC hH hit hif (q := (RJ15, TJ15, 4)) rfl)) rfl rfl hl.1 rfl (lv_room (Nat.le_of_ble_eq_true rfl)) dX1_deleteMin_127 ⟨show 1 + j + 0 ≤ 70 by omega, show 4 + 96 * j + 0 ≤ 6200 by omega⟩) (fun r102 L102 f102 H locs hp102 hH => ?_)
      obtain ⟨rfl, rfl, hif2, hgN⟩ := hp102
      have hhf2 : f102 h = .inr (1, [.ref ba, .long (lN ks.length), .ref m0.1, .ref m0.1, .int (nI b0), .int (nI q0), .ref mn, .ref mx]) := (hgN h (rh_ne hhf hif (by nofun))).trans hhf
      have hBk2 : rhBks D Z L1 f102 ba la ea1 md1 B1 := hBk.frO (fun _ h9 => h9) hif (by decide) (by decide) (fun a _ h9 => hgN a h9)
      have hlgN : ∀ a ∈ L1, ∀ k : Nat, f1 a = eLong k → f102 a = f1 a := fun a ha9 k9 e9 => hgN a (rh_ne e9 hif (by nofun))
      have hm2 := hm2.fr (fun _ h9 => h9) (fun a ha9 => hlgN a ha9 _)
      have hmx := hmx.fr (fun _ h9 => h9) (fun a ha9 => hlgN a ha9 _)
      have hfr1 : ∀ a ∈ L, ¬ rhFT Z h ba la ea a → f102 a = f a := fun a ha9 n9 => (hgN a (fun z => hitL (by rw [← z]; exact ha9))).trans (hfr0 a ha9 n9)
      have hxl : rhLg Z L1 f102 x.1 x.2 := ((hBk2.2.1 b0 hb0).2.2.1 x (by rw [hB]; exact hxm))
      refine lv_astore (lv' := [(6, .ref x.1), (0, .ref h), (1, (va_rf (nm.map (·.1)))), (2, .int nb), (3, .int np), (4, .int (nI j)), (5, .ref it)]) hx hb dX1_deleteMin_132 hl (by decide) rfl (fun ls hl => ?_)
      refine lv_iload hx hb dX1_deleteMin_134 (lv_at hl 5 rfl) ?_
      refine lv_aload_n hx hb dX1_deleteMin_136 rfl (lv_at hl 1 rfl) ?_
      refine rh_get (ci := 1) (C := RX2) (T := TX2) (N := 8) hx hb hts in_X2 hown hC hH hhL hhf2 rfl 5 (by decide) (hts _ q197) (fun _ h9 => h9) rfl dX1_deleteMin_137 ?_
      refine lv_icmp_eq (tgt := 205) hx hb dX1_deleteMin_140 (by decide) (fun c_1 => ?_) (fun c_1 => ?_)
      · have hjq : j = q0 := (nI_eq (by omega) (by omega)).mp c_1
        refine lv_iinc (v := nI (j + 1)) (lv' := [(4, .int (nI (j + 1))), (6, .ref x.1), (0, .ref h), (1, (va_rf (nm.map (·.1)))), (2, .int nb), (3, .int np), (5, .ref it)]) hx hb dX1_deleteMin_205 hl (k := 5) rfl (nI_1 j) (by decide) rfl (fun ls hl => ?_)
        refine lv_goto (tgt := 115) hx hb dX1_deleteMin_208 (by decide) ?_
        refine W.widen (k := 1 + (j + 1)) (n := 4 + 96 * (j + 1)) (by omega) (by omega) ?_
        exact ih (j + 1) hlt (by omega) L1 f102 B1 md1 ea1 nm nb np (nI j) _ _ hhL hhf2 hit hif2 hmdb hBk2 hB hm2 hmx hI1 (by rw [oth_skip hjq]; exact hI2) hI3 (fun i hi => Nat.le_succ_of_le (hI5 i hi)) hsub hfr1 hea hH ls (lv_sub hl [2, 3, 4, 5, 0, 6] rfl)
      · have hjq : j ≠ q0 := fun z => c_1 (by rw [z])
        obtain ⟨hbaL, G, hbaf, hG⟩ := hBk2.1
        refine lv_aload_n hx hb dX1_deleteMin_143 rfl (lv_at hl 1 rfl) ?_
        refine lv_aload hx hb dX1_deleteMin_144 (lv_at hl 0 rfl) ?_
        refine lv_aload_n hx hb dX1_deleteMin_146 rfl (lv_at hl 1 rfl) ?_
        refine rh_get (ci := 1) (C := RX2) (T := TX2) (N := 8) hx hb hts in_X2 hown hC hH hhL hhf2 rfl 2 (by decide) (hts _ q192) (fun _ h9 => h9) rfl dX1_deleteMin_147 ?_
        refine rh_ki hC hH (va_runU (As := [.ref x.1, .ref m0.1]) (rest := []) ⟨hx, hb, hml, hown, hts⟩ (met_computeBucket l D Z L1 f102 h x.1 m0.1 x.2 m0.2 ba _ _ _ _ _ _ _ _ hhL hhf2 hbaL hbaf hx2 hm20 hxl hm2) (va_cwU (owner := "AbstractRadixHeap") (C := "LongRadixHeap") 2 hts (lw_U q266 q268 q269 q267 q9 q270) rfl rfl rfl rfl (by decide +kernel) ⟨Nat.le_of_ble_eq_true rfl, Nat.le_of_ble_eq_true rfl⟩) (rh_preV hC hH [.ref x.1, .ref m0.1] (rh_recv hC hH hhL hhf2 (q := (RX2, TX2, 8)) rfl)) rfl rfl hl.1 rfl (lv_room (Nat.le_of_ble_eq_true rfl)) dX1_deleteMin_150 ⟨show 1 + j + 0 ≤ 70 by omega, show 4 + 96 * j + 0 ≤ 6200 by omega⟩) (fun r103 L103 f103 H locs hp103 hH => ?_)
        obtain ⟨rfl, rfl, rfl⟩ := hp103
        have hb1 : rhBk x.2 m0.2 < b0 := by have := rb_down (l := lv) hmv1 hxk (by omega) (by omega); omega
        obtain ⟨b1, hbe⟩ : ∃ b, b = rhBk x.2 m0.2 := ⟨_, rfl⟩
        rw [← hbe] at hb1 ⊢
        have hb12 : b1 < 22 := by omega
        obtain ⟨hlbL, hlbf, hlbe⟩ := hBk2.2.1 b1 hb12
        refine lv_istore (lv' := [(7, .int (nI b1)), (6, .ref x.1), (0, .ref h), (1, (va_rf (nm.map (·.1)))), (2, .int nb), (3, .int np), (4, .int (nI j)), (5, .ref it)]) hx hb dX1_deleteMin_153 hl (by decide) rfl (fun ls hl => ?_)
        refine lv_aload_n hx hb dX1_deleteMin_155 rfl (lv_at hl 2 rfl) ?_
        refine rh_get (ci := 1) (C := RX2) (T := TX2) (N := 8) hx hb hts in_X2 hown hC hH hhL hhf2 rfl 0 (by decide) (hts _ q186) (fun _ h9 => h9) rfl dX1_deleteMin_156 ?_
        refine lv_iload hx hb dX1_deleteMin_159 (lv_at hl 0 rfl) ?_
        refine rh_aald (t0 := 1) hx hb hC hH hbaL hbaf rfl (vp_in_nI hb12 (by decide)) dX1_deleteMin_161 ?_
        rw [nI_clamp (show b1 < 2 ^ 31 by omega), rf_some (hG b1 hb12)]
        refine lv_aload hx hb dX1_deleteMin_162 (lv_at hl 1 rfl) ?_
        have hlb64 : (B1 b1).length < 64 := by have := hI5 b1 hb1; omega
        refine rh_kFi hC hH (va_runF (As := [.ref x.1]) (rest := []) (hC.at (c := 4) rfl) ⟨hx, hb, hml, hown, hts⟩ (met_add l D Z L1 f102 (la b1) (ea1 b1) (md1 b1) (B1 b1) hlbL hlbf x.1 x.2 hlbe hlb64 hxl) (va_cwF (C := "java/util/ArrayList") 1 hts (lw_F q293 q297 q299 q20 q301) rfl rfl rfl (hC.fAdd) (by decide +kernel) ⟨Nat.le_of_ble_eq_true rfl, Nat.le_of_ble_eq_true rfl⟩) (rh_preV hC hH [.ref x.1] (rh_recv hC hH hlbL hlbf (q := (RJ8, TJ8, 3)) rfl)) rfl rfl hl.1 rfl (lv_room (Nat.le_of_ble_eq_true rfl)) dX1_deleteMin_164 ⟨show _ ≤ 70 by omega, show _ ≤ 6200 by omega⟩) (fun r104 L104 f104 H locs hp104 hH => ?_)
        obtain ⟨rfl, eax, g1, g2, g3, g4, g5⟩ := hp104
        have hlgA : ∀ a ∈ L1, ∀ k : Nat, f102 a = eLong k → f104 a = f102 a := fun a ha9 k9 e9 => g5 a ha9 (rh_ne e9 hlbf (by nofun)) (rh_nea hlbe hZ1 ha9 e9 (by nofun))
        have hB3 : rhBks D Z L104 f104 ba la (va_up ea1 b1 eax) (va_up md1 b1 (md1 b1 + 1)) (va_up B1 b1 (B1 b1 ++ [x])) := hBk2.upd g4 hZ1 hC.dne hb12 (by rw [List.length_append]; exact g2) g3 g1 g5
        have hhf3 : f104 h = .inr (1, [.ref ba, .long (lN ks.length), .ref m0.1, .ref m0.1, .int (nI b0), .int (nI q0), .ref mn, .ref mx]) := (g5 h hhL (rh_ne hhf2 hlbf (by nofun)) (rh_nea hlbe hZ1 hhL hhf2 (by nofun))).trans hhf2
        have hif3 : f104 it = eItr (nI (j + 1)) (nI j) mdb (la b0) := (g5 it hit (rh_ne hif2 hlbf (by nofun)) (rh_nea hlbe hZ1 hit hif2 (by nofun))).trans hif2
        have hhL3 := g4 h hhL
        have hm3 := hm2.fr g4 (fun a ha9 => hlgA a ha9 _)
        have hmx3 := hmx.fr g4 (fun a ha9 => hlgA a ha9 _)
        have hxl3 := hxl.fr g4 (fun a ha9 => hlgA a ha9 _)
        have hfr3z : ∀ a ∈ L, ¬ rhFT Z h ba la ea a → f104 a = f a := ft_step (D := D) hfr1 hea hZ hb12 hsub g5
        have hea3 := ea_step hea hsub g1
        have hB3b : va_up B1 b1 (B1 b1 ++ [x]) b0 = B b0 := (va_up_ne _ _ (show b0 ≠ b1 by omega)).trans hB
        have hmd3 : va_up md1 b1 (md1 b1 + 1) b0 = mdb := (va_up_ne _ _ (show b0 ≠ b1 by omega)).trans hmdb
        refine lv_pop hx hb dX1_deleteMin_169 rfl ?_
        rcases hI3 with ⟨rfl, rfl, rfl, hlow⟩ | ⟨m1, b2, q1, rfl, rfl, rfl, hb2, hq1, hall⟩
        · have hl : lv_has ls 8 [(7, .int (nI b1)), (6, .ref x.1), (0, .ref h), (1, .null), (2, .int (-1)), (3, .int (-1)), (4, .int (nI j)), (5, .ref it)] := hl
          refine lv_aload_nN hx hb dX1_deleteMin_170 rfl (lv_at hl 3 rfl) ?_
          refine lv_ifnullN (tgt := 184) hx hb dX1_deleteMin_171 (by decide) ?_
          refine lv_aload hx hb dX1_deleteMin_184 (lv_at hl 1 rfl) ?_
          refine lv_astore_n (lv' := [(1, .ref x.1), (7, .int (nI b1)), (6, .ref x.1), (0, .ref h), (2, .int (-1)), (3, .int (-1)), (4, .int (nI j)), (5, .ref it)]) hx hb dX1_deleteMin_186 rfl hl (by decide) rfl (fun ls hl => ?_)
          refine lv_iload hx hb dX1_deleteMin_187 (lv_at hl 1 rfl) ?_
          refine lv_istore_n (lv' := [(2, .int (nI b1)), (1, .ref x.1), (7, .int (nI b1)), (6, .ref x.1), (0, .ref h), (3, .int (-1)), (4, .int (nI j)), (5, .ref it)]) hx hb dX1_deleteMin_189 rfl hl (by decide) rfl (fun ls hl => ?_)
          refine lv_aload_n hx hb dX1_deleteMin_190 rfl (lv_at hl 4 rfl) ?_
          refine rh_get (ci := 1) (C := RX2) (T := TX2) (N := 8) hx hb hts in_X2 hown hC hH hhL3 hhf3 rfl 0 (by decide) (hts _ q186) (fun _ h9 => h9) rfl dX1_deleteMin_191 ?_
          refine lv_iload hx hb dX1_deleteMin_194 (lv_at hl 2 rfl) ?_
          obtain ⟨hbaL3, G3, hbaf3, hG3⟩ := hB3.1
          have hlbf3 : f104 (la b1) = eAL (md1 b1 + 1) eax (nI (B1 b1 ++ [x]).length) := by rw [List.length_append]; exact g2
          refine rh_aald (t0 := 1) hx hb hC hH hbaL3 hbaf3 rfl (vp_in_nI hb12 (by decide)) dX1_deleteMin_196 ?_
          rw [nI_clamp (show b1 < 2 ^ 31 by omega), rf_some (hG3 b1 hb12)]
          refine rh_kFi hC hH (va_runF (As := []) (rest := []) (hC.at (c := 4) rfl) ⟨hx, hb, hml, hown, hts⟩ (met_size l D Z L104 f104 (la b1) eax (md1 b1 + 1) (B1 b1 ++ [x]) (g4 _ hlbL) hlbf3) (va_cwF (C := "java/util/ArrayList") 0 hts (lw_F q352 q355 q357 q20 q359) rfl rfl rfl (hC.fSize) (by decide +kernel) ⟨Nat.le_of_ble_eq_true rfl, Nat.le_of_ble_eq_true rfl⟩) (rh_preV hC hH [] (rh_recv hC hH (g4 _ hlbL) hlbf3 (q := (RJ8, TJ8, 3)) rfl)) rfl rfl hl.1 rfl (lv_room (Nat.le_of_ble_eq_true rfl)) dX1_deleteMin_197 ⟨show _ ≤ 70 by omega, show _ ≤ 6200 by omega⟩) (fun r105 L105 f105 H locs hp105 hH => ?_)
          obtain ⟨rfl, rfl, rfl⟩ := hp105
          refine lv_iconst (v := 1) hx hb dX1_deleteMin_202 (by decide) ?_
          refine lv_isub hx hb dX1_deleteMin_203 ?_
          refine lv_topi (fun y ey => ?_)
          obtain rfl : y = nI (B1 b1).length := ey.trans (by rw [List.length_append]; exact nI_pred _)
          refine lv_istore_n (lv' := [(3, .int (nI (B1 b1).length)), (2, .int (nI b1)), (1, .ref x.1), (7, .int (nI b1)), (6, .ref x.1), (0, .ref h), (4, .int (nI j)), (5, .ref it)]) hx hb dX1_deleteMin_204 rfl hl (by decide) rfl (fun ls hl => ?_)
          refine lv_iinc (v := nI (j + 1)) (lv' := [(4, .int (nI (j + 1))), (3, .int (nI (B1 b1).length)), (2, .int (nI b1)), (1, .ref x.1), (7, .int (nI b1)), (6, .ref x.1), (0, .ref h), (5, .ref it)]) hx hb dX1_deleteMin_205 hl (k := 6) rfl (nI_1 j) (by decide) rfl (fun ls hl => ?_)
          refine lv_goto (tgt := 115) hx hb dX1_deleteMin_208 (by decide) ?_
          refine W.widen (k := 1 + (j + 1)) (n := 4 + 96 * (j + 1)) (by omega) (by omega) ?_
          exact ih (j + 1) hlt (by omega) L104 f104 (va_up B1 b1 (B1 b1 ++ [x])) (va_up md1 b1 (md1 b1 + 1)) (va_up ea1 b1 eax) (some x) (nI b1) (nI (B1 b1).length) (nI j) _ _ hhL3 hhf3 (g4 it hit) hif3 hmd3 hB3 hB3b hm3 hmx3 (dmI1 hI1 ⟨hxk, hx2, hbe.symm⟩) (dmI2 hI2 hb12 hx0 hjq) (dmI3n hb1 (fun i hi y hy => by rw [hlow i hi] at hy; exact absurd hy List.not_mem_nil)) (dmI5 hI5) (fun a ha9 => g4 a (hsub a ha9)) hfr3z hea3 hH ls (lv_sub hl [6, 3, 2, 1, 0, 7] rfl)
        · have hl : lv_has ls 8 [(7, .int (nI b1)), (6, .ref x.1), (0, .ref h), (1, .ref m1.1), (2, .int (nI b2)), (3, .int (nI q1)), (4, .int (nI j)), (5, .ref it)] := hl
          have hm1m : m1 ∈ B1 b2 := List.mem_of_getElem? hq1
          have hm1v := (hI1 b2 (by omega) (by omega) m1 hm1m).2.1
          have hm1l : rhLg Z L104 f104 m1.1 m1.2 := ((hBk2.2.1 b2 (by omega)).2.2.1 m1 hm1m).fr g4 (fun a ha9 => hlgA a ha9 _)
          refine lv_aload_n hx hb dX1_deleteMin_170 rfl (lv_at hl 3 rfl) ?_
          refine lv_ifnull hx hb dX1_deleteMin_171 ?_
          refine lv_aload_n hx hb dX1_deleteMin_174 rfl (lv_at hl 2 rfl) ?_
          refine lv_aload hx hb dX1_deleteMin_175 (lv_at hl 1 rfl) ?_
          refine lv_aload_n hx hb dX1_deleteMin_177 rfl (lv_at hl 3 rfl) ?_
          refine rh_ki hC hH (va_runU (As := [.ref x.1, .ref m1.1]) (rest := []) ⟨hx, hb, hml, hown, hts⟩ (met_compare l D Z L104 f104 h x.1 m1.1 x.2 m1.2 _ hhL3 hhf3 hx2 hm1v hxl3 hm1l) (va_cwA (owner := "AbstractRadixHeap") (C := "LongRadixHeap") 2 hts (lw_U q249 q251 q252 q253 q10 q254) rfl rfl rfl hC.dCmp (by decide +kernel) ⟨Nat.le_of_ble_eq_true rfl, Nat.le_of_ble_eq_true rfl⟩) (rh_preV hC hH [.ref x.1, .ref m1.1] (rh_recv hC hH hhL3 hhf3 (q := (RX2, TX2, 8)) rfl)) rfl rfl hl.1 rfl (lv_room (Nat.le_of_ble_eq_true rfl)) dX1_deleteMin_178 ⟨show _ ≤ 70 by omega, show _ ≤ 6200 by omega⟩) (fun r106 L106 f106 H locs hp106 hH => ?_)
          obtain ⟨rfl, rfl, rfl⟩ := hp106
          refine lv_if_ge (tgt := 205) hx hb dX1_deleteMin_181 (by decide) (fun c_2 => ?_) (fun c_2 => ?_)
          · refine lv_iinc (v := nI (j + 1)) (lv' := [(4, .int (nI (j + 1))), (7, .int (nI b1)), (6, .ref x.1), (0, .ref h), (1, .ref m1.1), (2, .int (nI b2)), (3, .int (nI q1)), (5, .ref it)]) hx hb dX1_deleteMin_205 hl (k := 6) rfl (nI_1 j) (by decide) rfl (fun ls hl => ?_)
            refine lv_goto (tgt := 115) hx hb dX1_deleteMin_208 (by decide) ?_
            refine W.widen (k := 1 + (j + 1)) (n := 4 + 96 * (j + 1)) (by omega) (by omega) ?_
            exact ih (j + 1) hlt (by omega) L104 f104 (va_up B1 b1 (B1 b1 ++ [x])) (va_up md1 b1 (md1 b1 + 1)) (va_up ea1 b1 eax) (some m1) (nI b2) (nI q1) (nI j) _ _ hhL3 hhf3 (g4 it hit) hif3 hmd3 hB3 hB3b hm3 hmx3 (dmI1 hI1 ⟨hxk, hx2, hbe.symm⟩) (dmI2 hI2 hb12 hx0 hjq) (dmI3k hb2 hq1 hall (cmp_ge.mp c_2)) (dmI5 hI5) (fun a ha9 => g4 a (hsub a ha9)) hfr3z hea3 hH ls (lv_sub hl [3, 4, 5, 6, 0, 7] rfl)
          · refine lv_aload hx hb dX1_deleteMin_184 (lv_at hl 1 rfl) ?_
            refine lv_astore_n (lv' := [(1, .ref x.1), (7, .int (nI b1)), (6, .ref x.1), (0, .ref h), (2, .int (nI b2)), (3, .int (nI q1)), (4, .int (nI j)), (5, .ref it)]) hx hb dX1_deleteMin_186 rfl hl (by decide) rfl (fun ls hl => ?_)
            refine lv_iload hx hb dX1_deleteMin_187 (lv_at hl 1 rfl) ?_
            refine lv_istore_n (lv' := [(2, .int (nI b1)), (1, .ref x.1), (7, .int (nI b1)), (6, .ref x.1), (0, .ref h), (3, .int (nI q1)), (4, .int (nI j)), (5, .ref it)]) hx hb dX1_deleteMin_189 rfl hl (by decide) rfl (fun ls hl => ?_)
            refine lv_aload_n hx hb dX1_deleteMin_190 rfl (lv_at hl 4 rfl) ?_
            refine rh_get (ci := 1) (C := RX2) (T := TX2) (N := 8) hx hb hts in_X2 hown hC hH hhL3 hhf3 rfl 0 (by decide) (hts _ q186) (fun _ h9 => h9) rfl dX1_deleteMin_191 ?_
            refine lv_iload hx hb dX1_deleteMin_194 (lv_at hl 2 rfl) ?_
            obtain ⟨hbaL3, G3, hbaf3, hG3⟩ := hB3.1
            have hlbf3 : f104 (la b1) = eAL (md1 b1 + 1) eax (nI (B1 b1 ++ [x]).length) := by rw [List.length_append]; exact g2
            refine rh_aald (t0 := 1) hx hb hC hH hbaL3 hbaf3 rfl (vp_in_nI hb12 (by decide)) dX1_deleteMin_196 ?_
            rw [nI_clamp (show b1 < 2 ^ 31 by omega), rf_some (hG3 b1 hb12)]
            refine rh_kFi hC hH (va_runF (As := []) (rest := []) (hC.at (c := 4) rfl) ⟨hx, hb, hml, hown, hts⟩ (met_size l D Z L104 f104 (la b1) eax (md1 b1 + 1) (B1 b1 ++ [x]) (g4 _ hlbL) hlbf3) (va_cwF (C := "java/util/ArrayList") 0 hts (lw_F q352 q355 q357 q20 q359) rfl rfl rfl (hC.fSize) (by decide +kernel) ⟨Nat.le_of_ble_eq_true rfl, Nat.le_of_ble_eq_true rfl⟩) (rh_preV hC hH [] (rh_recv hC hH (g4 _ hlbL) hlbf3 (q := (RJ8, TJ8, 3)) rfl)) rfl rfl hl.1 rfl (lv_room (Nat.le_of_ble_eq_true rfl)) dX1_deleteMin_197 ⟨show _ ≤ 70 by omega, show _ ≤ 6200 by omega⟩) (fun r107 L107 f107 H locs hp107 hH => ?_)
            obtain ⟨rfl, rfl, rfl⟩ := hp107
            refine lv_iconst (v := 1) hx hb dX1_deleteMin_202 (by decide) ?_
            refine lv_isub hx hb dX1_deleteMin_203 ?_
            refine lv_topi (fun y ey => ?_)
            obtain rfl : y = nI (B1 b1).length := ey.trans (by rw [List.length_append]; exact nI_pred _)
            refine lv_istore_n (lv' := [(3, .int (nI (B1 b1).length)), (2, .int (nI b1)), (1, .ref x.1), (7, .int (nI b1)), (6, .ref x.1), (0, .ref h), (4, .int (nI j)), (5, .ref it)]) hx hb dX1_deleteMin_204 rfl hl (by decide) rfl (fun ls hl => ?_)
            refine lv_iinc (v := nI (j + 1)) (lv' := [(4, .int (nI (j + 1))), (3, .int (nI (B1 b1).length)), (2, .int (nI b1)), (1, .ref x.1), (7, .int (nI b1)), (6, .ref x.1), (0, .ref h), (5, .ref it)]) hx hb dX1_deleteMin_205 hl (k := 6) rfl (nI_1 j) (by decide) rfl (fun ls hl => ?_)
            refine lv_goto (tgt := 115) hx hb dX1_deleteMin_208 (by decide) ?_
            refine W.widen (k := 1 + (j + 1)) (n := 4 + 96 * (j + 1)) (by omega) (by omega) ?_
            exact ih (j + 1) hlt (by omega) L104 f104 (va_up B1 b1 (B1 b1 ++ [x])) (va_up md1 b1 (md1 b1 + 1)) (va_up ea1 b1 eax) (some x) (nI b1) (nI (B1 b1).length) (nI j) _ _ hhL3 hhf3 (g4 it hit) hif3 hmd3 hB3 hB3b hm3 hmx3 (dmI1 hI1 ⟨hxk, hx2, hbe.symm⟩) (dmI2 hI2 hb12 hx0 hjq) (dmI3n hb1 (fun i hi y hy => by have h1 := hall i hi y hy; have h2 : ¬ m1.2 ≤ x.2 := fun z => c_2 (cmp_ge.mpr z); omega)) (dmI5 hI5) (fun a ha9 => g4 a (hsub a ha9)) hfr3z hea3 hH ls (lv_sub hl [6, 3, 2, 1, 0, 7] rfl)

theorem dm_start {B : Nat → List (Nat × Nat)} {ks : List Nat} {lv b0 i : Nat} {m x : Nat × Nat} (hpu : rhPure B ks lv) (hb0 : b0 < 22) (hm : ∀ k ∈ ks, m.2 ≤ k) (hm1 : lv ≤ m.2) (hm3 : rhBk m.2 lv = b0) (hi : i < 22) (hib : i ≠ b0) (hx : x ∈ B i) : m.2 ≤ x.2 ∧ x.2 < 2 ^ 20 ∧ rhBk x.2 m.2 = i := by
  have h1 := hpu.2.1 i hi x hx
  have h2 := hm _ ((hpu.2.2.mem_iff).mpr (rhFl_mem.mpr ⟨i, hi, x, hx, rfl⟩))
  refine ⟨h2, h1.2.1, ?_⟩
  rcases Nat.lt_or_ge b0 i with z | z
  · rw [rb_up (l := lv) (by omega), h1.2.2]
  · have h3 := rb_lt (l := lv) (x := x.2) (y := m.2) hm1 (by omega)
    omega
set_option maxHeartbeats 4000000 in
set_option maxRecDepth 100000 in
theorem met_deleteMin (l : Launch) (D : va_G) (Z : Nat → Nat) (L : List Nat) (f : Nat → va_E) (h ba : Nat) (la ea : Nat → Nat) (ks : List Nat) (lv : Nat) (hh : rhHeap D Z L f h ba la ea ks lv) (hn : ks.length ≤ 64) (h0 : ks.length ≠ 0) : Met l yX1_deleteMin (ws_ yX1_deleteMin cX1_deleteMin 8 (some (.object "java/lang/Object"))) ({ frames := 7, cells := 70, slots := 6200, locals := 210 }) (rhPc D Z L f [.ref h]) (rhQr D Z (fun r L' f' => ∃ (k : Nat) (ea' : Nat → Nat), rhLg Z L' f' r k ∧ k ∈ ks ∧ (∀ j ∈ ks, k ≤ j) ∧ k < 2 ^ 20 ∧ rhHeap D Z L' f' h ba la ea' (ks.erase k) k ∧ (∀ b ∈ L, b ∈ L') ∧ (∀ b ∈ L, ¬ rhFT Z h ba la ea b → f' b = f b) ∧ (∀ i : Nat, i < 22 → ea' i = ea i ∨ ea' i ∉ L))) 70 6200 (rhA Z) := by
  refine rh_ofW (by decide +kernel) (Nat.le_of_ble_eq_true rfl) ?_
  intro p e s m args below meth c hx hb hr hlocks hml hown hin hts hC hH ls hl
  have hown : s.vm.findClass RX1 = some m.cls := hown
  have hl : lv_has ls 8 [(0, .ref h)] := hl
  obtain ⟨md, B, ls0, mn, mx, cm, cb, cp, ⟨hhL, hhf⟩, hBk, ⟨hls, hmx⟩, hpu, hmin⟩ := hh
  rcases hmin with ⟨z, -⟩ | ⟨m0, b0, q0, rfl, rfl, rfl, hb0, hq, hm0⟩
  · rw [z] at h0; exact absurd rfl h0
  have hhf : f h = .inr (1, [.ref ba, .long (lN ks.length), .ref ls0, .ref m0.1, .int (nI b0), .int (nI q0), .ref mn, .ref mx]) := hhf
  have hZ := rh_Z1 hC hH
  have hm1 : m0 ∈ B b0 := List.mem_of_getElem? hq
  have hm0k : m0.2 ∈ ks := (hpu.2.2.mem_iff).mpr (rhFl_mem.mpr ⟨b0, hb0, m0, hm1, rfl⟩)
  obtain ⟨hmv1, hm20, hmv3⟩ := hpu.2.1 b0 hb0 m0 hm1
  have hm2 : rhLg Z L f m0.1 m0.2 := (hBk.2.1 b0 hb0).2.2.1 m0 hm1
  have hq64 : q0 < 64 := by
    have h1 := (List.getElem?_eq_some_iff.mp hq).1
    have h2 := rhPure.len hpu hb0
    omega
  refine lv_aload_n hx hb dX1_deleteMin_0 rfl (lv_at hl 0 rfl) ?_
  refine rh_get (ci := 1) (C := RX2) (T := TX2) (N := 8) hx hb hts in_X2 hown hC hH hhL hhf rfl 1 (by decide) (hts _ q189) (fun _ h9 => h9) rfl dX1_deleteMin_1 ?_
  refine lv_lconst (v := 0) hx hb dX1_deleteMin_4 (by decide) ?_
  refine W.lcmp hx hb dX1_deleteMin_5 ?_
  refine lv_if_ne (tgt := 17) hx hb dX1_deleteMin_6 (by decide) (fun _ => ?_) (fun c_1 => absurd ((pk_lEQ (b := 0) (by omega) (by decide)).mp ((lg_cmp_eq _ _).mp c_1)) h0)
  refine lv_aload_n hx hb dX1_deleteMin_17 rfl (lv_at hl 0 rfl) ?_
  refine lv_aload_n hx hb dX1_deleteMin_18 rfl (lv_at hl 0 rfl) ?_
  refine rh_get (ci := 1) (C := RX2) (T := TX2) (N := 8) hx hb hts in_X2 hown hC hH hhL hhf rfl 3 (by decide) (hts _ q195) (fun _ h9 => h9) rfl dX1_deleteMin_19 ?_
  refine rh_put (ci := 1) (v := .ref m0.1) (ty := .object "java/lang/Object") (C := RX2) (T := TX2) (N := 8) hx hb hts in_X2 tyX2 tyX2_ok nmX2 hown hC hH hhL hhf rfl 2 (by decide) (hts _ q192) (fun _ h9 => h9) rfl (by decide +kernel) rfl rfl (Nat.le_of_ble_eq_true rfl) dX1_deleteMin_22 (fun f108 H locs hu108 hfr108 hH => ?_)
  have hx109 : f108 h = .inr (1, [.ref ba, .long (lN ks.length), .ref m0.1, .ref m0.1, .int (nI b0), .int (nI q0), .ref mn, .ref mx]) := hu108
  refine lv_aload_n hx hb dX1_deleteMin_25 rfl (lv_at hl 0 rfl) ?_
  refine rh_get (ci := 1) (C := RX2) (T := TX2) (N := 8) hx hb hts in_X2 hown hC hH hhL hx109 rfl 4 (by decide) (hts _ q196) (fun _ h9 => h9) rfl dX1_deleteMin_26 ?_
  have hBk1 := hBk.frO (fun _ h9 => h9) hhf (by decide) (by decide) (fun a _ h9 => hfr108 a h9)
  have hlg1 : ∀ a ∈ L, ∀ k : Nat, f a = eLong k → f108 a = f a := fun a ha9 k9 e9 => hfr108 a (rh_ne e9 hhf (by nofun))
  have hm2 := hm2.fr (fun _ h9 => h9) (fun a ha9 => hlg1 a ha9 _)
  have hmx := hmx.fr (fun _ h9 => h9) (fun a ha9 => hlg1 a ha9 _)
  have hfr0 : ∀ a ∈ L, ¬ rhFT Z h ba la ea a → f108 a = f a := fun a ha9 n9 => hfr108 a (fun z => n9 (Or.inl z))
  have hhf1 := hx109
  refine lv_if_ne (tgt := 90) hx hb dX1_deleteMin_29 (by decide) (fun c_1 => ?_) (fun c_1 => ?_)
  · have hb00 : 0 < b0 := by
      rcases Nat.eq_zero_or_pos b0 with z | z
      · exact absurd (by rw [z]; rfl) c_1
      · exact z
    refine lv_null hx hb dX1_deleteMin_90 ?_
    refine lv_astore_nN (lv' := [(1, .null), (0, .ref h)]) hx hb dX1_deleteMin_91 rfl hl (by decide) rfl (fun ls hl => ?_)
    refine lv_iconst (v := -1) hx hb dX1_deleteMin_92 (by decide) ?_
    refine lv_istore_n (lv' := [(2, .int (-1)), (1, .null), (0, .ref h)]) hx hb dX1_deleteMin_93 rfl hl (by decide) rfl (fun ls hl => ?_)
    refine lv_iconst (v := -1) hx hb dX1_deleteMin_94 (by decide) ?_
    refine lv_istore_n (lv' := [(3, .int (-1)), (2, .int (-1)), (1, .null), (0, .ref h)]) hx hb dX1_deleteMin_95 rfl hl (by decide) rfl (fun ls hl => ?_)
    refine lv_iconst (v := 0) hx hb dX1_deleteMin_96 (by decide) ?_
    refine lv_istore (lv' := [(4, .int 0), (3, .int (-1)), (2, .int (-1)), (1, .null), (0, .ref h)]) hx hb dX1_deleteMin_97 hl (by decide) rfl (fun ls hl => ?_)
    obtain ⟨hbaL, G, hbaf, hG⟩ := hBk1.1
    obtain ⟨hlaL, hlaf, hlae⟩ := hBk1.2.1 b0 hb0
    refine lv_aload_n hx hb dX1_deleteMin_99 rfl (lv_at hl 4 rfl) ?_
    refine rh_get (ci := 1) (C := RX2) (T := TX2) (N := 8) hx hb hts in_X2 hown hC hH hhL hhf1 rfl 0 (by decide) (hts _ q186) (fun _ h9 => h9) rfl dX1_deleteMin_100 ?_
    refine lv_aload_n hx hb dX1_deleteMin_103 rfl (lv_at hl 4 rfl) ?_
    refine rh_get (ci := 1) (C := RX2) (T := TX2) (N := 8) hx hb hts in_X2 hown hC hH hhL hhf1 rfl 4 (by decide) (hts _ q196) (fun _ h9 => h9) rfl dX1_deleteMin_104 ?_
    refine rh_aald (t0 := 1) hx hb hC hH hbaL hbaf rfl (vp_in_nI hb0 (by decide)) dX1_deleteMin_107 ?_
    rw [nI_clamp (show b0 < 2 ^ 31 by omega), rf_some (hG b0 hb0)]
    refine rh_kFr hC hH (va_runF (As := []) (rest := []) (hC.at (c := 4) rfl) ⟨hx, hb, hml, hown, hts⟩ (met_iterator l D Z L f108 (la b0) (ea b0) (md b0) (nI (B b0).length) hlaL hlaf) (va_cwF (C := "java/util/ArrayList") 0 hts (lw_F q447 q450 q452 q20 q454) rfl rfl rfl (hC.fIterator) (by decide +kernel) ⟨Nat.le_of_ble_eq_true rfl, Nat.le_of_ble_eq_true rfl⟩) (rh_preV hC hH [] (rh_recv hC hH hlaL hlaf (q := (RJ8, TJ8, 3)) rfl)) rfl rfl hl.1 rfl (lv_room (Nat.le_of_ble_eq_true rfl)) dX1_deleteMin_108 ⟨Nat.le_of_ble_eq_true rfl, Nat.le_of_ble_eq_true rfl⟩) (fun it110 L110 f110 H locs hp110 hH => ?_)
    obtain ⟨hqn, rfl, hif, hgM⟩ := hp110
    have hap : ∀ a ∈ L, a ∈ L ++ [it110] := fun _ h9 => List.mem_append_left _ h9
    refine lv_astore (lv' := [(5, .ref it110), (4, .int 0), (3, .int (-1)), (2, .int (-1)), (1, .null), (0, .ref h)]) hx hb dX1_deleteMin_113 hl (by decide) rfl (fun ls hl => ?_)
    refine W.widen (k := 1 + 0) (n := 4 + 96 * 0) (Nat.le_of_ble_eq_true rfl) (Nat.le_of_ble_eq_true rfl) ?_
    have hlow : ∀ i : Nat, i < b0 → B i = [] := by
      intro i hi
      cases hBi : B i with
      | nil => rfl
      | cons y t =>
        have hy : y ∈ B i := by rw [hBi]; exact List.mem_cons_self
        have h1 := hpu.2.1 i (by omega) y hy
        have h2 := hm0 _ ((hpu.2.2.mem_iff).mpr (rhFl_mem.mpr ⟨i, by omega, y, hy, rfl⟩))
        have h3 := rb_lt (l := lv) (x := y.2) (y := m0.2) hmv1 (by omega)
        omega
    have hI2 : (rhFl B 22).Perm ((((B b0).take 0).eraseIdx q0).map (·.2) ++ rhFl B 22) := by
      have e : (((B b0).take 0).eraseIdx q0).map (·.2) = [] := by rw [List.take_zero, List.eraseIdx_nil]; rfl
      rw [e, List.nil_append]
    exact dm_loop hx hb hr hlocks hml hown hts hC m0 hm0k hm0 hm20 hn hb0 hb00 hpu hq (Nat.le_trans (rhPure.len hpu hb0) hn) hq64 hqn ((B b0).length + 1) 0 (Nat.zero_le _) (by omega) (L ++ [it110]) f110 B md ea none (-1) (-1) (-1) _ _ (hap _ hhL) ((hgM h hhL).trans hhf1) (rh_last L it110) hif rfl (hBk1.frA hap hgM) rfl (hm2.fr hap (fun a ha9 _ => hgM a ha9)) (hmx.fr hap (fun a ha9 _ => hgM a ha9)) (fun i hi hib x hx9 => dm_start hpu hb0 hm0 hmv1 hmv3 hi hib hx9) hI2 (Or.inl ⟨rfl, rfl, rfl, hlow⟩) (fun i hi => by rw [hlow i hi]; exact Nat.zero_le _) hap (fun a ha9 n9 => (hgM a ha9).trans (hfr0 a ha9 n9)) (fun i _ => Or.inl rfl) hH ls (lv_sub hl [5, 4, 3, 2, 1, 0] rfl)
  · have hb00 : b0 = 0 := (nI_eq (b := 0) (by omega) (by decide)).mp c_1
    subst hb00
    exact dm_low hx hb hr hlocks hml hown hts hC m0 hm0k hm0 hm20 hn hhL hhf1 hBk1 hpu hq hm2 hmx hfr0 hH ls (lv_sub hl [0] rfl)
end
section
/-! LongRadixHeapDesk: four heaps in a file, their floors, a count of puts (printed by tools/p17.py) -/
theorem rhCx.dne2 {D : va_G} {Z : Nat → Nat} {s : State} (h : rhCx D Z s) : D.1 100 ≠ D.1 102 := h.wd.2.2.2.2.2.2.2.2.1
theorem rhCx.dne3 {D : va_G} {Z : Nat → Nat} {s : State} (h : rhCx D Z s) : D.1 101 ≠ D.1 102 := h.wd.2.2.2.2.2.2.2.2.2
theorem ft_in {D : va_G} {Z : Nat → Nat} {L : List Nat} {f : Nat → va_E} {h ba : Nat} {la ea : Nat → Nat} {ks : List Nat} {lv b : Nat} (hh : rhHeap D Z L f h ba la ea ks lv) (hb : rhFT Z h ba la ea b) : b ∈ L := by
  obtain ⟨md, B, ls, mn, mx, cm, cb, cp, ⟨a1, a2⟩, hB, -⟩ := hh
  rcases hb with rfl | rfl | ⟨i, hi, rfl⟩ | ⟨i, hi, rfl, hz⟩
  · exact a1
  · exact hB.1.1
  · exact (hB.2.1 i hi).1
  · rcases (hB.2.1 i hi).2.2.2 with ⟨-, q⟩ | ⟨q, -⟩
    · exact absurd q hz
    · exact q
/-- what a cell of no heap holds -/
def rhOut (D : va_G) (y : va_E) : Prop := (∀ fs : List Value, y ≠ .inr (1, fs)) ∧ (∀ fs : List Value, y ≠ .inr (4, fs)) ∧ (∀ (n : Nat) (F : Nat → Option Nat), y ≠ eRefs (D.1 101) n F) ∧ (∀ (n : Nat) (F : Nat → Option Nat), y ≠ eRefs (D.1 100) n F)
theorem ro_obj {D : va_G} {ci : Nat} {fs : List Value} (h1 : ci ≠ 1) (h4 : ci ≠ 4) : rhOut D (.inr (ci, fs)) := ⟨fun _ z => h1 (by cases z; rfl), fun _ z => h4 (by cases z; rfl), by nofun, by nofun⟩
theorem ro_ints {D : va_G} {n : Nat} {g : Nat → Int32} : rhOut D (eInts D n g) := ⟨by nofun, by nofun, fun _ _ z => (by have h := (Prod.mk.inj (Prod.mk.inj (Sum.inl.inj z)).2).2; cases h), fun _ _ z => (by have h := (Prod.mk.inj (Prod.mk.inj (Sum.inl.inj z)).2).2; cases h)⟩
theorem ro_file {D : va_G} {n : Nat} {G : Nat → Option Nat} (h0 : D.1 100 ≠ D.1 102) (h1 : D.1 101 ≠ D.1 102) : rhOut D (eRefs (D.1 102) n G) := ⟨by nofun, by nofun, fun _ _ z => h1 (Prod.mk.inj (Sum.inl.inj z)).1.symm, fun _ _ z => h0 (Prod.mk.inj (Sum.inl.inj z)).1.symm⟩
theorem ft_not {D : va_G} {Z : Nat → Nat} {L : List Nat} {f : Nat → va_E} {h ba : Nat} {la ea : Nat → Nat} {ks : List Nat} {lv a : Nat} {y : va_E} (hh : rhHeap D Z L f h ba la ea ks lv) (hf : f a = y) (hy : rhOut D y) : ¬ rhFT Z h ba la ea a := by
  obtain ⟨md, B, ls, mn, mx, cm, cb, cp, ⟨a1, a2⟩, hB, -⟩ := hh
  rintro (rfl | rfl | ⟨i, hi, rfl⟩ | ⟨i, hi, rfl, hz⟩)
  · exact hy.1 _ (hf.symm.trans a2)
  · obtain ⟨-, G, g, -⟩ := hB.1
    exact hy.2.2.1 _ _ (hf.symm.trans g)
  · exact hy.2.1 _ (hf.symm.trans (hB.2.1 i hi).2.1)
  · rcases (hB.2.1 i hi).2.2.2 with ⟨-, q⟩ | ⟨-, cap, F, q, -⟩
    · exact hz q
    · exact hy.2.2.2 _ _ (hf.symm.trans q)
theorem ft_long {D : va_G} {Z : Nat → Nat} {L : List Nat} {f : Nat → va_E} {h ba : Nat} {la ea : Nat → Nat} {ks : List Nat} {lv a k : Nat} (hh : rhHeap D Z L f h ba la ea ks lv) (hf : f a = eLong k) : ¬ rhFT Z h ba la ea a := ft_not hh hf (ro_obj (by decide) (by decide))
/-- the four heaps -/
def rhHeaps (D : va_G) (Z : Nat → Nat) (L : List Nat) (f : Nat → va_E) (n : Nat) (hh bb : Nat → Nat) (ll ee : Nat → Nat → Nat) (K : Nat → List Nat) (fl : Nat → Nat) : Prop :=
  (∀ r : Nat, r < n → rhHeap D Z L f (hh r) (bb r) (ll r) (ee r) (K r) (fl r)) ∧ (∀ r r' : Nat, r < n → r' < n → r ≠ r' → ∀ b : Nat, rhFT Z (hh r) (bb r) (ll r) (ee r) b → ¬ rhFT Z (hh r') (bb r') (ll r') (ee r') b)
/-- a cell of no heap was written, or cells were made -/
theorem rhHeaps.fr {D : va_G} {Z : Nat → Nat} {L L' : List Nat} {f f' : Nat → va_E} {n : Nat} {hh bb : Nat → Nat} {ll ee : Nat → Nat → Nat} {K : Nat → List Nat} {fl : Nat → Nat} (h : rhHeaps D Z L f n hh bb ll ee K fl) (hs : ∀ b ∈ L, b ∈ L') (hZ : Z 1 ∉ L) {o : Nat} {y : va_E} (ho : f o = y) (hy : rhOut D y) (hl : ∀ k : Nat, y ≠ eLong k) (hk : ∀ b ∈ L, b ≠ o → f' b = f b) : rhHeaps D Z L' f' n hh bb ll ee K fl :=
  ⟨fun r hr => (h.1 r hr).fr hs hZ (fun b hb hF => hk b hb (fun z => ft_not (h.1 r hr) ho hy (by rw [← z]; exact hF))) (fun b hb k e => hk b hb (fun z => hl k (ho.symm.trans ((congrArg f z).symm.trans e)))), h.2⟩
theorem rhHeaps.frA {D : va_G} {Z : Nat → Nat} {L L' : List Nat} {f f' : Nat → va_E} {n : Nat} {hh bb : Nat → Nat} {ll ee : Nat → Nat → Nat} {K : Nat → List Nat} {fl : Nat → Nat} (h : rhHeaps D Z L f n hh bb ll ee K fl) (hs : ∀ b ∈ L, b ∈ L') (hZ : Z 1 ∉ L) (hk : ∀ b ∈ L, f' b = f b) : rhHeaps D Z L' f' n hh bb ll ee K fl :=
  ⟨fun r hr => (h.1 r hr).fr hs hZ (fun b hb _ => hk b hb) (fun b hb k e => hk b hb), h.2⟩
/-- one of the heaps did something -/
theorem rhHeaps.step {D : va_G} {Z : Nat → Nat} {L L' : List Nat} {f f' : Nat → va_E} {n : Nat} {hh bb : Nat → Nat} {ll ee : Nat → Nat → Nat} {K : Nat → List Nat} {fl : Nat → Nat} (h : rhHeaps D Z L f n hh bb ll ee K fl) (hs : ∀ b ∈ L, b ∈ L') (hZ : Z 1 ∉ L) {r0 : Nat} (hr0 : r0 < n) {ee' : Nat → Nat} {ks : List Nat} {lv : Nat} (hn : rhHeap D Z L' f' (hh r0) (bb r0) (ll r0) ee' ks lv) (hk : ∀ b ∈ L, ¬ rhFT Z (hh r0) (bb r0) (ll r0) (ee r0) b → f' b = f b) (he : ∀ i : Nat, i < 22 → ee' i = ee r0 i ∨ ee' i ∉ L) : rhHeaps D Z L' f' n hh bb ll (va_up ee r0 ee') (va_up K r0 ks) (va_up fl r0 lv) ∧ ∀ (r b : Nat), r < n → rhFT Z (hh r) (bb r) (ll r) (va_up ee r0 ee' r) b → rhFT Z (hh r) (bb r) (ll r) (ee r) b ∨ b ∉ L := by
  have hF : ∀ (r b : Nat), r < n → rhFT Z (hh r) (bb r) (ll r) (va_up ee r0 ee' r) b → rhFT Z (hh r) (bb r) (ll r) (ee r) b ∨ b ∉ L := by
    intro r b hr hb
    by_cases hrr : r = r0
    · subst hrr
      rw [va_up_self] at hb
      rcases hb with hb | hb | hb | ⟨i, hi, hb, hz⟩
      · exact Or.inl (Or.inl hb)
      · exact Or.inl (Or.inr (Or.inl hb))
      · exact Or.inl (Or.inr (Or.inr (Or.inl hb)))
      · rcases he i hi with q | q
        · exact Or.inl (Or.inr (Or.inr (Or.inr ⟨i, hi, hb.trans q, hz⟩)))
        · exact Or.inr (hb ▸ q)
    · rw [va_up_ne _ _ hrr] at hb
      exact Or.inl hb
  refine ⟨⟨fun r hr => ?_, fun r r' hr hr' hne b h1 h2 => ?_⟩, hF⟩
  · by_cases hrr : r = r0
    · subst hrr
      rw [va_up_self, va_up_self, va_up_self]
      exact hn
    · rw [va_up_ne _ _ hrr, va_up_ne _ _ hrr, va_up_ne _ _ hrr]
      exact (h.1 r hr).fr hs hZ (fun b hb hFb => hk b hb (h.2 r r0 hr hr0 hrr b hFb)) (fun b hb k e => hk b hb (ft_long (h.1 r0 hr0) e))
  · by_cases hrr : r = r0
    · have hr2 : r' ≠ r0 := fun z => hne (hrr.trans z.symm)
      rw [va_up_ne _ _ hr2] at h2
      rcases hF r b hr h1 with q | q
      · exact h.2 r r' hr hr' hne b q h2
      · exact q (ft_in (h.1 r' hr') h2)
    · rw [va_up_ne _ _ hrr] at h1
      rcases hF r' b hr' h2 with q | q
      · exact h.2 r r' hr hr' hne b h1 q
      · exact q (ft_in (h.1 r hr) h1)
/-- a heap was put in the place of another, all its cells new -/
theorem rhHeaps.swap {D : va_G} {Z : Nat → Nat} {L L' : List Nat} {f' : Nat → va_E} {n : Nat} {hh bb : Nat → Nat} {ll ee : Nat → Nat → Nat} {K : Nat → List Nat} {fl : Nat → Nat} (h : ∀ r : Nat, r < n → ∀ r' : Nat, r' < n → r ≠ r' → ∀ b : Nat, rhFT Z (hh r) (bb r) (ll r) (ee r) b → ¬ rhFT Z (hh r') (bb r') (ll r') (ee r') b) {r0 h0 b0 : Nat} {l0 : Nat → Nat} (hin : ∀ r : Nat, r < n → r ≠ r0 → ∀ b : Nat, rhFT Z (hh r) (bb r) (ll r) (ee r) b → b ∈ L) (ho : ∀ r : Nat, r < n → r ≠ r0 → rhHeap D Z L' f' (hh r) (bb r) (ll r) (ee r) (K r) (fl r)) (hn : rhHeap D Z L' f' h0 b0 l0 (fun _ => Z 1) [] 0) (hf : ∀ b : Nat, rhFT Z h0 b0 l0 (fun _ => Z 1) b → b ∉ L) {N : Nat} (hN : N ≤ n ∨ (r0 = n ∧ N = n + 1)) : rhHeaps D Z L' f' N (va_up hh r0 h0) (va_up bb r0 b0) (va_up ll r0 l0) (va_up ee r0 (fun _ => Z 1)) (va_up K r0 []) (va_up fl r0 0) := by
  have hlt : ∀ r : Nat, r < N → r ≠ r0 → r < n := fun r h1 h2 => by omega
  refine ⟨fun r hr => ?_, fun r r' hr hr' hne b h1 h2 => ?_⟩
  · by_cases hrr : r = r0
    · subst hrr
      rw [va_up_self, va_up_self, va_up_self, va_up_self, va_up_self, va_up_self]
      exact hn
    · rw [va_up_ne _ _ hrr, va_up_ne _ _ hrr, va_up_ne _ _ hrr, va_up_ne _ _ hrr, va_up_ne _ _ hrr, va_up_ne _ _ hrr]
      exact ho r (hlt r hr hrr) hrr
  · by_cases hrr : r = r0
    · have hr2 : r' ≠ r0 := fun z => hne (hrr.trans z.symm)
      subst hrr
      rw [va_up_self, va_up_self, va_up_self, va_up_self] at h1
      rw [va_up_ne _ _ hr2, va_up_ne _ _ hr2, va_up_ne _ _ hr2, va_up_ne _ _ hr2] at h2
      exact hf b h1 (hin r' (hlt r' hr' hr2) hr2 b h2)
    · rw [va_up_ne _ _ hrr, va_up_ne _ _ hrr, va_up_ne _ _ hrr, va_up_ne _ _ hrr] at h1
      by_cases hr2 : r' = r0
      · subst hr2
        rw [va_up_self, va_up_self, va_up_self, va_up_self] at h2
        exact hf b h2 (hin r (hlt r hr hrr) hrr b h1)
      · rw [va_up_ne _ _ hr2, va_up_ne _ _ hr2, va_up_ne _ _ hr2, va_up_ne _ _ hr2] at h2
        exact h r (hlt r hr hrr) r' (hlt r' hr' hr2) hne b h1 h2
/-- the cells of the desk -/
def rhFD (Z : Nat → Nat) (d fi fa : Nat) (hh bb : Nat → Nat) (ll ee : Nat → Nat → Nat) : Nat → Prop := fun b => b = d ∨ b = fi ∨ b = fa ∨ ∃ r : Nat, r < 4 ∧ rhFT Z (hh r) (bb r) (ll r) (ee r) b
/-- the desk: the heaps' keys K, their floors fl, the count of puts pu; FD: its cells -/
def rhDesk (D : va_G) (Z : Nat → Nat) (L : List Nat) (f : Nat → va_E) (d : Nat) (K : Nat → List Nat) (fl : Nat → Nat) (pu : Nat) (FD : Nat → Prop) : Prop := ∃ (fi fa : Nat) (hh bb : Nat → Nat) (ll ee : Nat → Nat → Nat) (G : Nat → Option Nat) (g : Nat → Int32),
  (d ∈ L ∧ f d = eDesk fi fa (nI pu)) ∧ (fi ∈ L ∧ f fi = eRefs (D.1 102) 4 G ∧ ∀ r : Nat, r < 4 → G r = some (hh r)) ∧ (fa ∈ L ∧ f fa = eInts D 4 g ∧ ∀ r : Nat, r < 4 → g r = nI (fl r)) ∧ rhHeaps D Z L f 4 hh bb ll ee K fl ∧ (pu ≤ 64 ∧ ∀ r : Nat, r < 4 → (K r).length ≤ pu) ∧ FD = rhFD Z d fi fa hh bb ll ee
theorem rhDesk.fl_lt {D : va_G} {Z : Nat → Nat} {L : List Nat} {f : Nat → va_E} {h ba : Nat} {la ea : Nat → Nat} {ks : List Nat} {lv : Nat} (hh : rhHeap D Z L f h ba la ea ks lv) : lv < 2 ^ 20 := by
  obtain ⟨md, B, ls, mn, mx, cm, cb, cp, -, -, -, hp, -⟩ := hh
  exact hp.1
/-- the desk's cells are in the pool -/
theorem rhDesk.inL {D : va_G} {Z : Nat → Nat} {L : List Nat} {f : Nat → va_E} {d : Nat} {K : Nat → List Nat} {fl : Nat → Nat} {pu : Nat} {FD : Nat → Prop} (h : rhDesk D Z L f d K fl pu FD) : ∀ b : Nat, FD b → b ∈ L := by
  obtain ⟨fi, fa, hh, bb, ll, ee, G, g, ⟨h1, -⟩, ⟨h2, -⟩, ⟨h3, -⟩, h4, -, rfl⟩ := h
  rintro b (rfl | rfl | rfl | ⟨r, hr, hb⟩)
  · exact h1
  · exact h2
  · exact h3
  · exact ft_in (h4.1 r hr) hb
/-- cells that are not the desk's were written -/
theorem rhDesk.fr {D : va_G} {Z : Nat → Nat} {L : List Nat} {f f' : Nat → va_E} {d : Nat} {K : Nat → List Nat} {fl : Nat → Nat} {pu : Nat} {FD : Nat → Prop} (h : rhDesk D Z L f d K fl pu FD) (hZ : Z 1 ∉ L) (hk : ∀ b ∈ L, FD b → f' b = f b) (hl : ∀ b ∈ L, ∀ k : Nat, f b = eLong k → f' b = f b) : rhDesk D Z L f' d K fl pu FD := by
  obtain ⟨fi, fa, hh, bb, ll, ee, G, g, ⟨h1, h1f⟩, ⟨h2, h2f, h2g⟩, ⟨h3, h3f, h3g⟩, h4, h5, rfl⟩ := h
  refine ⟨fi, fa, hh, bb, ll, ee, G, g, ⟨h1, (hk _ h1 (Or.inl rfl)).trans h1f⟩, ⟨h2, (hk _ h2 (Or.inr (Or.inl rfl))).trans h2f, h2g⟩, ⟨h3, (hk _ h3 (Or.inr (Or.inr (Or.inl rfl)))).trans h3f, h3g⟩, ⟨fun r hr => (h4.1 r hr).fr (fun _ h9 => h9) hZ (fun b hb hF => hk b hb (Or.inr (Or.inr (Or.inr ⟨r, hr, hF⟩)))) hl, h4.2⟩, h5, rfl⟩
/-- the heap's number, the key, the step out of an argument -/
def rhR (x : Int32) : Nat := x.toBitVec.toNat % 2 ^ 2
def rhKy (x : Int32) : Nat := x.toBitVec.toNat % 2 ^ 20
def rhMo (x : Int32) : Nat := x.toBitVec.toNat % 2 ^ 10
theorem rhR_lt (x : Int32) : rhR x < 4 := Nat.mod_lt _ (by decide)
theorem rhKy_lt (x : Int32) : rhKy x < 2 ^ 20 := Nat.mod_lt _ (by decide)
theorem rhMo_lt (x : Int32) : rhMo x < 2 ^ 10 := Nat.mod_lt _ (by decide)
theorem and_3 (x : Int32) : x &&& 3 = nI (rhR x) := pk_and x 2 (by decide +kernel)
theorem and_ky (x : Int32) : x &&& 1048575 = nI (rhKy x) := pk_and x 20 (by decide +kernel)
theorem and_mo (x : Int32) : x &&& 1023 = nI (rhMo x) := pk_and x 10 (by decide +kernel)
set_option maxHeartbeats 4000000 in
set_option maxRecDepth 100000 in
theorem met_told (l : Launch) (D : va_G) (Z : Nat → Nat) (L : List Nat) (f : Nat → va_E) (x : Int32) : Met l yX0_told (ws_ yX0_told cX0_told 1 (some .int)) ({ frames := 0, cells := 0, slots := 0, locals := 0 }) (rhPc D Z L f [.int x]) (rhQi D Z (fun r L' f' => nI (rhKy x) = r ∧ L = L' ∧ f = f')) 0 0 (rhA Z) := by
  refine rh_ofW (by decide +kernel) (Nat.le_of_ble_eq_true rfl) ?_
  intro p e s m args below meth c hx hb hr hlocks hml hown hin hts hC hH ls hl
  have hown : s.vm.findClass RX0 = some m.cls := hown
  have hl : lv_has ls 1 [(0, .int x)] := hl
  refine lv_iload_n hx hb dX0_told_0 rfl (lv_at hl 0 rfl) ?_
  refine lv_ldc hx hb hown (hts _ q238) dX0_told_1 ?_
  refine lv_iand hx hb dX0_told_3 ?_
  rw [and_ky]
  exact rh_iret hx hb hr hlocks hC hH (Nat.le_of_ble_eq_true rfl) (Nat.le_of_ble_eq_true rfl) (⟨rfl, rfl, rfl⟩) dX0_told_4

theorem heap_obj {D : va_G} {Z : Nat → Nat} {L : List Nat} {f : Nat → va_E} {h ba : Nat} {la ea : Nat → Nat} {ks : List Nat} {lv : Nat} (hh : rhHeap D Z L f h ba la ea ks lv) : h ∈ L ∧ ∃ fs : List Value, f h = .inr (1, fs) := by
  obtain ⟨md, B, ls, mn, mx, cm, cb, cp, ⟨a1, a2⟩, -⟩ := hh
  exact ⟨a1, _, a2⟩
set_option maxHeartbeats 4000000 in
set_option maxRecDepth 100000 in
theorem met_dSize (l : Launch) (D : va_G) (Z : Nat → Nat) (L : List Nat) (f : Nat → va_E) (d : Nat) (K : Nat → List Nat) (fl : Nat → Nat) (pu : Nat) (FD : Nat → Prop) (hd : rhDesk D Z L f d K fl pu FD) (r : Int32) : Met l yX0_size (ws_ yX0_size cX0_size 2 (some .int)) ({ frames := 1, cells := 0, slots := 0, locals := 22 }) (rhPc D Z L f [.ref d, .int r]) (rhQi D Z (fun r' L' f' => nI (K (rhR r)).length = r' ∧ L = L' ∧ f = f')) 0 0 (rhA Z) := by
  refine rh_ofW (by decide +kernel) (Nat.le_of_ble_eq_true rfl) ?_
  intro p e s m args below meth c hx hb hr hlocks hml hown hin hts hC hH ls hl
  have hown : s.vm.findClass RX0 = some m.cls := hown
  have hl : lv_has ls 2 [(0, .ref d), (1, .int r)] := hl
  obtain ⟨fi, fa, hh, bb, ll, ee, G, g, ⟨hdL, hdf⟩, ⟨hiL, hif, hG⟩, ⟨haL, haf, hg⟩, hhs, ⟨hpu, hlen⟩, rfl⟩ := hd
  refine lv_aload_n hx hb dX0_size_0 rfl (lv_at hl 0 rfl) ?_
  refine rh_get (ci := 0) (C := RX0) (T := TX0) (N := 3) hx hb hts in_X0 hown hC hH hdL hdf rfl 0 (by decide) (hts _ q220) (fun _ h9 => h9) rfl dX0_size_1 ?_
  refine lv_iload_n hx hb dX0_size_4 rfl (lv_at hl 1 rfl) ?_
  refine lv_iconst (v := 3) hx hb dX0_size_5 (by decide) ?_
  refine lv_iand hx hb dX0_size_6 ?_
  rw [and_3]
  refine rh_aald (t0 := 2) hx hb hC hH hiL hif rfl (vp_in_nI (rhR_lt r) (by decide)) dX0_size_7 ?_
  rw [nI_clamp (show rhR r < 2 ^ 31 by have := rhR_lt r; omega), rf_some (hG _ (rhR_lt r))]
  obtain ⟨hhL, hfs, hhf⟩ := heap_obj (hhs.1 _ (rhR_lt r))
  refine rh_kl hC hH (va_runU (As := []) (rest := []) ⟨hx, hb, hml, hown, hts⟩ (met_hSize l D Z L f (hh (rhR r)) _ _ _ _ _ (hhs.1 _ (rhR_lt r))) (va_cwU (owner := "AbstractRadixHeap") (C := "LongRadixHeap") 0 hts (lw_U q510 q511 q513 q514 q9 q515) rfl rfl rfl rfl (by decide +kernel) ⟨Nat.le_of_ble_eq_true rfl, Nat.le_of_ble_eq_true rfl⟩) (rh_preV hC hH [] (rh_recv hC hH hhL hhf (q := (RX2, TX2, 8)) rfl)) rfl rfl hl.1 rfl (lv_room (Nat.le_of_ble_eq_true rfl)) dX0_size_8 ⟨Nat.le_of_ble_eq_true rfl, Nat.le_of_ble_eq_true rfl⟩) (fun r101 L101 f101 H locs hp101 hH => ?_)
  obtain ⟨rfl, rfl, rfl⟩ := hp101
  refine lv_l2i hx hb dX0_size_11 rfl ?_
  rw [lN_i]
  exact rh_iret hx hb hr hlocks hC hH (Nat.le_of_ble_eq_true rfl) (Nat.le_of_ble_eq_true rfl) (⟨rfl, rfl, rfl⟩) dX0_size_12

set_option maxHeartbeats 4000000 in
set_option maxRecDepth 100000 in
theorem met_dIsEmpty (l : Launch) (D : va_G) (Z : Nat → Nat) (L : List Nat) (f : Nat → va_E) (d : Nat) (K : Nat → List Nat) (fl : Nat → Nat) (pu : Nat) (FD : Nat → Prop) (hd : rhDesk D Z L f d K fl pu FD) (r : Int32) : Met l yX0_isEmpty (ws_ yX0_isEmpty cX0_isEmpty 2 (some .boolean)) ({ frames := 1, cells := 0, slots := 0, locals := 22 }) (rhPc D Z L f [.ref d, .int r]) (rhQi D Z (fun r' L' f' => (if (K (rhR r)).length = 0 then (1 : Int32) else 0) = r' ∧ L = L' ∧ f = f')) 0 0 (rhA Z) := by
  refine rh_ofW (by decide +kernel) (Nat.le_of_ble_eq_true rfl) ?_
  intro p e s m args below meth c hx hb hr hlocks hml hown hin hts hC hH ls hl
  have hown : s.vm.findClass RX0 = some m.cls := hown
  have hl : lv_has ls 2 [(0, .ref d), (1, .int r)] := hl
  obtain ⟨fi, fa, hh, bb, ll, ee, G, g, ⟨hdL, hdf⟩, ⟨hiL, hif, hG⟩, ⟨haL, haf, hg⟩, hhs, ⟨hpu, hlen⟩, rfl⟩ := hd
  refine lv_aload_n hx hb dX0_isEmpty_0 rfl (lv_at hl 0 rfl) ?_
  refine rh_get (ci := 0) (C := RX0) (T := TX0) (N := 3) hx hb hts in_X0 hown hC hH hdL hdf rfl 0 (by decide) (hts _ q220) (fun _ h9 => h9) rfl dX0_isEmpty_1 ?_
  refine lv_iload_n hx hb dX0_isEmpty_4 rfl (lv_at hl 1 rfl) ?_
  refine lv_iconst (v := 3) hx hb dX0_isEmpty_5 (by decide) ?_
  refine lv_iand hx hb dX0_isEmpty_6 ?_
  rw [and_3]
  refine rh_aald (t0 := 2) hx hb hC hH hiL hif rfl (vp_in_nI (rhR_lt r) (by decide)) dX0_isEmpty_7 ?_
  rw [nI_clamp (show rhR r < 2 ^ 31 by have := rhR_lt r; omega), rf_some (hG _ (rhR_lt r))]
  obtain ⟨hhL, hfs, hhf⟩ := heap_obj (hhs.1 _ (rhR_lt r))
  have hl64 : (K (rhR r)).length < 2 ^ 31 := by have := hlen _ (rhR_lt r); omega
  refine rh_ki hC hH (va_runU (As := []) (rest := []) ⟨hx, hb, hml, hown, hts⟩ (met_hIsEmpty l D Z L f (hh (rhR r)) _ _ _ _ _ (hhs.1 _ (rhR_lt r)) hl64) (va_cwU (owner := "AbstractRadixHeap") (C := "LongRadixHeap") 0 hts (lw_U q368 q369 q371 q372 q9 q373) rfl rfl rfl rfl (by decide +kernel) ⟨Nat.le_of_ble_eq_true rfl, Nat.le_of_ble_eq_true rfl⟩) (rh_preV hC hH [] (rh_recv hC hH hhL hhf (q := (RX2, TX2, 8)) rfl)) rfl rfl hl.1 rfl (lv_room (Nat.le_of_ble_eq_true rfl)) dX0_isEmpty_8 ⟨Nat.le_of_ble_eq_true rfl, Nat.le_of_ble_eq_true rfl⟩) (fun r102 L102 f102 H locs hp102 hH => ?_)
  obtain ⟨rfl, rfl, rfl⟩ := hp102
  exact rh_zret hx hb hr (by by_cases z : (K (rhR r)).length = 0 <;> simp only [z, if_true, if_false] <;> rfl) hlocks hC hH (Nat.le_of_ble_eq_true rfl) (Nat.le_of_ble_eq_true rfl) (⟨rfl, rfl, rfl⟩) dX0_isEmpty_11

/-- the answer of least -/
def spLeast (ks : List Nat) (r : Int32) : Prop := (ks = [] ∧ r = -1) ∨ ∃ k : Nat, k ∈ ks ∧ (∀ j ∈ ks, k ≤ j) ∧ k < 2 ^ 20 ∧ r = nI k
theorem spLeast.one {ks ks' : List Nat} {r r' : Int32} (hp : ks.Perm ks') (h : spLeast ks r) (h' : spLeast ks' r') : r = r' := by
  rcases h with ⟨h1, h2⟩ | ⟨k, h1, h2, h3, h4⟩
  · subst h1
    rcases h' with ⟨g1, g2⟩ | ⟨k, g1, -⟩
    · rw [h2, g2]
    · exact absurd ((hp.mem_iff).mpr g1) List.not_mem_nil
  · rcases h' with ⟨g1, g2⟩ | ⟨k', g1, g2, g3, g4⟩
    · subst g1
      exact absurd ((hp.mem_iff).mp h1) List.not_mem_nil
    · have e1 := h2 _ ((hp.mem_iff).mpr g1)
      have e2 := g2 _ ((hp.mem_iff).mp h1)
      rw [h4, g4, show k = k' by omega]
set_option maxHeartbeats 4000000 in
set_option maxRecDepth 100000 in
theorem met_dLeast (l : Launch) (D : va_G) (Z : Nat → Nat) (L : List Nat) (f : Nat → va_E) (d : Nat) (K : Nat → List Nat) (fl : Nat → Nat) (pu : Nat) (FD : Nat → Prop) (hd : rhDesk D Z L f d K fl pu FD) (r : Int32) : Met l yX0_least (ws_ yX0_least cX0_least 3 (some .int)) ({ frames := 1, cells := 0, slots := 0, locals := 22 }) (rhPc D Z L f [.ref d, .int r]) (rhQi D Z (fun r' L' f' => spLeast (K (rhR r)) r' ∧ L = L' ∧ f = f')) 0 0 (rhA Z) := by
  refine rh_ofW (by decide +kernel) (Nat.le_of_ble_eq_true rfl) ?_
  intro p e s m args below meth c hx hb hr hlocks hml hown hin hts hC hH ls hl
  have hown : s.vm.findClass RX0 = some m.cls := hown
  have hl : lv_has ls 3 [(0, .ref d), (1, .int r)] := hl
  obtain ⟨fi, fa, hh, bb, ll, ee, G, g, ⟨hdL, hdf⟩, ⟨hiL, hif, hG⟩, ⟨haL, haf, hg⟩, hhs, ⟨hpu, hlen⟩, rfl⟩ := hd
  refine lv_aload_n hx hb dX0_least_0 rfl (lv_at hl 0 rfl) ?_
  refine rh_get (ci := 0) (C := RX0) (T := TX0) (N := 3) hx hb hts in_X0 hown hC hH hdL hdf rfl 0 (by decide) (hts _ q220) (fun _ h9 => h9) rfl dX0_least_1 ?_
  refine lv_iload_n hx hb dX0_least_4 rfl (lv_at hl 1 rfl) ?_
  refine lv_iconst (v := 3) hx hb dX0_least_5 (by decide) ?_
  refine lv_iand hx hb dX0_least_6 ?_
  rw [and_3]
  refine rh_aald (t0 := 2) hx hb hC hH hiL hif rfl (vp_in_nI (rhR_lt r) (by decide)) dX0_least_7 ?_
  rw [nI_clamp (show rhR r < 2 ^ 31 by have := rhR_lt r; omega), rf_some (hG _ (rhR_lt r))]
  obtain ⟨hhL, hfs, hhf⟩ := heap_obj (hhs.1 _ (rhR_lt r))
  have hl64 : (K (rhR r)).length < 2 ^ 31 := by have := hlen _ (rhR_lt r); omega
  refine lv_astore_n (lv' := [(2, .ref (hh (rhR r))), (0, .ref d), (1, .int r)]) hx hb dX0_least_8 rfl hl (by decide) rfl (fun ls hl => ?_)
  refine lv_aload_n hx hb dX0_least_9 rfl (lv_at hl 0 rfl) ?_
  refine rh_ki hC hH (va_runU (As := []) (rest := []) ⟨hx, hb, hml, hown, hts⟩ (met_hIsEmpty l D Z L f (hh (rhR r)) _ _ _ _ _ (hhs.1 _ (rhR_lt r)) hl64) (va_cwU (owner := "AbstractRadixHeap") (C := "LongRadixHeap") 0 hts (lw_U q368 q369 q371 q372 q9 q373) rfl rfl rfl rfl (by decide +kernel) ⟨Nat.le_of_ble_eq_true rfl, Nat.le_of_ble_eq_true rfl⟩) (rh_preV hC hH [] (rh_recv hC hH hhL hhf (q := (RX2, TX2, 8)) rfl)) rfl rfl hl.1 rfl (lv_room (Nat.le_of_ble_eq_true rfl)) dX0_least_10 ⟨Nat.le_of_ble_eq_true rfl, Nat.le_of_ble_eq_true rfl⟩) (fun r103 L103 f103 H locs hp103 hH => ?_)
  obtain ⟨rfl, rfl, rfl⟩ := hp103
  by_cases hz : (K (rhR r)).length = 0
  · rw [if_pos hz]
    refine lv_if_eq (tgt := 20) hx hb dX0_least_13 (by decide) (fun z => absurd z (by decide)) (fun _ => ?_)
    refine lv_iconst (v := -1) hx hb dX0_least_16 (by decide) ?_
    refine lv_goto (tgt := 31) hx hb dX0_least_17 (by decide) ?_
    exact rh_iret hx hb hr hlocks hC hH (Nat.le_of_ble_eq_true rfl) (Nat.le_of_ble_eq_true rfl) (⟨Or.inl ⟨List.length_eq_zero_iff.mp hz, rfl⟩, rfl, rfl⟩) dX0_least_31
  · rw [if_neg hz]
    refine lv_if_eq (tgt := 20) hx hb dX0_least_13 (by decide) (fun _ => ?_) (fun z => absurd rfl z)
    refine lv_aload_n hx hb dX0_least_20 rfl (lv_at hl 0 rfl) ?_
    refine rh_kr hC hH (va_runU (As := []) (rest := []) ⟨hx, hb, hml, hown, hts⟩ (met_findMin l D Z L f (hh (rhR r)) _ _ _ _ _ (hhs.1 _ (rhR_lt r)) hl64 hz) (va_cwU (owner := "AbstractRadixHeap") (C := "LongRadixHeap") 0 hts (lw_U q374 q375 q377 q378 q9 q379) rfl rfl rfl rfl (by decide +kernel) ⟨Nat.le_of_ble_eq_true rfl, Nat.le_of_ble_eq_true rfl⟩) (rh_preV hC hH [] (rh_recv hC hH hhL hhf (q := (RX2, TX2, 8)) rfl)) rfl rfl hl.1 rfl (lv_room (Nat.le_of_ble_eq_true rfl)) dX0_least_21 ⟨Nat.le_of_ble_eq_true rfl, Nat.le_of_ble_eq_true rfl⟩) (fun r104 L104 f104 H locs hp104 hH => ?_)
    obtain ⟨rfl, rfl, k0, g1, g2, g3, g4⟩ := hp104
    refine va_castS hx hb hown (hts _ q401) (hC.at (c := 3) rfl) (rh_lgRecv hC hH g1) dX0_least_24 ?_
    refine rh_kl hC hH (va_runV (As := []) (rest := []) ⟨hx, hb, hml, hown, hts⟩ (met_longValue l D Z L f r104 k0 g1) (cwV 0 hts (lw_V q402 q261 q262 q16 q263) rfl rfl rfl (by decide +kernel) ⟨Nat.le_of_ble_eq_true rfl, Nat.le_of_ble_eq_true rfl⟩) (rh_preV hC hH [] (rh_lgRecv hC hH g1)) rfl rfl hl.1 rfl (lv_room (Nat.le_of_ble_eq_true rfl)) dX0_least_27 ⟨Nat.le_of_ble_eq_true rfl, Nat.le_of_ble_eq_true rfl⟩) (fun r105 L105 f105 H locs hp105 hH => ?_)
    obtain ⟨rfl, rfl, rfl⟩ := hp105
    refine lv_l2i hx hb dX0_least_30 rfl ?_
    rw [lN_i]
    exact rh_iret hx hb hr hlocks hC hH (Nat.le_of_ble_eq_true rfl) (Nat.le_of_ble_eq_true rfl) (⟨Or.inr ⟨k0, g2, g4, g3, rfl⟩, rfl, rfl⟩) dX0_least_31

theorem up_len {K : Nat → List Nat} {pu r k q : Nat} (h : ∀ r : Nat, r < 4 → (K r).length ≤ pu) (hq : q < 4) : (va_up K r (k :: K r) q).length ≤ pu + 1 := by
  by_cases z : q = r
  · subst z
    rw [va_up_self]
    have := h q hq
    show _ + 1 ≤ pu + 1
    omega
  · rw [va_up_ne _ _ z]
    have := h q hq
    omega
theorem fd_sub {Z : Nat → Nat} {L : List Nat} {d fi fa b : Nat} {hh bb : Nat → Nat} {ll ee ee' : Nat → Nat → Nat} (h : ∀ (r b : Nat), r < 4 → rhFT Z (hh r) (bb r) (ll r) (ee' r) b → rhFT Z (hh r) (bb r) (ll r) (ee r) b ∨ b ∉ L) (hb : rhFD Z d fi fa hh bb ll ee' b) : rhFD Z d fi fa hh bb ll ee b ∨ b ∉ L := by
  rcases hb with hb | hb | hb | ⟨r, hr, hb⟩
  · exact Or.inl (Or.inl hb)
  · exact Or.inl (Or.inr (Or.inl hb))
  · exact Or.inl (Or.inr (Or.inr (Or.inl hb)))
  · rcases h r b hr hb with q | q
    · exact Or.inl (Or.inr (Or.inr (Or.inr ⟨r, hr, q⟩)))
    · exact Or.inr q
set_option maxHeartbeats 4000000 in
set_option maxRecDepth 100000 in
theorem met_dPut (l : Launch) (D : va_G) (Z : Nat → Nat) (L : List Nat) (f : Nat → va_E) (d : Nat) (K : Nat → List Nat) (fl : Nat → Nat) (pu : Nat) (FD : Nat → Prop) (hd : rhDesk D Z L f d K fl pu FD) (r key : Int32) : Met l yX0_put (ws_ yX0_put cX0_put 5 (some .boolean)) ({ frames := 8, cells := 2, slots := 97, locals := 230 }) (rhPc D Z L f [.ref d, .int r, .int key]) (rhQi D Z (fun r' L' f' => ((pu < 64 ∧ fl (rhR r) ≤ rhKy key ∧ rhKy key < 2 ^ 20) ∧ 1 = r' ∧ ∃ FD' : Nat → Prop, rhDesk D Z L' f' d (va_up K (rhR r) (rhKy key :: K (rhR r))) fl (pu + 1) FD' ∧ (∀ b : Nat, FD' b → FD b ∨ b ∉ L) ∧ (∀ b ∈ L, ¬ FD b → f' b = f b) ∧ (∀ b ∈ L, b ∈ L')) ∨ (¬ (pu < 64 ∧ fl (rhR r) ≤ rhKy key ∧ rhKy key < 2 ^ 20) ∧ 0 = r' ∧ L = L' ∧ f = f'))) 2 97 (rhA Z) := by
  refine rh_ofW (by decide +kernel) (Nat.le_of_ble_eq_true rfl) ?_
  intro p e s m args below meth c hx hb hr hlocks hml hown hin hts hC hH ls hl
  have hown : s.vm.findClass RX0 = some m.cls := hown
  have hl : lv_has ls 5 [(0, .ref d), (1, .int r), (2, .int key)] := hl
  obtain ⟨fi, fa, hh, bb, ll, ee, G, g, ⟨hdL, hdf⟩, ⟨hiL, hif, hG⟩, ⟨haL, haf, hg⟩, hhs, ⟨hpu, hlen⟩, rfl⟩ := hd
  have hZ := rh_Z1 hC hH
  have hk20 := rhKy_lt key
  refine lv_iload_n hx hb dX0_put_0 rfl (lv_at hl 1 rfl) ?_
  refine lv_iconst (v := 3) hx hb dX0_put_1 (by decide) ?_
  refine lv_iand hx hb dX0_put_2 ?_
  rw [and_3]
  refine lv_istore_n (lv' := [(3, .int (nI (rhR r))), (0, .ref d), (1, .int r), (2, .int key)]) hx hb dX0_put_3 rfl hl (by decide) rfl (fun ls hl => ?_)
  refine lv_iload_n hx hb dX0_put_4 rfl (lv_at hl 3 rfl) ?_
  refine rh_ki hC hH (va_runS (As := [.int key]) (rest := []) ⟨hx, hb, hml, hown, hts⟩ (met_told l D Z L f key) (va_cwS 1 hts (lw_S q235 q236 q8 q237) rfl rfl rfl (by decide +kernel) ⟨Nat.le_of_ble_eq_true rfl, Nat.le_of_ble_eq_true rfl⟩) (rh_preS hC hH [.int key]) rfl rfl hl.1 rfl (lv_room (Nat.le_of_ble_eq_true rfl)) dX0_put_5 ⟨Nat.le_of_ble_eq_true rfl, Nat.le_of_ble_eq_true rfl⟩) (fun r106 L106 f106 H locs hp106 hH => ?_)
  obtain ⟨rfl, rfl, rfl⟩ := hp106
  refine lv_istore (lv' := [(4, .int (nI (rhKy key))), (3, .int (nI (rhR r))), (0, .ref d), (1, .int r), (2, .int key)]) hx hb dX0_put_8 hl (by decide) rfl (fun ls hl => ?_)
  refine lv_aload_n hx hb dX0_put_10 rfl (lv_at hl 2 rfl) ?_
  refine rh_get (ci := 0) (C := RX0) (T := TX0) (N := 3) hx hb hts in_X0 hown hC hH hdL hdf rfl 2 (by decide) (hts _ q222) (fun _ h9 => h9) rfl dX0_put_11 ?_
  refine lv_bipush (v := 64) hx hb dX0_put_14 (by decide) ?_
  refine lv_icmp_ge (tgt := 30) hx hb dX0_put_16 (by decide) (fun c_1 => ?_) (fun c_1 => ?_)
  · have h1 : ¬ pu < 64 := fun z => absurd c_1 (nI_ge (b := 64) z (by decide))
    refine lv_iconst (v := 0) hx hb dX0_put_30 (by decide) ?_
    exact rh_zret hx hb hr (by decide) hlocks hC hH (Nat.le_of_ble_eq_true rfl) (Nat.le_of_ble_eq_true rfl) (Or.inr ⟨fun z => h1 z.1, rfl, rfl, rfl⟩) dX0_put_31
  · have h1 : pu < 64 := by
      rcases Nat.lt_or_ge pu 64 with q | q
      · exact q
      · exact absurd (nI_le (a := 64) q (by omega)) c_1
    refine lv_iload hx hb dX0_put_19 (lv_at hl 0 rfl) ?_
    refine lv_aload_n hx hb dX0_put_21 rfl (lv_at hl 2 rfl) ?_
    refine rh_get (ci := 0) (C := RX0) (T := TX0) (N := 3) hx hb hts in_X0 hown hC hH hdL hdf rfl 1 (by decide) (hts _ q221) (fun _ h9 => h9) rfl dX0_put_22 ?_
    refine lv_iload_n hx hb dX0_put_25 rfl (lv_at hl 1 rfl) ?_
    refine rh_iald hx hb hC hH haL haf (vp_in_nI (rhR_lt r) (by decide)) dX0_put_26 ?_
    rw [nI_clamp (show rhR r < 2 ^ 31 by have := rhR_lt r; omega), hg _ (rhR_lt r)]
    have hfl20 := rhDesk.fl_lt (hhs.1 _ (rhR_lt r))
    refine lv_icmp_ge (tgt := 32) hx hb dX0_put_27 (by decide) (fun c_2 => ?_) (fun c_2 => ?_)
    · have hk1 : fl (rhR r) ≤ rhKy key := (nI_leI (by omega) (by omega)).mp c_2
      have hok : pu < 64 ∧ fl (rhR r) ≤ rhKy key ∧ rhKy key < 2 ^ 20 := ⟨h1, hk1, hk20⟩
      refine lv_aload_n hx hb dX0_put_32 rfl (lv_at hl 2 rfl) ?_
      refine lv_dup hx hb dX0_put_33 rfl ?_
      refine rh_get (ci := 0) (C := RX0) (T := TX0) (N := 3) hx hb hts in_X0 hown hC hH hdL hdf rfl 2 (by decide) (hts _ q222) (fun _ h9 => h9) rfl dX0_put_34 ?_
      refine lv_iconst (v := 1) hx hb dX0_put_37 (by decide) ?_
      refine lv_iadd hx hb dX0_put_38 ?_
      refine lv_topi (fun y ey => ?_)
      obtain rfl : y = nI (pu + 1) := ey.trans (nI_1 _)
      refine rh_put (ci := 0) (v := .int (nI (pu + 1))) (ty := .int) (C := RX0) (T := TX0) (N := 3) hx hb hts in_X0 tyX0 tyX0_ok nmX0 hown hC hH hdL hdf rfl 2 (by decide) (hts _ q222) (fun _ h9 => h9) rfl (by decide +kernel) rfl rfl (Nat.le_of_ble_eq_true rfl) dX0_put_39 (fun f107 H locs hu107 hfr107 hH => ?_)
      have hx108 : f107 fi = eRefs (D.1 102) 4 G := (hfr107 fi (rh_ne hif hdf (by nofun))).trans hif
      have hx109 : f107 fa = eInts D 4 g := (hfr107 fa (rh_ne haf hdf (by nofun))).trans haf
      have hx110 : f107 d = .inr (0, [.ref fi, .ref fa, .int (nI (pu + 1))]) := hu107
      have hhs1 := hhs.fr (fun _ h9 => h9) hZ hdf (ro_obj (by decide) (by decide)) (by nofun) (fun b _ h9 => hfr107 b h9)
      refine lv_aload_n hx hb dX0_put_42 rfl (lv_at hl 2 rfl) ?_
      refine rh_get (ci := 0) (C := RX0) (T := TX0) (N := 3) hx hb hts in_X0 hown hC hH hdL hx110 rfl 0 (by decide) (hts _ q220) (fun _ h9 => h9) rfl dX0_put_43 ?_
      refine lv_iload_n hx hb dX0_put_46 rfl (lv_at hl 1 rfl) ?_
      refine rh_aald (t0 := 2) hx hb hC hH hiL hx108 rfl (vp_in_nI (rhR_lt r) (by decide)) dX0_put_47 ?_
      rw [nI_clamp (show rhR r < 2 ^ 31 by have := rhR_lt r; omega), rf_some (hG _ (rhR_lt r))]
      refine lv_iload hx hb dX0_put_48 (lv_at hl 0 rfl) ?_
      refine lv_i2l hx hb dX0_put_50 rfl ?_
      rw [nI_l (show rhKy key < 2 ^ 31 by omega)]
      refine rh_kr hC hH (va_runS (As := [.long (lN (rhKy key))]) (rest := [.ref (hh (rhR r))]) ⟨hx, hb, hml, hown, hts⟩ (met_valueOf l D Z L f107 (rhKy key) hk20) (va_cwS 1 hts (lw_S q239 q125 q16 q126) rfl rfl rfl (by decide +kernel) ⟨Nat.le_of_ble_eq_true rfl, Nat.le_of_ble_eq_true rfl⟩) (rh_preS hC hH [.long (lN (rhKy key))]) rfl rfl hl.1 rfl (lv_room (Nat.le_of_ble_eq_true rfl)) dX0_put_51 ⟨Nat.le_of_ble_eq_true rfl, Nat.le_of_ble_eq_true rfl⟩) (fun x111 L111 f111 H locs hp111 hH => ?_)
      obtain ⟨hlx, hs2, hf2⟩ := hp111
      have hhs2 := hhs1.frA hs2 hZ hf2
      have hZ2 := rh_Z1 hC hH
      obtain ⟨hhL, hfs, hhf⟩ := heap_obj (hhs2.1 _ (rhR_lt r))
      have hl64 : (K (rhR r)).length < 64 := by have := hlen _ (rhR_lt r); omega
      refine rh_kv hC hH (va_runU (As := [.ref x111]) (rest := []) ⟨hx, hb, hml, hown, hts⟩ (met_insert l D Z L111 f111 (hh (rhR r)) _ _ _ _ _ (hhs2.1 _ (rhR_lt r)) x111 (rhKy key) hlx hk1 hk20 hl64) (va_cwU (owner := "AbstractRadixHeap") (C := "LongRadixHeap") 1 hts (lw_U q240 q241 q243 q244 q9 q245) rfl rfl rfl rfl (by decide +kernel) ⟨Nat.le_of_ble_eq_true rfl, Nat.le_of_ble_eq_true rfl⟩) (rh_preV hC hH [.ref x111] (rh_recv hC hH hhL hhf (q := (RX2, TX2, 8)) rfl)) rfl rfl hl.1 rfl (lv_room (Nat.le_of_ble_eq_true rfl)) dX0_put_54 ⟨Nat.le_of_ble_eq_true rfl, Nat.le_of_ble_eq_true rfl⟩) (fun L112 f112 H locs hp112 hH => ?_)
      obtain ⟨ee', hn1, hs3, hf3, he3⟩ := hp112
      obtain ⟨hhs3, hF3⟩ := hhs2.step hs3 hZ2 (rhR_lt r) hn1 hf3 he3
      rw [va_up_id] at hhs3
      have hK3 : ∀ (a : Nat) (y : va_E), a ∈ L → a ≠ d → f a = y → rhOut D y → f112 a = y := fun a y ha h9 hy ho => (hf3 a (hs2 a ha) (fun z => ft_not (hhs2.1 _ (rhR_lt r)) (((hf2 a ha).trans (hfr107 a h9)).trans hy) ho z)).trans (((hf2 a ha).trans (hfr107 a h9)).trans hy)
      have hd3 : f112 d = eDesk fi fa (nI (pu + 1)) := (hf3 d (hs2 d hdL) (fun z => ft_not (hhs2.1 _ (rhR_lt r)) ((hf2 d hdL).trans hx110) (ro_obj (by decide) (by decide)) z)).trans ((hf2 d hdL).trans hx110)
      refine lv_iconst (v := 1) hx hb dX0_put_57 (by decide) ?_
      exact rh_zret hx hb hr (by decide) hlocks hC hH (Nat.le_of_ble_eq_true rfl) (Nat.le_of_ble_eq_true rfl) (Or.inl ⟨hok, rfl, rhFD Z d fi fa hh bb ll (va_up ee (rhR r) ee'), ⟨fi, fa, hh, bb, ll, va_up ee (rhR r) ee', G, g, ⟨hs3 _ (hs2 _ hdL), hd3⟩, ⟨hs3 _ (hs2 _ hiL), hK3 fi _ hiL (rh_ne hif hdf (by nofun)) hif (ro_file hC.dne2 hC.dne3), hG⟩, ⟨hs3 _ (hs2 _ haL), hK3 fa _ haL (rh_ne haf hdf (by nofun)) haf ro_ints, hg⟩, hhs3, ⟨by omega, fun q hq => up_len hlen hq⟩, rfl⟩, fun b hb9 => fd_sub (fun q b hq hb8 => (hF3 q b hq hb8).elim Or.inl (fun z => Or.inr (fun z2 => z (hs2 _ z2)))) hb9, fun b hb9 n9 => (hf3 b (hs2 b hb9) (fun z => n9 (Or.inr (Or.inr (Or.inr ⟨_, rhR_lt r, z⟩))))).trans ((hf2 b hb9).trans (hfr107 b (fun z => n9 (Or.inl z)))), fun b hb9 => hs3 _ (hs2 _ hb9)⟩) dX0_put_58
    · refine lv_iconst (v := 0) hx hb dX0_put_30 (by decide) ?_
      exact rh_zret hx hb hr (by decide) hlocks hC hH (Nat.le_of_ble_eq_true rfl) (Nat.le_of_ble_eq_true rfl) (Or.inr ⟨fun z => c_2 (nI_le z.2.1 (by omega)), rfl, rfl, rfl⟩) dX0_put_31

set_option maxHeartbeats 4000000 in
set_option maxRecDepth 100000 in
theorem met_dAbove (l : Launch) (D : va_G) (Z : Nat → Nat) (L : List Nat) (f : Nat → va_E) (d : Nat) (K : Nat → List Nat) (fl : Nat → Nat) (pu : Nat) (FD : Nat → Prop) (hd : rhDesk D Z L f d K fl pu FD) (r more : Int32) : Met l yX0_above (ws_ yX0_above cX0_above 5 (some .boolean)) ({ frames := 8, cells := 2, slots := 97, locals := 230 }) (rhPc D Z L f [.ref d, .int r, .int more]) (rhQi D Z (fun r' L' f' => ((pu < 64 ∧ fl (rhR r) ≤ (fl (rhR r) + rhMo more) ∧ (fl (rhR r) + rhMo more) < 2 ^ 20) ∧ 1 = r' ∧ ∃ FD' : Nat → Prop, rhDesk D Z L' f' d (va_up K (rhR r) ((fl (rhR r) + rhMo more) :: K (rhR r))) fl (pu + 1) FD' ∧ (∀ b : Nat, FD' b → FD b ∨ b ∉ L) ∧ (∀ b ∈ L, ¬ FD b → f' b = f b) ∧ (∀ b ∈ L, b ∈ L')) ∨ (¬ (pu < 64 ∧ fl (rhR r) ≤ (fl (rhR r) + rhMo more) ∧ (fl (rhR r) + rhMo more) < 2 ^ 20) ∧ 0 = r' ∧ L = L' ∧ f = f'))) 2 97 (rhA Z) := by
  refine rh_ofW (by decide +kernel) (Nat.le_of_ble_eq_true rfl) ?_
  intro p e s m args below meth c hx hb hr hlocks hml hown hin hts hC hH ls hl
  have hown : s.vm.findClass RX0 = some m.cls := hown
  have hl : lv_has ls 5 [(0, .ref d), (1, .int r), (2, .int more)] := hl
  obtain ⟨fi, fa, hh, bb, ll, ee, G, g, ⟨hdL, hdf⟩, ⟨hiL, hif, hG⟩, ⟨haL, haf, hg⟩, hhs, ⟨hpu, hlen⟩, rfl⟩ := hd
  have hZ := rh_Z1 hC hH
  have hmo := rhMo_lt more
  have hfl20 := rhDesk.fl_lt (hhs.1 _ (rhR_lt r))
  refine lv_iload_n hx hb dX0_above_0 rfl (lv_at hl 1 rfl) ?_
  refine lv_iconst (v := 3) hx hb dX0_above_1 (by decide) ?_
  refine lv_iand hx hb dX0_above_2 ?_
  rw [and_3]
  refine lv_istore_n (lv' := [(3, .int (nI (rhR r))), (0, .ref d), (1, .int r), (2, .int more)]) hx hb dX0_above_3 rfl hl (by decide) rfl (fun ls hl => ?_)
  refine lv_aload_n hx hb dX0_above_4 rfl (lv_at hl 1 rfl) ?_
  refine rh_get (ci := 0) (C := RX0) (T := TX0) (N := 3) hx hb hts in_X0 hown hC hH hdL hdf rfl 1 (by decide) (hts _ q221) (fun _ h9 => h9) rfl dX0_above_5 ?_
  refine lv_iload_n hx hb dX0_above_8 rfl (lv_at hl 0 rfl) ?_
  refine rh_iald hx hb hC hH haL haf (vp_in_nI (rhR_lt r) (by decide)) dX0_above_9 ?_
  rw [nI_clamp (show rhR r < 2 ^ 31 by have := rhR_lt r; omega), hg _ (rhR_lt r)]
  refine lv_iload_n hx hb dX0_above_10 rfl (lv_at hl 3 rfl) ?_
  refine lv_sipush (v := 1023) hx hb dX0_above_11 (by decide) ?_
  refine lv_iand hx hb dX0_above_14 ?_
  rw [and_mo]
  refine lv_iadd hx hb dX0_above_15 ?_
  rw [nI_add]
  refine lv_istore (lv' := [(4, .int (nI (fl (rhR r) + rhMo more))), (3, .int (nI (rhR r))), (0, .ref d), (1, .int r), (2, .int more)]) hx hb dX0_above_16 hl (by decide) rfl (fun ls hl => ?_)
  refine lv_aload_n hx hb dX0_above_18 rfl (lv_at hl 2 rfl) ?_
  refine rh_get (ci := 0) (C := RX0) (T := TX0) (N := 3) hx hb hts in_X0 hown hC hH hdL hdf rfl 2 (by decide) (hts _ q222) (fun _ h9 => h9) rfl dX0_above_19 ?_
  refine lv_bipush (v := 64) hx hb dX0_above_22 (by decide) ?_
  refine lv_icmp_ge (tgt := 34) hx hb dX0_above_24 (by decide) (fun c_1 => ?_) (fun c_1 => ?_)
  · have h1 : ¬ pu < 64 := fun z => absurd c_1 (nI_ge (b := 64) z (by decide))
    refine lv_iconst (v := 0) hx hb dX0_above_34 (by decide) ?_
    exact rh_zret hx hb hr (by decide) hlocks hC hH (Nat.le_of_ble_eq_true rfl) (Nat.le_of_ble_eq_true rfl) (Or.inr ⟨fun z => h1 z.1, rfl, rfl, rfl⟩) dX0_above_35
  · have h1 : pu < 64 := by
      rcases Nat.lt_or_ge pu 64 with q | q
      · exact q
      · exact absurd (nI_le (a := 64) q (by omega)) c_1
    refine lv_iload hx hb dX0_above_27 (lv_at hl 0 rfl) ?_
    refine lv_ldc hx hb hown (hts _ q238) dX0_above_29 ?_
    refine lv_icmp_le (tgt := 36) hx hb dX0_above_31 (by decide) (fun c_2 => ?_) (fun c_2 => ?_)
    · have hk0 : fl (rhR r) + rhMo more ≤ 1048575 := (nI_leI (b := 1048575) (by omega) (by decide)).mp c_2
      have hk20 : fl (rhR r) + rhMo more < 2 ^ 20 := by omega
      have hk1 : fl (rhR r) ≤ fl (rhR r) + rhMo more := by omega
      have hok : pu < 64 ∧ fl (rhR r) ≤ fl (rhR r) + rhMo more ∧ fl (rhR r) + rhMo more < 2 ^ 20 := ⟨h1, hk1, hk20⟩
      refine lv_aload_n hx hb dX0_above_36 rfl (lv_at hl 2 rfl) ?_
      refine lv_dup hx hb dX0_above_37 rfl ?_
      refine rh_get (ci := 0) (C := RX0) (T := TX0) (N := 3) hx hb hts in_X0 hown hC hH hdL hdf rfl 2 (by decide) (hts _ q222) (fun _ h9 => h9) rfl dX0_above_38 ?_
      refine lv_iconst (v := 1) hx hb dX0_above_41 (by decide) ?_
      refine lv_iadd hx hb dX0_above_42 ?_
      refine lv_topi (fun y ey => ?_)
      obtain rfl : y = nI (pu + 1) := ey.trans (nI_1 _)
      refine rh_put (ci := 0) (v := .int (nI (pu + 1))) (ty := .int) (C := RX0) (T := TX0) (N := 3) hx hb hts in_X0 tyX0 tyX0_ok nmX0 hown hC hH hdL hdf rfl 2 (by decide) (hts _ q222) (fun _ h9 => h9) rfl (by decide +kernel) rfl rfl (Nat.le_of_ble_eq_true rfl) dX0_above_43 (fun f113 H locs hu113 hfr113 hH => ?_)
      have hx114 : f113 fi = eRefs (D.1 102) 4 G := (hfr113 fi (rh_ne hif hdf (by nofun))).trans hif
      have hx115 : f113 fa = eInts D 4 g := (hfr113 fa (rh_ne haf hdf (by nofun))).trans haf
      have hx116 : f113 d = .inr (0, [.ref fi, .ref fa, .int (nI (pu + 1))]) := hu113
      have hhs1 := hhs.fr (fun _ h9 => h9) hZ hdf (ro_obj (by decide) (by decide)) (by nofun) (fun b _ h9 => hfr113 b h9)
      refine lv_aload_n hx hb dX0_above_46 rfl (lv_at hl 2 rfl) ?_
      refine rh_get (ci := 0) (C := RX0) (T := TX0) (N := 3) hx hb hts in_X0 hown hC hH hdL hx116 rfl 0 (by decide) (hts _ q220) (fun _ h9 => h9) rfl dX0_above_47 ?_
      refine lv_iload_n hx hb dX0_above_50 rfl (lv_at hl 1 rfl) ?_
      refine rh_aald (t0 := 2) hx hb hC hH hiL hx114 rfl (vp_in_nI (rhR_lt r) (by decide)) dX0_above_51 ?_
      rw [nI_clamp (show rhR r < 2 ^ 31 by have := rhR_lt r; omega), rf_some (hG _ (rhR_lt r))]
      refine lv_iload hx hb dX0_above_52 (lv_at hl 0 rfl) ?_
      refine lv_i2l hx hb dX0_above_54 rfl ?_
      rw [nI_l (show fl (rhR r) + rhMo more < 2 ^ 31 by omega)]
      refine rh_kr hC hH (va_runS (As := [.long (lN (fl (rhR r) + rhMo more))]) (rest := [.ref (hh (rhR r))]) ⟨hx, hb, hml, hown, hts⟩ (met_valueOf l D Z L f113 (fl (rhR r) + rhMo more) hk20) (va_cwS 1 hts (lw_S q239 q125 q16 q126) rfl rfl rfl (by decide +kernel) ⟨Nat.le_of_ble_eq_true rfl, Nat.le_of_ble_eq_true rfl⟩) (rh_preS hC hH [.long (lN (fl (rhR r) + rhMo more))]) rfl rfl hl.1 rfl (lv_room (Nat.le_of_ble_eq_true rfl)) dX0_above_55 ⟨Nat.le_of_ble_eq_true rfl, Nat.le_of_ble_eq_true rfl⟩) (fun x117 L117 f117 H locs hp117 hH => ?_)
      obtain ⟨hlx, hs2, hf2⟩ := hp117
      have hhs2 := hhs1.frA hs2 hZ hf2
      have hZ2 := rh_Z1 hC hH
      obtain ⟨hhL, hfs, hhf⟩ := heap_obj (hhs2.1 _ (rhR_lt r))
      have hl64 : (K (rhR r)).length < 64 := by have := hlen _ (rhR_lt r); omega
      refine rh_kv hC hH (va_runU (As := [.ref x117]) (rest := []) ⟨hx, hb, hml, hown, hts⟩ (met_insert l D Z L117 f117 (hh (rhR r)) _ _ _ _ _ (hhs2.1 _ (rhR_lt r)) x117 (fl (rhR r) + rhMo more) hlx hk1 hk20 hl64) (va_cwU (owner := "AbstractRadixHeap") (C := "LongRadixHeap") 1 hts (lw_U q240 q241 q243 q244 q9 q245) rfl rfl rfl rfl (by decide +kernel) ⟨Nat.le_of_ble_eq_true rfl, Nat.le_of_ble_eq_true rfl⟩) (rh_preV hC hH [.ref x117] (rh_recv hC hH hhL hhf (q := (RX2, TX2, 8)) rfl)) rfl rfl hl.1 rfl (lv_room (Nat.le_of_ble_eq_true rfl)) dX0_above_58 ⟨Nat.le_of_ble_eq_true rfl, Nat.le_of_ble_eq_true rfl⟩) (fun L118 f118 H locs hp118 hH => ?_)
      obtain ⟨ee', hn1, hs3, hf3, he3⟩ := hp118
      obtain ⟨hhs3, hF3⟩ := hhs2.step hs3 hZ2 (rhR_lt r) hn1 hf3 he3
      rw [va_up_id] at hhs3
      have hK3 : ∀ (a : Nat) (y : va_E), a ∈ L → a ≠ d → f a = y → rhOut D y → f118 a = y := fun a y ha h9 hy ho => (hf3 a (hs2 a ha) (fun z => ft_not (hhs2.1 _ (rhR_lt r)) (((hf2 a ha).trans (hfr113 a h9)).trans hy) ho z)).trans (((hf2 a ha).trans (hfr113 a h9)).trans hy)
      have hd3 : f118 d = eDesk fi fa (nI (pu + 1)) := (hf3 d (hs2 d hdL) (fun z => ft_not (hhs2.1 _ (rhR_lt r)) ((hf2 d hdL).trans hx116) (ro_obj (by decide) (by decide)) z)).trans ((hf2 d hdL).trans hx116)
      refine lv_iconst (v := 1) hx hb dX0_above_61 (by decide) ?_
      exact rh_zret hx hb hr (by decide) hlocks hC hH (Nat.le_of_ble_eq_true rfl) (Nat.le_of_ble_eq_true rfl) (Or.inl ⟨hok, rfl, rhFD Z d fi fa hh bb ll (va_up ee (rhR r) ee'), ⟨fi, fa, hh, bb, ll, va_up ee (rhR r) ee', G, g, ⟨hs3 _ (hs2 _ hdL), hd3⟩, ⟨hs3 _ (hs2 _ hiL), hK3 fi _ hiL (rh_ne hif hdf (by nofun)) hif (ro_file hC.dne2 hC.dne3), hG⟩, ⟨hs3 _ (hs2 _ haL), hK3 fa _ haL (rh_ne haf hdf (by nofun)) haf ro_ints, hg⟩, hhs3, ⟨by omega, fun q hq => up_len hlen hq⟩, rfl⟩, fun b hb9 => fd_sub (fun q b hq hb8 => (hF3 q b hq hb8).elim Or.inl (fun z => Or.inr (fun z2 => z (hs2 _ z2)))) hb9, fun b hb9 n9 => (hf3 b (hs2 b hb9) (fun z => n9 (Or.inr (Or.inr (Or.inr ⟨_, rhR_lt r, z⟩))))).trans ((hf2 b hb9).trans (hfr113 b (fun z => n9 (Or.inl z)))), fun b hb9 => hs3 _ (hs2 _ hb9)⟩) dX0_above_62
    · refine lv_iconst (v := 0) hx hb dX0_above_34 (by decide) ?_
      exact rh_zret hx hb hr (by decide) hlocks hC hH (Nat.le_of_ble_eq_true rfl) (Nat.le_of_ble_eq_true rfl) (Or.inr ⟨fun z => c_2 (nI_le (b := 1048575) (by have := z.2.2; omega) (by decide)), rfl, rfl, rfl⟩) dX0_above_35
end
section
/-! LongRadixHeapDesk: takeLeast, renew, make, the constructor (printed by tools/p18.py) -/
theorem rhHeap.frO {D : va_G} {Z : Nat → Nat} {L L' : List Nat} {f f' : Nat → va_E} {h ba : Nat} {la ea : Nat → Nat} {ks : List Nat} {lv : Nat} (hh : rhHeap D Z L f h ba la ea ks lv) (hs : ∀ b ∈ L, b ∈ L') (hZ : Z 1 ∉ L) {o : Nat} {y : va_E} (ho : f o = y) (hy : rhOut D y) (hl : ∀ k : Nat, y ≠ eLong k) (hk : ∀ b ∈ L, b ≠ o → f' b = f b) : rhHeap D Z L' f' h ba la ea ks lv :=
  hh.fr hs hZ (fun b hb hF => hk b hb (fun z => ft_not hh ho hy (by rw [← z]; exact hF))) (fun b hb k e => hk b hb (fun z => hl k (ho.symm.trans ((congrArg f z).symm.trans e))))
theorem ft_new {Z : Nat → Nat} {L : List Nat} {h ba b : Nat} {la : Nat → Nat} (h1 : h ∉ L) (h2 : ba ∉ L) (h3 : ∀ i : Nat, i < 22 → la i ∉ L) (hb : rhFT Z h ba la (fun _ => Z 1) b) : b ∉ L := by
  rcases hb with hb | hb | ⟨i, hi, hb⟩ | ⟨i, hi, hb, hz⟩
  · rw [hb]; exact h1
  · rw [hb]; exact h2
  · rw [hb]; exact h3 i hi
  · exact absurd hb hz
theorem va_up_const {α : Type} (v : α) (k : Nat) : va_up (fun _ => v) k v = fun _ => v := by
  funext j
  by_cases h : j = k
  · subst h; exact va_up_self _ _ _
  · exact va_up_ne _ _ h
theorem up_at {G : Nat → Option Nat} {hh : Nat → Nat} {n r0 q : Nat} (h : ∀ r : Nat, r < n → r ≠ r0 → G r = some (hh r)) : ∀ r : Nat, r < n → va_up G r0 (some q) r = some (va_up hh r0 q r) := by
  intro r hr
  by_cases z : r = r0
  · subst z; rw [va_up_self, va_up_self]
  · rw [va_up_ne _ _ z, va_up_ne _ _ z]; exact h r hr z
theorem upi_at {g : Nat → Int32} {fl : Nat → Nat} {n r0 k : Nat} (h : ∀ r : Nat, r < n → g r = nI (fl r)) : ∀ r : Nat, r < n → upd g r0 (nI k) r = nI (va_up fl r0 k r) := by
  intro r hr
  by_cases z : r = r0
  · subst z; rw [pk_us, va_up_self]
  · rw [pk_un z, va_up_ne _ _ z]; exact h r hr
theorem dn_len {K : Nat → List Nat} {pu r q : Nat} {xs : List Nat} (h : ∀ r : Nat, r < 4 → (K r).length ≤ pu) (hx : xs.length ≤ pu) (hq : q < 4) : (va_up K r xs q).length ≤ pu := by
  by_cases z : q = r
  · subst z; rw [va_up_self]; exact hx
  · rw [va_up_ne _ _ z]; exact h q hq
theorem file_ints {D : va_G} {f : Nat → va_E} {a n : Nat} {n2 : Nat} {cA : ClassId} {G : Nat → Option Nat} {g : Nat → Int32} (h1 : f a = eRefs cA n G) (h2 : f a = eInts D n2 g) : False := by
  have h := (Prod.mk.inj (Prod.mk.inj (Sum.inl.inj (h1.symm.trans h2))).2).2
  cases h
set_option maxHeartbeats 4000000 in
set_option maxRecDepth 100000 in
theorem met_dTake (l : Launch) (D : va_G) (Z : Nat → Nat) (L : List Nat) (f : Nat → va_E) (d : Nat) (K : Nat → List Nat) (fl : Nat → Nat) (pu : Nat) (FD : Nat → Prop) (hd : rhDesk D Z L f d K fl pu FD) (r : Int32) : Met l yX0_takeLeast (ws_ yX0_takeLeast cX0_takeLeast 4 (some .int)) ({ frames := 8, cells := 70, slots := 6200, locals := 250 }) (rhPc D Z L f [.ref d, .int r]) (rhQi D Z (fun r' L' f' => (K (rhR r) = [] ∧ (-1 : Int32) = r' ∧ L = L' ∧ f = f') ∨ (∃ k : Nat, k ∈ K (rhR r) ∧ (∀ j ∈ K (rhR r), k ≤ j) ∧ k < 2 ^ 20 ∧ nI k = r' ∧ ∃ FD' : Nat → Prop, rhDesk D Z L' f' d (va_up K (rhR r) ((K (rhR r)).erase k)) (va_up fl (rhR r) k) pu FD' ∧ (∀ b : Nat, FD' b → FD b ∨ b ∉ L) ∧ (∀ b ∈ L, ¬ FD b → f' b = f b) ∧ (∀ b ∈ L, b ∈ L')))) 70 6200 (rhA Z) := by
  refine rh_ofW (by decide +kernel) (Nat.le_of_ble_eq_true rfl) ?_
  intro p e s m args below meth c hx hb hr hlocks hml hown hin hts hC hH ls hl
  have hown : s.vm.findClass RX0 = some m.cls := hown
  have hl : lv_has ls 4 [(0, .ref d), (1, .int r)] := hl
  obtain ⟨fi, fa, hh, bb, ll, ee, G, g, ⟨hdL, hdf⟩, ⟨hiL, hif, hG⟩, ⟨haL, haf, hg⟩, hhs, ⟨hpu, hlen⟩, rfl⟩ := hd
  have hZ := rh_Z1 hC hH
  refine lv_aload_n hx hb dX0_takeLeast_0 rfl (lv_at hl 0 rfl) ?_
  refine rh_get (ci := 0) (C := RX0) (T := TX0) (N := 3) hx hb hts in_X0 hown hC hH hdL hdf rfl 0 (by decide) (hts _ q220) (fun _ h9 => h9) rfl dX0_takeLeast_1 ?_
  refine lv_iload_n hx hb dX0_takeLeast_4 rfl (lv_at hl 1 rfl) ?_
  refine lv_iconst (v := 3) hx hb dX0_takeLeast_5 (by decide) ?_
  refine lv_iand hx hb dX0_takeLeast_6 ?_
  rw [and_3]
  refine rh_aald (t0 := 2) hx hb hC hH hiL hif rfl (vp_in_nI (rhR_lt r) (by decide)) dX0_takeLeast_7 ?_
  rw [nI_clamp (show rhR r < 2 ^ 31 by have := rhR_lt r; omega), rf_some (hG _ (rhR_lt r))]
  obtain ⟨hhL, hfs, hhf⟩ := heap_obj (hhs.1 _ (rhR_lt r))
  have hl64 : (K (rhR r)).length ≤ 64 := by have := hlen _ (rhR_lt r); omega
  refine lv_astore_n (lv' := [(2, .ref (hh (rhR r))), (0, .ref d), (1, .int r)]) hx hb dX0_takeLeast_8 rfl hl (by decide) rfl (fun ls hl => ?_)
  refine lv_aload_n hx hb dX0_takeLeast_9 rfl (lv_at hl 0 rfl) ?_
  refine rh_ki hC hH (va_runU (As := []) (rest := []) ⟨hx, hb, hml, hown, hts⟩ (met_hIsEmpty l D Z L f (hh (rhR r)) _ _ _ _ _ (hhs.1 _ (rhR_lt r)) (by omega)) (va_cwU (owner := "AbstractRadixHeap") (C := "LongRadixHeap") 0 hts (lw_U q368 q369 q371 q372 q9 q373) rfl rfl rfl rfl (by decide +kernel) ⟨Nat.le_of_ble_eq_true rfl, Nat.le_of_ble_eq_true rfl⟩) (rh_preV hC hH [] (rh_recv hC hH hhL hhf (q := (RX2, TX2, 8)) rfl)) rfl rfl hl.1 rfl (lv_room (Nat.le_of_ble_eq_true rfl)) dX0_takeLeast_10 ⟨Nat.le_of_ble_eq_true rfl, Nat.le_of_ble_eq_true rfl⟩) (fun r101 L101 f101 H locs hp101 hH => ?_)
  obtain ⟨rfl, rfl, rfl⟩ := hp101
  by_cases hz : (K (rhR r)).length = 0
  · rw [if_pos hz]
    refine lv_if_eq (tgt := 18) hx hb dX0_takeLeast_13 (by decide) (fun z => absurd z (by decide)) (fun _ => ?_)
    refine lv_iconst (v := -1) hx hb dX0_takeLeast_16 (by decide) ?_
    exact rh_iret hx hb hr hlocks hC hH (Nat.le_of_ble_eq_true rfl) (Nat.le_of_ble_eq_true rfl) (Or.inl ⟨List.length_eq_zero_iff.mp hz, rfl, rfl, rfl⟩) dX0_takeLeast_17
  · rw [if_neg hz]
    refine lv_if_eq (tgt := 18) hx hb dX0_takeLeast_13 (by decide) (fun _ => ?_) (fun z => absurd rfl z)
    refine lv_aload_n hx hb dX0_takeLeast_18 rfl (lv_at hl 0 rfl) ?_
    refine rh_kr hC hH (va_runU (As := []) (rest := []) ⟨hx, hb, hml, hown, hts⟩ (met_deleteMin l D Z L f (hh (rhR r)) _ _ _ _ _ (hhs.1 _ (rhR_lt r)) hl64 hz) (va_cwU (owner := "AbstractRadixHeap") (C := "LongRadixHeap") 0 hts (lw_U q407 q408 q410 q411 q9 q412) rfl rfl rfl rfl (by decide +kernel) ⟨Nat.le_of_ble_eq_true rfl, Nat.le_of_ble_eq_true rfl⟩) (rh_preV hC hH [] (rh_recv hC hH hhL hhf (q := (RX2, TX2, 8)) rfl)) rfl rfl hl.1 rfl (lv_room (Nat.le_of_ble_eq_true rfl)) dX0_takeLeast_19 ⟨Nat.le_of_ble_eq_true rfl, Nat.le_of_ble_eq_true rfl⟩) (fun x102 L102 f102 H locs hp102 hH => ?_)
    obtain ⟨k0, ee', hlx, g2, g3, g4, hn1, hs3, hf3, he3⟩ := hp102
    obtain ⟨hhs3, hF3⟩ := hhs.step hs3 hZ (rhR_lt r) hn1 hf3 he3
    have hK3 : ∀ (a : Nat) (y : va_E), a ∈ L → f a = y → rhOut D y → f102 a = y := fun a y ha hy ho => (hf3 a ha (ft_not (hhs.1 _ (rhR_lt r)) hy ho)).trans hy
    refine va_castS hx hb hown (hts _ q401) (hC.at (c := 3) rfl) (rh_lgRecv hC hH hlx) dX0_takeLeast_22 ?_
    refine rh_kl hC hH (va_runV (As := []) (rest := []) ⟨hx, hb, hml, hown, hts⟩ (met_longValue l D Z L102 f102 x102 k0 hlx) (cwV 0 hts (lw_V q402 q261 q262 q16 q263) rfl rfl rfl (by decide +kernel) ⟨Nat.le_of_ble_eq_true rfl, Nat.le_of_ble_eq_true rfl⟩) (rh_preV hC hH [] (rh_lgRecv hC hH hlx)) rfl rfl hl.1 rfl (lv_room (Nat.le_of_ble_eq_true rfl)) dX0_takeLeast_25 ⟨Nat.le_of_ble_eq_true rfl, Nat.le_of_ble_eq_true rfl⟩) (fun r103 L103 f103 H locs hp103 hH => ?_)
    obtain ⟨rfl, rfl, rfl⟩ := hp103
    refine lv_l2i hx hb dX0_takeLeast_28 rfl ?_
    rw [lN_i]
    have hd3 := hK3 d _ hdL hdf (ro_obj (by decide) (by decide))
    have hi3 := hK3 fi _ hiL hif (ro_file hC.dne2 hC.dne3)
    have ha3 := hK3 fa _ haL haf ro_ints
    have hdL3 := hs3 d hdL
    have hiL3 := hs3 fi hiL
    have haL3 := hs3 fa haL
    have hZ3 := rh_Z1 hC hH
    refine lv_istore_n (lv' := [(3, .int (nI k0)), (2, .ref (hh (rhR r))), (0, .ref d), (1, .int r)]) hx hb dX0_takeLeast_29 rfl hl (by decide) rfl (fun ls hl => ?_)
    refine lv_aload_n hx hb dX0_takeLeast_30 rfl (lv_at hl 2 rfl) ?_
    refine rh_get (ci := 0) (C := RX0) (T := TX0) (N := 3) hx hb hts in_X0 hown hC hH hdL3 hd3 rfl 1 (by decide) (hts _ q221) (fun _ h9 => h9) rfl dX0_takeLeast_31 ?_
    refine lv_iload_n hx hb dX0_takeLeast_34 rfl (lv_at hl 3 rfl) ?_
    refine lv_iconst (v := 3) hx hb dX0_takeLeast_35 (by decide) ?_
    refine lv_iand hx hb dX0_takeLeast_36 ?_
    rw [and_3]
    refine lv_iload_n hx hb dX0_takeLeast_37 rfl (lv_at hl 0 rfl) ?_
    refine rh_iast hx hb hC hH haL3 ha3 (vp_in_nI (rhR_lt r) (by decide)) dX0_takeLeast_38 (fun f104 H locs hu104 hfr104 hH => ?_)
    rw [nI_clamp (show rhR r < 2 ^ 31 by have := rhR_lt r; omega)] at hu104
    have hhs4 := hhs3.fr (fun _ h9 => h9) hZ3 ha3 ro_ints (by nofun) (fun b _ h9 => hfr104 b h9)
    refine lv_iload_n hx hb dX0_takeLeast_39 rfl (lv_at hl 0 rfl) ?_
    exact rh_iret hx hb hr hlocks hC hH (Nat.le_of_ble_eq_true rfl) (Nat.le_of_ble_eq_true rfl) (Or.inr ⟨k0, g2, g3, g4, rfl, rhFD Z d fi fa hh bb ll (va_up ee (rhR r) ee'), ⟨fi, fa, hh, bb, ll, va_up ee (rhR r) ee', G, _, ⟨hdL3, (hfr104 d (rh_ne hd3 ha3 (by nofun))).trans hd3⟩, ⟨hiL3, (hfr104 fi (fun z => by rw [z] at hi3; exact file_ints hi3 ha3)).trans hi3, hG⟩, ⟨haL3, hu104, upi_at hg⟩, hhs4, ⟨hpu, fun q hq => dn_len hlen (Nat.le_trans List.length_erase_le (hlen _ (rhR_lt r))) hq⟩, rfl⟩, fun b hb9 => fd_sub hF3 hb9, fun b hb9 n9 => (hfr104 b (fun z => n9 (Or.inr (Or.inr (Or.inl z))))).trans (hf3 b hb9 (fun z => n9 (Or.inr (Or.inr (Or.inr ⟨_, rhR_lt r, z⟩))))), hs3⟩) dX0_takeLeast_40

theorem fd_swap {Z : Nat → Nat} {L : List Nat} {d fi fa b r0 h0 b0 : Nat} {hh bb l0 : Nat → Nat} {ll ee : Nat → Nat → Nat} (h : ∀ b : Nat, rhFT Z h0 b0 l0 (fun _ => Z 1) b → b ∉ L) (hb : rhFD Z d fi fa (va_up hh r0 h0) (va_up bb r0 b0) (va_up ll r0 l0) (va_up ee r0 (fun _ => Z 1)) b) : rhFD Z d fi fa hh bb ll ee b ∨ b ∉ L := by
  rcases hb with hb | hb | hb | ⟨r, hr, hb⟩
  · exact Or.inl (Or.inl hb)
  · exact Or.inl (Or.inr (Or.inl hb))
  · exact Or.inl (Or.inr (Or.inr (Or.inl hb)))
  · by_cases z : r = r0
    · subst z
      rw [va_up_self, va_up_self, va_up_self, va_up_self] at hb
      exact Or.inr (h b hb)
    · rw [va_up_ne _ _ z, va_up_ne _ _ z, va_up_ne _ _ z, va_up_ne _ _ z] at hb
      exact Or.inl (Or.inr (Or.inr (Or.inr ⟨r, hr, hb⟩)))
set_option maxHeartbeats 4000000 in
set_option maxRecDepth 100000 in
theorem met_dRenew (l : Launch) (D : va_G) (Z : Nat → Nat) (L : List Nat) (f : Nat → va_E) (d : Nat) (K : Nat → List Nat) (fl : Nat → Nat) (pu : Nat) (FD : Nat → Prop) (hd : rhDesk D Z L f d K fl pu FD) (r : Int32) : Met l yX0_renew (ws_ yX0_renew cX0_renew 2 (none)) ({ frames := 6, cells := 27, slots := 99, locals := 160 }) (rhPc D Z L f [.ref d, .int r]) (rhQv D Z (fun L' f' => ∃ FD' : Nat → Prop, rhDesk D Z L' f' d (va_up K (rhR r) []) (va_up fl (rhR r) 0) pu FD' ∧ (∀ b : Nat, FD' b → FD b ∨ b ∉ L) ∧ (∀ b ∈ L, ¬ FD b → f' b = f b) ∧ (∀ b ∈ L, b ∈ L'))) 27 99 (rhA Z) := by
  refine rh_ofW (by decide +kernel) (Nat.le_of_ble_eq_true rfl) ?_
  intro p e s m args below meth c hx hb hr hlocks hml hown hin hts hC hH ls hl
  have hown : s.vm.findClass RX0 = some m.cls := hown
  have hl : lv_has ls 2 [(0, .ref d), (1, .int r)] := hl
  obtain ⟨fi, fa, hh, bb, ll, ee, G, g, ⟨hdL, hdf⟩, ⟨hiL, hif, hG⟩, ⟨haL, haf, hg⟩, hhs, ⟨hpu, hlen⟩, rfl⟩ := hd
  have hZ := rh_Z1 hC hH
  refine lv_aload_n hx hb dX0_renew_0 rfl (lv_at hl 0 rfl) ?_
  refine rh_get (ci := 0) (C := RX0) (T := TX0) (N := 3) hx hb hts in_X0 hown hC hH hdL hdf rfl 0 (by decide) (hts _ q220) (fun _ h9 => h9) rfl dX0_renew_1 ?_
  refine lv_iload_n hx hb dX0_renew_4 rfl (lv_at hl 1 rfl) ?_
  refine lv_iconst (v := 3) hx hb dX0_renew_5 (by decide) ?_
  refine lv_iand hx hb dX0_renew_6 ?_
  rw [and_3]
  refine rh_kr hC hH (va_runS (As := []) (rest := [.int (nI (rhR r)), .ref fi]) ⟨hx, hb, hml, hown, hts⟩ (met_fresh l D Z L f) (va_cwS 0 hts (lw_S q45 q46 q8 q47) rfl rfl rfl (by decide +kernel) ⟨Nat.le_of_ble_eq_true rfl, Nat.le_of_ble_eq_true rfl⟩) (rh_preS hC hH []) rfl rfl hl.1 rfl (lv_room (Nat.le_of_ble_eq_true rfl)) dX0_renew_7 ⟨Nat.le_of_ble_eq_true rfl, Nat.le_of_ble_eq_true rfl⟩) (fun q105 L105 f105 H locs hp105 hH => ?_)
  obtain ⟨hq, ba, la, hn, hs1, hf1, hba, hla⟩ := hp105
  have hi1 := (hf1 fi hiL).trans hif
  have ha1 := (hf1 fa haL).trans haf
  have hd1 := (hf1 d hdL).trans hdf
  have hZ1 := rh_Z1 hC hH
  have hhs1 := hhs.frA hs1 hZ hf1
  obtain ⟨hqL, qfs, hqf⟩ := heap_obj hn
  refine rh_aast (t0 := 2) hx hb hC hH (hs1 _ hiL) hi1 rfl (rh_anyH hC hH hqL hqf) (vp_in_nI (rhR_lt r) (by decide)) dX0_renew_10 (fun f106 H locs hu106 hfr106 hH => ?_)
  rw [nI_clamp (show rhR r < 2 ^ 31 by have := rhR_lt r; omega)] at hu106
  have hfia : fa ≠ fi := fun z => by rw [z] at ha1; exact file_ints hi1 ha1
  have ha2 := (hfr106 fa hfia).trans ha1
  have hd2 := (hfr106 d (rh_ne hd1 hi1 (by nofun))).trans hd1
  have hhs2 := hhs1.fr (fun _ h9 => h9) hZ1 hi1 (ro_file hC.dne2 hC.dne3) (by nofun) (fun b _ h9 => hfr106 b h9)
  have hn2 := hn.frO (fun _ h9 => h9) hZ1 hi1 (ro_file hC.dne2 hC.dne3) (by nofun) (fun b _ h9 => hfr106 b h9)
  have hdL1 := hs1 d hdL
  refine lv_aload_n hx hb dX0_renew_11 rfl (lv_at hl 0 rfl) ?_
  refine rh_get (ci := 0) (C := RX0) (T := TX0) (N := 3) hx hb hts in_X0 hown hC hH hdL1 hd2 rfl 1 (by decide) (hts _ q221) (fun _ h9 => h9) rfl dX0_renew_12 ?_
  refine lv_iload_n hx hb dX0_renew_15 rfl (lv_at hl 1 rfl) ?_
  refine lv_iconst (v := 3) hx hb dX0_renew_16 (by decide) ?_
  refine lv_iand hx hb dX0_renew_17 ?_
  rw [and_3]
  refine lv_iconst (v := 0) hx hb dX0_renew_18 (by decide) ?_
  refine rh_iast hx hb hC hH (hs1 _ haL) ha2 (vp_in_nI (rhR_lt r) (by decide)) dX0_renew_19 (fun f107 H locs hu107 hfr107 hH => ?_)
  rw [nI_clamp (show rhR r < 2 ^ 31 by have := rhR_lt r; omega)] at hu107
  have hhs3 := hhs2.fr (fun _ h9 => h9) hZ1 ha2 ro_ints (by nofun) (fun b _ h9 => hfr107 b h9)
  have hn3 := hn2.frO (fun _ h9 => h9) hZ1 ha2 ro_ints (by nofun) (fun b _ h9 => hfr107 b h9)
  have hhs4 := rhHeaps.swap (N := 4) (fun r1 hr1 r2 hr2 => hhs.2 r1 r2 hr1 hr2) (r0 := rhR r) (fun r1 hr1 _ b hb9 => ft_in (hhs.1 r1 hr1) hb9) (fun r1 hr1 _ => hhs3.1 r1 hr1) hn3 (fun b hb9 => ft_new hq hba hla hb9) (Or.inl (Nat.le_refl _))
  exact rh_vret hx hb hr hlocks hC hH (Nat.le_of_ble_eq_true rfl) (Nat.le_of_ble_eq_true rfl) (⟨rhFD Z d fi fa (va_up hh (rhR r) q105) (va_up bb (rhR r) ba) (va_up ll (rhR r) la) (va_up ee (rhR r) (fun _ => Z 1)), ⟨fi, fa, _, _, _, _, _, _, ⟨hdL1, (hfr107 d (rh_ne hd2 ha2 (by nofun))).trans hd2⟩, ⟨hs1 _ hiL, (hfr107 fi (fun z => hfia z.symm)).trans hu106, up_at (fun q hq _ => hG q hq)⟩, ⟨hs1 _ haL, hu107, upi_at (k := 0) hg⟩, hhs4, ⟨hpu, fun q hq => dn_len hlen (Nat.zero_le _) hq⟩, rfl⟩, fun b hb9 => fd_swap (fun b h9 => ft_new hq hba hla h9) hb9, fun b hb9 n9 => (hfr107 b (fun z => n9 (Or.inr (Or.inr (Or.inl z))))).trans ((hfr106 b (fun z => n9 (Or.inr (Or.inl z)))).trans (hf1 b hb9)), hs1⟩) dX0_renew_20

set_option maxHeartbeats 4000000 in
set_option maxRecDepth 100000 in
theorem make_loop {p : Program} {l : Launch} {e : Env} {s : State} {m : MethodId} {args : Array Value} {below : List Frame} {meth : Method} {c : Code} {D : va_G} {Z : Nat → Nat} {L : List Nat} {f : Nat → va_E} (hx : p.tables.exec = Jvm.exec) (hb : c.code = cX0_make) (hr : meth.sig.returnType = some (.array (.object "LongRadixHeap"))) (hlocks : meth.locks = false) (hml : c.maxLocals = 2) (hown : s.vm.findClass RX0 = some m.cls) (hts : ∀ w ∈ lw_all, w.before args s = true) (hC : rhCx D Z s) :
    ∀ (d i : Nat), i ≤ 4 → 4 + 1 ≤ i + d → ∀ (L1 : List Nat) (f1 : Nat → va_E) (hh bb : Nat → Nat) (ll : Nat → Nat → Nat) (G : Nat → Option Nat) (a : Nat) (H : Heap) (locs : List Loc), a ∈ L1 → a ∉ L → f1 a = eRefs (D.1 102) 4 G → (∀ k : Nat, k < i → G k = some (hh k)) → rhHeaps D Z L1 f1 i hh bb ll (fun _ _ => Z 1) (fun _ => []) (fun _ => 0) → (∀ k : Nat, k < i → ∀ b : Nat, rhFT Z (hh k) (bb k) (ll k) (fun _ => Z 1) b → b ∉ L) → (∀ b ∈ L, b ∈ L1) → (∀ b ∈ L, f1 b = f b) → rhHp D Z L1 f1 s H locs → ∀ (ls : Array Slot), lv_has ls 2 [(0, .ref a), (1, .int (nI i))] → W p l e ({ frames := 6, cells := 110, slots := 410, locals := 160 } : Room) s m args below meth c H locs (1 + 27 * i) (4 + 99 * i) (MQ below (rhQr D Z (fun r L' f' => r ∉ L ∧ r ∈ L' ∧ ∃ (hh bb : Nat → Nat) (ll : Nat → Nat → Nat) (G : Nat → Option Nat), f' r = eRefs (D.1 102) 4 G ∧ (∀ k : Nat, k < 4 → G k = some (hh k)) ∧ rhHeaps D Z L' f' 4 hh bb ll (fun _ _ => Z 1) (fun _ => []) (fun _ => 0) ∧ (∀ k : Nat, k < 4 → ∀ b : Nat, rhFT Z (hh k) (bb k) (ll k) (fun _ => Z 1) b → b ∉ L) ∧ (∀ b ∈ L, b ∈ L') ∧ (∀ b ∈ L, f' b = f b))) args s 110 410 (rhA Z)) (F0 m 7 ls []) := by
  intro d
  induction d with
  | zero => intro i h1 h2; omega
  | succ d ih =>
    intro i hi hid L1 f1 hh bb ll G a H locs ha1 haL haf hG hhs hft hsub hfr hH ls hl
    refine lv_iload_n hx hb dX0_make_7 rfl (lv_at hl 1 rfl) ?_
    refine lv_iconst (v := 4) hx hb dX0_make_8 (by decide) ?_
    refine lv_icmp_ge (tgt := 24) hx hb dX0_make_9 (by decide) (fun c_1 => ?_) (fun c_1 => ?_)
    · have hi4 : i = 4 := by
        rcases Nat.lt_or_ge i 4 with q | q
        · exact absurd c_1 (nI_ge (b := 4) q (by decide))
        · omega
      subst hi4
      refine lv_aload_n hx hb dX0_make_24 rfl (lv_at hl 0 rfl) ?_
      exact rh_aret hx hb hr (Or.inr ⟨_, rfl⟩) hlocks hC hH (Nat.le_of_ble_eq_true rfl) (Nat.le_of_ble_eq_true rfl) (⟨haL, ha1, hh, bb, ll, G, haf, hG, hhs, hft, hsub, hfr⟩) dX0_make_25
    · have hlt : i < 4 := by
        rcases Nat.lt_or_ge i 4 with q | q
        · exact q
        · exact absurd (nI_le (a := 4) q (by omega)) c_1
      refine lv_aload_n hx hb dX0_make_12 rfl (lv_at hl 0 rfl) ?_
      refine lv_iload_n hx hb dX0_make_13 rfl (lv_at hl 1 rfl) ?_
      have hZ1 := rh_Z1 hC hH
      refine rh_kr hC hH (va_runS (As := []) (rest := [.int (nI i), .ref a]) ⟨hx, hb, hml, hown, hts⟩ (met_fresh l D Z L1 f1) (va_cwS 0 hts (lw_S q45 q46 q8 q47) rfl rfl rfl (by decide +kernel) ⟨Nat.le_of_ble_eq_true rfl, Nat.le_of_ble_eq_true rfl⟩) (rh_preS hC hH []) rfl rfl hl.1 rfl (lv_room (Nat.le_of_ble_eq_true rfl)) dX0_make_14 ⟨show 1 + 27 * i + 27 ≤ 110 by omega, show 4 + 99 * i + 99 ≤ 410 by omega⟩) (fun q108 L108 f108 H locs hp108 hH => ?_)
      obtain ⟨hq, ba, la, hn, hs2, hf2, hba, hla⟩ := hp108
      obtain ⟨hqL, qfs, hqf⟩ := heap_obj hn
      have haf2 := (hf2 a ha1).trans haf
      have hZ2 := rh_Z1 hC hH
      refine rh_aast (t0 := 2) hx hb hC hH (hs2 _ ha1) haf2 rfl (rh_anyH hC hH hqL hqf) (vp_in_nI hlt (by decide)) dX0_make_17 (fun f109 H locs hu109 hfr109 hH => ?_)
      rw [nI_clamp (show i < 2 ^ 31 by omega)] at hu109
      refine lv_iinc (v := nI (i + 1)) (lv' := [(1, .int (nI (i + 1))), (0, .ref a)]) hx hb dX0_make_18 hl (k := 1) rfl (nI_1 i) (by decide) rfl (fun ls hl => ?_)
      refine lv_goto (tgt := 7) hx hb dX0_make_21 (by decide) ?_
      have ro := ro_file (D := D) (n := 4) (G := G) hC.dne2 hC.dne3
      have hhs2 := (hhs.frA hs2 hZ1 hf2).fr (fun _ h9 => h9) hZ2 haf2 ro (by nofun) (fun b _ h9 => hfr109 b h9)
      have hn3 := hn.frO (fun _ h9 => h9) hZ2 haf2 ro (by nofun) (fun b _ h9 => hfr109 b h9)
      have hhs3 := rhHeaps.swap (N := i + 1) (fun r1 hr1 r2 hr2 => hhs.2 r1 r2 hr1 hr2) (r0 := i) (fun r1 hr1 _ b hb9 => ft_in (hhs.1 r1 hr1) hb9) (fun r1 hr1 _ => hhs2.1 r1 hr1) hn3 (fun b hb9 => ft_new hq hba hla hb9) (Or.inr ⟨rfl, rfl⟩)
      rw [va_up_const, va_up_const, va_up_const] at hhs3
      refine W.widen (k := 1 + 27 * (i + 1)) (n := 4 + 99 * (i + 1)) (by omega) (by omega) ?_
      refine ih (i + 1) hlt (by omega) L108 f109 _ _ _ _ a H locs (hs2 _ ha1) haL hu109 (up_at (n := i + 1) (fun k hk hki => hG k (by omega))) hhs3 (fun k hk b hb9 => ?_) (fun b hb9 => hs2 _ (hsub b hb9)) (fun b hb9 => (hfr109 b (fun z => haL (by rw [← z]; exact hb9))).trans ((hf2 b (hsub b hb9)).trans (hfr b hb9))) hH ls (lv_sub hl [1, 0] rfl)
      by_cases z : k = i
      · subst z
        rw [va_up_self, va_up_self, va_up_self] at hb9
        exact fun z2 => ft_new hq hba hla hb9 (hsub _ z2)
      · rw [va_up_ne _ _ z, va_up_ne _ _ z, va_up_ne _ _ z] at hb9
        exact hft k (by omega) b hb9

set_option maxHeartbeats 4000000 in
set_option maxRecDepth 100000 in
theorem met_make (l : Launch) (D : va_G) (Z : Nat → Nat) (L : List Nat) (f : Nat → va_E)  : Met l yX0_make (ws_ yX0_make cX0_make 2 (some (.array (.object "LongRadixHeap")))) ({ frames := 6, cells := 110, slots := 410, locals := 160 }) (rhPc D Z L f []) (rhQr D Z (fun r L' f' => r ∉ L ∧ r ∈ L' ∧ ∃ (hh bb : Nat → Nat) (ll : Nat → Nat → Nat) (G : Nat → Option Nat), f' r = eRefs (D.1 102) 4 G ∧ (∀ k : Nat, k < 4 → G k = some (hh k)) ∧ rhHeaps D Z L' f' 4 hh bb ll (fun _ _ => Z 1) (fun _ => []) (fun _ => 0) ∧ (∀ k : Nat, k < 4 → ∀ b : Nat, rhFT Z (hh k) (bb k) (ll k) (fun _ => Z 1) b → b ∉ L) ∧ (∀ b ∈ L, b ∈ L') ∧ (∀ b ∈ L, f' b = f b))) 110 410 (rhA Z) := by
  refine rh_ofW (by decide +kernel) (Nat.le_of_ble_eq_true rfl) ?_
  intro p e s m args below meth c hx hb hr hlocks hml hown hin hts hC hH ls hl
  have hown : s.vm.findClass RX0 = some m.cls := hown
  have hl : lv_has ls 2 [] := hl
  refine lv_iconst (v := 4) hx hb dX0_make_0 (by decide) ?_
  refine rh_newq (t0 := 2) (N := 4) hx hb hown (hts _ q43) hC.oHeap hC hH rfl (by decide) (by decide) (by decide) (Nat.le_of_ble_eq_true rfl) (Nat.le_of_ble_eq_true rfl) dX0_make_1 (fun a f1 H hq hf1 hfr hH => ?_)
  refine lv_astore_n (lv' := [(0, .ref a)]) hx hb dX0_make_4 rfl hl (by decide) rfl (fun ls hl => ?_)
  refine lv_iconst (v := 0) hx hb dX0_make_5 (by decide) ?_
  refine lv_istore_n (lv' := [(1, .int 0), (0, .ref a)]) hx hb dX0_make_6 rfl hl (by decide) rfl (fun ls hl => ?_)
  refine W.widen (k := 1 + 27 * 0) (n := 4 + 99 * 0) (Nat.le_of_ble_eq_true rfl) (Nat.le_of_ble_eq_true rfl) ?_
  exact make_loop hx hb hr hlocks hml hown hts hC 5 0 (by decide) (by decide) (L ++ [a]) f1 (fun _ => 0) (fun _ => 0) (fun _ _ => 0) _ a H _ (rh_last L a) hq hf1 (fun k hk => absurd hk (Nat.not_lt_zero k)) ⟨fun r hr => absurd hr (Nat.not_lt_zero r), fun r r2 hr => absurd hr (Nat.not_lt_zero r)⟩ (fun k hk => absurd hk (Nat.not_lt_zero k)) (fun b hb9 => List.mem_append_left _ hb9) hfr hH ls (lv_sub hl [1, 0] rfl)

set_option maxHeartbeats 4000000 in
set_option maxRecDepth 100000 in
theorem met_Desk (l : Launch) (D : va_G) (Z : Nat → Nat) (L : List Nat) (f : Nat → va_E) (d : Nat) (hdL : d ∈ L) (hdf : f d = .inr (0, [.null, .null, .int 0])) : Met l yX0_init (ws_ yX0_init cX0_init 1 (none)) ({ frames := 7, cells := 120, slots := 420, locals := 190 }) (rhPc D Z L f [.ref d]) (rhQv D Z (fun L' f' => ∃ FD' : Nat → Prop, rhDesk D Z L' f' d (fun _ => []) (fun _ => 0) 0 FD' ∧ (∀ b : Nat, FD' b → b = d ∨ b ∉ L) ∧ (∀ b ∈ L, b ≠ d → f' b = f b) ∧ (∀ b ∈ L, b ∈ L'))) 120 420 (rhA Z) := by
  refine rh_ofW (by decide +kernel) (Nat.le_of_ble_eq_true rfl) ?_
  intro p e s m args below meth c hx hb hr hlocks hml hown hin hts hC hH ls hl
  have hown : s.vm.findClass RX0 = some m.cls := hown
  have hl : lv_has ls 1 [(0, .ref d)] := hl
  refine lv_aload_n hx hb dX0_init_0 rfl (lv_at hl 0 rfl) ?_
  refine W.objInit hx hb hown (hts _ q37) (hts _ q38) (hts _ q39) rfl (by rw [hml]; exact hl.1) rfl dX0_init_1 (Nat.le_of_ble_eq_true rfl) (Nat.le_of_ble_eq_true rfl) ?_
  refine W.eq (g2 := F0 m 4 ls []) rfl ?_
  refine lv_aload_n hx hb dX0_init_4 rfl (lv_at hl 0 rfl) ?_
  refine rh_kr hC hH (va_runS (As := []) (rest := [.ref d]) ⟨hx, hb, hml, hown, hts⟩ (met_make l D Z L f) (va_cwS 0 hts (lw_S q40 q41 q8 q42) rfl rfl rfl (by decide +kernel) ⟨Nat.le_of_ble_eq_true rfl, Nat.le_of_ble_eq_true rfl⟩) (rh_preS hC hH []) rfl rfl hl.1 rfl (lv_room (Nat.le_of_ble_eq_true rfl)) dX0_init_5 ⟨Nat.le_of_ble_eq_true rfl, Nat.le_of_ble_eq_true rfl⟩) (fun a110 L110 f110 H locs hp110 hH => ?_)
  obtain ⟨ha, ha1, hh, bb, ll, G, haf, hG, hhs, hft, hs1, hf1⟩ := hp110
  have hZ1 := rh_Z1 hC hH
  have hd1 := (hf1 d hdL).trans hdf
  have hdL1 := hs1 d hdL
  refine rh_putF (ci := 0) (v := .ref a110) (ty := .array (.object "LongRadixHeap")) (C := RX0) (T := TX0) (N := 3) hx hb hts in_X0 tyX0 tyX0_ok nmX0 hown hC hH hdL1 hd1 rfl 0 (by decide) (hts _ q220) (fun _ h9 => h9) rfl hin rfl (by decide +kernel) rfl rfl (Nat.le_of_ble_eq_true rfl) dX0_init_8 (fun f111 H locs hu111 hfr111 hH => ?_)
  have hx112 : f111 a110 = eRefs (D.1 102) 4 G := (hfr111 a110 (rh_ne haf hd1 (by nofun))).trans haf
  have hx113 : f111 d = .inr (0, [.ref a110, .null, .int 0]) := hu111
  refine lv_aload_n hx hb dX0_init_11 rfl (lv_at hl 0 rfl) ?_
  refine lv_iconst (v := 4) hx hb dX0_init_12 (by decide) ?_
  have hhs2 := hhs.fr (fun _ h9 => h9) hZ1 hd1 (ro_obj (by decide) (by decide)) (by nofun) (fun b _ h9 => hfr111 b h9)
  refine rh_newi (N := 4) hx hb (hts _ q230) hC hH (by decide) (by decide) (by decide) (Nat.le_of_ble_eq_true rfl) (Nat.le_of_ble_eq_true rfl) dX0_init_13 (fun b f3 H hq3 hf3 hfr3 hH => ?_)
  have hd3 := (hfr3 d hdL1).trans hx113
  have ha3 := (hfr3 a110 ha1).trans hx112
  have hZ2 := rh_Z1 hC hH
  have hap : ∀ x ∈ L110, x ∈ L110 ++ [b] := fun _ h9 => List.mem_append_left _ h9
  have hdL2 := hap d hdL1
  have hhs3 := hhs2.frA hap hZ1 hfr3
  refine rh_putF (ci := 0) (v := .ref b) (ty := .array .int) (C := RX0) (T := TX0) (N := 3) hx hb hts in_X0 tyX0 tyX0_ok nmX0 hown hC hH hdL2 hd3 rfl 1 (by decide) (hts _ q221) (fun _ h9 => h9) rfl hin rfl (by decide +kernel) rfl rfl (Nat.le_of_ble_eq_true rfl) dX0_init_15 (fun f114 H locs hu114 hfr114 hH => ?_)
  have hx115 : f114 a110 = eRefs (D.1 102) 4 G := (hfr114 a110 (rh_ne ha3 hd3 (by nofun))).trans ha3
  have hx116 : f114 b = eInts D 4 (fun _ => 0) := (hfr114 b (rh_ne hf3 hd3 (by nofun))).trans hf3
  have hx117 : f114 d = .inr (0, [.ref a110, .ref b, .int 0]) := hu114
  have hhs4 := hhs3.fr (fun _ h9 => h9) hZ2 hd3 (ro_obj (by decide) (by decide)) (by nofun) (fun b _ h9 => hfr114 b h9)
  refine rh_vret hx hb hr hlocks hC hH (Nat.le_of_ble_eq_true rfl) (Nat.le_of_ble_eq_true rfl) (⟨rhFD Z d a110 b hh bb ll (fun _ _ => Z 1), ⟨a110, b, hh, bb, ll, fun _ _ => Z 1, G, fun _ => 0, ⟨hdL2, hx117⟩, ⟨hap _ ha1, hx115, hG⟩, ⟨rh_last _ b, hx116, fun _ _ => rfl⟩, hhs4, ⟨Nat.zero_le _, fun _ _ => Nat.zero_le _⟩, rfl⟩, fun x hx9 => ?_, fun x hx9 n9 => (hfr114 x n9).trans ((hfr3 x (hs1 x hx9)).trans ((hfr111 x n9).trans (hf1 x hx9))), fun x hx9 => hap x (hs1 x hx9)⟩) dX0_init_18
  rcases hx9 with z | z | z | ⟨r, hr9, z⟩
  · exact Or.inl z
  · rw [z]; exact Or.inr ha
  · rw [z]; exact Or.inr (fun z2 => hq3 (hs1 _ z2))
  · exact Or.inr (hft r hr9 x z)
end
section
/-! LongRadixHeapDeskModel: the reference, in flat arrays (printed by tools/p19.py) -/
/-- the keys of the heap r among the first n -/
def spKs (kk hm : Nat → Nat) (r : Nat) : Nat → List Nat
  | 0 => []
  | n + 1 => spKs kk hm r n ++ (if hm n = r + 1 then [kk n] else [])
theorem spKs_mem {kk hm : Nat → Nat} {r k : Nat} : ∀ {n : Nat}, k ∈ spKs kk hm r n ↔ ∃ i : Nat, i < n ∧ hm i = r + 1 ∧ kk i = k
  | 0 => ⟨fun h => absurd h List.not_mem_nil, fun ⟨i, h, _⟩ => absurd h (Nat.not_lt_zero i)⟩
  | n + 1 => by
    show k ∈ spKs kk hm r n ++ (if hm n = r + 1 then [kk n] else []) ↔ _
    rw [List.mem_append, spKs_mem]
    constructor
    · rintro (⟨i, h, h2⟩ | h)
      · exact ⟨i, by omega, h2⟩
      · by_cases z : hm n = r + 1
        · rw [if_pos z] at h
          exact ⟨n, by omega, z, (List.mem_singleton.mp h).symm⟩
        · rw [if_neg z] at h
          exact absurd h List.not_mem_nil
    · rintro ⟨i, h, h2, h3⟩
      by_cases hi : i = n
      · subst hi
        rw [if_pos h2, h3]
        exact Or.inr (List.mem_singleton.mpr rfl)
      · exact Or.inl ⟨i, by omega, h2, h3⟩
theorem spKs_congr {kk hm kk' hm' : Nat → Nat} {r : Nat} : ∀ {n : Nat}, (∀ i : Nat, i < n → kk' i = kk i ∧ (hm' i = r + 1 ↔ hm i = r + 1)) → spKs kk' hm' r n = spKs kk hm r n
  | 0, _ => rfl
  | n + 1, h => by
    show spKs kk' hm' r n ++ (if hm' n = r + 1 then [kk' n] else []) = spKs kk hm r n ++ (if hm n = r + 1 then [kk n] else [])
    rw [spKs_congr (fun i hi => h i (by omega)), (h n (by omega)).1]
    by_cases z : hm n = r + 1
    · rw [if_pos z, if_pos ((h n (by omega)).2.mpr z)]
    · rw [if_neg z, if_neg (fun z2 => z ((h n (by omega)).2.mp z2))]
theorem spKs_lay {kk hm : Nat → Nat} {r h k n : Nat} : spKs (va_up kk n k) (va_up hm n (h + 1)) r (n + 1) = spKs kk hm r n ++ (if r = h then [k] else []) := by
  show spKs (va_up kk n k) (va_up hm n (h + 1)) r n ++ (if va_up hm n (h + 1) n = r + 1 then [va_up kk n k n] else []) = _
  rw [va_up_self, va_up_self, spKs_congr (kk := kk) (hm := hm) (fun i hi => by rw [va_up_ne _ _ (show i ≠ n by omega), va_up_ne _ _ (show i ≠ n by omega)]; exact ⟨rfl, Iff.rfl⟩)]
  by_cases z : r = h
  · rw [if_pos z, if_pos (by omega)]
  · rw [if_neg z, if_neg (by omega)]
theorem spKs_take {kk hm : Nat → Nat} {h b : Nat} (hb : hm b = h + 1) : ∀ {n : Nat}, b < n → (spKs kk hm h n).Perm (kk b :: spKs kk (va_up hm b 0) h n)
  | 0, hn => absurd hn (Nat.not_lt_zero b)
  | n + 1, hn => by
    show (spKs kk hm h n ++ (if hm n = h + 1 then [kk n] else [])).Perm (kk b :: (spKs kk (va_up hm b 0) h n ++ (if va_up hm b 0 n = h + 1 then [kk n] else [])))
    by_cases hbn : b = n
    · subst hbn
      rw [if_pos hb, va_up_self, if_neg (by omega), List.append_nil, spKs_congr (kk' := kk) (hm' := va_up hm b 0) (kk := kk) (hm := hm) (fun i hi => by rw [va_up_ne _ _ (show i ≠ b by omega)]; exact ⟨rfl, Iff.rfl⟩)]
      exact List.perm_append_comm
    · rw [va_up_ne _ _ (show n ≠ b from fun z => hbn z.symm), ← List.cons_append]
      exact (spKs_take hb (by omega)).append_right _
theorem spKs_len {kk hm : Nat → Nat} {r : Nat} : ∀ {n : Nat}, (spKs kk hm r n).length ≤ n
  | 0 => Nat.le_refl _
  | n + 1 => by
    show (spKs kk hm r n ++ (if hm n = r + 1 then [kk n] else [])).length ≤ n + 1
    rw [List.length_append]
    have := spKs_len (kk := kk) (hm := hm) (r := r) (n := n)
    by_cases z : hm n = r + 1
    · rw [if_pos z]; show _ + 1 ≤ _; omega
    · rw [if_neg z]; show _ + 0 ≤ _; omega
theorem spKs_nil {kk hm : Nat → Nat} {r n : Nat} (h : ∀ i : Nat, i < n → hm i ≠ r + 1) : spKs kk hm r n = [] := by
  cases hq : spKs kk hm r n with
  | nil => rfl
  | cons x t =>
    obtain ⟨i, h1, h2, -⟩ := spKs_mem.mp (show x ∈ spKs kk hm r n by rw [hq]; exact List.mem_cons_self)
    exact absurd h2 (h i h1)
/-- first's answer -/
def spFirst (kk hm : Nat → Nat) (n h : Nat) (r : Int32) : Prop := (r = -1 ∧ ∀ j : Nat, j < n → hm j ≠ h + 1) ∨ ∃ b : Nat, b < n ∧ r = nI b ∧ hm b = h + 1 ∧ ∀ j : Nat, j < n → hm j = h + 1 → kk b ≤ kk j
/-- the reference: the keys kk, their homes hm, the floors fl, the count pu; FM: its cells -/
def rhModel (D : va_G) (L : List Nat) (f : Nat → va_E) (mo : Nat) (kk hm fl : Nat → Nat) (pu : Nat) (FM : Nat → Prop) : Prop := ∃ (ka ha ta : Nat) (gk gh gt : Nat → Int32),
  (mo ∈ L ∧ f mo = eModel ka ha ta (nI pu)) ∧ (ka ∈ L ∧ f ka = eInts D 64 gk) ∧ (ha ∈ L ∧ f ha = eInts D 64 gh) ∧ (ta ∈ L ∧ f ta = eInts D 4 gt) ∧ (ka ≠ ha ∧ ka ≠ ta ∧ ha ≠ ta) ∧ (∀ i : Nat, i < pu → gk i = nI (kk i) ∧ gh i = nI (hm i) ∧ kk i < 2 ^ 20 ∧ hm i ≤ 4) ∧ (∀ r : Nat, r < 4 → gt r = nI (fl r) ∧ fl r < 2 ^ 20) ∧ pu ≤ 64 ∧ FM = fun b => b = mo ∨ b = ka ∨ b = ha ∨ b = ta
theorem rhModel.fr {D : va_G} {L L' : List Nat} {f f' : Nat → va_E} {mo : Nat} {kk hm fl : Nat → Nat} {pu : Nat} {FM : Nat → Prop} (h : rhModel D L f mo kk hm fl pu FM) (hs : ∀ b ∈ L, b ∈ L') (hk : ∀ b ∈ L, FM b → f' b = f b) : rhModel D L' f' mo kk hm fl pu FM := by
  obtain ⟨ka, ha, ta, gk, gh, gt, ⟨a1, a2⟩, ⟨b1, b2⟩, ⟨c1, c2⟩, ⟨d1, d2⟩, h5, h6, h7, h8, rfl⟩ := h
  exact ⟨ka, ha, ta, gk, gh, gt, ⟨hs _ a1, (hk _ a1 (Or.inl rfl)).trans a2⟩, ⟨hs _ b1, (hk _ b1 (Or.inr (Or.inl rfl))).trans b2⟩, ⟨hs _ c1, (hk _ c1 (Or.inr (Or.inr (Or.inl rfl)))).trans c2⟩, ⟨hs _ d1, (hk _ d1 (Or.inr (Or.inr (Or.inr rfl)))).trans d2⟩, h5, h6, h7, h8, rfl⟩
theorem rhModel.inL {D : va_G} {L : List Nat} {f : Nat → va_E} {mo : Nat} {kk hm fl : Nat → Nat} {pu : Nat} {FM : Nat → Prop} (h : rhModel D L f mo kk hm fl pu FM) : ∀ b : Nat, FM b → b ∈ L := by
  obtain ⟨ka, ha, ta, gk, gh, gt, ⟨a1, -⟩, ⟨b1, -⟩, ⟨c1, -⟩, ⟨d1, -⟩, -, -, -, -, rfl⟩ := h
  rintro b (rfl | rfl | rfl | rfl) <;> assumption
theorem rhModel.long {D : va_G} {L : List Nat} {f : Nat → va_E} {mo : Nat} {kk hm fl : Nat → Nat} {pu : Nat} {FM : Nat → Prop} (h : rhModel D L f mo kk hm fl pu FM) {b k : Nat} (e : f b = eLong k) : ¬ FM b := by
  obtain ⟨ka, ha, ta, gk, gh, gt, ⟨a1, a2⟩, ⟨b1, b2⟩, ⟨c1, c2⟩, ⟨d1, d2⟩, -, -, -, -, rfl⟩ := h
  rintro (rfl | rfl | rfl | rfl)
  · exact absurd (e.symm.trans a2) (by nofun)
  · exact absurd (e.symm.trans b2) (by nofun)
  · exact absurd (e.symm.trans c2) (by nofun)
  · exact absurd (e.symm.trans d2) (by nofun)
theorem one_nI (h : Nat) : 1 + nI h = nI (h + 1) := by
  show nI 1 + nI h = _
  rw [nI_add, Nat.add_comm]
set_option maxHeartbeats 4000000 in
set_option maxRecDepth 100000 in
theorem met_Model (l : Launch) (D : va_G) (Z : Nat → Nat) (L : List Nat) (f : Nat → va_E) (mo : Nat) (hmL : mo ∈ L) (hmf : f mo = .inr (2, [.null, .null, .null, .int 0])) : Met l yX3_init (ws_ yX3_init cX3_init 1 (none)) ({ frames := 1, cells := 3, slots := 132, locals := 20 }) (rhPc D Z L f [.ref mo]) (rhQv D Z (fun L' f' => ∃ FM : Nat → Prop, rhModel D L' f' mo (fun _ => 0) (fun _ => 0) (fun _ => 0) 0 FM ∧ (∀ b : Nat, FM b → b = mo ∨ b ∉ L) ∧ (∀ b ∈ L, b ≠ mo → f' b = f b) ∧ (∀ b ∈ L, b ∈ L'))) 3 132 (rhA Z) := by
  refine rh_ofW (by decide +kernel) (Nat.le_of_ble_eq_true rfl) ?_
  intro p e s m args below meth c hx hb hr hlocks hml hown hin hts hC hH ls hl
  have hown : s.vm.findClass RX3 = some m.cls := hown
  have hl : lv_has ls 1 [(0, .ref mo)] := hl
  refine lv_aload_n hx hb dX3_init_0 rfl (lv_at hl 0 rfl) ?_
  refine W.objInit hx hb hown (hts _ q529) (hts _ q38) (hts _ q39) rfl (by rw [hml]; exact hl.1) rfl dX3_init_1 (Nat.le_of_ble_eq_true rfl) (Nat.le_of_ble_eq_true rfl) ?_
  refine W.eq (g2 := F0 m 4 ls []) rfl ?_
  refine lv_aload_n hx hb dX3_init_4 rfl (lv_at hl 0 rfl) ?_
  refine lv_bipush (v := 64) hx hb dX3_init_5 (by decide) ?_
  refine rh_newi (N := 64) hx hb (hts _ q230) hC hH (by decide) (by decide) (by decide) (Nat.le_of_ble_eq_true rfl) (Nat.le_of_ble_eq_true rfl) dX3_init_7 (fun a f101 H hq_a hf_a hk_a hH => ?_)
  have hx102 : f101 mo = .inr (2, [.null, .null, .null, .int 0]) := (hk_a mo hmL).trans hmf
  have hm102 : mo ∈ (L ++ [a]) := List.mem_append_left _ hmL
  refine rh_putF (ci := 2) (v := .ref a) (ty := .array .int) (C := RX3) (T := TX3) (N := 4) hx hb hts in_X3 tyX3 tyX3_ok nmX3 hown hC hH hm102 hx102 rfl 0 (by decide) (hts _ q530) (fun _ h9 => h9) rfl hin rfl (by decide +kernel) rfl rfl (Nat.le_of_ble_eq_true rfl) dX3_init_9 (fun f103 H locs hu103 hfr103 hH => ?_)
  have hx104 : f103 a = eInts D 64 (fun _ => 0) := (hfr103 a (rh_ne hf_a hx102 (by nofun))).trans hf_a
  have hx105 : f103 mo = .inr (2, [.ref a, .null, .null, .int 0]) := hu103
  have hin_a : a ∈ (L ++ [a]) := (rh_last L a)
  refine lv_aload_n hx hb dX3_init_12 rfl (lv_at hl 0 rfl) ?_
  refine lv_bipush (v := 64) hx hb dX3_init_13 (by decide) ?_
  refine rh_newi (N := 64) hx hb (hts _ q230) hC hH (by decide) (by decide) (by decide) (Nat.le_of_ble_eq_true rfl) (Nat.le_of_ble_eq_true rfl) dX3_init_15 (fun b f106 H hq_b hf_b hk_b hH => ?_)
  have hx107 : f106 mo = .inr (2, [.ref a, .null, .null, .int 0]) := (hk_b mo hm102).trans hx105
  have hm107 : mo ∈ ((L ++ [a]) ++ [b]) := List.mem_append_left _ hm102
  have hx108 : f106 a = eInts D 64 (fun _ => 0) := (hk_b a (rh_last L a)).trans hx104
  have hm108 : a ∈ ((L ++ [a]) ++ [b]) := List.mem_append_left _ (rh_last L a)
  have hne_ab : a ≠ b := fun z => hq_b (by rw [← z]; exact hin_a)
  refine rh_putF (ci := 2) (v := .ref b) (ty := .array .int) (C := RX3) (T := TX3) (N := 4) hx hb hts in_X3 tyX3 tyX3_ok nmX3 hown hC hH hm107 hx107 rfl 1 (by decide) (hts _ q531) (fun _ h9 => h9) rfl hin rfl (by decide +kernel) rfl rfl (Nat.le_of_ble_eq_true rfl) dX3_init_17 (fun f109 H locs hu109 hfr109 hH => ?_)
  have hx110 : f109 a = eInts D 64 (fun _ => 0) := (hfr109 a (rh_ne hx108 hx107 (by nofun))).trans hx108
  have hx111 : f109 b = eInts D 64 (fun _ => 0) := (hfr109 b (rh_ne hf_b hx107 (by nofun))).trans hf_b
  have hx112 : f109 mo = .inr (2, [.ref a, .ref b, .null, .int 0]) := hu109
  have hin_a : a ∈ ((L ++ [a]) ++ [b]) := hm108
  have hin_b : b ∈ ((L ++ [a]) ++ [b]) := (rh_last (L ++ [a]) b)
  refine lv_aload_n hx hb dX3_init_20 rfl (lv_at hl 0 rfl) ?_
  refine lv_iconst (v := 4) hx hb dX3_init_21 (by decide) ?_
  refine rh_newi (N := 4) hx hb (hts _ q230) hC hH (by decide) (by decide) (by decide) (Nat.le_of_ble_eq_true rfl) (Nat.le_of_ble_eq_true rfl) dX3_init_22 (fun t f113 H hq_t hf_t hk_t hH => ?_)
  have hx114 : f113 mo = .inr (2, [.ref a, .ref b, .null, .int 0]) := (hk_t mo hm107).trans hx112
  have hm114 : mo ∈ (((L ++ [a]) ++ [b]) ++ [t]) := List.mem_append_left _ hm107
  have hx115 : f113 a = eInts D 64 (fun _ => 0) := (hk_t a hm108).trans hx110
  have hm115 : a ∈ (((L ++ [a]) ++ [b]) ++ [t]) := List.mem_append_left _ hm108
  have hx116 : f113 b = eInts D 64 (fun _ => 0) := (hk_t b (rh_last (L ++ [a]) b)).trans hx111
  have hm116 : b ∈ (((L ++ [a]) ++ [b]) ++ [t]) := List.mem_append_left _ (rh_last (L ++ [a]) b)
  have hne_at : a ≠ t := fun z => hq_t (by rw [← z]; exact hin_a)
  have hne_bt : b ≠ t := fun z => hq_t (by rw [← z]; exact hin_b)
  refine rh_putF (ci := 2) (v := .ref t) (ty := .array .int) (C := RX3) (T := TX3) (N := 4) hx hb hts in_X3 tyX3 tyX3_ok nmX3 hown hC hH hm114 hx114 rfl 2 (by decide) (hts _ q532) (fun _ h9 => h9) rfl hin rfl (by decide +kernel) rfl rfl (Nat.le_of_ble_eq_true rfl) dX3_init_24 (fun f117 H locs hu117 hfr117 hH => ?_)
  have hx118 : f117 a = eInts D 64 (fun _ => 0) := (hfr117 a (rh_ne hx115 hx114 (by nofun))).trans hx115
  have hx119 : f117 b = eInts D 64 (fun _ => 0) := (hfr117 b (rh_ne hx116 hx114 (by nofun))).trans hx116
  have hx120 : f117 t = eInts D 4 (fun _ => 0) := (hfr117 t (rh_ne hf_t hx114 (by nofun))).trans hf_t
  have hx121 : f117 mo = .inr (2, [.ref a, .ref b, .ref t, .int 0]) := hu117
  refine rh_vret hx hb hr hlocks hC hH (Nat.le_of_ble_eq_true rfl) (Nat.le_of_ble_eq_true rfl) (⟨_, ⟨a, b, t, fun _ => 0, fun _ => 0, fun _ => 0, ⟨hm114, hx121⟩, ⟨hm115, hx118⟩, ⟨hm116, hx119⟩, ⟨(rh_last ((L ++ [a]) ++ [b]) t), hx120⟩, ⟨hne_ab, hne_at, hne_bt⟩, fun i hi => absurd hi (Nat.not_lt_zero i), fun _ _ => ⟨rfl, Nat.two_pow_pos 20⟩, by decide, rfl⟩, ?_, fun x hx9 n9 => (hfr117 x n9).trans ((hk_t x (List.mem_append_left _ (List.mem_append_left _ hx9))).trans ((hfr109 x n9).trans ((hk_b x (List.mem_append_left _ hx9)).trans ((hfr103 x n9).trans (hk_a x hx9))))), fun x hx9 => List.mem_append_left _ (List.mem_append_left _ (List.mem_append_left _ hx9))⟩) dX3_init_27
  rintro x (rfl | rfl | rfl | rfl)
  · exact Or.inl rfl
  · exact Or.inr hq_a
  · exact Or.inr (fun z => hq_b (List.mem_append_left _ z))
  · exact Or.inr (fun z => hq_t (List.mem_append_left _ (List.mem_append_left _ z)))

theorem fi_skip {kk hm : Nat → Nat} {i h : Nat} {r : Int32} (hI : spFirst kk hm i h r) (hne : hm i ≠ h + 1) : spFirst kk hm (i + 1) h r := by
  rcases hI with ⟨h1, h2⟩ | ⟨b, h1, h2, h3, h4⟩
  · refine Or.inl ⟨h1, fun j hj => ?_⟩
    by_cases z : j = i
    · rw [z]; exact hne
    · exact h2 j (by omega)
  · refine Or.inr ⟨b, by omega, h2, h3, fun j hj hm9 => ?_⟩
    by_cases z : j = i
    · rw [z] at hm9; exact absurd hm9 hne
    · exact h4 j (by omega) hm9
theorem fi_new {kk hm : Nat → Nat} {i h j : Nat} (hno : ∀ j : Nat, j < i → hm j ≠ h + 1) (hj : j < i + 1) (hm9 : hm j = h + 1) : kk i ≤ kk j := by
  by_cases z : j = i
  · rw [z]; exact Nat.le_refl _
  · exact absurd hm9 (hno j (by omega))
theorem fi_old {kk hm : Nat → Nat} {i h j c : Nat} (hbk : ∀ j : Nat, j < i → hm j = h + 1 → kk c ≤ kk j) (hle : kk c ≤ kk i) (hj : j < i + 1) (hm9 : hm j = h + 1) : kk c ≤ kk j := by
  by_cases z : j = i
  · rw [z]; exact hle
  · exact hbk j (by omega) hm9
set_option maxHeartbeats 4000000 in
set_option maxRecDepth 100000 in
theorem first_loop {p : Program} {l : Launch} {e : Env} {s : State} {m : MethodId} {args : Array Value} {below : List Frame} {meth : Method} {c : Code} {D : va_G} {Z : Nat → Nat} {L : List Nat} {f : Nat → va_E} {mo ka ha ta : Nat} {gk gh : Nat → Int32} {kk hm : Nat → Nat} {pu : Nat} {r : Int32} {H : Heap} {locs : List Loc} (hx : p.tables.exec = Jvm.exec) (hb : c.code = cX3_first) (hr : meth.sig.returnType = some .int) (hlocks : meth.locks = false) (hml : c.maxLocals = 4) (hown : s.vm.findClass RX3 = some m.cls) (hts : ∀ w ∈ lw_all, w.before args s = true) (hC : rhCx D Z s) (hmL : mo ∈ L) (hmf : f mo = eModel ka ha ta (nI pu)) (hkL : ka ∈ L) (hkf : f ka = eInts D 64 gk) (hhL : ha ∈ L) (hhf : f ha = eInts D 64 gh) (hdat : ∀ i : Nat, i < pu → gk i = nI (kk i) ∧ gh i = nI (hm i) ∧ kk i < 2 ^ 20 ∧ hm i ≤ 4) (hpu : pu ≤ 64) :
    ∀ (d i : Nat), i ≤ pu → pu + 1 ≤ i + d → ∀ (b2 : Int32), spFirst kk hm i (rhR r) b2 → rhHp D Z L f s H locs → ∀ (ls : Array Slot), lv_has ls 4 [(0, .ref mo), (1, .int r), (2, .int b2), (3, .int (nI i))] → W p l e ({ frames := 0, cells := 0, slots := 0, locals := 0 } : Room) s m args below meth c H locs 0 0 (MQ below (rhQi D Z (fun r' L' f' => spFirst kk hm pu (rhR r) r' ∧ L = L' ∧ f = f')) args s 0 0 (rhA Z)) (F0 m 4 ls []) := by
  intro d
  induction d with
  | zero => intro i h1 h2; omega
  | succ d ih =>
    intro i hi hid b2 hI hH ls hl
    have hrl := rhR_lt r
    refine lv_iload_n hx hb dX3_first_4 rfl (lv_at hl 3 rfl) ?_
    refine lv_aload_n hx hb dX3_first_5 rfl (lv_at hl 0 rfl) ?_
    refine rh_get (ci := 2) (C := RX3) (T := TX3) (N := 4) hx hb hts in_X3 hown hC hH hmL hmf rfl 3 (by decide) (hts _ q533) (fun _ h9 => h9) rfl dX3_first_6 ?_
    refine lv_icmp_ge (tgt := 53) hx hb dX3_first_9 (by decide) (fun c_1 => ?_) (fun c_1 => ?_)
    · have hin2 : i = pu := by
        rcases Nat.lt_or_ge i pu with q | q
        · exact absurd c_1 (nI_ge q (by omega))
        · omega
      subst hin2
      refine lv_iload_n hx hb dX3_first_53 rfl (lv_at hl 2 rfl) ?_
      exact rh_iret hx hb hr hlocks hC hH (Nat.le_of_ble_eq_true rfl) (Nat.le_of_ble_eq_true rfl) (⟨hI, rfl, rfl⟩) dX3_first_54
    · have hlt : i < pu := by
        rcases Nat.lt_or_ge i pu with q | q
        · exact q
        · exact absurd (nI_le q (by omega)) c_1
      obtain ⟨d1, d2, d3, d4⟩ := hdat i hlt
      refine lv_aload_n hx hb dX3_first_12 rfl (lv_at hl 0 rfl) ?_
      refine rh_get (ci := 2) (C := RX3) (T := TX3) (N := 4) hx hb hts in_X3 hown hC hH hmL hmf rfl 1 (by decide) (hts _ q531) (fun _ h9 => h9) rfl dX3_first_13 ?_
      refine lv_iload_n hx hb dX3_first_16 rfl (lv_at hl 3 rfl) ?_
      refine rh_iald hx hb hC hH hhL hhf (vp_in_nI (show i < 64 by omega) (by decide)) dX3_first_17 ?_
      rw [nI_clamp (show i < 2 ^ 31 by omega), d2]
      refine lv_iconst (v := 1) hx hb dX3_first_18 (by decide) ?_
      refine lv_iload_n hx hb dX3_first_19 rfl (lv_at hl 1 rfl) ?_
      refine lv_iconst (v := 3) hx hb dX3_first_20 (by decide) ?_
      refine lv_iand hx hb dX3_first_21 ?_
      rw [and_3]
      refine lv_iadd hx hb dX3_first_22 ?_
      rw [one_nI]
      refine lv_icmp_ne (tgt := 47) hx hb dX3_first_23 (by decide) (fun c_2 => ?_) (fun c_2 => ?_)
      · have hne : hm i ≠ rhR r + 1 := fun z => c_2 (by rw [z])
        refine lv_iinc (v := nI (i + 1)) (lv' := [(3, .int (nI (i + 1))), (0, .ref mo), (1, .int r), (2, .int b2)]) hx hb dX3_first_47 hl (k := 3) rfl (nI_1 i) (by decide) rfl (fun ls hl => ?_)
        refine lv_goto (tgt := 4) hx hb dX3_first_50 (by decide) ?_
        exact ih (i + 1) hlt (by omega) b2 (fi_skip hI hne) hH ls (lv_sub hl [1, 2, 3, 0] rfl)
      · have heq : hm i = rhR r + 1 := (nI_eq (by omega) (by omega)).mp c_2
        refine lv_iload_n hx hb dX3_first_26 rfl (lv_at hl 2 rfl) ?_
        rcases hI with ⟨rfl, hno⟩ | ⟨b, hbi, rfl, hbm, hbk⟩
        · refine lv_if_lt (tgt := 45) hx hb dX3_first_27 (by decide) (fun _ => ?_) (fun z => absurd (by decide) z)
          refine lv_iload_n hx hb dX3_first_45 rfl (lv_at hl 3 rfl) ?_
          refine lv_istore_n (lv' := [(2, .int (nI i)), (0, .ref mo), (1, .int r), (3, .int (nI i))]) hx hb dX3_first_46 rfl hl (by decide) rfl (fun ls hl => ?_)
          refine lv_iinc (v := nI (i + 1)) (lv' := [(3, .int (nI (i + 1))), (2, .int (nI i)), (0, .ref mo), (1, .int r)]) hx hb dX3_first_47 hl (k := 3) rfl (nI_1 i) (by decide) rfl (fun ls hl => ?_)
          refine lv_goto (tgt := 4) hx hb dX3_first_50 (by decide) ?_
          exact ih (i + 1) hlt (by omega) (nI i) (Or.inr ⟨i, Nat.lt_succ_self i, rfl, heq, fun j hj hm9 => fi_new hno hj hm9⟩) hH ls (lv_sub hl [2, 3, 1, 0] rfl)
        · refine lv_if_lt (tgt := 45) hx hb dX3_first_27 (by decide) (fun z => absurd z (nI_pos (by omega))) (fun _ => ?_)
          obtain ⟨e1, e2, e3, e4⟩ := hdat b (by omega)
          refine lv_aload_n hx hb dX3_first_30 rfl (lv_at hl 0 rfl) ?_
          refine rh_get (ci := 2) (C := RX3) (T := TX3) (N := 4) hx hb hts in_X3 hown hC hH hmL hmf rfl 0 (by decide) (hts _ q530) (fun _ h9 => h9) rfl dX3_first_31 ?_
          refine lv_iload_n hx hb dX3_first_34 rfl (lv_at hl 3 rfl) ?_
          refine rh_iald hx hb hC hH hkL hkf (vp_in_nI (show i < 64 by omega) (by decide)) dX3_first_35 ?_
          rw [nI_clamp (show i < 2 ^ 31 by omega), d1]
          refine lv_aload_n hx hb dX3_first_36 rfl (lv_at hl 0 rfl) ?_
          refine rh_get (ci := 2) (C := RX3) (T := TX3) (N := 4) hx hb hts in_X3 hown hC hH hmL hmf rfl 0 (by decide) (hts _ q530) (fun _ h9 => h9) rfl dX3_first_37 ?_
          refine lv_iload_n hx hb dX3_first_40 rfl (lv_at hl 2 rfl) ?_
          refine rh_iald hx hb hC hH hkL hkf (vp_in_nI (show b < 64 by omega) (by decide)) dX3_first_41 ?_
          rw [nI_clamp (show b < 2 ^ 31 by omega), e1]
          refine lv_icmp_ge (tgt := 47) hx hb dX3_first_42 (by decide) (fun c_3 => ?_) (fun c_3 => ?_)
          · have hle : kk b ≤ kk i := (nI_leI (by omega) (by omega)).mp c_3
            refine lv_iinc (v := nI (i + 1)) (lv' := [(3, .int (nI (i + 1))), (0, .ref mo), (1, .int r), (2, .int (nI b))]) hx hb dX3_first_47 hl (k := 3) rfl (nI_1 i) (by decide) rfl (fun ls hl => ?_)
            refine lv_goto (tgt := 4) hx hb dX3_first_50 (by decide) ?_
            exact ih (i + 1) hlt (by omega) (nI b) (Or.inr ⟨b, by omega, rfl, hbm, fun j hj hm9 => fi_old hbk hle hj hm9⟩) hH ls (lv_sub hl [1, 2, 3, 0] rfl)
          · have hle : kk i < kk b := by
              rcases Nat.lt_or_ge (kk i) (kk b) with q | q
              · exact q
              · exact absurd (nI_le q (by omega)) c_3
            refine lv_iload_n hx hb dX3_first_45 rfl (lv_at hl 3 rfl) ?_
            refine lv_istore_n (lv' := [(2, .int (nI i)), (0, .ref mo), (1, .int r), (3, .int (nI i))]) hx hb dX3_first_46 rfl hl (by decide) rfl (fun ls hl => ?_)
            refine lv_iinc (v := nI (i + 1)) (lv' := [(3, .int (nI (i + 1))), (2, .int (nI i)), (0, .ref mo), (1, .int r)]) hx hb dX3_first_47 hl (k := 3) rfl (nI_1 i) (by decide) rfl (fun ls hl => ?_)
            refine lv_goto (tgt := 4) hx hb dX3_first_50 (by decide) ?_
            exact ih (i + 1) hlt (by omega) (nI i) (Or.inr ⟨i, Nat.lt_succ_self i, rfl, heq, fun j hj hm9 => fi_old (c := i) (fun j hj hm9 => Nat.le_trans (Nat.le_of_lt hle) (hbk j hj hm9)) (Nat.le_refl _) hj hm9⟩) hH ls (lv_sub hl [2, 3, 1, 0] rfl)

set_option maxHeartbeats 4000000 in
set_option maxRecDepth 100000 in
theorem met_first (l : Launch) (D : va_G) (Z : Nat → Nat) (L : List Nat) (f : Nat → va_E) (mo : Nat) (kk hm fl : Nat → Nat) (pu : Nat) (FM : Nat → Prop) (hmo : rhModel D L f mo kk hm fl pu FM) (r : Int32) : Met l yX3_first (ws_ yX3_first cX3_first 4 (some .int)) ({ frames := 0, cells := 0, slots := 0, locals := 0 }) (rhPc D Z L f [.ref mo, .int r]) (rhQi D Z (fun r' L' f' => spFirst kk hm pu (rhR r) r' ∧ L = L' ∧ f = f')) 0 0 (rhA Z) := by
  refine rh_ofW (by decide +kernel) (Nat.le_of_ble_eq_true rfl) ?_
  intro p e s m args below meth c hx hb hr hlocks hml hown hin hts hC hH ls hl
  have hown : s.vm.findClass RX3 = some m.cls := hown
  have hl : lv_has ls 4 [(0, .ref mo), (1, .int r)] := hl
  obtain ⟨ka, ha, ta, gk, gh, gt, ⟨hmL, hmf⟩, ⟨hkL, hkf⟩, ⟨hhL, hhf⟩, ⟨htL, htf⟩, ⟨hn1, hn2, hn3⟩, hdat, hflo, hpu, rfl⟩ := hmo
  refine lv_iconst (v := -1) hx hb dX3_first_0 (by decide) ?_
  refine lv_istore_n (lv' := [(2, .int (-1)), (0, .ref mo), (1, .int r)]) hx hb dX3_first_1 rfl hl (by decide) rfl (fun ls hl => ?_)
  refine lv_iconst (v := 0) hx hb dX3_first_2 (by decide) ?_
  refine lv_istore_n (lv' := [(3, .int 0), (2, .int (-1)), (0, .ref mo), (1, .int r)]) hx hb dX3_first_3 rfl hl (by decide) rfl (fun ls hl => ?_)
  exact first_loop hx hb hr hlocks hml hown hts hC hmL hmf hkL hkf hhL hhf hdat hpu (pu + 1) 0 (Nat.zero_le _) (by omega) (-1) (Or.inl ⟨rfl, fun j hj => absurd hj (Nat.not_lt_zero j)⟩) hH ls (lv_sub hl [2, 3, 1, 0] rfl)

theorem lay_dat {gk gh : Nat → Int32} {kk hm : Nat → Nat} {pu k t i : Nat} (hdat : ∀ i : Nat, i < pu → gk i = nI (kk i) ∧ gh i = nI (hm i) ∧ kk i < 2 ^ 20 ∧ hm i ≤ 4) (hk : k < 2 ^ 20) (ht : t ≤ 4) (hi : i < pu + 1) : upd gk pu (nI k) i = nI (va_up kk pu k i) ∧ upd gh pu (nI t) i = nI (va_up hm pu t i) ∧ va_up kk pu k i < 2 ^ 20 ∧ va_up hm pu t i ≤ 4 := by
  by_cases z : i = pu
  · subst z
    rw [pk_us, pk_us, va_up_self, va_up_self]
    exact ⟨rfl, rfl, hk, ht⟩
  · rw [pk_un z, pk_un z, va_up_ne _ _ z, va_up_ne _ _ z]
    exact hdat i (by omega)
set_option maxHeartbeats 4000000 in
set_option maxRecDepth 100000 in
theorem met_lay (l : Launch) (D : va_G) (Z : Nat → Nat) (L : List Nat) (f : Nat → va_E) (mo : Nat) (kk hm fl : Nat → Nat) (pu : Nat) (FM : Nat → Prop) (hmo : rhModel D L f mo kk hm fl pu FM) (r : Int32) (k : Nat) (hk : k < 2 ^ 31) : Met l yX3_lay (ws_ yX3_lay cX3_lay 3 (some .boolean)) ({ frames := 0, cells := 0, slots := 0, locals := 0 }) (rhPc D Z L f [.ref mo, .int r, .int (nI k)]) (rhQi D Z (fun r' L' f' => ((pu < 64 ∧ fl (rhR r) ≤ k ∧ k < 2 ^ 20) ∧ 1 = r' ∧ L = L' ∧ rhModel D L f' mo (va_up kk pu k) (va_up hm pu (rhR r + 1)) fl (pu + 1) FM ∧ (∀ b ∈ L, ¬ FM b → f' b = f b)) ∨ (¬ (pu < 64 ∧ fl (rhR r) ≤ k ∧ k < 2 ^ 20) ∧ 0 = r' ∧ L = L' ∧ f = f'))) 0 0 (rhA Z) := by
  refine rh_ofW (by decide +kernel) (Nat.le_of_ble_eq_true rfl) ?_
  intro p e s m args below meth c hx hb hr hlocks hml hown hin hts hC hH ls hl
  have hown : s.vm.findClass RX3 = some m.cls := hown
  have hl : lv_has ls 3 [(0, .ref mo), (1, .int r), (2, .int (nI k))] := hl
  obtain ⟨ka, ha, ta, gk, gh, gt, ⟨hmL, hmf⟩, ⟨hkL, hkf⟩, ⟨hhL, hhf⟩, ⟨htL, htf⟩, ⟨hn1, hn2, hn3⟩, hdat, hflo, hpu, rfl⟩ := hmo
  have hrl := rhR_lt r
  refine lv_aload_n hx hb dX3_lay_0 rfl (lv_at hl 0 rfl) ?_
  refine rh_get (ci := 2) (C := RX3) (T := TX3) (N := 4) hx hb hts in_X3 hown hC hH hmL hmf rfl 3 (by decide) (hts _ q533) (fun _ h9 => h9) rfl dX3_lay_1 ?_
  refine lv_bipush (v := 64) hx hb dX3_lay_4 (by decide) ?_
  refine lv_icmp_eq (tgt := 27) hx hb dX3_lay_6 (by decide) (fun c_1 => ?_) (fun c_1 => ?_)
  · refine lv_iconst (v := 0) hx hb dX3_lay_27 (by decide) ?_
    exact rh_zret hx hb hr (by decide) hlocks hC hH (Nat.le_of_ble_eq_true rfl) (Nat.le_of_ble_eq_true rfl) (Or.inr ⟨fun z => absurd ((nI_eq (b := 64) (by omega) (by decide)).mp c_1) (by omega), rfl, rfl, rfl⟩) dX3_lay_28
  · have h1 : pu < 64 := by
      rcases Nat.lt_or_ge pu 64 with q | q
      · exact q
      · exact absurd (by rw [show pu = 64 by omega]; rfl) c_1
    obtain ⟨t1, t2⟩ := hflo _ hrl
    refine lv_iload_n hx hb dX3_lay_9 rfl (lv_at hl 2 rfl) ?_
    refine lv_aload_n hx hb dX3_lay_10 rfl (lv_at hl 0 rfl) ?_
    refine rh_get (ci := 2) (C := RX3) (T := TX3) (N := 4) hx hb hts in_X3 hown hC hH hmL hmf rfl 2 (by decide) (hts _ q532) (fun _ h9 => h9) rfl dX3_lay_11 ?_
    refine lv_iload_n hx hb dX3_lay_14 rfl (lv_at hl 1 rfl) ?_
    refine lv_iconst (v := 3) hx hb dX3_lay_15 (by decide) ?_
    refine lv_iand hx hb dX3_lay_16 ?_
    rw [and_3]
    refine rh_iald hx hb hC hH htL htf (vp_in_nI (hrl) (by decide)) dX3_lay_17 ?_
    rw [nI_clamp (show rhR r < 2 ^ 31 by omega), t1]
    refine lv_icmp_lt (tgt := 27) hx hb dX3_lay_18 (by decide) (fun c_2 => ?_) (fun c_2 => ?_)
    · refine lv_iconst (v := 0) hx hb dX3_lay_27 (by decide) ?_
      exact rh_zret hx hb hr (by decide) hlocks hC hH (Nat.le_of_ble_eq_true rfl) (Nat.le_of_ble_eq_true rfl) (Or.inr ⟨fun z => absurd c_2 (nI_nlt z.2.1 (by omega)), rfl, rfl, rfl⟩) dX3_lay_28
    · have h2 : fl (rhR r) ≤ k := by
        rcases Nat.lt_or_ge k (fl (rhR r)) with q | q
        · exact absurd (nI_lt q (by omega)) c_2
        · exact q
      refine lv_iload_n hx hb dX3_lay_21 rfl (lv_at hl 2 rfl) ?_
      refine lv_ldc hx hb hown (hts _ q552) dX3_lay_22 ?_
      refine lv_icmp_lt (tgt := 29) hx hb dX3_lay_24 (by decide) (fun c_3 => ?_) (fun c_3 => ?_)
      · have h3 : k < 2 ^ 20 := (nI_ltI (b := 1048576) (by omega) (by decide)).mp c_3
        refine lv_aload_n hx hb dX3_lay_29 rfl (lv_at hl 0 rfl) ?_
        refine rh_get (ci := 2) (C := RX3) (T := TX3) (N := 4) hx hb hts in_X3 hown hC hH hmL hmf rfl 0 (by decide) (hts _ q530) (fun _ h9 => h9) rfl dX3_lay_30 ?_
        refine lv_aload_n hx hb dX3_lay_33 rfl (lv_at hl 0 rfl) ?_
        refine rh_get (ci := 2) (C := RX3) (T := TX3) (N := 4) hx hb hts in_X3 hown hC hH hmL hmf rfl 3 (by decide) (hts _ q533) (fun _ h9 => h9) rfl dX3_lay_34 ?_
        refine lv_iload_n hx hb dX3_lay_37 rfl (lv_at hl 2 rfl) ?_
        refine rh_iast hx hb hC hH hkL hkf (vp_in_nI (show pu < 64 by omega) (by decide)) dX3_lay_38 (fun f122 H locs hu122 hfr122 hH => ?_)
        rw [nI_clamp (show pu < 2 ^ 31 by omega)] at hu122
        have hx123 : f122 mo = .inr (2, [.ref ka, .ref ha, .ref ta, .int (nI pu)]) := (hfr122 mo (rh_ne hmf hkf (by nofun))).trans hmf
        have hx124 : f122 ha = eInts D 64 (gh) := (hfr122 ha (Ne.symm hn1)).trans hhf
        have hx125 : f122 ta = eInts D 4 (gt) := (hfr122 ta (Ne.symm hn2)).trans htf
        have hx126 : f122 ka = eInts D 64 (upd (gk) (pu) (nI k)) := hu122
        refine lv_aload_n hx hb dX3_lay_39 rfl (lv_at hl 0 rfl) ?_
        refine rh_get (ci := 2) (C := RX3) (T := TX3) (N := 4) hx hb hts in_X3 hown hC hH hmL hx123 rfl 1 (by decide) (hts _ q531) (fun _ h9 => h9) rfl dX3_lay_40 ?_
        refine lv_aload_n hx hb dX3_lay_43 rfl (lv_at hl 0 rfl) ?_
        refine rh_get (ci := 2) (C := RX3) (T := TX3) (N := 4) hx hb hts in_X3 hown hC hH hmL hx123 rfl 3 (by decide) (hts _ q533) (fun _ h9 => h9) rfl dX3_lay_44 ?_
        refine lv_iconst (v := 1) hx hb dX3_lay_47 (by decide) ?_
        refine lv_iload_n hx hb dX3_lay_48 rfl (lv_at hl 1 rfl) ?_
        refine lv_iconst (v := 3) hx hb dX3_lay_49 (by decide) ?_
        refine lv_iand hx hb dX3_lay_50 ?_
        rw [and_3]
        refine lv_iadd hx hb dX3_lay_51 ?_
        rw [one_nI]
        refine rh_iast hx hb hC hH hhL hx124 (vp_in_nI (show pu < 64 by omega) (by decide)) dX3_lay_52 (fun f127 H locs hu127 hfr127 hH => ?_)
        rw [nI_clamp (show pu < 2 ^ 31 by omega)] at hu127
        have hx128 : f127 mo = .inr (2, [.ref ka, .ref ha, .ref ta, .int (nI pu)]) := (hfr127 mo (rh_ne hx123 hx124 (by nofun))).trans hx123
        have hx129 : f127 ka = eInts D 64 (upd (gk) (pu) (nI k)) := (hfr127 ka hn1).trans hx126
        have hx130 : f127 ta = eInts D 4 (gt) := (hfr127 ta (Ne.symm hn3)).trans hx125
        have hx131 : f127 ha = eInts D 64 (upd (gh) (pu) (nI (rhR r + 1))) := hu127
        refine lv_aload_n hx hb dX3_lay_53 rfl (lv_at hl 0 rfl) ?_
        refine lv_aload_n hx hb dX3_lay_54 rfl (lv_at hl 0 rfl) ?_
        refine rh_get (ci := 2) (C := RX3) (T := TX3) (N := 4) hx hb hts in_X3 hown hC hH hmL hx128 rfl 3 (by decide) (hts _ q533) (fun _ h9 => h9) rfl dX3_lay_55 ?_
        refine lv_iconst (v := 1) hx hb dX3_lay_58 (by decide) ?_
        refine lv_iadd hx hb dX3_lay_59 ?_
        rw [nI_1]
        refine rh_put (ci := 2) (v := .int (nI (pu + 1))) (ty := .int) (C := RX3) (T := TX3) (N := 4) hx hb hts in_X3 tyX3 tyX3_ok nmX3 hown hC hH hmL hx128 rfl 3 (by decide) (hts _ q533) (fun _ h9 => h9) rfl (by decide +kernel) rfl rfl (Nat.le_of_ble_eq_true rfl) dX3_lay_60 (fun f132 H locs hu132 hfr132 hH => ?_)
        have hx133 : f132 ka = eInts D 64 (upd (gk) (pu) (nI k)) := (hfr132 ka (rh_ne hx129 hx128 (by nofun))).trans hx129
        have hx134 : f132 ha = eInts D 64 (upd (gh) (pu) (nI (rhR r + 1))) := (hfr132 ha (rh_ne hx131 hx128 (by nofun))).trans hx131
        have hx135 : f132 ta = eInts D 4 (gt) := (hfr132 ta (rh_ne hx130 hx128 (by nofun))).trans hx130
        have hx136 : f132 mo = .inr (2, [.ref ka, .ref ha, .ref ta, .int (nI (pu + 1))]) := hu132
        refine lv_iconst (v := 1) hx hb dX3_lay_63 (by decide) ?_
        exact rh_zret hx hb hr (by decide) hlocks hC hH (Nat.le_of_ble_eq_true rfl) (Nat.le_of_ble_eq_true rfl) (Or.inl ⟨⟨h1, h2, h3⟩, rfl, rfl, ⟨ka, ha, ta, _, _, gt, ⟨hmL, hx136⟩, ⟨hkL, hx133⟩, ⟨hhL, hx134⟩, ⟨htL, hx135⟩, ⟨hn1, hn2, hn3⟩, fun i hi => lay_dat hdat h3 (show rhR r + 1 ≤ 4 by omega) hi, hflo, h1, rfl⟩, fun b hb9 n9 => (hfr132 b (fun z => n9 (Or.inl z))).trans ((hfr127 b (fun z => n9 (Or.inr (Or.inr (Or.inl z))))).trans (hfr122 b (fun z => n9 (Or.inr (Or.inl z)))))⟩) dX3_lay_64
      · refine lv_iconst (v := 0) hx hb dX3_lay_27 (by decide) ?_
        exact rh_zret hx hb hr (by decide) hlocks hC hH (Nat.le_of_ble_eq_true rfl) (Nat.le_of_ble_eq_true rfl) (Or.inr ⟨fun z => c_3 (nI_lt (b := 1048576) (by omega) (by decide)), rfl, rfl, rfl⟩) dX3_lay_28

set_option maxHeartbeats 4000000 in
set_option maxRecDepth 100000 in
theorem met_mPut (l : Launch) (D : va_G) (Z : Nat → Nat) (L : List Nat) (f : Nat → va_E) (mo : Nat) (kk hm fl : Nat → Nat) (pu : Nat) (FM : Nat → Prop) (hmo : rhModel D L f mo kk hm fl pu FM) (r key : Int32) : Met l yX3_put (ws_ yX3_put cX3_put 3 (some .boolean)) ({ frames := 1, cells := 0, slots := 0, locals := 24 }) (rhPc D Z L f [.ref mo, .int r, .int key]) (rhQi D Z (fun r' L' f' => ((pu < 64 ∧ fl (rhR r) ≤ (rhKy key) ∧ (rhKy key) < 2 ^ 20) ∧ 1 = r' ∧ L = L' ∧ rhModel D L f' mo (va_up kk pu (rhKy key)) (va_up hm pu (rhR r + 1)) fl (pu + 1) FM ∧ (∀ b ∈ L, ¬ FM b → f' b = f b)) ∨ (¬ (pu < 64 ∧ fl (rhR r) ≤ (rhKy key) ∧ (rhKy key) < 2 ^ 20) ∧ 0 = r' ∧ L = L' ∧ f = f'))) 0 0 (rhA Z) := by
  refine rh_ofW (by decide +kernel) (Nat.le_of_ble_eq_true rfl) ?_
  intro p e s m args below meth c hx hb hr hlocks hml hown hin hts hC hH ls hl
  have hown : s.vm.findClass RX3 = some m.cls := hown
  have hl : lv_has ls 3 [(0, .ref mo), (1, .int r), (2, .int key)] := hl
  obtain ⟨ka, ha, ta, gk, gh, gt, ⟨hmL, hmf⟩, ⟨hkL, hkf⟩, ⟨hhL, hhf⟩, ⟨htL, htf⟩, ⟨hn1, hn2, hn3⟩, hdat, hflo, hpu, rfl⟩ := hmo
  have hk20 := rhKy_lt key
  refine lv_aload_n hx hb dX3_put_0 rfl (lv_at hl 0 rfl) ?_
  refine lv_iload_n hx hb dX3_put_1 rfl (lv_at hl 1 rfl) ?_
  refine lv_iload_n hx hb dX3_put_2 rfl (lv_at hl 2 rfl) ?_
  refine lv_ldc hx hb hown (hts _ q547) dX3_put_3 ?_
  refine lv_iand hx hb dX3_put_5 ?_
  rw [and_ky]
  refine rh_ki hC hH (va_runV (As := [.int r, .int (nI (rhKy key))]) (rest := []) ⟨hx, hb, hml, hown, hts⟩ (met_lay l D Z L f mo kk hm fl pu _ ⟨ka, ha, ta, gk, gh, gt, ⟨hmL, hmf⟩, ⟨hkL, hkf⟩, ⟨hhL, hhf⟩, ⟨htL, htf⟩, ⟨hn1, hn2, hn3⟩, hdat, hflo, hpu, rfl⟩ r (rhKy key) (by omega)) (cwV 2 hts (lw_V q548 q550 qs5 q21 q551) rfl rfl rfl (by decide +kernel) ⟨Nat.le_of_ble_eq_true rfl, Nat.le_of_ble_eq_true rfl⟩) (rh_preV hC hH [.int r, .int (nI (rhKy key))] (rh_recv hC hH hmL hmf (q := (RX3, TX3, 4)) rfl)) rfl rfl hl.1 rfl (lv_room (Nat.le_of_ble_eq_true rfl)) dX3_put_6 ⟨Nat.le_of_ble_eq_true rfl, Nat.le_of_ble_eq_true rfl⟩) (fun r137 L137 f137 H locs hp137 hH => ?_)
  rcases hp137 with ⟨h1, rfl, h2⟩ | ⟨h1, rfl, h2⟩
  · exact rh_zret hx hb hr (by decide) hlocks hC hH (Nat.le_of_ble_eq_true rfl) (Nat.le_of_ble_eq_true rfl) (Or.inl ⟨h1, rfl, h2⟩) dX3_put_9
  · exact rh_zret hx hb hr (by decide) hlocks hC hH (Nat.le_of_ble_eq_true rfl) (Nat.le_of_ble_eq_true rfl) (Or.inr ⟨h1, rfl, h2⟩) dX3_put_9

set_option maxHeartbeats 4000000 in
set_option maxRecDepth 100000 in
theorem met_mAbove (l : Launch) (D : va_G) (Z : Nat → Nat) (L : List Nat) (f : Nat → va_E) (mo : Nat) (kk hm fl : Nat → Nat) (pu : Nat) (FM : Nat → Prop) (hmo : rhModel D L f mo kk hm fl pu FM) (r more : Int32) : Met l yX3_above (ws_ yX3_above cX3_above 3 (some .boolean)) ({ frames := 1, cells := 0, slots := 0, locals := 24 }) (rhPc D Z L f [.ref mo, .int r, .int more]) (rhQi D Z (fun r' L' f' => ((pu < 64 ∧ fl (rhR r) ≤ (fl (rhR r) + rhMo more) ∧ (fl (rhR r) + rhMo more) < 2 ^ 20) ∧ 1 = r' ∧ L = L' ∧ rhModel D L f' mo (va_up kk pu (fl (rhR r) + rhMo more)) (va_up hm pu (rhR r + 1)) fl (pu + 1) FM ∧ (∀ b ∈ L, ¬ FM b → f' b = f b)) ∨ (¬ (pu < 64 ∧ fl (rhR r) ≤ (fl (rhR r) + rhMo more) ∧ (fl (rhR r) + rhMo more) < 2 ^ 20) ∧ 0 = r' ∧ L = L' ∧ f = f'))) 0 0 (rhA Z) := by
  refine rh_ofW (by decide +kernel) (Nat.le_of_ble_eq_true rfl) ?_
  intro p e s m args below meth c hx hb hr hlocks hml hown hin hts hC hH ls hl
  have hown : s.vm.findClass RX3 = some m.cls := hown
  have hl : lv_has ls 3 [(0, .ref mo), (1, .int r), (2, .int more)] := hl
  obtain ⟨ka, ha, ta, gk, gh, gt, ⟨hmL, hmf⟩, ⟨hkL, hkf⟩, ⟨hhL, hhf⟩, ⟨htL, htf⟩, ⟨hn1, hn2, hn3⟩, hdat, hflo, hpu, rfl⟩ := hmo
  have hrl := rhR_lt r
  have hmo20 := rhMo_lt more
  obtain ⟨t1, t2⟩ := hflo _ hrl
  refine lv_aload_n hx hb dX3_above_0 rfl (lv_at hl 0 rfl) ?_
  refine lv_iload_n hx hb dX3_above_1 rfl (lv_at hl 1 rfl) ?_
  refine lv_aload_n hx hb dX3_above_2 rfl (lv_at hl 0 rfl) ?_
  refine rh_get (ci := 2) (C := RX3) (T := TX3) (N := 4) hx hb hts in_X3 hown hC hH hmL hmf rfl 2 (by decide) (hts _ q532) (fun _ h9 => h9) rfl dX3_above_3 ?_
  refine lv_iload_n hx hb dX3_above_6 rfl (lv_at hl 1 rfl) ?_
  refine lv_iconst (v := 3) hx hb dX3_above_7 (by decide) ?_
  refine lv_iand hx hb dX3_above_8 ?_
  rw [and_3]
  refine rh_iald hx hb hC hH htL htf (vp_in_nI (hrl) (by decide)) dX3_above_9 ?_
  rw [nI_clamp (show rhR r < 2 ^ 31 by omega), t1]
  refine lv_iload_n hx hb dX3_above_10 rfl (lv_at hl 2 rfl) ?_
  refine lv_sipush (v := 1023) hx hb dX3_above_11 (by decide) ?_
  refine lv_iand hx hb dX3_above_14 ?_
  rw [and_mo]
  refine lv_iadd hx hb dX3_above_15 ?_
  rw [nI_add]
  refine rh_ki hC hH (va_runV (As := [.int r, .int (nI (fl (rhR r) + rhMo more))]) (rest := []) ⟨hx, hb, hml, hown, hts⟩ (met_lay l D Z L f mo kk hm fl pu _ ⟨ka, ha, ta, gk, gh, gt, ⟨hmL, hmf⟩, ⟨hkL, hkf⟩, ⟨hhL, hhf⟩, ⟨htL, htf⟩, ⟨hn1, hn2, hn3⟩, hdat, hflo, hpu, rfl⟩ r (fl (rhR r) + rhMo more) (by omega)) (cwV 2 hts (lw_V q548 q550 qs5 q21 q551) rfl rfl rfl (by decide +kernel) ⟨Nat.le_of_ble_eq_true rfl, Nat.le_of_ble_eq_true rfl⟩) (rh_preV hC hH [.int r, .int (nI (fl (rhR r) + rhMo more))] (rh_recv hC hH hmL hmf (q := (RX3, TX3, 4)) rfl)) rfl rfl hl.1 rfl (lv_room (Nat.le_of_ble_eq_true rfl)) dX3_above_16 ⟨Nat.le_of_ble_eq_true rfl, Nat.le_of_ble_eq_true rfl⟩) (fun r138 L138 f138 H locs hp138 hH => ?_)
  rcases hp138 with ⟨h1, rfl, h2⟩ | ⟨h1, rfl, h2⟩
  · exact rh_zret hx hb hr (by decide) hlocks hC hH (Nat.le_of_ble_eq_true rfl) (Nat.le_of_ble_eq_true rfl) (Or.inl ⟨h1, rfl, h2⟩) dX3_above_19
  · exact rh_zret hx hb hr (by decide) hlocks hC hH (Nat.le_of_ble_eq_true rfl) (Nat.le_of_ble_eq_true rfl) (Or.inr ⟨h1, rfl, h2⟩) dX3_above_19

theorem fi_min {kk hm : Nat → Nat} {n h b j : Nat} (hbk : ∀ j : Nat, j < n → hm j = h + 1 → kk b ≤ kk j) (hj : j ∈ spKs kk hm h n) : kk b ≤ j := by
  obtain ⟨i, h1, h2, h3⟩ := spKs_mem.mp hj
  rw [← h3]
  exact hbk i h1 h2
set_option maxHeartbeats 4000000 in
set_option maxRecDepth 100000 in
theorem met_mLeast (l : Launch) (D : va_G) (Z : Nat → Nat) (L : List Nat) (f : Nat → va_E) (mo : Nat) (kk hm fl : Nat → Nat) (pu : Nat) (FM : Nat → Prop) (hmo : rhModel D L f mo kk hm fl pu FM) (r : Int32) : Met l yX3_least (ws_ yX3_least cX3_least 3 (some .int)) ({ frames := 1, cells := 0, slots := 0, locals := 24 }) (rhPc D Z L f [.ref mo, .int r]) (rhQi D Z (fun r' L' f' => spLeast (spKs kk hm (rhR r) pu) r' ∧ L = L' ∧ f = f')) 0 0 (rhA Z) := by
  refine rh_ofW (by decide +kernel) (Nat.le_of_ble_eq_true rfl) ?_
  intro p e s m args below meth c hx hb hr hlocks hml hown hin hts hC hH ls hl
  have hown : s.vm.findClass RX3 = some m.cls := hown
  have hl : lv_has ls 3 [(0, .ref mo), (1, .int r)] := hl
  obtain ⟨ka, ha, ta, gk, gh, gt, ⟨hmL, hmf⟩, ⟨hkL, hkf⟩, ⟨hhL, hhf⟩, ⟨htL, htf⟩, ⟨hn1, hn2, hn3⟩, hdat, hflo, hpu, rfl⟩ := hmo
  refine lv_aload_n hx hb dX3_least_0 rfl (lv_at hl 0 rfl) ?_
  refine lv_iload_n hx hb dX3_least_1 rfl (lv_at hl 1 rfl) ?_
  refine rh_ki hC hH (va_runV (As := [.int r]) (rest := []) ⟨hx, hb, hml, hown, hts⟩ (met_first l D Z L f mo kk hm fl pu _ ⟨ka, ha, ta, gk, gh, gt, ⟨hmL, hmf⟩, ⟨hkL, hkf⟩, ⟨hhL, hhf⟩, ⟨htL, htf⟩, ⟨hn1, hn2, hn3⟩, hdat, hflo, hpu, rfl⟩ r) (cwV 1 hts (lw_V q561 q563 qs6 q21 q564) rfl rfl rfl (by decide +kernel) ⟨Nat.le_of_ble_eq_true rfl, Nat.le_of_ble_eq_true rfl⟩) (rh_preV hC hH [.int r] (rh_recv hC hH hmL hmf (q := (RX3, TX3, 4)) rfl)) rfl rfl hl.1 rfl (lv_room (Nat.le_of_ble_eq_true rfl)) dX3_least_2 ⟨Nat.le_of_ble_eq_true rfl, Nat.le_of_ble_eq_true rfl⟩) (fun b139 L139 f139 H locs hp139 hH => ?_)
  obtain ⟨hI, rfl, rfl⟩ := hp139
  refine lv_istore_n (lv' := [(2, .int b139), (0, .ref mo), (1, .int r)]) hx hb dX3_least_5 rfl hl (by decide) rfl (fun ls hl => ?_)
  refine lv_iload_n hx hb dX3_least_6 rfl (lv_at hl 0 rfl) ?_
  rcases hI with ⟨rfl, hno⟩ | ⟨b, hbi, rfl, hbm, hbk⟩
  · refine lv_if_ge (tgt := 14) hx hb dX3_least_7 (by decide) (fun z => absurd z (by decide)) (fun _ => ?_)
    refine lv_iconst (v := -1) hx hb dX3_least_10 (by decide) ?_
    refine lv_goto (tgt := 20) hx hb dX3_least_11 (by decide) ?_
    exact rh_iret hx hb hr hlocks hC hH (Nat.le_of_ble_eq_true rfl) (Nat.le_of_ble_eq_true rfl) (⟨Or.inl ⟨spKs_nil hno, rfl⟩, rfl, rfl⟩) dX3_least_20
  · refine lv_if_ge (tgt := 14) hx hb dX3_least_7 (by decide) (fun _ => ?_) (fun z => absurd (nI_pos' (by omega)) z)
    obtain ⟨e1, e2, e3, e4⟩ := hdat b hbi
    refine lv_aload_n hx hb dX3_least_14 rfl (lv_at hl 1 rfl) ?_
    refine rh_get (ci := 2) (C := RX3) (T := TX3) (N := 4) hx hb hts in_X3 hown hC hH hmL hmf rfl 0 (by decide) (hts _ q530) (fun _ h9 => h9) rfl dX3_least_15 ?_
    refine lv_iload_n hx hb dX3_least_18 rfl (lv_at hl 0 rfl) ?_
    refine rh_iald hx hb hC hH hkL hkf (vp_in_nI (show b < 64 by omega) (by decide)) dX3_least_19 ?_
    rw [nI_clamp (show b < 2 ^ 31 by omega), e1]
    exact rh_iret hx hb hr hlocks hC hH (Nat.le_of_ble_eq_true rfl) (Nat.le_of_ble_eq_true rfl) (⟨Or.inr ⟨kk b, spKs_mem.mpr ⟨b, hbi, hbm, rfl⟩, fun j hj => fi_min hbk hj, e3, rfl⟩, rfl, rfl⟩) dX3_least_20

set_option maxHeartbeats 4000000 in
set_option maxRecDepth 100000 in
theorem met_mIsEmpty (l : Launch) (D : va_G) (Z : Nat → Nat) (L : List Nat) (f : Nat → va_E) (mo : Nat) (kk hm fl : Nat → Nat) (pu : Nat) (FM : Nat → Prop) (hmo : rhModel D L f mo kk hm fl pu FM) (r : Int32) : Met l yX3_isEmpty (ws_ yX3_isEmpty cX3_isEmpty 2 (some .boolean)) ({ frames := 1, cells := 0, slots := 0, locals := 24 }) (rhPc D Z L f [.ref mo, .int r]) (rhQi D Z (fun r' L' f' => (if (spKs kk hm (rhR r) pu).length = 0 then (1 : Int32) else 0) = r' ∧ L = L' ∧ f = f')) 0 0 (rhA Z) := by
  refine rh_ofW (by decide +kernel) (Nat.le_of_ble_eq_true rfl) ?_
  intro p e s m args below meth c hx hb hr hlocks hml hown hin hts hC hH ls hl
  have hown : s.vm.findClass RX3 = some m.cls := hown
  have hl : lv_has ls 2 [(0, .ref mo), (1, .int r)] := hl
  obtain ⟨ka, ha, ta, gk, gh, gt, ⟨hmL, hmf⟩, ⟨hkL, hkf⟩, ⟨hhL, hhf⟩, ⟨htL, htf⟩, ⟨hn1, hn2, hn3⟩, hdat, hflo, hpu, rfl⟩ := hmo
  refine lv_aload_n hx hb dX3_isEmpty_0 rfl (lv_at hl 0 rfl) ?_
  refine lv_iload_n hx hb dX3_isEmpty_1 rfl (lv_at hl 1 rfl) ?_
  refine rh_ki hC hH (va_runV (As := [.int r]) (rest := []) ⟨hx, hb, hml, hown, hts⟩ (met_first l D Z L f mo kk hm fl pu _ ⟨ka, ha, ta, gk, gh, gt, ⟨hmL, hmf⟩, ⟨hkL, hkf⟩, ⟨hhL, hhf⟩, ⟨htL, htf⟩, ⟨hn1, hn2, hn3⟩, hdat, hflo, hpu, rfl⟩ r) (cwV 1 hts (lw_V q561 q563 qs6 q21 q564) rfl rfl rfl (by decide +kernel) ⟨Nat.le_of_ble_eq_true rfl, Nat.le_of_ble_eq_true rfl⟩) (rh_preV hC hH [.int r] (rh_recv hC hH hmL hmf (q := (RX3, TX3, 4)) rfl)) rfl rfl hl.1 rfl (lv_room (Nat.le_of_ble_eq_true rfl)) dX3_isEmpty_2 ⟨Nat.le_of_ble_eq_true rfl, Nat.le_of_ble_eq_true rfl⟩) (fun b140 L140 f140 H locs hp140 hH => ?_)
  obtain ⟨hI, rfl, rfl⟩ := hp140
  rcases hI with ⟨rfl, hno⟩ | ⟨b, hbi, rfl, hbm, hbk⟩
  · refine lv_if_ge (tgt := 12) hx hb dX3_isEmpty_5 (by decide) (fun z => absurd z (by decide)) (fun _ => ?_)
    refine lv_iconst (v := 1) hx hb dX3_isEmpty_8 (by decide) ?_
    refine lv_goto (tgt := 13) hx hb dX3_isEmpty_9 (by decide) ?_
    exact rh_zret hx hb hr (by decide) hlocks hC hH (Nat.le_of_ble_eq_true rfl) (Nat.le_of_ble_eq_true rfl) (⟨if_pos (by rw [spKs_nil hno]; rfl), rfl, rfl⟩) dX3_isEmpty_13
  · refine lv_if_ge (tgt := 12) hx hb dX3_isEmpty_5 (by decide) (fun _ => ?_) (fun z => absurd (nI_pos' (by omega)) z)
    refine lv_iconst (v := 0) hx hb dX3_isEmpty_12 (by decide) ?_
    exact rh_zret hx hb hr (by decide) hlocks hC hH (Nat.le_of_ble_eq_true rfl) (Nat.le_of_ble_eq_true rfl) (⟨if_neg (fun z => absurd (spKs_mem.mpr ⟨b, hbi, hbm, rfl⟩) (by rw [List.length_eq_zero_iff.mp z]; exact List.not_mem_nil)), rfl, rfl⟩) dX3_isEmpty_13

theorem tk_dat {gk gh : Nat → Int32} {kk hm : Nat → Nat} {pu b i : Nat} (hdat : ∀ i : Nat, i < pu → gk i = nI (kk i) ∧ gh i = nI (hm i) ∧ kk i < 2 ^ 20 ∧ hm i ≤ 4) (hi : i < pu) : gk i = nI (kk i) ∧ upd gh b 0 i = nI (va_up hm b 0 i) ∧ kk i < 2 ^ 20 ∧ va_up hm b 0 i ≤ 4 := by
  obtain ⟨h1, h2, h3, h4⟩ := hdat i hi
  by_cases z : i = b
  · subst z
    rw [pk_us, va_up_self]
    exact ⟨h1, rfl, h3, Nat.zero_le _⟩
  · rw [pk_un z, va_up_ne _ _ z]
    exact ⟨h1, h2, h3, h4⟩
theorem tk_flo {gt : Nat → Int32} {fl : Nat → Nat} {r0 k q : Nat} (h : ∀ r : Nat, r < 4 → gt r = nI (fl r) ∧ fl r < 2 ^ 20) (hk : k < 2 ^ 20) (hq : q < 4) : upd gt r0 (nI k) q = nI (va_up fl r0 k q) ∧ va_up fl r0 k q < 2 ^ 20 := by
  by_cases z : q = r0
  · subst z
    rw [pk_us, va_up_self]
    exact ⟨rfl, hk⟩
  · rw [pk_un z, va_up_ne _ _ z]
    exact h q hq
set_option maxHeartbeats 4000000 in
set_option maxRecDepth 100000 in
theorem met_mTake (l : Launch) (D : va_G) (Z : Nat → Nat) (L : List Nat) (f : Nat → va_E) (mo : Nat) (kk hm fl : Nat → Nat) (pu : Nat) (FM : Nat → Prop) (hmo : rhModel D L f mo kk hm fl pu FM) (r : Int32) : Met l yX3_takeLeast (ws_ yX3_takeLeast cX3_takeLeast 3 (some .int)) ({ frames := 1, cells := 0, slots := 0, locals := 24 }) (rhPc D Z L f [.ref mo, .int r]) (rhQi D Z (fun r' L' f' => (spKs kk hm (rhR r) pu = [] ∧ (-1 : Int32) = r' ∧ L = L' ∧ f = f') ∨ (∃ b : Nat, b < pu ∧ hm b = rhR r + 1 ∧ (∀ j ∈ spKs kk hm (rhR r) pu, kk b ≤ j) ∧ nI (kk b) = r' ∧ L = L' ∧ rhModel D L f' mo kk (va_up hm b 0) (va_up fl (rhR r) (kk b)) pu FM ∧ (∀ b ∈ L, ¬ FM b → f' b = f b)))) 0 0 (rhA Z) := by
  refine rh_ofW (by decide +kernel) (Nat.le_of_ble_eq_true rfl) ?_
  intro p e s m args below meth c hx hb hr hlocks hml hown hin hts hC hH ls hl
  have hown : s.vm.findClass RX3 = some m.cls := hown
  have hl : lv_has ls 3 [(0, .ref mo), (1, .int r)] := hl
  obtain ⟨ka, ha, ta, gk, gh, gt, ⟨hmL, hmf⟩, ⟨hkL, hkf⟩, ⟨hhL, hhf⟩, ⟨htL, htf⟩, ⟨hn1, hn2, hn3⟩, hdat, hflo, hpu, rfl⟩ := hmo
  have hrl := rhR_lt r
  refine lv_aload_n hx hb dX3_takeLeast_0 rfl (lv_at hl 0 rfl) ?_
  refine lv_iload_n hx hb dX3_takeLeast_1 rfl (lv_at hl 1 rfl) ?_
  refine rh_ki hC hH (va_runV (As := [.int r]) (rest := []) ⟨hx, hb, hml, hown, hts⟩ (met_first l D Z L f mo kk hm fl pu _ ⟨ka, ha, ta, gk, gh, gt, ⟨hmL, hmf⟩, ⟨hkL, hkf⟩, ⟨hhL, hhf⟩, ⟨htL, htf⟩, ⟨hn1, hn2, hn3⟩, hdat, hflo, hpu, rfl⟩ r) (cwV 1 hts (lw_V q561 q563 qs6 q21 q564) rfl rfl rfl (by decide +kernel) ⟨Nat.le_of_ble_eq_true rfl, Nat.le_of_ble_eq_true rfl⟩) (rh_preV hC hH [.int r] (rh_recv hC hH hmL hmf (q := (RX3, TX3, 4)) rfl)) rfl rfl hl.1 rfl (lv_room (Nat.le_of_ble_eq_true rfl)) dX3_takeLeast_2 ⟨Nat.le_of_ble_eq_true rfl, Nat.le_of_ble_eq_true rfl⟩) (fun b141 L141 f141 H locs hp141 hH => ?_)
  obtain ⟨hI, rfl, rfl⟩ := hp141
  refine lv_istore_n (lv' := [(2, .int b141), (0, .ref mo), (1, .int r)]) hx hb dX3_takeLeast_5 rfl hl (by decide) rfl (fun ls hl => ?_)
  refine lv_iload_n hx hb dX3_takeLeast_6 rfl (lv_at hl 0 rfl) ?_
  rcases hI with ⟨rfl, hno⟩ | ⟨b, hbi, rfl, hbm, hbk⟩
  · refine lv_if_ge (tgt := 12) hx hb dX3_takeLeast_7 (by decide) (fun z => absurd z (by decide)) (fun _ => ?_)
    refine lv_iconst (v := -1) hx hb dX3_takeLeast_10 (by decide) ?_
    exact rh_iret hx hb hr hlocks hC hH (Nat.le_of_ble_eq_true rfl) (Nat.le_of_ble_eq_true rfl) (Or.inl ⟨spKs_nil hno, rfl, rfl, rfl⟩) dX3_takeLeast_11
  · refine lv_if_ge (tgt := 12) hx hb dX3_takeLeast_7 (by decide) (fun _ => ?_) (fun z => absurd (nI_pos' (by omega)) z)
    obtain ⟨e1, e2, e3, e4⟩ := hdat b hbi
    refine lv_aload_n hx hb dX3_takeLeast_12 rfl (lv_at hl 1 rfl) ?_
    refine rh_get (ci := 2) (C := RX3) (T := TX3) (N := 4) hx hb hts in_X3 hown hC hH hmL hmf rfl 1 (by decide) (hts _ q531) (fun _ h9 => h9) rfl dX3_takeLeast_13 ?_
    refine lv_iload_n hx hb dX3_takeLeast_16 rfl (lv_at hl 0 rfl) ?_
    refine lv_iconst (v := 0) hx hb dX3_takeLeast_17 (by decide) ?_
    refine rh_iast hx hb hC hH hhL hhf (vp_in_nI (show b < 64 by omega) (by decide)) dX3_takeLeast_18 (fun f142 H locs hu142 hfr142 hH => ?_)
    rw [nI_clamp (show b < 2 ^ 31 by omega)] at hu142
    have hx143 : f142 mo = .inr (2, [.ref ka, .ref ha, .ref ta, .int (nI pu)]) := (hfr142 mo (rh_ne hmf hhf (by nofun))).trans hmf
    have hx144 : f142 ka = eInts D 64 (gk) := (hfr142 ka hn1).trans hkf
    have hx145 : f142 ta = eInts D 4 (gt) := (hfr142 ta (Ne.symm hn3)).trans htf
    have hx146 : f142 ha = eInts D 64 (upd (gh) (b) 0) := hu142
    refine lv_aload_n hx hb dX3_takeLeast_19 rfl (lv_at hl 1 rfl) ?_
    refine rh_get (ci := 2) (C := RX3) (T := TX3) (N := 4) hx hb hts in_X3 hown hC hH hmL hx143 rfl 2 (by decide) (hts _ q532) (fun _ h9 => h9) rfl dX3_takeLeast_20 ?_
    refine lv_iload_n hx hb dX3_takeLeast_23 rfl (lv_at hl 2 rfl) ?_
    refine lv_iconst (v := 3) hx hb dX3_takeLeast_24 (by decide) ?_
    refine lv_iand hx hb dX3_takeLeast_25 ?_
    rw [and_3]
    refine lv_aload_n hx hb dX3_takeLeast_26 rfl (lv_at hl 1 rfl) ?_
    refine rh_get (ci := 2) (C := RX3) (T := TX3) (N := 4) hx hb hts in_X3 hown hC hH hmL hx143 rfl 0 (by decide) (hts _ q530) (fun _ h9 => h9) rfl dX3_takeLeast_27 ?_
    refine lv_iload_n hx hb dX3_takeLeast_30 rfl (lv_at hl 0 rfl) ?_
    refine rh_iald hx hb hC hH hkL hx144 (vp_in_nI (show b < 64 by omega) (by decide)) dX3_takeLeast_31 ?_
    rw [nI_clamp (show b < 2 ^ 31 by omega), e1]
    refine rh_iast hx hb hC hH htL hx145 (vp_in_nI (hrl) (by decide)) dX3_takeLeast_32 (fun f147 H locs hu147 hfr147 hH => ?_)
    rw [nI_clamp (show rhR r < 2 ^ 31 by omega)] at hu147
    have hx148 : f147 mo = .inr (2, [.ref ka, .ref ha, .ref ta, .int (nI pu)]) := (hfr147 mo (rh_ne hx143 hx145 (by nofun))).trans hx143
    have hx149 : f147 ka = eInts D 64 (gk) := (hfr147 ka hn2).trans hx144
    have hx150 : f147 ha = eInts D 64 (upd (gh) (b) 0) := (hfr147 ha hn3).trans hx146
    have hx151 : f147 ta = eInts D 4 (upd (gt) (rhR r) (nI (kk b))) := hu147
    refine lv_aload_n hx hb dX3_takeLeast_33 rfl (lv_at hl 1 rfl) ?_
    refine rh_get (ci := 2) (C := RX3) (T := TX3) (N := 4) hx hb hts in_X3 hown hC hH hmL hx148 rfl 0 (by decide) (hts _ q530) (fun _ h9 => h9) rfl dX3_takeLeast_34 ?_
    refine lv_iload_n hx hb dX3_takeLeast_37 rfl (lv_at hl 0 rfl) ?_
    refine rh_iald hx hb hC hH hkL hx149 (vp_in_nI (show b < 64 by omega) (by decide)) dX3_takeLeast_38 ?_
    rw [nI_clamp (show b < 2 ^ 31 by omega), e1]
    exact rh_iret hx hb hr hlocks hC hH (Nat.le_of_ble_eq_true rfl) (Nat.le_of_ble_eq_true rfl) (Or.inr ⟨b, hbi, hbm, fun j hj => fi_min hbk hj, rfl, rfl, ⟨ka, ha, ta, gk, _, _, ⟨hmL, hx148⟩, ⟨hkL, hx149⟩, ⟨hhL, hx150⟩, ⟨htL, hx151⟩, ⟨hn1, hn2, hn3⟩, fun i hi => tk_dat hdat hi, fun q hq => tk_flo hflo e3 hq, hpu, rfl⟩, fun b hb9 n9 => (hfr147 b (fun z => n9 (Or.inr (Or.inr (Or.inr z))))).trans (hfr142 b (fun z => n9 (Or.inr (Or.inr (Or.inl z)))))⟩) dX3_takeLeast_39

theorem spKs_n {kk hm : Nat → Nat} {r n : Nat} (h : hm n ≠ r + 1) : (spKs kk hm r (n + 1)).length = (spKs kk hm r n).length := by
  show (spKs kk hm r n ++ (if hm n = r + 1 then [kk n] else [])).length = _
  rw [if_neg h, List.append_nil]
theorem spKs_y {kk hm : Nat → Nat} {r n : Nat} (h : hm n = r + 1) : (spKs kk hm r (n + 1)).length = (spKs kk hm r n).length + 1 := by
  show (spKs kk hm r n ++ (if hm n = r + 1 then [kk n] else [])).length = _
  rw [if_pos h, List.length_append]; rfl
set_option maxHeartbeats 4000000 in
set_option maxRecDepth 100000 in
theorem size_loop {p : Program} {l : Launch} {e : Env} {s : State} {m : MethodId} {args : Array Value} {below : List Frame} {meth : Method} {c : Code} {D : va_G} {Z : Nat → Nat} {L : List Nat} {f : Nat → va_E} {mo ka ha ta : Nat} {gk gh : Nat → Int32} {kk hm : Nat → Nat} {pu : Nat} {r : Int32} {H : Heap} {locs : List Loc} (hx : p.tables.exec = Jvm.exec) (hb : c.code = cX3_size) (hr : meth.sig.returnType = some .int) (hlocks : meth.locks = false) (hml : c.maxLocals = 4) (hown : s.vm.findClass RX3 = some m.cls) (hts : ∀ w ∈ lw_all, w.before args s = true) (hC : rhCx D Z s) (hmL : mo ∈ L) (hmf : f mo = eModel ka ha ta (nI pu)) (hkL : ka ∈ L) (hkf : f ka = eInts D 64 gk) (hhL : ha ∈ L) (hhf : f ha = eInts D 64 gh) (hdat : ∀ i : Nat, i < pu → gk i = nI (kk i) ∧ gh i = nI (hm i) ∧ kk i < 2 ^ 20 ∧ hm i ≤ 4) (hpu : pu ≤ 64) :
    ∀ (d i : Nat), i ≤ pu → pu + 1 ≤ i + d → rhHp D Z L f s H locs → ∀ (ls : Array Slot), lv_has ls 4 [(0, .ref mo), (1, .int r), (2, .int (nI (spKs kk hm (rhR r) i).length)), (3, .int (nI i))] → W p l e ({ frames := 0, cells := 0, slots := 0, locals := 0 } : Room) s m args below meth c H locs 0 0 (MQ below (rhQi D Z (fun r' L' f' => nI (spKs kk hm (rhR r) pu).length = r' ∧ L = L' ∧ f = f')) args s 0 0 (rhA Z)) (F0 m 4 ls []) := by
  intro d
  induction d with
  | zero => intro i h1 h2; omega
  | succ d ih =>
    intro i hi hid hH ls hl
    have hrl := rhR_lt r
    refine lv_iload_n hx hb dX3_size_4 rfl (lv_at hl 3 rfl) ?_
    refine lv_aload_n hx hb dX3_size_5 rfl (lv_at hl 0 rfl) ?_
    refine rh_get (ci := 2) (C := RX3) (T := TX3) (N := 4) hx hb hts in_X3 hown hC hH hmL hmf rfl 3 (by decide) (hts _ q533) (fun _ h9 => h9) rfl dX3_size_6 ?_
    refine lv_icmp_ge (tgt := 40) hx hb dX3_size_9 (by decide) (fun c_1 => ?_) (fun c_1 => ?_)
    · have hin2 : i = pu := by
        rcases Nat.lt_or_ge i pu with q | q
        · exact absurd c_1 (nI_ge q (by omega))
        · omega
      subst hin2
      refine lv_iload_n hx hb dX3_size_40 rfl (lv_at hl 2 rfl) ?_
      exact rh_iret hx hb hr hlocks hC hH (Nat.le_of_ble_eq_true rfl) (Nat.le_of_ble_eq_true rfl) (⟨rfl, rfl, rfl⟩) dX3_size_41
    · have hlt : i < pu := by
        rcases Nat.lt_or_ge i pu with q | q
        · exact q
        · exact absurd (nI_le q (by omega)) c_1
      obtain ⟨d1, d2, d3, d4⟩ := hdat i hlt
      refine lv_iload_n hx hb dX3_size_12 rfl (lv_at hl 2 rfl) ?_
      refine lv_aload_n hx hb dX3_size_13 rfl (lv_at hl 0 rfl) ?_
      refine rh_get (ci := 2) (C := RX3) (T := TX3) (N := 4) hx hb hts in_X3 hown hC hH hmL hmf rfl 1 (by decide) (hts _ q531) (fun _ h9 => h9) rfl dX3_size_14 ?_
      refine lv_iload_n hx hb dX3_size_17 rfl (lv_at hl 3 rfl) ?_
      refine rh_iald hx hb hC hH hhL hhf (vp_in_nI (show i < 64 by omega) (by decide)) dX3_size_18 ?_
      rw [nI_clamp (show i < 2 ^ 31 by omega), d2]
      refine lv_iconst (v := 1) hx hb dX3_size_19 (by decide) ?_
      refine lv_iload_n hx hb dX3_size_20 rfl (lv_at hl 1 rfl) ?_
      refine lv_iconst (v := 3) hx hb dX3_size_21 (by decide) ?_
      refine lv_iand hx hb dX3_size_22 ?_
      rw [and_3]
      refine lv_iadd hx hb dX3_size_23 ?_
      rw [one_nI]
      refine lv_icmp_ne (tgt := 31) hx hb dX3_size_24 (by decide) (fun c_2 => ?_) (fun c_2 => ?_)
      · refine lv_iconst (v := 0) hx hb dX3_size_31 (by decide) ?_
        refine lv_iadd hx hb dX3_size_32 ?_
        refine lv_topi (fun y ey => ?_)
        obtain rfl : y = (nI (spKs kk hm (rhR r) (i + 1)).length) := ey.trans (by rw [spKs_n (fun z => c_2 (by rw [z]))]; exact Int32.add_zero _)
        refine lv_istore_n (lv' := [(2, .int (nI (spKs kk hm (rhR r) (i + 1)).length)), (0, .ref mo), (1, .int r), (3, .int (nI i))]) hx hb dX3_size_33 rfl hl (by decide) rfl (fun ls hl => ?_)
        refine lv_iinc (v := nI (i + 1)) (lv' := [(3, .int (nI (i + 1))), (2, .int (nI (spKs kk hm (rhR r) (i + 1)).length)), (0, .ref mo), (1, .int r)]) hx hb dX3_size_34 hl (k := 3) rfl (nI_1 i) (by decide) rfl (fun ls hl => ?_)
        refine lv_goto (tgt := 4) hx hb dX3_size_37 (by decide) ?_
        exact ih (i + 1) hlt (by omega) hH ls (lv_sub hl [2, 3, 1, 0] rfl)
      · refine lv_iconst (v := 1) hx hb dX3_size_27 (by decide) ?_
        refine lv_goto (tgt := 32) hx hb dX3_size_28 (by decide) ?_
        refine lv_iadd hx hb dX3_size_32 ?_
        refine lv_topi (fun y ey => ?_)
        obtain rfl : y = (nI (spKs kk hm (rhR r) (i + 1)).length) := ey.trans (by rw [spKs_y ((nI_eq (by omega) (by omega)).mp c_2)]; exact nI_1 _)
        refine lv_istore_n (lv' := [(2, .int (nI (spKs kk hm (rhR r) (i + 1)).length)), (0, .ref mo), (1, .int r), (3, .int (nI i))]) hx hb dX3_size_33 rfl hl (by decide) rfl (fun ls hl => ?_)
        refine lv_iinc (v := nI (i + 1)) (lv' := [(3, .int (nI (i + 1))), (2, .int (nI (spKs kk hm (rhR r) (i + 1)).length)), (0, .ref mo), (1, .int r)]) hx hb dX3_size_34 hl (k := 3) rfl (nI_1 i) (by decide) rfl (fun ls hl => ?_)
        refine lv_goto (tgt := 4) hx hb dX3_size_37 (by decide) ?_
        exact ih (i + 1) hlt (by omega) hH ls (lv_sub hl [2, 3, 1, 0] rfl)

set_option maxHeartbeats 4000000 in
set_option maxRecDepth 100000 in
theorem met_mSize (l : Launch) (D : va_G) (Z : Nat → Nat) (L : List Nat) (f : Nat → va_E) (mo : Nat) (kk hm fl : Nat → Nat) (pu : Nat) (FM : Nat → Prop) (hmo : rhModel D L f mo kk hm fl pu FM) (r : Int32) : Met l yX3_size (ws_ yX3_size cX3_size 4 (some .int)) ({ frames := 0, cells := 0, slots := 0, locals := 0 }) (rhPc D Z L f [.ref mo, .int r]) (rhQi D Z (fun r' L' f' => nI (spKs kk hm (rhR r) pu).length = r' ∧ L = L' ∧ f = f')) 0 0 (rhA Z) := by
  refine rh_ofW (by decide +kernel) (Nat.le_of_ble_eq_true rfl) ?_
  intro p e s m args below meth c hx hb hr hlocks hml hown hin hts hC hH ls hl
  have hown : s.vm.findClass RX3 = some m.cls := hown
  have hl : lv_has ls 4 [(0, .ref mo), (1, .int r)] := hl
  obtain ⟨ka, ha, ta, gk, gh, gt, ⟨hmL, hmf⟩, ⟨hkL, hkf⟩, ⟨hhL, hhf⟩, ⟨htL, htf⟩, ⟨hn1, hn2, hn3⟩, hdat, hflo, hpu, rfl⟩ := hmo
  refine lv_iconst (v := 0) hx hb dX3_size_0 (by decide) ?_
  refine lv_istore_n (lv' := [(2, .int 0), (0, .ref mo), (1, .int r)]) hx hb dX3_size_1 rfl hl (by decide) rfl (fun ls hl => ?_)
  refine lv_iconst (v := 0) hx hb dX3_size_2 (by decide) ?_
  refine lv_istore_n (lv' := [(3, .int 0), (2, .int 0), (0, .ref mo), (1, .int r)]) hx hb dX3_size_3 rfl hl (by decide) rfl (fun ls hl => ?_)
  exact size_loop hx hb hr hlocks hml hown hts hC hmL hmf hkL hkf hhL hhf hdat hpu (pu + 1) 0 (Nat.zero_le _) (by omega) hH ls (lv_sub hl [2, 3, 1, 0] rfl)

theorem rn_skip {hm : Nat → Nat} {g : Nat → Int32} {i j h : Nat} (hne : hm i ≠ h + 1) (hg : g j = nI (if j < i ∧ hm j = h + 1 then 0 else hm j)) : g j = nI (if j < i + 1 ∧ hm j = h + 1 then 0 else hm j) := by
  rw [hg]
  congr 1
  by_cases z : j < i ∧ hm j = h + 1
  · rw [if_pos z, if_pos ⟨by omega, z.2⟩]
  · rw [if_neg z, if_neg (fun z2 => ?_)]
    by_cases q : j = i
    · rw [q] at z2; exact hne z2.2
    · exact z ⟨by omega, z2.2⟩
theorem rn_step {hm : Nat → Nat} {g : Nat → Int32} {i j h : Nat} (heq : hm i = h + 1) (hg : g j = nI (if j < i ∧ hm j = h + 1 then 0 else hm j)) : upd g i 0 j = nI (if j < i + 1 ∧ hm j = h + 1 then 0 else hm j) := by
  by_cases q : j = i
  · subst q
    rw [pk_us, if_pos ⟨by omega, heq⟩]; rfl
  · rw [pk_un q, hg]
    congr 1
    by_cases z : j < i ∧ hm j = h + 1
    · rw [if_pos z, if_pos ⟨by omega, z.2⟩]
    · rw [if_neg z, if_neg (fun z2 => z ⟨by omega, z2.2⟩)]
theorem rn_dat {gk g gh : Nat → Int32} {kk hm : Nat → Nat} {pu h j : Nat} (hdat : ∀ i : Nat, i < pu → gk i = nI (kk i) ∧ gh i = nI (hm i) ∧ kk i < 2 ^ 20 ∧ hm i ≤ 4) (hg : ∀ j : Nat, j < pu → g j = nI (if j < pu ∧ hm j = h + 1 then 0 else hm j)) (hj : j < pu) : gk j = nI (kk j) ∧ g j = nI (if hm j = h + 1 then 0 else hm j) ∧ kk j < 2 ^ 20 ∧ (if hm j = h + 1 then 0 else hm j) ≤ 4 := by
  obtain ⟨h1, h2, h3, h4⟩ := hdat j hj
  have h5 := hg j hj
  by_cases z : hm j = h + 1
  · rw [if_pos ⟨hj, z⟩] at h5
    rw [if_pos z]
    exact ⟨h1, h5, h3, Nat.zero_le _⟩
  · rw [if_neg (fun q => z q.2)] at h5
    rw [if_neg z]
    exact ⟨h1, h5, h3, h4⟩
set_option maxHeartbeats 4000000 in
set_option maxRecDepth 100000 in
theorem renew_loop {p : Program} {l : Launch} {e : Env} {s : State} {m : MethodId} {args : Array Value} {below : List Frame} {meth : Method} {c : Code} {D : va_G} {Z : Nat → Nat} {L : List Nat} {f : Nat → va_E} {mo ka ha ta : Nat} {gk gh gt : Nat → Int32} {kk hm fl : Nat → Nat} {pu : Nat} {r : Int32} (hx : p.tables.exec = Jvm.exec) (hb : c.code = cX3_renew) (hr : meth.sig.returnType = none) (hlocks : meth.locks = false) (hml : c.maxLocals = 3) (hown : s.vm.findClass RX3 = some m.cls) (hts : ∀ w ∈ lw_all, w.before args s = true) (hC : rhCx D Z s) (hmL : mo ∈ L) (hkL : ka ∈ L) (hhL : ha ∈ L) (htL : ta ∈ L) (hn1 : ka ≠ ha) (hn2 : ka ≠ ta) (hn3 : ha ≠ ta) (hdat : ∀ i : Nat, i < pu → gk i = nI (kk i) ∧ gh i = nI (hm i) ∧ kk i < 2 ^ 20 ∧ hm i ≤ 4) (hflo : ∀ r : Nat, r < 4 → gt r = nI (fl r) ∧ fl r < 2 ^ 20) (hpu : pu ≤ 64) :
    ∀ (d i : Nat), i ≤ pu → pu + 1 ≤ i + d → ∀ (f1 : Nat → va_E) (g1 : Nat → Int32) (H : Heap) (locs : List Loc), f1 mo = eModel ka ha ta (nI pu) → f1 ka = eInts D 64 gk → f1 ha = eInts D 64 g1 → f1 ta = eInts D 4 gt → (∀ j : Nat, j < pu → g1 j = nI (if j < i ∧ hm j = rhR r + 1 then 0 else hm j)) → (∀ b ∈ L, b ≠ ha → f1 b = f b) → rhHp D Z L f1 s H locs → ∀ (ls : Array Slot), lv_has ls 3 [(0, .ref mo), (1, .int r), (2, .int (nI i))] → W p l e ({ frames := 0, cells := 0, slots := 0, locals := 0 } : Room) s m args below meth c H locs 0 0 (MQ below (rhQv D Z (fun L' f' => L = L' ∧ rhModel D L f' mo kk (fun j => if hm j = rhR r + 1 then 0 else hm j) (va_up fl (rhR r) 0) pu (fun b => b = mo ∨ b = ka ∨ b = ha ∨ b = ta) ∧ (∀ b ∈ L, ¬ (fun b => b = mo ∨ b = ka ∨ b = ha ∨ b = ta) b → f' b = f b))) args s 0 0 (rhA Z)) (F0 m 2 ls []) := by
  intro d
  induction d with
  | zero => intro i h1 h2; omega
  | succ d ih =>
    intro i hi hid f1 g1 H locs hmf hkf hhf htf hg hfr hH ls hl
    have hrl := rhR_lt r
    refine lv_iload_n hx hb dX3_renew_2 rfl (lv_at hl 2 rfl) ?_
    refine lv_aload_n hx hb dX3_renew_3 rfl (lv_at hl 0 rfl) ?_
    refine rh_get (ci := 2) (C := RX3) (T := TX3) (N := 4) hx hb hts in_X3 hown hC hH hmL hmf rfl 3 (by decide) (hts _ q533) (fun _ h9 => h9) rfl dX3_renew_4 ?_
    refine lv_icmp_ge (tgt := 37) hx hb dX3_renew_7 (by decide) (fun c_1 => ?_) (fun c_1 => ?_)
    · have hin2 : i = pu := by
        rcases Nat.lt_or_ge i pu with q | q
        · exact absurd c_1 (nI_ge q (by omega))
        · omega
      rw [hin2] at hg
      refine lv_aload_n hx hb dX3_renew_37 rfl (lv_at hl 0 rfl) ?_
      refine rh_get (ci := 2) (C := RX3) (T := TX3) (N := 4) hx hb hts in_X3 hown hC hH hmL hmf rfl 2 (by decide) (hts _ q532) (fun _ h9 => h9) rfl dX3_renew_38 ?_
      refine lv_iload_n hx hb dX3_renew_41 rfl (lv_at hl 1 rfl) ?_
      refine lv_iconst (v := 3) hx hb dX3_renew_42 (by decide) ?_
      refine lv_iand hx hb dX3_renew_43 ?_
      rw [and_3]
      refine lv_iconst (v := 0) hx hb dX3_renew_44 (by decide) ?_
      refine rh_iast hx hb hC hH htL htf (vp_in_nI (hrl) (by decide)) dX3_renew_45 (fun f152 H locs hu152 hfr152 hH => ?_)
      rw [nI_clamp (show rhR r < 2 ^ 31 by omega)] at hu152
      have hx153 : f152 mo = .inr (2, [.ref ka, .ref ha, .ref ta, .int (nI pu)]) := (hfr152 mo (rh_ne hmf htf (by nofun))).trans hmf
      have hx154 : f152 ka = eInts D 64 (gk) := (hfr152 ka hn2).trans hkf
      have hx155 : f152 ha = eInts D 64 (g1) := (hfr152 ha hn3).trans hhf
      have hx156 : f152 ta = eInts D 4 (upd (gt) (rhR r) 0) := hu152
      exact rh_vret hx hb hr hlocks hC hH (Nat.le_of_ble_eq_true rfl) (Nat.le_of_ble_eq_true rfl) (⟨rfl, ⟨ka, ha, ta, gk, g1, _, ⟨hmL, hx153⟩, ⟨hkL, hx154⟩, ⟨hhL, hx155⟩, ⟨htL, hx156⟩, ⟨hn1, hn2, hn3⟩, fun j hj => rn_dat hdat hg hj, fun q hq => tk_flo (k := 0) hflo (by decide) hq, hpu, rfl⟩, fun b hb9 n9 => (hfr152 b (fun z => n9 (Or.inr (Or.inr (Or.inr z))))).trans (hfr b hb9 (fun z => n9 (Or.inr (Or.inr (Or.inl z)))))⟩) dX3_renew_46
    · have hlt : i < pu := by
        rcases Nat.lt_or_ge i pu with q | q
        · exact q
        · exact absurd (nI_le q (by omega)) c_1
      have hgi := hg i hlt
      rw [if_neg (fun z => absurd z.1 (Nat.lt_irrefl i))] at hgi
      obtain ⟨d1, d2, d3, d4⟩ := hdat i hlt
      refine lv_aload_n hx hb dX3_renew_10 rfl (lv_at hl 0 rfl) ?_
      refine rh_get (ci := 2) (C := RX3) (T := TX3) (N := 4) hx hb hts in_X3 hown hC hH hmL hmf rfl 1 (by decide) (hts _ q531) (fun _ h9 => h9) rfl dX3_renew_11 ?_
      refine lv_iload_n hx hb dX3_renew_14 rfl (lv_at hl 2 rfl) ?_
      refine rh_iald hx hb hC hH hhL hhf (vp_in_nI (show i < 64 by omega) (by decide)) dX3_renew_15 ?_
      rw [nI_clamp (show i < 2 ^ 31 by omega), hgi]
      refine lv_iconst (v := 1) hx hb dX3_renew_16 (by decide) ?_
      refine lv_iload_n hx hb dX3_renew_17 rfl (lv_at hl 1 rfl) ?_
      refine lv_iconst (v := 3) hx hb dX3_renew_18 (by decide) ?_
      refine lv_iand hx hb dX3_renew_19 ?_
      rw [and_3]
      refine lv_iadd hx hb dX3_renew_20 ?_
      rw [one_nI]
      refine lv_icmp_ne (tgt := 31) hx hb dX3_renew_21 (by decide) (fun c_2 => ?_) (fun c_2 => ?_)
      · have hne : hm i ≠ rhR r + 1 := fun z => c_2 (by rw [z])
        refine lv_iinc (v := nI (i + 1)) (lv' := [(2, .int (nI (i + 1))), (0, .ref mo), (1, .int r)]) hx hb dX3_renew_31 hl (k := 2) rfl (nI_1 i) (by decide) rfl (fun ls hl => ?_)
        refine lv_goto (tgt := 2) hx hb dX3_renew_34 (by decide) ?_
        exact ih (i + 1) hlt (by omega) f1 g1 _ _ hmf hkf hhf htf (fun j hj => rn_skip hne (hg j hj)) hfr hH ls (lv_sub hl [1, 2, 0] rfl)
      · have heq : hm i = rhR r + 1 := (nI_eq (by omega) (by omega)).mp c_2
        refine lv_aload_n hx hb dX3_renew_24 rfl (lv_at hl 0 rfl) ?_
        refine rh_get (ci := 2) (C := RX3) (T := TX3) (N := 4) hx hb hts in_X3 hown hC hH hmL hmf rfl 1 (by decide) (hts _ q531) (fun _ h9 => h9) rfl dX3_renew_25 ?_
        refine lv_iload_n hx hb dX3_renew_28 rfl (lv_at hl 2 rfl) ?_
        refine lv_iconst (v := 0) hx hb dX3_renew_29 (by decide) ?_
        refine rh_iast hx hb hC hH hhL hhf (vp_in_nI (show i < 64 by omega) (by decide)) dX3_renew_30 (fun f157 H locs hu157 hfr157 hH => ?_)
        rw [nI_clamp (show i < 2 ^ 31 by omega)] at hu157
        have hx158 : f157 mo = .inr (2, [.ref ka, .ref ha, .ref ta, .int (nI pu)]) := (hfr157 mo (rh_ne hmf hhf (by nofun))).trans hmf
        have hx159 : f157 ka = eInts D 64 (gk) := (hfr157 ka hn1).trans hkf
        have hx160 : f157 ta = eInts D 4 (gt) := (hfr157 ta (Ne.symm hn3)).trans htf
        have hx161 : f157 ha = eInts D 64 (upd (g1) (i) 0) := hu157
        refine lv_iinc (v := nI (i + 1)) (lv' := [(2, .int (nI (i + 1))), (0, .ref mo), (1, .int r)]) hx hb dX3_renew_31 hl (k := 2) rfl (nI_1 i) (by decide) rfl (fun ls hl => ?_)
        refine lv_goto (tgt := 2) hx hb dX3_renew_34 (by decide) ?_
        exact ih (i + 1) hlt (by omega) f157 _ _ _ hx158 hx159 hx161 hx160 (fun j hj => rn_step heq (hg j hj)) (fun b hb9 n9 => (hfr157 b n9).trans (hfr b hb9 n9)) hH ls (lv_sub hl [1, 2, 0] rfl)

set_option maxHeartbeats 4000000 in
set_option maxRecDepth 100000 in
theorem met_mRenew (l : Launch) (D : va_G) (Z : Nat → Nat) (L : List Nat) (f : Nat → va_E) (mo : Nat) (kk hm fl : Nat → Nat) (pu : Nat) (FM : Nat → Prop) (hmo : rhModel D L f mo kk hm fl pu FM) (r : Int32) : Met l yX3_renew (ws_ yX3_renew cX3_renew 3 (none)) ({ frames := 0, cells := 0, slots := 0, locals := 0 }) (rhPc D Z L f [.ref mo, .int r]) (rhQv D Z (fun L' f' => L = L' ∧ rhModel D L f' mo kk (fun j => if hm j = rhR r + 1 then 0 else hm j) (va_up fl (rhR r) 0) pu FM ∧ (∀ b ∈ L, ¬ FM b → f' b = f b))) 0 0 (rhA Z) := by
  refine rh_ofW (by decide +kernel) (Nat.le_of_ble_eq_true rfl) ?_
  intro p e s m args below meth c hx hb hr hlocks hml hown hin hts hC hH ls hl
  have hown : s.vm.findClass RX3 = some m.cls := hown
  have hl : lv_has ls 3 [(0, .ref mo), (1, .int r)] := hl
  obtain ⟨ka, ha, ta, gk, gh, gt, ⟨hmL, hmf⟩, ⟨hkL, hkf⟩, ⟨hhL, hhf⟩, ⟨htL, htf⟩, ⟨hn1, hn2, hn3⟩, hdat, hflo, hpu, rfl⟩ := hmo
  refine lv_iconst (v := 0) hx hb dX3_renew_0 (by decide) ?_
  refine lv_istore_n (lv' := [(2, .int 0), (0, .ref mo), (1, .int r)]) hx hb dX3_renew_1 rfl hl (by decide) rfl (fun ls hl => ?_)
  exact renew_loop hx hb hr hlocks hml hown hts hC hmL hkL hhL htL hn1 hn2 hn3 hdat hflo hpu (pu + 1) 0 (Nat.zero_le _) (by omega) f gh _ [] hmf hkf hhf htf (fun j hj => by rw [if_neg (fun z => absurd z.1 (Nat.not_lt_zero j))]; exact (hdat j hj).2.1) (fun b _ _ => rfl) hH ls (lv_sub hl [1, 2, 0] rfl)
end
section
/-! THE CLAIM OUT OF ONE WALK OF THE LAW'S BODY. Your part is whole_start (and what it stands on); all else here is the same for every law, but numbers. -/
def R_law : String := "LongRadixHeapDeskLaw"
def lw_P (b : Addr) (xs : List Int32) (args : Array Value) (s : State) : Prop := args = #[.ref b] ∧ s.IntsAt b xs ∧ xs.length ≤ 384 ∧ (Jvm.Cond.and given_1 narrow_1).before args s = true
def lw_Q (_ : Array Value) (s : State) (o : Outcome) (t : State) : Prop := o = .returned (some (.int 1)) ∧ Framed s o t [] 1200128 5501098
def lw_Z (below : List Frame) (a : Array Value) (s : State) : State → Prop := fun t => ∃ o, t.status = .running ∧ Ended t below o ∧ lw_Q a s o t
/-- the law's own end, with 1 on the stack, nothing written that was there before, its room as the claim has it -/
theorem lw_ret {p : Program} {l : Launch} {e : Env} {s : State} {m : MethodId} {below : List Frame} {meth : Method} {c : Code} {b : Nat} (hx : p.tables.exec = Jvm.exec) (hb : c.code = code) (hr : meth.sig.returnType = ret) (hlocks : meth.locks = false) {pc : Nat} {H : Heap} {ls : Array Slot} (hdg : decode code pc = .ok (.ireturn, 1)) : W p l e room_1 s m #[Value.ref b] below meth c H [] 1200128 5501098 (lw_Z below #[Value.ref b] s) (F0 m pc ls [.int 1]) := by
  intro T hT X
  obtain ⟨fs, hret, hrun, hended, hW, hframe⟩ := X.leave (v := some (.int 1)) (hlocks := hlocks) (fun h => by rw [hr] at h; cases h)
  have hmeth' : T.vm.method? m = some meth := X.method'
  refine ⟨T.setFrames fs, ?_, .returned (some (.int 1)), hrun, hended, rfl, ⟨_, rfl⟩, hW, hframe⟩
  jvm_step X.here [X.here.top, hx, hb, hdg, hmeth', hr, ret, narrow_b1]
  (try refine ⟨rfl, ?_⟩); (try refine ⟨rfl, ?_⟩)
  first | (intro acts; rw [hret _ acts rfl rfl rfl]) | rw [hret _ _ rfl rfl rfl]
  exact Steps.refl _
/-- what holds at the law's entry: the machine, the code, the tables' words (any of lw_tbl by 'hts w (by decide +kernel)'), the script of L ints xs at the cell b, what the Statement gives of the start (any of its parts by flat_of_before) -/
def lw_At (p : Program) (s : State) (m : MethodId) (meth : Method) (c : Code) (b L : Nat) (xs : Nat → Int32) : Prop :=
  p.tables.exec = Jvm.exec ∧ c.code = code ∧ meth.sig.returnType = ret ∧ c.maxLocals = 4 ∧ s.vm.findClass R_law = some m.cls ∧ (∀ w ∈ lw_tbl, w.before #[Value.ref b] s = true) ∧ va_X b L xs s s.heap ∧ b < s.heap.size ∧ meth.locks = false ∧ (Jvm.Cond.and given_1 narrow_1).before #[Value.ref b] s = true
end
section
/-! the law: desk and reference go in step (printed by tools/p21.py) -/
theorem rhDesk.obj {D : va_G} {Z : Nat → Nat} {L : List Nat} {f : Nat → va_E} {d : Nat} {K : Nat → List Nat} {fl : Nat → Nat} {pu : Nat} {FD : Nat → Prop} (h : rhDesk D Z L f d K fl pu FD) : d ∈ L ∧ ∃ fs : List Value, f d = .inr (0, fs) := by
  obtain ⟨fi, fa, hh, bb, ll, ee, G, g, ⟨h1, h2⟩, -⟩ := h
  exact ⟨h1, _, h2⟩
theorem rhModel.obj {D : va_G} {L : List Nat} {f : Nat → va_E} {mo : Nat} {kk hm fl : Nat → Nat} {pu : Nat} {FM : Nat → Prop} (h : rhModel D L f mo kk hm fl pu FM) : mo ∈ L ∧ ∃ fs : List Value, f mo = .inr (2, fs) := by
  obtain ⟨ka, ha, ta, gk, gh, gt, ⟨a1, a2⟩, -⟩ := h
  exact ⟨a1, _, a2⟩
theorem rhDesk.gr {D : va_G} {Z : Nat → Nat} {L L' : List Nat} {f f' : Nat → va_E} {d : Nat} {K : Nat → List Nat} {fl : Nat → Nat} {pu : Nat} {FD : Nat → Prop} (h : rhDesk D Z L f d K fl pu FD) (hZ : Z 1 ∉ L) (hs : ∀ b ∈ L, b ∈ L') (hk : ∀ b ∈ L, f' b = f b) : rhDesk D Z L' f' d K fl pu FD := by
  obtain ⟨fi, fa, hh, bb, ll, ee, G, g, ⟨h1, h1f⟩, ⟨h2, h2f, h2g⟩, ⟨h3, h3f, h3g⟩, h4, h5, rfl⟩ := h
  exact ⟨fi, fa, hh, bb, ll, ee, G, g, ⟨hs _ h1, (hk _ h1).trans h1f⟩, ⟨hs _ h2, (hk _ h2).trans h2f, h2g⟩, ⟨hs _ h3, (hk _ h3).trans h3f, h3g⟩, h4.frA hs hZ hk, h5, rfl⟩
def rhRel (D : va_G) (Z : Nat → Nat) (L : List Nat) (f : Nat → va_E) (d mo : Nat) (K : Nat → List Nat) (fl : Nat → Nat) (pu : Nat) (kk hm : Nat → Nat) : Prop := ∃ FD FM : Nat → Prop, rhDesk D Z L f d K fl pu FD ∧ rhModel D L f mo kk hm fl pu FM ∧ (∀ r : Nat, r < 4 → (K r).Perm (spKs kk hm r pu)) ∧ ∀ b : Nat, FD b → ¬ FM b
theorem rl_d {D : va_G} {L L' : List Nat} {f f' : Nat → va_E} {mo : Nat} {kk hm fl : Nat → Nat} {pu : Nat} {FD FD' FM : Nat → Prop} (hm0 : rhModel D L f mo kk hm fl pu FM) (hdis : ∀ b : Nat, FD b → ¬ FM b) (h1 : ∀ b : Nat, FD' b → FD b ∨ b ∉ L) (h2 : ∀ b ∈ L, ¬ FD b → f' b = f b) (h3 : ∀ b ∈ L, b ∈ L') : rhModel D L' f' mo kk hm fl pu FM ∧ ∀ b : Nat, FD' b → ¬ FM b := by
  refine ⟨hm0.fr h3 (fun b hb hM => h2 b hb (fun z => hdis b z hM)), fun b hb hM => ?_⟩
  rcases h1 b hb with h | h
  · exact hdis b h hM
  · exact h (hm0.inL b hM)
theorem rl_m {D : va_G} {Z : Nat → Nat} {L : List Nat} {f f' : Nat → va_E} {d mo : Nat} {K : Nat → List Nat} {fl fl0 kk hm : Nat → Nat} {pu pu0 : Nat} {FD FM : Nat → Prop} (hd : rhDesk D Z L f d K fl pu FD) (hm0 : rhModel D L f mo kk hm fl0 pu0 FM) (hdis : ∀ b : Nat, FD b → ¬ FM b) (hZ : Z 1 ∉ L) (h2 : ∀ b ∈ L, ¬ FM b → f' b = f b) : rhDesk D Z L f' d K fl pu FD :=
  hd.fr hZ (fun b hb hD => h2 b hb (hdis b hD)) (fun b hb _ he => h2 b hb (hm0.long he))
theorem rl_put {K : Nat → List Nat} {kk hm : Nat → Nat} {pu r0 k : Nat} (h : ∀ r : Nat, r < 4 → (K r).Perm (spKs kk hm r pu)) : ∀ r : Nat, r < 4 → (va_up K r0 (k :: K r0) r).Perm (spKs (va_up kk pu k) (va_up hm pu (r0 + 1)) r (pu + 1)) := by
  intro r hr
  rw [spKs_lay]
  by_cases z : r = r0
  · subst z
    rw [va_up_self, if_pos rfl]
    exact ((h r hr).cons k).trans (List.perm_append_comm (l₁ := [k]))
  · rw [va_up_ne _ _ z, if_neg z, List.append_nil]
    exact h r hr
theorem rl_off {kk hm : Nat → Nat} {b r r0 n : Nat} (hb : hm b = r0 + 1) (z : r ≠ r0) : spKs kk (va_up hm b 0) r n = spKs kk hm r n := by
  refine spKs_congr (fun i _ => ⟨rfl, ?_⟩)
  by_cases q : i = b
  · subst q
    rw [va_up_self]
    constructor
    · intro h9; omega
    · intro h9; omega
  · rw [va_up_ne _ _ q]
theorem rl_take {K : Nat → List Nat} {kk hm : Nat → Nat} {pu r0 b : Nat} (h : ∀ r : Nat, r < 4 → (K r).Perm (spKs kk hm r pu)) (hb : b < pu) (hhm : hm b = r0 + 1) : ∀ r : Nat, r < 4 → (va_up K r0 ((K r0).erase (kk b)) r).Perm (spKs kk (va_up hm b 0) r pu) := by
  intro r hr
  by_cases z : r = r0
  · subst z
    rw [va_up_self]
    have h1 := ((h r hr).trans (spKs_take hhm hb)).erase (kk b)
    rw [List.erase_cons_head] at h1
    exact h1
  · rw [va_up_ne _ _ z, rl_off hhm z]
    exact h r hr
theorem rl_renew {K : Nat → List Nat} {kk hm : Nat → Nat} {pu r0 : Nat} (h : ∀ r : Nat, r < 4 → (K r).Perm (spKs kk hm r pu)) : ∀ r : Nat, r < 4 → (va_up K r0 [] r).Perm (spKs kk (fun j => if hm j = r0 + 1 then 0 else hm j) r pu) := by
  intro r hr
  by_cases z : r = r0
  · subst z
    rw [va_up_self, spKs_nil (fun i _ => ?_)]
    show (if hm i = r + 1 then 0 else hm i) ≠ r + 1
    by_cases q : hm i = r + 1
    · rw [if_pos q]; omega
    · rw [if_neg q]; exact q
  · rw [va_up_ne _ _ z, spKs_congr (kk := kk) (hm := hm) (fun i _ => ⟨rfl, ?_⟩)]
    · exact h r hr
    · show (if hm i = r0 + 1 then 0 else hm i) = r + 1 ↔ hm i = r + 1
      by_cases q : hm i = r0 + 1
      · rw [if_pos q]
        constructor
        · intro h9; omega
        · intro h9; omega
      · rw [if_neg q]
theorem rl_min {ks ks' : List Nat} {a c : Nat} (hp : ks.Perm ks') (ha : a ∈ ks) (h1 : ∀ j ∈ ks, a ≤ j) (hc : c ∈ ks') (h2 : ∀ j ∈ ks', c ≤ j) : a = c := Nat.le_antisymm (h1 c (hp.mem_iff.mpr hc)) (h2 a (hp.mem_iff.mp ha))
theorem rl_gt {Lx t : Nat} (h : nI Lx - 6 < nI (6 * t)) (hL : 6 * t + 6 ≤ Lx) (hb : Lx ≤ 384) : False := by
  have h1 : nI Lx - 6 = nI (Lx - 6) := by
    rw [show nI Lx = nI (Lx - 6) + 6 from ((nI_add (Lx - 6) 6).trans (by rw [show Lx - 6 + 6 = Lx by omega])).symm]
    exact Int32.add_sub_cancel _ _
  rw [h1] at h
  exact nI_nlt (by omega) (by omega) h
theorem rl_le {Lx t : Nat} (h : ¬ nI Lx - 6 < nI (6 * t)) (ht : t ≤ 64) (hb : Lx ≤ 384) : 6 * t + 6 ≤ Lx := by
  rcases Nat.lt_or_ge Lx 6 with q | q
  · exfalso
    apply h
    have h0 : (0 : Int32) ≤ nI (6 * t) := nI_pos' (by omega)
    have h1 : nI Lx - 6 < 0 := by
      rcases (show Lx = 0 ∨ Lx = 1 ∨ Lx = 2 ∨ Lx = 3 ∨ Lx = 4 ∨ Lx = 5 by omega) with rfl | rfl | rfl | rfl | rfl | rfl <;> decide +kernel
    exact Int32.lt_of_lt_of_le h1 h0
  · have h1 : nI Lx - 6 = nI (Lx - 6) := by
      rw [show nI Lx = nI (Lx - 6) + 6 from ((nI_add (Lx - 6) 6).trans (by rw [show Lx - 6 + 6 = Lx by omega])).symm]
      exact Int32.add_sub_cancel _ _
    rw [h1] at h
    rcases Nat.lt_or_ge Lx (6 * t + 6) with z | z
    · exact absurd (nI_lt (by omega) (by omega)) h
    · exact z
theorem and_15 (x : Int32) : x &&& 15 = nI (x.toBitVec.toNat % 2 ^ 4) := pk_and x 4 (by decide +kernel)
set_option maxHeartbeats 4000000 in
set_option maxRecDepth 100000 in
theorem law_loop {p : Program} {l : Launch} {e : Env} {s : State} {m : MethodId} {below : List Frame} {meth : Method} {c : Code} {D : va_G} {Z : Nat → Nat} {b Lx : Nat} {xs : Nat → Int32} (hx : p.tables.exec = Jvm.exec) (hb : c.code = cL_law) (hr : meth.sig.returnType = ret) (hlocks : meth.locks = false) (hml : c.maxLocals = 4) (hown : s.vm.findClass R_law = some m.cls) (hts : ∀ w ∈ lw_all, w.before #[Value.ref b] s = true) (hC : rhCx D Z s) (hX : va_X b Lx xs s s.heap) (hbl : b < s.heap.size) (hbA : ¬ rhA Z b) (hz : Z 0 = s.heap.size) (hLx : Lx ≤ 384) {d mo : Nat} :
    ∀ (n t : Nat), t ≤ 64 → t + n = 65 → ∀ (L : List Nat) (f : Nat → va_E) (K : Nat → List Nat) (fl : Nat → Nat) (pu : Nat) (kk hm : Nat → Nat) (H : Heap) (locs : List Loc) (cells slots : Nat) (ls : Array Slot), cells ≤ 150 + 70 * t → slots ≤ 600 + 6200 * t → rhRel D Z L f d mo K fl pu kk hm → rhHp D Z L f s H locs → lv_has ls 4 [(0, .ref b), (1, .ref d), (2, .ref mo), (3, .int (nI (6 * t)))] → W p l e room_1 s m #[Value.ref b] below meth c H locs cells slots (lw_Z below #[Value.ref b] s) (F0 m 18 ls []) := by
  intro n
  induction n with
  | zero => intro t h1 h2; omega
  | succ n ih =>
    intro t ht htn L f K fl pu kk hm H locs cells slots ls hce hsl hrel hH hl
    obtain ⟨FD, FM, hd, hm0, hper, hdis⟩ := hrel
    refine lv_iload_n hx hb dL_law_18 rfl (lv_at hl 3 rfl) ?_
    refine lv_aload_n hx hb dL_law_19 rfl (lv_at hl 0 rfl) ?_
    refine va_slen (A := rhA Z) hx hb hX hbl hbA hH.2.2 dL_law_20 ?_
    refine lv_bipush (v := 6) hx hb dL_law_21 (by decide) ?_
    refine lv_isub hx hb dL_law_23 ?_
    refine lv_icmp_gt (tgt := 261) hx hb dL_law_24 (by decide) (fun c_1 => ?_) (fun c_1 => ?_)
    · refine lv_iconst (v := 1) hx hb dL_law_261 (by decide) ?_
      refine va_forget (fun q hq => ?_) (W.widen (k := 1200128) (n := 5501098) (by omega) (by omega) ?_)
      · have h9 := hH.2.2.2.2 q hq
        rw [← hz]
        exact h9
      · exact lw_ret hx hb hr hlocks dL_law_262
    · have hle := rl_le c_1 ht hLx
      have ht2 : t + 1 ≤ 64 := by omega
      have next : ∀ (L' : List Nat) (f' : Nat → va_E) (K' : Nat → List Nat) (fl' : Nat → Nat) (pu' : Nat) (kk' hm' : Nat → Nat) (H' : Heap) (locs' : List Loc) (ce' sl' : Nat) (ls' : Array Slot), ce' ≤ cells + 70 → sl' ≤ slots + 6200 → rhRel D Z L' f' d mo K' fl' pu' kk' hm' → rhHp D Z L' f' s H' locs' → lv_has ls' 4 [(0, .ref b), (1, .ref d), (2, .ref mo), (3, .int (nI (6 * t)))] → W p l e room_1 s m #[Value.ref b] below meth c H' locs' ce' sl' (lw_Z below #[Value.ref b] s) (F0 m 255 ls' []) := by
        intro L' f' K' fl' pu' kk' hm' H' locs' ce' sl' ls' h1 h2 h3 h4 hl
        refine lv_iinc (v := nI (6 * (t + 1))) (lv' := [(3, .int (nI (6 * (t + 1)))), (0, .ref b), (1, .ref d), (2, .ref mo)]) hx hb dL_law_255 hl (k := 3) rfl (nI_add (6 * t) 6) (by decide) rfl (fun ls hl => ?_)
        refine lv_goto (tgt := 18) hx hb dL_law_258 (by decide) ?_
        exact ih (t + 1) ht2 (by omega) L' f' K' fl' pu' kk' hm' H' locs' ce' sl' ls (by omega) (by omega) h3 h4 (lv_sub hl [1, 2, 3, 0] rfl)
      obtain ⟨hdL, dfs, hdf⟩ := hd.obj
      obtain ⟨hmL, mfs, hmf⟩ := hm0.obj
      have hZ := rh_Z1 hC hH
      refine lv_aload_n hx hb dL_law_27 rfl (lv_at hl 0 rfl) ?_
      refine lv_iload_n hx hb dL_law_28 rfl (lv_at hl 3 rfl) ?_
      refine va_sld (A := rhA Z) hx hb hX hbl hbA hH.2.2 (vp_in_nI (show 6 * t < Lx by omega) (by omega)) dL_law_29 ?_
      rw [nI_clamp (show 6 * t < 2 ^ 31 by omega)]
      refine lv_bipush (v := 15) hx hb dL_law_30 (by decide) ?_
      refine lv_iand hx hb dL_law_32 ?_
      rw [and_15]
      have hw : (xs (6 * t)).toBitVec.toNat % 2 ^ 4 < 16 := Nat.mod_lt _ (by decide)
      generalize (xs (6 * t)).toBitVec.toNat % 2 ^ 4 = w at hw
      rcases (show w = 0 ∨ w = 1 ∨ w = 2 ∨ w = 3 ∨ w = 4 ∨ w = 5 ∨ w = 6 ∨ 7 ≤ w by omega) with rfl | rfl | rfl | rfl | rfl | rfl | rfl | hw7
      · refine lv_tableIn (off := 43) (tgt := 76) hx hb dL_law_33 (by decide +kernel) (by decide +kernel) (by decide +kernel) (by decide) ?_
        refine lv_aload_n hx hb dL_law_76 rfl (lv_at hl 1 rfl) ?_
        refine lv_aload_n hx hb dL_law_77 rfl (lv_at hl 0 rfl) ?_
        refine lv_iload_n hx hb dL_law_78 rfl (lv_at hl 3 rfl) ?_
        refine lv_iconst (v := 1) hx hb dL_law_79 (by decide) ?_
        refine lv_iadd hx hb dL_law_80 ?_
        rw [nI_1]
        refine va_sld (A := rhA Z) hx hb hX hbl hbA hH.2.2 (vp_in_nI (show 6 * t + 1 < Lx by omega) (by omega)) dL_law_81 ?_
        rw [nI_clamp (show 6 * t + 1 < 2 ^ 31 by omega)]
        refine lv_aload_n hx hb dL_law_82 rfl (lv_at hl 0 rfl) ?_
        refine lv_iload_n hx hb dL_law_83 rfl (lv_at hl 3 rfl) ?_
        refine lv_iconst (v := 2) hx hb dL_law_84 (by decide) ?_
        refine lv_iadd hx hb dL_law_85 ?_
        rw [show nI (6 * t) + 2 = nI (6 * t + 2) from nI_add (6 * t) 2]
        refine va_sld (A := rhA Z) hx hb hX hbl hbA hH.2.2 (vp_in_nI (show 6 * t + 2 < Lx by omega) (by omega)) dL_law_86 ?_
        rw [nI_clamp (show 6 * t + 2 < 2 ^ 31 by omega)]
        refine rh_ki hC hH (va_runV (As := [.int (xs (6 * t + 1)), .int (xs (6 * t + 2))]) (rest := []) ⟨hx, hb, hml, hown, hts⟩ (met_dPut l D Z L f d K fl pu FD hd (xs (6 * t + 1)) (xs (6 * t + 2))) (cwV 2 hts (lw_V q231 q232 q233 q8 q234) rfl rfl rfl (by decide +kernel) ⟨Nat.le_of_ble_eq_true rfl, Nat.le_of_ble_eq_true rfl⟩) (rh_preV hC hH [.int (xs (6 * t + 1)), .int (xs (6 * t + 2))] (rh_recv hC hH hdL hdf (q := (RX0, TX0, 3)) rfl)) rfl rfl hl.1 rfl (lv_room (Nat.le_of_ble_eq_true rfl)) dL_law_87 ⟨(by show _ ≤ 1200128; omega), (by show _ ≤ 5501098; omega)⟩) (fun r101 L101 f101 H locs hp101 hH => ?_)
        rcases hp101 with ⟨hok, rfl, FD', hd1, g1, g2, g3⟩ | ⟨hno, rfl, rfl, rfl⟩
        · obtain ⟨hm1, hdis1⟩ := rl_d hm0 hdis g1 g2 g3
          have hZ1 := rh_Z1 hC hH
          obtain ⟨hmL, mfs, hmf⟩ := hm1.obj
          refine lv_aload_n hx hb dL_law_90 rfl (lv_at hl 2 rfl) ?_
          refine lv_aload_n hx hb dL_law_91 rfl (lv_at hl 0 rfl) ?_
          refine lv_iload_n hx hb dL_law_92 rfl (lv_at hl 3 rfl) ?_
          refine lv_iconst (v := 1) hx hb dL_law_93 (by decide) ?_
          refine lv_iadd hx hb dL_law_94 ?_
          rw [nI_1]
          refine va_sld (A := rhA Z) hx hb hX hbl hbA hH.2.2 (vp_in_nI (show 6 * t + 1 < Lx by omega) (by omega)) dL_law_95 ?_
          rw [nI_clamp (show 6 * t + 1 < 2 ^ 31 by omega)]
          refine lv_aload_n hx hb dL_law_96 rfl (lv_at hl 0 rfl) ?_
          refine lv_iload_n hx hb dL_law_97 rfl (lv_at hl 3 rfl) ?_
          refine lv_iconst (v := 2) hx hb dL_law_98 (by decide) ?_
          refine lv_iadd hx hb dL_law_99 ?_
          rw [show nI (6 * t) + 2 = nI (6 * t + 2) from nI_add (6 * t) 2]
          refine va_sld (A := rhA Z) hx hb hX hbl hbA hH.2.2 (vp_in_nI (show 6 * t + 2 < Lx by omega) (by omega)) dL_law_100 ?_
          rw [nI_clamp (show 6 * t + 2 < 2 ^ 31 by omega)]
          refine rh_ki hC hH (va_runV (As := [.int (xs (6 * t + 1)), .int (xs (6 * t + 2))]) (rest := [.int 1]) ⟨hx, hb, hml, hown, hts⟩ (met_mPut l D Z L101 f101 mo kk hm fl pu FM hm1 (xs (6 * t + 1)) (xs (6 * t + 2))) (cwV 2 hts (lw_V q543 q544 q545 q21 q546) rfl rfl rfl (by decide +kernel) ⟨Nat.le_of_ble_eq_true rfl, Nat.le_of_ble_eq_true rfl⟩) (rh_preV hC hH [.int (xs (6 * t + 1)), .int (xs (6 * t + 2))] (rh_recv hC hH hmL hmf (q := (RX3, TX3, 4)) rfl)) rfl rfl hl.1 rfl (lv_room (Nat.le_of_ble_eq_true rfl)) dL_law_101 ⟨(by show _ ≤ 1200128; omega), (by show _ ≤ 5501098; omega)⟩) (fun r102 L102 f102 H locs hp102 hH => ?_)
          rcases hp102 with ⟨-, rfl, rfl, hm2, g4⟩ | ⟨z, -⟩
          · refine lv_icmp_eq (tgt := 255) hx hb dL_law_104 (by decide) (fun _ => ?_) (fun z => absurd rfl z)
            exact next L101 f102 _ _ _ _ _ _ _ _ _ ls (by omega) (by omega) ⟨FD', FM, rl_m hd1 hm1 hdis1 hZ1 g4, hm2, rl_put hper, hdis1⟩ hH hl
          · exact absurd hok z
        · obtain ⟨hmL, mfs, hmf⟩ := hm0.obj
          refine lv_aload_n hx hb dL_law_90 rfl (lv_at hl 2 rfl) ?_
          refine lv_aload_n hx hb dL_law_91 rfl (lv_at hl 0 rfl) ?_
          refine lv_iload_n hx hb dL_law_92 rfl (lv_at hl 3 rfl) ?_
          refine lv_iconst (v := 1) hx hb dL_law_93 (by decide) ?_
          refine lv_iadd hx hb dL_law_94 ?_
          rw [nI_1]
          refine va_sld (A := rhA Z) hx hb hX hbl hbA hH.2.2 (vp_in_nI (show 6 * t + 1 < Lx by omega) (by omega)) dL_law_95 ?_
          rw [nI_clamp (show 6 * t + 1 < 2 ^ 31 by omega)]
          refine lv_aload_n hx hb dL_law_96 rfl (lv_at hl 0 rfl) ?_
          refine lv_iload_n hx hb dL_law_97 rfl (lv_at hl 3 rfl) ?_
          refine lv_iconst (v := 2) hx hb dL_law_98 (by decide) ?_
          refine lv_iadd hx hb dL_law_99 ?_
          rw [show nI (6 * t) + 2 = nI (6 * t + 2) from nI_add (6 * t) 2]
          refine va_sld (A := rhA Z) hx hb hX hbl hbA hH.2.2 (vp_in_nI (show 6 * t + 2 < Lx by omega) (by omega)) dL_law_100 ?_
          rw [nI_clamp (show 6 * t + 2 < 2 ^ 31 by omega)]
          refine rh_ki hC hH (va_runV (As := [.int (xs (6 * t + 1)), .int (xs (6 * t + 2))]) (rest := [.int 0]) ⟨hx, hb, hml, hown, hts⟩ (met_mPut l D Z L f mo kk hm fl pu FM hm0 (xs (6 * t + 1)) (xs (6 * t + 2))) (cwV 2 hts (lw_V q543 q544 q545 q21 q546) rfl rfl rfl (by decide +kernel) ⟨Nat.le_of_ble_eq_true rfl, Nat.le_of_ble_eq_true rfl⟩) (rh_preV hC hH [.int (xs (6 * t + 1)), .int (xs (6 * t + 2))] (rh_recv hC hH hmL hmf (q := (RX3, TX3, 4)) rfl)) rfl rfl hl.1 rfl (lv_room (Nat.le_of_ble_eq_true rfl)) dL_law_101 ⟨(by show _ ≤ 1200128; omega), (by show _ ≤ 5501098; omega)⟩) (fun r103 L103 f103 H locs hp103 hH => ?_)
          rcases hp103 with ⟨z, -⟩ | ⟨-, rfl, rfl, rfl⟩
          · exact absurd z hno
          · refine lv_icmp_eq (tgt := 255) hx hb dL_law_104 (by decide) (fun _ => ?_) (fun z => absurd rfl z)
            exact next L f _ _ _ _ _ _ _ _ _ ls (by omega) (by omega) ⟨FD, FM, hd, hm0, hper, hdis⟩ hH hl
      · refine lv_tableIn (off := 76) (tgt := 109) hx hb dL_law_33 (by decide +kernel) (by decide +kernel) (by decide +kernel) (by decide) ?_
        refine lv_aload_n hx hb dL_law_109 rfl (lv_at hl 1 rfl) ?_
        refine lv_aload_n hx hb dL_law_110 rfl (lv_at hl 0 rfl) ?_
        refine lv_iload_n hx hb dL_law_111 rfl (lv_at hl 3 rfl) ?_
        refine lv_iconst (v := 1) hx hb dL_law_112 (by decide) ?_
        refine lv_iadd hx hb dL_law_113 ?_
        rw [nI_1]
        refine va_sld (A := rhA Z) hx hb hX hbl hbA hH.2.2 (vp_in_nI (show 6 * t + 1 < Lx by omega) (by omega)) dL_law_114 ?_
        rw [nI_clamp (show 6 * t + 1 < 2 ^ 31 by omega)]
        refine lv_aload_n hx hb dL_law_115 rfl (lv_at hl 0 rfl) ?_
        refine lv_iload_n hx hb dL_law_116 rfl (lv_at hl 3 rfl) ?_
        refine lv_iconst (v := 2) hx hb dL_law_117 (by decide) ?_
        refine lv_iadd hx hb dL_law_118 ?_
        rw [show nI (6 * t) + 2 = nI (6 * t + 2) from nI_add (6 * t) 2]
        refine va_sld (A := rhA Z) hx hb hX hbl hbA hH.2.2 (vp_in_nI (show 6 * t + 2 < Lx by omega) (by omega)) dL_law_119 ?_
        rw [nI_clamp (show 6 * t + 2 < 2 ^ 31 by omega)]
        refine rh_ki hC hH (va_runV (As := [.int (xs (6 * t + 1)), .int (xs (6 * t + 2))]) (rest := []) ⟨hx, hb, hml, hown, hts⟩ (met_dAbove l D Z L f d K fl pu FD hd (xs (6 * t + 1)) (xs (6 * t + 2))) (cwV 2 hts (lw_V q360 q361 q362 q8 q363) rfl rfl rfl (by decide +kernel) ⟨Nat.le_of_ble_eq_true rfl, Nat.le_of_ble_eq_true rfl⟩) (rh_preV hC hH [.int (xs (6 * t + 1)), .int (xs (6 * t + 2))] (rh_recv hC hH hdL hdf (q := (RX0, TX0, 3)) rfl)) rfl rfl hl.1 rfl (lv_room (Nat.le_of_ble_eq_true rfl)) dL_law_120 ⟨(by show _ ≤ 1200128; omega), (by show _ ≤ 5501098; omega)⟩) (fun r104 L104 f104 H locs hp104 hH => ?_)
        rcases hp104 with ⟨hok, rfl, FD', hd1, g1, g2, g3⟩ | ⟨hno, rfl, rfl, rfl⟩
        · obtain ⟨hm1, hdis1⟩ := rl_d hm0 hdis g1 g2 g3
          have hZ1 := rh_Z1 hC hH
          obtain ⟨hmL, mfs, hmf⟩ := hm1.obj
          refine lv_aload_n hx hb dL_law_123 rfl (lv_at hl 2 rfl) ?_
          refine lv_aload_n hx hb dL_law_124 rfl (lv_at hl 0 rfl) ?_
          refine lv_iload_n hx hb dL_law_125 rfl (lv_at hl 3 rfl) ?_
          refine lv_iconst (v := 1) hx hb dL_law_126 (by decide) ?_
          refine lv_iadd hx hb dL_law_127 ?_
          rw [nI_1]
          refine va_sld (A := rhA Z) hx hb hX hbl hbA hH.2.2 (vp_in_nI (show 6 * t + 1 < Lx by omega) (by omega)) dL_law_128 ?_
          rw [nI_clamp (show 6 * t + 1 < 2 ^ 31 by omega)]
          refine lv_aload_n hx hb dL_law_129 rfl (lv_at hl 0 rfl) ?_
          refine lv_iload_n hx hb dL_law_130 rfl (lv_at hl 3 rfl) ?_
          refine lv_iconst (v := 2) hx hb dL_law_131 (by decide) ?_
          refine lv_iadd hx hb dL_law_132 ?_
          rw [show nI (6 * t) + 2 = nI (6 * t + 2) from nI_add (6 * t) 2]
          refine va_sld (A := rhA Z) hx hb hX hbl hbA hH.2.2 (vp_in_nI (show 6 * t + 2 < Lx by omega) (by omega)) dL_law_133 ?_
          rw [nI_clamp (show 6 * t + 2 < 2 ^ 31 by omega)]
          refine rh_ki hC hH (va_runV (As := [.int (xs (6 * t + 1)), .int (xs (6 * t + 2))]) (rest := [.int 1]) ⟨hx, hb, hml, hown, hts⟩ (met_mAbove l D Z L104 f104 mo kk hm fl pu FM hm1 (xs (6 * t + 1)) (xs (6 * t + 2))) (cwV 2 hts (lw_V q553 q554 q555 q21 q556) rfl rfl rfl (by decide +kernel) ⟨Nat.le_of_ble_eq_true rfl, Nat.le_of_ble_eq_true rfl⟩) (rh_preV hC hH [.int (xs (6 * t + 1)), .int (xs (6 * t + 2))] (rh_recv hC hH hmL hmf (q := (RX3, TX3, 4)) rfl)) rfl rfl hl.1 rfl (lv_room (Nat.le_of_ble_eq_true rfl)) dL_law_134 ⟨(by show _ ≤ 1200128; omega), (by show _ ≤ 5501098; omega)⟩) (fun r105 L105 f105 H locs hp105 hH => ?_)
          rcases hp105 with ⟨-, rfl, rfl, hm2, g4⟩ | ⟨z, -⟩
          · refine lv_icmp_eq (tgt := 255) hx hb dL_law_137 (by decide) (fun _ => ?_) (fun z => absurd rfl z)
            exact next L104 f105 _ _ _ _ _ _ _ _ _ ls (by omega) (by omega) ⟨FD', FM, rl_m hd1 hm1 hdis1 hZ1 g4, hm2, rl_put hper, hdis1⟩ hH hl
          · exact absurd hok z
        · obtain ⟨hmL, mfs, hmf⟩ := hm0.obj
          refine lv_aload_n hx hb dL_law_123 rfl (lv_at hl 2 rfl) ?_
          refine lv_aload_n hx hb dL_law_124 rfl (lv_at hl 0 rfl) ?_
          refine lv_iload_n hx hb dL_law_125 rfl (lv_at hl 3 rfl) ?_
          refine lv_iconst (v := 1) hx hb dL_law_126 (by decide) ?_
          refine lv_iadd hx hb dL_law_127 ?_
          rw [nI_1]
          refine va_sld (A := rhA Z) hx hb hX hbl hbA hH.2.2 (vp_in_nI (show 6 * t + 1 < Lx by omega) (by omega)) dL_law_128 ?_
          rw [nI_clamp (show 6 * t + 1 < 2 ^ 31 by omega)]
          refine lv_aload_n hx hb dL_law_129 rfl (lv_at hl 0 rfl) ?_
          refine lv_iload_n hx hb dL_law_130 rfl (lv_at hl 3 rfl) ?_
          refine lv_iconst (v := 2) hx hb dL_law_131 (by decide) ?_
          refine lv_iadd hx hb dL_law_132 ?_
          rw [show nI (6 * t) + 2 = nI (6 * t + 2) from nI_add (6 * t) 2]
          refine va_sld (A := rhA Z) hx hb hX hbl hbA hH.2.2 (vp_in_nI (show 6 * t + 2 < Lx by omega) (by omega)) dL_law_133 ?_
          rw [nI_clamp (show 6 * t + 2 < 2 ^ 31 by omega)]
          refine rh_ki hC hH (va_runV (As := [.int (xs (6 * t + 1)), .int (xs (6 * t + 2))]) (rest := [.int 0]) ⟨hx, hb, hml, hown, hts⟩ (met_mAbove l D Z L f mo kk hm fl pu FM hm0 (xs (6 * t + 1)) (xs (6 * t + 2))) (cwV 2 hts (lw_V q553 q554 q555 q21 q556) rfl rfl rfl (by decide +kernel) ⟨Nat.le_of_ble_eq_true rfl, Nat.le_of_ble_eq_true rfl⟩) (rh_preV hC hH [.int (xs (6 * t + 1)), .int (xs (6 * t + 2))] (rh_recv hC hH hmL hmf (q := (RX3, TX3, 4)) rfl)) rfl rfl hl.1 rfl (lv_room (Nat.le_of_ble_eq_true rfl)) dL_law_134 ⟨(by show _ ≤ 1200128; omega), (by show _ ≤ 5501098; omega)⟩) (fun r106 L106 f106 H locs hp106 hH => ?_)
          rcases hp106 with ⟨z, -⟩ | ⟨-, rfl, rfl, rfl⟩
          · exact absurd z hno
          · refine lv_icmp_eq (tgt := 255) hx hb dL_law_137 (by decide) (fun _ => ?_) (fun z => absurd rfl z)
            exact next L f _ _ _ _ _ _ _ _ _ ls (by omega) (by omega) ⟨FD, FM, hd, hm0, hper, hdis⟩ hH hl
      · refine lv_tableIn (off := 109) (tgt := 142) hx hb dL_law_33 (by decide +kernel) (by decide +kernel) (by decide +kernel) (by decide) ?_
        refine lv_aload_n hx hb dL_law_142 rfl (lv_at hl 1 rfl) ?_
        refine lv_aload_n hx hb dL_law_143 rfl (lv_at hl 0 rfl) ?_
        refine lv_iload_n hx hb dL_law_144 rfl (lv_at hl 3 rfl) ?_
        refine lv_iconst (v := 1) hx hb dL_law_145 (by decide) ?_
        refine lv_iadd hx hb dL_law_146 ?_
        rw [nI_1]
        refine va_sld (A := rhA Z) hx hb hX hbl hbA hH.2.2 (vp_in_nI (show 6 * t + 1 < Lx by omega) (by omega)) dL_law_147 ?_
        rw [nI_clamp (show 6 * t + 1 < 2 ^ 31 by omega)]
        refine rh_ki hC hH (va_runV (As := [.int (xs (6 * t + 1))]) (rest := []) ⟨hx, hb, hml, hown, hts⟩ (met_dLeast l D Z L f d K fl pu FD hd (xs (6 * t + 1))) (cwV 1 hts (lw_V q364 q365 q366 q8 q367) rfl rfl rfl (by decide +kernel) ⟨Nat.le_of_ble_eq_true rfl, Nat.le_of_ble_eq_true rfl⟩) (rh_preV hC hH [.int (xs (6 * t + 1))] (rh_recv hC hH hdL hdf (q := (RX0, TX0, 3)) rfl)) rfl rfl hl.1 rfl (lv_room (Nat.le_of_ble_eq_true rfl)) dL_law_148 ⟨(by show _ ≤ 1200128; omega), (by show _ ≤ 5501098; omega)⟩) (fun r107 L107 f107 H locs hp107 hH => ?_)
        obtain ⟨hs1, rfl, rfl⟩ := hp107
        obtain ⟨hmL, mfs, hmf⟩ := hm0.obj
        refine lv_aload_n hx hb dL_law_151 rfl (lv_at hl 2 rfl) ?_
        refine lv_aload_n hx hb dL_law_152 rfl (lv_at hl 0 rfl) ?_
        refine lv_iload_n hx hb dL_law_153 rfl (lv_at hl 3 rfl) ?_
        refine lv_iconst (v := 1) hx hb dL_law_154 (by decide) ?_
        refine lv_iadd hx hb dL_law_155 ?_
        rw [nI_1]
        refine va_sld (A := rhA Z) hx hb hX hbl hbA hH.2.2 (vp_in_nI (show 6 * t + 1 < Lx by omega) (by omega)) dL_law_156 ?_
        rw [nI_clamp (show 6 * t + 1 < 2 ^ 31 by omega)]
        refine rh_ki hC hH (va_runV (As := [.int (xs (6 * t + 1))]) (rest := [.int r107]) ⟨hx, hb, hml, hown, hts⟩ (met_mLeast l D Z L f mo kk hm fl pu FM hm0 (xs (6 * t + 1))) (cwV 1 hts (lw_V q557 q558 q559 q21 q560) rfl rfl rfl (by decide +kernel) ⟨Nat.le_of_ble_eq_true rfl, Nat.le_of_ble_eq_true rfl⟩) (rh_preV hC hH [.int (xs (6 * t + 1))] (rh_recv hC hH hmL hmf (q := (RX3, TX3, 4)) rfl)) rfl rfl hl.1 rfl (lv_room (Nat.le_of_ble_eq_true rfl)) dL_law_157 ⟨(by show _ ≤ 1200128; omega), (by show _ ≤ 5501098; omega)⟩) (fun r108 L108 f108 H locs hp108 hH => ?_)
        obtain ⟨hs2, rfl, rfl⟩ := hp108
        refine lv_icmp_eq (tgt := 255) hx hb dL_law_160 (by decide) (fun _ => ?_) (fun z => absurd (spLeast.one (hper _ (rhR_lt _)) hs1 hs2) z)
        exact next L f _ _ _ _ _ _ _ _ _ ls (by omega) (by omega) ⟨FD, FM, hd, hm0, hper, hdis⟩ hH hl
      · refine lv_tableIn (off := 132) (tgt := 165) hx hb dL_law_33 (by decide +kernel) (by decide +kernel) (by decide +kernel) (by decide) ?_
        refine lv_aload_n hx hb dL_law_165 rfl (lv_at hl 1 rfl) ?_
        refine lv_aload_n hx hb dL_law_166 rfl (lv_at hl 0 rfl) ?_
        refine lv_iload_n hx hb dL_law_167 rfl (lv_at hl 3 rfl) ?_
        refine lv_iconst (v := 1) hx hb dL_law_168 (by decide) ?_
        refine lv_iadd hx hb dL_law_169 ?_
        rw [nI_1]
        refine va_sld (A := rhA Z) hx hb hX hbl hbA hH.2.2 (vp_in_nI (show 6 * t + 1 < Lx by omega) (by omega)) dL_law_170 ?_
        rw [nI_clamp (show 6 * t + 1 < 2 ^ 31 by omega)]
        refine rh_ki hC hH (va_runV (As := [.int (xs (6 * t + 1))]) (rest := []) ⟨hx, hb, hml, hown, hts⟩ (met_dTake l D Z L f d K fl pu FD hd (xs (6 * t + 1))) (cwV 1 hts (lw_V q403 q404 q405 q8 q406) rfl rfl rfl (by decide +kernel) ⟨Nat.le_of_ble_eq_true rfl, Nat.le_of_ble_eq_true rfl⟩) (rh_preV hC hH [.int (xs (6 * t + 1))] (rh_recv hC hH hdL hdf (q := (RX0, TX0, 3)) rfl)) rfl rfl hl.1 rfl (lv_room (Nat.le_of_ble_eq_true rfl)) dL_law_171 ⟨(by show _ ≤ 1200128; omega), (by show _ ≤ 5501098; omega)⟩) (fun r109 L109 f109 H locs hp109 hH => ?_)
        rcases hp109 with ⟨hnil, rfl, rfl, rfl⟩ | ⟨k, hkK, hkm, hk20, rfl, FD', hd1, g1, g2, g3⟩
        · obtain ⟨hmL, mfs, hmf⟩ := hm0.obj
          refine lv_aload_n hx hb dL_law_174 rfl (lv_at hl 2 rfl) ?_
          refine lv_aload_n hx hb dL_law_175 rfl (lv_at hl 0 rfl) ?_
          refine lv_iload_n hx hb dL_law_176 rfl (lv_at hl 3 rfl) ?_
          refine lv_iconst (v := 1) hx hb dL_law_177 (by decide) ?_
          refine lv_iadd hx hb dL_law_178 ?_
          rw [nI_1]
          refine va_sld (A := rhA Z) hx hb hX hbl hbA hH.2.2 (vp_in_nI (show 6 * t + 1 < Lx by omega) (by omega)) dL_law_179 ?_
          rw [nI_clamp (show 6 * t + 1 < 2 ^ 31 by omega)]
          refine rh_ki hC hH (va_runV (As := [.int (xs (6 * t + 1))]) (rest := [.int (-1)]) ⟨hx, hb, hml, hown, hts⟩ (met_mTake l D Z L f mo kk hm fl pu FM hm0 (xs (6 * t + 1))) (cwV 1 hts (lw_V q565 q566 q567 q21 q568) rfl rfl rfl (by decide +kernel) ⟨Nat.le_of_ble_eq_true rfl, Nat.le_of_ble_eq_true rfl⟩) (rh_preV hC hH [.int (xs (6 * t + 1))] (rh_recv hC hH hmL hmf (q := (RX3, TX3, 4)) rfl)) rfl rfl hl.1 rfl (lv_room (Nat.le_of_ble_eq_true rfl)) dL_law_180 ⟨(by show _ ≤ 1200128; omega), (by show _ ≤ 5501098; omega)⟩) (fun r110 L110 f110 H locs hp110 hH => ?_)
          rcases hp110 with ⟨-, rfl, rfl, rfl⟩ | ⟨q, hq1, hq2, -⟩
          · refine lv_icmp_eq (tgt := 255) hx hb dL_law_183 (by decide) (fun _ => ?_) (fun z => absurd rfl z)
            exact next L f _ _ _ _ _ _ _ _ _ ls (by omega) (by omega) ⟨FD, FM, hd, hm0, hper, hdis⟩ hH hl
          · have h9 := (hper _ (rhR_lt _)).mem_iff.mpr (spKs_mem.mpr ⟨q, hq1, hq2, rfl⟩)
            rw [hnil] at h9
            exact absurd h9 List.not_mem_nil
        · obtain ⟨hm1, hdis1⟩ := rl_d hm0 hdis g1 g2 g3
          have hZ1 := rh_Z1 hC hH
          obtain ⟨hmL, mfs, hmf⟩ := hm1.obj
          refine lv_aload_n hx hb dL_law_174 rfl (lv_at hl 2 rfl) ?_
          refine lv_aload_n hx hb dL_law_175 rfl (lv_at hl 0 rfl) ?_
          refine lv_iload_n hx hb dL_law_176 rfl (lv_at hl 3 rfl) ?_
          refine lv_iconst (v := 1) hx hb dL_law_177 (by decide) ?_
          refine lv_iadd hx hb dL_law_178 ?_
          rw [nI_1]
          refine va_sld (A := rhA Z) hx hb hX hbl hbA hH.2.2 (vp_in_nI (show 6 * t + 1 < Lx by omega) (by omega)) dL_law_179 ?_
          rw [nI_clamp (show 6 * t + 1 < 2 ^ 31 by omega)]
          refine rh_ki hC hH (va_runV (As := [.int (xs (6 * t + 1))]) (rest := [.int (nI k)]) ⟨hx, hb, hml, hown, hts⟩ (met_mTake l D Z L109 f109 mo kk hm fl pu FM hm1 (xs (6 * t + 1))) (cwV 1 hts (lw_V q565 q566 q567 q21 q568) rfl rfl rfl (by decide +kernel) ⟨Nat.le_of_ble_eq_true rfl, Nat.le_of_ble_eq_true rfl⟩) (rh_preV hC hH [.int (xs (6 * t + 1))] (rh_recv hC hH hmL hmf (q := (RX3, TX3, 4)) rfl)) rfl rfl hl.1 rfl (lv_room (Nat.le_of_ble_eq_true rfl)) dL_law_180 ⟨(by show _ ≤ 1200128; omega), (by show _ ≤ 5501098; omega)⟩) (fun r111 L111 f111 H locs hp111 hH => ?_)
          rcases hp111 with ⟨hnil, -⟩ | ⟨q, hq1, hq2, hq3, rfl, rfl, hm2, g4⟩
          · have h9 := (hper _ (rhR_lt _)).mem_iff.mp hkK
            rw [hnil] at h9
            exact absurd h9 List.not_mem_nil
          · obtain rfl : k = kk q := rl_min (hper _ (rhR_lt _)) hkK hkm (spKs_mem.mpr ⟨q, hq1, hq2, rfl⟩) hq3
            refine lv_icmp_eq (tgt := 255) hx hb dL_law_183 (by decide) (fun _ => ?_) (fun z => absurd rfl z)
            exact next L109 f111 _ _ _ _ _ _ _ _ _ ls (by omega) (by omega) ⟨FD', FM, rl_m hd1 hm1 hdis1 hZ1 g4, hm2, rl_take hper hq1 hq2, hdis1⟩ hH hl
      · refine lv_tableIn (off := 155) (tgt := 188) hx hb dL_law_33 (by decide +kernel) (by decide +kernel) (by decide +kernel) (by decide) ?_
        refine lv_aload_n hx hb dL_law_188 rfl (lv_at hl 1 rfl) ?_
        refine lv_aload_n hx hb dL_law_189 rfl (lv_at hl 0 rfl) ?_
        refine lv_iload_n hx hb dL_law_190 rfl (lv_at hl 3 rfl) ?_
        refine lv_iconst (v := 1) hx hb dL_law_191 (by decide) ?_
        refine lv_iadd hx hb dL_law_192 ?_
        rw [nI_1]
        refine va_sld (A := rhA Z) hx hb hX hbl hbA hH.2.2 (vp_in_nI (show 6 * t + 1 < Lx by omega) (by omega)) dL_law_193 ?_
        rw [nI_clamp (show 6 * t + 1 < 2 ^ 31 by omega)]
        refine rh_ki hC hH (va_runV (As := [.int (xs (6 * t + 1))]) (rest := []) ⟨hx, hb, hml, hown, hts⟩ (met_dSize l D Z L f d K fl pu FD hd (xs (6 * t + 1))) (cwV 1 hts (lw_V q506 q507 q508 q8 q509) rfl rfl rfl (by decide +kernel) ⟨Nat.le_of_ble_eq_true rfl, Nat.le_of_ble_eq_true rfl⟩) (rh_preV hC hH [.int (xs (6 * t + 1))] (rh_recv hC hH hdL hdf (q := (RX0, TX0, 3)) rfl)) rfl rfl hl.1 rfl (lv_room (Nat.le_of_ble_eq_true rfl)) dL_law_194 ⟨(by show _ ≤ 1200128; omega), (by show _ ≤ 5501098; omega)⟩) (fun r112 L112 f112 H locs hp112 hH => ?_)
        obtain ⟨rfl, rfl, rfl⟩ := hp112
        obtain ⟨hmL, mfs, hmf⟩ := hm0.obj
        refine lv_aload_n hx hb dL_law_197 rfl (lv_at hl 2 rfl) ?_
        refine lv_aload_n hx hb dL_law_198 rfl (lv_at hl 0 rfl) ?_
        refine lv_iload_n hx hb dL_law_199 rfl (lv_at hl 3 rfl) ?_
        refine lv_iconst (v := 1) hx hb dL_law_200 (by decide) ?_
        refine lv_iadd hx hb dL_law_201 ?_
        rw [nI_1]
        refine va_sld (A := rhA Z) hx hb hX hbl hbA hH.2.2 (vp_in_nI (show 6 * t + 1 < Lx by omega) (by omega)) dL_law_202 ?_
        rw [nI_clamp (show 6 * t + 1 < 2 ^ 31 by omega)]
        refine rh_ki hC hH (va_runV (As := [.int (xs (6 * t + 1))]) (rest := [.int (nI (K (rhR (xs (6 * t + 1)))).length)]) ⟨hx, hb, hml, hown, hts⟩ (met_mSize l D Z L f mo kk hm fl pu FM hm0 (xs (6 * t + 1))) (cwV 1 hts (lw_V q569 q570 q571 q21 q572) rfl rfl rfl (by decide +kernel) ⟨Nat.le_of_ble_eq_true rfl, Nat.le_of_ble_eq_true rfl⟩) (rh_preV hC hH [.int (xs (6 * t + 1))] (rh_recv hC hH hmL hmf (q := (RX3, TX3, 4)) rfl)) rfl rfl hl.1 rfl (lv_room (Nat.le_of_ble_eq_true rfl)) dL_law_203 ⟨(by show _ ≤ 1200128; omega), (by show _ ≤ 5501098; omega)⟩) (fun r113 L113 f113 H locs hp113 hH => ?_)
        obtain ⟨rfl, rfl, rfl⟩ := hp113
        refine lv_icmp_eq (tgt := 255) hx hb dL_law_206 (by decide) (fun _ => ?_) (fun z => absurd (by rw [(hper (rhR (xs (6 * t + 1))) (rhR_lt _)).length_eq]) z)
        exact next L f _ _ _ _ _ _ _ _ _ ls (by omega) (by omega) ⟨FD, FM, hd, hm0, hper, hdis⟩ hH hl
      · refine lv_tableIn (off := 178) (tgt := 211) hx hb dL_law_33 (by decide +kernel) (by decide +kernel) (by decide +kernel) (by decide) ?_
        refine lv_aload_n hx hb dL_law_211 rfl (lv_at hl 1 rfl) ?_
        refine lv_aload_n hx hb dL_law_212 rfl (lv_at hl 0 rfl) ?_
        refine lv_iload_n hx hb dL_law_213 rfl (lv_at hl 3 rfl) ?_
        refine lv_iconst (v := 1) hx hb dL_law_214 (by decide) ?_
        refine lv_iadd hx hb dL_law_215 ?_
        rw [nI_1]
        refine va_sld (A := rhA Z) hx hb hX hbl hbA hH.2.2 (vp_in_nI (show 6 * t + 1 < Lx by omega) (by omega)) dL_law_216 ?_
        rw [nI_clamp (show 6 * t + 1 < 2 ^ 31 by omega)]
        refine rh_ki hC hH (va_runV (As := [.int (xs (6 * t + 1))]) (rest := []) ⟨hx, hb, hml, hown, hts⟩ (met_dIsEmpty l D Z L f d K fl pu FD hd (xs (6 * t + 1))) (cwV 1 hts (lw_V q516 q517 q518 q8 q519) rfl rfl rfl (by decide +kernel) ⟨Nat.le_of_ble_eq_true rfl, Nat.le_of_ble_eq_true rfl⟩) (rh_preV hC hH [.int (xs (6 * t + 1))] (rh_recv hC hH hdL hdf (q := (RX0, TX0, 3)) rfl)) rfl rfl hl.1 rfl (lv_room (Nat.le_of_ble_eq_true rfl)) dL_law_217 ⟨(by show _ ≤ 1200128; omega), (by show _ ≤ 5501098; omega)⟩) (fun r114 L114 f114 H locs hp114 hH => ?_)
        obtain ⟨rfl, rfl, rfl⟩ := hp114
        obtain ⟨hmL, mfs, hmf⟩ := hm0.obj
        refine lv_aload_n hx hb dL_law_220 rfl (lv_at hl 2 rfl) ?_
        refine lv_aload_n hx hb dL_law_221 rfl (lv_at hl 0 rfl) ?_
        refine lv_iload_n hx hb dL_law_222 rfl (lv_at hl 3 rfl) ?_
        refine lv_iconst (v := 1) hx hb dL_law_223 (by decide) ?_
        refine lv_iadd hx hb dL_law_224 ?_
        rw [nI_1]
        refine va_sld (A := rhA Z) hx hb hX hbl hbA hH.2.2 (vp_in_nI (show 6 * t + 1 < Lx by omega) (by omega)) dL_law_225 ?_
        rw [nI_clamp (show 6 * t + 1 < 2 ^ 31 by omega)]
        refine rh_ki hC hH (va_runV (As := [.int (xs (6 * t + 1))]) (rest := [.int (if (K (rhR (xs (6 * t + 1)))).length = 0 then (1 : Int32) else 0)]) ⟨hx, hb, hml, hown, hts⟩ (met_mIsEmpty l D Z L f mo kk hm fl pu FM hm0 (xs (6 * t + 1))) (cwV 1 hts (lw_V q573 q574 q575 q21 q576) rfl rfl rfl (by decide +kernel) ⟨Nat.le_of_ble_eq_true rfl, Nat.le_of_ble_eq_true rfl⟩) (rh_preV hC hH [.int (xs (6 * t + 1))] (rh_recv hC hH hmL hmf (q := (RX3, TX3, 4)) rfl)) rfl rfl hl.1 rfl (lv_room (Nat.le_of_ble_eq_true rfl)) dL_law_226 ⟨(by show _ ≤ 1200128; omega), (by show _ ≤ 5501098; omega)⟩) (fun r115 L115 f115 H locs hp115 hH => ?_)
        obtain ⟨rfl, rfl, rfl⟩ := hp115
        refine lv_icmp_eq (tgt := 255) hx hb dL_law_229 (by decide) (fun _ => ?_) (fun z => absurd (by rw [(hper (rhR (xs (6 * t + 1))) (rhR_lt _)).length_eq]) z)
        exact next L f _ _ _ _ _ _ _ _ _ ls (by omega) (by omega) ⟨FD, FM, hd, hm0, hper, hdis⟩ hH hl
      · refine lv_tableIn (off := 201) (tgt := 234) hx hb dL_law_33 (by decide +kernel) (by decide +kernel) (by decide +kernel) (by decide) ?_
        refine lv_aload_n hx hb dL_law_234 rfl (lv_at hl 1 rfl) ?_
        refine lv_aload_n hx hb dL_law_235 rfl (lv_at hl 0 rfl) ?_
        refine lv_iload_n hx hb dL_law_236 rfl (lv_at hl 3 rfl) ?_
        refine lv_iconst (v := 1) hx hb dL_law_237 (by decide) ?_
        refine lv_iadd hx hb dL_law_238 ?_
        rw [nI_1]
        refine va_sld (A := rhA Z) hx hb hX hbl hbA hH.2.2 (vp_in_nI (show 6 * t + 1 < Lx by omega) (by omega)) dL_law_239 ?_
        rw [nI_clamp (show 6 * t + 1 < 2 ^ 31 by omega)]
        refine rh_kv hC hH (va_runV (As := [.int (xs (6 * t + 1))]) (rest := []) ⟨hx, hb, hml, hown, hts⟩ (met_dRenew l D Z L f d K fl pu FD hd (xs (6 * t + 1))) (cwV 1 hts (lw_V q520 q521 q522 q8 q523) rfl rfl rfl (by decide +kernel) ⟨Nat.le_of_ble_eq_true rfl, Nat.le_of_ble_eq_true rfl⟩) (rh_preV hC hH [.int (xs (6 * t + 1))] (rh_recv hC hH hdL hdf (q := (RX0, TX0, 3)) rfl)) rfl rfl hl.1 rfl (lv_room (Nat.le_of_ble_eq_true rfl)) dL_law_240 ⟨(by show _ ≤ 1200128; omega), (by show _ ≤ 5501098; omega)⟩) (fun L116 f116 H locs hp116 hH => ?_)
        obtain ⟨FD', hd1, g1, g2, g3⟩ := hp116
        obtain ⟨hm1, hdis1⟩ := rl_d hm0 hdis g1 g2 g3
        have hZ1 := rh_Z1 hC hH
        obtain ⟨hmL, mfs, hmf⟩ := hm1.obj
        refine lv_aload_n hx hb dL_law_243 rfl (lv_at hl 2 rfl) ?_
        refine lv_aload_n hx hb dL_law_244 rfl (lv_at hl 0 rfl) ?_
        refine lv_iload_n hx hb dL_law_245 rfl (lv_at hl 3 rfl) ?_
        refine lv_iconst (v := 1) hx hb dL_law_246 (by decide) ?_
        refine lv_iadd hx hb dL_law_247 ?_
        rw [nI_1]
        refine va_sld (A := rhA Z) hx hb hX hbl hbA hH.2.2 (vp_in_nI (show 6 * t + 1 < Lx by omega) (by omega)) dL_law_248 ?_
        rw [nI_clamp (show 6 * t + 1 < 2 ^ 31 by omega)]
        refine rh_kv hC hH (va_runV (As := [.int (xs (6 * t + 1))]) (rest := []) ⟨hx, hb, hml, hown, hts⟩ (met_mRenew l D Z L116 f116 mo kk hm fl pu FM hm1 (xs (6 * t + 1))) (cwV 1 hts (lw_V q577 q578 q579 q21 q580) rfl rfl rfl (by decide +kernel) ⟨Nat.le_of_ble_eq_true rfl, Nat.le_of_ble_eq_true rfl⟩) (rh_preV hC hH [.int (xs (6 * t + 1))] (rh_recv hC hH hmL hmf (q := (RX3, TX3, 4)) rfl)) rfl rfl hl.1 rfl (lv_room (Nat.le_of_ble_eq_true rfl)) dL_law_249 ⟨(by show _ ≤ 1200128; omega), (by show _ ≤ 5501098; omega)⟩) (fun L117 f117 H locs hp117 hH => ?_)
        obtain ⟨rfl, hm2, g4⟩ := hp117
        refine lv_goto (tgt := 255) hx hb dL_law_252 (by decide) ?_
        exact next L116 f117 _ _ _ _ _ _ _ _ _ ls (by omega) (by omega) ⟨FD', FM, rl_m hd1 hm1 hdis1 hZ1 g4, hm2, rl_renew hper, hdis1⟩ hH hl
      · refine lv_tableOut (tgt := 255) hx hb dL_law_33 (Or.inr (by rw [nI_toInt (by omega)]; omega)) (by decide) ?_
        exact next L f _ _ _ _ _ _ _ _ _ ls (by omega) (by omega) ⟨FD, FM, hd, hm0, hper, hdis⟩ hH hl

set_option maxHeartbeats 4000000 in
set_option maxRecDepth 100000 in
theorem law_walk {p : Program} {l : Launch} {e : Env} {s : State} {m : MethodId} {below : List Frame} {meth : Method} {c : Code} {D : va_G} {Z : Nat → Nat} {b Lx : Nat} {xs : Nat → Int32} (hx : p.tables.exec = Jvm.exec) (hb : c.code = cL_law) (hr : meth.sig.returnType = ret) (hlocks : meth.locks = false) (hml : c.maxLocals = 4) (hown : s.vm.findClass R_law = some m.cls) (hts : ∀ w ∈ lw_all, w.before #[Value.ref b] s = true) (hC : rhCx D Z s) (hX : va_X b Lx xs s s.heap) (hbl : b < s.heap.size) (hbA : ¬ rhA Z b) (hz : Z 0 = s.heap.size) (hLx : Lx ≤ 384) {f : Nat → va_E} (hH : rhHp D Z [] f s s.heap []) {ls : Array Slot} (hl : lv_has ls 4 [(0, .ref b)]) : W p l e room_1 s m #[Value.ref b] below meth c s.heap [] 0 0 (lw_Z below #[Value.ref b] s) (F0 m 0 ls []) := by
  refine rh_new (ci := 0) (fs := [.null, .null, .int 0]) (C := RX0) (T := TX0) (N := 3) hx hb hts in_X0 tyX0 tyX0_ok hown (hts _ q32) (hts _ q33) (hts _ q8) hC hH rfl (fun j hj => by rcases (show j = 0 ∨ j = 1 ∨ j = 2 by omega) with rfl | rfl | rfl <;> rfl) (Nat.le_of_ble_eq_true rfl) (Nat.le_of_ble_eq_true rfl) dL_law_0 (fun d f1 H hq1 hf1 hfr1 hH => ?_)
  refine lv_dup hx hb dL_law_3 rfl ?_
  refine rh_kv hC hH (va_runI (As := []) (rest := [.ref d]) ⟨hx, hb, hml, hown, hts⟩ (met_Desk l D Z ([] ++ [d]) f1 d (rh_last [] d) hf1) (cwI 0 hts (lw_meth q36) rfl rfl rfl (hts _ q8) (hts _ q34) (hts _ q35) rfl (by decide +kernel) ⟨Nat.le_of_ble_eq_true rfl, Nat.le_of_ble_eq_true rfl⟩) (rh_preS hC hH (.ref d :: [])) rfl rfl hl.1 rfl (lv_room (Nat.le_of_ble_eq_true rfl)) dL_law_4 ⟨(by show _ ≤ 1200128; omega), (by show _ ≤ 5501098; omega)⟩) (fun L118 f118 H locs hp118 hH => ?_)
  obtain ⟨FD, hd, g1, g2, g3⟩ := hp118
  have hZ1 := rh_Z1 hC hH
  refine lv_astore_n (lv' := [(1, .ref d), (0, .ref b)]) hx hb dL_law_7 rfl hl (by decide) rfl (fun ls hl => ?_)
  refine rh_new (ci := 2) (fs := [.null, .null, .null, .int 0]) (C := RX3) (T := TX3) (N := 4) hx hb hts in_X3 tyX3 tyX3_ok hown (hts _ q524) (hts _ q525) (hts _ q21) hC hH rfl (fun j hj => by rcases (show j = 0 ∨ j = 1 ∨ j = 2 ∨ j = 3 by omega) with rfl | rfl | rfl | rfl <;> rfl) (Nat.le_of_ble_eq_true rfl) (Nat.le_of_ble_eq_true rfl) dL_law_8 (fun mo f2 H hq2 hf2 hfr2 hH => ?_)
  refine lv_dup hx hb dL_law_11 rfl ?_
  refine rh_kv hC hH (va_runI (As := []) (rest := [.ref mo]) ⟨hx, hb, hml, hown, hts⟩ (met_Model l D Z (L118 ++ [mo]) f2 mo (rh_last L118 mo) hf2) (cwI 0 hts (lw_meth q528) rfl rfl rfl (hts _ q21) (hts _ q526) (hts _ q527) rfl (by decide +kernel) ⟨Nat.le_of_ble_eq_true rfl, Nat.le_of_ble_eq_true rfl⟩) (rh_preS hC hH (.ref mo :: [])) rfl rfl hl.1 rfl (lv_room (Nat.le_of_ble_eq_true rfl)) dL_law_12 ⟨(by show _ ≤ 1200128; omega), (by show _ ≤ 5501098; omega)⟩) (fun L119 f119 H locs hp119 hH => ?_)
  obtain ⟨FM, hm0, g4, g5, g6⟩ := hp119
  refine lv_astore_n (lv' := [(2, .ref mo), (1, .ref d), (0, .ref b)]) hx hb dL_law_15 rfl hl (by decide) rfl (fun ls hl => ?_)
  refine lv_iconst (v := 0) hx hb dL_law_16 (by decide) ?_
  refine lv_istore_n (lv' := [(3, .int 0), (2, .ref mo), (1, .ref d), (0, .ref b)]) hx hb dL_law_17 rfl hl (by decide) rfl (fun ls hl => ?_)
  have hin := hd.inL
  refine law_loop hx hb hr hlocks hml hown hts hC hX hbl hbA hz hLx 65 0 (by decide) rfl _ _ (fun _ => []) _ _ _ _ _ _ _ _ ls (Nat.le_of_ble_eq_true rfl) (Nat.le_of_ble_eq_true rfl) ⟨FD, FM, ?_, hm0, fun r _ => ?_, fun b hb hM => ?_⟩ hH (lv_sub hl [3, 2, 1, 0] rfl)
  · exact hd.gr hZ1 (fun x hx9 => g6 x (List.mem_append_left _ hx9)) (fun x hx9 => (g5 x (List.mem_append_left _ hx9) (fun z => hq2 (z ▸ hx9))).trans (hfr2 x hx9))
  · rw [spKs_nil (fun i hi => absurd hi (Nat.not_lt_zero i))]
  · rcases g4 b hM with h | h
    · exact hq2 (h ▸ hin b hb)
    · exact h (List.mem_append_left _ (hin b hb))
end
section
/-! THE START: the context out of the tables' words and the statement's premises -/
set_option maxRecDepth 100000
theorem st_ne {vm : Vm} {n1 n2 : String} {c1 c2 : ClassId} (h1 : vm.findClass n1 = some c1) (h2 : vm.findClass n2 = some c2) (hne : n1 ≠ n2) : c1 ≠ c2 := by
  intro e
  subst e
  obtain ⟨k, a, b⟩ := Vm.findClass_spec h1
  obtain ⟨k', a', b'⟩ := Vm.findClass_spec h2
  cases a.symm.trans a'
  exact hne (b.symm.trans b')
abbrev st_c (k : Nat) : Int64 := (Int32.ofNat k - 128).toInt64
set_option maxHeartbeats 4000000 in
theorem rh_cache {args : Array Value} {s : State} {st : Term} (hc : st.closed = true) (hlen : (Term.length st).eval args s none [] s = some (.int (Int32.ofNat 256)))
    (hall : (Cond.all st (.and (.and (.exactly (.elem st (.index 0)) "java/lang/Long") (.untouched (.elem st (.index 0)))) (.eq (.field (.elem st (.index 0)) "java/lang/Long" "value" "J") (.op1 .i2l (.sub (.index 0) (.int 128)))))).before args s = true) :
    ∃ ad : Nat → Nat, (∀ k : Nat, k < 256 → ∃ cell : Cell, s.heap[ad k]? = some cell ∧ s.vm.findClass "java/lang/Long" = some cell.cls ∧ cell.vm = .none ∧ ∃ (cf : ClassId) (kf : Class) (fi : Nat) (fd : Field), s.fieldFound? "java/lang/Long" "value" "J" = some (cf, kf, fi, fd) ∧ cell.slots[fd.slot]? = some (.long (st_c k))) ∧ ∀ j : Nat, j < 256 → (Term.elem st (.int (Int32.ofNat j))).eval args s none [] s = some (.ref (ad j)) := by
  obtain ⟨b, cell, ht, hat, hv⟩ := Term.length_spec hlen
  have hsz : ∀ k : Nat, k < 256 → k < cell.slots.size := by
    intro k hk
    apply Nat.not_le.mp
    intro hle
    have e : Int32.ofNat cell.slots.size = Int32.ofNat 256 := (Value.int.inj hv).symm
    have h1 : (Int32.ofNat cell.slots.size).toNatClampNeg = cell.slots.size := Int32.toNatClampNeg_ofNat_of_lt (by omega)
    have h2 : (Int32.ofNat 256).toNatClampNeg = 256 := Int32.toNatClampNeg_ofNat_of_lt (by omega)
    rw [e, h2] at h1
    omega
  have hall' := Cond.all_elim ht hat (by simpa [Cond.before, Cond.holds] using hall)
  have h0 : ∀ k : Nat, ∃ a : Nat, k < 256 → (Term.elem st (.int (Int32.ofNat k))).eval args s none [] s = some (.ref a) ∧ ∃ cell : Cell, s.heap[a]? = some cell ∧ s.vm.findClass "java/lang/Long" = some cell.cls ∧ cell.vm = .none ∧ ∃ (cf : ClassId) (kf : Class) (fi : Nat) (fd : Field), s.fieldFound? "java/lang/Long" "value" "J" = some (cf, kf, fi, fd) ∧ cell.slots[fd.slot]? = some (.long (st_c k)) := by
    intro k
    by_cases hk : k < 256
    · obtain ⟨hEU, hF⟩ := va_andE (hall' k (hsz k hk))
      obtain ⟨hE, hU⟩ := va_andE hEU
      obtain ⟨a, c, cA, kA, q1, q2, q3, q4, q5, q6, -⟩ := Cond.exactly_spec (args := args) (first := s) (o := none) (s := s) (idx := [k]) (t := .elem st (.index 0)) (cls := "java/lang/Long") (by simp [Cond.holds, hE])
      obtain ⟨a2, cA2, u1, u2, -, -, u5⟩ := Cond.untouched_spec (args := args) (first := s) (o := none) (s := s) (idx := [k]) (t := .elem st (.index 0)) (by simp [Cond.holds, hU])
      cases q1.symm.trans u1
      cases q3.symm.trans u2
      have hfv := va_eqI hF (v := .long (st_c k)) (by simp [Term.eval, st_c]; rfl)
      refine ⟨a, fun _ => ⟨?_, cA, q3, by rw [q6]; exact q2, u5, ?_⟩⟩
      · rw [← q1]
        simp only [Term.eval, Term.eval_closed none [k] st s hc]
        rfl
      · cases hfo : s.fieldFound? "java/lang/Long" "value" "J" with
        | none =>
          rw [va_fe q1] at hfv
          simp [State.fieldOf?, State.fieldNamed?, hfo] at hfv
        | some x =>
          obtain ⟨cf, kf, fi, f⟩ := x
          obtain ⟨g1, cell2, g2, g3, -, -, g6⟩ := Term.field_spec hfo q1 hfv
          cases q3.symm.trans g2
          exact ⟨cf, kf, fi, f, rfl, g6⟩
    · exact ⟨0, fun h => absurd h hk⟩
  obtain ⟨ad, had⟩ := Classical.axiomOfChoice h0
  exact ⟨ad, fun k hk => (had k hk).2, fun k hk => (had k hk).1⟩
theorem st_val (k : Nat) (h : k < 128) : st_c (128 + k) = lN k := by
  have e : Int32.ofNat (128 + k) - 128 = nI k := by
    have h1 : Int32.ofNat (128 + k) = nI k + 128 := by
      rw [Nat.add_comm]
      exact (nI_add k 128).symm
    rw [h1]
    exact Int32.add_sub_cancel _ _
  show (Int32.ofNat (128 + k) - 128).toInt64 = lN k
  rw [e]
  exact nI_l (by omega)
theorem st_D (c : Nat → ClassId) (i : Nat → Nat → Nat) (a : Nat → ClassId) : ∃ D : va_G, (∀ j : Nat, j < 100 → D.1 j = c j) ∧ (∀ j : Nat, D.2 j = i j) ∧ ∀ j : Nat, D.1 (100 + j) = a j :=
  ⟨(fun j => if j < 100 then c j else a (j - 100), i), fun j hj => if_pos hj, fun _ => rfl, fun j => by
    show (if 100 + j < 100 then c (100 + j) else a (100 + j - 100)) = a j
    rw [if_neg (by omega), show 100 + j - 100 = j by omega]⟩
theorem st_Z (z : Nat → Nat) (ad : Nat → Nat) : ∃ Z : Nat → Nat, (∀ j : Nat, j < 10 → Z j = z j) ∧ ∀ j : Nat, Z (10 + j) = ad j :=
  ⟨fun j => if j < 10 then z j else ad (j - 10), fun j hj => if_pos hj, fun j => by
    show (if 10 + j < 10 then z (10 + j) else ad (10 + j - 10)) = ad j
    rw [if_neg (by omega), show 10 + j - 10 = j by omega]⟩
theorem st_AO {s : State} {C : String} {args : Array Value} (h : (Cond.arrayOver (.object C)).before args s = true) : ∃ c : ClassId, ArrOfT s c (.object C) ∧ va_RA s c (.object C) ∧ s.vm.findClass ("[" ++ (FieldType.object C).toString) = some c := by
  obtain ⟨comp, c, k, h1, h2, h3, h4, h5⟩ := Cond.arrayOver_spec h
  exact ⟨c, fun N z => ⟨(fun k h => by cases h), k, h3, comp, h4⟩, ⟨k, comp, h3, h4, h1, h5⟩, h5⟩
theorem st_AI {s : State} {args : Array Value} (h : (Cond.arrayClass .int).before args s = true) : ∃ c : ClassId, ArrOfT s c .int ∧ va_RA s c .int := by
  obtain ⟨c, k, comp, h1, h2, h3⟩ := Cond.arrayClass_spec h
  exact ⟨c, fun N z => ⟨(fun k h => by cases h), k, h2, comp, h3⟩, h1⟩
set_option maxHeartbeats 4000000 in
theorem st_Wd {D : va_G} {Z : Nat → Nat} {s : State} {args : Array Value} (ht : ∀ w ∈ lw_tbl, w.before args s = true) (hmi : va_Mi "[Ljava/lang/Object;" (Z 3) s) (hne : D.1 100 ≠ D.1 101 ∧ D.1 100 ≠ D.1 102 ∧ D.1 101 ≠ D.1 102) : rhWd D Z s :=
  ⟨⟨.of (ht _ q295) (ht _ q294) (ht _ q300) (ht _ q298) (ht _ q296), .of (ht _ q354) (ht _ q353) (ht _ q358) (ht _ q356) (ht _ q296), .of (ht _ q416) (ht _ q415) (ht _ q420) (ht _ q418) (ht _ q296), .of (ht _ q440) (ht _ q439) (ht _ q444) (ht _ q442) (ht _ q296), .of (ht _ q449) (ht _ q448) (ht _ q453) (ht _ q451) (ht _ q296), .of (ht _ q500) (ht _ q499) (ht _ q504) (ht _ q502) (ht _ q296)⟩,
   ⟨.of (ht _ q477) (ht _ q476) (ht _ q482) (ht _ q480) (ht _ q478), .of (ht _ q487) (ht _ q486) (ht _ q491) (ht _ q489) (ht _ q478)⟩,
   ⟨.of (ht _ q343), .of (ht _ q154), .of (ht _ q44)⟩, ⟨va_any rfl (ht _ q588), va_any rfl (ht _ q296)⟩, ⟨va_any rfl (ht _ q250), va_any rfl (ht _ q272)⟩, ⟨va_any rfl (ht _ q171), va_any rfl (ht _ q434)⟩, ⟨.of (ht _ q597), hmi⟩, hne⟩
set_option maxHeartbeats 4000000 in
theorem rh_start {s : State} {b : Nat} (ht : ∀ w ∈ lw_tbl, w.before #[Value.ref b] s = true) (hn : (Jvm.Cond.and given_1 narrow_1).before #[Value.ref b] s = true) : ∃ (D : va_G) (Z : Nat → Nat), Z 0 = s.heap.size ∧ rhCx D Z s := by
  have hn := flat_of_before _ hn
  have hts : ∀ w ∈ lw_all, w.before #[Value.ref b] s = true := fun w h => ht w (lw_all_tbl h)
  obtain ⟨c0, i0, k0⟩ := u_known hts in_X0 (hts _ q33)
  obtain ⟨c1, i1, k1⟩ := u_known hts in_X2 (hts _ q48)
  obtain ⟨c2, i2, k2⟩ := u_known hts in_X3 (hts _ q525)
  obtain ⟨c3, i3, k3⟩ := u_known hts in_J5 (hts _ q132)
  obtain ⟨c4, i4, k4⟩ := u_known hts in_J8 (hts _ q156)
  obtain ⟨c5, i5, k5⟩ := u_known hts in_J15 (hts _ q456)
  obtain ⟨a0, x0, y0, z0⟩ := st_AO (ht _ q343)
  obtain ⟨a1, x1, y1, z1⟩ := st_AO (ht _ q154)
  obtain ⟨a2, x2, y2, z2⟩ := st_AO (ht _ q44)
  obtain ⟨a3, x3, y3⟩ := st_AI (hts _ q230)
  obtain ⟨D, hD1, hD2, hD3⟩ := st_D (fun j => [c0, c1, c2, c3, c4, c5].getD j 0) (fun j => [i0, i1, i2, i3, i4, i5].getD j (fun _ => 0)) (fun j => [a0, a1, a2, a3].getD j 0)
  obtain ⟨mi, hmi⟩ := va_Mi.of (C := "[Ljava/lang/Object;") (hn _ (by decide +kernel))
  have hA : ∀ a : Nat, a < s.heap.size → ¬ (fun q : Nat => s.heap.size ≤ q) a := fun a h1 h2 => absurd h1 (Nat.not_lt.mpr h2)
  have hclen : (Term.length (.static "java/lang/Long$LongCache" "cache" "[Ljava/lang/Long;")).eval #[Value.ref b] s none [] s = some (.int (Int32.ofNat 256)) := va_eqt (z := 256) (hn _ (by decide +kernel))
  obtain ⟨ad, had, hel⟩ := rh_cache (args := #[Value.ref b]) (s := s) (st := .static "java/lang/Long$LongCache" "cache" "[Ljava/lang/Long;") rfl hclen (hn _ (by decide +kernel))
  obtain ⟨t2, ht2, hT2⟩ := va_Tof (N := 256) (ty := .object "java/lang/Long") (f := fun j => .ref (ad j)) (A := fun q => s.heap.size ≤ q) (by decide) (hn _ (by decide +kernel)) hclen hel hA
  have helen : (Term.length (.static "java/util/ArrayList" "DEFAULTCAPACITY_EMPTY_ELEMENTDATA" "[Ljava/lang/Object;")).eval #[Value.ref b] s none [] s = some (.int (Int32.ofNat 0)) := va_eqt (z := 0) (hn _ (by decide +kernel))
  obtain ⟨t1, ht1, hT1⟩ := va_Tof (N := 0) (ty := .object "java/lang/Object") (f := fun _ => .null) (A := fun q => s.heap.size ≤ q) (by decide) (hn _ (by decide +kernel)) helen (fun j hj => absurd hj (Nat.not_lt_zero j)) hA
  obtain ⟨Z, hZ, hZ10⟩ := st_Z (fun j => [s.heap.size, t1, t2, mi].getD j 0) ad
  have e0 : Z 0 = s.heap.size := hZ 0 (by decide)
  have e1 : Z 1 = t1 := hZ 1 (by decide)
  have e2 : Z 2 = t2 := hZ 2 (by decide)
  have e3 : Z 3 = mi := hZ 3 (by decide)
  have hAZ : ∀ q : Nat, rhA Z q → s.heap.size ≤ q := fun q h => by rw [← e0]; exact h
  have hAn : ∀ a : Nat, a < s.heap.size → ¬ rhA Z a := fun a h1 h2 => absurd h1 (Nat.not_lt.mpr (hAZ a h2))
  refine ⟨D, Z, e0, ⟨⟨Nat.le_of_eq e0, ?_, ?_⟩, ⟨?_, ?_⟩, ?_, ?_⟩, ?_, ?_⟩
  · rw [e1]
    exact va_Zof (ht _ q168) (hts _ q20) ht1 hAn
  · rw [e1]
    exact hT1.narrow hAZ
  · rw [e2]
    exact va_Zof (ht _ q130) (hts _ q17) ht2 hAn
  · rw [e2, show (fun j => Value.ref (Z (10 + j))) = fun j => Value.ref (ad j) from funext (fun j => by rw [hZ10])]
    exact hT2.narrow hAZ
  · intro k hk
    have hz : Z (138 + k) = ad (128 + k) := by
      rw [show 138 + k = 10 + (128 + k) by omega]
      exact hZ10 _
    rw [hz]
    obtain ⟨cell, g1, g2, g3, cf, kf, fi, fd, g4, g5⟩ := had (128 + k) (by omega)
    refine ⟨hAn _ (Array.getElem?_eq_some_iff.mp g1).1, (RJ5, TJ5, 1), rfl, cell, g1, ?_, g3, fun j hj => ?_⟩
    · rw [hD1 3 (by decide)]
      exact (Option.some.inj (k3.2.1.symm.trans g2)).symm
    · have hj0 : j = 0 := Nat.lt_one_iff.mp hj
      subst hj0
      obtain ⟨cf2, kf2, fi2, fd2, f1, f2⟩ := k3.1 0 (by decide)
      have f1 : s.fieldFound? "java/lang/Long" "value" "J" = some (cf2, kf2, fi2, fd2) := f1
      cases g4.symm.trans f1
      rw [hD2 3]
      show cell.slots[i3 0]? = some (.long (lN k))
      rw [← f2, g5, st_val k hk]
  · refine st_Wd ht (by rw [e3]; exact hmi) ?_
    rw [show D.1 100 = a0 from hD3 0, show D.1 101 = a1 from hD3 1, show D.1 102 = a2 from hD3 2]
    exact ⟨st_ne z0 z1 (by decide +kernel), st_ne z0 z2 (by decide +kernel), st_ne z1 z2 (by decide +kernel)⟩
  · intro j q hj
    have hlt : j < 6 := (List.getElem?_eq_some_iff.mp hj).1
    rw [hD1 j (by omega), hD2 j]
    rcases (show j = 0 ∨ j = 1 ∨ j = 2 ∨ j = 3 ∨ j = 4 ∨ j = 5 by omega) with rfl | rfl | rfl | rfl | rfl | rfl <;> cases hj
    · exact k0
    · exact k1
    · exact k2
    · exact k3
    · exact k4
    · exact k5
  · intro j q hj
    have hlt : j < 4 := (List.getElem?_eq_some_iff.mp hj).1
    rcases (show j = 0 ∨ j = 1 ∨ j = 2 ∨ j = 3 by omega) with rfl | rfl | rfl | rfl <;> cases hj
    · rw [show D.1 100 = a0 from hD3 0]; exact ⟨x0, y0⟩
    · rw [show D.1 101 = a1 from hD3 1]; exact ⟨x1, y1⟩
    · rw [show D.1 102 = a2 from hD3 2]; exact ⟨x2, y2⟩
    · rw [show D.1 103 = a3 from hD3 3]; exact ⟨x3, y3⟩
/-- from the entry, for every script of at most 384 ints, the law comes to its end with true -/
theorem whole_start {p : Program} {e : Env} {s : State} {m : MethodId} {below : List Frame} {meth : Method} {c : Code} (l : Launch) (hflags : l.flags = flags0) {b L : Nat} {xs : Nat → Int32} (hL : L ≤ 384) (C0 : lw_At p s m meth c b L xs) : W p l e room_1 s m #[Value.ref b] below meth c s.heap [] 0 0 (lw_Z below #[Value.ref b] s) (entryFrame m ([Value.ref b] : List Value).toArray 4) := by
  obtain ⟨hx, hb, hr, hml, hown, ht, hX, hbl, hlocks, hn⟩ := C0
  obtain ⟨D, Z, hz, hC⟩ := rh_start ht hn
  have hl := lv_entry [Value.ref b] (n := 4) (Nat.le_of_ble_eq_true rfl)
  rw [lg_entry_eq]
  refine law_walk (Lx := L) hx hb hr hlocks hml hown (fun w h => ht w (lw_all_tbl h)) hC hX hbl (fun h => ?_) hz hL (f := fun _ => eLong 0) ⟨?_, ?_, va_S.rf⟩ hl
  · have h1 : Z 0 ≤ b := h
    omega
  · intro k q h
    exact absurd (show (([] : List (Nat × va_E))[k]? = some q) from h) (by simp)
  · exact ⟨fun i j p q h => absurd (show (([] : List (Nat × va_E))[i]? = some p) from h) (by simp), fun k q h => absurd (show (([] : List (Nat × va_E))[k]? = some q) from h) (by simp)⟩
end
section
set_option maxHeartbeats 4000000 in
theorem lw_walk (l : Launch) (hflags : l.flags = flags0) (b : Addr) (xs : List Int32) : MetFree l x (headSpec (Jvm.Cond.code x code maxLocals ret :: tables_1) room_1) (lw_P b xs) (fun _ _ _ _ _ => True) lw_Q := by
  refine MetFree.of_bodyS (code := code) (maxLocals := maxLocals) (ret := ret) (by decide) ?_ ?_
  · intro args s m h hn
    obtain ⟨meth, c, h1, h2, h3, h4, h5, h6, -, -⟩ := Cond.code_spec hn (atoms_spec (ws := Jvm.Cond.code x code maxLocals ret :: tables_1) h _ List.mem_cons_self)
    exact ⟨meth, c, h1, h2, h3, h4, h5, h6⟩
  · intro p e s m args below meth c s₁ B hml0 hP _
    obtain ⟨rfl, hx, hbd, hgv⟩ := hP
    obtain ⟨scr, harrAt, hlist, hof, hsmall⟩ := hx
    obtain ⟨hcb, hkn, -, -⟩ := State.arrayAt?_spec harrAt
    have hown : s.vm.findClass R_law = some m.cls := findClass_of_methodNamed B.named
    have hts0 : ∀ c ∈ (Jvm.Cond.code x code maxLocals ret :: tables_1), c.before #[Value.ref b] s = true := atoms_spec (ws := Jvm.Cond.code x code maxLocals ret :: tables_1) B.pre
    have hts : ∀ w ∈ lw_tbl, w.before #[Value.ref b] s = true := k2_hts_sels lw_privs (fun w hw => hts0 w (List.mem_cons_of_mem _ hw)) lw_privs_ok
    have hml : c.maxLocals = 4 := B.maxLocals_eq (hts0 _ List.mem_cons_self)
    have X₀ : Stand p l e room_1 s m #[Value.ref b] below meth c s₁ [] 0 0 := Stand.of_body B
    have hh0 : s₁.heap = s.heap := by rw [B.state]; rfl
    have hsz : scr.slots.size = xs.length := by rw [← Array.length_toList, hlist, List.length_map]
    have hval : ∀ j : Nat, j < xs.length → scr.slots[j]? = some (.int (xs.getD j 0)) := fun j hj => by
      rw [← Array.getElem?_toList, hlist]
      simp [hj]
    have hbl : b < s.heap.size := (Array.getElem?_eq_some_iff.mp hcb).1
    have hX : va_X b xs.length (fun j => xs.getD j 0) s s.heap := ⟨scr, hcb, hof, hkn, hsz, hval⟩
    have K : W p l e room_1 s m #[Value.ref b] below meth c s₁.heap [] 0 0 (lw_Z below #[Value.ref b] s) (entryFrame m ([Value.ref b] : List Value).toArray 4) := by
      rw [hh0]
      exact whole_start l hflags hbd ⟨B.exec, B.bytes, B.returns, hml, hown, hts, hX, hbl, B.notSynchronized, hgv⟩
    obtain ⟨t, a1, o, b1, b2, b3⟩ := K s₁ rfl X₀
    exact ⟨t, o, a1, b1, b2, b3⟩
theorem lw_pre_spec {args : Array Value} {s : State} (h : (Jvm.Cond.and given_1 narrow_1).before args s = true) (hr : rest_1_c.before args s = true) : ∃ (b : Addr) (xs : List Int32), lw_P b xs args s := by
  have hs := flat_of_before _ h
  have hq := flat_of_before _ hr
  have hc : (Cond.count 1).before args s = true := hs _ (by decide +kernel)
  have harr : (Cond.arrayOf (.arg 0) .int).before args s = true := hs _ (by decide +kernel)
  have hle : (Cond.le (.length (.arg 0)) (.int 384)).before args s = true := hs _ (by decide +kernel)
  have hlen : (Cond.isInt (.length (.arg 0))).before args s = true := hq _ (by decide +kernel)
  have hall : (Cond.all (.arg 0) (.isInt (.elem (.arg 0) (.index 0)))).before args s = true := hq _ (by decide +kernel)
  obtain ⟨b, xs, hb, hx⟩ := State.ints_of_pre rfl harr hlen hall
  have hsm : xs.length < 2 ^ 31 := hx.choose_spec.2.2.2
  have hev : (Term.length (.arg 0)).eval args s none [] s = some (.int xs.length.toInt32) := hx.length_eval hb
  have hv := Cond.le_ints hev (show (Term.int 384).eval args s none [] s = some (.int 384) from rfl)
  have hd : xs.length.toInt32 ≤ 384 := by
    simpa [Cond.before, Cond.holds, hv] using hle
  have hN : xs.length ≤ 384 := (Int32.ofNat_le_ofNat hsm (by decide)).mp (show Int32.ofNat xs.length ≤ Int32.ofNat 384 from hd)
  exact ⟨b, xs, Cond.one_arg hc (show args[0]? = some (.ref b) from hb), hx, hN, h⟩
theorem lw_comes (l : Launch) (hflags : l.flags = flags0) : Comes l x (Jvm.Cond.code x code maxLocals ret :: tables_1) room_1 (fun tb e args s => Calls_1 tb e args s ∧ rest_1 tb e args s ∧ Pre_1 tb e args s)
    (fun _ _ args s o t => lw_Q args s o t) := by
  intro p e ha hc hk s m args below hf hfit hheap happ hpre
  obtain ⟨b, xs, hP⟩ := lw_pre_spec hpre.2.2 hpre.2.1
  obtain ⟨k, o, h1, h2, h3, hQ⟩ := lw_walk l hflags b xs p e ha hc hk s m args below hf ((Spec.applies_iff_loose hf).mp happ).1 hP trivial
  exact ⟨k, o, h1, h2, h3, hQ⟩
theorem lw_frame {s t : State} {o : Outcome} {args : Array Value} (h : Framed s o t [] 1200128 5501098) :
    Framed s o t (fieldLocs frame_1_writes args s ++ arrayLocs frame_1_arrays args s ++ staticLocs frame_1_statics s) 1200128 5501098 := h
theorem lw_limb (L : Cond) (hL : ∀ (args : Array Value) (s t : State), L.after args s (.returned (some (.int 1))) t = true) :
    ArmFor flags0 classFile x code maxLocals ret World_1 tables_1 room_1 Calls_1 rest_1 Pre_1
      (fun tb e a s o t => postC L tb e a s o t ∧ Framed s o t (fieldLocs frame_1_writes a s ++ arrayLocs frame_1_arrays a s ++ staticLocs frame_1_statics s) 1200128 5501098) := by
  intro l hflags _ _ p e ha hc hk s m args below hf hfit hheap happ hpre
  obtain ⟨k, o, h1, h2, h3, rfl, hF⟩ := lw_comes l hflags p e ha hc hk s m args below hf hfit hheap happ hpre
  exact ⟨k, _, h1, h2, h3, hL args s _, lw_frame hF⟩
theorem i_vc : Claimed_1_1 ∧ Claimed_1_2 := ⟨lw_limb limb_1_1 (fun args s t => by simp [limb_1_1, Cond.after, Cond.holds, Cond.value]), lw_limb limb_1_2 (fun args s t => Cond.after_iff.mpr (by
  first | (rw [show limb_1_2 = Cond.eq .result (.int 1) from rfl, Cond.eq_ints (x := 1) (y := 1) rfl rfl]; simp; done) | (simp [limb_1_2, Cond.value, Term.eval]; done)))⟩
end
