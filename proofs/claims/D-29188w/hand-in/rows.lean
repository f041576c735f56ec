section
-- ===== PART A: goes FIRST, ahead of the names: the tables' words, and 'selects' of the private methods out of them =====
/-- a private method of a class that the tables say can be made, by its rows of tables_1 -/
def lw_okq (q : MethodName × Nat) : Prop := (q.1.cls ≠ "java/lang/invoke/MethodHandle" ∧ q.1.cls ≠ "java/lang/invoke/VarHandle") ∧ Cond.instantiable q.1.cls q.2 ∈ tables_1 ∧ Cond.privateMethod q.1 ∈ tables_1 ∧ Cond.instanceMethod q.1 ∈ tables_1
set_option maxRecDepth 100000
theorem lw_t1 {w : Cond} (h : w ∈ tables_1_1) : w ∈ tables_1 := List.mem_append_left _ h
theorem lw_t2 {w : Cond} (h : w ∈ tables_1_2) : w ∈ tables_1 := List.mem_append_right _ (List.mem_append_left _ h)
theorem lw_t3 {w : Cond} (h : w ∈ tables_1_3) : w ∈ tables_1 := List.mem_append_right _ (List.mem_append_right _ (List.mem_append_left _ h))
theorem lw_t4 {w : Cond} (h : w ∈ tables_1_4) : w ∈ tables_1 := List.mem_append_right _ (List.mem_append_right _ (List.mem_append_right _ h))
theorem lw_p0 : lw_okq (⟨"PeriodDesk", "room", "(I)Z"⟩, 1) := ⟨⟨by decide +kernel, by decide +kernel⟩, lw_t1 (List.mem_of_getElem? (i := 39) rfl), lw_t1 (List.mem_of_getElem? (i := 92) rfl), lw_t1 (List.mem_of_getElem? (i := 93) rfl)⟩
theorem lw_p1 : lw_okq (⟨"java/lang/NullPointerException", "getExtendedNPEMessage", "()Ljava/lang/String;"⟩, 8) := ⟨⟨by decide +kernel, by decide +kernel⟩, lw_t2 (List.mem_of_getElem? (i := 105) rfl), lw_t2 (List.mem_of_getElem? (i := 103) rfl), lw_t2 (List.mem_of_getElem? (i := 104) rfl)⟩
theorem lw_p2 : lw_okq (⟨"java/lang/Throwable", "fillInStackTrace", "(I)Ljava/lang/Throwable;"⟩, 6) := ⟨⟨by decide +kernel, by decide +kernel⟩, lw_t2 (List.mem_of_getElem? (i := 117) rfl), lw_t2 (List.mem_of_getElem? (i := 115) rfl), lw_t2 (List.mem_of_getElem? (i := 116) rfl)⟩
theorem lw_p3 : lw_okq (⟨"PeriodDeskModel", "adds", "(II)Z"⟩, 3) := ⟨⟨by decide +kernel, by decide +kernel⟩, lw_t4 (List.mem_of_getElem? (i := 33) rfl), lw_t4 (List.mem_of_getElem? (i := 62) rfl), lw_t4 (List.mem_of_getElem? (i := 63) rfl)⟩
theorem lw_p4 : lw_okq (⟨"PeriodDeskModel", "lacksRoom", "(I)Z"⟩, 3) := ⟨⟨by decide +kernel, by decide +kernel⟩, lw_t4 (List.mem_of_getElem? (i := 33) rfl), lw_t4 (List.mem_of_getElem? (i := 66) rfl), lw_t4 (List.mem_of_getElem? (i := 67) rfl)⟩
theorem lw_p5 : lw_okq (⟨"PeriodDeskModel", "takes", "(II)Z"⟩, 3) := ⟨⟨by decide +kernel, by decide +kernel⟩, lw_t4 (List.mem_of_getElem? (i := 33) rfl), lw_t4 (List.mem_of_getElem? (i := 83) rfl), lw_t4 (List.mem_of_getElem? (i := 84) rfl)⟩
def lw_privs_1 : List (MethodName × Nat) := [(⟨"PeriodDesk", "room", "(I)Z"⟩, 1), (⟨"java/lang/NullPointerException", "getExtendedNPEMessage", "()Ljava/lang/String;"⟩, 8), (⟨"java/lang/Throwable", "fillInStackTrace", "(I)Ljava/lang/Throwable;"⟩, 6), (⟨"PeriodDeskModel", "adds", "(II)Z"⟩, 3), (⟨"PeriodDeskModel", "lacksRoom", "(I)Z"⟩, 3), (⟨"PeriodDeskModel", "takes", "(II)Z"⟩, 3)]
theorem lw_r1 : ∀ q ∈ lw_privs_1, lw_okq q := List.forall_mem_cons.mpr ⟨lw_p0, List.forall_mem_cons.mpr ⟨lw_p1, List.forall_mem_cons.mpr ⟨lw_p2, List.forall_mem_cons.mpr ⟨lw_p3, List.forall_mem_cons.mpr ⟨lw_p4, List.forall_mem_cons.mpr ⟨lw_p5, fun _ h => absurd h List.not_mem_nil⟩⟩⟩⟩⟩⟩
def lw_privs : List (MethodName × Nat) := lw_privs_1
def lw_tbl : List Cond := k2_sels lw_privs ++ tables_1
theorem lw_privs_ok : ∀ q ∈ lw_privs, lw_okq q := lw_r1
-- ===== ONE list of words for every method: the tables' words that hold all through a run =====
def lw_all : List Cond := lw_tbl.filter goodWord
/-- a word of the tables by its place: claim/WORDS.tsv -/
theorem lw_w {w : Cond} (i : Nat) (h : lw_tbl[i]? = some w) (g : goodWord w = true) : w ∈ lw_all := List.mem_filter.mpr ⟨List.mem_of_getElem? h, g⟩
theorem lw_all_tbl {w : Cond} (h : w ∈ lw_all) : w ∈ lw_tbl := (List.mem_filter.mp h).1
theorem lw_self : GoodIn lw_all lw_all := fun w h => ⟨h, good_of_word (List.mem_filter.mp h).2⟩
/-- a class's field words, by their places -/
theorem lw_in (ws : List Cond) (ps : List Nat) (hp : ws = ps.filterMap (fun i => lw_tbl[i]?)) (hg : ws.all goodWord = true) : ∀ w ∈ ws, w ∈ lw_all := by
  intro w h
  have h1 := List.all_eq_true.mp hg w h
  rw [hp] at h
  obtain ⟨i, -, hi⟩ := List.mem_filterMap.mp h
  exact lw_w i hi h1
/-- the words of a contract for the method y with code b, L locals, answer r -/
abbrev ws_ (y : MethodName) (b : ByteArray) (L : Nat) (r : Option FieldType) : List Cond := Cond.code y b L r :: lw_all
theorem lw_meth {y : MethodName} {b : ByteArray} {L : Nat} {r : Option FieldType} (h : Cond.code y b L r ∈ lw_all) : GoodIn lw_all (ws_ y b L r) := by
  intro w hw
  rcases List.mem_cons.mp hw with e | e
  · rw [e]
    exact lw_self _ h
  · exact lw_self _ e
theorem lw_app {a c : List Cond} (ha : ∀ w ∈ a, w ∈ lw_all) (hc : GoodIn lw_all c) : GoodIn lw_all (a ++ c) := by
  intro w hw
  rcases List.mem_append.mp hw with e | e
  · exact lw_self w (ha w e)
  · exact hc w e
/-- what a call through an object asks: cwV n hts (lw_V ..) -/
theorem lw_V {own : String} {idx : Nat} {C : String} {y : MethodName} {b : ByteArray} {L : Nat} {r : Option FieldType} (h1 : Cond.methodLink own idx y ∈ lw_all) (h2 : Cond.instanceMethod y ∈ lw_all) (h3 : Cond.selects C y y ∈ lw_all) (h4 : Cond.initialized C ∈ lw_all) (h5 : Cond.code y b L r ∈ lw_all) : GoodIn lw_all (wsV own idx C y (ws_ y b L r)) := by
  refine lw_app ?_ (lw_meth h5)
  intro w hw
  simp only [List.mem_cons, List.not_mem_nil, or_false] at hw
  rcases hw with e | e | e | e
  · rw [e]; exact h1
  · rw [e]; exact h2
  · rw [e]; exact h3
  · rw [e]; exact h4
/-- what a static call asks: va_cwS n hts (lw_S ..) -/
theorem lw_S {own : String} {idx : Nat} {y : MethodName} {b : ByteArray} {L : Nat} {r : Option FieldType} (h1 : Cond.methodLink own idx y ∈ lw_all) (h2 : Cond.static y ∈ lw_all) (h3 : Cond.initialized y.cls ∈ lw_all) (h4 : Cond.code y b L r ∈ lw_all) : GoodIn lw_all (va_wsS own idx y (ws_ y b L r)) := by
  refine lw_app ?_ (lw_meth h4)
  intro w hw
  simp only [List.mem_cons, List.not_mem_nil, or_false] at hw
  rcases hw with e | e | e
  · rw [e]; exact h1
  · rw [e]; exact h2
  · rw [e]; exact h3
/-- the words of a contract for a method WITH HANDLERS (hh: its table) -/
abbrev wsW_ (y : MethodName) (b : ByteArray) (L : Nat) (r : Option FieldType) (hh : List (Nat × Nat × Nat × Nat)) : List Cond := Cond.codeWith y b L r hh :: lw_all
theorem lw_methW {y : MethodName} {b : ByteArray} {L : Nat} {r : Option FieldType} {hh : List (Nat × Nat × Nat × Nat)} (h : Cond.codeWith y b L r hh ∈ lw_all) : GoodIn lw_all (wsW_ y b L r hh) := by
  intro w hw
  rcases List.mem_cons.mp hw with e | e
  · rw [e]
    exact lw_self _ h
  · exact lw_self _ e
/-- any list of words by their places (lw_in), good -/
theorem lw_good {ws : List Cond} (h : ∀ w ∈ ws, w ∈ lw_all) : GoodIn lw_all ws := fun w hw => lw_self w (h w hw)
/-- what a call of a method with handlers asks: vx_cwVW n hts (lw_VW ..), vx_cwSW n hts (lw_SW ..) -/
theorem lw_VW {own : String} {idx : Nat} {C : String} {y : MethodName} {b : ByteArray} {L : Nat} {r : Option FieldType} {hh : List (Nat × Nat × Nat × Nat)} (h1 : Cond.methodLink own idx y ∈ lw_all) (h2 : Cond.instanceMethod y ∈ lw_all) (h3 : Cond.selects C y y ∈ lw_all) (h4 : Cond.initialized C ∈ lw_all) (h5 : Cond.codeWith y b L r hh ∈ lw_all) : GoodIn lw_all (wsV own idx C y (wsW_ y b L r hh)) := by
  refine lw_app ?_ (lw_methW h5)
  intro w hw
  simp only [List.mem_cons, List.not_mem_nil, or_false] at hw
  rcases hw with e | e | e | e
  · rw [e]; exact h1
  · rw [e]; exact h2
  · rw [e]; exact h3
  · rw [e]; exact h4
theorem lw_SW {own : String} {idx : Nat} {y : MethodName} {b : ByteArray} {L : Nat} {r : Option FieldType} {hh : List (Nat × Nat × Nat × Nat)} (h1 : Cond.methodLink own idx y ∈ lw_all) (h2 : Cond.static y ∈ lw_all) (h3 : Cond.initialized y.cls ∈ lw_all) (h4 : Cond.codeWith y b L r hh ∈ lw_all) : GoodIn lw_all (va_wsS own idx y (wsW_ y b L r hh)) := by
  refine lw_app ?_ (lw_methW h4)
  intro w hw
  simp only [List.mem_cons, List.not_mem_nil, or_false] at hw
  rcases hw with e | e | e
  · rw [e]; exact h1
  · rw [e]; exact h2
  · rw [e]; exact h3
/-- a word by its place in its run of the tables -/
theorem lw_at {r : List Cond} (hr : ∀ w ∈ r, w ∈ lw_tbl) {w : Cond} (i : Nat) (h : r[i]? = some w) : w ∈ lw_tbl := hr w (List.mem_of_getElem? h)
theorem lw_g {w : Cond} (h : w ∈ lw_tbl) (g : goodWord w = true) : w ∈ lw_all := List.mem_filter.mpr ⟨h, g⟩
theorem lw_ms : ∀ w ∈ k2_sels lw_privs, w ∈ lw_tbl := fun w h => show w ∈ k2_sels lw_privs ++ tables_1 from List.mem_append_left _ h
theorem lw_m1 : ∀ w ∈ tables_1_1, w ∈ lw_tbl := fun w h => show w ∈ k2_sels lw_privs ++ tables_1 from List.mem_append_right (k2_sels lw_privs) (show w ∈ tables_1 from List.mem_append_left _ h)
theorem lw_m2 : ∀ w ∈ tables_1_2, w ∈ lw_tbl := fun w h => show w ∈ k2_sels lw_privs ++ tables_1 from List.mem_append_right (k2_sels lw_privs) (show w ∈ tables_1 from List.mem_append_right _ (List.mem_append_left _ h))
theorem lw_m3 : ∀ w ∈ tables_1_3, w ∈ lw_tbl := fun w h => show w ∈ k2_sels lw_privs ++ tables_1 from List.mem_append_right (k2_sels lw_privs) (show w ∈ tables_1 from List.mem_append_right _ (List.mem_append_right _ (List.mem_append_left _ h)))
theorem lw_m4 : ∀ w ∈ tables_1_4, w ∈ lw_tbl := fun w h => show w ∈ k2_sels lw_privs ++ tables_1 from List.mem_append_right (k2_sels lw_privs) (show w ∈ tables_1 from List.mem_append_right _ (List.mem_append_right _ (List.mem_append_right _ h)))
theorem qs0 : (Cond.selects "PeriodDesk" ⟨"PeriodDesk", "room", "(I)Z"⟩ ⟨"PeriodDesk", "room", "(I)Z"⟩) ∈ lw_all := lw_g (lw_at lw_ms 0 rfl) rfl
theorem qs1 : (Cond.selects "java/lang/NullPointerException" ⟨"java/lang/NullPointerException", "getExtendedNPEMessage", "()Ljava/lang/String;"⟩ ⟨"java/lang/NullPointerException", "getExtendedNPEMessage", "()Ljava/lang/String;"⟩) ∈ lw_all := lw_g (lw_at lw_ms 1 rfl) rfl
theorem qs2 : (Cond.selects "java/lang/Throwable" ⟨"java/lang/Throwable", "fillInStackTrace", "(I)Ljava/lang/Throwable;"⟩ ⟨"java/lang/Throwable", "fillInStackTrace", "(I)Ljava/lang/Throwable;"⟩) ∈ lw_all := lw_g (lw_at lw_ms 2 rfl) rfl
theorem qs3 : (Cond.selects "PeriodDeskModel" ⟨"PeriodDeskModel", "adds", "(II)Z"⟩ ⟨"PeriodDeskModel", "adds", "(II)Z"⟩) ∈ lw_all := lw_g (lw_at lw_ms 3 rfl) rfl
theorem qs4 : (Cond.selects "PeriodDeskModel" ⟨"PeriodDeskModel", "lacksRoom", "(I)Z"⟩ ⟨"PeriodDeskModel", "lacksRoom", "(I)Z"⟩) ∈ lw_all := lw_g (lw_at lw_ms 4 rfl) rfl
theorem qs5 : (Cond.selects "PeriodDeskModel" ⟨"PeriodDeskModel", "takes", "(II)Z"⟩ ⟨"PeriodDeskModel", "takes", "(II)Z"⟩) ∈ lw_all := lw_g (lw_at lw_ms 5 rfl) rfl
-- ===== end of PART A; then your names; then what follows =====
/-! DECODE ROWS BY BYTES: one lemma an opcode; a method's code is cut into short pieces once, and a row reads its own piece alone. -/
set_option maxRecDepth 100000
/-- the code has just these bytes from pc on -/
def DkAt (code : ByteArray) (pc : Nat) (bs : List UInt8) : Prop := ∀ (j : Nat) (b : UInt8), bs[j]? = some b → code.data.toList[pc + j]? = some b
/-- the piece W has the bytes bs from its place j on -/
def dkIn (W : List UInt8) (j : Nat) (bs : List UInt8) : Bool := decide ((W.drop j).take bs.length = bs)
theorem dk_seg {l W T : List UInt8} {o o2 : Nat} (h : l.drop o = W ++ T) (n : Nat) (hn : W.length = n) (ho : o + n = o2) : l.drop o2 = T := by
  subst ho
  rw [← List.drop_drop, h, List.drop_left' hn]
theorem dk_at {code : ByteArray} {W T bs : List UInt8} {o pc : Nat} (h : code.data.toList.drop o = W ++ T) (j : Nat) (hp : o + j = pc) (hw : dkIn W j bs = true) : DkAt code pc bs := by
  subst hp
  intro i b e
  have h1 := of_decide_eq_true hw
  have h2 : i < bs.length := (List.getElem?_eq_some_iff.mp e).1
  have h3 : W[j + i]? = some b := by
    rw [← h1, List.getElem?_take, if_pos h2, List.getElem?_drop] at e
    exact e
  have h4 : j + i < W.length := (List.getElem?_eq_some_iff.mp h3).1
  have h5 : (code.data.toList.drop o)[j + i]? = some b := by
    rw [h, List.getElem?_append_left h4]
    exact h3
  rw [List.getElem?_drop, ← Nat.add_assoc] at h5
  exact h5
theorem dk_u1 {A : ByteArray} {p : Nat} {b : UInt8} (h : A.data.toList[p]? = some b) : (Reader.u1 : Reader DecodeError Nat) A p = .ok (b.toNat, p + 1) := by
  obtain ⟨h1, h2⟩ := List.getElem?_eq_some_iff.mp h
  have h3 : p < A.size := by simpa using h1
  have h4 : A[p]'h3 = b := h2
  have e : (Reader.u1 : Reader DecodeError Nat) A p = (if h : p < A.size then .ok (A[p].toNat, p + 1) else .error (HasTruncated.truncated p)) := by
    show (do if h : p < A.size then do set (p + 1); Pure.pure A[p].toNat else MonadExcept.throw (HasTruncated.truncated p) : Reader DecodeError Nat) A p = _
    by_cases hi : p < A.size
    · rw [dif_pos hi, dif_pos hi]; rfl
    · rw [dif_neg hi, dif_neg hi]; rfl
  rw [e, dif_pos h3, h4]
theorem dk_bind {α β : Type} {r : Reader DecodeError α} {f : α → Reader DecodeError β} {A : ByteArray} {p s : Nat} {a : α} (h : r A p = .ok (a, s)) : (r >>= f) A p = f a A s := by
  show (do let (a, s) ← r A p; f a A s : Except DecodeError (β × Nat)) = _
  rw [h]
  rfl
theorem dk_map {α β : Type} {r : Reader DecodeError α} {g : α → β} {A : ByteArray} {p s : Nat} {a : α} (h : r A p = .ok (a, s)) : (g <$> r) A p = .ok (g a, s) := by
  show (do let (a, s) ← r A p; .ok (g a, s) : Except DecodeError (β × Nat)) = _
  rw [h]
  rfl
theorem dk_u2 {A : ByteArray} {p : Nat} {a b : UInt8} (h : A.data.toList[p]? = some a) (h2 : A.data.toList[p + 1]? = some b) : (Reader.u2 : Reader DecodeError Nat) A p = .ok (a.toNat * 256 + b.toNat, p + 2) := by
  show (Reader.u1 >>= fun hi => Reader.u1 >>= fun lo => Pure.pure (hi * 256 + lo) : Reader DecodeError Nat) A p = _
  rw [dk_bind (dk_u1 h), dk_bind (dk_u1 h2)]
  rfl
theorem dk_of {code : ByteArray} {pc n : Nat} {i : Instr} (h : Decoder.instr pc code pc = .ok (i, pc + n)) : decode code pc = .ok (i, n) := by
  have e : decode code pc = (match Decoder.instr pc code pc with | .error x => .error x | .ok (j, s) => .ok (j, s - pc)) := by
    show (do let (j, s) ← Decoder.instr pc code pc; Pure.pure (j, s - pc) : Except DecodeError (Instr × Nat)) = _
    cases Decoder.instr pc code pc <;> rfl
  rw [e, h]
  show Except.ok (i, pc + n - pc) = _
  rw [Nat.add_sub_cancel_left]
theorem dk_2 {code : ByteArray} {pc : Nat} (h : DkAt code pc [2]) : decode code pc = .ok (.iconst (-1), 1) := dk_of ((dk_bind (dk_u1 (h 0 _ rfl))).trans rfl)
theorem dk_3 {code : ByteArray} {pc : Nat} (h : DkAt code pc [3]) : decode code pc = .ok (.iconst 0, 1) := dk_of ((dk_bind (dk_u1 (h 0 _ rfl))).trans rfl)
theorem dk_4 {code : ByteArray} {pc : Nat} (h : DkAt code pc [4]) : decode code pc = .ok (.iconst 1, 1) := dk_of ((dk_bind (dk_u1 (h 0 _ rfl))).trans rfl)
theorem dk_5 {code : ByteArray} {pc : Nat} (h : DkAt code pc [5]) : decode code pc = .ok (.iconst 2, 1) := dk_of ((dk_bind (dk_u1 (h 0 _ rfl))).trans rfl)
theorem dk_6 {code : ByteArray} {pc : Nat} (h : DkAt code pc [6]) : decode code pc = .ok (.iconst 3, 1) := dk_of ((dk_bind (dk_u1 (h 0 _ rfl))).trans rfl)
theorem dk_7 {code : ByteArray} {pc : Nat} (h : DkAt code pc [7]) : decode code pc = .ok (.iconst 4, 1) := dk_of ((dk_bind (dk_u1 (h 0 _ rfl))).trans rfl)
theorem dk_9 {code : ByteArray} {pc : Nat} (h : DkAt code pc [9]) : decode code pc = .ok (.lconst 0, 1) := dk_of ((dk_bind (dk_u1 (h 0 _ rfl))).trans rfl)
theorem dk_10 {code : ByteArray} {pc : Nat} (h : DkAt code pc [10]) : decode code pc = .ok (.lconst 1, 1) := dk_of ((dk_bind (dk_u1 (h 0 _ rfl))).trans rfl)
theorem dk_16 {code : ByteArray} {pc : Nat} (a : UInt8) (h : DkAt code pc [16, a]) : decode code pc = .ok (.bipush (Reader.signed 8 a.toNat), 2) := dk_of ((dk_bind (dk_u1 (h 0 _ rfl))).trans ((dk_bind (dk_map (dk_u1 (h 1 _ rfl)))).trans rfl))
theorem dk_17 {code : ByteArray} {pc : Nat} (a b : UInt8) (h : DkAt code pc [17, a, b]) : decode code pc = .ok (.sipush (Reader.signed 16 (a.toNat * 256 + b.toNat)), 3) := dk_of ((dk_bind (dk_u1 (h 0 _ rfl))).trans ((dk_bind (dk_map (dk_u2 (h 1 _ rfl) (h 2 _ rfl)))).trans rfl))
theorem dk_18 {code : ByteArray} {pc : Nat} (a : UInt8) (h : DkAt code pc [18, a]) : decode code pc = .ok (.ldc a.toNat, 2) := dk_of ((dk_bind (dk_u1 (h 0 _ rfl))).trans ((dk_bind (dk_u1 (h 1 _ rfl))).trans rfl))
theorem dk_19 {code : ByteArray} {pc : Nat} (a b : UInt8) (h : DkAt code pc [19, a, b]) : decode code pc = .ok (.ldc_w (a.toNat * 256 + b.toNat), 3) := dk_of ((dk_bind (dk_u1 (h 0 _ rfl))).trans ((dk_bind (dk_u2 (h 1 _ rfl) (h 2 _ rfl))).trans rfl))
theorem dk_20 {code : ByteArray} {pc : Nat} (a b : UInt8) (h : DkAt code pc [20, a, b]) : decode code pc = .ok (.ldc2_w (a.toNat * 256 + b.toNat), 3) := dk_of ((dk_bind (dk_u1 (h 0 _ rfl))).trans ((dk_bind (dk_u2 (h 1 _ rfl) (h 2 _ rfl))).trans rfl))
theorem dk_21 {code : ByteArray} {pc : Nat} (a : UInt8) (h : DkAt code pc [21, a]) : decode code pc = .ok (.iload a.toNat, 2) := dk_of ((dk_bind (dk_u1 (h 0 _ rfl))).trans ((dk_bind (dk_u1 (h 1 _ rfl))).trans rfl))
theorem dk_22 {code : ByteArray} {pc : Nat} (a : UInt8) (h : DkAt code pc [22, a]) : decode code pc = .ok (.lload a.toNat, 2) := dk_of ((dk_bind (dk_u1 (h 0 _ rfl))).trans ((dk_bind (dk_u1 (h 1 _ rfl))).trans rfl))
theorem dk_25 {code : ByteArray} {pc : Nat} (a : UInt8) (h : DkAt code pc [25, a]) : decode code pc = .ok (.aload a.toNat, 2) := dk_of ((dk_bind (dk_u1 (h 0 _ rfl))).trans ((dk_bind (dk_u1 (h 1 _ rfl))).trans rfl))
theorem dk_26 {code : ByteArray} {pc : Nat} (h : DkAt code pc [26]) : decode code pc = .ok (.iload_n 0, 1) := dk_of ((dk_bind (dk_u1 (h 0 _ rfl))).trans rfl)
theorem dk_27 {code : ByteArray} {pc : Nat} (h : DkAt code pc [27]) : decode code pc = .ok (.iload_n 1, 1) := dk_of ((dk_bind (dk_u1 (h 0 _ rfl))).trans rfl)
theorem dk_28 {code : ByteArray} {pc : Nat} (h : DkAt code pc [28]) : decode code pc = .ok (.iload_n 2, 1) := dk_of ((dk_bind (dk_u1 (h 0 _ rfl))).trans rfl)
theorem dk_29 {code : ByteArray} {pc : Nat} (h : DkAt code pc [29]) : decode code pc = .ok (.iload_n 3, 1) := dk_of ((dk_bind (dk_u1 (h 0 _ rfl))).trans rfl)
theorem dk_30 {code : ByteArray} {pc : Nat} (h : DkAt code pc [30]) : decode code pc = .ok (.lload_n 0, 1) := dk_of ((dk_bind (dk_u1 (h 0 _ rfl))).trans rfl)
theorem dk_31 {code : ByteArray} {pc : Nat} (h : DkAt code pc [31]) : decode code pc = .ok (.lload_n 1, 1) := dk_of ((dk_bind (dk_u1 (h 0 _ rfl))).trans rfl)
theorem dk_32 {code : ByteArray} {pc : Nat} (h : DkAt code pc [32]) : decode code pc = .ok (.lload_n 2, 1) := dk_of ((dk_bind (dk_u1 (h 0 _ rfl))).trans rfl)
theorem dk_33 {code : ByteArray} {pc : Nat} (h : DkAt code pc [33]) : decode code pc = .ok (.lload_n 3, 1) := dk_of ((dk_bind (dk_u1 (h 0 _ rfl))).trans rfl)
theorem dk_42 {code : ByteArray} {pc : Nat} (h : DkAt code pc [42]) : decode code pc = .ok (.aload_n 0, 1) := dk_of ((dk_bind (dk_u1 (h 0 _ rfl))).trans rfl)
theorem dk_43 {code : ByteArray} {pc : Nat} (h : DkAt code pc [43]) : decode code pc = .ok (.aload_n 1, 1) := dk_of ((dk_bind (dk_u1 (h 0 _ rfl))).trans rfl)
theorem dk_44 {code : ByteArray} {pc : Nat} (h : DkAt code pc [44]) : decode code pc = .ok (.aload_n 2, 1) := dk_of ((dk_bind (dk_u1 (h 0 _ rfl))).trans rfl)
theorem dk_45 {code : ByteArray} {pc : Nat} (h : DkAt code pc [45]) : decode code pc = .ok (.aload_n 3, 1) := dk_of ((dk_bind (dk_u1 (h 0 _ rfl))).trans rfl)
theorem dk_46 {code : ByteArray} {pc : Nat} (h : DkAt code pc [46]) : decode code pc = .ok (.iaload, 1) := dk_of ((dk_bind (dk_u1 (h 0 _ rfl))).trans rfl)
theorem dk_50 {code : ByteArray} {pc : Nat} (h : DkAt code pc [50]) : decode code pc = .ok (.aaload, 1) := dk_of ((dk_bind (dk_u1 (h 0 _ rfl))).trans rfl)
theorem dk_51 {code : ByteArray} {pc : Nat} (h : DkAt code pc [51]) : decode code pc = .ok (.baload, 1) := dk_of ((dk_bind (dk_u1 (h 0 _ rfl))).trans rfl)
theorem dk_54 {code : ByteArray} {pc : Nat} (a : UInt8) (h : DkAt code pc [54, a]) : decode code pc = .ok (.istore a.toNat, 2) := dk_of ((dk_bind (dk_u1 (h 0 _ rfl))).trans ((dk_bind (dk_u1 (h 1 _ rfl))).trans rfl))
theorem dk_55 {code : ByteArray} {pc : Nat} (a : UInt8) (h : DkAt code pc [55, a]) : decode code pc = .ok (.lstore a.toNat, 2) := dk_of ((dk_bind (dk_u1 (h 0 _ rfl))).trans ((dk_bind (dk_u1 (h 1 _ rfl))).trans rfl))
theorem dk_58 {code : ByteArray} {pc : Nat} (a : UInt8) (h : DkAt code pc [58, a]) : decode code pc = .ok (.astore a.toNat, 2) := dk_of ((dk_bind (dk_u1 (h 0 _ rfl))).trans ((dk_bind (dk_u1 (h 1 _ rfl))).trans rfl))
theorem dk_59 {code : ByteArray} {pc : Nat} (h : DkAt code pc [59]) : decode code pc = .ok (.istore_n 0, 1) := dk_of ((dk_bind (dk_u1 (h 0 _ rfl))).trans rfl)
theorem dk_60 {code : ByteArray} {pc : Nat} (h : DkAt code pc [60]) : decode code pc = .ok (.istore_n 1, 1) := dk_of ((dk_bind (dk_u1 (h 0 _ rfl))).trans rfl)
theorem dk_61 {code : ByteArray} {pc : Nat} (h : DkAt code pc [61]) : decode code pc = .ok (.istore_n 2, 1) := dk_of ((dk_bind (dk_u1 (h 0 _ rfl))).trans rfl)
theorem dk_62 {code : ByteArray} {pc : Nat} (h : DkAt code pc [62]) : decode code pc = .ok (.istore_n 3, 1) := dk_of ((dk_bind (dk_u1 (h 0 _ rfl))).trans rfl)
theorem dk_64 {code : ByteArray} {pc : Nat} (h : DkAt code pc [64]) : decode code pc = .ok (.lstore_n 1, 1) := dk_of ((dk_bind (dk_u1 (h 0 _ rfl))).trans rfl)
theorem dk_65 {code : ByteArray} {pc : Nat} (h : DkAt code pc [65]) : decode code pc = .ok (.lstore_n 2, 1) := dk_of ((dk_bind (dk_u1 (h 0 _ rfl))).trans rfl)
theorem dk_66 {code : ByteArray} {pc : Nat} (h : DkAt code pc [66]) : decode code pc = .ok (.lstore_n 3, 1) := dk_of ((dk_bind (dk_u1 (h 0 _ rfl))).trans rfl)
theorem dk_76 {code : ByteArray} {pc : Nat} (h : DkAt code pc [76]) : decode code pc = .ok (.astore_n 1, 1) := dk_of ((dk_bind (dk_u1 (h 0 _ rfl))).trans rfl)
theorem dk_77 {code : ByteArray} {pc : Nat} (h : DkAt code pc [77]) : decode code pc = .ok (.astore_n 2, 1) := dk_of ((dk_bind (dk_u1 (h 0 _ rfl))).trans rfl)
theorem dk_78 {code : ByteArray} {pc : Nat} (h : DkAt code pc [78]) : decode code pc = .ok (.astore_n 3, 1) := dk_of ((dk_bind (dk_u1 (h 0 _ rfl))).trans rfl)
theorem dk_79 {code : ByteArray} {pc : Nat} (h : DkAt code pc [79]) : decode code pc = .ok (.iastore, 1) := dk_of ((dk_bind (dk_u1 (h 0 _ rfl))).trans rfl)
theorem dk_83 {code : ByteArray} {pc : Nat} (h : DkAt code pc [83]) : decode code pc = .ok (.aastore, 1) := dk_of ((dk_bind (dk_u1 (h 0 _ rfl))).trans rfl)
theorem dk_87 {code : ByteArray} {pc : Nat} (h : DkAt code pc [87]) : decode code pc = .ok (.pop, 1) := dk_of ((dk_bind (dk_u1 (h 0 _ rfl))).trans rfl)
theorem dk_89 {code : ByteArray} {pc : Nat} (h : DkAt code pc [89]) : decode code pc = .ok (.dup, 1) := dk_of ((dk_bind (dk_u1 (h 0 _ rfl))).trans rfl)
theorem dk_92 {code : ByteArray} {pc : Nat} (h : DkAt code pc [92]) : decode code pc = .ok (.dup2, 1) := dk_of ((dk_bind (dk_u1 (h 0 _ rfl))).trans rfl)
theorem dk_96 {code : ByteArray} {pc : Nat} (h : DkAt code pc [96]) : decode code pc = .ok (.iadd, 1) := dk_of ((dk_bind (dk_u1 (h 0 _ rfl))).trans rfl)
theorem dk_97 {code : ByteArray} {pc : Nat} (h : DkAt code pc [97]) : decode code pc = .ok (.ladd, 1) := dk_of ((dk_bind (dk_u1 (h 0 _ rfl))).trans rfl)
theorem dk_100 {code : ByteArray} {pc : Nat} (h : DkAt code pc [100]) : decode code pc = .ok (.isub, 1) := dk_of ((dk_bind (dk_u1 (h 0 _ rfl))).trans rfl)
theorem dk_104 {code : ByteArray} {pc : Nat} (h : DkAt code pc [104]) : decode code pc = .ok (.imul, 1) := dk_of ((dk_bind (dk_u1 (h 0 _ rfl))).trans rfl)
theorem dk_105 {code : ByteArray} {pc : Nat} (h : DkAt code pc [105]) : decode code pc = .ok (.lmul, 1) := dk_of ((dk_bind (dk_u1 (h 0 _ rfl))).trans rfl)
theorem dk_109 {code : ByteArray} {pc : Nat} (h : DkAt code pc [109]) : decode code pc = .ok (.ldiv, 1) := dk_of ((dk_bind (dk_u1 (h 0 _ rfl))).trans rfl)
theorem dk_112 {code : ByteArray} {pc : Nat} (h : DkAt code pc [112]) : decode code pc = .ok (.irem, 1) := dk_of ((dk_bind (dk_u1 (h 0 _ rfl))).trans rfl)
theorem dk_113 {code : ByteArray} {pc : Nat} (h : DkAt code pc [113]) : decode code pc = .ok (.lrem, 1) := dk_of ((dk_bind (dk_u1 (h 0 _ rfl))).trans rfl)
theorem dk_116 {code : ByteArray} {pc : Nat} (h : DkAt code pc [116]) : decode code pc = .ok (.ineg, 1) := dk_of ((dk_bind (dk_u1 (h 0 _ rfl))).trans rfl)
theorem dk_120 {code : ByteArray} {pc : Nat} (h : DkAt code pc [120]) : decode code pc = .ok (.ishl, 1) := dk_of ((dk_bind (dk_u1 (h 0 _ rfl))).trans rfl)
theorem dk_121 {code : ByteArray} {pc : Nat} (h : DkAt code pc [121]) : decode code pc = .ok (.lshl, 1) := dk_of ((dk_bind (dk_u1 (h 0 _ rfl))).trans rfl)
theorem dk_122 {code : ByteArray} {pc : Nat} (h : DkAt code pc [122]) : decode code pc = .ok (.ishr, 1) := dk_of ((dk_bind (dk_u1 (h 0 _ rfl))).trans rfl)
theorem dk_124 {code : ByteArray} {pc : Nat} (h : DkAt code pc [124]) : decode code pc = .ok (.iushr, 1) := dk_of ((dk_bind (dk_u1 (h 0 _ rfl))).trans rfl)
theorem dk_125 {code : ByteArray} {pc : Nat} (h : DkAt code pc [125]) : decode code pc = .ok (.lushr, 1) := dk_of ((dk_bind (dk_u1 (h 0 _ rfl))).trans rfl)
theorem dk_126 {code : ByteArray} {pc : Nat} (h : DkAt code pc [126]) : decode code pc = .ok (.iand, 1) := dk_of ((dk_bind (dk_u1 (h 0 _ rfl))).trans rfl)
theorem dk_127 {code : ByteArray} {pc : Nat} (h : DkAt code pc [127]) : decode code pc = .ok (.land, 1) := dk_of ((dk_bind (dk_u1 (h 0 _ rfl))).trans rfl)
theorem dk_128 {code : ByteArray} {pc : Nat} (h : DkAt code pc [128]) : decode code pc = .ok (.ior, 1) := dk_of ((dk_bind (dk_u1 (h 0 _ rfl))).trans rfl)
theorem dk_129 {code : ByteArray} {pc : Nat} (h : DkAt code pc [129]) : decode code pc = .ok (.lor, 1) := dk_of ((dk_bind (dk_u1 (h 0 _ rfl))).trans rfl)
theorem dk_130 {code : ByteArray} {pc : Nat} (h : DkAt code pc [130]) : decode code pc = .ok (.ixor, 1) := dk_of ((dk_bind (dk_u1 (h 0 _ rfl))).trans rfl)
theorem dk_131 {code : ByteArray} {pc : Nat} (h : DkAt code pc [131]) : decode code pc = .ok (.lxor, 1) := dk_of ((dk_bind (dk_u1 (h 0 _ rfl))).trans rfl)
theorem dk_132 {code : ByteArray} {pc : Nat} (a b : UInt8) (h : DkAt code pc [132, a, b]) : decode code pc = .ok (.iinc a.toNat (Reader.signed 8 b.toNat), 3) := dk_of ((dk_bind (dk_u1 (h 0 _ rfl))).trans ((dk_bind (dk_u1 (h 1 _ rfl))).trans ((dk_bind (dk_map (dk_u1 (h 2 _ rfl)))).trans rfl)))
theorem dk_133 {code : ByteArray} {pc : Nat} (h : DkAt code pc [133]) : decode code pc = .ok (.i2l, 1) := dk_of ((dk_bind (dk_u1 (h 0 _ rfl))).trans rfl)
theorem dk_136 {code : ByteArray} {pc : Nat} (h : DkAt code pc [136]) : decode code pc = .ok (.l2i, 1) := dk_of ((dk_bind (dk_u1 (h 0 _ rfl))).trans rfl)
theorem dk_146 {code : ByteArray} {pc : Nat} (h : DkAt code pc [146]) : decode code pc = .ok (.i2c, 1) := dk_of ((dk_bind (dk_u1 (h 0 _ rfl))).trans rfl)
theorem dk_148 {code : ByteArray} {pc : Nat} (h : DkAt code pc [148]) : decode code pc = .ok (.lcmp, 1) := dk_of ((dk_bind (dk_u1 (h 0 _ rfl))).trans rfl)
theorem dk_153 {code : ByteArray} {pc : Nat} (a b : UInt8) (h : DkAt code pc [153, a, b]) : decode code pc = .ok (.ifCond .eq (Reader.signed 16 (a.toNat * 256 + b.toNat)), 3) := dk_of ((dk_bind (dk_u1 (h 0 _ rfl))).trans ((dk_bind (dk_map (dk_u2 (h 1 _ rfl) (h 2 _ rfl)))).trans rfl))
theorem dk_154 {code : ByteArray} {pc : Nat} (a b : UInt8) (h : DkAt code pc [154, a, b]) : decode code pc = .ok (.ifCond .ne (Reader.signed 16 (a.toNat * 256 + b.toNat)), 3) := dk_of ((dk_bind (dk_u1 (h 0 _ rfl))).trans ((dk_bind (dk_map (dk_u2 (h 1 _ rfl) (h 2 _ rfl)))).trans rfl))
theorem dk_155 {code : ByteArray} {pc : Nat} (a b : UInt8) (h : DkAt code pc [155, a, b]) : decode code pc = .ok (.ifCond .lt (Reader.signed 16 (a.toNat * 256 + b.toNat)), 3) := dk_of ((dk_bind (dk_u1 (h 0 _ rfl))).trans ((dk_bind (dk_map (dk_u2 (h 1 _ rfl) (h 2 _ rfl)))).trans rfl))
theorem dk_156 {code : ByteArray} {pc : Nat} (a b : UInt8) (h : DkAt code pc [156, a, b]) : decode code pc = .ok (.ifCond .ge (Reader.signed 16 (a.toNat * 256 + b.toNat)), 3) := dk_of ((dk_bind (dk_u1 (h 0 _ rfl))).trans ((dk_bind (dk_map (dk_u2 (h 1 _ rfl) (h 2 _ rfl)))).trans rfl))
theorem dk_157 {code : ByteArray} {pc : Nat} (a b : UInt8) (h : DkAt code pc [157, a, b]) : decode code pc = .ok (.ifCond .gt (Reader.signed 16 (a.toNat * 256 + b.toNat)), 3) := dk_of ((dk_bind (dk_u1 (h 0 _ rfl))).trans ((dk_bind (dk_map (dk_u2 (h 1 _ rfl) (h 2 _ rfl)))).trans rfl))
theorem dk_158 {code : ByteArray} {pc : Nat} (a b : UInt8) (h : DkAt code pc [158, a, b]) : decode code pc = .ok (.ifCond .le (Reader.signed 16 (a.toNat * 256 + b.toNat)), 3) := dk_of ((dk_bind (dk_u1 (h 0 _ rfl))).trans ((dk_bind (dk_map (dk_u2 (h 1 _ rfl) (h 2 _ rfl)))).trans rfl))
theorem dk_159 {code : ByteArray} {pc : Nat} (a b : UInt8) (h : DkAt code pc [159, a, b]) : decode code pc = .ok (.if_icmp .eq (Reader.signed 16 (a.toNat * 256 + b.toNat)), 3) := dk_of ((dk_bind (dk_u1 (h 0 _ rfl))).trans ((dk_bind (dk_map (dk_u2 (h 1 _ rfl) (h 2 _ rfl)))).trans rfl))
theorem dk_160 {code : ByteArray} {pc : Nat} (a b : UInt8) (h : DkAt code pc [160, a, b]) : decode code pc = .ok (.if_icmp .ne (Reader.signed 16 (a.toNat * 256 + b.toNat)), 3) := dk_of ((dk_bind (dk_u1 (h 0 _ rfl))).trans ((dk_bind (dk_map (dk_u2 (h 1 _ rfl) (h 2 _ rfl)))).trans rfl))
theorem dk_161 {code : ByteArray} {pc : Nat} (a b : UInt8) (h : DkAt code pc [161, a, b]) : decode code pc = .ok (.if_icmp .lt (Reader.signed 16 (a.toNat * 256 + b.toNat)), 3) := dk_of ((dk_bind (dk_u1 (h 0 _ rfl))).trans ((dk_bind (dk_map (dk_u2 (h 1 _ rfl) (h 2 _ rfl)))).trans rfl))
theorem dk_162 {code : ByteArray} {pc : Nat} (a b : UInt8) (h : DkAt code pc [162, a, b]) : decode code pc = .ok (.if_icmp .ge (Reader.signed 16 (a.toNat * 256 + b.toNat)), 3) := dk_of ((dk_bind (dk_u1 (h 0 _ rfl))).trans ((dk_bind (dk_map (dk_u2 (h 1 _ rfl) (h 2 _ rfl)))).trans rfl))
theorem dk_163 {code : ByteArray} {pc : Nat} (a b : UInt8) (h : DkAt code pc [163, a, b]) : decode code pc = .ok (.if_icmp .gt (Reader.signed 16 (a.toNat * 256 + b.toNat)), 3) := dk_of ((dk_bind (dk_u1 (h 0 _ rfl))).trans ((dk_bind (dk_map (dk_u2 (h 1 _ rfl) (h 2 _ rfl)))).trans rfl))
theorem dk_164 {code : ByteArray} {pc : Nat} (a b : UInt8) (h : DkAt code pc [164, a, b]) : decode code pc = .ok (.if_icmp .le (Reader.signed 16 (a.toNat * 256 + b.toNat)), 3) := dk_of ((dk_bind (dk_u1 (h 0 _ rfl))).trans ((dk_bind (dk_map (dk_u2 (h 1 _ rfl) (h 2 _ rfl)))).trans rfl))
theorem dk_165 {code : ByteArray} {pc : Nat} (a b : UInt8) (h : DkAt code pc [165, a, b]) : decode code pc = .ok (.if_acmp .eq (Reader.signed 16 (a.toNat * 256 + b.toNat)), 3) := dk_of ((dk_bind (dk_u1 (h 0 _ rfl))).trans ((dk_bind (dk_map (dk_u2 (h 1 _ rfl) (h 2 _ rfl)))).trans rfl))
theorem dk_166 {code : ByteArray} {pc : Nat} (a b : UInt8) (h : DkAt code pc [166, a, b]) : decode code pc = .ok (.if_acmp .ne (Reader.signed 16 (a.toNat * 256 + b.toNat)), 3) := dk_of ((dk_bind (dk_u1 (h 0 _ rfl))).trans ((dk_bind (dk_map (dk_u2 (h 1 _ rfl) (h 2 _ rfl)))).trans rfl))
theorem dk_167 {code : ByteArray} {pc : Nat} (a b : UInt8) (h : DkAt code pc [167, a, b]) : decode code pc = .ok (.goto (Reader.signed 16 (a.toNat * 256 + b.toNat)), 3) := dk_of ((dk_bind (dk_u1 (h 0 _ rfl))).trans ((dk_bind (dk_map (dk_u2 (h 1 _ rfl) (h 2 _ rfl)))).trans rfl))
theorem dk_172 {code : ByteArray} {pc : Nat} (h : DkAt code pc [172]) : decode code pc = .ok (.ireturn, 1) := dk_of ((dk_bind (dk_u1 (h 0 _ rfl))).trans rfl)
theorem dk_173 {code : ByteArray} {pc : Nat} (h : DkAt code pc [173]) : decode code pc = .ok (.lreturn, 1) := dk_of ((dk_bind (dk_u1 (h 0 _ rfl))).trans rfl)
theorem dk_176 {code : ByteArray} {pc : Nat} (h : DkAt code pc [176]) : decode code pc = .ok (.areturn, 1) := dk_of ((dk_bind (dk_u1 (h 0 _ rfl))).trans rfl)
theorem dk_177 {code : ByteArray} {pc : Nat} (h : DkAt code pc [177]) : decode code pc = .ok (.return_, 1) := dk_of ((dk_bind (dk_u1 (h 0 _ rfl))).trans rfl)
theorem dk_178 {code : ByteArray} {pc : Nat} (a b : UInt8) (h : DkAt code pc [178, a, b]) : decode code pc = .ok (.getstatic (a.toNat * 256 + b.toNat), 3) := dk_of ((dk_bind (dk_u1 (h 0 _ rfl))).trans ((dk_bind (dk_u2 (h 1 _ rfl) (h 2 _ rfl))).trans rfl))
theorem dk_180 {code : ByteArray} {pc : Nat} (a b : UInt8) (h : DkAt code pc [180, a, b]) : decode code pc = .ok (.getfield (a.toNat * 256 + b.toNat), 3) := dk_of ((dk_bind (dk_u1 (h 0 _ rfl))).trans ((dk_bind (dk_u2 (h 1 _ rfl) (h 2 _ rfl))).trans rfl))
theorem dk_181 {code : ByteArray} {pc : Nat} (a b : UInt8) (h : DkAt code pc [181, a, b]) : decode code pc = .ok (.putfield (a.toNat * 256 + b.toNat), 3) := dk_of ((dk_bind (dk_u1 (h 0 _ rfl))).trans ((dk_bind (dk_u2 (h 1 _ rfl) (h 2 _ rfl))).trans rfl))
theorem dk_182 {code : ByteArray} {pc : Nat} (a b : UInt8) (h : DkAt code pc [182, a, b]) : decode code pc = .ok (.invokevirtual (a.toNat * 256 + b.toNat), 3) := dk_of ((dk_bind (dk_u1 (h 0 _ rfl))).trans ((dk_bind (dk_u2 (h 1 _ rfl) (h 2 _ rfl))).trans rfl))
theorem dk_183 {code : ByteArray} {pc : Nat} (a b : UInt8) (h : DkAt code pc [183, a, b]) : decode code pc = .ok (.invokespecial (a.toNat * 256 + b.toNat), 3) := dk_of ((dk_bind (dk_u1 (h 0 _ rfl))).trans ((dk_bind (dk_u2 (h 1 _ rfl) (h 2 _ rfl))).trans rfl))
theorem dk_184 {code : ByteArray} {pc : Nat} (a b : UInt8) (h : DkAt code pc [184, a, b]) : decode code pc = .ok (.invokestatic (a.toNat * 256 + b.toNat), 3) := dk_of ((dk_bind (dk_u1 (h 0 _ rfl))).trans ((dk_bind (dk_u2 (h 1 _ rfl) (h 2 _ rfl))).trans rfl))
theorem dk_187 {code : ByteArray} {pc : Nat} (a b : UInt8) (h : DkAt code pc [187, a, b]) : decode code pc = .ok (.new (a.toNat * 256 + b.toNat), 3) := dk_of ((dk_bind (dk_u1 (h 0 _ rfl))).trans ((dk_bind (dk_u2 (h 1 _ rfl) (h 2 _ rfl))).trans rfl))
theorem dk_188_10 {code : ByteArray} {pc : Nat} (h : DkAt code pc [188, 10]) : decode code pc = .ok (.newarray .int, 2) := dk_of ((dk_bind (dk_u1 (h 0 _ rfl))).trans ((dk_bind (dk_u1 (h 1 _ rfl))).trans rfl))
theorem dk_189 {code : ByteArray} {pc : Nat} (a b : UInt8) (h : DkAt code pc [189, a, b]) : decode code pc = .ok (.anewarray (a.toNat * 256 + b.toNat), 3) := dk_of ((dk_bind (dk_u1 (h 0 _ rfl))).trans ((dk_bind (dk_u2 (h 1 _ rfl) (h 2 _ rfl))).trans rfl))
theorem dk_190 {code : ByteArray} {pc : Nat} (h : DkAt code pc [190]) : decode code pc = .ok (.arraylength, 1) := dk_of ((dk_bind (dk_u1 (h 0 _ rfl))).trans rfl)
theorem dk_191 {code : ByteArray} {pc : Nat} (h : DkAt code pc [191]) : decode code pc = .ok (.athrow, 1) := dk_of ((dk_bind (dk_u1 (h 0 _ rfl))).trans rfl)
theorem dk_192 {code : ByteArray} {pc : Nat} (a b : UInt8) (h : DkAt code pc [192, a, b]) : decode code pc = .ok (.checkcast (a.toNat * 256 + b.toNat), 3) := dk_of ((dk_bind (dk_u1 (h 0 _ rfl))).trans ((dk_bind (dk_u2 (h 1 _ rfl) (h 2 _ rfl))).trans rfl))
theorem dk_193 {code : ByteArray} {pc : Nat} (a b : UInt8) (h : DkAt code pc [193, a, b]) : decode code pc = .ok (.instanceof (a.toNat * 256 + b.toNat), 3) := dk_of ((dk_bind (dk_u1 (h 0 _ rfl))).trans ((dk_bind (dk_u2 (h 1 _ rfl) (h 2 _ rfl))).trans rfl))
theorem dk_199 {code : ByteArray} {pc : Nat} (a b : UInt8) (h : DkAt code pc [199, a, b]) : decode code pc = .ok (.ifnonnull (Reader.signed 16 (a.toNat * 256 + b.toNat)), 3) := dk_of ((dk_bind (dk_u1 (h 0 _ rfl))).trans ((dk_bind (dk_map (dk_u2 (h 1 _ rfl) (h 2 _ rfl)))).trans rfl))
end
section
/-! ChronoPeriod -/
set_option maxRecDepth 100000
def RX1 : String := "ChronoPeriod"
abbrev cX1_init : ByteArray := prog_1_method_1_code
def yX1_init : MethodName := ⟨RX1, "<init>", "()V"⟩
theorem dX1_init_0 : decode cX1_init 0 = .ok (.aload_n 0, 1) := by decide +kernel
theorem dX1_init_1 : decode cX1_init 1 = .ok (.invokespecial 1, 3) := by decide +kernel
theorem dX1_init_4 : decode cX1_init 4 = .ok (.return_, 1) := by decide +kernel
theorem q8 : (Jvm.Cond.initialized "ChronoPeriod") ∈ lw_all := lw_g (lw_at lw_m1 2 rfl) rfl
theorem q68 : (Jvm.Cond.instanceMethod ({ cls := "ChronoPeriod", name := "<init>", desc := "()V" } : Jvm.MethodName)) ∈ lw_all := lw_g (lw_at lw_m1 62 rfl) rfl
theorem q69 : (Jvm.Cond.code ({ cls := "ChronoPeriod", name := "<init>", desc := "()V" } : Jvm.MethodName) prog_1_method_1_code (1 : Nat) (Option.none : Option Jvm.ClassFile.FieldType)) ∈ lw_all := lw_g (lw_at lw_m1 63 rfl) rfl
theorem q70 : (Jvm.Cond.methodLink "ChronoPeriod" (1 : Nat) ({ cls := "java/lang/Object", name := "<init>", desc := "()V" } : Jvm.MethodName)) ∈ lw_all := lw_g (lw_at lw_m1 64 rfl) rfl
theorem q126 : (Jvm.Cond.declares ({ cls := "ChronoPeriod", name := "getChronology", desc := "()LChronology;" } : Jvm.MethodName)) ∈ lw_tbl := lw_at lw_m1 120 rfl
theorem q127 : (Jvm.Cond.sameMethod "ChronoPeriod" "ChronoPeriod" "getChronology" "()LChronology;") ∈ lw_all := lw_g (lw_at lw_m1 121 rfl) rfl
/-! Period -/
set_option maxRecDepth 100000
def RX2 : String := "Period"
def TX2 : u_T := fun k => match k with
  | 0 => ("Period", "years", "I", true)
  | 1 => ("Period", "months", "I", true)
  | _ => ("Period", "days", "I", true)
def tyX2 : Nat → FieldType := fun k => match k with
  | 0 => .int
  | 1 => .int
  | _ => .int
abbrev wsX20 : List Cond := u_ws RX2 TX2 3
theorem nmX2 : ∀ a, a < 3 → ∀ b, b < 3 → a ≠ b → (TX2 a).2.1 ≠ (TX2 b).2.1 := by decide +kernel
theorem tyX2_ok : ∀ k, k < 3 → parseFieldDescriptor (TX2 k).2.2.1 = some (tyX2 k) := by decide +kernel
abbrev cX2_of : ByteArray := prog_8_method_1_code
def yX2_of : MethodName := ⟨RX2, "of", "(III)LPeriod;"⟩
def dkwX2_of_0 : List UInt8 := [26, 27, 28, 184, 0, 1, 176]
abbrev dktX2_of_0 : List UInt8 := dkwX2_of_0 ++ []
theorem dksX2_of_0 : cX2_of.data.toList.drop 0 = dktX2_of_0 := by decide +kernel
theorem dX2_of_0 : decode cX2_of 0 = .ok (.iload_n 0, 1) := dk_26 (dk_at dksX2_of_0 0 rfl rfl)
theorem dX2_of_1 : decode cX2_of 1 = .ok (.iload_n 1, 1) := dk_27 (dk_at dksX2_of_0 1 rfl rfl)
theorem dX2_of_2 : decode cX2_of 2 = .ok (.iload_n 2, 1) := dk_28 (dk_at dksX2_of_0 2 rfl rfl)
theorem dX2_of_3 : decode cX2_of 3 = .ok (.invokestatic 1, 3) := dk_184 0 1 (dk_at dksX2_of_0 3 rfl rfl)
theorem dX2_of_6 : decode cX2_of 6 = .ok (.areturn, 1) := dk_176 (dk_at dksX2_of_0 6 rfl rfl)
abbrev cX2_create : ByteArray := prog_8_method_3_code
def yX2_create : MethodName := ⟨RX2, "create", "(III)LPeriod;"⟩
def dkwX2_create_0 : List UInt8 := [26, 27, 128, 28, 128, 154, 0, 7, 178, 0, 83, 176, 187, 0, 2, 89, 26, 27, 28, 183, 0, 87, 176]
abbrev dktX2_create_0 : List UInt8 := dkwX2_create_0 ++ []
theorem dksX2_create_0 : cX2_create.data.toList.drop 0 = dktX2_create_0 := by decide +kernel
theorem dX2_create_0 : decode cX2_create 0 = .ok (.iload_n 0, 1) := dk_26 (dk_at dksX2_create_0 0 rfl rfl)
theorem dX2_create_1 : decode cX2_create 1 = .ok (.iload_n 1, 1) := dk_27 (dk_at dksX2_create_0 1 rfl rfl)
theorem dX2_create_2 : decode cX2_create 2 = .ok (.ior, 1) := dk_128 (dk_at dksX2_create_0 2 rfl rfl)
theorem dX2_create_3 : decode cX2_create 3 = .ok (.iload_n 2, 1) := dk_28 (dk_at dksX2_create_0 3 rfl rfl)
theorem dX2_create_4 : decode cX2_create 4 = .ok (.ior, 1) := dk_128 (dk_at dksX2_create_0 4 rfl rfl)
theorem dX2_create_5 : decode cX2_create 5 = .ok (.ifCond .ne 7, 3) := dk_154 0 7 (dk_at dksX2_create_0 5 rfl rfl)
theorem dX2_create_8 : decode cX2_create 8 = .ok (.getstatic 83, 3) := dk_178 0 83 (dk_at dksX2_create_0 8 rfl rfl)
theorem dX2_create_11 : decode cX2_create 11 = .ok (.areturn, 1) := dk_176 (dk_at dksX2_create_0 11 rfl rfl)
theorem dX2_create_12 : decode cX2_create 12 = .ok (.new 2, 3) := dk_187 0 2 (dk_at dksX2_create_0 12 rfl rfl)
theorem dX2_create_15 : decode cX2_create 15 = .ok (.dup, 1) := dk_89 (dk_at dksX2_create_0 15 rfl rfl)
theorem dX2_create_16 : decode cX2_create 16 = .ok (.iload_n 0, 1) := dk_26 (dk_at dksX2_create_0 16 rfl rfl)
theorem dX2_create_17 : decode cX2_create 17 = .ok (.iload_n 1, 1) := dk_27 (dk_at dksX2_create_0 17 rfl rfl)
theorem dX2_create_18 : decode cX2_create 18 = .ok (.iload_n 2, 1) := dk_28 (dk_at dksX2_create_0 18 rfl rfl)
theorem dX2_create_19 : decode cX2_create 19 = .ok (.invokespecial 87, 3) := dk_183 0 87 (dk_at dksX2_create_0 19 rfl rfl)
theorem dX2_create_22 : decode cX2_create 22 = .ok (.areturn, 1) := dk_176 (dk_at dksX2_create_0 22 rfl rfl)
abbrev cX2_init : ByteArray := prog_8_method_4_code
def yX2_init : MethodName := ⟨RX2, "<init>", "(III)V"⟩
def dkwX2_init_0 : List UInt8 := [42, 183, 0, 90, 42, 27, 181, 0, 93, 42, 28, 181, 0, 97, 42, 29, 181, 0, 100, 177]
abbrev dktX2_init_0 : List UInt8 := dkwX2_init_0 ++ []
theorem dksX2_init_0 : cX2_init.data.toList.drop 0 = dktX2_init_0 := by decide +kernel
theorem dX2_init_0 : decode cX2_init 0 = .ok (.aload_n 0, 1) := dk_42 (dk_at dksX2_init_0 0 rfl rfl)
theorem dX2_init_1 : decode cX2_init 1 = .ok (.invokespecial 90, 3) := dk_183 0 90 (dk_at dksX2_init_0 1 rfl rfl)
theorem dX2_init_4 : decode cX2_init 4 = .ok (.aload_n 0, 1) := dk_42 (dk_at dksX2_init_0 4 rfl rfl)
theorem dX2_init_5 : decode cX2_init 5 = .ok (.iload_n 1, 1) := dk_27 (dk_at dksX2_init_0 5 rfl rfl)
theorem dX2_init_6 : decode cX2_init 6 = .ok (.putfield 93, 3) := dk_181 0 93 (dk_at dksX2_init_0 6 rfl rfl)
theorem dX2_init_9 : decode cX2_init 9 = .ok (.aload_n 0, 1) := dk_42 (dk_at dksX2_init_0 9 rfl rfl)
theorem dX2_init_10 : decode cX2_init 10 = .ok (.iload_n 2, 1) := dk_28 (dk_at dksX2_init_0 10 rfl rfl)
theorem dX2_init_11 : decode cX2_init 11 = .ok (.putfield 97, 3) := dk_181 0 97 (dk_at dksX2_init_0 11 rfl rfl)
theorem dX2_init_14 : decode cX2_init 14 = .ok (.aload_n 0, 1) := dk_42 (dk_at dksX2_init_0 14 rfl rfl)
theorem dX2_init_15 : decode cX2_init 15 = .ok (.iload_n 3, 1) := dk_29 (dk_at dksX2_init_0 15 rfl rfl)
theorem dX2_init_16 : decode cX2_init 16 = .ok (.putfield 100, 3) := dk_181 0 100 (dk_at dksX2_init_0 16 rfl rfl)
theorem dX2_init_19 : decode cX2_init 19 = .ok (.return_, 1) := dk_177 (dk_at dksX2_init_0 19 rfl rfl)
abbrev cX2_getYears : ByteArray := prog_8_method_10_code
def yX2_getYears : MethodName := ⟨RX2, "getYears", "()I"⟩
theorem dX2_getYears_0 : decode cX2_getYears 0 = .ok (.aload_n 0, 1) := by decide +kernel
theorem dX2_getYears_1 : decode cX2_getYears 1 = .ok (.getfield 93, 3) := by decide +kernel
theorem dX2_getYears_4 : decode cX2_getYears 4 = .ok (.ireturn, 1) := by decide +kernel
abbrev cX2_getMonths : ByteArray := prog_8_method_11_code
def yX2_getMonths : MethodName := ⟨RX2, "getMonths", "()I"⟩
theorem dX2_getMonths_0 : decode cX2_getMonths 0 = .ok (.aload_n 0, 1) := by decide +kernel
theorem dX2_getMonths_1 : decode cX2_getMonths 1 = .ok (.getfield 97, 3) := by decide +kernel
theorem dX2_getMonths_4 : decode cX2_getMonths 4 = .ok (.ireturn, 1) := by decide +kernel
abbrev cX2_getDays : ByteArray := prog_8_method_12_code
def yX2_getDays : MethodName := ⟨RX2, "getDays", "()I"⟩
theorem dX2_getDays_0 : decode cX2_getDays 0 = .ok (.aload_n 0, 1) := by decide +kernel
theorem dX2_getDays_1 : decode cX2_getDays 1 = .ok (.getfield 100, 3) := by decide +kernel
theorem dX2_getDays_4 : decode cX2_getDays 4 = .ok (.ireturn, 1) := by decide +kernel
abbrev cX2_plus : ByteArray := prog_8_method_13_code
def yX2_plus : MethodName := ⟨RX2, "plus", "(LTemporalAmount;)LPeriod;"⟩
def dkwX2_plus_1 : List UInt8 := [184, 0, 122, 42, 180, 0, 100, 44, 180, 0, 100, 184, 0, 122, 184, 0, 1, 176]
abbrev dktX2_plus_1 : List UInt8 := dkwX2_plus_1 ++ []
def dkwX2_plus_0 : List UInt8 := [43, 184, 0, 118, 77, 42, 180, 0, 93, 44, 180, 0, 93, 184, 0, 122, 42, 180, 0, 97, 44, 180, 0, 97]
abbrev dktX2_plus_0 : List UInt8 := dkwX2_plus_0 ++ dktX2_plus_1
theorem dksX2_plus_0 : cX2_plus.data.toList.drop 0 = dktX2_plus_0 := by decide +kernel
theorem dksX2_plus_1 : cX2_plus.data.toList.drop 24 = dktX2_plus_1 := dk_seg dksX2_plus_0 24 rfl rfl
theorem dX2_plus_0 : decode cX2_plus 0 = .ok (.aload_n 1, 1) := dk_43 (dk_at dksX2_plus_0 0 rfl rfl)
theorem dX2_plus_1 : decode cX2_plus 1 = .ok (.invokestatic 118, 3) := dk_184 0 118 (dk_at dksX2_plus_0 1 rfl rfl)
theorem dX2_plus_4 : decode cX2_plus 4 = .ok (.astore_n 2, 1) := dk_77 (dk_at dksX2_plus_0 4 rfl rfl)
theorem dX2_plus_5 : decode cX2_plus 5 = .ok (.aload_n 0, 1) := dk_42 (dk_at dksX2_plus_0 5 rfl rfl)
theorem dX2_plus_6 : decode cX2_plus 6 = .ok (.getfield 93, 3) := dk_180 0 93 (dk_at dksX2_plus_0 6 rfl rfl)
theorem dX2_plus_9 : decode cX2_plus 9 = .ok (.aload_n 2, 1) := dk_44 (dk_at dksX2_plus_0 9 rfl rfl)
theorem dX2_plus_10 : decode cX2_plus 10 = .ok (.getfield 93, 3) := dk_180 0 93 (dk_at dksX2_plus_0 10 rfl rfl)
theorem dX2_plus_13 : decode cX2_plus 13 = .ok (.invokestatic 122, 3) := dk_184 0 122 (dk_at dksX2_plus_0 13 rfl rfl)
theorem dX2_plus_16 : decode cX2_plus 16 = .ok (.aload_n 0, 1) := dk_42 (dk_at dksX2_plus_0 16 rfl rfl)
theorem dX2_plus_17 : decode cX2_plus 17 = .ok (.getfield 97, 3) := dk_180 0 97 (dk_at dksX2_plus_0 17 rfl rfl)
theorem dX2_plus_20 : decode cX2_plus 20 = .ok (.aload_n 2, 1) := dk_44 (dk_at dksX2_plus_0 20 rfl rfl)
theorem dX2_plus_21 : decode cX2_plus 21 = .ok (.getfield 97, 3) := dk_180 0 97 (dk_at dksX2_plus_0 21 rfl rfl)
theorem dX2_plus_24 : decode cX2_plus 24 = .ok (.invokestatic 122, 3) := dk_184 0 122 (dk_at dksX2_plus_1 0 rfl rfl)
theorem dX2_plus_27 : decode cX2_plus 27 = .ok (.aload_n 0, 1) := dk_42 (dk_at dksX2_plus_1 3 rfl rfl)
theorem dX2_plus_28 : decode cX2_plus 28 = .ok (.getfield 100, 3) := dk_180 0 100 (dk_at dksX2_plus_1 4 rfl rfl)
theorem dX2_plus_31 : decode cX2_plus 31 = .ok (.aload_n 2, 1) := dk_44 (dk_at dksX2_plus_1 7 rfl rfl)
theorem dX2_plus_32 : decode cX2_plus 32 = .ok (.getfield 100, 3) := dk_180 0 100 (dk_at dksX2_plus_1 8 rfl rfl)
theorem dX2_plus_35 : decode cX2_plus 35 = .ok (.invokestatic 122, 3) := dk_184 0 122 (dk_at dksX2_plus_1 11 rfl rfl)
theorem dX2_plus_38 : decode cX2_plus 38 = .ok (.invokestatic 1, 3) := dk_184 0 1 (dk_at dksX2_plus_1 14 rfl rfl)
theorem dX2_plus_41 : decode cX2_plus 41 = .ok (.areturn, 1) := dk_176 (dk_at dksX2_plus_1 17 rfl rfl)
abbrev cX2_from : ByteArray := prog_8_method_2_code
def yX2_from : MethodName := ⟨RX2, "from", "(LTemporalAmount;)LPeriod;"⟩
def dkwX2_from_7 : List UInt8 := [191, 167, 255, 163, 27, 28, 29, 184, 0, 1, 176]
abbrev dktX2_from_7 : List UInt8 := dkwX2_from_7 ++ []
def dkwX2_from_6 : List UInt8 := [178, 0, 80, 166, 0, 12, 22, 6, 184, 0, 73, 62, 167, 0, 13, 187, 0, 23, 89, 18, 25, 183, 0, 27]
abbrev dktX2_from_6 : List UInt8 := dkwX2_from_6 ++ dktX2_from_7
def dkwX2_from_5 : List UInt8 := [167, 0, 47, 25, 5, 178, 0, 77, 166, 0, 12, 22, 6, 184, 0, 73, 61, 167, 0, 30, 25, 5]
abbrev dktX2_from_5 : List UInt8 := dkwX2_from_5 ++ dktX2_from_6
def dkwX2_from_4 : List UInt8 := [42, 25, 5, 185, 0, 63, 2, 0, 55, 6, 25, 5, 178, 0, 67, 166, 0, 12, 22, 6, 184, 0, 73, 60]
abbrev dktX2_from_4 : List UInt8 := dkwX2_from_4 ++ dktX2_from_5
def dkwX2_from_3 : List UInt8 := [58, 4, 25, 4, 185, 0, 51, 1, 0, 153, 0, 89, 25, 4, 185, 0, 57, 1, 0, 192, 0, 61, 58, 5]
abbrev dktX2_from_3 : List UInt8 := dkwX2_from_3 ++ dktX2_from_4
def dkwX2_from_2 : List UInt8 := [18, 31, 184, 0, 33, 87, 3, 60, 3, 61, 3, 62, 42, 185, 0, 39, 1, 0, 185, 0, 45, 1, 0]
abbrev dktX2_from_2 : List UInt8 := dkwX2_from_2 ++ dktX2_from_3
def dkwX2_from_1 : List UInt8 := [192, 0, 7, 182, 0, 15, 182, 0, 19, 154, 0, 13, 187, 0, 23, 89, 18, 25, 183, 0, 27, 191, 42]
abbrev dktX2_from_1 : List UInt8 := dkwX2_from_1 ++ dktX2_from_2
def dkwX2_from_0 : List UInt8 := [42, 193, 0, 2, 153, 0, 8, 42, 192, 0, 2, 176, 42, 193, 0, 7, 153, 0, 29, 178, 0, 9, 42]
abbrev dktX2_from_0 : List UInt8 := dkwX2_from_0 ++ dktX2_from_1
theorem dksX2_from_0 : cX2_from.data.toList.drop 0 = dktX2_from_0 := by decide +kernel
theorem dksX2_from_1 : cX2_from.data.toList.drop 23 = dktX2_from_1 := dk_seg dksX2_from_0 23 rfl rfl
theorem dksX2_from_2 : cX2_from.data.toList.drop 46 = dktX2_from_2 := dk_seg dksX2_from_1 23 rfl rfl
theorem dksX2_from_3 : cX2_from.data.toList.drop 69 = dktX2_from_3 := dk_seg dksX2_from_2 23 rfl rfl
theorem dksX2_from_4 : cX2_from.data.toList.drop 93 = dktX2_from_4 := dk_seg dksX2_from_3 24 rfl rfl
theorem dksX2_from_5 : cX2_from.data.toList.drop 117 = dktX2_from_5 := dk_seg dksX2_from_4 24 rfl rfl
theorem dksX2_from_6 : cX2_from.data.toList.drop 139 = dktX2_from_6 := dk_seg dksX2_from_5 22 rfl rfl
theorem dksX2_from_7 : cX2_from.data.toList.drop 163 = dktX2_from_7 := dk_seg dksX2_from_6 24 rfl rfl
theorem dX2_from_0 : decode cX2_from 0 = .ok (.aload_n 0, 1) := dk_42 (dk_at dksX2_from_0 0 rfl rfl)
theorem dX2_from_1 : decode cX2_from 1 = .ok (.instanceof 2, 3) := dk_193 0 2 (dk_at dksX2_from_0 1 rfl rfl)
theorem dX2_from_4 : decode cX2_from 4 = .ok (.ifCond .eq 8, 3) := dk_153 0 8 (dk_at dksX2_from_0 4 rfl rfl)
theorem dX2_from_7 : decode cX2_from 7 = .ok (.aload_n 0, 1) := dk_42 (dk_at dksX2_from_0 7 rfl rfl)
theorem dX2_from_8 : decode cX2_from 8 = .ok (.checkcast 2, 3) := dk_192 0 2 (dk_at dksX2_from_0 8 rfl rfl)
theorem dX2_from_11 : decode cX2_from 11 = .ok (.areturn, 1) := dk_176 (dk_at dksX2_from_0 11 rfl rfl)
theorem dX2_from_12 : decode cX2_from 12 = .ok (.aload_n 0, 1) := dk_42 (dk_at dksX2_from_0 12 rfl rfl)
theorem dX2_from_13 : decode cX2_from 13 = .ok (.instanceof 7, 3) := dk_193 0 7 (dk_at dksX2_from_0 13 rfl rfl)
theorem dX2_from_16 : decode cX2_from 16 = .ok (.ifCond .eq 29, 3) := dk_153 0 29 (dk_at dksX2_from_0 16 rfl rfl)
theorem dX2_from_19 : decode cX2_from 19 = .ok (.getstatic 9, 3) := dk_178 0 9 (dk_at dksX2_from_0 19 rfl rfl)
theorem dX2_from_22 : decode cX2_from 22 = .ok (.aload_n 0, 1) := dk_42 (dk_at dksX2_from_0 22 rfl rfl)
theorem dX2_from_23 : decode cX2_from 23 = .ok (.checkcast 7, 3) := dk_192 0 7 (dk_at dksX2_from_1 0 rfl rfl)
theorem dX2_from_26 : decode cX2_from 26 = .ok (.invokevirtual 15, 3) := dk_182 0 15 (dk_at dksX2_from_1 3 rfl rfl)
theorem dX2_from_29 : decode cX2_from 29 = .ok (.invokevirtual 19, 3) := dk_182 0 19 (dk_at dksX2_from_1 6 rfl rfl)
theorem dX2_from_32 : decode cX2_from 32 = .ok (.ifCond .ne 13, 3) := dk_154 0 13 (dk_at dksX2_from_1 9 rfl rfl)
theorem dX2_from_35 : decode cX2_from 35 = .ok (.new 23, 3) := dk_187 0 23 (dk_at dksX2_from_1 12 rfl rfl)
theorem dX2_from_38 : decode cX2_from 38 = .ok (.dup, 1) := dk_89 (dk_at dksX2_from_1 15 rfl rfl)
theorem dX2_from_39 : decode cX2_from 39 = .ok (.ldc 25, 2) := dk_18 25 (dk_at dksX2_from_1 16 rfl rfl)
theorem dX2_from_41 : decode cX2_from 41 = .ok (.invokespecial 27, 3) := dk_183 0 27 (dk_at dksX2_from_1 18 rfl rfl)
theorem dX2_from_44 : decode cX2_from 44 = .ok (.athrow, 1) := dk_191 (dk_at dksX2_from_1 21 rfl rfl)
theorem dX2_from_45 : decode cX2_from 45 = .ok (.aload_n 0, 1) := dk_42 (dk_at dksX2_from_1 22 rfl rfl)
theorem dX2_from_46 : decode cX2_from 46 = .ok (.ldc 31, 2) := dk_18 31 (dk_at dksX2_from_2 0 rfl rfl)
theorem dX2_from_48 : decode cX2_from 48 = .ok (.invokestatic 33, 3) := dk_184 0 33 (dk_at dksX2_from_2 2 rfl rfl)
theorem dX2_from_51 : decode cX2_from 51 = .ok (.pop, 1) := dk_87 (dk_at dksX2_from_2 5 rfl rfl)
theorem dX2_from_52 : decode cX2_from 52 = .ok (.iconst 0, 1) := dk_3 (dk_at dksX2_from_2 6 rfl rfl)
theorem dX2_from_53 : decode cX2_from 53 = .ok (.istore_n 1, 1) := dk_60 (dk_at dksX2_from_2 7 rfl rfl)
theorem dX2_from_54 : decode cX2_from 54 = .ok (.iconst 0, 1) := dk_3 (dk_at dksX2_from_2 8 rfl rfl)
theorem dX2_from_55 : decode cX2_from 55 = .ok (.istore_n 2, 1) := dk_61 (dk_at dksX2_from_2 9 rfl rfl)
theorem dX2_from_56 : decode cX2_from 56 = .ok (.iconst 0, 1) := dk_3 (dk_at dksX2_from_2 10 rfl rfl)
theorem dX2_from_57 : decode cX2_from 57 = .ok (.istore_n 3, 1) := dk_62 (dk_at dksX2_from_2 11 rfl rfl)
theorem dX2_from_58 : decode cX2_from 58 = .ok (.aload_n 0, 1) := dk_42 (dk_at dksX2_from_2 12 rfl rfl)
theorem dX2_from_59 : decode cX2_from 59 = .ok (.invokeinterface 39 1, 5) := by decide +kernel
theorem dX2_from_64 : decode cX2_from 64 = .ok (.invokeinterface 45 1, 5) := by decide +kernel
theorem dX2_from_69 : decode cX2_from 69 = .ok (.astore 4, 2) := dk_58 4 (dk_at dksX2_from_3 0 rfl rfl)
theorem dX2_from_71 : decode cX2_from 71 = .ok (.aload 4, 2) := dk_25 4 (dk_at dksX2_from_3 2 rfl rfl)
theorem dX2_from_73 : decode cX2_from 73 = .ok (.invokeinterface 51 1, 5) := by decide +kernel
theorem dX2_from_78 : decode cX2_from 78 = .ok (.ifCond .eq 89, 3) := dk_153 0 89 (dk_at dksX2_from_3 9 rfl rfl)
theorem dX2_from_81 : decode cX2_from 81 = .ok (.aload 4, 2) := dk_25 4 (dk_at dksX2_from_3 12 rfl rfl)
theorem dX2_from_83 : decode cX2_from 83 = .ok (.invokeinterface 57 1, 5) := by decide +kernel
theorem dX2_from_88 : decode cX2_from 88 = .ok (.checkcast 61, 3) := dk_192 0 61 (dk_at dksX2_from_3 19 rfl rfl)
theorem dX2_from_91 : decode cX2_from 91 = .ok (.astore 5, 2) := dk_58 5 (dk_at dksX2_from_3 22 rfl rfl)
theorem dX2_from_93 : decode cX2_from 93 = .ok (.aload_n 0, 1) := dk_42 (dk_at dksX2_from_4 0 rfl rfl)
theorem dX2_from_94 : decode cX2_from 94 = .ok (.aload 5, 2) := dk_25 5 (dk_at dksX2_from_4 1 rfl rfl)
theorem dX2_from_96 : decode cX2_from 96 = .ok (.invokeinterface 63 2, 5) := by decide +kernel
theorem dX2_from_101 : decode cX2_from 101 = .ok (.lstore 6, 2) := dk_55 6 (dk_at dksX2_from_4 8 rfl rfl)
theorem dX2_from_103 : decode cX2_from 103 = .ok (.aload 5, 2) := dk_25 5 (dk_at dksX2_from_4 10 rfl rfl)
theorem dX2_from_105 : decode cX2_from 105 = .ok (.getstatic 67, 3) := dk_178 0 67 (dk_at dksX2_from_4 12 rfl rfl)
theorem dX2_from_108 : decode cX2_from 108 = .ok (.if_acmp .ne 12, 3) := dk_166 0 12 (dk_at dksX2_from_4 15 rfl rfl)
theorem dX2_from_111 : decode cX2_from 111 = .ok (.lload 6, 2) := dk_22 6 (dk_at dksX2_from_4 18 rfl rfl)
theorem dX2_from_113 : decode cX2_from 113 = .ok (.invokestatic 73, 3) := dk_184 0 73 (dk_at dksX2_from_4 20 rfl rfl)
theorem dX2_from_116 : decode cX2_from 116 = .ok (.istore_n 1, 1) := dk_60 (dk_at dksX2_from_4 23 rfl rfl)
theorem dX2_from_117 : decode cX2_from 117 = .ok (.goto 47, 3) := dk_167 0 47 (dk_at dksX2_from_5 0 rfl rfl)
theorem dX2_from_120 : decode cX2_from 120 = .ok (.aload 5, 2) := dk_25 5 (dk_at dksX2_from_5 3 rfl rfl)
theorem dX2_from_122 : decode cX2_from 122 = .ok (.getstatic 77, 3) := dk_178 0 77 (dk_at dksX2_from_5 5 rfl rfl)
theorem dX2_from_125 : decode cX2_from 125 = .ok (.if_acmp .ne 12, 3) := dk_166 0 12 (dk_at dksX2_from_5 8 rfl rfl)
theorem dX2_from_128 : decode cX2_from 128 = .ok (.lload 6, 2) := dk_22 6 (dk_at dksX2_from_5 11 rfl rfl)
theorem dX2_from_130 : decode cX2_from 130 = .ok (.invokestatic 73, 3) := dk_184 0 73 (dk_at dksX2_from_5 13 rfl rfl)
theorem dX2_from_133 : decode cX2_from 133 = .ok (.istore_n 2, 1) := dk_61 (dk_at dksX2_from_5 16 rfl rfl)
theorem dX2_from_134 : decode cX2_from 134 = .ok (.goto 30, 3) := dk_167 0 30 (dk_at dksX2_from_5 17 rfl rfl)
theorem dX2_from_137 : decode cX2_from 137 = .ok (.aload 5, 2) := dk_25 5 (dk_at dksX2_from_5 20 rfl rfl)
theorem dX2_from_139 : decode cX2_from 139 = .ok (.getstatic 80, 3) := dk_178 0 80 (dk_at dksX2_from_6 0 rfl rfl)
theorem dX2_from_142 : decode cX2_from 142 = .ok (.if_acmp .ne 12, 3) := dk_166 0 12 (dk_at dksX2_from_6 3 rfl rfl)
theorem dX2_from_145 : decode cX2_from 145 = .ok (.lload 6, 2) := dk_22 6 (dk_at dksX2_from_6 6 rfl rfl)
theorem dX2_from_147 : decode cX2_from 147 = .ok (.invokestatic 73, 3) := dk_184 0 73 (dk_at dksX2_from_6 8 rfl rfl)
theorem dX2_from_150 : decode cX2_from 150 = .ok (.istore_n 3, 1) := dk_62 (dk_at dksX2_from_6 11 rfl rfl)
theorem dX2_from_151 : decode cX2_from 151 = .ok (.goto 13, 3) := dk_167 0 13 (dk_at dksX2_from_6 12 rfl rfl)
theorem dX2_from_154 : decode cX2_from 154 = .ok (.new 23, 3) := dk_187 0 23 (dk_at dksX2_from_6 15 rfl rfl)
theorem dX2_from_157 : decode cX2_from 157 = .ok (.dup, 1) := dk_89 (dk_at dksX2_from_6 18 rfl rfl)
theorem dX2_from_158 : decode cX2_from 158 = .ok (.ldc 25, 2) := dk_18 25 (dk_at dksX2_from_6 19 rfl rfl)
theorem dX2_from_160 : decode cX2_from 160 = .ok (.invokespecial 27, 3) := dk_183 0 27 (dk_at dksX2_from_6 21 rfl rfl)
theorem dX2_from_163 : decode cX2_from 163 = .ok (.athrow, 1) := dk_191 (dk_at dksX2_from_7 0 rfl rfl)
theorem dX2_from_164 : decode cX2_from 164 = .ok (.goto (-93), 3) := dk_167 255 163 (dk_at dksX2_from_7 1 rfl rfl)
theorem dX2_from_167 : decode cX2_from 167 = .ok (.iload_n 1, 1) := dk_27 (dk_at dksX2_from_7 4 rfl rfl)
theorem dX2_from_168 : decode cX2_from 168 = .ok (.iload_n 2, 1) := dk_28 (dk_at dksX2_from_7 5 rfl rfl)
theorem dX2_from_169 : decode cX2_from 169 = .ok (.iload_n 3, 1) := dk_29 (dk_at dksX2_from_7 6 rfl rfl)
theorem dX2_from_170 : decode cX2_from 170 = .ok (.invokestatic 1, 3) := dk_184 0 1 (dk_at dksX2_from_7 7 rfl rfl)
theorem dX2_from_173 : decode cX2_from 173 = .ok (.areturn, 1) := dk_176 (dk_at dksX2_from_7 10 rfl rfl)
abbrev cX2_getChronology : ByteArray := prog_8_method_6_code
def yX2_getChronology : MethodName := ⟨RX2, "getChronology", "()LChronology;"⟩
theorem dX2_getChronology_0 : decode cX2_getChronology 0 = .ok (.getstatic 9, 3) := by decide +kernel
theorem dX2_getChronology_3 : decode cX2_getChronology 3 = .ok (.areturn, 1) := by decide +kernel
abbrev cX2_getUnits : ByteArray := prog_8_method_5_code
def yX2_getUnits : MethodName := ⟨RX2, "getUnits", "()Ljava/util/List;"⟩
def dkwX2_getUnits_1 : List UInt8 := [184, 0, 103, 184, 0, 109, 176]
abbrev dktX2_getUnits_1 : List UInt8 := dkwX2_getUnits_1 ++ []
def dkwX2_getUnits_0 : List UInt8 := [6, 189, 0, 68, 89, 3, 178, 0, 67, 83, 89, 4, 178, 0, 77, 83, 89, 5, 178, 0, 80, 83]
abbrev dktX2_getUnits_0 : List UInt8 := dkwX2_getUnits_0 ++ dktX2_getUnits_1
theorem dksX2_getUnits_0 : cX2_getUnits.data.toList.drop 0 = dktX2_getUnits_0 := by decide +kernel
theorem dksX2_getUnits_1 : cX2_getUnits.data.toList.drop 22 = dktX2_getUnits_1 := dk_seg dksX2_getUnits_0 22 rfl rfl
theorem dX2_getUnits_0 : decode cX2_getUnits 0 = .ok (.iconst 3, 1) := dk_6 (dk_at dksX2_getUnits_0 0 rfl rfl)
theorem dX2_getUnits_1 : decode cX2_getUnits 1 = .ok (.anewarray 68, 3) := dk_189 0 68 (dk_at dksX2_getUnits_0 1 rfl rfl)
theorem dX2_getUnits_4 : decode cX2_getUnits 4 = .ok (.dup, 1) := dk_89 (dk_at dksX2_getUnits_0 4 rfl rfl)
theorem dX2_getUnits_5 : decode cX2_getUnits 5 = .ok (.iconst 0, 1) := dk_3 (dk_at dksX2_getUnits_0 5 rfl rfl)
theorem dX2_getUnits_6 : decode cX2_getUnits 6 = .ok (.getstatic 67, 3) := dk_178 0 67 (dk_at dksX2_getUnits_0 6 rfl rfl)
theorem dX2_getUnits_9 : decode cX2_getUnits 9 = .ok (.aastore, 1) := dk_83 (dk_at dksX2_getUnits_0 9 rfl rfl)
theorem dX2_getUnits_10 : decode cX2_getUnits 10 = .ok (.dup, 1) := dk_89 (dk_at dksX2_getUnits_0 10 rfl rfl)
theorem dX2_getUnits_11 : decode cX2_getUnits 11 = .ok (.iconst 1, 1) := dk_4 (dk_at dksX2_getUnits_0 11 rfl rfl)
theorem dX2_getUnits_12 : decode cX2_getUnits 12 = .ok (.getstatic 77, 3) := dk_178 0 77 (dk_at dksX2_getUnits_0 12 rfl rfl)
theorem dX2_getUnits_15 : decode cX2_getUnits 15 = .ok (.aastore, 1) := dk_83 (dk_at dksX2_getUnits_0 15 rfl rfl)
theorem dX2_getUnits_16 : decode cX2_getUnits 16 = .ok (.dup, 1) := dk_89 (dk_at dksX2_getUnits_0 16 rfl rfl)
theorem dX2_getUnits_17 : decode cX2_getUnits 17 = .ok (.iconst 2, 1) := dk_5 (dk_at dksX2_getUnits_0 17 rfl rfl)
theorem dX2_getUnits_18 : decode cX2_getUnits 18 = .ok (.getstatic 80, 3) := dk_178 0 80 (dk_at dksX2_getUnits_0 18 rfl rfl)
theorem dX2_getUnits_21 : decode cX2_getUnits 21 = .ok (.aastore, 1) := dk_83 (dk_at dksX2_getUnits_0 21 rfl rfl)
theorem dX2_getUnits_22 : decode cX2_getUnits 22 = .ok (.invokestatic 103, 3) := dk_184 0 103 (dk_at dksX2_getUnits_1 0 rfl rfl)
theorem dX2_getUnits_25 : decode cX2_getUnits 25 = .ok (.invokestatic 109, 3) := dk_184 0 109 (dk_at dksX2_getUnits_1 3 rfl rfl)
theorem dX2_getUnits_28 : decode cX2_getUnits 28 = .ok (.areturn, 1) := dk_176 (dk_at dksX2_getUnits_1 6 rfl rfl)
abbrev cX2_get : ByteArray := prog_8_method_7_code
def yX2_get : MethodName := ⟨RX2, "get", "(LTemporalUnit;)J"⟩
def dkwX2_get_2 : List UInt8 := [191]
abbrev dktX2_get_2 : List UInt8 := dkwX2_get_2 ++ []
def dkwX2_get_1 : List UInt8 := [133, 173, 43, 178, 0, 80, 166, 0, 9, 42, 180, 0, 100, 133, 173, 187, 0, 115, 89, 18, 25, 183, 0, 117]
abbrev dktX2_get_1 : List UInt8 := dkwX2_get_1 ++ dktX2_get_2
def dkwX2_get_0 : List UInt8 := [43, 178, 0, 67, 166, 0, 9, 42, 180, 0, 93, 133, 173, 43, 178, 0, 77, 166, 0, 9, 42, 180, 0, 97]
abbrev dktX2_get_0 : List UInt8 := dkwX2_get_0 ++ dktX2_get_1
theorem dksX2_get_0 : cX2_get.data.toList.drop 0 = dktX2_get_0 := by decide +kernel
theorem dksX2_get_1 : cX2_get.data.toList.drop 24 = dktX2_get_1 := dk_seg dksX2_get_0 24 rfl rfl
theorem dksX2_get_2 : cX2_get.data.toList.drop 48 = dktX2_get_2 := dk_seg dksX2_get_1 24 rfl rfl
theorem dX2_get_0 : decode cX2_get 0 = .ok (.aload_n 1, 1) := dk_43 (dk_at dksX2_get_0 0 rfl rfl)
theorem dX2_get_1 : decode cX2_get 1 = .ok (.getstatic 67, 3) := dk_178 0 67 (dk_at dksX2_get_0 1 rfl rfl)
theorem dX2_get_4 : decode cX2_get 4 = .ok (.if_acmp .ne 9, 3) := dk_166 0 9 (dk_at dksX2_get_0 4 rfl rfl)
theorem dX2_get_7 : decode cX2_get 7 = .ok (.aload_n 0, 1) := dk_42 (dk_at dksX2_get_0 7 rfl rfl)
theorem dX2_get_8 : decode cX2_get 8 = .ok (.getfield 93, 3) := dk_180 0 93 (dk_at dksX2_get_0 8 rfl rfl)
theorem dX2_get_11 : decode cX2_get 11 = .ok (.i2l, 1) := dk_133 (dk_at dksX2_get_0 11 rfl rfl)
theorem dX2_get_12 : decode cX2_get 12 = .ok (.lreturn, 1) := dk_173 (dk_at dksX2_get_0 12 rfl rfl)
theorem dX2_get_13 : decode cX2_get 13 = .ok (.aload_n 1, 1) := dk_43 (dk_at dksX2_get_0 13 rfl rfl)
theorem dX2_get_14 : decode cX2_get 14 = .ok (.getstatic 77, 3) := dk_178 0 77 (dk_at dksX2_get_0 14 rfl rfl)
theorem dX2_get_17 : decode cX2_get 17 = .ok (.if_acmp .ne 9, 3) := dk_166 0 9 (dk_at dksX2_get_0 17 rfl rfl)
theorem dX2_get_20 : decode cX2_get 20 = .ok (.aload_n 0, 1) := dk_42 (dk_at dksX2_get_0 20 rfl rfl)
theorem dX2_get_21 : decode cX2_get 21 = .ok (.getfield 97, 3) := dk_180 0 97 (dk_at dksX2_get_0 21 rfl rfl)
theorem dX2_get_24 : decode cX2_get 24 = .ok (.i2l, 1) := dk_133 (dk_at dksX2_get_1 0 rfl rfl)
theorem dX2_get_25 : decode cX2_get 25 = .ok (.lreturn, 1) := dk_173 (dk_at dksX2_get_1 1 rfl rfl)
theorem dX2_get_26 : decode cX2_get 26 = .ok (.aload_n 1, 1) := dk_43 (dk_at dksX2_get_1 2 rfl rfl)
theorem dX2_get_27 : decode cX2_get 27 = .ok (.getstatic 80, 3) := dk_178 0 80 (dk_at dksX2_get_1 3 rfl rfl)
theorem dX2_get_30 : decode cX2_get 30 = .ok (.if_acmp .ne 9, 3) := dk_166 0 9 (dk_at dksX2_get_1 6 rfl rfl)
theorem dX2_get_33 : decode cX2_get 33 = .ok (.aload_n 0, 1) := dk_42 (dk_at dksX2_get_1 9 rfl rfl)
theorem dX2_get_34 : decode cX2_get 34 = .ok (.getfield 100, 3) := dk_180 0 100 (dk_at dksX2_get_1 10 rfl rfl)
theorem dX2_get_37 : decode cX2_get 37 = .ok (.i2l, 1) := dk_133 (dk_at dksX2_get_1 13 rfl rfl)
theorem dX2_get_38 : decode cX2_get 38 = .ok (.lreturn, 1) := dk_173 (dk_at dksX2_get_1 14 rfl rfl)
theorem dX2_get_39 : decode cX2_get 39 = .ok (.new 115, 3) := dk_187 0 115 (dk_at dksX2_get_1 15 rfl rfl)
theorem dX2_get_42 : decode cX2_get 42 = .ok (.dup, 1) := dk_89 (dk_at dksX2_get_1 18 rfl rfl)
theorem dX2_get_43 : decode cX2_get 43 = .ok (.ldc 25, 2) := dk_18 25 (dk_at dksX2_get_1 19 rfl rfl)
theorem dX2_get_45 : decode cX2_get 45 = .ok (.invokespecial 117, 3) := dk_183 0 117 (dk_at dksX2_get_1 21 rfl rfl)
theorem dX2_get_48 : decode cX2_get 48 = .ok (.athrow, 1) := dk_191 (dk_at dksX2_get_2 0 rfl rfl)
abbrev cX2_minus : ByteArray := prog_8_method_16_code
def yX2_minus : MethodName := ⟨RX2, "minus", "(LTemporalAmount;)LPeriod;"⟩
def dkwX2_minus_1 : List UInt8 := [184, 0, 129, 42, 180, 0, 100, 44, 180, 0, 100, 184, 0, 129, 184, 0, 1, 176]
abbrev dktX2_minus_1 : List UInt8 := dkwX2_minus_1 ++ []
def dkwX2_minus_0 : List UInt8 := [43, 184, 0, 118, 77, 42, 180, 0, 93, 44, 180, 0, 93, 184, 0, 129, 42, 180, 0, 97, 44, 180, 0, 97]
abbrev dktX2_minus_0 : List UInt8 := dkwX2_minus_0 ++ dktX2_minus_1
theorem dksX2_minus_0 : cX2_minus.data.toList.drop 0 = dktX2_minus_0 := by decide +kernel
theorem dksX2_minus_1 : cX2_minus.data.toList.drop 24 = dktX2_minus_1 := dk_seg dksX2_minus_0 24 rfl rfl
theorem dX2_minus_0 : decode cX2_minus 0 = .ok (.aload_n 1, 1) := dk_43 (dk_at dksX2_minus_0 0 rfl rfl)
theorem dX2_minus_1 : decode cX2_minus 1 = .ok (.invokestatic 118, 3) := dk_184 0 118 (dk_at dksX2_minus_0 1 rfl rfl)
theorem dX2_minus_4 : decode cX2_minus 4 = .ok (.astore_n 2, 1) := dk_77 (dk_at dksX2_minus_0 4 rfl rfl)
theorem dX2_minus_5 : decode cX2_minus 5 = .ok (.aload_n 0, 1) := dk_42 (dk_at dksX2_minus_0 5 rfl rfl)
theorem dX2_minus_6 : decode cX2_minus 6 = .ok (.getfield 93, 3) := dk_180 0 93 (dk_at dksX2_minus_0 6 rfl rfl)
theorem dX2_minus_9 : decode cX2_minus 9 = .ok (.aload_n 2, 1) := dk_44 (dk_at dksX2_minus_0 9 rfl rfl)
theorem dX2_minus_10 : decode cX2_minus 10 = .ok (.getfield 93, 3) := dk_180 0 93 (dk_at dksX2_minus_0 10 rfl rfl)
theorem dX2_minus_13 : decode cX2_minus 13 = .ok (.invokestatic 129, 3) := dk_184 0 129 (dk_at dksX2_minus_0 13 rfl rfl)
theorem dX2_minus_16 : decode cX2_minus 16 = .ok (.aload_n 0, 1) := dk_42 (dk_at dksX2_minus_0 16 rfl rfl)
theorem dX2_minus_17 : decode cX2_minus 17 = .ok (.getfield 97, 3) := dk_180 0 97 (dk_at dksX2_minus_0 17 rfl rfl)
theorem dX2_minus_20 : decode cX2_minus 20 = .ok (.aload_n 2, 1) := dk_44 (dk_at dksX2_minus_0 20 rfl rfl)
theorem dX2_minus_21 : decode cX2_minus 21 = .ok (.getfield 97, 3) := dk_180 0 97 (dk_at dksX2_minus_0 21 rfl rfl)
theorem dX2_minus_24 : decode cX2_minus 24 = .ok (.invokestatic 129, 3) := dk_184 0 129 (dk_at dksX2_minus_1 0 rfl rfl)
theorem dX2_minus_27 : decode cX2_minus 27 = .ok (.aload_n 0, 1) := dk_42 (dk_at dksX2_minus_1 3 rfl rfl)
theorem dX2_minus_28 : decode cX2_minus 28 = .ok (.getfield 100, 3) := dk_180 0 100 (dk_at dksX2_minus_1 4 rfl rfl)
theorem dX2_minus_31 : decode cX2_minus 31 = .ok (.aload_n 2, 1) := dk_44 (dk_at dksX2_minus_1 7 rfl rfl)
theorem dX2_minus_32 : decode cX2_minus 32 = .ok (.getfield 100, 3) := dk_180 0 100 (dk_at dksX2_minus_1 8 rfl rfl)
theorem dX2_minus_35 : decode cX2_minus 35 = .ok (.invokestatic 129, 3) := dk_184 0 129 (dk_at dksX2_minus_1 11 rfl rfl)
theorem dX2_minus_38 : decode cX2_minus 38 = .ok (.invokestatic 1, 3) := dk_184 0 1 (dk_at dksX2_minus_1 14 rfl rfl)
theorem dX2_minus_41 : decode cX2_minus 41 = .ok (.areturn, 1) := dk_176 (dk_at dksX2_minus_1 17 rfl rfl)
abbrev cX2_multipliedBy : ByteArray := prog_8_method_17_code
def yX2_multipliedBy : MethodName := ⟨RX2, "multipliedBy", "(I)LPeriod;"⟩
def dkwX2_multipliedBy_1 : List UInt8 := [180, 0, 97, 27, 184, 0, 132, 42, 180, 0, 100, 27, 184, 0, 132, 184, 0, 1, 176]
abbrev dktX2_multipliedBy_1 : List UInt8 := dkwX2_multipliedBy_1 ++ []
def dkwX2_multipliedBy_0 : List UInt8 := [42, 178, 0, 83, 165, 0, 8, 27, 4, 160, 0, 5, 42, 176, 42, 180, 0, 93, 27, 184, 0, 132, 42]
abbrev dktX2_multipliedBy_0 : List UInt8 := dkwX2_multipliedBy_0 ++ dktX2_multipliedBy_1
theorem dksX2_multipliedBy_0 : cX2_multipliedBy.data.toList.drop 0 = dktX2_multipliedBy_0 := by decide +kernel
theorem dksX2_multipliedBy_1 : cX2_multipliedBy.data.toList.drop 23 = dktX2_multipliedBy_1 := dk_seg dksX2_multipliedBy_0 23 rfl rfl
theorem dX2_multipliedBy_0 : decode cX2_multipliedBy 0 = .ok (.aload_n 0, 1) := dk_42 (dk_at dksX2_multipliedBy_0 0 rfl rfl)
theorem dX2_multipliedBy_1 : decode cX2_multipliedBy 1 = .ok (.getstatic 83, 3) := dk_178 0 83 (dk_at dksX2_multipliedBy_0 1 rfl rfl)
theorem dX2_multipliedBy_4 : decode cX2_multipliedBy 4 = .ok (.if_acmp .eq 8, 3) := dk_165 0 8 (dk_at dksX2_multipliedBy_0 4 rfl rfl)
theorem dX2_multipliedBy_7 : decode cX2_multipliedBy 7 = .ok (.iload_n 1, 1) := dk_27 (dk_at dksX2_multipliedBy_0 7 rfl rfl)
theorem dX2_multipliedBy_8 : decode cX2_multipliedBy 8 = .ok (.iconst 1, 1) := dk_4 (dk_at dksX2_multipliedBy_0 8 rfl rfl)
theorem dX2_multipliedBy_9 : decode cX2_multipliedBy 9 = .ok (.if_icmp .ne 5, 3) := dk_160 0 5 (dk_at dksX2_multipliedBy_0 9 rfl rfl)
theorem dX2_multipliedBy_12 : decode cX2_multipliedBy 12 = .ok (.aload_n 0, 1) := dk_42 (dk_at dksX2_multipliedBy_0 12 rfl rfl)
theorem dX2_multipliedBy_13 : decode cX2_multipliedBy 13 = .ok (.areturn, 1) := dk_176 (dk_at dksX2_multipliedBy_0 13 rfl rfl)
theorem dX2_multipliedBy_14 : decode cX2_multipliedBy 14 = .ok (.aload_n 0, 1) := dk_42 (dk_at dksX2_multipliedBy_0 14 rfl rfl)
theorem dX2_multipliedBy_15 : decode cX2_multipliedBy 15 = .ok (.getfield 93, 3) := dk_180 0 93 (dk_at dksX2_multipliedBy_0 15 rfl rfl)
theorem dX2_multipliedBy_18 : decode cX2_multipliedBy 18 = .ok (.iload_n 1, 1) := dk_27 (dk_at dksX2_multipliedBy_0 18 rfl rfl)
theorem dX2_multipliedBy_19 : decode cX2_multipliedBy 19 = .ok (.invokestatic 132, 3) := dk_184 0 132 (dk_at dksX2_multipliedBy_0 19 rfl rfl)
theorem dX2_multipliedBy_22 : decode cX2_multipliedBy 22 = .ok (.aload_n 0, 1) := dk_42 (dk_at dksX2_multipliedBy_0 22 rfl rfl)
theorem dX2_multipliedBy_23 : decode cX2_multipliedBy 23 = .ok (.getfield 97, 3) := dk_180 0 97 (dk_at dksX2_multipliedBy_1 0 rfl rfl)
theorem dX2_multipliedBy_26 : decode cX2_multipliedBy 26 = .ok (.iload_n 1, 1) := dk_27 (dk_at dksX2_multipliedBy_1 3 rfl rfl)
theorem dX2_multipliedBy_27 : decode cX2_multipliedBy 27 = .ok (.invokestatic 132, 3) := dk_184 0 132 (dk_at dksX2_multipliedBy_1 4 rfl rfl)
theorem dX2_multipliedBy_30 : decode cX2_multipliedBy 30 = .ok (.aload_n 0, 1) := dk_42 (dk_at dksX2_multipliedBy_1 7 rfl rfl)
theorem dX2_multipliedBy_31 : decode cX2_multipliedBy 31 = .ok (.getfield 100, 3) := dk_180 0 100 (dk_at dksX2_multipliedBy_1 8 rfl rfl)
theorem dX2_multipliedBy_34 : decode cX2_multipliedBy 34 = .ok (.iload_n 1, 1) := dk_27 (dk_at dksX2_multipliedBy_1 11 rfl rfl)
theorem dX2_multipliedBy_35 : decode cX2_multipliedBy 35 = .ok (.invokestatic 132, 3) := dk_184 0 132 (dk_at dksX2_multipliedBy_1 12 rfl rfl)
theorem dX2_multipliedBy_38 : decode cX2_multipliedBy 38 = .ok (.invokestatic 1, 3) := dk_184 0 1 (dk_at dksX2_multipliedBy_1 15 rfl rfl)
theorem dX2_multipliedBy_41 : decode cX2_multipliedBy 41 = .ok (.areturn, 1) := dk_176 (dk_at dksX2_multipliedBy_1 18 rfl rfl)
abbrev cX2_negated : ByteArray := prog_8_method_18_code
def yX2_negated : MethodName := ⟨RX2, "negated", "()LPeriod;"⟩
def dkwX2_negated_0 : List UInt8 := [42, 2, 182, 0, 135, 176]
abbrev dktX2_negated_0 : List UInt8 := dkwX2_negated_0 ++ []
theorem dksX2_negated_0 : cX2_negated.data.toList.drop 0 = dktX2_negated_0 := by decide +kernel
theorem dX2_negated_0 : decode cX2_negated 0 = .ok (.aload_n 0, 1) := dk_42 (dk_at dksX2_negated_0 0 rfl rfl)
theorem dX2_negated_1 : decode cX2_negated 1 = .ok (.iconst (-1), 1) := dk_2 (dk_at dksX2_negated_0 1 rfl rfl)
theorem dX2_negated_2 : decode cX2_negated 2 = .ok (.invokevirtual 135, 3) := dk_182 0 135 (dk_at dksX2_negated_0 2 rfl rfl)
theorem dX2_negated_5 : decode cX2_negated 5 = .ok (.areturn, 1) := dk_176 (dk_at dksX2_negated_0 5 rfl rfl)
abbrev cX2_normalized : ByteArray := prog_8_method_19_code
def yX2_normalized : MethodName := ⟨RX2, "normalized", "()LPeriod;"⟩
def dkwX2_normalized_2 : List UInt8 := [180, 0, 100, 184, 0, 1, 176]
abbrev dktX2_normalized_2 : List UInt8 := dkwX2_normalized_2 ++ []
def dkwX2_normalized_1 : List UInt8 := [133, 148, 154, 0, 14, 21, 5, 42, 180, 0, 97, 160, 0, 5, 42, 176, 33, 184, 0, 73, 21, 5, 42]
abbrev dktX2_normalized_1 : List UInt8 := dkwX2_normalized_1 ++ dktX2_normalized_2
def dkwX2_normalized_0 : List UInt8 := [42, 182, 0, 139, 64, 31, 20, 0, 143, 109, 66, 31, 20, 0, 143, 113, 136, 54, 5, 33, 42, 180, 0, 93]
abbrev dktX2_normalized_0 : List UInt8 := dkwX2_normalized_0 ++ dktX2_normalized_1
theorem dksX2_normalized_0 : cX2_normalized.data.toList.drop 0 = dktX2_normalized_0 := by decide +kernel
theorem dksX2_normalized_1 : cX2_normalized.data.toList.drop 24 = dktX2_normalized_1 := dk_seg dksX2_normalized_0 24 rfl rfl
theorem dksX2_normalized_2 : cX2_normalized.data.toList.drop 47 = dktX2_normalized_2 := dk_seg dksX2_normalized_1 23 rfl rfl
theorem dX2_normalized_0 : decode cX2_normalized 0 = .ok (.aload_n 0, 1) := dk_42 (dk_at dksX2_normalized_0 0 rfl rfl)
theorem dX2_normalized_1 : decode cX2_normalized 1 = .ok (.invokevirtual 139, 3) := dk_182 0 139 (dk_at dksX2_normalized_0 1 rfl rfl)
theorem dX2_normalized_4 : decode cX2_normalized 4 = .ok (.lstore_n 1, 1) := dk_64 (dk_at dksX2_normalized_0 4 rfl rfl)
theorem dX2_normalized_5 : decode cX2_normalized 5 = .ok (.lload_n 1, 1) := dk_31 (dk_at dksX2_normalized_0 5 rfl rfl)
theorem dX2_normalized_6 : decode cX2_normalized 6 = .ok (.ldc2_w 143, 3) := dk_20 0 143 (dk_at dksX2_normalized_0 6 rfl rfl)
theorem dX2_normalized_9 : decode cX2_normalized 9 = .ok (.ldiv, 1) := dk_109 (dk_at dksX2_normalized_0 9 rfl rfl)
theorem dX2_normalized_10 : decode cX2_normalized 10 = .ok (.lstore_n 3, 1) := dk_66 (dk_at dksX2_normalized_0 10 rfl rfl)
theorem dX2_normalized_11 : decode cX2_normalized 11 = .ok (.lload_n 1, 1) := dk_31 (dk_at dksX2_normalized_0 11 rfl rfl)
theorem dX2_normalized_12 : decode cX2_normalized 12 = .ok (.ldc2_w 143, 3) := dk_20 0 143 (dk_at dksX2_normalized_0 12 rfl rfl)
theorem dX2_normalized_15 : decode cX2_normalized 15 = .ok (.lrem, 1) := dk_113 (dk_at dksX2_normalized_0 15 rfl rfl)
theorem dX2_normalized_16 : decode cX2_normalized 16 = .ok (.l2i, 1) := dk_136 (dk_at dksX2_normalized_0 16 rfl rfl)
theorem dX2_normalized_17 : decode cX2_normalized 17 = .ok (.istore 5, 2) := dk_54 5 (dk_at dksX2_normalized_0 17 rfl rfl)
theorem dX2_normalized_19 : decode cX2_normalized 19 = .ok (.lload_n 3, 1) := dk_33 (dk_at dksX2_normalized_0 19 rfl rfl)
theorem dX2_normalized_20 : decode cX2_normalized 20 = .ok (.aload_n 0, 1) := dk_42 (dk_at dksX2_normalized_0 20 rfl rfl)
theorem dX2_normalized_21 : decode cX2_normalized 21 = .ok (.getfield 93, 3) := dk_180 0 93 (dk_at dksX2_normalized_0 21 rfl rfl)
theorem dX2_normalized_24 : decode cX2_normalized 24 = .ok (.i2l, 1) := dk_133 (dk_at dksX2_normalized_1 0 rfl rfl)
theorem dX2_normalized_25 : decode cX2_normalized 25 = .ok (.lcmp, 1) := dk_148 (dk_at dksX2_normalized_1 1 rfl rfl)
theorem dX2_normalized_26 : decode cX2_normalized 26 = .ok (.ifCond .ne 14, 3) := dk_154 0 14 (dk_at dksX2_normalized_1 2 rfl rfl)
theorem dX2_normalized_29 : decode cX2_normalized 29 = .ok (.iload 5, 2) := dk_21 5 (dk_at dksX2_normalized_1 5 rfl rfl)
theorem dX2_normalized_31 : decode cX2_normalized 31 = .ok (.aload_n 0, 1) := dk_42 (dk_at dksX2_normalized_1 7 rfl rfl)
theorem dX2_normalized_32 : decode cX2_normalized 32 = .ok (.getfield 97, 3) := dk_180 0 97 (dk_at dksX2_normalized_1 8 rfl rfl)
theorem dX2_normalized_35 : decode cX2_normalized 35 = .ok (.if_icmp .ne 5, 3) := dk_160 0 5 (dk_at dksX2_normalized_1 11 rfl rfl)
theorem dX2_normalized_38 : decode cX2_normalized 38 = .ok (.aload_n 0, 1) := dk_42 (dk_at dksX2_normalized_1 14 rfl rfl)
theorem dX2_normalized_39 : decode cX2_normalized 39 = .ok (.areturn, 1) := dk_176 (dk_at dksX2_normalized_1 15 rfl rfl)
theorem dX2_normalized_40 : decode cX2_normalized 40 = .ok (.lload_n 3, 1) := dk_33 (dk_at dksX2_normalized_1 16 rfl rfl)
theorem dX2_normalized_41 : decode cX2_normalized 41 = .ok (.invokestatic 73, 3) := dk_184 0 73 (dk_at dksX2_normalized_1 17 rfl rfl)
theorem dX2_normalized_44 : decode cX2_normalized 44 = .ok (.iload 5, 2) := dk_21 5 (dk_at dksX2_normalized_1 20 rfl rfl)
theorem dX2_normalized_46 : decode cX2_normalized 46 = .ok (.aload_n 0, 1) := dk_42 (dk_at dksX2_normalized_1 22 rfl rfl)
theorem dX2_normalized_47 : decode cX2_normalized 47 = .ok (.getfield 100, 3) := dk_180 0 100 (dk_at dksX2_normalized_2 0 rfl rfl)
theorem dX2_normalized_50 : decode cX2_normalized 50 = .ok (.invokestatic 1, 3) := dk_184 0 1 (dk_at dksX2_normalized_2 3 rfl rfl)
theorem dX2_normalized_53 : decode cX2_normalized 53 = .ok (.areturn, 1) := dk_176 (dk_at dksX2_normalized_2 6 rfl rfl)
abbrev cX2_toTotalMonths : ByteArray := prog_8_method_20_code
def yX2_toTotalMonths : MethodName := ⟨RX2, "toTotalMonths", "()J"⟩
def dkwX2_toTotalMonths_0 : List UInt8 := [42, 180, 0, 93, 133, 20, 0, 143, 105, 42, 180, 0, 97, 133, 97, 173]
abbrev dktX2_toTotalMonths_0 : List UInt8 := dkwX2_toTotalMonths_0 ++ []
theorem dksX2_toTotalMonths_0 : cX2_toTotalMonths.data.toList.drop 0 = dktX2_toTotalMonths_0 := by decide +kernel
theorem dX2_toTotalMonths_0 : decode cX2_toTotalMonths 0 = .ok (.aload_n 0, 1) := dk_42 (dk_at dksX2_toTotalMonths_0 0 rfl rfl)
theorem dX2_toTotalMonths_1 : decode cX2_toTotalMonths 1 = .ok (.getfield 93, 3) := dk_180 0 93 (dk_at dksX2_toTotalMonths_0 1 rfl rfl)
theorem dX2_toTotalMonths_4 : decode cX2_toTotalMonths 4 = .ok (.i2l, 1) := dk_133 (dk_at dksX2_toTotalMonths_0 4 rfl rfl)
theorem dX2_toTotalMonths_5 : decode cX2_toTotalMonths 5 = .ok (.ldc2_w 143, 3) := dk_20 0 143 (dk_at dksX2_toTotalMonths_0 5 rfl rfl)
theorem dX2_toTotalMonths_8 : decode cX2_toTotalMonths 8 = .ok (.lmul, 1) := dk_105 (dk_at dksX2_toTotalMonths_0 8 rfl rfl)
theorem dX2_toTotalMonths_9 : decode cX2_toTotalMonths 9 = .ok (.aload_n 0, 1) := dk_42 (dk_at dksX2_toTotalMonths_0 9 rfl rfl)
theorem dX2_toTotalMonths_10 : decode cX2_toTotalMonths 10 = .ok (.getfield 97, 3) := dk_180 0 97 (dk_at dksX2_toTotalMonths_0 10 rfl rfl)
theorem dX2_toTotalMonths_13 : decode cX2_toTotalMonths 13 = .ok (.i2l, 1) := dk_133 (dk_at dksX2_toTotalMonths_0 13 rfl rfl)
theorem dX2_toTotalMonths_14 : decode cX2_toTotalMonths 14 = .ok (.ladd, 1) := dk_97 (dk_at dksX2_toTotalMonths_0 14 rfl rfl)
theorem dX2_toTotalMonths_15 : decode cX2_toTotalMonths 15 = .ok (.lreturn, 1) := dk_173 (dk_at dksX2_toTotalMonths_0 15 rfl rfl)
abbrev cX2_plusDays : ByteArray := prog_8_method_15_code
def yX2_plusDays : MethodName := ⟨RX2, "plusDays", "(J)LPeriod;"⟩
def dkwX2_plusDays_1 : List UInt8 := [184, 0, 126, 184, 0, 73, 184, 0, 1, 176]
abbrev dktX2_plusDays_1 : List UInt8 := dkwX2_plusDays_1 ++ []
def dkwX2_plusDays_0 : List UInt8 := [31, 9, 148, 154, 0, 5, 42, 176, 42, 180, 0, 93, 42, 180, 0, 97, 42, 180, 0, 100, 133, 31]
abbrev dktX2_plusDays_0 : List UInt8 := dkwX2_plusDays_0 ++ dktX2_plusDays_1
theorem dksX2_plusDays_0 : cX2_plusDays.data.toList.drop 0 = dktX2_plusDays_0 := by decide +kernel
theorem dksX2_plusDays_1 : cX2_plusDays.data.toList.drop 22 = dktX2_plusDays_1 := dk_seg dksX2_plusDays_0 22 rfl rfl
theorem dX2_plusDays_0 : decode cX2_plusDays 0 = .ok (.lload_n 1, 1) := dk_31 (dk_at dksX2_plusDays_0 0 rfl rfl)
theorem dX2_plusDays_1 : decode cX2_plusDays 1 = .ok (.lconst 0, 1) := dk_9 (dk_at dksX2_plusDays_0 1 rfl rfl)
theorem dX2_plusDays_2 : decode cX2_plusDays 2 = .ok (.lcmp, 1) := dk_148 (dk_at dksX2_plusDays_0 2 rfl rfl)
theorem dX2_plusDays_3 : decode cX2_plusDays 3 = .ok (.ifCond .ne 5, 3) := dk_154 0 5 (dk_at dksX2_plusDays_0 3 rfl rfl)
theorem dX2_plusDays_6 : decode cX2_plusDays 6 = .ok (.aload_n 0, 1) := dk_42 (dk_at dksX2_plusDays_0 6 rfl rfl)
theorem dX2_plusDays_7 : decode cX2_plusDays 7 = .ok (.areturn, 1) := dk_176 (dk_at dksX2_plusDays_0 7 rfl rfl)
theorem dX2_plusDays_8 : decode cX2_plusDays 8 = .ok (.aload_n 0, 1) := dk_42 (dk_at dksX2_plusDays_0 8 rfl rfl)
theorem dX2_plusDays_9 : decode cX2_plusDays 9 = .ok (.getfield 93, 3) := dk_180 0 93 (dk_at dksX2_plusDays_0 9 rfl rfl)
theorem dX2_plusDays_12 : decode cX2_plusDays 12 = .ok (.aload_n 0, 1) := dk_42 (dk_at dksX2_plusDays_0 12 rfl rfl)
theorem dX2_plusDays_13 : decode cX2_plusDays 13 = .ok (.getfield 97, 3) := dk_180 0 97 (dk_at dksX2_plusDays_0 13 rfl rfl)
theorem dX2_plusDays_16 : decode cX2_plusDays 16 = .ok (.aload_n 0, 1) := dk_42 (dk_at dksX2_plusDays_0 16 rfl rfl)
theorem dX2_plusDays_17 : decode cX2_plusDays 17 = .ok (.getfield 100, 3) := dk_180 0 100 (dk_at dksX2_plusDays_0 17 rfl rfl)
theorem dX2_plusDays_20 : decode cX2_plusDays 20 = .ok (.i2l, 1) := dk_133 (dk_at dksX2_plusDays_0 20 rfl rfl)
theorem dX2_plusDays_21 : decode cX2_plusDays 21 = .ok (.lload_n 1, 1) := dk_31 (dk_at dksX2_plusDays_0 21 rfl rfl)
theorem dX2_plusDays_22 : decode cX2_plusDays 22 = .ok (.invokestatic 126, 3) := dk_184 0 126 (dk_at dksX2_plusDays_1 0 rfl rfl)
theorem dX2_plusDays_25 : decode cX2_plusDays 25 = .ok (.invokestatic 73, 3) := dk_184 0 73 (dk_at dksX2_plusDays_1 3 rfl rfl)
theorem dX2_plusDays_28 : decode cX2_plusDays 28 = .ok (.invokestatic 1, 3) := dk_184 0 1 (dk_at dksX2_plusDays_1 6 rfl rfl)
theorem dX2_plusDays_31 : decode cX2_plusDays 31 = .ok (.areturn, 1) := dk_176 (dk_at dksX2_plusDays_1 9 rfl rfl)
abbrev cX2_plusMonths : ByteArray := prog_8_method_14_code
def yX2_plusMonths : MethodName := ⟨RX2, "plusMonths", "(J)LPeriod;"⟩
def dkwX2_plusMonths_1 : List UInt8 := [42, 180, 0, 100, 184, 0, 1, 176]
abbrev dktX2_plusMonths_1 : List UInt8 := dkwX2_plusMonths_1 ++ []
def dkwX2_plusMonths_0 : List UInt8 := [31, 9, 148, 154, 0, 5, 42, 176, 42, 180, 0, 93, 42, 180, 0, 97, 133, 31, 184, 0, 126, 184, 0, 73]
abbrev dktX2_plusMonths_0 : List UInt8 := dkwX2_plusMonths_0 ++ dktX2_plusMonths_1
theorem dksX2_plusMonths_0 : cX2_plusMonths.data.toList.drop 0 = dktX2_plusMonths_0 := by decide +kernel
theorem dksX2_plusMonths_1 : cX2_plusMonths.data.toList.drop 24 = dktX2_plusMonths_1 := dk_seg dksX2_plusMonths_0 24 rfl rfl
theorem dX2_plusMonths_0 : decode cX2_plusMonths 0 = .ok (.lload_n 1, 1) := dk_31 (dk_at dksX2_plusMonths_0 0 rfl rfl)
theorem dX2_plusMonths_1 : decode cX2_plusMonths 1 = .ok (.lconst 0, 1) := dk_9 (dk_at dksX2_plusMonths_0 1 rfl rfl)
theorem dX2_plusMonths_2 : decode cX2_plusMonths 2 = .ok (.lcmp, 1) := dk_148 (dk_at dksX2_plusMonths_0 2 rfl rfl)
theorem dX2_plusMonths_3 : decode cX2_plusMonths 3 = .ok (.ifCond .ne 5, 3) := dk_154 0 5 (dk_at dksX2_plusMonths_0 3 rfl rfl)
theorem dX2_plusMonths_6 : decode cX2_plusMonths 6 = .ok (.aload_n 0, 1) := dk_42 (dk_at dksX2_plusMonths_0 6 rfl rfl)
theorem dX2_plusMonths_7 : decode cX2_plusMonths 7 = .ok (.areturn, 1) := dk_176 (dk_at dksX2_plusMonths_0 7 rfl rfl)
theorem dX2_plusMonths_8 : decode cX2_plusMonths 8 = .ok (.aload_n 0, 1) := dk_42 (dk_at dksX2_plusMonths_0 8 rfl rfl)
theorem dX2_plusMonths_9 : decode cX2_plusMonths 9 = .ok (.getfield 93, 3) := dk_180 0 93 (dk_at dksX2_plusMonths_0 9 rfl rfl)
theorem dX2_plusMonths_12 : decode cX2_plusMonths 12 = .ok (.aload_n 0, 1) := dk_42 (dk_at dksX2_plusMonths_0 12 rfl rfl)
theorem dX2_plusMonths_13 : decode cX2_plusMonths 13 = .ok (.getfield 97, 3) := dk_180 0 97 (dk_at dksX2_plusMonths_0 13 rfl rfl)
theorem dX2_plusMonths_16 : decode cX2_plusMonths 16 = .ok (.i2l, 1) := dk_133 (dk_at dksX2_plusMonths_0 16 rfl rfl)
theorem dX2_plusMonths_17 : decode cX2_plusMonths 17 = .ok (.lload_n 1, 1) := dk_31 (dk_at dksX2_plusMonths_0 17 rfl rfl)
theorem dX2_plusMonths_18 : decode cX2_plusMonths 18 = .ok (.invokestatic 126, 3) := dk_184 0 126 (dk_at dksX2_plusMonths_0 18 rfl rfl)
theorem dX2_plusMonths_21 : decode cX2_plusMonths 21 = .ok (.invokestatic 73, 3) := dk_184 0 73 (dk_at dksX2_plusMonths_0 21 rfl rfl)
theorem dX2_plusMonths_24 : decode cX2_plusMonths 24 = .ok (.aload_n 0, 1) := dk_42 (dk_at dksX2_plusMonths_1 0 rfl rfl)
theorem dX2_plusMonths_25 : decode cX2_plusMonths 25 = .ok (.getfield 100, 3) := dk_180 0 100 (dk_at dksX2_plusMonths_1 1 rfl rfl)
theorem dX2_plusMonths_28 : decode cX2_plusMonths 28 = .ok (.invokestatic 1, 3) := dk_184 0 1 (dk_at dksX2_plusMonths_1 4 rfl rfl)
theorem dX2_plusMonths_31 : decode cX2_plusMonths 31 = .ok (.areturn, 1) := dk_176 (dk_at dksX2_plusMonths_1 7 rfl rfl)
abbrev cX2_isNegative : ByteArray := prog_8_method_9_code
def yX2_isNegative : MethodName := ⟨RX2, "isNegative", "()Z"⟩
def dkwX2_isNegative_1 : List UInt8 := [167, 0, 4, 3, 172]
abbrev dktX2_isNegative_1 : List UInt8 := dkwX2_isNegative_1 ++ []
def dkwX2_isNegative_0 : List UInt8 := [42, 180, 0, 93, 155, 0, 17, 42, 180, 0, 97, 155, 0, 10, 42, 180, 0, 100, 156, 0, 7, 4]
abbrev dktX2_isNegative_0 : List UInt8 := dkwX2_isNegative_0 ++ dktX2_isNegative_1
theorem dksX2_isNegative_0 : cX2_isNegative.data.toList.drop 0 = dktX2_isNegative_0 := by decide +kernel
theorem dksX2_isNegative_1 : cX2_isNegative.data.toList.drop 22 = dktX2_isNegative_1 := dk_seg dksX2_isNegative_0 22 rfl rfl
theorem dX2_isNegative_0 : decode cX2_isNegative 0 = .ok (.aload_n 0, 1) := dk_42 (dk_at dksX2_isNegative_0 0 rfl rfl)
theorem dX2_isNegative_1 : decode cX2_isNegative 1 = .ok (.getfield 93, 3) := dk_180 0 93 (dk_at dksX2_isNegative_0 1 rfl rfl)
theorem dX2_isNegative_4 : decode cX2_isNegative 4 = .ok (.ifCond .lt 17, 3) := dk_155 0 17 (dk_at dksX2_isNegative_0 4 rfl rfl)
theorem dX2_isNegative_7 : decode cX2_isNegative 7 = .ok (.aload_n 0, 1) := dk_42 (dk_at dksX2_isNegative_0 7 rfl rfl)
theorem dX2_isNegative_8 : decode cX2_isNegative 8 = .ok (.getfield 97, 3) := dk_180 0 97 (dk_at dksX2_isNegative_0 8 rfl rfl)
theorem dX2_isNegative_11 : decode cX2_isNegative 11 = .ok (.ifCond .lt 10, 3) := dk_155 0 10 (dk_at dksX2_isNegative_0 11 rfl rfl)
theorem dX2_isNegative_14 : decode cX2_isNegative 14 = .ok (.aload_n 0, 1) := dk_42 (dk_at dksX2_isNegative_0 14 rfl rfl)
theorem dX2_isNegative_15 : decode cX2_isNegative 15 = .ok (.getfield 100, 3) := dk_180 0 100 (dk_at dksX2_isNegative_0 15 rfl rfl)
theorem dX2_isNegative_18 : decode cX2_isNegative 18 = .ok (.ifCond .ge 7, 3) := dk_156 0 7 (dk_at dksX2_isNegative_0 18 rfl rfl)
theorem dX2_isNegative_21 : decode cX2_isNegative 21 = .ok (.iconst 1, 1) := dk_4 (dk_at dksX2_isNegative_0 21 rfl rfl)
theorem dX2_isNegative_22 : decode cX2_isNegative 22 = .ok (.goto 4, 3) := dk_167 0 4 (dk_at dksX2_isNegative_1 0 rfl rfl)
theorem dX2_isNegative_25 : decode cX2_isNegative 25 = .ok (.iconst 0, 1) := dk_3 (dk_at dksX2_isNegative_1 3 rfl rfl)
theorem dX2_isNegative_26 : decode cX2_isNegative 26 = .ok (.ireturn, 1) := dk_172 (dk_at dksX2_isNegative_1 4 rfl rfl)
abbrev cX2_isZero : ByteArray := prog_8_method_8_code
def yX2_isZero : MethodName := ⟨RX2, "isZero", "()Z"⟩
def dkwX2_isZero_0 : List UInt8 := [42, 178, 0, 83, 166, 0, 7, 4, 167, 0, 4, 3, 172]
abbrev dktX2_isZero_0 : List UInt8 := dkwX2_isZero_0 ++ []
theorem dksX2_isZero_0 : cX2_isZero.data.toList.drop 0 = dktX2_isZero_0 := by decide +kernel
theorem dX2_isZero_0 : decode cX2_isZero 0 = .ok (.aload_n 0, 1) := dk_42 (dk_at dksX2_isZero_0 0 rfl rfl)
theorem dX2_isZero_1 : decode cX2_isZero 1 = .ok (.getstatic 83, 3) := dk_178 0 83 (dk_at dksX2_isZero_0 1 rfl rfl)
theorem dX2_isZero_4 : decode cX2_isZero 4 = .ok (.if_acmp .ne 7, 3) := dk_166 0 7 (dk_at dksX2_isZero_0 4 rfl rfl)
theorem dX2_isZero_7 : decode cX2_isZero 7 = .ok (.iconst 1, 1) := dk_4 (dk_at dksX2_isZero_0 7 rfl rfl)
theorem dX2_isZero_8 : decode cX2_isZero 8 = .ok (.goto 4, 3) := dk_167 0 4 (dk_at dksX2_isZero_0 8 rfl rfl)
theorem dX2_isZero_11 : decode cX2_isZero 11 = .ok (.iconst 0, 1) := dk_3 (dk_at dksX2_isZero_0 11 rfl rfl)
theorem dX2_isZero_12 : decode cX2_isZero 12 = .ok (.ireturn, 1) := dk_172 (dk_at dksX2_isZero_0 12 rfl rfl)
theorem q9 : (Jvm.Cond.initialized "Period") ∈ lw_all := lw_g (lw_at lw_m1 3 rfl) rfl
theorem q55 : (Jvm.Cond.static ({ cls := "Period", name := "of", desc := "(III)LPeriod;" } : Jvm.MethodName)) ∈ lw_all := lw_g (lw_at lw_m1 49 rfl) rfl
theorem q56 : (Jvm.Cond.code ({ cls := "Period", name := "of", desc := "(III)LPeriod;" } : Jvm.MethodName) prog_8_method_1_code (3 : Nat) (Option.some (Jvm.ClassFile.FieldType.object "Period"))) ∈ lw_all := lw_g (lw_at lw_m1 50 rfl) rfl
theorem q57 : (Jvm.Cond.methodLink "Period" (1 : Nat) ({ cls := "Period", name := "create", desc := "(III)LPeriod;" } : Jvm.MethodName)) ∈ lw_all := lw_g (lw_at lw_m1 51 rfl) rfl
theorem q58 : (Jvm.Cond.static ({ cls := "Period", name := "create", desc := "(III)LPeriod;" } : Jvm.MethodName)) ∈ lw_all := lw_g (lw_at lw_m1 52 rfl) rfl
theorem q59 : (Jvm.Cond.code ({ cls := "Period", name := "create", desc := "(III)LPeriod;" } : Jvm.MethodName) prog_8_method_3_code (3 : Nat) (Option.some (Jvm.ClassFile.FieldType.object "Period"))) ∈ lw_all := lw_g (lw_at lw_m1 53 rfl) rfl
theorem q60 : (Jvm.Cond.fieldLink "Period" (83 : Nat) "Period" "ZERO" "LPeriod;") ∈ lw_all := lw_g (lw_at lw_m1 54 rfl) rfl
theorem q61 : (Jvm.Cond.laysStatic "Period" "ZERO" "LPeriod;") ∈ lw_tbl := lw_at lw_m1 55 rfl
theorem q62 : (Jvm.Cond.classLink "Period" (2 : Nat) "Period") ∈ lw_all := lw_g (lw_at lw_m1 56 rfl) rfl
theorem q63 : (Jvm.Cond.instantiable "Period" (3 : Nat)) ∈ lw_all := lw_g (lw_at lw_m1 57 rfl) rfl
theorem q64 : (Jvm.Cond.methodLink "Period" (87 : Nat) ({ cls := "Period", name := "<init>", desc := "(III)V" } : Jvm.MethodName)) ∈ lw_all := lw_g (lw_at lw_m1 58 rfl) rfl
theorem q65 : (Jvm.Cond.instanceMethod ({ cls := "Period", name := "<init>", desc := "(III)V" } : Jvm.MethodName)) ∈ lw_all := lw_g (lw_at lw_m1 59 rfl) rfl
theorem q66 : (Jvm.Cond.code ({ cls := "Period", name := "<init>", desc := "(III)V" } : Jvm.MethodName) prog_8_method_4_code (4 : Nat) (Option.none : Option Jvm.ClassFile.FieldType)) ∈ lw_all := lw_g (lw_at lw_m1 60 rfl) rfl
theorem q67 : (Jvm.Cond.methodLink "Period" (90 : Nat) ({ cls := "ChronoPeriod", name := "<init>", desc := "()V" } : Jvm.MethodName)) ∈ lw_all := lw_g (lw_at lw_m1 61 rfl) rfl
theorem q71 : (Jvm.Cond.fieldLink "Period" (93 : Nat) "Period" "years" "I") ∈ lw_all := lw_g (lw_at lw_m1 65 rfl) rfl
theorem q72 : (Jvm.Cond.fieldLink "Period" (97 : Nat) "Period" "months" "I") ∈ lw_all := lw_g (lw_at lw_m1 66 rfl) rfl
theorem q73 : (Jvm.Cond.fieldLink "Period" (100 : Nat) "Period" "days" "I") ∈ lw_all := lw_g (lw_at lw_m1 67 rfl) rfl
theorem q74 : (Jvm.Cond.laysFinal "Period" "Period" "years" "I") ∈ lw_all := lw_g (lw_at lw_m1 68 rfl) rfl
theorem q75 : (Jvm.Cond.soleField "Period" "years") ∈ lw_all := lw_g (lw_at lw_m1 69 rfl) rfl
theorem q76 : (Jvm.Cond.laysFinal "Period" "Period" "months" "I") ∈ lw_all := lw_g (lw_at lw_m1 70 rfl) rfl
theorem q77 : (Jvm.Cond.soleField "Period" "months") ∈ lw_all := lw_g (lw_at lw_m1 71 rfl) rfl
theorem q78 : (Jvm.Cond.laysFinal "Period" "Period" "days" "I") ∈ lw_all := lw_g (lw_at lw_m1 72 rfl) rfl
theorem q79 : (Jvm.Cond.soleField "Period" "days") ∈ lw_all := lw_g (lw_at lw_m1 73 rfl) rfl
theorem q80 : (Jvm.Cond.superclass "Period" "ChronoPeriod") ∈ lw_all := lw_g (lw_at lw_m1 74 rfl) rfl
theorem q102 : (Jvm.Cond.instanceMethod ({ cls := "Period", name := "getYears", desc := "()I" } : Jvm.MethodName)) ∈ lw_all := lw_g (lw_at lw_m1 96 rfl) rfl
theorem q103 : (Jvm.Cond.selects "Period" ({ cls := "Period", name := "getYears", desc := "()I" } : Jvm.MethodName) ({ cls := "Period", name := "getYears", desc := "()I" } : Jvm.MethodName)) ∈ lw_all := lw_g (lw_at lw_m1 97 rfl) rfl
theorem q104 : (Jvm.Cond.code ({ cls := "Period", name := "getYears", desc := "()I" } : Jvm.MethodName) prog_8_method_10_code (1 : Nat) (Option.some Jvm.ClassFile.FieldType.int)) ∈ lw_all := lw_g (lw_at lw_m1 98 rfl) rfl
theorem q108 : (Jvm.Cond.instanceMethod ({ cls := "Period", name := "getMonths", desc := "()I" } : Jvm.MethodName)) ∈ lw_all := lw_g (lw_at lw_m1 102 rfl) rfl
theorem q109 : (Jvm.Cond.selects "Period" ({ cls := "Period", name := "getMonths", desc := "()I" } : Jvm.MethodName) ({ cls := "Period", name := "getMonths", desc := "()I" } : Jvm.MethodName)) ∈ lw_all := lw_g (lw_at lw_m1 103 rfl) rfl
theorem q110 : (Jvm.Cond.code ({ cls := "Period", name := "getMonths", desc := "()I" } : Jvm.MethodName) prog_8_method_11_code (1 : Nat) (Option.some Jvm.ClassFile.FieldType.int)) ∈ lw_all := lw_g (lw_at lw_m1 104 rfl) rfl
theorem q112 : (Jvm.Cond.instanceMethod ({ cls := "Period", name := "getDays", desc := "()I" } : Jvm.MethodName)) ∈ lw_all := lw_g (lw_at lw_m1 106 rfl) rfl
theorem q113 : (Jvm.Cond.selects "Period" ({ cls := "Period", name := "getDays", desc := "()I" } : Jvm.MethodName) ({ cls := "Period", name := "getDays", desc := "()I" } : Jvm.MethodName)) ∈ lw_all := lw_g (lw_at lw_m1 107 rfl) rfl
theorem q114 : (Jvm.Cond.code ({ cls := "Period", name := "getDays", desc := "()I" } : Jvm.MethodName) prog_8_method_12_code (1 : Nat) (Option.some Jvm.ClassFile.FieldType.int)) ∈ lw_all := lw_g (lw_at lw_m1 108 rfl) rfl
theorem q116 : (Jvm.Cond.instanceMethod ({ cls := "Period", name := "plus", desc := "(LTemporalAmount;)LPeriod;" } : Jvm.MethodName)) ∈ lw_all := lw_g (lw_at lw_m1 110 rfl) rfl
theorem q117 : (Jvm.Cond.selects "Period" ({ cls := "Period", name := "plus", desc := "(LTemporalAmount;)LPeriod;" } : Jvm.MethodName) ({ cls := "Period", name := "plus", desc := "(LTemporalAmount;)LPeriod;" } : Jvm.MethodName)) ∈ lw_all := lw_g (lw_at lw_m1 111 rfl) rfl
theorem q118 : (Jvm.Cond.code ({ cls := "Period", name := "plus", desc := "(LTemporalAmount;)LPeriod;" } : Jvm.MethodName) prog_8_method_13_code (3 : Nat) (Option.some (Jvm.ClassFile.FieldType.object "Period"))) ∈ lw_all := lw_g (lw_at lw_m1 112 rfl) rfl
theorem q119 : (Jvm.Cond.methodLink "Period" (118 : Nat) ({ cls := "Period", name := "from", desc := "(LTemporalAmount;)LPeriod;" } : Jvm.MethodName)) ∈ lw_all := lw_g (lw_at lw_m1 113 rfl) rfl
theorem q120 : (Jvm.Cond.static ({ cls := "Period", name := "from", desc := "(LTemporalAmount;)LPeriod;" } : Jvm.MethodName)) ∈ lw_all := lw_g (lw_at lw_m1 114 rfl) rfl
theorem q121 : (Jvm.Cond.code ({ cls := "Period", name := "from", desc := "(LTemporalAmount;)LPeriod;" } : Jvm.MethodName) prog_8_method_2_code (8 : Nat) (Option.some (Jvm.ClassFile.FieldType.object "Period"))) ∈ lw_all := lw_g (lw_at lw_m1 115 rfl) rfl
theorem q122 : (Jvm.Cond.classLink "Period" (7 : Nat) "ChronoPeriod") ∈ lw_all := lw_g (lw_at lw_m1 116 rfl) rfl
theorem q123 : (Jvm.Cond.fieldLink "Period" (9 : Nat) "IsoChronology" "INSTANCE" "LIsoChronology;") ∈ lw_all := lw_g (lw_at lw_m1 117 rfl) rfl
theorem q125 : (Jvm.Cond.methodLink "Period" (15 : Nat) ({ cls := "ChronoPeriod", name := "getChronology", desc := "()LChronology;" } : Jvm.MethodName)) ∈ lw_all := lw_g (lw_at lw_m1 119 rfl) rfl
theorem q128 : (Jvm.Cond.selects "Period" ({ cls := "ChronoPeriod", name := "getChronology", desc := "()LChronology;" } : Jvm.MethodName) ({ cls := "Period", name := "getChronology", desc := "()LChronology;" } : Jvm.MethodName)) ∈ lw_all := lw_g (lw_at lw_m1 122 rfl) rfl
theorem q129 : (Jvm.Cond.instanceMethod ({ cls := "Period", name := "getChronology", desc := "()LChronology;" } : Jvm.MethodName)) ∈ lw_all := lw_g (lw_at lw_m1 123 rfl) rfl
theorem q130 : (Jvm.Cond.code ({ cls := "Period", name := "getChronology", desc := "()LChronology;" } : Jvm.MethodName) prog_8_method_6_code (1 : Nat) (Option.some (Jvm.ClassFile.FieldType.object "Chronology"))) ∈ lw_all := lw_g (lw_at lw_m1 124 rfl) rfl
theorem q131 : (Jvm.Cond.methodLink "Period" (19 : Nat) ({ cls := "IsoChronology", name := "equals", desc := "(Ljava/lang/Object;)Z" } : Jvm.MethodName)) ∈ lw_all := lw_g (lw_at lw_m1 125 rfl) rfl
theorem q310 : (Jvm.Cond.classLink "Period" (23 : Nat) "DateTimeException") ∈ lw_all := lw_g (lw_at lw_m2 64 rfl) rfl
theorem q365 : (Jvm.Cond.stringRef "Period" (25 : Nat) "left out") ∈ lw_tbl := lw_at lw_m2 119 rfl
theorem q366 : (Jvm.Cond.methodLink "Period" (27 : Nat) ({ cls := "DateTimeException", name := "<init>", desc := "(Ljava/lang/String;)V" } : Jvm.MethodName)) ∈ lw_all := lw_g (lw_at lw_m2 120 rfl) rfl
theorem q392 : (Jvm.Cond.stringRef "Period" (31 : Nat) "amount") ∈ lw_tbl := lw_at lw_m2 146 rfl
theorem q393 : (Jvm.Cond.methodLink "Period" (33 : Nat) ({ cls := "Jdk8Methods", name := "requireNonNull", desc := "(Ljava/lang/Object;Ljava/lang/String;)Ljava/lang/Object;" } : Jvm.MethodName)) ∈ lw_all := lw_g (lw_at lw_m2 147 rfl) rfl
theorem q414 : (Jvm.Cond.interfaceEntry "Period" (39 : Nat)) ∈ lw_tbl := lw_at lw_m2 168 rfl
theorem q415 : (Jvm.Cond.methodLink "Period" (39 : Nat) ({ cls := "TemporalAmount", name := "getUnits", desc := "()Ljava/util/List;" } : Jvm.MethodName)) ∈ lw_all := lw_g (lw_at lw_m2 169 rfl) rfl
theorem q504 : (Jvm.Cond.castable "Period" "TemporalAmount") ∈ lw_tbl := lw_at lw_m3 18 rfl
theorem q505 : (Jvm.Cond.selects "Period" ({ cls := "TemporalAmount", name := "getUnits", desc := "()Ljava/util/List;" } : Jvm.MethodName) ({ cls := "Period", name := "getUnits", desc := "()Ljava/util/List;" } : Jvm.MethodName)) ∈ lw_all := lw_g (lw_at lw_m3 19 rfl) rfl
theorem q506 : (Jvm.Cond.unhidden "Period" "getUnits" "()Ljava/util/List;") ∈ lw_tbl := lw_at lw_m3 20 rfl
theorem q507 : (Jvm.Cond.instanceMethod ({ cls := "Period", name := "getUnits", desc := "()Ljava/util/List;" } : Jvm.MethodName)) ∈ lw_all := lw_g (lw_at lw_m3 21 rfl) rfl
theorem q508 : (Jvm.Cond.publicMethod ({ cls := "Period", name := "getUnits", desc := "()Ljava/util/List;" } : Jvm.MethodName)) ∈ lw_tbl := lw_at lw_m3 22 rfl
theorem q509 : (Jvm.Cond.code ({ cls := "Period", name := "getUnits", desc := "()Ljava/util/List;" } : Jvm.MethodName) prog_8_method_5_code (1 : Nat) (Option.some (Jvm.ClassFile.FieldType.object "java/util/List"))) ∈ lw_all := lw_g (lw_at lw_m3 23 rfl) rfl
theorem q510 : (Jvm.Cond.classLink "Period" (68 : Nat) "ChronoUnit") ∈ lw_all := lw_g (lw_at lw_m3 24 rfl) rfl
theorem q511 : (Jvm.Cond.fieldLink "Period" (67 : Nat) "ChronoUnit" "YEARS" "LChronoUnit;") ∈ lw_all := lw_g (lw_at lw_m3 25 rfl) rfl
theorem q513 : (Jvm.Cond.fieldLink "Period" (77 : Nat) "ChronoUnit" "MONTHS" "LChronoUnit;") ∈ lw_all := lw_g (lw_at lw_m3 27 rfl) rfl
theorem q515 : (Jvm.Cond.fieldLink "Period" (80 : Nat) "ChronoUnit" "DAYS" "LChronoUnit;") ∈ lw_all := lw_g (lw_at lw_m3 29 rfl) rfl
theorem q517 : (Jvm.Cond.methodLink "Period" (103 : Nat) ({ cls := "java/util/Arrays", name := "asList", desc := "([Ljava/lang/Object;)Ljava/util/List;" } : Jvm.MethodName)) ∈ lw_all := lw_g (lw_at lw_m3 31 rfl) rfl
theorem q518 : (Jvm.Cond.methodLink "Period" (109 : Nat) ({ cls := "java/util/Collections", name := "unmodifiableList", desc := "(Ljava/util/List;)Ljava/util/List;" } : Jvm.MethodName)) ∈ lw_all := lw_g (lw_at lw_m3 32 rfl) rfl
theorem q519 : (Jvm.Cond.interfaceEntry "Period" (45 : Nat)) ∈ lw_tbl := lw_at lw_m3 33 rfl
theorem q520 : (Jvm.Cond.methodLink "Period" (45 : Nat) ({ cls := "java/util/List", name := "iterator", desc := "()Ljava/util/Iterator;" } : Jvm.MethodName)) ∈ lw_all := lw_g (lw_at lw_m3 34 rfl) rfl
theorem q571 : (Jvm.Cond.interfaceEntry "Period" (51 : Nat)) ∈ lw_tbl := lw_at lw_m3 85 rfl
theorem q572 : (Jvm.Cond.methodLink "Period" (51 : Nat) ({ cls := "java/util/Iterator", name := "hasNext", desc := "()Z" } : Jvm.MethodName)) ∈ lw_all := lw_g (lw_at lw_m3 86 rfl) rfl
theorem q589 : (Jvm.Cond.interfaceEntry "Period" (57 : Nat)) ∈ lw_tbl := lw_at lw_m3 103 rfl
theorem q590 : (Jvm.Cond.methodLink "Period" (57 : Nat) ({ cls := "java/util/Iterator", name := "next", desc := "()Ljava/lang/Object;" } : Jvm.MethodName)) ∈ lw_all := lw_g (lw_at lw_m3 104 rfl) rfl
theorem q605 : (Jvm.Cond.classLink "Period" (61 : Nat) "TemporalUnit") ∈ lw_all := lw_g (lw_at lw_m3 119 rfl) rfl
theorem q606 : (Jvm.Cond.interfaceEntry "Period" (63 : Nat)) ∈ lw_tbl := lw_at lw_m3 120 rfl
theorem q607 : (Jvm.Cond.methodLink "Period" (63 : Nat) ({ cls := "TemporalAmount", name := "get", desc := "(LTemporalUnit;)J" } : Jvm.MethodName)) ∈ lw_all := lw_g (lw_at lw_m3 121 rfl) rfl
theorem q632 : (Jvm.Cond.selects "Period" ({ cls := "TemporalAmount", name := "get", desc := "(LTemporalUnit;)J" } : Jvm.MethodName) ({ cls := "Period", name := "get", desc := "(LTemporalUnit;)J" } : Jvm.MethodName)) ∈ lw_all := lw_g (lw_at lw_m3 146 rfl) rfl
theorem q633 : (Jvm.Cond.unhidden "Period" "get" "(LTemporalUnit;)J") ∈ lw_tbl := lw_at lw_m3 147 rfl
theorem q634 : (Jvm.Cond.instanceMethod ({ cls := "Period", name := "get", desc := "(LTemporalUnit;)J" } : Jvm.MethodName)) ∈ lw_all := lw_g (lw_at lw_m3 148 rfl) rfl
theorem q635 : (Jvm.Cond.publicMethod ({ cls := "Period", name := "get", desc := "(LTemporalUnit;)J" } : Jvm.MethodName)) ∈ lw_tbl := lw_at lw_m3 149 rfl
theorem q636 : (Jvm.Cond.code ({ cls := "Period", name := "get", desc := "(LTemporalUnit;)J" } : Jvm.MethodName) prog_8_method_7_code (2 : Nat) (Option.some Jvm.ClassFile.FieldType.long)) ∈ lw_all := lw_g (lw_at lw_m3 150 rfl) rfl
theorem q637 : (Jvm.Cond.classLink "Period" (115 : Nat) "UnsupportedTemporalTypeException") ∈ lw_all := lw_g (lw_at lw_m3 151 rfl) rfl
theorem q638 : (Jvm.Cond.methodLink "Period" (117 : Nat) ({ cls := "UnsupportedTemporalTypeException", name := "<init>", desc := "(Ljava/lang/String;)V" } : Jvm.MethodName)) ∈ lw_all := lw_g (lw_at lw_m3 152 rfl) rfl
theorem q639 : (Jvm.Cond.methodLink "Period" (73 : Nat) ({ cls := "Jdk8Methods", name := "safeToInt", desc := "(J)I" } : Jvm.MethodName)) ∈ lw_all := lw_g (lw_at lw_m3 153 rfl) rfl
theorem q659 : (Jvm.Cond.methodLink "Period" (122 : Nat) ({ cls := "Jdk8Methods", name := "safeAdd", desc := "(II)I" } : Jvm.MethodName)) ∈ lw_all := lw_g (lw_at lw_m3 173 rfl) rfl
theorem q667 : (Jvm.Cond.instanceMethod ({ cls := "Period", name := "minus", desc := "(LTemporalAmount;)LPeriod;" } : Jvm.MethodName)) ∈ lw_all := lw_g (lw_at lw_m3 181 rfl) rfl
theorem q668 : (Jvm.Cond.selects "Period" ({ cls := "Period", name := "minus", desc := "(LTemporalAmount;)LPeriod;" } : Jvm.MethodName) ({ cls := "Period", name := "minus", desc := "(LTemporalAmount;)LPeriod;" } : Jvm.MethodName)) ∈ lw_all := lw_g (lw_at lw_m3 182 rfl) rfl
theorem q669 : (Jvm.Cond.code ({ cls := "Period", name := "minus", desc := "(LTemporalAmount;)LPeriod;" } : Jvm.MethodName) prog_8_method_16_code (3 : Nat) (Option.some (Jvm.ClassFile.FieldType.object "Period"))) ∈ lw_all := lw_g (lw_at lw_m3 183 rfl) rfl
theorem q670 : (Jvm.Cond.methodLink "Period" (129 : Nat) ({ cls := "Jdk8Methods", name := "safeSubtract", desc := "(II)I" } : Jvm.MethodName)) ∈ lw_all := lw_g (lw_at lw_m3 184 rfl) rfl
theorem q678 : (Jvm.Cond.instanceMethod ({ cls := "Period", name := "multipliedBy", desc := "(I)LPeriod;" } : Jvm.MethodName)) ∈ lw_all := lw_g (lw_at lw_m3 192 rfl) rfl
theorem q679 : (Jvm.Cond.selects "Period" ({ cls := "Period", name := "multipliedBy", desc := "(I)LPeriod;" } : Jvm.MethodName) ({ cls := "Period", name := "multipliedBy", desc := "(I)LPeriod;" } : Jvm.MethodName)) ∈ lw_all := lw_g (lw_at lw_m3 193 rfl) rfl
theorem q680 : (Jvm.Cond.code ({ cls := "Period", name := "multipliedBy", desc := "(I)LPeriod;" } : Jvm.MethodName) prog_8_method_17_code (2 : Nat) (Option.some (Jvm.ClassFile.FieldType.object "Period"))) ∈ lw_all := lw_g (lw_at lw_m3 194 rfl) rfl
theorem q681 : (Jvm.Cond.methodLink "Period" (132 : Nat) ({ cls := "Jdk8Methods", name := "safeMultiply", desc := "(II)I" } : Jvm.MethodName)) ∈ lw_all := lw_g (lw_at lw_m3 195 rfl) rfl
theorem q689 : (Jvm.Cond.instanceMethod ({ cls := "Period", name := "negated", desc := "()LPeriod;" } : Jvm.MethodName)) ∈ lw_all := lw_g (lw_at lw_m3 203 rfl) rfl
theorem q690 : (Jvm.Cond.selects "Period" ({ cls := "Period", name := "negated", desc := "()LPeriod;" } : Jvm.MethodName) ({ cls := "Period", name := "negated", desc := "()LPeriod;" } : Jvm.MethodName)) ∈ lw_all := lw_g (lw_at lw_m3 204 rfl) rfl
theorem q691 : (Jvm.Cond.code ({ cls := "Period", name := "negated", desc := "()LPeriod;" } : Jvm.MethodName) prog_8_method_18_code (1 : Nat) (Option.some (Jvm.ClassFile.FieldType.object "Period"))) ∈ lw_all := lw_g (lw_at lw_m3 205 rfl) rfl
theorem q692 : (Jvm.Cond.methodLink "Period" (135 : Nat) ({ cls := "Period", name := "multipliedBy", desc := "(I)LPeriod;" } : Jvm.MethodName)) ∈ lw_all := lw_g (lw_at lw_m3 206 rfl) rfl
theorem q698 : (Jvm.Cond.instanceMethod ({ cls := "Period", name := "normalized", desc := "()LPeriod;" } : Jvm.MethodName)) ∈ lw_all := lw_g (lw_at lw_m3 212 rfl) rfl
theorem q699 : (Jvm.Cond.selects "Period" ({ cls := "Period", name := "normalized", desc := "()LPeriod;" } : Jvm.MethodName) ({ cls := "Period", name := "normalized", desc := "()LPeriod;" } : Jvm.MethodName)) ∈ lw_all := lw_g (lw_at lw_m3 213 rfl) rfl
theorem q700 : (Jvm.Cond.code ({ cls := "Period", name := "normalized", desc := "()LPeriod;" } : Jvm.MethodName) prog_8_method_19_code (6 : Nat) (Option.some (Jvm.ClassFile.FieldType.object "Period"))) ∈ lw_all := lw_g (lw_at lw_m3 214 rfl) rfl
theorem q701 : (Jvm.Cond.methodLink "Period" (139 : Nat) ({ cls := "Period", name := "toTotalMonths", desc := "()J" } : Jvm.MethodName)) ∈ lw_all := lw_g (lw_at lw_m3 215 rfl) rfl
theorem q702 : (Jvm.Cond.instanceMethod ({ cls := "Period", name := "toTotalMonths", desc := "()J" } : Jvm.MethodName)) ∈ lw_all := lw_g (lw_at lw_m3 216 rfl) rfl
theorem q703 : (Jvm.Cond.selects "Period" ({ cls := "Period", name := "toTotalMonths", desc := "()J" } : Jvm.MethodName) ({ cls := "Period", name := "toTotalMonths", desc := "()J" } : Jvm.MethodName)) ∈ lw_all := lw_g (lw_at lw_m3 217 rfl) rfl
theorem q704 : (Jvm.Cond.code ({ cls := "Period", name := "toTotalMonths", desc := "()J" } : Jvm.MethodName) prog_8_method_20_code (1 : Nat) (Option.some Jvm.ClassFile.FieldType.long)) ∈ lw_all := lw_g (lw_at lw_m3 218 rfl) rfl
theorem q705 : (Jvm.Cond.constantLong "Period" (143 : Nat) (12 : Int64)) ∈ lw_all := lw_g (lw_at lw_m3 219 rfl) rfl
theorem q711 : (Jvm.Cond.instanceMethod ({ cls := "Period", name := "plusDays", desc := "(J)LPeriod;" } : Jvm.MethodName)) ∈ lw_all := lw_g (lw_at lw_m3 225 rfl) rfl
theorem q712 : (Jvm.Cond.selects "Period" ({ cls := "Period", name := "plusDays", desc := "(J)LPeriod;" } : Jvm.MethodName) ({ cls := "Period", name := "plusDays", desc := "(J)LPeriod;" } : Jvm.MethodName)) ∈ lw_all := lw_g (lw_at lw_m3 226 rfl) rfl
theorem q713 : (Jvm.Cond.code ({ cls := "Period", name := "plusDays", desc := "(J)LPeriod;" } : Jvm.MethodName) prog_8_method_15_code (3 : Nat) (Option.some (Jvm.ClassFile.FieldType.object "Period"))) ∈ lw_all := lw_g (lw_at lw_m3 227 rfl) rfl
theorem q714 : (Jvm.Cond.methodLink "Period" (126 : Nat) ({ cls := "Jdk8Methods", name := "safeAdd", desc := "(JJ)J" } : Jvm.MethodName)) ∈ lw_all := lw_g (lw_at lw_m3 228 rfl) rfl
theorem q722 : (Jvm.Cond.instanceMethod ({ cls := "Period", name := "plusMonths", desc := "(J)LPeriod;" } : Jvm.MethodName)) ∈ lw_all := lw_g (lw_at lw_m3 236 rfl) rfl
theorem q723 : (Jvm.Cond.selects "Period" ({ cls := "Period", name := "plusMonths", desc := "(J)LPeriod;" } : Jvm.MethodName) ({ cls := "Period", name := "plusMonths", desc := "(J)LPeriod;" } : Jvm.MethodName)) ∈ lw_all := lw_g (lw_at lw_m3 237 rfl) rfl
theorem q724 : (Jvm.Cond.code ({ cls := "Period", name := "plusMonths", desc := "(J)LPeriod;" } : Jvm.MethodName) prog_8_method_14_code (3 : Nat) (Option.some (Jvm.ClassFile.FieldType.object "Period"))) ∈ lw_all := lw_g (lw_at lw_m3 238 rfl) rfl
theorem q747 : (Jvm.Cond.instanceMethod ({ cls := "Period", name := "isNegative", desc := "()Z" } : Jvm.MethodName)) ∈ lw_all := lw_g (lw_at lw_m4 21 rfl) rfl
theorem q748 : (Jvm.Cond.selects "Period" ({ cls := "Period", name := "isNegative", desc := "()Z" } : Jvm.MethodName) ({ cls := "Period", name := "isNegative", desc := "()Z" } : Jvm.MethodName)) ∈ lw_all := lw_g (lw_at lw_m4 22 rfl) rfl
theorem q749 : (Jvm.Cond.code ({ cls := "Period", name := "isNegative", desc := "()Z" } : Jvm.MethodName) prog_8_method_9_code (1 : Nat) (Option.some Jvm.ClassFile.FieldType.boolean)) ∈ lw_all := lw_g (lw_at lw_m4 23 rfl) rfl
theorem q755 : (Jvm.Cond.instanceMethod ({ cls := "Period", name := "isZero", desc := "()Z" } : Jvm.MethodName)) ∈ lw_all := lw_g (lw_at lw_m4 29 rfl) rfl
theorem q756 : (Jvm.Cond.selects "Period" ({ cls := "Period", name := "isZero", desc := "()Z" } : Jvm.MethodName) ({ cls := "Period", name := "isZero", desc := "()Z" } : Jvm.MethodName)) ∈ lw_all := lw_g (lw_at lw_m4 30 rfl) rfl
theorem q757 : (Jvm.Cond.code ({ cls := "Period", name := "isZero", desc := "()Z" } : Jvm.MethodName) prog_8_method_8_code (1 : Nat) (Option.some Jvm.ClassFile.FieldType.boolean)) ∈ lw_all := lw_g (lw_at lw_m4 31 rfl) rfl
theorem q856 : (Jvm.Cond.castable "Period" "ChronoPeriod") ∈ lw_tbl := lw_at lw_m4 130 rfl
theorem q861 : (Jvm.Cond.castable "Period" "java/lang/Object") ∈ lw_tbl := lw_at lw_m4 135 rfl
theorem in_X2 : ∀ w ∈ wsX20, w ∈ lw_all := lw_in wsX20 [74, 76, 78] (by decide +kernel) (by decide +kernel)
/-! Jdk8Methods -/
set_option maxRecDepth 100000
def RX7 : String := "Jdk8Methods"
abbrev cX7_requireNonNull : ByteArray := prog_7_method_1_code
def yX7_requireNonNull : MethodName := ⟨RX7, "requireNonNull", "(Ljava/lang/Object;Ljava/lang/String;)Ljava/lang/Object;"⟩
def dkwX7_requireNonNull_0 : List UInt8 := [42, 199, 0, 13, 187, 0, 1, 89, 18, 3, 183, 0, 5, 191, 42, 176]
abbrev dktX7_requireNonNull_0 : List UInt8 := dkwX7_requireNonNull_0 ++ []
theorem dksX7_requireNonNull_0 : cX7_requireNonNull.data.toList.drop 0 = dktX7_requireNonNull_0 := by decide +kernel
theorem dX7_requireNonNull_0 : decode cX7_requireNonNull 0 = .ok (.aload_n 0, 1) := dk_42 (dk_at dksX7_requireNonNull_0 0 rfl rfl)
theorem dX7_requireNonNull_1 : decode cX7_requireNonNull 1 = .ok (.ifnonnull 13, 3) := dk_199 0 13 (dk_at dksX7_requireNonNull_0 1 rfl rfl)
theorem dX7_requireNonNull_4 : decode cX7_requireNonNull 4 = .ok (.new 1, 3) := dk_187 0 1 (dk_at dksX7_requireNonNull_0 4 rfl rfl)
theorem dX7_requireNonNull_7 : decode cX7_requireNonNull 7 = .ok (.dup, 1) := dk_89 (dk_at dksX7_requireNonNull_0 7 rfl rfl)
theorem dX7_requireNonNull_8 : decode cX7_requireNonNull 8 = .ok (.ldc 3, 2) := dk_18 3 (dk_at dksX7_requireNonNull_0 8 rfl rfl)
theorem dX7_requireNonNull_10 : decode cX7_requireNonNull 10 = .ok (.invokespecial 5, 3) := dk_183 0 5 (dk_at dksX7_requireNonNull_0 10 rfl rfl)
theorem dX7_requireNonNull_13 : decode cX7_requireNonNull 13 = .ok (.athrow, 1) := dk_191 (dk_at dksX7_requireNonNull_0 13 rfl rfl)
theorem dX7_requireNonNull_14 : decode cX7_requireNonNull 14 = .ok (.aload_n 0, 1) := dk_42 (dk_at dksX7_requireNonNull_0 14 rfl rfl)
theorem dX7_requireNonNull_15 : decode cX7_requireNonNull 15 = .ok (.areturn, 1) := dk_176 (dk_at dksX7_requireNonNull_0 15 rfl rfl)
abbrev cX7_safeToInt : ByteArray := prog_7_method_6_code
def yX7_safeToInt : MethodName := ⟨RX7, "safeToInt", "(J)I"⟩
def dkwX7_safeToInt_1 : List UInt8 := [183, 0, 11, 191, 30, 136, 172]
abbrev dktX7_safeToInt_1 : List UInt8 := dkwX7_safeToInt_1 ++ []
def dkwX7_safeToInt_0 : List UInt8 := [30, 20, 0, 16, 148, 157, 0, 11, 30, 20, 0, 14, 148, 156, 0, 13, 187, 0, 9, 89, 18, 3]
abbrev dktX7_safeToInt_0 : List UInt8 := dkwX7_safeToInt_0 ++ dktX7_safeToInt_1
theorem dksX7_safeToInt_0 : cX7_safeToInt.data.toList.drop 0 = dktX7_safeToInt_0 := by decide +kernel
theorem dksX7_safeToInt_1 : cX7_safeToInt.data.toList.drop 22 = dktX7_safeToInt_1 := dk_seg dksX7_safeToInt_0 22 rfl rfl
theorem dX7_safeToInt_0 : decode cX7_safeToInt 0 = .ok (.lload_n 0, 1) := dk_30 (dk_at dksX7_safeToInt_0 0 rfl rfl)
theorem dX7_safeToInt_1 : decode cX7_safeToInt 1 = .ok (.ldc2_w 16, 3) := dk_20 0 16 (dk_at dksX7_safeToInt_0 1 rfl rfl)
theorem dX7_safeToInt_4 : decode cX7_safeToInt 4 = .ok (.lcmp, 1) := dk_148 (dk_at dksX7_safeToInt_0 4 rfl rfl)
theorem dX7_safeToInt_5 : decode cX7_safeToInt 5 = .ok (.ifCond .gt 11, 3) := dk_157 0 11 (dk_at dksX7_safeToInt_0 5 rfl rfl)
theorem dX7_safeToInt_8 : decode cX7_safeToInt 8 = .ok (.lload_n 0, 1) := dk_30 (dk_at dksX7_safeToInt_0 8 rfl rfl)
theorem dX7_safeToInt_9 : decode cX7_safeToInt 9 = .ok (.ldc2_w 14, 3) := dk_20 0 14 (dk_at dksX7_safeToInt_0 9 rfl rfl)
theorem dX7_safeToInt_12 : decode cX7_safeToInt 12 = .ok (.lcmp, 1) := dk_148 (dk_at dksX7_safeToInt_0 12 rfl rfl)
theorem dX7_safeToInt_13 : decode cX7_safeToInt 13 = .ok (.ifCond .ge 13, 3) := dk_156 0 13 (dk_at dksX7_safeToInt_0 13 rfl rfl)
theorem dX7_safeToInt_16 : decode cX7_safeToInt 16 = .ok (.new 9, 3) := dk_187 0 9 (dk_at dksX7_safeToInt_0 16 rfl rfl)
theorem dX7_safeToInt_19 : decode cX7_safeToInt 19 = .ok (.dup, 1) := dk_89 (dk_at dksX7_safeToInt_0 19 rfl rfl)
theorem dX7_safeToInt_20 : decode cX7_safeToInt 20 = .ok (.ldc 3, 2) := dk_18 3 (dk_at dksX7_safeToInt_0 20 rfl rfl)
theorem dX7_safeToInt_22 : decode cX7_safeToInt 22 = .ok (.invokespecial 11, 3) := dk_183 0 11 (dk_at dksX7_safeToInt_1 0 rfl rfl)
theorem dX7_safeToInt_25 : decode cX7_safeToInt 25 = .ok (.athrow, 1) := dk_191 (dk_at dksX7_safeToInt_1 3 rfl rfl)
theorem dX7_safeToInt_26 : decode cX7_safeToInt 26 = .ok (.lload_n 0, 1) := dk_30 (dk_at dksX7_safeToInt_1 4 rfl rfl)
theorem dX7_safeToInt_27 : decode cX7_safeToInt 27 = .ok (.l2i, 1) := dk_136 (dk_at dksX7_safeToInt_1 5 rfl rfl)
theorem dX7_safeToInt_28 : decode cX7_safeToInt 28 = .ok (.ireturn, 1) := dk_172 (dk_at dksX7_safeToInt_1 6 rfl rfl)
abbrev cX7_safeAdd : ByteArray := prog_7_method_2_code
def yX7_safeAdd : MethodName := ⟨RX7, "safeAdd", "(II)I"⟩
def dkwX7_safeAdd_1 : List UInt8 := [183, 0, 11, 191, 28, 172]
abbrev dktX7_safeAdd_1 : List UInt8 := dkwX7_safeAdd_1 ++ []
def dkwX7_safeAdd_0 : List UInt8 := [26, 27, 96, 61, 26, 28, 130, 156, 0, 19, 26, 27, 130, 155, 0, 13, 187, 0, 9, 89, 18, 3]
abbrev dktX7_safeAdd_0 : List UInt8 := dkwX7_safeAdd_0 ++ dktX7_safeAdd_1
theorem dksX7_safeAdd_0 : cX7_safeAdd.data.toList.drop 0 = dktX7_safeAdd_0 := by decide +kernel
theorem dksX7_safeAdd_1 : cX7_safeAdd.data.toList.drop 22 = dktX7_safeAdd_1 := dk_seg dksX7_safeAdd_0 22 rfl rfl
theorem dX7_safeAdd_0 : decode cX7_safeAdd 0 = .ok (.iload_n 0, 1) := dk_26 (dk_at dksX7_safeAdd_0 0 rfl rfl)
theorem dX7_safeAdd_1 : decode cX7_safeAdd 1 = .ok (.iload_n 1, 1) := dk_27 (dk_at dksX7_safeAdd_0 1 rfl rfl)
theorem dX7_safeAdd_2 : decode cX7_safeAdd 2 = .ok (.iadd, 1) := dk_96 (dk_at dksX7_safeAdd_0 2 rfl rfl)
theorem dX7_safeAdd_3 : decode cX7_safeAdd 3 = .ok (.istore_n 2, 1) := dk_61 (dk_at dksX7_safeAdd_0 3 rfl rfl)
theorem dX7_safeAdd_4 : decode cX7_safeAdd 4 = .ok (.iload_n 0, 1) := dk_26 (dk_at dksX7_safeAdd_0 4 rfl rfl)
theorem dX7_safeAdd_5 : decode cX7_safeAdd 5 = .ok (.iload_n 2, 1) := dk_28 (dk_at dksX7_safeAdd_0 5 rfl rfl)
theorem dX7_safeAdd_6 : decode cX7_safeAdd 6 = .ok (.ixor, 1) := dk_130 (dk_at dksX7_safeAdd_0 6 rfl rfl)
theorem dX7_safeAdd_7 : decode cX7_safeAdd 7 = .ok (.ifCond .ge 19, 3) := dk_156 0 19 (dk_at dksX7_safeAdd_0 7 rfl rfl)
theorem dX7_safeAdd_10 : decode cX7_safeAdd 10 = .ok (.iload_n 0, 1) := dk_26 (dk_at dksX7_safeAdd_0 10 rfl rfl)
theorem dX7_safeAdd_11 : decode cX7_safeAdd 11 = .ok (.iload_n 1, 1) := dk_27 (dk_at dksX7_safeAdd_0 11 rfl rfl)
theorem dX7_safeAdd_12 : decode cX7_safeAdd 12 = .ok (.ixor, 1) := dk_130 (dk_at dksX7_safeAdd_0 12 rfl rfl)
theorem dX7_safeAdd_13 : decode cX7_safeAdd 13 = .ok (.ifCond .lt 13, 3) := dk_155 0 13 (dk_at dksX7_safeAdd_0 13 rfl rfl)
theorem dX7_safeAdd_16 : decode cX7_safeAdd 16 = .ok (.new 9, 3) := dk_187 0 9 (dk_at dksX7_safeAdd_0 16 rfl rfl)
theorem dX7_safeAdd_19 : decode cX7_safeAdd 19 = .ok (.dup, 1) := dk_89 (dk_at dksX7_safeAdd_0 19 rfl rfl)
theorem dX7_safeAdd_20 : decode cX7_safeAdd 20 = .ok (.ldc 3, 2) := dk_18 3 (dk_at dksX7_safeAdd_0 20 rfl rfl)
theorem dX7_safeAdd_22 : decode cX7_safeAdd 22 = .ok (.invokespecial 11, 3) := dk_183 0 11 (dk_at dksX7_safeAdd_1 0 rfl rfl)
theorem dX7_safeAdd_25 : decode cX7_safeAdd 25 = .ok (.athrow, 1) := dk_191 (dk_at dksX7_safeAdd_1 3 rfl rfl)
theorem dX7_safeAdd_26 : decode cX7_safeAdd 26 = .ok (.iload_n 2, 1) := dk_28 (dk_at dksX7_safeAdd_1 4 rfl rfl)
theorem dX7_safeAdd_27 : decode cX7_safeAdd 27 = .ok (.ireturn, 1) := dk_172 (dk_at dksX7_safeAdd_1 5 rfl rfl)
abbrev cX7_safeSubtract : ByteArray := prog_7_method_4_code
def yX7_safeSubtract : MethodName := ⟨RX7, "safeSubtract", "(II)I"⟩
def dkwX7_safeSubtract_1 : List UInt8 := [183, 0, 11, 191, 28, 172]
abbrev dktX7_safeSubtract_1 : List UInt8 := dkwX7_safeSubtract_1 ++ []
def dkwX7_safeSubtract_0 : List UInt8 := [26, 27, 100, 61, 26, 28, 130, 156, 0, 19, 26, 27, 130, 156, 0, 13, 187, 0, 9, 89, 18, 3]
abbrev dktX7_safeSubtract_0 : List UInt8 := dkwX7_safeSubtract_0 ++ dktX7_safeSubtract_1
theorem dksX7_safeSubtract_0 : cX7_safeSubtract.data.toList.drop 0 = dktX7_safeSubtract_0 := by decide +kernel
theorem dksX7_safeSubtract_1 : cX7_safeSubtract.data.toList.drop 22 = dktX7_safeSubtract_1 := dk_seg dksX7_safeSubtract_0 22 rfl rfl
theorem dX7_safeSubtract_0 : decode cX7_safeSubtract 0 = .ok (.iload_n 0, 1) := dk_26 (dk_at dksX7_safeSubtract_0 0 rfl rfl)
theorem dX7_safeSubtract_1 : decode cX7_safeSubtract 1 = .ok (.iload_n 1, 1) := dk_27 (dk_at dksX7_safeSubtract_0 1 rfl rfl)
theorem dX7_safeSubtract_2 : decode cX7_safeSubtract 2 = .ok (.isub, 1) := dk_100 (dk_at dksX7_safeSubtract_0 2 rfl rfl)
theorem dX7_safeSubtract_3 : decode cX7_safeSubtract 3 = .ok (.istore_n 2, 1) := dk_61 (dk_at dksX7_safeSubtract_0 3 rfl rfl)
theorem dX7_safeSubtract_4 : decode cX7_safeSubtract 4 = .ok (.iload_n 0, 1) := dk_26 (dk_at dksX7_safeSubtract_0 4 rfl rfl)
theorem dX7_safeSubtract_5 : decode cX7_safeSubtract 5 = .ok (.iload_n 2, 1) := dk_28 (dk_at dksX7_safeSubtract_0 5 rfl rfl)
theorem dX7_safeSubtract_6 : decode cX7_safeSubtract 6 = .ok (.ixor, 1) := dk_130 (dk_at dksX7_safeSubtract_0 6 rfl rfl)
theorem dX7_safeSubtract_7 : decode cX7_safeSubtract 7 = .ok (.ifCond .ge 19, 3) := dk_156 0 19 (dk_at dksX7_safeSubtract_0 7 rfl rfl)
theorem dX7_safeSubtract_10 : decode cX7_safeSubtract 10 = .ok (.iload_n 0, 1) := dk_26 (dk_at dksX7_safeSubtract_0 10 rfl rfl)
theorem dX7_safeSubtract_11 : decode cX7_safeSubtract 11 = .ok (.iload_n 1, 1) := dk_27 (dk_at dksX7_safeSubtract_0 11 rfl rfl)
theorem dX7_safeSubtract_12 : decode cX7_safeSubtract 12 = .ok (.ixor, 1) := dk_130 (dk_at dksX7_safeSubtract_0 12 rfl rfl)
theorem dX7_safeSubtract_13 : decode cX7_safeSubtract 13 = .ok (.ifCond .ge 13, 3) := dk_156 0 13 (dk_at dksX7_safeSubtract_0 13 rfl rfl)
theorem dX7_safeSubtract_16 : decode cX7_safeSubtract 16 = .ok (.new 9, 3) := dk_187 0 9 (dk_at dksX7_safeSubtract_0 16 rfl rfl)
theorem dX7_safeSubtract_19 : decode cX7_safeSubtract 19 = .ok (.dup, 1) := dk_89 (dk_at dksX7_safeSubtract_0 19 rfl rfl)
theorem dX7_safeSubtract_20 : decode cX7_safeSubtract 20 = .ok (.ldc 3, 2) := dk_18 3 (dk_at dksX7_safeSubtract_0 20 rfl rfl)
theorem dX7_safeSubtract_22 : decode cX7_safeSubtract 22 = .ok (.invokespecial 11, 3) := dk_183 0 11 (dk_at dksX7_safeSubtract_1 0 rfl rfl)
theorem dX7_safeSubtract_25 : decode cX7_safeSubtract 25 = .ok (.athrow, 1) := dk_191 (dk_at dksX7_safeSubtract_1 3 rfl rfl)
theorem dX7_safeSubtract_26 : decode cX7_safeSubtract 26 = .ok (.iload_n 2, 1) := dk_28 (dk_at dksX7_safeSubtract_1 4 rfl rfl)
theorem dX7_safeSubtract_27 : decode cX7_safeSubtract 27 = .ok (.ireturn, 1) := dk_172 (dk_at dksX7_safeSubtract_1 5 rfl rfl)
abbrev cX7_safeMultiply : ByteArray := prog_7_method_5_code
def yX7_safeMultiply : MethodName := ⟨RX7, "safeMultiply", "(II)I"⟩
def dkwX7_safeMultiply_1 : List UInt8 := [187, 0, 9, 89, 18, 3, 183, 0, 11, 191, 32, 136, 172]
abbrev dktX7_safeMultiply_1 : List UInt8 := dkwX7_safeMultiply_1 ++ []
def dkwX7_safeMultiply_0 : List UInt8 := [26, 133, 27, 133, 105, 65, 32, 20, 0, 14, 148, 155, 0, 11, 32, 20, 0, 16, 148, 158, 0, 13]
abbrev dktX7_safeMultiply_0 : List UInt8 := dkwX7_safeMultiply_0 ++ dktX7_safeMultiply_1
theorem dksX7_safeMultiply_0 : cX7_safeMultiply.data.toList.drop 0 = dktX7_safeMultiply_0 := by decide +kernel
theorem dksX7_safeMultiply_1 : cX7_safeMultiply.data.toList.drop 22 = dktX7_safeMultiply_1 := dk_seg dksX7_safeMultiply_0 22 rfl rfl
theorem dX7_safeMultiply_0 : decode cX7_safeMultiply 0 = .ok (.iload_n 0, 1) := dk_26 (dk_at dksX7_safeMultiply_0 0 rfl rfl)
theorem dX7_safeMultiply_1 : decode cX7_safeMultiply 1 = .ok (.i2l, 1) := dk_133 (dk_at dksX7_safeMultiply_0 1 rfl rfl)
theorem dX7_safeMultiply_2 : decode cX7_safeMultiply 2 = .ok (.iload_n 1, 1) := dk_27 (dk_at dksX7_safeMultiply_0 2 rfl rfl)
theorem dX7_safeMultiply_3 : decode cX7_safeMultiply 3 = .ok (.i2l, 1) := dk_133 (dk_at dksX7_safeMultiply_0 3 rfl rfl)
theorem dX7_safeMultiply_4 : decode cX7_safeMultiply 4 = .ok (.lmul, 1) := dk_105 (dk_at dksX7_safeMultiply_0 4 rfl rfl)
theorem dX7_safeMultiply_5 : decode cX7_safeMultiply 5 = .ok (.lstore_n 2, 1) := dk_65 (dk_at dksX7_safeMultiply_0 5 rfl rfl)
theorem dX7_safeMultiply_6 : decode cX7_safeMultiply 6 = .ok (.lload_n 2, 1) := dk_32 (dk_at dksX7_safeMultiply_0 6 rfl rfl)
theorem dX7_safeMultiply_7 : decode cX7_safeMultiply 7 = .ok (.ldc2_w 14, 3) := dk_20 0 14 (dk_at dksX7_safeMultiply_0 7 rfl rfl)
theorem dX7_safeMultiply_10 : decode cX7_safeMultiply 10 = .ok (.lcmp, 1) := dk_148 (dk_at dksX7_safeMultiply_0 10 rfl rfl)
theorem dX7_safeMultiply_11 : decode cX7_safeMultiply 11 = .ok (.ifCond .lt 11, 3) := dk_155 0 11 (dk_at dksX7_safeMultiply_0 11 rfl rfl)
theorem dX7_safeMultiply_14 : decode cX7_safeMultiply 14 = .ok (.lload_n 2, 1) := dk_32 (dk_at dksX7_safeMultiply_0 14 rfl rfl)
theorem dX7_safeMultiply_15 : decode cX7_safeMultiply 15 = .ok (.ldc2_w 16, 3) := dk_20 0 16 (dk_at dksX7_safeMultiply_0 15 rfl rfl)
theorem dX7_safeMultiply_18 : decode cX7_safeMultiply 18 = .ok (.lcmp, 1) := dk_148 (dk_at dksX7_safeMultiply_0 18 rfl rfl)
theorem dX7_safeMultiply_19 : decode cX7_safeMultiply 19 = .ok (.ifCond .le 13, 3) := dk_158 0 13 (dk_at dksX7_safeMultiply_0 19 rfl rfl)
theorem dX7_safeMultiply_22 : decode cX7_safeMultiply 22 = .ok (.new 9, 3) := dk_187 0 9 (dk_at dksX7_safeMultiply_1 0 rfl rfl)
theorem dX7_safeMultiply_25 : decode cX7_safeMultiply 25 = .ok (.dup, 1) := dk_89 (dk_at dksX7_safeMultiply_1 3 rfl rfl)
theorem dX7_safeMultiply_26 : decode cX7_safeMultiply 26 = .ok (.ldc 3, 2) := dk_18 3 (dk_at dksX7_safeMultiply_1 4 rfl rfl)
theorem dX7_safeMultiply_28 : decode cX7_safeMultiply 28 = .ok (.invokespecial 11, 3) := dk_183 0 11 (dk_at dksX7_safeMultiply_1 6 rfl rfl)
theorem dX7_safeMultiply_31 : decode cX7_safeMultiply 31 = .ok (.athrow, 1) := dk_191 (dk_at dksX7_safeMultiply_1 9 rfl rfl)
theorem dX7_safeMultiply_32 : decode cX7_safeMultiply 32 = .ok (.lload_n 2, 1) := dk_32 (dk_at dksX7_safeMultiply_1 10 rfl rfl)
theorem dX7_safeMultiply_33 : decode cX7_safeMultiply 33 = .ok (.l2i, 1) := dk_136 (dk_at dksX7_safeMultiply_1 11 rfl rfl)
theorem dX7_safeMultiply_34 : decode cX7_safeMultiply 34 = .ok (.ireturn, 1) := dk_172 (dk_at dksX7_safeMultiply_1 12 rfl rfl)
abbrev cX7_safeAdd_2 : ByteArray := prog_7_method_3_code
def yX7_safeAdd_2 : MethodName := ⟨RX7, "safeAdd", "(JJ)J"⟩
def dkwX7_safeAdd_2_1 : List UInt8 := [187, 0, 9, 89, 18, 3, 183, 0, 11, 191, 22, 4, 173]
abbrev dktX7_safeAdd_2_1 : List UInt8 := dkwX7_safeAdd_2_1 ++ []
def dkwX7_safeAdd_2_0 : List UInt8 := [30, 32, 97, 55, 4, 30, 22, 4, 131, 9, 148, 156, 0, 21, 30, 32, 131, 9, 148, 155, 0, 13]
abbrev dktX7_safeAdd_2_0 : List UInt8 := dkwX7_safeAdd_2_0 ++ dktX7_safeAdd_2_1
theorem dksX7_safeAdd_2_0 : cX7_safeAdd_2.data.toList.drop 0 = dktX7_safeAdd_2_0 := by decide +kernel
theorem dksX7_safeAdd_2_1 : cX7_safeAdd_2.data.toList.drop 22 = dktX7_safeAdd_2_1 := dk_seg dksX7_safeAdd_2_0 22 rfl rfl
theorem dX7_safeAdd_2_0 : decode cX7_safeAdd_2 0 = .ok (.lload_n 0, 1) := dk_30 (dk_at dksX7_safeAdd_2_0 0 rfl rfl)
theorem dX7_safeAdd_2_1 : decode cX7_safeAdd_2 1 = .ok (.lload_n 2, 1) := dk_32 (dk_at dksX7_safeAdd_2_0 1 rfl rfl)
theorem dX7_safeAdd_2_2 : decode cX7_safeAdd_2 2 = .ok (.ladd, 1) := dk_97 (dk_at dksX7_safeAdd_2_0 2 rfl rfl)
theorem dX7_safeAdd_2_3 : decode cX7_safeAdd_2 3 = .ok (.lstore 4, 2) := dk_55 4 (dk_at dksX7_safeAdd_2_0 3 rfl rfl)
theorem dX7_safeAdd_2_5 : decode cX7_safeAdd_2 5 = .ok (.lload_n 0, 1) := dk_30 (dk_at dksX7_safeAdd_2_0 5 rfl rfl)
theorem dX7_safeAdd_2_6 : decode cX7_safeAdd_2 6 = .ok (.lload 4, 2) := dk_22 4 (dk_at dksX7_safeAdd_2_0 6 rfl rfl)
theorem dX7_safeAdd_2_8 : decode cX7_safeAdd_2 8 = .ok (.lxor, 1) := dk_131 (dk_at dksX7_safeAdd_2_0 8 rfl rfl)
theorem dX7_safeAdd_2_9 : decode cX7_safeAdd_2 9 = .ok (.lconst 0, 1) := dk_9 (dk_at dksX7_safeAdd_2_0 9 rfl rfl)
theorem dX7_safeAdd_2_10 : decode cX7_safeAdd_2 10 = .ok (.lcmp, 1) := dk_148 (dk_at dksX7_safeAdd_2_0 10 rfl rfl)
theorem dX7_safeAdd_2_11 : decode cX7_safeAdd_2 11 = .ok (.ifCond .ge 21, 3) := dk_156 0 21 (dk_at dksX7_safeAdd_2_0 11 rfl rfl)
theorem dX7_safeAdd_2_14 : decode cX7_safeAdd_2 14 = .ok (.lload_n 0, 1) := dk_30 (dk_at dksX7_safeAdd_2_0 14 rfl rfl)
theorem dX7_safeAdd_2_15 : decode cX7_safeAdd_2 15 = .ok (.lload_n 2, 1) := dk_32 (dk_at dksX7_safeAdd_2_0 15 rfl rfl)
theorem dX7_safeAdd_2_16 : decode cX7_safeAdd_2 16 = .ok (.lxor, 1) := dk_131 (dk_at dksX7_safeAdd_2_0 16 rfl rfl)
theorem dX7_safeAdd_2_17 : decode cX7_safeAdd_2 17 = .ok (.lconst 0, 1) := dk_9 (dk_at dksX7_safeAdd_2_0 17 rfl rfl)
theorem dX7_safeAdd_2_18 : decode cX7_safeAdd_2 18 = .ok (.lcmp, 1) := dk_148 (dk_at dksX7_safeAdd_2_0 18 rfl rfl)
theorem dX7_safeAdd_2_19 : decode cX7_safeAdd_2 19 = .ok (.ifCond .lt 13, 3) := dk_155 0 13 (dk_at dksX7_safeAdd_2_0 19 rfl rfl)
theorem dX7_safeAdd_2_22 : decode cX7_safeAdd_2 22 = .ok (.new 9, 3) := dk_187 0 9 (dk_at dksX7_safeAdd_2_1 0 rfl rfl)
theorem dX7_safeAdd_2_25 : decode cX7_safeAdd_2 25 = .ok (.dup, 1) := dk_89 (dk_at dksX7_safeAdd_2_1 3 rfl rfl)
theorem dX7_safeAdd_2_26 : decode cX7_safeAdd_2 26 = .ok (.ldc 3, 2) := dk_18 3 (dk_at dksX7_safeAdd_2_1 4 rfl rfl)
theorem dX7_safeAdd_2_28 : decode cX7_safeAdd_2 28 = .ok (.invokespecial 11, 3) := dk_183 0 11 (dk_at dksX7_safeAdd_2_1 6 rfl rfl)
theorem dX7_safeAdd_2_31 : decode cX7_safeAdd_2 31 = .ok (.athrow, 1) := dk_191 (dk_at dksX7_safeAdd_2_1 9 rfl rfl)
theorem dX7_safeAdd_2_32 : decode cX7_safeAdd_2 32 = .ok (.lload 4, 2) := dk_22 4 (dk_at dksX7_safeAdd_2_1 10 rfl rfl)
theorem dX7_safeAdd_2_34 : decode cX7_safeAdd_2 34 = .ok (.lreturn, 1) := dk_173 (dk_at dksX7_safeAdd_2_1 12 rfl rfl)
theorem q27 : (Jvm.Cond.initialized "Jdk8Methods") ∈ lw_all := lw_g (lw_at lw_m1 21 rfl) rfl
theorem q394 : (Jvm.Cond.static ({ cls := "Jdk8Methods", name := "requireNonNull", desc := "(Ljava/lang/Object;Ljava/lang/String;)Ljava/lang/Object;" } : Jvm.MethodName)) ∈ lw_all := lw_g (lw_at lw_m2 148 rfl) rfl
theorem q395 : (Jvm.Cond.code ({ cls := "Jdk8Methods", name := "requireNonNull", desc := "(Ljava/lang/Object;Ljava/lang/String;)Ljava/lang/Object;" } : Jvm.MethodName) prog_7_method_1_code (2 : Nat) (Option.some (Jvm.ClassFile.FieldType.object "java/lang/Object"))) ∈ lw_all := lw_g (lw_at lw_m2 149 rfl) rfl
theorem q396 : (Jvm.Cond.classLink "Jdk8Methods" (1 : Nat) "java/lang/NullPointerException") ∈ lw_all := lw_g (lw_at lw_m2 150 rfl) rfl
theorem q397 : (Jvm.Cond.stringRef "Jdk8Methods" (3 : Nat) "left out") ∈ lw_tbl := lw_at lw_m2 151 rfl
theorem q398 : (Jvm.Cond.methodLink "Jdk8Methods" (5 : Nat) ({ cls := "java/lang/NullPointerException", name := "<init>", desc := "(Ljava/lang/String;)V" } : Jvm.MethodName)) ∈ lw_all := lw_g (lw_at lw_m2 152 rfl) rfl
theorem q640 : (Jvm.Cond.static ({ cls := "Jdk8Methods", name := "safeToInt", desc := "(J)I" } : Jvm.MethodName)) ∈ lw_all := lw_g (lw_at lw_m3 154 rfl) rfl
theorem q641 : (Jvm.Cond.code ({ cls := "Jdk8Methods", name := "safeToInt", desc := "(J)I" } : Jvm.MethodName) prog_7_method_6_code (2 : Nat) (Option.some Jvm.ClassFile.FieldType.int)) ∈ lw_all := lw_g (lw_at lw_m3 155 rfl) rfl
theorem q642 : (Jvm.Cond.constantLong "Jdk8Methods" (16 : Nat) (2147483647 : Int64)) ∈ lw_all := lw_g (lw_at lw_m3 156 rfl) rfl
theorem q643 : (Jvm.Cond.constantLong "Jdk8Methods" (14 : Nat) (-2147483648 : Int64)) ∈ lw_all := lw_g (lw_at lw_m3 157 rfl) rfl
theorem q644 : (Jvm.Cond.classLink "Jdk8Methods" (9 : Nat) "java/lang/ArithmeticException") ∈ lw_all := lw_g (lw_at lw_m3 158 rfl) rfl
theorem q653 : (Jvm.Cond.methodLink "Jdk8Methods" (11 : Nat) ({ cls := "java/lang/ArithmeticException", name := "<init>", desc := "(Ljava/lang/String;)V" } : Jvm.MethodName)) ∈ lw_all := lw_g (lw_at lw_m3 167 rfl) rfl
theorem q660 : (Jvm.Cond.static ({ cls := "Jdk8Methods", name := "safeAdd", desc := "(II)I" } : Jvm.MethodName)) ∈ lw_all := lw_g (lw_at lw_m3 174 rfl) rfl
theorem q661 : (Jvm.Cond.code ({ cls := "Jdk8Methods", name := "safeAdd", desc := "(II)I" } : Jvm.MethodName) prog_7_method_2_code (3 : Nat) (Option.some Jvm.ClassFile.FieldType.int)) ∈ lw_all := lw_g (lw_at lw_m3 175 rfl) rfl
theorem q671 : (Jvm.Cond.static ({ cls := "Jdk8Methods", name := "safeSubtract", desc := "(II)I" } : Jvm.MethodName)) ∈ lw_all := lw_g (lw_at lw_m3 185 rfl) rfl
theorem q672 : (Jvm.Cond.code ({ cls := "Jdk8Methods", name := "safeSubtract", desc := "(II)I" } : Jvm.MethodName) prog_7_method_4_code (3 : Nat) (Option.some Jvm.ClassFile.FieldType.int)) ∈ lw_all := lw_g (lw_at lw_m3 186 rfl) rfl
theorem q682 : (Jvm.Cond.static ({ cls := "Jdk8Methods", name := "safeMultiply", desc := "(II)I" } : Jvm.MethodName)) ∈ lw_all := lw_g (lw_at lw_m3 196 rfl) rfl
theorem q683 : (Jvm.Cond.code ({ cls := "Jdk8Methods", name := "safeMultiply", desc := "(II)I" } : Jvm.MethodName) prog_7_method_5_code (4 : Nat) (Option.some Jvm.ClassFile.FieldType.int)) ∈ lw_all := lw_g (lw_at lw_m3 197 rfl) rfl
theorem q715 : (Jvm.Cond.static ({ cls := "Jdk8Methods", name := "safeAdd", desc := "(JJ)J" } : Jvm.MethodName)) ∈ lw_all := lw_g (lw_at lw_m3 229 rfl) rfl
theorem q716 : (Jvm.Cond.code ({ cls := "Jdk8Methods", name := "safeAdd", desc := "(JJ)J" } : Jvm.MethodName) prog_7_method_3_code (6 : Nat) (Option.some Jvm.ClassFile.FieldType.long)) ∈ lw_all := lw_g (lw_at lw_m3 230 rfl) rfl
/-! java/lang/Object -/
set_option maxRecDepth 100000
def RJ24 : String := "java/lang/Object"
abbrev cJ24_init : ByteArray := object_method_1_code
def yJ24_init : MethodName := ⟨RJ24, "<init>", "()V"⟩
theorem dJ24_init_0 : decode cJ24_init 0 = .ok (.return_, 1) := by decide +kernel
theorem q50 : (Jvm.Cond.instanceMethod ({ cls := "java/lang/Object", name := "<init>", desc := "()V" } : Jvm.MethodName)) ∈ lw_all := lw_g (lw_at lw_m1 44 rfl) rfl
theorem q51 : (Jvm.Cond.code ({ cls := "java/lang/Object", name := "<init>", desc := "()V" } : Jvm.MethodName) object_method_1_code (1 : Nat) (Option.none : Option Jvm.ClassFile.FieldType)) ∈ lw_all := lw_g (lw_at lw_m1 45 rfl) rfl
theorem q462 : (Jvm.Cond.declares ({ cls := "java/lang/Object", name := "getClass", desc := "()Ljava/lang/Class;" } : Jvm.MethodName)) ∈ lw_tbl := lw_at lw_m2 216 rfl
theorem q466 : (Jvm.Cond.instanceMethod ({ cls := "java/lang/Object", name := "getClass", desc := "()Ljava/lang/Class;" } : Jvm.MethodName)) ∈ lw_all := lw_g (lw_at lw_m2 220 rfl) rfl
theorem q467 : (Jvm.Cond.publicMethod ({ cls := "java/lang/Object", name := "getClass", desc := "()Ljava/lang/Class;" } : Jvm.MethodName)) ∈ lw_tbl := lw_at lw_m2 221 rfl
theorem q468 : (Jvm.Cond.native ({ cls := "java/lang/Object", name := "getClass", desc := "()Ljava/lang/Class;" } : Jvm.MethodName)) ∈ lw_all := lw_g (lw_at lw_m2 222 rfl) rfl
theorem q855 : (Jvm.Cond.initialized "java/lang/Object") ∈ lw_all := lw_g (lw_at lw_m4 129 rfl) rfl
end
section
/-! PeriodDesk -/
set_option maxRecDepth 100000
def RX0 : String := "PeriodDesk"
def TX0 : u_T := fun k => match k with
  | _ => ("PeriodDesk", "span", "[LPeriod;", true)
def tyX0 : Nat → FieldType := fun k => match k with
  | _ => .array (.object "Period")
abbrev wsX00 : List Cond := u_ws RX0 TX0 1
theorem nmX0 : ∀ a, a < 1 → ∀ b, b < 1 → a ≠ b → (TX0 a).2.1 ≠ (TX0 b).2.1 := by decide +kernel
theorem tyX0_ok : ∀ k, k < 1 → parseFieldDescriptor (TX0 k).2.2.1 = some (tyX0 k) := by decide +kernel
abbrev cX0_init : ByteArray := prog_9_method_1_code
def yX0_init : MethodName := ⟨RX0, "<init>", "()V"⟩
def dkwX0_init_1 : List UInt8 := [184, 0, 9, 83, 181, 0, 13, 177]
abbrev dktX0_init_1 : List UInt8 := dkwX0_init_1 ++ []
def dkwX0_init_0 : List UInt8 := [42, 183, 0, 1, 42, 5, 189, 0, 7, 89, 3, 3, 3, 3, 184, 0, 9, 83, 89, 4, 3, 3, 3]
abbrev dktX0_init_0 : List UInt8 := dkwX0_init_0 ++ dktX0_init_1
theorem dksX0_init_0 : cX0_init.data.toList.drop 0 = dktX0_init_0 := by decide +kernel
theorem dksX0_init_1 : cX0_init.data.toList.drop 23 = dktX0_init_1 := dk_seg dksX0_init_0 23 rfl rfl
theorem dX0_init_0 : decode cX0_init 0 = .ok (.aload_n 0, 1) := dk_42 (dk_at dksX0_init_0 0 rfl rfl)
theorem dX0_init_1 : decode cX0_init 1 = .ok (.invokespecial 1, 3) := dk_183 0 1 (dk_at dksX0_init_0 1 rfl rfl)
theorem dX0_init_4 : decode cX0_init 4 = .ok (.aload_n 0, 1) := dk_42 (dk_at dksX0_init_0 4 rfl rfl)
theorem dX0_init_5 : decode cX0_init 5 = .ok (.iconst 2, 1) := dk_5 (dk_at dksX0_init_0 5 rfl rfl)
theorem dX0_init_6 : decode cX0_init 6 = .ok (.anewarray 7, 3) := dk_189 0 7 (dk_at dksX0_init_0 6 rfl rfl)
theorem dX0_init_9 : decode cX0_init 9 = .ok (.dup, 1) := dk_89 (dk_at dksX0_init_0 9 rfl rfl)
theorem dX0_init_10 : decode cX0_init 10 = .ok (.iconst 0, 1) := dk_3 (dk_at dksX0_init_0 10 rfl rfl)
theorem dX0_init_11 : decode cX0_init 11 = .ok (.iconst 0, 1) := dk_3 (dk_at dksX0_init_0 11 rfl rfl)
theorem dX0_init_12 : decode cX0_init 12 = .ok (.iconst 0, 1) := dk_3 (dk_at dksX0_init_0 12 rfl rfl)
theorem dX0_init_13 : decode cX0_init 13 = .ok (.iconst 0, 1) := dk_3 (dk_at dksX0_init_0 13 rfl rfl)
theorem dX0_init_14 : decode cX0_init 14 = .ok (.invokestatic 9, 3) := dk_184 0 9 (dk_at dksX0_init_0 14 rfl rfl)
theorem dX0_init_17 : decode cX0_init 17 = .ok (.aastore, 1) := dk_83 (dk_at dksX0_init_0 17 rfl rfl)
theorem dX0_init_18 : decode cX0_init 18 = .ok (.dup, 1) := dk_89 (dk_at dksX0_init_0 18 rfl rfl)
theorem dX0_init_19 : decode cX0_init 19 = .ok (.iconst 1, 1) := dk_4 (dk_at dksX0_init_0 19 rfl rfl)
theorem dX0_init_20 : decode cX0_init 20 = .ok (.iconst 0, 1) := dk_3 (dk_at dksX0_init_0 20 rfl rfl)
theorem dX0_init_21 : decode cX0_init 21 = .ok (.iconst 0, 1) := dk_3 (dk_at dksX0_init_0 21 rfl rfl)
theorem dX0_init_22 : decode cX0_init 22 = .ok (.iconst 0, 1) := dk_3 (dk_at dksX0_init_0 22 rfl rfl)
theorem dX0_init_23 : decode cX0_init 23 = .ok (.invokestatic 9, 3) := dk_184 0 9 (dk_at dksX0_init_1 0 rfl rfl)
theorem dX0_init_26 : decode cX0_init 26 = .ok (.aastore, 1) := dk_83 (dk_at dksX0_init_1 3 rfl rfl)
theorem dX0_init_27 : decode cX0_init 27 = .ok (.putfield 13, 3) := dk_181 0 13 (dk_at dksX0_init_1 4 rfl rfl)
theorem dX0_init_30 : decode cX0_init 30 = .ok (.return_, 1) := dk_177 (dk_at dksX0_init_1 7 rfl rfl)
abbrev cX0_set : ByteArray := prog_9_method_3_code
def yX0_set : MethodName := ⟨RX0, "set", "(IIII)V"⟩
def dkwX0_set_1 : List UInt8 := [177]
abbrev dktX0_set_1 : List UInt8 := dkwX0_set_1 ++ []
def dkwX0_set_0 : List UInt8 := [42, 180, 0, 13, 27, 4, 126, 28, 184, 0, 20, 29, 184, 0, 20, 21, 4, 184, 0, 20, 184, 0, 9, 83]
abbrev dktX0_set_0 : List UInt8 := dkwX0_set_0 ++ dktX0_set_1
theorem dksX0_set_0 : cX0_set.data.toList.drop 0 = dktX0_set_0 := by decide +kernel
theorem dksX0_set_1 : cX0_set.data.toList.drop 24 = dktX0_set_1 := dk_seg dksX0_set_0 24 rfl rfl
theorem dX0_set_0 : decode cX0_set 0 = .ok (.aload_n 0, 1) := dk_42 (dk_at dksX0_set_0 0 rfl rfl)
theorem dX0_set_1 : decode cX0_set 1 = .ok (.getfield 13, 3) := dk_180 0 13 (dk_at dksX0_set_0 1 rfl rfl)
theorem dX0_set_4 : decode cX0_set 4 = .ok (.iload_n 1, 1) := dk_27 (dk_at dksX0_set_0 4 rfl rfl)
theorem dX0_set_5 : decode cX0_set 5 = .ok (.iconst 1, 1) := dk_4 (dk_at dksX0_set_0 5 rfl rfl)
theorem dX0_set_6 : decode cX0_set 6 = .ok (.iand, 1) := dk_126 (dk_at dksX0_set_0 6 rfl rfl)
theorem dX0_set_7 : decode cX0_set 7 = .ok (.iload_n 2, 1) := dk_28 (dk_at dksX0_set_0 7 rfl rfl)
theorem dX0_set_8 : decode cX0_set 8 = .ok (.invokestatic 20, 3) := dk_184 0 20 (dk_at dksX0_set_0 8 rfl rfl)
theorem dX0_set_11 : decode cX0_set 11 = .ok (.iload_n 3, 1) := dk_29 (dk_at dksX0_set_0 11 rfl rfl)
theorem dX0_set_12 : decode cX0_set 12 = .ok (.invokestatic 20, 3) := dk_184 0 20 (dk_at dksX0_set_0 12 rfl rfl)
theorem dX0_set_15 : decode cX0_set 15 = .ok (.iload 4, 2) := dk_21 4 (dk_at dksX0_set_0 15 rfl rfl)
theorem dX0_set_17 : decode cX0_set 17 = .ok (.invokestatic 20, 3) := dk_184 0 20 (dk_at dksX0_set_0 17 rfl rfl)
theorem dX0_set_20 : decode cX0_set 20 = .ok (.invokestatic 9, 3) := dk_184 0 9 (dk_at dksX0_set_0 20 rfl rfl)
theorem dX0_set_23 : decode cX0_set 23 = .ok (.aastore, 1) := dk_83 (dk_at dksX0_set_0 23 rfl rfl)
theorem dX0_set_24 : decode cX0_set 24 = .ok (.return_, 1) := dk_177 (dk_at dksX0_set_1 0 rfl rfl)
abbrev cX0_small : ByteArray := prog_9_method_2_code
def yX0_small : MethodName := ⟨RX0, "small", "(I)I"⟩
def dkwX0_small_0 : List UInt8 := [26, 18, 19, 112, 172]
abbrev dktX0_small_0 : List UInt8 := dkwX0_small_0 ++ []
theorem dksX0_small_0 : cX0_small.data.toList.drop 0 = dktX0_small_0 := by decide +kernel
theorem dX0_small_0 : decode cX0_small 0 = .ok (.iload_n 0, 1) := dk_26 (dk_at dksX0_small_0 0 rfl rfl)
theorem dX0_small_1 : decode cX0_small 1 = .ok (.ldc 19, 2) := dk_18 19 (dk_at dksX0_small_0 1 rfl rfl)
theorem dX0_small_3 : decode cX0_small 3 = .ok (.irem, 1) := dk_112 (dk_at dksX0_small_0 3 rfl rfl)
theorem dX0_small_4 : decode cX0_small 4 = .ok (.ireturn, 1) := dk_172 (dk_at dksX0_small_0 4 rfl rfl)
abbrev cX0_plus : ByteArray := prog_9_method_5_code
def yX0_plus : MethodName := ⟨RX0, "plus", "(I)Z"⟩
def dkwX0_plus_2 : List UInt8 := [172]
abbrev dktX0_plus_2 : List UInt8 := dkwX0_plus_2 ++ []
def dkwX0_plus_1 : List UInt8 := [126, 42, 180, 0, 13, 27, 4, 126, 50, 42, 180, 0, 13, 27, 2, 130, 4, 126, 50, 182, 0, 40, 83, 4]
abbrev dktX0_plus_1 : List UInt8 := dkwX0_plus_1 ++ dktX0_plus_2
def dkwX0_plus_0 : List UInt8 := [42, 3, 182, 0, 36, 153, 0, 11, 42, 4, 182, 0, 36, 154, 0, 5, 3, 172, 42, 180, 0, 13, 27, 4]
abbrev dktX0_plus_0 : List UInt8 := dkwX0_plus_0 ++ dktX0_plus_1
theorem dksX0_plus_0 : cX0_plus.data.toList.drop 0 = dktX0_plus_0 := by decide +kernel
theorem dksX0_plus_1 : cX0_plus.data.toList.drop 24 = dktX0_plus_1 := dk_seg dksX0_plus_0 24 rfl rfl
theorem dksX0_plus_2 : cX0_plus.data.toList.drop 48 = dktX0_plus_2 := dk_seg dksX0_plus_1 24 rfl rfl
theorem dX0_plus_0 : decode cX0_plus 0 = .ok (.aload_n 0, 1) := dk_42 (dk_at dksX0_plus_0 0 rfl rfl)
theorem dX0_plus_1 : decode cX0_plus 1 = .ok (.iconst 0, 1) := dk_3 (dk_at dksX0_plus_0 1 rfl rfl)
theorem dX0_plus_2 : decode cX0_plus 2 = .ok (.invokevirtual 36, 3) := dk_182 0 36 (dk_at dksX0_plus_0 2 rfl rfl)
theorem dX0_plus_5 : decode cX0_plus 5 = .ok (.ifCond .eq 11, 3) := dk_153 0 11 (dk_at dksX0_plus_0 5 rfl rfl)
theorem dX0_plus_8 : decode cX0_plus 8 = .ok (.aload_n 0, 1) := dk_42 (dk_at dksX0_plus_0 8 rfl rfl)
theorem dX0_plus_9 : decode cX0_plus 9 = .ok (.iconst 1, 1) := dk_4 (dk_at dksX0_plus_0 9 rfl rfl)
theorem dX0_plus_10 : decode cX0_plus 10 = .ok (.invokevirtual 36, 3) := dk_182 0 36 (dk_at dksX0_plus_0 10 rfl rfl)
theorem dX0_plus_13 : decode cX0_plus 13 = .ok (.ifCond .ne 5, 3) := dk_154 0 5 (dk_at dksX0_plus_0 13 rfl rfl)
theorem dX0_plus_16 : decode cX0_plus 16 = .ok (.iconst 0, 1) := dk_3 (dk_at dksX0_plus_0 16 rfl rfl)
theorem dX0_plus_17 : decode cX0_plus 17 = .ok (.ireturn, 1) := dk_172 (dk_at dksX0_plus_0 17 rfl rfl)
theorem dX0_plus_18 : decode cX0_plus 18 = .ok (.aload_n 0, 1) := dk_42 (dk_at dksX0_plus_0 18 rfl rfl)
theorem dX0_plus_19 : decode cX0_plus 19 = .ok (.getfield 13, 3) := dk_180 0 13 (dk_at dksX0_plus_0 19 rfl rfl)
theorem dX0_plus_22 : decode cX0_plus 22 = .ok (.iload_n 1, 1) := dk_27 (dk_at dksX0_plus_0 22 rfl rfl)
theorem dX0_plus_23 : decode cX0_plus 23 = .ok (.iconst 1, 1) := dk_4 (dk_at dksX0_plus_0 23 rfl rfl)
theorem dX0_plus_24 : decode cX0_plus 24 = .ok (.iand, 1) := dk_126 (dk_at dksX0_plus_1 0 rfl rfl)
theorem dX0_plus_25 : decode cX0_plus 25 = .ok (.aload_n 0, 1) := dk_42 (dk_at dksX0_plus_1 1 rfl rfl)
theorem dX0_plus_26 : decode cX0_plus 26 = .ok (.getfield 13, 3) := dk_180 0 13 (dk_at dksX0_plus_1 2 rfl rfl)
theorem dX0_plus_29 : decode cX0_plus 29 = .ok (.iload_n 1, 1) := dk_27 (dk_at dksX0_plus_1 5 rfl rfl)
theorem dX0_plus_30 : decode cX0_plus 30 = .ok (.iconst 1, 1) := dk_4 (dk_at dksX0_plus_1 6 rfl rfl)
theorem dX0_plus_31 : decode cX0_plus 31 = .ok (.iand, 1) := dk_126 (dk_at dksX0_plus_1 7 rfl rfl)
theorem dX0_plus_32 : decode cX0_plus 32 = .ok (.aaload, 1) := dk_50 (dk_at dksX0_plus_1 8 rfl rfl)
theorem dX0_plus_33 : decode cX0_plus 33 = .ok (.aload_n 0, 1) := dk_42 (dk_at dksX0_plus_1 9 rfl rfl)
theorem dX0_plus_34 : decode cX0_plus 34 = .ok (.getfield 13, 3) := dk_180 0 13 (dk_at dksX0_plus_1 10 rfl rfl)
theorem dX0_plus_37 : decode cX0_plus 37 = .ok (.iload_n 1, 1) := dk_27 (dk_at dksX0_plus_1 13 rfl rfl)
theorem dX0_plus_38 : decode cX0_plus 38 = .ok (.iconst (-1), 1) := dk_2 (dk_at dksX0_plus_1 14 rfl rfl)
theorem dX0_plus_39 : decode cX0_plus 39 = .ok (.ixor, 1) := dk_130 (dk_at dksX0_plus_1 15 rfl rfl)
theorem dX0_plus_40 : decode cX0_plus 40 = .ok (.iconst 1, 1) := dk_4 (dk_at dksX0_plus_1 16 rfl rfl)
theorem dX0_plus_41 : decode cX0_plus 41 = .ok (.iand, 1) := dk_126 (dk_at dksX0_plus_1 17 rfl rfl)
theorem dX0_plus_42 : decode cX0_plus 42 = .ok (.aaload, 1) := dk_50 (dk_at dksX0_plus_1 18 rfl rfl)
theorem dX0_plus_43 : decode cX0_plus 43 = .ok (.invokevirtual 40, 3) := dk_182 0 40 (dk_at dksX0_plus_1 19 rfl rfl)
theorem dX0_plus_46 : decode cX0_plus 46 = .ok (.aastore, 1) := dk_83 (dk_at dksX0_plus_1 22 rfl rfl)
theorem dX0_plus_47 : decode cX0_plus 47 = .ok (.iconst 1, 1) := dk_4 (dk_at dksX0_plus_1 23 rfl rfl)
theorem dX0_plus_48 : decode cX0_plus 48 = .ok (.ireturn, 1) := dk_172 (dk_at dksX0_plus_2 0 rfl rfl)
abbrev cX0_room : ByteArray := prog_9_method_4_code
def yX0_room : MethodName := ⟨RX0, "room", "(I)Z"⟩
def dkwX0_room_2 : List UInt8 := [182, 0, 33, 18, 28, 162, 0, 16, 44, 182, 0, 33, 18, 29, 164, 0, 7, 4, 167, 0, 4, 3, 172]
abbrev dktX0_room_2 : List UInt8 := dkwX0_room_2 ++ []
def dkwX0_room_1 : List UInt8 := [164, 0, 43, 44, 182, 0, 30, 18, 28, 162, 0, 34, 44, 182, 0, 30, 18, 29, 164, 0, 25, 44]
abbrev dktX0_room_1 : List UInt8 := dkwX0_room_1 ++ dktX0_room_2
def dkwX0_room_0 : List UInt8 := [42, 180, 0, 13, 27, 4, 126, 50, 77, 44, 182, 0, 24, 18, 28, 162, 0, 52, 44, 182, 0, 24, 18, 29]
abbrev dktX0_room_0 : List UInt8 := dkwX0_room_0 ++ dktX0_room_1
theorem dksX0_room_0 : cX0_room.data.toList.drop 0 = dktX0_room_0 := by decide +kernel
theorem dksX0_room_1 : cX0_room.data.toList.drop 24 = dktX0_room_1 := dk_seg dksX0_room_0 24 rfl rfl
theorem dksX0_room_2 : cX0_room.data.toList.drop 46 = dktX0_room_2 := dk_seg dksX0_room_1 22 rfl rfl
theorem dX0_room_0 : decode cX0_room 0 = .ok (.aload_n 0, 1) := dk_42 (dk_at dksX0_room_0 0 rfl rfl)
theorem dX0_room_1 : decode cX0_room 1 = .ok (.getfield 13, 3) := dk_180 0 13 (dk_at dksX0_room_0 1 rfl rfl)
theorem dX0_room_4 : decode cX0_room 4 = .ok (.iload_n 1, 1) := dk_27 (dk_at dksX0_room_0 4 rfl rfl)
theorem dX0_room_5 : decode cX0_room 5 = .ok (.iconst 1, 1) := dk_4 (dk_at dksX0_room_0 5 rfl rfl)
theorem dX0_room_6 : decode cX0_room 6 = .ok (.iand, 1) := dk_126 (dk_at dksX0_room_0 6 rfl rfl)
theorem dX0_room_7 : decode cX0_room 7 = .ok (.aaload, 1) := dk_50 (dk_at dksX0_room_0 7 rfl rfl)
theorem dX0_room_8 : decode cX0_room 8 = .ok (.astore_n 2, 1) := dk_77 (dk_at dksX0_room_0 8 rfl rfl)
theorem dX0_room_9 : decode cX0_room 9 = .ok (.aload_n 2, 1) := dk_44 (dk_at dksX0_room_0 9 rfl rfl)
theorem dX0_room_10 : decode cX0_room 10 = .ok (.invokevirtual 24, 3) := dk_182 0 24 (dk_at dksX0_room_0 10 rfl rfl)
theorem dX0_room_13 : decode cX0_room 13 = .ok (.ldc 28, 2) := dk_18 28 (dk_at dksX0_room_0 13 rfl rfl)
theorem dX0_room_15 : decode cX0_room 15 = .ok (.if_icmp .ge 52, 3) := dk_162 0 52 (dk_at dksX0_room_0 15 rfl rfl)
theorem dX0_room_18 : decode cX0_room 18 = .ok (.aload_n 2, 1) := dk_44 (dk_at dksX0_room_0 18 rfl rfl)
theorem dX0_room_19 : decode cX0_room 19 = .ok (.invokevirtual 24, 3) := dk_182 0 24 (dk_at dksX0_room_0 19 rfl rfl)
theorem dX0_room_22 : decode cX0_room 22 = .ok (.ldc 29, 2) := dk_18 29 (dk_at dksX0_room_0 22 rfl rfl)
theorem dX0_room_24 : decode cX0_room 24 = .ok (.if_icmp .le 43, 3) := dk_164 0 43 (dk_at dksX0_room_1 0 rfl rfl)
theorem dX0_room_27 : decode cX0_room 27 = .ok (.aload_n 2, 1) := dk_44 (dk_at dksX0_room_1 3 rfl rfl)
theorem dX0_room_28 : decode cX0_room 28 = .ok (.invokevirtual 30, 3) := dk_182 0 30 (dk_at dksX0_room_1 4 rfl rfl)
theorem dX0_room_31 : decode cX0_room 31 = .ok (.ldc 28, 2) := dk_18 28 (dk_at dksX0_room_1 7 rfl rfl)
theorem dX0_room_33 : decode cX0_room 33 = .ok (.if_icmp .ge 34, 3) := dk_162 0 34 (dk_at dksX0_room_1 9 rfl rfl)
theorem dX0_room_36 : decode cX0_room 36 = .ok (.aload_n 2, 1) := dk_44 (dk_at dksX0_room_1 12 rfl rfl)
theorem dX0_room_37 : decode cX0_room 37 = .ok (.invokevirtual 30, 3) := dk_182 0 30 (dk_at dksX0_room_1 13 rfl rfl)
theorem dX0_room_40 : decode cX0_room 40 = .ok (.ldc 29, 2) := dk_18 29 (dk_at dksX0_room_1 16 rfl rfl)
theorem dX0_room_42 : decode cX0_room 42 = .ok (.if_icmp .le 25, 3) := dk_164 0 25 (dk_at dksX0_room_1 18 rfl rfl)
theorem dX0_room_45 : decode cX0_room 45 = .ok (.aload_n 2, 1) := dk_44 (dk_at dksX0_room_1 21 rfl rfl)
theorem dX0_room_46 : decode cX0_room 46 = .ok (.invokevirtual 33, 3) := dk_182 0 33 (dk_at dksX0_room_2 0 rfl rfl)
theorem dX0_room_49 : decode cX0_room 49 = .ok (.ldc 28, 2) := dk_18 28 (dk_at dksX0_room_2 3 rfl rfl)
theorem dX0_room_51 : decode cX0_room 51 = .ok (.if_icmp .ge 16, 3) := dk_162 0 16 (dk_at dksX0_room_2 5 rfl rfl)
theorem dX0_room_54 : decode cX0_room 54 = .ok (.aload_n 2, 1) := dk_44 (dk_at dksX0_room_2 8 rfl rfl)
theorem dX0_room_55 : decode cX0_room 55 = .ok (.invokevirtual 33, 3) := dk_182 0 33 (dk_at dksX0_room_2 9 rfl rfl)
theorem dX0_room_58 : decode cX0_room 58 = .ok (.ldc 29, 2) := dk_18 29 (dk_at dksX0_room_2 12 rfl rfl)
theorem dX0_room_60 : decode cX0_room 60 = .ok (.if_icmp .le 7, 3) := dk_164 0 7 (dk_at dksX0_room_2 14 rfl rfl)
theorem dX0_room_63 : decode cX0_room 63 = .ok (.iconst 1, 1) := dk_4 (dk_at dksX0_room_2 17 rfl rfl)
theorem dX0_room_64 : decode cX0_room 64 = .ok (.goto 4, 3) := dk_167 0 4 (dk_at dksX0_room_2 18 rfl rfl)
theorem dX0_room_67 : decode cX0_room 67 = .ok (.iconst 0, 1) := dk_3 (dk_at dksX0_room_2 21 rfl rfl)
theorem dX0_room_68 : decode cX0_room 68 = .ok (.ireturn, 1) := dk_172 (dk_at dksX0_room_2 22 rfl rfl)
abbrev cX0_minus : ByteArray := prog_9_method_6_code
def yX0_minus : MethodName := ⟨RX0, "minus", "(I)Z"⟩
def dkwX0_minus_2 : List UInt8 := [172]
abbrev dktX0_minus_2 : List UInt8 := dkwX0_minus_2 ++ []
def dkwX0_minus_1 : List UInt8 := [126, 42, 180, 0, 13, 27, 4, 126, 50, 42, 180, 0, 13, 27, 2, 130, 4, 126, 50, 182, 0, 44, 83, 4]
abbrev dktX0_minus_1 : List UInt8 := dkwX0_minus_1 ++ dktX0_minus_2
def dkwX0_minus_0 : List UInt8 := [42, 3, 182, 0, 36, 153, 0, 11, 42, 4, 182, 0, 36, 154, 0, 5, 3, 172, 42, 180, 0, 13, 27, 4]
abbrev dktX0_minus_0 : List UInt8 := dkwX0_minus_0 ++ dktX0_minus_1
theorem dksX0_minus_0 : cX0_minus.data.toList.drop 0 = dktX0_minus_0 := by decide +kernel
theorem dksX0_minus_1 : cX0_minus.data.toList.drop 24 = dktX0_minus_1 := dk_seg dksX0_minus_0 24 rfl rfl
theorem dksX0_minus_2 : cX0_minus.data.toList.drop 48 = dktX0_minus_2 := dk_seg dksX0_minus_1 24 rfl rfl
theorem dX0_minus_0 : decode cX0_minus 0 = .ok (.aload_n 0, 1) := dk_42 (dk_at dksX0_minus_0 0 rfl rfl)
theorem dX0_minus_1 : decode cX0_minus 1 = .ok (.iconst 0, 1) := dk_3 (dk_at dksX0_minus_0 1 rfl rfl)
theorem dX0_minus_2 : decode cX0_minus 2 = .ok (.invokevirtual 36, 3) := dk_182 0 36 (dk_at dksX0_minus_0 2 rfl rfl)
theorem dX0_minus_5 : decode cX0_minus 5 = .ok (.ifCond .eq 11, 3) := dk_153 0 11 (dk_at dksX0_minus_0 5 rfl rfl)
theorem dX0_minus_8 : decode cX0_minus 8 = .ok (.aload_n 0, 1) := dk_42 (dk_at dksX0_minus_0 8 rfl rfl)
theorem dX0_minus_9 : decode cX0_minus 9 = .ok (.iconst 1, 1) := dk_4 (dk_at dksX0_minus_0 9 rfl rfl)
theorem dX0_minus_10 : decode cX0_minus 10 = .ok (.invokevirtual 36, 3) := dk_182 0 36 (dk_at dksX0_minus_0 10 rfl rfl)
theorem dX0_minus_13 : decode cX0_minus 13 = .ok (.ifCond .ne 5, 3) := dk_154 0 5 (dk_at dksX0_minus_0 13 rfl rfl)
theorem dX0_minus_16 : decode cX0_minus 16 = .ok (.iconst 0, 1) := dk_3 (dk_at dksX0_minus_0 16 rfl rfl)
theorem dX0_minus_17 : decode cX0_minus 17 = .ok (.ireturn, 1) := dk_172 (dk_at dksX0_minus_0 17 rfl rfl)
theorem dX0_minus_18 : decode cX0_minus 18 = .ok (.aload_n 0, 1) := dk_42 (dk_at dksX0_minus_0 18 rfl rfl)
theorem dX0_minus_19 : decode cX0_minus 19 = .ok (.getfield 13, 3) := dk_180 0 13 (dk_at dksX0_minus_0 19 rfl rfl)
theorem dX0_minus_22 : decode cX0_minus 22 = .ok (.iload_n 1, 1) := dk_27 (dk_at dksX0_minus_0 22 rfl rfl)
theorem dX0_minus_23 : decode cX0_minus 23 = .ok (.iconst 1, 1) := dk_4 (dk_at dksX0_minus_0 23 rfl rfl)
theorem dX0_minus_24 : decode cX0_minus 24 = .ok (.iand, 1) := dk_126 (dk_at dksX0_minus_1 0 rfl rfl)
theorem dX0_minus_25 : decode cX0_minus 25 = .ok (.aload_n 0, 1) := dk_42 (dk_at dksX0_minus_1 1 rfl rfl)
theorem dX0_minus_26 : decode cX0_minus 26 = .ok (.getfield 13, 3) := dk_180 0 13 (dk_at dksX0_minus_1 2 rfl rfl)
theorem dX0_minus_29 : decode cX0_minus 29 = .ok (.iload_n 1, 1) := dk_27 (dk_at dksX0_minus_1 5 rfl rfl)
theorem dX0_minus_30 : decode cX0_minus 30 = .ok (.iconst 1, 1) := dk_4 (dk_at dksX0_minus_1 6 rfl rfl)
theorem dX0_minus_31 : decode cX0_minus 31 = .ok (.iand, 1) := dk_126 (dk_at dksX0_minus_1 7 rfl rfl)
theorem dX0_minus_32 : decode cX0_minus 32 = .ok (.aaload, 1) := dk_50 (dk_at dksX0_minus_1 8 rfl rfl)
theorem dX0_minus_33 : decode cX0_minus 33 = .ok (.aload_n 0, 1) := dk_42 (dk_at dksX0_minus_1 9 rfl rfl)
theorem dX0_minus_34 : decode cX0_minus 34 = .ok (.getfield 13, 3) := dk_180 0 13 (dk_at dksX0_minus_1 10 rfl rfl)
theorem dX0_minus_37 : decode cX0_minus 37 = .ok (.iload_n 1, 1) := dk_27 (dk_at dksX0_minus_1 13 rfl rfl)
theorem dX0_minus_38 : decode cX0_minus 38 = .ok (.iconst (-1), 1) := dk_2 (dk_at dksX0_minus_1 14 rfl rfl)
theorem dX0_minus_39 : decode cX0_minus 39 = .ok (.ixor, 1) := dk_130 (dk_at dksX0_minus_1 15 rfl rfl)
theorem dX0_minus_40 : decode cX0_minus 40 = .ok (.iconst 1, 1) := dk_4 (dk_at dksX0_minus_1 16 rfl rfl)
theorem dX0_minus_41 : decode cX0_minus 41 = .ok (.iand, 1) := dk_126 (dk_at dksX0_minus_1 17 rfl rfl)
theorem dX0_minus_42 : decode cX0_minus 42 = .ok (.aaload, 1) := dk_50 (dk_at dksX0_minus_1 18 rfl rfl)
theorem dX0_minus_43 : decode cX0_minus 43 = .ok (.invokevirtual 44, 3) := dk_182 0 44 (dk_at dksX0_minus_1 19 rfl rfl)
theorem dX0_minus_46 : decode cX0_minus 46 = .ok (.aastore, 1) := dk_83 (dk_at dksX0_minus_1 22 rfl rfl)
theorem dX0_minus_47 : decode cX0_minus 47 = .ok (.iconst 1, 1) := dk_4 (dk_at dksX0_minus_1 23 rfl rfl)
theorem dX0_minus_48 : decode cX0_minus 48 = .ok (.ireturn, 1) := dk_172 (dk_at dksX0_minus_2 0 rfl rfl)
abbrev cX0_times : ByteArray := prog_9_method_7_code
def yX0_times : MethodName := ⟨RX0, "times", "(II)Z"⟩
def dkwX0_times_1 : List UInt8 := [50, 28, 6, 126, 182, 0, 47, 83, 4, 172]
abbrev dktX0_times_1 : List UInt8 := dkwX0_times_1 ++ []
def dkwX0_times_0 : List UInt8 := [42, 27, 182, 0, 36, 154, 0, 5, 3, 172, 42, 180, 0, 13, 27, 4, 126, 42, 180, 0, 13, 27, 4, 126]
abbrev dktX0_times_0 : List UInt8 := dkwX0_times_0 ++ dktX0_times_1
theorem dksX0_times_0 : cX0_times.data.toList.drop 0 = dktX0_times_0 := by decide +kernel
theorem dksX0_times_1 : cX0_times.data.toList.drop 24 = dktX0_times_1 := dk_seg dksX0_times_0 24 rfl rfl
theorem dX0_times_0 : decode cX0_times 0 = .ok (.aload_n 0, 1) := dk_42 (dk_at dksX0_times_0 0 rfl rfl)
theorem dX0_times_1 : decode cX0_times 1 = .ok (.iload_n 1, 1) := dk_27 (dk_at dksX0_times_0 1 rfl rfl)
theorem dX0_times_2 : decode cX0_times 2 = .ok (.invokevirtual 36, 3) := dk_182 0 36 (dk_at dksX0_times_0 2 rfl rfl)
theorem dX0_times_5 : decode cX0_times 5 = .ok (.ifCond .ne 5, 3) := dk_154 0 5 (dk_at dksX0_times_0 5 rfl rfl)
theorem dX0_times_8 : decode cX0_times 8 = .ok (.iconst 0, 1) := dk_3 (dk_at dksX0_times_0 8 rfl rfl)
theorem dX0_times_9 : decode cX0_times 9 = .ok (.ireturn, 1) := dk_172 (dk_at dksX0_times_0 9 rfl rfl)
theorem dX0_times_10 : decode cX0_times 10 = .ok (.aload_n 0, 1) := dk_42 (dk_at dksX0_times_0 10 rfl rfl)
theorem dX0_times_11 : decode cX0_times 11 = .ok (.getfield 13, 3) := dk_180 0 13 (dk_at dksX0_times_0 11 rfl rfl)
theorem dX0_times_14 : decode cX0_times 14 = .ok (.iload_n 1, 1) := dk_27 (dk_at dksX0_times_0 14 rfl rfl)
theorem dX0_times_15 : decode cX0_times 15 = .ok (.iconst 1, 1) := dk_4 (dk_at dksX0_times_0 15 rfl rfl)
theorem dX0_times_16 : decode cX0_times 16 = .ok (.iand, 1) := dk_126 (dk_at dksX0_times_0 16 rfl rfl)
theorem dX0_times_17 : decode cX0_times 17 = .ok (.aload_n 0, 1) := dk_42 (dk_at dksX0_times_0 17 rfl rfl)
theorem dX0_times_18 : decode cX0_times 18 = .ok (.getfield 13, 3) := dk_180 0 13 (dk_at dksX0_times_0 18 rfl rfl)
theorem dX0_times_21 : decode cX0_times 21 = .ok (.iload_n 1, 1) := dk_27 (dk_at dksX0_times_0 21 rfl rfl)
theorem dX0_times_22 : decode cX0_times 22 = .ok (.iconst 1, 1) := dk_4 (dk_at dksX0_times_0 22 rfl rfl)
theorem dX0_times_23 : decode cX0_times 23 = .ok (.iand, 1) := dk_126 (dk_at dksX0_times_0 23 rfl rfl)
theorem dX0_times_24 : decode cX0_times 24 = .ok (.aaload, 1) := dk_50 (dk_at dksX0_times_1 0 rfl rfl)
theorem dX0_times_25 : decode cX0_times 25 = .ok (.iload_n 2, 1) := dk_28 (dk_at dksX0_times_1 1 rfl rfl)
theorem dX0_times_26 : decode cX0_times 26 = .ok (.iconst 3, 1) := dk_6 (dk_at dksX0_times_1 2 rfl rfl)
theorem dX0_times_27 : decode cX0_times 27 = .ok (.iand, 1) := dk_126 (dk_at dksX0_times_1 3 rfl rfl)
theorem dX0_times_28 : decode cX0_times 28 = .ok (.invokevirtual 47, 3) := dk_182 0 47 (dk_at dksX0_times_1 4 rfl rfl)
theorem dX0_times_31 : decode cX0_times 31 = .ok (.aastore, 1) := dk_83 (dk_at dksX0_times_1 7 rfl rfl)
theorem dX0_times_32 : decode cX0_times 32 = .ok (.iconst 1, 1) := dk_4 (dk_at dksX0_times_1 8 rfl rfl)
theorem dX0_times_33 : decode cX0_times 33 = .ok (.ireturn, 1) := dk_172 (dk_at dksX0_times_1 9 rfl rfl)
abbrev cX0_turn : ByteArray := prog_9_method_8_code
def yX0_turn : MethodName := ⟨RX0, "turn", "(I)Z"⟩
def dkwX0_turn_1 : List UInt8 := [50, 182, 0, 51, 83, 4, 172]
abbrev dktX0_turn_1 : List UInt8 := dkwX0_turn_1 ++ []
def dkwX0_turn_0 : List UInt8 := [42, 27, 182, 0, 36, 154, 0, 5, 3, 172, 42, 180, 0, 13, 27, 4, 126, 42, 180, 0, 13, 27, 4, 126]
abbrev dktX0_turn_0 : List UInt8 := dkwX0_turn_0 ++ dktX0_turn_1
theorem dksX0_turn_0 : cX0_turn.data.toList.drop 0 = dktX0_turn_0 := by decide +kernel
theorem dksX0_turn_1 : cX0_turn.data.toList.drop 24 = dktX0_turn_1 := dk_seg dksX0_turn_0 24 rfl rfl
theorem dX0_turn_0 : decode cX0_turn 0 = .ok (.aload_n 0, 1) := dk_42 (dk_at dksX0_turn_0 0 rfl rfl)
theorem dX0_turn_1 : decode cX0_turn 1 = .ok (.iload_n 1, 1) := dk_27 (dk_at dksX0_turn_0 1 rfl rfl)
theorem dX0_turn_2 : decode cX0_turn 2 = .ok (.invokevirtual 36, 3) := dk_182 0 36 (dk_at dksX0_turn_0 2 rfl rfl)
theorem dX0_turn_5 : decode cX0_turn 5 = .ok (.ifCond .ne 5, 3) := dk_154 0 5 (dk_at dksX0_turn_0 5 rfl rfl)
theorem dX0_turn_8 : decode cX0_turn 8 = .ok (.iconst 0, 1) := dk_3 (dk_at dksX0_turn_0 8 rfl rfl)
theorem dX0_turn_9 : decode cX0_turn 9 = .ok (.ireturn, 1) := dk_172 (dk_at dksX0_turn_0 9 rfl rfl)
theorem dX0_turn_10 : decode cX0_turn 10 = .ok (.aload_n 0, 1) := dk_42 (dk_at dksX0_turn_0 10 rfl rfl)
theorem dX0_turn_11 : decode cX0_turn 11 = .ok (.getfield 13, 3) := dk_180 0 13 (dk_at dksX0_turn_0 11 rfl rfl)
theorem dX0_turn_14 : decode cX0_turn 14 = .ok (.iload_n 1, 1) := dk_27 (dk_at dksX0_turn_0 14 rfl rfl)
theorem dX0_turn_15 : decode cX0_turn 15 = .ok (.iconst 1, 1) := dk_4 (dk_at dksX0_turn_0 15 rfl rfl)
theorem dX0_turn_16 : decode cX0_turn 16 = .ok (.iand, 1) := dk_126 (dk_at dksX0_turn_0 16 rfl rfl)
theorem dX0_turn_17 : decode cX0_turn 17 = .ok (.aload_n 0, 1) := dk_42 (dk_at dksX0_turn_0 17 rfl rfl)
theorem dX0_turn_18 : decode cX0_turn 18 = .ok (.getfield 13, 3) := dk_180 0 13 (dk_at dksX0_turn_0 18 rfl rfl)
theorem dX0_turn_21 : decode cX0_turn 21 = .ok (.iload_n 1, 1) := dk_27 (dk_at dksX0_turn_0 21 rfl rfl)
theorem dX0_turn_22 : decode cX0_turn 22 = .ok (.iconst 1, 1) := dk_4 (dk_at dksX0_turn_0 22 rfl rfl)
theorem dX0_turn_23 : decode cX0_turn 23 = .ok (.iand, 1) := dk_126 (dk_at dksX0_turn_0 23 rfl rfl)
theorem dX0_turn_24 : decode cX0_turn 24 = .ok (.aaload, 1) := dk_50 (dk_at dksX0_turn_1 0 rfl rfl)
theorem dX0_turn_25 : decode cX0_turn 25 = .ok (.invokevirtual 51, 3) := dk_182 0 51 (dk_at dksX0_turn_1 1 rfl rfl)
theorem dX0_turn_28 : decode cX0_turn 28 = .ok (.aastore, 1) := dk_83 (dk_at dksX0_turn_1 4 rfl rfl)
theorem dX0_turn_29 : decode cX0_turn 29 = .ok (.iconst 1, 1) := dk_4 (dk_at dksX0_turn_1 5 rfl rfl)
theorem dX0_turn_30 : decode cX0_turn 30 = .ok (.ireturn, 1) := dk_172 (dk_at dksX0_turn_1 6 rfl rfl)
abbrev cX0_normal : ByteArray := prog_9_method_9_code
def yX0_normal : MethodName := ⟨RX0, "normal", "(I)Z"⟩
def dkwX0_normal_1 : List UInt8 := [50, 182, 0, 55, 83, 4, 172]
abbrev dktX0_normal_1 : List UInt8 := dkwX0_normal_1 ++ []
def dkwX0_normal_0 : List UInt8 := [42, 27, 182, 0, 36, 154, 0, 5, 3, 172, 42, 180, 0, 13, 27, 4, 126, 42, 180, 0, 13, 27, 4, 126]
abbrev dktX0_normal_0 : List UInt8 := dkwX0_normal_0 ++ dktX0_normal_1
theorem dksX0_normal_0 : cX0_normal.data.toList.drop 0 = dktX0_normal_0 := by decide +kernel
theorem dksX0_normal_1 : cX0_normal.data.toList.drop 24 = dktX0_normal_1 := dk_seg dksX0_normal_0 24 rfl rfl
theorem dX0_normal_0 : decode cX0_normal 0 = .ok (.aload_n 0, 1) := dk_42 (dk_at dksX0_normal_0 0 rfl rfl)
theorem dX0_normal_1 : decode cX0_normal 1 = .ok (.iload_n 1, 1) := dk_27 (dk_at dksX0_normal_0 1 rfl rfl)
theorem dX0_normal_2 : decode cX0_normal 2 = .ok (.invokevirtual 36, 3) := dk_182 0 36 (dk_at dksX0_normal_0 2 rfl rfl)
theorem dX0_normal_5 : decode cX0_normal 5 = .ok (.ifCond .ne 5, 3) := dk_154 0 5 (dk_at dksX0_normal_0 5 rfl rfl)
theorem dX0_normal_8 : decode cX0_normal 8 = .ok (.iconst 0, 1) := dk_3 (dk_at dksX0_normal_0 8 rfl rfl)
theorem dX0_normal_9 : decode cX0_normal 9 = .ok (.ireturn, 1) := dk_172 (dk_at dksX0_normal_0 9 rfl rfl)
theorem dX0_normal_10 : decode cX0_normal 10 = .ok (.aload_n 0, 1) := dk_42 (dk_at dksX0_normal_0 10 rfl rfl)
theorem dX0_normal_11 : decode cX0_normal 11 = .ok (.getfield 13, 3) := dk_180 0 13 (dk_at dksX0_normal_0 11 rfl rfl)
theorem dX0_normal_14 : decode cX0_normal 14 = .ok (.iload_n 1, 1) := dk_27 (dk_at dksX0_normal_0 14 rfl rfl)
theorem dX0_normal_15 : decode cX0_normal 15 = .ok (.iconst 1, 1) := dk_4 (dk_at dksX0_normal_0 15 rfl rfl)
theorem dX0_normal_16 : decode cX0_normal 16 = .ok (.iand, 1) := dk_126 (dk_at dksX0_normal_0 16 rfl rfl)
theorem dX0_normal_17 : decode cX0_normal 17 = .ok (.aload_n 0, 1) := dk_42 (dk_at dksX0_normal_0 17 rfl rfl)
theorem dX0_normal_18 : decode cX0_normal 18 = .ok (.getfield 13, 3) := dk_180 0 13 (dk_at dksX0_normal_0 18 rfl rfl)
theorem dX0_normal_21 : decode cX0_normal 21 = .ok (.iload_n 1, 1) := dk_27 (dk_at dksX0_normal_0 21 rfl rfl)
theorem dX0_normal_22 : decode cX0_normal 22 = .ok (.iconst 1, 1) := dk_4 (dk_at dksX0_normal_0 22 rfl rfl)
theorem dX0_normal_23 : decode cX0_normal 23 = .ok (.iand, 1) := dk_126 (dk_at dksX0_normal_0 23 rfl rfl)
theorem dX0_normal_24 : decode cX0_normal 24 = .ok (.aaload, 1) := dk_50 (dk_at dksX0_normal_1 0 rfl rfl)
theorem dX0_normal_25 : decode cX0_normal 25 = .ok (.invokevirtual 55, 3) := dk_182 0 55 (dk_at dksX0_normal_1 1 rfl rfl)
theorem dX0_normal_28 : decode cX0_normal 28 = .ok (.aastore, 1) := dk_83 (dk_at dksX0_normal_1 4 rfl rfl)
theorem dX0_normal_29 : decode cX0_normal 29 = .ok (.iconst 1, 1) := dk_4 (dk_at dksX0_normal_1 5 rfl rfl)
theorem dX0_normal_30 : decode cX0_normal 30 = .ok (.ireturn, 1) := dk_172 (dk_at dksX0_normal_1 6 rfl rfl)
abbrev cX0_days : ByteArray := prog_9_method_10_code
def yX0_days : MethodName := ⟨RX0, "days", "(II)Z"⟩
def dkwX0_days_1 : List UInt8 := [50, 28, 184, 0, 20, 133, 182, 0, 58, 83, 4, 172]
abbrev dktX0_days_1 : List UInt8 := dkwX0_days_1 ++ []
def dkwX0_days_0 : List UInt8 := [42, 27, 182, 0, 36, 154, 0, 5, 3, 172, 42, 180, 0, 13, 27, 4, 126, 42, 180, 0, 13, 27, 4, 126]
abbrev dktX0_days_0 : List UInt8 := dkwX0_days_0 ++ dktX0_days_1
theorem dksX0_days_0 : cX0_days.data.toList.drop 0 = dktX0_days_0 := by decide +kernel
theorem dksX0_days_1 : cX0_days.data.toList.drop 24 = dktX0_days_1 := dk_seg dksX0_days_0 24 rfl rfl
theorem dX0_days_0 : decode cX0_days 0 = .ok (.aload_n 0, 1) := dk_42 (dk_at dksX0_days_0 0 rfl rfl)
theorem dX0_days_1 : decode cX0_days 1 = .ok (.iload_n 1, 1) := dk_27 (dk_at dksX0_days_0 1 rfl rfl)
theorem dX0_days_2 : decode cX0_days 2 = .ok (.invokevirtual 36, 3) := dk_182 0 36 (dk_at dksX0_days_0 2 rfl rfl)
theorem dX0_days_5 : decode cX0_days 5 = .ok (.ifCond .ne 5, 3) := dk_154 0 5 (dk_at dksX0_days_0 5 rfl rfl)
theorem dX0_days_8 : decode cX0_days 8 = .ok (.iconst 0, 1) := dk_3 (dk_at dksX0_days_0 8 rfl rfl)
theorem dX0_days_9 : decode cX0_days 9 = .ok (.ireturn, 1) := dk_172 (dk_at dksX0_days_0 9 rfl rfl)
theorem dX0_days_10 : decode cX0_days 10 = .ok (.aload_n 0, 1) := dk_42 (dk_at dksX0_days_0 10 rfl rfl)
theorem dX0_days_11 : decode cX0_days 11 = .ok (.getfield 13, 3) := dk_180 0 13 (dk_at dksX0_days_0 11 rfl rfl)
theorem dX0_days_14 : decode cX0_days 14 = .ok (.iload_n 1, 1) := dk_27 (dk_at dksX0_days_0 14 rfl rfl)
theorem dX0_days_15 : decode cX0_days 15 = .ok (.iconst 1, 1) := dk_4 (dk_at dksX0_days_0 15 rfl rfl)
theorem dX0_days_16 : decode cX0_days 16 = .ok (.iand, 1) := dk_126 (dk_at dksX0_days_0 16 rfl rfl)
theorem dX0_days_17 : decode cX0_days 17 = .ok (.aload_n 0, 1) := dk_42 (dk_at dksX0_days_0 17 rfl rfl)
theorem dX0_days_18 : decode cX0_days 18 = .ok (.getfield 13, 3) := dk_180 0 13 (dk_at dksX0_days_0 18 rfl rfl)
theorem dX0_days_21 : decode cX0_days 21 = .ok (.iload_n 1, 1) := dk_27 (dk_at dksX0_days_0 21 rfl rfl)
theorem dX0_days_22 : decode cX0_days 22 = .ok (.iconst 1, 1) := dk_4 (dk_at dksX0_days_0 22 rfl rfl)
theorem dX0_days_23 : decode cX0_days 23 = .ok (.iand, 1) := dk_126 (dk_at dksX0_days_0 23 rfl rfl)
theorem dX0_days_24 : decode cX0_days 24 = .ok (.aaload, 1) := dk_50 (dk_at dksX0_days_1 0 rfl rfl)
theorem dX0_days_25 : decode cX0_days 25 = .ok (.iload_n 2, 1) := dk_28 (dk_at dksX0_days_1 1 rfl rfl)
theorem dX0_days_26 : decode cX0_days 26 = .ok (.invokestatic 20, 3) := dk_184 0 20 (dk_at dksX0_days_1 2 rfl rfl)
theorem dX0_days_29 : decode cX0_days 29 = .ok (.i2l, 1) := dk_133 (dk_at dksX0_days_1 5 rfl rfl)
theorem dX0_days_30 : decode cX0_days 30 = .ok (.invokevirtual 58, 3) := dk_182 0 58 (dk_at dksX0_days_1 6 rfl rfl)
theorem dX0_days_33 : decode cX0_days 33 = .ok (.aastore, 1) := dk_83 (dk_at dksX0_days_1 9 rfl rfl)
theorem dX0_days_34 : decode cX0_days 34 = .ok (.iconst 1, 1) := dk_4 (dk_at dksX0_days_1 10 rfl rfl)
theorem dX0_days_35 : decode cX0_days 35 = .ok (.ireturn, 1) := dk_172 (dk_at dksX0_days_1 11 rfl rfl)
abbrev cX0_months : ByteArray := prog_9_method_11_code
def yX0_months : MethodName := ⟨RX0, "months", "(II)Z"⟩
def dkwX0_months_1 : List UInt8 := [50, 28, 184, 0, 20, 133, 182, 0, 62, 83, 4, 172]
abbrev dktX0_months_1 : List UInt8 := dkwX0_months_1 ++ []
def dkwX0_months_0 : List UInt8 := [42, 27, 182, 0, 36, 154, 0, 5, 3, 172, 42, 180, 0, 13, 27, 4, 126, 42, 180, 0, 13, 27, 4, 126]
abbrev dktX0_months_0 : List UInt8 := dkwX0_months_0 ++ dktX0_months_1
theorem dksX0_months_0 : cX0_months.data.toList.drop 0 = dktX0_months_0 := by decide +kernel
theorem dksX0_months_1 : cX0_months.data.toList.drop 24 = dktX0_months_1 := dk_seg dksX0_months_0 24 rfl rfl
theorem dX0_months_0 : decode cX0_months 0 = .ok (.aload_n 0, 1) := dk_42 (dk_at dksX0_months_0 0 rfl rfl)
theorem dX0_months_1 : decode cX0_months 1 = .ok (.iload_n 1, 1) := dk_27 (dk_at dksX0_months_0 1 rfl rfl)
theorem dX0_months_2 : decode cX0_months 2 = .ok (.invokevirtual 36, 3) := dk_182 0 36 (dk_at dksX0_months_0 2 rfl rfl)
theorem dX0_months_5 : decode cX0_months 5 = .ok (.ifCond .ne 5, 3) := dk_154 0 5 (dk_at dksX0_months_0 5 rfl rfl)
theorem dX0_months_8 : decode cX0_months 8 = .ok (.iconst 0, 1) := dk_3 (dk_at dksX0_months_0 8 rfl rfl)
theorem dX0_months_9 : decode cX0_months 9 = .ok (.ireturn, 1) := dk_172 (dk_at dksX0_months_0 9 rfl rfl)
theorem dX0_months_10 : decode cX0_months 10 = .ok (.aload_n 0, 1) := dk_42 (dk_at dksX0_months_0 10 rfl rfl)
theorem dX0_months_11 : decode cX0_months 11 = .ok (.getfield 13, 3) := dk_180 0 13 (dk_at dksX0_months_0 11 rfl rfl)
theorem dX0_months_14 : decode cX0_months 14 = .ok (.iload_n 1, 1) := dk_27 (dk_at dksX0_months_0 14 rfl rfl)
theorem dX0_months_15 : decode cX0_months 15 = .ok (.iconst 1, 1) := dk_4 (dk_at dksX0_months_0 15 rfl rfl)
theorem dX0_months_16 : decode cX0_months 16 = .ok (.iand, 1) := dk_126 (dk_at dksX0_months_0 16 rfl rfl)
theorem dX0_months_17 : decode cX0_months 17 = .ok (.aload_n 0, 1) := dk_42 (dk_at dksX0_months_0 17 rfl rfl)
theorem dX0_months_18 : decode cX0_months 18 = .ok (.getfield 13, 3) := dk_180 0 13 (dk_at dksX0_months_0 18 rfl rfl)
theorem dX0_months_21 : decode cX0_months 21 = .ok (.iload_n 1, 1) := dk_27 (dk_at dksX0_months_0 21 rfl rfl)
theorem dX0_months_22 : decode cX0_months 22 = .ok (.iconst 1, 1) := dk_4 (dk_at dksX0_months_0 22 rfl rfl)
theorem dX0_months_23 : decode cX0_months 23 = .ok (.iand, 1) := dk_126 (dk_at dksX0_months_0 23 rfl rfl)
theorem dX0_months_24 : decode cX0_months 24 = .ok (.aaload, 1) := dk_50 (dk_at dksX0_months_1 0 rfl rfl)
theorem dX0_months_25 : decode cX0_months 25 = .ok (.iload_n 2, 1) := dk_28 (dk_at dksX0_months_1 1 rfl rfl)
theorem dX0_months_26 : decode cX0_months 26 = .ok (.invokestatic 20, 3) := dk_184 0 20 (dk_at dksX0_months_1 2 rfl rfl)
theorem dX0_months_29 : decode cX0_months 29 = .ok (.i2l, 1) := dk_133 (dk_at dksX0_months_1 5 rfl rfl)
theorem dX0_months_30 : decode cX0_months 30 = .ok (.invokevirtual 62, 3) := dk_182 0 62 (dk_at dksX0_months_1 6 rfl rfl)
theorem dX0_months_33 : decode cX0_months 33 = .ok (.aastore, 1) := dk_83 (dk_at dksX0_months_1 9 rfl rfl)
theorem dX0_months_34 : decode cX0_months 34 = .ok (.iconst 1, 1) := dk_4 (dk_at dksX0_months_1 10 rfl rfl)
theorem dX0_months_35 : decode cX0_months 35 = .ok (.ireturn, 1) := dk_172 (dk_at dksX0_months_1 11 rfl rfl)
abbrev cX0_years : ByteArray := prog_9_method_12_code
def yX0_years : MethodName := ⟨RX0, "years", "(I)I"⟩
def dkwX0_years_0 : List UInt8 := [42, 180, 0, 13, 27, 4, 126, 50, 182, 0, 24, 172]
abbrev dktX0_years_0 : List UInt8 := dkwX0_years_0 ++ []
theorem dksX0_years_0 : cX0_years.data.toList.drop 0 = dktX0_years_0 := by decide +kernel
theorem dX0_years_0 : decode cX0_years 0 = .ok (.aload_n 0, 1) := dk_42 (dk_at dksX0_years_0 0 rfl rfl)
theorem dX0_years_1 : decode cX0_years 1 = .ok (.getfield 13, 3) := dk_180 0 13 (dk_at dksX0_years_0 1 rfl rfl)
theorem dX0_years_4 : decode cX0_years 4 = .ok (.iload_n 1, 1) := dk_27 (dk_at dksX0_years_0 4 rfl rfl)
theorem dX0_years_5 : decode cX0_years 5 = .ok (.iconst 1, 1) := dk_4 (dk_at dksX0_years_0 5 rfl rfl)
theorem dX0_years_6 : decode cX0_years 6 = .ok (.iand, 1) := dk_126 (dk_at dksX0_years_0 6 rfl rfl)
theorem dX0_years_7 : decode cX0_years 7 = .ok (.aaload, 1) := dk_50 (dk_at dksX0_years_0 7 rfl rfl)
theorem dX0_years_8 : decode cX0_years 8 = .ok (.invokevirtual 24, 3) := dk_182 0 24 (dk_at dksX0_years_0 8 rfl rfl)
theorem dX0_years_11 : decode cX0_years 11 = .ok (.ireturn, 1) := dk_172 (dk_at dksX0_years_0 11 rfl rfl)
abbrev cX0_month : ByteArray := prog_9_method_13_code
def yX0_month : MethodName := ⟨RX0, "month", "(I)I"⟩
def dkwX0_month_0 : List UInt8 := [42, 180, 0, 13, 27, 4, 126, 50, 182, 0, 30, 172]
abbrev dktX0_month_0 : List UInt8 := dkwX0_month_0 ++ []
theorem dksX0_month_0 : cX0_month.data.toList.drop 0 = dktX0_month_0 := by decide +kernel
theorem dX0_month_0 : decode cX0_month 0 = .ok (.aload_n 0, 1) := dk_42 (dk_at dksX0_month_0 0 rfl rfl)
theorem dX0_month_1 : decode cX0_month 1 = .ok (.getfield 13, 3) := dk_180 0 13 (dk_at dksX0_month_0 1 rfl rfl)
theorem dX0_month_4 : decode cX0_month 4 = .ok (.iload_n 1, 1) := dk_27 (dk_at dksX0_month_0 4 rfl rfl)
theorem dX0_month_5 : decode cX0_month 5 = .ok (.iconst 1, 1) := dk_4 (dk_at dksX0_month_0 5 rfl rfl)
theorem dX0_month_6 : decode cX0_month 6 = .ok (.iand, 1) := dk_126 (dk_at dksX0_month_0 6 rfl rfl)
theorem dX0_month_7 : decode cX0_month 7 = .ok (.aaload, 1) := dk_50 (dk_at dksX0_month_0 7 rfl rfl)
theorem dX0_month_8 : decode cX0_month 8 = .ok (.invokevirtual 30, 3) := dk_182 0 30 (dk_at dksX0_month_0 8 rfl rfl)
theorem dX0_month_11 : decode cX0_month 11 = .ok (.ireturn, 1) := dk_172 (dk_at dksX0_month_0 11 rfl rfl)
abbrev cX0_day : ByteArray := prog_9_method_14_code
def yX0_day : MethodName := ⟨RX0, "day", "(I)I"⟩
def dkwX0_day_0 : List UInt8 := [42, 180, 0, 13, 27, 4, 126, 50, 182, 0, 33, 172]
abbrev dktX0_day_0 : List UInt8 := dkwX0_day_0 ++ []
theorem dksX0_day_0 : cX0_day.data.toList.drop 0 = dktX0_day_0 := by decide +kernel
theorem dX0_day_0 : decode cX0_day 0 = .ok (.aload_n 0, 1) := dk_42 (dk_at dksX0_day_0 0 rfl rfl)
theorem dX0_day_1 : decode cX0_day 1 = .ok (.getfield 13, 3) := dk_180 0 13 (dk_at dksX0_day_0 1 rfl rfl)
theorem dX0_day_4 : decode cX0_day 4 = .ok (.iload_n 1, 1) := dk_27 (dk_at dksX0_day_0 4 rfl rfl)
theorem dX0_day_5 : decode cX0_day 5 = .ok (.iconst 1, 1) := dk_4 (dk_at dksX0_day_0 5 rfl rfl)
theorem dX0_day_6 : decode cX0_day 6 = .ok (.iand, 1) := dk_126 (dk_at dksX0_day_0 6 rfl rfl)
theorem dX0_day_7 : decode cX0_day 7 = .ok (.aaload, 1) := dk_50 (dk_at dksX0_day_0 7 rfl rfl)
theorem dX0_day_8 : decode cX0_day 8 = .ok (.invokevirtual 33, 3) := dk_182 0 33 (dk_at dksX0_day_0 8 rfl rfl)
theorem dX0_day_11 : decode cX0_day 11 = .ok (.ireturn, 1) := dk_172 (dk_at dksX0_day_0 11 rfl rfl)
abbrev cX0_all : ByteArray := prog_9_method_15_code
def yX0_all : MethodName := ⟨RX0, "all", "(I)J"⟩
def dkwX0_all_0 : List UInt8 := [42, 180, 0, 13, 27, 4, 126, 50, 182, 0, 65, 173]
abbrev dktX0_all_0 : List UInt8 := dkwX0_all_0 ++ []
theorem dksX0_all_0 : cX0_all.data.toList.drop 0 = dktX0_all_0 := by decide +kernel
theorem dX0_all_0 : decode cX0_all 0 = .ok (.aload_n 0, 1) := dk_42 (dk_at dksX0_all_0 0 rfl rfl)
theorem dX0_all_1 : decode cX0_all 1 = .ok (.getfield 13, 3) := dk_180 0 13 (dk_at dksX0_all_0 1 rfl rfl)
theorem dX0_all_4 : decode cX0_all 4 = .ok (.iload_n 1, 1) := dk_27 (dk_at dksX0_all_0 4 rfl rfl)
theorem dX0_all_5 : decode cX0_all 5 = .ok (.iconst 1, 1) := dk_4 (dk_at dksX0_all_0 5 rfl rfl)
theorem dX0_all_6 : decode cX0_all 6 = .ok (.iand, 1) := dk_126 (dk_at dksX0_all_0 6 rfl rfl)
theorem dX0_all_7 : decode cX0_all 7 = .ok (.aaload, 1) := dk_50 (dk_at dksX0_all_0 7 rfl rfl)
theorem dX0_all_8 : decode cX0_all 8 = .ok (.invokevirtual 65, 3) := dk_182 0 65 (dk_at dksX0_all_0 8 rfl rfl)
theorem dX0_all_11 : decode cX0_all 11 = .ok (.lreturn, 1) := dk_173 (dk_at dksX0_all_0 11 rfl rfl)
abbrev cX0_below : ByteArray := prog_9_method_16_code
def yX0_below : MethodName := ⟨RX0, "below", "(I)Z"⟩
def dkwX0_below_0 : List UInt8 := [42, 180, 0, 13, 27, 4, 126, 50, 182, 0, 69, 172]
abbrev dktX0_below_0 : List UInt8 := dkwX0_below_0 ++ []
theorem dksX0_below_0 : cX0_below.data.toList.drop 0 = dktX0_below_0 := by decide +kernel
theorem dX0_below_0 : decode cX0_below 0 = .ok (.aload_n 0, 1) := dk_42 (dk_at dksX0_below_0 0 rfl rfl)
theorem dX0_below_1 : decode cX0_below 1 = .ok (.getfield 13, 3) := dk_180 0 13 (dk_at dksX0_below_0 1 rfl rfl)
theorem dX0_below_4 : decode cX0_below 4 = .ok (.iload_n 1, 1) := dk_27 (dk_at dksX0_below_0 4 rfl rfl)
theorem dX0_below_5 : decode cX0_below 5 = .ok (.iconst 1, 1) := dk_4 (dk_at dksX0_below_0 5 rfl rfl)
theorem dX0_below_6 : decode cX0_below 6 = .ok (.iand, 1) := dk_126 (dk_at dksX0_below_0 6 rfl rfl)
theorem dX0_below_7 : decode cX0_below 7 = .ok (.aaload, 1) := dk_50 (dk_at dksX0_below_0 7 rfl rfl)
theorem dX0_below_8 : decode cX0_below 8 = .ok (.invokevirtual 69, 3) := dk_182 0 69 (dk_at dksX0_below_0 8 rfl rfl)
theorem dX0_below_11 : decode cX0_below 11 = .ok (.ireturn, 1) := dk_172 (dk_at dksX0_below_0 11 rfl rfl)
abbrev cX0_nought : ByteArray := prog_9_method_17_code
def yX0_nought : MethodName := ⟨RX0, "nought", "(I)Z"⟩
def dkwX0_nought_0 : List UInt8 := [42, 180, 0, 13, 27, 4, 126, 50, 182, 0, 73, 172]
abbrev dktX0_nought_0 : List UInt8 := dkwX0_nought_0 ++ []
theorem dksX0_nought_0 : cX0_nought.data.toList.drop 0 = dktX0_nought_0 := by decide +kernel
theorem dX0_nought_0 : decode cX0_nought 0 = .ok (.aload_n 0, 1) := dk_42 (dk_at dksX0_nought_0 0 rfl rfl)
theorem dX0_nought_1 : decode cX0_nought 1 = .ok (.getfield 13, 3) := dk_180 0 13 (dk_at dksX0_nought_0 1 rfl rfl)
theorem dX0_nought_4 : decode cX0_nought 4 = .ok (.iload_n 1, 1) := dk_27 (dk_at dksX0_nought_0 4 rfl rfl)
theorem dX0_nought_5 : decode cX0_nought 5 = .ok (.iconst 1, 1) := dk_4 (dk_at dksX0_nought_0 5 rfl rfl)
theorem dX0_nought_6 : decode cX0_nought 6 = .ok (.iand, 1) := dk_126 (dk_at dksX0_nought_0 6 rfl rfl)
theorem dX0_nought_7 : decode cX0_nought 7 = .ok (.aaload, 1) := dk_50 (dk_at dksX0_nought_0 7 rfl rfl)
theorem dX0_nought_8 : decode cX0_nought 8 = .ok (.invokevirtual 73, 3) := dk_182 0 73 (dk_at dksX0_nought_0 8 rfl rfl)
theorem dX0_nought_11 : decode cX0_nought 11 = .ok (.ireturn, 1) := dk_172 (dk_at dksX0_nought_0 11 rfl rfl)
theorem q7 : (Jvm.Cond.initialized "PeriodDesk") ∈ lw_all := lw_g (lw_at lw_m1 1 rfl) rfl
theorem q45 : (Jvm.Cond.instantiable "PeriodDesk" (1 : Nat)) ∈ lw_all := lw_g (lw_at lw_m1 39 rfl) rfl
theorem q47 : (Jvm.Cond.instanceMethod ({ cls := "PeriodDesk", name := "<init>", desc := "()V" } : Jvm.MethodName)) ∈ lw_all := lw_g (lw_at lw_m1 41 rfl) rfl
theorem q48 : (Jvm.Cond.code ({ cls := "PeriodDesk", name := "<init>", desc := "()V" } : Jvm.MethodName) prog_9_method_1_code (1 : Nat) (Option.none : Option Jvm.ClassFile.FieldType)) ∈ lw_all := lw_g (lw_at lw_m1 42 rfl) rfl
theorem q49 : (Jvm.Cond.methodLink "PeriodDesk" (1 : Nat) ({ cls := "java/lang/Object", name := "<init>", desc := "()V" } : Jvm.MethodName)) ∈ lw_all := lw_g (lw_at lw_m1 43 rfl) rfl
theorem q52 : (Jvm.Cond.classLink "PeriodDesk" (7 : Nat) "Period") ∈ lw_all := lw_g (lw_at lw_m1 46 rfl) rfl
theorem q54 : (Jvm.Cond.methodLink "PeriodDesk" (9 : Nat) ({ cls := "Period", name := "of", desc := "(III)LPeriod;" } : Jvm.MethodName)) ∈ lw_all := lw_g (lw_at lw_m1 48 rfl) rfl
theorem q81 : (Jvm.Cond.fieldLink "PeriodDesk" (13 : Nat) "PeriodDesk" "span" "[LPeriod;") ∈ lw_all := lw_g (lw_at lw_m1 75 rfl) rfl
theorem q82 : (Jvm.Cond.laysFinal "PeriodDesk" "PeriodDesk" "span" "[LPeriod;") ∈ lw_all := lw_g (lw_at lw_m1 76 rfl) rfl
theorem q83 : (Jvm.Cond.soleField "PeriodDesk" "span") ∈ lw_all := lw_g (lw_at lw_m1 77 rfl) rfl
theorem q84 : (Jvm.Cond.superclass "PeriodDesk" "java/lang/Object") ∈ lw_all := lw_g (lw_at lw_m1 78 rfl) rfl
theorem q86 : (Jvm.Cond.instanceMethod ({ cls := "PeriodDesk", name := "set", desc := "(IIII)V" } : Jvm.MethodName)) ∈ lw_all := lw_g (lw_at lw_m1 80 rfl) rfl
theorem q87 : (Jvm.Cond.selects "PeriodDesk" ({ cls := "PeriodDesk", name := "set", desc := "(IIII)V" } : Jvm.MethodName) ({ cls := "PeriodDesk", name := "set", desc := "(IIII)V" } : Jvm.MethodName)) ∈ lw_all := lw_g (lw_at lw_m1 81 rfl) rfl
theorem q88 : (Jvm.Cond.code ({ cls := "PeriodDesk", name := "set", desc := "(IIII)V" } : Jvm.MethodName) prog_9_method_3_code (5 : Nat) (Option.none : Option Jvm.ClassFile.FieldType)) ∈ lw_all := lw_g (lw_at lw_m1 82 rfl) rfl
theorem q89 : (Jvm.Cond.methodLink "PeriodDesk" (20 : Nat) ({ cls := "PeriodDesk", name := "small", desc := "(I)I" } : Jvm.MethodName)) ∈ lw_all := lw_g (lw_at lw_m1 83 rfl) rfl
theorem q90 : (Jvm.Cond.static ({ cls := "PeriodDesk", name := "small", desc := "(I)I" } : Jvm.MethodName)) ∈ lw_all := lw_g (lw_at lw_m1 84 rfl) rfl
theorem q91 : (Jvm.Cond.code ({ cls := "PeriodDesk", name := "small", desc := "(I)I" } : Jvm.MethodName) prog_9_method_2_code (1 : Nat) (Option.some Jvm.ClassFile.FieldType.int)) ∈ lw_all := lw_g (lw_at lw_m1 85 rfl) rfl
theorem q92 : (Jvm.Cond.constant "PeriodDesk" (19 : Nat) (1000000 : Int32)) ∈ lw_all := lw_g (lw_at lw_m1 86 rfl) rfl
theorem q94 : (Jvm.Cond.instanceMethod ({ cls := "PeriodDesk", name := "plus", desc := "(I)Z" } : Jvm.MethodName)) ∈ lw_all := lw_g (lw_at lw_m1 88 rfl) rfl
theorem q95 : (Jvm.Cond.selects "PeriodDesk" ({ cls := "PeriodDesk", name := "plus", desc := "(I)Z" } : Jvm.MethodName) ({ cls := "PeriodDesk", name := "plus", desc := "(I)Z" } : Jvm.MethodName)) ∈ lw_all := lw_g (lw_at lw_m1 89 rfl) rfl
theorem q96 : (Jvm.Cond.code ({ cls := "PeriodDesk", name := "plus", desc := "(I)Z" } : Jvm.MethodName) prog_9_method_5_code (2 : Nat) (Option.some Jvm.ClassFile.FieldType.boolean)) ∈ lw_all := lw_g (lw_at lw_m1 90 rfl) rfl
theorem q97 : (Jvm.Cond.methodLink "PeriodDesk" (36 : Nat) ({ cls := "PeriodDesk", name := "room", desc := "(I)Z" } : Jvm.MethodName)) ∈ lw_all := lw_g (lw_at lw_m1 91 rfl) rfl
theorem q98 : (Jvm.Cond.privateMethod ({ cls := "PeriodDesk", name := "room", desc := "(I)Z" } : Jvm.MethodName)) ∈ lw_tbl := lw_at lw_m1 92 rfl
theorem q99 : (Jvm.Cond.instanceMethod ({ cls := "PeriodDesk", name := "room", desc := "(I)Z" } : Jvm.MethodName)) ∈ lw_all := lw_g (lw_at lw_m1 93 rfl) rfl
theorem q100 : (Jvm.Cond.code ({ cls := "PeriodDesk", name := "room", desc := "(I)Z" } : Jvm.MethodName) prog_9_method_4_code (3 : Nat) (Option.some Jvm.ClassFile.FieldType.boolean)) ∈ lw_all := lw_g (lw_at lw_m1 94 rfl) rfl
theorem q101 : (Jvm.Cond.methodLink "PeriodDesk" (24 : Nat) ({ cls := "Period", name := "getYears", desc := "()I" } : Jvm.MethodName)) ∈ lw_all := lw_g (lw_at lw_m1 95 rfl) rfl
theorem q105 : (Jvm.Cond.constant "PeriodDesk" (28 : Nat) (500000000 : Int32)) ∈ lw_all := lw_g (lw_at lw_m1 99 rfl) rfl
theorem q106 : (Jvm.Cond.constant "PeriodDesk" (29 : Nat) (-500000000 : Int32)) ∈ lw_all := lw_g (lw_at lw_m1 100 rfl) rfl
theorem q107 : (Jvm.Cond.methodLink "PeriodDesk" (30 : Nat) ({ cls := "Period", name := "getMonths", desc := "()I" } : Jvm.MethodName)) ∈ lw_all := lw_g (lw_at lw_m1 101 rfl) rfl
theorem q111 : (Jvm.Cond.methodLink "PeriodDesk" (33 : Nat) ({ cls := "Period", name := "getDays", desc := "()I" } : Jvm.MethodName)) ∈ lw_all := lw_g (lw_at lw_m1 105 rfl) rfl
theorem q115 : (Jvm.Cond.methodLink "PeriodDesk" (40 : Nat) ({ cls := "Period", name := "plus", desc := "(LTemporalAmount;)LPeriod;" } : Jvm.MethodName)) ∈ lw_all := lw_g (lw_at lw_m1 109 rfl) rfl
theorem q663 : (Jvm.Cond.instanceMethod ({ cls := "PeriodDesk", name := "minus", desc := "(I)Z" } : Jvm.MethodName)) ∈ lw_all := lw_g (lw_at lw_m3 177 rfl) rfl
theorem q664 : (Jvm.Cond.selects "PeriodDesk" ({ cls := "PeriodDesk", name := "minus", desc := "(I)Z" } : Jvm.MethodName) ({ cls := "PeriodDesk", name := "minus", desc := "(I)Z" } : Jvm.MethodName)) ∈ lw_all := lw_g (lw_at lw_m3 178 rfl) rfl
theorem q665 : (Jvm.Cond.code ({ cls := "PeriodDesk", name := "minus", desc := "(I)Z" } : Jvm.MethodName) prog_9_method_6_code (2 : Nat) (Option.some Jvm.ClassFile.FieldType.boolean)) ∈ lw_all := lw_g (lw_at lw_m3 179 rfl) rfl
theorem q666 : (Jvm.Cond.methodLink "PeriodDesk" (44 : Nat) ({ cls := "Period", name := "minus", desc := "(LTemporalAmount;)LPeriod;" } : Jvm.MethodName)) ∈ lw_all := lw_g (lw_at lw_m3 180 rfl) rfl
theorem q674 : (Jvm.Cond.instanceMethod ({ cls := "PeriodDesk", name := "times", desc := "(II)Z" } : Jvm.MethodName)) ∈ lw_all := lw_g (lw_at lw_m3 188 rfl) rfl
theorem q675 : (Jvm.Cond.selects "PeriodDesk" ({ cls := "PeriodDesk", name := "times", desc := "(II)Z" } : Jvm.MethodName) ({ cls := "PeriodDesk", name := "times", desc := "(II)Z" } : Jvm.MethodName)) ∈ lw_all := lw_g (lw_at lw_m3 189 rfl) rfl
theorem q676 : (Jvm.Cond.code ({ cls := "PeriodDesk", name := "times", desc := "(II)Z" } : Jvm.MethodName) prog_9_method_7_code (3 : Nat) (Option.some Jvm.ClassFile.FieldType.boolean)) ∈ lw_all := lw_g (lw_at lw_m3 190 rfl) rfl
theorem q677 : (Jvm.Cond.methodLink "PeriodDesk" (47 : Nat) ({ cls := "Period", name := "multipliedBy", desc := "(I)LPeriod;" } : Jvm.MethodName)) ∈ lw_all := lw_g (lw_at lw_m3 191 rfl) rfl
theorem q685 : (Jvm.Cond.instanceMethod ({ cls := "PeriodDesk", name := "turn", desc := "(I)Z" } : Jvm.MethodName)) ∈ lw_all := lw_g (lw_at lw_m3 199 rfl) rfl
theorem q686 : (Jvm.Cond.selects "PeriodDesk" ({ cls := "PeriodDesk", name := "turn", desc := "(I)Z" } : Jvm.MethodName) ({ cls := "PeriodDesk", name := "turn", desc := "(I)Z" } : Jvm.MethodName)) ∈ lw_all := lw_g (lw_at lw_m3 200 rfl) rfl
theorem q687 : (Jvm.Cond.code ({ cls := "PeriodDesk", name := "turn", desc := "(I)Z" } : Jvm.MethodName) prog_9_method_8_code (2 : Nat) (Option.some Jvm.ClassFile.FieldType.boolean)) ∈ lw_all := lw_g (lw_at lw_m3 201 rfl) rfl
theorem q688 : (Jvm.Cond.methodLink "PeriodDesk" (51 : Nat) ({ cls := "Period", name := "negated", desc := "()LPeriod;" } : Jvm.MethodName)) ∈ lw_all := lw_g (lw_at lw_m3 202 rfl) rfl
theorem q694 : (Jvm.Cond.instanceMethod ({ cls := "PeriodDesk", name := "normal", desc := "(I)Z" } : Jvm.MethodName)) ∈ lw_all := lw_g (lw_at lw_m3 208 rfl) rfl
theorem q695 : (Jvm.Cond.selects "PeriodDesk" ({ cls := "PeriodDesk", name := "normal", desc := "(I)Z" } : Jvm.MethodName) ({ cls := "PeriodDesk", name := "normal", desc := "(I)Z" } : Jvm.MethodName)) ∈ lw_all := lw_g (lw_at lw_m3 209 rfl) rfl
theorem q696 : (Jvm.Cond.code ({ cls := "PeriodDesk", name := "normal", desc := "(I)Z" } : Jvm.MethodName) prog_9_method_9_code (2 : Nat) (Option.some Jvm.ClassFile.FieldType.boolean)) ∈ lw_all := lw_g (lw_at lw_m3 210 rfl) rfl
theorem q697 : (Jvm.Cond.methodLink "PeriodDesk" (55 : Nat) ({ cls := "Period", name := "normalized", desc := "()LPeriod;" } : Jvm.MethodName)) ∈ lw_all := lw_g (lw_at lw_m3 211 rfl) rfl
theorem q707 : (Jvm.Cond.instanceMethod ({ cls := "PeriodDesk", name := "days", desc := "(II)Z" } : Jvm.MethodName)) ∈ lw_all := lw_g (lw_at lw_m3 221 rfl) rfl
theorem q708 : (Jvm.Cond.selects "PeriodDesk" ({ cls := "PeriodDesk", name := "days", desc := "(II)Z" } : Jvm.MethodName) ({ cls := "PeriodDesk", name := "days", desc := "(II)Z" } : Jvm.MethodName)) ∈ lw_all := lw_g (lw_at lw_m3 222 rfl) rfl
theorem q709 : (Jvm.Cond.code ({ cls := "PeriodDesk", name := "days", desc := "(II)Z" } : Jvm.MethodName) prog_9_method_10_code (3 : Nat) (Option.some Jvm.ClassFile.FieldType.boolean)) ∈ lw_all := lw_g (lw_at lw_m3 223 rfl) rfl
theorem q710 : (Jvm.Cond.methodLink "PeriodDesk" (58 : Nat) ({ cls := "Period", name := "plusDays", desc := "(J)LPeriod;" } : Jvm.MethodName)) ∈ lw_all := lw_g (lw_at lw_m3 224 rfl) rfl
theorem q718 : (Jvm.Cond.instanceMethod ({ cls := "PeriodDesk", name := "months", desc := "(II)Z" } : Jvm.MethodName)) ∈ lw_all := lw_g (lw_at lw_m3 232 rfl) rfl
theorem q719 : (Jvm.Cond.selects "PeriodDesk" ({ cls := "PeriodDesk", name := "months", desc := "(II)Z" } : Jvm.MethodName) ({ cls := "PeriodDesk", name := "months", desc := "(II)Z" } : Jvm.MethodName)) ∈ lw_all := lw_g (lw_at lw_m3 233 rfl) rfl
theorem q720 : (Jvm.Cond.code ({ cls := "PeriodDesk", name := "months", desc := "(II)Z" } : Jvm.MethodName) prog_9_method_11_code (3 : Nat) (Option.some Jvm.ClassFile.FieldType.boolean)) ∈ lw_all := lw_g (lw_at lw_m3 234 rfl) rfl
theorem q721 : (Jvm.Cond.methodLink "PeriodDesk" (62 : Nat) ({ cls := "Period", name := "plusMonths", desc := "(J)LPeriod;" } : Jvm.MethodName)) ∈ lw_all := lw_g (lw_at lw_m3 235 rfl) rfl
theorem q726 : (Jvm.Cond.instanceMethod ({ cls := "PeriodDesk", name := "years", desc := "(I)I" } : Jvm.MethodName)) ∈ lw_all := lw_g (lw_at lw_m4 0 rfl) rfl
theorem q727 : (Jvm.Cond.selects "PeriodDesk" ({ cls := "PeriodDesk", name := "years", desc := "(I)I" } : Jvm.MethodName) ({ cls := "PeriodDesk", name := "years", desc := "(I)I" } : Jvm.MethodName)) ∈ lw_all := lw_g (lw_at lw_m4 1 rfl) rfl
theorem q728 : (Jvm.Cond.code ({ cls := "PeriodDesk", name := "years", desc := "(I)I" } : Jvm.MethodName) prog_9_method_12_code (2 : Nat) (Option.some Jvm.ClassFile.FieldType.int)) ∈ lw_all := lw_g (lw_at lw_m4 2 rfl) rfl
theorem q730 : (Jvm.Cond.instanceMethod ({ cls := "PeriodDesk", name := "month", desc := "(I)I" } : Jvm.MethodName)) ∈ lw_all := lw_g (lw_at lw_m4 4 rfl) rfl
theorem q731 : (Jvm.Cond.selects "PeriodDesk" ({ cls := "PeriodDesk", name := "month", desc := "(I)I" } : Jvm.MethodName) ({ cls := "PeriodDesk", name := "month", desc := "(I)I" } : Jvm.MethodName)) ∈ lw_all := lw_g (lw_at lw_m4 5 rfl) rfl
theorem q732 : (Jvm.Cond.code ({ cls := "PeriodDesk", name := "month", desc := "(I)I" } : Jvm.MethodName) prog_9_method_13_code (2 : Nat) (Option.some Jvm.ClassFile.FieldType.int)) ∈ lw_all := lw_g (lw_at lw_m4 6 rfl) rfl
theorem q734 : (Jvm.Cond.instanceMethod ({ cls := "PeriodDesk", name := "day", desc := "(I)I" } : Jvm.MethodName)) ∈ lw_all := lw_g (lw_at lw_m4 8 rfl) rfl
theorem q735 : (Jvm.Cond.selects "PeriodDesk" ({ cls := "PeriodDesk", name := "day", desc := "(I)I" } : Jvm.MethodName) ({ cls := "PeriodDesk", name := "day", desc := "(I)I" } : Jvm.MethodName)) ∈ lw_all := lw_g (lw_at lw_m4 9 rfl) rfl
theorem q736 : (Jvm.Cond.code ({ cls := "PeriodDesk", name := "day", desc := "(I)I" } : Jvm.MethodName) prog_9_method_14_code (2 : Nat) (Option.some Jvm.ClassFile.FieldType.int)) ∈ lw_all := lw_g (lw_at lw_m4 10 rfl) rfl
theorem q738 : (Jvm.Cond.instanceMethod ({ cls := "PeriodDesk", name := "all", desc := "(I)J" } : Jvm.MethodName)) ∈ lw_all := lw_g (lw_at lw_m4 12 rfl) rfl
theorem q739 : (Jvm.Cond.selects "PeriodDesk" ({ cls := "PeriodDesk", name := "all", desc := "(I)J" } : Jvm.MethodName) ({ cls := "PeriodDesk", name := "all", desc := "(I)J" } : Jvm.MethodName)) ∈ lw_all := lw_g (lw_at lw_m4 13 rfl) rfl
theorem q740 : (Jvm.Cond.code ({ cls := "PeriodDesk", name := "all", desc := "(I)J" } : Jvm.MethodName) prog_9_method_15_code (2 : Nat) (Option.some Jvm.ClassFile.FieldType.long)) ∈ lw_all := lw_g (lw_at lw_m4 14 rfl) rfl
theorem q741 : (Jvm.Cond.methodLink "PeriodDesk" (65 : Nat) ({ cls := "Period", name := "toTotalMonths", desc := "()J" } : Jvm.MethodName)) ∈ lw_all := lw_g (lw_at lw_m4 15 rfl) rfl
theorem q743 : (Jvm.Cond.instanceMethod ({ cls := "PeriodDesk", name := "below", desc := "(I)Z" } : Jvm.MethodName)) ∈ lw_all := lw_g (lw_at lw_m4 17 rfl) rfl
theorem q744 : (Jvm.Cond.selects "PeriodDesk" ({ cls := "PeriodDesk", name := "below", desc := "(I)Z" } : Jvm.MethodName) ({ cls := "PeriodDesk", name := "below", desc := "(I)Z" } : Jvm.MethodName)) ∈ lw_all := lw_g (lw_at lw_m4 18 rfl) rfl
theorem q745 : (Jvm.Cond.code ({ cls := "PeriodDesk", name := "below", desc := "(I)Z" } : Jvm.MethodName) prog_9_method_16_code (2 : Nat) (Option.some Jvm.ClassFile.FieldType.boolean)) ∈ lw_all := lw_g (lw_at lw_m4 19 rfl) rfl
theorem q746 : (Jvm.Cond.methodLink "PeriodDesk" (69 : Nat) ({ cls := "Period", name := "isNegative", desc := "()Z" } : Jvm.MethodName)) ∈ lw_all := lw_g (lw_at lw_m4 20 rfl) rfl
theorem q751 : (Jvm.Cond.instanceMethod ({ cls := "PeriodDesk", name := "nought", desc := "(I)Z" } : Jvm.MethodName)) ∈ lw_all := lw_g (lw_at lw_m4 25 rfl) rfl
theorem q752 : (Jvm.Cond.selects "PeriodDesk" ({ cls := "PeriodDesk", name := "nought", desc := "(I)Z" } : Jvm.MethodName) ({ cls := "PeriodDesk", name := "nought", desc := "(I)Z" } : Jvm.MethodName)) ∈ lw_all := lw_g (lw_at lw_m4 26 rfl) rfl
theorem q753 : (Jvm.Cond.code ({ cls := "PeriodDesk", name := "nought", desc := "(I)Z" } : Jvm.MethodName) prog_9_method_17_code (2 : Nat) (Option.some Jvm.ClassFile.FieldType.boolean)) ∈ lw_all := lw_g (lw_at lw_m4 27 rfl) rfl
theorem q754 : (Jvm.Cond.methodLink "PeriodDesk" (73 : Nat) ({ cls := "Period", name := "isZero", desc := "()Z" } : Jvm.MethodName)) ∈ lw_all := lw_g (lw_at lw_m4 28 rfl) rfl
theorem q863 : (Jvm.Cond.castable "PeriodDesk" "java/lang/Object") ∈ lw_tbl := lw_at lw_m4 137 rfl
theorem in_X0 : ∀ w ∈ wsX00, w ∈ lw_all := lw_in wsX00 [82] (by decide +kernel) (by decide +kernel)
/-! PeriodDeskModel -/
set_option maxRecDepth 100000
def RX3 : String := "PeriodDeskModel"
def TX3 : u_T := fun k => match k with
  | 0 => ("PeriodDeskModel", "years", "[I", true)
  | 1 => ("PeriodDeskModel", "months", "[I", true)
  | _ => ("PeriodDeskModel", "days", "[I", true)
def tyX3 : Nat → FieldType := fun k => match k with
  | 0 => .array .int
  | 1 => .array .int
  | _ => .array .int
abbrev wsX30 : List Cond := u_ws RX3 TX3 3
theorem nmX3 : ∀ a, a < 3 → ∀ b, b < 3 → a ≠ b → (TX3 a).2.1 ≠ (TX3 b).2.1 := by decide +kernel
theorem tyX3_ok : ∀ k, k < 3 → parseFieldDescriptor (TX3 k).2.2.1 = some (tyX3 k) := by decide +kernel
abbrev cX3_init : ByteArray := prog_11_method_1_code
def yX3_init : MethodName := ⟨RX3, "<init>", "()V"⟩
def dkwX3_init_1 : List UInt8 := [181, 0, 16, 177]
abbrev dktX3_init_1 : List UInt8 := dkwX3_init_1 ++ []
def dkwX3_init_0 : List UInt8 := [42, 183, 0, 1, 42, 5, 188, 10, 181, 0, 7, 42, 5, 188, 10, 181, 0, 13, 42, 5, 188, 10]
abbrev dktX3_init_0 : List UInt8 := dkwX3_init_0 ++ dktX3_init_1
theorem dksX3_init_0 : cX3_init.data.toList.drop 0 = dktX3_init_0 := by decide +kernel
theorem dksX3_init_1 : cX3_init.data.toList.drop 22 = dktX3_init_1 := dk_seg dksX3_init_0 22 rfl rfl
theorem dX3_init_0 : decode cX3_init 0 = .ok (.aload_n 0, 1) := dk_42 (dk_at dksX3_init_0 0 rfl rfl)
theorem dX3_init_1 : decode cX3_init 1 = .ok (.invokespecial 1, 3) := dk_183 0 1 (dk_at dksX3_init_0 1 rfl rfl)
theorem dX3_init_4 : decode cX3_init 4 = .ok (.aload_n 0, 1) := dk_42 (dk_at dksX3_init_0 4 rfl rfl)
theorem dX3_init_5 : decode cX3_init 5 = .ok (.iconst 2, 1) := dk_5 (dk_at dksX3_init_0 5 rfl rfl)
theorem dX3_init_6 : decode cX3_init 6 = .ok (.newarray .int, 2) := dk_188_10 (dk_at dksX3_init_0 6 rfl rfl)
theorem dX3_init_8 : decode cX3_init 8 = .ok (.putfield 7, 3) := dk_181 0 7 (dk_at dksX3_init_0 8 rfl rfl)
theorem dX3_init_11 : decode cX3_init 11 = .ok (.aload_n 0, 1) := dk_42 (dk_at dksX3_init_0 11 rfl rfl)
theorem dX3_init_12 : decode cX3_init 12 = .ok (.iconst 2, 1) := dk_5 (dk_at dksX3_init_0 12 rfl rfl)
theorem dX3_init_13 : decode cX3_init 13 = .ok (.newarray .int, 2) := dk_188_10 (dk_at dksX3_init_0 13 rfl rfl)
theorem dX3_init_15 : decode cX3_init 15 = .ok (.putfield 13, 3) := dk_181 0 13 (dk_at dksX3_init_0 15 rfl rfl)
theorem dX3_init_18 : decode cX3_init 18 = .ok (.aload_n 0, 1) := dk_42 (dk_at dksX3_init_0 18 rfl rfl)
theorem dX3_init_19 : decode cX3_init 19 = .ok (.iconst 2, 1) := dk_5 (dk_at dksX3_init_0 19 rfl rfl)
theorem dX3_init_20 : decode cX3_init 20 = .ok (.newarray .int, 2) := dk_188_10 (dk_at dksX3_init_0 20 rfl rfl)
theorem dX3_init_22 : decode cX3_init 22 = .ok (.putfield 16, 3) := dk_181 0 16 (dk_at dksX3_init_1 0 rfl rfl)
theorem dX3_init_25 : decode cX3_init 25 = .ok (.return_, 1) := dk_177 (dk_at dksX3_init_1 3 rfl rfl)
abbrev cX3_set : ByteArray := prog_11_method_3_code
def yX3_set : MethodName := ⟨RX3, "set", "(IIII)V"⟩
def dkwX3_set_1 : List UInt8 := [184, 0, 20, 79, 42, 180, 0, 16, 21, 5, 21, 4, 184, 0, 20, 79, 177]
abbrev dktX3_set_1 : List UInt8 := dkwX3_set_1 ++ []
def dkwX3_set_0 : List UInt8 := [27, 4, 126, 54, 5, 42, 180, 0, 7, 21, 5, 28, 184, 0, 20, 79, 42, 180, 0, 13, 21, 5, 29]
abbrev dktX3_set_0 : List UInt8 := dkwX3_set_0 ++ dktX3_set_1
theorem dksX3_set_0 : cX3_set.data.toList.drop 0 = dktX3_set_0 := by decide +kernel
theorem dksX3_set_1 : cX3_set.data.toList.drop 23 = dktX3_set_1 := dk_seg dksX3_set_0 23 rfl rfl
theorem dX3_set_0 : decode cX3_set 0 = .ok (.iload_n 1, 1) := dk_27 (dk_at dksX3_set_0 0 rfl rfl)
theorem dX3_set_1 : decode cX3_set 1 = .ok (.iconst 1, 1) := dk_4 (dk_at dksX3_set_0 1 rfl rfl)
theorem dX3_set_2 : decode cX3_set 2 = .ok (.iand, 1) := dk_126 (dk_at dksX3_set_0 2 rfl rfl)
theorem dX3_set_3 : decode cX3_set 3 = .ok (.istore 5, 2) := dk_54 5 (dk_at dksX3_set_0 3 rfl rfl)
theorem dX3_set_5 : decode cX3_set 5 = .ok (.aload_n 0, 1) := dk_42 (dk_at dksX3_set_0 5 rfl rfl)
theorem dX3_set_6 : decode cX3_set 6 = .ok (.getfield 7, 3) := dk_180 0 7 (dk_at dksX3_set_0 6 rfl rfl)
theorem dX3_set_9 : decode cX3_set 9 = .ok (.iload 5, 2) := dk_21 5 (dk_at dksX3_set_0 9 rfl rfl)
theorem dX3_set_11 : decode cX3_set 11 = .ok (.iload_n 2, 1) := dk_28 (dk_at dksX3_set_0 11 rfl rfl)
theorem dX3_set_12 : decode cX3_set 12 = .ok (.invokestatic 20, 3) := dk_184 0 20 (dk_at dksX3_set_0 12 rfl rfl)
theorem dX3_set_15 : decode cX3_set 15 = .ok (.iastore, 1) := dk_79 (dk_at dksX3_set_0 15 rfl rfl)
theorem dX3_set_16 : decode cX3_set 16 = .ok (.aload_n 0, 1) := dk_42 (dk_at dksX3_set_0 16 rfl rfl)
theorem dX3_set_17 : decode cX3_set 17 = .ok (.getfield 13, 3) := dk_180 0 13 (dk_at dksX3_set_0 17 rfl rfl)
theorem dX3_set_20 : decode cX3_set 20 = .ok (.iload 5, 2) := dk_21 5 (dk_at dksX3_set_0 20 rfl rfl)
theorem dX3_set_22 : decode cX3_set 22 = .ok (.iload_n 3, 1) := dk_29 (dk_at dksX3_set_0 22 rfl rfl)
theorem dX3_set_23 : decode cX3_set 23 = .ok (.invokestatic 20, 3) := dk_184 0 20 (dk_at dksX3_set_1 0 rfl rfl)
theorem dX3_set_26 : decode cX3_set 26 = .ok (.iastore, 1) := dk_79 (dk_at dksX3_set_1 3 rfl rfl)
theorem dX3_set_27 : decode cX3_set 27 = .ok (.aload_n 0, 1) := dk_42 (dk_at dksX3_set_1 4 rfl rfl)
theorem dX3_set_28 : decode cX3_set 28 = .ok (.getfield 16, 3) := dk_180 0 16 (dk_at dksX3_set_1 5 rfl rfl)
theorem dX3_set_31 : decode cX3_set 31 = .ok (.iload 5, 2) := dk_21 5 (dk_at dksX3_set_1 8 rfl rfl)
theorem dX3_set_33 : decode cX3_set 33 = .ok (.iload 4, 2) := dk_21 4 (dk_at dksX3_set_1 10 rfl rfl)
theorem dX3_set_35 : decode cX3_set 35 = .ok (.invokestatic 20, 3) := dk_184 0 20 (dk_at dksX3_set_1 12 rfl rfl)
theorem dX3_set_38 : decode cX3_set 38 = .ok (.iastore, 1) := dk_79 (dk_at dksX3_set_1 15 rfl rfl)
theorem dX3_set_39 : decode cX3_set 39 = .ok (.return_, 1) := dk_177 (dk_at dksX3_set_1 16 rfl rfl)
abbrev cX3_small : ByteArray := prog_11_method_2_code
def yX3_small : MethodName := ⟨RX3, "small", "(I)I"⟩
def dkwX3_small_0 : List UInt8 := [26, 18, 19, 112, 172]
abbrev dktX3_small_0 : List UInt8 := dkwX3_small_0 ++ []
theorem dksX3_small_0 : cX3_small.data.toList.drop 0 = dktX3_small_0 := by decide +kernel
theorem dX3_small_0 : decode cX3_small 0 = .ok (.iload_n 0, 1) := dk_26 (dk_at dksX3_small_0 0 rfl rfl)
theorem dX3_small_1 : decode cX3_small 1 = .ok (.ldc 19, 2) := dk_18 19 (dk_at dksX3_small_0 1 rfl rfl)
theorem dX3_small_3 : decode cX3_small 3 = .ok (.irem, 1) := dk_112 (dk_at dksX3_small_0 3 rfl rfl)
theorem dX3_small_4 : decode cX3_small 4 = .ok (.ireturn, 1) := dk_172 (dk_at dksX3_small_0 4 rfl rfl)
abbrev cX3_plus : ByteArray := prog_11_method_7_code
def yX3_plus : MethodName := ⟨RX3, "plus", "(I)Z"⟩
def dkwX3_plus_0 : List UInt8 := [42, 27, 4, 182, 0, 33, 172]
abbrev dktX3_plus_0 : List UInt8 := dkwX3_plus_0 ++ []
theorem dksX3_plus_0 : cX3_plus.data.toList.drop 0 = dktX3_plus_0 := by decide +kernel
theorem dX3_plus_0 : decode cX3_plus 0 = .ok (.aload_n 0, 1) := dk_42 (dk_at dksX3_plus_0 0 rfl rfl)
theorem dX3_plus_1 : decode cX3_plus 1 = .ok (.iload_n 1, 1) := dk_27 (dk_at dksX3_plus_0 1 rfl rfl)
theorem dX3_plus_2 : decode cX3_plus 2 = .ok (.iconst 1, 1) := dk_4 (dk_at dksX3_plus_0 2 rfl rfl)
theorem dX3_plus_3 : decode cX3_plus 3 = .ok (.invokevirtual 33, 3) := dk_182 0 33 (dk_at dksX3_plus_0 3 rfl rfl)
theorem dX3_plus_6 : decode cX3_plus 6 = .ok (.ireturn, 1) := dk_172 (dk_at dksX3_plus_0 6 rfl rfl)
abbrev cX3_adds : ByteArray := prog_11_method_6_code
def yX3_adds : MethodName := ⟨RX3, "adds", "(II)Z"⟩
def dkwX3_adds_3 : List UInt8 := [180, 0, 16, 4, 29, 100, 46, 104, 96, 79, 4, 172]
abbrev dktX3_adds_3 : List UInt8 := dkwX3_adds_3 ++ []
def dkwX3_adds_2 : List UInt8 := [46, 28, 42, 180, 0, 13, 4, 29, 100, 46, 104, 96, 79, 42, 180, 0, 16, 29, 92, 46, 28, 42]
abbrev dktX3_adds_2 : List UInt8 := dkwX3_adds_2 ++ dktX3_adds_3
def dkwX3_adds_1 : List UInt8 := [180, 0, 7, 29, 92, 46, 28, 42, 180, 0, 7, 4, 29, 100, 46, 104, 96, 79, 42, 180, 0, 13, 29, 92]
abbrev dktX3_adds_1 : List UInt8 := dkwX3_adds_1 ++ dktX3_adds_2
def dkwX3_adds_0 : List UInt8 := [42, 3, 182, 0, 30, 154, 0, 11, 42, 4, 182, 0, 30, 153, 0, 5, 3, 172, 27, 4, 126, 62, 42]
abbrev dktX3_adds_0 : List UInt8 := dkwX3_adds_0 ++ dktX3_adds_1
theorem dksX3_adds_0 : cX3_adds.data.toList.drop 0 = dktX3_adds_0 := by decide +kernel
theorem dksX3_adds_1 : cX3_adds.data.toList.drop 23 = dktX3_adds_1 := dk_seg dksX3_adds_0 23 rfl rfl
theorem dksX3_adds_2 : cX3_adds.data.toList.drop 47 = dktX3_adds_2 := dk_seg dksX3_adds_1 24 rfl rfl
theorem dksX3_adds_3 : cX3_adds.data.toList.drop 69 = dktX3_adds_3 := dk_seg dksX3_adds_2 22 rfl rfl
theorem dX3_adds_0 : decode cX3_adds 0 = .ok (.aload_n 0, 1) := dk_42 (dk_at dksX3_adds_0 0 rfl rfl)
theorem dX3_adds_1 : decode cX3_adds 1 = .ok (.iconst 0, 1) := dk_3 (dk_at dksX3_adds_0 1 rfl rfl)
theorem dX3_adds_2 : decode cX3_adds 2 = .ok (.invokevirtual 30, 3) := dk_182 0 30 (dk_at dksX3_adds_0 2 rfl rfl)
theorem dX3_adds_5 : decode cX3_adds 5 = .ok (.ifCond .ne 11, 3) := dk_154 0 11 (dk_at dksX3_adds_0 5 rfl rfl)
theorem dX3_adds_8 : decode cX3_adds 8 = .ok (.aload_n 0, 1) := dk_42 (dk_at dksX3_adds_0 8 rfl rfl)
theorem dX3_adds_9 : decode cX3_adds 9 = .ok (.iconst 1, 1) := dk_4 (dk_at dksX3_adds_0 9 rfl rfl)
theorem dX3_adds_10 : decode cX3_adds 10 = .ok (.invokevirtual 30, 3) := dk_182 0 30 (dk_at dksX3_adds_0 10 rfl rfl)
theorem dX3_adds_13 : decode cX3_adds 13 = .ok (.ifCond .eq 5, 3) := dk_153 0 5 (dk_at dksX3_adds_0 13 rfl rfl)
theorem dX3_adds_16 : decode cX3_adds 16 = .ok (.iconst 0, 1) := dk_3 (dk_at dksX3_adds_0 16 rfl rfl)
theorem dX3_adds_17 : decode cX3_adds 17 = .ok (.ireturn, 1) := dk_172 (dk_at dksX3_adds_0 17 rfl rfl)
theorem dX3_adds_18 : decode cX3_adds 18 = .ok (.iload_n 1, 1) := dk_27 (dk_at dksX3_adds_0 18 rfl rfl)
theorem dX3_adds_19 : decode cX3_adds 19 = .ok (.iconst 1, 1) := dk_4 (dk_at dksX3_adds_0 19 rfl rfl)
theorem dX3_adds_20 : decode cX3_adds 20 = .ok (.iand, 1) := dk_126 (dk_at dksX3_adds_0 20 rfl rfl)
theorem dX3_adds_21 : decode cX3_adds 21 = .ok (.istore_n 3, 1) := dk_62 (dk_at dksX3_adds_0 21 rfl rfl)
theorem dX3_adds_22 : decode cX3_adds 22 = .ok (.aload_n 0, 1) := dk_42 (dk_at dksX3_adds_0 22 rfl rfl)
theorem dX3_adds_23 : decode cX3_adds 23 = .ok (.getfield 7, 3) := dk_180 0 7 (dk_at dksX3_adds_1 0 rfl rfl)
theorem dX3_adds_26 : decode cX3_adds 26 = .ok (.iload_n 3, 1) := dk_29 (dk_at dksX3_adds_1 3 rfl rfl)
theorem dX3_adds_27 : decode cX3_adds 27 = .ok (.dup2, 1) := dk_92 (dk_at dksX3_adds_1 4 rfl rfl)
theorem dX3_adds_28 : decode cX3_adds 28 = .ok (.iaload, 1) := dk_46 (dk_at dksX3_adds_1 5 rfl rfl)
theorem dX3_adds_29 : decode cX3_adds 29 = .ok (.iload_n 2, 1) := dk_28 (dk_at dksX3_adds_1 6 rfl rfl)
theorem dX3_adds_30 : decode cX3_adds 30 = .ok (.aload_n 0, 1) := dk_42 (dk_at dksX3_adds_1 7 rfl rfl)
theorem dX3_adds_31 : decode cX3_adds 31 = .ok (.getfield 7, 3) := dk_180 0 7 (dk_at dksX3_adds_1 8 rfl rfl)
theorem dX3_adds_34 : decode cX3_adds 34 = .ok (.iconst 1, 1) := dk_4 (dk_at dksX3_adds_1 11 rfl rfl)
theorem dX3_adds_35 : decode cX3_adds 35 = .ok (.iload_n 3, 1) := dk_29 (dk_at dksX3_adds_1 12 rfl rfl)
theorem dX3_adds_36 : decode cX3_adds 36 = .ok (.isub, 1) := dk_100 (dk_at dksX3_adds_1 13 rfl rfl)
theorem dX3_adds_37 : decode cX3_adds 37 = .ok (.iaload, 1) := dk_46 (dk_at dksX3_adds_1 14 rfl rfl)
theorem dX3_adds_38 : decode cX3_adds 38 = .ok (.imul, 1) := dk_104 (dk_at dksX3_adds_1 15 rfl rfl)
theorem dX3_adds_39 : decode cX3_adds 39 = .ok (.iadd, 1) := dk_96 (dk_at dksX3_adds_1 16 rfl rfl)
theorem dX3_adds_40 : decode cX3_adds 40 = .ok (.iastore, 1) := dk_79 (dk_at dksX3_adds_1 17 rfl rfl)
theorem dX3_adds_41 : decode cX3_adds 41 = .ok (.aload_n 0, 1) := dk_42 (dk_at dksX3_adds_1 18 rfl rfl)
theorem dX3_adds_42 : decode cX3_adds 42 = .ok (.getfield 13, 3) := dk_180 0 13 (dk_at dksX3_adds_1 19 rfl rfl)
theorem dX3_adds_45 : decode cX3_adds 45 = .ok (.iload_n 3, 1) := dk_29 (dk_at dksX3_adds_1 22 rfl rfl)
theorem dX3_adds_46 : decode cX3_adds 46 = .ok (.dup2, 1) := dk_92 (dk_at dksX3_adds_1 23 rfl rfl)
theorem dX3_adds_47 : decode cX3_adds 47 = .ok (.iaload, 1) := dk_46 (dk_at dksX3_adds_2 0 rfl rfl)
theorem dX3_adds_48 : decode cX3_adds 48 = .ok (.iload_n 2, 1) := dk_28 (dk_at dksX3_adds_2 1 rfl rfl)
theorem dX3_adds_49 : decode cX3_adds 49 = .ok (.aload_n 0, 1) := dk_42 (dk_at dksX3_adds_2 2 rfl rfl)
theorem dX3_adds_50 : decode cX3_adds 50 = .ok (.getfield 13, 3) := dk_180 0 13 (dk_at dksX3_adds_2 3 rfl rfl)
theorem dX3_adds_53 : decode cX3_adds 53 = .ok (.iconst 1, 1) := dk_4 (dk_at dksX3_adds_2 6 rfl rfl)
theorem dX3_adds_54 : decode cX3_adds 54 = .ok (.iload_n 3, 1) := dk_29 (dk_at dksX3_adds_2 7 rfl rfl)
theorem dX3_adds_55 : decode cX3_adds 55 = .ok (.isub, 1) := dk_100 (dk_at dksX3_adds_2 8 rfl rfl)
theorem dX3_adds_56 : decode cX3_adds 56 = .ok (.iaload, 1) := dk_46 (dk_at dksX3_adds_2 9 rfl rfl)
theorem dX3_adds_57 : decode cX3_adds 57 = .ok (.imul, 1) := dk_104 (dk_at dksX3_adds_2 10 rfl rfl)
theorem dX3_adds_58 : decode cX3_adds 58 = .ok (.iadd, 1) := dk_96 (dk_at dksX3_adds_2 11 rfl rfl)
theorem dX3_adds_59 : decode cX3_adds 59 = .ok (.iastore, 1) := dk_79 (dk_at dksX3_adds_2 12 rfl rfl)
theorem dX3_adds_60 : decode cX3_adds 60 = .ok (.aload_n 0, 1) := dk_42 (dk_at dksX3_adds_2 13 rfl rfl)
theorem dX3_adds_61 : decode cX3_adds 61 = .ok (.getfield 16, 3) := dk_180 0 16 (dk_at dksX3_adds_2 14 rfl rfl)
theorem dX3_adds_64 : decode cX3_adds 64 = .ok (.iload_n 3, 1) := dk_29 (dk_at dksX3_adds_2 17 rfl rfl)
theorem dX3_adds_65 : decode cX3_adds 65 = .ok (.dup2, 1) := dk_92 (dk_at dksX3_adds_2 18 rfl rfl)
theorem dX3_adds_66 : decode cX3_adds 66 = .ok (.iaload, 1) := dk_46 (dk_at dksX3_adds_2 19 rfl rfl)
theorem dX3_adds_67 : decode cX3_adds 67 = .ok (.iload_n 2, 1) := dk_28 (dk_at dksX3_adds_2 20 rfl rfl)
theorem dX3_adds_68 : decode cX3_adds 68 = .ok (.aload_n 0, 1) := dk_42 (dk_at dksX3_adds_2 21 rfl rfl)
theorem dX3_adds_69 : decode cX3_adds 69 = .ok (.getfield 16, 3) := dk_180 0 16 (dk_at dksX3_adds_3 0 rfl rfl)
theorem dX3_adds_72 : decode cX3_adds 72 = .ok (.iconst 1, 1) := dk_4 (dk_at dksX3_adds_3 3 rfl rfl)
theorem dX3_adds_73 : decode cX3_adds 73 = .ok (.iload_n 3, 1) := dk_29 (dk_at dksX3_adds_3 4 rfl rfl)
theorem dX3_adds_74 : decode cX3_adds 74 = .ok (.isub, 1) := dk_100 (dk_at dksX3_adds_3 5 rfl rfl)
theorem dX3_adds_75 : decode cX3_adds 75 = .ok (.iaload, 1) := dk_46 (dk_at dksX3_adds_3 6 rfl rfl)
theorem dX3_adds_76 : decode cX3_adds 76 = .ok (.imul, 1) := dk_104 (dk_at dksX3_adds_3 7 rfl rfl)
theorem dX3_adds_77 : decode cX3_adds 77 = .ok (.iadd, 1) := dk_96 (dk_at dksX3_adds_3 8 rfl rfl)
theorem dX3_adds_78 : decode cX3_adds 78 = .ok (.iastore, 1) := dk_79 (dk_at dksX3_adds_3 9 rfl rfl)
theorem dX3_adds_79 : decode cX3_adds 79 = .ok (.iconst 1, 1) := dk_4 (dk_at dksX3_adds_3 10 rfl rfl)
theorem dX3_adds_80 : decode cX3_adds 80 = .ok (.ireturn, 1) := dk_172 (dk_at dksX3_adds_3 11 rfl rfl)
abbrev cX3_lacksRoom : ByteArray := prog_11_method_5_code
def yX3_lacksRoom : MethodName := ⟨RX3, "lacksRoom", "(I)Z"⟩
def dkwX3_lacksRoom_1 : List UInt8 := [42, 180, 0, 16, 27, 46, 184, 0, 26, 154, 0, 7, 4, 167, 0, 4, 3, 172]
abbrev dktX3_lacksRoom_1 : List UInt8 := dkwX3_lacksRoom_1 ++ []
def dkwX3_lacksRoom_0 : List UInt8 := [42, 180, 0, 7, 27, 46, 184, 0, 26, 153, 0, 27, 42, 180, 0, 13, 27, 46, 184, 0, 26, 153, 0, 15]
abbrev dktX3_lacksRoom_0 : List UInt8 := dkwX3_lacksRoom_0 ++ dktX3_lacksRoom_1
theorem dksX3_lacksRoom_0 : cX3_lacksRoom.data.toList.drop 0 = dktX3_lacksRoom_0 := by decide +kernel
theorem dksX3_lacksRoom_1 : cX3_lacksRoom.data.toList.drop 24 = dktX3_lacksRoom_1 := dk_seg dksX3_lacksRoom_0 24 rfl rfl
theorem dX3_lacksRoom_0 : decode cX3_lacksRoom 0 = .ok (.aload_n 0, 1) := dk_42 (dk_at dksX3_lacksRoom_0 0 rfl rfl)
theorem dX3_lacksRoom_1 : decode cX3_lacksRoom 1 = .ok (.getfield 7, 3) := dk_180 0 7 (dk_at dksX3_lacksRoom_0 1 rfl rfl)
theorem dX3_lacksRoom_4 : decode cX3_lacksRoom 4 = .ok (.iload_n 1, 1) := dk_27 (dk_at dksX3_lacksRoom_0 4 rfl rfl)
theorem dX3_lacksRoom_5 : decode cX3_lacksRoom 5 = .ok (.iaload, 1) := dk_46 (dk_at dksX3_lacksRoom_0 5 rfl rfl)
theorem dX3_lacksRoom_6 : decode cX3_lacksRoom 6 = .ok (.invokestatic 26, 3) := dk_184 0 26 (dk_at dksX3_lacksRoom_0 6 rfl rfl)
theorem dX3_lacksRoom_9 : decode cX3_lacksRoom 9 = .ok (.ifCond .eq 27, 3) := dk_153 0 27 (dk_at dksX3_lacksRoom_0 9 rfl rfl)
theorem dX3_lacksRoom_12 : decode cX3_lacksRoom 12 = .ok (.aload_n 0, 1) := dk_42 (dk_at dksX3_lacksRoom_0 12 rfl rfl)
theorem dX3_lacksRoom_13 : decode cX3_lacksRoom 13 = .ok (.getfield 13, 3) := dk_180 0 13 (dk_at dksX3_lacksRoom_0 13 rfl rfl)
theorem dX3_lacksRoom_16 : decode cX3_lacksRoom 16 = .ok (.iload_n 1, 1) := dk_27 (dk_at dksX3_lacksRoom_0 16 rfl rfl)
theorem dX3_lacksRoom_17 : decode cX3_lacksRoom 17 = .ok (.iaload, 1) := dk_46 (dk_at dksX3_lacksRoom_0 17 rfl rfl)
theorem dX3_lacksRoom_18 : decode cX3_lacksRoom 18 = .ok (.invokestatic 26, 3) := dk_184 0 26 (dk_at dksX3_lacksRoom_0 18 rfl rfl)
theorem dX3_lacksRoom_21 : decode cX3_lacksRoom 21 = .ok (.ifCond .eq 15, 3) := dk_153 0 15 (dk_at dksX3_lacksRoom_0 21 rfl rfl)
theorem dX3_lacksRoom_24 : decode cX3_lacksRoom 24 = .ok (.aload_n 0, 1) := dk_42 (dk_at dksX3_lacksRoom_1 0 rfl rfl)
theorem dX3_lacksRoom_25 : decode cX3_lacksRoom 25 = .ok (.getfield 16, 3) := dk_180 0 16 (dk_at dksX3_lacksRoom_1 1 rfl rfl)
theorem dX3_lacksRoom_28 : decode cX3_lacksRoom 28 = .ok (.iload_n 1, 1) := dk_27 (dk_at dksX3_lacksRoom_1 4 rfl rfl)
theorem dX3_lacksRoom_29 : decode cX3_lacksRoom 29 = .ok (.iaload, 1) := dk_46 (dk_at dksX3_lacksRoom_1 5 rfl rfl)
theorem dX3_lacksRoom_30 : decode cX3_lacksRoom 30 = .ok (.invokestatic 26, 3) := dk_184 0 26 (dk_at dksX3_lacksRoom_1 6 rfl rfl)
theorem dX3_lacksRoom_33 : decode cX3_lacksRoom 33 = .ok (.ifCond .ne 7, 3) := dk_154 0 7 (dk_at dksX3_lacksRoom_1 9 rfl rfl)
theorem dX3_lacksRoom_36 : decode cX3_lacksRoom 36 = .ok (.iconst 1, 1) := dk_4 (dk_at dksX3_lacksRoom_1 12 rfl rfl)
theorem dX3_lacksRoom_37 : decode cX3_lacksRoom 37 = .ok (.goto 4, 3) := dk_167 0 4 (dk_at dksX3_lacksRoom_1 13 rfl rfl)
theorem dX3_lacksRoom_40 : decode cX3_lacksRoom 40 = .ok (.iconst 0, 1) := dk_3 (dk_at dksX3_lacksRoom_1 16 rfl rfl)
theorem dX3_lacksRoom_41 : decode cX3_lacksRoom 41 = .ok (.ireturn, 1) := dk_172 (dk_at dksX3_lacksRoom_1 17 rfl rfl)
abbrev cX3_isSmall : ByteArray := prog_11_method_4_code
def yX3_isSmall : MethodName := ⟨RX3, "isSmall", "(I)Z"⟩
def dkwX3_isSmall_0 : List UInt8 := [26, 18, 24, 162, 0, 13, 26, 18, 25, 164, 0, 7, 4, 167, 0, 4, 3, 172]
abbrev dktX3_isSmall_0 : List UInt8 := dkwX3_isSmall_0 ++ []
theorem dksX3_isSmall_0 : cX3_isSmall.data.toList.drop 0 = dktX3_isSmall_0 := by decide +kernel
theorem dX3_isSmall_0 : decode cX3_isSmall 0 = .ok (.iload_n 0, 1) := dk_26 (dk_at dksX3_isSmall_0 0 rfl rfl)
theorem dX3_isSmall_1 : decode cX3_isSmall 1 = .ok (.ldc 24, 2) := dk_18 24 (dk_at dksX3_isSmall_0 1 rfl rfl)
theorem dX3_isSmall_3 : decode cX3_isSmall 3 = .ok (.if_icmp .ge 13, 3) := dk_162 0 13 (dk_at dksX3_isSmall_0 3 rfl rfl)
theorem dX3_isSmall_6 : decode cX3_isSmall 6 = .ok (.iload_n 0, 1) := dk_26 (dk_at dksX3_isSmall_0 6 rfl rfl)
theorem dX3_isSmall_7 : decode cX3_isSmall 7 = .ok (.ldc 25, 2) := dk_18 25 (dk_at dksX3_isSmall_0 7 rfl rfl)
theorem dX3_isSmall_9 : decode cX3_isSmall 9 = .ok (.if_icmp .le 7, 3) := dk_164 0 7 (dk_at dksX3_isSmall_0 9 rfl rfl)
theorem dX3_isSmall_12 : decode cX3_isSmall 12 = .ok (.iconst 1, 1) := dk_4 (dk_at dksX3_isSmall_0 12 rfl rfl)
theorem dX3_isSmall_13 : decode cX3_isSmall 13 = .ok (.goto 4, 3) := dk_167 0 4 (dk_at dksX3_isSmall_0 13 rfl rfl)
theorem dX3_isSmall_16 : decode cX3_isSmall 16 = .ok (.iconst 0, 1) := dk_3 (dk_at dksX3_isSmall_0 16 rfl rfl)
theorem dX3_isSmall_17 : decode cX3_isSmall 17 = .ok (.ireturn, 1) := dk_172 (dk_at dksX3_isSmall_0 17 rfl rfl)
abbrev cX3_minus : ByteArray := prog_11_method_8_code
def yX3_minus : MethodName := ⟨RX3, "minus", "(I)Z"⟩
def dkwX3_minus_0 : List UInt8 := [42, 27, 2, 182, 0, 33, 172]
abbrev dktX3_minus_0 : List UInt8 := dkwX3_minus_0 ++ []
theorem dksX3_minus_0 : cX3_minus.data.toList.drop 0 = dktX3_minus_0 := by decide +kernel
theorem dX3_minus_0 : decode cX3_minus 0 = .ok (.aload_n 0, 1) := dk_42 (dk_at dksX3_minus_0 0 rfl rfl)
theorem dX3_minus_1 : decode cX3_minus 1 = .ok (.iload_n 1, 1) := dk_27 (dk_at dksX3_minus_0 1 rfl rfl)
theorem dX3_minus_2 : decode cX3_minus 2 = .ok (.iconst (-1), 1) := dk_2 (dk_at dksX3_minus_0 2 rfl rfl)
theorem dX3_minus_3 : decode cX3_minus 3 = .ok (.invokevirtual 33, 3) := dk_182 0 33 (dk_at dksX3_minus_0 3 rfl rfl)
theorem dX3_minus_6 : decode cX3_minus 6 = .ok (.ireturn, 1) := dk_172 (dk_at dksX3_minus_0 6 rfl rfl)
abbrev cX3_times : ByteArray := prog_11_method_10_code
def yX3_times : MethodName := ⟨RX3, "times", "(II)Z"⟩
def dkwX3_times_0 : List UInt8 := [42, 27, 28, 6, 126, 182, 0, 37, 172]
abbrev dktX3_times_0 : List UInt8 := dkwX3_times_0 ++ []
theorem dksX3_times_0 : cX3_times.data.toList.drop 0 = dktX3_times_0 := by decide +kernel
theorem dX3_times_0 : decode cX3_times 0 = .ok (.aload_n 0, 1) := dk_42 (dk_at dksX3_times_0 0 rfl rfl)
theorem dX3_times_1 : decode cX3_times 1 = .ok (.iload_n 1, 1) := dk_27 (dk_at dksX3_times_0 1 rfl rfl)
theorem dX3_times_2 : decode cX3_times 2 = .ok (.iload_n 2, 1) := dk_28 (dk_at dksX3_times_0 2 rfl rfl)
theorem dX3_times_3 : decode cX3_times 3 = .ok (.iconst 3, 1) := dk_6 (dk_at dksX3_times_0 3 rfl rfl)
theorem dX3_times_4 : decode cX3_times 4 = .ok (.iand, 1) := dk_126 (dk_at dksX3_times_0 4 rfl rfl)
theorem dX3_times_5 : decode cX3_times 5 = .ok (.invokevirtual 37, 3) := dk_182 0 37 (dk_at dksX3_times_0 5 rfl rfl)
theorem dX3_times_8 : decode cX3_times 8 = .ok (.ireturn, 1) := dk_172 (dk_at dksX3_times_0 8 rfl rfl)
abbrev cX3_takes : ByteArray := prog_11_method_9_code
def yX3_takes : MethodName := ⟨RX3, "takes", "(II)Z"⟩
def dkwX3_takes_1 : List UInt8 := [42, 180, 0, 13, 29, 92, 46, 28, 104, 79, 42, 180, 0, 16, 29, 92, 46, 28, 104, 79, 4, 172]
abbrev dktX3_takes_1 : List UInt8 := dkwX3_takes_1 ++ []
def dkwX3_takes_0 : List UInt8 := [27, 4, 126, 62, 42, 29, 182, 0, 30, 153, 0, 5, 3, 172, 42, 180, 0, 7, 29, 92, 46, 28, 104, 79]
abbrev dktX3_takes_0 : List UInt8 := dkwX3_takes_0 ++ dktX3_takes_1
theorem dksX3_takes_0 : cX3_takes.data.toList.drop 0 = dktX3_takes_0 := by decide +kernel
theorem dksX3_takes_1 : cX3_takes.data.toList.drop 24 = dktX3_takes_1 := dk_seg dksX3_takes_0 24 rfl rfl
theorem dX3_takes_0 : decode cX3_takes 0 = .ok (.iload_n 1, 1) := dk_27 (dk_at dksX3_takes_0 0 rfl rfl)
theorem dX3_takes_1 : decode cX3_takes 1 = .ok (.iconst 1, 1) := dk_4 (dk_at dksX3_takes_0 1 rfl rfl)
theorem dX3_takes_2 : decode cX3_takes 2 = .ok (.iand, 1) := dk_126 (dk_at dksX3_takes_0 2 rfl rfl)
theorem dX3_takes_3 : decode cX3_takes 3 = .ok (.istore_n 3, 1) := dk_62 (dk_at dksX3_takes_0 3 rfl rfl)
theorem dX3_takes_4 : decode cX3_takes 4 = .ok (.aload_n 0, 1) := dk_42 (dk_at dksX3_takes_0 4 rfl rfl)
theorem dX3_takes_5 : decode cX3_takes 5 = .ok (.iload_n 3, 1) := dk_29 (dk_at dksX3_takes_0 5 rfl rfl)
theorem dX3_takes_6 : decode cX3_takes 6 = .ok (.invokevirtual 30, 3) := dk_182 0 30 (dk_at dksX3_takes_0 6 rfl rfl)
theorem dX3_takes_9 : decode cX3_takes 9 = .ok (.ifCond .eq 5, 3) := dk_153 0 5 (dk_at dksX3_takes_0 9 rfl rfl)
theorem dX3_takes_12 : decode cX3_takes 12 = .ok (.iconst 0, 1) := dk_3 (dk_at dksX3_takes_0 12 rfl rfl)
theorem dX3_takes_13 : decode cX3_takes 13 = .ok (.ireturn, 1) := dk_172 (dk_at dksX3_takes_0 13 rfl rfl)
theorem dX3_takes_14 : decode cX3_takes 14 = .ok (.aload_n 0, 1) := dk_42 (dk_at dksX3_takes_0 14 rfl rfl)
theorem dX3_takes_15 : decode cX3_takes 15 = .ok (.getfield 7, 3) := dk_180 0 7 (dk_at dksX3_takes_0 15 rfl rfl)
theorem dX3_takes_18 : decode cX3_takes 18 = .ok (.iload_n 3, 1) := dk_29 (dk_at dksX3_takes_0 18 rfl rfl)
theorem dX3_takes_19 : decode cX3_takes 19 = .ok (.dup2, 1) := dk_92 (dk_at dksX3_takes_0 19 rfl rfl)
theorem dX3_takes_20 : decode cX3_takes 20 = .ok (.iaload, 1) := dk_46 (dk_at dksX3_takes_0 20 rfl rfl)
theorem dX3_takes_21 : decode cX3_takes 21 = .ok (.iload_n 2, 1) := dk_28 (dk_at dksX3_takes_0 21 rfl rfl)
theorem dX3_takes_22 : decode cX3_takes 22 = .ok (.imul, 1) := dk_104 (dk_at dksX3_takes_0 22 rfl rfl)
theorem dX3_takes_23 : decode cX3_takes 23 = .ok (.iastore, 1) := dk_79 (dk_at dksX3_takes_0 23 rfl rfl)
theorem dX3_takes_24 : decode cX3_takes 24 = .ok (.aload_n 0, 1) := dk_42 (dk_at dksX3_takes_1 0 rfl rfl)
theorem dX3_takes_25 : decode cX3_takes 25 = .ok (.getfield 13, 3) := dk_180 0 13 (dk_at dksX3_takes_1 1 rfl rfl)
theorem dX3_takes_28 : decode cX3_takes 28 = .ok (.iload_n 3, 1) := dk_29 (dk_at dksX3_takes_1 4 rfl rfl)
theorem dX3_takes_29 : decode cX3_takes 29 = .ok (.dup2, 1) := dk_92 (dk_at dksX3_takes_1 5 rfl rfl)
theorem dX3_takes_30 : decode cX3_takes 30 = .ok (.iaload, 1) := dk_46 (dk_at dksX3_takes_1 6 rfl rfl)
theorem dX3_takes_31 : decode cX3_takes 31 = .ok (.iload_n 2, 1) := dk_28 (dk_at dksX3_takes_1 7 rfl rfl)
theorem dX3_takes_32 : decode cX3_takes 32 = .ok (.imul, 1) := dk_104 (dk_at dksX3_takes_1 8 rfl rfl)
theorem dX3_takes_33 : decode cX3_takes 33 = .ok (.iastore, 1) := dk_79 (dk_at dksX3_takes_1 9 rfl rfl)
theorem dX3_takes_34 : decode cX3_takes 34 = .ok (.aload_n 0, 1) := dk_42 (dk_at dksX3_takes_1 10 rfl rfl)
theorem dX3_takes_35 : decode cX3_takes 35 = .ok (.getfield 16, 3) := dk_180 0 16 (dk_at dksX3_takes_1 11 rfl rfl)
theorem dX3_takes_38 : decode cX3_takes 38 = .ok (.iload_n 3, 1) := dk_29 (dk_at dksX3_takes_1 14 rfl rfl)
theorem dX3_takes_39 : decode cX3_takes 39 = .ok (.dup2, 1) := dk_92 (dk_at dksX3_takes_1 15 rfl rfl)
theorem dX3_takes_40 : decode cX3_takes 40 = .ok (.iaload, 1) := dk_46 (dk_at dksX3_takes_1 16 rfl rfl)
theorem dX3_takes_41 : decode cX3_takes 41 = .ok (.iload_n 2, 1) := dk_28 (dk_at dksX3_takes_1 17 rfl rfl)
theorem dX3_takes_42 : decode cX3_takes 42 = .ok (.imul, 1) := dk_104 (dk_at dksX3_takes_1 18 rfl rfl)
theorem dX3_takes_43 : decode cX3_takes 43 = .ok (.iastore, 1) := dk_79 (dk_at dksX3_takes_1 19 rfl rfl)
theorem dX3_takes_44 : decode cX3_takes 44 = .ok (.iconst 1, 1) := dk_4 (dk_at dksX3_takes_1 20 rfl rfl)
theorem dX3_takes_45 : decode cX3_takes 45 = .ok (.ireturn, 1) := dk_172 (dk_at dksX3_takes_1 21 rfl rfl)
abbrev cX3_turn : ByteArray := prog_11_method_11_code
def yX3_turn : MethodName := ⟨RX3, "turn", "(I)Z"⟩
def dkwX3_turn_0 : List UInt8 := [42, 27, 2, 182, 0, 37, 172]
abbrev dktX3_turn_0 : List UInt8 := dkwX3_turn_0 ++ []
theorem dksX3_turn_0 : cX3_turn.data.toList.drop 0 = dktX3_turn_0 := by decide +kernel
theorem dX3_turn_0 : decode cX3_turn 0 = .ok (.aload_n 0, 1) := dk_42 (dk_at dksX3_turn_0 0 rfl rfl)
theorem dX3_turn_1 : decode cX3_turn 1 = .ok (.iload_n 1, 1) := dk_27 (dk_at dksX3_turn_0 1 rfl rfl)
theorem dX3_turn_2 : decode cX3_turn 2 = .ok (.iconst (-1), 1) := dk_2 (dk_at dksX3_turn_0 2 rfl rfl)
theorem dX3_turn_3 : decode cX3_turn 3 = .ok (.invokevirtual 37, 3) := dk_182 0 37 (dk_at dksX3_turn_0 3 rfl rfl)
theorem dX3_turn_6 : decode cX3_turn 6 = .ok (.ireturn, 1) := dk_172 (dk_at dksX3_turn_0 6 rfl rfl)
abbrev cX3_normal : ByteArray := prog_11_method_12_code
def yX3_normal : MethodName := ⟨RX3, "normal", "(I)Z"⟩
def dkwX3_normal_1 : List UInt8 := [28, 33, 20, 0, 44, 109, 136, 79, 42, 180, 0, 13, 28, 33, 20, 0, 44, 113, 136, 79, 4, 172]
abbrev dktX3_normal_1 : List UInt8 := dkwX3_normal_1 ++ []
def dkwX3_normal_0 : List UInt8 := [27, 4, 126, 61, 42, 28, 182, 0, 30, 153, 0, 5, 3, 172, 42, 28, 182, 0, 40, 66, 42, 180, 0, 7]
abbrev dktX3_normal_0 : List UInt8 := dkwX3_normal_0 ++ dktX3_normal_1
theorem dksX3_normal_0 : cX3_normal.data.toList.drop 0 = dktX3_normal_0 := by decide +kernel
theorem dksX3_normal_1 : cX3_normal.data.toList.drop 24 = dktX3_normal_1 := dk_seg dksX3_normal_0 24 rfl rfl
theorem dX3_normal_0 : decode cX3_normal 0 = .ok (.iload_n 1, 1) := dk_27 (dk_at dksX3_normal_0 0 rfl rfl)
theorem dX3_normal_1 : decode cX3_normal 1 = .ok (.iconst 1, 1) := dk_4 (dk_at dksX3_normal_0 1 rfl rfl)
theorem dX3_normal_2 : decode cX3_normal 2 = .ok (.iand, 1) := dk_126 (dk_at dksX3_normal_0 2 rfl rfl)
theorem dX3_normal_3 : decode cX3_normal 3 = .ok (.istore_n 2, 1) := dk_61 (dk_at dksX3_normal_0 3 rfl rfl)
theorem dX3_normal_4 : decode cX3_normal 4 = .ok (.aload_n 0, 1) := dk_42 (dk_at dksX3_normal_0 4 rfl rfl)
theorem dX3_normal_5 : decode cX3_normal 5 = .ok (.iload_n 2, 1) := dk_28 (dk_at dksX3_normal_0 5 rfl rfl)
theorem dX3_normal_6 : decode cX3_normal 6 = .ok (.invokevirtual 30, 3) := dk_182 0 30 (dk_at dksX3_normal_0 6 rfl rfl)
theorem dX3_normal_9 : decode cX3_normal 9 = .ok (.ifCond .eq 5, 3) := dk_153 0 5 (dk_at dksX3_normal_0 9 rfl rfl)
theorem dX3_normal_12 : decode cX3_normal 12 = .ok (.iconst 0, 1) := dk_3 (dk_at dksX3_normal_0 12 rfl rfl)
theorem dX3_normal_13 : decode cX3_normal 13 = .ok (.ireturn, 1) := dk_172 (dk_at dksX3_normal_0 13 rfl rfl)
theorem dX3_normal_14 : decode cX3_normal 14 = .ok (.aload_n 0, 1) := dk_42 (dk_at dksX3_normal_0 14 rfl rfl)
theorem dX3_normal_15 : decode cX3_normal 15 = .ok (.iload_n 2, 1) := dk_28 (dk_at dksX3_normal_0 15 rfl rfl)
theorem dX3_normal_16 : decode cX3_normal 16 = .ok (.invokevirtual 40, 3) := dk_182 0 40 (dk_at dksX3_normal_0 16 rfl rfl)
theorem dX3_normal_19 : decode cX3_normal 19 = .ok (.lstore_n 3, 1) := dk_66 (dk_at dksX3_normal_0 19 rfl rfl)
theorem dX3_normal_20 : decode cX3_normal 20 = .ok (.aload_n 0, 1) := dk_42 (dk_at dksX3_normal_0 20 rfl rfl)
theorem dX3_normal_21 : decode cX3_normal 21 = .ok (.getfield 7, 3) := dk_180 0 7 (dk_at dksX3_normal_0 21 rfl rfl)
theorem dX3_normal_24 : decode cX3_normal 24 = .ok (.iload_n 2, 1) := dk_28 (dk_at dksX3_normal_1 0 rfl rfl)
theorem dX3_normal_25 : decode cX3_normal 25 = .ok (.lload_n 3, 1) := dk_33 (dk_at dksX3_normal_1 1 rfl rfl)
theorem dX3_normal_26 : decode cX3_normal 26 = .ok (.ldc2_w 44, 3) := dk_20 0 44 (dk_at dksX3_normal_1 2 rfl rfl)
theorem dX3_normal_29 : decode cX3_normal 29 = .ok (.ldiv, 1) := dk_109 (dk_at dksX3_normal_1 5 rfl rfl)
theorem dX3_normal_30 : decode cX3_normal 30 = .ok (.l2i, 1) := dk_136 (dk_at dksX3_normal_1 6 rfl rfl)
theorem dX3_normal_31 : decode cX3_normal 31 = .ok (.iastore, 1) := dk_79 (dk_at dksX3_normal_1 7 rfl rfl)
theorem dX3_normal_32 : decode cX3_normal 32 = .ok (.aload_n 0, 1) := dk_42 (dk_at dksX3_normal_1 8 rfl rfl)
theorem dX3_normal_33 : decode cX3_normal 33 = .ok (.getfield 13, 3) := dk_180 0 13 (dk_at dksX3_normal_1 9 rfl rfl)
theorem dX3_normal_36 : decode cX3_normal 36 = .ok (.iload_n 2, 1) := dk_28 (dk_at dksX3_normal_1 12 rfl rfl)
theorem dX3_normal_37 : decode cX3_normal 37 = .ok (.lload_n 3, 1) := dk_33 (dk_at dksX3_normal_1 13 rfl rfl)
theorem dX3_normal_38 : decode cX3_normal 38 = .ok (.ldc2_w 44, 3) := dk_20 0 44 (dk_at dksX3_normal_1 14 rfl rfl)
theorem dX3_normal_41 : decode cX3_normal 41 = .ok (.lrem, 1) := dk_113 (dk_at dksX3_normal_1 17 rfl rfl)
theorem dX3_normal_42 : decode cX3_normal 42 = .ok (.l2i, 1) := dk_136 (dk_at dksX3_normal_1 18 rfl rfl)
theorem dX3_normal_43 : decode cX3_normal 43 = .ok (.iastore, 1) := dk_79 (dk_at dksX3_normal_1 19 rfl rfl)
theorem dX3_normal_44 : decode cX3_normal 44 = .ok (.iconst 1, 1) := dk_4 (dk_at dksX3_normal_1 20 rfl rfl)
theorem dX3_normal_45 : decode cX3_normal 45 = .ok (.ireturn, 1) := dk_172 (dk_at dksX3_normal_1 21 rfl rfl)
abbrev cX3_all : ByteArray := prog_11_method_18_code
def yX3_all : MethodName := ⟨RX3, "all", "(I)J"⟩
def dkwX3_all_0 : List UInt8 := [20, 0, 44, 42, 180, 0, 7, 27, 4, 126, 46, 133, 105, 42, 180, 0, 13, 27, 4, 126, 46, 133, 97, 173]
abbrev dktX3_all_0 : List UInt8 := dkwX3_all_0 ++ []
theorem dksX3_all_0 : cX3_all.data.toList.drop 0 = dktX3_all_0 := by decide +kernel
theorem dX3_all_0 : decode cX3_all 0 = .ok (.ldc2_w 44, 3) := dk_20 0 44 (dk_at dksX3_all_0 0 rfl rfl)
theorem dX3_all_3 : decode cX3_all 3 = .ok (.aload_n 0, 1) := dk_42 (dk_at dksX3_all_0 3 rfl rfl)
theorem dX3_all_4 : decode cX3_all 4 = .ok (.getfield 7, 3) := dk_180 0 7 (dk_at dksX3_all_0 4 rfl rfl)
theorem dX3_all_7 : decode cX3_all 7 = .ok (.iload_n 1, 1) := dk_27 (dk_at dksX3_all_0 7 rfl rfl)
theorem dX3_all_8 : decode cX3_all 8 = .ok (.iconst 1, 1) := dk_4 (dk_at dksX3_all_0 8 rfl rfl)
theorem dX3_all_9 : decode cX3_all 9 = .ok (.iand, 1) := dk_126 (dk_at dksX3_all_0 9 rfl rfl)
theorem dX3_all_10 : decode cX3_all 10 = .ok (.iaload, 1) := dk_46 (dk_at dksX3_all_0 10 rfl rfl)
theorem dX3_all_11 : decode cX3_all 11 = .ok (.i2l, 1) := dk_133 (dk_at dksX3_all_0 11 rfl rfl)
theorem dX3_all_12 : decode cX3_all 12 = .ok (.lmul, 1) := dk_105 (dk_at dksX3_all_0 12 rfl rfl)
theorem dX3_all_13 : decode cX3_all 13 = .ok (.aload_n 0, 1) := dk_42 (dk_at dksX3_all_0 13 rfl rfl)
theorem dX3_all_14 : decode cX3_all 14 = .ok (.getfield 13, 3) := dk_180 0 13 (dk_at dksX3_all_0 14 rfl rfl)
theorem dX3_all_17 : decode cX3_all 17 = .ok (.iload_n 1, 1) := dk_27 (dk_at dksX3_all_0 17 rfl rfl)
theorem dX3_all_18 : decode cX3_all 18 = .ok (.iconst 1, 1) := dk_4 (dk_at dksX3_all_0 18 rfl rfl)
theorem dX3_all_19 : decode cX3_all 19 = .ok (.iand, 1) := dk_126 (dk_at dksX3_all_0 19 rfl rfl)
theorem dX3_all_20 : decode cX3_all 20 = .ok (.iaload, 1) := dk_46 (dk_at dksX3_all_0 20 rfl rfl)
theorem dX3_all_21 : decode cX3_all 21 = .ok (.i2l, 1) := dk_133 (dk_at dksX3_all_0 21 rfl rfl)
theorem dX3_all_22 : decode cX3_all 22 = .ok (.ladd, 1) := dk_97 (dk_at dksX3_all_0 22 rfl rfl)
theorem dX3_all_23 : decode cX3_all 23 = .ok (.lreturn, 1) := dk_173 (dk_at dksX3_all_0 23 rfl rfl)
abbrev cX3_days : ByteArray := prog_11_method_13_code
def yX3_days : MethodName := ⟨RX3, "days", "(II)Z"⟩
def dkwX3_days_1 : List UInt8 := [184, 0, 20, 96, 79, 4, 172]
abbrev dktX3_days_1 : List UInt8 := dkwX3_days_1 ++ []
def dkwX3_days_0 : List UInt8 := [27, 4, 126, 62, 42, 29, 182, 0, 30, 153, 0, 5, 3, 172, 42, 180, 0, 16, 29, 92, 46, 28]
abbrev dktX3_days_0 : List UInt8 := dkwX3_days_0 ++ dktX3_days_1
theorem dksX3_days_0 : cX3_days.data.toList.drop 0 = dktX3_days_0 := by decide +kernel
theorem dksX3_days_1 : cX3_days.data.toList.drop 22 = dktX3_days_1 := dk_seg dksX3_days_0 22 rfl rfl
theorem dX3_days_0 : decode cX3_days 0 = .ok (.iload_n 1, 1) := dk_27 (dk_at dksX3_days_0 0 rfl rfl)
theorem dX3_days_1 : decode cX3_days 1 = .ok (.iconst 1, 1) := dk_4 (dk_at dksX3_days_0 1 rfl rfl)
theorem dX3_days_2 : decode cX3_days 2 = .ok (.iand, 1) := dk_126 (dk_at dksX3_days_0 2 rfl rfl)
theorem dX3_days_3 : decode cX3_days 3 = .ok (.istore_n 3, 1) := dk_62 (dk_at dksX3_days_0 3 rfl rfl)
theorem dX3_days_4 : decode cX3_days 4 = .ok (.aload_n 0, 1) := dk_42 (dk_at dksX3_days_0 4 rfl rfl)
theorem dX3_days_5 : decode cX3_days 5 = .ok (.iload_n 3, 1) := dk_29 (dk_at dksX3_days_0 5 rfl rfl)
theorem dX3_days_6 : decode cX3_days 6 = .ok (.invokevirtual 30, 3) := dk_182 0 30 (dk_at dksX3_days_0 6 rfl rfl)
theorem dX3_days_9 : decode cX3_days 9 = .ok (.ifCond .eq 5, 3) := dk_153 0 5 (dk_at dksX3_days_0 9 rfl rfl)
theorem dX3_days_12 : decode cX3_days 12 = .ok (.iconst 0, 1) := dk_3 (dk_at dksX3_days_0 12 rfl rfl)
theorem dX3_days_13 : decode cX3_days 13 = .ok (.ireturn, 1) := dk_172 (dk_at dksX3_days_0 13 rfl rfl)
theorem dX3_days_14 : decode cX3_days 14 = .ok (.aload_n 0, 1) := dk_42 (dk_at dksX3_days_0 14 rfl rfl)
theorem dX3_days_15 : decode cX3_days 15 = .ok (.getfield 16, 3) := dk_180 0 16 (dk_at dksX3_days_0 15 rfl rfl)
theorem dX3_days_18 : decode cX3_days 18 = .ok (.iload_n 3, 1) := dk_29 (dk_at dksX3_days_0 18 rfl rfl)
theorem dX3_days_19 : decode cX3_days 19 = .ok (.dup2, 1) := dk_92 (dk_at dksX3_days_0 19 rfl rfl)
theorem dX3_days_20 : decode cX3_days 20 = .ok (.iaload, 1) := dk_46 (dk_at dksX3_days_0 20 rfl rfl)
theorem dX3_days_21 : decode cX3_days 21 = .ok (.iload_n 2, 1) := dk_28 (dk_at dksX3_days_0 21 rfl rfl)
theorem dX3_days_22 : decode cX3_days 22 = .ok (.invokestatic 20, 3) := dk_184 0 20 (dk_at dksX3_days_1 0 rfl rfl)
theorem dX3_days_25 : decode cX3_days 25 = .ok (.iadd, 1) := dk_96 (dk_at dksX3_days_1 3 rfl rfl)
theorem dX3_days_26 : decode cX3_days 26 = .ok (.iastore, 1) := dk_79 (dk_at dksX3_days_1 4 rfl rfl)
theorem dX3_days_27 : decode cX3_days 27 = .ok (.iconst 1, 1) := dk_4 (dk_at dksX3_days_1 5 rfl rfl)
theorem dX3_days_28 : decode cX3_days 28 = .ok (.ireturn, 1) := dk_172 (dk_at dksX3_days_1 6 rfl rfl)
abbrev cX3_months : ByteArray := prog_11_method_14_code
def yX3_months : MethodName := ⟨RX3, "months", "(II)Z"⟩
def dkwX3_months_1 : List UInt8 := [184, 0, 20, 96, 79, 4, 172]
abbrev dktX3_months_1 : List UInt8 := dkwX3_months_1 ++ []
def dkwX3_months_0 : List UInt8 := [27, 4, 126, 62, 42, 29, 182, 0, 30, 153, 0, 5, 3, 172, 42, 180, 0, 13, 29, 92, 46, 28]
abbrev dktX3_months_0 : List UInt8 := dkwX3_months_0 ++ dktX3_months_1
theorem dksX3_months_0 : cX3_months.data.toList.drop 0 = dktX3_months_0 := by decide +kernel
theorem dksX3_months_1 : cX3_months.data.toList.drop 22 = dktX3_months_1 := dk_seg dksX3_months_0 22 rfl rfl
theorem dX3_months_0 : decode cX3_months 0 = .ok (.iload_n 1, 1) := dk_27 (dk_at dksX3_months_0 0 rfl rfl)
theorem dX3_months_1 : decode cX3_months 1 = .ok (.iconst 1, 1) := dk_4 (dk_at dksX3_months_0 1 rfl rfl)
theorem dX3_months_2 : decode cX3_months 2 = .ok (.iand, 1) := dk_126 (dk_at dksX3_months_0 2 rfl rfl)
theorem dX3_months_3 : decode cX3_months 3 = .ok (.istore_n 3, 1) := dk_62 (dk_at dksX3_months_0 3 rfl rfl)
theorem dX3_months_4 : decode cX3_months 4 = .ok (.aload_n 0, 1) := dk_42 (dk_at dksX3_months_0 4 rfl rfl)
theorem dX3_months_5 : decode cX3_months 5 = .ok (.iload_n 3, 1) := dk_29 (dk_at dksX3_months_0 5 rfl rfl)
theorem dX3_months_6 : decode cX3_months 6 = .ok (.invokevirtual 30, 3) := dk_182 0 30 (dk_at dksX3_months_0 6 rfl rfl)
theorem dX3_months_9 : decode cX3_months 9 = .ok (.ifCond .eq 5, 3) := dk_153 0 5 (dk_at dksX3_months_0 9 rfl rfl)
theorem dX3_months_12 : decode cX3_months 12 = .ok (.iconst 0, 1) := dk_3 (dk_at dksX3_months_0 12 rfl rfl)
theorem dX3_months_13 : decode cX3_months 13 = .ok (.ireturn, 1) := dk_172 (dk_at dksX3_months_0 13 rfl rfl)
theorem dX3_months_14 : decode cX3_months 14 = .ok (.aload_n 0, 1) := dk_42 (dk_at dksX3_months_0 14 rfl rfl)
theorem dX3_months_15 : decode cX3_months 15 = .ok (.getfield 13, 3) := dk_180 0 13 (dk_at dksX3_months_0 15 rfl rfl)
theorem dX3_months_18 : decode cX3_months 18 = .ok (.iload_n 3, 1) := dk_29 (dk_at dksX3_months_0 18 rfl rfl)
theorem dX3_months_19 : decode cX3_months 19 = .ok (.dup2, 1) := dk_92 (dk_at dksX3_months_0 19 rfl rfl)
theorem dX3_months_20 : decode cX3_months 20 = .ok (.iaload, 1) := dk_46 (dk_at dksX3_months_0 20 rfl rfl)
theorem dX3_months_21 : decode cX3_months 21 = .ok (.iload_n 2, 1) := dk_28 (dk_at dksX3_months_0 21 rfl rfl)
theorem dX3_months_22 : decode cX3_months 22 = .ok (.invokestatic 20, 3) := dk_184 0 20 (dk_at dksX3_months_1 0 rfl rfl)
theorem dX3_months_25 : decode cX3_months 25 = .ok (.iadd, 1) := dk_96 (dk_at dksX3_months_1 3 rfl rfl)
theorem dX3_months_26 : decode cX3_months 26 = .ok (.iastore, 1) := dk_79 (dk_at dksX3_months_1 4 rfl rfl)
theorem dX3_months_27 : decode cX3_months 27 = .ok (.iconst 1, 1) := dk_4 (dk_at dksX3_months_1 5 rfl rfl)
theorem dX3_months_28 : decode cX3_months 28 = .ok (.ireturn, 1) := dk_172 (dk_at dksX3_months_1 6 rfl rfl)
abbrev cX3_years : ByteArray := prog_11_method_15_code
def yX3_years : MethodName := ⟨RX3, "years", "(I)I"⟩
def dkwX3_years_0 : List UInt8 := [42, 180, 0, 7, 27, 4, 126, 46, 172]
abbrev dktX3_years_0 : List UInt8 := dkwX3_years_0 ++ []
theorem dksX3_years_0 : cX3_years.data.toList.drop 0 = dktX3_years_0 := by decide +kernel
theorem dX3_years_0 : decode cX3_years 0 = .ok (.aload_n 0, 1) := dk_42 (dk_at dksX3_years_0 0 rfl rfl)
theorem dX3_years_1 : decode cX3_years 1 = .ok (.getfield 7, 3) := dk_180 0 7 (dk_at dksX3_years_0 1 rfl rfl)
theorem dX3_years_4 : decode cX3_years 4 = .ok (.iload_n 1, 1) := dk_27 (dk_at dksX3_years_0 4 rfl rfl)
theorem dX3_years_5 : decode cX3_years 5 = .ok (.iconst 1, 1) := dk_4 (dk_at dksX3_years_0 5 rfl rfl)
theorem dX3_years_6 : decode cX3_years 6 = .ok (.iand, 1) := dk_126 (dk_at dksX3_years_0 6 rfl rfl)
theorem dX3_years_7 : decode cX3_years 7 = .ok (.iaload, 1) := dk_46 (dk_at dksX3_years_0 7 rfl rfl)
theorem dX3_years_8 : decode cX3_years 8 = .ok (.ireturn, 1) := dk_172 (dk_at dksX3_years_0 8 rfl rfl)
abbrev cX3_month : ByteArray := prog_11_method_16_code
def yX3_month : MethodName := ⟨RX3, "month", "(I)I"⟩
def dkwX3_month_0 : List UInt8 := [42, 180, 0, 13, 27, 4, 126, 46, 172]
abbrev dktX3_month_0 : List UInt8 := dkwX3_month_0 ++ []
theorem dksX3_month_0 : cX3_month.data.toList.drop 0 = dktX3_month_0 := by decide +kernel
theorem dX3_month_0 : decode cX3_month 0 = .ok (.aload_n 0, 1) := dk_42 (dk_at dksX3_month_0 0 rfl rfl)
theorem dX3_month_1 : decode cX3_month 1 = .ok (.getfield 13, 3) := dk_180 0 13 (dk_at dksX3_month_0 1 rfl rfl)
theorem dX3_month_4 : decode cX3_month 4 = .ok (.iload_n 1, 1) := dk_27 (dk_at dksX3_month_0 4 rfl rfl)
theorem dX3_month_5 : decode cX3_month 5 = .ok (.iconst 1, 1) := dk_4 (dk_at dksX3_month_0 5 rfl rfl)
theorem dX3_month_6 : decode cX3_month 6 = .ok (.iand, 1) := dk_126 (dk_at dksX3_month_0 6 rfl rfl)
theorem dX3_month_7 : decode cX3_month 7 = .ok (.iaload, 1) := dk_46 (dk_at dksX3_month_0 7 rfl rfl)
theorem dX3_month_8 : decode cX3_month 8 = .ok (.ireturn, 1) := dk_172 (dk_at dksX3_month_0 8 rfl rfl)
abbrev cX3_day : ByteArray := prog_11_method_17_code
def yX3_day : MethodName := ⟨RX3, "day", "(I)I"⟩
def dkwX3_day_0 : List UInt8 := [42, 180, 0, 16, 27, 4, 126, 46, 172]
abbrev dktX3_day_0 : List UInt8 := dkwX3_day_0 ++ []
theorem dksX3_day_0 : cX3_day.data.toList.drop 0 = dktX3_day_0 := by decide +kernel
theorem dX3_day_0 : decode cX3_day 0 = .ok (.aload_n 0, 1) := dk_42 (dk_at dksX3_day_0 0 rfl rfl)
theorem dX3_day_1 : decode cX3_day 1 = .ok (.getfield 16, 3) := dk_180 0 16 (dk_at dksX3_day_0 1 rfl rfl)
theorem dX3_day_4 : decode cX3_day 4 = .ok (.iload_n 1, 1) := dk_27 (dk_at dksX3_day_0 4 rfl rfl)
theorem dX3_day_5 : decode cX3_day 5 = .ok (.iconst 1, 1) := dk_4 (dk_at dksX3_day_0 5 rfl rfl)
theorem dX3_day_6 : decode cX3_day 6 = .ok (.iand, 1) := dk_126 (dk_at dksX3_day_0 6 rfl rfl)
theorem dX3_day_7 : decode cX3_day 7 = .ok (.iaload, 1) := dk_46 (dk_at dksX3_day_0 7 rfl rfl)
theorem dX3_day_8 : decode cX3_day 8 = .ok (.ireturn, 1) := dk_172 (dk_at dksX3_day_0 8 rfl rfl)
abbrev cX3_below : ByteArray := prog_11_method_19_code
def yX3_below : MethodName := ⟨RX3, "below", "(I)Z"⟩
def dkwX3_below_1 : List UInt8 := [180, 0, 16, 28, 46, 156, 0, 7, 4, 167, 0, 4, 3, 172]
abbrev dktX3_below_1 : List UInt8 := dkwX3_below_1 ++ []
def dkwX3_below_0 : List UInt8 := [27, 4, 126, 61, 42, 180, 0, 7, 28, 46, 155, 0, 21, 42, 180, 0, 13, 28, 46, 155, 0, 12, 42]
abbrev dktX3_below_0 : List UInt8 := dkwX3_below_0 ++ dktX3_below_1
theorem dksX3_below_0 : cX3_below.data.toList.drop 0 = dktX3_below_0 := by decide +kernel
theorem dksX3_below_1 : cX3_below.data.toList.drop 23 = dktX3_below_1 := dk_seg dksX3_below_0 23 rfl rfl
theorem dX3_below_0 : decode cX3_below 0 = .ok (.iload_n 1, 1) := dk_27 (dk_at dksX3_below_0 0 rfl rfl)
theorem dX3_below_1 : decode cX3_below 1 = .ok (.iconst 1, 1) := dk_4 (dk_at dksX3_below_0 1 rfl rfl)
theorem dX3_below_2 : decode cX3_below 2 = .ok (.iand, 1) := dk_126 (dk_at dksX3_below_0 2 rfl rfl)
theorem dX3_below_3 : decode cX3_below 3 = .ok (.istore_n 2, 1) := dk_61 (dk_at dksX3_below_0 3 rfl rfl)
theorem dX3_below_4 : decode cX3_below 4 = .ok (.aload_n 0, 1) := dk_42 (dk_at dksX3_below_0 4 rfl rfl)
theorem dX3_below_5 : decode cX3_below 5 = .ok (.getfield 7, 3) := dk_180 0 7 (dk_at dksX3_below_0 5 rfl rfl)
theorem dX3_below_8 : decode cX3_below 8 = .ok (.iload_n 2, 1) := dk_28 (dk_at dksX3_below_0 8 rfl rfl)
theorem dX3_below_9 : decode cX3_below 9 = .ok (.iaload, 1) := dk_46 (dk_at dksX3_below_0 9 rfl rfl)
theorem dX3_below_10 : decode cX3_below 10 = .ok (.ifCond .lt 21, 3) := dk_155 0 21 (dk_at dksX3_below_0 10 rfl rfl)
theorem dX3_below_13 : decode cX3_below 13 = .ok (.aload_n 0, 1) := dk_42 (dk_at dksX3_below_0 13 rfl rfl)
theorem dX3_below_14 : decode cX3_below 14 = .ok (.getfield 13, 3) := dk_180 0 13 (dk_at dksX3_below_0 14 rfl rfl)
theorem dX3_below_17 : decode cX3_below 17 = .ok (.iload_n 2, 1) := dk_28 (dk_at dksX3_below_0 17 rfl rfl)
theorem dX3_below_18 : decode cX3_below 18 = .ok (.iaload, 1) := dk_46 (dk_at dksX3_below_0 18 rfl rfl)
theorem dX3_below_19 : decode cX3_below 19 = .ok (.ifCond .lt 12, 3) := dk_155 0 12 (dk_at dksX3_below_0 19 rfl rfl)
theorem dX3_below_22 : decode cX3_below 22 = .ok (.aload_n 0, 1) := dk_42 (dk_at dksX3_below_0 22 rfl rfl)
theorem dX3_below_23 : decode cX3_below 23 = .ok (.getfield 16, 3) := dk_180 0 16 (dk_at dksX3_below_1 0 rfl rfl)
theorem dX3_below_26 : decode cX3_below 26 = .ok (.iload_n 2, 1) := dk_28 (dk_at dksX3_below_1 3 rfl rfl)
theorem dX3_below_27 : decode cX3_below 27 = .ok (.iaload, 1) := dk_46 (dk_at dksX3_below_1 4 rfl rfl)
theorem dX3_below_28 : decode cX3_below 28 = .ok (.ifCond .ge 7, 3) := dk_156 0 7 (dk_at dksX3_below_1 5 rfl rfl)
theorem dX3_below_31 : decode cX3_below 31 = .ok (.iconst 1, 1) := dk_4 (dk_at dksX3_below_1 8 rfl rfl)
theorem dX3_below_32 : decode cX3_below 32 = .ok (.goto 4, 3) := dk_167 0 4 (dk_at dksX3_below_1 9 rfl rfl)
theorem dX3_below_35 : decode cX3_below 35 = .ok (.iconst 0, 1) := dk_3 (dk_at dksX3_below_1 12 rfl rfl)
theorem dX3_below_36 : decode cX3_below 36 = .ok (.ireturn, 1) := dk_172 (dk_at dksX3_below_1 13 rfl rfl)
abbrev cX3_nought : ByteArray := prog_11_method_20_code
def yX3_nought : MethodName := ⟨RX3, "nought", "(I)Z"⟩
def dkwX3_nought_1 : List UInt8 := [180, 0, 16, 28, 46, 154, 0, 7, 4, 167, 0, 4, 3, 172]
abbrev dktX3_nought_1 : List UInt8 := dkwX3_nought_1 ++ []
def dkwX3_nought_0 : List UInt8 := [27, 4, 126, 61, 42, 180, 0, 7, 28, 46, 154, 0, 25, 42, 180, 0, 13, 28, 46, 154, 0, 16, 42]
abbrev dktX3_nought_0 : List UInt8 := dkwX3_nought_0 ++ dktX3_nought_1
theorem dksX3_nought_0 : cX3_nought.data.toList.drop 0 = dktX3_nought_0 := by decide +kernel
theorem dksX3_nought_1 : cX3_nought.data.toList.drop 23 = dktX3_nought_1 := dk_seg dksX3_nought_0 23 rfl rfl
theorem dX3_nought_0 : decode cX3_nought 0 = .ok (.iload_n 1, 1) := dk_27 (dk_at dksX3_nought_0 0 rfl rfl)
theorem dX3_nought_1 : decode cX3_nought 1 = .ok (.iconst 1, 1) := dk_4 (dk_at dksX3_nought_0 1 rfl rfl)
theorem dX3_nought_2 : decode cX3_nought 2 = .ok (.iand, 1) := dk_126 (dk_at dksX3_nought_0 2 rfl rfl)
theorem dX3_nought_3 : decode cX3_nought 3 = .ok (.istore_n 2, 1) := dk_61 (dk_at dksX3_nought_0 3 rfl rfl)
theorem dX3_nought_4 : decode cX3_nought 4 = .ok (.aload_n 0, 1) := dk_42 (dk_at dksX3_nought_0 4 rfl rfl)
theorem dX3_nought_5 : decode cX3_nought 5 = .ok (.getfield 7, 3) := dk_180 0 7 (dk_at dksX3_nought_0 5 rfl rfl)
theorem dX3_nought_8 : decode cX3_nought 8 = .ok (.iload_n 2, 1) := dk_28 (dk_at dksX3_nought_0 8 rfl rfl)
theorem dX3_nought_9 : decode cX3_nought 9 = .ok (.iaload, 1) := dk_46 (dk_at dksX3_nought_0 9 rfl rfl)
theorem dX3_nought_10 : decode cX3_nought 10 = .ok (.ifCond .ne 25, 3) := dk_154 0 25 (dk_at dksX3_nought_0 10 rfl rfl)
theorem dX3_nought_13 : decode cX3_nought 13 = .ok (.aload_n 0, 1) := dk_42 (dk_at dksX3_nought_0 13 rfl rfl)
theorem dX3_nought_14 : decode cX3_nought 14 = .ok (.getfield 13, 3) := dk_180 0 13 (dk_at dksX3_nought_0 14 rfl rfl)
theorem dX3_nought_17 : decode cX3_nought 17 = .ok (.iload_n 2, 1) := dk_28 (dk_at dksX3_nought_0 17 rfl rfl)
theorem dX3_nought_18 : decode cX3_nought 18 = .ok (.iaload, 1) := dk_46 (dk_at dksX3_nought_0 18 rfl rfl)
theorem dX3_nought_19 : decode cX3_nought 19 = .ok (.ifCond .ne 16, 3) := dk_154 0 16 (dk_at dksX3_nought_0 19 rfl rfl)
theorem dX3_nought_22 : decode cX3_nought 22 = .ok (.aload_n 0, 1) := dk_42 (dk_at dksX3_nought_0 22 rfl rfl)
theorem dX3_nought_23 : decode cX3_nought 23 = .ok (.getfield 16, 3) := dk_180 0 16 (dk_at dksX3_nought_1 0 rfl rfl)
theorem dX3_nought_26 : decode cX3_nought 26 = .ok (.iload_n 2, 1) := dk_28 (dk_at dksX3_nought_1 3 rfl rfl)
theorem dX3_nought_27 : decode cX3_nought 27 = .ok (.iaload, 1) := dk_46 (dk_at dksX3_nought_1 4 rfl rfl)
theorem dX3_nought_28 : decode cX3_nought 28 = .ok (.ifCond .ne 7, 3) := dk_154 0 7 (dk_at dksX3_nought_1 5 rfl rfl)
theorem dX3_nought_31 : decode cX3_nought 31 = .ok (.iconst 1, 1) := dk_4 (dk_at dksX3_nought_1 8 rfl rfl)
theorem dX3_nought_32 : decode cX3_nought 32 = .ok (.goto 4, 3) := dk_167 0 4 (dk_at dksX3_nought_1 9 rfl rfl)
theorem dX3_nought_35 : decode cX3_nought 35 = .ok (.iconst 0, 1) := dk_3 (dk_at dksX3_nought_1 12 rfl rfl)
theorem dX3_nought_36 : decode cX3_nought 36 = .ok (.ireturn, 1) := dk_172 (dk_at dksX3_nought_1 13 rfl rfl)
theorem q10 : (Jvm.Cond.initialized "PeriodDeskModel") ∈ lw_all := lw_g (lw_at lw_m1 4 rfl) rfl
theorem q759 : (Jvm.Cond.instantiable "PeriodDeskModel" (3 : Nat)) ∈ lw_all := lw_g (lw_at lw_m4 33 rfl) rfl
theorem q761 : (Jvm.Cond.instanceMethod ({ cls := "PeriodDeskModel", name := "<init>", desc := "()V" } : Jvm.MethodName)) ∈ lw_all := lw_g (lw_at lw_m4 35 rfl) rfl
theorem q762 : (Jvm.Cond.code ({ cls := "PeriodDeskModel", name := "<init>", desc := "()V" } : Jvm.MethodName) prog_11_method_1_code (1 : Nat) (Option.none : Option Jvm.ClassFile.FieldType)) ∈ lw_all := lw_g (lw_at lw_m4 36 rfl) rfl
theorem q763 : (Jvm.Cond.methodLink "PeriodDeskModel" (1 : Nat) ({ cls := "java/lang/Object", name := "<init>", desc := "()V" } : Jvm.MethodName)) ∈ lw_all := lw_g (lw_at lw_m4 37 rfl) rfl
theorem q764 : (Jvm.Cond.fieldLink "PeriodDeskModel" (7 : Nat) "PeriodDeskModel" "years" "[I") ∈ lw_all := lw_g (lw_at lw_m4 38 rfl) rfl
theorem q765 : (Jvm.Cond.fieldLink "PeriodDeskModel" (13 : Nat) "PeriodDeskModel" "months" "[I") ∈ lw_all := lw_g (lw_at lw_m4 39 rfl) rfl
theorem q766 : (Jvm.Cond.fieldLink "PeriodDeskModel" (16 : Nat) "PeriodDeskModel" "days" "[I") ∈ lw_all := lw_g (lw_at lw_m4 40 rfl) rfl
theorem q767 : (Jvm.Cond.laysFinal "PeriodDeskModel" "PeriodDeskModel" "years" "[I") ∈ lw_all := lw_g (lw_at lw_m4 41 rfl) rfl
theorem q768 : (Jvm.Cond.soleField "PeriodDeskModel" "years") ∈ lw_all := lw_g (lw_at lw_m4 42 rfl) rfl
theorem q769 : (Jvm.Cond.laysFinal "PeriodDeskModel" "PeriodDeskModel" "months" "[I") ∈ lw_all := lw_g (lw_at lw_m4 43 rfl) rfl
theorem q770 : (Jvm.Cond.soleField "PeriodDeskModel" "months") ∈ lw_all := lw_g (lw_at lw_m4 44 rfl) rfl
theorem q771 : (Jvm.Cond.laysFinal "PeriodDeskModel" "PeriodDeskModel" "days" "[I") ∈ lw_all := lw_g (lw_at lw_m4 45 rfl) rfl
theorem q772 : (Jvm.Cond.soleField "PeriodDeskModel" "days") ∈ lw_all := lw_g (lw_at lw_m4 46 rfl) rfl
theorem q773 : (Jvm.Cond.superclass "PeriodDeskModel" "java/lang/Object") ∈ lw_all := lw_g (lw_at lw_m4 47 rfl) rfl
theorem q776 : (Jvm.Cond.instanceMethod ({ cls := "PeriodDeskModel", name := "set", desc := "(IIII)V" } : Jvm.MethodName)) ∈ lw_all := lw_g (lw_at lw_m4 50 rfl) rfl
theorem q777 : (Jvm.Cond.selects "PeriodDeskModel" ({ cls := "PeriodDeskModel", name := "set", desc := "(IIII)V" } : Jvm.MethodName) ({ cls := "PeriodDeskModel", name := "set", desc := "(IIII)V" } : Jvm.MethodName)) ∈ lw_all := lw_g (lw_at lw_m4 51 rfl) rfl
theorem q778 : (Jvm.Cond.code ({ cls := "PeriodDeskModel", name := "set", desc := "(IIII)V" } : Jvm.MethodName) prog_11_method_3_code (6 : Nat) (Option.none : Option Jvm.ClassFile.FieldType)) ∈ lw_all := lw_g (lw_at lw_m4 52 rfl) rfl
theorem q779 : (Jvm.Cond.methodLink "PeriodDeskModel" (20 : Nat) ({ cls := "PeriodDeskModel", name := "small", desc := "(I)I" } : Jvm.MethodName)) ∈ lw_all := lw_g (lw_at lw_m4 53 rfl) rfl
theorem q780 : (Jvm.Cond.static ({ cls := "PeriodDeskModel", name := "small", desc := "(I)I" } : Jvm.MethodName)) ∈ lw_all := lw_g (lw_at lw_m4 54 rfl) rfl
theorem q781 : (Jvm.Cond.code ({ cls := "PeriodDeskModel", name := "small", desc := "(I)I" } : Jvm.MethodName) prog_11_method_2_code (1 : Nat) (Option.some Jvm.ClassFile.FieldType.int)) ∈ lw_all := lw_g (lw_at lw_m4 55 rfl) rfl
theorem q782 : (Jvm.Cond.constant "PeriodDeskModel" (19 : Nat) (1000000 : Int32)) ∈ lw_all := lw_g (lw_at lw_m4 56 rfl) rfl
theorem q784 : (Jvm.Cond.instanceMethod ({ cls := "PeriodDeskModel", name := "plus", desc := "(I)Z" } : Jvm.MethodName)) ∈ lw_all := lw_g (lw_at lw_m4 58 rfl) rfl
theorem q785 : (Jvm.Cond.selects "PeriodDeskModel" ({ cls := "PeriodDeskModel", name := "plus", desc := "(I)Z" } : Jvm.MethodName) ({ cls := "PeriodDeskModel", name := "plus", desc := "(I)Z" } : Jvm.MethodName)) ∈ lw_all := lw_g (lw_at lw_m4 59 rfl) rfl
theorem q786 : (Jvm.Cond.code ({ cls := "PeriodDeskModel", name := "plus", desc := "(I)Z" } : Jvm.MethodName) prog_11_method_7_code (2 : Nat) (Option.some Jvm.ClassFile.FieldType.boolean)) ∈ lw_all := lw_g (lw_at lw_m4 60 rfl) rfl
theorem q787 : (Jvm.Cond.methodLink "PeriodDeskModel" (33 : Nat) ({ cls := "PeriodDeskModel", name := "adds", desc := "(II)Z" } : Jvm.MethodName)) ∈ lw_all := lw_g (lw_at lw_m4 61 rfl) rfl
theorem q788 : (Jvm.Cond.privateMethod ({ cls := "PeriodDeskModel", name := "adds", desc := "(II)Z" } : Jvm.MethodName)) ∈ lw_tbl := lw_at lw_m4 62 rfl
theorem q789 : (Jvm.Cond.instanceMethod ({ cls := "PeriodDeskModel", name := "adds", desc := "(II)Z" } : Jvm.MethodName)) ∈ lw_all := lw_g (lw_at lw_m4 63 rfl) rfl
theorem q790 : (Jvm.Cond.code ({ cls := "PeriodDeskModel", name := "adds", desc := "(II)Z" } : Jvm.MethodName) prog_11_method_6_code (4 : Nat) (Option.some Jvm.ClassFile.FieldType.boolean)) ∈ lw_all := lw_g (lw_at lw_m4 64 rfl) rfl
theorem q791 : (Jvm.Cond.methodLink "PeriodDeskModel" (30 : Nat) ({ cls := "PeriodDeskModel", name := "lacksRoom", desc := "(I)Z" } : Jvm.MethodName)) ∈ lw_all := lw_g (lw_at lw_m4 65 rfl) rfl
theorem q792 : (Jvm.Cond.privateMethod ({ cls := "PeriodDeskModel", name := "lacksRoom", desc := "(I)Z" } : Jvm.MethodName)) ∈ lw_tbl := lw_at lw_m4 66 rfl
theorem q793 : (Jvm.Cond.instanceMethod ({ cls := "PeriodDeskModel", name := "lacksRoom", desc := "(I)Z" } : Jvm.MethodName)) ∈ lw_all := lw_g (lw_at lw_m4 67 rfl) rfl
theorem q794 : (Jvm.Cond.code ({ cls := "PeriodDeskModel", name := "lacksRoom", desc := "(I)Z" } : Jvm.MethodName) prog_11_method_5_code (2 : Nat) (Option.some Jvm.ClassFile.FieldType.boolean)) ∈ lw_all := lw_g (lw_at lw_m4 68 rfl) rfl
theorem q795 : (Jvm.Cond.methodLink "PeriodDeskModel" (26 : Nat) ({ cls := "PeriodDeskModel", name := "isSmall", desc := "(I)Z" } : Jvm.MethodName)) ∈ lw_all := lw_g (lw_at lw_m4 69 rfl) rfl
theorem q796 : (Jvm.Cond.static ({ cls := "PeriodDeskModel", name := "isSmall", desc := "(I)Z" } : Jvm.MethodName)) ∈ lw_all := lw_g (lw_at lw_m4 70 rfl) rfl
theorem q797 : (Jvm.Cond.code ({ cls := "PeriodDeskModel", name := "isSmall", desc := "(I)Z" } : Jvm.MethodName) prog_11_method_4_code (1 : Nat) (Option.some Jvm.ClassFile.FieldType.boolean)) ∈ lw_all := lw_g (lw_at lw_m4 71 rfl) rfl
theorem q798 : (Jvm.Cond.constant "PeriodDeskModel" (24 : Nat) (500000000 : Int32)) ∈ lw_all := lw_g (lw_at lw_m4 72 rfl) rfl
theorem q799 : (Jvm.Cond.constant "PeriodDeskModel" (25 : Nat) (-500000000 : Int32)) ∈ lw_all := lw_g (lw_at lw_m4 73 rfl) rfl
theorem q801 : (Jvm.Cond.instanceMethod ({ cls := "PeriodDeskModel", name := "minus", desc := "(I)Z" } : Jvm.MethodName)) ∈ lw_all := lw_g (lw_at lw_m4 75 rfl) rfl
theorem q802 : (Jvm.Cond.selects "PeriodDeskModel" ({ cls := "PeriodDeskModel", name := "minus", desc := "(I)Z" } : Jvm.MethodName) ({ cls := "PeriodDeskModel", name := "minus", desc := "(I)Z" } : Jvm.MethodName)) ∈ lw_all := lw_g (lw_at lw_m4 76 rfl) rfl
theorem q803 : (Jvm.Cond.code ({ cls := "PeriodDeskModel", name := "minus", desc := "(I)Z" } : Jvm.MethodName) prog_11_method_8_code (2 : Nat) (Option.some Jvm.ClassFile.FieldType.boolean)) ∈ lw_all := lw_g (lw_at lw_m4 77 rfl) rfl
theorem q805 : (Jvm.Cond.instanceMethod ({ cls := "PeriodDeskModel", name := "times", desc := "(II)Z" } : Jvm.MethodName)) ∈ lw_all := lw_g (lw_at lw_m4 79 rfl) rfl
theorem q806 : (Jvm.Cond.selects "PeriodDeskModel" ({ cls := "PeriodDeskModel", name := "times", desc := "(II)Z" } : Jvm.MethodName) ({ cls := "PeriodDeskModel", name := "times", desc := "(II)Z" } : Jvm.MethodName)) ∈ lw_all := lw_g (lw_at lw_m4 80 rfl) rfl
theorem q807 : (Jvm.Cond.code ({ cls := "PeriodDeskModel", name := "times", desc := "(II)Z" } : Jvm.MethodName) prog_11_method_10_code (3 : Nat) (Option.some Jvm.ClassFile.FieldType.boolean)) ∈ lw_all := lw_g (lw_at lw_m4 81 rfl) rfl
theorem q808 : (Jvm.Cond.methodLink "PeriodDeskModel" (37 : Nat) ({ cls := "PeriodDeskModel", name := "takes", desc := "(II)Z" } : Jvm.MethodName)) ∈ lw_all := lw_g (lw_at lw_m4 82 rfl) rfl
theorem q809 : (Jvm.Cond.privateMethod ({ cls := "PeriodDeskModel", name := "takes", desc := "(II)Z" } : Jvm.MethodName)) ∈ lw_tbl := lw_at lw_m4 83 rfl
theorem q810 : (Jvm.Cond.instanceMethod ({ cls := "PeriodDeskModel", name := "takes", desc := "(II)Z" } : Jvm.MethodName)) ∈ lw_all := lw_g (lw_at lw_m4 84 rfl) rfl
theorem q811 : (Jvm.Cond.code ({ cls := "PeriodDeskModel", name := "takes", desc := "(II)Z" } : Jvm.MethodName) prog_11_method_9_code (4 : Nat) (Option.some Jvm.ClassFile.FieldType.boolean)) ∈ lw_all := lw_g (lw_at lw_m4 85 rfl) rfl
theorem q813 : (Jvm.Cond.instanceMethod ({ cls := "PeriodDeskModel", name := "turn", desc := "(I)Z" } : Jvm.MethodName)) ∈ lw_all := lw_g (lw_at lw_m4 87 rfl) rfl
theorem q814 : (Jvm.Cond.selects "PeriodDeskModel" ({ cls := "PeriodDeskModel", name := "turn", desc := "(I)Z" } : Jvm.MethodName) ({ cls := "PeriodDeskModel", name := "turn", desc := "(I)Z" } : Jvm.MethodName)) ∈ lw_all := lw_g (lw_at lw_m4 88 rfl) rfl
theorem q815 : (Jvm.Cond.code ({ cls := "PeriodDeskModel", name := "turn", desc := "(I)Z" } : Jvm.MethodName) prog_11_method_11_code (2 : Nat) (Option.some Jvm.ClassFile.FieldType.boolean)) ∈ lw_all := lw_g (lw_at lw_m4 89 rfl) rfl
theorem q817 : (Jvm.Cond.instanceMethod ({ cls := "PeriodDeskModel", name := "normal", desc := "(I)Z" } : Jvm.MethodName)) ∈ lw_all := lw_g (lw_at lw_m4 91 rfl) rfl
theorem q818 : (Jvm.Cond.selects "PeriodDeskModel" ({ cls := "PeriodDeskModel", name := "normal", desc := "(I)Z" } : Jvm.MethodName) ({ cls := "PeriodDeskModel", name := "normal", desc := "(I)Z" } : Jvm.MethodName)) ∈ lw_all := lw_g (lw_at lw_m4 92 rfl) rfl
theorem q819 : (Jvm.Cond.code ({ cls := "PeriodDeskModel", name := "normal", desc := "(I)Z" } : Jvm.MethodName) prog_11_method_12_code (5 : Nat) (Option.some Jvm.ClassFile.FieldType.boolean)) ∈ lw_all := lw_g (lw_at lw_m4 93 rfl) rfl
theorem q820 : (Jvm.Cond.methodLink "PeriodDeskModel" (40 : Nat) ({ cls := "PeriodDeskModel", name := "all", desc := "(I)J" } : Jvm.MethodName)) ∈ lw_all := lw_g (lw_at lw_m4 94 rfl) rfl
theorem q821 : (Jvm.Cond.instanceMethod ({ cls := "PeriodDeskModel", name := "all", desc := "(I)J" } : Jvm.MethodName)) ∈ lw_all := lw_g (lw_at lw_m4 95 rfl) rfl
theorem q822 : (Jvm.Cond.selects "PeriodDeskModel" ({ cls := "PeriodDeskModel", name := "all", desc := "(I)J" } : Jvm.MethodName) ({ cls := "PeriodDeskModel", name := "all", desc := "(I)J" } : Jvm.MethodName)) ∈ lw_all := lw_g (lw_at lw_m4 96 rfl) rfl
theorem q823 : (Jvm.Cond.code ({ cls := "PeriodDeskModel", name := "all", desc := "(I)J" } : Jvm.MethodName) prog_11_method_18_code (2 : Nat) (Option.some Jvm.ClassFile.FieldType.long)) ∈ lw_all := lw_g (lw_at lw_m4 97 rfl) rfl
theorem q824 : (Jvm.Cond.constantLong "PeriodDeskModel" (44 : Nat) (12 : Int64)) ∈ lw_all := lw_g (lw_at lw_m4 98 rfl) rfl
theorem q826 : (Jvm.Cond.instanceMethod ({ cls := "PeriodDeskModel", name := "days", desc := "(II)Z" } : Jvm.MethodName)) ∈ lw_all := lw_g (lw_at lw_m4 100 rfl) rfl
theorem q827 : (Jvm.Cond.selects "PeriodDeskModel" ({ cls := "PeriodDeskModel", name := "days", desc := "(II)Z" } : Jvm.MethodName) ({ cls := "PeriodDeskModel", name := "days", desc := "(II)Z" } : Jvm.MethodName)) ∈ lw_all := lw_g (lw_at lw_m4 101 rfl) rfl
theorem q828 : (Jvm.Cond.code ({ cls := "PeriodDeskModel", name := "days", desc := "(II)Z" } : Jvm.MethodName) prog_11_method_13_code (4 : Nat) (Option.some Jvm.ClassFile.FieldType.boolean)) ∈ lw_all := lw_g (lw_at lw_m4 102 rfl) rfl
theorem q830 : (Jvm.Cond.instanceMethod ({ cls := "PeriodDeskModel", name := "months", desc := "(II)Z" } : Jvm.MethodName)) ∈ lw_all := lw_g (lw_at lw_m4 104 rfl) rfl
theorem q831 : (Jvm.Cond.selects "PeriodDeskModel" ({ cls := "PeriodDeskModel", name := "months", desc := "(II)Z" } : Jvm.MethodName) ({ cls := "PeriodDeskModel", name := "months", desc := "(II)Z" } : Jvm.MethodName)) ∈ lw_all := lw_g (lw_at lw_m4 105 rfl) rfl
theorem q832 : (Jvm.Cond.code ({ cls := "PeriodDeskModel", name := "months", desc := "(II)Z" } : Jvm.MethodName) prog_11_method_14_code (4 : Nat) (Option.some Jvm.ClassFile.FieldType.boolean)) ∈ lw_all := lw_g (lw_at lw_m4 106 rfl) rfl
theorem q834 : (Jvm.Cond.instanceMethod ({ cls := "PeriodDeskModel", name := "years", desc := "(I)I" } : Jvm.MethodName)) ∈ lw_all := lw_g (lw_at lw_m4 108 rfl) rfl
theorem q835 : (Jvm.Cond.selects "PeriodDeskModel" ({ cls := "PeriodDeskModel", name := "years", desc := "(I)I" } : Jvm.MethodName) ({ cls := "PeriodDeskModel", name := "years", desc := "(I)I" } : Jvm.MethodName)) ∈ lw_all := lw_g (lw_at lw_m4 109 rfl) rfl
theorem q836 : (Jvm.Cond.code ({ cls := "PeriodDeskModel", name := "years", desc := "(I)I" } : Jvm.MethodName) prog_11_method_15_code (2 : Nat) (Option.some Jvm.ClassFile.FieldType.int)) ∈ lw_all := lw_g (lw_at lw_m4 110 rfl) rfl
theorem q838 : (Jvm.Cond.instanceMethod ({ cls := "PeriodDeskModel", name := "month", desc := "(I)I" } : Jvm.MethodName)) ∈ lw_all := lw_g (lw_at lw_m4 112 rfl) rfl
theorem q839 : (Jvm.Cond.selects "PeriodDeskModel" ({ cls := "PeriodDeskModel", name := "month", desc := "(I)I" } : Jvm.MethodName) ({ cls := "PeriodDeskModel", name := "month", desc := "(I)I" } : Jvm.MethodName)) ∈ lw_all := lw_g (lw_at lw_m4 113 rfl) rfl
theorem q840 : (Jvm.Cond.code ({ cls := "PeriodDeskModel", name := "month", desc := "(I)I" } : Jvm.MethodName) prog_11_method_16_code (2 : Nat) (Option.some Jvm.ClassFile.FieldType.int)) ∈ lw_all := lw_g (lw_at lw_m4 114 rfl) rfl
theorem q842 : (Jvm.Cond.instanceMethod ({ cls := "PeriodDeskModel", name := "day", desc := "(I)I" } : Jvm.MethodName)) ∈ lw_all := lw_g (lw_at lw_m4 116 rfl) rfl
theorem q843 : (Jvm.Cond.selects "PeriodDeskModel" ({ cls := "PeriodDeskModel", name := "day", desc := "(I)I" } : Jvm.MethodName) ({ cls := "PeriodDeskModel", name := "day", desc := "(I)I" } : Jvm.MethodName)) ∈ lw_all := lw_g (lw_at lw_m4 117 rfl) rfl
theorem q844 : (Jvm.Cond.code ({ cls := "PeriodDeskModel", name := "day", desc := "(I)I" } : Jvm.MethodName) prog_11_method_17_code (2 : Nat) (Option.some Jvm.ClassFile.FieldType.int)) ∈ lw_all := lw_g (lw_at lw_m4 118 rfl) rfl
theorem q847 : (Jvm.Cond.instanceMethod ({ cls := "PeriodDeskModel", name := "below", desc := "(I)Z" } : Jvm.MethodName)) ∈ lw_all := lw_g (lw_at lw_m4 121 rfl) rfl
theorem q848 : (Jvm.Cond.selects "PeriodDeskModel" ({ cls := "PeriodDeskModel", name := "below", desc := "(I)Z" } : Jvm.MethodName) ({ cls := "PeriodDeskModel", name := "below", desc := "(I)Z" } : Jvm.MethodName)) ∈ lw_all := lw_g (lw_at lw_m4 122 rfl) rfl
theorem q849 : (Jvm.Cond.code ({ cls := "PeriodDeskModel", name := "below", desc := "(I)Z" } : Jvm.MethodName) prog_11_method_19_code (3 : Nat) (Option.some Jvm.ClassFile.FieldType.boolean)) ∈ lw_all := lw_g (lw_at lw_m4 123 rfl) rfl
theorem q851 : (Jvm.Cond.instanceMethod ({ cls := "PeriodDeskModel", name := "nought", desc := "(I)Z" } : Jvm.MethodName)) ∈ lw_all := lw_g (lw_at lw_m4 125 rfl) rfl
theorem q852 : (Jvm.Cond.selects "PeriodDeskModel" ({ cls := "PeriodDeskModel", name := "nought", desc := "(I)Z" } : Jvm.MethodName) ({ cls := "PeriodDeskModel", name := "nought", desc := "(I)Z" } : Jvm.MethodName)) ∈ lw_all := lw_g (lw_at lw_m4 126 rfl) rfl
theorem q853 : (Jvm.Cond.code ({ cls := "PeriodDeskModel", name := "nought", desc := "(I)Z" } : Jvm.MethodName) prog_11_method_20_code (3 : Nat) (Option.some Jvm.ClassFile.FieldType.boolean)) ∈ lw_all := lw_g (lw_at lw_m4 127 rfl) rfl
theorem q864 : (Jvm.Cond.castable "PeriodDeskModel" "java/lang/Object") ∈ lw_tbl := lw_at lw_m4 138 rfl
theorem in_X3 : ∀ w ∈ wsX30, w ∈ lw_all := lw_in wsX30 [767, 769, 771] (by decide +kernel) (by decide +kernel)
end
section
/-! the law's own entry -/
set_option maxRecDepth 100000
abbrev cL_law : ByteArray := code
def dkwL_law_19 : List UInt8 := [167, 254, 42, 4, 172]
abbrev dktL_law_19 : List UInt8 := dkwL_law_19 ++ []
def dkwL_law_18 : List UInt8 := [29, 4, 96, 46, 182, 0, 70, 44, 42, 29, 4, 96, 46, 182, 0, 73, 159, 0, 5, 3, 172, 132, 3, 6]
abbrev dktL_law_18 : List UInt8 := dkwL_law_18 ++ dktL_law_19
def dkwL_law_17 : List UInt8 := [42, 29, 4, 96, 46, 182, 0, 66, 44, 42, 29, 4, 96, 46, 182, 0, 69, 159, 0, 28, 3, 172, 43, 42]
abbrev dktL_law_17 : List UInt8 := dkwL_law_17 ++ dktL_law_18
def dkwL_law_16 : List UInt8 := [42, 29, 4, 96, 46, 182, 0, 61, 44, 42, 29, 4, 96, 46, 182, 0, 65, 148, 153, 0, 51, 3, 172, 43]
abbrev dktL_law_16 : List UInt8 := dkwL_law_16 ++ dktL_law_17
def dkwL_law_15 : List UInt8 := [43, 42, 29, 4, 96, 46, 182, 0, 57, 44, 42, 29, 4, 96, 46, 182, 0, 60, 159, 0, 75, 3, 172, 43]
abbrev dktL_law_15 : List UInt8 := dkwL_law_15 ++ dktL_law_16
def dkwL_law_14 : List UInt8 := [172, 43, 42, 29, 4, 96, 46, 182, 0, 53, 44, 42, 29, 4, 96, 46, 182, 0, 56, 159, 0, 98, 3, 172]
abbrev dktL_law_14 : List UInt8 := dkwL_law_14 ++ dktL_law_15
def dkwL_law_13 : List UInt8 := [3, 172, 43, 42, 29, 4, 96, 46, 182, 0, 48, 44, 42, 29, 4, 96, 46, 182, 0, 52, 159, 0, 121, 3]
abbrev dktL_law_13 : List UInt8 := dkwL_law_13 ++ dktL_law_14
def dkwL_law_12 : List UInt8 := [29, 5, 96, 46, 182, 0, 44, 44, 42, 29, 4, 96, 46, 42, 29, 5, 96, 46, 182, 0, 47, 159, 0, 144]
abbrev dktL_law_12 : List UInt8 := dkwL_law_12 ++ dktL_law_13
def dkwL_law_11 : List UInt8 := [29, 4, 96, 46, 42, 29, 5, 96, 46, 182, 0, 43, 159, 0, 177, 3, 172, 43, 42, 29, 4, 96, 46, 42]
abbrev dktL_law_11 : List UInt8 := dkwL_law_11 ++ dktL_law_12
def dkwL_law_10 : List UInt8 := [182, 0, 39, 159, 0, 210, 3, 172, 43, 42, 29, 4, 96, 46, 42, 29, 5, 96, 46, 182, 0, 40, 44, 42]
abbrev dktL_law_10 : List UInt8 := dkwL_law_10 ++ dktL_law_11
def dkwL_law_9 : List UInt8 := [46, 182, 0, 35, 159, 0, 233, 3, 172, 43, 42, 29, 4, 96, 46, 182, 0, 36, 44, 42, 29, 4, 96, 46]
abbrev dktL_law_9 : List UInt8 := dkwL_law_9 ++ dktL_law_10
def dkwL_law_8 : List UInt8 := [96, 46, 182, 0, 31, 159, 1, 0, 3, 172, 43, 42, 29, 4, 96, 46, 182, 0, 32, 44, 42, 29, 4, 96]
abbrev dktL_law_8 : List UInt8 := dkwL_law_8 ++ dktL_law_9
def dkwL_law_7 : List UInt8 := [172, 43, 42, 29, 4, 96, 46, 42, 29, 5, 96, 46, 182, 0, 27, 44, 42, 29, 4, 96, 46, 42, 29, 5]
abbrev dktL_law_7 : List UInt8 := dkwL_law_7 ++ dktL_law_8
def dkwL_law_6 : List UInt8 := [3, 172, 43, 42, 29, 4, 96, 46, 182, 0, 23, 44, 42, 29, 4, 96, 46, 182, 0, 26, 159, 1, 33, 3]
abbrev dktL_law_6 : List UInt8 := dkwL_law_6 ++ dktL_law_7
def dkwL_law_5 : List UInt8 := [167, 1, 77, 43, 42, 29, 4, 96, 46, 182, 0, 18, 44, 42, 29, 4, 96, 46, 182, 0, 22, 159, 1, 56]
abbrev dktL_law_5 : List UInt8 := dkwL_law_5 ++ dktL_law_6
def dkwL_law_4 : List UInt8 := [44, 42, 29, 4, 96, 46, 42, 29, 5, 96, 46, 42, 29, 6, 96, 46, 42, 29, 7, 96, 46, 182, 0, 17]
abbrev dktL_law_4 : List UInt8 := dkwL_law_4 ++ dktL_law_5
def dkwL_law_3 : List UInt8 := [43, 42, 29, 4, 96, 46, 42, 29, 5, 96, 46, 42, 29, 6, 96, 46, 42, 29, 7, 96, 46, 182, 0, 13]
abbrev dktL_law_3 : List UInt8 := dkwL_law_3 ++ dktL_law_4
def dkwL_law_2 : List UInt8 := [170, 0, 0, 0, 0, 1, 196, 0, 0, 0, 0, 0, 0, 0, 13, 0, 0, 0, 71, 0, 0, 0, 122, 0, 0, 0, 145, 0, 0, 0, 168, 0, 0, 0, 201, 0, 0, 0, 224, 0, 0, 0, 247, 0, 0, 1, 24, 0, 0, 1, 57, 0, 0, 1, 80, 0, 0, 1, 103, 0, 0, 1, 126, 0, 0, 1, 150, 0, 0, 1, 173]
abbrev dktL_law_2 : List UInt8 := dkwL_law_2 ++ dktL_law_3
def dkwL_law_1 : List UInt8 := [163, 1, 211, 42, 29, 46, 16, 15, 126]
abbrev dktL_law_1 : List UInt8 := dkwL_law_1 ++ dktL_law_2
def dkwL_law_0 : List UInt8 := [187, 0, 7, 89, 183, 0, 9, 76, 187, 0, 10, 89, 183, 0, 12, 77, 3, 62, 29, 42, 190, 16, 6, 100]
abbrev dktL_law_0 : List UInt8 := dkwL_law_0 ++ dktL_law_1
theorem dksL_law_0 : cL_law.data.toList.drop 0 = dktL_law_0 := by decide +kernel
theorem dksL_law_1 : cL_law.data.toList.drop 24 = dktL_law_1 := dk_seg dksL_law_0 24 rfl rfl
theorem dksL_law_2 : cL_law.data.toList.drop 33 = dktL_law_2 := dk_seg dksL_law_1 9 rfl rfl
theorem dksL_law_3 : cL_law.data.toList.drop 104 = dktL_law_3 := dk_seg dksL_law_2 71 rfl rfl
theorem dksL_law_4 : cL_law.data.toList.drop 128 = dktL_law_4 := dk_seg dksL_law_3 24 rfl rfl
theorem dksL_law_5 : cL_law.data.toList.drop 152 = dktL_law_5 := dk_seg dksL_law_4 24 rfl rfl
theorem dksL_law_6 : cL_law.data.toList.drop 176 = dktL_law_6 := dk_seg dksL_law_5 24 rfl rfl
theorem dksL_law_7 : cL_law.data.toList.drop 200 = dktL_law_7 := dk_seg dksL_law_6 24 rfl rfl
theorem dksL_law_8 : cL_law.data.toList.drop 224 = dktL_law_8 := dk_seg dksL_law_7 24 rfl rfl
theorem dksL_law_9 : cL_law.data.toList.drop 248 = dktL_law_9 := dk_seg dksL_law_8 24 rfl rfl
theorem dksL_law_10 : cL_law.data.toList.drop 272 = dktL_law_10 := dk_seg dksL_law_9 24 rfl rfl
theorem dksL_law_11 : cL_law.data.toList.drop 296 = dktL_law_11 := dk_seg dksL_law_10 24 rfl rfl
theorem dksL_law_12 : cL_law.data.toList.drop 320 = dktL_law_12 := dk_seg dksL_law_11 24 rfl rfl
theorem dksL_law_13 : cL_law.data.toList.drop 344 = dktL_law_13 := dk_seg dksL_law_12 24 rfl rfl
theorem dksL_law_14 : cL_law.data.toList.drop 368 = dktL_law_14 := dk_seg dksL_law_13 24 rfl rfl
theorem dksL_law_15 : cL_law.data.toList.drop 392 = dktL_law_15 := dk_seg dksL_law_14 24 rfl rfl
theorem dksL_law_16 : cL_law.data.toList.drop 416 = dktL_law_16 := dk_seg dksL_law_15 24 rfl rfl
theorem dksL_law_17 : cL_law.data.toList.drop 440 = dktL_law_17 := dk_seg dksL_law_16 24 rfl rfl
theorem dksL_law_18 : cL_law.data.toList.drop 464 = dktL_law_18 := dk_seg dksL_law_17 24 rfl rfl
theorem dksL_law_19 : cL_law.data.toList.drop 488 = dktL_law_19 := dk_seg dksL_law_18 24 rfl rfl
theorem dL_law_0 : decode cL_law 0 = .ok (.new 7, 3) := dk_187 0 7 (dk_at dksL_law_0 0 rfl rfl)
theorem dL_law_3 : decode cL_law 3 = .ok (.dup, 1) := dk_89 (dk_at dksL_law_0 3 rfl rfl)
theorem dL_law_4 : decode cL_law 4 = .ok (.invokespecial 9, 3) := dk_183 0 9 (dk_at dksL_law_0 4 rfl rfl)
theorem dL_law_7 : decode cL_law 7 = .ok (.astore_n 1, 1) := dk_76 (dk_at dksL_law_0 7 rfl rfl)
theorem dL_law_8 : decode cL_law 8 = .ok (.new 10, 3) := dk_187 0 10 (dk_at dksL_law_0 8 rfl rfl)
theorem dL_law_11 : decode cL_law 11 = .ok (.dup, 1) := dk_89 (dk_at dksL_law_0 11 rfl rfl)
theorem dL_law_12 : decode cL_law 12 = .ok (.invokespecial 12, 3) := dk_183 0 12 (dk_at dksL_law_0 12 rfl rfl)
theorem dL_law_15 : decode cL_law 15 = .ok (.astore_n 2, 1) := dk_77 (dk_at dksL_law_0 15 rfl rfl)
theorem dL_law_16 : decode cL_law 16 = .ok (.iconst 0, 1) := dk_3 (dk_at dksL_law_0 16 rfl rfl)
theorem dL_law_17 : decode cL_law 17 = .ok (.istore_n 3, 1) := dk_62 (dk_at dksL_law_0 17 rfl rfl)
theorem dL_law_18 : decode cL_law 18 = .ok (.iload_n 3, 1) := dk_29 (dk_at dksL_law_0 18 rfl rfl)
theorem dL_law_19 : decode cL_law 19 = .ok (.aload_n 0, 1) := dk_42 (dk_at dksL_law_0 19 rfl rfl)
theorem dL_law_20 : decode cL_law 20 = .ok (.arraylength, 1) := dk_190 (dk_at dksL_law_0 20 rfl rfl)
theorem dL_law_21 : decode cL_law 21 = .ok (.bipush 6, 2) := dk_16 6 (dk_at dksL_law_0 21 rfl rfl)
theorem dL_law_23 : decode cL_law 23 = .ok (.isub, 1) := dk_100 (dk_at dksL_law_0 23 rfl rfl)
theorem dL_law_24 : decode cL_law 24 = .ok (.if_icmp .gt 467, 3) := dk_163 1 211 (dk_at dksL_law_1 0 rfl rfl)
theorem dL_law_27 : decode cL_law 27 = .ok (.aload_n 0, 1) := dk_42 (dk_at dksL_law_1 3 rfl rfl)
theorem dL_law_28 : decode cL_law 28 = .ok (.iload_n 3, 1) := dk_29 (dk_at dksL_law_1 4 rfl rfl)
theorem dL_law_29 : decode cL_law 29 = .ok (.iaload, 1) := dk_46 (dk_at dksL_law_1 5 rfl rfl)
theorem dL_law_30 : decode cL_law 30 = .ok (.bipush 15, 2) := dk_16 15 (dk_at dksL_law_1 6 rfl rfl)
theorem dL_law_32 : decode cL_law 32 = .ok (.iand, 1) := dk_126 (dk_at dksL_law_1 8 rfl rfl)
theorem dL_law_33 : decode cL_law 33 = .ok (.tableswitch 452 0 13 #[71, 122, 145, 168, 201, 224, 247, 280, 313, 336, 359, 382, 406, 429], 71) := by decide +kernel
theorem dL_law_104 : decode cL_law 104 = .ok (.aload_n 1, 1) := dk_43 (dk_at dksL_law_3 0 rfl rfl)
theorem dL_law_105 : decode cL_law 105 = .ok (.aload_n 0, 1) := dk_42 (dk_at dksL_law_3 1 rfl rfl)
theorem dL_law_106 : decode cL_law 106 = .ok (.iload_n 3, 1) := dk_29 (dk_at dksL_law_3 2 rfl rfl)
theorem dL_law_107 : decode cL_law 107 = .ok (.iconst 1, 1) := dk_4 (dk_at dksL_law_3 3 rfl rfl)
theorem dL_law_108 : decode cL_law 108 = .ok (.iadd, 1) := dk_96 (dk_at dksL_law_3 4 rfl rfl)
theorem dL_law_109 : decode cL_law 109 = .ok (.iaload, 1) := dk_46 (dk_at dksL_law_3 5 rfl rfl)
theorem dL_law_110 : decode cL_law 110 = .ok (.aload_n 0, 1) := dk_42 (dk_at dksL_law_3 6 rfl rfl)
theorem dL_law_111 : decode cL_law 111 = .ok (.iload_n 3, 1) := dk_29 (dk_at dksL_law_3 7 rfl rfl)
theorem dL_law_112 : decode cL_law 112 = .ok (.iconst 2, 1) := dk_5 (dk_at dksL_law_3 8 rfl rfl)
theorem dL_law_113 : decode cL_law 113 = .ok (.iadd, 1) := dk_96 (dk_at dksL_law_3 9 rfl rfl)
theorem dL_law_114 : decode cL_law 114 = .ok (.iaload, 1) := dk_46 (dk_at dksL_law_3 10 rfl rfl)
theorem dL_law_115 : decode cL_law 115 = .ok (.aload_n 0, 1) := dk_42 (dk_at dksL_law_3 11 rfl rfl)
theorem dL_law_116 : decode cL_law 116 = .ok (.iload_n 3, 1) := dk_29 (dk_at dksL_law_3 12 rfl rfl)
theorem dL_law_117 : decode cL_law 117 = .ok (.iconst 3, 1) := dk_6 (dk_at dksL_law_3 13 rfl rfl)
theorem dL_law_118 : decode cL_law 118 = .ok (.iadd, 1) := dk_96 (dk_at dksL_law_3 14 rfl rfl)
theorem dL_law_119 : decode cL_law 119 = .ok (.iaload, 1) := dk_46 (dk_at dksL_law_3 15 rfl rfl)
theorem dL_law_120 : decode cL_law 120 = .ok (.aload_n 0, 1) := dk_42 (dk_at dksL_law_3 16 rfl rfl)
theorem dL_law_121 : decode cL_law 121 = .ok (.iload_n 3, 1) := dk_29 (dk_at dksL_law_3 17 rfl rfl)
theorem dL_law_122 : decode cL_law 122 = .ok (.iconst 4, 1) := dk_7 (dk_at dksL_law_3 18 rfl rfl)
theorem dL_law_123 : decode cL_law 123 = .ok (.iadd, 1) := dk_96 (dk_at dksL_law_3 19 rfl rfl)
theorem dL_law_124 : decode cL_law 124 = .ok (.iaload, 1) := dk_46 (dk_at dksL_law_3 20 rfl rfl)
theorem dL_law_125 : decode cL_law 125 = .ok (.invokevirtual 13, 3) := dk_182 0 13 (dk_at dksL_law_3 21 rfl rfl)
theorem dL_law_128 : decode cL_law 128 = .ok (.aload_n 2, 1) := dk_44 (dk_at dksL_law_4 0 rfl rfl)
theorem dL_law_129 : decode cL_law 129 = .ok (.aload_n 0, 1) := dk_42 (dk_at dksL_law_4 1 rfl rfl)
theorem dL_law_130 : decode cL_law 130 = .ok (.iload_n 3, 1) := dk_29 (dk_at dksL_law_4 2 rfl rfl)
theorem dL_law_131 : decode cL_law 131 = .ok (.iconst 1, 1) := dk_4 (dk_at dksL_law_4 3 rfl rfl)
theorem dL_law_132 : decode cL_law 132 = .ok (.iadd, 1) := dk_96 (dk_at dksL_law_4 4 rfl rfl)
theorem dL_law_133 : decode cL_law 133 = .ok (.iaload, 1) := dk_46 (dk_at dksL_law_4 5 rfl rfl)
theorem dL_law_134 : decode cL_law 134 = .ok (.aload_n 0, 1) := dk_42 (dk_at dksL_law_4 6 rfl rfl)
theorem dL_law_135 : decode cL_law 135 = .ok (.iload_n 3, 1) := dk_29 (dk_at dksL_law_4 7 rfl rfl)
theorem dL_law_136 : decode cL_law 136 = .ok (.iconst 2, 1) := dk_5 (dk_at dksL_law_4 8 rfl rfl)
theorem dL_law_137 : decode cL_law 137 = .ok (.iadd, 1) := dk_96 (dk_at dksL_law_4 9 rfl rfl)
theorem dL_law_138 : decode cL_law 138 = .ok (.iaload, 1) := dk_46 (dk_at dksL_law_4 10 rfl rfl)
theorem dL_law_139 : decode cL_law 139 = .ok (.aload_n 0, 1) := dk_42 (dk_at dksL_law_4 11 rfl rfl)
theorem dL_law_140 : decode cL_law 140 = .ok (.iload_n 3, 1) := dk_29 (dk_at dksL_law_4 12 rfl rfl)
theorem dL_law_141 : decode cL_law 141 = .ok (.iconst 3, 1) := dk_6 (dk_at dksL_law_4 13 rfl rfl)
theorem dL_law_142 : decode cL_law 142 = .ok (.iadd, 1) := dk_96 (dk_at dksL_law_4 14 rfl rfl)
theorem dL_law_143 : decode cL_law 143 = .ok (.iaload, 1) := dk_46 (dk_at dksL_law_4 15 rfl rfl)
theorem dL_law_144 : decode cL_law 144 = .ok (.aload_n 0, 1) := dk_42 (dk_at dksL_law_4 16 rfl rfl)
theorem dL_law_145 : decode cL_law 145 = .ok (.iload_n 3, 1) := dk_29 (dk_at dksL_law_4 17 rfl rfl)
theorem dL_law_146 : decode cL_law 146 = .ok (.iconst 4, 1) := dk_7 (dk_at dksL_law_4 18 rfl rfl)
theorem dL_law_147 : decode cL_law 147 = .ok (.iadd, 1) := dk_96 (dk_at dksL_law_4 19 rfl rfl)
theorem dL_law_148 : decode cL_law 148 = .ok (.iaload, 1) := dk_46 (dk_at dksL_law_4 20 rfl rfl)
theorem dL_law_149 : decode cL_law 149 = .ok (.invokevirtual 17, 3) := dk_182 0 17 (dk_at dksL_law_4 21 rfl rfl)
theorem dL_law_152 : decode cL_law 152 = .ok (.goto 333, 3) := dk_167 1 77 (dk_at dksL_law_5 0 rfl rfl)
theorem dL_law_155 : decode cL_law 155 = .ok (.aload_n 1, 1) := dk_43 (dk_at dksL_law_5 3 rfl rfl)
theorem dL_law_156 : decode cL_law 156 = .ok (.aload_n 0, 1) := dk_42 (dk_at dksL_law_5 4 rfl rfl)
theorem dL_law_157 : decode cL_law 157 = .ok (.iload_n 3, 1) := dk_29 (dk_at dksL_law_5 5 rfl rfl)
theorem dL_law_158 : decode cL_law 158 = .ok (.iconst 1, 1) := dk_4 (dk_at dksL_law_5 6 rfl rfl)
theorem dL_law_159 : decode cL_law 159 = .ok (.iadd, 1) := dk_96 (dk_at dksL_law_5 7 rfl rfl)
theorem dL_law_160 : decode cL_law 160 = .ok (.iaload, 1) := dk_46 (dk_at dksL_law_5 8 rfl rfl)
theorem dL_law_161 : decode cL_law 161 = .ok (.invokevirtual 18, 3) := dk_182 0 18 (dk_at dksL_law_5 9 rfl rfl)
theorem dL_law_164 : decode cL_law 164 = .ok (.aload_n 2, 1) := dk_44 (dk_at dksL_law_5 12 rfl rfl)
theorem dL_law_165 : decode cL_law 165 = .ok (.aload_n 0, 1) := dk_42 (dk_at dksL_law_5 13 rfl rfl)
theorem dL_law_166 : decode cL_law 166 = .ok (.iload_n 3, 1) := dk_29 (dk_at dksL_law_5 14 rfl rfl)
theorem dL_law_167 : decode cL_law 167 = .ok (.iconst 1, 1) := dk_4 (dk_at dksL_law_5 15 rfl rfl)
theorem dL_law_168 : decode cL_law 168 = .ok (.iadd, 1) := dk_96 (dk_at dksL_law_5 16 rfl rfl)
theorem dL_law_169 : decode cL_law 169 = .ok (.iaload, 1) := dk_46 (dk_at dksL_law_5 17 rfl rfl)
theorem dL_law_170 : decode cL_law 170 = .ok (.invokevirtual 22, 3) := dk_182 0 22 (dk_at dksL_law_5 18 rfl rfl)
theorem dL_law_173 : decode cL_law 173 = .ok (.if_icmp .eq 312, 3) := dk_159 1 56 (dk_at dksL_law_5 21 rfl rfl)
theorem dL_law_176 : decode cL_law 176 = .ok (.iconst 0, 1) := dk_3 (dk_at dksL_law_6 0 rfl rfl)
theorem dL_law_177 : decode cL_law 177 = .ok (.ireturn, 1) := dk_172 (dk_at dksL_law_6 1 rfl rfl)
theorem dL_law_178 : decode cL_law 178 = .ok (.aload_n 1, 1) := dk_43 (dk_at dksL_law_6 2 rfl rfl)
theorem dL_law_179 : decode cL_law 179 = .ok (.aload_n 0, 1) := dk_42 (dk_at dksL_law_6 3 rfl rfl)
theorem dL_law_180 : decode cL_law 180 = .ok (.iload_n 3, 1) := dk_29 (dk_at dksL_law_6 4 rfl rfl)
theorem dL_law_181 : decode cL_law 181 = .ok (.iconst 1, 1) := dk_4 (dk_at dksL_law_6 5 rfl rfl)
theorem dL_law_182 : decode cL_law 182 = .ok (.iadd, 1) := dk_96 (dk_at dksL_law_6 6 rfl rfl)
theorem dL_law_183 : decode cL_law 183 = .ok (.iaload, 1) := dk_46 (dk_at dksL_law_6 7 rfl rfl)
theorem dL_law_184 : decode cL_law 184 = .ok (.invokevirtual 23, 3) := dk_182 0 23 (dk_at dksL_law_6 8 rfl rfl)
theorem dL_law_187 : decode cL_law 187 = .ok (.aload_n 2, 1) := dk_44 (dk_at dksL_law_6 11 rfl rfl)
theorem dL_law_188 : decode cL_law 188 = .ok (.aload_n 0, 1) := dk_42 (dk_at dksL_law_6 12 rfl rfl)
theorem dL_law_189 : decode cL_law 189 = .ok (.iload_n 3, 1) := dk_29 (dk_at dksL_law_6 13 rfl rfl)
theorem dL_law_190 : decode cL_law 190 = .ok (.iconst 1, 1) := dk_4 (dk_at dksL_law_6 14 rfl rfl)
theorem dL_law_191 : decode cL_law 191 = .ok (.iadd, 1) := dk_96 (dk_at dksL_law_6 15 rfl rfl)
theorem dL_law_192 : decode cL_law 192 = .ok (.iaload, 1) := dk_46 (dk_at dksL_law_6 16 rfl rfl)
theorem dL_law_193 : decode cL_law 193 = .ok (.invokevirtual 26, 3) := dk_182 0 26 (dk_at dksL_law_6 17 rfl rfl)
theorem dL_law_196 : decode cL_law 196 = .ok (.if_icmp .eq 289, 3) := dk_159 1 33 (dk_at dksL_law_6 20 rfl rfl)
theorem dL_law_199 : decode cL_law 199 = .ok (.iconst 0, 1) := dk_3 (dk_at dksL_law_6 23 rfl rfl)
theorem dL_law_200 : decode cL_law 200 = .ok (.ireturn, 1) := dk_172 (dk_at dksL_law_7 0 rfl rfl)
theorem dL_law_201 : decode cL_law 201 = .ok (.aload_n 1, 1) := dk_43 (dk_at dksL_law_7 1 rfl rfl)
theorem dL_law_202 : decode cL_law 202 = .ok (.aload_n 0, 1) := dk_42 (dk_at dksL_law_7 2 rfl rfl)
theorem dL_law_203 : decode cL_law 203 = .ok (.iload_n 3, 1) := dk_29 (dk_at dksL_law_7 3 rfl rfl)
theorem dL_law_204 : decode cL_law 204 = .ok (.iconst 1, 1) := dk_4 (dk_at dksL_law_7 4 rfl rfl)
theorem dL_law_205 : decode cL_law 205 = .ok (.iadd, 1) := dk_96 (dk_at dksL_law_7 5 rfl rfl)
theorem dL_law_206 : decode cL_law 206 = .ok (.iaload, 1) := dk_46 (dk_at dksL_law_7 6 rfl rfl)
theorem dL_law_207 : decode cL_law 207 = .ok (.aload_n 0, 1) := dk_42 (dk_at dksL_law_7 7 rfl rfl)
theorem dL_law_208 : decode cL_law 208 = .ok (.iload_n 3, 1) := dk_29 (dk_at dksL_law_7 8 rfl rfl)
theorem dL_law_209 : decode cL_law 209 = .ok (.iconst 2, 1) := dk_5 (dk_at dksL_law_7 9 rfl rfl)
theorem dL_law_210 : decode cL_law 210 = .ok (.iadd, 1) := dk_96 (dk_at dksL_law_7 10 rfl rfl)
theorem dL_law_211 : decode cL_law 211 = .ok (.iaload, 1) := dk_46 (dk_at dksL_law_7 11 rfl rfl)
theorem dL_law_212 : decode cL_law 212 = .ok (.invokevirtual 27, 3) := dk_182 0 27 (dk_at dksL_law_7 12 rfl rfl)
theorem dL_law_215 : decode cL_law 215 = .ok (.aload_n 2, 1) := dk_44 (dk_at dksL_law_7 15 rfl rfl)
theorem dL_law_216 : decode cL_law 216 = .ok (.aload_n 0, 1) := dk_42 (dk_at dksL_law_7 16 rfl rfl)
theorem dL_law_217 : decode cL_law 217 = .ok (.iload_n 3, 1) := dk_29 (dk_at dksL_law_7 17 rfl rfl)
theorem dL_law_218 : decode cL_law 218 = .ok (.iconst 1, 1) := dk_4 (dk_at dksL_law_7 18 rfl rfl)
theorem dL_law_219 : decode cL_law 219 = .ok (.iadd, 1) := dk_96 (dk_at dksL_law_7 19 rfl rfl)
theorem dL_law_220 : decode cL_law 220 = .ok (.iaload, 1) := dk_46 (dk_at dksL_law_7 20 rfl rfl)
theorem dL_law_221 : decode cL_law 221 = .ok (.aload_n 0, 1) := dk_42 (dk_at dksL_law_7 21 rfl rfl)
theorem dL_law_222 : decode cL_law 222 = .ok (.iload_n 3, 1) := dk_29 (dk_at dksL_law_7 22 rfl rfl)
theorem dL_law_223 : decode cL_law 223 = .ok (.iconst 2, 1) := dk_5 (dk_at dksL_law_7 23 rfl rfl)
theorem dL_law_224 : decode cL_law 224 = .ok (.iadd, 1) := dk_96 (dk_at dksL_law_8 0 rfl rfl)
theorem dL_law_225 : decode cL_law 225 = .ok (.iaload, 1) := dk_46 (dk_at dksL_law_8 1 rfl rfl)
theorem dL_law_226 : decode cL_law 226 = .ok (.invokevirtual 31, 3) := dk_182 0 31 (dk_at dksL_law_8 2 rfl rfl)
theorem dL_law_229 : decode cL_law 229 = .ok (.if_icmp .eq 256, 3) := dk_159 1 0 (dk_at dksL_law_8 5 rfl rfl)
theorem dL_law_232 : decode cL_law 232 = .ok (.iconst 0, 1) := dk_3 (dk_at dksL_law_8 8 rfl rfl)
theorem dL_law_233 : decode cL_law 233 = .ok (.ireturn, 1) := dk_172 (dk_at dksL_law_8 9 rfl rfl)
theorem dL_law_234 : decode cL_law 234 = .ok (.aload_n 1, 1) := dk_43 (dk_at dksL_law_8 10 rfl rfl)
theorem dL_law_235 : decode cL_law 235 = .ok (.aload_n 0, 1) := dk_42 (dk_at dksL_law_8 11 rfl rfl)
theorem dL_law_236 : decode cL_law 236 = .ok (.iload_n 3, 1) := dk_29 (dk_at dksL_law_8 12 rfl rfl)
theorem dL_law_237 : decode cL_law 237 = .ok (.iconst 1, 1) := dk_4 (dk_at dksL_law_8 13 rfl rfl)
theorem dL_law_238 : decode cL_law 238 = .ok (.iadd, 1) := dk_96 (dk_at dksL_law_8 14 rfl rfl)
theorem dL_law_239 : decode cL_law 239 = .ok (.iaload, 1) := dk_46 (dk_at dksL_law_8 15 rfl rfl)
theorem dL_law_240 : decode cL_law 240 = .ok (.invokevirtual 32, 3) := dk_182 0 32 (dk_at dksL_law_8 16 rfl rfl)
theorem dL_law_243 : decode cL_law 243 = .ok (.aload_n 2, 1) := dk_44 (dk_at dksL_law_8 19 rfl rfl)
theorem dL_law_244 : decode cL_law 244 = .ok (.aload_n 0, 1) := dk_42 (dk_at dksL_law_8 20 rfl rfl)
theorem dL_law_245 : decode cL_law 245 = .ok (.iload_n 3, 1) := dk_29 (dk_at dksL_law_8 21 rfl rfl)
theorem dL_law_246 : decode cL_law 246 = .ok (.iconst 1, 1) := dk_4 (dk_at dksL_law_8 22 rfl rfl)
theorem dL_law_247 : decode cL_law 247 = .ok (.iadd, 1) := dk_96 (dk_at dksL_law_8 23 rfl rfl)
theorem dL_law_248 : decode cL_law 248 = .ok (.iaload, 1) := dk_46 (dk_at dksL_law_9 0 rfl rfl)
theorem dL_law_249 : decode cL_law 249 = .ok (.invokevirtual 35, 3) := dk_182 0 35 (dk_at dksL_law_9 1 rfl rfl)
theorem dL_law_252 : decode cL_law 252 = .ok (.if_icmp .eq 233, 3) := dk_159 0 233 (dk_at dksL_law_9 4 rfl rfl)
theorem dL_law_255 : decode cL_law 255 = .ok (.iconst 0, 1) := dk_3 (dk_at dksL_law_9 7 rfl rfl)
theorem dL_law_256 : decode cL_law 256 = .ok (.ireturn, 1) := dk_172 (dk_at dksL_law_9 8 rfl rfl)
theorem dL_law_257 : decode cL_law 257 = .ok (.aload_n 1, 1) := dk_43 (dk_at dksL_law_9 9 rfl rfl)
theorem dL_law_258 : decode cL_law 258 = .ok (.aload_n 0, 1) := dk_42 (dk_at dksL_law_9 10 rfl rfl)
theorem dL_law_259 : decode cL_law 259 = .ok (.iload_n 3, 1) := dk_29 (dk_at dksL_law_9 11 rfl rfl)
theorem dL_law_260 : decode cL_law 260 = .ok (.iconst 1, 1) := dk_4 (dk_at dksL_law_9 12 rfl rfl)
theorem dL_law_261 : decode cL_law 261 = .ok (.iadd, 1) := dk_96 (dk_at dksL_law_9 13 rfl rfl)
theorem dL_law_262 : decode cL_law 262 = .ok (.iaload, 1) := dk_46 (dk_at dksL_law_9 14 rfl rfl)
theorem dL_law_263 : decode cL_law 263 = .ok (.invokevirtual 36, 3) := dk_182 0 36 (dk_at dksL_law_9 15 rfl rfl)
theorem dL_law_266 : decode cL_law 266 = .ok (.aload_n 2, 1) := dk_44 (dk_at dksL_law_9 18 rfl rfl)
theorem dL_law_267 : decode cL_law 267 = .ok (.aload_n 0, 1) := dk_42 (dk_at dksL_law_9 19 rfl rfl)
theorem dL_law_268 : decode cL_law 268 = .ok (.iload_n 3, 1) := dk_29 (dk_at dksL_law_9 20 rfl rfl)
theorem dL_law_269 : decode cL_law 269 = .ok (.iconst 1, 1) := dk_4 (dk_at dksL_law_9 21 rfl rfl)
theorem dL_law_270 : decode cL_law 270 = .ok (.iadd, 1) := dk_96 (dk_at dksL_law_9 22 rfl rfl)
theorem dL_law_271 : decode cL_law 271 = .ok (.iaload, 1) := dk_46 (dk_at dksL_law_9 23 rfl rfl)
theorem dL_law_272 : decode cL_law 272 = .ok (.invokevirtual 39, 3) := dk_182 0 39 (dk_at dksL_law_10 0 rfl rfl)
theorem dL_law_275 : decode cL_law 275 = .ok (.if_icmp .eq 210, 3) := dk_159 0 210 (dk_at dksL_law_10 3 rfl rfl)
theorem dL_law_278 : decode cL_law 278 = .ok (.iconst 0, 1) := dk_3 (dk_at dksL_law_10 6 rfl rfl)
theorem dL_law_279 : decode cL_law 279 = .ok (.ireturn, 1) := dk_172 (dk_at dksL_law_10 7 rfl rfl)
theorem dL_law_280 : decode cL_law 280 = .ok (.aload_n 1, 1) := dk_43 (dk_at dksL_law_10 8 rfl rfl)
theorem dL_law_281 : decode cL_law 281 = .ok (.aload_n 0, 1) := dk_42 (dk_at dksL_law_10 9 rfl rfl)
theorem dL_law_282 : decode cL_law 282 = .ok (.iload_n 3, 1) := dk_29 (dk_at dksL_law_10 10 rfl rfl)
theorem dL_law_283 : decode cL_law 283 = .ok (.iconst 1, 1) := dk_4 (dk_at dksL_law_10 11 rfl rfl)
theorem dL_law_284 : decode cL_law 284 = .ok (.iadd, 1) := dk_96 (dk_at dksL_law_10 12 rfl rfl)
theorem dL_law_285 : decode cL_law 285 = .ok (.iaload, 1) := dk_46 (dk_at dksL_law_10 13 rfl rfl)
theorem dL_law_286 : decode cL_law 286 = .ok (.aload_n 0, 1) := dk_42 (dk_at dksL_law_10 14 rfl rfl)
theorem dL_law_287 : decode cL_law 287 = .ok (.iload_n 3, 1) := dk_29 (dk_at dksL_law_10 15 rfl rfl)
theorem dL_law_288 : decode cL_law 288 = .ok (.iconst 2, 1) := dk_5 (dk_at dksL_law_10 16 rfl rfl)
theorem dL_law_289 : decode cL_law 289 = .ok (.iadd, 1) := dk_96 (dk_at dksL_law_10 17 rfl rfl)
theorem dL_law_290 : decode cL_law 290 = .ok (.iaload, 1) := dk_46 (dk_at dksL_law_10 18 rfl rfl)
theorem dL_law_291 : decode cL_law 291 = .ok (.invokevirtual 40, 3) := dk_182 0 40 (dk_at dksL_law_10 19 rfl rfl)
theorem dL_law_294 : decode cL_law 294 = .ok (.aload_n 2, 1) := dk_44 (dk_at dksL_law_10 22 rfl rfl)
theorem dL_law_295 : decode cL_law 295 = .ok (.aload_n 0, 1) := dk_42 (dk_at dksL_law_10 23 rfl rfl)
theorem dL_law_296 : decode cL_law 296 = .ok (.iload_n 3, 1) := dk_29 (dk_at dksL_law_11 0 rfl rfl)
theorem dL_law_297 : decode cL_law 297 = .ok (.iconst 1, 1) := dk_4 (dk_at dksL_law_11 1 rfl rfl)
theorem dL_law_298 : decode cL_law 298 = .ok (.iadd, 1) := dk_96 (dk_at dksL_law_11 2 rfl rfl)
theorem dL_law_299 : decode cL_law 299 = .ok (.iaload, 1) := dk_46 (dk_at dksL_law_11 3 rfl rfl)
theorem dL_law_300 : decode cL_law 300 = .ok (.aload_n 0, 1) := dk_42 (dk_at dksL_law_11 4 rfl rfl)
theorem dL_law_301 : decode cL_law 301 = .ok (.iload_n 3, 1) := dk_29 (dk_at dksL_law_11 5 rfl rfl)
theorem dL_law_302 : decode cL_law 302 = .ok (.iconst 2, 1) := dk_5 (dk_at dksL_law_11 6 rfl rfl)
theorem dL_law_303 : decode cL_law 303 = .ok (.iadd, 1) := dk_96 (dk_at dksL_law_11 7 rfl rfl)
theorem dL_law_304 : decode cL_law 304 = .ok (.iaload, 1) := dk_46 (dk_at dksL_law_11 8 rfl rfl)
theorem dL_law_305 : decode cL_law 305 = .ok (.invokevirtual 43, 3) := dk_182 0 43 (dk_at dksL_law_11 9 rfl rfl)
theorem dL_law_308 : decode cL_law 308 = .ok (.if_icmp .eq 177, 3) := dk_159 0 177 (dk_at dksL_law_11 12 rfl rfl)
theorem dL_law_311 : decode cL_law 311 = .ok (.iconst 0, 1) := dk_3 (dk_at dksL_law_11 15 rfl rfl)
theorem dL_law_312 : decode cL_law 312 = .ok (.ireturn, 1) := dk_172 (dk_at dksL_law_11 16 rfl rfl)
theorem dL_law_313 : decode cL_law 313 = .ok (.aload_n 1, 1) := dk_43 (dk_at dksL_law_11 17 rfl rfl)
theorem dL_law_314 : decode cL_law 314 = .ok (.aload_n 0, 1) := dk_42 (dk_at dksL_law_11 18 rfl rfl)
theorem dL_law_315 : decode cL_law 315 = .ok (.iload_n 3, 1) := dk_29 (dk_at dksL_law_11 19 rfl rfl)
theorem dL_law_316 : decode cL_law 316 = .ok (.iconst 1, 1) := dk_4 (dk_at dksL_law_11 20 rfl rfl)
theorem dL_law_317 : decode cL_law 317 = .ok (.iadd, 1) := dk_96 (dk_at dksL_law_11 21 rfl rfl)
theorem dL_law_318 : decode cL_law 318 = .ok (.iaload, 1) := dk_46 (dk_at dksL_law_11 22 rfl rfl)
theorem dL_law_319 : decode cL_law 319 = .ok (.aload_n 0, 1) := dk_42 (dk_at dksL_law_11 23 rfl rfl)
theorem dL_law_320 : decode cL_law 320 = .ok (.iload_n 3, 1) := dk_29 (dk_at dksL_law_12 0 rfl rfl)
theorem dL_law_321 : decode cL_law 321 = .ok (.iconst 2, 1) := dk_5 (dk_at dksL_law_12 1 rfl rfl)
theorem dL_law_322 : decode cL_law 322 = .ok (.iadd, 1) := dk_96 (dk_at dksL_law_12 2 rfl rfl)
theorem dL_law_323 : decode cL_law 323 = .ok (.iaload, 1) := dk_46 (dk_at dksL_law_12 3 rfl rfl)
theorem dL_law_324 : decode cL_law 324 = .ok (.invokevirtual 44, 3) := dk_182 0 44 (dk_at dksL_law_12 4 rfl rfl)
theorem dL_law_327 : decode cL_law 327 = .ok (.aload_n 2, 1) := dk_44 (dk_at dksL_law_12 7 rfl rfl)
theorem dL_law_328 : decode cL_law 328 = .ok (.aload_n 0, 1) := dk_42 (dk_at dksL_law_12 8 rfl rfl)
theorem dL_law_329 : decode cL_law 329 = .ok (.iload_n 3, 1) := dk_29 (dk_at dksL_law_12 9 rfl rfl)
theorem dL_law_330 : decode cL_law 330 = .ok (.iconst 1, 1) := dk_4 (dk_at dksL_law_12 10 rfl rfl)
theorem dL_law_331 : decode cL_law 331 = .ok (.iadd, 1) := dk_96 (dk_at dksL_law_12 11 rfl rfl)
theorem dL_law_332 : decode cL_law 332 = .ok (.iaload, 1) := dk_46 (dk_at dksL_law_12 12 rfl rfl)
theorem dL_law_333 : decode cL_law 333 = .ok (.aload_n 0, 1) := dk_42 (dk_at dksL_law_12 13 rfl rfl)
theorem dL_law_334 : decode cL_law 334 = .ok (.iload_n 3, 1) := dk_29 (dk_at dksL_law_12 14 rfl rfl)
theorem dL_law_335 : decode cL_law 335 = .ok (.iconst 2, 1) := dk_5 (dk_at dksL_law_12 15 rfl rfl)
theorem dL_law_336 : decode cL_law 336 = .ok (.iadd, 1) := dk_96 (dk_at dksL_law_12 16 rfl rfl)
theorem dL_law_337 : decode cL_law 337 = .ok (.iaload, 1) := dk_46 (dk_at dksL_law_12 17 rfl rfl)
theorem dL_law_338 : decode cL_law 338 = .ok (.invokevirtual 47, 3) := dk_182 0 47 (dk_at dksL_law_12 18 rfl rfl)
theorem dL_law_341 : decode cL_law 341 = .ok (.if_icmp .eq 144, 3) := dk_159 0 144 (dk_at dksL_law_12 21 rfl rfl)
theorem dL_law_344 : decode cL_law 344 = .ok (.iconst 0, 1) := dk_3 (dk_at dksL_law_13 0 rfl rfl)
theorem dL_law_345 : decode cL_law 345 = .ok (.ireturn, 1) := dk_172 (dk_at dksL_law_13 1 rfl rfl)
theorem dL_law_346 : decode cL_law 346 = .ok (.aload_n 1, 1) := dk_43 (dk_at dksL_law_13 2 rfl rfl)
theorem dL_law_347 : decode cL_law 347 = .ok (.aload_n 0, 1) := dk_42 (dk_at dksL_law_13 3 rfl rfl)
theorem dL_law_348 : decode cL_law 348 = .ok (.iload_n 3, 1) := dk_29 (dk_at dksL_law_13 4 rfl rfl)
theorem dL_law_349 : decode cL_law 349 = .ok (.iconst 1, 1) := dk_4 (dk_at dksL_law_13 5 rfl rfl)
theorem dL_law_350 : decode cL_law 350 = .ok (.iadd, 1) := dk_96 (dk_at dksL_law_13 6 rfl rfl)
theorem dL_law_351 : decode cL_law 351 = .ok (.iaload, 1) := dk_46 (dk_at dksL_law_13 7 rfl rfl)
theorem dL_law_352 : decode cL_law 352 = .ok (.invokevirtual 48, 3) := dk_182 0 48 (dk_at dksL_law_13 8 rfl rfl)
theorem dL_law_355 : decode cL_law 355 = .ok (.aload_n 2, 1) := dk_44 (dk_at dksL_law_13 11 rfl rfl)
theorem dL_law_356 : decode cL_law 356 = .ok (.aload_n 0, 1) := dk_42 (dk_at dksL_law_13 12 rfl rfl)
theorem dL_law_357 : decode cL_law 357 = .ok (.iload_n 3, 1) := dk_29 (dk_at dksL_law_13 13 rfl rfl)
theorem dL_law_358 : decode cL_law 358 = .ok (.iconst 1, 1) := dk_4 (dk_at dksL_law_13 14 rfl rfl)
theorem dL_law_359 : decode cL_law 359 = .ok (.iadd, 1) := dk_96 (dk_at dksL_law_13 15 rfl rfl)
theorem dL_law_360 : decode cL_law 360 = .ok (.iaload, 1) := dk_46 (dk_at dksL_law_13 16 rfl rfl)
theorem dL_law_361 : decode cL_law 361 = .ok (.invokevirtual 52, 3) := dk_182 0 52 (dk_at dksL_law_13 17 rfl rfl)
theorem dL_law_364 : decode cL_law 364 = .ok (.if_icmp .eq 121, 3) := dk_159 0 121 (dk_at dksL_law_13 20 rfl rfl)
theorem dL_law_367 : decode cL_law 367 = .ok (.iconst 0, 1) := dk_3 (dk_at dksL_law_13 23 rfl rfl)
theorem dL_law_368 : decode cL_law 368 = .ok (.ireturn, 1) := dk_172 (dk_at dksL_law_14 0 rfl rfl)
theorem dL_law_369 : decode cL_law 369 = .ok (.aload_n 1, 1) := dk_43 (dk_at dksL_law_14 1 rfl rfl)
theorem dL_law_370 : decode cL_law 370 = .ok (.aload_n 0, 1) := dk_42 (dk_at dksL_law_14 2 rfl rfl)
theorem dL_law_371 : decode cL_law 371 = .ok (.iload_n 3, 1) := dk_29 (dk_at dksL_law_14 3 rfl rfl)
theorem dL_law_372 : decode cL_law 372 = .ok (.iconst 1, 1) := dk_4 (dk_at dksL_law_14 4 rfl rfl)
theorem dL_law_373 : decode cL_law 373 = .ok (.iadd, 1) := dk_96 (dk_at dksL_law_14 5 rfl rfl)
theorem dL_law_374 : decode cL_law 374 = .ok (.iaload, 1) := dk_46 (dk_at dksL_law_14 6 rfl rfl)
theorem dL_law_375 : decode cL_law 375 = .ok (.invokevirtual 53, 3) := dk_182 0 53 (dk_at dksL_law_14 7 rfl rfl)
theorem dL_law_378 : decode cL_law 378 = .ok (.aload_n 2, 1) := dk_44 (dk_at dksL_law_14 10 rfl rfl)
theorem dL_law_379 : decode cL_law 379 = .ok (.aload_n 0, 1) := dk_42 (dk_at dksL_law_14 11 rfl rfl)
theorem dL_law_380 : decode cL_law 380 = .ok (.iload_n 3, 1) := dk_29 (dk_at dksL_law_14 12 rfl rfl)
theorem dL_law_381 : decode cL_law 381 = .ok (.iconst 1, 1) := dk_4 (dk_at dksL_law_14 13 rfl rfl)
theorem dL_law_382 : decode cL_law 382 = .ok (.iadd, 1) := dk_96 (dk_at dksL_law_14 14 rfl rfl)
theorem dL_law_383 : decode cL_law 383 = .ok (.iaload, 1) := dk_46 (dk_at dksL_law_14 15 rfl rfl)
theorem dL_law_384 : decode cL_law 384 = .ok (.invokevirtual 56, 3) := dk_182 0 56 (dk_at dksL_law_14 16 rfl rfl)
theorem dL_law_387 : decode cL_law 387 = .ok (.if_icmp .eq 98, 3) := dk_159 0 98 (dk_at dksL_law_14 19 rfl rfl)
theorem dL_law_390 : decode cL_law 390 = .ok (.iconst 0, 1) := dk_3 (dk_at dksL_law_14 22 rfl rfl)
theorem dL_law_391 : decode cL_law 391 = .ok (.ireturn, 1) := dk_172 (dk_at dksL_law_14 23 rfl rfl)
theorem dL_law_392 : decode cL_law 392 = .ok (.aload_n 1, 1) := dk_43 (dk_at dksL_law_15 0 rfl rfl)
theorem dL_law_393 : decode cL_law 393 = .ok (.aload_n 0, 1) := dk_42 (dk_at dksL_law_15 1 rfl rfl)
theorem dL_law_394 : decode cL_law 394 = .ok (.iload_n 3, 1) := dk_29 (dk_at dksL_law_15 2 rfl rfl)
theorem dL_law_395 : decode cL_law 395 = .ok (.iconst 1, 1) := dk_4 (dk_at dksL_law_15 3 rfl rfl)
theorem dL_law_396 : decode cL_law 396 = .ok (.iadd, 1) := dk_96 (dk_at dksL_law_15 4 rfl rfl)
theorem dL_law_397 : decode cL_law 397 = .ok (.iaload, 1) := dk_46 (dk_at dksL_law_15 5 rfl rfl)
theorem dL_law_398 : decode cL_law 398 = .ok (.invokevirtual 57, 3) := dk_182 0 57 (dk_at dksL_law_15 6 rfl rfl)
theorem dL_law_401 : decode cL_law 401 = .ok (.aload_n 2, 1) := dk_44 (dk_at dksL_law_15 9 rfl rfl)
theorem dL_law_402 : decode cL_law 402 = .ok (.aload_n 0, 1) := dk_42 (dk_at dksL_law_15 10 rfl rfl)
theorem dL_law_403 : decode cL_law 403 = .ok (.iload_n 3, 1) := dk_29 (dk_at dksL_law_15 11 rfl rfl)
theorem dL_law_404 : decode cL_law 404 = .ok (.iconst 1, 1) := dk_4 (dk_at dksL_law_15 12 rfl rfl)
theorem dL_law_405 : decode cL_law 405 = .ok (.iadd, 1) := dk_96 (dk_at dksL_law_15 13 rfl rfl)
theorem dL_law_406 : decode cL_law 406 = .ok (.iaload, 1) := dk_46 (dk_at dksL_law_15 14 rfl rfl)
theorem dL_law_407 : decode cL_law 407 = .ok (.invokevirtual 60, 3) := dk_182 0 60 (dk_at dksL_law_15 15 rfl rfl)
theorem dL_law_410 : decode cL_law 410 = .ok (.if_icmp .eq 75, 3) := dk_159 0 75 (dk_at dksL_law_15 18 rfl rfl)
theorem dL_law_413 : decode cL_law 413 = .ok (.iconst 0, 1) := dk_3 (dk_at dksL_law_15 21 rfl rfl)
theorem dL_law_414 : decode cL_law 414 = .ok (.ireturn, 1) := dk_172 (dk_at dksL_law_15 22 rfl rfl)
theorem dL_law_415 : decode cL_law 415 = .ok (.aload_n 1, 1) := dk_43 (dk_at dksL_law_15 23 rfl rfl)
theorem dL_law_416 : decode cL_law 416 = .ok (.aload_n 0, 1) := dk_42 (dk_at dksL_law_16 0 rfl rfl)
theorem dL_law_417 : decode cL_law 417 = .ok (.iload_n 3, 1) := dk_29 (dk_at dksL_law_16 1 rfl rfl)
theorem dL_law_418 : decode cL_law 418 = .ok (.iconst 1, 1) := dk_4 (dk_at dksL_law_16 2 rfl rfl)
theorem dL_law_419 : decode cL_law 419 = .ok (.iadd, 1) := dk_96 (dk_at dksL_law_16 3 rfl rfl)
theorem dL_law_420 : decode cL_law 420 = .ok (.iaload, 1) := dk_46 (dk_at dksL_law_16 4 rfl rfl)
theorem dL_law_421 : decode cL_law 421 = .ok (.invokevirtual 61, 3) := dk_182 0 61 (dk_at dksL_law_16 5 rfl rfl)
theorem dL_law_424 : decode cL_law 424 = .ok (.aload_n 2, 1) := dk_44 (dk_at dksL_law_16 8 rfl rfl)
theorem dL_law_425 : decode cL_law 425 = .ok (.aload_n 0, 1) := dk_42 (dk_at dksL_law_16 9 rfl rfl)
theorem dL_law_426 : decode cL_law 426 = .ok (.iload_n 3, 1) := dk_29 (dk_at dksL_law_16 10 rfl rfl)
theorem dL_law_427 : decode cL_law 427 = .ok (.iconst 1, 1) := dk_4 (dk_at dksL_law_16 11 rfl rfl)
theorem dL_law_428 : decode cL_law 428 = .ok (.iadd, 1) := dk_96 (dk_at dksL_law_16 12 rfl rfl)
theorem dL_law_429 : decode cL_law 429 = .ok (.iaload, 1) := dk_46 (dk_at dksL_law_16 13 rfl rfl)
theorem dL_law_430 : decode cL_law 430 = .ok (.invokevirtual 65, 3) := dk_182 0 65 (dk_at dksL_law_16 14 rfl rfl)
theorem dL_law_433 : decode cL_law 433 = .ok (.lcmp, 1) := dk_148 (dk_at dksL_law_16 17 rfl rfl)
theorem dL_law_434 : decode cL_law 434 = .ok (.ifCond .eq 51, 3) := dk_153 0 51 (dk_at dksL_law_16 18 rfl rfl)
theorem dL_law_437 : decode cL_law 437 = .ok (.iconst 0, 1) := dk_3 (dk_at dksL_law_16 21 rfl rfl)
theorem dL_law_438 : decode cL_law 438 = .ok (.ireturn, 1) := dk_172 (dk_at dksL_law_16 22 rfl rfl)
theorem dL_law_439 : decode cL_law 439 = .ok (.aload_n 1, 1) := dk_43 (dk_at dksL_law_16 23 rfl rfl)
theorem dL_law_440 : decode cL_law 440 = .ok (.aload_n 0, 1) := dk_42 (dk_at dksL_law_17 0 rfl rfl)
theorem dL_law_441 : decode cL_law 441 = .ok (.iload_n 3, 1) := dk_29 (dk_at dksL_law_17 1 rfl rfl)
theorem dL_law_442 : decode cL_law 442 = .ok (.iconst 1, 1) := dk_4 (dk_at dksL_law_17 2 rfl rfl)
theorem dL_law_443 : decode cL_law 443 = .ok (.iadd, 1) := dk_96 (dk_at dksL_law_17 3 rfl rfl)
theorem dL_law_444 : decode cL_law 444 = .ok (.iaload, 1) := dk_46 (dk_at dksL_law_17 4 rfl rfl)
theorem dL_law_445 : decode cL_law 445 = .ok (.invokevirtual 66, 3) := dk_182 0 66 (dk_at dksL_law_17 5 rfl rfl)
theorem dL_law_448 : decode cL_law 448 = .ok (.aload_n 2, 1) := dk_44 (dk_at dksL_law_17 8 rfl rfl)
theorem dL_law_449 : decode cL_law 449 = .ok (.aload_n 0, 1) := dk_42 (dk_at dksL_law_17 9 rfl rfl)
theorem dL_law_450 : decode cL_law 450 = .ok (.iload_n 3, 1) := dk_29 (dk_at dksL_law_17 10 rfl rfl)
theorem dL_law_451 : decode cL_law 451 = .ok (.iconst 1, 1) := dk_4 (dk_at dksL_law_17 11 rfl rfl)
theorem dL_law_452 : decode cL_law 452 = .ok (.iadd, 1) := dk_96 (dk_at dksL_law_17 12 rfl rfl)
theorem dL_law_453 : decode cL_law 453 = .ok (.iaload, 1) := dk_46 (dk_at dksL_law_17 13 rfl rfl)
theorem dL_law_454 : decode cL_law 454 = .ok (.invokevirtual 69, 3) := dk_182 0 69 (dk_at dksL_law_17 14 rfl rfl)
theorem dL_law_457 : decode cL_law 457 = .ok (.if_icmp .eq 28, 3) := dk_159 0 28 (dk_at dksL_law_17 17 rfl rfl)
theorem dL_law_460 : decode cL_law 460 = .ok (.iconst 0, 1) := dk_3 (dk_at dksL_law_17 20 rfl rfl)
theorem dL_law_461 : decode cL_law 461 = .ok (.ireturn, 1) := dk_172 (dk_at dksL_law_17 21 rfl rfl)
theorem dL_law_462 : decode cL_law 462 = .ok (.aload_n 1, 1) := dk_43 (dk_at dksL_law_17 22 rfl rfl)
theorem dL_law_463 : decode cL_law 463 = .ok (.aload_n 0, 1) := dk_42 (dk_at dksL_law_17 23 rfl rfl)
theorem dL_law_464 : decode cL_law 464 = .ok (.iload_n 3, 1) := dk_29 (dk_at dksL_law_18 0 rfl rfl)
theorem dL_law_465 : decode cL_law 465 = .ok (.iconst 1, 1) := dk_4 (dk_at dksL_law_18 1 rfl rfl)
theorem dL_law_466 : decode cL_law 466 = .ok (.iadd, 1) := dk_96 (dk_at dksL_law_18 2 rfl rfl)
theorem dL_law_467 : decode cL_law 467 = .ok (.iaload, 1) := dk_46 (dk_at dksL_law_18 3 rfl rfl)
theorem dL_law_468 : decode cL_law 468 = .ok (.invokevirtual 70, 3) := dk_182 0 70 (dk_at dksL_law_18 4 rfl rfl)
theorem dL_law_471 : decode cL_law 471 = .ok (.aload_n 2, 1) := dk_44 (dk_at dksL_law_18 7 rfl rfl)
theorem dL_law_472 : decode cL_law 472 = .ok (.aload_n 0, 1) := dk_42 (dk_at dksL_law_18 8 rfl rfl)
theorem dL_law_473 : decode cL_law 473 = .ok (.iload_n 3, 1) := dk_29 (dk_at dksL_law_18 9 rfl rfl)
theorem dL_law_474 : decode cL_law 474 = .ok (.iconst 1, 1) := dk_4 (dk_at dksL_law_18 10 rfl rfl)
theorem dL_law_475 : decode cL_law 475 = .ok (.iadd, 1) := dk_96 (dk_at dksL_law_18 11 rfl rfl)
theorem dL_law_476 : decode cL_law 476 = .ok (.iaload, 1) := dk_46 (dk_at dksL_law_18 12 rfl rfl)
theorem dL_law_477 : decode cL_law 477 = .ok (.invokevirtual 73, 3) := dk_182 0 73 (dk_at dksL_law_18 13 rfl rfl)
theorem dL_law_480 : decode cL_law 480 = .ok (.if_icmp .eq 5, 3) := dk_159 0 5 (dk_at dksL_law_18 16 rfl rfl)
theorem dL_law_483 : decode cL_law 483 = .ok (.iconst 0, 1) := dk_3 (dk_at dksL_law_18 19 rfl rfl)
theorem dL_law_484 : decode cL_law 484 = .ok (.ireturn, 1) := dk_172 (dk_at dksL_law_18 20 rfl rfl)
theorem dL_law_485 : decode cL_law 485 = .ok (.iinc 3 6, 3) := dk_132 3 6 (dk_at dksL_law_18 21 rfl rfl)
theorem dL_law_488 : decode cL_law 488 = .ok (.goto (-470), 3) := dk_167 254 42 (dk_at dksL_law_19 0 rfl rfl)
theorem dL_law_491 : decode cL_law 491 = .ok (.iconst 1, 1) := dk_4 (dk_at dksL_law_19 3 rfl rfl)
theorem dL_law_492 : decode cL_law 492 = .ok (.ireturn, 1) := dk_172 (dk_at dksL_law_19 4 rfl rfl)
theorem q6 : (Jvm.Cond.initialized "PeriodDeskLaw") ∈ lw_all := lw_g (lw_at lw_m1 0 rfl) rfl
set_option maxRecDepth 100000
theorem q44 : (Jvm.Cond.classLink "PeriodDeskLaw" (7 : Nat) "PeriodDesk") ∈ lw_all := lw_g (lw_at lw_m1 38 rfl) rfl
theorem q46 : (Jvm.Cond.methodLink "PeriodDeskLaw" (9 : Nat) ({ cls := "PeriodDesk", name := "<init>", desc := "()V" } : Jvm.MethodName)) ∈ lw_all := lw_g (lw_at lw_m1 40 rfl) rfl
theorem q85 : (Jvm.Cond.methodLink "PeriodDeskLaw" (13 : Nat) ({ cls := "PeriodDesk", name := "set", desc := "(IIII)V" } : Jvm.MethodName)) ∈ lw_all := lw_g (lw_at lw_m1 79 rfl) rfl
theorem q93 : (Jvm.Cond.methodLink "PeriodDeskLaw" (18 : Nat) ({ cls := "PeriodDesk", name := "plus", desc := "(I)Z" } : Jvm.MethodName)) ∈ lw_all := lw_g (lw_at lw_m1 87 rfl) rfl
theorem q662 : (Jvm.Cond.methodLink "PeriodDeskLaw" (23 : Nat) ({ cls := "PeriodDesk", name := "minus", desc := "(I)Z" } : Jvm.MethodName)) ∈ lw_all := lw_g (lw_at lw_m3 176 rfl) rfl
theorem q673 : (Jvm.Cond.methodLink "PeriodDeskLaw" (27 : Nat) ({ cls := "PeriodDesk", name := "times", desc := "(II)Z" } : Jvm.MethodName)) ∈ lw_all := lw_g (lw_at lw_m3 187 rfl) rfl
theorem q684 : (Jvm.Cond.methodLink "PeriodDeskLaw" (32 : Nat) ({ cls := "PeriodDesk", name := "turn", desc := "(I)Z" } : Jvm.MethodName)) ∈ lw_all := lw_g (lw_at lw_m3 198 rfl) rfl
theorem q693 : (Jvm.Cond.methodLink "PeriodDeskLaw" (36 : Nat) ({ cls := "PeriodDesk", name := "normal", desc := "(I)Z" } : Jvm.MethodName)) ∈ lw_all := lw_g (lw_at lw_m3 207 rfl) rfl
theorem q706 : (Jvm.Cond.methodLink "PeriodDeskLaw" (40 : Nat) ({ cls := "PeriodDesk", name := "days", desc := "(II)Z" } : Jvm.MethodName)) ∈ lw_all := lw_g (lw_at lw_m3 220 rfl) rfl
theorem q717 : (Jvm.Cond.methodLink "PeriodDeskLaw" (44 : Nat) ({ cls := "PeriodDesk", name := "months", desc := "(II)Z" } : Jvm.MethodName)) ∈ lw_all := lw_g (lw_at lw_m3 231 rfl) rfl
theorem q725 : (Jvm.Cond.methodLink "PeriodDeskLaw" (48 : Nat) ({ cls := "PeriodDesk", name := "years", desc := "(I)I" } : Jvm.MethodName)) ∈ lw_all := lw_g (lw_at lw_m3 239 rfl) rfl
theorem q729 : (Jvm.Cond.methodLink "PeriodDeskLaw" (53 : Nat) ({ cls := "PeriodDesk", name := "month", desc := "(I)I" } : Jvm.MethodName)) ∈ lw_all := lw_g (lw_at lw_m4 3 rfl) rfl
theorem q733 : (Jvm.Cond.methodLink "PeriodDeskLaw" (57 : Nat) ({ cls := "PeriodDesk", name := "day", desc := "(I)I" } : Jvm.MethodName)) ∈ lw_all := lw_g (lw_at lw_m4 7 rfl) rfl
theorem q737 : (Jvm.Cond.methodLink "PeriodDeskLaw" (61 : Nat) ({ cls := "PeriodDesk", name := "all", desc := "(I)J" } : Jvm.MethodName)) ∈ lw_all := lw_g (lw_at lw_m4 11 rfl) rfl
theorem q742 : (Jvm.Cond.methodLink "PeriodDeskLaw" (66 : Nat) ({ cls := "PeriodDesk", name := "below", desc := "(I)Z" } : Jvm.MethodName)) ∈ lw_all := lw_g (lw_at lw_m4 16 rfl) rfl
theorem q750 : (Jvm.Cond.methodLink "PeriodDeskLaw" (70 : Nat) ({ cls := "PeriodDesk", name := "nought", desc := "(I)Z" } : Jvm.MethodName)) ∈ lw_all := lw_g (lw_at lw_m4 24 rfl) rfl
theorem q758 : (Jvm.Cond.classLink "PeriodDeskLaw" (10 : Nat) "PeriodDeskModel") ∈ lw_all := lw_g (lw_at lw_m4 32 rfl) rfl
theorem q760 : (Jvm.Cond.methodLink "PeriodDeskLaw" (12 : Nat) ({ cls := "PeriodDeskModel", name := "<init>", desc := "()V" } : Jvm.MethodName)) ∈ lw_all := lw_g (lw_at lw_m4 34 rfl) rfl
theorem q775 : (Jvm.Cond.methodLink "PeriodDeskLaw" (17 : Nat) ({ cls := "PeriodDeskModel", name := "set", desc := "(IIII)V" } : Jvm.MethodName)) ∈ lw_all := lw_g (lw_at lw_m4 49 rfl) rfl
theorem q783 : (Jvm.Cond.methodLink "PeriodDeskLaw" (22 : Nat) ({ cls := "PeriodDeskModel", name := "plus", desc := "(I)Z" } : Jvm.MethodName)) ∈ lw_all := lw_g (lw_at lw_m4 57 rfl) rfl
theorem q800 : (Jvm.Cond.methodLink "PeriodDeskLaw" (26 : Nat) ({ cls := "PeriodDeskModel", name := "minus", desc := "(I)Z" } : Jvm.MethodName)) ∈ lw_all := lw_g (lw_at lw_m4 74 rfl) rfl
theorem q804 : (Jvm.Cond.methodLink "PeriodDeskLaw" (31 : Nat) ({ cls := "PeriodDeskModel", name := "times", desc := "(II)Z" } : Jvm.MethodName)) ∈ lw_all := lw_g (lw_at lw_m4 78 rfl) rfl
theorem q812 : (Jvm.Cond.methodLink "PeriodDeskLaw" (35 : Nat) ({ cls := "PeriodDeskModel", name := "turn", desc := "(I)Z" } : Jvm.MethodName)) ∈ lw_all := lw_g (lw_at lw_m4 86 rfl) rfl
theorem q816 : (Jvm.Cond.methodLink "PeriodDeskLaw" (39 : Nat) ({ cls := "PeriodDeskModel", name := "normal", desc := "(I)Z" } : Jvm.MethodName)) ∈ lw_all := lw_g (lw_at lw_m4 90 rfl) rfl
theorem q825 : (Jvm.Cond.methodLink "PeriodDeskLaw" (43 : Nat) ({ cls := "PeriodDeskModel", name := "days", desc := "(II)Z" } : Jvm.MethodName)) ∈ lw_all := lw_g (lw_at lw_m4 99 rfl) rfl
theorem q829 : (Jvm.Cond.methodLink "PeriodDeskLaw" (47 : Nat) ({ cls := "PeriodDeskModel", name := "months", desc := "(II)Z" } : Jvm.MethodName)) ∈ lw_all := lw_g (lw_at lw_m4 103 rfl) rfl
theorem q833 : (Jvm.Cond.methodLink "PeriodDeskLaw" (52 : Nat) ({ cls := "PeriodDeskModel", name := "years", desc := "(I)I" } : Jvm.MethodName)) ∈ lw_all := lw_g (lw_at lw_m4 107 rfl) rfl
theorem q837 : (Jvm.Cond.methodLink "PeriodDeskLaw" (56 : Nat) ({ cls := "PeriodDeskModel", name := "month", desc := "(I)I" } : Jvm.MethodName)) ∈ lw_all := lw_g (lw_at lw_m4 111 rfl) rfl
theorem q841 : (Jvm.Cond.methodLink "PeriodDeskLaw" (60 : Nat) ({ cls := "PeriodDeskModel", name := "day", desc := "(I)I" } : Jvm.MethodName)) ∈ lw_all := lw_g (lw_at lw_m4 115 rfl) rfl
theorem q845 : (Jvm.Cond.methodLink "PeriodDeskLaw" (65 : Nat) ({ cls := "PeriodDeskModel", name := "all", desc := "(I)J" } : Jvm.MethodName)) ∈ lw_all := lw_g (lw_at lw_m4 119 rfl) rfl
theorem q846 : (Jvm.Cond.methodLink "PeriodDeskLaw" (69 : Nat) ({ cls := "PeriodDeskModel", name := "below", desc := "(I)Z" } : Jvm.MethodName)) ∈ lw_all := lw_g (lw_at lw_m4 120 rfl) rfl
theorem q850 : (Jvm.Cond.methodLink "PeriodDeskLaw" (73 : Nat) ({ cls := "PeriodDeskModel", name := "nought", desc := "(I)Z" } : Jvm.MethodName)) ∈ lw_all := lw_g (lw_at lw_m4 124 rfl) rfl
theorem q53 : (Jvm.Cond.arrayOver (Jvm.ClassFile.FieldType.object "Period")) ∈ lw_tbl := lw_at lw_m1 47 rfl
set_option maxRecDepth 100000
theorem q391 : (Jvm.Cond.arrayClass Jvm.ClassFile.FieldType.byte) ∈ lw_all := lw_g (lw_at lw_m2 145 rfl) rfl
theorem q425 : (Jvm.Cond.arrayOver (Jvm.ClassFile.FieldType.object "ChronoUnit")) ∈ lw_tbl := lw_at lw_m2 179 rfl
theorem q774 : (Jvm.Cond.arrayClass Jvm.ClassFile.FieldType.int) ∈ lw_all := lw_g (lw_at lw_m4 48 rfl) rfl
theorem q879 : (Jvm.Cond.arrayOver (Jvm.ClassFile.FieldType.object "java/lang/Object")) ∈ lw_tbl := lw_at lw_m4 153 rfl
theorem q882 : (Jvm.Cond.castable "[LPeriod;" "java/lang/Object") ∈ lw_tbl := lw_at lw_m4 156 rfl
set_option maxRecDepth 100000
theorem q885 : (Jvm.Cond.castable "[I" "java/lang/Object") ∈ lw_tbl := lw_at lw_m4 159 rfl
set_option maxRecDepth 100000
end
section
/-! OWN WORDS: the three classes; a Period's picture; the frames; calls that answer one known value -/
set_option maxRecDepth 100000
abbrev pdCl : List vw_C := [(RX0, TX0, 1), (RX2, TX2, 3), (RX3, TX3, 3)]
/-- a period's cell -/
abbrev pdE (y m d : Int32) : va_E := .inr (1, [.int y, .int m, .int d])
/-- at p lies a Period of y, m, d -/
abbrev pdAt (D : va_G) (H : Heap) (p : Nat) (y m d : Int32) : Prop := va_P D pdCl [(p, pdE y m d)] H
theorem pdAt_lt {D : va_G} {H : Heap} {p : Nat} {y m d : Int32} (h : pdAt D H p y m d) : p < H.size := (h 0 _ rfl).lt
theorem pdAt_kept {D : va_G} {H H1 : Heap} {p : Nat} {y m d : Int32} (h : pdAt D H p y m d) (hq : H1[p]? = H[p]?) : pdAt D H1 p y m d :=
  h.kept (fun k q hk => by
    match k, hk with
    | 0, hk => cases hk; exact hq
    | k + 1, hk => simp at hk)
/-- the picture of a Period: its three numbers, and whether it is the constant ZERO (at z) -/
def pdPer (D : va_G) (z : Nat) (H : Heap) (p : Nat) (y m d : Int32) : Prop := pdAt D H p y m d ∧ (p = z ↔ (y = 0 ∧ m = 0 ∧ d = 0))
theorem pdPer_kept {D : va_G} {z : Nat} {H H1 : Heap} {p : Nat} {y m d : Int32} (h : pdPer D z H p y m d) (hq : H1[p]? = H[p]?) : pdPer D z H1 p y m d := ⟨pdAt_kept h.1 hq, h.2⟩
theorem pdPer_S {D : va_G} {z : Nat} {A : Nat → Prop} {H0 H : Heap} {locs : List Loc} {p : Nat} {y m d : Int32} (h : pdPer D z H0 p y m d) (hA : ¬ A p) (hS : va_S A H0 H locs) : pdPer D z H p y m d := pdPer_kept h (hS.2.1 p (pdAt_lt h.1) hA)
/-- new cells alone -/
def pdN (sz : Nat) : Nat → Prop := fun q => sz ≤ q
/-- what a method knows of the constant ZERO -/
def pdZ (D : va_G) (z : Nat) (A : Nat → Prop) (U : State) : Prop := va_Z "Period" "ZERO" "LPeriod;" (.ref z) A U U.heap ∧ pdAt D U.heap z 0 0 0 ∧ ¬ A z
theorem pdZ_call {D : va_G} {z : Nat} {A B : Nat → Prop} {s U : State} {H : Heap} {locs : List Loc} (h : pdZ D z A s) (hS : va_S A s.heap H locs) (hU : U.heap = H) (hW : s.WarmedH U.vm) (hAB : ∀ q, B q → A q) : pdZ D z B U :=
  ⟨(va_Z.moved hW.alike (h.1.kept (H1 := U.heap) (fun a h1 h2 => by rw [hU]; exact hS.2.1 a h1 h2))).narrow hAB, by rw [hU]; exact pdAt_kept h.2.1 (hS.2.1 z (pdAt_lt h.2.1) h.2.2), fun q => h.2.2 (hAB _ q)⟩
theorem pdZ_blind {D : va_G} {z : Nat} {A : Nat → Prop} {U : State} (g : JFrame) (mk : MethodId) (a : Array Value) (h : pdZ D z A U) : pdZ D z A (U.calling g mk a) :=
  ⟨va_Z.moved (u := U) (U := U.calling g mk a) (Vm.Alike.refl U.vm) h.1, h.2⟩
theorem pdZ_per {D : va_G} {z : Nat} {A : Nat → Prop} {U : State} (h : pdZ D z A U) : pdPer D z U.heap z 0 0 0 := ⟨h.2.1, by simp⟩
theorem pdK_blind {D : va_G} {tys : List (ClassId × FieldType)} {U : State} (g : JFrame) (mk : MethodId) (a : Array Value) (h : va_K D pdCl tys U) : va_K D pdCl tys (U.calling g mk a) := va_K.moved (u := U) (U := U.calling g mk a) (Vm.Alike.refl U.vm) h
/-- what a reader of a Period asks -/
def pdRd (D : va_G) (h0 : Nat) (y m d : Int32) (U : State) : Prop := va_K D pdCl [] U ∧ pdAt D U.heap h0 y m d
theorem pdRd_pre {D : va_G} {tys : List (ClassId × FieldType)} {s : State} {H : Heap} {h0 : Nat} {y m d : Int32} {As : List Value} (hK : va_K D pdCl tys s) (hO : pdAt D H h0 y m d) : PreV s H RX2 h0 (va_Pc (.ref h0 :: As) (pdRd D h0 y m d)) As :=
  ⟨fun a U g mk q => ⟨q.1, pdK_blind g mk a q.2.1, q.2.2⟩, va_recv hK hO (ci := 1) (q0 := 0) rfl rfl, fun U hU hW => ⟨rfl, (va_K.moved hW.alike hK).sub [] rfl, by rw [hU]; exact hO⟩⟩
theorem pdRd_preS {D : va_G} {tys : List (ClassId × FieldType)} {s : State} {H : Heap} {h0 : Nat} {y m d : Int32} {As : List Value} (hK : va_K D pdCl tys s) (hO : pdAt D H h0 y m d) : PreS s H (va_Pc As (pdRd D h0 y m d)) As :=
  ⟨fun a U g mk q => ⟨q.1, pdK_blind g mk a q.2.1, q.2.2⟩, fun U hU hW => ⟨rfl, (va_K.moved hW.alike hK).sub [] rfl, by rw [hU]; exact hO⟩⟩
/-- a static method that asks nothing of the heap -/
theorem pdT_preS {s : State} {H : Heap} {As : List Value} : PreS s H (va_Pc As (fun _ => True)) As := ⟨fun _ _ _ _ q => q, fun _ _ _ => ⟨rfl, trivial⟩⟩
/-- what a static maker of Periods asks -/
def pdMs (D : va_G) (z sz : Nat) (U : State) : Prop := U.heap.size = sz ∧ va_K D pdCl [] U ∧ pdZ D z (pdN sz) U
theorem pdMs_preS {D : va_G} {z : Nat} {tys : List (ClassId × FieldType)} {A : Nat → Prop} {s : State} {H : Heap} {locs : List Loc} {As : List Value} (hK : va_K D pdCl tys s) (hZ : pdZ D z A s) (hS : va_S A s.heap H locs) (hA : ∀ q, s.heap.size ≤ q → A q) : PreS s H (va_Pc As (pdMs D z H.size)) As :=
  ⟨fun a U g mk q => ⟨q.1, q.2.1, pdK_blind g mk a q.2.2.1, pdZ_blind g mk a q.2.2.2⟩, fun U hU hW => ⟨rfl, by rw [hU], (va_K.moved hW.alike hK).sub [] rfl, pdZ_call hZ hS hU hW (fun q h => hA q (Nat.le_trans hS.1 h))⟩⟩
/-- what a method of a Period that may make one asks -/
def pdMk (D : va_G) (z sz h0 : Nat) (y m d : Int32) (U : State) : Prop := U.heap.size = sz ∧ va_K D pdCl [] U ∧ pdPer D z U.heap h0 y m d ∧ pdZ D z (pdN sz) U
theorem pdMk_pre {D : va_G} {z h0 : Nat} {y m d : Int32} {tys : List (ClassId × FieldType)} {A : Nat → Prop} {s : State} {H : Heap} {locs : List Loc} {As : List Value} (hK : va_K D pdCl tys s) (hO : pdPer D z H h0 y m d) (hZ : pdZ D z A s) (hS : va_S A s.heap H locs) (hA : ∀ q, s.heap.size ≤ q → A q) : PreV s H RX2 h0 (va_Pc (.ref h0 :: As) (pdMk D z H.size h0 y m d)) As :=
  ⟨fun a U g mk q => ⟨q.1, q.2.1, pdK_blind g mk a q.2.2.1, q.2.2.2.1, pdZ_blind g mk a q.2.2.2.2⟩, va_recv hK hO.1 (ci := 1) (q0 := 0) rfl rfl, fun U hU hW => ⟨rfl, by rw [hU], (va_K.moved hW.alike hK).sub [] rfl, by rw [hU]; exact hO, pdZ_call hZ hS hU hW (fun q h => hA q (Nat.le_trans hS.1 h))⟩⟩
/-- the same, with a second Period as its argument -/
def pdM2 (D : va_G) (z sz h0 : Nat) (y m d : Int32) (h1 : Nat) (y' m' d' : Int32) (U : State) : Prop := U.heap.size = sz ∧ va_K D pdCl [] U ∧ pdAt D U.heap h0 y m d ∧ pdAt D U.heap h1 y' m' d' ∧ pdZ D z (pdN sz) U
theorem pdM2_pre {D : va_G} {z h0 h1 : Nat} {y m d y' m' d' : Int32} {tys : List (ClassId × FieldType)} {A : Nat → Prop} {s : State} {H : Heap} {locs : List Loc} {As : List Value} (hK : va_K D pdCl tys s) (hO : pdAt D H h0 y m d) (hO' : pdAt D H h1 y' m' d') (hZ : pdZ D z A s) (hS : va_S A s.heap H locs) (hA : ∀ q, s.heap.size ≤ q → A q) : PreV s H RX2 h0 (va_Pc (.ref h0 :: As) (pdM2 D z H.size h0 y m d h1 y' m' d')) As :=
  ⟨fun a U g mk q => ⟨q.1, q.2.1, pdK_blind g mk a q.2.2.1, q.2.2.2.1, q.2.2.2.2.1, pdZ_blind g mk a q.2.2.2.2.2⟩, va_recv hK hO (ci := 1) (q0 := 0) rfl rfl, fun U hU hW => ⟨rfl, by rw [hU], (va_K.moved hW.alike hK).sub [] rfl, by rw [hU]; exact hO, by rw [hU]; exact hO', pdZ_call hZ hS hU hW (fun q h => hA q (Nat.le_trans hS.1 h))⟩⟩
/-- ends: one known answer, and a picture of the heap; or some cell as the answer -/
def pdG (rv : Option Value) (B : Heap → Prop) (A1 : Nat → Prop) : Array Value → State → Outcome → State → Prop := fun _ st oc t => oc = .returned rv ∧ B t.heap ∧ va_F A1 st t
def pdGr (B : Nat → Heap → Prop) (A1 : Nat → Prop) : Array Value → State → Outcome → State → Prop := fun _ st oc t => ∃ a : Nat, oc = .returned (some (.ref a)) ∧ B a t.heap ∧ va_F A1 st t
section PDC
variable {p : Program} {l : Launch} {e : Env} {R : Room} {s : State} {m : MethodId} {args : Array Value} {below : List Frame} {meth : Method} {c : Code} {H : Heap} {locs : List Loc} {cells slots : Nat} {Q : State → Prop}
variable {pc : Nat} {ls : Array Slot} {rest st0 : List Value} {a : Array Value} {A0 A1 : Nat → Prop} {mc ms : Nat} {free : Addr → Prop} {cc : ByteArray}
/-- behind a call that only reads -/
theorem pd_callV {r : Value} (hr : CallRun p l e R s m args below meth c H locs cells slots 0 0 (F0 m pc ls st0) rest (k2_QcV r a) (fun _ => False))
    (kk : W p l e R s m args below meth c H locs cells slots Q (F0 m (pc + 3) ls (r :: rest))) : W p l e R s m args below meth c H locs cells slots Q (F0 m pc ls st0) := by
  intro T hT X
  obtain ⟨v, st₀, t, T', L, h0, X', hL, e1, ⟨hv, hh⟩, st⟩ := hr T hT X
  cases hv
  obtain ⟨t2, a1, b1⟩ := kk T' (by rw [e1, hh, h0]) (Stand.forget X' (fun q h => (hL q h).elim))
  exact ⟨t2, st t2 a1, b1⟩
theorem pd_S_call {H0 H1 : Heap} {L : List Loc} (hS : va_S A0 H0 H locs) (hz : H.size ≤ H1.size) (hk : ∀ q : Nat, q < H.size → ¬ A1 q → H1[q]? = H[q]?) (hA : ∀ q, A1 q → A0 q) (hL : ∀ q ∈ L, A0 q.base) : va_S A0 H0 H1 (locs ++ L) :=
  ⟨Nat.le_trans hS.1 hz, fun q h1 h2 => (hk q (Nat.lt_of_lt_of_le h1 hS.1) (fun h => h2 (hA q h))).trans (hS.2.1 q h1 h2), fun q h => by
    rcases List.mem_append.mp h with h | h
    · exact hS.2.2 q h
    · exact hL q h⟩
/-- behind a call with one known answer -/
theorem pd_callG {rv : Option Value} {B : Heap → Prop} (hr : CallRun p l e R s m args below meth c H locs cells slots mc ms (F0 m pc ls st0) rest (pdG rv B A1 a) A1) (hS : va_S A0 s.heap H locs) (hA : ∀ q, A1 q → A0 q)
    (kk : ∀ (H1 : Heap) (locs1 : List Loc), B H1 → H.size ≤ H1.size → (∀ q : Nat, q < H.size → ¬ A1 q → H1[q]? = H[q]?) → va_S A0 s.heap H1 locs1 → W p l e R s m args below meth c H1 locs1 (cells + mc) (slots + ms) Q (F0 m (pc + 3) ls (rv.toList ++ rest))) : W p l e R s m args below meth c H locs cells slots Q (F0 m pc ls st0) := by
  intro T hT X
  obtain ⟨v, st₀, t, T', L, h0, X', hL, e1, ⟨hv, hB, hz, hk⟩, st⟩ := hr T hT X
  cases hv
  rw [h0] at hz hk
  obtain ⟨t2, a1, b1⟩ := kk t.heap _ hB hz hk (pd_S_call hS hz hk hA (fun q h => hA _ (hL q h))) T' e1 X'
  exact ⟨t2, st t2 a1, b1⟩
/-- behind a call that answers some cell -/
theorem pd_callR {B : Nat → Heap → Prop} (hr : CallRun p l e R s m args below meth c H locs cells slots mc ms (F0 m pc ls st0) rest (pdGr B A1 a) A1) (hS : va_S A0 s.heap H locs) (hA : ∀ q, A1 q → A0 q)
    (kk : ∀ (ra : Nat) (H1 : Heap) (locs1 : List Loc), B ra H1 → H.size ≤ H1.size → (∀ q : Nat, q < H.size → ¬ A1 q → H1[q]? = H[q]?) → va_S A0 s.heap H1 locs1 → W p l e R s m args below meth c H1 locs1 (cells + mc) (slots + ms) Q (F0 m (pc + 3) ls (.ref ra :: rest))) : W p l e R s m args below meth c H locs cells slots Q (F0 m pc ls st0) := by
  intro T hT X
  obtain ⟨v, st₀, t, T', L, h0, X', hL, e1, ⟨ra, hv, hB, hz, hk⟩, st⟩ := hr T hT X
  cases hv
  rw [h0] at hz hk
  obtain ⟨t2, a1, b1⟩ := kk ra t.heap _ hB hz hk (pd_S_call hS hz hk hA (fun q h => hA _ (hL q h))) T' e1 X'
  exact ⟨t2, st t2 a1, b1⟩
/-- an array of references gets a cell that lies outside the method's list -/
theorem pd_ast (hexec : p.tables.exec = Jvm.exec) (hb : c.code = cc) {D : va_G} {cl : List vw_C} {tys : List (ClassId × FieldType)} {ws : va_W} {H0 : Heap} {a : Nat} (hK : va_K D cl tys s) (hP : va_P D cl ws H) (hD : va_D A0 ws) (hS : va_S A0 H0 H locs) (q0 t0 ci : Nat) {cA : ClassId} {r : vw_C} {n v : Nat} {vs : List Value} {f : Nat → Option Nat} (ha : ws[q0]? = some (a, .inl (cA, n, .inr (.inr (.inr (.inr f)))))) (ht : tys[t0]? = some (cA, .object r.1)) (hv : va_at D cl (v, .inr (ci, vs)) H) (hc : cl[ci]? = some r) {i : Int32} (hin : vp_in i n) (hdg : decode cc pc = .ok (.aastore, 1))
    (kk : ∀ (H1 : Heap) (locs1 : List Loc), va_P D cl (ws.set q0 (a, .inl (cA, n, .inr (.inr (.inr (.inr (va_up f i.toNatClampNeg (some v)))))))) H1 → va_D A0 (ws.set q0 (a, .inl (cA, n, .inr (.inr (.inr (.inr (va_up f i.toNatClampNeg (some v)))))))) → va_S A0 H0 H1 locs1 → H1.size = H.size → (∀ q : Nat, q ≠ a → H1[q]? = H[q]?) → W p l e R s m args below meth c H1 locs1 cells slots Q (F0 m (pc + 1) ls rest)) : W p l e R s m args below meth c H locs cells slots Q (F0 m pc ls (.ref v :: .int i :: .ref a :: rest)) := by
  have hlt : i.toNatClampNeg < n := Nat.not_le.mp fun q => hin (Or.inr q)
  have h0 : ¬ i < 0 := fun q => hin (Or.inl q)
  obtain ⟨r', hr', cellV, g1, g2, g3, -⟩ := hv
  have hcls := (hK.1 ci r hc).2
  obtain ⟨kA, comp, k1, k2, k3, -⟩ := (hK.2 t0 _ ht).2
  have hcomp : comp = D.1 ci := Option.some.inj (k3.symm.trans hcls.1)
  subst hcomp
  obtain ⟨kC, hkC, -⟩ := hcls.2
  refine W.aast hexec hb (hP q0 _ ha) (fun q h => by cases h) (fun h => by cases h) k1 k2 rfl hkC ⟨h0, by show _ < (arrV _ _ _).slots.size; rw [arrV_size]; exact hlt⟩ g1 (fun q h => by rw [g3] at h; cases h) (by rw [g2]; exact hkC) (by rw [g2]; exact va_assign hcls) rfl rfl hdg fun H1 e z oq => ?_
  refine kk H1 _ (hP.set hD ha ?_ oq) (hD.set ha) (hS.put z oq (hD.2 q0 _ ha)) z oq
  show H1[a]? = some (vp_cell _ _)
  rw [e]
  rw [vp_cell_q, vp_cell_q, arrV_store]
  congr 2
  funext q
  by_cases hq : q = i.toNatClampNeg
  · subst hq
    simp [updV, va_up, va_rf]
  · simp [updV, va_up, hq]
end PDC
end
section
/-! THE PLAIN LAW: numbers, and the desk as functions of its state; no program in sight -/
set_option maxRecDepth 100000
def pdSm (x : Int32) : Bool := !decide ((500000000 : Int32) ≤ x) && !decide (x ≤ (-500000000 : Int32))
def pdRm (y m d : Int32) : Bool := pdSm y && (pdSm m && pdSm d)
theorem pd_bmod32 {z : Int} (h : -2147483648 ≤ z) (h2 : z < 2147483648) : z.bmod (2 ^ 32) = z := by
  rw [Int.bmod_def]; split <;> omega
theorem pd_bmod64 {z : Int} (h : -9223372036854775808 ≤ z) (h2 : z < 9223372036854775808) : z.bmod (2 ^ 64) = z := by
  rw [Int.bmod_def]; split <;> omega
theorem pdSm_iff (x : Int32) : pdSm x = true ↔ -500000000 < x.toInt ∧ x.toInt < 500000000 := by
  have e1 : (500000000 : Int32).toInt = 500000000 := by decide
  have e2 : (-500000000 : Int32).toInt = -500000000 := by decide
  unfold pdSm
  rw [Bool.and_eq_true, Bool.not_eq_true', Bool.not_eq_true', decide_eq_false_iff_not, decide_eq_false_iff_not, Int32.le_iff_toInt_le, Int32.le_iff_toInt_le, e1, e2]
  omega
theorem pd_lo (a : Int32) : -2147483648 ≤ a.toInt := a.le_toInt
theorem pd_hi (a : Int32) : a.toInt < 2147483648 := a.toInt_lt
theorem pd_neg (a : Int32) : a < 0 ↔ a.toBitVec.msb = true := by
  rw [BitVec.msb_eq_toInt, decide_eq_true_iff, Int32.lt_iff_toInt_lt]
  exact Iff.rfl
theorem pd_neg64 (a : Int64) : a < 0 ↔ a.toBitVec.msb = true := by
  rw [BitVec.msb_eq_toInt, decide_eq_true_iff, Int64.lt_iff_toInt_lt]
  exact Iff.rfl
theorem pd_xneg (a b : Int32) : (a ^^^ b) < 0 ↔ ¬ ((a < 0) ↔ (b < 0)) := by
  rw [pd_neg, pd_neg, pd_neg, Int32.toBitVec_xor, BitVec.msb_xor]
  cases a.toBitVec.msb <;> cases b.toBitVec.msb <;> simp
theorem pd_xneg64 (a b : Int64) : (a ^^^ b) < 0 ↔ ¬ ((a < 0) ↔ (b < 0)) := by
  rw [pd_neg64, pd_neg64, pd_neg64, Int64.toBitVec_xor, BitVec.msb_xor]
  cases a.toBitVec.msb <;> cases b.toBitVec.msb <;> simp
theorem pd_n0 (a : Int32) : a < 0 ↔ a.toInt < 0 := Int32.lt_iff_toInt_lt
theorem pd_n0l (a : Int64) : a < 0 ↔ a.toInt < 0 := Int64.lt_iff_toInt_lt
theorem pd_nge (a : Int32) : ¬ 0 ≤ a ↔ a < 0 := by
  have e : (0 : Int32).toInt = 0 := by decide
  rw [Int32.le_iff_toInt_le, Int32.lt_iff_toInt_lt, e]; omega
theorem pd_nge64 (a : Int64) : ¬ 0 ≤ a ↔ a < 0 := by
  have e : (0 : Int64).toInt = 0 := by decide
  rw [Int64.le_iff_toInt_le, Int64.lt_iff_toInt_lt, e]; omega
/-- Jdk8Methods.safeAdd of two ints doesn't throw -/
theorem pd_add_ok {a b : Int32} (ha : pdSm a = true) (hb : pdSm b = true) (h1 : ¬ 0 ≤ a ^^^ (a + b)) (h2 : ¬ (a ^^^ b) < 0) : False := by
  rw [pdSm_iff] at ha hb
  rw [pd_nge, pd_xneg, pd_n0, pd_n0, Int32.toInt_add, pd_bmod32 (by omega) (by omega)] at h1
  rw [pd_xneg, pd_n0, pd_n0] at h2
  omega
theorem pd_sub_ok {a b : Int32} (ha : pdSm a = true) (hb : pdSm b = true) (h1 : ¬ 0 ≤ a ^^^ (a - b)) (h2 : ¬ 0 ≤ (a ^^^ b)) : False := by
  rw [pdSm_iff] at ha hb
  rw [pd_nge, pd_xneg, pd_n0, pd_n0, Int32.toInt_sub, pd_bmod32 (by omega) (by omega)] at h1
  rw [pd_nge, pd_xneg, pd_n0, pd_n0] at h2
  omega
theorem pd_addl_ok {a b : Int32} (h1 : ¬ 0 ≤ lg_cmp (a.toInt64 ^^^ (a.toInt64 + b.toInt64)) 0) (h2 : ¬ lg_cmp (a.toInt64 ^^^ b.toInt64) 0 < 0) : False := by
  have := pd_lo a; have := pd_hi a; have := pd_lo b; have := pd_hi b
  rw [lg_cmp_ge, pd_nge64, pd_xneg64, pd_n0l, pd_n0l, Int64.toInt_add, Int32.toInt_toInt64, Int32.toInt_toInt64, pd_bmod64 (by omega) (by omega)] at h1
  rw [lg_cmp_lt, pd_xneg64, pd_n0l, pd_n0l, Int32.toInt_toInt64, Int32.toInt_toInt64] at h2
  omega
/-- a long that is an int -/
def pdFit (v : Int64) : Prop := ¬ v < -2147483648 ∧ ¬ 2147483647 < v
theorem pdFit_of {v : Int64} (h1 : -2147483648 ≤ v.toInt) (h2 : v.toInt ≤ 2147483647) : pdFit v := by
  have e1 : (-2147483648 : Int64).toInt = -2147483648 := by decide
  have e2 : (2147483647 : Int64).toInt = 2147483647 := by decide
  unfold pdFit
  rw [Int64.lt_iff_toInt_lt, Int64.lt_iff_toInt_lt, e1, e2]
  omega
theorem pd_mul_fit {a k : Int32} (ha : pdSm a = true) (h1 : -1 ≤ k.toInt) (h2 : k.toInt ≤ 3) : pdFit (a.toInt64 * k.toInt64) := by
  rw [pdSm_iff] at ha
  have hv : (a.toInt64 * k.toInt64).toInt = (a.toInt * k.toInt).bmod (2 ^ 64) := by rw [Int64.toInt_mul, Int32.toInt_toInt64, Int32.toInt_toInt64]
  have hk : k.toInt = -1 ∨ k.toInt = 0 ∨ k.toInt = 1 ∨ k.toInt = 2 ∨ k.toInt = 3 := by omega
  rcases hk with e | e | e | e | e <;> rw [e, pd_bmod64 (by omega) (by omega)] at hv <;> exact pdFit_of (by omega) (by omega)
theorem pd_mul_i (a b : Int32) : (a.toInt64 * b.toInt64).toInt32 = a * b := by rw [Int64.toInt32_mul, Int32.toInt32_toInt64, Int32.toInt32_toInt64]
theorem pd_add_i (a b : Int32) : (a.toInt64 + b.toInt64).toInt32 = a + b := by rw [Int64.toInt32_add, Int32.toInt32_toInt64, Int32.toInt32_toInt64]
theorem pd_and3 (n : Int32) : -1 ≤ (n &&& 3).toInt ∧ (n &&& 3).toInt ≤ 3 := by
  obtain ⟨j, hj, e⟩ := pk_andE n (m := 3) 2 (by decide)
  rw [e, nI_toInt (by omega)]
  omega
/-- n % 1000000 as the machine has it -/
def pf_small (n : Int32) : Int32 := n - n / 1000000 * 1000000
theorem pf_small_int (n : Int32) : -1000000 < (pf_small n).toInt ∧ (pf_small n).toInt < 1000000 := by
  have e1 : (1000000 : Int32).toInt = 1000000 := by decide
  have hl := pd_lo n
  have hh := pd_hi n
  have hd : (n / 1000000).toInt = n.toInt.tdiv 1000000 := by rw [Int32.toInt_div_of_ne_right _ _ (by decide), e1]
  have h1 := Int.mul_tdiv_add_tmod n.toInt 1000000
  have h2 : n.toInt.tmod 1000000 < 1000000 := Int.tmod_lt_of_pos _ (by decide)
  have h3 : -1000000 < n.toInt.tmod 1000000 := Int.lt_tmod_of_pos _ (by decide)
  have h4 : 0 ≤ n.toInt → 0 ≤ n.toInt.tmod 1000000 := fun h => Int.tmod_nonneg 1000000 h
  have h5 : n.toInt ≤ 0 → n.toInt.tmod 1000000 ≤ 0 := fun h => by
    have h6 := Int.tmod_nonneg 1000000 (show 0 ≤ -n.toInt by omega)
    rw [Int.neg_tmod] at h6
    omega
  have hm : (n / 1000000 * 1000000).toInt = n.toInt.tdiv 1000000 * 1000000 := by
    rw [Int32.toInt_mul, hd, e1, pd_bmod32 (by omega) (by omega)]
  unfold pf_small
  rw [Int32.toInt_sub, hm, pd_bmod32 (by omega) (by omega)]
  omega
theorem pd_days_fit {a : Int32} (ha : pdSm a = true) (n : Int32) : pdFit (a.toInt64 + (pf_small n).toInt64) := by
  rw [pdSm_iff] at ha
  have h := pf_small_int n
  have hv : (a.toInt64 + (pf_small n).toInt64).toInt = a.toInt + (pf_small n).toInt := by
    rw [Int64.toInt_add, Int32.toInt_toInt64, Int32.toInt_toInt64, pd_bmod64 (by omega) (by omega)]
  exact pdFit_of (by omega) (by omega)
theorem pd_l12 : (12 : Int64).toInt = 12 := by decide
theorem pd_all_int (y m : Int32) : (y.toInt64 * 12 + m.toInt64).toInt = y.toInt * 12 + m.toInt := by
  have := pd_lo y; have := pd_hi y; have := pd_lo m; have := pd_hi m
  have h1 : (y.toInt64 * 12).toInt = y.toInt * 12 := by rw [Int64.toInt_mul, Int32.toInt_toInt64, pd_l12, pd_bmod64 (by omega) (by omega)]
  rw [Int64.toInt_add, h1, Int32.toInt_toInt64, pd_bmod64 (by omega) (by omega)]
theorem pd_split_fit {y m : Int32} (hy : pdSm y = true) (hm : pdSm m = true) : pdFit ((y.toInt64 * 12 + m.toInt64) / 12) := by
  rw [pdSm_iff] at hy hm
  have hv := pd_all_int y m
  have hd : ((y.toInt64 * 12 + m.toInt64) / 12).toInt = (y.toInt * 12 + m.toInt).tdiv 12 := by
    rw [Int64.toInt_div_of_ne_right _ _ (by decide), hv, pd_l12]
  have h1 := Int.mul_tdiv_add_tmod (y.toInt * 12 + m.toInt) 12
  have h2 : (y.toInt * 12 + m.toInt).tmod 12 < 12 := Int.tmod_lt_of_pos _ (by decide)
  have h3 : -12 < (y.toInt * 12 + m.toInt).tmod 12 := Int.lt_tmod_of_pos _ (by decide)
  exact pdFit_of (by omega) (by omega)
theorem pd_or0 {y m d : Int32} (h : ((y ||| m) ||| d) = 0) : y = 0 ∧ m = 0 ∧ d = 0 := by
  rw [Int32.or_eq_zero_iff, Int32.or_eq_zero_iff] at h
  exact ⟨h.1.1, h.1.2, h.2⟩
theorem pd_orN {y m d : Int32} (h : ¬ ((y ||| m) ||| d) = 0) : ¬ (y = 0 ∧ m = 0 ∧ d = 0) := by
  rintro ⟨rfl, rfl, rfl⟩
  exact h (by decide)
/-- which & 1 as an index -/
def pdK (x : Int32) : Nat := (x &&& 1).toNatClampNeg
theorem pdK_cases (x : Int32) : (x &&& 1 = 0 ∧ pdK x = 0) ∨ (x &&& 1 = 1 ∧ pdK x = 1) := by
  obtain ⟨j, hj, e⟩ := pk_andE x (m := 1) 1 (by decide)
  have hj : j = 0 ∨ j = 1 := by omega
  unfold pdK
  rcases hj with rfl | rfl
  · exact Or.inl ⟨e, by rw [e]; decide⟩
  · exact Or.inr ⟨e, by rw [e]; decide⟩
theorem pdK_lt (x : Int32) : pdK x < 2 := by rcases pdK_cases x with h | h <;> omega
theorem pdK_in (x : Int32) : vp_in (x &&& 1) 2 := pk_andIn x 1 (by decide) (by decide)
theorem pdK_and (x : Int32) : (x &&& 1) &&& 1 = x &&& 1 := by
  rcases pdK_cases x with h | h <;> rw [h.1] <;> decide
theorem pdK_K (x : Int32) : pdK (x &&& 1) = pdK x := by unfold pdK; rw [pdK_and]
/-- 1 - k, the other index -/
theorem pdK_oin (x : Int32) : vp_in (1 - (x &&& 1)) 2 := by
  rcases pdK_cases x with h | h <;> rw [h.1] <;> (unfold vp_in; decide)
theorem pdK_on (x : Int32) : (1 - (x &&& 1)).toNatClampNeg = 1 - pdK x := by
  rcases pdK_cases x with h | h <;> rw [h.1, h.2] <;> decide
theorem pdK_not (x : Int32) : (x ^^^ (-1)) &&& 1 = 1 - (x &&& 1) := by
  have h1 := pk_and x (m := 1) 1 (by decide)
  have h2 := pk_and (x ^^^ (-1)) (m := 1) 1 (by decide)
  have h3 : (x ^^^ (-1)).toBitVec.toNat % 2 ^ 1 = (x.toBitVec.toNat % 2 ^ 1) ^^^ 1 := by
    rw [Int32.toBitVec_xor, BitVec.toNat_xor, Nat.xor_mod_two_pow]
    rfl
  rw [h2, h1, h3]
  have h4 : x.toBitVec.toNat % 2 ^ 1 = 0 ∨ x.toBitVec.toNat % 2 ^ 1 = 1 := by omega
  rcases h4 with h | h <;> rw [h] <;> decide
/-! the desk's state: years, months, days of its two places -/
abbrev pdS : Type := (Nat → Int32) × (Nat → Int32) × (Nat → Int32)
def pdOk (v : pdS) (k : Nat) : Bool := pdRm (v.1 k) (v.2.1 k) (v.2.2 k)
def pf_set (x y m d : Int32) (v : pdS) : pdS := (upd v.1 (pdK x) (pf_small y), upd v.2.1 (pdK x) (pf_small m), upd v.2.2 (pdK x) (pf_small d))
def pf_adds (g x : Int32) (v : pdS) : Int32 × pdS :=
  if (pdOk v 0 && pdOk v 1) = true then (1, (upd v.1 (pdK x) (v.1 (pdK x) + g * v.1 (1 - pdK x)), upd v.2.1 (pdK x) (v.2.1 (pdK x) + g * v.2.1 (1 - pdK x)), upd v.2.2 (pdK x) (v.2.2 (pdK x) + g * v.2.2 (1 - pdK x)))) else (0, v)
def pf_takes (x t : Int32) (v : pdS) : Int32 × pdS :=
  if pdOk v (pdK x) = true then (1, (upd v.1 (pdK x) (v.1 (pdK x) * t), upd v.2.1 (pdK x) (v.2.1 (pdK x) * t), upd v.2.2 (pdK x) (v.2.2 (pdK x) * t))) else (0, v)
def pf_all (x : Int32) (v : pdS) : Int64 := 12 * (v.1 (pdK x)).toInt64 + (v.2.1 (pdK x)).toInt64
def pf_normal (x : Int32) (v : pdS) : Int32 × pdS :=
  if pdOk v (pdK x) = true then (1, (upd v.1 (pdK x) (pf_all x v / 12).toInt32, upd v.2.1 (pdK x) (pf_all x v - pf_all x v / 12 * 12).toInt32, v.2.2)) else (0, v)
def pf_days (x n : Int32) (v : pdS) : Int32 × pdS :=
  if pdOk v (pdK x) = true then (1, (v.1, v.2.1, upd v.2.2 (pdK x) (v.2.2 (pdK x) + pf_small n))) else (0, v)
def pf_months (x n : Int32) (v : pdS) : Int32 × pdS :=
  if pdOk v (pdK x) = true then (1, (v.1, upd v.2.1 (pdK x) (v.2.1 (pdK x) + pf_small n), v.2.2)) else (0, v)
def pf_neg (y m d : Int32) : Int32 := if y < 0 ∨ m < 0 ∨ d < 0 then 1 else 0
def pf_zero (y m d : Int32) : Int32 := if y = 0 ∧ m = 0 ∧ d = 0 then 1 else 0
def pf_below (x : Int32) (v : pdS) : Int32 := pf_neg (v.1 (pdK x)) (v.2.1 (pdK x)) (v.2.2 (pdK x))
def pf_nought (x : Int32) (v : pdS) : Int32 := pf_zero (v.1 (pdK x)) (v.2.1 (pdK x)) (v.2.2 (pdK x))
theorem pf_all_K (x : Int32) (v : pdS) : pf_all (x &&& 1) v = pf_all x v := by unfold pf_all; rw [pdK_K]
theorem pf_all_c (x : Int32) (v : pdS) : (v.1 (pdK x)).toInt64 * 12 + (v.2.1 (pdK x)).toInt64 = pf_all x v := by unfold pf_all; rw [Int64.mul_comm]
theorem pd_one (a : Int32) : (1 : Int32) * a = a := by rw [Int32.one_mul]
theorem pd_m1 (a b : Int32) : a + (-1) * b = a - b := by grind
end
section
/-! Jdk8Methods: none of its checks fails on what the desk hands it -/
set_option maxHeartbeats 4000000 in
set_option maxRecDepth 100000 in
theorem mX7_safeAdd (l : Launch) (a b : Int32) (h1 : pdSm a = true) (h2 : pdSm b = true) : Met l yX7_safeAdd (ws_ yX7_safeAdd cX7_safeAdd 3 (some .int)) ({ frames := 0, cells := 0, slots := 0, locals := 0 }) (va_Pc [.int a, .int b] (fun _ => True)) (k2_QcV (.int (a + b))) 0 0 (fun _ => False) := by
  refine Met.ofW (cc := cX7_safeAdd) (maxL := 3) (ret := (some .int)) (by decide) rfl ?_
  intro p e s m args below meth c s₁ B hml hv
  obtain ⟨rfl, -⟩ := hv
  have hx := B.exec
  have hb := B.bytes
  have hr := B.returns
  have hts := atoms_spec (ws := (ws_ yX7_safeAdd cX7_safeAdd 3 (some .int))) B.pre
  have hts : ∀ w ∈ lw_all, w.before _ s = true := fun w h => hts w (List.mem_cons_of_mem _ h)
  have hown : s.vm.findClass RX7 = some m.cls := findClass_of_methodNamed B.named
  have hlocks := B.notSynchronized
  have hl := lv_entry ([.int a, .int b]) (n := 3) (Nat.le_of_ble_eq_true rfl)
  rw [lg_entry_eq]
  generalize (lg_sl ([.int a, .int b]) ++ List.replicate (3 - (lg_sl ([.int a, .int b])).length) Slot.unset).toArray = ls at hl ⊢
  have hl : lv_has ls 3 [(0, .int a), (1, .int b)] := hl
  refine lv_iload_n hx hb dX7_safeAdd_0 rfl (lv_at hl 0 rfl) ?_
  refine lv_iload_n hx hb dX7_safeAdd_1 rfl (lv_at hl 1 rfl) ?_
  refine lv_iadd hx hb dX7_safeAdd_2 ?_
  refine lv_istore_n (lv' := [(2, .int (a + b)), (0, .int a), (1, .int b)]) hx hb dX7_safeAdd_3 rfl hl (by decide) rfl (fun ls hl => ?_)
  refine lv_iload_n hx hb dX7_safeAdd_4 rfl (lv_at hl 1 rfl) ?_
  refine lv_iload_n hx hb dX7_safeAdd_5 rfl (lv_at hl 0 rfl) ?_
  refine lv_ixor hx hb dX7_safeAdd_6 ?_
  refine lv_if_ge (tgt := 26) hx hb dX7_safeAdd_7 (by decide) (fun c_7 => ?_) (fun c_7 => ?_)
  · refine lv_iload_n hx hb dX7_safeAdd_26 rfl (lv_at hl 0 rfl) ?_
    exact W.iret (v := (a + b)) hx hb hr (fun t ht hW => ⟨rfl, ht⟩) (fun q h => by cases h) dX7_safeAdd_27
  · refine lv_iload_n hx hb dX7_safeAdd_10 rfl (lv_at hl 1 rfl) ?_
    refine lv_iload_n hx hb dX7_safeAdd_11 rfl (lv_at hl 2 rfl) ?_
    refine lv_ixor hx hb dX7_safeAdd_12 ?_
    refine lv_if_lt (tgt := 26) hx hb dX7_safeAdd_13 (by decide) (fun c_13 => ?_) (fun c_13 => ?_)
    · refine lv_iload_n hx hb dX7_safeAdd_26 rfl (lv_at hl 0 rfl) ?_
      exact W.iret (v := (a + b)) hx hb hr (fun t ht hW => ⟨rfl, ht⟩) (fun q h => by cases h) dX7_safeAdd_27
    · exact (pd_add_ok h1 h2 c_7 c_13).elim
set_option maxHeartbeats 4000000 in
set_option maxRecDepth 100000 in
theorem mX7_safeSubtract (l : Launch) (a b : Int32) (h1 : pdSm a = true) (h2 : pdSm b = true) : Met l yX7_safeSubtract (ws_ yX7_safeSubtract cX7_safeSubtract 3 (some .int)) ({ frames := 0, cells := 0, slots := 0, locals := 0 }) (va_Pc [.int a, .int b] (fun _ => True)) (k2_QcV (.int (a - b))) 0 0 (fun _ => False) := by
  refine Met.ofW (cc := cX7_safeSubtract) (maxL := 3) (ret := (some .int)) (by decide) rfl ?_
  intro p e s m args below meth c s₁ B hml hv
  obtain ⟨rfl, -⟩ := hv
  have hx := B.exec
  have hb := B.bytes
  have hr := B.returns
  have hts := atoms_spec (ws := (ws_ yX7_safeSubtract cX7_safeSubtract 3 (some .int))) B.pre
  have hts : ∀ w ∈ lw_all, w.before _ s = true := fun w h => hts w (List.mem_cons_of_mem _ h)
  have hown : s.vm.findClass RX7 = some m.cls := findClass_of_methodNamed B.named
  have hlocks := B.notSynchronized
  have hl := lv_entry ([.int a, .int b]) (n := 3) (Nat.le_of_ble_eq_true rfl)
  rw [lg_entry_eq]
  generalize (lg_sl ([.int a, .int b]) ++ List.replicate (3 - (lg_sl ([.int a, .int b])).length) Slot.unset).toArray = ls at hl ⊢
  have hl : lv_has ls 3 [(0, .int a), (1, .int b)] := hl
  refine lv_iload_n hx hb dX7_safeSubtract_0 rfl (lv_at hl 0 rfl) ?_
  refine lv_iload_n hx hb dX7_safeSubtract_1 rfl (lv_at hl 1 rfl) ?_
  refine lv_isub hx hb dX7_safeSubtract_2 ?_
  refine lv_istore_n (lv' := [(2, .int (a - b)), (0, .int a), (1, .int b)]) hx hb dX7_safeSubtract_3 rfl hl (by decide) rfl (fun ls hl => ?_)
  refine lv_iload_n hx hb dX7_safeSubtract_4 rfl (lv_at hl 1 rfl) ?_
  refine lv_iload_n hx hb dX7_safeSubtract_5 rfl (lv_at hl 0 rfl) ?_
  refine lv_ixor hx hb dX7_safeSubtract_6 ?_
  refine lv_if_ge (tgt := 26) hx hb dX7_safeSubtract_7 (by decide) (fun c_7 => ?_) (fun c_7 => ?_)
  · refine lv_iload_n hx hb dX7_safeSubtract_26 rfl (lv_at hl 0 rfl) ?_
    exact W.iret (v := (a - b)) hx hb hr (fun t ht hW => ⟨rfl, ht⟩) (fun q h => by cases h) dX7_safeSubtract_27
  · refine lv_iload_n hx hb dX7_safeSubtract_10 rfl (lv_at hl 1 rfl) ?_
    refine lv_iload_n hx hb dX7_safeSubtract_11 rfl (lv_at hl 2 rfl) ?_
    refine lv_ixor hx hb dX7_safeSubtract_12 ?_
    refine lv_if_ge (tgt := 26) hx hb dX7_safeSubtract_13 (by decide) (fun c_13 => ?_) (fun c_13 => ?_)
    · refine lv_iload_n hx hb dX7_safeSubtract_26 rfl (lv_at hl 0 rfl) ?_
      exact W.iret (v := (a - b)) hx hb hr (fun t ht hW => ⟨rfl, ht⟩) (fun q h => by cases h) dX7_safeSubtract_27
    · exact (pd_sub_ok h1 h2 c_7 c_13).elim
set_option maxHeartbeats 4000000 in
set_option maxRecDepth 100000 in
theorem mX7_safeAdd_2 (l : Launch) (a b : Int32) : Met l yX7_safeAdd_2 (ws_ yX7_safeAdd_2 cX7_safeAdd_2 6 (some .long)) ({ frames := 0, cells := 0, slots := 0, locals := 0 }) (va_Pc [.long a.toInt64, .long b.toInt64] (fun _ => True)) (k2_QcV (.long (a.toInt64 + b.toInt64))) 0 0 (fun _ => False) := by
  refine Met.ofW (cc := cX7_safeAdd_2) (maxL := 6) (ret := (some .long)) (by decide) rfl ?_
  intro p e s m args below meth c s₁ B hml hv
  obtain ⟨rfl, -⟩ := hv
  have hx := B.exec
  have hb := B.bytes
  have hr := B.returns
  have hts := atoms_spec (ws := (ws_ yX7_safeAdd_2 cX7_safeAdd_2 6 (some .long))) B.pre
  have hts : ∀ w ∈ lw_all, w.before _ s = true := fun w h => hts w (List.mem_cons_of_mem _ h)
  have hown : s.vm.findClass RX7 = some m.cls := findClass_of_methodNamed B.named
  have hlocks := B.notSynchronized
  have hl := lv_entry ([.long a.toInt64, .long b.toInt64]) (n := 6) (Nat.le_of_ble_eq_true rfl)
  rw [lg_entry_eq]
  generalize (lg_sl ([.long a.toInt64, .long b.toInt64]) ++ List.replicate (6 - (lg_sl ([.long a.toInt64, .long b.toInt64])).length) Slot.unset).toArray = ls at hl ⊢
  have hl : lv_has ls 6 [(0, .long a.toInt64), (2, .long b.toInt64)] := hl
  refine lv_lload_n hx hb dX7_safeAdd_2_0 rfl (lv_at hl 0 rfl) ?_
  refine lv_lload_n hx hb dX7_safeAdd_2_1 rfl (lv_at hl 1 rfl) ?_
  refine lv_ladd hx hb dX7_safeAdd_2_2 ?_
  refine lv_lstore (lv' := [(4, .long (a.toInt64 + b.toInt64)), (0, .long a.toInt64), (2, .long b.toInt64)]) hx hb dX7_safeAdd_2_3 hl (by decide) rfl (fun ls hl => ?_)
  refine lv_lload_n hx hb dX7_safeAdd_2_5 rfl (lv_at hl 1 rfl) ?_
  refine lv_lload hx hb dX7_safeAdd_2_6 (lv_at hl 0 rfl) ?_
  refine lv_lxor hx hb dX7_safeAdd_2_8 ?_
  refine lv_lconst (v := 0) hx hb dX7_safeAdd_2_9 (by decide) ?_
  refine W.lcmp hx hb dX7_safeAdd_2_10 ?_
  refine lv_if_ge (tgt := 32) hx hb dX7_safeAdd_2_11 (by decide) (fun c_11 => ?_) (fun c_11 => ?_)
  · refine lv_lload hx hb dX7_safeAdd_2_32 (lv_at hl 0 rfl) ?_
    exact W.lret (v := (a.toInt64 + b.toInt64)) hx hb hr (fun t ht hW => ⟨rfl, ht⟩) (fun q h => by cases h) dX7_safeAdd_2_34
  · refine lv_lload_n hx hb dX7_safeAdd_2_14 rfl (lv_at hl 1 rfl) ?_
    refine lv_lload_n hx hb dX7_safeAdd_2_15 rfl (lv_at hl 2 rfl) ?_
    refine lv_lxor hx hb dX7_safeAdd_2_16 ?_
    refine lv_lconst (v := 0) hx hb dX7_safeAdd_2_17 (by decide) ?_
    refine W.lcmp hx hb dX7_safeAdd_2_18 ?_
    refine lv_if_lt (tgt := 32) hx hb dX7_safeAdd_2_19 (by decide) (fun c_19 => ?_) (fun c_19 => ?_)
    · refine lv_lload hx hb dX7_safeAdd_2_32 (lv_at hl 0 rfl) ?_
      exact W.lret (v := (a.toInt64 + b.toInt64)) hx hb hr (fun t ht hW => ⟨rfl, ht⟩) (fun q h => by cases h) dX7_safeAdd_2_34
    · exact (pd_addl_ok c_11 c_19).elim
set_option maxHeartbeats 4000000 in
set_option maxRecDepth 100000 in
theorem mX7_safeMultiply (l : Launch) (a b : Int32) (h1 : pdFit (a.toInt64 * b.toInt64)) : Met l yX7_safeMultiply (ws_ yX7_safeMultiply cX7_safeMultiply 4 (some .int)) ({ frames := 0, cells := 0, slots := 0, locals := 0 }) (va_Pc [.int a, .int b] (fun _ => True)) (k2_QcV (.int (a * b))) 0 0 (fun _ => False) := by
  refine Met.ofW (cc := cX7_safeMultiply) (maxL := 4) (ret := (some .int)) (by decide) rfl ?_
  intro p e s m args below meth c s₁ B hml hv
  obtain ⟨rfl, -⟩ := hv
  have hx := B.exec
  have hb := B.bytes
  have hr := B.returns
  have hts := atoms_spec (ws := (ws_ yX7_safeMultiply cX7_safeMultiply 4 (some .int))) B.pre
  have hts : ∀ w ∈ lw_all, w.before _ s = true := fun w h => hts w (List.mem_cons_of_mem _ h)
  have hown : s.vm.findClass RX7 = some m.cls := findClass_of_methodNamed B.named
  have hlocks := B.notSynchronized
  have hl := lv_entry ([.int a, .int b]) (n := 4) (Nat.le_of_ble_eq_true rfl)
  rw [lg_entry_eq]
  generalize (lg_sl ([.int a, .int b]) ++ List.replicate (4 - (lg_sl ([.int a, .int b])).length) Slot.unset).toArray = ls at hl ⊢
  have hl : lv_has ls 4 [(0, .int a), (1, .int b)] := hl
  refine lv_iload_n hx hb dX7_safeMultiply_0 rfl (lv_at hl 0 rfl) ?_
  refine lv_i2l hx hb dX7_safeMultiply_1 rfl ?_
  refine lv_iload_n hx hb dX7_safeMultiply_2 rfl (lv_at hl 1 rfl) ?_
  refine lv_i2l hx hb dX7_safeMultiply_3 rfl ?_
  refine lv_lmul hx hb dX7_safeMultiply_4 ?_
  refine lv_lstore_n (lv' := [(2, .long (a.toInt64 * b.toInt64)), (0, .int a), (1, .int b)]) hx hb dX7_safeMultiply_5 rfl hl (by decide) rfl (fun ls hl => ?_)
  refine lv_lload_n hx hb dX7_safeMultiply_6 rfl (lv_at hl 0 rfl) ?_
  refine lv_ldc2 hx hb hown (hts _ q643) dX7_safeMultiply_7 ?_
  refine W.lcmp hx hb dX7_safeMultiply_10 ?_
  refine lv_if_lt (tgt := 22) hx hb dX7_safeMultiply_11 (by decide) (fun c_11 => ?_) (fun c_11 => ?_)
  · exact absurd ((lg_cmp_lt _ _).mp c_11) h1.1
  · refine lv_lload_n hx hb dX7_safeMultiply_14 rfl (lv_at hl 0 rfl) ?_
    refine lv_ldc2 hx hb hown (hts _ q642) dX7_safeMultiply_15 ?_
    refine W.lcmp hx hb dX7_safeMultiply_18 ?_
    refine lv_if_le (tgt := 32) hx hb dX7_safeMultiply_19 (by decide) (fun c_19 => ?_) (fun c_19 => ?_)
    · refine lv_lload_n hx hb dX7_safeMultiply_32 rfl (lv_at hl 0 rfl) ?_
      refine lv_l2i hx hb dX7_safeMultiply_33 rfl ?_
      exact W.iret (v := (a.toInt64 * b.toInt64).toInt32) hx hb hr (fun t ht hW => ⟨by rw [pd_mul_i], ht⟩) (fun q h => by cases h) dX7_safeMultiply_34
    · exact absurd ((lg_cmp_le _ _).mpr (Int64.not_lt.mp h1.2)) c_19
set_option maxHeartbeats 4000000 in
set_option maxRecDepth 100000 in
theorem mX7_safeToInt (l : Launch) (v : Int64) (h1 : pdFit v) : Met l yX7_safeToInt (ws_ yX7_safeToInt cX7_safeToInt 2 (some .int)) ({ frames := 0, cells := 0, slots := 0, locals := 0 }) (va_Pc [.long v] (fun _ => True)) (k2_QcV (.int v.toInt32)) 0 0 (fun _ => False) := by
  refine Met.ofW (cc := cX7_safeToInt) (maxL := 2) (ret := (some .int)) (by decide) rfl ?_
  intro p e s m args below meth c s₁ B hml hv
  obtain ⟨rfl, -⟩ := hv
  have hx := B.exec
  have hb := B.bytes
  have hr := B.returns
  have hts := atoms_spec (ws := (ws_ yX7_safeToInt cX7_safeToInt 2 (some .int))) B.pre
  have hts : ∀ w ∈ lw_all, w.before _ s = true := fun w h => hts w (List.mem_cons_of_mem _ h)
  have hown : s.vm.findClass RX7 = some m.cls := findClass_of_methodNamed B.named
  have hlocks := B.notSynchronized
  have hl := lv_entry ([.long v]) (n := 2) (Nat.le_of_ble_eq_true rfl)
  rw [lg_entry_eq]
  generalize (lg_sl ([.long v]) ++ List.replicate (2 - (lg_sl ([.long v])).length) Slot.unset).toArray = ls at hl ⊢
  have hl : lv_has ls 2 [(0, .long v)] := hl
  refine lv_lload_n hx hb dX7_safeToInt_0 rfl (lv_at hl 0 rfl) ?_
  refine lv_ldc2 hx hb hown (hts _ q642) dX7_safeToInt_1 ?_
  refine W.lcmp hx hb dX7_safeToInt_4 ?_
  refine lv_if_gt (tgt := 16) hx hb dX7_safeToInt_5 (by decide) (fun c_5 => ?_) (fun c_5 => ?_)
  · exact absurd ((lg_cmp_gt _ _).mp c_5) h1.2
  · refine lv_lload_n hx hb dX7_safeToInt_8 rfl (lv_at hl 0 rfl) ?_
    refine lv_ldc2 hx hb hown (hts _ q643) dX7_safeToInt_9 ?_
    refine W.lcmp hx hb dX7_safeToInt_12 ?_
    refine lv_if_ge (tgt := 26) hx hb dX7_safeToInt_13 (by decide) (fun c_13 => ?_) (fun c_13 => ?_)
    · refine lv_lload_n hx hb dX7_safeToInt_26 rfl (lv_at hl 0 rfl) ?_
      refine lv_l2i hx hb dX7_safeToInt_27 rfl ?_
      exact W.iret (v := v.toInt32) hx hb hr (fun t ht hW => ⟨rfl, ht⟩) (fun q h => by cases h) dX7_safeToInt_28
    · exact absurd ((lg_cmp_ge _ _).mpr (Int64.not_lt.mp h1.1)) c_13
end
section
/-! Period (and ChronoPeriod()): its values are never written once made -/
theorem pdRm_iff {ye mo da : Int32} : pdRm ye mo da = true ↔ pdSm ye = true ∧ pdSm mo = true ∧ pdSm da = true := by unfold pdRm; rw [Bool.and_eq_true, Bool.and_eq_true]
theorem pf_neg_1 {ye mo da : Int32} (h : ye < 0 ∨ mo < 0 ∨ da < 0) : pf_neg ye mo da = 1 := by unfold pf_neg; exact if_pos h
theorem pf_neg_0 {ye mo da : Int32} (h1 : ¬ ye < 0) (h2 : ¬ mo < 0) (h3 : ¬ da < 0) : pf_neg ye mo da = 0 := by unfold pf_neg; exact if_neg (fun h => by rcases h with h | h | h <;> contradiction)
theorem pf_zero_1 {ye mo da : Int32} (h : ye = 0 ∧ mo = 0 ∧ da = 0) : pf_zero ye mo da = 1 := by unfold pf_zero; exact if_pos h
theorem pf_zero_0 {ye mo da : Int32} (h : ¬ (ye = 0 ∧ mo = 0 ∧ da = 0)) : pf_zero ye mo da = 0 := by unfold pf_zero; exact if_neg h
theorem pdPer_mul0 {D : va_G} {z : Nat} {H : Heap} {p : Nat} {ye mo da : Int32} (h : pdPer D z H p ye mo da) (e : p = z) (n : Int32) : pdPer D z H p (ye * n) (mo * n) (da * n) := by
  obtain ⟨rfl, rfl, rfl⟩ := h.2.mp e
  rw [Int32.zero_mul]
  exact h
theorem pdPer_mul1 {D : va_G} {z : Nat} {H : Heap} {p : Nat} {ye mo da n : Int32} (h : pdPer D z H p ye mo da) (e : n = 1) : pdPer D z H p (ye * n) (mo * n) (da * n) := by
  rw [e, Int32.mul_one, Int32.mul_one, Int32.mul_one]
  exact h
theorem pd_l0 {k : Int32} (h : lg_cmp k.toInt64 0 = 0) : k = 0 := by
  have h1 := (lg_cmp_eq _ _).mp h
  have h2 := congrArg Int64.toInt32 h1
  rw [Int32.toInt32_toInt64] at h2
  exact h2
theorem pd_ly {v : Int64} {k : Int32} (h : lg_cmp v k.toInt64 = 0) : v.toInt32 = k := by
  rw [(lg_cmp_eq _ _).mp h, Int32.toInt32_toInt64]
theorem pd_D1 {A : Nat → Prop} {a : Nat} {e : va_E} (h : A a) : va_D A [(a, e)] := by
  refine ⟨fun i j p q hi hj _ => ?_, fun k q hk => ?_⟩
  · have h1 := (List.getElem?_eq_some_iff.mp hi).1
    have h2 := (List.getElem?_eq_some_iff.mp hj).1
    simp at h1 h2
    omega
  · match k, hk with
    | 0, hk => cases hk; exact h
    | k + 1, hk => simp at hk
/-- what Period(int, int, int) asks: the new cell -/
def pdIn (D : va_G) (sz h0 : Nat) (ye mo da : Int32) (U : State) : Prop := U.heap.size = sz ∧ va_K D pdCl [] U ∧ pdAt D U.heap h0 ye mo da
theorem pdIn_preS {D : va_G} {tys : List (ClassId × FieldType)} {s : State} {H : Heap} {h0 : Nat} {ye mo da : Int32} {As : List Value} (hK : va_K D pdCl tys s) (hO : pdAt D H h0 ye mo da) : PreS s H (va_Pc (.ref h0 :: As) (pdIn D H.size h0 ye mo da)) (.ref h0 :: As) :=
  ⟨fun a U g mk q => ⟨q.1, q.2.1, pdK_blind g mk a q.2.2.1, q.2.2.2⟩, fun U hU hW => ⟨rfl, by rw [hU], (va_K.moved hW.alike hK).sub [] rfl, by rw [hU]; exact hO⟩⟩
set_option maxHeartbeats 4000000 in
set_option maxRecDepth 100000 in
theorem mX1_init (l : Launch) (h0 : Nat) : Met l yX1_init (ws_ yX1_init cX1_init 1 none) ({ frames := 1, cells := 0, slots := 0, locals := 40 }) (va_Pc [.ref h0] (fun _ => True)) (va_Sv (fun _ => True)) 0 0 (fun _ => False) := by
  refine Met.ofW (cc := cX1_init) (maxL := 1) (ret := none) (by decide) rfl ?_
  intro p e s m args below meth c s₁ B hml hv
  obtain ⟨rfl, -⟩ := hv
  have hx := B.exec
  have hb := B.bytes
  have hr := B.returns
  have hts := atoms_spec (ws := (ws_ yX1_init cX1_init 1 none)) B.pre
  have hts : ∀ w ∈ lw_all, w.before _ s = true := fun w h => hts w (List.mem_cons_of_mem _ h)
  have hown : s.vm.findClass RX1 = some m.cls := findClass_of_methodNamed B.named
  have hlocks := B.notSynchronized
  have hl := lv_entry ([.ref h0]) (n := 1) (Nat.le_of_ble_eq_true rfl)
  rw [lg_entry_eq]
  generalize (lg_sl ([.ref h0]) ++ List.replicate (1 - (lg_sl ([.ref h0])).length) Slot.unset).toArray = ls at hl ⊢
  have hl : lv_has ls 1 [(0, .ref h0)] := hl
  refine lv_aload_n hx hb dX1_init_0 rfl (lv_at hl 0 rfl) ?_
  refine W.objInit hx hb hown (hts _ q70) (hts _ q50) (hts _ q51) rfl (by rw [hml]; exact hl.1) rfl dX1_init_1 (Nat.le_of_ble_eq_true rfl) (Nat.le_of_ble_eq_true rfl) ?_
  refine W.eq (g2 := F0 m 4 ls []) rfl ?_
  exact W.vret hx hb hr (fun t ht hW => ⟨rfl, trivial, ht⟩) (fun q h => by cases h) dX1_init_4
set_option maxHeartbeats 4000000 in
set_option maxRecDepth 100000 in
/-- Period(a, b, k): the three fields -/
theorem mX2_init (l : Launch) (D : va_G) (h0 sz : Nat) (ye mo da a b k : Int32) : Met l yX2_init (ws_ yX2_init cX2_init 4 none) ({ frames := 2, cells := 0, slots := 0, locals := 80 }) (va_Pc [.ref h0, .int a, .int b, .int k] (pdIn D sz h0 ye mo da)) (pdG none (fun H => pdAt D H h0 a b k) (fun q => q = h0 ∨ sz ≤ q)) 0 0 (fun q => q = h0 ∨ sz ≤ q) := by
  refine Met.ofW (cc := cX2_init) (maxL := 4) (ret := none) (by decide) rfl ?_
  intro p e s m args below meth c s₁ B hml hv
  obtain ⟨rfl, hsz, hK, hP⟩ := hv
  have hx := B.exec
  have hb := B.bytes
  have hr := B.returns
  have hts := atoms_spec (ws := (ws_ yX2_init cX2_init 4 none)) B.pre
  have hts : ∀ w ∈ lw_all, w.before _ s = true := fun w h => hts w (List.mem_cons_of_mem _ h)
  have hown : s.vm.findClass RX2 = some m.cls := findClass_of_methodNamed B.named
  have hlocks := B.notSynchronized
  have hin : meth.name = "<init>" := (name_of_methodNamed B.named B.method).1
  generalize hAe : (fun q : Nat => q = h0 ∨ sz ≤ q) = A
  have hAh : A h0 := by rw [← hAe]; exact Or.inl rfl
  have hS : va_S A s.heap s.heap [] := va_S.rf
  have hP : va_P D pdCl [(h0, pdE ye mo da)] s.heap := hP
  have hD : va_D A [(h0, pdE ye mo da)] := pd_D1 hAh
  have hl := lv_entry ([.ref h0, .int a, .int b, .int k]) (n := 4) (Nat.le_of_ble_eq_true rfl)
  rw [lg_entry_eq]
  generalize (lg_sl ([.ref h0, .int a, .int b, .int k]) ++ List.replicate (4 - (lg_sl ([.ref h0, .int a, .int b, .int k])).length) Slot.unset).toArray = ls at hl ⊢
  have hl : lv_has ls 4 [(0, .ref h0), (1, .int a), (2, .int b), (3, .int k)] := hl
  refine lv_aload_n hx hb dX2_init_0 rfl (lv_at hl 0 rfl) ?_
  refine va_csv (W.runI (As := []) (rest := []) ⟨hx, hb, hml, hown, hts⟩ (mX1_init l h0) (cwI 0 hts (lw_meth q69) rfl rfl rfl (hts _ q8) (hts _ q67) (hts _ q68) rfl (by decide +kernel) ⟨Nat.le_of_ble_eq_true rfl, Nat.le_of_ble_eq_true rfl⟩) (pdT_preS) rfl rfl hl.1 rfl (lv_room (Nat.le_of_ble_eq_true rfl)) dX2_init_1 ⟨Nat.zero_le _, Nat.zero_le _⟩) (fun _ => ?_)
  refine W.eq (g2 := F0 m 4 ls []) rfl ?_
  refine lv_aload_n hx hb dX2_init_4 rfl (lv_at hl 0 rfl) ?_
  refine lv_iload_n hx hb dX2_init_5 rfl (lv_at hl 1 rfl) ?_
  refine va_putF (D := D) (ci := 1) (v := .int a) (ty := .int) (C := RX2) (T := TX2) (N := 3) hx hb hts in_X2 tyX2 tyX2_ok nmX2 hown hK hP hD hS 0 rfl rfl 0 (by decide) (hts _ q71) (fun _ h9 => h9) rfl hin rfl (by decide +kernel) rfl rfl (Nat.le_of_ble_eq_true rfl) dX2_init_6 (fun H locs hP hD hS => ?_)
  have hP : va_P D pdCl [(h0, pdE a mo da)] H := hP
  have hD : va_D A [(h0, pdE a mo da)] := hD
  refine lv_aload_n hx hb dX2_init_9 rfl (lv_at hl 0 rfl) ?_
  refine lv_iload_n hx hb dX2_init_10 rfl (lv_at hl 2 rfl) ?_
  refine va_putF (D := D) (ci := 1) (v := .int b) (ty := .int) (C := RX2) (T := TX2) (N := 3) hx hb hts in_X2 tyX2 tyX2_ok nmX2 hown hK hP hD hS 0 rfl rfl 1 (by decide) (hts _ q72) (fun _ h9 => h9) rfl hin rfl (by decide +kernel) rfl rfl (Nat.le_of_ble_eq_true rfl) dX2_init_11 (fun H locs hP hD hS => ?_)
  have hP : va_P D pdCl [(h0, pdE a b da)] H := hP
  have hD : va_D A [(h0, pdE a b da)] := hD
  refine lv_aload_n hx hb dX2_init_14 rfl (lv_at hl 0 rfl) ?_
  refine lv_iload_n hx hb dX2_init_15 rfl (lv_at hl 3 rfl) ?_
  refine va_putF (D := D) (ci := 1) (v := .int k) (ty := .int) (C := RX2) (T := TX2) (N := 3) hx hb hts in_X2 tyX2 tyX2_ok nmX2 hown hK hP hD hS 0 rfl rfl 2 (by decide) (hts _ q73) (fun _ h9 => h9) rfl hin rfl (by decide +kernel) rfl rfl (Nat.le_of_ble_eq_true rfl) dX2_init_16 (fun H locs hP hD hS => ?_)
  have hP : va_P D pdCl [(h0, pdE a b k)] H := hP
  have hD : va_D A [(h0, pdE a b k)] := hD
  exact W.vret hx hb hr (fun t ht hW => ⟨rfl, by rw [ht]; exact hP, hS.F ht⟩) hS.2.2 dX2_init_19
set_option maxHeartbeats 4000000 in
set_option maxRecDepth 100000 in
theorem mX2_getYears (l : Launch) (D : va_G) (h0 : Nat) (ye mo da : Int32) : Met l yX2_getYears (ws_ yX2_getYears cX2_getYears 1 (some .int)) ({ frames := 0, cells := 0, slots := 0, locals := 0 }) (va_Pc [.ref h0] (pdRd D h0 ye mo da)) (k2_QcV (.int ye)) 0 0 (fun _ => False) := by
  refine Met.ofW (cc := cX2_getYears) (maxL := 1) (ret := (some .int)) (by decide) rfl ?_
  intro p e s m args below meth c s₁ B hml hv
  obtain ⟨rfl, hK, hO⟩ := hv
  have hx := B.exec
  have hb := B.bytes
  have hr := B.returns
  have hts := atoms_spec (ws := (ws_ yX2_getYears cX2_getYears 1 (some .int))) B.pre
  have hts : ∀ w ∈ lw_all, w.before _ s = true := fun w h => hts w (List.mem_cons_of_mem _ h)
  have hown : s.vm.findClass RX2 = some m.cls := findClass_of_methodNamed B.named
  have hlocks := B.notSynchronized
  have hl := lv_entry ([.ref h0]) (n := 1) (Nat.le_of_ble_eq_true rfl)
  rw [lg_entry_eq]
  generalize (lg_sl ([.ref h0]) ++ List.replicate (1 - (lg_sl ([.ref h0])).length) Slot.unset).toArray = ls at hl ⊢
  have hl : lv_has ls 1 [(0, .ref h0)] := hl
  refine lv_aload_n hx hb dX2_getYears_0 rfl (lv_at hl 0 rfl) ?_
  refine va_get (D := D) (ci := 1) (v := .int ye) (C := RX2) (T := TX2) (N := 3) hx hb hts in_X2 hown hK hO 0 rfl rfl 0 (by decide) (hts _ q71) (fun _ h9 => h9) rfl dX2_getYears_1 ?_
  exact W.iret (v := ye) hx hb hr (fun t ht hW => ⟨rfl, ht⟩) (fun q h => by cases h) dX2_getYears_4
set_option maxHeartbeats 4000000 in
set_option maxRecDepth 100000 in
theorem mX2_getMonths (l : Launch) (D : va_G) (h0 : Nat) (ye mo da : Int32) : Met l yX2_getMonths (ws_ yX2_getMonths cX2_getMonths 1 (some .int)) ({ frames := 0, cells := 0, slots := 0, locals := 0 }) (va_Pc [.ref h0] (pdRd D h0 ye mo da)) (k2_QcV (.int mo)) 0 0 (fun _ => False) := by
  refine Met.ofW (cc := cX2_getMonths) (maxL := 1) (ret := (some .int)) (by decide) rfl ?_
  intro p e s m args below meth c s₁ B hml hv
  obtain ⟨rfl, hK, hO⟩ := hv
  have hx := B.exec
  have hb := B.bytes
  have hr := B.returns
  have hts := atoms_spec (ws := (ws_ yX2_getMonths cX2_getMonths 1 (some .int))) B.pre
  have hts : ∀ w ∈ lw_all, w.before _ s = true := fun w h => hts w (List.mem_cons_of_mem _ h)
  have hown : s.vm.findClass RX2 = some m.cls := findClass_of_methodNamed B.named
  have hlocks := B.notSynchronized
  have hl := lv_entry ([.ref h0]) (n := 1) (Nat.le_of_ble_eq_true rfl)
  rw [lg_entry_eq]
  generalize (lg_sl ([.ref h0]) ++ List.replicate (1 - (lg_sl ([.ref h0])).length) Slot.unset).toArray = ls at hl ⊢
  have hl : lv_has ls 1 [(0, .ref h0)] := hl
  refine lv_aload_n hx hb dX2_getMonths_0 rfl (lv_at hl 0 rfl) ?_
  refine va_get (D := D) (ci := 1) (v := .int mo) (C := RX2) (T := TX2) (N := 3) hx hb hts in_X2 hown hK hO 0 rfl rfl 1 (by decide) (hts _ q72) (fun _ h9 => h9) rfl dX2_getMonths_1 ?_
  exact W.iret (v := mo) hx hb hr (fun t ht hW => ⟨rfl, ht⟩) (fun q h => by cases h) dX2_getMonths_4
set_option maxHeartbeats 4000000 in
set_option maxRecDepth 100000 in
theorem mX2_getDays (l : Launch) (D : va_G) (h0 : Nat) (ye mo da : Int32) : Met l yX2_getDays (ws_ yX2_getDays cX2_getDays 1 (some .int)) ({ frames := 0, cells := 0, slots := 0, locals := 0 }) (va_Pc [.ref h0] (pdRd D h0 ye mo da)) (k2_QcV (.int da)) 0 0 (fun _ => False) := by
  refine Met.ofW (cc := cX2_getDays) (maxL := 1) (ret := (some .int)) (by decide) rfl ?_
  intro p e s m args below meth c s₁ B hml hv
  obtain ⟨rfl, hK, hO⟩ := hv
  have hx := B.exec
  have hb := B.bytes
  have hr := B.returns
  have hts := atoms_spec (ws := (ws_ yX2_getDays cX2_getDays 1 (some .int))) B.pre
  have hts : ∀ w ∈ lw_all, w.before _ s = true := fun w h => hts w (List.mem_cons_of_mem _ h)
  have hown : s.vm.findClass RX2 = some m.cls := findClass_of_methodNamed B.named
  have hlocks := B.notSynchronized
  have hl := lv_entry ([.ref h0]) (n := 1) (Nat.le_of_ble_eq_true rfl)
  rw [lg_entry_eq]
  generalize (lg_sl ([.ref h0]) ++ List.replicate (1 - (lg_sl ([.ref h0])).length) Slot.unset).toArray = ls at hl ⊢
  have hl : lv_has ls 1 [(0, .ref h0)] := hl
  refine lv_aload_n hx hb dX2_getDays_0 rfl (lv_at hl 0 rfl) ?_
  refine va_get (D := D) (ci := 1) (v := .int da) (C := RX2) (T := TX2) (N := 3) hx hb hts in_X2 hown hK hO 0 rfl rfl 2 (by decide) (hts _ q73) (fun _ h9 => h9) rfl dX2_getDays_1 ?_
  exact W.iret (v := da) hx hb hr (fun t ht hW => ⟨rfl, ht⟩) (fun q h => by cases h) dX2_getDays_4
set_option maxHeartbeats 4000000 in
set_option maxRecDepth 100000 in
theorem mX2_toTotalMonths (l : Launch) (D : va_G) (h0 : Nat) (ye mo da : Int32) : Met l yX2_toTotalMonths (ws_ yX2_toTotalMonths cX2_toTotalMonths 1 (some .long)) ({ frames := 0, cells := 0, slots := 0, locals := 0 }) (va_Pc [.ref h0] (pdRd D h0 ye mo da)) (k2_QcV (.long (ye.toInt64 * 12 + mo.toInt64))) 0 0 (fun _ => False) := by
  refine Met.ofW (cc := cX2_toTotalMonths) (maxL := 1) (ret := (some .long)) (by decide) rfl ?_
  intro p e s m args below meth c s₁ B hml hv
  obtain ⟨rfl, hK, hO⟩ := hv
  have hx := B.exec
  have hb := B.bytes
  have hr := B.returns
  have hts := atoms_spec (ws := (ws_ yX2_toTotalMonths cX2_toTotalMonths 1 (some .long))) B.pre
  have hts : ∀ w ∈ lw_all, w.before _ s = true := fun w h => hts w (List.mem_cons_of_mem _ h)
  have hown : s.vm.findClass RX2 = some m.cls := findClass_of_methodNamed B.named
  have hlocks := B.notSynchronized
  have hl := lv_entry ([.ref h0]) (n := 1) (Nat.le_of_ble_eq_true rfl)
  rw [lg_entry_eq]
  generalize (lg_sl ([.ref h0]) ++ List.replicate (1 - (lg_sl ([.ref h0])).length) Slot.unset).toArray = ls at hl ⊢
  have hl : lv_has ls 1 [(0, .ref h0)] := hl
  refine lv_aload_n hx hb dX2_toTotalMonths_0 rfl (lv_at hl 0 rfl) ?_
  refine va_get (D := D) (ci := 1) (v := .int ye) (C := RX2) (T := TX2) (N := 3) hx hb hts in_X2 hown hK hO 0 rfl rfl 0 (by decide) (hts _ q71) (fun _ h9 => h9) rfl dX2_toTotalMonths_1 ?_
  refine lv_i2l hx hb dX2_toTotalMonths_4 rfl ?_
  refine lv_ldc2 hx hb hown (hts _ q705) dX2_toTotalMonths_5 ?_
  refine lv_lmul hx hb dX2_toTotalMonths_8 ?_
  refine lv_aload_n hx hb dX2_toTotalMonths_9 rfl (lv_at hl 0 rfl) ?_
  refine va_get (D := D) (ci := 1) (v := .int mo) (C := RX2) (T := TX2) (N := 3) hx hb hts in_X2 hown hK hO 0 rfl rfl 1 (by decide) (hts _ q72) (fun _ h9 => h9) rfl dX2_toTotalMonths_10 ?_
  refine lv_i2l hx hb dX2_toTotalMonths_13 rfl ?_
  refine lv_ladd hx hb dX2_toTotalMonths_14 ?_
  exact W.lret (v := ((ye.toInt64 * 12) + mo.toInt64)) hx hb hr (fun t ht hW => ⟨rfl, ht⟩) (fun q h => by cases h) dX2_toTotalMonths_15
set_option maxHeartbeats 4000000 in
set_option maxRecDepth 100000 in
theorem mX2_isNegative (l : Launch) (D : va_G) (h0 : Nat) (ye mo da : Int32) : Met l yX2_isNegative (ws_ yX2_isNegative cX2_isNegative 1 (some .boolean)) ({ frames := 0, cells := 0, slots := 0, locals := 0 }) (va_Pc [.ref h0] (pdRd D h0 ye mo da)) (k2_QcV (.int (pf_neg ye mo da))) 0 0 (fun _ => False) := by
  refine Met.ofW (cc := cX2_isNegative) (maxL := 1) (ret := (some .boolean)) (by decide) rfl ?_
  intro p e s m args below meth c s₁ B hml hv
  obtain ⟨rfl, hK, hO⟩ := hv
  have hx := B.exec
  have hb := B.bytes
  have hr := B.returns
  have hts := atoms_spec (ws := (ws_ yX2_isNegative cX2_isNegative 1 (some .boolean))) B.pre
  have hts : ∀ w ∈ lw_all, w.before _ s = true := fun w h => hts w (List.mem_cons_of_mem _ h)
  have hown : s.vm.findClass RX2 = some m.cls := findClass_of_methodNamed B.named
  have hlocks := B.notSynchronized
  have hl := lv_entry ([.ref h0]) (n := 1) (Nat.le_of_ble_eq_true rfl)
  rw [lg_entry_eq]
  generalize (lg_sl ([.ref h0]) ++ List.replicate (1 - (lg_sl ([.ref h0])).length) Slot.unset).toArray = ls at hl ⊢
  have hl : lv_has ls 1 [(0, .ref h0)] := hl
  refine lv_aload_n hx hb dX2_isNegative_0 rfl (lv_at hl 0 rfl) ?_
  refine va_get (D := D) (ci := 1) (v := .int ye) (C := RX2) (T := TX2) (N := 3) hx hb hts in_X2 hown hK hO 0 rfl rfl 0 (by decide) (hts _ q71) (fun _ h9 => h9) rfl dX2_isNegative_1 ?_
  refine lv_if_lt (tgt := 21) hx hb dX2_isNegative_4 (by decide) (fun c_4 => ?_) (fun c_4 => ?_)
  · refine lv_iconst (v := 1) hx hb dX2_isNegative_21 (by decide) ?_
    refine lv_goto (tgt := 26) hx hb dX2_isNegative_22 (by decide) ?_
    exact W.zret (v := 1) hx hb hr rfl (fun t ht hW => ⟨by rw [pf_neg_1 (Or.inl c_4)], ht⟩) (fun q h => by cases h) dX2_isNegative_26
  · refine lv_aload_n hx hb dX2_isNegative_7 rfl (lv_at hl 0 rfl) ?_
    refine va_get (D := D) (ci := 1) (v := .int mo) (C := RX2) (T := TX2) (N := 3) hx hb hts in_X2 hown hK hO 0 rfl rfl 1 (by decide) (hts _ q72) (fun _ h9 => h9) rfl dX2_isNegative_8 ?_
    refine lv_if_lt (tgt := 21) hx hb dX2_isNegative_11 (by decide) (fun c_11 => ?_) (fun c_11 => ?_)
    · refine lv_iconst (v := 1) hx hb dX2_isNegative_21 (by decide) ?_
      refine lv_goto (tgt := 26) hx hb dX2_isNegative_22 (by decide) ?_
      exact W.zret (v := 1) hx hb hr rfl (fun t ht hW => ⟨by rw [pf_neg_1 (Or.inr (Or.inl c_11))], ht⟩) (fun q h => by cases h) dX2_isNegative_26
    · refine lv_aload_n hx hb dX2_isNegative_14 rfl (lv_at hl 0 rfl) ?_
      refine va_get (D := D) (ci := 1) (v := .int da) (C := RX2) (T := TX2) (N := 3) hx hb hts in_X2 hown hK hO 0 rfl rfl 2 (by decide) (hts _ q73) (fun _ h9 => h9) rfl dX2_isNegative_15 ?_
      refine lv_if_ge (tgt := 25) hx hb dX2_isNegative_18 (by decide) (fun c_18 => ?_) (fun c_18 => ?_)
      · refine lv_iconst (v := 0) hx hb dX2_isNegative_25 (by decide) ?_
        exact W.zret (v := 0) hx hb hr rfl (fun t ht hW => ⟨by rw [pf_neg_0 c_4 c_11 (fun h => (pd_nge da).mpr h c_18)], ht⟩) (fun q h => by cases h) dX2_isNegative_26
      · refine lv_iconst (v := 1) hx hb dX2_isNegative_21 (by decide) ?_
        refine lv_goto (tgt := 26) hx hb dX2_isNegative_22 (by decide) ?_
        exact W.zret (v := 1) hx hb hr rfl (fun t ht hW => ⟨by rw [pf_neg_1 (Or.inr (Or.inr ((pd_nge da).mp c_18)))], ht⟩) (fun q h => by cases h) dX2_isNegative_26
set_option maxHeartbeats 4000000 in
set_option maxRecDepth 100000 in
theorem mX2_from (l : Launch) (D : va_G) (h0 : Nat) (ye mo da : Int32) : Met l yX2_from (ws_ yX2_from cX2_from 8 (some (.object "Period"))) ({ frames := 0, cells := 0, slots := 0, locals := 0 }) (va_Pc [.ref h0] (pdRd D h0 ye mo da)) (k2_QcV (.ref h0)) 0 0 (fun _ => False) := by
  refine Met.ofW (cc := cX2_from) (maxL := 8) (ret := (some (.object "Period"))) (by decide) rfl ?_
  intro p e s m args below meth c s₁ B hml hv
  obtain ⟨rfl, hK, hO⟩ := hv
  have hx := B.exec
  have hb := B.bytes
  have hr := B.returns
  have hts := atoms_spec (ws := (ws_ yX2_from cX2_from 8 (some (.object "Period")))) B.pre
  have hts : ∀ w ∈ lw_all, w.before _ s = true := fun w h => hts w (List.mem_cons_of_mem _ h)
  have hown : s.vm.findClass RX2 = some m.cls := findClass_of_methodNamed B.named
  have hlocks := B.notSynchronized
  have hl := lv_entry ([.ref h0]) (n := 8) (Nat.le_of_ble_eq_true rfl)
  rw [lg_entry_eq]
  generalize (lg_sl ([.ref h0]) ++ List.replicate (8 - (lg_sl ([.ref h0])).length) Slot.unset).toArray = ls at hl ⊢
  have hl : lv_has ls 8 [(0, .ref h0)] := hl
  refine lv_aload_n hx hb dX2_from_0 rfl (lv_at hl 0 rfl) ?_
  refine va_instS (cC := D.1 1) hx hb hown (hts _ q62) (hK.1 1 _ rfl).2 (va_recv hK hO (ci := 1) (q0 := 0) rfl rfl) dX2_from_1 ?_
  refine lv_if_eq (tgt := 12) hx hb dX2_from_4 (by decide) (fun c_4 => ?_) (fun c_4 => ?_)
  · exact absurd c_4 (by decide)
  · refine lv_aload_n hx hb dX2_from_7 rfl (lv_at hl 0 rfl) ?_
    refine va_castS (cC := D.1 1) hx hb hown (hts _ q62) (hK.1 1 _ rfl).2 (va_recv hK hO (ci := 1) (q0 := 0) rfl rfl) dX2_from_8 ?_
    exact W.aret (v := .ref h0) hx hb hr (Or.inl ⟨_, rfl⟩) (Or.inr ⟨_, rfl⟩) (fun t ht hW => ⟨rfl, ht⟩) (fun q h => by cases h) dX2_from_11
set_option maxHeartbeats 4000000 in
set_option maxRecDepth 100000 in
theorem mX2_isZero (l : Launch) (D : va_G) (z sz h0 : Nat) (ye mo da : Int32) : Met l yX2_isZero (ws_ yX2_isZero cX2_isZero 1 (some .boolean)) ({ frames := 0, cells := 0, slots := 0, locals := 0 }) (va_Pc [.ref h0] (pdMk D z sz h0 ye mo da)) (k2_QcV (.int (pf_zero ye mo da))) 0 0 (fun _ => False) := by
  refine Met.ofW (cc := cX2_isZero) (maxL := 1) (ret := (some .boolean)) (by decide) rfl ?_
  intro p e s m args below meth c s₁ B hml hv
  obtain ⟨rfl, hsz, hK, hO, hZ⟩ := hv
  have hx := B.exec
  have hb := B.bytes
  have hr := B.returns
  have hts := atoms_spec (ws := (ws_ yX2_isZero cX2_isZero 1 (some .boolean))) B.pre
  have hts : ∀ w ∈ lw_all, w.before _ s = true := fun w h => hts w (List.mem_cons_of_mem _ h)
  have hown : s.vm.findClass RX2 = some m.cls := findClass_of_methodNamed B.named
  have hlocks := B.notSynchronized
  subst hsz
  have hS : va_S (pdN s.heap.size) s.heap s.heap [] := va_S.rf
  have hA : ∀ q : Nat, s.heap.size ≤ q → pdN s.heap.size q := fun q h => h
  have hl := lv_entry ([.ref h0]) (n := 1) (Nat.le_of_ble_eq_true rfl)
  rw [lg_entry_eq]
  generalize (lg_sl ([.ref h0]) ++ List.replicate (1 - (lg_sl ([.ref h0])).length) Slot.unset).toArray = ls at hl ⊢
  have hl : lv_has ls 1 [(0, .ref h0)] := hl
  refine lv_aload_n hx hb dX2_isZero_0 rfl (lv_at hl 0 rfl) ?_
  refine va_gets hx hb hZ.1 hS hown (hts _ q60) (fun _ h9 => h9) dX2_isZero_1 ?_
  refine lv_acmp_ne (rx := some h0) (ry := some z) (tgt := 11) hx hb dX2_isZero_4 (by decide) (fun c_4 => ?_) (fun c_4 => ?_)
  · refine lv_iconst (v := 0) hx hb dX2_isZero_11 (by decide) ?_
    exact W.zret (v := 0) hx hb hr rfl (fun t ht hW => ⟨by rw [pf_zero_0 (fun h => c_4 (congrArg some (hO.2.mpr h)))], ht⟩) (fun q h => by cases h) dX2_isZero_12
  · refine lv_iconst (v := 1) hx hb dX2_isZero_7 (by decide) ?_
    refine lv_goto (tgt := 12) hx hb dX2_isZero_8 (by decide) ?_
    exact W.zret (v := 1) hx hb hr rfl (fun t ht hW => ⟨by rw [pf_zero_1 (hO.2.mp (Option.some.inj c_4))], ht⟩) (fun q h => by cases h) dX2_isZero_12
set_option maxHeartbeats 4000000 in
set_option maxRecDepth 100000 in
theorem mX2_create (l : Launch) (D : va_G) (z sz : Nat) (ye mo da : Int32) : Met l yX2_create (ws_ yX2_create cX2_create 3 (some (.object "Period"))) ({ frames := 3, cells := 1, slots := 3, locals := 120 }) (va_Pc [.int ye, .int mo, .int da] (pdMs D z sz)) (pdGr (fun a H => pdPer D z H a ye mo da ∧ (a = z ∨ sz ≤ a)) (pdN sz)) 1 3 (pdN sz) := by
  refine Met.ofW (cc := cX2_create) (maxL := 3) (ret := (some (.object "Period"))) (by decide) rfl ?_
  intro p e s m args below meth c s₁ B hml hv
  obtain ⟨rfl, hsz, hK, hZ⟩ := hv
  have hx := B.exec
  have hb := B.bytes
  have hr := B.returns
  have hts := atoms_spec (ws := (ws_ yX2_create cX2_create 3 (some (.object "Period")))) B.pre
  have hts : ∀ w ∈ lw_all, w.before _ s = true := fun w h => hts w (List.mem_cons_of_mem _ h)
  have hown : s.vm.findClass RX2 = some m.cls := findClass_of_methodNamed B.named
  have hlocks := B.notSynchronized
  subst hsz
  have hS : va_S (pdN s.heap.size) s.heap s.heap [] := va_S.rf
  have hA : ∀ q : Nat, s.heap.size ≤ q → pdN s.heap.size q := fun q h => h
  have hl := lv_entry ([.int ye, .int mo, .int da]) (n := 3) (Nat.le_of_ble_eq_true rfl)
  rw [lg_entry_eq]
  generalize (lg_sl ([.int ye, .int mo, .int da]) ++ List.replicate (3 - (lg_sl ([.int ye, .int mo, .int da])).length) Slot.unset).toArray = ls at hl ⊢
  have hl : lv_has ls 3 [(0, .int ye), (1, .int mo), (2, .int da)] := hl
  refine lv_iload_n hx hb dX2_create_0 rfl (lv_at hl 0 rfl) ?_
  refine lv_iload_n hx hb dX2_create_1 rfl (lv_at hl 1 rfl) ?_
  refine lv_ior hx hb dX2_create_2 ?_
  refine lv_iload_n hx hb dX2_create_3 rfl (lv_at hl 2 rfl) ?_
  refine lv_ior hx hb dX2_create_4 ?_
  refine lv_if_ne (tgt := 12) hx hb dX2_create_5 (by decide) (fun c_5 => ?_) (fun c_5 => ?_)
  · have hP : va_P D pdCl [] s.heap := fun k q h => by simp at h
    have hD : va_D (pdN s.heap.size) [] := ⟨fun i j p q h => by simp at h, fun k q h => by simp at h⟩
    refine va_new (ci := 1) (fs := [.int 0, .int 0, .int 0]) (C := RX2) (T := TX2) (N := 3) hx hb hts in_X2 tyX2 tyX2_ok hown (hts _ q62) (hts _ q63) (hts _ q9) hK hP hD hS hA rfl (fun j hj => by rcases (show j = 0 ∨ j = 1 ∨ j = 2 by omega) with rfl | rfl | rfl <;> rfl) (Nat.le_of_ble_eq_true rfl) (Nat.le_of_ble_eq_true rfl) dX2_create_12 (fun q1 H hP hD hS => ?_)
    have hP : va_P D pdCl [(q1, pdE 0 0 0)] H := hP
    have hD : va_D (pdN s.heap.size) [(q1, pdE 0 0 0)] := hD
    have hq1 : s.heap.size ≤ q1 := hD.2 0 _ rfl
    have hqz : q1 ≠ z := fun h => Nat.lt_irrefl z (Nat.lt_of_lt_of_le (pdAt_lt hZ.2.1) (h ▸ hq1))
    refine lv_dup hx hb dX2_create_15 rfl ?_
    refine lv_iload_n hx hb dX2_create_16 rfl (lv_at hl 0 rfl) ?_
    refine lv_iload_n hx hb dX2_create_17 rfl (lv_at hl 1 rfl) ?_
    refine lv_iload_n hx hb dX2_create_18 rfl (lv_at hl 2 rfl) ?_
    refine pd_callG (W.runI (As := [.int ye, .int mo, .int da]) (rest := [.ref q1]) ⟨hx, hb, hml, hown, hts⟩ (mX2_init l D q1 H.size 0 0 0 ye mo da) (cwI 3 hts (lw_meth q66) rfl rfl rfl (hts _ q9) (hts _ q64) (hts _ q65) rfl (by decide +kernel) ⟨Nat.le_of_ble_eq_true rfl, Nat.le_of_ble_eq_true rfl⟩) (pdIn_preS hK hP) rfl rfl hl.1 rfl (lv_room (Nat.le_of_ble_eq_true rfl)) dX2_create_19 ⟨Nat.le_of_ble_eq_true rfl, Nat.le_of_ble_eq_true rfl⟩) hS (fun q h => by
      rcases h with h | h
      · rw [h]; exact hq1
      · exact Nat.le_trans hS.1 h) (fun H locs hB hz1 hk1 hS => ?_)
    refine W.eq (g2 := F0 m 22 ls [.ref q1]) rfl ?_
    exact W.aret (v := .ref q1) hx hb hr (Or.inl ⟨_, rfl⟩) (Or.inr ⟨_, rfl⟩) (fun t ht hW => ⟨q1, rfl, by rw [ht]; exact ⟨⟨hB, ⟨fun h => absurd h hqz, fun h => absurd h (pd_orN c_5)⟩⟩, Or.inr hq1⟩, hS.F ht⟩) hS.2.2 dX2_create_22
  · refine va_gets hx hb hZ.1 hS hown (hts _ q60) (fun _ h9 => h9) dX2_create_8 ?_
    obtain ⟨rfl, rfl, rfl⟩ := pd_or0 c_5
    refine W.widen (k := 1) (n := 3) (Nat.zero_le _) (Nat.zero_le _) ?_
    exact W.aret (v := .ref z) hx hb hr (Or.inl ⟨_, rfl⟩) (Or.inr ⟨_, rfl⟩) (fun t ht hW => ⟨z, rfl, by rw [ht]; exact ⟨pdZ_per hZ, Or.inl rfl⟩, hS.F ht⟩) hS.2.2 dX2_create_11
set_option maxHeartbeats 4000000 in
set_option maxRecDepth 100000 in
theorem mX2_of (l : Launch) (D : va_G) (z sz : Nat) (ye mo da : Int32) : Met l yX2_of (ws_ yX2_of cX2_of 3 (some (.object "Period"))) ({ frames := 4, cells := 1, slots := 3, locals := 160 }) (va_Pc [.int ye, .int mo, .int da] (pdMs D z sz)) (pdGr (fun a H => pdPer D z H a ye mo da ∧ (a = z ∨ sz ≤ a)) (pdN sz)) 1 3 (pdN sz) := by
  refine Met.ofW (cc := cX2_of) (maxL := 3) (ret := (some (.object "Period"))) (by decide) rfl ?_
  intro p e s m args below meth c s₁ B hml hv
  obtain ⟨rfl, hsz, hK, hZ⟩ := hv
  have hx := B.exec
  have hb := B.bytes
  have hr := B.returns
  have hts := atoms_spec (ws := (ws_ yX2_of cX2_of 3 (some (.object "Period")))) B.pre
  have hts : ∀ w ∈ lw_all, w.before _ s = true := fun w h => hts w (List.mem_cons_of_mem _ h)
  have hown : s.vm.findClass RX2 = some m.cls := findClass_of_methodNamed B.named
  have hlocks := B.notSynchronized
  subst hsz
  have hS : va_S (pdN s.heap.size) s.heap s.heap [] := va_S.rf
  have hA : ∀ q : Nat, s.heap.size ≤ q → pdN s.heap.size q := fun q h => h
  have hl := lv_entry ([.int ye, .int mo, .int da]) (n := 3) (Nat.le_of_ble_eq_true rfl)
  rw [lg_entry_eq]
  generalize (lg_sl ([.int ye, .int mo, .int da]) ++ List.replicate (3 - (lg_sl ([.int ye, .int mo, .int da])).length) Slot.unset).toArray = ls at hl ⊢
  have hl : lv_has ls 3 [(0, .int ye), (1, .int mo), (2, .int da)] := hl
  refine lv_iload_n hx hb dX2_of_0 rfl (lv_at hl 0 rfl) ?_
  refine lv_iload_n hx hb dX2_of_1 rfl (lv_at hl 1 rfl) ?_
  refine lv_iload_n hx hb dX2_of_2 rfl (lv_at hl 2 rfl) ?_
  refine pd_callR (W.runS (As := [.int ye, .int mo, .int da]) (rest := []) ⟨hx, hb, hml, hown, hts⟩ (mX2_create l D z s.heap.size ye mo da) (va_cwS 3 hts (lw_S q57 q58 q9 q59) rfl rfl rfl (by decide +kernel) ⟨Nat.le_of_ble_eq_true rfl, Nat.le_of_ble_eq_true rfl⟩) (pdMs_preS hK hZ hS hA) rfl rfl hl.1 rfl (lv_room (Nat.le_of_ble_eq_true rfl)) dX2_of_3 ⟨Nat.le_of_ble_eq_true rfl, Nat.le_of_ble_eq_true rfl⟩) hS (fun q h => h) (fun ra H locs hB hz1 hk1 hS => ?_)
  exact W.aret (v := .ref ra) hx hb hr (Or.inl ⟨_, rfl⟩) (Or.inr ⟨_, rfl⟩) (fun t ht hW => ⟨ra, rfl, by rw [ht]; exact hB, hS.F ht⟩) hS.2.2 dX2_of_6
set_option maxHeartbeats 4000000 in
set_option maxRecDepth 100000 in
theorem mX2_plus (l : Launch) (D : va_G) (z sz h0 : Nat) (ye mo da : Int32) (r0 : Nat) (y2 m2 d2 : Int32) (h1 : pdRm ye mo da = true) (h2 : pdRm y2 m2 d2 = true) : Met l yX2_plus (ws_ yX2_plus cX2_plus 3 (some (.object "Period"))) ({ frames := 4, cells := 1, slots := 3, locals := 160 }) (va_Pc [.ref h0, .ref r0] (pdM2 D z sz h0 ye mo da r0 y2 m2 d2)) (pdGr (fun a H => pdPer D z H a (ye + y2) (mo + m2) (da + d2) ∧ (a = h0 ∨ a = z ∨ sz ≤ a)) (pdN sz)) 1 3 (pdN sz) := by
  refine Met.ofW (cc := cX2_plus) (maxL := 3) (ret := (some (.object "Period"))) (by decide) rfl ?_
  intro p e s m args below meth c s₁ B hml hv
  obtain ⟨rfl, hsz, hK, hO, hO2, hZ⟩ := hv
  have hx := B.exec
  have hb := B.bytes
  have hr := B.returns
  have hts := atoms_spec (ws := (ws_ yX2_plus cX2_plus 3 (some (.object "Period")))) B.pre
  have hts : ∀ w ∈ lw_all, w.before _ s = true := fun w h => hts w (List.mem_cons_of_mem _ h)
  have hown : s.vm.findClass RX2 = some m.cls := findClass_of_methodNamed B.named
  have hlocks := B.notSynchronized
  subst hsz
  have hS : va_S (pdN s.heap.size) s.heap s.heap [] := va_S.rf
  have hA : ∀ q : Nat, s.heap.size ≤ q → pdN s.heap.size q := fun q h => h
  obtain ⟨hy1, hm1, hd1⟩ := pdRm_iff.mp h1
  obtain ⟨hy2, hm2, hd2⟩ := pdRm_iff.mp h2
  have hl := lv_entry ([.ref h0, .ref r0]) (n := 3) (Nat.le_of_ble_eq_true rfl)
  rw [lg_entry_eq]
  generalize (lg_sl ([.ref h0, .ref r0]) ++ List.replicate (3 - (lg_sl ([.ref h0, .ref r0])).length) Slot.unset).toArray = ls at hl ⊢
  have hl : lv_has ls 3 [(0, .ref h0), (1, .ref r0)] := hl
  refine lv_aload_n hx hb dX2_plus_0 rfl (lv_at hl 1 rfl) ?_
  refine pd_callV (W.runS (As := [.ref r0]) (rest := []) ⟨hx, hb, hml, hown, hts⟩ (mX2_from l D r0 y2 m2 d2) (va_cwS 1 hts (lw_S q119 q120 q9 q121) rfl rfl rfl (by decide +kernel) ⟨Nat.le_of_ble_eq_true rfl, Nat.le_of_ble_eq_true rfl⟩) (pdRd_preS hK hO2) rfl rfl hl.1 rfl (lv_room (Nat.le_of_ble_eq_true rfl)) dX2_plus_1 ⟨Nat.zero_le _, Nat.zero_le _⟩) ?_
  refine W.eq (g2 := F0 m 4 ls [.ref r0]) rfl ?_
  refine lv_astore_n (lv' := [(2, .ref r0), (0, .ref h0), (1, .ref r0)]) hx hb dX2_plus_4 rfl hl (by decide) rfl (fun ls hl => ?_)
  refine lv_aload_n hx hb dX2_plus_5 rfl (lv_at hl 1 rfl) ?_
  refine va_get (D := D) (ci := 1) (v := .int ye) (C := RX2) (T := TX2) (N := 3) hx hb hts in_X2 hown hK hO 0 rfl rfl 0 (by decide) (hts _ q71) (fun _ h9 => h9) rfl dX2_plus_6 ?_
  refine lv_aload_n hx hb dX2_plus_9 rfl (lv_at hl 0 rfl) ?_
  refine va_get (D := D) (ci := 1) (v := .int y2) (C := RX2) (T := TX2) (N := 3) hx hb hts in_X2 hown hK hO2 0 rfl rfl 0 (by decide) (hts _ q71) (fun _ h9 => h9) rfl dX2_plus_10 ?_
  refine pd_callV (W.runS (As := [.int ye, .int y2]) (rest := []) ⟨hx, hb, hml, hown, hts⟩ (mX7_safeAdd l ye y2 hy1 hy2) (va_cwS 2 hts (lw_S q659 q660 q27 q661) rfl rfl rfl (by decide +kernel) ⟨Nat.le_of_ble_eq_true rfl, Nat.le_of_ble_eq_true rfl⟩) (pdT_preS) rfl rfl hl.1 rfl (lv_room (Nat.le_of_ble_eq_true rfl)) dX2_plus_13 ⟨Nat.zero_le _, Nat.zero_le _⟩) ?_
  refine W.eq (g2 := F0 m 16 ls [.int (ye + y2)]) rfl ?_
  refine lv_aload_n hx hb dX2_plus_16 rfl (lv_at hl 1 rfl) ?_
  refine va_get (D := D) (ci := 1) (v := .int mo) (C := RX2) (T := TX2) (N := 3) hx hb hts in_X2 hown hK hO 0 rfl rfl 1 (by decide) (hts _ q72) (fun _ h9 => h9) rfl dX2_plus_17 ?_
  refine lv_aload_n hx hb dX2_plus_20 rfl (lv_at hl 0 rfl) ?_
  refine va_get (D := D) (ci := 1) (v := .int m2) (C := RX2) (T := TX2) (N := 3) hx hb hts in_X2 hown hK hO2 0 rfl rfl 1 (by decide) (hts _ q72) (fun _ h9 => h9) rfl dX2_plus_21 ?_
  refine pd_callV (W.runS (As := [.int mo, .int m2]) (rest := [.int (ye + y2)]) ⟨hx, hb, hml, hown, hts⟩ (mX7_safeAdd l mo m2 hm1 hm2) (va_cwS 2 hts (lw_S q659 q660 q27 q661) rfl rfl rfl (by decide +kernel) ⟨Nat.le_of_ble_eq_true rfl, Nat.le_of_ble_eq_true rfl⟩) (pdT_preS) rfl rfl hl.1 rfl (lv_room (Nat.le_of_ble_eq_true rfl)) dX2_plus_24 ⟨Nat.zero_le _, Nat.zero_le _⟩) ?_
  refine W.eq (g2 := F0 m 27 ls [.int (mo + m2), .int (ye + y2)]) rfl ?_
  refine lv_aload_n hx hb dX2_plus_27 rfl (lv_at hl 1 rfl) ?_
  refine va_get (D := D) (ci := 1) (v := .int da) (C := RX2) (T := TX2) (N := 3) hx hb hts in_X2 hown hK hO 0 rfl rfl 2 (by decide) (hts _ q73) (fun _ h9 => h9) rfl dX2_plus_28 ?_
  refine lv_aload_n hx hb dX2_plus_31 rfl (lv_at hl 0 rfl) ?_
  refine va_get (D := D) (ci := 1) (v := .int d2) (C := RX2) (T := TX2) (N := 3) hx hb hts in_X2 hown hK hO2 0 rfl rfl 2 (by decide) (hts _ q73) (fun _ h9 => h9) rfl dX2_plus_32 ?_
  refine pd_callV (W.runS (As := [.int da, .int d2]) (rest := [.int (mo + m2), .int (ye + y2)]) ⟨hx, hb, hml, hown, hts⟩ (mX7_safeAdd l da d2 hd1 hd2) (va_cwS 2 hts (lw_S q659 q660 q27 q661) rfl rfl rfl (by decide +kernel) ⟨Nat.le_of_ble_eq_true rfl, Nat.le_of_ble_eq_true rfl⟩) (pdT_preS) rfl rfl hl.1 rfl (lv_room (Nat.le_of_ble_eq_true rfl)) dX2_plus_35 ⟨Nat.zero_le _, Nat.zero_le _⟩) ?_
  refine W.eq (g2 := F0 m 38 ls [.int (da + d2), .int (mo + m2), .int (ye + y2)]) rfl ?_
  refine pd_callR (W.runS (As := [.int (ye + y2), .int (mo + m2), .int (da + d2)]) (rest := []) ⟨hx, hb, hml, hown, hts⟩ (mX2_create l D z s.heap.size (ye + y2) (mo + m2) (da + d2)) (va_cwS 3 hts (lw_S q57 q58 q9 q59) rfl rfl rfl (by decide +kernel) ⟨Nat.le_of_ble_eq_true rfl, Nat.le_of_ble_eq_true rfl⟩) (pdMs_preS hK hZ hS hA) rfl rfl hl.1 rfl (lv_room (Nat.le_of_ble_eq_true rfl)) dX2_plus_38 ⟨Nat.le_of_ble_eq_true rfl, Nat.le_of_ble_eq_true rfl⟩) hS (fun q h => h) (fun ra H locs hB hz1 hk1 hS => ?_)
  exact W.aret (v := .ref ra) hx hb hr (Or.inl ⟨_, rfl⟩) (Or.inr ⟨_, rfl⟩) (fun t ht hW => ⟨ra, rfl, by rw [ht]; exact ⟨hB.1, Or.inr hB.2⟩, hS.F ht⟩) hS.2.2 dX2_plus_41
set_option maxHeartbeats 4000000 in
set_option maxRecDepth 100000 in
theorem mX2_minus (l : Launch) (D : va_G) (z sz h0 : Nat) (ye mo da : Int32) (r0 : Nat) (y2 m2 d2 : Int32) (h1 : pdRm ye mo da = true) (h2 : pdRm y2 m2 d2 = true) : Met l yX2_minus (ws_ yX2_minus cX2_minus 3 (some (.object "Period"))) ({ frames := 4, cells := 1, slots := 3, locals := 160 }) (va_Pc [.ref h0, .ref r0] (pdM2 D z sz h0 ye mo da r0 y2 m2 d2)) (pdGr (fun a H => pdPer D z H a (ye - y2) (mo - m2) (da - d2) ∧ (a = h0 ∨ a = z ∨ sz ≤ a)) (pdN sz)) 1 3 (pdN sz) := by
  refine Met.ofW (cc := cX2_minus) (maxL := 3) (ret := (some (.object "Period"))) (by decide) rfl ?_
  intro p e s m args below meth c s₁ B hml hv
  obtain ⟨rfl, hsz, hK, hO, hO2, hZ⟩ := hv
  have hx := B.exec
  have hb := B.bytes
  have hr := B.returns
  have hts := atoms_spec (ws := (ws_ yX2_minus cX2_minus 3 (some (.object "Period")))) B.pre
  have hts : ∀ w ∈ lw_all, w.before _ s = true := fun w h => hts w (List.mem_cons_of_mem _ h)
  have hown : s.vm.findClass RX2 = some m.cls := findClass_of_methodNamed B.named
  have hlocks := B.notSynchronized
  subst hsz
  have hS : va_S (pdN s.heap.size) s.heap s.heap [] := va_S.rf
  have hA : ∀ q : Nat, s.heap.size ≤ q → pdN s.heap.size q := fun q h => h
  obtain ⟨hy1, hm1, hd1⟩ := pdRm_iff.mp h1
  obtain ⟨hy2, hm2, hd2⟩ := pdRm_iff.mp h2
  have hl := lv_entry ([.ref h0, .ref r0]) (n := 3) (Nat.le_of_ble_eq_true rfl)
  rw [lg_entry_eq]
  generalize (lg_sl ([.ref h0, .ref r0]) ++ List.replicate (3 - (lg_sl ([.ref h0, .ref r0])).length) Slot.unset).toArray = ls at hl ⊢
  have hl : lv_has ls 3 [(0, .ref h0), (1, .ref r0)] := hl
  refine lv_aload_n hx hb dX2_minus_0 rfl (lv_at hl 1 rfl) ?_
  refine pd_callV (W.runS (As := [.ref r0]) (rest := []) ⟨hx, hb, hml, hown, hts⟩ (mX2_from l D r0 y2 m2 d2) (va_cwS 1 hts (lw_S q119 q120 q9 q121) rfl rfl rfl (by decide +kernel) ⟨Nat.le_of_ble_eq_true rfl, Nat.le_of_ble_eq_true rfl⟩) (pdRd_preS hK hO2) rfl rfl hl.1 rfl (lv_room (Nat.le_of_ble_eq_true rfl)) dX2_minus_1 ⟨Nat.zero_le _, Nat.zero_le _⟩) ?_
  refine W.eq (g2 := F0 m 4 ls [.ref r0]) rfl ?_
  refine lv_astore_n (lv' := [(2, .ref r0), (0, .ref h0), (1, .ref r0)]) hx hb dX2_minus_4 rfl hl (by decide) rfl (fun ls hl => ?_)
  refine lv_aload_n hx hb dX2_minus_5 rfl (lv_at hl 1 rfl) ?_
  refine va_get (D := D) (ci := 1) (v := .int ye) (C := RX2) (T := TX2) (N := 3) hx hb hts in_X2 hown hK hO 0 rfl rfl 0 (by decide) (hts _ q71) (fun _ h9 => h9) rfl dX2_minus_6 ?_
  refine lv_aload_n hx hb dX2_minus_9 rfl (lv_at hl 0 rfl) ?_
  refine va_get (D := D) (ci := 1) (v := .int y2) (C := RX2) (T := TX2) (N := 3) hx hb hts in_X2 hown hK hO2 0 rfl rfl 0 (by decide) (hts _ q71) (fun _ h9 => h9) rfl dX2_minus_10 ?_
  refine pd_callV (W.runS (As := [.int ye, .int y2]) (rest := []) ⟨hx, hb, hml, hown, hts⟩ (mX7_safeSubtract l ye y2 hy1 hy2) (va_cwS 2 hts (lw_S q670 q671 q27 q672) rfl rfl rfl (by decide +kernel) ⟨Nat.le_of_ble_eq_true rfl, Nat.le_of_ble_eq_true rfl⟩) (pdT_preS) rfl rfl hl.1 rfl (lv_room (Nat.le_of_ble_eq_true rfl)) dX2_minus_13 ⟨Nat.zero_le _, Nat.zero_le _⟩) ?_
  refine W.eq (g2 := F0 m 16 ls [.int (ye - y2)]) rfl ?_
  refine lv_aload_n hx hb dX2_minus_16 rfl (lv_at hl 1 rfl) ?_
  refine va_get (D := D) (ci := 1) (v := .int mo) (C := RX2) (T := TX2) (N := 3) hx hb hts in_X2 hown hK hO 0 rfl rfl 1 (by decide) (hts _ q72) (fun _ h9 => h9) rfl dX2_minus_17 ?_
  refine lv_aload_n hx hb dX2_minus_20 rfl (lv_at hl 0 rfl) ?_
  refine va_get (D := D) (ci := 1) (v := .int m2) (C := RX2) (T := TX2) (N := 3) hx hb hts in_X2 hown hK hO2 0 rfl rfl 1 (by decide) (hts _ q72) (fun _ h9 => h9) rfl dX2_minus_21 ?_
  refine pd_callV (W.runS (As := [.int mo, .int m2]) (rest := [.int (ye - y2)]) ⟨hx, hb, hml, hown, hts⟩ (mX7_safeSubtract l mo m2 hm1 hm2) (va_cwS 2 hts (lw_S q670 q671 q27 q672) rfl rfl rfl (by decide +kernel) ⟨Nat.le_of_ble_eq_true rfl, Nat.le_of_ble_eq_true rfl⟩) (pdT_preS) rfl rfl hl.1 rfl (lv_room (Nat.le_of_ble_eq_true rfl)) dX2_minus_24 ⟨Nat.zero_le _, Nat.zero_le _⟩) ?_
  refine W.eq (g2 := F0 m 27 ls [.int (mo - m2), .int (ye - y2)]) rfl ?_
  refine lv_aload_n hx hb dX2_minus_27 rfl (lv_at hl 1 rfl) ?_
  refine va_get (D := D) (ci := 1) (v := .int da) (C := RX2) (T := TX2) (N := 3) hx hb hts in_X2 hown hK hO 0 rfl rfl 2 (by decide) (hts _ q73) (fun _ h9 => h9) rfl dX2_minus_28 ?_
  refine lv_aload_n hx hb dX2_minus_31 rfl (lv_at hl 0 rfl) ?_
  refine va_get (D := D) (ci := 1) (v := .int d2) (C := RX2) (T := TX2) (N := 3) hx hb hts in_X2 hown hK hO2 0 rfl rfl 2 (by decide) (hts _ q73) (fun _ h9 => h9) rfl dX2_minus_32 ?_
  refine pd_callV (W.runS (As := [.int da, .int d2]) (rest := [.int (mo - m2), .int (ye - y2)]) ⟨hx, hb, hml, hown, hts⟩ (mX7_safeSubtract l da d2 hd1 hd2) (va_cwS 2 hts (lw_S q670 q671 q27 q672) rfl rfl rfl (by decide +kernel) ⟨Nat.le_of_ble_eq_true rfl, Nat.le_of_ble_eq_true rfl⟩) (pdT_preS) rfl rfl hl.1 rfl (lv_room (Nat.le_of_ble_eq_true rfl)) dX2_minus_35 ⟨Nat.zero_le _, Nat.zero_le _⟩) ?_
  refine W.eq (g2 := F0 m 38 ls [.int (da - d2), .int (mo - m2), .int (ye - y2)]) rfl ?_
  refine pd_callR (W.runS (As := [.int (ye - y2), .int (mo - m2), .int (da - d2)]) (rest := []) ⟨hx, hb, hml, hown, hts⟩ (mX2_create l D z s.heap.size (ye - y2) (mo - m2) (da - d2)) (va_cwS 3 hts (lw_S q57 q58 q9 q59) rfl rfl rfl (by decide +kernel) ⟨Nat.le_of_ble_eq_true rfl, Nat.le_of_ble_eq_true rfl⟩) (pdMs_preS hK hZ hS hA) rfl rfl hl.1 rfl (lv_room (Nat.le_of_ble_eq_true rfl)) dX2_minus_38 ⟨Nat.le_of_ble_eq_true rfl, Nat.le_of_ble_eq_true rfl⟩) hS (fun q h => h) (fun ra H locs hB hz1 hk1 hS => ?_)
  exact W.aret (v := .ref ra) hx hb hr (Or.inl ⟨_, rfl⟩) (Or.inr ⟨_, rfl⟩) (fun t ht hW => ⟨ra, rfl, by rw [ht]; exact ⟨hB.1, Or.inr hB.2⟩, hS.F ht⟩) hS.2.2 dX2_minus_41
set_option maxHeartbeats 4000000 in
set_option maxRecDepth 100000 in
theorem mX2_multipliedBy (l : Launch) (D : va_G) (z sz h0 : Nat) (ye mo da : Int32) (n : Int32) (hy : pdFit (ye.toInt64 * n.toInt64)) (hm : pdFit (mo.toInt64 * n.toInt64)) (hd : pdFit (da.toInt64 * n.toInt64)) : Met l yX2_multipliedBy (ws_ yX2_multipliedBy cX2_multipliedBy 2 (some (.object "Period"))) ({ frames := 4, cells := 1, slots := 3, locals := 160 }) (va_Pc [.ref h0, .int n] (pdMk D z sz h0 ye mo da)) (pdGr (fun a H => pdPer D z H a (ye * n) (mo * n) (da * n) ∧ (a = h0 ∨ a = z ∨ sz ≤ a)) (pdN sz)) 1 3 (pdN sz) := by
  refine Met.ofW (cc := cX2_multipliedBy) (maxL := 2) (ret := (some (.object "Period"))) (by decide) rfl ?_
  intro p e s m args below meth c s₁ B hml hv
  obtain ⟨rfl, hsz, hK, hO, hZ⟩ := hv
  have hx := B.exec
  have hb := B.bytes
  have hr := B.returns
  have hts := atoms_spec (ws := (ws_ yX2_multipliedBy cX2_multipliedBy 2 (some (.object "Period")))) B.pre
  have hts : ∀ w ∈ lw_all, w.before _ s = true := fun w h => hts w (List.mem_cons_of_mem _ h)
  have hown : s.vm.findClass RX2 = some m.cls := findClass_of_methodNamed B.named
  have hlocks := B.notSynchronized
  subst hsz
  have hS : va_S (pdN s.heap.size) s.heap s.heap [] := va_S.rf
  have hA : ∀ q : Nat, s.heap.size ≤ q → pdN s.heap.size q := fun q h => h
  have hl := lv_entry ([.ref h0, .int n]) (n := 2) (Nat.le_of_ble_eq_true rfl)
  rw [lg_entry_eq]
  generalize (lg_sl ([.ref h0, .int n]) ++ List.replicate (2 - (lg_sl ([.ref h0, .int n])).length) Slot.unset).toArray = ls at hl ⊢
  have hl : lv_has ls 2 [(0, .ref h0), (1, .int n)] := hl
  refine lv_aload_n hx hb dX2_multipliedBy_0 rfl (lv_at hl 0 rfl) ?_
  refine va_gets hx hb hZ.1 hS hown (hts _ q60) (fun _ h9 => h9) dX2_multipliedBy_1 ?_
  refine lv_acmp_eq (rx := some h0) (ry := some z) (tgt := 12) hx hb dX2_multipliedBy_4 (by decide) (fun c_4 => ?_) (fun c_4 => ?_)
  · refine lv_aload_n hx hb dX2_multipliedBy_12 rfl (lv_at hl 0 rfl) ?_
    refine W.widen (k := 1) (n := 3) (Nat.zero_le _) (Nat.zero_le _) ?_
    exact W.aret (v := .ref h0) hx hb hr (Or.inl ⟨_, rfl⟩) (Or.inr ⟨_, rfl⟩) (fun t ht hW => ⟨h0, rfl, by rw [ht]; exact ⟨pdPer_mul0 hO (Option.some.inj c_4) n, Or.inl rfl⟩, hS.F ht⟩) hS.2.2 dX2_multipliedBy_13
  · refine lv_iload_n hx hb dX2_multipliedBy_7 rfl (lv_at hl 1 rfl) ?_
    refine lv_iconst (v := 1) hx hb dX2_multipliedBy_8 (by decide) ?_
    refine lv_icmp_ne (tgt := 14) hx hb dX2_multipliedBy_9 (by decide) (fun c_9 => ?_) (fun c_9 => ?_)
    · refine lv_aload_n hx hb dX2_multipliedBy_14 rfl (lv_at hl 0 rfl) ?_
      refine va_get (D := D) (ci := 1) (v := .int ye) (C := RX2) (T := TX2) (N := 3) hx hb hts in_X2 hown hK hO.1 0 rfl rfl 0 (by decide) (hts _ q71) (fun _ h9 => h9) rfl dX2_multipliedBy_15 ?_
      refine lv_iload_n hx hb dX2_multipliedBy_18 rfl (lv_at hl 1 rfl) ?_
      refine pd_callV (W.runS (As := [.int ye, .int n]) (rest := []) ⟨hx, hb, hml, hown, hts⟩ (mX7_safeMultiply l ye n hy) (va_cwS 2 hts (lw_S q681 q682 q27 q683) rfl rfl rfl (by decide +kernel) ⟨Nat.le_of_ble_eq_true rfl, Nat.le_of_ble_eq_true rfl⟩) (pdT_preS) rfl rfl hl.1 rfl (lv_room (Nat.le_of_ble_eq_true rfl)) dX2_multipliedBy_19 ⟨Nat.zero_le _, Nat.zero_le _⟩) ?_
      refine W.eq (g2 := F0 m 22 ls [.int (ye * n)]) rfl ?_
      refine lv_aload_n hx hb dX2_multipliedBy_22 rfl (lv_at hl 0 rfl) ?_
      refine va_get (D := D) (ci := 1) (v := .int mo) (C := RX2) (T := TX2) (N := 3) hx hb hts in_X2 hown hK hO.1 0 rfl rfl 1 (by decide) (hts _ q72) (fun _ h9 => h9) rfl dX2_multipliedBy_23 ?_
      refine lv_iload_n hx hb dX2_multipliedBy_26 rfl (lv_at hl 1 rfl) ?_
      refine pd_callV (W.runS (As := [.int mo, .int n]) (rest := [.int (ye * n)]) ⟨hx, hb, hml, hown, hts⟩ (mX7_safeMultiply l mo n hm) (va_cwS 2 hts (lw_S q681 q682 q27 q683) rfl rfl rfl (by decide +kernel) ⟨Nat.le_of_ble_eq_true rfl, Nat.le_of_ble_eq_true rfl⟩) (pdT_preS) rfl rfl hl.1 rfl (lv_room (Nat.le_of_ble_eq_true rfl)) dX2_multipliedBy_27 ⟨Nat.zero_le _, Nat.zero_le _⟩) ?_
      refine W.eq (g2 := F0 m 30 ls [.int (mo * n), .int (ye * n)]) rfl ?_
      refine lv_aload_n hx hb dX2_multipliedBy_30 rfl (lv_at hl 0 rfl) ?_
      refine va_get (D := D) (ci := 1) (v := .int da) (C := RX2) (T := TX2) (N := 3) hx hb hts in_X2 hown hK hO.1 0 rfl rfl 2 (by decide) (hts _ q73) (fun _ h9 => h9) rfl dX2_multipliedBy_31 ?_
      refine lv_iload_n hx hb dX2_multipliedBy_34 rfl (lv_at hl 1 rfl) ?_
      refine pd_callV (W.runS (As := [.int da, .int n]) (rest := [.int (mo * n), .int (ye * n)]) ⟨hx, hb, hml, hown, hts⟩ (mX7_safeMultiply l da n hd) (va_cwS 2 hts (lw_S q681 q682 q27 q683) rfl rfl rfl (by decide +kernel) ⟨Nat.le_of_ble_eq_true rfl, Nat.le_of_ble_eq_true rfl⟩) (pdT_preS) rfl rfl hl.1 rfl (lv_room (Nat.le_of_ble_eq_true rfl)) dX2_multipliedBy_35 ⟨Nat.zero_le _, Nat.zero_le _⟩) ?_
      refine W.eq (g2 := F0 m 38 ls [.int (da * n), .int (mo * n), .int (ye * n)]) rfl ?_
      refine pd_callR (W.runS (As := [.int (ye * n), .int (mo * n), .int (da * n)]) (rest := []) ⟨hx, hb, hml, hown, hts⟩ (mX2_create l D z s.heap.size (ye * n) (mo * n) (da * n)) (va_cwS 3 hts (lw_S q57 q58 q9 q59) rfl rfl rfl (by decide +kernel) ⟨Nat.le_of_ble_eq_true rfl, Nat.le_of_ble_eq_true rfl⟩) (pdMs_preS hK hZ hS hA) rfl rfl hl.1 rfl (lv_room (Nat.le_of_ble_eq_true rfl)) dX2_multipliedBy_38 ⟨Nat.le_of_ble_eq_true rfl, Nat.le_of_ble_eq_true rfl⟩) hS (fun q h => h) (fun ra H locs hB hz1 hk1 hS => ?_)
      exact W.aret (v := .ref ra) hx hb hr (Or.inl ⟨_, rfl⟩) (Or.inr ⟨_, rfl⟩) (fun t ht hW => ⟨ra, rfl, by rw [ht]; exact ⟨hB.1, Or.inr hB.2⟩, hS.F ht⟩) hS.2.2 dX2_multipliedBy_41
    · refine lv_aload_n hx hb dX2_multipliedBy_12 rfl (lv_at hl 0 rfl) ?_
      refine W.widen (k := 1) (n := 3) (Nat.zero_le _) (Nat.zero_le _) ?_
      exact W.aret (v := .ref h0) hx hb hr (Or.inl ⟨_, rfl⟩) (Or.inr ⟨_, rfl⟩) (fun t ht hW => ⟨h0, rfl, by rw [ht]; exact ⟨pdPer_mul1 hO c_9, Or.inl rfl⟩, hS.F ht⟩) hS.2.2 dX2_multipliedBy_13
set_option maxHeartbeats 4000000 in
set_option maxRecDepth 100000 in
theorem mX2_negated (l : Launch) (D : va_G) (z sz h0 : Nat) (ye mo da : Int32) (hy : pdFit (ye.toInt64 * (-1 : Int32).toInt64)) (hm : pdFit (mo.toInt64 * (-1 : Int32).toInt64)) (hd : pdFit (da.toInt64 * (-1 : Int32).toInt64)) : Met l yX2_negated (ws_ yX2_negated cX2_negated 1 (some (.object "Period"))) ({ frames := 5, cells := 1, slots := 3, locals := 200 }) (va_Pc [.ref h0] (pdMk D z sz h0 ye mo da)) (pdGr (fun a H => pdPer D z H a (ye * (-1)) (mo * (-1)) (da * (-1)) ∧ (a = h0 ∨ a = z ∨ sz ≤ a)) (pdN sz)) 1 3 (pdN sz) := by
  refine Met.ofW (cc := cX2_negated) (maxL := 1) (ret := (some (.object "Period"))) (by decide) rfl ?_
  intro p e s m args below meth c s₁ B hml hv
  obtain ⟨rfl, hsz, hK, hO, hZ⟩ := hv
  have hx := B.exec
  have hb := B.bytes
  have hr := B.returns
  have hts := atoms_spec (ws := (ws_ yX2_negated cX2_negated 1 (some (.object "Period")))) B.pre
  have hts : ∀ w ∈ lw_all, w.before _ s = true := fun w h => hts w (List.mem_cons_of_mem _ h)
  have hown : s.vm.findClass RX2 = some m.cls := findClass_of_methodNamed B.named
  have hlocks := B.notSynchronized
  subst hsz
  have hS : va_S (pdN s.heap.size) s.heap s.heap [] := va_S.rf
  have hA : ∀ q : Nat, s.heap.size ≤ q → pdN s.heap.size q := fun q h => h
  have hl := lv_entry ([.ref h0]) (n := 1) (Nat.le_of_ble_eq_true rfl)
  rw [lg_entry_eq]
  generalize (lg_sl ([.ref h0]) ++ List.replicate (1 - (lg_sl ([.ref h0])).length) Slot.unset).toArray = ls at hl ⊢
  have hl : lv_has ls 1 [(0, .ref h0)] := hl
  refine lv_aload_n hx hb dX2_negated_0 rfl (lv_at hl 0 rfl) ?_
  refine lv_iconst (v := (-1)) hx hb dX2_negated_1 (by decide) ?_
  refine pd_callR (W.runV (As := [.int (-1)]) (rest := []) ⟨hx, hb, hml, hown, hts⟩ (mX2_multipliedBy l D z s.heap.size h0 ye mo da (-1) hy hm hd) (cwV 1 hts (lw_V q692 q678 q679 q9 q680) rfl rfl rfl (by decide +kernel) ⟨Nat.le_of_ble_eq_true rfl, Nat.le_of_ble_eq_true rfl⟩) (pdMk_pre hK hO hZ hS hA) rfl rfl hl.1 rfl (lv_room (Nat.le_of_ble_eq_true rfl)) dX2_negated_2 ⟨Nat.le_of_ble_eq_true rfl, Nat.le_of_ble_eq_true rfl⟩) hS (fun q h => h) (fun ra H locs hB hz1 hk1 hS => ?_)
  exact W.aret (v := .ref ra) hx hb hr (Or.inl ⟨_, rfl⟩) (Or.inr ⟨_, rfl⟩) (fun t ht hW => ⟨ra, rfl, by rw [ht]; exact hB, hS.F ht⟩) hS.2.2 dX2_negated_5
set_option maxHeartbeats 4000000 in
set_option maxRecDepth 100000 in
theorem mX2_plusDays (l : Launch) (D : va_G) (z sz h0 : Nat) (ye mo da : Int32) (k : Int32) (hf : pdFit (da.toInt64 + k.toInt64)) : Met l yX2_plusDays (ws_ yX2_plusDays cX2_plusDays 3 (some (.object "Period"))) ({ frames := 4, cells := 1, slots := 3, locals := 160 }) (va_Pc [.ref h0, .long k.toInt64] (pdMk D z sz h0 ye mo da)) (pdGr (fun a H => pdPer D z H a ye mo (da + k) ∧ (a = h0 ∨ a = z ∨ sz ≤ a)) (pdN sz)) 1 3 (pdN sz) := by
  refine Met.ofW (cc := cX2_plusDays) (maxL := 3) (ret := (some (.object "Period"))) (by decide) rfl ?_
  intro p e s m args below meth c s₁ B hml hv
  obtain ⟨rfl, hsz, hK, hO, hZ⟩ := hv
  have hx := B.exec
  have hb := B.bytes
  have hr := B.returns
  have hts := atoms_spec (ws := (ws_ yX2_plusDays cX2_plusDays 3 (some (.object "Period")))) B.pre
  have hts : ∀ w ∈ lw_all, w.before _ s = true := fun w h => hts w (List.mem_cons_of_mem _ h)
  have hown : s.vm.findClass RX2 = some m.cls := findClass_of_methodNamed B.named
  have hlocks := B.notSynchronized
  subst hsz
  have hS : va_S (pdN s.heap.size) s.heap s.heap [] := va_S.rf
  have hA : ∀ q : Nat, s.heap.size ≤ q → pdN s.heap.size q := fun q h => h
  have hl := lv_entry ([.ref h0, .long k.toInt64]) (n := 3) (Nat.le_of_ble_eq_true rfl)
  rw [lg_entry_eq]
  generalize (lg_sl ([.ref h0, .long k.toInt64]) ++ List.replicate (3 - (lg_sl ([.ref h0, .long k.toInt64])).length) Slot.unset).toArray = ls at hl ⊢
  have hl : lv_has ls 3 [(0, .ref h0), (1, .long k.toInt64)] := hl
  refine lv_lload_n hx hb dX2_plusDays_0 rfl (lv_at hl 1 rfl) ?_
  refine lv_lconst (v := 0) hx hb dX2_plusDays_1 (by decide) ?_
  refine W.lcmp hx hb dX2_plusDays_2 ?_
  refine lv_if_ne (tgt := 8) hx hb dX2_plusDays_3 (by decide) (fun c_3 => ?_) (fun c_3 => ?_)
  · refine lv_aload_n hx hb dX2_plusDays_8 rfl (lv_at hl 0 rfl) ?_
    refine va_get (D := D) (ci := 1) (v := .int ye) (C := RX2) (T := TX2) (N := 3) hx hb hts in_X2 hown hK hO.1 0 rfl rfl 0 (by decide) (hts _ q71) (fun _ h9 => h9) rfl dX2_plusDays_9 ?_
    refine lv_aload_n hx hb dX2_plusDays_12 rfl (lv_at hl 0 rfl) ?_
    refine va_get (D := D) (ci := 1) (v := .int mo) (C := RX2) (T := TX2) (N := 3) hx hb hts in_X2 hown hK hO.1 0 rfl rfl 1 (by decide) (hts _ q72) (fun _ h9 => h9) rfl dX2_plusDays_13 ?_
    refine lv_aload_n hx hb dX2_plusDays_16 rfl (lv_at hl 0 rfl) ?_
    refine va_get (D := D) (ci := 1) (v := .int da) (C := RX2) (T := TX2) (N := 3) hx hb hts in_X2 hown hK hO.1 0 rfl rfl 2 (by decide) (hts _ q73) (fun _ h9 => h9) rfl dX2_plusDays_17 ?_
    refine lv_i2l hx hb dX2_plusDays_20 rfl ?_
    refine lv_lload_n hx hb dX2_plusDays_21 rfl (lv_at hl 1 rfl) ?_
    refine pd_callV (W.runS (As := [.long da.toInt64, .long k.toInt64]) (rest := [.int mo, .int ye]) ⟨hx, hb, hml, hown, hts⟩ (mX7_safeAdd_2 l da k) (va_cwS 2 hts (lw_S q714 q715 q27 q716) rfl rfl rfl (by decide +kernel) ⟨Nat.le_of_ble_eq_true rfl, Nat.le_of_ble_eq_true rfl⟩) (pdT_preS) rfl rfl hl.1 rfl (lv_room (Nat.le_of_ble_eq_true rfl)) dX2_plusDays_22 ⟨Nat.zero_le _, Nat.zero_le _⟩) ?_
    refine W.eq (g2 := F0 m 25 ls [.long (da.toInt64 + k.toInt64), .int mo, .int ye]) rfl ?_
    refine pd_callV (W.runS (As := [.long (da.toInt64 + k.toInt64)]) (rest := [.int mo, .int ye]) ⟨hx, hb, hml, hown, hts⟩ (mX7_safeToInt l (da.toInt64 + k.toInt64) hf) (va_cwS 1 hts (lw_S q639 q640 q27 q641) rfl rfl rfl (by decide +kernel) ⟨Nat.le_of_ble_eq_true rfl, Nat.le_of_ble_eq_true rfl⟩) (pdT_preS) rfl rfl hl.1 rfl (lv_room (Nat.le_of_ble_eq_true rfl)) dX2_plusDays_25 ⟨Nat.zero_le _, Nat.zero_le _⟩) ?_
    refine W.eq (g2 := F0 m 28 ls [.int (da + k), .int mo, .int ye]) (by rw [pd_add_i]) ?_
    refine pd_callR (W.runS (As := [.int ye, .int mo, .int (da + k)]) (rest := []) ⟨hx, hb, hml, hown, hts⟩ (mX2_create l D z s.heap.size ye mo (da + k)) (va_cwS 3 hts (lw_S q57 q58 q9 q59) rfl rfl rfl (by decide +kernel) ⟨Nat.le_of_ble_eq_true rfl, Nat.le_of_ble_eq_true rfl⟩) (pdMs_preS hK hZ hS hA) rfl rfl hl.1 rfl (lv_room (Nat.le_of_ble_eq_true rfl)) dX2_plusDays_28 ⟨Nat.le_of_ble_eq_true rfl, Nat.le_of_ble_eq_true rfl⟩) hS (fun q h => h) (fun ra H locs hB hz1 hk1 hS => ?_)
    exact W.aret (v := .ref ra) hx hb hr (Or.inl ⟨_, rfl⟩) (Or.inr ⟨_, rfl⟩) (fun t ht hW => ⟨ra, rfl, by rw [ht]; exact ⟨hB.1, Or.inr hB.2⟩, hS.F ht⟩) hS.2.2 dX2_plusDays_31
  · refine lv_aload_n hx hb dX2_plusDays_6 rfl (lv_at hl 0 rfl) ?_
    refine W.widen (k := 1) (n := 3) (Nat.zero_le _) (Nat.zero_le _) ?_
    exact W.aret (v := .ref h0) hx hb hr (Or.inl ⟨_, rfl⟩) (Or.inr ⟨_, rfl⟩) (fun t ht hW => ⟨h0, rfl, by rw [ht]; exact ⟨by rw [pd_l0 c_3, Int32.add_zero]; exact hO, Or.inl rfl⟩, hS.F ht⟩) hS.2.2 dX2_plusDays_7
set_option maxHeartbeats 4000000 in
set_option maxRecDepth 100000 in
theorem mX2_plusMonths (l : Launch) (D : va_G) (z sz h0 : Nat) (ye mo da : Int32) (k : Int32) (hf : pdFit (mo.toInt64 + k.toInt64)) : Met l yX2_plusMonths (ws_ yX2_plusMonths cX2_plusMonths 3 (some (.object "Period"))) ({ frames := 4, cells := 1, slots := 3, locals := 160 }) (va_Pc [.ref h0, .long k.toInt64] (pdMk D z sz h0 ye mo da)) (pdGr (fun a H => pdPer D z H a ye (mo + k) da ∧ (a = h0 ∨ a = z ∨ sz ≤ a)) (pdN sz)) 1 3 (pdN sz) := by
  refine Met.ofW (cc := cX2_plusMonths) (maxL := 3) (ret := (some (.object "Period"))) (by decide) rfl ?_
  intro p e s m args below meth c s₁ B hml hv
  obtain ⟨rfl, hsz, hK, hO, hZ⟩ := hv
  have hx := B.exec
  have hb := B.bytes
  have hr := B.returns
  have hts := atoms_spec (ws := (ws_ yX2_plusMonths cX2_plusMonths 3 (some (.object "Period")))) B.pre
  have hts : ∀ w ∈ lw_all, w.before _ s = true := fun w h => hts w (List.mem_cons_of_mem _ h)
  have hown : s.vm.findClass RX2 = some m.cls := findClass_of_methodNamed B.named
  have hlocks := B.notSynchronized
  subst hsz
  have hS : va_S (pdN s.heap.size) s.heap s.heap [] := va_S.rf
  have hA : ∀ q : Nat, s.heap.size ≤ q → pdN s.heap.size q := fun q h => h
  have hl := lv_entry ([.ref h0, .long k.toInt64]) (n := 3) (Nat.le_of_ble_eq_true rfl)
  rw [lg_entry_eq]
  generalize (lg_sl ([.ref h0, .long k.toInt64]) ++ List.replicate (3 - (lg_sl ([.ref h0, .long k.toInt64])).length) Slot.unset).toArray = ls at hl ⊢
  have hl : lv_has ls 3 [(0, .ref h0), (1, .long k.toInt64)] := hl
  refine lv_lload_n hx hb dX2_plusMonths_0 rfl (lv_at hl 1 rfl) ?_
  refine lv_lconst (v := 0) hx hb dX2_plusMonths_1 (by decide) ?_
  refine W.lcmp hx hb dX2_plusMonths_2 ?_
  refine lv_if_ne (tgt := 8) hx hb dX2_plusMonths_3 (by decide) (fun c_3 => ?_) (fun c_3 => ?_)
  · refine lv_aload_n hx hb dX2_plusMonths_8 rfl (lv_at hl 0 rfl) ?_
    refine va_get (D := D) (ci := 1) (v := .int ye) (C := RX2) (T := TX2) (N := 3) hx hb hts in_X2 hown hK hO.1 0 rfl rfl 0 (by decide) (hts _ q71) (fun _ h9 => h9) rfl dX2_plusMonths_9 ?_
    refine lv_aload_n hx hb dX2_plusMonths_12 rfl (lv_at hl 0 rfl) ?_
    refine va_get (D := D) (ci := 1) (v := .int mo) (C := RX2) (T := TX2) (N := 3) hx hb hts in_X2 hown hK hO.1 0 rfl rfl 1 (by decide) (hts _ q72) (fun _ h9 => h9) rfl dX2_plusMonths_13 ?_
    refine lv_i2l hx hb dX2_plusMonths_16 rfl ?_
    refine lv_lload_n hx hb dX2_plusMonths_17 rfl (lv_at hl 1 rfl) ?_
    refine pd_callV (W.runS (As := [.long mo.toInt64, .long k.toInt64]) (rest := [.int ye]) ⟨hx, hb, hml, hown, hts⟩ (mX7_safeAdd_2 l mo k) (va_cwS 2 hts (lw_S q714 q715 q27 q716) rfl rfl rfl (by decide +kernel) ⟨Nat.le_of_ble_eq_true rfl, Nat.le_of_ble_eq_true rfl⟩) (pdT_preS) rfl rfl hl.1 rfl (lv_room (Nat.le_of_ble_eq_true rfl)) dX2_plusMonths_18 ⟨Nat.zero_le _, Nat.zero_le _⟩) ?_
    refine W.eq (g2 := F0 m 21 ls [.long (mo.toInt64 + k.toInt64), .int ye]) rfl ?_
    refine pd_callV (W.runS (As := [.long (mo.toInt64 + k.toInt64)]) (rest := [.int ye]) ⟨hx, hb, hml, hown, hts⟩ (mX7_safeToInt l (mo.toInt64 + k.toInt64) hf) (va_cwS 1 hts (lw_S q639 q640 q27 q641) rfl rfl rfl (by decide +kernel) ⟨Nat.le_of_ble_eq_true rfl, Nat.le_of_ble_eq_true rfl⟩) (pdT_preS) rfl rfl hl.1 rfl (lv_room (Nat.le_of_ble_eq_true rfl)) dX2_plusMonths_21 ⟨Nat.zero_le _, Nat.zero_le _⟩) ?_
    refine W.eq (g2 := F0 m 24 ls [.int (mo + k), .int ye]) (by rw [pd_add_i]) ?_
    refine lv_aload_n hx hb dX2_plusMonths_24 rfl (lv_at hl 0 rfl) ?_
    refine va_get (D := D) (ci := 1) (v := .int da) (C := RX2) (T := TX2) (N := 3) hx hb hts in_X2 hown hK hO.1 0 rfl rfl 2 (by decide) (hts _ q73) (fun _ h9 => h9) rfl dX2_plusMonths_25 ?_
    refine pd_callR (W.runS (As := [.int ye, .int (mo + k), .int da]) (rest := []) ⟨hx, hb, hml, hown, hts⟩ (mX2_create l D z s.heap.size ye (mo + k) da) (va_cwS 3 hts (lw_S q57 q58 q9 q59) rfl rfl rfl (by decide +kernel) ⟨Nat.le_of_ble_eq_true rfl, Nat.le_of_ble_eq_true rfl⟩) (pdMs_preS hK hZ hS hA) rfl rfl hl.1 rfl (lv_room (Nat.le_of_ble_eq_true rfl)) dX2_plusMonths_28 ⟨Nat.le_of_ble_eq_true rfl, Nat.le_of_ble_eq_true rfl⟩) hS (fun q h => h) (fun ra H locs hB hz1 hk1 hS => ?_)
    exact W.aret (v := .ref ra) hx hb hr (Or.inl ⟨_, rfl⟩) (Or.inr ⟨_, rfl⟩) (fun t ht hW => ⟨ra, rfl, by rw [ht]; exact ⟨hB.1, Or.inr hB.2⟩, hS.F ht⟩) hS.2.2 dX2_plusMonths_31
  · refine lv_aload_n hx hb dX2_plusMonths_6 rfl (lv_at hl 0 rfl) ?_
    refine W.widen (k := 1) (n := 3) (Nat.zero_le _) (Nat.zero_le _) ?_
    exact W.aret (v := .ref h0) hx hb hr (Or.inl ⟨_, rfl⟩) (Or.inr ⟨_, rfl⟩) (fun t ht hW => ⟨h0, rfl, by rw [ht]; exact ⟨by rw [pd_l0 c_3, Int32.add_zero]; exact hO, Or.inl rfl⟩, hS.F ht⟩) hS.2.2 dX2_plusMonths_7
set_option maxHeartbeats 4000000 in
set_option maxRecDepth 100000 in
theorem mX2_normalized (l : Launch) (D : va_G) (z sz h0 : Nat) (ye mo da : Int32) (hy : pdSm ye = true) (hm : pdSm mo = true) : Met l yX2_normalized (ws_ yX2_normalized cX2_normalized 6 (some (.object "Period"))) ({ frames := 4, cells := 1, slots := 3, locals := 160 }) (va_Pc [.ref h0] (pdMk D z sz h0 ye mo da)) (pdGr (fun a H => pdPer D z H a ((ye.toInt64 * 12 + mo.toInt64) / 12).toInt32 ((ye.toInt64 * 12 + mo.toInt64) - (ye.toInt64 * 12 + mo.toInt64) / 12 * 12).toInt32 da ∧ (a = h0 ∨ a = z ∨ sz ≤ a)) (pdN sz)) 1 3 (pdN sz) := by
  refine Met.ofW (cc := cX2_normalized) (maxL := 6) (ret := (some (.object "Period"))) (by decide) rfl ?_
  intro p e s m args below meth c s₁ B hml hv
  obtain ⟨rfl, hsz, hK, hO, hZ⟩ := hv
  have hx := B.exec
  have hb := B.bytes
  have hr := B.returns
  have hts := atoms_spec (ws := (ws_ yX2_normalized cX2_normalized 6 (some (.object "Period")))) B.pre
  have hts : ∀ w ∈ lw_all, w.before _ s = true := fun w h => hts w (List.mem_cons_of_mem _ h)
  have hown : s.vm.findClass RX2 = some m.cls := findClass_of_methodNamed B.named
  have hlocks := B.notSynchronized
  subst hsz
  have hS : va_S (pdN s.heap.size) s.heap s.heap [] := va_S.rf
  have hA : ∀ q : Nat, s.heap.size ≤ q → pdN s.heap.size q := fun q h => h
  have hl := lv_entry ([.ref h0]) (n := 6) (Nat.le_of_ble_eq_true rfl)
  rw [lg_entry_eq]
  generalize (lg_sl ([.ref h0]) ++ List.replicate (6 - (lg_sl ([.ref h0])).length) Slot.unset).toArray = ls at hl ⊢
  have hl : lv_has ls 6 [(0, .ref h0)] := hl
  refine lv_aload_n hx hb dX2_normalized_0 rfl (lv_at hl 0 rfl) ?_
  refine pd_callV (W.runV (As := []) (rest := []) ⟨hx, hb, hml, hown, hts⟩ (mX2_toTotalMonths l D h0 ye mo da) (cwV 0 hts (lw_V q701 q702 q703 q9 q704) rfl rfl rfl (by decide +kernel) ⟨Nat.le_of_ble_eq_true rfl, Nat.le_of_ble_eq_true rfl⟩) (pdRd_pre hK hO.1) rfl rfl hl.1 rfl (lv_room (Nat.le_of_ble_eq_true rfl)) dX2_normalized_1 ⟨Nat.zero_le _, Nat.zero_le _⟩) ?_
  refine W.eq (g2 := F0 m 4 ls [.long (ye.toInt64 * 12 + mo.toInt64)]) rfl ?_
  refine lv_topl (fun vt evt => ?_)
  refine lv_lstore_n (lv' := [(1, .long vt), (0, .ref h0)]) hx hb dX2_normalized_4 rfl hl (by decide) rfl (fun ls hl => ?_)
  refine lv_lload_n hx hb dX2_normalized_5 rfl (lv_at hl 0 rfl) ?_
  refine lv_ldc2 hx hb hown (hts _ q705) dX2_normalized_6 ?_
  refine lv_ldiv hx hb dX2_normalized_9 (by decide) ?_
  refine lv_lstore_n (lv' := [(3, .long (vt / 12)), (1, .long vt), (0, .ref h0)]) hx hb dX2_normalized_10 rfl hl (by decide) rfl (fun ls hl => ?_)
  refine lv_lload_n hx hb dX2_normalized_11 rfl (lv_at hl 1 rfl) ?_
  refine lv_ldc2 hx hb hown (hts _ q705) dX2_normalized_12 ?_
  refine lv_lrem hx hb dX2_normalized_15 (by decide) ?_
  refine lv_l2i hx hb dX2_normalized_16 rfl ?_
  refine lv_istore (lv' := [(5, .int ((vt - vt / 12 * 12).toInt32)), (3, .long (vt / 12)), (1, .long vt), (0, .ref h0)]) hx hb dX2_normalized_17 hl (by decide) rfl (fun ls hl => ?_)
  refine lv_lload_n hx hb dX2_normalized_19 rfl (lv_at hl 1 rfl) ?_
  refine lv_aload_n hx hb dX2_normalized_20 rfl (lv_at hl 3 rfl) ?_
  refine va_get (D := D) (ci := 1) (v := .int ye) (C := RX2) (T := TX2) (N := 3) hx hb hts in_X2 hown hK hO.1 0 rfl rfl 0 (by decide) (hts _ q71) (fun _ h9 => h9) rfl dX2_normalized_21 ?_
  refine lv_i2l hx hb dX2_normalized_24 rfl ?_
  refine W.lcmp hx hb dX2_normalized_25 ?_
  refine lv_if_ne (tgt := 40) hx hb dX2_normalized_26 (by decide) (fun c_26 => ?_) (fun c_26 => ?_)
  · refine lv_lload_n hx hb dX2_normalized_40 rfl (lv_at hl 1 rfl) ?_
    refine pd_callV (W.runS (As := [.long (vt / 12)]) (rest := []) ⟨hx, hb, hml, hown, hts⟩ (mX7_safeToInt l (vt / 12) (by rw [evt]; exact pd_split_fit hy hm)) (va_cwS 1 hts (lw_S q639 q640 q27 q641) rfl rfl rfl (by decide +kernel) ⟨Nat.le_of_ble_eq_true rfl, Nat.le_of_ble_eq_true rfl⟩) (pdT_preS) rfl rfl hl.1 rfl (lv_room (Nat.le_of_ble_eq_true rfl)) dX2_normalized_41 ⟨Nat.zero_le _, Nat.zero_le _⟩) ?_
    refine W.eq (g2 := F0 m 44 ls [.int ((vt / 12).toInt32)]) rfl ?_
    refine lv_iload hx hb dX2_normalized_44 (lv_at hl 0 rfl) ?_
    refine lv_aload_n hx hb dX2_normalized_46 rfl (lv_at hl 3 rfl) ?_
    refine va_get (D := D) (ci := 1) (v := .int da) (C := RX2) (T := TX2) (N := 3) hx hb hts in_X2 hown hK hO.1 0 rfl rfl 2 (by decide) (hts _ q73) (fun _ h9 => h9) rfl dX2_normalized_47 ?_
    refine pd_callR (W.runS (As := [.int ((vt / 12).toInt32), .int ((vt - vt / 12 * 12).toInt32), .int da]) (rest := []) ⟨hx, hb, hml, hown, hts⟩ (mX2_create l D z s.heap.size ((vt / 12).toInt32) ((vt - vt / 12 * 12).toInt32) da) (va_cwS 3 hts (lw_S q57 q58 q9 q59) rfl rfl rfl (by decide +kernel) ⟨Nat.le_of_ble_eq_true rfl, Nat.le_of_ble_eq_true rfl⟩) (pdMs_preS hK hZ hS hA) rfl rfl hl.1 rfl (lv_room (Nat.le_of_ble_eq_true rfl)) dX2_normalized_50 ⟨Nat.le_of_ble_eq_true rfl, Nat.le_of_ble_eq_true rfl⟩) hS (fun q h => h) (fun ra H locs hB hz1 hk1 hS => ?_)
    subst evt
    exact W.aret (v := .ref ra) hx hb hr (Or.inl ⟨_, rfl⟩) (Or.inr ⟨_, rfl⟩) (fun t ht hW => ⟨ra, rfl, by rw [ht]; exact ⟨hB.1, Or.inr hB.2⟩, hS.F ht⟩) hS.2.2 dX2_normalized_53
  · refine lv_iload hx hb dX2_normalized_29 (lv_at hl 0 rfl) ?_
    refine lv_aload_n hx hb dX2_normalized_31 rfl (lv_at hl 3 rfl) ?_
    refine va_get (D := D) (ci := 1) (v := .int mo) (C := RX2) (T := TX2) (N := 3) hx hb hts in_X2 hown hK hO.1 0 rfl rfl 1 (by decide) (hts _ q72) (fun _ h9 => h9) rfl dX2_normalized_32 ?_
    refine lv_icmp_ne (tgt := 40) hx hb dX2_normalized_35 (by decide) (fun c_35 => ?_) (fun c_35 => ?_)
    · refine lv_lload_n hx hb dX2_normalized_40 rfl (lv_at hl 1 rfl) ?_
      refine pd_callV (W.runS (As := [.long (vt / 12)]) (rest := []) ⟨hx, hb, hml, hown, hts⟩ (mX7_safeToInt l (vt / 12) (by rw [evt]; exact pd_split_fit hy hm)) (va_cwS 1 hts (lw_S q639 q640 q27 q641) rfl rfl rfl (by decide +kernel) ⟨Nat.le_of_ble_eq_true rfl, Nat.le_of_ble_eq_true rfl⟩) (pdT_preS) rfl rfl hl.1 rfl (lv_room (Nat.le_of_ble_eq_true rfl)) dX2_normalized_41 ⟨Nat.zero_le _, Nat.zero_le _⟩) ?_
      refine W.eq (g2 := F0 m 44 ls [.int ((vt / 12).toInt32)]) rfl ?_
      refine lv_iload hx hb dX2_normalized_44 (lv_at hl 0 rfl) ?_
      refine lv_aload_n hx hb dX2_normalized_46 rfl (lv_at hl 3 rfl) ?_
      refine va_get (D := D) (ci := 1) (v := .int da) (C := RX2) (T := TX2) (N := 3) hx hb hts in_X2 hown hK hO.1 0 rfl rfl 2 (by decide) (hts _ q73) (fun _ h9 => h9) rfl dX2_normalized_47 ?_
      refine pd_callR (W.runS (As := [.int ((vt / 12).toInt32), .int ((vt - vt / 12 * 12).toInt32), .int da]) (rest := []) ⟨hx, hb, hml, hown, hts⟩ (mX2_create l D z s.heap.size ((vt / 12).toInt32) ((vt - vt / 12 * 12).toInt32) da) (va_cwS 3 hts (lw_S q57 q58 q9 q59) rfl rfl rfl (by decide +kernel) ⟨Nat.le_of_ble_eq_true rfl, Nat.le_of_ble_eq_true rfl⟩) (pdMs_preS hK hZ hS hA) rfl rfl hl.1 rfl (lv_room (Nat.le_of_ble_eq_true rfl)) dX2_normalized_50 ⟨Nat.le_of_ble_eq_true rfl, Nat.le_of_ble_eq_true rfl⟩) hS (fun q h => h) (fun ra H locs hB hz1 hk1 hS => ?_)
      subst evt
      exact W.aret (v := .ref ra) hx hb hr (Or.inl ⟨_, rfl⟩) (Or.inr ⟨_, rfl⟩) (fun t ht hW => ⟨ra, rfl, by rw [ht]; exact ⟨hB.1, Or.inr hB.2⟩, hS.F ht⟩) hS.2.2 dX2_normalized_53
    · refine lv_aload_n hx hb dX2_normalized_38 rfl (lv_at hl 3 rfl) ?_
      subst evt
      refine W.widen (k := 1) (n := 3) (Nat.zero_le _) (Nat.zero_le _) ?_
      exact W.aret (v := .ref h0) hx hb hr (Or.inl ⟨_, rfl⟩) (Or.inr ⟨_, rfl⟩) (fun t ht hW => ⟨h0, rfl, by rw [ht]; exact ⟨by rw [pd_ly c_26, c_35]; exact hO, Or.inl rfl⟩, hS.F ht⟩) hS.2.2 dX2_normalized_39
end
section
/-! PeriodDesk: its object, its array of two references, and two Periods outside the list -/
set_option maxRecDepth 100000
def pdA (h0 ha sz : Nat) : Nat → Prop := fun q => q = h0 ∨ q = ha ∨ sz ≤ q
abbrev pdDw (cA : ClassId) (h0 ha : Nat) (g : Nat → Nat) : va_W := [(h0, .inr (0, [.ref ha])), (ha, .inl (cA, 2, .inr (.inr (.inr (.inr (fun j => some (g j)))))))]
/-- the two Periods -/
def pdPs (D : va_G) (z h0 ha : Nat) (g : Nat → Nat) (v : pdS) (H : Heap) : Prop := ∀ j, j < 2 → pdPer D z H (g j) (v.1 j) (v.2.1 j) (v.2.2 j) ∧ g j ≠ h0 ∧ g j ≠ ha
/-- the desk's world, in state v -/
def pdW (D : va_G) (z : Nat) (cA : ClassId) (h0 ha : Nat) (g : Nat → Nat) (v : pdS) (H : Heap) : Prop := va_P D pdCl (pdDw cA h0 ha g) H ∧ pdPs D z h0 ha g v H
/-- what a method of the desk asks -/
def pdDk (D : va_G) (z : Nat) (cA : ClassId) (sz h0 ha : Nat) (g : Nat → Nat) (v : pdS) (U : State) : Prop := U.heap.size = sz ∧ va_K D pdCl [(cA, .object "Period")] U ∧ pdW D z cA h0 ha g v U.heap ∧ h0 ≠ ha ∧ pdZ D z (pdA h0 ha sz) U
theorem pdDk_pre {D : va_G} {z : Nat} {cA : ClassId} {h0 ha : Nat} {g : Nat → Nat} {v : pdS} {tys : List (ClassId × FieldType)} {A : Nat → Prop} {s : State} {H : Heap} {locs : List Loc} {As : List Value} (t0 : Nat) (ht : [t0].filterMap (fun i => tys[i]?) = [(cA, .object "Period")]) (hK : va_K D pdCl tys s) (hW : pdW D z cA h0 ha g v H) (hne : h0 ≠ ha) (hZ : pdZ D z A s) (hS : va_S A s.heap H locs) (hA : ∀ q, pdA h0 ha H.size q → A q) : PreV s H RX0 h0 (va_Pc (.ref h0 :: As) (pdDk D z cA H.size h0 ha g v)) As :=
  ⟨fun a U g mk q => ⟨q.1, q.2.1, pdK_blind g mk a q.2.2.1, q.2.2.2.1, q.2.2.2.2.1, pdZ_blind g mk a q.2.2.2.2.2⟩, va_recv hK hW.1 (ci := 0) (q0 := 0) rfl rfl, fun U hU hW2 => ⟨rfl, by rw [hU], (va_K.moved hW2.alike hK).sub [t0] ht, by rw [hU]; exact hW, hne, pdZ_call hZ hS hU hW2 hA⟩⟩
theorem pd_D2 {A : Nat → Prop} {a b : Nat} {e f : va_E} (h : a ≠ b) (ha : A a) (hb : A b) : va_D A [(a, e), (b, f)] := by
  refine ⟨fun i j p q hi hj hpq => ?_, fun k q hk => ?_⟩
  · match i, j, hi, hj with
    | 0, 0, _, _ => rfl
    | 1, 1, _, _ => rfl
    | 0, 1, hi, hj => cases hi; cases hj; exact absurd hpq h
    | 1, 0, hi, hj => cases hi; cases hj; exact absurd hpq.symm h
    | 0, j + 2, _, hj => simp at hj
    | 1, j + 2, _, hj => simp at hj
    | i + 2, _, hi, _ => simp at hi
  · match k, hk with
    | 0, hk => cases hk; exact ha
    | 1, hk => cases hk; exact hb
    | k + 2, hk => simp at hk
/-- behind a call that made new cells alone -/
theorem pd_keptN {D : va_G} {cl : List vw_C} {ws : va_W} {H H1 : Heap} (hP : va_P D cl ws H) (hk : ∀ q : Nat, q < H.size → ¬ pdN H.size q → H1[q]? = H[q]?) : va_P D cl ws H1 :=
  hP.kept (fun k q h => hk q.1 (hP k q h).lt (Nat.not_le.mpr (hP k q h).lt))
theorem pdPs_keptN {D : va_G} {z h0 ha : Nat} {g : Nat → Nat} {v : pdS} {H H1 : Heap} (hG : pdPs D z h0 ha g v H) (hk : ∀ q : Nat, q < H.size → ¬ pdN H.size q → H1[q]? = H[q]?) : pdPs D z h0 ha g v H1 :=
  fun j hj => ⟨pdPer_kept (hG j hj).1 (hk _ (pdAt_lt (hG j hj).1.1) (Nat.not_le.mpr (pdAt_lt (hG j hj).1.1))), (hG j hj).2⟩
theorem pd_arrV_c {cA : ClassId} {n : Nat} {f f' : Nat → Value} (h : ∀ j, j < n → f j = f' j) : arrV cA n f = arrV cA n f' := by
  unfold arrV
  congr 2
  funext j
  exact h j.val j.isLt
theorem pd_P2 {D : va_G} {cl : List vw_C} {a b : Nat} {e f : va_E} {H : Heap} (h1 : va_at D cl (a, e) H) (h2 : va_at D cl (b, f) H) : va_P D cl [(a, e), (b, f)] H := fun k q hk => by
  match k, hk with
  | 0, hk => cases hk; exact h1
  | 1, hk => cases hk; exact h2
  | k + 2, hk => simp at hk
/-- the desk's world with one Period stored -/
theorem pd_fin {D : va_G} {z : Nat} {cA : ClassId} {h0 ha sz : Nat} {g : Nat → Nat} {v v' : pdS} {K ra : Nat} {ye mo da : Int32} {H H1 : Heap} (hP1 : va_P D pdCl [(h0, .inr (0, [.ref ha])), (ha, .inl (cA, 2, .inr (.inr (.inr (.inr (va_up (fun j => some (g j)) K (some ra)))))))] H1) (hG : pdPs D z h0 ha g v H) (hk2 : ∀ q : Nat, q ≠ ha → H1[q]? = H[q]?) (hB : pdPer D z H ra ye mo da) (ho : ra = g K ∨ ra = z ∨ sz ≤ ra) (hK : K < 2) (hz : ¬ pdA h0 ha sz z) (hl0 : h0 < sz) (hla : ha < sz) (hv : (v'.1 K = ye ∧ v'.2.1 K = mo ∧ v'.2.2 K = da) ∧ ∀ j, j ≠ K → v'.1 j = v.1 j ∧ v'.2.1 j = v.2.1 j ∧ v'.2.2 j = v.2.2 j) : ∃ g', pdW D z cA h0 ha g' v' H1 ∧ ∀ j, j < 2 → (g' j = g j ∨ g' j = z ∨ sz ≤ g' j) := by
  have hr0 : ra ≠ h0 ∧ ra ≠ ha := by
    rcases ho with h | h | h
    · rw [h]; exact (hG K hK).2
    · rw [h]; exact ⟨fun e => hz (Or.inl e), fun e => hz (Or.inr (Or.inl e))⟩
    · exact ⟨fun e => by omega, fun e => by omega⟩
  have ef : va_up (fun j => some (g j)) K (some ra) = fun j => some (va_up g K ra j) := by
    funext j
    by_cases hj : j = K <;> simp [va_up, hj]
  rw [ef] at hP1
  refine ⟨va_up g K ra, ⟨hP1, fun j hj => ?_⟩, fun j hj => ?_⟩
  · by_cases hjk : j = K
    · subst hjk
      obtain ⟨⟨e1, e2, e3⟩, -⟩ := hv
      rw [e1, e2, e3, va_up_self]
      exact ⟨pdPer_kept hB (hk2 _ hr0.2), hr0⟩
    · obtain ⟨e1, e2, e3⟩ := hv.2 j hjk
      rw [e1, e2, e3, va_up_ne g ra hjk]
      exact ⟨pdPer_kept (hG j hj).1 (hk2 _ (hG j hj).2.2), (hG j hj).2⟩
  · by_cases hjk : j = K
    · subst hjk
      rw [va_up_self]
      exact ho
    · rw [va_up_ne g ra hjk]
      exact Or.inl rfl
theorem pdSm_def (x : Int32) : pdSm x = true ↔ ¬ (500000000 : Int32) ≤ x ∧ ¬ x ≤ (-500000000 : Int32) := by
  unfold pdSm
  rw [Bool.and_eq_true, Bool.not_eq_true', Bool.not_eq_true', decide_eq_false_iff_not, decide_eq_false_iff_not]
theorem pdOk_iff {v : pdS} {k : Nat} : pdOk v k = true ↔ (¬ (500000000 : Int32) ≤ v.1 k ∧ ¬ v.1 k ≤ (-500000000 : Int32)) ∧ (¬ (500000000 : Int32) ≤ v.2.1 k ∧ ¬ v.2.1 k ≤ (-500000000 : Int32)) ∧ (¬ (500000000 : Int32) ≤ v.2.2 k ∧ ¬ v.2.2 k ≤ (-500000000 : Int32)) := by
  unfold pdOk
  rw [pdRm_iff, pdSm_def, pdSm_def, pdSm_def]
def pf_bit (b : Bool) : Int32 := if b = true then 1 else 0
theorem pf_bit_0 {b : Bool} (h : pf_bit b = 0) : b = false := by cases b <;> simp_all [pf_bit]
theorem pf_bit_1 {b : Bool} (h : ¬ pf_bit b = 0) : b = true := by cases b <;> simp_all [pf_bit]
theorem pf_bit_t {b : Bool} (h : b = true) : pf_bit b = 1 := by rw [h]; rfl
theorem pf_bit_f {b : Bool} (h : ¬ b = true) : pf_bit b = 0 := by cases b <;> simp_all [pf_bit]
theorem pdK_0 : pdK 0 = 0 := by decide
theorem pdK_1 : pdK 1 = 1 := by decide
theorem pdK_olt (x : Int32) : 1 - pdK x < 2 := by omega
theorem pf_neg_nar (ye mo da : Int32) : narrow .boolean (.int (pf_neg ye mo da)) = .int (pf_neg ye mo da) := by unfold pf_neg; split <;> rfl
theorem pf_zero_nar (ye mo da : Int32) : narrow .boolean (.int (pf_zero ye mo da)) = .int (pf_zero ye mo da) := by unfold pf_zero; split <;> rfl
set_option maxHeartbeats 4000000 in
set_option maxRecDepth 100000 in
theorem mX0_small (l : Launch) (n : Int32) : Met l yX0_small (ws_ yX0_small cX0_small 1 (some .int)) ({ frames := 0, cells := 0, slots := 0, locals := 0 }) (va_Pc [.int n] (fun _ => True)) (k2_QcV (.int (pf_small n))) 0 0 (fun _ => False) := by
  refine Met.ofW (cc := cX0_small) (maxL := 1) (ret := (some .int)) (by decide) rfl ?_
  intro p e s m args below meth c s₁ B hml hv
  obtain ⟨rfl, -⟩ := hv
  have hx := B.exec
  have hb := B.bytes
  have hr := B.returns
  have hts := atoms_spec (ws := (ws_ yX0_small cX0_small 1 (some .int))) B.pre
  have hts : ∀ w ∈ lw_all, w.before _ s = true := fun w h => hts w (List.mem_cons_of_mem _ h)
  have hown : s.vm.findClass RX0 = some m.cls := findClass_of_methodNamed B.named
  have hlocks := B.notSynchronized
  have hl := lv_entry ([.int n]) (n := 1) (Nat.le_of_ble_eq_true rfl)
  rw [lg_entry_eq]
  generalize (lg_sl ([.int n]) ++ List.replicate (1 - (lg_sl ([.int n])).length) Slot.unset).toArray = ls at hl ⊢
  have hl : lv_has ls 1 [(0, .int n)] := hl
  refine lv_iload_n hx hb dX0_small_0 rfl (lv_at hl 0 rfl) ?_
  refine lv_ldc hx hb hown (hts _ q92) dX0_small_1 ?_
  refine lv_irem hx hb dX0_small_3 (by decide) ?_
  exact W.iret (v := (n - n / 1000000 * 1000000)) hx hb hr (fun t ht hW => ⟨rfl, ht⟩) (fun q h => by cases h) dX0_small_4
set_option maxHeartbeats 4000000 in
set_option maxRecDepth 100000 in
theorem mX0_room (l : Launch) (D : va_G) (z : Nat) (cA : ClassId) (sz h0 ha : Nat) (g : Nat → Nat) (v : pdS) (x : Int32) : Met l yX0_room (ws_ yX0_room cX0_room 3 (some .boolean)) ({ frames := 1, cells := 0, slots := 0, locals := 40 }) (va_Pc [.ref h0, .int x] (pdDk D z cA sz h0 ha g v)) (k2_QcV (.int (pf_bit (pdOk v (pdK x))))) 0 0 (fun _ => False) := by
  refine Met.ofW (cc := cX0_room) (maxL := 3) (ret := (some .boolean)) (by decide) rfl ?_
  intro p e s m args below meth c s₁ B hml hv
  obtain ⟨rfl, hsz, hK, ⟨hP, hG⟩, hne, hZ⟩ := hv
  have hx := B.exec
  have hb := B.bytes
  have hr := B.returns
  have hts := atoms_spec (ws := (ws_ yX0_room cX0_room 3 (some .boolean))) B.pre
  have hts : ∀ w ∈ lw_all, w.before _ s = true := fun w h => hts w (List.mem_cons_of_mem _ h)
  have hown : s.vm.findClass RX0 = some m.cls := findClass_of_methodNamed B.named
  have hlocks := B.notSynchronized
  subst hsz
  have hS : va_S (pdA h0 ha s.heap.size) s.heap s.heap [] := va_S.rf
  have hA : ∀ q : Nat, s.heap.size ≤ q → pdA h0 ha s.heap.size q := fun q h => Or.inr (Or.inr h)
  have hP : va_P D pdCl [(h0, .inr (0, [.ref ha])), (ha, .inl (cA, 2, .inr (.inr (.inr (.inr (fun j => some (g j)))))))] s.heap := hP
  have hl := lv_entry ([.ref h0, .int x]) (n := 3) (Nat.le_of_ble_eq_true rfl)
  rw [lg_entry_eq]
  generalize (lg_sl ([.ref h0, .int x]) ++ List.replicate (3 - (lg_sl ([.ref h0, .int x])).length) Slot.unset).toArray = ls at hl ⊢
  have hl : lv_has ls 3 [(0, .ref h0), (1, .int x)] := hl
  refine lv_aload_n hx hb dX0_room_0 rfl (lv_at hl 0 rfl) ?_
  refine va_get (D := D) (ci := 0) (v := .ref ha) (C := RX0) (T := TX0) (N := 1) hx hb hts in_X0 hown hK hP 0 rfl rfl 0 (by decide) (hts _ q81) (fun _ h9 => h9) rfl dX0_room_1 ?_
  refine lv_iload_n hx hb dX0_room_4 rfl (lv_at hl 1 rfl) ?_
  refine lv_iconst (v := 1) hx hb dX0_room_5 (by decide) ?_
  refine lv_iand hx hb dX0_room_6 ?_
  refine va_aldq hx hb hK hP 1 0 rfl rfl (pdK_in x) dX0_room_7 ?_
  refine W.eq (g2 := F0 m 8 ls [.ref (g (pdK x))]) rfl ?_
  refine lv_astore_n (lv' := [(2, .ref (g (pdK x))), (0, .ref h0), (1, .int x)]) hx hb dX0_room_8 rfl hl (by decide) rfl (fun ls hl => ?_)
  refine lv_aload_n hx hb dX0_room_9 rfl (lv_at hl 0 rfl) ?_
  refine pd_callV (W.runV (As := []) (rest := []) ⟨hx, hb, hml, hown, hts⟩ (mX2_getYears l D (g (pdK x)) (v.1 (pdK x)) (v.2.1 (pdK x)) (v.2.2 (pdK x))) (cwV 0 hts (lw_V q101 q102 q103 q9 q104) rfl rfl rfl (by decide +kernel) ⟨Nat.le_of_ble_eq_true rfl, Nat.le_of_ble_eq_true rfl⟩) (pdRd_pre hK (hG _ (pdK_lt x)).1.1) rfl rfl hl.1 rfl (lv_room (Nat.le_of_ble_eq_true rfl)) dX0_room_10 ⟨Nat.zero_le _, Nat.zero_le _⟩) ?_
  refine W.eq (g2 := F0 m 13 ls [.int (v.1 (pdK x))]) rfl ?_
  refine lv_ldc hx hb hown (hts _ q105) dX0_room_13 ?_
  refine lv_icmp_ge (tgt := 67) hx hb dX0_room_15 (by decide) (fun c_15 => ?_) (fun c_15 => ?_)
  · refine lv_iconst (v := 0) hx hb dX0_room_67 (by decide) ?_
    exact W.zret (v := 0) hx hb hr rfl (fun t ht hW => ⟨by rw [pf_bit_f (fun h => (pdOk_iff.mp h).1.1 c_15)], ht⟩) (fun q h => by cases h) dX0_room_68
  · refine lv_aload_n hx hb dX0_room_18 rfl (lv_at hl 0 rfl) ?_
    refine pd_callV (W.runV (As := []) (rest := []) ⟨hx, hb, hml, hown, hts⟩ (mX2_getYears l D (g (pdK x)) (v.1 (pdK x)) (v.2.1 (pdK x)) (v.2.2 (pdK x))) (cwV 0 hts (lw_V q101 q102 q103 q9 q104) rfl rfl rfl (by decide +kernel) ⟨Nat.le_of_ble_eq_true rfl, Nat.le_of_ble_eq_true rfl⟩) (pdRd_pre hK (hG _ (pdK_lt x)).1.1) rfl rfl hl.1 rfl (lv_room (Nat.le_of_ble_eq_true rfl)) dX0_room_19 ⟨Nat.zero_le _, Nat.zero_le _⟩) ?_
    refine W.eq (g2 := F0 m 22 ls [.int (v.1 (pdK x))]) rfl ?_
    refine lv_ldc hx hb hown (hts _ q106) dX0_room_22 ?_
    refine lv_icmp_le (tgt := 67) hx hb dX0_room_24 (by decide) (fun c_24 => ?_) (fun c_24 => ?_)
    · refine lv_iconst (v := 0) hx hb dX0_room_67 (by decide) ?_
      exact W.zret (v := 0) hx hb hr rfl (fun t ht hW => ⟨by rw [pf_bit_f (fun h => (pdOk_iff.mp h).1.2 c_24)], ht⟩) (fun q h => by cases h) dX0_room_68
    · refine lv_aload_n hx hb dX0_room_27 rfl (lv_at hl 0 rfl) ?_
      refine pd_callV (W.runV (As := []) (rest := []) ⟨hx, hb, hml, hown, hts⟩ (mX2_getMonths l D (g (pdK x)) (v.1 (pdK x)) (v.2.1 (pdK x)) (v.2.2 (pdK x))) (cwV 0 hts (lw_V q107 q108 q109 q9 q110) rfl rfl rfl (by decide +kernel) ⟨Nat.le_of_ble_eq_true rfl, Nat.le_of_ble_eq_true rfl⟩) (pdRd_pre hK (hG _ (pdK_lt x)).1.1) rfl rfl hl.1 rfl (lv_room (Nat.le_of_ble_eq_true rfl)) dX0_room_28 ⟨Nat.zero_le _, Nat.zero_le _⟩) ?_
      refine W.eq (g2 := F0 m 31 ls [.int (v.2.1 (pdK x))]) rfl ?_
      refine lv_ldc hx hb hown (hts _ q105) dX0_room_31 ?_
      refine lv_icmp_ge (tgt := 67) hx hb dX0_room_33 (by decide) (fun c_33 => ?_) (fun c_33 => ?_)
      · refine lv_iconst (v := 0) hx hb dX0_room_67 (by decide) ?_
        exact W.zret (v := 0) hx hb hr rfl (fun t ht hW => ⟨by rw [pf_bit_f (fun h => (pdOk_iff.mp h).2.1.1 c_33)], ht⟩) (fun q h => by cases h) dX0_room_68
      · refine lv_aload_n hx hb dX0_room_36 rfl (lv_at hl 0 rfl) ?_
        refine pd_callV (W.runV (As := []) (rest := []) ⟨hx, hb, hml, hown, hts⟩ (mX2_getMonths l D (g (pdK x)) (v.1 (pdK x)) (v.2.1 (pdK x)) (v.2.2 (pdK x))) (cwV 0 hts (lw_V q107 q108 q109 q9 q110) rfl rfl rfl (by decide +kernel) ⟨Nat.le_of_ble_eq_true rfl, Nat.le_of_ble_eq_true rfl⟩) (pdRd_pre hK (hG _ (pdK_lt x)).1.1) rfl rfl hl.1 rfl (lv_room (Nat.le_of_ble_eq_true rfl)) dX0_room_37 ⟨Nat.zero_le _, Nat.zero_le _⟩) ?_
        refine W.eq (g2 := F0 m 40 ls [.int (v.2.1 (pdK x))]) rfl ?_
        refine lv_ldc hx hb hown (hts _ q106) dX0_room_40 ?_
        refine lv_icmp_le (tgt := 67) hx hb dX0_room_42 (by decide) (fun c_42 => ?_) (fun c_42 => ?_)
        · refine lv_iconst (v := 0) hx hb dX0_room_67 (by decide) ?_
          exact W.zret (v := 0) hx hb hr rfl (fun t ht hW => ⟨by rw [pf_bit_f (fun h => (pdOk_iff.mp h).2.1.2 c_42)], ht⟩) (fun q h => by cases h) dX0_room_68
        · refine lv_aload_n hx hb dX0_room_45 rfl (lv_at hl 0 rfl) ?_
          refine pd_callV (W.runV (As := []) (rest := []) ⟨hx, hb, hml, hown, hts⟩ (mX2_getDays l D (g (pdK x)) (v.1 (pdK x)) (v.2.1 (pdK x)) (v.2.2 (pdK x))) (cwV 0 hts (lw_V q111 q112 q113 q9 q114) rfl rfl rfl (by decide +kernel) ⟨Nat.le_of_ble_eq_true rfl, Nat.le_of_ble_eq_true rfl⟩) (pdRd_pre hK (hG _ (pdK_lt x)).1.1) rfl rfl hl.1 rfl (lv_room (Nat.le_of_ble_eq_true rfl)) dX0_room_46 ⟨Nat.zero_le _, Nat.zero_le _⟩) ?_
          refine W.eq (g2 := F0 m 49 ls [.int (v.2.2 (pdK x))]) rfl ?_
          refine lv_ldc hx hb hown (hts _ q105) dX0_room_49 ?_
          refine lv_icmp_ge (tgt := 67) hx hb dX0_room_51 (by decide) (fun c_51 => ?_) (fun c_51 => ?_)
          · refine lv_iconst (v := 0) hx hb dX0_room_67 (by decide) ?_
            exact W.zret (v := 0) hx hb hr rfl (fun t ht hW => ⟨by rw [pf_bit_f (fun h => (pdOk_iff.mp h).2.2.1 c_51)], ht⟩) (fun q h => by cases h) dX0_room_68
          · refine lv_aload_n hx hb dX0_room_54 rfl (lv_at hl 0 rfl) ?_
            refine pd_callV (W.runV (As := []) (rest := []) ⟨hx, hb, hml, hown, hts⟩ (mX2_getDays l D (g (pdK x)) (v.1 (pdK x)) (v.2.1 (pdK x)) (v.2.2 (pdK x))) (cwV 0 hts (lw_V q111 q112 q113 q9 q114) rfl rfl rfl (by decide +kernel) ⟨Nat.le_of_ble_eq_true rfl, Nat.le_of_ble_eq_true rfl⟩) (pdRd_pre hK (hG _ (pdK_lt x)).1.1) rfl rfl hl.1 rfl (lv_room (Nat.le_of_ble_eq_true rfl)) dX0_room_55 ⟨Nat.zero_le _, Nat.zero_le _⟩) ?_
            refine W.eq (g2 := F0 m 58 ls [.int (v.2.2 (pdK x))]) rfl ?_
            refine lv_ldc hx hb hown (hts _ q106) dX0_room_58 ?_
            refine lv_icmp_le (tgt := 67) hx hb dX0_room_60 (by decide) (fun c_60 => ?_) (fun c_60 => ?_)
            · refine lv_iconst (v := 0) hx hb dX0_room_67 (by decide) ?_
              exact W.zret (v := 0) hx hb hr rfl (fun t ht hW => ⟨by rw [pf_bit_f (fun h => (pdOk_iff.mp h).2.2.2 c_60)], ht⟩) (fun q h => by cases h) dX0_room_68
            · refine lv_iconst (v := 1) hx hb dX0_room_63 (by decide) ?_
              refine lv_goto (tgt := 68) hx hb dX0_room_64 (by decide) ?_
              exact W.zret (v := 1) hx hb hr rfl (fun t ht hW => ⟨by rw [pf_bit_t (pdOk_iff.mpr ⟨⟨c_15, c_24⟩, ⟨c_33, c_42⟩, ⟨c_51, c_60⟩⟩)], ht⟩) (fun q h => by cases h) dX0_room_68
set_option maxHeartbeats 4000000 in
set_option maxRecDepth 100000 in
theorem mX0_years (l : Launch) (D : va_G) (z : Nat) (cA : ClassId) (sz h0 ha : Nat) (g : Nat → Nat) (v : pdS) (x : Int32) : Met l yX0_years (ws_ yX0_years cX0_years 2 (some .int)) ({ frames := 1, cells := 0, slots := 0, locals := 40 }) (va_Pc [.ref h0, .int x] (pdDk D z cA sz h0 ha g v)) (k2_QcV (.int (v.1 (pdK x)))) 0 0 (fun _ => False) := by
  refine Met.ofW (cc := cX0_years) (maxL := 2) (ret := (some .int)) (by decide) rfl ?_
  intro p e s m args below meth c s₁ B hml hv
  obtain ⟨rfl, hsz, hK, ⟨hP, hG⟩, hne, hZ⟩ := hv
  have hx := B.exec
  have hb := B.bytes
  have hr := B.returns
  have hts := atoms_spec (ws := (ws_ yX0_years cX0_years 2 (some .int))) B.pre
  have hts : ∀ w ∈ lw_all, w.before _ s = true := fun w h => hts w (List.mem_cons_of_mem _ h)
  have hown : s.vm.findClass RX0 = some m.cls := findClass_of_methodNamed B.named
  have hlocks := B.notSynchronized
  subst hsz
  have hS : va_S (pdA h0 ha s.heap.size) s.heap s.heap [] := va_S.rf
  have hA : ∀ q : Nat, s.heap.size ≤ q → pdA h0 ha s.heap.size q := fun q h => Or.inr (Or.inr h)
  have hP : va_P D pdCl [(h0, .inr (0, [.ref ha])), (ha, .inl (cA, 2, .inr (.inr (.inr (.inr (fun j => some (g j)))))))] s.heap := hP
  have hl := lv_entry ([.ref h0, .int x]) (n := 2) (Nat.le_of_ble_eq_true rfl)
  rw [lg_entry_eq]
  generalize (lg_sl ([.ref h0, .int x]) ++ List.replicate (2 - (lg_sl ([.ref h0, .int x])).length) Slot.unset).toArray = ls at hl ⊢
  have hl : lv_has ls 2 [(0, .ref h0), (1, .int x)] := hl
  refine lv_aload_n hx hb dX0_years_0 rfl (lv_at hl 0 rfl) ?_
  refine va_get (D := D) (ci := 0) (v := .ref ha) (C := RX0) (T := TX0) (N := 1) hx hb hts in_X0 hown hK hP 0 rfl rfl 0 (by decide) (hts _ q81) (fun _ h9 => h9) rfl dX0_years_1 ?_
  refine lv_iload_n hx hb dX0_years_4 rfl (lv_at hl 1 rfl) ?_
  refine lv_iconst (v := 1) hx hb dX0_years_5 (by decide) ?_
  refine lv_iand hx hb dX0_years_6 ?_
  refine va_aldq hx hb hK hP 1 0 rfl rfl (pdK_in x) dX0_years_7 ?_
  refine W.eq (g2 := F0 m 8 ls [.ref (g (pdK x))]) rfl ?_
  refine pd_callV (W.runV (As := []) (rest := []) ⟨hx, hb, hml, hown, hts⟩ (mX2_getYears l D (g (pdK x)) (v.1 (pdK x)) (v.2.1 (pdK x)) (v.2.2 (pdK x))) (cwV 0 hts (lw_V q101 q102 q103 q9 q104) rfl rfl rfl (by decide +kernel) ⟨Nat.le_of_ble_eq_true rfl, Nat.le_of_ble_eq_true rfl⟩) (pdRd_pre hK (hG _ (pdK_lt x)).1.1) rfl rfl hl.1 rfl (lv_room (Nat.le_of_ble_eq_true rfl)) dX0_years_8 ⟨Nat.zero_le _, Nat.zero_le _⟩) ?_
  refine W.eq (g2 := F0 m 11 ls [.int (v.1 (pdK x))]) rfl ?_
  exact W.iret (v := (v.1 (pdK x))) hx hb hr (fun t ht hW => ⟨rfl, ht⟩) (fun q h => by cases h) dX0_years_11
set_option maxHeartbeats 4000000 in
set_option maxRecDepth 100000 in
theorem mX0_month (l : Launch) (D : va_G) (z : Nat) (cA : ClassId) (sz h0 ha : Nat) (g : Nat → Nat) (v : pdS) (x : Int32) : Met l yX0_month (ws_ yX0_month cX0_month 2 (some .int)) ({ frames := 1, cells := 0, slots := 0, locals := 40 }) (va_Pc [.ref h0, .int x] (pdDk D z cA sz h0 ha g v)) (k2_QcV (.int (v.2.1 (pdK x)))) 0 0 (fun _ => False) := by
  refine Met.ofW (cc := cX0_month) (maxL := 2) (ret := (some .int)) (by decide) rfl ?_
  intro p e s m args below meth c s₁ B hml hv
  obtain ⟨rfl, hsz, hK, ⟨hP, hG⟩, hne, hZ⟩ := hv
  have hx := B.exec
  have hb := B.bytes
  have hr := B.returns
  have hts := atoms_spec (ws := (ws_ yX0_month cX0_month 2 (some .int))) B.pre
  have hts : ∀ w ∈ lw_all, w.before _ s = true := fun w h => hts w (List.mem_cons_of_mem _ h)
  have hown : s.vm.findClass RX0 = some m.cls := findClass_of_methodNamed B.named
  have hlocks := B.notSynchronized
  subst hsz
  have hS : va_S (pdA h0 ha s.heap.size) s.heap s.heap [] := va_S.rf
  have hA : ∀ q : Nat, s.heap.size ≤ q → pdA h0 ha s.heap.size q := fun q h => Or.inr (Or.inr h)
  have hP : va_P D pdCl [(h0, .inr (0, [.ref ha])), (ha, .inl (cA, 2, .inr (.inr (.inr (.inr (fun j => some (g j)))))))] s.heap := hP
  have hl := lv_entry ([.ref h0, .int x]) (n := 2) (Nat.le_of_ble_eq_true rfl)
  rw [lg_entry_eq]
  generalize (lg_sl ([.ref h0, .int x]) ++ List.replicate (2 - (lg_sl ([.ref h0, .int x])).length) Slot.unset).toArray = ls at hl ⊢
  have hl : lv_has ls 2 [(0, .ref h0), (1, .int x)] := hl
  refine lv_aload_n hx hb dX0_month_0 rfl (lv_at hl 0 rfl) ?_
  refine va_get (D := D) (ci := 0) (v := .ref ha) (C := RX0) (T := TX0) (N := 1) hx hb hts in_X0 hown hK hP 0 rfl rfl 0 (by decide) (hts _ q81) (fun _ h9 => h9) rfl dX0_month_1 ?_
  refine lv_iload_n hx hb dX0_month_4 rfl (lv_at hl 1 rfl) ?_
  refine lv_iconst (v := 1) hx hb dX0_month_5 (by decide) ?_
  refine lv_iand hx hb dX0_month_6 ?_
  refine va_aldq hx hb hK hP 1 0 rfl rfl (pdK_in x) dX0_month_7 ?_
  refine W.eq (g2 := F0 m 8 ls [.ref (g (pdK x))]) rfl ?_
  refine pd_callV (W.runV (As := []) (rest := []) ⟨hx, hb, hml, hown, hts⟩ (mX2_getMonths l D (g (pdK x)) (v.1 (pdK x)) (v.2.1 (pdK x)) (v.2.2 (pdK x))) (cwV 0 hts (lw_V q107 q108 q109 q9 q110) rfl rfl rfl (by decide +kernel) ⟨Nat.le_of_ble_eq_true rfl, Nat.le_of_ble_eq_true rfl⟩) (pdRd_pre hK (hG _ (pdK_lt x)).1.1) rfl rfl hl.1 rfl (lv_room (Nat.le_of_ble_eq_true rfl)) dX0_month_8 ⟨Nat.zero_le _, Nat.zero_le _⟩) ?_
  refine W.eq (g2 := F0 m 11 ls [.int (v.2.1 (pdK x))]) rfl ?_
  exact W.iret (v := (v.2.1 (pdK x))) hx hb hr (fun t ht hW => ⟨rfl, ht⟩) (fun q h => by cases h) dX0_month_11
set_option maxHeartbeats 4000000 in
set_option maxRecDepth 100000 in
theorem mX0_day (l : Launch) (D : va_G) (z : Nat) (cA : ClassId) (sz h0 ha : Nat) (g : Nat → Nat) (v : pdS) (x : Int32) : Met l yX0_day (ws_ yX0_day cX0_day 2 (some .int)) ({ frames := 1, cells := 0, slots := 0, locals := 40 }) (va_Pc [.ref h0, .int x] (pdDk D z cA sz h0 ha g v)) (k2_QcV (.int (v.2.2 (pdK x)))) 0 0 (fun _ => False) := by
  refine Met.ofW (cc := cX0_day) (maxL := 2) (ret := (some .int)) (by decide) rfl ?_
  intro p e s m args below meth c s₁ B hml hv
  obtain ⟨rfl, hsz, hK, ⟨hP, hG⟩, hne, hZ⟩ := hv
  have hx := B.exec
  have hb := B.bytes
  have hr := B.returns
  have hts := atoms_spec (ws := (ws_ yX0_day cX0_day 2 (some .int))) B.pre
  have hts : ∀ w ∈ lw_all, w.before _ s = true := fun w h => hts w (List.mem_cons_of_mem _ h)
  have hown : s.vm.findClass RX0 = some m.cls := findClass_of_methodNamed B.named
  have hlocks := B.notSynchronized
  subst hsz
  have hS : va_S (pdA h0 ha s.heap.size) s.heap s.heap [] := va_S.rf
  have hA : ∀ q : Nat, s.heap.size ≤ q → pdA h0 ha s.heap.size q := fun q h => Or.inr (Or.inr h)
  have hP : va_P D pdCl [(h0, .inr (0, [.ref ha])), (ha, .inl (cA, 2, .inr (.inr (.inr (.inr (fun j => some (g j)))))))] s.heap := hP
  have hl := lv_entry ([.ref h0, .int x]) (n := 2) (Nat.le_of_ble_eq_true rfl)
  rw [lg_entry_eq]
  generalize (lg_sl ([.ref h0, .int x]) ++ List.replicate (2 - (lg_sl ([.ref h0, .int x])).length) Slot.unset).toArray = ls at hl ⊢
  have hl : lv_has ls 2 [(0, .ref h0), (1, .int x)] := hl
  refine lv_aload_n hx hb dX0_day_0 rfl (lv_at hl 0 rfl) ?_
  refine va_get (D := D) (ci := 0) (v := .ref ha) (C := RX0) (T := TX0) (N := 1) hx hb hts in_X0 hown hK hP 0 rfl rfl 0 (by decide) (hts _ q81) (fun _ h9 => h9) rfl dX0_day_1 ?_
  refine lv_iload_n hx hb dX0_day_4 rfl (lv_at hl 1 rfl) ?_
  refine lv_iconst (v := 1) hx hb dX0_day_5 (by decide) ?_
  refine lv_iand hx hb dX0_day_6 ?_
  refine va_aldq hx hb hK hP 1 0 rfl rfl (pdK_in x) dX0_day_7 ?_
  refine W.eq (g2 := F0 m 8 ls [.ref (g (pdK x))]) rfl ?_
  refine pd_callV (W.runV (As := []) (rest := []) ⟨hx, hb, hml, hown, hts⟩ (mX2_getDays l D (g (pdK x)) (v.1 (pdK x)) (v.2.1 (pdK x)) (v.2.2 (pdK x))) (cwV 0 hts (lw_V q111 q112 q113 q9 q114) rfl rfl rfl (by decide +kernel) ⟨Nat.le_of_ble_eq_true rfl, Nat.le_of_ble_eq_true rfl⟩) (pdRd_pre hK (hG _ (pdK_lt x)).1.1) rfl rfl hl.1 rfl (lv_room (Nat.le_of_ble_eq_true rfl)) dX0_day_8 ⟨Nat.zero_le _, Nat.zero_le _⟩) ?_
  refine W.eq (g2 := F0 m 11 ls [.int (v.2.2 (pdK x))]) rfl ?_
  exact W.iret (v := (v.2.2 (pdK x))) hx hb hr (fun t ht hW => ⟨rfl, ht⟩) (fun q h => by cases h) dX0_day_11
set_option maxHeartbeats 4000000 in
set_option maxRecDepth 100000 in
theorem mX0_all (l : Launch) (D : va_G) (z : Nat) (cA : ClassId) (sz h0 ha : Nat) (g : Nat → Nat) (v : pdS) (x : Int32) : Met l yX0_all (ws_ yX0_all cX0_all 2 (some .long)) ({ frames := 1, cells := 0, slots := 0, locals := 40 }) (va_Pc [.ref h0, .int x] (pdDk D z cA sz h0 ha g v)) (k2_QcV (.long (pf_all x v))) 0 0 (fun _ => False) := by
  refine Met.ofW (cc := cX0_all) (maxL := 2) (ret := (some .long)) (by decide) rfl ?_
  intro p e s m args below meth c s₁ B hml hv
  obtain ⟨rfl, hsz, hK, ⟨hP, hG⟩, hne, hZ⟩ := hv
  have hx := B.exec
  have hb := B.bytes
  have hr := B.returns
  have hts := atoms_spec (ws := (ws_ yX0_all cX0_all 2 (some .long))) B.pre
  have hts : ∀ w ∈ lw_all, w.before _ s = true := fun w h => hts w (List.mem_cons_of_mem _ h)
  have hown : s.vm.findClass RX0 = some m.cls := findClass_of_methodNamed B.named
  have hlocks := B.notSynchronized
  subst hsz
  have hS : va_S (pdA h0 ha s.heap.size) s.heap s.heap [] := va_S.rf
  have hA : ∀ q : Nat, s.heap.size ≤ q → pdA h0 ha s.heap.size q := fun q h => Or.inr (Or.inr h)
  have hP : va_P D pdCl [(h0, .inr (0, [.ref ha])), (ha, .inl (cA, 2, .inr (.inr (.inr (.inr (fun j => some (g j)))))))] s.heap := hP
  have hl := lv_entry ([.ref h0, .int x]) (n := 2) (Nat.le_of_ble_eq_true rfl)
  rw [lg_entry_eq]
  generalize (lg_sl ([.ref h0, .int x]) ++ List.replicate (2 - (lg_sl ([.ref h0, .int x])).length) Slot.unset).toArray = ls at hl ⊢
  have hl : lv_has ls 2 [(0, .ref h0), (1, .int x)] := hl
  refine lv_aload_n hx hb dX0_all_0 rfl (lv_at hl 0 rfl) ?_
  refine va_get (D := D) (ci := 0) (v := .ref ha) (C := RX0) (T := TX0) (N := 1) hx hb hts in_X0 hown hK hP 0 rfl rfl 0 (by decide) (hts _ q81) (fun _ h9 => h9) rfl dX0_all_1 ?_
  refine lv_iload_n hx hb dX0_all_4 rfl (lv_at hl 1 rfl) ?_
  refine lv_iconst (v := 1) hx hb dX0_all_5 (by decide) ?_
  refine lv_iand hx hb dX0_all_6 ?_
  refine va_aldq hx hb hK hP 1 0 rfl rfl (pdK_in x) dX0_all_7 ?_
  refine W.eq (g2 := F0 m 8 ls [.ref (g (pdK x))]) rfl ?_
  refine pd_callV (W.runV (As := []) (rest := []) ⟨hx, hb, hml, hown, hts⟩ (mX2_toTotalMonths l D (g (pdK x)) (v.1 (pdK x)) (v.2.1 (pdK x)) (v.2.2 (pdK x))) (cwV 0 hts (lw_V q741 q702 q703 q9 q704) rfl rfl rfl (by decide +kernel) ⟨Nat.le_of_ble_eq_true rfl, Nat.le_of_ble_eq_true rfl⟩) (pdRd_pre hK (hG _ (pdK_lt x)).1.1) rfl rfl hl.1 rfl (lv_room (Nat.le_of_ble_eq_true rfl)) dX0_all_8 ⟨Nat.zero_le _, Nat.zero_le _⟩) ?_
  refine W.eq (g2 := F0 m 11 ls [.long ((v.1 (pdK x)).toInt64 * 12 + (v.2.1 (pdK x)).toInt64)]) rfl ?_
  exact W.lret (v := ((v.1 (pdK x)).toInt64 * 12 + (v.2.1 (pdK x)).toInt64)) hx hb hr (fun t ht hW => ⟨by rw [pf_all_c], ht⟩) (fun q h => by cases h) dX0_all_11
set_option maxHeartbeats 4000000 in
set_option maxRecDepth 100000 in
theorem mX0_below (l : Launch) (D : va_G) (z : Nat) (cA : ClassId) (sz h0 ha : Nat) (g : Nat → Nat) (v : pdS) (x : Int32) : Met l yX0_below (ws_ yX0_below cX0_below 2 (some .boolean)) ({ frames := 1, cells := 0, slots := 0, locals := 40 }) (va_Pc [.ref h0, .int x] (pdDk D z cA sz h0 ha g v)) (k2_QcV (.int (pf_below x v))) 0 0 (fun _ => False) := by
  refine Met.ofW (cc := cX0_below) (maxL := 2) (ret := (some .boolean)) (by decide) rfl ?_
  intro p e s m args below meth c s₁ B hml hv
  obtain ⟨rfl, hsz, hK, ⟨hP, hG⟩, hne, hZ⟩ := hv
  have hx := B.exec
  have hb := B.bytes
  have hr := B.returns
  have hts := atoms_spec (ws := (ws_ yX0_below cX0_below 2 (some .boolean))) B.pre
  have hts : ∀ w ∈ lw_all, w.before _ s = true := fun w h => hts w (List.mem_cons_of_mem _ h)
  have hown : s.vm.findClass RX0 = some m.cls := findClass_of_methodNamed B.named
  have hlocks := B.notSynchronized
  subst hsz
  have hS : va_S (pdA h0 ha s.heap.size) s.heap s.heap [] := va_S.rf
  have hA : ∀ q : Nat, s.heap.size ≤ q → pdA h0 ha s.heap.size q := fun q h => Or.inr (Or.inr h)
  have hP : va_P D pdCl [(h0, .inr (0, [.ref ha])), (ha, .inl (cA, 2, .inr (.inr (.inr (.inr (fun j => some (g j)))))))] s.heap := hP
  have hl := lv_entry ([.ref h0, .int x]) (n := 2) (Nat.le_of_ble_eq_true rfl)
  rw [lg_entry_eq]
  generalize (lg_sl ([.ref h0, .int x]) ++ List.replicate (2 - (lg_sl ([.ref h0, .int x])).length) Slot.unset).toArray = ls at hl ⊢
  have hl : lv_has ls 2 [(0, .ref h0), (1, .int x)] := hl
  refine lv_aload_n hx hb dX0_below_0 rfl (lv_at hl 0 rfl) ?_
  refine va_get (D := D) (ci := 0) (v := .ref ha) (C := RX0) (T := TX0) (N := 1) hx hb hts in_X0 hown hK hP 0 rfl rfl 0 (by decide) (hts _ q81) (fun _ h9 => h9) rfl dX0_below_1 ?_
  refine lv_iload_n hx hb dX0_below_4 rfl (lv_at hl 1 rfl) ?_
  refine lv_iconst (v := 1) hx hb dX0_below_5 (by decide) ?_
  refine lv_iand hx hb dX0_below_6 ?_
  refine va_aldq hx hb hK hP 1 0 rfl rfl (pdK_in x) dX0_below_7 ?_
  refine W.eq (g2 := F0 m 8 ls [.ref (g (pdK x))]) rfl ?_
  refine pd_callV (W.runV (As := []) (rest := []) ⟨hx, hb, hml, hown, hts⟩ (mX2_isNegative l D (g (pdK x)) (v.1 (pdK x)) (v.2.1 (pdK x)) (v.2.2 (pdK x))) (cwV 0 hts (lw_V q746 q747 q748 q9 q749) rfl rfl rfl (by decide +kernel) ⟨Nat.le_of_ble_eq_true rfl, Nat.le_of_ble_eq_true rfl⟩) (pdRd_pre hK (hG _ (pdK_lt x)).1.1) rfl rfl hl.1 rfl (lv_room (Nat.le_of_ble_eq_true rfl)) dX0_below_8 ⟨Nat.zero_le _, Nat.zero_le _⟩) ?_
  refine W.eq (g2 := F0 m 11 ls [.int (pf_neg (v.1 (pdK x)) (v.2.1 (pdK x)) (v.2.2 (pdK x)))]) rfl ?_
  exact W.zret (v := (pf_neg (v.1 (pdK x)) (v.2.1 (pdK x)) (v.2.2 (pdK x)))) hx hb hr (pf_neg_nar _ _ _) (fun t ht hW => ⟨rfl, ht⟩) (fun q h => by cases h) dX0_below_11
set_option maxHeartbeats 4000000 in
set_option maxRecDepth 100000 in
theorem mX0_nought (l : Launch) (D : va_G) (z : Nat) (cA : ClassId) (sz h0 ha : Nat) (g : Nat → Nat) (v : pdS) (x : Int32) : Met l yX0_nought (ws_ yX0_nought cX0_nought 2 (some .boolean)) ({ frames := 1, cells := 0, slots := 0, locals := 40 }) (va_Pc [.ref h0, .int x] (pdDk D z cA sz h0 ha g v)) (k2_QcV (.int (pf_nought x v))) 0 0 (fun _ => False) := by
  refine Met.ofW (cc := cX0_nought) (maxL := 2) (ret := (some .boolean)) (by decide) rfl ?_
  intro p e s m args below meth c s₁ B hml hv
  obtain ⟨rfl, hsz, hK, ⟨hP, hG⟩, hne, hZ⟩ := hv
  have hx := B.exec
  have hb := B.bytes
  have hr := B.returns
  have hts := atoms_spec (ws := (ws_ yX0_nought cX0_nought 2 (some .boolean))) B.pre
  have hts : ∀ w ∈ lw_all, w.before _ s = true := fun w h => hts w (List.mem_cons_of_mem _ h)
  have hown : s.vm.findClass RX0 = some m.cls := findClass_of_methodNamed B.named
  have hlocks := B.notSynchronized
  subst hsz
  have hS : va_S (pdA h0 ha s.heap.size) s.heap s.heap [] := va_S.rf
  have hA : ∀ q : Nat, s.heap.size ≤ q → pdA h0 ha s.heap.size q := fun q h => Or.inr (Or.inr h)
  have hP : va_P D pdCl [(h0, .inr (0, [.ref ha])), (ha, .inl (cA, 2, .inr (.inr (.inr (.inr (fun j => some (g j)))))))] s.heap := hP
  have hl := lv_entry ([.ref h0, .int x]) (n := 2) (Nat.le_of_ble_eq_true rfl)
  rw [lg_entry_eq]
  generalize (lg_sl ([.ref h0, .int x]) ++ List.replicate (2 - (lg_sl ([.ref h0, .int x])).length) Slot.unset).toArray = ls at hl ⊢
  have hl : lv_has ls 2 [(0, .ref h0), (1, .int x)] := hl
  refine lv_aload_n hx hb dX0_nought_0 rfl (lv_at hl 0 rfl) ?_
  refine va_get (D := D) (ci := 0) (v := .ref ha) (C := RX0) (T := TX0) (N := 1) hx hb hts in_X0 hown hK hP 0 rfl rfl 0 (by decide) (hts _ q81) (fun _ h9 => h9) rfl dX0_nought_1 ?_
  refine lv_iload_n hx hb dX0_nought_4 rfl (lv_at hl 1 rfl) ?_
  refine lv_iconst (v := 1) hx hb dX0_nought_5 (by decide) ?_
  refine lv_iand hx hb dX0_nought_6 ?_
  refine va_aldq hx hb hK hP 1 0 rfl rfl (pdK_in x) dX0_nought_7 ?_
  refine W.eq (g2 := F0 m 8 ls [.ref (g (pdK x))]) rfl ?_
  refine pd_callV (W.runV (As := []) (rest := []) ⟨hx, hb, hml, hown, hts⟩ (mX2_isZero l D z s.heap.size (g (pdK x)) (v.1 (pdK x)) (v.2.1 (pdK x)) (v.2.2 (pdK x))) (cwV 0 hts (lw_V q754 q755 q756 q9 q757) rfl rfl rfl (by decide +kernel) ⟨Nat.le_of_ble_eq_true rfl, Nat.le_of_ble_eq_true rfl⟩) (pdMk_pre hK (hG _ (pdK_lt x)).1 hZ hS hA) rfl rfl hl.1 rfl (lv_room (Nat.le_of_ble_eq_true rfl)) dX0_nought_8 ⟨Nat.zero_le _, Nat.zero_le _⟩) ?_
  refine W.eq (g2 := F0 m 11 ls [.int (pf_zero (v.1 (pdK x)) (v.2.1 (pdK x)) (v.2.2 (pdK x)))]) rfl ?_
  exact W.zret (v := (pf_zero (v.1 (pdK x)) (v.2.1 (pdK x)) (v.2.2 (pdK x)))) hx hb hr (pf_zero_nar _ _ _) (fun t ht hW => ⟨rfl, ht⟩) (fun q h => by cases h) dX0_nought_11
theorem pf_plus_st {v : pdS} (x : Int32) (h : (pdOk v 0 && pdOk v 1) = true) : ((pf_adds 1 x v).2.1 (pdK x) = (v.1 (pdK x)) + (v.1 (1 - pdK x)) ∧ (pf_adds 1 x v).2.2.1 (pdK x) = (v.2.1 (pdK x)) + (v.2.1 (1 - pdK x)) ∧ (pf_adds 1 x v).2.2.2 (pdK x) = (v.2.2 (pdK x)) + (v.2.2 (1 - pdK x))) ∧ ∀ j, j ≠ pdK x → (pf_adds 1 x v).2.1 j = v.1 j ∧ (pf_adds 1 x v).2.2.1 j = v.2.1 j ∧ (pf_adds 1 x v).2.2.2 j = v.2.2 j := by
  unfold pf_adds
  rw [if_pos h]
  exact ⟨⟨(by show upd _ _ _ _ = _; rw [pk_us, pd_one]), (by show upd _ _ _ _ = _; rw [pk_us, pd_one]), (by show upd _ _ _ _ = _; rw [pk_us, pd_one])⟩, fun j hj => ⟨pk_un hj, pk_un hj, pk_un hj⟩⟩
theorem pf_minus_st {v : pdS} (x : Int32) (h : (pdOk v 0 && pdOk v 1) = true) : ((pf_adds (-1) x v).2.1 (pdK x) = (v.1 (pdK x)) - (v.1 (1 - pdK x)) ∧ (pf_adds (-1) x v).2.2.1 (pdK x) = (v.2.1 (pdK x)) - (v.2.1 (1 - pdK x)) ∧ (pf_adds (-1) x v).2.2.2 (pdK x) = (v.2.2 (pdK x)) - (v.2.2 (1 - pdK x))) ∧ ∀ j, j ≠ pdK x → (pf_adds (-1) x v).2.1 j = v.1 j ∧ (pf_adds (-1) x v).2.2.1 j = v.2.1 j ∧ (pf_adds (-1) x v).2.2.2 j = v.2.2 j := by
  unfold pf_adds
  rw [if_pos h]
  exact ⟨⟨(by show upd _ _ _ _ = _; rw [pk_us, pd_m1]), (by show upd _ _ _ _ = _; rw [pk_us, pd_m1]), (by show upd _ _ _ _ = _; rw [pk_us, pd_m1])⟩, fun j hj => ⟨pk_un hj, pk_un hj, pk_un hj⟩⟩
theorem pf_takes_st {v : pdS} (x t : Int32) (h : pdOk v (pdK x) = true) : ((pf_takes x t v).2.1 (pdK x) = (v.1 (pdK x)) * t ∧ (pf_takes x t v).2.2.1 (pdK x) = (v.2.1 (pdK x)) * t ∧ (pf_takes x t v).2.2.2 (pdK x) = (v.2.2 (pdK x)) * t) ∧ ∀ j, j ≠ pdK x → (pf_takes x t v).2.1 j = v.1 j ∧ (pf_takes x t v).2.2.1 j = v.2.1 j ∧ (pf_takes x t v).2.2.2 j = v.2.2 j := by
  unfold pf_takes
  rw [if_pos h]
  exact ⟨⟨pk_us, pk_us, pk_us⟩, fun j hj => ⟨pk_un hj, pk_un hj, pk_un hj⟩⟩
theorem pf_normal_st {v : pdS} (x : Int32) (h : pdOk v (pdK x) = true) : ((pf_normal x v).2.1 (pdK x) = (((v.1 (pdK x)).toInt64 * 12 + (v.2.1 (pdK x)).toInt64) / 12).toInt32 ∧ (pf_normal x v).2.2.1 (pdK x) = (((v.1 (pdK x)).toInt64 * 12 + (v.2.1 (pdK x)).toInt64) - ((v.1 (pdK x)).toInt64 * 12 + (v.2.1 (pdK x)).toInt64) / 12 * 12).toInt32 ∧ (pf_normal x v).2.2.2 (pdK x) = (v.2.2 (pdK x))) ∧ ∀ j, j ≠ pdK x → (pf_normal x v).2.1 j = v.1 j ∧ (pf_normal x v).2.2.1 j = v.2.1 j ∧ (pf_normal x v).2.2.2 j = v.2.2 j := by
  unfold pf_normal
  rw [if_pos h, pf_all_c]
  exact ⟨⟨pk_us, pk_us, rfl⟩, fun j hj => ⟨pk_un hj, pk_un hj, rfl⟩⟩
theorem pf_days_st {v : pdS} (x n : Int32) (h : pdOk v (pdK x) = true) : ((pf_days x n v).2.1 (pdK x) = (v.1 (pdK x)) ∧ (pf_days x n v).2.2.1 (pdK x) = (v.2.1 (pdK x)) ∧ (pf_days x n v).2.2.2 (pdK x) = (v.2.2 (pdK x)) + pf_small n) ∧ ∀ j, j ≠ pdK x → (pf_days x n v).2.1 j = v.1 j ∧ (pf_days x n v).2.2.1 j = v.2.1 j ∧ (pf_days x n v).2.2.2 j = v.2.2 j := by
  unfold pf_days
  rw [if_pos h]
  exact ⟨⟨rfl, rfl, pk_us⟩, fun j hj => ⟨rfl, rfl, pk_un hj⟩⟩
theorem pf_months_st {v : pdS} (x n : Int32) (h : pdOk v (pdK x) = true) : ((pf_months x n v).2.1 (pdK x) = (v.1 (pdK x)) ∧ (pf_months x n v).2.2.1 (pdK x) = (v.2.1 (pdK x)) + pf_small n ∧ (pf_months x n v).2.2.2 (pdK x) = (v.2.2 (pdK x))) ∧ ∀ j, j ≠ pdK x → (pf_months x n v).2.1 j = v.1 j ∧ (pf_months x n v).2.2.1 j = v.2.1 j ∧ (pf_months x n v).2.2.2 j = v.2.2 j := by
  unfold pf_months
  rw [if_pos h]
  exact ⟨⟨rfl, pk_us, rfl⟩, fun j hj => ⟨rfl, pk_un hj, rfl⟩⟩
set_option maxHeartbeats 4000000 in
set_option maxRecDepth 100000 in
theorem mX0_plus (l : Launch) (D : va_G) (z : Nat) (cA : ClassId) (sz h0 ha : Nat) (g : Nat → Nat) (v : pdS) (x : Int32) : Met l yX0_plus (ws_ yX0_plus cX0_plus 2 (some .boolean)) ({ frames := 7, cells := 1, slots := 3, locals := 280 }) (va_Pc [.ref h0, .int x] (pdDk D z cA sz h0 ha g v)) (pdG (some (.int (pf_adds 1 x v).1)) (fun H => ∃ g', pdW D z cA h0 ha g' (pf_adds 1 x v).2 H ∧ ∀ j, j < 2 → (g' j = g j ∨ g' j = z ∨ sz ≤ g' j)) (pdA h0 ha sz)) 1 3 (pdA h0 ha sz) := by
  refine Met.ofW (cc := cX0_plus) (maxL := 2) (ret := (some .boolean)) (by decide) rfl ?_
  intro p e s m args below meth c s₁ B hml hv
  obtain ⟨rfl, hsz, hK, ⟨hP, hG⟩, hne, hZ⟩ := hv
  have hx := B.exec
  have hb := B.bytes
  have hr := B.returns
  have hts := atoms_spec (ws := (ws_ yX0_plus cX0_plus 2 (some .boolean))) B.pre
  have hts : ∀ w ∈ lw_all, w.before _ s = true := fun w h => hts w (List.mem_cons_of_mem _ h)
  have hown : s.vm.findClass RX0 = some m.cls := findClass_of_methodNamed B.named
  have hlocks := B.notSynchronized
  subst hsz
  have hS : va_S (pdA h0 ha s.heap.size) s.heap s.heap [] := va_S.rf
  have hA : ∀ q : Nat, s.heap.size ≤ q → pdA h0 ha s.heap.size q := fun q h => Or.inr (Or.inr h)
  have hP : va_P D pdCl [(h0, .inr (0, [.ref ha])), (ha, .inl (cA, 2, .inr (.inr (.inr (.inr (fun j => some (g j)))))))] s.heap := hP
  have hl0 : h0 < s.heap.size := (hP 0 _ rfl).lt
  have hla : ha < s.heap.size := (hP 1 _ rfl).lt
  have hD : va_D (pdA h0 ha s.heap.size) [(h0, .inr (0, [.ref ha])), (ha, .inl (cA, 2, .inr (.inr (.inr (.inr (fun j => some (g j)))))))] := pd_D2 hne (Or.inl rfl) (Or.inr (Or.inl rfl))
  have hl := lv_entry ([.ref h0, .int x]) (n := 2) (Nat.le_of_ble_eq_true rfl)
  rw [lg_entry_eq]
  generalize (lg_sl ([.ref h0, .int x]) ++ List.replicate (2 - (lg_sl ([.ref h0, .int x])).length) Slot.unset).toArray = ls at hl ⊢
  have hl : lv_has ls 2 [(0, .ref h0), (1, .int x)] := hl
  refine lv_aload_n hx hb dX0_plus_0 rfl (lv_at hl 0 rfl) ?_
  refine lv_iconst (v := 0) hx hb dX0_plus_1 (by decide) ?_
  refine pd_callV (W.runV (As := [.int 0]) (rest := []) ⟨hx, hb, hml, hown, hts⟩ (mX0_room l D z cA s.heap.size h0 ha g v 0) (cwV 1 hts (lw_V q97 q99 qs0 q7 q100) rfl rfl rfl (by decide +kernel) ⟨Nat.le_of_ble_eq_true rfl, Nat.le_of_ble_eq_true rfl⟩) (pdDk_pre 0 rfl hK ⟨hP, hG⟩ hne hZ hS (fun q h => h)) rfl rfl hl.1 rfl (lv_room (Nat.le_of_ble_eq_true rfl)) dX0_plus_2 ⟨Nat.zero_le _, Nat.zero_le _⟩) ?_
  refine W.eq (g2 := F0 m 5 ls [.int (pf_bit (pdOk v 0))]) (by rw [pdK_0]) ?_
  refine lv_if_eq (tgt := 16) hx hb dX0_plus_5 (by decide) (fun c_5 => ?_) (fun c_5 => ?_)
  · refine lv_iconst (v := 0) hx hb dX0_plus_16 (by decide) ?_
    have e : pf_adds 1 x v = (0, v) := by unfold pf_adds; exact if_neg (fun h => by rw [pf_bit_0 c_5] at h; cases h)
    refine W.widen (k := 1) (n := 3) (Nat.zero_le _) (Nat.zero_le _) ?_
    exact W.zret (v := 0) hx hb hr rfl (fun t ht hW => ⟨by rw [e], by rw [ht, e]; exact ⟨g, ⟨hP, hG⟩, fun j _ => Or.inl rfl⟩, hS.F ht⟩) hS.2.2 dX0_plus_17
  · refine lv_aload_n hx hb dX0_plus_8 rfl (lv_at hl 0 rfl) ?_
    refine lv_iconst (v := 1) hx hb dX0_plus_9 (by decide) ?_
    refine pd_callV (W.runV (As := [.int 1]) (rest := []) ⟨hx, hb, hml, hown, hts⟩ (mX0_room l D z cA s.heap.size h0 ha g v 1) (cwV 1 hts (lw_V q97 q99 qs0 q7 q100) rfl rfl rfl (by decide +kernel) ⟨Nat.le_of_ble_eq_true rfl, Nat.le_of_ble_eq_true rfl⟩) (pdDk_pre 0 rfl hK ⟨hP, hG⟩ hne hZ hS (fun q h => h)) rfl rfl hl.1 rfl (lv_room (Nat.le_of_ble_eq_true rfl)) dX0_plus_10 ⟨Nat.zero_le _, Nat.zero_le _⟩) ?_
    refine W.eq (g2 := F0 m 13 ls [.int (pf_bit (pdOk v 1))]) (by rw [pdK_1]) ?_
    refine lv_if_ne (tgt := 18) hx hb dX0_plus_13 (by decide) (fun c_13 => ?_) (fun c_13 => ?_)
    · have hok : ∀ j, j < 2 → pdRm (v.1 j) (v.2.1 j) (v.2.2 j) = true := fun j hj => by
        rcases (show j = 0 ∨ j = 1 by omega) with rfl | rfl
        · exact pf_bit_1 c_5
        · exact pf_bit_1 c_13
      have hok2 : (pdOk v 0 && pdOk v 1) = true := by rw [pf_bit_1 c_5, pf_bit_1 c_13]; rfl
      refine lv_aload_n hx hb dX0_plus_18 rfl (lv_at hl 0 rfl) ?_
      refine va_get (D := D) (ci := 0) (v := .ref ha) (C := RX0) (T := TX0) (N := 1) hx hb hts in_X0 hown hK hP 0 rfl rfl 0 (by decide) (hts _ q81) (fun _ h9 => h9) rfl dX0_plus_19 ?_
      refine lv_iload_n hx hb dX0_plus_22 rfl (lv_at hl 1 rfl) ?_
      refine lv_iconst (v := 1) hx hb dX0_plus_23 (by decide) ?_
      refine lv_iand hx hb dX0_plus_24 ?_
      refine lv_aload_n hx hb dX0_plus_25 rfl (lv_at hl 0 rfl) ?_
      refine va_get (D := D) (ci := 0) (v := .ref ha) (C := RX0) (T := TX0) (N := 1) hx hb hts in_X0 hown hK hP 0 rfl rfl 0 (by decide) (hts _ q81) (fun _ h9 => h9) rfl dX0_plus_26 ?_
      refine lv_iload_n hx hb dX0_plus_29 rfl (lv_at hl 1 rfl) ?_
      refine lv_iconst (v := 1) hx hb dX0_plus_30 (by decide) ?_
      refine lv_iand hx hb dX0_plus_31 ?_
      refine va_aldq hx hb hK hP 1 0 rfl rfl (pdK_in x) dX0_plus_32 ?_
      refine W.eq (g2 := F0 m 33 ls [.ref (g (pdK x)), .int (x &&& 1), .ref ha]) rfl ?_
      refine lv_aload_n hx hb dX0_plus_33 rfl (lv_at hl 0 rfl) ?_
      refine va_get (D := D) (ci := 0) (v := .ref ha) (C := RX0) (T := TX0) (N := 1) hx hb hts in_X0 hown hK hP 0 rfl rfl 0 (by decide) (hts _ q81) (fun _ h9 => h9) rfl dX0_plus_34 ?_
      refine lv_iload_n hx hb dX0_plus_37 rfl (lv_at hl 1 rfl) ?_
      refine lv_iconst (v := (-1)) hx hb dX0_plus_38 (by decide) ?_
      refine lv_ixor hx hb dX0_plus_39 ?_
      refine lv_iconst (v := 1) hx hb dX0_plus_40 (by decide) ?_
      refine lv_iand hx hb dX0_plus_41 ?_
      refine W.eq (g2 := F0 m 42 ls [.int (1 - (x &&& 1)), .ref ha, .ref (g (pdK x)), .int (x &&& 1), .ref ha]) (by rw [pdK_not]) ?_
      refine va_aldq hx hb hK hP 1 0 rfl rfl (pdK_oin x) dX0_plus_42 ?_
      refine W.eq (g2 := F0 m 43 ls [.ref (g (1 - pdK x)), .ref (g (pdK x)), .int (x &&& 1), .ref ha]) (by rw [pdK_on]; rfl) ?_
      refine pd_callR (W.runV (As := [.ref (g (1 - pdK x))]) (rest := [.int (x &&& 1), .ref ha]) ⟨hx, hb, hml, hown, hts⟩ (mX2_plus l D z s.heap.size (g (pdK x)) (v.1 (pdK x)) (v.2.1 (pdK x)) (v.2.2 (pdK x)) (g (1 - pdK x)) (v.1 (1 - pdK x)) (v.2.1 (1 - pdK x)) (v.2.2 (1 - pdK x)) (hok _ (pdK_lt x)) (hok _ (pdK_olt x))) (cwV 1 hts (lw_V q115 q116 q117 q9 q118) rfl rfl rfl (by decide +kernel) ⟨Nat.le_of_ble_eq_true rfl, Nat.le_of_ble_eq_true rfl⟩) (pdM2_pre hK (hG _ (pdK_lt x)).1.1 (hG _ (pdK_olt x)).1.1 hZ hS hA) rfl rfl hl.1 rfl (lv_room (Nat.le_of_ble_eq_true rfl)) dX0_plus_43 ⟨Nat.le_of_ble_eq_true rfl, Nat.le_of_ble_eq_true rfl⟩) hS (fun q h => hA q h) (fun ra H locs hB hz1 hk1 hS => ?_)
      have hP := pd_keptN hP hk1
      have hG1 := pdPs_keptN hG hk1
      refine pd_ast (r := (RX2, TX2, 3)) hx hb hK hP hD hS 1 0 1 rfl rfl (hB.1.1 0 _ rfl) rfl (pdK_in x) dX0_plus_46 (fun H1 locs hP hD hS hz2 hk2 => ?_)
      have hP : va_P D pdCl [(h0, .inr (0, [.ref ha])), (ha, .inl (cA, 2, .inr (.inr (.inr (.inr (va_up (fun j => some (g j)) (pdK x) (some ra)))))))] H1 := hP
      refine lv_iconst (v := 1) hx hb dX0_plus_47 (by decide) ?_
      have e : pf_adds 1 x v = (1, (pf_adds 1 x v).2) := by unfold pf_adds; rw [if_pos hok2]
      have hv := pf_plus_st (v := v) x hok2
      exact W.zret (v := 1) hx hb hr rfl (fun t ht hW => ⟨by rw [e], by rw [ht]; exact pd_fin hP hG1 hk2 hB.1 hB.2 (pdK_lt x) hZ.2.2 hl0 hla hv, hS.F ht⟩) hS.2.2 dX0_plus_48
    · refine lv_iconst (v := 0) hx hb dX0_plus_16 (by decide) ?_
      have e : pf_adds 1 x v = (0, v) := by unfold pf_adds; exact if_neg (fun h => by rw [pf_bit_0 c_13, Bool.and_false] at h; cases h)
      refine W.widen (k := 1) (n := 3) (Nat.zero_le _) (Nat.zero_le _) ?_
      exact W.zret (v := 0) hx hb hr rfl (fun t ht hW => ⟨by rw [e], by rw [ht, e]; exact ⟨g, ⟨hP, hG⟩, fun j _ => Or.inl rfl⟩, hS.F ht⟩) hS.2.2 dX0_plus_17
set_option maxHeartbeats 4000000 in
set_option maxRecDepth 100000 in
theorem mX0_minus (l : Launch) (D : va_G) (z : Nat) (cA : ClassId) (sz h0 ha : Nat) (g : Nat → Nat) (v : pdS) (x : Int32) : Met l yX0_minus (ws_ yX0_minus cX0_minus 2 (some .boolean)) ({ frames := 7, cells := 1, slots := 3, locals := 280 }) (va_Pc [.ref h0, .int x] (pdDk D z cA sz h0 ha g v)) (pdG (some (.int (pf_adds (-1) x v).1)) (fun H => ∃ g', pdW D z cA h0 ha g' (pf_adds (-1) x v).2 H ∧ ∀ j, j < 2 → (g' j = g j ∨ g' j = z ∨ sz ≤ g' j)) (pdA h0 ha sz)) 1 3 (pdA h0 ha sz) := by
  refine Met.ofW (cc := cX0_minus) (maxL := 2) (ret := (some .boolean)) (by decide) rfl ?_
  intro p e s m args below meth c s₁ B hml hv
  obtain ⟨rfl, hsz, hK, ⟨hP, hG⟩, hne, hZ⟩ := hv
  have hx := B.exec
  have hb := B.bytes
  have hr := B.returns
  have hts := atoms_spec (ws := (ws_ yX0_minus cX0_minus 2 (some .boolean))) B.pre
  have hts : ∀ w ∈ lw_all, w.before _ s = true := fun w h => hts w (List.mem_cons_of_mem _ h)
  have hown : s.vm.findClass RX0 = some m.cls := findClass_of_methodNamed B.named
  have hlocks := B.notSynchronized
  subst hsz
  have hS : va_S (pdA h0 ha s.heap.size) s.heap s.heap [] := va_S.rf
  have hA : ∀ q : Nat, s.heap.size ≤ q → pdA h0 ha s.heap.size q := fun q h => Or.inr (Or.inr h)
  have hP : va_P D pdCl [(h0, .inr (0, [.ref ha])), (ha, .inl (cA, 2, .inr (.inr (.inr (.inr (fun j => some (g j)))))))] s.heap := hP
  have hl0 : h0 < s.heap.size := (hP 0 _ rfl).lt
  have hla : ha < s.heap.size := (hP 1 _ rfl).lt
  have hD : va_D (pdA h0 ha s.heap.size) [(h0, .inr (0, [.ref ha])), (ha, .inl (cA, 2, .inr (.inr (.inr (.inr (fun j => some (g j)))))))] := pd_D2 hne (Or.inl rfl) (Or.inr (Or.inl rfl))
  have hl := lv_entry ([.ref h0, .int x]) (n := 2) (Nat.le_of_ble_eq_true rfl)
  rw [lg_entry_eq]
  generalize (lg_sl ([.ref h0, .int x]) ++ List.replicate (2 - (lg_sl ([.ref h0, .int x])).length) Slot.unset).toArray = ls at hl ⊢
  have hl : lv_has ls 2 [(0, .ref h0), (1, .int x)] := hl
  refine lv_aload_n hx hb dX0_minus_0 rfl (lv_at hl 0 rfl) ?_
  refine lv_iconst (v := 0) hx hb dX0_minus_1 (by decide) ?_
  refine pd_callV (W.runV (As := [.int 0]) (rest := []) ⟨hx, hb, hml, hown, hts⟩ (mX0_room l D z cA s.heap.size h0 ha g v 0) (cwV 1 hts (lw_V q97 q99 qs0 q7 q100) rfl rfl rfl (by decide +kernel) ⟨Nat.le_of_ble_eq_true rfl, Nat.le_of_ble_eq_true rfl⟩) (pdDk_pre 0 rfl hK ⟨hP, hG⟩ hne hZ hS (fun q h => h)) rfl rfl hl.1 rfl (lv_room (Nat.le_of_ble_eq_true rfl)) dX0_minus_2 ⟨Nat.zero_le _, Nat.zero_le _⟩) ?_
  refine W.eq (g2 := F0 m 5 ls [.int (pf_bit (pdOk v 0))]) (by rw [pdK_0]) ?_
  refine lv_if_eq (tgt := 16) hx hb dX0_minus_5 (by decide) (fun c_5 => ?_) (fun c_5 => ?_)
  · refine lv_iconst (v := 0) hx hb dX0_minus_16 (by decide) ?_
    have e : pf_adds (-1) x v = (0, v) := by unfold pf_adds; exact if_neg (fun h => by rw [pf_bit_0 c_5] at h; cases h)
    refine W.widen (k := 1) (n := 3) (Nat.zero_le _) (Nat.zero_le _) ?_
    exact W.zret (v := 0) hx hb hr rfl (fun t ht hW => ⟨by rw [e], by rw [ht, e]; exact ⟨g, ⟨hP, hG⟩, fun j _ => Or.inl rfl⟩, hS.F ht⟩) hS.2.2 dX0_minus_17
  · refine lv_aload_n hx hb dX0_minus_8 rfl (lv_at hl 0 rfl) ?_
    refine lv_iconst (v := 1) hx hb dX0_minus_9 (by decide) ?_
    refine pd_callV (W.runV (As := [.int 1]) (rest := []) ⟨hx, hb, hml, hown, hts⟩ (mX0_room l D z cA s.heap.size h0 ha g v 1) (cwV 1 hts (lw_V q97 q99 qs0 q7 q100) rfl rfl rfl (by decide +kernel) ⟨Nat.le_of_ble_eq_true rfl, Nat.le_of_ble_eq_true rfl⟩) (pdDk_pre 0 rfl hK ⟨hP, hG⟩ hne hZ hS (fun q h => h)) rfl rfl hl.1 rfl (lv_room (Nat.le_of_ble_eq_true rfl)) dX0_minus_10 ⟨Nat.zero_le _, Nat.zero_le _⟩) ?_
    refine W.eq (g2 := F0 m 13 ls [.int (pf_bit (pdOk v 1))]) (by rw [pdK_1]) ?_
    refine lv_if_ne (tgt := 18) hx hb dX0_minus_13 (by decide) (fun c_13 => ?_) (fun c_13 => ?_)
    · have hok : ∀ j, j < 2 → pdRm (v.1 j) (v.2.1 j) (v.2.2 j) = true := fun j hj => by
        rcases (show j = 0 ∨ j = 1 by omega) with rfl | rfl
        · exact pf_bit_1 c_5
        · exact pf_bit_1 c_13
      have hok2 : (pdOk v 0 && pdOk v 1) = true := by rw [pf_bit_1 c_5, pf_bit_1 c_13]; rfl
      refine lv_aload_n hx hb dX0_minus_18 rfl (lv_at hl 0 rfl) ?_
      refine va_get (D := D) (ci := 0) (v := .ref ha) (C := RX0) (T := TX0) (N := 1) hx hb hts in_X0 hown hK hP 0 rfl rfl 0 (by decide) (hts _ q81) (fun _ h9 => h9) rfl dX0_minus_19 ?_
      refine lv_iload_n hx hb dX0_minus_22 rfl (lv_at hl 1 rfl) ?_
      refine lv_iconst (v := 1) hx hb dX0_minus_23 (by decide) ?_
      refine lv_iand hx hb dX0_minus_24 ?_
      refine lv_aload_n hx hb dX0_minus_25 rfl (lv_at hl 0 rfl) ?_
      refine va_get (D := D) (ci := 0) (v := .ref ha) (C := RX0) (T := TX0) (N := 1) hx hb hts in_X0 hown hK hP 0 rfl rfl 0 (by decide) (hts _ q81) (fun _ h9 => h9) rfl dX0_minus_26 ?_
      refine lv_iload_n hx hb dX0_minus_29 rfl (lv_at hl 1 rfl) ?_
      refine lv_iconst (v := 1) hx hb dX0_minus_30 (by decide) ?_
      refine lv_iand hx hb dX0_minus_31 ?_
      refine va_aldq hx hb hK hP 1 0 rfl rfl (pdK_in x) dX0_minus_32 ?_
      refine W.eq (g2 := F0 m 33 ls [.ref (g (pdK x)), .int (x &&& 1), .ref ha]) rfl ?_
      refine lv_aload_n hx hb dX0_minus_33 rfl (lv_at hl 0 rfl) ?_
      refine va_get (D := D) (ci := 0) (v := .ref ha) (C := RX0) (T := TX0) (N := 1) hx hb hts in_X0 hown hK hP 0 rfl rfl 0 (by decide) (hts _ q81) (fun _ h9 => h9) rfl dX0_minus_34 ?_
      refine lv_iload_n hx hb dX0_minus_37 rfl (lv_at hl 1 rfl) ?_
      refine lv_iconst (v := (-1)) hx hb dX0_minus_38 (by decide) ?_
      refine lv_ixor hx hb dX0_minus_39 ?_
      refine lv_iconst (v := 1) hx hb dX0_minus_40 (by decide) ?_
      refine lv_iand hx hb dX0_minus_41 ?_
      refine W.eq (g2 := F0 m 42 ls [.int (1 - (x &&& 1)), .ref ha, .ref (g (pdK x)), .int (x &&& 1), .ref ha]) (by rw [pdK_not]) ?_
      refine va_aldq hx hb hK hP 1 0 rfl rfl (pdK_oin x) dX0_minus_42 ?_
      refine W.eq (g2 := F0 m 43 ls [.ref (g (1 - pdK x)), .ref (g (pdK x)), .int (x &&& 1), .ref ha]) (by rw [pdK_on]; rfl) ?_
      refine pd_callR (W.runV (As := [.ref (g (1 - pdK x))]) (rest := [.int (x &&& 1), .ref ha]) ⟨hx, hb, hml, hown, hts⟩ (mX2_minus l D z s.heap.size (g (pdK x)) (v.1 (pdK x)) (v.2.1 (pdK x)) (v.2.2 (pdK x)) (g (1 - pdK x)) (v.1 (1 - pdK x)) (v.2.1 (1 - pdK x)) (v.2.2 (1 - pdK x)) (hok _ (pdK_lt x)) (hok _ (pdK_olt x))) (cwV 1 hts (lw_V q666 q667 q668 q9 q669) rfl rfl rfl (by decide +kernel) ⟨Nat.le_of_ble_eq_true rfl, Nat.le_of_ble_eq_true rfl⟩) (pdM2_pre hK (hG _ (pdK_lt x)).1.1 (hG _ (pdK_olt x)).1.1 hZ hS hA) rfl rfl hl.1 rfl (lv_room (Nat.le_of_ble_eq_true rfl)) dX0_minus_43 ⟨Nat.le_of_ble_eq_true rfl, Nat.le_of_ble_eq_true rfl⟩) hS (fun q h => hA q h) (fun ra H locs hB hz1 hk1 hS => ?_)
      have hP := pd_keptN hP hk1
      have hG1 := pdPs_keptN hG hk1
      refine pd_ast (r := (RX2, TX2, 3)) hx hb hK hP hD hS 1 0 1 rfl rfl (hB.1.1 0 _ rfl) rfl (pdK_in x) dX0_minus_46 (fun H1 locs hP hD hS hz2 hk2 => ?_)
      have hP : va_P D pdCl [(h0, .inr (0, [.ref ha])), (ha, .inl (cA, 2, .inr (.inr (.inr (.inr (va_up (fun j => some (g j)) (pdK x) (some ra)))))))] H1 := hP
      refine lv_iconst (v := 1) hx hb dX0_minus_47 (by decide) ?_
      have e : pf_adds (-1) x v = (1, (pf_adds (-1) x v).2) := by unfold pf_adds; rw [if_pos hok2]
      have hv := pf_minus_st (v := v) x hok2
      exact W.zret (v := 1) hx hb hr rfl (fun t ht hW => ⟨by rw [e], by rw [ht]; exact pd_fin hP hG1 hk2 hB.1 hB.2 (pdK_lt x) hZ.2.2 hl0 hla hv, hS.F ht⟩) hS.2.2 dX0_minus_48
    · refine lv_iconst (v := 0) hx hb dX0_minus_16 (by decide) ?_
      have e : pf_adds (-1) x v = (0, v) := by unfold pf_adds; exact if_neg (fun h => by rw [pf_bit_0 c_13, Bool.and_false] at h; cases h)
      refine W.widen (k := 1) (n := 3) (Nat.zero_le _) (Nat.zero_le _) ?_
      exact W.zret (v := 0) hx hb hr rfl (fun t ht hW => ⟨by rw [e], by rw [ht, e]; exact ⟨g, ⟨hP, hG⟩, fun j _ => Or.inl rfl⟩, hS.F ht⟩) hS.2.2 dX0_minus_17
set_option maxHeartbeats 4000000 in
set_option maxRecDepth 100000 in
theorem mX0_times (l : Launch) (D : va_G) (z : Nat) (cA : ClassId) (sz h0 ha : Nat) (g : Nat → Nat) (v : pdS) (x n : Int32) : Met l yX0_times (ws_ yX0_times cX0_times 3 (some .boolean)) ({ frames := 7, cells := 1, slots := 3, locals := 280 }) (va_Pc [.ref h0, .int x, .int n] (pdDk D z cA sz h0 ha g v)) (pdG (some (.int (pf_takes x (n &&& 3) v).1)) (fun H => ∃ g', pdW D z cA h0 ha g' (pf_takes x (n &&& 3) v).2 H ∧ ∀ j, j < 2 → (g' j = g j ∨ g' j = z ∨ sz ≤ g' j)) (pdA h0 ha sz)) 1 3 (pdA h0 ha sz) := by
  refine Met.ofW (cc := cX0_times) (maxL := 3) (ret := (some .boolean)) (by decide) rfl ?_
  intro p e s m args below meth c s₁ B hml hv
  obtain ⟨rfl, hsz, hK, ⟨hP, hG⟩, hne, hZ⟩ := hv
  have hx := B.exec
  have hb := B.bytes
  have hr := B.returns
  have hts := atoms_spec (ws := (ws_ yX0_times cX0_times 3 (some .boolean))) B.pre
  have hts : ∀ w ∈ lw_all, w.before _ s = true := fun w h => hts w (List.mem_cons_of_mem _ h)
  have hown : s.vm.findClass RX0 = some m.cls := findClass_of_methodNamed B.named
  have hlocks := B.notSynchronized
  subst hsz
  have hS : va_S (pdA h0 ha s.heap.size) s.heap s.heap [] := va_S.rf
  have hA : ∀ q : Nat, s.heap.size ≤ q → pdA h0 ha s.heap.size q := fun q h => Or.inr (Or.inr h)
  have hP : va_P D pdCl [(h0, .inr (0, [.ref ha])), (ha, .inl (cA, 2, .inr (.inr (.inr (.inr (fun j => some (g j)))))))] s.heap := hP
  have hl0 : h0 < s.heap.size := (hP 0 _ rfl).lt
  have hla : ha < s.heap.size := (hP 1 _ rfl).lt
  have hD : va_D (pdA h0 ha s.heap.size) [(h0, .inr (0, [.ref ha])), (ha, .inl (cA, 2, .inr (.inr (.inr (.inr (fun j => some (g j)))))))] := pd_D2 hne (Or.inl rfl) (Or.inr (Or.inl rfl))
  have hl := lv_entry ([.ref h0, .int x, .int n]) (n := 3) (Nat.le_of_ble_eq_true rfl)
  rw [lg_entry_eq]
  generalize (lg_sl ([.ref h0, .int x, .int n]) ++ List.replicate (3 - (lg_sl ([.ref h0, .int x, .int n])).length) Slot.unset).toArray = ls at hl ⊢
  have hl : lv_has ls 3 [(0, .ref h0), (1, .int x), (2, .int n)] := hl
  refine lv_aload_n hx hb dX0_times_0 rfl (lv_at hl 0 rfl) ?_
  refine lv_iload_n hx hb dX0_times_1 rfl (lv_at hl 1 rfl) ?_
  refine pd_callV (W.runV (As := [.int x]) (rest := []) ⟨hx, hb, hml, hown, hts⟩ (mX0_room l D z cA s.heap.size h0 ha g v x) (cwV 1 hts (lw_V q97 q99 qs0 q7 q100) rfl rfl rfl (by decide +kernel) ⟨Nat.le_of_ble_eq_true rfl, Nat.le_of_ble_eq_true rfl⟩) (pdDk_pre 0 rfl hK ⟨hP, hG⟩ hne hZ hS (fun q h => h)) rfl rfl hl.1 rfl (lv_room (Nat.le_of_ble_eq_true rfl)) dX0_times_2 ⟨Nat.zero_le _, Nat.zero_le _⟩) ?_
  refine W.eq (g2 := F0 m 5 ls [.int (pf_bit (pdOk v (pdK x)))]) rfl ?_
  refine lv_if_ne (tgt := 10) hx hb dX0_times_5 (by decide) (fun c_5 => ?_) (fun c_5 => ?_)
  · have hok : pdOk v (pdK x) = true := pf_bit_1 c_5
    obtain ⟨hy, hm, hd⟩ := pdRm_iff.mp hok
    refine lv_aload_n hx hb dX0_times_10 rfl (lv_at hl 0 rfl) ?_
    refine va_get (D := D) (ci := 0) (v := .ref ha) (C := RX0) (T := TX0) (N := 1) hx hb hts in_X0 hown hK hP 0 rfl rfl 0 (by decide) (hts _ q81) (fun _ h9 => h9) rfl dX0_times_11 ?_
    refine lv_iload_n hx hb dX0_times_14 rfl (lv_at hl 1 rfl) ?_
    refine lv_iconst (v := 1) hx hb dX0_times_15 (by decide) ?_
    refine lv_iand hx hb dX0_times_16 ?_
    refine lv_aload_n hx hb dX0_times_17 rfl (lv_at hl 0 rfl) ?_
    refine va_get (D := D) (ci := 0) (v := .ref ha) (C := RX0) (T := TX0) (N := 1) hx hb hts in_X0 hown hK hP 0 rfl rfl 0 (by decide) (hts _ q81) (fun _ h9 => h9) rfl dX0_times_18 ?_
    refine lv_iload_n hx hb dX0_times_21 rfl (lv_at hl 1 rfl) ?_
    refine lv_iconst (v := 1) hx hb dX0_times_22 (by decide) ?_
    refine lv_iand hx hb dX0_times_23 ?_
    refine va_aldq hx hb hK hP 1 0 rfl rfl (pdK_in x) dX0_times_24 ?_
    refine W.eq (g2 := F0 m 25 ls [.ref (g (pdK x)), .int (x &&& 1), .ref ha]) rfl ?_
    refine lv_iload_n hx hb dX0_times_25 rfl (lv_at hl 2 rfl) ?_
    refine lv_iconst (v := 3) hx hb dX0_times_26 (by decide) ?_
    refine lv_iand hx hb dX0_times_27 ?_
    refine pd_callR (W.runV (As := [.int (n &&& 3)]) (rest := [.int (x &&& 1), .ref ha]) ⟨hx, hb, hml, hown, hts⟩ (mX2_multipliedBy l D z s.heap.size (g (pdK x)) (v.1 (pdK x)) (v.2.1 (pdK x)) (v.2.2 (pdK x)) (n &&& 3) (pd_mul_fit hy (pd_and3 n).1 (pd_and3 n).2) (pd_mul_fit hm (pd_and3 n).1 (pd_and3 n).2) (pd_mul_fit hd (pd_and3 n).1 (pd_and3 n).2)) (cwV 1 hts (lw_V q677 q678 q679 q9 q680) rfl rfl rfl (by decide +kernel) ⟨Nat.le_of_ble_eq_true rfl, Nat.le_of_ble_eq_true rfl⟩) (pdMk_pre hK (hG _ (pdK_lt x)).1 hZ hS hA) rfl rfl hl.1 rfl (lv_room (Nat.le_of_ble_eq_true rfl)) dX0_times_28 ⟨Nat.le_of_ble_eq_true rfl, Nat.le_of_ble_eq_true rfl⟩) hS (fun q h => hA q h) (fun ra H locs hB hz1 hk1 hS => ?_)
    have hP := pd_keptN hP hk1
    have hG1 := pdPs_keptN hG hk1
    refine pd_ast (r := (RX2, TX2, 3)) hx hb hK hP hD hS 1 0 1 rfl rfl (hB.1.1 0 _ rfl) rfl (pdK_in x) dX0_times_31 (fun H1 locs hP hD hS hz2 hk2 => ?_)
    have hP : va_P D pdCl [(h0, .inr (0, [.ref ha])), (ha, .inl (cA, 2, .inr (.inr (.inr (.inr (va_up (fun j => some (g j)) (pdK x) (some ra)))))))] H1 := hP
    refine lv_iconst (v := 1) hx hb dX0_times_32 (by decide) ?_
    have e : pf_takes x (n &&& 3) v = (1, (pf_takes x (n &&& 3) v).2) := by unfold pf_takes; rw [if_pos hok]
    have hv := pf_takes_st (v := v) x (n &&& 3) hok
    exact W.zret (v := 1) hx hb hr rfl (fun t ht hW => ⟨by rw [e], by rw [ht]; exact pd_fin hP hG1 hk2 hB.1 (hB.2) (pdK_lt x) hZ.2.2 hl0 hla hv, hS.F ht⟩) hS.2.2 dX0_times_33
  · refine lv_iconst (v := 0) hx hb dX0_times_8 (by decide) ?_
    have e : pf_takes x (n &&& 3) v = (0, v) := by unfold pf_takes; exact if_neg (fun h => by rw [pf_bit_0 c_5] at h; cases h)
    refine W.widen (k := 1) (n := 3) (Nat.zero_le _) (Nat.zero_le _) ?_
    exact W.zret (v := 0) hx hb hr rfl (fun t ht hW => ⟨by rw [e], by rw [ht, e]; exact ⟨g, ⟨hP, hG⟩, fun j _ => Or.inl rfl⟩, hS.F ht⟩) hS.2.2 dX0_times_9
set_option maxHeartbeats 4000000 in
set_option maxRecDepth 100000 in
theorem mX0_turn (l : Launch) (D : va_G) (z : Nat) (cA : ClassId) (sz h0 ha : Nat) (g : Nat → Nat) (v : pdS) (x : Int32) : Met l yX0_turn (ws_ yX0_turn cX0_turn 2 (some .boolean)) ({ frames := 7, cells := 1, slots := 3, locals := 280 }) (va_Pc [.ref h0, .int x] (pdDk D z cA sz h0 ha g v)) (pdG (some (.int (pf_takes x (-1) v).1)) (fun H => ∃ g', pdW D z cA h0 ha g' (pf_takes x (-1) v).2 H ∧ ∀ j, j < 2 → (g' j = g j ∨ g' j = z ∨ sz ≤ g' j)) (pdA h0 ha sz)) 1 3 (pdA h0 ha sz) := by
  refine Met.ofW (cc := cX0_turn) (maxL := 2) (ret := (some .boolean)) (by decide) rfl ?_
  intro p e s m args below meth c s₁ B hml hv
  obtain ⟨rfl, hsz, hK, ⟨hP, hG⟩, hne, hZ⟩ := hv
  have hx := B.exec
  have hb := B.bytes
  have hr := B.returns
  have hts := atoms_spec (ws := (ws_ yX0_turn cX0_turn 2 (some .boolean))) B.pre
  have hts : ∀ w ∈ lw_all, w.before _ s = true := fun w h => hts w (List.mem_cons_of_mem _ h)
  have hown : s.vm.findClass RX0 = some m.cls := findClass_of_methodNamed B.named
  have hlocks := B.notSynchronized
  subst hsz
  have hS : va_S (pdA h0 ha s.heap.size) s.heap s.heap [] := va_S.rf
  have hA : ∀ q : Nat, s.heap.size ≤ q → pdA h0 ha s.heap.size q := fun q h => Or.inr (Or.inr h)
  have hP : va_P D pdCl [(h0, .inr (0, [.ref ha])), (ha, .inl (cA, 2, .inr (.inr (.inr (.inr (fun j => some (g j)))))))] s.heap := hP
  have hl0 : h0 < s.heap.size := (hP 0 _ rfl).lt
  have hla : ha < s.heap.size := (hP 1 _ rfl).lt
  have hD : va_D (pdA h0 ha s.heap.size) [(h0, .inr (0, [.ref ha])), (ha, .inl (cA, 2, .inr (.inr (.inr (.inr (fun j => some (g j)))))))] := pd_D2 hne (Or.inl rfl) (Or.inr (Or.inl rfl))
  have hl := lv_entry ([.ref h0, .int x]) (n := 2) (Nat.le_of_ble_eq_true rfl)
  rw [lg_entry_eq]
  generalize (lg_sl ([.ref h0, .int x]) ++ List.replicate (2 - (lg_sl ([.ref h0, .int x])).length) Slot.unset).toArray = ls at hl ⊢
  have hl : lv_has ls 2 [(0, .ref h0), (1, .int x)] := hl
  refine lv_aload_n hx hb dX0_turn_0 rfl (lv_at hl 0 rfl) ?_
  refine lv_iload_n hx hb dX0_turn_1 rfl (lv_at hl 1 rfl) ?_
  refine pd_callV (W.runV (As := [.int x]) (rest := []) ⟨hx, hb, hml, hown, hts⟩ (mX0_room l D z cA s.heap.size h0 ha g v x) (cwV 1 hts (lw_V q97 q99 qs0 q7 q100) rfl rfl rfl (by decide +kernel) ⟨Nat.le_of_ble_eq_true rfl, Nat.le_of_ble_eq_true rfl⟩) (pdDk_pre 0 rfl hK ⟨hP, hG⟩ hne hZ hS (fun q h => h)) rfl rfl hl.1 rfl (lv_room (Nat.le_of_ble_eq_true rfl)) dX0_turn_2 ⟨Nat.zero_le _, Nat.zero_le _⟩) ?_
  refine W.eq (g2 := F0 m 5 ls [.int (pf_bit (pdOk v (pdK x)))]) rfl ?_
  refine lv_if_ne (tgt := 10) hx hb dX0_turn_5 (by decide) (fun c_5 => ?_) (fun c_5 => ?_)
  · have hok : pdOk v (pdK x) = true := pf_bit_1 c_5
    obtain ⟨hy, hm, hd⟩ := pdRm_iff.mp hok
    refine lv_aload_n hx hb dX0_turn_10 rfl (lv_at hl 0 rfl) ?_
    refine va_get (D := D) (ci := 0) (v := .ref ha) (C := RX0) (T := TX0) (N := 1) hx hb hts in_X0 hown hK hP 0 rfl rfl 0 (by decide) (hts _ q81) (fun _ h9 => h9) rfl dX0_turn_11 ?_
    refine lv_iload_n hx hb dX0_turn_14 rfl (lv_at hl 1 rfl) ?_
    refine lv_iconst (v := 1) hx hb dX0_turn_15 (by decide) ?_
    refine lv_iand hx hb dX0_turn_16 ?_
    refine lv_aload_n hx hb dX0_turn_17 rfl (lv_at hl 0 rfl) ?_
    refine va_get (D := D) (ci := 0) (v := .ref ha) (C := RX0) (T := TX0) (N := 1) hx hb hts in_X0 hown hK hP 0 rfl rfl 0 (by decide) (hts _ q81) (fun _ h9 => h9) rfl dX0_turn_18 ?_
    refine lv_iload_n hx hb dX0_turn_21 rfl (lv_at hl 1 rfl) ?_
    refine lv_iconst (v := 1) hx hb dX0_turn_22 (by decide) ?_
    refine lv_iand hx hb dX0_turn_23 ?_
    refine va_aldq hx hb hK hP 1 0 rfl rfl (pdK_in x) dX0_turn_24 ?_
    refine W.eq (g2 := F0 m 25 ls [.ref (g (pdK x)), .int (x &&& 1), .ref ha]) rfl ?_
    refine pd_callR (W.runV (As := []) (rest := [.int (x &&& 1), .ref ha]) ⟨hx, hb, hml, hown, hts⟩ (mX2_negated l D z s.heap.size (g (pdK x)) (v.1 (pdK x)) (v.2.1 (pdK x)) (v.2.2 (pdK x)) (pd_mul_fit hy (by decide) (by decide)) (pd_mul_fit hm (by decide) (by decide)) (pd_mul_fit hd (by decide) (by decide))) (cwV 0 hts (lw_V q688 q689 q690 q9 q691) rfl rfl rfl (by decide +kernel) ⟨Nat.le_of_ble_eq_true rfl, Nat.le_of_ble_eq_true rfl⟩) (pdMk_pre hK (hG _ (pdK_lt x)).1 hZ hS hA) rfl rfl hl.1 rfl (lv_room (Nat.le_of_ble_eq_true rfl)) dX0_turn_25 ⟨Nat.le_of_ble_eq_true rfl, Nat.le_of_ble_eq_true rfl⟩) hS (fun q h => hA q h) (fun ra H locs hB hz1 hk1 hS => ?_)
    have hP := pd_keptN hP hk1
    have hG1 := pdPs_keptN hG hk1
    refine pd_ast (r := (RX2, TX2, 3)) hx hb hK hP hD hS 1 0 1 rfl rfl (hB.1.1 0 _ rfl) rfl (pdK_in x) dX0_turn_28 (fun H1 locs hP hD hS hz2 hk2 => ?_)
    have hP : va_P D pdCl [(h0, .inr (0, [.ref ha])), (ha, .inl (cA, 2, .inr (.inr (.inr (.inr (va_up (fun j => some (g j)) (pdK x) (some ra)))))))] H1 := hP
    refine lv_iconst (v := 1) hx hb dX0_turn_29 (by decide) ?_
    have e : pf_takes x (-1) v = (1, (pf_takes x (-1) v).2) := by unfold pf_takes; rw [if_pos hok]
    have hv := pf_takes_st (v := v) x (-1) hok
    exact W.zret (v := 1) hx hb hr rfl (fun t ht hW => ⟨by rw [e], by rw [ht]; exact pd_fin hP hG1 hk2 hB.1 (hB.2) (pdK_lt x) hZ.2.2 hl0 hla hv, hS.F ht⟩) hS.2.2 dX0_turn_30
  · refine lv_iconst (v := 0) hx hb dX0_turn_8 (by decide) ?_
    have e : pf_takes x (-1) v = (0, v) := by unfold pf_takes; exact if_neg (fun h => by rw [pf_bit_0 c_5] at h; cases h)
    refine W.widen (k := 1) (n := 3) (Nat.zero_le _) (Nat.zero_le _) ?_
    exact W.zret (v := 0) hx hb hr rfl (fun t ht hW => ⟨by rw [e], by rw [ht, e]; exact ⟨g, ⟨hP, hG⟩, fun j _ => Or.inl rfl⟩, hS.F ht⟩) hS.2.2 dX0_turn_9
set_option maxHeartbeats 4000000 in
set_option maxRecDepth 100000 in
theorem mX0_normal (l : Launch) (D : va_G) (z : Nat) (cA : ClassId) (sz h0 ha : Nat) (g : Nat → Nat) (v : pdS) (x : Int32) : Met l yX0_normal (ws_ yX0_normal cX0_normal 2 (some .boolean)) ({ frames := 7, cells := 1, slots := 3, locals := 280 }) (va_Pc [.ref h0, .int x] (pdDk D z cA sz h0 ha g v)) (pdG (some (.int (pf_normal x v).1)) (fun H => ∃ g', pdW D z cA h0 ha g' (pf_normal x v).2 H ∧ ∀ j, j < 2 → (g' j = g j ∨ g' j = z ∨ sz ≤ g' j)) (pdA h0 ha sz)) 1 3 (pdA h0 ha sz) := by
  refine Met.ofW (cc := cX0_normal) (maxL := 2) (ret := (some .boolean)) (by decide) rfl ?_
  intro p e s m args below meth c s₁ B hml hv
  obtain ⟨rfl, hsz, hK, ⟨hP, hG⟩, hne, hZ⟩ := hv
  have hx := B.exec
  have hb := B.bytes
  have hr := B.returns
  have hts := atoms_spec (ws := (ws_ yX0_normal cX0_normal 2 (some .boolean))) B.pre
  have hts : ∀ w ∈ lw_all, w.before _ s = true := fun w h => hts w (List.mem_cons_of_mem _ h)
  have hown : s.vm.findClass RX0 = some m.cls := findClass_of_methodNamed B.named
  have hlocks := B.notSynchronized
  subst hsz
  have hS : va_S (pdA h0 ha s.heap.size) s.heap s.heap [] := va_S.rf
  have hA : ∀ q : Nat, s.heap.size ≤ q → pdA h0 ha s.heap.size q := fun q h => Or.inr (Or.inr h)
  have hP : va_P D pdCl [(h0, .inr (0, [.ref ha])), (ha, .inl (cA, 2, .inr (.inr (.inr (.inr (fun j => some (g j)))))))] s.heap := hP
  have hl0 : h0 < s.heap.size := (hP 0 _ rfl).lt
  have hla : ha < s.heap.size := (hP 1 _ rfl).lt
  have hD : va_D (pdA h0 ha s.heap.size) [(h0, .inr (0, [.ref ha])), (ha, .inl (cA, 2, .inr (.inr (.inr (.inr (fun j => some (g j)))))))] := pd_D2 hne (Or.inl rfl) (Or.inr (Or.inl rfl))
  have hl := lv_entry ([.ref h0, .int x]) (n := 2) (Nat.le_of_ble_eq_true rfl)
  rw [lg_entry_eq]
  generalize (lg_sl ([.ref h0, .int x]) ++ List.replicate (2 - (lg_sl ([.ref h0, .int x])).length) Slot.unset).toArray = ls at hl ⊢
  have hl : lv_has ls 2 [(0, .ref h0), (1, .int x)] := hl
  refine lv_aload_n hx hb dX0_normal_0 rfl (lv_at hl 0 rfl) ?_
  refine lv_iload_n hx hb dX0_normal_1 rfl (lv_at hl 1 rfl) ?_
  refine pd_callV (W.runV (As := [.int x]) (rest := []) ⟨hx, hb, hml, hown, hts⟩ (mX0_room l D z cA s.heap.size h0 ha g v x) (cwV 1 hts (lw_V q97 q99 qs0 q7 q100) rfl rfl rfl (by decide +kernel) ⟨Nat.le_of_ble_eq_true rfl, Nat.le_of_ble_eq_true rfl⟩) (pdDk_pre 0 rfl hK ⟨hP, hG⟩ hne hZ hS (fun q h => h)) rfl rfl hl.1 rfl (lv_room (Nat.le_of_ble_eq_true rfl)) dX0_normal_2 ⟨Nat.zero_le _, Nat.zero_le _⟩) ?_
  refine W.eq (g2 := F0 m 5 ls [.int (pf_bit (pdOk v (pdK x)))]) rfl ?_
  refine lv_if_ne (tgt := 10) hx hb dX0_normal_5 (by decide) (fun c_5 => ?_) (fun c_5 => ?_)
  · have hok : pdOk v (pdK x) = true := pf_bit_1 c_5
    obtain ⟨hy, hm, hd⟩ := pdRm_iff.mp hok
    refine lv_aload_n hx hb dX0_normal_10 rfl (lv_at hl 0 rfl) ?_
    refine va_get (D := D) (ci := 0) (v := .ref ha) (C := RX0) (T := TX0) (N := 1) hx hb hts in_X0 hown hK hP 0 rfl rfl 0 (by decide) (hts _ q81) (fun _ h9 => h9) rfl dX0_normal_11 ?_
    refine lv_iload_n hx hb dX0_normal_14 rfl (lv_at hl 1 rfl) ?_
    refine lv_iconst (v := 1) hx hb dX0_normal_15 (by decide) ?_
    refine lv_iand hx hb dX0_normal_16 ?_
    refine lv_aload_n hx hb dX0_normal_17 rfl (lv_at hl 0 rfl) ?_
    refine va_get (D := D) (ci := 0) (v := .ref ha) (C := RX0) (T := TX0) (N := 1) hx hb hts in_X0 hown hK hP 0 rfl rfl 0 (by decide) (hts _ q81) (fun _ h9 => h9) rfl dX0_normal_18 ?_
    refine lv_iload_n hx hb dX0_normal_21 rfl (lv_at hl 1 rfl) ?_
    refine lv_iconst (v := 1) hx hb dX0_normal_22 (by decide) ?_
    refine lv_iand hx hb dX0_normal_23 ?_
    refine va_aldq hx hb hK hP 1 0 rfl rfl (pdK_in x) dX0_normal_24 ?_
    refine W.eq (g2 := F0 m 25 ls [.ref (g (pdK x)), .int (x &&& 1), .ref ha]) rfl ?_
    refine pd_callR (W.runV (As := []) (rest := [.int (x &&& 1), .ref ha]) ⟨hx, hb, hml, hown, hts⟩ (mX2_normalized l D z s.heap.size (g (pdK x)) (v.1 (pdK x)) (v.2.1 (pdK x)) (v.2.2 (pdK x)) hy hm) (cwV 0 hts (lw_V q697 q698 q699 q9 q700) rfl rfl rfl (by decide +kernel) ⟨Nat.le_of_ble_eq_true rfl, Nat.le_of_ble_eq_true rfl⟩) (pdMk_pre hK (hG _ (pdK_lt x)).1 hZ hS hA) rfl rfl hl.1 rfl (lv_room (Nat.le_of_ble_eq_true rfl)) dX0_normal_25 ⟨Nat.le_of_ble_eq_true rfl, Nat.le_of_ble_eq_true rfl⟩) hS (fun q h => hA q h) (fun ra H locs hB hz1 hk1 hS => ?_)
    have hP := pd_keptN hP hk1
    have hG1 := pdPs_keptN hG hk1
    refine pd_ast (r := (RX2, TX2, 3)) hx hb hK hP hD hS 1 0 1 rfl rfl (hB.1.1 0 _ rfl) rfl (pdK_in x) dX0_normal_28 (fun H1 locs hP hD hS hz2 hk2 => ?_)
    have hP : va_P D pdCl [(h0, .inr (0, [.ref ha])), (ha, .inl (cA, 2, .inr (.inr (.inr (.inr (va_up (fun j => some (g j)) (pdK x) (some ra)))))))] H1 := hP
    refine lv_iconst (v := 1) hx hb dX0_normal_29 (by decide) ?_
    have e : pf_normal x v = (1, (pf_normal x v).2) := by unfold pf_normal; rw [if_pos hok]
    have hv := pf_normal_st (v := v) x hok
    exact W.zret (v := 1) hx hb hr rfl (fun t ht hW => ⟨by rw [e], by rw [ht]; exact pd_fin hP hG1 hk2 hB.1 (hB.2) (pdK_lt x) hZ.2.2 hl0 hla hv, hS.F ht⟩) hS.2.2 dX0_normal_30
  · refine lv_iconst (v := 0) hx hb dX0_normal_8 (by decide) ?_
    have e : pf_normal x v = (0, v) := by unfold pf_normal; exact if_neg (fun h => by rw [pf_bit_0 c_5] at h; cases h)
    refine W.widen (k := 1) (n := 3) (Nat.zero_le _) (Nat.zero_le _) ?_
    exact W.zret (v := 0) hx hb hr rfl (fun t ht hW => ⟨by rw [e], by rw [ht, e]; exact ⟨g, ⟨hP, hG⟩, fun j _ => Or.inl rfl⟩, hS.F ht⟩) hS.2.2 dX0_normal_9
set_option maxHeartbeats 4000000 in
set_option maxRecDepth 100000 in
theorem mX0_days (l : Launch) (D : va_G) (z : Nat) (cA : ClassId) (sz h0 ha : Nat) (g : Nat → Nat) (v : pdS) (x n : Int32) : Met l yX0_days (ws_ yX0_days cX0_days 3 (some .boolean)) ({ frames := 7, cells := 1, slots := 3, locals := 280 }) (va_Pc [.ref h0, .int x, .int n] (pdDk D z cA sz h0 ha g v)) (pdG (some (.int (pf_days x n v).1)) (fun H => ∃ g', pdW D z cA h0 ha g' (pf_days x n v).2 H ∧ ∀ j, j < 2 → (g' j = g j ∨ g' j = z ∨ sz ≤ g' j)) (pdA h0 ha sz)) 1 3 (pdA h0 ha sz) := by
  refine Met.ofW (cc := cX0_days) (maxL := 3) (ret := (some .boolean)) (by decide) rfl ?_
  intro p e s m args below meth c s₁ B hml hv
  obtain ⟨rfl, hsz, hK, ⟨hP, hG⟩, hne, hZ⟩ := hv
  have hx := B.exec
  have hb := B.bytes
  have hr := B.returns
  have hts := atoms_spec (ws := (ws_ yX0_days cX0_days 3 (some .boolean))) B.pre
  have hts : ∀ w ∈ lw_all, w.before _ s = true := fun w h => hts w (List.mem_cons_of_mem _ h)
  have hown : s.vm.findClass RX0 = some m.cls := findClass_of_methodNamed B.named
  have hlocks := B.notSynchronized
  subst hsz
  have hS : va_S (pdA h0 ha s.heap.size) s.heap s.heap [] := va_S.rf
  have hA : ∀ q : Nat, s.heap.size ≤ q → pdA h0 ha s.heap.size q := fun q h => Or.inr (Or.inr h)
  have hP : va_P D pdCl [(h0, .inr (0, [.ref ha])), (ha, .inl (cA, 2, .inr (.inr (.inr (.inr (fun j => some (g j)))))))] s.heap := hP
  have hl0 : h0 < s.heap.size := (hP 0 _ rfl).lt
  have hla : ha < s.heap.size := (hP 1 _ rfl).lt
  have hD : va_D (pdA h0 ha s.heap.size) [(h0, .inr (0, [.ref ha])), (ha, .inl (cA, 2, .inr (.inr (.inr (.inr (fun j => some (g j)))))))] := pd_D2 hne (Or.inl rfl) (Or.inr (Or.inl rfl))
  have hl := lv_entry ([.ref h0, .int x, .int n]) (n := 3) (Nat.le_of_ble_eq_true rfl)
  rw [lg_entry_eq]
  generalize (lg_sl ([.ref h0, .int x, .int n]) ++ List.replicate (3 - (lg_sl ([.ref h0, .int x, .int n])).length) Slot.unset).toArray = ls at hl ⊢
  have hl : lv_has ls 3 [(0, .ref h0), (1, .int x), (2, .int n)] := hl
  refine lv_aload_n hx hb dX0_days_0 rfl (lv_at hl 0 rfl) ?_
  refine lv_iload_n hx hb dX0_days_1 rfl (lv_at hl 1 rfl) ?_
  refine pd_callV (W.runV (As := [.int x]) (rest := []) ⟨hx, hb, hml, hown, hts⟩ (mX0_room l D z cA s.heap.size h0 ha g v x) (cwV 1 hts (lw_V q97 q99 qs0 q7 q100) rfl rfl rfl (by decide +kernel) ⟨Nat.le_of_ble_eq_true rfl, Nat.le_of_ble_eq_true rfl⟩) (pdDk_pre 0 rfl hK ⟨hP, hG⟩ hne hZ hS (fun q h => h)) rfl rfl hl.1 rfl (lv_room (Nat.le_of_ble_eq_true rfl)) dX0_days_2 ⟨Nat.zero_le _, Nat.zero_le _⟩) ?_
  refine W.eq (g2 := F0 m 5 ls [.int (pf_bit (pdOk v (pdK x)))]) rfl ?_
  refine lv_if_ne (tgt := 10) hx hb dX0_days_5 (by decide) (fun c_5 => ?_) (fun c_5 => ?_)
  · have hok : pdOk v (pdK x) = true := pf_bit_1 c_5
    obtain ⟨hy, hm, hd⟩ := pdRm_iff.mp hok
    refine lv_aload_n hx hb dX0_days_10 rfl (lv_at hl 0 rfl) ?_
    refine va_get (D := D) (ci := 0) (v := .ref ha) (C := RX0) (T := TX0) (N := 1) hx hb hts in_X0 hown hK hP 0 rfl rfl 0 (by decide) (hts _ q81) (fun _ h9 => h9) rfl dX0_days_11 ?_
    refine lv_iload_n hx hb dX0_days_14 rfl (lv_at hl 1 rfl) ?_
    refine lv_iconst (v := 1) hx hb dX0_days_15 (by decide) ?_
    refine lv_iand hx hb dX0_days_16 ?_
    refine lv_aload_n hx hb dX0_days_17 rfl (lv_at hl 0 rfl) ?_
    refine va_get (D := D) (ci := 0) (v := .ref ha) (C := RX0) (T := TX0) (N := 1) hx hb hts in_X0 hown hK hP 0 rfl rfl 0 (by decide) (hts _ q81) (fun _ h9 => h9) rfl dX0_days_18 ?_
    refine lv_iload_n hx hb dX0_days_21 rfl (lv_at hl 1 rfl) ?_
    refine lv_iconst (v := 1) hx hb dX0_days_22 (by decide) ?_
    refine lv_iand hx hb dX0_days_23 ?_
    refine va_aldq hx hb hK hP 1 0 rfl rfl (pdK_in x) dX0_days_24 ?_
    refine W.eq (g2 := F0 m 25 ls [.ref (g (pdK x)), .int (x &&& 1), .ref ha]) rfl ?_
    refine lv_iload_n hx hb dX0_days_25 rfl (lv_at hl 2 rfl) ?_
    refine pd_callV (W.runS (As := [.int n]) (rest := [.ref (g (pdK x)), .int (x &&& 1), .ref ha]) ⟨hx, hb, hml, hown, hts⟩ (mX0_small l n) (va_cwS 1 hts (lw_S q89 q90 q7 q91) rfl rfl rfl (by decide +kernel) ⟨Nat.le_of_ble_eq_true rfl, Nat.le_of_ble_eq_true rfl⟩) (pdT_preS) rfl rfl hl.1 rfl (lv_room (Nat.le_of_ble_eq_true rfl)) dX0_days_26 ⟨Nat.zero_le _, Nat.zero_le _⟩) ?_
    refine W.eq (g2 := F0 m 29 ls [.int (pf_small n), .ref (g (pdK x)), .int (x &&& 1), .ref ha]) rfl ?_
    refine lv_i2l hx hb dX0_days_29 rfl ?_
    refine pd_callR (W.runV (As := [.long ((pf_small n).toInt64)]) (rest := [.int (x &&& 1), .ref ha]) ⟨hx, hb, hml, hown, hts⟩ (mX2_plusDays l D z s.heap.size (g (pdK x)) (v.1 (pdK x)) (v.2.1 (pdK x)) (v.2.2 (pdK x)) (pf_small n) (pd_days_fit hd n)) (cwV 1 hts (lw_V q710 q711 q712 q9 q713) rfl rfl rfl (by decide +kernel) ⟨Nat.le_of_ble_eq_true rfl, Nat.le_of_ble_eq_true rfl⟩) (pdMk_pre hK (hG _ (pdK_lt x)).1 hZ hS hA) rfl rfl hl.1 rfl (lv_room (Nat.le_of_ble_eq_true rfl)) dX0_days_30 ⟨Nat.le_of_ble_eq_true rfl, Nat.le_of_ble_eq_true rfl⟩) hS (fun q h => hA q h) (fun ra H locs hB hz1 hk1 hS => ?_)
    have hP := pd_keptN hP hk1
    have hG1 := pdPs_keptN hG hk1
    refine pd_ast (r := (RX2, TX2, 3)) hx hb hK hP hD hS 1 0 1 rfl rfl (hB.1.1 0 _ rfl) rfl (pdK_in x) dX0_days_33 (fun H1 locs hP hD hS hz2 hk2 => ?_)
    have hP : va_P D pdCl [(h0, .inr (0, [.ref ha])), (ha, .inl (cA, 2, .inr (.inr (.inr (.inr (va_up (fun j => some (g j)) (pdK x) (some ra)))))))] H1 := hP
    refine lv_iconst (v := 1) hx hb dX0_days_34 (by decide) ?_
    have e : pf_days x n v = (1, (pf_days x n v).2) := by unfold pf_days; rw [if_pos hok]
    have hv := pf_days_st (v := v) x n hok
    exact W.zret (v := 1) hx hb hr rfl (fun t ht hW => ⟨by rw [e], by rw [ht]; exact pd_fin hP hG1 hk2 hB.1 (hB.2) (pdK_lt x) hZ.2.2 hl0 hla hv, hS.F ht⟩) hS.2.2 dX0_days_35
  · refine lv_iconst (v := 0) hx hb dX0_days_8 (by decide) ?_
    have e : pf_days x n v = (0, v) := by unfold pf_days; exact if_neg (fun h => by rw [pf_bit_0 c_5] at h; cases h)
    refine W.widen (k := 1) (n := 3) (Nat.zero_le _) (Nat.zero_le _) ?_
    exact W.zret (v := 0) hx hb hr rfl (fun t ht hW => ⟨by rw [e], by rw [ht, e]; exact ⟨g, ⟨hP, hG⟩, fun j _ => Or.inl rfl⟩, hS.F ht⟩) hS.2.2 dX0_days_9
set_option maxHeartbeats 4000000 in
set_option maxRecDepth 100000 in
theorem mX0_months (l : Launch) (D : va_G) (z : Nat) (cA : ClassId) (sz h0 ha : Nat) (g : Nat → Nat) (v : pdS) (x n : Int32) : Met l yX0_months (ws_ yX0_months cX0_months 3 (some .boolean)) ({ frames := 7, cells := 1, slots := 3, locals := 280 }) (va_Pc [.ref h0, .int x, .int n] (pdDk D z cA sz h0 ha g v)) (pdG (some (.int (pf_months x n v).1)) (fun H => ∃ g', pdW D z cA h0 ha g' (pf_months x n v).2 H ∧ ∀ j, j < 2 → (g' j = g j ∨ g' j = z ∨ sz ≤ g' j)) (pdA h0 ha sz)) 1 3 (pdA h0 ha sz) := by
  refine Met.ofW (cc := cX0_months) (maxL := 3) (ret := (some .boolean)) (by decide) rfl ?_
  intro p e s m args below meth c s₁ B hml hv
  obtain ⟨rfl, hsz, hK, ⟨hP, hG⟩, hne, hZ⟩ := hv
  have hx := B.exec
  have hb := B.bytes
  have hr := B.returns
  have hts := atoms_spec (ws := (ws_ yX0_months cX0_months 3 (some .boolean))) B.pre
  have hts : ∀ w ∈ lw_all, w.before _ s = true := fun w h => hts w (List.mem_cons_of_mem _ h)
  have hown : s.vm.findClass RX0 = some m.cls := findClass_of_methodNamed B.named
  have hlocks := B.notSynchronized
  subst hsz
  have hS : va_S (pdA h0 ha s.heap.size) s.heap s.heap [] := va_S.rf
  have hA : ∀ q : Nat, s.heap.size ≤ q → pdA h0 ha s.heap.size q := fun q h => Or.inr (Or.inr h)
  have hP : va_P D pdCl [(h0, .inr (0, [.ref ha])), (ha, .inl (cA, 2, .inr (.inr (.inr (.inr (fun j => some (g j)))))))] s.heap := hP
  have hl0 : h0 < s.heap.size := (hP 0 _ rfl).lt
  have hla : ha < s.heap.size := (hP 1 _ rfl).lt
  have hD : va_D (pdA h0 ha s.heap.size) [(h0, .inr (0, [.ref ha])), (ha, .inl (cA, 2, .inr (.inr (.inr (.inr (fun j => some (g j)))))))] := pd_D2 hne (Or.inl rfl) (Or.inr (Or.inl rfl))
  have hl := lv_entry ([.ref h0, .int x, .int n]) (n := 3) (Nat.le_of_ble_eq_true rfl)
  rw [lg_entry_eq]
  generalize (lg_sl ([.ref h0, .int x, .int n]) ++ List.replicate (3 - (lg_sl ([.ref h0, .int x, .int n])).length) Slot.unset).toArray = ls at hl ⊢
  have hl : lv_has ls 3 [(0, .ref h0), (1, .int x), (2, .int n)] := hl
  refine lv_aload_n hx hb dX0_months_0 rfl (lv_at hl 0 rfl) ?_
  refine lv_iload_n hx hb dX0_months_1 rfl (lv_at hl 1 rfl) ?_
  refine pd_callV (W.runV (As := [.int x]) (rest := []) ⟨hx, hb, hml, hown, hts⟩ (mX0_room l D z cA s.heap.size h0 ha g v x) (cwV 1 hts (lw_V q97 q99 qs0 q7 q100) rfl rfl rfl (by decide +kernel) ⟨Nat.le_of_ble_eq_true rfl, Nat.le_of_ble_eq_true rfl⟩) (pdDk_pre 0 rfl hK ⟨hP, hG⟩ hne hZ hS (fun q h => h)) rfl rfl hl.1 rfl (lv_room (Nat.le_of_ble_eq_true rfl)) dX0_months_2 ⟨Nat.zero_le _, Nat.zero_le _⟩) ?_
  refine W.eq (g2 := F0 m 5 ls [.int (pf_bit (pdOk v (pdK x)))]) rfl ?_
  refine lv_if_ne (tgt := 10) hx hb dX0_months_5 (by decide) (fun c_5 => ?_) (fun c_5 => ?_)
  · have hok : pdOk v (pdK x) = true := pf_bit_1 c_5
    obtain ⟨hy, hm, hd⟩ := pdRm_iff.mp hok
    refine lv_aload_n hx hb dX0_months_10 rfl (lv_at hl 0 rfl) ?_
    refine va_get (D := D) (ci := 0) (v := .ref ha) (C := RX0) (T := TX0) (N := 1) hx hb hts in_X0 hown hK hP 0 rfl rfl 0 (by decide) (hts _ q81) (fun _ h9 => h9) rfl dX0_months_11 ?_
    refine lv_iload_n hx hb dX0_months_14 rfl (lv_at hl 1 rfl) ?_
    refine lv_iconst (v := 1) hx hb dX0_months_15 (by decide) ?_
    refine lv_iand hx hb dX0_months_16 ?_
    refine lv_aload_n hx hb dX0_months_17 rfl (lv_at hl 0 rfl) ?_
    refine va_get (D := D) (ci := 0) (v := .ref ha) (C := RX0) (T := TX0) (N := 1) hx hb hts in_X0 hown hK hP 0 rfl rfl 0 (by decide) (hts _ q81) (fun _ h9 => h9) rfl dX0_months_18 ?_
    refine lv_iload_n hx hb dX0_months_21 rfl (lv_at hl 1 rfl) ?_
    refine lv_iconst (v := 1) hx hb dX0_months_22 (by decide) ?_
    refine lv_iand hx hb dX0_months_23 ?_
    refine va_aldq hx hb hK hP 1 0 rfl rfl (pdK_in x) dX0_months_24 ?_
    refine W.eq (g2 := F0 m 25 ls [.ref (g (pdK x)), .int (x &&& 1), .ref ha]) rfl ?_
    refine lv_iload_n hx hb dX0_months_25 rfl (lv_at hl 2 rfl) ?_
    refine pd_callV (W.runS (As := [.int n]) (rest := [.ref (g (pdK x)), .int (x &&& 1), .ref ha]) ⟨hx, hb, hml, hown, hts⟩ (mX0_small l n) (va_cwS 1 hts (lw_S q89 q90 q7 q91) rfl rfl rfl (by decide +kernel) ⟨Nat.le_of_ble_eq_true rfl, Nat.le_of_ble_eq_true rfl⟩) (pdT_preS) rfl rfl hl.1 rfl (lv_room (Nat.le_of_ble_eq_true rfl)) dX0_months_26 ⟨Nat.zero_le _, Nat.zero_le _⟩) ?_
    refine W.eq (g2 := F0 m 29 ls [.int (pf_small n), .ref (g (pdK x)), .int (x &&& 1), .ref ha]) rfl ?_
    refine lv_i2l hx hb dX0_months_29 rfl ?_
    refine pd_callR (W.runV (As := [.long ((pf_small n).toInt64)]) (rest := [.int (x &&& 1), .ref ha]) ⟨hx, hb, hml, hown, hts⟩ (mX2_plusMonths l D z s.heap.size (g (pdK x)) (v.1 (pdK x)) (v.2.1 (pdK x)) (v.2.2 (pdK x)) (pf_small n) (pd_days_fit hm n)) (cwV 1 hts (lw_V q721 q722 q723 q9 q724) rfl rfl rfl (by decide +kernel) ⟨Nat.le_of_ble_eq_true rfl, Nat.le_of_ble_eq_true rfl⟩) (pdMk_pre hK (hG _ (pdK_lt x)).1 hZ hS hA) rfl rfl hl.1 rfl (lv_room (Nat.le_of_ble_eq_true rfl)) dX0_months_30 ⟨Nat.le_of_ble_eq_true rfl, Nat.le_of_ble_eq_true rfl⟩) hS (fun q h => hA q h) (fun ra H locs hB hz1 hk1 hS => ?_)
    have hP := pd_keptN hP hk1
    have hG1 := pdPs_keptN hG hk1
    refine pd_ast (r := (RX2, TX2, 3)) hx hb hK hP hD hS 1 0 1 rfl rfl (hB.1.1 0 _ rfl) rfl (pdK_in x) dX0_months_33 (fun H1 locs hP hD hS hz2 hk2 => ?_)
    have hP : va_P D pdCl [(h0, .inr (0, [.ref ha])), (ha, .inl (cA, 2, .inr (.inr (.inr (.inr (va_up (fun j => some (g j)) (pdK x) (some ra)))))))] H1 := hP
    refine lv_iconst (v := 1) hx hb dX0_months_34 (by decide) ?_
    have e : pf_months x n v = (1, (pf_months x n v).2) := by unfold pf_months; rw [if_pos hok]
    have hv := pf_months_st (v := v) x n hok
    exact W.zret (v := 1) hx hb hr rfl (fun t ht hW => ⟨by rw [e], by rw [ht]; exact pd_fin hP hG1 hk2 hB.1 (hB.2) (pdK_lt x) hZ.2.2 hl0 hla hv, hS.F ht⟩) hS.2.2 dX0_months_35
  · refine lv_iconst (v := 0) hx hb dX0_months_8 (by decide) ?_
    have e : pf_months x n v = (0, v) := by unfold pf_months; exact if_neg (fun h => by rw [pf_bit_0 c_5] at h; cases h)
    refine W.widen (k := 1) (n := 3) (Nat.zero_le _) (Nat.zero_le _) ?_
    exact W.zret (v := 0) hx hb hr rfl (fun t ht hW => ⟨by rw [e], by rw [ht, e]; exact ⟨g, ⟨hP, hG⟩, fun j _ => Or.inl rfl⟩, hS.F ht⟩) hS.2.2 dX0_months_9
set_option maxHeartbeats 4000000 in
set_option maxRecDepth 100000 in
theorem mX0_set (l : Launch) (D : va_G) (z : Nat) (cA : ClassId) (sz h0 ha : Nat) (g : Nat → Nat) (v : pdS) (x a b k : Int32) : Met l yX0_set (ws_ yX0_set cX0_set 5 none) ({ frames := 7, cells := 1, slots := 3, locals := 280 }) (va_Pc [.ref h0, .int x, .int a, .int b, .int k] (pdDk D z cA sz h0 ha g v)) (pdG none (fun H => ∃ g', pdW D z cA h0 ha g' (pf_set x a b k v) H ∧ ∀ j, j < 2 → (g' j = g j ∨ g' j = z ∨ sz ≤ g' j)) (pdA h0 ha sz)) 1 3 (pdA h0 ha sz) := by
  refine Met.ofW (cc := cX0_set) (maxL := 5) (ret := none) (by decide) rfl ?_
  intro p e s m args below meth c s₁ B hml hv
  obtain ⟨rfl, hsz, hK, ⟨hP, hG⟩, hne, hZ⟩ := hv
  have hx := B.exec
  have hb := B.bytes
  have hr := B.returns
  have hts := atoms_spec (ws := (ws_ yX0_set cX0_set 5 none)) B.pre
  have hts : ∀ w ∈ lw_all, w.before _ s = true := fun w h => hts w (List.mem_cons_of_mem _ h)
  have hown : s.vm.findClass RX0 = some m.cls := findClass_of_methodNamed B.named
  have hlocks := B.notSynchronized
  subst hsz
  have hS : va_S (pdA h0 ha s.heap.size) s.heap s.heap [] := va_S.rf
  have hA : ∀ q : Nat, s.heap.size ≤ q → pdA h0 ha s.heap.size q := fun q h => Or.inr (Or.inr h)
  have hP : va_P D pdCl [(h0, .inr (0, [.ref ha])), (ha, .inl (cA, 2, .inr (.inr (.inr (.inr (fun j => some (g j)))))))] s.heap := hP
  have hl0 : h0 < s.heap.size := (hP 0 _ rfl).lt
  have hla : ha < s.heap.size := (hP 1 _ rfl).lt
  have hD : va_D (pdA h0 ha s.heap.size) [(h0, .inr (0, [.ref ha])), (ha, .inl (cA, 2, .inr (.inr (.inr (.inr (fun j => some (g j)))))))] := pd_D2 hne (Or.inl rfl) (Or.inr (Or.inl rfl))
  have hl := lv_entry ([.ref h0, .int x, .int a, .int b, .int k]) (n := 5) (Nat.le_of_ble_eq_true rfl)
  rw [lg_entry_eq]
  generalize (lg_sl ([.ref h0, .int x, .int a, .int b, .int k]) ++ List.replicate (5 - (lg_sl ([.ref h0, .int x, .int a, .int b, .int k])).length) Slot.unset).toArray = ls at hl ⊢
  have hl : lv_has ls 5 [(0, .ref h0), (1, .int x), (2, .int a), (3, .int b), (4, .int k)] := hl
  refine lv_aload_n hx hb dX0_set_0 rfl (lv_at hl 0 rfl) ?_
  refine va_get (D := D) (ci := 0) (v := .ref ha) (C := RX0) (T := TX0) (N := 1) hx hb hts in_X0 hown hK hP 0 rfl rfl 0 (by decide) (hts _ q81) (fun _ h9 => h9) rfl dX0_set_1 ?_
  refine lv_iload_n hx hb dX0_set_4 rfl (lv_at hl 1 rfl) ?_
  refine lv_iconst (v := 1) hx hb dX0_set_5 (by decide) ?_
  refine lv_iand hx hb dX0_set_6 ?_
  refine lv_iload_n hx hb dX0_set_7 rfl (lv_at hl 2 rfl) ?_
  refine pd_callV (W.runS (As := [.int a]) (rest := [.int (x &&& 1), .ref ha]) ⟨hx, hb, hml, hown, hts⟩ (mX0_small l a) (va_cwS 1 hts (lw_S q89 q90 q7 q91) rfl rfl rfl (by decide +kernel) ⟨Nat.le_of_ble_eq_true rfl, Nat.le_of_ble_eq_true rfl⟩) (pdT_preS) rfl rfl hl.1 rfl (lv_room (Nat.le_of_ble_eq_true rfl)) dX0_set_8 ⟨Nat.zero_le _, Nat.zero_le _⟩) ?_
  refine W.eq (g2 := F0 m 11 ls [.int (pf_small a), .int (x &&& 1), .ref ha]) rfl ?_
  refine lv_iload_n hx hb dX0_set_11 rfl (lv_at hl 3 rfl) ?_
  refine pd_callV (W.runS (As := [.int b]) (rest := [.int (pf_small a), .int (x &&& 1), .ref ha]) ⟨hx, hb, hml, hown, hts⟩ (mX0_small l b) (va_cwS 1 hts (lw_S q89 q90 q7 q91) rfl rfl rfl (by decide +kernel) ⟨Nat.le_of_ble_eq_true rfl, Nat.le_of_ble_eq_true rfl⟩) (pdT_preS) rfl rfl hl.1 rfl (lv_room (Nat.le_of_ble_eq_true rfl)) dX0_set_12 ⟨Nat.zero_le _, Nat.zero_le _⟩) ?_
  refine W.eq (g2 := F0 m 15 ls [.int (pf_small b), .int (pf_small a), .int (x &&& 1), .ref ha]) rfl ?_
  refine lv_iload hx hb dX0_set_15 (lv_at hl 4 rfl) ?_
  refine pd_callV (W.runS (As := [.int k]) (rest := [.int (pf_small b), .int (pf_small a), .int (x &&& 1), .ref ha]) ⟨hx, hb, hml, hown, hts⟩ (mX0_small l k) (va_cwS 1 hts (lw_S q89 q90 q7 q91) rfl rfl rfl (by decide +kernel) ⟨Nat.le_of_ble_eq_true rfl, Nat.le_of_ble_eq_true rfl⟩) (pdT_preS) rfl rfl hl.1 rfl (lv_room (Nat.le_of_ble_eq_true rfl)) dX0_set_17 ⟨Nat.zero_le _, Nat.zero_le _⟩) ?_
  refine W.eq (g2 := F0 m 20 ls [.int (pf_small k), .int (pf_small b), .int (pf_small a), .int (x &&& 1), .ref ha]) rfl ?_
  refine pd_callR (W.runS (As := [.int (pf_small a), .int (pf_small b), .int (pf_small k)]) (rest := [.int (x &&& 1), .ref ha]) ⟨hx, hb, hml, hown, hts⟩ (mX2_of l D z s.heap.size (pf_small a) (pf_small b) (pf_small k)) (va_cwS 3 hts (lw_S q54 q55 q9 q56) rfl rfl rfl (by decide +kernel) ⟨Nat.le_of_ble_eq_true rfl, Nat.le_of_ble_eq_true rfl⟩) (pdMs_preS hK hZ hS hA) rfl rfl hl.1 rfl (lv_room (Nat.le_of_ble_eq_true rfl)) dX0_set_20 ⟨Nat.le_of_ble_eq_true rfl, Nat.le_of_ble_eq_true rfl⟩) hS (fun q h => hA q h) (fun ra H locs hB hz1 hk1 hS => ?_)
  have hP := pd_keptN hP hk1
  have hG1 := pdPs_keptN hG hk1
  refine pd_ast (r := (RX2, TX2, 3)) hx hb hK hP hD hS 1 0 1 rfl rfl (hB.1.1 0 _ rfl) rfl (pdK_in x) dX0_set_23 (fun H1 locs hP hD hS hz2 hk2 => ?_)
  have hP : va_P D pdCl [(h0, .inr (0, [.ref ha])), (ha, .inl (cA, 2, .inr (.inr (.inr (.inr (va_up (fun j => some (g j)) (pdK x) (some ra)))))))] H1 := hP
  have hv : (((pf_set x a b k v).1 (pdK x) = _ ∧ (pf_set x a b k v).2.1 (pdK x) = _ ∧ (pf_set x a b k v).2.2 (pdK x) = _) ∧ ∀ j, j ≠ pdK x → (pf_set x a b k v).1 j = v.1 j ∧ (pf_set x a b k v).2.1 j = v.2.1 j ∧ (pf_set x a b k v).2.2 j = v.2.2 j) := ⟨⟨pk_us, pk_us, pk_us⟩, fun j hj => ⟨pk_un hj, pk_un hj, pk_un hj⟩⟩
  exact W.vret hx hb hr (fun t ht hW => ⟨rfl, by rw [ht]; exact pd_fin hP hG1 hk2 hB.1 (Or.inr hB.2) (pdK_lt x) hZ.2.2 hl0 hla hv, hS.F ht⟩) hS.2.2 dX0_set_24
end
section
/-! PeriodDeskModel: its object and its three arrays -/
set_option maxRecDepth 100000
def pdB (hm a1 a2 a3 sz : Nat) : Nat → Prop := fun q => q = hm ∨ q = a1 ∨ q = a2 ∨ q = a3 ∨ sz ≤ q
abbrev pdMw (c1 c2 c3 : ClassId) (hm a1 a2 a3 : Nat) (v : pdS) : va_W := [(hm, .inr (2, [.ref a1, .ref a2, .ref a3])), (a1, .inl (c1, 2, .inl v.1)), (a2, .inl (c2, 2, .inl v.2.1)), (a3, .inl (c3, 2, .inl v.2.2))]
def pdMd (D : va_G) (c1 c2 c3 : ClassId) (sz hm a1 a2 a3 : Nat) (v : pdS) (U : State) : Prop := U.heap.size = sz ∧ va_K D pdCl [(c1, .int), (c2, .int), (c3, .int)] U ∧ va_P D pdCl (pdMw c1 c2 c3 hm a1 a2 a3 v) U.heap ∧ va_D (fun _ => True) (pdMw c1 c2 c3 hm a1 a2 a3 v)
theorem pdMd_D {A : Nat → Prop} {c1 c2 c3 : ClassId} {sz hm a1 a2 a3 : Nat} {v : pdS} (h : va_D A (pdMw c1 c2 c3 hm a1 a2 a3 v)) : va_D (pdB hm a1 a2 a3 sz) (pdMw c1 c2 c3 hm a1 a2 a3 v) := h.weaken (fun k q hk _ => by
  match k, hk with
  | 0, hk => cases hk; exact Or.inl rfl
  | 1, hk => cases hk; exact Or.inr (Or.inl rfl)
  | 2, hk => cases hk; exact Or.inr (Or.inr (Or.inl rfl))
  | 3, hk => cases hk; exact Or.inr (Or.inr (Or.inr (Or.inl rfl)))
  | k + 4, hk => simp at hk)
theorem pdMd_pre {D : va_G} {c1 c2 c3 : ClassId} {hm a1 a2 a3 : Nat} {v : pdS} {tys : List (ClassId × FieldType)} {A : Nat → Prop} {s : State} {H : Heap} {As : List Value} (is : List Nat) (ht : is.filterMap (fun i => tys[i]?) = [(c1, .int), (c2, .int), (c3, .int)]) (hK : va_K D pdCl tys s) (hP : va_P D pdCl (pdMw c1 c2 c3 hm a1 a2 a3 v) H) (hD : va_D A (pdMw c1 c2 c3 hm a1 a2 a3 v)) : PreV s H RX3 hm (va_Pc (.ref hm :: As) (pdMd D c1 c2 c3 H.size hm a1 a2 a3 v)) As :=
  ⟨fun a U g mk q => ⟨q.1, q.2.1, pdK_blind g mk a q.2.2.1, q.2.2.2⟩, va_recv hK hP (ci := 2) (q0 := 0) rfl rfl, fun U hU hW2 => ⟨rfl, by rw [hU], (va_K.moved hW2.alike hK).sub is ht, by rw [hU]; exact hP, hD.weaken (fun _ _ _ _ => trivial)⟩⟩
def pf_nbit (b : Bool) : Int32 := if b = true then 0 else 1
theorem pf_nbit_0 {b : Bool} (h : pf_nbit b = 0) : b = true := by cases b <;> simp_all [pf_nbit]
theorem pf_nbit_1 {b : Bool} (h : ¬ pf_nbit b = 0) : b = false := by cases b <;> simp_all [pf_nbit]
theorem pf_nbit_t {b : Bool} (h : b = true) : pf_nbit b = 0 := by rw [h]; rfl
theorem pf_nbit_f {b : Bool} (h : ¬ b = true) : pf_nbit b = 1 := by cases b <;> simp_all [pf_nbit]
theorem pd_c0 : (0 : Int32).toNatClampNeg = 0 := by decide
theorem pd_c1 : (1 : Int32).toNatClampNeg = 1 := by decide
theorem pd_i0 : vp_in 0 2 := by unfold vp_in; decide
theorem pd_i1 : vp_in 1 2 := by unfold vp_in; decide
theorem pf_adds_nar (g x : Int32) (v : pdS) : narrow .boolean (.int (pf_adds g x v).1) = .int (pf_adds g x v).1 := by unfold pf_adds; split <;> (dsimp only; rfl)
theorem pf_takes_nar (x t : Int32) (v : pdS) : narrow .boolean (.int (pf_takes x t v).1) = .int (pf_takes x t v).1 := by unfold pf_takes; split <;> (dsimp only; rfl)
set_option maxHeartbeats 4000000 in
set_option maxRecDepth 100000 in
theorem mX3_small (l : Launch) (n : Int32) : Met l yX3_small (ws_ yX3_small cX3_small 1 (some .int)) ({ frames := 0, cells := 0, slots := 0, locals := 0 }) (va_Pc [.int n] (fun _ => True)) (k2_QcV (.int (pf_small n))) 0 0 (fun _ => False) := by
  refine Met.ofW (cc := cX3_small) (maxL := 1) (ret := (some .int)) (by decide) rfl ?_
  intro p e s m args below meth c s₁ B hml hv
  obtain ⟨rfl, -⟩ := hv
  have hx := B.exec
  have hb := B.bytes
  have hr := B.returns
  have hts := atoms_spec (ws := (ws_ yX3_small cX3_small 1 (some .int))) B.pre
  have hts : ∀ w ∈ lw_all, w.before _ s = true := fun w h => hts w (List.mem_cons_of_mem _ h)
  have hown : s.vm.findClass RX3 = some m.cls := findClass_of_methodNamed B.named
  have hlocks := B.notSynchronized
  have hl := lv_entry ([.int n]) (n := 1) (Nat.le_of_ble_eq_true rfl)
  rw [lg_entry_eq]
  generalize (lg_sl ([.int n]) ++ List.replicate (1 - (lg_sl ([.int n])).length) Slot.unset).toArray = ls at hl ⊢
  have hl : lv_has ls 1 [(0, .int n)] := hl
  refine lv_iload_n hx hb dX3_small_0 rfl (lv_at hl 0 rfl) ?_
  refine lv_ldc hx hb hown (hts _ q782) dX3_small_1 ?_
  refine lv_irem hx hb dX3_small_3 (by decide) ?_
  exact W.iret (v := (n - n / 1000000 * 1000000)) hx hb hr (fun t ht hW => ⟨rfl, ht⟩) (fun q h => by cases h) dX3_small_4
set_option maxHeartbeats 4000000 in
set_option maxRecDepth 100000 in
theorem mX3_isSmall (l : Launch) (n : Int32) : Met l yX3_isSmall (ws_ yX3_isSmall cX3_isSmall 1 (some .boolean)) ({ frames := 0, cells := 0, slots := 0, locals := 0 }) (va_Pc [.int n] (fun _ => True)) (k2_QcV (.int (pf_bit (pdSm n)))) 0 0 (fun _ => False) := by
  refine Met.ofW (cc := cX3_isSmall) (maxL := 1) (ret := (some .boolean)) (by decide) rfl ?_
  intro p e s m args below meth c s₁ B hml hv
  obtain ⟨rfl, -⟩ := hv
  have hx := B.exec
  have hb := B.bytes
  have hr := B.returns
  have hts := atoms_spec (ws := (ws_ yX3_isSmall cX3_isSmall 1 (some .boolean))) B.pre
  have hts : ∀ w ∈ lw_all, w.before _ s = true := fun w h => hts w (List.mem_cons_of_mem _ h)
  have hown : s.vm.findClass RX3 = some m.cls := findClass_of_methodNamed B.named
  have hlocks := B.notSynchronized
  have hl := lv_entry ([.int n]) (n := 1) (Nat.le_of_ble_eq_true rfl)
  rw [lg_entry_eq]
  generalize (lg_sl ([.int n]) ++ List.replicate (1 - (lg_sl ([.int n])).length) Slot.unset).toArray = ls at hl ⊢
  have hl : lv_has ls 1 [(0, .int n)] := hl
  refine lv_iload_n hx hb dX3_isSmall_0 rfl (lv_at hl 0 rfl) ?_
  refine lv_ldc hx hb hown (hts _ q798) dX3_isSmall_1 ?_
  refine lv_icmp_ge (tgt := 16) hx hb dX3_isSmall_3 (by decide) (fun c_3 => ?_) (fun c_3 => ?_)
  · refine lv_iconst (v := 0) hx hb dX3_isSmall_16 (by decide) ?_
    exact W.zret (v := 0) hx hb hr rfl (fun t ht hW => ⟨by rw [pf_bit_f (fun h => ((pdSm_def n).mp h).1 c_3)], ht⟩) (fun q h => by cases h) dX3_isSmall_17
  · refine lv_iload_n hx hb dX3_isSmall_6 rfl (lv_at hl 0 rfl) ?_
    refine lv_ldc hx hb hown (hts _ q799) dX3_isSmall_7 ?_
    refine lv_icmp_le (tgt := 16) hx hb dX3_isSmall_9 (by decide) (fun c_9 => ?_) (fun c_9 => ?_)
    · refine lv_iconst (v := 0) hx hb dX3_isSmall_16 (by decide) ?_
      exact W.zret (v := 0) hx hb hr rfl (fun t ht hW => ⟨by rw [pf_bit_f (fun h => ((pdSm_def n).mp h).2 c_9)], ht⟩) (fun q h => by cases h) dX3_isSmall_17
    · refine lv_iconst (v := 1) hx hb dX3_isSmall_12 (by decide) ?_
      refine lv_goto (tgt := 17) hx hb dX3_isSmall_13 (by decide) ?_
      exact W.zret (v := 1) hx hb hr rfl (fun t ht hW => ⟨by rw [pf_bit_t ((pdSm_def n).mpr ⟨c_3, c_9⟩)], ht⟩) (fun q h => by cases h) dX3_isSmall_17
set_option maxHeartbeats 4000000 in
set_option maxRecDepth 100000 in
theorem mX3_lacksRoom (l : Launch) (D : va_G) (c1 c2 c3 : ClassId) (sz hm a1 a2 a3 : Nat) (v : pdS) (k : Int32) (hk : vp_in k 2) : Met l yX3_lacksRoom (ws_ yX3_lacksRoom cX3_lacksRoom 2 (some .boolean)) ({ frames := 1, cells := 0, slots := 0, locals := 40 }) (va_Pc [.ref hm, .int k] (pdMd D c1 c2 c3 sz hm a1 a2 a3 v)) (k2_QcV (.int (pf_nbit (pdOk v (k.toNatClampNeg))))) 0 0 (fun _ => False) := by
  refine Met.ofW (cc := cX3_lacksRoom) (maxL := 2) (ret := (some .boolean)) (by decide) rfl ?_
  intro p e s m args below meth c s₁ B hml hv
  obtain ⟨rfl, hsz, hK, hP, hD⟩ := hv
  have hx := B.exec
  have hb := B.bytes
  have hr := B.returns
  have hts := atoms_spec (ws := (ws_ yX3_lacksRoom cX3_lacksRoom 2 (some .boolean))) B.pre
  have hts : ∀ w ∈ lw_all, w.before _ s = true := fun w h => hts w (List.mem_cons_of_mem _ h)
  have hown : s.vm.findClass RX3 = some m.cls := findClass_of_methodNamed B.named
  have hlocks := B.notSynchronized
  subst hsz
  have hS : va_S (pdB hm a1 a2 a3 s.heap.size) s.heap s.heap [] := va_S.rf
  have hD0 := hD
  have hD : va_D (pdB hm a1 a2 a3 s.heap.size) [(hm, .inr (2, [.ref a1, .ref a2, .ref a3])), (a1, .inl (c1, 2, .inl v.1)), (a2, .inl (c2, 2, .inl v.2.1)), (a3, .inl (c3, 2, .inl v.2.2))] := pdMd_D hD
  have hP : va_P D pdCl [(hm, .inr (2, [.ref a1, .ref a2, .ref a3])), (a1, .inl (c1, 2, .inl v.1)), (a2, .inl (c2, 2, .inl v.2.1)), (a3, .inl (c3, 2, .inl v.2.2))] s.heap := hP
  have hl := lv_entry ([.ref hm, .int k]) (n := 2) (Nat.le_of_ble_eq_true rfl)
  rw [lg_entry_eq]
  generalize (lg_sl ([.ref hm, .int k]) ++ List.replicate (2 - (lg_sl ([.ref hm, .int k])).length) Slot.unset).toArray = ls at hl ⊢
  have hl : lv_has ls 2 [(0, .ref hm), (1, .int k)] := hl
  refine lv_aload_n hx hb dX3_lacksRoom_0 rfl (lv_at hl 0 rfl) ?_
  refine va_get (D := D) (ci := 2) (v := .ref a1) (C := RX3) (T := TX3) (N := 3) hx hb hts in_X3 hown hK hP 0 rfl rfl 0 (by decide) (hts _ q764) (fun _ h9 => h9) rfl dX3_lacksRoom_1 ?_
  refine lv_iload_n hx hb dX3_lacksRoom_4 rfl (lv_at hl 1 rfl) ?_
  refine va_iald hx hb hK hP 1 0 rfl rfl hk dX3_lacksRoom_5 ?_
  refine pd_callV (W.runS (As := [.int (v.1 (k.toNatClampNeg))]) (rest := []) ⟨hx, hb, hml, hown, hts⟩ (mX3_isSmall l (v.1 (k.toNatClampNeg))) (va_cwS 1 hts (lw_S q795 q796 q10 q797) rfl rfl rfl (by decide +kernel) ⟨Nat.le_of_ble_eq_true rfl, Nat.le_of_ble_eq_true rfl⟩) (pdT_preS) rfl rfl hl.1 rfl (lv_room (Nat.le_of_ble_eq_true rfl)) dX3_lacksRoom_6 ⟨Nat.zero_le _, Nat.zero_le _⟩) ?_
  refine W.eq (g2 := F0 m 9 ls [.int (pf_bit (pdSm (v.1 (k.toNatClampNeg))))]) rfl ?_
  refine lv_if_eq (tgt := 36) hx hb dX3_lacksRoom_9 (by decide) (fun c_9 => ?_) (fun c_9 => ?_)
  · refine lv_iconst (v := 1) hx hb dX3_lacksRoom_36 (by decide) ?_
    refine lv_goto (tgt := 41) hx hb dX3_lacksRoom_37 (by decide) ?_
    exact W.zret (v := 1) hx hb hr rfl (fun t ht hW => ⟨by rw [pf_nbit_f (fun h => by have h2 := (pdRm_iff.mp h).1; rw [pf_bit_0 c_9] at h2; cases h2)], ht⟩) (fun q h => by cases h) dX3_lacksRoom_41
  · refine lv_aload_n hx hb dX3_lacksRoom_12 rfl (lv_at hl 0 rfl) ?_
    refine va_get (D := D) (ci := 2) (v := .ref a2) (C := RX3) (T := TX3) (N := 3) hx hb hts in_X3 hown hK hP 0 rfl rfl 1 (by decide) (hts _ q765) (fun _ h9 => h9) rfl dX3_lacksRoom_13 ?_
    refine lv_iload_n hx hb dX3_lacksRoom_16 rfl (lv_at hl 1 rfl) ?_
    refine va_iald hx hb hK hP 2 1 rfl rfl hk dX3_lacksRoom_17 ?_
    refine pd_callV (W.runS (As := [.int (v.2.1 (k.toNatClampNeg))]) (rest := []) ⟨hx, hb, hml, hown, hts⟩ (mX3_isSmall l (v.2.1 (k.toNatClampNeg))) (va_cwS 1 hts (lw_S q795 q796 q10 q797) rfl rfl rfl (by decide +kernel) ⟨Nat.le_of_ble_eq_true rfl, Nat.le_of_ble_eq_true rfl⟩) (pdT_preS) rfl rfl hl.1 rfl (lv_room (Nat.le_of_ble_eq_true rfl)) dX3_lacksRoom_18 ⟨Nat.zero_le _, Nat.zero_le _⟩) ?_
    refine W.eq (g2 := F0 m 21 ls [.int (pf_bit (pdSm (v.2.1 (k.toNatClampNeg))))]) rfl ?_
    refine lv_if_eq (tgt := 36) hx hb dX3_lacksRoom_21 (by decide) (fun c_21 => ?_) (fun c_21 => ?_)
    · refine lv_iconst (v := 1) hx hb dX3_lacksRoom_36 (by decide) ?_
      refine lv_goto (tgt := 41) hx hb dX3_lacksRoom_37 (by decide) ?_
      exact W.zret (v := 1) hx hb hr rfl (fun t ht hW => ⟨by rw [pf_nbit_f (fun h => by have h2 := (pdRm_iff.mp h).2.1; rw [pf_bit_0 c_21] at h2; cases h2)], ht⟩) (fun q h => by cases h) dX3_lacksRoom_41
    · refine lv_aload_n hx hb dX3_lacksRoom_24 rfl (lv_at hl 0 rfl) ?_
      refine va_get (D := D) (ci := 2) (v := .ref a3) (C := RX3) (T := TX3) (N := 3) hx hb hts in_X3 hown hK hP 0 rfl rfl 2 (by decide) (hts _ q766) (fun _ h9 => h9) rfl dX3_lacksRoom_25 ?_
      refine lv_iload_n hx hb dX3_lacksRoom_28 rfl (lv_at hl 1 rfl) ?_
      refine va_iald hx hb hK hP 3 2 rfl rfl hk dX3_lacksRoom_29 ?_
      refine pd_callV (W.runS (As := [.int (v.2.2 (k.toNatClampNeg))]) (rest := []) ⟨hx, hb, hml, hown, hts⟩ (mX3_isSmall l (v.2.2 (k.toNatClampNeg))) (va_cwS 1 hts (lw_S q795 q796 q10 q797) rfl rfl rfl (by decide +kernel) ⟨Nat.le_of_ble_eq_true rfl, Nat.le_of_ble_eq_true rfl⟩) (pdT_preS) rfl rfl hl.1 rfl (lv_room (Nat.le_of_ble_eq_true rfl)) dX3_lacksRoom_30 ⟨Nat.zero_le _, Nat.zero_le _⟩) ?_
      refine W.eq (g2 := F0 m 33 ls [.int (pf_bit (pdSm (v.2.2 (k.toNatClampNeg))))]) rfl ?_
      refine lv_if_ne (tgt := 40) hx hb dX3_lacksRoom_33 (by decide) (fun c_33 => ?_) (fun c_33 => ?_)
      · refine lv_iconst (v := 0) hx hb dX3_lacksRoom_40 (by decide) ?_
        exact W.zret (v := 0) hx hb hr rfl (fun t ht hW => ⟨by rw [show pf_nbit (pdOk v (k.toNatClampNeg)) = 0 from pf_nbit_t (pdRm_iff.mpr ⟨pf_bit_1 c_9, pf_bit_1 c_21, pf_bit_1 c_33⟩)], ht⟩) (fun q h => by cases h) dX3_lacksRoom_41
      · refine lv_iconst (v := 1) hx hb dX3_lacksRoom_36 (by decide) ?_
        refine lv_goto (tgt := 41) hx hb dX3_lacksRoom_37 (by decide) ?_
        exact W.zret (v := 1) hx hb hr rfl (fun t ht hW => ⟨by rw [pf_nbit_f (fun h => by have h2 := (pdRm_iff.mp h).2.2; rw [pf_bit_0 c_33] at h2; cases h2)], ht⟩) (fun q h => by cases h) dX3_lacksRoom_41
set_option maxHeartbeats 4000000 in
set_option maxRecDepth 100000 in
theorem mX3_adds (l : Launch) (D : va_G) (c1 c2 c3 : ClassId) (sz hm a1 a2 a3 : Nat) (v : pdS) (x g : Int32) : Met l yX3_adds (ws_ yX3_adds cX3_adds 4 (some .boolean)) ({ frames := 2, cells := 0, slots := 0, locals := 80 }) (va_Pc [.ref hm, .int x, .int g] (pdMd D c1 c2 c3 sz hm a1 a2 a3 v)) (pdG (some (.int (pf_adds g x v).1)) (fun H => va_P D pdCl (pdMw c1 c2 c3 hm a1 a2 a3 (pf_adds g x v).2) H) (pdB hm a1 a2 a3 sz)) 0 0 (pdB hm a1 a2 a3 sz) := by
  refine Met.ofW (cc := cX3_adds) (maxL := 4) (ret := (some .boolean)) (by decide) rfl ?_
  intro p e s m args below meth c s₁ B hml hv
  obtain ⟨rfl, hsz, hK, hP, hD⟩ := hv
  have hx := B.exec
  have hb := B.bytes
  have hr := B.returns
  have hts := atoms_spec (ws := (ws_ yX3_adds cX3_adds 4 (some .boolean))) B.pre
  have hts : ∀ w ∈ lw_all, w.before _ s = true := fun w h => hts w (List.mem_cons_of_mem _ h)
  have hown : s.vm.findClass RX3 = some m.cls := findClass_of_methodNamed B.named
  have hlocks := B.notSynchronized
  subst hsz
  have hS : va_S (pdB hm a1 a2 a3 s.heap.size) s.heap s.heap [] := va_S.rf
  have hD0 := hD
  have hD : va_D (pdB hm a1 a2 a3 s.heap.size) [(hm, .inr (2, [.ref a1, .ref a2, .ref a3])), (a1, .inl (c1, 2, .inl v.1)), (a2, .inl (c2, 2, .inl v.2.1)), (a3, .inl (c3, 2, .inl v.2.2))] := pdMd_D hD
  have hP : va_P D pdCl [(hm, .inr (2, [.ref a1, .ref a2, .ref a3])), (a1, .inl (c1, 2, .inl v.1)), (a2, .inl (c2, 2, .inl v.2.1)), (a3, .inl (c3, 2, .inl v.2.2))] s.heap := hP
  have hl := lv_entry ([.ref hm, .int x, .int g]) (n := 4) (Nat.le_of_ble_eq_true rfl)
  rw [lg_entry_eq]
  generalize (lg_sl ([.ref hm, .int x, .int g]) ++ List.replicate (4 - (lg_sl ([.ref hm, .int x, .int g])).length) Slot.unset).toArray = ls at hl ⊢
  have hl : lv_has ls 4 [(0, .ref hm), (1, .int x), (2, .int g)] := hl
  refine lv_aload_n hx hb dX3_adds_0 rfl (lv_at hl 0 rfl) ?_
  refine lv_iconst (v := 0) hx hb dX3_adds_1 (by decide) ?_
  refine pd_callV (W.runV (As := [.int 0]) (rest := []) ⟨hx, hb, hml, hown, hts⟩ (mX3_lacksRoom l D c1 c2 c3 s.heap.size hm a1 a2 a3 v 0 pd_i0) (cwV 1 hts (lw_V q791 q793 qs4 q10 q794) rfl rfl rfl (by decide +kernel) ⟨Nat.le_of_ble_eq_true rfl, Nat.le_of_ble_eq_true rfl⟩) (pdMd_pre [0, 1, 2] rfl hK hP hD0) rfl rfl hl.1 rfl (lv_room (Nat.le_of_ble_eq_true rfl)) dX3_adds_2 ⟨Nat.zero_le _, Nat.zero_le _⟩) ?_
  refine W.eq (g2 := F0 m 5 ls [.int (pf_nbit (pdOk v 0))]) (by rw [pd_c0]) ?_
  refine lv_if_ne (tgt := 16) hx hb dX3_adds_5 (by decide) (fun c_5 => ?_) (fun c_5 => ?_)
  · refine lv_iconst (v := 0) hx hb dX3_adds_16 (by decide) ?_
    have e : pf_adds g x v = (0, v) := by unfold pf_adds; exact if_neg (fun h => by rw [pf_nbit_1 c_5] at h; cases h)
    exact W.zret (v := 0) hx hb hr rfl (fun t ht hW => ⟨by rw [e], by rw [ht, e]; exact hP, hS.F ht⟩) hS.2.2 dX3_adds_17
  · refine lv_aload_n hx hb dX3_adds_8 rfl (lv_at hl 0 rfl) ?_
    refine lv_iconst (v := 1) hx hb dX3_adds_9 (by decide) ?_
    refine pd_callV (W.runV (As := [.int 1]) (rest := []) ⟨hx, hb, hml, hown, hts⟩ (mX3_lacksRoom l D c1 c2 c3 s.heap.size hm a1 a2 a3 v 1 pd_i1) (cwV 1 hts (lw_V q791 q793 qs4 q10 q794) rfl rfl rfl (by decide +kernel) ⟨Nat.le_of_ble_eq_true rfl, Nat.le_of_ble_eq_true rfl⟩) (pdMd_pre [0, 1, 2] rfl hK hP hD0) rfl rfl hl.1 rfl (lv_room (Nat.le_of_ble_eq_true rfl)) dX3_adds_10 ⟨Nat.zero_le _, Nat.zero_le _⟩) ?_
    refine W.eq (g2 := F0 m 13 ls [.int (pf_nbit (pdOk v 1))]) (by rw [pd_c1]) ?_
    refine lv_if_eq (tgt := 18) hx hb dX3_adds_13 (by decide) (fun c_13 => ?_) (fun c_13 => ?_)
    · have hok : (pdOk v 0 && pdOk v 1) = true := by rw [pf_nbit_0 c_5, pf_nbit_0 c_13]; rfl
      refine lv_iload_n hx hb dX3_adds_18 rfl (lv_at hl 1 rfl) ?_
      refine lv_iconst (v := 1) hx hb dX3_adds_19 (by decide) ?_
      refine lv_iand hx hb dX3_adds_20 ?_
      refine lv_istore_n (lv' := [(3, .int (x &&& 1)), (0, .ref hm), (1, .int x), (2, .int g)]) hx hb dX3_adds_21 rfl hl (by decide) rfl (fun ls hl => ?_)
      refine lv_aload_n hx hb dX3_adds_22 rfl (lv_at hl 1 rfl) ?_
      refine va_get (D := D) (ci := 2) (v := .ref a1) (C := RX3) (T := TX3) (N := 3) hx hb hts in_X3 hown hK hP 0 rfl rfl 0 (by decide) (hts _ q764) (fun _ h9 => h9) rfl dX3_adds_23 ?_
      refine lv_iload_n hx hb dX3_adds_26 rfl (lv_at hl 0 rfl) ?_
      refine lv_dup2_11 hx hb dX3_adds_27 rfl rfl ?_
      refine va_iald hx hb hK hP 1 0 rfl rfl (pdK_in x) dX3_adds_28 ?_
      refine lv_iload_n hx hb dX3_adds_29 rfl (lv_at hl 3 rfl) ?_
      refine lv_aload_n hx hb dX3_adds_30 rfl (lv_at hl 1 rfl) ?_
      refine va_get (D := D) (ci := 2) (v := .ref a1) (C := RX3) (T := TX3) (N := 3) hx hb hts in_X3 hown hK hP 0 rfl rfl 0 (by decide) (hts _ q764) (fun _ h9 => h9) rfl dX3_adds_31 ?_
      refine lv_iconst (v := 1) hx hb dX3_adds_34 (by decide) ?_
      refine lv_iload_n hx hb dX3_adds_35 rfl (lv_at hl 0 rfl) ?_
      refine lv_isub hx hb dX3_adds_36 ?_
      refine va_iald hx hb hK hP 1 0 rfl rfl (pdK_oin x) dX3_adds_37 ?_
      refine W.eq (g2 := F0 m 38 ls [.int (v.1 (1 - pdK x)), .int g, .int (v.1 (pdK x)), .int (x &&& 1), .ref a1]) (by rw [pdK_on]; rfl) ?_
      refine lv_imul hx hb dX3_adds_38 ?_
      refine lv_iadd hx hb dX3_adds_39 ?_
      refine va_iast hx hb hK hP hD hS 1 0 rfl rfl (pdK_in x) dX3_adds_40 (fun H locs hP hD hS => ?_)
      have hP : va_P D pdCl [(hm, .inr (2, [.ref a1, .ref a2, .ref a3])), (a1, .inl (c1, 2, .inl (upd v.1 (pdK x) ((v.1 (pdK x)) + (g * (v.1 (1 - pdK x))))))), (a2, .inl (c2, 2, .inl v.2.1)), (a3, .inl (c3, 2, .inl v.2.2))] H := hP
      have hD : va_D (pdB hm a1 a2 a3 s.heap.size) [(hm, .inr (2, [.ref a1, .ref a2, .ref a3])), (a1, .inl (c1, 2, .inl (upd v.1 (pdK x) ((v.1 (pdK x)) + (g * (v.1 (1 - pdK x))))))), (a2, .inl (c2, 2, .inl v.2.1)), (a3, .inl (c3, 2, .inl v.2.2))] := hD
      refine lv_aload_n hx hb dX3_adds_41 rfl (lv_at hl 1 rfl) ?_
      refine va_get (D := D) (ci := 2) (v := .ref a2) (C := RX3) (T := TX3) (N := 3) hx hb hts in_X3 hown hK hP 0 rfl rfl 1 (by decide) (hts _ q765) (fun _ h9 => h9) rfl dX3_adds_42 ?_
      refine lv_iload_n hx hb dX3_adds_45 rfl (lv_at hl 0 rfl) ?_
      refine lv_dup2_11 hx hb dX3_adds_46 rfl rfl ?_
      refine va_iald hx hb hK hP 2 1 rfl rfl (pdK_in x) dX3_adds_47 ?_
      refine lv_iload_n hx hb dX3_adds_48 rfl (lv_at hl 3 rfl) ?_
      refine lv_aload_n hx hb dX3_adds_49 rfl (lv_at hl 1 rfl) ?_
      refine va_get (D := D) (ci := 2) (v := .ref a2) (C := RX3) (T := TX3) (N := 3) hx hb hts in_X3 hown hK hP 0 rfl rfl 1 (by decide) (hts _ q765) (fun _ h9 => h9) rfl dX3_adds_50 ?_
      refine lv_iconst (v := 1) hx hb dX3_adds_53 (by decide) ?_
      refine lv_iload_n hx hb dX3_adds_54 rfl (lv_at hl 0 rfl) ?_
      refine lv_isub hx hb dX3_adds_55 ?_
      refine va_iald hx hb hK hP 2 1 rfl rfl (pdK_oin x) dX3_adds_56 ?_
      refine W.eq (g2 := F0 m 57 ls [.int (v.2.1 (1 - pdK x)), .int g, .int (v.2.1 (pdK x)), .int (x &&& 1), .ref a2]) (by rw [pdK_on]; rfl) ?_
      refine lv_imul hx hb dX3_adds_57 ?_
      refine lv_iadd hx hb dX3_adds_58 ?_
      refine va_iast hx hb hK hP hD hS 2 1 rfl rfl (pdK_in x) dX3_adds_59 (fun H locs hP hD hS => ?_)
      have hP : va_P D pdCl [(hm, .inr (2, [.ref a1, .ref a2, .ref a3])), (a1, .inl (c1, 2, .inl (upd v.1 (pdK x) ((v.1 (pdK x)) + (g * (v.1 (1 - pdK x))))))), (a2, .inl (c2, 2, .inl (upd v.2.1 (pdK x) ((v.2.1 (pdK x)) + (g * (v.2.1 (1 - pdK x))))))), (a3, .inl (c3, 2, .inl v.2.2))] H := hP
      have hD : va_D (pdB hm a1 a2 a3 s.heap.size) [(hm, .inr (2, [.ref a1, .ref a2, .ref a3])), (a1, .inl (c1, 2, .inl (upd v.1 (pdK x) ((v.1 (pdK x)) + (g * (v.1 (1 - pdK x))))))), (a2, .inl (c2, 2, .inl (upd v.2.1 (pdK x) ((v.2.1 (pdK x)) + (g * (v.2.1 (1 - pdK x))))))), (a3, .inl (c3, 2, .inl v.2.2))] := hD
      refine lv_aload_n hx hb dX3_adds_60 rfl (lv_at hl 1 rfl) ?_
      refine va_get (D := D) (ci := 2) (v := .ref a3) (C := RX3) (T := TX3) (N := 3) hx hb hts in_X3 hown hK hP 0 rfl rfl 2 (by decide) (hts _ q766) (fun _ h9 => h9) rfl dX3_adds_61 ?_
      refine lv_iload_n hx hb dX3_adds_64 rfl (lv_at hl 0 rfl) ?_
      refine lv_dup2_11 hx hb dX3_adds_65 rfl rfl ?_
      refine va_iald hx hb hK hP 3 2 rfl rfl (pdK_in x) dX3_adds_66 ?_
      refine lv_iload_n hx hb dX3_adds_67 rfl (lv_at hl 3 rfl) ?_
      refine lv_aload_n hx hb dX3_adds_68 rfl (lv_at hl 1 rfl) ?_
      refine va_get (D := D) (ci := 2) (v := .ref a3) (C := RX3) (T := TX3) (N := 3) hx hb hts in_X3 hown hK hP 0 rfl rfl 2 (by decide) (hts _ q766) (fun _ h9 => h9) rfl dX3_adds_69 ?_
      refine lv_iconst (v := 1) hx hb dX3_adds_72 (by decide) ?_
      refine lv_iload_n hx hb dX3_adds_73 rfl (lv_at hl 0 rfl) ?_
      refine lv_isub hx hb dX3_adds_74 ?_
      refine va_iald hx hb hK hP 3 2 rfl rfl (pdK_oin x) dX3_adds_75 ?_
      refine W.eq (g2 := F0 m 76 ls [.int (v.2.2 (1 - pdK x)), .int g, .int (v.2.2 (pdK x)), .int (x &&& 1), .ref a3]) (by rw [pdK_on]; rfl) ?_
      refine lv_imul hx hb dX3_adds_76 ?_
      refine lv_iadd hx hb dX3_adds_77 ?_
      refine va_iast hx hb hK hP hD hS 3 2 rfl rfl (pdK_in x) dX3_adds_78 (fun H locs hP hD hS => ?_)
      have hP : va_P D pdCl [(hm, .inr (2, [.ref a1, .ref a2, .ref a3])), (a1, .inl (c1, 2, .inl (upd v.1 (pdK x) ((v.1 (pdK x)) + (g * (v.1 (1 - pdK x))))))), (a2, .inl (c2, 2, .inl (upd v.2.1 (pdK x) ((v.2.1 (pdK x)) + (g * (v.2.1 (1 - pdK x))))))), (a3, .inl (c3, 2, .inl (upd v.2.2 (pdK x) ((v.2.2 (pdK x)) + (g * (v.2.2 (1 - pdK x)))))))] H := hP
      have hD : va_D (pdB hm a1 a2 a3 s.heap.size) [(hm, .inr (2, [.ref a1, .ref a2, .ref a3])), (a1, .inl (c1, 2, .inl (upd v.1 (pdK x) ((v.1 (pdK x)) + (g * (v.1 (1 - pdK x))))))), (a2, .inl (c2, 2, .inl (upd v.2.1 (pdK x) ((v.2.1 (pdK x)) + (g * (v.2.1 (1 - pdK x))))))), (a3, .inl (c3, 2, .inl (upd v.2.2 (pdK x) ((v.2.2 (pdK x)) + (g * (v.2.2 (1 - pdK x)))))))] := hD
      refine lv_iconst (v := 1) hx hb dX3_adds_79 (by decide) ?_
      have e : pf_adds g x v = (1, ((upd v.1 (pdK x) ((v.1 (pdK x)) + (g * (v.1 (1 - pdK x))))), (upd v.2.1 (pdK x) ((v.2.1 (pdK x)) + (g * (v.2.1 (1 - pdK x))))), (upd v.2.2 (pdK x) ((v.2.2 (pdK x)) + (g * (v.2.2 (1 - pdK x))))))) := by unfold pf_adds; exact if_pos hok
      exact W.zret (v := 1) hx hb hr rfl (fun t ht hW => ⟨by rw [e], by rw [ht, e]; exact hP, hS.F ht⟩) hS.2.2 dX3_adds_80
    · refine lv_iconst (v := 0) hx hb dX3_adds_16 (by decide) ?_
      have e : pf_adds g x v = (0, v) := by unfold pf_adds; exact if_neg (fun h => by rw [pf_nbit_1 c_13, Bool.and_false] at h; cases h)
      exact W.zret (v := 0) hx hb hr rfl (fun t ht hW => ⟨by rw [e], by rw [ht, e]; exact hP, hS.F ht⟩) hS.2.2 dX3_adds_17
set_option maxHeartbeats 4000000 in
set_option maxRecDepth 100000 in
theorem mX3_takes (l : Launch) (D : va_G) (c1 c2 c3 : ClassId) (sz hm a1 a2 a3 : Nat) (v : pdS) (x t : Int32) : Met l yX3_takes (ws_ yX3_takes cX3_takes 4 (some .boolean)) ({ frames := 2, cells := 0, slots := 0, locals := 80 }) (va_Pc [.ref hm, .int x, .int t] (pdMd D c1 c2 c3 sz hm a1 a2 a3 v)) (pdG (some (.int (pf_takes x t v).1)) (fun H => va_P D pdCl (pdMw c1 c2 c3 hm a1 a2 a3 (pf_takes x t v).2) H) (pdB hm a1 a2 a3 sz)) 0 0 (pdB hm a1 a2 a3 sz) := by
  refine Met.ofW (cc := cX3_takes) (maxL := 4) (ret := (some .boolean)) (by decide) rfl ?_
  intro p e s m args below meth c s₁ B hml hv
  obtain ⟨rfl, hsz, hK, hP, hD⟩ := hv
  have hx := B.exec
  have hb := B.bytes
  have hr := B.returns
  have hts := atoms_spec (ws := (ws_ yX3_takes cX3_takes 4 (some .boolean))) B.pre
  have hts : ∀ w ∈ lw_all, w.before _ s = true := fun w h => hts w (List.mem_cons_of_mem _ h)
  have hown : s.vm.findClass RX3 = some m.cls := findClass_of_methodNamed B.named
  have hlocks := B.notSynchronized
  subst hsz
  have hS : va_S (pdB hm a1 a2 a3 s.heap.size) s.heap s.heap [] := va_S.rf
  have hD0 := hD
  have hD : va_D (pdB hm a1 a2 a3 s.heap.size) [(hm, .inr (2, [.ref a1, .ref a2, .ref a3])), (a1, .inl (c1, 2, .inl v.1)), (a2, .inl (c2, 2, .inl v.2.1)), (a3, .inl (c3, 2, .inl v.2.2))] := pdMd_D hD
  have hP : va_P D pdCl [(hm, .inr (2, [.ref a1, .ref a2, .ref a3])), (a1, .inl (c1, 2, .inl v.1)), (a2, .inl (c2, 2, .inl v.2.1)), (a3, .inl (c3, 2, .inl v.2.2))] s.heap := hP
  have hl := lv_entry ([.ref hm, .int x, .int t]) (n := 4) (Nat.le_of_ble_eq_true rfl)
  rw [lg_entry_eq]
  generalize (lg_sl ([.ref hm, .int x, .int t]) ++ List.replicate (4 - (lg_sl ([.ref hm, .int x, .int t])).length) Slot.unset).toArray = ls at hl ⊢
  have hl : lv_has ls 4 [(0, .ref hm), (1, .int x), (2, .int t)] := hl
  refine lv_iload_n hx hb dX3_takes_0 rfl (lv_at hl 1 rfl) ?_
  refine lv_iconst (v := 1) hx hb dX3_takes_1 (by decide) ?_
  refine lv_iand hx hb dX3_takes_2 ?_
  refine lv_istore_n (lv' := [(3, .int (x &&& 1)), (0, .ref hm), (1, .int x), (2, .int t)]) hx hb dX3_takes_3 rfl hl (by decide) rfl (fun ls hl => ?_)
  refine lv_aload_n hx hb dX3_takes_4 rfl (lv_at hl 1 rfl) ?_
  refine lv_iload_n hx hb dX3_takes_5 rfl (lv_at hl 0 rfl) ?_
  refine pd_callV (W.runV (As := [.int (x &&& 1)]) (rest := []) ⟨hx, hb, hml, hown, hts⟩ (mX3_lacksRoom l D c1 c2 c3 s.heap.size hm a1 a2 a3 v (x &&& 1) (pdK_in x)) (cwV 1 hts (lw_V q791 q793 qs4 q10 q794) rfl rfl rfl (by decide +kernel) ⟨Nat.le_of_ble_eq_true rfl, Nat.le_of_ble_eq_true rfl⟩) (pdMd_pre [0, 1, 2] rfl hK hP hD0) rfl rfl hl.1 rfl (lv_room (Nat.le_of_ble_eq_true rfl)) dX3_takes_6 ⟨Nat.zero_le _, Nat.zero_le _⟩) ?_
  refine W.eq (g2 := F0 m 9 ls [.int (pf_nbit (pdOk v (pdK x)))]) rfl ?_
  refine lv_if_eq (tgt := 14) hx hb dX3_takes_9 (by decide) (fun c_9 => ?_) (fun c_9 => ?_)
  · have hok : pdOk v (pdK x) = true := pf_nbit_0 c_9
    refine lv_aload_n hx hb dX3_takes_14 rfl (lv_at hl 1 rfl) ?_
    refine va_get (D := D) (ci := 2) (v := .ref a1) (C := RX3) (T := TX3) (N := 3) hx hb hts in_X3 hown hK hP 0 rfl rfl 0 (by decide) (hts _ q764) (fun _ h9 => h9) rfl dX3_takes_15 ?_
    refine lv_iload_n hx hb dX3_takes_18 rfl (lv_at hl 0 rfl) ?_
    refine lv_dup2_11 hx hb dX3_takes_19 rfl rfl ?_
    refine va_iald hx hb hK hP 1 0 rfl rfl (pdK_in x) dX3_takes_20 ?_
    refine lv_iload_n hx hb dX3_takes_21 rfl (lv_at hl 3 rfl) ?_
    refine lv_imul hx hb dX3_takes_22 ?_
    refine va_iast hx hb hK hP hD hS 1 0 rfl rfl (pdK_in x) dX3_takes_23 (fun H locs hP hD hS => ?_)
    have hP : va_P D pdCl [(hm, .inr (2, [.ref a1, .ref a2, .ref a3])), (a1, .inl (c1, 2, .inl (upd v.1 (pdK x) ((v.1 (pdK x)) * t)))), (a2, .inl (c2, 2, .inl v.2.1)), (a3, .inl (c3, 2, .inl v.2.2))] H := hP
    have hD : va_D (pdB hm a1 a2 a3 s.heap.size) [(hm, .inr (2, [.ref a1, .ref a2, .ref a3])), (a1, .inl (c1, 2, .inl (upd v.1 (pdK x) ((v.1 (pdK x)) * t)))), (a2, .inl (c2, 2, .inl v.2.1)), (a3, .inl (c3, 2, .inl v.2.2))] := hD
    refine lv_aload_n hx hb dX3_takes_24 rfl (lv_at hl 1 rfl) ?_
    refine va_get (D := D) (ci := 2) (v := .ref a2) (C := RX3) (T := TX3) (N := 3) hx hb hts in_X3 hown hK hP 0 rfl rfl 1 (by decide) (hts _ q765) (fun _ h9 => h9) rfl dX3_takes_25 ?_
    refine lv_iload_n hx hb dX3_takes_28 rfl (lv_at hl 0 rfl) ?_
    refine lv_dup2_11 hx hb dX3_takes_29 rfl rfl ?_
    refine va_iald hx hb hK hP 2 1 rfl rfl (pdK_in x) dX3_takes_30 ?_
    refine lv_iload_n hx hb dX3_takes_31 rfl (lv_at hl 3 rfl) ?_
    refine lv_imul hx hb dX3_takes_32 ?_
    refine va_iast hx hb hK hP hD hS 2 1 rfl rfl (pdK_in x) dX3_takes_33 (fun H locs hP hD hS => ?_)
    have hP : va_P D pdCl [(hm, .inr (2, [.ref a1, .ref a2, .ref a3])), (a1, .inl (c1, 2, .inl (upd v.1 (pdK x) ((v.1 (pdK x)) * t)))), (a2, .inl (c2, 2, .inl (upd v.2.1 (pdK x) ((v.2.1 (pdK x)) * t)))), (a3, .inl (c3, 2, .inl v.2.2))] H := hP
    have hD : va_D (pdB hm a1 a2 a3 s.heap.size) [(hm, .inr (2, [.ref a1, .ref a2, .ref a3])), (a1, .inl (c1, 2, .inl (upd v.1 (pdK x) ((v.1 (pdK x)) * t)))), (a2, .inl (c2, 2, .inl (upd v.2.1 (pdK x) ((v.2.1 (pdK x)) * t)))), (a3, .inl (c3, 2, .inl v.2.2))] := hD
    refine lv_aload_n hx hb dX3_takes_34 rfl (lv_at hl 1 rfl) ?_
    refine va_get (D := D) (ci := 2) (v := .ref a3) (C := RX3) (T := TX3) (N := 3) hx hb hts in_X3 hown hK hP 0 rfl rfl 2 (by decide) (hts _ q766) (fun _ h9 => h9) rfl dX3_takes_35 ?_
    refine lv_iload_n hx hb dX3_takes_38 rfl (lv_at hl 0 rfl) ?_
    refine lv_dup2_11 hx hb dX3_takes_39 rfl rfl ?_
    refine va_iald hx hb hK hP 3 2 rfl rfl (pdK_in x) dX3_takes_40 ?_
    refine lv_iload_n hx hb dX3_takes_41 rfl (lv_at hl 3 rfl) ?_
    refine lv_imul hx hb dX3_takes_42 ?_
    refine va_iast hx hb hK hP hD hS 3 2 rfl rfl (pdK_in x) dX3_takes_43 (fun H locs hP hD hS => ?_)
    have hP : va_P D pdCl [(hm, .inr (2, [.ref a1, .ref a2, .ref a3])), (a1, .inl (c1, 2, .inl (upd v.1 (pdK x) ((v.1 (pdK x)) * t)))), (a2, .inl (c2, 2, .inl (upd v.2.1 (pdK x) ((v.2.1 (pdK x)) * t)))), (a3, .inl (c3, 2, .inl (upd v.2.2 (pdK x) ((v.2.2 (pdK x)) * t))))] H := hP
    have hD : va_D (pdB hm a1 a2 a3 s.heap.size) [(hm, .inr (2, [.ref a1, .ref a2, .ref a3])), (a1, .inl (c1, 2, .inl (upd v.1 (pdK x) ((v.1 (pdK x)) * t)))), (a2, .inl (c2, 2, .inl (upd v.2.1 (pdK x) ((v.2.1 (pdK x)) * t)))), (a3, .inl (c3, 2, .inl (upd v.2.2 (pdK x) ((v.2.2 (pdK x)) * t))))] := hD
    refine lv_iconst (v := 1) hx hb dX3_takes_44 (by decide) ?_
    have e : pf_takes x t v = (1, ((upd v.1 (pdK x) ((v.1 (pdK x)) * t)), (upd v.2.1 (pdK x) ((v.2.1 (pdK x)) * t)), (upd v.2.2 (pdK x) ((v.2.2 (pdK x)) * t)))) := by unfold pf_takes; exact if_pos hok
    exact W.zret (v := 1) hx hb hr rfl (fun t ht hW => ⟨by rw [e], by rw [ht, e]; exact hP, hS.F ht⟩) hS.2.2 dX3_takes_45
  · refine lv_iconst (v := 0) hx hb dX3_takes_12 (by decide) ?_
    have e : pf_takes x t v = (0, v) := by unfold pf_takes; exact if_neg (fun h => by rw [pf_nbit_1 c_9] at h; cases h)
    exact W.zret (v := 0) hx hb hr rfl (fun t ht hW => ⟨by rw [e], by rw [ht, e]; exact hP, hS.F ht⟩) hS.2.2 dX3_takes_13
set_option maxHeartbeats 4000000 in
set_option maxRecDepth 100000 in
theorem mX3_plus (l : Launch) (D : va_G) (c1 c2 c3 : ClassId) (sz hm a1 a2 a3 : Nat) (v : pdS) (x : Int32) : Met l yX3_plus (ws_ yX3_plus cX3_plus 2 (some .boolean)) ({ frames := 3, cells := 0, slots := 0, locals := 120 }) (va_Pc [.ref hm, .int x] (pdMd D c1 c2 c3 sz hm a1 a2 a3 v)) (pdG (some (.int (pf_adds 1 x v).1)) (fun H => va_P D pdCl (pdMw c1 c2 c3 hm a1 a2 a3 (pf_adds 1 x v).2) H) (pdB hm a1 a2 a3 sz)) 0 0 (pdB hm a1 a2 a3 sz) := by
  refine Met.ofW (cc := cX3_plus) (maxL := 2) (ret := (some .boolean)) (by decide) rfl ?_
  intro p e s m args below meth c s₁ B hml hv
  obtain ⟨rfl, hsz, hK, hP, hD⟩ := hv
  have hx := B.exec
  have hb := B.bytes
  have hr := B.returns
  have hts := atoms_spec (ws := (ws_ yX3_plus cX3_plus 2 (some .boolean))) B.pre
  have hts : ∀ w ∈ lw_all, w.before _ s = true := fun w h => hts w (List.mem_cons_of_mem _ h)
  have hown : s.vm.findClass RX3 = some m.cls := findClass_of_methodNamed B.named
  have hlocks := B.notSynchronized
  subst hsz
  have hS : va_S (pdB hm a1 a2 a3 s.heap.size) s.heap s.heap [] := va_S.rf
  have hD0 := hD
  have hD : va_D (pdB hm a1 a2 a3 s.heap.size) [(hm, .inr (2, [.ref a1, .ref a2, .ref a3])), (a1, .inl (c1, 2, .inl v.1)), (a2, .inl (c2, 2, .inl v.2.1)), (a3, .inl (c3, 2, .inl v.2.2))] := pdMd_D hD
  have hP : va_P D pdCl [(hm, .inr (2, [.ref a1, .ref a2, .ref a3])), (a1, .inl (c1, 2, .inl v.1)), (a2, .inl (c2, 2, .inl v.2.1)), (a3, .inl (c3, 2, .inl v.2.2))] s.heap := hP
  have hl := lv_entry ([.ref hm, .int x]) (n := 2) (Nat.le_of_ble_eq_true rfl)
  rw [lg_entry_eq]
  generalize (lg_sl ([.ref hm, .int x]) ++ List.replicate (2 - (lg_sl ([.ref hm, .int x])).length) Slot.unset).toArray = ls at hl ⊢
  have hl : lv_has ls 2 [(0, .ref hm), (1, .int x)] := hl
  refine lv_aload_n hx hb dX3_plus_0 rfl (lv_at hl 0 rfl) ?_
  refine lv_iload_n hx hb dX3_plus_1 rfl (lv_at hl 1 rfl) ?_
  refine lv_iconst (v := 1) hx hb dX3_plus_2 (by decide) ?_
  refine pd_callG (W.runV (As := [.int x, .int 1]) (rest := []) ⟨hx, hb, hml, hown, hts⟩ (mX3_adds l D c1 c2 c3 s.heap.size hm a1 a2 a3 v x 1) (cwV 2 hts (lw_V q787 q789 qs3 q10 q790) rfl rfl rfl (by decide +kernel) ⟨Nat.le_of_ble_eq_true rfl, Nat.le_of_ble_eq_true rfl⟩) (pdMd_pre [0, 1, 2] rfl hK hP hD0) rfl rfl hl.1 rfl (lv_room (Nat.le_of_ble_eq_true rfl)) dX3_plus_3 ⟨Nat.zero_le _, Nat.zero_le _⟩) hS (fun q h => h) (fun H locs hB hz1 hk1 hS => ?_)
  refine W.eq (g2 := F0 m 6 ls [.int ((pf_adds 1 x v).1)]) rfl ?_
  exact W.zret (v := (pf_adds 1 x v).1) hx hb hr (pf_adds_nar _ _ _) (fun t ht hW => ⟨rfl, by rw [ht]; exact hB, hS.F ht⟩) hS.2.2 dX3_plus_6
set_option maxHeartbeats 4000000 in
set_option maxRecDepth 100000 in
theorem mX3_minus (l : Launch) (D : va_G) (c1 c2 c3 : ClassId) (sz hm a1 a2 a3 : Nat) (v : pdS) (x : Int32) : Met l yX3_minus (ws_ yX3_minus cX3_minus 2 (some .boolean)) ({ frames := 3, cells := 0, slots := 0, locals := 120 }) (va_Pc [.ref hm, .int x] (pdMd D c1 c2 c3 sz hm a1 a2 a3 v)) (pdG (some (.int (pf_adds (-1) x v).1)) (fun H => va_P D pdCl (pdMw c1 c2 c3 hm a1 a2 a3 (pf_adds (-1) x v).2) H) (pdB hm a1 a2 a3 sz)) 0 0 (pdB hm a1 a2 a3 sz) := by
  refine Met.ofW (cc := cX3_minus) (maxL := 2) (ret := (some .boolean)) (by decide) rfl ?_
  intro p e s m args below meth c s₁ B hml hv
  obtain ⟨rfl, hsz, hK, hP, hD⟩ := hv
  have hx := B.exec
  have hb := B.bytes
  have hr := B.returns
  have hts := atoms_spec (ws := (ws_ yX3_minus cX3_minus 2 (some .boolean))) B.pre
  have hts : ∀ w ∈ lw_all, w.before _ s = true := fun w h => hts w (List.mem_cons_of_mem _ h)
  have hown : s.vm.findClass RX3 = some m.cls := findClass_of_methodNamed B.named
  have hlocks := B.notSynchronized
  subst hsz
  have hS : va_S (pdB hm a1 a2 a3 s.heap.size) s.heap s.heap [] := va_S.rf
  have hD0 := hD
  have hD : va_D (pdB hm a1 a2 a3 s.heap.size) [(hm, .inr (2, [.ref a1, .ref a2, .ref a3])), (a1, .inl (c1, 2, .inl v.1)), (a2, .inl (c2, 2, .inl v.2.1)), (a3, .inl (c3, 2, .inl v.2.2))] := pdMd_D hD
  have hP : va_P D pdCl [(hm, .inr (2, [.ref a1, .ref a2, .ref a3])), (a1, .inl (c1, 2, .inl v.1)), (a2, .inl (c2, 2, .inl v.2.1)), (a3, .inl (c3, 2, .inl v.2.2))] s.heap := hP
  have hl := lv_entry ([.ref hm, .int x]) (n := 2) (Nat.le_of_ble_eq_true rfl)
  rw [lg_entry_eq]
  generalize (lg_sl ([.ref hm, .int x]) ++ List.replicate (2 - (lg_sl ([.ref hm, .int x])).length) Slot.unset).toArray = ls at hl ⊢
  have hl : lv_has ls 2 [(0, .ref hm), (1, .int x)] := hl
  refine lv_aload_n hx hb dX3_minus_0 rfl (lv_at hl 0 rfl) ?_
  refine lv_iload_n hx hb dX3_minus_1 rfl (lv_at hl 1 rfl) ?_
  refine lv_iconst (v := (-1)) hx hb dX3_minus_2 (by decide) ?_
  refine pd_callG (W.runV (As := [.int x, .int (-1)]) (rest := []) ⟨hx, hb, hml, hown, hts⟩ (mX3_adds l D c1 c2 c3 s.heap.size hm a1 a2 a3 v x (-1)) (cwV 2 hts (lw_V q787 q789 qs3 q10 q790) rfl rfl rfl (by decide +kernel) ⟨Nat.le_of_ble_eq_true rfl, Nat.le_of_ble_eq_true rfl⟩) (pdMd_pre [0, 1, 2] rfl hK hP hD0) rfl rfl hl.1 rfl (lv_room (Nat.le_of_ble_eq_true rfl)) dX3_minus_3 ⟨Nat.zero_le _, Nat.zero_le _⟩) hS (fun q h => h) (fun H locs hB hz1 hk1 hS => ?_)
  refine W.eq (g2 := F0 m 6 ls [.int ((pf_adds (-1) x v).1)]) rfl ?_
  exact W.zret (v := (pf_adds (-1) x v).1) hx hb hr (pf_adds_nar _ _ _) (fun t ht hW => ⟨rfl, by rw [ht]; exact hB, hS.F ht⟩) hS.2.2 dX3_minus_6
set_option maxHeartbeats 4000000 in
set_option maxRecDepth 100000 in
theorem mX3_times (l : Launch) (D : va_G) (c1 c2 c3 : ClassId) (sz hm a1 a2 a3 : Nat) (v : pdS) (x n : Int32) : Met l yX3_times (ws_ yX3_times cX3_times 3 (some .boolean)) ({ frames := 3, cells := 0, slots := 0, locals := 120 }) (va_Pc [.ref hm, .int x, .int n] (pdMd D c1 c2 c3 sz hm a1 a2 a3 v)) (pdG (some (.int (pf_takes x (n &&& 3) v).1)) (fun H => va_P D pdCl (pdMw c1 c2 c3 hm a1 a2 a3 (pf_takes x (n &&& 3) v).2) H) (pdB hm a1 a2 a3 sz)) 0 0 (pdB hm a1 a2 a3 sz) := by
  refine Met.ofW (cc := cX3_times) (maxL := 3) (ret := (some .boolean)) (by decide) rfl ?_
  intro p e s m args below meth c s₁ B hml hv
  obtain ⟨rfl, hsz, hK, hP, hD⟩ := hv
  have hx := B.exec
  have hb := B.bytes
  have hr := B.returns
  have hts := atoms_spec (ws := (ws_ yX3_times cX3_times 3 (some .boolean))) B.pre
  have hts : ∀ w ∈ lw_all, w.before _ s = true := fun w h => hts w (List.mem_cons_of_mem _ h)
  have hown : s.vm.findClass RX3 = some m.cls := findClass_of_methodNamed B.named
  have hlocks := B.notSynchronized
  subst hsz
  have hS : va_S (pdB hm a1 a2 a3 s.heap.size) s.heap s.heap [] := va_S.rf
  have hD0 := hD
  have hD : va_D (pdB hm a1 a2 a3 s.heap.size) [(hm, .inr (2, [.ref a1, .ref a2, .ref a3])), (a1, .inl (c1, 2, .inl v.1)), (a2, .inl (c2, 2, .inl v.2.1)), (a3, .inl (c3, 2, .inl v.2.2))] := pdMd_D hD
  have hP : va_P D pdCl [(hm, .inr (2, [.ref a1, .ref a2, .ref a3])), (a1, .inl (c1, 2, .inl v.1)), (a2, .inl (c2, 2, .inl v.2.1)), (a3, .inl (c3, 2, .inl v.2.2))] s.heap := hP
  have hl := lv_entry ([.ref hm, .int x, .int n]) (n := 3) (Nat.le_of_ble_eq_true rfl)
  rw [lg_entry_eq]
  generalize (lg_sl ([.ref hm, .int x, .int n]) ++ List.replicate (3 - (lg_sl ([.ref hm, .int x, .int n])).length) Slot.unset).toArray = ls at hl ⊢
  have hl : lv_has ls 3 [(0, .ref hm), (1, .int x), (2, .int n)] := hl
  refine lv_aload_n hx hb dX3_times_0 rfl (lv_at hl 0 rfl) ?_
  refine lv_iload_n hx hb dX3_times_1 rfl (lv_at hl 1 rfl) ?_
  refine lv_iload_n hx hb dX3_times_2 rfl (lv_at hl 2 rfl) ?_
  refine lv_iconst (v := 3) hx hb dX3_times_3 (by decide) ?_
  refine lv_iand hx hb dX3_times_4 ?_
  refine pd_callG (W.runV (As := [.int x, .int (n &&& 3)]) (rest := []) ⟨hx, hb, hml, hown, hts⟩ (mX3_takes l D c1 c2 c3 s.heap.size hm a1 a2 a3 v x (n &&& 3)) (cwV 2 hts (lw_V q808 q810 qs5 q10 q811) rfl rfl rfl (by decide +kernel) ⟨Nat.le_of_ble_eq_true rfl, Nat.le_of_ble_eq_true rfl⟩) (pdMd_pre [0, 1, 2] rfl hK hP hD0) rfl rfl hl.1 rfl (lv_room (Nat.le_of_ble_eq_true rfl)) dX3_times_5 ⟨Nat.zero_le _, Nat.zero_le _⟩) hS (fun q h => h) (fun H locs hB hz1 hk1 hS => ?_)
  refine W.eq (g2 := F0 m 8 ls [.int ((pf_takes x (n &&& 3) v).1)]) rfl ?_
  exact W.zret (v := (pf_takes x (n &&& 3) v).1) hx hb hr (pf_takes_nar _ _ _) (fun t ht hW => ⟨rfl, by rw [ht]; exact hB, hS.F ht⟩) hS.2.2 dX3_times_8
set_option maxHeartbeats 4000000 in
set_option maxRecDepth 100000 in
theorem mX3_turn (l : Launch) (D : va_G) (c1 c2 c3 : ClassId) (sz hm a1 a2 a3 : Nat) (v : pdS) (x : Int32) : Met l yX3_turn (ws_ yX3_turn cX3_turn 2 (some .boolean)) ({ frames := 3, cells := 0, slots := 0, locals := 120 }) (va_Pc [.ref hm, .int x] (pdMd D c1 c2 c3 sz hm a1 a2 a3 v)) (pdG (some (.int (pf_takes x (-1) v).1)) (fun H => va_P D pdCl (pdMw c1 c2 c3 hm a1 a2 a3 (pf_takes x (-1) v).2) H) (pdB hm a1 a2 a3 sz)) 0 0 (pdB hm a1 a2 a3 sz) := by
  refine Met.ofW (cc := cX3_turn) (maxL := 2) (ret := (some .boolean)) (by decide) rfl ?_
  intro p e s m args below meth c s₁ B hml hv
  obtain ⟨rfl, hsz, hK, hP, hD⟩ := hv
  have hx := B.exec
  have hb := B.bytes
  have hr := B.returns
  have hts := atoms_spec (ws := (ws_ yX3_turn cX3_turn 2 (some .boolean))) B.pre
  have hts : ∀ w ∈ lw_all, w.before _ s = true := fun w h => hts w (List.mem_cons_of_mem _ h)
  have hown : s.vm.findClass RX3 = some m.cls := findClass_of_methodNamed B.named
  have hlocks := B.notSynchronized
  subst hsz
  have hS : va_S (pdB hm a1 a2 a3 s.heap.size) s.heap s.heap [] := va_S.rf
  have hD0 := hD
  have hD : va_D (pdB hm a1 a2 a3 s.heap.size) [(hm, .inr (2, [.ref a1, .ref a2, .ref a3])), (a1, .inl (c1, 2, .inl v.1)), (a2, .inl (c2, 2, .inl v.2.1)), (a3, .inl (c3, 2, .inl v.2.2))] := pdMd_D hD
  have hP : va_P D pdCl [(hm, .inr (2, [.ref a1, .ref a2, .ref a3])), (a1, .inl (c1, 2, .inl v.1)), (a2, .inl (c2, 2, .inl v.2.1)), (a3, .inl (c3, 2, .inl v.2.2))] s.heap := hP
  have hl := lv_entry ([.ref hm, .int x]) (n := 2) (Nat.le_of_ble_eq_true rfl)
  rw [lg_entry_eq]
  generalize (lg_sl ([.ref hm, .int x]) ++ List.replicate (2 - (lg_sl ([.ref hm, .int x])).length) Slot.unset).toArray = ls at hl ⊢
  have hl : lv_has ls 2 [(0, .ref hm), (1, .int x)] := hl
  refine lv_aload_n hx hb dX3_turn_0 rfl (lv_at hl 0 rfl) ?_
  refine lv_iload_n hx hb dX3_turn_1 rfl (lv_at hl 1 rfl) ?_
  refine lv_iconst (v := (-1)) hx hb dX3_turn_2 (by decide) ?_
  refine pd_callG (W.runV (As := [.int x, .int (-1)]) (rest := []) ⟨hx, hb, hml, hown, hts⟩ (mX3_takes l D c1 c2 c3 s.heap.size hm a1 a2 a3 v x (-1)) (cwV 2 hts (lw_V q808 q810 qs5 q10 q811) rfl rfl rfl (by decide +kernel) ⟨Nat.le_of_ble_eq_true rfl, Nat.le_of_ble_eq_true rfl⟩) (pdMd_pre [0, 1, 2] rfl hK hP hD0) rfl rfl hl.1 rfl (lv_room (Nat.le_of_ble_eq_true rfl)) dX3_turn_3 ⟨Nat.zero_le _, Nat.zero_le _⟩) hS (fun q h => h) (fun H locs hB hz1 hk1 hS => ?_)
  refine W.eq (g2 := F0 m 6 ls [.int ((pf_takes x (-1) v).1)]) rfl ?_
  exact W.zret (v := (pf_takes x (-1) v).1) hx hb hr (pf_takes_nar _ _ _) (fun t ht hW => ⟨rfl, by rw [ht]; exact hB, hS.F ht⟩) hS.2.2 dX3_turn_6
set_option maxHeartbeats 4000000 in
set_option maxRecDepth 100000 in
theorem mX3_years (l : Launch) (D : va_G) (c1 c2 c3 : ClassId) (sz hm a1 a2 a3 : Nat) (v : pdS) (x : Int32) : Met l yX3_years (ws_ yX3_years cX3_years 2 (some .int)) ({ frames := 0, cells := 0, slots := 0, locals := 0 }) (va_Pc [.ref hm, .int x] (pdMd D c1 c2 c3 sz hm a1 a2 a3 v)) (k2_QcV (.int (v.1 (pdK x)))) 0 0 (fun _ => False) := by
  refine Met.ofW (cc := cX3_years) (maxL := 2) (ret := (some .int)) (by decide) rfl ?_
  intro p e s m args below meth c s₁ B hml hv
  obtain ⟨rfl, hsz, hK, hP, hD⟩ := hv
  have hx := B.exec
  have hb := B.bytes
  have hr := B.returns
  have hts := atoms_spec (ws := (ws_ yX3_years cX3_years 2 (some .int))) B.pre
  have hts : ∀ w ∈ lw_all, w.before _ s = true := fun w h => hts w (List.mem_cons_of_mem _ h)
  have hown : s.vm.findClass RX3 = some m.cls := findClass_of_methodNamed B.named
  have hlocks := B.notSynchronized
  subst hsz
  have hS : va_S (pdB hm a1 a2 a3 s.heap.size) s.heap s.heap [] := va_S.rf
  have hD0 := hD
  have hD : va_D (pdB hm a1 a2 a3 s.heap.size) [(hm, .inr (2, [.ref a1, .ref a2, .ref a3])), (a1, .inl (c1, 2, .inl v.1)), (a2, .inl (c2, 2, .inl v.2.1)), (a3, .inl (c3, 2, .inl v.2.2))] := pdMd_D hD
  have hP : va_P D pdCl [(hm, .inr (2, [.ref a1, .ref a2, .ref a3])), (a1, .inl (c1, 2, .inl v.1)), (a2, .inl (c2, 2, .inl v.2.1)), (a3, .inl (c3, 2, .inl v.2.2))] s.heap := hP
  have hl := lv_entry ([.ref hm, .int x]) (n := 2) (Nat.le_of_ble_eq_true rfl)
  rw [lg_entry_eq]
  generalize (lg_sl ([.ref hm, .int x]) ++ List.replicate (2 - (lg_sl ([.ref hm, .int x])).length) Slot.unset).toArray = ls at hl ⊢
  have hl : lv_has ls 2 [(0, .ref hm), (1, .int x)] := hl
  refine lv_aload_n hx hb dX3_years_0 rfl (lv_at hl 0 rfl) ?_
  refine va_get (D := D) (ci := 2) (v := .ref a1) (C := RX3) (T := TX3) (N := 3) hx hb hts in_X3 hown hK hP 0 rfl rfl 0 (by decide) (hts _ q764) (fun _ h9 => h9) rfl dX3_years_1 ?_
  refine lv_iload_n hx hb dX3_years_4 rfl (lv_at hl 1 rfl) ?_
  refine lv_iconst (v := 1) hx hb dX3_years_5 (by decide) ?_
  refine lv_iand hx hb dX3_years_6 ?_
  refine va_iald hx hb hK hP 1 0 rfl rfl (pdK_in x) dX3_years_7 ?_
  exact W.iret (v := (v.1 (pdK x))) hx hb hr (fun t ht hW => ⟨rfl, ht⟩) (fun q h => by cases h) dX3_years_8
set_option maxHeartbeats 4000000 in
set_option maxRecDepth 100000 in
theorem mX3_month (l : Launch) (D : va_G) (c1 c2 c3 : ClassId) (sz hm a1 a2 a3 : Nat) (v : pdS) (x : Int32) : Met l yX3_month (ws_ yX3_month cX3_month 2 (some .int)) ({ frames := 0, cells := 0, slots := 0, locals := 0 }) (va_Pc [.ref hm, .int x] (pdMd D c1 c2 c3 sz hm a1 a2 a3 v)) (k2_QcV (.int (v.2.1 (pdK x)))) 0 0 (fun _ => False) := by
  refine Met.ofW (cc := cX3_month) (maxL := 2) (ret := (some .int)) (by decide) rfl ?_
  intro p e s m args below meth c s₁ B hml hv
  obtain ⟨rfl, hsz, hK, hP, hD⟩ := hv
  have hx := B.exec
  have hb := B.bytes
  have hr := B.returns
  have hts := atoms_spec (ws := (ws_ yX3_month cX3_month 2 (some .int))) B.pre
  have hts : ∀ w ∈ lw_all, w.before _ s = true := fun w h => hts w (List.mem_cons_of_mem _ h)
  have hown : s.vm.findClass RX3 = some m.cls := findClass_of_methodNamed B.named
  have hlocks := B.notSynchronized
  subst hsz
  have hS : va_S (pdB hm a1 a2 a3 s.heap.size) s.heap s.heap [] := va_S.rf
  have hD0 := hD
  have hD : va_D (pdB hm a1 a2 a3 s.heap.size) [(hm, .inr (2, [.ref a1, .ref a2, .ref a3])), (a1, .inl (c1, 2, .inl v.1)), (a2, .inl (c2, 2, .inl v.2.1)), (a3, .inl (c3, 2, .inl v.2.2))] := pdMd_D hD
  have hP : va_P D pdCl [(hm, .inr (2, [.ref a1, .ref a2, .ref a3])), (a1, .inl (c1, 2, .inl v.1)), (a2, .inl (c2, 2, .inl v.2.1)), (a3, .inl (c3, 2, .inl v.2.2))] s.heap := hP
  have hl := lv_entry ([.ref hm, .int x]) (n := 2) (Nat.le_of_ble_eq_true rfl)
  rw [lg_entry_eq]
  generalize (lg_sl ([.ref hm, .int x]) ++ List.replicate (2 - (lg_sl ([.ref hm, .int x])).length) Slot.unset).toArray = ls at hl ⊢
  have hl : lv_has ls 2 [(0, .ref hm), (1, .int x)] := hl
  refine lv_aload_n hx hb dX3_month_0 rfl (lv_at hl 0 rfl) ?_
  refine va_get (D := D) (ci := 2) (v := .ref a2) (C := RX3) (T := TX3) (N := 3) hx hb hts in_X3 hown hK hP 0 rfl rfl 1 (by decide) (hts _ q765) (fun _ h9 => h9) rfl dX3_month_1 ?_
  refine lv_iload_n hx hb dX3_month_4 rfl (lv_at hl 1 rfl) ?_
  refine lv_iconst (v := 1) hx hb dX3_month_5 (by decide) ?_
  refine lv_iand hx hb dX3_month_6 ?_
  refine va_iald hx hb hK hP 2 1 rfl rfl (pdK_in x) dX3_month_7 ?_
  exact W.iret (v := (v.2.1 (pdK x))) hx hb hr (fun t ht hW => ⟨rfl, ht⟩) (fun q h => by cases h) dX3_month_8
set_option maxHeartbeats 4000000 in
set_option maxRecDepth 100000 in
theorem mX3_day (l : Launch) (D : va_G) (c1 c2 c3 : ClassId) (sz hm a1 a2 a3 : Nat) (v : pdS) (x : Int32) : Met l yX3_day (ws_ yX3_day cX3_day 2 (some .int)) ({ frames := 0, cells := 0, slots := 0, locals := 0 }) (va_Pc [.ref hm, .int x] (pdMd D c1 c2 c3 sz hm a1 a2 a3 v)) (k2_QcV (.int (v.2.2 (pdK x)))) 0 0 (fun _ => False) := by
  refine Met.ofW (cc := cX3_day) (maxL := 2) (ret := (some .int)) (by decide) rfl ?_
  intro p e s m args below meth c s₁ B hml hv
  obtain ⟨rfl, hsz, hK, hP, hD⟩ := hv
  have hx := B.exec
  have hb := B.bytes
  have hr := B.returns
  have hts := atoms_spec (ws := (ws_ yX3_day cX3_day 2 (some .int))) B.pre
  have hts : ∀ w ∈ lw_all, w.before _ s = true := fun w h => hts w (List.mem_cons_of_mem _ h)
  have hown : s.vm.findClass RX3 = some m.cls := findClass_of_methodNamed B.named
  have hlocks := B.notSynchronized
  subst hsz
  have hS : va_S (pdB hm a1 a2 a3 s.heap.size) s.heap s.heap [] := va_S.rf
  have hD0 := hD
  have hD : va_D (pdB hm a1 a2 a3 s.heap.size) [(hm, .inr (2, [.ref a1, .ref a2, .ref a3])), (a1, .inl (c1, 2, .inl v.1)), (a2, .inl (c2, 2, .inl v.2.1)), (a3, .inl (c3, 2, .inl v.2.2))] := pdMd_D hD
  have hP : va_P D pdCl [(hm, .inr (2, [.ref a1, .ref a2, .ref a3])), (a1, .inl (c1, 2, .inl v.1)), (a2, .inl (c2, 2, .inl v.2.1)), (a3, .inl (c3, 2, .inl v.2.2))] s.heap := hP
  have hl := lv_entry ([.ref hm, .int x]) (n := 2) (Nat.le_of_ble_eq_true rfl)
  rw [lg_entry_eq]
  generalize (lg_sl ([.ref hm, .int x]) ++ List.replicate (2 - (lg_sl ([.ref hm, .int x])).length) Slot.unset).toArray = ls at hl ⊢
  have hl : lv_has ls 2 [(0, .ref hm), (1, .int x)] := hl
  refine lv_aload_n hx hb dX3_day_0 rfl (lv_at hl 0 rfl) ?_
  refine va_get (D := D) (ci := 2) (v := .ref a3) (C := RX3) (T := TX3) (N := 3) hx hb hts in_X3 hown hK hP 0 rfl rfl 2 (by decide) (hts _ q766) (fun _ h9 => h9) rfl dX3_day_1 ?_
  refine lv_iload_n hx hb dX3_day_4 rfl (lv_at hl 1 rfl) ?_
  refine lv_iconst (v := 1) hx hb dX3_day_5 (by decide) ?_
  refine lv_iand hx hb dX3_day_6 ?_
  refine va_iald hx hb hK hP 3 2 rfl rfl (pdK_in x) dX3_day_7 ?_
  exact W.iret (v := (v.2.2 (pdK x))) hx hb hr (fun t ht hW => ⟨rfl, ht⟩) (fun q h => by cases h) dX3_day_8
set_option maxHeartbeats 4000000 in
set_option maxRecDepth 100000 in
theorem mX3_all (l : Launch) (D : va_G) (c1 c2 c3 : ClassId) (sz hm a1 a2 a3 : Nat) (v : pdS) (x : Int32) : Met l yX3_all (ws_ yX3_all cX3_all 2 (some .long)) ({ frames := 0, cells := 0, slots := 0, locals := 0 }) (va_Pc [.ref hm, .int x] (pdMd D c1 c2 c3 sz hm a1 a2 a3 v)) (k2_QcV (.long (pf_all x v))) 0 0 (fun _ => False) := by
  refine Met.ofW (cc := cX3_all) (maxL := 2) (ret := (some .long)) (by decide) rfl ?_
  intro p e s m args below meth c s₁ B hml hv
  obtain ⟨rfl, hsz, hK, hP, hD⟩ := hv
  have hx := B.exec
  have hb := B.bytes
  have hr := B.returns
  have hts := atoms_spec (ws := (ws_ yX3_all cX3_all 2 (some .long))) B.pre
  have hts : ∀ w ∈ lw_all, w.before _ s = true := fun w h => hts w (List.mem_cons_of_mem _ h)
  have hown : s.vm.findClass RX3 = some m.cls := findClass_of_methodNamed B.named
  have hlocks := B.notSynchronized
  subst hsz
  have hS : va_S (pdB hm a1 a2 a3 s.heap.size) s.heap s.heap [] := va_S.rf
  have hD0 := hD
  have hD : va_D (pdB hm a1 a2 a3 s.heap.size) [(hm, .inr (2, [.ref a1, .ref a2, .ref a3])), (a1, .inl (c1, 2, .inl v.1)), (a2, .inl (c2, 2, .inl v.2.1)), (a3, .inl (c3, 2, .inl v.2.2))] := pdMd_D hD
  have hP : va_P D pdCl [(hm, .inr (2, [.ref a1, .ref a2, .ref a3])), (a1, .inl (c1, 2, .inl v.1)), (a2, .inl (c2, 2, .inl v.2.1)), (a3, .inl (c3, 2, .inl v.2.2))] s.heap := hP
  have hl := lv_entry ([.ref hm, .int x]) (n := 2) (Nat.le_of_ble_eq_true rfl)
  rw [lg_entry_eq]
  generalize (lg_sl ([.ref hm, .int x]) ++ List.replicate (2 - (lg_sl ([.ref hm, .int x])).length) Slot.unset).toArray = ls at hl ⊢
  have hl : lv_has ls 2 [(0, .ref hm), (1, .int x)] := hl
  refine lv_ldc2 hx hb hown (hts _ q824) dX3_all_0 ?_
  refine lv_aload_n hx hb dX3_all_3 rfl (lv_at hl 0 rfl) ?_
  refine va_get (D := D) (ci := 2) (v := .ref a1) (C := RX3) (T := TX3) (N := 3) hx hb hts in_X3 hown hK hP 0 rfl rfl 0 (by decide) (hts _ q764) (fun _ h9 => h9) rfl dX3_all_4 ?_
  refine lv_iload_n hx hb dX3_all_7 rfl (lv_at hl 1 rfl) ?_
  refine lv_iconst (v := 1) hx hb dX3_all_8 (by decide) ?_
  refine lv_iand hx hb dX3_all_9 ?_
  refine va_iald hx hb hK hP 1 0 rfl rfl (pdK_in x) dX3_all_10 ?_
  refine lv_i2l hx hb dX3_all_11 rfl ?_
  refine lv_lmul hx hb dX3_all_12 ?_
  refine lv_aload_n hx hb dX3_all_13 rfl (lv_at hl 0 rfl) ?_
  refine va_get (D := D) (ci := 2) (v := .ref a2) (C := RX3) (T := TX3) (N := 3) hx hb hts in_X3 hown hK hP 0 rfl rfl 1 (by decide) (hts _ q765) (fun _ h9 => h9) rfl dX3_all_14 ?_
  refine lv_iload_n hx hb dX3_all_17 rfl (lv_at hl 1 rfl) ?_
  refine lv_iconst (v := 1) hx hb dX3_all_18 (by decide) ?_
  refine lv_iand hx hb dX3_all_19 ?_
  refine va_iald hx hb hK hP 2 1 rfl rfl (pdK_in x) dX3_all_20 ?_
  refine lv_i2l hx hb dX3_all_21 rfl ?_
  refine lv_ladd hx hb dX3_all_22 ?_
  exact W.lret (v := ((12 * ((v.1 (pdK x)).toInt64)) + ((v.2.1 (pdK x)).toInt64))) hx hb hr (fun t ht hW => ⟨rfl, ht⟩) (fun q h => by cases h) dX3_all_23
set_option maxHeartbeats 4000000 in
set_option maxRecDepth 100000 in
theorem mX3_below (l : Launch) (D : va_G) (c1 c2 c3 : ClassId) (sz hm a1 a2 a3 : Nat) (v : pdS) (x : Int32) : Met l yX3_below (ws_ yX3_below cX3_below 3 (some .boolean)) ({ frames := 0, cells := 0, slots := 0, locals := 0 }) (va_Pc [.ref hm, .int x] (pdMd D c1 c2 c3 sz hm a1 a2 a3 v)) (k2_QcV (.int (pf_below x v))) 0 0 (fun _ => False) := by
  refine Met.ofW (cc := cX3_below) (maxL := 3) (ret := (some .boolean)) (by decide) rfl ?_
  intro p e s m args below meth c s₁ B hml hv
  obtain ⟨rfl, hsz, hK, hP, hD⟩ := hv
  have hx := B.exec
  have hb := B.bytes
  have hr := B.returns
  have hts := atoms_spec (ws := (ws_ yX3_below cX3_below 3 (some .boolean))) B.pre
  have hts : ∀ w ∈ lw_all, w.before _ s = true := fun w h => hts w (List.mem_cons_of_mem _ h)
  have hown : s.vm.findClass RX3 = some m.cls := findClass_of_methodNamed B.named
  have hlocks := B.notSynchronized
  subst hsz
  have hS : va_S (pdB hm a1 a2 a3 s.heap.size) s.heap s.heap [] := va_S.rf
  have hD0 := hD
  have hD : va_D (pdB hm a1 a2 a3 s.heap.size) [(hm, .inr (2, [.ref a1, .ref a2, .ref a3])), (a1, .inl (c1, 2, .inl v.1)), (a2, .inl (c2, 2, .inl v.2.1)), (a3, .inl (c3, 2, .inl v.2.2))] := pdMd_D hD
  have hP : va_P D pdCl [(hm, .inr (2, [.ref a1, .ref a2, .ref a3])), (a1, .inl (c1, 2, .inl v.1)), (a2, .inl (c2, 2, .inl v.2.1)), (a3, .inl (c3, 2, .inl v.2.2))] s.heap := hP
  have hl := lv_entry ([.ref hm, .int x]) (n := 3) (Nat.le_of_ble_eq_true rfl)
  rw [lg_entry_eq]
  generalize (lg_sl ([.ref hm, .int x]) ++ List.replicate (3 - (lg_sl ([.ref hm, .int x])).length) Slot.unset).toArray = ls at hl ⊢
  have hl : lv_has ls 3 [(0, .ref hm), (1, .int x)] := hl
  refine lv_iload_n hx hb dX3_below_0 rfl (lv_at hl 1 rfl) ?_
  refine lv_iconst (v := 1) hx hb dX3_below_1 (by decide) ?_
  refine lv_iand hx hb dX3_below_2 ?_
  refine lv_istore_n (lv' := [(2, .int (x &&& 1)), (0, .ref hm), (1, .int x)]) hx hb dX3_below_3 rfl hl (by decide) rfl (fun ls hl => ?_)
  refine lv_aload_n hx hb dX3_below_4 rfl (lv_at hl 1 rfl) ?_
  refine va_get (D := D) (ci := 2) (v := .ref a1) (C := RX3) (T := TX3) (N := 3) hx hb hts in_X3 hown hK hP 0 rfl rfl 0 (by decide) (hts _ q764) (fun _ h9 => h9) rfl dX3_below_5 ?_
  refine lv_iload_n hx hb dX3_below_8 rfl (lv_at hl 0 rfl) ?_
  refine va_iald hx hb hK hP 1 0 rfl rfl (pdK_in x) dX3_below_9 ?_
  refine lv_if_lt (tgt := 31) hx hb dX3_below_10 (by decide) (fun c_10 => ?_) (fun c_10 => ?_)
  · refine lv_iconst (v := 1) hx hb dX3_below_31 (by decide) ?_
    refine lv_goto (tgt := 36) hx hb dX3_below_32 (by decide) ?_
    exact W.zret (v := 1) hx hb hr rfl (fun t ht hW => ⟨by rw [(show pf_below x v = 1 from pf_neg_1 (Or.inl c_10))], ht⟩) (fun q h => by cases h) dX3_below_36
  · refine lv_aload_n hx hb dX3_below_13 rfl (lv_at hl 1 rfl) ?_
    refine va_get (D := D) (ci := 2) (v := .ref a2) (C := RX3) (T := TX3) (N := 3) hx hb hts in_X3 hown hK hP 0 rfl rfl 1 (by decide) (hts _ q765) (fun _ h9 => h9) rfl dX3_below_14 ?_
    refine lv_iload_n hx hb dX3_below_17 rfl (lv_at hl 0 rfl) ?_
    refine va_iald hx hb hK hP 2 1 rfl rfl (pdK_in x) dX3_below_18 ?_
    refine lv_if_lt (tgt := 31) hx hb dX3_below_19 (by decide) (fun c_19 => ?_) (fun c_19 => ?_)
    · refine lv_iconst (v := 1) hx hb dX3_below_31 (by decide) ?_
      refine lv_goto (tgt := 36) hx hb dX3_below_32 (by decide) ?_
      exact W.zret (v := 1) hx hb hr rfl (fun t ht hW => ⟨by rw [(show pf_below x v = 1 from pf_neg_1 (Or.inr (Or.inl c_19)))], ht⟩) (fun q h => by cases h) dX3_below_36
    · refine lv_aload_n hx hb dX3_below_22 rfl (lv_at hl 1 rfl) ?_
      refine va_get (D := D) (ci := 2) (v := .ref a3) (C := RX3) (T := TX3) (N := 3) hx hb hts in_X3 hown hK hP 0 rfl rfl 2 (by decide) (hts _ q766) (fun _ h9 => h9) rfl dX3_below_23 ?_
      refine lv_iload_n hx hb dX3_below_26 rfl (lv_at hl 0 rfl) ?_
      refine va_iald hx hb hK hP 3 2 rfl rfl (pdK_in x) dX3_below_27 ?_
      refine lv_if_ge (tgt := 35) hx hb dX3_below_28 (by decide) (fun c_28 => ?_) (fun c_28 => ?_)
      · refine lv_iconst (v := 0) hx hb dX3_below_35 (by decide) ?_
        exact W.zret (v := 0) hx hb hr rfl (fun t ht hW => ⟨by rw [(show pf_below x v = 0 from pf_neg_0 c_10 c_19 (fun h => (pd_nge _).mpr h c_28))], ht⟩) (fun q h => by cases h) dX3_below_36
      · refine lv_iconst (v := 1) hx hb dX3_below_31 (by decide) ?_
        refine lv_goto (tgt := 36) hx hb dX3_below_32 (by decide) ?_
        exact W.zret (v := 1) hx hb hr rfl (fun t ht hW => ⟨by rw [(show pf_below x v = 1 from pf_neg_1 (Or.inr (Or.inr ((pd_nge _).mp c_28))))], ht⟩) (fun q h => by cases h) dX3_below_36
set_option maxHeartbeats 4000000 in
set_option maxRecDepth 100000 in
theorem mX3_nought (l : Launch) (D : va_G) (c1 c2 c3 : ClassId) (sz hm a1 a2 a3 : Nat) (v : pdS) (x : Int32) : Met l yX3_nought (ws_ yX3_nought cX3_nought 3 (some .boolean)) ({ frames := 0, cells := 0, slots := 0, locals := 0 }) (va_Pc [.ref hm, .int x] (pdMd D c1 c2 c3 sz hm a1 a2 a3 v)) (k2_QcV (.int (pf_nought x v))) 0 0 (fun _ => False) := by
  refine Met.ofW (cc := cX3_nought) (maxL := 3) (ret := (some .boolean)) (by decide) rfl ?_
  intro p e s m args below meth c s₁ B hml hv
  obtain ⟨rfl, hsz, hK, hP, hD⟩ := hv
  have hx := B.exec
  have hb := B.bytes
  have hr := B.returns
  have hts := atoms_spec (ws := (ws_ yX3_nought cX3_nought 3 (some .boolean))) B.pre
  have hts : ∀ w ∈ lw_all, w.before _ s = true := fun w h => hts w (List.mem_cons_of_mem _ h)
  have hown : s.vm.findClass RX3 = some m.cls := findClass_of_methodNamed B.named
  have hlocks := B.notSynchronized
  subst hsz
  have hS : va_S (pdB hm a1 a2 a3 s.heap.size) s.heap s.heap [] := va_S.rf
  have hD0 := hD
  have hD : va_D (pdB hm a1 a2 a3 s.heap.size) [(hm, .inr (2, [.ref a1, .ref a2, .ref a3])), (a1, .inl (c1, 2, .inl v.1)), (a2, .inl (c2, 2, .inl v.2.1)), (a3, .inl (c3, 2, .inl v.2.2))] := pdMd_D hD
  have hP : va_P D pdCl [(hm, .inr (2, [.ref a1, .ref a2, .ref a3])), (a1, .inl (c1, 2, .inl v.1)), (a2, .inl (c2, 2, .inl v.2.1)), (a3, .inl (c3, 2, .inl v.2.2))] s.heap := hP
  have hl := lv_entry ([.ref hm, .int x]) (n := 3) (Nat.le_of_ble_eq_true rfl)
  rw [lg_entry_eq]
  generalize (lg_sl ([.ref hm, .int x]) ++ List.replicate (3 - (lg_sl ([.ref hm, .int x])).length) Slot.unset).toArray = ls at hl ⊢
  have hl : lv_has ls 3 [(0, .ref hm), (1, .int x)] := hl
  refine lv_iload_n hx hb dX3_nought_0 rfl (lv_at hl 1 rfl) ?_
  refine lv_iconst (v := 1) hx hb dX3_nought_1 (by decide) ?_
  refine lv_iand hx hb dX3_nought_2 ?_
  refine lv_istore_n (lv' := [(2, .int (x &&& 1)), (0, .ref hm), (1, .int x)]) hx hb dX3_nought_3 rfl hl (by decide) rfl (fun ls hl => ?_)
  refine lv_aload_n hx hb dX3_nought_4 rfl (lv_at hl 1 rfl) ?_
  refine va_get (D := D) (ci := 2) (v := .ref a1) (C := RX3) (T := TX3) (N := 3) hx hb hts in_X3 hown hK hP 0 rfl rfl 0 (by decide) (hts _ q764) (fun _ h9 => h9) rfl dX3_nought_5 ?_
  refine lv_iload_n hx hb dX3_nought_8 rfl (lv_at hl 0 rfl) ?_
  refine va_iald hx hb hK hP 1 0 rfl rfl (pdK_in x) dX3_nought_9 ?_
  refine lv_if_ne (tgt := 35) hx hb dX3_nought_10 (by decide) (fun c_10 => ?_) (fun c_10 => ?_)
  · refine lv_iconst (v := 0) hx hb dX3_nought_35 (by decide) ?_
    exact W.zret (v := 0) hx hb hr rfl (fun t ht hW => ⟨by rw [(show pf_nought x v = 0 from pf_zero_0 (fun h => c_10 h.1))], ht⟩) (fun q h => by cases h) dX3_nought_36
  · refine lv_aload_n hx hb dX3_nought_13 rfl (lv_at hl 1 rfl) ?_
    refine va_get (D := D) (ci := 2) (v := .ref a2) (C := RX3) (T := TX3) (N := 3) hx hb hts in_X3 hown hK hP 0 rfl rfl 1 (by decide) (hts _ q765) (fun _ h9 => h9) rfl dX3_nought_14 ?_
    refine lv_iload_n hx hb dX3_nought_17 rfl (lv_at hl 0 rfl) ?_
    refine va_iald hx hb hK hP 2 1 rfl rfl (pdK_in x) dX3_nought_18 ?_
    refine lv_if_ne (tgt := 35) hx hb dX3_nought_19 (by decide) (fun c_19 => ?_) (fun c_19 => ?_)
    · refine lv_iconst (v := 0) hx hb dX3_nought_35 (by decide) ?_
      exact W.zret (v := 0) hx hb hr rfl (fun t ht hW => ⟨by rw [(show pf_nought x v = 0 from pf_zero_0 (fun h => c_19 h.2.1))], ht⟩) (fun q h => by cases h) dX3_nought_36
    · refine lv_aload_n hx hb dX3_nought_22 rfl (lv_at hl 1 rfl) ?_
      refine va_get (D := D) (ci := 2) (v := .ref a3) (C := RX3) (T := TX3) (N := 3) hx hb hts in_X3 hown hK hP 0 rfl rfl 2 (by decide) (hts _ q766) (fun _ h9 => h9) rfl dX3_nought_23 ?_
      refine lv_iload_n hx hb dX3_nought_26 rfl (lv_at hl 0 rfl) ?_
      refine va_iald hx hb hK hP 3 2 rfl rfl (pdK_in x) dX3_nought_27 ?_
      refine lv_if_ne (tgt := 35) hx hb dX3_nought_28 (by decide) (fun c_28 => ?_) (fun c_28 => ?_)
      · refine lv_iconst (v := 0) hx hb dX3_nought_35 (by decide) ?_
        exact W.zret (v := 0) hx hb hr rfl (fun t ht hW => ⟨by rw [(show pf_nought x v = 0 from pf_zero_0 (fun h => c_28 h.2.2))], ht⟩) (fun q h => by cases h) dX3_nought_36
      · refine lv_iconst (v := 1) hx hb dX3_nought_31 (by decide) ?_
        refine lv_goto (tgt := 36) hx hb dX3_nought_32 (by decide) ?_
        exact W.zret (v := 1) hx hb hr rfl (fun t ht hW => ⟨by rw [(show pf_nought x v = 1 from pf_zero_1 ⟨c_10, c_19, c_28⟩)], ht⟩) (fun q h => by cases h) dX3_nought_36
set_option maxHeartbeats 4000000 in
set_option maxRecDepth 100000 in
theorem mX3_normal (l : Launch) (D : va_G) (c1 c2 c3 : ClassId) (sz hm a1 a2 a3 : Nat) (v : pdS) (x : Int32) : Met l yX3_normal (ws_ yX3_normal cX3_normal 5 (some .boolean)) ({ frames := 2, cells := 0, slots := 0, locals := 80 }) (va_Pc [.ref hm, .int x] (pdMd D c1 c2 c3 sz hm a1 a2 a3 v)) (pdG (some (.int (pf_normal x v).1)) (fun H => va_P D pdCl (pdMw c1 c2 c3 hm a1 a2 a3 (pf_normal x v).2) H) (pdB hm a1 a2 a3 sz)) 0 0 (pdB hm a1 a2 a3 sz) := by
  refine Met.ofW (cc := cX3_normal) (maxL := 5) (ret := (some .boolean)) (by decide) rfl ?_
  intro p e s m args below meth c s₁ B hml hv
  obtain ⟨rfl, hsz, hK, hP, hD⟩ := hv
  have hx := B.exec
  have hb := B.bytes
  have hr := B.returns
  have hts := atoms_spec (ws := (ws_ yX3_normal cX3_normal 5 (some .boolean))) B.pre
  have hts : ∀ w ∈ lw_all, w.before _ s = true := fun w h => hts w (List.mem_cons_of_mem _ h)
  have hown : s.vm.findClass RX3 = some m.cls := findClass_of_methodNamed B.named
  have hlocks := B.notSynchronized
  subst hsz
  have hS : va_S (pdB hm a1 a2 a3 s.heap.size) s.heap s.heap [] := va_S.rf
  have hD0 := hD
  have hD : va_D (pdB hm a1 a2 a3 s.heap.size) [(hm, .inr (2, [.ref a1, .ref a2, .ref a3])), (a1, .inl (c1, 2, .inl v.1)), (a2, .inl (c2, 2, .inl v.2.1)), (a3, .inl (c3, 2, .inl v.2.2))] := pdMd_D hD
  have hP : va_P D pdCl [(hm, .inr (2, [.ref a1, .ref a2, .ref a3])), (a1, .inl (c1, 2, .inl v.1)), (a2, .inl (c2, 2, .inl v.2.1)), (a3, .inl (c3, 2, .inl v.2.2))] s.heap := hP
  have hl := lv_entry ([.ref hm, .int x]) (n := 5) (Nat.le_of_ble_eq_true rfl)
  rw [lg_entry_eq]
  generalize (lg_sl ([.ref hm, .int x]) ++ List.replicate (5 - (lg_sl ([.ref hm, .int x])).length) Slot.unset).toArray = ls at hl ⊢
  have hl : lv_has ls 5 [(0, .ref hm), (1, .int x)] := hl
  refine lv_iload_n hx hb dX3_normal_0 rfl (lv_at hl 1 rfl) ?_
  refine lv_iconst (v := 1) hx hb dX3_normal_1 (by decide) ?_
  refine lv_iand hx hb dX3_normal_2 ?_
  refine lv_istore_n (lv' := [(2, .int (x &&& 1)), (0, .ref hm), (1, .int x)]) hx hb dX3_normal_3 rfl hl (by decide) rfl (fun ls hl => ?_)
  refine lv_aload_n hx hb dX3_normal_4 rfl (lv_at hl 1 rfl) ?_
  refine lv_iload_n hx hb dX3_normal_5 rfl (lv_at hl 0 rfl) ?_
  refine pd_callV (W.runV (As := [.int (x &&& 1)]) (rest := []) ⟨hx, hb, hml, hown, hts⟩ (mX3_lacksRoom l D c1 c2 c3 s.heap.size hm a1 a2 a3 v (x &&& 1) (pdK_in x)) (cwV 1 hts (lw_V q791 q793 qs4 q10 q794) rfl rfl rfl (by decide +kernel) ⟨Nat.le_of_ble_eq_true rfl, Nat.le_of_ble_eq_true rfl⟩) (pdMd_pre [0, 1, 2] rfl hK hP hD0) rfl rfl hl.1 rfl (lv_room (Nat.le_of_ble_eq_true rfl)) dX3_normal_6 ⟨Nat.zero_le _, Nat.zero_le _⟩) ?_
  refine W.eq (g2 := F0 m 9 ls [.int (pf_nbit (pdOk v (pdK x)))]) rfl ?_
  refine lv_if_eq (tgt := 14) hx hb dX3_normal_9 (by decide) (fun c_9 => ?_) (fun c_9 => ?_)
  · have hok : pdOk v (pdK x) = true := pf_nbit_0 c_9
    refine lv_aload_n hx hb dX3_normal_14 rfl (lv_at hl 1 rfl) ?_
    refine lv_iload_n hx hb dX3_normal_15 rfl (lv_at hl 0 rfl) ?_
    refine pd_callV (W.runV (As := [.int (x &&& 1)]) (rest := []) ⟨hx, hb, hml, hown, hts⟩ (mX3_all l D c1 c2 c3 s.heap.size hm a1 a2 a3 v (x &&& 1)) (cwV 1 hts (lw_V q820 q821 q822 q10 q823) rfl rfl rfl (by decide +kernel) ⟨Nat.le_of_ble_eq_true rfl, Nat.le_of_ble_eq_true rfl⟩) (pdMd_pre [0, 1, 2] rfl hK hP hD0) rfl rfl hl.1 rfl (lv_room (Nat.le_of_ble_eq_true rfl)) dX3_normal_16 ⟨Nat.zero_le _, Nat.zero_le _⟩) ?_
    refine W.eq (g2 := F0 m 19 ls [.long (pf_all x v)]) (by rw [pf_all_K]) ?_
    refine lv_lstore_n (lv' := [(3, .long (pf_all x v)), (2, .int (x &&& 1)), (0, .ref hm), (1, .int x)]) hx hb dX3_normal_19 rfl hl (by decide) rfl (fun ls hl => ?_)
    refine lv_aload_n hx hb dX3_normal_20 rfl (lv_at hl 2 rfl) ?_
    refine va_get (D := D) (ci := 2) (v := .ref a1) (C := RX3) (T := TX3) (N := 3) hx hb hts in_X3 hown hK hP 0 rfl rfl 0 (by decide) (hts _ q764) (fun _ h9 => h9) rfl dX3_normal_21 ?_
    refine lv_iload_n hx hb dX3_normal_24 rfl (lv_at hl 1 rfl) ?_
    refine lv_lload_n hx hb dX3_normal_25 rfl (lv_at hl 0 rfl) ?_
    refine lv_ldc2 hx hb hown (hts _ q824) dX3_normal_26 ?_
    refine lv_ldiv hx hb dX3_normal_29 (by decide) ?_
    refine lv_l2i hx hb dX3_normal_30 rfl ?_
    refine va_iast hx hb hK hP hD hS 1 0 rfl rfl (pdK_in x) dX3_normal_31 (fun H locs hP hD hS => ?_)
    have hP : va_P D pdCl [(hm, .inr (2, [.ref a1, .ref a2, .ref a3])), (a1, .inl (c1, 2, .inl (upd v.1 (pdK x) (((pf_all x v) / 12).toInt32)))), (a2, .inl (c2, 2, .inl v.2.1)), (a3, .inl (c3, 2, .inl v.2.2))] H := hP
    have hD : va_D (pdB hm a1 a2 a3 s.heap.size) [(hm, .inr (2, [.ref a1, .ref a2, .ref a3])), (a1, .inl (c1, 2, .inl (upd v.1 (pdK x) (((pf_all x v) / 12).toInt32)))), (a2, .inl (c2, 2, .inl v.2.1)), (a3, .inl (c3, 2, .inl v.2.2))] := hD
    refine lv_aload_n hx hb dX3_normal_32 rfl (lv_at hl 2 rfl) ?_
    refine va_get (D := D) (ci := 2) (v := .ref a2) (C := RX3) (T := TX3) (N := 3) hx hb hts in_X3 hown hK hP 0 rfl rfl 1 (by decide) (hts _ q765) (fun _ h9 => h9) rfl dX3_normal_33 ?_
    refine lv_iload_n hx hb dX3_normal_36 rfl (lv_at hl 1 rfl) ?_
    refine lv_lload_n hx hb dX3_normal_37 rfl (lv_at hl 0 rfl) ?_
    refine lv_ldc2 hx hb hown (hts _ q824) dX3_normal_38 ?_
    refine lv_lrem hx hb dX3_normal_41 (by decide) ?_
    refine lv_l2i hx hb dX3_normal_42 rfl ?_
    refine va_iast hx hb hK hP hD hS 2 1 rfl rfl (pdK_in x) dX3_normal_43 (fun H locs hP hD hS => ?_)
    have hP : va_P D pdCl [(hm, .inr (2, [.ref a1, .ref a2, .ref a3])), (a1, .inl (c1, 2, .inl (upd v.1 (pdK x) (((pf_all x v) / 12).toInt32)))), (a2, .inl (c2, 2, .inl (upd v.2.1 (pdK x) (((pf_all x v) - (pf_all x v) / 12 * 12).toInt32)))), (a3, .inl (c3, 2, .inl v.2.2))] H := hP
    have hD : va_D (pdB hm a1 a2 a3 s.heap.size) [(hm, .inr (2, [.ref a1, .ref a2, .ref a3])), (a1, .inl (c1, 2, .inl (upd v.1 (pdK x) (((pf_all x v) / 12).toInt32)))), (a2, .inl (c2, 2, .inl (upd v.2.1 (pdK x) (((pf_all x v) - (pf_all x v) / 12 * 12).toInt32)))), (a3, .inl (c3, 2, .inl v.2.2))] := hD
    refine lv_iconst (v := 1) hx hb dX3_normal_44 (by decide) ?_
    have e : pf_normal x v = (1, ((upd v.1 (pdK x) (((pf_all x v) / 12).toInt32)), (upd v.2.1 (pdK x) (((pf_all x v) - (pf_all x v) / 12 * 12).toInt32)), v.2.2)) := by unfold pf_normal; exact if_pos hok
    exact W.zret (v := 1) hx hb hr rfl (fun t ht hW => ⟨by rw [e], by rw [ht, e]; exact hP, hS.F ht⟩) hS.2.2 dX3_normal_45
  · refine lv_iconst (v := 0) hx hb dX3_normal_12 (by decide) ?_
    have e : pf_normal x v = (0, v) := by unfold pf_normal; exact if_neg (fun h => by rw [pf_nbit_1 c_9] at h; cases h)
    exact W.zret (v := 0) hx hb hr rfl (fun t ht hW => ⟨by rw [e], by rw [ht, e]; exact hP, hS.F ht⟩) hS.2.2 dX3_normal_13
set_option maxHeartbeats 4000000 in
set_option maxRecDepth 100000 in
theorem mX3_days (l : Launch) (D : va_G) (c1 c2 c3 : ClassId) (sz hm a1 a2 a3 : Nat) (v : pdS) (x n : Int32) : Met l yX3_days (ws_ yX3_days cX3_days 4 (some .boolean)) ({ frames := 2, cells := 0, slots := 0, locals := 80 }) (va_Pc [.ref hm, .int x, .int n] (pdMd D c1 c2 c3 sz hm a1 a2 a3 v)) (pdG (some (.int (pf_days x n v).1)) (fun H => va_P D pdCl (pdMw c1 c2 c3 hm a1 a2 a3 (pf_days x n v).2) H) (pdB hm a1 a2 a3 sz)) 0 0 (pdB hm a1 a2 a3 sz) := by
  refine Met.ofW (cc := cX3_days) (maxL := 4) (ret := (some .boolean)) (by decide) rfl ?_
  intro p e s m args below meth c s₁ B hml hv
  obtain ⟨rfl, hsz, hK, hP, hD⟩ := hv
  have hx := B.exec
  have hb := B.bytes
  have hr := B.returns
  have hts := atoms_spec (ws := (ws_ yX3_days cX3_days 4 (some .boolean))) B.pre
  have hts : ∀ w ∈ lw_all, w.before _ s = true := fun w h => hts w (List.mem_cons_of_mem _ h)
  have hown : s.vm.findClass RX3 = some m.cls := findClass_of_methodNamed B.named
  have hlocks := B.notSynchronized
  subst hsz
  have hS : va_S (pdB hm a1 a2 a3 s.heap.size) s.heap s.heap [] := va_S.rf
  have hD0 := hD
  have hD : va_D (pdB hm a1 a2 a3 s.heap.size) [(hm, .inr (2, [.ref a1, .ref a2, .ref a3])), (a1, .inl (c1, 2, .inl v.1)), (a2, .inl (c2, 2, .inl v.2.1)), (a3, .inl (c3, 2, .inl v.2.2))] := pdMd_D hD
  have hP : va_P D pdCl [(hm, .inr (2, [.ref a1, .ref a2, .ref a3])), (a1, .inl (c1, 2, .inl v.1)), (a2, .inl (c2, 2, .inl v.2.1)), (a3, .inl (c3, 2, .inl v.2.2))] s.heap := hP
  have hl := lv_entry ([.ref hm, .int x, .int n]) (n := 4) (Nat.le_of_ble_eq_true rfl)
  rw [lg_entry_eq]
  generalize (lg_sl ([.ref hm, .int x, .int n]) ++ List.replicate (4 - (lg_sl ([.ref hm, .int x, .int n])).length) Slot.unset).toArray = ls at hl ⊢
  have hl : lv_has ls 4 [(0, .ref hm), (1, .int x), (2, .int n)] := hl
  refine lv_iload_n hx hb dX3_days_0 rfl (lv_at hl 1 rfl) ?_
  refine lv_iconst (v := 1) hx hb dX3_days_1 (by decide) ?_
  refine lv_iand hx hb dX3_days_2 ?_
  refine lv_istore_n (lv' := [(3, .int (x &&& 1)), (0, .ref hm), (1, .int x), (2, .int n)]) hx hb dX3_days_3 rfl hl (by decide) rfl (fun ls hl => ?_)
  refine lv_aload_n hx hb dX3_days_4 rfl (lv_at hl 1 rfl) ?_
  refine lv_iload_n hx hb dX3_days_5 rfl (lv_at hl 0 rfl) ?_
  refine pd_callV (W.runV (As := [.int (x &&& 1)]) (rest := []) ⟨hx, hb, hml, hown, hts⟩ (mX3_lacksRoom l D c1 c2 c3 s.heap.size hm a1 a2 a3 v (x &&& 1) (pdK_in x)) (cwV 1 hts (lw_V q791 q793 qs4 q10 q794) rfl rfl rfl (by decide +kernel) ⟨Nat.le_of_ble_eq_true rfl, Nat.le_of_ble_eq_true rfl⟩) (pdMd_pre [0, 1, 2] rfl hK hP hD0) rfl rfl hl.1 rfl (lv_room (Nat.le_of_ble_eq_true rfl)) dX3_days_6 ⟨Nat.zero_le _, Nat.zero_le _⟩) ?_
  refine W.eq (g2 := F0 m 9 ls [.int (pf_nbit (pdOk v (pdK x)))]) rfl ?_
  refine lv_if_eq (tgt := 14) hx hb dX3_days_9 (by decide) (fun c_9 => ?_) (fun c_9 => ?_)
  · have hok : pdOk v (pdK x) = true := pf_nbit_0 c_9
    refine lv_aload_n hx hb dX3_days_14 rfl (lv_at hl 1 rfl) ?_
    refine va_get (D := D) (ci := 2) (v := .ref a3) (C := RX3) (T := TX3) (N := 3) hx hb hts in_X3 hown hK hP 0 rfl rfl 2 (by decide) (hts _ q766) (fun _ h9 => h9) rfl dX3_days_15 ?_
    refine lv_iload_n hx hb dX3_days_18 rfl (lv_at hl 0 rfl) ?_
    refine lv_dup2_11 hx hb dX3_days_19 rfl rfl ?_
    refine va_iald hx hb hK hP 3 2 rfl rfl (pdK_in x) dX3_days_20 ?_
    refine lv_iload_n hx hb dX3_days_21 rfl (lv_at hl 3 rfl) ?_
    refine pd_callV (W.runS (As := [.int n]) (rest := [.int (v.2.2 (pdK x)), .int (x &&& 1), .ref a3]) ⟨hx, hb, hml, hown, hts⟩ (mX3_small l n) (va_cwS 1 hts (lw_S q779 q780 q10 q781) rfl rfl rfl (by decide +kernel) ⟨Nat.le_of_ble_eq_true rfl, Nat.le_of_ble_eq_true rfl⟩) (pdT_preS) rfl rfl hl.1 rfl (lv_room (Nat.le_of_ble_eq_true rfl)) dX3_days_22 ⟨Nat.zero_le _, Nat.zero_le _⟩) ?_
    refine W.eq (g2 := F0 m 25 ls [.int (pf_small n), .int (v.2.2 (pdK x)), .int (x &&& 1), .ref a3]) rfl ?_
    refine lv_iadd hx hb dX3_days_25 ?_
    refine va_iast hx hb hK hP hD hS 3 2 rfl rfl (pdK_in x) dX3_days_26 (fun H locs hP hD hS => ?_)
    have hP : va_P D pdCl [(hm, .inr (2, [.ref a1, .ref a2, .ref a3])), (a1, .inl (c1, 2, .inl v.1)), (a2, .inl (c2, 2, .inl v.2.1)), (a3, .inl (c3, 2, .inl (upd v.2.2 (pdK x) ((v.2.2 (pdK x)) + (pf_small n)))))] H := hP
    have hD : va_D (pdB hm a1 a2 a3 s.heap.size) [(hm, .inr (2, [.ref a1, .ref a2, .ref a3])), (a1, .inl (c1, 2, .inl v.1)), (a2, .inl (c2, 2, .inl v.2.1)), (a3, .inl (c3, 2, .inl (upd v.2.2 (pdK x) ((v.2.2 (pdK x)) + (pf_small n)))))] := hD
    refine lv_iconst (v := 1) hx hb dX3_days_27 (by decide) ?_
    have e : pf_days x n v = (1, (v.1, v.2.1, (upd v.2.2 (pdK x) ((v.2.2 (pdK x)) + (pf_small n))))) := by unfold pf_days; exact if_pos hok
    exact W.zret (v := 1) hx hb hr rfl (fun t ht hW => ⟨by rw [e], by rw [ht, e]; exact hP, hS.F ht⟩) hS.2.2 dX3_days_28
  · refine lv_iconst (v := 0) hx hb dX3_days_12 (by decide) ?_
    have e : pf_days x n v = (0, v) := by unfold pf_days; exact if_neg (fun h => by rw [pf_nbit_1 c_9] at h; cases h)
    exact W.zret (v := 0) hx hb hr rfl (fun t ht hW => ⟨by rw [e], by rw [ht, e]; exact hP, hS.F ht⟩) hS.2.2 dX3_days_13
set_option maxHeartbeats 4000000 in
set_option maxRecDepth 100000 in
theorem mX3_months (l : Launch) (D : va_G) (c1 c2 c3 : ClassId) (sz hm a1 a2 a3 : Nat) (v : pdS) (x n : Int32) : Met l yX3_months (ws_ yX3_months cX3_months 4 (some .boolean)) ({ frames := 2, cells := 0, slots := 0, locals := 80 }) (va_Pc [.ref hm, .int x, .int n] (pdMd D c1 c2 c3 sz hm a1 a2 a3 v)) (pdG (some (.int (pf_months x n v).1)) (fun H => va_P D pdCl (pdMw c1 c2 c3 hm a1 a2 a3 (pf_months x n v).2) H) (pdB hm a1 a2 a3 sz)) 0 0 (pdB hm a1 a2 a3 sz) := by
  refine Met.ofW (cc := cX3_months) (maxL := 4) (ret := (some .boolean)) (by decide) rfl ?_
  intro p e s m args below meth c s₁ B hml hv
  obtain ⟨rfl, hsz, hK, hP, hD⟩ := hv
  have hx := B.exec
  have hb := B.bytes
  have hr := B.returns
  have hts := atoms_spec (ws := (ws_ yX3_months cX3_months 4 (some .boolean))) B.pre
  have hts : ∀ w ∈ lw_all, w.before _ s = true := fun w h => hts w (List.mem_cons_of_mem _ h)
  have hown : s.vm.findClass RX3 = some m.cls := findClass_of_methodNamed B.named
  have hlocks := B.notSynchronized
  subst hsz
  have hS : va_S (pdB hm a1 a2 a3 s.heap.size) s.heap s.heap [] := va_S.rf
  have hD0 := hD
  have hD : va_D (pdB hm a1 a2 a3 s.heap.size) [(hm, .inr (2, [.ref a1, .ref a2, .ref a3])), (a1, .inl (c1, 2, .inl v.1)), (a2, .inl (c2, 2, .inl v.2.1)), (a3, .inl (c3, 2, .inl v.2.2))] := pdMd_D hD
  have hP : va_P D pdCl [(hm, .inr (2, [.ref a1, .ref a2, .ref a3])), (a1, .inl (c1, 2, .inl v.1)), (a2, .inl (c2, 2, .inl v.2.1)), (a3, .inl (c3, 2, .inl v.2.2))] s.heap := hP
  have hl := lv_entry ([.ref hm, .int x, .int n]) (n := 4) (Nat.le_of_ble_eq_true rfl)
  rw [lg_entry_eq]
  generalize (lg_sl ([.ref hm, .int x, .int n]) ++ List.replicate (4 - (lg_sl ([.ref hm, .int x, .int n])).length) Slot.unset).toArray = ls at hl ⊢
  have hl : lv_has ls 4 [(0, .ref hm), (1, .int x), (2, .int n)] := hl
  refine lv_iload_n hx hb dX3_months_0 rfl (lv_at hl 1 rfl) ?_
  refine lv_iconst (v := 1) hx hb dX3_months_1 (by decide) ?_
  refine lv_iand hx hb dX3_months_2 ?_
  refine lv_istore_n (lv' := [(3, .int (x &&& 1)), (0, .ref hm), (1, .int x), (2, .int n)]) hx hb dX3_months_3 rfl hl (by decide) rfl (fun ls hl => ?_)
  refine lv_aload_n hx hb dX3_months_4 rfl (lv_at hl 1 rfl) ?_
  refine lv_iload_n hx hb dX3_months_5 rfl (lv_at hl 0 rfl) ?_
  refine pd_callV (W.runV (As := [.int (x &&& 1)]) (rest := []) ⟨hx, hb, hml, hown, hts⟩ (mX3_lacksRoom l D c1 c2 c3 s.heap.size hm a1 a2 a3 v (x &&& 1) (pdK_in x)) (cwV 1 hts (lw_V q791 q793 qs4 q10 q794) rfl rfl rfl (by decide +kernel) ⟨Nat.le_of_ble_eq_true rfl, Nat.le_of_ble_eq_true rfl⟩) (pdMd_pre [0, 1, 2] rfl hK hP hD0) rfl rfl hl.1 rfl (lv_room (Nat.le_of_ble_eq_true rfl)) dX3_months_6 ⟨Nat.zero_le _, Nat.zero_le _⟩) ?_
  refine W.eq (g2 := F0 m 9 ls [.int (pf_nbit (pdOk v (pdK x)))]) rfl ?_
  refine lv_if_eq (tgt := 14) hx hb dX3_months_9 (by decide) (fun c_9 => ?_) (fun c_9 => ?_)
  · have hok : pdOk v (pdK x) = true := pf_nbit_0 c_9
    refine lv_aload_n hx hb dX3_months_14 rfl (lv_at hl 1 rfl) ?_
    refine va_get (D := D) (ci := 2) (v := .ref a2) (C := RX3) (T := TX3) (N := 3) hx hb hts in_X3 hown hK hP 0 rfl rfl 1 (by decide) (hts _ q765) (fun _ h9 => h9) rfl dX3_months_15 ?_
    refine lv_iload_n hx hb dX3_months_18 rfl (lv_at hl 0 rfl) ?_
    refine lv_dup2_11 hx hb dX3_months_19 rfl rfl ?_
    refine va_iald hx hb hK hP 2 1 rfl rfl (pdK_in x) dX3_months_20 ?_
    refine lv_iload_n hx hb dX3_months_21 rfl (lv_at hl 3 rfl) ?_
    refine pd_callV (W.runS (As := [.int n]) (rest := [.int (v.2.1 (pdK x)), .int (x &&& 1), .ref a2]) ⟨hx, hb, hml, hown, hts⟩ (mX3_small l n) (va_cwS 1 hts (lw_S q779 q780 q10 q781) rfl rfl rfl (by decide +kernel) ⟨Nat.le_of_ble_eq_true rfl, Nat.le_of_ble_eq_true rfl⟩) (pdT_preS) rfl rfl hl.1 rfl (lv_room (Nat.le_of_ble_eq_true rfl)) dX3_months_22 ⟨Nat.zero_le _, Nat.zero_le _⟩) ?_
    refine W.eq (g2 := F0 m 25 ls [.int (pf_small n), .int (v.2.1 (pdK x)), .int (x &&& 1), .ref a2]) rfl ?_
    refine lv_iadd hx hb dX3_months_25 ?_
    refine va_iast hx hb hK hP hD hS 2 1 rfl rfl (pdK_in x) dX3_months_26 (fun H locs hP hD hS => ?_)
    have hP : va_P D pdCl [(hm, .inr (2, [.ref a1, .ref a2, .ref a3])), (a1, .inl (c1, 2, .inl v.1)), (a2, .inl (c2, 2, .inl (upd v.2.1 (pdK x) ((v.2.1 (pdK x)) + (pf_small n))))), (a3, .inl (c3, 2, .inl v.2.2))] H := hP
    have hD : va_D (pdB hm a1 a2 a3 s.heap.size) [(hm, .inr (2, [.ref a1, .ref a2, .ref a3])), (a1, .inl (c1, 2, .inl v.1)), (a2, .inl (c2, 2, .inl (upd v.2.1 (pdK x) ((v.2.1 (pdK x)) + (pf_small n))))), (a3, .inl (c3, 2, .inl v.2.2))] := hD
    refine lv_iconst (v := 1) hx hb dX3_months_27 (by decide) ?_
    have e : pf_months x n v = (1, (v.1, (upd v.2.1 (pdK x) ((v.2.1 (pdK x)) + (pf_small n))), v.2.2)) := by unfold pf_months; exact if_pos hok
    exact W.zret (v := 1) hx hb hr rfl (fun t ht hW => ⟨by rw [e], by rw [ht, e]; exact hP, hS.F ht⟩) hS.2.2 dX3_months_28
  · refine lv_iconst (v := 0) hx hb dX3_months_12 (by decide) ?_
    have e : pf_months x n v = (0, v) := by unfold pf_months; exact if_neg (fun h => by rw [pf_nbit_1 c_9] at h; cases h)
    exact W.zret (v := 0) hx hb hr rfl (fun t ht hW => ⟨by rw [e], by rw [ht, e]; exact hP, hS.F ht⟩) hS.2.2 dX3_months_13
set_option maxHeartbeats 4000000 in
set_option maxRecDepth 100000 in
theorem mX3_set (l : Launch) (D : va_G) (c1 c2 c3 : ClassId) (sz hm a1 a2 a3 : Nat) (v : pdS) (x a b k : Int32) : Met l yX3_set (ws_ yX3_set cX3_set 6 none) ({ frames := 1, cells := 0, slots := 0, locals := 40 }) (va_Pc [.ref hm, .int x, .int a, .int b, .int k] (pdMd D c1 c2 c3 sz hm a1 a2 a3 v)) (pdG none (fun H => va_P D pdCl (pdMw c1 c2 c3 hm a1 a2 a3 (pf_set x a b k v)) H) (pdB hm a1 a2 a3 sz)) 0 0 (pdB hm a1 a2 a3 sz) := by
  refine Met.ofW (cc := cX3_set) (maxL := 6) (ret := none) (by decide) rfl ?_
  intro p e s m args below meth c s₁ B hml hv
  obtain ⟨rfl, hsz, hK, hP, hD⟩ := hv
  have hx := B.exec
  have hb := B.bytes
  have hr := B.returns
  have hts := atoms_spec (ws := (ws_ yX3_set cX3_set 6 none)) B.pre
  have hts : ∀ w ∈ lw_all, w.before _ s = true := fun w h => hts w (List.mem_cons_of_mem _ h)
  have hown : s.vm.findClass RX3 = some m.cls := findClass_of_methodNamed B.named
  have hlocks := B.notSynchronized
  subst hsz
  have hS : va_S (pdB hm a1 a2 a3 s.heap.size) s.heap s.heap [] := va_S.rf
  have hD0 := hD
  have hD : va_D (pdB hm a1 a2 a3 s.heap.size) [(hm, .inr (2, [.ref a1, .ref a2, .ref a3])), (a1, .inl (c1, 2, .inl v.1)), (a2, .inl (c2, 2, .inl v.2.1)), (a3, .inl (c3, 2, .inl v.2.2))] := pdMd_D hD
  have hP : va_P D pdCl [(hm, .inr (2, [.ref a1, .ref a2, .ref a3])), (a1, .inl (c1, 2, .inl v.1)), (a2, .inl (c2, 2, .inl v.2.1)), (a3, .inl (c3, 2, .inl v.2.2))] s.heap := hP
  have hl := lv_entry ([.ref hm, .int x, .int a, .int b, .int k]) (n := 6) (Nat.le_of_ble_eq_true rfl)
  rw [lg_entry_eq]
  generalize (lg_sl ([.ref hm, .int x, .int a, .int b, .int k]) ++ List.replicate (6 - (lg_sl ([.ref hm, .int x, .int a, .int b, .int k])).length) Slot.unset).toArray = ls at hl ⊢
  have hl : lv_has ls 6 [(0, .ref hm), (1, .int x), (2, .int a), (3, .int b), (4, .int k)] := hl
  refine lv_iload_n hx hb dX3_set_0 rfl (lv_at hl 1 rfl) ?_
  refine lv_iconst (v := 1) hx hb dX3_set_1 (by decide) ?_
  refine lv_iand hx hb dX3_set_2 ?_
  refine lv_istore (lv' := [(5, .int (x &&& 1)), (0, .ref hm), (1, .int x), (2, .int a), (3, .int b), (4, .int k)]) hx hb dX3_set_3 hl (by decide) rfl (fun ls hl => ?_)
  refine lv_aload_n hx hb dX3_set_5 rfl (lv_at hl 1 rfl) ?_
  refine va_get (D := D) (ci := 2) (v := .ref a1) (C := RX3) (T := TX3) (N := 3) hx hb hts in_X3 hown hK hP 0 rfl rfl 0 (by decide) (hts _ q764) (fun _ h9 => h9) rfl dX3_set_6 ?_
  refine lv_iload hx hb dX3_set_9 (lv_at hl 0 rfl) ?_
  refine lv_iload_n hx hb dX3_set_11 rfl (lv_at hl 3 rfl) ?_
  refine pd_callV (W.runS (As := [.int a]) (rest := [.int (x &&& 1), .ref a1]) ⟨hx, hb, hml, hown, hts⟩ (mX3_small l a) (va_cwS 1 hts (lw_S q779 q780 q10 q781) rfl rfl rfl (by decide +kernel) ⟨Nat.le_of_ble_eq_true rfl, Nat.le_of_ble_eq_true rfl⟩) (pdT_preS) rfl rfl hl.1 rfl (lv_room (Nat.le_of_ble_eq_true rfl)) dX3_set_12 ⟨Nat.zero_le _, Nat.zero_le _⟩) ?_
  refine W.eq (g2 := F0 m 15 ls [.int (pf_small a), .int (x &&& 1), .ref a1]) rfl ?_
  refine va_iast hx hb hK hP hD hS 1 0 rfl rfl (pdK_in x) dX3_set_15 (fun H locs hP hD hS => ?_)
  have hP : va_P D pdCl [(hm, .inr (2, [.ref a1, .ref a2, .ref a3])), (a1, .inl (c1, 2, .inl (upd v.1 (pdK x) (pf_small a)))), (a2, .inl (c2, 2, .inl v.2.1)), (a3, .inl (c3, 2, .inl v.2.2))] H := hP
  have hD : va_D (pdB hm a1 a2 a3 s.heap.size) [(hm, .inr (2, [.ref a1, .ref a2, .ref a3])), (a1, .inl (c1, 2, .inl (upd v.1 (pdK x) (pf_small a)))), (a2, .inl (c2, 2, .inl v.2.1)), (a3, .inl (c3, 2, .inl v.2.2))] := hD
  refine lv_aload_n hx hb dX3_set_16 rfl (lv_at hl 1 rfl) ?_
  refine va_get (D := D) (ci := 2) (v := .ref a2) (C := RX3) (T := TX3) (N := 3) hx hb hts in_X3 hown hK hP 0 rfl rfl 1 (by decide) (hts _ q765) (fun _ h9 => h9) rfl dX3_set_17 ?_
  refine lv_iload hx hb dX3_set_20 (lv_at hl 0 rfl) ?_
  refine lv_iload_n hx hb dX3_set_22 rfl (lv_at hl 4 rfl) ?_
  refine pd_callV (W.runS (As := [.int b]) (rest := [.int (x &&& 1), .ref a2]) ⟨hx, hb, hml, hown, hts⟩ (mX3_small l b) (va_cwS 1 hts (lw_S q779 q780 q10 q781) rfl rfl rfl (by decide +kernel) ⟨Nat.le_of_ble_eq_true rfl, Nat.le_of_ble_eq_true rfl⟩) (pdT_preS) rfl rfl hl.1 rfl (lv_room (Nat.le_of_ble_eq_true rfl)) dX3_set_23 ⟨Nat.zero_le _, Nat.zero_le _⟩) ?_
  refine W.eq (g2 := F0 m 26 ls [.int (pf_small b), .int (x &&& 1), .ref a2]) rfl ?_
  refine va_iast hx hb hK hP hD hS 2 1 rfl rfl (pdK_in x) dX3_set_26 (fun H locs hP hD hS => ?_)
  have hP : va_P D pdCl [(hm, .inr (2, [.ref a1, .ref a2, .ref a3])), (a1, .inl (c1, 2, .inl (upd v.1 (pdK x) (pf_small a)))), (a2, .inl (c2, 2, .inl (upd v.2.1 (pdK x) (pf_small b)))), (a3, .inl (c3, 2, .inl v.2.2))] H := hP
  have hD : va_D (pdB hm a1 a2 a3 s.heap.size) [(hm, .inr (2, [.ref a1, .ref a2, .ref a3])), (a1, .inl (c1, 2, .inl (upd v.1 (pdK x) (pf_small a)))), (a2, .inl (c2, 2, .inl (upd v.2.1 (pdK x) (pf_small b)))), (a3, .inl (c3, 2, .inl v.2.2))] := hD
  refine lv_aload_n hx hb dX3_set_27 rfl (lv_at hl 1 rfl) ?_
  refine va_get (D := D) (ci := 2) (v := .ref a3) (C := RX3) (T := TX3) (N := 3) hx hb hts in_X3 hown hK hP 0 rfl rfl 2 (by decide) (hts _ q766) (fun _ h9 => h9) rfl dX3_set_28 ?_
  refine lv_iload hx hb dX3_set_31 (lv_at hl 0 rfl) ?_
  refine lv_iload hx hb dX3_set_33 (lv_at hl 5 rfl) ?_
  refine pd_callV (W.runS (As := [.int k]) (rest := [.int (x &&& 1), .ref a3]) ⟨hx, hb, hml, hown, hts⟩ (mX3_small l k) (va_cwS 1 hts (lw_S q779 q780 q10 q781) rfl rfl rfl (by decide +kernel) ⟨Nat.le_of_ble_eq_true rfl, Nat.le_of_ble_eq_true rfl⟩) (pdT_preS) rfl rfl hl.1 rfl (lv_room (Nat.le_of_ble_eq_true rfl)) dX3_set_35 ⟨Nat.zero_le _, Nat.zero_le _⟩) ?_
  refine W.eq (g2 := F0 m 38 ls [.int (pf_small k), .int (x &&& 1), .ref a3]) rfl ?_
  refine va_iast hx hb hK hP hD hS 3 2 rfl rfl (pdK_in x) dX3_set_38 (fun H locs hP hD hS => ?_)
  have hP : va_P D pdCl [(hm, .inr (2, [.ref a1, .ref a2, .ref a3])), (a1, .inl (c1, 2, .inl (upd v.1 (pdK x) (pf_small a)))), (a2, .inl (c2, 2, .inl (upd v.2.1 (pdK x) (pf_small b)))), (a3, .inl (c3, 2, .inl (upd v.2.2 (pdK x) (pf_small k))))] H := hP
  have hD : va_D (pdB hm a1 a2 a3 s.heap.size) [(hm, .inr (2, [.ref a1, .ref a2, .ref a3])), (a1, .inl (c1, 2, .inl (upd v.1 (pdK x) (pf_small a)))), (a2, .inl (c2, 2, .inl (upd v.2.1 (pdK x) (pf_small b)))), (a3, .inl (c3, 2, .inl (upd v.2.2 (pdK x) (pf_small k))))] := hD
  exact W.vret hx hb hr (fun t ht hW => ⟨rfl, by rw [ht]; exact hP, hS.F ht⟩) hS.2.2 dX3_set_39
/-! the two constructors -/
abbrev pd_v0 : pdS := (fun _ => 0, fun _ => 0, fun _ => 0)
def pdNw (D : va_G) (ci : Nat) (fs : List Value) (sz h0 : Nat) (U : State) : Prop := U.heap.size = sz ∧ va_K D pdCl [] U ∧ va_P D pdCl [(h0, .inr (ci, fs))] U.heap
theorem pdNw_preS {D : va_G} {ci : Nat} {fs : List Value} {tys : List (ClassId × FieldType)} {s : State} {H : Heap} {h0 : Nat} {As : List Value} (hK : va_K D pdCl tys s) (hP : va_P D pdCl [(h0, .inr (ci, fs))] H) : PreS s H (va_Pc (.ref h0 :: As) (pdNw D ci fs H.size h0)) (.ref h0 :: As) :=
  ⟨fun a U g mk q => ⟨q.1, q.2.1, pdK_blind g mk a q.2.2.1, q.2.2.2⟩, fun U hU hW => ⟨rfl, by rw [hU], (va_K.moved hW.alike hK).sub [] rfl, by rw [hU]; exact hP⟩⟩
/-- behind PeriodDeskModel() -/
def pdM0 (D : va_G) (hm : Nat) (A : Nat → Prop) (u : ClassId × ClassId × ClassId × Nat × Nat × Nat) (t : State) : Prop := va_K D pdCl [(u.1, .int), (u.2.1, .int), (u.2.2.1, .int)] t ∧ va_P D pdCl (pdMw u.1 u.2.1 u.2.2.1 hm u.2.2.2.1 u.2.2.2.2.1 u.2.2.2.2.2 pd_v0) t.heap ∧ va_D A (pdMw u.1 u.2.1 u.2.2.1 hm u.2.2.2.1 u.2.2.2.2.1 u.2.2.2.2.2 pd_v0)
def pdA1 (h0 sz : Nat) : Nat → Prop := fun q => q = h0 ∨ sz ≤ q
def pdDz (D : va_G) (z sz h0 : Nat) (U : State) : Prop := pdNw D 0 [.null] sz h0 U ∧ pdZ D z (pdA1 h0 sz) U ∧ va_AO "Period" U
theorem pdDz_preS {D : va_G} {z : Nat} {A : Nat → Prop} {tys : List (ClassId × FieldType)} {s : State} {H : Heap} {locs : List Loc} {h0 : Nat} {As : List Value} (hK : va_K D pdCl tys s) (hP : va_P D pdCl [(h0, .inr (0, [.null]))] H) (hZ : pdZ D z A s) (hS : va_S A s.heap H locs) (hA : ∀ q, pdA1 h0 H.size q → A q) (hO : va_AO "Period" s) : PreS s H (va_Pc (.ref h0 :: As) (pdDz D z H.size h0)) (.ref h0 :: As) :=
  ⟨fun a U g mk q => ⟨q.1, ⟨q.2.1.1, pdK_blind g mk a q.2.1.2.1, q.2.1.2.2⟩, pdZ_blind g mk a q.2.2.1, va_AO.moved (u := U) (U := U.calling g mk a) (Vm.Alike.refl U.vm) q.2.2.2⟩, fun U hU hW => ⟨rfl, ⟨by rw [hU], (va_K.moved hW.alike hK).sub [] rfl, by rw [hU]; exact hP⟩, pdZ_call hZ hS hU hW hA, va_AO.moved hW.alike hO⟩⟩
/-- behind PeriodDesk() -/
def pdD0 (D : va_G) (z h0 : Nat) (A : Nat → Prop) (u : ClassId × Nat) (t : State) : Prop := va_K D pdCl [(u.1, .object "Period")] t ∧ pdW D z u.1 h0 u.2 (fun _ => z) pd_v0 t.heap ∧ va_D A (pdDw u.1 h0 u.2 (fun _ => z)) ∧ ¬ A z
theorem pd_two {D : va_G} {cl : List vw_C} {cA : ClassId} {ha z : Nat} {H : Heap} (h : va_at D cl (ha, .inl (cA, 2, .inr (.inr (.inr (.inr (va_up (va_up (fun _ => none) 0 (some z)) 1 (some z))))))) H) : va_at D cl (ha, .inl (cA, 2, .inr (.inr (.inr (.inr (fun _ => some z)))))) H := by
  have h1 : H[ha]? = some (arrV cA 2 (fun j => va_rf (va_up (va_up (fun _ => none) 0 (some z)) 1 (some z) j))) := h
  show H[ha]? = some (arrV cA 2 (fun _ => va_rf (some z)))
  rw [h1]
  refine congrArg some (pd_arrV_c (fun j hj => ?_))
  rcases (show j = 0 ∨ j = 1 by omega) with rfl | rfl <;> rfl
set_option maxHeartbeats 4000000 in
set_option maxRecDepth 100000 in
theorem mX3_init (l : Launch) (D : va_G) (sz hm : Nat) : Met l yX3_init (ws_ yX3_init cX3_init 1 none) ({ frames := 1, cells := 3, slots := 6, locals := 40 }) (va_Pc [.ref hm] (pdNw D 2 [.null, .null, .null] sz hm)) (va_Qv (fun _ => True) (pdM0 D hm (pdA1 hm sz)) (pdA1 hm sz)) 3 6 (pdA1 hm sz) := by
  refine Met.ofW (cc := cX3_init) (maxL := 1) (ret := none) (by decide) rfl ?_
  intro p e s m args below meth c s₁ B hml hv
  obtain ⟨rfl, hsz, hK, hP⟩ := hv
  have hx := B.exec
  have hb := B.bytes
  have hr := B.returns
  have hts := atoms_spec (ws := (ws_ yX3_init cX3_init 1 none)) B.pre
  have hts : ∀ w ∈ lw_all, w.before _ s = true := fun w h => hts w (List.mem_cons_of_mem _ h)
  have hown : s.vm.findClass RX3 = some m.cls := findClass_of_methodNamed B.named
  have hlocks := B.notSynchronized
  have hin : meth.name = "<init>" := (name_of_methodNamed B.named B.method).1
  subst hsz
  generalize hAe : pdA1 hm s.heap.size = A
  have hAh : A hm := by rw [← hAe]; exact Or.inl rfl
  have hA : ∀ q : Nat, s.heap.size ≤ q → A q := fun q h => by rw [← hAe]; exact Or.inr h
  have hS : va_S A s.heap s.heap [] := va_S.rf
  have hP : va_P D pdCl [(hm, .inr (2, [.null, .null, .null]))] s.heap := hP
  have hD : va_D A [(hm, .inr (2, [.null, .null, .null]))] := pd_D1 hAh
  have hl := lv_entry ([.ref hm]) (n := 1) (Nat.le_of_ble_eq_true rfl)
  rw [lg_entry_eq]
  generalize (lg_sl ([.ref hm]) ++ List.replicate (1 - (lg_sl ([.ref hm])).length) Slot.unset).toArray = ls at hl ⊢
  have hl : lv_has ls 1 [(0, .ref hm)] := hl
  refine lv_aload_n hx hb dX3_init_0 rfl (lv_at hl 0 rfl) ?_
  refine W.objInit hx hb hown (hts _ q763) (hts _ q50) (hts _ q51) rfl (by rw [hml]; exact hl.1) rfl dX3_init_1 (Nat.le_of_ble_eq_true rfl) (Nat.le_of_ble_eq_true rfl) ?_
  refine W.eq (g2 := F0 m 4 ls []) rfl ?_
  refine lv_aload_n hx hb dX3_init_4 rfl (lv_at hl 0 rfl) ?_
  refine lv_iconst (v := 2) hx hb dX3_init_5 (by decide) ?_
  refine va_newa (atype := .int) (ty := .int) hx hb (hts _ q774) rfl hK hP hD hS hA (n := 2) (N' := 2) (a0 := (2, .inl (fun _ => 0))) (fun _ => rfl) (by decide) (by decide) (Nat.le_of_ble_eq_true rfl) (Nat.le_of_ble_eq_true rfl) (Nat.le_of_ble_eq_true rfl) dX3_init_6 (fun a1 c1 H hK hP hD hS => ?_)
  have hK : va_K D pdCl [(c1, .int)] s := hK
  have hP : va_P D pdCl [(hm, .inr (2, [.null, .null, .null])), (a1, .inl (c1, 2, .inl (fun _ => 0)))] H := hP
  have hD : va_D A [(hm, .inr (2, [.null, .null, .null])), (a1, .inl (c1, 2, .inl (fun _ => 0)))] := hD
  refine va_putF (D := D) (ci := 2) (v := .ref a1) (ty := (.array .int)) (C := RX3) (T := TX3) (N := 3) hx hb hts in_X3 tyX3 tyX3_ok nmX3 hown hK hP hD hS 0 rfl rfl 0 (by decide) (hts _ q764) (fun _ h9 => h9) rfl hin rfl (by decide +kernel) rfl rfl (Nat.le_of_ble_eq_true rfl) dX3_init_8 (fun H locs hP hD hS => ?_)
  have hP : va_P D pdCl [(hm, .inr (2, [.ref a1, .null, .null])), (a1, .inl (c1, 2, .inl (fun _ => 0)))] H := hP
  have hD : va_D A [(hm, .inr (2, [.ref a1, .null, .null])), (a1, .inl (c1, 2, .inl (fun _ => 0)))] := hD
  refine lv_aload_n hx hb dX3_init_11 rfl (lv_at hl 0 rfl) ?_
  refine lv_iconst (v := 2) hx hb dX3_init_12 (by decide) ?_
  refine va_newa (atype := .int) (ty := .int) hx hb (hts _ q774) rfl hK hP hD hS hA (n := 2) (N' := 2) (a0 := (2, .inl (fun _ => 0))) (fun _ => rfl) (by decide) (by decide) (Nat.le_of_ble_eq_true rfl) (Nat.le_of_ble_eq_true rfl) (Nat.le_of_ble_eq_true rfl) dX3_init_13 (fun a2 c2 H hK hP hD hS => ?_)
  have hK : va_K D pdCl [(c1, .int), (c2, .int)] s := hK
  have hP : va_P D pdCl [(hm, .inr (2, [.ref a1, .null, .null])), (a1, .inl (c1, 2, .inl (fun _ => 0))), (a2, .inl (c2, 2, .inl (fun _ => 0)))] H := hP
  have hD : va_D A [(hm, .inr (2, [.ref a1, .null, .null])), (a1, .inl (c1, 2, .inl (fun _ => 0))), (a2, .inl (c2, 2, .inl (fun _ => 0)))] := hD
  refine va_putF (D := D) (ci := 2) (v := .ref a2) (ty := (.array .int)) (C := RX3) (T := TX3) (N := 3) hx hb hts in_X3 tyX3 tyX3_ok nmX3 hown hK hP hD hS 0 rfl rfl 1 (by decide) (hts _ q765) (fun _ h9 => h9) rfl hin rfl (by decide +kernel) rfl rfl (Nat.le_of_ble_eq_true rfl) dX3_init_15 (fun H locs hP hD hS => ?_)
  have hP : va_P D pdCl [(hm, .inr (2, [.ref a1, .ref a2, .null])), (a1, .inl (c1, 2, .inl (fun _ => 0))), (a2, .inl (c2, 2, .inl (fun _ => 0)))] H := hP
  have hD : va_D A [(hm, .inr (2, [.ref a1, .ref a2, .null])), (a1, .inl (c1, 2, .inl (fun _ => 0))), (a2, .inl (c2, 2, .inl (fun _ => 0)))] := hD
  refine lv_aload_n hx hb dX3_init_18 rfl (lv_at hl 0 rfl) ?_
  refine lv_iconst (v := 2) hx hb dX3_init_19 (by decide) ?_
  refine va_newa (atype := .int) (ty := .int) hx hb (hts _ q774) rfl hK hP hD hS hA (n := 2) (N' := 2) (a0 := (2, .inl (fun _ => 0))) (fun _ => rfl) (by decide) (by decide) (Nat.le_of_ble_eq_true rfl) (Nat.le_of_ble_eq_true rfl) (Nat.le_of_ble_eq_true rfl) dX3_init_20 (fun a3 c3 H hK hP hD hS => ?_)
  have hK : va_K D pdCl [(c1, .int), (c2, .int), (c3, .int)] s := hK
  have hP : va_P D pdCl [(hm, .inr (2, [.ref a1, .ref a2, .null])), (a1, .inl (c1, 2, .inl (fun _ => 0))), (a2, .inl (c2, 2, .inl (fun _ => 0))), (a3, .inl (c3, 2, .inl (fun _ => 0)))] H := hP
  have hD : va_D A [(hm, .inr (2, [.ref a1, .ref a2, .null])), (a1, .inl (c1, 2, .inl (fun _ => 0))), (a2, .inl (c2, 2, .inl (fun _ => 0))), (a3, .inl (c3, 2, .inl (fun _ => 0)))] := hD
  refine va_putF (D := D) (ci := 2) (v := .ref a3) (ty := (.array .int)) (C := RX3) (T := TX3) (N := 3) hx hb hts in_X3 tyX3 tyX3_ok nmX3 hown hK hP hD hS 0 rfl rfl 2 (by decide) (hts _ q766) (fun _ h9 => h9) rfl hin rfl (by decide +kernel) rfl rfl (Nat.le_of_ble_eq_true rfl) dX3_init_22 (fun H locs hP hD hS => ?_)
  have hP : va_P D pdCl [(hm, .inr (2, [.ref a1, .ref a2, .ref a3])), (a1, .inl (c1, 2, .inl (fun _ => 0))), (a2, .inl (c2, 2, .inl (fun _ => 0))), (a3, .inl (c3, 2, .inl (fun _ => 0)))] H := hP
  have hD : va_D A [(hm, .inr (2, [.ref a1, .ref a2, .ref a3])), (a1, .inl (c1, 2, .inl (fun _ => 0))), (a2, .inl (c2, 2, .inl (fun _ => 0))), (a3, .inl (c3, 2, .inl (fun _ => 0)))] := hD
  exact W.vret hx hb hr (fun t ht hW => ⟨⟨(c1, c2, c3, a1, a2, a3), rfl, trivial, va_K.moved hW.alike hK, by rw [ht]; exact hP, hD⟩, hS.F ht⟩) hS.2.2 dX3_init_25
set_option maxHeartbeats 4000000 in
set_option maxRecDepth 100000 in
theorem mX0_init (l : Launch) (D : va_G) (z sz h0 : Nat) : Met l yX0_init (ws_ yX0_init cX0_init 1 none) ({ frames := 5, cells := 3, slots := 8, locals := 200 }) (va_Pc [.ref h0] (pdDz D z sz h0)) (va_Qv (fun _ => True) (pdD0 D z h0 (pdA1 h0 sz)) (pdA1 h0 sz)) 3 8 (pdA1 h0 sz) := by
  refine Met.ofW (cc := cX0_init) (maxL := 1) (ret := none) (by decide) rfl ?_
  intro p e s m args below meth c s₁ B hml hv
  obtain ⟨rfl, ⟨hsz, hK, hP⟩, hZ, hO⟩ := hv
  have hx := B.exec
  have hb := B.bytes
  have hr := B.returns
  have hts := atoms_spec (ws := (ws_ yX0_init cX0_init 1 none)) B.pre
  have hts : ∀ w ∈ lw_all, w.before _ s = true := fun w h => hts w (List.mem_cons_of_mem _ h)
  have hown : s.vm.findClass RX0 = some m.cls := findClass_of_methodNamed B.named
  have hlocks := B.notSynchronized
  have hin : meth.name = "<init>" := (name_of_methodNamed B.named B.method).1
  subst hsz
  have hZ0 := hZ
  generalize hAe : pdA1 h0 s.heap.size = A at hZ ⊢
  have hAh : A h0 := by rw [← hAe]; exact Or.inl rfl
  have hA : ∀ q : Nat, s.heap.size ≤ q → A q := fun q h => by rw [← hAe]; exact Or.inr h
  have hS : va_S A s.heap s.heap [] := va_S.rf
  have hP : va_P D pdCl [(h0, .inr (0, [.null]))] s.heap := hP
  have hD : va_D A [(h0, .inr (0, [.null]))] := pd_D1 hAh
  have hl := lv_entry ([.ref h0]) (n := 1) (Nat.le_of_ble_eq_true rfl)
  rw [lg_entry_eq]
  generalize (lg_sl ([.ref h0]) ++ List.replicate (1 - (lg_sl ([.ref h0])).length) Slot.unset).toArray = ls at hl ⊢
  have hl : lv_has ls 1 [(0, .ref h0)] := hl
  refine lv_aload_n hx hb dX0_init_0 rfl (lv_at hl 0 rfl) ?_
  refine W.objInit hx hb hown (hts _ q49) (hts _ q50) (hts _ q51) rfl (by rw [hml]; exact hl.1) rfl dX0_init_1 (Nat.le_of_ble_eq_true rfl) (Nat.le_of_ble_eq_true rfl) ?_
  refine W.eq (g2 := F0 m 4 ls []) rfl ?_
  refine lv_aload_n hx hb dX0_init_4 rfl (lv_at hl 0 rfl) ?_
  refine lv_iconst (v := 2) hx hb dX0_init_5 (by decide) ?_
  refine va_newq hx hb hown (hts _ q52) hO hK hP hD hS hA (n := 2) (N' := 2) (by decide) (by decide) (Nat.le_of_ble_eq_true rfl) (Nat.le_of_ble_eq_true rfl) (Nat.le_of_ble_eq_true rfl) dX0_init_6 (fun ha cA H hK hP hD hS => ?_)
  have hK : va_K D pdCl [(cA, .object "Period")] s := hK
  have hP : va_P D pdCl [(h0, .inr (0, [.null])), (ha, .inl (cA, 2, .inr (.inr (.inr (.inr (fun _ => none))))))] H := hP
  have hD : va_D A [(h0, .inr (0, [.null])), (ha, .inl (cA, 2, .inr (.inr (.inr (.inr (fun _ => none))))))] := hD
  refine lv_dup hx hb dX0_init_9 rfl ?_
  refine lv_iconst (v := 0) hx hb dX0_init_10 (by decide) ?_
  refine lv_iconst (v := 0) hx hb dX0_init_11 (by decide) ?_
  refine lv_iconst (v := 0) hx hb dX0_init_12 (by decide) ?_
  refine lv_iconst (v := 0) hx hb dX0_init_13 (by decide) ?_
  refine pd_callR (W.runS (As := [.int 0, .int 0, .int 0]) (rest := [.int 0, .ref ha, .ref ha, .ref h0]) ⟨hx, hb, hml, hown, hts⟩ (mX2_of l D z H.size 0 0 0) (va_cwS 3 hts (lw_S q54 q55 q9 q56) rfl rfl rfl (by decide +kernel) ⟨Nat.le_of_ble_eq_true rfl, Nat.le_of_ble_eq_true rfl⟩) (pdMs_preS hK hZ hS hA) rfl rfl hl.1 rfl (lv_room (Nat.le_of_ble_eq_true rfl)) dX0_init_14 ⟨Nat.le_of_ble_eq_true rfl, Nat.le_of_ble_eq_true rfl⟩) hS (fun q h => hA q (Nat.le_trans hS.1 h)) (fun r1 H locs hB hz1 hk1 hS => ?_)
  have hP := pd_keptN hP hk1
  have hr1 : r1 = z := hB.1.2.mpr ⟨rfl, rfl, rfl⟩
  have hP : va_P D pdCl [(h0, .inr (0, [.null])), (ha, .inl (cA, 2, .inr (.inr (.inr (.inr (fun _ => none))))))] H := hP
  have hD : va_D A [(h0, .inr (0, [.null])), (ha, .inl (cA, 2, .inr (.inr (.inr (.inr (fun _ => none))))))] := hD
  refine pd_ast (r := (RX2, TX2, 3)) hx hb hK hP hD hS 1 0 1 rfl rfl (hB.1.1 0 _ rfl) rfl pd_i0 dX0_init_17 (fun H locs hP hD hS hz2 hk2 => ?_)
  rw [hr1] at hP hD
  have hP : va_P D pdCl [(h0, .inr (0, [.null])), (ha, .inl (cA, 2, .inr (.inr (.inr (.inr (va_up (fun _ => none) 0 (some z)))))))] H := hP
  have hD : va_D A [(h0, .inr (0, [.null])), (ha, .inl (cA, 2, .inr (.inr (.inr (.inr (va_up (fun _ => none) 0 (some z)))))))] := hD
  refine lv_dup hx hb dX0_init_18 rfl ?_
  refine lv_iconst (v := 1) hx hb dX0_init_19 (by decide) ?_
  refine lv_iconst (v := 0) hx hb dX0_init_20 (by decide) ?_
  refine lv_iconst (v := 0) hx hb dX0_init_21 (by decide) ?_
  refine lv_iconst (v := 0) hx hb dX0_init_22 (by decide) ?_
  refine pd_callR (W.runS (As := [.int 0, .int 0, .int 0]) (rest := [.int 1, .ref ha, .ref ha, .ref h0]) ⟨hx, hb, hml, hown, hts⟩ (mX2_of l D z H.size 0 0 0) (va_cwS 3 hts (lw_S q54 q55 q9 q56) rfl rfl rfl (by decide +kernel) ⟨Nat.le_of_ble_eq_true rfl, Nat.le_of_ble_eq_true rfl⟩) (pdMs_preS hK hZ hS hA) rfl rfl hl.1 rfl (lv_room (Nat.le_of_ble_eq_true rfl)) dX0_init_23 ⟨Nat.le_of_ble_eq_true rfl, Nat.le_of_ble_eq_true rfl⟩) hS (fun q h => hA q (Nat.le_trans hS.1 h)) (fun r2 H locs hB hz1 hk1 hS => ?_)
  have hP := pd_keptN hP hk1
  have hr2 : r2 = z := hB.1.2.mpr ⟨rfl, rfl, rfl⟩
  have hP : va_P D pdCl [(h0, .inr (0, [.null])), (ha, .inl (cA, 2, .inr (.inr (.inr (.inr (va_up (fun _ => none) 0 (some z)))))))] H := hP
  have hD : va_D A [(h0, .inr (0, [.null])), (ha, .inl (cA, 2, .inr (.inr (.inr (.inr (va_up (fun _ => none) 0 (some z)))))))] := hD
  refine pd_ast (r := (RX2, TX2, 3)) hx hb hK hP hD hS 1 0 1 rfl rfl (hB.1.1 0 _ rfl) rfl pd_i1 dX0_init_26 (fun H locs hP hD hS hz2 hk2 => ?_)
  rw [hr2] at hP hD
  have hP : va_P D pdCl [(h0, .inr (0, [.null])), (ha, .inl (cA, 2, .inr (.inr (.inr (.inr (va_up (va_up (fun _ => none) 0 (some z)) 1 (some z)))))))] H := hP
  have hD : va_D A [(h0, .inr (0, [.null])), (ha, .inl (cA, 2, .inr (.inr (.inr (.inr (va_up (va_up (fun _ => none) 0 (some z)) 1 (some z)))))))] := hD
  refine va_putF (D := D) (ci := 0) (v := .ref ha) (ty := (.array (.object "Period"))) (C := RX0) (T := TX0) (N := 1) hx hb hts in_X0 tyX0 tyX0_ok nmX0 hown hK hP hD hS 0 rfl rfl 0 (by decide) (hts _ q81) (fun _ h9 => h9) rfl hin rfl (by decide +kernel) rfl rfl (Nat.le_of_ble_eq_true rfl) dX0_init_27 (fun H locs hP hD hS => ?_)
  have hP : va_P D pdCl [(h0, .inr (0, [.ref ha])), (ha, .inl (cA, 2, .inr (.inr (.inr (.inr (va_up (va_up (fun _ => none) 0 (some z)) 1 (some z)))))))] H := hP
  have hD : va_D A [(h0, .inr (0, [.ref ha])), (ha, .inl (cA, 2, .inr (.inr (.inr (.inr (va_up (va_up (fun _ => none) 0 (some z)) 1 (some z)))))))] := hD
  have hz0 : ¬ A z := by rw [← hAe]; exact hZ0.2.2
  have hne : h0 ≠ ha := fun h => absurd (hD.1 0 1 _ _ rfl rfl h) (by decide)
  have hP := pd_P2 (hP 0 _ rfl) (pd_two (hP 1 _ rfl))
  have hD : va_D A (pdDw cA h0 ha (fun _ => z)) := pd_D2 hne (hD.2 0 _ rfl) (hD.2 1 _ rfl)
  have hG : pdPs D z h0 ha (fun _ => z) pd_v0 H := fun j hj => ⟨pdPer_S (pdZ_per hZ0) hz0 hS, fun (e : z = h0) => hz0 (by rw [e]; exact hD.2 0 _ rfl), fun (e : z = ha) => hz0 (by rw [e]; exact hD.2 1 _ rfl)⟩
  exact W.vret hx hb hr (fun t ht hW => ⟨⟨(cA, ha), rfl, trivial, va_K.moved hW.alike hK, by rw [ht]; exact ⟨hP, hG⟩, hD, hz0⟩, hS.F ht⟩) hS.2.2 dX0_init_30
end
section
/-! THE CLAIM OUT OF ONE WALK OF THE LAW'S BODY. Your part is whole_start (and what it stands on); all else here is the same for every law, but numbers. -/
def R_law : String := "PeriodDeskLaw"
def lw_P (b : Addr) (xs : List Int32) (args : Array Value) (s : State) : Prop := args = #[.ref b] ∧ s.IntsAt b xs ∧ xs.length ≤ 288 ∧ (Jvm.Cond.and given_1 narrow_1).before args s = true
def lw_Q (_ : Array Value) (s : State) (o : Outcome) (t : State) : Prop := o = .returned (some (.int 1)) ∧ Framed s o t [] 1200096 5501386
def lw_Z (below : List Frame) (a : Array Value) (s : State) : State → Prop := fun t => ∃ o, t.status = .running ∧ Ended t below o ∧ lw_Q a s o t
/-- the law's own end, with 1 on the stack, nothing written that was there before, its room as the claim has it -/
theorem lw_ret {p : Program} {l : Launch} {e : Env} {s : State} {m : MethodId} {below : List Frame} {meth : Method} {c : Code} {b : Nat} (hx : p.tables.exec = Jvm.exec) (hb : c.code = code) (hr : meth.sig.returnType = ret) (hlocks : meth.locks = false) {pc : Nat} {H : Heap} {ls : Array Slot} (hdg : decode code pc = .ok (.ireturn, 1)) : W p l e room_1 s m #[Value.ref b] below meth c H [] 1200096 5501386 (lw_Z below #[Value.ref b] s) (F0 m pc ls [.int 1]) := by
  intro T hT X
  obtain ⟨fs, hret, hrun, hended, hW, hframe⟩ := X.leave (v := some (.int 1)) (hlocks := hlocks) (fun h => by rw [hr] at h; cases h)
  have hmeth' : T.vm.method? m = some meth := X.method'
  refine ⟨T.setFrames fs, ?_, .returned (some (.int 1)), hrun, hended, rfl, ⟨_, rfl⟩, hW, hframe⟩
  jvm_step X.here [X.here.top, hx, hb, hdg, hmeth', hr, ret, narrow_b1]
  (try refine ⟨rfl, ?_⟩); (try refine ⟨rfl, ?_⟩)
  first | (intro acts; rw [hret _ acts rfl rfl rfl]) | rw [hret _ _ rfl rfl rfl]
  exact Steps.refl _
/-- what holds at the law's entry: the machine, the code, the tables' words (any of lw_tbl by 'hts w (by decide +kernel)'), the script of L ints xs at the cell b, what the Statement gives of the start (any of its parts by flat_of_before) -/
def lw_At (p : Program) (s : State) (m : MethodId) (meth : Method) (c : Code) (b L : Nat) (xs : Nat → Int32) : Prop :=
  p.tables.exec = Jvm.exec ∧ c.code = code ∧ meth.sig.returnType = ret ∧ c.maxLocals = 4 ∧ s.vm.findClass R_law = some m.cls ∧ (∀ w ∈ lw_tbl, w.before #[Value.ref b] s = true) ∧ va_X b L xs s s.heap ∧ b < s.heap.size ∧ meth.locks = false ∧ (Jvm.Cond.and given_1 narrow_1).before #[Value.ref b] s = true
/-! the law's world: the desk in state v, the reference in state v2 -/
def lwA (s : State) : Nat → Prop := fun q => s.heap.size ≤ q
def lwW (D : va_G) (z : Nat) (cA c1 c2 c3 : ClassId) (h0 ha hm a1 a2 a3 : Nat) (v v2 : pdS) (g : Nat → Nat) (H : Heap) : Prop := pdW D z cA h0 ha g v H ∧ va_P D pdCl (pdMw c1 c2 c3 hm a1 a2 a3 v2) H ∧ ∀ j, j < 2 → ¬ (g j = hm ∨ g j = a1 ∨ g j = a2 ∨ g j = a3)
def lwF (A : Nat → Prop) (h0 ha hm a1 a2 a3 : Nat) : Prop := (A h0 ∧ A ha ∧ A hm ∧ A a1 ∧ A a2 ∧ A a3) ∧ h0 ≠ ha ∧ (hm ≠ h0 ∧ hm ≠ ha) ∧ (a1 ≠ h0 ∧ a1 ≠ ha) ∧ (a2 ≠ h0 ∧ a2 ≠ ha) ∧ (a3 ≠ h0 ∧ a3 ≠ ha)
theorem lwF_D {A : Nat → Prop} {h0 ha hm a1 a2 a3 : Nat} (h : lwF A h0 ha hm a1 a2 a3) {sz n : Nat} (hn : n ≤ sz) (hA : ∀ q, n ≤ q → A q) : ∀ q, pdA h0 ha sz q → A q := fun q hq => by
  rcases hq with e | e | e
  · rw [e]; exact h.1.1
  · rw [e]; exact h.1.2.1
  · exact hA q (Nat.le_trans hn e)
theorem lwF_M {A : Nat → Prop} {h0 ha hm a1 a2 a3 : Nat} (h : lwF A h0 ha hm a1 a2 a3) {sz n : Nat} (hn : n ≤ sz) (hA : ∀ q, n ≤ q → A q) : ∀ q, pdB hm a1 a2 a3 sz q → A q := fun q hq => by
  rcases hq with e | e | e | e | e
  · rw [e]; exact h.1.2.2.1
  · rw [e]; exact h.1.2.2.2.1
  · rw [e]; exact h.1.2.2.2.2.1
  · rw [e]; exact h.1.2.2.2.2.2
  · exact hA q (Nat.le_trans hn e)
theorem pd_P4 {D : va_G} {cl : List vw_C} {a b a' b' : Nat} {e f e' f' : va_E} {H : Heap} (h1 : va_at D cl (a, e) H) (h2 : va_at D cl (b, f) H) (h3 : va_at D cl (a', e') H) (h4 : va_at D cl (b', f') H) : va_P D cl [(a, e), (b, f), (a', e'), (b', f')] H := fun k q hk => by
  match k, hk with
  | 0, hk => cases hk; exact h1
  | 1, hk => cases hk; exact h2
  | 2, hk => cases hk; exact h3
  | 3, hk => cases hk; exact h4
  | k + 4, hk => simp at hk
/-- behind a call of the desk -/
theorem lw_afterD {D : va_G} {z : Nat} {cA c1 c2 c3 : ClassId} {h0 ha hm a1 a2 a3 : Nat} {v v' v2 : pdS} {g g' : Nat → Nat} {H H1 : Heap} {A : Nat → Prop} (hW : lwW D z cA c1 c2 c3 h0 ha hm a1 a2 a3 v v2 g H) (hF : lwF A h0 ha hm a1 a2 a3) (hz : ¬ A z) (h1 : pdW D z cA h0 ha g' v' H1) (hg : ∀ j, j < 2 → (g' j = g j ∨ g' j = z ∨ H.size ≤ g' j)) (hk : ∀ q : Nat, q < H.size → ¬ pdA h0 ha H.size q → H1[q]? = H[q]?) : lwW D z cA c1 c2 c3 h0 ha hm a1 a2 a3 v' v2 g' H1 := by
  obtain ⟨-, hP, hgm⟩ := hW
  have l0 : hm < H.size := (hP 0 _ rfl).lt
  have l1 : a1 < H.size := (hP 1 _ rfl).lt
  have l2 : a2 < H.size := (hP 2 _ rfl).lt
  have l3 : a3 < H.size := (hP 3 _ rfl).lt
  obtain ⟨⟨A0, A1, A2, A3, A4, A5⟩, -, n0, n1, n2, n3⟩ := hF
  have key : ∀ q : Nat, q < H.size → q ≠ h0 ∧ q ≠ ha → H1[q]? = H[q]? := fun q hq hn => hk q hq (fun h => by
    rcases h with h | h | h
    · exact hn.1 h
    · exact hn.2 h
    · omega)
  refine ⟨h1, pd_P4 ((hP 0 _ rfl).kept (key _ l0 n0)) ((hP 1 _ rfl).kept (key _ l1 n1)) ((hP 2 _ rfl).kept (key _ l2 n2)) ((hP 3 _ rfl).kept (key _ l3 n3)), fun j hj => ?_⟩
  rcases hg j hj with e | e | e
  · rw [e]; exact hgm j hj
  · rw [e]
    intro h
    rcases h with h | h | h | h <;> rw [h] at hz <;> contradiction
  · omega
/-- behind a call of the reference -/
theorem lw_afterM {D : va_G} {z : Nat} {cA c1 c2 c3 : ClassId} {h0 ha hm a1 a2 a3 : Nat} {v v2 v2' : pdS} {g : Nat → Nat} {H H1 : Heap} {A : Nat → Prop} (hW : lwW D z cA c1 c2 c3 h0 ha hm a1 a2 a3 v v2 g H) (hF : lwF A h0 ha hm a1 a2 a3) (hP1 : va_P D pdCl (pdMw c1 c2 c3 hm a1 a2 a3 v2') H1) (hk : ∀ q : Nat, q < H.size → ¬ pdB hm a1 a2 a3 H.size q → H1[q]? = H[q]?) : lwW D z cA c1 c2 c3 h0 ha hm a1 a2 a3 v v2' g H1 := by
  obtain ⟨⟨hP, hG⟩, -, hgm⟩ := hW
  have l0 : h0 < H.size := (hP 0 _ rfl).lt
  have l1 : ha < H.size := (hP 1 _ rfl).lt
  obtain ⟨-, -, n0, n1, n2, n3⟩ := hF
  have key : ∀ q : Nat, q < H.size → ¬ (q = hm ∨ q = a1 ∨ q = a2 ∨ q = a3) → H1[q]? = H[q]? := fun q hq hn => hk q hq (fun h => by
    rcases h with h | h | h | h | h
    · exact hn (Or.inl h)
    · exact hn (Or.inr (Or.inl h))
    · exact hn (Or.inr (Or.inr (Or.inl h)))
    · exact hn (Or.inr (Or.inr (Or.inr h)))
    · omega)
  refine ⟨⟨pd_P2 ((hP 0 _ rfl).kept (key _ l0 ?_)) ((hP 1 _ rfl).kept (key _ l1 ?_)), fun j hj => ⟨pdPer_kept (hG j hj).1 (key _ (pdAt_lt (hG j hj).1.1) (hgm j hj)), (hG j hj).2⟩⟩, hP1, hgm⟩
  · show ¬ (h0 = hm ∨ h0 = a1 ∨ h0 = a2 ∨ h0 = a3)
    omega
  · show ¬ (ha = hm ∨ ha = a1 ∨ ha = a2 ∨ ha = a3)
    omega
theorem lw_vin {t L k : Nat} (h : 6 * t + 6 ≤ L) (hL : L ≤ 288) (hk : k < 6) : vp_in (nI (6 * t) + nI k) L := by
  rw [nI_add]
  exact vp_in_nI (by omega) (by omega)
/-- the script's k-th int of the t-th call -/
def lw_x (xs : Nat → Int32) (t k : Nat) : Int32 := xs (nI (6 * t) + nI k).toNatClampNeg
theorem lw_head {t L : Nat} (hL : L ≤ 288) (ht : 6 * t ≤ L) : nI L - 6 < nI (6 * t) ↔ L < 6 * t + 6 := by
  have e : (nI L - 6).toInt = (L : Int) - 6 := pk_sub_toInt (a := L) (b := 6) (by omega) (by decide)
  rw [Int32.lt_iff_toInt_lt, e, nI_toInt (by omega)]
  omega
theorem lw_next (t : Nat) : nI (6 * t) + Int32.ofInt 6 = nI (6 * (t + 1)) := by
  show nI (6 * t) + nI 6 = nI (6 * t + 6)
  rw [nI_add]
theorem lw_16 {j : Nat} (h : j < 2 ^ 4) : j = 0 ∨ j = 1 ∨ j = 2 ∨ j = 3 ∨ j = 4 ∨ j = 5 ∨ j = 6 ∨ j = 7 ∨ j = 8 ∨ j = 9 ∨ j = 10 ∨ j = 11 ∨ j = 12 ∨ j = 13 ∨ j = 14 ∨ j = 15 := by omega
set_option maxHeartbeats 4000000 in
set_option maxRecDepth 100000 in
/-- set -/
theorem law_0 {p : Program} {l : Launch} {e : Env} {s : State} {m : MethodId} {below : List Frame} {meth : Method} {c : Code} {D : va_G} {z : Nat} {cA c1 c2 c3 : ClassId} {h0 ha hm a1 a2 a3 b L : Nat} {xs : Nat → Int32} {Q : State → Prop} (hx : p.tables.exec = Jvm.exec) (hb : c.code = cL_law) (hml : c.maxLocals = 4) (hown : s.vm.findClass R_law = some m.cls) (hts : ∀ w ∈ lw_all, w.before #[Value.ref b] s = true) (hX : va_X b L xs s s.heap) (hbl : b < s.heap.size) (hL : L ≤ 288) (hK : va_K D pdCl [(cA, .object "Period"), (c1, .int), (c2, .int), (c3, .int)] s) (hZ : pdZ D z (lwA s) s) (hF : lwF (lwA s) h0 ha hm a1 a2 a3) (hM : ∀ v, va_D (fun _ => True) (pdMw c1 c2 c3 hm a1 a2 a3 v)) (t : Nat) (ht : 6 * t + 6 ≤ L) (v : pdS) (g : Nat → Nat) (H : Heap) (locs : List Loc) (hW : lwW D z cA c1 c2 c3 h0 ha hm a1 a2 a3 v v g H) (hS : va_S (lwA s) s.heap H locs) (ls : Array Slot) (hl : lv_has ls 4 [(0, .ref b), (1, .ref h0), (2, .ref hm), (3, .int (nI (6 * t)))]) (kk : ∀ (v' : pdS) (g' : Nat → Nat) (H1 : Heap) (locs1 : List Loc), lwW D z cA c1 c2 c3 h0 ha hm a1 a2 a3 v' v' g' H1 → va_S (lwA s) s.heap H1 locs1 → W p l e room_1 s m #[Value.ref b] below meth c H1 locs1 (8 + (t + 1)) (18 + 3 * (t + 1)) Q (F0 m 485 ls [])) : W p l e room_1 s m #[Value.ref b] below meth c H locs (8 + t) (18 + 3 * t) Q (F0 m 104 ls []) := by
  refine lv_aload_n hx hb dL_law_104 rfl (lv_at hl 1 rfl) ?_
  refine lv_aload_n hx hb dL_law_105 rfl (lv_at hl 0 rfl) ?_
  refine lv_iload_n hx hb dL_law_106 rfl (lv_at hl 3 rfl) ?_
  refine lv_iconst (v := 1) hx hb dL_law_107 (by decide) ?_
  refine lv_iadd hx hb dL_law_108 ?_
  refine va_sld hx hb hX hbl (fun h => absurd hbl (Nat.not_lt.mpr h)) hS (lw_vin (k := 1) ht hL (by decide)) dL_law_109 ?_
  refine W.eq (g2 := F0 m 110 ls [.int (lw_x xs t 1), .ref h0]) rfl ?_
  refine lv_aload_n hx hb dL_law_110 rfl (lv_at hl 0 rfl) ?_
  refine lv_iload_n hx hb dL_law_111 rfl (lv_at hl 3 rfl) ?_
  refine lv_iconst (v := 2) hx hb dL_law_112 (by decide) ?_
  refine lv_iadd hx hb dL_law_113 ?_
  refine va_sld hx hb hX hbl (fun h => absurd hbl (Nat.not_lt.mpr h)) hS (lw_vin (k := 2) ht hL (by decide)) dL_law_114 ?_
  refine W.eq (g2 := F0 m 115 ls [.int (lw_x xs t 2), .int (lw_x xs t 1), .ref h0]) rfl ?_
  refine lv_aload_n hx hb dL_law_115 rfl (lv_at hl 0 rfl) ?_
  refine lv_iload_n hx hb dL_law_116 rfl (lv_at hl 3 rfl) ?_
  refine lv_iconst (v := 3) hx hb dL_law_117 (by decide) ?_
  refine lv_iadd hx hb dL_law_118 ?_
  refine va_sld hx hb hX hbl (fun h => absurd hbl (Nat.not_lt.mpr h)) hS (lw_vin (k := 3) ht hL (by decide)) dL_law_119 ?_
  refine W.eq (g2 := F0 m 120 ls [.int (lw_x xs t 3), .int (lw_x xs t 2), .int (lw_x xs t 1), .ref h0]) rfl ?_
  refine lv_aload_n hx hb dL_law_120 rfl (lv_at hl 0 rfl) ?_
  refine lv_iload_n hx hb dL_law_121 rfl (lv_at hl 3 rfl) ?_
  refine lv_iconst (v := 4) hx hb dL_law_122 (by decide) ?_
  refine lv_iadd hx hb dL_law_123 ?_
  refine va_sld hx hb hX hbl (fun h => absurd hbl (Nat.not_lt.mpr h)) hS (lw_vin (k := 4) ht hL (by decide)) dL_law_124 ?_
  refine W.eq (g2 := F0 m 125 ls [.int (lw_x xs t 4), .int (lw_x xs t 3), .int (lw_x xs t 2), .int (lw_x xs t 1), .ref h0]) rfl ?_
  refine pd_callG (W.runV (As := [.int (lw_x xs t 1), .int (lw_x xs t 2), .int (lw_x xs t 3), .int (lw_x xs t 4)]) (rest := []) ⟨hx, hb, hml, hown, hts⟩ (mX0_set l D z cA H.size h0 ha g v (lw_x xs t 1) (lw_x xs t 2) (lw_x xs t 3) (lw_x xs t 4)) (cwV 4 hts (lw_V q85 q86 q87 q7 q88) rfl rfl rfl (by decide +kernel) ⟨Nat.le_of_ble_eq_true rfl, Nat.le_of_ble_eq_true rfl⟩) (pdDk_pre 0 rfl hK hW.1 hF.2.1 hZ hS (lwF_D hF hS.1 (fun q h => h))) rfl rfl hl.1 rfl (lv_room (Nat.le_of_ble_eq_true rfl)) dL_law_125 ⟨by show _ ≤ 1200096; omega, by show _ ≤ 5501386; omega⟩) hS (lwF_D hF hS.1 (fun q h => h)) (fun H locs hB hz1 hk1 hS => ?_)
  refine W.eq (g2 := F0 m 128 ls []) rfl ?_
  obtain ⟨g1, hW1, hg1⟩ := hB
  have hW := lw_afterD hW hF hZ.2.2 hW1 hg1 hk1
  refine lv_aload_n hx hb dL_law_128 rfl (lv_at hl 2 rfl) ?_
  refine lv_aload_n hx hb dL_law_129 rfl (lv_at hl 0 rfl) ?_
  refine lv_iload_n hx hb dL_law_130 rfl (lv_at hl 3 rfl) ?_
  refine lv_iconst (v := 1) hx hb dL_law_131 (by decide) ?_
  refine lv_iadd hx hb dL_law_132 ?_
  refine va_sld hx hb hX hbl (fun h => absurd hbl (Nat.not_lt.mpr h)) hS (lw_vin (k := 1) ht hL (by decide)) dL_law_133 ?_
  refine W.eq (g2 := F0 m 134 ls [.int (lw_x xs t 1), .ref hm]) rfl ?_
  refine lv_aload_n hx hb dL_law_134 rfl (lv_at hl 0 rfl) ?_
  refine lv_iload_n hx hb dL_law_135 rfl (lv_at hl 3 rfl) ?_
  refine lv_iconst (v := 2) hx hb dL_law_136 (by decide) ?_
  refine lv_iadd hx hb dL_law_137 ?_
  refine va_sld hx hb hX hbl (fun h => absurd hbl (Nat.not_lt.mpr h)) hS (lw_vin (k := 2) ht hL (by decide)) dL_law_138 ?_
  refine W.eq (g2 := F0 m 139 ls [.int (lw_x xs t 2), .int (lw_x xs t 1), .ref hm]) rfl ?_
  refine lv_aload_n hx hb dL_law_139 rfl (lv_at hl 0 rfl) ?_
  refine lv_iload_n hx hb dL_law_140 rfl (lv_at hl 3 rfl) ?_
  refine lv_iconst (v := 3) hx hb dL_law_141 (by decide) ?_
  refine lv_iadd hx hb dL_law_142 ?_
  refine va_sld hx hb hX hbl (fun h => absurd hbl (Nat.not_lt.mpr h)) hS (lw_vin (k := 3) ht hL (by decide)) dL_law_143 ?_
  refine W.eq (g2 := F0 m 144 ls [.int (lw_x xs t 3), .int (lw_x xs t 2), .int (lw_x xs t 1), .ref hm]) rfl ?_
  refine lv_aload_n hx hb dL_law_144 rfl (lv_at hl 0 rfl) ?_
  refine lv_iload_n hx hb dL_law_145 rfl (lv_at hl 3 rfl) ?_
  refine lv_iconst (v := 4) hx hb dL_law_146 (by decide) ?_
  refine lv_iadd hx hb dL_law_147 ?_
  refine va_sld hx hb hX hbl (fun h => absurd hbl (Nat.not_lt.mpr h)) hS (lw_vin (k := 4) ht hL (by decide)) dL_law_148 ?_
  refine W.eq (g2 := F0 m 149 ls [.int (lw_x xs t 4), .int (lw_x xs t 3), .int (lw_x xs t 2), .int (lw_x xs t 1), .ref hm]) rfl ?_
  refine pd_callG (W.runV (As := [.int (lw_x xs t 1), .int (lw_x xs t 2), .int (lw_x xs t 3), .int (lw_x xs t 4)]) (rest := []) ⟨hx, hb, hml, hown, hts⟩ (mX3_set l D c1 c2 c3 H.size hm a1 a2 a3 v (lw_x xs t 1) (lw_x xs t 2) (lw_x xs t 3) (lw_x xs t 4)) (cwV 4 hts (lw_V q775 q776 q777 q10 q778) rfl rfl rfl (by decide +kernel) ⟨Nat.le_of_ble_eq_true rfl, Nat.le_of_ble_eq_true rfl⟩) (pdMd_pre [1, 2, 3] rfl hK hW.2.1 (hM _)) rfl rfl hl.1 rfl (lv_room (Nat.le_of_ble_eq_true rfl)) dL_law_149 ⟨by show _ ≤ 1200096; omega, by show _ ≤ 5501386; omega⟩) hS (lwF_M hF hS.1 (fun q h => h)) (fun H locs hB hz1 hk1 hS => ?_)
  refine W.eq (g2 := F0 m 152 ls []) rfl ?_
  have hW := lw_afterM hW hF hB hk1
  refine lv_goto (tgt := 485) hx hb dL_law_152 (by decide) ?_
  refine W.widen (k := 8 + (t + 1)) (n := 18 + 3 * (t + 1)) (by omega) (by omega) ?_
  exact kk _ _ _ _ hW hS
set_option maxHeartbeats 4000000 in
set_option maxRecDepth 100000 in
/-- plus -/
theorem law_1 {p : Program} {l : Launch} {e : Env} {s : State} {m : MethodId} {below : List Frame} {meth : Method} {c : Code} {D : va_G} {z : Nat} {cA c1 c2 c3 : ClassId} {h0 ha hm a1 a2 a3 b L : Nat} {xs : Nat → Int32} {Q : State → Prop} (hx : p.tables.exec = Jvm.exec) (hb : c.code = cL_law) (hml : c.maxLocals = 4) (hown : s.vm.findClass R_law = some m.cls) (hts : ∀ w ∈ lw_all, w.before #[Value.ref b] s = true) (hX : va_X b L xs s s.heap) (hbl : b < s.heap.size) (hL : L ≤ 288) (hK : va_K D pdCl [(cA, .object "Period"), (c1, .int), (c2, .int), (c3, .int)] s) (hZ : pdZ D z (lwA s) s) (hF : lwF (lwA s) h0 ha hm a1 a2 a3) (hM : ∀ v, va_D (fun _ => True) (pdMw c1 c2 c3 hm a1 a2 a3 v)) (t : Nat) (ht : 6 * t + 6 ≤ L) (v : pdS) (g : Nat → Nat) (H : Heap) (locs : List Loc) (hW : lwW D z cA c1 c2 c3 h0 ha hm a1 a2 a3 v v g H) (hS : va_S (lwA s) s.heap H locs) (ls : Array Slot) (hl : lv_has ls 4 [(0, .ref b), (1, .ref h0), (2, .ref hm), (3, .int (nI (6 * t)))]) (kk : ∀ (v' : pdS) (g' : Nat → Nat) (H1 : Heap) (locs1 : List Loc), lwW D z cA c1 c2 c3 h0 ha hm a1 a2 a3 v' v' g' H1 → va_S (lwA s) s.heap H1 locs1 → W p l e room_1 s m #[Value.ref b] below meth c H1 locs1 (8 + (t + 1)) (18 + 3 * (t + 1)) Q (F0 m 485 ls [])) : W p l e room_1 s m #[Value.ref b] below meth c H locs (8 + t) (18 + 3 * t) Q (F0 m 155 ls []) := by
  refine lv_aload_n hx hb dL_law_155 rfl (lv_at hl 1 rfl) ?_
  refine lv_aload_n hx hb dL_law_156 rfl (lv_at hl 0 rfl) ?_
  refine lv_iload_n hx hb dL_law_157 rfl (lv_at hl 3 rfl) ?_
  refine lv_iconst (v := 1) hx hb dL_law_158 (by decide) ?_
  refine lv_iadd hx hb dL_law_159 ?_
  refine va_sld hx hb hX hbl (fun h => absurd hbl (Nat.not_lt.mpr h)) hS (lw_vin (k := 1) ht hL (by decide)) dL_law_160 ?_
  refine W.eq (g2 := F0 m 161 ls [.int (lw_x xs t 1), .ref h0]) rfl ?_
  refine pd_callG (W.runV (As := [.int (lw_x xs t 1)]) (rest := []) ⟨hx, hb, hml, hown, hts⟩ (mX0_plus l D z cA H.size h0 ha g v (lw_x xs t 1)) (cwV 1 hts (lw_V q93 q94 q95 q7 q96) rfl rfl rfl (by decide +kernel) ⟨Nat.le_of_ble_eq_true rfl, Nat.le_of_ble_eq_true rfl⟩) (pdDk_pre 0 rfl hK hW.1 hF.2.1 hZ hS (lwF_D hF hS.1 (fun q h => h))) rfl rfl hl.1 rfl (lv_room (Nat.le_of_ble_eq_true rfl)) dL_law_161 ⟨by show _ ≤ 1200096; omega, by show _ ≤ 5501386; omega⟩) hS (lwF_D hF hS.1 (fun q h => h)) (fun H locs hB hz1 hk1 hS => ?_)
  refine W.eq (g2 := F0 m 164 ls [.int ((pf_adds 1 (lw_x xs t 1) v).1)]) rfl ?_
  obtain ⟨g1, hW1, hg1⟩ := hB
  have hW := lw_afterD hW hF hZ.2.2 hW1 hg1 hk1
  refine lv_aload_n hx hb dL_law_164 rfl (lv_at hl 2 rfl) ?_
  refine lv_aload_n hx hb dL_law_165 rfl (lv_at hl 0 rfl) ?_
  refine lv_iload_n hx hb dL_law_166 rfl (lv_at hl 3 rfl) ?_
  refine lv_iconst (v := 1) hx hb dL_law_167 (by decide) ?_
  refine lv_iadd hx hb dL_law_168 ?_
  refine va_sld hx hb hX hbl (fun h => absurd hbl (Nat.not_lt.mpr h)) hS (lw_vin (k := 1) ht hL (by decide)) dL_law_169 ?_
  refine W.eq (g2 := F0 m 170 ls [.int (lw_x xs t 1), .ref hm, .int ((pf_adds 1 (lw_x xs t 1) v).1)]) rfl ?_
  refine pd_callG (W.runV (As := [.int (lw_x xs t 1)]) (rest := [.int ((pf_adds 1 (lw_x xs t 1) v).1)]) ⟨hx, hb, hml, hown, hts⟩ (mX3_plus l D c1 c2 c3 H.size hm a1 a2 a3 v (lw_x xs t 1)) (cwV 1 hts (lw_V q783 q784 q785 q10 q786) rfl rfl rfl (by decide +kernel) ⟨Nat.le_of_ble_eq_true rfl, Nat.le_of_ble_eq_true rfl⟩) (pdMd_pre [1, 2, 3] rfl hK hW.2.1 (hM _)) rfl rfl hl.1 rfl (lv_room (Nat.le_of_ble_eq_true rfl)) dL_law_170 ⟨by show _ ≤ 1200096; omega, by show _ ≤ 5501386; omega⟩) hS (lwF_M hF hS.1 (fun q h => h)) (fun H locs hB hz1 hk1 hS => ?_)
  refine W.eq (g2 := F0 m 173 ls [.int ((pf_adds 1 (lw_x xs t 1) v).1), .int ((pf_adds 1 (lw_x xs t 1) v).1)]) rfl ?_
  have hW := lw_afterM hW hF hB hk1
  refine lv_icmp_eq (tgt := 485) hx hb dL_law_173 (by decide) (fun c_173 => ?_) (fun c_173 => ?_)
  · refine W.widen (k := 8 + (t + 1)) (n := 18 + 3 * (t + 1)) (by omega) (by omega) ?_
    exact kk _ _ _ _ hW hS
  · exact absurd rfl c_173
set_option maxHeartbeats 4000000 in
set_option maxRecDepth 100000 in
/-- minus -/
theorem law_2 {p : Program} {l : Launch} {e : Env} {s : State} {m : MethodId} {below : List Frame} {meth : Method} {c : Code} {D : va_G} {z : Nat} {cA c1 c2 c3 : ClassId} {h0 ha hm a1 a2 a3 b L : Nat} {xs : Nat → Int32} {Q : State → Prop} (hx : p.tables.exec = Jvm.exec) (hb : c.code = cL_law) (hml : c.maxLocals = 4) (hown : s.vm.findClass R_law = some m.cls) (hts : ∀ w ∈ lw_all, w.before #[Value.ref b] s = true) (hX : va_X b L xs s s.heap) (hbl : b < s.heap.size) (hL : L ≤ 288) (hK : va_K D pdCl [(cA, .object "Period"), (c1, .int), (c2, .int), (c3, .int)] s) (hZ : pdZ D z (lwA s) s) (hF : lwF (lwA s) h0 ha hm a1 a2 a3) (hM : ∀ v, va_D (fun _ => True) (pdMw c1 c2 c3 hm a1 a2 a3 v)) (t : Nat) (ht : 6 * t + 6 ≤ L) (v : pdS) (g : Nat → Nat) (H : Heap) (locs : List Loc) (hW : lwW D z cA c1 c2 c3 h0 ha hm a1 a2 a3 v v g H) (hS : va_S (lwA s) s.heap H locs) (ls : Array Slot) (hl : lv_has ls 4 [(0, .ref b), (1, .ref h0), (2, .ref hm), (3, .int (nI (6 * t)))]) (kk : ∀ (v' : pdS) (g' : Nat → Nat) (H1 : Heap) (locs1 : List Loc), lwW D z cA c1 c2 c3 h0 ha hm a1 a2 a3 v' v' g' H1 → va_S (lwA s) s.heap H1 locs1 → W p l e room_1 s m #[Value.ref b] below meth c H1 locs1 (8 + (t + 1)) (18 + 3 * (t + 1)) Q (F0 m 485 ls [])) : W p l e room_1 s m #[Value.ref b] below meth c H locs (8 + t) (18 + 3 * t) Q (F0 m 178 ls []) := by
  refine lv_aload_n hx hb dL_law_178 rfl (lv_at hl 1 rfl) ?_
  refine lv_aload_n hx hb dL_law_179 rfl (lv_at hl 0 rfl) ?_
  refine lv_iload_n hx hb dL_law_180 rfl (lv_at hl 3 rfl) ?_
  refine lv_iconst (v := 1) hx hb dL_law_181 (by decide) ?_
  refine lv_iadd hx hb dL_law_182 ?_
  refine va_sld hx hb hX hbl (fun h => absurd hbl (Nat.not_lt.mpr h)) hS (lw_vin (k := 1) ht hL (by decide)) dL_law_183 ?_
  refine W.eq (g2 := F0 m 184 ls [.int (lw_x xs t 1), .ref h0]) rfl ?_
  refine pd_callG (W.runV (As := [.int (lw_x xs t 1)]) (rest := []) ⟨hx, hb, hml, hown, hts⟩ (mX0_minus l D z cA H.size h0 ha g v (lw_x xs t 1)) (cwV 1 hts (lw_V q662 q663 q664 q7 q665) rfl rfl rfl (by decide +kernel) ⟨Nat.le_of_ble_eq_true rfl, Nat.le_of_ble_eq_true rfl⟩) (pdDk_pre 0 rfl hK hW.1 hF.2.1 hZ hS (lwF_D hF hS.1 (fun q h => h))) rfl rfl hl.1 rfl (lv_room (Nat.le_of_ble_eq_true rfl)) dL_law_184 ⟨by show _ ≤ 1200096; omega, by show _ ≤ 5501386; omega⟩) hS (lwF_D hF hS.1 (fun q h => h)) (fun H locs hB hz1 hk1 hS => ?_)
  refine W.eq (g2 := F0 m 187 ls [.int ((pf_adds (-1) (lw_x xs t 1) v).1)]) rfl ?_
  obtain ⟨g1, hW1, hg1⟩ := hB
  have hW := lw_afterD hW hF hZ.2.2 hW1 hg1 hk1
  refine lv_aload_n hx hb dL_law_187 rfl (lv_at hl 2 rfl) ?_
  refine lv_aload_n hx hb dL_law_188 rfl (lv_at hl 0 rfl) ?_
  refine lv_iload_n hx hb dL_law_189 rfl (lv_at hl 3 rfl) ?_
  refine lv_iconst (v := 1) hx hb dL_law_190 (by decide) ?_
  refine lv_iadd hx hb dL_law_191 ?_
  refine va_sld hx hb hX hbl (fun h => absurd hbl (Nat.not_lt.mpr h)) hS (lw_vin (k := 1) ht hL (by decide)) dL_law_192 ?_
  refine W.eq (g2 := F0 m 193 ls [.int (lw_x xs t 1), .ref hm, .int ((pf_adds (-1) (lw_x xs t 1) v).1)]) rfl ?_
  refine pd_callG (W.runV (As := [.int (lw_x xs t 1)]) (rest := [.int ((pf_adds (-1) (lw_x xs t 1) v).1)]) ⟨hx, hb, hml, hown, hts⟩ (mX3_minus l D c1 c2 c3 H.size hm a1 a2 a3 v (lw_x xs t 1)) (cwV 1 hts (lw_V q800 q801 q802 q10 q803) rfl rfl rfl (by decide +kernel) ⟨Nat.le_of_ble_eq_true rfl, Nat.le_of_ble_eq_true rfl⟩) (pdMd_pre [1, 2, 3] rfl hK hW.2.1 (hM _)) rfl rfl hl.1 rfl (lv_room (Nat.le_of_ble_eq_true rfl)) dL_law_193 ⟨by show _ ≤ 1200096; omega, by show _ ≤ 5501386; omega⟩) hS (lwF_M hF hS.1 (fun q h => h)) (fun H locs hB hz1 hk1 hS => ?_)
  refine W.eq (g2 := F0 m 196 ls [.int ((pf_adds (-1) (lw_x xs t 1) v).1), .int ((pf_adds (-1) (lw_x xs t 1) v).1)]) rfl ?_
  have hW := lw_afterM hW hF hB hk1
  refine lv_icmp_eq (tgt := 485) hx hb dL_law_196 (by decide) (fun c_196 => ?_) (fun c_196 => ?_)
  · refine W.widen (k := 8 + (t + 1)) (n := 18 + 3 * (t + 1)) (by omega) (by omega) ?_
    exact kk _ _ _ _ hW hS
  · exact absurd rfl c_196
set_option maxHeartbeats 4000000 in
set_option maxRecDepth 100000 in
/-- times -/
theorem law_3 {p : Program} {l : Launch} {e : Env} {s : State} {m : MethodId} {below : List Frame} {meth : Method} {c : Code} {D : va_G} {z : Nat} {cA c1 c2 c3 : ClassId} {h0 ha hm a1 a2 a3 b L : Nat} {xs : Nat → Int32} {Q : State → Prop} (hx : p.tables.exec = Jvm.exec) (hb : c.code = cL_law) (hml : c.maxLocals = 4) (hown : s.vm.findClass R_law = some m.cls) (hts : ∀ w ∈ lw_all, w.before #[Value.ref b] s = true) (hX : va_X b L xs s s.heap) (hbl : b < s.heap.size) (hL : L ≤ 288) (hK : va_K D pdCl [(cA, .object "Period"), (c1, .int), (c2, .int), (c3, .int)] s) (hZ : pdZ D z (lwA s) s) (hF : lwF (lwA s) h0 ha hm a1 a2 a3) (hM : ∀ v, va_D (fun _ => True) (pdMw c1 c2 c3 hm a1 a2 a3 v)) (t : Nat) (ht : 6 * t + 6 ≤ L) (v : pdS) (g : Nat → Nat) (H : Heap) (locs : List Loc) (hW : lwW D z cA c1 c2 c3 h0 ha hm a1 a2 a3 v v g H) (hS : va_S (lwA s) s.heap H locs) (ls : Array Slot) (hl : lv_has ls 4 [(0, .ref b), (1, .ref h0), (2, .ref hm), (3, .int (nI (6 * t)))]) (kk : ∀ (v' : pdS) (g' : Nat → Nat) (H1 : Heap) (locs1 : List Loc), lwW D z cA c1 c2 c3 h0 ha hm a1 a2 a3 v' v' g' H1 → va_S (lwA s) s.heap H1 locs1 → W p l e room_1 s m #[Value.ref b] below meth c H1 locs1 (8 + (t + 1)) (18 + 3 * (t + 1)) Q (F0 m 485 ls [])) : W p l e room_1 s m #[Value.ref b] below meth c H locs (8 + t) (18 + 3 * t) Q (F0 m 201 ls []) := by
  refine lv_aload_n hx hb dL_law_201 rfl (lv_at hl 1 rfl) ?_
  refine lv_aload_n hx hb dL_law_202 rfl (lv_at hl 0 rfl) ?_
  refine lv_iload_n hx hb dL_law_203 rfl (lv_at hl 3 rfl) ?_
  refine lv_iconst (v := 1) hx hb dL_law_204 (by decide) ?_
  refine lv_iadd hx hb dL_law_205 ?_
  refine va_sld hx hb hX hbl (fun h => absurd hbl (Nat.not_lt.mpr h)) hS (lw_vin (k := 1) ht hL (by decide)) dL_law_206 ?_
  refine W.eq (g2 := F0 m 207 ls [.int (lw_x xs t 1), .ref h0]) rfl ?_
  refine lv_aload_n hx hb dL_law_207 rfl (lv_at hl 0 rfl) ?_
  refine lv_iload_n hx hb dL_law_208 rfl (lv_at hl 3 rfl) ?_
  refine lv_iconst (v := 2) hx hb dL_law_209 (by decide) ?_
  refine lv_iadd hx hb dL_law_210 ?_
  refine va_sld hx hb hX hbl (fun h => absurd hbl (Nat.not_lt.mpr h)) hS (lw_vin (k := 2) ht hL (by decide)) dL_law_211 ?_
  refine W.eq (g2 := F0 m 212 ls [.int (lw_x xs t 2), .int (lw_x xs t 1), .ref h0]) rfl ?_
  refine pd_callG (W.runV (As := [.int (lw_x xs t 1), .int (lw_x xs t 2)]) (rest := []) ⟨hx, hb, hml, hown, hts⟩ (mX0_times l D z cA H.size h0 ha g v (lw_x xs t 1) (lw_x xs t 2)) (cwV 2 hts (lw_V q673 q674 q675 q7 q676) rfl rfl rfl (by decide +kernel) ⟨Nat.le_of_ble_eq_true rfl, Nat.le_of_ble_eq_true rfl⟩) (pdDk_pre 0 rfl hK hW.1 hF.2.1 hZ hS (lwF_D hF hS.1 (fun q h => h))) rfl rfl hl.1 rfl (lv_room (Nat.le_of_ble_eq_true rfl)) dL_law_212 ⟨by show _ ≤ 1200096; omega, by show _ ≤ 5501386; omega⟩) hS (lwF_D hF hS.1 (fun q h => h)) (fun H locs hB hz1 hk1 hS => ?_)
  refine W.eq (g2 := F0 m 215 ls [.int ((pf_takes (lw_x xs t 1) ((lw_x xs t 2) &&& 3) v).1)]) rfl ?_
  obtain ⟨g1, hW1, hg1⟩ := hB
  have hW := lw_afterD hW hF hZ.2.2 hW1 hg1 hk1
  refine lv_aload_n hx hb dL_law_215 rfl (lv_at hl 2 rfl) ?_
  refine lv_aload_n hx hb dL_law_216 rfl (lv_at hl 0 rfl) ?_
  refine lv_iload_n hx hb dL_law_217 rfl (lv_at hl 3 rfl) ?_
  refine lv_iconst (v := 1) hx hb dL_law_218 (by decide) ?_
  refine lv_iadd hx hb dL_law_219 ?_
  refine va_sld hx hb hX hbl (fun h => absurd hbl (Nat.not_lt.mpr h)) hS (lw_vin (k := 1) ht hL (by decide)) dL_law_220 ?_
  refine W.eq (g2 := F0 m 221 ls [.int (lw_x xs t 1), .ref hm, .int ((pf_takes (lw_x xs t 1) ((lw_x xs t 2) &&& 3) v).1)]) rfl ?_
  refine lv_aload_n hx hb dL_law_221 rfl (lv_at hl 0 rfl) ?_
  refine lv_iload_n hx hb dL_law_222 rfl (lv_at hl 3 rfl) ?_
  refine lv_iconst (v := 2) hx hb dL_law_223 (by decide) ?_
  refine lv_iadd hx hb dL_law_224 ?_
  refine va_sld hx hb hX hbl (fun h => absurd hbl (Nat.not_lt.mpr h)) hS (lw_vin (k := 2) ht hL (by decide)) dL_law_225 ?_
  refine W.eq (g2 := F0 m 226 ls [.int (lw_x xs t 2), .int (lw_x xs t 1), .ref hm, .int ((pf_takes (lw_x xs t 1) ((lw_x xs t 2) &&& 3) v).1)]) rfl ?_
  refine pd_callG (W.runV (As := [.int (lw_x xs t 1), .int (lw_x xs t 2)]) (rest := [.int ((pf_takes (lw_x xs t 1) ((lw_x xs t 2) &&& 3) v).1)]) ⟨hx, hb, hml, hown, hts⟩ (mX3_times l D c1 c2 c3 H.size hm a1 a2 a3 v (lw_x xs t 1) (lw_x xs t 2)) (cwV 2 hts (lw_V q804 q805 q806 q10 q807) rfl rfl rfl (by decide +kernel) ⟨Nat.le_of_ble_eq_true rfl, Nat.le_of_ble_eq_true rfl⟩) (pdMd_pre [1, 2, 3] rfl hK hW.2.1 (hM _)) rfl rfl hl.1 rfl (lv_room (Nat.le_of_ble_eq_true rfl)) dL_law_226 ⟨by show _ ≤ 1200096; omega, by show _ ≤ 5501386; omega⟩) hS (lwF_M hF hS.1 (fun q h => h)) (fun H locs hB hz1 hk1 hS => ?_)
  refine W.eq (g2 := F0 m 229 ls [.int ((pf_takes (lw_x xs t 1) ((lw_x xs t 2) &&& 3) v).1), .int ((pf_takes (lw_x xs t 1) ((lw_x xs t 2) &&& 3) v).1)]) rfl ?_
  have hW := lw_afterM hW hF hB hk1
  refine lv_icmp_eq (tgt := 485) hx hb dL_law_229 (by decide) (fun c_229 => ?_) (fun c_229 => ?_)
  · refine W.widen (k := 8 + (t + 1)) (n := 18 + 3 * (t + 1)) (by omega) (by omega) ?_
    exact kk _ _ _ _ hW hS
  · exact absurd rfl c_229
set_option maxHeartbeats 4000000 in
set_option maxRecDepth 100000 in
/-- turn -/
theorem law_4 {p : Program} {l : Launch} {e : Env} {s : State} {m : MethodId} {below : List Frame} {meth : Method} {c : Code} {D : va_G} {z : Nat} {cA c1 c2 c3 : ClassId} {h0 ha hm a1 a2 a3 b L : Nat} {xs : Nat → Int32} {Q : State → Prop} (hx : p.tables.exec = Jvm.exec) (hb : c.code = cL_law) (hml : c.maxLocals = 4) (hown : s.vm.findClass R_law = some m.cls) (hts : ∀ w ∈ lw_all, w.before #[Value.ref b] s = true) (hX : va_X b L xs s s.heap) (hbl : b < s.heap.size) (hL : L ≤ 288) (hK : va_K D pdCl [(cA, .object "Period"), (c1, .int), (c2, .int), (c3, .int)] s) (hZ : pdZ D z (lwA s) s) (hF : lwF (lwA s) h0 ha hm a1 a2 a3) (hM : ∀ v, va_D (fun _ => True) (pdMw c1 c2 c3 hm a1 a2 a3 v)) (t : Nat) (ht : 6 * t + 6 ≤ L) (v : pdS) (g : Nat → Nat) (H : Heap) (locs : List Loc) (hW : lwW D z cA c1 c2 c3 h0 ha hm a1 a2 a3 v v g H) (hS : va_S (lwA s) s.heap H locs) (ls : Array Slot) (hl : lv_has ls 4 [(0, .ref b), (1, .ref h0), (2, .ref hm), (3, .int (nI (6 * t)))]) (kk : ∀ (v' : pdS) (g' : Nat → Nat) (H1 : Heap) (locs1 : List Loc), lwW D z cA c1 c2 c3 h0 ha hm a1 a2 a3 v' v' g' H1 → va_S (lwA s) s.heap H1 locs1 → W p l e room_1 s m #[Value.ref b] below meth c H1 locs1 (8 + (t + 1)) (18 + 3 * (t + 1)) Q (F0 m 485 ls [])) : W p l e room_1 s m #[Value.ref b] below meth c H locs (8 + t) (18 + 3 * t) Q (F0 m 234 ls []) := by
  refine lv_aload_n hx hb dL_law_234 rfl (lv_at hl 1 rfl) ?_
  refine lv_aload_n hx hb dL_law_235 rfl (lv_at hl 0 rfl) ?_
  refine lv_iload_n hx hb dL_law_236 rfl (lv_at hl 3 rfl) ?_
  refine lv_iconst (v := 1) hx hb dL_law_237 (by decide) ?_
  refine lv_iadd hx hb dL_law_238 ?_
  refine va_sld hx hb hX hbl (fun h => absurd hbl (Nat.not_lt.mpr h)) hS (lw_vin (k := 1) ht hL (by decide)) dL_law_239 ?_
  refine W.eq (g2 := F0 m 240 ls [.int (lw_x xs t 1), .ref h0]) rfl ?_
  refine pd_callG (W.runV (As := [.int (lw_x xs t 1)]) (rest := []) ⟨hx, hb, hml, hown, hts⟩ (mX0_turn l D z cA H.size h0 ha g v (lw_x xs t 1)) (cwV 1 hts (lw_V q684 q685 q686 q7 q687) rfl rfl rfl (by decide +kernel) ⟨Nat.le_of_ble_eq_true rfl, Nat.le_of_ble_eq_true rfl⟩) (pdDk_pre 0 rfl hK hW.1 hF.2.1 hZ hS (lwF_D hF hS.1 (fun q h => h))) rfl rfl hl.1 rfl (lv_room (Nat.le_of_ble_eq_true rfl)) dL_law_240 ⟨by show _ ≤ 1200096; omega, by show _ ≤ 5501386; omega⟩) hS (lwF_D hF hS.1 (fun q h => h)) (fun H locs hB hz1 hk1 hS => ?_)
  refine W.eq (g2 := F0 m 243 ls [.int ((pf_takes (lw_x xs t 1) (-1) v).1)]) rfl ?_
  obtain ⟨g1, hW1, hg1⟩ := hB
  have hW := lw_afterD hW hF hZ.2.2 hW1 hg1 hk1
  refine lv_aload_n hx hb dL_law_243 rfl (lv_at hl 2 rfl) ?_
  refine lv_aload_n hx hb dL_law_244 rfl (lv_at hl 0 rfl) ?_
  refine lv_iload_n hx hb dL_law_245 rfl (lv_at hl 3 rfl) ?_
  refine lv_iconst (v := 1) hx hb dL_law_246 (by decide) ?_
  refine lv_iadd hx hb dL_law_247 ?_
  refine va_sld hx hb hX hbl (fun h => absurd hbl (Nat.not_lt.mpr h)) hS (lw_vin (k := 1) ht hL (by decide)) dL_law_248 ?_
  refine W.eq (g2 := F0 m 249 ls [.int (lw_x xs t 1), .ref hm, .int ((pf_takes (lw_x xs t 1) (-1) v).1)]) rfl ?_
  refine pd_callG (W.runV (As := [.int (lw_x xs t 1)]) (rest := [.int ((pf_takes (lw_x xs t 1) (-1) v).1)]) ⟨hx, hb, hml, hown, hts⟩ (mX3_turn l D c1 c2 c3 H.size hm a1 a2 a3 v (lw_x xs t 1)) (cwV 1 hts (lw_V q812 q813 q814 q10 q815) rfl rfl rfl (by decide +kernel) ⟨Nat.le_of_ble_eq_true rfl, Nat.le_of_ble_eq_true rfl⟩) (pdMd_pre [1, 2, 3] rfl hK hW.2.1 (hM _)) rfl rfl hl.1 rfl (lv_room (Nat.le_of_ble_eq_true rfl)) dL_law_249 ⟨by show _ ≤ 1200096; omega, by show _ ≤ 5501386; omega⟩) hS (lwF_M hF hS.1 (fun q h => h)) (fun H locs hB hz1 hk1 hS => ?_)
  refine W.eq (g2 := F0 m 252 ls [.int ((pf_takes (lw_x xs t 1) (-1) v).1), .int ((pf_takes (lw_x xs t 1) (-1) v).1)]) rfl ?_
  have hW := lw_afterM hW hF hB hk1
  refine lv_icmp_eq (tgt := 485) hx hb dL_law_252 (by decide) (fun c_252 => ?_) (fun c_252 => ?_)
  · refine W.widen (k := 8 + (t + 1)) (n := 18 + 3 * (t + 1)) (by omega) (by omega) ?_
    exact kk _ _ _ _ hW hS
  · exact absurd rfl c_252
set_option maxHeartbeats 4000000 in
set_option maxRecDepth 100000 in
/-- normal -/
theorem law_5 {p : Program} {l : Launch} {e : Env} {s : State} {m : MethodId} {below : List Frame} {meth : Method} {c : Code} {D : va_G} {z : Nat} {cA c1 c2 c3 : ClassId} {h0 ha hm a1 a2 a3 b L : Nat} {xs : Nat → Int32} {Q : State → Prop} (hx : p.tables.exec = Jvm.exec) (hb : c.code = cL_law) (hml : c.maxLocals = 4) (hown : s.vm.findClass R_law = some m.cls) (hts : ∀ w ∈ lw_all, w.before #[Value.ref b] s = true) (hX : va_X b L xs s s.heap) (hbl : b < s.heap.size) (hL : L ≤ 288) (hK : va_K D pdCl [(cA, .object "Period"), (c1, .int), (c2, .int), (c3, .int)] s) (hZ : pdZ D z (lwA s) s) (hF : lwF (lwA s) h0 ha hm a1 a2 a3) (hM : ∀ v, va_D (fun _ => True) (pdMw c1 c2 c3 hm a1 a2 a3 v)) (t : Nat) (ht : 6 * t + 6 ≤ L) (v : pdS) (g : Nat → Nat) (H : Heap) (locs : List Loc) (hW : lwW D z cA c1 c2 c3 h0 ha hm a1 a2 a3 v v g H) (hS : va_S (lwA s) s.heap H locs) (ls : Array Slot) (hl : lv_has ls 4 [(0, .ref b), (1, .ref h0), (2, .ref hm), (3, .int (nI (6 * t)))]) (kk : ∀ (v' : pdS) (g' : Nat → Nat) (H1 : Heap) (locs1 : List Loc), lwW D z cA c1 c2 c3 h0 ha hm a1 a2 a3 v' v' g' H1 → va_S (lwA s) s.heap H1 locs1 → W p l e room_1 s m #[Value.ref b] below meth c H1 locs1 (8 + (t + 1)) (18 + 3 * (t + 1)) Q (F0 m 485 ls [])) : W p l e room_1 s m #[Value.ref b] below meth c H locs (8 + t) (18 + 3 * t) Q (F0 m 257 ls []) := by
  refine lv_aload_n hx hb dL_law_257 rfl (lv_at hl 1 rfl) ?_
  refine lv_aload_n hx hb dL_law_258 rfl (lv_at hl 0 rfl) ?_
  refine lv_iload_n hx hb dL_law_259 rfl (lv_at hl 3 rfl) ?_
  refine lv_iconst (v := 1) hx hb dL_law_260 (by decide) ?_
  refine lv_iadd hx hb dL_law_261 ?_
  refine va_sld hx hb hX hbl (fun h => absurd hbl (Nat.not_lt.mpr h)) hS (lw_vin (k := 1) ht hL (by decide)) dL_law_262 ?_
  refine W.eq (g2 := F0 m 263 ls [.int (lw_x xs t 1), .ref h0]) rfl ?_
  refine pd_callG (W.runV (As := [.int (lw_x xs t 1)]) (rest := []) ⟨hx, hb, hml, hown, hts⟩ (mX0_normal l D z cA H.size h0 ha g v (lw_x xs t 1)) (cwV 1 hts (lw_V q693 q694 q695 q7 q696) rfl rfl rfl (by decide +kernel) ⟨Nat.le_of_ble_eq_true rfl, Nat.le_of_ble_eq_true rfl⟩) (pdDk_pre 0 rfl hK hW.1 hF.2.1 hZ hS (lwF_D hF hS.1 (fun q h => h))) rfl rfl hl.1 rfl (lv_room (Nat.le_of_ble_eq_true rfl)) dL_law_263 ⟨by show _ ≤ 1200096; omega, by show _ ≤ 5501386; omega⟩) hS (lwF_D hF hS.1 (fun q h => h)) (fun H locs hB hz1 hk1 hS => ?_)
  refine W.eq (g2 := F0 m 266 ls [.int ((pf_normal (lw_x xs t 1) v).1)]) rfl ?_
  obtain ⟨g1, hW1, hg1⟩ := hB
  have hW := lw_afterD hW hF hZ.2.2 hW1 hg1 hk1
  refine lv_aload_n hx hb dL_law_266 rfl (lv_at hl 2 rfl) ?_
  refine lv_aload_n hx hb dL_law_267 rfl (lv_at hl 0 rfl) ?_
  refine lv_iload_n hx hb dL_law_268 rfl (lv_at hl 3 rfl) ?_
  refine lv_iconst (v := 1) hx hb dL_law_269 (by decide) ?_
  refine lv_iadd hx hb dL_law_270 ?_
  refine va_sld hx hb hX hbl (fun h => absurd hbl (Nat.not_lt.mpr h)) hS (lw_vin (k := 1) ht hL (by decide)) dL_law_271 ?_
  refine W.eq (g2 := F0 m 272 ls [.int (lw_x xs t 1), .ref hm, .int ((pf_normal (lw_x xs t 1) v).1)]) rfl ?_
  refine pd_callG (W.runV (As := [.int (lw_x xs t 1)]) (rest := [.int ((pf_normal (lw_x xs t 1) v).1)]) ⟨hx, hb, hml, hown, hts⟩ (mX3_normal l D c1 c2 c3 H.size hm a1 a2 a3 v (lw_x xs t 1)) (cwV 1 hts (lw_V q816 q817 q818 q10 q819) rfl rfl rfl (by decide +kernel) ⟨Nat.le_of_ble_eq_true rfl, Nat.le_of_ble_eq_true rfl⟩) (pdMd_pre [1, 2, 3] rfl hK hW.2.1 (hM _)) rfl rfl hl.1 rfl (lv_room (Nat.le_of_ble_eq_true rfl)) dL_law_272 ⟨by show _ ≤ 1200096; omega, by show _ ≤ 5501386; omega⟩) hS (lwF_M hF hS.1 (fun q h => h)) (fun H locs hB hz1 hk1 hS => ?_)
  refine W.eq (g2 := F0 m 275 ls [.int ((pf_normal (lw_x xs t 1) v).1), .int ((pf_normal (lw_x xs t 1) v).1)]) rfl ?_
  have hW := lw_afterM hW hF hB hk1
  refine lv_icmp_eq (tgt := 485) hx hb dL_law_275 (by decide) (fun c_275 => ?_) (fun c_275 => ?_)
  · refine W.widen (k := 8 + (t + 1)) (n := 18 + 3 * (t + 1)) (by omega) (by omega) ?_
    exact kk _ _ _ _ hW hS
  · exact absurd rfl c_275
set_option maxHeartbeats 4000000 in
set_option maxRecDepth 100000 in
/-- days -/
theorem law_6 {p : Program} {l : Launch} {e : Env} {s : State} {m : MethodId} {below : List Frame} {meth : Method} {c : Code} {D : va_G} {z : Nat} {cA c1 c2 c3 : ClassId} {h0 ha hm a1 a2 a3 b L : Nat} {xs : Nat → Int32} {Q : State → Prop} (hx : p.tables.exec = Jvm.exec) (hb : c.code = cL_law) (hml : c.maxLocals = 4) (hown : s.vm.findClass R_law = some m.cls) (hts : ∀ w ∈ lw_all, w.before #[Value.ref b] s = true) (hX : va_X b L xs s s.heap) (hbl : b < s.heap.size) (hL : L ≤ 288) (hK : va_K D pdCl [(cA, .object "Period"), (c1, .int), (c2, .int), (c3, .int)] s) (hZ : pdZ D z (lwA s) s) (hF : lwF (lwA s) h0 ha hm a1 a2 a3) (hM : ∀ v, va_D (fun _ => True) (pdMw c1 c2 c3 hm a1 a2 a3 v)) (t : Nat) (ht : 6 * t + 6 ≤ L) (v : pdS) (g : Nat → Nat) (H : Heap) (locs : List Loc) (hW : lwW D z cA c1 c2 c3 h0 ha hm a1 a2 a3 v v g H) (hS : va_S (lwA s) s.heap H locs) (ls : Array Slot) (hl : lv_has ls 4 [(0, .ref b), (1, .ref h0), (2, .ref hm), (3, .int (nI (6 * t)))]) (kk : ∀ (v' : pdS) (g' : Nat → Nat) (H1 : Heap) (locs1 : List Loc), lwW D z cA c1 c2 c3 h0 ha hm a1 a2 a3 v' v' g' H1 → va_S (lwA s) s.heap H1 locs1 → W p l e room_1 s m #[Value.ref b] below meth c H1 locs1 (8 + (t + 1)) (18 + 3 * (t + 1)) Q (F0 m 485 ls [])) : W p l e room_1 s m #[Value.ref b] below meth c H locs (8 + t) (18 + 3 * t) Q (F0 m 280 ls []) := by
  refine lv_aload_n hx hb dL_law_280 rfl (lv_at hl 1 rfl) ?_
  refine lv_aload_n hx hb dL_law_281 rfl (lv_at hl 0 rfl) ?_
  refine lv_iload_n hx hb dL_law_282 rfl (lv_at hl 3 rfl) ?_
  refine lv_iconst (v := 1) hx hb dL_law_283 (by decide) ?_
  refine lv_iadd hx hb dL_law_284 ?_
  refine va_sld hx hb hX hbl (fun h => absurd hbl (Nat.not_lt.mpr h)) hS (lw_vin (k := 1) ht hL (by decide)) dL_law_285 ?_
  refine W.eq (g2 := F0 m 286 ls [.int (lw_x xs t 1), .ref h0]) rfl ?_
  refine lv_aload_n hx hb dL_law_286 rfl (lv_at hl 0 rfl) ?_
  refine lv_iload_n hx hb dL_law_287 rfl (lv_at hl 3 rfl) ?_
  refine lv_iconst (v := 2) hx hb dL_law_288 (by decide) ?_
  refine lv_iadd hx hb dL_law_289 ?_
  refine va_sld hx hb hX hbl (fun h => absurd hbl (Nat.not_lt.mpr h)) hS (lw_vin (k := 2) ht hL (by decide)) dL_law_290 ?_
  refine W.eq (g2 := F0 m 291 ls [.int (lw_x xs t 2), .int (lw_x xs t 1), .ref h0]) rfl ?_
  refine pd_callG (W.runV (As := [.int (lw_x xs t 1), .int (lw_x xs t 2)]) (rest := []) ⟨hx, hb, hml, hown, hts⟩ (mX0_days l D z cA H.size h0 ha g v (lw_x xs t 1) (lw_x xs t 2)) (cwV 2 hts (lw_V q706 q707 q708 q7 q709) rfl rfl rfl (by decide +kernel) ⟨Nat.le_of_ble_eq_true rfl, Nat.le_of_ble_eq_true rfl⟩) (pdDk_pre 0 rfl hK hW.1 hF.2.1 hZ hS (lwF_D hF hS.1 (fun q h => h))) rfl rfl hl.1 rfl (lv_room (Nat.le_of_ble_eq_true rfl)) dL_law_291 ⟨by show _ ≤ 1200096; omega, by show _ ≤ 5501386; omega⟩) hS (lwF_D hF hS.1 (fun q h => h)) (fun H locs hB hz1 hk1 hS => ?_)
  refine W.eq (g2 := F0 m 294 ls [.int ((pf_days (lw_x xs t 1) (lw_x xs t 2) v).1)]) rfl ?_
  obtain ⟨g1, hW1, hg1⟩ := hB
  have hW := lw_afterD hW hF hZ.2.2 hW1 hg1 hk1
  refine lv_aload_n hx hb dL_law_294 rfl (lv_at hl 2 rfl) ?_
  refine lv_aload_n hx hb dL_law_295 rfl (lv_at hl 0 rfl) ?_
  refine lv_iload_n hx hb dL_law_296 rfl (lv_at hl 3 rfl) ?_
  refine lv_iconst (v := 1) hx hb dL_law_297 (by decide) ?_
  refine lv_iadd hx hb dL_law_298 ?_
  refine va_sld hx hb hX hbl (fun h => absurd hbl (Nat.not_lt.mpr h)) hS (lw_vin (k := 1) ht hL (by decide)) dL_law_299 ?_
  refine W.eq (g2 := F0 m 300 ls [.int (lw_x xs t 1), .ref hm, .int ((pf_days (lw_x xs t 1) (lw_x xs t 2) v).1)]) rfl ?_
  refine lv_aload_n hx hb dL_law_300 rfl (lv_at hl 0 rfl) ?_
  refine lv_iload_n hx hb dL_law_301 rfl (lv_at hl 3 rfl) ?_
  refine lv_iconst (v := 2) hx hb dL_law_302 (by decide) ?_
  refine lv_iadd hx hb dL_law_303 ?_
  refine va_sld hx hb hX hbl (fun h => absurd hbl (Nat.not_lt.mpr h)) hS (lw_vin (k := 2) ht hL (by decide)) dL_law_304 ?_
  refine W.eq (g2 := F0 m 305 ls [.int (lw_x xs t 2), .int (lw_x xs t 1), .ref hm, .int ((pf_days (lw_x xs t 1) (lw_x xs t 2) v).1)]) rfl ?_
  refine pd_callG (W.runV (As := [.int (lw_x xs t 1), .int (lw_x xs t 2)]) (rest := [.int ((pf_days (lw_x xs t 1) (lw_x xs t 2) v).1)]) ⟨hx, hb, hml, hown, hts⟩ (mX3_days l D c1 c2 c3 H.size hm a1 a2 a3 v (lw_x xs t 1) (lw_x xs t 2)) (cwV 2 hts (lw_V q825 q826 q827 q10 q828) rfl rfl rfl (by decide +kernel) ⟨Nat.le_of_ble_eq_true rfl, Nat.le_of_ble_eq_true rfl⟩) (pdMd_pre [1, 2, 3] rfl hK hW.2.1 (hM _)) rfl rfl hl.1 rfl (lv_room (Nat.le_of_ble_eq_true rfl)) dL_law_305 ⟨by show _ ≤ 1200096; omega, by show _ ≤ 5501386; omega⟩) hS (lwF_M hF hS.1 (fun q h => h)) (fun H locs hB hz1 hk1 hS => ?_)
  refine W.eq (g2 := F0 m 308 ls [.int ((pf_days (lw_x xs t 1) (lw_x xs t 2) v).1), .int ((pf_days (lw_x xs t 1) (lw_x xs t 2) v).1)]) rfl ?_
  have hW := lw_afterM hW hF hB hk1
  refine lv_icmp_eq (tgt := 485) hx hb dL_law_308 (by decide) (fun c_308 => ?_) (fun c_308 => ?_)
  · refine W.widen (k := 8 + (t + 1)) (n := 18 + 3 * (t + 1)) (by omega) (by omega) ?_
    exact kk _ _ _ _ hW hS
  · exact absurd rfl c_308
set_option maxHeartbeats 4000000 in
set_option maxRecDepth 100000 in
/-- months -/
theorem law_7 {p : Program} {l : Launch} {e : Env} {s : State} {m : MethodId} {below : List Frame} {meth : Method} {c : Code} {D : va_G} {z : Nat} {cA c1 c2 c3 : ClassId} {h0 ha hm a1 a2 a3 b L : Nat} {xs : Nat → Int32} {Q : State → Prop} (hx : p.tables.exec = Jvm.exec) (hb : c.code = cL_law) (hml : c.maxLocals = 4) (hown : s.vm.findClass R_law = some m.cls) (hts : ∀ w ∈ lw_all, w.before #[Value.ref b] s = true) (hX : va_X b L xs s s.heap) (hbl : b < s.heap.size) (hL : L ≤ 288) (hK : va_K D pdCl [(cA, .object "Period"), (c1, .int), (c2, .int), (c3, .int)] s) (hZ : pdZ D z (lwA s) s) (hF : lwF (lwA s) h0 ha hm a1 a2 a3) (hM : ∀ v, va_D (fun _ => True) (pdMw c1 c2 c3 hm a1 a2 a3 v)) (t : Nat) (ht : 6 * t + 6 ≤ L) (v : pdS) (g : Nat → Nat) (H : Heap) (locs : List Loc) (hW : lwW D z cA c1 c2 c3 h0 ha hm a1 a2 a3 v v g H) (hS : va_S (lwA s) s.heap H locs) (ls : Array Slot) (hl : lv_has ls 4 [(0, .ref b), (1, .ref h0), (2, .ref hm), (3, .int (nI (6 * t)))]) (kk : ∀ (v' : pdS) (g' : Nat → Nat) (H1 : Heap) (locs1 : List Loc), lwW D z cA c1 c2 c3 h0 ha hm a1 a2 a3 v' v' g' H1 → va_S (lwA s) s.heap H1 locs1 → W p l e room_1 s m #[Value.ref b] below meth c H1 locs1 (8 + (t + 1)) (18 + 3 * (t + 1)) Q (F0 m 485 ls [])) : W p l e room_1 s m #[Value.ref b] below meth c H locs (8 + t) (18 + 3 * t) Q (F0 m 313 ls []) := by
  refine lv_aload_n hx hb dL_law_313 rfl (lv_at hl 1 rfl) ?_
  refine lv_aload_n hx hb dL_law_314 rfl (lv_at hl 0 rfl) ?_
  refine lv_iload_n hx hb dL_law_315 rfl (lv_at hl 3 rfl) ?_
  refine lv_iconst (v := 1) hx hb dL_law_316 (by decide) ?_
  refine lv_iadd hx hb dL_law_317 ?_
  refine va_sld hx hb hX hbl (fun h => absurd hbl (Nat.not_lt.mpr h)) hS (lw_vin (k := 1) ht hL (by decide)) dL_law_318 ?_
  refine W.eq (g2 := F0 m 319 ls [.int (lw_x xs t 1), .ref h0]) rfl ?_
  refine lv_aload_n hx hb dL_law_319 rfl (lv_at hl 0 rfl) ?_
  refine lv_iload_n hx hb dL_law_320 rfl (lv_at hl 3 rfl) ?_
  refine lv_iconst (v := 2) hx hb dL_law_321 (by decide) ?_
  refine lv_iadd hx hb dL_law_322 ?_
  refine va_sld hx hb hX hbl (fun h => absurd hbl (Nat.not_lt.mpr h)) hS (lw_vin (k := 2) ht hL (by decide)) dL_law_323 ?_
  refine W.eq (g2 := F0 m 324 ls [.int (lw_x xs t 2), .int (lw_x xs t 1), .ref h0]) rfl ?_
  refine pd_callG (W.runV (As := [.int (lw_x xs t 1), .int (lw_x xs t 2)]) (rest := []) ⟨hx, hb, hml, hown, hts⟩ (mX0_months l D z cA H.size h0 ha g v (lw_x xs t 1) (lw_x xs t 2)) (cwV 2 hts (lw_V q717 q718 q719 q7 q720) rfl rfl rfl (by decide +kernel) ⟨Nat.le_of_ble_eq_true rfl, Nat.le_of_ble_eq_true rfl⟩) (pdDk_pre 0 rfl hK hW.1 hF.2.1 hZ hS (lwF_D hF hS.1 (fun q h => h))) rfl rfl hl.1 rfl (lv_room (Nat.le_of_ble_eq_true rfl)) dL_law_324 ⟨by show _ ≤ 1200096; omega, by show _ ≤ 5501386; omega⟩) hS (lwF_D hF hS.1 (fun q h => h)) (fun H locs hB hz1 hk1 hS => ?_)
  refine W.eq (g2 := F0 m 327 ls [.int ((pf_months (lw_x xs t 1) (lw_x xs t 2) v).1)]) rfl ?_
  obtain ⟨g1, hW1, hg1⟩ := hB
  have hW := lw_afterD hW hF hZ.2.2 hW1 hg1 hk1
  refine lv_aload_n hx hb dL_law_327 rfl (lv_at hl 2 rfl) ?_
  refine lv_aload_n hx hb dL_law_328 rfl (lv_at hl 0 rfl) ?_
  refine lv_iload_n hx hb dL_law_329 rfl (lv_at hl 3 rfl) ?_
  refine lv_iconst (v := 1) hx hb dL_law_330 (by decide) ?_
  refine lv_iadd hx hb dL_law_331 ?_
  refine va_sld hx hb hX hbl (fun h => absurd hbl (Nat.not_lt.mpr h)) hS (lw_vin (k := 1) ht hL (by decide)) dL_law_332 ?_
  refine W.eq (g2 := F0 m 333 ls [.int (lw_x xs t 1), .ref hm, .int ((pf_months (lw_x xs t 1) (lw_x xs t 2) v).1)]) rfl ?_
  refine lv_aload_n hx hb dL_law_333 rfl (lv_at hl 0 rfl) ?_
  refine lv_iload_n hx hb dL_law_334 rfl (lv_at hl 3 rfl) ?_
  refine lv_iconst (v := 2) hx hb dL_law_335 (by decide) ?_
  refine lv_iadd hx hb dL_law_336 ?_
  refine va_sld hx hb hX hbl (fun h => absurd hbl (Nat.not_lt.mpr h)) hS (lw_vin (k := 2) ht hL (by decide)) dL_law_337 ?_
  refine W.eq (g2 := F0 m 338 ls [.int (lw_x xs t 2), .int (lw_x xs t 1), .ref hm, .int ((pf_months (lw_x xs t 1) (lw_x xs t 2) v).1)]) rfl ?_
  refine pd_callG (W.runV (As := [.int (lw_x xs t 1), .int (lw_x xs t 2)]) (rest := [.int ((pf_months (lw_x xs t 1) (lw_x xs t 2) v).1)]) ⟨hx, hb, hml, hown, hts⟩ (mX3_months l D c1 c2 c3 H.size hm a1 a2 a3 v (lw_x xs t 1) (lw_x xs t 2)) (cwV 2 hts (lw_V q829 q830 q831 q10 q832) rfl rfl rfl (by decide +kernel) ⟨Nat.le_of_ble_eq_true rfl, Nat.le_of_ble_eq_true rfl⟩) (pdMd_pre [1, 2, 3] rfl hK hW.2.1 (hM _)) rfl rfl hl.1 rfl (lv_room (Nat.le_of_ble_eq_true rfl)) dL_law_338 ⟨by show _ ≤ 1200096; omega, by show _ ≤ 5501386; omega⟩) hS (lwF_M hF hS.1 (fun q h => h)) (fun H locs hB hz1 hk1 hS => ?_)
  refine W.eq (g2 := F0 m 341 ls [.int ((pf_months (lw_x xs t 1) (lw_x xs t 2) v).1), .int ((pf_months (lw_x xs t 1) (lw_x xs t 2) v).1)]) rfl ?_
  have hW := lw_afterM hW hF hB hk1
  refine lv_icmp_eq (tgt := 485) hx hb dL_law_341 (by decide) (fun c_341 => ?_) (fun c_341 => ?_)
  · refine W.widen (k := 8 + (t + 1)) (n := 18 + 3 * (t + 1)) (by omega) (by omega) ?_
    exact kk _ _ _ _ hW hS
  · exact absurd rfl c_341
set_option maxHeartbeats 4000000 in
set_option maxRecDepth 100000 in
/-- years -/
theorem law_8 {p : Program} {l : Launch} {e : Env} {s : State} {m : MethodId} {below : List Frame} {meth : Method} {c : Code} {D : va_G} {z : Nat} {cA c1 c2 c3 : ClassId} {h0 ha hm a1 a2 a3 b L : Nat} {xs : Nat → Int32} {Q : State → Prop} (hx : p.tables.exec = Jvm.exec) (hb : c.code = cL_law) (hml : c.maxLocals = 4) (hown : s.vm.findClass R_law = some m.cls) (hts : ∀ w ∈ lw_all, w.before #[Value.ref b] s = true) (hX : va_X b L xs s s.heap) (hbl : b < s.heap.size) (hL : L ≤ 288) (hK : va_K D pdCl [(cA, .object "Period"), (c1, .int), (c2, .int), (c3, .int)] s) (hZ : pdZ D z (lwA s) s) (hF : lwF (lwA s) h0 ha hm a1 a2 a3) (hM : ∀ v, va_D (fun _ => True) (pdMw c1 c2 c3 hm a1 a2 a3 v)) (t : Nat) (ht : 6 * t + 6 ≤ L) (v : pdS) (g : Nat → Nat) (H : Heap) (locs : List Loc) (hW : lwW D z cA c1 c2 c3 h0 ha hm a1 a2 a3 v v g H) (hS : va_S (lwA s) s.heap H locs) (ls : Array Slot) (hl : lv_has ls 4 [(0, .ref b), (1, .ref h0), (2, .ref hm), (3, .int (nI (6 * t)))]) (kk : ∀ (v' : pdS) (g' : Nat → Nat) (H1 : Heap) (locs1 : List Loc), lwW D z cA c1 c2 c3 h0 ha hm a1 a2 a3 v' v' g' H1 → va_S (lwA s) s.heap H1 locs1 → W p l e room_1 s m #[Value.ref b] below meth c H1 locs1 (8 + (t + 1)) (18 + 3 * (t + 1)) Q (F0 m 485 ls [])) : W p l e room_1 s m #[Value.ref b] below meth c H locs (8 + t) (18 + 3 * t) Q (F0 m 346 ls []) := by
  refine lv_aload_n hx hb dL_law_346 rfl (lv_at hl 1 rfl) ?_
  refine lv_aload_n hx hb dL_law_347 rfl (lv_at hl 0 rfl) ?_
  refine lv_iload_n hx hb dL_law_348 rfl (lv_at hl 3 rfl) ?_
  refine lv_iconst (v := 1) hx hb dL_law_349 (by decide) ?_
  refine lv_iadd hx hb dL_law_350 ?_
  refine va_sld hx hb hX hbl (fun h => absurd hbl (Nat.not_lt.mpr h)) hS (lw_vin (k := 1) ht hL (by decide)) dL_law_351 ?_
  refine W.eq (g2 := F0 m 352 ls [.int (lw_x xs t 1), .ref h0]) rfl ?_
  refine pd_callV (W.runV (As := [.int (lw_x xs t 1)]) (rest := []) ⟨hx, hb, hml, hown, hts⟩ (mX0_years l D z cA H.size h0 ha g v (lw_x xs t 1)) (cwV 1 hts (lw_V q725 q726 q727 q7 q728) rfl rfl rfl (by decide +kernel) ⟨Nat.le_of_ble_eq_true rfl, Nat.le_of_ble_eq_true rfl⟩) (pdDk_pre 0 rfl hK hW.1 hF.2.1 hZ hS (lwF_D hF hS.1 (fun q h => h))) rfl rfl hl.1 rfl (lv_room (Nat.le_of_ble_eq_true rfl)) dL_law_352 ⟨by show _ ≤ 1200096; omega, by show _ ≤ 5501386; omega⟩) ?_
  refine W.eq (g2 := F0 m 355 ls [.int (v.1 (pdK (lw_x xs t 1)))]) rfl ?_
  refine lv_aload_n hx hb dL_law_355 rfl (lv_at hl 2 rfl) ?_
  refine lv_aload_n hx hb dL_law_356 rfl (lv_at hl 0 rfl) ?_
  refine lv_iload_n hx hb dL_law_357 rfl (lv_at hl 3 rfl) ?_
  refine lv_iconst (v := 1) hx hb dL_law_358 (by decide) ?_
  refine lv_iadd hx hb dL_law_359 ?_
  refine va_sld hx hb hX hbl (fun h => absurd hbl (Nat.not_lt.mpr h)) hS (lw_vin (k := 1) ht hL (by decide)) dL_law_360 ?_
  refine W.eq (g2 := F0 m 361 ls [.int (lw_x xs t 1), .ref hm, .int (v.1 (pdK (lw_x xs t 1)))]) rfl ?_
  refine pd_callV (W.runV (As := [.int (lw_x xs t 1)]) (rest := [.int (v.1 (pdK (lw_x xs t 1)))]) ⟨hx, hb, hml, hown, hts⟩ (mX3_years l D c1 c2 c3 H.size hm a1 a2 a3 v (lw_x xs t 1)) (cwV 1 hts (lw_V q833 q834 q835 q10 q836) rfl rfl rfl (by decide +kernel) ⟨Nat.le_of_ble_eq_true rfl, Nat.le_of_ble_eq_true rfl⟩) (pdMd_pre [1, 2, 3] rfl hK hW.2.1 (hM _)) rfl rfl hl.1 rfl (lv_room (Nat.le_of_ble_eq_true rfl)) dL_law_361 ⟨by show _ ≤ 1200096; omega, by show _ ≤ 5501386; omega⟩) ?_
  refine W.eq (g2 := F0 m 364 ls [.int (v.1 (pdK (lw_x xs t 1))), .int (v.1 (pdK (lw_x xs t 1)))]) rfl ?_
  refine lv_icmp_eq (tgt := 485) hx hb dL_law_364 (by decide) (fun c_364 => ?_) (fun c_364 => ?_)
  · refine W.widen (k := 8 + (t + 1)) (n := 18 + 3 * (t + 1)) (by omega) (by omega) ?_
    exact kk _ _ _ _ hW hS
  · exact absurd rfl c_364
set_option maxHeartbeats 4000000 in
set_option maxRecDepth 100000 in
/-- month -/
theorem law_9 {p : Program} {l : Launch} {e : Env} {s : State} {m : MethodId} {below : List Frame} {meth : Method} {c : Code} {D : va_G} {z : Nat} {cA c1 c2 c3 : ClassId} {h0 ha hm a1 a2 a3 b L : Nat} {xs : Nat → Int32} {Q : State → Prop} (hx : p.tables.exec = Jvm.exec) (hb : c.code = cL_law) (hml : c.maxLocals = 4) (hown : s.vm.findClass R_law = some m.cls) (hts : ∀ w ∈ lw_all, w.before #[Value.ref b] s = true) (hX : va_X b L xs s s.heap) (hbl : b < s.heap.size) (hL : L ≤ 288) (hK : va_K D pdCl [(cA, .object "Period"), (c1, .int), (c2, .int), (c3, .int)] s) (hZ : pdZ D z (lwA s) s) (hF : lwF (lwA s) h0 ha hm a1 a2 a3) (hM : ∀ v, va_D (fun _ => True) (pdMw c1 c2 c3 hm a1 a2 a3 v)) (t : Nat) (ht : 6 * t + 6 ≤ L) (v : pdS) (g : Nat → Nat) (H : Heap) (locs : List Loc) (hW : lwW D z cA c1 c2 c3 h0 ha hm a1 a2 a3 v v g H) (hS : va_S (lwA s) s.heap H locs) (ls : Array Slot) (hl : lv_has ls 4 [(0, .ref b), (1, .ref h0), (2, .ref hm), (3, .int (nI (6 * t)))]) (kk : ∀ (v' : pdS) (g' : Nat → Nat) (H1 : Heap) (locs1 : List Loc), lwW D z cA c1 c2 c3 h0 ha hm a1 a2 a3 v' v' g' H1 → va_S (lwA s) s.heap H1 locs1 → W p l e room_1 s m #[Value.ref b] below meth c H1 locs1 (8 + (t + 1)) (18 + 3 * (t + 1)) Q (F0 m 485 ls [])) : W p l e room_1 s m #[Value.ref b] below meth c H locs (8 + t) (18 + 3 * t) Q (F0 m 369 ls []) := by
  refine lv_aload_n hx hb dL_law_369 rfl (lv_at hl 1 rfl) ?_
  refine lv_aload_n hx hb dL_law_370 rfl (lv_at hl 0 rfl) ?_
  refine lv_iload_n hx hb dL_law_371 rfl (lv_at hl 3 rfl) ?_
  refine lv_iconst (v := 1) hx hb dL_law_372 (by decide) ?_
  refine lv_iadd hx hb dL_law_373 ?_
  refine va_sld hx hb hX hbl (fun h => absurd hbl (Nat.not_lt.mpr h)) hS (lw_vin (k := 1) ht hL (by decide)) dL_law_374 ?_
  refine W.eq (g2 := F0 m 375 ls [.int (lw_x xs t 1), .ref h0]) rfl ?_
  refine pd_callV (W.runV (As := [.int (lw_x xs t 1)]) (rest := []) ⟨hx, hb, hml, hown, hts⟩ (mX0_month l D z cA H.size h0 ha g v (lw_x xs t 1)) (cwV 1 hts (lw_V q729 q730 q731 q7 q732) rfl rfl rfl (by decide +kernel) ⟨Nat.le_of_ble_eq_true rfl, Nat.le_of_ble_eq_true rfl⟩) (pdDk_pre 0 rfl hK hW.1 hF.2.1 hZ hS (lwF_D hF hS.1 (fun q h => h))) rfl rfl hl.1 rfl (lv_room (Nat.le_of_ble_eq_true rfl)) dL_law_375 ⟨by show _ ≤ 1200096; omega, by show _ ≤ 5501386; omega⟩) ?_
  refine W.eq (g2 := F0 m 378 ls [.int (v.2.1 (pdK (lw_x xs t 1)))]) rfl ?_
  refine lv_aload_n hx hb dL_law_378 rfl (lv_at hl 2 rfl) ?_
  refine lv_aload_n hx hb dL_law_379 rfl (lv_at hl 0 rfl) ?_
  refine lv_iload_n hx hb dL_law_380 rfl (lv_at hl 3 rfl) ?_
  refine lv_iconst (v := 1) hx hb dL_law_381 (by decide) ?_
  refine lv_iadd hx hb dL_law_382 ?_
  refine va_sld hx hb hX hbl (fun h => absurd hbl (Nat.not_lt.mpr h)) hS (lw_vin (k := 1) ht hL (by decide)) dL_law_383 ?_
  refine W.eq (g2 := F0 m 384 ls [.int (lw_x xs t 1), .ref hm, .int (v.2.1 (pdK (lw_x xs t 1)))]) rfl ?_
  refine pd_callV (W.runV (As := [.int (lw_x xs t 1)]) (rest := [.int (v.2.1 (pdK (lw_x xs t 1)))]) ⟨hx, hb, hml, hown, hts⟩ (mX3_month l D c1 c2 c3 H.size hm a1 a2 a3 v (lw_x xs t 1)) (cwV 1 hts (lw_V q837 q838 q839 q10 q840) rfl rfl rfl (by decide +kernel) ⟨Nat.le_of_ble_eq_true rfl, Nat.le_of_ble_eq_true rfl⟩) (pdMd_pre [1, 2, 3] rfl hK hW.2.1 (hM _)) rfl rfl hl.1 rfl (lv_room (Nat.le_of_ble_eq_true rfl)) dL_law_384 ⟨by show _ ≤ 1200096; omega, by show _ ≤ 5501386; omega⟩) ?_
  refine W.eq (g2 := F0 m 387 ls [.int (v.2.1 (pdK (lw_x xs t 1))), .int (v.2.1 (pdK (lw_x xs t 1)))]) rfl ?_
  refine lv_icmp_eq (tgt := 485) hx hb dL_law_387 (by decide) (fun c_387 => ?_) (fun c_387 => ?_)
  · refine W.widen (k := 8 + (t + 1)) (n := 18 + 3 * (t + 1)) (by omega) (by omega) ?_
    exact kk _ _ _ _ hW hS
  · exact absurd rfl c_387
set_option maxHeartbeats 4000000 in
set_option maxRecDepth 100000 in
/-- day -/
theorem law_10 {p : Program} {l : Launch} {e : Env} {s : State} {m : MethodId} {below : List Frame} {meth : Method} {c : Code} {D : va_G} {z : Nat} {cA c1 c2 c3 : ClassId} {h0 ha hm a1 a2 a3 b L : Nat} {xs : Nat → Int32} {Q : State → Prop} (hx : p.tables.exec = Jvm.exec) (hb : c.code = cL_law) (hml : c.maxLocals = 4) (hown : s.vm.findClass R_law = some m.cls) (hts : ∀ w ∈ lw_all, w.before #[Value.ref b] s = true) (hX : va_X b L xs s s.heap) (hbl : b < s.heap.size) (hL : L ≤ 288) (hK : va_K D pdCl [(cA, .object "Period"), (c1, .int), (c2, .int), (c3, .int)] s) (hZ : pdZ D z (lwA s) s) (hF : lwF (lwA s) h0 ha hm a1 a2 a3) (hM : ∀ v, va_D (fun _ => True) (pdMw c1 c2 c3 hm a1 a2 a3 v)) (t : Nat) (ht : 6 * t + 6 ≤ L) (v : pdS) (g : Nat → Nat) (H : Heap) (locs : List Loc) (hW : lwW D z cA c1 c2 c3 h0 ha hm a1 a2 a3 v v g H) (hS : va_S (lwA s) s.heap H locs) (ls : Array Slot) (hl : lv_has ls 4 [(0, .ref b), (1, .ref h0), (2, .ref hm), (3, .int (nI (6 * t)))]) (kk : ∀ (v' : pdS) (g' : Nat → Nat) (H1 : Heap) (locs1 : List Loc), lwW D z cA c1 c2 c3 h0 ha hm a1 a2 a3 v' v' g' H1 → va_S (lwA s) s.heap H1 locs1 → W p l e room_1 s m #[Value.ref b] below meth c H1 locs1 (8 + (t + 1)) (18 + 3 * (t + 1)) Q (F0 m 485 ls [])) : W p l e room_1 s m #[Value.ref b] below meth c H locs (8 + t) (18 + 3 * t) Q (F0 m 392 ls []) := by
  refine lv_aload_n hx hb dL_law_392 rfl (lv_at hl 1 rfl) ?_
  refine lv_aload_n hx hb dL_law_393 rfl (lv_at hl 0 rfl) ?_
  refine lv_iload_n hx hb dL_law_394 rfl (lv_at hl 3 rfl) ?_
  refine lv_iconst (v := 1) hx hb dL_law_395 (by decide) ?_
  refine lv_iadd hx hb dL_law_396 ?_
  refine va_sld hx hb hX hbl (fun h => absurd hbl (Nat.not_lt.mpr h)) hS (lw_vin (k := 1) ht hL (by decide)) dL_law_397 ?_
  refine W.eq (g2 := F0 m 398 ls [.int (lw_x xs t 1), .ref h0]) rfl ?_
  refine pd_callV (W.runV (As := [.int (lw_x xs t 1)]) (rest := []) ⟨hx, hb, hml, hown, hts⟩ (mX0_day l D z cA H.size h0 ha g v (lw_x xs t 1)) (cwV 1 hts (lw_V q733 q734 q735 q7 q736) rfl rfl rfl (by decide +kernel) ⟨Nat.le_of_ble_eq_true rfl, Nat.le_of_ble_eq_true rfl⟩) (pdDk_pre 0 rfl hK hW.1 hF.2.1 hZ hS (lwF_D hF hS.1 (fun q h => h))) rfl rfl hl.1 rfl (lv_room (Nat.le_of_ble_eq_true rfl)) dL_law_398 ⟨by show _ ≤ 1200096; omega, by show _ ≤ 5501386; omega⟩) ?_
  refine W.eq (g2 := F0 m 401 ls [.int (v.2.2 (pdK (lw_x xs t 1)))]) rfl ?_
  refine lv_aload_n hx hb dL_law_401 rfl (lv_at hl 2 rfl) ?_
  refine lv_aload_n hx hb dL_law_402 rfl (lv_at hl 0 rfl) ?_
  refine lv_iload_n hx hb dL_law_403 rfl (lv_at hl 3 rfl) ?_
  refine lv_iconst (v := 1) hx hb dL_law_404 (by decide) ?_
  refine lv_iadd hx hb dL_law_405 ?_
  refine va_sld hx hb hX hbl (fun h => absurd hbl (Nat.not_lt.mpr h)) hS (lw_vin (k := 1) ht hL (by decide)) dL_law_406 ?_
  refine W.eq (g2 := F0 m 407 ls [.int (lw_x xs t 1), .ref hm, .int (v.2.2 (pdK (lw_x xs t 1)))]) rfl ?_
  refine pd_callV (W.runV (As := [.int (lw_x xs t 1)]) (rest := [.int (v.2.2 (pdK (lw_x xs t 1)))]) ⟨hx, hb, hml, hown, hts⟩ (mX3_day l D c1 c2 c3 H.size hm a1 a2 a3 v (lw_x xs t 1)) (cwV 1 hts (lw_V q841 q842 q843 q10 q844) rfl rfl rfl (by decide +kernel) ⟨Nat.le_of_ble_eq_true rfl, Nat.le_of_ble_eq_true rfl⟩) (pdMd_pre [1, 2, 3] rfl hK hW.2.1 (hM _)) rfl rfl hl.1 rfl (lv_room (Nat.le_of_ble_eq_true rfl)) dL_law_407 ⟨by show _ ≤ 1200096; omega, by show _ ≤ 5501386; omega⟩) ?_
  refine W.eq (g2 := F0 m 410 ls [.int (v.2.2 (pdK (lw_x xs t 1))), .int (v.2.2 (pdK (lw_x xs t 1)))]) rfl ?_
  refine lv_icmp_eq (tgt := 485) hx hb dL_law_410 (by decide) (fun c_410 => ?_) (fun c_410 => ?_)
  · refine W.widen (k := 8 + (t + 1)) (n := 18 + 3 * (t + 1)) (by omega) (by omega) ?_
    exact kk _ _ _ _ hW hS
  · exact absurd rfl c_410
set_option maxHeartbeats 4000000 in
set_option maxRecDepth 100000 in
/-- all -/
theorem law_11 {p : Program} {l : Launch} {e : Env} {s : State} {m : MethodId} {below : List Frame} {meth : Method} {c : Code} {D : va_G} {z : Nat} {cA c1 c2 c3 : ClassId} {h0 ha hm a1 a2 a3 b L : Nat} {xs : Nat → Int32} {Q : State → Prop} (hx : p.tables.exec = Jvm.exec) (hb : c.code = cL_law) (hml : c.maxLocals = 4) (hown : s.vm.findClass R_law = some m.cls) (hts : ∀ w ∈ lw_all, w.before #[Value.ref b] s = true) (hX : va_X b L xs s s.heap) (hbl : b < s.heap.size) (hL : L ≤ 288) (hK : va_K D pdCl [(cA, .object "Period"), (c1, .int), (c2, .int), (c3, .int)] s) (hZ : pdZ D z (lwA s) s) (hF : lwF (lwA s) h0 ha hm a1 a2 a3) (hM : ∀ v, va_D (fun _ => True) (pdMw c1 c2 c3 hm a1 a2 a3 v)) (t : Nat) (ht : 6 * t + 6 ≤ L) (v : pdS) (g : Nat → Nat) (H : Heap) (locs : List Loc) (hW : lwW D z cA c1 c2 c3 h0 ha hm a1 a2 a3 v v g H) (hS : va_S (lwA s) s.heap H locs) (ls : Array Slot) (hl : lv_has ls 4 [(0, .ref b), (1, .ref h0), (2, .ref hm), (3, .int (nI (6 * t)))]) (kk : ∀ (v' : pdS) (g' : Nat → Nat) (H1 : Heap) (locs1 : List Loc), lwW D z cA c1 c2 c3 h0 ha hm a1 a2 a3 v' v' g' H1 → va_S (lwA s) s.heap H1 locs1 → W p l e room_1 s m #[Value.ref b] below meth c H1 locs1 (8 + (t + 1)) (18 + 3 * (t + 1)) Q (F0 m 485 ls [])) : W p l e room_1 s m #[Value.ref b] below meth c H locs (8 + t) (18 + 3 * t) Q (F0 m 415 ls []) := by
  refine lv_aload_n hx hb dL_law_415 rfl (lv_at hl 1 rfl) ?_
  refine lv_aload_n hx hb dL_law_416 rfl (lv_at hl 0 rfl) ?_
  refine lv_iload_n hx hb dL_law_417 rfl (lv_at hl 3 rfl) ?_
  refine lv_iconst (v := 1) hx hb dL_law_418 (by decide) ?_
  refine lv_iadd hx hb dL_law_419 ?_
  refine va_sld hx hb hX hbl (fun h => absurd hbl (Nat.not_lt.mpr h)) hS (lw_vin (k := 1) ht hL (by decide)) dL_law_420 ?_
  refine W.eq (g2 := F0 m 421 ls [.int (lw_x xs t 1), .ref h0]) rfl ?_
  refine pd_callV (W.runV (As := [.int (lw_x xs t 1)]) (rest := []) ⟨hx, hb, hml, hown, hts⟩ (mX0_all l D z cA H.size h0 ha g v (lw_x xs t 1)) (cwV 1 hts (lw_V q737 q738 q739 q7 q740) rfl rfl rfl (by decide +kernel) ⟨Nat.le_of_ble_eq_true rfl, Nat.le_of_ble_eq_true rfl⟩) (pdDk_pre 0 rfl hK hW.1 hF.2.1 hZ hS (lwF_D hF hS.1 (fun q h => h))) rfl rfl hl.1 rfl (lv_room (Nat.le_of_ble_eq_true rfl)) dL_law_421 ⟨by show _ ≤ 1200096; omega, by show _ ≤ 5501386; omega⟩) ?_
  refine W.eq (g2 := F0 m 424 ls [.long (pf_all (lw_x xs t 1) v)]) rfl ?_
  refine lv_aload_n hx hb dL_law_424 rfl (lv_at hl 2 rfl) ?_
  refine lv_aload_n hx hb dL_law_425 rfl (lv_at hl 0 rfl) ?_
  refine lv_iload_n hx hb dL_law_426 rfl (lv_at hl 3 rfl) ?_
  refine lv_iconst (v := 1) hx hb dL_law_427 (by decide) ?_
  refine lv_iadd hx hb dL_law_428 ?_
  refine va_sld hx hb hX hbl (fun h => absurd hbl (Nat.not_lt.mpr h)) hS (lw_vin (k := 1) ht hL (by decide)) dL_law_429 ?_
  refine W.eq (g2 := F0 m 430 ls [.int (lw_x xs t 1), .ref hm, .long (pf_all (lw_x xs t 1) v)]) rfl ?_
  refine pd_callV (W.runV (As := [.int (lw_x xs t 1)]) (rest := [.long (pf_all (lw_x xs t 1) v)]) ⟨hx, hb, hml, hown, hts⟩ (mX3_all l D c1 c2 c3 H.size hm a1 a2 a3 v (lw_x xs t 1)) (cwV 1 hts (lw_V q845 q821 q822 q10 q823) rfl rfl rfl (by decide +kernel) ⟨Nat.le_of_ble_eq_true rfl, Nat.le_of_ble_eq_true rfl⟩) (pdMd_pre [1, 2, 3] rfl hK hW.2.1 (hM _)) rfl rfl hl.1 rfl (lv_room (Nat.le_of_ble_eq_true rfl)) dL_law_430 ⟨by show _ ≤ 1200096; omega, by show _ ≤ 5501386; omega⟩) ?_
  refine W.eq (g2 := F0 m 433 ls [.long (pf_all (lw_x xs t 1) v), .long (pf_all (lw_x xs t 1) v)]) rfl ?_
  refine W.lcmp hx hb dL_law_433 ?_
  refine lv_if_eq (tgt := 485) hx hb dL_law_434 (by decide) (fun c_434 => ?_) (fun c_434 => ?_)
  · refine W.widen (k := 8 + (t + 1)) (n := 18 + 3 * (t + 1)) (by omega) (by omega) ?_
    exact kk _ _ _ _ hW hS
  · exact absurd ((lg_cmp_eq _ _).mpr rfl) c_434
set_option maxHeartbeats 4000000 in
set_option maxRecDepth 100000 in
/-- below -/
theorem law_12 {p : Program} {l : Launch} {e : Env} {s : State} {m : MethodId} {below : List Frame} {meth : Method} {c : Code} {D : va_G} {z : Nat} {cA c1 c2 c3 : ClassId} {h0 ha hm a1 a2 a3 b L : Nat} {xs : Nat → Int32} {Q : State → Prop} (hx : p.tables.exec = Jvm.exec) (hb : c.code = cL_law) (hml : c.maxLocals = 4) (hown : s.vm.findClass R_law = some m.cls) (hts : ∀ w ∈ lw_all, w.before #[Value.ref b] s = true) (hX : va_X b L xs s s.heap) (hbl : b < s.heap.size) (hL : L ≤ 288) (hK : va_K D pdCl [(cA, .object "Period"), (c1, .int), (c2, .int), (c3, .int)] s) (hZ : pdZ D z (lwA s) s) (hF : lwF (lwA s) h0 ha hm a1 a2 a3) (hM : ∀ v, va_D (fun _ => True) (pdMw c1 c2 c3 hm a1 a2 a3 v)) (t : Nat) (ht : 6 * t + 6 ≤ L) (v : pdS) (g : Nat → Nat) (H : Heap) (locs : List Loc) (hW : lwW D z cA c1 c2 c3 h0 ha hm a1 a2 a3 v v g H) (hS : va_S (lwA s) s.heap H locs) (ls : Array Slot) (hl : lv_has ls 4 [(0, .ref b), (1, .ref h0), (2, .ref hm), (3, .int (nI (6 * t)))]) (kk : ∀ (v' : pdS) (g' : Nat → Nat) (H1 : Heap) (locs1 : List Loc), lwW D z cA c1 c2 c3 h0 ha hm a1 a2 a3 v' v' g' H1 → va_S (lwA s) s.heap H1 locs1 → W p l e room_1 s m #[Value.ref b] below meth c H1 locs1 (8 + (t + 1)) (18 + 3 * (t + 1)) Q (F0 m 485 ls [])) : W p l e room_1 s m #[Value.ref b] below meth c H locs (8 + t) (18 + 3 * t) Q (F0 m 439 ls []) := by
  refine lv_aload_n hx hb dL_law_439 rfl (lv_at hl 1 rfl) ?_
  refine lv_aload_n hx hb dL_law_440 rfl (lv_at hl 0 rfl) ?_
  refine lv_iload_n hx hb dL_law_441 rfl (lv_at hl 3 rfl) ?_
  refine lv_iconst (v := 1) hx hb dL_law_442 (by decide) ?_
  refine lv_iadd hx hb dL_law_443 ?_
  refine va_sld hx hb hX hbl (fun h => absurd hbl (Nat.not_lt.mpr h)) hS (lw_vin (k := 1) ht hL (by decide)) dL_law_444 ?_
  refine W.eq (g2 := F0 m 445 ls [.int (lw_x xs t 1), .ref h0]) rfl ?_
  refine pd_callV (W.runV (As := [.int (lw_x xs t 1)]) (rest := []) ⟨hx, hb, hml, hown, hts⟩ (mX0_below l D z cA H.size h0 ha g v (lw_x xs t 1)) (cwV 1 hts (lw_V q742 q743 q744 q7 q745) rfl rfl rfl (by decide +kernel) ⟨Nat.le_of_ble_eq_true rfl, Nat.le_of_ble_eq_true rfl⟩) (pdDk_pre 0 rfl hK hW.1 hF.2.1 hZ hS (lwF_D hF hS.1 (fun q h => h))) rfl rfl hl.1 rfl (lv_room (Nat.le_of_ble_eq_true rfl)) dL_law_445 ⟨by show _ ≤ 1200096; omega, by show _ ≤ 5501386; omega⟩) ?_
  refine W.eq (g2 := F0 m 448 ls [.int (pf_below (lw_x xs t 1) v)]) rfl ?_
  refine lv_aload_n hx hb dL_law_448 rfl (lv_at hl 2 rfl) ?_
  refine lv_aload_n hx hb dL_law_449 rfl (lv_at hl 0 rfl) ?_
  refine lv_iload_n hx hb dL_law_450 rfl (lv_at hl 3 rfl) ?_
  refine lv_iconst (v := 1) hx hb dL_law_451 (by decide) ?_
  refine lv_iadd hx hb dL_law_452 ?_
  refine va_sld hx hb hX hbl (fun h => absurd hbl (Nat.not_lt.mpr h)) hS (lw_vin (k := 1) ht hL (by decide)) dL_law_453 ?_
  refine W.eq (g2 := F0 m 454 ls [.int (lw_x xs t 1), .ref hm, .int (pf_below (lw_x xs t 1) v)]) rfl ?_
  refine pd_callV (W.runV (As := [.int (lw_x xs t 1)]) (rest := [.int (pf_below (lw_x xs t 1) v)]) ⟨hx, hb, hml, hown, hts⟩ (mX3_below l D c1 c2 c3 H.size hm a1 a2 a3 v (lw_x xs t 1)) (cwV 1 hts (lw_V q846 q847 q848 q10 q849) rfl rfl rfl (by decide +kernel) ⟨Nat.le_of_ble_eq_true rfl, Nat.le_of_ble_eq_true rfl⟩) (pdMd_pre [1, 2, 3] rfl hK hW.2.1 (hM _)) rfl rfl hl.1 rfl (lv_room (Nat.le_of_ble_eq_true rfl)) dL_law_454 ⟨by show _ ≤ 1200096; omega, by show _ ≤ 5501386; omega⟩) ?_
  refine W.eq (g2 := F0 m 457 ls [.int (pf_below (lw_x xs t 1) v), .int (pf_below (lw_x xs t 1) v)]) rfl ?_
  refine lv_icmp_eq (tgt := 485) hx hb dL_law_457 (by decide) (fun c_457 => ?_) (fun c_457 => ?_)
  · refine W.widen (k := 8 + (t + 1)) (n := 18 + 3 * (t + 1)) (by omega) (by omega) ?_
    exact kk _ _ _ _ hW hS
  · exact absurd rfl c_457
set_option maxHeartbeats 4000000 in
set_option maxRecDepth 100000 in
/-- nought -/
theorem law_13 {p : Program} {l : Launch} {e : Env} {s : State} {m : MethodId} {below : List Frame} {meth : Method} {c : Code} {D : va_G} {z : Nat} {cA c1 c2 c3 : ClassId} {h0 ha hm a1 a2 a3 b L : Nat} {xs : Nat → Int32} {Q : State → Prop} (hx : p.tables.exec = Jvm.exec) (hb : c.code = cL_law) (hml : c.maxLocals = 4) (hown : s.vm.findClass R_law = some m.cls) (hts : ∀ w ∈ lw_all, w.before #[Value.ref b] s = true) (hX : va_X b L xs s s.heap) (hbl : b < s.heap.size) (hL : L ≤ 288) (hK : va_K D pdCl [(cA, .object "Period"), (c1, .int), (c2, .int), (c3, .int)] s) (hZ : pdZ D z (lwA s) s) (hF : lwF (lwA s) h0 ha hm a1 a2 a3) (hM : ∀ v, va_D (fun _ => True) (pdMw c1 c2 c3 hm a1 a2 a3 v)) (t : Nat) (ht : 6 * t + 6 ≤ L) (v : pdS) (g : Nat → Nat) (H : Heap) (locs : List Loc) (hW : lwW D z cA c1 c2 c3 h0 ha hm a1 a2 a3 v v g H) (hS : va_S (lwA s) s.heap H locs) (ls : Array Slot) (hl : lv_has ls 4 [(0, .ref b), (1, .ref h0), (2, .ref hm), (3, .int (nI (6 * t)))]) (kk : ∀ (v' : pdS) (g' : Nat → Nat) (H1 : Heap) (locs1 : List Loc), lwW D z cA c1 c2 c3 h0 ha hm a1 a2 a3 v' v' g' H1 → va_S (lwA s) s.heap H1 locs1 → W p l e room_1 s m #[Value.ref b] below meth c H1 locs1 (8 + (t + 1)) (18 + 3 * (t + 1)) Q (F0 m 485 ls [])) : W p l e room_1 s m #[Value.ref b] below meth c H locs (8 + t) (18 + 3 * t) Q (F0 m 462 ls []) := by
  refine lv_aload_n hx hb dL_law_462 rfl (lv_at hl 1 rfl) ?_
  refine lv_aload_n hx hb dL_law_463 rfl (lv_at hl 0 rfl) ?_
  refine lv_iload_n hx hb dL_law_464 rfl (lv_at hl 3 rfl) ?_
  refine lv_iconst (v := 1) hx hb dL_law_465 (by decide) ?_
  refine lv_iadd hx hb dL_law_466 ?_
  refine va_sld hx hb hX hbl (fun h => absurd hbl (Nat.not_lt.mpr h)) hS (lw_vin (k := 1) ht hL (by decide)) dL_law_467 ?_
  refine W.eq (g2 := F0 m 468 ls [.int (lw_x xs t 1), .ref h0]) rfl ?_
  refine pd_callV (W.runV (As := [.int (lw_x xs t 1)]) (rest := []) ⟨hx, hb, hml, hown, hts⟩ (mX0_nought l D z cA H.size h0 ha g v (lw_x xs t 1)) (cwV 1 hts (lw_V q750 q751 q752 q7 q753) rfl rfl rfl (by decide +kernel) ⟨Nat.le_of_ble_eq_true rfl, Nat.le_of_ble_eq_true rfl⟩) (pdDk_pre 0 rfl hK hW.1 hF.2.1 hZ hS (lwF_D hF hS.1 (fun q h => h))) rfl rfl hl.1 rfl (lv_room (Nat.le_of_ble_eq_true rfl)) dL_law_468 ⟨by show _ ≤ 1200096; omega, by show _ ≤ 5501386; omega⟩) ?_
  refine W.eq (g2 := F0 m 471 ls [.int (pf_nought (lw_x xs t 1) v)]) rfl ?_
  refine lv_aload_n hx hb dL_law_471 rfl (lv_at hl 2 rfl) ?_
  refine lv_aload_n hx hb dL_law_472 rfl (lv_at hl 0 rfl) ?_
  refine lv_iload_n hx hb dL_law_473 rfl (lv_at hl 3 rfl) ?_
  refine lv_iconst (v := 1) hx hb dL_law_474 (by decide) ?_
  refine lv_iadd hx hb dL_law_475 ?_
  refine va_sld hx hb hX hbl (fun h => absurd hbl (Nat.not_lt.mpr h)) hS (lw_vin (k := 1) ht hL (by decide)) dL_law_476 ?_
  refine W.eq (g2 := F0 m 477 ls [.int (lw_x xs t 1), .ref hm, .int (pf_nought (lw_x xs t 1) v)]) rfl ?_
  refine pd_callV (W.runV (As := [.int (lw_x xs t 1)]) (rest := [.int (pf_nought (lw_x xs t 1) v)]) ⟨hx, hb, hml, hown, hts⟩ (mX3_nought l D c1 c2 c3 H.size hm a1 a2 a3 v (lw_x xs t 1)) (cwV 1 hts (lw_V q850 q851 q852 q10 q853) rfl rfl rfl (by decide +kernel) ⟨Nat.le_of_ble_eq_true rfl, Nat.le_of_ble_eq_true rfl⟩) (pdMd_pre [1, 2, 3] rfl hK hW.2.1 (hM _)) rfl rfl hl.1 rfl (lv_room (Nat.le_of_ble_eq_true rfl)) dL_law_477 ⟨by show _ ≤ 1200096; omega, by show _ ≤ 5501386; omega⟩) ?_
  refine W.eq (g2 := F0 m 480 ls [.int (pf_nought (lw_x xs t 1) v), .int (pf_nought (lw_x xs t 1) v)]) rfl ?_
  refine lv_icmp_eq (tgt := 485) hx hb dL_law_480 (by decide) (fun c_480 => ?_) (fun c_480 => ?_)
  · refine W.widen (k := 8 + (t + 1)) (n := 18 + 3 * (t + 1)) (by omega) (by omega) ?_
    exact kk _ _ _ _ hW hS
  · exact absurd rfl c_480
end
section
/-! the law's loop, and its start -/
set_option maxHeartbeats 4000000 in
set_option maxRecDepth 100000 in
/-- the loop at its head: t calls done, desk and reference in one state -/
theorem law_loop {p : Program} {l : Launch} {e : Env} {s : State} {m : MethodId} {below : List Frame} {meth : Method} {c : Code} {D : va_G} {z : Nat} {cA c1 c2 c3 : ClassId} {h0 ha hm a1 a2 a3 b L : Nat} {xs : Nat → Int32} (hx : p.tables.exec = Jvm.exec) (hb : c.code = cL_law) (hml : c.maxLocals = 4) (hown : s.vm.findClass R_law = some m.cls) (hts : ∀ w ∈ lw_all, w.before #[Value.ref b] s = true) (hX : va_X b L xs s s.heap) (hbl : b < s.heap.size) (hL : L ≤ 288) (hK : va_K D pdCl [(cA, .object "Period"), (c1, .int), (c2, .int), (c3, .int)] s) (hZ : pdZ D z (lwA s) s) (hF : lwF (lwA s) h0 ha hm a1 a2 a3) (hM : ∀ v, va_D (fun _ => True) (pdMw c1 c2 c3 hm a1 a2 a3 v)) (hr : meth.sig.returnType = ret) (hlocks : meth.locks = false) : ∀ (n t : Nat), 6 * t ≤ L → L < 6 * t + 6 * n → ∀ (v : pdS) (g : Nat → Nat) (H : Heap) (locs : List Loc), lwW D z cA c1 c2 c3 h0 ha hm a1 a2 a3 v v g H → va_S (lwA s) s.heap H locs → ∀ (ls : Array Slot), lv_has ls 4 [(0, .ref b), (1, .ref h0), (2, .ref hm), (3, .int (nI (6 * t)))] → W p l e room_1 s m #[Value.ref b] below meth c H locs (8 + t) (18 + 3 * t) (lw_Z below #[Value.ref b] s) (F0 m 18 ls []) := by
  intro n
  induction n with
  | zero =>
    intro t h1 h2
    exact absurd h2 (by omega)
  | succ n ih =>
    intro t h1 h2 v g H locs hW hS ls hl
    refine lv_iload_n hx hb dL_law_18 rfl (lv_at hl 3 rfl) ?_
    refine lv_aload_n hx hb dL_law_19 rfl (lv_at hl 0 rfl) ?_
    refine va_slen hx hb hX hbl (fun h => absurd hbl (Nat.not_lt.mpr h)) hS dL_law_20 ?_
    refine lv_bipush (v := 6) hx hb dL_law_21 (by decide) ?_
    refine lv_isub hx hb dL_law_23 ?_
    refine lv_icmp_gt (tgt := 491) hx hb dL_law_24 (by decide) (fun c_24 => ?_) (fun c_24 => ?_)
    · refine lv_iconst (v := 1) hx hb dL_law_491 (by decide) ?_
      refine va_forget (fun q hq => hS.2.2 q hq) ?_
      refine W.widen (k := 1200096) (n := 5501386) (by omega) (by omega) ?_
      exact lw_ret hx hb hr hlocks dL_law_492
    · have ht : 6 * t + 6 ≤ L := Nat.not_lt.mp (fun h => c_24 ((lw_head hL h1).mpr h))
      refine lv_aload_n hx hb dL_law_27 rfl (lv_at hl 0 rfl) ?_
      refine lv_iload_n hx hb dL_law_28 rfl (lv_at hl 3 rfl) ?_
      refine va_sld hx hb hX hbl (fun h => absurd hbl (Nat.not_lt.mpr h)) hS (vp_in_nI (by omega) (by omega)) dL_law_29 ?_
      refine lv_bipush (v := 15) hx hb dL_law_30 (by decide) ?_
      refine lv_iand hx hb dL_law_32 ?_
      refine lv_topi (fun sw esw => ?_)
      have kk : ∀ (v' : pdS) (g' : Nat → Nat) (H1 : Heap) (locs1 : List Loc), lwW D z cA c1 c2 c3 h0 ha hm a1 a2 a3 v' v' g' H1 → va_S (lwA s) s.heap H1 locs1 → W p l e room_1 s m #[Value.ref b] below meth c H1 locs1 (8 + (t + 1)) (18 + 3 * (t + 1)) (lw_Z below #[Value.ref b] s) (F0 m 485 ls []) := by
        intro v' g' H1 locs1 hW hS
        refine lv_iinc (v := nI (6 * (t + 1))) (lv' := [(3, .int (nI (6 * (t + 1)))), (0, .ref b), (1, .ref h0), (2, .ref hm)]) hx hb dL_law_485 hl (k := 3) rfl (lw_next t) (by decide) rfl (fun ls hl => ?_)
        refine lv_goto (tgt := 18) hx hb dL_law_488 (by decide) ?_
        exact ih (t + 1) (by omega) (by omega) v' g' H1 locs1 hW hS ls (lv_sub hl [1, 2, 3, 0] rfl)
      obtain ⟨j, hj, ej⟩ := pk_andE (xs (nI (6 * t)).toNatClampNeg) (m := 15) 4 (by decide)
      have esw2 : sw = nI j := esw.trans ej
      subst esw2
      rcases lw_16 hj with rfl | rfl | rfl | rfl | rfl | rfl | rfl | rfl | rfl | rfl | rfl | rfl | rfl | rfl | rfl | rfl
      · refine lv_tableIn (off := 71) (tgt := 104) hx hb dL_law_33 (by decide) (by decide) (by decide) (by decide) ?_
        exact law_0 hx hb hml hown hts hX hbl hL hK hZ hF hM t ht v g H locs hW hS ls hl kk
      · refine lv_tableIn (off := 122) (tgt := 155) hx hb dL_law_33 (by decide) (by decide) (by decide) (by decide) ?_
        exact law_1 hx hb hml hown hts hX hbl hL hK hZ hF hM t ht v g H locs hW hS ls hl kk
      · refine lv_tableIn (off := 145) (tgt := 178) hx hb dL_law_33 (by decide) (by decide) (by decide) (by decide) ?_
        exact law_2 hx hb hml hown hts hX hbl hL hK hZ hF hM t ht v g H locs hW hS ls hl kk
      · refine lv_tableIn (off := 168) (tgt := 201) hx hb dL_law_33 (by decide) (by decide) (by decide) (by decide) ?_
        exact law_3 hx hb hml hown hts hX hbl hL hK hZ hF hM t ht v g H locs hW hS ls hl kk
      · refine lv_tableIn (off := 201) (tgt := 234) hx hb dL_law_33 (by decide) (by decide) (by decide) (by decide) ?_
        exact law_4 hx hb hml hown hts hX hbl hL hK hZ hF hM t ht v g H locs hW hS ls hl kk
      · refine lv_tableIn (off := 224) (tgt := 257) hx hb dL_law_33 (by decide) (by decide) (by decide) (by decide) ?_
        exact law_5 hx hb hml hown hts hX hbl hL hK hZ hF hM t ht v g H locs hW hS ls hl kk
      · refine lv_tableIn (off := 247) (tgt := 280) hx hb dL_law_33 (by decide) (by decide) (by decide) (by decide) ?_
        exact law_6 hx hb hml hown hts hX hbl hL hK hZ hF hM t ht v g H locs hW hS ls hl kk
      · refine lv_tableIn (off := 280) (tgt := 313) hx hb dL_law_33 (by decide) (by decide) (by decide) (by decide) ?_
        exact law_7 hx hb hml hown hts hX hbl hL hK hZ hF hM t ht v g H locs hW hS ls hl kk
      · refine lv_tableIn (off := 313) (tgt := 346) hx hb dL_law_33 (by decide) (by decide) (by decide) (by decide) ?_
        exact law_8 hx hb hml hown hts hX hbl hL hK hZ hF hM t ht v g H locs hW hS ls hl kk
      · refine lv_tableIn (off := 336) (tgt := 369) hx hb dL_law_33 (by decide) (by decide) (by decide) (by decide) ?_
        exact law_9 hx hb hml hown hts hX hbl hL hK hZ hF hM t ht v g H locs hW hS ls hl kk
      · refine lv_tableIn (off := 359) (tgt := 392) hx hb dL_law_33 (by decide) (by decide) (by decide) (by decide) ?_
        exact law_10 hx hb hml hown hts hX hbl hL hK hZ hF hM t ht v g H locs hW hS ls hl kk
      · refine lv_tableIn (off := 382) (tgt := 415) hx hb dL_law_33 (by decide) (by decide) (by decide) (by decide) ?_
        exact law_11 hx hb hml hown hts hX hbl hL hK hZ hF hM t ht v g H locs hW hS ls hl kk
      · refine lv_tableIn (off := 406) (tgt := 439) hx hb dL_law_33 (by decide) (by decide) (by decide) (by decide) ?_
        exact law_12 hx hb hml hown hts hX hbl hL hK hZ hF hM t ht v g H locs hW hS ls hl kk
      · refine lv_tableIn (off := 429) (tgt := 462) hx hb dL_law_33 (by decide) (by decide) (by decide) (by decide) ?_
        exact law_13 hx hb hml hown hts hX hbl hL hK hZ hF hM t ht v g H locs hW hS ls hl kk
      · refine lv_tableOut (tgt := 485) hx hb dL_law_33 (by decide) (by decide) ?_
        refine W.widen (k := 8 + (t + 1)) (n := 18 + 3 * (t + 1)) (by omega) (by omega) ?_
        exact kk v g H locs hW hS
      · refine lv_tableOut (tgt := 485) hx hb dL_law_33 (by decide) (by decide) ?_
        refine W.widen (k := 8 + (t + 1)) (n := 18 + 3 * (t + 1)) (by omega) (by omega) ?_
        exact kk v g H locs hW hS
/-- the constant ZERO at the start -/
theorem pd_zero {s : State} {b : Nat} {dC : Nat → ClassId} {dI : Nat → Nat → Nat} (hts : ∀ w ∈ lw_tbl, w.before #[Value.ref b] s = true) (hgv : (Jvm.Cond.and given_1 narrow_1).before #[Value.ref b] s = true) (hKn : u_Kn s RX2 TX2 3 (dC 1) (dI 1)) : ∃ z, pdZ (dC, dI) z (lwA s) s := by
  have hs := flat_of_before _ hgv
  have hex : (Cond.exactly (.static "Period" "ZERO" "LPeriod;") "Period").before #[Value.ref b] s = true := hs _ (by decide +kernel)
  have hun : (Cond.untouched (.static "Period" "ZERO" "LPeriod;")).before #[Value.ref b] s = true := hs _ (by decide +kernel)
  have hy : (Cond.eq (.field (.static "Period" "ZERO" "LPeriod;") "Period" "years" "I") (.int 0)).before #[Value.ref b] s = true := hs _ (by decide +kernel)
  have hm : (Cond.eq (.field (.static "Period" "ZERO" "LPeriod;") "Period" "months" "I") (.int 0)).before #[Value.ref b] s = true := hs _ (by decide +kernel)
  have hd : (Cond.eq (.field (.static "Period" "ZERO" "LPeriod;") "Period" "days" "I") (.int 0)).before #[Value.ref b] s = true := hs _ (by decide +kernel)
  obtain ⟨z, cC, cell, kC, q1, q2, q3, q4, q5, q6, -⟩ := Cond.exactly_spec hex
  obtain ⟨z2, cell2, r1, r2, -, -, r5⟩ := Cond.untouched_spec hun
  cases q1.symm.trans r1
  cases q3.symm.trans r2
  have hA : ∀ a : Nat, a < s.heap.size → ¬ lwA s a := fun a h1 h2 => absurd h1 (Nat.not_lt.mpr h2)
  have hcls : cell.cls = dC 1 := by
    have h9 : s.vm.findClass "Period" = some (dC 1) := hKn.2.1
    rw [q6]
    exact Option.some.inj (q2.symm.trans h9)
  have slot : ∀ (n : String) (i : Nat), SlotIs s "Period" n "I" i → (Cond.eq (.field (.static "Period" "ZERO" "LPeriod;") "Period" n "I") (.int 0)).before #[Value.ref b] s = true → cell.slots[i]? = some (.int 0) := by
    intro n i hi h
    obtain ⟨cf, kf, fi, fd, g1, g2⟩ := hi
    obtain ⟨-, cell3, g3, -, -, -, g7⟩ := Term.field_spec g1 q1 (va_eqt h)
    cases q3.symm.trans g3
    rw [← g2]
    exact g7
  refine ⟨z, va_Zof (hts _ q61) (hts _ (lw_all_tbl q9)) q1 hA, fun k q hk => ?_, hA z (Array.getElem?_eq_some_iff.mp q3).1⟩
  match k, hk with
  | 0, hk =>
    cases hk
    refine ⟨(RX2, TX2, 3), rfl, cell, q3, hcls, r5, fun k hk => ?_⟩
    rcases (show k = 0 ∨ k = 1 ∨ k = 2 by have h9 : k < 3 := hk; omega) with rfl | rfl | rfl
    · exact slot "years" _ (hKn.1 0 (by decide)) hy
    · exact slot "months" _ (hKn.1 1 (by decide)) hm
    · exact slot "days" _ (hKn.1 2 (by decide)) hd
  | k + 1, hk => simp at hk
theorem pd_known {s : State} {b : Nat} (hts : ∀ w ∈ lw_tbl, w.before #[Value.ref b] s = true) : ∃ (dC : Nat → ClassId) (dI : Nat → Nat → Nat), u_Kn s RX0 TX0 1 (dC 0) (dI 0) ∧ u_Kn s RX2 TX2 3 (dC 1) (dI 1) ∧ u_Kn s RX3 TX3 3 (dC 2) (dI 2) := by
  obtain ⟨e0, i0, h0⟩ := u_known (C := RX0) (T := TX0) (N := 1) (n := 1) hts (fun w h => lw_all_tbl (in_X0 w h)) (hts _ (lw_all_tbl q45))
  obtain ⟨e1, i1, h1⟩ := u_known (C := RX2) (T := TX2) (N := 3) (n := 3) hts (fun w h => lw_all_tbl (in_X2 w h)) (hts _ (lw_all_tbl q63))
  obtain ⟨e2, i2, h2⟩ := u_known (C := RX3) (T := TX3) (N := 3) (n := 3) hts (fun w h => lw_all_tbl (in_X3 w h)) (hts _ (lw_all_tbl q759))
  exact ⟨fun k => if k = 0 then e0 else if k = 1 then e1 else e2, fun k => if k = 0 then i0 else if k = 1 then i1 else i2, h0, h1, h2⟩
theorem pdMw_D {A : Nat → Prop} {c1 c2 c3 : ClassId} {hm a1 a2 a3 : Nat} {v : pdS} (h : va_D A (pdMw c1 c2 c3 hm a1 a2 a3 v)) (v' : pdS) : va_D (fun _ => True) (pdMw c1 c2 c3 hm a1 a2 a3 v') := by
  refine ⟨fun i j p q hi hj e => ?_, fun _ _ _ => trivial⟩
  have f : ∀ (i : Nat) (p : Nat × va_E), (pdMw c1 c2 c3 hm a1 a2 a3 v')[i]? = some p → ∃ p' : Nat × va_E, (pdMw c1 c2 c3 hm a1 a2 a3 v)[i]? = some p' ∧ p'.1 = p.1 := by
    intro i p hi
    match i, hi with
    | 0, hi => cases hi; exact ⟨_, rfl, rfl⟩
    | 1, hi => cases hi; exact ⟨_, rfl, rfl⟩
    | 2, hi => cases hi; exact ⟨_, rfl, rfl⟩
    | 3, hi => cases hi; exact ⟨_, rfl, rfl⟩
    | i + 4, hi => simp at hi
  obtain ⟨p', h1, e1⟩ := f i p hi
  obtain ⟨q', h2, e2⟩ := f j q hj
  exact h.1 i j p' q' h1 h2 (by rw [e1, e2, e])
set_option maxHeartbeats 4000000 in
set_option maxRecDepth 100000 in
/-- from the entry, for every script of at most 288 ints, the law comes to its end with true ('hflags': the launch's flags, for a law that throws: no stack traces) -/
theorem whole_start {p : Program} {e : Env} {s : State} {m : MethodId} {below : List Frame} {meth : Method} {c : Code} (l : Launch) (hflags : l.flags = flags0) {b L : Nat} {xs : Nat → Int32} (hL : L ≤ 288) (C0 : lw_At p s m meth c b L xs) : W p l e room_1 s m #[Value.ref b] below meth c s.heap [] 0 0 (lw_Z below #[Value.ref b] s) (entryFrame m ([Value.ref b] : List Value).toArray 4) := by
  obtain ⟨hx, hb, hr, hml, hown, hts0, hX, hbl, hlocks, hgv⟩ := C0
  have hts : ∀ w ∈ lw_all, w.before #[Value.ref b] s = true := fun w h => hts0 w (lw_all_tbl h)
  obtain ⟨dC, dI, hk0, hk1, hk2⟩ := pd_known hts0
  obtain ⟨z, hZ⟩ := pd_zero hts0 hgv hk1
  generalize hDe : ((dC, dI) : va_G) = D at hZ
  have hK : va_K D pdCl [] s := by
    rw [← hDe]
    refine ⟨fun k q hq => ?_, fun k q h => by simp at h⟩
    match k, hq with
    | 0, hq => cases hq; exact hk0
    | 1, hq => cases hq; exact hk1
    | 2, hq => cases hq; exact hk2
    | k + 3, hq => simp [pdCl] at hq
  have hO : va_AO "Period" s := va_AO.of (hts0 _ q53)
  have hA : ∀ q : Nat, s.heap.size ≤ q → lwA s q := fun q h => h
  have hS : va_S (lwA s) s.heap s.heap [] := va_S.rf
  have hP : va_P D pdCl [] s.heap := fun k q h => by simp at h
  have hD : va_D (lwA s) [] := ⟨fun i j p q h => by simp at h, fun k q h => by simp at h⟩
  have hl := lv_entry ([.ref b]) (n := 4) (Nat.le_of_ble_eq_true rfl)
  rw [lg_entry_eq]
  generalize (lg_sl ([.ref b]) ++ List.replicate (4 - (lg_sl ([.ref b])).length) Slot.unset).toArray = ls at hl ⊢
  have hl : lv_has ls 4 [(0, .ref b)] := hl
  refine va_new (ci := 0) (fs := [.null]) (C := RX0) (T := TX0) (N := 1) hx hb hts in_X0 tyX0 tyX0_ok hown (hts _ q44) (hts _ q45) (hts _ q7) hK hP hD hS hA rfl (fun j hj => by rcases (show j = 0 by omega) with rfl; rfl) (Nat.le_of_ble_eq_true rfl) (Nat.le_of_ble_eq_true rfl) dL_law_0 (fun h0 H hP hD hS => ?_)
  have hP : va_P D pdCl [(h0, .inr (0, [.null]))] H := hP
  have hf : ∀ q, pdA1 h0 H.size q → lwA s q := fun q h => by
    rcases h with h | h
    · rw [h]; exact hD.2 0 _ rfl
    · exact Nat.le_trans hS.1 h
  refine lv_dup hx hb dL_law_3 rfl ?_
  refine va_callv (va_runI (As := []) (rest := [.ref h0]) ⟨hx, hb, hml, hown, hts⟩ (mX0_init l D z H.size h0) (cwI 0 hts (lw_meth q48) rfl rfl rfl (hts _ q7) (hts _ q46) (hts _ q47) rfl (by decide +kernel) ⟨Nat.le_of_ble_eq_true rfl, Nat.le_of_ble_eq_true rfl⟩) (pdDz_preS hK hP hZ hS hf hO) rfl rfl hl.1 rfl (lv_room (Nat.le_of_ble_eq_true rfl)) dL_law_4 ⟨Nat.le_of_ble_eq_true rfl, Nat.le_of_ble_eq_true rfl⟩) hS (fun q _ h => hf q h) hf (fun u t H locs ht hvm hw hB hz1 hk9 hS => ?_)
  refine W.eq (g2 := F0 m 7 ls [.ref h0]) rfl ?_
  obtain ⟨cA, ha⟩ := u
  obtain ⟨hK1, hW1, hD1, hz9⟩ := hB
  rw [ht] at hW1
  have hK : va_K D pdCl [(cA, .object "Period")] s := va_K.moved hvm.symm hK1
  have hP : va_P D pdCl (pdDw cA h0 ha (fun _ => z)) H := hW1.1
  have hD : va_D (lwA s) (pdDw cA h0 ha (fun _ => z)) := hD1.weaken (fun k q _ h => hf _ h)
  refine lv_astore_n (lv' := [(1, .ref h0), (0, .ref b)]) hx hb dL_law_7 rfl hl (by decide) rfl (fun ls hl => ?_)
  refine va_new (ci := 2) (fs := [.null, .null, .null]) (C := RX3) (T := TX3) (N := 3) hx hb hts in_X3 tyX3 tyX3_ok hown (hts _ q758) (hts _ q759) (hts _ q10) hK hP hD hS hA rfl (fun j hj => by rcases (show j = 0 ∨ j = 1 ∨ j = 2 by omega) with rfl | rfl | rfl <;> rfl) (Nat.le_of_ble_eq_true rfl) (Nat.le_of_ble_eq_true rfl) dL_law_8 (fun hm H hP hD hS => ?_)
  have hP : va_P D pdCl [(h0, .inr (0, [.ref ha])), (ha, .inl (cA, 2, .inr (.inr (.inr (.inr (fun j => some ((fun _ => z) j))))))), (hm, .inr (2, [.null, .null, .null]))] H := hP
  have hf : ∀ q, pdA1 hm H.size q → lwA s q := fun q h => by
    rcases h with h | h
    · rw [h]; exact hD.2 2 _ rfl
    · exact Nat.le_trans hS.1 h
  have l0 : h0 < H.size := (hP 0 _ rfl).lt
  have l1 : ha < H.size := (hP 1 _ rfl).lt
  have l2 : hm < H.size := (hP 2 _ rfl).lt
  have n01 : h0 ≠ ha := fun h => absurd (hD.1 0 1 _ _ rfl rfl h) (by decide)
  have n20 : hm ≠ h0 := fun h => absurd (hD.1 2 0 _ _ rfl rfl h) (by decide)
  have n21 : hm ≠ ha := fun h => absurd (hD.1 2 1 _ _ rfl rfl h) (by decide)
  have A0 : lwA s h0 := hD.2 0 _ rfl
  have A1 : lwA s ha := hD.2 1 _ rfl
  have A2 : lwA s hm := hD.2 2 _ rfl
  refine lv_dup hx hb dL_law_11 rfl ?_
  refine va_callv (va_runI (As := []) (rest := [.ref hm]) ⟨hx, hb, hml, hown, hts⟩ (mX3_init l D H.size hm) (cwI 0 hts (lw_meth q762) rfl rfl rfl (hts _ q10) (hts _ q760) (hts _ q761) rfl (by decide +kernel) ⟨Nat.le_of_ble_eq_true rfl, Nat.le_of_ble_eq_true rfl⟩) (pdNw_preS hK (hP.sub (ws' := [(hm, .inr (2, [.null, .null, .null]))]) [2] rfl)) rfl rfl hl.1 rfl (lv_room (Nat.le_of_ble_eq_true rfl)) dL_law_12 ⟨Nat.le_of_ble_eq_true rfl, Nat.le_of_ble_eq_true rfl⟩) hS (fun q _ h => hf q h) hf (fun u t H1 locs ht hvm hw hB hz1 hk9 hS => ?_)
  refine W.eq (g2 := F0 m 15 ls [.ref hm]) rfl ?_
  obtain ⟨c1, c2, c3, a1, a2, a3⟩ := u
  obtain ⟨hK1, hPm, hDm⟩ := hB
  rw [ht] at hPm
  have hK : va_K D pdCl [(cA, .object "Period"), (c1, .int), (c2, .int), (c3, .int)] s := hK.app (va_K.moved hvm.symm hK1)
  have key : ∀ q : Nat, q < H.size → q ≠ hm → H1[q]? = H[q]? := fun q hq hn => hk9 q hq (fun h => by
    rcases h with h | h
    · exact hn h
    · omega)
  have B1 : H.size ≤ a1 := by
    have h9 : pdA1 hm H.size a1 := hDm.2 1 _ rfl
    rcases h9 with h | h
    · exact absurd (hDm.1 1 0 _ _ rfl rfl h) (by decide)
    · exact h
  have B2 : H.size ≤ a2 := by
    have h9 : pdA1 hm H.size a2 := hDm.2 2 _ rfl
    rcases h9 with h | h
    · exact absurd (hDm.1 2 0 _ _ rfl rfl h) (by decide)
    · exact h
  have B3 : H.size ≤ a3 := by
    have h9 : pdA1 hm H.size a3 := hDm.2 3 _ rfl
    rcases h9 with h | h
    · exact absurd (hDm.1 3 0 _ _ rfl rfl h) (by decide)
    · exact h
  have hsz : s.heap.size ≤ H.size := Nat.le_trans A0 (Nat.le_of_lt l0)
  have hF : lwF (lwA s) h0 ha hm a1 a2 a3 := ⟨⟨A0, A1, A2, Nat.le_trans hsz B1, Nat.le_trans hsz B2, Nat.le_trans hsz B3⟩, n01, ⟨n20, n21⟩, ⟨by omega, by omega⟩, ⟨by omega, by omega⟩, ⟨by omega, by omega⟩⟩
  have hM : ∀ v, va_D (fun _ => True) (pdMw c1 c2 c3 hm a1 a2 a3 v) := fun v => pdMw_D hDm v
  have hz0 : ¬ lwA s z := hZ.2.2
  have hW : lwW D z cA c1 c2 c3 h0 ha hm a1 a2 a3 pd_v0 pd_v0 (fun _ => z) H1 := by
    refine ⟨⟨pd_P2 ((hP 0 _ rfl).kept (key _ l0 (Ne.symm n20))) ((hP 1 _ rfl).kept (key _ l1 (Ne.symm n21))), fun j hj => ⟨pdPer_S (pdZ_per hZ) hz0 hS, fun (e : z = h0) => hz0 (by rw [e]; exact A0), fun (e : z = ha) => hz0 (by rw [e]; exact A1)⟩⟩, hPm, fun j hj (h : z = hm ∨ z = a1 ∨ z = a2 ∨ z = a3) => ?_⟩
    have hzl : z < s.heap.size := Nat.not_le.mp hz0
    have A2n : s.heap.size ≤ hm := A2
    omega
  refine lv_astore_n (lv' := [(2, .ref hm), (1, .ref h0), (0, .ref b)]) hx hb dL_law_15 rfl hl (by decide) rfl (fun ls hl => ?_)
  refine lv_iconst (v := 0) hx hb dL_law_16 (by decide) ?_
  refine lv_istore_n (lv' := [(3, .int 0), (2, .ref hm), (1, .ref h0), (0, .ref b)]) hx hb dL_law_17 rfl hl (by decide) rfl (fun ls hl => ?_)
  exact law_loop hx hb hml hown hts hX hbl hL hK hZ hF hM hr hlocks (L + 1) 0 (Nat.zero_le _) (by omega) pd_v0 (fun _ => z) H1 locs hW hS ls (lv_sub hl [3, 2, 1, 0] rfl)
end
section
set_option maxHeartbeats 4000000 in
theorem lw_walk (l : Launch) (hflags : l.flags = flags0) (b : Addr) (xs : List Int32) : MetFree l x (headSpec (Jvm.Cond.code x code maxLocals ret :: tables_1) room_1) (lw_P b xs) (fun _ _ _ _ _ => True) lw_Q := by
  refine MetFree.of_bodyS (code := code) (maxLocals := maxLocals) (ret := ret) (by decide) ?_ ?_
  · intro args s m h hn
    obtain ⟨meth, c, h1, h2, h3, h4, h5, h6, -, -⟩ := Cond.code_spec hn (atoms_spec (ws := Jvm.Cond.code x code maxLocals ret :: tables_1) h _ List.mem_cons_self)
    exact ⟨meth, c, h1, h2, h3, h4, h5, h6⟩
  · intro p e s m args below meth c s₁ B hml0 hP _
    obtain ⟨rfl, hx, hbd, hgv⟩ := hP
    obtain ⟨scr, harrAt, hlist, hof, hsmall⟩ := hx
    obtain ⟨hcb, hkn, -, -⟩ := State.arrayAt?_spec harrAt
    have hown : s.vm.findClass R_law = some m.cls := findClass_of_methodNamed B.named
    have hts0 : ∀ c ∈ (Jvm.Cond.code x code maxLocals ret :: tables_1), c.before #[Value.ref b] s = true := atoms_spec (ws := Jvm.Cond.code x code maxLocals ret :: tables_1) B.pre
    have hts : ∀ w ∈ lw_tbl, w.before #[Value.ref b] s = true := k2_hts_sels lw_privs (fun w hw => hts0 w (List.mem_cons_of_mem _ hw)) lw_privs_ok
    have hml : c.maxLocals = 4 := B.maxLocals_eq (hts0 _ List.mem_cons_self)
    have X₀ : Stand p l e room_1 s m #[Value.ref b] below meth c s₁ [] 0 0 := Stand.of_body B
    have hh0 : s₁.heap = s.heap := by rw [B.state]; rfl
    have hsz : scr.slots.size = xs.length := by rw [← Array.length_toList, hlist, List.length_map]
    have hval : ∀ j : Nat, j < xs.length → scr.slots[j]? = some (.int (xs.getD j 0)) := fun j hj => by
      rw [← Array.getElem?_toList, hlist]
      simp [hj]
    have hbl : b < s.heap.size := (Array.getElem?_eq_some_iff.mp hcb).1
    have hX : va_X b xs.length (fun j => xs.getD j 0) s s.heap := ⟨scr, hcb, hof, hkn, hsz, hval⟩
    have K : W p l e room_1 s m #[Value.ref b] below meth c s₁.heap [] 0 0 (lw_Z below #[Value.ref b] s) (entryFrame m ([Value.ref b] : List Value).toArray 4) := by
      rw [hh0]
      exact whole_start l hflags hbd ⟨B.exec, B.bytes, B.returns, hml, hown, hts, hX, hbl, B.notSynchronized, hgv⟩
    obtain ⟨t, a1, o, b1, b2, b3⟩ := K s₁ rfl X₀
    exact ⟨t, o, a1, b1, b2, b3⟩
theorem lw_pre_spec {args : Array Value} {s : State} (h : (Jvm.Cond.and given_1 narrow_1).before args s = true) (hr : rest_1_c.before args s = true) : ∃ (b : Addr) (xs : List Int32), lw_P b xs args s := by
  have hs := flat_of_before _ h
  have hq := flat_of_before _ hr
  have hc : (Cond.count 1).before args s = true := hs _ (by decide +kernel)
  have harr : (Cond.arrayOf (.arg 0) .int).before args s = true := hs _ (by decide +kernel)
  have hle : (Cond.le (.length (.arg 0)) (.int 288)).before args s = true := hs _ (by decide +kernel)
  have hlen : (Cond.isInt (.length (.arg 0))).before args s = true := hq _ (by decide +kernel)
  have hall : (Cond.all (.arg 0) (.isInt (.elem (.arg 0) (.index 0)))).before args s = true := hq _ (by decide +kernel)
  obtain ⟨b, xs, hb, hx⟩ := State.ints_of_pre rfl harr hlen hall
  have hsm : xs.length < 2 ^ 31 := hx.choose_spec.2.2.2
  have hev : (Term.length (.arg 0)).eval args s none [] s = some (.int xs.length.toInt32) := hx.length_eval hb
  have hv := Cond.le_ints hev (show (Term.int 288).eval args s none [] s = some (.int 288) from rfl)
  have hd : xs.length.toInt32 ≤ 288 := by
    simpa [Cond.before, Cond.holds, hv] using hle
  have hN : xs.length ≤ 288 := (Int32.ofNat_le_ofNat hsm (by decide)).mp (show Int32.ofNat xs.length ≤ Int32.ofNat 288 from hd)
  exact ⟨b, xs, Cond.one_arg hc (show args[0]? = some (.ref b) from hb), hx, hN, h⟩
theorem lw_comes (l : Launch) (hflags : l.flags = flags0) : Comes l x (Jvm.Cond.code x code maxLocals ret :: tables_1) room_1 (fun tb e args s => Calls_1 tb e args s ∧ rest_1 tb e args s ∧ Pre_1 tb e args s)
    (fun _ _ args s o t => lw_Q args s o t) := by
  intro p e ha hc hk s m args below hf hfit hheap happ hpre
  obtain ⟨b, xs, hP⟩ := lw_pre_spec hpre.2.2 hpre.2.1
  obtain ⟨k, o, h1, h2, h3, hQ⟩ := lw_walk l hflags b xs p e ha hc hk s m args below hf ((Spec.applies_iff_loose hf).mp happ).1 hP trivial
  exact ⟨k, o, h1, h2, h3, hQ⟩
theorem lw_frame {s t : State} {o : Outcome} {args : Array Value} (h : Framed s o t [] 1200096 5501386) :
    Framed s o t (fieldLocs frame_1_writes args s ++ arrayLocs frame_1_arrays args s ++ staticLocs frame_1_statics s) 1200096 5501386 := h
theorem lw_limb (L : Cond) (hL : ∀ (args : Array Value) (s t : State), L.after args s (.returned (some (.int 1))) t = true) :
    ArmFor flags0 classFile x code maxLocals ret World_1 tables_1 room_1 Calls_1 rest_1 Pre_1
      (fun tb e a s o t => postC L tb e a s o t ∧ Framed s o t (fieldLocs frame_1_writes a s ++ arrayLocs frame_1_arrays a s ++ staticLocs frame_1_statics s) 1200096 5501386) := by
  intro l hflags _ _ p e ha hc hk s m args below hf hfit hheap happ hpre
  obtain ⟨k, o, h1, h2, h3, rfl, hF⟩ := lw_comes l hflags p e ha hc hk s m args below hf hfit hheap happ hpre
  exact ⟨k, _, h1, h2, h3, hL args s _, lw_frame hF⟩
theorem i_vc : Claimed_1_1 ∧ Claimed_1_2 := ⟨lw_limb limb_1_1 (fun args s t => by simp [limb_1_1, Cond.after, Cond.holds, Cond.value]), lw_limb limb_1_2 (fun args s t => Cond.after_iff.mpr (by
  first | (rw [show limb_1_2 = Cond.eq .result (.int 1) from rfl, Cond.eq_ints (x := 1) (y := 1) rfl rfl]; simp; done) | (simp [limb_1_2, Cond.value, Term.eval]; done)))⟩
end
