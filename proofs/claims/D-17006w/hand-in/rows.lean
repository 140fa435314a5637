section
-- ===== PART A: goes FIRST, ahead of the names: the tables' words, and 'selects' of the private methods out of them =====
/-- a private method of a class that the tables say can be made, by its rows of tables_1 -/
def lw_okq (q : MethodName × Nat) : Prop := (q.1.cls ≠ "java/lang/invoke/MethodHandle" ∧ q.1.cls ≠ "java/lang/invoke/VarHandle") ∧ Cond.instantiable q.1.cls q.2 ∈ tables_1 ∧ Cond.privateMethod q.1 ∈ tables_1 ∧ Cond.instanceMethod q.1 ∈ tables_1
set_option maxRecDepth 100000
theorem lw_t1 {w : Cond} (h : w ∈ tables_1_1) : w ∈ tables_1 := List.mem_append_left _ h
theorem lw_t2 {w : Cond} (h : w ∈ tables_1_2) : w ∈ tables_1 := List.mem_append_right _ h
theorem lw_p0 : lw_okq (⟨"OneTimeTag", "word", "(II)V"⟩, 4) := ⟨⟨by decide +kernel, by decide +kernel⟩, lw_t1 (List.mem_of_getElem? (i := 12) rfl), lw_t1 (List.mem_of_getElem? (i := 38) rfl), lw_t1 (List.mem_of_getElem? (i := 39) rfl)⟩
theorem lw_p1 : lw_okq (⟨"OneTimeTag", "from", "(I)I"⟩, 4) := ⟨⟨by decide +kernel, by decide +kernel⟩, lw_t1 (List.mem_of_getElem? (i := 12) rfl), lw_t1 (List.mem_of_getElem? (i := 46) rfl), lw_t1 (List.mem_of_getElem? (i := 47) rfl)⟩
theorem lw_p2 : lw_okq (⟨"OneTimeTag", "k", "(II)V"⟩, 4) := ⟨⟨by decide +kernel, by decide +kernel⟩, lw_t1 (List.mem_of_getElem? (i := 12) rfl), lw_t1 (List.mem_of_getElem? (i := 59) rfl), lw_t1 (List.mem_of_getElem? (i := 60) rfl)⟩
theorem lw_p3 : lw_okq (⟨"OneTimeTag", "count", "(II)I"⟩, 4) := ⟨⟨by decide +kernel, by decide +kernel⟩, lw_t1 (List.mem_of_getElem? (i := 12) rfl), lw_t1 (List.mem_of_getElem? (i := 67) rfl), lw_t1 (List.mem_of_getElem? (i := 68) rfl)⟩
theorem lw_p4 : lw_okq (⟨"java/lang/Throwable", "fillInStackTrace", "(I)Ljava/lang/Throwable;"⟩, 6) := ⟨⟨by decide +kernel, by decide +kernel⟩, lw_t1 (List.mem_of_getElem? (i := 113) rfl), lw_t1 (List.mem_of_getElem? (i := 111) rfl), lw_t1 (List.mem_of_getElem? (i := 112) rfl)⟩
theorem lw_p5 : lw_okq (⟨"OneTimeTagModel", "first", "(I)I"⟩, 7) := ⟨⟨by decide +kernel, by decide +kernel⟩, lw_t1 (List.mem_of_getElem? (i := 178) rfl), lw_t1 (List.mem_of_getElem? (i := 216) rfl), lw_t1 (List.mem_of_getElem? (i := 217) rfl)⟩
theorem lw_p6 : lw_okq (⟨"OneTimeTagModel", "many", "(II)I"⟩, 7) := ⟨⟨by decide +kernel, by decide +kernel⟩, lw_t1 (List.mem_of_getElem? (i := 178) rfl), lw_t1 (List.mem_of_getElem? (i := 233) rfl), lw_t1 (List.mem_of_getElem? (i := 234) rfl)⟩
theorem lw_p7 : lw_okq (⟨"OneTimeTagModel", "reduce", "()V"⟩, 7) := ⟨⟨by decide +kernel, by decide +kernel⟩, lw_t1 (List.mem_of_getElem? (i := 178) rfl), lw_t2 (List.mem_of_getElem? (i := 0) rfl), lw_t2 (List.mem_of_getElem? (i := 1) rfl)⟩
def lw_privs_1 : List (MethodName × Nat) := [(⟨"OneTimeTag", "word", "(II)V"⟩, 4), (⟨"OneTimeTag", "from", "(I)I"⟩, 4), (⟨"OneTimeTag", "k", "(II)V"⟩, 4), (⟨"OneTimeTag", "count", "(II)I"⟩, 4), (⟨"java/lang/Throwable", "fillInStackTrace", "(I)Ljava/lang/Throwable;"⟩, 6), (⟨"OneTimeTagModel", "first", "(I)I"⟩, 7), (⟨"OneTimeTagModel", "many", "(II)I"⟩, 7), (⟨"OneTimeTagModel", "reduce", "()V"⟩, 7)]
theorem lw_r1 : ∀ q ∈ lw_privs_1, lw_okq q := List.forall_mem_cons.mpr ⟨lw_p0, List.forall_mem_cons.mpr ⟨lw_p1, List.forall_mem_cons.mpr ⟨lw_p2, List.forall_mem_cons.mpr ⟨lw_p3, List.forall_mem_cons.mpr ⟨lw_p4, List.forall_mem_cons.mpr ⟨lw_p5, List.forall_mem_cons.mpr ⟨lw_p6, List.forall_mem_cons.mpr ⟨lw_p7, fun _ h => absurd h List.not_mem_nil⟩⟩⟩⟩⟩⟩⟩⟩
def lw_privs : List (MethodName × Nat) := lw_privs_1
def lw_tbl : List Cond := k2_sels lw_privs ++ tables_1
theorem lw_privs_ok : ∀ q ∈ lw_privs, lw_okq q := lw_r1
-- ===== ONE list of words for every method: the tables' words that hold all through a run =====
def lw_all : List Cond := lw_tbl.filter goodWord
/-- a word of the tables by its place: claim/WORDS.tsv -/
theorem lw_w {w : Cond} (i : Nat) (h : lw_tbl[i]? = some w) (g : goodWord w = true) : w ∈ lw_all := List.mem_filter.mpr ⟨List.mem_of_getElem? h, g⟩
theorem lw_all_tbl {w : Cond} (h : w ∈ lw_all) : w ∈ lw_tbl := (List.mem_filter.mp h).1
theorem lw_self : GoodIn lw_all lw_all := fun w h => ⟨h, good_of_word (List.mem_filter.mp h).2⟩
/-- a class's field words, by their places -/
theorem lw_in (ws : List Cond) (ps : List Nat) (hp : ws = ps.filterMap (fun i => lw_tbl[i]?)) (hg : ws.all goodWord = true) : ∀ w ∈ ws, w ∈ lw_all := by
  intro w h
  have h1 := List.all_eq_true.mp hg w h
  rw [hp] at h
  obtain ⟨i, -, hi⟩ := List.mem_filterMap.mp h
  exact lw_w i hi h1
/-- the words of a contract for the method y with code b, L locals, answer r -/
abbrev ws_ (y : MethodName) (b : ByteArray) (L : Nat) (r : Option FieldType) : List Cond := Cond.code y b L r :: lw_all
theorem lw_meth {y : MethodName} {b : ByteArray} {L : Nat} {r : Option FieldType} (h : Cond.code y b L r ∈ lw_all) : GoodIn lw_all (ws_ y b L r) := by
  intro w hw
  rcases List.mem_cons.mp hw with e | e
  · rw [e]
    exact lw_self _ h
  · exact lw_self _ e
theorem lw_app {a c : List Cond} (ha : ∀ w ∈ a, w ∈ lw_all) (hc : GoodIn lw_all c) : GoodIn lw_all (a ++ c) := by
  intro w hw
  rcases List.mem_append.mp hw with e | e
  · exact lw_self w (ha w e)
  · exact hc w e
/-- what a call through an object asks: cwV n hts (lw_V ..) -/
theorem lw_V {own : String} {idx : Nat} {C : String} {y : MethodName} {b : ByteArray} {L : Nat} {r : Option FieldType} (h1 : Cond.methodLink own idx y ∈ lw_all) (h2 : Cond.instanceMethod y ∈ lw_all) (h3 : Cond.selects C y y ∈ lw_all) (h4 : Cond.initialized C ∈ lw_all) (h5 : Cond.code y b L r ∈ lw_all) : GoodIn lw_all (wsV own idx C y (ws_ y b L r)) := by
  refine lw_app ?_ (lw_meth h5)
  intro w hw
  simp only [List.mem_cons, List.not_mem_nil, or_false] at hw
  rcases hw with e | e | e | e
  · rw [e]; exact h1
  · rw [e]; exact h2
  · rw [e]; exact h3
  · rw [e]; exact h4
/-- what a static call asks: va_cwS n hts (lw_S ..) -/
theorem lw_S {own : String} {idx : Nat} {y : MethodName} {b : ByteArray} {L : Nat} {r : Option FieldType} (h1 : Cond.methodLink own idx y ∈ lw_all) (h2 : Cond.static y ∈ lw_all) (h3 : Cond.initialized y.cls ∈ lw_all) (h4 : Cond.code y b L r ∈ lw_all) : GoodIn lw_all (va_wsS own idx y (ws_ y b L r)) := by
  refine lw_app ?_ (lw_meth h4)
  intro w hw
  simp only [List.mem_cons, List.not_mem_nil, or_false] at hw
  rcases hw with e | e | e
  · rw [e]; exact h1
  · rw [e]; exact h2
  · rw [e]; exact h3
/-- the words of a contract for a method WITH HANDLERS (hh: its table) -/
abbrev wsW_ (y : MethodName) (b : ByteArray) (L : Nat) (r : Option FieldType) (hh : List (Nat × Nat × Nat × Nat)) : List Cond := Cond.codeWith y b L r hh :: lw_all
theorem lw_methW {y : MethodName} {b : ByteArray} {L : Nat} {r : Option FieldType} {hh : List (Nat × Nat × Nat × Nat)} (h : Cond.codeWith y b L r hh ∈ lw_all) : GoodIn lw_all (wsW_ y b L r hh) := by
  intro w hw
  rcases List.mem_cons.mp hw with e | e
  · rw [e]
    exact lw_self _ h
  · exact lw_self _ e
/-- any list of words by their places (lw_in), good -/
theorem lw_good {ws : List Cond} (h : ∀ w ∈ ws, w ∈ lw_all) : GoodIn lw_all ws := fun w hw => lw_self w (h w hw)
/-- what a call of a method with handlers asks: vx_cwVW n hts (lw_VW ..), vx_cwSW n hts (lw_SW ..) -/
theorem lw_VW {own : String} {idx : Nat} {C : String} {y : MethodName} {b : ByteArray} {L : Nat} {r : Option FieldType} {hh : List (Nat × Nat × Nat × Nat)} (h1 : Cond.methodLink own idx y ∈ lw_all) (h2 : Cond.instanceMethod y ∈ lw_all) (h3 : Cond.selects C y y ∈ lw_all) (h4 : Cond.initialized C ∈ lw_all) (h5 : Cond.codeWith y b L r hh ∈ lw_all) : GoodIn lw_all (wsV own idx C y (wsW_ y b L r hh)) := by
  refine lw_app ?_ (lw_methW h5)
  intro w hw
  simp only [List.mem_cons, List.not_mem_nil, or_false] at hw
  rcases hw with e | e | e | e
  · rw [e]; exact h1
  · rw [e]; exact h2
  · rw [e]; exact h3
  · rw [e]; exact h4
theorem lw_SW {own : String} {idx : Nat} {y : MethodName} {b : ByteArray} {L : Nat} {r : Option FieldType} {hh : List (Nat × Nat × Nat × Nat)} (h1 : Cond.methodLink own idx y ∈ lw_all) (h2 : Cond.static y ∈ lw_all) (h3 : Cond.initialized y.cls ∈ lw_all) (h4 : Cond.codeWith y b L r hh ∈ lw_all) : GoodIn lw_all (va_wsS own idx y (wsW_ y b L r hh)) := by
  refine lw_app ?_ (lw_methW h4)
  intro w hw
  simp only [List.mem_cons, List.not_mem_nil, or_false] at hw
  rcases hw with e | e | e
  · rw [e]; exact h1
  · rw [e]; exact h2
  · rw [e]; exact h3
/-- a word by its place in its run of the tables -/
theorem lw_at {r : List Cond} (hr : ∀ w ∈ r, w ∈ lw_tbl) {w : Cond} (i : Nat) (h : r[i]? = some w) : w ∈ lw_tbl := hr w (List.mem_of_getElem? h)
theorem lw_g {w : Cond} (h : w ∈ lw_tbl) (g : goodWord w = true) : w ∈ lw_all := List.mem_filter.mpr ⟨h, g⟩
theorem lw_ms : ∀ w ∈ k2_sels lw_privs, w ∈ lw_tbl := fun w h => show w ∈ k2_sels lw_privs ++ tables_1 from List.mem_append_left _ h
theorem lw_m1 : ∀ w ∈ tables_1_1, w ∈ lw_tbl := fun w h => show w ∈ k2_sels lw_privs ++ tables_1 from List.mem_append_right (k2_sels lw_privs) (show w ∈ tables_1 from List.mem_append_left _ h)
theorem lw_m2 : ∀ w ∈ tables_1_2, w ∈ lw_tbl := fun w h => show w ∈ k2_sels lw_privs ++ tables_1 from List.mem_append_right (k2_sels lw_privs) (show w ∈ tables_1 from List.mem_append_right _ h)
theorem qs0 : (Cond.selects "OneTimeTag" ⟨"OneTimeTag", "word", "(II)V"⟩ ⟨"OneTimeTag", "word", "(II)V"⟩) ∈ lw_all := lw_g (lw_at lw_ms 0 rfl) rfl
theorem qs1 : (Cond.selects "OneTimeTag" ⟨"OneTimeTag", "from", "(I)I"⟩ ⟨"OneTimeTag", "from", "(I)I"⟩) ∈ lw_all := lw_g (lw_at lw_ms 1 rfl) rfl
theorem qs2 : (Cond.selects "OneTimeTag" ⟨"OneTimeTag", "k", "(II)V"⟩ ⟨"OneTimeTag", "k", "(II)V"⟩) ∈ lw_all := lw_g (lw_at lw_ms 2 rfl) rfl
theorem qs3 : (Cond.selects "OneTimeTag" ⟨"OneTimeTag", "count", "(II)I"⟩ ⟨"OneTimeTag", "count", "(II)I"⟩) ∈ lw_all := lw_g (lw_at lw_ms 3 rfl) rfl
theorem qs4 : (Cond.selects "java/lang/Throwable" ⟨"java/lang/Throwable", "fillInStackTrace", "(I)Ljava/lang/Throwable;"⟩ ⟨"java/lang/Throwable", "fillInStackTrace", "(I)Ljava/lang/Throwable;"⟩) ∈ lw_all := lw_g (lw_at lw_ms 4 rfl) rfl
theorem qs5 : (Cond.selects "OneTimeTagModel" ⟨"OneTimeTagModel", "first", "(I)I"⟩ ⟨"OneTimeTagModel", "first", "(I)I"⟩) ∈ lw_all := lw_g (lw_at lw_ms 5 rfl) rfl
theorem qs6 : (Cond.selects "OneTimeTagModel" ⟨"OneTimeTagModel", "many", "(II)I"⟩ ⟨"OneTimeTagModel", "many", "(II)I"⟩) ∈ lw_all := lw_g (lw_at lw_ms 6 rfl) rfl
theorem qs7 : (Cond.selects "OneTimeTagModel" ⟨"OneTimeTagModel", "reduce", "()V"⟩ ⟨"OneTimeTagModel", "reduce", "()V"⟩) ∈ lw_all := lw_g (lw_at lw_ms 7 rfl) rfl

/-! DECODE ROWS BY BYTES: one lemma an opcode; a method's code is cut into short pieces once, and a row reads its own piece alone. -/
set_option maxRecDepth 100000
/-- the code has just these bytes from pc on -/
def DkAt (code : ByteArray) (pc : Nat) (bs : List UInt8) : Prop := ∀ (j : Nat) (b : UInt8), bs[j]? = some b → code.data.toList[pc + j]? = some b
/-- the piece W has the bytes bs from its place j on -/
def dkIn (W : List UInt8) (j : Nat) (bs : List UInt8) : Bool := decide ((W.drop j).take bs.length = bs)
theorem dk_seg {l W T : List UInt8} {o o2 : Nat} (h : l.drop o = W ++ T) (n : Nat) (hn : W.length = n) (ho : o + n = o2) : l.drop o2 = T := by
  subst ho
  rw [← List.drop_drop, h, List.drop_left' hn]
theorem dk_at {code : ByteArray} {W T bs : List UInt8} {o pc : Nat} (h : code.data.toList.drop o = W ++ T) (j : Nat) (hp : o + j = pc) (hw : dkIn W j bs = true) : DkAt code pc bs := by
  subst hp
  intro i b e
  have h1 := of_decide_eq_true hw
  have h2 : i < bs.length := (List.getElem?_eq_some_iff.mp e).1
  have h3 : W[j + i]? = some b := by
    rw [← h1, List.getElem?_take, if_pos h2, List.getElem?_drop] at e
    exact e
  have h4 : j + i < W.length := (List.getElem?_eq_some_iff.mp h3).1
  have h5 : (code.data.toList.drop o)[j + i]? = some b := by
    rw [h, List.getElem?_append_left h4]
    exact h3
  rw [List.getElem?_drop, ← Nat.add_assoc] at h5
  exact h5
theorem dk_u1 {A : ByteArray} {p : Nat} {b : UInt8} (h : A.data.toList[p]? = some b) : (Reader.u1 : Reader DecodeError Nat) A p = .ok (b.toNat, p + 1) := by
  obtain ⟨h1, h2⟩ := List.getElem?_eq_some_iff.mp h
  have h3 : p < A.size := by simpa using h1
  have h4 : A[p]'h3 = b := h2
  have e : (Reader.u1 : Reader DecodeError Nat) A p = (if h : p < A.size then .ok (A[p].toNat, p + 1) else .error (HasTruncated.truncated p)) := by
    show (do if h : p < A.size then do set (p + 1); Pure.pure A[p].toNat else MonadExcept.throw (HasTruncated.truncated p) : Reader DecodeError Nat) A p = _
    by_cases hi : p < A.size
    · rw [dif_pos hi, dif_pos hi]; rfl
    · rw [dif_neg hi, dif_neg hi]; rfl
  rw [e, dif_pos h3, h4]
theorem dk_bind {α β : Type} {r : Reader DecodeError α} {f : α → Reader DecodeError β} {A : ByteArray} {p s : Nat} {a : α} (h : r A p = .ok (a, s)) : (r >>= f) A p = f a A s := by
  show (do let (a, s) ← r A p; f a A s : Except DecodeError (β × Nat)) = _
  rw [h]
  rfl
theorem dk_map {α β : Type} {r : Reader DecodeError α} {g : α → β} {A : ByteArray} {p s : Nat} {a : α} (h : r A p = .ok (a, s)) : (g <$> r) A p = .ok (g a, s) := by
  show (do let (a, s) ← r A p; .ok (g a, s) : Except DecodeError (β × Nat)) = _
  rw [h]
  rfl
theorem dk_u2 {A : ByteArray} {p : Nat} {a b : UInt8} (h : A.data.toList[p]? = some a) (h2 : A.data.toList[p + 1]? = some b) : (Reader.u2 : Reader DecodeError Nat) A p = .ok (a.toNat * 256 + b.toNat, p + 2) := by
  show (Reader.u1 >>= fun hi => Reader.u1 >>= fun lo => Pure.pure (hi * 256 + lo) : Reader DecodeError Nat) A p = _
  rw [dk_bind (dk_u1 h), dk_bind (dk_u1 h2)]
  rfl
theorem dk_of {code : ByteArray} {pc n : Nat} {i : Instr} (h : Decoder.instr pc code pc = .ok (i, pc + n)) : decode code pc = .ok (i, n) := by
  have e : decode code pc = (match Decoder.instr pc code pc with | .error x => .error x | .ok (j, s) => .ok (j, s - pc)) := by
    show (do let (j, s) ← Decoder.instr pc code pc; Pure.pure (j, s - pc) : Except DecodeError (Instr × Nat)) = _
    cases Decoder.instr pc code pc <;> rfl
  rw [e, h]
  show Except.ok (i, pc + n - pc) = _
  rw [Nat.add_sub_cancel_left]
theorem dk_3 {code : ByteArray} {pc : Nat} (h : DkAt code pc [3]) : decode code pc = .ok (.iconst 0, 1) := dk_of ((dk_bind (dk_u1 (h 0 _ rfl))).trans rfl)
theorem dk_4 {code : ByteArray} {pc : Nat} (h : DkAt code pc [4]) : decode code pc = .ok (.iconst 1, 1) := dk_of ((dk_bind (dk_u1 (h 0 _ rfl))).trans rfl)
theorem dk_5 {code : ByteArray} {pc : Nat} (h : DkAt code pc [5]) : decode code pc = .ok (.iconst 2, 1) := dk_of ((dk_bind (dk_u1 (h 0 _ rfl))).trans rfl)
theorem dk_6 {code : ByteArray} {pc : Nat} (h : DkAt code pc [6]) : decode code pc = .ok (.iconst 3, 1) := dk_of ((dk_bind (dk_u1 (h 0 _ rfl))).trans rfl)
theorem dk_7 {code : ByteArray} {pc : Nat} (h : DkAt code pc [7]) : decode code pc = .ok (.iconst 4, 1) := dk_of ((dk_bind (dk_u1 (h 0 _ rfl))).trans rfl)
theorem dk_8 {code : ByteArray} {pc : Nat} (h : DkAt code pc [8]) : decode code pc = .ok (.iconst 5, 1) := dk_of ((dk_bind (dk_u1 (h 0 _ rfl))).trans rfl)
theorem dk_9 {code : ByteArray} {pc : Nat} (h : DkAt code pc [9]) : decode code pc = .ok (.lconst 0, 1) := dk_of ((dk_bind (dk_u1 (h 0 _ rfl))).trans rfl)
theorem dk_10 {code : ByteArray} {pc : Nat} (h : DkAt code pc [10]) : decode code pc = .ok (.lconst 1, 1) := dk_of ((dk_bind (dk_u1 (h 0 _ rfl))).trans rfl)
theorem dk_16 {code : ByteArray} {pc : Nat} (a : UInt8) (h : DkAt code pc [16, a]) : decode code pc = .ok (.bipush (Reader.signed 8 a.toNat), 2) := dk_of ((dk_bind (dk_u1 (h 0 _ rfl))).trans ((dk_bind (dk_map (dk_u1 (h 1 _ rfl)))).trans rfl))
theorem dk_17 {code : ByteArray} {pc : Nat} (a b : UInt8) (h : DkAt code pc [17, a, b]) : decode code pc = .ok (.sipush (Reader.signed 16 (a.toNat * 256 + b.toNat)), 3) := dk_of ((dk_bind (dk_u1 (h 0 _ rfl))).trans ((dk_bind (dk_map (dk_u2 (h 1 _ rfl) (h 2 _ rfl)))).trans rfl))
theorem dk_18 {code : ByteArray} {pc : Nat} (a : UInt8) (h : DkAt code pc [18, a]) : decode code pc = .ok (.ldc a.toNat, 2) := dk_of ((dk_bind (dk_u1 (h 0 _ rfl))).trans ((dk_bind (dk_u1 (h 1 _ rfl))).trans rfl))
theorem dk_20 {code : ByteArray} {pc : Nat} (a b : UInt8) (h : DkAt code pc [20, a, b]) : decode code pc = .ok (.ldc2_w (a.toNat * 256 + b.toNat), 3) := dk_of ((dk_bind (dk_u1 (h 0 _ rfl))).trans ((dk_bind (dk_u2 (h 1 _ rfl) (h 2 _ rfl))).trans rfl))
theorem dk_21 {code : ByteArray} {pc : Nat} (a : UInt8) (h : DkAt code pc [21, a]) : decode code pc = .ok (.iload a.toNat, 2) := dk_of ((dk_bind (dk_u1 (h 0 _ rfl))).trans ((dk_bind (dk_u1 (h 1 _ rfl))).trans rfl))
theorem dk_22 {code : ByteArray} {pc : Nat} (a : UInt8) (h : DkAt code pc [22, a]) : decode code pc = .ok (.lload a.toNat, 2) := dk_of ((dk_bind (dk_u1 (h 0 _ rfl))).trans ((dk_bind (dk_u1 (h 1 _ rfl))).trans rfl))
theorem dk_25 {code : ByteArray} {pc : Nat} (a : UInt8) (h : DkAt code pc [25, a]) : decode code pc = .ok (.aload a.toNat, 2) := dk_of ((dk_bind (dk_u1 (h 0 _ rfl))).trans ((dk_bind (dk_u1 (h 1 _ rfl))).trans rfl))
theorem dk_26 {code : ByteArray} {pc : Nat} (h : DkAt code pc [26]) : decode code pc = .ok (.iload_n 0, 1) := dk_of ((dk_bind (dk_u1 (h 0 _ rfl))).trans rfl)
theorem dk_27 {code : ByteArray} {pc : Nat} (h : DkAt code pc [27]) : decode code pc = .ok (.iload_n 1, 1) := dk_of ((dk_bind (dk_u1 (h 0 _ rfl))).trans rfl)
theorem dk_28 {code : ByteArray} {pc : Nat} (h : DkAt code pc [28]) : decode code pc = .ok (.iload_n 2, 1) := dk_of ((dk_bind (dk_u1 (h 0 _ rfl))).trans rfl)
theorem dk_29 {code : ByteArray} {pc : Nat} (h : DkAt code pc [29]) : decode code pc = .ok (.iload_n 3, 1) := dk_of ((dk_bind (dk_u1 (h 0 _ rfl))).trans rfl)
theorem dk_31 {code : ByteArray} {pc : Nat} (h : DkAt code pc [31]) : decode code pc = .ok (.lload_n 1, 1) := dk_of ((dk_bind (dk_u1 (h 0 _ rfl))).trans rfl)
theorem dk_32 {code : ByteArray} {pc : Nat} (h : DkAt code pc [32]) : decode code pc = .ok (.lload_n 2, 1) := dk_of ((dk_bind (dk_u1 (h 0 _ rfl))).trans rfl)
theorem dk_42 {code : ByteArray} {pc : Nat} (h : DkAt code pc [42]) : decode code pc = .ok (.aload_n 0, 1) := dk_of ((dk_bind (dk_u1 (h 0 _ rfl))).trans rfl)
theorem dk_43 {code : ByteArray} {pc : Nat} (h : DkAt code pc [43]) : decode code pc = .ok (.aload_n 1, 1) := dk_of ((dk_bind (dk_u1 (h 0 _ rfl))).trans rfl)
theorem dk_44 {code : ByteArray} {pc : Nat} (h : DkAt code pc [44]) : decode code pc = .ok (.aload_n 2, 1) := dk_of ((dk_bind (dk_u1 (h 0 _ rfl))).trans rfl)
theorem dk_46 {code : ByteArray} {pc : Nat} (h : DkAt code pc [46]) : decode code pc = .ok (.iaload, 1) := dk_of ((dk_bind (dk_u1 (h 0 _ rfl))).trans rfl)
theorem dk_47 {code : ByteArray} {pc : Nat} (h : DkAt code pc [47]) : decode code pc = .ok (.laload, 1) := dk_of ((dk_bind (dk_u1 (h 0 _ rfl))).trans rfl)
theorem dk_51 {code : ByteArray} {pc : Nat} (h : DkAt code pc [51]) : decode code pc = .ok (.baload, 1) := dk_of ((dk_bind (dk_u1 (h 0 _ rfl))).trans rfl)
theorem dk_54 {code : ByteArray} {pc : Nat} (a : UInt8) (h : DkAt code pc [54, a]) : decode code pc = .ok (.istore a.toNat, 2) := dk_of ((dk_bind (dk_u1 (h 0 _ rfl))).trans ((dk_bind (dk_u1 (h 1 _ rfl))).trans rfl))
theorem dk_55 {code : ByteArray} {pc : Nat} (a : UInt8) (h : DkAt code pc [55, a]) : decode code pc = .ok (.lstore a.toNat, 2) := dk_of ((dk_bind (dk_u1 (h 0 _ rfl))).trans ((dk_bind (dk_u1 (h 1 _ rfl))).trans rfl))
theorem dk_58 {code : ByteArray} {pc : Nat} (a : UInt8) (h : DkAt code pc [58, a]) : decode code pc = .ok (.astore a.toNat, 2) := dk_of ((dk_bind (dk_u1 (h 0 _ rfl))).trans ((dk_bind (dk_u1 (h 1 _ rfl))).trans rfl))
theorem dk_60 {code : ByteArray} {pc : Nat} (h : DkAt code pc [60]) : decode code pc = .ok (.istore_n 1, 1) := dk_of ((dk_bind (dk_u1 (h 0 _ rfl))).trans rfl)
theorem dk_61 {code : ByteArray} {pc : Nat} (h : DkAt code pc [61]) : decode code pc = .ok (.istore_n 2, 1) := dk_of ((dk_bind (dk_u1 (h 0 _ rfl))).trans rfl)
theorem dk_62 {code : ByteArray} {pc : Nat} (h : DkAt code pc [62]) : decode code pc = .ok (.istore_n 3, 1) := dk_of ((dk_bind (dk_u1 (h 0 _ rfl))).trans rfl)
theorem dk_64 {code : ByteArray} {pc : Nat} (h : DkAt code pc [64]) : decode code pc = .ok (.lstore_n 1, 1) := dk_of ((dk_bind (dk_u1 (h 0 _ rfl))).trans rfl)
theorem dk_65 {code : ByteArray} {pc : Nat} (h : DkAt code pc [65]) : decode code pc = .ok (.lstore_n 2, 1) := dk_of ((dk_bind (dk_u1 (h 0 _ rfl))).trans rfl)
theorem dk_76 {code : ByteArray} {pc : Nat} (h : DkAt code pc [76]) : decode code pc = .ok (.astore_n 1, 1) := dk_of ((dk_bind (dk_u1 (h 0 _ rfl))).trans rfl)
theorem dk_77 {code : ByteArray} {pc : Nat} (h : DkAt code pc [77]) : decode code pc = .ok (.astore_n 2, 1) := dk_of ((dk_bind (dk_u1 (h 0 _ rfl))).trans rfl)
theorem dk_79 {code : ByteArray} {pc : Nat} (h : DkAt code pc [79]) : decode code pc = .ok (.iastore, 1) := dk_of ((dk_bind (dk_u1 (h 0 _ rfl))).trans rfl)
theorem dk_80 {code : ByteArray} {pc : Nat} (h : DkAt code pc [80]) : decode code pc = .ok (.lastore, 1) := dk_of ((dk_bind (dk_u1 (h 0 _ rfl))).trans rfl)
theorem dk_84 {code : ByteArray} {pc : Nat} (h : DkAt code pc [84]) : decode code pc = .ok (.bastore, 1) := dk_of ((dk_bind (dk_u1 (h 0 _ rfl))).trans rfl)
theorem dk_87 {code : ByteArray} {pc : Nat} (h : DkAt code pc [87]) : decode code pc = .ok (.pop, 1) := dk_of ((dk_bind (dk_u1 (h 0 _ rfl))).trans rfl)
theorem dk_89 {code : ByteArray} {pc : Nat} (h : DkAt code pc [89]) : decode code pc = .ok (.dup, 1) := dk_of ((dk_bind (dk_u1 (h 0 _ rfl))).trans rfl)
theorem dk_96 {code : ByteArray} {pc : Nat} (h : DkAt code pc [96]) : decode code pc = .ok (.iadd, 1) := dk_of ((dk_bind (dk_u1 (h 0 _ rfl))).trans rfl)
theorem dk_97 {code : ByteArray} {pc : Nat} (h : DkAt code pc [97]) : decode code pc = .ok (.ladd, 1) := dk_of ((dk_bind (dk_u1 (h 0 _ rfl))).trans rfl)
theorem dk_100 {code : ByteArray} {pc : Nat} (h : DkAt code pc [100]) : decode code pc = .ok (.isub, 1) := dk_of ((dk_bind (dk_u1 (h 0 _ rfl))).trans rfl)
theorem dk_101 {code : ByteArray} {pc : Nat} (h : DkAt code pc [101]) : decode code pc = .ok (.lsub, 1) := dk_of ((dk_bind (dk_u1 (h 0 _ rfl))).trans rfl)
theorem dk_104 {code : ByteArray} {pc : Nat} (h : DkAt code pc [104]) : decode code pc = .ok (.imul, 1) := dk_of ((dk_bind (dk_u1 (h 0 _ rfl))).trans rfl)
theorem dk_105 {code : ByteArray} {pc : Nat} (h : DkAt code pc [105]) : decode code pc = .ok (.lmul, 1) := dk_of ((dk_bind (dk_u1 (h 0 _ rfl))).trans rfl)
theorem dk_112 {code : ByteArray} {pc : Nat} (h : DkAt code pc [112]) : decode code pc = .ok (.irem, 1) := dk_of ((dk_bind (dk_u1 (h 0 _ rfl))).trans rfl)
theorem dk_120 {code : ByteArray} {pc : Nat} (h : DkAt code pc [120]) : decode code pc = .ok (.ishl, 1) := dk_of ((dk_bind (dk_u1 (h 0 _ rfl))).trans rfl)
theorem dk_121 {code : ByteArray} {pc : Nat} (h : DkAt code pc [121]) : decode code pc = .ok (.lshl, 1) := dk_of ((dk_bind (dk_u1 (h 0 _ rfl))).trans rfl)
theorem dk_122 {code : ByteArray} {pc : Nat} (h : DkAt code pc [122]) : decode code pc = .ok (.ishr, 1) := dk_of ((dk_bind (dk_u1 (h 0 _ rfl))).trans rfl)
theorem dk_123 {code : ByteArray} {pc : Nat} (h : DkAt code pc [123]) : decode code pc = .ok (.lshr, 1) := dk_of ((dk_bind (dk_u1 (h 0 _ rfl))).trans rfl)
theorem dk_124 {code : ByteArray} {pc : Nat} (h : DkAt code pc [124]) : decode code pc = .ok (.iushr, 1) := dk_of ((dk_bind (dk_u1 (h 0 _ rfl))).trans rfl)
theorem dk_126 {code : ByteArray} {pc : Nat} (h : DkAt code pc [126]) : decode code pc = .ok (.iand, 1) := dk_of ((dk_bind (dk_u1 (h 0 _ rfl))).trans rfl)
theorem dk_127 {code : ByteArray} {pc : Nat} (h : DkAt code pc [127]) : decode code pc = .ok (.land, 1) := dk_of ((dk_bind (dk_u1 (h 0 _ rfl))).trans rfl)
theorem dk_128 {code : ByteArray} {pc : Nat} (h : DkAt code pc [128]) : decode code pc = .ok (.ior, 1) := dk_of ((dk_bind (dk_u1 (h 0 _ rfl))).trans rfl)
theorem dk_129 {code : ByteArray} {pc : Nat} (h : DkAt code pc [129]) : decode code pc = .ok (.lor, 1) := dk_of ((dk_bind (dk_u1 (h 0 _ rfl))).trans rfl)
theorem dk_131 {code : ByteArray} {pc : Nat} (h : DkAt code pc [131]) : decode code pc = .ok (.lxor, 1) := dk_of ((dk_bind (dk_u1 (h 0 _ rfl))).trans rfl)
theorem dk_132 {code : ByteArray} {pc : Nat} (a b : UInt8) (h : DkAt code pc [132, a, b]) : decode code pc = .ok (.iinc a.toNat (Reader.signed 8 b.toNat), 3) := dk_of ((dk_bind (dk_u1 (h 0 _ rfl))).trans ((dk_bind (dk_u1 (h 1 _ rfl))).trans ((dk_bind (dk_map (dk_u1 (h 2 _ rfl)))).trans rfl)))
theorem dk_133 {code : ByteArray} {pc : Nat} (h : DkAt code pc [133]) : decode code pc = .ok (.i2l, 1) := dk_of ((dk_bind (dk_u1 (h 0 _ rfl))).trans rfl)
theorem dk_136 {code : ByteArray} {pc : Nat} (h : DkAt code pc [136]) : decode code pc = .ok (.l2i, 1) := dk_of ((dk_bind (dk_u1 (h 0 _ rfl))).trans rfl)
theorem dk_145 {code : ByteArray} {pc : Nat} (h : DkAt code pc [145]) : decode code pc = .ok (.i2b, 1) := dk_of ((dk_bind (dk_u1 (h 0 _ rfl))).trans rfl)
theorem dk_148 {code : ByteArray} {pc : Nat} (h : DkAt code pc [148]) : decode code pc = .ok (.lcmp, 1) := dk_of ((dk_bind (dk_u1 (h 0 _ rfl))).trans rfl)
theorem dk_153 {code : ByteArray} {pc : Nat} (a b : UInt8) (h : DkAt code pc [153, a, b]) : decode code pc = .ok (.ifCond .eq (Reader.signed 16 (a.toNat * 256 + b.toNat)), 3) := dk_of ((dk_bind (dk_u1 (h 0 _ rfl))).trans ((dk_bind (dk_map (dk_u2 (h 1 _ rfl) (h 2 _ rfl)))).trans rfl))
theorem dk_154 {code : ByteArray} {pc : Nat} (a b : UInt8) (h : DkAt code pc [154, a, b]) : decode code pc = .ok (.ifCond .ne (Reader.signed 16 (a.toNat * 256 + b.toNat)), 3) := dk_of ((dk_bind (dk_u1 (h 0 _ rfl))).trans ((dk_bind (dk_map (dk_u2 (h 1 _ rfl) (h 2 _ rfl)))).trans rfl))
theorem dk_155 {code : ByteArray} {pc : Nat} (a b : UInt8) (h : DkAt code pc [155, a, b]) : decode code pc = .ok (.ifCond .lt (Reader.signed 16 (a.toNat * 256 + b.toNat)), 3) := dk_of ((dk_bind (dk_u1 (h 0 _ rfl))).trans ((dk_bind (dk_map (dk_u2 (h 1 _ rfl) (h 2 _ rfl)))).trans rfl))
theorem dk_156 {code : ByteArray} {pc : Nat} (a b : UInt8) (h : DkAt code pc [156, a, b]) : decode code pc = .ok (.ifCond .ge (Reader.signed 16 (a.toNat * 256 + b.toNat)), 3) := dk_of ((dk_bind (dk_u1 (h 0 _ rfl))).trans ((dk_bind (dk_map (dk_u2 (h 1 _ rfl) (h 2 _ rfl)))).trans rfl))
theorem dk_159 {code : ByteArray} {pc : Nat} (a b : UInt8) (h : DkAt code pc [159, a, b]) : decode code pc = .ok (.if_icmp .eq (Reader.signed 16 (a.toNat * 256 + b.toNat)), 3) := dk_of ((dk_bind (dk_u1 (h 0 _ rfl))).trans ((dk_bind (dk_map (dk_u2 (h 1 _ rfl) (h 2 _ rfl)))).trans rfl))
theorem dk_162 {code : ByteArray} {pc : Nat} (a b : UInt8) (h : DkAt code pc [162, a, b]) : decode code pc = .ok (.if_icmp .ge (Reader.signed 16 (a.toNat * 256 + b.toNat)), 3) := dk_of ((dk_bind (dk_u1 (h 0 _ rfl))).trans ((dk_bind (dk_map (dk_u2 (h 1 _ rfl) (h 2 _ rfl)))).trans rfl))
theorem dk_163 {code : ByteArray} {pc : Nat} (a b : UInt8) (h : DkAt code pc [163, a, b]) : decode code pc = .ok (.if_icmp .gt (Reader.signed 16 (a.toNat * 256 + b.toNat)), 3) := dk_of ((dk_bind (dk_u1 (h 0 _ rfl))).trans ((dk_bind (dk_map (dk_u2 (h 1 _ rfl) (h 2 _ rfl)))).trans rfl))
theorem dk_164 {code : ByteArray} {pc : Nat} (a b : UInt8) (h : DkAt code pc [164, a, b]) : decode code pc = .ok (.if_icmp .le (Reader.signed 16 (a.toNat * 256 + b.toNat)), 3) := dk_of ((dk_bind (dk_u1 (h 0 _ rfl))).trans ((dk_bind (dk_map (dk_u2 (h 1 _ rfl) (h 2 _ rfl)))).trans rfl))
theorem dk_167 {code : ByteArray} {pc : Nat} (a b : UInt8) (h : DkAt code pc [167, a, b]) : decode code pc = .ok (.goto (Reader.signed 16 (a.toNat * 256 + b.toNat)), 3) := dk_of ((dk_bind (dk_u1 (h 0 _ rfl))).trans ((dk_bind (dk_map (dk_u2 (h 1 _ rfl) (h 2 _ rfl)))).trans rfl))
theorem dk_172 {code : ByteArray} {pc : Nat} (h : DkAt code pc [172]) : decode code pc = .ok (.ireturn, 1) := dk_of ((dk_bind (dk_u1 (h 0 _ rfl))).trans rfl)
theorem dk_173 {code : ByteArray} {pc : Nat} (h : DkAt code pc [173]) : decode code pc = .ok (.lreturn, 1) := dk_of ((dk_bind (dk_u1 (h 0 _ rfl))).trans rfl)
theorem dk_176 {code : ByteArray} {pc : Nat} (h : DkAt code pc [176]) : decode code pc = .ok (.areturn, 1) := dk_of ((dk_bind (dk_u1 (h 0 _ rfl))).trans rfl)
theorem dk_177 {code : ByteArray} {pc : Nat} (h : DkAt code pc [177]) : decode code pc = .ok (.return_, 1) := dk_of ((dk_bind (dk_u1 (h 0 _ rfl))).trans rfl)
theorem dk_178 {code : ByteArray} {pc : Nat} (a b : UInt8) (h : DkAt code pc [178, a, b]) : decode code pc = .ok (.getstatic (a.toNat * 256 + b.toNat), 3) := dk_of ((dk_bind (dk_u1 (h 0 _ rfl))).trans ((dk_bind (dk_u2 (h 1 _ rfl) (h 2 _ rfl))).trans rfl))
theorem dk_180 {code : ByteArray} {pc : Nat} (a b : UInt8) (h : DkAt code pc [180, a, b]) : decode code pc = .ok (.getfield (a.toNat * 256 + b.toNat), 3) := dk_of ((dk_bind (dk_u1 (h 0 _ rfl))).trans ((dk_bind (dk_u2 (h 1 _ rfl) (h 2 _ rfl))).trans rfl))
theorem dk_181 {code : ByteArray} {pc : Nat} (a b : UInt8) (h : DkAt code pc [181, a, b]) : decode code pc = .ok (.putfield (a.toNat * 256 + b.toNat), 3) := dk_of ((dk_bind (dk_u1 (h 0 _ rfl))).trans ((dk_bind (dk_u2 (h 1 _ rfl) (h 2 _ rfl))).trans rfl))
theorem dk_182 {code : ByteArray} {pc : Nat} (a b : UInt8) (h : DkAt code pc [182, a, b]) : decode code pc = .ok (.invokevirtual (a.toNat * 256 + b.toNat), 3) := dk_of ((dk_bind (dk_u1 (h 0 _ rfl))).trans ((dk_bind (dk_u2 (h 1 _ rfl) (h 2 _ rfl))).trans rfl))
theorem dk_183 {code : ByteArray} {pc : Nat} (a b : UInt8) (h : DkAt code pc [183, a, b]) : decode code pc = .ok (.invokespecial (a.toNat * 256 + b.toNat), 3) := dk_of ((dk_bind (dk_u1 (h 0 _ rfl))).trans ((dk_bind (dk_u2 (h 1 _ rfl) (h 2 _ rfl))).trans rfl))
theorem dk_184 {code : ByteArray} {pc : Nat} (a b : UInt8) (h : DkAt code pc [184, a, b]) : decode code pc = .ok (.invokestatic (a.toNat * 256 + b.toNat), 3) := dk_of ((dk_bind (dk_u1 (h 0 _ rfl))).trans ((dk_bind (dk_u2 (h 1 _ rfl) (h 2 _ rfl))).trans rfl))
theorem dk_187 {code : ByteArray} {pc : Nat} (a b : UInt8) (h : DkAt code pc [187, a, b]) : decode code pc = .ok (.new (a.toNat * 256 + b.toNat), 3) := dk_of ((dk_bind (dk_u1 (h 0 _ rfl))).trans ((dk_bind (dk_u2 (h 1 _ rfl) (h 2 _ rfl))).trans rfl))
theorem dk_188_8 {code : ByteArray} {pc : Nat} (h : DkAt code pc [188, 8]) : decode code pc = .ok (.newarray .byte, 2) := dk_of ((dk_bind (dk_u1 (h 0 _ rfl))).trans ((dk_bind (dk_u1 (h 1 _ rfl))).trans rfl))
theorem dk_188_10 {code : ByteArray} {pc : Nat} (h : DkAt code pc [188, 10]) : decode code pc = .ok (.newarray .int, 2) := dk_of ((dk_bind (dk_u1 (h 0 _ rfl))).trans ((dk_bind (dk_u1 (h 1 _ rfl))).trans rfl))
theorem dk_188_11 {code : ByteArray} {pc : Nat} (h : DkAt code pc [188, 11]) : decode code pc = .ok (.newarray .long, 2) := dk_of ((dk_bind (dk_u1 (h 0 _ rfl))).trans ((dk_bind (dk_u1 (h 1 _ rfl))).trans rfl))
theorem dk_190 {code : ByteArray} {pc : Nat} (h : DkAt code pc [190]) : decode code pc = .ok (.arraylength, 1) := dk_of ((dk_bind (dk_u1 (h 0 _ rfl))).trans rfl)
theorem dk_191 {code : ByteArray} {pc : Nat} (h : DkAt code pc [191]) : decode code pc = .ok (.athrow, 1) := dk_of ((dk_bind (dk_u1 (h 0 _ rfl))).trans rfl)
end
section
theorem q40 : (Jvm.Cond.arrayClass Jvm.ClassFile.FieldType.byte) ∈ lw_all := lw_g (lw_at lw_m1 32 rfl) rfl
set_option maxRecDepth 100000
theorem q213 : (Jvm.Cond.arrayClass Jvm.ClassFile.FieldType.int) ∈ lw_all := lw_g (lw_at lw_m1 205 rfl) rfl
theorem q214 : (Jvm.Cond.arrayClass Jvm.ClassFile.FieldType.long) ∈ lw_all := lw_g (lw_at lw_m1 206 rfl) rfl

theorem q8 : (Jvm.Cond.initialized "OneTimeTagLaw") ∈ lw_all := lw_g (lw_at lw_m1 0 rfl) rfl
set_option maxRecDepth 100000
theorem q19 : (Jvm.Cond.classLink "OneTimeTagLaw" (7 : Nat) "OneTimeTag") ∈ lw_all := lw_g (lw_at lw_m1 11 rfl) rfl
theorem q21 : (Jvm.Cond.methodLink "OneTimeTagLaw" (9 : Nat) ({ cls := "OneTimeTag", name := "<init>", desc := "()V" } : Jvm.MethodName)) ∈ lw_all := lw_g (lw_at lw_m1 13 rfl) rfl
theorem q41 : (Jvm.Cond.methodLink "OneTimeTagLaw" (13 : Nat) ({ cls := "OneTimeTag", name := "put", desc := "(IIII)Z" } : Jvm.MethodName)) ∈ lw_all := lw_g (lw_at lw_m1 33 rfl) rfl
theorem q49 : (Jvm.Cond.methodLink "OneTimeTagLaw" (18 : Nat) ({ cls := "OneTimeTag", name := "trim", desc := "(I)V" } : Jvm.MethodName)) ∈ lw_all := lw_g (lw_at lw_m1 41 rfl) rfl
theorem q58 : (Jvm.Cond.methodLink "OneTimeTagLaw" (23 : Nat) ({ cls := "OneTimeTag", name := "size", desc := "()I" } : Jvm.MethodName)) ∈ lw_all := lw_g (lw_at lw_m1 50 rfl) rfl
theorem q62 : (Jvm.Cond.methodLink "OneTimeTagLaw" (28 : Nat) ({ cls := "OneTimeTag", name := "key", desc := "(IIIII)V" } : Jvm.MethodName)) ∈ lw_all := lw_g (lw_at lw_m1 54 rfl) rfl
theorem q70 : (Jvm.Cond.methodLink "OneTimeTagLaw" (33 : Nat) ({ cls := "OneTimeTag", name := "tag", desc := "(II)V" } : Jvm.MethodName)) ∈ lw_all := lw_g (lw_at lw_m1 62 rfl) rfl
theorem q181 : (Jvm.Cond.methodLink "OneTimeTagLaw" (38 : Nat) ({ cls := "OneTimeTag", name := "answe\x72", desc := "(I)I" } : Jvm.MethodName)) ∈ lw_all := lw_g (lw_at lw_m1 173 rfl) rfl
theorem q185 : (Jvm.Cond.classLink "OneTimeTagLaw" (10 : Nat) "OneTimeTagModel") ∈ lw_all := lw_g (lw_at lw_m1 177 rfl) rfl
theorem q187 : (Jvm.Cond.methodLink "OneTimeTagLaw" (12 : Nat) ({ cls := "OneTimeTagModel", name := "<init>", desc := "()V" } : Jvm.MethodName)) ∈ lw_all := lw_g (lw_at lw_m1 179 rfl) rfl
theorem q215 : (Jvm.Cond.methodLink "OneTimeTagLaw" (17 : Nat) ({ cls := "OneTimeTagModel", name := "put", desc := "(IIII)Z" } : Jvm.MethodName)) ∈ lw_all := lw_g (lw_at lw_m1 207 rfl) rfl
theorem q219 : (Jvm.Cond.methodLink "OneTimeTagLaw" (22 : Nat) ({ cls := "OneTimeTagModel", name := "trim", desc := "(I)V" } : Jvm.MethodName)) ∈ lw_all := lw_g (lw_at lw_m1 211 rfl) rfl
theorem q228 : (Jvm.Cond.methodLink "OneTimeTagLaw" (27 : Nat) ({ cls := "OneTimeTagModel", name := "size", desc := "()I" } : Jvm.MethodName)) ∈ lw_all := lw_g (lw_at lw_m1 220 rfl) rfl
theorem q232 : (Jvm.Cond.methodLink "OneTimeTagLaw" (32 : Nat) ({ cls := "OneTimeTagModel", name := "key", desc := "(IIIII)V" } : Jvm.MethodName)) ∈ lw_all := lw_g (lw_at lw_m1 224 rfl) rfl
theorem q236 : (Jvm.Cond.methodLink "OneTimeTagLaw" (37 : Nat) ({ cls := "OneTimeTagModel", name := "tag", desc := "(II)V" } : Jvm.MethodName)) ∈ lw_all := lw_g (lw_at lw_m1 228 rfl) rfl
theorem q255 : (Jvm.Cond.methodLink "OneTimeTagLaw" (42 : Nat) ({ cls := "OneTimeTagModel", name := "answe\x72", desc := "(I)I" } : Jvm.MethodName)) ∈ lw_all := lw_g (lw_at lw_m2 7 rfl) rfl

theorem q11 : (Jvm.Cond.initialized "java/lang/System") ∈ lw_all := lw_g (lw_at lw_m1 3 rfl) rfl
set_option maxRecDepth 100000
theorem q79 : (Jvm.Cond.static ({ cls := "java/lang/System", name := "arraycopy", desc := "(Ljava/lang/Object;ILjava/lang/Object;II)V" } : Jvm.MethodName)) ∈ lw_all := lw_g (lw_at lw_m1 71 rfl) rfl
theorem q80 : (Jvm.Cond.native ({ cls := "java/lang/System", name := "arraycopy", desc := "(Ljava/lang/Object;ILjava/lang/Object;II)V" } : Jvm.MethodName)) ∈ lw_all := lw_g (lw_at lw_m1 72 rfl) rfl

/-! java/lang/Object -/
set_option maxRecDepth 100000
def RJ6 : String := "java/lang/Object"
abbrev cJ6_init : ByteArray := object_method_1_code
def yJ6_init : MethodName := ⟨RJ6, "<init>", "()V"⟩
theorem dJ6_init_0 : decode cJ6_init 0 = .ok (.return_, 1) := by decide +kernel
theorem q25 : (Jvm.Cond.instanceMethod ({ cls := "java/lang/Object", name := "<init>", desc := "()V" } : Jvm.MethodName)) ∈ lw_all := lw_g (lw_at lw_m1 17 rfl) rfl
theorem q26 : (Jvm.Cond.code ({ cls := "java/lang/Object", name := "<init>", desc := "()V" } : Jvm.MethodName) object_method_1_code (1 : Nat) (Option.none : Option Jvm.ClassFile.FieldType)) ∈ lw_all := lw_g (lw_at lw_m1 18 rfl) rfl

/-! java/lang/Math -/
set_option maxRecDepth 100000
def RJ4 : String := "java/lang/Math"
abbrev cJ4_min : ByteArray := prog_7_method_69_code
def yJ4_min : MethodName := ⟨RJ4, "min", "(II)I"⟩
def dkwJ4_min_0 : List UInt8 := [26, 27, 163, 0, 7, 26, 167, 0, 4, 27, 172]
abbrev dktJ4_min_0 : List UInt8 := dkwJ4_min_0 ++ []
theorem dksJ4_min_0 : cJ4_min.data.toList.drop 0 = dktJ4_min_0 := by decide +kernel
theorem dJ4_min_0 : decode cJ4_min 0 = .ok (.iload_n 0, 1) := dk_26 (dk_at dksJ4_min_0 0 rfl rfl)
theorem dJ4_min_1 : decode cJ4_min 1 = .ok (.iload_n 1, 1) := dk_27 (dk_at dksJ4_min_0 1 rfl rfl)
theorem dJ4_min_2 : decode cJ4_min 2 = .ok (.if_icmp .gt 7, 3) := dk_163 0 7 (dk_at dksJ4_min_0 2 rfl rfl)
theorem dJ4_min_5 : decode cJ4_min 5 = .ok (.iload_n 0, 1) := dk_26 (dk_at dksJ4_min_0 5 rfl rfl)
theorem dJ4_min_6 : decode cJ4_min 6 = .ok (.goto 4, 3) := dk_167 0 4 (dk_at dksJ4_min_0 6 rfl rfl)
theorem dJ4_min_9 : decode cJ4_min 9 = .ok (.iload_n 1, 1) := dk_27 (dk_at dksJ4_min_0 9 rfl rfl)
theorem dJ4_min_10 : decode cJ4_min 10 = .ok (.ireturn, 1) := dk_172 (dk_at dksJ4_min_0 10 rfl rfl)
theorem q17 : (Jvm.Cond.initialized "java/lang/Math") ∈ lw_all := lw_g (lw_at lw_m1 9 rfl) rfl
theorem q166 : (Jvm.Cond.static ({ cls := "java/lang/Math", name := "min", desc := "(II)I" } : Jvm.MethodName)) ∈ lw_all := lw_g (lw_at lw_m1 158 rfl) rfl
theorem q167 : (Jvm.Cond.code ({ cls := "java/lang/Math", name := "min", desc := "(II)I" } : Jvm.MethodName) prog_7_method_69_code (2 : Nat) (Option.some Jvm.ClassFile.FieldType.int)) ∈ lw_all := lw_g (lw_at lw_m1 159 rfl) rfl

/-! java/util/Arrays -/
set_option maxRecDepth 100000
def RJ5 : String := "java/util/Arrays"
abbrev cJ5_fill : ByteArray := prog_12_method_110_code
def yJ5_fill : MethodName := ⟨RJ5, "fill", "([BIIB)V"⟩
def dkwJ5_fill_1 : List UInt8 := [167, 255, 242, 177]
abbrev dktJ5_fill_1 : List UInt8 := dkwJ5_fill_1 ++ []
def dkwJ5_fill_0 : List UInt8 := [42, 190, 27, 28, 184, 0, 13, 27, 54, 4, 21, 4, 28, 162, 0, 14, 42, 21, 4, 29, 84, 132, 4, 1]
abbrev dktJ5_fill_0 : List UInt8 := dkwJ5_fill_0 ++ dktJ5_fill_1
theorem dksJ5_fill_0 : cJ5_fill.data.toList.drop 0 = dktJ5_fill_0 := by decide +kernel
theorem dksJ5_fill_1 : cJ5_fill.data.toList.drop 24 = dktJ5_fill_1 := dk_seg dksJ5_fill_0 24 rfl rfl
theorem dJ5_fill_0 : decode cJ5_fill 0 = .ok (.aload_n 0, 1) := dk_42 (dk_at dksJ5_fill_0 0 rfl rfl)
theorem dJ5_fill_1 : decode cJ5_fill 1 = .ok (.arraylength, 1) := dk_190 (dk_at dksJ5_fill_0 1 rfl rfl)
theorem dJ5_fill_2 : decode cJ5_fill 2 = .ok (.iload_n 1, 1) := dk_27 (dk_at dksJ5_fill_0 2 rfl rfl)
theorem dJ5_fill_3 : decode cJ5_fill 3 = .ok (.iload_n 2, 1) := dk_28 (dk_at dksJ5_fill_0 3 rfl rfl)
theorem dJ5_fill_4 : decode cJ5_fill 4 = .ok (.invokestatic 13, 3) := dk_184 0 13 (dk_at dksJ5_fill_0 4 rfl rfl)
theorem dJ5_fill_7 : decode cJ5_fill 7 = .ok (.iload_n 1, 1) := dk_27 (dk_at dksJ5_fill_0 7 rfl rfl)
theorem dJ5_fill_8 : decode cJ5_fill 8 = .ok (.istore 4, 2) := dk_54 4 (dk_at dksJ5_fill_0 8 rfl rfl)
theorem dJ5_fill_10 : decode cJ5_fill 10 = .ok (.iload 4, 2) := dk_21 4 (dk_at dksJ5_fill_0 10 rfl rfl)
theorem dJ5_fill_12 : decode cJ5_fill 12 = .ok (.iload_n 2, 1) := dk_28 (dk_at dksJ5_fill_0 12 rfl rfl)
theorem dJ5_fill_13 : decode cJ5_fill 13 = .ok (.if_icmp .ge 14, 3) := dk_162 0 14 (dk_at dksJ5_fill_0 13 rfl rfl)
theorem dJ5_fill_16 : decode cJ5_fill 16 = .ok (.aload_n 0, 1) := dk_42 (dk_at dksJ5_fill_0 16 rfl rfl)
theorem dJ5_fill_17 : decode cJ5_fill 17 = .ok (.iload 4, 2) := dk_21 4 (dk_at dksJ5_fill_0 17 rfl rfl)
theorem dJ5_fill_19 : decode cJ5_fill 19 = .ok (.iload_n 3, 1) := dk_29 (dk_at dksJ5_fill_0 19 rfl rfl)
theorem dJ5_fill_20 : decode cJ5_fill 20 = .ok (.bastore, 1) := dk_84 (dk_at dksJ5_fill_0 20 rfl rfl)
theorem dJ5_fill_21 : decode cJ5_fill 21 = .ok (.iinc 4 1, 3) := dk_132 4 1 (dk_at dksJ5_fill_0 21 rfl rfl)
theorem dJ5_fill_24 : decode cJ5_fill 24 = .ok (.goto (-14), 3) := dk_167 255 242 (dk_at dksJ5_fill_1 0 rfl rfl)
theorem dJ5_fill_27 : decode cJ5_fill 27 = .ok (.return_, 1) := dk_177 (dk_at dksJ5_fill_1 3 rfl rfl)
abbrev cJ5_rangeCheck : ByteArray := prog_12_method_30_code
def yJ5_rangeCheck : MethodName := ⟨RJ5, "rangeCheck", "(III)V"⟩
def dkwJ5_rangeCheck_3 : List UInt8 := [183, 0, 70, 191, 177]
abbrev dktJ5_rangeCheck_3 : List UInt8 := dkwJ5_rangeCheck_3 ++ []
def dkwJ5_rangeCheck_2 : List UInt8 := [27, 156, 0, 12, 187, 0, 68, 89, 27, 183, 0, 70, 191, 28, 26, 164, 0, 12, 187, 0, 68, 89, 28]
abbrev dktJ5_rangeCheck_2 : List UInt8 := dkwJ5_rangeCheck_2 ++ dktJ5_rangeCheck_3
def dkwJ5_rangeCheck_1 : List UInt8 := [182, 0, 54, 18, 57, 182, 0, 50, 28, 182, 0, 54, 18, 59, 182, 0, 50, 182, 0, 61, 183, 0, 65, 191]
abbrev dktJ5_rangeCheck_1 : List UInt8 := dkwJ5_rangeCheck_1 ++ dktJ5_rangeCheck_2
def dkwJ5_rangeCheck_0 : List UInt8 := [27, 28, 164, 0, 44, 187, 0, 43, 89, 187, 0, 45, 89, 183, 0, 47, 18, 48, 182, 0, 50, 27]
abbrev dktJ5_rangeCheck_0 : List UInt8 := dkwJ5_rangeCheck_0 ++ dktJ5_rangeCheck_1
theorem dksJ5_rangeCheck_0 : cJ5_rangeCheck.data.toList.drop 0 = dktJ5_rangeCheck_0 := by decide +kernel
theorem dksJ5_rangeCheck_1 : cJ5_rangeCheck.data.toList.drop 22 = dktJ5_rangeCheck_1 := dk_seg dksJ5_rangeCheck_0 22 rfl rfl
theorem dksJ5_rangeCheck_2 : cJ5_rangeCheck.data.toList.drop 46 = dktJ5_rangeCheck_2 := dk_seg dksJ5_rangeCheck_1 24 rfl rfl
theorem dksJ5_rangeCheck_3 : cJ5_rangeCheck.data.toList.drop 69 = dktJ5_rangeCheck_3 := dk_seg dksJ5_rangeCheck_2 23 rfl rfl
theorem dJ5_rangeCheck_0 : decode cJ5_rangeCheck 0 = .ok (.iload_n 1, 1) := dk_27 (dk_at dksJ5_rangeCheck_0 0 rfl rfl)
theorem dJ5_rangeCheck_1 : decode cJ5_rangeCheck 1 = .ok (.iload_n 2, 1) := dk_28 (dk_at dksJ5_rangeCheck_0 1 rfl rfl)
theorem dJ5_rangeCheck_2 : decode cJ5_rangeCheck 2 = .ok (.if_icmp .le 44, 3) := dk_164 0 44 (dk_at dksJ5_rangeCheck_0 2 rfl rfl)
theorem dJ5_rangeCheck_5 : decode cJ5_rangeCheck 5 = .ok (.new 43, 3) := dk_187 0 43 (dk_at dksJ5_rangeCheck_0 5 rfl rfl)
theorem dJ5_rangeCheck_8 : decode cJ5_rangeCheck 8 = .ok (.dup, 1) := dk_89 (dk_at dksJ5_rangeCheck_0 8 rfl rfl)
theorem dJ5_rangeCheck_9 : decode cJ5_rangeCheck 9 = .ok (.new 45, 3) := dk_187 0 45 (dk_at dksJ5_rangeCheck_0 9 rfl rfl)
theorem dJ5_rangeCheck_12 : decode cJ5_rangeCheck 12 = .ok (.dup, 1) := dk_89 (dk_at dksJ5_rangeCheck_0 12 rfl rfl)
theorem dJ5_rangeCheck_13 : decode cJ5_rangeCheck 13 = .ok (.invokespecial 47, 3) := dk_183 0 47 (dk_at dksJ5_rangeCheck_0 13 rfl rfl)
theorem dJ5_rangeCheck_16 : decode cJ5_rangeCheck 16 = .ok (.ldc 48, 2) := dk_18 48 (dk_at dksJ5_rangeCheck_0 16 rfl rfl)
theorem dJ5_rangeCheck_18 : decode cJ5_rangeCheck 18 = .ok (.invokevirtual 50, 3) := dk_182 0 50 (dk_at dksJ5_rangeCheck_0 18 rfl rfl)
theorem dJ5_rangeCheck_21 : decode cJ5_rangeCheck 21 = .ok (.iload_n 1, 1) := dk_27 (dk_at dksJ5_rangeCheck_0 21 rfl rfl)
theorem dJ5_rangeCheck_22 : decode cJ5_rangeCheck 22 = .ok (.invokevirtual 54, 3) := dk_182 0 54 (dk_at dksJ5_rangeCheck_1 0 rfl rfl)
theorem dJ5_rangeCheck_25 : decode cJ5_rangeCheck 25 = .ok (.ldc 57, 2) := dk_18 57 (dk_at dksJ5_rangeCheck_1 3 rfl rfl)
theorem dJ5_rangeCheck_27 : decode cJ5_rangeCheck 27 = .ok (.invokevirtual 50, 3) := dk_182 0 50 (dk_at dksJ5_rangeCheck_1 5 rfl rfl)
theorem dJ5_rangeCheck_30 : decode cJ5_rangeCheck 30 = .ok (.iload_n 2, 1) := dk_28 (dk_at dksJ5_rangeCheck_1 8 rfl rfl)
theorem dJ5_rangeCheck_31 : decode cJ5_rangeCheck 31 = .ok (.invokevirtual 54, 3) := dk_182 0 54 (dk_at dksJ5_rangeCheck_1 9 rfl rfl)
theorem dJ5_rangeCheck_34 : decode cJ5_rangeCheck 34 = .ok (.ldc 59, 2) := dk_18 59 (dk_at dksJ5_rangeCheck_1 12 rfl rfl)
theorem dJ5_rangeCheck_36 : decode cJ5_rangeCheck 36 = .ok (.invokevirtual 50, 3) := dk_182 0 50 (dk_at dksJ5_rangeCheck_1 14 rfl rfl)
theorem dJ5_rangeCheck_39 : decode cJ5_rangeCheck 39 = .ok (.invokevirtual 61, 3) := dk_182 0 61 (dk_at dksJ5_rangeCheck_1 17 rfl rfl)
theorem dJ5_rangeCheck_42 : decode cJ5_rangeCheck 42 = .ok (.invokespecial 65, 3) := dk_183 0 65 (dk_at dksJ5_rangeCheck_1 20 rfl rfl)
theorem dJ5_rangeCheck_45 : decode cJ5_rangeCheck 45 = .ok (.athrow, 1) := dk_191 (dk_at dksJ5_rangeCheck_1 23 rfl rfl)
theorem dJ5_rangeCheck_46 : decode cJ5_rangeCheck 46 = .ok (.iload_n 1, 1) := dk_27 (dk_at dksJ5_rangeCheck_2 0 rfl rfl)
theorem dJ5_rangeCheck_47 : decode cJ5_rangeCheck 47 = .ok (.ifCond .ge 12, 3) := dk_156 0 12 (dk_at dksJ5_rangeCheck_2 1 rfl rfl)
theorem dJ5_rangeCheck_50 : decode cJ5_rangeCheck 50 = .ok (.new 68, 3) := dk_187 0 68 (dk_at dksJ5_rangeCheck_2 4 rfl rfl)
theorem dJ5_rangeCheck_53 : decode cJ5_rangeCheck 53 = .ok (.dup, 1) := dk_89 (dk_at dksJ5_rangeCheck_2 7 rfl rfl)
theorem dJ5_rangeCheck_54 : decode cJ5_rangeCheck 54 = .ok (.iload_n 1, 1) := dk_27 (dk_at dksJ5_rangeCheck_2 8 rfl rfl)
theorem dJ5_rangeCheck_55 : decode cJ5_rangeCheck 55 = .ok (.invokespecial 70, 3) := dk_183 0 70 (dk_at dksJ5_rangeCheck_2 9 rfl rfl)
theorem dJ5_rangeCheck_58 : decode cJ5_rangeCheck 58 = .ok (.athrow, 1) := dk_191 (dk_at dksJ5_rangeCheck_2 12 rfl rfl)
theorem dJ5_rangeCheck_59 : decode cJ5_rangeCheck 59 = .ok (.iload_n 2, 1) := dk_28 (dk_at dksJ5_rangeCheck_2 13 rfl rfl)
theorem dJ5_rangeCheck_60 : decode cJ5_rangeCheck 60 = .ok (.iload_n 0, 1) := dk_26 (dk_at dksJ5_rangeCheck_2 14 rfl rfl)
theorem dJ5_rangeCheck_61 : decode cJ5_rangeCheck 61 = .ok (.if_icmp .le 12, 3) := dk_164 0 12 (dk_at dksJ5_rangeCheck_2 15 rfl rfl)
theorem dJ5_rangeCheck_64 : decode cJ5_rangeCheck 64 = .ok (.new 68, 3) := dk_187 0 68 (dk_at dksJ5_rangeCheck_2 18 rfl rfl)
theorem dJ5_rangeCheck_67 : decode cJ5_rangeCheck 67 = .ok (.dup, 1) := dk_89 (dk_at dksJ5_rangeCheck_2 21 rfl rfl)
theorem dJ5_rangeCheck_68 : decode cJ5_rangeCheck 68 = .ok (.iload_n 2, 1) := dk_28 (dk_at dksJ5_rangeCheck_2 22 rfl rfl)
theorem dJ5_rangeCheck_69 : decode cJ5_rangeCheck 69 = .ok (.invokespecial 70, 3) := dk_183 0 70 (dk_at dksJ5_rangeCheck_3 0 rfl rfl)
theorem dJ5_rangeCheck_72 : decode cJ5_rangeCheck 72 = .ok (.athrow, 1) := dk_191 (dk_at dksJ5_rangeCheck_3 3 rfl rfl)
theorem dJ5_rangeCheck_73 : decode cJ5_rangeCheck 73 = .ok (.return_, 1) := dk_177 (dk_at dksJ5_rangeCheck_3 4 rfl rfl)
theorem q18 : (Jvm.Cond.initialized "java/util/Arrays") ∈ lw_all := lw_g (lw_at lw_m1 10 rfl) rfl
theorem q170 : (Jvm.Cond.static ({ cls := "java/util/Arrays", name := "fill", desc := "([BIIB)V" } : Jvm.MethodName)) ∈ lw_all := lw_g (lw_at lw_m1 162 rfl) rfl
theorem q171 : (Jvm.Cond.code ({ cls := "java/util/Arrays", name := "fill", desc := "([BIIB)V" } : Jvm.MethodName) prog_12_method_110_code (5 : Nat) (Option.none : Option Jvm.ClassFile.FieldType)) ∈ lw_all := lw_g (lw_at lw_m1 163 rfl) rfl
theorem q172 : (Jvm.Cond.methodLink "java/util/Arrays" (13 : Nat) ({ cls := "java/util/Arrays", name := "rangeCheck", desc := "(III)V" } : Jvm.MethodName)) ∈ lw_all := lw_g (lw_at lw_m1 164 rfl) rfl
theorem q173 : (Jvm.Cond.static ({ cls := "java/util/Arrays", name := "rangeCheck", desc := "(III)V" } : Jvm.MethodName)) ∈ lw_all := lw_g (lw_at lw_m1 165 rfl) rfl
theorem q174 : (Jvm.Cond.code ({ cls := "java/util/Arrays", name := "rangeCheck", desc := "(III)V" } : Jvm.MethodName) prog_12_method_30_code (3 : Nat) (Option.none : Option Jvm.ClassFile.FieldType)) ∈ lw_all := lw_g (lw_at lw_m1 166 rfl) rfl

/-! OneTimeTag -/
set_option maxRecDepth 100000
def RX0 : String := "OneTimeTag"
def TX0 : u_T := fun k => match k with
  | 0 => ("OneTimeTag", "text", "[B", true)
  | 1 => ("OneTimeTag", "size", "I", false)
  | 2 => ("OneTimeTag", "key", "[B", true)
  | _ => ("OneTimeTag", "tag", "[B", false)
def tyX0 : Nat → FieldType := fun k => match k with
  | 0 => .array .byte
  | 1 => .int
  | 2 => .array .byte
  | _ => .array .byte
abbrev wsX00 : List Cond := u_ws RX0 TX0 4
theorem nmX0 : ∀ a, a < 4 → ∀ b, b < 4 → a ≠ b → (TX0 a).2.1 ≠ (TX0 b).2.1 := by decide +kernel
theorem tyX0_ok : ∀ k, k < 4 → parseFieldDescriptor (TX0 k).2.2.1 = some (tyX0 k) := by decide +kernel
abbrev cX0_init : ByteArray := prog_1_method_1_code
def yX0_init : MethodName := ⟨RX0, "<init>", "()V"⟩
def dkwX0_init_1 : List UInt8 := [188, 8, 181, 0, 16, 177]
abbrev dktX0_init_1 : List UInt8 := dkwX0_init_1 ++ []
def dkwX0_init_0 : List UInt8 := [42, 183, 0, 1, 42, 17, 16, 0, 188, 8, 181, 0, 7, 42, 16, 32, 188, 8, 181, 0, 13, 42, 16, 16]
abbrev dktX0_init_0 : List UInt8 := dkwX0_init_0 ++ dktX0_init_1
theorem dksX0_init_0 : cX0_init.data.toList.drop 0 = dktX0_init_0 := by decide +kernel
theorem dksX0_init_1 : cX0_init.data.toList.drop 24 = dktX0_init_1 := dk_seg dksX0_init_0 24 rfl rfl
theorem dX0_init_0 : decode cX0_init 0 = .ok (.aload_n 0, 1) := dk_42 (dk_at dksX0_init_0 0 rfl rfl)
theorem dX0_init_1 : decode cX0_init 1 = .ok (.invokespecial 1, 3) := dk_183 0 1 (dk_at dksX0_init_0 1 rfl rfl)
theorem dX0_init_4 : decode cX0_init 4 = .ok (.aload_n 0, 1) := dk_42 (dk_at dksX0_init_0 4 rfl rfl)
theorem dX0_init_5 : decode cX0_init 5 = .ok (.sipush 4096, 3) := dk_17 16 0 (dk_at dksX0_init_0 5 rfl rfl)
theorem dX0_init_8 : decode cX0_init 8 = .ok (.newarray .byte, 2) := dk_188_8 (dk_at dksX0_init_0 8 rfl rfl)
theorem dX0_init_10 : decode cX0_init 10 = .ok (.putfield 7, 3) := dk_181 0 7 (dk_at dksX0_init_0 10 rfl rfl)
theorem dX0_init_13 : decode cX0_init 13 = .ok (.aload_n 0, 1) := dk_42 (dk_at dksX0_init_0 13 rfl rfl)
theorem dX0_init_14 : decode cX0_init 14 = .ok (.bipush 32, 2) := dk_16 32 (dk_at dksX0_init_0 14 rfl rfl)
theorem dX0_init_16 : decode cX0_init 16 = .ok (.newarray .byte, 2) := dk_188_8 (dk_at dksX0_init_0 16 rfl rfl)
theorem dX0_init_18 : decode cX0_init 18 = .ok (.putfield 13, 3) := dk_181 0 13 (dk_at dksX0_init_0 18 rfl rfl)
theorem dX0_init_21 : decode cX0_init 21 = .ok (.aload_n 0, 1) := dk_42 (dk_at dksX0_init_0 21 rfl rfl)
theorem dX0_init_22 : decode cX0_init 22 = .ok (.bipush 16, 2) := dk_16 16 (dk_at dksX0_init_0 22 rfl rfl)
theorem dX0_init_24 : decode cX0_init 24 = .ok (.newarray .byte, 2) := dk_188_8 (dk_at dksX0_init_1 0 rfl rfl)
theorem dX0_init_26 : decode cX0_init 26 = .ok (.putfield 16, 3) := dk_181 0 16 (dk_at dksX0_init_1 2 rfl rfl)
theorem dX0_init_29 : decode cX0_init 29 = .ok (.return_, 1) := dk_177 (dk_at dksX0_init_1 5 rfl rfl)
abbrev cX0_put : ByteArray := prog_1_method_2_code
def yX0_put : MethodName := ⟨RX0, "put", "(IIII)Z"⟩
def dkwX0_put_3 : List UInt8 := [181, 0, 19, 4, 172]
abbrev dktX0_put_3 : List UInt8 := dkwX0_put_3 ++ []
def dkwX0_put_2 : List UInt8 := [182, 0, 23, 42, 42, 180, 0, 19, 16, 12, 96, 21, 4, 182, 0, 23, 42, 89, 180, 0, 19, 16, 16, 96]
abbrev dktX0_put_2 : List UInt8 := dkwX0_put_2 ++ dktX0_put_3
def dkwX0_put_1 : List UInt8 := [182, 0, 23, 42, 42, 180, 0, 19, 7, 96, 28, 182, 0, 23, 42, 42, 180, 0, 19, 16, 8, 96, 29]
abbrev dktX0_put_1 : List UInt8 := dkwX0_put_1 ++ dktX0_put_2
def dkwX0_put_0 : List UInt8 := [42, 180, 0, 19, 42, 180, 0, 7, 190, 16, 16, 100, 164, 0, 5, 3, 172, 42, 42, 180, 0, 19, 27]
abbrev dktX0_put_0 : List UInt8 := dkwX0_put_0 ++ dktX0_put_1
theorem dksX0_put_0 : cX0_put.data.toList.drop 0 = dktX0_put_0 := by decide +kernel
theorem dksX0_put_1 : cX0_put.data.toList.drop 23 = dktX0_put_1 := dk_seg dksX0_put_0 23 rfl rfl
theorem dksX0_put_2 : cX0_put.data.toList.drop 46 = dktX0_put_2 := dk_seg dksX0_put_1 23 rfl rfl
theorem dksX0_put_3 : cX0_put.data.toList.drop 70 = dktX0_put_3 := dk_seg dksX0_put_2 24 rfl rfl
theorem dX0_put_0 : decode cX0_put 0 = .ok (.aload_n 0, 1) := dk_42 (dk_at dksX0_put_0 0 rfl rfl)
theorem dX0_put_1 : decode cX0_put 1 = .ok (.getfield 19, 3) := dk_180 0 19 (dk_at dksX0_put_0 1 rfl rfl)
theorem dX0_put_4 : decode cX0_put 4 = .ok (.aload_n 0, 1) := dk_42 (dk_at dksX0_put_0 4 rfl rfl)
theorem dX0_put_5 : decode cX0_put 5 = .ok (.getfield 7, 3) := dk_180 0 7 (dk_at dksX0_put_0 5 rfl rfl)
theorem dX0_put_8 : decode cX0_put 8 = .ok (.arraylength, 1) := dk_190 (dk_at dksX0_put_0 8 rfl rfl)
theorem dX0_put_9 : decode cX0_put 9 = .ok (.bipush 16, 2) := dk_16 16 (dk_at dksX0_put_0 9 rfl rfl)
theorem dX0_put_11 : decode cX0_put 11 = .ok (.isub, 1) := dk_100 (dk_at dksX0_put_0 11 rfl rfl)
theorem dX0_put_12 : decode cX0_put 12 = .ok (.if_icmp .le 5, 3) := dk_164 0 5 (dk_at dksX0_put_0 12 rfl rfl)
theorem dX0_put_15 : decode cX0_put 15 = .ok (.iconst 0, 1) := dk_3 (dk_at dksX0_put_0 15 rfl rfl)
theorem dX0_put_16 : decode cX0_put 16 = .ok (.ireturn, 1) := dk_172 (dk_at dksX0_put_0 16 rfl rfl)
theorem dX0_put_17 : decode cX0_put 17 = .ok (.aload_n 0, 1) := dk_42 (dk_at dksX0_put_0 17 rfl rfl)
theorem dX0_put_18 : decode cX0_put 18 = .ok (.aload_n 0, 1) := dk_42 (dk_at dksX0_put_0 18 rfl rfl)
theorem dX0_put_19 : decode cX0_put 19 = .ok (.getfield 19, 3) := dk_180 0 19 (dk_at dksX0_put_0 19 rfl rfl)
theorem dX0_put_22 : decode cX0_put 22 = .ok (.iload_n 1, 1) := dk_27 (dk_at dksX0_put_0 22 rfl rfl)
theorem dX0_put_23 : decode cX0_put 23 = .ok (.invokevirtual 23, 3) := dk_182 0 23 (dk_at dksX0_put_1 0 rfl rfl)
theorem dX0_put_26 : decode cX0_put 26 = .ok (.aload_n 0, 1) := dk_42 (dk_at dksX0_put_1 3 rfl rfl)
theorem dX0_put_27 : decode cX0_put 27 = .ok (.aload_n 0, 1) := dk_42 (dk_at dksX0_put_1 4 rfl rfl)
theorem dX0_put_28 : decode cX0_put 28 = .ok (.getfield 19, 3) := dk_180 0 19 (dk_at dksX0_put_1 5 rfl rfl)
theorem dX0_put_31 : decode cX0_put 31 = .ok (.iconst 4, 1) := dk_7 (dk_at dksX0_put_1 8 rfl rfl)
theorem dX0_put_32 : decode cX0_put 32 = .ok (.iadd, 1) := dk_96 (dk_at dksX0_put_1 9 rfl rfl)
theorem dX0_put_33 : decode cX0_put 33 = .ok (.iload_n 2, 1) := dk_28 (dk_at dksX0_put_1 10 rfl rfl)
theorem dX0_put_34 : decode cX0_put 34 = .ok (.invokevirtual 23, 3) := dk_182 0 23 (dk_at dksX0_put_1 11 rfl rfl)
theorem dX0_put_37 : decode cX0_put 37 = .ok (.aload_n 0, 1) := dk_42 (dk_at dksX0_put_1 14 rfl rfl)
theorem dX0_put_38 : decode cX0_put 38 = .ok (.aload_n 0, 1) := dk_42 (dk_at dksX0_put_1 15 rfl rfl)
theorem dX0_put_39 : decode cX0_put 39 = .ok (.getfield 19, 3) := dk_180 0 19 (dk_at dksX0_put_1 16 rfl rfl)
theorem dX0_put_42 : decode cX0_put 42 = .ok (.bipush 8, 2) := dk_16 8 (dk_at dksX0_put_1 19 rfl rfl)
theorem dX0_put_44 : decode cX0_put 44 = .ok (.iadd, 1) := dk_96 (dk_at dksX0_put_1 21 rfl rfl)
theorem dX0_put_45 : decode cX0_put 45 = .ok (.iload_n 3, 1) := dk_29 (dk_at dksX0_put_1 22 rfl rfl)
theorem dX0_put_46 : decode cX0_put 46 = .ok (.invokevirtual 23, 3) := dk_182 0 23 (dk_at dksX0_put_2 0 rfl rfl)
theorem dX0_put_49 : decode cX0_put 49 = .ok (.aload_n 0, 1) := dk_42 (dk_at dksX0_put_2 3 rfl rfl)
theorem dX0_put_50 : decode cX0_put 50 = .ok (.aload_n 0, 1) := dk_42 (dk_at dksX0_put_2 4 rfl rfl)
theorem dX0_put_51 : decode cX0_put 51 = .ok (.getfield 19, 3) := dk_180 0 19 (dk_at dksX0_put_2 5 rfl rfl)
theorem dX0_put_54 : decode cX0_put 54 = .ok (.bipush 12, 2) := dk_16 12 (dk_at dksX0_put_2 8 rfl rfl)
theorem dX0_put_56 : decode cX0_put 56 = .ok (.iadd, 1) := dk_96 (dk_at dksX0_put_2 10 rfl rfl)
theorem dX0_put_57 : decode cX0_put 57 = .ok (.iload 4, 2) := dk_21 4 (dk_at dksX0_put_2 11 rfl rfl)
theorem dX0_put_59 : decode cX0_put 59 = .ok (.invokevirtual 23, 3) := dk_182 0 23 (dk_at dksX0_put_2 13 rfl rfl)
theorem dX0_put_62 : decode cX0_put 62 = .ok (.aload_n 0, 1) := dk_42 (dk_at dksX0_put_2 16 rfl rfl)
theorem dX0_put_63 : decode cX0_put 63 = .ok (.dup, 1) := dk_89 (dk_at dksX0_put_2 17 rfl rfl)
theorem dX0_put_64 : decode cX0_put 64 = .ok (.getfield 19, 3) := dk_180 0 19 (dk_at dksX0_put_2 18 rfl rfl)
theorem dX0_put_67 : decode cX0_put 67 = .ok (.bipush 16, 2) := dk_16 16 (dk_at dksX0_put_2 21 rfl rfl)
theorem dX0_put_69 : decode cX0_put 69 = .ok (.iadd, 1) := dk_96 (dk_at dksX0_put_2 23 rfl rfl)
theorem dX0_put_70 : decode cX0_put 70 = .ok (.putfield 19, 3) := dk_181 0 19 (dk_at dksX0_put_3 0 rfl rfl)
theorem dX0_put_73 : decode cX0_put 73 = .ok (.iconst 1, 1) := dk_4 (dk_at dksX0_put_3 3 rfl rfl)
theorem dX0_put_74 : decode cX0_put 74 = .ok (.ireturn, 1) := dk_172 (dk_at dksX0_put_3 4 rfl rfl)
abbrev cX0_word : ByteArray := prog_1_method_3_code
def yX0_word : MethodName := ⟨RX0, "word", "(II)V"⟩
def dkwX0_word_1 : List UInt8 := [42, 180, 0, 7, 27, 5, 96, 28, 16, 8, 122, 145, 84, 42, 180, 0, 7, 27, 6, 96, 28, 145, 84, 177]
abbrev dktX0_word_1 : List UInt8 := dkwX0_word_1 ++ []
def dkwX0_word_0 : List UInt8 := [42, 180, 0, 7, 27, 28, 16, 24, 122, 145, 84, 42, 180, 0, 7, 27, 4, 96, 28, 16, 16, 122, 145, 84]
abbrev dktX0_word_0 : List UInt8 := dkwX0_word_0 ++ dktX0_word_1
theorem dksX0_word_0 : cX0_word.data.toList.drop 0 = dktX0_word_0 := by decide +kernel
theorem dksX0_word_1 : cX0_word.data.toList.drop 24 = dktX0_word_1 := dk_seg dksX0_word_0 24 rfl rfl
theorem dX0_word_0 : decode cX0_word 0 = .ok (.aload_n 0, 1) := dk_42 (dk_at dksX0_word_0 0 rfl rfl)
theorem dX0_word_1 : decode cX0_word 1 = .ok (.getfield 7, 3) := dk_180 0 7 (dk_at dksX0_word_0 1 rfl rfl)
theorem dX0_word_4 : decode cX0_word 4 = .ok (.iload_n 1, 1) := dk_27 (dk_at dksX0_word_0 4 rfl rfl)
theorem dX0_word_5 : decode cX0_word 5 = .ok (.iload_n 2, 1) := dk_28 (dk_at dksX0_word_0 5 rfl rfl)
theorem dX0_word_6 : decode cX0_word 6 = .ok (.bipush 24, 2) := dk_16 24 (dk_at dksX0_word_0 6 rfl rfl)
theorem dX0_word_8 : decode cX0_word 8 = .ok (.ishr, 1) := dk_122 (dk_at dksX0_word_0 8 rfl rfl)
theorem dX0_word_9 : decode cX0_word 9 = .ok (.i2b, 1) := dk_145 (dk_at dksX0_word_0 9 rfl rfl)
theorem dX0_word_10 : decode cX0_word 10 = .ok (.bastore, 1) := dk_84 (dk_at dksX0_word_0 10 rfl rfl)
theorem dX0_word_11 : decode cX0_word 11 = .ok (.aload_n 0, 1) := dk_42 (dk_at dksX0_word_0 11 rfl rfl)
theorem dX0_word_12 : decode cX0_word 12 = .ok (.getfield 7, 3) := dk_180 0 7 (dk_at dksX0_word_0 12 rfl rfl)
theorem dX0_word_15 : decode cX0_word 15 = .ok (.iload_n 1, 1) := dk_27 (dk_at dksX0_word_0 15 rfl rfl)
theorem dX0_word_16 : decode cX0_word 16 = .ok (.iconst 1, 1) := dk_4 (dk_at dksX0_word_0 16 rfl rfl)
theorem dX0_word_17 : decode cX0_word 17 = .ok (.iadd, 1) := dk_96 (dk_at dksX0_word_0 17 rfl rfl)
theorem dX0_word_18 : decode cX0_word 18 = .ok (.iload_n 2, 1) := dk_28 (dk_at dksX0_word_0 18 rfl rfl)
theorem dX0_word_19 : decode cX0_word 19 = .ok (.bipush 16, 2) := dk_16 16 (dk_at dksX0_word_0 19 rfl rfl)
theorem dX0_word_21 : decode cX0_word 21 = .ok (.ishr, 1) := dk_122 (dk_at dksX0_word_0 21 rfl rfl)
theorem dX0_word_22 : decode cX0_word 22 = .ok (.i2b, 1) := dk_145 (dk_at dksX0_word_0 22 rfl rfl)
theorem dX0_word_23 : decode cX0_word 23 = .ok (.bastore, 1) := dk_84 (dk_at dksX0_word_0 23 rfl rfl)
theorem dX0_word_24 : decode cX0_word 24 = .ok (.aload_n 0, 1) := dk_42 (dk_at dksX0_word_1 0 rfl rfl)
theorem dX0_word_25 : decode cX0_word 25 = .ok (.getfield 7, 3) := dk_180 0 7 (dk_at dksX0_word_1 1 rfl rfl)
theorem dX0_word_28 : decode cX0_word 28 = .ok (.iload_n 1, 1) := dk_27 (dk_at dksX0_word_1 4 rfl rfl)
theorem dX0_word_29 : decode cX0_word 29 = .ok (.iconst 2, 1) := dk_5 (dk_at dksX0_word_1 5 rfl rfl)
theorem dX0_word_30 : decode cX0_word 30 = .ok (.iadd, 1) := dk_96 (dk_at dksX0_word_1 6 rfl rfl)
theorem dX0_word_31 : decode cX0_word 31 = .ok (.iload_n 2, 1) := dk_28 (dk_at dksX0_word_1 7 rfl rfl)
theorem dX0_word_32 : decode cX0_word 32 = .ok (.bipush 8, 2) := dk_16 8 (dk_at dksX0_word_1 8 rfl rfl)
theorem dX0_word_34 : decode cX0_word 34 = .ok (.ishr, 1) := dk_122 (dk_at dksX0_word_1 10 rfl rfl)
theorem dX0_word_35 : decode cX0_word 35 = .ok (.i2b, 1) := dk_145 (dk_at dksX0_word_1 11 rfl rfl)
theorem dX0_word_36 : decode cX0_word 36 = .ok (.bastore, 1) := dk_84 (dk_at dksX0_word_1 12 rfl rfl)
theorem dX0_word_37 : decode cX0_word 37 = .ok (.aload_n 0, 1) := dk_42 (dk_at dksX0_word_1 13 rfl rfl)
theorem dX0_word_38 : decode cX0_word 38 = .ok (.getfield 7, 3) := dk_180 0 7 (dk_at dksX0_word_1 14 rfl rfl)
theorem dX0_word_41 : decode cX0_word 41 = .ok (.iload_n 1, 1) := dk_27 (dk_at dksX0_word_1 17 rfl rfl)
theorem dX0_word_42 : decode cX0_word 42 = .ok (.iconst 3, 1) := dk_6 (dk_at dksX0_word_1 18 rfl rfl)
theorem dX0_word_43 : decode cX0_word 43 = .ok (.iadd, 1) := dk_96 (dk_at dksX0_word_1 19 rfl rfl)
theorem dX0_word_44 : decode cX0_word 44 = .ok (.iload_n 2, 1) := dk_28 (dk_at dksX0_word_1 20 rfl rfl)
theorem dX0_word_45 : decode cX0_word 45 = .ok (.i2b, 1) := dk_145 (dk_at dksX0_word_1 21 rfl rfl)
theorem dX0_word_46 : decode cX0_word 46 = .ok (.bastore, 1) := dk_84 (dk_at dksX0_word_1 22 rfl rfl)
theorem dX0_word_47 : decode cX0_word 47 = .ok (.return_, 1) := dk_177 (dk_at dksX0_word_1 23 rfl rfl)
abbrev cX0_trim : ByteArray := prog_1_method_4_code
def yX0_trim : MethodName := ⟨RX0, "trim", "(I)V"⟩
def dkwX0_trim_0 : List UInt8 := [42, 42, 27, 182, 0, 27, 181, 0, 19, 177]
abbrev dktX0_trim_0 : List UInt8 := dkwX0_trim_0 ++ []
theorem dksX0_trim_0 : cX0_trim.data.toList.drop 0 = dktX0_trim_0 := by decide +kernel
theorem dX0_trim_0 : decode cX0_trim 0 = .ok (.aload_n 0, 1) := dk_42 (dk_at dksX0_trim_0 0 rfl rfl)
theorem dX0_trim_1 : decode cX0_trim 1 = .ok (.aload_n 0, 1) := dk_42 (dk_at dksX0_trim_0 1 rfl rfl)
theorem dX0_trim_2 : decode cX0_trim 2 = .ok (.iload_n 1, 1) := dk_27 (dk_at dksX0_trim_0 2 rfl rfl)
theorem dX0_trim_3 : decode cX0_trim 3 = .ok (.invokevirtual 27, 3) := dk_182 0 27 (dk_at dksX0_trim_0 3 rfl rfl)
theorem dX0_trim_6 : decode cX0_trim 6 = .ok (.putfield 19, 3) := dk_181 0 19 (dk_at dksX0_trim_0 6 rfl rfl)
theorem dX0_trim_9 : decode cX0_trim 9 = .ok (.return_, 1) := dk_177 (dk_at dksX0_trim_0 9 rfl rfl)
abbrev cX0_from : ByteArray := prog_1_method_6_code
def yX0_from : MethodName := ⟨RX0, "from", "(I)I"⟩
def dkwX0_from_0 : List UInt8 := [27, 18, 31, 126, 42, 180, 0, 19, 4, 96, 112, 172]
abbrev dktX0_from_0 : List UInt8 := dkwX0_from_0 ++ []
theorem dksX0_from_0 : cX0_from.data.toList.drop 0 = dktX0_from_0 := by decide +kernel
theorem dX0_from_0 : decode cX0_from 0 = .ok (.iload_n 1, 1) := dk_27 (dk_at dksX0_from_0 0 rfl rfl)
theorem dX0_from_1 : decode cX0_from 1 = .ok (.ldc 31, 2) := dk_18 31 (dk_at dksX0_from_0 1 rfl rfl)
theorem dX0_from_3 : decode cX0_from 3 = .ok (.iand, 1) := dk_126 (dk_at dksX0_from_0 3 rfl rfl)
theorem dX0_from_4 : decode cX0_from 4 = .ok (.aload_n 0, 1) := dk_42 (dk_at dksX0_from_0 4 rfl rfl)
theorem dX0_from_5 : decode cX0_from 5 = .ok (.getfield 19, 3) := dk_180 0 19 (dk_at dksX0_from_0 5 rfl rfl)
theorem dX0_from_8 : decode cX0_from 8 = .ok (.iconst 1, 1) := dk_4 (dk_at dksX0_from_0 8 rfl rfl)
theorem dX0_from_9 : decode cX0_from 9 = .ok (.iadd, 1) := dk_96 (dk_at dksX0_from_0 9 rfl rfl)
theorem dX0_from_10 : decode cX0_from 10 = .ok (.irem, 1) := dk_112 (dk_at dksX0_from_0 10 rfl rfl)
theorem dX0_from_11 : decode cX0_from 11 = .ok (.ireturn, 1) := dk_172 (dk_at dksX0_from_0 11 rfl rfl)
abbrev cX0_size : ByteArray := prog_1_method_5_code
def yX0_size : MethodName := ⟨RX0, "size", "()I"⟩
theorem dX0_size_0 : decode cX0_size 0 = .ok (.aload_n 0, 1) := by decide +kernel
theorem dX0_size_1 : decode cX0_size 1 = .ok (.getfield 19, 3) := by decide +kernel
theorem dX0_size_4 : decode cX0_size 4 = .ok (.ireturn, 1) := by decide +kernel
abbrev cX0_key : ByteArray := prog_1_method_8_code
def yX0_key : MethodName := ⟨RX0, "key", "(IIIII)V"⟩
def dkwX0_key_1 : List UInt8 := [21, 6, 16, 8, 96, 21, 4, 182, 0, 32, 42, 21, 6, 16, 12, 96, 21, 5, 182, 0, 32, 177]
abbrev dktX0_key_1 : List UInt8 := dkwX0_key_1 ++ []
def dkwX0_key_0 : List UInt8 := [27, 4, 126, 7, 120, 54, 6, 42, 21, 6, 28, 182, 0, 32, 42, 21, 6, 7, 96, 29, 182, 0, 32, 42]
abbrev dktX0_key_0 : List UInt8 := dkwX0_key_0 ++ dktX0_key_1
theorem dksX0_key_0 : cX0_key.data.toList.drop 0 = dktX0_key_0 := by decide +kernel
theorem dksX0_key_1 : cX0_key.data.toList.drop 24 = dktX0_key_1 := dk_seg dksX0_key_0 24 rfl rfl
theorem dX0_key_0 : decode cX0_key 0 = .ok (.iload_n 1, 1) := dk_27 (dk_at dksX0_key_0 0 rfl rfl)
theorem dX0_key_1 : decode cX0_key 1 = .ok (.iconst 1, 1) := dk_4 (dk_at dksX0_key_0 1 rfl rfl)
theorem dX0_key_2 : decode cX0_key 2 = .ok (.iand, 1) := dk_126 (dk_at dksX0_key_0 2 rfl rfl)
theorem dX0_key_3 : decode cX0_key 3 = .ok (.iconst 4, 1) := dk_7 (dk_at dksX0_key_0 3 rfl rfl)
theorem dX0_key_4 : decode cX0_key 4 = .ok (.ishl, 1) := dk_120 (dk_at dksX0_key_0 4 rfl rfl)
theorem dX0_key_5 : decode cX0_key 5 = .ok (.istore 6, 2) := dk_54 6 (dk_at dksX0_key_0 5 rfl rfl)
theorem dX0_key_7 : decode cX0_key 7 = .ok (.aload_n 0, 1) := dk_42 (dk_at dksX0_key_0 7 rfl rfl)
theorem dX0_key_8 : decode cX0_key 8 = .ok (.iload 6, 2) := dk_21 6 (dk_at dksX0_key_0 8 rfl rfl)
theorem dX0_key_10 : decode cX0_key 10 = .ok (.iload_n 2, 1) := dk_28 (dk_at dksX0_key_0 10 rfl rfl)
theorem dX0_key_11 : decode cX0_key 11 = .ok (.invokevirtual 32, 3) := dk_182 0 32 (dk_at dksX0_key_0 11 rfl rfl)
theorem dX0_key_14 : decode cX0_key 14 = .ok (.aload_n 0, 1) := dk_42 (dk_at dksX0_key_0 14 rfl rfl)
theorem dX0_key_15 : decode cX0_key 15 = .ok (.iload 6, 2) := dk_21 6 (dk_at dksX0_key_0 15 rfl rfl)
theorem dX0_key_17 : decode cX0_key 17 = .ok (.iconst 4, 1) := dk_7 (dk_at dksX0_key_0 17 rfl rfl)
theorem dX0_key_18 : decode cX0_key 18 = .ok (.iadd, 1) := dk_96 (dk_at dksX0_key_0 18 rfl rfl)
theorem dX0_key_19 : decode cX0_key 19 = .ok (.iload_n 3, 1) := dk_29 (dk_at dksX0_key_0 19 rfl rfl)
theorem dX0_key_20 : decode cX0_key 20 = .ok (.invokevirtual 32, 3) := dk_182 0 32 (dk_at dksX0_key_0 20 rfl rfl)
theorem dX0_key_23 : decode cX0_key 23 = .ok (.aload_n 0, 1) := dk_42 (dk_at dksX0_key_0 23 rfl rfl)
theorem dX0_key_24 : decode cX0_key 24 = .ok (.iload 6, 2) := dk_21 6 (dk_at dksX0_key_1 0 rfl rfl)
theorem dX0_key_26 : decode cX0_key 26 = .ok (.bipush 8, 2) := dk_16 8 (dk_at dksX0_key_1 2 rfl rfl)
theorem dX0_key_28 : decode cX0_key 28 = .ok (.iadd, 1) := dk_96 (dk_at dksX0_key_1 4 rfl rfl)
theorem dX0_key_29 : decode cX0_key 29 = .ok (.iload 4, 2) := dk_21 4 (dk_at dksX0_key_1 5 rfl rfl)
theorem dX0_key_31 : decode cX0_key 31 = .ok (.invokevirtual 32, 3) := dk_182 0 32 (dk_at dksX0_key_1 7 rfl rfl)
theorem dX0_key_34 : decode cX0_key 34 = .ok (.aload_n 0, 1) := dk_42 (dk_at dksX0_key_1 10 rfl rfl)
theorem dX0_key_35 : decode cX0_key 35 = .ok (.iload 6, 2) := dk_21 6 (dk_at dksX0_key_1 11 rfl rfl)
theorem dX0_key_37 : decode cX0_key 37 = .ok (.bipush 12, 2) := dk_16 12 (dk_at dksX0_key_1 13 rfl rfl)
theorem dX0_key_39 : decode cX0_key 39 = .ok (.iadd, 1) := dk_96 (dk_at dksX0_key_1 15 rfl rfl)
theorem dX0_key_40 : decode cX0_key 40 = .ok (.iload 5, 2) := dk_21 5 (dk_at dksX0_key_1 16 rfl rfl)
theorem dX0_key_42 : decode cX0_key 42 = .ok (.invokevirtual 32, 3) := dk_182 0 32 (dk_at dksX0_key_1 18 rfl rfl)
theorem dX0_key_45 : decode cX0_key 45 = .ok (.return_, 1) := dk_177 (dk_at dksX0_key_1 21 rfl rfl)
abbrev cX0_k : ByteArray := prog_1_method_9_code
def yX0_k : MethodName := ⟨RX0, "k", "(II)V"⟩
def dkwX0_k_1 : List UInt8 := [42, 180, 0, 13, 27, 5, 96, 28, 16, 8, 122, 145, 84, 42, 180, 0, 13, 27, 6, 96, 28, 145, 84, 177]
abbrev dktX0_k_1 : List UInt8 := dkwX0_k_1 ++ []
def dkwX0_k_0 : List UInt8 := [42, 180, 0, 13, 27, 28, 16, 24, 122, 145, 84, 42, 180, 0, 13, 27, 4, 96, 28, 16, 16, 122, 145, 84]
abbrev dktX0_k_0 : List UInt8 := dkwX0_k_0 ++ dktX0_k_1
theorem dksX0_k_0 : cX0_k.data.toList.drop 0 = dktX0_k_0 := by decide +kernel
theorem dksX0_k_1 : cX0_k.data.toList.drop 24 = dktX0_k_1 := dk_seg dksX0_k_0 24 rfl rfl
theorem dX0_k_0 : decode cX0_k 0 = .ok (.aload_n 0, 1) := dk_42 (dk_at dksX0_k_0 0 rfl rfl)
theorem dX0_k_1 : decode cX0_k 1 = .ok (.getfield 13, 3) := dk_180 0 13 (dk_at dksX0_k_0 1 rfl rfl)
theorem dX0_k_4 : decode cX0_k 4 = .ok (.iload_n 1, 1) := dk_27 (dk_at dksX0_k_0 4 rfl rfl)
theorem dX0_k_5 : decode cX0_k 5 = .ok (.iload_n 2, 1) := dk_28 (dk_at dksX0_k_0 5 rfl rfl)
theorem dX0_k_6 : decode cX0_k 6 = .ok (.bipush 24, 2) := dk_16 24 (dk_at dksX0_k_0 6 rfl rfl)
theorem dX0_k_8 : decode cX0_k 8 = .ok (.ishr, 1) := dk_122 (dk_at dksX0_k_0 8 rfl rfl)
theorem dX0_k_9 : decode cX0_k 9 = .ok (.i2b, 1) := dk_145 (dk_at dksX0_k_0 9 rfl rfl)
theorem dX0_k_10 : decode cX0_k 10 = .ok (.bastore, 1) := dk_84 (dk_at dksX0_k_0 10 rfl rfl)
theorem dX0_k_11 : decode cX0_k 11 = .ok (.aload_n 0, 1) := dk_42 (dk_at dksX0_k_0 11 rfl rfl)
theorem dX0_k_12 : decode cX0_k 12 = .ok (.getfield 13, 3) := dk_180 0 13 (dk_at dksX0_k_0 12 rfl rfl)
theorem dX0_k_15 : decode cX0_k 15 = .ok (.iload_n 1, 1) := dk_27 (dk_at dksX0_k_0 15 rfl rfl)
theorem dX0_k_16 : decode cX0_k 16 = .ok (.iconst 1, 1) := dk_4 (dk_at dksX0_k_0 16 rfl rfl)
theorem dX0_k_17 : decode cX0_k 17 = .ok (.iadd, 1) := dk_96 (dk_at dksX0_k_0 17 rfl rfl)
theorem dX0_k_18 : decode cX0_k 18 = .ok (.iload_n 2, 1) := dk_28 (dk_at dksX0_k_0 18 rfl rfl)
theorem dX0_k_19 : decode cX0_k 19 = .ok (.bipush 16, 2) := dk_16 16 (dk_at dksX0_k_0 19 rfl rfl)
theorem dX0_k_21 : decode cX0_k 21 = .ok (.ishr, 1) := dk_122 (dk_at dksX0_k_0 21 rfl rfl)
theorem dX0_k_22 : decode cX0_k 22 = .ok (.i2b, 1) := dk_145 (dk_at dksX0_k_0 22 rfl rfl)
theorem dX0_k_23 : decode cX0_k 23 = .ok (.bastore, 1) := dk_84 (dk_at dksX0_k_0 23 rfl rfl)
theorem dX0_k_24 : decode cX0_k 24 = .ok (.aload_n 0, 1) := dk_42 (dk_at dksX0_k_1 0 rfl rfl)
theorem dX0_k_25 : decode cX0_k 25 = .ok (.getfield 13, 3) := dk_180 0 13 (dk_at dksX0_k_1 1 rfl rfl)
theorem dX0_k_28 : decode cX0_k 28 = .ok (.iload_n 1, 1) := dk_27 (dk_at dksX0_k_1 4 rfl rfl)
theorem dX0_k_29 : decode cX0_k 29 = .ok (.iconst 2, 1) := dk_5 (dk_at dksX0_k_1 5 rfl rfl)
theorem dX0_k_30 : decode cX0_k 30 = .ok (.iadd, 1) := dk_96 (dk_at dksX0_k_1 6 rfl rfl)
theorem dX0_k_31 : decode cX0_k 31 = .ok (.iload_n 2, 1) := dk_28 (dk_at dksX0_k_1 7 rfl rfl)
theorem dX0_k_32 : decode cX0_k 32 = .ok (.bipush 8, 2) := dk_16 8 (dk_at dksX0_k_1 8 rfl rfl)
theorem dX0_k_34 : decode cX0_k 34 = .ok (.ishr, 1) := dk_122 (dk_at dksX0_k_1 10 rfl rfl)
theorem dX0_k_35 : decode cX0_k 35 = .ok (.i2b, 1) := dk_145 (dk_at dksX0_k_1 11 rfl rfl)
theorem dX0_k_36 : decode cX0_k 36 = .ok (.bastore, 1) := dk_84 (dk_at dksX0_k_1 12 rfl rfl)
theorem dX0_k_37 : decode cX0_k 37 = .ok (.aload_n 0, 1) := dk_42 (dk_at dksX0_k_1 13 rfl rfl)
theorem dX0_k_38 : decode cX0_k 38 = .ok (.getfield 13, 3) := dk_180 0 13 (dk_at dksX0_k_1 14 rfl rfl)
theorem dX0_k_41 : decode cX0_k 41 = .ok (.iload_n 1, 1) := dk_27 (dk_at dksX0_k_1 17 rfl rfl)
theorem dX0_k_42 : decode cX0_k 42 = .ok (.iconst 3, 1) := dk_6 (dk_at dksX0_k_1 18 rfl rfl)
theorem dX0_k_43 : decode cX0_k 43 = .ok (.iadd, 1) := dk_96 (dk_at dksX0_k_1 19 rfl rfl)
theorem dX0_k_44 : decode cX0_k 44 = .ok (.iload_n 2, 1) := dk_28 (dk_at dksX0_k_1 20 rfl rfl)
theorem dX0_k_45 : decode cX0_k 45 = .ok (.i2b, 1) := dk_145 (dk_at dksX0_k_1 21 rfl rfl)
theorem dX0_k_46 : decode cX0_k 46 = .ok (.bastore, 1) := dk_84 (dk_at dksX0_k_1 22 rfl rfl)
theorem dX0_k_47 : decode cX0_k 47 = .ok (.return_, 1) := dk_177 (dk_at dksX0_k_1 23 rfl rfl)
abbrev cX0_tag : ByteArray := prog_1_method_10_code
def yX0_tag : MethodName := ⟨RX0, "tag", "(II)V"⟩
def dkwX0_tag_1 : List UInt8 := [25, 4, 190, 184, 0, 39, 42, 42, 180, 0, 13, 25, 4, 184, 0, 45, 181, 0, 16, 177]
abbrev dktX0_tag_1 : List UInt8 := dkwX0_tag_1 ++ []
def dkwX0_tag_0 : List UInt8 := [42, 27, 182, 0, 27, 62, 42, 29, 28, 182, 0, 35, 188, 8, 58, 4, 42, 180, 0, 7, 29, 25, 4, 3]
abbrev dktX0_tag_0 : List UInt8 := dkwX0_tag_0 ++ dktX0_tag_1
theorem dksX0_tag_0 : cX0_tag.data.toList.drop 0 = dktX0_tag_0 := by decide +kernel
theorem dksX0_tag_1 : cX0_tag.data.toList.drop 24 = dktX0_tag_1 := dk_seg dksX0_tag_0 24 rfl rfl
theorem dX0_tag_0 : decode cX0_tag 0 = .ok (.aload_n 0, 1) := dk_42 (dk_at dksX0_tag_0 0 rfl rfl)
theorem dX0_tag_1 : decode cX0_tag 1 = .ok (.iload_n 1, 1) := dk_27 (dk_at dksX0_tag_0 1 rfl rfl)
theorem dX0_tag_2 : decode cX0_tag 2 = .ok (.invokevirtual 27, 3) := dk_182 0 27 (dk_at dksX0_tag_0 2 rfl rfl)
theorem dX0_tag_5 : decode cX0_tag 5 = .ok (.istore_n 3, 1) := dk_62 (dk_at dksX0_tag_0 5 rfl rfl)
theorem dX0_tag_6 : decode cX0_tag 6 = .ok (.aload_n 0, 1) := dk_42 (dk_at dksX0_tag_0 6 rfl rfl)
theorem dX0_tag_7 : decode cX0_tag 7 = .ok (.iload_n 3, 1) := dk_29 (dk_at dksX0_tag_0 7 rfl rfl)
theorem dX0_tag_8 : decode cX0_tag 8 = .ok (.iload_n 2, 1) := dk_28 (dk_at dksX0_tag_0 8 rfl rfl)
theorem dX0_tag_9 : decode cX0_tag 9 = .ok (.invokevirtual 35, 3) := dk_182 0 35 (dk_at dksX0_tag_0 9 rfl rfl)
theorem dX0_tag_12 : decode cX0_tag 12 = .ok (.newarray .byte, 2) := dk_188_8 (dk_at dksX0_tag_0 12 rfl rfl)
theorem dX0_tag_14 : decode cX0_tag 14 = .ok (.astore 4, 2) := dk_58 4 (dk_at dksX0_tag_0 14 rfl rfl)
theorem dX0_tag_16 : decode cX0_tag 16 = .ok (.aload_n 0, 1) := dk_42 (dk_at dksX0_tag_0 16 rfl rfl)
theorem dX0_tag_17 : decode cX0_tag 17 = .ok (.getfield 7, 3) := dk_180 0 7 (dk_at dksX0_tag_0 17 rfl rfl)
theorem dX0_tag_20 : decode cX0_tag 20 = .ok (.iload_n 3, 1) := dk_29 (dk_at dksX0_tag_0 20 rfl rfl)
theorem dX0_tag_21 : decode cX0_tag 21 = .ok (.aload 4, 2) := dk_25 4 (dk_at dksX0_tag_0 21 rfl rfl)
theorem dX0_tag_23 : decode cX0_tag 23 = .ok (.iconst 0, 1) := dk_3 (dk_at dksX0_tag_0 23 rfl rfl)
theorem dX0_tag_24 : decode cX0_tag 24 = .ok (.aload 4, 2) := dk_25 4 (dk_at dksX0_tag_1 0 rfl rfl)
theorem dX0_tag_26 : decode cX0_tag 26 = .ok (.arraylength, 1) := dk_190 (dk_at dksX0_tag_1 2 rfl rfl)
theorem dX0_tag_27 : decode cX0_tag 27 = .ok (.invokestatic 39, 3) := dk_184 0 39 (dk_at dksX0_tag_1 3 rfl rfl)
theorem dX0_tag_30 : decode cX0_tag 30 = .ok (.aload_n 0, 1) := dk_42 (dk_at dksX0_tag_1 6 rfl rfl)
theorem dX0_tag_31 : decode cX0_tag 31 = .ok (.aload_n 0, 1) := dk_42 (dk_at dksX0_tag_1 7 rfl rfl)
theorem dX0_tag_32 : decode cX0_tag 32 = .ok (.getfield 13, 3) := dk_180 0 13 (dk_at dksX0_tag_1 8 rfl rfl)
theorem dX0_tag_35 : decode cX0_tag 35 = .ok (.aload 4, 2) := dk_25 4 (dk_at dksX0_tag_1 11 rfl rfl)
theorem dX0_tag_37 : decode cX0_tag 37 = .ok (.invokestatic 45, 3) := dk_184 0 45 (dk_at dksX0_tag_1 13 rfl rfl)
theorem dX0_tag_40 : decode cX0_tag 40 = .ok (.putfield 16, 3) := dk_181 0 16 (dk_at dksX0_tag_1 16 rfl rfl)
theorem dX0_tag_43 : decode cX0_tag 43 = .ok (.return_, 1) := dk_177 (dk_at dksX0_tag_1 19 rfl rfl)
abbrev cX0_count : ByteArray := prog_1_method_7_code
def yX0_count : MethodName := ⟨RX0, "count", "(II)I"⟩
def dkwX0_count_0 : List UInt8 := [28, 18, 31, 126, 42, 180, 0, 19, 27, 100, 4, 96, 112, 172]
abbrev dktX0_count_0 : List UInt8 := dkwX0_count_0 ++ []
theorem dksX0_count_0 : cX0_count.data.toList.drop 0 = dktX0_count_0 := by decide +kernel
theorem dX0_count_0 : decode cX0_count 0 = .ok (.iload_n 2, 1) := dk_28 (dk_at dksX0_count_0 0 rfl rfl)
theorem dX0_count_1 : decode cX0_count 1 = .ok (.ldc 31, 2) := dk_18 31 (dk_at dksX0_count_0 1 rfl rfl)
theorem dX0_count_3 : decode cX0_count 3 = .ok (.iand, 1) := dk_126 (dk_at dksX0_count_0 3 rfl rfl)
theorem dX0_count_4 : decode cX0_count 4 = .ok (.aload_n 0, 1) := dk_42 (dk_at dksX0_count_0 4 rfl rfl)
theorem dX0_count_5 : decode cX0_count 5 = .ok (.getfield 19, 3) := dk_180 0 19 (dk_at dksX0_count_0 5 rfl rfl)
theorem dX0_count_8 : decode cX0_count 8 = .ok (.iload_n 1, 1) := dk_27 (dk_at dksX0_count_0 8 rfl rfl)
theorem dX0_count_9 : decode cX0_count 9 = .ok (.isub, 1) := dk_100 (dk_at dksX0_count_0 9 rfl rfl)
theorem dX0_count_10 : decode cX0_count 10 = .ok (.iconst 1, 1) := dk_4 (dk_at dksX0_count_0 10 rfl rfl)
theorem dX0_count_11 : decode cX0_count 11 = .ok (.iadd, 1) := dk_96 (dk_at dksX0_count_0 11 rfl rfl)
theorem dX0_count_12 : decode cX0_count 12 = .ok (.irem, 1) := dk_112 (dk_at dksX0_count_0 12 rfl rfl)
theorem dX0_count_13 : decode cX0_count 13 = .ok (.ireturn, 1) := dk_172 (dk_at dksX0_count_0 13 rfl rfl)
abbrev cX0_answer : ByteArray := prog_1_method_11_code
def yX0_answer : MethodName := ⟨RX0, "answe\x72", "(I)I"⟩
def dkwX0_answer_0 : List UInt8 := [42, 180, 0, 16, 27, 16, 15, 126, 51, 17, 0, 255, 126, 172]
abbrev dktX0_answer_0 : List UInt8 := dkwX0_answer_0 ++ []
theorem dksX0_answer_0 : cX0_answer.data.toList.drop 0 = dktX0_answer_0 := by decide +kernel
theorem dX0_answer_0 : decode cX0_answer 0 = .ok (.aload_n 0, 1) := dk_42 (dk_at dksX0_answer_0 0 rfl rfl)
theorem dX0_answer_1 : decode cX0_answer 1 = .ok (.getfield 16, 3) := dk_180 0 16 (dk_at dksX0_answer_0 1 rfl rfl)
theorem dX0_answer_4 : decode cX0_answer 4 = .ok (.iload_n 1, 1) := dk_27 (dk_at dksX0_answer_0 4 rfl rfl)
theorem dX0_answer_5 : decode cX0_answer 5 = .ok (.bipush 15, 2) := dk_16 15 (dk_at dksX0_answer_0 5 rfl rfl)
theorem dX0_answer_7 : decode cX0_answer 7 = .ok (.iand, 1) := dk_126 (dk_at dksX0_answer_0 7 rfl rfl)
theorem dX0_answer_8 : decode cX0_answer 8 = .ok (.baload, 1) := dk_51 (dk_at dksX0_answer_0 8 rfl rfl)
theorem dX0_answer_9 : decode cX0_answer 9 = .ok (.sipush 255, 3) := dk_17 0 255 (dk_at dksX0_answer_0 9 rfl rfl)
theorem dX0_answer_12 : decode cX0_answer 12 = .ok (.iand, 1) := dk_126 (dk_at dksX0_answer_0 12 rfl rfl)
theorem dX0_answer_13 : decode cX0_answer 13 = .ok (.ireturn, 1) := dk_172 (dk_at dksX0_answer_0 13 rfl rfl)
theorem q9 : (Jvm.Cond.initialized "OneTimeTag") ∈ lw_all := lw_g (lw_at lw_m1 1 rfl) rfl
theorem q20 : (Jvm.Cond.instantiable "OneTimeTag" (4 : Nat)) ∈ lw_all := lw_g (lw_at lw_m1 12 rfl) rfl
theorem q22 : (Jvm.Cond.instanceMethod ({ cls := "OneTimeTag", name := "<init>", desc := "()V" } : Jvm.MethodName)) ∈ lw_all := lw_g (lw_at lw_m1 14 rfl) rfl
theorem q23 : (Jvm.Cond.code ({ cls := "OneTimeTag", name := "<init>", desc := "()V" } : Jvm.MethodName) prog_1_method_1_code (1 : Nat) (Option.none : Option Jvm.ClassFile.FieldType)) ∈ lw_all := lw_g (lw_at lw_m1 15 rfl) rfl
theorem q24 : (Jvm.Cond.methodLink "OneTimeTag" (1 : Nat) ({ cls := "java/lang/Object", name := "<init>", desc := "()V" } : Jvm.MethodName)) ∈ lw_all := lw_g (lw_at lw_m1 16 rfl) rfl
theorem q27 : (Jvm.Cond.fieldLink "OneTimeTag" (7 : Nat) "OneTimeTag" "text" "[B") ∈ lw_all := lw_g (lw_at lw_m1 19 rfl) rfl
theorem q28 : (Jvm.Cond.fieldLink "OneTimeTag" (19 : Nat) "OneTimeTag" "size" "I") ∈ lw_all := lw_g (lw_at lw_m1 20 rfl) rfl
theorem q29 : (Jvm.Cond.fieldLink "OneTimeTag" (13 : Nat) "OneTimeTag" "key" "[B") ∈ lw_all := lw_g (lw_at lw_m1 21 rfl) rfl
theorem q30 : (Jvm.Cond.fieldLink "OneTimeTag" (16 : Nat) "OneTimeTag" "tag" "[B") ∈ lw_all := lw_g (lw_at lw_m1 22 rfl) rfl
theorem q31 : (Jvm.Cond.laysFinal "OneTimeTag" "OneTimeTag" "text" "[B") ∈ lw_all := lw_g (lw_at lw_m1 23 rfl) rfl
theorem q32 : (Jvm.Cond.soleField "OneTimeTag" "text") ∈ lw_all := lw_g (lw_at lw_m1 24 rfl) rfl
theorem q33 : (Jvm.Cond.lays "OneTimeTag" "OneTimeTag" "size" "I") ∈ lw_all := lw_g (lw_at lw_m1 25 rfl) rfl
theorem q34 : (Jvm.Cond.soleField "OneTimeTag" "size") ∈ lw_all := lw_g (lw_at lw_m1 26 rfl) rfl
theorem q35 : (Jvm.Cond.laysFinal "OneTimeTag" "OneTimeTag" "key" "[B") ∈ lw_all := lw_g (lw_at lw_m1 27 rfl) rfl
theorem q36 : (Jvm.Cond.soleField "OneTimeTag" "key") ∈ lw_all := lw_g (lw_at lw_m1 28 rfl) rfl
theorem q37 : (Jvm.Cond.lays "OneTimeTag" "OneTimeTag" "tag" "[B") ∈ lw_all := lw_g (lw_at lw_m1 29 rfl) rfl
theorem q38 : (Jvm.Cond.soleField "OneTimeTag" "tag") ∈ lw_all := lw_g (lw_at lw_m1 30 rfl) rfl
theorem q39 : (Jvm.Cond.superclass "OneTimeTag" "java/lang/Object") ∈ lw_all := lw_g (lw_at lw_m1 31 rfl) rfl
theorem q42 : (Jvm.Cond.instanceMethod ({ cls := "OneTimeTag", name := "put", desc := "(IIII)Z" } : Jvm.MethodName)) ∈ lw_all := lw_g (lw_at lw_m1 34 rfl) rfl
theorem q43 : (Jvm.Cond.selects "OneTimeTag" ({ cls := "OneTimeTag", name := "put", desc := "(IIII)Z" } : Jvm.MethodName) ({ cls := "OneTimeTag", name := "put", desc := "(IIII)Z" } : Jvm.MethodName)) ∈ lw_all := lw_g (lw_at lw_m1 35 rfl) rfl
theorem q44 : (Jvm.Cond.code ({ cls := "OneTimeTag", name := "put", desc := "(IIII)Z" } : Jvm.MethodName) prog_1_method_2_code (5 : Nat) (Option.some Jvm.ClassFile.FieldType.boolean)) ∈ lw_all := lw_g (lw_at lw_m1 36 rfl) rfl
theorem q45 : (Jvm.Cond.methodLink "OneTimeTag" (23 : Nat) ({ cls := "OneTimeTag", name := "word", desc := "(II)V" } : Jvm.MethodName)) ∈ lw_all := lw_g (lw_at lw_m1 37 rfl) rfl
theorem q46 : (Jvm.Cond.privateMethod ({ cls := "OneTimeTag", name := "word", desc := "(II)V" } : Jvm.MethodName)) ∈ lw_tbl := lw_at lw_m1 38 rfl
theorem q47 : (Jvm.Cond.instanceMethod ({ cls := "OneTimeTag", name := "word", desc := "(II)V" } : Jvm.MethodName)) ∈ lw_all := lw_g (lw_at lw_m1 39 rfl) rfl
theorem q48 : (Jvm.Cond.code ({ cls := "OneTimeTag", name := "word", desc := "(II)V" } : Jvm.MethodName) prog_1_method_3_code (3 : Nat) (Option.none : Option Jvm.ClassFile.FieldType)) ∈ lw_all := lw_g (lw_at lw_m1 40 rfl) rfl
theorem q50 : (Jvm.Cond.instanceMethod ({ cls := "OneTimeTag", name := "trim", desc := "(I)V" } : Jvm.MethodName)) ∈ lw_all := lw_g (lw_at lw_m1 42 rfl) rfl
theorem q51 : (Jvm.Cond.selects "OneTimeTag" ({ cls := "OneTimeTag", name := "trim", desc := "(I)V" } : Jvm.MethodName) ({ cls := "OneTimeTag", name := "trim", desc := "(I)V" } : Jvm.MethodName)) ∈ lw_all := lw_g (lw_at lw_m1 43 rfl) rfl
theorem q52 : (Jvm.Cond.code ({ cls := "OneTimeTag", name := "trim", desc := "(I)V" } : Jvm.MethodName) prog_1_method_4_code (2 : Nat) (Option.none : Option Jvm.ClassFile.FieldType)) ∈ lw_all := lw_g (lw_at lw_m1 44 rfl) rfl
theorem q53 : (Jvm.Cond.methodLink "OneTimeTag" (27 : Nat) ({ cls := "OneTimeTag", name := "from", desc := "(I)I" } : Jvm.MethodName)) ∈ lw_all := lw_g (lw_at lw_m1 45 rfl) rfl
theorem q54 : (Jvm.Cond.privateMethod ({ cls := "OneTimeTag", name := "from", desc := "(I)I" } : Jvm.MethodName)) ∈ lw_tbl := lw_at lw_m1 46 rfl
theorem q55 : (Jvm.Cond.instanceMethod ({ cls := "OneTimeTag", name := "from", desc := "(I)I" } : Jvm.MethodName)) ∈ lw_all := lw_g (lw_at lw_m1 47 rfl) rfl
theorem q56 : (Jvm.Cond.code ({ cls := "OneTimeTag", name := "from", desc := "(I)I" } : Jvm.MethodName) prog_1_method_6_code (2 : Nat) (Option.some Jvm.ClassFile.FieldType.int)) ∈ lw_all := lw_g (lw_at lw_m1 48 rfl) rfl
theorem q57 : (Jvm.Cond.constant "OneTimeTag" (31 : Nat) (2147483647 : Int32)) ∈ lw_all := lw_g (lw_at lw_m1 49 rfl) rfl
theorem q59 : (Jvm.Cond.instanceMethod ({ cls := "OneTimeTag", name := "size", desc := "()I" } : Jvm.MethodName)) ∈ lw_all := lw_g (lw_at lw_m1 51 rfl) rfl
theorem q60 : (Jvm.Cond.selects "OneTimeTag" ({ cls := "OneTimeTag", name := "size", desc := "()I" } : Jvm.MethodName) ({ cls := "OneTimeTag", name := "size", desc := "()I" } : Jvm.MethodName)) ∈ lw_all := lw_g (lw_at lw_m1 52 rfl) rfl
theorem q61 : (Jvm.Cond.code ({ cls := "OneTimeTag", name := "size", desc := "()I" } : Jvm.MethodName) prog_1_method_5_code (1 : Nat) (Option.some Jvm.ClassFile.FieldType.int)) ∈ lw_all := lw_g (lw_at lw_m1 53 rfl) rfl
theorem q63 : (Jvm.Cond.instanceMethod ({ cls := "OneTimeTag", name := "key", desc := "(IIIII)V" } : Jvm.MethodName)) ∈ lw_all := lw_g (lw_at lw_m1 55 rfl) rfl
theorem q64 : (Jvm.Cond.selects "OneTimeTag" ({ cls := "OneTimeTag", name := "key", desc := "(IIIII)V" } : Jvm.MethodName) ({ cls := "OneTimeTag", name := "key", desc := "(IIIII)V" } : Jvm.MethodName)) ∈ lw_all := lw_g (lw_at lw_m1 56 rfl) rfl
theorem q65 : (Jvm.Cond.code ({ cls := "OneTimeTag", name := "key", desc := "(IIIII)V" } : Jvm.MethodName) prog_1_method_8_code (7 : Nat) (Option.none : Option Jvm.ClassFile.FieldType)) ∈ lw_all := lw_g (lw_at lw_m1 57 rfl) rfl
theorem q66 : (Jvm.Cond.methodLink "OneTimeTag" (32 : Nat) ({ cls := "OneTimeTag", name := "k", desc := "(II)V" } : Jvm.MethodName)) ∈ lw_all := lw_g (lw_at lw_m1 58 rfl) rfl
theorem q67 : (Jvm.Cond.privateMethod ({ cls := "OneTimeTag", name := "k", desc := "(II)V" } : Jvm.MethodName)) ∈ lw_tbl := lw_at lw_m1 59 rfl
theorem q68 : (Jvm.Cond.instanceMethod ({ cls := "OneTimeTag", name := "k", desc := "(II)V" } : Jvm.MethodName)) ∈ lw_all := lw_g (lw_at lw_m1 60 rfl) rfl
theorem q69 : (Jvm.Cond.code ({ cls := "OneTimeTag", name := "k", desc := "(II)V" } : Jvm.MethodName) prog_1_method_9_code (3 : Nat) (Option.none : Option Jvm.ClassFile.FieldType)) ∈ lw_all := lw_g (lw_at lw_m1 61 rfl) rfl
theorem q71 : (Jvm.Cond.instanceMethod ({ cls := "OneTimeTag", name := "tag", desc := "(II)V" } : Jvm.MethodName)) ∈ lw_all := lw_g (lw_at lw_m1 63 rfl) rfl
theorem q72 : (Jvm.Cond.selects "OneTimeTag" ({ cls := "OneTimeTag", name := "tag", desc := "(II)V" } : Jvm.MethodName) ({ cls := "OneTimeTag", name := "tag", desc := "(II)V" } : Jvm.MethodName)) ∈ lw_all := lw_g (lw_at lw_m1 64 rfl) rfl
theorem q73 : (Jvm.Cond.code ({ cls := "OneTimeTag", name := "tag", desc := "(II)V" } : Jvm.MethodName) prog_1_method_10_code (5 : Nat) (Option.none : Option Jvm.ClassFile.FieldType)) ∈ lw_all := lw_g (lw_at lw_m1 65 rfl) rfl
theorem q74 : (Jvm.Cond.methodLink "OneTimeTag" (35 : Nat) ({ cls := "OneTimeTag", name := "count", desc := "(II)I" } : Jvm.MethodName)) ∈ lw_all := lw_g (lw_at lw_m1 66 rfl) rfl
theorem q75 : (Jvm.Cond.privateMethod ({ cls := "OneTimeTag", name := "count", desc := "(II)I" } : Jvm.MethodName)) ∈ lw_tbl := lw_at lw_m1 67 rfl
theorem q76 : (Jvm.Cond.instanceMethod ({ cls := "OneTimeTag", name := "count", desc := "(II)I" } : Jvm.MethodName)) ∈ lw_all := lw_g (lw_at lw_m1 68 rfl) rfl
theorem q77 : (Jvm.Cond.code ({ cls := "OneTimeTag", name := "count", desc := "(II)I" } : Jvm.MethodName) prog_1_method_7_code (3 : Nat) (Option.some Jvm.ClassFile.FieldType.int)) ∈ lw_all := lw_g (lw_at lw_m1 69 rfl) rfl
theorem q78 : (Jvm.Cond.methodLink "OneTimeTag" (39 : Nat) ({ cls := "java/lang/System", name := "arraycopy", desc := "(Ljava/lang/Object;ILjava/lang/Object;II)V" } : Jvm.MethodName)) ∈ lw_all := lw_g (lw_at lw_m1 70 rfl) rfl
theorem q81 : (Jvm.Cond.methodLink "OneTimeTag" (45 : Nat) ({ cls := "Poly1305", name := "computeMac", desc := "([B[B)[B" } : Jvm.MethodName)) ∈ lw_all := lw_g (lw_at lw_m1 73 rfl) rfl
theorem q182 : (Jvm.Cond.instanceMethod ({ cls := "OneTimeTag", name := "answe\x72", desc := "(I)I" } : Jvm.MethodName)) ∈ lw_all := lw_g (lw_at lw_m1 174 rfl) rfl
theorem q183 : (Jvm.Cond.selects "OneTimeTag" ({ cls := "OneTimeTag", name := "answe\x72", desc := "(I)I" } : Jvm.MethodName) ({ cls := "OneTimeTag", name := "answe\x72", desc := "(I)I" } : Jvm.MethodName)) ∈ lw_all := lw_g (lw_at lw_m1 175 rfl) rfl
theorem q184 : (Jvm.Cond.code ({ cls := "OneTimeTag", name := "answe\x72", desc := "(I)I" } : Jvm.MethodName) prog_1_method_11_code (2 : Nat) (Option.some Jvm.ClassFile.FieldType.int)) ∈ lw_all := lw_g (lw_at lw_m1 176 rfl) rfl
theorem in_X0 : ∀ w ∈ wsX00, w ∈ lw_all := lw_in wsX00 [31, 33, 35, 37] (by decide +kernel) (by decide +kernel)
end
section
/-! OneTimeTagModel -/
set_option maxRecDepth 100000
def RX1 : String := "OneTimeTagModel"
def TX1 : u_T := fun k => match k with
  | 0 => ("OneTimeTagModel", "text", "[B", true)
  | 1 => ("OneTimeTagModel", "size", "I", false)
  | 2 => ("OneTimeTagModel", "key", "[I", true)
  | 3 => ("OneTimeTagModel", "tag", "[I", true)
  | 4 => ("OneTimeTagModel", "\x72", "[J", true)
  | 5 => ("OneTimeTagModel", "h", "[J", true)
  | _ => ("OneTimeTagModel", "w", "[J", true)
def tyX1 : Nat → FieldType := fun k => match k with
  | 0 => .array .byte
  | 1 => .int
  | 2 => .array .int
  | 3 => .array .int
  | 4 => .array .long
  | 5 => .array .long
  | _ => .array .long
abbrev wsX10 : List Cond := u_ws RX1 TX1 7
theorem nmX1 : ∀ a, a < 7 → ∀ b, b < 7 → a ≠ b → (TX1 a).2.1 ≠ (TX1 b).2.1 := by decide +kernel
theorem tyX1_ok : ∀ k, k < 7 → parseFieldDescriptor (TX1 k).2.2.1 = some (tyX1 k) := by decide +kernel
abbrev cX1_init : ByteArray := prog_3_method_1_code
def yX1_init : MethodName := ⟨RX1, "<init>", "()V"⟩
def dkwX1_init_2 : List UInt8 := [188, 11, 181, 0, 27, 177]
abbrev dktX1_init_2 : List UInt8 := dkwX1_init_2 ++ []
def dkwX1_init_1 : List UInt8 := [188, 10, 181, 0, 17, 42, 16, 17, 188, 11, 181, 0, 20, 42, 16, 17, 188, 11, 181, 0, 24, 42, 16, 34]
abbrev dktX1_init_1 : List UInt8 := dkwX1_init_1 ++ dktX1_init_2
def dkwX1_init_0 : List UInt8 := [42, 183, 0, 1, 42, 17, 16, 0, 188, 8, 181, 0, 7, 42, 16, 32, 188, 10, 181, 0, 13, 42, 16, 16]
abbrev dktX1_init_0 : List UInt8 := dkwX1_init_0 ++ dktX1_init_1
theorem dksX1_init_0 : cX1_init.data.toList.drop 0 = dktX1_init_0 := by decide +kernel
theorem dksX1_init_1 : cX1_init.data.toList.drop 24 = dktX1_init_1 := dk_seg dksX1_init_0 24 rfl rfl
theorem dksX1_init_2 : cX1_init.data.toList.drop 48 = dktX1_init_2 := dk_seg dksX1_init_1 24 rfl rfl
theorem dX1_init_0 : decode cX1_init 0 = .ok (.aload_n 0, 1) := dk_42 (dk_at dksX1_init_0 0 rfl rfl)
theorem dX1_init_1 : decode cX1_init 1 = .ok (.invokespecial 1, 3) := dk_183 0 1 (dk_at dksX1_init_0 1 rfl rfl)
theorem dX1_init_4 : decode cX1_init 4 = .ok (.aload_n 0, 1) := dk_42 (dk_at dksX1_init_0 4 rfl rfl)
theorem dX1_init_5 : decode cX1_init 5 = .ok (.sipush 4096, 3) := dk_17 16 0 (dk_at dksX1_init_0 5 rfl rfl)
theorem dX1_init_8 : decode cX1_init 8 = .ok (.newarray .byte, 2) := dk_188_8 (dk_at dksX1_init_0 8 rfl rfl)
theorem dX1_init_10 : decode cX1_init 10 = .ok (.putfield 7, 3) := dk_181 0 7 (dk_at dksX1_init_0 10 rfl rfl)
theorem dX1_init_13 : decode cX1_init 13 = .ok (.aload_n 0, 1) := dk_42 (dk_at dksX1_init_0 13 rfl rfl)
theorem dX1_init_14 : decode cX1_init 14 = .ok (.bipush 32, 2) := dk_16 32 (dk_at dksX1_init_0 14 rfl rfl)
theorem dX1_init_16 : decode cX1_init 16 = .ok (.newarray .int, 2) := dk_188_10 (dk_at dksX1_init_0 16 rfl rfl)
theorem dX1_init_18 : decode cX1_init 18 = .ok (.putfield 13, 3) := dk_181 0 13 (dk_at dksX1_init_0 18 rfl rfl)
theorem dX1_init_21 : decode cX1_init 21 = .ok (.aload_n 0, 1) := dk_42 (dk_at dksX1_init_0 21 rfl rfl)
theorem dX1_init_22 : decode cX1_init 22 = .ok (.bipush 16, 2) := dk_16 16 (dk_at dksX1_init_0 22 rfl rfl)
theorem dX1_init_24 : decode cX1_init 24 = .ok (.newarray .int, 2) := dk_188_10 (dk_at dksX1_init_1 0 rfl rfl)
theorem dX1_init_26 : decode cX1_init 26 = .ok (.putfield 17, 3) := dk_181 0 17 (dk_at dksX1_init_1 2 rfl rfl)
theorem dX1_init_29 : decode cX1_init 29 = .ok (.aload_n 0, 1) := dk_42 (dk_at dksX1_init_1 5 rfl rfl)
theorem dX1_init_30 : decode cX1_init 30 = .ok (.bipush 17, 2) := dk_16 17 (dk_at dksX1_init_1 6 rfl rfl)
theorem dX1_init_32 : decode cX1_init 32 = .ok (.newarray .long, 2) := dk_188_11 (dk_at dksX1_init_1 8 rfl rfl)
theorem dX1_init_34 : decode cX1_init 34 = .ok (.putfield 20, 3) := dk_181 0 20 (dk_at dksX1_init_1 10 rfl rfl)
theorem dX1_init_37 : decode cX1_init 37 = .ok (.aload_n 0, 1) := dk_42 (dk_at dksX1_init_1 13 rfl rfl)
theorem dX1_init_38 : decode cX1_init 38 = .ok (.bipush 17, 2) := dk_16 17 (dk_at dksX1_init_1 14 rfl rfl)
theorem dX1_init_40 : decode cX1_init 40 = .ok (.newarray .long, 2) := dk_188_11 (dk_at dksX1_init_1 16 rfl rfl)
theorem dX1_init_42 : decode cX1_init 42 = .ok (.putfield 24, 3) := dk_181 0 24 (dk_at dksX1_init_1 18 rfl rfl)
theorem dX1_init_45 : decode cX1_init 45 = .ok (.aload_n 0, 1) := dk_42 (dk_at dksX1_init_1 21 rfl rfl)
theorem dX1_init_46 : decode cX1_init 46 = .ok (.bipush 34, 2) := dk_16 34 (dk_at dksX1_init_1 22 rfl rfl)
theorem dX1_init_48 : decode cX1_init 48 = .ok (.newarray .long, 2) := dk_188_11 (dk_at dksX1_init_2 0 rfl rfl)
theorem dX1_init_50 : decode cX1_init 50 = .ok (.putfield 27, 3) := dk_181 0 27 (dk_at dksX1_init_2 2 rfl rfl)
theorem dX1_init_53 : decode cX1_init 53 = .ok (.return_, 1) := dk_177 (dk_at dksX1_init_2 5 rfl rfl)
abbrev cX1_put : ByteArray := prog_3_method_2_code
def yX1_put : MethodName := ⟨RX1, "put", "(IIII)Z"⟩
def dkwX1_put_4 : List UInt8 := [42, 42, 180, 0, 30, 16, 16, 96, 181, 0, 30, 4, 172]
abbrev dktX1_put_4 : List UInt8 := dkwX1_put_4 ++ []
def dkwX1_put_3 : List UInt8 := [21, 5, 96, 21, 6, 16, 24, 16, 8, 21, 5, 6, 126, 104, 100, 124, 145, 84, 132, 5, 1, 167, 255, 184]
abbrev dktX1_put_3 : List UInt8 := dkwX1_put_3 ++ dktX1_put_4
def dkwX1_put_2 : List UInt8 := [21, 5, 16, 12, 162, 0, 7, 29, 167, 0, 5, 21, 4, 54, 6, 42, 180, 0, 7, 42, 180, 0, 30]
abbrev dktX1_put_2 : List UInt8 := dkwX1_put_2 ++ dktX1_put_3
def dkwX1_put_1 : List UInt8 := [162, 0, 71, 21, 5, 7, 162, 0, 7, 27, 167, 0, 27, 21, 5, 16, 8, 162, 0, 7, 28, 167, 0, 16]
abbrev dktX1_put_1 : List UInt8 := dkwX1_put_1 ++ dktX1_put_2
def dkwX1_put_0 : List UInt8 := [42, 180, 0, 30, 16, 16, 96, 17, 16, 0, 164, 0, 5, 3, 172, 3, 54, 5, 21, 5, 16, 16]
abbrev dktX1_put_0 : List UInt8 := dkwX1_put_0 ++ dktX1_put_1
theorem dksX1_put_0 : cX1_put.data.toList.drop 0 = dktX1_put_0 := by decide +kernel
theorem dksX1_put_1 : cX1_put.data.toList.drop 22 = dktX1_put_1 := dk_seg dksX1_put_0 22 rfl rfl
theorem dksX1_put_2 : cX1_put.data.toList.drop 46 = dktX1_put_2 := dk_seg dksX1_put_1 24 rfl rfl
theorem dksX1_put_3 : cX1_put.data.toList.drop 69 = dktX1_put_3 := dk_seg dksX1_put_2 23 rfl rfl
theorem dksX1_put_4 : cX1_put.data.toList.drop 93 = dktX1_put_4 := dk_seg dksX1_put_3 24 rfl rfl
theorem dX1_put_0 : decode cX1_put 0 = .ok (.aload_n 0, 1) := dk_42 (dk_at dksX1_put_0 0 rfl rfl)
theorem dX1_put_1 : decode cX1_put 1 = .ok (.getfield 30, 3) := dk_180 0 30 (dk_at dksX1_put_0 1 rfl rfl)
theorem dX1_put_4 : decode cX1_put 4 = .ok (.bipush 16, 2) := dk_16 16 (dk_at dksX1_put_0 4 rfl rfl)
theorem dX1_put_6 : decode cX1_put 6 = .ok (.iadd, 1) := dk_96 (dk_at dksX1_put_0 6 rfl rfl)
theorem dX1_put_7 : decode cX1_put 7 = .ok (.sipush 4096, 3) := dk_17 16 0 (dk_at dksX1_put_0 7 rfl rfl)
theorem dX1_put_10 : decode cX1_put 10 = .ok (.if_icmp .le 5, 3) := dk_164 0 5 (dk_at dksX1_put_0 10 rfl rfl)
theorem dX1_put_13 : decode cX1_put 13 = .ok (.iconst 0, 1) := dk_3 (dk_at dksX1_put_0 13 rfl rfl)
theorem dX1_put_14 : decode cX1_put 14 = .ok (.ireturn, 1) := dk_172 (dk_at dksX1_put_0 14 rfl rfl)
theorem dX1_put_15 : decode cX1_put 15 = .ok (.iconst 0, 1) := dk_3 (dk_at dksX1_put_0 15 rfl rfl)
theorem dX1_put_16 : decode cX1_put 16 = .ok (.istore 5, 2) := dk_54 5 (dk_at dksX1_put_0 16 rfl rfl)
theorem dX1_put_18 : decode cX1_put 18 = .ok (.iload 5, 2) := dk_21 5 (dk_at dksX1_put_0 18 rfl rfl)
theorem dX1_put_20 : decode cX1_put 20 = .ok (.bipush 16, 2) := dk_16 16 (dk_at dksX1_put_0 20 rfl rfl)
theorem dX1_put_22 : decode cX1_put 22 = .ok (.if_icmp .ge 71, 3) := dk_162 0 71 (dk_at dksX1_put_1 0 rfl rfl)
theorem dX1_put_25 : decode cX1_put 25 = .ok (.iload 5, 2) := dk_21 5 (dk_at dksX1_put_1 3 rfl rfl)
theorem dX1_put_27 : decode cX1_put 27 = .ok (.iconst 4, 1) := dk_7 (dk_at dksX1_put_1 5 rfl rfl)
theorem dX1_put_28 : decode cX1_put 28 = .ok (.if_icmp .ge 7, 3) := dk_162 0 7 (dk_at dksX1_put_1 6 rfl rfl)
theorem dX1_put_31 : decode cX1_put 31 = .ok (.iload_n 1, 1) := dk_27 (dk_at dksX1_put_1 9 rfl rfl)
theorem dX1_put_32 : decode cX1_put 32 = .ok (.goto 27, 3) := dk_167 0 27 (dk_at dksX1_put_1 10 rfl rfl)
theorem dX1_put_35 : decode cX1_put 35 = .ok (.iload 5, 2) := dk_21 5 (dk_at dksX1_put_1 13 rfl rfl)
theorem dX1_put_37 : decode cX1_put 37 = .ok (.bipush 8, 2) := dk_16 8 (dk_at dksX1_put_1 15 rfl rfl)
theorem dX1_put_39 : decode cX1_put 39 = .ok (.if_icmp .ge 7, 3) := dk_162 0 7 (dk_at dksX1_put_1 17 rfl rfl)
theorem dX1_put_42 : decode cX1_put 42 = .ok (.iload_n 2, 1) := dk_28 (dk_at dksX1_put_1 20 rfl rfl)
theorem dX1_put_43 : decode cX1_put 43 = .ok (.goto 16, 3) := dk_167 0 16 (dk_at dksX1_put_1 21 rfl rfl)
theorem dX1_put_46 : decode cX1_put 46 = .ok (.iload 5, 2) := dk_21 5 (dk_at dksX1_put_2 0 rfl rfl)
theorem dX1_put_48 : decode cX1_put 48 = .ok (.bipush 12, 2) := dk_16 12 (dk_at dksX1_put_2 2 rfl rfl)
theorem dX1_put_50 : decode cX1_put 50 = .ok (.if_icmp .ge 7, 3) := dk_162 0 7 (dk_at dksX1_put_2 4 rfl rfl)
theorem dX1_put_53 : decode cX1_put 53 = .ok (.iload_n 3, 1) := dk_29 (dk_at dksX1_put_2 7 rfl rfl)
theorem dX1_put_54 : decode cX1_put 54 = .ok (.goto 5, 3) := dk_167 0 5 (dk_at dksX1_put_2 8 rfl rfl)
theorem dX1_put_57 : decode cX1_put 57 = .ok (.iload 4, 2) := dk_21 4 (dk_at dksX1_put_2 11 rfl rfl)
theorem dX1_put_59 : decode cX1_put 59 = .ok (.istore 6, 2) := dk_54 6 (dk_at dksX1_put_2 13 rfl rfl)
theorem dX1_put_61 : decode cX1_put 61 = .ok (.aload_n 0, 1) := dk_42 (dk_at dksX1_put_2 15 rfl rfl)
theorem dX1_put_62 : decode cX1_put 62 = .ok (.getfield 7, 3) := dk_180 0 7 (dk_at dksX1_put_2 16 rfl rfl)
theorem dX1_put_65 : decode cX1_put 65 = .ok (.aload_n 0, 1) := dk_42 (dk_at dksX1_put_2 19 rfl rfl)
theorem dX1_put_66 : decode cX1_put 66 = .ok (.getfield 30, 3) := dk_180 0 30 (dk_at dksX1_put_2 20 rfl rfl)
theorem dX1_put_69 : decode cX1_put 69 = .ok (.iload 5, 2) := dk_21 5 (dk_at dksX1_put_3 0 rfl rfl)
theorem dX1_put_71 : decode cX1_put 71 = .ok (.iadd, 1) := dk_96 (dk_at dksX1_put_3 2 rfl rfl)
theorem dX1_put_72 : decode cX1_put 72 = .ok (.iload 6, 2) := dk_21 6 (dk_at dksX1_put_3 3 rfl rfl)
theorem dX1_put_74 : decode cX1_put 74 = .ok (.bipush 24, 2) := dk_16 24 (dk_at dksX1_put_3 5 rfl rfl)
theorem dX1_put_76 : decode cX1_put 76 = .ok (.bipush 8, 2) := dk_16 8 (dk_at dksX1_put_3 7 rfl rfl)
theorem dX1_put_78 : decode cX1_put 78 = .ok (.iload 5, 2) := dk_21 5 (dk_at dksX1_put_3 9 rfl rfl)
theorem dX1_put_80 : decode cX1_put 80 = .ok (.iconst 3, 1) := dk_6 (dk_at dksX1_put_3 11 rfl rfl)
theorem dX1_put_81 : decode cX1_put 81 = .ok (.iand, 1) := dk_126 (dk_at dksX1_put_3 12 rfl rfl)
theorem dX1_put_82 : decode cX1_put 82 = .ok (.imul, 1) := dk_104 (dk_at dksX1_put_3 13 rfl rfl)
theorem dX1_put_83 : decode cX1_put 83 = .ok (.isub, 1) := dk_100 (dk_at dksX1_put_3 14 rfl rfl)
theorem dX1_put_84 : decode cX1_put 84 = .ok (.iushr, 1) := dk_124 (dk_at dksX1_put_3 15 rfl rfl)
theorem dX1_put_85 : decode cX1_put 85 = .ok (.i2b, 1) := dk_145 (dk_at dksX1_put_3 16 rfl rfl)
theorem dX1_put_86 : decode cX1_put 86 = .ok (.bastore, 1) := dk_84 (dk_at dksX1_put_3 17 rfl rfl)
theorem dX1_put_87 : decode cX1_put 87 = .ok (.iinc 5 1, 3) := dk_132 5 1 (dk_at dksX1_put_3 18 rfl rfl)
theorem dX1_put_90 : decode cX1_put 90 = .ok (.goto (-72), 3) := dk_167 255 184 (dk_at dksX1_put_3 21 rfl rfl)
theorem dX1_put_93 : decode cX1_put 93 = .ok (.aload_n 0, 1) := dk_42 (dk_at dksX1_put_4 0 rfl rfl)
theorem dX1_put_94 : decode cX1_put 94 = .ok (.aload_n 0, 1) := dk_42 (dk_at dksX1_put_4 1 rfl rfl)
theorem dX1_put_95 : decode cX1_put 95 = .ok (.getfield 30, 3) := dk_180 0 30 (dk_at dksX1_put_4 2 rfl rfl)
theorem dX1_put_98 : decode cX1_put 98 = .ok (.bipush 16, 2) := dk_16 16 (dk_at dksX1_put_4 5 rfl rfl)
theorem dX1_put_100 : decode cX1_put 100 = .ok (.iadd, 1) := dk_96 (dk_at dksX1_put_4 7 rfl rfl)
theorem dX1_put_101 : decode cX1_put 101 = .ok (.putfield 30, 3) := dk_181 0 30 (dk_at dksX1_put_4 8 rfl rfl)
theorem dX1_put_104 : decode cX1_put 104 = .ok (.iconst 1, 1) := dk_4 (dk_at dksX1_put_4 11 rfl rfl)
theorem dX1_put_105 : decode cX1_put 105 = .ok (.ireturn, 1) := dk_172 (dk_at dksX1_put_4 12 rfl rfl)
abbrev cX1_trim : ByteArray := prog_3_method_3_code
def yX1_trim : MethodName := ⟨RX1, "trim", "(I)V"⟩
def dkwX1_trim_0 : List UInt8 := [42, 42, 27, 182, 0, 34, 181, 0, 30, 177]
abbrev dktX1_trim_0 : List UInt8 := dkwX1_trim_0 ++ []
theorem dksX1_trim_0 : cX1_trim.data.toList.drop 0 = dktX1_trim_0 := by decide +kernel
theorem dX1_trim_0 : decode cX1_trim 0 = .ok (.aload_n 0, 1) := dk_42 (dk_at dksX1_trim_0 0 rfl rfl)
theorem dX1_trim_1 : decode cX1_trim 1 = .ok (.aload_n 0, 1) := dk_42 (dk_at dksX1_trim_0 1 rfl rfl)
theorem dX1_trim_2 : decode cX1_trim 2 = .ok (.iload_n 1, 1) := dk_27 (dk_at dksX1_trim_0 2 rfl rfl)
theorem dX1_trim_3 : decode cX1_trim 3 = .ok (.invokevirtual 34, 3) := dk_182 0 34 (dk_at dksX1_trim_0 3 rfl rfl)
theorem dX1_trim_6 : decode cX1_trim 6 = .ok (.putfield 30, 3) := dk_181 0 30 (dk_at dksX1_trim_0 6 rfl rfl)
theorem dX1_trim_9 : decode cX1_trim 9 = .ok (.return_, 1) := dk_177 (dk_at dksX1_trim_0 9 rfl rfl)
abbrev cX1_first : ByteArray := prog_3_method_5_code
def yX1_first : MethodName := ⟨RX1, "first", "(I)I"⟩
def dkwX1_first_0 : List UInt8 := [27, 18, 38, 126, 42, 180, 0, 30, 4, 96, 112, 172]
abbrev dktX1_first_0 : List UInt8 := dkwX1_first_0 ++ []
theorem dksX1_first_0 : cX1_first.data.toList.drop 0 = dktX1_first_0 := by decide +kernel
theorem dX1_first_0 : decode cX1_first 0 = .ok (.iload_n 1, 1) := dk_27 (dk_at dksX1_first_0 0 rfl rfl)
theorem dX1_first_1 : decode cX1_first 1 = .ok (.ldc 38, 2) := dk_18 38 (dk_at dksX1_first_0 1 rfl rfl)
theorem dX1_first_3 : decode cX1_first 3 = .ok (.iand, 1) := dk_126 (dk_at dksX1_first_0 3 rfl rfl)
theorem dX1_first_4 : decode cX1_first 4 = .ok (.aload_n 0, 1) := dk_42 (dk_at dksX1_first_0 4 rfl rfl)
theorem dX1_first_5 : decode cX1_first 5 = .ok (.getfield 30, 3) := dk_180 0 30 (dk_at dksX1_first_0 5 rfl rfl)
theorem dX1_first_8 : decode cX1_first 8 = .ok (.iconst 1, 1) := dk_4 (dk_at dksX1_first_0 8 rfl rfl)
theorem dX1_first_9 : decode cX1_first 9 = .ok (.iadd, 1) := dk_96 (dk_at dksX1_first_0 9 rfl rfl)
theorem dX1_first_10 : decode cX1_first 10 = .ok (.irem, 1) := dk_112 (dk_at dksX1_first_0 10 rfl rfl)
theorem dX1_first_11 : decode cX1_first 11 = .ok (.ireturn, 1) := dk_172 (dk_at dksX1_first_0 11 rfl rfl)
abbrev cX1_size : ByteArray := prog_3_method_4_code
def yX1_size : MethodName := ⟨RX1, "size", "()I"⟩
theorem dX1_size_0 : decode cX1_size 0 = .ok (.aload_n 0, 1) := by decide +kernel
theorem dX1_size_1 : decode cX1_size 1 = .ok (.getfield 30, 3) := by decide +kernel
theorem dX1_size_4 : decode cX1_size 4 = .ok (.ireturn, 1) := by decide +kernel
abbrev cX1_key : ByteArray := prog_3_method_7_code
def yX1_key : MethodName := ⟨RX1, "key", "(IIIII)V"⟩
def dkwX1_key_3 : List UInt8 := [124, 17, 0, 255, 126, 79, 132, 6, 1, 167, 255, 178, 177]
abbrev dktX1_key_3 : List UInt8 := dkwX1_key_3 ++ []
def dkwX1_key_2 : List UInt8 := [180, 0, 13, 27, 4, 126, 16, 16, 104, 21, 6, 96, 21, 7, 16, 24, 16, 8, 21, 6, 6, 126, 104, 100]
abbrev dktX1_key_2 : List UInt8 := dkwX1_key_2 ++ dktX1_key_3
def dkwX1_key_1 : List UInt8 := [162, 0, 7, 29, 167, 0, 17, 21, 6, 16, 12, 162, 0, 8, 21, 4, 167, 0, 5, 21, 5, 54, 7, 42]
abbrev dktX1_key_1 : List UInt8 := dkwX1_key_1 ++ dktX1_key_2
def dkwX1_key_0 : List UInt8 := [3, 54, 6, 21, 6, 16, 16, 162, 0, 77, 21, 6, 7, 162, 0, 7, 28, 167, 0, 28, 21, 6, 16, 8]
abbrev dktX1_key_0 : List UInt8 := dkwX1_key_0 ++ dktX1_key_1
theorem dksX1_key_0 : cX1_key.data.toList.drop 0 = dktX1_key_0 := by decide +kernel
theorem dksX1_key_1 : cX1_key.data.toList.drop 24 = dktX1_key_1 := dk_seg dksX1_key_0 24 rfl rfl
theorem dksX1_key_2 : cX1_key.data.toList.drop 48 = dktX1_key_2 := dk_seg dksX1_key_1 24 rfl rfl
theorem dksX1_key_3 : cX1_key.data.toList.drop 72 = dktX1_key_3 := dk_seg dksX1_key_2 24 rfl rfl
theorem dX1_key_0 : decode cX1_key 0 = .ok (.iconst 0, 1) := dk_3 (dk_at dksX1_key_0 0 rfl rfl)
theorem dX1_key_1 : decode cX1_key 1 = .ok (.istore 6, 2) := dk_54 6 (dk_at dksX1_key_0 1 rfl rfl)
theorem dX1_key_3 : decode cX1_key 3 = .ok (.iload 6, 2) := dk_21 6 (dk_at dksX1_key_0 3 rfl rfl)
theorem dX1_key_5 : decode cX1_key 5 = .ok (.bipush 16, 2) := dk_16 16 (dk_at dksX1_key_0 5 rfl rfl)
theorem dX1_key_7 : decode cX1_key 7 = .ok (.if_icmp .ge 77, 3) := dk_162 0 77 (dk_at dksX1_key_0 7 rfl rfl)
theorem dX1_key_10 : decode cX1_key 10 = .ok (.iload 6, 2) := dk_21 6 (dk_at dksX1_key_0 10 rfl rfl)
theorem dX1_key_12 : decode cX1_key 12 = .ok (.iconst 4, 1) := dk_7 (dk_at dksX1_key_0 12 rfl rfl)
theorem dX1_key_13 : decode cX1_key 13 = .ok (.if_icmp .ge 7, 3) := dk_162 0 7 (dk_at dksX1_key_0 13 rfl rfl)
theorem dX1_key_16 : decode cX1_key 16 = .ok (.iload_n 2, 1) := dk_28 (dk_at dksX1_key_0 16 rfl rfl)
theorem dX1_key_17 : decode cX1_key 17 = .ok (.goto 28, 3) := dk_167 0 28 (dk_at dksX1_key_0 17 rfl rfl)
theorem dX1_key_20 : decode cX1_key 20 = .ok (.iload 6, 2) := dk_21 6 (dk_at dksX1_key_0 20 rfl rfl)
theorem dX1_key_22 : decode cX1_key 22 = .ok (.bipush 8, 2) := dk_16 8 (dk_at dksX1_key_0 22 rfl rfl)
theorem dX1_key_24 : decode cX1_key 24 = .ok (.if_icmp .ge 7, 3) := dk_162 0 7 (dk_at dksX1_key_1 0 rfl rfl)
theorem dX1_key_27 : decode cX1_key 27 = .ok (.iload_n 3, 1) := dk_29 (dk_at dksX1_key_1 3 rfl rfl)
theorem dX1_key_28 : decode cX1_key 28 = .ok (.goto 17, 3) := dk_167 0 17 (dk_at dksX1_key_1 4 rfl rfl)
theorem dX1_key_31 : decode cX1_key 31 = .ok (.iload 6, 2) := dk_21 6 (dk_at dksX1_key_1 7 rfl rfl)
theorem dX1_key_33 : decode cX1_key 33 = .ok (.bipush 12, 2) := dk_16 12 (dk_at dksX1_key_1 9 rfl rfl)
theorem dX1_key_35 : decode cX1_key 35 = .ok (.if_icmp .ge 8, 3) := dk_162 0 8 (dk_at dksX1_key_1 11 rfl rfl)
theorem dX1_key_38 : decode cX1_key 38 = .ok (.iload 4, 2) := dk_21 4 (dk_at dksX1_key_1 14 rfl rfl)
theorem dX1_key_40 : decode cX1_key 40 = .ok (.goto 5, 3) := dk_167 0 5 (dk_at dksX1_key_1 16 rfl rfl)
theorem dX1_key_43 : decode cX1_key 43 = .ok (.iload 5, 2) := dk_21 5 (dk_at dksX1_key_1 19 rfl rfl)
theorem dX1_key_45 : decode cX1_key 45 = .ok (.istore 7, 2) := dk_54 7 (dk_at dksX1_key_1 21 rfl rfl)
theorem dX1_key_47 : decode cX1_key 47 = .ok (.aload_n 0, 1) := dk_42 (dk_at dksX1_key_1 23 rfl rfl)
theorem dX1_key_48 : decode cX1_key 48 = .ok (.getfield 13, 3) := dk_180 0 13 (dk_at dksX1_key_2 0 rfl rfl)
theorem dX1_key_51 : decode cX1_key 51 = .ok (.iload_n 1, 1) := dk_27 (dk_at dksX1_key_2 3 rfl rfl)
theorem dX1_key_52 : decode cX1_key 52 = .ok (.iconst 1, 1) := dk_4 (dk_at dksX1_key_2 4 rfl rfl)
theorem dX1_key_53 : decode cX1_key 53 = .ok (.iand, 1) := dk_126 (dk_at dksX1_key_2 5 rfl rfl)
theorem dX1_key_54 : decode cX1_key 54 = .ok (.bipush 16, 2) := dk_16 16 (dk_at dksX1_key_2 6 rfl rfl)
theorem dX1_key_56 : decode cX1_key 56 = .ok (.imul, 1) := dk_104 (dk_at dksX1_key_2 8 rfl rfl)
theorem dX1_key_57 : decode cX1_key 57 = .ok (.iload 6, 2) := dk_21 6 (dk_at dksX1_key_2 9 rfl rfl)
theorem dX1_key_59 : decode cX1_key 59 = .ok (.iadd, 1) := dk_96 (dk_at dksX1_key_2 11 rfl rfl)
theorem dX1_key_60 : decode cX1_key 60 = .ok (.iload 7, 2) := dk_21 7 (dk_at dksX1_key_2 12 rfl rfl)
theorem dX1_key_62 : decode cX1_key 62 = .ok (.bipush 24, 2) := dk_16 24 (dk_at dksX1_key_2 14 rfl rfl)
theorem dX1_key_64 : decode cX1_key 64 = .ok (.bipush 8, 2) := dk_16 8 (dk_at dksX1_key_2 16 rfl rfl)
theorem dX1_key_66 : decode cX1_key 66 = .ok (.iload 6, 2) := dk_21 6 (dk_at dksX1_key_2 18 rfl rfl)
theorem dX1_key_68 : decode cX1_key 68 = .ok (.iconst 3, 1) := dk_6 (dk_at dksX1_key_2 20 rfl rfl)
theorem dX1_key_69 : decode cX1_key 69 = .ok (.iand, 1) := dk_126 (dk_at dksX1_key_2 21 rfl rfl)
theorem dX1_key_70 : decode cX1_key 70 = .ok (.imul, 1) := dk_104 (dk_at dksX1_key_2 22 rfl rfl)
theorem dX1_key_71 : decode cX1_key 71 = .ok (.isub, 1) := dk_100 (dk_at dksX1_key_2 23 rfl rfl)
theorem dX1_key_72 : decode cX1_key 72 = .ok (.iushr, 1) := dk_124 (dk_at dksX1_key_3 0 rfl rfl)
theorem dX1_key_73 : decode cX1_key 73 = .ok (.sipush 255, 3) := dk_17 0 255 (dk_at dksX1_key_3 1 rfl rfl)
theorem dX1_key_76 : decode cX1_key 76 = .ok (.iand, 1) := dk_126 (dk_at dksX1_key_3 4 rfl rfl)
theorem dX1_key_77 : decode cX1_key 77 = .ok (.iastore, 1) := dk_79 (dk_at dksX1_key_3 5 rfl rfl)
theorem dX1_key_78 : decode cX1_key 78 = .ok (.iinc 6 1, 3) := dk_132 6 1 (dk_at dksX1_key_3 6 rfl rfl)
theorem dX1_key_81 : decode cX1_key 81 = .ok (.goto (-78), 3) := dk_167 255 178 (dk_at dksX1_key_3 9 rfl rfl)
theorem dX1_key_84 : decode cX1_key 84 = .ok (.return_, 1) := dk_177 (dk_at dksX1_key_3 12 rfl rfl)
abbrev cX1_tag : ByteArray := prog_3_method_9_code
def yX1_tag : MethodName := ⟨RX1, "tag", "(II)V"⟩
def dkwX1_tag_19 : List UInt8 := [167, 255, 201, 177]
abbrev dktX1_tag_19 : List UInt8 := dkwX1_tag_19 ++ []
def dkwX1_tag_18 : List UInt8 := [180, 0, 17, 21, 7, 22, 8, 20, 0, 39, 127, 136, 79, 22, 8, 16, 8, 123, 55, 5, 132, 7, 1]
abbrev dktX1_tag_18 : List UInt8 := dkwX1_tag_18 ++ dktX1_tag_19
def dkwX1_tag_17 : List UInt8 := [180, 0, 24, 21, 7, 47, 42, 180, 0, 13, 16, 16, 21, 7, 96, 46, 133, 97, 22, 5, 97, 55, 8, 42]
abbrev dktX1_tag_17 : List UInt8 := dkwX1_tag_17 ++ dktX1_tag_18
def dkwX1_tag_16 : List UInt8 := [16, 16, 96, 54, 5, 167, 255, 15, 9, 55, 5, 3, 54, 7, 21, 7, 16, 16, 162, 0, 54, 42]
abbrev dktX1_tag_16 : List UInt8 := dkwX1_tag_16 ++ dktX1_tag_17
def dkwX1_tag_15 : List UInt8 := [180, 0, 27, 21, 7, 16, 17, 96, 47, 105, 97, 80, 132, 7, 1, 167, 255, 217, 42, 182, 0, 57, 21, 5]
abbrev dktX1_tag_15 : List UInt8 := dkwX1_tag_15 ++ dktX1_tag_16
def dkwX1_tag_14 : List UInt8 := [21, 7, 16, 17, 162, 0, 38, 42, 180, 0, 24, 21, 7, 42, 180, 0, 27, 21, 7, 47, 20, 0, 55, 42]
abbrev dktX1_tag_14 : List UInt8 := dkwX1_tag_14 ++ dktX1_tag_15
def dkwX1_tag_13 : List UInt8 := [180, 0, 20, 21, 8, 47, 105, 97, 80, 132, 8, 1, 167, 255, 210, 132, 7, 1, 167, 255, 194, 3, 54, 7]
abbrev dktX1_tag_13 : List UInt8 := dkwX1_tag_13 ++ dktX1_tag_14
def dkwX1_tag_12 : List UInt8 := [21, 7, 21, 8, 96, 42, 180, 0, 27, 21, 7, 21, 8, 96, 47, 42, 180, 0, 24, 21, 7, 47, 42]
abbrev dktX1_tag_12 : List UInt8 := dkwX1_tag_12 ++ dktX1_tag_13
def dkwX1_tag_11 : List UInt8 := [54, 7, 21, 7, 16, 17, 162, 0, 61, 3, 54, 8, 21, 8, 16, 17, 162, 0, 45, 42, 180, 0, 27]
abbrev dktX1_tag_11 : List UInt8 := dkwX1_tag_11 ++ dktX1_tag_12
def dkwX1_tag_10 : List UInt8 := [54, 7, 21, 7, 16, 34, 162, 0, 17, 42, 180, 0, 27, 21, 7, 9, 80, 132, 7, 1, 167, 255, 238, 3]
abbrev dktX1_tag_10 : List UInt8 := dkwX1_tag_10 ++ dktX1_tag_11
def dkwX1_tag_9 : List UInt8 := [80, 132, 7, 1, 167, 255, 214, 42, 180, 0, 24, 21, 6, 42, 180, 0, 24, 21, 6, 47, 10, 97, 80, 3]
abbrev dktX1_tag_9 : List UInt8 := dkwX1_tag_9 ++ dktX1_tag_10
def dkwX1_tag_8 : List UInt8 := [180, 0, 24, 21, 7, 47, 42, 180, 0, 7, 29, 21, 5, 96, 21, 7, 96, 51, 17, 0, 255, 126, 133, 97]
abbrev dktX1_tag_8 : List UInt8 := dkwX1_tag_8 ++ dktX1_tag_9
def dkwX1_tag_7 : List UInt8 := [167, 0, 5, 16, 16, 54, 6, 3, 54, 7, 21, 7, 21, 6, 162, 0, 41, 42, 180, 0, 24, 21, 7, 42]
abbrev dktX1_tag_7 : List UInt8 := dkwX1_tag_7 ++ dktX1_tag_8
def dkwX1_tag_6 : List UInt8 := [54, 5, 21, 5, 21, 4, 162, 0, 240, 21, 4, 21, 5, 100, 16, 16, 162, 0, 11, 21, 4, 21, 5, 100]
abbrev dktX1_tag_6 : List UInt8 := dkwX1_tag_6 ++ dktX1_tag_7
def dkwX1_tag_5 : List UInt8 := [21, 5, 42, 180, 0, 20, 21, 5, 47, 20, 0, 53, 127, 80, 21, 5, 7, 96, 54, 5, 167, 255, 225, 3]
abbrev dktX1_tag_5 : List UInt8 := dkwX1_tag_5 ++ dktX1_tag_6
def dkwX1_tag_4 : List UInt8 := [21, 5, 7, 96, 54, 5, 167, 255, 225, 7, 54, 5, 21, 5, 16, 16, 162, 0, 30, 42, 180, 0, 20]
abbrev dktX1_tag_4 : List UInt8 := dkwX1_tag_4 ++ dktX1_tag_5
def dkwX1_tag_3 : List UInt8 := [16, 16, 162, 0, 30, 42, 180, 0, 20, 21, 5, 42, 180, 0, 20, 21, 5, 47, 20, 0, 51, 127, 80]
abbrev dktX1_tag_3 : List UInt8 := dkwX1_tag_3 ++ dktX1_tag_4
def dkwX1_tag_2 : List UInt8 := [180, 0, 13, 21, 5, 46, 133, 167, 0, 4, 9, 80, 132, 5, 1, 167, 255, 212, 6, 54, 5, 21, 5]
abbrev dktX1_tag_2 : List UInt8 := dkwX1_tag_2 ++ dktX1_tag_3
def dkwX1_tag_1 : List UInt8 := [42, 180, 0, 24, 21, 5, 9, 80, 42, 180, 0, 20, 21, 5, 21, 5, 16, 16, 162, 0, 14, 42]
abbrev dktX1_tag_1 : List UInt8 := dkwX1_tag_1 ++ dktX1_tag_2
def dkwX1_tag_0 : List UInt8 := [42, 27, 182, 0, 34, 62, 42, 29, 28, 182, 0, 47, 54, 4, 3, 54, 5, 21, 5, 16, 17, 162, 0, 43]
abbrev dktX1_tag_0 : List UInt8 := dkwX1_tag_0 ++ dktX1_tag_1
theorem dksX1_tag_0 : cX1_tag.data.toList.drop 0 = dktX1_tag_0 := by decide +kernel
theorem dksX1_tag_1 : cX1_tag.data.toList.drop 24 = dktX1_tag_1 := dk_seg dksX1_tag_0 24 rfl rfl
theorem dksX1_tag_2 : cX1_tag.data.toList.drop 46 = dktX1_tag_2 := dk_seg dksX1_tag_1 22 rfl rfl
theorem dksX1_tag_3 : cX1_tag.data.toList.drop 69 = dktX1_tag_3 := dk_seg dksX1_tag_2 23 rfl rfl
theorem dksX1_tag_4 : cX1_tag.data.toList.drop 92 = dktX1_tag_4 := dk_seg dksX1_tag_3 23 rfl rfl
theorem dksX1_tag_5 : cX1_tag.data.toList.drop 115 = dktX1_tag_5 := dk_seg dksX1_tag_4 23 rfl rfl
theorem dksX1_tag_6 : cX1_tag.data.toList.drop 139 = dktX1_tag_6 := dk_seg dksX1_tag_5 24 rfl rfl
theorem dksX1_tag_7 : cX1_tag.data.toList.drop 163 = dktX1_tag_7 := dk_seg dksX1_tag_6 24 rfl rfl
theorem dksX1_tag_8 : cX1_tag.data.toList.drop 187 = dktX1_tag_8 := dk_seg dksX1_tag_7 24 rfl rfl
theorem dksX1_tag_9 : cX1_tag.data.toList.drop 211 = dktX1_tag_9 := dk_seg dksX1_tag_8 24 rfl rfl
theorem dksX1_tag_10 : cX1_tag.data.toList.drop 235 = dktX1_tag_10 := dk_seg dksX1_tag_9 24 rfl rfl
theorem dksX1_tag_11 : cX1_tag.data.toList.drop 259 = dktX1_tag_11 := dk_seg dksX1_tag_10 24 rfl rfl
theorem dksX1_tag_12 : cX1_tag.data.toList.drop 282 = dktX1_tag_12 := dk_seg dksX1_tag_11 23 rfl rfl
theorem dksX1_tag_13 : cX1_tag.data.toList.drop 305 = dktX1_tag_13 := dk_seg dksX1_tag_12 23 rfl rfl
theorem dksX1_tag_14 : cX1_tag.data.toList.drop 329 = dktX1_tag_14 := dk_seg dksX1_tag_13 24 rfl rfl
theorem dksX1_tag_15 : cX1_tag.data.toList.drop 353 = dktX1_tag_15 := dk_seg dksX1_tag_14 24 rfl rfl
theorem dksX1_tag_16 : cX1_tag.data.toList.drop 377 = dktX1_tag_16 := dk_seg dksX1_tag_15 24 rfl rfl
theorem dksX1_tag_17 : cX1_tag.data.toList.drop 399 = dktX1_tag_17 := dk_seg dksX1_tag_16 22 rfl rfl
theorem dksX1_tag_18 : cX1_tag.data.toList.drop 423 = dktX1_tag_18 := dk_seg dksX1_tag_17 24 rfl rfl
theorem dksX1_tag_19 : cX1_tag.data.toList.drop 446 = dktX1_tag_19 := dk_seg dksX1_tag_18 23 rfl rfl
theorem dX1_tag_0 : decode cX1_tag 0 = .ok (.aload_n 0, 1) := dk_42 (dk_at dksX1_tag_0 0 rfl rfl)
theorem dX1_tag_1 : decode cX1_tag 1 = .ok (.iload_n 1, 1) := dk_27 (dk_at dksX1_tag_0 1 rfl rfl)
theorem dX1_tag_2 : decode cX1_tag 2 = .ok (.invokevirtual 34, 3) := dk_182 0 34 (dk_at dksX1_tag_0 2 rfl rfl)
theorem dX1_tag_5 : decode cX1_tag 5 = .ok (.istore_n 3, 1) := dk_62 (dk_at dksX1_tag_0 5 rfl rfl)
theorem dX1_tag_6 : decode cX1_tag 6 = .ok (.aload_n 0, 1) := dk_42 (dk_at dksX1_tag_0 6 rfl rfl)
theorem dX1_tag_7 : decode cX1_tag 7 = .ok (.iload_n 3, 1) := dk_29 (dk_at dksX1_tag_0 7 rfl rfl)
theorem dX1_tag_8 : decode cX1_tag 8 = .ok (.iload_n 2, 1) := dk_28 (dk_at dksX1_tag_0 8 rfl rfl)
theorem dX1_tag_9 : decode cX1_tag 9 = .ok (.invokevirtual 47, 3) := dk_182 0 47 (dk_at dksX1_tag_0 9 rfl rfl)
theorem dX1_tag_12 : decode cX1_tag 12 = .ok (.istore 4, 2) := dk_54 4 (dk_at dksX1_tag_0 12 rfl rfl)
theorem dX1_tag_14 : decode cX1_tag 14 = .ok (.iconst 0, 1) := dk_3 (dk_at dksX1_tag_0 14 rfl rfl)
theorem dX1_tag_15 : decode cX1_tag 15 = .ok (.istore 5, 2) := dk_54 5 (dk_at dksX1_tag_0 15 rfl rfl)
theorem dX1_tag_17 : decode cX1_tag 17 = .ok (.iload 5, 2) := dk_21 5 (dk_at dksX1_tag_0 17 rfl rfl)
theorem dX1_tag_19 : decode cX1_tag 19 = .ok (.bipush 17, 2) := dk_16 17 (dk_at dksX1_tag_0 19 rfl rfl)
theorem dX1_tag_21 : decode cX1_tag 21 = .ok (.if_icmp .ge 43, 3) := dk_162 0 43 (dk_at dksX1_tag_0 21 rfl rfl)
theorem dX1_tag_24 : decode cX1_tag 24 = .ok (.aload_n 0, 1) := dk_42 (dk_at dksX1_tag_1 0 rfl rfl)
theorem dX1_tag_25 : decode cX1_tag 25 = .ok (.getfield 24, 3) := dk_180 0 24 (dk_at dksX1_tag_1 1 rfl rfl)
theorem dX1_tag_28 : decode cX1_tag 28 = .ok (.iload 5, 2) := dk_21 5 (dk_at dksX1_tag_1 4 rfl rfl)
theorem dX1_tag_30 : decode cX1_tag 30 = .ok (.lconst 0, 1) := dk_9 (dk_at dksX1_tag_1 6 rfl rfl)
theorem dX1_tag_31 : decode cX1_tag 31 = .ok (.lastore, 1) := dk_80 (dk_at dksX1_tag_1 7 rfl rfl)
theorem dX1_tag_32 : decode cX1_tag 32 = .ok (.aload_n 0, 1) := dk_42 (dk_at dksX1_tag_1 8 rfl rfl)
theorem dX1_tag_33 : decode cX1_tag 33 = .ok (.getfield 20, 3) := dk_180 0 20 (dk_at dksX1_tag_1 9 rfl rfl)
theorem dX1_tag_36 : decode cX1_tag 36 = .ok (.iload 5, 2) := dk_21 5 (dk_at dksX1_tag_1 12 rfl rfl)
theorem dX1_tag_38 : decode cX1_tag 38 = .ok (.iload 5, 2) := dk_21 5 (dk_at dksX1_tag_1 14 rfl rfl)
theorem dX1_tag_40 : decode cX1_tag 40 = .ok (.bipush 16, 2) := dk_16 16 (dk_at dksX1_tag_1 16 rfl rfl)
theorem dX1_tag_42 : decode cX1_tag 42 = .ok (.if_icmp .ge 14, 3) := dk_162 0 14 (dk_at dksX1_tag_1 18 rfl rfl)
theorem dX1_tag_45 : decode cX1_tag 45 = .ok (.aload_n 0, 1) := dk_42 (dk_at dksX1_tag_1 21 rfl rfl)
theorem dX1_tag_46 : decode cX1_tag 46 = .ok (.getfield 13, 3) := dk_180 0 13 (dk_at dksX1_tag_2 0 rfl rfl)
theorem dX1_tag_49 : decode cX1_tag 49 = .ok (.iload 5, 2) := dk_21 5 (dk_at dksX1_tag_2 3 rfl rfl)
theorem dX1_tag_51 : decode cX1_tag 51 = .ok (.iaload, 1) := dk_46 (dk_at dksX1_tag_2 5 rfl rfl)
theorem dX1_tag_52 : decode cX1_tag 52 = .ok (.i2l, 1) := dk_133 (dk_at dksX1_tag_2 6 rfl rfl)
theorem dX1_tag_53 : decode cX1_tag 53 = .ok (.goto 4, 3) := dk_167 0 4 (dk_at dksX1_tag_2 7 rfl rfl)
theorem dX1_tag_56 : decode cX1_tag 56 = .ok (.lconst 0, 1) := dk_9 (dk_at dksX1_tag_2 10 rfl rfl)
theorem dX1_tag_57 : decode cX1_tag 57 = .ok (.lastore, 1) := dk_80 (dk_at dksX1_tag_2 11 rfl rfl)
theorem dX1_tag_58 : decode cX1_tag 58 = .ok (.iinc 5 1, 3) := dk_132 5 1 (dk_at dksX1_tag_2 12 rfl rfl)
theorem dX1_tag_61 : decode cX1_tag 61 = .ok (.goto (-44), 3) := dk_167 255 212 (dk_at dksX1_tag_2 15 rfl rfl)
theorem dX1_tag_64 : decode cX1_tag 64 = .ok (.iconst 3, 1) := dk_6 (dk_at dksX1_tag_2 18 rfl rfl)
theorem dX1_tag_65 : decode cX1_tag 65 = .ok (.istore 5, 2) := dk_54 5 (dk_at dksX1_tag_2 19 rfl rfl)
theorem dX1_tag_67 : decode cX1_tag 67 = .ok (.iload 5, 2) := dk_21 5 (dk_at dksX1_tag_2 21 rfl rfl)
theorem dX1_tag_69 : decode cX1_tag 69 = .ok (.bipush 16, 2) := dk_16 16 (dk_at dksX1_tag_3 0 rfl rfl)
theorem dX1_tag_71 : decode cX1_tag 71 = .ok (.if_icmp .ge 30, 3) := dk_162 0 30 (dk_at dksX1_tag_3 2 rfl rfl)
theorem dX1_tag_74 : decode cX1_tag 74 = .ok (.aload_n 0, 1) := dk_42 (dk_at dksX1_tag_3 5 rfl rfl)
theorem dX1_tag_75 : decode cX1_tag 75 = .ok (.getfield 20, 3) := dk_180 0 20 (dk_at dksX1_tag_3 6 rfl rfl)
theorem dX1_tag_78 : decode cX1_tag 78 = .ok (.iload 5, 2) := dk_21 5 (dk_at dksX1_tag_3 9 rfl rfl)
theorem dX1_tag_80 : decode cX1_tag 80 = .ok (.aload_n 0, 1) := dk_42 (dk_at dksX1_tag_3 11 rfl rfl)
theorem dX1_tag_81 : decode cX1_tag 81 = .ok (.getfield 20, 3) := dk_180 0 20 (dk_at dksX1_tag_3 12 rfl rfl)
theorem dX1_tag_84 : decode cX1_tag 84 = .ok (.iload 5, 2) := dk_21 5 (dk_at dksX1_tag_3 15 rfl rfl)
theorem dX1_tag_86 : decode cX1_tag 86 = .ok (.laload, 1) := dk_47 (dk_at dksX1_tag_3 17 rfl rfl)
theorem dX1_tag_87 : decode cX1_tag 87 = .ok (.ldc2_w 51, 3) := dk_20 0 51 (dk_at dksX1_tag_3 18 rfl rfl)
theorem dX1_tag_90 : decode cX1_tag 90 = .ok (.land, 1) := dk_127 (dk_at dksX1_tag_3 21 rfl rfl)
theorem dX1_tag_91 : decode cX1_tag 91 = .ok (.lastore, 1) := dk_80 (dk_at dksX1_tag_3 22 rfl rfl)
theorem dX1_tag_92 : decode cX1_tag 92 = .ok (.iload 5, 2) := dk_21 5 (dk_at dksX1_tag_4 0 rfl rfl)
theorem dX1_tag_94 : decode cX1_tag 94 = .ok (.iconst 4, 1) := dk_7 (dk_at dksX1_tag_4 2 rfl rfl)
theorem dX1_tag_95 : decode cX1_tag 95 = .ok (.iadd, 1) := dk_96 (dk_at dksX1_tag_4 3 rfl rfl)
theorem dX1_tag_96 : decode cX1_tag 96 = .ok (.istore 5, 2) := dk_54 5 (dk_at dksX1_tag_4 4 rfl rfl)
theorem dX1_tag_98 : decode cX1_tag 98 = .ok (.goto (-31), 3) := dk_167 255 225 (dk_at dksX1_tag_4 6 rfl rfl)
theorem dX1_tag_101 : decode cX1_tag 101 = .ok (.iconst 4, 1) := dk_7 (dk_at dksX1_tag_4 9 rfl rfl)
theorem dX1_tag_102 : decode cX1_tag 102 = .ok (.istore 5, 2) := dk_54 5 (dk_at dksX1_tag_4 10 rfl rfl)
theorem dX1_tag_104 : decode cX1_tag 104 = .ok (.iload 5, 2) := dk_21 5 (dk_at dksX1_tag_4 12 rfl rfl)
theorem dX1_tag_106 : decode cX1_tag 106 = .ok (.bipush 16, 2) := dk_16 16 (dk_at dksX1_tag_4 14 rfl rfl)
theorem dX1_tag_108 : decode cX1_tag 108 = .ok (.if_icmp .ge 30, 3) := dk_162 0 30 (dk_at dksX1_tag_4 16 rfl rfl)
theorem dX1_tag_111 : decode cX1_tag 111 = .ok (.aload_n 0, 1) := dk_42 (dk_at dksX1_tag_4 19 rfl rfl)
theorem dX1_tag_112 : decode cX1_tag 112 = .ok (.getfield 20, 3) := dk_180 0 20 (dk_at dksX1_tag_4 20 rfl rfl)
theorem dX1_tag_115 : decode cX1_tag 115 = .ok (.iload 5, 2) := dk_21 5 (dk_at dksX1_tag_5 0 rfl rfl)
theorem dX1_tag_117 : decode cX1_tag 117 = .ok (.aload_n 0, 1) := dk_42 (dk_at dksX1_tag_5 2 rfl rfl)
theorem dX1_tag_118 : decode cX1_tag 118 = .ok (.getfield 20, 3) := dk_180 0 20 (dk_at dksX1_tag_5 3 rfl rfl)
theorem dX1_tag_121 : decode cX1_tag 121 = .ok (.iload 5, 2) := dk_21 5 (dk_at dksX1_tag_5 6 rfl rfl)
theorem dX1_tag_123 : decode cX1_tag 123 = .ok (.laload, 1) := dk_47 (dk_at dksX1_tag_5 8 rfl rfl)
theorem dX1_tag_124 : decode cX1_tag 124 = .ok (.ldc2_w 53, 3) := dk_20 0 53 (dk_at dksX1_tag_5 9 rfl rfl)
theorem dX1_tag_127 : decode cX1_tag 127 = .ok (.land, 1) := dk_127 (dk_at dksX1_tag_5 12 rfl rfl)
theorem dX1_tag_128 : decode cX1_tag 128 = .ok (.lastore, 1) := dk_80 (dk_at dksX1_tag_5 13 rfl rfl)
theorem dX1_tag_129 : decode cX1_tag 129 = .ok (.iload 5, 2) := dk_21 5 (dk_at dksX1_tag_5 14 rfl rfl)
theorem dX1_tag_131 : decode cX1_tag 131 = .ok (.iconst 4, 1) := dk_7 (dk_at dksX1_tag_5 16 rfl rfl)
theorem dX1_tag_132 : decode cX1_tag 132 = .ok (.iadd, 1) := dk_96 (dk_at dksX1_tag_5 17 rfl rfl)
theorem dX1_tag_133 : decode cX1_tag 133 = .ok (.istore 5, 2) := dk_54 5 (dk_at dksX1_tag_5 18 rfl rfl)
theorem dX1_tag_135 : decode cX1_tag 135 = .ok (.goto (-31), 3) := dk_167 255 225 (dk_at dksX1_tag_5 20 rfl rfl)
theorem dX1_tag_138 : decode cX1_tag 138 = .ok (.iconst 0, 1) := dk_3 (dk_at dksX1_tag_5 23 rfl rfl)
theorem dX1_tag_139 : decode cX1_tag 139 = .ok (.istore 5, 2) := dk_54 5 (dk_at dksX1_tag_6 0 rfl rfl)
theorem dX1_tag_141 : decode cX1_tag 141 = .ok (.iload 5, 2) := dk_21 5 (dk_at dksX1_tag_6 2 rfl rfl)
theorem dX1_tag_143 : decode cX1_tag 143 = .ok (.iload 4, 2) := dk_21 4 (dk_at dksX1_tag_6 4 rfl rfl)
theorem dX1_tag_145 : decode cX1_tag 145 = .ok (.if_icmp .ge 240, 3) := dk_162 0 240 (dk_at dksX1_tag_6 6 rfl rfl)
theorem dX1_tag_148 : decode cX1_tag 148 = .ok (.iload 4, 2) := dk_21 4 (dk_at dksX1_tag_6 9 rfl rfl)
theorem dX1_tag_150 : decode cX1_tag 150 = .ok (.iload 5, 2) := dk_21 5 (dk_at dksX1_tag_6 11 rfl rfl)
theorem dX1_tag_152 : decode cX1_tag 152 = .ok (.isub, 1) := dk_100 (dk_at dksX1_tag_6 13 rfl rfl)
theorem dX1_tag_153 : decode cX1_tag 153 = .ok (.bipush 16, 2) := dk_16 16 (dk_at dksX1_tag_6 14 rfl rfl)
theorem dX1_tag_155 : decode cX1_tag 155 = .ok (.if_icmp .ge 11, 3) := dk_162 0 11 (dk_at dksX1_tag_6 16 rfl rfl)
theorem dX1_tag_158 : decode cX1_tag 158 = .ok (.iload 4, 2) := dk_21 4 (dk_at dksX1_tag_6 19 rfl rfl)
theorem dX1_tag_160 : decode cX1_tag 160 = .ok (.iload 5, 2) := dk_21 5 (dk_at dksX1_tag_6 21 rfl rfl)
theorem dX1_tag_162 : decode cX1_tag 162 = .ok (.isub, 1) := dk_100 (dk_at dksX1_tag_6 23 rfl rfl)
theorem dX1_tag_163 : decode cX1_tag 163 = .ok (.goto 5, 3) := dk_167 0 5 (dk_at dksX1_tag_7 0 rfl rfl)
theorem dX1_tag_166 : decode cX1_tag 166 = .ok (.bipush 16, 2) := dk_16 16 (dk_at dksX1_tag_7 3 rfl rfl)
theorem dX1_tag_168 : decode cX1_tag 168 = .ok (.istore 6, 2) := dk_54 6 (dk_at dksX1_tag_7 5 rfl rfl)
theorem dX1_tag_170 : decode cX1_tag 170 = .ok (.iconst 0, 1) := dk_3 (dk_at dksX1_tag_7 7 rfl rfl)
theorem dX1_tag_171 : decode cX1_tag 171 = .ok (.istore 7, 2) := dk_54 7 (dk_at dksX1_tag_7 8 rfl rfl)
theorem dX1_tag_173 : decode cX1_tag 173 = .ok (.iload 7, 2) := dk_21 7 (dk_at dksX1_tag_7 10 rfl rfl)
theorem dX1_tag_175 : decode cX1_tag 175 = .ok (.iload 6, 2) := dk_21 6 (dk_at dksX1_tag_7 12 rfl rfl)
theorem dX1_tag_177 : decode cX1_tag 177 = .ok (.if_icmp .ge 41, 3) := dk_162 0 41 (dk_at dksX1_tag_7 14 rfl rfl)
theorem dX1_tag_180 : decode cX1_tag 180 = .ok (.aload_n 0, 1) := dk_42 (dk_at dksX1_tag_7 17 rfl rfl)
theorem dX1_tag_181 : decode cX1_tag 181 = .ok (.getfield 24, 3) := dk_180 0 24 (dk_at dksX1_tag_7 18 rfl rfl)
theorem dX1_tag_184 : decode cX1_tag 184 = .ok (.iload 7, 2) := dk_21 7 (dk_at dksX1_tag_7 21 rfl rfl)
theorem dX1_tag_186 : decode cX1_tag 186 = .ok (.aload_n 0, 1) := dk_42 (dk_at dksX1_tag_7 23 rfl rfl)
theorem dX1_tag_187 : decode cX1_tag 187 = .ok (.getfield 24, 3) := dk_180 0 24 (dk_at dksX1_tag_8 0 rfl rfl)
theorem dX1_tag_190 : decode cX1_tag 190 = .ok (.iload 7, 2) := dk_21 7 (dk_at dksX1_tag_8 3 rfl rfl)
theorem dX1_tag_192 : decode cX1_tag 192 = .ok (.laload, 1) := dk_47 (dk_at dksX1_tag_8 5 rfl rfl)
theorem dX1_tag_193 : decode cX1_tag 193 = .ok (.aload_n 0, 1) := dk_42 (dk_at dksX1_tag_8 6 rfl rfl)
theorem dX1_tag_194 : decode cX1_tag 194 = .ok (.getfield 7, 3) := dk_180 0 7 (dk_at dksX1_tag_8 7 rfl rfl)
theorem dX1_tag_197 : decode cX1_tag 197 = .ok (.iload_n 3, 1) := dk_29 (dk_at dksX1_tag_8 10 rfl rfl)
theorem dX1_tag_198 : decode cX1_tag 198 = .ok (.iload 5, 2) := dk_21 5 (dk_at dksX1_tag_8 11 rfl rfl)
theorem dX1_tag_200 : decode cX1_tag 200 = .ok (.iadd, 1) := dk_96 (dk_at dksX1_tag_8 13 rfl rfl)
theorem dX1_tag_201 : decode cX1_tag 201 = .ok (.iload 7, 2) := dk_21 7 (dk_at dksX1_tag_8 14 rfl rfl)
theorem dX1_tag_203 : decode cX1_tag 203 = .ok (.iadd, 1) := dk_96 (dk_at dksX1_tag_8 16 rfl rfl)
theorem dX1_tag_204 : decode cX1_tag 204 = .ok (.baload, 1) := dk_51 (dk_at dksX1_tag_8 17 rfl rfl)
theorem dX1_tag_205 : decode cX1_tag 205 = .ok (.sipush 255, 3) := dk_17 0 255 (dk_at dksX1_tag_8 18 rfl rfl)
theorem dX1_tag_208 : decode cX1_tag 208 = .ok (.iand, 1) := dk_126 (dk_at dksX1_tag_8 21 rfl rfl)
theorem dX1_tag_209 : decode cX1_tag 209 = .ok (.i2l, 1) := dk_133 (dk_at dksX1_tag_8 22 rfl rfl)
theorem dX1_tag_210 : decode cX1_tag 210 = .ok (.ladd, 1) := dk_97 (dk_at dksX1_tag_8 23 rfl rfl)
theorem dX1_tag_211 : decode cX1_tag 211 = .ok (.lastore, 1) := dk_80 (dk_at dksX1_tag_9 0 rfl rfl)
theorem dX1_tag_212 : decode cX1_tag 212 = .ok (.iinc 7 1, 3) := dk_132 7 1 (dk_at dksX1_tag_9 1 rfl rfl)
theorem dX1_tag_215 : decode cX1_tag 215 = .ok (.goto (-42), 3) := dk_167 255 214 (dk_at dksX1_tag_9 4 rfl rfl)
theorem dX1_tag_218 : decode cX1_tag 218 = .ok (.aload_n 0, 1) := dk_42 (dk_at dksX1_tag_9 7 rfl rfl)
theorem dX1_tag_219 : decode cX1_tag 219 = .ok (.getfield 24, 3) := dk_180 0 24 (dk_at dksX1_tag_9 8 rfl rfl)
theorem dX1_tag_222 : decode cX1_tag 222 = .ok (.iload 6, 2) := dk_21 6 (dk_at dksX1_tag_9 11 rfl rfl)
theorem dX1_tag_224 : decode cX1_tag 224 = .ok (.aload_n 0, 1) := dk_42 (dk_at dksX1_tag_9 13 rfl rfl)
theorem dX1_tag_225 : decode cX1_tag 225 = .ok (.getfield 24, 3) := dk_180 0 24 (dk_at dksX1_tag_9 14 rfl rfl)
theorem dX1_tag_228 : decode cX1_tag 228 = .ok (.iload 6, 2) := dk_21 6 (dk_at dksX1_tag_9 17 rfl rfl)
theorem dX1_tag_230 : decode cX1_tag 230 = .ok (.laload, 1) := dk_47 (dk_at dksX1_tag_9 19 rfl rfl)
theorem dX1_tag_231 : decode cX1_tag 231 = .ok (.lconst 1, 1) := dk_10 (dk_at dksX1_tag_9 20 rfl rfl)
theorem dX1_tag_232 : decode cX1_tag 232 = .ok (.ladd, 1) := dk_97 (dk_at dksX1_tag_9 21 rfl rfl)
theorem dX1_tag_233 : decode cX1_tag 233 = .ok (.lastore, 1) := dk_80 (dk_at dksX1_tag_9 22 rfl rfl)
theorem dX1_tag_234 : decode cX1_tag 234 = .ok (.iconst 0, 1) := dk_3 (dk_at dksX1_tag_9 23 rfl rfl)
theorem dX1_tag_235 : decode cX1_tag 235 = .ok (.istore 7, 2) := dk_54 7 (dk_at dksX1_tag_10 0 rfl rfl)
theorem dX1_tag_237 : decode cX1_tag 237 = .ok (.iload 7, 2) := dk_21 7 (dk_at dksX1_tag_10 2 rfl rfl)
theorem dX1_tag_239 : decode cX1_tag 239 = .ok (.bipush 34, 2) := dk_16 34 (dk_at dksX1_tag_10 4 rfl rfl)
theorem dX1_tag_241 : decode cX1_tag 241 = .ok (.if_icmp .ge 17, 3) := dk_162 0 17 (dk_at dksX1_tag_10 6 rfl rfl)
theorem dX1_tag_244 : decode cX1_tag 244 = .ok (.aload_n 0, 1) := dk_42 (dk_at dksX1_tag_10 9 rfl rfl)
theorem dX1_tag_245 : decode cX1_tag 245 = .ok (.getfield 27, 3) := dk_180 0 27 (dk_at dksX1_tag_10 10 rfl rfl)
theorem dX1_tag_248 : decode cX1_tag 248 = .ok (.iload 7, 2) := dk_21 7 (dk_at dksX1_tag_10 13 rfl rfl)
theorem dX1_tag_250 : decode cX1_tag 250 = .ok (.lconst 0, 1) := dk_9 (dk_at dksX1_tag_10 15 rfl rfl)
theorem dX1_tag_251 : decode cX1_tag 251 = .ok (.lastore, 1) := dk_80 (dk_at dksX1_tag_10 16 rfl rfl)
theorem dX1_tag_252 : decode cX1_tag 252 = .ok (.iinc 7 1, 3) := dk_132 7 1 (dk_at dksX1_tag_10 17 rfl rfl)
theorem dX1_tag_255 : decode cX1_tag 255 = .ok (.goto (-18), 3) := dk_167 255 238 (dk_at dksX1_tag_10 20 rfl rfl)
theorem dX1_tag_258 : decode cX1_tag 258 = .ok (.iconst 0, 1) := dk_3 (dk_at dksX1_tag_10 23 rfl rfl)
theorem dX1_tag_259 : decode cX1_tag 259 = .ok (.istore 7, 2) := dk_54 7 (dk_at dksX1_tag_11 0 rfl rfl)
theorem dX1_tag_261 : decode cX1_tag 261 = .ok (.iload 7, 2) := dk_21 7 (dk_at dksX1_tag_11 2 rfl rfl)
theorem dX1_tag_263 : decode cX1_tag 263 = .ok (.bipush 17, 2) := dk_16 17 (dk_at dksX1_tag_11 4 rfl rfl)
theorem dX1_tag_265 : decode cX1_tag 265 = .ok (.if_icmp .ge 61, 3) := dk_162 0 61 (dk_at dksX1_tag_11 6 rfl rfl)
theorem dX1_tag_268 : decode cX1_tag 268 = .ok (.iconst 0, 1) := dk_3 (dk_at dksX1_tag_11 9 rfl rfl)
theorem dX1_tag_269 : decode cX1_tag 269 = .ok (.istore 8, 2) := dk_54 8 (dk_at dksX1_tag_11 10 rfl rfl)
theorem dX1_tag_271 : decode cX1_tag 271 = .ok (.iload 8, 2) := dk_21 8 (dk_at dksX1_tag_11 12 rfl rfl)
theorem dX1_tag_273 : decode cX1_tag 273 = .ok (.bipush 17, 2) := dk_16 17 (dk_at dksX1_tag_11 14 rfl rfl)
theorem dX1_tag_275 : decode cX1_tag 275 = .ok (.if_icmp .ge 45, 3) := dk_162 0 45 (dk_at dksX1_tag_11 16 rfl rfl)
theorem dX1_tag_278 : decode cX1_tag 278 = .ok (.aload_n 0, 1) := dk_42 (dk_at dksX1_tag_11 19 rfl rfl)
theorem dX1_tag_279 : decode cX1_tag 279 = .ok (.getfield 27, 3) := dk_180 0 27 (dk_at dksX1_tag_11 20 rfl rfl)
theorem dX1_tag_282 : decode cX1_tag 282 = .ok (.iload 7, 2) := dk_21 7 (dk_at dksX1_tag_12 0 rfl rfl)
theorem dX1_tag_284 : decode cX1_tag 284 = .ok (.iload 8, 2) := dk_21 8 (dk_at dksX1_tag_12 2 rfl rfl)
theorem dX1_tag_286 : decode cX1_tag 286 = .ok (.iadd, 1) := dk_96 (dk_at dksX1_tag_12 4 rfl rfl)
theorem dX1_tag_287 : decode cX1_tag 287 = .ok (.aload_n 0, 1) := dk_42 (dk_at dksX1_tag_12 5 rfl rfl)
theorem dX1_tag_288 : decode cX1_tag 288 = .ok (.getfield 27, 3) := dk_180 0 27 (dk_at dksX1_tag_12 6 rfl rfl)
theorem dX1_tag_291 : decode cX1_tag 291 = .ok (.iload 7, 2) := dk_21 7 (dk_at dksX1_tag_12 9 rfl rfl)
theorem dX1_tag_293 : decode cX1_tag 293 = .ok (.iload 8, 2) := dk_21 8 (dk_at dksX1_tag_12 11 rfl rfl)
theorem dX1_tag_295 : decode cX1_tag 295 = .ok (.iadd, 1) := dk_96 (dk_at dksX1_tag_12 13 rfl rfl)
theorem dX1_tag_296 : decode cX1_tag 296 = .ok (.laload, 1) := dk_47 (dk_at dksX1_tag_12 14 rfl rfl)
theorem dX1_tag_297 : decode cX1_tag 297 = .ok (.aload_n 0, 1) := dk_42 (dk_at dksX1_tag_12 15 rfl rfl)
theorem dX1_tag_298 : decode cX1_tag 298 = .ok (.getfield 24, 3) := dk_180 0 24 (dk_at dksX1_tag_12 16 rfl rfl)
theorem dX1_tag_301 : decode cX1_tag 301 = .ok (.iload 7, 2) := dk_21 7 (dk_at dksX1_tag_12 19 rfl rfl)
theorem dX1_tag_303 : decode cX1_tag 303 = .ok (.laload, 1) := dk_47 (dk_at dksX1_tag_12 21 rfl rfl)
theorem dX1_tag_304 : decode cX1_tag 304 = .ok (.aload_n 0, 1) := dk_42 (dk_at dksX1_tag_12 22 rfl rfl)
theorem dX1_tag_305 : decode cX1_tag 305 = .ok (.getfield 20, 3) := dk_180 0 20 (dk_at dksX1_tag_13 0 rfl rfl)
theorem dX1_tag_308 : decode cX1_tag 308 = .ok (.iload 8, 2) := dk_21 8 (dk_at dksX1_tag_13 3 rfl rfl)
theorem dX1_tag_310 : decode cX1_tag 310 = .ok (.laload, 1) := dk_47 (dk_at dksX1_tag_13 5 rfl rfl)
theorem dX1_tag_311 : decode cX1_tag 311 = .ok (.lmul, 1) := dk_105 (dk_at dksX1_tag_13 6 rfl rfl)
theorem dX1_tag_312 : decode cX1_tag 312 = .ok (.ladd, 1) := dk_97 (dk_at dksX1_tag_13 7 rfl rfl)
theorem dX1_tag_313 : decode cX1_tag 313 = .ok (.lastore, 1) := dk_80 (dk_at dksX1_tag_13 8 rfl rfl)
theorem dX1_tag_314 : decode cX1_tag 314 = .ok (.iinc 8 1, 3) := dk_132 8 1 (dk_at dksX1_tag_13 9 rfl rfl)
theorem dX1_tag_317 : decode cX1_tag 317 = .ok (.goto (-46), 3) := dk_167 255 210 (dk_at dksX1_tag_13 12 rfl rfl)
theorem dX1_tag_320 : decode cX1_tag 320 = .ok (.iinc 7 1, 3) := dk_132 7 1 (dk_at dksX1_tag_13 15 rfl rfl)
theorem dX1_tag_323 : decode cX1_tag 323 = .ok (.goto (-62), 3) := dk_167 255 194 (dk_at dksX1_tag_13 18 rfl rfl)
theorem dX1_tag_326 : decode cX1_tag 326 = .ok (.iconst 0, 1) := dk_3 (dk_at dksX1_tag_13 21 rfl rfl)
theorem dX1_tag_327 : decode cX1_tag 327 = .ok (.istore 7, 2) := dk_54 7 (dk_at dksX1_tag_13 22 rfl rfl)
theorem dX1_tag_329 : decode cX1_tag 329 = .ok (.iload 7, 2) := dk_21 7 (dk_at dksX1_tag_14 0 rfl rfl)
theorem dX1_tag_331 : decode cX1_tag 331 = .ok (.bipush 17, 2) := dk_16 17 (dk_at dksX1_tag_14 2 rfl rfl)
theorem dX1_tag_333 : decode cX1_tag 333 = .ok (.if_icmp .ge 38, 3) := dk_162 0 38 (dk_at dksX1_tag_14 4 rfl rfl)
theorem dX1_tag_336 : decode cX1_tag 336 = .ok (.aload_n 0, 1) := dk_42 (dk_at dksX1_tag_14 7 rfl rfl)
theorem dX1_tag_337 : decode cX1_tag 337 = .ok (.getfield 24, 3) := dk_180 0 24 (dk_at dksX1_tag_14 8 rfl rfl)
theorem dX1_tag_340 : decode cX1_tag 340 = .ok (.iload 7, 2) := dk_21 7 (dk_at dksX1_tag_14 11 rfl rfl)
theorem dX1_tag_342 : decode cX1_tag 342 = .ok (.aload_n 0, 1) := dk_42 (dk_at dksX1_tag_14 13 rfl rfl)
theorem dX1_tag_343 : decode cX1_tag 343 = .ok (.getfield 27, 3) := dk_180 0 27 (dk_at dksX1_tag_14 14 rfl rfl)
theorem dX1_tag_346 : decode cX1_tag 346 = .ok (.iload 7, 2) := dk_21 7 (dk_at dksX1_tag_14 17 rfl rfl)
theorem dX1_tag_348 : decode cX1_tag 348 = .ok (.laload, 1) := dk_47 (dk_at dksX1_tag_14 19 rfl rfl)
theorem dX1_tag_349 : decode cX1_tag 349 = .ok (.ldc2_w 55, 3) := dk_20 0 55 (dk_at dksX1_tag_14 20 rfl rfl)
theorem dX1_tag_352 : decode cX1_tag 352 = .ok (.aload_n 0, 1) := dk_42 (dk_at dksX1_tag_14 23 rfl rfl)
theorem dX1_tag_353 : decode cX1_tag 353 = .ok (.getfield 27, 3) := dk_180 0 27 (dk_at dksX1_tag_15 0 rfl rfl)
theorem dX1_tag_356 : decode cX1_tag 356 = .ok (.iload 7, 2) := dk_21 7 (dk_at dksX1_tag_15 3 rfl rfl)
theorem dX1_tag_358 : decode cX1_tag 358 = .ok (.bipush 17, 2) := dk_16 17 (dk_at dksX1_tag_15 5 rfl rfl)
theorem dX1_tag_360 : decode cX1_tag 360 = .ok (.iadd, 1) := dk_96 (dk_at dksX1_tag_15 7 rfl rfl)
theorem dX1_tag_361 : decode cX1_tag 361 = .ok (.laload, 1) := dk_47 (dk_at dksX1_tag_15 8 rfl rfl)
theorem dX1_tag_362 : decode cX1_tag 362 = .ok (.lmul, 1) := dk_105 (dk_at dksX1_tag_15 9 rfl rfl)
theorem dX1_tag_363 : decode cX1_tag 363 = .ok (.ladd, 1) := dk_97 (dk_at dksX1_tag_15 10 rfl rfl)
theorem dX1_tag_364 : decode cX1_tag 364 = .ok (.lastore, 1) := dk_80 (dk_at dksX1_tag_15 11 rfl rfl)
theorem dX1_tag_365 : decode cX1_tag 365 = .ok (.iinc 7 1, 3) := dk_132 7 1 (dk_at dksX1_tag_15 12 rfl rfl)
theorem dX1_tag_368 : decode cX1_tag 368 = .ok (.goto (-39), 3) := dk_167 255 217 (dk_at dksX1_tag_15 15 rfl rfl)
theorem dX1_tag_371 : decode cX1_tag 371 = .ok (.aload_n 0, 1) := dk_42 (dk_at dksX1_tag_15 18 rfl rfl)
theorem dX1_tag_372 : decode cX1_tag 372 = .ok (.invokevirtual 57, 3) := dk_182 0 57 (dk_at dksX1_tag_15 19 rfl rfl)
theorem dX1_tag_375 : decode cX1_tag 375 = .ok (.iload 5, 2) := dk_21 5 (dk_at dksX1_tag_15 22 rfl rfl)
theorem dX1_tag_377 : decode cX1_tag 377 = .ok (.bipush 16, 2) := dk_16 16 (dk_at dksX1_tag_16 0 rfl rfl)
theorem dX1_tag_379 : decode cX1_tag 379 = .ok (.iadd, 1) := dk_96 (dk_at dksX1_tag_16 2 rfl rfl)
theorem dX1_tag_380 : decode cX1_tag 380 = .ok (.istore 5, 2) := dk_54 5 (dk_at dksX1_tag_16 3 rfl rfl)
theorem dX1_tag_382 : decode cX1_tag 382 = .ok (.goto (-241), 3) := dk_167 255 15 (dk_at dksX1_tag_16 5 rfl rfl)
theorem dX1_tag_385 : decode cX1_tag 385 = .ok (.lconst 0, 1) := dk_9 (dk_at dksX1_tag_16 8 rfl rfl)
theorem dX1_tag_386 : decode cX1_tag 386 = .ok (.lstore 5, 2) := dk_55 5 (dk_at dksX1_tag_16 9 rfl rfl)
theorem dX1_tag_388 : decode cX1_tag 388 = .ok (.iconst 0, 1) := dk_3 (dk_at dksX1_tag_16 11 rfl rfl)
theorem dX1_tag_389 : decode cX1_tag 389 = .ok (.istore 7, 2) := dk_54 7 (dk_at dksX1_tag_16 12 rfl rfl)
theorem dX1_tag_391 : decode cX1_tag 391 = .ok (.iload 7, 2) := dk_21 7 (dk_at dksX1_tag_16 14 rfl rfl)
theorem dX1_tag_393 : decode cX1_tag 393 = .ok (.bipush 16, 2) := dk_16 16 (dk_at dksX1_tag_16 16 rfl rfl)
theorem dX1_tag_395 : decode cX1_tag 395 = .ok (.if_icmp .ge 54, 3) := dk_162 0 54 (dk_at dksX1_tag_16 18 rfl rfl)
theorem dX1_tag_398 : decode cX1_tag 398 = .ok (.aload_n 0, 1) := dk_42 (dk_at dksX1_tag_16 21 rfl rfl)
theorem dX1_tag_399 : decode cX1_tag 399 = .ok (.getfield 24, 3) := dk_180 0 24 (dk_at dksX1_tag_17 0 rfl rfl)
theorem dX1_tag_402 : decode cX1_tag 402 = .ok (.iload 7, 2) := dk_21 7 (dk_at dksX1_tag_17 3 rfl rfl)
theorem dX1_tag_404 : decode cX1_tag 404 = .ok (.laload, 1) := dk_47 (dk_at dksX1_tag_17 5 rfl rfl)
theorem dX1_tag_405 : decode cX1_tag 405 = .ok (.aload_n 0, 1) := dk_42 (dk_at dksX1_tag_17 6 rfl rfl)
theorem dX1_tag_406 : decode cX1_tag 406 = .ok (.getfield 13, 3) := dk_180 0 13 (dk_at dksX1_tag_17 7 rfl rfl)
theorem dX1_tag_409 : decode cX1_tag 409 = .ok (.bipush 16, 2) := dk_16 16 (dk_at dksX1_tag_17 10 rfl rfl)
theorem dX1_tag_411 : decode cX1_tag 411 = .ok (.iload 7, 2) := dk_21 7 (dk_at dksX1_tag_17 12 rfl rfl)
theorem dX1_tag_413 : decode cX1_tag 413 = .ok (.iadd, 1) := dk_96 (dk_at dksX1_tag_17 14 rfl rfl)
theorem dX1_tag_414 : decode cX1_tag 414 = .ok (.iaload, 1) := dk_46 (dk_at dksX1_tag_17 15 rfl rfl)
theorem dX1_tag_415 : decode cX1_tag 415 = .ok (.i2l, 1) := dk_133 (dk_at dksX1_tag_17 16 rfl rfl)
theorem dX1_tag_416 : decode cX1_tag 416 = .ok (.ladd, 1) := dk_97 (dk_at dksX1_tag_17 17 rfl rfl)
theorem dX1_tag_417 : decode cX1_tag 417 = .ok (.lload 5, 2) := dk_22 5 (dk_at dksX1_tag_17 18 rfl rfl)
theorem dX1_tag_419 : decode cX1_tag 419 = .ok (.ladd, 1) := dk_97 (dk_at dksX1_tag_17 20 rfl rfl)
theorem dX1_tag_420 : decode cX1_tag 420 = .ok (.lstore 8, 2) := dk_55 8 (dk_at dksX1_tag_17 21 rfl rfl)
theorem dX1_tag_422 : decode cX1_tag 422 = .ok (.aload_n 0, 1) := dk_42 (dk_at dksX1_tag_17 23 rfl rfl)
theorem dX1_tag_423 : decode cX1_tag 423 = .ok (.getfield 17, 3) := dk_180 0 17 (dk_at dksX1_tag_18 0 rfl rfl)
theorem dX1_tag_426 : decode cX1_tag 426 = .ok (.iload 7, 2) := dk_21 7 (dk_at dksX1_tag_18 3 rfl rfl)
theorem dX1_tag_428 : decode cX1_tag 428 = .ok (.lload 8, 2) := dk_22 8 (dk_at dksX1_tag_18 5 rfl rfl)
theorem dX1_tag_430 : decode cX1_tag 430 = .ok (.ldc2_w 39, 3) := dk_20 0 39 (dk_at dksX1_tag_18 7 rfl rfl)
theorem dX1_tag_433 : decode cX1_tag 433 = .ok (.land, 1) := dk_127 (dk_at dksX1_tag_18 10 rfl rfl)
theorem dX1_tag_434 : decode cX1_tag 434 = .ok (.l2i, 1) := dk_136 (dk_at dksX1_tag_18 11 rfl rfl)
theorem dX1_tag_435 : decode cX1_tag 435 = .ok (.iastore, 1) := dk_79 (dk_at dksX1_tag_18 12 rfl rfl)
theorem dX1_tag_436 : decode cX1_tag 436 = .ok (.lload 8, 2) := dk_22 8 (dk_at dksX1_tag_18 13 rfl rfl)
theorem dX1_tag_438 : decode cX1_tag 438 = .ok (.bipush 8, 2) := dk_16 8 (dk_at dksX1_tag_18 15 rfl rfl)
theorem dX1_tag_440 : decode cX1_tag 440 = .ok (.lshr, 1) := dk_123 (dk_at dksX1_tag_18 17 rfl rfl)
theorem dX1_tag_441 : decode cX1_tag 441 = .ok (.lstore 5, 2) := dk_55 5 (dk_at dksX1_tag_18 18 rfl rfl)
theorem dX1_tag_443 : decode cX1_tag 443 = .ok (.iinc 7 1, 3) := dk_132 7 1 (dk_at dksX1_tag_18 20 rfl rfl)
theorem dX1_tag_446 : decode cX1_tag 446 = .ok (.goto (-55), 3) := dk_167 255 201 (dk_at dksX1_tag_19 0 rfl rfl)
theorem dX1_tag_449 : decode cX1_tag 449 = .ok (.return_, 1) := dk_177 (dk_at dksX1_tag_19 3 rfl rfl)
abbrev cX1_many : ByteArray := prog_3_method_6_code
def yX1_many : MethodName := ⟨RX1, "many", "(II)I"⟩
def dkwX1_many_0 : List UInt8 := [28, 18, 38, 126, 42, 180, 0, 30, 27, 100, 4, 96, 112, 172]
abbrev dktX1_many_0 : List UInt8 := dkwX1_many_0 ++ []
theorem dksX1_many_0 : cX1_many.data.toList.drop 0 = dktX1_many_0 := by decide +kernel
theorem dX1_many_0 : decode cX1_many 0 = .ok (.iload_n 2, 1) := dk_28 (dk_at dksX1_many_0 0 rfl rfl)
theorem dX1_many_1 : decode cX1_many 1 = .ok (.ldc 38, 2) := dk_18 38 (dk_at dksX1_many_0 1 rfl rfl)
theorem dX1_many_3 : decode cX1_many 3 = .ok (.iand, 1) := dk_126 (dk_at dksX1_many_0 3 rfl rfl)
theorem dX1_many_4 : decode cX1_many 4 = .ok (.aload_n 0, 1) := dk_42 (dk_at dksX1_many_0 4 rfl rfl)
theorem dX1_many_5 : decode cX1_many 5 = .ok (.getfield 30, 3) := dk_180 0 30 (dk_at dksX1_many_0 5 rfl rfl)
theorem dX1_many_8 : decode cX1_many 8 = .ok (.iload_n 1, 1) := dk_27 (dk_at dksX1_many_0 8 rfl rfl)
theorem dX1_many_9 : decode cX1_many 9 = .ok (.isub, 1) := dk_100 (dk_at dksX1_many_0 9 rfl rfl)
theorem dX1_many_10 : decode cX1_many 10 = .ok (.iconst 1, 1) := dk_4 (dk_at dksX1_many_0 10 rfl rfl)
theorem dX1_many_11 : decode cX1_many 11 = .ok (.iadd, 1) := dk_96 (dk_at dksX1_many_0 11 rfl rfl)
theorem dX1_many_12 : decode cX1_many 12 = .ok (.irem, 1) := dk_112 (dk_at dksX1_many_0 12 rfl rfl)
theorem dX1_many_13 : decode cX1_many 13 = .ok (.ireturn, 1) := dk_172 (dk_at dksX1_many_0 13 rfl rfl)
abbrev cX1_reduce : ByteArray := prog_3_method_8_code
def yX1_reduce : MethodName := ⟨RX1, "reduce", "()V"⟩
def dkwX1_reduce_9 : List UInt8 := [167, 255, 238, 42, 180, 0, 24, 3, 32, 80, 177]
abbrev dktX1_reduce_9 : List UInt8 := dkwX1_reduce_9 ++ []
def dkwX1_reduce_8 : List UInt8 := [101, 65, 3, 54, 4, 21, 4, 16, 17, 162, 0, 17, 42, 180, 0, 24, 21, 4, 9, 80, 132, 4, 1]
abbrev dktX1_reduce_8 : List UInt8 := dkwX1_reduce_8 ++ dktX1_reduce_9
def dkwX1_reduce_7 : List UInt8 := [167, 0, 4, 3, 60, 132, 2, 1, 167, 255, 224, 27, 153, 0, 45, 42, 180, 0, 24, 3, 47, 20, 0, 45]
abbrev dktX1_reduce_7 : List UInt8 := dkwX1_reduce_7 ++ dktX1_reduce_8
def dkwX1_reduce_6 : List UInt8 := [28, 16, 16, 162, 0, 32, 27, 153, 0, 20, 42, 180, 0, 24, 28, 47, 20, 0, 39, 148, 154, 0, 7, 4]
abbrev dktX1_reduce_6 : List UInt8 := dkwX1_reduce_6 ++ dktX1_reduce_7
def dkwX1_reduce_5 : List UInt8 := [154, 0, 20, 42, 180, 0, 24, 3, 47, 20, 0, 45, 148, 155, 0, 7, 4, 167, 0, 4, 3, 60, 4, 61]
abbrev dktX1_reduce_5 : List UInt8 := dkwX1_reduce_5 ++ dktX1_reduce_6
def dkwX1_reduce_4 : List UInt8 := [22, 4, 5, 123, 105, 97, 80, 132, 1, 1, 167, 255, 155, 42, 180, 0, 24, 16, 16, 47, 20, 0, 41, 148]
abbrev dktX1_reduce_4 : List UInt8 := dkwX1_reduce_4 ++ dktX1_reduce_5
def dkwX1_reduce_3 : List UInt8 := [16, 16, 22, 4, 20, 0, 41, 127, 80, 42, 180, 0, 24, 3, 42, 180, 0, 24, 3, 47, 20, 0, 43]
abbrev dktX1_reduce_3 : List UInt8 := dkwX1_reduce_3 ++ dktX1_reduce_4
def dkwX1_reduce_2 : List UInt8 := [123, 65, 132, 4, 1, 167, 255, 216, 42, 180, 0, 24, 16, 16, 47, 32, 97, 55, 4, 42, 180, 0, 24]
abbrev dktX1_reduce_2 : List UInt8 := dkwX1_reduce_2 ++ dktX1_reduce_3
def dkwX1_reduce_1 : List UInt8 := [21, 4, 47, 32, 97, 55, 5, 42, 180, 0, 24, 21, 4, 22, 5, 20, 0, 39, 127, 80, 22, 5, 16, 8]
abbrev dktX1_reduce_1 : List UInt8 := dkwX1_reduce_1 ++ dktX1_reduce_2
def dkwX1_reduce_0 : List UInt8 := [3, 60, 27, 7, 162, 0, 102, 9, 65, 3, 54, 4, 21, 4, 16, 16, 162, 0, 39, 42, 180, 0, 24]
abbrev dktX1_reduce_0 : List UInt8 := dkwX1_reduce_0 ++ dktX1_reduce_1
theorem dksX1_reduce_0 : cX1_reduce.data.toList.drop 0 = dktX1_reduce_0 := by decide +kernel
theorem dksX1_reduce_1 : cX1_reduce.data.toList.drop 23 = dktX1_reduce_1 := dk_seg dksX1_reduce_0 23 rfl rfl
theorem dksX1_reduce_2 : cX1_reduce.data.toList.drop 47 = dktX1_reduce_2 := dk_seg dksX1_reduce_1 24 rfl rfl
theorem dksX1_reduce_3 : cX1_reduce.data.toList.drop 70 = dktX1_reduce_3 := dk_seg dksX1_reduce_2 23 rfl rfl
theorem dksX1_reduce_4 : cX1_reduce.data.toList.drop 93 = dktX1_reduce_4 := dk_seg dksX1_reduce_3 23 rfl rfl
theorem dksX1_reduce_5 : cX1_reduce.data.toList.drop 117 = dktX1_reduce_5 := dk_seg dksX1_reduce_4 24 rfl rfl
theorem dksX1_reduce_6 : cX1_reduce.data.toList.drop 141 = dktX1_reduce_6 := dk_seg dksX1_reduce_5 24 rfl rfl
theorem dksX1_reduce_7 : cX1_reduce.data.toList.drop 165 = dktX1_reduce_7 := dk_seg dksX1_reduce_6 24 rfl rfl
theorem dksX1_reduce_8 : cX1_reduce.data.toList.drop 189 = dktX1_reduce_8 := dk_seg dksX1_reduce_7 24 rfl rfl
theorem dksX1_reduce_9 : cX1_reduce.data.toList.drop 212 = dktX1_reduce_9 := dk_seg dksX1_reduce_8 23 rfl rfl
theorem dX1_reduce_0 : decode cX1_reduce 0 = .ok (.iconst 0, 1) := dk_3 (dk_at dksX1_reduce_0 0 rfl rfl)
theorem dX1_reduce_1 : decode cX1_reduce 1 = .ok (.istore_n 1, 1) := dk_60 (dk_at dksX1_reduce_0 1 rfl rfl)
theorem dX1_reduce_2 : decode cX1_reduce 2 = .ok (.iload_n 1, 1) := dk_27 (dk_at dksX1_reduce_0 2 rfl rfl)
theorem dX1_reduce_3 : decode cX1_reduce 3 = .ok (.iconst 4, 1) := dk_7 (dk_at dksX1_reduce_0 3 rfl rfl)
theorem dX1_reduce_4 : decode cX1_reduce 4 = .ok (.if_icmp .ge 102, 3) := dk_162 0 102 (dk_at dksX1_reduce_0 4 rfl rfl)
theorem dX1_reduce_7 : decode cX1_reduce 7 = .ok (.lconst 0, 1) := dk_9 (dk_at dksX1_reduce_0 7 rfl rfl)
theorem dX1_reduce_8 : decode cX1_reduce 8 = .ok (.lstore_n 2, 1) := dk_65 (dk_at dksX1_reduce_0 8 rfl rfl)
theorem dX1_reduce_9 : decode cX1_reduce 9 = .ok (.iconst 0, 1) := dk_3 (dk_at dksX1_reduce_0 9 rfl rfl)
theorem dX1_reduce_10 : decode cX1_reduce 10 = .ok (.istore 4, 2) := dk_54 4 (dk_at dksX1_reduce_0 10 rfl rfl)
theorem dX1_reduce_12 : decode cX1_reduce 12 = .ok (.iload 4, 2) := dk_21 4 (dk_at dksX1_reduce_0 12 rfl rfl)
theorem dX1_reduce_14 : decode cX1_reduce 14 = .ok (.bipush 16, 2) := dk_16 16 (dk_at dksX1_reduce_0 14 rfl rfl)
theorem dX1_reduce_16 : decode cX1_reduce 16 = .ok (.if_icmp .ge 39, 3) := dk_162 0 39 (dk_at dksX1_reduce_0 16 rfl rfl)
theorem dX1_reduce_19 : decode cX1_reduce 19 = .ok (.aload_n 0, 1) := dk_42 (dk_at dksX1_reduce_0 19 rfl rfl)
theorem dX1_reduce_20 : decode cX1_reduce 20 = .ok (.getfield 24, 3) := dk_180 0 24 (dk_at dksX1_reduce_0 20 rfl rfl)
theorem dX1_reduce_23 : decode cX1_reduce 23 = .ok (.iload 4, 2) := dk_21 4 (dk_at dksX1_reduce_1 0 rfl rfl)
theorem dX1_reduce_25 : decode cX1_reduce 25 = .ok (.laload, 1) := dk_47 (dk_at dksX1_reduce_1 2 rfl rfl)
theorem dX1_reduce_26 : decode cX1_reduce 26 = .ok (.lload_n 2, 1) := dk_32 (dk_at dksX1_reduce_1 3 rfl rfl)
theorem dX1_reduce_27 : decode cX1_reduce 27 = .ok (.ladd, 1) := dk_97 (dk_at dksX1_reduce_1 4 rfl rfl)
theorem dX1_reduce_28 : decode cX1_reduce 28 = .ok (.lstore 5, 2) := dk_55 5 (dk_at dksX1_reduce_1 5 rfl rfl)
theorem dX1_reduce_30 : decode cX1_reduce 30 = .ok (.aload_n 0, 1) := dk_42 (dk_at dksX1_reduce_1 7 rfl rfl)
theorem dX1_reduce_31 : decode cX1_reduce 31 = .ok (.getfield 24, 3) := dk_180 0 24 (dk_at dksX1_reduce_1 8 rfl rfl)
theorem dX1_reduce_34 : decode cX1_reduce 34 = .ok (.iload 4, 2) := dk_21 4 (dk_at dksX1_reduce_1 11 rfl rfl)
theorem dX1_reduce_36 : decode cX1_reduce 36 = .ok (.lload 5, 2) := dk_22 5 (dk_at dksX1_reduce_1 13 rfl rfl)
theorem dX1_reduce_38 : decode cX1_reduce 38 = .ok (.ldc2_w 39, 3) := dk_20 0 39 (dk_at dksX1_reduce_1 15 rfl rfl)
theorem dX1_reduce_41 : decode cX1_reduce 41 = .ok (.land, 1) := dk_127 (dk_at dksX1_reduce_1 18 rfl rfl)
theorem dX1_reduce_42 : decode cX1_reduce 42 = .ok (.lastore, 1) := dk_80 (dk_at dksX1_reduce_1 19 rfl rfl)
theorem dX1_reduce_43 : decode cX1_reduce 43 = .ok (.lload 5, 2) := dk_22 5 (dk_at dksX1_reduce_1 20 rfl rfl)
theorem dX1_reduce_45 : decode cX1_reduce 45 = .ok (.bipush 8, 2) := dk_16 8 (dk_at dksX1_reduce_1 22 rfl rfl)
theorem dX1_reduce_47 : decode cX1_reduce 47 = .ok (.lshr, 1) := dk_123 (dk_at dksX1_reduce_2 0 rfl rfl)
theorem dX1_reduce_48 : decode cX1_reduce 48 = .ok (.lstore_n 2, 1) := dk_65 (dk_at dksX1_reduce_2 1 rfl rfl)
theorem dX1_reduce_49 : decode cX1_reduce 49 = .ok (.iinc 4 1, 3) := dk_132 4 1 (dk_at dksX1_reduce_2 2 rfl rfl)
theorem dX1_reduce_52 : decode cX1_reduce 52 = .ok (.goto (-40), 3) := dk_167 255 216 (dk_at dksX1_reduce_2 5 rfl rfl)
theorem dX1_reduce_55 : decode cX1_reduce 55 = .ok (.aload_n 0, 1) := dk_42 (dk_at dksX1_reduce_2 8 rfl rfl)
theorem dX1_reduce_56 : decode cX1_reduce 56 = .ok (.getfield 24, 3) := dk_180 0 24 (dk_at dksX1_reduce_2 9 rfl rfl)
theorem dX1_reduce_59 : decode cX1_reduce 59 = .ok (.bipush 16, 2) := dk_16 16 (dk_at dksX1_reduce_2 12 rfl rfl)
theorem dX1_reduce_61 : decode cX1_reduce 61 = .ok (.laload, 1) := dk_47 (dk_at dksX1_reduce_2 14 rfl rfl)
theorem dX1_reduce_62 : decode cX1_reduce 62 = .ok (.lload_n 2, 1) := dk_32 (dk_at dksX1_reduce_2 15 rfl rfl)
theorem dX1_reduce_63 : decode cX1_reduce 63 = .ok (.ladd, 1) := dk_97 (dk_at dksX1_reduce_2 16 rfl rfl)
theorem dX1_reduce_64 : decode cX1_reduce 64 = .ok (.lstore 4, 2) := dk_55 4 (dk_at dksX1_reduce_2 17 rfl rfl)
theorem dX1_reduce_66 : decode cX1_reduce 66 = .ok (.aload_n 0, 1) := dk_42 (dk_at dksX1_reduce_2 19 rfl rfl)
theorem dX1_reduce_67 : decode cX1_reduce 67 = .ok (.getfield 24, 3) := dk_180 0 24 (dk_at dksX1_reduce_2 20 rfl rfl)
theorem dX1_reduce_70 : decode cX1_reduce 70 = .ok (.bipush 16, 2) := dk_16 16 (dk_at dksX1_reduce_3 0 rfl rfl)
theorem dX1_reduce_72 : decode cX1_reduce 72 = .ok (.lload 4, 2) := dk_22 4 (dk_at dksX1_reduce_3 2 rfl rfl)
theorem dX1_reduce_74 : decode cX1_reduce 74 = .ok (.ldc2_w 41, 3) := dk_20 0 41 (dk_at dksX1_reduce_3 4 rfl rfl)
theorem dX1_reduce_77 : decode cX1_reduce 77 = .ok (.land, 1) := dk_127 (dk_at dksX1_reduce_3 7 rfl rfl)
theorem dX1_reduce_78 : decode cX1_reduce 78 = .ok (.lastore, 1) := dk_80 (dk_at dksX1_reduce_3 8 rfl rfl)
theorem dX1_reduce_79 : decode cX1_reduce 79 = .ok (.aload_n 0, 1) := dk_42 (dk_at dksX1_reduce_3 9 rfl rfl)
theorem dX1_reduce_80 : decode cX1_reduce 80 = .ok (.getfield 24, 3) := dk_180 0 24 (dk_at dksX1_reduce_3 10 rfl rfl)
theorem dX1_reduce_83 : decode cX1_reduce 83 = .ok (.iconst 0, 1) := dk_3 (dk_at dksX1_reduce_3 13 rfl rfl)
theorem dX1_reduce_84 : decode cX1_reduce 84 = .ok (.aload_n 0, 1) := dk_42 (dk_at dksX1_reduce_3 14 rfl rfl)
theorem dX1_reduce_85 : decode cX1_reduce 85 = .ok (.getfield 24, 3) := dk_180 0 24 (dk_at dksX1_reduce_3 15 rfl rfl)
theorem dX1_reduce_88 : decode cX1_reduce 88 = .ok (.iconst 0, 1) := dk_3 (dk_at dksX1_reduce_3 18 rfl rfl)
theorem dX1_reduce_89 : decode cX1_reduce 89 = .ok (.laload, 1) := dk_47 (dk_at dksX1_reduce_3 19 rfl rfl)
theorem dX1_reduce_90 : decode cX1_reduce 90 = .ok (.ldc2_w 43, 3) := dk_20 0 43 (dk_at dksX1_reduce_3 20 rfl rfl)
theorem dX1_reduce_93 : decode cX1_reduce 93 = .ok (.lload 4, 2) := dk_22 4 (dk_at dksX1_reduce_4 0 rfl rfl)
theorem dX1_reduce_95 : decode cX1_reduce 95 = .ok (.iconst 2, 1) := dk_5 (dk_at dksX1_reduce_4 2 rfl rfl)
theorem dX1_reduce_96 : decode cX1_reduce 96 = .ok (.lshr, 1) := dk_123 (dk_at dksX1_reduce_4 3 rfl rfl)
theorem dX1_reduce_97 : decode cX1_reduce 97 = .ok (.lmul, 1) := dk_105 (dk_at dksX1_reduce_4 4 rfl rfl)
theorem dX1_reduce_98 : decode cX1_reduce 98 = .ok (.ladd, 1) := dk_97 (dk_at dksX1_reduce_4 5 rfl rfl)
theorem dX1_reduce_99 : decode cX1_reduce 99 = .ok (.lastore, 1) := dk_80 (dk_at dksX1_reduce_4 6 rfl rfl)
theorem dX1_reduce_100 : decode cX1_reduce 100 = .ok (.iinc 1 1, 3) := dk_132 1 1 (dk_at dksX1_reduce_4 7 rfl rfl)
theorem dX1_reduce_103 : decode cX1_reduce 103 = .ok (.goto (-101), 3) := dk_167 255 155 (dk_at dksX1_reduce_4 10 rfl rfl)
theorem dX1_reduce_106 : decode cX1_reduce 106 = .ok (.aload_n 0, 1) := dk_42 (dk_at dksX1_reduce_4 13 rfl rfl)
theorem dX1_reduce_107 : decode cX1_reduce 107 = .ok (.getfield 24, 3) := dk_180 0 24 (dk_at dksX1_reduce_4 14 rfl rfl)
theorem dX1_reduce_110 : decode cX1_reduce 110 = .ok (.bipush 16, 2) := dk_16 16 (dk_at dksX1_reduce_4 17 rfl rfl)
theorem dX1_reduce_112 : decode cX1_reduce 112 = .ok (.laload, 1) := dk_47 (dk_at dksX1_reduce_4 19 rfl rfl)
theorem dX1_reduce_113 : decode cX1_reduce 113 = .ok (.ldc2_w 41, 3) := dk_20 0 41 (dk_at dksX1_reduce_4 20 rfl rfl)
theorem dX1_reduce_116 : decode cX1_reduce 116 = .ok (.lcmp, 1) := dk_148 (dk_at dksX1_reduce_4 23 rfl rfl)
theorem dX1_reduce_117 : decode cX1_reduce 117 = .ok (.ifCond .ne 20, 3) := dk_154 0 20 (dk_at dksX1_reduce_5 0 rfl rfl)
theorem dX1_reduce_120 : decode cX1_reduce 120 = .ok (.aload_n 0, 1) := dk_42 (dk_at dksX1_reduce_5 3 rfl rfl)
theorem dX1_reduce_121 : decode cX1_reduce 121 = .ok (.getfield 24, 3) := dk_180 0 24 (dk_at dksX1_reduce_5 4 rfl rfl)
theorem dX1_reduce_124 : decode cX1_reduce 124 = .ok (.iconst 0, 1) := dk_3 (dk_at dksX1_reduce_5 7 rfl rfl)
theorem dX1_reduce_125 : decode cX1_reduce 125 = .ok (.laload, 1) := dk_47 (dk_at dksX1_reduce_5 8 rfl rfl)
theorem dX1_reduce_126 : decode cX1_reduce 126 = .ok (.ldc2_w 45, 3) := dk_20 0 45 (dk_at dksX1_reduce_5 9 rfl rfl)
theorem dX1_reduce_129 : decode cX1_reduce 129 = .ok (.lcmp, 1) := dk_148 (dk_at dksX1_reduce_5 12 rfl rfl)
theorem dX1_reduce_130 : decode cX1_reduce 130 = .ok (.ifCond .lt 7, 3) := dk_155 0 7 (dk_at dksX1_reduce_5 13 rfl rfl)
theorem dX1_reduce_133 : decode cX1_reduce 133 = .ok (.iconst 1, 1) := dk_4 (dk_at dksX1_reduce_5 16 rfl rfl)
theorem dX1_reduce_134 : decode cX1_reduce 134 = .ok (.goto 4, 3) := dk_167 0 4 (dk_at dksX1_reduce_5 17 rfl rfl)
theorem dX1_reduce_137 : decode cX1_reduce 137 = .ok (.iconst 0, 1) := dk_3 (dk_at dksX1_reduce_5 20 rfl rfl)
theorem dX1_reduce_138 : decode cX1_reduce 138 = .ok (.istore_n 1, 1) := dk_60 (dk_at dksX1_reduce_5 21 rfl rfl)
theorem dX1_reduce_139 : decode cX1_reduce 139 = .ok (.iconst 1, 1) := dk_4 (dk_at dksX1_reduce_5 22 rfl rfl)
theorem dX1_reduce_140 : decode cX1_reduce 140 = .ok (.istore_n 2, 1) := dk_61 (dk_at dksX1_reduce_5 23 rfl rfl)
theorem dX1_reduce_141 : decode cX1_reduce 141 = .ok (.iload_n 2, 1) := dk_28 (dk_at dksX1_reduce_6 0 rfl rfl)
theorem dX1_reduce_142 : decode cX1_reduce 142 = .ok (.bipush 16, 2) := dk_16 16 (dk_at dksX1_reduce_6 1 rfl rfl)
theorem dX1_reduce_144 : decode cX1_reduce 144 = .ok (.if_icmp .ge 32, 3) := dk_162 0 32 (dk_at dksX1_reduce_6 3 rfl rfl)
theorem dX1_reduce_147 : decode cX1_reduce 147 = .ok (.iload_n 1, 1) := dk_27 (dk_at dksX1_reduce_6 6 rfl rfl)
theorem dX1_reduce_148 : decode cX1_reduce 148 = .ok (.ifCond .eq 20, 3) := dk_153 0 20 (dk_at dksX1_reduce_6 7 rfl rfl)
theorem dX1_reduce_151 : decode cX1_reduce 151 = .ok (.aload_n 0, 1) := dk_42 (dk_at dksX1_reduce_6 10 rfl rfl)
theorem dX1_reduce_152 : decode cX1_reduce 152 = .ok (.getfield 24, 3) := dk_180 0 24 (dk_at dksX1_reduce_6 11 rfl rfl)
theorem dX1_reduce_155 : decode cX1_reduce 155 = .ok (.iload_n 2, 1) := dk_28 (dk_at dksX1_reduce_6 14 rfl rfl)
theorem dX1_reduce_156 : decode cX1_reduce 156 = .ok (.laload, 1) := dk_47 (dk_at dksX1_reduce_6 15 rfl rfl)
theorem dX1_reduce_157 : decode cX1_reduce 157 = .ok (.ldc2_w 39, 3) := dk_20 0 39 (dk_at dksX1_reduce_6 16 rfl rfl)
theorem dX1_reduce_160 : decode cX1_reduce 160 = .ok (.lcmp, 1) := dk_148 (dk_at dksX1_reduce_6 19 rfl rfl)
theorem dX1_reduce_161 : decode cX1_reduce 161 = .ok (.ifCond .ne 7, 3) := dk_154 0 7 (dk_at dksX1_reduce_6 20 rfl rfl)
theorem dX1_reduce_164 : decode cX1_reduce 164 = .ok (.iconst 1, 1) := dk_4 (dk_at dksX1_reduce_6 23 rfl rfl)
theorem dX1_reduce_165 : decode cX1_reduce 165 = .ok (.goto 4, 3) := dk_167 0 4 (dk_at dksX1_reduce_7 0 rfl rfl)
theorem dX1_reduce_168 : decode cX1_reduce 168 = .ok (.iconst 0, 1) := dk_3 (dk_at dksX1_reduce_7 3 rfl rfl)
theorem dX1_reduce_169 : decode cX1_reduce 169 = .ok (.istore_n 1, 1) := dk_60 (dk_at dksX1_reduce_7 4 rfl rfl)
theorem dX1_reduce_170 : decode cX1_reduce 170 = .ok (.iinc 2 1, 3) := dk_132 2 1 (dk_at dksX1_reduce_7 5 rfl rfl)
theorem dX1_reduce_173 : decode cX1_reduce 173 = .ok (.goto (-32), 3) := dk_167 255 224 (dk_at dksX1_reduce_7 8 rfl rfl)
theorem dX1_reduce_176 : decode cX1_reduce 176 = .ok (.iload_n 1, 1) := dk_27 (dk_at dksX1_reduce_7 11 rfl rfl)
theorem dX1_reduce_177 : decode cX1_reduce 177 = .ok (.ifCond .eq 45, 3) := dk_153 0 45 (dk_at dksX1_reduce_7 12 rfl rfl)
theorem dX1_reduce_180 : decode cX1_reduce 180 = .ok (.aload_n 0, 1) := dk_42 (dk_at dksX1_reduce_7 15 rfl rfl)
theorem dX1_reduce_181 : decode cX1_reduce 181 = .ok (.getfield 24, 3) := dk_180 0 24 (dk_at dksX1_reduce_7 16 rfl rfl)
theorem dX1_reduce_184 : decode cX1_reduce 184 = .ok (.iconst 0, 1) := dk_3 (dk_at dksX1_reduce_7 19 rfl rfl)
theorem dX1_reduce_185 : decode cX1_reduce 185 = .ok (.laload, 1) := dk_47 (dk_at dksX1_reduce_7 20 rfl rfl)
theorem dX1_reduce_186 : decode cX1_reduce 186 = .ok (.ldc2_w 45, 3) := dk_20 0 45 (dk_at dksX1_reduce_7 21 rfl rfl)
theorem dX1_reduce_189 : decode cX1_reduce 189 = .ok (.lsub, 1) := dk_101 (dk_at dksX1_reduce_8 0 rfl rfl)
theorem dX1_reduce_190 : decode cX1_reduce 190 = .ok (.lstore_n 2, 1) := dk_65 (dk_at dksX1_reduce_8 1 rfl rfl)
theorem dX1_reduce_191 : decode cX1_reduce 191 = .ok (.iconst 0, 1) := dk_3 (dk_at dksX1_reduce_8 2 rfl rfl)
theorem dX1_reduce_192 : decode cX1_reduce 192 = .ok (.istore 4, 2) := dk_54 4 (dk_at dksX1_reduce_8 3 rfl rfl)
theorem dX1_reduce_194 : decode cX1_reduce 194 = .ok (.iload 4, 2) := dk_21 4 (dk_at dksX1_reduce_8 5 rfl rfl)
theorem dX1_reduce_196 : decode cX1_reduce 196 = .ok (.bipush 17, 2) := dk_16 17 (dk_at dksX1_reduce_8 7 rfl rfl)
theorem dX1_reduce_198 : decode cX1_reduce 198 = .ok (.if_icmp .ge 17, 3) := dk_162 0 17 (dk_at dksX1_reduce_8 9 rfl rfl)
theorem dX1_reduce_201 : decode cX1_reduce 201 = .ok (.aload_n 0, 1) := dk_42 (dk_at dksX1_reduce_8 12 rfl rfl)
theorem dX1_reduce_202 : decode cX1_reduce 202 = .ok (.getfield 24, 3) := dk_180 0 24 (dk_at dksX1_reduce_8 13 rfl rfl)
theorem dX1_reduce_205 : decode cX1_reduce 205 = .ok (.iload 4, 2) := dk_21 4 (dk_at dksX1_reduce_8 16 rfl rfl)
theorem dX1_reduce_207 : decode cX1_reduce 207 = .ok (.lconst 0, 1) := dk_9 (dk_at dksX1_reduce_8 18 rfl rfl)
theorem dX1_reduce_208 : decode cX1_reduce 208 = .ok (.lastore, 1) := dk_80 (dk_at dksX1_reduce_8 19 rfl rfl)
theorem dX1_reduce_209 : decode cX1_reduce 209 = .ok (.iinc 4 1, 3) := dk_132 4 1 (dk_at dksX1_reduce_8 20 rfl rfl)
theorem dX1_reduce_212 : decode cX1_reduce 212 = .ok (.goto (-18), 3) := dk_167 255 238 (dk_at dksX1_reduce_9 0 rfl rfl)
theorem dX1_reduce_215 : decode cX1_reduce 215 = .ok (.aload_n 0, 1) := dk_42 (dk_at dksX1_reduce_9 3 rfl rfl)
theorem dX1_reduce_216 : decode cX1_reduce 216 = .ok (.getfield 24, 3) := dk_180 0 24 (dk_at dksX1_reduce_9 4 rfl rfl)
theorem dX1_reduce_219 : decode cX1_reduce 219 = .ok (.iconst 0, 1) := dk_3 (dk_at dksX1_reduce_9 7 rfl rfl)
theorem dX1_reduce_220 : decode cX1_reduce 220 = .ok (.lload_n 2, 1) := dk_32 (dk_at dksX1_reduce_9 8 rfl rfl)
theorem dX1_reduce_221 : decode cX1_reduce 221 = .ok (.lastore, 1) := dk_80 (dk_at dksX1_reduce_9 9 rfl rfl)
theorem dX1_reduce_222 : decode cX1_reduce 222 = .ok (.return_, 1) := dk_177 (dk_at dksX1_reduce_9 10 rfl rfl)
abbrev cX1_answer : ByteArray := prog_3_method_10_code
def yX1_answer : MethodName := ⟨RX1, "answe\x72", "(I)I"⟩
def dkwX1_answer_0 : List UInt8 := [42, 180, 0, 17, 27, 16, 15, 126, 46, 172]
abbrev dktX1_answer_0 : List UInt8 := dkwX1_answer_0 ++ []
theorem dksX1_answer_0 : cX1_answer.data.toList.drop 0 = dktX1_answer_0 := by decide +kernel
theorem dX1_answer_0 : decode cX1_answer 0 = .ok (.aload_n 0, 1) := dk_42 (dk_at dksX1_answer_0 0 rfl rfl)
theorem dX1_answer_1 : decode cX1_answer 1 = .ok (.getfield 17, 3) := dk_180 0 17 (dk_at dksX1_answer_0 1 rfl rfl)
theorem dX1_answer_4 : decode cX1_answer 4 = .ok (.iload_n 1, 1) := dk_27 (dk_at dksX1_answer_0 4 rfl rfl)
theorem dX1_answer_5 : decode cX1_answer 5 = .ok (.bipush 15, 2) := dk_16 15 (dk_at dksX1_answer_0 5 rfl rfl)
theorem dX1_answer_7 : decode cX1_answer 7 = .ok (.iand, 1) := dk_126 (dk_at dksX1_answer_0 7 rfl rfl)
theorem dX1_answer_8 : decode cX1_answer 8 = .ok (.iaload, 1) := dk_46 (dk_at dksX1_answer_0 8 rfl rfl)
theorem dX1_answer_9 : decode cX1_answer 9 = .ok (.ireturn, 1) := dk_172 (dk_at dksX1_answer_0 9 rfl rfl)
theorem q10 : (Jvm.Cond.initialized "OneTimeTagModel") ∈ lw_all := lw_g (lw_at lw_m1 2 rfl) rfl
theorem q186 : (Jvm.Cond.instantiable "OneTimeTagModel" (7 : Nat)) ∈ lw_all := lw_g (lw_at lw_m1 178 rfl) rfl
theorem q188 : (Jvm.Cond.instanceMethod ({ cls := "OneTimeTagModel", name := "<init>", desc := "()V" } : Jvm.MethodName)) ∈ lw_all := lw_g (lw_at lw_m1 180 rfl) rfl
theorem q189 : (Jvm.Cond.code ({ cls := "OneTimeTagModel", name := "<init>", desc := "()V" } : Jvm.MethodName) prog_3_method_1_code (1 : Nat) (Option.none : Option Jvm.ClassFile.FieldType)) ∈ lw_all := lw_g (lw_at lw_m1 181 rfl) rfl
theorem q190 : (Jvm.Cond.methodLink "OneTimeTagModel" (1 : Nat) ({ cls := "java/lang/Object", name := "<init>", desc := "()V" } : Jvm.MethodName)) ∈ lw_all := lw_g (lw_at lw_m1 182 rfl) rfl
theorem q191 : (Jvm.Cond.fieldLink "OneTimeTagModel" (7 : Nat) "OneTimeTagModel" "text" "[B") ∈ lw_all := lw_g (lw_at lw_m1 183 rfl) rfl
theorem q192 : (Jvm.Cond.fieldLink "OneTimeTagModel" (30 : Nat) "OneTimeTagModel" "size" "I") ∈ lw_all := lw_g (lw_at lw_m1 184 rfl) rfl
theorem q193 : (Jvm.Cond.fieldLink "OneTimeTagModel" (13 : Nat) "OneTimeTagModel" "key" "[I") ∈ lw_all := lw_g (lw_at lw_m1 185 rfl) rfl
theorem q194 : (Jvm.Cond.fieldLink "OneTimeTagModel" (17 : Nat) "OneTimeTagModel" "tag" "[I") ∈ lw_all := lw_g (lw_at lw_m1 186 rfl) rfl
theorem q195 : (Jvm.Cond.fieldLink "OneTimeTagModel" (20 : Nat) "OneTimeTagModel" "\x72" "[J") ∈ lw_all := lw_g (lw_at lw_m1 187 rfl) rfl
theorem q196 : (Jvm.Cond.fieldLink "OneTimeTagModel" (24 : Nat) "OneTimeTagModel" "h" "[J") ∈ lw_all := lw_g (lw_at lw_m1 188 rfl) rfl
theorem q197 : (Jvm.Cond.fieldLink "OneTimeTagModel" (27 : Nat) "OneTimeTagModel" "w" "[J") ∈ lw_all := lw_g (lw_at lw_m1 189 rfl) rfl
theorem q198 : (Jvm.Cond.laysFinal "OneTimeTagModel" "OneTimeTagModel" "text" "[B") ∈ lw_all := lw_g (lw_at lw_m1 190 rfl) rfl
theorem q199 : (Jvm.Cond.soleField "OneTimeTagModel" "text") ∈ lw_all := lw_g (lw_at lw_m1 191 rfl) rfl
theorem q200 : (Jvm.Cond.lays "OneTimeTagModel" "OneTimeTagModel" "size" "I") ∈ lw_all := lw_g (lw_at lw_m1 192 rfl) rfl
theorem q201 : (Jvm.Cond.soleField "OneTimeTagModel" "size") ∈ lw_all := lw_g (lw_at lw_m1 193 rfl) rfl
theorem q202 : (Jvm.Cond.laysFinal "OneTimeTagModel" "OneTimeTagModel" "key" "[I") ∈ lw_all := lw_g (lw_at lw_m1 194 rfl) rfl
theorem q203 : (Jvm.Cond.soleField "OneTimeTagModel" "key") ∈ lw_all := lw_g (lw_at lw_m1 195 rfl) rfl
theorem q204 : (Jvm.Cond.laysFinal "OneTimeTagModel" "OneTimeTagModel" "tag" "[I") ∈ lw_all := lw_g (lw_at lw_m1 196 rfl) rfl
theorem q205 : (Jvm.Cond.soleField "OneTimeTagModel" "tag") ∈ lw_all := lw_g (lw_at lw_m1 197 rfl) rfl
theorem q206 : (Jvm.Cond.laysFinal "OneTimeTagModel" "OneTimeTagModel" "\x72" "[J") ∈ lw_all := lw_g (lw_at lw_m1 198 rfl) rfl
theorem q207 : (Jvm.Cond.soleField "OneTimeTagModel" "\x72") ∈ lw_all := lw_g (lw_at lw_m1 199 rfl) rfl
theorem q208 : (Jvm.Cond.laysFinal "OneTimeTagModel" "OneTimeTagModel" "h" "[J") ∈ lw_all := lw_g (lw_at lw_m1 200 rfl) rfl
theorem q209 : (Jvm.Cond.soleField "OneTimeTagModel" "h") ∈ lw_all := lw_g (lw_at lw_m1 201 rfl) rfl
theorem q210 : (Jvm.Cond.laysFinal "OneTimeTagModel" "OneTimeTagModel" "w" "[J") ∈ lw_all := lw_g (lw_at lw_m1 202 rfl) rfl
theorem q211 : (Jvm.Cond.soleField "OneTimeTagModel" "w") ∈ lw_all := lw_g (lw_at lw_m1 203 rfl) rfl
theorem q212 : (Jvm.Cond.superclass "OneTimeTagModel" "java/lang/Object") ∈ lw_all := lw_g (lw_at lw_m1 204 rfl) rfl
theorem q216 : (Jvm.Cond.instanceMethod ({ cls := "OneTimeTagModel", name := "put", desc := "(IIII)Z" } : Jvm.MethodName)) ∈ lw_all := lw_g (lw_at lw_m1 208 rfl) rfl
theorem q217 : (Jvm.Cond.selects "OneTimeTagModel" ({ cls := "OneTimeTagModel", name := "put", desc := "(IIII)Z" } : Jvm.MethodName) ({ cls := "OneTimeTagModel", name := "put", desc := "(IIII)Z" } : Jvm.MethodName)) ∈ lw_all := lw_g (lw_at lw_m1 209 rfl) rfl
theorem q218 : (Jvm.Cond.code ({ cls := "OneTimeTagModel", name := "put", desc := "(IIII)Z" } : Jvm.MethodName) prog_3_method_2_code (7 : Nat) (Option.some Jvm.ClassFile.FieldType.boolean)) ∈ lw_all := lw_g (lw_at lw_m1 210 rfl) rfl
theorem q220 : (Jvm.Cond.instanceMethod ({ cls := "OneTimeTagModel", name := "trim", desc := "(I)V" } : Jvm.MethodName)) ∈ lw_all := lw_g (lw_at lw_m1 212 rfl) rfl
theorem q221 : (Jvm.Cond.selects "OneTimeTagModel" ({ cls := "OneTimeTagModel", name := "trim", desc := "(I)V" } : Jvm.MethodName) ({ cls := "OneTimeTagModel", name := "trim", desc := "(I)V" } : Jvm.MethodName)) ∈ lw_all := lw_g (lw_at lw_m1 213 rfl) rfl
theorem q222 : (Jvm.Cond.code ({ cls := "OneTimeTagModel", name := "trim", desc := "(I)V" } : Jvm.MethodName) prog_3_method_3_code (2 : Nat) (Option.none : Option Jvm.ClassFile.FieldType)) ∈ lw_all := lw_g (lw_at lw_m1 214 rfl) rfl
theorem q223 : (Jvm.Cond.methodLink "OneTimeTagModel" (34 : Nat) ({ cls := "OneTimeTagModel", name := "first", desc := "(I)I" } : Jvm.MethodName)) ∈ lw_all := lw_g (lw_at lw_m1 215 rfl) rfl
theorem q224 : (Jvm.Cond.privateMethod ({ cls := "OneTimeTagModel", name := "first", desc := "(I)I" } : Jvm.MethodName)) ∈ lw_tbl := lw_at lw_m1 216 rfl
theorem q225 : (Jvm.Cond.instanceMethod ({ cls := "OneTimeTagModel", name := "first", desc := "(I)I" } : Jvm.MethodName)) ∈ lw_all := lw_g (lw_at lw_m1 217 rfl) rfl
theorem q226 : (Jvm.Cond.code ({ cls := "OneTimeTagModel", name := "first", desc := "(I)I" } : Jvm.MethodName) prog_3_method_5_code (2 : Nat) (Option.some Jvm.ClassFile.FieldType.int)) ∈ lw_all := lw_g (lw_at lw_m1 218 rfl) rfl
theorem q227 : (Jvm.Cond.constant "OneTimeTagModel" (38 : Nat) (2147483647 : Int32)) ∈ lw_all := lw_g (lw_at lw_m1 219 rfl) rfl
theorem q229 : (Jvm.Cond.instanceMethod ({ cls := "OneTimeTagModel", name := "size", desc := "()I" } : Jvm.MethodName)) ∈ lw_all := lw_g (lw_at lw_m1 221 rfl) rfl
theorem q230 : (Jvm.Cond.selects "OneTimeTagModel" ({ cls := "OneTimeTagModel", name := "size", desc := "()I" } : Jvm.MethodName) ({ cls := "OneTimeTagModel", name := "size", desc := "()I" } : Jvm.MethodName)) ∈ lw_all := lw_g (lw_at lw_m1 222 rfl) rfl
theorem q231 : (Jvm.Cond.code ({ cls := "OneTimeTagModel", name := "size", desc := "()I" } : Jvm.MethodName) prog_3_method_4_code (1 : Nat) (Option.some Jvm.ClassFile.FieldType.int)) ∈ lw_all := lw_g (lw_at lw_m1 223 rfl) rfl
theorem q233 : (Jvm.Cond.instanceMethod ({ cls := "OneTimeTagModel", name := "key", desc := "(IIIII)V" } : Jvm.MethodName)) ∈ lw_all := lw_g (lw_at lw_m1 225 rfl) rfl
theorem q234 : (Jvm.Cond.selects "OneTimeTagModel" ({ cls := "OneTimeTagModel", name := "key", desc := "(IIIII)V" } : Jvm.MethodName) ({ cls := "OneTimeTagModel", name := "key", desc := "(IIIII)V" } : Jvm.MethodName)) ∈ lw_all := lw_g (lw_at lw_m1 226 rfl) rfl
theorem q235 : (Jvm.Cond.code ({ cls := "OneTimeTagModel", name := "key", desc := "(IIIII)V" } : Jvm.MethodName) prog_3_method_7_code (8 : Nat) (Option.none : Option Jvm.ClassFile.FieldType)) ∈ lw_all := lw_g (lw_at lw_m1 227 rfl) rfl
theorem q237 : (Jvm.Cond.instanceMethod ({ cls := "OneTimeTagModel", name := "tag", desc := "(II)V" } : Jvm.MethodName)) ∈ lw_all := lw_g (lw_at lw_m1 229 rfl) rfl
theorem q238 : (Jvm.Cond.selects "OneTimeTagModel" ({ cls := "OneTimeTagModel", name := "tag", desc := "(II)V" } : Jvm.MethodName) ({ cls := "OneTimeTagModel", name := "tag", desc := "(II)V" } : Jvm.MethodName)) ∈ lw_all := lw_g (lw_at lw_m1 230 rfl) rfl
theorem q239 : (Jvm.Cond.code ({ cls := "OneTimeTagModel", name := "tag", desc := "(II)V" } : Jvm.MethodName) prog_3_method_9_code (10 : Nat) (Option.none : Option Jvm.ClassFile.FieldType)) ∈ lw_all := lw_g (lw_at lw_m1 231 rfl) rfl
theorem q240 : (Jvm.Cond.methodLink "OneTimeTagModel" (47 : Nat) ({ cls := "OneTimeTagModel", name := "many", desc := "(II)I" } : Jvm.MethodName)) ∈ lw_all := lw_g (lw_at lw_m1 232 rfl) rfl
theorem q241 : (Jvm.Cond.privateMethod ({ cls := "OneTimeTagModel", name := "many", desc := "(II)I" } : Jvm.MethodName)) ∈ lw_tbl := lw_at lw_m1 233 rfl
theorem q242 : (Jvm.Cond.instanceMethod ({ cls := "OneTimeTagModel", name := "many", desc := "(II)I" } : Jvm.MethodName)) ∈ lw_all := lw_g (lw_at lw_m1 234 rfl) rfl
theorem q243 : (Jvm.Cond.code ({ cls := "OneTimeTagModel", name := "many", desc := "(II)I" } : Jvm.MethodName) prog_3_method_6_code (3 : Nat) (Option.some Jvm.ClassFile.FieldType.int)) ∈ lw_all := lw_g (lw_at lw_m1 235 rfl) rfl
theorem q244 : (Jvm.Cond.constantLong "OneTimeTagModel" (51 : Nat) (15 : Int64)) ∈ lw_all := lw_g (lw_at lw_m1 236 rfl) rfl
theorem q245 : (Jvm.Cond.constantLong "OneTimeTagModel" (53 : Nat) (252 : Int64)) ∈ lw_all := lw_g (lw_at lw_m1 237 rfl) rfl
theorem q246 : (Jvm.Cond.constantLong "OneTimeTagModel" (55 : Nat) (320 : Int64)) ∈ lw_all := lw_g (lw_at lw_m1 238 rfl) rfl
theorem q247 : (Jvm.Cond.methodLink "OneTimeTagModel" (57 : Nat) ({ cls := "OneTimeTagModel", name := "reduce", desc := "()V" } : Jvm.MethodName)) ∈ lw_all := lw_g (lw_at lw_m1 239 rfl) rfl
theorem q248 : (Jvm.Cond.privateMethod ({ cls := "OneTimeTagModel", name := "reduce", desc := "()V" } : Jvm.MethodName)) ∈ lw_tbl := lw_at lw_m2 0 rfl
theorem q249 : (Jvm.Cond.instanceMethod ({ cls := "OneTimeTagModel", name := "reduce", desc := "()V" } : Jvm.MethodName)) ∈ lw_all := lw_g (lw_at lw_m2 1 rfl) rfl
theorem q250 : (Jvm.Cond.code ({ cls := "OneTimeTagModel", name := "reduce", desc := "()V" } : Jvm.MethodName) prog_3_method_8_code (7 : Nat) (Option.none : Option Jvm.ClassFile.FieldType)) ∈ lw_all := lw_g (lw_at lw_m2 2 rfl) rfl
theorem q251 : (Jvm.Cond.constantLong "OneTimeTagModel" (39 : Nat) (255 : Int64)) ∈ lw_all := lw_g (lw_at lw_m2 3 rfl) rfl
theorem q252 : (Jvm.Cond.constantLong "OneTimeTagModel" (41 : Nat) (3 : Int64)) ∈ lw_all := lw_g (lw_at lw_m2 4 rfl) rfl
theorem q253 : (Jvm.Cond.constantLong "OneTimeTagModel" (43 : Nat) (5 : Int64)) ∈ lw_all := lw_g (lw_at lw_m2 5 rfl) rfl
theorem q254 : (Jvm.Cond.constantLong "OneTimeTagModel" (45 : Nat) (251 : Int64)) ∈ lw_all := lw_g (lw_at lw_m2 6 rfl) rfl
theorem q256 : (Jvm.Cond.instanceMethod ({ cls := "OneTimeTagModel", name := "answe\x72", desc := "(I)I" } : Jvm.MethodName)) ∈ lw_all := lw_g (lw_at lw_m2 8 rfl) rfl
theorem q257 : (Jvm.Cond.selects "OneTimeTagModel" ({ cls := "OneTimeTagModel", name := "answe\x72", desc := "(I)I" } : Jvm.MethodName) ({ cls := "OneTimeTagModel", name := "answe\x72", desc := "(I)I" } : Jvm.MethodName)) ∈ lw_all := lw_g (lw_at lw_m2 9 rfl) rfl
theorem q258 : (Jvm.Cond.code ({ cls := "OneTimeTagModel", name := "answe\x72", desc := "(I)I" } : Jvm.MethodName) prog_3_method_10_code (2 : Nat) (Option.some Jvm.ClassFile.FieldType.int)) ∈ lw_all := lw_g (lw_at lw_m2 10 rfl) rfl
theorem in_X1 : ∀ w ∈ wsX10, w ∈ lw_all := lw_in wsX10 [198, 200, 202, 204, 206, 208, 210] (by decide +kernel) (by decide +kernel)
end
section
/-! Poly1305 -/
set_option maxRecDepth 100000
def RX2 : String := "Poly1305"
abbrev cX2_computeMac : ByteArray := prog_4_method_5_code
def yX2_computeMac : MethodName := ⟨RX2, "computeMac", "([B[B)[B"⟩
def dkwX2_computeMac_43 : List UInt8 := [184, 0, 61, 25, 55, 176]
abbrev dktX2_computeMac_43 : List UInt8 := dkwX2_computeMac_43 ++ []
def dkwX2_computeMac_42 : List UInt8 := [25, 55, 22, 4, 7, 184, 0, 61, 25, 55, 22, 6, 16, 8, 184, 0, 61, 25, 55, 22, 8, 16, 12]
abbrev dktX2_computeMac_42 : List UInt8 := dkwX2_computeMac_42 ++ dktX2_computeMac_43
def dkwX2_computeMac_41 : List UInt8 := [55, 22, 22, 22, 20, 0, 1, 127, 55, 8, 16, 16, 188, 8, 58, 55, 25, 55, 32, 3, 184, 0, 61]
abbrev dktX2_computeMac_41 : List UInt8 := dkwX2_computeMac_41 ++ dktX2_computeMac_42
def dkwX2_computeMac_40 : List UInt8 := [22, 22, 20, 0, 1, 127, 55, 6, 22, 8, 42, 16, 28, 184, 0, 3, 97, 22, 22, 16, 32, 123, 97]
abbrev dktX2_computeMac_40 : List UInt8 := dkwX2_computeMac_40 ++ dktX2_computeMac_41
def dkwX2_computeMac_39 : List UInt8 := [20, 0, 1, 127, 55, 4, 22, 6, 42, 16, 24, 184, 0, 3, 97, 22, 22, 16, 32, 123, 97, 55, 22]
abbrev dktX2_computeMac_39 : List UInt8 := dkwX2_computeMac_39 ++ dktX2_computeMac_40
def dkwX2_computeMac_38 : List UInt8 := [20, 0, 1, 127, 65, 22, 4, 42, 16, 20, 184, 0, 3, 97, 22, 22, 16, 32, 123, 97, 55, 22, 22, 22]
abbrev dktX2_computeMac_38 : List UInt8 := dkwX2_computeMac_38 ++ dktX2_computeMac_39
def dkwX2_computeMac_37 : List UInt8 := [16, 8, 121, 129, 20, 0, 1, 127, 55, 8, 32, 42, 16, 16, 184, 0, 3, 97, 55, 22, 22, 22]
abbrev dktX2_computeMac_37 : List UInt8 := dkwX2_computeMac_37 ++ dktX2_computeMac_38
def dkwX2_computeMac_36 : List UInt8 := [22, 6, 16, 12, 123, 22, 8, 16, 14, 121, 129, 20, 0, 1, 127, 55, 6, 22, 8, 16, 18, 123, 22, 10]
abbrev dktX2_computeMac_36 : List UInt8 := dkwX2_computeMac_36 ++ dktX2_computeMac_37
def dkwX2_computeMac_35 : List UInt8 := [129, 20, 0, 1, 127, 65, 22, 4, 16, 6, 123, 22, 6, 16, 20, 121, 129, 20, 0, 1, 127, 55, 4]
abbrev dktX2_computeMac_35 : List UInt8 := dkwX2_computeMac_35 ++ dktX2_computeMac_36
def dkwX2_computeMac_34 : List UInt8 := [22, 49, 22, 53, 127, 129, 55, 8, 22, 10, 22, 51, 22, 53, 127, 129, 55, 10, 32, 22, 4, 16, 26, 121]
abbrev dktX2_computeMac_34 : List UInt8 := dkwX2_computeMac_34 ++ dktX2_computeMac_35
def dkwX2_computeMac_33 : List UInt8 := [65, 22, 4, 22, 45, 22, 53, 127, 129, 55, 4, 22, 6, 22, 47, 22, 53, 127, 129, 55, 6, 22, 8]
abbrev dktX2_computeMac_33 : List UInt8 := dkwX2_computeMac_33 ++ dktX2_computeMac_34
def dkwX2_computeMac_32 : List UInt8 := [55, 8, 22, 10, 22, 53, 127, 55, 10, 22, 53, 20, 0, 59, 131, 55, 53, 32, 22, 43, 22, 53, 127, 129]
abbrev dktX2_computeMac_32 : List UInt8 := dkwX2_computeMac_32 ++ dktX2_computeMac_33
def dkwX2_computeMac_31 : List UInt8 := [32, 22, 53, 127, 65, 22, 4, 22, 53, 127, 55, 4, 22, 6, 22, 53, 127, 55, 6, 22, 8, 22, 53, 127]
abbrev dktX2_computeMac_31 : List UInt8 := dkwX2_computeMac_31 ++ dktX2_computeMac_32
def dkwX2_computeMac_30 : List UInt8 := [20, 0, 9, 127, 55, 49, 22, 10, 22, 22, 97, 20, 0, 57, 101, 55, 51, 22, 51, 16, 63, 123, 55, 53]
abbrev dktX2_computeMac_30 : List UInt8 := dkwX2_computeMac_30 ++ dktX2_computeMac_31
def dkwX2_computeMac_29 : List UInt8 := [20, 0, 9, 127, 55, 47, 22, 8, 22, 22, 97, 55, 49, 22, 49, 16, 26, 123, 55, 22, 22, 49]
abbrev dktX2_computeMac_29 : List UInt8 := dkwX2_computeMac_29 ++ dktX2_computeMac_30
def dkwX2_computeMac_28 : List UInt8 := [22, 45, 20, 0, 9, 127, 55, 45, 22, 6, 22, 22, 97, 55, 47, 22, 47, 16, 26, 123, 55, 22, 22, 47]
abbrev dktX2_computeMac_28 : List UInt8 := dkwX2_computeMac_28 ++ dktX2_computeMac_29
def dkwX2_computeMac_27 : List UInt8 := [55, 22, 22, 43, 20, 0, 9, 127, 55, 43, 22, 4, 22, 22, 97, 55, 45, 22, 45, 16, 26, 123, 55, 22]
abbrev dktX2_computeMac_27 : List UInt8 := dkwX2_computeMac_27 ++ dktX2_computeMac_28
def dkwX2_computeMac_26 : List UInt8 := [20, 0, 9, 127, 65, 22, 4, 22, 22, 97, 55, 4, 32, 20, 0, 51, 97, 55, 43, 22, 43, 16, 26, 123]
abbrev dktX2_computeMac_26 : List UInt8 := dkwX2_computeMac_26 ++ dktX2_computeMac_27
def dkwX2_computeMac_25 : List UInt8 := [20, 0, 9, 127, 55, 10, 32, 22, 22, 20, 0, 51, 105, 97, 65, 32, 16, 26, 123, 55, 22, 32]
abbrev dktX2_computeMac_25 : List UInt8 := dkwX2_computeMac_25 ++ dktX2_computeMac_26
def dkwX2_computeMac_24 : List UInt8 := [20, 0, 9, 127, 55, 8, 22, 10, 22, 22, 97, 55, 10, 22, 10, 16, 26, 123, 55, 22, 22, 10]
abbrev dktX2_computeMac_24 : List UInt8 := dkwX2_computeMac_24 ++ dktX2_computeMac_25
def dkwX2_computeMac_23 : List UInt8 := [22, 6, 20, 0, 9, 127, 55, 6, 22, 8, 22, 22, 97, 55, 8, 22, 8, 16, 26, 123, 55, 22, 22, 8]
abbrev dktX2_computeMac_23 : List UInt8 := dkwX2_computeMac_23 ++ dktX2_computeMac_24
def dkwX2_computeMac_22 : List UInt8 := [55, 22, 22, 4, 20, 0, 9, 127, 55, 4, 22, 6, 22, 22, 97, 55, 6, 22, 6, 16, 26, 123, 55, 22]
abbrev dktX2_computeMac_22 : List UInt8 := dkwX2_computeMac_22 ++ dktX2_computeMac_23
def dkwX2_computeMac_21 : List UInt8 := [20, 0, 9, 127, 65, 22, 4, 22, 22, 97, 55, 4, 132, 43, 16, 167, 254, 141, 22, 4, 16, 26, 123]
abbrev dktX2_computeMac_21 : List UInt8 := dkwX2_computeMac_21 ++ dktX2_computeMac_22
def dkwX2_computeMac_20 : List UInt8 := [22, 20, 20, 0, 9, 127, 55, 10, 32, 22, 22, 20, 0, 51, 105, 97, 65, 32, 16, 26, 123, 55, 22, 32]
abbrev dktX2_computeMac_20 : List UInt8 := dkwX2_computeMac_20 ++ dktX2_computeMac_21
def dkwX2_computeMac_19 : List UInt8 := [55, 22, 22, 18, 20, 0, 9, 127, 55, 8, 22, 20, 22, 22, 97, 55, 20, 22, 20, 16, 26, 123, 55, 22]
abbrev dktX2_computeMac_19 : List UInt8 := dkwX2_computeMac_19 ++ dktX2_computeMac_20
def dkwX2_computeMac_18 : List UInt8 := [123, 55, 22, 22, 16, 20, 0, 9, 127, 55, 6, 22, 18, 22, 22, 97, 55, 18, 22, 18, 16, 26, 123]
abbrev dktX2_computeMac_18 : List UInt8 := dkwX2_computeMac_18 ++ dktX2_computeMac_19
def dkwX2_computeMac_17 : List UInt8 := [16, 26, 123, 55, 22, 22, 14, 20, 0, 9, 127, 55, 4, 22, 16, 22, 22, 97, 55, 16, 22, 16, 16, 26]
abbrev dktX2_computeMac_17 : List UInt8 := dkwX2_computeMac_17 ++ dktX2_computeMac_18
def dkwX2_computeMac_16 : List UInt8 := [22, 12, 16, 26, 123, 55, 22, 22, 12, 20, 0, 9, 127, 65, 22, 14, 22, 22, 97, 55, 14, 22, 14]
abbrev dktX2_computeMac_16 : List UInt8 := dkwX2_computeMac_16 ++ dktX2_computeMac_17
def dkwX2_computeMac_15 : List UInt8 := [22, 30, 105, 97, 22, 6, 22, 28, 105, 97, 22, 8, 22, 26, 105, 97, 22, 10, 22, 24, 105, 97, 55, 20]
abbrev dktX2_computeMac_15 : List UInt8 := dkwX2_computeMac_15 ++ dktX2_computeMac_16
def dkwX2_computeMac_14 : List UInt8 := [22, 26, 105, 97, 22, 8, 22, 24, 105, 97, 22, 10, 22, 40, 105, 97, 55, 18, 32, 22, 32, 105, 22, 4]
abbrev dktX2_computeMac_14 : List UInt8 := dkwX2_computeMac_14 ++ dktX2_computeMac_15
def dkwX2_computeMac_13 : List UInt8 := [22, 40, 105, 97, 22, 10, 22, 38, 105, 97, 55, 16, 32, 22, 30, 105, 22, 4, 22, 28, 105, 97, 22, 6]
abbrev dktX2_computeMac_13 : List UInt8 := dkwX2_computeMac_13 ++ dktX2_computeMac_14
def dkwX2_computeMac_12 : List UInt8 := [22, 36, 105, 97, 55, 14, 32, 22, 28, 105, 22, 4, 22, 26, 105, 97, 22, 6, 22, 24, 105, 97, 22, 8]
abbrev dktX2_computeMac_12 : List UInt8 := dkwX2_computeMac_12 ++ dktX2_computeMac_13
def dkwX2_computeMac_11 : List UInt8 := [22, 26, 105, 22, 4, 22, 24, 105, 97, 22, 6, 22, 40, 105, 97, 22, 8, 22, 38, 105, 97, 22, 10]
abbrev dktX2_computeMac_11 : List UInt8 := dkwX2_computeMac_11 ++ dktX2_computeMac_12
def dkwX2_computeMac_10 : List UInt8 := [105, 97, 22, 6, 22, 38, 105, 97, 22, 8, 22, 36, 105, 97, 22, 10, 22, 34, 105, 97, 55, 12, 32]
abbrev dktX2_computeMac_10 : List UInt8 := dkwX2_computeMac_10 ++ dktX2_computeMac_11
def dkwX2_computeMac_9 : List UInt8 := [184, 0, 39, 25, 42, 16, 16, 51, 16, 24, 120, 133, 129, 97, 55, 10, 32, 22, 24, 105, 22, 4, 22, 40]
abbrev dktX2_computeMac_9 : List UInt8 := dkwX2_computeMac_9 ++ dktX2_computeMac_10
def dkwX2_computeMac_8 : List UInt8 := [22, 8, 25, 42, 16, 9, 16, 6, 184, 0, 39, 97, 55, 8, 22, 10, 25, 42, 16, 12, 16, 8]
abbrev dktX2_computeMac_8 : List UInt8 := dkwX2_computeMac_8 ++ dktX2_computeMac_9
def dkwX2_computeMac_7 : List UInt8 := [25, 42, 6, 5, 184, 0, 39, 97, 55, 4, 22, 6, 25, 42, 16, 6, 7, 184, 0, 39, 97, 55, 6]
abbrev dktX2_computeMac_7 : List UInt8 := dkwX2_computeMac_7 ++ dktX2_computeMac_8
def dkwX2_computeMac_6 : List UInt8 := [162, 1, 114, 25, 42, 43, 21, 43, 184, 0, 53, 32, 25, 42, 3, 3, 184, 0, 39, 97, 65, 22, 4]
abbrev dktX2_computeMac_6 : List UInt8 := dkwX2_computeMac_6 ++ dktX2_computeMac_7
def dkwX2_computeMac_5 : List UInt8 := [105, 55, 38, 22, 32, 20, 0, 51, 105, 55, 40, 16, 17, 188, 8, 58, 42, 3, 54, 43, 21, 43, 43, 190]
abbrev dktX2_computeMac_5 : List UInt8 := dkwX2_computeMac_5 ++ dktX2_computeMac_6
def dkwX2_computeMac_4 : List UInt8 := [127, 55, 32, 22, 26, 20, 0, 51, 105, 55, 34, 22, 28, 20, 0, 51, 105, 55, 36, 22, 30, 20, 0, 51]
abbrev dktX2_computeMac_4 : List UInt8 := dkwX2_computeMac_4 ++ dktX2_computeMac_5
def dkwX2_computeMac_3 : List UInt8 := [16, 9, 16, 6, 184, 0, 39, 20, 0, 47, 127, 55, 30, 42, 16, 12, 16, 8, 184, 0, 39, 20, 0, 49]
abbrev dktX2_computeMac_3 : List UInt8 := dkwX2_computeMac_3 ++ dktX2_computeMac_4
def dkwX2_computeMac_2 : List UInt8 := [184, 0, 39, 20, 0, 43, 127, 55, 26, 42, 16, 6, 7, 184, 0, 39, 20, 0, 45, 127, 55, 28, 42]
abbrev dktX2_computeMac_2 : List UInt8 := dkwX2_computeMac_2 ++ dktX2_computeMac_3
def dkwX2_computeMac_1 : List UInt8 := [55, 6, 9, 55, 8, 9, 55, 10, 42, 3, 3, 184, 0, 39, 20, 0, 9, 127, 55, 24, 42, 6, 5]
abbrev dktX2_computeMac_1 : List UInt8 := dkwX2_computeMac_1 ++ dktX2_computeMac_2
def dkwX2_computeMac_0 : List UInt8 := [42, 190, 16, 32, 159, 0, 13, 187, 0, 31, 89, 18, 33, 183, 0, 35, 191, 9, 65, 9, 55, 4, 9]
abbrev dktX2_computeMac_0 : List UInt8 := dkwX2_computeMac_0 ++ dktX2_computeMac_1
theorem dksX2_computeMac_0 : cX2_computeMac.data.toList.drop 0 = dktX2_computeMac_0 := by decide +kernel
theorem dksX2_computeMac_1 : cX2_computeMac.data.toList.drop 23 = dktX2_computeMac_1 := dk_seg dksX2_computeMac_0 23 rfl rfl
theorem dksX2_computeMac_2 : cX2_computeMac.data.toList.drop 46 = dktX2_computeMac_2 := dk_seg dksX2_computeMac_1 23 rfl rfl
theorem dksX2_computeMac_3 : cX2_computeMac.data.toList.drop 69 = dktX2_computeMac_3 := dk_seg dksX2_computeMac_2 23 rfl rfl
theorem dksX2_computeMac_4 : cX2_computeMac.data.toList.drop 93 = dktX2_computeMac_4 := dk_seg dksX2_computeMac_3 24 rfl rfl
theorem dksX2_computeMac_5 : cX2_computeMac.data.toList.drop 117 = dktX2_computeMac_5 := dk_seg dksX2_computeMac_4 24 rfl rfl
theorem dksX2_computeMac_6 : cX2_computeMac.data.toList.drop 141 = dktX2_computeMac_6 := dk_seg dksX2_computeMac_5 24 rfl rfl
theorem dksX2_computeMac_7 : cX2_computeMac.data.toList.drop 164 = dktX2_computeMac_7 := dk_seg dksX2_computeMac_6 23 rfl rfl
theorem dksX2_computeMac_8 : cX2_computeMac.data.toList.drop 187 = dktX2_computeMac_8 := dk_seg dksX2_computeMac_7 23 rfl rfl
theorem dksX2_computeMac_9 : cX2_computeMac.data.toList.drop 209 = dktX2_computeMac_9 := dk_seg dksX2_computeMac_8 22 rfl rfl
theorem dksX2_computeMac_10 : cX2_computeMac.data.toList.drop 233 = dktX2_computeMac_10 := dk_seg dksX2_computeMac_9 24 rfl rfl
theorem dksX2_computeMac_11 : cX2_computeMac.data.toList.drop 256 = dktX2_computeMac_11 := dk_seg dksX2_computeMac_10 23 rfl rfl
theorem dksX2_computeMac_12 : cX2_computeMac.data.toList.drop 279 = dktX2_computeMac_12 := dk_seg dksX2_computeMac_11 23 rfl rfl
theorem dksX2_computeMac_13 : cX2_computeMac.data.toList.drop 303 = dktX2_computeMac_13 := dk_seg dksX2_computeMac_12 24 rfl rfl
theorem dksX2_computeMac_14 : cX2_computeMac.data.toList.drop 327 = dktX2_computeMac_14 := dk_seg dksX2_computeMac_13 24 rfl rfl
theorem dksX2_computeMac_15 : cX2_computeMac.data.toList.drop 351 = dktX2_computeMac_15 := dk_seg dksX2_computeMac_14 24 rfl rfl
theorem dksX2_computeMac_16 : cX2_computeMac.data.toList.drop 375 = dktX2_computeMac_16 := dk_seg dksX2_computeMac_15 24 rfl rfl
theorem dksX2_computeMac_17 : cX2_computeMac.data.toList.drop 398 = dktX2_computeMac_17 := dk_seg dksX2_computeMac_16 23 rfl rfl
theorem dksX2_computeMac_18 : cX2_computeMac.data.toList.drop 422 = dktX2_computeMac_18 := dk_seg dksX2_computeMac_17 24 rfl rfl
theorem dksX2_computeMac_19 : cX2_computeMac.data.toList.drop 445 = dktX2_computeMac_19 := dk_seg dksX2_computeMac_18 23 rfl rfl
theorem dksX2_computeMac_20 : cX2_computeMac.data.toList.drop 469 = dktX2_computeMac_20 := dk_seg dksX2_computeMac_19 24 rfl rfl
theorem dksX2_computeMac_21 : cX2_computeMac.data.toList.drop 493 = dktX2_computeMac_21 := dk_seg dksX2_computeMac_20 24 rfl rfl
theorem dksX2_computeMac_22 : cX2_computeMac.data.toList.drop 516 = dktX2_computeMac_22 := dk_seg dksX2_computeMac_21 23 rfl rfl
theorem dksX2_computeMac_23 : cX2_computeMac.data.toList.drop 540 = dktX2_computeMac_23 := dk_seg dksX2_computeMac_22 24 rfl rfl
theorem dksX2_computeMac_24 : cX2_computeMac.data.toList.drop 564 = dktX2_computeMac_24 := dk_seg dksX2_computeMac_23 24 rfl rfl
theorem dksX2_computeMac_25 : cX2_computeMac.data.toList.drop 586 = dktX2_computeMac_25 := dk_seg dksX2_computeMac_24 22 rfl rfl
theorem dksX2_computeMac_26 : cX2_computeMac.data.toList.drop 608 = dktX2_computeMac_26 := dk_seg dksX2_computeMac_25 22 rfl rfl
theorem dksX2_computeMac_27 : cX2_computeMac.data.toList.drop 632 = dktX2_computeMac_27 := dk_seg dksX2_computeMac_26 24 rfl rfl
theorem dksX2_computeMac_28 : cX2_computeMac.data.toList.drop 656 = dktX2_computeMac_28 := dk_seg dksX2_computeMac_27 24 rfl rfl
theorem dksX2_computeMac_29 : cX2_computeMac.data.toList.drop 680 = dktX2_computeMac_29 := dk_seg dksX2_computeMac_28 24 rfl rfl
theorem dksX2_computeMac_30 : cX2_computeMac.data.toList.drop 702 = dktX2_computeMac_30 := dk_seg dksX2_computeMac_29 22 rfl rfl
theorem dksX2_computeMac_31 : cX2_computeMac.data.toList.drop 726 = dktX2_computeMac_31 := dk_seg dksX2_computeMac_30 24 rfl rfl
theorem dksX2_computeMac_32 : cX2_computeMac.data.toList.drop 750 = dktX2_computeMac_32 := dk_seg dksX2_computeMac_31 24 rfl rfl
theorem dksX2_computeMac_33 : cX2_computeMac.data.toList.drop 774 = dktX2_computeMac_33 := dk_seg dksX2_computeMac_32 24 rfl rfl
theorem dksX2_computeMac_34 : cX2_computeMac.data.toList.drop 797 = dktX2_computeMac_34 := dk_seg dksX2_computeMac_33 23 rfl rfl
theorem dksX2_computeMac_35 : cX2_computeMac.data.toList.drop 821 = dktX2_computeMac_35 := dk_seg dksX2_computeMac_34 24 rfl rfl
theorem dksX2_computeMac_36 : cX2_computeMac.data.toList.drop 844 = dktX2_computeMac_36 := dk_seg dksX2_computeMac_35 23 rfl rfl
theorem dksX2_computeMac_37 : cX2_computeMac.data.toList.drop 868 = dktX2_computeMac_37 := dk_seg dksX2_computeMac_36 24 rfl rfl
theorem dksX2_computeMac_38 : cX2_computeMac.data.toList.drop 890 = dktX2_computeMac_38 := dk_seg dksX2_computeMac_37 22 rfl rfl
theorem dksX2_computeMac_39 : cX2_computeMac.data.toList.drop 914 = dktX2_computeMac_39 := dk_seg dksX2_computeMac_38 24 rfl rfl
theorem dksX2_computeMac_40 : cX2_computeMac.data.toList.drop 937 = dktX2_computeMac_40 := dk_seg dksX2_computeMac_39 23 rfl rfl
theorem dksX2_computeMac_41 : cX2_computeMac.data.toList.drop 960 = dktX2_computeMac_41 := dk_seg dksX2_computeMac_40 23 rfl rfl
theorem dksX2_computeMac_42 : cX2_computeMac.data.toList.drop 983 = dktX2_computeMac_42 := dk_seg dksX2_computeMac_41 23 rfl rfl
theorem dksX2_computeMac_43 : cX2_computeMac.data.toList.drop 1006 = dktX2_computeMac_43 := dk_seg dksX2_computeMac_42 23 rfl rfl
theorem dX2_computeMac_0 : decode cX2_computeMac 0 = .ok (.aload_n 0, 1) := dk_42 (dk_at dksX2_computeMac_0 0 rfl rfl)
theorem dX2_computeMac_1 : decode cX2_computeMac 1 = .ok (.arraylength, 1) := dk_190 (dk_at dksX2_computeMac_0 1 rfl rfl)
theorem dX2_computeMac_2 : decode cX2_computeMac 2 = .ok (.bipush 32, 2) := dk_16 32 (dk_at dksX2_computeMac_0 2 rfl rfl)
theorem dX2_computeMac_4 : decode cX2_computeMac 4 = .ok (.if_icmp .eq 13, 3) := dk_159 0 13 (dk_at dksX2_computeMac_0 4 rfl rfl)
theorem dX2_computeMac_7 : decode cX2_computeMac 7 = .ok (.new 31, 3) := dk_187 0 31 (dk_at dksX2_computeMac_0 7 rfl rfl)
theorem dX2_computeMac_10 : decode cX2_computeMac 10 = .ok (.dup, 1) := dk_89 (dk_at dksX2_computeMac_0 10 rfl rfl)
theorem dX2_computeMac_11 : decode cX2_computeMac 11 = .ok (.ldc 33, 2) := dk_18 33 (dk_at dksX2_computeMac_0 11 rfl rfl)
theorem dX2_computeMac_13 : decode cX2_computeMac 13 = .ok (.invokespecial 35, 3) := dk_183 0 35 (dk_at dksX2_computeMac_0 13 rfl rfl)
theorem dX2_computeMac_16 : decode cX2_computeMac 16 = .ok (.athrow, 1) := dk_191 (dk_at dksX2_computeMac_0 16 rfl rfl)
theorem dX2_computeMac_17 : decode cX2_computeMac 17 = .ok (.lconst 0, 1) := dk_9 (dk_at dksX2_computeMac_0 17 rfl rfl)
theorem dX2_computeMac_18 : decode cX2_computeMac 18 = .ok (.lstore_n 2, 1) := dk_65 (dk_at dksX2_computeMac_0 18 rfl rfl)
theorem dX2_computeMac_19 : decode cX2_computeMac 19 = .ok (.lconst 0, 1) := dk_9 (dk_at dksX2_computeMac_0 19 rfl rfl)
theorem dX2_computeMac_20 : decode cX2_computeMac 20 = .ok (.lstore 4, 2) := dk_55 4 (dk_at dksX2_computeMac_0 20 rfl rfl)
theorem dX2_computeMac_22 : decode cX2_computeMac 22 = .ok (.lconst 0, 1) := dk_9 (dk_at dksX2_computeMac_0 22 rfl rfl)
theorem dX2_computeMac_23 : decode cX2_computeMac 23 = .ok (.lstore 6, 2) := dk_55 6 (dk_at dksX2_computeMac_1 0 rfl rfl)
theorem dX2_computeMac_25 : decode cX2_computeMac 25 = .ok (.lconst 0, 1) := dk_9 (dk_at dksX2_computeMac_1 2 rfl rfl)
theorem dX2_computeMac_26 : decode cX2_computeMac 26 = .ok (.lstore 8, 2) := dk_55 8 (dk_at dksX2_computeMac_1 3 rfl rfl)
theorem dX2_computeMac_28 : decode cX2_computeMac 28 = .ok (.lconst 0, 1) := dk_9 (dk_at dksX2_computeMac_1 5 rfl rfl)
theorem dX2_computeMac_29 : decode cX2_computeMac 29 = .ok (.lstore 10, 2) := dk_55 10 (dk_at dksX2_computeMac_1 6 rfl rfl)
theorem dX2_computeMac_31 : decode cX2_computeMac 31 = .ok (.aload_n 0, 1) := dk_42 (dk_at dksX2_computeMac_1 8 rfl rfl)
theorem dX2_computeMac_32 : decode cX2_computeMac 32 = .ok (.iconst 0, 1) := dk_3 (dk_at dksX2_computeMac_1 9 rfl rfl)
theorem dX2_computeMac_33 : decode cX2_computeMac 33 = .ok (.iconst 0, 1) := dk_3 (dk_at dksX2_computeMac_1 10 rfl rfl)
theorem dX2_computeMac_34 : decode cX2_computeMac 34 = .ok (.invokestatic 39, 3) := dk_184 0 39 (dk_at dksX2_computeMac_1 11 rfl rfl)
theorem dX2_computeMac_37 : decode cX2_computeMac 37 = .ok (.ldc2_w 9, 3) := dk_20 0 9 (dk_at dksX2_computeMac_1 14 rfl rfl)
theorem dX2_computeMac_40 : decode cX2_computeMac 40 = .ok (.land, 1) := dk_127 (dk_at dksX2_computeMac_1 17 rfl rfl)
theorem dX2_computeMac_41 : decode cX2_computeMac 41 = .ok (.lstore 24, 2) := dk_55 24 (dk_at dksX2_computeMac_1 18 rfl rfl)
theorem dX2_computeMac_43 : decode cX2_computeMac 43 = .ok (.aload_n 0, 1) := dk_42 (dk_at dksX2_computeMac_1 20 rfl rfl)
theorem dX2_computeMac_44 : decode cX2_computeMac 44 = .ok (.iconst 3, 1) := dk_6 (dk_at dksX2_computeMac_1 21 rfl rfl)
theorem dX2_computeMac_45 : decode cX2_computeMac 45 = .ok (.iconst 2, 1) := dk_5 (dk_at dksX2_computeMac_1 22 rfl rfl)
theorem dX2_computeMac_46 : decode cX2_computeMac 46 = .ok (.invokestatic 39, 3) := dk_184 0 39 (dk_at dksX2_computeMac_2 0 rfl rfl)
theorem dX2_computeMac_49 : decode cX2_computeMac 49 = .ok (.ldc2_w 43, 3) := dk_20 0 43 (dk_at dksX2_computeMac_2 3 rfl rfl)
theorem dX2_computeMac_52 : decode cX2_computeMac 52 = .ok (.land, 1) := dk_127 (dk_at dksX2_computeMac_2 6 rfl rfl)
theorem dX2_computeMac_53 : decode cX2_computeMac 53 = .ok (.lstore 26, 2) := dk_55 26 (dk_at dksX2_computeMac_2 7 rfl rfl)
theorem dX2_computeMac_55 : decode cX2_computeMac 55 = .ok (.aload_n 0, 1) := dk_42 (dk_at dksX2_computeMac_2 9 rfl rfl)
theorem dX2_computeMac_56 : decode cX2_computeMac 56 = .ok (.bipush 6, 2) := dk_16 6 (dk_at dksX2_computeMac_2 10 rfl rfl)
theorem dX2_computeMac_58 : decode cX2_computeMac 58 = .ok (.iconst 4, 1) := dk_7 (dk_at dksX2_computeMac_2 12 rfl rfl)
theorem dX2_computeMac_59 : decode cX2_computeMac 59 = .ok (.invokestatic 39, 3) := dk_184 0 39 (dk_at dksX2_computeMac_2 13 rfl rfl)
theorem dX2_computeMac_62 : decode cX2_computeMac 62 = .ok (.ldc2_w 45, 3) := dk_20 0 45 (dk_at dksX2_computeMac_2 16 rfl rfl)
theorem dX2_computeMac_65 : decode cX2_computeMac 65 = .ok (.land, 1) := dk_127 (dk_at dksX2_computeMac_2 19 rfl rfl)
theorem dX2_computeMac_66 : decode cX2_computeMac 66 = .ok (.lstore 28, 2) := dk_55 28 (dk_at dksX2_computeMac_2 20 rfl rfl)
theorem dX2_computeMac_68 : decode cX2_computeMac 68 = .ok (.aload_n 0, 1) := dk_42 (dk_at dksX2_computeMac_2 22 rfl rfl)
theorem dX2_computeMac_69 : decode cX2_computeMac 69 = .ok (.bipush 9, 2) := dk_16 9 (dk_at dksX2_computeMac_3 0 rfl rfl)
theorem dX2_computeMac_71 : decode cX2_computeMac 71 = .ok (.bipush 6, 2) := dk_16 6 (dk_at dksX2_computeMac_3 2 rfl rfl)
theorem dX2_computeMac_73 : decode cX2_computeMac 73 = .ok (.invokestatic 39, 3) := dk_184 0 39 (dk_at dksX2_computeMac_3 4 rfl rfl)
theorem dX2_computeMac_76 : decode cX2_computeMac 76 = .ok (.ldc2_w 47, 3) := dk_20 0 47 (dk_at dksX2_computeMac_3 7 rfl rfl)
theorem dX2_computeMac_79 : decode cX2_computeMac 79 = .ok (.land, 1) := dk_127 (dk_at dksX2_computeMac_3 10 rfl rfl)
theorem dX2_computeMac_80 : decode cX2_computeMac 80 = .ok (.lstore 30, 2) := dk_55 30 (dk_at dksX2_computeMac_3 11 rfl rfl)
theorem dX2_computeMac_82 : decode cX2_computeMac 82 = .ok (.aload_n 0, 1) := dk_42 (dk_at dksX2_computeMac_3 13 rfl rfl)
theorem dX2_computeMac_83 : decode cX2_computeMac 83 = .ok (.bipush 12, 2) := dk_16 12 (dk_at dksX2_computeMac_3 14 rfl rfl)
theorem dX2_computeMac_85 : decode cX2_computeMac 85 = .ok (.bipush 8, 2) := dk_16 8 (dk_at dksX2_computeMac_3 16 rfl rfl)
theorem dX2_computeMac_87 : decode cX2_computeMac 87 = .ok (.invokestatic 39, 3) := dk_184 0 39 (dk_at dksX2_computeMac_3 18 rfl rfl)
theorem dX2_computeMac_90 : decode cX2_computeMac 90 = .ok (.ldc2_w 49, 3) := dk_20 0 49 (dk_at dksX2_computeMac_3 21 rfl rfl)
theorem dX2_computeMac_93 : decode cX2_computeMac 93 = .ok (.land, 1) := dk_127 (dk_at dksX2_computeMac_4 0 rfl rfl)
theorem dX2_computeMac_94 : decode cX2_computeMac 94 = .ok (.lstore 32, 2) := dk_55 32 (dk_at dksX2_computeMac_4 1 rfl rfl)
theorem dX2_computeMac_96 : decode cX2_computeMac 96 = .ok (.lload 26, 2) := dk_22 26 (dk_at dksX2_computeMac_4 3 rfl rfl)
theorem dX2_computeMac_98 : decode cX2_computeMac 98 = .ok (.ldc2_w 51, 3) := dk_20 0 51 (dk_at dksX2_computeMac_4 5 rfl rfl)
theorem dX2_computeMac_101 : decode cX2_computeMac 101 = .ok (.lmul, 1) := dk_105 (dk_at dksX2_computeMac_4 8 rfl rfl)
theorem dX2_computeMac_102 : decode cX2_computeMac 102 = .ok (.lstore 34, 2) := dk_55 34 (dk_at dksX2_computeMac_4 9 rfl rfl)
theorem dX2_computeMac_104 : decode cX2_computeMac 104 = .ok (.lload 28, 2) := dk_22 28 (dk_at dksX2_computeMac_4 11 rfl rfl)
theorem dX2_computeMac_106 : decode cX2_computeMac 106 = .ok (.ldc2_w 51, 3) := dk_20 0 51 (dk_at dksX2_computeMac_4 13 rfl rfl)
theorem dX2_computeMac_109 : decode cX2_computeMac 109 = .ok (.lmul, 1) := dk_105 (dk_at dksX2_computeMac_4 16 rfl rfl)
theorem dX2_computeMac_110 : decode cX2_computeMac 110 = .ok (.lstore 36, 2) := dk_55 36 (dk_at dksX2_computeMac_4 17 rfl rfl)
theorem dX2_computeMac_112 : decode cX2_computeMac 112 = .ok (.lload 30, 2) := dk_22 30 (dk_at dksX2_computeMac_4 19 rfl rfl)
theorem dX2_computeMac_114 : decode cX2_computeMac 114 = .ok (.ldc2_w 51, 3) := dk_20 0 51 (dk_at dksX2_computeMac_4 21 rfl rfl)
theorem dX2_computeMac_117 : decode cX2_computeMac 117 = .ok (.lmul, 1) := dk_105 (dk_at dksX2_computeMac_5 0 rfl rfl)
theorem dX2_computeMac_118 : decode cX2_computeMac 118 = .ok (.lstore 38, 2) := dk_55 38 (dk_at dksX2_computeMac_5 1 rfl rfl)
theorem dX2_computeMac_120 : decode cX2_computeMac 120 = .ok (.lload 32, 2) := dk_22 32 (dk_at dksX2_computeMac_5 3 rfl rfl)
theorem dX2_computeMac_122 : decode cX2_computeMac 122 = .ok (.ldc2_w 51, 3) := dk_20 0 51 (dk_at dksX2_computeMac_5 5 rfl rfl)
theorem dX2_computeMac_125 : decode cX2_computeMac 125 = .ok (.lmul, 1) := dk_105 (dk_at dksX2_computeMac_5 8 rfl rfl)
theorem dX2_computeMac_126 : decode cX2_computeMac 126 = .ok (.lstore 40, 2) := dk_55 40 (dk_at dksX2_computeMac_5 9 rfl rfl)
theorem dX2_computeMac_128 : decode cX2_computeMac 128 = .ok (.bipush 17, 2) := dk_16 17 (dk_at dksX2_computeMac_5 11 rfl rfl)
theorem dX2_computeMac_130 : decode cX2_computeMac 130 = .ok (.newarray .byte, 2) := dk_188_8 (dk_at dksX2_computeMac_5 13 rfl rfl)
theorem dX2_computeMac_132 : decode cX2_computeMac 132 = .ok (.astore 42, 2) := dk_58 42 (dk_at dksX2_computeMac_5 15 rfl rfl)
theorem dX2_computeMac_134 : decode cX2_computeMac 134 = .ok (.iconst 0, 1) := dk_3 (dk_at dksX2_computeMac_5 17 rfl rfl)
theorem dX2_computeMac_135 : decode cX2_computeMac 135 = .ok (.istore 43, 2) := dk_54 43 (dk_at dksX2_computeMac_5 18 rfl rfl)
theorem dX2_computeMac_137 : decode cX2_computeMac 137 = .ok (.iload 43, 2) := dk_21 43 (dk_at dksX2_computeMac_5 20 rfl rfl)
theorem dX2_computeMac_139 : decode cX2_computeMac 139 = .ok (.aload_n 1, 1) := dk_43 (dk_at dksX2_computeMac_5 22 rfl rfl)
theorem dX2_computeMac_140 : decode cX2_computeMac 140 = .ok (.arraylength, 1) := dk_190 (dk_at dksX2_computeMac_5 23 rfl rfl)
theorem dX2_computeMac_141 : decode cX2_computeMac 141 = .ok (.if_icmp .ge 370, 3) := dk_162 1 114 (dk_at dksX2_computeMac_6 0 rfl rfl)
theorem dX2_computeMac_144 : decode cX2_computeMac 144 = .ok (.aload 42, 2) := dk_25 42 (dk_at dksX2_computeMac_6 3 rfl rfl)
theorem dX2_computeMac_146 : decode cX2_computeMac 146 = .ok (.aload_n 1, 1) := dk_43 (dk_at dksX2_computeMac_6 5 rfl rfl)
theorem dX2_computeMac_147 : decode cX2_computeMac 147 = .ok (.iload 43, 2) := dk_21 43 (dk_at dksX2_computeMac_6 6 rfl rfl)
theorem dX2_computeMac_149 : decode cX2_computeMac 149 = .ok (.invokestatic 53, 3) := dk_184 0 53 (dk_at dksX2_computeMac_6 8 rfl rfl)
theorem dX2_computeMac_152 : decode cX2_computeMac 152 = .ok (.lload_n 2, 1) := dk_32 (dk_at dksX2_computeMac_6 11 rfl rfl)
theorem dX2_computeMac_153 : decode cX2_computeMac 153 = .ok (.aload 42, 2) := dk_25 42 (dk_at dksX2_computeMac_6 12 rfl rfl)
theorem dX2_computeMac_155 : decode cX2_computeMac 155 = .ok (.iconst 0, 1) := dk_3 (dk_at dksX2_computeMac_6 14 rfl rfl)
theorem dX2_computeMac_156 : decode cX2_computeMac 156 = .ok (.iconst 0, 1) := dk_3 (dk_at dksX2_computeMac_6 15 rfl rfl)
theorem dX2_computeMac_157 : decode cX2_computeMac 157 = .ok (.invokestatic 39, 3) := dk_184 0 39 (dk_at dksX2_computeMac_6 16 rfl rfl)
theorem dX2_computeMac_160 : decode cX2_computeMac 160 = .ok (.ladd, 1) := dk_97 (dk_at dksX2_computeMac_6 19 rfl rfl)
theorem dX2_computeMac_161 : decode cX2_computeMac 161 = .ok (.lstore_n 2, 1) := dk_65 (dk_at dksX2_computeMac_6 20 rfl rfl)
theorem dX2_computeMac_162 : decode cX2_computeMac 162 = .ok (.lload 4, 2) := dk_22 4 (dk_at dksX2_computeMac_6 21 rfl rfl)
theorem dX2_computeMac_164 : decode cX2_computeMac 164 = .ok (.aload 42, 2) := dk_25 42 (dk_at dksX2_computeMac_7 0 rfl rfl)
theorem dX2_computeMac_166 : decode cX2_computeMac 166 = .ok (.iconst 3, 1) := dk_6 (dk_at dksX2_computeMac_7 2 rfl rfl)
theorem dX2_computeMac_167 : decode cX2_computeMac 167 = .ok (.iconst 2, 1) := dk_5 (dk_at dksX2_computeMac_7 3 rfl rfl)
theorem dX2_computeMac_168 : decode cX2_computeMac 168 = .ok (.invokestatic 39, 3) := dk_184 0 39 (dk_at dksX2_computeMac_7 4 rfl rfl)
theorem dX2_computeMac_171 : decode cX2_computeMac 171 = .ok (.ladd, 1) := dk_97 (dk_at dksX2_computeMac_7 7 rfl rfl)
theorem dX2_computeMac_172 : decode cX2_computeMac 172 = .ok (.lstore 4, 2) := dk_55 4 (dk_at dksX2_computeMac_7 8 rfl rfl)
theorem dX2_computeMac_174 : decode cX2_computeMac 174 = .ok (.lload 6, 2) := dk_22 6 (dk_at dksX2_computeMac_7 10 rfl rfl)
theorem dX2_computeMac_176 : decode cX2_computeMac 176 = .ok (.aload 42, 2) := dk_25 42 (dk_at dksX2_computeMac_7 12 rfl rfl)
theorem dX2_computeMac_178 : decode cX2_computeMac 178 = .ok (.bipush 6, 2) := dk_16 6 (dk_at dksX2_computeMac_7 14 rfl rfl)
theorem dX2_computeMac_180 : decode cX2_computeMac 180 = .ok (.iconst 4, 1) := dk_7 (dk_at dksX2_computeMac_7 16 rfl rfl)
theorem dX2_computeMac_181 : decode cX2_computeMac 181 = .ok (.invokestatic 39, 3) := dk_184 0 39 (dk_at dksX2_computeMac_7 17 rfl rfl)
theorem dX2_computeMac_184 : decode cX2_computeMac 184 = .ok (.ladd, 1) := dk_97 (dk_at dksX2_computeMac_7 20 rfl rfl)
theorem dX2_computeMac_185 : decode cX2_computeMac 185 = .ok (.lstore 6, 2) := dk_55 6 (dk_at dksX2_computeMac_7 21 rfl rfl)
theorem dX2_computeMac_187 : decode cX2_computeMac 187 = .ok (.lload 8, 2) := dk_22 8 (dk_at dksX2_computeMac_8 0 rfl rfl)
theorem dX2_computeMac_189 : decode cX2_computeMac 189 = .ok (.aload 42, 2) := dk_25 42 (dk_at dksX2_computeMac_8 2 rfl rfl)
theorem dX2_computeMac_191 : decode cX2_computeMac 191 = .ok (.bipush 9, 2) := dk_16 9 (dk_at dksX2_computeMac_8 4 rfl rfl)
theorem dX2_computeMac_193 : decode cX2_computeMac 193 = .ok (.bipush 6, 2) := dk_16 6 (dk_at dksX2_computeMac_8 6 rfl rfl)
theorem dX2_computeMac_195 : decode cX2_computeMac 195 = .ok (.invokestatic 39, 3) := dk_184 0 39 (dk_at dksX2_computeMac_8 8 rfl rfl)
theorem dX2_computeMac_198 : decode cX2_computeMac 198 = .ok (.ladd, 1) := dk_97 (dk_at dksX2_computeMac_8 11 rfl rfl)
theorem dX2_computeMac_199 : decode cX2_computeMac 199 = .ok (.lstore 8, 2) := dk_55 8 (dk_at dksX2_computeMac_8 12 rfl rfl)
theorem dX2_computeMac_201 : decode cX2_computeMac 201 = .ok (.lload 10, 2) := dk_22 10 (dk_at dksX2_computeMac_8 14 rfl rfl)
theorem dX2_computeMac_203 : decode cX2_computeMac 203 = .ok (.aload 42, 2) := dk_25 42 (dk_at dksX2_computeMac_8 16 rfl rfl)
theorem dX2_computeMac_205 : decode cX2_computeMac 205 = .ok (.bipush 12, 2) := dk_16 12 (dk_at dksX2_computeMac_8 18 rfl rfl)
theorem dX2_computeMac_207 : decode cX2_computeMac 207 = .ok (.bipush 8, 2) := dk_16 8 (dk_at dksX2_computeMac_8 20 rfl rfl)
theorem dX2_computeMac_209 : decode cX2_computeMac 209 = .ok (.invokestatic 39, 3) := dk_184 0 39 (dk_at dksX2_computeMac_9 0 rfl rfl)
theorem dX2_computeMac_212 : decode cX2_computeMac 212 = .ok (.aload 42, 2) := dk_25 42 (dk_at dksX2_computeMac_9 3 rfl rfl)
theorem dX2_computeMac_214 : decode cX2_computeMac 214 = .ok (.bipush 16, 2) := dk_16 16 (dk_at dksX2_computeMac_9 5 rfl rfl)
theorem dX2_computeMac_216 : decode cX2_computeMac 216 = .ok (.baload, 1) := dk_51 (dk_at dksX2_computeMac_9 7 rfl rfl)
theorem dX2_computeMac_217 : decode cX2_computeMac 217 = .ok (.bipush 24, 2) := dk_16 24 (dk_at dksX2_computeMac_9 8 rfl rfl)
theorem dX2_computeMac_219 : decode cX2_computeMac 219 = .ok (.ishl, 1) := dk_120 (dk_at dksX2_computeMac_9 10 rfl rfl)
theorem dX2_computeMac_220 : decode cX2_computeMac 220 = .ok (.i2l, 1) := dk_133 (dk_at dksX2_computeMac_9 11 rfl rfl)
theorem dX2_computeMac_221 : decode cX2_computeMac 221 = .ok (.lor, 1) := dk_129 (dk_at dksX2_computeMac_9 12 rfl rfl)
theorem dX2_computeMac_222 : decode cX2_computeMac 222 = .ok (.ladd, 1) := dk_97 (dk_at dksX2_computeMac_9 13 rfl rfl)
theorem dX2_computeMac_223 : decode cX2_computeMac 223 = .ok (.lstore 10, 2) := dk_55 10 (dk_at dksX2_computeMac_9 14 rfl rfl)
theorem dX2_computeMac_225 : decode cX2_computeMac 225 = .ok (.lload_n 2, 1) := dk_32 (dk_at dksX2_computeMac_9 16 rfl rfl)
theorem dX2_computeMac_226 : decode cX2_computeMac 226 = .ok (.lload 24, 2) := dk_22 24 (dk_at dksX2_computeMac_9 17 rfl rfl)
theorem dX2_computeMac_228 : decode cX2_computeMac 228 = .ok (.lmul, 1) := dk_105 (dk_at dksX2_computeMac_9 19 rfl rfl)
theorem dX2_computeMac_229 : decode cX2_computeMac 229 = .ok (.lload 4, 2) := dk_22 4 (dk_at dksX2_computeMac_9 20 rfl rfl)
theorem dX2_computeMac_231 : decode cX2_computeMac 231 = .ok (.lload 40, 2) := dk_22 40 (dk_at dksX2_computeMac_9 22 rfl rfl)
theorem dX2_computeMac_233 : decode cX2_computeMac 233 = .ok (.lmul, 1) := dk_105 (dk_at dksX2_computeMac_10 0 rfl rfl)
theorem dX2_computeMac_234 : decode cX2_computeMac 234 = .ok (.ladd, 1) := dk_97 (dk_at dksX2_computeMac_10 1 rfl rfl)
theorem dX2_computeMac_235 : decode cX2_computeMac 235 = .ok (.lload 6, 2) := dk_22 6 (dk_at dksX2_computeMac_10 2 rfl rfl)
theorem dX2_computeMac_237 : decode cX2_computeMac 237 = .ok (.lload 38, 2) := dk_22 38 (dk_at dksX2_computeMac_10 4 rfl rfl)
theorem dX2_computeMac_239 : decode cX2_computeMac 239 = .ok (.lmul, 1) := dk_105 (dk_at dksX2_computeMac_10 6 rfl rfl)
theorem dX2_computeMac_240 : decode cX2_computeMac 240 = .ok (.ladd, 1) := dk_97 (dk_at dksX2_computeMac_10 7 rfl rfl)
theorem dX2_computeMac_241 : decode cX2_computeMac 241 = .ok (.lload 8, 2) := dk_22 8 (dk_at dksX2_computeMac_10 8 rfl rfl)
theorem dX2_computeMac_243 : decode cX2_computeMac 243 = .ok (.lload 36, 2) := dk_22 36 (dk_at dksX2_computeMac_10 10 rfl rfl)
theorem dX2_computeMac_245 : decode cX2_computeMac 245 = .ok (.lmul, 1) := dk_105 (dk_at dksX2_computeMac_10 12 rfl rfl)
theorem dX2_computeMac_246 : decode cX2_computeMac 246 = .ok (.ladd, 1) := dk_97 (dk_at dksX2_computeMac_10 13 rfl rfl)
theorem dX2_computeMac_247 : decode cX2_computeMac 247 = .ok (.lload 10, 2) := dk_22 10 (dk_at dksX2_computeMac_10 14 rfl rfl)
theorem dX2_computeMac_249 : decode cX2_computeMac 249 = .ok (.lload 34, 2) := dk_22 34 (dk_at dksX2_computeMac_10 16 rfl rfl)
theorem dX2_computeMac_251 : decode cX2_computeMac 251 = .ok (.lmul, 1) := dk_105 (dk_at dksX2_computeMac_10 18 rfl rfl)
theorem dX2_computeMac_252 : decode cX2_computeMac 252 = .ok (.ladd, 1) := dk_97 (dk_at dksX2_computeMac_10 19 rfl rfl)
theorem dX2_computeMac_253 : decode cX2_computeMac 253 = .ok (.lstore 12, 2) := dk_55 12 (dk_at dksX2_computeMac_10 20 rfl rfl)
theorem dX2_computeMac_255 : decode cX2_computeMac 255 = .ok (.lload_n 2, 1) := dk_32 (dk_at dksX2_computeMac_10 22 rfl rfl)
theorem dX2_computeMac_256 : decode cX2_computeMac 256 = .ok (.lload 26, 2) := dk_22 26 (dk_at dksX2_computeMac_11 0 rfl rfl)
theorem dX2_computeMac_258 : decode cX2_computeMac 258 = .ok (.lmul, 1) := dk_105 (dk_at dksX2_computeMac_11 2 rfl rfl)
theorem dX2_computeMac_259 : decode cX2_computeMac 259 = .ok (.lload 4, 2) := dk_22 4 (dk_at dksX2_computeMac_11 3 rfl rfl)
theorem dX2_computeMac_261 : decode cX2_computeMac 261 = .ok (.lload 24, 2) := dk_22 24 (dk_at dksX2_computeMac_11 5 rfl rfl)
theorem dX2_computeMac_263 : decode cX2_computeMac 263 = .ok (.lmul, 1) := dk_105 (dk_at dksX2_computeMac_11 7 rfl rfl)
theorem dX2_computeMac_264 : decode cX2_computeMac 264 = .ok (.ladd, 1) := dk_97 (dk_at dksX2_computeMac_11 8 rfl rfl)
theorem dX2_computeMac_265 : decode cX2_computeMac 265 = .ok (.lload 6, 2) := dk_22 6 (dk_at dksX2_computeMac_11 9 rfl rfl)
theorem dX2_computeMac_267 : decode cX2_computeMac 267 = .ok (.lload 40, 2) := dk_22 40 (dk_at dksX2_computeMac_11 11 rfl rfl)
theorem dX2_computeMac_269 : decode cX2_computeMac 269 = .ok (.lmul, 1) := dk_105 (dk_at dksX2_computeMac_11 13 rfl rfl)
theorem dX2_computeMac_270 : decode cX2_computeMac 270 = .ok (.ladd, 1) := dk_97 (dk_at dksX2_computeMac_11 14 rfl rfl)
theorem dX2_computeMac_271 : decode cX2_computeMac 271 = .ok (.lload 8, 2) := dk_22 8 (dk_at dksX2_computeMac_11 15 rfl rfl)
theorem dX2_computeMac_273 : decode cX2_computeMac 273 = .ok (.lload 38, 2) := dk_22 38 (dk_at dksX2_computeMac_11 17 rfl rfl)
theorem dX2_computeMac_275 : decode cX2_computeMac 275 = .ok (.lmul, 1) := dk_105 (dk_at dksX2_computeMac_11 19 rfl rfl)
theorem dX2_computeMac_276 : decode cX2_computeMac 276 = .ok (.ladd, 1) := dk_97 (dk_at dksX2_computeMac_11 20 rfl rfl)
theorem dX2_computeMac_277 : decode cX2_computeMac 277 = .ok (.lload 10, 2) := dk_22 10 (dk_at dksX2_computeMac_11 21 rfl rfl)
theorem dX2_computeMac_279 : decode cX2_computeMac 279 = .ok (.lload 36, 2) := dk_22 36 (dk_at dksX2_computeMac_12 0 rfl rfl)
theorem dX2_computeMac_281 : decode cX2_computeMac 281 = .ok (.lmul, 1) := dk_105 (dk_at dksX2_computeMac_12 2 rfl rfl)
theorem dX2_computeMac_282 : decode cX2_computeMac 282 = .ok (.ladd, 1) := dk_97 (dk_at dksX2_computeMac_12 3 rfl rfl)
theorem dX2_computeMac_283 : decode cX2_computeMac 283 = .ok (.lstore 14, 2) := dk_55 14 (dk_at dksX2_computeMac_12 4 rfl rfl)
theorem dX2_computeMac_285 : decode cX2_computeMac 285 = .ok (.lload_n 2, 1) := dk_32 (dk_at dksX2_computeMac_12 6 rfl rfl)
theorem dX2_computeMac_286 : decode cX2_computeMac 286 = .ok (.lload 28, 2) := dk_22 28 (dk_at dksX2_computeMac_12 7 rfl rfl)
theorem dX2_computeMac_288 : decode cX2_computeMac 288 = .ok (.lmul, 1) := dk_105 (dk_at dksX2_computeMac_12 9 rfl rfl)
theorem dX2_computeMac_289 : decode cX2_computeMac 289 = .ok (.lload 4, 2) := dk_22 4 (dk_at dksX2_computeMac_12 10 rfl rfl)
theorem dX2_computeMac_291 : decode cX2_computeMac 291 = .ok (.lload 26, 2) := dk_22 26 (dk_at dksX2_computeMac_12 12 rfl rfl)
theorem dX2_computeMac_293 : decode cX2_computeMac 293 = .ok (.lmul, 1) := dk_105 (dk_at dksX2_computeMac_12 14 rfl rfl)
theorem dX2_computeMac_294 : decode cX2_computeMac 294 = .ok (.ladd, 1) := dk_97 (dk_at dksX2_computeMac_12 15 rfl rfl)
theorem dX2_computeMac_295 : decode cX2_computeMac 295 = .ok (.lload 6, 2) := dk_22 6 (dk_at dksX2_computeMac_12 16 rfl rfl)
theorem dX2_computeMac_297 : decode cX2_computeMac 297 = .ok (.lload 24, 2) := dk_22 24 (dk_at dksX2_computeMac_12 18 rfl rfl)
theorem dX2_computeMac_299 : decode cX2_computeMac 299 = .ok (.lmul, 1) := dk_105 (dk_at dksX2_computeMac_12 20 rfl rfl)
theorem dX2_computeMac_300 : decode cX2_computeMac 300 = .ok (.ladd, 1) := dk_97 (dk_at dksX2_computeMac_12 21 rfl rfl)
theorem dX2_computeMac_301 : decode cX2_computeMac 301 = .ok (.lload 8, 2) := dk_22 8 (dk_at dksX2_computeMac_12 22 rfl rfl)
theorem dX2_computeMac_303 : decode cX2_computeMac 303 = .ok (.lload 40, 2) := dk_22 40 (dk_at dksX2_computeMac_13 0 rfl rfl)
theorem dX2_computeMac_305 : decode cX2_computeMac 305 = .ok (.lmul, 1) := dk_105 (dk_at dksX2_computeMac_13 2 rfl rfl)
theorem dX2_computeMac_306 : decode cX2_computeMac 306 = .ok (.ladd, 1) := dk_97 (dk_at dksX2_computeMac_13 3 rfl rfl)
theorem dX2_computeMac_307 : decode cX2_computeMac 307 = .ok (.lload 10, 2) := dk_22 10 (dk_at dksX2_computeMac_13 4 rfl rfl)
theorem dX2_computeMac_309 : decode cX2_computeMac 309 = .ok (.lload 38, 2) := dk_22 38 (dk_at dksX2_computeMac_13 6 rfl rfl)
theorem dX2_computeMac_311 : decode cX2_computeMac 311 = .ok (.lmul, 1) := dk_105 (dk_at dksX2_computeMac_13 8 rfl rfl)
theorem dX2_computeMac_312 : decode cX2_computeMac 312 = .ok (.ladd, 1) := dk_97 (dk_at dksX2_computeMac_13 9 rfl rfl)
theorem dX2_computeMac_313 : decode cX2_computeMac 313 = .ok (.lstore 16, 2) := dk_55 16 (dk_at dksX2_computeMac_13 10 rfl rfl)
theorem dX2_computeMac_315 : decode cX2_computeMac 315 = .ok (.lload_n 2, 1) := dk_32 (dk_at dksX2_computeMac_13 12 rfl rfl)
theorem dX2_computeMac_316 : decode cX2_computeMac 316 = .ok (.lload 30, 2) := dk_22 30 (dk_at dksX2_computeMac_13 13 rfl rfl)
theorem dX2_computeMac_318 : decode cX2_computeMac 318 = .ok (.lmul, 1) := dk_105 (dk_at dksX2_computeMac_13 15 rfl rfl)
theorem dX2_computeMac_319 : decode cX2_computeMac 319 = .ok (.lload 4, 2) := dk_22 4 (dk_at dksX2_computeMac_13 16 rfl rfl)
theorem dX2_computeMac_321 : decode cX2_computeMac 321 = .ok (.lload 28, 2) := dk_22 28 (dk_at dksX2_computeMac_13 18 rfl rfl)
theorem dX2_computeMac_323 : decode cX2_computeMac 323 = .ok (.lmul, 1) := dk_105 (dk_at dksX2_computeMac_13 20 rfl rfl)
theorem dX2_computeMac_324 : decode cX2_computeMac 324 = .ok (.ladd, 1) := dk_97 (dk_at dksX2_computeMac_13 21 rfl rfl)
theorem dX2_computeMac_325 : decode cX2_computeMac 325 = .ok (.lload 6, 2) := dk_22 6 (dk_at dksX2_computeMac_13 22 rfl rfl)
theorem dX2_computeMac_327 : decode cX2_computeMac 327 = .ok (.lload 26, 2) := dk_22 26 (dk_at dksX2_computeMac_14 0 rfl rfl)
theorem dX2_computeMac_329 : decode cX2_computeMac 329 = .ok (.lmul, 1) := dk_105 (dk_at dksX2_computeMac_14 2 rfl rfl)
theorem dX2_computeMac_330 : decode cX2_computeMac 330 = .ok (.ladd, 1) := dk_97 (dk_at dksX2_computeMac_14 3 rfl rfl)
theorem dX2_computeMac_331 : decode cX2_computeMac 331 = .ok (.lload 8, 2) := dk_22 8 (dk_at dksX2_computeMac_14 4 rfl rfl)
theorem dX2_computeMac_333 : decode cX2_computeMac 333 = .ok (.lload 24, 2) := dk_22 24 (dk_at dksX2_computeMac_14 6 rfl rfl)
theorem dX2_computeMac_335 : decode cX2_computeMac 335 = .ok (.lmul, 1) := dk_105 (dk_at dksX2_computeMac_14 8 rfl rfl)
theorem dX2_computeMac_336 : decode cX2_computeMac 336 = .ok (.ladd, 1) := dk_97 (dk_at dksX2_computeMac_14 9 rfl rfl)
theorem dX2_computeMac_337 : decode cX2_computeMac 337 = .ok (.lload 10, 2) := dk_22 10 (dk_at dksX2_computeMac_14 10 rfl rfl)
theorem dX2_computeMac_339 : decode cX2_computeMac 339 = .ok (.lload 40, 2) := dk_22 40 (dk_at dksX2_computeMac_14 12 rfl rfl)
theorem dX2_computeMac_341 : decode cX2_computeMac 341 = .ok (.lmul, 1) := dk_105 (dk_at dksX2_computeMac_14 14 rfl rfl)
theorem dX2_computeMac_342 : decode cX2_computeMac 342 = .ok (.ladd, 1) := dk_97 (dk_at dksX2_computeMac_14 15 rfl rfl)
theorem dX2_computeMac_343 : decode cX2_computeMac 343 = .ok (.lstore 18, 2) := dk_55 18 (dk_at dksX2_computeMac_14 16 rfl rfl)
theorem dX2_computeMac_345 : decode cX2_computeMac 345 = .ok (.lload_n 2, 1) := dk_32 (dk_at dksX2_computeMac_14 18 rfl rfl)
theorem dX2_computeMac_346 : decode cX2_computeMac 346 = .ok (.lload 32, 2) := dk_22 32 (dk_at dksX2_computeMac_14 19 rfl rfl)
theorem dX2_computeMac_348 : decode cX2_computeMac 348 = .ok (.lmul, 1) := dk_105 (dk_at dksX2_computeMac_14 21 rfl rfl)
theorem dX2_computeMac_349 : decode cX2_computeMac 349 = .ok (.lload 4, 2) := dk_22 4 (dk_at dksX2_computeMac_14 22 rfl rfl)
theorem dX2_computeMac_351 : decode cX2_computeMac 351 = .ok (.lload 30, 2) := dk_22 30 (dk_at dksX2_computeMac_15 0 rfl rfl)
theorem dX2_computeMac_353 : decode cX2_computeMac 353 = .ok (.lmul, 1) := dk_105 (dk_at dksX2_computeMac_15 2 rfl rfl)
theorem dX2_computeMac_354 : decode cX2_computeMac 354 = .ok (.ladd, 1) := dk_97 (dk_at dksX2_computeMac_15 3 rfl rfl)
theorem dX2_computeMac_355 : decode cX2_computeMac 355 = .ok (.lload 6, 2) := dk_22 6 (dk_at dksX2_computeMac_15 4 rfl rfl)
theorem dX2_computeMac_357 : decode cX2_computeMac 357 = .ok (.lload 28, 2) := dk_22 28 (dk_at dksX2_computeMac_15 6 rfl rfl)
theorem dX2_computeMac_359 : decode cX2_computeMac 359 = .ok (.lmul, 1) := dk_105 (dk_at dksX2_computeMac_15 8 rfl rfl)
theorem dX2_computeMac_360 : decode cX2_computeMac 360 = .ok (.ladd, 1) := dk_97 (dk_at dksX2_computeMac_15 9 rfl rfl)
theorem dX2_computeMac_361 : decode cX2_computeMac 361 = .ok (.lload 8, 2) := dk_22 8 (dk_at dksX2_computeMac_15 10 rfl rfl)
theorem dX2_computeMac_363 : decode cX2_computeMac 363 = .ok (.lload 26, 2) := dk_22 26 (dk_at dksX2_computeMac_15 12 rfl rfl)
theorem dX2_computeMac_365 : decode cX2_computeMac 365 = .ok (.lmul, 1) := dk_105 (dk_at dksX2_computeMac_15 14 rfl rfl)
theorem dX2_computeMac_366 : decode cX2_computeMac 366 = .ok (.ladd, 1) := dk_97 (dk_at dksX2_computeMac_15 15 rfl rfl)
theorem dX2_computeMac_367 : decode cX2_computeMac 367 = .ok (.lload 10, 2) := dk_22 10 (dk_at dksX2_computeMac_15 16 rfl rfl)
theorem dX2_computeMac_369 : decode cX2_computeMac 369 = .ok (.lload 24, 2) := dk_22 24 (dk_at dksX2_computeMac_15 18 rfl rfl)
theorem dX2_computeMac_371 : decode cX2_computeMac 371 = .ok (.lmul, 1) := dk_105 (dk_at dksX2_computeMac_15 20 rfl rfl)
theorem dX2_computeMac_372 : decode cX2_computeMac 372 = .ok (.ladd, 1) := dk_97 (dk_at dksX2_computeMac_15 21 rfl rfl)
theorem dX2_computeMac_373 : decode cX2_computeMac 373 = .ok (.lstore 20, 2) := dk_55 20 (dk_at dksX2_computeMac_15 22 rfl rfl)
theorem dX2_computeMac_375 : decode cX2_computeMac 375 = .ok (.lload 12, 2) := dk_22 12 (dk_at dksX2_computeMac_16 0 rfl rfl)
theorem dX2_computeMac_377 : decode cX2_computeMac 377 = .ok (.bipush 26, 2) := dk_16 26 (dk_at dksX2_computeMac_16 2 rfl rfl)
theorem dX2_computeMac_379 : decode cX2_computeMac 379 = .ok (.lshr, 1) := dk_123 (dk_at dksX2_computeMac_16 4 rfl rfl)
theorem dX2_computeMac_380 : decode cX2_computeMac 380 = .ok (.lstore 22, 2) := dk_55 22 (dk_at dksX2_computeMac_16 5 rfl rfl)
theorem dX2_computeMac_382 : decode cX2_computeMac 382 = .ok (.lload 12, 2) := dk_22 12 (dk_at dksX2_computeMac_16 7 rfl rfl)
theorem dX2_computeMac_384 : decode cX2_computeMac 384 = .ok (.ldc2_w 9, 3) := dk_20 0 9 (dk_at dksX2_computeMac_16 9 rfl rfl)
theorem dX2_computeMac_387 : decode cX2_computeMac 387 = .ok (.land, 1) := dk_127 (dk_at dksX2_computeMac_16 12 rfl rfl)
theorem dX2_computeMac_388 : decode cX2_computeMac 388 = .ok (.lstore_n 2, 1) := dk_65 (dk_at dksX2_computeMac_16 13 rfl rfl)
theorem dX2_computeMac_389 : decode cX2_computeMac 389 = .ok (.lload 14, 2) := dk_22 14 (dk_at dksX2_computeMac_16 14 rfl rfl)
theorem dX2_computeMac_391 : decode cX2_computeMac 391 = .ok (.lload 22, 2) := dk_22 22 (dk_at dksX2_computeMac_16 16 rfl rfl)
theorem dX2_computeMac_393 : decode cX2_computeMac 393 = .ok (.ladd, 1) := dk_97 (dk_at dksX2_computeMac_16 18 rfl rfl)
theorem dX2_computeMac_394 : decode cX2_computeMac 394 = .ok (.lstore 14, 2) := dk_55 14 (dk_at dksX2_computeMac_16 19 rfl rfl)
theorem dX2_computeMac_396 : decode cX2_computeMac 396 = .ok (.lload 14, 2) := dk_22 14 (dk_at dksX2_computeMac_16 21 rfl rfl)
theorem dX2_computeMac_398 : decode cX2_computeMac 398 = .ok (.bipush 26, 2) := dk_16 26 (dk_at dksX2_computeMac_17 0 rfl rfl)
theorem dX2_computeMac_400 : decode cX2_computeMac 400 = .ok (.lshr, 1) := dk_123 (dk_at dksX2_computeMac_17 2 rfl rfl)
theorem dX2_computeMac_401 : decode cX2_computeMac 401 = .ok (.lstore 22, 2) := dk_55 22 (dk_at dksX2_computeMac_17 3 rfl rfl)
theorem dX2_computeMac_403 : decode cX2_computeMac 403 = .ok (.lload 14, 2) := dk_22 14 (dk_at dksX2_computeMac_17 5 rfl rfl)
theorem dX2_computeMac_405 : decode cX2_computeMac 405 = .ok (.ldc2_w 9, 3) := dk_20 0 9 (dk_at dksX2_computeMac_17 7 rfl rfl)
theorem dX2_computeMac_408 : decode cX2_computeMac 408 = .ok (.land, 1) := dk_127 (dk_at dksX2_computeMac_17 10 rfl rfl)
theorem dX2_computeMac_409 : decode cX2_computeMac 409 = .ok (.lstore 4, 2) := dk_55 4 (dk_at dksX2_computeMac_17 11 rfl rfl)
theorem dX2_computeMac_411 : decode cX2_computeMac 411 = .ok (.lload 16, 2) := dk_22 16 (dk_at dksX2_computeMac_17 13 rfl rfl)
theorem dX2_computeMac_413 : decode cX2_computeMac 413 = .ok (.lload 22, 2) := dk_22 22 (dk_at dksX2_computeMac_17 15 rfl rfl)
theorem dX2_computeMac_415 : decode cX2_computeMac 415 = .ok (.ladd, 1) := dk_97 (dk_at dksX2_computeMac_17 17 rfl rfl)
theorem dX2_computeMac_416 : decode cX2_computeMac 416 = .ok (.lstore 16, 2) := dk_55 16 (dk_at dksX2_computeMac_17 18 rfl rfl)
theorem dX2_computeMac_418 : decode cX2_computeMac 418 = .ok (.lload 16, 2) := dk_22 16 (dk_at dksX2_computeMac_17 20 rfl rfl)
theorem dX2_computeMac_420 : decode cX2_computeMac 420 = .ok (.bipush 26, 2) := dk_16 26 (dk_at dksX2_computeMac_17 22 rfl rfl)
theorem dX2_computeMac_422 : decode cX2_computeMac 422 = .ok (.lshr, 1) := dk_123 (dk_at dksX2_computeMac_18 0 rfl rfl)
theorem dX2_computeMac_423 : decode cX2_computeMac 423 = .ok (.lstore 22, 2) := dk_55 22 (dk_at dksX2_computeMac_18 1 rfl rfl)
theorem dX2_computeMac_425 : decode cX2_computeMac 425 = .ok (.lload 16, 2) := dk_22 16 (dk_at dksX2_computeMac_18 3 rfl rfl)
theorem dX2_computeMac_427 : decode cX2_computeMac 427 = .ok (.ldc2_w 9, 3) := dk_20 0 9 (dk_at dksX2_computeMac_18 5 rfl rfl)
theorem dX2_computeMac_430 : decode cX2_computeMac 430 = .ok (.land, 1) := dk_127 (dk_at dksX2_computeMac_18 8 rfl rfl)
theorem dX2_computeMac_431 : decode cX2_computeMac 431 = .ok (.lstore 6, 2) := dk_55 6 (dk_at dksX2_computeMac_18 9 rfl rfl)
theorem dX2_computeMac_433 : decode cX2_computeMac 433 = .ok (.lload 18, 2) := dk_22 18 (dk_at dksX2_computeMac_18 11 rfl rfl)
theorem dX2_computeMac_435 : decode cX2_computeMac 435 = .ok (.lload 22, 2) := dk_22 22 (dk_at dksX2_computeMac_18 13 rfl rfl)
theorem dX2_computeMac_437 : decode cX2_computeMac 437 = .ok (.ladd, 1) := dk_97 (dk_at dksX2_computeMac_18 15 rfl rfl)
theorem dX2_computeMac_438 : decode cX2_computeMac 438 = .ok (.lstore 18, 2) := dk_55 18 (dk_at dksX2_computeMac_18 16 rfl rfl)
theorem dX2_computeMac_440 : decode cX2_computeMac 440 = .ok (.lload 18, 2) := dk_22 18 (dk_at dksX2_computeMac_18 18 rfl rfl)
theorem dX2_computeMac_442 : decode cX2_computeMac 442 = .ok (.bipush 26, 2) := dk_16 26 (dk_at dksX2_computeMac_18 20 rfl rfl)
theorem dX2_computeMac_444 : decode cX2_computeMac 444 = .ok (.lshr, 1) := dk_123 (dk_at dksX2_computeMac_18 22 rfl rfl)
theorem dX2_computeMac_445 : decode cX2_computeMac 445 = .ok (.lstore 22, 2) := dk_55 22 (dk_at dksX2_computeMac_19 0 rfl rfl)
theorem dX2_computeMac_447 : decode cX2_computeMac 447 = .ok (.lload 18, 2) := dk_22 18 (dk_at dksX2_computeMac_19 2 rfl rfl)
theorem dX2_computeMac_449 : decode cX2_computeMac 449 = .ok (.ldc2_w 9, 3) := dk_20 0 9 (dk_at dksX2_computeMac_19 4 rfl rfl)
theorem dX2_computeMac_452 : decode cX2_computeMac 452 = .ok (.land, 1) := dk_127 (dk_at dksX2_computeMac_19 7 rfl rfl)
theorem dX2_computeMac_453 : decode cX2_computeMac 453 = .ok (.lstore 8, 2) := dk_55 8 (dk_at dksX2_computeMac_19 8 rfl rfl)
theorem dX2_computeMac_455 : decode cX2_computeMac 455 = .ok (.lload 20, 2) := dk_22 20 (dk_at dksX2_computeMac_19 10 rfl rfl)
theorem dX2_computeMac_457 : decode cX2_computeMac 457 = .ok (.lload 22, 2) := dk_22 22 (dk_at dksX2_computeMac_19 12 rfl rfl)
theorem dX2_computeMac_459 : decode cX2_computeMac 459 = .ok (.ladd, 1) := dk_97 (dk_at dksX2_computeMac_19 14 rfl rfl)
theorem dX2_computeMac_460 : decode cX2_computeMac 460 = .ok (.lstore 20, 2) := dk_55 20 (dk_at dksX2_computeMac_19 15 rfl rfl)
theorem dX2_computeMac_462 : decode cX2_computeMac 462 = .ok (.lload 20, 2) := dk_22 20 (dk_at dksX2_computeMac_19 17 rfl rfl)
theorem dX2_computeMac_464 : decode cX2_computeMac 464 = .ok (.bipush 26, 2) := dk_16 26 (dk_at dksX2_computeMac_19 19 rfl rfl)
theorem dX2_computeMac_466 : decode cX2_computeMac 466 = .ok (.lshr, 1) := dk_123 (dk_at dksX2_computeMac_19 21 rfl rfl)
theorem dX2_computeMac_467 : decode cX2_computeMac 467 = .ok (.lstore 22, 2) := dk_55 22 (dk_at dksX2_computeMac_19 22 rfl rfl)
theorem dX2_computeMac_469 : decode cX2_computeMac 469 = .ok (.lload 20, 2) := dk_22 20 (dk_at dksX2_computeMac_20 0 rfl rfl)
theorem dX2_computeMac_471 : decode cX2_computeMac 471 = .ok (.ldc2_w 9, 3) := dk_20 0 9 (dk_at dksX2_computeMac_20 2 rfl rfl)
theorem dX2_computeMac_474 : decode cX2_computeMac 474 = .ok (.land, 1) := dk_127 (dk_at dksX2_computeMac_20 5 rfl rfl)
theorem dX2_computeMac_475 : decode cX2_computeMac 475 = .ok (.lstore 10, 2) := dk_55 10 (dk_at dksX2_computeMac_20 6 rfl rfl)
theorem dX2_computeMac_477 : decode cX2_computeMac 477 = .ok (.lload_n 2, 1) := dk_32 (dk_at dksX2_computeMac_20 8 rfl rfl)
theorem dX2_computeMac_478 : decode cX2_computeMac 478 = .ok (.lload 22, 2) := dk_22 22 (dk_at dksX2_computeMac_20 9 rfl rfl)
theorem dX2_computeMac_480 : decode cX2_computeMac 480 = .ok (.ldc2_w 51, 3) := dk_20 0 51 (dk_at dksX2_computeMac_20 11 rfl rfl)
theorem dX2_computeMac_483 : decode cX2_computeMac 483 = .ok (.lmul, 1) := dk_105 (dk_at dksX2_computeMac_20 14 rfl rfl)
theorem dX2_computeMac_484 : decode cX2_computeMac 484 = .ok (.ladd, 1) := dk_97 (dk_at dksX2_computeMac_20 15 rfl rfl)
theorem dX2_computeMac_485 : decode cX2_computeMac 485 = .ok (.lstore_n 2, 1) := dk_65 (dk_at dksX2_computeMac_20 16 rfl rfl)
theorem dX2_computeMac_486 : decode cX2_computeMac 486 = .ok (.lload_n 2, 1) := dk_32 (dk_at dksX2_computeMac_20 17 rfl rfl)
theorem dX2_computeMac_487 : decode cX2_computeMac 487 = .ok (.bipush 26, 2) := dk_16 26 (dk_at dksX2_computeMac_20 18 rfl rfl)
theorem dX2_computeMac_489 : decode cX2_computeMac 489 = .ok (.lshr, 1) := dk_123 (dk_at dksX2_computeMac_20 20 rfl rfl)
theorem dX2_computeMac_490 : decode cX2_computeMac 490 = .ok (.lstore 22, 2) := dk_55 22 (dk_at dksX2_computeMac_20 21 rfl rfl)
theorem dX2_computeMac_492 : decode cX2_computeMac 492 = .ok (.lload_n 2, 1) := dk_32 (dk_at dksX2_computeMac_20 23 rfl rfl)
theorem dX2_computeMac_493 : decode cX2_computeMac 493 = .ok (.ldc2_w 9, 3) := dk_20 0 9 (dk_at dksX2_computeMac_21 0 rfl rfl)
theorem dX2_computeMac_496 : decode cX2_computeMac 496 = .ok (.land, 1) := dk_127 (dk_at dksX2_computeMac_21 3 rfl rfl)
theorem dX2_computeMac_497 : decode cX2_computeMac 497 = .ok (.lstore_n 2, 1) := dk_65 (dk_at dksX2_computeMac_21 4 rfl rfl)
theorem dX2_computeMac_498 : decode cX2_computeMac 498 = .ok (.lload 4, 2) := dk_22 4 (dk_at dksX2_computeMac_21 5 rfl rfl)
theorem dX2_computeMac_500 : decode cX2_computeMac 500 = .ok (.lload 22, 2) := dk_22 22 (dk_at dksX2_computeMac_21 7 rfl rfl)
theorem dX2_computeMac_502 : decode cX2_computeMac 502 = .ok (.ladd, 1) := dk_97 (dk_at dksX2_computeMac_21 9 rfl rfl)
theorem dX2_computeMac_503 : decode cX2_computeMac 503 = .ok (.lstore 4, 2) := dk_55 4 (dk_at dksX2_computeMac_21 10 rfl rfl)
theorem dX2_computeMac_505 : decode cX2_computeMac 505 = .ok (.iinc 43 16, 3) := dk_132 43 16 (dk_at dksX2_computeMac_21 12 rfl rfl)
theorem dX2_computeMac_508 : decode cX2_computeMac 508 = .ok (.goto (-371), 3) := dk_167 254 141 (dk_at dksX2_computeMac_21 15 rfl rfl)
theorem dX2_computeMac_511 : decode cX2_computeMac 511 = .ok (.lload 4, 2) := dk_22 4 (dk_at dksX2_computeMac_21 18 rfl rfl)
theorem dX2_computeMac_513 : decode cX2_computeMac 513 = .ok (.bipush 26, 2) := dk_16 26 (dk_at dksX2_computeMac_21 20 rfl rfl)
theorem dX2_computeMac_515 : decode cX2_computeMac 515 = .ok (.lshr, 1) := dk_123 (dk_at dksX2_computeMac_21 22 rfl rfl)
theorem dX2_computeMac_516 : decode cX2_computeMac 516 = .ok (.lstore 22, 2) := dk_55 22 (dk_at dksX2_computeMac_22 0 rfl rfl)
theorem dX2_computeMac_518 : decode cX2_computeMac 518 = .ok (.lload 4, 2) := dk_22 4 (dk_at dksX2_computeMac_22 2 rfl rfl)
theorem dX2_computeMac_520 : decode cX2_computeMac 520 = .ok (.ldc2_w 9, 3) := dk_20 0 9 (dk_at dksX2_computeMac_22 4 rfl rfl)
theorem dX2_computeMac_523 : decode cX2_computeMac 523 = .ok (.land, 1) := dk_127 (dk_at dksX2_computeMac_22 7 rfl rfl)
theorem dX2_computeMac_524 : decode cX2_computeMac 524 = .ok (.lstore 4, 2) := dk_55 4 (dk_at dksX2_computeMac_22 8 rfl rfl)
theorem dX2_computeMac_526 : decode cX2_computeMac 526 = .ok (.lload 6, 2) := dk_22 6 (dk_at dksX2_computeMac_22 10 rfl rfl)
theorem dX2_computeMac_528 : decode cX2_computeMac 528 = .ok (.lload 22, 2) := dk_22 22 (dk_at dksX2_computeMac_22 12 rfl rfl)
theorem dX2_computeMac_530 : decode cX2_computeMac 530 = .ok (.ladd, 1) := dk_97 (dk_at dksX2_computeMac_22 14 rfl rfl)
theorem dX2_computeMac_531 : decode cX2_computeMac 531 = .ok (.lstore 6, 2) := dk_55 6 (dk_at dksX2_computeMac_22 15 rfl rfl)
theorem dX2_computeMac_533 : decode cX2_computeMac 533 = .ok (.lload 6, 2) := dk_22 6 (dk_at dksX2_computeMac_22 17 rfl rfl)
theorem dX2_computeMac_535 : decode cX2_computeMac 535 = .ok (.bipush 26, 2) := dk_16 26 (dk_at dksX2_computeMac_22 19 rfl rfl)
theorem dX2_computeMac_537 : decode cX2_computeMac 537 = .ok (.lshr, 1) := dk_123 (dk_at dksX2_computeMac_22 21 rfl rfl)
theorem dX2_computeMac_538 : decode cX2_computeMac 538 = .ok (.lstore 22, 2) := dk_55 22 (dk_at dksX2_computeMac_22 22 rfl rfl)
theorem dX2_computeMac_540 : decode cX2_computeMac 540 = .ok (.lload 6, 2) := dk_22 6 (dk_at dksX2_computeMac_23 0 rfl rfl)
theorem dX2_computeMac_542 : decode cX2_computeMac 542 = .ok (.ldc2_w 9, 3) := dk_20 0 9 (dk_at dksX2_computeMac_23 2 rfl rfl)
theorem dX2_computeMac_545 : decode cX2_computeMac 545 = .ok (.land, 1) := dk_127 (dk_at dksX2_computeMac_23 5 rfl rfl)
theorem dX2_computeMac_546 : decode cX2_computeMac 546 = .ok (.lstore 6, 2) := dk_55 6 (dk_at dksX2_computeMac_23 6 rfl rfl)
theorem dX2_computeMac_548 : decode cX2_computeMac 548 = .ok (.lload 8, 2) := dk_22 8 (dk_at dksX2_computeMac_23 8 rfl rfl)
theorem dX2_computeMac_550 : decode cX2_computeMac 550 = .ok (.lload 22, 2) := dk_22 22 (dk_at dksX2_computeMac_23 10 rfl rfl)
theorem dX2_computeMac_552 : decode cX2_computeMac 552 = .ok (.ladd, 1) := dk_97 (dk_at dksX2_computeMac_23 12 rfl rfl)
theorem dX2_computeMac_553 : decode cX2_computeMac 553 = .ok (.lstore 8, 2) := dk_55 8 (dk_at dksX2_computeMac_23 13 rfl rfl)
theorem dX2_computeMac_555 : decode cX2_computeMac 555 = .ok (.lload 8, 2) := dk_22 8 (dk_at dksX2_computeMac_23 15 rfl rfl)
theorem dX2_computeMac_557 : decode cX2_computeMac 557 = .ok (.bipush 26, 2) := dk_16 26 (dk_at dksX2_computeMac_23 17 rfl rfl)
theorem dX2_computeMac_559 : decode cX2_computeMac 559 = .ok (.lshr, 1) := dk_123 (dk_at dksX2_computeMac_23 19 rfl rfl)
theorem dX2_computeMac_560 : decode cX2_computeMac 560 = .ok (.lstore 22, 2) := dk_55 22 (dk_at dksX2_computeMac_23 20 rfl rfl)
theorem dX2_computeMac_562 : decode cX2_computeMac 562 = .ok (.lload 8, 2) := dk_22 8 (dk_at dksX2_computeMac_23 22 rfl rfl)
theorem dX2_computeMac_564 : decode cX2_computeMac 564 = .ok (.ldc2_w 9, 3) := dk_20 0 9 (dk_at dksX2_computeMac_24 0 rfl rfl)
theorem dX2_computeMac_567 : decode cX2_computeMac 567 = .ok (.land, 1) := dk_127 (dk_at dksX2_computeMac_24 3 rfl rfl)
theorem dX2_computeMac_568 : decode cX2_computeMac 568 = .ok (.lstore 8, 2) := dk_55 8 (dk_at dksX2_computeMac_24 4 rfl rfl)
theorem dX2_computeMac_570 : decode cX2_computeMac 570 = .ok (.lload 10, 2) := dk_22 10 (dk_at dksX2_computeMac_24 6 rfl rfl)
theorem dX2_computeMac_572 : decode cX2_computeMac 572 = .ok (.lload 22, 2) := dk_22 22 (dk_at dksX2_computeMac_24 8 rfl rfl)
theorem dX2_computeMac_574 : decode cX2_computeMac 574 = .ok (.ladd, 1) := dk_97 (dk_at dksX2_computeMac_24 10 rfl rfl)
theorem dX2_computeMac_575 : decode cX2_computeMac 575 = .ok (.lstore 10, 2) := dk_55 10 (dk_at dksX2_computeMac_24 11 rfl rfl)
theorem dX2_computeMac_577 : decode cX2_computeMac 577 = .ok (.lload 10, 2) := dk_22 10 (dk_at dksX2_computeMac_24 13 rfl rfl)
theorem dX2_computeMac_579 : decode cX2_computeMac 579 = .ok (.bipush 26, 2) := dk_16 26 (dk_at dksX2_computeMac_24 15 rfl rfl)
theorem dX2_computeMac_581 : decode cX2_computeMac 581 = .ok (.lshr, 1) := dk_123 (dk_at dksX2_computeMac_24 17 rfl rfl)
theorem dX2_computeMac_582 : decode cX2_computeMac 582 = .ok (.lstore 22, 2) := dk_55 22 (dk_at dksX2_computeMac_24 18 rfl rfl)
theorem dX2_computeMac_584 : decode cX2_computeMac 584 = .ok (.lload 10, 2) := dk_22 10 (dk_at dksX2_computeMac_24 20 rfl rfl)
theorem dX2_computeMac_586 : decode cX2_computeMac 586 = .ok (.ldc2_w 9, 3) := dk_20 0 9 (dk_at dksX2_computeMac_25 0 rfl rfl)
theorem dX2_computeMac_589 : decode cX2_computeMac 589 = .ok (.land, 1) := dk_127 (dk_at dksX2_computeMac_25 3 rfl rfl)
theorem dX2_computeMac_590 : decode cX2_computeMac 590 = .ok (.lstore 10, 2) := dk_55 10 (dk_at dksX2_computeMac_25 4 rfl rfl)
theorem dX2_computeMac_592 : decode cX2_computeMac 592 = .ok (.lload_n 2, 1) := dk_32 (dk_at dksX2_computeMac_25 6 rfl rfl)
theorem dX2_computeMac_593 : decode cX2_computeMac 593 = .ok (.lload 22, 2) := dk_22 22 (dk_at dksX2_computeMac_25 7 rfl rfl)
theorem dX2_computeMac_595 : decode cX2_computeMac 595 = .ok (.ldc2_w 51, 3) := dk_20 0 51 (dk_at dksX2_computeMac_25 9 rfl rfl)
theorem dX2_computeMac_598 : decode cX2_computeMac 598 = .ok (.lmul, 1) := dk_105 (dk_at dksX2_computeMac_25 12 rfl rfl)
theorem dX2_computeMac_599 : decode cX2_computeMac 599 = .ok (.ladd, 1) := dk_97 (dk_at dksX2_computeMac_25 13 rfl rfl)
theorem dX2_computeMac_600 : decode cX2_computeMac 600 = .ok (.lstore_n 2, 1) := dk_65 (dk_at dksX2_computeMac_25 14 rfl rfl)
theorem dX2_computeMac_601 : decode cX2_computeMac 601 = .ok (.lload_n 2, 1) := dk_32 (dk_at dksX2_computeMac_25 15 rfl rfl)
theorem dX2_computeMac_602 : decode cX2_computeMac 602 = .ok (.bipush 26, 2) := dk_16 26 (dk_at dksX2_computeMac_25 16 rfl rfl)
theorem dX2_computeMac_604 : decode cX2_computeMac 604 = .ok (.lshr, 1) := dk_123 (dk_at dksX2_computeMac_25 18 rfl rfl)
theorem dX2_computeMac_605 : decode cX2_computeMac 605 = .ok (.lstore 22, 2) := dk_55 22 (dk_at dksX2_computeMac_25 19 rfl rfl)
theorem dX2_computeMac_607 : decode cX2_computeMac 607 = .ok (.lload_n 2, 1) := dk_32 (dk_at dksX2_computeMac_25 21 rfl rfl)
theorem dX2_computeMac_608 : decode cX2_computeMac 608 = .ok (.ldc2_w 9, 3) := dk_20 0 9 (dk_at dksX2_computeMac_26 0 rfl rfl)
theorem dX2_computeMac_611 : decode cX2_computeMac 611 = .ok (.land, 1) := dk_127 (dk_at dksX2_computeMac_26 3 rfl rfl)
theorem dX2_computeMac_612 : decode cX2_computeMac 612 = .ok (.lstore_n 2, 1) := dk_65 (dk_at dksX2_computeMac_26 4 rfl rfl)
theorem dX2_computeMac_613 : decode cX2_computeMac 613 = .ok (.lload 4, 2) := dk_22 4 (dk_at dksX2_computeMac_26 5 rfl rfl)
theorem dX2_computeMac_615 : decode cX2_computeMac 615 = .ok (.lload 22, 2) := dk_22 22 (dk_at dksX2_computeMac_26 7 rfl rfl)
theorem dX2_computeMac_617 : decode cX2_computeMac 617 = .ok (.ladd, 1) := dk_97 (dk_at dksX2_computeMac_26 9 rfl rfl)
theorem dX2_computeMac_618 : decode cX2_computeMac 618 = .ok (.lstore 4, 2) := dk_55 4 (dk_at dksX2_computeMac_26 10 rfl rfl)
theorem dX2_computeMac_620 : decode cX2_computeMac 620 = .ok (.lload_n 2, 1) := dk_32 (dk_at dksX2_computeMac_26 12 rfl rfl)
theorem dX2_computeMac_621 : decode cX2_computeMac 621 = .ok (.ldc2_w 51, 3) := dk_20 0 51 (dk_at dksX2_computeMac_26 13 rfl rfl)
theorem dX2_computeMac_624 : decode cX2_computeMac 624 = .ok (.ladd, 1) := dk_97 (dk_at dksX2_computeMac_26 16 rfl rfl)
theorem dX2_computeMac_625 : decode cX2_computeMac 625 = .ok (.lstore 43, 2) := dk_55 43 (dk_at dksX2_computeMac_26 17 rfl rfl)
theorem dX2_computeMac_627 : decode cX2_computeMac 627 = .ok (.lload 43, 2) := dk_22 43 (dk_at dksX2_computeMac_26 19 rfl rfl)
theorem dX2_computeMac_629 : decode cX2_computeMac 629 = .ok (.bipush 26, 2) := dk_16 26 (dk_at dksX2_computeMac_26 21 rfl rfl)
theorem dX2_computeMac_631 : decode cX2_computeMac 631 = .ok (.lshr, 1) := dk_123 (dk_at dksX2_computeMac_26 23 rfl rfl)
theorem dX2_computeMac_632 : decode cX2_computeMac 632 = .ok (.lstore 22, 2) := dk_55 22 (dk_at dksX2_computeMac_27 0 rfl rfl)
theorem dX2_computeMac_634 : decode cX2_computeMac 634 = .ok (.lload 43, 2) := dk_22 43 (dk_at dksX2_computeMac_27 2 rfl rfl)
theorem dX2_computeMac_636 : decode cX2_computeMac 636 = .ok (.ldc2_w 9, 3) := dk_20 0 9 (dk_at dksX2_computeMac_27 4 rfl rfl)
theorem dX2_computeMac_639 : decode cX2_computeMac 639 = .ok (.land, 1) := dk_127 (dk_at dksX2_computeMac_27 7 rfl rfl)
theorem dX2_computeMac_640 : decode cX2_computeMac 640 = .ok (.lstore 43, 2) := dk_55 43 (dk_at dksX2_computeMac_27 8 rfl rfl)
theorem dX2_computeMac_642 : decode cX2_computeMac 642 = .ok (.lload 4, 2) := dk_22 4 (dk_at dksX2_computeMac_27 10 rfl rfl)
theorem dX2_computeMac_644 : decode cX2_computeMac 644 = .ok (.lload 22, 2) := dk_22 22 (dk_at dksX2_computeMac_27 12 rfl rfl)
theorem dX2_computeMac_646 : decode cX2_computeMac 646 = .ok (.ladd, 1) := dk_97 (dk_at dksX2_computeMac_27 14 rfl rfl)
theorem dX2_computeMac_647 : decode cX2_computeMac 647 = .ok (.lstore 45, 2) := dk_55 45 (dk_at dksX2_computeMac_27 15 rfl rfl)
theorem dX2_computeMac_649 : decode cX2_computeMac 649 = .ok (.lload 45, 2) := dk_22 45 (dk_at dksX2_computeMac_27 17 rfl rfl)
theorem dX2_computeMac_651 : decode cX2_computeMac 651 = .ok (.bipush 26, 2) := dk_16 26 (dk_at dksX2_computeMac_27 19 rfl rfl)
theorem dX2_computeMac_653 : decode cX2_computeMac 653 = .ok (.lshr, 1) := dk_123 (dk_at dksX2_computeMac_27 21 rfl rfl)
theorem dX2_computeMac_654 : decode cX2_computeMac 654 = .ok (.lstore 22, 2) := dk_55 22 (dk_at dksX2_computeMac_27 22 rfl rfl)
theorem dX2_computeMac_656 : decode cX2_computeMac 656 = .ok (.lload 45, 2) := dk_22 45 (dk_at dksX2_computeMac_28 0 rfl rfl)
theorem dX2_computeMac_658 : decode cX2_computeMac 658 = .ok (.ldc2_w 9, 3) := dk_20 0 9 (dk_at dksX2_computeMac_28 2 rfl rfl)
theorem dX2_computeMac_661 : decode cX2_computeMac 661 = .ok (.land, 1) := dk_127 (dk_at dksX2_computeMac_28 5 rfl rfl)
theorem dX2_computeMac_662 : decode cX2_computeMac 662 = .ok (.lstore 45, 2) := dk_55 45 (dk_at dksX2_computeMac_28 6 rfl rfl)
theorem dX2_computeMac_664 : decode cX2_computeMac 664 = .ok (.lload 6, 2) := dk_22 6 (dk_at dksX2_computeMac_28 8 rfl rfl)
theorem dX2_computeMac_666 : decode cX2_computeMac 666 = .ok (.lload 22, 2) := dk_22 22 (dk_at dksX2_computeMac_28 10 rfl rfl)
theorem dX2_computeMac_668 : decode cX2_computeMac 668 = .ok (.ladd, 1) := dk_97 (dk_at dksX2_computeMac_28 12 rfl rfl)
theorem dX2_computeMac_669 : decode cX2_computeMac 669 = .ok (.lstore 47, 2) := dk_55 47 (dk_at dksX2_computeMac_28 13 rfl rfl)
theorem dX2_computeMac_671 : decode cX2_computeMac 671 = .ok (.lload 47, 2) := dk_22 47 (dk_at dksX2_computeMac_28 15 rfl rfl)
theorem dX2_computeMac_673 : decode cX2_computeMac 673 = .ok (.bipush 26, 2) := dk_16 26 (dk_at dksX2_computeMac_28 17 rfl rfl)
theorem dX2_computeMac_675 : decode cX2_computeMac 675 = .ok (.lshr, 1) := dk_123 (dk_at dksX2_computeMac_28 19 rfl rfl)
theorem dX2_computeMac_676 : decode cX2_computeMac 676 = .ok (.lstore 22, 2) := dk_55 22 (dk_at dksX2_computeMac_28 20 rfl rfl)
theorem dX2_computeMac_678 : decode cX2_computeMac 678 = .ok (.lload 47, 2) := dk_22 47 (dk_at dksX2_computeMac_28 22 rfl rfl)
theorem dX2_computeMac_680 : decode cX2_computeMac 680 = .ok (.ldc2_w 9, 3) := dk_20 0 9 (dk_at dksX2_computeMac_29 0 rfl rfl)
theorem dX2_computeMac_683 : decode cX2_computeMac 683 = .ok (.land, 1) := dk_127 (dk_at dksX2_computeMac_29 3 rfl rfl)
theorem dX2_computeMac_684 : decode cX2_computeMac 684 = .ok (.lstore 47, 2) := dk_55 47 (dk_at dksX2_computeMac_29 4 rfl rfl)
theorem dX2_computeMac_686 : decode cX2_computeMac 686 = .ok (.lload 8, 2) := dk_22 8 (dk_at dksX2_computeMac_29 6 rfl rfl)
theorem dX2_computeMac_688 : decode cX2_computeMac 688 = .ok (.lload 22, 2) := dk_22 22 (dk_at dksX2_computeMac_29 8 rfl rfl)
theorem dX2_computeMac_690 : decode cX2_computeMac 690 = .ok (.ladd, 1) := dk_97 (dk_at dksX2_computeMac_29 10 rfl rfl)
theorem dX2_computeMac_691 : decode cX2_computeMac 691 = .ok (.lstore 49, 2) := dk_55 49 (dk_at dksX2_computeMac_29 11 rfl rfl)
theorem dX2_computeMac_693 : decode cX2_computeMac 693 = .ok (.lload 49, 2) := dk_22 49 (dk_at dksX2_computeMac_29 13 rfl rfl)
theorem dX2_computeMac_695 : decode cX2_computeMac 695 = .ok (.bipush 26, 2) := dk_16 26 (dk_at dksX2_computeMac_29 15 rfl rfl)
theorem dX2_computeMac_697 : decode cX2_computeMac 697 = .ok (.lshr, 1) := dk_123 (dk_at dksX2_computeMac_29 17 rfl rfl)
theorem dX2_computeMac_698 : decode cX2_computeMac 698 = .ok (.lstore 22, 2) := dk_55 22 (dk_at dksX2_computeMac_29 18 rfl rfl)
theorem dX2_computeMac_700 : decode cX2_computeMac 700 = .ok (.lload 49, 2) := dk_22 49 (dk_at dksX2_computeMac_29 20 rfl rfl)
theorem dX2_computeMac_702 : decode cX2_computeMac 702 = .ok (.ldc2_w 9, 3) := dk_20 0 9 (dk_at dksX2_computeMac_30 0 rfl rfl)
theorem dX2_computeMac_705 : decode cX2_computeMac 705 = .ok (.land, 1) := dk_127 (dk_at dksX2_computeMac_30 3 rfl rfl)
theorem dX2_computeMac_706 : decode cX2_computeMac 706 = .ok (.lstore 49, 2) := dk_55 49 (dk_at dksX2_computeMac_30 4 rfl rfl)
theorem dX2_computeMac_708 : decode cX2_computeMac 708 = .ok (.lload 10, 2) := dk_22 10 (dk_at dksX2_computeMac_30 6 rfl rfl)
theorem dX2_computeMac_710 : decode cX2_computeMac 710 = .ok (.lload 22, 2) := dk_22 22 (dk_at dksX2_computeMac_30 8 rfl rfl)
theorem dX2_computeMac_712 : decode cX2_computeMac 712 = .ok (.ladd, 1) := dk_97 (dk_at dksX2_computeMac_30 10 rfl rfl)
theorem dX2_computeMac_713 : decode cX2_computeMac 713 = .ok (.ldc2_w 57, 3) := dk_20 0 57 (dk_at dksX2_computeMac_30 11 rfl rfl)
theorem dX2_computeMac_716 : decode cX2_computeMac 716 = .ok (.lsub, 1) := dk_101 (dk_at dksX2_computeMac_30 14 rfl rfl)
theorem dX2_computeMac_717 : decode cX2_computeMac 717 = .ok (.lstore 51, 2) := dk_55 51 (dk_at dksX2_computeMac_30 15 rfl rfl)
theorem dX2_computeMac_719 : decode cX2_computeMac 719 = .ok (.lload 51, 2) := dk_22 51 (dk_at dksX2_computeMac_30 17 rfl rfl)
theorem dX2_computeMac_721 : decode cX2_computeMac 721 = .ok (.bipush 63, 2) := dk_16 63 (dk_at dksX2_computeMac_30 19 rfl rfl)
theorem dX2_computeMac_723 : decode cX2_computeMac 723 = .ok (.lshr, 1) := dk_123 (dk_at dksX2_computeMac_30 21 rfl rfl)
theorem dX2_computeMac_724 : decode cX2_computeMac 724 = .ok (.lstore 53, 2) := dk_55 53 (dk_at dksX2_computeMac_30 22 rfl rfl)
theorem dX2_computeMac_726 : decode cX2_computeMac 726 = .ok (.lload_n 2, 1) := dk_32 (dk_at dksX2_computeMac_31 0 rfl rfl)
theorem dX2_computeMac_727 : decode cX2_computeMac 727 = .ok (.lload 53, 2) := dk_22 53 (dk_at dksX2_computeMac_31 1 rfl rfl)
theorem dX2_computeMac_729 : decode cX2_computeMac 729 = .ok (.land, 1) := dk_127 (dk_at dksX2_computeMac_31 3 rfl rfl)
theorem dX2_computeMac_730 : decode cX2_computeMac 730 = .ok (.lstore_n 2, 1) := dk_65 (dk_at dksX2_computeMac_31 4 rfl rfl)
theorem dX2_computeMac_731 : decode cX2_computeMac 731 = .ok (.lload 4, 2) := dk_22 4 (dk_at dksX2_computeMac_31 5 rfl rfl)
theorem dX2_computeMac_733 : decode cX2_computeMac 733 = .ok (.lload 53, 2) := dk_22 53 (dk_at dksX2_computeMac_31 7 rfl rfl)
theorem dX2_computeMac_735 : decode cX2_computeMac 735 = .ok (.land, 1) := dk_127 (dk_at dksX2_computeMac_31 9 rfl rfl)
theorem dX2_computeMac_736 : decode cX2_computeMac 736 = .ok (.lstore 4, 2) := dk_55 4 (dk_at dksX2_computeMac_31 10 rfl rfl)
theorem dX2_computeMac_738 : decode cX2_computeMac 738 = .ok (.lload 6, 2) := dk_22 6 (dk_at dksX2_computeMac_31 12 rfl rfl)
theorem dX2_computeMac_740 : decode cX2_computeMac 740 = .ok (.lload 53, 2) := dk_22 53 (dk_at dksX2_computeMac_31 14 rfl rfl)
theorem dX2_computeMac_742 : decode cX2_computeMac 742 = .ok (.land, 1) := dk_127 (dk_at dksX2_computeMac_31 16 rfl rfl)
theorem dX2_computeMac_743 : decode cX2_computeMac 743 = .ok (.lstore 6, 2) := dk_55 6 (dk_at dksX2_computeMac_31 17 rfl rfl)
theorem dX2_computeMac_745 : decode cX2_computeMac 745 = .ok (.lload 8, 2) := dk_22 8 (dk_at dksX2_computeMac_31 19 rfl rfl)
theorem dX2_computeMac_747 : decode cX2_computeMac 747 = .ok (.lload 53, 2) := dk_22 53 (dk_at dksX2_computeMac_31 21 rfl rfl)
theorem dX2_computeMac_749 : decode cX2_computeMac 749 = .ok (.land, 1) := dk_127 (dk_at dksX2_computeMac_31 23 rfl rfl)
theorem dX2_computeMac_750 : decode cX2_computeMac 750 = .ok (.lstore 8, 2) := dk_55 8 (dk_at dksX2_computeMac_32 0 rfl rfl)
theorem dX2_computeMac_752 : decode cX2_computeMac 752 = .ok (.lload 10, 2) := dk_22 10 (dk_at dksX2_computeMac_32 2 rfl rfl)
theorem dX2_computeMac_754 : decode cX2_computeMac 754 = .ok (.lload 53, 2) := dk_22 53 (dk_at dksX2_computeMac_32 4 rfl rfl)
theorem dX2_computeMac_756 : decode cX2_computeMac 756 = .ok (.land, 1) := dk_127 (dk_at dksX2_computeMac_32 6 rfl rfl)
theorem dX2_computeMac_757 : decode cX2_computeMac 757 = .ok (.lstore 10, 2) := dk_55 10 (dk_at dksX2_computeMac_32 7 rfl rfl)
theorem dX2_computeMac_759 : decode cX2_computeMac 759 = .ok (.lload 53, 2) := dk_22 53 (dk_at dksX2_computeMac_32 9 rfl rfl)
theorem dX2_computeMac_761 : decode cX2_computeMac 761 = .ok (.ldc2_w 59, 3) := dk_20 0 59 (dk_at dksX2_computeMac_32 11 rfl rfl)
theorem dX2_computeMac_764 : decode cX2_computeMac 764 = .ok (.lxor, 1) := dk_131 (dk_at dksX2_computeMac_32 14 rfl rfl)
theorem dX2_computeMac_765 : decode cX2_computeMac 765 = .ok (.lstore 53, 2) := dk_55 53 (dk_at dksX2_computeMac_32 15 rfl rfl)
theorem dX2_computeMac_767 : decode cX2_computeMac 767 = .ok (.lload_n 2, 1) := dk_32 (dk_at dksX2_computeMac_32 17 rfl rfl)
theorem dX2_computeMac_768 : decode cX2_computeMac 768 = .ok (.lload 43, 2) := dk_22 43 (dk_at dksX2_computeMac_32 18 rfl rfl)
theorem dX2_computeMac_770 : decode cX2_computeMac 770 = .ok (.lload 53, 2) := dk_22 53 (dk_at dksX2_computeMac_32 20 rfl rfl)
theorem dX2_computeMac_772 : decode cX2_computeMac 772 = .ok (.land, 1) := dk_127 (dk_at dksX2_computeMac_32 22 rfl rfl)
theorem dX2_computeMac_773 : decode cX2_computeMac 773 = .ok (.lor, 1) := dk_129 (dk_at dksX2_computeMac_32 23 rfl rfl)
theorem dX2_computeMac_774 : decode cX2_computeMac 774 = .ok (.lstore_n 2, 1) := dk_65 (dk_at dksX2_computeMac_33 0 rfl rfl)
theorem dX2_computeMac_775 : decode cX2_computeMac 775 = .ok (.lload 4, 2) := dk_22 4 (dk_at dksX2_computeMac_33 1 rfl rfl)
theorem dX2_computeMac_777 : decode cX2_computeMac 777 = .ok (.lload 45, 2) := dk_22 45 (dk_at dksX2_computeMac_33 3 rfl rfl)
theorem dX2_computeMac_779 : decode cX2_computeMac 779 = .ok (.lload 53, 2) := dk_22 53 (dk_at dksX2_computeMac_33 5 rfl rfl)
theorem dX2_computeMac_781 : decode cX2_computeMac 781 = .ok (.land, 1) := dk_127 (dk_at dksX2_computeMac_33 7 rfl rfl)
theorem dX2_computeMac_782 : decode cX2_computeMac 782 = .ok (.lor, 1) := dk_129 (dk_at dksX2_computeMac_33 8 rfl rfl)
theorem dX2_computeMac_783 : decode cX2_computeMac 783 = .ok (.lstore 4, 2) := dk_55 4 (dk_at dksX2_computeMac_33 9 rfl rfl)
theorem dX2_computeMac_785 : decode cX2_computeMac 785 = .ok (.lload 6, 2) := dk_22 6 (dk_at dksX2_computeMac_33 11 rfl rfl)
theorem dX2_computeMac_787 : decode cX2_computeMac 787 = .ok (.lload 47, 2) := dk_22 47 (dk_at dksX2_computeMac_33 13 rfl rfl)
theorem dX2_computeMac_789 : decode cX2_computeMac 789 = .ok (.lload 53, 2) := dk_22 53 (dk_at dksX2_computeMac_33 15 rfl rfl)
theorem dX2_computeMac_791 : decode cX2_computeMac 791 = .ok (.land, 1) := dk_127 (dk_at dksX2_computeMac_33 17 rfl rfl)
theorem dX2_computeMac_792 : decode cX2_computeMac 792 = .ok (.lor, 1) := dk_129 (dk_at dksX2_computeMac_33 18 rfl rfl)
theorem dX2_computeMac_793 : decode cX2_computeMac 793 = .ok (.lstore 6, 2) := dk_55 6 (dk_at dksX2_computeMac_33 19 rfl rfl)
theorem dX2_computeMac_795 : decode cX2_computeMac 795 = .ok (.lload 8, 2) := dk_22 8 (dk_at dksX2_computeMac_33 21 rfl rfl)
theorem dX2_computeMac_797 : decode cX2_computeMac 797 = .ok (.lload 49, 2) := dk_22 49 (dk_at dksX2_computeMac_34 0 rfl rfl)
theorem dX2_computeMac_799 : decode cX2_computeMac 799 = .ok (.lload 53, 2) := dk_22 53 (dk_at dksX2_computeMac_34 2 rfl rfl)
theorem dX2_computeMac_801 : decode cX2_computeMac 801 = .ok (.land, 1) := dk_127 (dk_at dksX2_computeMac_34 4 rfl rfl)
theorem dX2_computeMac_802 : decode cX2_computeMac 802 = .ok (.lor, 1) := dk_129 (dk_at dksX2_computeMac_34 5 rfl rfl)
theorem dX2_computeMac_803 : decode cX2_computeMac 803 = .ok (.lstore 8, 2) := dk_55 8 (dk_at dksX2_computeMac_34 6 rfl rfl)
theorem dX2_computeMac_805 : decode cX2_computeMac 805 = .ok (.lload 10, 2) := dk_22 10 (dk_at dksX2_computeMac_34 8 rfl rfl)
theorem dX2_computeMac_807 : decode cX2_computeMac 807 = .ok (.lload 51, 2) := dk_22 51 (dk_at dksX2_computeMac_34 10 rfl rfl)
theorem dX2_computeMac_809 : decode cX2_computeMac 809 = .ok (.lload 53, 2) := dk_22 53 (dk_at dksX2_computeMac_34 12 rfl rfl)
theorem dX2_computeMac_811 : decode cX2_computeMac 811 = .ok (.land, 1) := dk_127 (dk_at dksX2_computeMac_34 14 rfl rfl)
theorem dX2_computeMac_812 : decode cX2_computeMac 812 = .ok (.lor, 1) := dk_129 (dk_at dksX2_computeMac_34 15 rfl rfl)
theorem dX2_computeMac_813 : decode cX2_computeMac 813 = .ok (.lstore 10, 2) := dk_55 10 (dk_at dksX2_computeMac_34 16 rfl rfl)
theorem dX2_computeMac_815 : decode cX2_computeMac 815 = .ok (.lload_n 2, 1) := dk_32 (dk_at dksX2_computeMac_34 18 rfl rfl)
theorem dX2_computeMac_816 : decode cX2_computeMac 816 = .ok (.lload 4, 2) := dk_22 4 (dk_at dksX2_computeMac_34 19 rfl rfl)
theorem dX2_computeMac_818 : decode cX2_computeMac 818 = .ok (.bipush 26, 2) := dk_16 26 (dk_at dksX2_computeMac_34 21 rfl rfl)
theorem dX2_computeMac_820 : decode cX2_computeMac 820 = .ok (.lshl, 1) := dk_121 (dk_at dksX2_computeMac_34 23 rfl rfl)
theorem dX2_computeMac_821 : decode cX2_computeMac 821 = .ok (.lor, 1) := dk_129 (dk_at dksX2_computeMac_35 0 rfl rfl)
theorem dX2_computeMac_822 : decode cX2_computeMac 822 = .ok (.ldc2_w 1, 3) := dk_20 0 1 (dk_at dksX2_computeMac_35 1 rfl rfl)
theorem dX2_computeMac_825 : decode cX2_computeMac 825 = .ok (.land, 1) := dk_127 (dk_at dksX2_computeMac_35 4 rfl rfl)
theorem dX2_computeMac_826 : decode cX2_computeMac 826 = .ok (.lstore_n 2, 1) := dk_65 (dk_at dksX2_computeMac_35 5 rfl rfl)
theorem dX2_computeMac_827 : decode cX2_computeMac 827 = .ok (.lload 4, 2) := dk_22 4 (dk_at dksX2_computeMac_35 6 rfl rfl)
theorem dX2_computeMac_829 : decode cX2_computeMac 829 = .ok (.bipush 6, 2) := dk_16 6 (dk_at dksX2_computeMac_35 8 rfl rfl)
theorem dX2_computeMac_831 : decode cX2_computeMac 831 = .ok (.lshr, 1) := dk_123 (dk_at dksX2_computeMac_35 10 rfl rfl)
theorem dX2_computeMac_832 : decode cX2_computeMac 832 = .ok (.lload 6, 2) := dk_22 6 (dk_at dksX2_computeMac_35 11 rfl rfl)
theorem dX2_computeMac_834 : decode cX2_computeMac 834 = .ok (.bipush 20, 2) := dk_16 20 (dk_at dksX2_computeMac_35 13 rfl rfl)
theorem dX2_computeMac_836 : decode cX2_computeMac 836 = .ok (.lshl, 1) := dk_121 (dk_at dksX2_computeMac_35 15 rfl rfl)
theorem dX2_computeMac_837 : decode cX2_computeMac 837 = .ok (.lor, 1) := dk_129 (dk_at dksX2_computeMac_35 16 rfl rfl)
theorem dX2_computeMac_838 : decode cX2_computeMac 838 = .ok (.ldc2_w 1, 3) := dk_20 0 1 (dk_at dksX2_computeMac_35 17 rfl rfl)
theorem dX2_computeMac_841 : decode cX2_computeMac 841 = .ok (.land, 1) := dk_127 (dk_at dksX2_computeMac_35 20 rfl rfl)
theorem dX2_computeMac_842 : decode cX2_computeMac 842 = .ok (.lstore 4, 2) := dk_55 4 (dk_at dksX2_computeMac_35 21 rfl rfl)
theorem dX2_computeMac_844 : decode cX2_computeMac 844 = .ok (.lload 6, 2) := dk_22 6 (dk_at dksX2_computeMac_36 0 rfl rfl)
theorem dX2_computeMac_846 : decode cX2_computeMac 846 = .ok (.bipush 12, 2) := dk_16 12 (dk_at dksX2_computeMac_36 2 rfl rfl)
theorem dX2_computeMac_848 : decode cX2_computeMac 848 = .ok (.lshr, 1) := dk_123 (dk_at dksX2_computeMac_36 4 rfl rfl)
theorem dX2_computeMac_849 : decode cX2_computeMac 849 = .ok (.lload 8, 2) := dk_22 8 (dk_at dksX2_computeMac_36 5 rfl rfl)
theorem dX2_computeMac_851 : decode cX2_computeMac 851 = .ok (.bipush 14, 2) := dk_16 14 (dk_at dksX2_computeMac_36 7 rfl rfl)
theorem dX2_computeMac_853 : decode cX2_computeMac 853 = .ok (.lshl, 1) := dk_121 (dk_at dksX2_computeMac_36 9 rfl rfl)
theorem dX2_computeMac_854 : decode cX2_computeMac 854 = .ok (.lor, 1) := dk_129 (dk_at dksX2_computeMac_36 10 rfl rfl)
theorem dX2_computeMac_855 : decode cX2_computeMac 855 = .ok (.ldc2_w 1, 3) := dk_20 0 1 (dk_at dksX2_computeMac_36 11 rfl rfl)
theorem dX2_computeMac_858 : decode cX2_computeMac 858 = .ok (.land, 1) := dk_127 (dk_at dksX2_computeMac_36 14 rfl rfl)
theorem dX2_computeMac_859 : decode cX2_computeMac 859 = .ok (.lstore 6, 2) := dk_55 6 (dk_at dksX2_computeMac_36 15 rfl rfl)
theorem dX2_computeMac_861 : decode cX2_computeMac 861 = .ok (.lload 8, 2) := dk_22 8 (dk_at dksX2_computeMac_36 17 rfl rfl)
theorem dX2_computeMac_863 : decode cX2_computeMac 863 = .ok (.bipush 18, 2) := dk_16 18 (dk_at dksX2_computeMac_36 19 rfl rfl)
theorem dX2_computeMac_865 : decode cX2_computeMac 865 = .ok (.lshr, 1) := dk_123 (dk_at dksX2_computeMac_36 21 rfl rfl)
theorem dX2_computeMac_866 : decode cX2_computeMac 866 = .ok (.lload 10, 2) := dk_22 10 (dk_at dksX2_computeMac_36 22 rfl rfl)
theorem dX2_computeMac_868 : decode cX2_computeMac 868 = .ok (.bipush 8, 2) := dk_16 8 (dk_at dksX2_computeMac_37 0 rfl rfl)
theorem dX2_computeMac_870 : decode cX2_computeMac 870 = .ok (.lshl, 1) := dk_121 (dk_at dksX2_computeMac_37 2 rfl rfl)
theorem dX2_computeMac_871 : decode cX2_computeMac 871 = .ok (.lor, 1) := dk_129 (dk_at dksX2_computeMac_37 3 rfl rfl)
theorem dX2_computeMac_872 : decode cX2_computeMac 872 = .ok (.ldc2_w 1, 3) := dk_20 0 1 (dk_at dksX2_computeMac_37 4 rfl rfl)
theorem dX2_computeMac_875 : decode cX2_computeMac 875 = .ok (.land, 1) := dk_127 (dk_at dksX2_computeMac_37 7 rfl rfl)
theorem dX2_computeMac_876 : decode cX2_computeMac 876 = .ok (.lstore 8, 2) := dk_55 8 (dk_at dksX2_computeMac_37 8 rfl rfl)
theorem dX2_computeMac_878 : decode cX2_computeMac 878 = .ok (.lload_n 2, 1) := dk_32 (dk_at dksX2_computeMac_37 10 rfl rfl)
theorem dX2_computeMac_879 : decode cX2_computeMac 879 = .ok (.aload_n 0, 1) := dk_42 (dk_at dksX2_computeMac_37 11 rfl rfl)
theorem dX2_computeMac_880 : decode cX2_computeMac 880 = .ok (.bipush 16, 2) := dk_16 16 (dk_at dksX2_computeMac_37 12 rfl rfl)
theorem dX2_computeMac_882 : decode cX2_computeMac 882 = .ok (.invokestatic 3, 3) := dk_184 0 3 (dk_at dksX2_computeMac_37 14 rfl rfl)
theorem dX2_computeMac_885 : decode cX2_computeMac 885 = .ok (.ladd, 1) := dk_97 (dk_at dksX2_computeMac_37 17 rfl rfl)
theorem dX2_computeMac_886 : decode cX2_computeMac 886 = .ok (.lstore 22, 2) := dk_55 22 (dk_at dksX2_computeMac_37 18 rfl rfl)
theorem dX2_computeMac_888 : decode cX2_computeMac 888 = .ok (.lload 22, 2) := dk_22 22 (dk_at dksX2_computeMac_37 20 rfl rfl)
theorem dX2_computeMac_890 : decode cX2_computeMac 890 = .ok (.ldc2_w 1, 3) := dk_20 0 1 (dk_at dksX2_computeMac_38 0 rfl rfl)
theorem dX2_computeMac_893 : decode cX2_computeMac 893 = .ok (.land, 1) := dk_127 (dk_at dksX2_computeMac_38 3 rfl rfl)
theorem dX2_computeMac_894 : decode cX2_computeMac 894 = .ok (.lstore_n 2, 1) := dk_65 (dk_at dksX2_computeMac_38 4 rfl rfl)
theorem dX2_computeMac_895 : decode cX2_computeMac 895 = .ok (.lload 4, 2) := dk_22 4 (dk_at dksX2_computeMac_38 5 rfl rfl)
theorem dX2_computeMac_897 : decode cX2_computeMac 897 = .ok (.aload_n 0, 1) := dk_42 (dk_at dksX2_computeMac_38 7 rfl rfl)
theorem dX2_computeMac_898 : decode cX2_computeMac 898 = .ok (.bipush 20, 2) := dk_16 20 (dk_at dksX2_computeMac_38 8 rfl rfl)
theorem dX2_computeMac_900 : decode cX2_computeMac 900 = .ok (.invokestatic 3, 3) := dk_184 0 3 (dk_at dksX2_computeMac_38 10 rfl rfl)
theorem dX2_computeMac_903 : decode cX2_computeMac 903 = .ok (.ladd, 1) := dk_97 (dk_at dksX2_computeMac_38 13 rfl rfl)
theorem dX2_computeMac_904 : decode cX2_computeMac 904 = .ok (.lload 22, 2) := dk_22 22 (dk_at dksX2_computeMac_38 14 rfl rfl)
theorem dX2_computeMac_906 : decode cX2_computeMac 906 = .ok (.bipush 32, 2) := dk_16 32 (dk_at dksX2_computeMac_38 16 rfl rfl)
theorem dX2_computeMac_908 : decode cX2_computeMac 908 = .ok (.lshr, 1) := dk_123 (dk_at dksX2_computeMac_38 18 rfl rfl)
theorem dX2_computeMac_909 : decode cX2_computeMac 909 = .ok (.ladd, 1) := dk_97 (dk_at dksX2_computeMac_38 19 rfl rfl)
theorem dX2_computeMac_910 : decode cX2_computeMac 910 = .ok (.lstore 22, 2) := dk_55 22 (dk_at dksX2_computeMac_38 20 rfl rfl)
theorem dX2_computeMac_912 : decode cX2_computeMac 912 = .ok (.lload 22, 2) := dk_22 22 (dk_at dksX2_computeMac_38 22 rfl rfl)
theorem dX2_computeMac_914 : decode cX2_computeMac 914 = .ok (.ldc2_w 1, 3) := dk_20 0 1 (dk_at dksX2_computeMac_39 0 rfl rfl)
theorem dX2_computeMac_917 : decode cX2_computeMac 917 = .ok (.land, 1) := dk_127 (dk_at dksX2_computeMac_39 3 rfl rfl)
theorem dX2_computeMac_918 : decode cX2_computeMac 918 = .ok (.lstore 4, 2) := dk_55 4 (dk_at dksX2_computeMac_39 4 rfl rfl)
theorem dX2_computeMac_920 : decode cX2_computeMac 920 = .ok (.lload 6, 2) := dk_22 6 (dk_at dksX2_computeMac_39 6 rfl rfl)
theorem dX2_computeMac_922 : decode cX2_computeMac 922 = .ok (.aload_n 0, 1) := dk_42 (dk_at dksX2_computeMac_39 8 rfl rfl)
theorem dX2_computeMac_923 : decode cX2_computeMac 923 = .ok (.bipush 24, 2) := dk_16 24 (dk_at dksX2_computeMac_39 9 rfl rfl)
theorem dX2_computeMac_925 : decode cX2_computeMac 925 = .ok (.invokestatic 3, 3) := dk_184 0 3 (dk_at dksX2_computeMac_39 11 rfl rfl)
theorem dX2_computeMac_928 : decode cX2_computeMac 928 = .ok (.ladd, 1) := dk_97 (dk_at dksX2_computeMac_39 14 rfl rfl)
theorem dX2_computeMac_929 : decode cX2_computeMac 929 = .ok (.lload 22, 2) := dk_22 22 (dk_at dksX2_computeMac_39 15 rfl rfl)
theorem dX2_computeMac_931 : decode cX2_computeMac 931 = .ok (.bipush 32, 2) := dk_16 32 (dk_at dksX2_computeMac_39 17 rfl rfl)
theorem dX2_computeMac_933 : decode cX2_computeMac 933 = .ok (.lshr, 1) := dk_123 (dk_at dksX2_computeMac_39 19 rfl rfl)
theorem dX2_computeMac_934 : decode cX2_computeMac 934 = .ok (.ladd, 1) := dk_97 (dk_at dksX2_computeMac_39 20 rfl rfl)
theorem dX2_computeMac_935 : decode cX2_computeMac 935 = .ok (.lstore 22, 2) := dk_55 22 (dk_at dksX2_computeMac_39 21 rfl rfl)
theorem dX2_computeMac_937 : decode cX2_computeMac 937 = .ok (.lload 22, 2) := dk_22 22 (dk_at dksX2_computeMac_40 0 rfl rfl)
theorem dX2_computeMac_939 : decode cX2_computeMac 939 = .ok (.ldc2_w 1, 3) := dk_20 0 1 (dk_at dksX2_computeMac_40 2 rfl rfl)
theorem dX2_computeMac_942 : decode cX2_computeMac 942 = .ok (.land, 1) := dk_127 (dk_at dksX2_computeMac_40 5 rfl rfl)
theorem dX2_computeMac_943 : decode cX2_computeMac 943 = .ok (.lstore 6, 2) := dk_55 6 (dk_at dksX2_computeMac_40 6 rfl rfl)
theorem dX2_computeMac_945 : decode cX2_computeMac 945 = .ok (.lload 8, 2) := dk_22 8 (dk_at dksX2_computeMac_40 8 rfl rfl)
theorem dX2_computeMac_947 : decode cX2_computeMac 947 = .ok (.aload_n 0, 1) := dk_42 (dk_at dksX2_computeMac_40 10 rfl rfl)
theorem dX2_computeMac_948 : decode cX2_computeMac 948 = .ok (.bipush 28, 2) := dk_16 28 (dk_at dksX2_computeMac_40 11 rfl rfl)
theorem dX2_computeMac_950 : decode cX2_computeMac 950 = .ok (.invokestatic 3, 3) := dk_184 0 3 (dk_at dksX2_computeMac_40 13 rfl rfl)
theorem dX2_computeMac_953 : decode cX2_computeMac 953 = .ok (.ladd, 1) := dk_97 (dk_at dksX2_computeMac_40 16 rfl rfl)
theorem dX2_computeMac_954 : decode cX2_computeMac 954 = .ok (.lload 22, 2) := dk_22 22 (dk_at dksX2_computeMac_40 17 rfl rfl)
theorem dX2_computeMac_956 : decode cX2_computeMac 956 = .ok (.bipush 32, 2) := dk_16 32 (dk_at dksX2_computeMac_40 19 rfl rfl)
theorem dX2_computeMac_958 : decode cX2_computeMac 958 = .ok (.lshr, 1) := dk_123 (dk_at dksX2_computeMac_40 21 rfl rfl)
theorem dX2_computeMac_959 : decode cX2_computeMac 959 = .ok (.ladd, 1) := dk_97 (dk_at dksX2_computeMac_40 22 rfl rfl)
theorem dX2_computeMac_960 : decode cX2_computeMac 960 = .ok (.lstore 22, 2) := dk_55 22 (dk_at dksX2_computeMac_41 0 rfl rfl)
theorem dX2_computeMac_962 : decode cX2_computeMac 962 = .ok (.lload 22, 2) := dk_22 22 (dk_at dksX2_computeMac_41 2 rfl rfl)
theorem dX2_computeMac_964 : decode cX2_computeMac 964 = .ok (.ldc2_w 1, 3) := dk_20 0 1 (dk_at dksX2_computeMac_41 4 rfl rfl)
theorem dX2_computeMac_967 : decode cX2_computeMac 967 = .ok (.land, 1) := dk_127 (dk_at dksX2_computeMac_41 7 rfl rfl)
theorem dX2_computeMac_968 : decode cX2_computeMac 968 = .ok (.lstore 8, 2) := dk_55 8 (dk_at dksX2_computeMac_41 8 rfl rfl)
theorem dX2_computeMac_970 : decode cX2_computeMac 970 = .ok (.bipush 16, 2) := dk_16 16 (dk_at dksX2_computeMac_41 10 rfl rfl)
theorem dX2_computeMac_972 : decode cX2_computeMac 972 = .ok (.newarray .byte, 2) := dk_188_8 (dk_at dksX2_computeMac_41 12 rfl rfl)
theorem dX2_computeMac_974 : decode cX2_computeMac 974 = .ok (.astore 55, 2) := dk_58 55 (dk_at dksX2_computeMac_41 14 rfl rfl)
theorem dX2_computeMac_976 : decode cX2_computeMac 976 = .ok (.aload 55, 2) := dk_25 55 (dk_at dksX2_computeMac_41 16 rfl rfl)
theorem dX2_computeMac_978 : decode cX2_computeMac 978 = .ok (.lload_n 2, 1) := dk_32 (dk_at dksX2_computeMac_41 18 rfl rfl)
theorem dX2_computeMac_979 : decode cX2_computeMac 979 = .ok (.iconst 0, 1) := dk_3 (dk_at dksX2_computeMac_41 19 rfl rfl)
theorem dX2_computeMac_980 : decode cX2_computeMac 980 = .ok (.invokestatic 61, 3) := dk_184 0 61 (dk_at dksX2_computeMac_41 20 rfl rfl)
theorem dX2_computeMac_983 : decode cX2_computeMac 983 = .ok (.aload 55, 2) := dk_25 55 (dk_at dksX2_computeMac_42 0 rfl rfl)
theorem dX2_computeMac_985 : decode cX2_computeMac 985 = .ok (.lload 4, 2) := dk_22 4 (dk_at dksX2_computeMac_42 2 rfl rfl)
theorem dX2_computeMac_987 : decode cX2_computeMac 987 = .ok (.iconst 4, 1) := dk_7 (dk_at dksX2_computeMac_42 4 rfl rfl)
theorem dX2_computeMac_988 : decode cX2_computeMac 988 = .ok (.invokestatic 61, 3) := dk_184 0 61 (dk_at dksX2_computeMac_42 5 rfl rfl)
theorem dX2_computeMac_991 : decode cX2_computeMac 991 = .ok (.aload 55, 2) := dk_25 55 (dk_at dksX2_computeMac_42 8 rfl rfl)
theorem dX2_computeMac_993 : decode cX2_computeMac 993 = .ok (.lload 6, 2) := dk_22 6 (dk_at dksX2_computeMac_42 10 rfl rfl)
theorem dX2_computeMac_995 : decode cX2_computeMac 995 = .ok (.bipush 8, 2) := dk_16 8 (dk_at dksX2_computeMac_42 12 rfl rfl)
theorem dX2_computeMac_997 : decode cX2_computeMac 997 = .ok (.invokestatic 61, 3) := dk_184 0 61 (dk_at dksX2_computeMac_42 14 rfl rfl)
theorem dX2_computeMac_1000 : decode cX2_computeMac 1000 = .ok (.aload 55, 2) := dk_25 55 (dk_at dksX2_computeMac_42 17 rfl rfl)
theorem dX2_computeMac_1002 : decode cX2_computeMac 1002 = .ok (.lload 8, 2) := dk_22 8 (dk_at dksX2_computeMac_42 19 rfl rfl)
theorem dX2_computeMac_1004 : decode cX2_computeMac 1004 = .ok (.bipush 12, 2) := dk_16 12 (dk_at dksX2_computeMac_42 21 rfl rfl)
theorem dX2_computeMac_1006 : decode cX2_computeMac 1006 = .ok (.invokestatic 61, 3) := dk_184 0 61 (dk_at dksX2_computeMac_43 0 rfl rfl)
theorem dX2_computeMac_1009 : decode cX2_computeMac 1009 = .ok (.aload 55, 2) := dk_25 55 (dk_at dksX2_computeMac_43 3 rfl rfl)
theorem dX2_computeMac_1011 : decode cX2_computeMac 1011 = .ok (.areturn, 1) := dk_176 (dk_at dksX2_computeMac_43 5 rfl rfl)
abbrev cX2_load26 : ByteArray := prog_4_method_2_code
def yX2_load26 : MethodName := ⟨RX2, "load26", "([BII)J"⟩
def dkwX2_load26_0 : List UInt8 := [42, 27, 184, 0, 3, 28, 123, 20, 0, 9, 127, 173]
abbrev dktX2_load26_0 : List UInt8 := dkwX2_load26_0 ++ []
theorem dksX2_load26_0 : cX2_load26.data.toList.drop 0 = dktX2_load26_0 := by decide +kernel
theorem dX2_load26_0 : decode cX2_load26 0 = .ok (.aload_n 0, 1) := dk_42 (dk_at dksX2_load26_0 0 rfl rfl)
theorem dX2_load26_1 : decode cX2_load26 1 = .ok (.iload_n 1, 1) := dk_27 (dk_at dksX2_load26_0 1 rfl rfl)
theorem dX2_load26_2 : decode cX2_load26 2 = .ok (.invokestatic 3, 3) := dk_184 0 3 (dk_at dksX2_load26_0 2 rfl rfl)
theorem dX2_load26_5 : decode cX2_load26 5 = .ok (.iload_n 2, 1) := dk_28 (dk_at dksX2_load26_0 5 rfl rfl)
theorem dX2_load26_6 : decode cX2_load26 6 = .ok (.lshr, 1) := dk_123 (dk_at dksX2_load26_0 6 rfl rfl)
theorem dX2_load26_7 : decode cX2_load26 7 = .ok (.ldc2_w 9, 3) := dk_20 0 9 (dk_at dksX2_load26_0 7 rfl rfl)
theorem dX2_load26_10 : decode cX2_load26 10 = .ok (.land, 1) := dk_127 (dk_at dksX2_load26_0 10 rfl rfl)
theorem dX2_load26_11 : decode cX2_load26 11 = .ok (.lreturn, 1) := dk_173 (dk_at dksX2_load26_0 11 rfl rfl)
abbrev cX2_load32 : ByteArray := prog_4_method_1_code
def yX2_load32 : MethodName := ⟨RX2, "load32", "([BI)J"⟩
def dkwX2_load32_2 : List UInt8 := [20, 0, 1, 127, 173]
abbrev dktX2_load32_2 : List UInt8 := dkwX2_load32_2 ++ []
def dkwX2_load32_1 : List UInt8 := [51, 17, 0, 255, 126, 16, 16, 120, 128, 42, 27, 6, 96, 51, 17, 0, 255, 126, 16, 24, 120, 128, 133]
abbrev dktX2_load32_1 : List UInt8 := dkwX2_load32_1 ++ dktX2_load32_2
def dkwX2_load32_0 : List UInt8 := [42, 27, 51, 17, 0, 255, 126, 42, 27, 4, 96, 51, 17, 0, 255, 126, 16, 8, 120, 128, 42, 27, 5, 96]
abbrev dktX2_load32_0 : List UInt8 := dkwX2_load32_0 ++ dktX2_load32_1
theorem dksX2_load32_0 : cX2_load32.data.toList.drop 0 = dktX2_load32_0 := by decide +kernel
theorem dksX2_load32_1 : cX2_load32.data.toList.drop 24 = dktX2_load32_1 := dk_seg dksX2_load32_0 24 rfl rfl
theorem dksX2_load32_2 : cX2_load32.data.toList.drop 47 = dktX2_load32_2 := dk_seg dksX2_load32_1 23 rfl rfl
theorem dX2_load32_0 : decode cX2_load32 0 = .ok (.aload_n 0, 1) := dk_42 (dk_at dksX2_load32_0 0 rfl rfl)
theorem dX2_load32_1 : decode cX2_load32 1 = .ok (.iload_n 1, 1) := dk_27 (dk_at dksX2_load32_0 1 rfl rfl)
theorem dX2_load32_2 : decode cX2_load32 2 = .ok (.baload, 1) := dk_51 (dk_at dksX2_load32_0 2 rfl rfl)
theorem dX2_load32_3 : decode cX2_load32 3 = .ok (.sipush 255, 3) := dk_17 0 255 (dk_at dksX2_load32_0 3 rfl rfl)
theorem dX2_load32_6 : decode cX2_load32 6 = .ok (.iand, 1) := dk_126 (dk_at dksX2_load32_0 6 rfl rfl)
theorem dX2_load32_7 : decode cX2_load32 7 = .ok (.aload_n 0, 1) := dk_42 (dk_at dksX2_load32_0 7 rfl rfl)
theorem dX2_load32_8 : decode cX2_load32 8 = .ok (.iload_n 1, 1) := dk_27 (dk_at dksX2_load32_0 8 rfl rfl)
theorem dX2_load32_9 : decode cX2_load32 9 = .ok (.iconst 1, 1) := dk_4 (dk_at dksX2_load32_0 9 rfl rfl)
theorem dX2_load32_10 : decode cX2_load32 10 = .ok (.iadd, 1) := dk_96 (dk_at dksX2_load32_0 10 rfl rfl)
theorem dX2_load32_11 : decode cX2_load32 11 = .ok (.baload, 1) := dk_51 (dk_at dksX2_load32_0 11 rfl rfl)
theorem dX2_load32_12 : decode cX2_load32 12 = .ok (.sipush 255, 3) := dk_17 0 255 (dk_at dksX2_load32_0 12 rfl rfl)
theorem dX2_load32_15 : decode cX2_load32 15 = .ok (.iand, 1) := dk_126 (dk_at dksX2_load32_0 15 rfl rfl)
theorem dX2_load32_16 : decode cX2_load32 16 = .ok (.bipush 8, 2) := dk_16 8 (dk_at dksX2_load32_0 16 rfl rfl)
theorem dX2_load32_18 : decode cX2_load32 18 = .ok (.ishl, 1) := dk_120 (dk_at dksX2_load32_0 18 rfl rfl)
theorem dX2_load32_19 : decode cX2_load32 19 = .ok (.ior, 1) := dk_128 (dk_at dksX2_load32_0 19 rfl rfl)
theorem dX2_load32_20 : decode cX2_load32 20 = .ok (.aload_n 0, 1) := dk_42 (dk_at dksX2_load32_0 20 rfl rfl)
theorem dX2_load32_21 : decode cX2_load32 21 = .ok (.iload_n 1, 1) := dk_27 (dk_at dksX2_load32_0 21 rfl rfl)
theorem dX2_load32_22 : decode cX2_load32 22 = .ok (.iconst 2, 1) := dk_5 (dk_at dksX2_load32_0 22 rfl rfl)
theorem dX2_load32_23 : decode cX2_load32 23 = .ok (.iadd, 1) := dk_96 (dk_at dksX2_load32_0 23 rfl rfl)
theorem dX2_load32_24 : decode cX2_load32 24 = .ok (.baload, 1) := dk_51 (dk_at dksX2_load32_1 0 rfl rfl)
theorem dX2_load32_25 : decode cX2_load32 25 = .ok (.sipush 255, 3) := dk_17 0 255 (dk_at dksX2_load32_1 1 rfl rfl)
theorem dX2_load32_28 : decode cX2_load32 28 = .ok (.iand, 1) := dk_126 (dk_at dksX2_load32_1 4 rfl rfl)
theorem dX2_load32_29 : decode cX2_load32 29 = .ok (.bipush 16, 2) := dk_16 16 (dk_at dksX2_load32_1 5 rfl rfl)
theorem dX2_load32_31 : decode cX2_load32 31 = .ok (.ishl, 1) := dk_120 (dk_at dksX2_load32_1 7 rfl rfl)
theorem dX2_load32_32 : decode cX2_load32 32 = .ok (.ior, 1) := dk_128 (dk_at dksX2_load32_1 8 rfl rfl)
theorem dX2_load32_33 : decode cX2_load32 33 = .ok (.aload_n 0, 1) := dk_42 (dk_at dksX2_load32_1 9 rfl rfl)
theorem dX2_load32_34 : decode cX2_load32 34 = .ok (.iload_n 1, 1) := dk_27 (dk_at dksX2_load32_1 10 rfl rfl)
theorem dX2_load32_35 : decode cX2_load32 35 = .ok (.iconst 3, 1) := dk_6 (dk_at dksX2_load32_1 11 rfl rfl)
theorem dX2_load32_36 : decode cX2_load32 36 = .ok (.iadd, 1) := dk_96 (dk_at dksX2_load32_1 12 rfl rfl)
theorem dX2_load32_37 : decode cX2_load32 37 = .ok (.baload, 1) := dk_51 (dk_at dksX2_load32_1 13 rfl rfl)
theorem dX2_load32_38 : decode cX2_load32 38 = .ok (.sipush 255, 3) := dk_17 0 255 (dk_at dksX2_load32_1 14 rfl rfl)
theorem dX2_load32_41 : decode cX2_load32 41 = .ok (.iand, 1) := dk_126 (dk_at dksX2_load32_1 17 rfl rfl)
theorem dX2_load32_42 : decode cX2_load32 42 = .ok (.bipush 24, 2) := dk_16 24 (dk_at dksX2_load32_1 18 rfl rfl)
theorem dX2_load32_44 : decode cX2_load32 44 = .ok (.ishl, 1) := dk_120 (dk_at dksX2_load32_1 20 rfl rfl)
theorem dX2_load32_45 : decode cX2_load32 45 = .ok (.ior, 1) := dk_128 (dk_at dksX2_load32_1 21 rfl rfl)
theorem dX2_load32_46 : decode cX2_load32 46 = .ok (.i2l, 1) := dk_133 (dk_at dksX2_load32_1 22 rfl rfl)
theorem dX2_load32_47 : decode cX2_load32 47 = .ok (.ldc2_w 1, 3) := dk_20 0 1 (dk_at dksX2_load32_2 0 rfl rfl)
theorem dX2_load32_50 : decode cX2_load32 50 = .ok (.land, 1) := dk_127 (dk_at dksX2_load32_2 3 rfl rfl)
theorem dX2_load32_51 : decode cX2_load32 51 = .ok (.lreturn, 1) := dk_173 (dk_at dksX2_load32_2 4 rfl rfl)
abbrev cX2_copyBlockSize : ByteArray := prog_4_method_4_code
def yX2_copyBlockSize : MethodName := ⟨RX2, "copyBlockSize", "([B[BI)V"⟩
def dkwX2_copyBlockSize_1 : List UInt8 := [16, 16, 159, 0, 13, 42, 29, 4, 96, 42, 190, 3, 184, 0, 25, 177]
abbrev dktX2_copyBlockSize_1 : List UInt8 := dkwX2_copyBlockSize_1 ++ []
def dkwX2_copyBlockSize_0 : List UInt8 := [16, 16, 43, 190, 28, 100, 184, 0, 13, 62, 43, 28, 42, 3, 29, 184, 0, 19, 42, 29, 4, 84, 29]
abbrev dktX2_copyBlockSize_0 : List UInt8 := dkwX2_copyBlockSize_0 ++ dktX2_copyBlockSize_1
theorem dksX2_copyBlockSize_0 : cX2_copyBlockSize.data.toList.drop 0 = dktX2_copyBlockSize_0 := by decide +kernel
theorem dksX2_copyBlockSize_1 : cX2_copyBlockSize.data.toList.drop 23 = dktX2_copyBlockSize_1 := dk_seg dksX2_copyBlockSize_0 23 rfl rfl
theorem dX2_copyBlockSize_0 : decode cX2_copyBlockSize 0 = .ok (.bipush 16, 2) := dk_16 16 (dk_at dksX2_copyBlockSize_0 0 rfl rfl)
theorem dX2_copyBlockSize_2 : decode cX2_copyBlockSize 2 = .ok (.aload_n 1, 1) := dk_43 (dk_at dksX2_copyBlockSize_0 2 rfl rfl)
theorem dX2_copyBlockSize_3 : decode cX2_copyBlockSize 3 = .ok (.arraylength, 1) := dk_190 (dk_at dksX2_copyBlockSize_0 3 rfl rfl)
theorem dX2_copyBlockSize_4 : decode cX2_copyBlockSize 4 = .ok (.iload_n 2, 1) := dk_28 (dk_at dksX2_copyBlockSize_0 4 rfl rfl)
theorem dX2_copyBlockSize_5 : decode cX2_copyBlockSize 5 = .ok (.isub, 1) := dk_100 (dk_at dksX2_copyBlockSize_0 5 rfl rfl)
theorem dX2_copyBlockSize_6 : decode cX2_copyBlockSize 6 = .ok (.invokestatic 13, 3) := dk_184 0 13 (dk_at dksX2_copyBlockSize_0 6 rfl rfl)
theorem dX2_copyBlockSize_9 : decode cX2_copyBlockSize 9 = .ok (.istore_n 3, 1) := dk_62 (dk_at dksX2_copyBlockSize_0 9 rfl rfl)
theorem dX2_copyBlockSize_10 : decode cX2_copyBlockSize 10 = .ok (.aload_n 1, 1) := dk_43 (dk_at dksX2_copyBlockSize_0 10 rfl rfl)
theorem dX2_copyBlockSize_11 : decode cX2_copyBlockSize 11 = .ok (.iload_n 2, 1) := dk_28 (dk_at dksX2_copyBlockSize_0 11 rfl rfl)
theorem dX2_copyBlockSize_12 : decode cX2_copyBlockSize 12 = .ok (.aload_n 0, 1) := dk_42 (dk_at dksX2_copyBlockSize_0 12 rfl rfl)
theorem dX2_copyBlockSize_13 : decode cX2_copyBlockSize 13 = .ok (.iconst 0, 1) := dk_3 (dk_at dksX2_copyBlockSize_0 13 rfl rfl)
theorem dX2_copyBlockSize_14 : decode cX2_copyBlockSize 14 = .ok (.iload_n 3, 1) := dk_29 (dk_at dksX2_copyBlockSize_0 14 rfl rfl)
theorem dX2_copyBlockSize_15 : decode cX2_copyBlockSize 15 = .ok (.invokestatic 19, 3) := dk_184 0 19 (dk_at dksX2_copyBlockSize_0 15 rfl rfl)
theorem dX2_copyBlockSize_18 : decode cX2_copyBlockSize 18 = .ok (.aload_n 0, 1) := dk_42 (dk_at dksX2_copyBlockSize_0 18 rfl rfl)
theorem dX2_copyBlockSize_19 : decode cX2_copyBlockSize 19 = .ok (.iload_n 3, 1) := dk_29 (dk_at dksX2_copyBlockSize_0 19 rfl rfl)
theorem dX2_copyBlockSize_20 : decode cX2_copyBlockSize 20 = .ok (.iconst 1, 1) := dk_4 (dk_at dksX2_copyBlockSize_0 20 rfl rfl)
theorem dX2_copyBlockSize_21 : decode cX2_copyBlockSize 21 = .ok (.bastore, 1) := dk_84 (dk_at dksX2_copyBlockSize_0 21 rfl rfl)
theorem dX2_copyBlockSize_22 : decode cX2_copyBlockSize 22 = .ok (.iload_n 3, 1) := dk_29 (dk_at dksX2_copyBlockSize_0 22 rfl rfl)
theorem dX2_copyBlockSize_23 : decode cX2_copyBlockSize 23 = .ok (.bipush 16, 2) := dk_16 16 (dk_at dksX2_copyBlockSize_1 0 rfl rfl)
theorem dX2_copyBlockSize_25 : decode cX2_copyBlockSize 25 = .ok (.if_icmp .eq 13, 3) := dk_159 0 13 (dk_at dksX2_copyBlockSize_1 2 rfl rfl)
theorem dX2_copyBlockSize_28 : decode cX2_copyBlockSize 28 = .ok (.aload_n 0, 1) := dk_42 (dk_at dksX2_copyBlockSize_1 5 rfl rfl)
theorem dX2_copyBlockSize_29 : decode cX2_copyBlockSize 29 = .ok (.iload_n 3, 1) := dk_29 (dk_at dksX2_copyBlockSize_1 6 rfl rfl)
theorem dX2_copyBlockSize_30 : decode cX2_copyBlockSize 30 = .ok (.iconst 1, 1) := dk_4 (dk_at dksX2_copyBlockSize_1 7 rfl rfl)
theorem dX2_copyBlockSize_31 : decode cX2_copyBlockSize 31 = .ok (.iadd, 1) := dk_96 (dk_at dksX2_copyBlockSize_1 8 rfl rfl)
theorem dX2_copyBlockSize_32 : decode cX2_copyBlockSize 32 = .ok (.aload_n 0, 1) := dk_42 (dk_at dksX2_copyBlockSize_1 9 rfl rfl)
theorem dX2_copyBlockSize_33 : decode cX2_copyBlockSize 33 = .ok (.arraylength, 1) := dk_190 (dk_at dksX2_copyBlockSize_1 10 rfl rfl)
theorem dX2_copyBlockSize_34 : decode cX2_copyBlockSize 34 = .ok (.iconst 0, 1) := dk_3 (dk_at dksX2_copyBlockSize_1 11 rfl rfl)
theorem dX2_copyBlockSize_35 : decode cX2_copyBlockSize 35 = .ok (.invokestatic 25, 3) := dk_184 0 25 (dk_at dksX2_copyBlockSize_1 12 rfl rfl)
theorem dX2_copyBlockSize_38 : decode cX2_copyBlockSize 38 = .ok (.return_, 1) := dk_177 (dk_at dksX2_copyBlockSize_1 15 rfl rfl)
abbrev cX2_toByteArray : ByteArray := prog_4_method_3_code
def yX2_toByteArray : MethodName := ⟨RX2, "toByteArray", "([BJI)V"⟩
def dkwX2_toByteArray_1 : List UInt8 := [132, 4, 1, 31, 16, 8, 123, 64, 167, 255, 229, 177]
abbrev dktX2_toByteArray_1 : List UInt8 := dkwX2_toByteArray_1 ++ []
def dkwX2_toByteArray_0 : List UInt8 := [3, 54, 4, 21, 4, 7, 162, 0, 27, 42, 29, 21, 4, 96, 31, 20, 0, 11, 127, 136, 145, 84]
abbrev dktX2_toByteArray_0 : List UInt8 := dkwX2_toByteArray_0 ++ dktX2_toByteArray_1
theorem dksX2_toByteArray_0 : cX2_toByteArray.data.toList.drop 0 = dktX2_toByteArray_0 := by decide +kernel
theorem dksX2_toByteArray_1 : cX2_toByteArray.data.toList.drop 22 = dktX2_toByteArray_1 := dk_seg dksX2_toByteArray_0 22 rfl rfl
theorem dX2_toByteArray_0 : decode cX2_toByteArray 0 = .ok (.iconst 0, 1) := dk_3 (dk_at dksX2_toByteArray_0 0 rfl rfl)
theorem dX2_toByteArray_1 : decode cX2_toByteArray 1 = .ok (.istore 4, 2) := dk_54 4 (dk_at dksX2_toByteArray_0 1 rfl rfl)
theorem dX2_toByteArray_3 : decode cX2_toByteArray 3 = .ok (.iload 4, 2) := dk_21 4 (dk_at dksX2_toByteArray_0 3 rfl rfl)
theorem dX2_toByteArray_5 : decode cX2_toByteArray 5 = .ok (.iconst 4, 1) := dk_7 (dk_at dksX2_toByteArray_0 5 rfl rfl)
theorem dX2_toByteArray_6 : decode cX2_toByteArray 6 = .ok (.if_icmp .ge 27, 3) := dk_162 0 27 (dk_at dksX2_toByteArray_0 6 rfl rfl)
theorem dX2_toByteArray_9 : decode cX2_toByteArray 9 = .ok (.aload_n 0, 1) := dk_42 (dk_at dksX2_toByteArray_0 9 rfl rfl)
theorem dX2_toByteArray_10 : decode cX2_toByteArray 10 = .ok (.iload_n 3, 1) := dk_29 (dk_at dksX2_toByteArray_0 10 rfl rfl)
theorem dX2_toByteArray_11 : decode cX2_toByteArray 11 = .ok (.iload 4, 2) := dk_21 4 (dk_at dksX2_toByteArray_0 11 rfl rfl)
theorem dX2_toByteArray_13 : decode cX2_toByteArray 13 = .ok (.iadd, 1) := dk_96 (dk_at dksX2_toByteArray_0 13 rfl rfl)
theorem dX2_toByteArray_14 : decode cX2_toByteArray 14 = .ok (.lload_n 1, 1) := dk_31 (dk_at dksX2_toByteArray_0 14 rfl rfl)
theorem dX2_toByteArray_15 : decode cX2_toByteArray 15 = .ok (.ldc2_w 11, 3) := dk_20 0 11 (dk_at dksX2_toByteArray_0 15 rfl rfl)
theorem dX2_toByteArray_18 : decode cX2_toByteArray 18 = .ok (.land, 1) := dk_127 (dk_at dksX2_toByteArray_0 18 rfl rfl)
theorem dX2_toByteArray_19 : decode cX2_toByteArray 19 = .ok (.l2i, 1) := dk_136 (dk_at dksX2_toByteArray_0 19 rfl rfl)
theorem dX2_toByteArray_20 : decode cX2_toByteArray 20 = .ok (.i2b, 1) := dk_145 (dk_at dksX2_toByteArray_0 20 rfl rfl)
theorem dX2_toByteArray_21 : decode cX2_toByteArray 21 = .ok (.bastore, 1) := dk_84 (dk_at dksX2_toByteArray_0 21 rfl rfl)
theorem dX2_toByteArray_22 : decode cX2_toByteArray 22 = .ok (.iinc 4 1, 3) := dk_132 4 1 (dk_at dksX2_toByteArray_1 0 rfl rfl)
theorem dX2_toByteArray_25 : decode cX2_toByteArray 25 = .ok (.lload_n 1, 1) := dk_31 (dk_at dksX2_toByteArray_1 3 rfl rfl)
theorem dX2_toByteArray_26 : decode cX2_toByteArray 26 = .ok (.bipush 8, 2) := dk_16 8 (dk_at dksX2_toByteArray_1 4 rfl rfl)
theorem dX2_toByteArray_28 : decode cX2_toByteArray 28 = .ok (.lshr, 1) := dk_123 (dk_at dksX2_toByteArray_1 6 rfl rfl)
theorem dX2_toByteArray_29 : decode cX2_toByteArray 29 = .ok (.lstore_n 1, 1) := dk_64 (dk_at dksX2_toByteArray_1 7 rfl rfl)
theorem dX2_toByteArray_30 : decode cX2_toByteArray 30 = .ok (.goto (-27), 3) := dk_167 255 229 (dk_at dksX2_toByteArray_1 8 rfl rfl)
theorem dX2_toByteArray_33 : decode cX2_toByteArray 33 = .ok (.return_, 1) := dk_177 (dk_at dksX2_toByteArray_1 11 rfl rfl)
theorem q12 : (Jvm.Cond.initialized "Poly1305") ∈ lw_all := lw_g (lw_at lw_m1 4 rfl) rfl
theorem q82 : (Jvm.Cond.static ({ cls := "Poly1305", name := "computeMac", desc := "([B[B)[B" } : Jvm.MethodName)) ∈ lw_all := lw_g (lw_at lw_m1 74 rfl) rfl
theorem q83 : (Jvm.Cond.code ({ cls := "Poly1305", name := "computeMac", desc := "([B[B)[B" } : Jvm.MethodName) prog_4_method_5_code (56 : Nat) (Option.some (Jvm.ClassFile.FieldType.array Jvm.ClassFile.FieldType.byte))) ∈ lw_all := lw_g (lw_at lw_m1 75 rfl) rfl
theorem q84 : (Jvm.Cond.classLink "Poly1305" (31 : Nat) "java/lang/IllegalArgumentException") ∈ lw_all := lw_g (lw_at lw_m1 76 rfl) rfl
theorem q123 : (Jvm.Cond.stringRef "Poly1305" (33 : Nat) "The key length in bytes must be 32.") ∈ lw_tbl := lw_at lw_m1 115 rfl
theorem q124 : (Jvm.Cond.methodLink "Poly1305" (35 : Nat) ({ cls := "java/lang/IllegalArgumentException", name := "<init>", desc := "(Ljava/lang/String;)V" } : Jvm.MethodName)) ∈ lw_all := lw_g (lw_at lw_m1 116 rfl) rfl
theorem q149 : (Jvm.Cond.methodLink "Poly1305" (39 : Nat) ({ cls := "Poly1305", name := "load26", desc := "([BII)J" } : Jvm.MethodName)) ∈ lw_all := lw_g (lw_at lw_m1 141 rfl) rfl
theorem q150 : (Jvm.Cond.static ({ cls := "Poly1305", name := "load26", desc := "([BII)J" } : Jvm.MethodName)) ∈ lw_all := lw_g (lw_at lw_m1 142 rfl) rfl
theorem q151 : (Jvm.Cond.code ({ cls := "Poly1305", name := "load26", desc := "([BII)J" } : Jvm.MethodName) prog_4_method_2_code (3 : Nat) (Option.some Jvm.ClassFile.FieldType.long)) ∈ lw_all := lw_g (lw_at lw_m1 143 rfl) rfl
theorem q152 : (Jvm.Cond.methodLink "Poly1305" (3 : Nat) ({ cls := "Poly1305", name := "load32", desc := "([BI)J" } : Jvm.MethodName)) ∈ lw_all := lw_g (lw_at lw_m1 144 rfl) rfl
theorem q153 : (Jvm.Cond.static ({ cls := "Poly1305", name := "load32", desc := "([BI)J" } : Jvm.MethodName)) ∈ lw_all := lw_g (lw_at lw_m1 145 rfl) rfl
theorem q154 : (Jvm.Cond.code ({ cls := "Poly1305", name := "load32", desc := "([BI)J" } : Jvm.MethodName) prog_4_method_1_code (2 : Nat) (Option.some Jvm.ClassFile.FieldType.long)) ∈ lw_all := lw_g (lw_at lw_m1 146 rfl) rfl
theorem q155 : (Jvm.Cond.constantLong "Poly1305" (1 : Nat) (4294967295 : Int64)) ∈ lw_all := lw_g (lw_at lw_m1 147 rfl) rfl
theorem q156 : (Jvm.Cond.constantLong "Poly1305" (9 : Nat) (67108863 : Int64)) ∈ lw_all := lw_g (lw_at lw_m1 148 rfl) rfl
theorem q157 : (Jvm.Cond.constantLong "Poly1305" (43 : Nat) (67108611 : Int64)) ∈ lw_all := lw_g (lw_at lw_m1 149 rfl) rfl
theorem q158 : (Jvm.Cond.constantLong "Poly1305" (45 : Nat) (67092735 : Int64)) ∈ lw_all := lw_g (lw_at lw_m1 150 rfl) rfl
theorem q159 : (Jvm.Cond.constantLong "Poly1305" (47 : Nat) (66076671 : Int64)) ∈ lw_all := lw_g (lw_at lw_m1 151 rfl) rfl
theorem q160 : (Jvm.Cond.constantLong "Poly1305" (49 : Nat) (1048575 : Int64)) ∈ lw_all := lw_g (lw_at lw_m1 152 rfl) rfl
theorem q161 : (Jvm.Cond.constantLong "Poly1305" (51 : Nat) (5 : Int64)) ∈ lw_all := lw_g (lw_at lw_m1 153 rfl) rfl
theorem q162 : (Jvm.Cond.methodLink "Poly1305" (53 : Nat) ({ cls := "Poly1305", name := "copyBlockSize", desc := "([B[BI)V" } : Jvm.MethodName)) ∈ lw_all := lw_g (lw_at lw_m1 154 rfl) rfl
theorem q163 : (Jvm.Cond.static ({ cls := "Poly1305", name := "copyBlockSize", desc := "([B[BI)V" } : Jvm.MethodName)) ∈ lw_all := lw_g (lw_at lw_m1 155 rfl) rfl
theorem q164 : (Jvm.Cond.code ({ cls := "Poly1305", name := "copyBlockSize", desc := "([B[BI)V" } : Jvm.MethodName) prog_4_method_4_code (4 : Nat) (Option.none : Option Jvm.ClassFile.FieldType)) ∈ lw_all := lw_g (lw_at lw_m1 156 rfl) rfl
theorem q165 : (Jvm.Cond.methodLink "Poly1305" (13 : Nat) ({ cls := "java/lang/Math", name := "min", desc := "(II)I" } : Jvm.MethodName)) ∈ lw_all := lw_g (lw_at lw_m1 157 rfl) rfl
theorem q168 : (Jvm.Cond.methodLink "Poly1305" (19 : Nat) ({ cls := "java/lang/System", name := "arraycopy", desc := "(Ljava/lang/Object;ILjava/lang/Object;II)V" } : Jvm.MethodName)) ∈ lw_all := lw_g (lw_at lw_m1 160 rfl) rfl
theorem q169 : (Jvm.Cond.methodLink "Poly1305" (25 : Nat) ({ cls := "java/util/Arrays", name := "fill", desc := "([BIIB)V" } : Jvm.MethodName)) ∈ lw_all := lw_g (lw_at lw_m1 161 rfl) rfl
theorem q175 : (Jvm.Cond.constantLong "Poly1305" (57 : Nat) (67108864 : Int64)) ∈ lw_all := lw_g (lw_at lw_m1 167 rfl) rfl
theorem q176 : (Jvm.Cond.constantLong "Poly1305" (59 : Nat) (-1 : Int64)) ∈ lw_all := lw_g (lw_at lw_m1 168 rfl) rfl
theorem q177 : (Jvm.Cond.methodLink "Poly1305" (61 : Nat) ({ cls := "Poly1305", name := "toByteArray", desc := "([BJI)V" } : Jvm.MethodName)) ∈ lw_all := lw_g (lw_at lw_m1 169 rfl) rfl
theorem q178 : (Jvm.Cond.static ({ cls := "Poly1305", name := "toByteArray", desc := "([BJI)V" } : Jvm.MethodName)) ∈ lw_all := lw_g (lw_at lw_m1 170 rfl) rfl
theorem q179 : (Jvm.Cond.code ({ cls := "Poly1305", name := "toByteArray", desc := "([BJI)V" } : Jvm.MethodName) prog_4_method_3_code (5 : Nat) (Option.none : Option Jvm.ClassFile.FieldType)) ∈ lw_all := lw_g (lw_at lw_m1 171 rfl) rfl
theorem q180 : (Jvm.Cond.constantLong "Poly1305" (11 : Nat) (255 : Int64)) ∈ lw_all := lw_g (lw_at lw_m1 172 rfl) rfl
end
section
/-! the law's own entry -/
set_option maxRecDepth 100000
abbrev cL_law : ByteArray := code
def dkwL_law_11 : List UInt8 := [29, 4, 96, 46, 182, 0, 42, 159, 0, 5, 3, 172, 132, 3, 6, 167, 254, 253, 4, 172]
abbrev dktL_law_11 : List UInt8 := dkwL_law_11 ++ []
def dkwL_law_10 : List UInt8 := [96, 46, 42, 29, 5, 96, 46, 182, 0, 37, 167, 0, 26, 43, 42, 29, 4, 96, 46, 182, 0, 38, 44, 42]
abbrev dktL_law_10 : List UInt8 := dkwL_law_10 ++ dktL_law_11
def dkwL_law_9 : List UInt8 := [182, 0, 32, 167, 0, 57, 43, 42, 29, 4, 96, 46, 42, 29, 5, 96, 46, 182, 0, 33, 44, 42, 29, 4]
abbrev dktL_law_9 : List UInt8 := dkwL_law_9 ++ dktL_law_10
def dkwL_law_8 : List UInt8 := [4, 96, 46, 42, 29, 5, 96, 46, 42, 29, 6, 96, 46, 42, 29, 7, 96, 46, 42, 29, 8, 96, 46]
abbrev dktL_law_8 : List UInt8 := dkwL_law_8 ++ dktL_law_9
def dkwL_law_7 : List UInt8 := [5, 96, 46, 42, 29, 6, 96, 46, 42, 29, 7, 96, 46, 42, 29, 8, 96, 46, 182, 0, 28, 44, 42, 29]
abbrev dktL_law_7 : List UInt8 := dkwL_law_7 ++ dktL_law_8
def dkwL_law_6 : List UInt8 := [167, 0, 131, 43, 182, 0, 23, 44, 182, 0, 27, 159, 0, 120, 3, 172, 43, 42, 29, 4, 96, 46, 42, 29]
abbrev dktL_law_6 : List UInt8 := dkwL_law_6 ++ dktL_law_7
def dkwL_law_5 : List UInt8 := [159, 0, 154, 3, 172, 43, 42, 29, 4, 96, 46, 182, 0, 18, 44, 42, 29, 4, 96, 46, 182, 0, 22]
abbrev dktL_law_5 : List UInt8 := dkwL_law_5 ++ dktL_law_6
def dkwL_law_4 : List UInt8 := [44, 42, 29, 4, 96, 46, 42, 29, 5, 96, 46, 42, 29, 6, 96, 46, 42, 29, 7, 96, 46, 182, 0, 17]
abbrev dktL_law_4 : List UInt8 := dkwL_law_4 ++ dktL_law_5
def dkwL_law_3 : List UInt8 := [43, 42, 29, 4, 96, 46, 42, 29, 5, 96, 46, 42, 29, 6, 96, 46, 42, 29, 7, 96, 46, 182, 0, 13]
abbrev dktL_law_3 : List UInt8 := dkwL_law_3 ++ dktL_law_4
def dkwL_law_2 : List UInt8 := [170, 0, 0, 0, 0, 0, 241, 0, 0, 0, 0, 0, 0, 0, 5, 0, 0, 0, 39, 0, 0, 0, 92, 0, 0, 0, 113, 0, 0, 0, 126, 0, 0, 0, 187, 0, 0, 0, 218]
abbrev dktL_law_2 : List UInt8 := dkwL_law_2 ++ dktL_law_3
def dkwL_law_1 : List UInt8 := [163, 1, 0, 42, 29, 46, 16, 15, 126]
abbrev dktL_law_1 : List UInt8 := dkwL_law_1 ++ dktL_law_2
def dkwL_law_0 : List UInt8 := [187, 0, 7, 89, 183, 0, 9, 76, 187, 0, 10, 89, 183, 0, 12, 77, 3, 62, 29, 42, 190, 16, 6, 100]
abbrev dktL_law_0 : List UInt8 := dkwL_law_0 ++ dktL_law_1
theorem dksL_law_0 : cL_law.data.toList.drop 0 = dktL_law_0 := by decide +kernel
theorem dksL_law_1 : cL_law.data.toList.drop 24 = dktL_law_1 := dk_seg dksL_law_0 24 rfl rfl
theorem dksL_law_2 : cL_law.data.toList.drop 33 = dktL_law_2 := dk_seg dksL_law_1 9 rfl rfl
theorem dksL_law_3 : cL_law.data.toList.drop 72 = dktL_law_3 := dk_seg dksL_law_2 39 rfl rfl
theorem dksL_law_4 : cL_law.data.toList.drop 96 = dktL_law_4 := dk_seg dksL_law_3 24 rfl rfl
theorem dksL_law_5 : cL_law.data.toList.drop 120 = dktL_law_5 := dk_seg dksL_law_4 24 rfl rfl
theorem dksL_law_6 : cL_law.data.toList.drop 143 = dktL_law_6 := dk_seg dksL_law_5 23 rfl rfl
theorem dksL_law_7 : cL_law.data.toList.drop 167 = dktL_law_7 := dk_seg dksL_law_6 24 rfl rfl
theorem dksL_law_8 : cL_law.data.toList.drop 191 = dktL_law_8 := dk_seg dksL_law_7 24 rfl rfl
theorem dksL_law_9 : cL_law.data.toList.drop 214 = dktL_law_9 := dk_seg dksL_law_8 23 rfl rfl
theorem dksL_law_10 : cL_law.data.toList.drop 238 = dktL_law_10 := dk_seg dksL_law_9 24 rfl rfl
theorem dksL_law_11 : cL_law.data.toList.drop 262 = dktL_law_11 := dk_seg dksL_law_10 24 rfl rfl
theorem dL_law_0 : decode cL_law 0 = .ok (.new 7, 3) := dk_187 0 7 (dk_at dksL_law_0 0 rfl rfl)
theorem dL_law_3 : decode cL_law 3 = .ok (.dup, 1) := dk_89 (dk_at dksL_law_0 3 rfl rfl)
theorem dL_law_4 : decode cL_law 4 = .ok (.invokespecial 9, 3) := dk_183 0 9 (dk_at dksL_law_0 4 rfl rfl)
theorem dL_law_7 : decode cL_law 7 = .ok (.astore_n 1, 1) := dk_76 (dk_at dksL_law_0 7 rfl rfl)
theorem dL_law_8 : decode cL_law 8 = .ok (.new 10, 3) := dk_187 0 10 (dk_at dksL_law_0 8 rfl rfl)
theorem dL_law_11 : decode cL_law 11 = .ok (.dup, 1) := dk_89 (dk_at dksL_law_0 11 rfl rfl)
theorem dL_law_12 : decode cL_law 12 = .ok (.invokespecial 12, 3) := dk_183 0 12 (dk_at dksL_law_0 12 rfl rfl)
theorem dL_law_15 : decode cL_law 15 = .ok (.astore_n 2, 1) := dk_77 (dk_at dksL_law_0 15 rfl rfl)
theorem dL_law_16 : decode cL_law 16 = .ok (.iconst 0, 1) := dk_3 (dk_at dksL_law_0 16 rfl rfl)
theorem dL_law_17 : decode cL_law 17 = .ok (.istore_n 3, 1) := dk_62 (dk_at dksL_law_0 17 rfl rfl)
theorem dL_law_18 : decode cL_law 18 = .ok (.iload_n 3, 1) := dk_29 (dk_at dksL_law_0 18 rfl rfl)
theorem dL_law_19 : decode cL_law 19 = .ok (.aload_n 0, 1) := dk_42 (dk_at dksL_law_0 19 rfl rfl)
theorem dL_law_20 : decode cL_law 20 = .ok (.arraylength, 1) := dk_190 (dk_at dksL_law_0 20 rfl rfl)
theorem dL_law_21 : decode cL_law 21 = .ok (.bipush 6, 2) := dk_16 6 (dk_at dksL_law_0 21 rfl rfl)
theorem dL_law_23 : decode cL_law 23 = .ok (.isub, 1) := dk_100 (dk_at dksL_law_0 23 rfl rfl)
theorem dL_law_24 : decode cL_law 24 = .ok (.if_icmp .gt 256, 3) := dk_163 1 0 (dk_at dksL_law_1 0 rfl rfl)
theorem dL_law_27 : decode cL_law 27 = .ok (.aload_n 0, 1) := dk_42 (dk_at dksL_law_1 3 rfl rfl)
theorem dL_law_28 : decode cL_law 28 = .ok (.iload_n 3, 1) := dk_29 (dk_at dksL_law_1 4 rfl rfl)
theorem dL_law_29 : decode cL_law 29 = .ok (.iaload, 1) := dk_46 (dk_at dksL_law_1 5 rfl rfl)
theorem dL_law_30 : decode cL_law 30 = .ok (.bipush 15, 2) := dk_16 15 (dk_at dksL_law_1 6 rfl rfl)
theorem dL_law_32 : decode cL_law 32 = .ok (.iand, 1) := dk_126 (dk_at dksL_law_1 8 rfl rfl)
theorem dL_law_33 : decode cL_law 33 = .ok (.tableswitch 241 0 5 #[39, 92, 113, 126, 187, 218], 39) := by decide +kernel
theorem dL_law_72 : decode cL_law 72 = .ok (.aload_n 1, 1) := dk_43 (dk_at dksL_law_3 0 rfl rfl)
theorem dL_law_73 : decode cL_law 73 = .ok (.aload_n 0, 1) := dk_42 (dk_at dksL_law_3 1 rfl rfl)
theorem dL_law_74 : decode cL_law 74 = .ok (.iload_n 3, 1) := dk_29 (dk_at dksL_law_3 2 rfl rfl)
theorem dL_law_75 : decode cL_law 75 = .ok (.iconst 1, 1) := dk_4 (dk_at dksL_law_3 3 rfl rfl)
theorem dL_law_76 : decode cL_law 76 = .ok (.iadd, 1) := dk_96 (dk_at dksL_law_3 4 rfl rfl)
theorem dL_law_77 : decode cL_law 77 = .ok (.iaload, 1) := dk_46 (dk_at dksL_law_3 5 rfl rfl)
theorem dL_law_78 : decode cL_law 78 = .ok (.aload_n 0, 1) := dk_42 (dk_at dksL_law_3 6 rfl rfl)
theorem dL_law_79 : decode cL_law 79 = .ok (.iload_n 3, 1) := dk_29 (dk_at dksL_law_3 7 rfl rfl)
theorem dL_law_80 : decode cL_law 80 = .ok (.iconst 2, 1) := dk_5 (dk_at dksL_law_3 8 rfl rfl)
theorem dL_law_81 : decode cL_law 81 = .ok (.iadd, 1) := dk_96 (dk_at dksL_law_3 9 rfl rfl)
theorem dL_law_82 : decode cL_law 82 = .ok (.iaload, 1) := dk_46 (dk_at dksL_law_3 10 rfl rfl)
theorem dL_law_83 : decode cL_law 83 = .ok (.aload_n 0, 1) := dk_42 (dk_at dksL_law_3 11 rfl rfl)
theorem dL_law_84 : decode cL_law 84 = .ok (.iload_n 3, 1) := dk_29 (dk_at dksL_law_3 12 rfl rfl)
theorem dL_law_85 : decode cL_law 85 = .ok (.iconst 3, 1) := dk_6 (dk_at dksL_law_3 13 rfl rfl)
theorem dL_law_86 : decode cL_law 86 = .ok (.iadd, 1) := dk_96 (dk_at dksL_law_3 14 rfl rfl)
theorem dL_law_87 : decode cL_law 87 = .ok (.iaload, 1) := dk_46 (dk_at dksL_law_3 15 rfl rfl)
theorem dL_law_88 : decode cL_law 88 = .ok (.aload_n 0, 1) := dk_42 (dk_at dksL_law_3 16 rfl rfl)
theorem dL_law_89 : decode cL_law 89 = .ok (.iload_n 3, 1) := dk_29 (dk_at dksL_law_3 17 rfl rfl)
theorem dL_law_90 : decode cL_law 90 = .ok (.iconst 4, 1) := dk_7 (dk_at dksL_law_3 18 rfl rfl)
theorem dL_law_91 : decode cL_law 91 = .ok (.iadd, 1) := dk_96 (dk_at dksL_law_3 19 rfl rfl)
theorem dL_law_92 : decode cL_law 92 = .ok (.iaload, 1) := dk_46 (dk_at dksL_law_3 20 rfl rfl)
theorem dL_law_93 : decode cL_law 93 = .ok (.invokevirtual 13, 3) := dk_182 0 13 (dk_at dksL_law_3 21 rfl rfl)
theorem dL_law_96 : decode cL_law 96 = .ok (.aload_n 2, 1) := dk_44 (dk_at dksL_law_4 0 rfl rfl)
theorem dL_law_97 : decode cL_law 97 = .ok (.aload_n 0, 1) := dk_42 (dk_at dksL_law_4 1 rfl rfl)
theorem dL_law_98 : decode cL_law 98 = .ok (.iload_n 3, 1) := dk_29 (dk_at dksL_law_4 2 rfl rfl)
theorem dL_law_99 : decode cL_law 99 = .ok (.iconst 1, 1) := dk_4 (dk_at dksL_law_4 3 rfl rfl)
theorem dL_law_100 : decode cL_law 100 = .ok (.iadd, 1) := dk_96 (dk_at dksL_law_4 4 rfl rfl)
theorem dL_law_101 : decode cL_law 101 = .ok (.iaload, 1) := dk_46 (dk_at dksL_law_4 5 rfl rfl)
theorem dL_law_102 : decode cL_law 102 = .ok (.aload_n 0, 1) := dk_42 (dk_at dksL_law_4 6 rfl rfl)
theorem dL_law_103 : decode cL_law 103 = .ok (.iload_n 3, 1) := dk_29 (dk_at dksL_law_4 7 rfl rfl)
theorem dL_law_104 : decode cL_law 104 = .ok (.iconst 2, 1) := dk_5 (dk_at dksL_law_4 8 rfl rfl)
theorem dL_law_105 : decode cL_law 105 = .ok (.iadd, 1) := dk_96 (dk_at dksL_law_4 9 rfl rfl)
theorem dL_law_106 : decode cL_law 106 = .ok (.iaload, 1) := dk_46 (dk_at dksL_law_4 10 rfl rfl)
theorem dL_law_107 : decode cL_law 107 = .ok (.aload_n 0, 1) := dk_42 (dk_at dksL_law_4 11 rfl rfl)
theorem dL_law_108 : decode cL_law 108 = .ok (.iload_n 3, 1) := dk_29 (dk_at dksL_law_4 12 rfl rfl)
theorem dL_law_109 : decode cL_law 109 = .ok (.iconst 3, 1) := dk_6 (dk_at dksL_law_4 13 rfl rfl)
theorem dL_law_110 : decode cL_law 110 = .ok (.iadd, 1) := dk_96 (dk_at dksL_law_4 14 rfl rfl)
theorem dL_law_111 : decode cL_law 111 = .ok (.iaload, 1) := dk_46 (dk_at dksL_law_4 15 rfl rfl)
theorem dL_law_112 : decode cL_law 112 = .ok (.aload_n 0, 1) := dk_42 (dk_at dksL_law_4 16 rfl rfl)
theorem dL_law_113 : decode cL_law 113 = .ok (.iload_n 3, 1) := dk_29 (dk_at dksL_law_4 17 rfl rfl)
theorem dL_law_114 : decode cL_law 114 = .ok (.iconst 4, 1) := dk_7 (dk_at dksL_law_4 18 rfl rfl)
theorem dL_law_115 : decode cL_law 115 = .ok (.iadd, 1) := dk_96 (dk_at dksL_law_4 19 rfl rfl)
theorem dL_law_116 : decode cL_law 116 = .ok (.iaload, 1) := dk_46 (dk_at dksL_law_4 20 rfl rfl)
theorem dL_law_117 : decode cL_law 117 = .ok (.invokevirtual 17, 3) := dk_182 0 17 (dk_at dksL_law_4 21 rfl rfl)
theorem dL_law_120 : decode cL_law 120 = .ok (.if_icmp .eq 154, 3) := dk_159 0 154 (dk_at dksL_law_5 0 rfl rfl)
theorem dL_law_123 : decode cL_law 123 = .ok (.iconst 0, 1) := dk_3 (dk_at dksL_law_5 3 rfl rfl)
theorem dL_law_124 : decode cL_law 124 = .ok (.ireturn, 1) := dk_172 (dk_at dksL_law_5 4 rfl rfl)
theorem dL_law_125 : decode cL_law 125 = .ok (.aload_n 1, 1) := dk_43 (dk_at dksL_law_5 5 rfl rfl)
theorem dL_law_126 : decode cL_law 126 = .ok (.aload_n 0, 1) := dk_42 (dk_at dksL_law_5 6 rfl rfl)
theorem dL_law_127 : decode cL_law 127 = .ok (.iload_n 3, 1) := dk_29 (dk_at dksL_law_5 7 rfl rfl)
theorem dL_law_128 : decode cL_law 128 = .ok (.iconst 1, 1) := dk_4 (dk_at dksL_law_5 8 rfl rfl)
theorem dL_law_129 : decode cL_law 129 = .ok (.iadd, 1) := dk_96 (dk_at dksL_law_5 9 rfl rfl)
theorem dL_law_130 : decode cL_law 130 = .ok (.iaload, 1) := dk_46 (dk_at dksL_law_5 10 rfl rfl)
theorem dL_law_131 : decode cL_law 131 = .ok (.invokevirtual 18, 3) := dk_182 0 18 (dk_at dksL_law_5 11 rfl rfl)
theorem dL_law_134 : decode cL_law 134 = .ok (.aload_n 2, 1) := dk_44 (dk_at dksL_law_5 14 rfl rfl)
theorem dL_law_135 : decode cL_law 135 = .ok (.aload_n 0, 1) := dk_42 (dk_at dksL_law_5 15 rfl rfl)
theorem dL_law_136 : decode cL_law 136 = .ok (.iload_n 3, 1) := dk_29 (dk_at dksL_law_5 16 rfl rfl)
theorem dL_law_137 : decode cL_law 137 = .ok (.iconst 1, 1) := dk_4 (dk_at dksL_law_5 17 rfl rfl)
theorem dL_law_138 : decode cL_law 138 = .ok (.iadd, 1) := dk_96 (dk_at dksL_law_5 18 rfl rfl)
theorem dL_law_139 : decode cL_law 139 = .ok (.iaload, 1) := dk_46 (dk_at dksL_law_5 19 rfl rfl)
theorem dL_law_140 : decode cL_law 140 = .ok (.invokevirtual 22, 3) := dk_182 0 22 (dk_at dksL_law_5 20 rfl rfl)
theorem dL_law_143 : decode cL_law 143 = .ok (.goto 131, 3) := dk_167 0 131 (dk_at dksL_law_6 0 rfl rfl)
theorem dL_law_146 : decode cL_law 146 = .ok (.aload_n 1, 1) := dk_43 (dk_at dksL_law_6 3 rfl rfl)
theorem dL_law_147 : decode cL_law 147 = .ok (.invokevirtual 23, 3) := dk_182 0 23 (dk_at dksL_law_6 4 rfl rfl)
theorem dL_law_150 : decode cL_law 150 = .ok (.aload_n 2, 1) := dk_44 (dk_at dksL_law_6 7 rfl rfl)
theorem dL_law_151 : decode cL_law 151 = .ok (.invokevirtual 27, 3) := dk_182 0 27 (dk_at dksL_law_6 8 rfl rfl)
theorem dL_law_154 : decode cL_law 154 = .ok (.if_icmp .eq 120, 3) := dk_159 0 120 (dk_at dksL_law_6 11 rfl rfl)
theorem dL_law_157 : decode cL_law 157 = .ok (.iconst 0, 1) := dk_3 (dk_at dksL_law_6 14 rfl rfl)
theorem dL_law_158 : decode cL_law 158 = .ok (.ireturn, 1) := dk_172 (dk_at dksL_law_6 15 rfl rfl)
theorem dL_law_159 : decode cL_law 159 = .ok (.aload_n 1, 1) := dk_43 (dk_at dksL_law_6 16 rfl rfl)
theorem dL_law_160 : decode cL_law 160 = .ok (.aload_n 0, 1) := dk_42 (dk_at dksL_law_6 17 rfl rfl)
theorem dL_law_161 : decode cL_law 161 = .ok (.iload_n 3, 1) := dk_29 (dk_at dksL_law_6 18 rfl rfl)
theorem dL_law_162 : decode cL_law 162 = .ok (.iconst 1, 1) := dk_4 (dk_at dksL_law_6 19 rfl rfl)
theorem dL_law_163 : decode cL_law 163 = .ok (.iadd, 1) := dk_96 (dk_at dksL_law_6 20 rfl rfl)
theorem dL_law_164 : decode cL_law 164 = .ok (.iaload, 1) := dk_46 (dk_at dksL_law_6 21 rfl rfl)
theorem dL_law_165 : decode cL_law 165 = .ok (.aload_n 0, 1) := dk_42 (dk_at dksL_law_6 22 rfl rfl)
theorem dL_law_166 : decode cL_law 166 = .ok (.iload_n 3, 1) := dk_29 (dk_at dksL_law_6 23 rfl rfl)
theorem dL_law_167 : decode cL_law 167 = .ok (.iconst 2, 1) := dk_5 (dk_at dksL_law_7 0 rfl rfl)
theorem dL_law_168 : decode cL_law 168 = .ok (.iadd, 1) := dk_96 (dk_at dksL_law_7 1 rfl rfl)
theorem dL_law_169 : decode cL_law 169 = .ok (.iaload, 1) := dk_46 (dk_at dksL_law_7 2 rfl rfl)
theorem dL_law_170 : decode cL_law 170 = .ok (.aload_n 0, 1) := dk_42 (dk_at dksL_law_7 3 rfl rfl)
theorem dL_law_171 : decode cL_law 171 = .ok (.iload_n 3, 1) := dk_29 (dk_at dksL_law_7 4 rfl rfl)
theorem dL_law_172 : decode cL_law 172 = .ok (.iconst 3, 1) := dk_6 (dk_at dksL_law_7 5 rfl rfl)
theorem dL_law_173 : decode cL_law 173 = .ok (.iadd, 1) := dk_96 (dk_at dksL_law_7 6 rfl rfl)
theorem dL_law_174 : decode cL_law 174 = .ok (.iaload, 1) := dk_46 (dk_at dksL_law_7 7 rfl rfl)
theorem dL_law_175 : decode cL_law 175 = .ok (.aload_n 0, 1) := dk_42 (dk_at dksL_law_7 8 rfl rfl)
theorem dL_law_176 : decode cL_law 176 = .ok (.iload_n 3, 1) := dk_29 (dk_at dksL_law_7 9 rfl rfl)
theorem dL_law_177 : decode cL_law 177 = .ok (.iconst 4, 1) := dk_7 (dk_at dksL_law_7 10 rfl rfl)
theorem dL_law_178 : decode cL_law 178 = .ok (.iadd, 1) := dk_96 (dk_at dksL_law_7 11 rfl rfl)
theorem dL_law_179 : decode cL_law 179 = .ok (.iaload, 1) := dk_46 (dk_at dksL_law_7 12 rfl rfl)
theorem dL_law_180 : decode cL_law 180 = .ok (.aload_n 0, 1) := dk_42 (dk_at dksL_law_7 13 rfl rfl)
theorem dL_law_181 : decode cL_law 181 = .ok (.iload_n 3, 1) := dk_29 (dk_at dksL_law_7 14 rfl rfl)
theorem dL_law_182 : decode cL_law 182 = .ok (.iconst 5, 1) := dk_8 (dk_at dksL_law_7 15 rfl rfl)
theorem dL_law_183 : decode cL_law 183 = .ok (.iadd, 1) := dk_96 (dk_at dksL_law_7 16 rfl rfl)
theorem dL_law_184 : decode cL_law 184 = .ok (.iaload, 1) := dk_46 (dk_at dksL_law_7 17 rfl rfl)
theorem dL_law_185 : decode cL_law 185 = .ok (.invokevirtual 28, 3) := dk_182 0 28 (dk_at dksL_law_7 18 rfl rfl)
theorem dL_law_188 : decode cL_law 188 = .ok (.aload_n 2, 1) := dk_44 (dk_at dksL_law_7 21 rfl rfl)
theorem dL_law_189 : decode cL_law 189 = .ok (.aload_n 0, 1) := dk_42 (dk_at dksL_law_7 22 rfl rfl)
theorem dL_law_190 : decode cL_law 190 = .ok (.iload_n 3, 1) := dk_29 (dk_at dksL_law_7 23 rfl rfl)
theorem dL_law_191 : decode cL_law 191 = .ok (.iconst 1, 1) := dk_4 (dk_at dksL_law_8 0 rfl rfl)
theorem dL_law_192 : decode cL_law 192 = .ok (.iadd, 1) := dk_96 (dk_at dksL_law_8 1 rfl rfl)
theorem dL_law_193 : decode cL_law 193 = .ok (.iaload, 1) := dk_46 (dk_at dksL_law_8 2 rfl rfl)
theorem dL_law_194 : decode cL_law 194 = .ok (.aload_n 0, 1) := dk_42 (dk_at dksL_law_8 3 rfl rfl)
theorem dL_law_195 : decode cL_law 195 = .ok (.iload_n 3, 1) := dk_29 (dk_at dksL_law_8 4 rfl rfl)
theorem dL_law_196 : decode cL_law 196 = .ok (.iconst 2, 1) := dk_5 (dk_at dksL_law_8 5 rfl rfl)
theorem dL_law_197 : decode cL_law 197 = .ok (.iadd, 1) := dk_96 (dk_at dksL_law_8 6 rfl rfl)
theorem dL_law_198 : decode cL_law 198 = .ok (.iaload, 1) := dk_46 (dk_at dksL_law_8 7 rfl rfl)
theorem dL_law_199 : decode cL_law 199 = .ok (.aload_n 0, 1) := dk_42 (dk_at dksL_law_8 8 rfl rfl)
theorem dL_law_200 : decode cL_law 200 = .ok (.iload_n 3, 1) := dk_29 (dk_at dksL_law_8 9 rfl rfl)
theorem dL_law_201 : decode cL_law 201 = .ok (.iconst 3, 1) := dk_6 (dk_at dksL_law_8 10 rfl rfl)
theorem dL_law_202 : decode cL_law 202 = .ok (.iadd, 1) := dk_96 (dk_at dksL_law_8 11 rfl rfl)
theorem dL_law_203 : decode cL_law 203 = .ok (.iaload, 1) := dk_46 (dk_at dksL_law_8 12 rfl rfl)
theorem dL_law_204 : decode cL_law 204 = .ok (.aload_n 0, 1) := dk_42 (dk_at dksL_law_8 13 rfl rfl)
theorem dL_law_205 : decode cL_law 205 = .ok (.iload_n 3, 1) := dk_29 (dk_at dksL_law_8 14 rfl rfl)
theorem dL_law_206 : decode cL_law 206 = .ok (.iconst 4, 1) := dk_7 (dk_at dksL_law_8 15 rfl rfl)
theorem dL_law_207 : decode cL_law 207 = .ok (.iadd, 1) := dk_96 (dk_at dksL_law_8 16 rfl rfl)
theorem dL_law_208 : decode cL_law 208 = .ok (.iaload, 1) := dk_46 (dk_at dksL_law_8 17 rfl rfl)
theorem dL_law_209 : decode cL_law 209 = .ok (.aload_n 0, 1) := dk_42 (dk_at dksL_law_8 18 rfl rfl)
theorem dL_law_210 : decode cL_law 210 = .ok (.iload_n 3, 1) := dk_29 (dk_at dksL_law_8 19 rfl rfl)
theorem dL_law_211 : decode cL_law 211 = .ok (.iconst 5, 1) := dk_8 (dk_at dksL_law_8 20 rfl rfl)
theorem dL_law_212 : decode cL_law 212 = .ok (.iadd, 1) := dk_96 (dk_at dksL_law_8 21 rfl rfl)
theorem dL_law_213 : decode cL_law 213 = .ok (.iaload, 1) := dk_46 (dk_at dksL_law_8 22 rfl rfl)
theorem dL_law_214 : decode cL_law 214 = .ok (.invokevirtual 32, 3) := dk_182 0 32 (dk_at dksL_law_9 0 rfl rfl)
theorem dL_law_217 : decode cL_law 217 = .ok (.goto 57, 3) := dk_167 0 57 (dk_at dksL_law_9 3 rfl rfl)
theorem dL_law_220 : decode cL_law 220 = .ok (.aload_n 1, 1) := dk_43 (dk_at dksL_law_9 6 rfl rfl)
theorem dL_law_221 : decode cL_law 221 = .ok (.aload_n 0, 1) := dk_42 (dk_at dksL_law_9 7 rfl rfl)
theorem dL_law_222 : decode cL_law 222 = .ok (.iload_n 3, 1) := dk_29 (dk_at dksL_law_9 8 rfl rfl)
theorem dL_law_223 : decode cL_law 223 = .ok (.iconst 1, 1) := dk_4 (dk_at dksL_law_9 9 rfl rfl)
theorem dL_law_224 : decode cL_law 224 = .ok (.iadd, 1) := dk_96 (dk_at dksL_law_9 10 rfl rfl)
theorem dL_law_225 : decode cL_law 225 = .ok (.iaload, 1) := dk_46 (dk_at dksL_law_9 11 rfl rfl)
theorem dL_law_226 : decode cL_law 226 = .ok (.aload_n 0, 1) := dk_42 (dk_at dksL_law_9 12 rfl rfl)
theorem dL_law_227 : decode cL_law 227 = .ok (.iload_n 3, 1) := dk_29 (dk_at dksL_law_9 13 rfl rfl)
theorem dL_law_228 : decode cL_law 228 = .ok (.iconst 2, 1) := dk_5 (dk_at dksL_law_9 14 rfl rfl)
theorem dL_law_229 : decode cL_law 229 = .ok (.iadd, 1) := dk_96 (dk_at dksL_law_9 15 rfl rfl)
theorem dL_law_230 : decode cL_law 230 = .ok (.iaload, 1) := dk_46 (dk_at dksL_law_9 16 rfl rfl)
theorem dL_law_231 : decode cL_law 231 = .ok (.invokevirtual 33, 3) := dk_182 0 33 (dk_at dksL_law_9 17 rfl rfl)
theorem dL_law_234 : decode cL_law 234 = .ok (.aload_n 2, 1) := dk_44 (dk_at dksL_law_9 20 rfl rfl)
theorem dL_law_235 : decode cL_law 235 = .ok (.aload_n 0, 1) := dk_42 (dk_at dksL_law_9 21 rfl rfl)
theorem dL_law_236 : decode cL_law 236 = .ok (.iload_n 3, 1) := dk_29 (dk_at dksL_law_9 22 rfl rfl)
theorem dL_law_237 : decode cL_law 237 = .ok (.iconst 1, 1) := dk_4 (dk_at dksL_law_9 23 rfl rfl)
theorem dL_law_238 : decode cL_law 238 = .ok (.iadd, 1) := dk_96 (dk_at dksL_law_10 0 rfl rfl)
theorem dL_law_239 : decode cL_law 239 = .ok (.iaload, 1) := dk_46 (dk_at dksL_law_10 1 rfl rfl)
theorem dL_law_240 : decode cL_law 240 = .ok (.aload_n 0, 1) := dk_42 (dk_at dksL_law_10 2 rfl rfl)
theorem dL_law_241 : decode cL_law 241 = .ok (.iload_n 3, 1) := dk_29 (dk_at dksL_law_10 3 rfl rfl)
theorem dL_law_242 : decode cL_law 242 = .ok (.iconst 2, 1) := dk_5 (dk_at dksL_law_10 4 rfl rfl)
theorem dL_law_243 : decode cL_law 243 = .ok (.iadd, 1) := dk_96 (dk_at dksL_law_10 5 rfl rfl)
theorem dL_law_244 : decode cL_law 244 = .ok (.iaload, 1) := dk_46 (dk_at dksL_law_10 6 rfl rfl)
theorem dL_law_245 : decode cL_law 245 = .ok (.invokevirtual 37, 3) := dk_182 0 37 (dk_at dksL_law_10 7 rfl rfl)
theorem dL_law_248 : decode cL_law 248 = .ok (.goto 26, 3) := dk_167 0 26 (dk_at dksL_law_10 10 rfl rfl)
theorem dL_law_251 : decode cL_law 251 = .ok (.aload_n 1, 1) := dk_43 (dk_at dksL_law_10 13 rfl rfl)
theorem dL_law_252 : decode cL_law 252 = .ok (.aload_n 0, 1) := dk_42 (dk_at dksL_law_10 14 rfl rfl)
theorem dL_law_253 : decode cL_law 253 = .ok (.iload_n 3, 1) := dk_29 (dk_at dksL_law_10 15 rfl rfl)
theorem dL_law_254 : decode cL_law 254 = .ok (.iconst 1, 1) := dk_4 (dk_at dksL_law_10 16 rfl rfl)
theorem dL_law_255 : decode cL_law 255 = .ok (.iadd, 1) := dk_96 (dk_at dksL_law_10 17 rfl rfl)
theorem dL_law_256 : decode cL_law 256 = .ok (.iaload, 1) := dk_46 (dk_at dksL_law_10 18 rfl rfl)
theorem dL_law_257 : decode cL_law 257 = .ok (.invokevirtual 38, 3) := dk_182 0 38 (dk_at dksL_law_10 19 rfl rfl)
theorem dL_law_260 : decode cL_law 260 = .ok (.aload_n 2, 1) := dk_44 (dk_at dksL_law_10 22 rfl rfl)
theorem dL_law_261 : decode cL_law 261 = .ok (.aload_n 0, 1) := dk_42 (dk_at dksL_law_10 23 rfl rfl)
theorem dL_law_262 : decode cL_law 262 = .ok (.iload_n 3, 1) := dk_29 (dk_at dksL_law_11 0 rfl rfl)
theorem dL_law_263 : decode cL_law 263 = .ok (.iconst 1, 1) := dk_4 (dk_at dksL_law_11 1 rfl rfl)
theorem dL_law_264 : decode cL_law 264 = .ok (.iadd, 1) := dk_96 (dk_at dksL_law_11 2 rfl rfl)
theorem dL_law_265 : decode cL_law 265 = .ok (.iaload, 1) := dk_46 (dk_at dksL_law_11 3 rfl rfl)
theorem dL_law_266 : decode cL_law 266 = .ok (.invokevirtual 42, 3) := dk_182 0 42 (dk_at dksL_law_11 4 rfl rfl)
theorem dL_law_269 : decode cL_law 269 = .ok (.if_icmp .eq 5, 3) := dk_159 0 5 (dk_at dksL_law_11 7 rfl rfl)
theorem dL_law_272 : decode cL_law 272 = .ok (.iconst 0, 1) := dk_3 (dk_at dksL_law_11 10 rfl rfl)
theorem dL_law_273 : decode cL_law 273 = .ok (.ireturn, 1) := dk_172 (dk_at dksL_law_11 11 rfl rfl)
theorem dL_law_274 : decode cL_law 274 = .ok (.iinc 3 6, 3) := dk_132 3 6 (dk_at dksL_law_11 12 rfl rfl)
theorem dL_law_277 : decode cL_law 277 = .ok (.goto (-259), 3) := dk_167 254 253 (dk_at dksL_law_11 15 rfl rfl)
theorem dL_law_280 : decode cL_law 280 = .ok (.iconst 1, 1) := dk_4 (dk_at dksL_law_11 18 rfl rfl)
theorem dL_law_281 : decode cL_law 281 = .ok (.ireturn, 1) := dk_172 (dk_at dksL_law_11 19 rfl rfl)
end
section
/-! base rows of ours: tops of the stack by another name; a world that a reader leaves as it was -/
section OtBase
variable {p : Program} {l : Launch} {e : Env} {R : Room} {s : State} {m : MethodId} {args : Array Value} {below : List Frame} {meth : Method} {c : Code} {H : Heap} {locs : List Loc} {cells slots : Nat} {Q : State → Prop}
variable {pc : Nat} {ls : Array Slot} {rest : List Value}
theorem ot_topi {x : Int32} (y : Int32) (h : x = y) (k : W p l e R s m args below meth c H locs cells slots Q (F0 m pc ls (.int y :: rest))) : W p l e R s m args below meth c H locs cells slots Q (F0 m pc ls (.int x :: rest)) := h ▸ k
theorem ot_topl {x : Int64} (y : Int64) (h : x = y) (k : W p l e R s m args below meth c H locs cells slots Q (F0 m pc ls (.long y :: rest))) : W p l e R s m args below meth c H locs cells slots Q (F0 m pc ls (.long x :: rest)) := h ▸ k
theorem ot_back {A0 : Nat → Prop} {D : va_G} {cl : List vw_C} {ws wc : va_W} {H1 : Heap} (hP : va_P D cl ws H) (hD : va_D A0 ws) (isC : List Nat) (hC : isC.map (fun i => ws[i]?) = wc.map some)
    (hk : ∀ q : Nat, q < H.size → ¬ va_A wc H.size q → H1[q]? = H[q]?) (hP1 : va_P D cl wc H1) : va_P D cl ws H1 := by
  intro k q hq
  by_cases hw : ∃ (j : Nat) (ee : va_E), wc[j]? = some (q.1, ee)
  · obtain ⟨j, ee, hj⟩ := hw
    have h1 : (isC.map (fun i => ws[i]?))[j]? = some (some (q.1, ee)) := by rw [hC, List.getElem?_map, hj]; rfl
    rw [List.getElem?_map] at h1
    cases hi : isC[j]? with
    | none => rw [hi] at h1; cases h1
    | some i =>
      rw [hi] at h1
      have h2 : ws[i]? = some (q.1, ee) := by simpa using h1
      have h3 := hD.1 k i q _ hq h2 rfl
      subst h3
      rw [hq] at h2
      have h4 : q = (q.1, ee) := by simpa using h2
      rw [h4]
      exact hP1 j _ hj
  · have hat := hP k q hq
    have hlt : q.1 < H.size := hat.lt
    refine va_at.kept hat (hk q.1 hlt ?_)
    intro hA
    rcases hA with h | h
    · exact hw h
    · omega
end OtBase
end
section
/-! rows on bits, shifts and unsigned numbers, to paste: each family out of a closed proof of our own, whole with what it rests on; each by itself clean at Lean in its own claim (generation 39, form 5). Take a family whole -/
/-! ===== Int32 by its bits: bt x i ===== -/
def bt (x : Int32) (i : Nat) : Bool := x.toBitVec.getLsbD i
theorem b_ext {x y : Int32} (h : ∀ i, i < 32 → bt x i = bt y i) : x = y := Int32.toBitVec_inj.mp (BitVec.eq_of_getLsbD_eq (fun i hi => h i hi))
theorem b_or (x y : Int32) (i : Nat) : bt (x ||| y) i = (bt x i || bt y i) := by unfold bt; rw [Int32.toBitVec_or, BitVec.getLsbD_or]
theorem b_and (x y : Int32) (i : Nat) : bt (x &&& y) i = (bt x i && bt y i) := by unfold bt; rw [Int32.toBitVec_and, BitVec.getLsbD_and]
theorem b_xor (x y : Int32) (i : Nat) : bt (x ^^^ y) i = (bt x i ^^ bt y i) := by unfold bt; rw [Int32.toBitVec_xor, BitVec.getLsbD_xor]
theorem b_big {x : Int32} {i : Nat} (h : 32 ≤ i) : bt x i = false := BitVec.getLsbD_of_ge _ _ h
theorem b_255 (i : Nat) : bt 255 i = decide (i < 8) := by
  rcases Nat.lt_or_ge i 32 with h | h
  · exact (by decide +kernel : ∀ i, i < 32 → bt 255 i = decide (i < 8)) i h
  · rw [b_big h, decide_eq_false (by omega)]
theorem b_65535 (i : Nat) : bt 65535 i = decide (i < 16) := by
  rcases Nat.lt_or_ge i 32 with h | h
  · exact (by decide +kernel : ∀ i, i < 32 → bt 65535 i = decide (i < 16)) i h
  · rw [b_big h, decide_eq_false (by omega)]
theorem b_m1 : ∀ i, i < 32 → bt (-1) i = true := by decide +kernel
theorem b_0 (i : Nat) : bt 0 i = false := BitVec.getLsbD_zero
theorem s_l : ∀ n, n < 32 → ((nI n &&& 31).toBitVec.smod 32).toNat = n := by decide +kernel
theorem s_u : ∀ n, n < 32 → (((nI n).toUInt32 &&& Int32.toUInt32 31).toBitVec % 32).toNat = n := by decide +kernel
theorem b_shl (n : Nat) (hn : n < 32) (x : Int32) {i : Nat} (hi : i < 32) : bt (x <<< (nI n &&& 31)) i = (decide (n ≤ i) && bt x (i - n)) := by
  unfold bt
  rw [Int32.toBitVec_shiftLeft]
  show (x.toBitVec <<< ((nI n &&& 31).toBitVec.smod 32).toNat).getLsbD i = _
  rw [s_l n hn, BitVec.getLsbD_shiftLeft]
  rcases Nat.lt_or_ge i n with h | h
  · simp [h, Nat.not_le.mpr h]
  · simp [hi, h, Nat.not_lt.mpr h]
theorem b_ushr (n : Nat) (hn : n < 32) (x : Int32) (i : Nat) : bt ((x.toUInt32 >>> ((nI n).toUInt32 &&& Int32.toUInt32 31)).toInt32) i = bt x (n + i) := by
  show (x.toUInt32 >>> ((nI n).toUInt32 &&& Int32.toUInt32 31)).toBitVec.getLsbD i = x.toUInt32.toBitVec.getLsbD (n + i)
  rw [UInt32.toBitVec_shiftRight]
  show (x.toUInt32.toBitVec >>> (((nI n).toUInt32 &&& Int32.toUInt32 31).toBitVec % 32).toNat).getLsbD i = _
  rw [s_u n hn, BitVec.getLsbD_ushiftRight]
theorem b_sshr (n : Nat) (hn : n < 32) (x : Int32) {i : Nat} (hi : i < 32) : bt (x >>> (nI n &&& 31)) i = if n + i < 32 then bt x (n + i) else bt x 31 := by
  unfold bt
  rw [Int32.toBitVec_shiftRight]
  show (x.toBitVec.sshiftRight ((nI n &&& 31).toBitVec.smod 32).toNat).getLsbD i = _
  rw [s_l n hn, BitVec.getLsbD_sshiftRight, BitVec.msb_eq_getLsbD_last]
  simp [hi]
theorem b_shl8 (x : Int32) {i : Nat} (hi : i < 32) : bt (x <<< ((8 : Int32) &&& 31)) i = (decide (8 ≤ i) && bt x (i - 8)) := b_shl 8 (by omega) x hi
theorem b_shl16 (x : Int32) {i : Nat} (hi : i < 32) : bt (x <<< ((16 : Int32) &&& 31)) i = (decide (16 ≤ i) && bt x (i - 16)) := b_shl 16 (by omega) x hi
theorem b_shl24 (x : Int32) {i : Nat} (hi : i < 32) : bt (x <<< ((24 : Int32) &&& 31)) i = (decide (24 ≤ i) && bt x (i - 24)) := b_shl 24 (by omega) x hi
theorem b_sshr8 (x : Int32) {i : Nat} (hi : i < 32) : bt (x >>> ((8 : Int32) &&& 31)) i = if 8 + i < 32 then bt x (8 + i) else bt x 31 := b_sshr 8 (by omega) x hi
/-! ===== nI under and, xor, >>>, one bit, 65535 ===== -/
theorem nx_and (a b : Nat) : nI a &&& nI b = nI (a &&& b) := by
  apply Int32.toBitVec_inj.1
  show BitVec.ofNat 32 a &&& BitVec.ofNat 32 b = BitVec.ofNat 32 (a &&& b)
  apply BitVec.eq_of_getLsbD_eq
  intro i hi
  simp [hi]
theorem nx_xor (a b : Nat) : nI a ^^^ nI b = nI (a ^^^ b) := by
  apply Int32.toBitVec_inj.1
  show BitVec.ofNat 32 a ^^^ BitVec.ofNat 32 b = BitVec.ofNat 32 (a ^^^ b)
  apply BitVec.eq_of_getLsbD_eq
  intro i hi
  simp [hi]
theorem nx_cnt : ∀ j : Fin 32, (UInt32.ofNat j.val &&& Int32.toUInt32 31).toNat % 32 = j.val := by decide +kernel
theorem nx_ush {k j : Nat} (hk : k < 65536) (hj : j < 32) : ((nI k).toUInt32 >>> ((nI j).toUInt32 &&& Int32.toUInt32 31)).toInt32 = nI (k >>> j) := by
  have hs : k >>> j ≤ k := by
    rw [Nat.shiftRight_eq_div_pow]
    exact Nat.div_le_self _ _
  have e2 : UInt32.ofNat k >>> (UInt32.ofNat j &&& Int32.toUInt32 31) = UInt32.ofNat (k >>> j) := by
    apply UInt32.toNat_inj.1
    have h1 : (UInt32.ofNat k).toNat = k := Nat.mod_eq_of_lt (by omega)
    have h2 : (UInt32.ofNat (k >>> j)).toNat = k >>> j := Nat.mod_eq_of_lt (by omega)
    rw [UInt32.toNat_shiftRight, nx_cnt ⟨j, hj⟩, h1, h2]
  show (UInt32.ofNat k >>> (UInt32.ofNat j &&& Int32.toUInt32 31)).toInt32 = _
  rw [e2]
  rfl
theorem nx_bit {k j : Nat} (hk : k < 65536) (hj : j < 16) : (((nI k).toUInt32 >>> ((nI j).toUInt32 &&& Int32.toUInt32 31)).toInt32 &&& 1) = 0 ↔ k.testBit j = false := by
  rw [nx_ush hk (by omega)]
  show nI (k >>> j) &&& nI 1 = 0 ↔ _
  rw [nx_and, Nat.and_one_is_mod, ← nI_0, nI_eq (by omega) (by omega), Nat.testBit_eq_decide_div_mod_eq, Nat.shiftRight_eq_div_pow, decide_eq_false_iff_not]
  generalize k / 2 ^ j = z
  omega
theorem nx_mod (k : Nat) : nI k &&& 65535 = nI (k % 65536) := by
  show nI k &&& nI 65535 = _
  rw [nx_and, show (65535 : Nat) = 2 ^ 16 - 1 from rfl, Nat.and_two_pow_sub_one_eq_mod]
theorem nx_m16 {k : Nat} (h : k < 65536) : nI k &&& 65535 = nI k := by rw [nx_mod, Nat.mod_eq_of_lt h]
theorem nx_mask (x : Int32) : ∃ k, k < 65536 ∧ x &&& 65535 = nI k := by
  have e : x = nI x.toBitVec.toNat := by
    apply Int32.toBitVec_inj.1
    show x.toBitVec = BitVec.ofNat 32 x.toBitVec.toNat
    simp
  refine ⟨x.toBitVec.toNat % 65536, Nat.mod_lt _ (by omega), ?_⟩
  rw [← nx_mod, ← e]
/-! ===== Int32 as a set of bits: test, set ===== -/
def nf_M (m : Int32) : Nat := 4294967296 - m.toBitVec.toNat
theorem nf_sh : ∀ l, l < 32 → ((1 : Int32) <<< (nI l &&& 31)).toBitVec = BitVec.twoPow 32 l := by decide +kernel
theorem nf_sl : ∀ l, l < 32 → (((nI l).toUInt32 &&& Int32.toUInt32 31).toBitVec % 32).toNat = l := by decide +kernel
theorem nf_tp : ∀ l, l < 32 → BitVec.twoPow 32 l ≠ 0#32 := by decide +kernel
theorem nf_bit (m : Int32) (l : Nat) (hl : l < 32) : ((m.toUInt32 >>> ((nI l).toUInt32 &&& Int32.toUInt32 31)).toInt32 &&& 1) = 0 ↔ (m &&& ((1 : Int32) <<< (nI l &&& 31))) = 0 := by
  have e : ((m.toUInt32 >>> ((nI l).toUInt32 &&& Int32.toUInt32 31)).toInt32).toBitVec = m.toBitVec >>> l := by
    show m.toBitVec >>> (((nI l).toUInt32 &&& Int32.toUInt32 31).toBitVec % 32) = m.toBitVec >>> l
    rw [BitVec.ushiftRight_eq', nf_sl l hl]
  rw [← Int32.toBitVec_inj, ← Int32.toBitVec_inj, Int32.toBitVec_and, Int32.toBitVec_and, nf_sh l hl, e, BitVec.and_twoPow]
  show (m.toBitVec >>> l &&& 1#32) = 0#32 ↔ _ = 0#32
  rw [BitVec.and_one_eq_setWidth_ofBool_getLsbD, BitVec.getLsbD_ushiftRight, Nat.add_zero]
  cases hb : m.toBitVec.getLsbD l
  · exact ⟨fun _ => by simp, fun _ => by decide⟩
  · exact ⟨fun z => absurd z (by decide), fun z => absurd ((if_pos rfl).symm.trans z) (nf_tp l hl)⟩
theorem nf_gr (m k : Int32) (h : m &&& k = 0) (hk : k ≠ 0) : nf_M (m ||| k) < nf_M m := by
  have hm := m.toBitVec.isLt
  have hm' := (m ||| k).toBitVec.isLt
  have h1 : m.toBitVec.toNat ≤ (m ||| k).toBitVec.toNat := by
    rw [Int32.toBitVec_or, BitVec.toNat_or]
    exact Nat.left_le_or
  have h2 : m.toBitVec.toNat ≠ (m ||| k).toBitVec.toNat := by
    intro e
    have e2 : m = m ||| k := Int32.toBitVec_inj.mp (BitVec.eq_of_toNat_eq e)
    apply hk
    apply Int32.toBitVec_inj.mp
    show k.toBitVec = 0#32
    apply BitVec.eq_of_getLsbD_eq
    intro i hi
    have a : m.toBitVec.getLsbD i = (m.toBitVec.getLsbD i || k.toBitVec.getLsbD i) := by rw [← BitVec.getLsbD_or, ← Int32.toBitVec_or, ← e2]
    have b : (m.toBitVec.getLsbD i && k.toBitVec.getLsbD i) = false := by
      rw [← BitVec.getLsbD_and, ← Int32.toBitVec_and, h]
      exact BitVec.getLsbD_zero
    rw [BitVec.getLsbD_zero]
    revert a b
    cases m.toBitVec.getLsbD i <;> cases k.toBitVec.getLsbD i <;> simp
  unfold nf_M
  omega
/-! ===== a byte read unsigned ===== -/
theorem bp_b (x : Int32) : x.toInt8.toInt32 &&& 255 = x &&& 255 := by
  apply Int32.toBitVec_inj.mp
  rw [Int32.toBitVec_and, Int32.toBitVec_and, Int8.toBitVec_toInt32, Int32.toBitVec_toInt8]
  apply BitVec.eq_of_getLsbD_eq
  intro i hi
  rw [BitVec.getLsbD_and, BitVec.getLsbD_and]
  have hm : ∀ i < 32, 8 ≤ i → (255 : Int32).toBitVec.getLsbD i = false := by decide
  rcases Nat.lt_or_ge i 8 with z | z
  · rw [BitVec.getLsbD_signExtend, BitVec.getLsbD_signExtend, if_pos z, if_pos hi]
    simp only [z, hi, decide_true, Bool.true_and]
  · rw [hm i hi z]; simp
/-! ===== the char cast and 65535 ===== -/
/-! ===== Int64 as a set of bits: test, set, clear ===== -/
theorem ts_nf {x : Bool} (h : ¬ x = false) : x = true := by cases x <;> first | rfl | exact absurd rfl h
theorem ts_nt {x : Bool} (h : ¬ x = true) : x = false := by cases x <;> first | rfl | exact absurd rfl h
theorem ts_bit {w : Int64} {s : UInt64} {j : Nat} (hj : j < 64) (hs : s.toNat = j) : ((w.toUInt64 >>> s).toInt64 &&& 1) = 0 ↔ w.toBitVec.getLsbD j = false := by
  have e : (w.toUInt64 >>> s).toInt64.toBitVec = w.toBitVec >>> j := by
    apply BitVec.eq_of_toNat_eq
    show (w.toUInt64 >>> s).toNat = _
    rw [UInt64.toNat_shiftRight, hs, Nat.mod_eq_of_lt hj, BitVec.toNat_ushiftRight]
    rfl
  rw [← Int64.toBitVec_inj, Int64.toBitVec_and, e]
  show w.toBitVec >>> j &&& 1#64 = 0#64 ↔ _
  constructor
  · intro h
    have t := congrArg (fun x => x.getLsbD 0) h
    simpa using t
  · intro h
    apply BitVec.eq_of_getLsbD_eq
    intro i hi
    cases i with
    | zero => simp [h]
    | succ i => simp
theorem ts_or {w m : Int64} {j : Nat} (hj : j < 64) (hm : m.toBitVec = BitVec.twoPow 64 j) : (w ||| m) = w ↔ w.toBitVec.getLsbD j = true := by
  rw [← Int64.toBitVec_inj, Int64.toBitVec_or, hm]
  constructor
  · intro h
    have t := congrArg (fun x => x.getLsbD j) h
    simp only [BitVec.getLsbD_or, BitVec.getLsbD_twoPow] at t
    simpa [hj] using t.symm
  · intro h
    apply BitVec.eq_of_getLsbD_eq
    intro i hi
    rw [BitVec.getLsbD_or, BitVec.getLsbD_twoPow]
    by_cases e : j = i
    · subst e; rw [h, Bool.true_or]
    · simp [e]
theorem ts_and {w m : Int64} {j : Nat} (hj : j < 64) (hm : m.toBitVec = BitVec.twoPow 64 j) : (w &&& (m ^^^ (-1))) = w ↔ w.toBitVec.getLsbD j = false := by
  have ha : (-1 : Int64).toBitVec = BitVec.allOnes 64 := by decide
  rw [← Int64.toBitVec_inj, Int64.toBitVec_and, Int64.toBitVec_xor, hm, ha]
  constructor
  · intro h
    have t := congrArg (fun x => x.getLsbD j) h
    simp only [BitVec.getLsbD_and, BitVec.getLsbD_xor, BitVec.getLsbD_twoPow, BitVec.getLsbD_allOnes] at t
    simpa [hj] using t.symm
  · intro h
    apply BitVec.eq_of_getLsbD_eq
    intro i hi
    rw [BitVec.getLsbD_and, BitVec.getLsbD_xor, BitVec.getLsbD_twoPow, BitVec.getLsbD_allOnes]
    by_cases e : j = i
    · subst e; rw [h, Bool.false_and]
    · simp [e, hi]
/-! ===== lN n to 2^64: shifts, and, or, masks, one bit ===== -/
theorem wb_tb (n : Nat) : (lN n).toBitVec = BitVec.ofNat 64 n := rfl
theorem wb_inj {a b : Int64} (h : a.toBitVec = b.toBitVec) : a = b := Int64.toBitVec_inj.mp h
theorem wb_tn {n : Nat} (h : n < 2 ^ 64) : (lN n).toBitVec.toNat = n := by rw [wb_tb, BitVec.toNat_ofNat, Nat.mod_eq_of_lt h]
theorem wb_of (x : Int64) : ∃ n, n < 2 ^ 64 ∧ x = lN n := ⟨x.toBitVec.toNat, x.toBitVec.isLt, wb_inj (by rw [wb_tb]; simp)⟩
theorem wb_of32 (x : Int32) : ∃ n, n < 2 ^ 32 ∧ x = nI n := ⟨x.toBitVec.toNat, x.toBitVec.isLt, Int32.toBitVec_inj.mp (by show _ = BitVec.ofNat 32 _; simp)⟩
theorem wb_c : ∀ k, k < 64 → ((nI k).toInt64 &&& 63) = lN k := by decide +kernel
theorem wb_cu : ∀ k, k < 64 → ((nI k).toInt64.toUInt64 &&& Int64.toUInt64 63) = UInt64.ofNat k := by decide +kernel
theorem wb_sm : ∀ k, k < 64 → (BitVec.ofNat 64 k).smod 64 = BitVec.ofNat 64 k := by decide +kernel
theorem wb_pw {a b : Nat} (h : a ≤ b) : 2 ^ b = 2 ^ a * 2 ^ (b - a) := by rw [← Nat.pow_add]; congr 1; omega
theorem wb_lt2 {a b : Nat} (h : a < b) : 2 ^ a < 2 ^ b := Nat.pow_lt_pow_right (by decide) h
theorem wb_mod (n : Nat) : lN n = lN (n % 2 ^ 64) := wb_inj (by rw [wb_tb, wb_tb]; apply BitVec.eq_of_toNat_eq; rw [BitVec.toNat_ofNat, BitVec.toNat_ofNat, Nat.mod_mod])
theorem wb_shr {n k : Nat} (hn : n < 2 ^ 64) (hk : k < 64) : ((lN n).toUInt64 >>> ((nI k).toInt64.toUInt64 &&& Int64.toUInt64 63)).toInt64 = lN (n / 2 ^ k) := by
  rw [wb_cu k hk]
  apply wb_inj
  apply BitVec.eq_of_toNat_eq
  show ((lN n).toUInt64 >>> UInt64.ofNat k).toNat = (BitVec.ofNat 64 _).toNat
  have h1 : (UInt64.ofNat k).toNat = k := by
    show (BitVec.ofNat 64 k).toNat = k
    rw [BitVec.toNat_ofNat, Nat.mod_eq_of_lt (by omega)]
  have h2 : (lN n).toUInt64.toNat = n := wb_tn hn
  rw [UInt64.toNat_shiftRight, h1, h2, Nat.mod_eq_of_lt hk, Nat.shiftRight_eq_div_pow, BitVec.toNat_ofNat, Nat.mod_eq_of_lt (Nat.lt_of_le_of_lt (Nat.div_le_self _ _) hn)]
theorem wb_shl (n : Nat) {k : Nat} (hk : k < 64) : lN n <<< ((nI k).toInt64 &&& 63) = lN (n * 2 ^ k) := by
  rw [wb_c k hk]
  apply wb_inj
  rw [Int64.toBitVec_shiftLeft, wb_tb, wb_tb, wb_tb, wb_sm k hk]
  apply BitVec.eq_of_toNat_eq
  rw [BitVec.shiftLeft_eq', BitVec.toNat_shiftLeft, BitVec.toNat_ofNat, BitVec.toNat_ofNat, BitVec.toNat_ofNat, Nat.mod_eq_of_lt (show k < 2 ^ 64 by omega), Nat.shiftLeft_eq, Nat.mul_mod, Nat.mod_mod, ← Nat.mul_mod]
theorem wb_and {a b : Nat} (ha : a < 2 ^ 64) (hb : b < 2 ^ 64) : lN a &&& lN b = lN (a &&& b) := by
  apply wb_inj
  rw [Int64.toBitVec_and, wb_tb, wb_tb, wb_tb]
  apply BitVec.eq_of_toNat_eq
  rw [BitVec.toNat_and, BitVec.toNat_ofNat, BitVec.toNat_ofNat, BitVec.toNat_ofNat, Nat.mod_eq_of_lt ha, Nat.mod_eq_of_lt hb, Nat.mod_eq_of_lt (Nat.and_lt_two_pow _ hb)]
theorem wb_or {a b : Nat} (ha : a < 2 ^ 64) (hb : b < 2 ^ 64) : lN a ||| lN b = lN (a ||| b) := by
  apply wb_inj
  rw [Int64.toBitVec_or, wb_tb, wb_tb, wb_tb]
  apply BitVec.eq_of_toNat_eq
  rw [BitVec.toNat_or, BitVec.toNat_ofNat, BitVec.toNat_ofNat, BitVec.toNat_ofNat, Nat.mod_eq_of_lt ha, Nat.mod_eq_of_lt hb, Nat.mod_eq_of_lt (Nat.or_lt_two_pow ha hb)]
theorem wb_mask {n k : Nat} (hn : n < 2 ^ 64) (hk : k < 64) : lN n &&& lN (2 ^ k - 1) = lN (n % 2 ^ k) := by
  rw [wb_and hn (by have := wb_lt2 hk; omega), Nat.and_two_pow_sub_one_eq_mod]
theorem wb_a1 {n : Nat} (hn : n < 2 ^ 64) : lN n &&& 1 = lN (n % 2) := wb_mask (k := 1) hn (by decide)
theorem wb_bit {n k : Nat} (hn : n < 2 ^ 64) (hk : k < 64) : ((lN n).toUInt64 >>> ((nI k).toInt64.toUInt64 &&& Int64.toUInt64 63)).toInt64 &&& 1 = lN (n / 2 ^ k % 2) := by
  rw [wb_shr hn hk, wb_a1 (Nat.lt_of_le_of_lt (Nat.div_le_self _ _) hn)]
theorem wb_xor {q k : Nat} (hk : k < 63) (h : 2 ^ k ≤ q) (h2 : q < 2 ^ (k + 1)) : lN q ^^^ lN (2 ^ k) = lN (q - 2 ^ k) := by
  obtain ⟨r, rfl⟩ : ∃ r, q = 2 ^ k + r := ⟨q - 2 ^ k, by omega⟩
  have hr : r < 2 ^ k := by rw [Nat.pow_succ] at h2; omega
  have hx : (2 ^ k + r) ^^^ 2 ^ k = r := by
    apply Nat.eq_of_testBit_eq
    intro i
    rw [Nat.testBit_xor, Nat.testBit_two_pow]
    rcases Nat.lt_trichotomy i k with h | h | h
    · rw [Nat.testBit_two_pow_add_gt h]
      simp [show ¬ k = i by omega]
    · subst h
      rw [Nat.testBit_two_pow_add_eq]
      simp
    · have a1 : 2 ^ (k + 1) ≤ 2 ^ i := Nat.pow_le_pow_right (by decide) h
      rw [Nat.testBit_lt_two_pow (show 2 ^ k + r < 2 ^ i by omega), Nat.testBit_lt_two_pow (show r < 2 ^ i by omega)]
      simp [show ¬ k = i by omega]
  have b1 := wb_lt2 (show k + 1 < 64 by omega)
  have b2 := wb_lt2 (show k < 64 by omega)
  apply wb_inj
  rw [Int64.toBitVec_xor, wb_tb, wb_tb, wb_tb]
  apply BitVec.eq_of_toNat_eq
  rw [BitVec.toNat_xor, BitVec.toNat_ofNat, BitVec.toNat_ofNat, BitVec.toNat_ofNat, Nat.mod_eq_of_lt (by omega : 2 ^ k + r < 2 ^ 64), Nat.mod_eq_of_lt b2, hx, Nat.add_sub_cancel_left, Nat.mod_eq_of_lt (by omega)]
/-! ===== lN: masks, 'or' of parts that don't overlap is a sum ===== -/
theorem u_tn {n : Nat} (h : n < 2 ^ 64) : (UInt64.ofNat n).toNat = n := Nat.mod_eq_of_lt h
theorem g_and {a b c : Nat} (ha : a < 2 ^ 64) (hb : b < 2 ^ 64) (hc : a &&& b = c) : lN a &&& lN b = lN c := by
  subst hc
  have h : UInt64.ofNat a &&& UInt64.ofNat b = UInt64.ofNat (a &&& b) := UInt64.toNat_inj.mp (by rw [UInt64.toNat_and, u_tn ha, u_tn hb, u_tn (Nat.and_lt_two_pow a hb)])
  have h2 := congrArg UInt64.toInt64 h
  exact h2
theorem g_and1 {a : Nat} (ha : a < 2 ^ 64) : lN a &&& 1 = lN (a % 2) := g_and (b := 1) ha (by decide) (Nat.and_two_pow_sub_one_eq_mod a 1)
theorem g_mask {a s p : Nat} (hp : 2 ^ s = p) (hs : s < 64) (ha : a < 2 ^ 64) : lN a &&& lN (p - 1) = lN (a % p) := by
  subst hp
  have := Nat.pow_lt_pow_right (show 1 < 2 by decide) hs
  exact g_and ha (by omega) (Nat.and_two_pow_sub_one_eq_mod a s)
theorem g_or {k p a b : Nat} (hp : 2 ^ k = p) (ha : a < p) (h : b * p + a < 2 ^ 64) : lN (b * p) ||| lN a = lN (b * p + a) := by
  subst hp
  have h1 : b * 2 ^ k ||| a = b * 2 ^ k + a := by rw [← Nat.shiftLeft_eq, Nat.shiftLeft_add_eq_or_of_lt ha]
  have h3 : UInt64.ofNat (b * 2 ^ k) ||| UInt64.ofNat a = UInt64.ofNat (b * 2 ^ k + a) := UInt64.toNat_inj.mp (by rw [UInt64.toNat_or, u_tn (by omega), u_tn (by omega), u_tn h, h1])
  have h2 := congrArg UInt64.toInt64 h3
  exact h2
theorem g_or' {k p a b : Nat} (hp : 2 ^ k = p) (ha : a < p) (h : a + b * p < 2 ^ 64) : lN a ||| lN (b * p) = lN (a + b * p) := by
  rw [Int64.or_comm, g_or hp ha (by omega), Nat.add_comm]
theorem g_ushr {a k p : Nat} {y : UInt64} (hy : y = UInt64.ofNat k) (hk : k < 64) (hp : 2 ^ k = p) (ha : a < 2 ^ 64) : ((lN a).toUInt64 >>> y).toInt64 = lN (a / p) := by
  subst hy hp
  have h : UInt64.ofNat a >>> UInt64.ofNat k = UInt64.ofNat (a / 2 ^ k) := UInt64.toNat_inj.mp (by rw [UInt64.toNat_shiftRight, u_tn ha, u_tn (by omega), u_tn (Nat.lt_of_le_of_lt (Nat.div_le_self _ _) ha), Nat.mod_eq_of_lt hk, Nat.shiftRight_eq_div_pow])
  have h2 := congrArg UInt64.toInt64 h
  exact h2
theorem g_shl {a k p : Nat} {y : Int64} (hy : y.toBitVec.smod 64 = BitVec.ofNat 64 k) (hk : k < 64) (hp : 2 ^ k = p) (ha : a < 2 ^ 64) : lN a <<< y = lN (a * p) := by
  subst hp
  apply Int64.toBitVec_inj.mp
  rw [Int64.toBitVec_shiftLeft, hy]
  apply BitVec.eq_of_toNat_eq
  have hb : (lN a).toBitVec.toNat = a := Nat.mod_eq_of_lt ha
  have hk' : (BitVec.ofNat 64 k).toNat = k := Nat.mod_eq_of_lt (by omega)
  have h : ((lN a).toBitVec <<< BitVec.ofNat 64 k).toNat = (a * 2 ^ k) % 2 ^ 64 := by simp only [BitVec.shiftLeft_eq', BitVec.toNat_shiftLeft, hb, hk', Nat.shiftLeft_eq]
  exact h
/-! ===== lN to 2^62 under >> and >>> ===== -/
theorem pf_lI {a : Nat} (h : a < 2 ^ 63) : (lN a).toInt = (a : Int) := lg_ofNat_toInt h
theorem pf_shr {a d : Nat} {D : Int64} (hD : (D.toBitVec.smod 64).toNat = d) (h : a < 2 ^ 62) : lN a >>> D = lN (a / 2 ^ d) := by
  have hd : a / 2 ^ d ≤ a := Nat.div_le_self _ _
  apply Int64.toInt_inj.mp
  have e : (lN a >>> D).toInt = (lN a).toInt >>> d := by
    rw [← hD]
    exact BitVec.toInt_sshiftRight ..
  rw [e, Int.shiftRight_eq_div_pow, pf_lI (by omega), pf_lI (by omega)]
  rfl
theorem pf_ushr {a d : Nat} {D : UInt64} (hD : D.toNat % 64 = d) (h : a < 2 ^ 62) : ((lN a).toUInt64 >>> D).toInt64 = lN (a / 2 ^ d) := by
  have hd : a / 2 ^ d ≤ a := Nat.div_le_self _ _
  have e : (lN a).toUInt64 >>> D = UInt64.ofNat (a / 2 ^ d) := UInt64.toNat_inj.mp (by
    rw [UInt64.toNat_shiftRight, hD, Nat.shiftRight_eq_div_pow, UInt64.toNat_ofNat']
    show (UInt64.ofNat a).toNat / 2 ^ d = _
    rw [UInt64.toNat_ofNat', Nat.mod_eq_of_lt (by omega), Nat.mod_eq_of_lt (by omega)])
  rw [e]
  rfl
theorem pf_andw (x : Int64) : ∃ m, m < 2 ^ 32 ∧ x &&& 4294967295 = lN m := ⟨x.toBitVec.toNat % 2 ^ 32, Nat.mod_lt _ (by decide), Int64.toBitVec_inj.mp (BitVec.eq_of_toNat_eq (by
  show (x.toBitVec &&& 4294967295#64).toNat = (BitVec.ofNat 64 (x.toBitVec.toNat % 2 ^ 32)).toNat
  rw [BitVec.toNat_and, show (4294967295#64).toNat = 2 ^ 32 - 1 from by decide, Nat.and_two_pow_sub_one_eq_mod, BitVec.toNat_ofNat]
  omega))⟩
/-! ===== Int64 as an unsigned number: uN x ===== -/
def uN (x : Int64) : Nat := x.toUInt64.toNat
theorem uN_lt (x : Int64) : uN x < 18446744073709551616 := x.toUInt64.toNat_lt
theorem uN_inj {x y : Int64} (h : uN x = uN y) : x = y := congrArg UInt64.toInt64 (UInt64.toNat_inj.mp h)
theorem uN_add (x y : Int64) : uN (x + y) = (uN x + uN y) % 18446744073709551616 := by
  show (x.toUInt64 + y.toUInt64).toNat = _
  exact UInt64.toNat_add _ _
theorem uN_mul (x y : Int64) : uN (x * y) = (uN x * uN y) % 18446744073709551616 := by
  show (x.toUInt64 * y.toUInt64).toNat = _
  exact UInt64.toNat_mul _ _
theorem uN_shl (x : Int64) : uN (x <<< ((1 : Int32).toInt64 &&& 63)) = (2 * uN x) % 18446744073709551616 := by
  have h : (((1 : Int32).toInt64 &&& 63).toBitVec.smod 64).toNat = 1 := by decide
  show (x.toBitVec <<< (((1 : Int32).toInt64 &&& 63).toBitVec.smod 64).toNat).toNat = _
  rw [h, BitVec.toNat_shiftLeft, Nat.shiftLeft_eq, Nat.mul_comm]
  rfl
theorem uN_shr (x : Int64) (s : UInt64) : uN (x.toUInt64 >>> s).toInt64 = uN x / 2 ^ (s.toNat % 64) := by
  show (x.toUInt64 >>> s).toNat = _
  rw [UInt64.toNat_shiftRight, Nat.shiftRight_eq_div_pow]
  rfl
theorem uN_s32 (x : Int64) : uN (x.toUInt64 >>> ((32 : Int32).toInt64.toUInt64 &&& Int64.toUInt64 63)).toInt64 = uN x / 4294967296 := by
  have h : ((32 : Int32).toInt64.toUInt64 &&& Int64.toUInt64 63).toNat % 64 = 32 := by decide
  rw [uN_shr, h]
theorem uN_s63 (x : Int64) : uN (x.toUInt64 >>> ((63 : Int32).toInt64.toUInt64 &&& Int64.toUInt64 63)).toInt64 = uN x / 9223372036854775808 := by
  have h : ((63 : Int32).toInt64.toUInt64 &&& Int64.toUInt64 63).toNat % 64 = 63 := by decide
  rw [uN_shr, h]
theorem uN_lo (x : Int64) : uN (x &&& 4294967295) = uN x % 4294967296 := by
  show (x.toUInt64 &&& Int64.toUInt64 4294967295).toNat = _
  rw [UInt64.toNat_and]
  exact Nat.and_two_pow_sub_one_eq_mod _ 32
theorem uN_bit (x : Int64) : (x &&& 1) = 0 ↔ uN x % 2 = 0 := by
  have h : uN (x &&& 1) = uN x % 2 := by
    show (x.toUInt64 &&& Int64.toUInt64 1).toNat = _
    rw [UInt64.toNat_and]
    exact Nat.and_two_pow_sub_one_eq_mod _ 1
  rw [← h]
  exact ⟨fun z => by rw [z]; rfl, fun z => uN_inj (z.trans rfl)⟩
theorem uN_or {x y : Int64} (hy : uN y < 2) : uN ((x <<< ((1 : Int32).toInt64 &&& 63)) ||| y) = (2 * uN x) % 18446744073709551616 + uN y := by
  have h1 : uN ((x <<< ((1 : Int32).toInt64 &&& 63)) ||| y) = uN (x <<< ((1 : Int32).toInt64 &&& 63)) ||| uN y := UInt64.toNat_or _ _
  have h2 : (2 * uN x) % 18446744073709551616 = 2 ^ 1 * (uN x % 9223372036854775808) := by omega
  rw [h1, uN_shl, h2]
  exact (Nat.two_pow_add_eq_or_of_lt (i := 1) hy _).symm
theorem nat_xor {a : Nat} (h : a < 18446744073709551616) : a ^^^ 2 ^ 63 = (a + 9223372036854775808) % 18446744073709551616 := by
  have h1 : (a ^^^ 2 ^ 63) % 2 ^ 63 = a % 2 ^ 63 := by rw [Nat.xor_mod_two_pow, Nat.mod_self, Nat.xor_zero]
  have h2 : (a ^^^ 2 ^ 63) / 2 ^ 63 = (a / 2 ^ 63) ^^^ 1 := by rw [Nat.xor_div_two_pow, Nat.div_self (Nat.two_pow_pos 63)]
  have h3 : a / 2 ^ 63 = 0 ∨ a / 2 ^ 63 = 1 := by omega
  generalize a ^^^ 2 ^ 63 = t at h1 h2
  rcases h3 with h3 | h3
  · rw [h3] at h2
    have h2 : t / 2 ^ 63 = 1 := h2
    omega
  · rw [h3] at h2
    have h2 : t / 2 ^ 63 = 0 := h2
    omega
theorem uN_xor (x : Int64) : uN (x ^^^ (-9223372036854775808)) = (uN x + 9223372036854775808) % 18446744073709551616 := by
  rw [← nat_xor (uN_lt x)]
  exact UInt64.toNat_xor _ _
theorem uN_int (x : Int64) : x.toInt = if 2 * uN x < 18446744073709551616 then (uN x : Int) else (uN x : Int) - 18446744073709551616 := BitVec.toInt_eq_toNat_cond _
theorem uN_le (x y : Int64) : (x ^^^ (-9223372036854775808)) ≤ (y ^^^ (-9223372036854775808)) ↔ uN x ≤ uN y := by
  have hx := uN_lt x
  have hy := uN_lt y
  rw [Int64.le_iff_toInt_le, uN_int, uN_int, uN_xor, uN_xor]
  omega
theorem uN_sk (x : Int64) {k : Nat} (hk : k < 64) : uN (x.toUInt64 >>> ((nI k).toInt64.toUInt64 &&& Int64.toUInt64 63)).toInt64 = uN x / 2 ^ k := by
  have h : ((nI k).toInt64.toUInt64 &&& Int64.toUInt64 63).toNat % 64 = k := by
    rw [nI_l (by omega), UInt64.toNat_and]
    have e : (lN k).toUInt64.toNat = k % 2 ^ 64 := rfl
    have e2 : (Int64.toUInt64 63).toNat = 2 ^ 6 - 1 := by decide
    rw [e, e2, Nat.and_two_pow_sub_one_eq_mod]
    omega
  rw [uN_shr, h]
/-! ===== unsigned comparison by xor with the least ===== -/
theorem lN_bv (n : Nat) : (lN n).toBitVec = BitVec.ofNat 64 n := rfl
theorem lN_nat {n : Nat} (h : n < 2 ^ 64) : (lN n).toBitVec.toNat = n := by rw [lN_bv, BitVec.toNat_ofNat]; exact Nat.mod_eq_of_lt h
theorem lN_xor (a b : Nat) : lN a ^^^ lN b = lN (a ^^^ b) := by
  apply Int64.toBitVec_inj.mp; rw [Int64.toBitVec_xor, lN_bv, lN_bv, lN_bv]; apply BitVec.eq_of_getLsbD_eq; intro i hi; simp [BitVec.getLsbD_ofNat, Nat.testBit_xor, hi]
theorem lN_ti {m : Nat} (h : m < 2 ^ 64) : (lN m).toInt = if m < 2 ^ 63 then (m : Int) else (m : Int) - 2 ^ 64 := by
  have c := BitVec.toInt_eq_toNat_cond (lN m).toBitVec
  rw [lN_nat h] at c
  show (lN m).toBitVec.toInt = _
  rw [c]
  split <;> split <;> omega
theorem xor63 {x : Nat} (h : x < 2 ^ 63) : x ^^^ 2 ^ 63 = 2 ^ 63 + x := by
  apply Nat.eq_of_testBit_eq
  intro i
  rw [Nat.testBit_xor, Nat.testBit_two_pow]
  rcases Nat.lt_trichotomy i 63 with z | z | z
  · rw [Nat.testBit_two_pow_add_gt z, decide_eq_false (by omega)]; simp
  · subst z; rw [Nat.testBit_two_pow_add_eq]; simp
  · have hp : 2 ^ 64 ≤ 2 ^ i := Nat.pow_le_pow_right (by decide) z
    rw [Nat.testBit_lt_two_pow (show x < 2 ^ i by omega), Nat.testBit_lt_two_pow (show 2 ^ 63 + x < 2 ^ i by omega), decide_eq_false (by omega)]; rfl
theorem xorS {a : Nat} (h : a < 2 ^ 64) : (lN a ^^^ (-9223372036854775808)).toInt = (a : Int) - 2 ^ 63 := by
  rw [show (-9223372036854775808 : Int64) = lN (2 ^ 63) from by decide +kernel, lN_xor]
  rcases Nat.lt_or_ge a (2 ^ 63) with z | z
  · rw [xor63 z, lN_ti (by omega), if_neg (by omega)]; omega
  · obtain ⟨x, rfl⟩ : ∃ x, a = 2 ^ 63 + x := ⟨a - 2 ^ 63, by omega⟩
    rw [← xor63 (by omega), Nat.xor_assoc, Nat.xor_self, Nat.xor_zero, lN_ti (by omega), if_pos (by omega), xor63 (by omega)]; omega
theorem ultL {a b : Nat} (ha : a < 2 ^ 64) (hb : b < 2 ^ 64) : ((lN b ^^^ (-9223372036854775808)) ≤ (lN a ^^^ (-9223372036854775808))) ↔ b ≤ a := by
  rw [Int64.le_iff_toInt_le, xorS ha, xorS hb]; omega
/-! ===== Int64 masks of n low bits ===== -/
theorem cr_bits (W U M : BitVec 64) : ((W &&& U) &&& (U &&& (M ^^^ BitVec.allOnes 64))) = 0#64 ↔ (W &&& U) &&& M = W &&& U := by
  constructor
  · intro h
    apply BitVec.eq_of_getLsbD_eq
    intro i hi
    have e := congrArg (fun x => BitVec.getLsbD x i) h
    simp only [BitVec.getLsbD_and, BitVec.getLsbD_xor, BitVec.getLsbD_allOnes, BitVec.getLsbD_zero, hi, decide_true] at e ⊢
    revert e
    cases W.getLsbD i <;> cases U.getLsbD i <;> cases M.getLsbD i <;> decide
  · intro h
    apply BitVec.eq_of_getLsbD_eq
    intro i hi
    have e := congrArg (fun x => BitVec.getLsbD x i) h
    simp only [BitVec.getLsbD_and, BitVec.getLsbD_xor, BitVec.getLsbD_allOnes, BitVec.getLsbD_zero, hi, decide_true] at e ⊢
    revert e
    cases W.getLsbD i <;> cases U.getLsbD i <;> cases M.getLsbD i <;> decide
theorem cr_mask (w U m : Int64) (n : Nat) (hm : m.toBitVec.toNat = 2 ^ n - 1) : ((w &&& U) &&& (U &&& (m ^^^ (-1)))) = 0 ↔ (w &&& U).toBitVec.toNat < 2 ^ n := by
  have e0 : (-1 : Int64).toBitVec = BitVec.allOnes 64 := by decide
  have z0 : (0 : Int64).toBitVec = 0#64 := by decide
  rw [← Int64.toBitVec_inj, z0, Int64.toBitVec_and, Int64.toBitVec_and, Int64.toBitVec_and, Int64.toBitVec_xor, e0, cr_bits]
  generalize w.toBitVec &&& U.toBitVec = T
  rw [← BitVec.toNat_inj, BitVec.toNat_and, hm, Nat.and_two_pow_sub_one_eq_mod]
  constructor
  · intro h
    have t := Nat.mod_lt T.toNat (Nat.two_pow_pos n)
    rw [h] at t
    exact t
  · exact Nat.mod_eq_of_lt
theorem cr_shr (t : Int64) (x : UInt64) (n : Nat) (hx : x.toNat % 64 = n) : (t.toUInt64 >>> x).toInt64 = 0 ↔ t.toBitVec.toNat < 2 ^ n := by
  rw [← Int64.toBitVec_inj, ← BitVec.toNat_inj]
  show (t.toUInt64 >>> x).toNat = 0 ↔ t.toUInt64.toNat < 2 ^ n
  rw [UInt64.toNat_shiftRight, hx, Nat.shiftRight_eq_div_pow]
  constructor
  · intro h
    have d : t.toUInt64.toNat / 2 ^ n < 1 := by
      rw [h]
      decide
    have e := (Nat.div_lt_iff_lt_mul (Nat.two_pow_pos n)).mp d
    rw [Nat.one_mul] at e
    exact e
  · exact Nat.div_eq_of_lt
theorem cr_amt (s : Int64) : ∃ n, n < 64 ∧ s &&& 63 = lN n ∧ (s.toUInt64 &&& Int64.toUInt64 63).toNat % 64 = n := by
  have e : (s.toUInt64 &&& Int64.toUInt64 63).toNat = s.toUInt64.toNat % 2 ^ 6 := by
    rw [UInt64.toNat_and, show (Int64.toUInt64 63).toNat = 2 ^ 6 - 1 from by decide, Nat.and_two_pow_sub_one_eq_mod]
  refine ⟨s.toUInt64.toNat % 2 ^ 6, by omega, ?_, by omega⟩
  rw [← Int64.toBitVec_inj, ← BitVec.toNat_inj]
  show (s.toUInt64 &&& Int64.toUInt64 63).toNat = (BitVec.ofNat 64 (s.toUInt64.toNat % 2 ^ 6)).toNat
  rw [e, BitVec.toNat_ofNat]
  omega
end
section
/-! plain facts to paste, each family by itself; over the kit's nI, lN and upd -/
/-! ===== drawers: more things than places ===== -/
theorem fb_holes : ∀ (m n : Nat) (f : Nat → Nat), (∀ i, i < n → f i < m) → (∀ i j, i < j → j < n → f i ≠ f j) → n ≤ m := by
  intro m
  induction m with
  | zero =>
    intro n f h1 _
    rcases Nat.eq_zero_or_pos n with h | h
    · omega
    · exact absurd (h1 0 h) (Nat.not_lt_zero _)
  | succ m ih =>
    intro n f h1 h2
    by_cases hx : ∃ i, i < n ∧ f i = m
    · obtain ⟨a, ha, hfa⟩ := hx
      have hg := ih (n - 1) (fun i => if i < a then f i else f (i + 1)) (by
        intro i hi
        by_cases q : i < a
        · simp only [if_pos q]
          have b1 := h1 i (by omega)
          have b2 := h2 i a q ha
          omega
        · simp only [if_neg q]
          have b1 := h1 (i + 1) (by omega)
          have b2 := h2 a (i + 1) (by omega) (by omega)
          omega) (by
        intro i j hij hj
        by_cases q : i < a
        · by_cases r : j < a
          · simp only [if_pos q, if_pos r]
            exact h2 i j hij (by omega)
          · simp only [if_pos q, if_neg r]
            exact h2 i (j + 1) (by omega) (by omega)
        · have r : ¬ j < a := by omega
          simp only [if_neg q, if_neg r]
          exact h2 (i + 1) (j + 1) (by omega) (by omega))
      omega
    · have hg := ih n f (fun i hi => by
        have b1 := h1 i hi
        have b2 : f i ≠ m := fun e => hx ⟨i, hi, e⟩
        omega) h2
      omega
/-- two of them in one place -/
theorem fb_twice {m n : Nat} {f : Nat → Nat} (h : ∀ i, i < n → f i < m) (hm : m < n) : ∃ i j, i < j ∧ j < n ∧ f i = f j := by
  refine Classical.byContradiction fun hx => ?_
  have := fb_holes m n f h (fun i j hij hj e => hx ⟨i, j, hij, hj, e⟩)
  omega
/-- as many as places, none twice: each place is taken -/
theorem fb_onto {n : Nat} {f : Nat → Nat} (h : ∀ i, i < n → f i < n) (h2 : ∀ i j, i < j → j < n → f i ≠ f j) {y : Nat} (hy : y < n) : ∃ i, i < n ∧ f i = y := by
  refine Classical.byContradiction fun hx => ?_
  have hne : ∀ i, i < n → f i ≠ y := fun i hi e => hx ⟨i, hi, e⟩
  have := fb_holes (n - 1) n (fun i => if f i < y then f i else f i - 1) (by
    intro i hi
    have b1 := h i hi
    have b2 := hne i hi
    by_cases q : f i < y
    · simp only [if_pos q]; omega
    · simp only [if_neg q]; omega) (by
    intro i j hij hj
    have b1 := hne i (by omega)
    have b2 := hne j hj
    have b3 := h2 i j hij hj
    by_cases q : f i < y
    · by_cases r : f j < y
      · simp only [if_pos q, if_pos r]; exact b3
      · simp only [if_pos q, if_neg r]; omega
    · by_cases r : f j < y
      · simp only [if_neg q, if_pos r]; omega
      · simp only [if_neg q, if_neg r]; omega)
  omega
/-! ===== how many places have a property ===== -/
def fb_ct (p : Nat → Bool) : Nat → Nat
  | 0 => 0
  | n + 1 => fb_ct p n + (if p n then 1 else 0)
theorem fb_ct_succ (p : Nat → Bool) (n : Nat) : fb_ct p (n + 1) = fb_ct p n + (if p n then 1 else 0) := rfl
theorem fb_ct_le (p : Nat → Bool) : ∀ n, fb_ct p n ≤ n
  | 0 => Nat.le_refl _
  | n + 1 => by
    have h := fb_ct_le p n
    rw [fb_ct_succ]
    split <;> omega
theorem fb_ct_step (p : Nat → Bool) (m : Nat) : ∀ n, fb_ct p m ≤ fb_ct p (m + n)
  | 0 => Nat.le_refl _
  | n + 1 => by
    have h := fb_ct_step p m n
    show fb_ct p m ≤ fb_ct p (m + n + 1)
    rw [fb_ct_succ]
    omega
theorem fb_ct_mono (p : Nat → Bool) {m n : Nat} (h : m ≤ n) : fb_ct p m ≤ fb_ct p n := by
  have := fb_ct_step p m (n - m)
  rwa [Nat.add_sub_cancel' h] at this
theorem fb_ct_cong {p q : Nat → Bool} : ∀ {n : Nat}, (∀ k, k < n → p k = q k) → fb_ct p n = fb_ct q n
  | 0, _ => rfl
  | n + 1, h => by
    rw [fb_ct_succ, fb_ct_succ, fb_ct_cong (fun k hk => h k (by omega)), h n (by omega)]
/-- one place changed -/
theorem fb_ct_out (p : Nat → Bool) (b : Bool) {i n : Nat} (h : n ≤ i) : fb_ct (fun k => if k = i then b else p k) n = fb_ct p n :=
  fb_ct_cong fun k hk => if_neg (by omega)
theorem fb_ct_upd (p : Nat → Bool) (b : Bool) {i : Nat} : ∀ {n : Nat}, i < n → fb_ct (fun k => if k = i then b else p k) n + (if p i then 1 else 0) = fb_ct p n + (if b then 1 else 0)
  | 0, h => absurd h (Nat.not_lt_zero i)
  | n + 1, h => by
    rw [fb_ct_succ, fb_ct_succ]
    rcases Nat.lt_or_ge i n with q | q
    · have := fb_ct_upd p b q
      have e : (if n = i then b else p n) = p n := if_neg (by omega)
      rw [e]
      omega
    · have e : i = n := by omega
      subst e
      rw [fb_ct_out p b (Nat.le_refl _)]
      simp only [if_true]
      omega
theorem fb_ct_sub {p q : Nat → Bool} : ∀ {n : Nat}, (∀ k, k < n → p k = true → q k = true) → fb_ct p n ≤ fb_ct q n
  | 0, _ => Nat.le_refl _
  | n + 1, h => by
    have h1 := fb_ct_sub (n := n) (p := p) (q := q) (fun k hk => h k (by omega))
    have h2 := h n (by omega)
    rw [fb_ct_succ, fb_ct_succ]
    cases hp : p n <;> cases hq : q n <;> simp_all <;> omega
theorem fb_ct_or {p q : Nat → Bool} : ∀ {n : Nat}, (∀ k, k < n → ¬ (p k = true ∧ q k = true)) → fb_ct (fun k => p k || q k) n = fb_ct p n + fb_ct q n
  | 0, _ => rfl
  | n + 1, h => by
    have h1 := fb_ct_or (n := n) (p := p) (q := q) (fun k hk => h k (by omega))
    have h2 := h n (by omega)
    rw [fb_ct_succ, fb_ct_succ, fb_ct_succ, h1]
    cases hp : p n <;> cases hq : q n <;> simp_all <;> omega
theorem fb_ct_not (p : Nat → Bool) : ∀ n, fb_ct p n + fb_ct (fun k => !p k) n = n
  | 0 => rfl
  | n + 1 => by
    have h := fb_ct_not p n
    rw [fb_ct_succ, fb_ct_succ]
    cases p n <;> simp <;> omega
theorem fb_ct_split (p : Nat → Bool) (m : Nat) : ∀ n, fb_ct p (m + n) = fb_ct p m + fb_ct (fun k => p (m + k)) n
  | 0 => rfl
  | n + 1 => by
    have h := fb_ct_split p m n
    show fb_ct p (m + n + 1) = _
    rw [fb_ct_succ, fb_ct_succ, h, Nat.add_assoc]
theorem fb_ct_zero {p : Nat → Bool} : ∀ {n : Nat}, fb_ct p n = 0 ↔ ∀ k, k < n → p k = false
  | 0 => ⟨fun _ k hk => absurd hk (Nat.not_lt_zero k), fun _ => rfl⟩
  | n + 1 => by
    have h := fb_ct_zero (p := p) (n := n)
    rw [fb_ct_succ]
    constructor
    · intro e k hk
      have e1 : fb_ct p n = 0 := by omega
      rcases Nat.lt_or_ge k n with q | q
      · exact h.mp e1 k q
      · have ek : k = n := by omega
        subst ek
        cases hp : p k
        · rfl
        · simp [hp] at e
    · intro a
      rw [h.mpr (fun k hk => a k (by omega)), a n (by omega)]
      rfl
theorem fb_ct_pos {p : Nat → Bool} {n : Nat} : 0 < fb_ct p n ↔ ∃ k, k < n ∧ p k = true := by
  constructor
  · intro h
    refine Classical.byContradiction fun hx => ?_
    have := fb_ct_zero.mpr (fun k hk => by
      cases hp : p k
      · rfl
      · exact absurd ⟨k, hk, hp⟩ hx : ∀ k, k < n → p k = false)
    omega
  · rintro ⟨k, hk, hp⟩
    rcases Nat.eq_zero_or_pos (fb_ct p n) with e | e
    · have := fb_ct_zero.mp e k hk
      rw [this] at hp
      cases hp
    · exact e
theorem fb_ct_all {p : Nat → Bool} {n : Nat} : fb_ct p n = n ↔ ∀ k, k < n → p k = true := by
  have h := fb_ct_not p n
  constructor
  · intro e k hk
    have z : fb_ct (fun k => !p k) n = 0 := by omega
    have := fb_ct_zero.mp z k hk
    cases hp : p k
    · simp [hp] at this
    · rfl
  · intro a
    have z : fb_ct (fun k => !p k) n = 0 := fb_ct_zero.mpr (fun k hk => by simp [a k hk])
    omega
/-- the k-th place with the property -/
theorem fb_ct_kth {p : Nat → Bool} {k : Nat} : ∀ {n : Nat}, k < fb_ct p n → ∃ i, i < n ∧ p i = true ∧ fb_ct p i = k
  | 0, h => absurd h (Nat.not_lt_zero k)
  | n + 1, h => by
    rcases Nat.lt_or_ge k (fb_ct p n) with q | q
    · obtain ⟨i, h1, h2⟩ := fb_ct_kth q
      exact ⟨i, by omega, h2⟩
    · rw [fb_ct_succ] at h
      cases hp : p n
      · simp [hp] at h; omega
      · simp [hp] at h
        exact ⟨n, by omega, hp, by omega⟩
theorem fb_ct_kth_one {p : Nat → Bool} {i j : Nat} (hi : p i = true) (hj : p j = true) (e : fb_ct p i = fb_ct p j) : i = j := by
  have key : ∀ a b : Nat, a < b → p a = true → fb_ct p a < fb_ct p b := by
    intro a b hab ha
    have h := fb_ct_mono p (show a + 1 ≤ b from hab)
    rw [fb_ct_succ, ha] at h
    simp at h
    omega
  rcases Nat.lt_trichotomy i j with q | q | q
  · have := key i j q hi; omega
  · exact q
  · have := key j i q hj; omega
/-! ===== sums over a range: one place changed, parts, bounds ===== -/
def fb_sm (f : Nat → Nat) : Nat → Nat
  | 0 => 0
  | n + 1 => fb_sm f n + f n
theorem fb_sm_succ (f : Nat → Nat) (n : Nat) : fb_sm f (n + 1) = fb_sm f n + f n := rfl
theorem fb_sm_cong {f g : Nat → Nat} : ∀ {n : Nat}, (∀ k, k < n → f k = g k) → fb_sm f n = fb_sm g n
  | 0, _ => rfl
  | n + 1, h => by rw [fb_sm_succ, fb_sm_succ, fb_sm_cong (fun k hk => h k (by omega)), h n (by omega)]
theorem fb_sm_out (f : Nat → Nat) (v : Nat) {i n : Nat} (h : n ≤ i) : fb_sm (fun k => if k = i then v else f k) n = fb_sm f n :=
  fb_sm_cong fun k hk => if_neg (by omega)
theorem fb_sm_upd (f : Nat → Nat) (v : Nat) {i : Nat} : ∀ {n : Nat}, i < n → fb_sm (fun k => if k = i then v else f k) n + f i = fb_sm f n + v
  | 0, h => absurd h (Nat.not_lt_zero i)
  | n + 1, h => by
    rw [fb_sm_succ, fb_sm_succ]
    rcases Nat.lt_or_ge i n with q | q
    · have := fb_sm_upd f v q
      have e : (if n = i then v else f n) = f n := if_neg (by omega)
      rw [e]
      omega
    · have e : i = n := by omega
      subst e
      rw [fb_sm_out f v (Nat.le_refl _)]
      simp only [if_true]
      omega
theorem fb_sm_add (f g : Nat → Nat) : ∀ n, fb_sm (fun k => f k + g k) n = fb_sm f n + fb_sm g n
  | 0 => rfl
  | n + 1 => by
    have h := fb_sm_add f g n
    rw [fb_sm_succ, fb_sm_succ, fb_sm_succ, h]
    omega
theorem fb_sm_le {f g : Nat → Nat} : ∀ {n : Nat}, (∀ k, k < n → f k ≤ g k) → fb_sm f n ≤ fb_sm g n
  | 0, _ => Nat.le_refl _
  | n + 1, h => by
    have h1 := fb_sm_le (n := n) (f := f) (g := g) (fun k hk => h k (by omega))
    have h2 := h n (by omega)
    rw [fb_sm_succ, fb_sm_succ]
    omega
theorem fb_sm_const (c : Nat) : ∀ n, fb_sm (fun _ => c) n = n * c
  | 0 => by rw [Nat.zero_mul]; rfl
  | n + 1 => by rw [fb_sm_succ, fb_sm_const c n, Nat.succ_mul]
theorem fb_sm_bound {f : Nat → Nat} {c n : Nat} (h : ∀ k, k < n → f k ≤ c) : fb_sm f n ≤ n * c := by
  rw [← fb_sm_const c n]
  exact fb_sm_le h
theorem fb_sm_mono (f : Nat → Nat) (m : Nat) : ∀ n, fb_sm f m ≤ fb_sm f (m + n)
  | 0 => Nat.le_refl _
  | n + 1 => by
    have h := fb_sm_mono f m n
    show fb_sm f m ≤ fb_sm f (m + n + 1)
    rw [fb_sm_succ]
    omega
theorem fb_sm_part (f : Nat → Nat) {i n : Nat} (h : i < n) : fb_sm f i + f i ≤ fb_sm f n := by
  have := fb_sm_mono f (i + 1) (n - (i + 1))
  rw [fb_sm_succ, show i + 1 + (n - (i + 1)) = n by omega] at this
  exact this
theorem fb_sm_split (f : Nat → Nat) (m : Nat) : ∀ n, fb_sm f (m + n) = fb_sm f m + fb_sm (fun k => f (m + k)) n
  | 0 => rfl
  | n + 1 => by
    have h := fb_sm_split f m n
    show fb_sm f (m + n + 1) = _
    rw [fb_sm_succ, fb_sm_succ, h, Nat.add_assoc]
theorem fb_sm_zero {f : Nat → Nat} {n : Nat} (h : fb_sm f n = 0) : ∀ k, k < n → f k = 0 := fun k hk => by
  have := fb_sm_part f hk
  omega
/-- the same over whole numbers -/
def fb_si (f : Nat → Int) : Nat → Int
  | 0 => 0
  | n + 1 => fb_si f n + f n
theorem fb_si_succ (f : Nat → Int) (n : Nat) : fb_si f (n + 1) = fb_si f n + f n := rfl
theorem fb_si_cong {f g : Nat → Int} : ∀ {n : Nat}, (∀ k, k < n → f k = g k) → fb_si f n = fb_si g n
  | 0, _ => rfl
  | n + 1, h => by rw [fb_si_succ, fb_si_succ, fb_si_cong (fun k hk => h k (by omega)), h n (by omega)]
theorem fb_si_out (f : Nat → Int) (v : Int) {i n : Nat} (h : n ≤ i) : fb_si (fun k => if k = i then v else f k) n = fb_si f n :=
  fb_si_cong fun k hk => if_neg (by omega)
theorem fb_si_upd (f : Nat → Int) (v : Int) {i : Nat} : ∀ {n : Nat}, i < n → fb_si (fun k => if k = i then v else f k) n = fb_si f n - f i + v
  | 0, h => absurd h (Nat.not_lt_zero i)
  | n + 1, h => by
    rw [fb_si_succ, fb_si_succ]
    rcases Nat.lt_or_ge i n with q | q
    · have := fb_si_upd f v q
      have e : (if n = i then v else f n) = f n := if_neg (by omega)
      rw [e]
      omega
    · have e : i = n := by omega
      subst e
      rw [fb_si_out f v (Nat.le_refl _)]
      simp only [if_true]
      omega
theorem fb_si_add (f g : Nat → Int) : ∀ n, fb_si (fun k => f k + g k) n = fb_si f n + fb_si g n
  | 0 => rfl
  | n + 1 => by
    have h := fb_si_add f g n
    rw [fb_si_succ, fb_si_succ, fb_si_succ, h]
    omega
theorem fb_si_sub (f g : Nat → Int) : ∀ n, fb_si (fun k => f k - g k) n = fb_si f n - fb_si g n
  | 0 => rfl
  | n + 1 => by
    have h := fb_si_sub f g n
    rw [fb_si_succ, fb_si_succ, fb_si_succ, h]
    omega
theorem fb_si_mul (c : Int) (f : Nat → Int) : ∀ n, fb_si (fun k => c * f k) n = c * fb_si f n
  | 0 => (Int.mul_zero c).symm
  | n + 1 => by
    have h := fb_si_mul c f n
    rw [fb_si_succ, fb_si_succ, h, Int.mul_add]
theorem fb_si_split (f : Nat → Int) (m : Nat) : ∀ n, fb_si f (m + n) = fb_si f m + fb_si (fun k => f (m + k)) n
  | 0 => (Int.add_zero _).symm
  | n + 1 => by
    have h := fb_si_split f m n
    show fb_si f (m + n + 1) = _
    rw [fb_si_succ, fb_si_succ, h, Int.add_assoc]
theorem fb_si_nat (f : Nat → Nat) : ∀ n, fb_si (fun k => (f k : Int)) n = (fb_sm f n : Int)
  | 0 => rfl
  | n + 1 => by
    have h := fb_si_nat f n
    rw [fb_si_succ, fb_sm_succ, h]
    omega
theorem fb_si_bound {f : Nat → Int} {c : Int} (hc : 0 ≤ c) : ∀ {n : Nat}, (∀ k, k < n → -c ≤ f k ∧ f k ≤ c) → -(n * c) ≤ fb_si f n ∧ fb_si f n ≤ n * c
  | 0, _ => by simp [fb_si]
  | n + 1, h => by
    have h1 := fb_si_bound (n := n) (f := f) hc (fun k hk => h k (by omega))
    have h2 := h n (by omega)
    have e : ((n + 1 : Nat) : Int) * c = n * c + c := by rw [Int.natCast_add, Int.add_mul]; simp
    rw [fb_si_succ, e]
    omega
/-! ===== bits of a long that isn't negative ===== -/
theorem fb_andL (a b : Nat) : lN a &&& lN b = lN (a &&& b) := by
  apply Int64.toBitVec_inj.1
  show BitVec.ofNat 64 a &&& BitVec.ofNat 64 b = BitVec.ofNat 64 (a &&& b)
  apply BitVec.eq_of_getLsbD_eq
  intro i hi
  simp [hi]
theorem fb_orL (a b : Nat) : lN a ||| lN b = lN (a ||| b) := by
  apply Int64.toBitVec_inj.1
  show BitVec.ofNat 64 a ||| BitVec.ofNat 64 b = BitVec.ofNat 64 (a ||| b)
  apply BitVec.eq_of_getLsbD_eq
  intro i hi
  simp [hi]
theorem fb_xorL (a b : Nat) : lN a ^^^ lN b = lN (a ^^^ b) := by
  apply Int64.toBitVec_inj.1
  show BitVec.ofNat 64 a ^^^ BitVec.ofNat 64 b = BitVec.ofNat 64 (a ^^^ b)
  apply BitVec.eq_of_getLsbD_eq
  intro i hi
  simp [hi]
theorem fb_xorI (a b : Nat) : nI a ^^^ nI b = nI (a ^^^ b) := by
  apply Int32.toBitVec_inj.1
  show BitVec.ofNat 32 a ^^^ BitVec.ofNat 32 b = BitVec.ofNat 32 (a ^^^ b)
  apply BitVec.eq_of_getLsbD_eq
  intro i hi
  simp [hi]
theorem fb_maskL (n k : Nat) : lN n &&& lN (2 ^ k - 1) = lN (n % 2 ^ k) := by rw [fb_andL, Nat.and_two_pow_sub_one_eq_mod]
theorem fb_or_sumL {a k : Nat} (b : Nat) (h : a < 2 ^ k) : lN (2 ^ k * b) ||| lN a = lN (2 ^ k * b + a) := by rw [fb_orL, Nat.two_pow_add_eq_or_of_lt h]
theorem fb_lN_inj {a b : Nat} (ha : a < 2 ^ 63) (hb : b < 2 ^ 63) : lN a = lN b ↔ a = b := by
  constructor
  · intro h
    have h1 : (BitVec.ofNat 64 a).toNat = (BitVec.ofNat 64 b).toNat := congrArg (fun x : Int64 => x.toBitVec.toNat) h
    rw [BitVec.toNat_ofNat, BitVec.toNat_ofNat, Nat.mod_eq_of_lt (by omega), Nat.mod_eq_of_lt (by omega)] at h1
    exact h1
  · rintro rfl; rfl
theorem fb_bit_nat (n j : Nat) : n &&& 2 ^ j = 0 ↔ n.testBit j = false := by
  constructor
  · intro h
    have h1 : (n &&& 2 ^ j).testBit j = false := by rw [h]; simp
    rw [Nat.testBit_and] at h1
    simpa using h1
  · intro h
    apply Nat.eq_of_testBit_eq
    intro i
    rw [Nat.testBit_and]
    by_cases hi : j = i
    · subst hi; simp [h]
    · first | (simp [Nat.testBit_two_pow, hi]; done) | (simp [Nat.testBit_two_pow_of_ne hi]; done)
/-- one bit of a long -/
theorem fb_bitL {n j : Nat} (hj : j < 63) : lN n &&& lN (2 ^ j) = 0 ↔ n.testBit j = false := by
  have h2 : (2 : Nat) ^ j < 2 ^ 63 := Nat.pow_lt_pow_right (by decide) hj
  have hle : n &&& 2 ^ j ≤ 2 ^ j := Nat.and_le_right
  rw [fb_andL, ← fb_bit_nat, show (0 : Int64) = lN 0 from rfl]
  exact fb_lN_inj (by omega) (by decide)
/-- a bit set, a bit taken off -/
theorem fb_bit_set (n j i : Nat) : (n ||| 2 ^ j).testBit i = (n.testBit i || decide (i = j)) := by
  rw [Nat.testBit_or]
  by_cases h : j = i
  · subst h; simp
  · have h2 : ¬ i = j := fun e => h e.symm
    first | (simp [Nat.testBit_two_pow, h, h2]; done) | (simp [Nat.testBit_two_pow_of_ne h, h2]; done)
theorem fb_bit_flip (n j i : Nat) : (n ^^^ 2 ^ j).testBit i = (n.testBit i ^^ decide (i = j)) := by
  rw [Nat.testBit_xor]
  by_cases h : j = i
  · subst h; simp
  · have h2 : ¬ i = j := fun e => h e.symm
    first | (simp [Nat.testBit_two_pow, h, h2]; done) | (simp [Nat.testBit_two_pow_of_ne h, h2]; done)
/-! ===== a stretch of an array written over by a function ===== -/
def fb_put {α : Type} (f g : Nat → α) (a n : Nat) : Nat → α := fun k => if a ≤ k ∧ k < a + n then g (k - a) else f k
theorem fb_put_0 {α : Type} (f g : Nat → α) (a : Nat) : fb_put f g a 0 = f := funext fun k => if_neg (by omega)
theorem fb_put_in {α : Type} {f g : Nat → α} {a n k : Nat} (h1 : a ≤ k) (h2 : k < a + n) : fb_put f g a n k = g (k - a) := if_pos ⟨h1, h2⟩
theorem fb_put_out {α : Type} {f g : Nat → α} {a n k : Nat} (h : k < a ∨ a + n ≤ k) : fb_put f g a n k = f k := if_neg (by omega)
theorem fb_put_succ (f g : Nat → Int32) (a n : Nat) : upd (fb_put f g a n) (a + n) (g n) = fb_put f g a (n + 1) := by
  funext k
  by_cases h : k = a + n
  · subst h
    simp [upd, fb_put]
  · by_cases h1 : a ≤ k ∧ k < a + n
    · have h2 : a ≤ k ∧ k < a + (n + 1) := by omega
      simp only [upd, fb_put, if_neg h, if_pos h1, if_pos h2]
    · have h2 : ¬ (a ≤ k ∧ k < a + (n + 1)) := by omega
      simp only [upd, fb_put, if_neg h, if_neg h1, if_neg h2]
/-- .. from the far end down -/
theorem fb_put_down (f g : Nat → Int32) {a n m : Nat} (h : m < n) : upd (fb_put f (fun k => g (k + (m + 1))) (a + (m + 1)) (n - (m + 1))) (a + m) (g m) = fb_put f (fun k => g (k + m)) (a + m) (n - m) := by
  funext k
  by_cases h0 : k = a + m
  · subst h0
    simp only [upd, if_true]
    rw [fb_put_in (by omega) (by omega)]
    exact congrArg g (by omega)
  · simp only [upd, if_neg h0]
    by_cases h1 : a + (m + 1) ≤ k ∧ k < a + (m + 1) + (n - (m + 1))
    · rw [fb_put_in h1.1 h1.2, fb_put_in (by omega) (by omega)]
      exact congrArg g (by omega)
    · rw [fb_put_out (by omega), fb_put_out (by omega)]
theorem fb_put_cong {α : Type} {f f2 g g2 : Nat → α} {a n : Nat} (hf : ∀ k, (k < a ∨ a + n ≤ k) → f k = f2 k) (hg : ∀ k, k < n → g k = g2 k) : fb_put f g a n = fb_put f2 g2 a n := by
  funext k
  by_cases h : a ≤ k ∧ k < a + n
  · rw [fb_put_in h.1 h.2, fb_put_in h.1 h.2, hg _ (by omega)]
  · rw [fb_put_out (by omega), fb_put_out (by omega), hf _ (by omega)]
/-! ===== the least, the first, the best so far; that there is one alone ===== -/
theorem fb_first {p : Nat → Prop} [DecidablePred p] : ∀ {n : Nat}, (∃ i, i < n ∧ p i) → ∃ i, i < n ∧ p i ∧ ∀ j, j < i → ¬ p j
  | 0, h => by obtain ⟨i, hi, -⟩ := h; exact absurd hi (Nat.not_lt_zero i)
  | n + 1, h => by
    by_cases q : ∃ i, i < n ∧ p i
    · obtain ⟨i, h1, h2⟩ := fb_first q
      exact ⟨i, by omega, h2⟩
    · obtain ⟨i, h1, h2⟩ := h
      have e : i = n := by
        rcases Nat.lt_or_ge i n with r | r
        · exact absurd ⟨i, r, h2⟩ q
        · omega
      subst e
      exact ⟨i, by omega, h2, fun j hj hp => q ⟨j, hj, hp⟩⟩
theorem fb_first_one {p : Nat → Prop} {i j : Nat} (hi : p i) (hi2 : ∀ k, k < i → ¬ p k) (hj : p j) (hj2 : ∀ k, k < j → ¬ p k) : i = j := by
  rcases Nat.lt_trichotomy i j with q | q | q
  · exact absurd hi (hj2 i q)
  · exact q
  · exact absurd hj (hi2 j q)
theorem fb_last {p : Nat → Prop} [DecidablePred p] : ∀ {n : Nat}, (∃ i, i < n ∧ p i) → ∃ i, i < n ∧ p i ∧ ∀ j, i < j → j < n → ¬ p j
  | 0, h => by obtain ⟨i, hi, -⟩ := h; exact absurd hi (Nat.not_lt_zero i)
  | n + 1, h => by
    by_cases q : p n
    · exact ⟨n, by omega, q, fun j h1 h2 => by omega⟩
    · obtain ⟨i, h1, h2⟩ := h
      have hi : i < n := by
        rcases Nat.lt_or_ge i n with r | r
        · exact r
        · have e : i = n := by omega
          subst e
          exact absurd h2 q
      obtain ⟨i2, a1, a2, a3⟩ := fb_last (n := n) ⟨i, hi, h2⟩
      refine ⟨i2, by omega, a2, fun j b1 b2 => ?_⟩
      rcases Nat.lt_or_ge j n with r | r
      · exact a3 j b1 r
      · have e : j = n := by omega
        subst e
        exact q
/-- the first greatest -/
theorem fb_best (f : Nat → Int) : ∀ {n : Nat}, 0 < n → ∃ i, i < n ∧ (∀ j, j < n → f j ≤ f i) ∧ ∀ j, j < i → f j < f i
  | 0, h => absurd h (Nat.lt_irrefl 0)
  | 1, _ => ⟨0, by omega, fun j hj => by have e : j = 0 := by omega
                                         subst e; exact Int.le_refl _, fun j hj => absurd hj (Nat.not_lt_zero j)⟩
  | n + 2, _ => by
    obtain ⟨i, h1, h2, h3⟩ := fb_best f (n := n + 1) (by omega)
    by_cases q : f i < f (n + 1)
    · refine ⟨n + 1, by omega, fun j hj => ?_, fun j hj => ?_⟩
      · rcases Nat.lt_or_ge j (n + 1) with r | r
        · have := h2 j r; omega
        · have e : j = n + 1 := by omega
          subst e; exact Int.le_refl _
      · have := h2 j hj; omega
    · refine ⟨i, by omega, fun j hj => ?_, h3⟩
      rcases Nat.lt_or_ge j (n + 1) with r | r
      · exact h2 j r
      · have e : j = n + 1 := by omega
        subst e; omega
theorem fb_best_one {f : Nat → Int} {n i j : Nat} (hi : i < n) (hi2 : ∀ k, k < n → f k ≤ f i) (hi3 : ∀ k, k < i → f k < f i) (hj : j < n) (hj2 : ∀ k, k < n → f k ≤ f j) (hj3 : ∀ k, k < j → f k < f j) : i = j := by
  rcases Nat.lt_trichotomy i j with q | q | q
  · have a := hj3 i q
    have b := hi2 j hj
    omega
  · exact q
  · have a := hi3 j q
    have b := hj2 i hi
    omega
/-- the first least -/
theorem fb_low (f : Nat → Int) {n : Nat} (h : 0 < n) : ∃ i, i < n ∧ (∀ j, j < n → f i ≤ f j) ∧ ∀ j, j < i → f i < f j := by
  obtain ⟨i, h1, h2, h3⟩ := fb_best (fun k => -f k) h
  exact ⟨i, h1, fun j hj => by have := h2 j hj; omega, fun j hj => by have := h3 j hj; omega⟩
/-! ===== signed ints as whole numbers, within bounds ===== -/
theorem fb_rng (x : Int32) : -2147483648 ≤ x.toInt ∧ x.toInt < 2147483648 := by
  have h1 := Int32.le_toInt x
  have h2 := Int32.toInt_lt x
  omega
theorem fb_bmod {z : Int} (h1 : -2147483648 ≤ z) (h2 : z < 2147483648) : z.bmod (2 ^ 32) = z := by
  rw [Int.bmod_eq_of_le (by omega) (by omega)]
theorem fb_addI {x y : Int32} (h1 : -2147483648 ≤ x.toInt + y.toInt) (h2 : x.toInt + y.toInt < 2147483648) : (x + y).toInt = x.toInt + y.toInt := by
  rw [Int32.toInt_add, fb_bmod h1 h2]
theorem fb_subI {x y : Int32} (h1 : -2147483648 ≤ x.toInt - y.toInt) (h2 : x.toInt - y.toInt < 2147483648) : (x - y).toInt = x.toInt - y.toInt := by
  rw [Int32.toInt_sub, fb_bmod h1 h2]
theorem fb_mulI {x y : Int32} (h1 : -2147483648 ≤ x.toInt * y.toInt) (h2 : x.toInt * y.toInt < 2147483648) : (x * y).toInt = x.toInt * y.toInt := by
  rw [Int32.toInt_mul, fb_bmod h1 h2]
theorem fb_negI {x : Int32} (h : x.toInt ≠ -2147483648) : (-x).toInt = -x.toInt := by
  have := fb_rng x
  rw [Int32.toInt_neg, fb_bmod (by omega) (by omega)]
theorem fb_ofI {z : Int} (h1 : -2147483648 ≤ z) (h2 : z < 2147483648) : (Int32.ofInt z).toInt = z := by
  rw [Int32.toInt_ofInt, fb_bmod h1 h2]
theorem fb_asI (x : Int32) : Int32.ofInt x.toInt = x := Int32.ofInt_toInt x
theorem fb_rngL (x : Int64) : -9223372036854775808 ≤ x.toInt ∧ x.toInt < 9223372036854775808 := by
  have h1 := Int64.le_toInt x
  have h2 := Int64.toInt_lt x
  omega
theorem fb_bmodL {z : Int} (h1 : -9223372036854775808 ≤ z) (h2 : z < 9223372036854775808) : z.bmod (2 ^ 64) = z := by
  rw [Int.bmod_eq_of_le (by omega) (by omega)]
theorem fb_addL {x y : Int64} (h1 : -9223372036854775808 ≤ x.toInt + y.toInt) (h2 : x.toInt + y.toInt < 9223372036854775808) : (x + y).toInt = x.toInt + y.toInt := by
  rw [Int64.toInt_add, fb_bmodL h1 h2]
theorem fb_subL {x y : Int64} (h1 : -9223372036854775808 ≤ x.toInt - y.toInt) (h2 : x.toInt - y.toInt < 9223372036854775808) : (x - y).toInt = x.toInt - y.toInt := by
  rw [Int64.toInt_sub, fb_bmodL h1 h2]
theorem fb_mulL {x y : Int64} (h1 : -9223372036854775808 ≤ x.toInt * y.toInt) (h2 : x.toInt * y.toInt < 9223372036854775808) : (x * y).toInt = x.toInt * y.toInt := by
  rw [Int64.toInt_mul, fb_bmodL h1 h2]
/-! ===== cuts of what is narrow already ===== -/
theorem fb_byte {x : Int32} (h1 : -128 ≤ x.toInt) (h2 : x.toInt < 128) : x.toInt8.toInt32 = x := by
  apply Int32.toInt_inj.1
  rw [Int8.toInt_toInt32, Int32.toInt_toInt8, Int.bmod_eq_of_le (by omega) (by omega)]
theorem fb_short {x : Int32} (h1 : -32768 ≤ x.toInt) (h2 : x.toInt < 32768) : x.toInt16.toInt32 = x := by
  apply Int32.toInt_inj.1
  rw [Int16.toInt_toInt32, Int32.toInt_toInt16, Int.bmod_eq_of_le (by omega) (by omega)]
theorem fb_byte_rng (x : Int32) : -128 ≤ x.toInt8.toInt32.toInt ∧ x.toInt8.toInt32.toInt < 128 := by
  rw [Int8.toInt_toInt32]
  have h1 := Int8.le_toInt x.toInt8
  have h2 := Int8.toInt_lt x.toInt8
  omega
theorem fb_short_rng (x : Int32) : -32768 ≤ x.toInt16.toInt32.toInt ∧ x.toInt16.toInt32.toInt < 32768 := by
  rw [Int16.toInt_toInt32]
  have h1 := Int16.le_toInt x.toInt16
  have h2 := Int16.toInt_lt x.toInt16
  omega
theorem fb_byte_twice (x : Int32) : x.toInt8.toInt32.toInt8.toInt32 = x.toInt8.toInt32 := fb_byte (fb_byte_rng x).1 (fb_byte_rng x).2
theorem fb_short_twice (x : Int32) : x.toInt16.toInt32.toInt16.toInt32 = x.toInt16.toInt32 := fb_short (fb_short_rng x).1 (fb_short_rng x).2
theorem fb_char {n : Nat} (h : n < 65536) : (nI n).toUInt32.toUInt16.toUInt32.toInt32 = nI n := by
  apply Int32.toBitVec_inj.1
  apply BitVec.eq_of_toNat_eq
  have e1 : (nI n).toBitVec.toNat = n := by
    show (BitVec.ofNat 32 n).toNat = n
    rw [BitVec.toNat_ofNat, Nat.mod_eq_of_lt (by omega)]
  have e2 : ((nI n).toUInt32.toUInt16.toUInt32).toNat = n := by
    rw [UInt16.toNat_toUInt32, UInt32.toNat_toUInt16]
    show (nI n).toBitVec.toNat % 2 ^ 16 = n
    rw [e1, Nat.mod_eq_of_lt (by omega)]
  rw [e1]
  exact e2
end
section
/-! arrays by Nat places; numbers -/
section OtArr
variable {p : Program} {l : Launch} {e : Env} {R : Room} {s : State} {m : MethodId} {args : Array Value} {below : List Frame} {meth : Method} {c : Code} {H : Heap} {locs : List Loc} {cells slots : Nat} {Q : State → Prop}
variable {pc : Nat} {ls : Array Slot} {rest : List Value} {H0 : Heap} {A : Nat → Prop} {D : va_G} {cl : List vw_C} {ws : va_W} {tys : List (ClassId × FieldType)} {a : Nat} {cc : ByteArray}
theorem ot_bald (hexec : p.tables.exec = Jvm.exec) (hb : c.code = cc) (hK : va_K D cl tys s) (hP : va_P D cl ws H) (q0 t0 : Nat) {cA : ClassId} {n : Nat} {f : Nat → Int32} (ha : ws[q0]? = some (a, .inl (cA, n, .inl f))) (ht : tys[t0]? = some (cA, .byte)) {k : Nat} (hk : k < n) (hn : n < 2 ^ 31) (hdg : decode cc pc = .ok (.baload, 1))
    (kk : W p l e R s m args below meth c H locs cells slots Q (F0 m (pc + 1) ls (.int (f k) :: rest))) : W p l e R s m args below meth c H locs cells slots Q (F0 m pc ls (.int (nI k) :: .ref a :: rest)) := by
  refine va_bald hexec hb hK hP q0 t0 ha ht (vp_in_nI hk hn) hdg ?_
  rw [nI_clamp (by omega)]
  exact kk
theorem ot_iald (hexec : p.tables.exec = Jvm.exec) (hb : c.code = cc) (hK : va_K D cl tys s) (hP : va_P D cl ws H) (q0 t0 : Nat) {cA : ClassId} {n : Nat} {f : Nat → Int32} (ha : ws[q0]? = some (a, .inl (cA, n, .inl f))) (ht : tys[t0]? = some (cA, .int)) {k : Nat} (hk : k < n) (hn : n < 2 ^ 31) (hdg : decode cc pc = .ok (.iaload, 1))
    (kk : W p l e R s m args below meth c H locs cells slots Q (F0 m (pc + 1) ls (.int (f k) :: rest))) : W p l e R s m args below meth c H locs cells slots Q (F0 m pc ls (.int (nI k) :: .ref a :: rest)) := by
  refine va_iald hexec hb hK hP q0 t0 ha ht (vp_in_nI hk hn) hdg ?_
  rw [nI_clamp (by omega)]
  exact kk
theorem ot_lald (hexec : p.tables.exec = Jvm.exec) (hb : c.code = cc) (hK : va_K D cl tys s) (hP : va_P D cl ws H) (q0 t0 : Nat) {cA : ClassId} {n : Nat} {f : Nat → Int64} (ha : ws[q0]? = some (a, .inl (cA, n, .inr (.inl f)))) (ht : tys[t0]? = some (cA, .long)) {k : Nat} (hk : k < n) (hn : n < 2 ^ 31) (hdg : decode cc pc = .ok (.laload, 1))
    (kk : W p l e R s m args below meth c H locs cells slots Q (F0 m (pc + 1) ls (.long (f k) :: rest))) : W p l e R s m args below meth c H locs cells slots Q (F0 m pc ls (.int (nI k) :: .ref a :: rest)) := by
  refine va_lald hexec hb hK hP q0 t0 ha ht (vp_in_nI hk hn) hdg ?_
  rw [nI_clamp (by omega)]
  exact kk
theorem ot_bast (hexec : p.tables.exec = Jvm.exec) (hb : c.code = cc) (hK : va_K D cl tys s) (hP : va_P D cl ws H) (hD : va_D A ws) (hS : va_S A H0 H locs) (q0 t0 : Nat) {cA : ClassId} {n : Nat} {f : Nat → Int32} (ha : ws[q0]? = some (a, .inl (cA, n, .inl f))) (ht : tys[t0]? = some (cA, .byte)) {k : Nat} {x v : Int32} (hv : vp_nar .byte x = v) (hk : k < n) (hn : n < 2 ^ 31) (hdg : decode cc pc = .ok (.bastore, 1))
    (kk : ∀ (F : Nat → Int32) (H1 : Heap) (locs1 : List Loc), F = upd f k v → va_P D cl (ws.set q0 (a, .inl (cA, n, .inl F))) H1 → va_D A (ws.set q0 (a, .inl (cA, n, .inl F))) → va_S A H0 H1 locs1 → W p l e R s m args below meth c H1 locs1 cells slots Q (F0 m (pc + 1) ls rest)) : W p l e R s m args below meth c H locs cells slots Q (F0 m pc ls (.int x :: .int (nI k) :: .ref a :: rest)) := by
  refine va_bast hexec hb hK hP hD hS q0 t0 ha ht (vp_in_nI hk hn) hdg (fun H1 locs1 h1 h2 h3 => ?_)
  rw [nI_clamp (by omega), hv] at h1 h2
  exact kk _ H1 locs1 rfl h1 h2 h3
theorem ot_iast (hexec : p.tables.exec = Jvm.exec) (hb : c.code = cc) (hK : va_K D cl tys s) (hP : va_P D cl ws H) (hD : va_D A ws) (hS : va_S A H0 H locs) (q0 t0 : Nat) {cA : ClassId} {n : Nat} {f : Nat → Int32} (ha : ws[q0]? = some (a, .inl (cA, n, .inl f))) (ht : tys[t0]? = some (cA, .int)) {k : Nat} {x : Int32} (hk : k < n) (hn : n < 2 ^ 31) (hdg : decode cc pc = .ok (.iastore, 1))
    (kk : ∀ (F : Nat → Int32) (H1 : Heap) (locs1 : List Loc), F = upd f k x → va_P D cl (ws.set q0 (a, .inl (cA, n, .inl F))) H1 → va_D A (ws.set q0 (a, .inl (cA, n, .inl F))) → va_S A H0 H1 locs1 → W p l e R s m args below meth c H1 locs1 cells slots Q (F0 m (pc + 1) ls rest)) : W p l e R s m args below meth c H locs cells slots Q (F0 m pc ls (.int x :: .int (nI k) :: .ref a :: rest)) := by
  refine va_iast hexec hb hK hP hD hS q0 t0 ha ht (vp_in_nI hk hn) hdg (fun H1 locs1 h1 h2 h3 => ?_)
  rw [nI_clamp (by omega)] at h1 h2
  exact kk _ H1 locs1 rfl h1 h2 h3
theorem ot_last (hexec : p.tables.exec = Jvm.exec) (hb : c.code = cc) (hK : va_K D cl tys s) (hP : va_P D cl ws H) (hD : va_D A ws) (hS : va_S A H0 H locs) (q0 t0 : Nat) {cA : ClassId} {n : Nat} {f : Nat → Int64} (ha : ws[q0]? = some (a, .inl (cA, n, .inr (.inl f)))) (ht : tys[t0]? = some (cA, .long)) {k : Nat} {x : Int64} (hk : k < n) (hn : n < 2 ^ 31) (hdg : decode cc pc = .ok (.lastore, 1))
    (kk : ∀ (F : Nat → Int64) (H1 : Heap) (locs1 : List Loc), F = vp_updL f k x → va_P D cl (ws.set q0 (a, .inl (cA, n, .inr (.inl F)))) H1 → va_D A (ws.set q0 (a, .inl (cA, n, .inr (.inl F)))) → va_S A H0 H1 locs1 → W p l e R s m args below meth c H1 locs1 cells slots Q (F0 m (pc + 1) ls rest)) : W p l e R s m args below meth c H locs cells slots Q (F0 m pc ls (.long x :: .int (nI k) :: .ref a :: rest)) := by
  refine va_last hexec hb hK hP hD hS q0 t0 ha ht (vp_in_nI hk hn) hdg (fun H1 locs1 h1 h2 h3 => ?_)
  rw [nI_clamp (by omega)] at h1 h2
  exact kk _ H1 locs1 rfl h1 h2 h3
end OtArr
abbrev vwCl : List vw_C := [(RX0, TX0, 4), (RX1, TX1, 7)]
theorem ot_inc (i k : Nat) : nI i + Int32.ofInt (k : Int) = nI (i + k) := nI_add i k
def ot_b (x : Int32) : Nat := x.toBitVec.toNat % 256
theorem ot_b_lt (x : Int32) : ot_b x < 256 := Nat.mod_lt _ (by decide)
theorem ot_and255 (x : Int32) : x &&& nI 255 = nI (ot_b x) := pk_and x 8 (by decide)
theorem ot_b_nI {n : Nat} (h : n < 256) : ot_b (nI n) = n := by
  unfold ot_b
  rw [pk_tn (by omega)]
  omega
theorem ot_orI (a b : Nat) : nI a ||| nI b = nI (a ||| b) := by
  apply Int32.toBitVec_inj.mp
  show BitVec.ofNat 32 a ||| BitVec.ofNat 32 b = BitVec.ofNat 32 (a ||| b)
  exact BitVec.ofNat_or.symm
theorem ot_or_sum {a k : Nat} (b : Nat) (h : a < 2 ^ k) : a ||| b * 2 ^ k = a + b * 2 ^ k := by
  rw [Nat.or_comm, Nat.mul_comm, ← Nat.two_pow_add_eq_or_of_lt h, Nat.add_comm]
/-- the low word of an int, as a long -/
theorem ot_low (n : Nat) (h : n < 2 ^ 32) : (nI n).toInt64 &&& lN 4294967295 = lN n := by
  apply Int64.toBitVec_inj.mp
  apply BitVec.eq_of_toNat_eq
  show ((BitVec.ofNat 32 n).signExtend 64 &&& BitVec.ofNat 64 4294967295).toNat = (BitVec.ofNat 64 n).toNat
  rw [BitVec.toNat_and, BitVec.toNat_signExtend]
  have e1 : (BitVec.ofNat 64 4294967295).toNat = 2 ^ 32 - 1 := by decide
  rw [e1, Nat.and_two_pow_sub_one_eq_mod]
  have e2 : (BitVec.ofNat 32 n).toNat = n := by rw [BitVec.toNat_ofNat]; omega
  have e3 : (BitVec.ofNat 64 n).toNat = n := by rw [BitVec.toNat_ofNat]; omega
  rw [e3, BitVec.toNat_setWidth, e2]
  split <;> omega
def ot_le32 (f : Nat → Int32) (i : Nat) : Nat := ot_b (f i) + ot_b (f (i + 1)) * 2 ^ 8 + ot_b (f (i + 2)) * 2 ^ 16 + ot_b (f (i + 3)) * 2 ^ 24
theorem ot_le32_lt (f : Nat → Int32) (i : Nat) : ot_le32 f i < 2 ^ 32 := by
  have h0 := ot_b_lt (f i)
  have h1 := ot_b_lt (f (i + 1))
  have h2 := ot_b_lt (f (i + 2))
  have h3 := ot_b_lt (f (i + 3))
  unfold ot_le32
  omega
theorem ot_load32 (f : Nat → Int32) (i : Nat) : ((((f i &&& nI 255) ||| ((f (i + 1) &&& nI 255) <<< (nI 8 &&& 31))) ||| ((f (i + 2) &&& nI 255) <<< (nI 16 &&& 31))) ||| ((f (i + 3) &&& nI 255) <<< (nI 24 &&& 31))).toInt64 &&& lN 4294967295 = lN (ot_le32 f i) := by
  have h0 := ot_b_lt (f i)
  have h1 := ot_b_lt (f (i + 1))
  have h2 := ot_b_lt (f (i + 2))
  have h3 := ot_b_lt (f (i + 3))
  have hL := ot_le32_lt f i
  rw [ot_and255, ot_and255, ot_and255, ot_and255, pk_shlN (nI 8 &&& 31) 8 (by decide) (by omega), pk_shlN (nI 16 &&& 31) 16 (by decide) (by omega), pk_shlN (nI 24 &&& 31) 24 (by decide) (by omega)]
  rw [ot_orI, ot_or_sum _ (by omega), ot_orI, ot_or_sum _ (by omega), ot_orI, ot_or_sum _ (by omega)]
  exact ot_low _ hL
theorem ot_load26 {n k : Nat} (h : n < 2 ^ 32) (hk : k < 32) : (lN n >>> ((nI k).toInt64 &&& 63)) &&& lN 67108863 = lN (n / 2 ^ k % 2 ^ 26) := by
  rw [wb_c k (by omega), pf_shr (d := k) (by rw [wb_tb, wb_sm k (by omega), BitVec.toNat_ofNat]; omega) (by omega)]
  exact fb_maskL _ 26
/-- the signed byte of a number -/
def ot_sb (n : Nat) : Int32 := (nI (n % 256)).toInt8.toInt32
theorem ot_b_i8 (x : Int32) : ot_b x.toInt8.toInt32 = ot_b x := by
  have h := bp_b x
  have h1 : x.toInt8.toInt32 &&& nI 255 = x &&& nI 255 := h
  rw [ot_and255, ot_and255] at h1
  have a1 := ot_b_lt x
  have a2 := ot_b_lt x.toInt8.toInt32
  exact (nI_eq (by omega) (by omega)).mp h1
theorem ot_b_sb (n : Nat) : ot_b (ot_sb n) = n % 256 := by
  unfold ot_sb
  rw [ot_b_i8, ot_b_nI (Nat.mod_lt _ (by decide))]
theorem ot_tobyte (n : Nat) : (lN n &&& lN 255).toInt32.toInt8.toInt32 = ot_sb n := by
  rw [show lN 255 = lN (2 ^ 8 - 1) from rfl, fb_maskL, lN_i]
  rfl
theorem ot_shr8 {n : Nat} (h : n < 2 ^ 62) : lN n >>> ((nI 8).toInt64 &&& 63) = lN (n / 256) := by
  rw [wb_c 8 (by omega), pf_shr (d := 8) (by decide) h]
end
section
/-! Poly1305's leaves; Arrays.fill -/
abbrev wsX2_load32 : List Cond := ws_ yX2_load32 cX2_load32 2 (some .long)
set_option maxHeartbeats 4000000 in
set_option maxRecDepth 100000 in
/-- load32: four bytes, little end first -/
theorem metX2_load32 (l : Launch) (dC : Nat → ClassId) (dI : Nat → Nat → Nat) (sz : Nat) (h0 n0 : Nat) (d0 : ClassId) (f0 : Nat → Int32) (i : Nat) (hi : i + 4 ≤ n0) (hn : n0 < 2147483648) : Met l yX2_load32 wsX2_load32 ({ frames := 0, cells := 0, slots := 0, locals := 0 }) (va_Pc [.ref h0, .int (nI i)] (fun U => U.heap.size = sz ∧ va_P (dC, dI) vwCl [(h0, .inl (d0, n0, .inl f0))] U.heap ∧ va_K (dC, dI) vwCl [(d0, .byte)] U ∧ va_D (fun _ => True) [(h0, .inl (d0, n0, .inl f0))])) (va_Ql (fun (r : Int64) (_ : Unit) => r = lN (ot_le32 f0 i)) (fun (u : Unit) (t : State) => va_P (dC, dI) vwCl [(h0, .inl (d0, n0, .inl f0))] t.heap ∧ va_K (dC, dI) vwCl [(d0, .byte)] t ∧ va_D (va_A [(h0, .inl (d0, n0, .inl f0))] sz) [(h0, .inl (d0, n0, .inl f0))]) (va_A [(h0, .inl (d0, n0, .inl f0))] sz)) 0 0 (va_A [(h0, .inl (d0, n0, .inl f0))] sz) := by
  refine Met.ofW (cc := cX2_load32) (maxL := 2) (ret := (some .long)) (by decide) rfl ?_
  intro p e s m args below meth c s₁ B hml hv
  obtain ⟨rfl, hsz, hP, hK, hD0⟩ := hv
  have hx := B.exec
  have hb := B.bytes
  have hr := B.returns
  have hts := atoms_spec (ws := wsX2_load32) B.pre
  have hts : ∀ w ∈ lw_all, w.before _ s = true := fun w h => hts w (List.mem_cons_of_mem _ h)
  have hown : s.vm.findClass RX2 = some m.cls := findClass_of_methodNamed B.named
  have hlocks := B.notSynchronized
  subst hsz
  have hD := hD0.self (sz := s.heap.size)
  generalize hAe : va_A [(h0, .inl (d0, n0, .inl f0))] s.heap.size = A at hD ⊢
  have hA : ∀ q : Nat, s.heap.size ≤ q → A q := fun q h => by rw [← hAe]; exact Or.inr h
  have hS : va_S A s.heap s.heap [] := va_S.rf
  have hP : va_P (dC, dI) vwCl [(h0, .inl (d0, n0, .inl f0))] s.heap := hP
  have hl := lv_entry ([.ref h0, .int (nI i)]) (n := 2) (Nat.le_of_ble_eq_true rfl)
  rw [lg_entry_eq]
  generalize (lg_sl ([.ref h0, .int (nI i)]) ++ List.replicate (2 - (lg_sl ([.ref h0, .int (nI i)])).length) Slot.unset).toArray = ls at hl ⊢
  have hl : lv_has ls 2 [(0, .ref h0), (1, .int (nI i))] := hl
  refine lv_aload_n hx hb dX2_load32_0 rfl (lv_at hl 0 rfl) ?_
  refine lv_iload_n hx hb dX2_load32_1 rfl (lv_at hl 1 rfl) ?_
  refine ot_bald (k := i) hx hb hK hP 0 0 rfl rfl (by omega) (by omega) dX2_load32_2 ?_
  refine lv_sipush (v := nI 255) hx hb dX2_load32_3 (by decide) ?_
  refine lv_iand hx hb dX2_load32_6 ?_
  refine lv_aload_n hx hb dX2_load32_7 rfl (lv_at hl 0 rfl) ?_
  refine lv_iload_n hx hb dX2_load32_8 rfl (lv_at hl 1 rfl) ?_
  refine lv_iconst (v := nI 1) hx hb dX2_load32_9 (by decide) ?_
  refine lv_iadd hx hb dX2_load32_10 ?_
  refine ot_topi (nI (i + 1)) (nI_add _ _) ?_
  refine ot_bald (k := (i + 1)) hx hb hK hP 0 0 rfl rfl (by omega) (by omega) dX2_load32_11 ?_
  refine lv_sipush (v := nI 255) hx hb dX2_load32_12 (by decide) ?_
  refine lv_iand hx hb dX2_load32_15 ?_
  refine lv_bipush (v := nI 8) hx hb dX2_load32_16 (by decide) ?_
  refine lv_ishl hx hb dX2_load32_18 ?_
  refine lv_ior hx hb dX2_load32_19 ?_
  refine lv_aload_n hx hb dX2_load32_20 rfl (lv_at hl 0 rfl) ?_
  refine lv_iload_n hx hb dX2_load32_21 rfl (lv_at hl 1 rfl) ?_
  refine lv_iconst (v := nI 2) hx hb dX2_load32_22 (by decide) ?_
  refine lv_iadd hx hb dX2_load32_23 ?_
  refine ot_topi (nI (i + 2)) (nI_add _ _) ?_
  refine ot_bald (k := (i + 2)) hx hb hK hP 0 0 rfl rfl (by omega) (by omega) dX2_load32_24 ?_
  refine lv_sipush (v := nI 255) hx hb dX2_load32_25 (by decide) ?_
  refine lv_iand hx hb dX2_load32_28 ?_
  refine lv_bipush (v := nI 16) hx hb dX2_load32_29 (by decide) ?_
  refine lv_ishl hx hb dX2_load32_31 ?_
  refine lv_ior hx hb dX2_load32_32 ?_
  refine lv_aload_n hx hb dX2_load32_33 rfl (lv_at hl 0 rfl) ?_
  refine lv_iload_n hx hb dX2_load32_34 rfl (lv_at hl 1 rfl) ?_
  refine lv_iconst (v := nI 3) hx hb dX2_load32_35 (by decide) ?_
  refine lv_iadd hx hb dX2_load32_36 ?_
  refine ot_topi (nI (i + 3)) (nI_add _ _) ?_
  refine ot_bald (k := (i + 3)) hx hb hK hP 0 0 rfl rfl (by omega) (by omega) dX2_load32_37 ?_
  refine lv_sipush (v := nI 255) hx hb dX2_load32_38 (by decide) ?_
  refine lv_iand hx hb dX2_load32_41 ?_
  refine lv_bipush (v := nI 24) hx hb dX2_load32_42 (by decide) ?_
  refine lv_ishl hx hb dX2_load32_44 ?_
  refine lv_ior hx hb dX2_load32_45 ?_
  refine lv_i2l hx hb dX2_load32_46 rfl ?_
  refine lv_ldc2 (v := lN 4294967295) hx hb hown (hts _ q155) dX2_load32_47 ?_
  refine lv_land hx hb dX2_load32_50 ?_
  refine ot_topl (lN (ot_le32 f0 i)) (ot_load32 f0 i) ?_
  have hP9 := hP.sub (ws' := [(h0, .inl (d0, n0, .inl f0))]) [0] rfl
  have hD9 := hD.sub (ws' := [(h0, .inl (d0, n0, .inl f0))]) [0] (by decide) rfl
  have hK9 := hK.sub (tys' := [(d0, .byte)]) [0] rfl
  exact W.lret (v := lN (ot_le32 f0 i)) hx hb hr (fun t ht hW => ⟨⟨lN (ot_le32 f0 i), (), rfl, rfl, by rw [ht]; exact hP9, va_K.moved hW.alike hK9, hD9⟩, hS.F ht⟩) hS.2.2 dX2_load32_51
abbrev wsX2_load26 : List Cond := ws_ yX2_load26 cX2_load26 3 (some .long)
set_option maxHeartbeats 4000000 in
set_option maxRecDepth 100000 in
/-- load26: four bytes, shifted, 26 bits of them -/
theorem metX2_load26 (l : Launch) (dC : Nat → ClassId) (dI : Nat → Nat → Nat) (sz : Nat) (h0 n0 : Nat) (d0 : ClassId) (f0 : Nat → Int32) (i k : Nat) (hi : i + 4 ≤ n0) (hn : n0 < 2147483648) (hk : k < 32) : Met l yX2_load26 wsX2_load26 ({ frames := 1, cells := 0, slots := 0, locals := 21 }) (va_Pc [.ref h0, .int (nI i), .int (nI k)] (fun U => U.heap.size = sz ∧ va_P (dC, dI) vwCl [(h0, .inl (d0, n0, .inl f0))] U.heap ∧ va_K (dC, dI) vwCl [(d0, .byte)] U ∧ va_D (fun _ => True) [(h0, .inl (d0, n0, .inl f0))])) (va_Ql (fun (r : Int64) (_ : Unit) => r = lN (ot_le32 f0 i / 2 ^ k % 2 ^ 26)) (fun (u : Unit) (t : State) => va_P (dC, dI) vwCl [(h0, .inl (d0, n0, .inl f0))] t.heap ∧ va_K (dC, dI) vwCl [(d0, .byte)] t ∧ va_D (va_A [(h0, .inl (d0, n0, .inl f0))] sz) [(h0, .inl (d0, n0, .inl f0))]) (va_A [(h0, .inl (d0, n0, .inl f0))] sz)) 0 0 (va_A [(h0, .inl (d0, n0, .inl f0))] sz) := by
  refine Met.ofW (cc := cX2_load26) (maxL := 3) (ret := (some .long)) (by decide) rfl ?_
  intro p e s m args below meth c s₁ B hml hv
  obtain ⟨rfl, hsz, hP, hK, hD0⟩ := hv
  have hx := B.exec
  have hb := B.bytes
  have hr := B.returns
  have hts := atoms_spec (ws := wsX2_load26) B.pre
  have hts : ∀ w ∈ lw_all, w.before _ s = true := fun w h => hts w (List.mem_cons_of_mem _ h)
  have hown : s.vm.findClass RX2 = some m.cls := findClass_of_methodNamed B.named
  have hlocks := B.notSynchronized
  subst hsz
  have hD := hD0.self (sz := s.heap.size)
  generalize hAe : va_A [(h0, .inl (d0, n0, .inl f0))] s.heap.size = A at hD ⊢
  have hA : ∀ q : Nat, s.heap.size ≤ q → A q := fun q h => by rw [← hAe]; exact Or.inr h
  have hS : va_S A s.heap s.heap [] := va_S.rf
  have hP : va_P (dC, dI) vwCl [(h0, .inl (d0, n0, .inl f0))] s.heap := hP
  have hl := lv_entry ([.ref h0, .int (nI i), .int (nI k)]) (n := 3) (Nat.le_of_ble_eq_true rfl)
  rw [lg_entry_eq]
  generalize (lg_sl ([.ref h0, .int (nI i), .int (nI k)]) ++ List.replicate (3 - (lg_sl ([.ref h0, .int (nI i), .int (nI k)])).length) Slot.unset).toArray = ls at hl ⊢
  have hl : lv_has ls 3 [(0, .ref h0), (1, .int (nI i)), (2, .int (nI k))] := hl
  refine lv_aload_n hx hb dX2_load26_0 rfl (lv_at hl 0 rfl) ?_
  refine lv_iload_n hx hb dX2_load26_1 rfl (lv_at hl 1 rfl) ?_
  have hPc := hP.sub (ws' := [(h0, .inl (d0, n0, .inl f0))]) [0] rfl
  have hDc := hD.sub (ws' := [(h0, .inl (d0, n0, .inl f0))]) [0] (by decide) rfl
  have hKc := hK.sub (tys' := [(d0, .byte)]) [0] rfl
  have hFc := va_free (wc := [(h0, .inl (d0, n0, .inl f0))]) hD hS hA [0] rfl
  refine va_calll (va_runS (As := [.ref h0, .int (nI i)]) (rest := []) ⟨hx, hb, hml, hown, hts⟩ (metX2_load32 l dC dI s.heap.size h0 n0 d0 f0 i hi hn) (va_cwS 2 hts (lw_S q152 q153 q12 q154) rfl rfl rfl (by decide +kernel) ⟨Nat.le_of_ble_eq_true rfl, Nat.le_of_ble_eq_true rfl⟩) ⟨fun a U g mk q => by obtain ⟨q0, q1, qP, qK, qD⟩ := q; exact ⟨q0, q1, qP, va_K.moved (u := U) (U := U.calling g mk a) (Vm.Alike.refl U.vm) qK, qD⟩, fun U hU hW => ⟨rfl, by rw [hU], by rw [hU]; exact hPc, va_K.moved hW.alike hKc, hDc.weaken (fun _ _ _ _ => trivial)⟩⟩ rfl rfl hl.1 rfl (lv_room (Nat.le_of_ble_eq_true rfl)) dX2_load26_2 ⟨Nat.le_of_ble_eq_true rfl, Nat.le_of_ble_eq_true rfl⟩) hS (fun q _ h => hFc q h) hFc (fun r_ u_ t H1 locs ht hvm hw_ hB hz1 hk1 hS => ?_)
  obtain ⟨hP1, -, -⟩ := hB
  rw [ht] at hP1
  have hP := ot_back hP hD [0] rfl hk1 hP1
  generalize H1 = H at hP hS ⊢
  have e_ : r_ = lN (ot_le32 f0 i) := hw_
  subst e_
  refine W.widen (k := 0) (n := 0) (Nat.le_refl _) (Nat.le_refl _) ?_
  refine lv_iload_n hx hb dX2_load26_5 rfl (lv_at hl 2 rfl) ?_
  refine lv_lshr hx hb dX2_load26_6 rfl ?_
  refine lv_ldc2 (v := lN 67108863) hx hb hown (hts _ q156) dX2_load26_7 ?_
  refine lv_land hx hb dX2_load26_10 ?_
  refine ot_topl (lN (ot_le32 f0 i / 2 ^ k % 2 ^ 26)) (ot_load26 (ot_le32_lt f0 i) hk) ?_
  have hP9 := hP.sub (ws' := [(h0, .inl (d0, n0, .inl f0))]) [0] rfl
  have hD9 := hD.sub (ws' := [(h0, .inl (d0, n0, .inl f0))]) [0] (by decide) rfl
  have hK9 := hK.sub (tys' := [(d0, .byte)]) [0] rfl
  exact W.lret (v := lN (ot_le32 f0 i / 2 ^ k % 2 ^ 26)) hx hb hr (fun t ht hW => ⟨⟨lN (ot_le32 f0 i / 2 ^ k % 2 ^ 26), (), rfl, rfl, by rw [ht]; exact hP9, va_K.moved hW.alike hK9, hD9⟩, hS.F ht⟩) hS.2.2 dX2_load26_11
abbrev wsX2_toByteArray : List Cond := ws_ yX2_toByteArray cX2_toByteArray 5 none
set_option maxHeartbeats 4000000 in
set_option maxRecDepth 100000 in
/-- toByteArray: four bytes of a number, little end first -/
theorem metX2_toByteArray (l : Launch) (dC : Nat → ClassId) (dI : Nat → Nat → Nat) (sz : Nat) (h0 n0 : Nat) (d0 : ClassId) (f0 : Nat → Int32) (N i : Nat) (hi : i + 4 ≤ n0) (hn : n0 < 2147483648) (hN : N < 4294967296) : Met l yX2_toByteArray wsX2_toByteArray ({ frames := 0, cells := 0, slots := 0, locals := 0 }) (va_Pc [.ref h0, .long (lN N), .int (nI i)] (fun U => U.heap.size = sz ∧ va_P (dC, dI) vwCl [(h0, .inl (d0, n0, .inl f0))] U.heap ∧ va_K (dC, dI) vwCl [(d0, .byte)] U ∧ va_D (fun _ => True) [(h0, .inl (d0, n0, .inl f0))])) (va_Qv (fun (F : Nat → Int32) => F i = ot_sb N ∧ F (i + 1) = ot_sb (N / 256) ∧ F (i + 2) = ot_sb (N / 256 / 256) ∧ F (i + 3) = ot_sb (N / 256 / 256 / 256) ∧ ∀ j, (j < i ∨ i + 4 ≤ j) → F j = f0 j) (fun (u : Nat → Int32) (t : State) => va_P (dC, dI) vwCl [(h0, .inl (d0, n0, .inl u))] t.heap ∧ va_K (dC, dI) vwCl [(d0, .byte)] t ∧ va_D (va_A [(h0, .inl (d0, n0, .inl f0))] sz) [(h0, .inl (d0, n0, .inl u))]) (va_A [(h0, .inl (d0, n0, .inl f0))] sz)) 0 0 (va_A [(h0, .inl (d0, n0, .inl f0))] sz) := by
  refine Met.ofW (cc := cX2_toByteArray) (maxL := 5) (ret := none) (by decide) rfl ?_
  intro p e s m args below meth c s₁ B hml hv
  obtain ⟨rfl, hsz, hP, hK, hD0⟩ := hv
  have hx := B.exec
  have hb := B.bytes
  have hr := B.returns
  have hts := atoms_spec (ws := wsX2_toByteArray) B.pre
  have hts : ∀ w ∈ lw_all, w.before _ s = true := fun w h => hts w (List.mem_cons_of_mem _ h)
  have hown : s.vm.findClass RX2 = some m.cls := findClass_of_methodNamed B.named
  have hlocks := B.notSynchronized
  subst hsz
  have hD := hD0.self (sz := s.heap.size)
  generalize hAe : va_A [(h0, .inl (d0, n0, .inl f0))] s.heap.size = A at hD ⊢
  have hA : ∀ q : Nat, s.heap.size ≤ q → A q := fun q h => by rw [← hAe]; exact Or.inr h
  have hS : va_S A s.heap s.heap [] := va_S.rf
  have hP : va_P (dC, dI) vwCl [(h0, .inl (d0, n0, .inl f0))] s.heap := hP
  have hl := lv_entry ([.ref h0, .long (lN N), .int (nI i)]) (n := 5) (Nat.le_of_ble_eq_true rfl)
  rw [lg_entry_eq]
  generalize (lg_sl ([.ref h0, .long (lN N), .int (nI i)]) ++ List.replicate (5 - (lg_sl ([.ref h0, .long (lN N), .int (nI i)])).length) Slot.unset).toArray = ls at hl ⊢
  have hl : lv_has ls 5 [(0, .ref h0), (1, .long (lN N)), (3, .int (nI i))] := hl
  refine lv_iconst (v := nI 0) hx hb dX2_toByteArray_0 (by decide) ?_
  refine lv_istore (lv' := [(4, .int (nI 0)), (0, .ref h0), (1, .long (lN N)), (3, .int (nI i))]) hx hb dX2_toByteArray_1 hl (by decide) rfl (fun ls hl => ?_)
  refine lv_iload hx hb dX2_toByteArray_3 (lv_at hl 0 rfl) ?_
  refine lv_iconst (v := nI 4) hx hb dX2_toByteArray_5 (by decide) ?_
  refine lv_icmp_ge (tgt := 33) hx hb dX2_toByteArray_6 (by decide) (fun c_ => absurd c_ (by decide)) (fun c_ => ?_)
  refine lv_aload_n hx hb dX2_toByteArray_9 rfl (lv_at hl 1 rfl) ?_
  refine lv_iload_n hx hb dX2_toByteArray_10 rfl (lv_at hl 3 rfl) ?_
  refine lv_iload hx hb dX2_toByteArray_11 (lv_at hl 0 rfl) ?_
  refine lv_iadd hx hb dX2_toByteArray_13 ?_
  refine ot_topi (nI i) (nI_add _ _) ?_
  refine lv_lload_n hx hb dX2_toByteArray_14 rfl (lv_at hl 2 rfl) ?_
  refine lv_ldc2 (v := lN 255) hx hb hown (hts _ q180) dX2_toByteArray_15 ?_
  refine lv_land hx hb dX2_toByteArray_18 ?_
  refine lv_l2i hx hb dX2_toByteArray_19 rfl ?_
  refine lv_i2b hx hb dX2_toByteArray_20 rfl ?_
  refine ot_topi (ot_sb N) (ot_tobyte N) ?_
  refine ot_bast (k := i) hx hb hK hP hD hS 0 0 rfl rfl (pk_vb _) (by omega) (by omega) dX2_toByteArray_21 (fun F1 H locs eF1 hP hD hS => ?_)
  have hP : va_P (dC, dI) vwCl [(h0, .inl (d0, n0, .inl F1))] H := hP
  have hD : va_D A [(h0, .inl (d0, n0, .inl F1))] := hD
  refine lv_iinc (v := nI 1) (lv' := [(4, .int (nI 1)), (0, .ref h0), (1, .long (lN N)), (3, .int (nI i))]) hx hb dX2_toByteArray_22 hl (k := 0) rfl (by decide) (by decide) rfl (fun ls hl => ?_)
  refine lv_lload_n hx hb dX2_toByteArray_25 rfl (lv_at hl 2 rfl) ?_
  refine lv_bipush (v := nI 8) hx hb dX2_toByteArray_26 (by decide) ?_
  refine lv_lshr hx hb dX2_toByteArray_28 rfl ?_
  refine ot_topl (lN (N / 256)) (ot_shr8 (by omega)) ?_
  refine lv_lstore_n (lv' := [(1, .long (lN (N / 256))), (4, .int (nI 1)), (0, .ref h0), (3, .int (nI i))]) hx hb dX2_toByteArray_29 rfl hl (by decide) rfl (fun ls hl => ?_)
  refine lv_goto (tgt := 3) hx hb dX2_toByteArray_30 (by decide) ?_
  refine lv_iload hx hb dX2_toByteArray_3 (lv_at hl 1 rfl) ?_
  refine lv_iconst (v := nI 4) hx hb dX2_toByteArray_5 (by decide) ?_
  refine lv_icmp_ge (tgt := 33) hx hb dX2_toByteArray_6 (by decide) (fun c_ => absurd c_ (by decide)) (fun c_ => ?_)
  refine lv_aload_n hx hb dX2_toByteArray_9 rfl (lv_at hl 2 rfl) ?_
  refine lv_iload_n hx hb dX2_toByteArray_10 rfl (lv_at hl 3 rfl) ?_
  refine lv_iload hx hb dX2_toByteArray_11 (lv_at hl 1 rfl) ?_
  refine lv_iadd hx hb dX2_toByteArray_13 ?_
  refine ot_topi (nI (i + 1)) (nI_add _ _) ?_
  refine lv_lload_n hx hb dX2_toByteArray_14 rfl (lv_at hl 0 rfl) ?_
  refine lv_ldc2 (v := lN 255) hx hb hown (hts _ q180) dX2_toByteArray_15 ?_
  refine lv_land hx hb dX2_toByteArray_18 ?_
  refine lv_l2i hx hb dX2_toByteArray_19 rfl ?_
  refine lv_i2b hx hb dX2_toByteArray_20 rfl ?_
  refine ot_topi (ot_sb (N / 256)) (ot_tobyte (N / 256)) ?_
  refine ot_bast (k := (i + 1)) hx hb hK hP hD hS 0 0 rfl rfl (pk_vb _) (by omega) (by omega) dX2_toByteArray_21 (fun F2 H locs eF2 hP hD hS => ?_)
  have hP : va_P (dC, dI) vwCl [(h0, .inl (d0, n0, .inl F2))] H := hP
  have hD : va_D A [(h0, .inl (d0, n0, .inl F2))] := hD
  refine lv_iinc (v := nI 2) (lv' := [(4, .int (nI 2)), (1, .long (lN (N / 256))), (0, .ref h0), (3, .int (nI i))]) hx hb dX2_toByteArray_22 hl (k := 1) rfl (by decide) (by decide) rfl (fun ls hl => ?_)
  refine lv_lload_n hx hb dX2_toByteArray_25 rfl (lv_at hl 1 rfl) ?_
  refine lv_bipush (v := nI 8) hx hb dX2_toByteArray_26 (by decide) ?_
  refine lv_lshr hx hb dX2_toByteArray_28 rfl ?_
  refine ot_topl (lN (N / 256 / 256)) (ot_shr8 (by omega)) ?_
  refine lv_lstore_n (lv' := [(1, .long (lN (N / 256 / 256))), (4, .int (nI 2)), (0, .ref h0), (3, .int (nI i))]) hx hb dX2_toByteArray_29 rfl hl (by decide) rfl (fun ls hl => ?_)
  refine lv_goto (tgt := 3) hx hb dX2_toByteArray_30 (by decide) ?_
  refine lv_iload hx hb dX2_toByteArray_3 (lv_at hl 1 rfl) ?_
  refine lv_iconst (v := nI 4) hx hb dX2_toByteArray_5 (by decide) ?_
  refine lv_icmp_ge (tgt := 33) hx hb dX2_toByteArray_6 (by decide) (fun c_ => absurd c_ (by decide)) (fun c_ => ?_)
  refine lv_aload_n hx hb dX2_toByteArray_9 rfl (lv_at hl 2 rfl) ?_
  refine lv_iload_n hx hb dX2_toByteArray_10 rfl (lv_at hl 3 rfl) ?_
  refine lv_iload hx hb dX2_toByteArray_11 (lv_at hl 1 rfl) ?_
  refine lv_iadd hx hb dX2_toByteArray_13 ?_
  refine ot_topi (nI (i + 2)) (nI_add _ _) ?_
  refine lv_lload_n hx hb dX2_toByteArray_14 rfl (lv_at hl 0 rfl) ?_
  refine lv_ldc2 (v := lN 255) hx hb hown (hts _ q180) dX2_toByteArray_15 ?_
  refine lv_land hx hb dX2_toByteArray_18 ?_
  refine lv_l2i hx hb dX2_toByteArray_19 rfl ?_
  refine lv_i2b hx hb dX2_toByteArray_20 rfl ?_
  refine ot_topi (ot_sb (N / 256 / 256)) (ot_tobyte (N / 256 / 256)) ?_
  refine ot_bast (k := (i + 2)) hx hb hK hP hD hS 0 0 rfl rfl (pk_vb _) (by omega) (by omega) dX2_toByteArray_21 (fun F3 H locs eF3 hP hD hS => ?_)
  have hP : va_P (dC, dI) vwCl [(h0, .inl (d0, n0, .inl F3))] H := hP
  have hD : va_D A [(h0, .inl (d0, n0, .inl F3))] := hD
  refine lv_iinc (v := nI 3) (lv' := [(4, .int (nI 3)), (1, .long (lN (N / 256 / 256))), (0, .ref h0), (3, .int (nI i))]) hx hb dX2_toByteArray_22 hl (k := 1) rfl (by decide) (by decide) rfl (fun ls hl => ?_)
  refine lv_lload_n hx hb dX2_toByteArray_25 rfl (lv_at hl 1 rfl) ?_
  refine lv_bipush (v := nI 8) hx hb dX2_toByteArray_26 (by decide) ?_
  refine lv_lshr hx hb dX2_toByteArray_28 rfl ?_
  refine ot_topl (lN (N / 256 / 256 / 256)) (ot_shr8 (by omega)) ?_
  refine lv_lstore_n (lv' := [(1, .long (lN (N / 256 / 256 / 256))), (4, .int (nI 3)), (0, .ref h0), (3, .int (nI i))]) hx hb dX2_toByteArray_29 rfl hl (by decide) rfl (fun ls hl => ?_)
  refine lv_goto (tgt := 3) hx hb dX2_toByteArray_30 (by decide) ?_
  refine lv_iload hx hb dX2_toByteArray_3 (lv_at hl 1 rfl) ?_
  refine lv_iconst (v := nI 4) hx hb dX2_toByteArray_5 (by decide) ?_
  refine lv_icmp_ge (tgt := 33) hx hb dX2_toByteArray_6 (by decide) (fun c_ => absurd c_ (by decide)) (fun c_ => ?_)
  refine lv_aload_n hx hb dX2_toByteArray_9 rfl (lv_at hl 2 rfl) ?_
  refine lv_iload_n hx hb dX2_toByteArray_10 rfl (lv_at hl 3 rfl) ?_
  refine lv_iload hx hb dX2_toByteArray_11 (lv_at hl 1 rfl) ?_
  refine lv_iadd hx hb dX2_toByteArray_13 ?_
  refine ot_topi (nI (i + 3)) (nI_add _ _) ?_
  refine lv_lload_n hx hb dX2_toByteArray_14 rfl (lv_at hl 0 rfl) ?_
  refine lv_ldc2 (v := lN 255) hx hb hown (hts _ q180) dX2_toByteArray_15 ?_
  refine lv_land hx hb dX2_toByteArray_18 ?_
  refine lv_l2i hx hb dX2_toByteArray_19 rfl ?_
  refine lv_i2b hx hb dX2_toByteArray_20 rfl ?_
  refine ot_topi (ot_sb (N / 256 / 256 / 256)) (ot_tobyte (N / 256 / 256 / 256)) ?_
  refine ot_bast (k := (i + 3)) hx hb hK hP hD hS 0 0 rfl rfl (pk_vb _) (by omega) (by omega) dX2_toByteArray_21 (fun F4 H locs eF4 hP hD hS => ?_)
  have hP : va_P (dC, dI) vwCl [(h0, .inl (d0, n0, .inl F4))] H := hP
  have hD : va_D A [(h0, .inl (d0, n0, .inl F4))] := hD
  refine lv_iinc (v := nI 4) (lv' := [(4, .int (nI 4)), (1, .long (lN (N / 256 / 256 / 256))), (0, .ref h0), (3, .int (nI i))]) hx hb dX2_toByteArray_22 hl (k := 1) rfl (by decide) (by decide) rfl (fun ls hl => ?_)
  refine lv_lload_n hx hb dX2_toByteArray_25 rfl (lv_at hl 1 rfl) ?_
  refine lv_bipush (v := nI 8) hx hb dX2_toByteArray_26 (by decide) ?_
  refine lv_lshr hx hb dX2_toByteArray_28 rfl ?_
  refine ot_topl (lN (N / 256 / 256 / 256 / 256)) (ot_shr8 (by omega)) ?_
  refine lv_lstore_n (lv' := [(1, .long (lN (N / 256 / 256 / 256 / 256))), (4, .int (nI 4)), (0, .ref h0), (3, .int (nI i))]) hx hb dX2_toByteArray_29 rfl hl (by decide) rfl (fun ls hl => ?_)
  refine lv_goto (tgt := 3) hx hb dX2_toByteArray_30 (by decide) ?_
  refine lv_iload hx hb dX2_toByteArray_3 (lv_at hl 1 rfl) ?_
  refine lv_iconst (v := nI 4) hx hb dX2_toByteArray_5 (by decide) ?_
  refine lv_icmp_ge (tgt := 33) hx hb dX2_toByteArray_6 (by decide) (fun c_ => ?_) (fun c_ => absurd c_ (by decide))
  have hP9 := hP.sub (ws' := [(h0, .inl (d0, n0, .inl F4))]) [0] rfl
  have hD9 := hD.sub (ws' := [(h0, .inl (d0, n0, .inl F4))]) [0] (by decide) rfl
  have hK9 := hK.sub (tys' := [(d0, .byte)]) [0] rfl
  exact W.vret hx hb hr (fun t ht hW => ⟨⟨F4, rfl, by refine ⟨?_, ?_, ?_, ?_, fun j hj => ?_⟩ <;> rw [eF4] <;> simp only [eF3, eF2, eF1] <;> unfold upd <;> (repeat' split) <;> first | rfl | omega, by rw [ht]; exact hP9, va_K.moved hW.alike hK9, hD9⟩, hS.F ht⟩) hS.2.2 dX2_toByteArray_33
abbrev wsJ5_rangeCheck : List Cond := ws_ yJ5_rangeCheck cJ5_rangeCheck 3 none
set_option maxHeartbeats 4000000 in
set_option maxRecDepth 100000 in
/-- rangeCheck, in range: nothing -/
theorem metJ5_rangeCheck (l : Launch) (dC : Nat → ClassId) (dI : Nat → Nat → Nat) (sz : Nat) (n a b : Nat) (ha : a ≤ b) (hb2 : b ≤ n) (hn : n < 2147483648) : Met l yJ5_rangeCheck wsJ5_rangeCheck ({ frames := 0, cells := 0, slots := 0, locals := 0 }) (va_Pc [.int (nI n), .int (nI a), .int (nI b)] (fun U => U.heap.size = sz ∧ va_P (dC, dI) vwCl [] U.heap ∧ va_K (dC, dI) vwCl [] U ∧ va_D (fun _ => True) [])) (va_Qv (fun (_ : Unit) => True) (fun (u : Unit) (t : State) => va_P (dC, dI) vwCl [] t.heap ∧ va_K (dC, dI) vwCl [] t ∧ va_D (va_A [] sz) []) (va_A [] sz)) 0 0 (va_A [] sz) := by
  refine Met.ofW (cc := cJ5_rangeCheck) (maxL := 3) (ret := none) (by decide) rfl ?_
  intro p e s m args below meth c s₁ B hml hv
  obtain ⟨rfl, hsz, hP, hK, hD0⟩ := hv
  have hx := B.exec
  have hb := B.bytes
  have hr := B.returns
  have hts := atoms_spec (ws := wsJ5_rangeCheck) B.pre
  have hts : ∀ w ∈ lw_all, w.before _ s = true := fun w h => hts w (List.mem_cons_of_mem _ h)
  have hown : s.vm.findClass RJ5 = some m.cls := findClass_of_methodNamed B.named
  have hlocks := B.notSynchronized
  subst hsz
  have hD := hD0.self (sz := s.heap.size)
  generalize hAe : va_A [] s.heap.size = A at hD ⊢
  have hA : ∀ q : Nat, s.heap.size ≤ q → A q := fun q h => by rw [← hAe]; exact Or.inr h
  have hS : va_S A s.heap s.heap [] := va_S.rf
  have hP : va_P (dC, dI) vwCl [] s.heap := hP
  have hl := lv_entry ([.int (nI n), .int (nI a), .int (nI b)]) (n := 3) (Nat.le_of_ble_eq_true rfl)
  rw [lg_entry_eq]
  generalize (lg_sl ([.int (nI n), .int (nI a), .int (nI b)]) ++ List.replicate (3 - (lg_sl ([.int (nI n), .int (nI a), .int (nI b)])).length) Slot.unset).toArray = ls at hl ⊢
  have hl : lv_has ls 3 [(0, .int (nI n)), (1, .int (nI a)), (2, .int (nI b))] := hl
  refine lv_iload_n hx hb dJ5_rangeCheck_0 rfl (lv_at hl 1 rfl) ?_
  refine lv_iload_n hx hb dJ5_rangeCheck_1 rfl (lv_at hl 2 rfl) ?_
  refine lv_icmp_le (tgt := 46) hx hb dJ5_rangeCheck_2 (by decide) (fun c_ => ?_) (fun c_ => absurd c_ (not_not_intro (nI_le (by omega) (by omega))))
  refine lv_iload_n hx hb dJ5_rangeCheck_46 rfl (lv_at hl 1 rfl) ?_
  refine lv_if_ge (tgt := 59) hx hb dJ5_rangeCheck_47 (by decide) (fun c_ => ?_) (fun c_ => absurd c_ (not_not_intro (nI_pos' (by omega))))
  refine lv_iload_n hx hb dJ5_rangeCheck_59 rfl (lv_at hl 2 rfl) ?_
  refine lv_iload_n hx hb dJ5_rangeCheck_60 rfl (lv_at hl 0 rfl) ?_
  refine lv_icmp_le (tgt := 73) hx hb dJ5_rangeCheck_61 (by decide) (fun c_ => ?_) (fun c_ => absurd c_ (not_not_intro (nI_le (by omega) (by omega))))
  have hP9 := hP.sub (ws' := []) [] rfl
  have hD9 := hD.sub (ws' := []) [] (by decide) rfl
  have hK9 := hK.sub (tys' := []) [] rfl
  exact W.vret hx hb hr (fun t ht hW => ⟨⟨(), rfl, trivial, by rw [ht]; exact hP9, va_K.moved hW.alike hK9, hD9⟩, hS.F ht⟩) hS.2.2 dJ5_rangeCheck_73
set_option maxHeartbeats 4000000 in
set_option maxRecDepth 100000 in
/-- the loop of fill -/
theorem lpJ5_fill {p : Program} {l : Launch} {e : Env} {R : Room} {s : State} {m : MethodId} {args : Array Value} {below : List Frame} {meth : Method} {c : Code} {cells slots : Nat} {Q : State → Prop} {dC : Nat → ClassId} {dI : Nat → Nat → Nat} {A : Nat → Prop} (hx : p.tables.exec = Jvm.exec) (hb : c.code = cJ5_fill) (hown : s.vm.findClass RJ5 = some m.cls) (hts : ∀ w ∈ lw_all, w.before args s = true) {h0 n0 : Nat} {d0 : ClassId} {a b : Nat} (hb2 : b ≤ n0) (hn : n0 < 2147483648) (f0 : Nat → Int32) (hK : va_K (dC, dI) vwCl [(d0, .byte)] s)
    (kk : ∀ (i : Nat) (F : Nat → Int32), i = b → a ≤ i → (∀ j, F j = if a ≤ j ∧ j < i then nI 0 else f0 j) → ∀ (H : Heap) (locs : List Loc), va_P (dC, dI) vwCl [(h0, .inl (d0, n0, .inl F))] H → va_D A [(h0, .inl (d0, n0, .inl F))] → va_S A s.heap H locs → ∀ (ls : Array Slot), lv_has ls 5 [(0, .ref h0), (1, .int (nI a)), (2, .int (nI b)), (3, .int (nI 0)), (4, .int (nI i))] → W p l e R s m args below meth c H locs cells slots Q (F0 m 27 ls [])) :
    ∀ (n i : Nat) (F : Nat → Int32), n + i = b → a ≤ i → (∀ j, F j = if a ≤ j ∧ j < i then nI 0 else f0 j) → ∀ (H : Heap) (locs : List Loc), va_P (dC, dI) vwCl [(h0, .inl (d0, n0, .inl F))] H → va_D A [(h0, .inl (d0, n0, .inl F))] → va_S A s.heap H locs → ∀ (ls : Array Slot), lv_has ls 5 [(0, .ref h0), (1, .int (nI a)), (2, .int (nI b)), (3, .int (nI 0)), (4, .int (nI i))] → W p l e R s m args below meth c H locs cells slots Q (F0 m 10 ls []) := by
  intro n
  induction n with
  | zero =>
    intro i F hn_ h1 h2 H locs hP hD hS ls hl
    refine lv_iload hx hb dJ5_fill_10 (lv_at hl 4 rfl) ?_
    refine lv_iload_n hx hb dJ5_fill_12 rfl (lv_at hl 2 rfl) ?_
    refine lv_icmp_ge (tgt := 27) hx hb dJ5_fill_13 (by decide) (fun c_ => ?_) (fun c_ => absurd c_ (not_not_intro (nI_le (by omega) (by omega))))
    exact kk i F (by omega) h1 h2 H locs hP hD hS ls (lv_sub hl [0, 1, 2, 3, 4] rfl)
  | succ n ih =>
    intro i F hn_ h1 h2 H locs hP hD hS ls hl
    refine lv_iload hx hb dJ5_fill_10 (lv_at hl 4 rfl) ?_
    refine lv_iload_n hx hb dJ5_fill_12 rfl (lv_at hl 2 rfl) ?_
    refine lv_icmp_ge (tgt := 27) hx hb dJ5_fill_13 (by decide) (fun c_ => absurd c_ (nI_ge (by omega) (by omega))) (fun c_ => ?_)
    refine lv_aload_n hx hb dJ5_fill_16 rfl (lv_at hl 0 rfl) ?_
    refine lv_iload hx hb dJ5_fill_17 (lv_at hl 4 rfl) ?_
    refine lv_iload_n hx hb dJ5_fill_19 rfl (lv_at hl 3 rfl) ?_
    refine ot_bast (k := i) (v := nI 0) hx hb hK hP hD hS 0 0 rfl rfl (by decide) (by omega) (by omega) dJ5_fill_20 (fun F2 H locs eF2 hP hD hS => ?_)
    have hP : va_P (dC, dI) vwCl [(h0, .inl (d0, n0, .inl F2))] H := hP
    have hD : va_D A [(h0, .inl (d0, n0, .inl F2))] := hD
    refine lv_iinc (v := nI (i + 1)) (lv' := [(4, .int (nI (i + 1))), (0, .ref h0), (1, .int (nI a)), (2, .int (nI b)), (3, .int (nI 0))]) hx hb dJ5_fill_21 hl (k := 4) rfl (ot_inc _ _) (by decide) rfl (fun ls hl => ?_)
    refine lv_goto (tgt := 10) hx hb dJ5_fill_24 (by decide) ?_
    refine ih (i + 1) F2 (by omega) (by omega) (fun j => ?_) H locs hP hD hS ls (lv_sub hl [1, 2, 3, 4, 0] rfl)
    simp only [eF2, upd, h2]
    (repeat' split) <;> first | rfl | omega
abbrev wsJ5_fill : List Cond := ws_ yJ5_fill cJ5_fill 5 none
set_option maxHeartbeats 4000000 in
set_option maxRecDepth 100000 in
/-- Arrays.fill with 0, in range -/
theorem metJ5_fill (l : Launch) (dC : Nat → ClassId) (dI : Nat → Nat → Nat) (sz : Nat) (h0 n0 : Nat) (d0 : ClassId) (f0 : Nat → Int32) (a b : Nat) (ha : a ≤ b) (hb2 : b ≤ n0) (hn : n0 < 2147483648) : Met l yJ5_fill wsJ5_fill ({ frames := 1, cells := 0, slots := 0, locals := 22 }) (va_Pc [.ref h0, .int (nI a), .int (nI b), .int (nI 0)] (fun U => U.heap.size = sz ∧ va_P (dC, dI) vwCl [(h0, .inl (d0, n0, .inl f0))] U.heap ∧ va_K (dC, dI) vwCl [(d0, .byte)] U ∧ va_D (fun _ => True) [(h0, .inl (d0, n0, .inl f0))])) (va_Qv (fun (F : Nat → Int32) => ∀ j, F j = if a ≤ j ∧ j < b then nI 0 else f0 j) (fun (u : Nat → Int32) (t : State) => va_P (dC, dI) vwCl [(h0, .inl (d0, n0, .inl u))] t.heap ∧ va_K (dC, dI) vwCl [(d0, .byte)] t ∧ va_D (va_A [(h0, .inl (d0, n0, .inl f0))] sz) [(h0, .inl (d0, n0, .inl u))]) (va_A [(h0, .inl (d0, n0, .inl f0))] sz)) 0 0 (va_A [(h0, .inl (d0, n0, .inl f0))] sz) := by
  refine Met.ofW (cc := cJ5_fill) (maxL := 5) (ret := none) (by decide) rfl ?_
  intro p e s m args below meth c s₁ B hml hv
  obtain ⟨rfl, hsz, hP, hK, hD0⟩ := hv
  have hx := B.exec
  have hb := B.bytes
  have hr := B.returns
  have hts := atoms_spec (ws := wsJ5_fill) B.pre
  have hts : ∀ w ∈ lw_all, w.before _ s = true := fun w h => hts w (List.mem_cons_of_mem _ h)
  have hown : s.vm.findClass RJ5 = some m.cls := findClass_of_methodNamed B.named
  have hlocks := B.notSynchronized
  subst hsz
  have hD := hD0.self (sz := s.heap.size)
  generalize hAe : va_A [(h0, .inl (d0, n0, .inl f0))] s.heap.size = A at hD ⊢
  have hA : ∀ q : Nat, s.heap.size ≤ q → A q := fun q h => by rw [← hAe]; exact Or.inr h
  have hS : va_S A s.heap s.heap [] := va_S.rf
  have hP : va_P (dC, dI) vwCl [(h0, .inl (d0, n0, .inl f0))] s.heap := hP
  have hl := lv_entry ([.ref h0, .int (nI a), .int (nI b), .int (nI 0)]) (n := 5) (Nat.le_of_ble_eq_true rfl)
  rw [lg_entry_eq]
  generalize (lg_sl ([.ref h0, .int (nI a), .int (nI b), .int (nI 0)]) ++ List.replicate (5 - (lg_sl ([.ref h0, .int (nI a), .int (nI b), .int (nI 0)])).length) Slot.unset).toArray = ls at hl ⊢
  have hl : lv_has ls 5 [(0, .ref h0), (1, .int (nI a)), (2, .int (nI b)), (3, .int (nI 0))] := hl
  refine lv_aload_n hx hb dJ5_fill_0 rfl (lv_at hl 0 rfl) ?_
  refine va_alen (v := nI n0) hx hb hK hP 0 0 rfl rfl rfl dJ5_fill_1 ?_
  refine lv_iload_n hx hb dJ5_fill_2 rfl (lv_at hl 1 rfl) ?_
  refine lv_iload_n hx hb dJ5_fill_3 rfl (lv_at hl 2 rfl) ?_
  have hPc := hP.sub (ws' := []) [] rfl
  have hDc := hD.sub (ws' := []) [] (by decide) rfl
  have hKc := hK.sub (tys' := []) [] rfl
  have hFc := va_free (wc := []) hD hS hA [] rfl
  refine va_callv (va_runS (As := [.int (nI n0), .int (nI a), .int (nI b)]) (rest := []) ⟨hx, hb, hml, hown, hts⟩ (metJ5_rangeCheck l dC dI s.heap.size n0 a b ha hb2 hn) (va_cwS 3 hts (lw_S q172 q173 q18 q174) rfl rfl rfl (by decide +kernel) ⟨Nat.le_of_ble_eq_true rfl, Nat.le_of_ble_eq_true rfl⟩) ⟨fun a U g mk q => by obtain ⟨q0, q1, qP, qK, qD⟩ := q; exact ⟨q0, q1, qP, va_K.moved (u := U) (U := U.calling g mk a) (Vm.Alike.refl U.vm) qK, qD⟩, fun U hU hW => ⟨rfl, by rw [hU], by rw [hU]; exact hPc, va_K.moved hW.alike hKc, hDc.weaken (fun _ _ _ _ => trivial)⟩⟩ rfl rfl hl.1 rfl (lv_room (Nat.le_of_ble_eq_true rfl)) dJ5_fill_4 ⟨Nat.le_of_ble_eq_true rfl, Nat.le_of_ble_eq_true rfl⟩) hS (fun q _ h => hFc q h) hFc (fun u_ t H1 locs ht hvm hw_ hB hz1 hk1 hS => ?_)
  obtain ⟨hP1, -, -⟩ := hB
  rw [ht] at hP1
  have hP := ot_back hP hD [] rfl hk1 hP1
  generalize H1 = H at hP hS ⊢
  refine W.widen (k := 0) (n := 0) (Nat.le_refl _) (Nat.le_refl _) ?_
  refine lv_iload_n hx hb dJ5_fill_7 rfl (lv_at hl 1 rfl) ?_
  refine lv_istore (lv' := [(4, .int (nI a)), (0, .ref h0), (1, .int (nI a)), (2, .int (nI b)), (3, .int (nI 0))]) hx hb dJ5_fill_8 hl (by decide) rfl (fun ls hl => ?_)
  refine lpJ5_fill hx hb hown hts hb2 hn f0 hK (fun i F hi h1 h2 H locs hP hD hS ls hl => ?_) (b - a) a f0 (by omega) (Nat.le_refl a) (fun j => by rw [if_neg (by omega)]) _ _ hP hD hS ls (lv_sub hl [1, 2, 3, 4, 0] rfl)
  subst hi
  have hP9 := hP.sub (ws' := [(h0, .inl (d0, n0, .inl F))]) [0] rfl
  have hD9 := hD.sub (ws' := [(h0, .inl (d0, n0, .inl F))]) [0] (by decide) rfl
  have hK9 := hK.sub (tys' := [(d0, .byte)]) [0] rfl
  exact W.vret hx hb hr (fun t ht hW => ⟨⟨F, rfl, h2, by rw [ht]; exact hP9, va_K.moved hW.alike hK9, hD9⟩, hS.F ht⟩) hS.2.2 dJ5_fill_27
end
section
/-! plain laws: digits, limbs, the fold -/
theorem ot_namel {p : Program} {l : Launch} {e : Env} {R : Room} {s : State} {m : MethodId} {args : Array Value} {below : List Frame} {meth : Method} {c : Code} {H : Heap} {locs : List Loc} {cells slots : Nat} {Q : State → Prop} {pc : Nat} {ls : Array Slot} {rest : List Value} {n : Nat} (k : ∀ y : Nat, y = n → W p l e R s m args below meth c H locs cells slots Q (F0 m pc ls (.long (lN y) :: rest))) : W p l e R s m args below meth c H locs cells slots Q (F0 m pc ls (.long (lN n) :: rest)) := k n rfl
def ot_dv (g : Nat → Nat) : Nat → Nat
  | 0 => 0
  | n + 1 => ot_dv g n + g n * 256 ^ n
def ot_pp : Nat := 1361129467683753853853498429727072845819
def ot_clamp (k b : Nat) : Nat := if k % 4 = 3 then b % 16 else if k % 4 = 0 ∧ 0 < k then b / 4 * 4 else b
def ot_r (fk : Nat → Int32) : Nat := ot_dv (fun k => ot_clamp k (ot_b (fk k))) 16
def ot_s (fk : Nat → Int32) : Nat := ot_dv (fun k => ot_b (fk (16 + k))) 16
def ot_bl (fd : Nat → Int32) (nd t j : Nat) : Nat := if j < min 16 (nd - 16 * t) then ot_b (fd (16 * t + j)) else if j = min 16 (nd - 16 * t) then 1 else 0
def ot_blk (fd : Nat → Int32) (nd t : Nat) : Nat := ot_dv (ot_bl fd nd t) 17
def ot_acc (fd : Nat → Int32) (nd r : Nat) : Nat → Nat
  | 0 => 0
  | t + 1 => (ot_acc fd nd r t + ot_blk fd nd t) * r % ot_pp
def ot_mac (fk fd : Nat → Int32) (nd : Nat) : Nat := ot_acc fd nd (ot_r fk) ((nd + 15) / 16) + ot_s fk
theorem ot_acc_lt (fd : Nat → Int32) (nd r : Nat) (t : Nat) : ot_acc fd nd r t < ot_pp := by
  cases t with
  | zero => exact (by decide : 0 < ot_pp)
  | succ t => exact Nat.mod_lt _ (by decide)
theorem ot_dv_cong {g h : Nat → Nat} : ∀ {n : Nat}, (∀ k, k < n → g k = h k) → ot_dv g n = ot_dv h n
  | 0, _ => rfl
  | n + 1, H => by
    rw [ot_dv, ot_dv, ot_dv_cong (fun k hk => H k (by omega)), H n (by omega)]
theorem ot_dv17 (g : Nat → Nat) : ot_dv g 17 = g 0 + g 1 * 256 + g 2 * 65536 + g 3 * 16777216 + g 4 * 4294967296 + g 5 * 1099511627776 + g 6 * 281474976710656 + g 7 * 72057594037927936 + g 8 * 18446744073709551616 + g 9 * 4722366482869645213696 + g 10 * 1208925819614629174706176 + g 11 * 309485009821345068724781056 + g 12 * 79228162514264337593543950336 + g 13 * 20282409603651670423947251286016 + g 14 * 5192296858534827628530496329220096 + g 15 * 1329227995784915872903807060280344576 + g 16 * 340282366920938463463374607431768211456 := by
  simp only [ot_dv, Nat.reducePow]
  omega
theorem ot_dv16 (g : Nat → Nat) : ot_dv g 16 = g 0 + g 1 * 256 + g 2 * 65536 + g 3 * 16777216 + g 4 * 4294967296 + g 5 * 1099511627776 + g 6 * 281474976710656 + g 7 * 72057594037927936 + g 8 * 18446744073709551616 + g 9 * 4722366482869645213696 + g 10 * 1208925819614629174706176 + g 11 * 309485009821345068724781056 + g 12 * 79228162514264337593543950336 + g 13 * 20282409603651670423947251286016 + g 14 * 5192296858534827628530496329220096 + g 15 * 1329227995784915872903807060280344576 := by
  simp only [ot_dv, Nat.reducePow]
  omega
/-- and with a mask of two runs of bits -/
theorem ot_mask (n a b k : Nat) (ha : a < 2 ^ k) : n &&& (2 ^ k * b + a) = 2 ^ k * (n / 2 ^ k &&& b) + (n % 2 ^ k &&& a) := by
  have hlt : n % 2 ^ k &&& a < 2 ^ k := Nat.and_lt_two_pow _ ha
  apply Nat.eq_of_testBit_eq
  intro i
  rw [Nat.testBit_and, Nat.testBit_two_pow_mul_add _ ha, Nat.testBit_two_pow_mul_add _ hlt]
  split
  · rename_i h
    rw [Nat.testBit_and, Nat.testBit_mod_two_pow]
    simp [h]
  · rename_i h
    rw [Nat.testBit_and, Nat.testBit_div_two_pow]
    rw [show i - k + k = i by omega]
theorem ot_mask_r1 (n : Nat) : n &&& 67108611 = n / 256 % 262144 * 256 + n % 4 := by
  have h := ot_mask n 3 262143 8 (by decide)
  rw [show (3 : Nat) = 2 ^ 2 - 1 from rfl, Nat.and_two_pow_sub_one_eq_mod, show (262143 : Nat) = 2 ^ 18 - 1 from rfl, Nat.and_two_pow_sub_one_eq_mod] at h
  rw [show 67108611 = 2 ^ 8 * (2 ^ 18 - 1) + (2 ^ 2 - 1) from rfl, h]
  omega
theorem ot_mask_r2 (n : Nat) : n &&& 67092735 = n / 16384 % 4096 * 16384 + n % 256 := by
  have h := ot_mask n 255 4095 14 (by decide)
  rw [show (255 : Nat) = 2 ^ 8 - 1 from rfl, Nat.and_two_pow_sub_one_eq_mod, show (4095 : Nat) = 2 ^ 12 - 1 from rfl, Nat.and_two_pow_sub_one_eq_mod] at h
  rw [show 67092735 = 2 ^ 14 * (2 ^ 12 - 1) + (2 ^ 8 - 1) from rfl, h]
  omega
theorem ot_mask_r3 (n : Nat) : n &&& 66076671 = n / 1048576 % 64 * 1048576 + n % 16384 := by
  have h := ot_mask n 16383 63 20 (by decide)
  rw [show (16383 : Nat) = 2 ^ 14 - 1 from rfl, Nat.and_two_pow_sub_one_eq_mod, show (63 : Nat) = 2 ^ 6 - 1 from rfl, Nat.and_two_pow_sub_one_eq_mod] at h
  rw [show 66076671 = 2 ^ 20 * (2 ^ 6 - 1) + (2 ^ 14 - 1) from rfl, h]
  omega
theorem ot_mask_252 {n : Nat} (hn : n < 256) : n &&& 252 = n / 4 * 4 := by
  have h := ot_mask n 0 63 2 (by decide)
  rw [show (63 : Nat) = 2 ^ 6 - 1 from rfl, Nat.and_two_pow_sub_one_eq_mod] at h
  rw [show 252 = 2 ^ 2 * (2 ^ 6 - 1) + 0 from rfl, h]
  simp only [Nat.and_zero]
  omega
/-- the limbs of a block -/
theorem ot_limbs (g : Nat → Nat) (hg : ∀ k, k < 17 → g k < 256) (F : Nat → Int32) (hF : ∀ j, j < 17 → ot_b (F j) = g j) :
    ot_le32 F 0 / 2 ^ 0 % 2 ^ 26 + ot_le32 F 3 / 2 ^ 2 % 2 ^ 26 * 67108864 + ot_le32 F 6 / 2 ^ 4 % 2 ^ 26 * 4503599627370496 + ot_le32 F 9 / 2 ^ 6 % 2 ^ 26 * 302231454903657293676544 + (ot_le32 F 12 / 2 ^ 8 % 2 ^ 26 + g 16 * 16777216) * 20282409603651670423947251286016 = ot_dv g 17 := by
  rw [ot_dv17]
  unfold ot_le32
  simp only [Nat.reduceAdd, hF 0 (by omega), hF 1 (by omega), hF 2 (by omega), hF 3 (by omega), hF 4 (by omega), hF 5 (by omega), hF 6 (by omega), hF 7 (by omega), hF 8 (by omega), hF 9 (by omega), hF 10 (by omega), hF 11 (by omega), hF 12 (by omega), hF 13 (by omega), hF 14 (by omega), hF 15 (by omega), hF 16 (by omega)]
  have h0 := hg 0 (by omega)
  have h1 := hg 1 (by omega)
  have h2 := hg 2 (by omega)
  have h3 := hg 3 (by omega)
  have h4 := hg 4 (by omega)
  have h5 := hg 5 (by omega)
  have h6 := hg 6 (by omega)
  have h7 := hg 7 (by omega)
  have h8 := hg 8 (by omega)
  have h9 := hg 9 (by omega)
  have h10 := hg 10 (by omega)
  have h11 := hg 11 (by omega)
  have h12 := hg 12 (by omega)
  have h13 := hg 13 (by omega)
  have h14 := hg 14 (by omega)
  have h15 := hg 15 (by omega)
  generalize g 0 = g0 at *
  generalize g 1 = g1 at *
  generalize g 2 = g2 at *
  generalize g 3 = g3 at *
  generalize g 4 = g4 at *
  generalize g 5 = g5 at *
  generalize g 6 = g6 at *
  generalize g 7 = g7 at *
  generalize g 8 = g8 at *
  generalize g 9 = g9 at *
  generalize g 10 = g10 at *
  generalize g 11 = g11 at *
  generalize g 12 = g12 at *
  generalize g 13 = g13 at *
  generalize g 14 = g14 at *
  generalize g 15 = g15 at *
  generalize g 16 = g16 at *
  clear hg hF
  have e0 : (g0 + g1 * 2 ^ 8 + g2 * 2 ^ 16 + g3 * 2 ^ 24) / 2 ^ 0 % 2 ^ 26 = g0 + g1 * 256 + g2 * 65536 + g3 % 4 * 16777216 := by clear h4 h5 h6 h7 h8 h9 h10 h11 h12 h13 h14 h15; omega
  have e1 : (g3 + g4 * 2 ^ 8 + g5 * 2 ^ 16 + g6 * 2 ^ 24) / 2 ^ 2 % 2 ^ 26 = g3 / 4 + g4 * 64 + g5 * 16384 + g6 % 16 * 4194304 := by clear e0 h0 h1 h2 h7 h8 h9 h10 h11 h12 h13 h14 h15; omega
  have e2 : (g6 + g7 * 2 ^ 8 + g8 * 2 ^ 16 + g9 * 2 ^ 24) / 2 ^ 4 % 2 ^ 26 = g6 / 16 + g7 * 16 + g8 * 4096 + g9 % 64 * 1048576 := by clear e0 e1 h0 h1 h2 h3 h4 h5 h10 h11 h12 h13 h14 h15; omega
  have e3 : (g9 + g10 * 2 ^ 8 + g11 * 2 ^ 16 + g12 * 2 ^ 24) / 2 ^ 6 % 2 ^ 26 = g9 / 64 + g10 * 4 + g11 * 1024 + g12 * 262144 := by clear e0 e1 e2 h0 h1 h2 h3 h4 h5 h6 h7 h8 h13 h14 h15; omega
  have e4 : (g12 + g13 * 2 ^ 8 + g14 * 2 ^ 16 + g15 * 2 ^ 24) / 2 ^ 8 % 2 ^ 26 = g13 + g14 * 256 + g15 * 65536 := by clear e0 e1 e2 e3 h0 h1 h2 h3 h4 h5 h6 h7 h8 h9 h10 h11; omega
  rw [e0, e1, e2, e3, e4]
  clear e0 e1 e2 e3 e4
  omega
/-- the limbs of the clamped key -/
theorem ot_limbs_r (F : Nat → Int32) :
    ot_le32 F 0 / 2 ^ 0 % 2 ^ 26 % 2 ^ 26 + (ot_le32 F 3 / 2 ^ 2 % 2 ^ 26 &&& 67108611) * 67108864 + (ot_le32 F 6 / 2 ^ 4 % 2 ^ 26 &&& 67092735) * 4503599627370496 + (ot_le32 F 9 / 2 ^ 6 % 2 ^ 26 &&& 66076671) * 302231454903657293676544 + (ot_le32 F 12 / 2 ^ 8 % 2 ^ 26 % 2 ^ 20) * 20282409603651670423947251286016 = ot_r F := by
  unfold ot_r
  rw [ot_dv16, ot_mask_r1, ot_mask_r2, ot_mask_r3]
  have c0 : ∀ b, ot_clamp 0 b = b := fun _ => rfl
  have c1 : ∀ b, ot_clamp 1 b = b := fun _ => rfl
  have c2 : ∀ b, ot_clamp 2 b = b := fun _ => rfl
  have c3 : ∀ b, ot_clamp 3 b = b % 16 := fun _ => rfl
  have c4 : ∀ b, ot_clamp 4 b = b / 4 * 4 := fun _ => rfl
  have c5 : ∀ b, ot_clamp 5 b = b := fun _ => rfl
  have c6 : ∀ b, ot_clamp 6 b = b := fun _ => rfl
  have c7 : ∀ b, ot_clamp 7 b = b % 16 := fun _ => rfl
  have c8 : ∀ b, ot_clamp 8 b = b / 4 * 4 := fun _ => rfl
  have c9 : ∀ b, ot_clamp 9 b = b := fun _ => rfl
  have c10 : ∀ b, ot_clamp 10 b = b := fun _ => rfl
  have c11 : ∀ b, ot_clamp 11 b = b % 16 := fun _ => rfl
  have c12 : ∀ b, ot_clamp 12 b = b / 4 * 4 := fun _ => rfl
  have c13 : ∀ b, ot_clamp 13 b = b := fun _ => rfl
  have c14 : ∀ b, ot_clamp 14 b = b := fun _ => rfl
  have c15 : ∀ b, ot_clamp 15 b = b % 16 := fun _ => rfl
  simp only [c0, c1, c2, c3, c4, c5, c6, c7, c8, c9, c10, c11, c12, c13, c14, c15]
  unfold ot_le32
  have h0 := ot_b_lt (F 0)
  have h1 := ot_b_lt (F 1)
  have h2 := ot_b_lt (F 2)
  have h3 := ot_b_lt (F 3)
  have h4 := ot_b_lt (F 4)
  have h5 := ot_b_lt (F 5)
  have h6 := ot_b_lt (F 6)
  have h7 := ot_b_lt (F 7)
  have h8 := ot_b_lt (F 8)
  have h9 := ot_b_lt (F 9)
  have h10 := ot_b_lt (F 10)
  have h11 := ot_b_lt (F 11)
  have h12 := ot_b_lt (F 12)
  have h13 := ot_b_lt (F 13)
  have h14 := ot_b_lt (F 14)
  have h15 := ot_b_lt (F 15)
  simp only [Nat.reduceAdd]
  generalize ot_b (F 0) = g0 at *
  generalize ot_b (F 1) = g1 at *
  generalize ot_b (F 2) = g2 at *
  generalize ot_b (F 3) = g3 at *
  generalize ot_b (F 4) = g4 at *
  generalize ot_b (F 5) = g5 at *
  generalize ot_b (F 6) = g6 at *
  generalize ot_b (F 7) = g7 at *
  generalize ot_b (F 8) = g8 at *
  generalize ot_b (F 9) = g9 at *
  generalize ot_b (F 10) = g10 at *
  generalize ot_b (F 11) = g11 at *
  generalize ot_b (F 12) = g12 at *
  generalize ot_b (F 13) = g13 at *
  generalize ot_b (F 14) = g14 at *
  generalize ot_b (F 15) = g15 at *
  have e0 : (g0 + g1 * 2 ^ 8 + g2 * 2 ^ 16 + g3 * 2 ^ 24) / 2 ^ 0 % 2 ^ 26 = g0 + g1 * 256 + g2 * 65536 + g3 % 4 * 16777216 := by clear h4 h5 h6 h7 h8 h9 h10 h11 h12 h13 h14 h15; omega
  have e1 : (g3 + g4 * 2 ^ 8 + g5 * 2 ^ 16 + g6 * 2 ^ 24) / 2 ^ 2 % 2 ^ 26 = g3 / 4 + g4 * 64 + g5 * 16384 + g6 % 16 * 4194304 := by clear e0 h0 h1 h2 h7 h8 h9 h10 h11 h12 h13 h14 h15; omega
  have e2 : (g6 + g7 * 2 ^ 8 + g8 * 2 ^ 16 + g9 * 2 ^ 24) / 2 ^ 4 % 2 ^ 26 = g6 / 16 + g7 * 16 + g8 * 4096 + g9 % 64 * 1048576 := by clear e0 e1 h0 h1 h2 h3 h4 h5 h10 h11 h12 h13 h14 h15; omega
  have e3 : (g9 + g10 * 2 ^ 8 + g11 * 2 ^ 16 + g12 * 2 ^ 24) / 2 ^ 6 % 2 ^ 26 = g9 / 64 + g10 * 4 + g11 * 1024 + g12 * 262144 := by clear e0 e1 e2 h0 h1 h2 h3 h4 h5 h6 h7 h8 h13 h14 h15; omega
  have e4 : (g12 + g13 * 2 ^ 8 + g14 * 2 ^ 16 + g15 * 2 ^ 24) / 2 ^ 8 % 2 ^ 26 = g13 + g14 * 256 + g15 * 65536 := by clear e0 e1 e2 e3 h0 h1 h2 h3 h4 h5 h6 h7 h8 h9 h10 h11; omega
  rw [e0, e1, e2, e3, e4]
  clear e0 e1 e2 e3 e4
  have a0 : (g0 + g1 * 256 + g2 * 65536 + g3 % 4 * 16777216) % 2 ^ 26 = g0 + g1 * 256 + g2 * 65536 + g3 % 4 * 16777216 := by clear h4 h5 h6 h7 h8 h9 h10 h11 h12 h13 h14 h15; omega
  have a1 : (g3 / 4 + g4 * 64 + g5 * 16384 + g6 % 16 * 4194304) / 256 % 262144 * 256 + (g3 / 4 + g4 * 64 + g5 * 16384 + g6 % 16 * 4194304) % 4 = g3 % 16 / 4 + g4 / 4 * 256 + g5 * 16384 + g6 % 16 * 4194304 := by clear a0 h0 h1 h2 h7 h8 h9 h10 h11 h12 h13 h14 h15; omega
  have a2 : (g6 / 16 + g7 * 16 + g8 * 4096 + g9 % 64 * 1048576) / 16384 % 4096 * 16384 + (g6 / 16 + g7 * 16 + g8 * 4096 + g9 % 64 * 1048576) % 256 = g6 / 16 + g7 % 16 * 16 + g8 / 4 * 16384 + g9 % 64 * 1048576 := by clear a0 a1 h0 h1 h2 h3 h4 h5 h10 h11 h12 h13 h14 h15; omega
  have a3 : (g9 / 64 + g10 * 4 + g11 * 1024 + g12 * 262144) / 1048576 % 64 * 1048576 + (g9 / 64 + g10 * 4 + g11 * 1024 + g12 * 262144) % 16384 = g9 / 64 + g10 * 4 + g11 % 16 * 1024 + g12 / 4 * 1048576 := by clear a0 a1 a2 h0 h1 h2 h3 h4 h5 h6 h7 h8 h13 h14 h15; omega
  have a4 : (g13 + g14 * 256 + g15 * 65536) % 2 ^ 20 = g13 + g14 * 256 + g15 % 16 * 65536 := by clear a0 a1 a2 a3 h0 h1 h2 h3 h4 h5 h6 h7 h8 h9 h10 h11 h12; omega
  rw [a0, a1, a2, a3, a4]
  clear a0 a1 a2 a3 a4
  omega
/-- a product of limbs, by the limbs of the fold -/
theorem ot_mul (h0 h1 h2 h3 h4 r0 r1 r2 r3 r4 : Nat) : (h0 + h1 * 67108864 + h2 * 4503599627370496 + h3 * 302231454903657293676544 + h4 * 20282409603651670423947251286016) * (r0 + r1 * 67108864 + r2 * 4503599627370496 + r3 * 302231454903657293676544 + r4 * 20282409603651670423947251286016)
    = (h0 * r0 + h1 * (r4 * 5) + h2 * (r3 * 5) + h3 * (r2 * 5) + h4 * (r1 * 5)) + (h0 * r1 + h1 * r0 + h2 * (r4 * 5) + h3 * (r3 * 5) + h4 * (r2 * 5)) * 67108864 + (h0 * r2 + h1 * r1 + h2 * r0 + h3 * (r4 * 5) + h4 * (r3 * 5)) * 4503599627370496 + (h0 * r3 + h1 * r2 + h2 * r1 + h3 * r0 + h4 * (r4 * 5)) * 302231454903657293676544 + (h0 * r4 + h1 * r3 + h2 * r2 + h3 * r1 + h4 * r0) * 20282409603651670423947251286016
      + ot_pp * ((h1 * r4 + h2 * r3 + h3 * r2 + h4 * r1) + (h2 * r4 + h3 * r3 + h4 * r2) * 67108864 + (h3 * r4 + h4 * r3) * 4503599627370496 + h4 * r4 * 302231454903657293676544) := by
  unfold ot_pp
  grind
theorem ot_prod {a b : Nat} (ha : a < 268435456) (hb : b < 536870912) : a * b < 144115188075855872 := Nat.lt_of_lt_of_le (Nat.mul_lt_mul'' ha hb) (by decide)
theorem ot_five {h0 h1 h2 h3 h4 r0 r1 r2 r3 r4 : Nat} (a0 : h0 < 268435456) (a1 : h1 < 268435456) (a2 : h2 < 268435456) (a3 : h3 < 268435456) (a4 : h4 < 268435456) (b0 : r0 < 536870912) (b1 : r1 < 536870912) (b2 : r2 < 536870912) (b3 : r3 < 536870912) (b4 : r4 < 536870912) : h0 * r0 + h1 * r1 + h2 * r2 + h3 * r3 + h4 * r4 < 1152921504606846976 := by
  have c0 := ot_prod a0 b0
  have c1 := ot_prod a1 b1
  have c2 := ot_prod a2 b2
  have c3 := ot_prod a3 b3
  have c4 := ot_prod a4 b4
  omega
end
section
/-! plain laws of Poly1305's limbs -/
theorem ot_shrI {x D : Int64} {d : Nat} (hD : (D.toBitVec.smod 64).toNat = d) : (x >>> D).toInt = x.toInt >>> d := by
  rw [← hD]
  exact BitVec.toInt_sshiftRight ..
theorem ot_M {t : Nat} (h : t < 134217728) : (lN t - lN 67108864) >>> ((nI 63).toInt64 &&& 63) = if t < 67108864 then -1 else 0 := by
  split
  · apply Int64.toInt_inj.mp
    rw [ot_shrI (d := 63) (by decide)]
    have e1 : (lN t).toInt = (t : Int) := pf_lI (by omega)
    have e2 : (lN 67108864).toInt = ((67108864 : Nat) : Int) := pf_lI (by omega)
    rw [fb_subL (by rw [e1, e2]; omega) (by rw [e1, e2]; omega), e1, e2, Int.shiftRight_eq_div_pow]
    have e3 : (((2 : Nat) ^ 63 : Nat) : Int) = 9223372036854775808 := by decide
    have e4 : ((-1 : Int64)).toInt = -1 := by decide
    rw [e4]
    omega
  · rw [lN_sub (by omega), pf_shr (d := 63) (by decide) (by omega), Nat.div_eq_of_lt (by omega)]
    rfl
theorem ot_selI {x y : Int64} {M : Int64} (c : Prop) [Decidable c] (hM : M = if c then -1 else 0) : (x &&& M) ||| (y &&& (M ^^^ (-1))) = if c then x else y := by
  subst hM
  split
  · apply Int64.toBitVec_inj.mp
    show (x.toBitVec &&& BitVec.allOnes 64) ||| (y.toBitVec &&& (BitVec.allOnes 64 ^^^ BitVec.allOnes 64)) = x.toBitVec
    rw [BitVec.and_allOnes, BitVec.xor_self, BitVec.and_zero, BitVec.or_zero]
  · apply Int64.toBitVec_inj.mp
    show (x.toBitVec &&& 0#64) ||| (y.toBitVec &&& (0#64 ^^^ BitVec.allOnes 64)) = y.toBitVec
    rw [BitVec.and_zero, BitVec.zero_xor, BitVec.and_allOnes, BitVec.zero_or]
theorem ot_sel {t a g : Nat} {M : Int64} (hM : M = if t < 67108864 then -1 else 0) : (lN a &&& M) ||| (lN g &&& (M ^^^ (-1))) = lN (if t < 67108864 then a else g) := by
  rw [ot_selI (t < 67108864) hM]
  split <;> rfl
theorem ot_sel4 {t a : Nat} {M : Int64} (hM : M = if t < 67108864 then -1 else 0) : (lN a &&& M) ||| ((lN t - lN 67108864) &&& (M ^^^ (-1))) = lN (if t < 67108864 then a else t - 67108864) := by
  rw [ot_selI (t < 67108864) hM]
  split
  · rfl
  · exact lN_sub (by omega)
theorem ot_shrL {n : Nat} (k : Nat) (hk : k < 63) (h : n < 2 ^ 62) : lN n >>> ((nI k).toInt64 &&& 63) = lN (n / 2 ^ k) := by
  rw [wb_c k (by omega), pf_shr (d := k) (by rw [wb_tb, wb_sm k (by omega), BitVec.toNat_ofNat]; omega) (by omega)]
theorem ot_orL {a b : Nat} (k : Nat) (h : a < 2 ^ k) : lN a ||| lN (b * 2 ^ k) = lN (a + b * 2 ^ k) := by
  rw [fb_orL, ot_or_sum b h]
theorem ot_step {x0 x1 x2 x3 x4 c0 g0 y1 c1 g1 y2 c2 g2 y3 c3 g3 y4 c4 g4 z0 c5 k0 k1 : Nat} (h0 : x0 < 1152921504606846976) (h1 : x1 < 1152921504606846976) (h2 : x2 < 1152921504606846976) (h3 : x3 < 1152921504606846976) (h4 : x4 < 1152921504606846976)
    (e0 : c0 = x0 / 2 ^ 26) (f0 : g0 = x0 % 2 ^ 26) (d1 : y1 = x1 + c0) (e1 : c1 = y1 / 2 ^ 26) (f1 : g1 = y1 % 2 ^ 26) (d2 : y2 = x2 + c1) (e2 : c2 = y2 / 2 ^ 26) (f2 : g2 = y2 % 2 ^ 26) (d3 : y3 = x3 + c2) (e3 : c3 = y3 / 2 ^ 26) (f3 : g3 = y3 % 2 ^ 26) (d4 : y4 = x4 + c3) (e4 : c4 = y4 / 2 ^ 26) (f4 : g4 = y4 % 2 ^ 26) (d5 : z0 = g0 + c4 * 5) (e5 : c5 = z0 / 2 ^ 26) (f5 : k0 = z0 % 2 ^ 26) (d6 : k1 = g1 + c5) :
    (k0 + k1 * 67108864 + g2 * 4503599627370496 + g3 * 302231454903657293676544 + g4 * 20282409603651670423947251286016) % ot_pp = (x0 + x1 * 67108864 + x2 * 4503599627370496 + x3 * 302231454903657293676544 + x4 * 20282409603651670423947251286016) % ot_pp ∧ k0 < 67108864 ∧ k1 < 67117056 ∧ g2 < 67108864 ∧ g3 < 67108864 ∧ g4 < 67108864 := by
  have q0 : x0 = g0 + c0 * 67108864 ∧ g0 < 67108864 ∧ c0 < 17179869184 := by omega
  have q1 : y1 = g1 + c1 * 67108864 ∧ g1 < 67108864 ∧ c1 < 34359738368 := by omega
  have q2 : y2 = g2 + c2 * 67108864 ∧ g2 < 67108864 ∧ c2 < 34359738368 := by omega
  have q3 : y3 = g3 + c3 * 67108864 ∧ g3 < 67108864 ∧ c3 < 34359738368 := by omega
  have q4 : y4 = g4 + c4 * 67108864 ∧ g4 < 67108864 ∧ c4 < 34359738368 := by omega
  have q5 : z0 = k0 + c5 * 67108864 ∧ k0 < 67108864 ∧ c5 < 8192 := by omega
  clear e0 f0 e1 f1 e2 f2 e3 f3 e4 f4 e5 f5 h0 h1 h2 h3 h4
  refine ⟨?_, by omega, by omega, by omega, by omega, by omega⟩
  have key : x0 + x1 * 67108864 + x2 * 4503599627370496 + x3 * 302231454903657293676544 + x4 * 20282409603651670423947251286016 = (k0 + k1 * 67108864 + g2 * 4503599627370496 + g3 * 302231454903657293676544 + g4 * 20282409603651670423947251286016) + ot_pp * c4 := by
    unfold ot_pp
    omega
  rw [key, Nat.add_mul_mod_self_left]
theorem ot_fin1 {a0 a1 a2 a3 a4 c1 k1 y2 c2 k2 y3 c3 k3 y4 c4 k4 z0 c5 k0 z1 : Nat} (b0 : a0 < 67108864) (b1 : a1 < 67117056) (b2 : a2 < 67108864) (b3 : a3 < 67108864) (b4 : a4 < 67108864)
    (e1 : c1 = a1 / 2 ^ 26) (f1 : k1 = a1 % 2 ^ 26) (d2 : y2 = a2 + c1) (e2 : c2 = y2 / 2 ^ 26) (f2 : k2 = y2 % 2 ^ 26) (d3 : y3 = a3 + c2) (e3 : c3 = y3 / 2 ^ 26) (f3 : k3 = y3 % 2 ^ 26) (d4 : y4 = a4 + c3) (e4 : c4 = y4 / 2 ^ 26) (f4 : k4 = y4 % 2 ^ 26) (d5 : z0 = a0 + c4 * 5) (e5 : c5 = z0 / 2 ^ 26) (f5 : k0 = z0 % 2 ^ 26) (d6 : z1 = k1 + c5) :
    (k0 + z1 * 67108864 + k2 * 4503599627370496 + k3 * 302231454903657293676544 + k4 * 20282409603651670423947251286016) % ot_pp = (a0 + a1 * 67108864 + a2 * 4503599627370496 + a3 * 302231454903657293676544 + a4 * 20282409603651670423947251286016) % ot_pp ∧ k0 < 67108864 ∧ z1 < 67108864 ∧ k2 < 67108864 ∧ k3 < 67108864 ∧ k4 < 67108864 := by
  have q1 : a1 = k1 + c1 * 67108864 ∧ k1 < 67108864 ∧ c1 < 2 ∧ (0 < c1 → k1 < 8192) := by omega
  have q2 : y2 = k2 + c2 * 67108864 ∧ k2 < 67108864 ∧ c2 < 2 ∧ (0 < c2 → 0 < c1) := by omega
  have q3 : y3 = k3 + c3 * 67108864 ∧ k3 < 67108864 ∧ c3 < 2 ∧ (0 < c3 → 0 < c2) := by omega
  have q4 : y4 = k4 + c4 * 67108864 ∧ k4 < 67108864 ∧ c4 < 2 ∧ (0 < c4 → 0 < c3) := by omega
  have q5 : z0 = k0 + c5 * 67108864 ∧ k0 < 67108864 ∧ c5 < 2 ∧ (0 < c5 → 0 < c4) := by omega
  clear e1 f1 e2 f2 e3 f3 e4 f4 e5 f5
  refine ⟨?_, by omega, by omega, by omega, by omega, by omega⟩
  have key : a0 + a1 * 67108864 + a2 * 4503599627370496 + a3 * 302231454903657293676544 + a4 * 20282409603651670423947251286016 = (k0 + z1 * 67108864 + k2 * 4503599627370496 + k3 * 302231454903657293676544 + k4 * 20282409603651670423947251286016) + ot_pp * c4 := by
    unfold ot_pp
    omega
  rw [key, Nat.add_mul_mod_self_left]
theorem ot_fin2 {k0 z1 k2 k3 k4 w0 c0 u0 w1 c1 u1 w2 c2 u2 w3 c3 u3 t e0 e1 e2 e3 e4 : Nat} (b0 : k0 < 67108864) (b1 : z1 < 67108864) (b2 : k2 < 67108864) (b3 : k3 < 67108864) (b4 : k4 < 67108864)
    (d0 : w0 = k0 + 5) (p0 : c0 = w0 / 2 ^ 26) (q0 : u0 = w0 % 2 ^ 26) (d1 : w1 = z1 + c0) (p1 : c1 = w1 / 2 ^ 26) (q1 : u1 = w1 % 2 ^ 26) (d2 : w2 = k2 + c1) (p2 : c2 = w2 / 2 ^ 26) (q2 : u2 = w2 % 2 ^ 26) (d3 : w3 = k3 + c2) (p3 : c3 = w3 / 2 ^ 26) (q3 : u3 = w3 % 2 ^ 26) (d4 : t = k4 + c3)
    (v0 : e0 = if t < 67108864 then k0 else u0) (v1 : e1 = if t < 67108864 then z1 else u1) (v2 : e2 = if t < 67108864 then k2 else u2) (v3 : e3 = if t < 67108864 then k3 else u3) (v4 : e4 = if t < 67108864 then k4 else t - 67108864) :
    e0 + e1 * 67108864 + e2 * 4503599627370496 + e3 * 302231454903657293676544 + e4 * 20282409603651670423947251286016 = (k0 + z1 * 67108864 + k2 * 4503599627370496 + k3 * 302231454903657293676544 + k4 * 20282409603651670423947251286016) % ot_pp ∧ e0 < 67108864 ∧ e1 < 67108864 ∧ e2 < 67108864 ∧ e3 < 67108864 ∧ e4 < 67108864 := by
  have r0 : w0 = u0 + c0 * 67108864 ∧ u0 < 67108864 := by omega
  have r1 : w1 = u1 + c1 * 67108864 ∧ u1 < 67108864 := by omega
  have r2 : w2 = u2 + c2 * 67108864 ∧ u2 < 67108864 := by omega
  have r3 : w3 = u3 + c3 * 67108864 ∧ u3 < 67108864 ∧ c3 < 2 := by omega
  clear p0 q0 p1 q1 p2 q2 p3 q3
  by_cases ht : t < 67108864
  · rw [if_pos ht] at v0 v1 v2 v3 v4
    refine ⟨?_, by omega, by omega, by omega, by omega, by omega⟩
    rw [Nat.mod_eq_of_lt (by unfold ot_pp; omega)]
    omega
  · rw [if_neg ht] at v0 v1 v2 v3 v4
    refine ⟨?_, by omega, by omega, by omega, by omega, by omega⟩
    have hge : ot_pp ≤ k0 + z1 * 67108864 + k2 * 4503599627370496 + k3 * 302231454903657293676544 + k4 * 20282409603651670423947251286016 := by unfold ot_pp; omega
    rw [Nat.mod_eq_sub_mod hge, Nat.mod_eq_of_lt (by unfold ot_pp; omega)]
    unfold ot_pp
    omega
theorem ot_pack {e0 e1 e2 e3 e4 o0 o1 o2 o3 : Nat} (b0 : e0 < 67108864) (b1 : e1 < 67108864) (b2 : e2 < 67108864) (b3 : e3 < 67108864) (b4 : e4 < 67108864)
    (f0 : o0 = (e0 + e1 * 2 ^ 26) % 2 ^ 32) (f1 : o1 = (e1 / 2 ^ 6 + e2 * 2 ^ 20) % 2 ^ 32) (f2 : o2 = (e2 / 2 ^ 12 + e3 * 2 ^ 14) % 2 ^ 32) (f3 : o3 = (e3 / 2 ^ 18 + e4 * 2 ^ 8) % 2 ^ 32) :
    ∃ z, e0 + e1 * 67108864 + e2 * 4503599627370496 + e3 * 302231454903657293676544 + e4 * 20282409603651670423947251286016 = o0 + o1 * 4294967296 + o2 * 18446744073709551616 + o3 * 79228162514264337593543950336 + z * 340282366920938463463374607431768211456 := by
  refine ⟨e4 / 16777216, ?_⟩
  have g0 : o0 = e0 + e1 % 64 * 67108864 := by omega
  have g1 : o1 = e1 / 64 + e2 % 4096 * 1048576 := by omega
  have g2 : o2 = e2 / 4096 + e3 % 262144 * 16384 := by omega
  have g3 : o3 = e3 / 262144 + e4 % 16777216 * 256 := by omega
  clear f0 f1 f2 f3
  omega
theorem ot_add {E S o0 o1 o2 o3 s0 s1 s2 s3 x0 x1 x2 x3 n0 n1 n2 n3 z : Nat} (hE : E = o0 + o1 * 4294967296 + o2 * 18446744073709551616 + o3 * 79228162514264337593543950336 + z * 340282366920938463463374607431768211456) (hS : S = s0 + s1 * 4294967296 + s2 * 18446744073709551616 + s3 * 79228162514264337593543950336)
    (f0 : x0 = o0 + s0) (g0 : n0 = x0 % 2 ^ 32) (f1 : x1 = o1 + s1 + x0 / 2 ^ 32) (g1 : n1 = x1 % 2 ^ 32) (f2 : x2 = o2 + s2 + x1 / 2 ^ 32) (g2 : n2 = x2 % 2 ^ 32) (f3 : x3 = o3 + s3 + x2 / 2 ^ 32) (g3 : n3 = x3 % 2 ^ 32) :
    ∃ z, E + S = n0 + n1 * 4294967296 + n2 * 18446744073709551616 + n3 * 79228162514264337593543950336 + z * 340282366920938463463374607431768211456 := by
  refine ⟨z + x3 / 4294967296, ?_⟩
  have r0 : x0 = n0 + x0 / 4294967296 * 4294967296 := by omega
  have r1 : x1 = n1 + x1 / 4294967296 * 4294967296 := by omega
  have r2 : x2 = n2 + x2 / 4294967296 * 4294967296 := by omega
  have r3 : x3 = n3 + x3 / 4294967296 * 4294967296 := by omega
  omega
theorem ot_sle (F : Nat → Int32) : ot_s F = ot_le32 F 16 + ot_le32 F 20 * 4294967296 + ot_le32 F 24 * 18446744073709551616 + ot_le32 F 28 * 79228162514264337593543950336 := by
  unfold ot_s ot_le32
  rw [ot_dv16]
  simp only [Nat.reduceAdd]
  omega
/-- the bytes of the mac -/
theorem ot_bytes {N n0 n1 n2 n3 z : Nat} {F : Nat → Int32} (hN : N = n0 + n1 * 4294967296 + n2 * 18446744073709551616 + n3 * 79228162514264337593543950336 + z * 340282366920938463463374607431768211456) (l0 : n0 < 4294967296) (l1 : n1 < 4294967296) (l2 : n2 < 4294967296) (l3 : n3 < 4294967296)
    (q0 : F 0 = ot_sb n0 ∧ F 1 = ot_sb (n0 / 256) ∧ F 2 = ot_sb (n0 / 256 / 256) ∧ F 3 = ot_sb (n0 / 256 / 256 / 256)) (q1 : F 4 = ot_sb n1 ∧ F 5 = ot_sb (n1 / 256) ∧ F 6 = ot_sb (n1 / 256 / 256) ∧ F 7 = ot_sb (n1 / 256 / 256 / 256)) (q2 : F 8 = ot_sb n2 ∧ F 9 = ot_sb (n2 / 256) ∧ F 10 = ot_sb (n2 / 256 / 256) ∧ F 11 = ot_sb (n2 / 256 / 256 / 256)) (q3 : F 12 = ot_sb n3 ∧ F 13 = ot_sb (n3 / 256) ∧ F 14 = ot_sb (n3 / 256 / 256) ∧ F 15 = ot_sb (n3 / 256 / 256 / 256)) :
    ∀ j, j < 16 → ot_b (F j) = N / 256 ^ j % 256 := by
  intro j hj
  obtain ⟨q00, q01, q02, q03⟩ := q0
  obtain ⟨q10, q11, q12, q13⟩ := q1
  obtain ⟨q20, q21, q22, q23⟩ := q2
  obtain ⟨q30, q31, q32, q33⟩ := q3
  rcases (show j = 0 ∨ j = 1 ∨ j = 2 ∨ j = 3 ∨ j = 4 ∨ j = 5 ∨ j = 6 ∨ j = 7 ∨ j = 8 ∨ j = 9 ∨ j = 10 ∨ j = 11 ∨ j = 12 ∨ j = 13 ∨ j = 14 ∨ j = 15 by omega) with rfl | rfl | rfl | rfl | rfl | rfl | rfl | rfl | rfl | rfl | rfl | rfl | rfl | rfl | rfl | rfl
  · rw [q00, ot_b_sb, hN]; omega
  · rw [q01, ot_b_sb, hN]; omega
  · rw [q02, ot_b_sb, hN]; omega
  · rw [q03, ot_b_sb, hN]; omega
  · rw [q10, ot_b_sb, hN]; omega
  · rw [q11, ot_b_sb, hN]; omega
  · rw [q12, ot_b_sb, hN]; omega
  · rw [q13, ot_b_sb, hN]; omega
  · rw [q20, ot_b_sb, hN]; omega
  · rw [q21, ot_b_sb, hN]; omega
  · rw [q22, ot_b_sb, hN]; omega
  · rw [q23, ot_b_sb, hN]; omega
  · rw [q30, ot_b_sb, hN]; omega
  · rw [q31, ot_b_sb, hN]; omega
  · rw [q32, ot_b_sb, hN]; omega
  · rw [q33, ot_b_sb, hN]; omega

theorem ot_turn {K a0 a1 a2 a3 a4 b0 b1 b2 b3 b4 h0 h1 h2 h3 h4 r0 r1 r2 r3 r4 s1 s2 s3 s4 x0 x1 x2 x3 x4 acc blk r : Nat} (hK : K % ot_pp = (x0 + x1 * 67108864 + x2 * 4503599627370496 + x3 * 302231454903657293676544 + x4 * 20282409603651670423947251286016) % ot_pp) (e0 : h0 = a0 + b0) (e1 : h1 = a1 + b1) (e2 : h2 = a2 + b2) (e3 : h3 = a3 + b3) (e4 : h4 = a4 + b4) (es1 : s1 = r1 * 5) (es2 : s2 = r2 * 5) (es3 : s3 = r3 * 5) (es4 : s4 = r4 * 5)
    (d0 : x0 = h0 * r0 + h1 * s4 + h2 * s3 + h3 * s2 + h4 * s1) (d1 : x1 = h0 * r1 + h1 * r0 + h2 * s4 + h3 * s3 + h4 * s2) (d2 : x2 = h0 * r2 + h1 * r1 + h2 * r0 + h3 * s4 + h4 * s3) (d3 : x3 = h0 * r3 + h1 * r2 + h2 * r1 + h3 * r0 + h4 * s4) (d4 : x4 = h0 * r4 + h1 * r3 + h2 * r2 + h3 * r1 + h4 * r0)
    (hv : (a0 + a1 * 67108864 + a2 * 4503599627370496 + a3 * 302231454903657293676544 + a4 * 20282409603651670423947251286016) % ot_pp = acc) (hb : b0 + b1 * 67108864 + b2 * 4503599627370496 + b3 * 302231454903657293676544 + b4 * 20282409603651670423947251286016 = blk) (hr : r0 + r1 * 67108864 + r2 * 4503599627370496 + r3 * 302231454903657293676544 + r4 * 20282409603651670423947251286016 = r) : K % ot_pp = (acc + blk) * r % ot_pp := by
  have hH : h0 + h1 * 67108864 + h2 * 4503599627370496 + h3 * 302231454903657293676544 + h4 * 20282409603651670423947251286016 = (a0 + a1 * 67108864 + a2 * 4503599627370496 + a3 * 302231454903657293676544 + a4 * 20282409603651670423947251286016) + blk := by
    rw [← hb, e0, e1, e2, e3, e4]
    omega
  have hm := ot_mul h0 h1 h2 h3 h4 r0 r1 r2 r3 r4
  rw [← es1, ← es2, ← es3, ← es4, ← d0, ← d1, ← d2, ← d3, ← d4, hr, hH] at hm
  rw [hK, ← hv]
  rw [Nat.mul_mod, Nat.mod_add_mod, ← Nat.mul_mod, hm, Nat.add_mul_mod_self_left]
end
section
/-! Poly1305: copyBlockSize -/
section OtCopy
variable {p : Program} {l : Launch} {e : Env} {R : Room} {s : State} {m : MethodId} {args : Array Value} {below : List Frame} {meth : Method} {c : Code} {H : Heap} {locs : List Loc} {cells slots : Nat} {Q : State → Prop}
variable {pc : Nat} {ls : Array Slot} {rest : List Value} {H0 : Heap} {A : Nat → Prop} {D : va_G} {cl : List vw_C} {ws : va_W} {tys : List (ClassId × FieldType)} {a : Nat} {cc : ByteArray}
theorem ot_copyb (hexec : p.tables.exec = Jvm.exec) (hb : c.code = cc) (hml : c.maxLocals = ls.size) {own : String} {index : Nat} (hown : s.vm.findClass own = some m.cls) (hlink : (Cond.methodLink own index arraycopyName).before args s = true) (hnat : (Cond.native arraycopyName).before args s = true) (hstat : (Cond.static arraycopyName).before args s = true) (hini : (Cond.initialized "java/lang/System").before args s = true)
    (hK : va_K D cl tys s) (hP : va_P D cl ws H) (hD : va_D A ws) (hS : va_S A H0 H locs) (q0 q1 t0 t1 : Nat) {a0 : Nat} {c0 c1 : ClassId} {n0 n1 : Nat} {f g : Nat → Int32} (ha0 : ws[q0]? = some (a0, .inl (c0, n0, .inl f))) (ha1 : ws[q1]? = some (a, .inl (c1, n1, .inl g))) (ht0 : tys[t0]? = some (c0, .byte)) (ht1 : tys[t1]? = some (c1, .byte))
    {sp dp n : Nat} (h4 : sp + n ≤ n0) (h5 : dp + n ≤ n1) (l0 : n0 < 2147483648) (l1 : n1 < 2147483648) (hby : ∀ j, j < n0 → (f j).toInt8.toInt32 = f j)
    (hframes : 1 ≤ R.frames) (hlocals : (rest.map fun v => v.category).sum + (nativeFrameWords "java/lang/System" "arraycopy" 5 + 11) ≤ R.locals) (hdg : decode cc pc = .ok (.invokestatic index, 3))
    (kk : ∀ (F : Nat → Int32) (H1 : Heap) (locs1 : List Loc), F = va_cpy f g sp dp n → va_P D cl (ws.set q1 (a, .inl (c1, n1, .inl F))) H1 → va_D A (ws.set q1 (a, .inl (c1, n1, .inl F))) → va_S A H0 H1 locs1 → W p l e R s m args below meth c H1 locs1 cells slots Q (F0 m (pc + 3) ls rest)) : W p l e R s m args below meth c H locs cells slots Q (F0 m pc ls (.int (nI n) :: .int (nI dp) :: .ref a :: .int (nI sp) :: .ref a0 :: rest)) := by
  refine va_copyi hexec hb hml hown hlink hnat hstat hini hK hP hD hS q0 q1 t0 t1 ha0 ha1 ht0 ht1 rfl (nI_pos (by omega)) (nI_pos (by omega)) (nI_pos (by omega)) (by rw [nI_clamp (by omega), nI_clamp (by omega)]; exact h4) (by rw [nI_clamp (by omega), nI_clamp (by omega)]; exact h5) ?_ hframes hlocals hdg (fun H1 locs1 h1 h2 h3 => ?_)
  · intro i hi
    rw [nI_clamp (by omega)] at hi ⊢
    rw [← hby (sp + i) (by omega)]
    exact pk_fb _
  · rw [nI_clamp (by omega), nI_clamp (by omega), nI_clamp (by omega)] at h1 h2
    exact kk _ H1 locs1 rfl h1 h2 h3
end OtCopy
theorem ot_min {a b : Nat} (ha : a < 2147483648) (hb : b < 2147483648) : (if nI b < nI a then nI b else nI a) = nI (min a b) := by
  by_cases h : b < a
  · rw [if_pos (nI_lt h (by omega)), Nat.min_eq_right (by omega)]
  · rw [if_neg (nI_nlt (by omega) (by omega)), Nat.min_eq_left (by omega)]
abbrev wsX2_copyBlockSize : List Cond := ws_ yX2_copyBlockSize cX2_copyBlockSize 4 none
set_option maxHeartbeats 4000000 in
set_option maxRecDepth 100000 in
/-- copyBlockSize: a block, a 1 behind it, zeros behind that -/
theorem metX2_copyBlockSize (l : Launch) (dC : Nat → ClassId) (dI : Nat → Nat → Nat) (sz : Nat) (hb0 hd0 nd : Nat) (db dd : ClassId) (fb fd : Nat → Int32) (i : Nat) (hi : i < nd) (hnd : nd < 2147483648) (hby : ∀ j, j < nd → (fd j).toInt8.toInt32 = fd j) : Met l yX2_copyBlockSize wsX2_copyBlockSize ({ frames := 2, cells := 0, slots := 0, locals := 60 }) (va_Pc [.ref hb0, .ref hd0, .int (nI i)] (fun U => U.heap.size = sz ∧ va_P (dC, dI) vwCl [(hb0, .inl (db, 17, .inl fb)), (hd0, .inl (dd, nd, .inl fd))] U.heap ∧ va_K (dC, dI) vwCl [(db, .byte), (dd, .byte)] U ∧ va_D (fun _ => True) [(hb0, .inl (db, 17, .inl fb)), (hd0, .inl (dd, nd, .inl fd))])) (va_Qv (fun (F : Nat → Int32) => ∀ j, j < 17 → F j = if j < min 16 (nd - i) then fd (i + j) else if j = min 16 (nd - i) then nI 1 else nI 0) (fun (u : Nat → Int32) (t : State) => va_P (dC, dI) vwCl [(hb0, .inl (db, 17, .inl u)), (hd0, .inl (dd, nd, .inl fd))] t.heap ∧ va_K (dC, dI) vwCl [(db, .byte), (dd, .byte)] t ∧ va_D (va_A [(hb0, .inl (db, 17, .inl fb)), (hd0, .inl (dd, nd, .inl fd))] sz) [(hb0, .inl (db, 17, .inl u)), (hd0, .inl (dd, nd, .inl fd))]) (va_A [(hb0, .inl (db, 17, .inl fb)), (hd0, .inl (dd, nd, .inl fd))] sz)) 0 0 (va_A [(hb0, .inl (db, 17, .inl fb)), (hd0, .inl (dd, nd, .inl fd))] sz) := by
  refine Met.ofW (cc := cX2_copyBlockSize) (maxL := 4) (ret := none) (by decide) rfl ?_
  intro p e s m args below meth c s₁ B hml hv
  obtain ⟨rfl, hsz, hP, hK, hD0⟩ := hv
  have hx := B.exec
  have hb := B.bytes
  have hr := B.returns
  have hts := atoms_spec (ws := wsX2_copyBlockSize) B.pre
  have hts : ∀ w ∈ lw_all, w.before _ s = true := fun w h => hts w (List.mem_cons_of_mem _ h)
  have hown : s.vm.findClass RX2 = some m.cls := findClass_of_methodNamed B.named
  have hlocks := B.notSynchronized
  subst hsz
  have hD := hD0.self (sz := s.heap.size)
  generalize hAe : va_A [(hb0, .inl (db, 17, .inl fb)), (hd0, .inl (dd, nd, .inl fd))] s.heap.size = A at hD ⊢
  have hA : ∀ q : Nat, s.heap.size ≤ q → A q := fun q h => by rw [← hAe]; exact Or.inr h
  have hS : va_S A s.heap s.heap [] := va_S.rf
  have hP : va_P (dC, dI) vwCl [(hb0, .inl (db, 17, .inl fb)), (hd0, .inl (dd, nd, .inl fd))] s.heap := hP
  have hl := lv_entry ([.ref hb0, .ref hd0, .int (nI i)]) (n := 4) (Nat.le_of_ble_eq_true rfl)
  rw [lg_entry_eq]
  generalize (lg_sl ([.ref hb0, .ref hd0, .int (nI i)]) ++ List.replicate (4 - (lg_sl ([.ref hb0, .ref hd0, .int (nI i)])).length) Slot.unset).toArray = ls at hl ⊢
  have hl : lv_has ls 4 [(0, .ref hb0), (1, .ref hd0), (2, .int (nI i))] := hl
  refine lv_bipush (v := nI 16) hx hb dX2_copyBlockSize_0 (by decide) ?_
  refine lv_aload_n hx hb dX2_copyBlockSize_2 rfl (lv_at hl 1 rfl) ?_
  refine va_alen (v := nI nd) hx hb hK hP 1 1 rfl rfl rfl dX2_copyBlockSize_3 ?_
  refine lv_iload_n hx hb dX2_copyBlockSize_4 rfl (lv_at hl 2 rfl) ?_
  refine lv_isub hx hb dX2_copyBlockSize_5 ?_
  refine ot_topi (nI (nd - i)) (pk_sub (by omega)) ?_
  refine va_mmin hx hb (hml.trans hl.1.symm) hown (hts _ q165) (hts _ q166) (hts _ q17) (hts _ q167) (Nat.le_of_ble_eq_true rfl) (Nat.le_of_ble_eq_true rfl) (Nat.le_refl _) (Nat.le_refl _) dX2_copyBlockSize_6 ?_
  refine ot_topi (nI (min 16 (nd - i))) (ot_min (by omega) (by omega)) ?_
  have hm : min 16 (nd - i) ≤ 16 ∧ i + min 16 (nd - i) ≤ nd := by omega
  generalize min 16 (nd - i) = mm at hm ⊢
  refine lv_istore_n (lv' := [(3, .int (nI mm)), (0, .ref hb0), (1, .ref hd0), (2, .int (nI i))]) hx hb dX2_copyBlockSize_9 rfl hl (by decide) rfl (fun ls hl => ?_)
  refine lv_aload_n hx hb dX2_copyBlockSize_10 rfl (lv_at hl 2 rfl) ?_
  refine lv_iload_n hx hb dX2_copyBlockSize_11 rfl (lv_at hl 3 rfl) ?_
  refine lv_aload_n hx hb dX2_copyBlockSize_12 rfl (lv_at hl 1 rfl) ?_
  refine lv_iconst (v := nI 0) hx hb dX2_copyBlockSize_13 (by decide) ?_
  refine lv_iload_n hx hb dX2_copyBlockSize_14 rfl (lv_at hl 0 rfl) ?_
  refine ot_copyb (sp := i) (dp := 0) (n := mm) hx hb (hml.trans hl.1.symm) hown (hts _ q168) (hts _ q80) (hts _ q79) (hts _ q11) hK hP hD hS 1 0 1 0 rfl rfl rfl rfl (by omega) (by omega) (by omega) (by omega) hby (Nat.le_of_ble_eq_true rfl) (Nat.le_of_ble_eq_true rfl) dX2_copyBlockSize_15 (fun F1 H locs eF1 hP hD hS => ?_)
  have hP : va_P (dC, dI) vwCl [(hb0, .inl (db, 17, .inl F1)), (hd0, .inl (dd, nd, .inl fd))] H := hP
  have hD : va_D A [(hb0, .inl (db, 17, .inl F1)), (hd0, .inl (dd, nd, .inl fd))] := hD
  refine lv_aload_n hx hb dX2_copyBlockSize_18 rfl (lv_at hl 1 rfl) ?_
  refine lv_iload_n hx hb dX2_copyBlockSize_19 rfl (lv_at hl 0 rfl) ?_
  refine lv_iconst (v := nI 1) hx hb dX2_copyBlockSize_20 (by decide) ?_
  refine ot_bast (k := mm) (v := nI 1) hx hb hK hP hD hS 0 0 rfl rfl (by decide) (by omega) (by omega) dX2_copyBlockSize_21 (fun F2 H locs eF2 hP hD hS => ?_)
  have hP : va_P (dC, dI) vwCl [(hb0, .inl (db, 17, .inl F2)), (hd0, .inl (dd, nd, .inl fd))] H := hP
  have hD : va_D A [(hb0, .inl (db, 17, .inl F2)), (hd0, .inl (dd, nd, .inl fd))] := hD
  refine lv_iload_n hx hb dX2_copyBlockSize_22 rfl (lv_at hl 0 rfl) ?_
  refine lv_bipush (v := nI 16) hx hb dX2_copyBlockSize_23 (by decide) ?_
  refine lv_icmp_eq (tgt := 38) hx hb dX2_copyBlockSize_25 (by decide) (fun c1 => ?_) (fun c1 => ?_)
  · have hm16 : mm = 16 := (nI_eq (by omega) (by omega)).mp c1
    have hP9 := hP.sub (ws' := [(hb0, .inl (db, 17, .inl F2)), (hd0, .inl (dd, nd, .inl fd))]) [0, 1] rfl
    have hD9 := hD.sub (ws' := [(hb0, .inl (db, 17, .inl F2)), (hd0, .inl (dd, nd, .inl fd))]) [0, 1] (by decide) rfl
    have hK9 := hK.sub (tys' := [(db, .byte), (dd, .byte)]) [0, 1] rfl
    exact W.vret hx hb hr (fun t ht hW => ⟨⟨F2, rfl, fun j hj => by rw [eF2]; simp only [eF1, upd, va_cpy]; (repeat' split) <;> first | rfl | omega | (congr 1; omega), by rw [ht]; exact hP9, va_K.moved hW.alike hK9, hD9⟩, hS.F ht⟩) hS.2.2 dX2_copyBlockSize_38
  · have hm16 : ¬ mm = 16 := fun q => c1 (by rw [q])
    refine lv_aload_n hx hb dX2_copyBlockSize_28 rfl (lv_at hl 1 rfl) ?_
    refine lv_iload_n hx hb dX2_copyBlockSize_29 rfl (lv_at hl 0 rfl) ?_
    refine lv_iconst (v := nI 1) hx hb dX2_copyBlockSize_30 (by decide) ?_
    refine lv_iadd hx hb dX2_copyBlockSize_31 ?_
    refine ot_topi (nI (mm + 1)) (nI_add _ _) ?_
    refine lv_aload_n hx hb dX2_copyBlockSize_32 rfl (lv_at hl 1 rfl) ?_
    refine va_alen (v := nI 17) hx hb hK hP 0 0 rfl rfl rfl dX2_copyBlockSize_33 ?_
    refine lv_iconst (v := nI 0) hx hb dX2_copyBlockSize_34 (by decide) ?_
    have hPc := hP.sub (ws' := [(hb0, .inl (db, 17, .inl F2))]) [0] rfl
    have hDc := hD.sub (ws' := [(hb0, .inl (db, 17, .inl F2))]) [0] (by decide) rfl
    have hKc := hK.sub (tys' := [(db, .byte)]) [0] rfl
    have hFc := va_free (wc := [(hb0, .inl (db, 17, .inl F2))]) hD hS hA [0] rfl
    refine va_callv (va_runS (As := [.ref hb0, .int (nI (mm + 1)), .int (nI 17), .int (nI 0)]) (rest := []) ⟨hx, hb, hml, hown, hts⟩ (metJ5_fill l dC dI H.size hb0 17 db F2 (mm + 1) 17 (by omega) (by omega) (by omega)) (va_cwS 4 hts (lw_S q169 q170 q18 q171) rfl rfl rfl (by decide +kernel) ⟨Nat.le_of_ble_eq_true rfl, Nat.le_of_ble_eq_true rfl⟩) ⟨fun a U g mk q => by obtain ⟨q0, q1, qP, qK, qD⟩ := q; exact ⟨q0, q1, qP, va_K.moved (u := U) (U := U.calling g mk a) (Vm.Alike.refl U.vm) qK, qD⟩, fun U hU hW => ⟨rfl, by rw [hU], by rw [hU]; exact hPc, va_K.moved hW.alike hKc, hDc.weaken (fun _ _ _ _ => trivial)⟩⟩ rfl rfl hl.1 rfl (lv_room (Nat.le_of_ble_eq_true rfl)) dX2_copyBlockSize_35 ⟨Nat.le_of_ble_eq_true rfl, Nat.le_of_ble_eq_true rfl⟩) hS (fun q _ h => hFc q h) hFc (fun F3 t H1 locs ht hvm hw_ hB hz1 hk1 hS => ?_)
    obtain ⟨hP1, hK1, hD1⟩ := hB
    rw [ht] at hP1
    have hK1 := va_K.moved hvm.symm hK1
    obtain ⟨hP, hD⟩ := va_join (wr := [(hd0, .inl (dd, nd, .inl fd))]) (w1 := [(hb0, .inl (db, 17, .inl F3))]) hP hD [0] [1] rfl rfl (by decide) (by decide) hk1 hFc hP1 hD1
    generalize H1 = H at hP hS ⊢
    have hP := hP.sub (ws' := [(hb0, .inl (db, 17, .inl F3)), (hd0, .inl (dd, nd, .inl fd))]) [1, 0] rfl
    have hD := hD.sub (ws' := [(hb0, .inl (db, 17, .inl F3)), (hd0, .inl (dd, nd, .inl fd))]) [1, 0] (by decide) rfl
    have hw_ : ∀ j, F3 j = if mm + 1 ≤ j ∧ j < 17 then nI 0 else F2 j := hw_
    refine W.widen (k := 0) (n := 0) (Nat.le_refl _) (Nat.le_refl _) ?_
    have hP9 := hP.sub (ws' := [(hb0, .inl (db, 17, .inl F3)), (hd0, .inl (dd, nd, .inl fd))]) [0, 1] rfl
    have hD9 := hD.sub (ws' := [(hb0, .inl (db, 17, .inl F3)), (hd0, .inl (dd, nd, .inl fd))]) [0, 1] (by decide) rfl
    have hK9 := hK.sub (tys' := [(db, .byte), (dd, .byte)]) [0, 1] rfl
    exact W.vret hx hb hr (fun t ht hW => ⟨⟨F3, rfl, fun j hj => by rw [hw_]; simp only [eF2, eF1, upd, va_cpy]; (repeat' split) <;> first | rfl | omega | (congr 1; omega), by rw [ht]; exact hP9, va_K.moved hW.alike hK9, hD9⟩, hS.F ht⟩) hS.2.2 dX2_copyBlockSize_38
end
section
/-! Poly1305: computeMac -/
theorem ot_bl_lt (fd : Nat → Int32) (nd t j : Nat) : ot_bl fd nd t j < 256 := by
  unfold ot_bl
  have := ot_b_lt (fd (16 * t + j))
  (repeat' split) <;> omega
theorem ot_blF {fd F : Nat → Int32} {nd t : Nat} (hF : ∀ j, j < 17 → F j = if j < min 16 (nd - 16 * t) then fd (16 * t + j) else if j = min 16 (nd - 16 * t) then nI 1 else nI 0) : ∀ j, j < 17 → ot_b (F j) = ot_bl fd nd t j := by
  intro j hj
  rw [hF j hj]
  unfold ot_bl
  (repeat' split)
  · rfl
  · exact ot_b_nI (by decide)
  · exact ot_b_nI (by decide)
theorem ot_bl16 {fd F : Nat → Int32} {nd t : Nat} (hF : ∀ j, j < 17 → F j = if j < min 16 (nd - 16 * t) then fd (16 * t + j) else if j = min 16 (nd - 16 * t) then nI 1 else nI 0) : F 16 = nI (ot_bl fd nd t 16) ∧ ot_bl fd nd t 16 < 2 := by
  rw [hF 16 (by omega)]
  unfold ot_bl
  have h1 : ¬ 16 < min 16 (nd - 16 * t) := by omega
  simp only [if_neg h1]
  by_cases h2 : 16 = min 16 (nd - 16 * t)
  · simp only [if_pos h2]
    first | exact ⟨rfl, by decide⟩ | exact ⟨trivial, by decide⟩ | simp
  · simp only [if_neg h2]
    first | exact ⟨rfl, by decide⟩ | exact ⟨trivial, by decide⟩ | simp
set_option maxHeartbeats 4000000 in
set_option maxRecDepth 100000 in
/-- the loop of computeMac: a block at a time -/
theorem lpX2_mac {p : Program} {l : Launch} {e : Env} {R : Room} {s : State} {m : MethodId} {args : Array Value} {below : List Frame} {meth : Method} {c : Code} {cells slots : Nat} {Q : State → Prop} {dC : Nat → ClassId} {dI : Nat → Nat → Nat} {A : Nat → Prop} (hx : p.tables.exec = Jvm.exec) (hb : c.code = cX2_computeMac) (hown : s.vm.findClass RX2 = some m.cls) (hts : ∀ w ∈ lw_all, w.before args s = true) {hk0 hd0 qb nd : Nat} {dk dd db : ClassId} {fk fd : Nat → Int32} (hnd : nd ≤ 4096) (hby : ∀ j, j < nd → (fd j).toInt8.toInt32 = fd j) {r0 r1 r2 r3 r4 s1 s2 s3 s4 : Nat} (br0 : r0 < 67108864) (br1 : r1 < 67108864) (br2 : r2 < 67108864) (br3 : r3 < 67108864) (br4 : r4 < 67108864) (es1 : s1 = r1 * 5) (es2 : s2 = r2 * 5) (es3 : s3 = r3 * 5) (es4 : s4 = r4 * 5) (hr_ : r0 + r1 * 67108864 + r2 * 4503599627370496 + r3 * 302231454903657293676544 + r4 * 20282409603651670423947251286016 = ot_r fk) (hA : ∀ q : Nat, s.heap.size ≤ q → A q) (hml : c.maxLocals = 56) (hRf : 3 ≤ R.frames) (hRl : 90 ≤ R.locals) (hRc : cells ≤ R.cells) (hRs : slots ≤ R.slots) (hK : va_K (dC, dI) vwCl [(dk, .byte), (dd, .byte), (db, .byte)] s)
    (kk : ∀ (i : Nat) (a0 : Nat) (a1 : Nat) (a2 : Nat) (a3 : Nat) (a4 : Nat) (Fb : Nat → Int32), i = (nd + 15) / 16 → a0 < 67108864 → a1 < 67117056 → a2 < 67108864 → a3 < 67108864 → a4 < 67108864 → (a0 + a1 * 67108864 + a2 * 4503599627370496 + a3 * 302231454903657293676544 + a4 * 20282409603651670423947251286016) % ot_pp = ot_acc fd nd (ot_r fk) i → ∀ (H : Heap) (locs : List Loc), va_P (dC, dI) vwCl [(hk0, .inl (dk, 32, .inl fk)), (hd0, .inl (dd, nd, .inl fd)), (qb, .inl (db, 17, .inl Fb))] H → va_D A [(hk0, .inl (dk, 32, .inl fk)), (hd0, .inl (dd, nd, .inl fd)), (qb, .inl (db, 17, .inl Fb))] → va_S A s.heap H locs → ∀ (ls : Array Slot), lv_has ls 56 [(0, .ref hk0), (1, .ref hd0), (2, .long (lN a0)), (4, .long (lN a1)), (6, .long (lN a2)), (8, .long (lN a3)), (10, .long (lN a4)), (24, .long (lN r0)), (26, .long (lN r1)), (28, .long (lN r2)), (30, .long (lN r3)), (32, .long (lN r4)), (34, .long (lN s1)), (36, .long (lN s2)), (38, .long (lN s3)), (40, .long (lN s4)), (42, .ref qb), (43, .int (nI (16 * i)))] → W p l e R s m args below meth c H locs cells slots Q (F0 m 511 ls [])) :
    ∀ (n i : Nat) (a0 : Nat) (a1 : Nat) (a2 : Nat) (a3 : Nat) (a4 : Nat) (Fb : Nat → Int32), n + i = (nd + 15) / 16 → a0 < 67108864 → a1 < 67117056 → a2 < 67108864 → a3 < 67108864 → a4 < 67108864 → (a0 + a1 * 67108864 + a2 * 4503599627370496 + a3 * 302231454903657293676544 + a4 * 20282409603651670423947251286016) % ot_pp = ot_acc fd nd (ot_r fk) i → ∀ (H : Heap) (locs : List Loc), va_P (dC, dI) vwCl [(hk0, .inl (dk, 32, .inl fk)), (hd0, .inl (dd, nd, .inl fd)), (qb, .inl (db, 17, .inl Fb))] H → va_D A [(hk0, .inl (dk, 32, .inl fk)), (hd0, .inl (dd, nd, .inl fd)), (qb, .inl (db, 17, .inl Fb))] → va_S A s.heap H locs → ∀ (ls : Array Slot), lv_has ls 56 [(0, .ref hk0), (1, .ref hd0), (2, .long (lN a0)), (4, .long (lN a1)), (6, .long (lN a2)), (8, .long (lN a3)), (10, .long (lN a4)), (24, .long (lN r0)), (26, .long (lN r1)), (28, .long (lN r2)), (30, .long (lN r3)), (32, .long (lN r4)), (34, .long (lN s1)), (36, .long (lN s2)), (38, .long (lN s3)), (40, .long (lN s4)), (42, .ref qb), (43, .int (nI (16 * i)))] → W p l e R s m args below meth c H locs cells slots Q (F0 m 137 ls []) := by
  intro n
  induction n with
  | zero =>
    intro i a0 a1 a2 a3 a4 Fb hn_ b0_ b1_ b2_ b3_ b4_ hv_ H locs hP hD hS ls hl
    refine lv_iload hx hb dX2_computeMac_137 (lv_at hl 17 rfl) ?_
    refine lv_aload_n hx hb dX2_computeMac_139 rfl (lv_at hl 1 rfl) ?_
    refine va_alen (v := nI nd) hx hb hK hP 1 1 rfl rfl rfl dX2_computeMac_140 ?_
    refine lv_icmp_ge (tgt := 511) hx hb dX2_computeMac_141 (by decide) (fun c_ => ?_) (fun c_ => absurd c_ (not_not_intro (nI_le (by omega) (by omega))))
    exact kk i a0 a1 a2 a3 a4 Fb (by omega) b0_ b1_ b2_ b3_ b4_ hv_ H locs hP hD hS ls (lv_sub hl [0, 1, 2, 3, 4, 5, 6, 7, 8, 9, 10, 11, 12, 13, 14, 15, 16, 17] rfl)
  | succ n ih =>
    intro i a0 a1 a2 a3 a4 Fb hn_ b0_ b1_ b2_ b3_ b4_ hv_ H locs hP hD hS ls hl
    have hi_ : 16 * i < nd := by omega
    refine lv_iload hx hb dX2_computeMac_137 (lv_at hl 17 rfl) ?_
    refine lv_aload_n hx hb dX2_computeMac_139 rfl (lv_at hl 1 rfl) ?_
    refine va_alen (v := nI nd) hx hb hK hP 1 1 rfl rfl rfl dX2_computeMac_140 ?_
    refine lv_icmp_ge (tgt := 511) hx hb dX2_computeMac_141 (by decide) (fun c_ => absurd c_ (nI_ge (by omega) (by omega))) (fun c_ => ?_)
    refine lv_aload hx hb dX2_computeMac_144 (lv_at hl 16 rfl) ?_
    refine lv_aload_n hx hb dX2_computeMac_146 rfl (lv_at hl 1 rfl) ?_
    refine lv_iload hx hb dX2_computeMac_147 (lv_at hl 17 rfl) ?_
    have hPc := hP.sub (ws' := [(qb, .inl (db, 17, .inl Fb)), (hd0, .inl (dd, nd, .inl fd))]) [2, 1] rfl
    have hDc := hD.sub (ws' := [(qb, .inl (db, 17, .inl Fb)), (hd0, .inl (dd, nd, .inl fd))]) [2, 1] (by decide) rfl
    have hKc := hK.sub (tys' := [(db, .byte), (dd, .byte)]) [2, 1] rfl
    have hFc := va_free (wc := [(qb, .inl (db, 17, .inl Fb)), (hd0, .inl (dd, nd, .inl fd))]) hD hS hA [2, 1] rfl
    refine va_callv (va_runS (As := [.ref qb, .ref hd0, .int (nI (16 * i))]) (rest := []) ⟨hx, hb, hml, hown, hts⟩ (metX2_copyBlockSize l dC dI H.size qb hd0 nd db dd Fb fd (16 * i) hi_ (by omega) hby) (va_cwS 3 hts (lw_S q162 q163 q12 q164) rfl rfl rfl (by decide +kernel) ⟨by show 2 + 1 ≤ R.frames; omega, by show 8 + (4 + 11) + 60 ≤ R.locals; omega⟩) ⟨fun a U g mk q => by obtain ⟨q0, q1, qP, qK, qD⟩ := q; exact ⟨q0, q1, qP, va_K.moved (u := U) (U := U.calling g mk a) (Vm.Alike.refl U.vm) qK, qD⟩, fun U hU hW => ⟨rfl, by rw [hU], by rw [hU]; exact hPc, va_K.moved hW.alike hKc, hDc.weaken (fun _ _ _ _ => trivial)⟩⟩ rfl rfl hl.1 rfl (lv_room (Nat.le_of_ble_eq_true rfl)) dX2_computeMac_149 ⟨by omega, by omega⟩) hS (fun q _ h => hFc q h) hFc (fun F1 t H1 locs ht hvm hw_ hB hz1 hk1 hS => ?_)
    obtain ⟨hP1, hK1, hD1⟩ := hB
    rw [ht] at hP1
    have hK1 := va_K.moved hvm.symm hK1
    obtain ⟨hP, hD⟩ := va_join (wr := [(hk0, .inl (dk, 32, .inl fk))]) (w1 := [(qb, .inl (db, 17, .inl F1)), (hd0, .inl (dd, nd, .inl fd))]) hP hD [2, 1] [0] rfl rfl (by decide) (by decide) hk1 hFc hP1 hD1
    generalize H1 = H at hP hS ⊢
    have hP := hP.sub (ws' := [(hk0, .inl (dk, 32, .inl fk)), (hd0, .inl (dd, nd, .inl fd)), (qb, .inl (db, 17, .inl F1))]) [0, 2, 1] rfl
    have hD := hD.sub (ws' := [(hk0, .inl (dk, 32, .inl fk)), (hd0, .inl (dd, nd, .inl fd)), (qb, .inl (db, 17, .inl F1))]) [0, 2, 1] (by decide) rfl
    have hF1 : ∀ j, j < 17 → F1 j = if j < min 16 (nd - 16 * i) then fd (16 * i + j) else if j = min 16 (nd - 16 * i) then nI 1 else nI 0 := hw_
    refine W.widen (k := cells) (n := slots) (Nat.le_refl _) (Nat.le_refl _) ?_
    refine lv_lload_n hx hb dX2_computeMac_152 rfl (lv_at hl 2 rfl) ?_
    refine lv_aload hx hb dX2_computeMac_153 (lv_at hl 16 rfl) ?_
    refine lv_iconst (v := nI 0) hx hb dX2_computeMac_155 (by decide) ?_
    refine lv_iconst (v := nI 0) hx hb dX2_computeMac_156 (by decide) ?_
    have hPc := hP.sub (ws' := [(qb, .inl (db, 17, .inl F1))]) [2] rfl
    have hDc := hD.sub (ws' := [(qb, .inl (db, 17, .inl F1))]) [2] (by decide) rfl
    have hKc := hK.sub (tys' := [(db, .byte)]) [2] rfl
    have hFc := va_free (wc := [(qb, .inl (db, 17, .inl F1))]) hD hS hA [2] rfl
    refine va_calll (va_runS (As := [.ref qb, .int (nI 0), .int (nI 0)]) (rest := [.long (lN a0)]) ⟨hx, hb, hml, hown, hts⟩ (metX2_load26 l dC dI H.size qb 17 db F1 0 0 (by omega) (by omega) (by omega)) (va_cwS 3 hts (lw_S q149 q150 q12 q151) rfl rfl rfl (by decide +kernel) ⟨by show 1 + 1 ≤ R.frames; omega, by show 8 + (3 + 11) + 21 ≤ R.locals; omega⟩) ⟨fun a U g mk q => by obtain ⟨q0, q1, qP, qK, qD⟩ := q; exact ⟨q0, q1, qP, va_K.moved (u := U) (U := U.calling g mk a) (Vm.Alike.refl U.vm) qK, qD⟩, fun U hU hW => ⟨rfl, by rw [hU], by rw [hU]; exact hPc, va_K.moved hW.alike hKc, hDc.weaken (fun _ _ _ _ => trivial)⟩⟩ rfl rfl hl.1 rfl (lv_room (Nat.le_of_ble_eq_true rfl)) dX2_computeMac_157 ⟨by omega, by omega⟩) hS (fun q _ h => hFc q h) hFc (fun r_ u_ t H1 locs ht hvm hw_ hB hz1 hk1 hS => ?_)
    obtain ⟨hP1, -, -⟩ := hB
    rw [ht] at hP1
    have hP := ot_back hP hD [2] rfl hk1 hP1
    generalize H1 = H at hP hS ⊢
    obtain ⟨b0, eb0⟩ : ∃ y : Nat, y = ot_le32 F1 0 / 2 ^ 0 % 2 ^ 26 := ⟨_, rfl⟩
    have e_ : r_ = lN b0 := by rw [eb0]; exact hw_
    subst e_
    refine W.widen (k := cells) (n := slots) (Nat.le_refl _) (Nat.le_refl _) ?_
    have lb0 : b0 < 67108864 := by rw [eb0]; have := ot_le32_lt F1 0; omega
    refine lv_ladd hx hb dX2_computeMac_160 ?_
    refine ot_topl (lN (a0 + b0)) (lN_add _ _) ?_
    refine ot_namel (fun h0 eh0 => ?_)
    refine lv_lstore_n (lv' := [(2, .long (lN h0)), (0, .ref hk0), (1, .ref hd0), (4, .long (lN a1)), (6, .long (lN a2)), (8, .long (lN a3)), (10, .long (lN a4)), (24, .long (lN r0)), (26, .long (lN r1)), (28, .long (lN r2)), (30, .long (lN r3)), (32, .long (lN r4)), (34, .long (lN s1)), (36, .long (lN s2)), (38, .long (lN s3)), (40, .long (lN s4)), (42, .ref qb), (43, .int (nI (16 * i)))]) hx hb dX2_computeMac_161 rfl hl (by decide) rfl (fun ls hl => ?_)
    refine lv_lload hx hb dX2_computeMac_162 (lv_at hl 3 rfl) ?_
    refine lv_aload hx hb dX2_computeMac_164 (lv_at hl 16 rfl) ?_
    refine lv_iconst (v := nI 3) hx hb dX2_computeMac_166 (by decide) ?_
    refine lv_iconst (v := nI 2) hx hb dX2_computeMac_167 (by decide) ?_
    have hPc := hP.sub (ws' := [(qb, .inl (db, 17, .inl F1))]) [2] rfl
    have hDc := hD.sub (ws' := [(qb, .inl (db, 17, .inl F1))]) [2] (by decide) rfl
    have hKc := hK.sub (tys' := [(db, .byte)]) [2] rfl
    have hFc := va_free (wc := [(qb, .inl (db, 17, .inl F1))]) hD hS hA [2] rfl
    refine va_calll (va_runS (As := [.ref qb, .int (nI 3), .int (nI 2)]) (rest := [.long (lN a1)]) ⟨hx, hb, hml, hown, hts⟩ (metX2_load26 l dC dI H.size qb 17 db F1 3 2 (by omega) (by omega) (by omega)) (va_cwS 3 hts (lw_S q149 q150 q12 q151) rfl rfl rfl (by decide +kernel) ⟨by show 1 + 1 ≤ R.frames; omega, by show 8 + (3 + 11) + 21 ≤ R.locals; omega⟩) ⟨fun a U g mk q => by obtain ⟨q0, q1, qP, qK, qD⟩ := q; exact ⟨q0, q1, qP, va_K.moved (u := U) (U := U.calling g mk a) (Vm.Alike.refl U.vm) qK, qD⟩, fun U hU hW => ⟨rfl, by rw [hU], by rw [hU]; exact hPc, va_K.moved hW.alike hKc, hDc.weaken (fun _ _ _ _ => trivial)⟩⟩ rfl rfl hl.1 rfl (lv_room (Nat.le_of_ble_eq_true rfl)) dX2_computeMac_168 ⟨by omega, by omega⟩) hS (fun q _ h => hFc q h) hFc (fun r_ u_ t H1 locs ht hvm hw_ hB hz1 hk1 hS => ?_)
    obtain ⟨hP1, -, -⟩ := hB
    rw [ht] at hP1
    have hP := ot_back hP hD [2] rfl hk1 hP1
    generalize H1 = H at hP hS ⊢
    obtain ⟨b1, eb1⟩ : ∃ y : Nat, y = ot_le32 F1 3 / 2 ^ 2 % 2 ^ 26 := ⟨_, rfl⟩
    have e_ : r_ = lN b1 := by rw [eb1]; exact hw_
    subst e_
    refine W.widen (k := cells) (n := slots) (Nat.le_refl _) (Nat.le_refl _) ?_
    have lb1 : b1 < 67108864 := by rw [eb1]; have := ot_le32_lt F1 3; omega
    refine lv_ladd hx hb dX2_computeMac_171 ?_
    refine ot_topl (lN (a1 + b1)) (lN_add _ _) ?_
    refine ot_namel (fun h1 eh1 => ?_)
    refine lv_lstore (lv' := [(4, .long (lN h1)), (2, .long (lN h0)), (0, .ref hk0), (1, .ref hd0), (6, .long (lN a2)), (8, .long (lN a3)), (10, .long (lN a4)), (24, .long (lN r0)), (26, .long (lN r1)), (28, .long (lN r2)), (30, .long (lN r3)), (32, .long (lN r4)), (34, .long (lN s1)), (36, .long (lN s2)), (38, .long (lN s3)), (40, .long (lN s4)), (42, .ref qb), (43, .int (nI (16 * i)))]) hx hb dX2_computeMac_172 hl (by decide) rfl (fun ls hl => ?_)
    refine lv_lload hx hb dX2_computeMac_174 (lv_at hl 4 rfl) ?_
    refine lv_aload hx hb dX2_computeMac_176 (lv_at hl 16 rfl) ?_
    refine lv_bipush (v := nI 6) hx hb dX2_computeMac_178 (by decide) ?_
    refine lv_iconst (v := nI 4) hx hb dX2_computeMac_180 (by decide) ?_
    have hPc := hP.sub (ws' := [(qb, .inl (db, 17, .inl F1))]) [2] rfl
    have hDc := hD.sub (ws' := [(qb, .inl (db, 17, .inl F1))]) [2] (by decide) rfl
    have hKc := hK.sub (tys' := [(db, .byte)]) [2] rfl
    have hFc := va_free (wc := [(qb, .inl (db, 17, .inl F1))]) hD hS hA [2] rfl
    refine va_calll (va_runS (As := [.ref qb, .int (nI 6), .int (nI 4)]) (rest := [.long (lN a2)]) ⟨hx, hb, hml, hown, hts⟩ (metX2_load26 l dC dI H.size qb 17 db F1 6 4 (by omega) (by omega) (by omega)) (va_cwS 3 hts (lw_S q149 q150 q12 q151) rfl rfl rfl (by decide +kernel) ⟨by show 1 + 1 ≤ R.frames; omega, by show 8 + (3 + 11) + 21 ≤ R.locals; omega⟩) ⟨fun a U g mk q => by obtain ⟨q0, q1, qP, qK, qD⟩ := q; exact ⟨q0, q1, qP, va_K.moved (u := U) (U := U.calling g mk a) (Vm.Alike.refl U.vm) qK, qD⟩, fun U hU hW => ⟨rfl, by rw [hU], by rw [hU]; exact hPc, va_K.moved hW.alike hKc, hDc.weaken (fun _ _ _ _ => trivial)⟩⟩ rfl rfl hl.1 rfl (lv_room (Nat.le_of_ble_eq_true rfl)) dX2_computeMac_181 ⟨by omega, by omega⟩) hS (fun q _ h => hFc q h) hFc (fun r_ u_ t H1 locs ht hvm hw_ hB hz1 hk1 hS => ?_)
    obtain ⟨hP1, -, -⟩ := hB
    rw [ht] at hP1
    have hP := ot_back hP hD [2] rfl hk1 hP1
    generalize H1 = H at hP hS ⊢
    obtain ⟨b2, eb2⟩ : ∃ y : Nat, y = ot_le32 F1 6 / 2 ^ 4 % 2 ^ 26 := ⟨_, rfl⟩
    have e_ : r_ = lN b2 := by rw [eb2]; exact hw_
    subst e_
    refine W.widen (k := cells) (n := slots) (Nat.le_refl _) (Nat.le_refl _) ?_
    have lb2 : b2 < 67108864 := by rw [eb2]; have := ot_le32_lt F1 6; omega
    refine lv_ladd hx hb dX2_computeMac_184 ?_
    refine ot_topl (lN (a2 + b2)) (lN_add _ _) ?_
    refine ot_namel (fun h2 eh2 => ?_)
    refine lv_lstore (lv' := [(6, .long (lN h2)), (4, .long (lN h1)), (2, .long (lN h0)), (0, .ref hk0), (1, .ref hd0), (8, .long (lN a3)), (10, .long (lN a4)), (24, .long (lN r0)), (26, .long (lN r1)), (28, .long (lN r2)), (30, .long (lN r3)), (32, .long (lN r4)), (34, .long (lN s1)), (36, .long (lN s2)), (38, .long (lN s3)), (40, .long (lN s4)), (42, .ref qb), (43, .int (nI (16 * i)))]) hx hb dX2_computeMac_185 hl (by decide) rfl (fun ls hl => ?_)
    refine lv_lload hx hb dX2_computeMac_187 (lv_at hl 5 rfl) ?_
    refine lv_aload hx hb dX2_computeMac_189 (lv_at hl 16 rfl) ?_
    refine lv_bipush (v := nI 9) hx hb dX2_computeMac_191 (by decide) ?_
    refine lv_bipush (v := nI 6) hx hb dX2_computeMac_193 (by decide) ?_
    have hPc := hP.sub (ws' := [(qb, .inl (db, 17, .inl F1))]) [2] rfl
    have hDc := hD.sub (ws' := [(qb, .inl (db, 17, .inl F1))]) [2] (by decide) rfl
    have hKc := hK.sub (tys' := [(db, .byte)]) [2] rfl
    have hFc := va_free (wc := [(qb, .inl (db, 17, .inl F1))]) hD hS hA [2] rfl
    refine va_calll (va_runS (As := [.ref qb, .int (nI 9), .int (nI 6)]) (rest := [.long (lN a3)]) ⟨hx, hb, hml, hown, hts⟩ (metX2_load26 l dC dI H.size qb 17 db F1 9 6 (by omega) (by omega) (by omega)) (va_cwS 3 hts (lw_S q149 q150 q12 q151) rfl rfl rfl (by decide +kernel) ⟨by show 1 + 1 ≤ R.frames; omega, by show 8 + (3 + 11) + 21 ≤ R.locals; omega⟩) ⟨fun a U g mk q => by obtain ⟨q0, q1, qP, qK, qD⟩ := q; exact ⟨q0, q1, qP, va_K.moved (u := U) (U := U.calling g mk a) (Vm.Alike.refl U.vm) qK, qD⟩, fun U hU hW => ⟨rfl, by rw [hU], by rw [hU]; exact hPc, va_K.moved hW.alike hKc, hDc.weaken (fun _ _ _ _ => trivial)⟩⟩ rfl rfl hl.1 rfl (lv_room (Nat.le_of_ble_eq_true rfl)) dX2_computeMac_195 ⟨by omega, by omega⟩) hS (fun q _ h => hFc q h) hFc (fun r_ u_ t H1 locs ht hvm hw_ hB hz1 hk1 hS => ?_)
    obtain ⟨hP1, -, -⟩ := hB
    rw [ht] at hP1
    have hP := ot_back hP hD [2] rfl hk1 hP1
    generalize H1 = H at hP hS ⊢
    obtain ⟨b3, eb3⟩ : ∃ y : Nat, y = ot_le32 F1 9 / 2 ^ 6 % 2 ^ 26 := ⟨_, rfl⟩
    have e_ : r_ = lN b3 := by rw [eb3]; exact hw_
    subst e_
    refine W.widen (k := cells) (n := slots) (Nat.le_refl _) (Nat.le_refl _) ?_
    have lb3 : b3 < 67108864 := by rw [eb3]; have := ot_le32_lt F1 9; omega
    refine lv_ladd hx hb dX2_computeMac_198 ?_
    refine ot_topl (lN (a3 + b3)) (lN_add _ _) ?_
    refine ot_namel (fun h3 eh3 => ?_)
    refine lv_lstore (lv' := [(8, .long (lN h3)), (6, .long (lN h2)), (4, .long (lN h1)), (2, .long (lN h0)), (0, .ref hk0), (1, .ref hd0), (10, .long (lN a4)), (24, .long (lN r0)), (26, .long (lN r1)), (28, .long (lN r2)), (30, .long (lN r3)), (32, .long (lN r4)), (34, .long (lN s1)), (36, .long (lN s2)), (38, .long (lN s3)), (40, .long (lN s4)), (42, .ref qb), (43, .int (nI (16 * i)))]) hx hb dX2_computeMac_199 hl (by decide) rfl (fun ls hl => ?_)
    refine lv_lload hx hb dX2_computeMac_201 (lv_at hl 6 rfl) ?_
    refine lv_aload hx hb dX2_computeMac_203 (lv_at hl 16 rfl) ?_
    refine lv_bipush (v := nI 12) hx hb dX2_computeMac_205 (by decide) ?_
    refine lv_bipush (v := nI 8) hx hb dX2_computeMac_207 (by decide) ?_
    have hPc := hP.sub (ws' := [(qb, .inl (db, 17, .inl F1))]) [2] rfl
    have hDc := hD.sub (ws' := [(qb, .inl (db, 17, .inl F1))]) [2] (by decide) rfl
    have hKc := hK.sub (tys' := [(db, .byte)]) [2] rfl
    have hFc := va_free (wc := [(qb, .inl (db, 17, .inl F1))]) hD hS hA [2] rfl
    refine va_calll (va_runS (As := [.ref qb, .int (nI 12), .int (nI 8)]) (rest := [.long (lN a4)]) ⟨hx, hb, hml, hown, hts⟩ (metX2_load26 l dC dI H.size qb 17 db F1 12 8 (by omega) (by omega) (by omega)) (va_cwS 3 hts (lw_S q149 q150 q12 q151) rfl rfl rfl (by decide +kernel) ⟨by show 1 + 1 ≤ R.frames; omega, by show 8 + (3 + 11) + 21 ≤ R.locals; omega⟩) ⟨fun a U g mk q => by obtain ⟨q0, q1, qP, qK, qD⟩ := q; exact ⟨q0, q1, qP, va_K.moved (u := U) (U := U.calling g mk a) (Vm.Alike.refl U.vm) qK, qD⟩, fun U hU hW => ⟨rfl, by rw [hU], by rw [hU]; exact hPc, va_K.moved hW.alike hKc, hDc.weaken (fun _ _ _ _ => trivial)⟩⟩ rfl rfl hl.1 rfl (lv_room (Nat.le_of_ble_eq_true rfl)) dX2_computeMac_209 ⟨by omega, by omega⟩) hS (fun q _ h => hFc q h) hFc (fun r_ u_ t H1 locs ht hvm hw_ hB hz1 hk1 hS => ?_)
    obtain ⟨hP1, -, -⟩ := hB
    rw [ht] at hP1
    have hP := ot_back hP hD [2] rfl hk1 hP1
    generalize H1 = H at hP hS ⊢
    obtain ⟨b4, eb4⟩ : ∃ y : Nat, y = ot_le32 F1 12 / 2 ^ 8 % 2 ^ 26 := ⟨_, rfl⟩
    have e_ : r_ = lN b4 := by rw [eb4]; exact hw_
    subst e_
    refine W.widen (k := cells) (n := slots) (Nat.le_refl _) (Nat.le_refl _) ?_
    have lb4 : b4 < 16777216 := by rw [eb4]; have := ot_le32_lt F1 12; omega
    obtain ⟨hg16, lg16⟩ := ot_bl16 hF1
    have hbk := ot_limbs (ot_bl fd nd i) (fun k _ => ot_bl_lt fd nd i k) F1 (ot_blF hF1)
    rw [← eb0, ← eb1, ← eb2, ← eb3, ← eb4] at hbk
    generalize hg_ : ot_bl fd nd i 16 = g at hg16 lg16 hbk
    refine lv_aload hx hb dX2_computeMac_212 (lv_at hl 16 rfl) ?_
    refine lv_bipush (v := nI 16) hx hb dX2_computeMac_214 (by decide) ?_
    refine ot_bald (k := 16) hx hb hK hP 2 2 rfl rfl (by omega) (by omega) dX2_computeMac_216 ?_
    refine ot_topi (nI g) (hg16) ?_
    refine lv_bipush (v := nI 24) hx hb dX2_computeMac_217 (by decide) ?_
    refine lv_ishl hx hb dX2_computeMac_219 ?_
    refine ot_topi (nI (g * 2 ^ 24)) (pk_shlN (nI 24 &&& 31) 24 (by decide) (by omega)) ?_
    refine lv_i2l hx hb dX2_computeMac_220 rfl ?_
    refine ot_topl (lN (g * 2 ^ 24)) (nI_l (by omega)) ?_
    refine lv_lor hx hb dX2_computeMac_221 ?_
    refine ot_topl (lN (b4 + g * 2 ^ 24)) (ot_orL 24 (by omega)) ?_
    refine ot_topl (lN (b4 + g * 2 ^ 24)) rfl ?_
    refine lv_ladd hx hb dX2_computeMac_222 ?_
    refine ot_topl (lN (a4 + (b4 + g * 2 ^ 24))) (lN_add _ _) ?_
    refine ot_namel (fun h4 eh4 => ?_)
    refine lv_lstore (lv' := [(10, .long (lN h4)), (8, .long (lN h3)), (6, .long (lN h2)), (4, .long (lN h1)), (2, .long (lN h0)), (0, .ref hk0), (1, .ref hd0), (24, .long (lN r0)), (26, .long (lN r1)), (28, .long (lN r2)), (30, .long (lN r3)), (32, .long (lN r4)), (34, .long (lN s1)), (36, .long (lN s2)), (38, .long (lN s3)), (40, .long (lN s4)), (42, .ref qb), (43, .int (nI (16 * i)))]) hx hb dX2_computeMac_223 hl (by decide) rfl (fun ls hl => ?_)
    have lh0 : h0 < 268435456 := by omega
    have lh1 : h1 < 268435456 := by omega
    have lh2 : h2 < 268435456 := by omega
    have lh3 : h3 < 268435456 := by omega
    have lh4 : h4 < 268435456 := by omega
    have ls1 : s1 < 536870912 := by omega
    have ls2 : s2 < 536870912 := by omega
    have ls3 : s3 < 536870912 := by omega
    have ls4 : s4 < 536870912 := by omega
    have lr0 : r0 < 536870912 := by omega
    have lr1 : r1 < 536870912 := by omega
    have lr2 : r2 < 536870912 := by omega
    have lr3 : r3 < 536870912 := by omega
    have lr4 : r4 < 536870912 := by omega
    refine lv_lload_n hx hb dX2_computeMac_225 rfl (lv_at hl 4 rfl) ?_
    refine lv_lload hx hb dX2_computeMac_226 (lv_at hl 7 rfl) ?_
    refine lv_lmul hx hb dX2_computeMac_228 ?_
    refine ot_topl (lN (h0 * r0)) (lN_mul _ _) ?_
    refine lv_lload hx hb dX2_computeMac_229 (lv_at hl 3 rfl) ?_
    refine lv_lload hx hb dX2_computeMac_231 (lv_at hl 15 rfl) ?_
    refine lv_lmul hx hb dX2_computeMac_233 ?_
    refine ot_topl (lN (h1 * s4)) (lN_mul _ _) ?_
    refine lv_ladd hx hb dX2_computeMac_234 ?_
    refine ot_topl (lN ((h0 * r0) + (h1 * s4))) (lN_add _ _) ?_
    refine lv_lload hx hb dX2_computeMac_235 (lv_at hl 2 rfl) ?_
    refine lv_lload hx hb dX2_computeMac_237 (lv_at hl 14 rfl) ?_
    refine lv_lmul hx hb dX2_computeMac_239 ?_
    refine ot_topl (lN (h2 * s3)) (lN_mul _ _) ?_
    refine lv_ladd hx hb dX2_computeMac_240 ?_
    refine ot_topl (lN (((h0 * r0) + (h1 * s4)) + (h2 * s3))) (lN_add _ _) ?_
    refine lv_lload hx hb dX2_computeMac_241 (lv_at hl 1 rfl) ?_
    refine lv_lload hx hb dX2_computeMac_243 (lv_at hl 13 rfl) ?_
    refine lv_lmul hx hb dX2_computeMac_245 ?_
    refine ot_topl (lN (h3 * s2)) (lN_mul _ _) ?_
    refine lv_ladd hx hb dX2_computeMac_246 ?_
    refine ot_topl (lN ((((h0 * r0) + (h1 * s4)) + (h2 * s3)) + (h3 * s2))) (lN_add _ _) ?_
    refine lv_lload hx hb dX2_computeMac_247 (lv_at hl 0 rfl) ?_
    refine lv_lload hx hb dX2_computeMac_249 (lv_at hl 12 rfl) ?_
    refine lv_lmul hx hb dX2_computeMac_251 ?_
    refine ot_topl (lN (h4 * s1)) (lN_mul _ _) ?_
    refine lv_ladd hx hb dX2_computeMac_252 ?_
    refine ot_topl (lN (((((h0 * r0) + (h1 * s4)) + (h2 * s3)) + (h3 * s2)) + (h4 * s1))) (lN_add _ _) ?_
    refine ot_namel (fun x0 ex0 => ?_)
    refine lv_lstore (lv' := [(12, .long (lN x0)), (10, .long (lN h4)), (8, .long (lN h3)), (6, .long (lN h2)), (4, .long (lN h1)), (2, .long (lN h0)), (0, .ref hk0), (1, .ref hd0), (24, .long (lN r0)), (26, .long (lN r1)), (28, .long (lN r2)), (30, .long (lN r3)), (32, .long (lN r4)), (34, .long (lN s1)), (36, .long (lN s2)), (38, .long (lN s3)), (40, .long (lN s4)), (42, .ref qb), (43, .int (nI (16 * i)))]) hx hb dX2_computeMac_253 hl (by decide) rfl (fun ls hl => ?_)
    have lx0 : x0 < 1152921504606846976 := by rw [ex0]; exact ot_five lh0 lh1 lh2 lh3 lh4 lr0 ls4 ls3 ls2 ls1
    refine lv_lload_n hx hb dX2_computeMac_255 rfl (lv_at hl 5 rfl) ?_
    refine lv_lload hx hb dX2_computeMac_256 (lv_at hl 9 rfl) ?_
    refine lv_lmul hx hb dX2_computeMac_258 ?_
    refine ot_topl (lN (h0 * r1)) (lN_mul _ _) ?_
    refine lv_lload hx hb dX2_computeMac_259 (lv_at hl 4 rfl) ?_
    refine lv_lload hx hb dX2_computeMac_261 (lv_at hl 8 rfl) ?_
    refine lv_lmul hx hb dX2_computeMac_263 ?_
    refine ot_topl (lN (h1 * r0)) (lN_mul _ _) ?_
    refine lv_ladd hx hb dX2_computeMac_264 ?_
    refine ot_topl (lN ((h0 * r1) + (h1 * r0))) (lN_add _ _) ?_
    refine lv_lload hx hb dX2_computeMac_265 (lv_at hl 3 rfl) ?_
    refine lv_lload hx hb dX2_computeMac_267 (lv_at hl 16 rfl) ?_
    refine lv_lmul hx hb dX2_computeMac_269 ?_
    refine ot_topl (lN (h2 * s4)) (lN_mul _ _) ?_
    refine lv_ladd hx hb dX2_computeMac_270 ?_
    refine ot_topl (lN (((h0 * r1) + (h1 * r0)) + (h2 * s4))) (lN_add _ _) ?_
    refine lv_lload hx hb dX2_computeMac_271 (lv_at hl 2 rfl) ?_
    refine lv_lload hx hb dX2_computeMac_273 (lv_at hl 15 rfl) ?_
    refine lv_lmul hx hb dX2_computeMac_275 ?_
    refine ot_topl (lN (h3 * s3)) (lN_mul _ _) ?_
    refine lv_ladd hx hb dX2_computeMac_276 ?_
    refine ot_topl (lN ((((h0 * r1) + (h1 * r0)) + (h2 * s4)) + (h3 * s3))) (lN_add _ _) ?_
    refine lv_lload hx hb dX2_computeMac_277 (lv_at hl 1 rfl) ?_
    refine lv_lload hx hb dX2_computeMac_279 (lv_at hl 14 rfl) ?_
    refine lv_lmul hx hb dX2_computeMac_281 ?_
    refine ot_topl (lN (h4 * s2)) (lN_mul _ _) ?_
    refine lv_ladd hx hb dX2_computeMac_282 ?_
    refine ot_topl (lN (((((h0 * r1) + (h1 * r0)) + (h2 * s4)) + (h3 * s3)) + (h4 * s2))) (lN_add _ _) ?_
    refine ot_namel (fun x1 ex1 => ?_)
    refine lv_lstore (lv' := [(14, .long (lN x1)), (12, .long (lN x0)), (10, .long (lN h4)), (8, .long (lN h3)), (6, .long (lN h2)), (4, .long (lN h1)), (2, .long (lN h0)), (0, .ref hk0), (1, .ref hd0), (24, .long (lN r0)), (26, .long (lN r1)), (28, .long (lN r2)), (30, .long (lN r3)), (32, .long (lN r4)), (34, .long (lN s1)), (36, .long (lN s2)), (38, .long (lN s3)), (40, .long (lN s4)), (42, .ref qb), (43, .int (nI (16 * i)))]) hx hb dX2_computeMac_283 hl (by decide) rfl (fun ls hl => ?_)
    have lx1 : x1 < 1152921504606846976 := by rw [ex1]; exact ot_five lh0 lh1 lh2 lh3 lh4 lr1 lr0 ls4 ls3 ls2
    refine lv_lload_n hx hb dX2_computeMac_285 rfl (lv_at hl 6 rfl) ?_
    refine lv_lload hx hb dX2_computeMac_286 (lv_at hl 11 rfl) ?_
    refine lv_lmul hx hb dX2_computeMac_288 ?_
    refine ot_topl (lN (h0 * r2)) (lN_mul _ _) ?_
    refine lv_lload hx hb dX2_computeMac_289 (lv_at hl 5 rfl) ?_
    refine lv_lload hx hb dX2_computeMac_291 (lv_at hl 10 rfl) ?_
    refine lv_lmul hx hb dX2_computeMac_293 ?_
    refine ot_topl (lN (h1 * r1)) (lN_mul _ _) ?_
    refine lv_ladd hx hb dX2_computeMac_294 ?_
    refine ot_topl (lN ((h0 * r2) + (h1 * r1))) (lN_add _ _) ?_
    refine lv_lload hx hb dX2_computeMac_295 (lv_at hl 4 rfl) ?_
    refine lv_lload hx hb dX2_computeMac_297 (lv_at hl 9 rfl) ?_
    refine lv_lmul hx hb dX2_computeMac_299 ?_
    refine ot_topl (lN (h2 * r0)) (lN_mul _ _) ?_
    refine lv_ladd hx hb dX2_computeMac_300 ?_
    refine ot_topl (lN (((h0 * r2) + (h1 * r1)) + (h2 * r0))) (lN_add _ _) ?_
    refine lv_lload hx hb dX2_computeMac_301 (lv_at hl 3 rfl) ?_
    refine lv_lload hx hb dX2_computeMac_303 (lv_at hl 17 rfl) ?_
    refine lv_lmul hx hb dX2_computeMac_305 ?_
    refine ot_topl (lN (h3 * s4)) (lN_mul _ _) ?_
    refine lv_ladd hx hb dX2_computeMac_306 ?_
    refine ot_topl (lN ((((h0 * r2) + (h1 * r1)) + (h2 * r0)) + (h3 * s4))) (lN_add _ _) ?_
    refine lv_lload hx hb dX2_computeMac_307 (lv_at hl 2 rfl) ?_
    refine lv_lload hx hb dX2_computeMac_309 (lv_at hl 16 rfl) ?_
    refine lv_lmul hx hb dX2_computeMac_311 ?_
    refine ot_topl (lN (h4 * s3)) (lN_mul _ _) ?_
    refine lv_ladd hx hb dX2_computeMac_312 ?_
    refine ot_topl (lN (((((h0 * r2) + (h1 * r1)) + (h2 * r0)) + (h3 * s4)) + (h4 * s3))) (lN_add _ _) ?_
    refine ot_namel (fun x2 ex2 => ?_)
    refine lv_lstore (lv' := [(16, .long (lN x2)), (14, .long (lN x1)), (12, .long (lN x0)), (10, .long (lN h4)), (8, .long (lN h3)), (6, .long (lN h2)), (4, .long (lN h1)), (2, .long (lN h0)), (0, .ref hk0), (1, .ref hd0), (24, .long (lN r0)), (26, .long (lN r1)), (28, .long (lN r2)), (30, .long (lN r3)), (32, .long (lN r4)), (34, .long (lN s1)), (36, .long (lN s2)), (38, .long (lN s3)), (40, .long (lN s4)), (42, .ref qb), (43, .int (nI (16 * i)))]) hx hb dX2_computeMac_313 hl (by decide) rfl (fun ls hl => ?_)
    have lx2 : x2 < 1152921504606846976 := by rw [ex2]; exact ot_five lh0 lh1 lh2 lh3 lh4 lr2 lr1 lr0 ls4 ls3
    refine lv_lload_n hx hb dX2_computeMac_315 rfl (lv_at hl 7 rfl) ?_
    refine lv_lload hx hb dX2_computeMac_316 (lv_at hl 13 rfl) ?_
    refine lv_lmul hx hb dX2_computeMac_318 ?_
    refine ot_topl (lN (h0 * r3)) (lN_mul _ _) ?_
    refine lv_lload hx hb dX2_computeMac_319 (lv_at hl 6 rfl) ?_
    refine lv_lload hx hb dX2_computeMac_321 (lv_at hl 12 rfl) ?_
    refine lv_lmul hx hb dX2_computeMac_323 ?_
    refine ot_topl (lN (h1 * r2)) (lN_mul _ _) ?_
    refine lv_ladd hx hb dX2_computeMac_324 ?_
    refine ot_topl (lN ((h0 * r3) + (h1 * r2))) (lN_add _ _) ?_
    refine lv_lload hx hb dX2_computeMac_325 (lv_at hl 5 rfl) ?_
    refine lv_lload hx hb dX2_computeMac_327 (lv_at hl 11 rfl) ?_
    refine lv_lmul hx hb dX2_computeMac_329 ?_
    refine ot_topl (lN (h2 * r1)) (lN_mul _ _) ?_
    refine lv_ladd hx hb dX2_computeMac_330 ?_
    refine ot_topl (lN (((h0 * r3) + (h1 * r2)) + (h2 * r1))) (lN_add _ _) ?_
    refine lv_lload hx hb dX2_computeMac_331 (lv_at hl 4 rfl) ?_
    refine lv_lload hx hb dX2_computeMac_333 (lv_at hl 10 rfl) ?_
    refine lv_lmul hx hb dX2_computeMac_335 ?_
    refine ot_topl (lN (h3 * r0)) (lN_mul _ _) ?_
    refine lv_ladd hx hb dX2_computeMac_336 ?_
    refine ot_topl (lN ((((h0 * r3) + (h1 * r2)) + (h2 * r1)) + (h3 * r0))) (lN_add _ _) ?_
    refine lv_lload hx hb dX2_computeMac_337 (lv_at hl 3 rfl) ?_
    refine lv_lload hx hb dX2_computeMac_339 (lv_at hl 18 rfl) ?_
    refine lv_lmul hx hb dX2_computeMac_341 ?_
    refine ot_topl (lN (h4 * s4)) (lN_mul _ _) ?_
    refine lv_ladd hx hb dX2_computeMac_342 ?_
    refine ot_topl (lN (((((h0 * r3) + (h1 * r2)) + (h2 * r1)) + (h3 * r0)) + (h4 * s4))) (lN_add _ _) ?_
    refine ot_namel (fun x3 ex3 => ?_)
    refine lv_lstore (lv' := [(18, .long (lN x3)), (16, .long (lN x2)), (14, .long (lN x1)), (12, .long (lN x0)), (10, .long (lN h4)), (8, .long (lN h3)), (6, .long (lN h2)), (4, .long (lN h1)), (2, .long (lN h0)), (0, .ref hk0), (1, .ref hd0), (24, .long (lN r0)), (26, .long (lN r1)), (28, .long (lN r2)), (30, .long (lN r3)), (32, .long (lN r4)), (34, .long (lN s1)), (36, .long (lN s2)), (38, .long (lN s3)), (40, .long (lN s4)), (42, .ref qb), (43, .int (nI (16 * i)))]) hx hb dX2_computeMac_343 hl (by decide) rfl (fun ls hl => ?_)
    have lx3 : x3 < 1152921504606846976 := by rw [ex3]; exact ot_five lh0 lh1 lh2 lh3 lh4 lr3 lr2 lr1 lr0 ls4
    refine lv_lload_n hx hb dX2_computeMac_345 rfl (lv_at hl 8 rfl) ?_
    refine lv_lload hx hb dX2_computeMac_346 (lv_at hl 15 rfl) ?_
    refine lv_lmul hx hb dX2_computeMac_348 ?_
    refine ot_topl (lN (h0 * r4)) (lN_mul _ _) ?_
    refine lv_lload hx hb dX2_computeMac_349 (lv_at hl 7 rfl) ?_
    refine lv_lload hx hb dX2_computeMac_351 (lv_at hl 14 rfl) ?_
    refine lv_lmul hx hb dX2_computeMac_353 ?_
    refine ot_topl (lN (h1 * r3)) (lN_mul _ _) ?_
    refine lv_ladd hx hb dX2_computeMac_354 ?_
    refine ot_topl (lN ((h0 * r4) + (h1 * r3))) (lN_add _ _) ?_
    refine lv_lload hx hb dX2_computeMac_355 (lv_at hl 6 rfl) ?_
    refine lv_lload hx hb dX2_computeMac_357 (lv_at hl 13 rfl) ?_
    refine lv_lmul hx hb dX2_computeMac_359 ?_
    refine ot_topl (lN (h2 * r2)) (lN_mul _ _) ?_
    refine lv_ladd hx hb dX2_computeMac_360 ?_
    refine ot_topl (lN (((h0 * r4) + (h1 * r3)) + (h2 * r2))) (lN_add _ _) ?_
    refine lv_lload hx hb dX2_computeMac_361 (lv_at hl 5 rfl) ?_
    refine lv_lload hx hb dX2_computeMac_363 (lv_at hl 12 rfl) ?_
    refine lv_lmul hx hb dX2_computeMac_365 ?_
    refine ot_topl (lN (h3 * r1)) (lN_mul _ _) ?_
    refine lv_ladd hx hb dX2_computeMac_366 ?_
    refine ot_topl (lN ((((h0 * r4) + (h1 * r3)) + (h2 * r2)) + (h3 * r1))) (lN_add _ _) ?_
    refine lv_lload hx hb dX2_computeMac_367 (lv_at hl 4 rfl) ?_
    refine lv_lload hx hb dX2_computeMac_369 (lv_at hl 11 rfl) ?_
    refine lv_lmul hx hb dX2_computeMac_371 ?_
    refine ot_topl (lN (h4 * r0)) (lN_mul _ _) ?_
    refine lv_ladd hx hb dX2_computeMac_372 ?_
    refine ot_topl (lN (((((h0 * r4) + (h1 * r3)) + (h2 * r2)) + (h3 * r1)) + (h4 * r0))) (lN_add _ _) ?_
    refine ot_namel (fun x4 ex4 => ?_)
    refine lv_lstore (lv' := [(20, .long (lN x4)), (18, .long (lN x3)), (16, .long (lN x2)), (14, .long (lN x1)), (12, .long (lN x0)), (10, .long (lN h4)), (8, .long (lN h3)), (6, .long (lN h2)), (4, .long (lN h1)), (2, .long (lN h0)), (0, .ref hk0), (1, .ref hd0), (24, .long (lN r0)), (26, .long (lN r1)), (28, .long (lN r2)), (30, .long (lN r3)), (32, .long (lN r4)), (34, .long (lN s1)), (36, .long (lN s2)), (38, .long (lN s3)), (40, .long (lN s4)), (42, .ref qb), (43, .int (nI (16 * i)))]) hx hb dX2_computeMac_373 hl (by decide) rfl (fun ls hl => ?_)
    have lx4 : x4 < 1152921504606846976 := by rw [ex4]; exact ot_five lh0 lh1 lh2 lh3 lh4 lr4 lr3 lr2 lr1 lr0
    obtain ⟨w_0, w_1, w_2, w_3, w_4⟩ : True ∧ True ∧ True ∧ True ∧ True := ⟨trivial, trivial, trivial, trivial, trivial⟩
    refine lv_lload hx hb dX2_computeMac_375 (lv_at hl 4 rfl) ?_
    refine lv_bipush (v := nI 26) hx hb dX2_computeMac_377 (by decide) ?_
    refine lv_lshr hx hb dX2_computeMac_379 rfl ?_
    refine ot_topl (lN (x0 / 2 ^ 26)) (ot_shrL 26 (by omega) (Nat.lt_trans lx0 (by decide))) ?_
    refine ot_namel (fun c0 ec0 => ?_)
    refine lv_lstore (lv' := [(22, .long (lN c0)), (20, .long (lN x4)), (18, .long (lN x3)), (16, .long (lN x2)), (14, .long (lN x1)), (12, .long (lN x0)), (10, .long (lN h4)), (8, .long (lN h3)), (6, .long (lN h2)), (4, .long (lN h1)), (2, .long (lN h0)), (0, .ref hk0), (1, .ref hd0), (24, .long (lN r0)), (26, .long (lN r1)), (28, .long (lN r2)), (30, .long (lN r3)), (32, .long (lN r4)), (34, .long (lN s1)), (36, .long (lN s2)), (38, .long (lN s3)), (40, .long (lN s4)), (42, .ref qb), (43, .int (nI (16 * i)))]) hx hb dX2_computeMac_380 hl (by decide) rfl (fun ls hl => ?_)
    refine lv_lload hx hb dX2_computeMac_382 (lv_at hl 5 rfl) ?_
    refine lv_ldc2 (v := lN 67108863) hx hb hown (hts _ q156) dX2_computeMac_384 ?_
    refine lv_land hx hb dX2_computeMac_387 ?_
    refine ot_topl (lN (x0 % 2 ^ 26)) (fb_maskL _ 26) ?_
    refine ot_namel (fun g0 eg0 => ?_)
    refine lv_lstore_n (lv' := [(2, .long (lN g0)), (22, .long (lN c0)), (20, .long (lN x4)), (18, .long (lN x3)), (16, .long (lN x2)), (14, .long (lN x1)), (12, .long (lN x0)), (10, .long (lN h4)), (8, .long (lN h3)), (6, .long (lN h2)), (4, .long (lN h1)), (0, .ref hk0), (1, .ref hd0), (24, .long (lN r0)), (26, .long (lN r1)), (28, .long (lN r2)), (30, .long (lN r3)), (32, .long (lN r4)), (34, .long (lN s1)), (36, .long (lN s2)), (38, .long (lN s3)), (40, .long (lN s4)), (42, .ref qb), (43, .int (nI (16 * i)))]) hx hb dX2_computeMac_388 rfl hl (by decide) rfl (fun ls hl => ?_)
    refine lv_lload hx hb dX2_computeMac_389 (lv_at hl 5 rfl) ?_
    refine lv_lload hx hb dX2_computeMac_391 (lv_at hl 1 rfl) ?_
    refine lv_ladd hx hb dX2_computeMac_393 ?_
    refine ot_topl (lN (x1 + c0)) (lN_add _ _) ?_
    refine ot_namel (fun y1 ey1 => ?_)
    refine lv_lstore (lv' := [(14, .long (lN y1)), (2, .long (lN g0)), (22, .long (lN c0)), (20, .long (lN x4)), (18, .long (lN x3)), (16, .long (lN x2)), (12, .long (lN x0)), (10, .long (lN h4)), (8, .long (lN h3)), (6, .long (lN h2)), (4, .long (lN h1)), (0, .ref hk0), (1, .ref hd0), (24, .long (lN r0)), (26, .long (lN r1)), (28, .long (lN r2)), (30, .long (lN r3)), (32, .long (lN r4)), (34, .long (lN s1)), (36, .long (lN s2)), (38, .long (lN s3)), (40, .long (lN s4)), (42, .ref qb), (43, .int (nI (16 * i)))]) hx hb dX2_computeMac_394 hl (by decide) rfl (fun ls hl => ?_)
    have ly1 : y1 < 2305843009213693952 := by rw [ey1, ec0]; clear ex0 ex1 ex2 ex3 ex4; omega
    refine lv_lload hx hb dX2_computeMac_396 (lv_at hl 0 rfl) ?_
    refine lv_bipush (v := nI 26) hx hb dX2_computeMac_398 (by decide) ?_
    refine lv_lshr hx hb dX2_computeMac_400 rfl ?_
    refine ot_topl (lN (y1 / 2 ^ 26)) (ot_shrL 26 (by omega) (Nat.lt_trans ly1 (by decide))) ?_
    refine ot_namel (fun c1 ec1 => ?_)
    refine lv_lstore (lv' := [(22, .long (lN c1)), (14, .long (lN y1)), (2, .long (lN g0)), (20, .long (lN x4)), (18, .long (lN x3)), (16, .long (lN x2)), (12, .long (lN x0)), (10, .long (lN h4)), (8, .long (lN h3)), (6, .long (lN h2)), (4, .long (lN h1)), (0, .ref hk0), (1, .ref hd0), (24, .long (lN r0)), (26, .long (lN r1)), (28, .long (lN r2)), (30, .long (lN r3)), (32, .long (lN r4)), (34, .long (lN s1)), (36, .long (lN s2)), (38, .long (lN s3)), (40, .long (lN s4)), (42, .ref qb), (43, .int (nI (16 * i)))]) hx hb dX2_computeMac_401 hl (by decide) rfl (fun ls hl => ?_)
    refine lv_lload hx hb dX2_computeMac_403 (lv_at hl 1 rfl) ?_
    refine lv_ldc2 (v := lN 67108863) hx hb hown (hts _ q156) dX2_computeMac_405 ?_
    refine lv_land hx hb dX2_computeMac_408 ?_
    refine ot_topl (lN (y1 % 2 ^ 26)) (fb_maskL _ 26) ?_
    refine ot_namel (fun g1 eg1 => ?_)
    refine lv_lstore (lv' := [(4, .long (lN g1)), (22, .long (lN c1)), (14, .long (lN y1)), (2, .long (lN g0)), (20, .long (lN x4)), (18, .long (lN x3)), (16, .long (lN x2)), (12, .long (lN x0)), (10, .long (lN h4)), (8, .long (lN h3)), (6, .long (lN h2)), (0, .ref hk0), (1, .ref hd0), (24, .long (lN r0)), (26, .long (lN r1)), (28, .long (lN r2)), (30, .long (lN r3)), (32, .long (lN r4)), (34, .long (lN s1)), (36, .long (lN s2)), (38, .long (lN s3)), (40, .long (lN s4)), (42, .ref qb), (43, .int (nI (16 * i)))]) hx hb dX2_computeMac_409 hl (by decide) rfl (fun ls hl => ?_)
    refine lv_lload hx hb dX2_computeMac_411 (lv_at hl 6 rfl) ?_
    refine lv_lload hx hb dX2_computeMac_413 (lv_at hl 1 rfl) ?_
    refine lv_ladd hx hb dX2_computeMac_415 ?_
    refine ot_topl (lN (x2 + c1)) (lN_add _ _) ?_
    refine ot_namel (fun y2 ey2 => ?_)
    refine lv_lstore (lv' := [(16, .long (lN y2)), (4, .long (lN g1)), (22, .long (lN c1)), (14, .long (lN y1)), (2, .long (lN g0)), (20, .long (lN x4)), (18, .long (lN x3)), (12, .long (lN x0)), (10, .long (lN h4)), (8, .long (lN h3)), (6, .long (lN h2)), (0, .ref hk0), (1, .ref hd0), (24, .long (lN r0)), (26, .long (lN r1)), (28, .long (lN r2)), (30, .long (lN r3)), (32, .long (lN r4)), (34, .long (lN s1)), (36, .long (lN s2)), (38, .long (lN s3)), (40, .long (lN s4)), (42, .ref qb), (43, .int (nI (16 * i)))]) hx hb dX2_computeMac_416 hl (by decide) rfl (fun ls hl => ?_)
    have ly2 : y2 < 2305843009213693952 := by rw [ey2, ec1]; clear ex0 ex1 ex2 ex3 ex4; omega
    refine lv_lload hx hb dX2_computeMac_418 (lv_at hl 0 rfl) ?_
    refine lv_bipush (v := nI 26) hx hb dX2_computeMac_420 (by decide) ?_
    refine lv_lshr hx hb dX2_computeMac_422 rfl ?_
    refine ot_topl (lN (y2 / 2 ^ 26)) (ot_shrL 26 (by omega) (Nat.lt_trans ly2 (by decide))) ?_
    refine ot_namel (fun c2 ec2 => ?_)
    refine lv_lstore (lv' := [(22, .long (lN c2)), (16, .long (lN y2)), (4, .long (lN g1)), (14, .long (lN y1)), (2, .long (lN g0)), (20, .long (lN x4)), (18, .long (lN x3)), (12, .long (lN x0)), (10, .long (lN h4)), (8, .long (lN h3)), (6, .long (lN h2)), (0, .ref hk0), (1, .ref hd0), (24, .long (lN r0)), (26, .long (lN r1)), (28, .long (lN r2)), (30, .long (lN r3)), (32, .long (lN r4)), (34, .long (lN s1)), (36, .long (lN s2)), (38, .long (lN s3)), (40, .long (lN s4)), (42, .ref qb), (43, .int (nI (16 * i)))]) hx hb dX2_computeMac_423 hl (by decide) rfl (fun ls hl => ?_)
    refine lv_lload hx hb dX2_computeMac_425 (lv_at hl 1 rfl) ?_
    refine lv_ldc2 (v := lN 67108863) hx hb hown (hts _ q156) dX2_computeMac_427 ?_
    refine lv_land hx hb dX2_computeMac_430 ?_
    refine ot_topl (lN (y2 % 2 ^ 26)) (fb_maskL _ 26) ?_
    refine ot_namel (fun g2 eg2 => ?_)
    refine lv_lstore (lv' := [(6, .long (lN g2)), (22, .long (lN c2)), (16, .long (lN y2)), (4, .long (lN g1)), (14, .long (lN y1)), (2, .long (lN g0)), (20, .long (lN x4)), (18, .long (lN x3)), (12, .long (lN x0)), (10, .long (lN h4)), (8, .long (lN h3)), (0, .ref hk0), (1, .ref hd0), (24, .long (lN r0)), (26, .long (lN r1)), (28, .long (lN r2)), (30, .long (lN r3)), (32, .long (lN r4)), (34, .long (lN s1)), (36, .long (lN s2)), (38, .long (lN s3)), (40, .long (lN s4)), (42, .ref qb), (43, .int (nI (16 * i)))]) hx hb dX2_computeMac_431 hl (by decide) rfl (fun ls hl => ?_)
    refine lv_lload hx hb dX2_computeMac_433 (lv_at hl 7 rfl) ?_
    refine lv_lload hx hb dX2_computeMac_435 (lv_at hl 1 rfl) ?_
    refine lv_ladd hx hb dX2_computeMac_437 ?_
    refine ot_topl (lN (x3 + c2)) (lN_add _ _) ?_
    refine ot_namel (fun y3 ey3 => ?_)
    refine lv_lstore (lv' := [(18, .long (lN y3)), (6, .long (lN g2)), (22, .long (lN c2)), (16, .long (lN y2)), (4, .long (lN g1)), (14, .long (lN y1)), (2, .long (lN g0)), (20, .long (lN x4)), (12, .long (lN x0)), (10, .long (lN h4)), (8, .long (lN h3)), (0, .ref hk0), (1, .ref hd0), (24, .long (lN r0)), (26, .long (lN r1)), (28, .long (lN r2)), (30, .long (lN r3)), (32, .long (lN r4)), (34, .long (lN s1)), (36, .long (lN s2)), (38, .long (lN s3)), (40, .long (lN s4)), (42, .ref qb), (43, .int (nI (16 * i)))]) hx hb dX2_computeMac_438 hl (by decide) rfl (fun ls hl => ?_)
    have ly3 : y3 < 2305843009213693952 := by rw [ey3, ec2]; clear ex0 ex1 ex2 ex3 ex4; omega
    refine lv_lload hx hb dX2_computeMac_440 (lv_at hl 0 rfl) ?_
    refine lv_bipush (v := nI 26) hx hb dX2_computeMac_442 (by decide) ?_
    refine lv_lshr hx hb dX2_computeMac_444 rfl ?_
    refine ot_topl (lN (y3 / 2 ^ 26)) (ot_shrL 26 (by omega) (Nat.lt_trans ly3 (by decide))) ?_
    refine ot_namel (fun c3 ec3 => ?_)
    refine lv_lstore (lv' := [(22, .long (lN c3)), (18, .long (lN y3)), (6, .long (lN g2)), (16, .long (lN y2)), (4, .long (lN g1)), (14, .long (lN y1)), (2, .long (lN g0)), (20, .long (lN x4)), (12, .long (lN x0)), (10, .long (lN h4)), (8, .long (lN h3)), (0, .ref hk0), (1, .ref hd0), (24, .long (lN r0)), (26, .long (lN r1)), (28, .long (lN r2)), (30, .long (lN r3)), (32, .long (lN r4)), (34, .long (lN s1)), (36, .long (lN s2)), (38, .long (lN s3)), (40, .long (lN s4)), (42, .ref qb), (43, .int (nI (16 * i)))]) hx hb dX2_computeMac_445 hl (by decide) rfl (fun ls hl => ?_)
    refine lv_lload hx hb dX2_computeMac_447 (lv_at hl 1 rfl) ?_
    refine lv_ldc2 (v := lN 67108863) hx hb hown (hts _ q156) dX2_computeMac_449 ?_
    refine lv_land hx hb dX2_computeMac_452 ?_
    refine ot_topl (lN (y3 % 2 ^ 26)) (fb_maskL _ 26) ?_
    refine ot_namel (fun g3 eg3 => ?_)
    refine lv_lstore (lv' := [(8, .long (lN g3)), (22, .long (lN c3)), (18, .long (lN y3)), (6, .long (lN g2)), (16, .long (lN y2)), (4, .long (lN g1)), (14, .long (lN y1)), (2, .long (lN g0)), (20, .long (lN x4)), (12, .long (lN x0)), (10, .long (lN h4)), (0, .ref hk0), (1, .ref hd0), (24, .long (lN r0)), (26, .long (lN r1)), (28, .long (lN r2)), (30, .long (lN r3)), (32, .long (lN r4)), (34, .long (lN s1)), (36, .long (lN s2)), (38, .long (lN s3)), (40, .long (lN s4)), (42, .ref qb), (43, .int (nI (16 * i)))]) hx hb dX2_computeMac_453 hl (by decide) rfl (fun ls hl => ?_)
    refine lv_lload hx hb dX2_computeMac_455 (lv_at hl 8 rfl) ?_
    refine lv_lload hx hb dX2_computeMac_457 (lv_at hl 1 rfl) ?_
    refine lv_ladd hx hb dX2_computeMac_459 ?_
    refine ot_topl (lN (x4 + c3)) (lN_add _ _) ?_
    refine ot_namel (fun y4 ey4 => ?_)
    refine lv_lstore (lv' := [(20, .long (lN y4)), (8, .long (lN g3)), (22, .long (lN c3)), (18, .long (lN y3)), (6, .long (lN g2)), (16, .long (lN y2)), (4, .long (lN g1)), (14, .long (lN y1)), (2, .long (lN g0)), (12, .long (lN x0)), (10, .long (lN h4)), (0, .ref hk0), (1, .ref hd0), (24, .long (lN r0)), (26, .long (lN r1)), (28, .long (lN r2)), (30, .long (lN r3)), (32, .long (lN r4)), (34, .long (lN s1)), (36, .long (lN s2)), (38, .long (lN s3)), (40, .long (lN s4)), (42, .ref qb), (43, .int (nI (16 * i)))]) hx hb dX2_computeMac_460 hl (by decide) rfl (fun ls hl => ?_)
    have ly4 : y4 < 2305843009213693952 := by rw [ey4, ec3]; clear ex0 ex1 ex2 ex3 ex4; omega
    refine lv_lload hx hb dX2_computeMac_462 (lv_at hl 0 rfl) ?_
    refine lv_bipush (v := nI 26) hx hb dX2_computeMac_464 (by decide) ?_
    refine lv_lshr hx hb dX2_computeMac_466 rfl ?_
    refine ot_topl (lN (y4 / 2 ^ 26)) (ot_shrL 26 (by omega) (Nat.lt_trans ly4 (by decide))) ?_
    refine ot_namel (fun c4 ec4 => ?_)
    refine lv_lstore (lv' := [(22, .long (lN c4)), (20, .long (lN y4)), (8, .long (lN g3)), (18, .long (lN y3)), (6, .long (lN g2)), (16, .long (lN y2)), (4, .long (lN g1)), (14, .long (lN y1)), (2, .long (lN g0)), (12, .long (lN x0)), (10, .long (lN h4)), (0, .ref hk0), (1, .ref hd0), (24, .long (lN r0)), (26, .long (lN r1)), (28, .long (lN r2)), (30, .long (lN r3)), (32, .long (lN r4)), (34, .long (lN s1)), (36, .long (lN s2)), (38, .long (lN s3)), (40, .long (lN s4)), (42, .ref qb), (43, .int (nI (16 * i)))]) hx hb dX2_computeMac_467 hl (by decide) rfl (fun ls hl => ?_)
    refine lv_lload hx hb dX2_computeMac_469 (lv_at hl 1 rfl) ?_
    refine lv_ldc2 (v := lN 67108863) hx hb hown (hts _ q156) dX2_computeMac_471 ?_
    refine lv_land hx hb dX2_computeMac_474 ?_
    refine ot_topl (lN (y4 % 2 ^ 26)) (fb_maskL _ 26) ?_
    refine ot_namel (fun g4 eg4 => ?_)
    refine lv_lstore (lv' := [(10, .long (lN g4)), (22, .long (lN c4)), (20, .long (lN y4)), (8, .long (lN g3)), (18, .long (lN y3)), (6, .long (lN g2)), (16, .long (lN y2)), (4, .long (lN g1)), (14, .long (lN y1)), (2, .long (lN g0)), (12, .long (lN x0)), (0, .ref hk0), (1, .ref hd0), (24, .long (lN r0)), (26, .long (lN r1)), (28, .long (lN r2)), (30, .long (lN r3)), (32, .long (lN r4)), (34, .long (lN s1)), (36, .long (lN s2)), (38, .long (lN s3)), (40, .long (lN s4)), (42, .ref qb), (43, .int (nI (16 * i)))]) hx hb dX2_computeMac_475 hl (by decide) rfl (fun ls hl => ?_)
    refine lv_lload_n hx hb dX2_computeMac_477 rfl (lv_at hl 9 rfl) ?_
    refine lv_lload hx hb dX2_computeMac_478 (lv_at hl 1 rfl) ?_
    refine lv_ldc2 (v := lN 5) hx hb hown (hts _ q161) dX2_computeMac_480 ?_
    refine lv_lmul hx hb dX2_computeMac_483 ?_
    refine ot_topl (lN (c4 * 5)) (lN_mul _ _) ?_
    refine lv_ladd hx hb dX2_computeMac_484 ?_
    refine ot_topl (lN (g0 + (c4 * 5))) (lN_add _ _) ?_
    refine ot_namel (fun z0 ez0 => ?_)
    refine lv_lstore_n (lv' := [(2, .long (lN z0)), (10, .long (lN g4)), (22, .long (lN c4)), (20, .long (lN y4)), (8, .long (lN g3)), (18, .long (lN y3)), (6, .long (lN g2)), (16, .long (lN y2)), (4, .long (lN g1)), (14, .long (lN y1)), (12, .long (lN x0)), (0, .ref hk0), (1, .ref hd0), (24, .long (lN r0)), (26, .long (lN r1)), (28, .long (lN r2)), (30, .long (lN r3)), (32, .long (lN r4)), (34, .long (lN s1)), (36, .long (lN s2)), (38, .long (lN s3)), (40, .long (lN s4)), (42, .ref qb), (43, .int (nI (16 * i)))]) hx hb dX2_computeMac_485 rfl hl (by decide) rfl (fun ls hl => ?_)
    have lz0 : z0 < 1099511627776 := by rw [ez0, eg0, ec4]; clear ex0 ex1 ex2 ex3 ex4; omega
    refine lv_lload_n hx hb dX2_computeMac_486 rfl (lv_at hl 0 rfl) ?_
    refine lv_bipush (v := nI 26) hx hb dX2_computeMac_487 (by decide) ?_
    refine lv_lshr hx hb dX2_computeMac_489 rfl ?_
    refine ot_topl (lN (z0 / 2 ^ 26)) (ot_shrL 26 (by omega) (Nat.lt_trans lz0 (by decide))) ?_
    refine ot_namel (fun c5 ec5 => ?_)
    refine lv_lstore (lv' := [(22, .long (lN c5)), (2, .long (lN z0)), (10, .long (lN g4)), (20, .long (lN y4)), (8, .long (lN g3)), (18, .long (lN y3)), (6, .long (lN g2)), (16, .long (lN y2)), (4, .long (lN g1)), (14, .long (lN y1)), (12, .long (lN x0)), (0, .ref hk0), (1, .ref hd0), (24, .long (lN r0)), (26, .long (lN r1)), (28, .long (lN r2)), (30, .long (lN r3)), (32, .long (lN r4)), (34, .long (lN s1)), (36, .long (lN s2)), (38, .long (lN s3)), (40, .long (lN s4)), (42, .ref qb), (43, .int (nI (16 * i)))]) hx hb dX2_computeMac_490 hl (by decide) rfl (fun ls hl => ?_)
    refine lv_lload_n hx hb dX2_computeMac_492 rfl (lv_at hl 1 rfl) ?_
    refine lv_ldc2 (v := lN 67108863) hx hb hown (hts _ q156) dX2_computeMac_493 ?_
    refine lv_land hx hb dX2_computeMac_496 ?_
    refine ot_topl (lN (z0 % 2 ^ 26)) (fb_maskL _ 26) ?_
    refine ot_namel (fun k0 ek0 => ?_)
    refine lv_lstore_n (lv' := [(2, .long (lN k0)), (22, .long (lN c5)), (10, .long (lN g4)), (20, .long (lN y4)), (8, .long (lN g3)), (18, .long (lN y3)), (6, .long (lN g2)), (16, .long (lN y2)), (4, .long (lN g1)), (14, .long (lN y1)), (12, .long (lN x0)), (0, .ref hk0), (1, .ref hd0), (24, .long (lN r0)), (26, .long (lN r1)), (28, .long (lN r2)), (30, .long (lN r3)), (32, .long (lN r4)), (34, .long (lN s1)), (36, .long (lN s2)), (38, .long (lN s3)), (40, .long (lN s4)), (42, .ref qb), (43, .int (nI (16 * i)))]) hx hb dX2_computeMac_497 rfl hl (by decide) rfl (fun ls hl => ?_)
    refine lv_lload hx hb dX2_computeMac_498 (lv_at hl 8 rfl) ?_
    refine lv_lload hx hb dX2_computeMac_500 (lv_at hl 1 rfl) ?_
    refine lv_ladd hx hb dX2_computeMac_502 ?_
    refine ot_topl (lN (g1 + c5)) (lN_add _ _) ?_
    refine ot_namel (fun k1 ek1 => ?_)
    refine lv_lstore (lv' := [(4, .long (lN k1)), (2, .long (lN k0)), (22, .long (lN c5)), (10, .long (lN g4)), (20, .long (lN y4)), (8, .long (lN g3)), (18, .long (lN y3)), (6, .long (lN g2)), (16, .long (lN y2)), (14, .long (lN y1)), (12, .long (lN x0)), (0, .ref hk0), (1, .ref hd0), (24, .long (lN r0)), (26, .long (lN r1)), (28, .long (lN r2)), (30, .long (lN r3)), (32, .long (lN r4)), (34, .long (lN s1)), (36, .long (lN s2)), (38, .long (lN s3)), (40, .long (lN s4)), (42, .ref qb), (43, .int (nI (16 * i)))]) hx hb dX2_computeMac_503 hl (by decide) rfl (fun ls hl => ?_)
    refine lv_iinc (v := nI (16 * (i + 1))) (lv' := [(43, .int (nI (16 * (i + 1)))), (4, .long (lN k1)), (2, .long (lN k0)), (22, .long (lN c5)), (10, .long (lN g4)), (20, .long (lN y4)), (8, .long (lN g3)), (18, .long (lN y3)), (6, .long (lN g2)), (16, .long (lN y2)), (14, .long (lN y1)), (12, .long (lN x0)), (0, .ref hk0), (1, .ref hd0), (24, .long (lN r0)), (26, .long (lN r1)), (28, .long (lN r2)), (30, .long (lN r3)), (32, .long (lN r4)), (34, .long (lN s1)), (36, .long (lN s2)), (38, .long (lN s3)), (40, .long (lN s4)), (42, .ref qb)]) hx hb dX2_computeMac_505 hl (k := 23) rfl (ot_inc (16 * i) 16) (by decide) rfl (fun ls hl => ?_)
    refine lv_goto (tgt := 137) hx hb dX2_computeMac_508 (by decide) ?_
    obtain ⟨t0_, t1_, t2_, t3_, t4_, t5_⟩ := ot_step lx0 lx1 lx2 lx3 lx4 ec0 eg0 ey1 ec1 eg1 ey2 ec2 eg2 ey3 ec3 eg3 ey4 ec4 eg4 ez0 ec5 ek0 ek1
    have hv2 := ot_turn t0_ eh0 eh1 eh2 eh3 eh4 es1 es2 es3 es4 ex0 ex1 ex2 ex3 ex4 hv_ hbk hr_
    exact ih (i + 1) k0 k1 g2 g3 g4 F1 (by omega) t1_ t2_ t3_ t4_ t5_ hv2 H locs hP hD hS ls (lv_sub hl [12, 13, 2, 1, 8, 6, 4, 14, 15, 16, 17, 18, 19, 20, 21, 22, 23, 0] rfl)
end
section
/-! Poly1305: computeMac, its contract -/
abbrev wsX2_computeMac : List Cond := ws_ yX2_computeMac cX2_computeMac 56 (some (.array .byte))
set_option maxHeartbeats 4000000 in
set_option maxRecDepth 100000 in
/-- computeMac: the bytes of the tag -/
theorem metX2_computeMac (l : Launch) (dC : Nat → ClassId) (dI : Nat → Nat → Nat) (sz : Nat) (hk0 hd0 nd : Nat) (dk dd : ClassId) (fk fd : Nat → Int32) (hnd : nd ≤ 4096) (hby : ∀ j, j < nd → (fd j).toInt8.toInt32 = fd j) : Met l yX2_computeMac wsX2_computeMac ({ frames := 3, cells := 2, slots := 33, locals := 90 }) (va_Pc [.ref hk0, .ref hd0] (fun U => U.heap.size = sz ∧ va_P (dC, dI) vwCl [(hk0, .inl (dk, 32, .inl fk)), (hd0, .inl (dd, nd, .inl fd))] U.heap ∧ va_K (dC, dI) vwCl [(dk, .byte), (dd, .byte)] U ∧ va_D (fun _ => True) [(hk0, .inl (dk, 32, .inl fk)), (hd0, .inl (dd, nd, .inl fd))])) (va_Qr (fun (u : ClassId × (Nat → Int32)) => ∀ j, j < 16 → ot_b (u.2 j) = ot_mac fk fd nd / 256 ^ j % 256) (fun (u : ClassId × (Nat → Int32)) (ra : Nat) (t : State) => va_P (dC, dI) vwCl [(hk0, .inl (dk, 32, .inl fk)), (hd0, .inl (dd, nd, .inl fd)), (ra, .inl (u.1, 16, .inl u.2))] t.heap ∧ va_K (dC, dI) vwCl [(dk, .byte), (dd, .byte), (u.1, .byte)] t ∧ va_D (va_A [(hk0, .inl (dk, 32, .inl fk)), (hd0, .inl (dd, nd, .inl fd))] sz) [(hk0, .inl (dk, 32, .inl fk)), (hd0, .inl (dd, nd, .inl fd)), (ra, .inl (u.1, 16, .inl u.2))]) (va_A [(hk0, .inl (dk, 32, .inl fk)), (hd0, .inl (dd, nd, .inl fd))] sz)) 2 33 (va_A [(hk0, .inl (dk, 32, .inl fk)), (hd0, .inl (dd, nd, .inl fd))] sz) := by
  refine Met.ofW (cc := cX2_computeMac) (maxL := 56) (ret := (some (.array .byte))) (by decide) rfl ?_
  intro p e s m args below meth c s₁ B hml hv
  obtain ⟨rfl, hsz, hP, hK, hD0⟩ := hv
  have hx := B.exec
  have hb := B.bytes
  have hr := B.returns
  have hts := atoms_spec (ws := wsX2_computeMac) B.pre
  have hts : ∀ w ∈ lw_all, w.before _ s = true := fun w h => hts w (List.mem_cons_of_mem _ h)
  have hown : s.vm.findClass RX2 = some m.cls := findClass_of_methodNamed B.named
  have hlocks := B.notSynchronized
  subst hsz
  have hD := hD0.self (sz := s.heap.size)
  generalize hAe : va_A [(hk0, .inl (dk, 32, .inl fk)), (hd0, .inl (dd, nd, .inl fd))] s.heap.size = A at hD ⊢
  have hA : ∀ q : Nat, s.heap.size ≤ q → A q := fun q h => by rw [← hAe]; exact Or.inr h
  have hS : va_S A s.heap s.heap [] := va_S.rf
  have hP : va_P (dC, dI) vwCl [(hk0, .inl (dk, 32, .inl fk)), (hd0, .inl (dd, nd, .inl fd))] s.heap := hP
  have hl := lv_entry ([.ref hk0, .ref hd0]) (n := 56) (Nat.le_of_ble_eq_true rfl)
  rw [lg_entry_eq]
  generalize (lg_sl ([.ref hk0, .ref hd0]) ++ List.replicate (56 - (lg_sl ([.ref hk0, .ref hd0])).length) Slot.unset).toArray = ls at hl ⊢
  have hl : lv_has ls 56 [(0, .ref hk0), (1, .ref hd0)] := hl
  refine lv_aload_n hx hb dX2_computeMac_0 rfl (lv_at hl 0 rfl) ?_
  refine va_alen (v := nI 32) hx hb hK hP 0 0 rfl rfl rfl dX2_computeMac_1 ?_
  refine lv_bipush (v := nI 32) hx hb dX2_computeMac_2 (by decide) ?_
  refine lv_icmp_eq (tgt := 17) hx hb dX2_computeMac_4 (by decide) (fun c_ => ?_) (fun c_ => absurd c_ (not_not_intro rfl))
  refine lv_lconst (v := lN 0) hx hb dX2_computeMac_17 rfl ?_
  refine lv_lstore_n (lv' := [(2, .long (lN 0)), (0, .ref hk0), (1, .ref hd0)]) hx hb dX2_computeMac_18 rfl hl (by decide) rfl (fun ls hl => ?_)
  refine lv_lconst (v := lN 0) hx hb dX2_computeMac_19 rfl ?_
  refine lv_lstore (lv' := [(4, .long (lN 0)), (2, .long (lN 0)), (0, .ref hk0), (1, .ref hd0)]) hx hb dX2_computeMac_20 hl (by decide) rfl (fun ls hl => ?_)
  refine lv_lconst (v := lN 0) hx hb dX2_computeMac_22 rfl ?_
  refine lv_lstore (lv' := [(6, .long (lN 0)), (4, .long (lN 0)), (2, .long (lN 0)), (0, .ref hk0), (1, .ref hd0)]) hx hb dX2_computeMac_23 hl (by decide) rfl (fun ls hl => ?_)
  refine lv_lconst (v := lN 0) hx hb dX2_computeMac_25 rfl ?_
  refine lv_lstore (lv' := [(8, .long (lN 0)), (6, .long (lN 0)), (4, .long (lN 0)), (2, .long (lN 0)), (0, .ref hk0), (1, .ref hd0)]) hx hb dX2_computeMac_26 hl (by decide) rfl (fun ls hl => ?_)
  refine lv_lconst (v := lN 0) hx hb dX2_computeMac_28 rfl ?_
  refine lv_lstore (lv' := [(10, .long (lN 0)), (8, .long (lN 0)), (6, .long (lN 0)), (4, .long (lN 0)), (2, .long (lN 0)), (0, .ref hk0), (1, .ref hd0)]) hx hb dX2_computeMac_29 hl (by decide) rfl (fun ls hl => ?_)
  refine lv_aload_n hx hb dX2_computeMac_31 rfl (lv_at hl 5 rfl) ?_
  refine lv_iconst (v := nI 0) hx hb dX2_computeMac_32 (by decide) ?_
  refine lv_iconst (v := nI 0) hx hb dX2_computeMac_33 (by decide) ?_
  have hPc := hP.sub (ws' := [(hk0, .inl (dk, 32, .inl fk))]) [0] rfl
  have hDc := hD.sub (ws' := [(hk0, .inl (dk, 32, .inl fk))]) [0] (by decide) rfl
  have hKc := hK.sub (tys' := [(dk, .byte)]) [0] rfl
  have hFc := va_free (wc := [(hk0, .inl (dk, 32, .inl fk))]) hD hS hA [0] rfl
  refine va_calll (va_runS (As := [.ref hk0, .int (nI 0), .int (nI 0)]) (rest := []) ⟨hx, hb, hml, hown, hts⟩ (metX2_load26 l dC dI s.heap.size hk0 32 dk fk 0 0 (by omega) (by omega) (by omega)) (va_cwS 3 hts (lw_S q149 q150 q12 q151) rfl rfl rfl (by decide +kernel) ⟨Nat.le_of_ble_eq_true rfl, Nat.le_of_ble_eq_true rfl⟩) ⟨fun a U g mk q => by obtain ⟨q0, q1, qP, qK, qD⟩ := q; exact ⟨q0, q1, qP, va_K.moved (u := U) (U := U.calling g mk a) (Vm.Alike.refl U.vm) qK, qD⟩, fun U hU hW => ⟨rfl, by rw [hU], by rw [hU]; exact hPc, va_K.moved hW.alike hKc, hDc.weaken (fun _ _ _ _ => trivial)⟩⟩ rfl rfl hl.1 rfl (lv_room (Nat.le_of_ble_eq_true rfl)) dX2_computeMac_34 ⟨Nat.le_of_ble_eq_true rfl, Nat.le_of_ble_eq_true rfl⟩) hS (fun q _ h => hFc q h) hFc (fun r_ u_ t H1 locs ht hvm hw_ hB hz1 hk1 hS => ?_)
  obtain ⟨hP1, -, -⟩ := hB
  rw [ht] at hP1
  have hP := ot_back hP hD [0] rfl hk1 hP1
  generalize H1 = H at hP hS ⊢
  obtain ⟨q0, eq0⟩ : ∃ y : Nat, y = ot_le32 fk 0 / 2 ^ 0 % 2 ^ 26 := ⟨_, rfl⟩
  have e_ : r_ = lN q0 := by rw [eq0]; exact hw_
  subst e_
  refine W.widen (k := 0) (n := 0) (Nat.le_refl _) (Nat.le_refl _) ?_
  refine lv_ldc2 (v := lN 67108863) hx hb hown (hts _ q156) dX2_computeMac_37 ?_
  refine lv_land hx hb dX2_computeMac_40 ?_
  refine ot_topl (lN (q0 % 2 ^ 26)) (fb_maskL _ 26) ?_
  refine ot_namel (fun r0 er0 => ?_)
  refine lv_lstore (lv' := [(24, .long (lN r0)), (10, .long (lN 0)), (8, .long (lN 0)), (6, .long (lN 0)), (4, .long (lN 0)), (2, .long (lN 0)), (0, .ref hk0), (1, .ref hd0)]) hx hb dX2_computeMac_41 hl (by decide) rfl (fun ls hl => ?_)
  refine lv_aload_n hx hb dX2_computeMac_43 rfl (lv_at hl 6 rfl) ?_
  refine lv_iconst (v := nI 3) hx hb dX2_computeMac_44 (by decide) ?_
  refine lv_iconst (v := nI 2) hx hb dX2_computeMac_45 (by decide) ?_
  have hPc := hP.sub (ws' := [(hk0, .inl (dk, 32, .inl fk))]) [0] rfl
  have hDc := hD.sub (ws' := [(hk0, .inl (dk, 32, .inl fk))]) [0] (by decide) rfl
  have hKc := hK.sub (tys' := [(dk, .byte)]) [0] rfl
  have hFc := va_free (wc := [(hk0, .inl (dk, 32, .inl fk))]) hD hS hA [0] rfl
  refine va_calll (va_runS (As := [.ref hk0, .int (nI 3), .int (nI 2)]) (rest := []) ⟨hx, hb, hml, hown, hts⟩ (metX2_load26 l dC dI H.size hk0 32 dk fk 3 2 (by omega) (by omega) (by omega)) (va_cwS 3 hts (lw_S q149 q150 q12 q151) rfl rfl rfl (by decide +kernel) ⟨Nat.le_of_ble_eq_true rfl, Nat.le_of_ble_eq_true rfl⟩) ⟨fun a U g mk q => by obtain ⟨q0, q1, qP, qK, qD⟩ := q; exact ⟨q0, q1, qP, va_K.moved (u := U) (U := U.calling g mk a) (Vm.Alike.refl U.vm) qK, qD⟩, fun U hU hW => ⟨rfl, by rw [hU], by rw [hU]; exact hPc, va_K.moved hW.alike hKc, hDc.weaken (fun _ _ _ _ => trivial)⟩⟩ rfl rfl hl.1 rfl (lv_room (Nat.le_of_ble_eq_true rfl)) dX2_computeMac_46 ⟨Nat.le_of_ble_eq_true rfl, Nat.le_of_ble_eq_true rfl⟩) hS (fun q _ h => hFc q h) hFc (fun r_ u_ t H1 locs ht hvm hw_ hB hz1 hk1 hS => ?_)
  obtain ⟨hP1, -, -⟩ := hB
  rw [ht] at hP1
  have hP := ot_back hP hD [0] rfl hk1 hP1
  generalize H1 = H at hP hS ⊢
  obtain ⟨q1, eq1⟩ : ∃ y : Nat, y = ot_le32 fk 3 / 2 ^ 2 % 2 ^ 26 := ⟨_, rfl⟩
  have e_ : r_ = lN q1 := by rw [eq1]; exact hw_
  subst e_
  refine W.widen (k := 0) (n := 0) (Nat.le_refl _) (Nat.le_refl _) ?_
  refine lv_ldc2 (v := lN 67108611) hx hb hown (hts _ q157) dX2_computeMac_49 ?_
  refine lv_land hx hb dX2_computeMac_52 ?_
  refine ot_topl (lN (q1 &&& 67108611)) (fb_andL _ _) ?_
  refine ot_namel (fun r1 er1 => ?_)
  refine lv_lstore (lv' := [(26, .long (lN r1)), (24, .long (lN r0)), (10, .long (lN 0)), (8, .long (lN 0)), (6, .long (lN 0)), (4, .long (lN 0)), (2, .long (lN 0)), (0, .ref hk0), (1, .ref hd0)]) hx hb dX2_computeMac_53 hl (by decide) rfl (fun ls hl => ?_)
  refine lv_aload_n hx hb dX2_computeMac_55 rfl (lv_at hl 7 rfl) ?_
  refine lv_bipush (v := nI 6) hx hb dX2_computeMac_56 (by decide) ?_
  refine lv_iconst (v := nI 4) hx hb dX2_computeMac_58 (by decide) ?_
  have hPc := hP.sub (ws' := [(hk0, .inl (dk, 32, .inl fk))]) [0] rfl
  have hDc := hD.sub (ws' := [(hk0, .inl (dk, 32, .inl fk))]) [0] (by decide) rfl
  have hKc := hK.sub (tys' := [(dk, .byte)]) [0] rfl
  have hFc := va_free (wc := [(hk0, .inl (dk, 32, .inl fk))]) hD hS hA [0] rfl
  refine va_calll (va_runS (As := [.ref hk0, .int (nI 6), .int (nI 4)]) (rest := []) ⟨hx, hb, hml, hown, hts⟩ (metX2_load26 l dC dI H.size hk0 32 dk fk 6 4 (by omega) (by omega) (by omega)) (va_cwS 3 hts (lw_S q149 q150 q12 q151) rfl rfl rfl (by decide +kernel) ⟨Nat.le_of_ble_eq_true rfl, Nat.le_of_ble_eq_true rfl⟩) ⟨fun a U g mk q => by obtain ⟨q0, q1, qP, qK, qD⟩ := q; exact ⟨q0, q1, qP, va_K.moved (u := U) (U := U.calling g mk a) (Vm.Alike.refl U.vm) qK, qD⟩, fun U hU hW => ⟨rfl, by rw [hU], by rw [hU]; exact hPc, va_K.moved hW.alike hKc, hDc.weaken (fun _ _ _ _ => trivial)⟩⟩ rfl rfl hl.1 rfl (lv_room (Nat.le_of_ble_eq_true rfl)) dX2_computeMac_59 ⟨Nat.le_of_ble_eq_true rfl, Nat.le_of_ble_eq_true rfl⟩) hS (fun q _ h => hFc q h) hFc (fun r_ u_ t H1 locs ht hvm hw_ hB hz1 hk1 hS => ?_)
  obtain ⟨hP1, -, -⟩ := hB
  rw [ht] at hP1
  have hP := ot_back hP hD [0] rfl hk1 hP1
  generalize H1 = H at hP hS ⊢
  obtain ⟨q2, eq2⟩ : ∃ y : Nat, y = ot_le32 fk 6 / 2 ^ 4 % 2 ^ 26 := ⟨_, rfl⟩
  have e_ : r_ = lN q2 := by rw [eq2]; exact hw_
  subst e_
  refine W.widen (k := 0) (n := 0) (Nat.le_refl _) (Nat.le_refl _) ?_
  refine lv_ldc2 (v := lN 67092735) hx hb hown (hts _ q158) dX2_computeMac_62 ?_
  refine lv_land hx hb dX2_computeMac_65 ?_
  refine ot_topl (lN (q2 &&& 67092735)) (fb_andL _ _) ?_
  refine ot_namel (fun r2 er2 => ?_)
  refine lv_lstore (lv' := [(28, .long (lN r2)), (26, .long (lN r1)), (24, .long (lN r0)), (10, .long (lN 0)), (8, .long (lN 0)), (6, .long (lN 0)), (4, .long (lN 0)), (2, .long (lN 0)), (0, .ref hk0), (1, .ref hd0)]) hx hb dX2_computeMac_66 hl (by decide) rfl (fun ls hl => ?_)
  refine lv_aload_n hx hb dX2_computeMac_68 rfl (lv_at hl 8 rfl) ?_
  refine lv_bipush (v := nI 9) hx hb dX2_computeMac_69 (by decide) ?_
  refine lv_bipush (v := nI 6) hx hb dX2_computeMac_71 (by decide) ?_
  have hPc := hP.sub (ws' := [(hk0, .inl (dk, 32, .inl fk))]) [0] rfl
  have hDc := hD.sub (ws' := [(hk0, .inl (dk, 32, .inl fk))]) [0] (by decide) rfl
  have hKc := hK.sub (tys' := [(dk, .byte)]) [0] rfl
  have hFc := va_free (wc := [(hk0, .inl (dk, 32, .inl fk))]) hD hS hA [0] rfl
  refine va_calll (va_runS (As := [.ref hk0, .int (nI 9), .int (nI 6)]) (rest := []) ⟨hx, hb, hml, hown, hts⟩ (metX2_load26 l dC dI H.size hk0 32 dk fk 9 6 (by omega) (by omega) (by omega)) (va_cwS 3 hts (lw_S q149 q150 q12 q151) rfl rfl rfl (by decide +kernel) ⟨Nat.le_of_ble_eq_true rfl, Nat.le_of_ble_eq_true rfl⟩) ⟨fun a U g mk q => by obtain ⟨q0, q1, qP, qK, qD⟩ := q; exact ⟨q0, q1, qP, va_K.moved (u := U) (U := U.calling g mk a) (Vm.Alike.refl U.vm) qK, qD⟩, fun U hU hW => ⟨rfl, by rw [hU], by rw [hU]; exact hPc, va_K.moved hW.alike hKc, hDc.weaken (fun _ _ _ _ => trivial)⟩⟩ rfl rfl hl.1 rfl (lv_room (Nat.le_of_ble_eq_true rfl)) dX2_computeMac_73 ⟨Nat.le_of_ble_eq_true rfl, Nat.le_of_ble_eq_true rfl⟩) hS (fun q _ h => hFc q h) hFc (fun r_ u_ t H1 locs ht hvm hw_ hB hz1 hk1 hS => ?_)
  obtain ⟨hP1, -, -⟩ := hB
  rw [ht] at hP1
  have hP := ot_back hP hD [0] rfl hk1 hP1
  generalize H1 = H at hP hS ⊢
  obtain ⟨q3, eq3⟩ : ∃ y : Nat, y = ot_le32 fk 9 / 2 ^ 6 % 2 ^ 26 := ⟨_, rfl⟩
  have e_ : r_ = lN q3 := by rw [eq3]; exact hw_
  subst e_
  refine W.widen (k := 0) (n := 0) (Nat.le_refl _) (Nat.le_refl _) ?_
  refine lv_ldc2 (v := lN 66076671) hx hb hown (hts _ q159) dX2_computeMac_76 ?_
  refine lv_land hx hb dX2_computeMac_79 ?_
  refine ot_topl (lN (q3 &&& 66076671)) (fb_andL _ _) ?_
  refine ot_namel (fun r3 er3 => ?_)
  refine lv_lstore (lv' := [(30, .long (lN r3)), (28, .long (lN r2)), (26, .long (lN r1)), (24, .long (lN r0)), (10, .long (lN 0)), (8, .long (lN 0)), (6, .long (lN 0)), (4, .long (lN 0)), (2, .long (lN 0)), (0, .ref hk0), (1, .ref hd0)]) hx hb dX2_computeMac_80 hl (by decide) rfl (fun ls hl => ?_)
  refine lv_aload_n hx hb dX2_computeMac_82 rfl (lv_at hl 9 rfl) ?_
  refine lv_bipush (v := nI 12) hx hb dX2_computeMac_83 (by decide) ?_
  refine lv_bipush (v := nI 8) hx hb dX2_computeMac_85 (by decide) ?_
  have hPc := hP.sub (ws' := [(hk0, .inl (dk, 32, .inl fk))]) [0] rfl
  have hDc := hD.sub (ws' := [(hk0, .inl (dk, 32, .inl fk))]) [0] (by decide) rfl
  have hKc := hK.sub (tys' := [(dk, .byte)]) [0] rfl
  have hFc := va_free (wc := [(hk0, .inl (dk, 32, .inl fk))]) hD hS hA [0] rfl
  refine va_calll (va_runS (As := [.ref hk0, .int (nI 12), .int (nI 8)]) (rest := []) ⟨hx, hb, hml, hown, hts⟩ (metX2_load26 l dC dI H.size hk0 32 dk fk 12 8 (by omega) (by omega) (by omega)) (va_cwS 3 hts (lw_S q149 q150 q12 q151) rfl rfl rfl (by decide +kernel) ⟨Nat.le_of_ble_eq_true rfl, Nat.le_of_ble_eq_true rfl⟩) ⟨fun a U g mk q => by obtain ⟨q0, q1, qP, qK, qD⟩ := q; exact ⟨q0, q1, qP, va_K.moved (u := U) (U := U.calling g mk a) (Vm.Alike.refl U.vm) qK, qD⟩, fun U hU hW => ⟨rfl, by rw [hU], by rw [hU]; exact hPc, va_K.moved hW.alike hKc, hDc.weaken (fun _ _ _ _ => trivial)⟩⟩ rfl rfl hl.1 rfl (lv_room (Nat.le_of_ble_eq_true rfl)) dX2_computeMac_87 ⟨Nat.le_of_ble_eq_true rfl, Nat.le_of_ble_eq_true rfl⟩) hS (fun q _ h => hFc q h) hFc (fun r_ u_ t H1 locs ht hvm hw_ hB hz1 hk1 hS => ?_)
  obtain ⟨hP1, -, -⟩ := hB
  rw [ht] at hP1
  have hP := ot_back hP hD [0] rfl hk1 hP1
  generalize H1 = H at hP hS ⊢
  obtain ⟨q4, eq4⟩ : ∃ y : Nat, y = ot_le32 fk 12 / 2 ^ 8 % 2 ^ 26 := ⟨_, rfl⟩
  have e_ : r_ = lN q4 := by rw [eq4]; exact hw_
  subst e_
  refine W.widen (k := 0) (n := 0) (Nat.le_refl _) (Nat.le_refl _) ?_
  refine lv_ldc2 (v := lN 1048575) hx hb hown (hts _ q160) dX2_computeMac_90 ?_
  refine lv_land hx hb dX2_computeMac_93 ?_
  refine ot_topl (lN (q4 % 2 ^ 20)) (fb_maskL _ 20) ?_
  refine ot_namel (fun r4 er4 => ?_)
  refine lv_lstore (lv' := [(32, .long (lN r4)), (30, .long (lN r3)), (28, .long (lN r2)), (26, .long (lN r1)), (24, .long (lN r0)), (10, .long (lN 0)), (8, .long (lN 0)), (6, .long (lN 0)), (4, .long (lN 0)), (2, .long (lN 0)), (0, .ref hk0), (1, .ref hd0)]) hx hb dX2_computeMac_94 hl (by decide) rfl (fun ls hl => ?_)
  refine lv_lload hx hb dX2_computeMac_96 (lv_at hl 3 rfl) ?_
  refine lv_ldc2 (v := lN 5) hx hb hown (hts _ q161) dX2_computeMac_98 ?_
  refine lv_lmul hx hb dX2_computeMac_101 ?_
  refine ot_topl (lN (r1 * 5)) (lN_mul _ _) ?_
  refine ot_namel (fun s1 es1 => ?_)
  refine lv_lstore (lv' := [(34, .long (lN s1)), (32, .long (lN r4)), (30, .long (lN r3)), (28, .long (lN r2)), (26, .long (lN r1)), (24, .long (lN r0)), (10, .long (lN 0)), (8, .long (lN 0)), (6, .long (lN 0)), (4, .long (lN 0)), (2, .long (lN 0)), (0, .ref hk0), (1, .ref hd0)]) hx hb dX2_computeMac_102 hl (by decide) rfl (fun ls hl => ?_)
  refine lv_lload hx hb dX2_computeMac_104 (lv_at hl 3 rfl) ?_
  refine lv_ldc2 (v := lN 5) hx hb hown (hts _ q161) dX2_computeMac_106 ?_
  refine lv_lmul hx hb dX2_computeMac_109 ?_
  refine ot_topl (lN (r2 * 5)) (lN_mul _ _) ?_
  refine ot_namel (fun s2 es2 => ?_)
  refine lv_lstore (lv' := [(36, .long (lN s2)), (34, .long (lN s1)), (32, .long (lN r4)), (30, .long (lN r3)), (28, .long (lN r2)), (26, .long (lN r1)), (24, .long (lN r0)), (10, .long (lN 0)), (8, .long (lN 0)), (6, .long (lN 0)), (4, .long (lN 0)), (2, .long (lN 0)), (0, .ref hk0), (1, .ref hd0)]) hx hb dX2_computeMac_110 hl (by decide) rfl (fun ls hl => ?_)
  refine lv_lload hx hb dX2_computeMac_112 (lv_at hl 3 rfl) ?_
  refine lv_ldc2 (v := lN 5) hx hb hown (hts _ q161) dX2_computeMac_114 ?_
  refine lv_lmul hx hb dX2_computeMac_117 ?_
  refine ot_topl (lN (r3 * 5)) (lN_mul _ _) ?_
  refine ot_namel (fun s3 es3 => ?_)
  refine lv_lstore (lv' := [(38, .long (lN s3)), (36, .long (lN s2)), (34, .long (lN s1)), (32, .long (lN r4)), (30, .long (lN r3)), (28, .long (lN r2)), (26, .long (lN r1)), (24, .long (lN r0)), (10, .long (lN 0)), (8, .long (lN 0)), (6, .long (lN 0)), (4, .long (lN 0)), (2, .long (lN 0)), (0, .ref hk0), (1, .ref hd0)]) hx hb dX2_computeMac_118 hl (by decide) rfl (fun ls hl => ?_)
  refine lv_lload hx hb dX2_computeMac_120 (lv_at hl 3 rfl) ?_
  refine lv_ldc2 (v := lN 5) hx hb hown (hts _ q161) dX2_computeMac_122 ?_
  refine lv_lmul hx hb dX2_computeMac_125 ?_
  refine ot_topl (lN (r4 * 5)) (lN_mul _ _) ?_
  refine ot_namel (fun s4 es4 => ?_)
  refine lv_lstore (lv' := [(40, .long (lN s4)), (38, .long (lN s3)), (36, .long (lN s2)), (34, .long (lN s1)), (32, .long (lN r4)), (30, .long (lN r3)), (28, .long (lN r2)), (26, .long (lN r1)), (24, .long (lN r0)), (10, .long (lN 0)), (8, .long (lN 0)), (6, .long (lN 0)), (4, .long (lN 0)), (2, .long (lN 0)), (0, .ref hk0), (1, .ref hd0)]) hx hb dX2_computeMac_126 hl (by decide) rfl (fun ls hl => ?_)
  have hr_ : r0 + r1 * 67108864 + r2 * 4503599627370496 + r3 * 302231454903657293676544 + r4 * 20282409603651670423947251286016 = ot_r fk := by rw [er0, er1, er2, er3, er4, eq0, eq1, eq2, eq3, eq4]; exact ot_limbs_r fk
  have br0 : r0 < 67108864 := by rw [er0]; omega
  have br1 : r1 < 67108864 := by rw [er1, ot_mask_r1]; omega
  have br2 : r2 < 67108864 := by rw [er2, ot_mask_r2]; omega
  have br3 : r3 < 67108864 := by rw [er3, ot_mask_r3]; omega
  have br4 : r4 < 67108864 := by rw [er4]; omega
  refine lv_bipush (v := nI 17) hx hb dX2_computeMac_128 (by decide) ?_
  refine va_newa (atype := .byte) (ty := .byte) (N' := 17) (a0 := (17, .inl (fun _ => 0))) hx hb (hts _ q40) rfl hK hP hD hS hA (fun _ => rfl) (by decide) (by decide) (by decide) (Nat.le_of_ble_eq_true rfl) (Nat.le_of_ble_eq_true rfl) dX2_computeMac_130 (fun qb db H hK hP hD hS => ?_)
  have hK : va_K (dC, dI) vwCl [(dk, .byte), (dd, .byte), (db, .byte)] s := hK
  have hP : va_P (dC, dI) vwCl [(hk0, .inl (dk, 32, .inl fk)), (hd0, .inl (dd, nd, .inl fd)), (qb, .inl (db, 17, .inl (fun _ => 0)))] H := hP
  have hD : va_D A [(hk0, .inl (dk, 32, .inl fk)), (hd0, .inl (dd, nd, .inl fd)), (qb, .inl (db, 17, .inl (fun _ => 0)))] := hD
  refine W.widen (k := 1) (n := 17) (Nat.le_refl _) (Nat.le_refl _) ?_
  refine lv_astore (lv' := [(42, .ref qb), (40, .long (lN s4)), (38, .long (lN s3)), (36, .long (lN s2)), (34, .long (lN s1)), (32, .long (lN r4)), (30, .long (lN r3)), (28, .long (lN r2)), (26, .long (lN r1)), (24, .long (lN r0)), (10, .long (lN 0)), (8, .long (lN 0)), (6, .long (lN 0)), (4, .long (lN 0)), (2, .long (lN 0)), (0, .ref hk0), (1, .ref hd0)]) hx hb dX2_computeMac_132 hl (by decide) rfl (fun ls hl => ?_)
  refine lv_iconst (v := nI 0) hx hb dX2_computeMac_134 (by decide) ?_
  refine lv_istore (lv' := [(43, .int (nI 0)), (42, .ref qb), (40, .long (lN s4)), (38, .long (lN s3)), (36, .long (lN s2)), (34, .long (lN s1)), (32, .long (lN r4)), (30, .long (lN r3)), (28, .long (lN r2)), (26, .long (lN r1)), (24, .long (lN r0)), (10, .long (lN 0)), (8, .long (lN 0)), (6, .long (lN 0)), (4, .long (lN 0)), (2, .long (lN 0)), (0, .ref hk0), (1, .ref hd0)]) hx hb dX2_computeMac_135 hl (by decide) rfl (fun ls hl => ?_)
  refine lpX2_mac hx hb hown hts hnd hby br0 br1 br2 br3 br4 es1 es2 es3 es4 hr_ hA hml (Nat.le_of_ble_eq_true rfl) (Nat.le_of_ble_eq_true rfl) (Nat.le_of_ble_eq_true rfl) (Nat.le_of_ble_eq_true rfl) hK (fun i a0 a1 a2 a3 a4 Fb hi_ b0_ b1_ b2_ b3_ b4_ hv_ H locs hP hD hS ls hl => ?_) ((nd + 15) / 16) 0 0 0 0 0 0 _ (Nat.add_zero _) (by decide) (by decide) (by decide) (by decide) (by decide) rfl _ _ hP hD hS ls (lv_sub hl [16, 17, 15, 14, 13, 12, 11, 10, 9, 8, 7, 6, 5, 4, 3, 2, 1, 0] rfl)
  rw [hi_] at hv_
  refine lv_lload hx hb dX2_computeMac_511 (lv_at hl 3 rfl) ?_
  refine lv_bipush (v := nI 26) hx hb dX2_computeMac_513 (by decide) ?_
  refine lv_lshr hx hb dX2_computeMac_515 rfl ?_
  refine ot_topl (lN (a1 / 2 ^ 26)) (ot_shrL 26 (by omega) (by omega)) ?_
  refine ot_namel (fun c1 ec1 => ?_)
  refine lv_lstore (lv' := [(22, .long (lN c1)), (0, .ref hk0), (1, .ref hd0), (2, .long (lN a0)), (4, .long (lN a1)), (6, .long (lN a2)), (8, .long (lN a3)), (10, .long (lN a4)), (24, .long (lN r0)), (26, .long (lN r1)), (28, .long (lN r2)), (30, .long (lN r3)), (32, .long (lN r4)), (34, .long (lN s1)), (36, .long (lN s2)), (38, .long (lN s3)), (40, .long (lN s4)), (42, .ref qb), (43, .int (nI (16 * i)))]) hx hb dX2_computeMac_516 hl (by decide) rfl (fun ls hl => ?_)
  refine lv_lload hx hb dX2_computeMac_518 (lv_at hl 4 rfl) ?_
  refine lv_ldc2 (v := lN 67108863) hx hb hown (hts _ q156) dX2_computeMac_520 ?_
  refine lv_land hx hb dX2_computeMac_523 ?_
  refine ot_topl (lN (a1 % 2 ^ 26)) (fb_maskL _ 26) ?_
  refine ot_namel (fun k1 ek1 => ?_)
  refine lv_lstore (lv' := [(4, .long (lN k1)), (22, .long (lN c1)), (0, .ref hk0), (1, .ref hd0), (2, .long (lN a0)), (6, .long (lN a2)), (8, .long (lN a3)), (10, .long (lN a4)), (24, .long (lN r0)), (26, .long (lN r1)), (28, .long (lN r2)), (30, .long (lN r3)), (32, .long (lN r4)), (34, .long (lN s1)), (36, .long (lN s2)), (38, .long (lN s3)), (40, .long (lN s4)), (42, .ref qb), (43, .int (nI (16 * i)))]) hx hb dX2_computeMac_524 hl (by decide) rfl (fun ls hl => ?_)
  refine lv_lload hx hb dX2_computeMac_526 (lv_at hl 5 rfl) ?_
  refine lv_lload hx hb dX2_computeMac_528 (lv_at hl 1 rfl) ?_
  refine lv_ladd hx hb dX2_computeMac_530 ?_
  refine ot_topl (lN (a2 + c1)) (lN_add _ _) ?_
  refine ot_namel (fun y2 ey2 => ?_)
  refine lv_lstore (lv' := [(6, .long (lN y2)), (4, .long (lN k1)), (22, .long (lN c1)), (0, .ref hk0), (1, .ref hd0), (2, .long (lN a0)), (8, .long (lN a3)), (10, .long (lN a4)), (24, .long (lN r0)), (26, .long (lN r1)), (28, .long (lN r2)), (30, .long (lN r3)), (32, .long (lN r4)), (34, .long (lN s1)), (36, .long (lN s2)), (38, .long (lN s3)), (40, .long (lN s4)), (42, .ref qb), (43, .int (nI (16 * i)))]) hx hb dX2_computeMac_531 hl (by decide) rfl (fun ls hl => ?_)
  refine lv_lload hx hb dX2_computeMac_533 (lv_at hl 0 rfl) ?_
  refine lv_bipush (v := nI 26) hx hb dX2_computeMac_535 (by decide) ?_
  refine lv_lshr hx hb dX2_computeMac_537 rfl ?_
  refine ot_topl (lN (y2 / 2 ^ 26)) (ot_shrL 26 (by omega) (by omega)) ?_
  refine ot_namel (fun c2 ec2 => ?_)
  refine lv_lstore (lv' := [(22, .long (lN c2)), (6, .long (lN y2)), (4, .long (lN k1)), (0, .ref hk0), (1, .ref hd0), (2, .long (lN a0)), (8, .long (lN a3)), (10, .long (lN a4)), (24, .long (lN r0)), (26, .long (lN r1)), (28, .long (lN r2)), (30, .long (lN r3)), (32, .long (lN r4)), (34, .long (lN s1)), (36, .long (lN s2)), (38, .long (lN s3)), (40, .long (lN s4)), (42, .ref qb), (43, .int (nI (16 * i)))]) hx hb dX2_computeMac_538 hl (by decide) rfl (fun ls hl => ?_)
  refine lv_lload hx hb dX2_computeMac_540 (lv_at hl 1 rfl) ?_
  refine lv_ldc2 (v := lN 67108863) hx hb hown (hts _ q156) dX2_computeMac_542 ?_
  refine lv_land hx hb dX2_computeMac_545 ?_
  refine ot_topl (lN (y2 % 2 ^ 26)) (fb_maskL _ 26) ?_
  refine ot_namel (fun k2 ek2 => ?_)
  refine lv_lstore (lv' := [(6, .long (lN k2)), (22, .long (lN c2)), (4, .long (lN k1)), (0, .ref hk0), (1, .ref hd0), (2, .long (lN a0)), (8, .long (lN a3)), (10, .long (lN a4)), (24, .long (lN r0)), (26, .long (lN r1)), (28, .long (lN r2)), (30, .long (lN r3)), (32, .long (lN r4)), (34, .long (lN s1)), (36, .long (lN s2)), (38, .long (lN s3)), (40, .long (lN s4)), (42, .ref qb), (43, .int (nI (16 * i)))]) hx hb dX2_computeMac_546 hl (by decide) rfl (fun ls hl => ?_)
  refine lv_lload hx hb dX2_computeMac_548 (lv_at hl 6 rfl) ?_
  refine lv_lload hx hb dX2_computeMac_550 (lv_at hl 1 rfl) ?_
  refine lv_ladd hx hb dX2_computeMac_552 ?_
  refine ot_topl (lN (a3 + c2)) (lN_add _ _) ?_
  refine ot_namel (fun y3 ey3 => ?_)
  refine lv_lstore (lv' := [(8, .long (lN y3)), (6, .long (lN k2)), (22, .long (lN c2)), (4, .long (lN k1)), (0, .ref hk0), (1, .ref hd0), (2, .long (lN a0)), (10, .long (lN a4)), (24, .long (lN r0)), (26, .long (lN r1)), (28, .long (lN r2)), (30, .long (lN r3)), (32, .long (lN r4)), (34, .long (lN s1)), (36, .long (lN s2)), (38, .long (lN s3)), (40, .long (lN s4)), (42, .ref qb), (43, .int (nI (16 * i)))]) hx hb dX2_computeMac_553 hl (by decide) rfl (fun ls hl => ?_)
  refine lv_lload hx hb dX2_computeMac_555 (lv_at hl 0 rfl) ?_
  refine lv_bipush (v := nI 26) hx hb dX2_computeMac_557 (by decide) ?_
  refine lv_lshr hx hb dX2_computeMac_559 rfl ?_
  refine ot_topl (lN (y3 / 2 ^ 26)) (ot_shrL 26 (by omega) (by omega)) ?_
  refine ot_namel (fun c3 ec3 => ?_)
  refine lv_lstore (lv' := [(22, .long (lN c3)), (8, .long (lN y3)), (6, .long (lN k2)), (4, .long (lN k1)), (0, .ref hk0), (1, .ref hd0), (2, .long (lN a0)), (10, .long (lN a4)), (24, .long (lN r0)), (26, .long (lN r1)), (28, .long (lN r2)), (30, .long (lN r3)), (32, .long (lN r4)), (34, .long (lN s1)), (36, .long (lN s2)), (38, .long (lN s3)), (40, .long (lN s4)), (42, .ref qb), (43, .int (nI (16 * i)))]) hx hb dX2_computeMac_560 hl (by decide) rfl (fun ls hl => ?_)
  refine lv_lload hx hb dX2_computeMac_562 (lv_at hl 1 rfl) ?_
  refine lv_ldc2 (v := lN 67108863) hx hb hown (hts _ q156) dX2_computeMac_564 ?_
  refine lv_land hx hb dX2_computeMac_567 ?_
  refine ot_topl (lN (y3 % 2 ^ 26)) (fb_maskL _ 26) ?_
  refine ot_namel (fun k3 ek3 => ?_)
  refine lv_lstore (lv' := [(8, .long (lN k3)), (22, .long (lN c3)), (6, .long (lN k2)), (4, .long (lN k1)), (0, .ref hk0), (1, .ref hd0), (2, .long (lN a0)), (10, .long (lN a4)), (24, .long (lN r0)), (26, .long (lN r1)), (28, .long (lN r2)), (30, .long (lN r3)), (32, .long (lN r4)), (34, .long (lN s1)), (36, .long (lN s2)), (38, .long (lN s3)), (40, .long (lN s4)), (42, .ref qb), (43, .int (nI (16 * i)))]) hx hb dX2_computeMac_568 hl (by decide) rfl (fun ls hl => ?_)
  refine lv_lload hx hb dX2_computeMac_570 (lv_at hl 7 rfl) ?_
  refine lv_lload hx hb dX2_computeMac_572 (lv_at hl 1 rfl) ?_
  refine lv_ladd hx hb dX2_computeMac_574 ?_
  refine ot_topl (lN (a4 + c3)) (lN_add _ _) ?_
  refine ot_namel (fun y4 ey4 => ?_)
  refine lv_lstore (lv' := [(10, .long (lN y4)), (8, .long (lN k3)), (22, .long (lN c3)), (6, .long (lN k2)), (4, .long (lN k1)), (0, .ref hk0), (1, .ref hd0), (2, .long (lN a0)), (24, .long (lN r0)), (26, .long (lN r1)), (28, .long (lN r2)), (30, .long (lN r3)), (32, .long (lN r4)), (34, .long (lN s1)), (36, .long (lN s2)), (38, .long (lN s3)), (40, .long (lN s4)), (42, .ref qb), (43, .int (nI (16 * i)))]) hx hb dX2_computeMac_575 hl (by decide) rfl (fun ls hl => ?_)
  refine lv_lload hx hb dX2_computeMac_577 (lv_at hl 0 rfl) ?_
  refine lv_bipush (v := nI 26) hx hb dX2_computeMac_579 (by decide) ?_
  refine lv_lshr hx hb dX2_computeMac_581 rfl ?_
  refine ot_topl (lN (y4 / 2 ^ 26)) (ot_shrL 26 (by omega) (by omega)) ?_
  refine ot_namel (fun c4 ec4 => ?_)
  refine lv_lstore (lv' := [(22, .long (lN c4)), (10, .long (lN y4)), (8, .long (lN k3)), (6, .long (lN k2)), (4, .long (lN k1)), (0, .ref hk0), (1, .ref hd0), (2, .long (lN a0)), (24, .long (lN r0)), (26, .long (lN r1)), (28, .long (lN r2)), (30, .long (lN r3)), (32, .long (lN r4)), (34, .long (lN s1)), (36, .long (lN s2)), (38, .long (lN s3)), (40, .long (lN s4)), (42, .ref qb), (43, .int (nI (16 * i)))]) hx hb dX2_computeMac_582 hl (by decide) rfl (fun ls hl => ?_)
  refine lv_lload hx hb dX2_computeMac_584 (lv_at hl 1 rfl) ?_
  refine lv_ldc2 (v := lN 67108863) hx hb hown (hts _ q156) dX2_computeMac_586 ?_
  refine lv_land hx hb dX2_computeMac_589 ?_
  refine ot_topl (lN (y4 % 2 ^ 26)) (fb_maskL _ 26) ?_
  refine ot_namel (fun k4 ek4 => ?_)
  refine lv_lstore (lv' := [(10, .long (lN k4)), (22, .long (lN c4)), (8, .long (lN k3)), (6, .long (lN k2)), (4, .long (lN k1)), (0, .ref hk0), (1, .ref hd0), (2, .long (lN a0)), (24, .long (lN r0)), (26, .long (lN r1)), (28, .long (lN r2)), (30, .long (lN r3)), (32, .long (lN r4)), (34, .long (lN s1)), (36, .long (lN s2)), (38, .long (lN s3)), (40, .long (lN s4)), (42, .ref qb), (43, .int (nI (16 * i)))]) hx hb dX2_computeMac_590 hl (by decide) rfl (fun ls hl => ?_)
  refine lv_lload_n hx hb dX2_computeMac_592 rfl (lv_at hl 7 rfl) ?_
  refine lv_lload hx hb dX2_computeMac_593 (lv_at hl 1 rfl) ?_
  refine lv_ldc2 (v := lN 5) hx hb hown (hts _ q161) dX2_computeMac_595 ?_
  refine lv_lmul hx hb dX2_computeMac_598 ?_
  refine ot_topl (lN (c4 * 5)) (lN_mul _ _) ?_
  refine lv_ladd hx hb dX2_computeMac_599 ?_
  refine ot_topl (lN (a0 + (c4 * 5))) (lN_add _ _) ?_
  refine ot_namel (fun z0 ez0 => ?_)
  refine lv_lstore_n (lv' := [(2, .long (lN z0)), (10, .long (lN k4)), (22, .long (lN c4)), (8, .long (lN k3)), (6, .long (lN k2)), (4, .long (lN k1)), (0, .ref hk0), (1, .ref hd0), (24, .long (lN r0)), (26, .long (lN r1)), (28, .long (lN r2)), (30, .long (lN r3)), (32, .long (lN r4)), (34, .long (lN s1)), (36, .long (lN s2)), (38, .long (lN s3)), (40, .long (lN s4)), (42, .ref qb), (43, .int (nI (16 * i)))]) hx hb dX2_computeMac_600 rfl hl (by decide) rfl (fun ls hl => ?_)
  refine lv_lload_n hx hb dX2_computeMac_601 rfl (lv_at hl 0 rfl) ?_
  refine lv_bipush (v := nI 26) hx hb dX2_computeMac_602 (by decide) ?_
  refine lv_lshr hx hb dX2_computeMac_604 rfl ?_
  refine ot_topl (lN (z0 / 2 ^ 26)) (ot_shrL 26 (by omega) (by omega)) ?_
  refine ot_namel (fun c5 ec5 => ?_)
  refine lv_lstore (lv' := [(22, .long (lN c5)), (2, .long (lN z0)), (10, .long (lN k4)), (8, .long (lN k3)), (6, .long (lN k2)), (4, .long (lN k1)), (0, .ref hk0), (1, .ref hd0), (24, .long (lN r0)), (26, .long (lN r1)), (28, .long (lN r2)), (30, .long (lN r3)), (32, .long (lN r4)), (34, .long (lN s1)), (36, .long (lN s2)), (38, .long (lN s3)), (40, .long (lN s4)), (42, .ref qb), (43, .int (nI (16 * i)))]) hx hb dX2_computeMac_605 hl (by decide) rfl (fun ls hl => ?_)
  refine lv_lload_n hx hb dX2_computeMac_607 rfl (lv_at hl 1 rfl) ?_
  refine lv_ldc2 (v := lN 67108863) hx hb hown (hts _ q156) dX2_computeMac_608 ?_
  refine lv_land hx hb dX2_computeMac_611 ?_
  refine ot_topl (lN (z0 % 2 ^ 26)) (fb_maskL _ 26) ?_
  refine ot_namel (fun k0 ek0 => ?_)
  refine lv_lstore_n (lv' := [(2, .long (lN k0)), (22, .long (lN c5)), (10, .long (lN k4)), (8, .long (lN k3)), (6, .long (lN k2)), (4, .long (lN k1)), (0, .ref hk0), (1, .ref hd0), (24, .long (lN r0)), (26, .long (lN r1)), (28, .long (lN r2)), (30, .long (lN r3)), (32, .long (lN r4)), (34, .long (lN s1)), (36, .long (lN s2)), (38, .long (lN s3)), (40, .long (lN s4)), (42, .ref qb), (43, .int (nI (16 * i)))]) hx hb dX2_computeMac_612 rfl hl (by decide) rfl (fun ls hl => ?_)
  refine lv_lload hx hb dX2_computeMac_613 (lv_at hl 5 rfl) ?_
  refine lv_lload hx hb dX2_computeMac_615 (lv_at hl 1 rfl) ?_
  refine lv_ladd hx hb dX2_computeMac_617 ?_
  refine ot_topl (lN (k1 + c5)) (lN_add _ _) ?_
  refine ot_namel (fun z1 ez1 => ?_)
  refine lv_lstore (lv' := [(4, .long (lN z1)), (2, .long (lN k0)), (22, .long (lN c5)), (10, .long (lN k4)), (8, .long (lN k3)), (6, .long (lN k2)), (0, .ref hk0), (1, .ref hd0), (24, .long (lN r0)), (26, .long (lN r1)), (28, .long (lN r2)), (30, .long (lN r3)), (32, .long (lN r4)), (34, .long (lN s1)), (36, .long (lN s2)), (38, .long (lN s3)), (40, .long (lN s4)), (42, .ref qb), (43, .int (nI (16 * i)))]) hx hb dX2_computeMac_618 hl (by decide) rfl (fun ls hl => ?_)
  obtain ⟨t0_, t1_, t2_, t3_, t4_, t5_⟩ := ot_fin1 b0_ b1_ b2_ b3_ b4_ ec1 ek1 ey2 ec2 ek2 ey3 ec3 ek3 ey4 ec4 ek4 ez0 ec5 ek0 ez1
  rw [hv_] at t0_
  refine lv_lload_n hx hb dX2_computeMac_620 rfl (lv_at hl 1 rfl) ?_
  refine lv_ldc2 (v := lN 5) hx hb hown (hts _ q161) dX2_computeMac_621 ?_
  refine lv_ladd hx hb dX2_computeMac_624 ?_
  refine ot_topl (lN (k0 + 5)) (lN_add _ _) ?_
  refine ot_namel (fun w0 ew0 => ?_)
  refine lv_lstore (lv' := [(43, .long (lN w0)), (4, .long (lN z1)), (2, .long (lN k0)), (22, .long (lN c5)), (10, .long (lN k4)), (8, .long (lN k3)), (6, .long (lN k2)), (0, .ref hk0), (1, .ref hd0), (24, .long (lN r0)), (26, .long (lN r1)), (28, .long (lN r2)), (30, .long (lN r3)), (32, .long (lN r4)), (34, .long (lN s1)), (36, .long (lN s2)), (38, .long (lN s3)), (40, .long (lN s4)), (42, .ref qb)]) hx hb dX2_computeMac_625 hl (by decide) rfl (fun ls hl => ?_)
  refine lv_lload hx hb dX2_computeMac_627 (lv_at hl 0 rfl) ?_
  refine lv_bipush (v := nI 26) hx hb dX2_computeMac_629 (by decide) ?_
  refine lv_lshr hx hb dX2_computeMac_631 rfl ?_
  refine ot_topl (lN (w0 / 2 ^ 26)) (ot_shrL 26 (by omega) (by omega)) ?_
  refine ot_namel (fun p0 ep0 => ?_)
  refine lv_lstore (lv' := [(22, .long (lN p0)), (43, .long (lN w0)), (4, .long (lN z1)), (2, .long (lN k0)), (10, .long (lN k4)), (8, .long (lN k3)), (6, .long (lN k2)), (0, .ref hk0), (1, .ref hd0), (24, .long (lN r0)), (26, .long (lN r1)), (28, .long (lN r2)), (30, .long (lN r3)), (32, .long (lN r4)), (34, .long (lN s1)), (36, .long (lN s2)), (38, .long (lN s3)), (40, .long (lN s4)), (42, .ref qb)]) hx hb dX2_computeMac_632 hl (by decide) rfl (fun ls hl => ?_)
  refine lv_lload hx hb dX2_computeMac_634 (lv_at hl 1 rfl) ?_
  refine lv_ldc2 (v := lN 67108863) hx hb hown (hts _ q156) dX2_computeMac_636 ?_
  refine lv_land hx hb dX2_computeMac_639 ?_
  refine ot_topl (lN (w0 % 2 ^ 26)) (fb_maskL _ 26) ?_
  refine ot_namel (fun u0 eu0 => ?_)
  refine lv_lstore (lv' := [(43, .long (lN u0)), (22, .long (lN p0)), (4, .long (lN z1)), (2, .long (lN k0)), (10, .long (lN k4)), (8, .long (lN k3)), (6, .long (lN k2)), (0, .ref hk0), (1, .ref hd0), (24, .long (lN r0)), (26, .long (lN r1)), (28, .long (lN r2)), (30, .long (lN r3)), (32, .long (lN r4)), (34, .long (lN s1)), (36, .long (lN s2)), (38, .long (lN s3)), (40, .long (lN s4)), (42, .ref qb)]) hx hb dX2_computeMac_640 hl (by decide) rfl (fun ls hl => ?_)
  refine lv_lload hx hb dX2_computeMac_642 (lv_at hl 2 rfl) ?_
  refine lv_lload hx hb dX2_computeMac_644 (lv_at hl 1 rfl) ?_
  refine lv_ladd hx hb dX2_computeMac_646 ?_
  refine ot_topl (lN (z1 + p0)) (lN_add _ _) ?_
  refine ot_namel (fun w1 ew1 => ?_)
  refine lv_lstore (lv' := [(45, .long (lN w1)), (43, .long (lN u0)), (22, .long (lN p0)), (4, .long (lN z1)), (2, .long (lN k0)), (10, .long (lN k4)), (8, .long (lN k3)), (6, .long (lN k2)), (0, .ref hk0), (1, .ref hd0), (24, .long (lN r0)), (26, .long (lN r1)), (28, .long (lN r2)), (30, .long (lN r3)), (32, .long (lN r4)), (34, .long (lN s1)), (36, .long (lN s2)), (38, .long (lN s3)), (40, .long (lN s4)), (42, .ref qb)]) hx hb dX2_computeMac_647 hl (by decide) rfl (fun ls hl => ?_)
  refine lv_lload hx hb dX2_computeMac_649 (lv_at hl 0 rfl) ?_
  refine lv_bipush (v := nI 26) hx hb dX2_computeMac_651 (by decide) ?_
  refine lv_lshr hx hb dX2_computeMac_653 rfl ?_
  refine ot_topl (lN (w1 / 2 ^ 26)) (ot_shrL 26 (by omega) (by omega)) ?_
  refine ot_namel (fun p1 ep1 => ?_)
  refine lv_lstore (lv' := [(22, .long (lN p1)), (45, .long (lN w1)), (43, .long (lN u0)), (4, .long (lN z1)), (2, .long (lN k0)), (10, .long (lN k4)), (8, .long (lN k3)), (6, .long (lN k2)), (0, .ref hk0), (1, .ref hd0), (24, .long (lN r0)), (26, .long (lN r1)), (28, .long (lN r2)), (30, .long (lN r3)), (32, .long (lN r4)), (34, .long (lN s1)), (36, .long (lN s2)), (38, .long (lN s3)), (40, .long (lN s4)), (42, .ref qb)]) hx hb dX2_computeMac_654 hl (by decide) rfl (fun ls hl => ?_)
  refine lv_lload hx hb dX2_computeMac_656 (lv_at hl 1 rfl) ?_
  refine lv_ldc2 (v := lN 67108863) hx hb hown (hts _ q156) dX2_computeMac_658 ?_
  refine lv_land hx hb dX2_computeMac_661 ?_
  refine ot_topl (lN (w1 % 2 ^ 26)) (fb_maskL _ 26) ?_
  refine ot_namel (fun u1 eu1 => ?_)
  refine lv_lstore (lv' := [(45, .long (lN u1)), (22, .long (lN p1)), (43, .long (lN u0)), (4, .long (lN z1)), (2, .long (lN k0)), (10, .long (lN k4)), (8, .long (lN k3)), (6, .long (lN k2)), (0, .ref hk0), (1, .ref hd0), (24, .long (lN r0)), (26, .long (lN r1)), (28, .long (lN r2)), (30, .long (lN r3)), (32, .long (lN r4)), (34, .long (lN s1)), (36, .long (lN s2)), (38, .long (lN s3)), (40, .long (lN s4)), (42, .ref qb)]) hx hb dX2_computeMac_662 hl (by decide) rfl (fun ls hl => ?_)
  refine lv_lload hx hb dX2_computeMac_664 (lv_at hl 7 rfl) ?_
  refine lv_lload hx hb dX2_computeMac_666 (lv_at hl 1 rfl) ?_
  refine lv_ladd hx hb dX2_computeMac_668 ?_
  refine ot_topl (lN (k2 + p1)) (lN_add _ _) ?_
  refine ot_namel (fun w2 ew2 => ?_)
  refine lv_lstore (lv' := [(47, .long (lN w2)), (45, .long (lN u1)), (22, .long (lN p1)), (43, .long (lN u0)), (4, .long (lN z1)), (2, .long (lN k0)), (10, .long (lN k4)), (8, .long (lN k3)), (6, .long (lN k2)), (0, .ref hk0), (1, .ref hd0), (24, .long (lN r0)), (26, .long (lN r1)), (28, .long (lN r2)), (30, .long (lN r3)), (32, .long (lN r4)), (34, .long (lN s1)), (36, .long (lN s2)), (38, .long (lN s3)), (40, .long (lN s4)), (42, .ref qb)]) hx hb dX2_computeMac_669 hl (by decide) rfl (fun ls hl => ?_)
  refine lv_lload hx hb dX2_computeMac_671 (lv_at hl 0 rfl) ?_
  refine lv_bipush (v := nI 26) hx hb dX2_computeMac_673 (by decide) ?_
  refine lv_lshr hx hb dX2_computeMac_675 rfl ?_
  refine ot_topl (lN (w2 / 2 ^ 26)) (ot_shrL 26 (by omega) (by omega)) ?_
  refine ot_namel (fun p2 ep2 => ?_)
  refine lv_lstore (lv' := [(22, .long (lN p2)), (47, .long (lN w2)), (45, .long (lN u1)), (43, .long (lN u0)), (4, .long (lN z1)), (2, .long (lN k0)), (10, .long (lN k4)), (8, .long (lN k3)), (6, .long (lN k2)), (0, .ref hk0), (1, .ref hd0), (24, .long (lN r0)), (26, .long (lN r1)), (28, .long (lN r2)), (30, .long (lN r3)), (32, .long (lN r4)), (34, .long (lN s1)), (36, .long (lN s2)), (38, .long (lN s3)), (40, .long (lN s4)), (42, .ref qb)]) hx hb dX2_computeMac_676 hl (by decide) rfl (fun ls hl => ?_)
  refine lv_lload hx hb dX2_computeMac_678 (lv_at hl 1 rfl) ?_
  refine lv_ldc2 (v := lN 67108863) hx hb hown (hts _ q156) dX2_computeMac_680 ?_
  refine lv_land hx hb dX2_computeMac_683 ?_
  refine ot_topl (lN (w2 % 2 ^ 26)) (fb_maskL _ 26) ?_
  refine ot_namel (fun u2 eu2 => ?_)
  refine lv_lstore (lv' := [(47, .long (lN u2)), (22, .long (lN p2)), (45, .long (lN u1)), (43, .long (lN u0)), (4, .long (lN z1)), (2, .long (lN k0)), (10, .long (lN k4)), (8, .long (lN k3)), (6, .long (lN k2)), (0, .ref hk0), (1, .ref hd0), (24, .long (lN r0)), (26, .long (lN r1)), (28, .long (lN r2)), (30, .long (lN r3)), (32, .long (lN r4)), (34, .long (lN s1)), (36, .long (lN s2)), (38, .long (lN s3)), (40, .long (lN s4)), (42, .ref qb)]) hx hb dX2_computeMac_684 hl (by decide) rfl (fun ls hl => ?_)
  refine lv_lload hx hb dX2_computeMac_686 (lv_at hl 7 rfl) ?_
  refine lv_lload hx hb dX2_computeMac_688 (lv_at hl 1 rfl) ?_
  refine lv_ladd hx hb dX2_computeMac_690 ?_
  refine ot_topl (lN (k3 + p2)) (lN_add _ _) ?_
  refine ot_namel (fun w3 ew3 => ?_)
  refine lv_lstore (lv' := [(49, .long (lN w3)), (47, .long (lN u2)), (22, .long (lN p2)), (45, .long (lN u1)), (43, .long (lN u0)), (4, .long (lN z1)), (2, .long (lN k0)), (10, .long (lN k4)), (8, .long (lN k3)), (6, .long (lN k2)), (0, .ref hk0), (1, .ref hd0), (24, .long (lN r0)), (26, .long (lN r1)), (28, .long (lN r2)), (30, .long (lN r3)), (32, .long (lN r4)), (34, .long (lN s1)), (36, .long (lN s2)), (38, .long (lN s3)), (40, .long (lN s4)), (42, .ref qb)]) hx hb dX2_computeMac_691 hl (by decide) rfl (fun ls hl => ?_)
  refine lv_lload hx hb dX2_computeMac_693 (lv_at hl 0 rfl) ?_
  refine lv_bipush (v := nI 26) hx hb dX2_computeMac_695 (by decide) ?_
  refine lv_lshr hx hb dX2_computeMac_697 rfl ?_
  refine ot_topl (lN (w3 / 2 ^ 26)) (ot_shrL 26 (by omega) (by omega)) ?_
  refine ot_namel (fun p3 ep3 => ?_)
  refine lv_lstore (lv' := [(22, .long (lN p3)), (49, .long (lN w3)), (47, .long (lN u2)), (45, .long (lN u1)), (43, .long (lN u0)), (4, .long (lN z1)), (2, .long (lN k0)), (10, .long (lN k4)), (8, .long (lN k3)), (6, .long (lN k2)), (0, .ref hk0), (1, .ref hd0), (24, .long (lN r0)), (26, .long (lN r1)), (28, .long (lN r2)), (30, .long (lN r3)), (32, .long (lN r4)), (34, .long (lN s1)), (36, .long (lN s2)), (38, .long (lN s3)), (40, .long (lN s4)), (42, .ref qb)]) hx hb dX2_computeMac_698 hl (by decide) rfl (fun ls hl => ?_)
  refine lv_lload hx hb dX2_computeMac_700 (lv_at hl 1 rfl) ?_
  refine lv_ldc2 (v := lN 67108863) hx hb hown (hts _ q156) dX2_computeMac_702 ?_
  refine lv_land hx hb dX2_computeMac_705 ?_
  refine ot_topl (lN (w3 % 2 ^ 26)) (fb_maskL _ 26) ?_
  refine ot_namel (fun u3 eu3 => ?_)
  refine lv_lstore (lv' := [(49, .long (lN u3)), (22, .long (lN p3)), (47, .long (lN u2)), (45, .long (lN u1)), (43, .long (lN u0)), (4, .long (lN z1)), (2, .long (lN k0)), (10, .long (lN k4)), (8, .long (lN k3)), (6, .long (lN k2)), (0, .ref hk0), (1, .ref hd0), (24, .long (lN r0)), (26, .long (lN r1)), (28, .long (lN r2)), (30, .long (lN r3)), (32, .long (lN r4)), (34, .long (lN s1)), (36, .long (lN s2)), (38, .long (lN s3)), (40, .long (lN s4)), (42, .ref qb)]) hx hb dX2_computeMac_706 hl (by decide) rfl (fun ls hl => ?_)
  refine lv_lload hx hb dX2_computeMac_708 (lv_at hl 7 rfl) ?_
  refine lv_lload hx hb dX2_computeMac_710 (lv_at hl 1 rfl) ?_
  refine lv_ladd hx hb dX2_computeMac_712 ?_
  refine ot_topl (lN (k4 + p3)) (lN_add _ _) ?_
  refine ot_namel (fun tt ett => ?_)
  have ltt : tt < 134217728 := by omega
  refine lv_ldc2 (v := lN 67108864) hx hb hown (hts _ q175) dX2_computeMac_713 ?_
  refine lv_lsub hx hb dX2_computeMac_716 ?_
  refine lv_topl (fun G4 eG4 => ?_)
  refine lv_lstore (lv' := [(51, .long G4), (49, .long (lN u3)), (22, .long (lN p3)), (47, .long (lN u2)), (45, .long (lN u1)), (43, .long (lN u0)), (4, .long (lN z1)), (2, .long (lN k0)), (10, .long (lN k4)), (8, .long (lN k3)), (6, .long (lN k2)), (0, .ref hk0), (1, .ref hd0), (24, .long (lN r0)), (26, .long (lN r1)), (28, .long (lN r2)), (30, .long (lN r3)), (32, .long (lN r4)), (34, .long (lN s1)), (36, .long (lN s2)), (38, .long (lN s3)), (40, .long (lN s4)), (42, .ref qb)]) hx hb dX2_computeMac_717 hl (by decide) rfl (fun ls hl => ?_)
  refine lv_lload hx hb dX2_computeMac_719 (lv_at hl 0 rfl) ?_
  refine lv_bipush (v := nI 63) hx hb dX2_computeMac_721 (by decide) ?_
  refine lv_lshr hx hb dX2_computeMac_723 rfl ?_
  refine lv_topl (fun MM eMM => ?_)
  refine lv_lstore (lv' := [(53, .long MM), (51, .long G4), (49, .long (lN u3)), (22, .long (lN p3)), (47, .long (lN u2)), (45, .long (lN u1)), (43, .long (lN u0)), (4, .long (lN z1)), (2, .long (lN k0)), (10, .long (lN k4)), (8, .long (lN k3)), (6, .long (lN k2)), (0, .ref hk0), (1, .ref hd0), (24, .long (lN r0)), (26, .long (lN r1)), (28, .long (lN r2)), (30, .long (lN r3)), (32, .long (lN r4)), (34, .long (lN s1)), (36, .long (lN s2)), (38, .long (lN s3)), (40, .long (lN s4)), (42, .ref qb)]) hx hb dX2_computeMac_724 hl (by decide) rfl (fun ls hl => ?_)
  have hMM : MM = if tt < 67108864 then -1 else 0 := by rw [eMM, eG4]; exact ot_M ltt
  refine lv_lload_n hx hb dX2_computeMac_726 rfl (lv_at hl 8 rfl) ?_
  refine lv_lload hx hb dX2_computeMac_727 (lv_at hl 0 rfl) ?_
  refine lv_land hx hb dX2_computeMac_729 ?_
  refine lv_lstore_n (lv' := [(2, .long ((lN k0) &&& MM)), (53, .long MM), (51, .long G4), (49, .long (lN u3)), (22, .long (lN p3)), (47, .long (lN u2)), (45, .long (lN u1)), (43, .long (lN u0)), (4, .long (lN z1)), (10, .long (lN k4)), (8, .long (lN k3)), (6, .long (lN k2)), (0, .ref hk0), (1, .ref hd0), (24, .long (lN r0)), (26, .long (lN r1)), (28, .long (lN r2)), (30, .long (lN r3)), (32, .long (lN r4)), (34, .long (lN s1)), (36, .long (lN s2)), (38, .long (lN s3)), (40, .long (lN s4)), (42, .ref qb)]) hx hb dX2_computeMac_730 rfl hl (by decide) rfl (fun ls hl => ?_)
  refine lv_lload hx hb dX2_computeMac_731 (lv_at hl 8 rfl) ?_
  refine lv_lload hx hb dX2_computeMac_733 (lv_at hl 1 rfl) ?_
  refine lv_land hx hb dX2_computeMac_735 ?_
  refine lv_lstore (lv' := [(4, .long ((lN z1) &&& MM)), (2, .long ((lN k0) &&& MM)), (53, .long MM), (51, .long G4), (49, .long (lN u3)), (22, .long (lN p3)), (47, .long (lN u2)), (45, .long (lN u1)), (43, .long (lN u0)), (10, .long (lN k4)), (8, .long (lN k3)), (6, .long (lN k2)), (0, .ref hk0), (1, .ref hd0), (24, .long (lN r0)), (26, .long (lN r1)), (28, .long (lN r2)), (30, .long (lN r3)), (32, .long (lN r4)), (34, .long (lN s1)), (36, .long (lN s2)), (38, .long (lN s3)), (40, .long (lN s4)), (42, .ref qb)]) hx hb dX2_computeMac_736 hl (by decide) rfl (fun ls hl => ?_)
  refine lv_lload hx hb dX2_computeMac_738 (lv_at hl 11 rfl) ?_
  refine lv_lload hx hb dX2_computeMac_740 (lv_at hl 2 rfl) ?_
  refine lv_land hx hb dX2_computeMac_742 ?_
  refine lv_lstore (lv' := [(6, .long ((lN k2) &&& MM)), (4, .long ((lN z1) &&& MM)), (2, .long ((lN k0) &&& MM)), (53, .long MM), (51, .long G4), (49, .long (lN u3)), (22, .long (lN p3)), (47, .long (lN u2)), (45, .long (lN u1)), (43, .long (lN u0)), (10, .long (lN k4)), (8, .long (lN k3)), (0, .ref hk0), (1, .ref hd0), (24, .long (lN r0)), (26, .long (lN r1)), (28, .long (lN r2)), (30, .long (lN r3)), (32, .long (lN r4)), (34, .long (lN s1)), (36, .long (lN s2)), (38, .long (lN s3)), (40, .long (lN s4)), (42, .ref qb)]) hx hb dX2_computeMac_743 hl (by decide) rfl (fun ls hl => ?_)
  refine lv_lload hx hb dX2_computeMac_745 (lv_at hl 11 rfl) ?_
  refine lv_lload hx hb dX2_computeMac_747 (lv_at hl 3 rfl) ?_
  refine lv_land hx hb dX2_computeMac_749 ?_
  refine lv_lstore (lv' := [(8, .long ((lN k3) &&& MM)), (6, .long ((lN k2) &&& MM)), (4, .long ((lN z1) &&& MM)), (2, .long ((lN k0) &&& MM)), (53, .long MM), (51, .long G4), (49, .long (lN u3)), (22, .long (lN p3)), (47, .long (lN u2)), (45, .long (lN u1)), (43, .long (lN u0)), (10, .long (lN k4)), (0, .ref hk0), (1, .ref hd0), (24, .long (lN r0)), (26, .long (lN r1)), (28, .long (lN r2)), (30, .long (lN r3)), (32, .long (lN r4)), (34, .long (lN s1)), (36, .long (lN s2)), (38, .long (lN s3)), (40, .long (lN s4)), (42, .ref qb)]) hx hb dX2_computeMac_750 hl (by decide) rfl (fun ls hl => ?_)
  refine lv_lload hx hb dX2_computeMac_752 (lv_at hl 11 rfl) ?_
  refine lv_lload hx hb dX2_computeMac_754 (lv_at hl 4 rfl) ?_
  refine lv_land hx hb dX2_computeMac_756 ?_
  refine lv_lstore (lv' := [(10, .long ((lN k4) &&& MM)), (8, .long ((lN k3) &&& MM)), (6, .long ((lN k2) &&& MM)), (4, .long ((lN z1) &&& MM)), (2, .long ((lN k0) &&& MM)), (53, .long MM), (51, .long G4), (49, .long (lN u3)), (22, .long (lN p3)), (47, .long (lN u2)), (45, .long (lN u1)), (43, .long (lN u0)), (0, .ref hk0), (1, .ref hd0), (24, .long (lN r0)), (26, .long (lN r1)), (28, .long (lN r2)), (30, .long (lN r3)), (32, .long (lN r4)), (34, .long (lN s1)), (36, .long (lN s2)), (38, .long (lN s3)), (40, .long (lN s4)), (42, .ref qb)]) hx hb dX2_computeMac_757 hl (by decide) rfl (fun ls hl => ?_)
  refine lv_lload hx hb dX2_computeMac_759 (lv_at hl 5 rfl) ?_
  refine lv_ldc2 (v := (-1)) hx hb hown (hts _ q176) dX2_computeMac_761 ?_
  refine lv_lxor hx hb dX2_computeMac_764 ?_
  refine lv_lstore (lv' := [(53, .long (MM ^^^ (-1))), (10, .long ((lN k4) &&& MM)), (8, .long ((lN k3) &&& MM)), (6, .long ((lN k2) &&& MM)), (4, .long ((lN z1) &&& MM)), (2, .long ((lN k0) &&& MM)), (51, .long G4), (49, .long (lN u3)), (22, .long (lN p3)), (47, .long (lN u2)), (45, .long (lN u1)), (43, .long (lN u0)), (0, .ref hk0), (1, .ref hd0), (24, .long (lN r0)), (26, .long (lN r1)), (28, .long (lN r2)), (30, .long (lN r3)), (32, .long (lN r4)), (34, .long (lN s1)), (36, .long (lN s2)), (38, .long (lN s3)), (40, .long (lN s4)), (42, .ref qb)]) hx hb dX2_computeMac_765 hl (by decide) rfl (fun ls hl => ?_)
  refine lv_lload_n hx hb dX2_computeMac_767 rfl (lv_at hl 5 rfl) ?_
  refine lv_lload hx hb dX2_computeMac_768 (lv_at hl 11 rfl) ?_
  refine lv_lload hx hb dX2_computeMac_770 (lv_at hl 0 rfl) ?_
  refine lv_land hx hb dX2_computeMac_772 ?_
  refine lv_lor hx hb dX2_computeMac_773 ?_
  refine ot_topl (lN (if tt < 67108864 then k0 else u0)) (ot_sel hMM) ?_
  refine ot_namel (fun e0_ ee0_ => ?_)
  refine lv_lstore_n (lv' := [(2, .long (lN e0_)), (53, .long (MM ^^^ (-1))), (10, .long ((lN k4) &&& MM)), (8, .long ((lN k3) &&& MM)), (6, .long ((lN k2) &&& MM)), (4, .long ((lN z1) &&& MM)), (51, .long G4), (49, .long (lN u3)), (22, .long (lN p3)), (47, .long (lN u2)), (45, .long (lN u1)), (43, .long (lN u0)), (0, .ref hk0), (1, .ref hd0), (24, .long (lN r0)), (26, .long (lN r1)), (28, .long (lN r2)), (30, .long (lN r3)), (32, .long (lN r4)), (34, .long (lN s1)), (36, .long (lN s2)), (38, .long (lN s3)), (40, .long (lN s4)), (42, .ref qb)]) hx hb dX2_computeMac_774 rfl hl (by decide) rfl (fun ls hl => ?_)
  refine lv_lload hx hb dX2_computeMac_775 (lv_at hl 5 rfl) ?_
  refine lv_lload hx hb dX2_computeMac_777 (lv_at hl 10 rfl) ?_
  refine lv_lload hx hb dX2_computeMac_779 (lv_at hl 1 rfl) ?_
  refine lv_land hx hb dX2_computeMac_781 ?_
  refine lv_lor hx hb dX2_computeMac_782 ?_
  refine ot_topl (lN (if tt < 67108864 then z1 else u1)) (ot_sel hMM) ?_
  refine ot_namel (fun e1_ ee1_ => ?_)
  refine lv_lstore (lv' := [(4, .long (lN e1_)), (2, .long (lN e0_)), (53, .long (MM ^^^ (-1))), (10, .long ((lN k4) &&& MM)), (8, .long ((lN k3) &&& MM)), (6, .long ((lN k2) &&& MM)), (51, .long G4), (49, .long (lN u3)), (22, .long (lN p3)), (47, .long (lN u2)), (45, .long (lN u1)), (43, .long (lN u0)), (0, .ref hk0), (1, .ref hd0), (24, .long (lN r0)), (26, .long (lN r1)), (28, .long (lN r2)), (30, .long (lN r3)), (32, .long (lN r4)), (34, .long (lN s1)), (36, .long (lN s2)), (38, .long (lN s3)), (40, .long (lN s4)), (42, .ref qb)]) hx hb dX2_computeMac_783 hl (by decide) rfl (fun ls hl => ?_)
  refine lv_lload hx hb dX2_computeMac_785 (lv_at hl 5 rfl) ?_
  refine lv_lload hx hb dX2_computeMac_787 (lv_at hl 9 rfl) ?_
  refine lv_lload hx hb dX2_computeMac_789 (lv_at hl 2 rfl) ?_
  refine lv_land hx hb dX2_computeMac_791 ?_
  refine lv_lor hx hb dX2_computeMac_792 ?_
  refine ot_topl (lN (if tt < 67108864 then k2 else u2)) (ot_sel hMM) ?_
  refine ot_namel (fun e2_ ee2_ => ?_)
  refine lv_lstore (lv' := [(6, .long (lN e2_)), (4, .long (lN e1_)), (2, .long (lN e0_)), (53, .long (MM ^^^ (-1))), (10, .long ((lN k4) &&& MM)), (8, .long ((lN k3) &&& MM)), (51, .long G4), (49, .long (lN u3)), (22, .long (lN p3)), (47, .long (lN u2)), (45, .long (lN u1)), (43, .long (lN u0)), (0, .ref hk0), (1, .ref hd0), (24, .long (lN r0)), (26, .long (lN r1)), (28, .long (lN r2)), (30, .long (lN r3)), (32, .long (lN r4)), (34, .long (lN s1)), (36, .long (lN s2)), (38, .long (lN s3)), (40, .long (lN s4)), (42, .ref qb)]) hx hb dX2_computeMac_793 hl (by decide) rfl (fun ls hl => ?_)
  refine lv_lload hx hb dX2_computeMac_795 (lv_at hl 5 rfl) ?_
  refine lv_lload hx hb dX2_computeMac_797 (lv_at hl 7 rfl) ?_
  refine lv_lload hx hb dX2_computeMac_799 (lv_at hl 3 rfl) ?_
  refine lv_land hx hb dX2_computeMac_801 ?_
  refine lv_lor hx hb dX2_computeMac_802 ?_
  refine ot_topl (lN (if tt < 67108864 then k3 else u3)) (ot_sel hMM) ?_
  refine ot_namel (fun e3_ ee3_ => ?_)
  refine lv_lstore (lv' := [(8, .long (lN e3_)), (6, .long (lN e2_)), (4, .long (lN e1_)), (2, .long (lN e0_)), (53, .long (MM ^^^ (-1))), (10, .long ((lN k4) &&& MM)), (51, .long G4), (49, .long (lN u3)), (22, .long (lN p3)), (47, .long (lN u2)), (45, .long (lN u1)), (43, .long (lN u0)), (0, .ref hk0), (1, .ref hd0), (24, .long (lN r0)), (26, .long (lN r1)), (28, .long (lN r2)), (30, .long (lN r3)), (32, .long (lN r4)), (34, .long (lN s1)), (36, .long (lN s2)), (38, .long (lN s3)), (40, .long (lN s4)), (42, .ref qb)]) hx hb dX2_computeMac_803 hl (by decide) rfl (fun ls hl => ?_)
  refine lv_lload hx hb dX2_computeMac_805 (lv_at hl 5 rfl) ?_
  refine lv_lload hx hb dX2_computeMac_807 (lv_at hl 6 rfl) ?_
  refine lv_lload hx hb dX2_computeMac_809 (lv_at hl 4 rfl) ?_
  refine lv_land hx hb dX2_computeMac_811 ?_
  refine lv_lor hx hb dX2_computeMac_812 ?_
  refine ot_topl (lN (if tt < 67108864 then k4 else tt - 67108864)) (by rw [eG4]; exact ot_sel4 hMM) ?_
  refine ot_namel (fun e4_ ee4_ => ?_)
  refine lv_lstore (lv' := [(10, .long (lN e4_)), (8, .long (lN e3_)), (6, .long (lN e2_)), (4, .long (lN e1_)), (2, .long (lN e0_)), (53, .long (MM ^^^ (-1))), (51, .long G4), (49, .long (lN u3)), (22, .long (lN p3)), (47, .long (lN u2)), (45, .long (lN u1)), (43, .long (lN u0)), (0, .ref hk0), (1, .ref hd0), (24, .long (lN r0)), (26, .long (lN r1)), (28, .long (lN r2)), (30, .long (lN r3)), (32, .long (lN r4)), (34, .long (lN s1)), (36, .long (lN s2)), (38, .long (lN s3)), (40, .long (lN s4)), (42, .ref qb)]) hx hb dX2_computeMac_813 hl (by decide) rfl (fun ls hl => ?_)
  obtain ⟨f0_, f1_, f2_, f3_, f4_, f5_⟩ := ot_fin2 t1_ t2_ t3_ t4_ t5_ ew0 ep0 eu0 ew1 ep1 eu1 ew2 ep2 eu2 ew3 ep3 eu3 ett ee0_ ee1_ ee2_ ee3_ ee4_
  rw [t0_] at f0_
  clear eMM ee0_ ee1_ ee2_ ee3_ ee4_ t0_ ew0 ep0 eu0 ew1 ep1 eu1 ew2 ep2 eu2 ew3 ep3 eu3 ec1 ek1 ey2 ec2 ek2 ey3 ec3 ek3 ey4 ec4 ek4 ez0 ec5 ek0 ez1 hv_ er0 er1 er2 er3 er4 eq0 eq1 eq2 eq3 eq4 hr_ es1 es2 es3 es4
  refine lv_lload_n hx hb dX2_computeMac_815 rfl (lv_at hl 4 rfl) ?_
  refine lv_lload hx hb dX2_computeMac_816 (lv_at hl 3 rfl) ?_
  refine lv_bipush (v := nI 26) hx hb dX2_computeMac_818 (by decide) ?_
  refine lv_lshl hx hb dX2_computeMac_820 rfl ?_
  refine ot_topl (lN (e1_ * 2 ^ 26)) (wb_shl _ (by omega)) ?_
  refine lv_lor hx hb dX2_computeMac_821 ?_
  refine ot_topl (lN (e0_ + e1_ * 2 ^ 26)) (ot_orL 26 (by omega)) ?_
  refine lv_ldc2 (v := lN 4294967295) hx hb hown (hts _ q155) dX2_computeMac_822 ?_
  refine lv_land hx hb dX2_computeMac_825 ?_
  refine ot_topl (lN ((e0_ + e1_ * 2 ^ 26) % 2 ^ 32)) (fb_maskL _ 32) ?_
  refine ot_namel (fun o0 eo0 => ?_)
  refine lv_lstore_n (lv' := [(2, .long (lN o0)), (10, .long (lN e4_)), (8, .long (lN e3_)), (6, .long (lN e2_)), (4, .long (lN e1_)), (53, .long (MM ^^^ (-1))), (51, .long G4), (49, .long (lN u3)), (22, .long (lN p3)), (47, .long (lN u2)), (45, .long (lN u1)), (43, .long (lN u0)), (0, .ref hk0), (1, .ref hd0), (24, .long (lN r0)), (26, .long (lN r1)), (28, .long (lN r2)), (30, .long (lN r3)), (32, .long (lN r4)), (34, .long (lN s1)), (36, .long (lN s2)), (38, .long (lN s3)), (40, .long (lN s4)), (42, .ref qb)]) hx hb dX2_computeMac_826 rfl hl (by decide) rfl (fun ls hl => ?_)
  refine lv_lload hx hb dX2_computeMac_827 (lv_at hl 4 rfl) ?_
  refine lv_bipush (v := nI 6) hx hb dX2_computeMac_829 (by decide) ?_
  refine lv_lshr hx hb dX2_computeMac_831 rfl ?_
  refine ot_topl (lN (e1_ / 2 ^ 6)) (ot_shrL 6 (by omega) (by omega)) ?_
  refine lv_lload hx hb dX2_computeMac_832 (lv_at hl 3 rfl) ?_
  refine lv_bipush (v := nI 20) hx hb dX2_computeMac_834 (by decide) ?_
  refine lv_lshl hx hb dX2_computeMac_836 rfl ?_
  refine ot_topl (lN (e2_ * 2 ^ 20)) (wb_shl _ (by omega)) ?_
  refine lv_lor hx hb dX2_computeMac_837 ?_
  refine ot_topl (lN ((e1_ / 2 ^ 6) + e2_ * 2 ^ 20)) (ot_orL 20 (by omega)) ?_
  refine lv_ldc2 (v := lN 4294967295) hx hb hown (hts _ q155) dX2_computeMac_838 ?_
  refine lv_land hx hb dX2_computeMac_841 ?_
  refine ot_topl (lN (((e1_ / 2 ^ 6) + e2_ * 2 ^ 20) % 2 ^ 32)) (fb_maskL _ 32) ?_
  refine ot_namel (fun o1 eo1 => ?_)
  refine lv_lstore (lv' := [(4, .long (lN o1)), (2, .long (lN o0)), (10, .long (lN e4_)), (8, .long (lN e3_)), (6, .long (lN e2_)), (53, .long (MM ^^^ (-1))), (51, .long G4), (49, .long (lN u3)), (22, .long (lN p3)), (47, .long (lN u2)), (45, .long (lN u1)), (43, .long (lN u0)), (0, .ref hk0), (1, .ref hd0), (24, .long (lN r0)), (26, .long (lN r1)), (28, .long (lN r2)), (30, .long (lN r3)), (32, .long (lN r4)), (34, .long (lN s1)), (36, .long (lN s2)), (38, .long (lN s3)), (40, .long (lN s4)), (42, .ref qb)]) hx hb dX2_computeMac_842 hl (by decide) rfl (fun ls hl => ?_)
  refine lv_lload hx hb dX2_computeMac_844 (lv_at hl 4 rfl) ?_
  refine lv_bipush (v := nI 12) hx hb dX2_computeMac_846 (by decide) ?_
  refine lv_lshr hx hb dX2_computeMac_848 rfl ?_
  refine ot_topl (lN (e2_ / 2 ^ 12)) (ot_shrL 12 (by omega) (by omega)) ?_
  refine lv_lload hx hb dX2_computeMac_849 (lv_at hl 3 rfl) ?_
  refine lv_bipush (v := nI 14) hx hb dX2_computeMac_851 (by decide) ?_
  refine lv_lshl hx hb dX2_computeMac_853 rfl ?_
  refine ot_topl (lN (e3_ * 2 ^ 14)) (wb_shl _ (by omega)) ?_
  refine lv_lor hx hb dX2_computeMac_854 ?_
  refine ot_topl (lN ((e2_ / 2 ^ 12) + e3_ * 2 ^ 14)) (ot_orL 14 (by omega)) ?_
  refine lv_ldc2 (v := lN 4294967295) hx hb hown (hts _ q155) dX2_computeMac_855 ?_
  refine lv_land hx hb dX2_computeMac_858 ?_
  refine ot_topl (lN (((e2_ / 2 ^ 12) + e3_ * 2 ^ 14) % 2 ^ 32)) (fb_maskL _ 32) ?_
  refine ot_namel (fun o2 eo2 => ?_)
  refine lv_lstore (lv' := [(6, .long (lN o2)), (4, .long (lN o1)), (2, .long (lN o0)), (10, .long (lN e4_)), (8, .long (lN e3_)), (53, .long (MM ^^^ (-1))), (51, .long G4), (49, .long (lN u3)), (22, .long (lN p3)), (47, .long (lN u2)), (45, .long (lN u1)), (43, .long (lN u0)), (0, .ref hk0), (1, .ref hd0), (24, .long (lN r0)), (26, .long (lN r1)), (28, .long (lN r2)), (30, .long (lN r3)), (32, .long (lN r4)), (34, .long (lN s1)), (36, .long (lN s2)), (38, .long (lN s3)), (40, .long (lN s4)), (42, .ref qb)]) hx hb dX2_computeMac_859 hl (by decide) rfl (fun ls hl => ?_)
  refine lv_lload hx hb dX2_computeMac_861 (lv_at hl 4 rfl) ?_
  refine lv_bipush (v := nI 18) hx hb dX2_computeMac_863 (by decide) ?_
  refine lv_lshr hx hb dX2_computeMac_865 rfl ?_
  refine ot_topl (lN (e3_ / 2 ^ 18)) (ot_shrL 18 (by omega) (by omega)) ?_
  refine lv_lload hx hb dX2_computeMac_866 (lv_at hl 3 rfl) ?_
  refine lv_bipush (v := nI 8) hx hb dX2_computeMac_868 (by decide) ?_
  refine lv_lshl hx hb dX2_computeMac_870 rfl ?_
  refine ot_topl (lN (e4_ * 2 ^ 8)) (wb_shl _ (by omega)) ?_
  refine lv_lor hx hb dX2_computeMac_871 ?_
  refine ot_topl (lN ((e3_ / 2 ^ 18) + e4_ * 2 ^ 8)) (ot_orL 8 (by omega)) ?_
  refine lv_ldc2 (v := lN 4294967295) hx hb hown (hts _ q155) dX2_computeMac_872 ?_
  refine lv_land hx hb dX2_computeMac_875 ?_
  refine ot_topl (lN (((e3_ / 2 ^ 18) + e4_ * 2 ^ 8) % 2 ^ 32)) (fb_maskL _ 32) ?_
  refine ot_namel (fun o3 eo3 => ?_)
  refine lv_lstore (lv' := [(8, .long (lN o3)), (6, .long (lN o2)), (4, .long (lN o1)), (2, .long (lN o0)), (10, .long (lN e4_)), (53, .long (MM ^^^ (-1))), (51, .long G4), (49, .long (lN u3)), (22, .long (lN p3)), (47, .long (lN u2)), (45, .long (lN u1)), (43, .long (lN u0)), (0, .ref hk0), (1, .ref hd0), (24, .long (lN r0)), (26, .long (lN r1)), (28, .long (lN r2)), (30, .long (lN r3)), (32, .long (lN r4)), (34, .long (lN s1)), (36, .long (lN s2)), (38, .long (lN s3)), (40, .long (lN s4)), (42, .ref qb)]) hx hb dX2_computeMac_876 hl (by decide) rfl (fun ls hl => ?_)
  obtain ⟨zz, hzz⟩ := ot_pack f1_ f2_ f3_ f4_ f5_ eo0 eo1 eo2 eo3
  rw [f0_] at hzz
  have lo0 : o0 < 4294967296 := by rw [eo0]; exact Nat.mod_lt _ (by decide)
  have lo1 : o1 < 4294967296 := by rw [eo1]; exact Nat.mod_lt _ (by decide)
  have lo2 : o2 < 4294967296 := by rw [eo2]; exact Nat.mod_lt _ (by decide)
  have lo3 : o3 < 4294967296 := by rw [eo3]; exact Nat.mod_lt _ (by decide)
  clear eo0 eo1 eo2 eo3 f0_
  refine lv_lload_n hx hb dX2_computeMac_878 rfl (lv_at hl 3 rfl) ?_
  refine lv_aload_n hx hb dX2_computeMac_879 rfl (lv_at hl 12 rfl) ?_
  refine lv_bipush (v := nI 16) hx hb dX2_computeMac_880 (by decide) ?_
  have hPc := hP.sub (ws' := [(hk0, .inl (dk, 32, .inl fk))]) [0] rfl
  have hDc := hD.sub (ws' := [(hk0, .inl (dk, 32, .inl fk))]) [0] (by decide) rfl
  have hKc := hK.sub (tys' := [(dk, .byte)]) [0] rfl
  have hFc := va_free (wc := [(hk0, .inl (dk, 32, .inl fk))]) hD hS hA [0] rfl
  refine va_calll (va_runS (As := [.ref hk0, .int (nI 16)]) (rest := [.long (lN o0)]) ⟨hx, hb, hml, hown, hts⟩ (metX2_load32 l dC dI H.size hk0 32 dk fk 16 (by omega) (by omega)) (va_cwS 2 hts (lw_S q152 q153 q12 q154) rfl rfl rfl (by decide +kernel) ⟨Nat.le_of_ble_eq_true rfl, Nat.le_of_ble_eq_true rfl⟩) ⟨fun a U g mk q => by obtain ⟨q0, q1, qP, qK, qD⟩ := q; exact ⟨q0, q1, qP, va_K.moved (u := U) (U := U.calling g mk a) (Vm.Alike.refl U.vm) qK, qD⟩, fun U hU hW => ⟨rfl, by rw [hU], by rw [hU]; exact hPc, va_K.moved hW.alike hKc, hDc.weaken (fun _ _ _ _ => trivial)⟩⟩ rfl rfl hl.1 rfl (lv_room (Nat.le_of_ble_eq_true rfl)) dX2_computeMac_882 ⟨Nat.le_of_ble_eq_true rfl, Nat.le_of_ble_eq_true rfl⟩) hS (fun q _ h => hFc q h) hFc (fun r_ u_ t H1 locs ht hvm hw_ hB hz1 hk1 hS => ?_)
  obtain ⟨hP1, -, -⟩ := hB
  rw [ht] at hP1
  have hP := ot_back hP hD [0] rfl hk1 hP1
  generalize H1 = H at hP hS ⊢
  have e_ : r_ = lN (ot_le32 fk 16) := hw_
  subst e_
  refine W.widen (k := 1) (n := 17) (Nat.le_refl _) (Nat.le_refl _) ?_
  have lk0 := ot_le32_lt fk 16
  refine lv_ladd hx hb dX2_computeMac_885 ?_
  refine ot_topl (lN (o0 + (ot_le32 fk 16))) (lN_add _ _) ?_
  refine ot_namel (fun x0 ex0 => ?_)
  refine lv_lstore (lv' := [(22, .long (lN x0)), (8, .long (lN o3)), (6, .long (lN o2)), (4, .long (lN o1)), (2, .long (lN o0)), (10, .long (lN e4_)), (53, .long (MM ^^^ (-1))), (51, .long G4), (49, .long (lN u3)), (47, .long (lN u2)), (45, .long (lN u1)), (43, .long (lN u0)), (0, .ref hk0), (1, .ref hd0), (24, .long (lN r0)), (26, .long (lN r1)), (28, .long (lN r2)), (30, .long (lN r3)), (32, .long (lN r4)), (34, .long (lN s1)), (36, .long (lN s2)), (38, .long (lN s3)), (40, .long (lN s4)), (42, .ref qb)]) hx hb dX2_computeMac_886 hl (by decide) rfl (fun ls hl => ?_)
  refine lv_lload hx hb dX2_computeMac_888 (lv_at hl 0 rfl) ?_
  refine lv_ldc2 (v := lN 4294967295) hx hb hown (hts _ q155) dX2_computeMac_890 ?_
  refine lv_land hx hb dX2_computeMac_893 ?_
  refine ot_topl (lN (x0 % 2 ^ 32)) (fb_maskL _ 32) ?_
  refine ot_namel (fun n0 en0 => ?_)
  refine lv_lstore_n (lv' := [(2, .long (lN n0)), (22, .long (lN x0)), (8, .long (lN o3)), (6, .long (lN o2)), (4, .long (lN o1)), (10, .long (lN e4_)), (53, .long (MM ^^^ (-1))), (51, .long G4), (49, .long (lN u3)), (47, .long (lN u2)), (45, .long (lN u1)), (43, .long (lN u0)), (0, .ref hk0), (1, .ref hd0), (24, .long (lN r0)), (26, .long (lN r1)), (28, .long (lN r2)), (30, .long (lN r3)), (32, .long (lN r4)), (34, .long (lN s1)), (36, .long (lN s2)), (38, .long (lN s3)), (40, .long (lN s4)), (42, .ref qb)]) hx hb dX2_computeMac_894 rfl hl (by decide) rfl (fun ls hl => ?_)
  have lx0 : x0 < 4611686018427387904 := by omega
  have ln0 : n0 < 4294967296 := by rw [en0]; exact Nat.mod_lt _ (by decide)
  refine lv_lload hx hb dX2_computeMac_895 (lv_at hl 4 rfl) ?_
  refine lv_aload_n hx hb dX2_computeMac_897 rfl (lv_at hl 12 rfl) ?_
  refine lv_bipush (v := nI 20) hx hb dX2_computeMac_898 (by decide) ?_
  have hPc := hP.sub (ws' := [(hk0, .inl (dk, 32, .inl fk))]) [0] rfl
  have hDc := hD.sub (ws' := [(hk0, .inl (dk, 32, .inl fk))]) [0] (by decide) rfl
  have hKc := hK.sub (tys' := [(dk, .byte)]) [0] rfl
  have hFc := va_free (wc := [(hk0, .inl (dk, 32, .inl fk))]) hD hS hA [0] rfl
  refine va_calll (va_runS (As := [.ref hk0, .int (nI 20)]) (rest := [.long (lN o1)]) ⟨hx, hb, hml, hown, hts⟩ (metX2_load32 l dC dI H.size hk0 32 dk fk 20 (by omega) (by omega)) (va_cwS 2 hts (lw_S q152 q153 q12 q154) rfl rfl rfl (by decide +kernel) ⟨Nat.le_of_ble_eq_true rfl, Nat.le_of_ble_eq_true rfl⟩) ⟨fun a U g mk q => by obtain ⟨q0, q1, qP, qK, qD⟩ := q; exact ⟨q0, q1, qP, va_K.moved (u := U) (U := U.calling g mk a) (Vm.Alike.refl U.vm) qK, qD⟩, fun U hU hW => ⟨rfl, by rw [hU], by rw [hU]; exact hPc, va_K.moved hW.alike hKc, hDc.weaken (fun _ _ _ _ => trivial)⟩⟩ rfl rfl hl.1 rfl (lv_room (Nat.le_of_ble_eq_true rfl)) dX2_computeMac_900 ⟨Nat.le_of_ble_eq_true rfl, Nat.le_of_ble_eq_true rfl⟩) hS (fun q _ h => hFc q h) hFc (fun r_ u_ t H1 locs ht hvm hw_ hB hz1 hk1 hS => ?_)
  obtain ⟨hP1, -, -⟩ := hB
  rw [ht] at hP1
  have hP := ot_back hP hD [0] rfl hk1 hP1
  generalize H1 = H at hP hS ⊢
  have e_ : r_ = lN (ot_le32 fk 20) := hw_
  subst e_
  refine W.widen (k := 1) (n := 17) (Nat.le_refl _) (Nat.le_refl _) ?_
  have lk1 := ot_le32_lt fk 20
  refine lv_ladd hx hb dX2_computeMac_903 ?_
  refine ot_topl (lN (o1 + (ot_le32 fk 20))) (lN_add _ _) ?_
  refine lv_lload hx hb dX2_computeMac_904 (lv_at hl 1 rfl) ?_
  refine lv_bipush (v := nI 32) hx hb dX2_computeMac_906 (by decide) ?_
  refine lv_lshr hx hb dX2_computeMac_908 rfl ?_
  refine ot_topl (lN (x0 / 2 ^ 32)) (ot_shrL 32 (by omega) (by omega)) ?_
  refine lv_ladd hx hb dX2_computeMac_909 ?_
  refine ot_topl (lN ((o1 + (ot_le32 fk 20)) + (x0 / 2 ^ 32))) (lN_add _ _) ?_
  refine ot_namel (fun x1 ex1 => ?_)
  refine lv_lstore (lv' := [(22, .long (lN x1)), (2, .long (lN n0)), (8, .long (lN o3)), (6, .long (lN o2)), (4, .long (lN o1)), (10, .long (lN e4_)), (53, .long (MM ^^^ (-1))), (51, .long G4), (49, .long (lN u3)), (47, .long (lN u2)), (45, .long (lN u1)), (43, .long (lN u0)), (0, .ref hk0), (1, .ref hd0), (24, .long (lN r0)), (26, .long (lN r1)), (28, .long (lN r2)), (30, .long (lN r3)), (32, .long (lN r4)), (34, .long (lN s1)), (36, .long (lN s2)), (38, .long (lN s3)), (40, .long (lN s4)), (42, .ref qb)]) hx hb dX2_computeMac_910 hl (by decide) rfl (fun ls hl => ?_)
  refine lv_lload hx hb dX2_computeMac_912 (lv_at hl 0 rfl) ?_
  refine lv_ldc2 (v := lN 4294967295) hx hb hown (hts _ q155) dX2_computeMac_914 ?_
  refine lv_land hx hb dX2_computeMac_917 ?_
  refine ot_topl (lN (x1 % 2 ^ 32)) (fb_maskL _ 32) ?_
  refine ot_namel (fun n1 en1 => ?_)
  refine lv_lstore (lv' := [(4, .long (lN n1)), (22, .long (lN x1)), (2, .long (lN n0)), (8, .long (lN o3)), (6, .long (lN o2)), (10, .long (lN e4_)), (53, .long (MM ^^^ (-1))), (51, .long G4), (49, .long (lN u3)), (47, .long (lN u2)), (45, .long (lN u1)), (43, .long (lN u0)), (0, .ref hk0), (1, .ref hd0), (24, .long (lN r0)), (26, .long (lN r1)), (28, .long (lN r2)), (30, .long (lN r3)), (32, .long (lN r4)), (34, .long (lN s1)), (36, .long (lN s2)), (38, .long (lN s3)), (40, .long (lN s4)), (42, .ref qb)]) hx hb dX2_computeMac_918 hl (by decide) rfl (fun ls hl => ?_)
  have lx1 : x1 < 4611686018427387904 := by omega
  have ln1 : n1 < 4294967296 := by rw [en1]; exact Nat.mod_lt _ (by decide)
  refine lv_lload hx hb dX2_computeMac_920 (lv_at hl 4 rfl) ?_
  refine lv_aload_n hx hb dX2_computeMac_922 rfl (lv_at hl 12 rfl) ?_
  refine lv_bipush (v := nI 24) hx hb dX2_computeMac_923 (by decide) ?_
  have hPc := hP.sub (ws' := [(hk0, .inl (dk, 32, .inl fk))]) [0] rfl
  have hDc := hD.sub (ws' := [(hk0, .inl (dk, 32, .inl fk))]) [0] (by decide) rfl
  have hKc := hK.sub (tys' := [(dk, .byte)]) [0] rfl
  have hFc := va_free (wc := [(hk0, .inl (dk, 32, .inl fk))]) hD hS hA [0] rfl
  refine va_calll (va_runS (As := [.ref hk0, .int (nI 24)]) (rest := [.long (lN o2)]) ⟨hx, hb, hml, hown, hts⟩ (metX2_load32 l dC dI H.size hk0 32 dk fk 24 (by omega) (by omega)) (va_cwS 2 hts (lw_S q152 q153 q12 q154) rfl rfl rfl (by decide +kernel) ⟨Nat.le_of_ble_eq_true rfl, Nat.le_of_ble_eq_true rfl⟩) ⟨fun a U g mk q => by obtain ⟨q0, q1, qP, qK, qD⟩ := q; exact ⟨q0, q1, qP, va_K.moved (u := U) (U := U.calling g mk a) (Vm.Alike.refl U.vm) qK, qD⟩, fun U hU hW => ⟨rfl, by rw [hU], by rw [hU]; exact hPc, va_K.moved hW.alike hKc, hDc.weaken (fun _ _ _ _ => trivial)⟩⟩ rfl rfl hl.1 rfl (lv_room (Nat.le_of_ble_eq_true rfl)) dX2_computeMac_925 ⟨Nat.le_of_ble_eq_true rfl, Nat.le_of_ble_eq_true rfl⟩) hS (fun q _ h => hFc q h) hFc (fun r_ u_ t H1 locs ht hvm hw_ hB hz1 hk1 hS => ?_)
  obtain ⟨hP1, -, -⟩ := hB
  rw [ht] at hP1
  have hP := ot_back hP hD [0] rfl hk1 hP1
  generalize H1 = H at hP hS ⊢
  have e_ : r_ = lN (ot_le32 fk 24) := hw_
  subst e_
  refine W.widen (k := 1) (n := 17) (Nat.le_refl _) (Nat.le_refl _) ?_
  have lk2 := ot_le32_lt fk 24
  refine lv_ladd hx hb dX2_computeMac_928 ?_
  refine ot_topl (lN (o2 + (ot_le32 fk 24))) (lN_add _ _) ?_
  refine lv_lload hx hb dX2_computeMac_929 (lv_at hl 1 rfl) ?_
  refine lv_bipush (v := nI 32) hx hb dX2_computeMac_931 (by decide) ?_
  refine lv_lshr hx hb dX2_computeMac_933 rfl ?_
  refine ot_topl (lN (x1 / 2 ^ 32)) (ot_shrL 32 (by omega) (by omega)) ?_
  refine lv_ladd hx hb dX2_computeMac_934 ?_
  refine ot_topl (lN ((o2 + (ot_le32 fk 24)) + (x1 / 2 ^ 32))) (lN_add _ _) ?_
  refine ot_namel (fun x2 ex2 => ?_)
  refine lv_lstore (lv' := [(22, .long (lN x2)), (4, .long (lN n1)), (2, .long (lN n0)), (8, .long (lN o3)), (6, .long (lN o2)), (10, .long (lN e4_)), (53, .long (MM ^^^ (-1))), (51, .long G4), (49, .long (lN u3)), (47, .long (lN u2)), (45, .long (lN u1)), (43, .long (lN u0)), (0, .ref hk0), (1, .ref hd0), (24, .long (lN r0)), (26, .long (lN r1)), (28, .long (lN r2)), (30, .long (lN r3)), (32, .long (lN r4)), (34, .long (lN s1)), (36, .long (lN s2)), (38, .long (lN s3)), (40, .long (lN s4)), (42, .ref qb)]) hx hb dX2_computeMac_935 hl (by decide) rfl (fun ls hl => ?_)
  refine lv_lload hx hb dX2_computeMac_937 (lv_at hl 0 rfl) ?_
  refine lv_ldc2 (v := lN 4294967295) hx hb hown (hts _ q155) dX2_computeMac_939 ?_
  refine lv_land hx hb dX2_computeMac_942 ?_
  refine ot_topl (lN (x2 % 2 ^ 32)) (fb_maskL _ 32) ?_
  refine ot_namel (fun n2 en2 => ?_)
  refine lv_lstore (lv' := [(6, .long (lN n2)), (22, .long (lN x2)), (4, .long (lN n1)), (2, .long (lN n0)), (8, .long (lN o3)), (10, .long (lN e4_)), (53, .long (MM ^^^ (-1))), (51, .long G4), (49, .long (lN u3)), (47, .long (lN u2)), (45, .long (lN u1)), (43, .long (lN u0)), (0, .ref hk0), (1, .ref hd0), (24, .long (lN r0)), (26, .long (lN r1)), (28, .long (lN r2)), (30, .long (lN r3)), (32, .long (lN r4)), (34, .long (lN s1)), (36, .long (lN s2)), (38, .long (lN s3)), (40, .long (lN s4)), (42, .ref qb)]) hx hb dX2_computeMac_943 hl (by decide) rfl (fun ls hl => ?_)
  have lx2 : x2 < 4611686018427387904 := by omega
  have ln2 : n2 < 4294967296 := by rw [en2]; exact Nat.mod_lt _ (by decide)
  refine lv_lload hx hb dX2_computeMac_945 (lv_at hl 4 rfl) ?_
  refine lv_aload_n hx hb dX2_computeMac_947 rfl (lv_at hl 12 rfl) ?_
  refine lv_bipush (v := nI 28) hx hb dX2_computeMac_948 (by decide) ?_
  have hPc := hP.sub (ws' := [(hk0, .inl (dk, 32, .inl fk))]) [0] rfl
  have hDc := hD.sub (ws' := [(hk0, .inl (dk, 32, .inl fk))]) [0] (by decide) rfl
  have hKc := hK.sub (tys' := [(dk, .byte)]) [0] rfl
  have hFc := va_free (wc := [(hk0, .inl (dk, 32, .inl fk))]) hD hS hA [0] rfl
  refine va_calll (va_runS (As := [.ref hk0, .int (nI 28)]) (rest := [.long (lN o3)]) ⟨hx, hb, hml, hown, hts⟩ (metX2_load32 l dC dI H.size hk0 32 dk fk 28 (by omega) (by omega)) (va_cwS 2 hts (lw_S q152 q153 q12 q154) rfl rfl rfl (by decide +kernel) ⟨Nat.le_of_ble_eq_true rfl, Nat.le_of_ble_eq_true rfl⟩) ⟨fun a U g mk q => by obtain ⟨q0, q1, qP, qK, qD⟩ := q; exact ⟨q0, q1, qP, va_K.moved (u := U) (U := U.calling g mk a) (Vm.Alike.refl U.vm) qK, qD⟩, fun U hU hW => ⟨rfl, by rw [hU], by rw [hU]; exact hPc, va_K.moved hW.alike hKc, hDc.weaken (fun _ _ _ _ => trivial)⟩⟩ rfl rfl hl.1 rfl (lv_room (Nat.le_of_ble_eq_true rfl)) dX2_computeMac_950 ⟨Nat.le_of_ble_eq_true rfl, Nat.le_of_ble_eq_true rfl⟩) hS (fun q _ h => hFc q h) hFc (fun r_ u_ t H1 locs ht hvm hw_ hB hz1 hk1 hS => ?_)
  obtain ⟨hP1, -, -⟩ := hB
  rw [ht] at hP1
  have hP := ot_back hP hD [0] rfl hk1 hP1
  generalize H1 = H at hP hS ⊢
  have e_ : r_ = lN (ot_le32 fk 28) := hw_
  subst e_
  refine W.widen (k := 1) (n := 17) (Nat.le_refl _) (Nat.le_refl _) ?_
  have lk3 := ot_le32_lt fk 28
  refine lv_ladd hx hb dX2_computeMac_953 ?_
  refine ot_topl (lN (o3 + (ot_le32 fk 28))) (lN_add _ _) ?_
  refine lv_lload hx hb dX2_computeMac_954 (lv_at hl 1 rfl) ?_
  refine lv_bipush (v := nI 32) hx hb dX2_computeMac_956 (by decide) ?_
  refine lv_lshr hx hb dX2_computeMac_958 rfl ?_
  refine ot_topl (lN (x2 / 2 ^ 32)) (ot_shrL 32 (by omega) (by omega)) ?_
  refine lv_ladd hx hb dX2_computeMac_959 ?_
  refine ot_topl (lN ((o3 + (ot_le32 fk 28)) + (x2 / 2 ^ 32))) (lN_add _ _) ?_
  refine ot_namel (fun x3 ex3 => ?_)
  refine lv_lstore (lv' := [(22, .long (lN x3)), (6, .long (lN n2)), (4, .long (lN n1)), (2, .long (lN n0)), (8, .long (lN o3)), (10, .long (lN e4_)), (53, .long (MM ^^^ (-1))), (51, .long G4), (49, .long (lN u3)), (47, .long (lN u2)), (45, .long (lN u1)), (43, .long (lN u0)), (0, .ref hk0), (1, .ref hd0), (24, .long (lN r0)), (26, .long (lN r1)), (28, .long (lN r2)), (30, .long (lN r3)), (32, .long (lN r4)), (34, .long (lN s1)), (36, .long (lN s2)), (38, .long (lN s3)), (40, .long (lN s4)), (42, .ref qb)]) hx hb dX2_computeMac_960 hl (by decide) rfl (fun ls hl => ?_)
  refine lv_lload hx hb dX2_computeMac_962 (lv_at hl 0 rfl) ?_
  refine lv_ldc2 (v := lN 4294967295) hx hb hown (hts _ q155) dX2_computeMac_964 ?_
  refine lv_land hx hb dX2_computeMac_967 ?_
  refine ot_topl (lN (x3 % 2 ^ 32)) (fb_maskL _ 32) ?_
  refine ot_namel (fun n3 en3 => ?_)
  refine lv_lstore (lv' := [(8, .long (lN n3)), (22, .long (lN x3)), (6, .long (lN n2)), (4, .long (lN n1)), (2, .long (lN n0)), (10, .long (lN e4_)), (53, .long (MM ^^^ (-1))), (51, .long G4), (49, .long (lN u3)), (47, .long (lN u2)), (45, .long (lN u1)), (43, .long (lN u0)), (0, .ref hk0), (1, .ref hd0), (24, .long (lN r0)), (26, .long (lN r1)), (28, .long (lN r2)), (30, .long (lN r3)), (32, .long (lN r4)), (34, .long (lN s1)), (36, .long (lN s2)), (38, .long (lN s3)), (40, .long (lN s4)), (42, .ref qb)]) hx hb dX2_computeMac_968 hl (by decide) rfl (fun ls hl => ?_)
  have lx3 : x3 < 4611686018427387904 := by omega
  have ln3 : n3 < 4294967296 := by rw [en3]; exact Nat.mod_lt _ (by decide)
  obtain ⟨zy, hzy⟩ := ot_add hzz (ot_sle fk) ex0 en0 ex1 en1 ex2 en2 ex3 en3
  refine lv_bipush (v := nI 16) hx hb dX2_computeMac_970 (by decide) ?_
  refine va_newa (atype := .byte) (ty := .byte) (N' := 16) (a0 := (16, .inl (fun _ => 0))) hx hb (hts _ q40) rfl hK hP hD hS hA (fun _ => rfl) (by decide) (by decide) (by decide) (Nat.le_of_ble_eq_true rfl) (Nat.le_of_ble_eq_true rfl) dX2_computeMac_972 (fun qm dm H hK hP hD hS => ?_)
  have hK : va_K (dC, dI) vwCl [(dk, .byte), (dd, .byte), (db, .byte), (dm, .byte)] s := hK
  have hP : va_P (dC, dI) vwCl [(hk0, .inl (dk, 32, .inl fk)), (hd0, .inl (dd, nd, .inl fd)), (qb, .inl (db, 17, .inl Fb)), (qm, .inl (dm, 16, .inl (fun _ => 0)))] H := hP
  have hD : va_D A [(hk0, .inl (dk, 32, .inl fk)), (hd0, .inl (dd, nd, .inl fd)), (qb, .inl (db, 17, .inl Fb)), (qm, .inl (dm, 16, .inl (fun _ => 0)))] := hD
  refine W.widen (k := 2) (n := 33) (Nat.le_refl _) (Nat.le_refl _) ?_
  refine lv_astore (lv' := [(55, .ref qm), (8, .long (lN n3)), (22, .long (lN x3)), (6, .long (lN n2)), (4, .long (lN n1)), (2, .long (lN n0)), (10, .long (lN e4_)), (53, .long (MM ^^^ (-1))), (51, .long G4), (49, .long (lN u3)), (47, .long (lN u2)), (45, .long (lN u1)), (43, .long (lN u0)), (0, .ref hk0), (1, .ref hd0), (24, .long (lN r0)), (26, .long (lN r1)), (28, .long (lN r2)), (30, .long (lN r3)), (32, .long (lN r4)), (34, .long (lN s1)), (36, .long (lN s2)), (38, .long (lN s3)), (40, .long (lN s4)), (42, .ref qb)]) hx hb dX2_computeMac_974 hl (by decide) rfl (fun ls hl => ?_)
  refine lv_aload hx hb dX2_computeMac_976 (lv_at hl 0 rfl) ?_
  refine lv_lload_n hx hb dX2_computeMac_978 rfl (lv_at hl 5 rfl) ?_
  refine lv_iconst (v := nI 0) hx hb dX2_computeMac_979 (by decide) ?_
  have hPc := hP.sub (ws' := [(qm, .inl (dm, 16, .inl (fun _ => 0)))]) [3] rfl
  have hDc := hD.sub (ws' := [(qm, .inl (dm, 16, .inl (fun _ => 0)))]) [3] (by decide) rfl
  have hKc := hK.sub (tys' := [(dm, .byte)]) [3] rfl
  have hFc := va_free (wc := [(qm, .inl (dm, 16, .inl (fun _ => 0)))]) hD hS hA [3] rfl
  refine va_callv (va_runS (As := [.ref qm, .long (lN n0), .int (nI 0)]) (rest := []) ⟨hx, hb, hml, hown, hts⟩ (metX2_toByteArray l dC dI H.size qm 16 dm (fun _ => 0) n0 0 (by omega) (by omega) ln0) (va_cwS 3 hts (lw_S q177 q178 q12 q179) rfl rfl rfl (by decide +kernel) ⟨Nat.le_of_ble_eq_true rfl, Nat.le_of_ble_eq_true rfl⟩) ⟨fun a U g mk q => by obtain ⟨q0, q1, qP, qK, qD⟩ := q; exact ⟨q0, q1, qP, va_K.moved (u := U) (U := U.calling g mk a) (Vm.Alike.refl U.vm) qK, qD⟩, fun U hU hW => ⟨rfl, by rw [hU], by rw [hU]; exact hPc, va_K.moved hW.alike hKc, hDc.weaken (fun _ _ _ _ => trivial)⟩⟩ rfl rfl hl.1 rfl (lv_room (Nat.le_of_ble_eq_true rfl)) dX2_computeMac_980 ⟨Nat.le_of_ble_eq_true rfl, Nat.le_of_ble_eq_true rfl⟩) hS (fun q _ h => hFc q h) hFc (fun M0 t H1 locs ht hvm hw_ hB hz1 hk1 hS => ?_)
  obtain ⟨hP1, hK1, hD1⟩ := hB
  rw [ht] at hP1
  have hK1 := va_K.moved hvm.symm hK1
  obtain ⟨hP, hD⟩ := va_join (wr := [(hk0, .inl (dk, 32, .inl fk)), (hd0, .inl (dd, nd, .inl fd)), (qb, .inl (db, 17, .inl Fb))]) (w1 := [(qm, .inl (dm, 16, .inl M0))]) hP hD [3] [0, 1, 2] rfl rfl (by decide) (by decide) hk1 hFc hP1 hD1
  generalize H1 = H at hP hS ⊢
  have hP := hP.sub (ws' := [(hk0, .inl (dk, 32, .inl fk)), (hd0, .inl (dd, nd, .inl fd)), (qb, .inl (db, 17, .inl Fb)), (qm, .inl (dm, 16, .inl M0))]) [0, 1, 2, 3] rfl
  have hD := hD.sub (ws' := [(hk0, .inl (dk, 32, .inl fk)), (hd0, .inl (dd, nd, .inl fd)), (qb, .inl (db, 17, .inl Fb)), (qm, .inl (dm, 16, .inl M0))]) [0, 1, 2, 3] (by decide) rfl
  refine W.widen (k := 2) (n := 33) (Nat.le_refl _) (Nat.le_refl _) ?_
  have hM0 : M0 0 = ot_sb n0 ∧ M0 (0 + 1) = ot_sb (n0 / 256) ∧ M0 (0 + 2) = ot_sb (n0 / 256 / 256) ∧ M0 (0 + 3) = ot_sb (n0 / 256 / 256 / 256) ∧ ∀ j, (j < 0 ∨ 0 + 4 ≤ j) → M0 j = (fun _ => 0) j := hw_
  refine lv_aload hx hb dX2_computeMac_983 (lv_at hl 0 rfl) ?_
  refine lv_lload hx hb dX2_computeMac_985 (lv_at hl 4 rfl) ?_
  refine lv_iconst (v := nI 4) hx hb dX2_computeMac_987 (by decide) ?_
  have hPc := hP.sub (ws' := [(qm, .inl (dm, 16, .inl M0))]) [3] rfl
  have hDc := hD.sub (ws' := [(qm, .inl (dm, 16, .inl M0))]) [3] (by decide) rfl
  have hKc := hK.sub (tys' := [(dm, .byte)]) [3] rfl
  have hFc := va_free (wc := [(qm, .inl (dm, 16, .inl M0))]) hD hS hA [3] rfl
  refine va_callv (va_runS (As := [.ref qm, .long (lN n1), .int (nI 4)]) (rest := []) ⟨hx, hb, hml, hown, hts⟩ (metX2_toByteArray l dC dI H.size qm 16 dm M0 n1 4 (by omega) (by omega) ln1) (va_cwS 3 hts (lw_S q177 q178 q12 q179) rfl rfl rfl (by decide +kernel) ⟨Nat.le_of_ble_eq_true rfl, Nat.le_of_ble_eq_true rfl⟩) ⟨fun a U g mk q => by obtain ⟨q0, q1, qP, qK, qD⟩ := q; exact ⟨q0, q1, qP, va_K.moved (u := U) (U := U.calling g mk a) (Vm.Alike.refl U.vm) qK, qD⟩, fun U hU hW => ⟨rfl, by rw [hU], by rw [hU]; exact hPc, va_K.moved hW.alike hKc, hDc.weaken (fun _ _ _ _ => trivial)⟩⟩ rfl rfl hl.1 rfl (lv_room (Nat.le_of_ble_eq_true rfl)) dX2_computeMac_988 ⟨Nat.le_of_ble_eq_true rfl, Nat.le_of_ble_eq_true rfl⟩) hS (fun q _ h => hFc q h) hFc (fun M1 t H1 locs ht hvm hw_ hB hz1 hk1 hS => ?_)
  obtain ⟨hP1, hK1, hD1⟩ := hB
  rw [ht] at hP1
  have hK1 := va_K.moved hvm.symm hK1
  obtain ⟨hP, hD⟩ := va_join (wr := [(hk0, .inl (dk, 32, .inl fk)), (hd0, .inl (dd, nd, .inl fd)), (qb, .inl (db, 17, .inl Fb))]) (w1 := [(qm, .inl (dm, 16, .inl M1))]) hP hD [3] [0, 1, 2] rfl rfl (by decide) (by decide) hk1 hFc hP1 hD1
  generalize H1 = H at hP hS ⊢
  have hP := hP.sub (ws' := [(hk0, .inl (dk, 32, .inl fk)), (hd0, .inl (dd, nd, .inl fd)), (qb, .inl (db, 17, .inl Fb)), (qm, .inl (dm, 16, .inl M1))]) [0, 1, 2, 3] rfl
  have hD := hD.sub (ws' := [(hk0, .inl (dk, 32, .inl fk)), (hd0, .inl (dd, nd, .inl fd)), (qb, .inl (db, 17, .inl Fb)), (qm, .inl (dm, 16, .inl M1))]) [0, 1, 2, 3] (by decide) rfl
  refine W.widen (k := 2) (n := 33) (Nat.le_refl _) (Nat.le_refl _) ?_
  have hM1 : M1 4 = ot_sb n1 ∧ M1 (4 + 1) = ot_sb (n1 / 256) ∧ M1 (4 + 2) = ot_sb (n1 / 256 / 256) ∧ M1 (4 + 3) = ot_sb (n1 / 256 / 256 / 256) ∧ ∀ j, (j < 4 ∨ 4 + 4 ≤ j) → M1 j = M0 j := hw_
  refine lv_aload hx hb dX2_computeMac_991 (lv_at hl 0 rfl) ?_
  refine lv_lload hx hb dX2_computeMac_993 (lv_at hl 3 rfl) ?_
  refine lv_bipush (v := nI 8) hx hb dX2_computeMac_995 (by decide) ?_
  have hPc := hP.sub (ws' := [(qm, .inl (dm, 16, .inl M1))]) [3] rfl
  have hDc := hD.sub (ws' := [(qm, .inl (dm, 16, .inl M1))]) [3] (by decide) rfl
  have hKc := hK.sub (tys' := [(dm, .byte)]) [3] rfl
  have hFc := va_free (wc := [(qm, .inl (dm, 16, .inl M1))]) hD hS hA [3] rfl
  refine va_callv (va_runS (As := [.ref qm, .long (lN n2), .int (nI 8)]) (rest := []) ⟨hx, hb, hml, hown, hts⟩ (metX2_toByteArray l dC dI H.size qm 16 dm M1 n2 8 (by omega) (by omega) ln2) (va_cwS 3 hts (lw_S q177 q178 q12 q179) rfl rfl rfl (by decide +kernel) ⟨Nat.le_of_ble_eq_true rfl, Nat.le_of_ble_eq_true rfl⟩) ⟨fun a U g mk q => by obtain ⟨q0, q1, qP, qK, qD⟩ := q; exact ⟨q0, q1, qP, va_K.moved (u := U) (U := U.calling g mk a) (Vm.Alike.refl U.vm) qK, qD⟩, fun U hU hW => ⟨rfl, by rw [hU], by rw [hU]; exact hPc, va_K.moved hW.alike hKc, hDc.weaken (fun _ _ _ _ => trivial)⟩⟩ rfl rfl hl.1 rfl (lv_room (Nat.le_of_ble_eq_true rfl)) dX2_computeMac_997 ⟨Nat.le_of_ble_eq_true rfl, Nat.le_of_ble_eq_true rfl⟩) hS (fun q _ h => hFc q h) hFc (fun M2 t H1 locs ht hvm hw_ hB hz1 hk1 hS => ?_)
  obtain ⟨hP1, hK1, hD1⟩ := hB
  rw [ht] at hP1
  have hK1 := va_K.moved hvm.symm hK1
  obtain ⟨hP, hD⟩ := va_join (wr := [(hk0, .inl (dk, 32, .inl fk)), (hd0, .inl (dd, nd, .inl fd)), (qb, .inl (db, 17, .inl Fb))]) (w1 := [(qm, .inl (dm, 16, .inl M2))]) hP hD [3] [0, 1, 2] rfl rfl (by decide) (by decide) hk1 hFc hP1 hD1
  generalize H1 = H at hP hS ⊢
  have hP := hP.sub (ws' := [(hk0, .inl (dk, 32, .inl fk)), (hd0, .inl (dd, nd, .inl fd)), (qb, .inl (db, 17, .inl Fb)), (qm, .inl (dm, 16, .inl M2))]) [0, 1, 2, 3] rfl
  have hD := hD.sub (ws' := [(hk0, .inl (dk, 32, .inl fk)), (hd0, .inl (dd, nd, .inl fd)), (qb, .inl (db, 17, .inl Fb)), (qm, .inl (dm, 16, .inl M2))]) [0, 1, 2, 3] (by decide) rfl
  refine W.widen (k := 2) (n := 33) (Nat.le_refl _) (Nat.le_refl _) ?_
  have hM2 : M2 8 = ot_sb n2 ∧ M2 (8 + 1) = ot_sb (n2 / 256) ∧ M2 (8 + 2) = ot_sb (n2 / 256 / 256) ∧ M2 (8 + 3) = ot_sb (n2 / 256 / 256 / 256) ∧ ∀ j, (j < 8 ∨ 8 + 4 ≤ j) → M2 j = M1 j := hw_
  refine lv_aload hx hb dX2_computeMac_1000 (lv_at hl 0 rfl) ?_
  refine lv_lload hx hb dX2_computeMac_1002 (lv_at hl 1 rfl) ?_
  refine lv_bipush (v := nI 12) hx hb dX2_computeMac_1004 (by decide) ?_
  have hPc := hP.sub (ws' := [(qm, .inl (dm, 16, .inl M2))]) [3] rfl
  have hDc := hD.sub (ws' := [(qm, .inl (dm, 16, .inl M2))]) [3] (by decide) rfl
  have hKc := hK.sub (tys' := [(dm, .byte)]) [3] rfl
  have hFc := va_free (wc := [(qm, .inl (dm, 16, .inl M2))]) hD hS hA [3] rfl
  refine va_callv (va_runS (As := [.ref qm, .long (lN n3), .int (nI 12)]) (rest := []) ⟨hx, hb, hml, hown, hts⟩ (metX2_toByteArray l dC dI H.size qm 16 dm M2 n3 12 (by omega) (by omega) ln3) (va_cwS 3 hts (lw_S q177 q178 q12 q179) rfl rfl rfl (by decide +kernel) ⟨Nat.le_of_ble_eq_true rfl, Nat.le_of_ble_eq_true rfl⟩) ⟨fun a U g mk q => by obtain ⟨q0, q1, qP, qK, qD⟩ := q; exact ⟨q0, q1, qP, va_K.moved (u := U) (U := U.calling g mk a) (Vm.Alike.refl U.vm) qK, qD⟩, fun U hU hW => ⟨rfl, by rw [hU], by rw [hU]; exact hPc, va_K.moved hW.alike hKc, hDc.weaken (fun _ _ _ _ => trivial)⟩⟩ rfl rfl hl.1 rfl (lv_room (Nat.le_of_ble_eq_true rfl)) dX2_computeMac_1006 ⟨Nat.le_of_ble_eq_true rfl, Nat.le_of_ble_eq_true rfl⟩) hS (fun q _ h => hFc q h) hFc (fun M3 t H1 locs ht hvm hw_ hB hz1 hk1 hS => ?_)
  obtain ⟨hP1, hK1, hD1⟩ := hB
  rw [ht] at hP1
  have hK1 := va_K.moved hvm.symm hK1
  obtain ⟨hP, hD⟩ := va_join (wr := [(hk0, .inl (dk, 32, .inl fk)), (hd0, .inl (dd, nd, .inl fd)), (qb, .inl (db, 17, .inl Fb))]) (w1 := [(qm, .inl (dm, 16, .inl M3))]) hP hD [3] [0, 1, 2] rfl rfl (by decide) (by decide) hk1 hFc hP1 hD1
  generalize H1 = H at hP hS ⊢
  have hP := hP.sub (ws' := [(hk0, .inl (dk, 32, .inl fk)), (hd0, .inl (dd, nd, .inl fd)), (qb, .inl (db, 17, .inl Fb)), (qm, .inl (dm, 16, .inl M3))]) [0, 1, 2, 3] rfl
  have hD := hD.sub (ws' := [(hk0, .inl (dk, 32, .inl fk)), (hd0, .inl (dd, nd, .inl fd)), (qb, .inl (db, 17, .inl Fb)), (qm, .inl (dm, 16, .inl M3))]) [0, 1, 2, 3] (by decide) rfl
  refine W.widen (k := 2) (n := 33) (Nat.le_refl _) (Nat.le_refl _) ?_
  have hM3 : M3 12 = ot_sb n3 ∧ M3 (12 + 1) = ot_sb (n3 / 256) ∧ M3 (12 + 2) = ot_sb (n3 / 256 / 256) ∧ M3 (12 + 3) = ot_sb (n3 / 256 / 256 / 256) ∧ ∀ j, (j < 12 ∨ 12 + 4 ≤ j) → M3 j = M2 j := hw_
  refine lv_aload hx hb dX2_computeMac_1009 (lv_at hl 0 rfl) ?_
  have hall : ∀ j, j < 16 → ot_b (M3 j) = ot_mac fk fd nd / 256 ^ j % 256 := by
    obtain ⟨a0_, a1_, a2_, a3_, -⟩ := hM0
    obtain ⟨c0_, c1_, c2_, c3_, kc⟩ := hM1
    obtain ⟨d0_, d1_, d2_, d3_, kd⟩ := hM2
    obtain ⟨g0_, g1_, g2_, g3_, kg⟩ := hM3
    refine ot_bytes hzy ln0 ln1 ln2 ln3 ⟨((kg 0 (by omega)).trans ((kd 0 (by omega)).trans (kc 0 (by omega)))).trans a0_, ((kg 1 (by omega)).trans ((kd 1 (by omega)).trans (kc 1 (by omega)))).trans a1_, ((kg 2 (by omega)).trans ((kd 2 (by omega)).trans (kc 2 (by omega)))).trans a2_, ((kg 3 (by omega)).trans ((kd 3 (by omega)).trans (kc 3 (by omega)))).trans a3_⟩ ⟨((kg 4 (by omega)).trans (kd 4 (by omega))).trans c0_, ((kg 5 (by omega)).trans (kd 5 (by omega))).trans c1_, ((kg 6 (by omega)).trans (kd 6 (by omega))).trans c2_, ((kg 7 (by omega)).trans (kd 7 (by omega))).trans c3_⟩ ⟨(kg 8 (by omega)).trans d0_, (kg 9 (by omega)).trans d1_, (kg 10 (by omega)).trans d2_, (kg 11 (by omega)).trans d3_⟩ ⟨g0_, g1_, g2_, g3_⟩
  have hP9 := hP.sub (ws' := [(hk0, .inl (dk, 32, .inl fk)), (hd0, .inl (dd, nd, .inl fd)), (qm, .inl (dm, 16, .inl M3))]) [0, 1, 3] rfl
  have hD9 := hD.sub (ws' := [(hk0, .inl (dk, 32, .inl fk)), (hd0, .inl (dd, nd, .inl fd)), (qm, .inl (dm, 16, .inl M3))]) [0, 1, 3] (by decide) rfl
  have hK9 := hK.sub (tys' := [(dk, .byte), (dd, .byte), (dm, .byte)]) [0, 1, 3] rfl
  exact W.aret (v := .ref qm) hx hb hr (Or.inr ⟨_, rfl⟩) (Or.inr ⟨_, rfl⟩) (fun t ht hW => ⟨⟨(dm, M3), qm, rfl, hall, by rw [ht]; exact hP9, va_K.moved hW.alike hK9, hD9⟩, hS.F ht⟩) hS.2.2 dX2_computeMac_1011
end
section
/-! OneTimeTag: numbers, then its methods -/
theorem ot_i8_ext {x y : Int32} (h : ot_b x = ot_b y) : x.toInt8.toInt32 = y.toInt8.toInt32 := by
  have e : x.toInt8 = y.toInt8 := by
    apply Int8.toBitVec_inj.mp
    show x.toBitVec.signExtend 8 = y.toBitVec.signExtend 8
    rw [BitVec.signExtend_eq_setWidth_of_le _ (by omega), BitVec.signExtend_eq_setWidth_of_le _ (by omega)]
    apply BitVec.eq_of_toNat_eq
    rw [BitVec.toNat_setWidth, BitVec.toNat_setWidth]
    exact h
  rw [e]
theorem ot_b_shr (x : Int32) {s : Int32} (k : Nat) (hs : (s.toBitVec.smod 32).toNat = k) (hk : k = 0 ∨ k = 8 ∨ k = 16 ∨ k = 24) : ot_b (x >>> s) = x.toBitVec.toNat / 2 ^ k % 256 := by
  have e := pk_shr x s k hs
  rw [Int.shiftRight_eq_div_pow] at e
  have e1 : (x >>> s).toInt = if 2 * (x >>> s).toBitVec.toNat < 2 ^ 32 then ((x >>> s).toBitVec.toNat : Int) else ((x >>> s).toBitVec.toNat : Int) - ((2 ^ 32 : Nat) : Int) := BitVec.toInt_eq_toNat_cond _
  have e2 : x.toInt = if 2 * x.toBitVec.toNat < 2 ^ 32 then (x.toBitVec.toNat : Int) else (x.toBitVec.toNat : Int) - ((2 ^ 32 : Nat) : Int) := BitVec.toInt_eq_toNat_cond _
  unfold ot_b
  have l1 := (x >>> s).toBitVec.isLt
  have l2 := x.toBitVec.isLt
  generalize (x >>> s).toBitVec.toNat = u at *
  generalize x.toBitVec.toNat = v at *
  rw [e1, e2] at e
  rcases hk with rfl | rfl | rfl | rfl <;> (simp only [Nat.reducePow] at *; split at e <;> split at e <;> omega)
theorem ot_shrb (x : Int32) {s : Int32} (k : Nat) (hs : (s.toBitVec.smod 32).toNat = k) (hk : k = 0 ∨ k = 8 ∨ k = 16 ∨ k = 24) : (x >>> s).toInt8.toInt32 = ot_sb (x.toBitVec.toNat / 2 ^ k) := by
  unfold ot_sb
  apply ot_i8_ext
  rw [ot_b_shr x k hs hk, ot_b_nI (Nat.mod_lt _ (by decide))]
theorem ot_b0 (x : Int32) : x.toInt8.toInt32 = ot_sb (x.toBitVec.toNat / 2 ^ 0) := by
  unfold ot_sb
  apply ot_i8_ext
  rw [ot_b_nI (Nat.mod_lt _ (by decide))]
  unfold ot_b
  rw [Nat.pow_zero, Nat.div_one]
def ot_from (f : Int32) (z : Nat) : Nat := f.toBitVec.toNat % 2 ^ 31 % (z + 1)
theorem ot_from_le (f : Int32) (z : Nat) : ot_from f z ≤ z := by
  have := Nat.mod_lt (f.toBitVec.toNat % 2 ^ 31) (show 0 < z + 1 by omega)
  unfold ot_from
  omega
theorem ot_remE (f : Int32) {z : Nat} (hz : z ≤ 4096) : (nI (f.toBitVec.toNat % 2 ^ 31) - nI (f.toBitVec.toNat % 2 ^ 31) / nI (z + 1) * nI (z + 1)) = nI (ot_from f z) := pk_rem (Nat.mod_lt _ (by decide)) (by omega) (by omega)
def ot_pb (a b c d : Int32) (k : Nat) : Int32 := ot_sb ((if k < 4 then a else if k < 8 then b else if k < 12 then c else d).toBitVec.toNat / 2 ^ (24 - 8 * (k % 4)))
theorem ot_acc_cong {fd fe : Nat → Int32} {nd r : Nat} (h : ∀ j, j < nd → fd j = fe j) : ∀ t, ot_acc fd nd r t = ot_acc fe nd r t
  | 0 => rfl
  | t + 1 => by
    have hb : ot_blk fd nd t = ot_blk fe nd t := by
      unfold ot_blk
      apply ot_dv_cong
      intro k _
      unfold ot_bl
      split
      · rw [h _ (by omega)]
      · rfl
    rw [ot_acc, ot_acc, ot_acc_cong h t, hb]
theorem ot_mac_cong {fk fd fe : Nat → Int32} {nd : Nat} (h : ∀ j, j < nd → fd j = fe j) : ot_mac fk fd nd = ot_mac fk fe nd := by
  unfold ot_mac
  rw [ot_acc_cong h]
abbrev wsX0_word : List Cond := ws_ yX0_word cX0_word 3 none
set_option maxHeartbeats 4000000 in
set_option maxRecDepth 100000 in
/-- word: four bytes, big end first -/
theorem metX0_word (l : Launch) (dC : Nat → ClassId) (dI : Nat → Nat → Nat) (sz : Nat) (o0 a1 a2 a3 : Nat) (d1 d2 d3 : ClassId) (ft fk fg : Nat → Int32) (z : Nat) (k : Nat) (x : Int32) (hk : k + 4 ≤ 4096) : Met l yX0_word wsX0_word ({ frames := 0, cells := 0, slots := 0, locals := 0 }) (va_Pc [.ref o0, .int (nI k), .int x] (fun U => U.heap.size = sz ∧ va_P (dC, dI) vwCl [(o0, .inr (0, [.ref a1, .int (nI z), .ref a2, .ref a3])), (a1, .inl (d1, 4096, .inl ft)), (a2, .inl (d2, 32, .inl fk)), (a3, .inl (d3, 16, .inl fg))] U.heap ∧ va_K (dC, dI) vwCl [(d1, .byte), (d2, .byte), (d3, .byte)] U ∧ va_D (fun _ => True) [(o0, .inr (0, [.ref a1, .int (nI z), .ref a2, .ref a3])), (a1, .inl (d1, 4096, .inl ft)), (a2, .inl (d2, 32, .inl fk)), (a3, .inl (d3, 16, .inl fg))])) (va_Qv (fun (F : Nat → Int32) => F k = ot_sb (x.toBitVec.toNat / 2 ^ 24) ∧ F (k + 1) = ot_sb (x.toBitVec.toNat / 2 ^ 16) ∧ F (k + 2) = ot_sb (x.toBitVec.toNat / 2 ^ 8) ∧ F (k + 3) = ot_sb (x.toBitVec.toNat / 2 ^ 0) ∧ ∀ j, (j < k ∨ k + 4 ≤ j) → F j = ft j) (fun (u : Nat → Int32) (t : State) => va_P (dC, dI) vwCl [(o0, .inr (0, [.ref a1, .int (nI z), .ref a2, .ref a3])), (a1, .inl (d1, 4096, .inl u)), (a2, .inl (d2, 32, .inl fk)), (a3, .inl (d3, 16, .inl fg))] t.heap ∧ va_K (dC, dI) vwCl [(d1, .byte), (d2, .byte), (d3, .byte)] t ∧ va_D (va_A [(o0, .inr (0, [.ref a1, .int (nI z), .ref a2, .ref a3])), (a1, .inl (d1, 4096, .inl ft)), (a2, .inl (d2, 32, .inl fk)), (a3, .inl (d3, 16, .inl fg))] sz) [(o0, .inr (0, [.ref a1, .int (nI z), .ref a2, .ref a3])), (a1, .inl (d1, 4096, .inl u)), (a2, .inl (d2, 32, .inl fk)), (a3, .inl (d3, 16, .inl fg))]) (va_A [(o0, .inr (0, [.ref a1, .int (nI z), .ref a2, .ref a3])), (a1, .inl (d1, 4096, .inl ft)), (a2, .inl (d2, 32, .inl fk)), (a3, .inl (d3, 16, .inl fg))] sz)) 0 0 (va_A [(o0, .inr (0, [.ref a1, .int (nI z), .ref a2, .ref a3])), (a1, .inl (d1, 4096, .inl ft)), (a2, .inl (d2, 32, .inl fk)), (a3, .inl (d3, 16, .inl fg))] sz) := by
  refine Met.ofW (cc := cX0_word) (maxL := 3) (ret := none) (by decide) rfl ?_
  intro p e s m args below meth c s₁ B hml hv
  obtain ⟨rfl, hsz, hP, hK, hD0⟩ := hv
  have hx := B.exec
  have hb := B.bytes
  have hr := B.returns
  have hts := atoms_spec (ws := wsX0_word) B.pre
  have hts : ∀ w ∈ lw_all, w.before _ s = true := fun w h => hts w (List.mem_cons_of_mem _ h)
  have hown : s.vm.findClass RX0 = some m.cls := findClass_of_methodNamed B.named
  have hlocks := B.notSynchronized
  subst hsz
  have hD := hD0.self (sz := s.heap.size)
  generalize hAe : va_A [(o0, .inr (0, [.ref a1, .int (nI z), .ref a2, .ref a3])), (a1, .inl (d1, 4096, .inl ft)), (a2, .inl (d2, 32, .inl fk)), (a3, .inl (d3, 16, .inl fg))] s.heap.size = A at hD ⊢
  have hA : ∀ q : Nat, s.heap.size ≤ q → A q := fun q h => by rw [← hAe]; exact Or.inr h
  have hS : va_S A s.heap s.heap [] := va_S.rf
  have hP : va_P (dC, dI) vwCl [(o0, .inr (0, [.ref a1, .int (nI z), .ref a2, .ref a3])), (a1, .inl (d1, 4096, .inl ft)), (a2, .inl (d2, 32, .inl fk)), (a3, .inl (d3, 16, .inl fg))] s.heap := hP
  have hl := lv_entry ([.ref o0, .int (nI k), .int x]) (n := 3) (Nat.le_of_ble_eq_true rfl)
  rw [lg_entry_eq]
  generalize (lg_sl ([.ref o0, .int (nI k), .int x]) ++ List.replicate (3 - (lg_sl ([.ref o0, .int (nI k), .int x])).length) Slot.unset).toArray = ls at hl ⊢
  have hl : lv_has ls 3 [(0, .ref o0), (1, .int (nI k)), (2, .int x)] := hl
  refine lv_aload_n hx hb dX0_word_0 rfl (lv_at hl 0 rfl) ?_
  refine va_get (D := (dC, dI)) (ci := 0) (v := .ref a1) (C := RX0) (T := TX0) (N := 4) hx hb hts in_X0 hown hK hP 0 rfl rfl 0 (by decide) (hts _ q27) (fun _ h9 => h9) rfl dX0_word_1 ?_
  refine lv_iload_n hx hb dX0_word_4 rfl (lv_at hl 1 rfl) ?_
  refine lv_iload_n hx hb dX0_word_5 rfl (lv_at hl 2 rfl) ?_
  refine lv_bipush (v := nI 24) hx hb dX0_word_6 (by decide) ?_
  refine lv_ishr hx hb dX0_word_8 ?_
  refine lv_i2b hx hb dX0_word_9 rfl ?_
  refine ot_topi (ot_sb (x.toBitVec.toNat / 2 ^ 24)) (ot_shrb x 24 (by decide) (by omega)) ?_
  refine ot_bast (k := k) hx hb hK hP hD hS 1 0 rfl rfl (pk_vb _) (by omega) (by omega) dX0_word_10 (fun F1 H locs eF1 hP hD hS => ?_)
  have hP : va_P (dC, dI) vwCl [(o0, .inr (0, [.ref a1, .int (nI z), .ref a2, .ref a3])), (a1, .inl (d1, 4096, .inl F1)), (a2, .inl (d2, 32, .inl fk)), (a3, .inl (d3, 16, .inl fg))] H := hP
  have hD : va_D A [(o0, .inr (0, [.ref a1, .int (nI z), .ref a2, .ref a3])), (a1, .inl (d1, 4096, .inl F1)), (a2, .inl (d2, 32, .inl fk)), (a3, .inl (d3, 16, .inl fg))] := hD
  refine lv_aload_n hx hb dX0_word_11 rfl (lv_at hl 0 rfl) ?_
  refine va_get (D := (dC, dI)) (ci := 0) (v := .ref a1) (C := RX0) (T := TX0) (N := 4) hx hb hts in_X0 hown hK hP 0 rfl rfl 0 (by decide) (hts _ q27) (fun _ h9 => h9) rfl dX0_word_12 ?_
  refine lv_iload_n hx hb dX0_word_15 rfl (lv_at hl 1 rfl) ?_
  refine lv_iconst (v := nI 1) hx hb dX0_word_16 (by decide) ?_
  refine lv_iadd hx hb dX0_word_17 ?_
  refine ot_topi (nI (k + 1)) (nI_add _ _) ?_
  refine lv_iload_n hx hb dX0_word_18 rfl (lv_at hl 2 rfl) ?_
  refine lv_bipush (v := nI 16) hx hb dX0_word_19 (by decide) ?_
  refine lv_ishr hx hb dX0_word_21 ?_
  refine lv_i2b hx hb dX0_word_22 rfl ?_
  refine ot_topi (ot_sb (x.toBitVec.toNat / 2 ^ 16)) (ot_shrb x 16 (by decide) (by omega)) ?_
  refine ot_bast (k := (k + 1)) hx hb hK hP hD hS 1 0 rfl rfl (pk_vb _) (by omega) (by omega) dX0_word_23 (fun F2 H locs eF2 hP hD hS => ?_)
  have hP : va_P (dC, dI) vwCl [(o0, .inr (0, [.ref a1, .int (nI z), .ref a2, .ref a3])), (a1, .inl (d1, 4096, .inl F2)), (a2, .inl (d2, 32, .inl fk)), (a3, .inl (d3, 16, .inl fg))] H := hP
  have hD : va_D A [(o0, .inr (0, [.ref a1, .int (nI z), .ref a2, .ref a3])), (a1, .inl (d1, 4096, .inl F2)), (a2, .inl (d2, 32, .inl fk)), (a3, .inl (d3, 16, .inl fg))] := hD
  refine lv_aload_n hx hb dX0_word_24 rfl (lv_at hl 0 rfl) ?_
  refine va_get (D := (dC, dI)) (ci := 0) (v := .ref a1) (C := RX0) (T := TX0) (N := 4) hx hb hts in_X0 hown hK hP 0 rfl rfl 0 (by decide) (hts _ q27) (fun _ h9 => h9) rfl dX0_word_25 ?_
  refine lv_iload_n hx hb dX0_word_28 rfl (lv_at hl 1 rfl) ?_
  refine lv_iconst (v := nI 2) hx hb dX0_word_29 (by decide) ?_
  refine lv_iadd hx hb dX0_word_30 ?_
  refine ot_topi (nI (k + 2)) (nI_add _ _) ?_
  refine lv_iload_n hx hb dX0_word_31 rfl (lv_at hl 2 rfl) ?_
  refine lv_bipush (v := nI 8) hx hb dX0_word_32 (by decide) ?_
  refine lv_ishr hx hb dX0_word_34 ?_
  refine lv_i2b hx hb dX0_word_35 rfl ?_
  refine ot_topi (ot_sb (x.toBitVec.toNat / 2 ^ 8)) (ot_shrb x 8 (by decide) (by omega)) ?_
  refine ot_bast (k := (k + 2)) hx hb hK hP hD hS 1 0 rfl rfl (pk_vb _) (by omega) (by omega) dX0_word_36 (fun F3 H locs eF3 hP hD hS => ?_)
  have hP : va_P (dC, dI) vwCl [(o0, .inr (0, [.ref a1, .int (nI z), .ref a2, .ref a3])), (a1, .inl (d1, 4096, .inl F3)), (a2, .inl (d2, 32, .inl fk)), (a3, .inl (d3, 16, .inl fg))] H := hP
  have hD : va_D A [(o0, .inr (0, [.ref a1, .int (nI z), .ref a2, .ref a3])), (a1, .inl (d1, 4096, .inl F3)), (a2, .inl (d2, 32, .inl fk)), (a3, .inl (d3, 16, .inl fg))] := hD
  refine lv_aload_n hx hb dX0_word_37 rfl (lv_at hl 0 rfl) ?_
  refine va_get (D := (dC, dI)) (ci := 0) (v := .ref a1) (C := RX0) (T := TX0) (N := 4) hx hb hts in_X0 hown hK hP 0 rfl rfl 0 (by decide) (hts _ q27) (fun _ h9 => h9) rfl dX0_word_38 ?_
  refine lv_iload_n hx hb dX0_word_41 rfl (lv_at hl 1 rfl) ?_
  refine lv_iconst (v := nI 3) hx hb dX0_word_42 (by decide) ?_
  refine lv_iadd hx hb dX0_word_43 ?_
  refine ot_topi (nI (k + 3)) (nI_add _ _) ?_
  refine lv_iload_n hx hb dX0_word_44 rfl (lv_at hl 2 rfl) ?_
  refine lv_i2b hx hb dX0_word_45 rfl ?_
  refine ot_topi (ot_sb (x.toBitVec.toNat / 2 ^ 0)) (ot_b0 x) ?_
  refine ot_bast (k := (k + 3)) hx hb hK hP hD hS 1 0 rfl rfl (pk_vb _) (by omega) (by omega) dX0_word_46 (fun F4 H locs eF4 hP hD hS => ?_)
  have hP : va_P (dC, dI) vwCl [(o0, .inr (0, [.ref a1, .int (nI z), .ref a2, .ref a3])), (a1, .inl (d1, 4096, .inl F4)), (a2, .inl (d2, 32, .inl fk)), (a3, .inl (d3, 16, .inl fg))] H := hP
  have hD : va_D A [(o0, .inr (0, [.ref a1, .int (nI z), .ref a2, .ref a3])), (a1, .inl (d1, 4096, .inl F4)), (a2, .inl (d2, 32, .inl fk)), (a3, .inl (d3, 16, .inl fg))] := hD
  have hP9 := hP.sub (ws' := [(o0, .inr (0, [.ref a1, .int (nI z), .ref a2, .ref a3])), (a1, .inl (d1, 4096, .inl F4)), (a2, .inl (d2, 32, .inl fk)), (a3, .inl (d3, 16, .inl fg))]) [0, 1, 2, 3] rfl
  have hD9 := hD.sub (ws' := [(o0, .inr (0, [.ref a1, .int (nI z), .ref a2, .ref a3])), (a1, .inl (d1, 4096, .inl F4)), (a2, .inl (d2, 32, .inl fk)), (a3, .inl (d3, 16, .inl fg))]) [0, 1, 2, 3] (by decide) rfl
  have hK9 := hK.sub (tys' := [(d1, .byte), (d2, .byte), (d3, .byte)]) [0, 1, 2] rfl
  exact W.vret hx hb hr (fun t ht hW => ⟨⟨F4, rfl, by refine ⟨?_, ?_, ?_, ?_, fun j hj => ?_⟩ <;> rw [eF4] <;> simp only [eF3, eF2, eF1] <;> unfold upd <;> (repeat' split) <;> first | rfl | omega, by rw [ht]; exact hP9, va_K.moved hW.alike hK9, hD9⟩, hS.F ht⟩) hS.2.2 dX0_word_47
abbrev wsX0_k : List Cond := ws_ yX0_k cX0_k 3 none
set_option maxHeartbeats 4000000 in
set_option maxRecDepth 100000 in
/-- k: four bytes, big end first -/
theorem metX0_k (l : Launch) (dC : Nat → ClassId) (dI : Nat → Nat → Nat) (sz : Nat) (o0 a1 a2 a3 : Nat) (d1 d2 d3 : ClassId) (ft fk fg : Nat → Int32) (z : Nat) (k : Nat) (x : Int32) (hk : k + 4 ≤ 32) : Met l yX0_k wsX0_k ({ frames := 0, cells := 0, slots := 0, locals := 0 }) (va_Pc [.ref o0, .int (nI k), .int x] (fun U => U.heap.size = sz ∧ va_P (dC, dI) vwCl [(o0, .inr (0, [.ref a1, .int (nI z), .ref a2, .ref a3])), (a1, .inl (d1, 4096, .inl ft)), (a2, .inl (d2, 32, .inl fk)), (a3, .inl (d3, 16, .inl fg))] U.heap ∧ va_K (dC, dI) vwCl [(d1, .byte), (d2, .byte), (d3, .byte)] U ∧ va_D (fun _ => True) [(o0, .inr (0, [.ref a1, .int (nI z), .ref a2, .ref a3])), (a1, .inl (d1, 4096, .inl ft)), (a2, .inl (d2, 32, .inl fk)), (a3, .inl (d3, 16, .inl fg))])) (va_Qv (fun (F : Nat → Int32) => F k = ot_sb (x.toBitVec.toNat / 2 ^ 24) ∧ F (k + 1) = ot_sb (x.toBitVec.toNat / 2 ^ 16) ∧ F (k + 2) = ot_sb (x.toBitVec.toNat / 2 ^ 8) ∧ F (k + 3) = ot_sb (x.toBitVec.toNat / 2 ^ 0) ∧ ∀ j, (j < k ∨ k + 4 ≤ j) → F j = fk j) (fun (u : Nat → Int32) (t : State) => va_P (dC, dI) vwCl [(o0, .inr (0, [.ref a1, .int (nI z), .ref a2, .ref a3])), (a1, .inl (d1, 4096, .inl ft)), (a2, .inl (d2, 32, .inl u)), (a3, .inl (d3, 16, .inl fg))] t.heap ∧ va_K (dC, dI) vwCl [(d1, .byte), (d2, .byte), (d3, .byte)] t ∧ va_D (va_A [(o0, .inr (0, [.ref a1, .int (nI z), .ref a2, .ref a3])), (a1, .inl (d1, 4096, .inl ft)), (a2, .inl (d2, 32, .inl fk)), (a3, .inl (d3, 16, .inl fg))] sz) [(o0, .inr (0, [.ref a1, .int (nI z), .ref a2, .ref a3])), (a1, .inl (d1, 4096, .inl ft)), (a2, .inl (d2, 32, .inl u)), (a3, .inl (d3, 16, .inl fg))]) (va_A [(o0, .inr (0, [.ref a1, .int (nI z), .ref a2, .ref a3])), (a1, .inl (d1, 4096, .inl ft)), (a2, .inl (d2, 32, .inl fk)), (a3, .inl (d3, 16, .inl fg))] sz)) 0 0 (va_A [(o0, .inr (0, [.ref a1, .int (nI z), .ref a2, .ref a3])), (a1, .inl (d1, 4096, .inl ft)), (a2, .inl (d2, 32, .inl fk)), (a3, .inl (d3, 16, .inl fg))] sz) := by
  refine Met.ofW (cc := cX0_k) (maxL := 3) (ret := none) (by decide) rfl ?_
  intro p e s m args below meth c s₁ B hml hv
  obtain ⟨rfl, hsz, hP, hK, hD0⟩ := hv
  have hx := B.exec
  have hb := B.bytes
  have hr := B.returns
  have hts := atoms_spec (ws := wsX0_k) B.pre
  have hts : ∀ w ∈ lw_all, w.before _ s = true := fun w h => hts w (List.mem_cons_of_mem _ h)
  have hown : s.vm.findClass RX0 = some m.cls := findClass_of_methodNamed B.named
  have hlocks := B.notSynchronized
  subst hsz
  have hD := hD0.self (sz := s.heap.size)
  generalize hAe : va_A [(o0, .inr (0, [.ref a1, .int (nI z), .ref a2, .ref a3])), (a1, .inl (d1, 4096, .inl ft)), (a2, .inl (d2, 32, .inl fk)), (a3, .inl (d3, 16, .inl fg))] s.heap.size = A at hD ⊢
  have hA : ∀ q : Nat, s.heap.size ≤ q → A q := fun q h => by rw [← hAe]; exact Or.inr h
  have hS : va_S A s.heap s.heap [] := va_S.rf
  have hP : va_P (dC, dI) vwCl [(o0, .inr (0, [.ref a1, .int (nI z), .ref a2, .ref a3])), (a1, .inl (d1, 4096, .inl ft)), (a2, .inl (d2, 32, .inl fk)), (a3, .inl (d3, 16, .inl fg))] s.heap := hP
  have hl := lv_entry ([.ref o0, .int (nI k), .int x]) (n := 3) (Nat.le_of_ble_eq_true rfl)
  rw [lg_entry_eq]
  generalize (lg_sl ([.ref o0, .int (nI k), .int x]) ++ List.replicate (3 - (lg_sl ([.ref o0, .int (nI k), .int x])).length) Slot.unset).toArray = ls at hl ⊢
  have hl : lv_has ls 3 [(0, .ref o0), (1, .int (nI k)), (2, .int x)] := hl
  refine lv_aload_n hx hb dX0_k_0 rfl (lv_at hl 0 rfl) ?_
  refine va_get (D := (dC, dI)) (ci := 0) (v := .ref a2) (C := RX0) (T := TX0) (N := 4) hx hb hts in_X0 hown hK hP 0 rfl rfl 2 (by decide) (hts _ q29) (fun _ h9 => h9) rfl dX0_k_1 ?_
  refine lv_iload_n hx hb dX0_k_4 rfl (lv_at hl 1 rfl) ?_
  refine lv_iload_n hx hb dX0_k_5 rfl (lv_at hl 2 rfl) ?_
  refine lv_bipush (v := nI 24) hx hb dX0_k_6 (by decide) ?_
  refine lv_ishr hx hb dX0_k_8 ?_
  refine lv_i2b hx hb dX0_k_9 rfl ?_
  refine ot_topi (ot_sb (x.toBitVec.toNat / 2 ^ 24)) (ot_shrb x 24 (by decide) (by omega)) ?_
  refine ot_bast (k := k) hx hb hK hP hD hS 2 1 rfl rfl (pk_vb _) (by omega) (by omega) dX0_k_10 (fun F1 H locs eF1 hP hD hS => ?_)
  have hP : va_P (dC, dI) vwCl [(o0, .inr (0, [.ref a1, .int (nI z), .ref a2, .ref a3])), (a1, .inl (d1, 4096, .inl ft)), (a2, .inl (d2, 32, .inl F1)), (a3, .inl (d3, 16, .inl fg))] H := hP
  have hD : va_D A [(o0, .inr (0, [.ref a1, .int (nI z), .ref a2, .ref a3])), (a1, .inl (d1, 4096, .inl ft)), (a2, .inl (d2, 32, .inl F1)), (a3, .inl (d3, 16, .inl fg))] := hD
  refine lv_aload_n hx hb dX0_k_11 rfl (lv_at hl 0 rfl) ?_
  refine va_get (D := (dC, dI)) (ci := 0) (v := .ref a2) (C := RX0) (T := TX0) (N := 4) hx hb hts in_X0 hown hK hP 0 rfl rfl 2 (by decide) (hts _ q29) (fun _ h9 => h9) rfl dX0_k_12 ?_
  refine lv_iload_n hx hb dX0_k_15 rfl (lv_at hl 1 rfl) ?_
  refine lv_iconst (v := nI 1) hx hb dX0_k_16 (by decide) ?_
  refine lv_iadd hx hb dX0_k_17 ?_
  refine ot_topi (nI (k + 1)) (nI_add _ _) ?_
  refine lv_iload_n hx hb dX0_k_18 rfl (lv_at hl 2 rfl) ?_
  refine lv_bipush (v := nI 16) hx hb dX0_k_19 (by decide) ?_
  refine lv_ishr hx hb dX0_k_21 ?_
  refine lv_i2b hx hb dX0_k_22 rfl ?_
  refine ot_topi (ot_sb (x.toBitVec.toNat / 2 ^ 16)) (ot_shrb x 16 (by decide) (by omega)) ?_
  refine ot_bast (k := (k + 1)) hx hb hK hP hD hS 2 1 rfl rfl (pk_vb _) (by omega) (by omega) dX0_k_23 (fun F2 H locs eF2 hP hD hS => ?_)
  have hP : va_P (dC, dI) vwCl [(o0, .inr (0, [.ref a1, .int (nI z), .ref a2, .ref a3])), (a1, .inl (d1, 4096, .inl ft)), (a2, .inl (d2, 32, .inl F2)), (a3, .inl (d3, 16, .inl fg))] H := hP
  have hD : va_D A [(o0, .inr (0, [.ref a1, .int (nI z), .ref a2, .ref a3])), (a1, .inl (d1, 4096, .inl ft)), (a2, .inl (d2, 32, .inl F2)), (a3, .inl (d3, 16, .inl fg))] := hD
  refine lv_aload_n hx hb dX0_k_24 rfl (lv_at hl 0 rfl) ?_
  refine va_get (D := (dC, dI)) (ci := 0) (v := .ref a2) (C := RX0) (T := TX0) (N := 4) hx hb hts in_X0 hown hK hP 0 rfl rfl 2 (by decide) (hts _ q29) (fun _ h9 => h9) rfl dX0_k_25 ?_
  refine lv_iload_n hx hb dX0_k_28 rfl (lv_at hl 1 rfl) ?_
  refine lv_iconst (v := nI 2) hx hb dX0_k_29 (by decide) ?_
  refine lv_iadd hx hb dX0_k_30 ?_
  refine ot_topi (nI (k + 2)) (nI_add _ _) ?_
  refine lv_iload_n hx hb dX0_k_31 rfl (lv_at hl 2 rfl) ?_
  refine lv_bipush (v := nI 8) hx hb dX0_k_32 (by decide) ?_
  refine lv_ishr hx hb dX0_k_34 ?_
  refine lv_i2b hx hb dX0_k_35 rfl ?_
  refine ot_topi (ot_sb (x.toBitVec.toNat / 2 ^ 8)) (ot_shrb x 8 (by decide) (by omega)) ?_
  refine ot_bast (k := (k + 2)) hx hb hK hP hD hS 2 1 rfl rfl (pk_vb _) (by omega) (by omega) dX0_k_36 (fun F3 H locs eF3 hP hD hS => ?_)
  have hP : va_P (dC, dI) vwCl [(o0, .inr (0, [.ref a1, .int (nI z), .ref a2, .ref a3])), (a1, .inl (d1, 4096, .inl ft)), (a2, .inl (d2, 32, .inl F3)), (a3, .inl (d3, 16, .inl fg))] H := hP
  have hD : va_D A [(o0, .inr (0, [.ref a1, .int (nI z), .ref a2, .ref a3])), (a1, .inl (d1, 4096, .inl ft)), (a2, .inl (d2, 32, .inl F3)), (a3, .inl (d3, 16, .inl fg))] := hD
  refine lv_aload_n hx hb dX0_k_37 rfl (lv_at hl 0 rfl) ?_
  refine va_get (D := (dC, dI)) (ci := 0) (v := .ref a2) (C := RX0) (T := TX0) (N := 4) hx hb hts in_X0 hown hK hP 0 rfl rfl 2 (by decide) (hts _ q29) (fun _ h9 => h9) rfl dX0_k_38 ?_
  refine lv_iload_n hx hb dX0_k_41 rfl (lv_at hl 1 rfl) ?_
  refine lv_iconst (v := nI 3) hx hb dX0_k_42 (by decide) ?_
  refine lv_iadd hx hb dX0_k_43 ?_
  refine ot_topi (nI (k + 3)) (nI_add _ _) ?_
  refine lv_iload_n hx hb dX0_k_44 rfl (lv_at hl 2 rfl) ?_
  refine lv_i2b hx hb dX0_k_45 rfl ?_
  refine ot_topi (ot_sb (x.toBitVec.toNat / 2 ^ 0)) (ot_b0 x) ?_
  refine ot_bast (k := (k + 3)) hx hb hK hP hD hS 2 1 rfl rfl (pk_vb _) (by omega) (by omega) dX0_k_46 (fun F4 H locs eF4 hP hD hS => ?_)
  have hP : va_P (dC, dI) vwCl [(o0, .inr (0, [.ref a1, .int (nI z), .ref a2, .ref a3])), (a1, .inl (d1, 4096, .inl ft)), (a2, .inl (d2, 32, .inl F4)), (a3, .inl (d3, 16, .inl fg))] H := hP
  have hD : va_D A [(o0, .inr (0, [.ref a1, .int (nI z), .ref a2, .ref a3])), (a1, .inl (d1, 4096, .inl ft)), (a2, .inl (d2, 32, .inl F4)), (a3, .inl (d3, 16, .inl fg))] := hD
  have hP9 := hP.sub (ws' := [(o0, .inr (0, [.ref a1, .int (nI z), .ref a2, .ref a3])), (a1, .inl (d1, 4096, .inl ft)), (a2, .inl (d2, 32, .inl F4)), (a3, .inl (d3, 16, .inl fg))]) [0, 1, 2, 3] rfl
  have hD9 := hD.sub (ws' := [(o0, .inr (0, [.ref a1, .int (nI z), .ref a2, .ref a3])), (a1, .inl (d1, 4096, .inl ft)), (a2, .inl (d2, 32, .inl F4)), (a3, .inl (d3, 16, .inl fg))]) [0, 1, 2, 3] (by decide) rfl
  have hK9 := hK.sub (tys' := [(d1, .byte), (d2, .byte), (d3, .byte)]) [0, 1, 2] rfl
  exact W.vret hx hb hr (fun t ht hW => ⟨⟨F4, rfl, by refine ⟨?_, ?_, ?_, ?_, fun j hj => ?_⟩ <;> rw [eF4] <;> simp only [eF3, eF2, eF1] <;> unfold upd <;> (repeat' split) <;> first | rfl | omega, by rw [ht]; exact hP9, va_K.moved hW.alike hK9, hD9⟩, hS.F ht⟩) hS.2.2 dX0_k_47
abbrev wsX0_from : List Cond := ws_ yX0_from cX0_from 2 (some .int)
set_option maxHeartbeats 4000000 in
set_option maxRecDepth 100000 in
/-- from: a place, at most the size -/
theorem metX0_from (l : Launch) (dC : Nat → ClassId) (dI : Nat → Nat → Nat) (sz : Nat) (o0 a1 a2 a3 : Nat) (d1 d2 d3 : ClassId) (ft fk fg : Nat → Int32) (z : Nat) (f : Int32) (hz : z ≤ 4096) : Met l yX0_from wsX0_from ({ frames := 0, cells := 0, slots := 0, locals := 0 }) (va_Pc [.ref o0, .int f] (fun U => U.heap.size = sz ∧ va_P (dC, dI) vwCl [(o0, .inr (0, [.ref a1, .int (nI z), .ref a2, .ref a3])), (a1, .inl (d1, 4096, .inl ft)), (a2, .inl (d2, 32, .inl fk)), (a3, .inl (d3, 16, .inl fg))] U.heap ∧ va_K (dC, dI) vwCl [(d1, .byte), (d2, .byte), (d3, .byte)] U ∧ va_D (fun _ => True) [(o0, .inr (0, [.ref a1, .int (nI z), .ref a2, .ref a3])), (a1, .inl (d1, 4096, .inl ft)), (a2, .inl (d2, 32, .inl fk)), (a3, .inl (d3, 16, .inl fg))])) (va_Qi (fun (r : Int32) (_ : Unit) => r = nI (ot_from f z)) (fun (u : Unit) (t : State) => va_P (dC, dI) vwCl [(o0, .inr (0, [.ref a1, .int (nI z), .ref a2, .ref a3])), (a1, .inl (d1, 4096, .inl ft)), (a2, .inl (d2, 32, .inl fk)), (a3, .inl (d3, 16, .inl fg))] t.heap ∧ va_K (dC, dI) vwCl [(d1, .byte), (d2, .byte), (d3, .byte)] t ∧ va_D (va_A [(o0, .inr (0, [.ref a1, .int (nI z), .ref a2, .ref a3])), (a1, .inl (d1, 4096, .inl ft)), (a2, .inl (d2, 32, .inl fk)), (a3, .inl (d3, 16, .inl fg))] sz) [(o0, .inr (0, [.ref a1, .int (nI z), .ref a2, .ref a3])), (a1, .inl (d1, 4096, .inl ft)), (a2, .inl (d2, 32, .inl fk)), (a3, .inl (d3, 16, .inl fg))]) (va_A [(o0, .inr (0, [.ref a1, .int (nI z), .ref a2, .ref a3])), (a1, .inl (d1, 4096, .inl ft)), (a2, .inl (d2, 32, .inl fk)), (a3, .inl (d3, 16, .inl fg))] sz)) 0 0 (va_A [(o0, .inr (0, [.ref a1, .int (nI z), .ref a2, .ref a3])), (a1, .inl (d1, 4096, .inl ft)), (a2, .inl (d2, 32, .inl fk)), (a3, .inl (d3, 16, .inl fg))] sz) := by
  refine Met.ofW (cc := cX0_from) (maxL := 2) (ret := (some .int)) (by decide) rfl ?_
  intro p e s m args below meth c s₁ B hml hv
  obtain ⟨rfl, hsz, hP, hK, hD0⟩ := hv
  have hx := B.exec
  have hb := B.bytes
  have hr := B.returns
  have hts := atoms_spec (ws := wsX0_from) B.pre
  have hts : ∀ w ∈ lw_all, w.before _ s = true := fun w h => hts w (List.mem_cons_of_mem _ h)
  have hown : s.vm.findClass RX0 = some m.cls := findClass_of_methodNamed B.named
  have hlocks := B.notSynchronized
  subst hsz
  have hD := hD0.self (sz := s.heap.size)
  generalize hAe : va_A [(o0, .inr (0, [.ref a1, .int (nI z), .ref a2, .ref a3])), (a1, .inl (d1, 4096, .inl ft)), (a2, .inl (d2, 32, .inl fk)), (a3, .inl (d3, 16, .inl fg))] s.heap.size = A at hD ⊢
  have hA : ∀ q : Nat, s.heap.size ≤ q → A q := fun q h => by rw [← hAe]; exact Or.inr h
  have hS : va_S A s.heap s.heap [] := va_S.rf
  have hP : va_P (dC, dI) vwCl [(o0, .inr (0, [.ref a1, .int (nI z), .ref a2, .ref a3])), (a1, .inl (d1, 4096, .inl ft)), (a2, .inl (d2, 32, .inl fk)), (a3, .inl (d3, 16, .inl fg))] s.heap := hP
  have hl := lv_entry ([.ref o0, .int f]) (n := 2) (Nat.le_of_ble_eq_true rfl)
  rw [lg_entry_eq]
  generalize (lg_sl ([.ref o0, .int f]) ++ List.replicate (2 - (lg_sl ([.ref o0, .int f])).length) Slot.unset).toArray = ls at hl ⊢
  have hl : lv_has ls 2 [(0, .ref o0), (1, .int f)] := hl
  refine lv_iload_n hx hb dX0_from_0 rfl (lv_at hl 1 rfl) ?_
  refine lv_ldc (v := nI 2147483647) hx hb hown (hts _ q57) dX0_from_1 ?_
  refine lv_iand hx hb dX0_from_3 ?_
  refine ot_topi (nI (f.toBitVec.toNat % 2 ^ 31)) (pk_and f 31 (by decide)) ?_
  refine lv_aload_n hx hb dX0_from_4 rfl (lv_at hl 0 rfl) ?_
  refine va_get (D := (dC, dI)) (ci := 0) (v := .int (nI z)) (C := RX0) (T := TX0) (N := 4) hx hb hts in_X0 hown hK hP 0 rfl rfl 1 (by decide) (hts _ q28) (fun _ h9 => h9) rfl dX0_from_5 ?_
  refine lv_iconst (v := nI 1) hx hb dX0_from_8 (by decide) ?_
  refine lv_iadd hx hb dX0_from_9 ?_
  refine ot_topi (nI (z + 1)) (nI_add _ _) ?_
  refine lv_irem hx hb dX0_from_10 (nI_ne0 (by omega) (by omega)) ?_
  refine ot_topi (nI (ot_from f z)) (ot_remE f hz) ?_
  have hP9 := hP.sub (ws' := [(o0, .inr (0, [.ref a1, .int (nI z), .ref a2, .ref a3])), (a1, .inl (d1, 4096, .inl ft)), (a2, .inl (d2, 32, .inl fk)), (a3, .inl (d3, 16, .inl fg))]) [0, 1, 2, 3] rfl
  have hD9 := hD.sub (ws' := [(o0, .inr (0, [.ref a1, .int (nI z), .ref a2, .ref a3])), (a1, .inl (d1, 4096, .inl ft)), (a2, .inl (d2, 32, .inl fk)), (a3, .inl (d3, 16, .inl fg))]) [0, 1, 2, 3] (by decide) rfl
  have hK9 := hK.sub (tys' := [(d1, .byte), (d2, .byte), (d3, .byte)]) [0, 1, 2] rfl
  exact W.iret (v := nI (ot_from f z)) hx hb hr (fun t ht hW => ⟨⟨nI (ot_from f z), (), rfl, rfl, by rw [ht]; exact hP9, va_K.moved hW.alike hK9, hD9⟩, hS.F ht⟩) hS.2.2 dX0_from_11
abbrev wsX0_count : List Cond := ws_ yX0_count cX0_count 3 (some .int)
set_option maxHeartbeats 4000000 in
set_option maxRecDepth 100000 in
/-- count: how many, at most the rest -/
theorem metX0_count (l : Launch) (dC : Nat → ClassId) (dI : Nat → Nat → Nat) (sz : Nat) (o0 a1 a2 a3 : Nat) (d1 d2 d3 : ClassId) (ft fk fg : Nat → Int32) (z : Nat) (y : Nat) (f : Int32) (hz : z ≤ 4096) (hy : y ≤ z) : Met l yX0_count wsX0_count ({ frames := 0, cells := 0, slots := 0, locals := 0 }) (va_Pc [.ref o0, .int (nI y), .int f] (fun U => U.heap.size = sz ∧ va_P (dC, dI) vwCl [(o0, .inr (0, [.ref a1, .int (nI z), .ref a2, .ref a3])), (a1, .inl (d1, 4096, .inl ft)), (a2, .inl (d2, 32, .inl fk)), (a3, .inl (d3, 16, .inl fg))] U.heap ∧ va_K (dC, dI) vwCl [(d1, .byte), (d2, .byte), (d3, .byte)] U ∧ va_D (fun _ => True) [(o0, .inr (0, [.ref a1, .int (nI z), .ref a2, .ref a3])), (a1, .inl (d1, 4096, .inl ft)), (a2, .inl (d2, 32, .inl fk)), (a3, .inl (d3, 16, .inl fg))])) (va_Qi (fun (r : Int32) (_ : Unit) => r = nI (ot_from f (z - y))) (fun (u : Unit) (t : State) => va_P (dC, dI) vwCl [(o0, .inr (0, [.ref a1, .int (nI z), .ref a2, .ref a3])), (a1, .inl (d1, 4096, .inl ft)), (a2, .inl (d2, 32, .inl fk)), (a3, .inl (d3, 16, .inl fg))] t.heap ∧ va_K (dC, dI) vwCl [(d1, .byte), (d2, .byte), (d3, .byte)] t ∧ va_D (va_A [(o0, .inr (0, [.ref a1, .int (nI z), .ref a2, .ref a3])), (a1, .inl (d1, 4096, .inl ft)), (a2, .inl (d2, 32, .inl fk)), (a3, .inl (d3, 16, .inl fg))] sz) [(o0, .inr (0, [.ref a1, .int (nI z), .ref a2, .ref a3])), (a1, .inl (d1, 4096, .inl ft)), (a2, .inl (d2, 32, .inl fk)), (a3, .inl (d3, 16, .inl fg))]) (va_A [(o0, .inr (0, [.ref a1, .int (nI z), .ref a2, .ref a3])), (a1, .inl (d1, 4096, .inl ft)), (a2, .inl (d2, 32, .inl fk)), (a3, .inl (d3, 16, .inl fg))] sz)) 0 0 (va_A [(o0, .inr (0, [.ref a1, .int (nI z), .ref a2, .ref a3])), (a1, .inl (d1, 4096, .inl ft)), (a2, .inl (d2, 32, .inl fk)), (a3, .inl (d3, 16, .inl fg))] sz) := by
  refine Met.ofW (cc := cX0_count) (maxL := 3) (ret := (some .int)) (by decide) rfl ?_
  intro p e s m args below meth c s₁ B hml hv
  obtain ⟨rfl, hsz, hP, hK, hD0⟩ := hv
  have hx := B.exec
  have hb := B.bytes
  have hr := B.returns
  have hts := atoms_spec (ws := wsX0_count) B.pre
  have hts : ∀ w ∈ lw_all, w.before _ s = true := fun w h => hts w (List.mem_cons_of_mem _ h)
  have hown : s.vm.findClass RX0 = some m.cls := findClass_of_methodNamed B.named
  have hlocks := B.notSynchronized
  subst hsz
  have hD := hD0.self (sz := s.heap.size)
  generalize hAe : va_A [(o0, .inr (0, [.ref a1, .int (nI z), .ref a2, .ref a3])), (a1, .inl (d1, 4096, .inl ft)), (a2, .inl (d2, 32, .inl fk)), (a3, .inl (d3, 16, .inl fg))] s.heap.size = A at hD ⊢
  have hA : ∀ q : Nat, s.heap.size ≤ q → A q := fun q h => by rw [← hAe]; exact Or.inr h
  have hS : va_S A s.heap s.heap [] := va_S.rf
  have hP : va_P (dC, dI) vwCl [(o0, .inr (0, [.ref a1, .int (nI z), .ref a2, .ref a3])), (a1, .inl (d1, 4096, .inl ft)), (a2, .inl (d2, 32, .inl fk)), (a3, .inl (d3, 16, .inl fg))] s.heap := hP
  have hl := lv_entry ([.ref o0, .int (nI y), .int f]) (n := 3) (Nat.le_of_ble_eq_true rfl)
  rw [lg_entry_eq]
  generalize (lg_sl ([.ref o0, .int (nI y), .int f]) ++ List.replicate (3 - (lg_sl ([.ref o0, .int (nI y), .int f])).length) Slot.unset).toArray = ls at hl ⊢
  have hl : lv_has ls 3 [(0, .ref o0), (1, .int (nI y)), (2, .int f)] := hl
  refine lv_iload_n hx hb dX0_count_0 rfl (lv_at hl 2 rfl) ?_
  refine lv_ldc (v := nI 2147483647) hx hb hown (hts _ q57) dX0_count_1 ?_
  refine lv_iand hx hb dX0_count_3 ?_
  refine ot_topi (nI (f.toBitVec.toNat % 2 ^ 31)) (pk_and f 31 (by decide)) ?_
  refine lv_aload_n hx hb dX0_count_4 rfl (lv_at hl 0 rfl) ?_
  refine va_get (D := (dC, dI)) (ci := 0) (v := .int (nI z)) (C := RX0) (T := TX0) (N := 4) hx hb hts in_X0 hown hK hP 0 rfl rfl 1 (by decide) (hts _ q28) (fun _ h9 => h9) rfl dX0_count_5 ?_
  refine lv_iload_n hx hb dX0_count_8 rfl (lv_at hl 1 rfl) ?_
  refine lv_isub hx hb dX0_count_9 ?_
  refine ot_topi (nI (z - y)) (pk_sub hy) ?_
  refine lv_iconst (v := nI 1) hx hb dX0_count_10 (by decide) ?_
  refine lv_iadd hx hb dX0_count_11 ?_
  refine ot_topi (nI (z - y + 1)) (nI_add _ _) ?_
  refine lv_irem hx hb dX0_count_12 (nI_ne0 (by omega) (by omega)) ?_
  refine ot_topi (nI (ot_from f (z - y))) (ot_remE f (by omega)) ?_
  have hP9 := hP.sub (ws' := [(o0, .inr (0, [.ref a1, .int (nI z), .ref a2, .ref a3])), (a1, .inl (d1, 4096, .inl ft)), (a2, .inl (d2, 32, .inl fk)), (a3, .inl (d3, 16, .inl fg))]) [0, 1, 2, 3] rfl
  have hD9 := hD.sub (ws' := [(o0, .inr (0, [.ref a1, .int (nI z), .ref a2, .ref a3])), (a1, .inl (d1, 4096, .inl ft)), (a2, .inl (d2, 32, .inl fk)), (a3, .inl (d3, 16, .inl fg))]) [0, 1, 2, 3] (by decide) rfl
  have hK9 := hK.sub (tys' := [(d1, .byte), (d2, .byte), (d3, .byte)]) [0, 1, 2] rfl
  exact W.iret (v := nI (ot_from f (z - y))) hx hb hr (fun t ht hW => ⟨⟨nI (ot_from f (z - y)), (), rfl, rfl, by rw [ht]; exact hP9, va_K.moved hW.alike hK9, hD9⟩, hS.F ht⟩) hS.2.2 dX0_count_13
abbrev wsX0_size : List Cond := ws_ yX0_size cX0_size 1 (some .int)
set_option maxHeartbeats 4000000 in
set_option maxRecDepth 100000 in
/-- size -/
theorem metX0_size (l : Launch) (dC : Nat → ClassId) (dI : Nat → Nat → Nat) (sz : Nat) (o0 a1 a2 a3 : Nat) (d1 d2 d3 : ClassId) (ft fk fg : Nat → Int32) (z : Nat) : Met l yX0_size wsX0_size ({ frames := 0, cells := 0, slots := 0, locals := 0 }) (va_Pc [.ref o0] (fun U => U.heap.size = sz ∧ va_P (dC, dI) vwCl [(o0, .inr (0, [.ref a1, .int (nI z), .ref a2, .ref a3])), (a1, .inl (d1, 4096, .inl ft)), (a2, .inl (d2, 32, .inl fk)), (a3, .inl (d3, 16, .inl fg))] U.heap ∧ va_K (dC, dI) vwCl [(d1, .byte), (d2, .byte), (d3, .byte)] U ∧ va_D (fun _ => True) [(o0, .inr (0, [.ref a1, .int (nI z), .ref a2, .ref a3])), (a1, .inl (d1, 4096, .inl ft)), (a2, .inl (d2, 32, .inl fk)), (a3, .inl (d3, 16, .inl fg))])) (va_Qi (fun (r : Int32) (_ : Unit) => r = nI z) (fun (u : Unit) (t : State) => va_P (dC, dI) vwCl [(o0, .inr (0, [.ref a1, .int (nI z), .ref a2, .ref a3])), (a1, .inl (d1, 4096, .inl ft)), (a2, .inl (d2, 32, .inl fk)), (a3, .inl (d3, 16, .inl fg))] t.heap ∧ va_K (dC, dI) vwCl [(d1, .byte), (d2, .byte), (d3, .byte)] t ∧ va_D (va_A [(o0, .inr (0, [.ref a1, .int (nI z), .ref a2, .ref a3])), (a1, .inl (d1, 4096, .inl ft)), (a2, .inl (d2, 32, .inl fk)), (a3, .inl (d3, 16, .inl fg))] sz) [(o0, .inr (0, [.ref a1, .int (nI z), .ref a2, .ref a3])), (a1, .inl (d1, 4096, .inl ft)), (a2, .inl (d2, 32, .inl fk)), (a3, .inl (d3, 16, .inl fg))]) (va_A [(o0, .inr (0, [.ref a1, .int (nI z), .ref a2, .ref a3])), (a1, .inl (d1, 4096, .inl ft)), (a2, .inl (d2, 32, .inl fk)), (a3, .inl (d3, 16, .inl fg))] sz)) 0 0 (va_A [(o0, .inr (0, [.ref a1, .int (nI z), .ref a2, .ref a3])), (a1, .inl (d1, 4096, .inl ft)), (a2, .inl (d2, 32, .inl fk)), (a3, .inl (d3, 16, .inl fg))] sz) := by
  refine Met.ofW (cc := cX0_size) (maxL := 1) (ret := (some .int)) (by decide) rfl ?_
  intro p e s m args below meth c s₁ B hml hv
  obtain ⟨rfl, hsz, hP, hK, hD0⟩ := hv
  have hx := B.exec
  have hb := B.bytes
  have hr := B.returns
  have hts := atoms_spec (ws := wsX0_size) B.pre
  have hts : ∀ w ∈ lw_all, w.before _ s = true := fun w h => hts w (List.mem_cons_of_mem _ h)
  have hown : s.vm.findClass RX0 = some m.cls := findClass_of_methodNamed B.named
  have hlocks := B.notSynchronized
  subst hsz
  have hD := hD0.self (sz := s.heap.size)
  generalize hAe : va_A [(o0, .inr (0, [.ref a1, .int (nI z), .ref a2, .ref a3])), (a1, .inl (d1, 4096, .inl ft)), (a2, .inl (d2, 32, .inl fk)), (a3, .inl (d3, 16, .inl fg))] s.heap.size = A at hD ⊢
  have hA : ∀ q : Nat, s.heap.size ≤ q → A q := fun q h => by rw [← hAe]; exact Or.inr h
  have hS : va_S A s.heap s.heap [] := va_S.rf
  have hP : va_P (dC, dI) vwCl [(o0, .inr (0, [.ref a1, .int (nI z), .ref a2, .ref a3])), (a1, .inl (d1, 4096, .inl ft)), (a2, .inl (d2, 32, .inl fk)), (a3, .inl (d3, 16, .inl fg))] s.heap := hP
  have hl := lv_entry ([.ref o0]) (n := 1) (Nat.le_of_ble_eq_true rfl)
  rw [lg_entry_eq]
  generalize (lg_sl ([.ref o0]) ++ List.replicate (1 - (lg_sl ([.ref o0])).length) Slot.unset).toArray = ls at hl ⊢
  have hl : lv_has ls 1 [(0, .ref o0)] := hl
  refine lv_aload_n hx hb dX0_size_0 rfl (lv_at hl 0 rfl) ?_
  refine va_get (D := (dC, dI)) (ci := 0) (v := .int (nI z)) (C := RX0) (T := TX0) (N := 4) hx hb hts in_X0 hown hK hP 0 rfl rfl 1 (by decide) (hts _ q28) (fun _ h9 => h9) rfl dX0_size_1 ?_
  have hP9 := hP.sub (ws' := [(o0, .inr (0, [.ref a1, .int (nI z), .ref a2, .ref a3])), (a1, .inl (d1, 4096, .inl ft)), (a2, .inl (d2, 32, .inl fk)), (a3, .inl (d3, 16, .inl fg))]) [0, 1, 2, 3] rfl
  have hD9 := hD.sub (ws' := [(o0, .inr (0, [.ref a1, .int (nI z), .ref a2, .ref a3])), (a1, .inl (d1, 4096, .inl ft)), (a2, .inl (d2, 32, .inl fk)), (a3, .inl (d3, 16, .inl fg))]) [0, 1, 2, 3] (by decide) rfl
  have hK9 := hK.sub (tys' := [(d1, .byte), (d2, .byte), (d3, .byte)]) [0, 1, 2] rfl
  exact W.iret (v := nI z) hx hb hr (fun t ht hW => ⟨⟨nI z, (), rfl, rfl, by rw [ht]; exact hP9, va_K.moved hW.alike hK9, hD9⟩, hS.F ht⟩) hS.2.2 dX0_size_4
abbrev wsX0_answer : List Cond := ws_ yX0_answer cX0_answer 2 (some .int)
set_option maxHeartbeats 4000000 in
set_option maxRecDepth 100000 in
/-- answer: a byte of the tag -/
theorem metX0_answer (l : Launch) (dC : Nat → ClassId) (dI : Nat → Nat → Nat) (sz : Nat) (o0 a1 a2 a3 : Nat) (d1 d2 d3 : ClassId) (ft fk fg : Nat → Int32) (z : Nat) (x : Int32) : Met l yX0_answer wsX0_answer ({ frames := 0, cells := 0, slots := 0, locals := 0 }) (va_Pc [.ref o0, .int x] (fun U => U.heap.size = sz ∧ va_P (dC, dI) vwCl [(o0, .inr (0, [.ref a1, .int (nI z), .ref a2, .ref a3])), (a1, .inl (d1, 4096, .inl ft)), (a2, .inl (d2, 32, .inl fk)), (a3, .inl (d3, 16, .inl fg))] U.heap ∧ va_K (dC, dI) vwCl [(d1, .byte), (d2, .byte), (d3, .byte)] U ∧ va_D (fun _ => True) [(o0, .inr (0, [.ref a1, .int (nI z), .ref a2, .ref a3])), (a1, .inl (d1, 4096, .inl ft)), (a2, .inl (d2, 32, .inl fk)), (a3, .inl (d3, 16, .inl fg))])) (va_Qi (fun (r : Int32) (_ : Unit) => r = nI (ot_b (fg (x.toBitVec.toNat % 2 ^ 4)))) (fun (u : Unit) (t : State) => va_P (dC, dI) vwCl [(o0, .inr (0, [.ref a1, .int (nI z), .ref a2, .ref a3])), (a1, .inl (d1, 4096, .inl ft)), (a2, .inl (d2, 32, .inl fk)), (a3, .inl (d3, 16, .inl fg))] t.heap ∧ va_K (dC, dI) vwCl [(d1, .byte), (d2, .byte), (d3, .byte)] t ∧ va_D (va_A [(o0, .inr (0, [.ref a1, .int (nI z), .ref a2, .ref a3])), (a1, .inl (d1, 4096, .inl ft)), (a2, .inl (d2, 32, .inl fk)), (a3, .inl (d3, 16, .inl fg))] sz) [(o0, .inr (0, [.ref a1, .int (nI z), .ref a2, .ref a3])), (a1, .inl (d1, 4096, .inl ft)), (a2, .inl (d2, 32, .inl fk)), (a3, .inl (d3, 16, .inl fg))]) (va_A [(o0, .inr (0, [.ref a1, .int (nI z), .ref a2, .ref a3])), (a1, .inl (d1, 4096, .inl ft)), (a2, .inl (d2, 32, .inl fk)), (a3, .inl (d3, 16, .inl fg))] sz)) 0 0 (va_A [(o0, .inr (0, [.ref a1, .int (nI z), .ref a2, .ref a3])), (a1, .inl (d1, 4096, .inl ft)), (a2, .inl (d2, 32, .inl fk)), (a3, .inl (d3, 16, .inl fg))] sz) := by
  refine Met.ofW (cc := cX0_answer) (maxL := 2) (ret := (some .int)) (by decide) rfl ?_
  intro p e s m args below meth c s₁ B hml hv
  obtain ⟨rfl, hsz, hP, hK, hD0⟩ := hv
  have hx := B.exec
  have hb := B.bytes
  have hr := B.returns
  have hts := atoms_spec (ws := wsX0_answer) B.pre
  have hts : ∀ w ∈ lw_all, w.before _ s = true := fun w h => hts w (List.mem_cons_of_mem _ h)
  have hown : s.vm.findClass RX0 = some m.cls := findClass_of_methodNamed B.named
  have hlocks := B.notSynchronized
  subst hsz
  have hD := hD0.self (sz := s.heap.size)
  generalize hAe : va_A [(o0, .inr (0, [.ref a1, .int (nI z), .ref a2, .ref a3])), (a1, .inl (d1, 4096, .inl ft)), (a2, .inl (d2, 32, .inl fk)), (a3, .inl (d3, 16, .inl fg))] s.heap.size = A at hD ⊢
  have hA : ∀ q : Nat, s.heap.size ≤ q → A q := fun q h => by rw [← hAe]; exact Or.inr h
  have hS : va_S A s.heap s.heap [] := va_S.rf
  have hP : va_P (dC, dI) vwCl [(o0, .inr (0, [.ref a1, .int (nI z), .ref a2, .ref a3])), (a1, .inl (d1, 4096, .inl ft)), (a2, .inl (d2, 32, .inl fk)), (a3, .inl (d3, 16, .inl fg))] s.heap := hP
  have hl := lv_entry ([.ref o0, .int x]) (n := 2) (Nat.le_of_ble_eq_true rfl)
  rw [lg_entry_eq]
  generalize (lg_sl ([.ref o0, .int x]) ++ List.replicate (2 - (lg_sl ([.ref o0, .int x])).length) Slot.unset).toArray = ls at hl ⊢
  have hl : lv_has ls 2 [(0, .ref o0), (1, .int x)] := hl
  refine lv_aload_n hx hb dX0_answer_0 rfl (lv_at hl 0 rfl) ?_
  refine va_get (D := (dC, dI)) (ci := 0) (v := .ref a3) (C := RX0) (T := TX0) (N := 4) hx hb hts in_X0 hown hK hP 0 rfl rfl 3 (by decide) (hts _ q30) (fun _ h9 => h9) rfl dX0_answer_1 ?_
  refine lv_iload_n hx hb dX0_answer_4 rfl (lv_at hl 1 rfl) ?_
  refine lv_bipush (v := nI 15) hx hb dX0_answer_5 (by decide) ?_
  refine lv_iand hx hb dX0_answer_7 ?_
  refine ot_topi (nI (x.toBitVec.toNat % 2 ^ 4)) (pk_and x 4 (by decide)) ?_
  refine ot_bald (k := (x.toBitVec.toNat % 2 ^ 4)) hx hb hK hP 3 2 rfl rfl (by omega) (by omega) dX0_answer_8 ?_
  refine lv_sipush (v := nI 255) hx hb dX0_answer_9 (by decide) ?_
  refine lv_iand hx hb dX0_answer_12 ?_
  refine ot_topi (nI (ot_b (fg (x.toBitVec.toNat % 2 ^ 4)))) (ot_and255 _) ?_
  have hP9 := hP.sub (ws' := [(o0, .inr (0, [.ref a1, .int (nI z), .ref a2, .ref a3])), (a1, .inl (d1, 4096, .inl ft)), (a2, .inl (d2, 32, .inl fk)), (a3, .inl (d3, 16, .inl fg))]) [0, 1, 2, 3] rfl
  have hD9 := hD.sub (ws' := [(o0, .inr (0, [.ref a1, .int (nI z), .ref a2, .ref a3])), (a1, .inl (d1, 4096, .inl ft)), (a2, .inl (d2, 32, .inl fk)), (a3, .inl (d3, 16, .inl fg))]) [0, 1, 2, 3] (by decide) rfl
  have hK9 := hK.sub (tys' := [(d1, .byte), (d2, .byte), (d3, .byte)]) [0, 1, 2] rfl
  exact W.iret (v := nI (ot_b (fg (x.toBitVec.toNat % 2 ^ 4)))) hx hb hr (fun t ht hW => ⟨⟨nI (ot_b (fg (x.toBitVec.toNat % 2 ^ 4))), (), rfl, rfl, by rw [ht]; exact hP9, va_K.moved hW.alike hK9, hD9⟩, hS.F ht⟩) hS.2.2 dX0_answer_13
abbrev wsX0_trim : List Cond := ws_ yX0_trim cX0_trim 2 none
set_option maxHeartbeats 4000000 in
set_option maxRecDepth 100000 in
/-- trim: the size falls -/
theorem metX0_trim (l : Launch) (dC : Nat → ClassId) (dI : Nat → Nat → Nat) (sz : Nat) (o0 a1 a2 a3 : Nat) (d1 d2 d3 : ClassId) (ft fk fg : Nat → Int32) (z : Nat) (x : Int32) (hz : z ≤ 4096) : Met l yX0_trim wsX0_trim ({ frames := 1, cells := 0, slots := 0, locals := 21 }) (va_Pc [.ref o0, .int x] (fun U => U.heap.size = sz ∧ va_P (dC, dI) vwCl [(o0, .inr (0, [.ref a1, .int (nI z), .ref a2, .ref a3])), (a1, .inl (d1, 4096, .inl ft)), (a2, .inl (d2, 32, .inl fk)), (a3, .inl (d3, 16, .inl fg))] U.heap ∧ va_K (dC, dI) vwCl [(d1, .byte), (d2, .byte), (d3, .byte)] U ∧ va_D (fun _ => True) [(o0, .inr (0, [.ref a1, .int (nI z), .ref a2, .ref a3])), (a1, .inl (d1, 4096, .inl ft)), (a2, .inl (d2, 32, .inl fk)), (a3, .inl (d3, 16, .inl fg))])) (va_Qv (fun (_ : Unit) => True) (fun (u : Unit) (t : State) => va_P (dC, dI) vwCl [(o0, .inr (0, [.ref a1, .int (nI (ot_from x z)), .ref a2, .ref a3])), (a1, .inl (d1, 4096, .inl ft)), (a2, .inl (d2, 32, .inl fk)), (a3, .inl (d3, 16, .inl fg))] t.heap ∧ va_K (dC, dI) vwCl [(d1, .byte), (d2, .byte), (d3, .byte)] t ∧ va_D (va_A [(o0, .inr (0, [.ref a1, .int (nI z), .ref a2, .ref a3])), (a1, .inl (d1, 4096, .inl ft)), (a2, .inl (d2, 32, .inl fk)), (a3, .inl (d3, 16, .inl fg))] sz) [(o0, .inr (0, [.ref a1, .int (nI (ot_from x z)), .ref a2, .ref a3])), (a1, .inl (d1, 4096, .inl ft)), (a2, .inl (d2, 32, .inl fk)), (a3, .inl (d3, 16, .inl fg))]) (va_A [(o0, .inr (0, [.ref a1, .int (nI z), .ref a2, .ref a3])), (a1, .inl (d1, 4096, .inl ft)), (a2, .inl (d2, 32, .inl fk)), (a3, .inl (d3, 16, .inl fg))] sz)) 0 0 (va_A [(o0, .inr (0, [.ref a1, .int (nI z), .ref a2, .ref a3])), (a1, .inl (d1, 4096, .inl ft)), (a2, .inl (d2, 32, .inl fk)), (a3, .inl (d3, 16, .inl fg))] sz) := by
  refine Met.ofW (cc := cX0_trim) (maxL := 2) (ret := none) (by decide) rfl ?_
  intro p e s m args below meth c s₁ B hml hv
  obtain ⟨rfl, hsz, hP, hK, hD0⟩ := hv
  have hx := B.exec
  have hb := B.bytes
  have hr := B.returns
  have hts := atoms_spec (ws := wsX0_trim) B.pre
  have hts : ∀ w ∈ lw_all, w.before _ s = true := fun w h => hts w (List.mem_cons_of_mem _ h)
  have hown : s.vm.findClass RX0 = some m.cls := findClass_of_methodNamed B.named
  have hlocks := B.notSynchronized
  subst hsz
  have hD := hD0.self (sz := s.heap.size)
  generalize hAe : va_A [(o0, .inr (0, [.ref a1, .int (nI z), .ref a2, .ref a3])), (a1, .inl (d1, 4096, .inl ft)), (a2, .inl (d2, 32, .inl fk)), (a3, .inl (d3, 16, .inl fg))] s.heap.size = A at hD ⊢
  have hA : ∀ q : Nat, s.heap.size ≤ q → A q := fun q h => by rw [← hAe]; exact Or.inr h
  have hS : va_S A s.heap s.heap [] := va_S.rf
  have hP : va_P (dC, dI) vwCl [(o0, .inr (0, [.ref a1, .int (nI z), .ref a2, .ref a3])), (a1, .inl (d1, 4096, .inl ft)), (a2, .inl (d2, 32, .inl fk)), (a3, .inl (d3, 16, .inl fg))] s.heap := hP
  have hl := lv_entry ([.ref o0, .int x]) (n := 2) (Nat.le_of_ble_eq_true rfl)
  rw [lg_entry_eq]
  generalize (lg_sl ([.ref o0, .int x]) ++ List.replicate (2 - (lg_sl ([.ref o0, .int x])).length) Slot.unset).toArray = ls at hl ⊢
  have hl : lv_has ls 2 [(0, .ref o0), (1, .int x)] := hl
  refine lv_aload_n hx hb dX0_trim_0 rfl (lv_at hl 0 rfl) ?_
  refine lv_aload_n hx hb dX0_trim_1 rfl (lv_at hl 0 rfl) ?_
  refine lv_iload_n hx hb dX0_trim_2 rfl (lv_at hl 1 rfl) ?_
  have hPc := hP.sub (ws' := [(o0, .inr (0, [.ref a1, .int (nI z), .ref a2, .ref a3])), (a1, .inl (d1, 4096, .inl ft)), (a2, .inl (d2, 32, .inl fk)), (a3, .inl (d3, 16, .inl fg))]) [0, 1, 2, 3] rfl
  have hDc := hD.sub (ws' := [(o0, .inr (0, [.ref a1, .int (nI z), .ref a2, .ref a3])), (a1, .inl (d1, 4096, .inl ft)), (a2, .inl (d2, 32, .inl fk)), (a3, .inl (d3, 16, .inl fg))]) [0, 1, 2, 3] (by decide) rfl
  have hKc := hK.sub (tys' := [(d1, .byte), (d2, .byte), (d3, .byte)]) [0, 1, 2] rfl
  have hFc := va_free (wc := [(o0, .inr (0, [.ref a1, .int (nI z), .ref a2, .ref a3])), (a1, .inl (d1, 4096, .inl ft)), (a2, .inl (d2, 32, .inl fk)), (a3, .inl (d3, 16, .inl fg))]) hD hS hA [0, 1, 2, 3] rfl
  refine va_calli (va_runV (As := [.int x]) (rest := [.ref o0]) ⟨hx, hb, hml, hown, hts⟩ (metX0_from l dC dI s.heap.size o0 a1 a2 a3 d1 d2 d3 ft fk fg z x hz) (cwV 1 hts (lw_V q53 q55 qs1 q9 q56) rfl rfl rfl (by decide +kernel) ⟨Nat.le_of_ble_eq_true rfl, Nat.le_of_ble_eq_true rfl⟩) ⟨fun a U g mk q => by obtain ⟨q0, q1, qP, qK, qD⟩ := q; exact ⟨q0, q1, qP, va_K.moved (u := U) (U := U.calling g mk a) (Vm.Alike.refl U.vm) qK, qD⟩, va_recv hKc hPc (ci := 0) (q0 := 0) rfl rfl, fun U hU hW => ⟨rfl, by rw [hU], by rw [hU]; exact hPc, va_K.moved hW.alike hKc, hDc.weaken (fun _ _ _ _ => trivial)⟩⟩ rfl rfl hl.1 rfl (lv_room (Nat.le_of_ble_eq_true rfl)) dX0_trim_3 ⟨Nat.le_of_ble_eq_true rfl, Nat.le_of_ble_eq_true rfl⟩) hS (fun q _ h => hFc q h) hFc (fun r_ u_ t H1 locs ht hvm hw_ hB hz1 hk1 hS => ?_)
  obtain ⟨hP1, -, -⟩ := hB
  rw [ht] at hP1
  have hP := ot_back hP hD [0, 1, 2, 3] rfl hk1 hP1
  generalize H1 = H at hP hS ⊢
  have e_ : r_ = nI (ot_from x z) := hw_
  subst e_
  refine W.widen (k := 0) (n := 0) (Nat.le_refl _) (Nat.le_refl _) ?_
  refine va_put (D := (dC, dI)) (ci := 0) (v := .int (nI (ot_from x z))) (ty := .int) (C := RX0) (T := TX0) (N := 4) hx hb hts in_X0 tyX0 tyX0_ok nmX0 hown hK hP hD hS 0 rfl rfl 1 (by decide) (hts _ q28) (fun _ h9 => h9) rfl (by decide +kernel) rfl rfl (Nat.le_of_ble_eq_true rfl) dX0_trim_6 (fun H locs hP hD hS => ?_)
  have hP : va_P (dC, dI) vwCl [(o0, .inr (0, [.ref a1, .int (nI (ot_from x z)), .ref a2, .ref a3])), (a1, .inl (d1, 4096, .inl ft)), (a2, .inl (d2, 32, .inl fk)), (a3, .inl (d3, 16, .inl fg))] H := hP
  have hD : va_D A [(o0, .inr (0, [.ref a1, .int (nI (ot_from x z)), .ref a2, .ref a3])), (a1, .inl (d1, 4096, .inl ft)), (a2, .inl (d2, 32, .inl fk)), (a3, .inl (d3, 16, .inl fg))] := hD
  have hP9 := hP.sub (ws' := [(o0, .inr (0, [.ref a1, .int (nI (ot_from x z)), .ref a2, .ref a3])), (a1, .inl (d1, 4096, .inl ft)), (a2, .inl (d2, 32, .inl fk)), (a3, .inl (d3, 16, .inl fg))]) [0, 1, 2, 3] rfl
  have hD9 := hD.sub (ws' := [(o0, .inr (0, [.ref a1, .int (nI (ot_from x z)), .ref a2, .ref a3])), (a1, .inl (d1, 4096, .inl ft)), (a2, .inl (d2, 32, .inl fk)), (a3, .inl (d3, 16, .inl fg))]) [0, 1, 2, 3] (by decide) rfl
  have hK9 := hK.sub (tys' := [(d1, .byte), (d2, .byte), (d3, .byte)]) [0, 1, 2] rfl
  exact W.vret hx hb hr (fun t ht hW => ⟨⟨(), rfl, trivial, by rw [ht]; exact hP9, va_K.moved hW.alike hK9, hD9⟩, hS.F ht⟩) hS.2.2 dX0_trim_9
theorem ot_four16 {f M0 M1 M2 M3 : Nat → Int32} {h : Nat} {x1 x2 x3 x4 : Int32} (a0 : M0 h = ot_sb (x1.toBitVec.toNat / 2 ^ 24)) (a1 : M0 (h + 1) = ot_sb (x1.toBitVec.toNat / 2 ^ 16)) (a2 : M0 (h + 2) = ot_sb (x1.toBitVec.toNat / 2 ^ 8)) (a3 : M0 (h + 3) = ot_sb (x1.toBitVec.toNat / 2 ^ 0)) (ak : ∀ j, (j < h ∨ h + 4 ≤ j) → M0 j = f j) (c0 : M1 (h + 4) = ot_sb (x2.toBitVec.toNat / 2 ^ 24)) (c1 : M1 ((h + 4) + 1) = ot_sb (x2.toBitVec.toNat / 2 ^ 16)) (c2 : M1 ((h + 4) + 2) = ot_sb (x2.toBitVec.toNat / 2 ^ 8)) (c3 : M1 ((h + 4) + 3) = ot_sb (x2.toBitVec.toNat / 2 ^ 0)) (ck : ∀ j, (j < (h + 4) ∨ (h + 4) + 4 ≤ j) → M1 j = M0 j) (d0 : M2 (h + 8) = ot_sb (x3.toBitVec.toNat / 2 ^ 24)) (d1 : M2 ((h + 8) + 1) = ot_sb (x3.toBitVec.toNat / 2 ^ 16)) (d2 : M2 ((h + 8) + 2) = ot_sb (x3.toBitVec.toNat / 2 ^ 8)) (d3 : M2 ((h + 8) + 3) = ot_sb (x3.toBitVec.toNat / 2 ^ 0)) (dk : ∀ j, (j < (h + 8) ∨ (h + 8) + 4 ≤ j) → M2 j = M1 j) (g0 : M3 (h + 12) = ot_sb (x4.toBitVec.toNat / 2 ^ 24)) (g1 : M3 ((h + 12) + 1) = ot_sb (x4.toBitVec.toNat / 2 ^ 16)) (g2 : M3 ((h + 12) + 2) = ot_sb (x4.toBitVec.toNat / 2 ^ 8)) (g3 : M3 ((h + 12) + 3) = ot_sb (x4.toBitVec.toNat / 2 ^ 0)) (gk : ∀ j, (j < (h + 12) ∨ (h + 12) + 4 ≤ j) → M3 j = M2 j) (j : Nat) : M3 j = if h ≤ j ∧ j < h + 16 then ot_pb x1 x2 x3 x4 (j - h) else f j := by
  by_cases hj : h ≤ j ∧ j < h + 16
  · rw [if_pos hj]
    obtain ⟨k, rfl⟩ : ∃ k, j = h + k := ⟨j - h, by omega⟩
    have hk : k < 16 := by omega
    rw [show h + k - h = k by omega]
    clear hj
    rcases (show k = 0 ∨ k = 1 ∨ k = 2 ∨ k = 3 ∨ k = 4 ∨ k = 5 ∨ k = 6 ∨ k = 7 ∨ k = 8 ∨ k = 9 ∨ k = 10 ∨ k = 11 ∨ k = 12 ∨ k = 13 ∨ k = 14 ∨ k = 15 by omega) with rfl | rfl | rfl | rfl | rfl | rfl | rfl | rfl | rfl | rfl | rfl | rfl | rfl | rfl | rfl | rfl
    · rw [gk (h + 0) (by omega), dk (h + 0) (by omega), ck (h + 0) (by omega)]; exact a0
    · rw [gk (h + 1) (by omega), dk (h + 1) (by omega), ck (h + 1) (by omega)]; exact a1
    · rw [gk (h + 2) (by omega), dk (h + 2) (by omega), ck (h + 2) (by omega)]; exact a2
    · rw [gk (h + 3) (by omega), dk (h + 3) (by omega), ck (h + 3) (by omega)]; exact a3
    · rw [gk (h + 4) (by omega), dk (h + 4) (by omega)]; exact c0
    · rw [gk (h + 5) (by omega), dk (h + 5) (by omega)]; exact c1
    · rw [gk (h + 6) (by omega), dk (h + 6) (by omega)]; exact c2
    · rw [gk (h + 7) (by omega), dk (h + 7) (by omega)]; exact c3
    · rw [gk (h + 8) (by omega)]; exact d0
    · rw [gk (h + 9) (by omega)]; exact d1
    · rw [gk (h + 10) (by omega)]; exact d2
    · rw [gk (h + 11) (by omega)]; exact d3
    · exact g0
    · exact g1
    · exact g2
    · exact g3
  · rw [if_neg hj, gk j (by omega), dk j (by omega), ck j (by omega), ak j (by omega)]
abbrev wsX0_key : List Cond := ws_ yX0_key cX0_key 7 none
set_option maxHeartbeats 4000000 in
set_option maxRecDepth 100000 in
/-- key: half of the key -/
theorem metX0_key (l : Launch) (dC : Nat → ClassId) (dI : Nat → Nat → Nat) (sz : Nat) (o0 a1 a2 a3 : Nat) (d1 d2 d3 : ClassId) (ft fk fg : Nat → Int32) (z : Nat) (hf x1 x2 x3 x4 : Int32) : Met l yX0_key wsX0_key ({ frames := 1, cells := 0, slots := 0, locals := 22 }) (va_Pc [.ref o0, .int hf, .int x1, .int x2, .int x3, .int x4] (fun U => U.heap.size = sz ∧ va_P (dC, dI) vwCl [(o0, .inr (0, [.ref a1, .int (nI z), .ref a2, .ref a3])), (a1, .inl (d1, 4096, .inl ft)), (a2, .inl (d2, 32, .inl fk)), (a3, .inl (d3, 16, .inl fg))] U.heap ∧ va_K (dC, dI) vwCl [(d1, .byte), (d2, .byte), (d3, .byte)] U ∧ va_D (fun _ => True) [(o0, .inr (0, [.ref a1, .int (nI z), .ref a2, .ref a3])), (a1, .inl (d1, 4096, .inl ft)), (a2, .inl (d2, 32, .inl fk)), (a3, .inl (d3, 16, .inl fg))])) (va_Qv (fun (F : Nat → Int32) => ∀ j, F j = if 16 * (hf.toBitVec.toNat % 2) ≤ j ∧ j < 16 * (hf.toBitVec.toNat % 2) + 16 then ot_pb x1 x2 x3 x4 (j - 16 * (hf.toBitVec.toNat % 2)) else fk j) (fun (u : Nat → Int32) (t : State) => va_P (dC, dI) vwCl [(o0, .inr (0, [.ref a1, .int (nI z), .ref a2, .ref a3])), (a1, .inl (d1, 4096, .inl ft)), (a2, .inl (d2, 32, .inl u)), (a3, .inl (d3, 16, .inl fg))] t.heap ∧ va_K (dC, dI) vwCl [(d1, .byte), (d2, .byte), (d3, .byte)] t ∧ va_D (va_A [(o0, .inr (0, [.ref a1, .int (nI z), .ref a2, .ref a3])), (a1, .inl (d1, 4096, .inl ft)), (a2, .inl (d2, 32, .inl fk)), (a3, .inl (d3, 16, .inl fg))] sz) [(o0, .inr (0, [.ref a1, .int (nI z), .ref a2, .ref a3])), (a1, .inl (d1, 4096, .inl ft)), (a2, .inl (d2, 32, .inl u)), (a3, .inl (d3, 16, .inl fg))]) (va_A [(o0, .inr (0, [.ref a1, .int (nI z), .ref a2, .ref a3])), (a1, .inl (d1, 4096, .inl ft)), (a2, .inl (d2, 32, .inl fk)), (a3, .inl (d3, 16, .inl fg))] sz)) 0 0 (va_A [(o0, .inr (0, [.ref a1, .int (nI z), .ref a2, .ref a3])), (a1, .inl (d1, 4096, .inl ft)), (a2, .inl (d2, 32, .inl fk)), (a3, .inl (d3, 16, .inl fg))] sz) := by
  refine Met.ofW (cc := cX0_key) (maxL := 7) (ret := none) (by decide) rfl ?_
  intro p e s m args below meth c s₁ B hml hv
  obtain ⟨rfl, hsz, hP, hK, hD0⟩ := hv
  have hx := B.exec
  have hb := B.bytes
  have hr := B.returns
  have hts := atoms_spec (ws := wsX0_key) B.pre
  have hts : ∀ w ∈ lw_all, w.before _ s = true := fun w h => hts w (List.mem_cons_of_mem _ h)
  have hown : s.vm.findClass RX0 = some m.cls := findClass_of_methodNamed B.named
  have hlocks := B.notSynchronized
  subst hsz
  have hD := hD0.self (sz := s.heap.size)
  generalize hAe : va_A [(o0, .inr (0, [.ref a1, .int (nI z), .ref a2, .ref a3])), (a1, .inl (d1, 4096, .inl ft)), (a2, .inl (d2, 32, .inl fk)), (a3, .inl (d3, 16, .inl fg))] s.heap.size = A at hD ⊢
  have hA : ∀ q : Nat, s.heap.size ≤ q → A q := fun q h => by rw [← hAe]; exact Or.inr h
  have hS : va_S A s.heap s.heap [] := va_S.rf
  have hP : va_P (dC, dI) vwCl [(o0, .inr (0, [.ref a1, .int (nI z), .ref a2, .ref a3])), (a1, .inl (d1, 4096, .inl ft)), (a2, .inl (d2, 32, .inl fk)), (a3, .inl (d3, 16, .inl fg))] s.heap := hP
  have hl := lv_entry ([.ref o0, .int hf, .int x1, .int x2, .int x3, .int x4]) (n := 7) (Nat.le_of_ble_eq_true rfl)
  rw [lg_entry_eq]
  generalize (lg_sl ([.ref o0, .int hf, .int x1, .int x2, .int x3, .int x4]) ++ List.replicate (7 - (lg_sl ([.ref o0, .int hf, .int x1, .int x2, .int x3, .int x4])).length) Slot.unset).toArray = ls at hl ⊢
  have hl : lv_has ls 7 [(0, .ref o0), (1, .int hf), (2, .int x1), (3, .int x2), (4, .int x3), (5, .int x4)] := hl
  have hhb : hf.toBitVec.toNat % 2 < 2 := Nat.mod_lt _ (by decide)
  refine lv_iload_n hx hb dX0_key_0 rfl (lv_at hl 1 rfl) ?_
  refine lv_iconst (v := nI 1) hx hb dX0_key_1 (by decide) ?_
  refine lv_iand hx hb dX0_key_2 ?_
  refine ot_topi (nI (hf.toBitVec.toNat % 2 ^ 1)) (pk_and hf 1 (by decide)) ?_
  refine lv_iconst (v := nI 4) hx hb dX0_key_3 (by decide) ?_
  refine lv_ishl hx hb dX0_key_4 ?_
  refine ot_topi (nI (hf.toBitVec.toNat % 2 ^ 1 * 2 ^ 4)) (pk_shlN (nI 4 &&& 31) 4 (by decide) (by omega)) ?_
  refine ot_topi (nI (16 * (hf.toBitVec.toNat % 2))) (congrArg nI (by omega)) ?_
  generalize hhe : 16 * (hf.toBitVec.toNat % 2) = hb_ at *
  have hhb2 : hb_ ≤ 16 := by omega
  refine lv_istore (lv' := [(6, .int (nI hb_)), (0, .ref o0), (1, .int hf), (2, .int x1), (3, .int x2), (4, .int x3), (5, .int x4)]) hx hb dX0_key_5 hl (by decide) rfl (fun ls hl => ?_)
  refine lv_aload_n hx hb dX0_key_7 rfl (lv_at hl 1 rfl) ?_
  refine lv_iload hx hb dX0_key_8 (lv_at hl 0 rfl) ?_
  refine lv_iload_n hx hb dX0_key_10 rfl (lv_at hl 3 rfl) ?_
  have hPc := hP.sub (ws' := [(o0, .inr (0, [.ref a1, .int (nI z), .ref a2, .ref a3])), (a1, .inl (d1, 4096, .inl ft)), (a2, .inl (d2, 32, .inl fk)), (a3, .inl (d3, 16, .inl fg))]) [0, 1, 2, 3] rfl
  have hDc := hD.sub (ws' := [(o0, .inr (0, [.ref a1, .int (nI z), .ref a2, .ref a3])), (a1, .inl (d1, 4096, .inl ft)), (a2, .inl (d2, 32, .inl fk)), (a3, .inl (d3, 16, .inl fg))]) [0, 1, 2, 3] (by decide) rfl
  have hKc := hK.sub (tys' := [(d1, .byte), (d2, .byte), (d3, .byte)]) [0, 1, 2] rfl
  have hFc := va_free (wc := [(o0, .inr (0, [.ref a1, .int (nI z), .ref a2, .ref a3])), (a1, .inl (d1, 4096, .inl ft)), (a2, .inl (d2, 32, .inl fk)), (a3, .inl (d3, 16, .inl fg))]) hD hS hA [0, 1, 2, 3] rfl
  refine va_callv (va_runV (As := [.int (nI hb_), .int x1]) (rest := []) ⟨hx, hb, hml, hown, hts⟩ (metX0_k l dC dI s.heap.size o0 a1 a2 a3 d1 d2 d3 ft fk fg z hb_ x1 (by omega)) (cwV 2 hts (lw_V q66 q68 qs2 q9 q69) rfl rfl rfl (by decide +kernel) ⟨Nat.le_of_ble_eq_true rfl, Nat.le_of_ble_eq_true rfl⟩) ⟨fun a U g mk q => by obtain ⟨q0, q1, qP, qK, qD⟩ := q; exact ⟨q0, q1, qP, va_K.moved (u := U) (U := U.calling g mk a) (Vm.Alike.refl U.vm) qK, qD⟩, va_recv hKc hPc (ci := 0) (q0 := 0) rfl rfl, fun U hU hW => ⟨rfl, by rw [hU], by rw [hU]; exact hPc, va_K.moved hW.alike hKc, hDc.weaken (fun _ _ _ _ => trivial)⟩⟩ rfl rfl hl.1 rfl (lv_room (Nat.le_of_ble_eq_true rfl)) dX0_key_11 ⟨Nat.le_of_ble_eq_true rfl, Nat.le_of_ble_eq_true rfl⟩) hS (fun q _ h => hFc q h) hFc (fun M0 t H1 locs ht hvm hw_ hB hz1 hk1 hS => ?_)
  obtain ⟨hP1, hK1, hD1⟩ := hB
  rw [ht] at hP1
  have hK1 := va_K.moved hvm.symm hK1
  obtain ⟨hP, hD⟩ := va_join (wr := []) (w1 := [(o0, .inr (0, [.ref a1, .int (nI z), .ref a2, .ref a3])), (a1, .inl (d1, 4096, .inl ft)), (a2, .inl (d2, 32, .inl M0)), (a3, .inl (d3, 16, .inl fg))]) hP hD [0, 1, 2, 3] [] rfl rfl (by decide) (by decide) hk1 hFc hP1 hD1
  generalize H1 = H at hP hS ⊢
  have hP := hP.sub (ws' := [(o0, .inr (0, [.ref a1, .int (nI z), .ref a2, .ref a3])), (a1, .inl (d1, 4096, .inl ft)), (a2, .inl (d2, 32, .inl M0)), (a3, .inl (d3, 16, .inl fg))]) [0, 1, 2, 3] rfl
  have hD := hD.sub (ws' := [(o0, .inr (0, [.ref a1, .int (nI z), .ref a2, .ref a3])), (a1, .inl (d1, 4096, .inl ft)), (a2, .inl (d2, 32, .inl M0)), (a3, .inl (d3, 16, .inl fg))]) [0, 1, 2, 3] (by decide) rfl
  refine W.widen (k := 0) (n := 0) (Nat.le_refl _) (Nat.le_refl _) ?_
  have hM0 : M0 hb_ = ot_sb (x1.toBitVec.toNat / 2 ^ 24) ∧ M0 (hb_ + 1) = ot_sb (x1.toBitVec.toNat / 2 ^ 16) ∧ M0 (hb_ + 2) = ot_sb (x1.toBitVec.toNat / 2 ^ 8) ∧ M0 (hb_ + 3) = ot_sb (x1.toBitVec.toNat / 2 ^ 0) ∧ ∀ j, (j < hb_ ∨ hb_ + 4 ≤ j) → M0 j = fk j := hw_
  refine lv_aload_n hx hb dX0_key_14 rfl (lv_at hl 1 rfl) ?_
  refine lv_iload hx hb dX0_key_15 (lv_at hl 0 rfl) ?_
  refine lv_iconst (v := nI 4) hx hb dX0_key_17 (by decide) ?_
  refine lv_iadd hx hb dX0_key_18 ?_
  refine ot_topi (nI (hb_ + 4)) (nI_add _ _) ?_
  refine lv_iload_n hx hb dX0_key_19 rfl (lv_at hl 4 rfl) ?_
  have hPc := hP.sub (ws' := [(o0, .inr (0, [.ref a1, .int (nI z), .ref a2, .ref a3])), (a1, .inl (d1, 4096, .inl ft)), (a2, .inl (d2, 32, .inl M0)), (a3, .inl (d3, 16, .inl fg))]) [0, 1, 2, 3] rfl
  have hDc := hD.sub (ws' := [(o0, .inr (0, [.ref a1, .int (nI z), .ref a2, .ref a3])), (a1, .inl (d1, 4096, .inl ft)), (a2, .inl (d2, 32, .inl M0)), (a3, .inl (d3, 16, .inl fg))]) [0, 1, 2, 3] (by decide) rfl
  have hKc := hK.sub (tys' := [(d1, .byte), (d2, .byte), (d3, .byte)]) [0, 1, 2] rfl
  have hFc := va_free (wc := [(o0, .inr (0, [.ref a1, .int (nI z), .ref a2, .ref a3])), (a1, .inl (d1, 4096, .inl ft)), (a2, .inl (d2, 32, .inl M0)), (a3, .inl (d3, 16, .inl fg))]) hD hS hA [0, 1, 2, 3] rfl
  refine va_callv (va_runV (As := [.int (nI (hb_ + 4)), .int x2]) (rest := []) ⟨hx, hb, hml, hown, hts⟩ (metX0_k l dC dI H.size o0 a1 a2 a3 d1 d2 d3 ft M0 fg z (hb_ + 4) x2 (by omega)) (cwV 2 hts (lw_V q66 q68 qs2 q9 q69) rfl rfl rfl (by decide +kernel) ⟨Nat.le_of_ble_eq_true rfl, Nat.le_of_ble_eq_true rfl⟩) ⟨fun a U g mk q => by obtain ⟨q0, q1, qP, qK, qD⟩ := q; exact ⟨q0, q1, qP, va_K.moved (u := U) (U := U.calling g mk a) (Vm.Alike.refl U.vm) qK, qD⟩, va_recv hKc hPc (ci := 0) (q0 := 0) rfl rfl, fun U hU hW => ⟨rfl, by rw [hU], by rw [hU]; exact hPc, va_K.moved hW.alike hKc, hDc.weaken (fun _ _ _ _ => trivial)⟩⟩ rfl rfl hl.1 rfl (lv_room (Nat.le_of_ble_eq_true rfl)) dX0_key_20 ⟨Nat.le_of_ble_eq_true rfl, Nat.le_of_ble_eq_true rfl⟩) hS (fun q _ h => hFc q h) hFc (fun M1 t H1 locs ht hvm hw_ hB hz1 hk1 hS => ?_)
  obtain ⟨hP1, hK1, hD1⟩ := hB
  rw [ht] at hP1
  have hK1 := va_K.moved hvm.symm hK1
  obtain ⟨hP, hD⟩ := va_join (wr := []) (w1 := [(o0, .inr (0, [.ref a1, .int (nI z), .ref a2, .ref a3])), (a1, .inl (d1, 4096, .inl ft)), (a2, .inl (d2, 32, .inl M1)), (a3, .inl (d3, 16, .inl fg))]) hP hD [0, 1, 2, 3] [] rfl rfl (by decide) (by decide) hk1 hFc hP1 hD1
  generalize H1 = H at hP hS ⊢
  have hP := hP.sub (ws' := [(o0, .inr (0, [.ref a1, .int (nI z), .ref a2, .ref a3])), (a1, .inl (d1, 4096, .inl ft)), (a2, .inl (d2, 32, .inl M1)), (a3, .inl (d3, 16, .inl fg))]) [0, 1, 2, 3] rfl
  have hD := hD.sub (ws' := [(o0, .inr (0, [.ref a1, .int (nI z), .ref a2, .ref a3])), (a1, .inl (d1, 4096, .inl ft)), (a2, .inl (d2, 32, .inl M1)), (a3, .inl (d3, 16, .inl fg))]) [0, 1, 2, 3] (by decide) rfl
  refine W.widen (k := 0) (n := 0) (Nat.le_refl _) (Nat.le_refl _) ?_
  have hM1 : M1 (hb_ + 4) = ot_sb (x2.toBitVec.toNat / 2 ^ 24) ∧ M1 ((hb_ + 4) + 1) = ot_sb (x2.toBitVec.toNat / 2 ^ 16) ∧ M1 ((hb_ + 4) + 2) = ot_sb (x2.toBitVec.toNat / 2 ^ 8) ∧ M1 ((hb_ + 4) + 3) = ot_sb (x2.toBitVec.toNat / 2 ^ 0) ∧ ∀ j, (j < (hb_ + 4) ∨ (hb_ + 4) + 4 ≤ j) → M1 j = M0 j := hw_
  refine lv_aload_n hx hb dX0_key_23 rfl (lv_at hl 1 rfl) ?_
  refine lv_iload hx hb dX0_key_24 (lv_at hl 0 rfl) ?_
  refine lv_bipush (v := nI 8) hx hb dX0_key_26 (by decide) ?_
  refine lv_iadd hx hb dX0_key_28 ?_
  refine ot_topi (nI (hb_ + 8)) (nI_add _ _) ?_
  refine lv_iload hx hb dX0_key_29 (lv_at hl 5 rfl) ?_
  have hPc := hP.sub (ws' := [(o0, .inr (0, [.ref a1, .int (nI z), .ref a2, .ref a3])), (a1, .inl (d1, 4096, .inl ft)), (a2, .inl (d2, 32, .inl M1)), (a3, .inl (d3, 16, .inl fg))]) [0, 1, 2, 3] rfl
  have hDc := hD.sub (ws' := [(o0, .inr (0, [.ref a1, .int (nI z), .ref a2, .ref a3])), (a1, .inl (d1, 4096, .inl ft)), (a2, .inl (d2, 32, .inl M1)), (a3, .inl (d3, 16, .inl fg))]) [0, 1, 2, 3] (by decide) rfl
  have hKc := hK.sub (tys' := [(d1, .byte), (d2, .byte), (d3, .byte)]) [0, 1, 2] rfl
  have hFc := va_free (wc := [(o0, .inr (0, [.ref a1, .int (nI z), .ref a2, .ref a3])), (a1, .inl (d1, 4096, .inl ft)), (a2, .inl (d2, 32, .inl M1)), (a3, .inl (d3, 16, .inl fg))]) hD hS hA [0, 1, 2, 3] rfl
  refine va_callv (va_runV (As := [.int (nI (hb_ + 8)), .int x3]) (rest := []) ⟨hx, hb, hml, hown, hts⟩ (metX0_k l dC dI H.size o0 a1 a2 a3 d1 d2 d3 ft M1 fg z (hb_ + 8) x3 (by omega)) (cwV 2 hts (lw_V q66 q68 qs2 q9 q69) rfl rfl rfl (by decide +kernel) ⟨Nat.le_of_ble_eq_true rfl, Nat.le_of_ble_eq_true rfl⟩) ⟨fun a U g mk q => by obtain ⟨q0, q1, qP, qK, qD⟩ := q; exact ⟨q0, q1, qP, va_K.moved (u := U) (U := U.calling g mk a) (Vm.Alike.refl U.vm) qK, qD⟩, va_recv hKc hPc (ci := 0) (q0 := 0) rfl rfl, fun U hU hW => ⟨rfl, by rw [hU], by rw [hU]; exact hPc, va_K.moved hW.alike hKc, hDc.weaken (fun _ _ _ _ => trivial)⟩⟩ rfl rfl hl.1 rfl (lv_room (Nat.le_of_ble_eq_true rfl)) dX0_key_31 ⟨Nat.le_of_ble_eq_true rfl, Nat.le_of_ble_eq_true rfl⟩) hS (fun q _ h => hFc q h) hFc (fun M2 t H1 locs ht hvm hw_ hB hz1 hk1 hS => ?_)
  obtain ⟨hP1, hK1, hD1⟩ := hB
  rw [ht] at hP1
  have hK1 := va_K.moved hvm.symm hK1
  obtain ⟨hP, hD⟩ := va_join (wr := []) (w1 := [(o0, .inr (0, [.ref a1, .int (nI z), .ref a2, .ref a3])), (a1, .inl (d1, 4096, .inl ft)), (a2, .inl (d2, 32, .inl M2)), (a3, .inl (d3, 16, .inl fg))]) hP hD [0, 1, 2, 3] [] rfl rfl (by decide) (by decide) hk1 hFc hP1 hD1
  generalize H1 = H at hP hS ⊢
  have hP := hP.sub (ws' := [(o0, .inr (0, [.ref a1, .int (nI z), .ref a2, .ref a3])), (a1, .inl (d1, 4096, .inl ft)), (a2, .inl (d2, 32, .inl M2)), (a3, .inl (d3, 16, .inl fg))]) [0, 1, 2, 3] rfl
  have hD := hD.sub (ws' := [(o0, .inr (0, [.ref a1, .int (nI z), .ref a2, .ref a3])), (a1, .inl (d1, 4096, .inl ft)), (a2, .inl (d2, 32, .inl M2)), (a3, .inl (d3, 16, .inl fg))]) [0, 1, 2, 3] (by decide) rfl
  refine W.widen (k := 0) (n := 0) (Nat.le_refl _) (Nat.le_refl _) ?_
  have hM2 : M2 (hb_ + 8) = ot_sb (x3.toBitVec.toNat / 2 ^ 24) ∧ M2 ((hb_ + 8) + 1) = ot_sb (x3.toBitVec.toNat / 2 ^ 16) ∧ M2 ((hb_ + 8) + 2) = ot_sb (x3.toBitVec.toNat / 2 ^ 8) ∧ M2 ((hb_ + 8) + 3) = ot_sb (x3.toBitVec.toNat / 2 ^ 0) ∧ ∀ j, (j < (hb_ + 8) ∨ (hb_ + 8) + 4 ≤ j) → M2 j = M1 j := hw_
  refine lv_aload_n hx hb dX0_key_34 rfl (lv_at hl 1 rfl) ?_
  refine lv_iload hx hb dX0_key_35 (lv_at hl 0 rfl) ?_
  refine lv_bipush (v := nI 12) hx hb dX0_key_37 (by decide) ?_
  refine lv_iadd hx hb dX0_key_39 ?_
  refine ot_topi (nI (hb_ + 12)) (nI_add _ _) ?_
  refine lv_iload hx hb dX0_key_40 (lv_at hl 6 rfl) ?_
  have hPc := hP.sub (ws' := [(o0, .inr (0, [.ref a1, .int (nI z), .ref a2, .ref a3])), (a1, .inl (d1, 4096, .inl ft)), (a2, .inl (d2, 32, .inl M2)), (a3, .inl (d3, 16, .inl fg))]) [0, 1, 2, 3] rfl
  have hDc := hD.sub (ws' := [(o0, .inr (0, [.ref a1, .int (nI z), .ref a2, .ref a3])), (a1, .inl (d1, 4096, .inl ft)), (a2, .inl (d2, 32, .inl M2)), (a3, .inl (d3, 16, .inl fg))]) [0, 1, 2, 3] (by decide) rfl
  have hKc := hK.sub (tys' := [(d1, .byte), (d2, .byte), (d3, .byte)]) [0, 1, 2] rfl
  have hFc := va_free (wc := [(o0, .inr (0, [.ref a1, .int (nI z), .ref a2, .ref a3])), (a1, .inl (d1, 4096, .inl ft)), (a2, .inl (d2, 32, .inl M2)), (a3, .inl (d3, 16, .inl fg))]) hD hS hA [0, 1, 2, 3] rfl
  refine va_callv (va_runV (As := [.int (nI (hb_ + 12)), .int x4]) (rest := []) ⟨hx, hb, hml, hown, hts⟩ (metX0_k l dC dI H.size o0 a1 a2 a3 d1 d2 d3 ft M2 fg z (hb_ + 12) x4 (by omega)) (cwV 2 hts (lw_V q66 q68 qs2 q9 q69) rfl rfl rfl (by decide +kernel) ⟨Nat.le_of_ble_eq_true rfl, Nat.le_of_ble_eq_true rfl⟩) ⟨fun a U g mk q => by obtain ⟨q0, q1, qP, qK, qD⟩ := q; exact ⟨q0, q1, qP, va_K.moved (u := U) (U := U.calling g mk a) (Vm.Alike.refl U.vm) qK, qD⟩, va_recv hKc hPc (ci := 0) (q0 := 0) rfl rfl, fun U hU hW => ⟨rfl, by rw [hU], by rw [hU]; exact hPc, va_K.moved hW.alike hKc, hDc.weaken (fun _ _ _ _ => trivial)⟩⟩ rfl rfl hl.1 rfl (lv_room (Nat.le_of_ble_eq_true rfl)) dX0_key_42 ⟨Nat.le_of_ble_eq_true rfl, Nat.le_of_ble_eq_true rfl⟩) hS (fun q _ h => hFc q h) hFc (fun M3 t H1 locs ht hvm hw_ hB hz1 hk1 hS => ?_)
  obtain ⟨hP1, hK1, hD1⟩ := hB
  rw [ht] at hP1
  have hK1 := va_K.moved hvm.symm hK1
  obtain ⟨hP, hD⟩ := va_join (wr := []) (w1 := [(o0, .inr (0, [.ref a1, .int (nI z), .ref a2, .ref a3])), (a1, .inl (d1, 4096, .inl ft)), (a2, .inl (d2, 32, .inl M3)), (a3, .inl (d3, 16, .inl fg))]) hP hD [0, 1, 2, 3] [] rfl rfl (by decide) (by decide) hk1 hFc hP1 hD1
  generalize H1 = H at hP hS ⊢
  have hP := hP.sub (ws' := [(o0, .inr (0, [.ref a1, .int (nI z), .ref a2, .ref a3])), (a1, .inl (d1, 4096, .inl ft)), (a2, .inl (d2, 32, .inl M3)), (a3, .inl (d3, 16, .inl fg))]) [0, 1, 2, 3] rfl
  have hD := hD.sub (ws' := [(o0, .inr (0, [.ref a1, .int (nI z), .ref a2, .ref a3])), (a1, .inl (d1, 4096, .inl ft)), (a2, .inl (d2, 32, .inl M3)), (a3, .inl (d3, 16, .inl fg))]) [0, 1, 2, 3] (by decide) rfl
  refine W.widen (k := 0) (n := 0) (Nat.le_refl _) (Nat.le_refl _) ?_
  have hM3 : M3 (hb_ + 12) = ot_sb (x4.toBitVec.toNat / 2 ^ 24) ∧ M3 ((hb_ + 12) + 1) = ot_sb (x4.toBitVec.toNat / 2 ^ 16) ∧ M3 ((hb_ + 12) + 2) = ot_sb (x4.toBitVec.toNat / 2 ^ 8) ∧ M3 ((hb_ + 12) + 3) = ot_sb (x4.toBitVec.toNat / 2 ^ 0) ∧ ∀ j, (j < (hb_ + 12) ∨ (hb_ + 12) + 4 ≤ j) → M3 j = M2 j := hw_
  have hall : ∀ j, M3 j = if hb_ ≤ j ∧ j < hb_ + 16 then ot_pb x1 x2 x3 x4 (j - hb_) else fk j := by
      intro j
      obtain ⟨a0_, a1_, a2_, a3_, ka⟩ := hM0
      obtain ⟨c0_, c1_, c2_, c3_, kc⟩ := hM1
      obtain ⟨d0_, d1_, d2_, d3_, kd⟩ := hM2
      obtain ⟨g0_, g1_, g2_, g3_, kg⟩ := hM3
      exact ot_four16 a0_ a1_ a2_ a3_ ka c0_ c1_ c2_ c3_ kc d0_ d1_ d2_ d3_ kd g0_ g1_ g2_ g3_ kg j
  have hP9 := hP.sub (ws' := [(o0, .inr (0, [.ref a1, .int (nI z), .ref a2, .ref a3])), (a1, .inl (d1, 4096, .inl ft)), (a2, .inl (d2, 32, .inl M3)), (a3, .inl (d3, 16, .inl fg))]) [0, 1, 2, 3] rfl
  have hD9 := hD.sub (ws' := [(o0, .inr (0, [.ref a1, .int (nI z), .ref a2, .ref a3])), (a1, .inl (d1, 4096, .inl ft)), (a2, .inl (d2, 32, .inl M3)), (a3, .inl (d3, 16, .inl fg))]) [0, 1, 2, 3] (by decide) rfl
  have hK9 := hK.sub (tys' := [(d1, .byte), (d2, .byte), (d3, .byte)]) [0, 1, 2] rfl
  exact W.vret hx hb hr (fun t ht hW => ⟨⟨M3, rfl, hall, by rw [ht]; exact hP9, va_K.moved hW.alike hK9, hD9⟩, hS.F ht⟩) hS.2.2 dX0_key_45
end
section
/-! OneTimeTag: put, tag, its constructor -/
abbrev wsX0_put : List Cond := ws_ yX0_put cX0_put 5 (some .boolean)
set_option maxHeartbeats 4000000 in
set_option maxRecDepth 100000 in
/-- put: sixteen bytes behind the text, if there is room -/
theorem metX0_put (l : Launch) (dC : Nat → ClassId) (dI : Nat → Nat → Nat) (sz : Nat) (o0 a1 a2 a3 : Nat) (d1 d2 d3 : ClassId) (ft fk fg : Nat → Int32) (z : Nat) (x1 x2 x3 x4 : Int32) (hz : z ≤ 4096) : Met l yX0_put wsX0_put ({ frames := 1, cells := 0, slots := 0, locals := 22 }) (va_Pc [.ref o0, .int x1, .int x2, .int x3, .int x4] (fun U => U.heap.size = sz ∧ va_P (dC, dI) vwCl [(o0, .inr (0, [.ref a1, .int (nI z), .ref a2, .ref a3])), (a1, .inl (d1, 4096, .inl ft)), (a2, .inl (d2, 32, .inl fk)), (a3, .inl (d3, 16, .inl fg))] U.heap ∧ va_K (dC, dI) vwCl [(d1, .byte), (d2, .byte), (d3, .byte)] U ∧ va_D (fun _ => True) [(o0, .inr (0, [.ref a1, .int (nI z), .ref a2, .ref a3])), (a1, .inl (d1, 4096, .inl ft)), (a2, .inl (d2, 32, .inl fk)), (a3, .inl (d3, 16, .inl fg))])) (va_Qi (fun (r : Int32) (u : Nat × (Nat → Int32)) => (z + 16 ≤ 4096 ∧ r = nI 1 ∧ u.1 = z + 16 ∧ ∀ j, u.2 j = if z ≤ j ∧ j < z + 16 then ot_pb x1 x2 x3 x4 (j - z) else ft j) ∨ (4096 < z + 16 ∧ r = nI 0 ∧ u = (z, ft))) (fun (u : Nat × (Nat → Int32)) (t : State) => va_P (dC, dI) vwCl [(o0, .inr (0, [.ref a1, .int (nI u.1), .ref a2, .ref a3])), (a1, .inl (d1, 4096, .inl u.2)), (a2, .inl (d2, 32, .inl fk)), (a3, .inl (d3, 16, .inl fg))] t.heap ∧ va_K (dC, dI) vwCl [(d1, .byte), (d2, .byte), (d3, .byte)] t ∧ va_D (va_A [(o0, .inr (0, [.ref a1, .int (nI z), .ref a2, .ref a3])), (a1, .inl (d1, 4096, .inl ft)), (a2, .inl (d2, 32, .inl fk)), (a3, .inl (d3, 16, .inl fg))] sz) [(o0, .inr (0, [.ref a1, .int (nI u.1), .ref a2, .ref a3])), (a1, .inl (d1, 4096, .inl u.2)), (a2, .inl (d2, 32, .inl fk)), (a3, .inl (d3, 16, .inl fg))]) (va_A [(o0, .inr (0, [.ref a1, .int (nI z), .ref a2, .ref a3])), (a1, .inl (d1, 4096, .inl ft)), (a2, .inl (d2, 32, .inl fk)), (a3, .inl (d3, 16, .inl fg))] sz)) 0 0 (va_A [(o0, .inr (0, [.ref a1, .int (nI z), .ref a2, .ref a3])), (a1, .inl (d1, 4096, .inl ft)), (a2, .inl (d2, 32, .inl fk)), (a3, .inl (d3, 16, .inl fg))] sz) := by
  refine Met.ofW (cc := cX0_put) (maxL := 5) (ret := (some .boolean)) (by decide) rfl ?_
  intro p e s m args below meth c s₁ B hml hv
  obtain ⟨rfl, hsz, hP, hK, hD0⟩ := hv
  have hx := B.exec
  have hb := B.bytes
  have hr := B.returns
  have hts := atoms_spec (ws := wsX0_put) B.pre
  have hts : ∀ w ∈ lw_all, w.before _ s = true := fun w h => hts w (List.mem_cons_of_mem _ h)
  have hown : s.vm.findClass RX0 = some m.cls := findClass_of_methodNamed B.named
  have hlocks := B.notSynchronized
  subst hsz
  have hD := hD0.self (sz := s.heap.size)
  generalize hAe : va_A [(o0, .inr (0, [.ref a1, .int (nI z), .ref a2, .ref a3])), (a1, .inl (d1, 4096, .inl ft)), (a2, .inl (d2, 32, .inl fk)), (a3, .inl (d3, 16, .inl fg))] s.heap.size = A at hD ⊢
  have hA : ∀ q : Nat, s.heap.size ≤ q → A q := fun q h => by rw [← hAe]; exact Or.inr h
  have hS : va_S A s.heap s.heap [] := va_S.rf
  have hP : va_P (dC, dI) vwCl [(o0, .inr (0, [.ref a1, .int (nI z), .ref a2, .ref a3])), (a1, .inl (d1, 4096, .inl ft)), (a2, .inl (d2, 32, .inl fk)), (a3, .inl (d3, 16, .inl fg))] s.heap := hP
  have hl := lv_entry ([.ref o0, .int x1, .int x2, .int x3, .int x4]) (n := 5) (Nat.le_of_ble_eq_true rfl)
  rw [lg_entry_eq]
  generalize (lg_sl ([.ref o0, .int x1, .int x2, .int x3, .int x4]) ++ List.replicate (5 - (lg_sl ([.ref o0, .int x1, .int x2, .int x3, .int x4])).length) Slot.unset).toArray = ls at hl ⊢
  have hl : lv_has ls 5 [(0, .ref o0), (1, .int x1), (2, .int x2), (3, .int x3), (4, .int x4)] := hl
  refine lv_aload_n hx hb dX0_put_0 rfl (lv_at hl 0 rfl) ?_
  refine va_get (D := (dC, dI)) (ci := 0) (v := .int (nI z)) (C := RX0) (T := TX0) (N := 4) hx hb hts in_X0 hown hK hP 0 rfl rfl 1 (by decide) (hts _ q28) (fun _ h9 => h9) rfl dX0_put_1 ?_
  refine lv_aload_n hx hb dX0_put_4 rfl (lv_at hl 0 rfl) ?_
  refine va_get (D := (dC, dI)) (ci := 0) (v := .ref a1) (C := RX0) (T := TX0) (N := 4) hx hb hts in_X0 hown hK hP 0 rfl rfl 0 (by decide) (hts _ q27) (fun _ h9 => h9) rfl dX0_put_5 ?_
  refine va_alen (v := nI 4096) hx hb hK hP 1 0 rfl rfl rfl dX0_put_8 ?_
  refine lv_bipush (v := nI 16) hx hb dX0_put_9 (by decide) ?_
  refine lv_isub hx hb dX0_put_11 ?_
  refine ot_topi (nI 4080) (by decide) ?_
  refine lv_icmp_le (tgt := 17) hx hb dX0_put_12 (by decide) (fun c1 => ?_) (fun c1 => ?_)
  · have hz2 : z + 16 ≤ 4096 := by have := (nI_leI (by omega) (by omega)).mp c1; omega
    refine lv_aload_n hx hb dX0_put_17 rfl (lv_at hl 0 rfl) ?_
    refine lv_aload_n hx hb dX0_put_18 rfl (lv_at hl 0 rfl) ?_
    refine va_get (D := (dC, dI)) (ci := 0) (v := .int (nI z)) (C := RX0) (T := TX0) (N := 4) hx hb hts in_X0 hown hK hP 0 rfl rfl 1 (by decide) (hts _ q28) (fun _ h9 => h9) rfl dX0_put_19 ?_
    refine lv_iload_n hx hb dX0_put_22 rfl (lv_at hl 1 rfl) ?_
    have hPc := hP.sub (ws' := [(o0, .inr (0, [.ref a1, .int (nI z), .ref a2, .ref a3])), (a1, .inl (d1, 4096, .inl ft)), (a2, .inl (d2, 32, .inl fk)), (a3, .inl (d3, 16, .inl fg))]) [0, 1, 2, 3] rfl
    have hDc := hD.sub (ws' := [(o0, .inr (0, [.ref a1, .int (nI z), .ref a2, .ref a3])), (a1, .inl (d1, 4096, .inl ft)), (a2, .inl (d2, 32, .inl fk)), (a3, .inl (d3, 16, .inl fg))]) [0, 1, 2, 3] (by decide) rfl
    have hKc := hK.sub (tys' := [(d1, .byte), (d2, .byte), (d3, .byte)]) [0, 1, 2] rfl
    have hFc := va_free (wc := [(o0, .inr (0, [.ref a1, .int (nI z), .ref a2, .ref a3])), (a1, .inl (d1, 4096, .inl ft)), (a2, .inl (d2, 32, .inl fk)), (a3, .inl (d3, 16, .inl fg))]) hD hS hA [0, 1, 2, 3] rfl
    refine va_callv (va_runV (As := [.int (nI z), .int x1]) (rest := []) ⟨hx, hb, hml, hown, hts⟩ (metX0_word l dC dI s.heap.size o0 a1 a2 a3 d1 d2 d3 ft fk fg z z x1 (by omega)) (cwV 2 hts (lw_V q45 q47 qs0 q9 q48) rfl rfl rfl (by decide +kernel) ⟨Nat.le_of_ble_eq_true rfl, Nat.le_of_ble_eq_true rfl⟩) ⟨fun a U g mk q => by obtain ⟨q0, q1, qP, qK, qD⟩ := q; exact ⟨q0, q1, qP, va_K.moved (u := U) (U := U.calling g mk a) (Vm.Alike.refl U.vm) qK, qD⟩, va_recv hKc hPc (ci := 0) (q0 := 0) rfl rfl, fun U hU hW => ⟨rfl, by rw [hU], by rw [hU]; exact hPc, va_K.moved hW.alike hKc, hDc.weaken (fun _ _ _ _ => trivial)⟩⟩ rfl rfl hl.1 rfl (lv_room (Nat.le_of_ble_eq_true rfl)) dX0_put_23 ⟨Nat.le_of_ble_eq_true rfl, Nat.le_of_ble_eq_true rfl⟩) hS (fun q _ h => hFc q h) hFc (fun M0 t H1 locs ht hvm hw_ hB hz1 hk1 hS => ?_)
    obtain ⟨hP1, hK1, hD1⟩ := hB
    rw [ht] at hP1
    have hK1 := va_K.moved hvm.symm hK1
    obtain ⟨hP, hD⟩ := va_join (wr := []) (w1 := [(o0, .inr (0, [.ref a1, .int (nI z), .ref a2, .ref a3])), (a1, .inl (d1, 4096, .inl M0)), (a2, .inl (d2, 32, .inl fk)), (a3, .inl (d3, 16, .inl fg))]) hP hD [0, 1, 2, 3] [] rfl rfl (by decide) (by decide) hk1 hFc hP1 hD1
    generalize H1 = H at hP hS ⊢
    have hP := hP.sub (ws' := [(o0, .inr (0, [.ref a1, .int (nI z), .ref a2, .ref a3])), (a1, .inl (d1, 4096, .inl M0)), (a2, .inl (d2, 32, .inl fk)), (a3, .inl (d3, 16, .inl fg))]) [0, 1, 2, 3] rfl
    have hD := hD.sub (ws' := [(o0, .inr (0, [.ref a1, .int (nI z), .ref a2, .ref a3])), (a1, .inl (d1, 4096, .inl M0)), (a2, .inl (d2, 32, .inl fk)), (a3, .inl (d3, 16, .inl fg))]) [0, 1, 2, 3] (by decide) rfl
    refine W.widen (k := 0) (n := 0) (Nat.le_refl _) (Nat.le_refl _) ?_
    have hM0 : M0 z = ot_sb (x1.toBitVec.toNat / 2 ^ 24) ∧ M0 (z + 1) = ot_sb (x1.toBitVec.toNat / 2 ^ 16) ∧ M0 (z + 2) = ot_sb (x1.toBitVec.toNat / 2 ^ 8) ∧ M0 (z + 3) = ot_sb (x1.toBitVec.toNat / 2 ^ 0) ∧ ∀ j, (j < z ∨ z + 4 ≤ j) → M0 j = ft j := hw_
    refine lv_aload_n hx hb dX0_put_26 rfl (lv_at hl 0 rfl) ?_
    refine lv_aload_n hx hb dX0_put_27 rfl (lv_at hl 0 rfl) ?_
    refine va_get (D := (dC, dI)) (ci := 0) (v := .int (nI z)) (C := RX0) (T := TX0) (N := 4) hx hb hts in_X0 hown hK hP 0 rfl rfl 1 (by decide) (hts _ q28) (fun _ h9 => h9) rfl dX0_put_28 ?_
    refine lv_iconst (v := nI 4) hx hb dX0_put_31 (by decide) ?_
    refine lv_iadd hx hb dX0_put_32 ?_
    refine ot_topi (nI (z + 4)) (nI_add _ _) ?_
    refine lv_iload_n hx hb dX0_put_33 rfl (lv_at hl 2 rfl) ?_
    have hPc := hP.sub (ws' := [(o0, .inr (0, [.ref a1, .int (nI z), .ref a2, .ref a3])), (a1, .inl (d1, 4096, .inl M0)), (a2, .inl (d2, 32, .inl fk)), (a3, .inl (d3, 16, .inl fg))]) [0, 1, 2, 3] rfl
    have hDc := hD.sub (ws' := [(o0, .inr (0, [.ref a1, .int (nI z), .ref a2, .ref a3])), (a1, .inl (d1, 4096, .inl M0)), (a2, .inl (d2, 32, .inl fk)), (a3, .inl (d3, 16, .inl fg))]) [0, 1, 2, 3] (by decide) rfl
    have hKc := hK.sub (tys' := [(d1, .byte), (d2, .byte), (d3, .byte)]) [0, 1, 2] rfl
    have hFc := va_free (wc := [(o0, .inr (0, [.ref a1, .int (nI z), .ref a2, .ref a3])), (a1, .inl (d1, 4096, .inl M0)), (a2, .inl (d2, 32, .inl fk)), (a3, .inl (d3, 16, .inl fg))]) hD hS hA [0, 1, 2, 3] rfl
    refine va_callv (va_runV (As := [.int (nI (z + 4)), .int x2]) (rest := []) ⟨hx, hb, hml, hown, hts⟩ (metX0_word l dC dI H.size o0 a1 a2 a3 d1 d2 d3 M0 fk fg z (z + 4) x2 (by omega)) (cwV 2 hts (lw_V q45 q47 qs0 q9 q48) rfl rfl rfl (by decide +kernel) ⟨Nat.le_of_ble_eq_true rfl, Nat.le_of_ble_eq_true rfl⟩) ⟨fun a U g mk q => by obtain ⟨q0, q1, qP, qK, qD⟩ := q; exact ⟨q0, q1, qP, va_K.moved (u := U) (U := U.calling g mk a) (Vm.Alike.refl U.vm) qK, qD⟩, va_recv hKc hPc (ci := 0) (q0 := 0) rfl rfl, fun U hU hW => ⟨rfl, by rw [hU], by rw [hU]; exact hPc, va_K.moved hW.alike hKc, hDc.weaken (fun _ _ _ _ => trivial)⟩⟩ rfl rfl hl.1 rfl (lv_room (Nat.le_of_ble_eq_true rfl)) dX0_put_34 ⟨Nat.le_of_ble_eq_true rfl, Nat.le_of_ble_eq_true rfl⟩) hS (fun q _ h => hFc q h) hFc (fun M1 t H1 locs ht hvm hw_ hB hz1 hk1 hS => ?_)
    obtain ⟨hP1, hK1, hD1⟩ := hB
    rw [ht] at hP1
    have hK1 := va_K.moved hvm.symm hK1
    obtain ⟨hP, hD⟩ := va_join (wr := []) (w1 := [(o0, .inr (0, [.ref a1, .int (nI z), .ref a2, .ref a3])), (a1, .inl (d1, 4096, .inl M1)), (a2, .inl (d2, 32, .inl fk)), (a3, .inl (d3, 16, .inl fg))]) hP hD [0, 1, 2, 3] [] rfl rfl (by decide) (by decide) hk1 hFc hP1 hD1
    generalize H1 = H at hP hS ⊢
    have hP := hP.sub (ws' := [(o0, .inr (0, [.ref a1, .int (nI z), .ref a2, .ref a3])), (a1, .inl (d1, 4096, .inl M1)), (a2, .inl (d2, 32, .inl fk)), (a3, .inl (d3, 16, .inl fg))]) [0, 1, 2, 3] rfl
    have hD := hD.sub (ws' := [(o0, .inr (0, [.ref a1, .int (nI z), .ref a2, .ref a3])), (a1, .inl (d1, 4096, .inl M1)), (a2, .inl (d2, 32, .inl fk)), (a3, .inl (d3, 16, .inl fg))]) [0, 1, 2, 3] (by decide) rfl
    refine W.widen (k := 0) (n := 0) (Nat.le_refl _) (Nat.le_refl _) ?_
    have hM1 : M1 (z + 4) = ot_sb (x2.toBitVec.toNat / 2 ^ 24) ∧ M1 ((z + 4) + 1) = ot_sb (x2.toBitVec.toNat / 2 ^ 16) ∧ M1 ((z + 4) + 2) = ot_sb (x2.toBitVec.toNat / 2 ^ 8) ∧ M1 ((z + 4) + 3) = ot_sb (x2.toBitVec.toNat / 2 ^ 0) ∧ ∀ j, (j < (z + 4) ∨ (z + 4) + 4 ≤ j) → M1 j = M0 j := hw_
    refine lv_aload_n hx hb dX0_put_37 rfl (lv_at hl 0 rfl) ?_
    refine lv_aload_n hx hb dX0_put_38 rfl (lv_at hl 0 rfl) ?_
    refine va_get (D := (dC, dI)) (ci := 0) (v := .int (nI z)) (C := RX0) (T := TX0) (N := 4) hx hb hts in_X0 hown hK hP 0 rfl rfl 1 (by decide) (hts _ q28) (fun _ h9 => h9) rfl dX0_put_39 ?_
    refine lv_bipush (v := nI 8) hx hb dX0_put_42 (by decide) ?_
    refine lv_iadd hx hb dX0_put_44 ?_
    refine ot_topi (nI (z + 8)) (nI_add _ _) ?_
    refine lv_iload_n hx hb dX0_put_45 rfl (lv_at hl 3 rfl) ?_
    have hPc := hP.sub (ws' := [(o0, .inr (0, [.ref a1, .int (nI z), .ref a2, .ref a3])), (a1, .inl (d1, 4096, .inl M1)), (a2, .inl (d2, 32, .inl fk)), (a3, .inl (d3, 16, .inl fg))]) [0, 1, 2, 3] rfl
    have hDc := hD.sub (ws' := [(o0, .inr (0, [.ref a1, .int (nI z), .ref a2, .ref a3])), (a1, .inl (d1, 4096, .inl M1)), (a2, .inl (d2, 32, .inl fk)), (a3, .inl (d3, 16, .inl fg))]) [0, 1, 2, 3] (by decide) rfl
    have hKc := hK.sub (tys' := [(d1, .byte), (d2, .byte), (d3, .byte)]) [0, 1, 2] rfl
    have hFc := va_free (wc := [(o0, .inr (0, [.ref a1, .int (nI z), .ref a2, .ref a3])), (a1, .inl (d1, 4096, .inl M1)), (a2, .inl (d2, 32, .inl fk)), (a3, .inl (d3, 16, .inl fg))]) hD hS hA [0, 1, 2, 3] rfl
    refine va_callv (va_runV (As := [.int (nI (z + 8)), .int x3]) (rest := []) ⟨hx, hb, hml, hown, hts⟩ (metX0_word l dC dI H.size o0 a1 a2 a3 d1 d2 d3 M1 fk fg z (z + 8) x3 (by omega)) (cwV 2 hts (lw_V q45 q47 qs0 q9 q48) rfl rfl rfl (by decide +kernel) ⟨Nat.le_of_ble_eq_true rfl, Nat.le_of_ble_eq_true rfl⟩) ⟨fun a U g mk q => by obtain ⟨q0, q1, qP, qK, qD⟩ := q; exact ⟨q0, q1, qP, va_K.moved (u := U) (U := U.calling g mk a) (Vm.Alike.refl U.vm) qK, qD⟩, va_recv hKc hPc (ci := 0) (q0 := 0) rfl rfl, fun U hU hW => ⟨rfl, by rw [hU], by rw [hU]; exact hPc, va_K.moved hW.alike hKc, hDc.weaken (fun _ _ _ _ => trivial)⟩⟩ rfl rfl hl.1 rfl (lv_room (Nat.le_of_ble_eq_true rfl)) dX0_put_46 ⟨Nat.le_of_ble_eq_true rfl, Nat.le_of_ble_eq_true rfl⟩) hS (fun q _ h => hFc q h) hFc (fun M2 t H1 locs ht hvm hw_ hB hz1 hk1 hS => ?_)
    obtain ⟨hP1, hK1, hD1⟩ := hB
    rw [ht] at hP1
    have hK1 := va_K.moved hvm.symm hK1
    obtain ⟨hP, hD⟩ := va_join (wr := []) (w1 := [(o0, .inr (0, [.ref a1, .int (nI z), .ref a2, .ref a3])), (a1, .inl (d1, 4096, .inl M2)), (a2, .inl (d2, 32, .inl fk)), (a3, .inl (d3, 16, .inl fg))]) hP hD [0, 1, 2, 3] [] rfl rfl (by decide) (by decide) hk1 hFc hP1 hD1
    generalize H1 = H at hP hS ⊢
    have hP := hP.sub (ws' := [(o0, .inr (0, [.ref a1, .int (nI z), .ref a2, .ref a3])), (a1, .inl (d1, 4096, .inl M2)), (a2, .inl (d2, 32, .inl fk)), (a3, .inl (d3, 16, .inl fg))]) [0, 1, 2, 3] rfl
    have hD := hD.sub (ws' := [(o0, .inr (0, [.ref a1, .int (nI z), .ref a2, .ref a3])), (a1, .inl (d1, 4096, .inl M2)), (a2, .inl (d2, 32, .inl fk)), (a3, .inl (d3, 16, .inl fg))]) [0, 1, 2, 3] (by decide) rfl
    refine W.widen (k := 0) (n := 0) (Nat.le_refl _) (Nat.le_refl _) ?_
    have hM2 : M2 (z + 8) = ot_sb (x3.toBitVec.toNat / 2 ^ 24) ∧ M2 ((z + 8) + 1) = ot_sb (x3.toBitVec.toNat / 2 ^ 16) ∧ M2 ((z + 8) + 2) = ot_sb (x3.toBitVec.toNat / 2 ^ 8) ∧ M2 ((z + 8) + 3) = ot_sb (x3.toBitVec.toNat / 2 ^ 0) ∧ ∀ j, (j < (z + 8) ∨ (z + 8) + 4 ≤ j) → M2 j = M1 j := hw_
    refine lv_aload_n hx hb dX0_put_49 rfl (lv_at hl 0 rfl) ?_
    refine lv_aload_n hx hb dX0_put_50 rfl (lv_at hl 0 rfl) ?_
    refine va_get (D := (dC, dI)) (ci := 0) (v := .int (nI z)) (C := RX0) (T := TX0) (N := 4) hx hb hts in_X0 hown hK hP 0 rfl rfl 1 (by decide) (hts _ q28) (fun _ h9 => h9) rfl dX0_put_51 ?_
    refine lv_bipush (v := nI 12) hx hb dX0_put_54 (by decide) ?_
    refine lv_iadd hx hb dX0_put_56 ?_
    refine ot_topi (nI (z + 12)) (nI_add _ _) ?_
    refine lv_iload hx hb dX0_put_57 (lv_at hl 4 rfl) ?_
    have hPc := hP.sub (ws' := [(o0, .inr (0, [.ref a1, .int (nI z), .ref a2, .ref a3])), (a1, .inl (d1, 4096, .inl M2)), (a2, .inl (d2, 32, .inl fk)), (a3, .inl (d3, 16, .inl fg))]) [0, 1, 2, 3] rfl
    have hDc := hD.sub (ws' := [(o0, .inr (0, [.ref a1, .int (nI z), .ref a2, .ref a3])), (a1, .inl (d1, 4096, .inl M2)), (a2, .inl (d2, 32, .inl fk)), (a3, .inl (d3, 16, .inl fg))]) [0, 1, 2, 3] (by decide) rfl
    have hKc := hK.sub (tys' := [(d1, .byte), (d2, .byte), (d3, .byte)]) [0, 1, 2] rfl
    have hFc := va_free (wc := [(o0, .inr (0, [.ref a1, .int (nI z), .ref a2, .ref a3])), (a1, .inl (d1, 4096, .inl M2)), (a2, .inl (d2, 32, .inl fk)), (a3, .inl (d3, 16, .inl fg))]) hD hS hA [0, 1, 2, 3] rfl
    refine va_callv (va_runV (As := [.int (nI (z + 12)), .int x4]) (rest := []) ⟨hx, hb, hml, hown, hts⟩ (metX0_word l dC dI H.size o0 a1 a2 a3 d1 d2 d3 M2 fk fg z (z + 12) x4 (by omega)) (cwV 2 hts (lw_V q45 q47 qs0 q9 q48) rfl rfl rfl (by decide +kernel) ⟨Nat.le_of_ble_eq_true rfl, Nat.le_of_ble_eq_true rfl⟩) ⟨fun a U g mk q => by obtain ⟨q0, q1, qP, qK, qD⟩ := q; exact ⟨q0, q1, qP, va_K.moved (u := U) (U := U.calling g mk a) (Vm.Alike.refl U.vm) qK, qD⟩, va_recv hKc hPc (ci := 0) (q0 := 0) rfl rfl, fun U hU hW => ⟨rfl, by rw [hU], by rw [hU]; exact hPc, va_K.moved hW.alike hKc, hDc.weaken (fun _ _ _ _ => trivial)⟩⟩ rfl rfl hl.1 rfl (lv_room (Nat.le_of_ble_eq_true rfl)) dX0_put_59 ⟨Nat.le_of_ble_eq_true rfl, Nat.le_of_ble_eq_true rfl⟩) hS (fun q _ h => hFc q h) hFc (fun M3 t H1 locs ht hvm hw_ hB hz1 hk1 hS => ?_)
    obtain ⟨hP1, hK1, hD1⟩ := hB
    rw [ht] at hP1
    have hK1 := va_K.moved hvm.symm hK1
    obtain ⟨hP, hD⟩ := va_join (wr := []) (w1 := [(o0, .inr (0, [.ref a1, .int (nI z), .ref a2, .ref a3])), (a1, .inl (d1, 4096, .inl M3)), (a2, .inl (d2, 32, .inl fk)), (a3, .inl (d3, 16, .inl fg))]) hP hD [0, 1, 2, 3] [] rfl rfl (by decide) (by decide) hk1 hFc hP1 hD1
    generalize H1 = H at hP hS ⊢
    have hP := hP.sub (ws' := [(o0, .inr (0, [.ref a1, .int (nI z), .ref a2, .ref a3])), (a1, .inl (d1, 4096, .inl M3)), (a2, .inl (d2, 32, .inl fk)), (a3, .inl (d3, 16, .inl fg))]) [0, 1, 2, 3] rfl
    have hD := hD.sub (ws' := [(o0, .inr (0, [.ref a1, .int (nI z), .ref a2, .ref a3])), (a1, .inl (d1, 4096, .inl M3)), (a2, .inl (d2, 32, .inl fk)), (a3, .inl (d3, 16, .inl fg))]) [0, 1, 2, 3] (by decide) rfl
    refine W.widen (k := 0) (n := 0) (Nat.le_refl _) (Nat.le_refl _) ?_
    have hM3 : M3 (z + 12) = ot_sb (x4.toBitVec.toNat / 2 ^ 24) ∧ M3 ((z + 12) + 1) = ot_sb (x4.toBitVec.toNat / 2 ^ 16) ∧ M3 ((z + 12) + 2) = ot_sb (x4.toBitVec.toNat / 2 ^ 8) ∧ M3 ((z + 12) + 3) = ot_sb (x4.toBitVec.toNat / 2 ^ 0) ∧ ∀ j, (j < (z + 12) ∨ (z + 12) + 4 ≤ j) → M3 j = M2 j := hw_
    refine lv_aload_n hx hb dX0_put_62 rfl (lv_at hl 0 rfl) ?_
    refine lv_dup hx hb dX0_put_63 rfl ?_
    refine va_get (D := (dC, dI)) (ci := 0) (v := .int (nI z)) (C := RX0) (T := TX0) (N := 4) hx hb hts in_X0 hown hK hP 0 rfl rfl 1 (by decide) (hts _ q28) (fun _ h9 => h9) rfl dX0_put_64 ?_
    refine lv_bipush (v := nI 16) hx hb dX0_put_67 (by decide) ?_
    refine lv_iadd hx hb dX0_put_69 ?_
    refine ot_topi (nI (z + 16)) (nI_add _ _) ?_
    refine va_put (D := (dC, dI)) (ci := 0) (v := .int (nI (z + 16))) (ty := .int) (C := RX0) (T := TX0) (N := 4) hx hb hts in_X0 tyX0 tyX0_ok nmX0 hown hK hP hD hS 0 rfl rfl 1 (by decide) (hts _ q28) (fun _ h9 => h9) rfl (by decide +kernel) rfl rfl (Nat.le_of_ble_eq_true rfl) dX0_put_70 (fun H locs hP hD hS => ?_)
    have hP : va_P (dC, dI) vwCl [(o0, .inr (0, [.ref a1, .int (nI (z + 16)), .ref a2, .ref a3])), (a1, .inl (d1, 4096, .inl M3)), (a2, .inl (d2, 32, .inl fk)), (a3, .inl (d3, 16, .inl fg))] H := hP
    have hD : va_D A [(o0, .inr (0, [.ref a1, .int (nI (z + 16)), .ref a2, .ref a3])), (a1, .inl (d1, 4096, .inl M3)), (a2, .inl (d2, 32, .inl fk)), (a3, .inl (d3, 16, .inl fg))] := hD
    refine lv_iconst (v := nI 1) hx hb dX0_put_73 (by decide) ?_
    have hall : ∀ j, M3 j = if z ≤ j ∧ j < z + 16 then ot_pb x1 x2 x3 x4 (j - z) else ft j := by
      intro j
      obtain ⟨a0_, a1_, a2_, a3_, ka⟩ := hM0
      obtain ⟨c0_, c1_, c2_, c3_, kc⟩ := hM1
      obtain ⟨d0_, d1_, d2_, d3_, kd⟩ := hM2
      obtain ⟨g0_, g1_, g2_, g3_, kg⟩ := hM3
      exact ot_four16 a0_ a1_ a2_ a3_ ka c0_ c1_ c2_ c3_ kc d0_ d1_ d2_ d3_ kd g0_ g1_ g2_ g3_ kg j
    have hP9 := hP.sub (ws' := [(o0, .inr (0, [.ref a1, .int (nI (z + 16)), .ref a2, .ref a3])), (a1, .inl (d1, 4096, .inl M3)), (a2, .inl (d2, 32, .inl fk)), (a3, .inl (d3, 16, .inl fg))]) [0, 1, 2, 3] rfl
    have hD9 := hD.sub (ws' := [(o0, .inr (0, [.ref a1, .int (nI (z + 16)), .ref a2, .ref a3])), (a1, .inl (d1, 4096, .inl M3)), (a2, .inl (d2, 32, .inl fk)), (a3, .inl (d3, 16, .inl fg))]) [0, 1, 2, 3] (by decide) rfl
    have hK9 := hK.sub (tys' := [(d1, .byte), (d2, .byte), (d3, .byte)]) [0, 1, 2] rfl
    exact W.zret (v := nI 1) hx hb hr rfl (fun t ht hW => ⟨⟨nI 1, (z + 16, M3), rfl, Or.inl ⟨hz2, rfl, rfl, hall⟩, by rw [ht]; exact hP9, va_K.moved hW.alike hK9, hD9⟩, hS.F ht⟩) hS.2.2 dX0_put_74
  · have hz2 : 4096 < z + 16 := by rcases Nat.lt_or_ge 4096 (z + 16) with q | q; exact q; exact absurd (nI_le (by omega) (by omega)) c1
    refine lv_iconst (v := nI 0) hx hb dX0_put_15 (by decide) ?_
    have hP9 := hP.sub (ws' := [(o0, .inr (0, [.ref a1, .int (nI z), .ref a2, .ref a3])), (a1, .inl (d1, 4096, .inl ft)), (a2, .inl (d2, 32, .inl fk)), (a3, .inl (d3, 16, .inl fg))]) [0, 1, 2, 3] rfl
    have hD9 := hD.sub (ws' := [(o0, .inr (0, [.ref a1, .int (nI z), .ref a2, .ref a3])), (a1, .inl (d1, 4096, .inl ft)), (a2, .inl (d2, 32, .inl fk)), (a3, .inl (d3, 16, .inl fg))]) [0, 1, 2, 3] (by decide) rfl
    have hK9 := hK.sub (tys' := [(d1, .byte), (d2, .byte), (d3, .byte)]) [0, 1, 2] rfl
    exact W.zret (v := nI 0) hx hb hr rfl (fun t ht hW => ⟨⟨nI 0, (z, ft), rfl, Or.inr ⟨hz2, rfl, rfl⟩, by rw [ht]; exact hP9, va_K.moved hW.alike hK9, hD9⟩, hS.F ht⟩) hS.2.2 dX0_put_16
abbrev wsX0_tag : List Cond := ws_ yX0_tag cX0_tag 5 none
set_option maxHeartbeats 4000000 in
set_option maxRecDepth 100000 in
/-- tag: the mac of a stretch of the text -/
theorem metX0_tag (l : Launch) (dC : Nat → ClassId) (dI : Nat → Nat → Nat) (sz : Nat) (o0 a1 a2 a3 : Nat) (d1 d2 d3 : ClassId) (ft fk fg : Nat → Int32) (z : Nat) (x y : Int32) (hz : z ≤ 4096) (hby : ∀ j, j < 4096 → (ft j).toInt8.toInt32 = ft j) : Met l yX0_tag wsX0_tag ({ frames := 4, cells := 3, slots := 4129, locals := 170 }) (va_Pc [.ref o0, .int x, .int y] (fun U => U.heap.size = sz ∧ va_P (dC, dI) vwCl [(o0, .inr (0, [.ref a1, .int (nI z), .ref a2, .ref a3])), (a1, .inl (d1, 4096, .inl ft)), (a2, .inl (d2, 32, .inl fk)), (a3, .inl (d3, 16, .inl fg))] U.heap ∧ va_K (dC, dI) vwCl [(d1, .byte), (d2, .byte), (d3, .byte)] U ∧ va_D (fun _ => True) [(o0, .inr (0, [.ref a1, .int (nI z), .ref a2, .ref a3])), (a1, .inl (d1, 4096, .inl ft)), (a2, .inl (d2, 32, .inl fk)), (a3, .inl (d3, 16, .inl fg))])) (va_Qv (fun (u : Nat × ClassId × (Nat → Int32)) => ∀ j, j < 16 → ot_b (u.2.2 j) = ot_mac fk (fun j => ft (ot_from x z + j)) (ot_from y (z - ot_from x z)) / 256 ^ j % 256) (fun (u : Nat × ClassId × (Nat → Int32)) (t : State) => va_P (dC, dI) vwCl [(o0, .inr (0, [.ref a1, .int (nI z), .ref a2, .ref u.1])), (a1, .inl (d1, 4096, .inl ft)), (a2, .inl (d2, 32, .inl fk)), (u.1, .inl (u.2.1, 16, .inl u.2.2))] t.heap ∧ va_K (dC, dI) vwCl [(d1, .byte), (d2, .byte), (u.2.1, .byte)] t ∧ va_D (va_A [(o0, .inr (0, [.ref a1, .int (nI z), .ref a2, .ref a3])), (a1, .inl (d1, 4096, .inl ft)), (a2, .inl (d2, 32, .inl fk)), (a3, .inl (d3, 16, .inl fg))] sz) [(o0, .inr (0, [.ref a1, .int (nI z), .ref a2, .ref u.1])), (a1, .inl (d1, 4096, .inl ft)), (a2, .inl (d2, 32, .inl fk)), (u.1, .inl (u.2.1, 16, .inl u.2.2))]) (va_A [(o0, .inr (0, [.ref a1, .int (nI z), .ref a2, .ref a3])), (a1, .inl (d1, 4096, .inl ft)), (a2, .inl (d2, 32, .inl fk)), (a3, .inl (d3, 16, .inl fg))] sz)) 3 4129 (va_A [(o0, .inr (0, [.ref a1, .int (nI z), .ref a2, .ref a3])), (a1, .inl (d1, 4096, .inl ft)), (a2, .inl (d2, 32, .inl fk)), (a3, .inl (d3, 16, .inl fg))] sz) := by
  refine Met.ofW (cc := cX0_tag) (maxL := 5) (ret := none) (by decide) rfl ?_
  intro p e s m args below meth c s₁ B hml hv
  obtain ⟨rfl, hsz, hP, hK, hD0⟩ := hv
  have hx := B.exec
  have hb := B.bytes
  have hr := B.returns
  have hts := atoms_spec (ws := wsX0_tag) B.pre
  have hts : ∀ w ∈ lw_all, w.before _ s = true := fun w h => hts w (List.mem_cons_of_mem _ h)
  have hown : s.vm.findClass RX0 = some m.cls := findClass_of_methodNamed B.named
  have hlocks := B.notSynchronized
  subst hsz
  have hD := hD0.self (sz := s.heap.size)
  generalize hAe : va_A [(o0, .inr (0, [.ref a1, .int (nI z), .ref a2, .ref a3])), (a1, .inl (d1, 4096, .inl ft)), (a2, .inl (d2, 32, .inl fk)), (a3, .inl (d3, 16, .inl fg))] s.heap.size = A at hD ⊢
  have hA : ∀ q : Nat, s.heap.size ≤ q → A q := fun q h => by rw [← hAe]; exact Or.inr h
  have hS : va_S A s.heap s.heap [] := va_S.rf
  have hP : va_P (dC, dI) vwCl [(o0, .inr (0, [.ref a1, .int (nI z), .ref a2, .ref a3])), (a1, .inl (d1, 4096, .inl ft)), (a2, .inl (d2, 32, .inl fk)), (a3, .inl (d3, 16, .inl fg))] s.heap := hP
  have hl := lv_entry ([.ref o0, .int x, .int y]) (n := 5) (Nat.le_of_ble_eq_true rfl)
  rw [lg_entry_eq]
  generalize (lg_sl ([.ref o0, .int x, .int y]) ++ List.replicate (5 - (lg_sl ([.ref o0, .int x, .int y])).length) Slot.unset).toArray = ls at hl ⊢
  have hl : lv_has ls 5 [(0, .ref o0), (1, .int x), (2, .int y)] := hl
  have hfz := ot_from_le x z
  have hcz := ot_from_le y (z - ot_from x z)
  refine lv_aload_n hx hb dX0_tag_0 rfl (lv_at hl 0 rfl) ?_
  refine lv_iload_n hx hb dX0_tag_1 rfl (lv_at hl 1 rfl) ?_
  have hPc := hP.sub (ws' := [(o0, .inr (0, [.ref a1, .int (nI z), .ref a2, .ref a3])), (a1, .inl (d1, 4096, .inl ft)), (a2, .inl (d2, 32, .inl fk)), (a3, .inl (d3, 16, .inl fg))]) [0, 1, 2, 3] rfl
  have hDc := hD.sub (ws' := [(o0, .inr (0, [.ref a1, .int (nI z), .ref a2, .ref a3])), (a1, .inl (d1, 4096, .inl ft)), (a2, .inl (d2, 32, .inl fk)), (a3, .inl (d3, 16, .inl fg))]) [0, 1, 2, 3] (by decide) rfl
  have hKc := hK.sub (tys' := [(d1, .byte), (d2, .byte), (d3, .byte)]) [0, 1, 2] rfl
  have hFc := va_free (wc := [(o0, .inr (0, [.ref a1, .int (nI z), .ref a2, .ref a3])), (a1, .inl (d1, 4096, .inl ft)), (a2, .inl (d2, 32, .inl fk)), (a3, .inl (d3, 16, .inl fg))]) hD hS hA [0, 1, 2, 3] rfl
  refine va_calli (va_runV (As := [.int x]) (rest := []) ⟨hx, hb, hml, hown, hts⟩ (metX0_from l dC dI s.heap.size o0 a1 a2 a3 d1 d2 d3 ft fk fg z x hz) (cwV 1 hts (lw_V q53 q55 qs1 q9 q56) rfl rfl rfl (by decide +kernel) ⟨Nat.le_of_ble_eq_true rfl, Nat.le_of_ble_eq_true rfl⟩) ⟨fun a U g mk q => by obtain ⟨q0, q1, qP, qK, qD⟩ := q; exact ⟨q0, q1, qP, va_K.moved (u := U) (U := U.calling g mk a) (Vm.Alike.refl U.vm) qK, qD⟩, va_recv hKc hPc (ci := 0) (q0 := 0) rfl rfl, fun U hU hW => ⟨rfl, by rw [hU], by rw [hU]; exact hPc, va_K.moved hW.alike hKc, hDc.weaken (fun _ _ _ _ => trivial)⟩⟩ rfl rfl hl.1 rfl (lv_room (Nat.le_of_ble_eq_true rfl)) dX0_tag_2 ⟨Nat.le_of_ble_eq_true rfl, Nat.le_of_ble_eq_true rfl⟩) hS (fun q _ h => hFc q h) hFc (fun r_ u_ t H1 locs ht hvm hw_ hB hz1 hk1 hS => ?_)
  obtain ⟨hP1, -, -⟩ := hB
  rw [ht] at hP1
  have hP := ot_back hP hD [0, 1, 2, 3] rfl hk1 hP1
  generalize H1 = H at hP hS ⊢
  have e_ : r_ = nI (ot_from x z) := hw_
  subst e_
  refine W.widen (k := 0) (n := 0) (Nat.le_refl _) (Nat.le_refl _) ?_
  generalize hfe : ot_from x z = ff at *
  refine lv_istore_n (lv' := [(3, .int (nI ff)), (0, .ref o0), (1, .int x), (2, .int y)]) hx hb dX0_tag_5 rfl hl (by decide) rfl (fun ls hl => ?_)
  refine lv_aload_n hx hb dX0_tag_6 rfl (lv_at hl 1 rfl) ?_
  refine lv_iload_n hx hb dX0_tag_7 rfl (lv_at hl 0 rfl) ?_
  refine lv_iload_n hx hb dX0_tag_8 rfl (lv_at hl 3 rfl) ?_
  have hPc := hP.sub (ws' := [(o0, .inr (0, [.ref a1, .int (nI z), .ref a2, .ref a3])), (a1, .inl (d1, 4096, .inl ft)), (a2, .inl (d2, 32, .inl fk)), (a3, .inl (d3, 16, .inl fg))]) [0, 1, 2, 3] rfl
  have hDc := hD.sub (ws' := [(o0, .inr (0, [.ref a1, .int (nI z), .ref a2, .ref a3])), (a1, .inl (d1, 4096, .inl ft)), (a2, .inl (d2, 32, .inl fk)), (a3, .inl (d3, 16, .inl fg))]) [0, 1, 2, 3] (by decide) rfl
  have hKc := hK.sub (tys' := [(d1, .byte), (d2, .byte), (d3, .byte)]) [0, 1, 2] rfl
  have hFc := va_free (wc := [(o0, .inr (0, [.ref a1, .int (nI z), .ref a2, .ref a3])), (a1, .inl (d1, 4096, .inl ft)), (a2, .inl (d2, 32, .inl fk)), (a3, .inl (d3, 16, .inl fg))]) hD hS hA [0, 1, 2, 3] rfl
  refine va_calli (va_runV (As := [.int (nI ff), .int y]) (rest := []) ⟨hx, hb, hml, hown, hts⟩ (metX0_count l dC dI H.size o0 a1 a2 a3 d1 d2 d3 ft fk fg z ff y hz hfz) (cwV 2 hts (lw_V q74 q76 qs3 q9 q77) rfl rfl rfl (by decide +kernel) ⟨Nat.le_of_ble_eq_true rfl, Nat.le_of_ble_eq_true rfl⟩) ⟨fun a U g mk q => by obtain ⟨q0, q1, qP, qK, qD⟩ := q; exact ⟨q0, q1, qP, va_K.moved (u := U) (U := U.calling g mk a) (Vm.Alike.refl U.vm) qK, qD⟩, va_recv hKc hPc (ci := 0) (q0 := 0) rfl rfl, fun U hU hW => ⟨rfl, by rw [hU], by rw [hU]; exact hPc, va_K.moved hW.alike hKc, hDc.weaken (fun _ _ _ _ => trivial)⟩⟩ rfl rfl hl.1 rfl (lv_room (Nat.le_of_ble_eq_true rfl)) dX0_tag_9 ⟨Nat.le_of_ble_eq_true rfl, Nat.le_of_ble_eq_true rfl⟩) hS (fun q _ h => hFc q h) hFc (fun r_ u_ t H1 locs ht hvm hw_ hB hz1 hk1 hS => ?_)
  obtain ⟨hP1, -, -⟩ := hB
  rw [ht] at hP1
  have hP := ot_back hP hD [0, 1, 2, 3] rfl hk1 hP1
  generalize H1 = H at hP hS ⊢
  have e_ : r_ = nI (ot_from y (z - ff)) := hw_
  subst e_
  refine W.widen (k := 0) (n := 0) (Nat.le_refl _) (Nat.le_refl _) ?_
  generalize hce : ot_from y (z - ff) = cn at *
  refine va_newa (atype := .byte) (ty := .byte) (N' := cn) (a0 := (cn, .inl (fun _ => 0))) hx hb (hts _ q40) rfl hK hP hD hS hA (fun _ => rfl) (nI_pos (by omega)) (nI_clamp (by omega)) (by show cn * 1 ≤ 536870912; omega) (Nat.le_of_ble_eq_true rfl) (by show 0 + cn ≤ 4129; omega) dX0_tag_12 (fun qc dc H hK hP hD hS => ?_)
  have hK : va_K (dC, dI) vwCl [(d1, .byte), (d2, .byte), (d3, .byte), (dc, .byte)] s := hK
  have hP : va_P (dC, dI) vwCl [(o0, .inr (0, [.ref a1, .int (nI z), .ref a2, .ref a3])), (a1, .inl (d1, 4096, .inl ft)), (a2, .inl (d2, 32, .inl fk)), (a3, .inl (d3, 16, .inl fg)), (qc, .inl (dc, cn, .inl (fun _ => 0)))] H := hP
  have hD : va_D A [(o0, .inr (0, [.ref a1, .int (nI z), .ref a2, .ref a3])), (a1, .inl (d1, 4096, .inl ft)), (a2, .inl (d2, 32, .inl fk)), (a3, .inl (d3, 16, .inl fg)), (qc, .inl (dc, cn, .inl (fun _ => 0)))] := hD
  refine W.widen (k := 1) (n := 4096) (Nat.le_refl _) (by omega) ?_
  refine lv_astore (lv' := [(4, .ref qc), (3, .int (nI ff)), (0, .ref o0), (1, .int x), (2, .int y)]) hx hb dX0_tag_14 hl (by decide) rfl (fun ls hl => ?_)
  refine lv_aload_n hx hb dX0_tag_16 rfl (lv_at hl 2 rfl) ?_
  refine va_get (D := (dC, dI)) (ci := 0) (v := .ref a1) (C := RX0) (T := TX0) (N := 4) hx hb hts in_X0 hown hK hP 0 rfl rfl 0 (by decide) (hts _ q27) (fun _ h9 => h9) rfl dX0_tag_17 ?_
  refine lv_iload_n hx hb dX0_tag_20 rfl (lv_at hl 1 rfl) ?_
  refine lv_aload hx hb dX0_tag_21 (lv_at hl 0 rfl) ?_
  refine lv_iconst (v := nI 0) hx hb dX0_tag_23 (by decide) ?_
  refine lv_aload hx hb dX0_tag_24 (lv_at hl 0 rfl) ?_
  refine va_alen (v := nI cn) hx hb hK hP 4 3 rfl rfl rfl dX0_tag_26 ?_
  refine ot_copyb (sp := ff) (dp := 0) (n := cn) hx hb (hml.trans hl.1.symm) hown (hts _ q78) (hts _ q80) (hts _ q79) (hts _ q11) hK hP hD hS 1 4 0 3 rfl rfl rfl rfl (by omega) (by omega) (by omega) (by omega) hby (Nat.le_of_ble_eq_true rfl) (Nat.le_of_ble_eq_true rfl) dX0_tag_27 (fun Fc H locs eFc hP hD hS => ?_)
  have hP : va_P (dC, dI) vwCl [(o0, .inr (0, [.ref a1, .int (nI z), .ref a2, .ref a3])), (a1, .inl (d1, 4096, .inl ft)), (a2, .inl (d2, 32, .inl fk)), (a3, .inl (d3, 16, .inl fg)), (qc, .inl (dc, cn, .inl Fc))] H := hP
  have hD : va_D A [(o0, .inr (0, [.ref a1, .int (nI z), .ref a2, .ref a3])), (a1, .inl (d1, 4096, .inl ft)), (a2, .inl (d2, 32, .inl fk)), (a3, .inl (d3, 16, .inl fg)), (qc, .inl (dc, cn, .inl Fc))] := hD
  have hFc2 : ∀ j, j < cn → Fc j = ft (ff + j) := fun j hj => by rw [eFc, pk_cpy_in (by omega) (by omega)]; congr 1
  refine lv_aload_n hx hb dX0_tag_30 rfl (lv_at hl 2 rfl) ?_
  refine lv_aload_n hx hb dX0_tag_31 rfl (lv_at hl 2 rfl) ?_
  refine va_get (D := (dC, dI)) (ci := 0) (v := .ref a2) (C := RX0) (T := TX0) (N := 4) hx hb hts in_X0 hown hK hP 0 rfl rfl 2 (by decide) (hts _ q29) (fun _ h9 => h9) rfl dX0_tag_32 ?_
  refine lv_aload hx hb dX0_tag_35 (lv_at hl 0 rfl) ?_
  have hPc := hP.sub (ws' := [(a2, .inl (d2, 32, .inl fk)), (qc, .inl (dc, cn, .inl Fc))]) [2, 4] rfl
  have hDc := hD.sub (ws' := [(a2, .inl (d2, 32, .inl fk)), (qc, .inl (dc, cn, .inl Fc))]) [2, 4] (by decide) rfl
  have hKc := hK.sub (tys' := [(d2, .byte), (dc, .byte)]) [1, 3] rfl
  have hFc := va_free (wc := [(a2, .inl (d2, 32, .inl fk)), (qc, .inl (dc, cn, .inl Fc))]) hD hS hA [2, 4] rfl
  refine va_callr (va_runS (As := [.ref a2, .ref qc]) (rest := [.ref o0]) ⟨hx, hb, hml, hown, hts⟩ (metX2_computeMac l dC dI H.size a2 qc cn d2 dc fk Fc (by omega) (fun j hj => by rw [hFc2 j hj]; exact hby _ (by omega))) (va_cwS 2 hts (lw_S q81 q82 q12 q83) rfl rfl rfl (by decide +kernel) ⟨Nat.le_of_ble_eq_true rfl, Nat.le_of_ble_eq_true rfl⟩) ⟨fun a U g mk q => by obtain ⟨q0, q1, qP, qK, qD⟩ := q; exact ⟨q0, q1, qP, va_K.moved (u := U) (U := U.calling g mk a) (Vm.Alike.refl U.vm) qK, qD⟩, fun U hU hW => ⟨rfl, by rw [hU], by rw [hU]; exact hPc, va_K.moved hW.alike hKc, hDc.weaken (fun _ _ _ _ => trivial)⟩⟩ rfl rfl hl.1 rfl (lv_room (Nat.le_of_ble_eq_true rfl)) dX0_tag_37 ⟨Nat.le_of_ble_eq_true rfl, Nat.le_of_ble_eq_true rfl⟩) hS (fun q _ h => hFc q h) hFc (fun u_ ra t H1 locs ht hvm hw_ hB hz1 hk1 hS => ?_)
  obtain ⟨hP1, hK1, hD1⟩ := hB
  rw [ht] at hP1
  have hK1 := va_K.moved hvm.symm hK1
  obtain ⟨hP, hD⟩ := va_join (wr := [(o0, .inr (0, [.ref a1, .int (nI z), .ref a2, .ref a3])), (a1, .inl (d1, 4096, .inl ft)), (a3, .inl (d3, 16, .inl fg))]) (w1 := [(a2, .inl (d2, 32, .inl fk)), (qc, .inl (dc, cn, .inl Fc)), (ra, .inl (u_.1, 16, .inl u_.2))]) hP hD [2, 4] [0, 1, 3] rfl rfl (by decide) (by decide) hk1 hFc hP1 hD1
  generalize H1 = H at hP hS ⊢
  have hP := hP.sub (ws' := [(o0, .inr (0, [.ref a1, .int (nI z), .ref a2, .ref a3])), (a1, .inl (d1, 4096, .inl ft)), (a2, .inl (d2, 32, .inl fk)), (a3, .inl (d3, 16, .inl fg)), (qc, .inl (dc, cn, .inl Fc)), (ra, .inl (u_.1, 16, .inl u_.2))]) [0, 1, 3, 2, 4, 5] rfl
  have hD := hD.sub (ws' := [(o0, .inr (0, [.ref a1, .int (nI z), .ref a2, .ref a3])), (a1, .inl (d1, 4096, .inl ft)), (a2, .inl (d2, 32, .inl fk)), (a3, .inl (d3, 16, .inl fg)), (qc, .inl (dc, cn, .inl Fc)), (ra, .inl (u_.1, 16, .inl u_.2))]) [0, 1, 3, 2, 4, 5] (by decide) rfl
  have hw_ : ∀ j, j < 16 → ot_b (u_.2 j) = ot_mac fk Fc cn / 256 ^ j % 256 := hw_
  have hK := hK.app hK1
  have hK : va_K (dC, dI) vwCl [(d1, .byte), (d2, .byte), (d3, .byte), (dc, .byte), (d2, .byte), (dc, .byte), (u_.1, .byte)] s := hK
  refine W.widen (k := 3) (n := 4129) (Nat.le_refl _) (Nat.le_refl _) ?_
  refine va_put (D := (dC, dI)) (ci := 0) (v := .ref ra) (ty := (.array .byte)) (C := RX0) (T := TX0) (N := 4) hx hb hts in_X0 tyX0 tyX0_ok nmX0 hown hK hP hD hS 0 rfl rfl 3 (by decide) (hts _ q30) (fun _ h9 => h9) rfl (by decide +kernel) rfl rfl (Nat.le_of_ble_eq_true rfl) dX0_tag_40 (fun H locs hP hD hS => ?_)
  have hP : va_P (dC, dI) vwCl [(o0, .inr (0, [.ref a1, .int (nI z), .ref a2, .ref ra])), (a1, .inl (d1, 4096, .inl ft)), (a2, .inl (d2, 32, .inl fk)), (a3, .inl (d3, 16, .inl fg)), (qc, .inl (dc, cn, .inl Fc)), (ra, .inl (u_.1, 16, .inl u_.2))] H := hP
  have hD : va_D A [(o0, .inr (0, [.ref a1, .int (nI z), .ref a2, .ref ra])), (a1, .inl (d1, 4096, .inl ft)), (a2, .inl (d2, 32, .inl fk)), (a3, .inl (d3, 16, .inl fg)), (qc, .inl (dc, cn, .inl Fc)), (ra, .inl (u_.1, 16, .inl u_.2))] := hD
  rw [ot_mac_cong hFc2] at hw_
  have hP9 := hP.sub (ws' := [(o0, .inr (0, [.ref a1, .int (nI z), .ref a2, .ref ra])), (a1, .inl (d1, 4096, .inl ft)), (a2, .inl (d2, 32, .inl fk)), (ra, .inl (u_.1, 16, .inl u_.2))]) [0, 1, 2, 5] rfl
  have hD9 := hD.sub (ws' := [(o0, .inr (0, [.ref a1, .int (nI z), .ref a2, .ref ra])), (a1, .inl (d1, 4096, .inl ft)), (a2, .inl (d2, 32, .inl fk)), (ra, .inl (u_.1, 16, .inl u_.2))]) [0, 1, 2, 5] (by decide) rfl
  have hK9 := hK.sub (tys' := [(d1, .byte), (d2, .byte), (u_.1, .byte)]) [0, 1, 6] rfl
  exact W.vret hx hb hr (fun t ht hW => ⟨⟨(ra, u_.1, u_.2), rfl, hw_, by rw [ht]; exact hP9, va_K.moved hW.alike hK9, hD9⟩, hS.F ht⟩) hS.2.2 dX0_tag_43
abbrev wsX0_init : List Cond := ws_ yX0_init cX0_init 1 none
set_option maxHeartbeats 4000000 in
set_option maxRecDepth 100000 in
/-- OneTimeTag(): no text, zeros -/
theorem metX0_init (l : Launch) (dC : Nat → ClassId) (dI : Nat → Nat → Nat) (sz : Nat) (o0 : Nat) : Met l yX0_init wsX0_init ({ frames := 1, cells := 3, slots := 4144, locals := 12 }) (va_Pc [.ref o0] (fun U => U.heap.size = sz ∧ va_P (dC, dI) vwCl [(o0, .inr (0, [.null, .int 0, .null, .null]))] U.heap ∧ va_K (dC, dI) vwCl [] U ∧ va_D (fun _ => True) [(o0, .inr (0, [.null, .int 0, .null, .null]))])) (va_Qv (fun (_ : Nat × Nat × Nat × ClassId × ClassId × ClassId) => True) (fun (u : Nat × Nat × Nat × ClassId × ClassId × ClassId) (t : State) => va_P (dC, dI) vwCl [(o0, .inr (0, [.ref u.1, .int 0, .ref u.2.1, .ref u.2.2.1])), (u.1, .inl (u.2.2.2.1, 4096, .inl (fun _ => 0))), (u.2.1, .inl (u.2.2.2.2.1, 32, .inl (fun _ => 0))), (u.2.2.1, .inl (u.2.2.2.2.2, 16, .inl (fun _ => 0)))] t.heap ∧ va_K (dC, dI) vwCl [(u.2.2.2.1, .byte), (u.2.2.2.2.1, .byte), (u.2.2.2.2.2, .byte)] t ∧ va_D (va_A [(o0, .inr (0, [.null, .int 0, .null, .null]))] sz) [(o0, .inr (0, [.ref u.1, .int 0, .ref u.2.1, .ref u.2.2.1])), (u.1, .inl (u.2.2.2.1, 4096, .inl (fun _ => 0))), (u.2.1, .inl (u.2.2.2.2.1, 32, .inl (fun _ => 0))), (u.2.2.1, .inl (u.2.2.2.2.2, 16, .inl (fun _ => 0)))]) (va_A [(o0, .inr (0, [.null, .int 0, .null, .null]))] sz)) 3 4144 (va_A [(o0, .inr (0, [.null, .int 0, .null, .null]))] sz) := by
  refine Met.ofW (cc := cX0_init) (maxL := 1) (ret := none) (by decide) rfl ?_
  intro p e s m args below meth c s₁ B hml hv
  obtain ⟨rfl, hsz, hP, hK, hD0⟩ := hv
  have hx := B.exec
  have hb := B.bytes
  have hr := B.returns
  have hts := atoms_spec (ws := wsX0_init) B.pre
  have hts : ∀ w ∈ lw_all, w.before _ s = true := fun w h => hts w (List.mem_cons_of_mem _ h)
  have hown : s.vm.findClass RX0 = some m.cls := findClass_of_methodNamed B.named
  have hlocks := B.notSynchronized
  have hin : meth.name = "<init>" := (name_of_methodNamed B.named B.method).1
  subst hsz
  have hD := hD0.self (sz := s.heap.size)
  generalize hAe : va_A [(o0, .inr (0, [.null, .int 0, .null, .null]))] s.heap.size = A at hD ⊢
  have hA : ∀ q : Nat, s.heap.size ≤ q → A q := fun q h => by rw [← hAe]; exact Or.inr h
  have hS : va_S A s.heap s.heap [] := va_S.rf
  have hP : va_P (dC, dI) vwCl [(o0, .inr (0, [.null, .int 0, .null, .null]))] s.heap := hP
  have hl := lv_entry ([.ref o0]) (n := 1) (Nat.le_of_ble_eq_true rfl)
  rw [lg_entry_eq]
  generalize (lg_sl ([.ref o0]) ++ List.replicate (1 - (lg_sl ([.ref o0])).length) Slot.unset).toArray = ls at hl ⊢
  have hl : lv_has ls 1 [(0, .ref o0)] := hl
  refine lv_aload_n hx hb dX0_init_0 rfl (lv_at hl 0 rfl) ?_
  refine W.objInit hx hb hown (hts _ q24) (hts _ q25) (hts _ q26) rfl (by rw [hml]; exact hl.1) rfl dX0_init_1 (Nat.le_of_ble_eq_true rfl) (Nat.le_of_ble_eq_true rfl) ?_
  refine W.eq (g2 := F0 m 4 ls []) rfl ?_
  refine lv_aload_n hx hb dX0_init_4 rfl (lv_at hl 0 rfl) ?_
  refine lv_sipush (v := nI 4096) hx hb dX0_init_5 (by decide) ?_
  refine va_newa (atype := .byte) (ty := .byte) (N' := 4096) (a0 := (4096, .inl (fun _ => 0))) hx hb (hts _ q40) rfl hK hP hD hS hA (fun _ => rfl) (by decide) (by decide) (by decide) (Nat.le_of_ble_eq_true rfl) (Nat.le_of_ble_eq_true rfl) dX0_init_8 (fun b1 e1 H hK hP hD hS => ?_)
  have hK : va_K (dC, dI) vwCl [(e1, .byte)] s := hK
  have hP : va_P (dC, dI) vwCl [(o0, .inr (0, [.null, .int 0, .null, .null])), (b1, .inl (e1, 4096, .inl (fun _ => 0)))] H := hP
  have hD : va_D A [(o0, .inr (0, [.null, .int 0, .null, .null])), (b1, .inl (e1, 4096, .inl (fun _ => 0)))] := hD
  refine W.widen (k := 1) (n := 4096) (Nat.le_refl _) (Nat.le_refl _) ?_
  refine va_putF (D := (dC, dI)) (ci := 0) (v := .ref b1) (ty := (.array .byte)) (C := RX0) (T := TX0) (N := 4) hx hb hts in_X0 tyX0 tyX0_ok nmX0 hown hK hP hD hS 0 rfl rfl 0 (by decide) (hts _ q27) (fun _ h9 => h9) rfl hin rfl (by decide +kernel) rfl rfl (Nat.le_of_ble_eq_true rfl) dX0_init_10 (fun H locs hP hD hS => ?_)
  have hP : va_P (dC, dI) vwCl [(o0, .inr (0, [.ref b1, .int 0, .null, .null])), (b1, .inl (e1, 4096, .inl (fun _ => 0)))] H := hP
  have hD : va_D A [(o0, .inr (0, [.ref b1, .int 0, .null, .null])), (b1, .inl (e1, 4096, .inl (fun _ => 0)))] := hD
  refine lv_aload_n hx hb dX0_init_13 rfl (lv_at hl 0 rfl) ?_
  refine lv_bipush (v := nI 32) hx hb dX0_init_14 (by decide) ?_
  refine va_newa (atype := .byte) (ty := .byte) (N' := 32) (a0 := (32, .inl (fun _ => 0))) hx hb (hts _ q40) rfl hK hP hD hS hA (fun _ => rfl) (by decide) (by decide) (by decide) (Nat.le_of_ble_eq_true rfl) (Nat.le_of_ble_eq_true rfl) dX0_init_16 (fun b2 e2 H hK hP hD hS => ?_)
  have hK : va_K (dC, dI) vwCl [(e1, .byte), (e2, .byte)] s := hK
  have hP : va_P (dC, dI) vwCl [(o0, .inr (0, [.ref b1, .int 0, .null, .null])), (b1, .inl (e1, 4096, .inl (fun _ => 0))), (b2, .inl (e2, 32, .inl (fun _ => 0)))] H := hP
  have hD : va_D A [(o0, .inr (0, [.ref b1, .int 0, .null, .null])), (b1, .inl (e1, 4096, .inl (fun _ => 0))), (b2, .inl (e2, 32, .inl (fun _ => 0)))] := hD
  refine W.widen (k := 2) (n := 4128) (Nat.le_refl _) (Nat.le_refl _) ?_
  refine va_putF (D := (dC, dI)) (ci := 0) (v := .ref b2) (ty := (.array .byte)) (C := RX0) (T := TX0) (N := 4) hx hb hts in_X0 tyX0 tyX0_ok nmX0 hown hK hP hD hS 0 rfl rfl 2 (by decide) (hts _ q29) (fun _ h9 => h9) rfl hin rfl (by decide +kernel) rfl rfl (Nat.le_of_ble_eq_true rfl) dX0_init_18 (fun H locs hP hD hS => ?_)
  have hP : va_P (dC, dI) vwCl [(o0, .inr (0, [.ref b1, .int 0, .ref b2, .null])), (b1, .inl (e1, 4096, .inl (fun _ => 0))), (b2, .inl (e2, 32, .inl (fun _ => 0)))] H := hP
  have hD : va_D A [(o0, .inr (0, [.ref b1, .int 0, .ref b2, .null])), (b1, .inl (e1, 4096, .inl (fun _ => 0))), (b2, .inl (e2, 32, .inl (fun _ => 0)))] := hD
  refine lv_aload_n hx hb dX0_init_21 rfl (lv_at hl 0 rfl) ?_
  refine lv_bipush (v := nI 16) hx hb dX0_init_22 (by decide) ?_
  refine va_newa (atype := .byte) (ty := .byte) (N' := 16) (a0 := (16, .inl (fun _ => 0))) hx hb (hts _ q40) rfl hK hP hD hS hA (fun _ => rfl) (by decide) (by decide) (by decide) (Nat.le_of_ble_eq_true rfl) (Nat.le_of_ble_eq_true rfl) dX0_init_24 (fun b3 e3 H hK hP hD hS => ?_)
  have hK : va_K (dC, dI) vwCl [(e1, .byte), (e2, .byte), (e3, .byte)] s := hK
  have hP : va_P (dC, dI) vwCl [(o0, .inr (0, [.ref b1, .int 0, .ref b2, .null])), (b1, .inl (e1, 4096, .inl (fun _ => 0))), (b2, .inl (e2, 32, .inl (fun _ => 0))), (b3, .inl (e3, 16, .inl (fun _ => 0)))] H := hP
  have hD : va_D A [(o0, .inr (0, [.ref b1, .int 0, .ref b2, .null])), (b1, .inl (e1, 4096, .inl (fun _ => 0))), (b2, .inl (e2, 32, .inl (fun _ => 0))), (b3, .inl (e3, 16, .inl (fun _ => 0)))] := hD
  refine W.widen (k := 3) (n := 4144) (Nat.le_refl _) (Nat.le_refl _) ?_
  refine va_put (D := (dC, dI)) (ci := 0) (v := .ref b3) (ty := (.array .byte)) (C := RX0) (T := TX0) (N := 4) hx hb hts in_X0 tyX0 tyX0_ok nmX0 hown hK hP hD hS 0 rfl rfl 3 (by decide) (hts _ q30) (fun _ h9 => h9) rfl (by decide +kernel) rfl rfl (Nat.le_of_ble_eq_true rfl) dX0_init_26 (fun H locs hP hD hS => ?_)
  have hP : va_P (dC, dI) vwCl [(o0, .inr (0, [.ref b1, .int 0, .ref b2, .ref b3])), (b1, .inl (e1, 4096, .inl (fun _ => 0))), (b2, .inl (e2, 32, .inl (fun _ => 0))), (b3, .inl (e3, 16, .inl (fun _ => 0)))] H := hP
  have hD : va_D A [(o0, .inr (0, [.ref b1, .int 0, .ref b2, .ref b3])), (b1, .inl (e1, 4096, .inl (fun _ => 0))), (b2, .inl (e2, 32, .inl (fun _ => 0))), (b3, .inl (e3, 16, .inl (fun _ => 0)))] := hD
  have hP9 := hP.sub (ws' := [(o0, .inr (0, [.ref b1, .int 0, .ref b2, .ref b3])), (b1, .inl (e1, 4096, .inl (fun _ => 0))), (b2, .inl (e2, 32, .inl (fun _ => 0))), (b3, .inl (e3, 16, .inl (fun _ => 0)))]) [0, 1, 2, 3] rfl
  have hD9 := hD.sub (ws' := [(o0, .inr (0, [.ref b1, .int 0, .ref b2, .ref b3])), (b1, .inl (e1, 4096, .inl (fun _ => 0))), (b2, .inl (e2, 32, .inl (fun _ => 0))), (b3, .inl (e3, 16, .inl (fun _ => 0)))]) [0, 1, 2, 3] (by decide) rfl
  have hK9 := hK.sub (tys' := [(e1, .byte), (e2, .byte), (e3, .byte)]) [0, 1, 2] rfl
  exact W.vret hx hb hr (fun t ht hW => ⟨⟨(b1, b2, b3, e1, e2, e3), rfl, trivial, by rw [ht]; exact hP9, va_K.moved hW.alike hK9, hD9⟩, hS.F ht⟩) hS.2.2 dX0_init_29
end
section
/-! OneTimeTagModel: its small methods -/
def ot_L (g : Nat → Nat) : Nat → Int64 := fun j => lN (g j)
def ot_I (g : Nat → Nat) : Nat → Int32 := fun j => nI (g j)
def ot_u (g : Nat → Nat) (k v : Nat) : Nat → Nat := fun j => if j = k then v else g j
theorem ot_L_upd (g : Nat → Nat) (k v : Nat) : vp_updL (ot_L g) k (lN v) = ot_L (ot_u g k v) := by
  funext j
  unfold vp_updL ot_L ot_u
  split <;> rfl
theorem ot_I_upd (g : Nat → Nat) (k v : Nat) : upd (ot_I g) k (nI v) = ot_I (ot_u g k v) := by
  funext j
  unfold upd ot_I ot_u
  split <;> rfl
theorem ot_ushrb (x : Int32) {k : Nat} (hk : k < 32) : (x.toUInt32 >>> ((nI k).toUInt32 &&& Int32.toUInt32 31)).toInt32.toInt8.toInt32 = ot_sb (x.toBitVec.toNat / 2 ^ k) := by
  unfold ot_sb
  apply ot_i8_ext
  rw [ot_b_nI (Nat.mod_lt _ (by decide))]
  unfold ot_b
  rw [pk_ushr x (nI k) k (s_u k hk)]
theorem ot_ushrk (x : Int32) {k : Nat} (hk : k < 32) : (x.toUInt32 >>> ((nI k).toUInt32 &&& Int32.toUInt32 31)).toInt32 &&& nI 255 = nI (ot_b (ot_sb (x.toBitVec.toNat / 2 ^ k))) := by
  rw [ot_and255, ot_b_sb]
  unfold ot_b
  rw [pk_ushr x (nI k) k (s_u k hk)]
abbrev wsX1_first : List Cond := ws_ yX1_first cX1_first 2 (some .int)
set_option maxHeartbeats 4000000 in
set_option maxRecDepth 100000 in
/-- first: a place, at most the size -/
theorem metX1_first (l : Launch) (dC : Nat → ClassId) (dI : Nat → Nat → Nat) (sz : Nat) (m0 b1 b2 b3 b4 b5 b6 z : Nat) (f : Int32) (hz : z ≤ 4096) : Met l yX1_first wsX1_first ({ frames := 0, cells := 0, slots := 0, locals := 0 }) (va_Pc [.ref m0, .int f] (fun U => U.heap.size = sz ∧ va_P (dC, dI) vwCl [(m0, .inr (1, [.ref b1, .int (nI z), .ref b2, .ref b3, .ref b4, .ref b5, .ref b6]))] U.heap ∧ va_K (dC, dI) vwCl [] U ∧ va_D (fun _ => True) [(m0, .inr (1, [.ref b1, .int (nI z), .ref b2, .ref b3, .ref b4, .ref b5, .ref b6]))])) (va_Qi (fun (r : Int32) (_ : Unit) => r = nI (ot_from f z)) (fun (u : Unit) (t : State) => va_P (dC, dI) vwCl [(m0, .inr (1, [.ref b1, .int (nI z), .ref b2, .ref b3, .ref b4, .ref b5, .ref b6]))] t.heap ∧ va_K (dC, dI) vwCl [] t ∧ va_D (va_A [(m0, .inr (1, [.ref b1, .int (nI z), .ref b2, .ref b3, .ref b4, .ref b5, .ref b6]))] sz) [(m0, .inr (1, [.ref b1, .int (nI z), .ref b2, .ref b3, .ref b4, .ref b5, .ref b6]))]) (va_A [(m0, .inr (1, [.ref b1, .int (nI z), .ref b2, .ref b3, .ref b4, .ref b5, .ref b6]))] sz)) 0 0 (va_A [(m0, .inr (1, [.ref b1, .int (nI z), .ref b2, .ref b3, .ref b4, .ref b5, .ref b6]))] sz) := by
  refine Met.ofW (cc := cX1_first) (maxL := 2) (ret := (some .int)) (by decide) rfl ?_
  intro p e s m args below meth c s₁ B hml hv
  obtain ⟨rfl, hsz, hP, hK, hD0⟩ := hv
  have hx := B.exec
  have hb := B.bytes
  have hr := B.returns
  have hts := atoms_spec (ws := wsX1_first) B.pre
  have hts : ∀ w ∈ lw_all, w.before _ s = true := fun w h => hts w (List.mem_cons_of_mem _ h)
  have hown : s.vm.findClass RX1 = some m.cls := findClass_of_methodNamed B.named
  have hlocks := B.notSynchronized
  subst hsz
  have hD := hD0.self (sz := s.heap.size)
  generalize hAe : va_A [(m0, .inr (1, [.ref b1, .int (nI z), .ref b2, .ref b3, .ref b4, .ref b5, .ref b6]))] s.heap.size = A at hD ⊢
  have hA : ∀ q : Nat, s.heap.size ≤ q → A q := fun q h => by rw [← hAe]; exact Or.inr h
  have hS : va_S A s.heap s.heap [] := va_S.rf
  have hP : va_P (dC, dI) vwCl [(m0, .inr (1, [.ref b1, .int (nI z), .ref b2, .ref b3, .ref b4, .ref b5, .ref b6]))] s.heap := hP
  have hl := lv_entry ([.ref m0, .int f]) (n := 2) (Nat.le_of_ble_eq_true rfl)
  rw [lg_entry_eq]
  generalize (lg_sl ([.ref m0, .int f]) ++ List.replicate (2 - (lg_sl ([.ref m0, .int f])).length) Slot.unset).toArray = ls at hl ⊢
  have hl : lv_has ls 2 [(0, .ref m0), (1, .int f)] := hl
  refine lv_iload_n hx hb dX1_first_0 rfl (lv_at hl 1 rfl) ?_
  refine lv_ldc (v := nI 2147483647) hx hb hown (hts _ q227) dX1_first_1 ?_
  refine lv_iand hx hb dX1_first_3 ?_
  refine ot_topi (nI (f.toBitVec.toNat % 2 ^ 31)) (pk_and f 31 (by decide)) ?_
  refine lv_aload_n hx hb dX1_first_4 rfl (lv_at hl 0 rfl) ?_
  refine va_get (D := (dC, dI)) (ci := 1) (v := .int (nI z)) (C := RX1) (T := TX1) (N := 7) hx hb hts in_X1 hown hK hP 0 rfl rfl 1 (by decide) (hts _ q192) (fun _ h9 => h9) rfl dX1_first_5 ?_
  refine lv_iconst (v := nI 1) hx hb dX1_first_8 (by decide) ?_
  refine lv_iadd hx hb dX1_first_9 ?_
  refine ot_topi (nI (z + 1)) (nI_add _ _) ?_
  refine lv_irem hx hb dX1_first_10 (nI_ne0 (by omega) (by omega)) ?_
  refine ot_topi (nI (ot_from f z)) (ot_remE f hz) ?_
  have hP9 := hP.sub (ws' := [(m0, .inr (1, [.ref b1, .int (nI z), .ref b2, .ref b3, .ref b4, .ref b5, .ref b6]))]) [0] rfl
  have hD9 := hD.sub (ws' := [(m0, .inr (1, [.ref b1, .int (nI z), .ref b2, .ref b3, .ref b4, .ref b5, .ref b6]))]) [0] (by decide) rfl
  have hK9 := hK.sub (tys' := []) [] rfl
  exact W.iret (v := nI (ot_from f z)) hx hb hr (fun t ht hW => ⟨⟨nI (ot_from f z), (), rfl, rfl, by rw [ht]; exact hP9, va_K.moved hW.alike hK9, hD9⟩, hS.F ht⟩) hS.2.2 dX1_first_11
abbrev wsX1_many : List Cond := ws_ yX1_many cX1_many 3 (some .int)
set_option maxHeartbeats 4000000 in
set_option maxRecDepth 100000 in
/-- many: how many, at most the rest -/
theorem metX1_many (l : Launch) (dC : Nat → ClassId) (dI : Nat → Nat → Nat) (sz : Nat) (m0 b1 b2 b3 b4 b5 b6 z : Nat) (y : Nat) (f : Int32) (hz : z ≤ 4096) (hy : y ≤ z) : Met l yX1_many wsX1_many ({ frames := 0, cells := 0, slots := 0, locals := 0 }) (va_Pc [.ref m0, .int (nI y), .int f] (fun U => U.heap.size = sz ∧ va_P (dC, dI) vwCl [(m0, .inr (1, [.ref b1, .int (nI z), .ref b2, .ref b3, .ref b4, .ref b5, .ref b6]))] U.heap ∧ va_K (dC, dI) vwCl [] U ∧ va_D (fun _ => True) [(m0, .inr (1, [.ref b1, .int (nI z), .ref b2, .ref b3, .ref b4, .ref b5, .ref b6]))])) (va_Qi (fun (r : Int32) (_ : Unit) => r = nI (ot_from f (z - y))) (fun (u : Unit) (t : State) => va_P (dC, dI) vwCl [(m0, .inr (1, [.ref b1, .int (nI z), .ref b2, .ref b3, .ref b4, .ref b5, .ref b6]))] t.heap ∧ va_K (dC, dI) vwCl [] t ∧ va_D (va_A [(m0, .inr (1, [.ref b1, .int (nI z), .ref b2, .ref b3, .ref b4, .ref b5, .ref b6]))] sz) [(m0, .inr (1, [.ref b1, .int (nI z), .ref b2, .ref b3, .ref b4, .ref b5, .ref b6]))]) (va_A [(m0, .inr (1, [.ref b1, .int (nI z), .ref b2, .ref b3, .ref b4, .ref b5, .ref b6]))] sz)) 0 0 (va_A [(m0, .inr (1, [.ref b1, .int (nI z), .ref b2, .ref b3, .ref b4, .ref b5, .ref b6]))] sz) := by
  refine Met.ofW (cc := cX1_many) (maxL := 3) (ret := (some .int)) (by decide) rfl ?_
  intro p e s m args below meth c s₁ B hml hv
  obtain ⟨rfl, hsz, hP, hK, hD0⟩ := hv
  have hx := B.exec
  have hb := B.bytes
  have hr := B.returns
  have hts := atoms_spec (ws := wsX1_many) B.pre
  have hts : ∀ w ∈ lw_all, w.before _ s = true := fun w h => hts w (List.mem_cons_of_mem _ h)
  have hown : s.vm.findClass RX1 = some m.cls := findClass_of_methodNamed B.named
  have hlocks := B.notSynchronized
  subst hsz
  have hD := hD0.self (sz := s.heap.size)
  generalize hAe : va_A [(m0, .inr (1, [.ref b1, .int (nI z), .ref b2, .ref b3, .ref b4, .ref b5, .ref b6]))] s.heap.size = A at hD ⊢
  have hA : ∀ q : Nat, s.heap.size ≤ q → A q := fun q h => by rw [← hAe]; exact Or.inr h
  have hS : va_S A s.heap s.heap [] := va_S.rf
  have hP : va_P (dC, dI) vwCl [(m0, .inr (1, [.ref b1, .int (nI z), .ref b2, .ref b3, .ref b4, .ref b5, .ref b6]))] s.heap := hP
  have hl := lv_entry ([.ref m0, .int (nI y), .int f]) (n := 3) (Nat.le_of_ble_eq_true rfl)
  rw [lg_entry_eq]
  generalize (lg_sl ([.ref m0, .int (nI y), .int f]) ++ List.replicate (3 - (lg_sl ([.ref m0, .int (nI y), .int f])).length) Slot.unset).toArray = ls at hl ⊢
  have hl : lv_has ls 3 [(0, .ref m0), (1, .int (nI y)), (2, .int f)] := hl
  refine lv_iload_n hx hb dX1_many_0 rfl (lv_at hl 2 rfl) ?_
  refine lv_ldc (v := nI 2147483647) hx hb hown (hts _ q227) dX1_many_1 ?_
  refine lv_iand hx hb dX1_many_3 ?_
  refine ot_topi (nI (f.toBitVec.toNat % 2 ^ 31)) (pk_and f 31 (by decide)) ?_
  refine lv_aload_n hx hb dX1_many_4 rfl (lv_at hl 0 rfl) ?_
  refine va_get (D := (dC, dI)) (ci := 1) (v := .int (nI z)) (C := RX1) (T := TX1) (N := 7) hx hb hts in_X1 hown hK hP 0 rfl rfl 1 (by decide) (hts _ q192) (fun _ h9 => h9) rfl dX1_many_5 ?_
  refine lv_iload_n hx hb dX1_many_8 rfl (lv_at hl 1 rfl) ?_
  refine lv_isub hx hb dX1_many_9 ?_
  refine ot_topi (nI (z - y)) (pk_sub hy) ?_
  refine lv_iconst (v := nI 1) hx hb dX1_many_10 (by decide) ?_
  refine lv_iadd hx hb dX1_many_11 ?_
  refine ot_topi (nI (z - y + 1)) (nI_add _ _) ?_
  refine lv_irem hx hb dX1_many_12 (nI_ne0 (by omega) (by omega)) ?_
  refine ot_topi (nI (ot_from f (z - y))) (ot_remE f (by omega)) ?_
  have hP9 := hP.sub (ws' := [(m0, .inr (1, [.ref b1, .int (nI z), .ref b2, .ref b3, .ref b4, .ref b5, .ref b6]))]) [0] rfl
  have hD9 := hD.sub (ws' := [(m0, .inr (1, [.ref b1, .int (nI z), .ref b2, .ref b3, .ref b4, .ref b5, .ref b6]))]) [0] (by decide) rfl
  have hK9 := hK.sub (tys' := []) [] rfl
  exact W.iret (v := nI (ot_from f (z - y))) hx hb hr (fun t ht hW => ⟨⟨nI (ot_from f (z - y)), (), rfl, rfl, by rw [ht]; exact hP9, va_K.moved hW.alike hK9, hD9⟩, hS.F ht⟩) hS.2.2 dX1_many_13
abbrev wsX1_size : List Cond := ws_ yX1_size cX1_size 1 (some .int)
set_option maxHeartbeats 4000000 in
set_option maxRecDepth 100000 in
/-- size -/
theorem metX1_size (l : Launch) (dC : Nat → ClassId) (dI : Nat → Nat → Nat) (sz : Nat) (m0 b1 b2 b3 b4 b5 b6 z : Nat) : Met l yX1_size wsX1_size ({ frames := 0, cells := 0, slots := 0, locals := 0 }) (va_Pc [.ref m0] (fun U => U.heap.size = sz ∧ va_P (dC, dI) vwCl [(m0, .inr (1, [.ref b1, .int (nI z), .ref b2, .ref b3, .ref b4, .ref b5, .ref b6]))] U.heap ∧ va_K (dC, dI) vwCl [] U ∧ va_D (fun _ => True) [(m0, .inr (1, [.ref b1, .int (nI z), .ref b2, .ref b3, .ref b4, .ref b5, .ref b6]))])) (va_Qi (fun (r : Int32) (_ : Unit) => r = nI z) (fun (u : Unit) (t : State) => va_P (dC, dI) vwCl [(m0, .inr (1, [.ref b1, .int (nI z), .ref b2, .ref b3, .ref b4, .ref b5, .ref b6]))] t.heap ∧ va_K (dC, dI) vwCl [] t ∧ va_D (va_A [(m0, .inr (1, [.ref b1, .int (nI z), .ref b2, .ref b3, .ref b4, .ref b5, .ref b6]))] sz) [(m0, .inr (1, [.ref b1, .int (nI z), .ref b2, .ref b3, .ref b4, .ref b5, .ref b6]))]) (va_A [(m0, .inr (1, [.ref b1, .int (nI z), .ref b2, .ref b3, .ref b4, .ref b5, .ref b6]))] sz)) 0 0 (va_A [(m0, .inr (1, [.ref b1, .int (nI z), .ref b2, .ref b3, .ref b4, .ref b5, .ref b6]))] sz) := by
  refine Met.ofW (cc := cX1_size) (maxL := 1) (ret := (some .int)) (by decide) rfl ?_
  intro p e s m args below meth c s₁ B hml hv
  obtain ⟨rfl, hsz, hP, hK, hD0⟩ := hv
  have hx := B.exec
  have hb := B.bytes
  have hr := B.returns
  have hts := atoms_spec (ws := wsX1_size) B.pre
  have hts : ∀ w ∈ lw_all, w.before _ s = true := fun w h => hts w (List.mem_cons_of_mem _ h)
  have hown : s.vm.findClass RX1 = some m.cls := findClass_of_methodNamed B.named
  have hlocks := B.notSynchronized
  subst hsz
  have hD := hD0.self (sz := s.heap.size)
  generalize hAe : va_A [(m0, .inr (1, [.ref b1, .int (nI z), .ref b2, .ref b3, .ref b4, .ref b5, .ref b6]))] s.heap.size = A at hD ⊢
  have hA : ∀ q : Nat, s.heap.size ≤ q → A q := fun q h => by rw [← hAe]; exact Or.inr h
  have hS : va_S A s.heap s.heap [] := va_S.rf
  have hP : va_P (dC, dI) vwCl [(m0, .inr (1, [.ref b1, .int (nI z), .ref b2, .ref b3, .ref b4, .ref b5, .ref b6]))] s.heap := hP
  have hl := lv_entry ([.ref m0]) (n := 1) (Nat.le_of_ble_eq_true rfl)
  rw [lg_entry_eq]
  generalize (lg_sl ([.ref m0]) ++ List.replicate (1 - (lg_sl ([.ref m0])).length) Slot.unset).toArray = ls at hl ⊢
  have hl : lv_has ls 1 [(0, .ref m0)] := hl
  refine lv_aload_n hx hb dX1_size_0 rfl (lv_at hl 0 rfl) ?_
  refine va_get (D := (dC, dI)) (ci := 1) (v := .int (nI z)) (C := RX1) (T := TX1) (N := 7) hx hb hts in_X1 hown hK hP 0 rfl rfl 1 (by decide) (hts _ q192) (fun _ h9 => h9) rfl dX1_size_1 ?_
  have hP9 := hP.sub (ws' := [(m0, .inr (1, [.ref b1, .int (nI z), .ref b2, .ref b3, .ref b4, .ref b5, .ref b6]))]) [0] rfl
  have hD9 := hD.sub (ws' := [(m0, .inr (1, [.ref b1, .int (nI z), .ref b2, .ref b3, .ref b4, .ref b5, .ref b6]))]) [0] (by decide) rfl
  have hK9 := hK.sub (tys' := []) [] rfl
  exact W.iret (v := nI z) hx hb hr (fun t ht hW => ⟨⟨nI z, (), rfl, rfl, by rw [ht]; exact hP9, va_K.moved hW.alike hK9, hD9⟩, hS.F ht⟩) hS.2.2 dX1_size_4
abbrev wsX1_answer : List Cond := ws_ yX1_answer cX1_answer 2 (some .int)
set_option maxHeartbeats 4000000 in
set_option maxRecDepth 100000 in
/-- answer: a byte of the tag -/
theorem metX1_answer (l : Launch) (dC : Nat → ClassId) (dI : Nat → Nat → Nat) (sz : Nat) (m0 b1 b2 b3 b4 b5 b6 z : Nat) (d3 : ClassId) (gt : Nat → Nat) (x : Int32) : Met l yX1_answer wsX1_answer ({ frames := 0, cells := 0, slots := 0, locals := 0 }) (va_Pc [.ref m0, .int x] (fun U => U.heap.size = sz ∧ va_P (dC, dI) vwCl [(m0, .inr (1, [.ref b1, .int (nI z), .ref b2, .ref b3, .ref b4, .ref b5, .ref b6])), (b3, .inl (d3, 16, .inl (ot_I gt)))] U.heap ∧ va_K (dC, dI) vwCl [(d3, .int)] U ∧ va_D (fun _ => True) [(m0, .inr (1, [.ref b1, .int (nI z), .ref b2, .ref b3, .ref b4, .ref b5, .ref b6])), (b3, .inl (d3, 16, .inl (ot_I gt)))])) (va_Qi (fun (r : Int32) (_ : Unit) => r = nI (gt (x.toBitVec.toNat % 2 ^ 4))) (fun (u : Unit) (t : State) => va_P (dC, dI) vwCl [(m0, .inr (1, [.ref b1, .int (nI z), .ref b2, .ref b3, .ref b4, .ref b5, .ref b6])), (b3, .inl (d3, 16, .inl (ot_I gt)))] t.heap ∧ va_K (dC, dI) vwCl [(d3, .int)] t ∧ va_D (va_A [(m0, .inr (1, [.ref b1, .int (nI z), .ref b2, .ref b3, .ref b4, .ref b5, .ref b6])), (b3, .inl (d3, 16, .inl (ot_I gt)))] sz) [(m0, .inr (1, [.ref b1, .int (nI z), .ref b2, .ref b3, .ref b4, .ref b5, .ref b6])), (b3, .inl (d3, 16, .inl (ot_I gt)))]) (va_A [(m0, .inr (1, [.ref b1, .int (nI z), .ref b2, .ref b3, .ref b4, .ref b5, .ref b6])), (b3, .inl (d3, 16, .inl (ot_I gt)))] sz)) 0 0 (va_A [(m0, .inr (1, [.ref b1, .int (nI z), .ref b2, .ref b3, .ref b4, .ref b5, .ref b6])), (b3, .inl (d3, 16, .inl (ot_I gt)))] sz) := by
  refine Met.ofW (cc := cX1_answer) (maxL := 2) (ret := (some .int)) (by decide) rfl ?_
  intro p e s m args below meth c s₁ B hml hv
  obtain ⟨rfl, hsz, hP, hK, hD0⟩ := hv
  have hx := B.exec
  have hb := B.bytes
  have hr := B.returns
  have hts := atoms_spec (ws := wsX1_answer) B.pre
  have hts : ∀ w ∈ lw_all, w.before _ s = true := fun w h => hts w (List.mem_cons_of_mem _ h)
  have hown : s.vm.findClass RX1 = some m.cls := findClass_of_methodNamed B.named
  have hlocks := B.notSynchronized
  subst hsz
  have hD := hD0.self (sz := s.heap.size)
  generalize hAe : va_A [(m0, .inr (1, [.ref b1, .int (nI z), .ref b2, .ref b3, .ref b4, .ref b5, .ref b6])), (b3, .inl (d3, 16, .inl (ot_I gt)))] s.heap.size = A at hD ⊢
  have hA : ∀ q : Nat, s.heap.size ≤ q → A q := fun q h => by rw [← hAe]; exact Or.inr h
  have hS : va_S A s.heap s.heap [] := va_S.rf
  have hP : va_P (dC, dI) vwCl [(m0, .inr (1, [.ref b1, .int (nI z), .ref b2, .ref b3, .ref b4, .ref b5, .ref b6])), (b3, .inl (d3, 16, .inl (ot_I gt)))] s.heap := hP
  have hl := lv_entry ([.ref m0, .int x]) (n := 2) (Nat.le_of_ble_eq_true rfl)
  rw [lg_entry_eq]
  generalize (lg_sl ([.ref m0, .int x]) ++ List.replicate (2 - (lg_sl ([.ref m0, .int x])).length) Slot.unset).toArray = ls at hl ⊢
  have hl : lv_has ls 2 [(0, .ref m0), (1, .int x)] := hl
  refine lv_aload_n hx hb dX1_answer_0 rfl (lv_at hl 0 rfl) ?_
  refine va_get (D := (dC, dI)) (ci := 1) (v := .ref b3) (C := RX1) (T := TX1) (N := 7) hx hb hts in_X1 hown hK hP 0 rfl rfl 3 (by decide) (hts _ q194) (fun _ h9 => h9) rfl dX1_answer_1 ?_
  refine lv_iload_n hx hb dX1_answer_4 rfl (lv_at hl 1 rfl) ?_
  refine lv_bipush (v := nI 15) hx hb dX1_answer_5 (by decide) ?_
  refine lv_iand hx hb dX1_answer_7 ?_
  refine ot_topi (nI (x.toBitVec.toNat % 2 ^ 4)) (pk_and x 4 (by decide)) ?_
  refine ot_iald (k := (x.toBitVec.toNat % 2 ^ 4)) hx hb hK hP 1 0 rfl rfl (by omega) (by omega) dX1_answer_8 ?_
  refine ot_topi (nI (gt (x.toBitVec.toNat % 2 ^ 4))) (rfl) ?_
  have hP9 := hP.sub (ws' := [(m0, .inr (1, [.ref b1, .int (nI z), .ref b2, .ref b3, .ref b4, .ref b5, .ref b6])), (b3, .inl (d3, 16, .inl (ot_I gt)))]) [0, 1] rfl
  have hD9 := hD.sub (ws' := [(m0, .inr (1, [.ref b1, .int (nI z), .ref b2, .ref b3, .ref b4, .ref b5, .ref b6])), (b3, .inl (d3, 16, .inl (ot_I gt)))]) [0, 1] (by decide) rfl
  have hK9 := hK.sub (tys' := [(d3, .int)]) [0] rfl
  exact W.iret (v := nI (gt (x.toBitVec.toNat % 2 ^ 4))) hx hb hr (fun t ht hW => ⟨⟨nI (gt (x.toBitVec.toNat % 2 ^ 4)), (), rfl, rfl, by rw [ht]; exact hP9, va_K.moved hW.alike hK9, hD9⟩, hS.F ht⟩) hS.2.2 dX1_answer_9
abbrev wsX1_trim : List Cond := ws_ yX1_trim cX1_trim 2 none
set_option maxHeartbeats 4000000 in
set_option maxRecDepth 100000 in
/-- trim: the size falls -/
theorem metX1_trim (l : Launch) (dC : Nat → ClassId) (dI : Nat → Nat → Nat) (sz : Nat) (m0 b1 b2 b3 b4 b5 b6 z : Nat) (x : Int32) (hz : z ≤ 4096) : Met l yX1_trim wsX1_trim ({ frames := 1, cells := 0, slots := 0, locals := 21 }) (va_Pc [.ref m0, .int x] (fun U => U.heap.size = sz ∧ va_P (dC, dI) vwCl [(m0, .inr (1, [.ref b1, .int (nI z), .ref b2, .ref b3, .ref b4, .ref b5, .ref b6]))] U.heap ∧ va_K (dC, dI) vwCl [] U ∧ va_D (fun _ => True) [(m0, .inr (1, [.ref b1, .int (nI z), .ref b2, .ref b3, .ref b4, .ref b5, .ref b6]))])) (va_Qv (fun (_ : Unit) => True) (fun (u : Unit) (t : State) => va_P (dC, dI) vwCl [(m0, .inr (1, [.ref b1, .int (nI (ot_from x z)), .ref b2, .ref b3, .ref b4, .ref b5, .ref b6]))] t.heap ∧ va_K (dC, dI) vwCl [] t ∧ va_D (va_A [(m0, .inr (1, [.ref b1, .int (nI z), .ref b2, .ref b3, .ref b4, .ref b5, .ref b6]))] sz) [(m0, .inr (1, [.ref b1, .int (nI (ot_from x z)), .ref b2, .ref b3, .ref b4, .ref b5, .ref b6]))]) (va_A [(m0, .inr (1, [.ref b1, .int (nI z), .ref b2, .ref b3, .ref b4, .ref b5, .ref b6]))] sz)) 0 0 (va_A [(m0, .inr (1, [.ref b1, .int (nI z), .ref b2, .ref b3, .ref b4, .ref b5, .ref b6]))] sz) := by
  refine Met.ofW (cc := cX1_trim) (maxL := 2) (ret := none) (by decide) rfl ?_
  intro p e s m args below meth c s₁ B hml hv
  obtain ⟨rfl, hsz, hP, hK, hD0⟩ := hv
  have hx := B.exec
  have hb := B.bytes
  have hr := B.returns
  have hts := atoms_spec (ws := wsX1_trim) B.pre
  have hts : ∀ w ∈ lw_all, w.before _ s = true := fun w h => hts w (List.mem_cons_of_mem _ h)
  have hown : s.vm.findClass RX1 = some m.cls := findClass_of_methodNamed B.named
  have hlocks := B.notSynchronized
  subst hsz
  have hD := hD0.self (sz := s.heap.size)
  generalize hAe : va_A [(m0, .inr (1, [.ref b1, .int (nI z), .ref b2, .ref b3, .ref b4, .ref b5, .ref b6]))] s.heap.size = A at hD ⊢
  have hA : ∀ q : Nat, s.heap.size ≤ q → A q := fun q h => by rw [← hAe]; exact Or.inr h
  have hS : va_S A s.heap s.heap [] := va_S.rf
  have hP : va_P (dC, dI) vwCl [(m0, .inr (1, [.ref b1, .int (nI z), .ref b2, .ref b3, .ref b4, .ref b5, .ref b6]))] s.heap := hP
  have hl := lv_entry ([.ref m0, .int x]) (n := 2) (Nat.le_of_ble_eq_true rfl)
  rw [lg_entry_eq]
  generalize (lg_sl ([.ref m0, .int x]) ++ List.replicate (2 - (lg_sl ([.ref m0, .int x])).length) Slot.unset).toArray = ls at hl ⊢
  have hl : lv_has ls 2 [(0, .ref m0), (1, .int x)] := hl
  refine lv_aload_n hx hb dX1_trim_0 rfl (lv_at hl 0 rfl) ?_
  refine lv_aload_n hx hb dX1_trim_1 rfl (lv_at hl 0 rfl) ?_
  refine lv_iload_n hx hb dX1_trim_2 rfl (lv_at hl 1 rfl) ?_
  have hPc := hP.sub (ws' := [(m0, .inr (1, [.ref b1, .int (nI z), .ref b2, .ref b3, .ref b4, .ref b5, .ref b6]))]) [0] rfl
  have hDc := hD.sub (ws' := [(m0, .inr (1, [.ref b1, .int (nI z), .ref b2, .ref b3, .ref b4, .ref b5, .ref b6]))]) [0] (by decide) rfl
  have hKc := hK.sub (tys' := []) [] rfl
  have hFc := va_free (wc := [(m0, .inr (1, [.ref b1, .int (nI z), .ref b2, .ref b3, .ref b4, .ref b5, .ref b6]))]) hD hS hA [0] rfl
  refine va_calli (va_runV (As := [.int x]) (rest := [.ref m0]) ⟨hx, hb, hml, hown, hts⟩ (metX1_first l dC dI s.heap.size m0 b1 b2 b3 b4 b5 b6 z x hz) (cwV 1 hts (lw_V q223 q225 qs5 q10 q226) rfl rfl rfl (by decide +kernel) ⟨Nat.le_of_ble_eq_true rfl, Nat.le_of_ble_eq_true rfl⟩) ⟨fun a U g mk q => by obtain ⟨q0, q1, qP, qK, qD⟩ := q; exact ⟨q0, q1, qP, va_K.moved (u := U) (U := U.calling g mk a) (Vm.Alike.refl U.vm) qK, qD⟩, va_recv hKc hPc (ci := 1) (q0 := 0) rfl rfl, fun U hU hW => ⟨rfl, by rw [hU], by rw [hU]; exact hPc, va_K.moved hW.alike hKc, hDc.weaken (fun _ _ _ _ => trivial)⟩⟩ rfl rfl hl.1 rfl (lv_room (Nat.le_of_ble_eq_true rfl)) dX1_trim_3 ⟨Nat.le_of_ble_eq_true rfl, Nat.le_of_ble_eq_true rfl⟩) hS (fun q _ h => hFc q h) hFc (fun r_ u_ t H1 locs ht hvm hw_ hB hz1 hk1 hS => ?_)
  obtain ⟨hP1, -, -⟩ := hB
  rw [ht] at hP1
  have hP := ot_back hP hD [0] rfl hk1 hP1
  generalize H1 = H at hP hS ⊢
  have e_ : r_ = nI (ot_from x z) := hw_
  subst e_
  refine W.widen (k := 0) (n := 0) (Nat.le_refl _) (Nat.le_refl _) ?_
  refine va_put (D := (dC, dI)) (ci := 1) (v := .int (nI (ot_from x z))) (ty := .int) (C := RX1) (T := TX1) (N := 7) hx hb hts in_X1 tyX1 tyX1_ok nmX1 hown hK hP hD hS 0 rfl rfl 1 (by decide) (hts _ q192) (fun _ h9 => h9) rfl (by decide +kernel) rfl rfl (Nat.le_of_ble_eq_true rfl) dX1_trim_6 (fun H locs hP hD hS => ?_)
  have hP : va_P (dC, dI) vwCl [(m0, .inr (1, [.ref b1, .int (nI (ot_from x z)), .ref b2, .ref b3, .ref b4, .ref b5, .ref b6]))] H := hP
  have hD : va_D A [(m0, .inr (1, [.ref b1, .int (nI (ot_from x z)), .ref b2, .ref b3, .ref b4, .ref b5, .ref b6]))] := hD
  have hP9 := hP.sub (ws' := [(m0, .inr (1, [.ref b1, .int (nI (ot_from x z)), .ref b2, .ref b3, .ref b4, .ref b5, .ref b6]))]) [0] rfl
  have hD9 := hD.sub (ws' := [(m0, .inr (1, [.ref b1, .int (nI (ot_from x z)), .ref b2, .ref b3, .ref b4, .ref b5, .ref b6]))]) [0] (by decide) rfl
  have hK9 := hK.sub (tys' := []) [] rfl
  exact W.vret hx hb hr (fun t ht hW => ⟨⟨(), rfl, trivial, by rw [ht]; exact hP9, va_K.moved hW.alike hK9, hD9⟩, hS.F ht⟩) hS.2.2 dX1_trim_9
set_option maxHeartbeats 4000000 in
set_option maxRecDepth 100000 in
theorem chX1_put {p : Program} {l : Launch} {e : Env} {R : Room} {s : State} {m : MethodId} {args : Array Value} {below : List Frame} {meth : Method} {c : Code} {cells slots : Nat} {Q : State → Prop} {H : Heap} {locs : List Loc} (hx : p.tables.exec = Jvm.exec) (hb : c.code = cX1_put) {m0 i : Nat} {hf x1 x2 x3 x4 : Int32} (hi : i < 16) {ls : Array Slot} (hl : lv_has ls 7 [(0, .ref m0), (1, .int x1), (2, .int x2), (3, .int x3), (4, .int x4), (5, .int (nI i))]) (kk : W p l e R s m args below meth c H locs cells slots Q (F0 m 59 ls [.int (if i < 4 then x1 else if i < 8 then x2 else if i < 12 then x3 else x4)])) : W p l e R s m args below meth c H locs cells slots Q (F0 m 25 ls []) := by
  refine lv_iload hx hb dX1_put_25 (lv_at hl 5 rfl) ?_
  refine lv_iconst (v := nI 4) hx hb dX1_put_27 (by decide) ?_
  refine lv_icmp_ge (tgt := 35) hx hb dX1_put_28 (by decide) (fun c0 => ?_) (fun c0 => ?_)
  · have k0 : 4 ≤ i := (nI_leI (by omega) (by omega)).mp c0
    refine lv_iload hx hb dX1_put_35 (lv_at hl 5 rfl) ?_
    refine lv_bipush (v := nI 8) hx hb dX1_put_37 (by decide) ?_
    refine lv_icmp_ge (tgt := 46) hx hb dX1_put_39 (by decide) (fun c1 => ?_) (fun c1 => ?_)
    · have k1 : 8 ≤ i := (nI_leI (by omega) (by omega)).mp c1
      refine lv_iload hx hb dX1_put_46 (lv_at hl 5 rfl) ?_
      refine lv_bipush (v := nI 12) hx hb dX1_put_48 (by decide) ?_
      refine lv_icmp_ge (tgt := 57) hx hb dX1_put_50 (by decide) (fun c2 => ?_) (fun c2 => ?_)
      · have k2 : 12 ≤ i := (nI_leI (by omega) (by omega)).mp c2
        refine lv_iload hx hb dX1_put_57 (lv_at hl 4 rfl) ?_
        refine ot_topi (if i < 4 then x1 else if i < 8 then x2 else if i < 12 then x3 else x4) ?_ kk
        (repeat' split) <;> first | rfl | omega
      · have k2 : i < 12 := by rcases Nat.lt_or_ge i 12 with q | q; exact q; exact absurd (nI_le q (by omega)) c2
        refine lv_iload_n hx hb dX1_put_53 rfl (lv_at hl 3 rfl) ?_
        refine lv_goto (tgt := 59) hx hb dX1_put_54 (by decide) ?_
        refine ot_topi (if i < 4 then x1 else if i < 8 then x2 else if i < 12 then x3 else x4) ?_ kk
        (repeat' split) <;> first | rfl | omega
    · have k1 : i < 8 := by rcases Nat.lt_or_ge i 8 with q | q; exact q; exact absurd (nI_le q (by omega)) c1
      refine lv_iload_n hx hb dX1_put_42 rfl (lv_at hl 2 rfl) ?_
      refine lv_goto (tgt := 59) hx hb dX1_put_43 (by decide) ?_
      refine ot_topi (if i < 4 then x1 else if i < 8 then x2 else if i < 12 then x3 else x4) ?_ kk
      (repeat' split) <;> first | rfl | omega
  · have k0 : i < 4 := by rcases Nat.lt_or_ge i 4 with q | q; exact q; exact absurd (nI_le q (by omega)) c0
    refine lv_iload_n hx hb dX1_put_31 rfl (lv_at hl 1 rfl) ?_
    refine lv_goto (tgt := 59) hx hb dX1_put_32 (by decide) ?_
    refine ot_topi (if i < 4 then x1 else if i < 8 then x2 else if i < 12 then x3 else x4) ?_ kk
    (repeat' split) <;> first | rfl | omega
set_option maxHeartbeats 4000000 in
set_option maxRecDepth 100000 in
/-- the loop of put -/
theorem lpX1_put {p : Program} {l : Launch} {e : Env} {R : Room} {s : State} {m : MethodId} {args : Array Value} {below : List Frame} {meth : Method} {c : Code} {cells slots : Nat} {Q : State → Prop} {dC : Nat → ClassId} {dI : Nat → Nat → Nat} {A : Nat → Prop} (hx : p.tables.exec = Jvm.exec) (hb : c.code = cX1_put) (hown : s.vm.findClass RX1 = some m.cls) (hts : ∀ w ∈ lw_all, w.before args s = true) {m0 b1 b2 b3 b4 b5 b6 z : Nat} {d1 : ClassId} {x1 x2 x3 x4 : Int32} (hz2 : z + 16 ≤ 4096) (ft : Nat → Int32) (hK : va_K (dC, dI) vwCl [(d1, .byte)] s)
    (kk : ∀ (i : Nat) (F : Nat → Int32), i = 16 → (∀ j, F j = if z ≤ j ∧ j < z + i then ot_pb x1 x2 x3 x4 (j - z) else ft j) → ∀ (H : Heap) (locs : List Loc), va_P (dC, dI) vwCl [(m0, .inr (1, [.ref b1, .int (nI z), .ref b2, .ref b3, .ref b4, .ref b5, .ref b6])), (b1, .inl (d1, 4096, .inl F))] H → va_D A [(m0, .inr (1, [.ref b1, .int (nI z), .ref b2, .ref b3, .ref b4, .ref b5, .ref b6])), (b1, .inl (d1, 4096, .inl F))] → va_S A s.heap H locs → ∀ (ls : Array Slot), lv_has ls 7 [(0, .ref m0), (1, .int x1), (2, .int x2), (3, .int x3), (4, .int x4), (5, .int (nI i))] → W p l e R s m args below meth c H locs cells slots Q (F0 m 93 ls [])) :
    ∀ (n i : Nat) (F : Nat → Int32), n + i = 16 → (∀ j, F j = if z ≤ j ∧ j < z + i then ot_pb x1 x2 x3 x4 (j - z) else ft j) → ∀ (H : Heap) (locs : List Loc), va_P (dC, dI) vwCl [(m0, .inr (1, [.ref b1, .int (nI z), .ref b2, .ref b3, .ref b4, .ref b5, .ref b6])), (b1, .inl (d1, 4096, .inl F))] H → va_D A [(m0, .inr (1, [.ref b1, .int (nI z), .ref b2, .ref b3, .ref b4, .ref b5, .ref b6])), (b1, .inl (d1, 4096, .inl F))] → va_S A s.heap H locs → ∀ (ls : Array Slot), lv_has ls 7 [(0, .ref m0), (1, .int x1), (2, .int x2), (3, .int x3), (4, .int x4), (5, .int (nI i))] → W p l e R s m args below meth c H locs cells slots Q (F0 m 18 ls []) := by
  intro n
  induction n with
  | zero =>
    intro i F hn_ h2 H locs hP hD hS ls hl
    refine lv_iload hx hb dX1_put_18 (lv_at hl 5 rfl) ?_
    refine lv_bipush (v := nI 16) hx hb dX1_put_20 (by decide) ?_
    refine lv_icmp_ge (tgt := 93) hx hb dX1_put_22 (by decide) (fun c_ => ?_) (fun c_ => absurd c_ (not_not_intro (nI_le (by omega) (by omega))))
    exact kk i F (by omega) h2 H locs hP hD hS ls (lv_sub hl [0, 1, 2, 3, 4, 5] rfl)
  | succ n ih =>
    intro i F hn_ h2 H locs hP hD hS ls hl
    refine lv_iload hx hb dX1_put_18 (lv_at hl 5 rfl) ?_
    refine lv_bipush (v := nI 16) hx hb dX1_put_20 (by decide) ?_
    refine lv_icmp_ge (tgt := 93) hx hb dX1_put_22 (by decide) (fun c_ => absurd c_ (nI_ge (by omega) (by omega))) (fun c_ => ?_)
    refine chX1_put (hf := 0) hx hb (by omega) (lv_sub hl [0, 1, 2, 3, 4, 5] rfl) ?_
    refine lv_istore (lv' := [(6, .int (if i < 4 then x1 else if i < 8 then x2 else if i < 12 then x3 else x4)), (0, .ref m0), (1, .int x1), (2, .int x2), (3, .int x3), (4, .int x4), (5, .int (nI i))]) hx hb dX1_put_59 hl (by decide) rfl (fun ls hl => ?_)
    refine lv_aload_n hx hb dX1_put_61 rfl (lv_at hl 1 rfl) ?_
    refine va_get (D := (dC, dI)) (ci := 1) (v := .ref b1) (C := RX1) (T := TX1) (N := 7) hx hb hts in_X1 hown hK hP 0 rfl rfl 0 (by decide) (hts _ q191) (fun _ h9 => h9) rfl dX1_put_62 ?_
    refine lv_aload_n hx hb dX1_put_65 rfl (lv_at hl 1 rfl) ?_
    refine va_get (D := (dC, dI)) (ci := 1) (v := .int (nI z)) (C := RX1) (T := TX1) (N := 7) hx hb hts in_X1 hown hK hP 0 rfl rfl 1 (by decide) (hts _ q192) (fun _ h9 => h9) rfl dX1_put_66 ?_
    refine lv_iload hx hb dX1_put_69 (lv_at hl 6 rfl) ?_
    refine lv_iadd hx hb dX1_put_71 ?_
    refine ot_topi (nI (z + i)) (nI_add _ _) ?_
    refine lv_iload hx hb dX1_put_72 (lv_at hl 0 rfl) ?_
    refine lv_bipush (v := nI 24) hx hb dX1_put_74 (by decide) ?_
    refine lv_bipush (v := nI 8) hx hb dX1_put_76 (by decide) ?_
    refine lv_iload hx hb dX1_put_78 (lv_at hl 6 rfl) ?_
    refine lv_iconst (v := nI 3) hx hb dX1_put_80 (by decide) ?_
    refine lv_iand hx hb dX1_put_81 ?_
    refine ot_topi (nI (i % 2 ^ 2)) (pk_andN (by omega) 2 (by decide)) ?_
    refine lv_imul hx hb dX1_put_82 ?_
    refine ot_topi (nI (8 * (i % 2 ^ 2))) (pk_mul _ _) ?_
    refine lv_isub hx hb dX1_put_83 ?_
    refine ot_topi (nI (24 - 8 * (i % 4))) (pk_sub (by omega)) ?_
    refine lv_iushr hx hb dX1_put_84 rfl ?_
    refine lv_i2b hx hb dX1_put_85 rfl ?_
    refine ot_topi (ot_pb x1 x2 x3 x4 i) (ot_ushrb _ (by omega)) ?_
    refine ot_bast (k := (z + i)) (v := ot_pb x1 x2 x3 x4 i) hx hb hK hP hD hS 1 0 rfl rfl (pk_vb _) (by omega) (by omega) dX1_put_86 (fun F2 H locs eF2 hP hD hS => ?_)
    have hP : va_P (dC, dI) vwCl [(m0, .inr (1, [.ref b1, .int (nI z), .ref b2, .ref b3, .ref b4, .ref b5, .ref b6])), (b1, .inl (d1, 4096, .inl F2))] H := hP
    have hD : va_D A [(m0, .inr (1, [.ref b1, .int (nI z), .ref b2, .ref b3, .ref b4, .ref b5, .ref b6])), (b1, .inl (d1, 4096, .inl F2))] := hD
    refine lv_iinc (v := nI (i + 1)) (lv' := [(5, .int (nI (i + 1))), (6, .int (if i < 4 then x1 else if i < 8 then x2 else if i < 12 then x3 else x4)), (0, .ref m0), (1, .int x1), (2, .int x2), (3, .int x3), (4, .int x4)]) hx hb dX1_put_87 hl (k := 6) rfl (ot_inc _ _) (by decide) rfl (fun ls hl => ?_)
    refine lv_goto (tgt := 18) hx hb dX1_put_90 (by decide) ?_
    refine ih (i + 1) F2 (by omega) (fun j => ?_) H locs hP hD hS ls (lv_sub hl [2, 3, 4, 5, 6, 0] rfl)
    rw [eF2]
    unfold upd
    rw [h2]
    (repeat' split) <;> first | rfl | omega | (congr 1; omega)
abbrev wsX1_put : List Cond := ws_ yX1_put cX1_put 7 (some .boolean)
set_option maxHeartbeats 4000000 in
set_option maxRecDepth 100000 in
/-- put: sixteen bytes behind the text, if there is room -/
theorem metX1_put (l : Launch) (dC : Nat → ClassId) (dI : Nat → Nat → Nat) (sz : Nat) (m0 b1 b2 b3 b4 b5 b6 z : Nat) (d1 : ClassId) (ft : Nat → Int32) (x1 x2 x3 x4 : Int32) (hz : z ≤ 4096) : Met l yX1_put wsX1_put ({ frames := 0, cells := 0, slots := 0, locals := 0 }) (va_Pc [.ref m0, .int x1, .int x2, .int x3, .int x4] (fun U => U.heap.size = sz ∧ va_P (dC, dI) vwCl [(m0, .inr (1, [.ref b1, .int (nI z), .ref b2, .ref b3, .ref b4, .ref b5, .ref b6])), (b1, .inl (d1, 4096, .inl ft))] U.heap ∧ va_K (dC, dI) vwCl [(d1, .byte)] U ∧ va_D (fun _ => True) [(m0, .inr (1, [.ref b1, .int (nI z), .ref b2, .ref b3, .ref b4, .ref b5, .ref b6])), (b1, .inl (d1, 4096, .inl ft))])) (va_Qi (fun (r : Int32) (u : Nat × (Nat → Int32)) => (z + 16 ≤ 4096 ∧ r = nI 1 ∧ u.1 = z + 16 ∧ ∀ j, u.2 j = if z ≤ j ∧ j < z + 16 then ot_pb x1 x2 x3 x4 (j - z) else ft j) ∨ (4096 < z + 16 ∧ r = nI 0 ∧ u = (z, ft))) (fun (u : Nat × (Nat → Int32)) (t : State) => va_P (dC, dI) vwCl [(m0, .inr (1, [.ref b1, .int (nI u.1), .ref b2, .ref b3, .ref b4, .ref b5, .ref b6])), (b1, .inl (d1, 4096, .inl u.2))] t.heap ∧ va_K (dC, dI) vwCl [(d1, .byte)] t ∧ va_D (va_A [(m0, .inr (1, [.ref b1, .int (nI z), .ref b2, .ref b3, .ref b4, .ref b5, .ref b6])), (b1, .inl (d1, 4096, .inl ft))] sz) [(m0, .inr (1, [.ref b1, .int (nI u.1), .ref b2, .ref b3, .ref b4, .ref b5, .ref b6])), (b1, .inl (d1, 4096, .inl u.2))]) (va_A [(m0, .inr (1, [.ref b1, .int (nI z), .ref b2, .ref b3, .ref b4, .ref b5, .ref b6])), (b1, .inl (d1, 4096, .inl ft))] sz)) 0 0 (va_A [(m0, .inr (1, [.ref b1, .int (nI z), .ref b2, .ref b3, .ref b4, .ref b5, .ref b6])), (b1, .inl (d1, 4096, .inl ft))] sz) := by
  refine Met.ofW (cc := cX1_put) (maxL := 7) (ret := (some .boolean)) (by decide) rfl ?_
  intro p e s m args below meth c s₁ B hml hv
  obtain ⟨rfl, hsz, hP, hK, hD0⟩ := hv
  have hx := B.exec
  have hb := B.bytes
  have hr := B.returns
  have hts := atoms_spec (ws := wsX1_put) B.pre
  have hts : ∀ w ∈ lw_all, w.before _ s = true := fun w h => hts w (List.mem_cons_of_mem _ h)
  have hown : s.vm.findClass RX1 = some m.cls := findClass_of_methodNamed B.named
  have hlocks := B.notSynchronized
  subst hsz
  have hD := hD0.self (sz := s.heap.size)
  generalize hAe : va_A [(m0, .inr (1, [.ref b1, .int (nI z), .ref b2, .ref b3, .ref b4, .ref b5, .ref b6])), (b1, .inl (d1, 4096, .inl ft))] s.heap.size = A at hD ⊢
  have hA : ∀ q : Nat, s.heap.size ≤ q → A q := fun q h => by rw [← hAe]; exact Or.inr h
  have hS : va_S A s.heap s.heap [] := va_S.rf
  have hP : va_P (dC, dI) vwCl [(m0, .inr (1, [.ref b1, .int (nI z), .ref b2, .ref b3, .ref b4, .ref b5, .ref b6])), (b1, .inl (d1, 4096, .inl ft))] s.heap := hP
  have hl := lv_entry ([.ref m0, .int x1, .int x2, .int x3, .int x4]) (n := 7) (Nat.le_of_ble_eq_true rfl)
  rw [lg_entry_eq]
  generalize (lg_sl ([.ref m0, .int x1, .int x2, .int x3, .int x4]) ++ List.replicate (7 - (lg_sl ([.ref m0, .int x1, .int x2, .int x3, .int x4])).length) Slot.unset).toArray = ls at hl ⊢
  have hl : lv_has ls 7 [(0, .ref m0), (1, .int x1), (2, .int x2), (3, .int x3), (4, .int x4)] := hl
  refine lv_aload_n hx hb dX1_put_0 rfl (lv_at hl 0 rfl) ?_
  refine va_get (D := (dC, dI)) (ci := 1) (v := .int (nI z)) (C := RX1) (T := TX1) (N := 7) hx hb hts in_X1 hown hK hP 0 rfl rfl 1 (by decide) (hts _ q192) (fun _ h9 => h9) rfl dX1_put_1 ?_
  refine lv_bipush (v := nI 16) hx hb dX1_put_4 (by decide) ?_
  refine lv_iadd hx hb dX1_put_6 ?_
  refine ot_topi (nI (z + 16)) (nI_add _ _) ?_
  refine lv_sipush (v := nI 4096) hx hb dX1_put_7 (by decide) ?_
  refine lv_icmp_le (tgt := 15) hx hb dX1_put_10 (by decide) (fun c1 => ?_) (fun c1 => ?_)
  · have hz2 : z + 16 ≤ 4096 := (nI_leI (by omega) (by omega)).mp c1
    refine lv_iconst (v := nI 0) hx hb dX1_put_15 (by decide) ?_
    refine lv_istore (lv' := [(5, .int (nI 0)), (0, .ref m0), (1, .int x1), (2, .int x2), (3, .int x3), (4, .int x4)]) hx hb dX1_put_16 hl (by decide) rfl (fun ls hl => ?_)
    refine lpX1_put hx hb hown hts hz2 ft hK (fun i F hi h2 H locs hP hD hS ls hl => ?_) 16 0 ft (by omega) (fun j => by rw [if_neg (by omega)]) _ _ hP hD hS ls (lv_sub hl [1, 2, 3, 4, 5, 0] rfl)
    subst hi
    refine lv_aload_n hx hb dX1_put_93 rfl (lv_at hl 0 rfl) ?_
    refine lv_aload_n hx hb dX1_put_94 rfl (lv_at hl 0 rfl) ?_
    refine va_get (D := (dC, dI)) (ci := 1) (v := .int (nI z)) (C := RX1) (T := TX1) (N := 7) hx hb hts in_X1 hown hK hP 0 rfl rfl 1 (by decide) (hts _ q192) (fun _ h9 => h9) rfl dX1_put_95 ?_
    refine lv_bipush (v := nI 16) hx hb dX1_put_98 (by decide) ?_
    refine lv_iadd hx hb dX1_put_100 ?_
    refine ot_topi (nI (z + 16)) (nI_add _ _) ?_
    refine va_put (D := (dC, dI)) (ci := 1) (v := .int (nI (z + 16))) (ty := .int) (C := RX1) (T := TX1) (N := 7) hx hb hts in_X1 tyX1 tyX1_ok nmX1 hown hK hP hD hS 0 rfl rfl 1 (by decide) (hts _ q192) (fun _ h9 => h9) rfl (by decide +kernel) rfl rfl (Nat.le_of_ble_eq_true rfl) dX1_put_101 (fun H locs hP hD hS => ?_)
    have hP : va_P (dC, dI) vwCl [(m0, .inr (1, [.ref b1, .int (nI (z + 16)), .ref b2, .ref b3, .ref b4, .ref b5, .ref b6])), (b1, .inl (d1, 4096, .inl F))] H := hP
    have hD : va_D A [(m0, .inr (1, [.ref b1, .int (nI (z + 16)), .ref b2, .ref b3, .ref b4, .ref b5, .ref b6])), (b1, .inl (d1, 4096, .inl F))] := hD
    refine lv_iconst (v := nI 1) hx hb dX1_put_104 (by decide) ?_
    have hP9 := hP.sub (ws' := [(m0, .inr (1, [.ref b1, .int (nI (z + 16)), .ref b2, .ref b3, .ref b4, .ref b5, .ref b6])), (b1, .inl (d1, 4096, .inl F))]) [0, 1] rfl
    have hD9 := hD.sub (ws' := [(m0, .inr (1, [.ref b1, .int (nI (z + 16)), .ref b2, .ref b3, .ref b4, .ref b5, .ref b6])), (b1, .inl (d1, 4096, .inl F))]) [0, 1] (by decide) rfl
    have hK9 := hK.sub (tys' := [(d1, .byte)]) [0] rfl
    exact W.zret (v := nI 1) hx hb hr rfl (fun t ht hW => ⟨⟨nI 1, (z + 16, F), rfl, Or.inl ⟨hz2, rfl, rfl, h2⟩, by rw [ht]; exact hP9, va_K.moved hW.alike hK9, hD9⟩, hS.F ht⟩) hS.2.2 dX1_put_105
  · have hz2 : 4096 < z + 16 := by rcases Nat.lt_or_ge 4096 (z + 16) with q | q; exact q; exact absurd (nI_le q (by omega)) c1
    refine lv_iconst (v := nI 0) hx hb dX1_put_13 (by decide) ?_
    have hP9 := hP.sub (ws' := [(m0, .inr (1, [.ref b1, .int (nI z), .ref b2, .ref b3, .ref b4, .ref b5, .ref b6])), (b1, .inl (d1, 4096, .inl ft))]) [0, 1] rfl
    have hD9 := hD.sub (ws' := [(m0, .inr (1, [.ref b1, .int (nI z), .ref b2, .ref b3, .ref b4, .ref b5, .ref b6])), (b1, .inl (d1, 4096, .inl ft))]) [0, 1] (by decide) rfl
    have hK9 := hK.sub (tys' := [(d1, .byte)]) [0] rfl
    exact W.zret (v := nI 0) hx hb hr rfl (fun t ht hW => ⟨⟨nI 0, (z, ft), rfl, Or.inr ⟨hz2, rfl, rfl⟩, by rw [ht]; exact hP9, va_K.moved hW.alike hK9, hD9⟩, hS.F ht⟩) hS.2.2 dX1_put_14
end
section
/-! OneTimeTagModel: key, its constructor, reduce -/
set_option maxHeartbeats 4000000 in
set_option maxRecDepth 100000 in
theorem chX1_key {p : Program} {l : Launch} {e : Env} {R : Room} {s : State} {m : MethodId} {args : Array Value} {below : List Frame} {meth : Method} {c : Code} {cells slots : Nat} {Q : State → Prop} {H : Heap} {locs : List Loc} (hx : p.tables.exec = Jvm.exec) (hb : c.code = cX1_key) {m0 i : Nat} {hf x1 x2 x3 x4 : Int32} (hi : i < 16) {ls : Array Slot} (hl : lv_has ls 8 [(0, .ref m0), (1, .int hf), (2, .int x1), (3, .int x2), (4, .int x3), (5, .int x4), (6, .int (nI i))]) (kk : W p l e R s m args below meth c H locs cells slots Q (F0 m 45 ls [.int (if i < 4 then x1 else if i < 8 then x2 else if i < 12 then x3 else x4)])) : W p l e R s m args below meth c H locs cells slots Q (F0 m 10 ls []) := by
  refine lv_iload hx hb dX1_key_10 (lv_at hl 6 rfl) ?_
  refine lv_iconst (v := nI 4) hx hb dX1_key_12 (by decide) ?_
  refine lv_icmp_ge (tgt := 20) hx hb dX1_key_13 (by decide) (fun c0 => ?_) (fun c0 => ?_)
  · have k0 : 4 ≤ i := (nI_leI (by omega) (by omega)).mp c0
    refine lv_iload hx hb dX1_key_20 (lv_at hl 6 rfl) ?_
    refine lv_bipush (v := nI 8) hx hb dX1_key_22 (by decide) ?_
    refine lv_icmp_ge (tgt := 31) hx hb dX1_key_24 (by decide) (fun c1 => ?_) (fun c1 => ?_)
    · have k1 : 8 ≤ i := (nI_leI (by omega) (by omega)).mp c1
      refine lv_iload hx hb dX1_key_31 (lv_at hl 6 rfl) ?_
      refine lv_bipush (v := nI 12) hx hb dX1_key_33 (by decide) ?_
      refine lv_icmp_ge (tgt := 43) hx hb dX1_key_35 (by decide) (fun c2 => ?_) (fun c2 => ?_)
      · have k2 : 12 ≤ i := (nI_leI (by omega) (by omega)).mp c2
        refine lv_iload hx hb dX1_key_43 (lv_at hl 5 rfl) ?_
        refine ot_topi (if i < 4 then x1 else if i < 8 then x2 else if i < 12 then x3 else x4) ?_ kk
        (repeat' split) <;> first | rfl | omega
      · have k2 : i < 12 := by rcases Nat.lt_or_ge i 12 with q | q; exact q; exact absurd (nI_le q (by omega)) c2
        refine lv_iload hx hb dX1_key_38 (lv_at hl 4 rfl) ?_
        refine lv_goto (tgt := 45) hx hb dX1_key_40 (by decide) ?_
        refine ot_topi (if i < 4 then x1 else if i < 8 then x2 else if i < 12 then x3 else x4) ?_ kk
        (repeat' split) <;> first | rfl | omega
    · have k1 : i < 8 := by rcases Nat.lt_or_ge i 8 with q | q; exact q; exact absurd (nI_le q (by omega)) c1
      refine lv_iload_n hx hb dX1_key_27 rfl (lv_at hl 3 rfl) ?_
      refine lv_goto (tgt := 45) hx hb dX1_key_28 (by decide) ?_
      refine ot_topi (if i < 4 then x1 else if i < 8 then x2 else if i < 12 then x3 else x4) ?_ kk
      (repeat' split) <;> first | rfl | omega
  · have k0 : i < 4 := by rcases Nat.lt_or_ge i 4 with q | q; exact q; exact absurd (nI_le q (by omega)) c0
    refine lv_iload_n hx hb dX1_key_16 rfl (lv_at hl 2 rfl) ?_
    refine lv_goto (tgt := 45) hx hb dX1_key_17 (by decide) ?_
    refine ot_topi (if i < 4 then x1 else if i < 8 then x2 else if i < 12 then x3 else x4) ?_ kk
    (repeat' split) <;> first | rfl | omega
set_option maxHeartbeats 4000000 in
set_option maxRecDepth 100000 in
/-- the loop of key -/
theorem lpX1_key {p : Program} {l : Launch} {e : Env} {R : Room} {s : State} {m : MethodId} {args : Array Value} {below : List Frame} {meth : Method} {c : Code} {cells slots : Nat} {Q : State → Prop} {dC : Nat → ClassId} {dI : Nat → Nat → Nat} {A : Nat → Prop} (hx : p.tables.exec = Jvm.exec) (hb : c.code = cX1_key) (hown : s.vm.findClass RX1 = some m.cls) (hts : ∀ w ∈ lw_all, w.before args s = true) {m0 b1 b2 b3 b4 b5 b6 z : Nat} {d2 : ClassId} {hf x1 x2 x3 x4 : Int32} (gk : Nat → Nat) (hK : va_K (dC, dI) vwCl [(d2, .int)] s)
    (kk : ∀ (i : Nat) (g : Nat → Nat), i = 16 → (∀ j, g j = if 16 * (hf.toBitVec.toNat % 2) ≤ j ∧ j < 16 * (hf.toBitVec.toNat % 2) + i then ot_b (ot_pb x1 x2 x3 x4 (j - 16 * (hf.toBitVec.toNat % 2))) else gk j) → ∀ (H : Heap) (locs : List Loc), va_P (dC, dI) vwCl [(m0, .inr (1, [.ref b1, .int (nI z), .ref b2, .ref b3, .ref b4, .ref b5, .ref b6])), (b2, .inl (d2, 32, .inl (ot_I g)))] H → va_D A [(m0, .inr (1, [.ref b1, .int (nI z), .ref b2, .ref b3, .ref b4, .ref b5, .ref b6])), (b2, .inl (d2, 32, .inl (ot_I g)))] → va_S A s.heap H locs → ∀ (ls : Array Slot), lv_has ls 8 [(0, .ref m0), (1, .int hf), (2, .int x1), (3, .int x2), (4, .int x3), (5, .int x4), (6, .int (nI i))] → W p l e R s m args below meth c H locs cells slots Q (F0 m 84 ls [])) :
    ∀ (n i : Nat) (g : Nat → Nat), n + i = 16 → (∀ j, g j = if 16 * (hf.toBitVec.toNat % 2) ≤ j ∧ j < 16 * (hf.toBitVec.toNat % 2) + i then ot_b (ot_pb x1 x2 x3 x4 (j - 16 * (hf.toBitVec.toNat % 2))) else gk j) → ∀ (H : Heap) (locs : List Loc), va_P (dC, dI) vwCl [(m0, .inr (1, [.ref b1, .int (nI z), .ref b2, .ref b3, .ref b4, .ref b5, .ref b6])), (b2, .inl (d2, 32, .inl (ot_I g)))] H → va_D A [(m0, .inr (1, [.ref b1, .int (nI z), .ref b2, .ref b3, .ref b4, .ref b5, .ref b6])), (b2, .inl (d2, 32, .inl (ot_I g)))] → va_S A s.heap H locs → ∀ (ls : Array Slot), lv_has ls 8 [(0, .ref m0), (1, .int hf), (2, .int x1), (3, .int x2), (4, .int x3), (5, .int x4), (6, .int (nI i))] → W p l e R s m args below meth c H locs cells slots Q (F0 m 3 ls []) := by
  intro n
  induction n with
  | zero =>
    intro i g hn_ h2 H locs hP hD hS ls hl
    refine lv_iload hx hb dX1_key_3 (lv_at hl 6 rfl) ?_
    refine lv_bipush (v := nI 16) hx hb dX1_key_5 (by decide) ?_
    refine lv_icmp_ge (tgt := 84) hx hb dX1_key_7 (by decide) (fun c_ => ?_) (fun c_ => absurd c_ (not_not_intro (nI_le (by omega) (by omega))))
    exact kk i g (by omega) h2 H locs hP hD hS ls (lv_sub hl [0, 1, 2, 3, 4, 5, 6] rfl)
  | succ n ih =>
    intro i g hn_ h2 H locs hP hD hS ls hl
    refine lv_iload hx hb dX1_key_3 (lv_at hl 6 rfl) ?_
    refine lv_bipush (v := nI 16) hx hb dX1_key_5 (by decide) ?_
    refine lv_icmp_ge (tgt := 84) hx hb dX1_key_7 (by decide) (fun c_ => absurd c_ (nI_ge (by omega) (by omega))) (fun c_ => ?_)
    have hhb : hf.toBitVec.toNat % 2 < 2 := Nat.mod_lt _ (by decide)
    refine chX1_key hx hb (by omega) (lv_sub hl [0, 1, 2, 3, 4, 5, 6] rfl) ?_
    refine lv_istore (lv' := [(7, .int (if i < 4 then x1 else if i < 8 then x2 else if i < 12 then x3 else x4)), (0, .ref m0), (1, .int hf), (2, .int x1), (3, .int x2), (4, .int x3), (5, .int x4), (6, .int (nI i))]) hx hb dX1_key_45 hl (by decide) rfl (fun ls hl => ?_)
    refine lv_aload_n hx hb dX1_key_47 rfl (lv_at hl 1 rfl) ?_
    refine va_get (D := (dC, dI)) (ci := 1) (v := .ref b2) (C := RX1) (T := TX1) (N := 7) hx hb hts in_X1 hown hK hP 0 rfl rfl 2 (by decide) (hts _ q193) (fun _ h9 => h9) rfl dX1_key_48 ?_
    refine lv_iload_n hx hb dX1_key_51 rfl (lv_at hl 2 rfl) ?_
    refine lv_iconst (v := nI 1) hx hb dX1_key_52 (by decide) ?_
    refine lv_iand hx hb dX1_key_53 ?_
    refine ot_topi (nI (hf.toBitVec.toNat % 2 ^ 1)) (pk_and hf 1 (by decide)) ?_
    refine lv_bipush (v := nI 16) hx hb dX1_key_54 (by decide) ?_
    refine lv_imul hx hb dX1_key_56 ?_
    refine ot_topi (nI (16 * (hf.toBitVec.toNat % 2))) ((pk_mul _ _).trans (congrArg nI (by omega))) ?_
    refine lv_iload hx hb dX1_key_57 (lv_at hl 7 rfl) ?_
    refine lv_iadd hx hb dX1_key_59 ?_
    refine ot_topi (nI (16 * (hf.toBitVec.toNat % 2) + i)) (nI_add _ _) ?_
    refine lv_iload hx hb dX1_key_60 (lv_at hl 0 rfl) ?_
    refine lv_bipush (v := nI 24) hx hb dX1_key_62 (by decide) ?_
    refine lv_bipush (v := nI 8) hx hb dX1_key_64 (by decide) ?_
    refine lv_iload hx hb dX1_key_66 (lv_at hl 7 rfl) ?_
    refine lv_iconst (v := nI 3) hx hb dX1_key_68 (by decide) ?_
    refine lv_iand hx hb dX1_key_69 ?_
    refine ot_topi (nI (i % 2 ^ 2)) (pk_andN (by omega) 2 (by decide)) ?_
    refine lv_imul hx hb dX1_key_70 ?_
    refine ot_topi (nI (8 * (i % 2 ^ 2))) (pk_mul _ _) ?_
    refine lv_isub hx hb dX1_key_71 ?_
    refine ot_topi (nI (24 - 8 * (i % 4))) (pk_sub (by omega)) ?_
    refine lv_iushr hx hb dX1_key_72 rfl ?_
    refine lv_sipush (v := nI 255) hx hb dX1_key_73 (by decide) ?_
    refine lv_iand hx hb dX1_key_76 ?_
    refine ot_topi (nI (ot_b (ot_pb x1 x2 x3 x4 i))) (ot_ushrk _ (by omega)) ?_
    refine ot_iast (k := (16 * (hf.toBitVec.toNat % 2) + i)) hx hb hK hP hD hS 1 0 rfl rfl (by omega) (by omega) dX1_key_77 (fun F2 H locs eF2 hP hD hS => ?_)
    have hP : va_P (dC, dI) vwCl [(m0, .inr (1, [.ref b1, .int (nI z), .ref b2, .ref b3, .ref b4, .ref b5, .ref b6])), (b2, .inl (d2, 32, .inl F2))] H := hP
    have hD : va_D A [(m0, .inr (1, [.ref b1, .int (nI z), .ref b2, .ref b3, .ref b4, .ref b5, .ref b6])), (b2, .inl (d2, 32, .inl F2))] := hD
    rw [ot_I_upd] at eF2
    subst eF2
    refine lv_iinc (v := nI (i + 1)) (lv' := [(6, .int (nI (i + 1))), (7, .int (if i < 4 then x1 else if i < 8 then x2 else if i < 12 then x3 else x4)), (0, .ref m0), (1, .int hf), (2, .int x1), (3, .int x2), (4, .int x3), (5, .int x4)]) hx hb dX1_key_78 hl (k := 7) rfl (ot_inc _ _) (by decide) rfl (fun ls hl => ?_)
    refine lv_goto (tgt := 3) hx hb dX1_key_81 (by decide) ?_
    refine ih (i + 1) (ot_u g (16 * (hf.toBitVec.toNat % 2) + i) (ot_b (ot_pb x1 x2 x3 x4 i))) (by omega) (fun j => ?_) H locs hP hD hS ls (lv_sub hl [2, 3, 4, 5, 6, 7, 0] rfl)
    unfold ot_u
    rw [h2]
    (repeat' split) <;> first | rfl | omega | (congr 2; omega)
abbrev wsX1_key : List Cond := ws_ yX1_key cX1_key 8 none
set_option maxHeartbeats 4000000 in
set_option maxRecDepth 100000 in
/-- key: half of the key -/
theorem metX1_key (l : Launch) (dC : Nat → ClassId) (dI : Nat → Nat → Nat) (sz : Nat) (m0 b1 b2 b3 b4 b5 b6 z : Nat) (d2 : ClassId) (gk : Nat → Nat) (hf x1 x2 x3 x4 : Int32) : Met l yX1_key wsX1_key ({ frames := 0, cells := 0, slots := 0, locals := 0 }) (va_Pc [.ref m0, .int hf, .int x1, .int x2, .int x3, .int x4] (fun U => U.heap.size = sz ∧ va_P (dC, dI) vwCl [(m0, .inr (1, [.ref b1, .int (nI z), .ref b2, .ref b3, .ref b4, .ref b5, .ref b6])), (b2, .inl (d2, 32, .inl (ot_I gk)))] U.heap ∧ va_K (dC, dI) vwCl [(d2, .int)] U ∧ va_D (fun _ => True) [(m0, .inr (1, [.ref b1, .int (nI z), .ref b2, .ref b3, .ref b4, .ref b5, .ref b6])), (b2, .inl (d2, 32, .inl (ot_I gk)))])) (va_Qv (fun (g : Nat → Nat) => (∀ j, g j = if 16 * (hf.toBitVec.toNat % 2) ≤ j ∧ j < 16 * (hf.toBitVec.toNat % 2) + 16 then ot_b (ot_pb x1 x2 x3 x4 (j - 16 * (hf.toBitVec.toNat % 2))) else gk j)) (fun (u : Nat → Nat) (t : State) => va_P (dC, dI) vwCl [(m0, .inr (1, [.ref b1, .int (nI z), .ref b2, .ref b3, .ref b4, .ref b5, .ref b6])), (b2, .inl (d2, 32, .inl (ot_I u)))] t.heap ∧ va_K (dC, dI) vwCl [(d2, .int)] t ∧ va_D (va_A [(m0, .inr (1, [.ref b1, .int (nI z), .ref b2, .ref b3, .ref b4, .ref b5, .ref b6])), (b2, .inl (d2, 32, .inl (ot_I gk)))] sz) [(m0, .inr (1, [.ref b1, .int (nI z), .ref b2, .ref b3, .ref b4, .ref b5, .ref b6])), (b2, .inl (d2, 32, .inl (ot_I u)))]) (va_A [(m0, .inr (1, [.ref b1, .int (nI z), .ref b2, .ref b3, .ref b4, .ref b5, .ref b6])), (b2, .inl (d2, 32, .inl (ot_I gk)))] sz)) 0 0 (va_A [(m0, .inr (1, [.ref b1, .int (nI z), .ref b2, .ref b3, .ref b4, .ref b5, .ref b6])), (b2, .inl (d2, 32, .inl (ot_I gk)))] sz) := by
  refine Met.ofW (cc := cX1_key) (maxL := 8) (ret := none) (by decide) rfl ?_
  intro p e s m args below meth c s₁ B hml hv
  obtain ⟨rfl, hsz, hP, hK, hD0⟩ := hv
  have hx := B.exec
  have hb := B.bytes
  have hr := B.returns
  have hts := atoms_spec (ws := wsX1_key) B.pre
  have hts : ∀ w ∈ lw_all, w.before _ s = true := fun w h => hts w (List.mem_cons_of_mem _ h)
  have hown : s.vm.findClass RX1 = some m.cls := findClass_of_methodNamed B.named
  have hlocks := B.notSynchronized
  subst hsz
  have hD := hD0.self (sz := s.heap.size)
  generalize hAe : va_A [(m0, .inr (1, [.ref b1, .int (nI z), .ref b2, .ref b3, .ref b4, .ref b5, .ref b6])), (b2, .inl (d2, 32, .inl (ot_I gk)))] s.heap.size = A at hD ⊢
  have hA : ∀ q : Nat, s.heap.size ≤ q → A q := fun q h => by rw [← hAe]; exact Or.inr h
  have hS : va_S A s.heap s.heap [] := va_S.rf
  have hP : va_P (dC, dI) vwCl [(m0, .inr (1, [.ref b1, .int (nI z), .ref b2, .ref b3, .ref b4, .ref b5, .ref b6])), (b2, .inl (d2, 32, .inl (ot_I gk)))] s.heap := hP
  have hl := lv_entry ([.ref m0, .int hf, .int x1, .int x2, .int x3, .int x4]) (n := 8) (Nat.le_of_ble_eq_true rfl)
  rw [lg_entry_eq]
  generalize (lg_sl ([.ref m0, .int hf, .int x1, .int x2, .int x3, .int x4]) ++ List.replicate (8 - (lg_sl ([.ref m0, .int hf, .int x1, .int x2, .int x3, .int x4])).length) Slot.unset).toArray = ls at hl ⊢
  have hl : lv_has ls 8 [(0, .ref m0), (1, .int hf), (2, .int x1), (3, .int x2), (4, .int x3), (5, .int x4)] := hl
  refine lv_iconst (v := nI 0) hx hb dX1_key_0 (by decide) ?_
  refine lv_istore (lv' := [(6, .int (nI 0)), (0, .ref m0), (1, .int hf), (2, .int x1), (3, .int x2), (4, .int x3), (5, .int x4)]) hx hb dX1_key_1 hl (by decide) rfl (fun ls hl => ?_)
  refine lpX1_key hx hb hown hts gk hK (fun i g hi h2 H locs hP hD hS ls hl => ?_) 16 0 gk (by omega) (fun j => by rw [if_neg (by omega)]) _ _ hP hD hS ls (lv_sub hl [1, 2, 3, 4, 5, 6, 0] rfl)
  subst hi
  have hP9 := hP.sub (ws' := [(m0, .inr (1, [.ref b1, .int (nI z), .ref b2, .ref b3, .ref b4, .ref b5, .ref b6])), (b2, .inl (d2, 32, .inl (ot_I g)))]) [0, 1] rfl
  have hD9 := hD.sub (ws' := [(m0, .inr (1, [.ref b1, .int (nI z), .ref b2, .ref b3, .ref b4, .ref b5, .ref b6])), (b2, .inl (d2, 32, .inl (ot_I g)))]) [0, 1] (by decide) rfl
  have hK9 := hK.sub (tys' := [(d2, .int)]) [0] rfl
  exact W.vret hx hb hr (fun t ht hW => ⟨⟨g, rfl, h2, by rw [ht]; exact hP9, va_K.moved hW.alike hK9, hD9⟩, hS.F ht⟩) hS.2.2 dX1_key_84
abbrev wsX1_init : List Cond := ws_ yX1_init cX1_init 1 none
set_option maxHeartbeats 4000000 in
set_option maxRecDepth 100000 in
/-- OneTimeTagModel(): no text, zeros -/
theorem metX1_init (l : Launch) (dC : Nat → ClassId) (dI : Nat → Nat → Nat) (sz : Nat) (m0 : Nat) : Met l yX1_init wsX1_init ({ frames := 1, cells := 6, slots := 4212, locals := 12 }) (va_Pc [.ref m0] (fun U => U.heap.size = sz ∧ va_P (dC, dI) vwCl [(m0, .inr (1, [.null, .int 0, .null, .null, .null, .null, .null]))] U.heap ∧ va_K (dC, dI) vwCl [] U ∧ va_D (fun _ => True) [(m0, .inr (1, [.null, .int 0, .null, .null, .null, .null, .null]))])) (va_Qv (fun (_ : Nat × Nat × Nat × Nat × Nat × Nat × ClassId × ClassId × ClassId × ClassId × ClassId × ClassId) => True) (fun (u : Nat × Nat × Nat × Nat × Nat × Nat × ClassId × ClassId × ClassId × ClassId × ClassId × ClassId) (t : State) => va_P (dC, dI) vwCl [(m0, .inr (1, [.ref u.1, .int 0, .ref u.2.1, .ref u.2.2.1, .ref u.2.2.2.1, .ref u.2.2.2.2.1, .ref u.2.2.2.2.2.1])), (u.1, .inl (u.2.2.2.2.2.2.1, 4096, .inl (fun _ => 0))), (u.2.1, .inl (u.2.2.2.2.2.2.2.1, 32, .inl (fun _ => 0))), (u.2.2.1, .inl (u.2.2.2.2.2.2.2.2.1, 16, .inl (fun _ => 0))), (u.2.2.2.1, .inl (u.2.2.2.2.2.2.2.2.2.1, 17, .inr (.inl (fun _ => 0)))), (u.2.2.2.2.1, .inl (u.2.2.2.2.2.2.2.2.2.2.1, 17, .inr (.inl (fun _ => 0)))), (u.2.2.2.2.2.1, .inl (u.2.2.2.2.2.2.2.2.2.2.2, 34, .inr (.inl (fun _ => 0))))] t.heap ∧ va_K (dC, dI) vwCl [(u.2.2.2.2.2.2.1, .byte), (u.2.2.2.2.2.2.2.1, .int), (u.2.2.2.2.2.2.2.2.1, .int), (u.2.2.2.2.2.2.2.2.2.1, .long), (u.2.2.2.2.2.2.2.2.2.2.1, .long), (u.2.2.2.2.2.2.2.2.2.2.2, .long)] t ∧ va_D (va_A [(m0, .inr (1, [.null, .int 0, .null, .null, .null, .null, .null]))] sz) [(m0, .inr (1, [.ref u.1, .int 0, .ref u.2.1, .ref u.2.2.1, .ref u.2.2.2.1, .ref u.2.2.2.2.1, .ref u.2.2.2.2.2.1])), (u.1, .inl (u.2.2.2.2.2.2.1, 4096, .inl (fun _ => 0))), (u.2.1, .inl (u.2.2.2.2.2.2.2.1, 32, .inl (fun _ => 0))), (u.2.2.1, .inl (u.2.2.2.2.2.2.2.2.1, 16, .inl (fun _ => 0))), (u.2.2.2.1, .inl (u.2.2.2.2.2.2.2.2.2.1, 17, .inr (.inl (fun _ => 0)))), (u.2.2.2.2.1, .inl (u.2.2.2.2.2.2.2.2.2.2.1, 17, .inr (.inl (fun _ => 0)))), (u.2.2.2.2.2.1, .inl (u.2.2.2.2.2.2.2.2.2.2.2, 34, .inr (.inl (fun _ => 0))))]) (va_A [(m0, .inr (1, [.null, .int 0, .null, .null, .null, .null, .null]))] sz)) 6 4212 (va_A [(m0, .inr (1, [.null, .int 0, .null, .null, .null, .null, .null]))] sz) := by
  refine Met.ofW (cc := cX1_init) (maxL := 1) (ret := none) (by decide) rfl ?_
  intro p e s m args below meth c s₁ B hml hv
  obtain ⟨rfl, hsz, hP, hK, hD0⟩ := hv
  have hx := B.exec
  have hb := B.bytes
  have hr := B.returns
  have hts := atoms_spec (ws := wsX1_init) B.pre
  have hts : ∀ w ∈ lw_all, w.before _ s = true := fun w h => hts w (List.mem_cons_of_mem _ h)
  have hown : s.vm.findClass RX1 = some m.cls := findClass_of_methodNamed B.named
  have hlocks := B.notSynchronized
  have hin : meth.name = "<init>" := (name_of_methodNamed B.named B.method).1
  subst hsz
  have hD := hD0.self (sz := s.heap.size)
  generalize hAe : va_A [(m0, .inr (1, [.null, .int 0, .null, .null, .null, .null, .null]))] s.heap.size = A at hD ⊢
  have hA : ∀ q : Nat, s.heap.size ≤ q → A q := fun q h => by rw [← hAe]; exact Or.inr h
  have hS : va_S A s.heap s.heap [] := va_S.rf
  have hP : va_P (dC, dI) vwCl [(m0, .inr (1, [.null, .int 0, .null, .null, .null, .null, .null]))] s.heap := hP
  have hl := lv_entry ([.ref m0]) (n := 1) (Nat.le_of_ble_eq_true rfl)
  rw [lg_entry_eq]
  generalize (lg_sl ([.ref m0]) ++ List.replicate (1 - (lg_sl ([.ref m0])).length) Slot.unset).toArray = ls at hl ⊢
  have hl : lv_has ls 1 [(0, .ref m0)] := hl
  refine lv_aload_n hx hb dX1_init_0 rfl (lv_at hl 0 rfl) ?_
  refine W.objInit hx hb hown (hts _ q190) (hts _ q25) (hts _ q26) rfl (by rw [hml]; exact hl.1) rfl dX1_init_1 (Nat.le_of_ble_eq_true rfl) (Nat.le_of_ble_eq_true rfl) ?_
  refine W.eq (g2 := F0 m 4 ls []) rfl ?_
  refine lv_aload_n hx hb dX1_init_4 rfl (lv_at hl 0 rfl) ?_
  refine lv_sipush (v := nI 4096) hx hb dX1_init_5 (by decide) ?_
  refine va_newa (atype := .byte) (ty := .byte) (N' := 4096) (a0 := (4096, .inl (fun _ => 0))) hx hb (hts _ q40) rfl hK hP hD hS hA (fun _ => rfl) (by decide) (by decide) (by decide) (Nat.le_of_ble_eq_true rfl) (Nat.le_of_ble_eq_true rfl) dX1_init_8 (fun b1 e1 H hK hP hD hS => ?_)
  have hK : va_K (dC, dI) vwCl [(e1, .byte)] s := hK
  have hP : va_P (dC, dI) vwCl [(m0, .inr (1, [.null, .int 0, .null, .null, .null, .null, .null])), (b1, .inl (e1, 4096, .inl (fun _ => 0)))] H := hP
  have hD : va_D A [(m0, .inr (1, [.null, .int 0, .null, .null, .null, .null, .null])), (b1, .inl (e1, 4096, .inl (fun _ => 0)))] := hD
  refine W.widen (k := 1) (n := 4096) (Nat.le_refl _) (Nat.le_refl _) ?_
  refine va_putF (D := (dC, dI)) (ci := 1) (v := .ref b1) (ty := (.array .byte)) (C := RX1) (T := TX1) (N := 7) hx hb hts in_X1 tyX1 tyX1_ok nmX1 hown hK hP hD hS 0 rfl rfl 0 (by decide) (hts _ q191) (fun _ h9 => h9) rfl hin rfl (by decide +kernel) rfl rfl (Nat.le_of_ble_eq_true rfl) dX1_init_10 (fun H locs hP hD hS => ?_)
  have hP : va_P (dC, dI) vwCl [(m0, .inr (1, [.ref b1, .int 0, .null, .null, .null, .null, .null])), (b1, .inl (e1, 4096, .inl (fun _ => 0)))] H := hP
  have hD : va_D A [(m0, .inr (1, [.ref b1, .int 0, .null, .null, .null, .null, .null])), (b1, .inl (e1, 4096, .inl (fun _ => 0)))] := hD
  refine lv_aload_n hx hb dX1_init_13 rfl (lv_at hl 0 rfl) ?_
  refine lv_bipush (v := nI 32) hx hb dX1_init_14 (by decide) ?_
  refine va_newa (atype := .int) (ty := .int) (N' := 32) (a0 := (32, .inl (fun _ => 0))) hx hb (hts _ q213) rfl hK hP hD hS hA (fun _ => rfl) (by decide) (by decide) (by decide) (Nat.le_of_ble_eq_true rfl) (Nat.le_of_ble_eq_true rfl) dX1_init_16 (fun b2 e2 H hK hP hD hS => ?_)
  have hK : va_K (dC, dI) vwCl [(e1, .byte), (e2, .int)] s := hK
  have hP : va_P (dC, dI) vwCl [(m0, .inr (1, [.ref b1, .int 0, .null, .null, .null, .null, .null])), (b1, .inl (e1, 4096, .inl (fun _ => 0))), (b2, .inl (e2, 32, .inl (fun _ => 0)))] H := hP
  have hD : va_D A [(m0, .inr (1, [.ref b1, .int 0, .null, .null, .null, .null, .null])), (b1, .inl (e1, 4096, .inl (fun _ => 0))), (b2, .inl (e2, 32, .inl (fun _ => 0)))] := hD
  refine W.widen (k := 2) (n := 4128) (Nat.le_refl _) (Nat.le_refl _) ?_
  refine va_putF (D := (dC, dI)) (ci := 1) (v := .ref b2) (ty := (.array .int)) (C := RX1) (T := TX1) (N := 7) hx hb hts in_X1 tyX1 tyX1_ok nmX1 hown hK hP hD hS 0 rfl rfl 2 (by decide) (hts _ q193) (fun _ h9 => h9) rfl hin rfl (by decide +kernel) rfl rfl (Nat.le_of_ble_eq_true rfl) dX1_init_18 (fun H locs hP hD hS => ?_)
  have hP : va_P (dC, dI) vwCl [(m0, .inr (1, [.ref b1, .int 0, .ref b2, .null, .null, .null, .null])), (b1, .inl (e1, 4096, .inl (fun _ => 0))), (b2, .inl (e2, 32, .inl (fun _ => 0)))] H := hP
  have hD : va_D A [(m0, .inr (1, [.ref b1, .int 0, .ref b2, .null, .null, .null, .null])), (b1, .inl (e1, 4096, .inl (fun _ => 0))), (b2, .inl (e2, 32, .inl (fun _ => 0)))] := hD
  refine lv_aload_n hx hb dX1_init_21 rfl (lv_at hl 0 rfl) ?_
  refine lv_bipush (v := nI 16) hx hb dX1_init_22 (by decide) ?_
  refine va_newa (atype := .int) (ty := .int) (N' := 16) (a0 := (16, .inl (fun _ => 0))) hx hb (hts _ q213) rfl hK hP hD hS hA (fun _ => rfl) (by decide) (by decide) (by decide) (Nat.le_of_ble_eq_true rfl) (Nat.le_of_ble_eq_true rfl) dX1_init_24 (fun b3 e3 H hK hP hD hS => ?_)
  have hK : va_K (dC, dI) vwCl [(e1, .byte), (e2, .int), (e3, .int)] s := hK
  have hP : va_P (dC, dI) vwCl [(m0, .inr (1, [.ref b1, .int 0, .ref b2, .null, .null, .null, .null])), (b1, .inl (e1, 4096, .inl (fun _ => 0))), (b2, .inl (e2, 32, .inl (fun _ => 0))), (b3, .inl (e3, 16, .inl (fun _ => 0)))] H := hP
  have hD : va_D A [(m0, .inr (1, [.ref b1, .int 0, .ref b2, .null, .null, .null, .null])), (b1, .inl (e1, 4096, .inl (fun _ => 0))), (b2, .inl (e2, 32, .inl (fun _ => 0))), (b3, .inl (e3, 16, .inl (fun _ => 0)))] := hD
  refine W.widen (k := 3) (n := 4144) (Nat.le_refl _) (Nat.le_refl _) ?_
  refine va_putF (D := (dC, dI)) (ci := 1) (v := .ref b3) (ty := (.array .int)) (C := RX1) (T := TX1) (N := 7) hx hb hts in_X1 tyX1 tyX1_ok nmX1 hown hK hP hD hS 0 rfl rfl 3 (by decide) (hts _ q194) (fun _ h9 => h9) rfl hin rfl (by decide +kernel) rfl rfl (Nat.le_of_ble_eq_true rfl) dX1_init_26 (fun H locs hP hD hS => ?_)
  have hP : va_P (dC, dI) vwCl [(m0, .inr (1, [.ref b1, .int 0, .ref b2, .ref b3, .null, .null, .null])), (b1, .inl (e1, 4096, .inl (fun _ => 0))), (b2, .inl (e2, 32, .inl (fun _ => 0))), (b3, .inl (e3, 16, .inl (fun _ => 0)))] H := hP
  have hD : va_D A [(m0, .inr (1, [.ref b1, .int 0, .ref b2, .ref b3, .null, .null, .null])), (b1, .inl (e1, 4096, .inl (fun _ => 0))), (b2, .inl (e2, 32, .inl (fun _ => 0))), (b3, .inl (e3, 16, .inl (fun _ => 0)))] := hD
  refine lv_aload_n hx hb dX1_init_29 rfl (lv_at hl 0 rfl) ?_
  refine lv_bipush (v := nI 17) hx hb dX1_init_30 (by decide) ?_
  refine va_newa (atype := .long) (ty := .long) (N' := 17) (a0 := (17, .inr (.inl (fun _ => 0)))) hx hb (hts _ q214) rfl hK hP hD hS hA (fun _ => rfl) (by decide) (by decide) (by decide) (Nat.le_of_ble_eq_true rfl) (Nat.le_of_ble_eq_true rfl) dX1_init_32 (fun b4 e4 H hK hP hD hS => ?_)
  have hK : va_K (dC, dI) vwCl [(e1, .byte), (e2, .int), (e3, .int), (e4, .long)] s := hK
  have hP : va_P (dC, dI) vwCl [(m0, .inr (1, [.ref b1, .int 0, .ref b2, .ref b3, .null, .null, .null])), (b1, .inl (e1, 4096, .inl (fun _ => 0))), (b2, .inl (e2, 32, .inl (fun _ => 0))), (b3, .inl (e3, 16, .inl (fun _ => 0))), (b4, .inl (e4, 17, .inr (.inl (fun _ => 0))))] H := hP
  have hD : va_D A [(m0, .inr (1, [.ref b1, .int 0, .ref b2, .ref b3, .null, .null, .null])), (b1, .inl (e1, 4096, .inl (fun _ => 0))), (b2, .inl (e2, 32, .inl (fun _ => 0))), (b3, .inl (e3, 16, .inl (fun _ => 0))), (b4, .inl (e4, 17, .inr (.inl (fun _ => 0))))] := hD
  refine W.widen (k := 4) (n := 4161) (Nat.le_refl _) (Nat.le_refl _) ?_
  refine va_putF (D := (dC, dI)) (ci := 1) (v := .ref b4) (ty := (.array .long)) (C := RX1) (T := TX1) (N := 7) hx hb hts in_X1 tyX1 tyX1_ok nmX1 hown hK hP hD hS 0 rfl rfl 4 (by decide) (hts _ q195) (fun _ h9 => h9) rfl hin rfl (by decide +kernel) rfl rfl (Nat.le_of_ble_eq_true rfl) dX1_init_34 (fun H locs hP hD hS => ?_)
  have hP : va_P (dC, dI) vwCl [(m0, .inr (1, [.ref b1, .int 0, .ref b2, .ref b3, .ref b4, .null, .null])), (b1, .inl (e1, 4096, .inl (fun _ => 0))), (b2, .inl (e2, 32, .inl (fun _ => 0))), (b3, .inl (e3, 16, .inl (fun _ => 0))), (b4, .inl (e4, 17, .inr (.inl (fun _ => 0))))] H := hP
  have hD : va_D A [(m0, .inr (1, [.ref b1, .int 0, .ref b2, .ref b3, .ref b4, .null, .null])), (b1, .inl (e1, 4096, .inl (fun _ => 0))), (b2, .inl (e2, 32, .inl (fun _ => 0))), (b3, .inl (e3, 16, .inl (fun _ => 0))), (b4, .inl (e4, 17, .inr (.inl (fun _ => 0))))] := hD
  refine lv_aload_n hx hb dX1_init_37 rfl (lv_at hl 0 rfl) ?_
  refine lv_bipush (v := nI 17) hx hb dX1_init_38 (by decide) ?_
  refine va_newa (atype := .long) (ty := .long) (N' := 17) (a0 := (17, .inr (.inl (fun _ => 0)))) hx hb (hts _ q214) rfl hK hP hD hS hA (fun _ => rfl) (by decide) (by decide) (by decide) (Nat.le_of_ble_eq_true rfl) (Nat.le_of_ble_eq_true rfl) dX1_init_40 (fun b5 e5 H hK hP hD hS => ?_)
  have hK : va_K (dC, dI) vwCl [(e1, .byte), (e2, .int), (e3, .int), (e4, .long), (e5, .long)] s := hK
  have hP : va_P (dC, dI) vwCl [(m0, .inr (1, [.ref b1, .int 0, .ref b2, .ref b3, .ref b4, .null, .null])), (b1, .inl (e1, 4096, .inl (fun _ => 0))), (b2, .inl (e2, 32, .inl (fun _ => 0))), (b3, .inl (e3, 16, .inl (fun _ => 0))), (b4, .inl (e4, 17, .inr (.inl (fun _ => 0)))), (b5, .inl (e5, 17, .inr (.inl (fun _ => 0))))] H := hP
  have hD : va_D A [(m0, .inr (1, [.ref b1, .int 0, .ref b2, .ref b3, .ref b4, .null, .null])), (b1, .inl (e1, 4096, .inl (fun _ => 0))), (b2, .inl (e2, 32, .inl (fun _ => 0))), (b3, .inl (e3, 16, .inl (fun _ => 0))), (b4, .inl (e4, 17, .inr (.inl (fun _ => 0)))), (b5, .inl (e5, 17, .inr (.inl (fun _ => 0))))] := hD
  refine W.widen (k := 5) (n := 4178) (Nat.le_refl _) (Nat.le_refl _) ?_
  refine va_putF (D := (dC, dI)) (ci := 1) (v := .ref b5) (ty := (.array .long)) (C := RX1) (T := TX1) (N := 7) hx hb hts in_X1 tyX1 tyX1_ok nmX1 hown hK hP hD hS 0 rfl rfl 5 (by decide) (hts _ q196) (fun _ h9 => h9) rfl hin rfl (by decide +kernel) rfl rfl (Nat.le_of_ble_eq_true rfl) dX1_init_42 (fun H locs hP hD hS => ?_)
  have hP : va_P (dC, dI) vwCl [(m0, .inr (1, [.ref b1, .int 0, .ref b2, .ref b3, .ref b4, .ref b5, .null])), (b1, .inl (e1, 4096, .inl (fun _ => 0))), (b2, .inl (e2, 32, .inl (fun _ => 0))), (b3, .inl (e3, 16, .inl (fun _ => 0))), (b4, .inl (e4, 17, .inr (.inl (fun _ => 0)))), (b5, .inl (e5, 17, .inr (.inl (fun _ => 0))))] H := hP
  have hD : va_D A [(m0, .inr (1, [.ref b1, .int 0, .ref b2, .ref b3, .ref b4, .ref b5, .null])), (b1, .inl (e1, 4096, .inl (fun _ => 0))), (b2, .inl (e2, 32, .inl (fun _ => 0))), (b3, .inl (e3, 16, .inl (fun _ => 0))), (b4, .inl (e4, 17, .inr (.inl (fun _ => 0)))), (b5, .inl (e5, 17, .inr (.inl (fun _ => 0))))] := hD
  refine lv_aload_n hx hb dX1_init_45 rfl (lv_at hl 0 rfl) ?_
  refine lv_bipush (v := nI 34) hx hb dX1_init_46 (by decide) ?_
  refine va_newa (atype := .long) (ty := .long) (N' := 34) (a0 := (34, .inr (.inl (fun _ => 0)))) hx hb (hts _ q214) rfl hK hP hD hS hA (fun _ => rfl) (by decide) (by decide) (by decide) (Nat.le_of_ble_eq_true rfl) (Nat.le_of_ble_eq_true rfl) dX1_init_48 (fun b6 e6 H hK hP hD hS => ?_)
  have hK : va_K (dC, dI) vwCl [(e1, .byte), (e2, .int), (e3, .int), (e4, .long), (e5, .long), (e6, .long)] s := hK
  have hP : va_P (dC, dI) vwCl [(m0, .inr (1, [.ref b1, .int 0, .ref b2, .ref b3, .ref b4, .ref b5, .null])), (b1, .inl (e1, 4096, .inl (fun _ => 0))), (b2, .inl (e2, 32, .inl (fun _ => 0))), (b3, .inl (e3, 16, .inl (fun _ => 0))), (b4, .inl (e4, 17, .inr (.inl (fun _ => 0)))), (b5, .inl (e5, 17, .inr (.inl (fun _ => 0)))), (b6, .inl (e6, 34, .inr (.inl (fun _ => 0))))] H := hP
  have hD : va_D A [(m0, .inr (1, [.ref b1, .int 0, .ref b2, .ref b3, .ref b4, .ref b5, .null])), (b1, .inl (e1, 4096, .inl (fun _ => 0))), (b2, .inl (e2, 32, .inl (fun _ => 0))), (b3, .inl (e3, 16, .inl (fun _ => 0))), (b4, .inl (e4, 17, .inr (.inl (fun _ => 0)))), (b5, .inl (e5, 17, .inr (.inl (fun _ => 0)))), (b6, .inl (e6, 34, .inr (.inl (fun _ => 0))))] := hD
  refine W.widen (k := 6) (n := 4212) (Nat.le_refl _) (Nat.le_refl _) ?_
  refine va_putF (D := (dC, dI)) (ci := 1) (v := .ref b6) (ty := (.array .long)) (C := RX1) (T := TX1) (N := 7) hx hb hts in_X1 tyX1 tyX1_ok nmX1 hown hK hP hD hS 0 rfl rfl 6 (by decide) (hts _ q197) (fun _ h9 => h9) rfl hin rfl (by decide +kernel) rfl rfl (Nat.le_of_ble_eq_true rfl) dX1_init_50 (fun H locs hP hD hS => ?_)
  have hP : va_P (dC, dI) vwCl [(m0, .inr (1, [.ref b1, .int 0, .ref b2, .ref b3, .ref b4, .ref b5, .ref b6])), (b1, .inl (e1, 4096, .inl (fun _ => 0))), (b2, .inl (e2, 32, .inl (fun _ => 0))), (b3, .inl (e3, 16, .inl (fun _ => 0))), (b4, .inl (e4, 17, .inr (.inl (fun _ => 0)))), (b5, .inl (e5, 17, .inr (.inl (fun _ => 0)))), (b6, .inl (e6, 34, .inr (.inl (fun _ => 0))))] H := hP
  have hD : va_D A [(m0, .inr (1, [.ref b1, .int 0, .ref b2, .ref b3, .ref b4, .ref b5, .ref b6])), (b1, .inl (e1, 4096, .inl (fun _ => 0))), (b2, .inl (e2, 32, .inl (fun _ => 0))), (b3, .inl (e3, 16, .inl (fun _ => 0))), (b4, .inl (e4, 17, .inr (.inl (fun _ => 0)))), (b5, .inl (e5, 17, .inr (.inl (fun _ => 0)))), (b6, .inl (e6, 34, .inr (.inl (fun _ => 0))))] := hD
  have hP9 := hP.sub (ws' := [(m0, .inr (1, [.ref b1, .int 0, .ref b2, .ref b3, .ref b4, .ref b5, .ref b6])), (b1, .inl (e1, 4096, .inl (fun _ => 0))), (b2, .inl (e2, 32, .inl (fun _ => 0))), (b3, .inl (e3, 16, .inl (fun _ => 0))), (b4, .inl (e4, 17, .inr (.inl (fun _ => 0)))), (b5, .inl (e5, 17, .inr (.inl (fun _ => 0)))), (b6, .inl (e6, 34, .inr (.inl (fun _ => 0))))]) [0, 1, 2, 3, 4, 5, 6] rfl
  have hD9 := hD.sub (ws' := [(m0, .inr (1, [.ref b1, .int 0, .ref b2, .ref b3, .ref b4, .ref b5, .ref b6])), (b1, .inl (e1, 4096, .inl (fun _ => 0))), (b2, .inl (e2, 32, .inl (fun _ => 0))), (b3, .inl (e3, 16, .inl (fun _ => 0))), (b4, .inl (e4, 17, .inr (.inl (fun _ => 0)))), (b5, .inl (e5, 17, .inr (.inl (fun _ => 0)))), (b6, .inl (e6, 34, .inr (.inl (fun _ => 0))))]) [0, 1, 2, 3, 4, 5, 6] (by decide) rfl
  have hK9 := hK.sub (tys' := [(e1, .byte), (e2, .int), (e3, .int), (e4, .long), (e5, .long), (e6, .long)]) [0, 1, 2, 3, 4, 5] rfl
  exact W.vret hx hb hr (fun t ht hW => ⟨⟨(b1, b2, b3, b4, b5, b6, e1, e2, e3, e4, e5, e6), rfl, trivial, by rw [ht]; exact hP9, va_K.moved hW.alike hK9, hD9⟩, hS.F ht⟩) hS.2.2 dX1_init_53
end
section
/-! OneTimeTagModel: reduce -/
def ot_fo (V : Nat) : Nat := V % 1361129467683753853853498429727072845824 + 5 * (V / 1361129467683753853853498429727072845824)
def ot_it : Nat → Nat → Nat
  | 0, V => V
  | n + 1, V => ot_fo (ot_it n V)
theorem ot_it_lt {V : Nat} (h : V < 1496577676626844588240573268701473812127674924007424) : ∀ n, ot_it n V < 1496577676626844588240573268701473812127674924007424
  | 0 => h
  | n + 1 => by
    have := ot_it_lt h n
    rw [ot_it]
    unfold ot_fo
    omega
theorem ot_it3 {V : Nat} (h : V < 1496577676626844588240573268701473812127674924007424) : ot_it 3 V < 1361129467683753853853498429727072845824 := by
  show ot_fo (ot_fo (ot_fo V)) < _
  have h1 : ot_fo V < 1361129467683753853853498429727072845824 + 5 * 1099511627776 := by unfold ot_fo; omega
  have h2 : ot_fo (ot_fo V) < 1361129467683753853853498429727072845824 := by
    generalize ot_fo V = y at h1
    unfold ot_fo
    omega
  generalize ot_fo (ot_fo V) = y at h2
  unfold ot_fo
  omega
theorem ot_fo_mod (V : Nat) : ot_fo V % ot_pp = V % ot_pp := by
  have h : V = ot_fo V + ot_pp * (V / 1361129467683753853853498429727072845824) := by
    unfold ot_fo ot_pp
    omega
  rw [h, Nat.add_mul_mod_self_left, ← h]
theorem ot_it_mod (V : Nat) : ∀ n, ot_it n V % ot_pp = V % ot_pp
  | 0 => rfl
  | n + 1 => by rw [ot_it, ot_fo_mod, ot_it_mod V n]
theorem ot_dv_u {g : Nat → Nat} {k v : Nat} : ∀ {n : Nat}, k < n → ot_dv (ot_u g k v) n + g k * 256 ^ k = ot_dv g n + v * 256 ^ k
  | 0, h => absurd h (Nat.not_lt_zero _)
  | n + 1, h => by
    rw [ot_dv, ot_dv]
    by_cases hk : k = n
    · subst hk
      have e : ot_dv (ot_u g k v) k = ot_dv g k := ot_dv_cong (fun j hj => by unfold ot_u; rw [if_neg (by omega)])
      have e2 : ot_u g k v k = v := by unfold ot_u; rw [if_pos rfl]
      rw [e, e2]
      omega
    · have := ot_dv_u (g := g) (v := v) (show k < n by omega)
      have e2 : ot_u g k v n = g n := by unfold ot_u; rw [if_neg (by omega)]
      rw [e2]
      omega
theorem ot_dv_lt {g : Nat → Nat} : ∀ {n : Nat}, (∀ k, k < n → g k < 256) → ot_dv g n < 256 ^ n
  | 0, _ => Nat.one_pos
  | n + 1, h => by
    have h1 := ot_dv_lt (fun k hk => h k (by omega) : ∀ k, k < n → g k < 256)
    have h2 := h n (by omega)
    rw [ot_dv, Nat.pow_succ]
    have h3 : g n * 256 ^ n ≤ 255 * 256 ^ n := Nat.mul_le_mul_right _ (by omega)
    omega
theorem ot_carry1 {a c v P : Nat} (e : v = a + c) : v / 2 ^ 8 * (P * 256) + v % 2 ^ 8 * P = a * P + c * P := by
  have h : v = v / 2 ^ 8 * 256 + v % 2 ^ 8 := by omega
  have h2 : v * P = (v / 2 ^ 8 * 256 + v % 2 ^ 8) * P := congrArg (· * P) h
  rw [Nat.add_mul] at h2
  rw [← Nat.add_mul, ← e, h2, Nat.mul_assoc, Nat.mul_comm P 256]
theorem ot_cmp0 {a b : Nat} (ha : a < 2 ^ 63) (hb : b < 2 ^ 63) : lg_cmp (lN a) (lN b) = 0 ↔ a = b := by
  unfold lg_cmp
  by_cases h : lN a > lN b
  · rw [if_pos h]
    have h1 : b < a := (pk_lLT hb ha).mp h
    exact ⟨fun q => absurd q (by decide), fun q => by omega⟩
  · rw [if_neg h]
    by_cases h2 : lN a = lN b
    · rw [if_pos h2]
      exact ⟨fun _ => (pk_lEQ ha hb).mp h2, fun _ => rfl⟩
    · rw [if_neg h2]
      exact ⟨fun q => absurd q (by decide), fun q => absurd ((pk_lEQ ha hb).mpr q) h2⟩
theorem ot_cmpn {a b : Nat} (ha : a < 2 ^ 63) (hb : b < 2 ^ 63) : lg_cmp (lN a) (lN b) < 0 ↔ a < b := by
  unfold lg_cmp
  by_cases h : lN a > lN b
  · rw [if_pos h]
    have h1 : b < a := (pk_lLT hb ha).mp h
    exact ⟨fun q => absurd q (by decide), fun q => by omega⟩
  · rw [if_neg h]
    have h1 : ¬ b < a := fun q => h ((pk_lLT hb ha).mpr q)
    by_cases h2 : lN a = lN b
    · rw [if_pos h2]
      have := (pk_lEQ ha hb).mp h2
      exact ⟨fun q => absurd q (by decide), fun q => by omega⟩
    · rw [if_neg h2]
      have : ¬ a = b := fun q => h2 ((pk_lEQ ha hb).mpr q)
      exact ⟨fun q => by omega, fun q => by decide⟩
def ot_full (g : Nat → Nat) (i : Nat) : Prop := g 16 = 3 ∧ 251 ≤ g 0 ∧ ∀ j, 1 ≤ j → j < i → g j = 255
theorem ot_full_iff {g : Nat → Nat} (h : ∀ j, j < 16 → g j < 256) (h16 : g 16 < 4) : ot_full g 16 ↔ ot_pp ≤ ot_dv g 17 := by
  rw [ot_dv17]
  have a0 := h 0 (by omega)
  have a1 := h 1 (by omega)
  have a2 := h 2 (by omega)
  have a3 := h 3 (by omega)
  have a4 := h 4 (by omega)
  have a5 := h 5 (by omega)
  have a6 := h 6 (by omega)
  have a7 := h 7 (by omega)
  have a8 := h 8 (by omega)
  have a9 := h 9 (by omega)
  have a10 := h 10 (by omega)
  have a11 := h 11 (by omega)
  have a12 := h 12 (by omega)
  have a13 := h 13 (by omega)
  have a14 := h 14 (by omega)
  have a15 := h 15 (by omega)
  unfold ot_pp
  constructor
  · intro ⟨q1, q2, q3⟩
    have b1 := q3 1 (by omega) (by omega)
    have b2 := q3 2 (by omega) (by omega)
    have b3 := q3 3 (by omega) (by omega)
    have b4 := q3 4 (by omega) (by omega)
    have b5 := q3 5 (by omega) (by omega)
    have b6 := q3 6 (by omega) (by omega)
    have b7 := q3 7 (by omega) (by omega)
    have b8 := q3 8 (by omega) (by omega)
    have b9 := q3 9 (by omega) (by omega)
    have b10 := q3 10 (by omega) (by omega)
    have b11 := q3 11 (by omega) (by omega)
    have b12 := q3 12 (by omega) (by omega)
    have b13 := q3 13 (by omega) (by omega)
    have b14 := q3 14 (by omega) (by omega)
    have b15 := q3 15 (by omega) (by omega)
    omega
  · intro q
    refine ⟨by omega, by omega, fun j h1 h2 => ?_⟩
    rcases (show j = 1 ∨ j = 2 ∨ j = 3 ∨ j = 4 ∨ j = 5 ∨ j = 6 ∨ j = 7 ∨ j = 8 ∨ j = 9 ∨ j = 10 ∨ j = 11 ∨ j = 12 ∨ j = 13 ∨ j = 14 ∨ j = 15 by omega) with rfl | rfl | rfl | rfl | rfl | rfl | rfl | rfl | rfl | rfl | rfl | rfl | rfl | rfl | rfl <;> omega
set_option maxHeartbeats 4000000 in
set_option maxRecDepth 100000 in
/-- a round of carries -/
theorem lpX1_carry {p : Program} {l : Launch} {e : Env} {R : Room} {s : State} {m : MethodId} {args : Array Value} {below : List Frame} {meth : Method} {c : Code} {cells slots : Nat} {Q : State → Prop} {dC : Nat → ClassId} {dI : Nat → Nat → Nat} {A : Nat → Prop} (hx : p.tables.exec = Jvm.exec) (hb : c.code = cX1_reduce) (hown : s.vm.findClass RX1 = some m.cls) (hts : ∀ w ∈ lw_all, w.before args s = true) {m0 b1 b2 b3 b4 b5 b6 z : Nat} {d5 : ClassId} {rd V : Nat} (hK : va_K (dC, dI) vwCl [(d5, .long)] s)
    (kk : ∀ (i : Nat) (cc : Nat) (g : Nat → Nat), i = 16 → cc < 8796093022208 → (∀ j, j < 17 → g j < 8796093022208) → (∀ j, j < i → g j < 256) → ot_dv g 17 + cc * 256 ^ i = V → ∀ (H : Heap) (locs : List Loc), va_P (dC, dI) vwCl [(m0, .inr (1, [.ref b1, .int (nI z), .ref b2, .ref b3, .ref b4, .ref b5, .ref b6])), (b5, .inl (d5, 17, .inr (.inl (ot_L g))))] H → va_D A [(m0, .inr (1, [.ref b1, .int (nI z), .ref b2, .ref b3, .ref b4, .ref b5, .ref b6])), (b5, .inl (d5, 17, .inr (.inl (ot_L g))))] → va_S A s.heap H locs → ∀ (ls : Array Slot), lv_has ls 7 [(0, .ref m0), (1, .int (nI rd)), (2, .long (lN cc)), (4, .int (nI i))] → W p l e R s m args below meth c H locs cells slots Q (F0 m 55 ls [])) :
    ∀ (n i : Nat) (cc : Nat) (g : Nat → Nat), n + i = 16 → cc < 8796093022208 → (∀ j, j < 17 → g j < 8796093022208) → (∀ j, j < i → g j < 256) → ot_dv g 17 + cc * 256 ^ i = V → ∀ (H : Heap) (locs : List Loc), va_P (dC, dI) vwCl [(m0, .inr (1, [.ref b1, .int (nI z), .ref b2, .ref b3, .ref b4, .ref b5, .ref b6])), (b5, .inl (d5, 17, .inr (.inl (ot_L g))))] H → va_D A [(m0, .inr (1, [.ref b1, .int (nI z), .ref b2, .ref b3, .ref b4, .ref b5, .ref b6])), (b5, .inl (d5, 17, .inr (.inl (ot_L g))))] → va_S A s.heap H locs → ∀ (ls : Array Slot), lv_has ls 7 [(0, .ref m0), (1, .int (nI rd)), (2, .long (lN cc)), (4, .int (nI i))] → W p l e R s m args below meth c H locs cells slots Q (F0 m 12 ls []) := by
  intro n
  induction n with
  | zero =>
    intro i cc g hn_ hc hg hd hV H locs hP hD hS ls hl
    refine lv_iload hx hb dX1_reduce_12 (lv_at hl 3 rfl) ?_
    refine lv_bipush (v := nI 16) hx hb dX1_reduce_14 (by decide) ?_
    refine lv_icmp_ge (tgt := 55) hx hb dX1_reduce_16 (by decide) (fun c_ => ?_) (fun c_ => absurd c_ (not_not_intro (nI_le (by omega) (by omega))))
    exact kk i cc g (by omega) hc hg hd hV H locs hP hD hS ls (lv_sub hl [0, 1, 2, 3] rfl)
  | succ n ih =>
    intro i cc g hn_ hc hg hd hV H locs hP hD hS ls hl
    refine lv_iload hx hb dX1_reduce_12 (lv_at hl 3 rfl) ?_
    refine lv_bipush (v := nI 16) hx hb dX1_reduce_14 (by decide) ?_
    refine lv_icmp_ge (tgt := 55) hx hb dX1_reduce_16 (by decide) (fun c_ => absurd c_ (nI_ge (by omega) (by omega))) (fun c_ => ?_)
    have hgi := hg i (by omega)
    refine lv_aload_n hx hb dX1_reduce_19 rfl (lv_at hl 0 rfl) ?_
    refine va_get (D := (dC, dI)) (ci := 1) (v := .ref b5) (C := RX1) (T := TX1) (N := 7) hx hb hts in_X1 hown hK hP 0 rfl rfl 5 (by decide) (hts _ q196) (fun _ h9 => h9) rfl dX1_reduce_20 ?_
    refine lv_iload hx hb dX1_reduce_23 (lv_at hl 3 rfl) ?_
    refine ot_lald (k := i) hx hb hK hP 1 0 rfl rfl (by omega) (by omega) dX1_reduce_25 ?_
    refine ot_topl (lN (g i)) (rfl) ?_
    refine lv_lload_n hx hb dX1_reduce_26 rfl (lv_at hl 2 rfl) ?_
    refine lv_ladd hx hb dX1_reduce_27 ?_
    refine ot_topl (lN ((g i) + cc)) (lN_add _ _) ?_
    refine ot_namel (fun v ev => ?_)
    refine lv_lstore (lv' := [(5, .long (lN v)), (0, .ref m0), (1, .int (nI rd)), (2, .long (lN cc)), (4, .int (nI i))]) hx hb dX1_reduce_28 hl (by decide) rfl (fun ls hl => ?_)
    refine lv_aload_n hx hb dX1_reduce_30 rfl (lv_at hl 1 rfl) ?_
    refine va_get (D := (dC, dI)) (ci := 1) (v := .ref b5) (C := RX1) (T := TX1) (N := 7) hx hb hts in_X1 hown hK hP 0 rfl rfl 5 (by decide) (hts _ q196) (fun _ h9 => h9) rfl dX1_reduce_31 ?_
    refine lv_iload hx hb dX1_reduce_34 (lv_at hl 4 rfl) ?_
    refine lv_lload hx hb dX1_reduce_36 (lv_at hl 0 rfl) ?_
    refine lv_ldc2 (v := lN 255) hx hb hown (hts _ q251) dX1_reduce_38 ?_
    refine lv_land hx hb dX1_reduce_41 ?_
    refine ot_topl (lN (v % 2 ^ 8)) (fb_maskL _ 8) ?_
    refine ot_last (k := i) hx hb hK hP hD hS 1 0 rfl rfl (by omega) (by omega) dX1_reduce_42 (fun F2 H locs eF2 hP hD hS => ?_)
    have hP : va_P (dC, dI) vwCl [(m0, .inr (1, [.ref b1, .int (nI z), .ref b2, .ref b3, .ref b4, .ref b5, .ref b6])), (b5, .inl (d5, 17, .inr (.inl F2)))] H := hP
    have hD : va_D A [(m0, .inr (1, [.ref b1, .int (nI z), .ref b2, .ref b3, .ref b4, .ref b5, .ref b6])), (b5, .inl (d5, 17, .inr (.inl F2)))] := hD
    rw [ot_L_upd] at eF2
    subst eF2
    refine lv_lload hx hb dX1_reduce_43 (lv_at hl 0 rfl) ?_
    refine lv_bipush (v := nI 8) hx hb dX1_reduce_45 (by decide) ?_
    refine lv_lshr hx hb dX1_reduce_47 rfl ?_
    refine ot_topl (lN (v / 2 ^ 8)) (ot_shrL 8 (by omega) (by omega)) ?_
    refine lv_lstore_n (lv' := [(2, .long (lN (v / 2 ^ 8))), (5, .long (lN v)), (0, .ref m0), (1, .int (nI rd)), (4, .int (nI i))]) hx hb dX1_reduce_48 rfl hl (by decide) rfl (fun ls hl => ?_)
    refine lv_iinc (v := nI (i + 1)) (lv' := [(4, .int (nI (i + 1))), (2, .long (lN (v / 2 ^ 8))), (5, .long (lN v)), (0, .ref m0), (1, .int (nI rd))]) hx hb dX1_reduce_49 hl (k := 4) rfl (ot_inc _ _) (by decide) rfl (fun ls hl => ?_)
    refine lv_goto (tgt := 12) hx hb dX1_reduce_52 (by decide) ?_
    refine ih (i + 1) (v / 2 ^ 8) (ot_u g i (v % 2 ^ 8)) (by omega) (by omega) (fun j hj => ?_) (fun j hj => ?_) ?_ H locs hP hD hS ls (lv_sub hl [3, 4, 1, 0] rfl)
    · unfold ot_u; split; omega; exact hg j hj
    · unfold ot_u; split; omega; exact hd j (by omega)
    · have q1 := ot_dv_u (g := g) (k := i) (v := v % 2 ^ 8) (n := 17) (by omega)
      have q2 := ot_carry1 (P := 256 ^ i) ev
      rw [show 256 ^ (i + 1) = 256 ^ i * 256 from Nat.pow_succ ..]
      omega
set_option maxHeartbeats 4000000 in
set_option maxRecDepth 100000 in
/-- the four rounds -/
theorem lpX1_rounds {p : Program} {l : Launch} {e : Env} {R : Room} {s : State} {m : MethodId} {args : Array Value} {below : List Frame} {meth : Method} {c : Code} {cells slots : Nat} {Q : State → Prop} {dC : Nat → ClassId} {dI : Nat → Nat → Nat} {A : Nat → Prop} (hx : p.tables.exec = Jvm.exec) (hb : c.code = cX1_reduce) (hown : s.vm.findClass RX1 = some m.cls) (hts : ∀ w ∈ lw_all, w.before args s = true) {m0 b1 b2 b3 b4 b5 b6 z : Nat} {d5 : ClassId} {V0 : Nat} (hV0 : V0 < 1496577676626844588240573268701473812127674924007424) (hK : va_K (dC, dI) vwCl [(d5, .long)] s)
    (kk : ∀ (i : Nat) (g : Nat → Nat), i = 4 → (∀ j, j < 17 → g j < 8796093022208) → ot_dv g 17 = ot_it i V0 → (i = 0 ∨ ((∀ j, 1 ≤ j → j < 16 → g j < 256) ∧ g 16 < 4 ∧ g 0 < 256 + 5 * (ot_it (i - 1) V0 / 1361129467683753853853498429727072845824))) → ∀ (H : Heap) (locs : List Loc), va_P (dC, dI) vwCl [(m0, .inr (1, [.ref b1, .int (nI z), .ref b2, .ref b3, .ref b4, .ref b5, .ref b6])), (b5, .inl (d5, 17, .inr (.inl (ot_L g))))] H → va_D A [(m0, .inr (1, [.ref b1, .int (nI z), .ref b2, .ref b3, .ref b4, .ref b5, .ref b6])), (b5, .inl (d5, 17, .inr (.inl (ot_L g))))] → va_S A s.heap H locs → ∀ (ls : Array Slot), lv_has ls 7 [(0, .ref m0), (1, .int (nI i))] → W p l e R s m args below meth c H locs cells slots Q (F0 m 106 ls [])) :
    ∀ (n i : Nat) (g : Nat → Nat), n + i = 4 → (∀ j, j < 17 → g j < 8796093022208) → ot_dv g 17 = ot_it i V0 → (i = 0 ∨ ((∀ j, 1 ≤ j → j < 16 → g j < 256) ∧ g 16 < 4 ∧ g 0 < 256 + 5 * (ot_it (i - 1) V0 / 1361129467683753853853498429727072845824))) → ∀ (H : Heap) (locs : List Loc), va_P (dC, dI) vwCl [(m0, .inr (1, [.ref b1, .int (nI z), .ref b2, .ref b3, .ref b4, .ref b5, .ref b6])), (b5, .inl (d5, 17, .inr (.inl (ot_L g))))] H → va_D A [(m0, .inr (1, [.ref b1, .int (nI z), .ref b2, .ref b3, .ref b4, .ref b5, .ref b6])), (b5, .inl (d5, 17, .inr (.inl (ot_L g))))] → va_S A s.heap H locs → ∀ (ls : Array Slot), lv_has ls 7 [(0, .ref m0), (1, .int (nI i))] → W p l e R s m args below meth c H locs cells slots Q (F0 m 2 ls []) := by
  intro n
  induction n with
  | zero =>
    intro i g hn_ hg hV hd H locs hP hD hS ls hl
    refine lv_iload_n hx hb dX1_reduce_2 rfl (lv_at hl 1 rfl) ?_
    refine lv_iconst (v := nI 4) hx hb dX1_reduce_3 (by decide) ?_
    refine lv_icmp_ge (tgt := 106) hx hb dX1_reduce_4 (by decide) (fun c_ => ?_) (fun c_ => absurd c_ (not_not_intro (nI_le (by omega) (by omega))))
    exact kk i g (by omega) hg hV hd H locs hP hD hS ls (lv_sub hl [0, 1] rfl)
  | succ n ih =>
    intro i g hn_ hg hV hd H locs hP hD hS ls hl
    refine lv_iload_n hx hb dX1_reduce_2 rfl (lv_at hl 1 rfl) ?_
    refine lv_iconst (v := nI 4) hx hb dX1_reduce_3 (by decide) ?_
    refine lv_icmp_ge (tgt := 106) hx hb dX1_reduce_4 (by decide) (fun c_ => absurd c_ (nI_ge (by omega) (by omega))) (fun c_ => ?_)
    refine lv_lconst (v := lN 0) hx hb dX1_reduce_7 rfl ?_
    refine lv_lstore_n (lv' := [(2, .long (lN 0)), (0, .ref m0), (1, .int (nI i))]) hx hb dX1_reduce_8 rfl hl (by decide) rfl (fun ls hl => ?_)
    refine lv_iconst (v := nI 0) hx hb dX1_reduce_9 (by decide) ?_
    refine lv_istore (lv' := [(4, .int (nI 0)), (2, .long (lN 0)), (0, .ref m0), (1, .int (nI i))]) hx hb dX1_reduce_10 hl (by decide) rfl (fun ls hl => ?_)
    refine lpX1_carry hx hb hown hts (V := ot_it i V0) hK (fun k cc g1 hk hc hg1 hd1 hV1 H locs hP hD hS ls hl => ?_) 16 0 0 g (by omega) (by decide) hg (fun j hj => absurd hj (Nat.not_lt_zero _)) (by rw [hV]; omega) H locs hP hD hS ls (lv_sub hl [2, 3, 1, 0] rfl)
    subst hk
    have hlt := ot_it_lt hV0 i
    have hdv := ot_dv_lt hd1
    have hs : ot_dv g1 17 = ot_dv g1 16 + g1 16 * 256 ^ 16 := rfl
    rw [hs] at hV1
    simp only [Nat.reducePow] at hdv hs hV1
    have hg16 := hg1 16 (by omega)
    refine lv_aload_n hx hb dX1_reduce_55 rfl (lv_at hl 0 rfl) ?_
    refine va_get (D := (dC, dI)) (ci := 1) (v := .ref b5) (C := RX1) (T := TX1) (N := 7) hx hb hts in_X1 hown hK hP 0 rfl rfl 5 (by decide) (hts _ q196) (fun _ h9 => h9) rfl dX1_reduce_56 ?_
    refine lv_bipush (v := nI 16) hx hb dX1_reduce_59 (by decide) ?_
    refine ot_lald (k := 16) hx hb hK hP 1 0 rfl rfl (by omega) (by omega) dX1_reduce_61 ?_
    refine ot_topl (lN (g1 16)) (rfl) ?_
    refine lv_lload_n hx hb dX1_reduce_62 rfl (lv_at hl 2 rfl) ?_
    refine lv_ladd hx hb dX1_reduce_63 ?_
    refine ot_topl (lN ((g1 16) + cc)) (lN_add _ _) ?_
    refine ot_namel (fun tp etp => ?_)
    refine lv_lstore (lv' := [(4, .long (lN tp)), (0, .ref m0), (1, .int (nI i)), (2, .long (lN cc))]) hx hb dX1_reduce_64 hl (by decide) rfl (fun ls hl => ?_)
    have ltp : tp < 4398046511104 := by omega
    refine lv_aload_n hx hb dX1_reduce_66 rfl (lv_at hl 1 rfl) ?_
    refine va_get (D := (dC, dI)) (ci := 1) (v := .ref b5) (C := RX1) (T := TX1) (N := 7) hx hb hts in_X1 hown hK hP 0 rfl rfl 5 (by decide) (hts _ q196) (fun _ h9 => h9) rfl dX1_reduce_67 ?_
    refine lv_bipush (v := nI 16) hx hb dX1_reduce_70 (by decide) ?_
    refine lv_lload hx hb dX1_reduce_72 (lv_at hl 0 rfl) ?_
    refine lv_ldc2 (v := lN 3) hx hb hown (hts _ q252) dX1_reduce_74 ?_
    refine lv_land hx hb dX1_reduce_77 ?_
    refine ot_topl (lN (tp % 2 ^ 2)) (fb_maskL _ 2) ?_
    refine ot_last (k := 16) hx hb hK hP hD hS 1 0 rfl rfl (by omega) (by omega) dX1_reduce_78 (fun F2 H locs eF2 hP hD hS => ?_)
    have hP : va_P (dC, dI) vwCl [(m0, .inr (1, [.ref b1, .int (nI z), .ref b2, .ref b3, .ref b4, .ref b5, .ref b6])), (b5, .inl (d5, 17, .inr (.inl F2)))] H := hP
    have hD : va_D A [(m0, .inr (1, [.ref b1, .int (nI z), .ref b2, .ref b3, .ref b4, .ref b5, .ref b6])), (b5, .inl (d5, 17, .inr (.inl F2)))] := hD
    rw [ot_L_upd] at eF2
    subst eF2
    refine lv_aload_n hx hb dX1_reduce_79 rfl (lv_at hl 1 rfl) ?_
    refine va_get (D := (dC, dI)) (ci := 1) (v := .ref b5) (C := RX1) (T := TX1) (N := 7) hx hb hts in_X1 hown hK hP 0 rfl rfl 5 (by decide) (hts _ q196) (fun _ h9 => h9) rfl dX1_reduce_80 ?_
    refine lv_iconst (v := nI 0) hx hb dX1_reduce_83 (by decide) ?_
    refine lv_aload_n hx hb dX1_reduce_84 rfl (lv_at hl 1 rfl) ?_
    refine va_get (D := (dC, dI)) (ci := 1) (v := .ref b5) (C := RX1) (T := TX1) (N := 7) hx hb hts in_X1 hown hK hP 0 rfl rfl 5 (by decide) (hts _ q196) (fun _ h9 => h9) rfl dX1_reduce_85 ?_
    refine lv_iconst (v := nI 0) hx hb dX1_reduce_88 (by decide) ?_
    refine ot_lald (k := 0) hx hb hK hP 1 0 rfl rfl (by omega) (by omega) dX1_reduce_89 ?_
    refine ot_topl (lN (g1 0)) (rfl) ?_
    refine lv_ldc2 (v := lN 5) hx hb hown (hts _ q253) dX1_reduce_90 ?_
    refine lv_lload hx hb dX1_reduce_93 (lv_at hl 0 rfl) ?_
    refine lv_iconst (v := nI 2) hx hb dX1_reduce_95 (by decide) ?_
    refine lv_lshr hx hb dX1_reduce_96 rfl ?_
    refine ot_topl (lN (tp / 2 ^ 2)) (ot_shrL 2 (by omega) (by omega)) ?_
    refine lv_lmul hx hb dX1_reduce_97 ?_
    refine ot_topl (lN (5 * (tp / 2 ^ 2))) (lN_mul _ _) ?_
    refine lv_ladd hx hb dX1_reduce_98 ?_
    refine ot_topl (lN ((g1 0) + (5 * (tp / 2 ^ 2)))) (lN_add _ _) ?_
    refine ot_last (k := 0) hx hb hK hP hD hS 1 0 rfl rfl (by omega) (by omega) dX1_reduce_99 (fun F3 H locs eF3 hP hD hS => ?_)
    have hP : va_P (dC, dI) vwCl [(m0, .inr (1, [.ref b1, .int (nI z), .ref b2, .ref b3, .ref b4, .ref b5, .ref b6])), (b5, .inl (d5, 17, .inr (.inl F3)))] H := hP
    have hD : va_D A [(m0, .inr (1, [.ref b1, .int (nI z), .ref b2, .ref b3, .ref b4, .ref b5, .ref b6])), (b5, .inl (d5, 17, .inr (.inl F3)))] := hD
    rw [ot_L_upd] at eF3
    subst eF3
    refine lv_iinc (v := nI (i + 1)) (lv' := [(1, .int (nI (i + 1))), (4, .long (lN tp)), (0, .ref m0), (2, .long (lN cc))]) hx hb dX1_reduce_100 hl (k := 2) rfl (ot_inc _ _) (by decide) rfl (fun ls hl => ?_)
    refine lv_goto (tgt := 2) hx hb dX1_reduce_103 (by decide) ?_
    have hg0 := hd1 0 (by omega)
    have htp : tp / 4 = ot_it i V0 / 1361129467683753853853498429727072845824 := by omega
    refine ih (i + 1) (ot_u (ot_u g1 16 (tp % 2 ^ 2)) 0 (g1 0 + 5 * (tp / 2 ^ 2))) (by omega) (fun j hj => ?_) ?_ (Or.inr ⟨fun j h1 h2 => ?_, ?_, ?_⟩) H locs hP hD hS ls (lv_sub hl [2, 0] rfl)
    · unfold ot_u; split; omega; split; omega; exact hg1 j hj
    · have q1 := ot_dv_u (g := ot_u g1 16 (tp % 2 ^ 2)) (k := 0) (v := g1 0 + 5 * (tp / 2 ^ 2)) (n := 17) (by omega)
      have q2 := ot_dv_u (g := g1) (k := 16) (v := tp % 2 ^ 2) (n := 17) (by omega)
      have q3 : ot_u g1 16 (tp % 2 ^ 2) 0 = g1 0 := rfl
      rw [q3] at q1
      rw [hs] at q2
      simp only [Nat.reducePow] at q1 q2 ⊢
      rw [ot_it]
      unfold ot_fo
      omega
    · unfold ot_u; rw [if_neg (by omega), if_neg (by omega)]; exact hd1 j h2
    · show tp % 2 ^ 2 < 4; omega
    · show g1 0 + 5 * (tp / 2 ^ 2) < 256 + 5 * (ot_it i V0 / 1361129467683753853853498429727072845824); omega
end
section
/-! OneTimeTagModel: reduce, its end and its contract -/
set_option maxHeartbeats 4000000 in
set_option maxRecDepth 100000 in
/-- is it all ones -/
theorem lpX1_full {p : Program} {l : Launch} {e : Env} {R : Room} {s : State} {m : MethodId} {args : Array Value} {below : List Frame} {meth : Method} {c : Code} {cells slots : Nat} {Q : State → Prop} {dC : Nat → ClassId} {dI : Nat → Nat → Nat} {A : Nat → Prop} (hx : p.tables.exec = Jvm.exec) (hb : c.code = cX1_reduce) (hown : s.vm.findClass RX1 = some m.cls) (hts : ∀ w ∈ lw_all, w.before args s = true) {m0 b1 b2 b3 b4 b5 b6 z : Nat} {d5 : ClassId} (g : Nat → Nat) (hg : ∀ j, j < 17 → g j < 8796093022208) (hK : va_K (dC, dI) vwCl [(d5, .long)] s)
    (kk : ∀ (i : Nat) (b : Nat), i = 16 → 1 ≤ i → ((b = 1 ∧ ot_full g i) ∨ (b = 0 ∧ ¬ ot_full g i)) → ∀ (H : Heap) (locs : List Loc), va_P (dC, dI) vwCl [(m0, .inr (1, [.ref b1, .int (nI z), .ref b2, .ref b3, .ref b4, .ref b5, .ref b6])), (b5, .inl (d5, 17, .inr (.inl (ot_L g))))] H → va_D A [(m0, .inr (1, [.ref b1, .int (nI z), .ref b2, .ref b3, .ref b4, .ref b5, .ref b6])), (b5, .inl (d5, 17, .inr (.inl (ot_L g))))] → va_S A s.heap H locs → ∀ (ls : Array Slot), lv_has ls 7 [(0, .ref m0), (1, .int (nI b)), (2, .int (nI i))] → W p l e R s m args below meth c H locs cells slots Q (F0 m 176 ls [])) :
    ∀ (n i : Nat) (b : Nat), n + i = 16 → 1 ≤ i → ((b = 1 ∧ ot_full g i) ∨ (b = 0 ∧ ¬ ot_full g i)) → ∀ (H : Heap) (locs : List Loc), va_P (dC, dI) vwCl [(m0, .inr (1, [.ref b1, .int (nI z), .ref b2, .ref b3, .ref b4, .ref b5, .ref b6])), (b5, .inl (d5, 17, .inr (.inl (ot_L g))))] H → va_D A [(m0, .inr (1, [.ref b1, .int (nI z), .ref b2, .ref b3, .ref b4, .ref b5, .ref b6])), (b5, .inl (d5, 17, .inr (.inl (ot_L g))))] → va_S A s.heap H locs → ∀ (ls : Array Slot), lv_has ls 7 [(0, .ref m0), (1, .int (nI b)), (2, .int (nI i))] → W p l e R s m args below meth c H locs cells slots Q (F0 m 141 ls []) := by
  intro n
  induction n with
  | zero =>
    intro i b hn_ h1 h2 H locs hP hD hS ls hl
    refine lv_iload_n hx hb dX1_reduce_141 rfl (lv_at hl 2 rfl) ?_
    refine lv_bipush (v := nI 16) hx hb dX1_reduce_142 (by decide) ?_
    refine lv_icmp_ge (tgt := 176) hx hb dX1_reduce_144 (by decide) (fun c_ => ?_) (fun c_ => absurd c_ (not_not_intro (nI_le (by omega) (by omega))))
    exact kk i b (by omega) h1 h2 H locs hP hD hS ls (lv_sub hl [0, 1, 2] rfl)
  | succ n ih =>
    intro i b hn_ h1 h2 H locs hP hD hS ls hl
    refine lv_iload_n hx hb dX1_reduce_141 rfl (lv_at hl 2 rfl) ?_
    refine lv_bipush (v := nI 16) hx hb dX1_reduce_142 (by decide) ?_
    refine lv_icmp_ge (tgt := 176) hx hb dX1_reduce_144 (by decide) (fun c_ => absurd c_ (nI_ge (by omega) (by omega))) (fun c_ => ?_)
    have hgi := hg i (by omega)
    rcases h2 with ⟨rfl, hp⟩ | ⟨rfl, hp⟩
    · refine lv_iload_n hx hb dX1_reduce_147 rfl (lv_at hl 1 rfl) ?_
      refine lv_if_eq (tgt := 168) hx hb dX1_reduce_148 (by decide) (fun c_ => absurd c_ (by decide)) (fun c_ => ?_)
      refine lv_aload_n hx hb dX1_reduce_151 rfl (lv_at hl 0 rfl) ?_
      refine va_get (D := (dC, dI)) (ci := 1) (v := .ref b5) (C := RX1) (T := TX1) (N := 7) hx hb hts in_X1 hown hK hP 0 rfl rfl 5 (by decide) (hts _ q196) (fun _ h9 => h9) rfl dX1_reduce_152 ?_
      refine lv_iload_n hx hb dX1_reduce_155 rfl (lv_at hl 2 rfl) ?_
      refine ot_lald (k := i) hx hb hK hP 1 0 rfl rfl (by omega) (by omega) dX1_reduce_156 ?_
      refine ot_topl (lN (g i)) (rfl) ?_
      refine lv_ldc2 (v := lN 255) hx hb hown (hts _ q251) dX1_reduce_157 ?_
      refine W.lcmp hx hb dX1_reduce_160 ?_
      refine lv_if_ne (tgt := 168) hx hb dX1_reduce_161 (by decide) (fun c2 => ?_) (fun c2 => ?_)
      · have hne : ¬ g i = 255 := fun q => c2 ((ot_cmp0 (by omega) (by omega)).mpr q)
        refine lv_iconst (v := nI 0) hx hb dX1_reduce_168 (by decide) ?_
        refine lv_istore_n (lv' := [(1, .int (nI 0)), (0, .ref m0), (2, .int (nI i))]) hx hb dX1_reduce_169 rfl hl (by decide) rfl (fun ls hl => ?_)
        refine lv_iinc (v := nI (i + 1)) (lv' := [(2, .int (nI (i + 1))), (1, .int (nI 0)), (0, .ref m0)]) hx hb dX1_reduce_170 hl (k := 2) rfl (ot_inc _ _) (by decide) rfl (fun ls hl => ?_)
        refine lv_goto (tgt := 141) hx hb dX1_reduce_173 (by decide) ?_
        exact ih (i + 1) 0 (by omega) (by omega) (Or.inr ⟨rfl, fun q => hne (q.2.2 i h1 (by omega))⟩) H locs hP hD hS ls (lv_sub hl [2, 1, 0] rfl)
      · have heq : g i = 255 := (ot_cmp0 (by omega) (by omega)).mp c2
        refine lv_iconst (v := nI 1) hx hb dX1_reduce_164 (by decide) ?_
        refine lv_goto (tgt := 169) hx hb dX1_reduce_165 (by decide) ?_
        refine lv_istore_n (lv' := [(1, .int (nI 1)), (0, .ref m0), (2, .int (nI i))]) hx hb dX1_reduce_169 rfl hl (by decide) rfl (fun ls hl => ?_)
        refine lv_iinc (v := nI (i + 1)) (lv' := [(2, .int (nI (i + 1))), (1, .int (nI 1)), (0, .ref m0)]) hx hb dX1_reduce_170 hl (k := 2) rfl (ot_inc _ _) (by decide) rfl (fun ls hl => ?_)
        refine lv_goto (tgt := 141) hx hb dX1_reduce_173 (by decide) ?_
        exact ih (i + 1) 1 (by omega) (by omega) (Or.inl ⟨rfl, hp.1, hp.2.1, fun j q1 q2 => by rcases Nat.lt_or_ge j i with q | q; exact hp.2.2 j q1 q; rw [show j = i by omega]; exact heq⟩) H locs hP hD hS ls (lv_sub hl [2, 1, 0] rfl)
    · refine lv_iload_n hx hb dX1_reduce_147 rfl (lv_at hl 1 rfl) ?_
      refine lv_if_eq (tgt := 168) hx hb dX1_reduce_148 (by decide) (fun c_ => ?_) (fun c_ => absurd c_ (by decide))
      refine lv_iconst (v := nI 0) hx hb dX1_reduce_168 (by decide) ?_
      refine lv_istore_n (lv' := [(1, .int (nI 0)), (0, .ref m0), (2, .int (nI i))]) hx hb dX1_reduce_169 rfl hl (by decide) rfl (fun ls hl => ?_)
      refine lv_iinc (v := nI (i + 1)) (lv' := [(2, .int (nI (i + 1))), (1, .int (nI 0)), (0, .ref m0)]) hx hb dX1_reduce_170 hl (k := 2) rfl (ot_inc _ _) (by decide) rfl (fun ls hl => ?_)
      refine lv_goto (tgt := 141) hx hb dX1_reduce_173 (by decide) ?_
      exact ih (i + 1) 0 (by omega) (by omega) (Or.inr ⟨rfl, fun q => hp ⟨q.1, q.2.1, fun j q1 q2 => q.2.2 j q1 (by omega)⟩⟩) H locs hP hD hS ls (lv_sub hl [2, 1, 0] rfl)
set_option maxHeartbeats 4000000 in
set_option maxRecDepth 100000 in
/-- h cleared -/
theorem lpX1_clear {p : Program} {l : Launch} {e : Env} {R : Room} {s : State} {m : MethodId} {args : Array Value} {below : List Frame} {meth : Method} {c : Code} {cells slots : Nat} {Q : State → Prop} {dC : Nat → ClassId} {dI : Nat → Nat → Nat} {A : Nat → Prop} (hx : p.tables.exec = Jvm.exec) (hb : c.code = cX1_reduce) (hown : s.vm.findClass RX1 = some m.cls) (hts : ∀ w ∈ lw_all, w.before args s = true) {m0 b1 b2 b3 b4 b5 b6 z : Nat} {d5 : ClassId} {lo : Nat} (hK : va_K (dC, dI) vwCl [(d5, .long)] s)
    (kk : ∀ (i : Nat) (g : Nat → Nat), i = 17 → (∀ j, j < i → g j = 0) → ∀ (H : Heap) (locs : List Loc), va_P (dC, dI) vwCl [(m0, .inr (1, [.ref b1, .int (nI z), .ref b2, .ref b3, .ref b4, .ref b5, .ref b6])), (b5, .inl (d5, 17, .inr (.inl (ot_L g))))] H → va_D A [(m0, .inr (1, [.ref b1, .int (nI z), .ref b2, .ref b3, .ref b4, .ref b5, .ref b6])), (b5, .inl (d5, 17, .inr (.inl (ot_L g))))] → va_S A s.heap H locs → ∀ (ls : Array Slot), lv_has ls 7 [(0, .ref m0), (2, .long (lN lo)), (4, .int (nI i))] → W p l e R s m args below meth c H locs cells slots Q (F0 m 215 ls [])) :
    ∀ (n i : Nat) (g : Nat → Nat), n + i = 17 → (∀ j, j < i → g j = 0) → ∀ (H : Heap) (locs : List Loc), va_P (dC, dI) vwCl [(m0, .inr (1, [.ref b1, .int (nI z), .ref b2, .ref b3, .ref b4, .ref b5, .ref b6])), (b5, .inl (d5, 17, .inr (.inl (ot_L g))))] H → va_D A [(m0, .inr (1, [.ref b1, .int (nI z), .ref b2, .ref b3, .ref b4, .ref b5, .ref b6])), (b5, .inl (d5, 17, .inr (.inl (ot_L g))))] → va_S A s.heap H locs → ∀ (ls : Array Slot), lv_has ls 7 [(0, .ref m0), (2, .long (lN lo)), (4, .int (nI i))] → W p l e R s m args below meth c H locs cells slots Q (F0 m 194 ls []) := by
  intro n
  induction n with
  | zero =>
    intro i g hn_ h2 H locs hP hD hS ls hl
    refine lv_iload hx hb dX1_reduce_194 (lv_at hl 2 rfl) ?_
    refine lv_bipush (v := nI 17) hx hb dX1_reduce_196 (by decide) ?_
    refine lv_icmp_ge (tgt := 215) hx hb dX1_reduce_198 (by decide) (fun c_ => ?_) (fun c_ => absurd c_ (not_not_intro (nI_le (by omega) (by omega))))
    exact kk i g (by omega) h2 H locs hP hD hS ls (lv_sub hl [0, 1, 2] rfl)
  | succ n ih =>
    intro i g hn_ h2 H locs hP hD hS ls hl
    refine lv_iload hx hb dX1_reduce_194 (lv_at hl 2 rfl) ?_
    refine lv_bipush (v := nI 17) hx hb dX1_reduce_196 (by decide) ?_
    refine lv_icmp_ge (tgt := 215) hx hb dX1_reduce_198 (by decide) (fun c_ => absurd c_ (nI_ge (by omega) (by omega))) (fun c_ => ?_)
    refine lv_aload_n hx hb dX1_reduce_201 rfl (lv_at hl 0 rfl) ?_
    refine va_get (D := (dC, dI)) (ci := 1) (v := .ref b5) (C := RX1) (T := TX1) (N := 7) hx hb hts in_X1 hown hK hP 0 rfl rfl 5 (by decide) (hts _ q196) (fun _ h9 => h9) rfl dX1_reduce_202 ?_
    refine lv_iload hx hb dX1_reduce_205 (lv_at hl 2 rfl) ?_
    refine lv_lconst (v := lN 0) hx hb dX1_reduce_207 rfl ?_
    refine ot_last (k := i) hx hb hK hP hD hS 1 0 rfl rfl (by omega) (by omega) dX1_reduce_208 (fun F2 H locs eF2 hP hD hS => ?_)
    have hP : va_P (dC, dI) vwCl [(m0, .inr (1, [.ref b1, .int (nI z), .ref b2, .ref b3, .ref b4, .ref b5, .ref b6])), (b5, .inl (d5, 17, .inr (.inl F2)))] H := hP
    have hD : va_D A [(m0, .inr (1, [.ref b1, .int (nI z), .ref b2, .ref b3, .ref b4, .ref b5, .ref b6])), (b5, .inl (d5, 17, .inr (.inl F2)))] := hD
    rw [ot_L_upd] at eF2
    subst eF2
    refine lv_iinc (v := nI (i + 1)) (lv' := [(4, .int (nI (i + 1))), (0, .ref m0), (2, .long (lN lo))]) hx hb dX1_reduce_209 hl (k := 2) rfl (ot_inc _ _) (by decide) rfl (fun ls hl => ?_)
    refine lv_goto (tgt := 194) hx hb dX1_reduce_212 (by decide) ?_
    refine ih (i + 1) (ot_u g i 0) (by omega) (fun j hj => ?_) H locs hP hD hS ls (lv_sub hl [1, 2, 0] rfl)
    unfold ot_u; split; rfl; exact h2 j (by omega)
theorem ot_dv_zero {g : Nat → Nat} : ∀ {n : Nat}, (∀ j, j < n → g j = 0) → ot_dv g n = 0
  | 0, _ => rfl
  | n + 1, h => by rw [ot_dv, ot_dv_zero (fun j hj => h j (by omega)), h n (by omega), Nat.zero_mul]
theorem ot_red0 {g : Nat → Nat} {V : Nat} (h : ∀ j, j < 16 → g j < 256) (h16 : g 16 < 4) (hV : ot_dv g 17 % ot_pp = V % ot_pp) (hn : ¬ ot_full g 16) : ot_dv g 17 = V % ot_pp ∧ ∀ j, j < 17 → g j < 256 := by
  have q : ¬ ot_pp ≤ ot_dv g 17 := fun q => hn ((ot_full_iff h h16).mpr q)
  refine ⟨by rw [← hV, Nat.mod_eq_of_lt (by omega)], fun j hj => ?_⟩
  rcases Nat.lt_or_ge j 16 with r | r
  · exact h j r
  · rw [show j = 16 by omega]; omega
theorem ot_red1 {g g1 : Nat → Nat} {V lo : Nat} (h : ∀ j, j < 16 → g j < 256) (h16 : g 16 < 4) (hV : ot_dv g 17 % ot_pp = V % ot_pp) (hf : ot_full g 16) (hlo : lo = g 0 - 251) (hz : ∀ j, j < 17 → g1 j = 0) : ot_dv (ot_u g1 0 lo) 17 = V % ot_pp ∧ ∀ j, j < 17 → ot_u g1 0 lo j < 256 := by
  have q := (ot_full_iff h h16).mp hf
  have e := ot_dv_u (g := g1) (k := 0) (v := lo) (n := 17) (by omega)
  rw [ot_dv_zero hz, hz 0 (by omega)] at e
  have a0 := h 0 (by omega)
  have e2 : ot_dv g 17 = ot_pp + lo := by
    obtain ⟨q1, q2, q3⟩ := hf
    rw [ot_dv17, q1, q3 1 (by omega) (by omega), q3 2 (by omega) (by omega), q3 3 (by omega) (by omega), q3 4 (by omega) (by omega), q3 5 (by omega) (by omega), q3 6 (by omega) (by omega), q3 7 (by omega) (by omega), q3 8 (by omega) (by omega), q3 9 (by omega) (by omega), q3 10 (by omega) (by omega), q3 11 (by omega) (by omega), q3 12 (by omega) (by omega), q3 13 (by omega) (by omega), q3 14 (by omega) (by omega), q3 15 (by omega) (by omega)]
    unfold ot_pp
    omega
  refine ⟨?_, fun j hj => ?_⟩
  · rw [← hV, e2, Nat.add_mod_left, Nat.mod_eq_of_lt (by unfold ot_pp; omega)]
    omega
  · unfold ot_u
    split
    · omega
    · rw [hz j hj]; decide
abbrev wsX1_reduce : List Cond := ws_ yX1_reduce cX1_reduce 7 none
set_option maxHeartbeats 4000000 in
set_option maxRecDepth 100000 in
/-- reduce: the remainder, in digits -/
theorem metX1_reduce (l : Launch) (dC : Nat → ClassId) (dI : Nat → Nat → Nat) (sz : Nat) (m0 b1 b2 b3 b4 b5 b6 z : Nat) (d5 : ClassId) (g0 : Nat → Nat) (hg0 : ∀ j, j < 17 → g0 j < 8796093022208) (hV0 : ot_dv g0 17 < 1496577676626844588240573268701473812127674924007424) : Met l yX1_reduce wsX1_reduce ({ frames := 0, cells := 0, slots := 0, locals := 0 }) (va_Pc [.ref m0] (fun U => U.heap.size = sz ∧ va_P (dC, dI) vwCl [(m0, .inr (1, [.ref b1, .int (nI z), .ref b2, .ref b3, .ref b4, .ref b5, .ref b6])), (b5, .inl (d5, 17, .inr (.inl (ot_L g0))))] U.heap ∧ va_K (dC, dI) vwCl [(d5, .long)] U ∧ va_D (fun _ => True) [(m0, .inr (1, [.ref b1, .int (nI z), .ref b2, .ref b3, .ref b4, .ref b5, .ref b6])), (b5, .inl (d5, 17, .inr (.inl (ot_L g0))))])) (va_Qv (fun (g : Nat → Nat) => ot_dv g 17 = ot_dv g0 17 % ot_pp ∧ ∀ j, j < 17 → g j < 256) (fun (u : Nat → Nat) (t : State) => va_P (dC, dI) vwCl [(m0, .inr (1, [.ref b1, .int (nI z), .ref b2, .ref b3, .ref b4, .ref b5, .ref b6])), (b5, .inl (d5, 17, .inr (.inl (ot_L u))))] t.heap ∧ va_K (dC, dI) vwCl [(d5, .long)] t ∧ va_D (va_A [(m0, .inr (1, [.ref b1, .int (nI z), .ref b2, .ref b3, .ref b4, .ref b5, .ref b6])), (b5, .inl (d5, 17, .inr (.inl (ot_L g0))))] sz) [(m0, .inr (1, [.ref b1, .int (nI z), .ref b2, .ref b3, .ref b4, .ref b5, .ref b6])), (b5, .inl (d5, 17, .inr (.inl (ot_L u))))]) (va_A [(m0, .inr (1, [.ref b1, .int (nI z), .ref b2, .ref b3, .ref b4, .ref b5, .ref b6])), (b5, .inl (d5, 17, .inr (.inl (ot_L g0))))] sz)) 0 0 (va_A [(m0, .inr (1, [.ref b1, .int (nI z), .ref b2, .ref b3, .ref b4, .ref b5, .ref b6])), (b5, .inl (d5, 17, .inr (.inl (ot_L g0))))] sz) := by
  refine Met.ofW (cc := cX1_reduce) (maxL := 7) (ret := none) (by decide) rfl ?_
  intro p e s m args below meth c s₁ B hml hv
  obtain ⟨rfl, hsz, hP, hK, hD0⟩ := hv
  have hx := B.exec
  have hb := B.bytes
  have hr := B.returns
  have hts := atoms_spec (ws := wsX1_reduce) B.pre
  have hts : ∀ w ∈ lw_all, w.before _ s = true := fun w h => hts w (List.mem_cons_of_mem _ h)
  have hown : s.vm.findClass RX1 = some m.cls := findClass_of_methodNamed B.named
  have hlocks := B.notSynchronized
  subst hsz
  have hD := hD0.self (sz := s.heap.size)
  generalize hAe : va_A [(m0, .inr (1, [.ref b1, .int (nI z), .ref b2, .ref b3, .ref b4, .ref b5, .ref b6])), (b5, .inl (d5, 17, .inr (.inl (ot_L g0))))] s.heap.size = A at hD ⊢
  have hA : ∀ q : Nat, s.heap.size ≤ q → A q := fun q h => by rw [← hAe]; exact Or.inr h
  have hS : va_S A s.heap s.heap [] := va_S.rf
  have hP : va_P (dC, dI) vwCl [(m0, .inr (1, [.ref b1, .int (nI z), .ref b2, .ref b3, .ref b4, .ref b5, .ref b6])), (b5, .inl (d5, 17, .inr (.inl (ot_L g0))))] s.heap := hP
  have hl := lv_entry ([.ref m0]) (n := 7) (Nat.le_of_ble_eq_true rfl)
  rw [lg_entry_eq]
  generalize (lg_sl ([.ref m0]) ++ List.replicate (7 - (lg_sl ([.ref m0])).length) Slot.unset).toArray = ls at hl ⊢
  have hl : lv_has ls 7 [(0, .ref m0)] := hl
  refine lv_iconst (v := nI 0) hx hb dX1_reduce_0 (by decide) ?_
  refine lv_istore_n (lv' := [(1, .int (nI 0)), (0, .ref m0)]) hx hb dX1_reduce_1 rfl hl (by decide) rfl (fun ls hl => ?_)
  refine lpX1_rounds hx hb hown hts hV0 hK (fun i g hi hg hV hd H locs hP hD hS ls hl => ?_) 4 0 g0 (by omega) hg0 rfl (Or.inl rfl) _ _ hP hD hS ls (lv_sub hl [1, 0] rfl)
  subst hi
  obtain ⟨hd1, hd16, hd0⟩ := hd.resolve_left (by decide)
  have h3 := ot_it3 hV0
  have hd0 : g 0 < 256 := by have : ot_it (4 - 1) (ot_dv g0 17) / 1361129467683753853853498429727072845824 = 0 := Nat.div_eq_of_lt h3; omega
  have hdig : ∀ j, j < 16 → g j < 256 := fun j hj => by rcases Nat.eq_zero_or_pos j with q | q; rw [q]; exact hd0; exact hd1 j q hj
  have hmod : ot_dv g 17 % ot_pp = ot_dv g0 17 % ot_pp := by rw [hV]; exact ot_it_mod _ 4
  have tl : ∀ b : Nat, ((b = 1 ∧ ot_full g 1) ∨ (b = 0 ∧ ¬ ot_full g 1)) → W p l e (headSpec wsX1_reduce ({ frames := 0, cells := 0, slots := 0, locals := 0 })).room s m ([.ref m0] : List Value).toArray below meth c H locs 0 0 (MQ below (va_Qv (fun (g : Nat → Nat) => ot_dv g 17 = ot_dv g0 17 % ot_pp ∧ ∀ j, j < 17 → g j < 256) (fun (u : Nat → Nat) (t : State) => va_P (dC, dI) vwCl [(m0, .inr (1, [.ref b1, .int (nI z), .ref b2, .ref b3, .ref b4, .ref b5, .ref b6])), (b5, .inl (d5, 17, .inr (.inl (ot_L u))))] t.heap ∧ va_K (dC, dI) vwCl [(d5, .long)] t ∧ va_D A [(m0, .inr (1, [.ref b1, .int (nI z), .ref b2, .ref b3, .ref b4, .ref b5, .ref b6])), (b5, .inl (d5, 17, .inr (.inl (ot_L u))))]) A) ([.ref m0] : List Value).toArray s 0 0 A) (F0 m 138 ls [.int (nI b)]) := by
    intro b hb_
    refine lv_istore_n (lv' := [(1, .int (nI b)), (0, .ref m0)]) hx hb dX1_reduce_138 rfl hl (by decide) rfl (fun ls hl => ?_)
    refine lv_iconst (v := nI 1) hx hb dX1_reduce_139 (by decide) ?_
    refine lv_istore_n (lv' := [(2, .int (nI 1)), (1, .int (nI b)), (0, .ref m0)]) hx hb dX1_reduce_140 rfl hl (by decide) rfl (fun ls hl => ?_)
    refine lpX1_full hx hb hown hts g hg hK (fun i b hi h1 h2 H locs hP hD hS ls hl => ?_) 15 1 b (by omega) (by omega) hb_ _ _ hP hD hS ls (lv_sub hl [2, 1, 0] rfl)
    subst hi
    rcases h2 with ⟨rfl, hp⟩ | ⟨rfl, hp⟩
    · refine lv_iload_n hx hb dX1_reduce_176 rfl (lv_at hl 1 rfl) ?_
      refine lv_if_eq (tgt := 222) hx hb dX1_reduce_177 (by decide) (fun c_ => absurd c_ (by decide)) (fun c_ => ?_)
      refine lv_aload_n hx hb dX1_reduce_180 rfl (lv_at hl 0 rfl) ?_
      refine va_get (D := (dC, dI)) (ci := 1) (v := .ref b5) (C := RX1) (T := TX1) (N := 7) hx hb hts in_X1 hown hK hP 0 rfl rfl 5 (by decide) (hts _ q196) (fun _ h9 => h9) rfl dX1_reduce_181 ?_
      refine lv_iconst (v := nI 0) hx hb dX1_reduce_184 (by decide) ?_
      refine ot_lald (k := 0) hx hb hK hP 1 0 rfl rfl (by omega) (by omega) dX1_reduce_185 ?_
      refine ot_topl (lN (g 0)) (rfl) ?_
      refine lv_ldc2 (v := lN 251) hx hb hown (hts _ q254) dX1_reduce_186 ?_
      refine lv_lsub hx hb dX1_reduce_189 ?_
      refine ot_topl (lN (g 0 - 251)) (lN_sub hp.2.1) ?_
      refine ot_namel (fun lo elo => ?_)
      refine lv_lstore_n (lv' := [(2, .long (lN lo)), (0, .ref m0), (1, .int (nI 1))]) hx hb dX1_reduce_190 rfl hl (by decide) rfl (fun ls hl => ?_)
      refine lv_iconst (v := nI 0) hx hb dX1_reduce_191 (by decide) ?_
      refine lv_istore (lv' := [(4, .int (nI 0)), (2, .long (lN lo)), (0, .ref m0), (1, .int (nI 1))]) hx hb dX1_reduce_192 hl (by decide) rfl (fun ls hl => ?_)
      refine lpX1_clear hx hb hown hts hK (fun i g1 hi h2 H locs hP hD hS ls hl => ?_) 17 0 g (by omega) (fun j hj => absurd hj (Nat.not_lt_zero _)) _ _ hP hD hS ls (lv_sub hl [2, 1, 0] rfl)
      subst hi
      refine lv_aload_n hx hb dX1_reduce_215 rfl (lv_at hl 0 rfl) ?_
      refine va_get (D := (dC, dI)) (ci := 1) (v := .ref b5) (C := RX1) (T := TX1) (N := 7) hx hb hts in_X1 hown hK hP 0 rfl rfl 5 (by decide) (hts _ q196) (fun _ h9 => h9) rfl dX1_reduce_216 ?_
      refine lv_iconst (v := nI 0) hx hb dX1_reduce_219 (by decide) ?_
      refine lv_lload_n hx hb dX1_reduce_220 rfl (lv_at hl 1 rfl) ?_
      refine ot_last (k := 0) hx hb hK hP hD hS 1 0 rfl rfl (by omega) (by omega) dX1_reduce_221 (fun F2 H locs eF2 hP hD hS => ?_)
      have hP : va_P (dC, dI) vwCl [(m0, .inr (1, [.ref b1, .int (nI z), .ref b2, .ref b3, .ref b4, .ref b5, .ref b6])), (b5, .inl (d5, 17, .inr (.inl F2)))] H := hP
      have hD : va_D A [(m0, .inr (1, [.ref b1, .int (nI z), .ref b2, .ref b3, .ref b4, .ref b5, .ref b6])), (b5, .inl (d5, 17, .inr (.inl F2)))] := hD
      rw [ot_L_upd] at eF2
      subst eF2
      have hP9 := hP.sub (ws' := [(m0, .inr (1, [.ref b1, .int (nI z), .ref b2, .ref b3, .ref b4, .ref b5, .ref b6])), (b5, .inl (d5, 17, .inr (.inl (ot_L (ot_u g1 0 lo)))))]) [0, 1] rfl
      have hD9 := hD.sub (ws' := [(m0, .inr (1, [.ref b1, .int (nI z), .ref b2, .ref b3, .ref b4, .ref b5, .ref b6])), (b5, .inl (d5, 17, .inr (.inl (ot_L (ot_u g1 0 lo)))))]) [0, 1] (by decide) rfl
      have hK9 := hK.sub (tys' := [(d5, .long)]) [0] rfl
      exact W.vret hx hb hr (fun t ht hW => ⟨⟨ot_u g1 0 lo, rfl, ot_red1 hdig hd16 hmod hp elo h2, by rw [ht]; exact hP9, va_K.moved hW.alike hK9, hD9⟩, hS.F ht⟩) hS.2.2 dX1_reduce_222
    · refine lv_iload_n hx hb dX1_reduce_176 rfl (lv_at hl 1 rfl) ?_
      refine lv_if_eq (tgt := 222) hx hb dX1_reduce_177 (by decide) (fun c_ => ?_) (fun c_ => absurd c_ (by decide))
      have hP9 := hP.sub (ws' := [(m0, .inr (1, [.ref b1, .int (nI z), .ref b2, .ref b3, .ref b4, .ref b5, .ref b6])), (b5, .inl (d5, 17, .inr (.inl (ot_L g))))]) [0, 1] rfl
      have hD9 := hD.sub (ws' := [(m0, .inr (1, [.ref b1, .int (nI z), .ref b2, .ref b3, .ref b4, .ref b5, .ref b6])), (b5, .inl (d5, 17, .inr (.inl (ot_L g))))]) [0, 1] (by decide) rfl
      have hK9 := hK.sub (tys' := [(d5, .long)]) [0] rfl
      exact W.vret hx hb hr (fun t ht hW => ⟨⟨g, rfl, ot_red0 hdig hd16 hmod hp, by rw [ht]; exact hP9, va_K.moved hW.alike hK9, hD9⟩, hS.F ht⟩) hS.2.2 dX1_reduce_222
  have hg16 := hg 16 (by omega)
  refine lv_aload_n hx hb dX1_reduce_106 rfl (lv_at hl 0 rfl) ?_
  refine va_get (D := (dC, dI)) (ci := 1) (v := .ref b5) (C := RX1) (T := TX1) (N := 7) hx hb hts in_X1 hown hK hP 0 rfl rfl 5 (by decide) (hts _ q196) (fun _ h9 => h9) rfl dX1_reduce_107 ?_
  refine lv_bipush (v := nI 16) hx hb dX1_reduce_110 (by decide) ?_
  refine ot_lald (k := 16) hx hb hK hP 1 0 rfl rfl (by omega) (by omega) dX1_reduce_112 ?_
  refine ot_topl (lN (g 16)) (rfl) ?_
  refine lv_ldc2 (v := lN 3) hx hb hown (hts _ q252) dX1_reduce_113 ?_
  refine W.lcmp hx hb dX1_reduce_116 ?_
  refine lv_if_ne (tgt := 137) hx hb dX1_reduce_117 (by decide) (fun c1 => ?_) (fun c1 => ?_)
  · refine lv_iconst (v := nI 0) hx hb dX1_reduce_137 (by decide) ?_
    exact tl 0 (Or.inr ⟨rfl, fun q => c1 ((ot_cmp0 (by omega) (by omega)).mpr q.1)⟩)
  · refine lv_aload_n hx hb dX1_reduce_120 rfl (lv_at hl 0 rfl) ?_
    refine va_get (D := (dC, dI)) (ci := 1) (v := .ref b5) (C := RX1) (T := TX1) (N := 7) hx hb hts in_X1 hown hK hP 0 rfl rfl 5 (by decide) (hts _ q196) (fun _ h9 => h9) rfl dX1_reduce_121 ?_
    refine lv_iconst (v := nI 0) hx hb dX1_reduce_124 (by decide) ?_
    refine ot_lald (k := 0) hx hb hK hP 1 0 rfl rfl (by omega) (by omega) dX1_reduce_125 ?_
    refine ot_topl (lN (g 0)) (rfl) ?_
    refine lv_ldc2 (v := lN 251) hx hb hown (hts _ q254) dX1_reduce_126 ?_
    refine W.lcmp hx hb dX1_reduce_129 ?_
    refine lv_if_lt (tgt := 137) hx hb dX1_reduce_130 (by decide) (fun c2 => ?_) (fun c2 => ?_)
    · refine lv_iconst (v := nI 0) hx hb dX1_reduce_137 (by decide) ?_
      exact tl 0 (Or.inr ⟨rfl, fun q => absurd q.2.1 (by have := (ot_cmpn (by omega) (by omega)).mp c2; omega)⟩)
    · refine lv_iconst (v := nI 1) hx hb dX1_reduce_133 (by decide) ?_
      refine lv_goto (tgt := 138) hx hb dX1_reduce_134 (by decide) ?_
      exact tl 1 (Or.inl ⟨rfl, (ot_cmp0 (by omega) (by omega)).mp c1, by rcases Nat.lt_or_ge (g 0) 251 with q | q; exact absurd ((ot_cmpn (by omega) (by omega)).mpr q) c2; exact q, fun j q1 q2 => absurd q2 (by omega)⟩)
end
section
/-! OneTimeTagModel: tag, the loops that lay out the key -/
set_option maxHeartbeats 4000000 in
set_option maxRecDepth 100000 in
/-- h cleared, r laid -/
theorem lpX1_lay {p : Program} {l : Launch} {e : Env} {R : Room} {s : State} {m : MethodId} {args : Array Value} {below : List Frame} {meth : Method} {c : Code} {cells slots : Nat} {Q : State → Prop} {dC : Nat → ClassId} {dI : Nat → Nat → Nat} {A : Nat → Prop} (hx : p.tables.exec = Jvm.exec) (hb : c.code = cX1_tag) (hown : s.vm.findClass RX1 = some m.cls) (hts : ∀ w ∈ lw_all, w.before args s = true) {m0 b1 b2 b3 b4 b5 b6 z : Nat} {d1 d2 d3 d4 d5 d6 : ClassId} {ft : Nat → Int32} {gk gt : Nat → Nat} {gw : Nat → Nat} {ff cn : Nat} (hgk : ∀ j, j < 32 → gk j < 256) (hK : va_K (dC, dI) vwCl [(d1, .byte), (d2, .int), (d3, .int), (d4, .long), (d5, .long), (d6, .long)] s)
    (kk : ∀ (i : Nat) (gr : Nat → Nat) (gh : Nat → Nat), i = 17 → (∀ j, j < i → gh j = 0 ∧ gr j = if j < 16 then gk j else 0) → ∀ (H : Heap) (locs : List Loc), va_P (dC, dI) vwCl [(m0, .inr (1, [.ref b1, .int (nI z), .ref b2, .ref b3, .ref b4, .ref b5, .ref b6])), (b1, .inl (d1, 4096, .inl ft)), (b2, .inl (d2, 32, .inl (ot_I gk))), (b3, .inl (d3, 16, .inl (ot_I gt))), (b4, .inl (d4, 17, .inr (.inl (ot_L gr)))), (b5, .inl (d5, 17, .inr (.inl (ot_L gh)))), (b6, .inl (d6, 34, .inr (.inl (ot_L gw))))] H → va_D A [(m0, .inr (1, [.ref b1, .int (nI z), .ref b2, .ref b3, .ref b4, .ref b5, .ref b6])), (b1, .inl (d1, 4096, .inl ft)), (b2, .inl (d2, 32, .inl (ot_I gk))), (b3, .inl (d3, 16, .inl (ot_I gt))), (b4, .inl (d4, 17, .inr (.inl (ot_L gr)))), (b5, .inl (d5, 17, .inr (.inl (ot_L gh)))), (b6, .inl (d6, 34, .inr (.inl (ot_L gw))))] → va_S A s.heap H locs → ∀ (ls : Array Slot), lv_has ls 10 [(0, .ref m0), (3, .int (nI ff)), (4, .int (nI cn)), (5, .int (nI i))] → W p l e R s m args below meth c H locs cells slots Q (F0 m 64 ls [])) :
    ∀ (n i : Nat) (gr : Nat → Nat) (gh : Nat → Nat), n + i = 17 → (∀ j, j < i → gh j = 0 ∧ gr j = if j < 16 then gk j else 0) → ∀ (H : Heap) (locs : List Loc), va_P (dC, dI) vwCl [(m0, .inr (1, [.ref b1, .int (nI z), .ref b2, .ref b3, .ref b4, .ref b5, .ref b6])), (b1, .inl (d1, 4096, .inl ft)), (b2, .inl (d2, 32, .inl (ot_I gk))), (b3, .inl (d3, 16, .inl (ot_I gt))), (b4, .inl (d4, 17, .inr (.inl (ot_L gr)))), (b5, .inl (d5, 17, .inr (.inl (ot_L gh)))), (b6, .inl (d6, 34, .inr (.inl (ot_L gw))))] H → va_D A [(m0, .inr (1, [.ref b1, .int (nI z), .ref b2, .ref b3, .ref b4, .ref b5, .ref b6])), (b1, .inl (d1, 4096, .inl ft)), (b2, .inl (d2, 32, .inl (ot_I gk))), (b3, .inl (d3, 16, .inl (ot_I gt))), (b4, .inl (d4, 17, .inr (.inl (ot_L gr)))), (b5, .inl (d5, 17, .inr (.inl (ot_L gh)))), (b6, .inl (d6, 34, .inr (.inl (ot_L gw))))] → va_S A s.heap H locs → ∀ (ls : Array Slot), lv_has ls 10 [(0, .ref m0), (3, .int (nI ff)), (4, .int (nI cn)), (5, .int (nI i))] → W p l e R s m args below meth c H locs cells slots Q (F0 m 17 ls []) := by
  intro n
  induction n with
  | zero =>
    intro i gr gh hn_ h2 H locs hP hD hS ls hl
    refine lv_iload hx hb dX1_tag_17 (lv_at hl 3 rfl) ?_
    refine lv_bipush (v := nI 17) hx hb dX1_tag_19 (by decide) ?_
    refine lv_icmp_ge (tgt := 64) hx hb dX1_tag_21 (by decide) (fun c_ => ?_) (fun c_ => absurd c_ (not_not_intro (nI_le (by omega) (by omega))))
    exact kk i gr gh (by omega) h2 H locs hP hD hS ls (lv_sub hl [0, 1, 2, 3] rfl)
  | succ n ih =>
    intro i gr gh hn_ h2 H locs hP hD hS ls hl
    refine lv_iload hx hb dX1_tag_17 (lv_at hl 3 rfl) ?_
    refine lv_bipush (v := nI 17) hx hb dX1_tag_19 (by decide) ?_
    refine lv_icmp_ge (tgt := 64) hx hb dX1_tag_21 (by decide) (fun c_ => absurd c_ (nI_ge (by omega) (by omega))) (fun c_ => ?_)
    refine lv_aload_n hx hb dX1_tag_24 rfl (lv_at hl 0 rfl) ?_
    refine va_get (D := (dC, dI)) (ci := 1) (v := .ref b5) (C := RX1) (T := TX1) (N := 7) hx hb hts in_X1 hown hK hP 0 rfl rfl 5 (by decide) (hts _ q196) (fun _ h9 => h9) rfl dX1_tag_25 ?_
    refine lv_iload hx hb dX1_tag_28 (lv_at hl 3 rfl) ?_
    refine lv_lconst (v := lN 0) hx hb dX1_tag_30 rfl ?_
    refine ot_last (k := i) hx hb hK hP hD hS 5 4 rfl rfl (by omega) (by omega) dX1_tag_31 (fun F2 H locs eF2 hP hD hS => ?_)
    have hP : va_P (dC, dI) vwCl [(m0, .inr (1, [.ref b1, .int (nI z), .ref b2, .ref b3, .ref b4, .ref b5, .ref b6])), (b1, .inl (d1, 4096, .inl ft)), (b2, .inl (d2, 32, .inl (ot_I gk))), (b3, .inl (d3, 16, .inl (ot_I gt))), (b4, .inl (d4, 17, .inr (.inl (ot_L gr)))), (b5, .inl (d5, 17, .inr (.inl F2))), (b6, .inl (d6, 34, .inr (.inl (ot_L gw))))] H := hP
    have hD : va_D A [(m0, .inr (1, [.ref b1, .int (nI z), .ref b2, .ref b3, .ref b4, .ref b5, .ref b6])), (b1, .inl (d1, 4096, .inl ft)), (b2, .inl (d2, 32, .inl (ot_I gk))), (b3, .inl (d3, 16, .inl (ot_I gt))), (b4, .inl (d4, 17, .inr (.inl (ot_L gr)))), (b5, .inl (d5, 17, .inr (.inl F2))), (b6, .inl (d6, 34, .inr (.inl (ot_L gw))))] := hD
    rw [ot_L_upd] at eF2
    subst eF2
    refine lv_aload_n hx hb dX1_tag_32 rfl (lv_at hl 0 rfl) ?_
    refine va_get (D := (dC, dI)) (ci := 1) (v := .ref b4) (C := RX1) (T := TX1) (N := 7) hx hb hts in_X1 hown hK hP 0 rfl rfl 4 (by decide) (hts _ q195) (fun _ h9 => h9) rfl dX1_tag_33 ?_
    refine lv_iload hx hb dX1_tag_36 (lv_at hl 3 rfl) ?_
    refine lv_iload hx hb dX1_tag_38 (lv_at hl 3 rfl) ?_
    refine lv_bipush (v := nI 16) hx hb dX1_tag_40 (by decide) ?_
    refine lv_icmp_ge (tgt := 56) hx hb dX1_tag_42 (by decide) (fun c1 => ?_) (fun c1 => ?_)
    · have hi2 : 16 ≤ i := (nI_leI (by omega) (by omega)).mp c1
      refine lv_lconst (v := lN 0) hx hb dX1_tag_56 rfl ?_
      refine ot_last (k := i) hx hb hK hP hD hS 4 3 rfl rfl (by omega) (by omega) dX1_tag_57 (fun F3 H locs eF3 hP hD hS => ?_)
      have hP : va_P (dC, dI) vwCl [(m0, .inr (1, [.ref b1, .int (nI z), .ref b2, .ref b3, .ref b4, .ref b5, .ref b6])), (b1, .inl (d1, 4096, .inl ft)), (b2, .inl (d2, 32, .inl (ot_I gk))), (b3, .inl (d3, 16, .inl (ot_I gt))), (b4, .inl (d4, 17, .inr (.inl F3))), (b5, .inl (d5, 17, .inr (.inl (ot_L (ot_u gh i 0))))), (b6, .inl (d6, 34, .inr (.inl (ot_L gw))))] H := hP
      have hD : va_D A [(m0, .inr (1, [.ref b1, .int (nI z), .ref b2, .ref b3, .ref b4, .ref b5, .ref b6])), (b1, .inl (d1, 4096, .inl ft)), (b2, .inl (d2, 32, .inl (ot_I gk))), (b3, .inl (d3, 16, .inl (ot_I gt))), (b4, .inl (d4, 17, .inr (.inl F3))), (b5, .inl (d5, 17, .inr (.inl (ot_L (ot_u gh i 0))))), (b6, .inl (d6, 34, .inr (.inl (ot_L gw))))] := hD
      rw [ot_L_upd] at eF3
      subst eF3
      refine lv_iinc (v := nI (i + 1)) (lv' := [(5, .int (nI (i + 1))), (0, .ref m0), (3, .int (nI ff)), (4, .int (nI cn))]) hx hb dX1_tag_58 hl (k := 3) rfl (ot_inc _ _) (by decide) rfl (fun ls hl => ?_)
      refine lv_goto (tgt := 17) hx hb dX1_tag_61 (by decide) ?_
      refine ih (i + 1) (ot_u gr i 0) (ot_u gh i 0) (by omega) (fun j hj => ?_) H locs hP hD hS ls (lv_sub hl [1, 2, 3, 0] rfl)
      unfold ot_u
      by_cases hji : j = i
      · subst hji; rw [if_pos rfl, if_pos rfl]; refine ⟨rfl, ?_⟩; split <;> first | rfl | omega
      · rw [if_neg hji, if_neg hji]; exact h2 j (by omega)
    · have hi2 : i < 16 := by rcases Nat.lt_or_ge i 16 with q | q; exact q; exact absurd (nI_le q (by omega)) c1
      have hki := hgk i (by omega)
      refine lv_aload_n hx hb dX1_tag_45 rfl (lv_at hl 0 rfl) ?_
      refine va_get (D := (dC, dI)) (ci := 1) (v := .ref b2) (C := RX1) (T := TX1) (N := 7) hx hb hts in_X1 hown hK hP 0 rfl rfl 2 (by decide) (hts _ q193) (fun _ h9 => h9) rfl dX1_tag_46 ?_
      refine lv_iload hx hb dX1_tag_49 (lv_at hl 3 rfl) ?_
      refine ot_iald (k := i) hx hb hK hP 2 1 rfl rfl (by omega) (by omega) dX1_tag_51 ?_
      refine ot_topi (nI (gk i)) (rfl) ?_
      refine lv_i2l hx hb dX1_tag_52 rfl ?_
      refine ot_topl (lN (gk i)) (nI_l (by omega)) ?_
      refine lv_goto (tgt := 57) hx hb dX1_tag_53 (by decide) ?_
      refine ot_last (k := i) hx hb hK hP hD hS 4 3 rfl rfl (by omega) (by omega) dX1_tag_57 (fun F3 H locs eF3 hP hD hS => ?_)
      have hP : va_P (dC, dI) vwCl [(m0, .inr (1, [.ref b1, .int (nI z), .ref b2, .ref b3, .ref b4, .ref b5, .ref b6])), (b1, .inl (d1, 4096, .inl ft)), (b2, .inl (d2, 32, .inl (ot_I gk))), (b3, .inl (d3, 16, .inl (ot_I gt))), (b4, .inl (d4, 17, .inr (.inl F3))), (b5, .inl (d5, 17, .inr (.inl (ot_L (ot_u gh i 0))))), (b6, .inl (d6, 34, .inr (.inl (ot_L gw))))] H := hP
      have hD : va_D A [(m0, .inr (1, [.ref b1, .int (nI z), .ref b2, .ref b3, .ref b4, .ref b5, .ref b6])), (b1, .inl (d1, 4096, .inl ft)), (b2, .inl (d2, 32, .inl (ot_I gk))), (b3, .inl (d3, 16, .inl (ot_I gt))), (b4, .inl (d4, 17, .inr (.inl F3))), (b5, .inl (d5, 17, .inr (.inl (ot_L (ot_u gh i 0))))), (b6, .inl (d6, 34, .inr (.inl (ot_L gw))))] := hD
      rw [ot_L_upd] at eF3
      subst eF3
      refine lv_iinc (v := nI (i + 1)) (lv' := [(5, .int (nI (i + 1))), (0, .ref m0), (3, .int (nI ff)), (4, .int (nI cn))]) hx hb dX1_tag_58 hl (k := 3) rfl (ot_inc _ _) (by decide) rfl (fun ls hl => ?_)
      refine lv_goto (tgt := 17) hx hb dX1_tag_61 (by decide) ?_
      refine ih (i + 1) (ot_u gr i (gk i)) (ot_u gh i 0) (by omega) (fun j hj => ?_) H locs hP hD hS ls (lv_sub hl [1, 2, 3, 0] rfl)
      unfold ot_u
      by_cases hji : j = i
      · subst hji; rw [if_pos rfl, if_pos rfl]; refine ⟨rfl, ?_⟩; split <;> first | rfl | omega
      · rw [if_neg hji, if_neg hji]; exact h2 j (by omega)
set_option maxHeartbeats 4000000 in
set_option maxRecDepth 100000 in
/-- every fourth byte of r cut to 4 bits -/
theorem lpX1_cl1 {p : Program} {l : Launch} {e : Env} {R : Room} {s : State} {m : MethodId} {args : Array Value} {below : List Frame} {meth : Method} {c : Code} {cells slots : Nat} {Q : State → Prop} {dC : Nat → ClassId} {dI : Nat → Nat → Nat} {A : Nat → Prop} (hx : p.tables.exec = Jvm.exec) (hb : c.code = cX1_tag) (hown : s.vm.findClass RX1 = some m.cls) (hts : ∀ w ∈ lw_all, w.before args s = true) {m0 b1 b2 b3 b4 b5 b6 z : Nat} {d1 d2 d3 d4 d5 d6 : ClassId} {ft : Nat → Int32} {gk gt : Nat → Nat} {gh gw : Nat → Nat} {ff cn : Nat} (g0 : Nat → Nat) (hK : va_K (dC, dI) vwCl [(d1, .byte), (d2, .int), (d3, .int), (d4, .long), (d5, .long), (d6, .long)] s)
    (kk : ∀ (i : Nat) (gr : Nat → Nat), i = 4 → (∀ j, j < 17 → gr j = if j % 4 = 3 ∧ j < 3 + 4 * i then g0 j % 16 else g0 j) → ∀ (H : Heap) (locs : List Loc), va_P (dC, dI) vwCl [(m0, .inr (1, [.ref b1, .int (nI z), .ref b2, .ref b3, .ref b4, .ref b5, .ref b6])), (b1, .inl (d1, 4096, .inl ft)), (b2, .inl (d2, 32, .inl (ot_I gk))), (b3, .inl (d3, 16, .inl (ot_I gt))), (b4, .inl (d4, 17, .inr (.inl (ot_L gr)))), (b5, .inl (d5, 17, .inr (.inl (ot_L gh)))), (b6, .inl (d6, 34, .inr (.inl (ot_L gw))))] H → va_D A [(m0, .inr (1, [.ref b1, .int (nI z), .ref b2, .ref b3, .ref b4, .ref b5, .ref b6])), (b1, .inl (d1, 4096, .inl ft)), (b2, .inl (d2, 32, .inl (ot_I gk))), (b3, .inl (d3, 16, .inl (ot_I gt))), (b4, .inl (d4, 17, .inr (.inl (ot_L gr)))), (b5, .inl (d5, 17, .inr (.inl (ot_L gh)))), (b6, .inl (d6, 34, .inr (.inl (ot_L gw))))] → va_S A s.heap H locs → ∀ (ls : Array Slot), lv_has ls 10 [(0, .ref m0), (3, .int (nI ff)), (4, .int (nI cn)), (5, .int (nI (3 + 4 * i)))] → W p l e R s m args below meth c H locs cells slots Q (F0 m 101 ls [])) :
    ∀ (n i : Nat) (gr : Nat → Nat), n + i = 4 → (∀ j, j < 17 → gr j = if j % 4 = 3 ∧ j < 3 + 4 * i then g0 j % 16 else g0 j) → ∀ (H : Heap) (locs : List Loc), va_P (dC, dI) vwCl [(m0, .inr (1, [.ref b1, .int (nI z), .ref b2, .ref b3, .ref b4, .ref b5, .ref b6])), (b1, .inl (d1, 4096, .inl ft)), (b2, .inl (d2, 32, .inl (ot_I gk))), (b3, .inl (d3, 16, .inl (ot_I gt))), (b4, .inl (d4, 17, .inr (.inl (ot_L gr)))), (b5, .inl (d5, 17, .inr (.inl (ot_L gh)))), (b6, .inl (d6, 34, .inr (.inl (ot_L gw))))] H → va_D A [(m0, .inr (1, [.ref b1, .int (nI z), .ref b2, .ref b3, .ref b4, .ref b5, .ref b6])), (b1, .inl (d1, 4096, .inl ft)), (b2, .inl (d2, 32, .inl (ot_I gk))), (b3, .inl (d3, 16, .inl (ot_I gt))), (b4, .inl (d4, 17, .inr (.inl (ot_L gr)))), (b5, .inl (d5, 17, .inr (.inl (ot_L gh)))), (b6, .inl (d6, 34, .inr (.inl (ot_L gw))))] → va_S A s.heap H locs → ∀ (ls : Array Slot), lv_has ls 10 [(0, .ref m0), (3, .int (nI ff)), (4, .int (nI cn)), (5, .int (nI (3 + 4 * i)))] → W p l e R s m args below meth c H locs cells slots Q (F0 m 67 ls []) := by
  intro n
  induction n with
  | zero =>
    intro i gr hn_ h2 H locs hP hD hS ls hl
    refine lv_iload hx hb dX1_tag_67 (lv_at hl 3 rfl) ?_
    refine lv_bipush (v := nI 16) hx hb dX1_tag_69 (by decide) ?_
    refine lv_icmp_ge (tgt := 101) hx hb dX1_tag_71 (by decide) (fun c_ => ?_) (fun c_ => absurd c_ (not_not_intro (nI_le (by omega) (by omega))))
    exact kk i gr (by omega) h2 H locs hP hD hS ls (lv_sub hl [0, 1, 2, 3] rfl)
  | succ n ih =>
    intro i gr hn_ h2 H locs hP hD hS ls hl
    refine lv_iload hx hb dX1_tag_67 (lv_at hl 3 rfl) ?_
    refine lv_bipush (v := nI 16) hx hb dX1_tag_69 (by decide) ?_
    refine lv_icmp_ge (tgt := 101) hx hb dX1_tag_71 (by decide) (fun c_ => absurd c_ (nI_ge (by omega) (by omega))) (fun c_ => ?_)
    refine lv_aload_n hx hb dX1_tag_74 rfl (lv_at hl 0 rfl) ?_
    refine va_get (D := (dC, dI)) (ci := 1) (v := .ref b4) (C := RX1) (T := TX1) (N := 7) hx hb hts in_X1 hown hK hP 0 rfl rfl 4 (by decide) (hts _ q195) (fun _ h9 => h9) rfl dX1_tag_75 ?_
    refine lv_iload hx hb dX1_tag_78 (lv_at hl 3 rfl) ?_
    refine lv_aload_n hx hb dX1_tag_80 rfl (lv_at hl 0 rfl) ?_
    refine va_get (D := (dC, dI)) (ci := 1) (v := .ref b4) (C := RX1) (T := TX1) (N := 7) hx hb hts in_X1 hown hK hP 0 rfl rfl 4 (by decide) (hts _ q195) (fun _ h9 => h9) rfl dX1_tag_81 ?_
    refine lv_iload hx hb dX1_tag_84 (lv_at hl 3 rfl) ?_
    refine ot_lald (k := (3 + 4 * i)) hx hb hK hP 4 3 rfl rfl (by omega) (by omega) dX1_tag_86 ?_
    refine ot_topl (lN (gr (3 + 4 * i))) (rfl) ?_
    refine lv_ldc2 (v := lN 15) hx hb hown (hts _ q244) dX1_tag_87 ?_
    refine lv_land hx hb dX1_tag_90 ?_
    refine ot_topl (lN ((gr (3 + 4 * i)) % 2 ^ 4)) (fb_maskL _ 4) ?_
    refine ot_last (k := (3 + 4 * i)) hx hb hK hP hD hS 4 3 rfl rfl (by omega) (by omega) dX1_tag_91 (fun F2 H locs eF2 hP hD hS => ?_)
    have hP : va_P (dC, dI) vwCl [(m0, .inr (1, [.ref b1, .int (nI z), .ref b2, .ref b3, .ref b4, .ref b5, .ref b6])), (b1, .inl (d1, 4096, .inl ft)), (b2, .inl (d2, 32, .inl (ot_I gk))), (b3, .inl (d3, 16, .inl (ot_I gt))), (b4, .inl (d4, 17, .inr (.inl F2))), (b5, .inl (d5, 17, .inr (.inl (ot_L gh)))), (b6, .inl (d6, 34, .inr (.inl (ot_L gw))))] H := hP
    have hD : va_D A [(m0, .inr (1, [.ref b1, .int (nI z), .ref b2, .ref b3, .ref b4, .ref b5, .ref b6])), (b1, .inl (d1, 4096, .inl ft)), (b2, .inl (d2, 32, .inl (ot_I gk))), (b3, .inl (d3, 16, .inl (ot_I gt))), (b4, .inl (d4, 17, .inr (.inl F2))), (b5, .inl (d5, 17, .inr (.inl (ot_L gh)))), (b6, .inl (d6, 34, .inr (.inl (ot_L gw))))] := hD
    rw [ot_L_upd] at eF2
    subst eF2
    refine lv_iload hx hb dX1_tag_92 (lv_at hl 3 rfl) ?_
    refine lv_iconst (v := nI 4) hx hb dX1_tag_94 (by decide) ?_
    refine lv_iadd hx hb dX1_tag_95 ?_
    refine ot_topi (nI (3 + 4 * (i + 1))) (nI_add (3 + 4 * i) 4) ?_
    refine lv_istore (lv' := [(5, .int (nI (3 + 4 * (i + 1)))), (0, .ref m0), (3, .int (nI ff)), (4, .int (nI cn))]) hx hb dX1_tag_96 hl (by decide) rfl (fun ls hl => ?_)
    refine lv_goto (tgt := 67) hx hb dX1_tag_98 (by decide) ?_
    refine ih (i + 1) (ot_u gr (3 + 4 * i) (gr (3 + 4 * i) % 2 ^ 4)) (by omega) (fun j hj => ?_) H locs hP hD hS ls (lv_sub hl [1, 2, 3, 0] rfl)
    unfold ot_u
    by_cases hji : j = 3 + 4 * i
    · subst hji; rw [if_pos rfl, h2 _ hj, if_neg (by omega), if_pos (by omega)]
    · rw [if_neg hji, h2 j hj]; (repeat' split) <;> first | rfl | omega
set_option maxHeartbeats 4000000 in
set_option maxRecDepth 100000 in
/-- every fourth byte of r without its last 2 bits -/
theorem lpX1_cl2 {p : Program} {l : Launch} {e : Env} {R : Room} {s : State} {m : MethodId} {args : Array Value} {below : List Frame} {meth : Method} {c : Code} {cells slots : Nat} {Q : State → Prop} {dC : Nat → ClassId} {dI : Nat → Nat → Nat} {A : Nat → Prop} (hx : p.tables.exec = Jvm.exec) (hb : c.code = cX1_tag) (hown : s.vm.findClass RX1 = some m.cls) (hts : ∀ w ∈ lw_all, w.before args s = true) {m0 b1 b2 b3 b4 b5 b6 z : Nat} {d1 d2 d3 d4 d5 d6 : ClassId} {ft : Nat → Int32} {gk gt : Nat → Nat} {gh gw : Nat → Nat} {ff cn : Nat} (g0 : Nat → Nat) (hg0 : ∀ j, j < 17 → g0 j < 256) (hK : va_K (dC, dI) vwCl [(d1, .byte), (d2, .int), (d3, .int), (d4, .long), (d5, .long), (d6, .long)] s)
    (kk : ∀ (i : Nat) (gr : Nat → Nat), i = 3 → (∀ j, j < 17 → gr j = if j % 4 = 0 ∧ 0 < j ∧ j < 4 + 4 * i then g0 j / 4 * 4 else g0 j) → ∀ (H : Heap) (locs : List Loc), va_P (dC, dI) vwCl [(m0, .inr (1, [.ref b1, .int (nI z), .ref b2, .ref b3, .ref b4, .ref b5, .ref b6])), (b1, .inl (d1, 4096, .inl ft)), (b2, .inl (d2, 32, .inl (ot_I gk))), (b3, .inl (d3, 16, .inl (ot_I gt))), (b4, .inl (d4, 17, .inr (.inl (ot_L gr)))), (b5, .inl (d5, 17, .inr (.inl (ot_L gh)))), (b6, .inl (d6, 34, .inr (.inl (ot_L gw))))] H → va_D A [(m0, .inr (1, [.ref b1, .int (nI z), .ref b2, .ref b3, .ref b4, .ref b5, .ref b6])), (b1, .inl (d1, 4096, .inl ft)), (b2, .inl (d2, 32, .inl (ot_I gk))), (b3, .inl (d3, 16, .inl (ot_I gt))), (b4, .inl (d4, 17, .inr (.inl (ot_L gr)))), (b5, .inl (d5, 17, .inr (.inl (ot_L gh)))), (b6, .inl (d6, 34, .inr (.inl (ot_L gw))))] → va_S A s.heap H locs → ∀ (ls : Array Slot), lv_has ls 10 [(0, .ref m0), (3, .int (nI ff)), (4, .int (nI cn)), (5, .int (nI (4 + 4 * i)))] → W p l e R s m args below meth c H locs cells slots Q (F0 m 138 ls [])) :
    ∀ (n i : Nat) (gr : Nat → Nat), n + i = 3 → (∀ j, j < 17 → gr j = if j % 4 = 0 ∧ 0 < j ∧ j < 4 + 4 * i then g0 j / 4 * 4 else g0 j) → ∀ (H : Heap) (locs : List Loc), va_P (dC, dI) vwCl [(m0, .inr (1, [.ref b1, .int (nI z), .ref b2, .ref b3, .ref b4, .ref b5, .ref b6])), (b1, .inl (d1, 4096, .inl ft)), (b2, .inl (d2, 32, .inl (ot_I gk))), (b3, .inl (d3, 16, .inl (ot_I gt))), (b4, .inl (d4, 17, .inr (.inl (ot_L gr)))), (b5, .inl (d5, 17, .inr (.inl (ot_L gh)))), (b6, .inl (d6, 34, .inr (.inl (ot_L gw))))] H → va_D A [(m0, .inr (1, [.ref b1, .int (nI z), .ref b2, .ref b3, .ref b4, .ref b5, .ref b6])), (b1, .inl (d1, 4096, .inl ft)), (b2, .inl (d2, 32, .inl (ot_I gk))), (b3, .inl (d3, 16, .inl (ot_I gt))), (b4, .inl (d4, 17, .inr (.inl (ot_L gr)))), (b5, .inl (d5, 17, .inr (.inl (ot_L gh)))), (b6, .inl (d6, 34, .inr (.inl (ot_L gw))))] → va_S A s.heap H locs → ∀ (ls : Array Slot), lv_has ls 10 [(0, .ref m0), (3, .int (nI ff)), (4, .int (nI cn)), (5, .int (nI (4 + 4 * i)))] → W p l e R s m args below meth c H locs cells slots Q (F0 m 104 ls []) := by
  intro n
  induction n with
  | zero =>
    intro i gr hn_ h2 H locs hP hD hS ls hl
    refine lv_iload hx hb dX1_tag_104 (lv_at hl 3 rfl) ?_
    refine lv_bipush (v := nI 16) hx hb dX1_tag_106 (by decide) ?_
    refine lv_icmp_ge (tgt := 138) hx hb dX1_tag_108 (by decide) (fun c_ => ?_) (fun c_ => absurd c_ (not_not_intro (nI_le (by omega) (by omega))))
    exact kk i gr (by omega) h2 H locs hP hD hS ls (lv_sub hl [0, 1, 2, 3] rfl)
  | succ n ih =>
    intro i gr hn_ h2 H locs hP hD hS ls hl
    refine lv_iload hx hb dX1_tag_104 (lv_at hl 3 rfl) ?_
    refine lv_bipush (v := nI 16) hx hb dX1_tag_106 (by decide) ?_
    refine lv_icmp_ge (tgt := 138) hx hb dX1_tag_108 (by decide) (fun c_ => absurd c_ (nI_ge (by omega) (by omega))) (fun c_ => ?_)
    have hgi : gr (4 + 4 * i) < 256 := by rw [h2 _ (by omega), if_neg (by omega)]; exact hg0 _ (by omega)
    refine lv_aload_n hx hb dX1_tag_111 rfl (lv_at hl 0 rfl) ?_
    refine va_get (D := (dC, dI)) (ci := 1) (v := .ref b4) (C := RX1) (T := TX1) (N := 7) hx hb hts in_X1 hown hK hP 0 rfl rfl 4 (by decide) (hts _ q195) (fun _ h9 => h9) rfl dX1_tag_112 ?_
    refine lv_iload hx hb dX1_tag_115 (lv_at hl 3 rfl) ?_
    refine lv_aload_n hx hb dX1_tag_117 rfl (lv_at hl 0 rfl) ?_
    refine va_get (D := (dC, dI)) (ci := 1) (v := .ref b4) (C := RX1) (T := TX1) (N := 7) hx hb hts in_X1 hown hK hP 0 rfl rfl 4 (by decide) (hts _ q195) (fun _ h9 => h9) rfl dX1_tag_118 ?_
    refine lv_iload hx hb dX1_tag_121 (lv_at hl 3 rfl) ?_
    refine ot_lald (k := (4 + 4 * i)) hx hb hK hP 4 3 rfl rfl (by omega) (by omega) dX1_tag_123 ?_
    refine ot_topl (lN (gr (4 + 4 * i))) (rfl) ?_
    refine lv_ldc2 (v := lN 252) hx hb hown (hts _ q245) dX1_tag_124 ?_
    refine lv_land hx hb dX1_tag_127 ?_
    refine ot_topl (lN (gr (4 + 4 * i) / 4 * 4)) (by rw [fb_andL, ot_mask_252 hgi]) ?_
    refine ot_last (k := (4 + 4 * i)) hx hb hK hP hD hS 4 3 rfl rfl (by omega) (by omega) dX1_tag_128 (fun F2 H locs eF2 hP hD hS => ?_)
    have hP : va_P (dC, dI) vwCl [(m0, .inr (1, [.ref b1, .int (nI z), .ref b2, .ref b3, .ref b4, .ref b5, .ref b6])), (b1, .inl (d1, 4096, .inl ft)), (b2, .inl (d2, 32, .inl (ot_I gk))), (b3, .inl (d3, 16, .inl (ot_I gt))), (b4, .inl (d4, 17, .inr (.inl F2))), (b5, .inl (d5, 17, .inr (.inl (ot_L gh)))), (b6, .inl (d6, 34, .inr (.inl (ot_L gw))))] H := hP
    have hD : va_D A [(m0, .inr (1, [.ref b1, .int (nI z), .ref b2, .ref b3, .ref b4, .ref b5, .ref b6])), (b1, .inl (d1, 4096, .inl ft)), (b2, .inl (d2, 32, .inl (ot_I gk))), (b3, .inl (d3, 16, .inl (ot_I gt))), (b4, .inl (d4, 17, .inr (.inl F2))), (b5, .inl (d5, 17, .inr (.inl (ot_L gh)))), (b6, .inl (d6, 34, .inr (.inl (ot_L gw))))] := hD
    rw [ot_L_upd] at eF2
    subst eF2
    refine lv_iload hx hb dX1_tag_129 (lv_at hl 3 rfl) ?_
    refine lv_iconst (v := nI 4) hx hb dX1_tag_131 (by decide) ?_
    refine lv_iadd hx hb dX1_tag_132 ?_
    refine ot_topi (nI (4 + 4 * (i + 1))) (nI_add (4 + 4 * i) 4) ?_
    refine lv_istore (lv' := [(5, .int (nI (4 + 4 * (i + 1)))), (0, .ref m0), (3, .int (nI ff)), (4, .int (nI cn))]) hx hb dX1_tag_133 hl (by decide) rfl (fun ls hl => ?_)
    refine lv_goto (tgt := 104) hx hb dX1_tag_135 (by decide) ?_
    refine ih (i + 1) (ot_u gr (4 + 4 * i) (gr (4 + 4 * i) / 4 * 4)) (by omega) (fun j hj => ?_) H locs hP hD hS ls (lv_sub hl [1, 2, 3, 0] rfl)
    unfold ot_u
    by_cases hji : j = 4 + 4 * i
    · subst hji; rw [if_pos rfl, h2 _ hj, if_neg (by omega), if_pos (by omega)]
    · rw [if_neg hji, h2 j hj]; (repeat' split) <;> first | rfl | omega
end
section
/-! OneTimeTagModel: tag, the loops of a block -/
theorem ot_dv_split (g : Nat → Nat) (n : Nat) : ∀ k, ot_dv g (n + k) = ot_dv g n + 256 ^ n * ot_dv (fun j => g (j + n)) k
  | 0 => by simp [ot_dv]
  | k + 1 => by
    rw [← Nat.add_assoc, ot_dv, ot_dv, ot_dv_split g n k, Nat.mul_add, Nat.pow_add, Nat.add_comm k n]
    rw [Nat.mul_left_comm (256 ^ n) (g (n + k)) (256 ^ k)]
    omega
theorem ot_dv_lin (a b : Nat → Nat) (q : Nat) : ∀ n, ot_dv (fun j => a j + q * b j) n = ot_dv a n + q * ot_dv b n
  | 0 => by simp [ot_dv]
  | n + 1 => by
    rw [ot_dv, ot_dv, ot_dv, ot_dv_lin a b q n, Nat.add_mul, Nat.mul_add, Nat.mul_assoc]
    omega
theorem ot_dv_le {g : Nat → Nat} {B : Nat} : ∀ {n : Nat}, (∀ k, k < n → g k ≤ B) → ot_dv g n ≤ B * 256 ^ n
  | 0, _ => Nat.zero_le _
  | n + 1, h => by
    have h1 := ot_dv_le (fun k hk => h k (by omega) : ∀ k, k < n → g k ≤ B)
    have h2 : g n * 256 ^ n ≤ B * 256 ^ n := Nat.mul_le_mul_right _ (h n (by omega))
    rw [ot_dv, Nat.pow_succ, ← Nat.mul_assoc]
    omega
theorem ot_fold17 {gh gw : Nat → Nat} (h : ∀ j, j < 17 → gh j = gw j + 320 * gw (j + 17)) : ot_dv gh 17 % ot_pp = ot_dv gw 34 % ot_pp := by
  have e1 : ot_dv gh 17 = ot_dv gw 17 + 320 * ot_dv (fun j => gw (j + 17)) 17 := by
    rw [← ot_dv_lin]
    exact ot_dv_cong h
  have e2 : ot_dv gw 34 = ot_dv gw 17 + 256 ^ 17 * ot_dv (fun j => gw (j + 17)) 17 := ot_dv_split gw 17 17
  generalize ot_dv (fun j => gw (j + 17)) 17 = Z at e1 e2
  have e3 : ot_dv gw 34 = ot_dv gh 17 + ot_pp * (64 * Z) := by
    rw [e1, e2]
    unfold ot_pp
    simp only [Nat.reducePow]
    omega
  rw [e3, Nat.add_mul_mod_self_left]
def ot_B : Nat := 131072
theorem ot_dv_succ (g : Nat → Nat) (n : Nat) : ot_dv g (n + 1) = ot_dv g n + g n * 256 ^ n := rfl
theorem ot_cell {h r P T : Nat} : h * r * (P * T) = h * P * (r * T) := Nat.mul_mul_mul_comm h r P T
set_option maxHeartbeats 4000000 in
set_option maxRecDepth 100000 in
/-- a block added to h -/
theorem lpX1_addb {p : Program} {l : Launch} {e : Env} {R : Room} {s : State} {m : MethodId} {args : Array Value} {below : List Frame} {meth : Method} {c : Code} {cells slots : Nat} {Q : State → Prop} {dC : Nat → ClassId} {dI : Nat → Nat → Nat} {A : Nat → Prop} (hx : p.tables.exec = Jvm.exec) (hb : c.code = cX1_tag) (hown : s.vm.findClass RX1 = some m.cls) (hts : ∀ w ∈ lw_all, w.before args s = true) {m0 b1 b2 b3 b4 b5 b6 z : Nat} {d1 d2 d3 d4 d5 d6 : ClassId} {ft : Nat → Int32} {gk gt : Nat → Nat} {gr gw : Nat → Nat} {ff cn t mm : Nat} (hmm : mm ≤ 16) (hfm : ff + 16 * t + mm ≤ 4096) (h0 : Nat → Nat) (hK : va_K (dC, dI) vwCl [(d1, .byte), (d2, .int), (d3, .int), (d4, .long), (d5, .long), (d6, .long)] s)
    (kk : ∀ (i : Nat) (gh : Nat → Nat), i = mm → (∀ j, j < 17 → gh j = if j < i then h0 j + ot_b (ft (ff + (16 * t + j))) else h0 j) → ∀ (H : Heap) (locs : List Loc), va_P (dC, dI) vwCl [(m0, .inr (1, [.ref b1, .int (nI z), .ref b2, .ref b3, .ref b4, .ref b5, .ref b6])), (b1, .inl (d1, 4096, .inl ft)), (b2, .inl (d2, 32, .inl (ot_I gk))), (b3, .inl (d3, 16, .inl (ot_I gt))), (b4, .inl (d4, 17, .inr (.inl (ot_L gr)))), (b5, .inl (d5, 17, .inr (.inl (ot_L gh)))), (b6, .inl (d6, 34, .inr (.inl (ot_L gw))))] H → va_D A [(m0, .inr (1, [.ref b1, .int (nI z), .ref b2, .ref b3, .ref b4, .ref b5, .ref b6])), (b1, .inl (d1, 4096, .inl ft)), (b2, .inl (d2, 32, .inl (ot_I gk))), (b3, .inl (d3, 16, .inl (ot_I gt))), (b4, .inl (d4, 17, .inr (.inl (ot_L gr)))), (b5, .inl (d5, 17, .inr (.inl (ot_L gh)))), (b6, .inl (d6, 34, .inr (.inl (ot_L gw))))] → va_S A s.heap H locs → ∀ (ls : Array Slot), lv_has ls 10 [(0, .ref m0), (3, .int (nI ff)), (4, .int (nI cn)), (5, .int (nI (16 * t))), (6, .int (nI mm)), (7, .int (nI i))] → W p l e R s m args below meth c H locs cells slots Q (F0 m 218 ls [])) :
    ∀ (n i : Nat) (gh : Nat → Nat), n + i = mm → (∀ j, j < 17 → gh j = if j < i then h0 j + ot_b (ft (ff + (16 * t + j))) else h0 j) → ∀ (H : Heap) (locs : List Loc), va_P (dC, dI) vwCl [(m0, .inr (1, [.ref b1, .int (nI z), .ref b2, .ref b3, .ref b4, .ref b5, .ref b6])), (b1, .inl (d1, 4096, .inl ft)), (b2, .inl (d2, 32, .inl (ot_I gk))), (b3, .inl (d3, 16, .inl (ot_I gt))), (b4, .inl (d4, 17, .inr (.inl (ot_L gr)))), (b5, .inl (d5, 17, .inr (.inl (ot_L gh)))), (b6, .inl (d6, 34, .inr (.inl (ot_L gw))))] H → va_D A [(m0, .inr (1, [.ref b1, .int (nI z), .ref b2, .ref b3, .ref b4, .ref b5, .ref b6])), (b1, .inl (d1, 4096, .inl ft)), (b2, .inl (d2, 32, .inl (ot_I gk))), (b3, .inl (d3, 16, .inl (ot_I gt))), (b4, .inl (d4, 17, .inr (.inl (ot_L gr)))), (b5, .inl (d5, 17, .inr (.inl (ot_L gh)))), (b6, .inl (d6, 34, .inr (.inl (ot_L gw))))] → va_S A s.heap H locs → ∀ (ls : Array Slot), lv_has ls 10 [(0, .ref m0), (3, .int (nI ff)), (4, .int (nI cn)), (5, .int (nI (16 * t))), (6, .int (nI mm)), (7, .int (nI i))] → W p l e R s m args below meth c H locs cells slots Q (F0 m 173 ls []) := by
  intro n
  induction n with
  | zero =>
    intro i gh hn_ h2 H locs hP hD hS ls hl
    refine lv_iload hx hb dX1_tag_173 (lv_at hl 5 rfl) ?_
    refine lv_iload hx hb dX1_tag_175 (lv_at hl 4 rfl) ?_
    refine lv_icmp_ge (tgt := 218) hx hb dX1_tag_177 (by decide) (fun c_ => ?_) (fun c_ => absurd c_ (not_not_intro (nI_le (by omega) (by omega))))
    exact kk i gh (by omega) h2 H locs hP hD hS ls (lv_sub hl [0, 1, 2, 3, 4, 5] rfl)
  | succ n ih =>
    intro i gh hn_ h2 H locs hP hD hS ls hl
    refine lv_iload hx hb dX1_tag_173 (lv_at hl 5 rfl) ?_
    refine lv_iload hx hb dX1_tag_175 (lv_at hl 4 rfl) ?_
    refine lv_icmp_ge (tgt := 218) hx hb dX1_tag_177 (by decide) (fun c_ => absurd c_ (nI_ge (by omega) (by omega))) (fun c_ => ?_)
    have hbl := ot_b_lt (ft (ff + (16 * t + i)))
    refine lv_aload_n hx hb dX1_tag_180 rfl (lv_at hl 0 rfl) ?_
    refine va_get (D := (dC, dI)) (ci := 1) (v := .ref b5) (C := RX1) (T := TX1) (N := 7) hx hb hts in_X1 hown hK hP 0 rfl rfl 5 (by decide) (hts _ q196) (fun _ h9 => h9) rfl dX1_tag_181 ?_
    refine lv_iload hx hb dX1_tag_184 (lv_at hl 5 rfl) ?_
    refine lv_aload_n hx hb dX1_tag_186 rfl (lv_at hl 0 rfl) ?_
    refine va_get (D := (dC, dI)) (ci := 1) (v := .ref b5) (C := RX1) (T := TX1) (N := 7) hx hb hts in_X1 hown hK hP 0 rfl rfl 5 (by decide) (hts _ q196) (fun _ h9 => h9) rfl dX1_tag_187 ?_
    refine lv_iload hx hb dX1_tag_190 (lv_at hl 5 rfl) ?_
    refine ot_lald (k := i) hx hb hK hP 5 4 rfl rfl (by omega) (by omega) dX1_tag_192 ?_
    refine ot_topl (lN (gh i)) (rfl) ?_
    refine lv_aload_n hx hb dX1_tag_193 rfl (lv_at hl 0 rfl) ?_
    refine va_get (D := (dC, dI)) (ci := 1) (v := .ref b1) (C := RX1) (T := TX1) (N := 7) hx hb hts in_X1 hown hK hP 0 rfl rfl 0 (by decide) (hts _ q191) (fun _ h9 => h9) rfl dX1_tag_194 ?_
    refine lv_iload_n hx hb dX1_tag_197 rfl (lv_at hl 1 rfl) ?_
    refine lv_iload hx hb dX1_tag_198 (lv_at hl 3 rfl) ?_
    refine lv_iadd hx hb dX1_tag_200 ?_
    refine ot_topi (nI (ff + 16 * t)) (nI_add _ _) ?_
    refine lv_iload hx hb dX1_tag_201 (lv_at hl 5 rfl) ?_
    refine lv_iadd hx hb dX1_tag_203 ?_
    refine ot_topi (nI (ff + (16 * t + i))) ((nI_add _ _).trans (congrArg nI (by omega))) ?_
    refine ot_bald (k := (ff + (16 * t + i))) hx hb hK hP 1 0 rfl rfl (by omega) (by omega) dX1_tag_204 ?_
    refine lv_sipush (v := nI 255) hx hb dX1_tag_205 (by decide) ?_
    refine lv_iand hx hb dX1_tag_208 ?_
    refine ot_topi (nI (ot_b (ft (ff + (16 * t + i))))) (ot_and255 _) ?_
    refine lv_i2l hx hb dX1_tag_209 rfl ?_
    refine ot_topl (lN (ot_b (ft (ff + (16 * t + i))))) (nI_l (by omega)) ?_
    refine lv_ladd hx hb dX1_tag_210 ?_
    refine ot_topl (lN (gh i + ot_b (ft (ff + (16 * t + i))))) (lN_add _ _) ?_
    refine ot_last (k := i) hx hb hK hP hD hS 5 4 rfl rfl (by omega) (by omega) dX1_tag_211 (fun F2 H locs eF2 hP hD hS => ?_)
    have hP : va_P (dC, dI) vwCl [(m0, .inr (1, [.ref b1, .int (nI z), .ref b2, .ref b3, .ref b4, .ref b5, .ref b6])), (b1, .inl (d1, 4096, .inl ft)), (b2, .inl (d2, 32, .inl (ot_I gk))), (b3, .inl (d3, 16, .inl (ot_I gt))), (b4, .inl (d4, 17, .inr (.inl (ot_L gr)))), (b5, .inl (d5, 17, .inr (.inl F2))), (b6, .inl (d6, 34, .inr (.inl (ot_L gw))))] H := hP
    have hD : va_D A [(m0, .inr (1, [.ref b1, .int (nI z), .ref b2, .ref b3, .ref b4, .ref b5, .ref b6])), (b1, .inl (d1, 4096, .inl ft)), (b2, .inl (d2, 32, .inl (ot_I gk))), (b3, .inl (d3, 16, .inl (ot_I gt))), (b4, .inl (d4, 17, .inr (.inl (ot_L gr)))), (b5, .inl (d5, 17, .inr (.inl F2))), (b6, .inl (d6, 34, .inr (.inl (ot_L gw))))] := hD
    rw [ot_L_upd] at eF2
    subst eF2
    refine lv_iinc (v := nI (i + 1)) (lv' := [(7, .int (nI (i + 1))), (0, .ref m0), (3, .int (nI ff)), (4, .int (nI cn)), (5, .int (nI (16 * t))), (6, .int (nI mm))]) hx hb dX1_tag_212 hl (k := 5) rfl (ot_inc _ _) (by decide) rfl (fun ls hl => ?_)
    refine lv_goto (tgt := 173) hx hb dX1_tag_215 (by decide) ?_
    refine ih (i + 1) (ot_u gh i (gh i + ot_b (ft (ff + (16 * t + i))))) (by omega) (fun j hj => ?_) H locs hP hD hS ls (lv_sub hl [1, 2, 3, 4, 5, 0] rfl)
    unfold ot_u
    by_cases hji : j = i
    · subst hji; rw [if_pos rfl, h2 _ hj, if_neg (by omega), if_pos (by omega)]
    · rw [if_neg hji, h2 j hj]; (repeat' split) <;> first | rfl | omega
set_option maxHeartbeats 4000000 in
set_option maxRecDepth 100000 in
/-- w cleared -/
theorem lpX1_wclr {p : Program} {l : Launch} {e : Env} {R : Room} {s : State} {m : MethodId} {args : Array Value} {below : List Frame} {meth : Method} {c : Code} {cells slots : Nat} {Q : State → Prop} {dC : Nat → ClassId} {dI : Nat → Nat → Nat} {A : Nat → Prop} (hx : p.tables.exec = Jvm.exec) (hb : c.code = cX1_tag) (hown : s.vm.findClass RX1 = some m.cls) (hts : ∀ w ∈ lw_all, w.before args s = true) {m0 b1 b2 b3 b4 b5 b6 z : Nat} {d1 d2 d3 d4 d5 d6 : ClassId} {ft : Nat → Int32} {gk gt : Nat → Nat} {gr gh : Nat → Nat} {ff cn t : Nat} (hK : va_K (dC, dI) vwCl [(d1, .byte), (d2, .int), (d3, .int), (d4, .long), (d5, .long), (d6, .long)] s)
    (kk : ∀ (i : Nat) (gw : Nat → Nat), i = 34 → (∀ j, j < i → gw j = 0) → ∀ (H : Heap) (locs : List Loc), va_P (dC, dI) vwCl [(m0, .inr (1, [.ref b1, .int (nI z), .ref b2, .ref b3, .ref b4, .ref b5, .ref b6])), (b1, .inl (d1, 4096, .inl ft)), (b2, .inl (d2, 32, .inl (ot_I gk))), (b3, .inl (d3, 16, .inl (ot_I gt))), (b4, .inl (d4, 17, .inr (.inl (ot_L gr)))), (b5, .inl (d5, 17, .inr (.inl (ot_L gh)))), (b6, .inl (d6, 34, .inr (.inl (ot_L gw))))] H → va_D A [(m0, .inr (1, [.ref b1, .int (nI z), .ref b2, .ref b3, .ref b4, .ref b5, .ref b6])), (b1, .inl (d1, 4096, .inl ft)), (b2, .inl (d2, 32, .inl (ot_I gk))), (b3, .inl (d3, 16, .inl (ot_I gt))), (b4, .inl (d4, 17, .inr (.inl (ot_L gr)))), (b5, .inl (d5, 17, .inr (.inl (ot_L gh)))), (b6, .inl (d6, 34, .inr (.inl (ot_L gw))))] → va_S A s.heap H locs → ∀ (ls : Array Slot), lv_has ls 10 [(0, .ref m0), (3, .int (nI ff)), (4, .int (nI cn)), (5, .int (nI (16 * t))), (7, .int (nI i))] → W p l e R s m args below meth c H locs cells slots Q (F0 m 258 ls [])) :
    ∀ (n i : Nat) (gw : Nat → Nat), n + i = 34 → (∀ j, j < i → gw j = 0) → ∀ (H : Heap) (locs : List Loc), va_P (dC, dI) vwCl [(m0, .inr (1, [.ref b1, .int (nI z), .ref b2, .ref b3, .ref b4, .ref b5, .ref b6])), (b1, .inl (d1, 4096, .inl ft)), (b2, .inl (d2, 32, .inl (ot_I gk))), (b3, .inl (d3, 16, .inl (ot_I gt))), (b4, .inl (d4, 17, .inr (.inl (ot_L gr)))), (b5, .inl (d5, 17, .inr (.inl (ot_L gh)))), (b6, .inl (d6, 34, .inr (.inl (ot_L gw))))] H → va_D A [(m0, .inr (1, [.ref b1, .int (nI z), .ref b2, .ref b3, .ref b4, .ref b5, .ref b6])), (b1, .inl (d1, 4096, .inl ft)), (b2, .inl (d2, 32, .inl (ot_I gk))), (b3, .inl (d3, 16, .inl (ot_I gt))), (b4, .inl (d4, 17, .inr (.inl (ot_L gr)))), (b5, .inl (d5, 17, .inr (.inl (ot_L gh)))), (b6, .inl (d6, 34, .inr (.inl (ot_L gw))))] → va_S A s.heap H locs → ∀ (ls : Array Slot), lv_has ls 10 [(0, .ref m0), (3, .int (nI ff)), (4, .int (nI cn)), (5, .int (nI (16 * t))), (7, .int (nI i))] → W p l e R s m args below meth c H locs cells slots Q (F0 m 237 ls []) := by
  intro n
  induction n with
  | zero =>
    intro i gw hn_ h2 H locs hP hD hS ls hl
    refine lv_iload hx hb dX1_tag_237 (lv_at hl 4 rfl) ?_
    refine lv_bipush (v := nI 34) hx hb dX1_tag_239 (by decide) ?_
    refine lv_icmp_ge (tgt := 258) hx hb dX1_tag_241 (by decide) (fun c_ => ?_) (fun c_ => absurd c_ (not_not_intro (nI_le (by omega) (by omega))))
    exact kk i gw (by omega) h2 H locs hP hD hS ls (lv_sub hl [0, 1, 2, 3, 4] rfl)
  | succ n ih =>
    intro i gw hn_ h2 H locs hP hD hS ls hl
    refine lv_iload hx hb dX1_tag_237 (lv_at hl 4 rfl) ?_
    refine lv_bipush (v := nI 34) hx hb dX1_tag_239 (by decide) ?_
    refine lv_icmp_ge (tgt := 258) hx hb dX1_tag_241 (by decide) (fun c_ => absurd c_ (nI_ge (by omega) (by omega))) (fun c_ => ?_)
    refine lv_aload_n hx hb dX1_tag_244 rfl (lv_at hl 0 rfl) ?_
    refine va_get (D := (dC, dI)) (ci := 1) (v := .ref b6) (C := RX1) (T := TX1) (N := 7) hx hb hts in_X1 hown hK hP 0 rfl rfl 6 (by decide) (hts _ q197) (fun _ h9 => h9) rfl dX1_tag_245 ?_
    refine lv_iload hx hb dX1_tag_248 (lv_at hl 4 rfl) ?_
    refine lv_lconst (v := lN 0) hx hb dX1_tag_250 rfl ?_
    refine ot_last (k := i) hx hb hK hP hD hS 6 5 rfl rfl (by omega) (by omega) dX1_tag_251 (fun F2 H locs eF2 hP hD hS => ?_)
    have hP : va_P (dC, dI) vwCl [(m0, .inr (1, [.ref b1, .int (nI z), .ref b2, .ref b3, .ref b4, .ref b5, .ref b6])), (b1, .inl (d1, 4096, .inl ft)), (b2, .inl (d2, 32, .inl (ot_I gk))), (b3, .inl (d3, 16, .inl (ot_I gt))), (b4, .inl (d4, 17, .inr (.inl (ot_L gr)))), (b5, .inl (d5, 17, .inr (.inl (ot_L gh)))), (b6, .inl (d6, 34, .inr (.inl F2)))] H := hP
    have hD : va_D A [(m0, .inr (1, [.ref b1, .int (nI z), .ref b2, .ref b3, .ref b4, .ref b5, .ref b6])), (b1, .inl (d1, 4096, .inl ft)), (b2, .inl (d2, 32, .inl (ot_I gk))), (b3, .inl (d3, 16, .inl (ot_I gt))), (b4, .inl (d4, 17, .inr (.inl (ot_L gr)))), (b5, .inl (d5, 17, .inr (.inl (ot_L gh)))), (b6, .inl (d6, 34, .inr (.inl F2)))] := hD
    rw [ot_L_upd] at eF2
    subst eF2
    refine lv_iinc (v := nI (i + 1)) (lv' := [(7, .int (nI (i + 1))), (0, .ref m0), (3, .int (nI ff)), (4, .int (nI cn)), (5, .int (nI (16 * t)))]) hx hb dX1_tag_252 hl (k := 4) rfl (ot_inc _ _) (by decide) rfl (fun ls hl => ?_)
    refine lv_goto (tgt := 237) hx hb dX1_tag_255 (by decide) ?_
    refine ih (i + 1) (ot_u gw i 0) (by omega) (fun j hj => ?_) H locs hP hD hS ls (lv_sub hl [1, 2, 3, 4, 0] rfl)
    unfold ot_u; split; rfl; exact h2 j (by omega)
set_option maxHeartbeats 4000000 in
set_option maxRecDepth 100000 in
/-- a row of the product -/
theorem lpX1_row {p : Program} {l : Launch} {e : Env} {R : Room} {s : State} {m : MethodId} {args : Array Value} {below : List Frame} {meth : Method} {c : Code} {cells slots : Nat} {Q : State → Prop} {dC : Nat → ClassId} {dI : Nat → Nat → Nat} {A : Nat → Prop} (hx : p.tables.exec = Jvm.exec) (hb : c.code = cX1_tag) (hown : s.vm.findClass RX1 = some m.cls) (hts : ∀ w ∈ lw_all, w.before args s = true) {m0 b1 b2 b3 b4 b5 b6 z : Nat} {d1 d2 d3 d4 d5 d6 : ClassId} {ft : Nat → Int32} {gk gt : Nat → Nat} {gr gh : Nat → Nat} {ff cn t pq X c0 : Nat} (hpq : pq < 17) (hgh : ∀ j, j < 17 → gh j < 512) (hgr : ∀ j, j < 17 → gr j < 256) (hK : va_K (dC, dI) vwCl [(d1, .byte), (d2, .int), (d3, .int), (d4, .long), (d5, .long), (d6, .long)] s)
    (kk : ∀ (i : Nat) (gw : Nat → Nat), i = 17 → (∀ j, j < 34 → (j < pq + i → gw j ≤ c0 + ot_B) ∧ (pq + i ≤ j → gw j ≤ c0)) → ot_dv gw 34 = X + gh pq * 256 ^ pq * ot_dv gr i → ∀ (H : Heap) (locs : List Loc), va_P (dC, dI) vwCl [(m0, .inr (1, [.ref b1, .int (nI z), .ref b2, .ref b3, .ref b4, .ref b5, .ref b6])), (b1, .inl (d1, 4096, .inl ft)), (b2, .inl (d2, 32, .inl (ot_I gk))), (b3, .inl (d3, 16, .inl (ot_I gt))), (b4, .inl (d4, 17, .inr (.inl (ot_L gr)))), (b5, .inl (d5, 17, .inr (.inl (ot_L gh)))), (b6, .inl (d6, 34, .inr (.inl (ot_L gw))))] H → va_D A [(m0, .inr (1, [.ref b1, .int (nI z), .ref b2, .ref b3, .ref b4, .ref b5, .ref b6])), (b1, .inl (d1, 4096, .inl ft)), (b2, .inl (d2, 32, .inl (ot_I gk))), (b3, .inl (d3, 16, .inl (ot_I gt))), (b4, .inl (d4, 17, .inr (.inl (ot_L gr)))), (b5, .inl (d5, 17, .inr (.inl (ot_L gh)))), (b6, .inl (d6, 34, .inr (.inl (ot_L gw))))] → va_S A s.heap H locs → ∀ (ls : Array Slot), lv_has ls 10 [(0, .ref m0), (3, .int (nI ff)), (4, .int (nI cn)), (5, .int (nI (16 * t))), (7, .int (nI pq)), (8, .int (nI i))] → W p l e R s m args below meth c H locs cells slots Q (F0 m 320 ls [])) :
    ∀ (n i : Nat) (gw : Nat → Nat), n + i = 17 → (∀ j, j < 34 → (j < pq + i → gw j ≤ c0 + ot_B) ∧ (pq + i ≤ j → gw j ≤ c0)) → ot_dv gw 34 = X + gh pq * 256 ^ pq * ot_dv gr i → ∀ (H : Heap) (locs : List Loc), va_P (dC, dI) vwCl [(m0, .inr (1, [.ref b1, .int (nI z), .ref b2, .ref b3, .ref b4, .ref b5, .ref b6])), (b1, .inl (d1, 4096, .inl ft)), (b2, .inl (d2, 32, .inl (ot_I gk))), (b3, .inl (d3, 16, .inl (ot_I gt))), (b4, .inl (d4, 17, .inr (.inl (ot_L gr)))), (b5, .inl (d5, 17, .inr (.inl (ot_L gh)))), (b6, .inl (d6, 34, .inr (.inl (ot_L gw))))] H → va_D A [(m0, .inr (1, [.ref b1, .int (nI z), .ref b2, .ref b3, .ref b4, .ref b5, .ref b6])), (b1, .inl (d1, 4096, .inl ft)), (b2, .inl (d2, 32, .inl (ot_I gk))), (b3, .inl (d3, 16, .inl (ot_I gt))), (b4, .inl (d4, 17, .inr (.inl (ot_L gr)))), (b5, .inl (d5, 17, .inr (.inl (ot_L gh)))), (b6, .inl (d6, 34, .inr (.inl (ot_L gw))))] → va_S A s.heap H locs → ∀ (ls : Array Slot), lv_has ls 10 [(0, .ref m0), (3, .int (nI ff)), (4, .int (nI cn)), (5, .int (nI (16 * t))), (7, .int (nI pq)), (8, .int (nI i))] → W p l e R s m args below meth c H locs cells slots Q (F0 m 271 ls []) := by
  intro n
  induction n with
  | zero =>
    intro i gw hn_ h2 h3 H locs hP hD hS ls hl
    refine lv_iload hx hb dX1_tag_271 (lv_at hl 5 rfl) ?_
    refine lv_bipush (v := nI 17) hx hb dX1_tag_273 (by decide) ?_
    refine lv_icmp_ge (tgt := 320) hx hb dX1_tag_275 (by decide) (fun c_ => ?_) (fun c_ => absurd c_ (not_not_intro (nI_le (by omega) (by omega))))
    exact kk i gw (by omega) h2 h3 H locs hP hD hS ls (lv_sub hl [0, 1, 2, 3, 4, 5] rfl)
  | succ n ih =>
    intro i gw hn_ h2 h3 H locs hP hD hS ls hl
    refine lv_iload hx hb dX1_tag_271 (lv_at hl 5 rfl) ?_
    refine lv_bipush (v := nI 17) hx hb dX1_tag_273 (by decide) ?_
    refine lv_icmp_ge (tgt := 320) hx hb dX1_tag_275 (by decide) (fun c_ => absurd c_ (nI_ge (by omega) (by omega))) (fun c_ => ?_)
    have hg1 := hgh pq hpq
    have hg2 := hgr i (by omega)
    have hpr : gh pq * gr i ≤ ot_B := Nat.le_trans (Nat.mul_le_mul (Nat.le_of_lt hg1) (Nat.le_of_lt hg2)) (by decide)
    refine lv_aload_n hx hb dX1_tag_278 rfl (lv_at hl 0 rfl) ?_
    refine va_get (D := (dC, dI)) (ci := 1) (v := .ref b6) (C := RX1) (T := TX1) (N := 7) hx hb hts in_X1 hown hK hP 0 rfl rfl 6 (by decide) (hts _ q197) (fun _ h9 => h9) rfl dX1_tag_279 ?_
    refine lv_iload hx hb dX1_tag_282 (lv_at hl 4 rfl) ?_
    refine lv_iload hx hb dX1_tag_284 (lv_at hl 5 rfl) ?_
    refine lv_iadd hx hb dX1_tag_286 ?_
    refine ot_topi (nI (pq + i)) (nI_add _ _) ?_
    refine lv_aload_n hx hb dX1_tag_287 rfl (lv_at hl 0 rfl) ?_
    refine va_get (D := (dC, dI)) (ci := 1) (v := .ref b6) (C := RX1) (T := TX1) (N := 7) hx hb hts in_X1 hown hK hP 0 rfl rfl 6 (by decide) (hts _ q197) (fun _ h9 => h9) rfl dX1_tag_288 ?_
    refine lv_iload hx hb dX1_tag_291 (lv_at hl 4 rfl) ?_
    refine lv_iload hx hb dX1_tag_293 (lv_at hl 5 rfl) ?_
    refine lv_iadd hx hb dX1_tag_295 ?_
    refine ot_topi (nI (pq + i)) (nI_add _ _) ?_
    refine ot_lald (k := (pq + i)) hx hb hK hP 6 5 rfl rfl (by omega) (by omega) dX1_tag_296 ?_
    refine ot_topl (lN (gw (pq + i))) (rfl) ?_
    refine lv_aload_n hx hb dX1_tag_297 rfl (lv_at hl 0 rfl) ?_
    refine va_get (D := (dC, dI)) (ci := 1) (v := .ref b5) (C := RX1) (T := TX1) (N := 7) hx hb hts in_X1 hown hK hP 0 rfl rfl 5 (by decide) (hts _ q196) (fun _ h9 => h9) rfl dX1_tag_298 ?_
    refine lv_iload hx hb dX1_tag_301 (lv_at hl 4 rfl) ?_
    refine ot_lald (k := pq) hx hb hK hP 5 4 rfl rfl (by omega) (by omega) dX1_tag_303 ?_
    refine ot_topl (lN (gh pq)) (rfl) ?_
    refine lv_aload_n hx hb dX1_tag_304 rfl (lv_at hl 0 rfl) ?_
    refine va_get (D := (dC, dI)) (ci := 1) (v := .ref b4) (C := RX1) (T := TX1) (N := 7) hx hb hts in_X1 hown hK hP 0 rfl rfl 4 (by decide) (hts _ q195) (fun _ h9 => h9) rfl dX1_tag_305 ?_
    refine lv_iload hx hb dX1_tag_308 (lv_at hl 5 rfl) ?_
    refine ot_lald (k := i) hx hb hK hP 4 3 rfl rfl (by omega) (by omega) dX1_tag_310 ?_
    refine ot_topl (lN (gr i)) (rfl) ?_
    refine lv_lmul hx hb dX1_tag_311 ?_
    refine ot_topl (lN ((gh pq) * (gr i))) (lN_mul _ _) ?_
    refine lv_ladd hx hb dX1_tag_312 ?_
    refine ot_topl (lN ((gw (pq + i)) + ((gh pq) * (gr i)))) (lN_add _ _) ?_
    refine ot_last (k := (pq + i)) hx hb hK hP hD hS 6 5 rfl rfl (by omega) (by omega) dX1_tag_313 (fun F2 H locs eF2 hP hD hS => ?_)
    have hP : va_P (dC, dI) vwCl [(m0, .inr (1, [.ref b1, .int (nI z), .ref b2, .ref b3, .ref b4, .ref b5, .ref b6])), (b1, .inl (d1, 4096, .inl ft)), (b2, .inl (d2, 32, .inl (ot_I gk))), (b3, .inl (d3, 16, .inl (ot_I gt))), (b4, .inl (d4, 17, .inr (.inl (ot_L gr)))), (b5, .inl (d5, 17, .inr (.inl (ot_L gh)))), (b6, .inl (d6, 34, .inr (.inl F2)))] H := hP
    have hD : va_D A [(m0, .inr (1, [.ref b1, .int (nI z), .ref b2, .ref b3, .ref b4, .ref b5, .ref b6])), (b1, .inl (d1, 4096, .inl ft)), (b2, .inl (d2, 32, .inl (ot_I gk))), (b3, .inl (d3, 16, .inl (ot_I gt))), (b4, .inl (d4, 17, .inr (.inl (ot_L gr)))), (b5, .inl (d5, 17, .inr (.inl (ot_L gh)))), (b6, .inl (d6, 34, .inr (.inl F2)))] := hD
    rw [ot_L_upd] at eF2
    subst eF2
    refine lv_iinc (v := nI (i + 1)) (lv' := [(8, .int (nI (i + 1))), (0, .ref m0), (3, .int (nI ff)), (4, .int (nI cn)), (5, .int (nI (16 * t))), (7, .int (nI pq))]) hx hb dX1_tag_314 hl (k := 5) rfl (ot_inc _ _) (by decide) rfl (fun ls hl => ?_)
    refine lv_goto (tgt := 271) hx hb dX1_tag_317 (by decide) ?_
    refine ih (i + 1) (ot_u gw (pq + i) (gw (pq + i) + gh pq * gr i)) (by omega) (fun j hj => ?_) ?_ H locs hP hD hS ls (lv_sub hl [1, 2, 3, 4, 5, 0] rfl)
    · have q1 := h2 j hj
      unfold ot_u
      by_cases hji : j = pq + i
      · subst hji; rw [if_pos rfl]; have q2 := q1.2 (Nat.le_refl _); exact ⟨fun _ => Nat.add_le_add q2 hpr, fun q => absurd q (by omega)⟩
      · rw [if_neg hji]; exact ⟨fun q => q1.1 (by omega), fun q => q1.2 (by omega)⟩
    · have q1 := ot_dv_u (g := gw) (k := pq + i) (v := gw (pq + i) + gh pq * gr i) (n := 34) (by omega)
      rw [Nat.add_mul, Nat.pow_add, ot_cell] at q1
      rw [ot_dv_succ gr i, Nat.mul_add]
      omega
set_option maxHeartbeats 4000000 in
set_option maxRecDepth 100000 in
/-- the product of h and r -/
theorem lpX1_prod {p : Program} {l : Launch} {e : Env} {R : Room} {s : State} {m : MethodId} {args : Array Value} {below : List Frame} {meth : Method} {c : Code} {cells slots : Nat} {Q : State → Prop} {dC : Nat → ClassId} {dI : Nat → Nat → Nat} {A : Nat → Prop} (hx : p.tables.exec = Jvm.exec) (hb : c.code = cX1_tag) (hown : s.vm.findClass RX1 = some m.cls) (hts : ∀ w ∈ lw_all, w.before args s = true) {m0 b1 b2 b3 b4 b5 b6 z : Nat} {d1 d2 d3 d4 d5 d6 : ClassId} {ft : Nat → Int32} {gk gt : Nat → Nat} {gr gh : Nat → Nat} {ff cn t : Nat} (hgh : ∀ j, j < 17 → gh j < 512) (hgr : ∀ j, j < 17 → gr j < 256) (hK : va_K (dC, dI) vwCl [(d1, .byte), (d2, .int), (d3, .int), (d4, .long), (d5, .long), (d6, .long)] s)
    (kk : ∀ (i : Nat) (gw : Nat → Nat), i = 17 → (∀ j, j < 34 → gw j ≤ i * ot_B) → ot_dv gw 34 = ot_dv gh i * ot_dv gr 17 → ∀ (H : Heap) (locs : List Loc), va_P (dC, dI) vwCl [(m0, .inr (1, [.ref b1, .int (nI z), .ref b2, .ref b3, .ref b4, .ref b5, .ref b6])), (b1, .inl (d1, 4096, .inl ft)), (b2, .inl (d2, 32, .inl (ot_I gk))), (b3, .inl (d3, 16, .inl (ot_I gt))), (b4, .inl (d4, 17, .inr (.inl (ot_L gr)))), (b5, .inl (d5, 17, .inr (.inl (ot_L gh)))), (b6, .inl (d6, 34, .inr (.inl (ot_L gw))))] H → va_D A [(m0, .inr (1, [.ref b1, .int (nI z), .ref b2, .ref b3, .ref b4, .ref b5, .ref b6])), (b1, .inl (d1, 4096, .inl ft)), (b2, .inl (d2, 32, .inl (ot_I gk))), (b3, .inl (d3, 16, .inl (ot_I gt))), (b4, .inl (d4, 17, .inr (.inl (ot_L gr)))), (b5, .inl (d5, 17, .inr (.inl (ot_L gh)))), (b6, .inl (d6, 34, .inr (.inl (ot_L gw))))] → va_S A s.heap H locs → ∀ (ls : Array Slot), lv_has ls 10 [(0, .ref m0), (3, .int (nI ff)), (4, .int (nI cn)), (5, .int (nI (16 * t))), (7, .int (nI i))] → W p l e R s m args below meth c H locs cells slots Q (F0 m 326 ls [])) :
    ∀ (n i : Nat) (gw : Nat → Nat), n + i = 17 → (∀ j, j < 34 → gw j ≤ i * ot_B) → ot_dv gw 34 = ot_dv gh i * ot_dv gr 17 → ∀ (H : Heap) (locs : List Loc), va_P (dC, dI) vwCl [(m0, .inr (1, [.ref b1, .int (nI z), .ref b2, .ref b3, .ref b4, .ref b5, .ref b6])), (b1, .inl (d1, 4096, .inl ft)), (b2, .inl (d2, 32, .inl (ot_I gk))), (b3, .inl (d3, 16, .inl (ot_I gt))), (b4, .inl (d4, 17, .inr (.inl (ot_L gr)))), (b5, .inl (d5, 17, .inr (.inl (ot_L gh)))), (b6, .inl (d6, 34, .inr (.inl (ot_L gw))))] H → va_D A [(m0, .inr (1, [.ref b1, .int (nI z), .ref b2, .ref b3, .ref b4, .ref b5, .ref b6])), (b1, .inl (d1, 4096, .inl ft)), (b2, .inl (d2, 32, .inl (ot_I gk))), (b3, .inl (d3, 16, .inl (ot_I gt))), (b4, .inl (d4, 17, .inr (.inl (ot_L gr)))), (b5, .inl (d5, 17, .inr (.inl (ot_L gh)))), (b6, .inl (d6, 34, .inr (.inl (ot_L gw))))] → va_S A s.heap H locs → ∀ (ls : Array Slot), lv_has ls 10 [(0, .ref m0), (3, .int (nI ff)), (4, .int (nI cn)), (5, .int (nI (16 * t))), (7, .int (nI i))] → W p l e R s m args below meth c H locs cells slots Q (F0 m 261 ls []) := by
  intro n
  induction n with
  | zero =>
    intro i gw hn_ h2 h3 H locs hP hD hS ls hl
    refine lv_iload hx hb dX1_tag_261 (lv_at hl 4 rfl) ?_
    refine lv_bipush (v := nI 17) hx hb dX1_tag_263 (by decide) ?_
    refine lv_icmp_ge (tgt := 326) hx hb dX1_tag_265 (by decide) (fun c_ => ?_) (fun c_ => absurd c_ (not_not_intro (nI_le (by omega) (by omega))))
    exact kk i gw (by omega) h2 h3 H locs hP hD hS ls (lv_sub hl [0, 1, 2, 3, 4] rfl)
  | succ n ih =>
    intro i gw hn_ h2 h3 H locs hP hD hS ls hl
    refine lv_iload hx hb dX1_tag_261 (lv_at hl 4 rfl) ?_
    refine lv_bipush (v := nI 17) hx hb dX1_tag_263 (by decide) ?_
    refine lv_icmp_ge (tgt := 326) hx hb dX1_tag_265 (by decide) (fun c_ => absurd c_ (nI_ge (by omega) (by omega))) (fun c_ => ?_)
    refine lv_iconst (v := nI 0) hx hb dX1_tag_268 (by decide) ?_
    refine lv_istore (lv' := [(8, .int (nI 0)), (0, .ref m0), (3, .int (nI ff)), (4, .int (nI cn)), (5, .int (nI (16 * t))), (7, .int (nI i))]) hx hb dX1_tag_269 hl (by decide) rfl (fun ls hl => ?_)
    refine lpX1_row hx hb hown hts (pq := i) (X := ot_dv gh i * ot_dv gr 17) (c0 := i * ot_B) (by omega) hgh hgr hK (fun k gw2 hk q2 q3 H locs hP hD hS ls hl => ?_) 17 0 gw (by omega) (fun j hj => ⟨fun _ => Nat.le_trans (h2 j hj) (Nat.le_add_right _ _), fun _ => h2 j hj⟩) (by rw [h3, show ot_dv gr 0 = 0 from rfl, Nat.mul_zero, Nat.add_zero]) H locs hP hD hS ls (lv_sub hl [1, 2, 3, 4, 5, 0] rfl)
    subst hk
    refine lv_iinc (v := nI (i + 1)) (lv' := [(7, .int (nI (i + 1))), (0, .ref m0), (3, .int (nI ff)), (4, .int (nI cn)), (5, .int (nI (16 * t))), (8, .int (nI 17))]) hx hb dX1_tag_320 hl (k := 4) rfl (ot_inc _ _) (by decide) rfl (fun ls hl => ?_)
    refine lv_goto (tgt := 261) hx hb dX1_tag_323 (by decide) ?_
    refine ih (i + 1) gw2 (by omega) (fun j hj => ?_) ?_ H locs hP hD hS ls (lv_sub hl [1, 2, 3, 4, 0] rfl)
    · rw [Nat.succ_mul]; rcases Nat.lt_or_ge j (i + 17) with q | q; exact (q2 j hj).1 q; exact Nat.le_trans ((q2 j hj).2 q) (Nat.le_add_right _ _)
    · rw [q3, ot_dv_succ gh i, Nat.add_mul]
set_option maxHeartbeats 4000000 in
set_option maxRecDepth 100000 in
/-- the high half folded -/
theorem lpX1_fold {p : Program} {l : Launch} {e : Env} {R : Room} {s : State} {m : MethodId} {args : Array Value} {below : List Frame} {meth : Method} {c : Code} {cells slots : Nat} {Q : State → Prop} {dC : Nat → ClassId} {dI : Nat → Nat → Nat} {A : Nat → Prop} (hx : p.tables.exec = Jvm.exec) (hb : c.code = cX1_tag) (hown : s.vm.findClass RX1 = some m.cls) (hts : ∀ w ∈ lw_all, w.before args s = true) {m0 b1 b2 b3 b4 b5 b6 z : Nat} {d1 d2 d3 d4 d5 d6 : ClassId} {ft : Nat → Int32} {gk gt : Nat → Nat} {gr gw : Nat → Nat} {ff cn t : Nat} (hK : va_K (dC, dI) vwCl [(d1, .byte), (d2, .int), (d3, .int), (d4, .long), (d5, .long), (d6, .long)] s)
    (kk : ∀ (i : Nat) (gh : Nat → Nat), i = 17 → (∀ j, j < i → gh j = gw j + 320 * gw (j + 17)) → ∀ (H : Heap) (locs : List Loc), va_P (dC, dI) vwCl [(m0, .inr (1, [.ref b1, .int (nI z), .ref b2, .ref b3, .ref b4, .ref b5, .ref b6])), (b1, .inl (d1, 4096, .inl ft)), (b2, .inl (d2, 32, .inl (ot_I gk))), (b3, .inl (d3, 16, .inl (ot_I gt))), (b4, .inl (d4, 17, .inr (.inl (ot_L gr)))), (b5, .inl (d5, 17, .inr (.inl (ot_L gh)))), (b6, .inl (d6, 34, .inr (.inl (ot_L gw))))] H → va_D A [(m0, .inr (1, [.ref b1, .int (nI z), .ref b2, .ref b3, .ref b4, .ref b5, .ref b6])), (b1, .inl (d1, 4096, .inl ft)), (b2, .inl (d2, 32, .inl (ot_I gk))), (b3, .inl (d3, 16, .inl (ot_I gt))), (b4, .inl (d4, 17, .inr (.inl (ot_L gr)))), (b5, .inl (d5, 17, .inr (.inl (ot_L gh)))), (b6, .inl (d6, 34, .inr (.inl (ot_L gw))))] → va_S A s.heap H locs → ∀ (ls : Array Slot), lv_has ls 10 [(0, .ref m0), (3, .int (nI ff)), (4, .int (nI cn)), (5, .int (nI (16 * t))), (7, .int (nI i))] → W p l e R s m args below meth c H locs cells slots Q (F0 m 371 ls [])) :
    ∀ (n i : Nat) (gh : Nat → Nat), n + i = 17 → (∀ j, j < i → gh j = gw j + 320 * gw (j + 17)) → ∀ (H : Heap) (locs : List Loc), va_P (dC, dI) vwCl [(m0, .inr (1, [.ref b1, .int (nI z), .ref b2, .ref b3, .ref b4, .ref b5, .ref b6])), (b1, .inl (d1, 4096, .inl ft)), (b2, .inl (d2, 32, .inl (ot_I gk))), (b3, .inl (d3, 16, .inl (ot_I gt))), (b4, .inl (d4, 17, .inr (.inl (ot_L gr)))), (b5, .inl (d5, 17, .inr (.inl (ot_L gh)))), (b6, .inl (d6, 34, .inr (.inl (ot_L gw))))] H → va_D A [(m0, .inr (1, [.ref b1, .int (nI z), .ref b2, .ref b3, .ref b4, .ref b5, .ref b6])), (b1, .inl (d1, 4096, .inl ft)), (b2, .inl (d2, 32, .inl (ot_I gk))), (b3, .inl (d3, 16, .inl (ot_I gt))), (b4, .inl (d4, 17, .inr (.inl (ot_L gr)))), (b5, .inl (d5, 17, .inr (.inl (ot_L gh)))), (b6, .inl (d6, 34, .inr (.inl (ot_L gw))))] → va_S A s.heap H locs → ∀ (ls : Array Slot), lv_has ls 10 [(0, .ref m0), (3, .int (nI ff)), (4, .int (nI cn)), (5, .int (nI (16 * t))), (7, .int (nI i))] → W p l e R s m args below meth c H locs cells slots Q (F0 m 329 ls []) := by
  intro n
  induction n with
  | zero =>
    intro i gh hn_ h2 H locs hP hD hS ls hl
    refine lv_iload hx hb dX1_tag_329 (lv_at hl 4 rfl) ?_
    refine lv_bipush (v := nI 17) hx hb dX1_tag_331 (by decide) ?_
    refine lv_icmp_ge (tgt := 371) hx hb dX1_tag_333 (by decide) (fun c_ => ?_) (fun c_ => absurd c_ (not_not_intro (nI_le (by omega) (by omega))))
    exact kk i gh (by omega) h2 H locs hP hD hS ls (lv_sub hl [0, 1, 2, 3, 4] rfl)
  | succ n ih =>
    intro i gh hn_ h2 H locs hP hD hS ls hl
    refine lv_iload hx hb dX1_tag_329 (lv_at hl 4 rfl) ?_
    refine lv_bipush (v := nI 17) hx hb dX1_tag_331 (by decide) ?_
    refine lv_icmp_ge (tgt := 371) hx hb dX1_tag_333 (by decide) (fun c_ => absurd c_ (nI_ge (by omega) (by omega))) (fun c_ => ?_)
    refine lv_aload_n hx hb dX1_tag_336 rfl (lv_at hl 0 rfl) ?_
    refine va_get (D := (dC, dI)) (ci := 1) (v := .ref b5) (C := RX1) (T := TX1) (N := 7) hx hb hts in_X1 hown hK hP 0 rfl rfl 5 (by decide) (hts _ q196) (fun _ h9 => h9) rfl dX1_tag_337 ?_
    refine lv_iload hx hb dX1_tag_340 (lv_at hl 4 rfl) ?_
    refine lv_aload_n hx hb dX1_tag_342 rfl (lv_at hl 0 rfl) ?_
    refine va_get (D := (dC, dI)) (ci := 1) (v := .ref b6) (C := RX1) (T := TX1) (N := 7) hx hb hts in_X1 hown hK hP 0 rfl rfl 6 (by decide) (hts _ q197) (fun _ h9 => h9) rfl dX1_tag_343 ?_
    refine lv_iload hx hb dX1_tag_346 (lv_at hl 4 rfl) ?_
    refine ot_lald (k := i) hx hb hK hP 6 5 rfl rfl (by omega) (by omega) dX1_tag_348 ?_
    refine ot_topl (lN (gw i)) (rfl) ?_
    refine lv_ldc2 (v := lN 320) hx hb hown (hts _ q246) dX1_tag_349 ?_
    refine lv_aload_n hx hb dX1_tag_352 rfl (lv_at hl 0 rfl) ?_
    refine va_get (D := (dC, dI)) (ci := 1) (v := .ref b6) (C := RX1) (T := TX1) (N := 7) hx hb hts in_X1 hown hK hP 0 rfl rfl 6 (by decide) (hts _ q197) (fun _ h9 => h9) rfl dX1_tag_353 ?_
    refine lv_iload hx hb dX1_tag_356 (lv_at hl 4 rfl) ?_
    refine lv_bipush (v := nI 17) hx hb dX1_tag_358 (by decide) ?_
    refine lv_iadd hx hb dX1_tag_360 ?_
    refine ot_topi (nI (i + 17)) (nI_add _ _) ?_
    refine ot_lald (k := (i + 17)) hx hb hK hP 6 5 rfl rfl (by omega) (by omega) dX1_tag_361 ?_
    refine ot_topl (lN (gw (i + 17))) (rfl) ?_
    refine lv_lmul hx hb dX1_tag_362 ?_
    refine ot_topl (lN (320 * (gw (i + 17)))) (lN_mul _ _) ?_
    refine lv_ladd hx hb dX1_tag_363 ?_
    refine ot_topl (lN ((gw i) + (320 * (gw (i + 17))))) (lN_add _ _) ?_
    refine ot_last (k := i) hx hb hK hP hD hS 5 4 rfl rfl (by omega) (by omega) dX1_tag_364 (fun F2 H locs eF2 hP hD hS => ?_)
    have hP : va_P (dC, dI) vwCl [(m0, .inr (1, [.ref b1, .int (nI z), .ref b2, .ref b3, .ref b4, .ref b5, .ref b6])), (b1, .inl (d1, 4096, .inl ft)), (b2, .inl (d2, 32, .inl (ot_I gk))), (b3, .inl (d3, 16, .inl (ot_I gt))), (b4, .inl (d4, 17, .inr (.inl (ot_L gr)))), (b5, .inl (d5, 17, .inr (.inl F2))), (b6, .inl (d6, 34, .inr (.inl (ot_L gw))))] H := hP
    have hD : va_D A [(m0, .inr (1, [.ref b1, .int (nI z), .ref b2, .ref b3, .ref b4, .ref b5, .ref b6])), (b1, .inl (d1, 4096, .inl ft)), (b2, .inl (d2, 32, .inl (ot_I gk))), (b3, .inl (d3, 16, .inl (ot_I gt))), (b4, .inl (d4, 17, .inr (.inl (ot_L gr)))), (b5, .inl (d5, 17, .inr (.inl F2))), (b6, .inl (d6, 34, .inr (.inl (ot_L gw))))] := hD
    rw [ot_L_upd] at eF2
    subst eF2
    refine lv_iinc (v := nI (i + 1)) (lv' := [(7, .int (nI (i + 1))), (0, .ref m0), (3, .int (nI ff)), (4, .int (nI cn)), (5, .int (nI (16 * t)))]) hx hb dX1_tag_365 hl (k := 4) rfl (ot_inc _ _) (by decide) rfl (fun ls hl => ?_)
    refine lv_goto (tgt := 329) hx hb dX1_tag_368 (by decide) ?_
    refine ih (i + 1) (ot_u gh i (gw i + 320 * gw (i + 17))) (by omega) (fun j hj => ?_) H locs hP hD hS ls (lv_sub hl [1, 2, 3, 4, 0] rfl)
    unfold ot_u
    by_cases hji : j = i
    · subst hji; rw [if_pos rfl]
    · rw [if_neg hji]; exact h2 j (by omega)
end
section
/-! OneTimeTagModel: tag, block after block -/
theorem ot_addblk {gh gh2 : Nat → Nat} {fd : Nat → Int32} {cn t : Nat} (h : ∀ j, j < 17 → gh2 j = gh j + ot_bl fd cn t j) : ot_dv gh2 17 = ot_dv gh 17 + ot_blk fd cn t := by
  have e := ot_dv_lin gh (ot_bl fd cn t) 1 17
  rw [Nat.one_mul] at e
  unfold ot_blk
  rw [← e]
  exact ot_dv_cong (fun k hk => by rw [h k hk, Nat.one_mul])
set_option maxHeartbeats 4000000 in
set_option maxRecDepth 100000 in
theorem chX1_tag {p : Program} {l : Launch} {e : Env} {R : Room} {s : State} {m : MethodId} {args : Array Value} {below : List Frame} {meth : Method} {c : Code} {cells slots : Nat} {Q : State → Prop} {H : Heap} {locs : List Loc} (hx : p.tables.exec = Jvm.exec) (hb : c.code = cX1_tag) {m0 ff cn t : Nat} (hcn : cn ≤ 4096) (ht : 16 * t < cn) {ls : Array Slot} (hl : lv_has ls 10 [(0, .ref m0), (3, .int (nI ff)), (4, .int (nI cn)), (5, .int (nI (16 * t)))]) (kk : W p l e R s m args below meth c H locs cells slots Q (F0 m 168 ls [.int (nI (min 16 (cn - 16 * t)))])) : W p l e R s m args below meth c H locs cells slots Q (F0 m 148 ls []) := by
  refine lv_iload hx hb dX1_tag_148 (lv_at hl 2 rfl) ?_
  refine lv_iload hx hb dX1_tag_150 (lv_at hl 3 rfl) ?_
  refine lv_isub hx hb dX1_tag_152 ?_
  refine ot_topi (nI (cn - 16 * t)) (pk_sub (by omega)) ?_
  refine lv_bipush (v := nI 16) hx hb dX1_tag_153 (by decide) ?_
  refine lv_icmp_ge (tgt := 166) hx hb dX1_tag_155 (by decide) (fun c1 => ?_) (fun c1 => ?_)
  · have k1 : 16 ≤ cn - 16 * t := (nI_leI (by omega) (by omega)).mp c1
    refine lv_bipush (v := nI 16) hx hb dX1_tag_166 (by decide) ?_
    exact ot_topi (nI (min 16 (cn - 16 * t))) (congrArg nI (by omega)) kk
  · have k1 : cn - 16 * t < 16 := by rcases Nat.lt_or_ge (cn - 16 * t) 16 with q | q; exact q; exact absurd (nI_le q (by omega)) c1
    refine lv_iload hx hb dX1_tag_158 (lv_at hl 2 rfl) ?_
    refine lv_iload hx hb dX1_tag_160 (lv_at hl 3 rfl) ?_
    refine lv_isub hx hb dX1_tag_162 ?_
    refine ot_topi (nI (cn - 16 * t)) (pk_sub (by omega)) ?_
    refine lv_goto (tgt := 168) hx hb dX1_tag_163 (by decide) ?_
    exact ot_topi (nI (min 16 (cn - 16 * t))) (congrArg nI (by omega)) kk
set_option maxHeartbeats 4000000 in
set_option maxRecDepth 100000 in
/-- block after block -/
theorem lpX1_blocks {p : Program} {l : Launch} {e : Env} {R : Room} {s : State} {m : MethodId} {args : Array Value} {below : List Frame} {meth : Method} {c : Code} {cells slots : Nat} {Q : State → Prop} {dC : Nat → ClassId} {dI : Nat → Nat → Nat} {A : Nat → Prop} (hx : p.tables.exec = Jvm.exec) (hb : c.code = cX1_tag) (hown : s.vm.findClass RX1 = some m.cls) (hts : ∀ w ∈ lw_all, w.before args s = true) {m0 b1 b2 b3 b4 b5 b6 z : Nat} {d1 d2 d3 d4 d5 d6 : ClassId} {ft : Nat → Int32} {gk gt : Nat → Nat} {gr : Nat → Nat} {ff cn : Nat} (hfc : ff + cn ≤ 4096) (hgr : ∀ j, j < 17 → gr j < 256) (hA : ∀ q : Nat, s.heap.size ≤ q → A q) (hml : c.maxLocals = 10) (hRf : 1 ≤ R.frames) (hRl : 40 ≤ R.locals) (hRc : cells ≤ R.cells) (hRs : slots ≤ R.slots) (hK : va_K (dC, dI) vwCl [(d1, .byte), (d2, .int), (d3, .int), (d4, .long), (d5, .long), (d6, .long)] s)
    (kk : ∀ (i : Nat) (gh : Nat → Nat) (gw : Nat → Nat), i = (cn + 15) / 16 → (∀ j, j < 17 → gh j < 256) → ot_dv gh 17 = ot_acc (fun j => ft (ff + j)) cn (ot_dv gr 17) i → ∀ (H : Heap) (locs : List Loc), va_P (dC, dI) vwCl [(m0, .inr (1, [.ref b1, .int (nI z), .ref b2, .ref b3, .ref b4, .ref b5, .ref b6])), (b1, .inl (d1, 4096, .inl ft)), (b2, .inl (d2, 32, .inl (ot_I gk))), (b3, .inl (d3, 16, .inl (ot_I gt))), (b4, .inl (d4, 17, .inr (.inl (ot_L gr)))), (b5, .inl (d5, 17, .inr (.inl (ot_L gh)))), (b6, .inl (d6, 34, .inr (.inl (ot_L gw))))] H → va_D A [(m0, .inr (1, [.ref b1, .int (nI z), .ref b2, .ref b3, .ref b4, .ref b5, .ref b6])), (b1, .inl (d1, 4096, .inl ft)), (b2, .inl (d2, 32, .inl (ot_I gk))), (b3, .inl (d3, 16, .inl (ot_I gt))), (b4, .inl (d4, 17, .inr (.inl (ot_L gr)))), (b5, .inl (d5, 17, .inr (.inl (ot_L gh)))), (b6, .inl (d6, 34, .inr (.inl (ot_L gw))))] → va_S A s.heap H locs → ∀ (ls : Array Slot), lv_has ls 10 [(0, .ref m0), (3, .int (nI ff)), (4, .int (nI cn)), (5, .int (nI (16 * i)))] → W p l e R s m args below meth c H locs cells slots Q (F0 m 385 ls [])) :
    ∀ (n i : Nat) (gh : Nat → Nat) (gw : Nat → Nat), n + i = (cn + 15) / 16 → (∀ j, j < 17 → gh j < 256) → ot_dv gh 17 = ot_acc (fun j => ft (ff + j)) cn (ot_dv gr 17) i → ∀ (H : Heap) (locs : List Loc), va_P (dC, dI) vwCl [(m0, .inr (1, [.ref b1, .int (nI z), .ref b2, .ref b3, .ref b4, .ref b5, .ref b6])), (b1, .inl (d1, 4096, .inl ft)), (b2, .inl (d2, 32, .inl (ot_I gk))), (b3, .inl (d3, 16, .inl (ot_I gt))), (b4, .inl (d4, 17, .inr (.inl (ot_L gr)))), (b5, .inl (d5, 17, .inr (.inl (ot_L gh)))), (b6, .inl (d6, 34, .inr (.inl (ot_L gw))))] H → va_D A [(m0, .inr (1, [.ref b1, .int (nI z), .ref b2, .ref b3, .ref b4, .ref b5, .ref b6])), (b1, .inl (d1, 4096, .inl ft)), (b2, .inl (d2, 32, .inl (ot_I gk))), (b3, .inl (d3, 16, .inl (ot_I gt))), (b4, .inl (d4, 17, .inr (.inl (ot_L gr)))), (b5, .inl (d5, 17, .inr (.inl (ot_L gh)))), (b6, .inl (d6, 34, .inr (.inl (ot_L gw))))] → va_S A s.heap H locs → ∀ (ls : Array Slot), lv_has ls 10 [(0, .ref m0), (3, .int (nI ff)), (4, .int (nI cn)), (5, .int (nI (16 * i)))] → W p l e R s m args below meth c H locs cells slots Q (F0 m 141 ls []) := by
  intro n
  induction n with
  | zero =>
    intro i gh gw hn_ hgh hv H locs hP hD hS ls hl
    refine lv_iload hx hb dX1_tag_141 (lv_at hl 3 rfl) ?_
    refine lv_iload hx hb dX1_tag_143 (lv_at hl 2 rfl) ?_
    refine lv_icmp_ge (tgt := 385) hx hb dX1_tag_145 (by decide) (fun c_ => ?_) (fun c_ => absurd c_ (not_not_intro (nI_le (by omega) (by omega))))
    exact kk i gh gw (by omega) hgh hv H locs hP hD hS ls (lv_sub hl [0, 1, 2, 3] rfl)
  | succ n ih =>
    intro i gh gw hn_ hgh hv H locs hP hD hS ls hl
    have hi_ : 16 * i < cn := by omega
    refine lv_iload hx hb dX1_tag_141 (lv_at hl 3 rfl) ?_
    refine lv_iload hx hb dX1_tag_143 (lv_at hl 2 rfl) ?_
    refine lv_icmp_ge (tgt := 385) hx hb dX1_tag_145 (by decide) (fun c_ => absurd c_ (nI_ge (by omega) (by omega))) (fun c_ => ?_)
    refine chX1_tag hx hb (by omega) hi_ (lv_sub hl [0, 1, 2, 3] rfl) ?_
    obtain ⟨mm, emm⟩ : ∃ y : Nat, y = min 16 (cn - 16 * i) := ⟨_, rfl⟩
    rw [← emm]
    have hm16 : mm ≤ 16 ∧ 16 * i + mm ≤ cn := by omega
    refine lv_istore (lv' := [(6, .int (nI mm)), (0, .ref m0), (3, .int (nI ff)), (4, .int (nI cn)), (5, .int (nI (16 * i)))]) hx hb dX1_tag_168 hl (by decide) rfl (fun ls hl => ?_)
    refine lv_iconst (v := nI 0) hx hb dX1_tag_170 (by decide) ?_
    refine lv_istore (lv' := [(7, .int (nI 0)), (6, .int (nI mm)), (0, .ref m0), (3, .int (nI ff)), (4, .int (nI cn)), (5, .int (nI (16 * i)))]) hx hb dX1_tag_171 hl (by decide) rfl (fun ls hl => ?_)
    refine lpX1_addb hx hb hown hts (t := i) (mm := mm) hm16.1 (by omega) gh hK (fun k gh1 hk q2 H locs hP hD hS ls hl => ?_) mm 0 gh (by omega) (fun j hj => by rw [if_neg (by omega)]) H locs hP hD hS ls (lv_sub hl [2, 3, 4, 5, 1, 0] rfl)
    subst hk
    refine lv_aload_n hx hb dX1_tag_218 rfl (lv_at hl 0 rfl) ?_
    refine va_get (D := (dC, dI)) (ci := 1) (v := .ref b5) (C := RX1) (T := TX1) (N := 7) hx hb hts in_X1 hown hK hP 0 rfl rfl 5 (by decide) (hts _ q196) (fun _ h9 => h9) rfl dX1_tag_219 ?_
    refine lv_iload hx hb dX1_tag_222 (lv_at hl 4 rfl) ?_
    refine lv_aload_n hx hb dX1_tag_224 rfl (lv_at hl 0 rfl) ?_
    refine va_get (D := (dC, dI)) (ci := 1) (v := .ref b5) (C := RX1) (T := TX1) (N := 7) hx hb hts in_X1 hown hK hP 0 rfl rfl 5 (by decide) (hts _ q196) (fun _ h9 => h9) rfl dX1_tag_225 ?_
    refine lv_iload hx hb dX1_tag_228 (lv_at hl 4 rfl) ?_
    refine ot_lald (k := k) hx hb hK hP 5 4 rfl rfl (by omega) (by omega) dX1_tag_230 ?_
    refine ot_topl (lN (gh1 k)) (rfl) ?_
    refine lv_lconst (v := lN 1) hx hb dX1_tag_231 rfl ?_
    refine lv_ladd hx hb dX1_tag_232 ?_
    refine ot_topl (lN ((gh1 k) + 1)) (lN_add _ _) ?_
    refine ot_last (k := k) hx hb hK hP hD hS 5 4 rfl rfl (by omega) (by omega) dX1_tag_233 (fun F2 H locs eF2 hP hD hS => ?_)
    have hP : va_P (dC, dI) vwCl [(m0, .inr (1, [.ref b1, .int (nI z), .ref b2, .ref b3, .ref b4, .ref b5, .ref b6])), (b1, .inl (d1, 4096, .inl ft)), (b2, .inl (d2, 32, .inl (ot_I gk))), (b3, .inl (d3, 16, .inl (ot_I gt))), (b4, .inl (d4, 17, .inr (.inl (ot_L gr)))), (b5, .inl (d5, 17, .inr (.inl F2))), (b6, .inl (d6, 34, .inr (.inl (ot_L gw))))] H := hP
    have hD : va_D A [(m0, .inr (1, [.ref b1, .int (nI z), .ref b2, .ref b3, .ref b4, .ref b5, .ref b6])), (b1, .inl (d1, 4096, .inl ft)), (b2, .inl (d2, 32, .inl (ot_I gk))), (b3, .inl (d3, 16, .inl (ot_I gt))), (b4, .inl (d4, 17, .inr (.inl (ot_L gr)))), (b5, .inl (d5, 17, .inr (.inl F2))), (b6, .inl (d6, 34, .inr (.inl (ot_L gw))))] := hD
    rw [ot_L_upd] at eF2
    subst eF2
    obtain ⟨gh2, egh2⟩ : ∃ y : Nat → Nat, y = ot_u gh1 k (gh1 k + 1) := ⟨_, rfl⟩
    rw [← egh2] at hP hD
    have hb2 : ∀ j, j < 17 → gh2 j = gh j + ot_bl (fun j => ft (ff + j)) cn i j := fun j hj => by
      have q3 := q2 j hj
      rw [egh2]
      unfold ot_u ot_bl
      rw [← emm]
      by_cases hjk : j = k
      · subst hjk; rw [if_pos rfl, if_neg (Nat.lt_irrefl _), if_pos rfl]; rw [if_neg (Nat.lt_irrefl _)] at q3; rw [q3]
      · rw [if_neg hjk, q3]; by_cases hlt : j < k; rw [if_pos hlt, if_pos hlt]; rw [if_neg hlt, if_neg hlt, if_neg hjk]; rfl
    have hdv2 := ot_addblk hb2
    have hg512 : ∀ j, j < 17 → gh2 j < 512 := fun j hj => by have a1 := hgh j hj; have a2 := ot_bl_lt (fun j => ft (ff + j)) cn i j; rw [hb2 j hj]; omega
    refine lv_iconst (v := nI 0) hx hb dX1_tag_234 (by decide) ?_
    refine lv_istore (lv' := [(7, .int (nI 0)), (0, .ref m0), (3, .int (nI ff)), (4, .int (nI cn)), (5, .int (nI (16 * i))), (6, .int (nI k))]) hx hb dX1_tag_235 hl (by decide) rfl (fun ls hl => ?_)
    refine lpX1_wclr hx hb hown hts (t := i) hK (fun k1 gw1 hk1_ q5 H locs hP hD hS ls hl => ?_) 34 0 gw (by omega) (fun j hj => absurd hj (Nat.not_lt_zero _)) H locs hP hD hS ls (lv_sub hl [1, 2, 3, 4, 0] rfl)
    subst hk1_
    refine lv_iconst (v := nI 0) hx hb dX1_tag_258 (by decide) ?_
    refine lv_istore (lv' := [(7, .int (nI 0)), (0, .ref m0), (3, .int (nI ff)), (4, .int (nI cn)), (5, .int (nI (16 * i)))]) hx hb dX1_tag_259 hl (by decide) rfl (fun ls hl => ?_)
    refine lpX1_prod hx hb hown hts (t := i) hg512 hgr hK (fun k2 gw2 hk2 q6 q7 H locs hP hD hS ls hl => ?_) 17 0 gw1 (by omega) (fun j hj => by rw [q5 j hj]; exact Nat.zero_le _) (by rw [ot_dv_zero q5, show ot_dv gh2 0 = 0 from rfl, Nat.zero_mul]) H locs hP hD hS ls (lv_sub hl [1, 2, 3, 4, 0] rfl)
    subst hk2
    refine lv_iconst (v := nI 0) hx hb dX1_tag_326 (by decide) ?_
    refine lv_istore (lv' := [(7, .int (nI 0)), (0, .ref m0), (3, .int (nI ff)), (4, .int (nI cn)), (5, .int (nI (16 * i)))]) hx hb dX1_tag_327 hl (by decide) rfl (fun ls hl => ?_)
    refine lpX1_fold hx hb hown hts (t := i) hK (fun k3 gh3 hk3 q8 H locs hP hD hS ls hl => ?_) 17 0 gh2 (by omega) (fun j hj => absurd hj (Nat.not_lt_zero _)) H locs hP hD hS ls (lv_sub hl [1, 2, 3, 4, 0] rfl)
    subst hk3
    have hB17 : 17 * ot_B = 2228224 := by decide
    have hg3 : ∀ j, j < 17 → gh3 j ≤ 715259904 := fun j hj => by have a1 := q6 j (by omega); have a2 := q6 (j + 17) (by omega); rw [hB17] at a1 a2; rw [q8 j hj]; omega
    have hd3 := ot_dv_le hg3
    have hf3 := ot_fold17 q8
    rw [q7, hdv2, hv] at hf3
    refine lv_aload_n hx hb dX1_tag_371 rfl (lv_at hl 0 rfl) ?_
    have hPc := hP.sub (ws' := [(m0, .inr (1, [.ref b1, .int (nI z), .ref b2, .ref b3, .ref b4, .ref b5, .ref b6])), (b5, .inl (d5, 17, .inr (.inl (ot_L gh3))))]) [0, 5] rfl
    have hDc := hD.sub (ws' := [(m0, .inr (1, [.ref b1, .int (nI z), .ref b2, .ref b3, .ref b4, .ref b5, .ref b6])), (b5, .inl (d5, 17, .inr (.inl (ot_L gh3))))]) [0, 5] (by decide) rfl
    have hKc := hK.sub (tys' := [(d5, .long)]) [4] rfl
    have hFc := va_free (wc := [(m0, .inr (1, [.ref b1, .int (nI z), .ref b2, .ref b3, .ref b4, .ref b5, .ref b6])), (b5, .inl (d5, 17, .inr (.inl (ot_L gh3))))]) hD hS hA [0, 5] rfl
    refine va_callv (va_runV (As := []) (rest := []) ⟨hx, hb, hml, hown, hts⟩ (metX1_reduce l dC dI H.size m0 b1 b2 b3 b4 b5 b6 z d5 gh3 (fun j hj => Nat.lt_of_le_of_lt (hg3 j hj) (by decide)) (Nat.lt_of_le_of_lt hd3 (by decide))) (cwV 0 hts (lw_V q247 q249 qs7 q10 q250) rfl rfl rfl (by decide +kernel) ⟨by show 0 + 1 ≤ R.frames; omega, by show 8 + (7 + 11) + 0 ≤ R.locals; omega⟩) ⟨fun a U g mk q => by obtain ⟨q0, q1, qP, qK, qD⟩ := q; exact ⟨q0, q1, qP, va_K.moved (u := U) (U := U.calling g mk a) (Vm.Alike.refl U.vm) qK, qD⟩, va_recv hKc hPc (ci := 1) (q0 := 0) rfl rfl, fun U hU hW => ⟨rfl, by rw [hU], by rw [hU]; exact hPc, va_K.moved hW.alike hKc, hDc.weaken (fun _ _ _ _ => trivial)⟩⟩ rfl rfl hl.1 rfl (lv_room (Nat.le_of_ble_eq_true rfl)) dX1_tag_372 ⟨by omega, by omega⟩) hS (fun q _ h => hFc q h) hFc (fun gh4 t H1 locs ht hvm hw_ hB hz1 hk1 hS => ?_)
    obtain ⟨hP1, hK1, hD1⟩ := hB
    rw [ht] at hP1
    have hK1 := va_K.moved hvm.symm hK1
    obtain ⟨hP, hD⟩ := va_join (wr := [(b1, .inl (d1, 4096, .inl ft)), (b2, .inl (d2, 32, .inl (ot_I gk))), (b3, .inl (d3, 16, .inl (ot_I gt))), (b4, .inl (d4, 17, .inr (.inl (ot_L gr)))), (b6, .inl (d6, 34, .inr (.inl (ot_L gw2))))]) (w1 := [(m0, .inr (1, [.ref b1, .int (nI z), .ref b2, .ref b3, .ref b4, .ref b5, .ref b6])), (b5, .inl (d5, 17, .inr (.inl (ot_L gh4))))]) hP hD [0, 5] [1, 2, 3, 4, 6] rfl rfl (by decide) (by decide) hk1 hFc hP1 hD1
    generalize H1 = H at hP hS ⊢
    have hP := hP.sub (ws' := [(m0, .inr (1, [.ref b1, .int (nI z), .ref b2, .ref b3, .ref b4, .ref b5, .ref b6])), (b1, .inl (d1, 4096, .inl ft)), (b2, .inl (d2, 32, .inl (ot_I gk))), (b3, .inl (d3, 16, .inl (ot_I gt))), (b4, .inl (d4, 17, .inr (.inl (ot_L gr)))), (b5, .inl (d5, 17, .inr (.inl (ot_L gh4)))), (b6, .inl (d6, 34, .inr (.inl (ot_L gw2))))]) [5, 0, 1, 2, 3, 6, 4] rfl
    have hD := hD.sub (ws' := [(m0, .inr (1, [.ref b1, .int (nI z), .ref b2, .ref b3, .ref b4, .ref b5, .ref b6])), (b1, .inl (d1, 4096, .inl ft)), (b2, .inl (d2, 32, .inl (ot_I gk))), (b3, .inl (d3, 16, .inl (ot_I gt))), (b4, .inl (d4, 17, .inr (.inl (ot_L gr)))), (b5, .inl (d5, 17, .inr (.inl (ot_L gh4)))), (b6, .inl (d6, 34, .inr (.inl (ot_L gw2))))]) [5, 0, 1, 2, 3, 6, 4] (by decide) rfl
    have hw_ : ot_dv gh4 17 = ot_dv gh3 17 % ot_pp ∧ ∀ j, j < 17 → gh4 j < 256 := hw_
    refine W.widen (k := cells) (n := slots) (Nat.le_refl _) (Nat.le_refl _) ?_
    refine lv_iload hx hb dX1_tag_375 (lv_at hl 3 rfl) ?_
    refine lv_bipush (v := nI 16) hx hb dX1_tag_377 (by decide) ?_
    refine lv_iadd hx hb dX1_tag_379 ?_
    refine ot_topi (nI (16 * (i + 1))) (nI_add (16 * i) 16) ?_
    refine lv_istore (lv' := [(5, .int (nI (16 * (i + 1)))), (0, .ref m0), (3, .int (nI ff)), (4, .int (nI cn)), (7, .int (nI 17))]) hx hb dX1_tag_380 hl (by decide) rfl (fun ls hl => ?_)
    refine lv_goto (tgt := 141) hx hb dX1_tag_382 (by decide) ?_
    exact ih (i + 1) gh4 gw2 (by omega) hw_.2 (by rw [hw_.1, hf3]; rfl) H locs hP hD hS ls (lv_sub hl [1, 2, 3, 0] rfl)
end
section
/-! OneTimeTagModel: tag -/
theorem ot_dv_top (g : Nat → Nat) (n v : Nat) : ot_dv (ot_u g n v) (n + 1) = ot_dv g n + v * 256 ^ n := by
  rw [ot_dv_succ]
  have e : ot_dv (ot_u g n v) n = ot_dv g n := ot_dv_cong (fun j hj => by unfold ot_u; rw [if_neg (by omega)])
  have e2 : ot_u g n v n = v := by unfold ot_u; rw [if_pos rfl]
  rw [e, e2]
theorem ot_digit {g : Nat → Nat} {N z : Nat} : ∀ {n : Nat}, (∀ j, j < n → g j < 256) → N = ot_dv g n + z * 256 ^ n → ∀ j, j < n → g j = N / 256 ^ j % 256 := by
  intro n hg hN j hj
  obtain ⟨k, rfl⟩ : ∃ k, n = j + (k + 1) := ⟨n - j - 1, by omega⟩
  have e := ot_dv_split g j (k + 1)
  have e1 := ot_dv_split (fun i => g (i + j)) 1 k
  rw [Nat.add_comm 1 k] at e1
  have e2 : ot_dv (fun i => g (i + j)) 1 = g j := by simp [ot_dv]
  have hlt : ot_dv g j < 256 ^ j := ot_dv_lt (fun i hi => hg i (by omega))
  rw [e2] at e1
  rw [e1] at e
  rw [hN, e]
  have hp : 0 < 256 ^ j := Nat.pos_of_ne_zero (by simp)
  have r : ot_dv g j + 256 ^ j * (g j + 256 ^ 1 * ot_dv (fun i => g (i + 1 + j)) k) + z * 256 ^ (j + (k + 1)) = ot_dv g j + 256 ^ j * (g j + 256 * (ot_dv (fun i => g (i + 1 + j)) k + z * 256 ^ k)) := by
    rw [Nat.pow_add, Nat.pow_succ]
    grind
  rw [r, Nat.add_mul_div_left _ _ hp, Nat.div_eq_of_lt hlt, Nat.zero_add, Nat.add_mul_mod_self_left]
  exact (Nat.mod_eq_of_lt (hg j hj)).symm
set_option maxHeartbeats 4000000 in
set_option maxRecDepth 100000 in
/-- the tag: h and the key's second half added -/
theorem lpX1_sum {p : Program} {l : Launch} {e : Env} {R : Room} {s : State} {m : MethodId} {args : Array Value} {below : List Frame} {meth : Method} {c : Code} {cells slots : Nat} {Q : State → Prop} {dC : Nat → ClassId} {dI : Nat → Nat → Nat} {A : Nat → Prop} (hx : p.tables.exec = Jvm.exec) (hb : c.code = cX1_tag) (hown : s.vm.findClass RX1 = some m.cls) (hts : ∀ w ∈ lw_all, w.before args s = true) {m0 b1 b2 b3 b4 b5 b6 z : Nat} {d1 d2 d3 d4 d5 d6 : ClassId} {ft : Nat → Int32} {gk gr gh gw : Nat → Nat} (hgh : ∀ j, j < 17 → gh j < 256) (hgk : ∀ j, j < 32 → gk j < 256) (hK : va_K (dC, dI) vwCl [(d1, .byte), (d2, .int), (d3, .int), (d4, .long), (d5, .long), (d6, .long)] s)
    (kk : ∀ (i : Nat) (cc : Nat) (gt : Nat → Nat), i = 16 → cc < 4 → (∀ j, j < i → gt j < 256) → ot_dv gt i + cc * 256 ^ i = ot_dv gh i + ot_dv (fun k => gk (16 + k)) i → ∀ (H : Heap) (locs : List Loc), va_P (dC, dI) vwCl [(m0, .inr (1, [.ref b1, .int (nI z), .ref b2, .ref b3, .ref b4, .ref b5, .ref b6])), (b1, .inl (d1, 4096, .inl ft)), (b2, .inl (d2, 32, .inl (ot_I gk))), (b3, .inl (d3, 16, .inl (ot_I gt))), (b4, .inl (d4, 17, .inr (.inl (ot_L gr)))), (b5, .inl (d5, 17, .inr (.inl (ot_L gh)))), (b6, .inl (d6, 34, .inr (.inl (ot_L gw))))] H → va_D A [(m0, .inr (1, [.ref b1, .int (nI z), .ref b2, .ref b3, .ref b4, .ref b5, .ref b6])), (b1, .inl (d1, 4096, .inl ft)), (b2, .inl (d2, 32, .inl (ot_I gk))), (b3, .inl (d3, 16, .inl (ot_I gt))), (b4, .inl (d4, 17, .inr (.inl (ot_L gr)))), (b5, .inl (d5, 17, .inr (.inl (ot_L gh)))), (b6, .inl (d6, 34, .inr (.inl (ot_L gw))))] → va_S A s.heap H locs → ∀ (ls : Array Slot), lv_has ls 10 [(0, .ref m0), (5, .long (lN cc)), (7, .int (nI i))] → W p l e R s m args below meth c H locs cells slots Q (F0 m 449 ls [])) :
    ∀ (n i : Nat) (cc : Nat) (gt : Nat → Nat), n + i = 16 → cc < 4 → (∀ j, j < i → gt j < 256) → ot_dv gt i + cc * 256 ^ i = ot_dv gh i + ot_dv (fun k => gk (16 + k)) i → ∀ (H : Heap) (locs : List Loc), va_P (dC, dI) vwCl [(m0, .inr (1, [.ref b1, .int (nI z), .ref b2, .ref b3, .ref b4, .ref b5, .ref b6])), (b1, .inl (d1, 4096, .inl ft)), (b2, .inl (d2, 32, .inl (ot_I gk))), (b3, .inl (d3, 16, .inl (ot_I gt))), (b4, .inl (d4, 17, .inr (.inl (ot_L gr)))), (b5, .inl (d5, 17, .inr (.inl (ot_L gh)))), (b6, .inl (d6, 34, .inr (.inl (ot_L gw))))] H → va_D A [(m0, .inr (1, [.ref b1, .int (nI z), .ref b2, .ref b3, .ref b4, .ref b5, .ref b6])), (b1, .inl (d1, 4096, .inl ft)), (b2, .inl (d2, 32, .inl (ot_I gk))), (b3, .inl (d3, 16, .inl (ot_I gt))), (b4, .inl (d4, 17, .inr (.inl (ot_L gr)))), (b5, .inl (d5, 17, .inr (.inl (ot_L gh)))), (b6, .inl (d6, 34, .inr (.inl (ot_L gw))))] → va_S A s.heap H locs → ∀ (ls : Array Slot), lv_has ls 10 [(0, .ref m0), (5, .long (lN cc)), (7, .int (nI i))] → W p l e R s m args below meth c H locs cells slots Q (F0 m 391 ls []) := by
  intro n
  induction n with
  | zero =>
    intro i cc gt hn_ hc hgt hv H locs hP hD hS ls hl
    refine lv_iload hx hb dX1_tag_391 (lv_at hl 2 rfl) ?_
    refine lv_bipush (v := nI 16) hx hb dX1_tag_393 (by decide) ?_
    refine lv_icmp_ge (tgt := 449) hx hb dX1_tag_395 (by decide) (fun c_ => ?_) (fun c_ => absurd c_ (not_not_intro (nI_le (by omega) (by omega))))
    exact kk i cc gt (by omega) hc hgt hv H locs hP hD hS ls (lv_sub hl [0, 1, 2] rfl)
  | succ n ih =>
    intro i cc gt hn_ hc hgt hv H locs hP hD hS ls hl
    refine lv_iload hx hb dX1_tag_391 (lv_at hl 2 rfl) ?_
    refine lv_bipush (v := nI 16) hx hb dX1_tag_393 (by decide) ?_
    refine lv_icmp_ge (tgt := 449) hx hb dX1_tag_395 (by decide) (fun c_ => absurd c_ (nI_ge (by omega) (by omega))) (fun c_ => ?_)
    have a1 := hgh i (by omega)
    have a2 := hgk (16 + i) (by omega)
    refine lv_aload_n hx hb dX1_tag_398 rfl (lv_at hl 0 rfl) ?_
    refine va_get (D := (dC, dI)) (ci := 1) (v := .ref b5) (C := RX1) (T := TX1) (N := 7) hx hb hts in_X1 hown hK hP 0 rfl rfl 5 (by decide) (hts _ q196) (fun _ h9 => h9) rfl dX1_tag_399 ?_
    refine lv_iload hx hb dX1_tag_402 (lv_at hl 2 rfl) ?_
    refine ot_lald (k := i) hx hb hK hP 5 4 rfl rfl (by omega) (by omega) dX1_tag_404 ?_
    refine ot_topl (lN (gh i)) (rfl) ?_
    refine lv_aload_n hx hb dX1_tag_405 rfl (lv_at hl 0 rfl) ?_
    refine va_get (D := (dC, dI)) (ci := 1) (v := .ref b2) (C := RX1) (T := TX1) (N := 7) hx hb hts in_X1 hown hK hP 0 rfl rfl 2 (by decide) (hts _ q193) (fun _ h9 => h9) rfl dX1_tag_406 ?_
    refine lv_bipush (v := nI 16) hx hb dX1_tag_409 (by decide) ?_
    refine lv_iload hx hb dX1_tag_411 (lv_at hl 2 rfl) ?_
    refine lv_iadd hx hb dX1_tag_413 ?_
    refine ot_topi (nI (16 + i)) (nI_add _ _) ?_
    refine ot_iald (k := (16 + i)) hx hb hK hP 2 1 rfl rfl (by omega) (by omega) dX1_tag_414 ?_
    refine ot_topi (nI (gk (16 + i))) (rfl) ?_
    refine lv_i2l hx hb dX1_tag_415 rfl ?_
    refine ot_topl (lN (gk (16 + i))) (nI_l (by omega)) ?_
    refine lv_ladd hx hb dX1_tag_416 ?_
    refine ot_topl (lN ((gh i) + (gk (16 + i)))) (lN_add _ _) ?_
    refine lv_lload hx hb dX1_tag_417 (lv_at hl 1 rfl) ?_
    refine lv_ladd hx hb dX1_tag_419 ?_
    refine ot_topl (lN (((gh i) + (gk (16 + i))) + cc)) (lN_add _ _) ?_
    refine ot_namel (fun v ev => ?_)
    refine lv_lstore (lv' := [(8, .long (lN v)), (0, .ref m0), (5, .long (lN cc)), (7, .int (nI i))]) hx hb dX1_tag_420 hl (by decide) rfl (fun ls hl => ?_)
    refine lv_aload_n hx hb dX1_tag_422 rfl (lv_at hl 1 rfl) ?_
    refine va_get (D := (dC, dI)) (ci := 1) (v := .ref b3) (C := RX1) (T := TX1) (N := 7) hx hb hts in_X1 hown hK hP 0 rfl rfl 3 (by decide) (hts _ q194) (fun _ h9 => h9) rfl dX1_tag_423 ?_
    refine lv_iload hx hb dX1_tag_426 (lv_at hl 3 rfl) ?_
    refine lv_lload hx hb dX1_tag_428 (lv_at hl 0 rfl) ?_
    refine lv_ldc2 (v := lN 255) hx hb hown (hts _ q251) dX1_tag_430 ?_
    refine lv_land hx hb dX1_tag_433 ?_
    refine ot_topl (lN (v % 2 ^ 8)) (fb_maskL _ 8) ?_
    refine lv_l2i hx hb dX1_tag_434 rfl ?_
    refine ot_topi (nI (v % 2 ^ 8)) (lN_i _) ?_
    refine ot_iast (k := i) hx hb hK hP hD hS 3 2 rfl rfl (by omega) (by omega) dX1_tag_435 (fun F2 H locs eF2 hP hD hS => ?_)
    have hP : va_P (dC, dI) vwCl [(m0, .inr (1, [.ref b1, .int (nI z), .ref b2, .ref b3, .ref b4, .ref b5, .ref b6])), (b1, .inl (d1, 4096, .inl ft)), (b2, .inl (d2, 32, .inl (ot_I gk))), (b3, .inl (d3, 16, .inl F2)), (b4, .inl (d4, 17, .inr (.inl (ot_L gr)))), (b5, .inl (d5, 17, .inr (.inl (ot_L gh)))), (b6, .inl (d6, 34, .inr (.inl (ot_L gw))))] H := hP
    have hD : va_D A [(m0, .inr (1, [.ref b1, .int (nI z), .ref b2, .ref b3, .ref b4, .ref b5, .ref b6])), (b1, .inl (d1, 4096, .inl ft)), (b2, .inl (d2, 32, .inl (ot_I gk))), (b3, .inl (d3, 16, .inl F2)), (b4, .inl (d4, 17, .inr (.inl (ot_L gr)))), (b5, .inl (d5, 17, .inr (.inl (ot_L gh)))), (b6, .inl (d6, 34, .inr (.inl (ot_L gw))))] := hD
    rw [ot_I_upd] at eF2
    subst eF2
    refine lv_lload hx hb dX1_tag_436 (lv_at hl 0 rfl) ?_
    refine lv_bipush (v := nI 8) hx hb dX1_tag_438 (by decide) ?_
    refine lv_lshr hx hb dX1_tag_440 rfl ?_
    refine ot_topl (lN (v / 2 ^ 8)) (ot_shrL 8 (by omega) (by omega)) ?_
    refine lv_lstore (lv' := [(5, .long (lN (v / 2 ^ 8))), (8, .long (lN v)), (0, .ref m0), (7, .int (nI i))]) hx hb dX1_tag_441 hl (by decide) rfl (fun ls hl => ?_)
    refine lv_iinc (v := nI (i + 1)) (lv' := [(7, .int (nI (i + 1))), (5, .long (lN (v / 2 ^ 8))), (8, .long (lN v)), (0, .ref m0)]) hx hb dX1_tag_443 hl (k := 3) rfl (ot_inc _ _) (by decide) rfl (fun ls hl => ?_)
    refine lv_goto (tgt := 391) hx hb dX1_tag_446 (by decide) ?_
    refine ih (i + 1) (v / 2 ^ 8) (ot_u gt i (v % 2 ^ 8)) (by omega) (by omega) (fun j hj => ?_) ?_ H locs hP hD hS ls (lv_sub hl [3, 1, 0] rfl)
    · unfold ot_u; split; omega; exact hgt j (by omega)
    · have q2 := ot_carry1 (P := 256 ^ i) ev
      rw [ot_dv_top, ot_dv_succ gh i, ot_dv_succ _ i, show 256 ^ (i + 1) = 256 ^ i * 256 from Nat.pow_succ ..]
      rw [Nat.add_mul] at q2
      omega
abbrev wsX1_tag : List Cond := ws_ yX1_tag cX1_tag 10 none
set_option maxHeartbeats 4000000 in
set_option maxRecDepth 100000 in
/-- tag: the mac of a stretch of the text -/
theorem metX1_tag (l : Launch) (dC : Nat → ClassId) (dI : Nat → Nat → Nat) (sz : Nat) (m0 b1 b2 b3 b4 b5 b6 z : Nat) (d1 d2 d3 d4 d5 d6 : ClassId) (ft fk : Nat → Int32) (gk gt gr gh gw : Nat → Nat) (x y : Int32) (hz : z ≤ 4096) (hgf : ∀ j, j < 32 → gk j = ot_b (fk j)) : Met l yX1_tag wsX1_tag ({ frames := 1, cells := 0, slots := 0, locals := 40 }) (va_Pc [.ref m0, .int x, .int y] (fun U => U.heap.size = sz ∧ va_P (dC, dI) vwCl [(m0, .inr (1, [.ref b1, .int (nI z), .ref b2, .ref b3, .ref b4, .ref b5, .ref b6])), (b1, .inl (d1, 4096, .inl ft)), (b2, .inl (d2, 32, .inl (ot_I gk))), (b3, .inl (d3, 16, .inl (ot_I gt))), (b4, .inl (d4, 17, .inr (.inl (ot_L gr)))), (b5, .inl (d5, 17, .inr (.inl (ot_L gh)))), (b6, .inl (d6, 34, .inr (.inl (ot_L gw))))] U.heap ∧ va_K (dC, dI) vwCl [(d1, .byte), (d2, .int), (d3, .int), (d4, .long), (d5, .long), (d6, .long)] U ∧ va_D (fun _ => True) [(m0, .inr (1, [.ref b1, .int (nI z), .ref b2, .ref b3, .ref b4, .ref b5, .ref b6])), (b1, .inl (d1, 4096, .inl ft)), (b2, .inl (d2, 32, .inl (ot_I gk))), (b3, .inl (d3, 16, .inl (ot_I gt))), (b4, .inl (d4, 17, .inr (.inl (ot_L gr)))), (b5, .inl (d5, 17, .inr (.inl (ot_L gh)))), (b6, .inl (d6, 34, .inr (.inl (ot_L gw))))])) (va_Qv (fun (u : (Nat → Nat) × (Nat → Nat) × (Nat → Nat) × (Nat → Nat)) => ∀ j, j < 16 → u.1 j = ot_mac fk (fun j => ft (ot_from x z + j)) (ot_from y (z - ot_from x z)) / 256 ^ j % 256) (fun (u : (Nat → Nat) × (Nat → Nat) × (Nat → Nat) × (Nat → Nat)) (t : State) => va_P (dC, dI) vwCl [(m0, .inr (1, [.ref b1, .int (nI z), .ref b2, .ref b3, .ref b4, .ref b5, .ref b6])), (b1, .inl (d1, 4096, .inl ft)), (b2, .inl (d2, 32, .inl (ot_I gk))), (b3, .inl (d3, 16, .inl (ot_I u.1))), (b4, .inl (d4, 17, .inr (.inl (ot_L u.2.1)))), (b5, .inl (d5, 17, .inr (.inl (ot_L u.2.2.1)))), (b6, .inl (d6, 34, .inr (.inl (ot_L u.2.2.2))))] t.heap ∧ va_K (dC, dI) vwCl [(d1, .byte), (d2, .int), (d3, .int), (d4, .long), (d5, .long), (d6, .long)] t ∧ va_D (va_A [(m0, .inr (1, [.ref b1, .int (nI z), .ref b2, .ref b3, .ref b4, .ref b5, .ref b6])), (b1, .inl (d1, 4096, .inl ft)), (b2, .inl (d2, 32, .inl (ot_I gk))), (b3, .inl (d3, 16, .inl (ot_I gt))), (b4, .inl (d4, 17, .inr (.inl (ot_L gr)))), (b5, .inl (d5, 17, .inr (.inl (ot_L gh)))), (b6, .inl (d6, 34, .inr (.inl (ot_L gw))))] sz) [(m0, .inr (1, [.ref b1, .int (nI z), .ref b2, .ref b3, .ref b4, .ref b5, .ref b6])), (b1, .inl (d1, 4096, .inl ft)), (b2, .inl (d2, 32, .inl (ot_I gk))), (b3, .inl (d3, 16, .inl (ot_I u.1))), (b4, .inl (d4, 17, .inr (.inl (ot_L u.2.1)))), (b5, .inl (d5, 17, .inr (.inl (ot_L u.2.2.1)))), (b6, .inl (d6, 34, .inr (.inl (ot_L u.2.2.2))))]) (va_A [(m0, .inr (1, [.ref b1, .int (nI z), .ref b2, .ref b3, .ref b4, .ref b5, .ref b6])), (b1, .inl (d1, 4096, .inl ft)), (b2, .inl (d2, 32, .inl (ot_I gk))), (b3, .inl (d3, 16, .inl (ot_I gt))), (b4, .inl (d4, 17, .inr (.inl (ot_L gr)))), (b5, .inl (d5, 17, .inr (.inl (ot_L gh)))), (b6, .inl (d6, 34, .inr (.inl (ot_L gw))))] sz)) 0 0 (va_A [(m0, .inr (1, [.ref b1, .int (nI z), .ref b2, .ref b3, .ref b4, .ref b5, .ref b6])), (b1, .inl (d1, 4096, .inl ft)), (b2, .inl (d2, 32, .inl (ot_I gk))), (b3, .inl (d3, 16, .inl (ot_I gt))), (b4, .inl (d4, 17, .inr (.inl (ot_L gr)))), (b5, .inl (d5, 17, .inr (.inl (ot_L gh)))), (b6, .inl (d6, 34, .inr (.inl (ot_L gw))))] sz) := by
  refine Met.ofW (cc := cX1_tag) (maxL := 10) (ret := none) (by decide) rfl ?_
  intro p e s m args below meth c s₁ B hml hv
  obtain ⟨rfl, hsz, hP, hK, hD0⟩ := hv
  have hx := B.exec
  have hb := B.bytes
  have hr := B.returns
  have hts := atoms_spec (ws := wsX1_tag) B.pre
  have hts : ∀ w ∈ lw_all, w.before _ s = true := fun w h => hts w (List.mem_cons_of_mem _ h)
  have hown : s.vm.findClass RX1 = some m.cls := findClass_of_methodNamed B.named
  have hlocks := B.notSynchronized
  subst hsz
  have hD := hD0.self (sz := s.heap.size)
  generalize hAe : va_A [(m0, .inr (1, [.ref b1, .int (nI z), .ref b2, .ref b3, .ref b4, .ref b5, .ref b6])), (b1, .inl (d1, 4096, .inl ft)), (b2, .inl (d2, 32, .inl (ot_I gk))), (b3, .inl (d3, 16, .inl (ot_I gt))), (b4, .inl (d4, 17, .inr (.inl (ot_L gr)))), (b5, .inl (d5, 17, .inr (.inl (ot_L gh)))), (b6, .inl (d6, 34, .inr (.inl (ot_L gw))))] s.heap.size = A at hD ⊢
  have hA : ∀ q : Nat, s.heap.size ≤ q → A q := fun q h => by rw [← hAe]; exact Or.inr h
  have hS : va_S A s.heap s.heap [] := va_S.rf
  have hP : va_P (dC, dI) vwCl [(m0, .inr (1, [.ref b1, .int (nI z), .ref b2, .ref b3, .ref b4, .ref b5, .ref b6])), (b1, .inl (d1, 4096, .inl ft)), (b2, .inl (d2, 32, .inl (ot_I gk))), (b3, .inl (d3, 16, .inl (ot_I gt))), (b4, .inl (d4, 17, .inr (.inl (ot_L gr)))), (b5, .inl (d5, 17, .inr (.inl (ot_L gh)))), (b6, .inl (d6, 34, .inr (.inl (ot_L gw))))] s.heap := hP
  have hl := lv_entry ([.ref m0, .int x, .int y]) (n := 10) (Nat.le_of_ble_eq_true rfl)
  rw [lg_entry_eq]
  generalize (lg_sl ([.ref m0, .int x, .int y]) ++ List.replicate (10 - (lg_sl ([.ref m0, .int x, .int y])).length) Slot.unset).toArray = ls at hl ⊢
  have hl : lv_has ls 10 [(0, .ref m0), (1, .int x), (2, .int y)] := hl
  have hfz := ot_from_le x z
  have hcz := ot_from_le y (z - ot_from x z)
  have hgk : ∀ j, j < 32 → gk j < 256 := fun j hj => by rw [hgf j hj]; exact ot_b_lt _
  refine lv_aload_n hx hb dX1_tag_0 rfl (lv_at hl 0 rfl) ?_
  refine lv_iload_n hx hb dX1_tag_1 rfl (lv_at hl 1 rfl) ?_
  have hPc := hP.sub (ws' := [(m0, .inr (1, [.ref b1, .int (nI z), .ref b2, .ref b3, .ref b4, .ref b5, .ref b6]))]) [0] rfl
  have hDc := hD.sub (ws' := [(m0, .inr (1, [.ref b1, .int (nI z), .ref b2, .ref b3, .ref b4, .ref b5, .ref b6]))]) [0] (by decide) rfl
  have hKc := hK.sub (tys' := []) [] rfl
  have hFc := va_free (wc := [(m0, .inr (1, [.ref b1, .int (nI z), .ref b2, .ref b3, .ref b4, .ref b5, .ref b6]))]) hD hS hA [0] rfl
  refine va_calli (va_runV (As := [.int x]) (rest := []) ⟨hx, hb, hml, hown, hts⟩ (metX1_first l dC dI s.heap.size m0 b1 b2 b3 b4 b5 b6 z x hz) (cwV 1 hts (lw_V q223 q225 qs5 q10 q226) rfl rfl rfl (by decide +kernel) ⟨Nat.le_of_ble_eq_true rfl, Nat.le_of_ble_eq_true rfl⟩) ⟨fun a U g mk q => by obtain ⟨q0, q1, qP, qK, qD⟩ := q; exact ⟨q0, q1, qP, va_K.moved (u := U) (U := U.calling g mk a) (Vm.Alike.refl U.vm) qK, qD⟩, va_recv hKc hPc (ci := 1) (q0 := 0) rfl rfl, fun U hU hW => ⟨rfl, by rw [hU], by rw [hU]; exact hPc, va_K.moved hW.alike hKc, hDc.weaken (fun _ _ _ _ => trivial)⟩⟩ rfl rfl hl.1 rfl (lv_room (Nat.le_of_ble_eq_true rfl)) dX1_tag_2 ⟨Nat.le_of_ble_eq_true rfl, Nat.le_of_ble_eq_true rfl⟩) hS (fun q _ h => hFc q h) hFc (fun r_ u_ t H1 locs ht hvm hw_ hB hz1 hk1 hS => ?_)
  obtain ⟨hP1, -, -⟩ := hB
  rw [ht] at hP1
  have hP := ot_back hP hD [0] rfl hk1 hP1
  generalize H1 = H at hP hS ⊢
  have e_ : r_ = nI (ot_from x z) := hw_
  subst e_
  refine W.widen (k := 0) (n := 0) (Nat.le_refl _) (Nat.le_refl _) ?_
  generalize hfe : ot_from x z = ff at *
  refine lv_istore_n (lv' := [(3, .int (nI ff)), (0, .ref m0), (1, .int x), (2, .int y)]) hx hb dX1_tag_5 rfl hl (by decide) rfl (fun ls hl => ?_)
  refine lv_aload_n hx hb dX1_tag_6 rfl (lv_at hl 1 rfl) ?_
  refine lv_iload_n hx hb dX1_tag_7 rfl (lv_at hl 0 rfl) ?_
  refine lv_iload_n hx hb dX1_tag_8 rfl (lv_at hl 3 rfl) ?_
  have hPc := hP.sub (ws' := [(m0, .inr (1, [.ref b1, .int (nI z), .ref b2, .ref b3, .ref b4, .ref b5, .ref b6]))]) [0] rfl
  have hDc := hD.sub (ws' := [(m0, .inr (1, [.ref b1, .int (nI z), .ref b2, .ref b3, .ref b4, .ref b5, .ref b6]))]) [0] (by decide) rfl
  have hKc := hK.sub (tys' := []) [] rfl
  have hFc := va_free (wc := [(m0, .inr (1, [.ref b1, .int (nI z), .ref b2, .ref b3, .ref b4, .ref b5, .ref b6]))]) hD hS hA [0] rfl
  refine va_calli (va_runV (As := [.int (nI ff), .int y]) (rest := []) ⟨hx, hb, hml, hown, hts⟩ (metX1_many l dC dI H.size m0 b1 b2 b3 b4 b5 b6 z ff y hz hfz) (cwV 2 hts (lw_V q240 q242 qs6 q10 q243) rfl rfl rfl (by decide +kernel) ⟨Nat.le_of_ble_eq_true rfl, Nat.le_of_ble_eq_true rfl⟩) ⟨fun a U g mk q => by obtain ⟨q0, q1, qP, qK, qD⟩ := q; exact ⟨q0, q1, qP, va_K.moved (u := U) (U := U.calling g mk a) (Vm.Alike.refl U.vm) qK, qD⟩, va_recv hKc hPc (ci := 1) (q0 := 0) rfl rfl, fun U hU hW => ⟨rfl, by rw [hU], by rw [hU]; exact hPc, va_K.moved hW.alike hKc, hDc.weaken (fun _ _ _ _ => trivial)⟩⟩ rfl rfl hl.1 rfl (lv_room (Nat.le_of_ble_eq_true rfl)) dX1_tag_9 ⟨Nat.le_of_ble_eq_true rfl, Nat.le_of_ble_eq_true rfl⟩) hS (fun q _ h => hFc q h) hFc (fun r_ u_ t H1 locs ht hvm hw_ hB hz1 hk1 hS => ?_)
  obtain ⟨hP1, -, -⟩ := hB
  rw [ht] at hP1
  have hP := ot_back hP hD [0] rfl hk1 hP1
  generalize H1 = H at hP hS ⊢
  have e_ : r_ = nI (ot_from y (z - ff)) := hw_
  subst e_
  refine W.widen (k := 0) (n := 0) (Nat.le_refl _) (Nat.le_refl _) ?_
  generalize hce : ot_from y (z - ff) = cn at *
  refine lv_istore (lv' := [(4, .int (nI cn)), (3, .int (nI ff)), (0, .ref m0), (1, .int x), (2, .int y)]) hx hb dX1_tag_12 hl (by decide) rfl (fun ls hl => ?_)
  refine lv_iconst (v := nI 0) hx hb dX1_tag_14 (by decide) ?_
  refine lv_istore (lv' := [(5, .int (nI 0)), (4, .int (nI cn)), (3, .int (nI ff)), (0, .ref m0), (1, .int x), (2, .int y)]) hx hb dX1_tag_15 hl (by decide) rfl (fun ls hl => ?_)
  refine lpX1_lay hx hb hown hts hgk hK (fun i gr1 gh1 hi q1 H locs hP hD hS ls hl => ?_) 17 0 gr gh (by omega) (fun j hj => absurd hj (Nat.not_lt_zero _)) H locs hP hD hS ls (lv_sub hl [3, 2, 1, 0] rfl)
  subst hi
  refine lv_iconst (v := nI 3) hx hb dX1_tag_64 (by decide) ?_
  refine lv_istore (lv' := [(5, .int (nI 3)), (0, .ref m0), (3, .int (nI ff)), (4, .int (nI cn))]) hx hb dX1_tag_65 hl (by decide) rfl (fun ls hl => ?_)
  refine lpX1_cl1 hx hb hown hts gr1 hK (fun i gr2 hi q2 H locs hP hD hS ls hl => ?_) 4 0 gr1 (by omega) (fun j hj => by rw [if_neg (by omega)]) H locs hP hD hS ls (lv_sub hl [1, 2, 3, 0] rfl)
  subst hi
  have hg1 : ∀ j, j < 17 → gr1 j < 256 := fun j hj => by rw [(q1 j hj).2]; split; exact hgk j (by omega); decide
  have hg2 : ∀ j, j < 17 → gr2 j < 256 := fun j hj => by have := hg1 j hj; rw [q2 j hj]; split <;> omega
  refine lv_iconst (v := nI 4) hx hb dX1_tag_101 (by decide) ?_
  refine lv_istore (lv' := [(5, .int (nI 4)), (0, .ref m0), (3, .int (nI ff)), (4, .int (nI cn))]) hx hb dX1_tag_102 hl (by decide) rfl (fun ls hl => ?_)
  refine lpX1_cl2 hx hb hown hts gr2 hg2 hK (fun i gr3 hi q3 H locs hP hD hS ls hl => ?_) 3 0 gr2 (by omega) (fun j hj => by rw [if_neg (by omega)]) H locs hP hD hS ls (lv_sub hl [1, 2, 3, 0] rfl)
  subst hi
  have hg3 : ∀ j, j < 17 → gr3 j < 256 := fun j hj => by have := hg2 j hj; rw [q3 j hj]; split <;> omega
  have hr3 : ot_dv gr3 17 = ot_r fk := by
    have e16 : gr3 16 = 0 := by rw [q3 16 (by omega), if_neg (by omega), q2 16 (by omega), if_neg (by omega), (q1 16 (by omega)).2, if_neg (by omega)]
    rw [ot_dv_succ gr3 16, e16, Nat.zero_mul, Nat.add_zero]
    unfold ot_r
    refine ot_dv_cong (fun j hj => ?_)
    rw [q3 j (by omega), q2 j (by omega), (q1 j (by omega)).2, if_pos hj, hgf j (by omega)]
    unfold ot_clamp
    (repeat' split) <;> first | rfl | omega
  refine lv_iconst (v := nI 0) hx hb dX1_tag_138 (by decide) ?_
  refine lv_istore (lv' := [(5, .int (nI 0)), (0, .ref m0), (3, .int (nI ff)), (4, .int (nI cn))]) hx hb dX1_tag_139 hl (by decide) rfl (fun ls hl => ?_)
  refine lpX1_blocks hx hb hown hts (by omega) hg3 hA hml (Nat.le_of_ble_eq_true rfl) (Nat.le_of_ble_eq_true rfl) (Nat.le_refl _) (Nat.le_refl _) hK (fun i gh2 gw2 hi q4 q5 H locs hP hD hS ls hl => ?_) ((cn + 15) / 16) 0 gh1 gw (by omega) (fun j hj => by rw [(q1 j hj).1]; decide) (by rw [ot_dv_zero (fun j hj => (q1 j hj).1)]; rfl) H locs hP hD hS ls (lv_sub hl [1, 2, 3, 0] rfl)
  rw [hi, hr3] at q5
  refine lv_lconst (v := lN 0) hx hb dX1_tag_385 rfl ?_
  refine lv_lstore (lv' := [(5, .long (lN 0)), (0, .ref m0), (3, .int (nI ff)), (4, .int (nI cn))]) hx hb dX1_tag_386 hl (by decide) rfl (fun ls hl => ?_)
  refine lv_iconst (v := nI 0) hx hb dX1_tag_388 (by decide) ?_
  refine lv_istore (lv' := [(7, .int (nI 0)), (5, .long (lN 0)), (0, .ref m0), (3, .int (nI ff)), (4, .int (nI cn))]) hx hb dX1_tag_389 hl (by decide) rfl (fun ls hl => ?_)
  refine lpX1_sum hx hb hown hts q4 hgk hK (fun k cc gt2 hk q6 q7 q8 H locs hP hD hS ls hl => ?_) 16 0 0 gt (by omega) (by decide) (fun j hj => absurd hj (Nat.not_lt_zero _)) rfl H locs hP hD hS ls (lv_sub hl [2, 1, 0] rfl)
  subst hk
  have hall : ∀ j, j < 16 → gt2 j = ot_mac fk (fun j => ft (ff + j)) cn / 256 ^ j % 256 := by
    refine ot_digit (z := cc + gh2 16) q7 ?_
    unfold ot_mac
    have es : ot_dv (fun k => gk (16 + k)) 16 = ot_s fk := ot_dv_cong (fun j hj => hgf (16 + j) (by omega))
    rw [← q5, ot_dv_succ gh2 16, ← es, Nat.add_mul]
    omega
  have hP9 := hP.sub (ws' := [(m0, .inr (1, [.ref b1, .int (nI z), .ref b2, .ref b3, .ref b4, .ref b5, .ref b6])), (b1, .inl (d1, 4096, .inl ft)), (b2, .inl (d2, 32, .inl (ot_I gk))), (b3, .inl (d3, 16, .inl (ot_I gt2))), (b4, .inl (d4, 17, .inr (.inl (ot_L gr3)))), (b5, .inl (d5, 17, .inr (.inl (ot_L gh2)))), (b6, .inl (d6, 34, .inr (.inl (ot_L gw2))))]) [0, 1, 2, 3, 4, 5, 6] rfl
  have hD9 := hD.sub (ws' := [(m0, .inr (1, [.ref b1, .int (nI z), .ref b2, .ref b3, .ref b4, .ref b5, .ref b6])), (b1, .inl (d1, 4096, .inl ft)), (b2, .inl (d2, 32, .inl (ot_I gk))), (b3, .inl (d3, 16, .inl (ot_I gt2))), (b4, .inl (d4, 17, .inr (.inl (ot_L gr3)))), (b5, .inl (d5, 17, .inr (.inl (ot_L gh2)))), (b6, .inl (d6, 34, .inr (.inl (ot_L gw2))))]) [0, 1, 2, 3, 4, 5, 6] (by decide) rfl
  have hK9 := hK.sub (tys' := [(d1, .byte), (d2, .int), (d3, .int), (d4, .long), (d5, .long), (d6, .long)]) [0, 1, 2, 3, 4, 5] rfl
  exact W.vret hx hb hr (fun t ht hW => ⟨⟨(gt2, gr3, gh2, gw2), rfl, hall, by rw [ht]; exact hP9, va_K.moved hW.alike hK9, hD9⟩, hS.F ht⟩) hS.2.2 dX1_tag_449
end
section
/-! THE CLAIM OUT OF ONE WALK OF THE LAW'S BODY. Your part is whole_start (and what it stands on); all else here is the same for every law, but numbers. -/
def R_law : String := "OneTimeTagLaw"
def lw_P (b : Addr) (xs : List Int32) (args : Array Value) (s : State) : Prop := args = #[.ref b] ∧ s.IntsAt b xs ∧ xs.length ≤ 384 ∧ (Jvm.Cond.and given_1 narrow_1).before args s = true
def lw_Q (_ : Array Value) (s : State) (o : Outcome) (t : State) : Prop := o = .returned (some (.int 1)) ∧ Framed s o t [] 600128 7301098
def lw_Z (below : List Frame) (a : Array Value) (s : State) : State → Prop := fun t => ∃ o, t.status = .running ∧ Ended t below o ∧ lw_Q a s o t
/-- the law's own end, with 1 on the stack, nothing written that was there before, its room as the claim has it -/
theorem lw_ret {p : Program} {l : Launch} {e : Env} {s : State} {m : MethodId} {below : List Frame} {meth : Method} {c : Code} {b : Nat} (hx : p.tables.exec = Jvm.exec) (hb : c.code = code) (hr : meth.sig.returnType = ret) (hlocks : meth.locks = false) {pc : Nat} {H : Heap} {ls : Array Slot} (hdg : decode code pc = .ok (.ireturn, 1)) : W p l e room_1 s m #[Value.ref b] below meth c H [] 600128 7301098 (lw_Z below #[Value.ref b] s) (F0 m pc ls [.int 1]) := by
  intro T hT X
  obtain ⟨fs, hret, hrun, hended, hW, hframe⟩ := X.leave (v := some (.int 1)) (hlocks := hlocks) (fun h => by rw [hr] at h; cases h)
  have hmeth' : T.vm.method? m = some meth := X.method'
  refine ⟨T.setFrames fs, ?_, .returned (some (.int 1)), hrun, hended, rfl, ⟨_, rfl⟩, hW, hframe⟩
  jvm_step X.here [X.here.top, hx, hb, hdg, hmeth', hr, ret, narrow_b1]
  (try refine ⟨rfl, ?_⟩); (try refine ⟨rfl, ?_⟩)
  first | (intro acts; rw [hret _ acts rfl rfl rfl]) | rw [hret _ _ rfl rfl rfl]
  exact Steps.refl _
/-- what holds at the law's entry: the machine, the code, the tables' words (any of lw_tbl by 'hts w (by decide +kernel)'), the script of L ints xs at the cell b, what the Statement gives of the start (any of its parts by flat_of_before) -/
def lw_At (p : Program) (s : State) (m : MethodId) (meth : Method) (c : Code) (b L : Nat) (xs : Nat → Int32) : Prop :=
  p.tables.exec = Jvm.exec ∧ c.code = code ∧ meth.sig.returnType = ret ∧ c.maxLocals = 4 ∧ s.vm.findClass R_law = some m.cls ∧ (∀ w ∈ lw_tbl, w.before #[Value.ref b] s = true) ∧ va_X b L xs s s.heap ∧ b < s.heap.size ∧ meth.locks = false ∧ (Jvm.Cond.and given_1 narrow_1).before #[Value.ref b] s = true

/-! ===== the law's own loop ===== -/
theorem ot_sld {p : Program} {l : Launch} {e : Env} {R : Room} {s : State} {m : MethodId} {args : Array Value} {below : List Frame} {meth : Method} {c : Code} {H : Heap} {locs : List Loc} {cells slots : Nat} {Q : State → Prop} {pc : Nat} {ls : Array Slot} {rest : List Value} {H0 : Heap} {A : Nat → Prop} {cc : ByteArray} (hexec : p.tables.exec = Jvm.exec) (hb : c.code = cc) {b L : Nat} {xs : Nat → Int32} (hX : va_X b L xs s H0) (hbl : b < H0.size) (hbA : ¬ A b) (hS : va_S A H0 H locs) {k : Nat} (hk : k < L) (hL : L < 2147483648) (hdg : decode cc pc = .ok (.iaload, 1))
    (kk : W p l e R s m args below meth c H locs cells slots Q (F0 m (pc + 1) ls (.int (xs k) :: rest))) : W p l e R s m args below meth c H locs cells slots Q (F0 m pc ls (.int (nI k) :: .ref b :: rest)) := by
  refine va_sld hexec hb hX hbl hbA hS (vp_in_nI hk (by omega)) hdg ?_
  rw [nI_clamp (by omega)]
  exact kk
theorem ot_cmpgt {L i : Nat} (hL : L ≤ 384) (hi : 6 * i ≤ 384) : nI L - nI 6 < nI (6 * i) ↔ L < 6 * i + 6 := by
  rw [Int32.lt_iff_toInt_lt, pk_sub_toInt (by omega) (by omega), nI_toInt (by omega)]
  omega
theorem ot_sb_byte (n : Nat) : (ot_sb n).toInt8.toInt32 = ot_sb n := fb_byte_twice _
theorem ot_by_put {ft F : Nat → Int32} {z : Nat} {x1 x2 x3 x4 : Int32} (h : ∀ j, j < 4096 → (ft j).toInt8.toInt32 = ft j) (hF : ∀ j, F j = if z ≤ j ∧ j < z + 16 then ot_pb x1 x2 x3 x4 (j - z) else ft j) : ∀ j, j < 4096 → (F j).toInt8.toInt32 = F j := by
  intro j hj
  rw [hF]
  split
  · exact ot_sb_byte _
  · exact h j hj
theorem ot_put_same {ft : Nat → Int32} {z : Nat} {x1 x2 x3 x4 r1 r2 : Int32} {u v : Nat × (Nat → Int32)}
    (h1 : (z + 16 ≤ 4096 ∧ r1 = nI 1 ∧ u.1 = z + 16 ∧ ∀ j, u.2 j = if z ≤ j ∧ j < z + 16 then ot_pb x1 x2 x3 x4 (j - z) else ft j) ∨ (4096 < z + 16 ∧ r1 = nI 0 ∧ u = (z, ft)))
    (h2 : (z + 16 ≤ 4096 ∧ r2 = nI 1 ∧ v.1 = z + 16 ∧ ∀ j, v.2 j = if z ≤ j ∧ j < z + 16 then ot_pb x1 x2 x3 x4 (j - z) else ft j) ∨ (4096 < z + 16 ∧ r2 = nI 0 ∧ v = (z, ft))) : r1 = r2 ∧ u = v := by
  rcases h1 with ⟨a1, a2, a3, a4⟩ | ⟨a1, a2, a3⟩ <;> rcases h2 with ⟨b1, b2, b3, b4⟩ | ⟨b1, b2, b3⟩
  · exact ⟨by rw [a2, b2], Prod.ext (by rw [a3, b3]) (funext fun j => by rw [a4, b4])⟩
  · omega
  · omega
  · exact ⟨by rw [a2, b2], by rw [a3, b3]⟩
theorem ot_put_ok {ft : Nat → Int32} {z : Nat} {x1 x2 x3 x4 r1 : Int32} {u : Nat × (Nat → Int32)} (hz : z ≤ 4096) (h : ∀ j, j < 4096 → (ft j).toInt8.toInt32 = ft j)
    (h1 : (z + 16 ≤ 4096 ∧ r1 = nI 1 ∧ u.1 = z + 16 ∧ ∀ j, u.2 j = if z ≤ j ∧ j < z + 16 then ot_pb x1 x2 x3 x4 (j - z) else ft j) ∨ (4096 < z + 16 ∧ r1 = nI 0 ∧ u = (z, ft))) : u.1 ≤ 4096 ∧ ∀ j, j < 4096 → (u.2 j).toInt8.toInt32 = u.2 j := by
  rcases h1 with ⟨a1, a2, a3, a4⟩ | ⟨a1, a2, a3⟩
  · exact ⟨by omega, ot_by_put h a4⟩
  · rw [a3]
    exact ⟨hz, h⟩
set_option maxHeartbeats 8000000 in
set_option maxRecDepth 100000 in
/-- the law's loop at its head: i calls done -/
theorem lpL_law {p : Program} {l : Launch} {e : Env} {s : State} {m : MethodId} {below : List Frame} {meth : Method} {c : Code} {dC : Nat → ClassId} {dI : Nat → Nat → Nat} {b0 L : Nat} {xs : Nat → Int32} {o0 a1 a2 m0 b1 b2 b3 b4 b5 b6 : Nat} {d1 d2 e1 e2 e3 e4 e5 e6 : ClassId} (hx : p.tables.exec = Jvm.exec) (hb : c.code = cL_law) (hr : meth.sig.returnType = ret) (hlocks : meth.locks = false) (hml : c.maxLocals = 4) (hown : s.vm.findClass R_law = some m.cls) (hts : ∀ w ∈ lw_all, w.before #[Value.ref b0] s = true) (hX : va_X b0 L xs s s.heap) (hbl : b0 < s.heap.size) (hL : L ≤ 384) :
    ∀ (n i : Nat) (z a3 : Nat) (d3 : ClassId) (ft fk fg : Nat → Int32) (gk gt gr gh gw : Nat → Nat), n + i = L / 6 → z ≤ 4096 → (∀ j, j < 4096 → (ft j).toInt8.toInt32 = ft j) → (∀ j, j < 32 → gk j = ot_b (fk j)) → (∀ j, j < 16 → gt j = ot_b (fg j)) → ∀ (H : Heap) (locs : List Loc), va_K (dC, dI) vwCl [(d1, .byte), (d2, .byte), (d3, .byte), (e1, .byte), (e2, .int), (e3, .int), (e4, .long), (e5, .long), (e6, .long)] s → va_P (dC, dI) vwCl [(o0, .inr (0, [.ref a1, .int (nI z), .ref a2, .ref a3])), (a1, .inl (d1, 4096, .inl ft)), (a2, .inl (d2, 32, .inl fk)), (a3, .inl (d3, 16, .inl fg)), (m0, .inr (1, [.ref b1, .int (nI z), .ref b2, .ref b3, .ref b4, .ref b5, .ref b6])), (b1, .inl (e1, 4096, .inl ft)), (b2, .inl (e2, 32, .inl (ot_I gk))), (b3, .inl (e3, 16, .inl (ot_I gt))), (b4, .inl (e4, 17, .inr (.inl (ot_L gr)))), (b5, .inl (e5, 17, .inr (.inl (ot_L gh)))), (b6, .inl (e6, 34, .inr (.inl (ot_L gw))))] H → va_D (fun q : Nat => s.heap.size ≤ q) [(o0, .inr (0, [.ref a1, .int (nI z), .ref a2, .ref a3])), (a1, .inl (d1, 4096, .inl ft)), (a2, .inl (d2, 32, .inl fk)), (a3, .inl (d3, 16, .inl fg)), (m0, .inr (1, [.ref b1, .int (nI z), .ref b2, .ref b3, .ref b4, .ref b5, .ref b6])), (b1, .inl (e1, 4096, .inl ft)), (b2, .inl (e2, 32, .inl (ot_I gk))), (b3, .inl (e3, 16, .inl (ot_I gt))), (b4, .inl (e4, 17, .inr (.inl (ot_L gr)))), (b5, .inl (e5, 17, .inr (.inl (ot_L gh)))), (b6, .inl (e6, 34, .inr (.inl (ot_L gw))))] → va_S (fun q : Nat => s.heap.size ≤ q) s.heap H locs → ∀ (ls : Array Slot), lv_has ls 4 [(0, .ref b0), (1, .ref o0), (2, .ref m0), (3, .int (nI (6 * i)))] → W p l e room_1 s m #[Value.ref b0] below meth c H locs (11 + 3 * i) (8367 + 4129 * i) (lw_Z below #[Value.ref b0] s) (F0 m 18 ls []) := by
  have hA : ∀ q : Nat, s.heap.size ≤ q → (fun q : Nat => s.heap.size ≤ q) q := fun _ h => h
  have hbA : ¬ (fun q : Nat => s.heap.size ≤ q) b0 := Nat.not_le.mpr hbl
  intro n
  induction n with
  | zero =>
    intro i z a3 d3 ft fk fg gk gt gr gh gw hn_ hz hby hkey htag H locs hK hP hD hS ls hl
    refine lv_iload_n hx hb dL_law_18 rfl (lv_at hl 3 rfl) ?_
    refine lv_aload_n hx hb dL_law_19 rfl (lv_at hl 0 rfl) ?_
    refine va_slen hx hb hX hbl hbA hS dL_law_20 ?_
    refine lv_bipush (v := nI 6) hx hb dL_law_21 (by decide) ?_
    refine lv_isub hx hb dL_law_23 ?_
    refine lv_icmp_gt (tgt := 280) hx hb dL_law_24 (by decide) (fun c_ => ?_) (fun c_ => absurd c_ (not_not_intro ((ot_cmpgt hL (by omega)).mpr (by omega))))
    refine lv_iconst (v := 1) hx hb dL_law_280 (by decide) ?_
    refine W.widen (k := 600128) (n := 7301098) (by omega) (by omega) ?_
    refine va_forget (fun q hq => hS.2.2 q hq) ?_
    exact lw_ret hx hb hr hlocks dL_law_281
  | succ n ih =>
    intro i z a3 d3 ft fk fg gk gt gr gh gw hn_ hz hby hkey htag H locs hK hP hD hS ls hl
    refine lv_iload_n hx hb dL_law_18 rfl (lv_at hl 3 rfl) ?_
    refine lv_aload_n hx hb dL_law_19 rfl (lv_at hl 0 rfl) ?_
    refine va_slen hx hb hX hbl hbA hS dL_law_20 ?_
    refine lv_bipush (v := nI 6) hx hb dL_law_21 (by decide) ?_
    refine lv_isub hx hb dL_law_23 ?_
    refine lv_icmp_gt (tgt := 280) hx hb dL_law_24 (by decide) (fun c_ => absurd c_ (fun q => absurd ((ot_cmpgt hL (by omega)).mp q) (by omega))) (fun c_ => ?_)
    refine lv_aload_n hx hb dL_law_27 rfl (lv_at hl 0 rfl) ?_
    refine lv_iload_n hx hb dL_law_28 rfl (lv_at hl 3 rfl) ?_
    refine ot_sld (k := (6 * i)) hx hb hX hbl hbA hS (by omega) (by omega) dL_law_29 ?_
    refine lv_bipush (v := nI 15) hx hb dL_law_30 (by decide) ?_
    refine lv_iand hx hb dL_law_32 ?_
    refine ot_topi (nI ((xs (6 * i)).toBitVec.toNat % 2 ^ 4)) (pk_and _ 4 (by decide)) ?_
    obtain ⟨kc, ekc⟩ : ∃ y : Nat, y = (xs (6 * i)).toBitVec.toNat % 2 ^ 4 := ⟨_, rfl⟩
    rw [← ekc]
    have hkc : kc < 16 := by rw [ekc]; exact Nat.mod_lt _ (by decide)
    rcases (show kc = 0 ∨ kc = 1 ∨ kc = 2 ∨ kc = 3 ∨ kc = 4 ∨ kc = 5 ∨ 6 ≤ kc by omega) with rfl | rfl | rfl | rfl | rfl | rfl | hk6
    · refine lv_tableIn (off := 39) (tgt := 72) hx hb dL_law_33 (by decide) (by decide) (by decide) (by decide) ?_
      refine lv_aload_n hx hb dL_law_72 rfl (lv_at hl 1 rfl) ?_
      refine lv_aload_n hx hb dL_law_73 rfl (lv_at hl 0 rfl) ?_
      refine lv_iload_n hx hb dL_law_74 rfl (lv_at hl 3 rfl) ?_
      refine lv_iconst (v := nI 1) hx hb dL_law_75 (by decide) ?_
      refine lv_iadd hx hb dL_law_76 ?_
      refine ot_topi (nI (6 * i + 1)) (nI_add _ _) ?_
      refine ot_sld (k := (6 * i + 1)) hx hb hX hbl hbA hS (by omega) (by omega) dL_law_77 ?_
      refine lv_aload_n hx hb dL_law_78 rfl (lv_at hl 0 rfl) ?_
      refine lv_iload_n hx hb dL_law_79 rfl (lv_at hl 3 rfl) ?_
      refine lv_iconst (v := nI 2) hx hb dL_law_80 (by decide) ?_
      refine lv_iadd hx hb dL_law_81 ?_
      refine ot_topi (nI (6 * i + 2)) (nI_add _ _) ?_
      refine ot_sld (k := (6 * i + 2)) hx hb hX hbl hbA hS (by omega) (by omega) dL_law_82 ?_
      refine lv_aload_n hx hb dL_law_83 rfl (lv_at hl 0 rfl) ?_
      refine lv_iload_n hx hb dL_law_84 rfl (lv_at hl 3 rfl) ?_
      refine lv_iconst (v := nI 3) hx hb dL_law_85 (by decide) ?_
      refine lv_iadd hx hb dL_law_86 ?_
      refine ot_topi (nI (6 * i + 3)) (nI_add _ _) ?_
      refine ot_sld (k := (6 * i + 3)) hx hb hX hbl hbA hS (by omega) (by omega) dL_law_87 ?_
      refine lv_aload_n hx hb dL_law_88 rfl (lv_at hl 0 rfl) ?_
      refine lv_iload_n hx hb dL_law_89 rfl (lv_at hl 3 rfl) ?_
      refine lv_iconst (v := nI 4) hx hb dL_law_90 (by decide) ?_
      refine lv_iadd hx hb dL_law_91 ?_
      refine ot_topi (nI (6 * i + 4)) (nI_add _ _) ?_
      refine ot_sld (k := (6 * i + 4)) hx hb hX hbl hbA hS (by omega) (by omega) dL_law_92 ?_
      have hPc := hP.sub (ws' := [(o0, .inr (0, [.ref a1, .int (nI z), .ref a2, .ref a3])), (a1, .inl (d1, 4096, .inl ft)), (a2, .inl (d2, 32, .inl fk)), (a3, .inl (d3, 16, .inl fg))]) [0, 1, 2, 3] rfl
      have hDc := hD.sub (ws' := [(o0, .inr (0, [.ref a1, .int (nI z), .ref a2, .ref a3])), (a1, .inl (d1, 4096, .inl ft)), (a2, .inl (d2, 32, .inl fk)), (a3, .inl (d3, 16, .inl fg))]) [0, 1, 2, 3] (by decide) rfl
      have hKc := hK.sub (tys' := [(d1, .byte), (d2, .byte), (d3, .byte)]) [0, 1, 2] rfl
      have hFc := va_free (wc := [(o0, .inr (0, [.ref a1, .int (nI z), .ref a2, .ref a3])), (a1, .inl (d1, 4096, .inl ft)), (a2, .inl (d2, 32, .inl fk)), (a3, .inl (d3, 16, .inl fg))]) hD hS hA [0, 1, 2, 3] rfl
      refine va_calli (va_runV (As := [.int (xs (6 * i + 1)), .int (xs (6 * i + 2)), .int (xs (6 * i + 3)), .int (xs (6 * i + 4))]) (rest := []) ⟨hx, hb, hml, hown, hts⟩ (metX0_put l dC dI H.size o0 a1 a2 a3 d1 d2 d3 ft fk fg z (xs (6 * i + 1)) (xs (6 * i + 2)) (xs (6 * i + 3)) (xs (6 * i + 4)) hz) (cwV 4 hts (lw_V q41 q42 q43 q9 q44) rfl rfl rfl (by decide +kernel) ⟨Nat.le_of_ble_eq_true rfl, Nat.le_of_ble_eq_true rfl⟩) ⟨fun a U g mk q => by obtain ⟨q0, q1, qP, qK, qD⟩ := q; exact ⟨q0, q1, qP, va_K.moved (u := U) (U := U.calling g mk a) (Vm.Alike.refl U.vm) qK, qD⟩, va_recv hKc hPc (ci := 0) (q0 := 0) rfl rfl, fun U hU hW => ⟨rfl, by rw [hU], by rw [hU]; exact hPc, va_K.moved hW.alike hKc, hDc.weaken (fun _ _ _ _ => trivial)⟩⟩ rfl rfl hl.1 rfl (lv_room (Nat.le_of_ble_eq_true rfl)) dL_law_93 ⟨by show _ ≤ 600128; omega, by show _ ≤ 7301098; omega⟩) hS (fun q _ h => hFc q h) hFc (fun r1 u1 t H1 locs ht hvm hw_ hB hz1 hk1 hS => ?_)
      obtain ⟨hP1, hK1, hD1⟩ := hB
      rw [ht] at hP1
      have hK1 := va_K.moved hvm.symm hK1
      obtain ⟨hP, hD⟩ := va_join (wr := [(m0, .inr (1, [.ref b1, .int (nI z), .ref b2, .ref b3, .ref b4, .ref b5, .ref b6])), (b1, .inl (e1, 4096, .inl ft)), (b2, .inl (e2, 32, .inl (ot_I gk))), (b3, .inl (e3, 16, .inl (ot_I gt))), (b4, .inl (e4, 17, .inr (.inl (ot_L gr)))), (b5, .inl (e5, 17, .inr (.inl (ot_L gh)))), (b6, .inl (e6, 34, .inr (.inl (ot_L gw))))]) (w1 := [(o0, .inr (0, [.ref a1, .int (nI u1.1), .ref a2, .ref a3])), (a1, .inl (d1, 4096, .inl u1.2)), (a2, .inl (d2, 32, .inl fk)), (a3, .inl (d3, 16, .inl fg))]) hP hD [0, 1, 2, 3] [4, 5, 6, 7, 8, 9, 10] rfl rfl (by decide) (by decide) hk1 hFc hP1 hD1
      generalize H1 = H at hP hS ⊢
      have hP := hP.sub (ws' := [(o0, .inr (0, [.ref a1, .int (nI u1.1), .ref a2, .ref a3])), (a1, .inl (d1, 4096, .inl u1.2)), (a2, .inl (d2, 32, .inl fk)), (a3, .inl (d3, 16, .inl fg)), (m0, .inr (1, [.ref b1, .int (nI z), .ref b2, .ref b3, .ref b4, .ref b5, .ref b6])), (b1, .inl (e1, 4096, .inl ft)), (b2, .inl (e2, 32, .inl (ot_I gk))), (b3, .inl (e3, 16, .inl (ot_I gt))), (b4, .inl (e4, 17, .inr (.inl (ot_L gr)))), (b5, .inl (e5, 17, .inr (.inl (ot_L gh)))), (b6, .inl (e6, 34, .inr (.inl (ot_L gw))))]) [7, 8, 9, 10, 0, 1, 2, 3, 4, 5, 6] rfl
      have hD := hD.sub (ws' := [(o0, .inr (0, [.ref a1, .int (nI u1.1), .ref a2, .ref a3])), (a1, .inl (d1, 4096, .inl u1.2)), (a2, .inl (d2, 32, .inl fk)), (a3, .inl (d3, 16, .inl fg)), (m0, .inr (1, [.ref b1, .int (nI z), .ref b2, .ref b3, .ref b4, .ref b5, .ref b6])), (b1, .inl (e1, 4096, .inl ft)), (b2, .inl (e2, 32, .inl (ot_I gk))), (b3, .inl (e3, 16, .inl (ot_I gt))), (b4, .inl (e4, 17, .inr (.inl (ot_L gr)))), (b5, .inl (e5, 17, .inr (.inl (ot_L gh)))), (b6, .inl (e6, 34, .inr (.inl (ot_L gw))))]) [7, 8, 9, 10, 0, 1, 2, 3, 4, 5, 6] (by decide) rfl
      have hw1 := hw_
      refine W.widen (k := 11 + 3 * i) (n := 8367 + 4129 * i) (Nat.le_refl _) (Nat.le_refl _) ?_
      refine lv_aload_n hx hb dL_law_96 rfl (lv_at hl 2 rfl) ?_
      refine lv_aload_n hx hb dL_law_97 rfl (lv_at hl 0 rfl) ?_
      refine lv_iload_n hx hb dL_law_98 rfl (lv_at hl 3 rfl) ?_
      refine lv_iconst (v := nI 1) hx hb dL_law_99 (by decide) ?_
      refine lv_iadd hx hb dL_law_100 ?_
      refine ot_topi (nI (6 * i + 1)) (nI_add _ _) ?_
      refine ot_sld (k := (6 * i + 1)) hx hb hX hbl hbA hS (by omega) (by omega) dL_law_101 ?_
      refine lv_aload_n hx hb dL_law_102 rfl (lv_at hl 0 rfl) ?_
      refine lv_iload_n hx hb dL_law_103 rfl (lv_at hl 3 rfl) ?_
      refine lv_iconst (v := nI 2) hx hb dL_law_104 (by decide) ?_
      refine lv_iadd hx hb dL_law_105 ?_
      refine ot_topi (nI (6 * i + 2)) (nI_add _ _) ?_
      refine ot_sld (k := (6 * i + 2)) hx hb hX hbl hbA hS (by omega) (by omega) dL_law_106 ?_
      refine lv_aload_n hx hb dL_law_107 rfl (lv_at hl 0 rfl) ?_
      refine lv_iload_n hx hb dL_law_108 rfl (lv_at hl 3 rfl) ?_
      refine lv_iconst (v := nI 3) hx hb dL_law_109 (by decide) ?_
      refine lv_iadd hx hb dL_law_110 ?_
      refine ot_topi (nI (6 * i + 3)) (nI_add _ _) ?_
      refine ot_sld (k := (6 * i + 3)) hx hb hX hbl hbA hS (by omega) (by omega) dL_law_111 ?_
      refine lv_aload_n hx hb dL_law_112 rfl (lv_at hl 0 rfl) ?_
      refine lv_iload_n hx hb dL_law_113 rfl (lv_at hl 3 rfl) ?_
      refine lv_iconst (v := nI 4) hx hb dL_law_114 (by decide) ?_
      refine lv_iadd hx hb dL_law_115 ?_
      refine ot_topi (nI (6 * i + 4)) (nI_add _ _) ?_
      refine ot_sld (k := (6 * i + 4)) hx hb hX hbl hbA hS (by omega) (by omega) dL_law_116 ?_
      have hPc := hP.sub (ws' := [(m0, .inr (1, [.ref b1, .int (nI z), .ref b2, .ref b3, .ref b4, .ref b5, .ref b6])), (b1, .inl (e1, 4096, .inl ft))]) [4, 5] rfl
      have hDc := hD.sub (ws' := [(m0, .inr (1, [.ref b1, .int (nI z), .ref b2, .ref b3, .ref b4, .ref b5, .ref b6])), (b1, .inl (e1, 4096, .inl ft))]) [4, 5] (by decide) rfl
      have hKc := hK.sub (tys' := [(e1, .byte)]) [3] rfl
      have hFc := va_free (wc := [(m0, .inr (1, [.ref b1, .int (nI z), .ref b2, .ref b3, .ref b4, .ref b5, .ref b6])), (b1, .inl (e1, 4096, .inl ft))]) hD hS hA [4, 5] rfl
      refine va_calli (va_runV (As := [.int (xs (6 * i + 1)), .int (xs (6 * i + 2)), .int (xs (6 * i + 3)), .int (xs (6 * i + 4))]) (rest := [.int r1]) ⟨hx, hb, hml, hown, hts⟩ (metX1_put l dC dI H.size m0 b1 b2 b3 b4 b5 b6 z e1 ft (xs (6 * i + 1)) (xs (6 * i + 2)) (xs (6 * i + 3)) (xs (6 * i + 4)) hz) (cwV 4 hts (lw_V q215 q216 q217 q10 q218) rfl rfl rfl (by decide +kernel) ⟨Nat.le_of_ble_eq_true rfl, Nat.le_of_ble_eq_true rfl⟩) ⟨fun a U g mk q => by obtain ⟨q0, q1, qP, qK, qD⟩ := q; exact ⟨q0, q1, qP, va_K.moved (u := U) (U := U.calling g mk a) (Vm.Alike.refl U.vm) qK, qD⟩, va_recv hKc hPc (ci := 1) (q0 := 0) rfl rfl, fun U hU hW => ⟨rfl, by rw [hU], by rw [hU]; exact hPc, va_K.moved hW.alike hKc, hDc.weaken (fun _ _ _ _ => trivial)⟩⟩ rfl rfl hl.1 rfl (lv_room (Nat.le_of_ble_eq_true rfl)) dL_law_117 ⟨by show _ ≤ 600128; omega, by show _ ≤ 7301098; omega⟩) hS (fun q _ h => hFc q h) hFc (fun r2 u2 t H1 locs ht hvm hw_ hB hz1 hk1 hS => ?_)
      obtain ⟨hP1, hK1, hD1⟩ := hB
      rw [ht] at hP1
      have hK1 := va_K.moved hvm.symm hK1
      obtain ⟨hP, hD⟩ := va_join (wr := [(o0, .inr (0, [.ref a1, .int (nI u1.1), .ref a2, .ref a3])), (a1, .inl (d1, 4096, .inl u1.2)), (a2, .inl (d2, 32, .inl fk)), (a3, .inl (d3, 16, .inl fg)), (b2, .inl (e2, 32, .inl (ot_I gk))), (b3, .inl (e3, 16, .inl (ot_I gt))), (b4, .inl (e4, 17, .inr (.inl (ot_L gr)))), (b5, .inl (e5, 17, .inr (.inl (ot_L gh)))), (b6, .inl (e6, 34, .inr (.inl (ot_L gw))))]) (w1 := [(m0, .inr (1, [.ref b1, .int (nI u2.1), .ref b2, .ref b3, .ref b4, .ref b5, .ref b6])), (b1, .inl (e1, 4096, .inl u2.2))]) hP hD [4, 5] [0, 1, 2, 3, 6, 7, 8, 9, 10] rfl rfl (by decide) (by decide) hk1 hFc hP1 hD1
      generalize H1 = H at hP hS ⊢
      have hP := hP.sub (ws' := [(o0, .inr (0, [.ref a1, .int (nI u1.1), .ref a2, .ref a3])), (a1, .inl (d1, 4096, .inl u1.2)), (a2, .inl (d2, 32, .inl fk)), (a3, .inl (d3, 16, .inl fg)), (m0, .inr (1, [.ref b1, .int (nI u2.1), .ref b2, .ref b3, .ref b4, .ref b5, .ref b6])), (b1, .inl (e1, 4096, .inl u2.2)), (b2, .inl (e2, 32, .inl (ot_I gk))), (b3, .inl (e3, 16, .inl (ot_I gt))), (b4, .inl (e4, 17, .inr (.inl (ot_L gr)))), (b5, .inl (e5, 17, .inr (.inl (ot_L gh)))), (b6, .inl (e6, 34, .inr (.inl (ot_L gw))))]) [0, 1, 2, 3, 9, 10, 4, 5, 6, 7, 8] rfl
      have hD := hD.sub (ws' := [(o0, .inr (0, [.ref a1, .int (nI u1.1), .ref a2, .ref a3])), (a1, .inl (d1, 4096, .inl u1.2)), (a2, .inl (d2, 32, .inl fk)), (a3, .inl (d3, 16, .inl fg)), (m0, .inr (1, [.ref b1, .int (nI u2.1), .ref b2, .ref b3, .ref b4, .ref b5, .ref b6])), (b1, .inl (e1, 4096, .inl u2.2)), (b2, .inl (e2, 32, .inl (ot_I gk))), (b3, .inl (e3, 16, .inl (ot_I gt))), (b4, .inl (e4, 17, .inr (.inl (ot_L gr)))), (b5, .inl (e5, 17, .inr (.inl (ot_L gh)))), (b6, .inl (e6, 34, .inr (.inl (ot_L gw))))]) [0, 1, 2, 3, 9, 10, 4, 5, 6, 7, 8] (by decide) rfl
      refine W.widen (k := 11 + 3 * i) (n := 8367 + 4129 * i) (Nat.le_refl _) (Nat.le_refl _) ?_
      obtain ⟨hr12, hu12⟩ := ot_put_same hw1 hw_
      subst hu12
      obtain ⟨hz2, hby2⟩ := ot_put_ok hz hby hw1
      refine lv_icmp_eq (tgt := 274) hx hb dL_law_120 (by decide) (fun c_ => ?_) (fun c_ => absurd c_ (not_not_intro hr12))
      refine lv_iinc (v := nI (6 * (i + 1))) (lv' := [(3, .int (nI (6 * (i + 1)))), (0, .ref b0), (1, .ref o0), (2, .ref m0)]) hx hb dL_law_274 hl (k := 3) rfl (ot_inc (6 * i) 6) (by decide) rfl (fun ls hl => ?_)
      refine lv_goto (tgt := 18) hx hb dL_law_277 (by decide) ?_
      refine W.widen (k := 11 + 3 * (i + 1)) (n := 8367 + 4129 * (i + 1)) (by omega) (by omega) ?_
      exact ih (i + 1) u1.1 a3 d3 u1.2 fk fg gk gt gr gh gw (by omega) hz2 hby2 hkey htag H locs hK hP hD hS ls (lv_sub hl [1, 2, 3, 0] rfl)
    · refine lv_tableIn (off := 92) (tgt := 125) hx hb dL_law_33 (by decide) (by decide) (by decide) (by decide) ?_
      refine lv_aload_n hx hb dL_law_125 rfl (lv_at hl 1 rfl) ?_
      refine lv_aload_n hx hb dL_law_126 rfl (lv_at hl 0 rfl) ?_
      refine lv_iload_n hx hb dL_law_127 rfl (lv_at hl 3 rfl) ?_
      refine lv_iconst (v := nI 1) hx hb dL_law_128 (by decide) ?_
      refine lv_iadd hx hb dL_law_129 ?_
      refine ot_topi (nI (6 * i + 1)) (nI_add _ _) ?_
      refine ot_sld (k := (6 * i + 1)) hx hb hX hbl hbA hS (by omega) (by omega) dL_law_130 ?_
      have hPc := hP.sub (ws' := [(o0, .inr (0, [.ref a1, .int (nI z), .ref a2, .ref a3])), (a1, .inl (d1, 4096, .inl ft)), (a2, .inl (d2, 32, .inl fk)), (a3, .inl (d3, 16, .inl fg))]) [0, 1, 2, 3] rfl
      have hDc := hD.sub (ws' := [(o0, .inr (0, [.ref a1, .int (nI z), .ref a2, .ref a3])), (a1, .inl (d1, 4096, .inl ft)), (a2, .inl (d2, 32, .inl fk)), (a3, .inl (d3, 16, .inl fg))]) [0, 1, 2, 3] (by decide) rfl
      have hKc := hK.sub (tys' := [(d1, .byte), (d2, .byte), (d3, .byte)]) [0, 1, 2] rfl
      have hFc := va_free (wc := [(o0, .inr (0, [.ref a1, .int (nI z), .ref a2, .ref a3])), (a1, .inl (d1, 4096, .inl ft)), (a2, .inl (d2, 32, .inl fk)), (a3, .inl (d3, 16, .inl fg))]) hD hS hA [0, 1, 2, 3] rfl
      refine va_callv (va_runV (As := [.int (xs (6 * i + 1))]) (rest := []) ⟨hx, hb, hml, hown, hts⟩ (metX0_trim l dC dI H.size o0 a1 a2 a3 d1 d2 d3 ft fk fg z (xs (6 * i + 1)) hz) (cwV 1 hts (lw_V q49 q50 q51 q9 q52) rfl rfl rfl (by decide +kernel) ⟨Nat.le_of_ble_eq_true rfl, Nat.le_of_ble_eq_true rfl⟩) ⟨fun a U g mk q => by obtain ⟨q0, q1, qP, qK, qD⟩ := q; exact ⟨q0, q1, qP, va_K.moved (u := U) (U := U.calling g mk a) (Vm.Alike.refl U.vm) qK, qD⟩, va_recv hKc hPc (ci := 0) (q0 := 0) rfl rfl, fun U hU hW => ⟨rfl, by rw [hU], by rw [hU]; exact hPc, va_K.moved hW.alike hKc, hDc.weaken (fun _ _ _ _ => trivial)⟩⟩ rfl rfl hl.1 rfl (lv_room (Nat.le_of_ble_eq_true rfl)) dL_law_131 ⟨by show _ ≤ 600128; omega, by show _ ≤ 7301098; omega⟩) hS (fun q _ h => hFc q h) hFc (fun u_ t H1 locs ht hvm hw_ hB hz1 hk1 hS => ?_)
      obtain ⟨hP1, hK1, hD1⟩ := hB
      rw [ht] at hP1
      have hK1 := va_K.moved hvm.symm hK1
      obtain ⟨hP, hD⟩ := va_join (wr := [(m0, .inr (1, [.ref b1, .int (nI z), .ref b2, .ref b3, .ref b4, .ref b5, .ref b6])), (b1, .inl (e1, 4096, .inl ft)), (b2, .inl (e2, 32, .inl (ot_I gk))), (b3, .inl (e3, 16, .inl (ot_I gt))), (b4, .inl (e4, 17, .inr (.inl (ot_L gr)))), (b5, .inl (e5, 17, .inr (.inl (ot_L gh)))), (b6, .inl (e6, 34, .inr (.inl (ot_L gw))))]) (w1 := [(o0, .inr (0, [.ref a1, .int (nI (ot_from (xs (6 * i + 1)) z)), .ref a2, .ref a3])), (a1, .inl (d1, 4096, .inl ft)), (a2, .inl (d2, 32, .inl fk)), (a3, .inl (d3, 16, .inl fg))]) hP hD [0, 1, 2, 3] [4, 5, 6, 7, 8, 9, 10] rfl rfl (by decide) (by decide) hk1 hFc hP1 hD1
      generalize H1 = H at hP hS ⊢
      have hP := hP.sub (ws' := [(o0, .inr (0, [.ref a1, .int (nI (ot_from (xs (6 * i + 1)) z)), .ref a2, .ref a3])), (a1, .inl (d1, 4096, .inl ft)), (a2, .inl (d2, 32, .inl fk)), (a3, .inl (d3, 16, .inl fg)), (m0, .inr (1, [.ref b1, .int (nI z), .ref b2, .ref b3, .ref b4, .ref b5, .ref b6])), (b1, .inl (e1, 4096, .inl ft)), (b2, .inl (e2, 32, .inl (ot_I gk))), (b3, .inl (e3, 16, .inl (ot_I gt))), (b4, .inl (e4, 17, .inr (.inl (ot_L gr)))), (b5, .inl (e5, 17, .inr (.inl (ot_L gh)))), (b6, .inl (e6, 34, .inr (.inl (ot_L gw))))]) [7, 8, 9, 10, 0, 1, 2, 3, 4, 5, 6] rfl
      have hD := hD.sub (ws' := [(o0, .inr (0, [.ref a1, .int (nI (ot_from (xs (6 * i + 1)) z)), .ref a2, .ref a3])), (a1, .inl (d1, 4096, .inl ft)), (a2, .inl (d2, 32, .inl fk)), (a3, .inl (d3, 16, .inl fg)), (m0, .inr (1, [.ref b1, .int (nI z), .ref b2, .ref b3, .ref b4, .ref b5, .ref b6])), (b1, .inl (e1, 4096, .inl ft)), (b2, .inl (e2, 32, .inl (ot_I gk))), (b3, .inl (e3, 16, .inl (ot_I gt))), (b4, .inl (e4, 17, .inr (.inl (ot_L gr)))), (b5, .inl (e5, 17, .inr (.inl (ot_L gh)))), (b6, .inl (e6, 34, .inr (.inl (ot_L gw))))]) [7, 8, 9, 10, 0, 1, 2, 3, 4, 5, 6] (by decide) rfl
      refine W.widen (k := 11 + 3 * i) (n := 8367 + 4129 * i) (Nat.le_refl _) (Nat.le_refl _) ?_
      refine lv_aload_n hx hb dL_law_134 rfl (lv_at hl 2 rfl) ?_
      refine lv_aload_n hx hb dL_law_135 rfl (lv_at hl 0 rfl) ?_
      refine lv_iload_n hx hb dL_law_136 rfl (lv_at hl 3 rfl) ?_
      refine lv_iconst (v := nI 1) hx hb dL_law_137 (by decide) ?_
      refine lv_iadd hx hb dL_law_138 ?_
      refine ot_topi (nI (6 * i + 1)) (nI_add _ _) ?_
      refine ot_sld (k := (6 * i + 1)) hx hb hX hbl hbA hS (by omega) (by omega) dL_law_139 ?_
      have hPc := hP.sub (ws' := [(m0, .inr (1, [.ref b1, .int (nI z), .ref b2, .ref b3, .ref b4, .ref b5, .ref b6]))]) [4] rfl
      have hDc := hD.sub (ws' := [(m0, .inr (1, [.ref b1, .int (nI z), .ref b2, .ref b3, .ref b4, .ref b5, .ref b6]))]) [4] (by decide) rfl
      have hKc := hK.sub (tys' := []) [] rfl
      have hFc := va_free (wc := [(m0, .inr (1, [.ref b1, .int (nI z), .ref b2, .ref b3, .ref b4, .ref b5, .ref b6]))]) hD hS hA [4] rfl
      refine va_callv (va_runV (As := [.int (xs (6 * i + 1))]) (rest := []) ⟨hx, hb, hml, hown, hts⟩ (metX1_trim l dC dI H.size m0 b1 b2 b3 b4 b5 b6 z (xs (6 * i + 1)) hz) (cwV 1 hts (lw_V q219 q220 q221 q10 q222) rfl rfl rfl (by decide +kernel) ⟨Nat.le_of_ble_eq_true rfl, Nat.le_of_ble_eq_true rfl⟩) ⟨fun a U g mk q => by obtain ⟨q0, q1, qP, qK, qD⟩ := q; exact ⟨q0, q1, qP, va_K.moved (u := U) (U := U.calling g mk a) (Vm.Alike.refl U.vm) qK, qD⟩, va_recv hKc hPc (ci := 1) (q0 := 0) rfl rfl, fun U hU hW => ⟨rfl, by rw [hU], by rw [hU]; exact hPc, va_K.moved hW.alike hKc, hDc.weaken (fun _ _ _ _ => trivial)⟩⟩ rfl rfl hl.1 rfl (lv_room (Nat.le_of_ble_eq_true rfl)) dL_law_140 ⟨by show _ ≤ 600128; omega, by show _ ≤ 7301098; omega⟩) hS (fun q _ h => hFc q h) hFc (fun u_ t H1 locs ht hvm hw_ hB hz1 hk1 hS => ?_)
      obtain ⟨hP1, hK1, hD1⟩ := hB
      rw [ht] at hP1
      have hK1 := va_K.moved hvm.symm hK1
      obtain ⟨hP, hD⟩ := va_join (wr := [(o0, .inr (0, [.ref a1, .int (nI (ot_from (xs (6 * i + 1)) z)), .ref a2, .ref a3])), (a1, .inl (d1, 4096, .inl ft)), (a2, .inl (d2, 32, .inl fk)), (a3, .inl (d3, 16, .inl fg)), (b1, .inl (e1, 4096, .inl ft)), (b2, .inl (e2, 32, .inl (ot_I gk))), (b3, .inl (e3, 16, .inl (ot_I gt))), (b4, .inl (e4, 17, .inr (.inl (ot_L gr)))), (b5, .inl (e5, 17, .inr (.inl (ot_L gh)))), (b6, .inl (e6, 34, .inr (.inl (ot_L gw))))]) (w1 := [(m0, .inr (1, [.ref b1, .int (nI (ot_from (xs (6 * i + 1)) z)), .ref b2, .ref b3, .ref b4, .ref b5, .ref b6]))]) hP hD [4] [0, 1, 2, 3, 5, 6, 7, 8, 9, 10] rfl rfl (by decide) (by decide) hk1 hFc hP1 hD1
      generalize H1 = H at hP hS ⊢
      have hP := hP.sub (ws' := [(o0, .inr (0, [.ref a1, .int (nI (ot_from (xs (6 * i + 1)) z)), .ref a2, .ref a3])), (a1, .inl (d1, 4096, .inl ft)), (a2, .inl (d2, 32, .inl fk)), (a3, .inl (d3, 16, .inl fg)), (m0, .inr (1, [.ref b1, .int (nI (ot_from (xs (6 * i + 1)) z)), .ref b2, .ref b3, .ref b4, .ref b5, .ref b6])), (b1, .inl (e1, 4096, .inl ft)), (b2, .inl (e2, 32, .inl (ot_I gk))), (b3, .inl (e3, 16, .inl (ot_I gt))), (b4, .inl (e4, 17, .inr (.inl (ot_L gr)))), (b5, .inl (e5, 17, .inr (.inl (ot_L gh)))), (b6, .inl (e6, 34, .inr (.inl (ot_L gw))))]) [0, 1, 2, 3, 10, 4, 5, 6, 7, 8, 9] rfl
      have hD := hD.sub (ws' := [(o0, .inr (0, [.ref a1, .int (nI (ot_from (xs (6 * i + 1)) z)), .ref a2, .ref a3])), (a1, .inl (d1, 4096, .inl ft)), (a2, .inl (d2, 32, .inl fk)), (a3, .inl (d3, 16, .inl fg)), (m0, .inr (1, [.ref b1, .int (nI (ot_from (xs (6 * i + 1)) z)), .ref b2, .ref b3, .ref b4, .ref b5, .ref b6])), (b1, .inl (e1, 4096, .inl ft)), (b2, .inl (e2, 32, .inl (ot_I gk))), (b3, .inl (e3, 16, .inl (ot_I gt))), (b4, .inl (e4, 17, .inr (.inl (ot_L gr)))), (b5, .inl (e5, 17, .inr (.inl (ot_L gh)))), (b6, .inl (e6, 34, .inr (.inl (ot_L gw))))]) [0, 1, 2, 3, 10, 4, 5, 6, 7, 8, 9] (by decide) rfl
      refine W.widen (k := 11 + 3 * i) (n := 8367 + 4129 * i) (Nat.le_refl _) (Nat.le_refl _) ?_
      refine lv_goto (tgt := 274) hx hb dL_law_143 (by decide) ?_
      refine lv_iinc (v := nI (6 * (i + 1))) (lv' := [(3, .int (nI (6 * (i + 1)))), (0, .ref b0), (1, .ref o0), (2, .ref m0)]) hx hb dL_law_274 hl (k := 3) rfl (ot_inc (6 * i) 6) (by decide) rfl (fun ls hl => ?_)
      refine lv_goto (tgt := 18) hx hb dL_law_277 (by decide) ?_
      refine W.widen (k := 11 + 3 * (i + 1)) (n := 8367 + 4129 * (i + 1)) (by omega) (by omega) ?_
      exact ih (i + 1) (ot_from (xs (6 * i + 1)) z) a3 d3 ft fk fg gk gt gr gh gw (by omega) (Nat.le_trans (ot_from_le _ _) hz) hby hkey htag H locs hK hP hD hS ls (lv_sub hl [1, 2, 3, 0] rfl)
    · refine lv_tableIn (off := 113) (tgt := 146) hx hb dL_law_33 (by decide) (by decide) (by decide) (by decide) ?_
      refine lv_aload_n hx hb dL_law_146 rfl (lv_at hl 1 rfl) ?_
      have hPc := hP.sub (ws' := [(o0, .inr (0, [.ref a1, .int (nI z), .ref a2, .ref a3])), (a1, .inl (d1, 4096, .inl ft)), (a2, .inl (d2, 32, .inl fk)), (a3, .inl (d3, 16, .inl fg))]) [0, 1, 2, 3] rfl
      have hDc := hD.sub (ws' := [(o0, .inr (0, [.ref a1, .int (nI z), .ref a2, .ref a3])), (a1, .inl (d1, 4096, .inl ft)), (a2, .inl (d2, 32, .inl fk)), (a3, .inl (d3, 16, .inl fg))]) [0, 1, 2, 3] (by decide) rfl
      have hKc := hK.sub (tys' := [(d1, .byte), (d2, .byte), (d3, .byte)]) [0, 1, 2] rfl
      have hFc := va_free (wc := [(o0, .inr (0, [.ref a1, .int (nI z), .ref a2, .ref a3])), (a1, .inl (d1, 4096, .inl ft)), (a2, .inl (d2, 32, .inl fk)), (a3, .inl (d3, 16, .inl fg))]) hD hS hA [0, 1, 2, 3] rfl
      refine va_calli (va_runV (As := []) (rest := []) ⟨hx, hb, hml, hown, hts⟩ (metX0_size l dC dI H.size o0 a1 a2 a3 d1 d2 d3 ft fk fg z) (cwV 0 hts (lw_V q58 q59 q60 q9 q61) rfl rfl rfl (by decide +kernel) ⟨Nat.le_of_ble_eq_true rfl, Nat.le_of_ble_eq_true rfl⟩) ⟨fun a U g mk q => by obtain ⟨q0, q1, qP, qK, qD⟩ := q; exact ⟨q0, q1, qP, va_K.moved (u := U) (U := U.calling g mk a) (Vm.Alike.refl U.vm) qK, qD⟩, va_recv hKc hPc (ci := 0) (q0 := 0) rfl rfl, fun U hU hW => ⟨rfl, by rw [hU], by rw [hU]; exact hPc, va_K.moved hW.alike hKc, hDc.weaken (fun _ _ _ _ => trivial)⟩⟩ rfl rfl hl.1 rfl (lv_room (Nat.le_of_ble_eq_true rfl)) dL_law_147 ⟨by show _ ≤ 600128; omega, by show _ ≤ 7301098; omega⟩) hS (fun q _ h => hFc q h) hFc (fun r1 u_ t H1 locs ht hvm hw_ hB hz1 hk1 hS => ?_)
      obtain ⟨hP1, -, -⟩ := hB
      rw [ht] at hP1
      have hP := ot_back hP hD [0, 1, 2, 3] rfl hk1 hP1
      generalize H1 = H at hP hS ⊢
      have hw1 : r1 = nI z := hw_
      refine W.widen (k := 11 + 3 * i) (n := 8367 + 4129 * i) (Nat.le_refl _) (Nat.le_refl _) ?_
      refine lv_aload_n hx hb dL_law_150 rfl (lv_at hl 2 rfl) ?_
      have hPc := hP.sub (ws' := [(m0, .inr (1, [.ref b1, .int (nI z), .ref b2, .ref b3, .ref b4, .ref b5, .ref b6]))]) [4] rfl
      have hDc := hD.sub (ws' := [(m0, .inr (1, [.ref b1, .int (nI z), .ref b2, .ref b3, .ref b4, .ref b5, .ref b6]))]) [4] (by decide) rfl
      have hKc := hK.sub (tys' := []) [] rfl
      have hFc := va_free (wc := [(m0, .inr (1, [.ref b1, .int (nI z), .ref b2, .ref b3, .ref b4, .ref b5, .ref b6]))]) hD hS hA [4] rfl
      refine va_calli (va_runV (As := []) (rest := [.int r1]) ⟨hx, hb, hml, hown, hts⟩ (metX1_size l dC dI H.size m0 b1 b2 b3 b4 b5 b6 z) (cwV 0 hts (lw_V q228 q229 q230 q10 q231) rfl rfl rfl (by decide +kernel) ⟨Nat.le_of_ble_eq_true rfl, Nat.le_of_ble_eq_true rfl⟩) ⟨fun a U g mk q => by obtain ⟨q0, q1, qP, qK, qD⟩ := q; exact ⟨q0, q1, qP, va_K.moved (u := U) (U := U.calling g mk a) (Vm.Alike.refl U.vm) qK, qD⟩, va_recv hKc hPc (ci := 1) (q0 := 0) rfl rfl, fun U hU hW => ⟨rfl, by rw [hU], by rw [hU]; exact hPc, va_K.moved hW.alike hKc, hDc.weaken (fun _ _ _ _ => trivial)⟩⟩ rfl rfl hl.1 rfl (lv_room (Nat.le_of_ble_eq_true rfl)) dL_law_151 ⟨by show _ ≤ 600128; omega, by show _ ≤ 7301098; omega⟩) hS (fun q _ h => hFc q h) hFc (fun r2 u_ t H1 locs ht hvm hw_ hB hz1 hk1 hS => ?_)
      obtain ⟨hP1, -, -⟩ := hB
      rw [ht] at hP1
      have hP := ot_back hP hD [4] rfl hk1 hP1
      generalize H1 = H at hP hS ⊢
      have hw2 : r2 = nI z := hw_
      refine W.widen (k := 11 + 3 * i) (n := 8367 + 4129 * i) (Nat.le_refl _) (Nat.le_refl _) ?_
      refine lv_icmp_eq (tgt := 274) hx hb dL_law_154 (by decide) (fun c_ => ?_) (fun c_ => absurd c_ (not_not_intro (hw1.trans hw2.symm)))
      refine lv_iinc (v := nI (6 * (i + 1))) (lv' := [(3, .int (nI (6 * (i + 1)))), (0, .ref b0), (1, .ref o0), (2, .ref m0)]) hx hb dL_law_274 hl (k := 3) rfl (ot_inc (6 * i) 6) (by decide) rfl (fun ls hl => ?_)
      refine lv_goto (tgt := 18) hx hb dL_law_277 (by decide) ?_
      refine W.widen (k := 11 + 3 * (i + 1)) (n := 8367 + 4129 * (i + 1)) (by omega) (by omega) ?_
      exact ih (i + 1) z a3 d3 ft fk fg gk gt gr gh gw (by omega) hz hby hkey htag H locs hK hP hD hS ls (lv_sub hl [1, 2, 3, 0] rfl)
    · refine lv_tableIn (off := 126) (tgt := 159) hx hb dL_law_33 (by decide) (by decide) (by decide) (by decide) ?_
      refine lv_aload_n hx hb dL_law_159 rfl (lv_at hl 1 rfl) ?_
      refine lv_aload_n hx hb dL_law_160 rfl (lv_at hl 0 rfl) ?_
      refine lv_iload_n hx hb dL_law_161 rfl (lv_at hl 3 rfl) ?_
      refine lv_iconst (v := nI 1) hx hb dL_law_162 (by decide) ?_
      refine lv_iadd hx hb dL_law_163 ?_
      refine ot_topi (nI (6 * i + 1)) (nI_add _ _) ?_
      refine ot_sld (k := (6 * i + 1)) hx hb hX hbl hbA hS (by omega) (by omega) dL_law_164 ?_
      refine lv_aload_n hx hb dL_law_165 rfl (lv_at hl 0 rfl) ?_
      refine lv_iload_n hx hb dL_law_166 rfl (lv_at hl 3 rfl) ?_
      refine lv_iconst (v := nI 2) hx hb dL_law_167 (by decide) ?_
      refine lv_iadd hx hb dL_law_168 ?_
      refine ot_topi (nI (6 * i + 2)) (nI_add _ _) ?_
      refine ot_sld (k := (6 * i + 2)) hx hb hX hbl hbA hS (by omega) (by omega) dL_law_169 ?_
      refine lv_aload_n hx hb dL_law_170 rfl (lv_at hl 0 rfl) ?_
      refine lv_iload_n hx hb dL_law_171 rfl (lv_at hl 3 rfl) ?_
      refine lv_iconst (v := nI 3) hx hb dL_law_172 (by decide) ?_
      refine lv_iadd hx hb dL_law_173 ?_
      refine ot_topi (nI (6 * i + 3)) (nI_add _ _) ?_
      refine ot_sld (k := (6 * i + 3)) hx hb hX hbl hbA hS (by omega) (by omega) dL_law_174 ?_
      refine lv_aload_n hx hb dL_law_175 rfl (lv_at hl 0 rfl) ?_
      refine lv_iload_n hx hb dL_law_176 rfl (lv_at hl 3 rfl) ?_
      refine lv_iconst (v := nI 4) hx hb dL_law_177 (by decide) ?_
      refine lv_iadd hx hb dL_law_178 ?_
      refine ot_topi (nI (6 * i + 4)) (nI_add _ _) ?_
      refine ot_sld (k := (6 * i + 4)) hx hb hX hbl hbA hS (by omega) (by omega) dL_law_179 ?_
      refine lv_aload_n hx hb dL_law_180 rfl (lv_at hl 0 rfl) ?_
      refine lv_iload_n hx hb dL_law_181 rfl (lv_at hl 3 rfl) ?_
      refine lv_iconst (v := nI 5) hx hb dL_law_182 (by decide) ?_
      refine lv_iadd hx hb dL_law_183 ?_
      refine ot_topi (nI (6 * i + 5)) (nI_add _ _) ?_
      refine ot_sld (k := (6 * i + 5)) hx hb hX hbl hbA hS (by omega) (by omega) dL_law_184 ?_
      have hPc := hP.sub (ws' := [(o0, .inr (0, [.ref a1, .int (nI z), .ref a2, .ref a3])), (a1, .inl (d1, 4096, .inl ft)), (a2, .inl (d2, 32, .inl fk)), (a3, .inl (d3, 16, .inl fg))]) [0, 1, 2, 3] rfl
      have hDc := hD.sub (ws' := [(o0, .inr (0, [.ref a1, .int (nI z), .ref a2, .ref a3])), (a1, .inl (d1, 4096, .inl ft)), (a2, .inl (d2, 32, .inl fk)), (a3, .inl (d3, 16, .inl fg))]) [0, 1, 2, 3] (by decide) rfl
      have hKc := hK.sub (tys' := [(d1, .byte), (d2, .byte), (d3, .byte)]) [0, 1, 2] rfl
      have hFc := va_free (wc := [(o0, .inr (0, [.ref a1, .int (nI z), .ref a2, .ref a3])), (a1, .inl (d1, 4096, .inl ft)), (a2, .inl (d2, 32, .inl fk)), (a3, .inl (d3, 16, .inl fg))]) hD hS hA [0, 1, 2, 3] rfl
      refine va_callv (va_runV (As := [.int (xs (6 * i + 1)), .int (xs (6 * i + 2)), .int (xs (6 * i + 3)), .int (xs (6 * i + 4)), .int (xs (6 * i + 5))]) (rest := []) ⟨hx, hb, hml, hown, hts⟩ (metX0_key l dC dI H.size o0 a1 a2 a3 d1 d2 d3 ft fk fg z (xs (6 * i + 1)) (xs (6 * i + 2)) (xs (6 * i + 3)) (xs (6 * i + 4)) (xs (6 * i + 5))) (cwV 5 hts (lw_V q62 q63 q64 q9 q65) rfl rfl rfl (by decide +kernel) ⟨Nat.le_of_ble_eq_true rfl, Nat.le_of_ble_eq_true rfl⟩) ⟨fun a U g mk q => by obtain ⟨q0, q1, qP, qK, qD⟩ := q; exact ⟨q0, q1, qP, va_K.moved (u := U) (U := U.calling g mk a) (Vm.Alike.refl U.vm) qK, qD⟩, va_recv hKc hPc (ci := 0) (q0 := 0) rfl rfl, fun U hU hW => ⟨rfl, by rw [hU], by rw [hU]; exact hPc, va_K.moved hW.alike hKc, hDc.weaken (fun _ _ _ _ => trivial)⟩⟩ rfl rfl hl.1 rfl (lv_room (Nat.le_of_ble_eq_true rfl)) dL_law_185 ⟨by show _ ≤ 600128; omega, by show _ ≤ 7301098; omega⟩) hS (fun q _ h => hFc q h) hFc (fun fk2 t H1 locs ht hvm hw_ hB hz1 hk1 hS => ?_)
      obtain ⟨hP1, hK1, hD1⟩ := hB
      rw [ht] at hP1
      have hK1 := va_K.moved hvm.symm hK1
      obtain ⟨hP, hD⟩ := va_join (wr := [(m0, .inr (1, [.ref b1, .int (nI z), .ref b2, .ref b3, .ref b4, .ref b5, .ref b6])), (b1, .inl (e1, 4096, .inl ft)), (b2, .inl (e2, 32, .inl (ot_I gk))), (b3, .inl (e3, 16, .inl (ot_I gt))), (b4, .inl (e4, 17, .inr (.inl (ot_L gr)))), (b5, .inl (e5, 17, .inr (.inl (ot_L gh)))), (b6, .inl (e6, 34, .inr (.inl (ot_L gw))))]) (w1 := [(o0, .inr (0, [.ref a1, .int (nI z), .ref a2, .ref a3])), (a1, .inl (d1, 4096, .inl ft)), (a2, .inl (d2, 32, .inl fk2)), (a3, .inl (d3, 16, .inl fg))]) hP hD [0, 1, 2, 3] [4, 5, 6, 7, 8, 9, 10] rfl rfl (by decide) (by decide) hk1 hFc hP1 hD1
      generalize H1 = H at hP hS ⊢
      have hP := hP.sub (ws' := [(o0, .inr (0, [.ref a1, .int (nI z), .ref a2, .ref a3])), (a1, .inl (d1, 4096, .inl ft)), (a2, .inl (d2, 32, .inl fk2)), (a3, .inl (d3, 16, .inl fg)), (m0, .inr (1, [.ref b1, .int (nI z), .ref b2, .ref b3, .ref b4, .ref b5, .ref b6])), (b1, .inl (e1, 4096, .inl ft)), (b2, .inl (e2, 32, .inl (ot_I gk))), (b3, .inl (e3, 16, .inl (ot_I gt))), (b4, .inl (e4, 17, .inr (.inl (ot_L gr)))), (b5, .inl (e5, 17, .inr (.inl (ot_L gh)))), (b6, .inl (e6, 34, .inr (.inl (ot_L gw))))]) [7, 8, 9, 10, 0, 1, 2, 3, 4, 5, 6] rfl
      have hD := hD.sub (ws' := [(o0, .inr (0, [.ref a1, .int (nI z), .ref a2, .ref a3])), (a1, .inl (d1, 4096, .inl ft)), (a2, .inl (d2, 32, .inl fk2)), (a3, .inl (d3, 16, .inl fg)), (m0, .inr (1, [.ref b1, .int (nI z), .ref b2, .ref b3, .ref b4, .ref b5, .ref b6])), (b1, .inl (e1, 4096, .inl ft)), (b2, .inl (e2, 32, .inl (ot_I gk))), (b3, .inl (e3, 16, .inl (ot_I gt))), (b4, .inl (e4, 17, .inr (.inl (ot_L gr)))), (b5, .inl (e5, 17, .inr (.inl (ot_L gh)))), (b6, .inl (e6, 34, .inr (.inl (ot_L gw))))]) [7, 8, 9, 10, 0, 1, 2, 3, 4, 5, 6] (by decide) rfl
      have hw1 := hw_
      refine W.widen (k := 11 + 3 * i) (n := 8367 + 4129 * i) (Nat.le_refl _) (Nat.le_refl _) ?_
      refine lv_aload_n hx hb dL_law_188 rfl (lv_at hl 2 rfl) ?_
      refine lv_aload_n hx hb dL_law_189 rfl (lv_at hl 0 rfl) ?_
      refine lv_iload_n hx hb dL_law_190 rfl (lv_at hl 3 rfl) ?_
      refine lv_iconst (v := nI 1) hx hb dL_law_191 (by decide) ?_
      refine lv_iadd hx hb dL_law_192 ?_
      refine ot_topi (nI (6 * i + 1)) (nI_add _ _) ?_
      refine ot_sld (k := (6 * i + 1)) hx hb hX hbl hbA hS (by omega) (by omega) dL_law_193 ?_
      refine lv_aload_n hx hb dL_law_194 rfl (lv_at hl 0 rfl) ?_
      refine lv_iload_n hx hb dL_law_195 rfl (lv_at hl 3 rfl) ?_
      refine lv_iconst (v := nI 2) hx hb dL_law_196 (by decide) ?_
      refine lv_iadd hx hb dL_law_197 ?_
      refine ot_topi (nI (6 * i + 2)) (nI_add _ _) ?_
      refine ot_sld (k := (6 * i + 2)) hx hb hX hbl hbA hS (by omega) (by omega) dL_law_198 ?_
      refine lv_aload_n hx hb dL_law_199 rfl (lv_at hl 0 rfl) ?_
      refine lv_iload_n hx hb dL_law_200 rfl (lv_at hl 3 rfl) ?_
      refine lv_iconst (v := nI 3) hx hb dL_law_201 (by decide) ?_
      refine lv_iadd hx hb dL_law_202 ?_
      refine ot_topi (nI (6 * i + 3)) (nI_add _ _) ?_
      refine ot_sld (k := (6 * i + 3)) hx hb hX hbl hbA hS (by omega) (by omega) dL_law_203 ?_
      refine lv_aload_n hx hb dL_law_204 rfl (lv_at hl 0 rfl) ?_
      refine lv_iload_n hx hb dL_law_205 rfl (lv_at hl 3 rfl) ?_
      refine lv_iconst (v := nI 4) hx hb dL_law_206 (by decide) ?_
      refine lv_iadd hx hb dL_law_207 ?_
      refine ot_topi (nI (6 * i + 4)) (nI_add _ _) ?_
      refine ot_sld (k := (6 * i + 4)) hx hb hX hbl hbA hS (by omega) (by omega) dL_law_208 ?_
      refine lv_aload_n hx hb dL_law_209 rfl (lv_at hl 0 rfl) ?_
      refine lv_iload_n hx hb dL_law_210 rfl (lv_at hl 3 rfl) ?_
      refine lv_iconst (v := nI 5) hx hb dL_law_211 (by decide) ?_
      refine lv_iadd hx hb dL_law_212 ?_
      refine ot_topi (nI (6 * i + 5)) (nI_add _ _) ?_
      refine ot_sld (k := (6 * i + 5)) hx hb hX hbl hbA hS (by omega) (by omega) dL_law_213 ?_
      have hPc := hP.sub (ws' := [(m0, .inr (1, [.ref b1, .int (nI z), .ref b2, .ref b3, .ref b4, .ref b5, .ref b6])), (b2, .inl (e2, 32, .inl (ot_I gk)))]) [4, 6] rfl
      have hDc := hD.sub (ws' := [(m0, .inr (1, [.ref b1, .int (nI z), .ref b2, .ref b3, .ref b4, .ref b5, .ref b6])), (b2, .inl (e2, 32, .inl (ot_I gk)))]) [4, 6] (by decide) rfl
      have hKc := hK.sub (tys' := [(e2, .int)]) [4] rfl
      have hFc := va_free (wc := [(m0, .inr (1, [.ref b1, .int (nI z), .ref b2, .ref b3, .ref b4, .ref b5, .ref b6])), (b2, .inl (e2, 32, .inl (ot_I gk)))]) hD hS hA [4, 6] rfl
      refine va_callv (va_runV (As := [.int (xs (6 * i + 1)), .int (xs (6 * i + 2)), .int (xs (6 * i + 3)), .int (xs (6 * i + 4)), .int (xs (6 * i + 5))]) (rest := []) ⟨hx, hb, hml, hown, hts⟩ (metX1_key l dC dI H.size m0 b1 b2 b3 b4 b5 b6 z e2 gk (xs (6 * i + 1)) (xs (6 * i + 2)) (xs (6 * i + 3)) (xs (6 * i + 4)) (xs (6 * i + 5))) (cwV 5 hts (lw_V q232 q233 q234 q10 q235) rfl rfl rfl (by decide +kernel) ⟨Nat.le_of_ble_eq_true rfl, Nat.le_of_ble_eq_true rfl⟩) ⟨fun a U g mk q => by obtain ⟨q0, q1, qP, qK, qD⟩ := q; exact ⟨q0, q1, qP, va_K.moved (u := U) (U := U.calling g mk a) (Vm.Alike.refl U.vm) qK, qD⟩, va_recv hKc hPc (ci := 1) (q0 := 0) rfl rfl, fun U hU hW => ⟨rfl, by rw [hU], by rw [hU]; exact hPc, va_K.moved hW.alike hKc, hDc.weaken (fun _ _ _ _ => trivial)⟩⟩ rfl rfl hl.1 rfl (lv_room (Nat.le_of_ble_eq_true rfl)) dL_law_214 ⟨by show _ ≤ 600128; omega, by show _ ≤ 7301098; omega⟩) hS (fun q _ h => hFc q h) hFc (fun gk2 t H1 locs ht hvm hw_ hB hz1 hk1 hS => ?_)
      obtain ⟨hP1, hK1, hD1⟩ := hB
      rw [ht] at hP1
      have hK1 := va_K.moved hvm.symm hK1
      obtain ⟨hP, hD⟩ := va_join (wr := [(o0, .inr (0, [.ref a1, .int (nI z), .ref a2, .ref a3])), (a1, .inl (d1, 4096, .inl ft)), (a2, .inl (d2, 32, .inl fk2)), (a3, .inl (d3, 16, .inl fg)), (b1, .inl (e1, 4096, .inl ft)), (b3, .inl (e3, 16, .inl (ot_I gt))), (b4, .inl (e4, 17, .inr (.inl (ot_L gr)))), (b5, .inl (e5, 17, .inr (.inl (ot_L gh)))), (b6, .inl (e6, 34, .inr (.inl (ot_L gw))))]) (w1 := [(m0, .inr (1, [.ref b1, .int (nI z), .ref b2, .ref b3, .ref b4, .ref b5, .ref b6])), (b2, .inl (e2, 32, .inl (ot_I gk2)))]) hP hD [4, 6] [0, 1, 2, 3, 5, 7, 8, 9, 10] rfl rfl (by decide) (by decide) hk1 hFc hP1 hD1
      generalize H1 = H at hP hS ⊢
      have hP := hP.sub (ws' := [(o0, .inr (0, [.ref a1, .int (nI z), .ref a2, .ref a3])), (a1, .inl (d1, 4096, .inl ft)), (a2, .inl (d2, 32, .inl fk2)), (a3, .inl (d3, 16, .inl fg)), (m0, .inr (1, [.ref b1, .int (nI z), .ref b2, .ref b3, .ref b4, .ref b5, .ref b6])), (b1, .inl (e1, 4096, .inl ft)), (b2, .inl (e2, 32, .inl (ot_I gk2))), (b3, .inl (e3, 16, .inl (ot_I gt))), (b4, .inl (e4, 17, .inr (.inl (ot_L gr)))), (b5, .inl (e5, 17, .inr (.inl (ot_L gh)))), (b6, .inl (e6, 34, .inr (.inl (ot_L gw))))]) [0, 1, 2, 3, 9, 4, 10, 5, 6, 7, 8] rfl
      have hD := hD.sub (ws' := [(o0, .inr (0, [.ref a1, .int (nI z), .ref a2, .ref a3])), (a1, .inl (d1, 4096, .inl ft)), (a2, .inl (d2, 32, .inl fk2)), (a3, .inl (d3, 16, .inl fg)), (m0, .inr (1, [.ref b1, .int (nI z), .ref b2, .ref b3, .ref b4, .ref b5, .ref b6])), (b1, .inl (e1, 4096, .inl ft)), (b2, .inl (e2, 32, .inl (ot_I gk2))), (b3, .inl (e3, 16, .inl (ot_I gt))), (b4, .inl (e4, 17, .inr (.inl (ot_L gr)))), (b5, .inl (e5, 17, .inr (.inl (ot_L gh)))), (b6, .inl (e6, 34, .inr (.inl (ot_L gw))))]) [0, 1, 2, 3, 9, 4, 10, 5, 6, 7, 8] (by decide) rfl
      refine W.widen (k := 11 + 3 * i) (n := 8367 + 4129 * i) (Nat.le_refl _) (Nat.le_refl _) ?_
      have hkey2 : ∀ j, j < 32 → gk2 j = ot_b (fk2 j) := fun j hj => by rw [hw1 j, hw_ j]; split; rfl; exact hkey j hj
      refine lv_goto (tgt := 274) hx hb dL_law_217 (by decide) ?_
      refine lv_iinc (v := nI (6 * (i + 1))) (lv' := [(3, .int (nI (6 * (i + 1)))), (0, .ref b0), (1, .ref o0), (2, .ref m0)]) hx hb dL_law_274 hl (k := 3) rfl (ot_inc (6 * i) 6) (by decide) rfl (fun ls hl => ?_)
      refine lv_goto (tgt := 18) hx hb dL_law_277 (by decide) ?_
      refine W.widen (k := 11 + 3 * (i + 1)) (n := 8367 + 4129 * (i + 1)) (by omega) (by omega) ?_
      exact ih (i + 1) z a3 d3 ft fk2 fg gk2 gt gr gh gw (by omega) hz hby hkey2 htag H locs hK hP hD hS ls (lv_sub hl [1, 2, 3, 0] rfl)
    · refine lv_tableIn (off := 187) (tgt := 220) hx hb dL_law_33 (by decide) (by decide) (by decide) (by decide) ?_
      refine lv_aload_n hx hb dL_law_220 rfl (lv_at hl 1 rfl) ?_
      refine lv_aload_n hx hb dL_law_221 rfl (lv_at hl 0 rfl) ?_
      refine lv_iload_n hx hb dL_law_222 rfl (lv_at hl 3 rfl) ?_
      refine lv_iconst (v := nI 1) hx hb dL_law_223 (by decide) ?_
      refine lv_iadd hx hb dL_law_224 ?_
      refine ot_topi (nI (6 * i + 1)) (nI_add _ _) ?_
      refine ot_sld (k := (6 * i + 1)) hx hb hX hbl hbA hS (by omega) (by omega) dL_law_225 ?_
      refine lv_aload_n hx hb dL_law_226 rfl (lv_at hl 0 rfl) ?_
      refine lv_iload_n hx hb dL_law_227 rfl (lv_at hl 3 rfl) ?_
      refine lv_iconst (v := nI 2) hx hb dL_law_228 (by decide) ?_
      refine lv_iadd hx hb dL_law_229 ?_
      refine ot_topi (nI (6 * i + 2)) (nI_add _ _) ?_
      refine ot_sld (k := (6 * i + 2)) hx hb hX hbl hbA hS (by omega) (by omega) dL_law_230 ?_
      have hPc := hP.sub (ws' := [(o0, .inr (0, [.ref a1, .int (nI z), .ref a2, .ref a3])), (a1, .inl (d1, 4096, .inl ft)), (a2, .inl (d2, 32, .inl fk)), (a3, .inl (d3, 16, .inl fg))]) [0, 1, 2, 3] rfl
      have hDc := hD.sub (ws' := [(o0, .inr (0, [.ref a1, .int (nI z), .ref a2, .ref a3])), (a1, .inl (d1, 4096, .inl ft)), (a2, .inl (d2, 32, .inl fk)), (a3, .inl (d3, 16, .inl fg))]) [0, 1, 2, 3] (by decide) rfl
      have hKc := hK.sub (tys' := [(d1, .byte), (d2, .byte), (d3, .byte)]) [0, 1, 2] rfl
      have hFc := va_free (wc := [(o0, .inr (0, [.ref a1, .int (nI z), .ref a2, .ref a3])), (a1, .inl (d1, 4096, .inl ft)), (a2, .inl (d2, 32, .inl fk)), (a3, .inl (d3, 16, .inl fg))]) hD hS hA [0, 1, 2, 3] rfl
      refine va_callv (va_runV (As := [.int (xs (6 * i + 1)), .int (xs (6 * i + 2))]) (rest := []) ⟨hx, hb, hml, hown, hts⟩ (metX0_tag l dC dI H.size o0 a1 a2 a3 d1 d2 d3 ft fk fg z (xs (6 * i + 1)) (xs (6 * i + 2)) hz hby) (cwV 2 hts (lw_V q70 q71 q72 q9 q73) rfl rfl rfl (by decide +kernel) ⟨Nat.le_of_ble_eq_true rfl, Nat.le_of_ble_eq_true rfl⟩) ⟨fun a U g mk q => by obtain ⟨q0, q1, qP, qK, qD⟩ := q; exact ⟨q0, q1, qP, va_K.moved (u := U) (U := U.calling g mk a) (Vm.Alike.refl U.vm) qK, qD⟩, va_recv hKc hPc (ci := 0) (q0 := 0) rfl rfl, fun U hU hW => ⟨rfl, by rw [hU], by rw [hU]; exact hPc, va_K.moved hW.alike hKc, hDc.weaken (fun _ _ _ _ => trivial)⟩⟩ rfl rfl hl.1 rfl (lv_room (Nat.le_of_ble_eq_true rfl)) dL_law_231 ⟨by show _ ≤ 600128; omega, by show _ ≤ 7301098; omega⟩) hS (fun q _ h => hFc q h) hFc (fun u1 t H1 locs ht hvm hw_ hB hz1 hk1 hS => ?_)
      obtain ⟨hP1, hK1, hD1⟩ := hB
      rw [ht] at hP1
      have hK1 := va_K.moved hvm.symm hK1
      obtain ⟨hP, hD⟩ := va_join (wr := [(m0, .inr (1, [.ref b1, .int (nI z), .ref b2, .ref b3, .ref b4, .ref b5, .ref b6])), (b1, .inl (e1, 4096, .inl ft)), (b2, .inl (e2, 32, .inl (ot_I gk))), (b3, .inl (e3, 16, .inl (ot_I gt))), (b4, .inl (e4, 17, .inr (.inl (ot_L gr)))), (b5, .inl (e5, 17, .inr (.inl (ot_L gh)))), (b6, .inl (e6, 34, .inr (.inl (ot_L gw))))]) (w1 := [(o0, .inr (0, [.ref a1, .int (nI z), .ref a2, .ref u1.1])), (a1, .inl (d1, 4096, .inl ft)), (a2, .inl (d2, 32, .inl fk)), (u1.1, .inl (u1.2.1, 16, .inl u1.2.2))]) hP hD [0, 1, 2, 3] [4, 5, 6, 7, 8, 9, 10] rfl rfl (by decide) (by decide) hk1 hFc hP1 hD1
      generalize H1 = H at hP hS ⊢
      have hP := hP.sub (ws' := [(o0, .inr (0, [.ref a1, .int (nI z), .ref a2, .ref u1.1])), (a1, .inl (d1, 4096, .inl ft)), (a2, .inl (d2, 32, .inl fk)), (u1.1, .inl (u1.2.1, 16, .inl u1.2.2)), (m0, .inr (1, [.ref b1, .int (nI z), .ref b2, .ref b3, .ref b4, .ref b5, .ref b6])), (b1, .inl (e1, 4096, .inl ft)), (b2, .inl (e2, 32, .inl (ot_I gk))), (b3, .inl (e3, 16, .inl (ot_I gt))), (b4, .inl (e4, 17, .inr (.inl (ot_L gr)))), (b5, .inl (e5, 17, .inr (.inl (ot_L gh)))), (b6, .inl (e6, 34, .inr (.inl (ot_L gw))))]) [7, 8, 9, 10, 0, 1, 2, 3, 4, 5, 6] rfl
      have hD := hD.sub (ws' := [(o0, .inr (0, [.ref a1, .int (nI z), .ref a2, .ref u1.1])), (a1, .inl (d1, 4096, .inl ft)), (a2, .inl (d2, 32, .inl fk)), (u1.1, .inl (u1.2.1, 16, .inl u1.2.2)), (m0, .inr (1, [.ref b1, .int (nI z), .ref b2, .ref b3, .ref b4, .ref b5, .ref b6])), (b1, .inl (e1, 4096, .inl ft)), (b2, .inl (e2, 32, .inl (ot_I gk))), (b3, .inl (e3, 16, .inl (ot_I gt))), (b4, .inl (e4, 17, .inr (.inl (ot_L gr)))), (b5, .inl (e5, 17, .inr (.inl (ot_L gh)))), (b6, .inl (e6, 34, .inr (.inl (ot_L gw))))]) [7, 8, 9, 10, 0, 1, 2, 3, 4, 5, 6] (by decide) rfl
      have hw1 := hw_
      have hK := (hK.sub (tys' := [(d1, .byte), (d2, .byte), (e1, .byte), (e2, .int), (e3, .int), (e4, .long), (e5, .long), (e6, .long)]) [0, 1, 3, 4, 5, 6, 7, 8] rfl).app hK1
      have hK := hK.sub (tys' := [(d1, .byte), (d2, .byte), (u1.2.1, .byte), (e1, .byte), (e2, .int), (e3, .int), (e4, .long), (e5, .long), (e6, .long)]) [0, 1, 10, 2, 3, 4, 5, 6, 7] rfl
      refine W.widen (k := 11 + 3 * i + 3) (n := 8367 + 4129 * i + 4129) (Nat.le_refl _) (Nat.le_refl _) ?_
      refine lv_aload_n hx hb dL_law_234 rfl (lv_at hl 2 rfl) ?_
      refine lv_aload_n hx hb dL_law_235 rfl (lv_at hl 0 rfl) ?_
      refine lv_iload_n hx hb dL_law_236 rfl (lv_at hl 3 rfl) ?_
      refine lv_iconst (v := nI 1) hx hb dL_law_237 (by decide) ?_
      refine lv_iadd hx hb dL_law_238 ?_
      refine ot_topi (nI (6 * i + 1)) (nI_add _ _) ?_
      refine ot_sld (k := (6 * i + 1)) hx hb hX hbl hbA hS (by omega) (by omega) dL_law_239 ?_
      refine lv_aload_n hx hb dL_law_240 rfl (lv_at hl 0 rfl) ?_
      refine lv_iload_n hx hb dL_law_241 rfl (lv_at hl 3 rfl) ?_
      refine lv_iconst (v := nI 2) hx hb dL_law_242 (by decide) ?_
      refine lv_iadd hx hb dL_law_243 ?_
      refine ot_topi (nI (6 * i + 2)) (nI_add _ _) ?_
      refine ot_sld (k := (6 * i + 2)) hx hb hX hbl hbA hS (by omega) (by omega) dL_law_244 ?_
      have hPc := hP.sub (ws' := [(m0, .inr (1, [.ref b1, .int (nI z), .ref b2, .ref b3, .ref b4, .ref b5, .ref b6])), (b1, .inl (e1, 4096, .inl ft)), (b2, .inl (e2, 32, .inl (ot_I gk))), (b3, .inl (e3, 16, .inl (ot_I gt))), (b4, .inl (e4, 17, .inr (.inl (ot_L gr)))), (b5, .inl (e5, 17, .inr (.inl (ot_L gh)))), (b6, .inl (e6, 34, .inr (.inl (ot_L gw))))]) [4, 5, 6, 7, 8, 9, 10] rfl
      have hDc := hD.sub (ws' := [(m0, .inr (1, [.ref b1, .int (nI z), .ref b2, .ref b3, .ref b4, .ref b5, .ref b6])), (b1, .inl (e1, 4096, .inl ft)), (b2, .inl (e2, 32, .inl (ot_I gk))), (b3, .inl (e3, 16, .inl (ot_I gt))), (b4, .inl (e4, 17, .inr (.inl (ot_L gr)))), (b5, .inl (e5, 17, .inr (.inl (ot_L gh)))), (b6, .inl (e6, 34, .inr (.inl (ot_L gw))))]) [4, 5, 6, 7, 8, 9, 10] (by decide) rfl
      have hKc := hK.sub (tys' := [(e1, .byte), (e2, .int), (e3, .int), (e4, .long), (e5, .long), (e6, .long)]) [3, 4, 5, 6, 7, 8] rfl
      have hFc := va_free (wc := [(m0, .inr (1, [.ref b1, .int (nI z), .ref b2, .ref b3, .ref b4, .ref b5, .ref b6])), (b1, .inl (e1, 4096, .inl ft)), (b2, .inl (e2, 32, .inl (ot_I gk))), (b3, .inl (e3, 16, .inl (ot_I gt))), (b4, .inl (e4, 17, .inr (.inl (ot_L gr)))), (b5, .inl (e5, 17, .inr (.inl (ot_L gh)))), (b6, .inl (e6, 34, .inr (.inl (ot_L gw))))]) hD hS hA [4, 5, 6, 7, 8, 9, 10] rfl
      refine va_callv (va_runV (As := [.int (xs (6 * i + 1)), .int (xs (6 * i + 2))]) (rest := []) ⟨hx, hb, hml, hown, hts⟩ (metX1_tag l dC dI H.size m0 b1 b2 b3 b4 b5 b6 z e1 e2 e3 e4 e5 e6 ft fk gk gt gr gh gw (xs (6 * i + 1)) (xs (6 * i + 2)) hz hkey) (cwV 2 hts (lw_V q236 q237 q238 q10 q239) rfl rfl rfl (by decide +kernel) ⟨Nat.le_of_ble_eq_true rfl, Nat.le_of_ble_eq_true rfl⟩) ⟨fun a U g mk q => by obtain ⟨q0, q1, qP, qK, qD⟩ := q; exact ⟨q0, q1, qP, va_K.moved (u := U) (U := U.calling g mk a) (Vm.Alike.refl U.vm) qK, qD⟩, va_recv hKc hPc (ci := 1) (q0 := 0) rfl rfl, fun U hU hW => ⟨rfl, by rw [hU], by rw [hU]; exact hPc, va_K.moved hW.alike hKc, hDc.weaken (fun _ _ _ _ => trivial)⟩⟩ rfl rfl hl.1 rfl (lv_room (Nat.le_of_ble_eq_true rfl)) dL_law_245 ⟨by show _ ≤ 600128; omega, by show _ ≤ 7301098; omega⟩) hS (fun q _ h => hFc q h) hFc (fun v1 t H1 locs ht hvm hw_ hB hz1 hk1 hS => ?_)
      obtain ⟨hP1, hK1, hD1⟩ := hB
      rw [ht] at hP1
      have hK1 := va_K.moved hvm.symm hK1
      obtain ⟨hP, hD⟩ := va_join (wr := [(o0, .inr (0, [.ref a1, .int (nI z), .ref a2, .ref u1.1])), (a1, .inl (d1, 4096, .inl ft)), (a2, .inl (d2, 32, .inl fk)), (u1.1, .inl (u1.2.1, 16, .inl u1.2.2))]) (w1 := [(m0, .inr (1, [.ref b1, .int (nI z), .ref b2, .ref b3, .ref b4, .ref b5, .ref b6])), (b1, .inl (e1, 4096, .inl ft)), (b2, .inl (e2, 32, .inl (ot_I gk))), (b3, .inl (e3, 16, .inl (ot_I v1.1))), (b4, .inl (e4, 17, .inr (.inl (ot_L v1.2.1)))), (b5, .inl (e5, 17, .inr (.inl (ot_L v1.2.2.1)))), (b6, .inl (e6, 34, .inr (.inl (ot_L v1.2.2.2))))]) hP hD [4, 5, 6, 7, 8, 9, 10] [0, 1, 2, 3] rfl rfl (by decide) (by decide) hk1 hFc hP1 hD1
      generalize H1 = H at hP hS ⊢
      have hP := hP.sub (ws' := [(o0, .inr (0, [.ref a1, .int (nI z), .ref a2, .ref u1.1])), (a1, .inl (d1, 4096, .inl ft)), (a2, .inl (d2, 32, .inl fk)), (u1.1, .inl (u1.2.1, 16, .inl u1.2.2)), (m0, .inr (1, [.ref b1, .int (nI z), .ref b2, .ref b3, .ref b4, .ref b5, .ref b6])), (b1, .inl (e1, 4096, .inl ft)), (b2, .inl (e2, 32, .inl (ot_I gk))), (b3, .inl (e3, 16, .inl (ot_I v1.1))), (b4, .inl (e4, 17, .inr (.inl (ot_L v1.2.1)))), (b5, .inl (e5, 17, .inr (.inl (ot_L v1.2.2.1)))), (b6, .inl (e6, 34, .inr (.inl (ot_L v1.2.2.2))))]) [0, 1, 2, 3, 4, 5, 6, 7, 8, 9, 10] rfl
      have hD := hD.sub (ws' := [(o0, .inr (0, [.ref a1, .int (nI z), .ref a2, .ref u1.1])), (a1, .inl (d1, 4096, .inl ft)), (a2, .inl (d2, 32, .inl fk)), (u1.1, .inl (u1.2.1, 16, .inl u1.2.2)), (m0, .inr (1, [.ref b1, .int (nI z), .ref b2, .ref b3, .ref b4, .ref b5, .ref b6])), (b1, .inl (e1, 4096, .inl ft)), (b2, .inl (e2, 32, .inl (ot_I gk))), (b3, .inl (e3, 16, .inl (ot_I v1.1))), (b4, .inl (e4, 17, .inr (.inl (ot_L v1.2.1)))), (b5, .inl (e5, 17, .inr (.inl (ot_L v1.2.2.1)))), (b6, .inl (e6, 34, .inr (.inl (ot_L v1.2.2.2))))]) [0, 1, 2, 3, 4, 5, 6, 7, 8, 9, 10] (by decide) rfl
      refine W.widen (k := 11 + 3 * i + 3) (n := 8367 + 4129 * i + 4129) (Nat.le_refl _) (Nat.le_refl _) ?_
      have htag2 : ∀ j, j < 16 → v1.1 j = ot_b (u1.2.2 j) := fun j hj => by rw [hw1 j hj, hw_ j hj]
      refine lv_goto (tgt := 274) hx hb dL_law_248 (by decide) ?_
      refine lv_iinc (v := nI (6 * (i + 1))) (lv' := [(3, .int (nI (6 * (i + 1)))), (0, .ref b0), (1, .ref o0), (2, .ref m0)]) hx hb dL_law_274 hl (k := 3) rfl (ot_inc (6 * i) 6) (by decide) rfl (fun ls hl => ?_)
      refine lv_goto (tgt := 18) hx hb dL_law_277 (by decide) ?_
      refine W.widen (k := 11 + 3 * (i + 1)) (n := 8367 + 4129 * (i + 1)) (by omega) (by omega) ?_
      exact ih (i + 1) z u1.1 u1.2.1 ft fk u1.2.2 gk v1.1 v1.2.1 v1.2.2.1 v1.2.2.2 (by omega) hz hby hkey htag2 H locs hK hP hD hS ls (lv_sub hl [1, 2, 3, 0] rfl)
    · refine lv_tableIn (off := 218) (tgt := 251) hx hb dL_law_33 (by decide) (by decide) (by decide) (by decide) ?_
      refine lv_aload_n hx hb dL_law_251 rfl (lv_at hl 1 rfl) ?_
      refine lv_aload_n hx hb dL_law_252 rfl (lv_at hl 0 rfl) ?_
      refine lv_iload_n hx hb dL_law_253 rfl (lv_at hl 3 rfl) ?_
      refine lv_iconst (v := nI 1) hx hb dL_law_254 (by decide) ?_
      refine lv_iadd hx hb dL_law_255 ?_
      refine ot_topi (nI (6 * i + 1)) (nI_add _ _) ?_
      refine ot_sld (k := (6 * i + 1)) hx hb hX hbl hbA hS (by omega) (by omega) dL_law_256 ?_
      have hPc := hP.sub (ws' := [(o0, .inr (0, [.ref a1, .int (nI z), .ref a2, .ref a3])), (a1, .inl (d1, 4096, .inl ft)), (a2, .inl (d2, 32, .inl fk)), (a3, .inl (d3, 16, .inl fg))]) [0, 1, 2, 3] rfl
      have hDc := hD.sub (ws' := [(o0, .inr (0, [.ref a1, .int (nI z), .ref a2, .ref a3])), (a1, .inl (d1, 4096, .inl ft)), (a2, .inl (d2, 32, .inl fk)), (a3, .inl (d3, 16, .inl fg))]) [0, 1, 2, 3] (by decide) rfl
      have hKc := hK.sub (tys' := [(d1, .byte), (d2, .byte), (d3, .byte)]) [0, 1, 2] rfl
      have hFc := va_free (wc := [(o0, .inr (0, [.ref a1, .int (nI z), .ref a2, .ref a3])), (a1, .inl (d1, 4096, .inl ft)), (a2, .inl (d2, 32, .inl fk)), (a3, .inl (d3, 16, .inl fg))]) hD hS hA [0, 1, 2, 3] rfl
      refine va_calli (va_runV (As := [.int (xs (6 * i + 1))]) (rest := []) ⟨hx, hb, hml, hown, hts⟩ (metX0_answer l dC dI H.size o0 a1 a2 a3 d1 d2 d3 ft fk fg z (xs (6 * i + 1))) (cwV 1 hts (lw_V q181 q182 q183 q9 q184) rfl rfl rfl (by decide +kernel) ⟨Nat.le_of_ble_eq_true rfl, Nat.le_of_ble_eq_true rfl⟩) ⟨fun a U g mk q => by obtain ⟨q0, q1, qP, qK, qD⟩ := q; exact ⟨q0, q1, qP, va_K.moved (u := U) (U := U.calling g mk a) (Vm.Alike.refl U.vm) qK, qD⟩, va_recv hKc hPc (ci := 0) (q0 := 0) rfl rfl, fun U hU hW => ⟨rfl, by rw [hU], by rw [hU]; exact hPc, va_K.moved hW.alike hKc, hDc.weaken (fun _ _ _ _ => trivial)⟩⟩ rfl rfl hl.1 rfl (lv_room (Nat.le_of_ble_eq_true rfl)) dL_law_257 ⟨by show _ ≤ 600128; omega, by show _ ≤ 7301098; omega⟩) hS (fun q _ h => hFc q h) hFc (fun r1 u_ t H1 locs ht hvm hw_ hB hz1 hk1 hS => ?_)
      obtain ⟨hP1, -, -⟩ := hB
      rw [ht] at hP1
      have hP := ot_back hP hD [0, 1, 2, 3] rfl hk1 hP1
      generalize H1 = H at hP hS ⊢
      have hw1 : r1 = nI (ot_b (fg ((xs (6 * i + 1)).toBitVec.toNat % 2 ^ 4))) := hw_
      refine W.widen (k := 11 + 3 * i) (n := 8367 + 4129 * i) (Nat.le_refl _) (Nat.le_refl _) ?_
      refine lv_aload_n hx hb dL_law_260 rfl (lv_at hl 2 rfl) ?_
      refine lv_aload_n hx hb dL_law_261 rfl (lv_at hl 0 rfl) ?_
      refine lv_iload_n hx hb dL_law_262 rfl (lv_at hl 3 rfl) ?_
      refine lv_iconst (v := nI 1) hx hb dL_law_263 (by decide) ?_
      refine lv_iadd hx hb dL_law_264 ?_
      refine ot_topi (nI (6 * i + 1)) (nI_add _ _) ?_
      refine ot_sld (k := (6 * i + 1)) hx hb hX hbl hbA hS (by omega) (by omega) dL_law_265 ?_
      have hPc := hP.sub (ws' := [(m0, .inr (1, [.ref b1, .int (nI z), .ref b2, .ref b3, .ref b4, .ref b5, .ref b6])), (b3, .inl (e3, 16, .inl (ot_I gt)))]) [4, 7] rfl
      have hDc := hD.sub (ws' := [(m0, .inr (1, [.ref b1, .int (nI z), .ref b2, .ref b3, .ref b4, .ref b5, .ref b6])), (b3, .inl (e3, 16, .inl (ot_I gt)))]) [4, 7] (by decide) rfl
      have hKc := hK.sub (tys' := [(e3, .int)]) [5] rfl
      have hFc := va_free (wc := [(m0, .inr (1, [.ref b1, .int (nI z), .ref b2, .ref b3, .ref b4, .ref b5, .ref b6])), (b3, .inl (e3, 16, .inl (ot_I gt)))]) hD hS hA [4, 7] rfl
      refine va_calli (va_runV (As := [.int (xs (6 * i + 1))]) (rest := [.int r1]) ⟨hx, hb, hml, hown, hts⟩ (metX1_answer l dC dI H.size m0 b1 b2 b3 b4 b5 b6 z e3 gt (xs (6 * i + 1))) (cwV 1 hts (lw_V q255 q256 q257 q10 q258) rfl rfl rfl (by decide +kernel) ⟨Nat.le_of_ble_eq_true rfl, Nat.le_of_ble_eq_true rfl⟩) ⟨fun a U g mk q => by obtain ⟨q0, q1, qP, qK, qD⟩ := q; exact ⟨q0, q1, qP, va_K.moved (u := U) (U := U.calling g mk a) (Vm.Alike.refl U.vm) qK, qD⟩, va_recv hKc hPc (ci := 1) (q0 := 0) rfl rfl, fun U hU hW => ⟨rfl, by rw [hU], by rw [hU]; exact hPc, va_K.moved hW.alike hKc, hDc.weaken (fun _ _ _ _ => trivial)⟩⟩ rfl rfl hl.1 rfl (lv_room (Nat.le_of_ble_eq_true rfl)) dL_law_266 ⟨by show _ ≤ 600128; omega, by show _ ≤ 7301098; omega⟩) hS (fun q _ h => hFc q h) hFc (fun r2 u_ t H1 locs ht hvm hw_ hB hz1 hk1 hS => ?_)
      obtain ⟨hP1, -, -⟩ := hB
      rw [ht] at hP1
      have hP := ot_back hP hD [4, 7] rfl hk1 hP1
      generalize H1 = H at hP hS ⊢
      have hw2 : r2 = nI (gt ((xs (6 * i + 1)).toBitVec.toNat % 2 ^ 4)) := hw_
      refine W.widen (k := 11 + 3 * i) (n := 8367 + 4129 * i) (Nat.le_refl _) (Nat.le_refl _) ?_
      rw [htag _ (Nat.mod_lt _ (by decide))] at hw2
      refine lv_icmp_eq (tgt := 274) hx hb dL_law_269 (by decide) (fun c_ => ?_) (fun c_ => absurd c_ (not_not_intro (hw1.trans hw2.symm)))
      refine lv_iinc (v := nI (6 * (i + 1))) (lv' := [(3, .int (nI (6 * (i + 1)))), (0, .ref b0), (1, .ref o0), (2, .ref m0)]) hx hb dL_law_274 hl (k := 3) rfl (ot_inc (6 * i) 6) (by decide) rfl (fun ls hl => ?_)
      refine lv_goto (tgt := 18) hx hb dL_law_277 (by decide) ?_
      refine W.widen (k := 11 + 3 * (i + 1)) (n := 8367 + 4129 * (i + 1)) (by omega) (by omega) ?_
      exact ih (i + 1) z a3 d3 ft fk fg gk gt gr gh gw (by omega) hz hby hkey htag H locs hK hP hD hS ls (lv_sub hl [1, 2, 3, 0] rfl)
    · refine lv_tableOut (tgt := 274) hx hb dL_law_33 (Or.inr (by rw [nI_toInt (by omega)]; omega)) (by decide) ?_
      refine lv_iinc (v := nI (6 * (i + 1))) (lv' := [(3, .int (nI (6 * (i + 1)))), (0, .ref b0), (1, .ref o0), (2, .ref m0)]) hx hb dL_law_274 hl (k := 3) rfl (ot_inc (6 * i) 6) (by decide) rfl (fun ls hl => ?_)
      refine lv_goto (tgt := 18) hx hb dL_law_277 (by decide) ?_
      refine W.widen (k := 11 + 3 * (i + 1)) (n := 8367 + 4129 * (i + 1)) (by omega) (by omega) ?_
      exact ih (i + 1) z a3 d3 ft fk fg gk gt gr gh gw (by omega) hz hby hkey htag H locs hK hP hD hS ls (lv_sub hl [1, 2, 3, 0] rfl)
end
section
/-! ===== the law from its entry, and the claim ===== -/
set_option maxHeartbeats 8000000 in
set_option maxRecDepth 100000 in
theorem whole_start {p : Program} {e : Env} {s : State} {m : MethodId} {below : List Frame} {meth : Method} {c : Code} (l : Launch) (hflags : l.flags = flags0) {b L : Nat} {xs : Nat → Int32} (hL : L ≤ 384) (C0 : lw_At p s m meth c b L xs) : W p l e room_1 s m #[Value.ref b] below meth c s.heap [] 0 0 (lw_Z below #[Value.ref b] s) (entryFrame m ([Value.ref b] : List Value).toArray 4) := by
  obtain ⟨hx, hb, hr, hml, hown, ht0, hX, hbl, hlocks, hgv⟩ := id C0
  have hts : ∀ w ∈ lw_all, w.before #[Value.ref b] s = true := fun w h => ht0 w (lw_all_tbl h)
  have hA : ∀ q : Nat, s.heap.size ≤ q → (fun q : Nat => s.heap.size ≤ q) q := fun _ h => h
  obtain ⟨c0_, iS0, hKn0⟩ := u_known (C := RX0) (T := TX0) (N := 4) (n := 4) hts in_X0 (hts _ q20)
  obtain ⟨c1_, iS1, hKn1⟩ := u_known (C := RX1) (T := TX1) (N := 7) (n := 7) hts in_X1 (hts _ q186)
  obtain ⟨dC, dI, hKc⟩ : ∃ (dC : Nat → ClassId) (dI : Nat → Nat → Nat), ∀ (k : Nat) (q : vw_C), vwCl[k]? = some q → u_Kn s q.1 q.2.1 q.2.2 (dC k) (dI k) := by
    refine ⟨fun k => if k = 0 then c0_ else c1_, fun k => if k = 0 then iS0 else iS1, ?_⟩
    intro k q hq
    match k, hq with
    | 0, hq => cases hq; exact hKn0
    | 1, hq => cases hq; exact hKn1
    | k + 2, hq => simp [vwCl] at hq
  have hS : va_S (fun q : Nat => s.heap.size ≤ q) s.heap s.heap [] := va_S.rf
  have hK : va_K (dC, dI) vwCl [] s := ⟨hKc, fun k q h => by simp at h⟩
  have hP : va_P (dC, dI) vwCl [] s.heap := fun k q h => by simp at h
  have hD : va_D (fun q : Nat => s.heap.size ≤ q) [] := ⟨fun i j p q h => by simp at h, fun k q h => by simp at h⟩
  have hl := lv_entry ([.ref b]) (n := 4) (Nat.le_of_ble_eq_true rfl)
  rw [lg_entry_eq]
  generalize (lg_sl ([.ref b]) ++ List.replicate (4 - (lg_sl ([.ref b])).length) Slot.unset).toArray = ls at hl ⊢
  have hl : lv_has ls 4 [(0, .ref b)] := hl
  refine va_new (ci := 0) (fs := [.null, .int 0, .null, .null]) (C := RX0) (T := TX0) (N := 4) hx hb hts in_X0 tyX0 tyX0_ok hown (hts _ q19) (hts _ q20) (hts _ q9) hK hP hD hS hA rfl (fun j hj => by rcases (show j = 0 ∨ j = 1 ∨ j = 2 ∨ j = 3 by omega) with rfl | rfl | rfl | rfl <;> rfl) (Nat.le_of_ble_eq_true rfl) (Nat.le_of_ble_eq_true rfl) dL_law_0 (fun o0 H hP hD hS => ?_)
  have hP : va_P (dC, dI) vwCl [(o0, .inr (0, [.null, .int 0, .null, .null]))] H := hP
  have hD : va_D (fun q : Nat => s.heap.size ≤ q) [(o0, .inr (0, [.null, .int 0, .null, .null]))] := hD
  refine W.widen (k := 1) (n := 4) (by omega) (by omega) ?_
  refine lv_dup hx hb dL_law_3 rfl ?_
  have hPc := hP.sub (ws' := [(o0, .inr (0, [.null, .int 0, .null, .null]))]) [0] rfl
  have hDc := hD.sub (ws' := [(o0, .inr (0, [.null, .int 0, .null, .null]))]) [0] (by decide) rfl
  have hKc := hK.sub (tys' := []) [] rfl
  have hFc := va_free (wc := [(o0, .inr (0, [.null, .int 0, .null, .null]))]) hD hS hA [0] rfl
  refine va_callv (va_runI (As := []) (rest := [.ref o0]) ⟨hx, hb, hml, hown, hts⟩ (metX0_init l dC dI H.size o0) (cwI 0 hts (lw_meth q23) rfl rfl rfl (hts _ q9) (hts _ q21) (hts _ q22) rfl (by decide +kernel) ⟨Nat.le_of_ble_eq_true rfl, Nat.le_of_ble_eq_true rfl⟩) ⟨fun a U g mk q => by obtain ⟨q0, q1, qP, qK, qD⟩ := q; exact ⟨q0, q1, qP, va_K.moved (u := U) (U := U.calling g mk a) (Vm.Alike.refl U.vm) qK, qD⟩, fun U hU hW => ⟨rfl, by rw [hU], by rw [hU]; exact hPc, va_K.moved hW.alike hKc, hDc.weaken (fun _ _ _ _ => trivial)⟩⟩ rfl rfl hl.1 rfl (lv_room (Nat.le_of_ble_eq_true rfl)) dL_law_4 ⟨Nat.le_of_ble_eq_true rfl, Nat.le_of_ble_eq_true rfl⟩) hS (fun q _ h => hFc q h) hFc (fun u_ t H1 locs ht hvm hw_ hB hz1 hk1 hS => ?_)
  obtain ⟨a1, a2, a3, d1, d2, d3⟩ := u_
  try dsimp only at hB
  obtain ⟨hP1, hK1, hD1⟩ := hB
  rw [ht] at hP1
  have hK1 := va_K.moved hvm.symm hK1
  obtain ⟨hP, hD⟩ := va_join (wr := []) (w1 := [(o0, .inr (0, [.ref a1, .int 0, .ref a2, .ref a3])), (a1, .inl (d1, 4096, .inl (fun _ => 0))), (a2, .inl (d2, 32, .inl (fun _ => 0))), (a3, .inl (d3, 16, .inl (fun _ => 0)))]) hP hD [0] [] rfl rfl (by decide) (by decide) hk1 hFc hP1 hD1
  generalize H1 = H at hP hS ⊢
  have hP := hP.sub (ws' := [(o0, .inr (0, [.ref a1, .int 0, .ref a2, .ref a3])), (a1, .inl (d1, 4096, .inl (fun _ => 0))), (a2, .inl (d2, 32, .inl (fun _ => 0))), (a3, .inl (d3, 16, .inl (fun _ => 0)))]) [0, 1, 2, 3] rfl
  have hD := hD.sub (ws' := [(o0, .inr (0, [.ref a1, .int 0, .ref a2, .ref a3])), (a1, .inl (d1, 4096, .inl (fun _ => 0))), (a2, .inl (d2, 32, .inl (fun _ => 0))), (a3, .inl (d3, 16, .inl (fun _ => 0)))]) [0, 1, 2, 3] (by decide) rfl
  have hK : va_K (dC, dI) vwCl [(d1, .byte), (d2, .byte), (d3, .byte)] s := hK1
  refine W.widen (k := 4) (n := 4148) (by omega) (by omega) ?_
  refine lv_astore_n (lv' := [(1, .ref o0), (0, .ref b)]) hx hb dL_law_7 rfl hl (by decide) rfl (fun ls hl => ?_)
  refine va_new (ci := 1) (fs := [.null, .int 0, .null, .null, .null, .null, .null]) (C := RX1) (T := TX1) (N := 7) hx hb hts in_X1 tyX1 tyX1_ok hown (hts _ q185) (hts _ q186) (hts _ q10) hK hP hD hS hA rfl (fun j hj => by rcases (show j = 0 ∨ j = 1 ∨ j = 2 ∨ j = 3 ∨ j = 4 ∨ j = 5 ∨ j = 6 by omega) with rfl | rfl | rfl | rfl | rfl | rfl | rfl <;> rfl) (Nat.le_of_ble_eq_true rfl) (Nat.le_of_ble_eq_true rfl) dL_law_8 (fun m0 H hP hD hS => ?_)
  have hP : va_P (dC, dI) vwCl [(o0, .inr (0, [.ref a1, .int 0, .ref a2, .ref a3])), (a1, .inl (d1, 4096, .inl (fun _ => 0))), (a2, .inl (d2, 32, .inl (fun _ => 0))), (a3, .inl (d3, 16, .inl (fun _ => 0))), (m0, .inr (1, [.null, .int 0, .null, .null, .null, .null, .null]))] H := hP
  have hD : va_D (fun q : Nat => s.heap.size ≤ q) [(o0, .inr (0, [.ref a1, .int 0, .ref a2, .ref a3])), (a1, .inl (d1, 4096, .inl (fun _ => 0))), (a2, .inl (d2, 32, .inl (fun _ => 0))), (a3, .inl (d3, 16, .inl (fun _ => 0))), (m0, .inr (1, [.null, .int 0, .null, .null, .null, .null, .null]))] := hD
  refine W.widen (k := 5) (n := 4155) (by omega) (by omega) ?_
  refine lv_dup hx hb dL_law_11 rfl ?_
  have hPc := hP.sub (ws' := [(m0, .inr (1, [.null, .int 0, .null, .null, .null, .null, .null]))]) [4] rfl
  have hDc := hD.sub (ws' := [(m0, .inr (1, [.null, .int 0, .null, .null, .null, .null, .null]))]) [4] (by decide) rfl
  have hKc := hK.sub (tys' := []) [] rfl
  have hFc := va_free (wc := [(m0, .inr (1, [.null, .int 0, .null, .null, .null, .null, .null]))]) hD hS hA [4] rfl
  refine va_callv (va_runI (As := []) (rest := [.ref m0]) ⟨hx, hb, hml, hown, hts⟩ (metX1_init l dC dI H.size m0) (cwI 0 hts (lw_meth q189) rfl rfl rfl (hts _ q10) (hts _ q187) (hts _ q188) rfl (by decide +kernel) ⟨Nat.le_of_ble_eq_true rfl, Nat.le_of_ble_eq_true rfl⟩) ⟨fun a U g mk q => by obtain ⟨q0, q1, qP, qK, qD⟩ := q; exact ⟨q0, q1, qP, va_K.moved (u := U) (U := U.calling g mk a) (Vm.Alike.refl U.vm) qK, qD⟩, fun U hU hW => ⟨rfl, by rw [hU], by rw [hU]; exact hPc, va_K.moved hW.alike hKc, hDc.weaken (fun _ _ _ _ => trivial)⟩⟩ rfl rfl hl.1 rfl (lv_room (Nat.le_of_ble_eq_true rfl)) dL_law_12 ⟨Nat.le_of_ble_eq_true rfl, Nat.le_of_ble_eq_true rfl⟩) hS (fun q _ h => hFc q h) hFc (fun u_ t H1 locs ht hvm hw_ hB hz1 hk1 hS => ?_)
  obtain ⟨b1, b2, b3, b4, b5, b6, e1, e2, e3, e4, e5, e6⟩ := u_
  try dsimp only at hB
  obtain ⟨hP1, hK1, hD1⟩ := hB
  rw [ht] at hP1
  have hK1 := va_K.moved hvm.symm hK1
  obtain ⟨hP, hD⟩ := va_join (wr := [(o0, .inr (0, [.ref a1, .int 0, .ref a2, .ref a3])), (a1, .inl (d1, 4096, .inl (fun _ => 0))), (a2, .inl (d2, 32, .inl (fun _ => 0))), (a3, .inl (d3, 16, .inl (fun _ => 0)))]) (w1 := [(m0, .inr (1, [.ref b1, .int 0, .ref b2, .ref b3, .ref b4, .ref b5, .ref b6])), (b1, .inl (e1, 4096, .inl (fun _ => 0))), (b2, .inl (e2, 32, .inl (fun _ => 0))), (b3, .inl (e3, 16, .inl (fun _ => 0))), (b4, .inl (e4, 17, .inr (.inl (fun _ => 0)))), (b5, .inl (e5, 17, .inr (.inl (fun _ => 0)))), (b6, .inl (e6, 34, .inr (.inl (fun _ => 0))))]) hP hD [4] [0, 1, 2, 3] rfl rfl (by decide) (by decide) hk1 hFc hP1 hD1
  generalize H1 = H at hP hS ⊢
  have hP := hP.sub (ws' := [(o0, .inr (0, [.ref a1, .int 0, .ref a2, .ref a3])), (a1, .inl (d1, 4096, .inl (fun _ => 0))), (a2, .inl (d2, 32, .inl (fun _ => 0))), (a3, .inl (d3, 16, .inl (fun _ => 0))), (m0, .inr (1, [.ref b1, .int 0, .ref b2, .ref b3, .ref b4, .ref b5, .ref b6])), (b1, .inl (e1, 4096, .inl (fun _ => 0))), (b2, .inl (e2, 32, .inl (fun _ => 0))), (b3, .inl (e3, 16, .inl (fun _ => 0))), (b4, .inl (e4, 17, .inr (.inl (fun _ => 0)))), (b5, .inl (e5, 17, .inr (.inl (fun _ => 0)))), (b6, .inl (e6, 34, .inr (.inl (fun _ => 0))))]) [0, 1, 2, 3, 4, 5, 6, 7, 8, 9, 10] rfl
  have hD := hD.sub (ws' := [(o0, .inr (0, [.ref a1, .int 0, .ref a2, .ref a3])), (a1, .inl (d1, 4096, .inl (fun _ => 0))), (a2, .inl (d2, 32, .inl (fun _ => 0))), (a3, .inl (d3, 16, .inl (fun _ => 0))), (m0, .inr (1, [.ref b1, .int 0, .ref b2, .ref b3, .ref b4, .ref b5, .ref b6])), (b1, .inl (e1, 4096, .inl (fun _ => 0))), (b2, .inl (e2, 32, .inl (fun _ => 0))), (b3, .inl (e3, 16, .inl (fun _ => 0))), (b4, .inl (e4, 17, .inr (.inl (fun _ => 0)))), (b5, .inl (e5, 17, .inr (.inl (fun _ => 0)))), (b6, .inl (e6, 34, .inr (.inl (fun _ => 0))))]) [0, 1, 2, 3, 4, 5, 6, 7, 8, 9, 10] (by decide) rfl
  have hK := hK.app hK1
  have hK : va_K (dC, dI) vwCl [(d1, .byte), (d2, .byte), (d3, .byte), (e1, .byte), (e2, .int), (e3, .int), (e4, .long), (e5, .long), (e6, .long)] s := hK
  refine W.widen (k := 11) (n := 8367) (by omega) (by omega) ?_
  refine lv_astore_n (lv' := [(2, .ref m0), (1, .ref o0), (0, .ref b)]) hx hb dL_law_15 rfl hl (by decide) rfl (fun ls hl => ?_)
  refine lv_iconst (v := nI 0) hx hb dL_law_16 (by decide) ?_
  refine lv_istore_n (lv' := [(3, .int (nI 0)), (2, .ref m0), (1, .ref o0), (0, .ref b)]) hx hb dL_law_17 rfl hl (by decide) rfl (fun ls hl => ?_)
  exact lpL_law hx hb hr hlocks hml hown hts hX hbl hL (L / 6) 0 0 a3 d3 (fun _ => 0) (fun _ => 0) (fun _ => 0) (fun _ => 0) (fun _ => 0) (fun _ => 0) (fun _ => 0) (fun _ => 0) rfl (Nat.zero_le _) (fun _ _ => by decide) (fun _ _ => by decide) (fun _ _ => by decide) H locs hK hP hD hS ls (lv_sub hl [3, 2, 1, 0] rfl)
set_option maxHeartbeats 4000000 in
theorem lw_walk (l : Launch) (hflags : l.flags = flags0) (b : Addr) (xs : List Int32) : MetFree l x (headSpec (Jvm.Cond.code x code maxLocals ret :: tables_1) room_1) (lw_P b xs) (fun _ _ _ _ _ => True) lw_Q := by
  refine MetFree.of_bodyS (code := code) (maxLocals := maxLocals) (ret := ret) (by decide) ?_ ?_
  · intro args s m h hn
    obtain ⟨meth, c, h1, h2, h3, h4, h5, h6, -, -⟩ := Cond.code_spec hn (atoms_spec (ws := Jvm.Cond.code x code maxLocals ret :: tables_1) h _ List.mem_cons_self)
    exact ⟨meth, c, h1, h2, h3, h4, h5, h6⟩
  · intro p e s m args below meth c s₁ B hml0 hP _
    obtain ⟨rfl, hx, hbd, hgv⟩ := hP
    obtain ⟨scr, harrAt, hlist, hof, hsmall⟩ := hx
    obtain ⟨hcb, hkn, -, -⟩ := State.arrayAt?_spec harrAt
    have hown : s.vm.findClass R_law = some m.cls := findClass_of_methodNamed B.named
    have hts0 : ∀ c ∈ (Jvm.Cond.code x code maxLocals ret :: tables_1), c.before #[Value.ref b] s = true := atoms_spec (ws := Jvm.Cond.code x code maxLocals ret :: tables_1) B.pre
    have hts : ∀ w ∈ lw_tbl, w.before #[Value.ref b] s = true := k2_hts_sels lw_privs (fun w hw => hts0 w (List.mem_cons_of_mem _ hw)) lw_privs_ok
    have hml : c.maxLocals = 4 := B.maxLocals_eq (hts0 _ List.mem_cons_self)
    have X₀ : Stand p l e room_1 s m #[Value.ref b] below meth c s₁ [] 0 0 := Stand.of_body B
    have hh0 : s₁.heap = s.heap := by rw [B.state]; rfl
    have hsz : scr.slots.size = xs.length := by rw [← Array.length_toList, hlist, List.length_map]
    have hval : ∀ j : Nat, j < xs.length → scr.slots[j]? = some (.int (xs.getD j 0)) := fun j hj => by
      rw [← Array.getElem?_toList, hlist]
      simp [hj]
    have hbl : b < s.heap.size := (Array.getElem?_eq_some_iff.mp hcb).1
    have hX : va_X b xs.length (fun j => xs.getD j 0) s s.heap := ⟨scr, hcb, hof, hkn, hsz, hval⟩
    have K : W p l e room_1 s m #[Value.ref b] below meth c s₁.heap [] 0 0 (lw_Z below #[Value.ref b] s) (entryFrame m ([Value.ref b] : List Value).toArray 4) := by
      rw [hh0]
      exact whole_start l hflags hbd ⟨B.exec, B.bytes, B.returns, hml, hown, hts, hX, hbl, B.notSynchronized, hgv⟩
    obtain ⟨t, a1, o, b1, b2, b3⟩ := K s₁ rfl X₀
    exact ⟨t, o, a1, b1, b2, b3⟩
theorem lw_pre_spec {args : Array Value} {s : State} (h : (Jvm.Cond.and given_1 narrow_1).before args s = true) (hr : rest_1_c.before args s = true) : ∃ (b : Addr) (xs : List Int32), lw_P b xs args s := by
  have hs := flat_of_before _ h
  have hq := flat_of_before _ hr
  have hc : (Cond.count 1).before args s = true := hs _ (by decide +kernel)
  have harr : (Cond.arrayOf (.arg 0) .int).before args s = true := hs _ (by decide +kernel)
  have hle : (Cond.le (.length (.arg 0)) (.int 384)).before args s = true := hs _ (by decide +kernel)
  have hlen : (Cond.isInt (.length (.arg 0))).before args s = true := hq _ (by decide +kernel)
  have hall : (Cond.all (.arg 0) (.isInt (.elem (.arg 0) (.index 0)))).before args s = true := hq _ (by decide +kernel)
  obtain ⟨b, xs, hb, hx⟩ := State.ints_of_pre rfl harr hlen hall
  have hsm : xs.length < 2 ^ 31 := hx.choose_spec.2.2.2
  have hev : (Term.length (.arg 0)).eval args s none [] s = some (.int xs.length.toInt32) := hx.length_eval hb
  have hv := Cond.le_ints hev (show (Term.int 384).eval args s none [] s = some (.int 384) from rfl)
  have hd : xs.length.toInt32 ≤ 384 := by
    simpa [Cond.before, Cond.holds, hv] using hle
  have hN : xs.length ≤ 384 := (Int32.ofNat_le_ofNat hsm (by decide)).mp (show Int32.ofNat xs.length ≤ Int32.ofNat 384 from hd)
  exact ⟨b, xs, Cond.one_arg hc (show args[0]? = some (.ref b) from hb), hx, hN, h⟩
theorem lw_comes (l : Launch) (hflags : l.flags = flags0) : Comes l x (Jvm.Cond.code x code maxLocals ret :: tables_1) room_1 (fun tb e args s => Calls_1 tb e args s ∧ rest_1 tb e args s ∧ Pre_1 tb e args s)
    (fun _ _ args s o t => lw_Q args s o t) := by
  intro p e ha hc hk s m args below hf hfit hheap happ hpre
  obtain ⟨b, xs, hP⟩ := lw_pre_spec hpre.2.2 hpre.2.1
  obtain ⟨k, o, h1, h2, h3, hQ⟩ := lw_walk l hflags b xs p e ha hc hk s m args below hf ((Spec.applies_iff_loose hf).mp happ).1 hP trivial
  exact ⟨k, o, h1, h2, h3, hQ⟩
theorem lw_frame {s t : State} {o : Outcome} {args : Array Value} (h : Framed s o t [] 600128 7301098) :
    Framed s o t (fieldLocs frame_1_writes args s ++ arrayLocs frame_1_arrays args s ++ staticLocs frame_1_statics s) 600128 7301098 := h
theorem lw_limb (L : Cond) (hL : ∀ (args : Array Value) (s t : State), L.after args s (.returned (some (.int 1))) t = true) :
    ArmFor flags0 classFile x code maxLocals ret World_1 tables_1 room_1 Calls_1 rest_1 Pre_1
      (fun tb e a s o t => postC L tb e a s o t ∧ Framed s o t (fieldLocs frame_1_writes a s ++ arrayLocs frame_1_arrays a s ++ staticLocs frame_1_statics s) 600128 7301098) := by
  intro l hflags _ _ p e ha hc hk s m args below hf hfit hheap happ hpre
  obtain ⟨k, o, h1, h2, h3, rfl, hF⟩ := lw_comes l hflags p e ha hc hk s m args below hf hfit hheap happ hpre
  exact ⟨k, _, h1, h2, h3, hL args s _, lw_frame hF⟩
theorem i_vc : Claimed_1_1 ∧ Claimed_1_2 := ⟨lw_limb limb_1_1 (fun args s t => by simp [limb_1_1, Cond.after, Cond.holds, Cond.value]), lw_limb limb_1_2 (fun args s t => Cond.after_iff.mpr (by
  first | (rw [show limb_1_2 = Cond.eq .result (.int 1) from rfl, Cond.eq_ints (x := 1) (y := 1) rfl rfl]; simp; done) | (simp [limb_1_2, Cond.value, Term.eval]; done)))⟩
end
