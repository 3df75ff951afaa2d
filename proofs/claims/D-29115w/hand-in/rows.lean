section
-- ===== PART A: goes FIRST, ahead of the names: the tables' words, and 'selects' of the private methods out of them =====
/-- a private method of a class that the tables say can be made, by its rows of tables_1 -/
def lw_okq (q : MethodName × Nat) : Prop := (q.1.cls ≠ "java/lang/invoke/MethodHandle" ∧ q.1.cls ≠ "java/lang/invoke/VarHandle") ∧ Cond.instantiable q.1.cls q.2 ∈ tables_1 ∧ Cond.privateMethod q.1 ∈ tables_1 ∧ Cond.instanceMethod q.1 ∈ tables_1
set_option maxRecDepth 100000
theorem lw_t1 {w : Cond} (h : w ∈ tables_1_1) : w ∈ tables_1 := List.mem_append_left _ h
theorem lw_t2 {w : Cond} (h : w ∈ tables_1_2) : w ∈ tables_1 := List.mem_append_right _ (List.mem_append_left _ h)
theorem lw_t3 {w : Cond} (h : w ∈ tables_1_3) : w ∈ tables_1 := List.mem_append_right _ (List.mem_append_right _ h)
theorem lw_p0 : lw_okq (⟨"java/lang/NullPointerException", "getExtendedNPEMessage", "()Ljava/lang/String;"⟩, 8) := ⟨⟨by decide +kernel, by decide +kernel⟩, lw_t1 (List.mem_of_getElem? (i := 75) rfl), lw_t1 (List.mem_of_getElem? (i := 103) rfl), lw_t1 (List.mem_of_getElem? (i := 104) rfl)⟩
theorem lw_p1 : lw_okq (⟨"java/lang/Throwable", "fillInStackTrace", "(I)Ljava/lang/Throwable;"⟩, 6) := ⟨⟨by decide +kernel, by decide +kernel⟩, lw_t1 (List.mem_of_getElem? (i := 116) rfl), lw_t1 (List.mem_of_getElem? (i := 114) rfl), lw_t1 (List.mem_of_getElem? (i := 115) rfl)⟩
theorem lw_p2 : lw_okq (⟨"AsconHashDesk", "word", "(II)V"⟩, 5) := ⟨⟨by decide +kernel, by decide +kernel⟩, lw_t1 (List.mem_of_getElem? (i := 27) rfl), lw_t2 (List.mem_of_getElem? (i := 21) rfl), lw_t2 (List.mem_of_getElem? (i := 22) rfl)⟩
theorem lw_p3 : lw_okq (⟨"AsconHashDesk", "from", "(I)I"⟩, 5) := ⟨⟨by decide +kernel, by decide +kernel⟩, lw_t1 (List.mem_of_getElem? (i := 27) rfl), lw_t2 (List.mem_of_getElem? (i := 29) rfl), lw_t2 (List.mem_of_getElem? (i := 30) rfl)⟩
theorem lw_p4 : lw_okq (⟨"AsconHashDesk", "count", "(II)I"⟩, 5) := ⟨⟨by decide +kernel, by decide +kernel⟩, lw_t1 (List.mem_of_getElem? (i := 27) rfl), lw_t2 (List.mem_of_getElem? (i := 42) rfl), lw_t2 (List.mem_of_getElem? (i := 43) rfl)⟩
theorem lw_p5 : lw_okq (⟨"AsconHashDeskModel", "hash", "()V"⟩, 5) := ⟨⟨by decide +kernel, by decide +kernel⟩, lw_t3 (List.mem_of_getElem? (i := 68) rfl), lw_t3 (List.mem_of_getElem? (i := 119) rfl), lw_t3 (List.mem_of_getElem? (i := 120) rfl)⟩
def lw_privs_1 : List (MethodName × Nat) := [(⟨"java/lang/NullPointerException", "getExtendedNPEMessage", "()Ljava/lang/String;"⟩, 8), (⟨"java/lang/Throwable", "fillInStackTrace", "(I)Ljava/lang/Throwable;"⟩, 6), (⟨"AsconHashDesk", "word", "(II)V"⟩, 5), (⟨"AsconHashDesk", "from", "(I)I"⟩, 5), (⟨"AsconHashDesk", "count", "(II)I"⟩, 5), (⟨"AsconHashDeskModel", "hash", "()V"⟩, 5)]
theorem lw_r1 : ∀ q ∈ lw_privs_1, lw_okq q := List.forall_mem_cons.mpr ⟨lw_p0, List.forall_mem_cons.mpr ⟨lw_p1, List.forall_mem_cons.mpr ⟨lw_p2, List.forall_mem_cons.mpr ⟨lw_p3, List.forall_mem_cons.mpr ⟨lw_p4, List.forall_mem_cons.mpr ⟨lw_p5, fun _ h => absurd h List.not_mem_nil⟩⟩⟩⟩⟩⟩
def lw_privs : List (MethodName × Nat) := lw_privs_1
def lw_tbl : List Cond := k2_sels lw_privs ++ tables_1
theorem lw_privs_ok : ∀ q ∈ lw_privs, lw_okq q := lw_r1
-- ===== ONE list of words for every method: the tables' words that hold all through a run =====
def lw_all : List Cond := lw_tbl.filter goodWord
/-- a word of the tables by its place: claim/WORDS.tsv -/
theorem lw_w {w : Cond} (i : Nat) (h : lw_tbl[i]? = some w) (g : goodWord w = true) : w ∈ lw_all := List.mem_filter.mpr ⟨List.mem_of_getElem? h, g⟩
theorem lw_all_tbl {w : Cond} (h : w ∈ lw_all) : w ∈ lw_tbl := (List.mem_filter.mp h).1
theorem lw_self : GoodIn lw_all lw_all := fun w h => ⟨h, good_of_word (List.mem_filter.mp h).2⟩
/-- a class's field words, by their places -/
theorem lw_in (ws : List Cond) (ps : List Nat) (hp : ws = ps.filterMap (fun i => lw_tbl[i]?)) (hg : ws.all goodWord = true) : ∀ w ∈ ws, w ∈ lw_all := by
  intro w h
  have h1 := List.all_eq_true.mp hg w h
  rw [hp] at h
  obtain ⟨i, -, hi⟩ := List.mem_filterMap.mp h
  exact lw_w i hi h1
/-- the words of a contract for the method y with code b, L locals, answer r -/
abbrev ws_ (y : MethodName) (b : ByteArray) (L : Nat) (r : Option FieldType) : List Cond := Cond.code y b L r :: lw_all
theorem lw_meth {y : MethodName} {b : ByteArray} {L : Nat} {r : Option FieldType} (h : Cond.code y b L r ∈ lw_all) : GoodIn lw_all (ws_ y b L r) := by
  intro w hw
  rcases List.mem_cons.mp hw with e | e
  · rw [e]
    exact lw_self _ h
  · exact lw_self _ e
theorem lw_app {a c : List Cond} (ha : ∀ w ∈ a, w ∈ lw_all) (hc : GoodIn lw_all c) : GoodIn lw_all (a ++ c) := by
  intro w hw
  rcases List.mem_append.mp hw with e | e
  · exact lw_self w (ha w e)
  · exact hc w e
/-- what a call through an object asks: cwV n hts (lw_V ..) -/
theorem lw_V {own : String} {idx : Nat} {C : String} {y : MethodName} {b : ByteArray} {L : Nat} {r : Option FieldType} (h1 : Cond.methodLink own idx y ∈ lw_all) (h2 : Cond.instanceMethod y ∈ lw_all) (h3 : Cond.selects C y y ∈ lw_all) (h4 : Cond.initialized C ∈ lw_all) (h5 : Cond.code y b L r ∈ lw_all) : GoodIn lw_all (wsV own idx C y (ws_ y b L r)) := by
  refine lw_app ?_ (lw_meth h5)
  intro w hw
  simp only [List.mem_cons, List.not_mem_nil, or_false] at hw
  rcases hw with e | e | e | e
  · rw [e]; exact h1
  · rw [e]; exact h2
  · rw [e]; exact h3
  · rw [e]; exact h4
/-- what a static call asks: va_cwS n hts (lw_S ..) -/
theorem lw_S {own : String} {idx : Nat} {y : MethodName} {b : ByteArray} {L : Nat} {r : Option FieldType} (h1 : Cond.methodLink own idx y ∈ lw_all) (h2 : Cond.static y ∈ lw_all) (h3 : Cond.initialized y.cls ∈ lw_all) (h4 : Cond.code y b L r ∈ lw_all) : GoodIn lw_all (va_wsS own idx y (ws_ y b L r)) := by
  refine lw_app ?_ (lw_meth h4)
  intro w hw
  simp only [List.mem_cons, List.not_mem_nil, or_false] at hw
  rcases hw with e | e | e
  · rw [e]; exact h1
  · rw [e]; exact h2
  · rw [e]; exact h3
/-- the words of a contract for a method WITH HANDLERS (hh: its table) -/
abbrev wsW_ (y : MethodName) (b : ByteArray) (L : Nat) (r : Option FieldType) (hh : List (Nat × Nat × Nat × Nat)) : List Cond := Cond.codeWith y b L r hh :: lw_all
theorem lw_methW {y : MethodName} {b : ByteArray} {L : Nat} {r : Option FieldType} {hh : List (Nat × Nat × Nat × Nat)} (h : Cond.codeWith y b L r hh ∈ lw_all) : GoodIn lw_all (wsW_ y b L r hh) := by
  intro w hw
  rcases List.mem_cons.mp hw with e | e
  · rw [e]
    exact lw_self _ h
  · exact lw_self _ e
/-- any list of words by their places (lw_in), good -/
theorem lw_good {ws : List Cond} (h : ∀ w ∈ ws, w ∈ lw_all) : GoodIn lw_all ws := fun w hw => lw_self w (h w hw)
/-- what a call of a method with handlers asks: vx_cwVW n hts (lw_VW ..), vx_cwSW n hts (lw_SW ..) -/
theorem lw_VW {own : String} {idx : Nat} {C : String} {y : MethodName} {b : ByteArray} {L : Nat} {r : Option FieldType} {hh : List (Nat × Nat × Nat × Nat)} (h1 : Cond.methodLink own idx y ∈ lw_all) (h2 : Cond.instanceMethod y ∈ lw_all) (h3 : Cond.selects C y y ∈ lw_all) (h4 : Cond.initialized C ∈ lw_all) (h5 : Cond.codeWith y b L r hh ∈ lw_all) : GoodIn lw_all (wsV own idx C y (wsW_ y b L r hh)) := by
  refine lw_app ?_ (lw_methW h5)
  intro w hw
  simp only [List.mem_cons, List.not_mem_nil, or_false] at hw
  rcases hw with e | e | e | e
  · rw [e]; exact h1
  · rw [e]; exact h2
  · rw [e]; exact h3
  · rw [e]; exact h4
theorem lw_SW {own : String} {idx : Nat} {y : MethodName} {b : ByteArray} {L : Nat} {r : Option FieldType} {hh : List (Nat × Nat × Nat × Nat)} (h1 : Cond.methodLink own idx y ∈ lw_all) (h2 : Cond.static y ∈ lw_all) (h3 : Cond.initialized y.cls ∈ lw_all) (h4 : Cond.codeWith y b L r hh ∈ lw_all) : GoodIn lw_all (va_wsS own idx y (wsW_ y b L r hh)) := by
  refine lw_app ?_ (lw_methW h4)
  intro w hw
  simp only [List.mem_cons, List.not_mem_nil, or_false] at hw
  rcases hw with e | e | e
  · rw [e]; exact h1
  · rw [e]; exact h2
  · rw [e]; exact h3
/-- a word by its place in its run of the tables -/
theorem lw_at {r : List Cond} (hr : ∀ w ∈ r, w ∈ lw_tbl) {w : Cond} (i : Nat) (h : r[i]? = some w) : w ∈ lw_tbl := hr w (List.mem_of_getElem? h)
theorem lw_g {w : Cond} (h : w ∈ lw_tbl) (g : goodWord w = true) : w ∈ lw_all := List.mem_filter.mpr ⟨h, g⟩
theorem lw_ms : ∀ w ∈ k2_sels lw_privs, w ∈ lw_tbl := fun w h => show w ∈ k2_sels lw_privs ++ tables_1 from List.mem_append_left _ h
theorem lw_m1 : ∀ w ∈ tables_1_1, w ∈ lw_tbl := fun w h => show w ∈ k2_sels lw_privs ++ tables_1 from List.mem_append_right (k2_sels lw_privs) (show w ∈ tables_1 from List.mem_append_left _ h)
theorem lw_m2 : ∀ w ∈ tables_1_2, w ∈ lw_tbl := fun w h => show w ∈ k2_sels lw_privs ++ tables_1 from List.mem_append_right (k2_sels lw_privs) (show w ∈ tables_1 from List.mem_append_right _ (List.mem_append_left _ h))
theorem lw_m3 : ∀ w ∈ tables_1_3, w ∈ lw_tbl := fun w h => show w ∈ k2_sels lw_privs ++ tables_1 from List.mem_append_right (k2_sels lw_privs) (show w ∈ tables_1 from List.mem_append_right _ (List.mem_append_right _ h))
theorem qs0 : (Cond.selects "java/lang/NullPointerException" ⟨"java/lang/NullPointerException", "getExtendedNPEMessage", "()Ljava/lang/String;"⟩ ⟨"java/lang/NullPointerException", "getExtendedNPEMessage", "()Ljava/lang/String;"⟩) ∈ lw_all := lw_g (lw_at lw_ms 0 rfl) rfl
theorem qs1 : (Cond.selects "java/lang/Throwable" ⟨"java/lang/Throwable", "fillInStackTrace", "(I)Ljava/lang/Throwable;"⟩ ⟨"java/lang/Throwable", "fillInStackTrace", "(I)Ljava/lang/Throwable;"⟩) ∈ lw_all := lw_g (lw_at lw_ms 1 rfl) rfl
theorem qs2 : (Cond.selects "AsconHashDesk" ⟨"AsconHashDesk", "word", "(II)V"⟩ ⟨"AsconHashDesk", "word", "(II)V"⟩) ∈ lw_all := lw_g (lw_at lw_ms 2 rfl) rfl
theorem qs3 : (Cond.selects "AsconHashDesk" ⟨"AsconHashDesk", "from", "(I)I"⟩ ⟨"AsconHashDesk", "from", "(I)I"⟩) ∈ lw_all := lw_g (lw_at lw_ms 3 rfl) rfl
theorem qs4 : (Cond.selects "AsconHashDesk" ⟨"AsconHashDesk", "count", "(II)I"⟩ ⟨"AsconHashDesk", "count", "(II)I"⟩) ∈ lw_all := lw_g (lw_at lw_ms 4 rfl) rfl
theorem qs5 : (Cond.selects "AsconHashDeskModel" ⟨"AsconHashDeskModel", "hash", "()V"⟩ ⟨"AsconHashDeskModel", "hash", "()V"⟩) ∈ lw_all := lw_g (lw_at lw_ms 5 rfl) rfl

/-! DECODE ROWS BY BYTES: one lemma an opcode; a method's code is cut into short pieces once, and a row reads its own piece alone. -/
set_option maxRecDepth 100000
/-- the code has just these bytes from pc on -/
def DkAt (code : ByteArray) (pc : Nat) (bs : List UInt8) : Prop := ∀ (j : Nat) (b : UInt8), bs[j]? = some b → code.data.toList[pc + j]? = some b
/-- the piece W has the bytes bs from its place j on -/
def dkIn (W : List UInt8) (j : Nat) (bs : List UInt8) : Bool := decide ((W.drop j).take bs.length = bs)
theorem dk_seg {l W T : List UInt8} {o o2 : Nat} (h : l.drop o = W ++ T) (n : Nat) (hn : W.length = n) (ho : o + n = o2) : l.drop o2 = T := by
  subst ho
  rw [← List.drop_drop, h, List.drop_left' hn]
theorem dk_at {code : ByteArray} {W T bs : List UInt8} {o pc : Nat} (h : code.data.toList.drop o = W ++ T) (j : Nat) (hp : o + j = pc) (hw : dkIn W j bs = true) : DkAt code pc bs := by
  subst hp
  intro i b e
  have h1 := of_decide_eq_true hw
  have h2 : i < bs.length := (List.getElem?_eq_some_iff.mp e).1
  have h3 : W[j + i]? = some b := by
    rw [← h1, List.getElem?_take, if_pos h2, List.getElem?_drop] at e
    exact e
  have h4 : j + i < W.length := (List.getElem?_eq_some_iff.mp h3).1
  have h5 : (code.data.toList.drop o)[j + i]? = some b := by
    rw [h, List.getElem?_append_left h4]
    exact h3
  rw [List.getElem?_drop, ← Nat.add_assoc] at h5
  exact h5
theorem dk_u1 {A : ByteArray} {p : Nat} {b : UInt8} (h : A.data.toList[p]? = some b) : (Reader.u1 : Reader DecodeError Nat) A p = .ok (b.toNat, p + 1) := by
  obtain ⟨h1, h2⟩ := List.getElem?_eq_some_iff.mp h
  have h3 : p < A.size := by simpa using h1
  have h4 : A[p]'h3 = b := h2
  have e : (Reader.u1 : Reader DecodeError Nat) A p = (if h : p < A.size then .ok (A[p].toNat, p + 1) else .error (HasTruncated.truncated p)) := by
    show (do if h : p < A.size then do set (p + 1); Pure.pure A[p].toNat else MonadExcept.throw (HasTruncated.truncated p) : Reader DecodeError Nat) A p = _
    by_cases hi : p < A.size
    · rw [dif_pos hi, dif_pos hi]; rfl
    · rw [dif_neg hi, dif_neg hi]; rfl
  rw [e, dif_pos h3, h4]
theorem dk_bind {α β : Type} {r : Reader DecodeError α} {f : α → Reader DecodeError β} {A : ByteArray} {p s : Nat} {a : α} (h : r A p = .ok (a, s)) : (r >>= f) A p = f a A s := by
  show (do let (a, s) ← r A p; f a A s : Except DecodeError (β × Nat)) = _
  rw [h]
  rfl
theorem dk_map {α β : Type} {r : Reader DecodeError α} {g : α → β} {A : ByteArray} {p s : Nat} {a : α} (h : r A p = .ok (a, s)) : (g <$> r) A p = .ok (g a, s) := by
  show (do let (a, s) ← r A p; .ok (g a, s) : Except DecodeError (β × Nat)) = _
  rw [h]
  rfl
theorem dk_u2 {A : ByteArray} {p : Nat} {a b : UInt8} (h : A.data.toList[p]? = some a) (h2 : A.data.toList[p + 1]? = some b) : (Reader.u2 : Reader DecodeError Nat) A p = .ok (a.toNat * 256 + b.toNat, p + 2) := by
  show (Reader.u1 >>= fun hi => Reader.u1 >>= fun lo => Pure.pure (hi * 256 + lo) : Reader DecodeError Nat) A p = _
  rw [dk_bind (dk_u1 h), dk_bind (dk_u1 h2)]
  rfl
theorem dk_of {code : ByteArray} {pc n : Nat} {i : Instr} (h : Decoder.instr pc code pc = .ok (i, pc + n)) : decode code pc = .ok (i, n) := by
  have e : decode code pc = (match Decoder.instr pc code pc with | .error x => .error x | .ok (j, s) => .ok (j, s - pc)) := by
    show (do let (j, s) ← Decoder.instr pc code pc; Pure.pure (j, s - pc) : Except DecodeError (Instr × Nat)) = _
    cases Decoder.instr pc code pc <;> rfl
  rw [e, h]
  show Except.ok (i, pc + n - pc) = _
  rw [Nat.add_sub_cancel_left]
theorem dk_1 {code : ByteArray} {pc : Nat} (h : DkAt code pc [1]) : decode code pc = .ok (.aconst_null, 1) := dk_of ((dk_bind (dk_u1 (h 0 _ rfl))).trans rfl)
theorem dk_3 {code : ByteArray} {pc : Nat} (h : DkAt code pc [3]) : decode code pc = .ok (.iconst 0, 1) := dk_of ((dk_bind (dk_u1 (h 0 _ rfl))).trans rfl)
theorem dk_4 {code : ByteArray} {pc : Nat} (h : DkAt code pc [4]) : decode code pc = .ok (.iconst 1, 1) := dk_of ((dk_bind (dk_u1 (h 0 _ rfl))).trans rfl)
theorem dk_5 {code : ByteArray} {pc : Nat} (h : DkAt code pc [5]) : decode code pc = .ok (.iconst 2, 1) := dk_of ((dk_bind (dk_u1 (h 0 _ rfl))).trans rfl)
theorem dk_6 {code : ByteArray} {pc : Nat} (h : DkAt code pc [6]) : decode code pc = .ok (.iconst 3, 1) := dk_of ((dk_bind (dk_u1 (h 0 _ rfl))).trans rfl)
theorem dk_7 {code : ByteArray} {pc : Nat} (h : DkAt code pc [7]) : decode code pc = .ok (.iconst 4, 1) := dk_of ((dk_bind (dk_u1 (h 0 _ rfl))).trans rfl)
theorem dk_8 {code : ByteArray} {pc : Nat} (h : DkAt code pc [8]) : decode code pc = .ok (.iconst 5, 1) := dk_of ((dk_bind (dk_u1 (h 0 _ rfl))).trans rfl)
theorem dk_9 {code : ByteArray} {pc : Nat} (h : DkAt code pc [9]) : decode code pc = .ok (.lconst 0, 1) := dk_of ((dk_bind (dk_u1 (h 0 _ rfl))).trans rfl)
theorem dk_10 {code : ByteArray} {pc : Nat} (h : DkAt code pc [10]) : decode code pc = .ok (.lconst 1, 1) := dk_of ((dk_bind (dk_u1 (h 0 _ rfl))).trans rfl)
theorem dk_16 {code : ByteArray} {pc : Nat} (a : UInt8) (h : DkAt code pc [16, a]) : decode code pc = .ok (.bipush (Reader.signed 8 a.toNat), 2) := dk_of ((dk_bind (dk_u1 (h 0 _ rfl))).trans ((dk_bind (dk_map (dk_u1 (h 1 _ rfl)))).trans rfl))
theorem dk_17 {code : ByteArray} {pc : Nat} (a b : UInt8) (h : DkAt code pc [17, a, b]) : decode code pc = .ok (.sipush (Reader.signed 16 (a.toNat * 256 + b.toNat)), 3) := dk_of ((dk_bind (dk_u1 (h 0 _ rfl))).trans ((dk_bind (dk_map (dk_u2 (h 1 _ rfl) (h 2 _ rfl)))).trans rfl))
theorem dk_18 {code : ByteArray} {pc : Nat} (a : UInt8) (h : DkAt code pc [18, a]) : decode code pc = .ok (.ldc a.toNat, 2) := dk_of ((dk_bind (dk_u1 (h 0 _ rfl))).trans ((dk_bind (dk_u1 (h 1 _ rfl))).trans rfl))
theorem dk_20 {code : ByteArray} {pc : Nat} (a b : UInt8) (h : DkAt code pc [20, a, b]) : decode code pc = .ok (.ldc2_w (a.toNat * 256 + b.toNat), 3) := dk_of ((dk_bind (dk_u1 (h 0 _ rfl))).trans ((dk_bind (dk_u2 (h 1 _ rfl) (h 2 _ rfl))).trans rfl))
theorem dk_21 {code : ByteArray} {pc : Nat} (a : UInt8) (h : DkAt code pc [21, a]) : decode code pc = .ok (.iload a.toNat, 2) := dk_of ((dk_bind (dk_u1 (h 0 _ rfl))).trans ((dk_bind (dk_u1 (h 1 _ rfl))).trans rfl))
theorem dk_22 {code : ByteArray} {pc : Nat} (a : UInt8) (h : DkAt code pc [22, a]) : decode code pc = .ok (.lload a.toNat, 2) := dk_of ((dk_bind (dk_u1 (h 0 _ rfl))).trans ((dk_bind (dk_u1 (h 1 _ rfl))).trans rfl))
theorem dk_25 {code : ByteArray} {pc : Nat} (a : UInt8) (h : DkAt code pc [25, a]) : decode code pc = .ok (.aload a.toNat, 2) := dk_of ((dk_bind (dk_u1 (h 0 _ rfl))).trans ((dk_bind (dk_u1 (h 1 _ rfl))).trans rfl))
theorem dk_26 {code : ByteArray} {pc : Nat} (h : DkAt code pc [26]) : decode code pc = .ok (.iload_n 0, 1) := dk_of ((dk_bind (dk_u1 (h 0 _ rfl))).trans rfl)
theorem dk_27 {code : ByteArray} {pc : Nat} (h : DkAt code pc [27]) : decode code pc = .ok (.iload_n 1, 1) := dk_of ((dk_bind (dk_u1 (h 0 _ rfl))).trans rfl)
theorem dk_28 {code : ByteArray} {pc : Nat} (h : DkAt code pc [28]) : decode code pc = .ok (.iload_n 2, 1) := dk_of ((dk_bind (dk_u1 (h 0 _ rfl))).trans rfl)
theorem dk_29 {code : ByteArray} {pc : Nat} (h : DkAt code pc [29]) : decode code pc = .ok (.iload_n 3, 1) := dk_of ((dk_bind (dk_u1 (h 0 _ rfl))).trans rfl)
theorem dk_30 {code : ByteArray} {pc : Nat} (h : DkAt code pc [30]) : decode code pc = .ok (.lload_n 0, 1) := dk_of ((dk_bind (dk_u1 (h 0 _ rfl))).trans rfl)
theorem dk_31 {code : ByteArray} {pc : Nat} (h : DkAt code pc [31]) : decode code pc = .ok (.lload_n 1, 1) := dk_of ((dk_bind (dk_u1 (h 0 _ rfl))).trans rfl)
theorem dk_32 {code : ByteArray} {pc : Nat} (h : DkAt code pc [32]) : decode code pc = .ok (.lload_n 2, 1) := dk_of ((dk_bind (dk_u1 (h 0 _ rfl))).trans rfl)
theorem dk_33 {code : ByteArray} {pc : Nat} (h : DkAt code pc [33]) : decode code pc = .ok (.lload_n 3, 1) := dk_of ((dk_bind (dk_u1 (h 0 _ rfl))).trans rfl)
theorem dk_42 {code : ByteArray} {pc : Nat} (h : DkAt code pc [42]) : decode code pc = .ok (.aload_n 0, 1) := dk_of ((dk_bind (dk_u1 (h 0 _ rfl))).trans rfl)
theorem dk_43 {code : ByteArray} {pc : Nat} (h : DkAt code pc [43]) : decode code pc = .ok (.aload_n 1, 1) := dk_of ((dk_bind (dk_u1 (h 0 _ rfl))).trans rfl)
theorem dk_44 {code : ByteArray} {pc : Nat} (h : DkAt code pc [44]) : decode code pc = .ok (.aload_n 2, 1) := dk_of ((dk_bind (dk_u1 (h 0 _ rfl))).trans rfl)
theorem dk_45 {code : ByteArray} {pc : Nat} (h : DkAt code pc [45]) : decode code pc = .ok (.aload_n 3, 1) := dk_of ((dk_bind (dk_u1 (h 0 _ rfl))).trans rfl)
theorem dk_46 {code : ByteArray} {pc : Nat} (h : DkAt code pc [46]) : decode code pc = .ok (.iaload, 1) := dk_of ((dk_bind (dk_u1 (h 0 _ rfl))).trans rfl)
theorem dk_47 {code : ByteArray} {pc : Nat} (h : DkAt code pc [47]) : decode code pc = .ok (.laload, 1) := dk_of ((dk_bind (dk_u1 (h 0 _ rfl))).trans rfl)
theorem dk_51 {code : ByteArray} {pc : Nat} (h : DkAt code pc [51]) : decode code pc = .ok (.baload, 1) := dk_of ((dk_bind (dk_u1 (h 0 _ rfl))).trans rfl)
theorem dk_54 {code : ByteArray} {pc : Nat} (a : UInt8) (h : DkAt code pc [54, a]) : decode code pc = .ok (.istore a.toNat, 2) := dk_of ((dk_bind (dk_u1 (h 0 _ rfl))).trans ((dk_bind (dk_u1 (h 1 _ rfl))).trans rfl))
theorem dk_55 {code : ByteArray} {pc : Nat} (a : UInt8) (h : DkAt code pc [55, a]) : decode code pc = .ok (.lstore a.toNat, 2) := dk_of ((dk_bind (dk_u1 (h 0 _ rfl))).trans ((dk_bind (dk_u1 (h 1 _ rfl))).trans rfl))
theorem dk_58 {code : ByteArray} {pc : Nat} (a : UInt8) (h : DkAt code pc [58, a]) : decode code pc = .ok (.astore a.toNat, 2) := dk_of ((dk_bind (dk_u1 (h 0 _ rfl))).trans ((dk_bind (dk_u1 (h 1 _ rfl))).trans rfl))
theorem dk_60 {code : ByteArray} {pc : Nat} (h : DkAt code pc [60]) : decode code pc = .ok (.istore_n 1, 1) := dk_of ((dk_bind (dk_u1 (h 0 _ rfl))).trans rfl)
theorem dk_61 {code : ByteArray} {pc : Nat} (h : DkAt code pc [61]) : decode code pc = .ok (.istore_n 2, 1) := dk_of ((dk_bind (dk_u1 (h 0 _ rfl))).trans rfl)
theorem dk_62 {code : ByteArray} {pc : Nat} (h : DkAt code pc [62]) : decode code pc = .ok (.istore_n 3, 1) := dk_of ((dk_bind (dk_u1 (h 0 _ rfl))).trans rfl)
theorem dk_63 {code : ByteArray} {pc : Nat} (h : DkAt code pc [63]) : decode code pc = .ok (.lstore_n 0, 1) := dk_of ((dk_bind (dk_u1 (h 0 _ rfl))).trans rfl)
theorem dk_65 {code : ByteArray} {pc : Nat} (h : DkAt code pc [65]) : decode code pc = .ok (.lstore_n 2, 1) := dk_of ((dk_bind (dk_u1 (h 0 _ rfl))).trans rfl)
theorem dk_66 {code : ByteArray} {pc : Nat} (h : DkAt code pc [66]) : decode code pc = .ok (.lstore_n 3, 1) := dk_of ((dk_bind (dk_u1 (h 0 _ rfl))).trans rfl)
theorem dk_76 {code : ByteArray} {pc : Nat} (h : DkAt code pc [76]) : decode code pc = .ok (.astore_n 1, 1) := dk_of ((dk_bind (dk_u1 (h 0 _ rfl))).trans rfl)
theorem dk_77 {code : ByteArray} {pc : Nat} (h : DkAt code pc [77]) : decode code pc = .ok (.astore_n 2, 1) := dk_of ((dk_bind (dk_u1 (h 0 _ rfl))).trans rfl)
theorem dk_79 {code : ByteArray} {pc : Nat} (h : DkAt code pc [79]) : decode code pc = .ok (.iastore, 1) := dk_of ((dk_bind (dk_u1 (h 0 _ rfl))).trans rfl)
theorem dk_80 {code : ByteArray} {pc : Nat} (h : DkAt code pc [80]) : decode code pc = .ok (.lastore, 1) := dk_of ((dk_bind (dk_u1 (h 0 _ rfl))).trans rfl)
theorem dk_84 {code : ByteArray} {pc : Nat} (h : DkAt code pc [84]) : decode code pc = .ok (.bastore, 1) := dk_of ((dk_bind (dk_u1 (h 0 _ rfl))).trans rfl)
theorem dk_87 {code : ByteArray} {pc : Nat} (h : DkAt code pc [87]) : decode code pc = .ok (.pop, 1) := dk_of ((dk_bind (dk_u1 (h 0 _ rfl))).trans rfl)
theorem dk_89 {code : ByteArray} {pc : Nat} (h : DkAt code pc [89]) : decode code pc = .ok (.dup, 1) := dk_of ((dk_bind (dk_u1 (h 0 _ rfl))).trans rfl)
theorem dk_90 {code : ByteArray} {pc : Nat} (h : DkAt code pc [90]) : decode code pc = .ok (.dup_x1, 1) := dk_of ((dk_bind (dk_u1 (h 0 _ rfl))).trans rfl)
theorem dk_96 {code : ByteArray} {pc : Nat} (h : DkAt code pc [96]) : decode code pc = .ok (.iadd, 1) := dk_of ((dk_bind (dk_u1 (h 0 _ rfl))).trans rfl)
theorem dk_100 {code : ByteArray} {pc : Nat} (h : DkAt code pc [100]) : decode code pc = .ok (.isub, 1) := dk_of ((dk_bind (dk_u1 (h 0 _ rfl))).trans rfl)
theorem dk_104 {code : ByteArray} {pc : Nat} (h : DkAt code pc [104]) : decode code pc = .ok (.imul, 1) := dk_of ((dk_bind (dk_u1 (h 0 _ rfl))).trans rfl)
theorem dk_108 {code : ByteArray} {pc : Nat} (h : DkAt code pc [108]) : decode code pc = .ok (.idiv, 1) := dk_of ((dk_bind (dk_u1 (h 0 _ rfl))).trans rfl)
theorem dk_112 {code : ByteArray} {pc : Nat} (h : DkAt code pc [112]) : decode code pc = .ok (.irem, 1) := dk_of ((dk_bind (dk_u1 (h 0 _ rfl))).trans rfl)
theorem dk_116 {code : ByteArray} {pc : Nat} (h : DkAt code pc [116]) : decode code pc = .ok (.ineg, 1) := dk_of ((dk_bind (dk_u1 (h 0 _ rfl))).trans rfl)
theorem dk_120 {code : ByteArray} {pc : Nat} (h : DkAt code pc [120]) : decode code pc = .ok (.ishl, 1) := dk_of ((dk_bind (dk_u1 (h 0 _ rfl))).trans rfl)
theorem dk_121 {code : ByteArray} {pc : Nat} (h : DkAt code pc [121]) : decode code pc = .ok (.lshl, 1) := dk_of ((dk_bind (dk_u1 (h 0 _ rfl))).trans rfl)
theorem dk_122 {code : ByteArray} {pc : Nat} (h : DkAt code pc [122]) : decode code pc = .ok (.ishr, 1) := dk_of ((dk_bind (dk_u1 (h 0 _ rfl))).trans rfl)
theorem dk_124 {code : ByteArray} {pc : Nat} (h : DkAt code pc [124]) : decode code pc = .ok (.iushr, 1) := dk_of ((dk_bind (dk_u1 (h 0 _ rfl))).trans rfl)
theorem dk_125 {code : ByteArray} {pc : Nat} (h : DkAt code pc [125]) : decode code pc = .ok (.lushr, 1) := dk_of ((dk_bind (dk_u1 (h 0 _ rfl))).trans rfl)
theorem dk_126 {code : ByteArray} {pc : Nat} (h : DkAt code pc [126]) : decode code pc = .ok (.iand, 1) := dk_of ((dk_bind (dk_u1 (h 0 _ rfl))).trans rfl)
theorem dk_127 {code : ByteArray} {pc : Nat} (h : DkAt code pc [127]) : decode code pc = .ok (.land, 1) := dk_of ((dk_bind (dk_u1 (h 0 _ rfl))).trans rfl)
theorem dk_128 {code : ByteArray} {pc : Nat} (h : DkAt code pc [128]) : decode code pc = .ok (.ior, 1) := dk_of ((dk_bind (dk_u1 (h 0 _ rfl))).trans rfl)
theorem dk_129 {code : ByteArray} {pc : Nat} (h : DkAt code pc [129]) : decode code pc = .ok (.lor, 1) := dk_of ((dk_bind (dk_u1 (h 0 _ rfl))).trans rfl)
theorem dk_131 {code : ByteArray} {pc : Nat} (h : DkAt code pc [131]) : decode code pc = .ok (.lxor, 1) := dk_of ((dk_bind (dk_u1 (h 0 _ rfl))).trans rfl)
theorem dk_132 {code : ByteArray} {pc : Nat} (a b : UInt8) (h : DkAt code pc [132, a, b]) : decode code pc = .ok (.iinc a.toNat (Reader.signed 8 b.toNat), 3) := dk_of ((dk_bind (dk_u1 (h 0 _ rfl))).trans ((dk_bind (dk_u1 (h 1 _ rfl))).trans ((dk_bind (dk_map (dk_u1 (h 2 _ rfl)))).trans rfl)))
theorem dk_133 {code : ByteArray} {pc : Nat} (h : DkAt code pc [133]) : decode code pc = .ok (.i2l, 1) := dk_of ((dk_bind (dk_u1 (h 0 _ rfl))).trans rfl)
theorem dk_136 {code : ByteArray} {pc : Nat} (h : DkAt code pc [136]) : decode code pc = .ok (.l2i, 1) := dk_of ((dk_bind (dk_u1 (h 0 _ rfl))).trans rfl)
theorem dk_145 {code : ByteArray} {pc : Nat} (h : DkAt code pc [145]) : decode code pc = .ok (.i2b, 1) := dk_of ((dk_bind (dk_u1 (h 0 _ rfl))).trans rfl)
theorem dk_153 {code : ByteArray} {pc : Nat} (a b : UInt8) (h : DkAt code pc [153, a, b]) : decode code pc = .ok (.ifCond .eq (Reader.signed 16 (a.toNat * 256 + b.toNat)), 3) := dk_of ((dk_bind (dk_u1 (h 0 _ rfl))).trans ((dk_bind (dk_map (dk_u2 (h 1 _ rfl) (h 2 _ rfl)))).trans rfl))
theorem dk_157 {code : ByteArray} {pc : Nat} (a b : UInt8) (h : DkAt code pc [157, a, b]) : decode code pc = .ok (.ifCond .gt (Reader.signed 16 (a.toNat * 256 + b.toNat)), 3) := dk_of ((dk_bind (dk_u1 (h 0 _ rfl))).trans ((dk_bind (dk_map (dk_u2 (h 1 _ rfl) (h 2 _ rfl)))).trans rfl))
theorem dk_158 {code : ByteArray} {pc : Nat} (a b : UInt8) (h : DkAt code pc [158, a, b]) : decode code pc = .ok (.ifCond .le (Reader.signed 16 (a.toNat * 256 + b.toNat)), 3) := dk_of ((dk_bind (dk_u1 (h 0 _ rfl))).trans ((dk_bind (dk_map (dk_u2 (h 1 _ rfl) (h 2 _ rfl)))).trans rfl))
theorem dk_159 {code : ByteArray} {pc : Nat} (a b : UInt8) (h : DkAt code pc [159, a, b]) : decode code pc = .ok (.if_icmp .eq (Reader.signed 16 (a.toNat * 256 + b.toNat)), 3) := dk_of ((dk_bind (dk_u1 (h 0 _ rfl))).trans ((dk_bind (dk_map (dk_u2 (h 1 _ rfl) (h 2 _ rfl)))).trans rfl))
theorem dk_160 {code : ByteArray} {pc : Nat} (a b : UInt8) (h : DkAt code pc [160, a, b]) : decode code pc = .ok (.if_icmp .ne (Reader.signed 16 (a.toNat * 256 + b.toNat)), 3) := dk_of ((dk_bind (dk_u1 (h 0 _ rfl))).trans ((dk_bind (dk_map (dk_u2 (h 1 _ rfl) (h 2 _ rfl)))).trans rfl))
theorem dk_161 {code : ByteArray} {pc : Nat} (a b : UInt8) (h : DkAt code pc [161, a, b]) : decode code pc = .ok (.if_icmp .lt (Reader.signed 16 (a.toNat * 256 + b.toNat)), 3) := dk_of ((dk_bind (dk_u1 (h 0 _ rfl))).trans ((dk_bind (dk_map (dk_u2 (h 1 _ rfl) (h 2 _ rfl)))).trans rfl))
theorem dk_162 {code : ByteArray} {pc : Nat} (a b : UInt8) (h : DkAt code pc [162, a, b]) : decode code pc = .ok (.if_icmp .ge (Reader.signed 16 (a.toNat * 256 + b.toNat)), 3) := dk_of ((dk_bind (dk_u1 (h 0 _ rfl))).trans ((dk_bind (dk_map (dk_u2 (h 1 _ rfl) (h 2 _ rfl)))).trans rfl))
theorem dk_163 {code : ByteArray} {pc : Nat} (a b : UInt8) (h : DkAt code pc [163, a, b]) : decode code pc = .ok (.if_icmp .gt (Reader.signed 16 (a.toNat * 256 + b.toNat)), 3) := dk_of ((dk_bind (dk_u1 (h 0 _ rfl))).trans ((dk_bind (dk_map (dk_u2 (h 1 _ rfl) (h 2 _ rfl)))).trans rfl))
theorem dk_164 {code : ByteArray} {pc : Nat} (a b : UInt8) (h : DkAt code pc [164, a, b]) : decode code pc = .ok (.if_icmp .le (Reader.signed 16 (a.toNat * 256 + b.toNat)), 3) := dk_of ((dk_bind (dk_u1 (h 0 _ rfl))).trans ((dk_bind (dk_map (dk_u2 (h 1 _ rfl) (h 2 _ rfl)))).trans rfl))
theorem dk_165 {code : ByteArray} {pc : Nat} (a b : UInt8) (h : DkAt code pc [165, a, b]) : decode code pc = .ok (.if_acmp .eq (Reader.signed 16 (a.toNat * 256 + b.toNat)), 3) := dk_of ((dk_bind (dk_u1 (h 0 _ rfl))).trans ((dk_bind (dk_map (dk_u2 (h 1 _ rfl) (h 2 _ rfl)))).trans rfl))
theorem dk_166 {code : ByteArray} {pc : Nat} (a b : UInt8) (h : DkAt code pc [166, a, b]) : decode code pc = .ok (.if_acmp .ne (Reader.signed 16 (a.toNat * 256 + b.toNat)), 3) := dk_of ((dk_bind (dk_u1 (h 0 _ rfl))).trans ((dk_bind (dk_map (dk_u2 (h 1 _ rfl) (h 2 _ rfl)))).trans rfl))
theorem dk_167 {code : ByteArray} {pc : Nat} (a b : UInt8) (h : DkAt code pc [167, a, b]) : decode code pc = .ok (.goto (Reader.signed 16 (a.toNat * 256 + b.toNat)), 3) := dk_of ((dk_bind (dk_u1 (h 0 _ rfl))).trans ((dk_bind (dk_map (dk_u2 (h 1 _ rfl) (h 2 _ rfl)))).trans rfl))
theorem dk_172 {code : ByteArray} {pc : Nat} (h : DkAt code pc [172]) : decode code pc = .ok (.ireturn, 1) := dk_of ((dk_bind (dk_u1 (h 0 _ rfl))).trans rfl)
theorem dk_173 {code : ByteArray} {pc : Nat} (h : DkAt code pc [173]) : decode code pc = .ok (.lreturn, 1) := dk_of ((dk_bind (dk_u1 (h 0 _ rfl))).trans rfl)
theorem dk_176 {code : ByteArray} {pc : Nat} (h : DkAt code pc [176]) : decode code pc = .ok (.areturn, 1) := dk_of ((dk_bind (dk_u1 (h 0 _ rfl))).trans rfl)
theorem dk_177 {code : ByteArray} {pc : Nat} (h : DkAt code pc [177]) : decode code pc = .ok (.return_, 1) := dk_of ((dk_bind (dk_u1 (h 0 _ rfl))).trans rfl)
theorem dk_178 {code : ByteArray} {pc : Nat} (a b : UInt8) (h : DkAt code pc [178, a, b]) : decode code pc = .ok (.getstatic (a.toNat * 256 + b.toNat), 3) := dk_of ((dk_bind (dk_u1 (h 0 _ rfl))).trans ((dk_bind (dk_u2 (h 1 _ rfl) (h 2 _ rfl))).trans rfl))
theorem dk_180 {code : ByteArray} {pc : Nat} (a b : UInt8) (h : DkAt code pc [180, a, b]) : decode code pc = .ok (.getfield (a.toNat * 256 + b.toNat), 3) := dk_of ((dk_bind (dk_u1 (h 0 _ rfl))).trans ((dk_bind (dk_u2 (h 1 _ rfl) (h 2 _ rfl))).trans rfl))
theorem dk_181 {code : ByteArray} {pc : Nat} (a b : UInt8) (h : DkAt code pc [181, a, b]) : decode code pc = .ok (.putfield (a.toNat * 256 + b.toNat), 3) := dk_of ((dk_bind (dk_u1 (h 0 _ rfl))).trans ((dk_bind (dk_u2 (h 1 _ rfl) (h 2 _ rfl))).trans rfl))
theorem dk_182 {code : ByteArray} {pc : Nat} (a b : UInt8) (h : DkAt code pc [182, a, b]) : decode code pc = .ok (.invokevirtual (a.toNat * 256 + b.toNat), 3) := dk_of ((dk_bind (dk_u1 (h 0 _ rfl))).trans ((dk_bind (dk_u2 (h 1 _ rfl) (h 2 _ rfl))).trans rfl))
theorem dk_183 {code : ByteArray} {pc : Nat} (a b : UInt8) (h : DkAt code pc [183, a, b]) : decode code pc = .ok (.invokespecial (a.toNat * 256 + b.toNat), 3) := dk_of ((dk_bind (dk_u1 (h 0 _ rfl))).trans ((dk_bind (dk_u2 (h 1 _ rfl) (h 2 _ rfl))).trans rfl))
theorem dk_184 {code : ByteArray} {pc : Nat} (a b : UInt8) (h : DkAt code pc [184, a, b]) : decode code pc = .ok (.invokestatic (a.toNat * 256 + b.toNat), 3) := dk_of ((dk_bind (dk_u1 (h 0 _ rfl))).trans ((dk_bind (dk_u2 (h 1 _ rfl) (h 2 _ rfl))).trans rfl))
theorem dk_187 {code : ByteArray} {pc : Nat} (a b : UInt8) (h : DkAt code pc [187, a, b]) : decode code pc = .ok (.new (a.toNat * 256 + b.toNat), 3) := dk_of ((dk_bind (dk_u1 (h 0 _ rfl))).trans ((dk_bind (dk_u2 (h 1 _ rfl) (h 2 _ rfl))).trans rfl))
theorem dk_188_8 {code : ByteArray} {pc : Nat} (h : DkAt code pc [188, 8]) : decode code pc = .ok (.newarray .byte, 2) := dk_of ((dk_bind (dk_u1 (h 0 _ rfl))).trans ((dk_bind (dk_u1 (h 1 _ rfl))).trans rfl))
theorem dk_188_10 {code : ByteArray} {pc : Nat} (h : DkAt code pc [188, 10]) : decode code pc = .ok (.newarray .int, 2) := dk_of ((dk_bind (dk_u1 (h 0 _ rfl))).trans ((dk_bind (dk_u1 (h 1 _ rfl))).trans rfl))
theorem dk_188_11 {code : ByteArray} {pc : Nat} (h : DkAt code pc [188, 11]) : decode code pc = .ok (.newarray .long, 2) := dk_of ((dk_bind (dk_u1 (h 0 _ rfl))).trans ((dk_bind (dk_u1 (h 1 _ rfl))).trans rfl))
theorem dk_190 {code : ByteArray} {pc : Nat} (h : DkAt code pc [190]) : decode code pc = .ok (.arraylength, 1) := dk_of ((dk_bind (dk_u1 (h 0 _ rfl))).trans rfl)
theorem dk_191 {code : ByteArray} {pc : Nat} (h : DkAt code pc [191]) : decode code pc = .ok (.athrow, 1) := dk_of ((dk_bind (dk_u1 (h 0 _ rfl))).trans rfl)
end
section
/-! AsconHashDesk -/
set_option maxRecDepth 100000
def RX0 : String := "AsconHashDesk"
def TX0 : u_T := fun k => match k with
  | 0 => ("AsconHashDesk", "run", "LDigest;", false)
  | 1 => ("AsconHashDesk", "out", "[B", true)
  | 2 => ("AsconHashDesk", "fed", "I", false)
  | 3 => ("AsconHashDesk", "text", "[B", true)
  | _ => ("AsconHashDesk", "size", "I", false)
def tyX0 : Nat → FieldType := fun k => match k with
  | 0 => .object "Digest"
  | 1 => .array .byte
  | 2 => .int
  | 3 => .array .byte
  | _ => .int
abbrev wsX00 : List Cond := u_ws RX0 TX0 5
theorem nmX0 : ∀ a, a < 5 → ∀ b, b < 5 → a ≠ b → (TX0 a).2.1 ≠ (TX0 b).2.1 := by decide +kernel
theorem tyX0_ok : ∀ k, k < 5 → parseFieldDescriptor (TX0 k).2.2.1 = some (tyX0 k) := by decide +kernel
abbrev cX0_init : ByteArray := prog_4_method_1_code
def yX0_init : MethodName := ⟨RX0, "<init>", "()V"⟩
def dkwX0_init_1 : List UInt8 := [17, 4, 0, 188, 8, 181, 0, 20, 177]
abbrev dktX0_init_1 : List UInt8 := dkwX0_init_1 ++ []
def dkwX0_init_0 : List UInt8 := [42, 183, 0, 1, 42, 187, 0, 7, 89, 183, 0, 9, 181, 0, 10, 42, 16, 32, 188, 8, 181, 0, 16, 42]
abbrev dktX0_init_0 : List UInt8 := dkwX0_init_0 ++ dktX0_init_1
theorem dksX0_init_0 : cX0_init.data.toList.drop 0 = dktX0_init_0 := by decide +kernel
theorem dksX0_init_1 : cX0_init.data.toList.drop 24 = dktX0_init_1 := dk_seg dksX0_init_0 24 rfl rfl
theorem dX0_init_0 : decode cX0_init 0 = .ok (.aload_n 0, 1) := dk_42 (dk_at dksX0_init_0 0 rfl rfl)
theorem dX0_init_1 : decode cX0_init 1 = .ok (.invokespecial 1, 3) := dk_183 0 1 (dk_at dksX0_init_0 1 rfl rfl)
theorem dX0_init_4 : decode cX0_init 4 = .ok (.aload_n 0, 1) := dk_42 (dk_at dksX0_init_0 4 rfl rfl)
theorem dX0_init_5 : decode cX0_init 5 = .ok (.new 7, 3) := dk_187 0 7 (dk_at dksX0_init_0 5 rfl rfl)
theorem dX0_init_8 : decode cX0_init 8 = .ok (.dup, 1) := dk_89 (dk_at dksX0_init_0 8 rfl rfl)
theorem dX0_init_9 : decode cX0_init 9 = .ok (.invokespecial 9, 3) := dk_183 0 9 (dk_at dksX0_init_0 9 rfl rfl)
theorem dX0_init_12 : decode cX0_init 12 = .ok (.putfield 10, 3) := dk_181 0 10 (dk_at dksX0_init_0 12 rfl rfl)
theorem dX0_init_15 : decode cX0_init 15 = .ok (.aload_n 0, 1) := dk_42 (dk_at dksX0_init_0 15 rfl rfl)
theorem dX0_init_16 : decode cX0_init 16 = .ok (.bipush 32, 2) := dk_16 32 (dk_at dksX0_init_0 16 rfl rfl)
theorem dX0_init_18 : decode cX0_init 18 = .ok (.newarray .byte, 2) := dk_188_8 (dk_at dksX0_init_0 18 rfl rfl)
theorem dX0_init_20 : decode cX0_init 20 = .ok (.putfield 16, 3) := dk_181 0 16 (dk_at dksX0_init_0 20 rfl rfl)
theorem dX0_init_23 : decode cX0_init 23 = .ok (.aload_n 0, 1) := dk_42 (dk_at dksX0_init_0 23 rfl rfl)
theorem dX0_init_24 : decode cX0_init 24 = .ok (.sipush 1024, 3) := dk_17 4 0 (dk_at dksX0_init_1 0 rfl rfl)
theorem dX0_init_27 : decode cX0_init 27 = .ok (.newarray .byte, 2) := dk_188_8 (dk_at dksX0_init_1 3 rfl rfl)
theorem dX0_init_29 : decode cX0_init 29 = .ok (.putfield 20, 3) := dk_181 0 20 (dk_at dksX0_init_1 5 rfl rfl)
theorem dX0_init_32 : decode cX0_init 32 = .ok (.return_, 1) := dk_177 (dk_at dksX0_init_1 8 rfl rfl)
abbrev cX0_put : ByteArray := prog_4_method_2_code
def yX0_put : MethodName := ⟨RX0, "put", "(IIII)Z"⟩
def dkwX0_put_3 : List UInt8 := [181, 0, 23, 4, 172]
abbrev dktX0_put_3 : List UInt8 := dkwX0_put_3 ++ []
def dkwX0_put_2 : List UInt8 := [182, 0, 27, 42, 42, 180, 0, 23, 16, 12, 96, 21, 4, 182, 0, 27, 42, 89, 180, 0, 23, 16, 16, 96]
abbrev dktX0_put_2 : List UInt8 := dkwX0_put_2 ++ dktX0_put_3
def dkwX0_put_1 : List UInt8 := [182, 0, 27, 42, 42, 180, 0, 23, 7, 96, 28, 182, 0, 27, 42, 42, 180, 0, 23, 16, 8, 96, 29]
abbrev dktX0_put_1 : List UInt8 := dkwX0_put_1 ++ dktX0_put_2
def dkwX0_put_0 : List UInt8 := [42, 180, 0, 23, 42, 180, 0, 20, 190, 16, 16, 100, 164, 0, 5, 3, 172, 42, 42, 180, 0, 23, 27]
abbrev dktX0_put_0 : List UInt8 := dkwX0_put_0 ++ dktX0_put_1
theorem dksX0_put_0 : cX0_put.data.toList.drop 0 = dktX0_put_0 := by decide +kernel
theorem dksX0_put_1 : cX0_put.data.toList.drop 23 = dktX0_put_1 := dk_seg dksX0_put_0 23 rfl rfl
theorem dksX0_put_2 : cX0_put.data.toList.drop 46 = dktX0_put_2 := dk_seg dksX0_put_1 23 rfl rfl
theorem dksX0_put_3 : cX0_put.data.toList.drop 70 = dktX0_put_3 := dk_seg dksX0_put_2 24 rfl rfl
theorem dX0_put_0 : decode cX0_put 0 = .ok (.aload_n 0, 1) := dk_42 (dk_at dksX0_put_0 0 rfl rfl)
theorem dX0_put_1 : decode cX0_put 1 = .ok (.getfield 23, 3) := dk_180 0 23 (dk_at dksX0_put_0 1 rfl rfl)
theorem dX0_put_4 : decode cX0_put 4 = .ok (.aload_n 0, 1) := dk_42 (dk_at dksX0_put_0 4 rfl rfl)
theorem dX0_put_5 : decode cX0_put 5 = .ok (.getfield 20, 3) := dk_180 0 20 (dk_at dksX0_put_0 5 rfl rfl)
theorem dX0_put_8 : decode cX0_put 8 = .ok (.arraylength, 1) := dk_190 (dk_at dksX0_put_0 8 rfl rfl)
theorem dX0_put_9 : decode cX0_put 9 = .ok (.bipush 16, 2) := dk_16 16 (dk_at dksX0_put_0 9 rfl rfl)
theorem dX0_put_11 : decode cX0_put 11 = .ok (.isub, 1) := dk_100 (dk_at dksX0_put_0 11 rfl rfl)
theorem dX0_put_12 : decode cX0_put 12 = .ok (.if_icmp .le 5, 3) := dk_164 0 5 (dk_at dksX0_put_0 12 rfl rfl)
theorem dX0_put_15 : decode cX0_put 15 = .ok (.iconst 0, 1) := dk_3 (dk_at dksX0_put_0 15 rfl rfl)
theorem dX0_put_16 : decode cX0_put 16 = .ok (.ireturn, 1) := dk_172 (dk_at dksX0_put_0 16 rfl rfl)
theorem dX0_put_17 : decode cX0_put 17 = .ok (.aload_n 0, 1) := dk_42 (dk_at dksX0_put_0 17 rfl rfl)
theorem dX0_put_18 : decode cX0_put 18 = .ok (.aload_n 0, 1) := dk_42 (dk_at dksX0_put_0 18 rfl rfl)
theorem dX0_put_19 : decode cX0_put 19 = .ok (.getfield 23, 3) := dk_180 0 23 (dk_at dksX0_put_0 19 rfl rfl)
theorem dX0_put_22 : decode cX0_put 22 = .ok (.iload_n 1, 1) := dk_27 (dk_at dksX0_put_0 22 rfl rfl)
theorem dX0_put_23 : decode cX0_put 23 = .ok (.invokevirtual 27, 3) := dk_182 0 27 (dk_at dksX0_put_1 0 rfl rfl)
theorem dX0_put_26 : decode cX0_put 26 = .ok (.aload_n 0, 1) := dk_42 (dk_at dksX0_put_1 3 rfl rfl)
theorem dX0_put_27 : decode cX0_put 27 = .ok (.aload_n 0, 1) := dk_42 (dk_at dksX0_put_1 4 rfl rfl)
theorem dX0_put_28 : decode cX0_put 28 = .ok (.getfield 23, 3) := dk_180 0 23 (dk_at dksX0_put_1 5 rfl rfl)
theorem dX0_put_31 : decode cX0_put 31 = .ok (.iconst 4, 1) := dk_7 (dk_at dksX0_put_1 8 rfl rfl)
theorem dX0_put_32 : decode cX0_put 32 = .ok (.iadd, 1) := dk_96 (dk_at dksX0_put_1 9 rfl rfl)
theorem dX0_put_33 : decode cX0_put 33 = .ok (.iload_n 2, 1) := dk_28 (dk_at dksX0_put_1 10 rfl rfl)
theorem dX0_put_34 : decode cX0_put 34 = .ok (.invokevirtual 27, 3) := dk_182 0 27 (dk_at dksX0_put_1 11 rfl rfl)
theorem dX0_put_37 : decode cX0_put 37 = .ok (.aload_n 0, 1) := dk_42 (dk_at dksX0_put_1 14 rfl rfl)
theorem dX0_put_38 : decode cX0_put 38 = .ok (.aload_n 0, 1) := dk_42 (dk_at dksX0_put_1 15 rfl rfl)
theorem dX0_put_39 : decode cX0_put 39 = .ok (.getfield 23, 3) := dk_180 0 23 (dk_at dksX0_put_1 16 rfl rfl)
theorem dX0_put_42 : decode cX0_put 42 = .ok (.bipush 8, 2) := dk_16 8 (dk_at dksX0_put_1 19 rfl rfl)
theorem dX0_put_44 : decode cX0_put 44 = .ok (.iadd, 1) := dk_96 (dk_at dksX0_put_1 21 rfl rfl)
theorem dX0_put_45 : decode cX0_put 45 = .ok (.iload_n 3, 1) := dk_29 (dk_at dksX0_put_1 22 rfl rfl)
theorem dX0_put_46 : decode cX0_put 46 = .ok (.invokevirtual 27, 3) := dk_182 0 27 (dk_at dksX0_put_2 0 rfl rfl)
theorem dX0_put_49 : decode cX0_put 49 = .ok (.aload_n 0, 1) := dk_42 (dk_at dksX0_put_2 3 rfl rfl)
theorem dX0_put_50 : decode cX0_put 50 = .ok (.aload_n 0, 1) := dk_42 (dk_at dksX0_put_2 4 rfl rfl)
theorem dX0_put_51 : decode cX0_put 51 = .ok (.getfield 23, 3) := dk_180 0 23 (dk_at dksX0_put_2 5 rfl rfl)
theorem dX0_put_54 : decode cX0_put 54 = .ok (.bipush 12, 2) := dk_16 12 (dk_at dksX0_put_2 8 rfl rfl)
theorem dX0_put_56 : decode cX0_put 56 = .ok (.iadd, 1) := dk_96 (dk_at dksX0_put_2 10 rfl rfl)
theorem dX0_put_57 : decode cX0_put 57 = .ok (.iload 4, 2) := dk_21 4 (dk_at dksX0_put_2 11 rfl rfl)
theorem dX0_put_59 : decode cX0_put 59 = .ok (.invokevirtual 27, 3) := dk_182 0 27 (dk_at dksX0_put_2 13 rfl rfl)
theorem dX0_put_62 : decode cX0_put 62 = .ok (.aload_n 0, 1) := dk_42 (dk_at dksX0_put_2 16 rfl rfl)
theorem dX0_put_63 : decode cX0_put 63 = .ok (.dup, 1) := dk_89 (dk_at dksX0_put_2 17 rfl rfl)
theorem dX0_put_64 : decode cX0_put 64 = .ok (.getfield 23, 3) := dk_180 0 23 (dk_at dksX0_put_2 18 rfl rfl)
theorem dX0_put_67 : decode cX0_put 67 = .ok (.bipush 16, 2) := dk_16 16 (dk_at dksX0_put_2 21 rfl rfl)
theorem dX0_put_69 : decode cX0_put 69 = .ok (.iadd, 1) := dk_96 (dk_at dksX0_put_2 23 rfl rfl)
theorem dX0_put_70 : decode cX0_put 70 = .ok (.putfield 23, 3) := dk_181 0 23 (dk_at dksX0_put_3 0 rfl rfl)
theorem dX0_put_73 : decode cX0_put 73 = .ok (.iconst 1, 1) := dk_4 (dk_at dksX0_put_3 3 rfl rfl)
theorem dX0_put_74 : decode cX0_put 74 = .ok (.ireturn, 1) := dk_172 (dk_at dksX0_put_3 4 rfl rfl)
abbrev cX0_word : ByteArray := prog_4_method_3_code
def yX0_word : MethodName := ⟨RX0, "word", "(II)V"⟩
def dkwX0_word_1 : List UInt8 := [42, 180, 0, 20, 27, 5, 96, 28, 16, 8, 122, 145, 84, 42, 180, 0, 20, 27, 6, 96, 28, 145, 84, 177]
abbrev dktX0_word_1 : List UInt8 := dkwX0_word_1 ++ []
def dkwX0_word_0 : List UInt8 := [42, 180, 0, 20, 27, 28, 16, 24, 122, 145, 84, 42, 180, 0, 20, 27, 4, 96, 28, 16, 16, 122, 145, 84]
abbrev dktX0_word_0 : List UInt8 := dkwX0_word_0 ++ dktX0_word_1
theorem dksX0_word_0 : cX0_word.data.toList.drop 0 = dktX0_word_0 := by decide +kernel
theorem dksX0_word_1 : cX0_word.data.toList.drop 24 = dktX0_word_1 := dk_seg dksX0_word_0 24 rfl rfl
theorem dX0_word_0 : decode cX0_word 0 = .ok (.aload_n 0, 1) := dk_42 (dk_at dksX0_word_0 0 rfl rfl)
theorem dX0_word_1 : decode cX0_word 1 = .ok (.getfield 20, 3) := dk_180 0 20 (dk_at dksX0_word_0 1 rfl rfl)
theorem dX0_word_4 : decode cX0_word 4 = .ok (.iload_n 1, 1) := dk_27 (dk_at dksX0_word_0 4 rfl rfl)
theorem dX0_word_5 : decode cX0_word 5 = .ok (.iload_n 2, 1) := dk_28 (dk_at dksX0_word_0 5 rfl rfl)
theorem dX0_word_6 : decode cX0_word 6 = .ok (.bipush 24, 2) := dk_16 24 (dk_at dksX0_word_0 6 rfl rfl)
theorem dX0_word_8 : decode cX0_word 8 = .ok (.ishr, 1) := dk_122 (dk_at dksX0_word_0 8 rfl rfl)
theorem dX0_word_9 : decode cX0_word 9 = .ok (.i2b, 1) := dk_145 (dk_at dksX0_word_0 9 rfl rfl)
theorem dX0_word_10 : decode cX0_word 10 = .ok (.bastore, 1) := dk_84 (dk_at dksX0_word_0 10 rfl rfl)
theorem dX0_word_11 : decode cX0_word 11 = .ok (.aload_n 0, 1) := dk_42 (dk_at dksX0_word_0 11 rfl rfl)
theorem dX0_word_12 : decode cX0_word 12 = .ok (.getfield 20, 3) := dk_180 0 20 (dk_at dksX0_word_0 12 rfl rfl)
theorem dX0_word_15 : decode cX0_word 15 = .ok (.iload_n 1, 1) := dk_27 (dk_at dksX0_word_0 15 rfl rfl)
theorem dX0_word_16 : decode cX0_word 16 = .ok (.iconst 1, 1) := dk_4 (dk_at dksX0_word_0 16 rfl rfl)
theorem dX0_word_17 : decode cX0_word 17 = .ok (.iadd, 1) := dk_96 (dk_at dksX0_word_0 17 rfl rfl)
theorem dX0_word_18 : decode cX0_word 18 = .ok (.iload_n 2, 1) := dk_28 (dk_at dksX0_word_0 18 rfl rfl)
theorem dX0_word_19 : decode cX0_word 19 = .ok (.bipush 16, 2) := dk_16 16 (dk_at dksX0_word_0 19 rfl rfl)
theorem dX0_word_21 : decode cX0_word 21 = .ok (.ishr, 1) := dk_122 (dk_at dksX0_word_0 21 rfl rfl)
theorem dX0_word_22 : decode cX0_word 22 = .ok (.i2b, 1) := dk_145 (dk_at dksX0_word_0 22 rfl rfl)
theorem dX0_word_23 : decode cX0_word 23 = .ok (.bastore, 1) := dk_84 (dk_at dksX0_word_0 23 rfl rfl)
theorem dX0_word_24 : decode cX0_word 24 = .ok (.aload_n 0, 1) := dk_42 (dk_at dksX0_word_1 0 rfl rfl)
theorem dX0_word_25 : decode cX0_word 25 = .ok (.getfield 20, 3) := dk_180 0 20 (dk_at dksX0_word_1 1 rfl rfl)
theorem dX0_word_28 : decode cX0_word 28 = .ok (.iload_n 1, 1) := dk_27 (dk_at dksX0_word_1 4 rfl rfl)
theorem dX0_word_29 : decode cX0_word 29 = .ok (.iconst 2, 1) := dk_5 (dk_at dksX0_word_1 5 rfl rfl)
theorem dX0_word_30 : decode cX0_word 30 = .ok (.iadd, 1) := dk_96 (dk_at dksX0_word_1 6 rfl rfl)
theorem dX0_word_31 : decode cX0_word 31 = .ok (.iload_n 2, 1) := dk_28 (dk_at dksX0_word_1 7 rfl rfl)
theorem dX0_word_32 : decode cX0_word 32 = .ok (.bipush 8, 2) := dk_16 8 (dk_at dksX0_word_1 8 rfl rfl)
theorem dX0_word_34 : decode cX0_word 34 = .ok (.ishr, 1) := dk_122 (dk_at dksX0_word_1 10 rfl rfl)
theorem dX0_word_35 : decode cX0_word 35 = .ok (.i2b, 1) := dk_145 (dk_at dksX0_word_1 11 rfl rfl)
theorem dX0_word_36 : decode cX0_word 36 = .ok (.bastore, 1) := dk_84 (dk_at dksX0_word_1 12 rfl rfl)
theorem dX0_word_37 : decode cX0_word 37 = .ok (.aload_n 0, 1) := dk_42 (dk_at dksX0_word_1 13 rfl rfl)
theorem dX0_word_38 : decode cX0_word 38 = .ok (.getfield 20, 3) := dk_180 0 20 (dk_at dksX0_word_1 14 rfl rfl)
theorem dX0_word_41 : decode cX0_word 41 = .ok (.iload_n 1, 1) := dk_27 (dk_at dksX0_word_1 17 rfl rfl)
theorem dX0_word_42 : decode cX0_word 42 = .ok (.iconst 3, 1) := dk_6 (dk_at dksX0_word_1 18 rfl rfl)
theorem dX0_word_43 : decode cX0_word 43 = .ok (.iadd, 1) := dk_96 (dk_at dksX0_word_1 19 rfl rfl)
theorem dX0_word_44 : decode cX0_word 44 = .ok (.iload_n 2, 1) := dk_28 (dk_at dksX0_word_1 20 rfl rfl)
theorem dX0_word_45 : decode cX0_word 45 = .ok (.i2b, 1) := dk_145 (dk_at dksX0_word_1 21 rfl rfl)
theorem dX0_word_46 : decode cX0_word 46 = .ok (.bastore, 1) := dk_84 (dk_at dksX0_word_1 22 rfl rfl)
theorem dX0_word_47 : decode cX0_word 47 = .ok (.return_, 1) := dk_177 (dk_at dksX0_word_1 23 rfl rfl)
abbrev cX0_trim : ByteArray := prog_4_method_4_code
def yX0_trim : MethodName := ⟨RX0, "trim", "(I)V"⟩
def dkwX0_trim_0 : List UInt8 := [42, 42, 27, 182, 0, 31, 181, 0, 23, 177]
abbrev dktX0_trim_0 : List UInt8 := dkwX0_trim_0 ++ []
theorem dksX0_trim_0 : cX0_trim.data.toList.drop 0 = dktX0_trim_0 := by decide +kernel
theorem dX0_trim_0 : decode cX0_trim 0 = .ok (.aload_n 0, 1) := dk_42 (dk_at dksX0_trim_0 0 rfl rfl)
theorem dX0_trim_1 : decode cX0_trim 1 = .ok (.aload_n 0, 1) := dk_42 (dk_at dksX0_trim_0 1 rfl rfl)
theorem dX0_trim_2 : decode cX0_trim 2 = .ok (.iload_n 1, 1) := dk_27 (dk_at dksX0_trim_0 2 rfl rfl)
theorem dX0_trim_3 : decode cX0_trim 3 = .ok (.invokevirtual 31, 3) := dk_182 0 31 (dk_at dksX0_trim_0 3 rfl rfl)
theorem dX0_trim_6 : decode cX0_trim 6 = .ok (.putfield 23, 3) := dk_181 0 23 (dk_at dksX0_trim_0 6 rfl rfl)
theorem dX0_trim_9 : decode cX0_trim 9 = .ok (.return_, 1) := dk_177 (dk_at dksX0_trim_0 9 rfl rfl)
abbrev cX0_from : ByteArray := prog_4_method_5_code
def yX0_from : MethodName := ⟨RX0, "from", "(I)I"⟩
def dkwX0_from_0 : List UInt8 := [27, 18, 35, 126, 42, 180, 0, 23, 4, 96, 112, 172]
abbrev dktX0_from_0 : List UInt8 := dkwX0_from_0 ++ []
theorem dksX0_from_0 : cX0_from.data.toList.drop 0 = dktX0_from_0 := by decide +kernel
theorem dX0_from_0 : decode cX0_from 0 = .ok (.iload_n 1, 1) := dk_27 (dk_at dksX0_from_0 0 rfl rfl)
theorem dX0_from_1 : decode cX0_from 1 = .ok (.ldc 35, 2) := dk_18 35 (dk_at dksX0_from_0 1 rfl rfl)
theorem dX0_from_3 : decode cX0_from 3 = .ok (.iand, 1) := dk_126 (dk_at dksX0_from_0 3 rfl rfl)
theorem dX0_from_4 : decode cX0_from 4 = .ok (.aload_n 0, 1) := dk_42 (dk_at dksX0_from_0 4 rfl rfl)
theorem dX0_from_5 : decode cX0_from 5 = .ok (.getfield 23, 3) := dk_180 0 23 (dk_at dksX0_from_0 5 rfl rfl)
theorem dX0_from_8 : decode cX0_from 8 = .ok (.iconst 1, 1) := dk_4 (dk_at dksX0_from_0 8 rfl rfl)
theorem dX0_from_9 : decode cX0_from 9 = .ok (.iadd, 1) := dk_96 (dk_at dksX0_from_0 9 rfl rfl)
theorem dX0_from_10 : decode cX0_from 10 = .ok (.irem, 1) := dk_112 (dk_at dksX0_from_0 10 rfl rfl)
theorem dX0_from_11 : decode cX0_from 11 = .ok (.ireturn, 1) := dk_172 (dk_at dksX0_from_0 11 rfl rfl)
abbrev cX0_begin : ByteArray := prog_4_method_7_code
def yX0_begin : MethodName := ⟨RX0, "begin", "(I)V"⟩
def dkwX0_begin_0 : List UInt8 := [42, 187, 0, 7, 89, 183, 0, 9, 181, 0, 10, 42, 3, 181, 0, 36, 177]
abbrev dktX0_begin_0 : List UInt8 := dkwX0_begin_0 ++ []
theorem dksX0_begin_0 : cX0_begin.data.toList.drop 0 = dktX0_begin_0 := by decide +kernel
theorem dX0_begin_0 : decode cX0_begin 0 = .ok (.aload_n 0, 1) := dk_42 (dk_at dksX0_begin_0 0 rfl rfl)
theorem dX0_begin_1 : decode cX0_begin 1 = .ok (.new 7, 3) := dk_187 0 7 (dk_at dksX0_begin_0 1 rfl rfl)
theorem dX0_begin_4 : decode cX0_begin 4 = .ok (.dup, 1) := dk_89 (dk_at dksX0_begin_0 4 rfl rfl)
theorem dX0_begin_5 : decode cX0_begin 5 = .ok (.invokespecial 9, 3) := dk_183 0 9 (dk_at dksX0_begin_0 5 rfl rfl)
theorem dX0_begin_8 : decode cX0_begin 8 = .ok (.putfield 10, 3) := dk_181 0 10 (dk_at dksX0_begin_0 8 rfl rfl)
theorem dX0_begin_11 : decode cX0_begin 11 = .ok (.aload_n 0, 1) := dk_42 (dk_at dksX0_begin_0 11 rfl rfl)
theorem dX0_begin_12 : decode cX0_begin 12 = .ok (.iconst 0, 1) := dk_3 (dk_at dksX0_begin_0 12 rfl rfl)
theorem dX0_begin_13 : decode cX0_begin 13 = .ok (.putfield 36, 3) := dk_181 0 36 (dk_at dksX0_begin_0 13 rfl rfl)
theorem dX0_begin_16 : decode cX0_begin 16 = .ok (.return_, 1) := dk_177 (dk_at dksX0_begin_0 16 rfl rfl)
abbrev cX0_feed : ByteArray := prog_4_method_8_code
def yX0_feed : MethodName := ⟨RX0, "feed", "(II)Z"⟩
def dkwX0_feed_2 : List UInt8 := [29, 21, 4, 185, 0, 43, 4, 0, 4, 172]
abbrev dktX0_feed_2 : List UInt8 := dkwX0_feed_2 ++ []
def dkwX0_feed_1 : List UInt8 := [164, 0, 5, 3, 172, 42, 89, 180, 0, 36, 21, 4, 96, 181, 0, 36, 42, 180, 0, 10, 42, 180, 0, 20]
abbrev dktX0_feed_1 : List UInt8 := dkwX0_feed_1 ++ dktX0_feed_2
def dkwX0_feed_0 : List UInt8 := [42, 27, 182, 0, 31, 62, 42, 29, 28, 182, 0, 39, 54, 4, 42, 180, 0, 36, 21, 4, 96, 17, 64, 0]
abbrev dktX0_feed_0 : List UInt8 := dkwX0_feed_0 ++ dktX0_feed_1
theorem dksX0_feed_0 : cX0_feed.data.toList.drop 0 = dktX0_feed_0 := by decide +kernel
theorem dksX0_feed_1 : cX0_feed.data.toList.drop 24 = dktX0_feed_1 := dk_seg dksX0_feed_0 24 rfl rfl
theorem dksX0_feed_2 : cX0_feed.data.toList.drop 48 = dktX0_feed_2 := dk_seg dksX0_feed_1 24 rfl rfl
theorem dX0_feed_0 : decode cX0_feed 0 = .ok (.aload_n 0, 1) := dk_42 (dk_at dksX0_feed_0 0 rfl rfl)
theorem dX0_feed_1 : decode cX0_feed 1 = .ok (.iload_n 1, 1) := dk_27 (dk_at dksX0_feed_0 1 rfl rfl)
theorem dX0_feed_2 : decode cX0_feed 2 = .ok (.invokevirtual 31, 3) := dk_182 0 31 (dk_at dksX0_feed_0 2 rfl rfl)
theorem dX0_feed_5 : decode cX0_feed 5 = .ok (.istore_n 3, 1) := dk_62 (dk_at dksX0_feed_0 5 rfl rfl)
theorem dX0_feed_6 : decode cX0_feed 6 = .ok (.aload_n 0, 1) := dk_42 (dk_at dksX0_feed_0 6 rfl rfl)
theorem dX0_feed_7 : decode cX0_feed 7 = .ok (.iload_n 3, 1) := dk_29 (dk_at dksX0_feed_0 7 rfl rfl)
theorem dX0_feed_8 : decode cX0_feed 8 = .ok (.iload_n 2, 1) := dk_28 (dk_at dksX0_feed_0 8 rfl rfl)
theorem dX0_feed_9 : decode cX0_feed 9 = .ok (.invokevirtual 39, 3) := dk_182 0 39 (dk_at dksX0_feed_0 9 rfl rfl)
theorem dX0_feed_12 : decode cX0_feed 12 = .ok (.istore 4, 2) := dk_54 4 (dk_at dksX0_feed_0 12 rfl rfl)
theorem dX0_feed_14 : decode cX0_feed 14 = .ok (.aload_n 0, 1) := dk_42 (dk_at dksX0_feed_0 14 rfl rfl)
theorem dX0_feed_15 : decode cX0_feed 15 = .ok (.getfield 36, 3) := dk_180 0 36 (dk_at dksX0_feed_0 15 rfl rfl)
theorem dX0_feed_18 : decode cX0_feed 18 = .ok (.iload 4, 2) := dk_21 4 (dk_at dksX0_feed_0 18 rfl rfl)
theorem dX0_feed_20 : decode cX0_feed 20 = .ok (.iadd, 1) := dk_96 (dk_at dksX0_feed_0 20 rfl rfl)
theorem dX0_feed_21 : decode cX0_feed 21 = .ok (.sipush 16384, 3) := dk_17 64 0 (dk_at dksX0_feed_0 21 rfl rfl)
theorem dX0_feed_24 : decode cX0_feed 24 = .ok (.if_icmp .le 5, 3) := dk_164 0 5 (dk_at dksX0_feed_1 0 rfl rfl)
theorem dX0_feed_27 : decode cX0_feed 27 = .ok (.iconst 0, 1) := dk_3 (dk_at dksX0_feed_1 3 rfl rfl)
theorem dX0_feed_28 : decode cX0_feed 28 = .ok (.ireturn, 1) := dk_172 (dk_at dksX0_feed_1 4 rfl rfl)
theorem dX0_feed_29 : decode cX0_feed 29 = .ok (.aload_n 0, 1) := dk_42 (dk_at dksX0_feed_1 5 rfl rfl)
theorem dX0_feed_30 : decode cX0_feed 30 = .ok (.dup, 1) := dk_89 (dk_at dksX0_feed_1 6 rfl rfl)
theorem dX0_feed_31 : decode cX0_feed 31 = .ok (.getfield 36, 3) := dk_180 0 36 (dk_at dksX0_feed_1 7 rfl rfl)
theorem dX0_feed_34 : decode cX0_feed 34 = .ok (.iload 4, 2) := dk_21 4 (dk_at dksX0_feed_1 10 rfl rfl)
theorem dX0_feed_36 : decode cX0_feed 36 = .ok (.iadd, 1) := dk_96 (dk_at dksX0_feed_1 12 rfl rfl)
theorem dX0_feed_37 : decode cX0_feed 37 = .ok (.putfield 36, 3) := dk_181 0 36 (dk_at dksX0_feed_1 13 rfl rfl)
theorem dX0_feed_40 : decode cX0_feed 40 = .ok (.aload_n 0, 1) := dk_42 (dk_at dksX0_feed_1 16 rfl rfl)
theorem dX0_feed_41 : decode cX0_feed 41 = .ok (.getfield 10, 3) := dk_180 0 10 (dk_at dksX0_feed_1 17 rfl rfl)
theorem dX0_feed_44 : decode cX0_feed 44 = .ok (.aload_n 0, 1) := dk_42 (dk_at dksX0_feed_1 20 rfl rfl)
theorem dX0_feed_45 : decode cX0_feed 45 = .ok (.getfield 20, 3) := dk_180 0 20 (dk_at dksX0_feed_1 21 rfl rfl)
theorem dX0_feed_48 : decode cX0_feed 48 = .ok (.iload_n 3, 1) := dk_29 (dk_at dksX0_feed_2 0 rfl rfl)
theorem dX0_feed_49 : decode cX0_feed 49 = .ok (.iload 4, 2) := dk_21 4 (dk_at dksX0_feed_2 1 rfl rfl)
theorem dX0_feed_51 : decode cX0_feed 51 = .ok (.invokeinterface 43 4, 5) := by decide +kernel
theorem dX0_feed_56 : decode cX0_feed 56 = .ok (.iconst 1, 1) := dk_4 (dk_at dksX0_feed_2 8 rfl rfl)
theorem dX0_feed_57 : decode cX0_feed 57 = .ok (.ireturn, 1) := dk_172 (dk_at dksX0_feed_2 9 rfl rfl)
abbrev cX0_count : ByteArray := prog_4_method_6_code
def yX0_count : MethodName := ⟨RX0, "count", "(II)I"⟩
def dkwX0_count_0 : List UInt8 := [28, 18, 35, 126, 42, 180, 0, 23, 27, 100, 4, 96, 112, 172]
abbrev dktX0_count_0 : List UInt8 := dkwX0_count_0 ++ []
theorem dksX0_count_0 : cX0_count.data.toList.drop 0 = dktX0_count_0 := by decide +kernel
theorem dX0_count_0 : decode cX0_count 0 = .ok (.iload_n 2, 1) := dk_28 (dk_at dksX0_count_0 0 rfl rfl)
theorem dX0_count_1 : decode cX0_count 1 = .ok (.ldc 35, 2) := dk_18 35 (dk_at dksX0_count_0 1 rfl rfl)
theorem dX0_count_3 : decode cX0_count 3 = .ok (.iand, 1) := dk_126 (dk_at dksX0_count_0 3 rfl rfl)
theorem dX0_count_4 : decode cX0_count 4 = .ok (.aload_n 0, 1) := dk_42 (dk_at dksX0_count_0 4 rfl rfl)
theorem dX0_count_5 : decode cX0_count 5 = .ok (.getfield 23, 3) := dk_180 0 23 (dk_at dksX0_count_0 5 rfl rfl)
theorem dX0_count_8 : decode cX0_count 8 = .ok (.iload_n 1, 1) := dk_27 (dk_at dksX0_count_0 8 rfl rfl)
theorem dX0_count_9 : decode cX0_count 9 = .ok (.isub, 1) := dk_100 (dk_at dksX0_count_0 9 rfl rfl)
theorem dX0_count_10 : decode cX0_count 10 = .ok (.iconst 1, 1) := dk_4 (dk_at dksX0_count_0 10 rfl rfl)
theorem dX0_count_11 : decode cX0_count 11 = .ok (.iadd, 1) := dk_96 (dk_at dksX0_count_0 11 rfl rfl)
theorem dX0_count_12 : decode cX0_count 12 = .ok (.irem, 1) := dk_112 (dk_at dksX0_count_0 12 rfl rfl)
theorem dX0_count_13 : decode cX0_count 13 = .ok (.ireturn, 1) := dk_172 (dk_at dksX0_count_0 13 rfl rfl)
abbrev cX0_one : ByteArray := prog_4_method_9_code
def yX0_one : MethodName := ⟨RX0, "one", "(I)Z"⟩
def dkwX0_one_1 : List UInt8 := [180, 0, 10, 27, 145, 185, 0, 49, 2, 0, 4, 172]
abbrev dktX0_one_1 : List UInt8 := dkwX0_one_1 ++ []
def dkwX0_one_0 : List UInt8 := [42, 180, 0, 36, 17, 64, 0, 161, 0, 5, 3, 172, 42, 89, 180, 0, 36, 4, 96, 181, 0, 36, 42]
abbrev dktX0_one_0 : List UInt8 := dkwX0_one_0 ++ dktX0_one_1
theorem dksX0_one_0 : cX0_one.data.toList.drop 0 = dktX0_one_0 := by decide +kernel
theorem dksX0_one_1 : cX0_one.data.toList.drop 23 = dktX0_one_1 := dk_seg dksX0_one_0 23 rfl rfl
theorem dX0_one_0 : decode cX0_one 0 = .ok (.aload_n 0, 1) := dk_42 (dk_at dksX0_one_0 0 rfl rfl)
theorem dX0_one_1 : decode cX0_one 1 = .ok (.getfield 36, 3) := dk_180 0 36 (dk_at dksX0_one_0 1 rfl rfl)
theorem dX0_one_4 : decode cX0_one 4 = .ok (.sipush 16384, 3) := dk_17 64 0 (dk_at dksX0_one_0 4 rfl rfl)
theorem dX0_one_7 : decode cX0_one 7 = .ok (.if_icmp .lt 5, 3) := dk_161 0 5 (dk_at dksX0_one_0 7 rfl rfl)
theorem dX0_one_10 : decode cX0_one 10 = .ok (.iconst 0, 1) := dk_3 (dk_at dksX0_one_0 10 rfl rfl)
theorem dX0_one_11 : decode cX0_one 11 = .ok (.ireturn, 1) := dk_172 (dk_at dksX0_one_0 11 rfl rfl)
theorem dX0_one_12 : decode cX0_one 12 = .ok (.aload_n 0, 1) := dk_42 (dk_at dksX0_one_0 12 rfl rfl)
theorem dX0_one_13 : decode cX0_one 13 = .ok (.dup, 1) := dk_89 (dk_at dksX0_one_0 13 rfl rfl)
theorem dX0_one_14 : decode cX0_one 14 = .ok (.getfield 36, 3) := dk_180 0 36 (dk_at dksX0_one_0 14 rfl rfl)
theorem dX0_one_17 : decode cX0_one 17 = .ok (.iconst 1, 1) := dk_4 (dk_at dksX0_one_0 17 rfl rfl)
theorem dX0_one_18 : decode cX0_one 18 = .ok (.iadd, 1) := dk_96 (dk_at dksX0_one_0 18 rfl rfl)
theorem dX0_one_19 : decode cX0_one 19 = .ok (.putfield 36, 3) := dk_181 0 36 (dk_at dksX0_one_0 19 rfl rfl)
theorem dX0_one_22 : decode cX0_one 22 = .ok (.aload_n 0, 1) := dk_42 (dk_at dksX0_one_0 22 rfl rfl)
theorem dX0_one_23 : decode cX0_one 23 = .ok (.getfield 10, 3) := dk_180 0 10 (dk_at dksX0_one_1 0 rfl rfl)
theorem dX0_one_26 : decode cX0_one 26 = .ok (.iload_n 1, 1) := dk_27 (dk_at dksX0_one_1 3 rfl rfl)
theorem dX0_one_27 : decode cX0_one 27 = .ok (.i2b, 1) := dk_145 (dk_at dksX0_one_1 4 rfl rfl)
theorem dX0_one_28 : decode cX0_one 28 = .ok (.invokeinterface 49 2, 5) := by decide +kernel
theorem dX0_one_33 : decode cX0_one 33 = .ok (.iconst 1, 1) := dk_4 (dk_at dksX0_one_1 10 rfl rfl)
theorem dX0_one_34 : decode cX0_one 34 = .ok (.ireturn, 1) := dk_172 (dk_at dksX0_one_1 11 rfl rfl)
abbrev cX0_close : ByteArray := prog_4_method_10_code
def yX0_close : MethodName := ⟨RX0, "close", "()I"⟩
def dkwX0_close_0 : List UInt8 := [42, 3, 181, 0, 36, 42, 180, 0, 10, 42, 180, 0, 16, 3, 185, 0, 52, 3, 0, 172]
abbrev dktX0_close_0 : List UInt8 := dkwX0_close_0 ++ []
theorem dksX0_close_0 : cX0_close.data.toList.drop 0 = dktX0_close_0 := by decide +kernel
theorem dX0_close_0 : decode cX0_close 0 = .ok (.aload_n 0, 1) := dk_42 (dk_at dksX0_close_0 0 rfl rfl)
theorem dX0_close_1 : decode cX0_close 1 = .ok (.iconst 0, 1) := dk_3 (dk_at dksX0_close_0 1 rfl rfl)
theorem dX0_close_2 : decode cX0_close 2 = .ok (.putfield 36, 3) := dk_181 0 36 (dk_at dksX0_close_0 2 rfl rfl)
theorem dX0_close_5 : decode cX0_close 5 = .ok (.aload_n 0, 1) := dk_42 (dk_at dksX0_close_0 5 rfl rfl)
theorem dX0_close_6 : decode cX0_close 6 = .ok (.getfield 10, 3) := dk_180 0 10 (dk_at dksX0_close_0 6 rfl rfl)
theorem dX0_close_9 : decode cX0_close 9 = .ok (.aload_n 0, 1) := dk_42 (dk_at dksX0_close_0 9 rfl rfl)
theorem dX0_close_10 : decode cX0_close 10 = .ok (.getfield 16, 3) := dk_180 0 16 (dk_at dksX0_close_0 10 rfl rfl)
theorem dX0_close_13 : decode cX0_close 13 = .ok (.iconst 0, 1) := dk_3 (dk_at dksX0_close_0 13 rfl rfl)
theorem dX0_close_14 : decode cX0_close 14 = .ok (.invokeinterface 52 3, 5) := by decide +kernel
theorem dX0_close_19 : decode cX0_close 19 = .ok (.ireturn, 1) := dk_172 (dk_at dksX0_close_0 19 rfl rfl)
abbrev cX0_drop : ByteArray := prog_4_method_11_code
def yX0_drop : MethodName := ⟨RX0, "drop", "()V"⟩
def dkwX0_drop_0 : List UInt8 := [42, 180, 0, 10, 185, 0, 56, 1, 0, 42, 3, 181, 0, 36, 177]
abbrev dktX0_drop_0 : List UInt8 := dkwX0_drop_0 ++ []
theorem dksX0_drop_0 : cX0_drop.data.toList.drop 0 = dktX0_drop_0 := by decide +kernel
theorem dX0_drop_0 : decode cX0_drop 0 = .ok (.aload_n 0, 1) := dk_42 (dk_at dksX0_drop_0 0 rfl rfl)
theorem dX0_drop_1 : decode cX0_drop 1 = .ok (.getfield 10, 3) := dk_180 0 10 (dk_at dksX0_drop_0 1 rfl rfl)
theorem dX0_drop_4 : decode cX0_drop 4 = .ok (.invokeinterface 56 1, 5) := by decide +kernel
theorem dX0_drop_9 : decode cX0_drop 9 = .ok (.aload_n 0, 1) := dk_42 (dk_at dksX0_drop_0 9 rfl rfl)
theorem dX0_drop_10 : decode cX0_drop 10 = .ok (.iconst 0, 1) := dk_3 (dk_at dksX0_drop_0 10 rfl rfl)
theorem dX0_drop_11 : decode cX0_drop 11 = .ok (.putfield 36, 3) := dk_181 0 36 (dk_at dksX0_drop_0 11 rfl rfl)
theorem dX0_drop_14 : decode cX0_drop 14 = .ok (.return_, 1) := dk_177 (dk_at dksX0_drop_0 14 rfl rfl)
abbrev cX0_out : ByteArray := prog_4_method_12_code
def yX0_out : MethodName := ⟨RX0, "out", "(I)I"⟩
def dkwX0_out_0 : List UInt8 := [42, 180, 0, 16, 27, 18, 35, 126, 16, 32, 112, 51, 17, 0, 255, 126, 172]
abbrev dktX0_out_0 : List UInt8 := dkwX0_out_0 ++ []
theorem dksX0_out_0 : cX0_out.data.toList.drop 0 = dktX0_out_0 := by decide +kernel
theorem dX0_out_0 : decode cX0_out 0 = .ok (.aload_n 0, 1) := dk_42 (dk_at dksX0_out_0 0 rfl rfl)
theorem dX0_out_1 : decode cX0_out 1 = .ok (.getfield 16, 3) := dk_180 0 16 (dk_at dksX0_out_0 1 rfl rfl)
theorem dX0_out_4 : decode cX0_out 4 = .ok (.iload_n 1, 1) := dk_27 (dk_at dksX0_out_0 4 rfl rfl)
theorem dX0_out_5 : decode cX0_out 5 = .ok (.ldc 35, 2) := dk_18 35 (dk_at dksX0_out_0 5 rfl rfl)
theorem dX0_out_7 : decode cX0_out 7 = .ok (.iand, 1) := dk_126 (dk_at dksX0_out_0 7 rfl rfl)
theorem dX0_out_8 : decode cX0_out 8 = .ok (.bipush 32, 2) := dk_16 32 (dk_at dksX0_out_0 8 rfl rfl)
theorem dX0_out_10 : decode cX0_out 10 = .ok (.irem, 1) := dk_112 (dk_at dksX0_out_0 10 rfl rfl)
theorem dX0_out_11 : decode cX0_out 11 = .ok (.baload, 1) := dk_51 (dk_at dksX0_out_0 11 rfl rfl)
theorem dX0_out_12 : decode cX0_out 12 = .ok (.sipush 255, 3) := dk_17 0 255 (dk_at dksX0_out_0 12 rfl rfl)
theorem dX0_out_15 : decode cX0_out 15 = .ok (.iand, 1) := dk_126 (dk_at dksX0_out_0 15 rfl rfl)
theorem dX0_out_16 : decode cX0_out 16 = .ok (.ireturn, 1) := dk_172 (dk_at dksX0_out_0 16 rfl rfl)
theorem q7 : (Jvm.Cond.initialized "AsconHashDesk") ∈ lw_all := lw_g (lw_at lw_m1 1 rfl) rfl
theorem q33 : (Jvm.Cond.instantiable "AsconHashDesk" (5 : Nat)) ∈ lw_all := lw_g (lw_at lw_m1 27 rfl) rfl
theorem q35 : (Jvm.Cond.instanceMethod ({ cls := "AsconHashDesk", name := "<init>", desc := "()V" } : Jvm.MethodName)) ∈ lw_all := lw_g (lw_at lw_m1 29 rfl) rfl
theorem q36 : (Jvm.Cond.code ({ cls := "AsconHashDesk", name := "<init>", desc := "()V" } : Jvm.MethodName) prog_4_method_1_code (1 : Nat) (Option.none : Option Jvm.ClassFile.FieldType)) ∈ lw_all := lw_g (lw_at lw_m1 30 rfl) rfl
theorem q37 : (Jvm.Cond.methodLink "AsconHashDesk" (1 : Nat) ({ cls := "java/lang/Object", name := "<init>", desc := "()V" } : Jvm.MethodName)) ∈ lw_all := lw_g (lw_at lw_m1 31 rfl) rfl
theorem q40 : (Jvm.Cond.classLink "AsconHashDesk" (7 : Nat) "AsconHash256") ∈ lw_all := lw_g (lw_at lw_m1 34 rfl) rfl
theorem q42 : (Jvm.Cond.methodLink "AsconHashDesk" (9 : Nat) ({ cls := "AsconHash256", name := "<init>", desc := "()V" } : Jvm.MethodName)) ∈ lw_all := lw_g (lw_at lw_m1 36 rfl) rfl
theorem q246 : (Jvm.Cond.fieldLink "AsconHashDesk" (10 : Nat) "AsconHashDesk" "run" "LDigest;") ∈ lw_all := lw_g (lw_at lw_m2 0 rfl) rfl
theorem q247 : (Jvm.Cond.fieldLink "AsconHashDesk" (16 : Nat) "AsconHashDesk" "out" "[B") ∈ lw_all := lw_g (lw_at lw_m2 1 rfl) rfl
theorem q248 : (Jvm.Cond.fieldLink "AsconHashDesk" (36 : Nat) "AsconHashDesk" "fed" "I") ∈ lw_all := lw_g (lw_at lw_m2 2 rfl) rfl
theorem q249 : (Jvm.Cond.fieldLink "AsconHashDesk" (20 : Nat) "AsconHashDesk" "text" "[B") ∈ lw_all := lw_g (lw_at lw_m2 3 rfl) rfl
theorem q250 : (Jvm.Cond.fieldLink "AsconHashDesk" (23 : Nat) "AsconHashDesk" "size" "I") ∈ lw_all := lw_g (lw_at lw_m2 4 rfl) rfl
theorem q251 : (Jvm.Cond.lays "AsconHashDesk" "AsconHashDesk" "run" "LDigest;") ∈ lw_all := lw_g (lw_at lw_m2 5 rfl) rfl
theorem q252 : (Jvm.Cond.soleField "AsconHashDesk" "run") ∈ lw_all := lw_g (lw_at lw_m2 6 rfl) rfl
theorem q253 : (Jvm.Cond.laysFinal "AsconHashDesk" "AsconHashDesk" "out" "[B") ∈ lw_all := lw_g (lw_at lw_m2 7 rfl) rfl
theorem q254 : (Jvm.Cond.soleField "AsconHashDesk" "out") ∈ lw_all := lw_g (lw_at lw_m2 8 rfl) rfl
theorem q255 : (Jvm.Cond.lays "AsconHashDesk" "AsconHashDesk" "fed" "I") ∈ lw_all := lw_g (lw_at lw_m2 9 rfl) rfl
theorem q256 : (Jvm.Cond.soleField "AsconHashDesk" "fed") ∈ lw_all := lw_g (lw_at lw_m2 10 rfl) rfl
theorem q257 : (Jvm.Cond.laysFinal "AsconHashDesk" "AsconHashDesk" "text" "[B") ∈ lw_all := lw_g (lw_at lw_m2 11 rfl) rfl
theorem q258 : (Jvm.Cond.soleField "AsconHashDesk" "text") ∈ lw_all := lw_g (lw_at lw_m2 12 rfl) rfl
theorem q259 : (Jvm.Cond.lays "AsconHashDesk" "AsconHashDesk" "size" "I") ∈ lw_all := lw_g (lw_at lw_m2 13 rfl) rfl
theorem q260 : (Jvm.Cond.soleField "AsconHashDesk" "size") ∈ lw_all := lw_g (lw_at lw_m2 14 rfl) rfl
theorem q261 : (Jvm.Cond.superclass "AsconHashDesk" "java/lang/Object") ∈ lw_all := lw_g (lw_at lw_m2 15 rfl) rfl
theorem q263 : (Jvm.Cond.instanceMethod ({ cls := "AsconHashDesk", name := "put", desc := "(IIII)Z" } : Jvm.MethodName)) ∈ lw_all := lw_g (lw_at lw_m2 17 rfl) rfl
theorem q264 : (Jvm.Cond.selects "AsconHashDesk" ({ cls := "AsconHashDesk", name := "put", desc := "(IIII)Z" } : Jvm.MethodName) ({ cls := "AsconHashDesk", name := "put", desc := "(IIII)Z" } : Jvm.MethodName)) ∈ lw_all := lw_g (lw_at lw_m2 18 rfl) rfl
theorem q265 : (Jvm.Cond.code ({ cls := "AsconHashDesk", name := "put", desc := "(IIII)Z" } : Jvm.MethodName) prog_4_method_2_code (5 : Nat) (Option.some Jvm.ClassFile.FieldType.boolean)) ∈ lw_all := lw_g (lw_at lw_m2 19 rfl) rfl
theorem q266 : (Jvm.Cond.methodLink "AsconHashDesk" (27 : Nat) ({ cls := "AsconHashDesk", name := "word", desc := "(II)V" } : Jvm.MethodName)) ∈ lw_all := lw_g (lw_at lw_m2 20 rfl) rfl
theorem q267 : (Jvm.Cond.privateMethod ({ cls := "AsconHashDesk", name := "word", desc := "(II)V" } : Jvm.MethodName)) ∈ lw_tbl := lw_at lw_m2 21 rfl
theorem q268 : (Jvm.Cond.instanceMethod ({ cls := "AsconHashDesk", name := "word", desc := "(II)V" } : Jvm.MethodName)) ∈ lw_all := lw_g (lw_at lw_m2 22 rfl) rfl
theorem q269 : (Jvm.Cond.code ({ cls := "AsconHashDesk", name := "word", desc := "(II)V" } : Jvm.MethodName) prog_4_method_3_code (3 : Nat) (Option.none : Option Jvm.ClassFile.FieldType)) ∈ lw_all := lw_g (lw_at lw_m2 23 rfl) rfl
theorem q271 : (Jvm.Cond.instanceMethod ({ cls := "AsconHashDesk", name := "trim", desc := "(I)V" } : Jvm.MethodName)) ∈ lw_all := lw_g (lw_at lw_m2 25 rfl) rfl
theorem q272 : (Jvm.Cond.selects "AsconHashDesk" ({ cls := "AsconHashDesk", name := "trim", desc := "(I)V" } : Jvm.MethodName) ({ cls := "AsconHashDesk", name := "trim", desc := "(I)V" } : Jvm.MethodName)) ∈ lw_all := lw_g (lw_at lw_m2 26 rfl) rfl
theorem q273 : (Jvm.Cond.code ({ cls := "AsconHashDesk", name := "trim", desc := "(I)V" } : Jvm.MethodName) prog_4_method_4_code (2 : Nat) (Option.none : Option Jvm.ClassFile.FieldType)) ∈ lw_all := lw_g (lw_at lw_m2 27 rfl) rfl
theorem q274 : (Jvm.Cond.methodLink "AsconHashDesk" (31 : Nat) ({ cls := "AsconHashDesk", name := "from", desc := "(I)I" } : Jvm.MethodName)) ∈ lw_all := lw_g (lw_at lw_m2 28 rfl) rfl
theorem q275 : (Jvm.Cond.privateMethod ({ cls := "AsconHashDesk", name := "from", desc := "(I)I" } : Jvm.MethodName)) ∈ lw_tbl := lw_at lw_m2 29 rfl
theorem q276 : (Jvm.Cond.instanceMethod ({ cls := "AsconHashDesk", name := "from", desc := "(I)I" } : Jvm.MethodName)) ∈ lw_all := lw_g (lw_at lw_m2 30 rfl) rfl
theorem q277 : (Jvm.Cond.code ({ cls := "AsconHashDesk", name := "from", desc := "(I)I" } : Jvm.MethodName) prog_4_method_5_code (2 : Nat) (Option.some Jvm.ClassFile.FieldType.int)) ∈ lw_all := lw_g (lw_at lw_m2 31 rfl) rfl
theorem q278 : (Jvm.Cond.constant "AsconHashDesk" (35 : Nat) (2147483647 : Int32)) ∈ lw_all := lw_g (lw_at lw_m2 32 rfl) rfl
theorem q280 : (Jvm.Cond.instanceMethod ({ cls := "AsconHashDesk", name := "begin", desc := "(I)V" } : Jvm.MethodName)) ∈ lw_all := lw_g (lw_at lw_m2 34 rfl) rfl
theorem q281 : (Jvm.Cond.selects "AsconHashDesk" ({ cls := "AsconHashDesk", name := "begin", desc := "(I)V" } : Jvm.MethodName) ({ cls := "AsconHashDesk", name := "begin", desc := "(I)V" } : Jvm.MethodName)) ∈ lw_all := lw_g (lw_at lw_m2 35 rfl) rfl
theorem q282 : (Jvm.Cond.code ({ cls := "AsconHashDesk", name := "begin", desc := "(I)V" } : Jvm.MethodName) prog_4_method_7_code (2 : Nat) (Option.none : Option Jvm.ClassFile.FieldType)) ∈ lw_all := lw_g (lw_at lw_m2 36 rfl) rfl
theorem q284 : (Jvm.Cond.instanceMethod ({ cls := "AsconHashDesk", name := "feed", desc := "(II)Z" } : Jvm.MethodName)) ∈ lw_all := lw_g (lw_at lw_m2 38 rfl) rfl
theorem q285 : (Jvm.Cond.selects "AsconHashDesk" ({ cls := "AsconHashDesk", name := "feed", desc := "(II)Z" } : Jvm.MethodName) ({ cls := "AsconHashDesk", name := "feed", desc := "(II)Z" } : Jvm.MethodName)) ∈ lw_all := lw_g (lw_at lw_m2 39 rfl) rfl
theorem q286 : (Jvm.Cond.code ({ cls := "AsconHashDesk", name := "feed", desc := "(II)Z" } : Jvm.MethodName) prog_4_method_8_code (5 : Nat) (Option.some Jvm.ClassFile.FieldType.boolean)) ∈ lw_all := lw_g (lw_at lw_m2 40 rfl) rfl
theorem q287 : (Jvm.Cond.methodLink "AsconHashDesk" (39 : Nat) ({ cls := "AsconHashDesk", name := "count", desc := "(II)I" } : Jvm.MethodName)) ∈ lw_all := lw_g (lw_at lw_m2 41 rfl) rfl
theorem q288 : (Jvm.Cond.privateMethod ({ cls := "AsconHashDesk", name := "count", desc := "(II)I" } : Jvm.MethodName)) ∈ lw_tbl := lw_at lw_m2 42 rfl
theorem q289 : (Jvm.Cond.instanceMethod ({ cls := "AsconHashDesk", name := "count", desc := "(II)I" } : Jvm.MethodName)) ∈ lw_all := lw_g (lw_at lw_m2 43 rfl) rfl
theorem q290 : (Jvm.Cond.code ({ cls := "AsconHashDesk", name := "count", desc := "(II)I" } : Jvm.MethodName) prog_4_method_6_code (3 : Nat) (Option.some Jvm.ClassFile.FieldType.int)) ∈ lw_all := lw_g (lw_at lw_m2 44 rfl) rfl
theorem q291 : (Jvm.Cond.interfaceEntry "AsconHashDesk" (43 : Nat)) ∈ lw_tbl := lw_at lw_m2 45 rfl
theorem q292 : (Jvm.Cond.methodLink "AsconHashDesk" (43 : Nat) ({ cls := "Digest", name := "update", desc := "([BII)V" } : Jvm.MethodName)) ∈ lw_all := lw_g (lw_at lw_m2 46 rfl) rfl
theorem q421 : (Jvm.Cond.instanceMethod ({ cls := "AsconHashDesk", name := "one", desc := "(I)Z" } : Jvm.MethodName)) ∈ lw_all := lw_g (lw_at lw_m2 175 rfl) rfl
theorem q422 : (Jvm.Cond.selects "AsconHashDesk" ({ cls := "AsconHashDesk", name := "one", desc := "(I)Z" } : Jvm.MethodName) ({ cls := "AsconHashDesk", name := "one", desc := "(I)Z" } : Jvm.MethodName)) ∈ lw_all := lw_g (lw_at lw_m2 176 rfl) rfl
theorem q423 : (Jvm.Cond.code ({ cls := "AsconHashDesk", name := "one", desc := "(I)Z" } : Jvm.MethodName) prog_4_method_9_code (2 : Nat) (Option.some Jvm.ClassFile.FieldType.boolean)) ∈ lw_all := lw_g (lw_at lw_m2 177 rfl) rfl
theorem q424 : (Jvm.Cond.interfaceEntry "AsconHashDesk" (49 : Nat)) ∈ lw_tbl := lw_at lw_m2 178 rfl
theorem q425 : (Jvm.Cond.methodLink "AsconHashDesk" (49 : Nat) ({ cls := "Digest", name := "update", desc := "(B)V" } : Jvm.MethodName)) ∈ lw_all := lw_g (lw_at lw_m2 179 rfl) rfl
theorem q450 : (Jvm.Cond.instanceMethod ({ cls := "AsconHashDesk", name := "close", desc := "()I" } : Jvm.MethodName)) ∈ lw_all := lw_g (lw_at lw_m2 204 rfl) rfl
theorem q451 : (Jvm.Cond.selects "AsconHashDesk" ({ cls := "AsconHashDesk", name := "close", desc := "()I" } : Jvm.MethodName) ({ cls := "AsconHashDesk", name := "close", desc := "()I" } : Jvm.MethodName)) ∈ lw_all := lw_g (lw_at lw_m2 205 rfl) rfl
theorem q452 : (Jvm.Cond.code ({ cls := "AsconHashDesk", name := "close", desc := "()I" } : Jvm.MethodName) prog_4_method_10_code (1 : Nat) (Option.some Jvm.ClassFile.FieldType.int)) ∈ lw_all := lw_g (lw_at lw_m2 206 rfl) rfl
theorem q453 : (Jvm.Cond.interfaceEntry "AsconHashDesk" (52 : Nat)) ∈ lw_tbl := lw_at lw_m2 207 rfl
theorem q454 : (Jvm.Cond.methodLink "AsconHashDesk" (52 : Nat) ({ cls := "Digest", name := "doFinal", desc := "([BI)I" } : Jvm.MethodName)) ∈ lw_all := lw_g (lw_at lw_m2 208 rfl) rfl
theorem q539 : (Jvm.Cond.instanceMethod ({ cls := "AsconHashDesk", name := "drop", desc := "()V" } : Jvm.MethodName)) ∈ lw_all := lw_g (lw_at lw_m3 53 rfl) rfl
theorem q540 : (Jvm.Cond.selects "AsconHashDesk" ({ cls := "AsconHashDesk", name := "drop", desc := "()V" } : Jvm.MethodName) ({ cls := "AsconHashDesk", name := "drop", desc := "()V" } : Jvm.MethodName)) ∈ lw_all := lw_g (lw_at lw_m3 54 rfl) rfl
theorem q541 : (Jvm.Cond.code ({ cls := "AsconHashDesk", name := "drop", desc := "()V" } : Jvm.MethodName) prog_4_method_11_code (1 : Nat) (Option.none : Option Jvm.ClassFile.FieldType)) ∈ lw_all := lw_g (lw_at lw_m3 55 rfl) rfl
theorem q542 : (Jvm.Cond.interfaceEntry "AsconHashDesk" (56 : Nat)) ∈ lw_tbl := lw_at lw_m3 56 rfl
theorem q543 : (Jvm.Cond.methodLink "AsconHashDesk" (56 : Nat) ({ cls := "Digest", name := "reset", desc := "()V" } : Jvm.MethodName)) ∈ lw_all := lw_g (lw_at lw_m3 57 rfl) rfl
theorem q550 : (Jvm.Cond.instanceMethod ({ cls := "AsconHashDesk", name := "out", desc := "(I)I" } : Jvm.MethodName)) ∈ lw_all := lw_g (lw_at lw_m3 64 rfl) rfl
theorem q551 : (Jvm.Cond.selects "AsconHashDesk" ({ cls := "AsconHashDesk", name := "out", desc := "(I)I" } : Jvm.MethodName) ({ cls := "AsconHashDesk", name := "out", desc := "(I)I" } : Jvm.MethodName)) ∈ lw_all := lw_g (lw_at lw_m3 65 rfl) rfl
theorem q552 : (Jvm.Cond.code ({ cls := "AsconHashDesk", name := "out", desc := "(I)I" } : Jvm.MethodName) prog_4_method_12_code (2 : Nat) (Option.some Jvm.ClassFile.FieldType.int)) ∈ lw_all := lw_g (lw_at lw_m3 66 rfl) rfl
theorem in_X0 : ∀ w ∈ wsX00, w ∈ lw_all := lw_in wsX00 [251, 253, 255, 257, 259] (by decide +kernel) (by decide +kernel)

/-! BufferBaseDigest -/
set_option maxRecDepth 100000
def RX1 : String := "BufferBaseDigest"
abbrev cX1_init : ByteArray := prog_9_method_1_code
def yX1_init : MethodName := ⟨RX1, "<init>", "(LBufferBaseDigest$ProcessingBufferType;I)V"⟩
def dkwX1_init_3 : List UInt8 := [181, 0, 27, 177]
abbrev dktX1_init_3 : List UInt8 := dkwX1_init_3 ++ []
def dkwX1_init_2 : List UInt8 := [42, 187, 0, 22, 89, 42, 183, 0, 24, 181, 0, 27, 167, 0, 15, 42, 187, 0, 31, 89, 42, 183, 0, 33]
abbrev dktX1_init_2 : List UInt8 := dkwX1_init_2 ++ dktX1_init_3
def dkwX1_init_1 : List UInt8 := [171, 0, 0, 0, 0, 0, 0, 55, 0, 0, 0, 2, 0, 0, 0, 0, 0, 0, 0, 28, 0, 0, 0, 1, 0, 0, 0, 43]
abbrev dktX1_init_1 : List UInt8 := dkwX1_init_1 ++ dktX1_init_2
def dkwX1_init_0 : List UInt8 := [42, 183, 0, 1, 42, 28, 181, 0, 7, 42, 28, 188, 8, 181, 0, 13, 43, 180, 0, 17]
abbrev dktX1_init_0 : List UInt8 := dkwX1_init_0 ++ dktX1_init_1
theorem dksX1_init_0 : cX1_init.data.toList.drop 0 = dktX1_init_0 := by decide +kernel
theorem dksX1_init_1 : cX1_init.data.toList.drop 20 = dktX1_init_1 := dk_seg dksX1_init_0 20 rfl rfl
theorem dksX1_init_2 : cX1_init.data.toList.drop 48 = dktX1_init_2 := dk_seg dksX1_init_1 28 rfl rfl
theorem dksX1_init_3 : cX1_init.data.toList.drop 72 = dktX1_init_3 := dk_seg dksX1_init_2 24 rfl rfl
theorem dX1_init_0 : decode cX1_init 0 = .ok (.aload_n 0, 1) := dk_42 (dk_at dksX1_init_0 0 rfl rfl)
theorem dX1_init_1 : decode cX1_init 1 = .ok (.invokespecial 1, 3) := dk_183 0 1 (dk_at dksX1_init_0 1 rfl rfl)
theorem dX1_init_4 : decode cX1_init 4 = .ok (.aload_n 0, 1) := dk_42 (dk_at dksX1_init_0 4 rfl rfl)
theorem dX1_init_5 : decode cX1_init 5 = .ok (.iload_n 2, 1) := dk_28 (dk_at dksX1_init_0 5 rfl rfl)
theorem dX1_init_6 : decode cX1_init 6 = .ok (.putfield 7, 3) := dk_181 0 7 (dk_at dksX1_init_0 6 rfl rfl)
theorem dX1_init_9 : decode cX1_init 9 = .ok (.aload_n 0, 1) := dk_42 (dk_at dksX1_init_0 9 rfl rfl)
theorem dX1_init_10 : decode cX1_init 10 = .ok (.iload_n 2, 1) := dk_28 (dk_at dksX1_init_0 10 rfl rfl)
theorem dX1_init_11 : decode cX1_init 11 = .ok (.newarray .byte, 2) := dk_188_8 (dk_at dksX1_init_0 11 rfl rfl)
theorem dX1_init_13 : decode cX1_init 13 = .ok (.putfield 13, 3) := dk_181 0 13 (dk_at dksX1_init_0 13 rfl rfl)
theorem dX1_init_16 : decode cX1_init 16 = .ok (.aload_n 1, 1) := dk_43 (dk_at dksX1_init_0 16 rfl rfl)
theorem dX1_init_17 : decode cX1_init 17 = .ok (.getfield 17, 3) := dk_180 0 17 (dk_at dksX1_init_0 17 rfl rfl)
theorem dX1_init_20 : decode cX1_init 20 = .ok (.lookupswitch 55 #[(0, 28), (1, 43)], 28) := by decide +kernel
theorem dX1_init_48 : decode cX1_init 48 = .ok (.aload_n 0, 1) := dk_42 (dk_at dksX1_init_2 0 rfl rfl)
theorem dX1_init_49 : decode cX1_init 49 = .ok (.new 22, 3) := dk_187 0 22 (dk_at dksX1_init_2 1 rfl rfl)
theorem dX1_init_52 : decode cX1_init 52 = .ok (.dup, 1) := dk_89 (dk_at dksX1_init_2 4 rfl rfl)
theorem dX1_init_53 : decode cX1_init 53 = .ok (.aload_n 0, 1) := dk_42 (dk_at dksX1_init_2 5 rfl rfl)
theorem dX1_init_54 : decode cX1_init 54 = .ok (.invokespecial 24, 3) := dk_183 0 24 (dk_at dksX1_init_2 6 rfl rfl)
theorem dX1_init_57 : decode cX1_init 57 = .ok (.putfield 27, 3) := dk_181 0 27 (dk_at dksX1_init_2 9 rfl rfl)
theorem dX1_init_60 : decode cX1_init 60 = .ok (.goto 15, 3) := dk_167 0 15 (dk_at dksX1_init_2 12 rfl rfl)
theorem dX1_init_63 : decode cX1_init 63 = .ok (.aload_n 0, 1) := dk_42 (dk_at dksX1_init_2 15 rfl rfl)
theorem dX1_init_64 : decode cX1_init 64 = .ok (.new 31, 3) := dk_187 0 31 (dk_at dksX1_init_2 16 rfl rfl)
theorem dX1_init_67 : decode cX1_init 67 = .ok (.dup, 1) := dk_89 (dk_at dksX1_init_2 19 rfl rfl)
theorem dX1_init_68 : decode cX1_init 68 = .ok (.aload_n 0, 1) := dk_42 (dk_at dksX1_init_2 20 rfl rfl)
theorem dX1_init_69 : decode cX1_init 69 = .ok (.invokespecial 33, 3) := dk_183 0 33 (dk_at dksX1_init_2 21 rfl rfl)
theorem dX1_init_72 : decode cX1_init 72 = .ok (.putfield 27, 3) := dk_181 0 27 (dk_at dksX1_init_3 0 rfl rfl)
theorem dX1_init_75 : decode cX1_init 75 = .ok (.return_, 1) := dk_177 (dk_at dksX1_init_3 3 rfl rfl)
abbrev cX1_reset : ByteArray := prog_9_method_5_code
def yX1_reset : MethodName := ⟨RX1, "reset", "()V"⟩
def dkwX1_reset_0 : List UInt8 := [42, 180, 0, 13, 184, 0, 76, 42, 3, 181, 0, 44, 177]
abbrev dktX1_reset_0 : List UInt8 := dkwX1_reset_0 ++ []
theorem dksX1_reset_0 : cX1_reset.data.toList.drop 0 = dktX1_reset_0 := by decide +kernel
theorem dX1_reset_0 : decode cX1_reset 0 = .ok (.aload_n 0, 1) := dk_42 (dk_at dksX1_reset_0 0 rfl rfl)
theorem dX1_reset_1 : decode cX1_reset 1 = .ok (.getfield 13, 3) := dk_180 0 13 (dk_at dksX1_reset_0 1 rfl rfl)
theorem dX1_reset_4 : decode cX1_reset 4 = .ok (.invokestatic 76, 3) := dk_184 0 76 (dk_at dksX1_reset_0 4 rfl rfl)
theorem dX1_reset_7 : decode cX1_reset 7 = .ok (.aload_n 0, 1) := dk_42 (dk_at dksX1_reset_0 7 rfl rfl)
theorem dX1_reset_8 : decode cX1_reset 8 = .ok (.iconst 0, 1) := dk_3 (dk_at dksX1_reset_0 8 rfl rfl)
theorem dX1_reset_9 : decode cX1_reset 9 = .ok (.putfield 44, 3) := dk_181 0 44 (dk_at dksX1_reset_0 9 rfl rfl)
theorem dX1_reset_12 : decode cX1_reset 12 = .ok (.return_, 1) := dk_177 (dk_at dksX1_reset_0 12 rfl rfl)
abbrev cX1_update : ByteArray := prog_9_method_3_code
def yX1_update : MethodName := ⟨RX1, "update", "([BII)V"⟩
def dkwX1_update_6 : List UInt8 := [180, 0, 13, 3, 29, 184, 0, 51, 42, 29, 181, 0, 44, 177]
abbrev dktX1_update_6 : List UInt8 := dkwX1_update_6 ++ []
def dkwX1_update_5 : List UInt8 := [182, 0, 57, 28, 42, 180, 0, 7, 96, 61, 29, 42, 180, 0, 7, 100, 62, 167, 255, 219, 43, 28, 42]
abbrev dktX1_update_5 : List UInt8 := dkwX1_update_5 ++ dktX1_update_6
def dkwX1_update_4 : List UInt8 := [3, 182, 0, 57, 42, 180, 0, 27, 29, 42, 180, 0, 7, 185, 0, 61, 3, 0, 153, 0, 26, 42, 43, 28]
abbrev dktX1_update_4 : List UInt8 := dkwX1_update_4 ++ dktX1_update_5
def dkwX1_update_3 : List UInt8 := [42, 180, 0, 44, 21, 4, 184, 0, 51, 28, 21, 4, 96, 61, 29, 21, 4, 100, 62, 42, 42, 180, 0, 13]
abbrev dktX1_update_3 : List UInt8 := dkwX1_update_3 ++ dktX1_update_4
def dkwX1_update_2 : List UInt8 := [42, 89, 180, 0, 44, 29, 96, 181, 0, 44, 177, 42, 180, 0, 44, 158, 0, 37, 43, 28, 42, 180, 0, 13]
abbrev dktX1_update_2 : List UInt8 := dkwX1_update_2 ++ dktX1_update_3
def dkwX1_update_1 : List UInt8 := [21, 4, 185, 0, 47, 3, 0, 153, 0, 28, 43, 28, 42, 180, 0, 13, 42, 180, 0, 44, 29, 184, 0, 51]
abbrev dktX1_update_1 : List UInt8 := dkwX1_update_1 ++ dktX1_update_2
def dkwX1_update_0 : List UInt8 := [42, 43, 28, 29, 182, 0, 40, 42, 180, 0, 7, 42, 180, 0, 44, 100, 54, 4, 42, 180, 0, 27, 29]
abbrev dktX1_update_0 : List UInt8 := dkwX1_update_0 ++ dktX1_update_1
theorem dksX1_update_0 : cX1_update.data.toList.drop 0 = dktX1_update_0 := by decide +kernel
theorem dksX1_update_1 : cX1_update.data.toList.drop 23 = dktX1_update_1 := dk_seg dksX1_update_0 23 rfl rfl
theorem dksX1_update_2 : cX1_update.data.toList.drop 47 = dktX1_update_2 := dk_seg dksX1_update_1 24 rfl rfl
theorem dksX1_update_3 : cX1_update.data.toList.drop 71 = dktX1_update_3 := dk_seg dksX1_update_2 24 rfl rfl
theorem dksX1_update_4 : cX1_update.data.toList.drop 95 = dktX1_update_4 := dk_seg dksX1_update_3 24 rfl rfl
theorem dksX1_update_5 : cX1_update.data.toList.drop 119 = dktX1_update_5 := dk_seg dksX1_update_4 24 rfl rfl
theorem dksX1_update_6 : cX1_update.data.toList.drop 142 = dktX1_update_6 := dk_seg dksX1_update_5 23 rfl rfl
theorem dX1_update_0 : decode cX1_update 0 = .ok (.aload_n 0, 1) := dk_42 (dk_at dksX1_update_0 0 rfl rfl)
theorem dX1_update_1 : decode cX1_update 1 = .ok (.aload_n 1, 1) := dk_43 (dk_at dksX1_update_0 1 rfl rfl)
theorem dX1_update_2 : decode cX1_update 2 = .ok (.iload_n 2, 1) := dk_28 (dk_at dksX1_update_0 2 rfl rfl)
theorem dX1_update_3 : decode cX1_update 3 = .ok (.iload_n 3, 1) := dk_29 (dk_at dksX1_update_0 3 rfl rfl)
theorem dX1_update_4 : decode cX1_update 4 = .ok (.invokevirtual 40, 3) := dk_182 0 40 (dk_at dksX1_update_0 4 rfl rfl)
theorem dX1_update_7 : decode cX1_update 7 = .ok (.aload_n 0, 1) := dk_42 (dk_at dksX1_update_0 7 rfl rfl)
theorem dX1_update_8 : decode cX1_update 8 = .ok (.getfield 7, 3) := dk_180 0 7 (dk_at dksX1_update_0 8 rfl rfl)
theorem dX1_update_11 : decode cX1_update 11 = .ok (.aload_n 0, 1) := dk_42 (dk_at dksX1_update_0 11 rfl rfl)
theorem dX1_update_12 : decode cX1_update 12 = .ok (.getfield 44, 3) := dk_180 0 44 (dk_at dksX1_update_0 12 rfl rfl)
theorem dX1_update_15 : decode cX1_update 15 = .ok (.isub, 1) := dk_100 (dk_at dksX1_update_0 15 rfl rfl)
theorem dX1_update_16 : decode cX1_update 16 = .ok (.istore 4, 2) := dk_54 4 (dk_at dksX1_update_0 16 rfl rfl)
theorem dX1_update_18 : decode cX1_update 18 = .ok (.aload_n 0, 1) := dk_42 (dk_at dksX1_update_0 18 rfl rfl)
theorem dX1_update_19 : decode cX1_update 19 = .ok (.getfield 27, 3) := dk_180 0 27 (dk_at dksX1_update_0 19 rfl rfl)
theorem dX1_update_22 : decode cX1_update 22 = .ok (.iload_n 3, 1) := dk_29 (dk_at dksX1_update_0 22 rfl rfl)
theorem dX1_update_23 : decode cX1_update 23 = .ok (.iload 4, 2) := dk_21 4 (dk_at dksX1_update_1 0 rfl rfl)
theorem dX1_update_25 : decode cX1_update 25 = .ok (.invokeinterface 47 3, 5) := by decide +kernel
theorem dX1_update_30 : decode cX1_update 30 = .ok (.ifCond .eq 28, 3) := dk_153 0 28 (dk_at dksX1_update_1 7 rfl rfl)
theorem dX1_update_33 : decode cX1_update 33 = .ok (.aload_n 1, 1) := dk_43 (dk_at dksX1_update_1 10 rfl rfl)
theorem dX1_update_34 : decode cX1_update 34 = .ok (.iload_n 2, 1) := dk_28 (dk_at dksX1_update_1 11 rfl rfl)
theorem dX1_update_35 : decode cX1_update 35 = .ok (.aload_n 0, 1) := dk_42 (dk_at dksX1_update_1 12 rfl rfl)
theorem dX1_update_36 : decode cX1_update 36 = .ok (.getfield 13, 3) := dk_180 0 13 (dk_at dksX1_update_1 13 rfl rfl)
theorem dX1_update_39 : decode cX1_update 39 = .ok (.aload_n 0, 1) := dk_42 (dk_at dksX1_update_1 16 rfl rfl)
theorem dX1_update_40 : decode cX1_update 40 = .ok (.getfield 44, 3) := dk_180 0 44 (dk_at dksX1_update_1 17 rfl rfl)
theorem dX1_update_43 : decode cX1_update 43 = .ok (.iload_n 3, 1) := dk_29 (dk_at dksX1_update_1 20 rfl rfl)
theorem dX1_update_44 : decode cX1_update 44 = .ok (.invokestatic 51, 3) := dk_184 0 51 (dk_at dksX1_update_1 21 rfl rfl)
theorem dX1_update_47 : decode cX1_update 47 = .ok (.aload_n 0, 1) := dk_42 (dk_at dksX1_update_2 0 rfl rfl)
theorem dX1_update_48 : decode cX1_update 48 = .ok (.dup, 1) := dk_89 (dk_at dksX1_update_2 1 rfl rfl)
theorem dX1_update_49 : decode cX1_update 49 = .ok (.getfield 44, 3) := dk_180 0 44 (dk_at dksX1_update_2 2 rfl rfl)
theorem dX1_update_52 : decode cX1_update 52 = .ok (.iload_n 3, 1) := dk_29 (dk_at dksX1_update_2 5 rfl rfl)
theorem dX1_update_53 : decode cX1_update 53 = .ok (.iadd, 1) := dk_96 (dk_at dksX1_update_2 6 rfl rfl)
theorem dX1_update_54 : decode cX1_update 54 = .ok (.putfield 44, 3) := dk_181 0 44 (dk_at dksX1_update_2 7 rfl rfl)
theorem dX1_update_57 : decode cX1_update 57 = .ok (.return_, 1) := dk_177 (dk_at dksX1_update_2 10 rfl rfl)
theorem dX1_update_58 : decode cX1_update 58 = .ok (.aload_n 0, 1) := dk_42 (dk_at dksX1_update_2 11 rfl rfl)
theorem dX1_update_59 : decode cX1_update 59 = .ok (.getfield 44, 3) := dk_180 0 44 (dk_at dksX1_update_2 12 rfl rfl)
theorem dX1_update_62 : decode cX1_update 62 = .ok (.ifCond .le 37, 3) := dk_158 0 37 (dk_at dksX1_update_2 15 rfl rfl)
theorem dX1_update_65 : decode cX1_update 65 = .ok (.aload_n 1, 1) := dk_43 (dk_at dksX1_update_2 18 rfl rfl)
theorem dX1_update_66 : decode cX1_update 66 = .ok (.iload_n 2, 1) := dk_28 (dk_at dksX1_update_2 19 rfl rfl)
theorem dX1_update_67 : decode cX1_update 67 = .ok (.aload_n 0, 1) := dk_42 (dk_at dksX1_update_2 20 rfl rfl)
theorem dX1_update_68 : decode cX1_update 68 = .ok (.getfield 13, 3) := dk_180 0 13 (dk_at dksX1_update_2 21 rfl rfl)
theorem dX1_update_71 : decode cX1_update 71 = .ok (.aload_n 0, 1) := dk_42 (dk_at dksX1_update_3 0 rfl rfl)
theorem dX1_update_72 : decode cX1_update 72 = .ok (.getfield 44, 3) := dk_180 0 44 (dk_at dksX1_update_3 1 rfl rfl)
theorem dX1_update_75 : decode cX1_update 75 = .ok (.iload 4, 2) := dk_21 4 (dk_at dksX1_update_3 4 rfl rfl)
theorem dX1_update_77 : decode cX1_update 77 = .ok (.invokestatic 51, 3) := dk_184 0 51 (dk_at dksX1_update_3 6 rfl rfl)
theorem dX1_update_80 : decode cX1_update 80 = .ok (.iload_n 2, 1) := dk_28 (dk_at dksX1_update_3 9 rfl rfl)
theorem dX1_update_81 : decode cX1_update 81 = .ok (.iload 4, 2) := dk_21 4 (dk_at dksX1_update_3 10 rfl rfl)
theorem dX1_update_83 : decode cX1_update 83 = .ok (.iadd, 1) := dk_96 (dk_at dksX1_update_3 12 rfl rfl)
theorem dX1_update_84 : decode cX1_update 84 = .ok (.istore_n 2, 1) := dk_61 (dk_at dksX1_update_3 13 rfl rfl)
theorem dX1_update_85 : decode cX1_update 85 = .ok (.iload_n 3, 1) := dk_29 (dk_at dksX1_update_3 14 rfl rfl)
theorem dX1_update_86 : decode cX1_update 86 = .ok (.iload 4, 2) := dk_21 4 (dk_at dksX1_update_3 15 rfl rfl)
theorem dX1_update_88 : decode cX1_update 88 = .ok (.isub, 1) := dk_100 (dk_at dksX1_update_3 17 rfl rfl)
theorem dX1_update_89 : decode cX1_update 89 = .ok (.istore_n 3, 1) := dk_62 (dk_at dksX1_update_3 18 rfl rfl)
theorem dX1_update_90 : decode cX1_update 90 = .ok (.aload_n 0, 1) := dk_42 (dk_at dksX1_update_3 19 rfl rfl)
theorem dX1_update_91 : decode cX1_update 91 = .ok (.aload_n 0, 1) := dk_42 (dk_at dksX1_update_3 20 rfl rfl)
theorem dX1_update_92 : decode cX1_update 92 = .ok (.getfield 13, 3) := dk_180 0 13 (dk_at dksX1_update_3 21 rfl rfl)
theorem dX1_update_95 : decode cX1_update 95 = .ok (.iconst 0, 1) := dk_3 (dk_at dksX1_update_4 0 rfl rfl)
theorem dX1_update_96 : decode cX1_update 96 = .ok (.invokevirtual 57, 3) := dk_182 0 57 (dk_at dksX1_update_4 1 rfl rfl)
theorem dX1_update_99 : decode cX1_update 99 = .ok (.aload_n 0, 1) := dk_42 (dk_at dksX1_update_4 4 rfl rfl)
theorem dX1_update_100 : decode cX1_update 100 = .ok (.getfield 27, 3) := dk_180 0 27 (dk_at dksX1_update_4 5 rfl rfl)
theorem dX1_update_103 : decode cX1_update 103 = .ok (.iload_n 3, 1) := dk_29 (dk_at dksX1_update_4 8 rfl rfl)
theorem dX1_update_104 : decode cX1_update 104 = .ok (.aload_n 0, 1) := dk_42 (dk_at dksX1_update_4 9 rfl rfl)
theorem dX1_update_105 : decode cX1_update 105 = .ok (.getfield 7, 3) := dk_180 0 7 (dk_at dksX1_update_4 10 rfl rfl)
theorem dX1_update_108 : decode cX1_update 108 = .ok (.invokeinterface 61 3, 5) := by decide +kernel
theorem dX1_update_113 : decode cX1_update 113 = .ok (.ifCond .eq 26, 3) := dk_153 0 26 (dk_at dksX1_update_4 18 rfl rfl)
theorem dX1_update_116 : decode cX1_update 116 = .ok (.aload_n 0, 1) := dk_42 (dk_at dksX1_update_4 21 rfl rfl)
theorem dX1_update_117 : decode cX1_update 117 = .ok (.aload_n 1, 1) := dk_43 (dk_at dksX1_update_4 22 rfl rfl)
theorem dX1_update_118 : decode cX1_update 118 = .ok (.iload_n 2, 1) := dk_28 (dk_at dksX1_update_4 23 rfl rfl)
theorem dX1_update_119 : decode cX1_update 119 = .ok (.invokevirtual 57, 3) := dk_182 0 57 (dk_at dksX1_update_5 0 rfl rfl)
theorem dX1_update_122 : decode cX1_update 122 = .ok (.iload_n 2, 1) := dk_28 (dk_at dksX1_update_5 3 rfl rfl)
theorem dX1_update_123 : decode cX1_update 123 = .ok (.aload_n 0, 1) := dk_42 (dk_at dksX1_update_5 4 rfl rfl)
theorem dX1_update_124 : decode cX1_update 124 = .ok (.getfield 7, 3) := dk_180 0 7 (dk_at dksX1_update_5 5 rfl rfl)
theorem dX1_update_127 : decode cX1_update 127 = .ok (.iadd, 1) := dk_96 (dk_at dksX1_update_5 8 rfl rfl)
theorem dX1_update_128 : decode cX1_update 128 = .ok (.istore_n 2, 1) := dk_61 (dk_at dksX1_update_5 9 rfl rfl)
theorem dX1_update_129 : decode cX1_update 129 = .ok (.iload_n 3, 1) := dk_29 (dk_at dksX1_update_5 10 rfl rfl)
theorem dX1_update_130 : decode cX1_update 130 = .ok (.aload_n 0, 1) := dk_42 (dk_at dksX1_update_5 11 rfl rfl)
theorem dX1_update_131 : decode cX1_update 131 = .ok (.getfield 7, 3) := dk_180 0 7 (dk_at dksX1_update_5 12 rfl rfl)
theorem dX1_update_134 : decode cX1_update 134 = .ok (.isub, 1) := dk_100 (dk_at dksX1_update_5 15 rfl rfl)
theorem dX1_update_135 : decode cX1_update 135 = .ok (.istore_n 3, 1) := dk_62 (dk_at dksX1_update_5 16 rfl rfl)
theorem dX1_update_136 : decode cX1_update 136 = .ok (.goto (-37), 3) := dk_167 255 219 (dk_at dksX1_update_5 17 rfl rfl)
theorem dX1_update_139 : decode cX1_update 139 = .ok (.aload_n 1, 1) := dk_43 (dk_at dksX1_update_5 20 rfl rfl)
theorem dX1_update_140 : decode cX1_update 140 = .ok (.iload_n 2, 1) := dk_28 (dk_at dksX1_update_5 21 rfl rfl)
theorem dX1_update_141 : decode cX1_update 141 = .ok (.aload_n 0, 1) := dk_42 (dk_at dksX1_update_5 22 rfl rfl)
theorem dX1_update_142 : decode cX1_update 142 = .ok (.getfield 13, 3) := dk_180 0 13 (dk_at dksX1_update_6 0 rfl rfl)
theorem dX1_update_145 : decode cX1_update 145 = .ok (.iconst 0, 1) := dk_3 (dk_at dksX1_update_6 3 rfl rfl)
theorem dX1_update_146 : decode cX1_update 146 = .ok (.iload_n 3, 1) := dk_29 (dk_at dksX1_update_6 4 rfl rfl)
theorem dX1_update_147 : decode cX1_update 147 = .ok (.invokestatic 51, 3) := dk_184 0 51 (dk_at dksX1_update_6 5 rfl rfl)
theorem dX1_update_150 : decode cX1_update 150 = .ok (.aload_n 0, 1) := dk_42 (dk_at dksX1_update_6 8 rfl rfl)
theorem dX1_update_151 : decode cX1_update 151 = .ok (.iload_n 3, 1) := dk_29 (dk_at dksX1_update_6 9 rfl rfl)
theorem dX1_update_152 : decode cX1_update 152 = .ok (.putfield 44, 3) := dk_181 0 44 (dk_at dksX1_update_6 10 rfl rfl)
theorem dX1_update_155 : decode cX1_update 155 = .ok (.return_, 1) := dk_177 (dk_at dksX1_update_6 13 rfl rfl)
abbrev cX1_ensureSufficientInputBuffer : ByteArray := prog_9_method_6_code
def yX1_ensureSufficientInputBuffer : MethodName := ⟨RX1, "ensureSufficientInputBuffer", "([BII)V"⟩
def dkwX1_ensureSufficientInputBuffer_0 : List UInt8 := [28, 29, 96, 43, 190, 164, 0, 13, 187, 0, 82, 89, 18, 84, 183, 0, 86, 191, 177]
abbrev dktX1_ensureSufficientInputBuffer_0 : List UInt8 := dkwX1_ensureSufficientInputBuffer_0 ++ []
theorem dksX1_ensureSufficientInputBuffer_0 : cX1_ensureSufficientInputBuffer.data.toList.drop 0 = dktX1_ensureSufficientInputBuffer_0 := by decide +kernel
theorem dX1_ensureSufficientInputBuffer_0 : decode cX1_ensureSufficientInputBuffer 0 = .ok (.iload_n 2, 1) := dk_28 (dk_at dksX1_ensureSufficientInputBuffer_0 0 rfl rfl)
theorem dX1_ensureSufficientInputBuffer_1 : decode cX1_ensureSufficientInputBuffer 1 = .ok (.iload_n 3, 1) := dk_29 (dk_at dksX1_ensureSufficientInputBuffer_0 1 rfl rfl)
theorem dX1_ensureSufficientInputBuffer_2 : decode cX1_ensureSufficientInputBuffer 2 = .ok (.iadd, 1) := dk_96 (dk_at dksX1_ensureSufficientInputBuffer_0 2 rfl rfl)
theorem dX1_ensureSufficientInputBuffer_3 : decode cX1_ensureSufficientInputBuffer 3 = .ok (.aload_n 1, 1) := dk_43 (dk_at dksX1_ensureSufficientInputBuffer_0 3 rfl rfl)
theorem dX1_ensureSufficientInputBuffer_4 : decode cX1_ensureSufficientInputBuffer 4 = .ok (.arraylength, 1) := dk_190 (dk_at dksX1_ensureSufficientInputBuffer_0 4 rfl rfl)
theorem dX1_ensureSufficientInputBuffer_5 : decode cX1_ensureSufficientInputBuffer 5 = .ok (.if_icmp .le 13, 3) := dk_164 0 13 (dk_at dksX1_ensureSufficientInputBuffer_0 5 rfl rfl)
theorem dX1_ensureSufficientInputBuffer_8 : decode cX1_ensureSufficientInputBuffer 8 = .ok (.new 82, 3) := dk_187 0 82 (dk_at dksX1_ensureSufficientInputBuffer_0 8 rfl rfl)
theorem dX1_ensureSufficientInputBuffer_11 : decode cX1_ensureSufficientInputBuffer 11 = .ok (.dup, 1) := dk_89 (dk_at dksX1_ensureSufficientInputBuffer_0 11 rfl rfl)
theorem dX1_ensureSufficientInputBuffer_12 : decode cX1_ensureSufficientInputBuffer 12 = .ok (.ldc 84, 2) := dk_18 84 (dk_at dksX1_ensureSufficientInputBuffer_0 12 rfl rfl)
theorem dX1_ensureSufficientInputBuffer_14 : decode cX1_ensureSufficientInputBuffer 14 = .ok (.invokespecial 86, 3) := dk_183 0 86 (dk_at dksX1_ensureSufficientInputBuffer_0 14 rfl rfl)
theorem dX1_ensureSufficientInputBuffer_17 : decode cX1_ensureSufficientInputBuffer 17 = .ok (.athrow, 1) := dk_191 (dk_at dksX1_ensureSufficientInputBuffer_0 17 rfl rfl)
theorem dX1_ensureSufficientInputBuffer_18 : decode cX1_ensureSufficientInputBuffer 18 = .ok (.return_, 1) := dk_177 (dk_at dksX1_ensureSufficientInputBuffer_0 18 rfl rfl)
abbrev cX1_update_2 : ByteArray := prog_9_method_2_code
def yX1_update_2 : MethodName := ⟨RX1, "update", "(B)V"⟩
def dkwX1_update_2_0 : List UInt8 := [42, 180, 0, 27, 27, 185, 0, 34, 2, 0, 177]
abbrev dktX1_update_2_0 : List UInt8 := dkwX1_update_2_0 ++ []
theorem dksX1_update_2_0 : cX1_update_2.data.toList.drop 0 = dktX1_update_2_0 := by decide +kernel
theorem dX1_update_2_0 : decode cX1_update_2 0 = .ok (.aload_n 0, 1) := dk_42 (dk_at dksX1_update_2_0 0 rfl rfl)
theorem dX1_update_2_1 : decode cX1_update_2 1 = .ok (.getfield 27, 3) := dk_180 0 27 (dk_at dksX1_update_2_0 1 rfl rfl)
theorem dX1_update_2_4 : decode cX1_update_2 4 = .ok (.iload_n 1, 1) := dk_27 (dk_at dksX1_update_2_0 4 rfl rfl)
theorem dX1_update_2_5 : decode cX1_update_2 5 = .ok (.invokeinterface 34 2, 5) := by decide +kernel
theorem dX1_update_2_10 : decode cX1_update_2 10 = .ok (.return_, 1) := dk_177 (dk_at dksX1_update_2_0 10 rfl rfl)
abbrev cX1_doFinal : ByteArray := prog_9_method_4_code
def yX1_doFinal : MethodName := ⟨RX1, "doFinal", "([BI)I"⟩
def dkwX1_doFinal_0 : List UInt8 := [42, 43, 28, 182, 0, 64, 42, 43, 28, 182, 0, 67, 42, 182, 0, 70, 42, 180, 0, 73, 172]
abbrev dktX1_doFinal_0 : List UInt8 := dkwX1_doFinal_0 ++ []
theorem dksX1_doFinal_0 : cX1_doFinal.data.toList.drop 0 = dktX1_doFinal_0 := by decide +kernel
theorem dX1_doFinal_0 : decode cX1_doFinal 0 = .ok (.aload_n 0, 1) := dk_42 (dk_at dksX1_doFinal_0 0 rfl rfl)
theorem dX1_doFinal_1 : decode cX1_doFinal 1 = .ok (.aload_n 1, 1) := dk_43 (dk_at dksX1_doFinal_0 1 rfl rfl)
theorem dX1_doFinal_2 : decode cX1_doFinal 2 = .ok (.iload_n 2, 1) := dk_28 (dk_at dksX1_doFinal_0 2 rfl rfl)
theorem dX1_doFinal_3 : decode cX1_doFinal 3 = .ok (.invokevirtual 64, 3) := dk_182 0 64 (dk_at dksX1_doFinal_0 3 rfl rfl)
theorem dX1_doFinal_6 : decode cX1_doFinal 6 = .ok (.aload_n 0, 1) := dk_42 (dk_at dksX1_doFinal_0 6 rfl rfl)
theorem dX1_doFinal_7 : decode cX1_doFinal 7 = .ok (.aload_n 1, 1) := dk_43 (dk_at dksX1_doFinal_0 7 rfl rfl)
theorem dX1_doFinal_8 : decode cX1_doFinal 8 = .ok (.iload_n 2, 1) := dk_28 (dk_at dksX1_doFinal_0 8 rfl rfl)
theorem dX1_doFinal_9 : decode cX1_doFinal 9 = .ok (.invokevirtual 67, 3) := dk_182 0 67 (dk_at dksX1_doFinal_0 9 rfl rfl)
theorem dX1_doFinal_12 : decode cX1_doFinal 12 = .ok (.aload_n 0, 1) := dk_42 (dk_at dksX1_doFinal_0 12 rfl rfl)
theorem dX1_doFinal_13 : decode cX1_doFinal 13 = .ok (.invokevirtual 70, 3) := dk_182 0 70 (dk_at dksX1_doFinal_0 13 rfl rfl)
theorem dX1_doFinal_16 : decode cX1_doFinal 16 = .ok (.aload_n 0, 1) := dk_42 (dk_at dksX1_doFinal_0 16 rfl rfl)
theorem dX1_doFinal_17 : decode cX1_doFinal 17 = .ok (.getfield 73, 3) := dk_180 0 73 (dk_at dksX1_doFinal_0 17 rfl rfl)
theorem dX1_doFinal_20 : decode cX1_doFinal 20 = .ok (.ireturn, 1) := dk_172 (dk_at dksX1_doFinal_0 20 rfl rfl)
abbrev cX1_ensureSufficientOutputBuffer : ByteArray := prog_9_method_7_code
def yX1_ensureSufficientOutputBuffer : MethodName := ⟨RX1, "ensureSufficientOutputBuffer", "([BI)V"⟩
def dkwX1_ensureSufficientOutputBuffer_0 : List UInt8 := [42, 180, 0, 73, 28, 96, 43, 190, 164, 0, 13, 187, 0, 89, 89, 18, 91, 183, 0, 93, 191, 177]
abbrev dktX1_ensureSufficientOutputBuffer_0 : List UInt8 := dkwX1_ensureSufficientOutputBuffer_0 ++ []
theorem dksX1_ensureSufficientOutputBuffer_0 : cX1_ensureSufficientOutputBuffer.data.toList.drop 0 = dktX1_ensureSufficientOutputBuffer_0 := by decide +kernel
theorem dX1_ensureSufficientOutputBuffer_0 : decode cX1_ensureSufficientOutputBuffer 0 = .ok (.aload_n 0, 1) := dk_42 (dk_at dksX1_ensureSufficientOutputBuffer_0 0 rfl rfl)
theorem dX1_ensureSufficientOutputBuffer_1 : decode cX1_ensureSufficientOutputBuffer 1 = .ok (.getfield 73, 3) := dk_180 0 73 (dk_at dksX1_ensureSufficientOutputBuffer_0 1 rfl rfl)
theorem dX1_ensureSufficientOutputBuffer_4 : decode cX1_ensureSufficientOutputBuffer 4 = .ok (.iload_n 2, 1) := dk_28 (dk_at dksX1_ensureSufficientOutputBuffer_0 4 rfl rfl)
theorem dX1_ensureSufficientOutputBuffer_5 : decode cX1_ensureSufficientOutputBuffer 5 = .ok (.iadd, 1) := dk_96 (dk_at dksX1_ensureSufficientOutputBuffer_0 5 rfl rfl)
theorem dX1_ensureSufficientOutputBuffer_6 : decode cX1_ensureSufficientOutputBuffer 6 = .ok (.aload_n 1, 1) := dk_43 (dk_at dksX1_ensureSufficientOutputBuffer_0 6 rfl rfl)
theorem dX1_ensureSufficientOutputBuffer_7 : decode cX1_ensureSufficientOutputBuffer 7 = .ok (.arraylength, 1) := dk_190 (dk_at dksX1_ensureSufficientOutputBuffer_0 7 rfl rfl)
theorem dX1_ensureSufficientOutputBuffer_8 : decode cX1_ensureSufficientOutputBuffer 8 = .ok (.if_icmp .le 13, 3) := dk_164 0 13 (dk_at dksX1_ensureSufficientOutputBuffer_0 8 rfl rfl)
theorem dX1_ensureSufficientOutputBuffer_11 : decode cX1_ensureSufficientOutputBuffer 11 = .ok (.new 89, 3) := dk_187 0 89 (dk_at dksX1_ensureSufficientOutputBuffer_0 11 rfl rfl)
theorem dX1_ensureSufficientOutputBuffer_14 : decode cX1_ensureSufficientOutputBuffer 14 = .ok (.dup, 1) := dk_89 (dk_at dksX1_ensureSufficientOutputBuffer_0 14 rfl rfl)
theorem dX1_ensureSufficientOutputBuffer_15 : decode cX1_ensureSufficientOutputBuffer 15 = .ok (.ldc 91, 2) := dk_18 91 (dk_at dksX1_ensureSufficientOutputBuffer_0 15 rfl rfl)
theorem dX1_ensureSufficientOutputBuffer_17 : decode cX1_ensureSufficientOutputBuffer 17 = .ok (.invokespecial 93, 3) := dk_183 0 93 (dk_at dksX1_ensureSufficientOutputBuffer_0 17 rfl rfl)
theorem dX1_ensureSufficientOutputBuffer_20 : decode cX1_ensureSufficientOutputBuffer 20 = .ok (.athrow, 1) := dk_191 (dk_at dksX1_ensureSufficientOutputBuffer_0 20 rfl rfl)
theorem dX1_ensureSufficientOutputBuffer_21 : decode cX1_ensureSufficientOutputBuffer 21 = .ok (.return_, 1) := dk_177 (dk_at dksX1_ensureSufficientOutputBuffer_0 21 rfl rfl)
theorem q8 : (Jvm.Cond.initialized "BufferBaseDigest") ∈ lw_all := lw_g (lw_at lw_m1 2 rfl) rfl
theorem q51 : (Jvm.Cond.instanceMethod ({ cls := "BufferBaseDigest", name := "<init>", desc := "(LBufferBaseDigest$ProcessingBufferType;I)V" } : Jvm.MethodName)) ∈ lw_all := lw_g (lw_at lw_m1 45 rfl) rfl
theorem q52 : (Jvm.Cond.code ({ cls := "BufferBaseDigest", name := "<init>", desc := "(LBufferBaseDigest$ProcessingBufferType;I)V" } : Jvm.MethodName) prog_9_method_1_code (3 : Nat) (Option.none : Option Jvm.ClassFile.FieldType)) ∈ lw_all := lw_g (lw_at lw_m1 46 rfl) rfl
theorem q53 : (Jvm.Cond.methodLink "BufferBaseDigest" (1 : Nat) ({ cls := "java/lang/Object", name := "<init>", desc := "()V" } : Jvm.MethodName)) ∈ lw_all := lw_g (lw_at lw_m1 47 rfl) rfl
theorem q54 : (Jvm.Cond.classLink "BufferBaseDigest" (22 : Nat) "BufferBaseDigest$BufferedProcessor") ∈ lw_all := lw_g (lw_at lw_m1 48 rfl) rfl
theorem q56 : (Jvm.Cond.methodLinkNest "BufferBaseDigest" (24 : Nat) ({ cls := "BufferBaseDigest$BufferedProcessor", name := "<init>", desc := "(LBufferBaseDigest;)V" } : Jvm.MethodName) "BufferBaseDigest") ∈ lw_tbl := lw_at lw_m1 50 rfl
theorem q65 : (Jvm.Cond.classLink "BufferBaseDigest" (31 : Nat) "BufferBaseDigest$ImmediateProcessor") ∈ lw_all := lw_g (lw_at lw_m1 59 rfl) rfl
theorem q67 : (Jvm.Cond.methodLinkNest "BufferBaseDigest" (33 : Nat) ({ cls := "BufferBaseDigest$ImmediateProcessor", name := "<init>", desc := "(LBufferBaseDigest;)V" } : Jvm.MethodName) "BufferBaseDigest") ∈ lw_tbl := lw_at lw_m1 61 rfl
theorem q185 : (Jvm.Cond.declares ({ cls := "BufferBaseDigest", name := "reset", desc := "()V" } : Jvm.MethodName)) ∈ lw_tbl := lw_at lw_m1 179 rfl
theorem q188 : (Jvm.Cond.instanceMethod ({ cls := "BufferBaseDigest", name := "reset", desc := "()V" } : Jvm.MethodName)) ∈ lw_all := lw_g (lw_at lw_m1 182 rfl) rfl
theorem q189 : (Jvm.Cond.code ({ cls := "BufferBaseDigest", name := "reset", desc := "()V" } : Jvm.MethodName) prog_9_method_5_code (1 : Nat) (Option.none : Option Jvm.ClassFile.FieldType)) ∈ lw_all := lw_g (lw_at lw_m1 183 rfl) rfl
theorem q190 : (Jvm.Cond.methodLink "BufferBaseDigest" (76 : Nat) ({ cls := "OwnArrays", name := "clear", desc := "([B)V" } : Jvm.MethodName)) ∈ lw_all := lw_g (lw_at lw_m1 184 rfl) rfl
theorem q211 : (Jvm.Cond.fieldLink "BufferBaseDigest" (73 : Nat) "BufferBaseDigest" "DigestSize" "I") ∈ lw_all := lw_g (lw_at lw_m1 205 rfl) rfl
theorem q212 : (Jvm.Cond.fieldLink "BufferBaseDigest" (7 : Nat) "BufferBaseDigest" "BlockSize" "I") ∈ lw_all := lw_g (lw_at lw_m1 206 rfl) rfl
theorem q217 : (Jvm.Cond.fieldLink "BufferBaseDigest" (13 : Nat) "BufferBaseDigest" "m_buf" "[B") ∈ lw_all := lw_g (lw_at lw_m1 211 rfl) rfl
theorem q224 : (Jvm.Cond.fieldLink "BufferBaseDigest" (44 : Nat) "BufferBaseDigest" "m_bufPos" "I") ∈ lw_all := lw_g (lw_at lw_m1 218 rfl) rfl
theorem q229 : (Jvm.Cond.fieldLink "BufferBaseDigest" (27 : Nat) "BufferBaseDigest" "processor" "LBufferBaseDigest$ProcessingBuffer;") ∈ lw_all := lw_g (lw_at lw_m1 223 rfl) rfl
theorem q235 : (Jvm.Cond.soleField "BufferBaseDigest" "DigestSize") ∈ lw_all := lw_g (lw_at lw_m1 229 rfl) rfl
theorem q237 : (Jvm.Cond.soleField "BufferBaseDigest" "BlockSize") ∈ lw_all := lw_g (lw_at lw_m1 231 rfl) rfl
theorem q239 : (Jvm.Cond.soleField "BufferBaseDigest" "m_buf") ∈ lw_all := lw_g (lw_at lw_m1 233 rfl) rfl
theorem q241 : (Jvm.Cond.soleField "BufferBaseDigest" "m_bufPos") ∈ lw_all := lw_g (lw_at lw_m1 235 rfl) rfl
theorem q243 : (Jvm.Cond.soleField "BufferBaseDigest" "algorithmName") ∈ lw_all := lw_g (lw_at lw_m1 237 rfl) rfl
theorem q245 : (Jvm.Cond.soleField "BufferBaseDigest" "processor") ∈ lw_all := lw_g (lw_at lw_m1 239 rfl) rfl
theorem q298 : (Jvm.Cond.instanceMethod ({ cls := "BufferBaseDigest", name := "update", desc := "([BII)V" } : Jvm.MethodName)) ∈ lw_all := lw_g (lw_at lw_m2 52 rfl) rfl
theorem q299 : (Jvm.Cond.publicMethod ({ cls := "BufferBaseDigest", name := "update", desc := "([BII)V" } : Jvm.MethodName)) ∈ lw_tbl := lw_at lw_m2 53 rfl
theorem q300 : (Jvm.Cond.code ({ cls := "BufferBaseDigest", name := "update", desc := "([BII)V" } : Jvm.MethodName) prog_9_method_3_code (5 : Nat) (Option.none : Option Jvm.ClassFile.FieldType)) ∈ lw_all := lw_g (lw_at lw_m2 54 rfl) rfl
theorem q301 : (Jvm.Cond.methodLink "BufferBaseDigest" (40 : Nat) ({ cls := "BufferBaseDigest", name := "ensureSufficientInputBuffer", desc := "([BII)V" } : Jvm.MethodName)) ∈ lw_all := lw_g (lw_at lw_m2 55 rfl) rfl
theorem q302 : (Jvm.Cond.instanceMethod ({ cls := "BufferBaseDigest", name := "ensureSufficientInputBuffer", desc := "([BII)V" } : Jvm.MethodName)) ∈ lw_all := lw_g (lw_at lw_m2 56 rfl) rfl
theorem q303 : (Jvm.Cond.sameMethod "BufferBaseDigest" "BufferBaseDigest" "ensureSufficientInputBuffer" "([BII)V") ∈ lw_all := lw_g (lw_at lw_m2 57 rfl) rfl
theorem q305 : (Jvm.Cond.code ({ cls := "BufferBaseDigest", name := "ensureSufficientInputBuffer", desc := "([BII)V" } : Jvm.MethodName) prog_9_method_6_code (4 : Nat) (Option.none : Option Jvm.ClassFile.FieldType)) ∈ lw_all := lw_g (lw_at lw_m2 59 rfl) rfl
theorem q306 : (Jvm.Cond.classLink "BufferBaseDigest" (82 : Nat) "DataLengthException") ∈ lw_all := lw_g (lw_at lw_m2 60 rfl) rfl
theorem q331 : (Jvm.Cond.stringRef "BufferBaseDigest" (84 : Nat) "input buffer too short") ∈ lw_tbl := lw_at lw_m2 85 rfl
theorem q332 : (Jvm.Cond.methodLink "BufferBaseDigest" (86 : Nat) ({ cls := "DataLengthException", name := "<init>", desc := "(Ljava/lang/String;)V" } : Jvm.MethodName)) ∈ lw_all := lw_g (lw_at lw_m2 86 rfl) rfl
theorem q341 : (Jvm.Cond.interfaceEntry "BufferBaseDigest" (47 : Nat)) ∈ lw_tbl := lw_at lw_m2 95 rfl
theorem q342 : (Jvm.Cond.methodLink "BufferBaseDigest" (47 : Nat) ({ cls := "BufferBaseDigest$ProcessingBuffer", name := "isLengthWithinAvailableSpace", desc := "(II)Z" } : Jvm.MethodName)) ∈ lw_all := lw_g (lw_at lw_m2 96 rfl) rfl
theorem q357 : (Jvm.Cond.methodLink "BufferBaseDigest" (51 : Nat) ({ cls := "java/lang/System", name := "arraycopy", desc := "(Ljava/lang/Object;ILjava/lang/Object;II)V" } : Jvm.MethodName)) ∈ lw_all := lw_g (lw_at lw_m2 111 rfl) rfl
theorem q360 : (Jvm.Cond.methodLink "BufferBaseDigest" (57 : Nat) ({ cls := "BufferBaseDigest", name := "processBytes", desc := "([BI)V" } : Jvm.MethodName)) ∈ lw_all := lw_g (lw_at lw_m2 114 rfl) rfl
theorem q361 : (Jvm.Cond.declares ({ cls := "BufferBaseDigest", name := "processBytes", desc := "([BI)V" } : Jvm.MethodName)) ∈ lw_tbl := lw_at lw_m2 115 rfl
theorem q362 : (Jvm.Cond.sameMethod "BufferBaseDigest" "BufferBaseDigest" "processBytes" "([BI)V") ∈ lw_all := lw_g (lw_at lw_m2 116 rfl) rfl
theorem q406 : (Jvm.Cond.interfaceEntry "BufferBaseDigest" (61 : Nat)) ∈ lw_tbl := lw_at lw_m2 160 rfl
theorem q407 : (Jvm.Cond.methodLink "BufferBaseDigest" (61 : Nat) ({ cls := "BufferBaseDigest$ProcessingBuffer", name := "isLengthExceedingBlockSize", desc := "(II)Z" } : Jvm.MethodName)) ∈ lw_all := lw_g (lw_at lw_m2 161 rfl) rfl
theorem q430 : (Jvm.Cond.instanceMethod ({ cls := "BufferBaseDigest", name := "update", desc := "(B)V" } : Jvm.MethodName)) ∈ lw_all := lw_g (lw_at lw_m2 184 rfl) rfl
theorem q431 : (Jvm.Cond.publicMethod ({ cls := "BufferBaseDigest", name := "update", desc := "(B)V" } : Jvm.MethodName)) ∈ lw_tbl := lw_at lw_m2 185 rfl
theorem q432 : (Jvm.Cond.code ({ cls := "BufferBaseDigest", name := "update", desc := "(B)V" } : Jvm.MethodName) prog_9_method_2_code (2 : Nat) (Option.none : Option Jvm.ClassFile.FieldType)) ∈ lw_all := lw_g (lw_at lw_m2 186 rfl) rfl
theorem q433 : (Jvm.Cond.interfaceEntry "BufferBaseDigest" (34 : Nat)) ∈ lw_tbl := lw_at lw_m2 187 rfl
theorem q434 : (Jvm.Cond.methodLink "BufferBaseDigest" (34 : Nat) ({ cls := "BufferBaseDigest$ProcessingBuffer", name := "update", desc := "(B)V" } : Jvm.MethodName)) ∈ lw_all := lw_g (lw_at lw_m2 188 rfl) rfl
theorem q459 : (Jvm.Cond.instanceMethod ({ cls := "BufferBaseDigest", name := "doFinal", desc := "([BI)I" } : Jvm.MethodName)) ∈ lw_all := lw_g (lw_at lw_m2 213 rfl) rfl
theorem q460 : (Jvm.Cond.publicMethod ({ cls := "BufferBaseDigest", name := "doFinal", desc := "([BI)I" } : Jvm.MethodName)) ∈ lw_tbl := lw_at lw_m2 214 rfl
theorem q461 : (Jvm.Cond.code ({ cls := "BufferBaseDigest", name := "doFinal", desc := "([BI)I" } : Jvm.MethodName) prog_9_method_4_code (3 : Nat) (Option.some Jvm.ClassFile.FieldType.int)) ∈ lw_all := lw_g (lw_at lw_m2 215 rfl) rfl
theorem q462 : (Jvm.Cond.methodLink "BufferBaseDigest" (64 : Nat) ({ cls := "BufferBaseDigest", name := "ensureSufficientOutputBuffer", desc := "([BI)V" } : Jvm.MethodName)) ∈ lw_all := lw_g (lw_at lw_m2 216 rfl) rfl
theorem q463 : (Jvm.Cond.instanceMethod ({ cls := "BufferBaseDigest", name := "ensureSufficientOutputBuffer", desc := "([BI)V" } : Jvm.MethodName)) ∈ lw_all := lw_g (lw_at lw_m2 217 rfl) rfl
theorem q464 : (Jvm.Cond.sameMethod "BufferBaseDigest" "BufferBaseDigest" "ensureSufficientOutputBuffer" "([BI)V") ∈ lw_all := lw_g (lw_at lw_m2 218 rfl) rfl
theorem q466 : (Jvm.Cond.code ({ cls := "BufferBaseDigest", name := "ensureSufficientOutputBuffer", desc := "([BI)V" } : Jvm.MethodName) prog_9_method_7_code (3 : Nat) (Option.none : Option Jvm.ClassFile.FieldType)) ∈ lw_all := lw_g (lw_at lw_m2 220 rfl) rfl
theorem q467 : (Jvm.Cond.classLink "BufferBaseDigest" (89 : Nat) "OutputLengthException") ∈ lw_all := lw_g (lw_at lw_m2 221 rfl) rfl
theorem q477 : (Jvm.Cond.stringRef "BufferBaseDigest" (91 : Nat) "output buffer is too short") ∈ lw_tbl := lw_at lw_m2 231 rfl
theorem q478 : (Jvm.Cond.methodLink "BufferBaseDigest" (93 : Nat) ({ cls := "OutputLengthException", name := "<init>", desc := "(Ljava/lang/String;)V" } : Jvm.MethodName)) ∈ lw_all := lw_g (lw_at lw_m2 232 rfl) rfl
theorem q484 : (Jvm.Cond.methodLink "BufferBaseDigest" (67 : Nat) ({ cls := "BufferBaseDigest", name := "finish", desc := "([BI)V" } : Jvm.MethodName)) ∈ lw_all := lw_g (lw_at lw_m2 238 rfl) rfl
theorem q485 : (Jvm.Cond.declares ({ cls := "BufferBaseDigest", name := "finish", desc := "([BI)V" } : Jvm.MethodName)) ∈ lw_tbl := lw_at lw_m2 239 rfl
theorem q486 : (Jvm.Cond.sameMethod "BufferBaseDigest" "BufferBaseDigest" "finish" "([BI)V") ∈ lw_all := lw_g (lw_at lw_m3 0 rfl) rfl
theorem q537 : (Jvm.Cond.methodLink "BufferBaseDigest" (70 : Nat) ({ cls := "BufferBaseDigest", name := "reset", desc := "()V" } : Jvm.MethodName)) ∈ lw_all := lw_g (lw_at lw_m3 51 rfl) rfl
theorem q629 : (Jvm.Cond.sameMethod "BufferBaseDigest" "BufferBaseDigest" "reset" "()V") ∈ lw_all := lw_g (lw_at lw_m3 143 rfl) rfl
theorem q631 : (Jvm.Cond.fieldLinkNest "BufferBaseDigest" (17 : Nat) "BufferBaseDigest$ProcessingBufferType" "ord" "I" "BufferBaseDigest") ∈ lw_tbl := lw_at lw_m3 145 rfl

/-! AsconBaseDigest -/
set_option maxRecDepth 100000
def RX2 : String := "AsconBaseDigest"
abbrev cX2_init : ByteArray := prog_1_method_1_code
def yX2_init : MethodName := ⟨RX2, "<init>", "()V"⟩
def dkwX2_init_1 : List UInt8 := [184, 0, 31, 181, 0, 37, 42, 16, 32, 181, 0, 41, 177]
abbrev dktX2_init_1 : List UInt8 := dkwX2_init_1 ++ []
def dkwX2_init_0 : List UInt8 := [42, 178, 0, 1, 16, 8, 183, 0, 7, 42, 16, 12, 181, 0, 13, 42, 178, 0, 19, 184, 0, 25]
abbrev dktX2_init_0 : List UInt8 := dkwX2_init_0 ++ dktX2_init_1
theorem dksX2_init_0 : cX2_init.data.toList.drop 0 = dktX2_init_0 := by decide +kernel
theorem dksX2_init_1 : cX2_init.data.toList.drop 22 = dktX2_init_1 := dk_seg dksX2_init_0 22 rfl rfl
theorem dX2_init_0 : decode cX2_init 0 = .ok (.aload_n 0, 1) := dk_42 (dk_at dksX2_init_0 0 rfl rfl)
theorem dX2_init_1 : decode cX2_init 1 = .ok (.getstatic 1, 3) := dk_178 0 1 (dk_at dksX2_init_0 1 rfl rfl)
theorem dX2_init_4 : decode cX2_init 4 = .ok (.bipush 8, 2) := dk_16 8 (dk_at dksX2_init_0 4 rfl rfl)
theorem dX2_init_6 : decode cX2_init 6 = .ok (.invokespecial 7, 3) := dk_183 0 7 (dk_at dksX2_init_0 6 rfl rfl)
theorem dX2_init_9 : decode cX2_init 9 = .ok (.aload_n 0, 1) := dk_42 (dk_at dksX2_init_0 9 rfl rfl)
theorem dX2_init_10 : decode cX2_init 10 = .ok (.bipush 12, 2) := dk_16 12 (dk_at dksX2_init_0 10 rfl rfl)
theorem dX2_init_12 : decode cX2_init 12 = .ok (.putfield 13, 3) := dk_181 0 13 (dk_at dksX2_init_0 12 rfl rfl)
theorem dX2_init_15 : decode cX2_init 15 = .ok (.aload_n 0, 1) := dk_42 (dk_at dksX2_init_0 15 rfl rfl)
theorem dX2_init_16 : decode cX2_init 16 = .ok (.getstatic 19, 3) := dk_178 0 19 (dk_at dksX2_init_0 16 rfl rfl)
theorem dX2_init_19 : decode cX2_init 19 = .ok (.invokestatic 25, 3) := dk_184 0 25 (dk_at dksX2_init_0 19 rfl rfl)
theorem dX2_init_22 : decode cX2_init 22 = .ok (.invokestatic 31, 3) := dk_184 0 31 (dk_at dksX2_init_1 0 rfl rfl)
theorem dX2_init_25 : decode cX2_init 25 = .ok (.putfield 37, 3) := dk_181 0 37 (dk_at dksX2_init_1 3 rfl rfl)
theorem dX2_init_28 : decode cX2_init 28 = .ok (.aload_n 0, 1) := dk_42 (dk_at dksX2_init_1 6 rfl rfl)
theorem dX2_init_29 : decode cX2_init 29 = .ok (.bipush 32, 2) := dk_16 32 (dk_at dksX2_init_1 7 rfl rfl)
theorem dX2_init_31 : decode cX2_init 31 = .ok (.putfield 41, 3) := dk_181 0 41 (dk_at dksX2_init_1 9 rfl rfl)
theorem dX2_init_34 : decode cX2_init 34 = .ok (.return_, 1) := dk_177 (dk_at dksX2_init_1 12 rfl rfl)
abbrev cX2_processBytes : ByteArray := prog_1_method_7_code
def yX2_processBytes : MethodName := ⟨RX2, "processBytes", "([BI)V"⟩
def dkwX2_processBytes_1 : List UInt8 := [180, 0, 13, 182, 0, 54, 177]
abbrev dktX2_processBytes_1 : List UInt8 := dkwX2_processBytes_1 ++ []
def dkwX2_processBytes_0 : List UInt8 := [42, 180, 0, 37, 89, 180, 0, 44, 42, 43, 28, 182, 0, 50, 131, 181, 0, 44, 42, 180, 0, 37, 42]
abbrev dktX2_processBytes_0 : List UInt8 := dkwX2_processBytes_0 ++ dktX2_processBytes_1
theorem dksX2_processBytes_0 : cX2_processBytes.data.toList.drop 0 = dktX2_processBytes_0 := by decide +kernel
theorem dksX2_processBytes_1 : cX2_processBytes.data.toList.drop 23 = dktX2_processBytes_1 := dk_seg dksX2_processBytes_0 23 rfl rfl
theorem dX2_processBytes_0 : decode cX2_processBytes 0 = .ok (.aload_n 0, 1) := dk_42 (dk_at dksX2_processBytes_0 0 rfl rfl)
theorem dX2_processBytes_1 : decode cX2_processBytes 1 = .ok (.getfield 37, 3) := dk_180 0 37 (dk_at dksX2_processBytes_0 1 rfl rfl)
theorem dX2_processBytes_4 : decode cX2_processBytes 4 = .ok (.dup, 1) := dk_89 (dk_at dksX2_processBytes_0 4 rfl rfl)
theorem dX2_processBytes_5 : decode cX2_processBytes 5 = .ok (.getfield 44, 3) := dk_180 0 44 (dk_at dksX2_processBytes_0 5 rfl rfl)
theorem dX2_processBytes_8 : decode cX2_processBytes 8 = .ok (.aload_n 0, 1) := dk_42 (dk_at dksX2_processBytes_0 8 rfl rfl)
theorem dX2_processBytes_9 : decode cX2_processBytes 9 = .ok (.aload_n 1, 1) := dk_43 (dk_at dksX2_processBytes_0 9 rfl rfl)
theorem dX2_processBytes_10 : decode cX2_processBytes 10 = .ok (.iload_n 2, 1) := dk_28 (dk_at dksX2_processBytes_0 10 rfl rfl)
theorem dX2_processBytes_11 : decode cX2_processBytes 11 = .ok (.invokevirtual 50, 3) := dk_182 0 50 (dk_at dksX2_processBytes_0 11 rfl rfl)
theorem dX2_processBytes_14 : decode cX2_processBytes 14 = .ok (.lxor, 1) := dk_131 (dk_at dksX2_processBytes_0 14 rfl rfl)
theorem dX2_processBytes_15 : decode cX2_processBytes 15 = .ok (.putfield 44, 3) := dk_181 0 44 (dk_at dksX2_processBytes_0 15 rfl rfl)
theorem dX2_processBytes_18 : decode cX2_processBytes 18 = .ok (.aload_n 0, 1) := dk_42 (dk_at dksX2_processBytes_0 18 rfl rfl)
theorem dX2_processBytes_19 : decode cX2_processBytes 19 = .ok (.getfield 37, 3) := dk_180 0 37 (dk_at dksX2_processBytes_0 19 rfl rfl)
theorem dX2_processBytes_22 : decode cX2_processBytes 22 = .ok (.aload_n 0, 1) := dk_42 (dk_at dksX2_processBytes_0 22 rfl rfl)
theorem dX2_processBytes_23 : decode cX2_processBytes 23 = .ok (.getfield 13, 3) := dk_180 0 13 (dk_at dksX2_processBytes_1 0 rfl rfl)
theorem dX2_processBytes_26 : decode cX2_processBytes 26 = .ok (.invokevirtual 54, 3) := dk_182 0 54 (dk_at dksX2_processBytes_1 3 rfl rfl)
theorem dX2_processBytes_29 : decode cX2_processBytes 29 = .ok (.return_, 1) := dk_177 (dk_at dksX2_processBytes_1 6 rfl rfl)
abbrev cX2_finish : ByteArray := prog_1_method_8_code
def yX2_finish : MethodName := ⟨RX2, "finish", "([BI)V"⟩
def dkwX2_finish_0 : List UInt8 := [42, 182, 0, 57, 42, 43, 28, 42, 180, 0, 41, 182, 0, 61, 177]
abbrev dktX2_finish_0 : List UInt8 := dkwX2_finish_0 ++ []
theorem dksX2_finish_0 : cX2_finish.data.toList.drop 0 = dktX2_finish_0 := by decide +kernel
theorem dX2_finish_0 : decode cX2_finish 0 = .ok (.aload_n 0, 1) := dk_42 (dk_at dksX2_finish_0 0 rfl rfl)
theorem dX2_finish_1 : decode cX2_finish 1 = .ok (.invokevirtual 57, 3) := dk_182 0 57 (dk_at dksX2_finish_0 1 rfl rfl)
theorem dX2_finish_4 : decode cX2_finish 4 = .ok (.aload_n 0, 1) := dk_42 (dk_at dksX2_finish_0 4 rfl rfl)
theorem dX2_finish_5 : decode cX2_finish 5 = .ok (.aload_n 1, 1) := dk_43 (dk_at dksX2_finish_0 5 rfl rfl)
theorem dX2_finish_6 : decode cX2_finish 6 = .ok (.iload_n 2, 1) := dk_28 (dk_at dksX2_finish_0 6 rfl rfl)
theorem dX2_finish_7 : decode cX2_finish 7 = .ok (.aload_n 0, 1) := dk_42 (dk_at dksX2_finish_0 7 rfl rfl)
theorem dX2_finish_8 : decode cX2_finish 8 = .ok (.getfield 41, 3) := dk_180 0 41 (dk_at dksX2_finish_0 8 rfl rfl)
theorem dX2_finish_11 : decode cX2_finish 11 = .ok (.invokevirtual 61, 3) := dk_182 0 61 (dk_at dksX2_finish_0 11 rfl rfl)
theorem dX2_finish_14 : decode cX2_finish 14 = .ok (.return_, 1) := dk_177 (dk_at dksX2_finish_0 14 rfl rfl)
abbrev cX2_padAndAbsorb : ByteArray := prog_1_method_9_code
def yX2_padAndAbsorb : MethodName := ⟨RX2, "padAndAbsorb", "()V"⟩
def dkwX2_padAndAbsorb_1 : List UInt8 := [180, 0, 69, 182, 0, 75, 131, 131, 181, 0, 44, 42, 180, 0, 37, 16, 12, 182, 0, 54, 177]
abbrev dktX2_padAndAbsorb_1 : List UInt8 := dkwX2_padAndAbsorb_1 ++ []
def dkwX2_padAndAbsorb_0 : List UInt8 := [42, 180, 0, 37, 89, 180, 0, 44, 42, 42, 180, 0, 65, 3, 42, 180, 0, 69, 182, 0, 72, 42, 42]
abbrev dktX2_padAndAbsorb_0 : List UInt8 := dkwX2_padAndAbsorb_0 ++ dktX2_padAndAbsorb_1
theorem dksX2_padAndAbsorb_0 : cX2_padAndAbsorb.data.toList.drop 0 = dktX2_padAndAbsorb_0 := by decide +kernel
theorem dksX2_padAndAbsorb_1 : cX2_padAndAbsorb.data.toList.drop 23 = dktX2_padAndAbsorb_1 := dk_seg dksX2_padAndAbsorb_0 23 rfl rfl
theorem dX2_padAndAbsorb_0 : decode cX2_padAndAbsorb 0 = .ok (.aload_n 0, 1) := dk_42 (dk_at dksX2_padAndAbsorb_0 0 rfl rfl)
theorem dX2_padAndAbsorb_1 : decode cX2_padAndAbsorb 1 = .ok (.getfield 37, 3) := dk_180 0 37 (dk_at dksX2_padAndAbsorb_0 1 rfl rfl)
theorem dX2_padAndAbsorb_4 : decode cX2_padAndAbsorb 4 = .ok (.dup, 1) := dk_89 (dk_at dksX2_padAndAbsorb_0 4 rfl rfl)
theorem dX2_padAndAbsorb_5 : decode cX2_padAndAbsorb 5 = .ok (.getfield 44, 3) := dk_180 0 44 (dk_at dksX2_padAndAbsorb_0 5 rfl rfl)
theorem dX2_padAndAbsorb_8 : decode cX2_padAndAbsorb 8 = .ok (.aload_n 0, 1) := dk_42 (dk_at dksX2_padAndAbsorb_0 8 rfl rfl)
theorem dX2_padAndAbsorb_9 : decode cX2_padAndAbsorb 9 = .ok (.aload_n 0, 1) := dk_42 (dk_at dksX2_padAndAbsorb_0 9 rfl rfl)
theorem dX2_padAndAbsorb_10 : decode cX2_padAndAbsorb 10 = .ok (.getfield 65, 3) := dk_180 0 65 (dk_at dksX2_padAndAbsorb_0 10 rfl rfl)
theorem dX2_padAndAbsorb_13 : decode cX2_padAndAbsorb 13 = .ok (.iconst 0, 1) := dk_3 (dk_at dksX2_padAndAbsorb_0 13 rfl rfl)
theorem dX2_padAndAbsorb_14 : decode cX2_padAndAbsorb 14 = .ok (.aload_n 0, 1) := dk_42 (dk_at dksX2_padAndAbsorb_0 14 rfl rfl)
theorem dX2_padAndAbsorb_15 : decode cX2_padAndAbsorb 15 = .ok (.getfield 69, 3) := dk_180 0 69 (dk_at dksX2_padAndAbsorb_0 15 rfl rfl)
theorem dX2_padAndAbsorb_18 : decode cX2_padAndAbsorb 18 = .ok (.invokevirtual 72, 3) := dk_182 0 72 (dk_at dksX2_padAndAbsorb_0 18 rfl rfl)
theorem dX2_padAndAbsorb_21 : decode cX2_padAndAbsorb 21 = .ok (.aload_n 0, 1) := dk_42 (dk_at dksX2_padAndAbsorb_0 21 rfl rfl)
theorem dX2_padAndAbsorb_22 : decode cX2_padAndAbsorb 22 = .ok (.aload_n 0, 1) := dk_42 (dk_at dksX2_padAndAbsorb_0 22 rfl rfl)
theorem dX2_padAndAbsorb_23 : decode cX2_padAndAbsorb 23 = .ok (.getfield 69, 3) := dk_180 0 69 (dk_at dksX2_padAndAbsorb_1 0 rfl rfl)
theorem dX2_padAndAbsorb_26 : decode cX2_padAndAbsorb 26 = .ok (.invokevirtual 75, 3) := dk_182 0 75 (dk_at dksX2_padAndAbsorb_1 3 rfl rfl)
theorem dX2_padAndAbsorb_29 : decode cX2_padAndAbsorb 29 = .ok (.lxor, 1) := dk_131 (dk_at dksX2_padAndAbsorb_1 6 rfl rfl)
theorem dX2_padAndAbsorb_30 : decode cX2_padAndAbsorb 30 = .ok (.lxor, 1) := dk_131 (dk_at dksX2_padAndAbsorb_1 7 rfl rfl)
theorem dX2_padAndAbsorb_31 : decode cX2_padAndAbsorb 31 = .ok (.putfield 44, 3) := dk_181 0 44 (dk_at dksX2_padAndAbsorb_1 8 rfl rfl)
theorem dX2_padAndAbsorb_34 : decode cX2_padAndAbsorb 34 = .ok (.aload_n 0, 1) := dk_42 (dk_at dksX2_padAndAbsorb_1 11 rfl rfl)
theorem dX2_padAndAbsorb_35 : decode cX2_padAndAbsorb 35 = .ok (.getfield 37, 3) := dk_180 0 37 (dk_at dksX2_padAndAbsorb_1 12 rfl rfl)
theorem dX2_padAndAbsorb_38 : decode cX2_padAndAbsorb 38 = .ok (.bipush 12, 2) := dk_16 12 (dk_at dksX2_padAndAbsorb_1 15 rfl rfl)
theorem dX2_padAndAbsorb_40 : decode cX2_padAndAbsorb 40 = .ok (.invokevirtual 54, 3) := dk_182 0 54 (dk_at dksX2_padAndAbsorb_1 17 rfl rfl)
theorem dX2_padAndAbsorb_43 : decode cX2_padAndAbsorb 43 = .ok (.return_, 1) := dk_177 (dk_at dksX2_padAndAbsorb_1 20 rfl rfl)
abbrev cX2_squeeze : ByteArray := prog_1_method_10_code
def yX2_squeeze : MethodName := ⟨RX2, "squeeze", "([BII)V"⟩
def dkwX2_squeeze_2 : List UInt8 := [167, 255, 210, 42, 42, 180, 0, 37, 180, 0, 44, 43, 28, 29, 182, 0, 86, 177]
abbrev dktX2_squeeze_2 : List UInt8 := dkwX2_squeeze_2 ++ []
def dkwX2_squeeze_1 : List UInt8 := [180, 0, 37, 42, 180, 0, 13, 182, 0, 54, 28, 42, 180, 0, 79, 96, 61, 29, 42, 180, 0, 79, 100, 62]
abbrev dktX2_squeeze_1 : List UInt8 := dkwX2_squeeze_1 ++ dktX2_squeeze_2
def dkwX2_squeeze_0 : List UInt8 := [29, 42, 180, 0, 79, 164, 0, 44, 42, 42, 180, 0, 37, 180, 0, 44, 43, 28, 182, 0, 82, 42]
abbrev dktX2_squeeze_0 : List UInt8 := dkwX2_squeeze_0 ++ dktX2_squeeze_1
theorem dksX2_squeeze_0 : cX2_squeeze.data.toList.drop 0 = dktX2_squeeze_0 := by decide +kernel
theorem dksX2_squeeze_1 : cX2_squeeze.data.toList.drop 22 = dktX2_squeeze_1 := dk_seg dksX2_squeeze_0 22 rfl rfl
theorem dksX2_squeeze_2 : cX2_squeeze.data.toList.drop 46 = dktX2_squeeze_2 := dk_seg dksX2_squeeze_1 24 rfl rfl
theorem dX2_squeeze_0 : decode cX2_squeeze 0 = .ok (.iload_n 3, 1) := dk_29 (dk_at dksX2_squeeze_0 0 rfl rfl)
theorem dX2_squeeze_1 : decode cX2_squeeze 1 = .ok (.aload_n 0, 1) := dk_42 (dk_at dksX2_squeeze_0 1 rfl rfl)
theorem dX2_squeeze_2 : decode cX2_squeeze 2 = .ok (.getfield 79, 3) := dk_180 0 79 (dk_at dksX2_squeeze_0 2 rfl rfl)
theorem dX2_squeeze_5 : decode cX2_squeeze 5 = .ok (.if_icmp .le 44, 3) := dk_164 0 44 (dk_at dksX2_squeeze_0 5 rfl rfl)
theorem dX2_squeeze_8 : decode cX2_squeeze 8 = .ok (.aload_n 0, 1) := dk_42 (dk_at dksX2_squeeze_0 8 rfl rfl)
theorem dX2_squeeze_9 : decode cX2_squeeze 9 = .ok (.aload_n 0, 1) := dk_42 (dk_at dksX2_squeeze_0 9 rfl rfl)
theorem dX2_squeeze_10 : decode cX2_squeeze 10 = .ok (.getfield 37, 3) := dk_180 0 37 (dk_at dksX2_squeeze_0 10 rfl rfl)
theorem dX2_squeeze_13 : decode cX2_squeeze 13 = .ok (.getfield 44, 3) := dk_180 0 44 (dk_at dksX2_squeeze_0 13 rfl rfl)
theorem dX2_squeeze_16 : decode cX2_squeeze 16 = .ok (.aload_n 1, 1) := dk_43 (dk_at dksX2_squeeze_0 16 rfl rfl)
theorem dX2_squeeze_17 : decode cX2_squeeze 17 = .ok (.iload_n 2, 1) := dk_28 (dk_at dksX2_squeeze_0 17 rfl rfl)
theorem dX2_squeeze_18 : decode cX2_squeeze 18 = .ok (.invokevirtual 82, 3) := dk_182 0 82 (dk_at dksX2_squeeze_0 18 rfl rfl)
theorem dX2_squeeze_21 : decode cX2_squeeze 21 = .ok (.aload_n 0, 1) := dk_42 (dk_at dksX2_squeeze_0 21 rfl rfl)
theorem dX2_squeeze_22 : decode cX2_squeeze 22 = .ok (.getfield 37, 3) := dk_180 0 37 (dk_at dksX2_squeeze_1 0 rfl rfl)
theorem dX2_squeeze_25 : decode cX2_squeeze 25 = .ok (.aload_n 0, 1) := dk_42 (dk_at dksX2_squeeze_1 3 rfl rfl)
theorem dX2_squeeze_26 : decode cX2_squeeze 26 = .ok (.getfield 13, 3) := dk_180 0 13 (dk_at dksX2_squeeze_1 4 rfl rfl)
theorem dX2_squeeze_29 : decode cX2_squeeze 29 = .ok (.invokevirtual 54, 3) := dk_182 0 54 (dk_at dksX2_squeeze_1 7 rfl rfl)
theorem dX2_squeeze_32 : decode cX2_squeeze 32 = .ok (.iload_n 2, 1) := dk_28 (dk_at dksX2_squeeze_1 10 rfl rfl)
theorem dX2_squeeze_33 : decode cX2_squeeze 33 = .ok (.aload_n 0, 1) := dk_42 (dk_at dksX2_squeeze_1 11 rfl rfl)
theorem dX2_squeeze_34 : decode cX2_squeeze 34 = .ok (.getfield 79, 3) := dk_180 0 79 (dk_at dksX2_squeeze_1 12 rfl rfl)
theorem dX2_squeeze_37 : decode cX2_squeeze 37 = .ok (.iadd, 1) := dk_96 (dk_at dksX2_squeeze_1 15 rfl rfl)
theorem dX2_squeeze_38 : decode cX2_squeeze 38 = .ok (.istore_n 2, 1) := dk_61 (dk_at dksX2_squeeze_1 16 rfl rfl)
theorem dX2_squeeze_39 : decode cX2_squeeze 39 = .ok (.iload_n 3, 1) := dk_29 (dk_at dksX2_squeeze_1 17 rfl rfl)
theorem dX2_squeeze_40 : decode cX2_squeeze 40 = .ok (.aload_n 0, 1) := dk_42 (dk_at dksX2_squeeze_1 18 rfl rfl)
theorem dX2_squeeze_41 : decode cX2_squeeze 41 = .ok (.getfield 79, 3) := dk_180 0 79 (dk_at dksX2_squeeze_1 19 rfl rfl)
theorem dX2_squeeze_44 : decode cX2_squeeze 44 = .ok (.isub, 1) := dk_100 (dk_at dksX2_squeeze_1 22 rfl rfl)
theorem dX2_squeeze_45 : decode cX2_squeeze 45 = .ok (.istore_n 3, 1) := dk_62 (dk_at dksX2_squeeze_1 23 rfl rfl)
theorem dX2_squeeze_46 : decode cX2_squeeze 46 = .ok (.goto (-46), 3) := dk_167 255 210 (dk_at dksX2_squeeze_2 0 rfl rfl)
theorem dX2_squeeze_49 : decode cX2_squeeze 49 = .ok (.aload_n 0, 1) := dk_42 (dk_at dksX2_squeeze_2 3 rfl rfl)
theorem dX2_squeeze_50 : decode cX2_squeeze 50 = .ok (.aload_n 0, 1) := dk_42 (dk_at dksX2_squeeze_2 4 rfl rfl)
theorem dX2_squeeze_51 : decode cX2_squeeze 51 = .ok (.getfield 37, 3) := dk_180 0 37 (dk_at dksX2_squeeze_2 5 rfl rfl)
theorem dX2_squeeze_54 : decode cX2_squeeze 54 = .ok (.getfield 44, 3) := dk_180 0 44 (dk_at dksX2_squeeze_2 8 rfl rfl)
theorem dX2_squeeze_57 : decode cX2_squeeze 57 = .ok (.aload_n 1, 1) := dk_43 (dk_at dksX2_squeeze_2 11 rfl rfl)
theorem dX2_squeeze_58 : decode cX2_squeeze 58 = .ok (.iload_n 2, 1) := dk_28 (dk_at dksX2_squeeze_2 12 rfl rfl)
theorem dX2_squeeze_59 : decode cX2_squeeze 59 = .ok (.iload_n 3, 1) := dk_29 (dk_at dksX2_squeeze_2 13 rfl rfl)
theorem dX2_squeeze_60 : decode cX2_squeeze 60 = .ok (.invokevirtual 86, 3) := dk_182 0 86 (dk_at dksX2_squeeze_2 14 rfl rfl)
theorem dX2_squeeze_63 : decode cX2_squeeze 63 = .ok (.return_, 1) := dk_177 (dk_at dksX2_squeeze_2 17 rfl rfl)
theorem q9 : (Jvm.Cond.initialized "AsconBaseDigest") ∈ lw_all := lw_g (lw_at lw_m1 3 rfl) rfl
theorem q46 : (Jvm.Cond.instanceMethod ({ cls := "AsconBaseDigest", name := "<init>", desc := "()V" } : Jvm.MethodName)) ∈ lw_all := lw_g (lw_at lw_m1 40 rfl) rfl
theorem q47 : (Jvm.Cond.code ({ cls := "AsconBaseDigest", name := "<init>", desc := "()V" } : Jvm.MethodName) prog_1_method_1_code (1 : Nat) (Option.none : Option Jvm.ClassFile.FieldType)) ∈ lw_all := lw_g (lw_at lw_m1 41 rfl) rfl
theorem q48 : (Jvm.Cond.fieldLink "AsconBaseDigest" (1 : Nat) "BufferBaseDigest$ProcessingBufferType" "Immediate" "LBufferBaseDigest$ProcessingBufferType;") ∈ lw_all := lw_g (lw_at lw_m1 42 rfl) rfl
theorem q50 : (Jvm.Cond.methodLink "AsconBaseDigest" (7 : Nat) ({ cls := "BufferBaseDigest", name := "<init>", desc := "(LBufferBaseDigest$ProcessingBufferType;I)V" } : Jvm.MethodName)) ∈ lw_all := lw_g (lw_at lw_m1 44 rfl) rfl
theorem q75 : (Jvm.Cond.fieldLinkNest "AsconBaseDigest" (19 : Nat) "AsconBaseDigest$Friend" "INSTANCE" "LAsconBaseDigest$Friend;" "AsconBaseDigest") ∈ lw_tbl := lw_at lw_m1 69 rfl
theorem q77 : (Jvm.Cond.methodLink "AsconBaseDigest" (25 : Nat) ({ cls := "ISAPDigest$Friend", name := "getFriend", desc := "(LAsconBaseDigest$Friend;)LISAPDigest$Friend;" } : Jvm.MethodName)) ∈ lw_all := lw_g (lw_at lw_m1 71 rfl) rfl
theorem q149 : (Jvm.Cond.methodLink "AsconBaseDigest" (31 : Nat) ({ cls := "AsconPermutationFriend", name := "getAsconPermutation", desc := "(LISAPDigest$Friend;)LAsconPermutationFriend$AsconPermutation;" } : Jvm.MethodName)) ∈ lw_all := lw_g (lw_at lw_m1 143 rfl) rfl
theorem q162 : (Jvm.Cond.fieldLink "AsconBaseDigest" (44 : Nat) "AsconPermutationFriend$AsconPermutation" "x0" "J") ∈ lw_all := lw_g (lw_at lw_m1 156 rfl) rfl
theorem q184 : (Jvm.Cond.sameMethod "AsconBaseDigest" "BufferBaseDigest" "reset" "()V") ∈ lw_all := lw_g (lw_at lw_m1 178 rfl) rfl
theorem q187 : (Jvm.Cond.superclass "AsconBaseDigest" "BufferBaseDigest") ∈ lw_all := lw_g (lw_at lw_m1 181 rfl) rfl
theorem q205 : (Jvm.Cond.fieldLink "AsconBaseDigest" (37 : Nat) "AsconBaseDigest" "p" "LAsconPermutationFriend$AsconPermutation;") ∈ lw_all := lw_g (lw_at lw_m1 199 rfl) rfl
theorem q208 : (Jvm.Cond.fieldLink "AsconBaseDigest" (13 : Nat) "AsconBaseDigest" "ASCON_PB_ROUNDS" "I") ∈ lw_all := lw_g (lw_at lw_m1 202 rfl) rfl
theorem q209 : (Jvm.Cond.fieldLink "AsconBaseDigest" (41 : Nat) "AsconBaseDigest" "DigestSize" "I") ∈ lw_all := lw_g (lw_at lw_m1 203 rfl) rfl
theorem q210 : (Jvm.Cond.sameField "AsconBaseDigest" "BufferBaseDigest" "DigestSize" "I") ∈ lw_all := lw_g (lw_at lw_m1 204 rfl) rfl
theorem q215 : (Jvm.Cond.fieldLink "AsconBaseDigest" (79 : Nat) "AsconBaseDigest" "BlockSize" "I") ∈ lw_all := lw_g (lw_at lw_m1 209 rfl) rfl
theorem q216 : (Jvm.Cond.sameField "AsconBaseDigest" "BufferBaseDigest" "BlockSize" "I") ∈ lw_all := lw_g (lw_at lw_m1 210 rfl) rfl
theorem q220 : (Jvm.Cond.fieldLink "AsconBaseDigest" (65 : Nat) "AsconBaseDigest" "m_buf" "[B") ∈ lw_all := lw_g (lw_at lw_m1 214 rfl) rfl
theorem q221 : (Jvm.Cond.sameField "AsconBaseDigest" "BufferBaseDigest" "m_buf" "[B") ∈ lw_all := lw_g (lw_at lw_m1 215 rfl) rfl
theorem q225 : (Jvm.Cond.fieldLink "AsconBaseDigest" (69 : Nat) "AsconBaseDigest" "m_bufPos" "I") ∈ lw_all := lw_g (lw_at lw_m1 219 rfl) rfl
theorem q226 : (Jvm.Cond.sameField "AsconBaseDigest" "BufferBaseDigest" "m_bufPos" "I") ∈ lw_all := lw_g (lw_at lw_m1 220 rfl) rfl
theorem q231 : (Jvm.Cond.soleField "AsconBaseDigest" "p") ∈ lw_all := lw_g (lw_at lw_m1 225 rfl) rfl
theorem q233 : (Jvm.Cond.soleField "AsconBaseDigest" "ASCON_PB_ROUNDS") ∈ lw_all := lw_g (lw_at lw_m1 227 rfl) rfl
theorem q364 : (Jvm.Cond.instanceMethod ({ cls := "AsconBaseDigest", name := "processBytes", desc := "([BI)V" } : Jvm.MethodName)) ∈ lw_all := lw_g (lw_at lw_m2 118 rfl) rfl
theorem q365 : (Jvm.Cond.code ({ cls := "AsconBaseDigest", name := "processBytes", desc := "([BI)V" } : Jvm.MethodName) prog_1_method_7_code (3 : Nat) (Option.none : Option Jvm.ClassFile.FieldType)) ∈ lw_all := lw_g (lw_at lw_m2 119 rfl) rfl
theorem q366 : (Jvm.Cond.methodLink "AsconBaseDigest" (50 : Nat) ({ cls := "AsconBaseDigest", name := "loadBytes", desc := "([BI)J" } : Jvm.MethodName)) ∈ lw_all := lw_g (lw_at lw_m2 120 rfl) rfl
theorem q367 : (Jvm.Cond.declares ({ cls := "AsconBaseDigest", name := "loadBytes", desc := "([BI)J" } : Jvm.MethodName)) ∈ lw_tbl := lw_at lw_m2 121 rfl
theorem q368 : (Jvm.Cond.sameMethod "AsconBaseDigest" "AsconBaseDigest" "loadBytes" "([BI)J") ∈ lw_all := lw_g (lw_at lw_m2 122 rfl) rfl
theorem q379 : (Jvm.Cond.methodLink "AsconBaseDigest" (54 : Nat) ({ cls := "AsconPermutationFriend$AsconPermutation", name := "p", desc := "(I)V" } : Jvm.MethodName)) ∈ lw_all := lw_g (lw_at lw_m2 133 rfl) rfl
theorem q488 : (Jvm.Cond.instanceMethod ({ cls := "AsconBaseDigest", name := "finish", desc := "([BI)V" } : Jvm.MethodName)) ∈ lw_all := lw_g (lw_at lw_m3 2 rfl) rfl
theorem q489 : (Jvm.Cond.code ({ cls := "AsconBaseDigest", name := "finish", desc := "([BI)V" } : Jvm.MethodName) prog_1_method_8_code (3 : Nat) (Option.none : Option Jvm.ClassFile.FieldType)) ∈ lw_all := lw_g (lw_at lw_m3 3 rfl) rfl
theorem q490 : (Jvm.Cond.methodLink "AsconBaseDigest" (57 : Nat) ({ cls := "AsconBaseDigest", name := "padAndAbsorb", desc := "()V" } : Jvm.MethodName)) ∈ lw_all := lw_g (lw_at lw_m3 4 rfl) rfl
theorem q491 : (Jvm.Cond.instanceMethod ({ cls := "AsconBaseDigest", name := "padAndAbsorb", desc := "()V" } : Jvm.MethodName)) ∈ lw_all := lw_g (lw_at lw_m3 5 rfl) rfl
theorem q492 : (Jvm.Cond.sameMethod "AsconBaseDigest" "AsconBaseDigest" "padAndAbsorb" "()V") ∈ lw_all := lw_g (lw_at lw_m3 6 rfl) rfl
theorem q494 : (Jvm.Cond.code ({ cls := "AsconBaseDigest", name := "padAndAbsorb", desc := "()V" } : Jvm.MethodName) prog_1_method_9_code (1 : Nat) (Option.none : Option Jvm.ClassFile.FieldType)) ∈ lw_all := lw_g (lw_at lw_m3 8 rfl) rfl
theorem q495 : (Jvm.Cond.methodLink "AsconBaseDigest" (72 : Nat) ({ cls := "AsconBaseDigest", name := "loadBytes", desc := "([BII)J" } : Jvm.MethodName)) ∈ lw_all := lw_g (lw_at lw_m3 9 rfl) rfl
theorem q496 : (Jvm.Cond.declares ({ cls := "AsconBaseDigest", name := "loadBytes", desc := "([BII)J" } : Jvm.MethodName)) ∈ lw_tbl := lw_at lw_m3 10 rfl
theorem q497 : (Jvm.Cond.sameMethod "AsconBaseDigest" "AsconBaseDigest" "loadBytes" "([BII)J") ∈ lw_all := lw_g (lw_at lw_m3 11 rfl) rfl
theorem q505 : (Jvm.Cond.methodLink "AsconBaseDigest" (75 : Nat) ({ cls := "AsconBaseDigest", name := "pad", desc := "(I)J" } : Jvm.MethodName)) ∈ lw_all := lw_g (lw_at lw_m3 19 rfl) rfl
theorem q506 : (Jvm.Cond.declares ({ cls := "AsconBaseDigest", name := "pad", desc := "(I)J" } : Jvm.MethodName)) ∈ lw_tbl := lw_at lw_m3 20 rfl
theorem q507 : (Jvm.Cond.sameMethod "AsconBaseDigest" "AsconBaseDigest" "pad" "(I)J") ∈ lw_all := lw_g (lw_at lw_m3 21 rfl) rfl
theorem q511 : (Jvm.Cond.methodLink "AsconBaseDigest" (61 : Nat) ({ cls := "AsconBaseDigest", name := "squeeze", desc := "([BII)V" } : Jvm.MethodName)) ∈ lw_all := lw_g (lw_at lw_m3 25 rfl) rfl
theorem q512 : (Jvm.Cond.instanceMethod ({ cls := "AsconBaseDigest", name := "squeeze", desc := "([BII)V" } : Jvm.MethodName)) ∈ lw_all := lw_g (lw_at lw_m3 26 rfl) rfl
theorem q513 : (Jvm.Cond.sameMethod "AsconBaseDigest" "AsconBaseDigest" "squeeze" "([BII)V") ∈ lw_all := lw_g (lw_at lw_m3 27 rfl) rfl
theorem q515 : (Jvm.Cond.code ({ cls := "AsconBaseDigest", name := "squeeze", desc := "([BII)V" } : Jvm.MethodName) prog_1_method_10_code (4 : Nat) (Option.none : Option Jvm.ClassFile.FieldType)) ∈ lw_all := lw_g (lw_at lw_m3 29 rfl) rfl
theorem q516 : (Jvm.Cond.methodLink "AsconBaseDigest" (82 : Nat) ({ cls := "AsconBaseDigest", name := "setBytes", desc := "(J[BI)V" } : Jvm.MethodName)) ∈ lw_all := lw_g (lw_at lw_m3 30 rfl) rfl
theorem q517 : (Jvm.Cond.declares ({ cls := "AsconBaseDigest", name := "setBytes", desc := "(J[BI)V" } : Jvm.MethodName)) ∈ lw_tbl := lw_at lw_m3 31 rfl
theorem q518 : (Jvm.Cond.sameMethod "AsconBaseDigest" "AsconBaseDigest" "setBytes" "(J[BI)V") ∈ lw_all := lw_g (lw_at lw_m3 32 rfl) rfl
theorem q528 : (Jvm.Cond.methodLink "AsconBaseDigest" (86 : Nat) ({ cls := "AsconBaseDigest", name := "setBytes", desc := "(J[BII)V" } : Jvm.MethodName)) ∈ lw_all := lw_g (lw_at lw_m3 42 rfl) rfl
theorem q529 : (Jvm.Cond.declares ({ cls := "AsconBaseDigest", name := "setBytes", desc := "(J[BII)V" } : Jvm.MethodName)) ∈ lw_tbl := lw_at lw_m3 43 rfl
theorem q530 : (Jvm.Cond.sameMethod "AsconBaseDigest" "AsconBaseDigest" "setBytes" "(J[BII)V") ∈ lw_all := lw_g (lw_at lw_m3 44 rfl) rfl

/-! AsconHash256 -/
set_option maxRecDepth 100000
def RX3 : String := "AsconHash256"
def TX3 : u_T := fun k => match k with
  | 0 => ("BufferBaseDigest", "DigestSize", "I", false)
  | 1 => ("BufferBaseDigest", "BlockSize", "I", false)
  | 2 => ("BufferBaseDigest", "m_buf", "[B", false)
  | 3 => ("BufferBaseDigest", "m_bufPos", "I", false)
  | 4 => ("BufferBaseDigest", "algorithmName", "Ljava/lang/String;", false)
  | 5 => ("BufferBaseDigest", "processor", "LBufferBaseDigest$ProcessingBuffer;", false)
  | 6 => ("AsconBaseDigest", "p", "LAsconPermutationFriend$AsconPermutation;", false)
  | _ => ("AsconBaseDigest", "ASCON_PB_ROUNDS", "I", false)
def tyX3 : Nat → FieldType := fun k => match k with
  | 0 => .int
  | 1 => .int
  | 2 => .array .byte
  | 3 => .int
  | 4 => .object "java/lang/String"
  | 5 => .object "BufferBaseDigest$ProcessingBuffer"
  | 6 => .object "AsconPermutationFriend$AsconPermutation"
  | _ => .int
abbrev wsX30 : List Cond := u_ws RX3 TX3 8
theorem nmX3 : ∀ a, a < 8 → ∀ b, b < 8 → a ≠ b → (TX3 a).2.1 ≠ (TX3 b).2.1 := by decide +kernel
theorem tyX3_ok : ∀ k, k < 8 → parseFieldDescriptor (TX3 k).2.2.1 = some (tyX3 k) := by decide +kernel
abbrev cX3_init : ByteArray := prog_3_method_1_code
def yX3_init : MethodName := ⟨RX3, "<init>", "()V"⟩
def dkwX3_init_0 : List UInt8 := [42, 183, 0, 1, 42, 18, 7, 181, 0, 9, 42, 182, 0, 15, 177]
abbrev dktX3_init_0 : List UInt8 := dkwX3_init_0 ++ []
theorem dksX3_init_0 : cX3_init.data.toList.drop 0 = dktX3_init_0 := by decide +kernel
theorem dX3_init_0 : decode cX3_init 0 = .ok (.aload_n 0, 1) := dk_42 (dk_at dksX3_init_0 0 rfl rfl)
theorem dX3_init_1 : decode cX3_init 1 = .ok (.invokespecial 1, 3) := dk_183 0 1 (dk_at dksX3_init_0 1 rfl rfl)
theorem dX3_init_4 : decode cX3_init 4 = .ok (.aload_n 0, 1) := dk_42 (dk_at dksX3_init_0 4 rfl rfl)
theorem dX3_init_5 : decode cX3_init 5 = .ok (.ldc 7, 2) := dk_18 7 (dk_at dksX3_init_0 5 rfl rfl)
theorem dX3_init_7 : decode cX3_init 7 = .ok (.putfield 9, 3) := dk_181 0 9 (dk_at dksX3_init_0 7 rfl rfl)
theorem dX3_init_10 : decode cX3_init 10 = .ok (.aload_n 0, 1) := dk_42 (dk_at dksX3_init_0 10 rfl rfl)
theorem dX3_init_11 : decode cX3_init 11 = .ok (.invokevirtual 15, 3) := dk_182 0 15 (dk_at dksX3_init_0 11 rfl rfl)
theorem dX3_init_14 : decode cX3_init 14 = .ok (.return_, 1) := dk_177 (dk_at dksX3_init_0 14 rfl rfl)
abbrev cX3_reset : ByteArray := prog_3_method_7_code
def yX3_reset : MethodName := ⟨RX3, "reset", "()V"⟩
def dkwX3_reset_1 : List UInt8 := [182, 0, 51, 177]
abbrev dktX3_reset_1 : List UInt8 := dkwX3_reset_1 ++ []
def dkwX3_reset_0 : List UInt8 := [42, 183, 0, 36, 42, 180, 0, 37, 20, 0, 41, 20, 0, 43, 20, 0, 45, 20, 0, 47, 20, 0, 49]
abbrev dktX3_reset_0 : List UInt8 := dkwX3_reset_0 ++ dktX3_reset_1
theorem dksX3_reset_0 : cX3_reset.data.toList.drop 0 = dktX3_reset_0 := by decide +kernel
theorem dksX3_reset_1 : cX3_reset.data.toList.drop 23 = dktX3_reset_1 := dk_seg dksX3_reset_0 23 rfl rfl
theorem dX3_reset_0 : decode cX3_reset 0 = .ok (.aload_n 0, 1) := dk_42 (dk_at dksX3_reset_0 0 rfl rfl)
theorem dX3_reset_1 : decode cX3_reset 1 = .ok (.invokespecial 36, 3) := dk_183 0 36 (dk_at dksX3_reset_0 1 rfl rfl)
theorem dX3_reset_4 : decode cX3_reset 4 = .ok (.aload_n 0, 1) := dk_42 (dk_at dksX3_reset_0 4 rfl rfl)
theorem dX3_reset_5 : decode cX3_reset 5 = .ok (.getfield 37, 3) := dk_180 0 37 (dk_at dksX3_reset_0 5 rfl rfl)
theorem dX3_reset_8 : decode cX3_reset 8 = .ok (.ldc2_w 41, 3) := dk_20 0 41 (dk_at dksX3_reset_0 8 rfl rfl)
theorem dX3_reset_11 : decode cX3_reset 11 = .ok (.ldc2_w 43, 3) := dk_20 0 43 (dk_at dksX3_reset_0 11 rfl rfl)
theorem dX3_reset_14 : decode cX3_reset 14 = .ok (.ldc2_w 45, 3) := dk_20 0 45 (dk_at dksX3_reset_0 14 rfl rfl)
theorem dX3_reset_17 : decode cX3_reset 17 = .ok (.ldc2_w 47, 3) := dk_20 0 47 (dk_at dksX3_reset_0 17 rfl rfl)
theorem dX3_reset_20 : decode cX3_reset 20 = .ok (.ldc2_w 49, 3) := dk_20 0 49 (dk_at dksX3_reset_0 20 rfl rfl)
theorem dX3_reset_23 : decode cX3_reset 23 = .ok (.invokevirtual 51, 3) := dk_182 0 51 (dk_at dksX3_reset_1 0 rfl rfl)
theorem dX3_reset_26 : decode cX3_reset 26 = .ok (.return_, 1) := dk_177 (dk_at dksX3_reset_1 3 rfl rfl)
abbrev cX3_loadBytes : ByteArray := prog_3_method_3_code
def yX3_loadBytes : MethodName := ⟨RX3, "loadBytes", "([BI)J"⟩
def dkwX3_loadBytes_0 : List UInt8 := [43, 28, 184, 0, 18, 173]
abbrev dktX3_loadBytes_0 : List UInt8 := dkwX3_loadBytes_0 ++ []
theorem dksX3_loadBytes_0 : cX3_loadBytes.data.toList.drop 0 = dktX3_loadBytes_0 := by decide +kernel
theorem dX3_loadBytes_0 : decode cX3_loadBytes 0 = .ok (.aload_n 1, 1) := dk_43 (dk_at dksX3_loadBytes_0 0 rfl rfl)
theorem dX3_loadBytes_1 : decode cX3_loadBytes 1 = .ok (.iload_n 2, 1) := dk_28 (dk_at dksX3_loadBytes_0 1 rfl rfl)
theorem dX3_loadBytes_2 : decode cX3_loadBytes 2 = .ok (.invokestatic 18, 3) := dk_184 0 18 (dk_at dksX3_loadBytes_0 2 rfl rfl)
theorem dX3_loadBytes_5 : decode cX3_loadBytes 5 = .ok (.lreturn, 1) := dk_173 (dk_at dksX3_loadBytes_0 5 rfl rfl)
abbrev cX3_loadBytes_2 : ByteArray := prog_3_method_4_code
def yX3_loadBytes_2 : MethodName := ⟨RX3, "loadBytes", "([BII)J"⟩
def dkwX3_loadBytes_2_0 : List UInt8 := [29, 157, 0, 7, 9, 167, 0, 9, 43, 28, 29, 184, 0, 24, 173]
abbrev dktX3_loadBytes_2_0 : List UInt8 := dkwX3_loadBytes_2_0 ++ []
theorem dksX3_loadBytes_2_0 : cX3_loadBytes_2.data.toList.drop 0 = dktX3_loadBytes_2_0 := by decide +kernel
theorem dX3_loadBytes_2_0 : decode cX3_loadBytes_2 0 = .ok (.iload_n 3, 1) := dk_29 (dk_at dksX3_loadBytes_2_0 0 rfl rfl)
theorem dX3_loadBytes_2_1 : decode cX3_loadBytes_2 1 = .ok (.ifCond .gt 7, 3) := dk_157 0 7 (dk_at dksX3_loadBytes_2_0 1 rfl rfl)
theorem dX3_loadBytes_2_4 : decode cX3_loadBytes_2 4 = .ok (.lconst 0, 1) := dk_9 (dk_at dksX3_loadBytes_2_0 4 rfl rfl)
theorem dX3_loadBytes_2_5 : decode cX3_loadBytes_2 5 = .ok (.goto 9, 3) := dk_167 0 9 (dk_at dksX3_loadBytes_2_0 5 rfl rfl)
theorem dX3_loadBytes_2_8 : decode cX3_loadBytes_2 8 = .ok (.aload_n 1, 1) := dk_43 (dk_at dksX3_loadBytes_2_0 8 rfl rfl)
theorem dX3_loadBytes_2_9 : decode cX3_loadBytes_2 9 = .ok (.iload_n 2, 1) := dk_28 (dk_at dksX3_loadBytes_2_0 9 rfl rfl)
theorem dX3_loadBytes_2_10 : decode cX3_loadBytes_2 10 = .ok (.iload_n 3, 1) := dk_29 (dk_at dksX3_loadBytes_2_0 10 rfl rfl)
theorem dX3_loadBytes_2_11 : decode cX3_loadBytes_2 11 = .ok (.invokestatic 24, 3) := dk_184 0 24 (dk_at dksX3_loadBytes_2_0 11 rfl rfl)
theorem dX3_loadBytes_2_14 : decode cX3_loadBytes_2 14 = .ok (.lreturn, 1) := dk_173 (dk_at dksX3_loadBytes_2_0 14 rfl rfl)
abbrev cX3_pad : ByteArray := prog_3_method_2_code
def yX3_pad : MethodName := ⟨RX3, "pad", "(I)J"⟩
def dkwX3_pad_0 : List UInt8 := [10, 27, 6, 120, 121, 173]
abbrev dktX3_pad_0 : List UInt8 := dkwX3_pad_0 ++ []
theorem dksX3_pad_0 : cX3_pad.data.toList.drop 0 = dktX3_pad_0 := by decide +kernel
theorem dX3_pad_0 : decode cX3_pad 0 = .ok (.lconst 1, 1) := dk_10 (dk_at dksX3_pad_0 0 rfl rfl)
theorem dX3_pad_1 : decode cX3_pad 1 = .ok (.iload_n 1, 1) := dk_27 (dk_at dksX3_pad_0 1 rfl rfl)
theorem dX3_pad_2 : decode cX3_pad 2 = .ok (.iconst 3, 1) := dk_6 (dk_at dksX3_pad_0 2 rfl rfl)
theorem dX3_pad_3 : decode cX3_pad 3 = .ok (.ishl, 1) := dk_120 (dk_at dksX3_pad_0 3 rfl rfl)
theorem dX3_pad_4 : decode cX3_pad 4 = .ok (.lshl, 1) := dk_121 (dk_at dksX3_pad_0 4 rfl rfl)
theorem dX3_pad_5 : decode cX3_pad 5 = .ok (.lreturn, 1) := dk_173 (dk_at dksX3_pad_0 5 rfl rfl)
abbrev cX3_setBytes : ByteArray := prog_3_method_5_code
def yX3_setBytes : MethodName := ⟨RX3, "setBytes", "(J[BI)V"⟩
def dkwX3_setBytes_0 : List UInt8 := [31, 45, 21, 4, 184, 0, 28, 177]
abbrev dktX3_setBytes_0 : List UInt8 := dkwX3_setBytes_0 ++ []
theorem dksX3_setBytes_0 : cX3_setBytes.data.toList.drop 0 = dktX3_setBytes_0 := by decide +kernel
theorem dX3_setBytes_0 : decode cX3_setBytes 0 = .ok (.lload_n 1, 1) := dk_31 (dk_at dksX3_setBytes_0 0 rfl rfl)
theorem dX3_setBytes_1 : decode cX3_setBytes 1 = .ok (.aload_n 3, 1) := dk_45 (dk_at dksX3_setBytes_0 1 rfl rfl)
theorem dX3_setBytes_2 : decode cX3_setBytes 2 = .ok (.iload 4, 2) := dk_21 4 (dk_at dksX3_setBytes_0 2 rfl rfl)
theorem dX3_setBytes_4 : decode cX3_setBytes 4 = .ok (.invokestatic 28, 3) := dk_184 0 28 (dk_at dksX3_setBytes_0 4 rfl rfl)
theorem dX3_setBytes_7 : decode cX3_setBytes 7 = .ok (.return_, 1) := dk_177 (dk_at dksX3_setBytes_0 7 rfl rfl)
abbrev cX3_setBytes_2 : ByteArray := prog_3_method_6_code
def yX3_setBytes_2 : MethodName := ⟨RX3, "setBytes", "(J[BII)V"⟩
def dkwX3_setBytes_2_0 : List UInt8 := [21, 5, 158, 0, 12, 31, 45, 21, 4, 21, 5, 184, 0, 32, 177]
abbrev dktX3_setBytes_2_0 : List UInt8 := dkwX3_setBytes_2_0 ++ []
theorem dksX3_setBytes_2_0 : cX3_setBytes_2.data.toList.drop 0 = dktX3_setBytes_2_0 := by decide +kernel
theorem dX3_setBytes_2_0 : decode cX3_setBytes_2 0 = .ok (.iload 5, 2) := dk_21 5 (dk_at dksX3_setBytes_2_0 0 rfl rfl)
theorem dX3_setBytes_2_2 : decode cX3_setBytes_2 2 = .ok (.ifCond .le 12, 3) := dk_158 0 12 (dk_at dksX3_setBytes_2_0 2 rfl rfl)
theorem dX3_setBytes_2_5 : decode cX3_setBytes_2 5 = .ok (.lload_n 1, 1) := dk_31 (dk_at dksX3_setBytes_2_0 5 rfl rfl)
theorem dX3_setBytes_2_6 : decode cX3_setBytes_2 6 = .ok (.aload_n 3, 1) := dk_45 (dk_at dksX3_setBytes_2_0 6 rfl rfl)
theorem dX3_setBytes_2_7 : decode cX3_setBytes_2 7 = .ok (.iload 4, 2) := dk_21 4 (dk_at dksX3_setBytes_2_0 7 rfl rfl)
theorem dX3_setBytes_2_9 : decode cX3_setBytes_2 9 = .ok (.iload 5, 2) := dk_21 5 (dk_at dksX3_setBytes_2_0 9 rfl rfl)
theorem dX3_setBytes_2_11 : decode cX3_setBytes_2 11 = .ok (.invokestatic 32, 3) := dk_184 0 32 (dk_at dksX3_setBytes_2_0 11 rfl rfl)
theorem dX3_setBytes_2_14 : decode cX3_setBytes_2 14 = .ok (.return_, 1) := dk_177 (dk_at dksX3_setBytes_2_0 14 rfl rfl)
theorem q10 : (Jvm.Cond.initialized "AsconHash256") ∈ lw_all := lw_g (lw_at lw_m1 4 rfl) rfl
theorem q41 : (Jvm.Cond.instantiable "AsconHash256" (8 : Nat)) ∈ lw_all := lw_g (lw_at lw_m1 35 rfl) rfl
theorem q43 : (Jvm.Cond.instanceMethod ({ cls := "AsconHash256", name := "<init>", desc := "()V" } : Jvm.MethodName)) ∈ lw_all := lw_g (lw_at lw_m1 37 rfl) rfl
theorem q44 : (Jvm.Cond.code ({ cls := "AsconHash256", name := "<init>", desc := "()V" } : Jvm.MethodName) prog_3_method_1_code (1 : Nat) (Option.none : Option Jvm.ClassFile.FieldType)) ∈ lw_all := lw_g (lw_at lw_m1 38 rfl) rfl
theorem q45 : (Jvm.Cond.methodLink "AsconHash256" (1 : Nat) ({ cls := "AsconBaseDigest", name := "<init>", desc := "()V" } : Jvm.MethodName)) ∈ lw_all := lw_g (lw_at lw_m1 39 rfl) rfl
theorem q178 : (Jvm.Cond.stringRef "AsconHash256" (7 : Nat) "Ascon-Hash256") ∈ lw_tbl := lw_at lw_m1 172 rfl
theorem q179 : (Jvm.Cond.methodLink "AsconHash256" (15 : Nat) ({ cls := "AsconHash256", name := "reset", desc := "()V" } : Jvm.MethodName)) ∈ lw_all := lw_g (lw_at lw_m1 173 rfl) rfl
theorem q180 : (Jvm.Cond.instanceMethod ({ cls := "AsconHash256", name := "reset", desc := "()V" } : Jvm.MethodName)) ∈ lw_all := lw_g (lw_at lw_m1 174 rfl) rfl
theorem q181 : (Jvm.Cond.selects "AsconHash256" ({ cls := "AsconHash256", name := "reset", desc := "()V" } : Jvm.MethodName) ({ cls := "AsconHash256", name := "reset", desc := "()V" } : Jvm.MethodName)) ∈ lw_all := lw_g (lw_at lw_m1 175 rfl) rfl
theorem q182 : (Jvm.Cond.code ({ cls := "AsconHash256", name := "reset", desc := "()V" } : Jvm.MethodName) prog_3_method_7_code (1 : Nat) (Option.none : Option Jvm.ClassFile.FieldType)) ∈ lw_all := lw_g (lw_at lw_m1 176 rfl) rfl
theorem q183 : (Jvm.Cond.methodLink "AsconHash256" (36 : Nat) ({ cls := "AsconBaseDigest", name := "reset", desc := "()V" } : Jvm.MethodName)) ∈ lw_all := lw_g (lw_at lw_m1 177 rfl) rfl
theorem q186 : (Jvm.Cond.superclass "AsconHash256" "AsconBaseDigest") ∈ lw_all := lw_g (lw_at lw_m1 180 rfl) rfl
theorem q196 : (Jvm.Cond.constantLong "AsconHash256" (41 : Nat) (-7269279749984954751 : Int64)) ∈ lw_all := lw_g (lw_at lw_m1 190 rfl) rfl
theorem q197 : (Jvm.Cond.constantLong "AsconHash256" (43 : Nat) (5459383224871899602 : Int64)) ∈ lw_all := lw_g (lw_at lw_m1 191 rfl) rfl
theorem q198 : (Jvm.Cond.constantLong "AsconHash256" (45 : Nat) (-5880230600644446182 : Int64)) ∈ lw_all := lw_g (lw_at lw_m1 192 rfl) rfl
theorem q199 : (Jvm.Cond.constantLong "AsconHash256" (47 : Nat) (4359436768738168243 : Int64)) ∈ lw_all := lw_g (lw_at lw_m1 193 rfl) rfl
theorem q200 : (Jvm.Cond.constantLong "AsconHash256" (49 : Nat) (1899470422303676269 : Int64)) ∈ lw_all := lw_g (lw_at lw_m1 194 rfl) rfl
theorem q201 : (Jvm.Cond.methodLink "AsconHash256" (51 : Nat) ({ cls := "AsconPermutationFriend$AsconPermutation", name := "set", desc := "(JJJJJ)V" } : Jvm.MethodName)) ∈ lw_all := lw_g (lw_at lw_m1 195 rfl) rfl
theorem q206 : (Jvm.Cond.fieldLink "AsconHash256" (37 : Nat) "AsconHash256" "p" "LAsconPermutationFriend$AsconPermutation;") ∈ lw_all := lw_g (lw_at lw_m1 200 rfl) rfl
theorem q207 : (Jvm.Cond.sameField "AsconHash256" "AsconBaseDigest" "p" "LAsconPermutationFriend$AsconPermutation;") ∈ lw_all := lw_g (lw_at lw_m1 201 rfl) rfl
theorem q227 : (Jvm.Cond.fieldLink "AsconHash256" (9 : Nat) "AsconHash256" "algorithmName" "Ljava/lang/String;") ∈ lw_all := lw_g (lw_at lw_m1 221 rfl) rfl
theorem q228 : (Jvm.Cond.sameField "AsconHash256" "BufferBaseDigest" "algorithmName" "Ljava/lang/String;") ∈ lw_all := lw_g (lw_at lw_m1 222 rfl) rfl
theorem q230 : (Jvm.Cond.lays "AsconHash256" "AsconBaseDigest" "p" "LAsconPermutationFriend$AsconPermutation;") ∈ lw_all := lw_g (lw_at lw_m1 224 rfl) rfl
theorem q232 : (Jvm.Cond.lays "AsconHash256" "AsconBaseDigest" "ASCON_PB_ROUNDS" "I") ∈ lw_all := lw_g (lw_at lw_m1 226 rfl) rfl
theorem q234 : (Jvm.Cond.lays "AsconHash256" "BufferBaseDigest" "DigestSize" "I") ∈ lw_all := lw_g (lw_at lw_m1 228 rfl) rfl
theorem q236 : (Jvm.Cond.lays "AsconHash256" "BufferBaseDigest" "BlockSize" "I") ∈ lw_all := lw_g (lw_at lw_m1 230 rfl) rfl
theorem q238 : (Jvm.Cond.lays "AsconHash256" "BufferBaseDigest" "m_buf" "[B") ∈ lw_all := lw_g (lw_at lw_m1 232 rfl) rfl
theorem q240 : (Jvm.Cond.lays "AsconHash256" "BufferBaseDigest" "m_bufPos" "I") ∈ lw_all := lw_g (lw_at lw_m1 234 rfl) rfl
theorem q242 : (Jvm.Cond.lays "AsconHash256" "BufferBaseDigest" "algorithmName" "Ljava/lang/String;") ∈ lw_all := lw_g (lw_at lw_m1 236 rfl) rfl
theorem q244 : (Jvm.Cond.lays "AsconHash256" "BufferBaseDigest" "processor" "LBufferBaseDigest$ProcessingBuffer;") ∈ lw_all := lw_g (lw_at lw_m1 238 rfl) rfl
theorem q295 : (Jvm.Cond.castable "AsconHash256" "Digest") ∈ lw_tbl := lw_at lw_m2 49 rfl
theorem q296 : (Jvm.Cond.selects "AsconHash256" ({ cls := "Digest", name := "update", desc := "([BII)V" } : Jvm.MethodName) ({ cls := "BufferBaseDigest", name := "update", desc := "([BII)V" } : Jvm.MethodName)) ∈ lw_all := lw_g (lw_at lw_m2 50 rfl) rfl
theorem q297 : (Jvm.Cond.unhidden "AsconHash256" "update" "([BII)V") ∈ lw_tbl := lw_at lw_m2 51 rfl
theorem q304 : (Jvm.Cond.selects "AsconHash256" ({ cls := "BufferBaseDigest", name := "ensureSufficientInputBuffer", desc := "([BII)V" } : Jvm.MethodName) ({ cls := "BufferBaseDigest", name := "ensureSufficientInputBuffer", desc := "([BII)V" } : Jvm.MethodName)) ∈ lw_all := lw_g (lw_at lw_m2 58 rfl) rfl
theorem q363 : (Jvm.Cond.selects "AsconHash256" ({ cls := "BufferBaseDigest", name := "processBytes", desc := "([BI)V" } : Jvm.MethodName) ({ cls := "AsconBaseDigest", name := "processBytes", desc := "([BI)V" } : Jvm.MethodName)) ∈ lw_all := lw_g (lw_at lw_m2 117 rfl) rfl
theorem q369 : (Jvm.Cond.selects "AsconHash256" ({ cls := "AsconBaseDigest", name := "loadBytes", desc := "([BI)J" } : Jvm.MethodName) ({ cls := "AsconHash256", name := "loadBytes", desc := "([BI)J" } : Jvm.MethodName)) ∈ lw_all := lw_g (lw_at lw_m2 123 rfl) rfl
theorem q370 : (Jvm.Cond.instanceMethod ({ cls := "AsconHash256", name := "loadBytes", desc := "([BI)J" } : Jvm.MethodName)) ∈ lw_all := lw_g (lw_at lw_m2 124 rfl) rfl
theorem q371 : (Jvm.Cond.code ({ cls := "AsconHash256", name := "loadBytes", desc := "([BI)J" } : Jvm.MethodName) prog_3_method_3_code (3 : Nat) (Option.some Jvm.ClassFile.FieldType.long)) ∈ lw_all := lw_g (lw_at lw_m2 125 rfl) rfl
theorem q372 : (Jvm.Cond.methodLink "AsconHash256" (18 : Nat) ({ cls := "Pack", name := "littleEndianToLong", desc := "([BI)J" } : Jvm.MethodName)) ∈ lw_all := lw_g (lw_at lw_m2 126 rfl) rfl
theorem q428 : (Jvm.Cond.selects "AsconHash256" ({ cls := "Digest", name := "update", desc := "(B)V" } : Jvm.MethodName) ({ cls := "BufferBaseDigest", name := "update", desc := "(B)V" } : Jvm.MethodName)) ∈ lw_all := lw_g (lw_at lw_m2 182 rfl) rfl
theorem q429 : (Jvm.Cond.unhidden "AsconHash256" "update" "(B)V") ∈ lw_tbl := lw_at lw_m2 183 rfl
theorem q457 : (Jvm.Cond.selects "AsconHash256" ({ cls := "Digest", name := "doFinal", desc := "([BI)I" } : Jvm.MethodName) ({ cls := "BufferBaseDigest", name := "doFinal", desc := "([BI)I" } : Jvm.MethodName)) ∈ lw_all := lw_g (lw_at lw_m2 211 rfl) rfl
theorem q458 : (Jvm.Cond.unhidden "AsconHash256" "doFinal" "([BI)I") ∈ lw_tbl := lw_at lw_m2 212 rfl
theorem q465 : (Jvm.Cond.selects "AsconHash256" ({ cls := "BufferBaseDigest", name := "ensureSufficientOutputBuffer", desc := "([BI)V" } : Jvm.MethodName) ({ cls := "BufferBaseDigest", name := "ensureSufficientOutputBuffer", desc := "([BI)V" } : Jvm.MethodName)) ∈ lw_all := lw_g (lw_at lw_m2 219 rfl) rfl
theorem q487 : (Jvm.Cond.selects "AsconHash256" ({ cls := "BufferBaseDigest", name := "finish", desc := "([BI)V" } : Jvm.MethodName) ({ cls := "AsconBaseDigest", name := "finish", desc := "([BI)V" } : Jvm.MethodName)) ∈ lw_all := lw_g (lw_at lw_m3 1 rfl) rfl
theorem q493 : (Jvm.Cond.selects "AsconHash256" ({ cls := "AsconBaseDigest", name := "padAndAbsorb", desc := "()V" } : Jvm.MethodName) ({ cls := "AsconBaseDigest", name := "padAndAbsorb", desc := "()V" } : Jvm.MethodName)) ∈ lw_all := lw_g (lw_at lw_m3 7 rfl) rfl
theorem q498 : (Jvm.Cond.selects "AsconHash256" ({ cls := "AsconBaseDigest", name := "loadBytes", desc := "([BII)J" } : Jvm.MethodName) ({ cls := "AsconHash256", name := "loadBytes", desc := "([BII)J" } : Jvm.MethodName)) ∈ lw_all := lw_g (lw_at lw_m3 12 rfl) rfl
theorem q499 : (Jvm.Cond.instanceMethod ({ cls := "AsconHash256", name := "loadBytes", desc := "([BII)J" } : Jvm.MethodName)) ∈ lw_all := lw_g (lw_at lw_m3 13 rfl) rfl
theorem q500 : (Jvm.Cond.code ({ cls := "AsconHash256", name := "loadBytes", desc := "([BII)J" } : Jvm.MethodName) prog_3_method_4_code (4 : Nat) (Option.some Jvm.ClassFile.FieldType.long)) ∈ lw_all := lw_g (lw_at lw_m3 14 rfl) rfl
theorem q501 : (Jvm.Cond.methodLink "AsconHash256" (24 : Nat) ({ cls := "Pack", name := "littleEndianToLong_Low", desc := "([BII)J" } : Jvm.MethodName)) ∈ lw_all := lw_g (lw_at lw_m3 15 rfl) rfl
theorem q508 : (Jvm.Cond.selects "AsconHash256" ({ cls := "AsconBaseDigest", name := "pad", desc := "(I)J" } : Jvm.MethodName) ({ cls := "AsconHash256", name := "pad", desc := "(I)J" } : Jvm.MethodName)) ∈ lw_all := lw_g (lw_at lw_m3 22 rfl) rfl
theorem q509 : (Jvm.Cond.instanceMethod ({ cls := "AsconHash256", name := "pad", desc := "(I)J" } : Jvm.MethodName)) ∈ lw_all := lw_g (lw_at lw_m3 23 rfl) rfl
theorem q510 : (Jvm.Cond.code ({ cls := "AsconHash256", name := "pad", desc := "(I)J" } : Jvm.MethodName) prog_3_method_2_code (2 : Nat) (Option.some Jvm.ClassFile.FieldType.long)) ∈ lw_all := lw_g (lw_at lw_m3 24 rfl) rfl
theorem q514 : (Jvm.Cond.selects "AsconHash256" ({ cls := "AsconBaseDigest", name := "squeeze", desc := "([BII)V" } : Jvm.MethodName) ({ cls := "AsconBaseDigest", name := "squeeze", desc := "([BII)V" } : Jvm.MethodName)) ∈ lw_all := lw_g (lw_at lw_m3 28 rfl) rfl
theorem q519 : (Jvm.Cond.selects "AsconHash256" ({ cls := "AsconBaseDigest", name := "setBytes", desc := "(J[BI)V" } : Jvm.MethodName) ({ cls := "AsconHash256", name := "setBytes", desc := "(J[BI)V" } : Jvm.MethodName)) ∈ lw_all := lw_g (lw_at lw_m3 33 rfl) rfl
theorem q520 : (Jvm.Cond.instanceMethod ({ cls := "AsconHash256", name := "setBytes", desc := "(J[BI)V" } : Jvm.MethodName)) ∈ lw_all := lw_g (lw_at lw_m3 34 rfl) rfl
theorem q521 : (Jvm.Cond.code ({ cls := "AsconHash256", name := "setBytes", desc := "(J[BI)V" } : Jvm.MethodName) prog_3_method_5_code (5 : Nat) (Option.none : Option Jvm.ClassFile.FieldType)) ∈ lw_all := lw_g (lw_at lw_m3 35 rfl) rfl
theorem q522 : (Jvm.Cond.methodLink "AsconHash256" (28 : Nat) ({ cls := "Pack", name := "longToLittleEndian", desc := "(J[BI)V" } : Jvm.MethodName)) ∈ lw_all := lw_g (lw_at lw_m3 36 rfl) rfl
theorem q531 : (Jvm.Cond.selects "AsconHash256" ({ cls := "AsconBaseDigest", name := "setBytes", desc := "(J[BII)V" } : Jvm.MethodName) ({ cls := "AsconHash256", name := "setBytes", desc := "(J[BII)V" } : Jvm.MethodName)) ∈ lw_all := lw_g (lw_at lw_m3 45 rfl) rfl
theorem q532 : (Jvm.Cond.instanceMethod ({ cls := "AsconHash256", name := "setBytes", desc := "(J[BII)V" } : Jvm.MethodName)) ∈ lw_all := lw_g (lw_at lw_m3 46 rfl) rfl
theorem q533 : (Jvm.Cond.code ({ cls := "AsconHash256", name := "setBytes", desc := "(J[BII)V" } : Jvm.MethodName) prog_3_method_6_code (6 : Nat) (Option.none : Option Jvm.ClassFile.FieldType)) ∈ lw_all := lw_g (lw_at lw_m3 47 rfl) rfl
theorem q534 : (Jvm.Cond.methodLink "AsconHash256" (32 : Nat) ({ cls := "Pack", name := "longToLittleEndian_Low", desc := "(J[BII)V" } : Jvm.MethodName)) ∈ lw_all := lw_g (lw_at lw_m3 48 rfl) rfl
theorem q546 : (Jvm.Cond.selects "AsconHash256" ({ cls := "Digest", name := "reset", desc := "()V" } : Jvm.MethodName) ({ cls := "AsconHash256", name := "reset", desc := "()V" } : Jvm.MethodName)) ∈ lw_all := lw_g (lw_at lw_m3 60 rfl) rfl
theorem q547 : (Jvm.Cond.unhidden "AsconHash256" "reset" "()V") ∈ lw_tbl := lw_at lw_m3 61 rfl
theorem q548 : (Jvm.Cond.publicMethod ({ cls := "AsconHash256", name := "reset", desc := "()V" } : Jvm.MethodName)) ∈ lw_tbl := lw_at lw_m3 62 rfl
theorem q630 : (Jvm.Cond.selects "AsconHash256" ({ cls := "BufferBaseDigest", name := "reset", desc := "()V" } : Jvm.MethodName) ({ cls := "AsconHash256", name := "reset", desc := "()V" } : Jvm.MethodName)) ∈ lw_all := lw_g (lw_at lw_m3 144 rfl) rfl
theorem in_X3 : ∀ w ∈ wsX30, w ∈ lw_all := lw_in wsX30 [234, 236, 238, 240, 242, 244, 230, 232] (by decide +kernel) (by decide +kernel)

/-! BufferBaseDigest$ImmediateProcessor -/
set_option maxRecDepth 100000
def RX5 : String := "BufferBaseDigest$ImmediateProcessor"
def TX5 : u_T := fun k => match k with
  | _ => ("BufferBaseDigest$ImmediateProcessor", "this$0", "LBufferBaseDigest;", true)
def tyX5 : Nat → FieldType := fun k => match k with
  | _ => .object "BufferBaseDigest"
abbrev wsX50 : List Cond := u_ws RX5 TX5 1
theorem nmX5 : ∀ a, a < 1 → ∀ b, b < 1 → a ≠ b → (TX5 a).2.1 ≠ (TX5 b).2.1 := by decide +kernel
theorem tyX5_ok : ∀ k, k < 1 → parseFieldDescriptor (TX5 k).2.2.1 = some (tyX5 k) := by decide +kernel
abbrev cX5_init : ByteArray := prog_11_method_1_code
def yX5_init : MethodName := ⟨RX5, "<init>", "(LBufferBaseDigest;)V"⟩
def dkwX5_init_0 : List UInt8 := [42, 43, 181, 0, 1, 42, 183, 0, 7, 177]
abbrev dktX5_init_0 : List UInt8 := dkwX5_init_0 ++ []
theorem dksX5_init_0 : cX5_init.data.toList.drop 0 = dktX5_init_0 := by decide +kernel
theorem dX5_init_0 : decode cX5_init 0 = .ok (.aload_n 0, 1) := dk_42 (dk_at dksX5_init_0 0 rfl rfl)
theorem dX5_init_1 : decode cX5_init 1 = .ok (.aload_n 1, 1) := dk_43 (dk_at dksX5_init_0 1 rfl rfl)
theorem dX5_init_2 : decode cX5_init 2 = .ok (.putfield 1, 3) := dk_181 0 1 (dk_at dksX5_init_0 2 rfl rfl)
theorem dX5_init_5 : decode cX5_init 5 = .ok (.aload_n 0, 1) := dk_42 (dk_at dksX5_init_0 5 rfl rfl)
theorem dX5_init_6 : decode cX5_init 6 = .ok (.invokespecial 7, 3) := dk_183 0 7 (dk_at dksX5_init_0 6 rfl rfl)
theorem dX5_init_9 : decode cX5_init 9 = .ok (.return_, 1) := dk_177 (dk_at dksX5_init_0 9 rfl rfl)
abbrev cX5_isLengthWithinAvailableSpace : ByteArray := prog_11_method_3_code
def yX5_isLengthWithinAvailableSpace : MethodName := ⟨RX5, "isLengthWithinAvailableSpace", "(II)Z"⟩
def dkwX5_isLengthWithinAvailableSpace_0 : List UInt8 := [27, 28, 162, 0, 7, 4, 167, 0, 4, 3, 172]
abbrev dktX5_isLengthWithinAvailableSpace_0 : List UInt8 := dkwX5_isLengthWithinAvailableSpace_0 ++ []
theorem dksX5_isLengthWithinAvailableSpace_0 : cX5_isLengthWithinAvailableSpace.data.toList.drop 0 = dktX5_isLengthWithinAvailableSpace_0 := by decide +kernel
theorem dX5_isLengthWithinAvailableSpace_0 : decode cX5_isLengthWithinAvailableSpace 0 = .ok (.iload_n 1, 1) := dk_27 (dk_at dksX5_isLengthWithinAvailableSpace_0 0 rfl rfl)
theorem dX5_isLengthWithinAvailableSpace_1 : decode cX5_isLengthWithinAvailableSpace 1 = .ok (.iload_n 2, 1) := dk_28 (dk_at dksX5_isLengthWithinAvailableSpace_0 1 rfl rfl)
theorem dX5_isLengthWithinAvailableSpace_2 : decode cX5_isLengthWithinAvailableSpace 2 = .ok (.if_icmp .ge 7, 3) := dk_162 0 7 (dk_at dksX5_isLengthWithinAvailableSpace_0 2 rfl rfl)
theorem dX5_isLengthWithinAvailableSpace_5 : decode cX5_isLengthWithinAvailableSpace 5 = .ok (.iconst 1, 1) := dk_4 (dk_at dksX5_isLengthWithinAvailableSpace_0 5 rfl rfl)
theorem dX5_isLengthWithinAvailableSpace_6 : decode cX5_isLengthWithinAvailableSpace 6 = .ok (.goto 4, 3) := dk_167 0 4 (dk_at dksX5_isLengthWithinAvailableSpace_0 6 rfl rfl)
theorem dX5_isLengthWithinAvailableSpace_9 : decode cX5_isLengthWithinAvailableSpace 9 = .ok (.iconst 0, 1) := dk_3 (dk_at dksX5_isLengthWithinAvailableSpace_0 9 rfl rfl)
theorem dX5_isLengthWithinAvailableSpace_10 : decode cX5_isLengthWithinAvailableSpace 10 = .ok (.ireturn, 1) := dk_172 (dk_at dksX5_isLengthWithinAvailableSpace_0 10 rfl rfl)
abbrev cX5_isLengthExceedingBlockSize : ByteArray := prog_11_method_4_code
def yX5_isLengthExceedingBlockSize : MethodName := ⟨RX5, "isLengthExceedingBlockSize", "(II)Z"⟩
def dkwX5_isLengthExceedingBlockSize_0 : List UInt8 := [27, 28, 161, 0, 7, 4, 167, 0, 4, 3, 172]
abbrev dktX5_isLengthExceedingBlockSize_0 : List UInt8 := dkwX5_isLengthExceedingBlockSize_0 ++ []
theorem dksX5_isLengthExceedingBlockSize_0 : cX5_isLengthExceedingBlockSize.data.toList.drop 0 = dktX5_isLengthExceedingBlockSize_0 := by decide +kernel
theorem dX5_isLengthExceedingBlockSize_0 : decode cX5_isLengthExceedingBlockSize 0 = .ok (.iload_n 1, 1) := dk_27 (dk_at dksX5_isLengthExceedingBlockSize_0 0 rfl rfl)
theorem dX5_isLengthExceedingBlockSize_1 : decode cX5_isLengthExceedingBlockSize 1 = .ok (.iload_n 2, 1) := dk_28 (dk_at dksX5_isLengthExceedingBlockSize_0 1 rfl rfl)
theorem dX5_isLengthExceedingBlockSize_2 : decode cX5_isLengthExceedingBlockSize 2 = .ok (.if_icmp .lt 7, 3) := dk_161 0 7 (dk_at dksX5_isLengthExceedingBlockSize_0 2 rfl rfl)
theorem dX5_isLengthExceedingBlockSize_5 : decode cX5_isLengthExceedingBlockSize 5 = .ok (.iconst 1, 1) := dk_4 (dk_at dksX5_isLengthExceedingBlockSize_0 5 rfl rfl)
theorem dX5_isLengthExceedingBlockSize_6 : decode cX5_isLengthExceedingBlockSize 6 = .ok (.goto 4, 3) := dk_167 0 4 (dk_at dksX5_isLengthExceedingBlockSize_0 6 rfl rfl)
theorem dX5_isLengthExceedingBlockSize_9 : decode cX5_isLengthExceedingBlockSize 9 = .ok (.iconst 0, 1) := dk_3 (dk_at dksX5_isLengthExceedingBlockSize_0 9 rfl rfl)
theorem dX5_isLengthExceedingBlockSize_10 : decode cX5_isLengthExceedingBlockSize 10 = .ok (.ireturn, 1) := dk_172 (dk_at dksX5_isLengthExceedingBlockSize_0 10 rfl rfl)
abbrev cX5_update : ByteArray := prog_11_method_2_code
def yX5_update : MethodName := ⟨RX5, "update", "(B)V"⟩
def dkwX5_update_2 : List UInt8 := [180, 0, 13, 3, 182, 0, 26, 42, 180, 0, 1, 3, 181, 0, 19, 177]
abbrev dktX5_update_2 : List UInt8 := dkwX5_update_2 ++ []
def dkwX5_update_1 : List UInt8 := [4, 96, 90, 181, 0, 19, 42, 180, 0, 1, 180, 0, 23, 160, 0, 26, 42, 180, 0, 1, 42, 180, 0, 1]
abbrev dktX5_update_1 : List UInt8 := dkwX5_update_1 ++ dktX5_update_2
def dkwX5_update_0 : List UInt8 := [42, 180, 0, 1, 180, 0, 13, 42, 180, 0, 1, 180, 0, 19, 27, 84, 42, 180, 0, 1, 89, 180, 0, 19]
abbrev dktX5_update_0 : List UInt8 := dkwX5_update_0 ++ dktX5_update_1
theorem dksX5_update_0 : cX5_update.data.toList.drop 0 = dktX5_update_0 := by decide +kernel
theorem dksX5_update_1 : cX5_update.data.toList.drop 24 = dktX5_update_1 := dk_seg dksX5_update_0 24 rfl rfl
theorem dksX5_update_2 : cX5_update.data.toList.drop 48 = dktX5_update_2 := dk_seg dksX5_update_1 24 rfl rfl
theorem dX5_update_0 : decode cX5_update 0 = .ok (.aload_n 0, 1) := dk_42 (dk_at dksX5_update_0 0 rfl rfl)
theorem dX5_update_1 : decode cX5_update 1 = .ok (.getfield 1, 3) := dk_180 0 1 (dk_at dksX5_update_0 1 rfl rfl)
theorem dX5_update_4 : decode cX5_update 4 = .ok (.getfield 13, 3) := dk_180 0 13 (dk_at dksX5_update_0 4 rfl rfl)
theorem dX5_update_7 : decode cX5_update 7 = .ok (.aload_n 0, 1) := dk_42 (dk_at dksX5_update_0 7 rfl rfl)
theorem dX5_update_8 : decode cX5_update 8 = .ok (.getfield 1, 3) := dk_180 0 1 (dk_at dksX5_update_0 8 rfl rfl)
theorem dX5_update_11 : decode cX5_update 11 = .ok (.getfield 19, 3) := dk_180 0 19 (dk_at dksX5_update_0 11 rfl rfl)
theorem dX5_update_14 : decode cX5_update 14 = .ok (.iload_n 1, 1) := dk_27 (dk_at dksX5_update_0 14 rfl rfl)
theorem dX5_update_15 : decode cX5_update 15 = .ok (.bastore, 1) := dk_84 (dk_at dksX5_update_0 15 rfl rfl)
theorem dX5_update_16 : decode cX5_update 16 = .ok (.aload_n 0, 1) := dk_42 (dk_at dksX5_update_0 16 rfl rfl)
theorem dX5_update_17 : decode cX5_update 17 = .ok (.getfield 1, 3) := dk_180 0 1 (dk_at dksX5_update_0 17 rfl rfl)
theorem dX5_update_20 : decode cX5_update 20 = .ok (.dup, 1) := dk_89 (dk_at dksX5_update_0 20 rfl rfl)
theorem dX5_update_21 : decode cX5_update 21 = .ok (.getfield 19, 3) := dk_180 0 19 (dk_at dksX5_update_0 21 rfl rfl)
theorem dX5_update_24 : decode cX5_update 24 = .ok (.iconst 1, 1) := dk_4 (dk_at dksX5_update_1 0 rfl rfl)
theorem dX5_update_25 : decode cX5_update 25 = .ok (.iadd, 1) := dk_96 (dk_at dksX5_update_1 1 rfl rfl)
theorem dX5_update_26 : decode cX5_update 26 = .ok (.dup_x1, 1) := dk_90 (dk_at dksX5_update_1 2 rfl rfl)
theorem dX5_update_27 : decode cX5_update 27 = .ok (.putfield 19, 3) := dk_181 0 19 (dk_at dksX5_update_1 3 rfl rfl)
theorem dX5_update_30 : decode cX5_update 30 = .ok (.aload_n 0, 1) := dk_42 (dk_at dksX5_update_1 6 rfl rfl)
theorem dX5_update_31 : decode cX5_update 31 = .ok (.getfield 1, 3) := dk_180 0 1 (dk_at dksX5_update_1 7 rfl rfl)
theorem dX5_update_34 : decode cX5_update 34 = .ok (.getfield 23, 3) := dk_180 0 23 (dk_at dksX5_update_1 10 rfl rfl)
theorem dX5_update_37 : decode cX5_update 37 = .ok (.if_icmp .ne 26, 3) := dk_160 0 26 (dk_at dksX5_update_1 13 rfl rfl)
theorem dX5_update_40 : decode cX5_update 40 = .ok (.aload_n 0, 1) := dk_42 (dk_at dksX5_update_1 16 rfl rfl)
theorem dX5_update_41 : decode cX5_update 41 = .ok (.getfield 1, 3) := dk_180 0 1 (dk_at dksX5_update_1 17 rfl rfl)
theorem dX5_update_44 : decode cX5_update 44 = .ok (.aload_n 0, 1) := dk_42 (dk_at dksX5_update_1 20 rfl rfl)
theorem dX5_update_45 : decode cX5_update 45 = .ok (.getfield 1, 3) := dk_180 0 1 (dk_at dksX5_update_1 21 rfl rfl)
theorem dX5_update_48 : decode cX5_update 48 = .ok (.getfield 13, 3) := dk_180 0 13 (dk_at dksX5_update_2 0 rfl rfl)
theorem dX5_update_51 : decode cX5_update 51 = .ok (.iconst 0, 1) := dk_3 (dk_at dksX5_update_2 3 rfl rfl)
theorem dX5_update_52 : decode cX5_update 52 = .ok (.invokevirtual 26, 3) := dk_182 0 26 (dk_at dksX5_update_2 4 rfl rfl)
theorem dX5_update_55 : decode cX5_update 55 = .ok (.aload_n 0, 1) := dk_42 (dk_at dksX5_update_2 7 rfl rfl)
theorem dX5_update_56 : decode cX5_update 56 = .ok (.getfield 1, 3) := dk_180 0 1 (dk_at dksX5_update_2 8 rfl rfl)
theorem dX5_update_59 : decode cX5_update 59 = .ok (.iconst 0, 1) := dk_3 (dk_at dksX5_update_2 11 rfl rfl)
theorem dX5_update_60 : decode cX5_update 60 = .ok (.putfield 19, 3) := dk_181 0 19 (dk_at dksX5_update_2 12 rfl rfl)
theorem dX5_update_63 : decode cX5_update 63 = .ok (.return_, 1) := dk_177 (dk_at dksX5_update_2 15 rfl rfl)
theorem q13 : (Jvm.Cond.initialized "BufferBaseDigest$ImmediateProcessor") ∈ lw_all := lw_g (lw_at lw_m1 7 rfl) rfl
theorem q66 : (Jvm.Cond.instantiable "BufferBaseDigest$ImmediateProcessor" (1 : Nat)) ∈ lw_all := lw_g (lw_at lw_m1 60 rfl) rfl
theorem q68 : (Jvm.Cond.instanceMethod ({ cls := "BufferBaseDigest$ImmediateProcessor", name := "<init>", desc := "(LBufferBaseDigest;)V" } : Jvm.MethodName)) ∈ lw_all := lw_g (lw_at lw_m1 62 rfl) rfl
theorem q69 : (Jvm.Cond.code ({ cls := "BufferBaseDigest$ImmediateProcessor", name := "<init>", desc := "(LBufferBaseDigest;)V" } : Jvm.MethodName) prog_11_method_1_code (2 : Nat) (Option.none : Option Jvm.ClassFile.FieldType)) ∈ lw_all := lw_g (lw_at lw_m1 63 rfl) rfl
theorem q70 : (Jvm.Cond.methodLink "BufferBaseDigest$ImmediateProcessor" (7 : Nat) ({ cls := "java/lang/Object", name := "<init>", desc := "()V" } : Jvm.MethodName)) ∈ lw_all := lw_g (lw_at lw_m1 64 rfl) rfl
theorem q71 : (Jvm.Cond.fieldLink "BufferBaseDigest$ImmediateProcessor" (1 : Nat) "BufferBaseDigest$ImmediateProcessor" "this$0" "LBufferBaseDigest;") ∈ lw_all := lw_g (lw_at lw_m1 65 rfl) rfl
theorem q72 : (Jvm.Cond.laysFinal "BufferBaseDigest$ImmediateProcessor" "BufferBaseDigest$ImmediateProcessor" "this$0" "LBufferBaseDigest;") ∈ lw_all := lw_g (lw_at lw_m1 66 rfl) rfl
theorem q73 : (Jvm.Cond.soleField "BufferBaseDigest$ImmediateProcessor" "this$0") ∈ lw_all := lw_g (lw_at lw_m1 67 rfl) rfl
theorem q74 : (Jvm.Cond.superclass "BufferBaseDigest$ImmediateProcessor" "java/lang/Object") ∈ lw_all := lw_g (lw_at lw_m1 68 rfl) rfl
theorem q214 : (Jvm.Cond.fieldLink "BufferBaseDigest$ImmediateProcessor" (23 : Nat) "BufferBaseDigest" "BlockSize" "I") ∈ lw_all := lw_g (lw_at lw_m1 208 rfl) rfl
theorem q218 : (Jvm.Cond.fieldLink "BufferBaseDigest$ImmediateProcessor" (13 : Nat) "BufferBaseDigest" "m_buf" "[B") ∈ lw_all := lw_g (lw_at lw_m1 212 rfl) rfl
theorem q223 : (Jvm.Cond.fieldLink "BufferBaseDigest$ImmediateProcessor" (19 : Nat) "BufferBaseDigest" "m_bufPos" "I") ∈ lw_all := lw_g (lw_at lw_m1 217 rfl) rfl
theorem q351 : (Jvm.Cond.castable "BufferBaseDigest$ImmediateProcessor" "BufferBaseDigest$ProcessingBuffer") ∈ lw_tbl := lw_at lw_m2 105 rfl
theorem q352 : (Jvm.Cond.selects "BufferBaseDigest$ImmediateProcessor" ({ cls := "BufferBaseDigest$ProcessingBuffer", name := "isLengthWithinAvailableSpace", desc := "(II)Z" } : Jvm.MethodName) ({ cls := "BufferBaseDigest$ImmediateProcessor", name := "isLengthWithinAvailableSpace", desc := "(II)Z" } : Jvm.MethodName)) ∈ lw_all := lw_g (lw_at lw_m2 106 rfl) rfl
theorem q353 : (Jvm.Cond.unhidden "BufferBaseDigest$ImmediateProcessor" "isLengthWithinAvailableSpace" "(II)Z") ∈ lw_tbl := lw_at lw_m2 107 rfl
theorem q354 : (Jvm.Cond.instanceMethod ({ cls := "BufferBaseDigest$ImmediateProcessor", name := "isLengthWithinAvailableSpace", desc := "(II)Z" } : Jvm.MethodName)) ∈ lw_all := lw_g (lw_at lw_m2 108 rfl) rfl
theorem q355 : (Jvm.Cond.publicMethod ({ cls := "BufferBaseDigest$ImmediateProcessor", name := "isLengthWithinAvailableSpace", desc := "(II)Z" } : Jvm.MethodName)) ∈ lw_tbl := lw_at lw_m2 109 rfl
theorem q356 : (Jvm.Cond.code ({ cls := "BufferBaseDigest$ImmediateProcessor", name := "isLengthWithinAvailableSpace", desc := "(II)Z" } : Jvm.MethodName) prog_11_method_3_code (3 : Nat) (Option.some Jvm.ClassFile.FieldType.boolean)) ∈ lw_all := lw_g (lw_at lw_m2 110 rfl) rfl
theorem q415 : (Jvm.Cond.selects "BufferBaseDigest$ImmediateProcessor" ({ cls := "BufferBaseDigest$ProcessingBuffer", name := "isLengthExceedingBlockSize", desc := "(II)Z" } : Jvm.MethodName) ({ cls := "BufferBaseDigest$ImmediateProcessor", name := "isLengthExceedingBlockSize", desc := "(II)Z" } : Jvm.MethodName)) ∈ lw_all := lw_g (lw_at lw_m2 169 rfl) rfl
theorem q416 : (Jvm.Cond.unhidden "BufferBaseDigest$ImmediateProcessor" "isLengthExceedingBlockSize" "(II)Z") ∈ lw_tbl := lw_at lw_m2 170 rfl
theorem q417 : (Jvm.Cond.instanceMethod ({ cls := "BufferBaseDigest$ImmediateProcessor", name := "isLengthExceedingBlockSize", desc := "(II)Z" } : Jvm.MethodName)) ∈ lw_all := lw_g (lw_at lw_m2 171 rfl) rfl
theorem q418 : (Jvm.Cond.publicMethod ({ cls := "BufferBaseDigest$ImmediateProcessor", name := "isLengthExceedingBlockSize", desc := "(II)Z" } : Jvm.MethodName)) ∈ lw_tbl := lw_at lw_m2 172 rfl
theorem q419 : (Jvm.Cond.code ({ cls := "BufferBaseDigest$ImmediateProcessor", name := "isLengthExceedingBlockSize", desc := "(II)Z" } : Jvm.MethodName) prog_11_method_4_code (3 : Nat) (Option.some Jvm.ClassFile.FieldType.boolean)) ∈ lw_all := lw_g (lw_at lw_m2 173 rfl) rfl
theorem q443 : (Jvm.Cond.selects "BufferBaseDigest$ImmediateProcessor" ({ cls := "BufferBaseDigest$ProcessingBuffer", name := "update", desc := "(B)V" } : Jvm.MethodName) ({ cls := "BufferBaseDigest$ImmediateProcessor", name := "update", desc := "(B)V" } : Jvm.MethodName)) ∈ lw_all := lw_g (lw_at lw_m2 197 rfl) rfl
theorem q444 : (Jvm.Cond.unhidden "BufferBaseDigest$ImmediateProcessor" "update" "(B)V") ∈ lw_tbl := lw_at lw_m2 198 rfl
theorem q445 : (Jvm.Cond.instanceMethod ({ cls := "BufferBaseDigest$ImmediateProcessor", name := "update", desc := "(B)V" } : Jvm.MethodName)) ∈ lw_all := lw_g (lw_at lw_m2 199 rfl) rfl
theorem q446 : (Jvm.Cond.publicMethod ({ cls := "BufferBaseDigest$ImmediateProcessor", name := "update", desc := "(B)V" } : Jvm.MethodName)) ∈ lw_tbl := lw_at lw_m2 200 rfl
theorem q447 : (Jvm.Cond.code ({ cls := "BufferBaseDigest$ImmediateProcessor", name := "update", desc := "(B)V" } : Jvm.MethodName) prog_11_method_2_code (2 : Nat) (Option.none : Option Jvm.ClassFile.FieldType)) ∈ lw_all := lw_g (lw_at lw_m2 201 rfl) rfl
theorem q448 : (Jvm.Cond.methodLink "BufferBaseDigest$ImmediateProcessor" (26 : Nat) ({ cls := "BufferBaseDigest", name := "processBytes", desc := "([BI)V" } : Jvm.MethodName)) ∈ lw_all := lw_g (lw_at lw_m2 202 rfl) rfl
theorem in_X5 : ∀ w ∈ wsX50, w ∈ lw_all := lw_in wsX50 [72] (by decide +kernel) (by decide +kernel)

/-! ISAPDigest$Friend -/
set_option maxRecDepth 100000
def RX6 : String := "ISAPDigest$Friend"
abbrev cX6_getFriend : ByteArray := prog_18_method_2_code
def yX6_getFriend : MethodName := ⟨RX6, "getFriend", "(LAsconBaseDigest$Friend;)LISAPDigest$Friend;"⟩
def dkwX6_getFriend_0 : List UInt8 := [1, 42, 166, 0, 13, 187, 0, 7, 89, 18, 9, 183, 0, 11, 191, 178, 0, 14, 176]
abbrev dktX6_getFriend_0 : List UInt8 := dkwX6_getFriend_0 ++ []
theorem dksX6_getFriend_0 : cX6_getFriend.data.toList.drop 0 = dktX6_getFriend_0 := by decide +kernel
theorem dX6_getFriend_0 : decode cX6_getFriend 0 = .ok (.aconst_null, 1) := dk_1 (dk_at dksX6_getFriend_0 0 rfl rfl)
theorem dX6_getFriend_1 : decode cX6_getFriend 1 = .ok (.aload_n 0, 1) := dk_42 (dk_at dksX6_getFriend_0 1 rfl rfl)
theorem dX6_getFriend_2 : decode cX6_getFriend 2 = .ok (.if_acmp .ne 13, 3) := dk_166 0 13 (dk_at dksX6_getFriend_0 2 rfl rfl)
theorem dX6_getFriend_5 : decode cX6_getFriend 5 = .ok (.new 7, 3) := dk_187 0 7 (dk_at dksX6_getFriend_0 5 rfl rfl)
theorem dX6_getFriend_8 : decode cX6_getFriend 8 = .ok (.dup, 1) := dk_89 (dk_at dksX6_getFriend_0 8 rfl rfl)
theorem dX6_getFriend_9 : decode cX6_getFriend 9 = .ok (.ldc 9, 2) := dk_18 9 (dk_at dksX6_getFriend_0 9 rfl rfl)
theorem dX6_getFriend_11 : decode cX6_getFriend 11 = .ok (.invokespecial 11, 3) := dk_183 0 11 (dk_at dksX6_getFriend_0 11 rfl rfl)
theorem dX6_getFriend_14 : decode cX6_getFriend 14 = .ok (.athrow, 1) := dk_191 (dk_at dksX6_getFriend_0 14 rfl rfl)
theorem dX6_getFriend_15 : decode cX6_getFriend 15 = .ok (.getstatic 14, 3) := dk_178 0 14 (dk_at dksX6_getFriend_0 15 rfl rfl)
theorem dX6_getFriend_18 : decode cX6_getFriend 18 = .ok (.areturn, 1) := dk_176 (dk_at dksX6_getFriend_0 18 rfl rfl)
theorem q15 : (Jvm.Cond.initialized "ISAPDigest$Friend") ∈ lw_all := lw_g (lw_at lw_m1 9 rfl) rfl
theorem q78 : (Jvm.Cond.static ({ cls := "ISAPDigest$Friend", name := "getFriend", desc := "(LAsconBaseDigest$Friend;)LISAPDigest$Friend;" } : Jvm.MethodName)) ∈ lw_all := lw_g (lw_at lw_m1 72 rfl) rfl
theorem q79 : (Jvm.Cond.code ({ cls := "ISAPDigest$Friend", name := "getFriend", desc := "(LAsconBaseDigest$Friend;)LISAPDigest$Friend;" } : Jvm.MethodName) prog_18_method_2_code (1 : Nat) (Option.some (Jvm.ClassFile.FieldType.object "ISAPDigest$Friend"))) ∈ lw_all := lw_g (lw_at lw_m1 73 rfl) rfl
theorem q80 : (Jvm.Cond.classLink "ISAPDigest$Friend" (7 : Nat) "java/lang/NullPointerException") ∈ lw_all := lw_g (lw_at lw_m1 74 rfl) rfl
theorem q82 : (Jvm.Cond.stringRef "ISAPDigest$Friend" (9 : Nat) "This method is only for use by AsconBaseDigest") ∈ lw_tbl := lw_at lw_m1 76 rfl
theorem q83 : (Jvm.Cond.methodLink "ISAPDigest$Friend" (11 : Nat) ({ cls := "java/lang/NullPointerException", name := "<init>", desc := "(Ljava/lang/String;)V" } : Jvm.MethodName)) ∈ lw_all := lw_g (lw_at lw_m1 77 rfl) rfl
theorem q147 : (Jvm.Cond.fieldLink "ISAPDigest$Friend" (14 : Nat) "ISAPDigest$Friend" "INSTANCE" "LISAPDigest$Friend;") ∈ lw_all := lw_g (lw_at lw_m1 141 rfl) rfl
theorem q148 : (Jvm.Cond.laysStatic "ISAPDigest$Friend" "INSTANCE" "LISAPDigest$Friend;") ∈ lw_tbl := lw_at lw_m1 142 rfl

/-! AsconPermutationFriend -/
set_option maxRecDepth 100000
def RX7 : String := "AsconPermutationFriend"
abbrev cX7_getAsconPermutation : ByteArray := prog_7_method_2_code
def yX7_getAsconPermutation : MethodName := ⟨RX7, "getAsconPermutation", "(LISAPDigest$Friend;)LAsconPermutationFriend$AsconPermutation;"⟩
def dkwX7_getAsconPermutation_0 : List UInt8 := [1, 42, 166, 0, 13, 187, 0, 7, 89, 18, 9, 183, 0, 11, 191, 187, 0, 14, 89, 183, 0, 16, 176]
abbrev dktX7_getAsconPermutation_0 : List UInt8 := dkwX7_getAsconPermutation_0 ++ []
theorem dksX7_getAsconPermutation_0 : cX7_getAsconPermutation.data.toList.drop 0 = dktX7_getAsconPermutation_0 := by decide +kernel
theorem dX7_getAsconPermutation_0 : decode cX7_getAsconPermutation 0 = .ok (.aconst_null, 1) := dk_1 (dk_at dksX7_getAsconPermutation_0 0 rfl rfl)
theorem dX7_getAsconPermutation_1 : decode cX7_getAsconPermutation 1 = .ok (.aload_n 0, 1) := dk_42 (dk_at dksX7_getAsconPermutation_0 1 rfl rfl)
theorem dX7_getAsconPermutation_2 : decode cX7_getAsconPermutation 2 = .ok (.if_acmp .ne 13, 3) := dk_166 0 13 (dk_at dksX7_getAsconPermutation_0 2 rfl rfl)
theorem dX7_getAsconPermutation_5 : decode cX7_getAsconPermutation 5 = .ok (.new 7, 3) := dk_187 0 7 (dk_at dksX7_getAsconPermutation_0 5 rfl rfl)
theorem dX7_getAsconPermutation_8 : decode cX7_getAsconPermutation 8 = .ok (.dup, 1) := dk_89 (dk_at dksX7_getAsconPermutation_0 8 rfl rfl)
theorem dX7_getAsconPermutation_9 : decode cX7_getAsconPermutation 9 = .ok (.ldc 9, 2) := dk_18 9 (dk_at dksX7_getAsconPermutation_0 9 rfl rfl)
theorem dX7_getAsconPermutation_11 : decode cX7_getAsconPermutation 11 = .ok (.invokespecial 11, 3) := dk_183 0 11 (dk_at dksX7_getAsconPermutation_0 11 rfl rfl)
theorem dX7_getAsconPermutation_14 : decode cX7_getAsconPermutation 14 = .ok (.athrow, 1) := dk_191 (dk_at dksX7_getAsconPermutation_0 14 rfl rfl)
theorem dX7_getAsconPermutation_15 : decode cX7_getAsconPermutation 15 = .ok (.new 14, 3) := dk_187 0 14 (dk_at dksX7_getAsconPermutation_0 15 rfl rfl)
theorem dX7_getAsconPermutation_18 : decode cX7_getAsconPermutation 18 = .ok (.dup, 1) := dk_89 (dk_at dksX7_getAsconPermutation_0 18 rfl rfl)
theorem dX7_getAsconPermutation_19 : decode cX7_getAsconPermutation 19 = .ok (.invokespecial 16, 3) := dk_183 0 16 (dk_at dksX7_getAsconPermutation_0 19 rfl rfl)
theorem dX7_getAsconPermutation_22 : decode cX7_getAsconPermutation 22 = .ok (.areturn, 1) := dk_176 (dk_at dksX7_getAsconPermutation_0 22 rfl rfl)
theorem q20 : (Jvm.Cond.initialized "AsconPermutationFriend") ∈ lw_all := lw_g (lw_at lw_m1 14 rfl) rfl
theorem q150 : (Jvm.Cond.static ({ cls := "AsconPermutationFriend", name := "getAsconPermutation", desc := "(LISAPDigest$Friend;)LAsconPermutationFriend$AsconPermutation;" } : Jvm.MethodName)) ∈ lw_all := lw_g (lw_at lw_m1 144 rfl) rfl
theorem q151 : (Jvm.Cond.code ({ cls := "AsconPermutationFriend", name := "getAsconPermutation", desc := "(LISAPDigest$Friend;)LAsconPermutationFriend$AsconPermutation;" } : Jvm.MethodName) prog_7_method_2_code (1 : Nat) (Option.some (Jvm.ClassFile.FieldType.object "AsconPermutationFriend$AsconPermutation"))) ∈ lw_all := lw_g (lw_at lw_m1 145 rfl) rfl
theorem q152 : (Jvm.Cond.classLink "AsconPermutationFriend" (7 : Nat) "java/lang/NullPointerException") ∈ lw_all := lw_g (lw_at lw_m1 146 rfl) rfl
theorem q153 : (Jvm.Cond.stringRef "AsconPermutationFriend" (9 : Nat) "This method is only for use by ISAPDigest or Ascon Digest") ∈ lw_tbl := lw_at lw_m1 147 rfl
theorem q154 : (Jvm.Cond.methodLink "AsconPermutationFriend" (11 : Nat) ({ cls := "java/lang/NullPointerException", name := "<init>", desc := "(Ljava/lang/String;)V" } : Jvm.MethodName)) ∈ lw_all := lw_g (lw_at lw_m1 148 rfl) rfl
theorem q155 : (Jvm.Cond.classLink "AsconPermutationFriend" (14 : Nat) "AsconPermutationFriend$AsconPermutation") ∈ lw_all := lw_g (lw_at lw_m1 149 rfl) rfl
theorem q157 : (Jvm.Cond.methodLink "AsconPermutationFriend" (16 : Nat) ({ cls := "AsconPermutationFriend$AsconPermutation", name := "<init>", desc := "()V" } : Jvm.MethodName)) ∈ lw_all := lw_g (lw_at lw_m1 151 rfl) rfl

/-! AsconPermutationFriend$AsconPermutation -/
set_option maxRecDepth 100000
def RX8 : String := "AsconPermutationFriend$AsconPermutation"
def TX8 : u_T := fun k => match k with
  | 0 => ("AsconPermutationFriend$AsconPermutation", "x0", "J", false)
  | 1 => ("AsconPermutationFriend$AsconPermutation", "x1", "J", false)
  | 2 => ("AsconPermutationFriend$AsconPermutation", "x2", "J", false)
  | 3 => ("AsconPermutationFriend$AsconPermutation", "x3", "J", false)
  | _ => ("AsconPermutationFriend$AsconPermutation", "x4", "J", false)
def tyX8 : Nat → FieldType := fun k => match k with
  | 0 => .long
  | 1 => .long
  | 2 => .long
  | 3 => .long
  | _ => .long
abbrev wsX80 : List Cond := u_ws RX8 TX8 5
theorem nmX8 : ∀ a, a < 5 → ∀ b, b < 5 → a ≠ b → (TX8 a).2.1 ≠ (TX8 b).2.1 := by decide +kernel
theorem tyX8_ok : ∀ k, k < 5 → parseFieldDescriptor (TX8 k).2.2.1 = some (tyX8 k) := by decide +kernel
abbrev cX8_init : ByteArray := prog_8_method_1_code
def yX8_init : MethodName := ⟨RX8, "<init>", "()V"⟩
theorem dX8_init_0 : decode cX8_init 0 = .ok (.aload_n 0, 1) := by decide +kernel
theorem dX8_init_1 : decode cX8_init 1 = .ok (.invokespecial 1, 3) := by decide +kernel
theorem dX8_init_4 : decode cX8_init 4 = .ok (.return_, 1) := by decide +kernel
abbrev cX8_set : ByteArray := prog_8_method_4_code
def yX8_set : MethodName := ⟨RX8, "set", "(JJJJJ)V"⟩
def dkwX8_set_1 : List UInt8 := [22, 9, 181, 0, 16, 177]
abbrev dktX8_set_1 : List UInt8 := dkwX8_set_1 ++ []
def dkwX8_set_0 : List UInt8 := [42, 31, 181, 0, 13, 42, 33, 181, 0, 19, 42, 22, 5, 181, 0, 7, 42, 22, 7, 181, 0, 22, 42]
abbrev dktX8_set_0 : List UInt8 := dkwX8_set_0 ++ dktX8_set_1
theorem dksX8_set_0 : cX8_set.data.toList.drop 0 = dktX8_set_0 := by decide +kernel
theorem dksX8_set_1 : cX8_set.data.toList.drop 23 = dktX8_set_1 := dk_seg dksX8_set_0 23 rfl rfl
theorem dX8_set_0 : decode cX8_set 0 = .ok (.aload_n 0, 1) := dk_42 (dk_at dksX8_set_0 0 rfl rfl)
theorem dX8_set_1 : decode cX8_set 1 = .ok (.lload_n 1, 1) := dk_31 (dk_at dksX8_set_0 1 rfl rfl)
theorem dX8_set_2 : decode cX8_set 2 = .ok (.putfield 13, 3) := dk_181 0 13 (dk_at dksX8_set_0 2 rfl rfl)
theorem dX8_set_5 : decode cX8_set 5 = .ok (.aload_n 0, 1) := dk_42 (dk_at dksX8_set_0 5 rfl rfl)
theorem dX8_set_6 : decode cX8_set 6 = .ok (.lload_n 3, 1) := dk_33 (dk_at dksX8_set_0 6 rfl rfl)
theorem dX8_set_7 : decode cX8_set 7 = .ok (.putfield 19, 3) := dk_181 0 19 (dk_at dksX8_set_0 7 rfl rfl)
theorem dX8_set_10 : decode cX8_set 10 = .ok (.aload_n 0, 1) := dk_42 (dk_at dksX8_set_0 10 rfl rfl)
theorem dX8_set_11 : decode cX8_set 11 = .ok (.lload 5, 2) := dk_22 5 (dk_at dksX8_set_0 11 rfl rfl)
theorem dX8_set_13 : decode cX8_set 13 = .ok (.putfield 7, 3) := dk_181 0 7 (dk_at dksX8_set_0 13 rfl rfl)
theorem dX8_set_16 : decode cX8_set 16 = .ok (.aload_n 0, 1) := dk_42 (dk_at dksX8_set_0 16 rfl rfl)
theorem dX8_set_17 : decode cX8_set 17 = .ok (.lload 7, 2) := dk_22 7 (dk_at dksX8_set_0 17 rfl rfl)
theorem dX8_set_19 : decode cX8_set 19 = .ok (.putfield 22, 3) := dk_181 0 22 (dk_at dksX8_set_0 19 rfl rfl)
theorem dX8_set_22 : decode cX8_set 22 = .ok (.aload_n 0, 1) := dk_42 (dk_at dksX8_set_0 22 rfl rfl)
theorem dX8_set_23 : decode cX8_set 23 = .ok (.lload 9, 2) := dk_22 9 (dk_at dksX8_set_1 0 rfl rfl)
theorem dX8_set_25 : decode cX8_set 25 = .ok (.putfield 16, 3) := dk_181 0 16 (dk_at dksX8_set_1 2 rfl rfl)
theorem dX8_set_28 : decode cX8_set 28 = .ok (.return_, 1) := dk_177 (dk_at dksX8_set_1 5 rfl rfl)
abbrev cX8_p : ByteArray := prog_8_method_3_code
def yX8_p : MethodName := ⟨RX8, "p", "(I)V"⟩
def dkwX8_p_4 : List UInt8 := [177]
abbrev dktX8_p_4 : List UInt8 := dkwX8_p_4 ++ []
def dkwX8_p_3 : List UInt8 := [182, 0, 35, 42, 20, 0, 55, 182, 0, 35, 42, 20, 0, 57, 182, 0, 35, 42, 20, 0, 59, 182, 0, 35]
abbrev dktX8_p_3 : List UInt8 := dkwX8_p_3 ++ dktX8_p_4
def dkwX8_p_2 : List UInt8 := [20, 0, 47, 182, 0, 35, 42, 20, 0, 49, 182, 0, 35, 42, 20, 0, 51, 182, 0, 35, 42, 20, 0, 53]
abbrev dktX8_p_2 : List UInt8 := dkwX8_p_2 ++ dktX8_p_3
def dkwX8_p_1 : List UInt8 := [182, 0, 35, 42, 20, 0, 43, 182, 0, 35, 27, 16, 8, 161, 0, 17, 42, 20, 0, 45, 182, 0, 35, 42]
abbrev dktX8_p_1 : List UInt8 := dkwX8_p_1 ++ dktX8_p_2
def dkwX8_p_0 : List UInt8 := [27, 16, 12, 160, 0, 31, 42, 20, 0, 33, 182, 0, 35, 42, 20, 0, 39, 182, 0, 35, 42, 20, 0, 41]
abbrev dktX8_p_0 : List UInt8 := dkwX8_p_0 ++ dktX8_p_1
theorem dksX8_p_0 : cX8_p.data.toList.drop 0 = dktX8_p_0 := by decide +kernel
theorem dksX8_p_1 : cX8_p.data.toList.drop 24 = dktX8_p_1 := dk_seg dksX8_p_0 24 rfl rfl
theorem dksX8_p_2 : cX8_p.data.toList.drop 48 = dktX8_p_2 := dk_seg dksX8_p_1 24 rfl rfl
theorem dksX8_p_3 : cX8_p.data.toList.drop 72 = dktX8_p_3 := dk_seg dksX8_p_2 24 rfl rfl
theorem dksX8_p_4 : cX8_p.data.toList.drop 96 = dktX8_p_4 := dk_seg dksX8_p_3 24 rfl rfl
theorem dX8_p_0 : decode cX8_p 0 = .ok (.iload_n 1, 1) := dk_27 (dk_at dksX8_p_0 0 rfl rfl)
theorem dX8_p_1 : decode cX8_p 1 = .ok (.bipush 12, 2) := dk_16 12 (dk_at dksX8_p_0 1 rfl rfl)
theorem dX8_p_3 : decode cX8_p 3 = .ok (.if_icmp .ne 31, 3) := dk_160 0 31 (dk_at dksX8_p_0 3 rfl rfl)
theorem dX8_p_6 : decode cX8_p 6 = .ok (.aload_n 0, 1) := dk_42 (dk_at dksX8_p_0 6 rfl rfl)
theorem dX8_p_7 : decode cX8_p 7 = .ok (.ldc2_w 33, 3) := dk_20 0 33 (dk_at dksX8_p_0 7 rfl rfl)
theorem dX8_p_10 : decode cX8_p 10 = .ok (.invokevirtual 35, 3) := dk_182 0 35 (dk_at dksX8_p_0 10 rfl rfl)
theorem dX8_p_13 : decode cX8_p 13 = .ok (.aload_n 0, 1) := dk_42 (dk_at dksX8_p_0 13 rfl rfl)
theorem dX8_p_14 : decode cX8_p 14 = .ok (.ldc2_w 39, 3) := dk_20 0 39 (dk_at dksX8_p_0 14 rfl rfl)
theorem dX8_p_17 : decode cX8_p 17 = .ok (.invokevirtual 35, 3) := dk_182 0 35 (dk_at dksX8_p_0 17 rfl rfl)
theorem dX8_p_20 : decode cX8_p 20 = .ok (.aload_n 0, 1) := dk_42 (dk_at dksX8_p_0 20 rfl rfl)
theorem dX8_p_21 : decode cX8_p 21 = .ok (.ldc2_w 41, 3) := dk_20 0 41 (dk_at dksX8_p_0 21 rfl rfl)
theorem dX8_p_24 : decode cX8_p 24 = .ok (.invokevirtual 35, 3) := dk_182 0 35 (dk_at dksX8_p_1 0 rfl rfl)
theorem dX8_p_27 : decode cX8_p 27 = .ok (.aload_n 0, 1) := dk_42 (dk_at dksX8_p_1 3 rfl rfl)
theorem dX8_p_28 : decode cX8_p 28 = .ok (.ldc2_w 43, 3) := dk_20 0 43 (dk_at dksX8_p_1 4 rfl rfl)
theorem dX8_p_31 : decode cX8_p 31 = .ok (.invokevirtual 35, 3) := dk_182 0 35 (dk_at dksX8_p_1 7 rfl rfl)
theorem dX8_p_34 : decode cX8_p 34 = .ok (.iload_n 1, 1) := dk_27 (dk_at dksX8_p_1 10 rfl rfl)
theorem dX8_p_35 : decode cX8_p 35 = .ok (.bipush 8, 2) := dk_16 8 (dk_at dksX8_p_1 11 rfl rfl)
theorem dX8_p_37 : decode cX8_p 37 = .ok (.if_icmp .lt 17, 3) := dk_161 0 17 (dk_at dksX8_p_1 13 rfl rfl)
theorem dX8_p_40 : decode cX8_p 40 = .ok (.aload_n 0, 1) := dk_42 (dk_at dksX8_p_1 16 rfl rfl)
theorem dX8_p_41 : decode cX8_p 41 = .ok (.ldc2_w 45, 3) := dk_20 0 45 (dk_at dksX8_p_1 17 rfl rfl)
theorem dX8_p_44 : decode cX8_p 44 = .ok (.invokevirtual 35, 3) := dk_182 0 35 (dk_at dksX8_p_1 20 rfl rfl)
theorem dX8_p_47 : decode cX8_p 47 = .ok (.aload_n 0, 1) := dk_42 (dk_at dksX8_p_1 23 rfl rfl)
theorem dX8_p_48 : decode cX8_p 48 = .ok (.ldc2_w 47, 3) := dk_20 0 47 (dk_at dksX8_p_2 0 rfl rfl)
theorem dX8_p_51 : decode cX8_p 51 = .ok (.invokevirtual 35, 3) := dk_182 0 35 (dk_at dksX8_p_2 3 rfl rfl)
theorem dX8_p_54 : decode cX8_p 54 = .ok (.aload_n 0, 1) := dk_42 (dk_at dksX8_p_2 6 rfl rfl)
theorem dX8_p_55 : decode cX8_p 55 = .ok (.ldc2_w 49, 3) := dk_20 0 49 (dk_at dksX8_p_2 7 rfl rfl)
theorem dX8_p_58 : decode cX8_p 58 = .ok (.invokevirtual 35, 3) := dk_182 0 35 (dk_at dksX8_p_2 10 rfl rfl)
theorem dX8_p_61 : decode cX8_p 61 = .ok (.aload_n 0, 1) := dk_42 (dk_at dksX8_p_2 13 rfl rfl)
theorem dX8_p_62 : decode cX8_p 62 = .ok (.ldc2_w 51, 3) := dk_20 0 51 (dk_at dksX8_p_2 14 rfl rfl)
theorem dX8_p_65 : decode cX8_p 65 = .ok (.invokevirtual 35, 3) := dk_182 0 35 (dk_at dksX8_p_2 17 rfl rfl)
theorem dX8_p_68 : decode cX8_p 68 = .ok (.aload_n 0, 1) := dk_42 (dk_at dksX8_p_2 20 rfl rfl)
theorem dX8_p_69 : decode cX8_p 69 = .ok (.ldc2_w 53, 3) := dk_20 0 53 (dk_at dksX8_p_2 21 rfl rfl)
theorem dX8_p_72 : decode cX8_p 72 = .ok (.invokevirtual 35, 3) := dk_182 0 35 (dk_at dksX8_p_3 0 rfl rfl)
theorem dX8_p_75 : decode cX8_p 75 = .ok (.aload_n 0, 1) := dk_42 (dk_at dksX8_p_3 3 rfl rfl)
theorem dX8_p_76 : decode cX8_p 76 = .ok (.ldc2_w 55, 3) := dk_20 0 55 (dk_at dksX8_p_3 4 rfl rfl)
theorem dX8_p_79 : decode cX8_p 79 = .ok (.invokevirtual 35, 3) := dk_182 0 35 (dk_at dksX8_p_3 7 rfl rfl)
theorem dX8_p_82 : decode cX8_p 82 = .ok (.aload_n 0, 1) := dk_42 (dk_at dksX8_p_3 10 rfl rfl)
theorem dX8_p_83 : decode cX8_p 83 = .ok (.ldc2_w 57, 3) := dk_20 0 57 (dk_at dksX8_p_3 11 rfl rfl)
theorem dX8_p_86 : decode cX8_p 86 = .ok (.invokevirtual 35, 3) := dk_182 0 35 (dk_at dksX8_p_3 14 rfl rfl)
theorem dX8_p_89 : decode cX8_p 89 = .ok (.aload_n 0, 1) := dk_42 (dk_at dksX8_p_3 17 rfl rfl)
theorem dX8_p_90 : decode cX8_p 90 = .ok (.ldc2_w 59, 3) := dk_20 0 59 (dk_at dksX8_p_3 18 rfl rfl)
theorem dX8_p_93 : decode cX8_p 93 = .ok (.invokevirtual 35, 3) := dk_182 0 35 (dk_at dksX8_p_3 21 rfl rfl)
theorem dX8_p_96 : decode cX8_p 96 = .ok (.return_, 1) := dk_177 (dk_at dksX8_p_4 0 rfl rfl)
abbrev cX8_round : ByteArray := prog_8_method_2_code
def yX8_round : MethodName := ⟨RX8, "round", "(J)V"⟩
def dkwX8_round_11 : List UInt8 := [184, 0, 27, 131, 181, 0, 16, 177]
abbrev dktX8_round_11 : List UInt8 := dkwX8_round_11 ++ []
def dkwX8_round_10 : List UInt8 := [184, 0, 27, 131, 181, 0, 22, 42, 22, 17, 22, 17, 16, 7, 184, 0, 27, 131, 22, 17, 16, 41]
abbrev dktX8_round_10 : List UInt8 := dkwX8_round_10 ++ dktX8_round_11
def dkwX8_round_9 : List UInt8 := [131, 20, 0, 25, 131, 181, 0, 7, 42, 22, 15, 22, 15, 16, 10, 184, 0, 27, 131, 22, 15, 16, 17]
abbrev dktX8_round_9 : List UInt8 := dkwX8_round_9 ++ dktX8_round_10
def dkwX8_round_8 : List UInt8 := [184, 0, 27, 131, 181, 0, 19, 42, 22, 13, 22, 13, 4, 184, 0, 27, 131, 22, 13, 16, 6, 184, 0, 27]
abbrev dktX8_round_8 : List UInt8 := dkwX8_round_8 ++ dktX8_round_9
def dkwX8_round_7 : List UInt8 := [184, 0, 27, 131, 181, 0, 13, 42, 22, 11, 22, 11, 16, 39, 184, 0, 27, 131, 22, 11, 16, 61]
abbrev dktX8_round_7 : List UInt8 := dkwX8_round_7 ++ dktX8_round_8
def dkwX8_round_6 : List UInt8 := [42, 180, 0, 19, 127, 131, 55, 17, 42, 22, 9, 22, 9, 16, 19, 184, 0, 27, 131, 22, 9, 16, 28]
abbrev dktX8_round_6 : List UInt8 := dkwX8_round_6 ++ dktX8_round_7
def dkwX8_round_5 : List UInt8 := [129, 22, 5, 131, 55, 15, 42, 180, 0, 22, 42, 180, 0, 19, 42, 180, 0, 16, 129, 131, 42, 180, 0, 13]
abbrev dktX8_round_5 : List UInt8 := dkwX8_round_5 ++ dktX8_round_6
def dkwX8_round_4 : List UInt8 := [180, 0, 22, 20, 0, 25, 131, 127, 131, 55, 13, 42, 180, 0, 13, 42, 180, 0, 22, 42, 180, 0, 16, 131]
abbrev dktX8_round_4 : List UInt8 := dkwX8_round_4 ++ dktX8_round_5
def dkwX8_round_3 : List UInt8 := [42, 180, 0, 19, 42, 180, 0, 7, 127, 42, 180, 0, 22, 127, 131, 55, 11, 22, 5, 42, 180, 0, 16, 42]
abbrev dktX8_round_3 : List UInt8 := dkwX8_round_3 ++ dktX8_round_4
def dkwX8_round_2 : List UInt8 := [131, 42, 180, 0, 13, 131, 42, 180, 0, 19, 33, 127, 131, 55, 9, 33, 22, 7, 42, 180, 0, 22, 129, 131]
abbrev dktX8_round_2 : List UInt8 := dkwX8_round_2 ++ dktX8_round_3
def dkwX8_round_1 : List UInt8 := [42, 180, 0, 7, 131, 55, 5, 42, 180, 0, 19, 42, 180, 0, 7, 129, 55, 7, 42, 180, 0, 22, 22, 7]
abbrev dktX8_round_1 : List UInt8 := dkwX8_round_1 ++ dktX8_round_2
def dkwX8_round_0 : List UInt8 := [42, 89, 180, 0, 7, 31, 131, 181, 0, 7, 42, 180, 0, 13, 42, 180, 0, 16, 131, 66, 42, 180, 0, 19]
abbrev dktX8_round_0 : List UInt8 := dkwX8_round_0 ++ dktX8_round_1
theorem dksX8_round_0 : cX8_round.data.toList.drop 0 = dktX8_round_0 := by decide +kernel
theorem dksX8_round_1 : cX8_round.data.toList.drop 24 = dktX8_round_1 := dk_seg dksX8_round_0 24 rfl rfl
theorem dksX8_round_2 : cX8_round.data.toList.drop 48 = dktX8_round_2 := dk_seg dksX8_round_1 24 rfl rfl
theorem dksX8_round_3 : cX8_round.data.toList.drop 72 = dktX8_round_3 := dk_seg dksX8_round_2 24 rfl rfl
theorem dksX8_round_4 : cX8_round.data.toList.drop 96 = dktX8_round_4 := dk_seg dksX8_round_3 24 rfl rfl
theorem dksX8_round_5 : cX8_round.data.toList.drop 120 = dktX8_round_5 := dk_seg dksX8_round_4 24 rfl rfl
theorem dksX8_round_6 : cX8_round.data.toList.drop 144 = dktX8_round_6 := dk_seg dksX8_round_5 24 rfl rfl
theorem dksX8_round_7 : cX8_round.data.toList.drop 167 = dktX8_round_7 := dk_seg dksX8_round_6 23 rfl rfl
theorem dksX8_round_8 : cX8_round.data.toList.drop 189 = dktX8_round_8 := dk_seg dksX8_round_7 22 rfl rfl
theorem dksX8_round_9 : cX8_round.data.toList.drop 213 = dktX8_round_9 := dk_seg dksX8_round_8 24 rfl rfl
theorem dksX8_round_10 : cX8_round.data.toList.drop 236 = dktX8_round_10 := dk_seg dksX8_round_9 23 rfl rfl
theorem dksX8_round_11 : cX8_round.data.toList.drop 258 = dktX8_round_11 := dk_seg dksX8_round_10 22 rfl rfl
theorem dX8_round_0 : decode cX8_round 0 = .ok (.aload_n 0, 1) := dk_42 (dk_at dksX8_round_0 0 rfl rfl)
theorem dX8_round_1 : decode cX8_round 1 = .ok (.dup, 1) := dk_89 (dk_at dksX8_round_0 1 rfl rfl)
theorem dX8_round_2 : decode cX8_round 2 = .ok (.getfield 7, 3) := dk_180 0 7 (dk_at dksX8_round_0 2 rfl rfl)
theorem dX8_round_5 : decode cX8_round 5 = .ok (.lload_n 1, 1) := dk_31 (dk_at dksX8_round_0 5 rfl rfl)
theorem dX8_round_6 : decode cX8_round 6 = .ok (.lxor, 1) := dk_131 (dk_at dksX8_round_0 6 rfl rfl)
theorem dX8_round_7 : decode cX8_round 7 = .ok (.putfield 7, 3) := dk_181 0 7 (dk_at dksX8_round_0 7 rfl rfl)
theorem dX8_round_10 : decode cX8_round 10 = .ok (.aload_n 0, 1) := dk_42 (dk_at dksX8_round_0 10 rfl rfl)
theorem dX8_round_11 : decode cX8_round 11 = .ok (.getfield 13, 3) := dk_180 0 13 (dk_at dksX8_round_0 11 rfl rfl)
theorem dX8_round_14 : decode cX8_round 14 = .ok (.aload_n 0, 1) := dk_42 (dk_at dksX8_round_0 14 rfl rfl)
theorem dX8_round_15 : decode cX8_round 15 = .ok (.getfield 16, 3) := dk_180 0 16 (dk_at dksX8_round_0 15 rfl rfl)
theorem dX8_round_18 : decode cX8_round 18 = .ok (.lxor, 1) := dk_131 (dk_at dksX8_round_0 18 rfl rfl)
theorem dX8_round_19 : decode cX8_round 19 = .ok (.lstore_n 3, 1) := dk_66 (dk_at dksX8_round_0 19 rfl rfl)
theorem dX8_round_20 : decode cX8_round 20 = .ok (.aload_n 0, 1) := dk_42 (dk_at dksX8_round_0 20 rfl rfl)
theorem dX8_round_21 : decode cX8_round 21 = .ok (.getfield 19, 3) := dk_180 0 19 (dk_at dksX8_round_0 21 rfl rfl)
theorem dX8_round_24 : decode cX8_round 24 = .ok (.aload_n 0, 1) := dk_42 (dk_at dksX8_round_1 0 rfl rfl)
theorem dX8_round_25 : decode cX8_round 25 = .ok (.getfield 7, 3) := dk_180 0 7 (dk_at dksX8_round_1 1 rfl rfl)
theorem dX8_round_28 : decode cX8_round 28 = .ok (.lxor, 1) := dk_131 (dk_at dksX8_round_1 4 rfl rfl)
theorem dX8_round_29 : decode cX8_round 29 = .ok (.lstore 5, 2) := dk_55 5 (dk_at dksX8_round_1 5 rfl rfl)
theorem dX8_round_31 : decode cX8_round 31 = .ok (.aload_n 0, 1) := dk_42 (dk_at dksX8_round_1 7 rfl rfl)
theorem dX8_round_32 : decode cX8_round 32 = .ok (.getfield 19, 3) := dk_180 0 19 (dk_at dksX8_round_1 8 rfl rfl)
theorem dX8_round_35 : decode cX8_round 35 = .ok (.aload_n 0, 1) := dk_42 (dk_at dksX8_round_1 11 rfl rfl)
theorem dX8_round_36 : decode cX8_round 36 = .ok (.getfield 7, 3) := dk_180 0 7 (dk_at dksX8_round_1 12 rfl rfl)
theorem dX8_round_39 : decode cX8_round 39 = .ok (.lor, 1) := dk_129 (dk_at dksX8_round_1 15 rfl rfl)
theorem dX8_round_40 : decode cX8_round 40 = .ok (.lstore 7, 2) := dk_55 7 (dk_at dksX8_round_1 16 rfl rfl)
theorem dX8_round_42 : decode cX8_round 42 = .ok (.aload_n 0, 1) := dk_42 (dk_at dksX8_round_1 18 rfl rfl)
theorem dX8_round_43 : decode cX8_round 43 = .ok (.getfield 22, 3) := dk_180 0 22 (dk_at dksX8_round_1 19 rfl rfl)
theorem dX8_round_46 : decode cX8_round 46 = .ok (.lload 7, 2) := dk_22 7 (dk_at dksX8_round_1 22 rfl rfl)
theorem dX8_round_48 : decode cX8_round 48 = .ok (.lxor, 1) := dk_131 (dk_at dksX8_round_2 0 rfl rfl)
theorem dX8_round_49 : decode cX8_round 49 = .ok (.aload_n 0, 1) := dk_42 (dk_at dksX8_round_2 1 rfl rfl)
theorem dX8_round_50 : decode cX8_round 50 = .ok (.getfield 13, 3) := dk_180 0 13 (dk_at dksX8_round_2 2 rfl rfl)
theorem dX8_round_53 : decode cX8_round 53 = .ok (.lxor, 1) := dk_131 (dk_at dksX8_round_2 5 rfl rfl)
theorem dX8_round_54 : decode cX8_round 54 = .ok (.aload_n 0, 1) := dk_42 (dk_at dksX8_round_2 6 rfl rfl)
theorem dX8_round_55 : decode cX8_round 55 = .ok (.getfield 19, 3) := dk_180 0 19 (dk_at dksX8_round_2 7 rfl rfl)
theorem dX8_round_58 : decode cX8_round 58 = .ok (.lload_n 3, 1) := dk_33 (dk_at dksX8_round_2 10 rfl rfl)
theorem dX8_round_59 : decode cX8_round 59 = .ok (.land, 1) := dk_127 (dk_at dksX8_round_2 11 rfl rfl)
theorem dX8_round_60 : decode cX8_round 60 = .ok (.lxor, 1) := dk_131 (dk_at dksX8_round_2 12 rfl rfl)
theorem dX8_round_61 : decode cX8_round 61 = .ok (.lstore 9, 2) := dk_55 9 (dk_at dksX8_round_2 13 rfl rfl)
theorem dX8_round_63 : decode cX8_round 63 = .ok (.lload_n 3, 1) := dk_33 (dk_at dksX8_round_2 15 rfl rfl)
theorem dX8_round_64 : decode cX8_round 64 = .ok (.lload 7, 2) := dk_22 7 (dk_at dksX8_round_2 16 rfl rfl)
theorem dX8_round_66 : decode cX8_round 66 = .ok (.aload_n 0, 1) := dk_42 (dk_at dksX8_round_2 18 rfl rfl)
theorem dX8_round_67 : decode cX8_round 67 = .ok (.getfield 22, 3) := dk_180 0 22 (dk_at dksX8_round_2 19 rfl rfl)
theorem dX8_round_70 : decode cX8_round 70 = .ok (.lor, 1) := dk_129 (dk_at dksX8_round_2 22 rfl rfl)
theorem dX8_round_71 : decode cX8_round 71 = .ok (.lxor, 1) := dk_131 (dk_at dksX8_round_2 23 rfl rfl)
theorem dX8_round_72 : decode cX8_round 72 = .ok (.aload_n 0, 1) := dk_42 (dk_at dksX8_round_3 0 rfl rfl)
theorem dX8_round_73 : decode cX8_round 73 = .ok (.getfield 19, 3) := dk_180 0 19 (dk_at dksX8_round_3 1 rfl rfl)
theorem dX8_round_76 : decode cX8_round 76 = .ok (.aload_n 0, 1) := dk_42 (dk_at dksX8_round_3 4 rfl rfl)
theorem dX8_round_77 : decode cX8_round 77 = .ok (.getfield 7, 3) := dk_180 0 7 (dk_at dksX8_round_3 5 rfl rfl)
theorem dX8_round_80 : decode cX8_round 80 = .ok (.land, 1) := dk_127 (dk_at dksX8_round_3 8 rfl rfl)
theorem dX8_round_81 : decode cX8_round 81 = .ok (.aload_n 0, 1) := dk_42 (dk_at dksX8_round_3 9 rfl rfl)
theorem dX8_round_82 : decode cX8_round 82 = .ok (.getfield 22, 3) := dk_180 0 22 (dk_at dksX8_round_3 10 rfl rfl)
theorem dX8_round_85 : decode cX8_round 85 = .ok (.land, 1) := dk_127 (dk_at dksX8_round_3 13 rfl rfl)
theorem dX8_round_86 : decode cX8_round 86 = .ok (.lxor, 1) := dk_131 (dk_at dksX8_round_3 14 rfl rfl)
theorem dX8_round_87 : decode cX8_round 87 = .ok (.lstore 11, 2) := dk_55 11 (dk_at dksX8_round_3 15 rfl rfl)
theorem dX8_round_89 : decode cX8_round 89 = .ok (.lload 5, 2) := dk_22 5 (dk_at dksX8_round_3 17 rfl rfl)
theorem dX8_round_91 : decode cX8_round 91 = .ok (.aload_n 0, 1) := dk_42 (dk_at dksX8_round_3 19 rfl rfl)
theorem dX8_round_92 : decode cX8_round 92 = .ok (.getfield 16, 3) := dk_180 0 16 (dk_at dksX8_round_3 20 rfl rfl)
theorem dX8_round_95 : decode cX8_round 95 = .ok (.aload_n 0, 1) := dk_42 (dk_at dksX8_round_3 23 rfl rfl)
theorem dX8_round_96 : decode cX8_round 96 = .ok (.getfield 22, 3) := dk_180 0 22 (dk_at dksX8_round_4 0 rfl rfl)
theorem dX8_round_99 : decode cX8_round 99 = .ok (.ldc2_w 25, 3) := dk_20 0 25 (dk_at dksX8_round_4 3 rfl rfl)
theorem dX8_round_102 : decode cX8_round 102 = .ok (.lxor, 1) := dk_131 (dk_at dksX8_round_4 6 rfl rfl)
theorem dX8_round_103 : decode cX8_round 103 = .ok (.land, 1) := dk_127 (dk_at dksX8_round_4 7 rfl rfl)
theorem dX8_round_104 : decode cX8_round 104 = .ok (.lxor, 1) := dk_131 (dk_at dksX8_round_4 8 rfl rfl)
theorem dX8_round_105 : decode cX8_round 105 = .ok (.lstore 13, 2) := dk_55 13 (dk_at dksX8_round_4 9 rfl rfl)
theorem dX8_round_107 : decode cX8_round 107 = .ok (.aload_n 0, 1) := dk_42 (dk_at dksX8_round_4 11 rfl rfl)
theorem dX8_round_108 : decode cX8_round 108 = .ok (.getfield 13, 3) := dk_180 0 13 (dk_at dksX8_round_4 12 rfl rfl)
theorem dX8_round_111 : decode cX8_round 111 = .ok (.aload_n 0, 1) := dk_42 (dk_at dksX8_round_4 15 rfl rfl)
theorem dX8_round_112 : decode cX8_round 112 = .ok (.getfield 22, 3) := dk_180 0 22 (dk_at dksX8_round_4 16 rfl rfl)
theorem dX8_round_115 : decode cX8_round 115 = .ok (.aload_n 0, 1) := dk_42 (dk_at dksX8_round_4 19 rfl rfl)
theorem dX8_round_116 : decode cX8_round 116 = .ok (.getfield 16, 3) := dk_180 0 16 (dk_at dksX8_round_4 20 rfl rfl)
theorem dX8_round_119 : decode cX8_round 119 = .ok (.lxor, 1) := dk_131 (dk_at dksX8_round_4 23 rfl rfl)
theorem dX8_round_120 : decode cX8_round 120 = .ok (.lor, 1) := dk_129 (dk_at dksX8_round_5 0 rfl rfl)
theorem dX8_round_121 : decode cX8_round 121 = .ok (.lload 5, 2) := dk_22 5 (dk_at dksX8_round_5 1 rfl rfl)
theorem dX8_round_123 : decode cX8_round 123 = .ok (.lxor, 1) := dk_131 (dk_at dksX8_round_5 3 rfl rfl)
theorem dX8_round_124 : decode cX8_round 124 = .ok (.lstore 15, 2) := dk_55 15 (dk_at dksX8_round_5 4 rfl rfl)
theorem dX8_round_126 : decode cX8_round 126 = .ok (.aload_n 0, 1) := dk_42 (dk_at dksX8_round_5 6 rfl rfl)
theorem dX8_round_127 : decode cX8_round 127 = .ok (.getfield 22, 3) := dk_180 0 22 (dk_at dksX8_round_5 7 rfl rfl)
theorem dX8_round_130 : decode cX8_round 130 = .ok (.aload_n 0, 1) := dk_42 (dk_at dksX8_round_5 10 rfl rfl)
theorem dX8_round_131 : decode cX8_round 131 = .ok (.getfield 19, 3) := dk_180 0 19 (dk_at dksX8_round_5 11 rfl rfl)
theorem dX8_round_134 : decode cX8_round 134 = .ok (.aload_n 0, 1) := dk_42 (dk_at dksX8_round_5 14 rfl rfl)
theorem dX8_round_135 : decode cX8_round 135 = .ok (.getfield 16, 3) := dk_180 0 16 (dk_at dksX8_round_5 15 rfl rfl)
theorem dX8_round_138 : decode cX8_round 138 = .ok (.lor, 1) := dk_129 (dk_at dksX8_round_5 18 rfl rfl)
theorem dX8_round_139 : decode cX8_round 139 = .ok (.lxor, 1) := dk_131 (dk_at dksX8_round_5 19 rfl rfl)
theorem dX8_round_140 : decode cX8_round 140 = .ok (.aload_n 0, 1) := dk_42 (dk_at dksX8_round_5 20 rfl rfl)
theorem dX8_round_141 : decode cX8_round 141 = .ok (.getfield 13, 3) := dk_180 0 13 (dk_at dksX8_round_5 21 rfl rfl)
theorem dX8_round_144 : decode cX8_round 144 = .ok (.aload_n 0, 1) := dk_42 (dk_at dksX8_round_6 0 rfl rfl)
theorem dX8_round_145 : decode cX8_round 145 = .ok (.getfield 19, 3) := dk_180 0 19 (dk_at dksX8_round_6 1 rfl rfl)
theorem dX8_round_148 : decode cX8_round 148 = .ok (.land, 1) := dk_127 (dk_at dksX8_round_6 4 rfl rfl)
theorem dX8_round_149 : decode cX8_round 149 = .ok (.lxor, 1) := dk_131 (dk_at dksX8_round_6 5 rfl rfl)
theorem dX8_round_150 : decode cX8_round 150 = .ok (.lstore 17, 2) := dk_55 17 (dk_at dksX8_round_6 6 rfl rfl)
theorem dX8_round_152 : decode cX8_round 152 = .ok (.aload_n 0, 1) := dk_42 (dk_at dksX8_round_6 8 rfl rfl)
theorem dX8_round_153 : decode cX8_round 153 = .ok (.lload 9, 2) := dk_22 9 (dk_at dksX8_round_6 9 rfl rfl)
theorem dX8_round_155 : decode cX8_round 155 = .ok (.lload 9, 2) := dk_22 9 (dk_at dksX8_round_6 11 rfl rfl)
theorem dX8_round_157 : decode cX8_round 157 = .ok (.bipush 19, 2) := dk_16 19 (dk_at dksX8_round_6 13 rfl rfl)
theorem dX8_round_159 : decode cX8_round 159 = .ok (.invokestatic 27, 3) := dk_184 0 27 (dk_at dksX8_round_6 15 rfl rfl)
theorem dX8_round_162 : decode cX8_round 162 = .ok (.lxor, 1) := dk_131 (dk_at dksX8_round_6 18 rfl rfl)
theorem dX8_round_163 : decode cX8_round 163 = .ok (.lload 9, 2) := dk_22 9 (dk_at dksX8_round_6 19 rfl rfl)
theorem dX8_round_165 : decode cX8_round 165 = .ok (.bipush 28, 2) := dk_16 28 (dk_at dksX8_round_6 21 rfl rfl)
theorem dX8_round_167 : decode cX8_round 167 = .ok (.invokestatic 27, 3) := dk_184 0 27 (dk_at dksX8_round_7 0 rfl rfl)
theorem dX8_round_170 : decode cX8_round 170 = .ok (.lxor, 1) := dk_131 (dk_at dksX8_round_7 3 rfl rfl)
theorem dX8_round_171 : decode cX8_round 171 = .ok (.putfield 13, 3) := dk_181 0 13 (dk_at dksX8_round_7 4 rfl rfl)
theorem dX8_round_174 : decode cX8_round 174 = .ok (.aload_n 0, 1) := dk_42 (dk_at dksX8_round_7 7 rfl rfl)
theorem dX8_round_175 : decode cX8_round 175 = .ok (.lload 11, 2) := dk_22 11 (dk_at dksX8_round_7 8 rfl rfl)
theorem dX8_round_177 : decode cX8_round 177 = .ok (.lload 11, 2) := dk_22 11 (dk_at dksX8_round_7 10 rfl rfl)
theorem dX8_round_179 : decode cX8_round 179 = .ok (.bipush 39, 2) := dk_16 39 (dk_at dksX8_round_7 12 rfl rfl)
theorem dX8_round_181 : decode cX8_round 181 = .ok (.invokestatic 27, 3) := dk_184 0 27 (dk_at dksX8_round_7 14 rfl rfl)
theorem dX8_round_184 : decode cX8_round 184 = .ok (.lxor, 1) := dk_131 (dk_at dksX8_round_7 17 rfl rfl)
theorem dX8_round_185 : decode cX8_round 185 = .ok (.lload 11, 2) := dk_22 11 (dk_at dksX8_round_7 18 rfl rfl)
theorem dX8_round_187 : decode cX8_round 187 = .ok (.bipush 61, 2) := dk_16 61 (dk_at dksX8_round_7 20 rfl rfl)
theorem dX8_round_189 : decode cX8_round 189 = .ok (.invokestatic 27, 3) := dk_184 0 27 (dk_at dksX8_round_8 0 rfl rfl)
theorem dX8_round_192 : decode cX8_round 192 = .ok (.lxor, 1) := dk_131 (dk_at dksX8_round_8 3 rfl rfl)
theorem dX8_round_193 : decode cX8_round 193 = .ok (.putfield 19, 3) := dk_181 0 19 (dk_at dksX8_round_8 4 rfl rfl)
theorem dX8_round_196 : decode cX8_round 196 = .ok (.aload_n 0, 1) := dk_42 (dk_at dksX8_round_8 7 rfl rfl)
theorem dX8_round_197 : decode cX8_round 197 = .ok (.lload 13, 2) := dk_22 13 (dk_at dksX8_round_8 8 rfl rfl)
theorem dX8_round_199 : decode cX8_round 199 = .ok (.lload 13, 2) := dk_22 13 (dk_at dksX8_round_8 10 rfl rfl)
theorem dX8_round_201 : decode cX8_round 201 = .ok (.iconst 1, 1) := dk_4 (dk_at dksX8_round_8 12 rfl rfl)
theorem dX8_round_202 : decode cX8_round 202 = .ok (.invokestatic 27, 3) := dk_184 0 27 (dk_at dksX8_round_8 13 rfl rfl)
theorem dX8_round_205 : decode cX8_round 205 = .ok (.lxor, 1) := dk_131 (dk_at dksX8_round_8 16 rfl rfl)
theorem dX8_round_206 : decode cX8_round 206 = .ok (.lload 13, 2) := dk_22 13 (dk_at dksX8_round_8 17 rfl rfl)
theorem dX8_round_208 : decode cX8_round 208 = .ok (.bipush 6, 2) := dk_16 6 (dk_at dksX8_round_8 19 rfl rfl)
theorem dX8_round_210 : decode cX8_round 210 = .ok (.invokestatic 27, 3) := dk_184 0 27 (dk_at dksX8_round_8 21 rfl rfl)
theorem dX8_round_213 : decode cX8_round 213 = .ok (.lxor, 1) := dk_131 (dk_at dksX8_round_9 0 rfl rfl)
theorem dX8_round_214 : decode cX8_round 214 = .ok (.ldc2_w 25, 3) := dk_20 0 25 (dk_at dksX8_round_9 1 rfl rfl)
theorem dX8_round_217 : decode cX8_round 217 = .ok (.lxor, 1) := dk_131 (dk_at dksX8_round_9 4 rfl rfl)
theorem dX8_round_218 : decode cX8_round 218 = .ok (.putfield 7, 3) := dk_181 0 7 (dk_at dksX8_round_9 5 rfl rfl)
theorem dX8_round_221 : decode cX8_round 221 = .ok (.aload_n 0, 1) := dk_42 (dk_at dksX8_round_9 8 rfl rfl)
theorem dX8_round_222 : decode cX8_round 222 = .ok (.lload 15, 2) := dk_22 15 (dk_at dksX8_round_9 9 rfl rfl)
theorem dX8_round_224 : decode cX8_round 224 = .ok (.lload 15, 2) := dk_22 15 (dk_at dksX8_round_9 11 rfl rfl)
theorem dX8_round_226 : decode cX8_round 226 = .ok (.bipush 10, 2) := dk_16 10 (dk_at dksX8_round_9 13 rfl rfl)
theorem dX8_round_228 : decode cX8_round 228 = .ok (.invokestatic 27, 3) := dk_184 0 27 (dk_at dksX8_round_9 15 rfl rfl)
theorem dX8_round_231 : decode cX8_round 231 = .ok (.lxor, 1) := dk_131 (dk_at dksX8_round_9 18 rfl rfl)
theorem dX8_round_232 : decode cX8_round 232 = .ok (.lload 15, 2) := dk_22 15 (dk_at dksX8_round_9 19 rfl rfl)
theorem dX8_round_234 : decode cX8_round 234 = .ok (.bipush 17, 2) := dk_16 17 (dk_at dksX8_round_9 21 rfl rfl)
theorem dX8_round_236 : decode cX8_round 236 = .ok (.invokestatic 27, 3) := dk_184 0 27 (dk_at dksX8_round_10 0 rfl rfl)
theorem dX8_round_239 : decode cX8_round 239 = .ok (.lxor, 1) := dk_131 (dk_at dksX8_round_10 3 rfl rfl)
theorem dX8_round_240 : decode cX8_round 240 = .ok (.putfield 22, 3) := dk_181 0 22 (dk_at dksX8_round_10 4 rfl rfl)
theorem dX8_round_243 : decode cX8_round 243 = .ok (.aload_n 0, 1) := dk_42 (dk_at dksX8_round_10 7 rfl rfl)
theorem dX8_round_244 : decode cX8_round 244 = .ok (.lload 17, 2) := dk_22 17 (dk_at dksX8_round_10 8 rfl rfl)
theorem dX8_round_246 : decode cX8_round 246 = .ok (.lload 17, 2) := dk_22 17 (dk_at dksX8_round_10 10 rfl rfl)
theorem dX8_round_248 : decode cX8_round 248 = .ok (.bipush 7, 2) := dk_16 7 (dk_at dksX8_round_10 12 rfl rfl)
theorem dX8_round_250 : decode cX8_round 250 = .ok (.invokestatic 27, 3) := dk_184 0 27 (dk_at dksX8_round_10 14 rfl rfl)
theorem dX8_round_253 : decode cX8_round 253 = .ok (.lxor, 1) := dk_131 (dk_at dksX8_round_10 17 rfl rfl)
theorem dX8_round_254 : decode cX8_round 254 = .ok (.lload 17, 2) := dk_22 17 (dk_at dksX8_round_10 18 rfl rfl)
theorem dX8_round_256 : decode cX8_round 256 = .ok (.bipush 41, 2) := dk_16 41 (dk_at dksX8_round_10 20 rfl rfl)
theorem dX8_round_258 : decode cX8_round 258 = .ok (.invokestatic 27, 3) := dk_184 0 27 (dk_at dksX8_round_11 0 rfl rfl)
theorem dX8_round_261 : decode cX8_round 261 = .ok (.lxor, 1) := dk_131 (dk_at dksX8_round_11 3 rfl rfl)
theorem dX8_round_262 : decode cX8_round 262 = .ok (.putfield 16, 3) := dk_181 0 16 (dk_at dksX8_round_11 4 rfl rfl)
theorem dX8_round_265 : decode cX8_round 265 = .ok (.return_, 1) := dk_177 (dk_at dksX8_round_11 7 rfl rfl)
theorem q21 : (Jvm.Cond.initialized "AsconPermutationFriend$AsconPermutation") ∈ lw_all := lw_g (lw_at lw_m1 15 rfl) rfl
theorem q156 : (Jvm.Cond.instantiable "AsconPermutationFriend$AsconPermutation" (5 : Nat)) ∈ lw_all := lw_g (lw_at lw_m1 150 rfl) rfl
theorem q158 : (Jvm.Cond.instanceMethod ({ cls := "AsconPermutationFriend$AsconPermutation", name := "<init>", desc := "()V" } : Jvm.MethodName)) ∈ lw_all := lw_g (lw_at lw_m1 152 rfl) rfl
theorem q159 : (Jvm.Cond.code ({ cls := "AsconPermutationFriend$AsconPermutation", name := "<init>", desc := "()V" } : Jvm.MethodName) prog_8_method_1_code (1 : Nat) (Option.none : Option Jvm.ClassFile.FieldType)) ∈ lw_all := lw_g (lw_at lw_m1 153 rfl) rfl
theorem q160 : (Jvm.Cond.methodLink "AsconPermutationFriend$AsconPermutation" (1 : Nat) ({ cls := "java/lang/Object", name := "<init>", desc := "()V" } : Jvm.MethodName)) ∈ lw_all := lw_g (lw_at lw_m1 154 rfl) rfl
theorem q161 : (Jvm.Cond.fieldLink "AsconPermutationFriend$AsconPermutation" (13 : Nat) "AsconPermutationFriend$AsconPermutation" "x0" "J") ∈ lw_all := lw_g (lw_at lw_m1 155 rfl) rfl
theorem q163 : (Jvm.Cond.fieldLink "AsconPermutationFriend$AsconPermutation" (19 : Nat) "AsconPermutationFriend$AsconPermutation" "x1" "J") ∈ lw_all := lw_g (lw_at lw_m1 157 rfl) rfl
theorem q164 : (Jvm.Cond.fieldLink "AsconPermutationFriend$AsconPermutation" (7 : Nat) "AsconPermutationFriend$AsconPermutation" "x2" "J") ∈ lw_all := lw_g (lw_at lw_m1 158 rfl) rfl
theorem q165 : (Jvm.Cond.fieldLink "AsconPermutationFriend$AsconPermutation" (22 : Nat) "AsconPermutationFriend$AsconPermutation" "x3" "J") ∈ lw_all := lw_g (lw_at lw_m1 159 rfl) rfl
theorem q166 : (Jvm.Cond.fieldLink "AsconPermutationFriend$AsconPermutation" (16 : Nat) "AsconPermutationFriend$AsconPermutation" "x4" "J") ∈ lw_all := lw_g (lw_at lw_m1 160 rfl) rfl
theorem q167 : (Jvm.Cond.lays "AsconPermutationFriend$AsconPermutation" "AsconPermutationFriend$AsconPermutation" "x0" "J") ∈ lw_all := lw_g (lw_at lw_m1 161 rfl) rfl
theorem q168 : (Jvm.Cond.soleField "AsconPermutationFriend$AsconPermutation" "x0") ∈ lw_all := lw_g (lw_at lw_m1 162 rfl) rfl
theorem q169 : (Jvm.Cond.lays "AsconPermutationFriend$AsconPermutation" "AsconPermutationFriend$AsconPermutation" "x1" "J") ∈ lw_all := lw_g (lw_at lw_m1 163 rfl) rfl
theorem q170 : (Jvm.Cond.soleField "AsconPermutationFriend$AsconPermutation" "x1") ∈ lw_all := lw_g (lw_at lw_m1 164 rfl) rfl
theorem q171 : (Jvm.Cond.lays "AsconPermutationFriend$AsconPermutation" "AsconPermutationFriend$AsconPermutation" "x2" "J") ∈ lw_all := lw_g (lw_at lw_m1 165 rfl) rfl
theorem q172 : (Jvm.Cond.soleField "AsconPermutationFriend$AsconPermutation" "x2") ∈ lw_all := lw_g (lw_at lw_m1 166 rfl) rfl
theorem q173 : (Jvm.Cond.lays "AsconPermutationFriend$AsconPermutation" "AsconPermutationFriend$AsconPermutation" "x3" "J") ∈ lw_all := lw_g (lw_at lw_m1 167 rfl) rfl
theorem q174 : (Jvm.Cond.soleField "AsconPermutationFriend$AsconPermutation" "x3") ∈ lw_all := lw_g (lw_at lw_m1 168 rfl) rfl
theorem q175 : (Jvm.Cond.lays "AsconPermutationFriend$AsconPermutation" "AsconPermutationFriend$AsconPermutation" "x4" "J") ∈ lw_all := lw_g (lw_at lw_m1 169 rfl) rfl
theorem q176 : (Jvm.Cond.soleField "AsconPermutationFriend$AsconPermutation" "x4") ∈ lw_all := lw_g (lw_at lw_m1 170 rfl) rfl
theorem q177 : (Jvm.Cond.superclass "AsconPermutationFriend$AsconPermutation" "java/lang/Object") ∈ lw_all := lw_g (lw_at lw_m1 171 rfl) rfl
theorem q202 : (Jvm.Cond.instanceMethod ({ cls := "AsconPermutationFriend$AsconPermutation", name := "set", desc := "(JJJJJ)V" } : Jvm.MethodName)) ∈ lw_all := lw_g (lw_at lw_m1 196 rfl) rfl
theorem q203 : (Jvm.Cond.selects "AsconPermutationFriend$AsconPermutation" ({ cls := "AsconPermutationFriend$AsconPermutation", name := "set", desc := "(JJJJJ)V" } : Jvm.MethodName) ({ cls := "AsconPermutationFriend$AsconPermutation", name := "set", desc := "(JJJJJ)V" } : Jvm.MethodName)) ∈ lw_all := lw_g (lw_at lw_m1 197 rfl) rfl
theorem q204 : (Jvm.Cond.code ({ cls := "AsconPermutationFriend$AsconPermutation", name := "set", desc := "(JJJJJ)V" } : Jvm.MethodName) prog_8_method_4_code (11 : Nat) (Option.none : Option Jvm.ClassFile.FieldType)) ∈ lw_all := lw_g (lw_at lw_m1 198 rfl) rfl
theorem q380 : (Jvm.Cond.instanceMethod ({ cls := "AsconPermutationFriend$AsconPermutation", name := "p", desc := "(I)V" } : Jvm.MethodName)) ∈ lw_all := lw_g (lw_at lw_m2 134 rfl) rfl
theorem q381 : (Jvm.Cond.selects "AsconPermutationFriend$AsconPermutation" ({ cls := "AsconPermutationFriend$AsconPermutation", name := "p", desc := "(I)V" } : Jvm.MethodName) ({ cls := "AsconPermutationFriend$AsconPermutation", name := "p", desc := "(I)V" } : Jvm.MethodName)) ∈ lw_all := lw_g (lw_at lw_m2 135 rfl) rfl
theorem q382 : (Jvm.Cond.code ({ cls := "AsconPermutationFriend$AsconPermutation", name := "p", desc := "(I)V" } : Jvm.MethodName) prog_8_method_3_code (2 : Nat) (Option.none : Option Jvm.ClassFile.FieldType)) ∈ lw_all := lw_g (lw_at lw_m2 136 rfl) rfl
theorem q383 : (Jvm.Cond.constantLong "AsconPermutationFriend$AsconPermutation" (33 : Nat) (240 : Int64)) ∈ lw_all := lw_g (lw_at lw_m2 137 rfl) rfl
theorem q384 : (Jvm.Cond.methodLink "AsconPermutationFriend$AsconPermutation" (35 : Nat) ({ cls := "AsconPermutationFriend$AsconPermutation", name := "round", desc := "(J)V" } : Jvm.MethodName)) ∈ lw_all := lw_g (lw_at lw_m2 138 rfl) rfl
theorem q385 : (Jvm.Cond.instanceMethod ({ cls := "AsconPermutationFriend$AsconPermutation", name := "round", desc := "(J)V" } : Jvm.MethodName)) ∈ lw_all := lw_g (lw_at lw_m2 139 rfl) rfl
theorem q386 : (Jvm.Cond.selects "AsconPermutationFriend$AsconPermutation" ({ cls := "AsconPermutationFriend$AsconPermutation", name := "round", desc := "(J)V" } : Jvm.MethodName) ({ cls := "AsconPermutationFriend$AsconPermutation", name := "round", desc := "(J)V" } : Jvm.MethodName)) ∈ lw_all := lw_g (lw_at lw_m2 140 rfl) rfl
theorem q387 : (Jvm.Cond.code ({ cls := "AsconPermutationFriend$AsconPermutation", name := "round", desc := "(J)V" } : Jvm.MethodName) prog_8_method_2_code (19 : Nat) (Option.none : Option Jvm.ClassFile.FieldType)) ∈ lw_all := lw_g (lw_at lw_m2 141 rfl) rfl
theorem q388 : (Jvm.Cond.constantLong "AsconPermutationFriend$AsconPermutation" (25 : Nat) (-1 : Int64)) ∈ lw_all := lw_g (lw_at lw_m2 142 rfl) rfl
theorem q389 : (Jvm.Cond.methodLink "AsconPermutationFriend$AsconPermutation" (27 : Nat) ({ cls := "Longs", name := "rotateRight", desc := "(JI)J" } : Jvm.MethodName)) ∈ lw_all := lw_g (lw_at lw_m2 143 rfl) rfl
theorem q395 : (Jvm.Cond.constantLong "AsconPermutationFriend$AsconPermutation" (39 : Nat) (225 : Int64)) ∈ lw_all := lw_g (lw_at lw_m2 149 rfl) rfl
theorem q396 : (Jvm.Cond.constantLong "AsconPermutationFriend$AsconPermutation" (41 : Nat) (210 : Int64)) ∈ lw_all := lw_g (lw_at lw_m2 150 rfl) rfl
theorem q397 : (Jvm.Cond.constantLong "AsconPermutationFriend$AsconPermutation" (43 : Nat) (195 : Int64)) ∈ lw_all := lw_g (lw_at lw_m2 151 rfl) rfl
theorem q398 : (Jvm.Cond.constantLong "AsconPermutationFriend$AsconPermutation" (45 : Nat) (180 : Int64)) ∈ lw_all := lw_g (lw_at lw_m2 152 rfl) rfl
theorem q399 : (Jvm.Cond.constantLong "AsconPermutationFriend$AsconPermutation" (47 : Nat) (165 : Int64)) ∈ lw_all := lw_g (lw_at lw_m2 153 rfl) rfl
theorem q400 : (Jvm.Cond.constantLong "AsconPermutationFriend$AsconPermutation" (49 : Nat) (150 : Int64)) ∈ lw_all := lw_g (lw_at lw_m2 154 rfl) rfl
theorem q401 : (Jvm.Cond.constantLong "AsconPermutationFriend$AsconPermutation" (51 : Nat) (135 : Int64)) ∈ lw_all := lw_g (lw_at lw_m2 155 rfl) rfl
theorem q402 : (Jvm.Cond.constantLong "AsconPermutationFriend$AsconPermutation" (53 : Nat) (120 : Int64)) ∈ lw_all := lw_g (lw_at lw_m2 156 rfl) rfl
theorem q403 : (Jvm.Cond.constantLong "AsconPermutationFriend$AsconPermutation" (55 : Nat) (105 : Int64)) ∈ lw_all := lw_g (lw_at lw_m2 157 rfl) rfl
theorem q404 : (Jvm.Cond.constantLong "AsconPermutationFriend$AsconPermutation" (57 : Nat) (90 : Int64)) ∈ lw_all := lw_g (lw_at lw_m2 158 rfl) rfl
theorem q405 : (Jvm.Cond.constantLong "AsconPermutationFriend$AsconPermutation" (59 : Nat) (75 : Int64)) ∈ lw_all := lw_g (lw_at lw_m2 159 rfl) rfl
theorem in_X8 : ∀ w ∈ wsX80, w ∈ lw_all := lw_in wsX80 [167, 169, 171, 173, 175] (by decide +kernel) (by decide +kernel)

/-! OwnArrays -/
set_option maxRecDepth 100000
def RX9 : String := "OwnArrays"
abbrev cX9_clear : ByteArray := prog_21_method_1_code
def yX9_clear : MethodName := ⟨RX9, "clear", "([B)V"⟩
def dkwX9_clear_0 : List UInt8 := [1, 42, 165, 0, 8, 42, 3, 184, 0, 1, 177]
abbrev dktX9_clear_0 : List UInt8 := dkwX9_clear_0 ++ []
theorem dksX9_clear_0 : cX9_clear.data.toList.drop 0 = dktX9_clear_0 := by decide +kernel
theorem dX9_clear_0 : decode cX9_clear 0 = .ok (.aconst_null, 1) := dk_1 (dk_at dksX9_clear_0 0 rfl rfl)
theorem dX9_clear_1 : decode cX9_clear 1 = .ok (.aload_n 0, 1) := dk_42 (dk_at dksX9_clear_0 1 rfl rfl)
theorem dX9_clear_2 : decode cX9_clear 2 = .ok (.if_acmp .eq 8, 3) := dk_165 0 8 (dk_at dksX9_clear_0 2 rfl rfl)
theorem dX9_clear_5 : decode cX9_clear 5 = .ok (.aload_n 0, 1) := dk_42 (dk_at dksX9_clear_0 5 rfl rfl)
theorem dX9_clear_6 : decode cX9_clear 6 = .ok (.iconst 0, 1) := dk_3 (dk_at dksX9_clear_0 6 rfl rfl)
theorem dX9_clear_7 : decode cX9_clear 7 = .ok (.invokestatic 1, 3) := dk_184 0 1 (dk_at dksX9_clear_0 7 rfl rfl)
theorem dX9_clear_10 : decode cX9_clear 10 = .ok (.return_, 1) := dk_177 (dk_at dksX9_clear_0 10 rfl rfl)
theorem q22 : (Jvm.Cond.initialized "OwnArrays") ∈ lw_all := lw_g (lw_at lw_m1 16 rfl) rfl
theorem q191 : (Jvm.Cond.static ({ cls := "OwnArrays", name := "clear", desc := "([B)V" } : Jvm.MethodName)) ∈ lw_all := lw_g (lw_at lw_m1 185 rfl) rfl
theorem q192 : (Jvm.Cond.code ({ cls := "OwnArrays", name := "clear", desc := "([B)V" } : Jvm.MethodName) prog_21_method_1_code (1 : Nat) (Option.none : Option Jvm.ClassFile.FieldType)) ∈ lw_all := lw_g (lw_at lw_m1 186 rfl) rfl
theorem q193 : (Jvm.Cond.methodLink "OwnArrays" (1 : Nat) ({ cls := "java/util/Arrays", name := "fill", desc := "([BB)V" } : Jvm.MethodName)) ∈ lw_all := lw_g (lw_at lw_m1 187 rfl) rfl

/-! Pack -/
set_option maxRecDepth 100000
def RX13 : String := "Pack"
abbrev cX13_littleEndianToLong : ByteArray := prog_22_method_8_code
def yX13_littleEndianToLong : MethodName := ⟨RX13, "littleEndianToLong", "([BI)J"⟩
def dkwX13_littleEndianToLong_1 : List UInt8 := [133, 20, 0, 13, 127, 129, 173]
abbrev dktX13_littleEndianToLong_1 : List UInt8 := dkwX13_littleEndianToLong_1 ++ []
def dkwX13_littleEndianToLong_0 : List UInt8 := [42, 27, 184, 0, 19, 61, 42, 27, 7, 96, 184, 0, 19, 62, 29, 133, 20, 0, 13, 127, 16, 32, 121, 28]
abbrev dktX13_littleEndianToLong_0 : List UInt8 := dkwX13_littleEndianToLong_0 ++ dktX13_littleEndianToLong_1
theorem dksX13_littleEndianToLong_0 : cX13_littleEndianToLong.data.toList.drop 0 = dktX13_littleEndianToLong_0 := by decide +kernel
theorem dksX13_littleEndianToLong_1 : cX13_littleEndianToLong.data.toList.drop 24 = dktX13_littleEndianToLong_1 := dk_seg dksX13_littleEndianToLong_0 24 rfl rfl
theorem dX13_littleEndianToLong_0 : decode cX13_littleEndianToLong 0 = .ok (.aload_n 0, 1) := dk_42 (dk_at dksX13_littleEndianToLong_0 0 rfl rfl)
theorem dX13_littleEndianToLong_1 : decode cX13_littleEndianToLong 1 = .ok (.iload_n 1, 1) := dk_27 (dk_at dksX13_littleEndianToLong_0 1 rfl rfl)
theorem dX13_littleEndianToLong_2 : decode cX13_littleEndianToLong 2 = .ok (.invokestatic 19, 3) := dk_184 0 19 (dk_at dksX13_littleEndianToLong_0 2 rfl rfl)
theorem dX13_littleEndianToLong_5 : decode cX13_littleEndianToLong 5 = .ok (.istore_n 2, 1) := dk_61 (dk_at dksX13_littleEndianToLong_0 5 rfl rfl)
theorem dX13_littleEndianToLong_6 : decode cX13_littleEndianToLong 6 = .ok (.aload_n 0, 1) := dk_42 (dk_at dksX13_littleEndianToLong_0 6 rfl rfl)
theorem dX13_littleEndianToLong_7 : decode cX13_littleEndianToLong 7 = .ok (.iload_n 1, 1) := dk_27 (dk_at dksX13_littleEndianToLong_0 7 rfl rfl)
theorem dX13_littleEndianToLong_8 : decode cX13_littleEndianToLong 8 = .ok (.iconst 4, 1) := dk_7 (dk_at dksX13_littleEndianToLong_0 8 rfl rfl)
theorem dX13_littleEndianToLong_9 : decode cX13_littleEndianToLong 9 = .ok (.iadd, 1) := dk_96 (dk_at dksX13_littleEndianToLong_0 9 rfl rfl)
theorem dX13_littleEndianToLong_10 : decode cX13_littleEndianToLong 10 = .ok (.invokestatic 19, 3) := dk_184 0 19 (dk_at dksX13_littleEndianToLong_0 10 rfl rfl)
theorem dX13_littleEndianToLong_13 : decode cX13_littleEndianToLong 13 = .ok (.istore_n 3, 1) := dk_62 (dk_at dksX13_littleEndianToLong_0 13 rfl rfl)
theorem dX13_littleEndianToLong_14 : decode cX13_littleEndianToLong 14 = .ok (.iload_n 3, 1) := dk_29 (dk_at dksX13_littleEndianToLong_0 14 rfl rfl)
theorem dX13_littleEndianToLong_15 : decode cX13_littleEndianToLong 15 = .ok (.i2l, 1) := dk_133 (dk_at dksX13_littleEndianToLong_0 15 rfl rfl)
theorem dX13_littleEndianToLong_16 : decode cX13_littleEndianToLong 16 = .ok (.ldc2_w 13, 3) := dk_20 0 13 (dk_at dksX13_littleEndianToLong_0 16 rfl rfl)
theorem dX13_littleEndianToLong_19 : decode cX13_littleEndianToLong 19 = .ok (.land, 1) := dk_127 (dk_at dksX13_littleEndianToLong_0 19 rfl rfl)
theorem dX13_littleEndianToLong_20 : decode cX13_littleEndianToLong 20 = .ok (.bipush 32, 2) := dk_16 32 (dk_at dksX13_littleEndianToLong_0 20 rfl rfl)
theorem dX13_littleEndianToLong_22 : decode cX13_littleEndianToLong 22 = .ok (.lshl, 1) := dk_121 (dk_at dksX13_littleEndianToLong_0 22 rfl rfl)
theorem dX13_littleEndianToLong_23 : decode cX13_littleEndianToLong 23 = .ok (.iload_n 2, 1) := dk_28 (dk_at dksX13_littleEndianToLong_0 23 rfl rfl)
theorem dX13_littleEndianToLong_24 : decode cX13_littleEndianToLong 24 = .ok (.i2l, 1) := dk_133 (dk_at dksX13_littleEndianToLong_1 0 rfl rfl)
theorem dX13_littleEndianToLong_25 : decode cX13_littleEndianToLong 25 = .ok (.ldc2_w 13, 3) := dk_20 0 13 (dk_at dksX13_littleEndianToLong_1 1 rfl rfl)
theorem dX13_littleEndianToLong_28 : decode cX13_littleEndianToLong 28 = .ok (.land, 1) := dk_127 (dk_at dksX13_littleEndianToLong_1 4 rfl rfl)
theorem dX13_littleEndianToLong_29 : decode cX13_littleEndianToLong 29 = .ok (.lor, 1) := dk_129 (dk_at dksX13_littleEndianToLong_1 5 rfl rfl)
theorem dX13_littleEndianToLong_30 : decode cX13_littleEndianToLong 30 = .ok (.lreturn, 1) := dk_173 (dk_at dksX13_littleEndianToLong_1 6 rfl rfl)
abbrev cX13_littleEndianToInt : ByteArray := prog_22_method_6_code
def yX13_littleEndianToInt : MethodName := ⟨RX13, "littleEndianToInt", "([BI)I"⟩
def dkwX13_littleEndianToInt_2 : List UInt8 := [16, 24, 120, 128, 61, 28, 172]
abbrev dktX13_littleEndianToInt_2 : List UInt8 := dkwX13_littleEndianToInt_2 ++ []
def dkwX13_littleEndianToInt_1 : List UInt8 := [28, 42, 132, 1, 1, 27, 51, 17, 0, 255, 126, 16, 16, 120, 128, 61, 28, 42, 132, 1, 1, 27, 51]
abbrev dktX13_littleEndianToInt_1 : List UInt8 := dkwX13_littleEndianToInt_1 ++ dktX13_littleEndianToInt_2
def dkwX13_littleEndianToInt_0 : List UInt8 := [42, 27, 51, 17, 0, 255, 126, 61, 28, 42, 132, 1, 1, 27, 51, 17, 0, 255, 126, 16, 8, 120, 128, 61]
abbrev dktX13_littleEndianToInt_0 : List UInt8 := dkwX13_littleEndianToInt_0 ++ dktX13_littleEndianToInt_1
theorem dksX13_littleEndianToInt_0 : cX13_littleEndianToInt.data.toList.drop 0 = dktX13_littleEndianToInt_0 := by decide +kernel
theorem dksX13_littleEndianToInt_1 : cX13_littleEndianToInt.data.toList.drop 24 = dktX13_littleEndianToInt_1 := dk_seg dksX13_littleEndianToInt_0 24 rfl rfl
theorem dksX13_littleEndianToInt_2 : cX13_littleEndianToInt.data.toList.drop 47 = dktX13_littleEndianToInt_2 := dk_seg dksX13_littleEndianToInt_1 23 rfl rfl
theorem dX13_littleEndianToInt_0 : decode cX13_littleEndianToInt 0 = .ok (.aload_n 0, 1) := dk_42 (dk_at dksX13_littleEndianToInt_0 0 rfl rfl)
theorem dX13_littleEndianToInt_1 : decode cX13_littleEndianToInt 1 = .ok (.iload_n 1, 1) := dk_27 (dk_at dksX13_littleEndianToInt_0 1 rfl rfl)
theorem dX13_littleEndianToInt_2 : decode cX13_littleEndianToInt 2 = .ok (.baload, 1) := dk_51 (dk_at dksX13_littleEndianToInt_0 2 rfl rfl)
theorem dX13_littleEndianToInt_3 : decode cX13_littleEndianToInt 3 = .ok (.sipush 255, 3) := dk_17 0 255 (dk_at dksX13_littleEndianToInt_0 3 rfl rfl)
theorem dX13_littleEndianToInt_6 : decode cX13_littleEndianToInt 6 = .ok (.iand, 1) := dk_126 (dk_at dksX13_littleEndianToInt_0 6 rfl rfl)
theorem dX13_littleEndianToInt_7 : decode cX13_littleEndianToInt 7 = .ok (.istore_n 2, 1) := dk_61 (dk_at dksX13_littleEndianToInt_0 7 rfl rfl)
theorem dX13_littleEndianToInt_8 : decode cX13_littleEndianToInt 8 = .ok (.iload_n 2, 1) := dk_28 (dk_at dksX13_littleEndianToInt_0 8 rfl rfl)
theorem dX13_littleEndianToInt_9 : decode cX13_littleEndianToInt 9 = .ok (.aload_n 0, 1) := dk_42 (dk_at dksX13_littleEndianToInt_0 9 rfl rfl)
theorem dX13_littleEndianToInt_10 : decode cX13_littleEndianToInt 10 = .ok (.iinc 1 1, 3) := dk_132 1 1 (dk_at dksX13_littleEndianToInt_0 10 rfl rfl)
theorem dX13_littleEndianToInt_13 : decode cX13_littleEndianToInt 13 = .ok (.iload_n 1, 1) := dk_27 (dk_at dksX13_littleEndianToInt_0 13 rfl rfl)
theorem dX13_littleEndianToInt_14 : decode cX13_littleEndianToInt 14 = .ok (.baload, 1) := dk_51 (dk_at dksX13_littleEndianToInt_0 14 rfl rfl)
theorem dX13_littleEndianToInt_15 : decode cX13_littleEndianToInt 15 = .ok (.sipush 255, 3) := dk_17 0 255 (dk_at dksX13_littleEndianToInt_0 15 rfl rfl)
theorem dX13_littleEndianToInt_18 : decode cX13_littleEndianToInt 18 = .ok (.iand, 1) := dk_126 (dk_at dksX13_littleEndianToInt_0 18 rfl rfl)
theorem dX13_littleEndianToInt_19 : decode cX13_littleEndianToInt 19 = .ok (.bipush 8, 2) := dk_16 8 (dk_at dksX13_littleEndianToInt_0 19 rfl rfl)
theorem dX13_littleEndianToInt_21 : decode cX13_littleEndianToInt 21 = .ok (.ishl, 1) := dk_120 (dk_at dksX13_littleEndianToInt_0 21 rfl rfl)
theorem dX13_littleEndianToInt_22 : decode cX13_littleEndianToInt 22 = .ok (.ior, 1) := dk_128 (dk_at dksX13_littleEndianToInt_0 22 rfl rfl)
theorem dX13_littleEndianToInt_23 : decode cX13_littleEndianToInt 23 = .ok (.istore_n 2, 1) := dk_61 (dk_at dksX13_littleEndianToInt_0 23 rfl rfl)
theorem dX13_littleEndianToInt_24 : decode cX13_littleEndianToInt 24 = .ok (.iload_n 2, 1) := dk_28 (dk_at dksX13_littleEndianToInt_1 0 rfl rfl)
theorem dX13_littleEndianToInt_25 : decode cX13_littleEndianToInt 25 = .ok (.aload_n 0, 1) := dk_42 (dk_at dksX13_littleEndianToInt_1 1 rfl rfl)
theorem dX13_littleEndianToInt_26 : decode cX13_littleEndianToInt 26 = .ok (.iinc 1 1, 3) := dk_132 1 1 (dk_at dksX13_littleEndianToInt_1 2 rfl rfl)
theorem dX13_littleEndianToInt_29 : decode cX13_littleEndianToInt 29 = .ok (.iload_n 1, 1) := dk_27 (dk_at dksX13_littleEndianToInt_1 5 rfl rfl)
theorem dX13_littleEndianToInt_30 : decode cX13_littleEndianToInt 30 = .ok (.baload, 1) := dk_51 (dk_at dksX13_littleEndianToInt_1 6 rfl rfl)
theorem dX13_littleEndianToInt_31 : decode cX13_littleEndianToInt 31 = .ok (.sipush 255, 3) := dk_17 0 255 (dk_at dksX13_littleEndianToInt_1 7 rfl rfl)
theorem dX13_littleEndianToInt_34 : decode cX13_littleEndianToInt 34 = .ok (.iand, 1) := dk_126 (dk_at dksX13_littleEndianToInt_1 10 rfl rfl)
theorem dX13_littleEndianToInt_35 : decode cX13_littleEndianToInt 35 = .ok (.bipush 16, 2) := dk_16 16 (dk_at dksX13_littleEndianToInt_1 11 rfl rfl)
theorem dX13_littleEndianToInt_37 : decode cX13_littleEndianToInt 37 = .ok (.ishl, 1) := dk_120 (dk_at dksX13_littleEndianToInt_1 13 rfl rfl)
theorem dX13_littleEndianToInt_38 : decode cX13_littleEndianToInt 38 = .ok (.ior, 1) := dk_128 (dk_at dksX13_littleEndianToInt_1 14 rfl rfl)
theorem dX13_littleEndianToInt_39 : decode cX13_littleEndianToInt 39 = .ok (.istore_n 2, 1) := dk_61 (dk_at dksX13_littleEndianToInt_1 15 rfl rfl)
theorem dX13_littleEndianToInt_40 : decode cX13_littleEndianToInt 40 = .ok (.iload_n 2, 1) := dk_28 (dk_at dksX13_littleEndianToInt_1 16 rfl rfl)
theorem dX13_littleEndianToInt_41 : decode cX13_littleEndianToInt 41 = .ok (.aload_n 0, 1) := dk_42 (dk_at dksX13_littleEndianToInt_1 17 rfl rfl)
theorem dX13_littleEndianToInt_42 : decode cX13_littleEndianToInt 42 = .ok (.iinc 1 1, 3) := dk_132 1 1 (dk_at dksX13_littleEndianToInt_1 18 rfl rfl)
theorem dX13_littleEndianToInt_45 : decode cX13_littleEndianToInt 45 = .ok (.iload_n 1, 1) := dk_27 (dk_at dksX13_littleEndianToInt_1 21 rfl rfl)
theorem dX13_littleEndianToInt_46 : decode cX13_littleEndianToInt 46 = .ok (.baload, 1) := dk_51 (dk_at dksX13_littleEndianToInt_1 22 rfl rfl)
theorem dX13_littleEndianToInt_47 : decode cX13_littleEndianToInt 47 = .ok (.bipush 24, 2) := dk_16 24 (dk_at dksX13_littleEndianToInt_2 0 rfl rfl)
theorem dX13_littleEndianToInt_49 : decode cX13_littleEndianToInt 49 = .ok (.ishl, 1) := dk_120 (dk_at dksX13_littleEndianToInt_2 2 rfl rfl)
theorem dX13_littleEndianToInt_50 : decode cX13_littleEndianToInt 50 = .ok (.ior, 1) := dk_128 (dk_at dksX13_littleEndianToInt_2 3 rfl rfl)
theorem dX13_littleEndianToInt_51 : decode cX13_littleEndianToInt 51 = .ok (.istore_n 2, 1) := dk_61 (dk_at dksX13_littleEndianToInt_2 4 rfl rfl)
theorem dX13_littleEndianToInt_52 : decode cX13_littleEndianToInt 52 = .ok (.iload_n 2, 1) := dk_28 (dk_at dksX13_littleEndianToInt_2 5 rfl rfl)
theorem dX13_littleEndianToInt_53 : decode cX13_littleEndianToInt 53 = .ok (.ireturn, 1) := dk_172 (dk_at dksX13_littleEndianToInt_2 6 rfl rfl)
abbrev cX13_littleEndianToLong_Low : ByteArray := prog_22_method_9_code
def yX13_littleEndianToLong_Low : MethodName := ⟨RX13, "littleEndianToLong_Low", "([BII)J"⟩
def dkwX13_littleEndianToLong_Low_2 : List UInt8 := [173]
abbrev dktX13_littleEndianToLong_Low_2 : List UInt8 := dkwX13_littleEndianToLong_Low_2 ++ []
def dkwX13_littleEndianToLong_Low_1 : List UInt8 := [33, 42, 27, 21, 6, 96, 51, 133, 20, 0, 22, 127, 21, 5, 121, 129, 66, 132, 6, 1, 167, 255, 227, 33]
abbrev dktX13_littleEndianToLong_Low_1 : List UInt8 := dkwX13_littleEndianToLong_Low_1 ++ dktX13_littleEndianToLong_Low_2
def dkwX13_littleEndianToLong_Low_0 : List UInt8 := [42, 27, 51, 133, 20, 0, 22, 127, 66, 3, 54, 5, 4, 54, 6, 21, 6, 28, 162, 0, 29, 132, 5, 8]
abbrev dktX13_littleEndianToLong_Low_0 : List UInt8 := dkwX13_littleEndianToLong_Low_0 ++ dktX13_littleEndianToLong_Low_1
theorem dksX13_littleEndianToLong_Low_0 : cX13_littleEndianToLong_Low.data.toList.drop 0 = dktX13_littleEndianToLong_Low_0 := by decide +kernel
theorem dksX13_littleEndianToLong_Low_1 : cX13_littleEndianToLong_Low.data.toList.drop 24 = dktX13_littleEndianToLong_Low_1 := dk_seg dksX13_littleEndianToLong_Low_0 24 rfl rfl
theorem dksX13_littleEndianToLong_Low_2 : cX13_littleEndianToLong_Low.data.toList.drop 48 = dktX13_littleEndianToLong_Low_2 := dk_seg dksX13_littleEndianToLong_Low_1 24 rfl rfl
theorem dX13_littleEndianToLong_Low_0 : decode cX13_littleEndianToLong_Low 0 = .ok (.aload_n 0, 1) := dk_42 (dk_at dksX13_littleEndianToLong_Low_0 0 rfl rfl)
theorem dX13_littleEndianToLong_Low_1 : decode cX13_littleEndianToLong_Low 1 = .ok (.iload_n 1, 1) := dk_27 (dk_at dksX13_littleEndianToLong_Low_0 1 rfl rfl)
theorem dX13_littleEndianToLong_Low_2 : decode cX13_littleEndianToLong_Low 2 = .ok (.baload, 1) := dk_51 (dk_at dksX13_littleEndianToLong_Low_0 2 rfl rfl)
theorem dX13_littleEndianToLong_Low_3 : decode cX13_littleEndianToLong_Low 3 = .ok (.i2l, 1) := dk_133 (dk_at dksX13_littleEndianToLong_Low_0 3 rfl rfl)
theorem dX13_littleEndianToLong_Low_4 : decode cX13_littleEndianToLong_Low 4 = .ok (.ldc2_w 22, 3) := dk_20 0 22 (dk_at dksX13_littleEndianToLong_Low_0 4 rfl rfl)
theorem dX13_littleEndianToLong_Low_7 : decode cX13_littleEndianToLong_Low 7 = .ok (.land, 1) := dk_127 (dk_at dksX13_littleEndianToLong_Low_0 7 rfl rfl)
theorem dX13_littleEndianToLong_Low_8 : decode cX13_littleEndianToLong_Low 8 = .ok (.lstore_n 3, 1) := dk_66 (dk_at dksX13_littleEndianToLong_Low_0 8 rfl rfl)
theorem dX13_littleEndianToLong_Low_9 : decode cX13_littleEndianToLong_Low 9 = .ok (.iconst 0, 1) := dk_3 (dk_at dksX13_littleEndianToLong_Low_0 9 rfl rfl)
theorem dX13_littleEndianToLong_Low_10 : decode cX13_littleEndianToLong_Low 10 = .ok (.istore 5, 2) := dk_54 5 (dk_at dksX13_littleEndianToLong_Low_0 10 rfl rfl)
theorem dX13_littleEndianToLong_Low_12 : decode cX13_littleEndianToLong_Low 12 = .ok (.iconst 1, 1) := dk_4 (dk_at dksX13_littleEndianToLong_Low_0 12 rfl rfl)
theorem dX13_littleEndianToLong_Low_13 : decode cX13_littleEndianToLong_Low 13 = .ok (.istore 6, 2) := dk_54 6 (dk_at dksX13_littleEndianToLong_Low_0 13 rfl rfl)
theorem dX13_littleEndianToLong_Low_15 : decode cX13_littleEndianToLong_Low 15 = .ok (.iload 6, 2) := dk_21 6 (dk_at dksX13_littleEndianToLong_Low_0 15 rfl rfl)
theorem dX13_littleEndianToLong_Low_17 : decode cX13_littleEndianToLong_Low 17 = .ok (.iload_n 2, 1) := dk_28 (dk_at dksX13_littleEndianToLong_Low_0 17 rfl rfl)
theorem dX13_littleEndianToLong_Low_18 : decode cX13_littleEndianToLong_Low 18 = .ok (.if_icmp .ge 29, 3) := dk_162 0 29 (dk_at dksX13_littleEndianToLong_Low_0 18 rfl rfl)
theorem dX13_littleEndianToLong_Low_21 : decode cX13_littleEndianToLong_Low 21 = .ok (.iinc 5 8, 3) := dk_132 5 8 (dk_at dksX13_littleEndianToLong_Low_0 21 rfl rfl)
theorem dX13_littleEndianToLong_Low_24 : decode cX13_littleEndianToLong_Low 24 = .ok (.lload_n 3, 1) := dk_33 (dk_at dksX13_littleEndianToLong_Low_1 0 rfl rfl)
theorem dX13_littleEndianToLong_Low_25 : decode cX13_littleEndianToLong_Low 25 = .ok (.aload_n 0, 1) := dk_42 (dk_at dksX13_littleEndianToLong_Low_1 1 rfl rfl)
theorem dX13_littleEndianToLong_Low_26 : decode cX13_littleEndianToLong_Low 26 = .ok (.iload_n 1, 1) := dk_27 (dk_at dksX13_littleEndianToLong_Low_1 2 rfl rfl)
theorem dX13_littleEndianToLong_Low_27 : decode cX13_littleEndianToLong_Low 27 = .ok (.iload 6, 2) := dk_21 6 (dk_at dksX13_littleEndianToLong_Low_1 3 rfl rfl)
theorem dX13_littleEndianToLong_Low_29 : decode cX13_littleEndianToLong_Low 29 = .ok (.iadd, 1) := dk_96 (dk_at dksX13_littleEndianToLong_Low_1 5 rfl rfl)
theorem dX13_littleEndianToLong_Low_30 : decode cX13_littleEndianToLong_Low 30 = .ok (.baload, 1) := dk_51 (dk_at dksX13_littleEndianToLong_Low_1 6 rfl rfl)
theorem dX13_littleEndianToLong_Low_31 : decode cX13_littleEndianToLong_Low 31 = .ok (.i2l, 1) := dk_133 (dk_at dksX13_littleEndianToLong_Low_1 7 rfl rfl)
theorem dX13_littleEndianToLong_Low_32 : decode cX13_littleEndianToLong_Low 32 = .ok (.ldc2_w 22, 3) := dk_20 0 22 (dk_at dksX13_littleEndianToLong_Low_1 8 rfl rfl)
theorem dX13_littleEndianToLong_Low_35 : decode cX13_littleEndianToLong_Low 35 = .ok (.land, 1) := dk_127 (dk_at dksX13_littleEndianToLong_Low_1 11 rfl rfl)
theorem dX13_littleEndianToLong_Low_36 : decode cX13_littleEndianToLong_Low 36 = .ok (.iload 5, 2) := dk_21 5 (dk_at dksX13_littleEndianToLong_Low_1 12 rfl rfl)
theorem dX13_littleEndianToLong_Low_38 : decode cX13_littleEndianToLong_Low 38 = .ok (.lshl, 1) := dk_121 (dk_at dksX13_littleEndianToLong_Low_1 14 rfl rfl)
theorem dX13_littleEndianToLong_Low_39 : decode cX13_littleEndianToLong_Low 39 = .ok (.lor, 1) := dk_129 (dk_at dksX13_littleEndianToLong_Low_1 15 rfl rfl)
theorem dX13_littleEndianToLong_Low_40 : decode cX13_littleEndianToLong_Low 40 = .ok (.lstore_n 3, 1) := dk_66 (dk_at dksX13_littleEndianToLong_Low_1 16 rfl rfl)
theorem dX13_littleEndianToLong_Low_41 : decode cX13_littleEndianToLong_Low 41 = .ok (.iinc 6 1, 3) := dk_132 6 1 (dk_at dksX13_littleEndianToLong_Low_1 17 rfl rfl)
theorem dX13_littleEndianToLong_Low_44 : decode cX13_littleEndianToLong_Low 44 = .ok (.goto (-29), 3) := dk_167 255 227 (dk_at dksX13_littleEndianToLong_Low_1 20 rfl rfl)
theorem dX13_littleEndianToLong_Low_47 : decode cX13_littleEndianToLong_Low 47 = .ok (.lload_n 3, 1) := dk_33 (dk_at dksX13_littleEndianToLong_Low_1 23 rfl rfl)
theorem dX13_littleEndianToLong_Low_48 : decode cX13_littleEndianToLong_Low 48 = .ok (.lreturn, 1) := dk_173 (dk_at dksX13_littleEndianToLong_Low_2 0 rfl rfl)
abbrev cX13_longToLittleEndian : ByteArray := prog_22_method_10_code
def yX13_longToLittleEndian : MethodName := ⟨RX13, "longToLittleEndian", "(J[BI)V"⟩
def dkwX13_longToLittleEndian_0 : List UInt8 := [30, 20, 0, 13, 127, 136, 44, 29, 184, 0, 24, 30, 16, 32, 125, 136, 44, 29, 7, 96, 184, 0, 24, 177]
abbrev dktX13_longToLittleEndian_0 : List UInt8 := dkwX13_longToLittleEndian_0 ++ []
theorem dksX13_longToLittleEndian_0 : cX13_longToLittleEndian.data.toList.drop 0 = dktX13_longToLittleEndian_0 := by decide +kernel
theorem dX13_longToLittleEndian_0 : decode cX13_longToLittleEndian 0 = .ok (.lload_n 0, 1) := dk_30 (dk_at dksX13_longToLittleEndian_0 0 rfl rfl)
theorem dX13_longToLittleEndian_1 : decode cX13_longToLittleEndian 1 = .ok (.ldc2_w 13, 3) := dk_20 0 13 (dk_at dksX13_longToLittleEndian_0 1 rfl rfl)
theorem dX13_longToLittleEndian_4 : decode cX13_longToLittleEndian 4 = .ok (.land, 1) := dk_127 (dk_at dksX13_longToLittleEndian_0 4 rfl rfl)
theorem dX13_longToLittleEndian_5 : decode cX13_longToLittleEndian 5 = .ok (.l2i, 1) := dk_136 (dk_at dksX13_longToLittleEndian_0 5 rfl rfl)
theorem dX13_longToLittleEndian_6 : decode cX13_longToLittleEndian 6 = .ok (.aload_n 2, 1) := dk_44 (dk_at dksX13_longToLittleEndian_0 6 rfl rfl)
theorem dX13_longToLittleEndian_7 : decode cX13_longToLittleEndian 7 = .ok (.iload_n 3, 1) := dk_29 (dk_at dksX13_longToLittleEndian_0 7 rfl rfl)
theorem dX13_longToLittleEndian_8 : decode cX13_longToLittleEndian 8 = .ok (.invokestatic 24, 3) := dk_184 0 24 (dk_at dksX13_longToLittleEndian_0 8 rfl rfl)
theorem dX13_longToLittleEndian_11 : decode cX13_longToLittleEndian 11 = .ok (.lload_n 0, 1) := dk_30 (dk_at dksX13_longToLittleEndian_0 11 rfl rfl)
theorem dX13_longToLittleEndian_12 : decode cX13_longToLittleEndian 12 = .ok (.bipush 32, 2) := dk_16 32 (dk_at dksX13_longToLittleEndian_0 12 rfl rfl)
theorem dX13_longToLittleEndian_14 : decode cX13_longToLittleEndian 14 = .ok (.lushr, 1) := dk_125 (dk_at dksX13_longToLittleEndian_0 14 rfl rfl)
theorem dX13_longToLittleEndian_15 : decode cX13_longToLittleEndian 15 = .ok (.l2i, 1) := dk_136 (dk_at dksX13_longToLittleEndian_0 15 rfl rfl)
theorem dX13_longToLittleEndian_16 : decode cX13_longToLittleEndian 16 = .ok (.aload_n 2, 1) := dk_44 (dk_at dksX13_longToLittleEndian_0 16 rfl rfl)
theorem dX13_longToLittleEndian_17 : decode cX13_longToLittleEndian 17 = .ok (.iload_n 3, 1) := dk_29 (dk_at dksX13_longToLittleEndian_0 17 rfl rfl)
theorem dX13_longToLittleEndian_18 : decode cX13_longToLittleEndian 18 = .ok (.iconst 4, 1) := dk_7 (dk_at dksX13_longToLittleEndian_0 18 rfl rfl)
theorem dX13_longToLittleEndian_19 : decode cX13_longToLittleEndian 19 = .ok (.iadd, 1) := dk_96 (dk_at dksX13_longToLittleEndian_0 19 rfl rfl)
theorem dX13_longToLittleEndian_20 : decode cX13_longToLittleEndian 20 = .ok (.invokestatic 24, 3) := dk_184 0 24 (dk_at dksX13_longToLittleEndian_0 20 rfl rfl)
theorem dX13_longToLittleEndian_23 : decode cX13_longToLittleEndian 23 = .ok (.return_, 1) := dk_177 (dk_at dksX13_longToLittleEndian_0 23 rfl rfl)
abbrev cX13_intToLittleEndian : ByteArray := prog_22_method_7_code
def yX13_intToLittleEndian : MethodName := ⟨RX13, "intToLittleEndian", "(I[BI)V"⟩
def dkwX13_intToLittleEndian_1 : List UInt8 := [124, 145, 84, 43, 132, 2, 1, 28, 26, 16, 24, 124, 145, 84, 177]
abbrev dktX13_intToLittleEndian_1 : List UInt8 := dkwX13_intToLittleEndian_1 ++ []
def dkwX13_intToLittleEndian_0 : List UInt8 := [43, 28, 26, 145, 84, 43, 132, 2, 1, 28, 26, 16, 8, 124, 145, 84, 43, 132, 2, 1, 28, 26, 16, 16]
abbrev dktX13_intToLittleEndian_0 : List UInt8 := dkwX13_intToLittleEndian_0 ++ dktX13_intToLittleEndian_1
theorem dksX13_intToLittleEndian_0 : cX13_intToLittleEndian.data.toList.drop 0 = dktX13_intToLittleEndian_0 := by decide +kernel
theorem dksX13_intToLittleEndian_1 : cX13_intToLittleEndian.data.toList.drop 24 = dktX13_intToLittleEndian_1 := dk_seg dksX13_intToLittleEndian_0 24 rfl rfl
theorem dX13_intToLittleEndian_0 : decode cX13_intToLittleEndian 0 = .ok (.aload_n 1, 1) := dk_43 (dk_at dksX13_intToLittleEndian_0 0 rfl rfl)
theorem dX13_intToLittleEndian_1 : decode cX13_intToLittleEndian 1 = .ok (.iload_n 2, 1) := dk_28 (dk_at dksX13_intToLittleEndian_0 1 rfl rfl)
theorem dX13_intToLittleEndian_2 : decode cX13_intToLittleEndian 2 = .ok (.iload_n 0, 1) := dk_26 (dk_at dksX13_intToLittleEndian_0 2 rfl rfl)
theorem dX13_intToLittleEndian_3 : decode cX13_intToLittleEndian 3 = .ok (.i2b, 1) := dk_145 (dk_at dksX13_intToLittleEndian_0 3 rfl rfl)
theorem dX13_intToLittleEndian_4 : decode cX13_intToLittleEndian 4 = .ok (.bastore, 1) := dk_84 (dk_at dksX13_intToLittleEndian_0 4 rfl rfl)
theorem dX13_intToLittleEndian_5 : decode cX13_intToLittleEndian 5 = .ok (.aload_n 1, 1) := dk_43 (dk_at dksX13_intToLittleEndian_0 5 rfl rfl)
theorem dX13_intToLittleEndian_6 : decode cX13_intToLittleEndian 6 = .ok (.iinc 2 1, 3) := dk_132 2 1 (dk_at dksX13_intToLittleEndian_0 6 rfl rfl)
theorem dX13_intToLittleEndian_9 : decode cX13_intToLittleEndian 9 = .ok (.iload_n 2, 1) := dk_28 (dk_at dksX13_intToLittleEndian_0 9 rfl rfl)
theorem dX13_intToLittleEndian_10 : decode cX13_intToLittleEndian 10 = .ok (.iload_n 0, 1) := dk_26 (dk_at dksX13_intToLittleEndian_0 10 rfl rfl)
theorem dX13_intToLittleEndian_11 : decode cX13_intToLittleEndian 11 = .ok (.bipush 8, 2) := dk_16 8 (dk_at dksX13_intToLittleEndian_0 11 rfl rfl)
theorem dX13_intToLittleEndian_13 : decode cX13_intToLittleEndian 13 = .ok (.iushr, 1) := dk_124 (dk_at dksX13_intToLittleEndian_0 13 rfl rfl)
theorem dX13_intToLittleEndian_14 : decode cX13_intToLittleEndian 14 = .ok (.i2b, 1) := dk_145 (dk_at dksX13_intToLittleEndian_0 14 rfl rfl)
theorem dX13_intToLittleEndian_15 : decode cX13_intToLittleEndian 15 = .ok (.bastore, 1) := dk_84 (dk_at dksX13_intToLittleEndian_0 15 rfl rfl)
theorem dX13_intToLittleEndian_16 : decode cX13_intToLittleEndian 16 = .ok (.aload_n 1, 1) := dk_43 (dk_at dksX13_intToLittleEndian_0 16 rfl rfl)
theorem dX13_intToLittleEndian_17 : decode cX13_intToLittleEndian 17 = .ok (.iinc 2 1, 3) := dk_132 2 1 (dk_at dksX13_intToLittleEndian_0 17 rfl rfl)
theorem dX13_intToLittleEndian_20 : decode cX13_intToLittleEndian 20 = .ok (.iload_n 2, 1) := dk_28 (dk_at dksX13_intToLittleEndian_0 20 rfl rfl)
theorem dX13_intToLittleEndian_21 : decode cX13_intToLittleEndian 21 = .ok (.iload_n 0, 1) := dk_26 (dk_at dksX13_intToLittleEndian_0 21 rfl rfl)
theorem dX13_intToLittleEndian_22 : decode cX13_intToLittleEndian 22 = .ok (.bipush 16, 2) := dk_16 16 (dk_at dksX13_intToLittleEndian_0 22 rfl rfl)
theorem dX13_intToLittleEndian_24 : decode cX13_intToLittleEndian 24 = .ok (.iushr, 1) := dk_124 (dk_at dksX13_intToLittleEndian_1 0 rfl rfl)
theorem dX13_intToLittleEndian_25 : decode cX13_intToLittleEndian 25 = .ok (.i2b, 1) := dk_145 (dk_at dksX13_intToLittleEndian_1 1 rfl rfl)
theorem dX13_intToLittleEndian_26 : decode cX13_intToLittleEndian 26 = .ok (.bastore, 1) := dk_84 (dk_at dksX13_intToLittleEndian_1 2 rfl rfl)
theorem dX13_intToLittleEndian_27 : decode cX13_intToLittleEndian 27 = .ok (.aload_n 1, 1) := dk_43 (dk_at dksX13_intToLittleEndian_1 3 rfl rfl)
theorem dX13_intToLittleEndian_28 : decode cX13_intToLittleEndian 28 = .ok (.iinc 2 1, 3) := dk_132 2 1 (dk_at dksX13_intToLittleEndian_1 4 rfl rfl)
theorem dX13_intToLittleEndian_31 : decode cX13_intToLittleEndian 31 = .ok (.iload_n 2, 1) := dk_28 (dk_at dksX13_intToLittleEndian_1 7 rfl rfl)
theorem dX13_intToLittleEndian_32 : decode cX13_intToLittleEndian 32 = .ok (.iload_n 0, 1) := dk_26 (dk_at dksX13_intToLittleEndian_1 8 rfl rfl)
theorem dX13_intToLittleEndian_33 : decode cX13_intToLittleEndian 33 = .ok (.bipush 24, 2) := dk_16 24 (dk_at dksX13_intToLittleEndian_1 9 rfl rfl)
theorem dX13_intToLittleEndian_35 : decode cX13_intToLittleEndian 35 = .ok (.iushr, 1) := dk_124 (dk_at dksX13_intToLittleEndian_1 11 rfl rfl)
theorem dX13_intToLittleEndian_36 : decode cX13_intToLittleEndian 36 = .ok (.i2b, 1) := dk_145 (dk_at dksX13_intToLittleEndian_1 12 rfl rfl)
theorem dX13_intToLittleEndian_37 : decode cX13_intToLittleEndian 37 = .ok (.bastore, 1) := dk_84 (dk_at dksX13_intToLittleEndian_1 13 rfl rfl)
theorem dX13_intToLittleEndian_38 : decode cX13_intToLittleEndian 38 = .ok (.return_, 1) := dk_177 (dk_at dksX13_intToLittleEndian_1 14 rfl rfl)
abbrev cX13_longToLittleEndian_Low : ByteArray := prog_22_method_11_code
def yX13_longToLittleEndian_Low : MethodName := ⟨RX13, "longToLittleEndian_Low", "(J[BII)V"⟩
def dkwX13_longToLittleEndian_Low_1 : List UInt8 := [21, 5, 96, 30, 136, 145, 84, 132, 5, 1, 167, 255, 232, 177]
abbrev dktX13_longToLittleEndian_Low_1 : List UInt8 := dkwX13_longToLittleEndian_Low_1 ++ []
def dkwX13_longToLittleEndian_Low_0 : List UInt8 := [44, 29, 30, 136, 145, 84, 4, 54, 5, 21, 5, 21, 4, 162, 0, 23, 30, 16, 8, 125, 63, 44, 29]
abbrev dktX13_longToLittleEndian_Low_0 : List UInt8 := dkwX13_longToLittleEndian_Low_0 ++ dktX13_longToLittleEndian_Low_1
theorem dksX13_longToLittleEndian_Low_0 : cX13_longToLittleEndian_Low.data.toList.drop 0 = dktX13_longToLittleEndian_Low_0 := by decide +kernel
theorem dksX13_longToLittleEndian_Low_1 : cX13_longToLittleEndian_Low.data.toList.drop 23 = dktX13_longToLittleEndian_Low_1 := dk_seg dksX13_longToLittleEndian_Low_0 23 rfl rfl
theorem dX13_longToLittleEndian_Low_0 : decode cX13_longToLittleEndian_Low 0 = .ok (.aload_n 2, 1) := dk_44 (dk_at dksX13_longToLittleEndian_Low_0 0 rfl rfl)
theorem dX13_longToLittleEndian_Low_1 : decode cX13_longToLittleEndian_Low 1 = .ok (.iload_n 3, 1) := dk_29 (dk_at dksX13_longToLittleEndian_Low_0 1 rfl rfl)
theorem dX13_longToLittleEndian_Low_2 : decode cX13_longToLittleEndian_Low 2 = .ok (.lload_n 0, 1) := dk_30 (dk_at dksX13_longToLittleEndian_Low_0 2 rfl rfl)
theorem dX13_longToLittleEndian_Low_3 : decode cX13_longToLittleEndian_Low 3 = .ok (.l2i, 1) := dk_136 (dk_at dksX13_longToLittleEndian_Low_0 3 rfl rfl)
theorem dX13_longToLittleEndian_Low_4 : decode cX13_longToLittleEndian_Low 4 = .ok (.i2b, 1) := dk_145 (dk_at dksX13_longToLittleEndian_Low_0 4 rfl rfl)
theorem dX13_longToLittleEndian_Low_5 : decode cX13_longToLittleEndian_Low 5 = .ok (.bastore, 1) := dk_84 (dk_at dksX13_longToLittleEndian_Low_0 5 rfl rfl)
theorem dX13_longToLittleEndian_Low_6 : decode cX13_longToLittleEndian_Low 6 = .ok (.iconst 1, 1) := dk_4 (dk_at dksX13_longToLittleEndian_Low_0 6 rfl rfl)
theorem dX13_longToLittleEndian_Low_7 : decode cX13_longToLittleEndian_Low 7 = .ok (.istore 5, 2) := dk_54 5 (dk_at dksX13_longToLittleEndian_Low_0 7 rfl rfl)
theorem dX13_longToLittleEndian_Low_9 : decode cX13_longToLittleEndian_Low 9 = .ok (.iload 5, 2) := dk_21 5 (dk_at dksX13_longToLittleEndian_Low_0 9 rfl rfl)
theorem dX13_longToLittleEndian_Low_11 : decode cX13_longToLittleEndian_Low 11 = .ok (.iload 4, 2) := dk_21 4 (dk_at dksX13_longToLittleEndian_Low_0 11 rfl rfl)
theorem dX13_longToLittleEndian_Low_13 : decode cX13_longToLittleEndian_Low 13 = .ok (.if_icmp .ge 23, 3) := dk_162 0 23 (dk_at dksX13_longToLittleEndian_Low_0 13 rfl rfl)
theorem dX13_longToLittleEndian_Low_16 : decode cX13_longToLittleEndian_Low 16 = .ok (.lload_n 0, 1) := dk_30 (dk_at dksX13_longToLittleEndian_Low_0 16 rfl rfl)
theorem dX13_longToLittleEndian_Low_17 : decode cX13_longToLittleEndian_Low 17 = .ok (.bipush 8, 2) := dk_16 8 (dk_at dksX13_longToLittleEndian_Low_0 17 rfl rfl)
theorem dX13_longToLittleEndian_Low_19 : decode cX13_longToLittleEndian_Low 19 = .ok (.lushr, 1) := dk_125 (dk_at dksX13_longToLittleEndian_Low_0 19 rfl rfl)
theorem dX13_longToLittleEndian_Low_20 : decode cX13_longToLittleEndian_Low 20 = .ok (.lstore_n 0, 1) := dk_63 (dk_at dksX13_longToLittleEndian_Low_0 20 rfl rfl)
theorem dX13_longToLittleEndian_Low_21 : decode cX13_longToLittleEndian_Low 21 = .ok (.aload_n 2, 1) := dk_44 (dk_at dksX13_longToLittleEndian_Low_0 21 rfl rfl)
theorem dX13_longToLittleEndian_Low_22 : decode cX13_longToLittleEndian_Low 22 = .ok (.iload_n 3, 1) := dk_29 (dk_at dksX13_longToLittleEndian_Low_0 22 rfl rfl)
theorem dX13_longToLittleEndian_Low_23 : decode cX13_longToLittleEndian_Low 23 = .ok (.iload 5, 2) := dk_21 5 (dk_at dksX13_longToLittleEndian_Low_1 0 rfl rfl)
theorem dX13_longToLittleEndian_Low_25 : decode cX13_longToLittleEndian_Low 25 = .ok (.iadd, 1) := dk_96 (dk_at dksX13_longToLittleEndian_Low_1 2 rfl rfl)
theorem dX13_longToLittleEndian_Low_26 : decode cX13_longToLittleEndian_Low 26 = .ok (.lload_n 0, 1) := dk_30 (dk_at dksX13_longToLittleEndian_Low_1 3 rfl rfl)
theorem dX13_longToLittleEndian_Low_27 : decode cX13_longToLittleEndian_Low 27 = .ok (.l2i, 1) := dk_136 (dk_at dksX13_longToLittleEndian_Low_1 4 rfl rfl)
theorem dX13_longToLittleEndian_Low_28 : decode cX13_longToLittleEndian_Low 28 = .ok (.i2b, 1) := dk_145 (dk_at dksX13_longToLittleEndian_Low_1 5 rfl rfl)
theorem dX13_longToLittleEndian_Low_29 : decode cX13_longToLittleEndian_Low 29 = .ok (.bastore, 1) := dk_84 (dk_at dksX13_longToLittleEndian_Low_1 6 rfl rfl)
theorem dX13_longToLittleEndian_Low_30 : decode cX13_longToLittleEndian_Low 30 = .ok (.iinc 5 1, 3) := dk_132 5 1 (dk_at dksX13_longToLittleEndian_Low_1 7 rfl rfl)
theorem dX13_longToLittleEndian_Low_33 : decode cX13_longToLittleEndian_Low 33 = .ok (.goto (-24), 3) := dk_167 255 232 (dk_at dksX13_longToLittleEndian_Low_1 10 rfl rfl)
theorem dX13_longToLittleEndian_Low_36 : decode cX13_longToLittleEndian_Low 36 = .ok (.return_, 1) := dk_177 (dk_at dksX13_longToLittleEndian_Low_1 13 rfl rfl)
theorem q28 : (Jvm.Cond.initialized "Pack") ∈ lw_all := lw_g (lw_at lw_m1 22 rfl) rfl
theorem q373 : (Jvm.Cond.static ({ cls := "Pack", name := "littleEndianToLong", desc := "([BI)J" } : Jvm.MethodName)) ∈ lw_all := lw_g (lw_at lw_m2 127 rfl) rfl
theorem q374 : (Jvm.Cond.code ({ cls := "Pack", name := "littleEndianToLong", desc := "([BI)J" } : Jvm.MethodName) prog_22_method_8_code (4 : Nat) (Option.some Jvm.ClassFile.FieldType.long)) ∈ lw_all := lw_g (lw_at lw_m2 128 rfl) rfl
theorem q375 : (Jvm.Cond.methodLink "Pack" (19 : Nat) ({ cls := "Pack", name := "littleEndianToInt", desc := "([BI)I" } : Jvm.MethodName)) ∈ lw_all := lw_g (lw_at lw_m2 129 rfl) rfl
theorem q376 : (Jvm.Cond.static ({ cls := "Pack", name := "littleEndianToInt", desc := "([BI)I" } : Jvm.MethodName)) ∈ lw_all := lw_g (lw_at lw_m2 130 rfl) rfl
theorem q377 : (Jvm.Cond.code ({ cls := "Pack", name := "littleEndianToInt", desc := "([BI)I" } : Jvm.MethodName) prog_22_method_6_code (3 : Nat) (Option.some Jvm.ClassFile.FieldType.int)) ∈ lw_all := lw_g (lw_at lw_m2 131 rfl) rfl
theorem q378 : (Jvm.Cond.constantLong "Pack" (13 : Nat) (4294967295 : Int64)) ∈ lw_all := lw_g (lw_at lw_m2 132 rfl) rfl
theorem q502 : (Jvm.Cond.static ({ cls := "Pack", name := "littleEndianToLong_Low", desc := "([BII)J" } : Jvm.MethodName)) ∈ lw_all := lw_g (lw_at lw_m3 16 rfl) rfl
theorem q503 : (Jvm.Cond.code ({ cls := "Pack", name := "littleEndianToLong_Low", desc := "([BII)J" } : Jvm.MethodName) prog_22_method_9_code (7 : Nat) (Option.some Jvm.ClassFile.FieldType.long)) ∈ lw_all := lw_g (lw_at lw_m3 17 rfl) rfl
theorem q504 : (Jvm.Cond.constantLong "Pack" (22 : Nat) (255 : Int64)) ∈ lw_all := lw_g (lw_at lw_m3 18 rfl) rfl
theorem q523 : (Jvm.Cond.static ({ cls := "Pack", name := "longToLittleEndian", desc := "(J[BI)V" } : Jvm.MethodName)) ∈ lw_all := lw_g (lw_at lw_m3 37 rfl) rfl
theorem q524 : (Jvm.Cond.code ({ cls := "Pack", name := "longToLittleEndian", desc := "(J[BI)V" } : Jvm.MethodName) prog_22_method_10_code (4 : Nat) (Option.none : Option Jvm.ClassFile.FieldType)) ∈ lw_all := lw_g (lw_at lw_m3 38 rfl) rfl
theorem q525 : (Jvm.Cond.methodLink "Pack" (24 : Nat) ({ cls := "Pack", name := "intToLittleEndian", desc := "(I[BI)V" } : Jvm.MethodName)) ∈ lw_all := lw_g (lw_at lw_m3 39 rfl) rfl
theorem q526 : (Jvm.Cond.static ({ cls := "Pack", name := "intToLittleEndian", desc := "(I[BI)V" } : Jvm.MethodName)) ∈ lw_all := lw_g (lw_at lw_m3 40 rfl) rfl
theorem q527 : (Jvm.Cond.code ({ cls := "Pack", name := "intToLittleEndian", desc := "(I[BI)V" } : Jvm.MethodName) prog_22_method_7_code (3 : Nat) (Option.none : Option Jvm.ClassFile.FieldType)) ∈ lw_all := lw_g (lw_at lw_m3 41 rfl) rfl
theorem q535 : (Jvm.Cond.static ({ cls := "Pack", name := "longToLittleEndian_Low", desc := "(J[BII)V" } : Jvm.MethodName)) ∈ lw_all := lw_g (lw_at lw_m3 49 rfl) rfl
theorem q536 : (Jvm.Cond.code ({ cls := "Pack", name := "longToLittleEndian_Low", desc := "(J[BII)V" } : Jvm.MethodName) prog_22_method_11_code (6 : Nat) (Option.none : Option Jvm.ClassFile.FieldType)) ∈ lw_all := lw_g (lw_at lw_m3 50 rfl) rfl

/-! Longs -/
set_option maxRecDepth 100000
def RX14 : String := "Longs"
abbrev cX14_rotateRight : ByteArray := prog_19_method_2_code
def yX14_rotateRight : MethodName := ⟨RX14, "rotateRight", "(JI)J"⟩
def dkwX14_rotateRight_0 : List UInt8 := [30, 28, 184, 0, 7, 173]
abbrev dktX14_rotateRight_0 : List UInt8 := dkwX14_rotateRight_0 ++ []
theorem dksX14_rotateRight_0 : cX14_rotateRight.data.toList.drop 0 = dktX14_rotateRight_0 := by decide +kernel
theorem dX14_rotateRight_0 : decode cX14_rotateRight 0 = .ok (.lload_n 0, 1) := dk_30 (dk_at dksX14_rotateRight_0 0 rfl rfl)
theorem dX14_rotateRight_1 : decode cX14_rotateRight 1 = .ok (.iload_n 2, 1) := dk_28 (dk_at dksX14_rotateRight_0 1 rfl rfl)
theorem dX14_rotateRight_2 : decode cX14_rotateRight 2 = .ok (.invokestatic 7, 3) := dk_184 0 7 (dk_at dksX14_rotateRight_0 2 rfl rfl)
theorem dX14_rotateRight_5 : decode cX14_rotateRight 5 = .ok (.lreturn, 1) := dk_173 (dk_at dksX14_rotateRight_0 5 rfl rfl)
theorem q29 : (Jvm.Cond.initialized "Longs") ∈ lw_all := lw_g (lw_at lw_m1 23 rfl) rfl
theorem q390 : (Jvm.Cond.static ({ cls := "Longs", name := "rotateRight", desc := "(JI)J" } : Jvm.MethodName)) ∈ lw_all := lw_g (lw_at lw_m2 144 rfl) rfl
theorem q391 : (Jvm.Cond.code ({ cls := "Longs", name := "rotateRight", desc := "(JI)J" } : Jvm.MethodName) prog_19_method_2_code (3 : Nat) (Option.some Jvm.ClassFile.FieldType.long)) ∈ lw_all := lw_g (lw_at lw_m2 145 rfl) rfl
theorem q392 : (Jvm.Cond.methodLink "Longs" (7 : Nat) ({ cls := "java/lang/Long", name := "rotateRight", desc := "(JI)J" } : Jvm.MethodName)) ∈ lw_all := lw_g (lw_at lw_m2 146 rfl) rfl

/-! java/util/Arrays -/
set_option maxRecDepth 100000
def RJ4 : String := "java/util/Arrays"
abbrev cJ4_fill : ByteArray := prog_31_method_109_code
def yJ4_fill : MethodName := ⟨RJ4, "fill", "([BB)V"⟩
def dkwJ4_fill_0 : List UInt8 := [3, 61, 42, 190, 62, 28, 29, 162, 0, 13, 42, 28, 27, 84, 132, 2, 1, 167, 255, 244, 177]
abbrev dktJ4_fill_0 : List UInt8 := dkwJ4_fill_0 ++ []
theorem dksJ4_fill_0 : cJ4_fill.data.toList.drop 0 = dktJ4_fill_0 := by decide +kernel
theorem dJ4_fill_0 : decode cJ4_fill 0 = .ok (.iconst 0, 1) := dk_3 (dk_at dksJ4_fill_0 0 rfl rfl)
theorem dJ4_fill_1 : decode cJ4_fill 1 = .ok (.istore_n 2, 1) := dk_61 (dk_at dksJ4_fill_0 1 rfl rfl)
theorem dJ4_fill_2 : decode cJ4_fill 2 = .ok (.aload_n 0, 1) := dk_42 (dk_at dksJ4_fill_0 2 rfl rfl)
theorem dJ4_fill_3 : decode cJ4_fill 3 = .ok (.arraylength, 1) := dk_190 (dk_at dksJ4_fill_0 3 rfl rfl)
theorem dJ4_fill_4 : decode cJ4_fill 4 = .ok (.istore_n 3, 1) := dk_62 (dk_at dksJ4_fill_0 4 rfl rfl)
theorem dJ4_fill_5 : decode cJ4_fill 5 = .ok (.iload_n 2, 1) := dk_28 (dk_at dksJ4_fill_0 5 rfl rfl)
theorem dJ4_fill_6 : decode cJ4_fill 6 = .ok (.iload_n 3, 1) := dk_29 (dk_at dksJ4_fill_0 6 rfl rfl)
theorem dJ4_fill_7 : decode cJ4_fill 7 = .ok (.if_icmp .ge 13, 3) := dk_162 0 13 (dk_at dksJ4_fill_0 7 rfl rfl)
theorem dJ4_fill_10 : decode cJ4_fill 10 = .ok (.aload_n 0, 1) := dk_42 (dk_at dksJ4_fill_0 10 rfl rfl)
theorem dJ4_fill_11 : decode cJ4_fill 11 = .ok (.iload_n 2, 1) := dk_28 (dk_at dksJ4_fill_0 11 rfl rfl)
theorem dJ4_fill_12 : decode cJ4_fill 12 = .ok (.iload_n 1, 1) := dk_27 (dk_at dksJ4_fill_0 12 rfl rfl)
theorem dJ4_fill_13 : decode cJ4_fill 13 = .ok (.bastore, 1) := dk_84 (dk_at dksJ4_fill_0 13 rfl rfl)
theorem dJ4_fill_14 : decode cJ4_fill 14 = .ok (.iinc 2 1, 3) := dk_132 2 1 (dk_at dksJ4_fill_0 14 rfl rfl)
theorem dJ4_fill_17 : decode cJ4_fill 17 = .ok (.goto (-12), 3) := dk_167 255 244 (dk_at dksJ4_fill_0 17 rfl rfl)
theorem dJ4_fill_20 : decode cJ4_fill 20 = .ok (.return_, 1) := dk_177 (dk_at dksJ4_fill_0 20 rfl rfl)
theorem q23 : (Jvm.Cond.initialized "java/util/Arrays") ∈ lw_all := lw_g (lw_at lw_m1 17 rfl) rfl
theorem q194 : (Jvm.Cond.static ({ cls := "java/util/Arrays", name := "fill", desc := "([BB)V" } : Jvm.MethodName)) ∈ lw_all := lw_g (lw_at lw_m1 188 rfl) rfl
theorem q195 : (Jvm.Cond.code ({ cls := "java/util/Arrays", name := "fill", desc := "([BB)V" } : Jvm.MethodName) prog_31_method_109_code (4 : Nat) (Option.none : Option Jvm.ClassFile.FieldType)) ∈ lw_all := lw_g (lw_at lw_m1 189 rfl) rfl

/-! java/lang/Long -/
set_option maxRecDepth 100000
def RJ5 : String := "java/lang/Long"
abbrev cJ5_rotateRight : ByteArray := prog_25_method_52_code
def yJ5_rotateRight : MethodName := ⟨RJ5, "rotateRight", "(JI)J"⟩
def dkwJ5_rotateRight_0 : List UInt8 := [30, 28, 125, 30, 28, 116, 121, 129, 173]
abbrev dktJ5_rotateRight_0 : List UInt8 := dkwJ5_rotateRight_0 ++ []
theorem dksJ5_rotateRight_0 : cJ5_rotateRight.data.toList.drop 0 = dktJ5_rotateRight_0 := by decide +kernel
theorem dJ5_rotateRight_0 : decode cJ5_rotateRight 0 = .ok (.lload_n 0, 1) := dk_30 (dk_at dksJ5_rotateRight_0 0 rfl rfl)
theorem dJ5_rotateRight_1 : decode cJ5_rotateRight 1 = .ok (.iload_n 2, 1) := dk_28 (dk_at dksJ5_rotateRight_0 1 rfl rfl)
theorem dJ5_rotateRight_2 : decode cJ5_rotateRight 2 = .ok (.lushr, 1) := dk_125 (dk_at dksJ5_rotateRight_0 2 rfl rfl)
theorem dJ5_rotateRight_3 : decode cJ5_rotateRight 3 = .ok (.lload_n 0, 1) := dk_30 (dk_at dksJ5_rotateRight_0 3 rfl rfl)
theorem dJ5_rotateRight_4 : decode cJ5_rotateRight 4 = .ok (.iload_n 2, 1) := dk_28 (dk_at dksJ5_rotateRight_0 4 rfl rfl)
theorem dJ5_rotateRight_5 : decode cJ5_rotateRight 5 = .ok (.ineg, 1) := dk_116 (dk_at dksJ5_rotateRight_0 5 rfl rfl)
theorem dJ5_rotateRight_6 : decode cJ5_rotateRight 6 = .ok (.lshl, 1) := dk_121 (dk_at dksJ5_rotateRight_0 6 rfl rfl)
theorem dJ5_rotateRight_7 : decode cJ5_rotateRight 7 = .ok (.lor, 1) := dk_129 (dk_at dksJ5_rotateRight_0 7 rfl rfl)
theorem dJ5_rotateRight_8 : decode cJ5_rotateRight 8 = .ok (.lreturn, 1) := dk_173 (dk_at dksJ5_rotateRight_0 8 rfl rfl)
theorem q30 : (Jvm.Cond.initialized "java/lang/Long") ∈ lw_all := lw_g (lw_at lw_m1 24 rfl) rfl
theorem q393 : (Jvm.Cond.static ({ cls := "java/lang/Long", name := "rotateRight", desc := "(JI)J" } : Jvm.MethodName)) ∈ lw_all := lw_g (lw_at lw_m2 147 rfl) rfl
theorem q394 : (Jvm.Cond.code ({ cls := "java/lang/Long", name := "rotateRight", desc := "(JI)J" } : Jvm.MethodName) prog_25_method_52_code (3 : Nat) (Option.some Jvm.ClassFile.FieldType.long)) ∈ lw_all := lw_g (lw_at lw_m2 148 rfl) rfl

/-! java/lang/Object -/
set_option maxRecDepth 100000
def RJ6 : String := "java/lang/Object"
abbrev cJ6_init : ByteArray := object_method_1_code
def yJ6_init : MethodName := ⟨RJ6, "<init>", "()V"⟩
theorem dJ6_init_0 : decode cJ6_init 0 = .ok (.return_, 1) := by decide +kernel
theorem q38 : (Jvm.Cond.instanceMethod ({ cls := "java/lang/Object", name := "<init>", desc := "()V" } : Jvm.MethodName)) ∈ lw_all := lw_g (lw_at lw_m1 32 rfl) rfl
theorem q39 : (Jvm.Cond.code ({ cls := "java/lang/Object", name := "<init>", desc := "()V" } : Jvm.MethodName) object_method_1_code (1 : Nat) (Option.none : Option Jvm.ClassFile.FieldType)) ∈ lw_all := lw_g (lw_at lw_m1 33 rfl) rfl

theorem q14 : (Jvm.Cond.initialized "AsconBaseDigest$Friend") ∈ lw_all := lw_g (lw_at lw_m1 8 rfl) rfl
set_option maxRecDepth 100000
theorem q76 : (Jvm.Cond.laysStatic "AsconBaseDigest$Friend" "INSTANCE" "LAsconBaseDigest$Friend;") ∈ lw_tbl := lw_at lw_m1 70 rfl

theorem q11 : (Jvm.Cond.initialized "BufferBaseDigest$ProcessingBufferType") ∈ lw_all := lw_g (lw_at lw_m1 5 rfl) rfl
set_option maxRecDepth 100000
theorem q49 : (Jvm.Cond.laysStatic "BufferBaseDigest$ProcessingBufferType" "Immediate" "LBufferBaseDigest$ProcessingBufferType;") ∈ lw_tbl := lw_at lw_m1 43 rfl

theorem q343 : (Jvm.Cond.interfaceMethod "BufferBaseDigest$ProcessingBuffer" "BufferBaseDigest$ProcessingBuffer" "isLengthWithinAvailableSpace" "(II)Z") ∈ lw_tbl := lw_at lw_m2 97 rfl
set_option maxRecDepth 100000
theorem q344 : (Jvm.Cond.declares ({ cls := "BufferBaseDigest$ProcessingBuffer", name := "isLengthWithinAvailableSpace", desc := "(II)Z" } : Jvm.MethodName)) ∈ lw_tbl := lw_at lw_m2 98 rfl
theorem q408 : (Jvm.Cond.interfaceMethod "BufferBaseDigest$ProcessingBuffer" "BufferBaseDigest$ProcessingBuffer" "isLengthExceedingBlockSize" "(II)Z") ∈ lw_tbl := lw_at lw_m2 162 rfl
theorem q409 : (Jvm.Cond.declares ({ cls := "BufferBaseDigest$ProcessingBuffer", name := "isLengthExceedingBlockSize", desc := "(II)Z" } : Jvm.MethodName)) ∈ lw_tbl := lw_at lw_m2 163 rfl
theorem q435 : (Jvm.Cond.interfaceMethod "BufferBaseDigest$ProcessingBuffer" "BufferBaseDigest$ProcessingBuffer" "update" "(B)V") ∈ lw_tbl := lw_at lw_m2 189 rfl
theorem q436 : (Jvm.Cond.declares ({ cls := "BufferBaseDigest$ProcessingBuffer", name := "update", desc := "(B)V" } : Jvm.MethodName)) ∈ lw_tbl := lw_at lw_m2 190 rfl

theorem q293 : (Jvm.Cond.interfaceMethod "Digest" "Digest" "update" "([BII)V") ∈ lw_tbl := lw_at lw_m2 47 rfl
set_option maxRecDepth 100000
theorem q294 : (Jvm.Cond.declares ({ cls := "Digest", name := "update", desc := "([BII)V" } : Jvm.MethodName)) ∈ lw_tbl := lw_at lw_m2 48 rfl
theorem q426 : (Jvm.Cond.interfaceMethod "Digest" "Digest" "update" "(B)V") ∈ lw_tbl := lw_at lw_m2 180 rfl
theorem q427 : (Jvm.Cond.declares ({ cls := "Digest", name := "update", desc := "(B)V" } : Jvm.MethodName)) ∈ lw_tbl := lw_at lw_m2 181 rfl
theorem q455 : (Jvm.Cond.interfaceMethod "Digest" "Digest" "doFinal" "([BI)I") ∈ lw_tbl := lw_at lw_m2 209 rfl
theorem q456 : (Jvm.Cond.declares ({ cls := "Digest", name := "doFinal", desc := "([BI)I" } : Jvm.MethodName)) ∈ lw_tbl := lw_at lw_m2 210 rfl
theorem q544 : (Jvm.Cond.interfaceMethod "Digest" "Digest" "reset" "()V") ∈ lw_tbl := lw_at lw_m3 58 rfl
theorem q545 : (Jvm.Cond.declares ({ cls := "Digest", name := "reset", desc := "()V" } : Jvm.MethodName)) ∈ lw_tbl := lw_at lw_m3 59 rfl

theorem q27 : (Jvm.Cond.initialized "java/lang/System") ∈ lw_all := lw_g (lw_at lw_m1 21 rfl) rfl
set_option maxRecDepth 100000
theorem q358 : (Jvm.Cond.static ({ cls := "java/lang/System", name := "arraycopy", desc := "(Ljava/lang/Object;ILjava/lang/Object;II)V" } : Jvm.MethodName)) ∈ lw_all := lw_g (lw_at lw_m2 112 rfl) rfl
theorem q359 : (Jvm.Cond.native ({ cls := "java/lang/System", name := "arraycopy", desc := "(Ljava/lang/Object;ILjava/lang/Object;II)V" } : Jvm.MethodName)) ∈ lw_all := lw_g (lw_at lw_m2 113 rfl) rfl

theorem q64 : (Jvm.Cond.arrayClass Jvm.ClassFile.FieldType.byte) ∈ lw_all := lw_g (lw_at lw_m1 58 rfl) rfl
set_option maxRecDepth 100000
theorem q575 : (Jvm.Cond.arrayClass Jvm.ClassFile.FieldType.int) ∈ lw_all := lw_g (lw_at lw_m3 89 rfl) rfl
theorem q619 : (Jvm.Cond.arrayClass Jvm.ClassFile.FieldType.long) ∈ lw_all := lw_g (lw_at lw_m3 133 rfl) rfl
end
section
/-! AsconHashDeskModel -/
set_option maxRecDepth 100000
def RX10 : String := "AsconHashDeskModel"
def TX10 : u_T := fun k => match k with
  | 0 => ("AsconHashDeskModel", "text", "[B", true)
  | 1 => ("AsconHashDeskModel", "size", "I", false)
  | 2 => ("AsconHashDeskModel", "message", "[B", true)
  | 3 => ("AsconHashDeskModel", "fed", "I", false)
  | _ => ("AsconHashDeskModel", "digest", "[I", true)
def tyX10 : Nat → FieldType := fun k => match k with
  | 0 => .array .byte
  | 1 => .int
  | 2 => .array .byte
  | 3 => .int
  | _ => .array .int
abbrev wsX100 : List Cond := u_ws RX10 TX10 5
theorem nmX10 : ∀ a, a < 5 → ∀ b, b < 5 → a ≠ b → (TX10 a).2.1 ≠ (TX10 b).2.1 := by decide +kernel
theorem tyX10_ok : ∀ k, k < 5 → parseFieldDescriptor (TX10 k).2.2.1 = some (tyX10 k) := by decide +kernel
abbrev cX10_init : ByteArray := prog_6_method_1_code
def yX10_init : MethodName := ⟨RX10, "<init>", "()V"⟩
def dkwX10_init_1 : List UInt8 := [16, 32, 188, 10, 181, 0, 16, 177]
abbrev dktX10_init_1 : List UInt8 := dkwX10_init_1 ++ []
def dkwX10_init_0 : List UInt8 := [42, 183, 0, 1, 42, 17, 4, 0, 188, 8, 181, 0, 7, 42, 17, 64, 0, 188, 8, 181, 0, 13, 42]
abbrev dktX10_init_0 : List UInt8 := dkwX10_init_0 ++ dktX10_init_1
theorem dksX10_init_0 : cX10_init.data.toList.drop 0 = dktX10_init_0 := by decide +kernel
theorem dksX10_init_1 : cX10_init.data.toList.drop 23 = dktX10_init_1 := dk_seg dksX10_init_0 23 rfl rfl
theorem dX10_init_0 : decode cX10_init 0 = .ok (.aload_n 0, 1) := dk_42 (dk_at dksX10_init_0 0 rfl rfl)
theorem dX10_init_1 : decode cX10_init 1 = .ok (.invokespecial 1, 3) := dk_183 0 1 (dk_at dksX10_init_0 1 rfl rfl)
theorem dX10_init_4 : decode cX10_init 4 = .ok (.aload_n 0, 1) := dk_42 (dk_at dksX10_init_0 4 rfl rfl)
theorem dX10_init_5 : decode cX10_init 5 = .ok (.sipush 1024, 3) := dk_17 4 0 (dk_at dksX10_init_0 5 rfl rfl)
theorem dX10_init_8 : decode cX10_init 8 = .ok (.newarray .byte, 2) := dk_188_8 (dk_at dksX10_init_0 8 rfl rfl)
theorem dX10_init_10 : decode cX10_init 10 = .ok (.putfield 7, 3) := dk_181 0 7 (dk_at dksX10_init_0 10 rfl rfl)
theorem dX10_init_13 : decode cX10_init 13 = .ok (.aload_n 0, 1) := dk_42 (dk_at dksX10_init_0 13 rfl rfl)
theorem dX10_init_14 : decode cX10_init 14 = .ok (.sipush 16384, 3) := dk_17 64 0 (dk_at dksX10_init_0 14 rfl rfl)
theorem dX10_init_17 : decode cX10_init 17 = .ok (.newarray .byte, 2) := dk_188_8 (dk_at dksX10_init_0 17 rfl rfl)
theorem dX10_init_19 : decode cX10_init 19 = .ok (.putfield 13, 3) := dk_181 0 13 (dk_at dksX10_init_0 19 rfl rfl)
theorem dX10_init_22 : decode cX10_init 22 = .ok (.aload_n 0, 1) := dk_42 (dk_at dksX10_init_0 22 rfl rfl)
theorem dX10_init_23 : decode cX10_init 23 = .ok (.bipush 32, 2) := dk_16 32 (dk_at dksX10_init_1 0 rfl rfl)
theorem dX10_init_25 : decode cX10_init 25 = .ok (.newarray .int, 2) := dk_188_10 (dk_at dksX10_init_1 2 rfl rfl)
theorem dX10_init_27 : decode cX10_init 27 = .ok (.putfield 16, 3) := dk_181 0 16 (dk_at dksX10_init_1 4 rfl rfl)
theorem dX10_init_30 : decode cX10_init 30 = .ok (.return_, 1) := dk_177 (dk_at dksX10_init_1 7 rfl rfl)
abbrev cX10_put : ByteArray := prog_6_method_2_code
def yX10_put : MethodName := ⟨RX10, "put", "(IIII)Z"⟩
def dkwX10_put_4 : List UInt8 := [172]
abbrev dktX10_put_4 : List UInt8 := dkwX10_put_4 ++ []
def dkwX10_put_3 : List UInt8 := [112, 104, 100, 124, 145, 84, 132, 6, 1, 167, 255, 215, 42, 42, 180, 0, 20, 16, 16, 96, 181, 0, 20, 4]
abbrev dktX10_put_3 : List UInt8 := dkwX10_put_3 ++ dktX10_put_4
def dkwX10_put_2 : List UInt8 := [180, 0, 7, 42, 180, 0, 20, 21, 6, 96, 25, 5, 21, 6, 7, 108, 46, 16, 24, 16, 8, 21, 6, 7]
abbrev dktX10_put_2 : List UInt8 := dkwX10_put_2 ++ dktX10_put_3
def dkwX10_put_1 : List UInt8 := [28, 79, 89, 5, 29, 79, 89, 6, 21, 4, 79, 58, 5, 3, 54, 6, 21, 6, 16, 16, 162, 0, 40, 42]
abbrev dktX10_put_1 : List UInt8 := dkwX10_put_1 ++ dktX10_put_2
def dkwX10_put_0 : List UInt8 := [42, 180, 0, 20, 16, 16, 96, 17, 4, 0, 164, 0, 5, 3, 172, 7, 188, 10, 89, 3, 27, 79, 89, 4]
abbrev dktX10_put_0 : List UInt8 := dkwX10_put_0 ++ dktX10_put_1
theorem dksX10_put_0 : cX10_put.data.toList.drop 0 = dktX10_put_0 := by decide +kernel
theorem dksX10_put_1 : cX10_put.data.toList.drop 24 = dktX10_put_1 := dk_seg dksX10_put_0 24 rfl rfl
theorem dksX10_put_2 : cX10_put.data.toList.drop 48 = dktX10_put_2 := dk_seg dksX10_put_1 24 rfl rfl
theorem dksX10_put_3 : cX10_put.data.toList.drop 72 = dktX10_put_3 := dk_seg dksX10_put_2 24 rfl rfl
theorem dksX10_put_4 : cX10_put.data.toList.drop 96 = dktX10_put_4 := dk_seg dksX10_put_3 24 rfl rfl
theorem dX10_put_0 : decode cX10_put 0 = .ok (.aload_n 0, 1) := dk_42 (dk_at dksX10_put_0 0 rfl rfl)
theorem dX10_put_1 : decode cX10_put 1 = .ok (.getfield 20, 3) := dk_180 0 20 (dk_at dksX10_put_0 1 rfl rfl)
theorem dX10_put_4 : decode cX10_put 4 = .ok (.bipush 16, 2) := dk_16 16 (dk_at dksX10_put_0 4 rfl rfl)
theorem dX10_put_6 : decode cX10_put 6 = .ok (.iadd, 1) := dk_96 (dk_at dksX10_put_0 6 rfl rfl)
theorem dX10_put_7 : decode cX10_put 7 = .ok (.sipush 1024, 3) := dk_17 4 0 (dk_at dksX10_put_0 7 rfl rfl)
theorem dX10_put_10 : decode cX10_put 10 = .ok (.if_icmp .le 5, 3) := dk_164 0 5 (dk_at dksX10_put_0 10 rfl rfl)
theorem dX10_put_13 : decode cX10_put 13 = .ok (.iconst 0, 1) := dk_3 (dk_at dksX10_put_0 13 rfl rfl)
theorem dX10_put_14 : decode cX10_put 14 = .ok (.ireturn, 1) := dk_172 (dk_at dksX10_put_0 14 rfl rfl)
theorem dX10_put_15 : decode cX10_put 15 = .ok (.iconst 4, 1) := dk_7 (dk_at dksX10_put_0 15 rfl rfl)
theorem dX10_put_16 : decode cX10_put 16 = .ok (.newarray .int, 2) := dk_188_10 (dk_at dksX10_put_0 16 rfl rfl)
theorem dX10_put_18 : decode cX10_put 18 = .ok (.dup, 1) := dk_89 (dk_at dksX10_put_0 18 rfl rfl)
theorem dX10_put_19 : decode cX10_put 19 = .ok (.iconst 0, 1) := dk_3 (dk_at dksX10_put_0 19 rfl rfl)
theorem dX10_put_20 : decode cX10_put 20 = .ok (.iload_n 1, 1) := dk_27 (dk_at dksX10_put_0 20 rfl rfl)
theorem dX10_put_21 : decode cX10_put 21 = .ok (.iastore, 1) := dk_79 (dk_at dksX10_put_0 21 rfl rfl)
theorem dX10_put_22 : decode cX10_put 22 = .ok (.dup, 1) := dk_89 (dk_at dksX10_put_0 22 rfl rfl)
theorem dX10_put_23 : decode cX10_put 23 = .ok (.iconst 1, 1) := dk_4 (dk_at dksX10_put_0 23 rfl rfl)
theorem dX10_put_24 : decode cX10_put 24 = .ok (.iload_n 2, 1) := dk_28 (dk_at dksX10_put_1 0 rfl rfl)
theorem dX10_put_25 : decode cX10_put 25 = .ok (.iastore, 1) := dk_79 (dk_at dksX10_put_1 1 rfl rfl)
theorem dX10_put_26 : decode cX10_put 26 = .ok (.dup, 1) := dk_89 (dk_at dksX10_put_1 2 rfl rfl)
theorem dX10_put_27 : decode cX10_put 27 = .ok (.iconst 2, 1) := dk_5 (dk_at dksX10_put_1 3 rfl rfl)
theorem dX10_put_28 : decode cX10_put 28 = .ok (.iload_n 3, 1) := dk_29 (dk_at dksX10_put_1 4 rfl rfl)
theorem dX10_put_29 : decode cX10_put 29 = .ok (.iastore, 1) := dk_79 (dk_at dksX10_put_1 5 rfl rfl)
theorem dX10_put_30 : decode cX10_put 30 = .ok (.dup, 1) := dk_89 (dk_at dksX10_put_1 6 rfl rfl)
theorem dX10_put_31 : decode cX10_put 31 = .ok (.iconst 3, 1) := dk_6 (dk_at dksX10_put_1 7 rfl rfl)
theorem dX10_put_32 : decode cX10_put 32 = .ok (.iload 4, 2) := dk_21 4 (dk_at dksX10_put_1 8 rfl rfl)
theorem dX10_put_34 : decode cX10_put 34 = .ok (.iastore, 1) := dk_79 (dk_at dksX10_put_1 10 rfl rfl)
theorem dX10_put_35 : decode cX10_put 35 = .ok (.astore 5, 2) := dk_58 5 (dk_at dksX10_put_1 11 rfl rfl)
theorem dX10_put_37 : decode cX10_put 37 = .ok (.iconst 0, 1) := dk_3 (dk_at dksX10_put_1 13 rfl rfl)
theorem dX10_put_38 : decode cX10_put 38 = .ok (.istore 6, 2) := dk_54 6 (dk_at dksX10_put_1 14 rfl rfl)
theorem dX10_put_40 : decode cX10_put 40 = .ok (.iload 6, 2) := dk_21 6 (dk_at dksX10_put_1 16 rfl rfl)
theorem dX10_put_42 : decode cX10_put 42 = .ok (.bipush 16, 2) := dk_16 16 (dk_at dksX10_put_1 18 rfl rfl)
theorem dX10_put_44 : decode cX10_put 44 = .ok (.if_icmp .ge 40, 3) := dk_162 0 40 (dk_at dksX10_put_1 20 rfl rfl)
theorem dX10_put_47 : decode cX10_put 47 = .ok (.aload_n 0, 1) := dk_42 (dk_at dksX10_put_1 23 rfl rfl)
theorem dX10_put_48 : decode cX10_put 48 = .ok (.getfield 7, 3) := dk_180 0 7 (dk_at dksX10_put_2 0 rfl rfl)
theorem dX10_put_51 : decode cX10_put 51 = .ok (.aload_n 0, 1) := dk_42 (dk_at dksX10_put_2 3 rfl rfl)
theorem dX10_put_52 : decode cX10_put 52 = .ok (.getfield 20, 3) := dk_180 0 20 (dk_at dksX10_put_2 4 rfl rfl)
theorem dX10_put_55 : decode cX10_put 55 = .ok (.iload 6, 2) := dk_21 6 (dk_at dksX10_put_2 7 rfl rfl)
theorem dX10_put_57 : decode cX10_put 57 = .ok (.iadd, 1) := dk_96 (dk_at dksX10_put_2 9 rfl rfl)
theorem dX10_put_58 : decode cX10_put 58 = .ok (.aload 5, 2) := dk_25 5 (dk_at dksX10_put_2 10 rfl rfl)
theorem dX10_put_60 : decode cX10_put 60 = .ok (.iload 6, 2) := dk_21 6 (dk_at dksX10_put_2 12 rfl rfl)
theorem dX10_put_62 : decode cX10_put 62 = .ok (.iconst 4, 1) := dk_7 (dk_at dksX10_put_2 14 rfl rfl)
theorem dX10_put_63 : decode cX10_put 63 = .ok (.idiv, 1) := dk_108 (dk_at dksX10_put_2 15 rfl rfl)
theorem dX10_put_64 : decode cX10_put 64 = .ok (.iaload, 1) := dk_46 (dk_at dksX10_put_2 16 rfl rfl)
theorem dX10_put_65 : decode cX10_put 65 = .ok (.bipush 24, 2) := dk_16 24 (dk_at dksX10_put_2 17 rfl rfl)
theorem dX10_put_67 : decode cX10_put 67 = .ok (.bipush 8, 2) := dk_16 8 (dk_at dksX10_put_2 19 rfl rfl)
theorem dX10_put_69 : decode cX10_put 69 = .ok (.iload 6, 2) := dk_21 6 (dk_at dksX10_put_2 21 rfl rfl)
theorem dX10_put_71 : decode cX10_put 71 = .ok (.iconst 4, 1) := dk_7 (dk_at dksX10_put_2 23 rfl rfl)
theorem dX10_put_72 : decode cX10_put 72 = .ok (.irem, 1) := dk_112 (dk_at dksX10_put_3 0 rfl rfl)
theorem dX10_put_73 : decode cX10_put 73 = .ok (.imul, 1) := dk_104 (dk_at dksX10_put_3 1 rfl rfl)
theorem dX10_put_74 : decode cX10_put 74 = .ok (.isub, 1) := dk_100 (dk_at dksX10_put_3 2 rfl rfl)
theorem dX10_put_75 : decode cX10_put 75 = .ok (.iushr, 1) := dk_124 (dk_at dksX10_put_3 3 rfl rfl)
theorem dX10_put_76 : decode cX10_put 76 = .ok (.i2b, 1) := dk_145 (dk_at dksX10_put_3 4 rfl rfl)
theorem dX10_put_77 : decode cX10_put 77 = .ok (.bastore, 1) := dk_84 (dk_at dksX10_put_3 5 rfl rfl)
theorem dX10_put_78 : decode cX10_put 78 = .ok (.iinc 6 1, 3) := dk_132 6 1 (dk_at dksX10_put_3 6 rfl rfl)
theorem dX10_put_81 : decode cX10_put 81 = .ok (.goto (-41), 3) := dk_167 255 215 (dk_at dksX10_put_3 9 rfl rfl)
theorem dX10_put_84 : decode cX10_put 84 = .ok (.aload_n 0, 1) := dk_42 (dk_at dksX10_put_3 12 rfl rfl)
theorem dX10_put_85 : decode cX10_put 85 = .ok (.aload_n 0, 1) := dk_42 (dk_at dksX10_put_3 13 rfl rfl)
theorem dX10_put_86 : decode cX10_put 86 = .ok (.getfield 20, 3) := dk_180 0 20 (dk_at dksX10_put_3 14 rfl rfl)
theorem dX10_put_89 : decode cX10_put 89 = .ok (.bipush 16, 2) := dk_16 16 (dk_at dksX10_put_3 17 rfl rfl)
theorem dX10_put_91 : decode cX10_put 91 = .ok (.iadd, 1) := dk_96 (dk_at dksX10_put_3 19 rfl rfl)
theorem dX10_put_92 : decode cX10_put 92 = .ok (.putfield 20, 3) := dk_181 0 20 (dk_at dksX10_put_3 20 rfl rfl)
theorem dX10_put_95 : decode cX10_put 95 = .ok (.iconst 1, 1) := dk_4 (dk_at dksX10_put_3 23 rfl rfl)
theorem dX10_put_96 : decode cX10_put 96 = .ok (.ireturn, 1) := dk_172 (dk_at dksX10_put_4 0 rfl rfl)
abbrev cX10_trim : ByteArray := prog_6_method_3_code
def yX10_trim : MethodName := ⟨RX10, "trim", "(I)V"⟩
def dkwX10_trim_0 : List UInt8 := [42, 27, 42, 180, 0, 20, 4, 96, 184, 0, 24, 181, 0, 20, 177]
abbrev dktX10_trim_0 : List UInt8 := dkwX10_trim_0 ++ []
theorem dksX10_trim_0 : cX10_trim.data.toList.drop 0 = dktX10_trim_0 := by decide +kernel
theorem dX10_trim_0 : decode cX10_trim 0 = .ok (.aload_n 0, 1) := dk_42 (dk_at dksX10_trim_0 0 rfl rfl)
theorem dX10_trim_1 : decode cX10_trim 1 = .ok (.iload_n 1, 1) := dk_27 (dk_at dksX10_trim_0 1 rfl rfl)
theorem dX10_trim_2 : decode cX10_trim 2 = .ok (.aload_n 0, 1) := dk_42 (dk_at dksX10_trim_0 2 rfl rfl)
theorem dX10_trim_3 : decode cX10_trim 3 = .ok (.getfield 20, 3) := dk_180 0 20 (dk_at dksX10_trim_0 3 rfl rfl)
theorem dX10_trim_6 : decode cX10_trim 6 = .ok (.iconst 1, 1) := dk_4 (dk_at dksX10_trim_0 6 rfl rfl)
theorem dX10_trim_7 : decode cX10_trim 7 = .ok (.iadd, 1) := dk_96 (dk_at dksX10_trim_0 7 rfl rfl)
theorem dX10_trim_8 : decode cX10_trim 8 = .ok (.invokestatic 24, 3) := dk_184 0 24 (dk_at dksX10_trim_0 8 rfl rfl)
theorem dX10_trim_11 : decode cX10_trim 11 = .ok (.putfield 20, 3) := dk_181 0 20 (dk_at dksX10_trim_0 11 rfl rfl)
theorem dX10_trim_14 : decode cX10_trim 14 = .ok (.return_, 1) := dk_177 (dk_at dksX10_trim_0 14 rfl rfl)
abbrev cX10_fold : ByteArray := prog_6_method_4_code
def yX10_fold : MethodName := ⟨RX10, "fold", "(II)I"⟩
def dkwX10_fold_0 : List UInt8 := [26, 18, 28, 126, 27, 112, 172]
abbrev dktX10_fold_0 : List UInt8 := dkwX10_fold_0 ++ []
theorem dksX10_fold_0 : cX10_fold.data.toList.drop 0 = dktX10_fold_0 := by decide +kernel
theorem dX10_fold_0 : decode cX10_fold 0 = .ok (.iload_n 0, 1) := dk_26 (dk_at dksX10_fold_0 0 rfl rfl)
theorem dX10_fold_1 : decode cX10_fold 1 = .ok (.ldc 28, 2) := dk_18 28 (dk_at dksX10_fold_0 1 rfl rfl)
theorem dX10_fold_3 : decode cX10_fold 3 = .ok (.iand, 1) := dk_126 (dk_at dksX10_fold_0 3 rfl rfl)
theorem dX10_fold_4 : decode cX10_fold 4 = .ok (.iload_n 1, 1) := dk_27 (dk_at dksX10_fold_0 4 rfl rfl)
theorem dX10_fold_5 : decode cX10_fold 5 = .ok (.irem, 1) := dk_112 (dk_at dksX10_fold_0 5 rfl rfl)
theorem dX10_fold_6 : decode cX10_fold 6 = .ok (.ireturn, 1) := dk_172 (dk_at dksX10_fold_0 6 rfl rfl)
abbrev cX10_begin : ByteArray := prog_6_method_5_code
def yX10_begin : MethodName := ⟨RX10, "begin", "(I)V"⟩
def dkwX10_begin_0 : List UInt8 := [42, 3, 181, 0, 29, 177]
abbrev dktX10_begin_0 : List UInt8 := dkwX10_begin_0 ++ []
theorem dksX10_begin_0 : cX10_begin.data.toList.drop 0 = dktX10_begin_0 := by decide +kernel
theorem dX10_begin_0 : decode cX10_begin 0 = .ok (.aload_n 0, 1) := dk_42 (dk_at dksX10_begin_0 0 rfl rfl)
theorem dX10_begin_1 : decode cX10_begin 1 = .ok (.iconst 0, 1) := dk_3 (dk_at dksX10_begin_0 1 rfl rfl)
theorem dX10_begin_2 : decode cX10_begin 2 = .ok (.putfield 29, 3) := dk_181 0 29 (dk_at dksX10_begin_0 2 rfl rfl)
theorem dX10_begin_5 : decode cX10_begin 5 = .ok (.return_, 1) := dk_177 (dk_at dksX10_begin_0 5 rfl rfl)
abbrev cX10_feed : ByteArray := prog_6_method_6_code
def yX10_feed : MethodName := ⟨RX10, "feed", "(II)Z"⟩
def dkwX10_feed_3 : List UInt8 := [132, 5, 1, 167, 255, 225, 42, 42, 180, 0, 29, 21, 4, 96, 181, 0, 29, 4, 172]
abbrev dktX10_feed_3 : List UInt8 := dkwX10_feed_3 ++ []
def dkwX10_feed_2 : List UInt8 := [162, 0, 30, 42, 180, 0, 13, 42, 180, 0, 29, 21, 5, 96, 42, 180, 0, 7, 29, 21, 5, 96, 51, 84]
abbrev dktX10_feed_2 : List UInt8 := dkwX10_feed_2 ++ dktX10_feed_3
def dkwX10_feed_1 : List UInt8 := [54, 4, 42, 180, 0, 29, 21, 4, 96, 17, 64, 0, 164, 0, 5, 3, 172, 3, 54, 5, 21, 5, 21, 4]
abbrev dktX10_feed_1 : List UInt8 := dkwX10_feed_1 ++ dktX10_feed_2
def dkwX10_feed_0 : List UInt8 := [27, 42, 180, 0, 20, 4, 96, 184, 0, 24, 62, 28, 42, 180, 0, 20, 29, 100, 4, 96, 184, 0, 24]
abbrev dktX10_feed_0 : List UInt8 := dkwX10_feed_0 ++ dktX10_feed_1
theorem dksX10_feed_0 : cX10_feed.data.toList.drop 0 = dktX10_feed_0 := by decide +kernel
theorem dksX10_feed_1 : cX10_feed.data.toList.drop 23 = dktX10_feed_1 := dk_seg dksX10_feed_0 23 rfl rfl
theorem dksX10_feed_2 : cX10_feed.data.toList.drop 47 = dktX10_feed_2 := dk_seg dksX10_feed_1 24 rfl rfl
theorem dksX10_feed_3 : cX10_feed.data.toList.drop 71 = dktX10_feed_3 := dk_seg dksX10_feed_2 24 rfl rfl
theorem dX10_feed_0 : decode cX10_feed 0 = .ok (.iload_n 1, 1) := dk_27 (dk_at dksX10_feed_0 0 rfl rfl)
theorem dX10_feed_1 : decode cX10_feed 1 = .ok (.aload_n 0, 1) := dk_42 (dk_at dksX10_feed_0 1 rfl rfl)
theorem dX10_feed_2 : decode cX10_feed 2 = .ok (.getfield 20, 3) := dk_180 0 20 (dk_at dksX10_feed_0 2 rfl rfl)
theorem dX10_feed_5 : decode cX10_feed 5 = .ok (.iconst 1, 1) := dk_4 (dk_at dksX10_feed_0 5 rfl rfl)
theorem dX10_feed_6 : decode cX10_feed 6 = .ok (.iadd, 1) := dk_96 (dk_at dksX10_feed_0 6 rfl rfl)
theorem dX10_feed_7 : decode cX10_feed 7 = .ok (.invokestatic 24, 3) := dk_184 0 24 (dk_at dksX10_feed_0 7 rfl rfl)
theorem dX10_feed_10 : decode cX10_feed 10 = .ok (.istore_n 3, 1) := dk_62 (dk_at dksX10_feed_0 10 rfl rfl)
theorem dX10_feed_11 : decode cX10_feed 11 = .ok (.iload_n 2, 1) := dk_28 (dk_at dksX10_feed_0 11 rfl rfl)
theorem dX10_feed_12 : decode cX10_feed 12 = .ok (.aload_n 0, 1) := dk_42 (dk_at dksX10_feed_0 12 rfl rfl)
theorem dX10_feed_13 : decode cX10_feed 13 = .ok (.getfield 20, 3) := dk_180 0 20 (dk_at dksX10_feed_0 13 rfl rfl)
theorem dX10_feed_16 : decode cX10_feed 16 = .ok (.iload_n 3, 1) := dk_29 (dk_at dksX10_feed_0 16 rfl rfl)
theorem dX10_feed_17 : decode cX10_feed 17 = .ok (.isub, 1) := dk_100 (dk_at dksX10_feed_0 17 rfl rfl)
theorem dX10_feed_18 : decode cX10_feed 18 = .ok (.iconst 1, 1) := dk_4 (dk_at dksX10_feed_0 18 rfl rfl)
theorem dX10_feed_19 : decode cX10_feed 19 = .ok (.iadd, 1) := dk_96 (dk_at dksX10_feed_0 19 rfl rfl)
theorem dX10_feed_20 : decode cX10_feed 20 = .ok (.invokestatic 24, 3) := dk_184 0 24 (dk_at dksX10_feed_0 20 rfl rfl)
theorem dX10_feed_23 : decode cX10_feed 23 = .ok (.istore 4, 2) := dk_54 4 (dk_at dksX10_feed_1 0 rfl rfl)
theorem dX10_feed_25 : decode cX10_feed 25 = .ok (.aload_n 0, 1) := dk_42 (dk_at dksX10_feed_1 2 rfl rfl)
theorem dX10_feed_26 : decode cX10_feed 26 = .ok (.getfield 29, 3) := dk_180 0 29 (dk_at dksX10_feed_1 3 rfl rfl)
theorem dX10_feed_29 : decode cX10_feed 29 = .ok (.iload 4, 2) := dk_21 4 (dk_at dksX10_feed_1 6 rfl rfl)
theorem dX10_feed_31 : decode cX10_feed 31 = .ok (.iadd, 1) := dk_96 (dk_at dksX10_feed_1 8 rfl rfl)
theorem dX10_feed_32 : decode cX10_feed 32 = .ok (.sipush 16384, 3) := dk_17 64 0 (dk_at dksX10_feed_1 9 rfl rfl)
theorem dX10_feed_35 : decode cX10_feed 35 = .ok (.if_icmp .le 5, 3) := dk_164 0 5 (dk_at dksX10_feed_1 12 rfl rfl)
theorem dX10_feed_38 : decode cX10_feed 38 = .ok (.iconst 0, 1) := dk_3 (dk_at dksX10_feed_1 15 rfl rfl)
theorem dX10_feed_39 : decode cX10_feed 39 = .ok (.ireturn, 1) := dk_172 (dk_at dksX10_feed_1 16 rfl rfl)
theorem dX10_feed_40 : decode cX10_feed 40 = .ok (.iconst 0, 1) := dk_3 (dk_at dksX10_feed_1 17 rfl rfl)
theorem dX10_feed_41 : decode cX10_feed 41 = .ok (.istore 5, 2) := dk_54 5 (dk_at dksX10_feed_1 18 rfl rfl)
theorem dX10_feed_43 : decode cX10_feed 43 = .ok (.iload 5, 2) := dk_21 5 (dk_at dksX10_feed_1 20 rfl rfl)
theorem dX10_feed_45 : decode cX10_feed 45 = .ok (.iload 4, 2) := dk_21 4 (dk_at dksX10_feed_1 22 rfl rfl)
theorem dX10_feed_47 : decode cX10_feed 47 = .ok (.if_icmp .ge 30, 3) := dk_162 0 30 (dk_at dksX10_feed_2 0 rfl rfl)
theorem dX10_feed_50 : decode cX10_feed 50 = .ok (.aload_n 0, 1) := dk_42 (dk_at dksX10_feed_2 3 rfl rfl)
theorem dX10_feed_51 : decode cX10_feed 51 = .ok (.getfield 13, 3) := dk_180 0 13 (dk_at dksX10_feed_2 4 rfl rfl)
theorem dX10_feed_54 : decode cX10_feed 54 = .ok (.aload_n 0, 1) := dk_42 (dk_at dksX10_feed_2 7 rfl rfl)
theorem dX10_feed_55 : decode cX10_feed 55 = .ok (.getfield 29, 3) := dk_180 0 29 (dk_at dksX10_feed_2 8 rfl rfl)
theorem dX10_feed_58 : decode cX10_feed 58 = .ok (.iload 5, 2) := dk_21 5 (dk_at dksX10_feed_2 11 rfl rfl)
theorem dX10_feed_60 : decode cX10_feed 60 = .ok (.iadd, 1) := dk_96 (dk_at dksX10_feed_2 13 rfl rfl)
theorem dX10_feed_61 : decode cX10_feed 61 = .ok (.aload_n 0, 1) := dk_42 (dk_at dksX10_feed_2 14 rfl rfl)
theorem dX10_feed_62 : decode cX10_feed 62 = .ok (.getfield 7, 3) := dk_180 0 7 (dk_at dksX10_feed_2 15 rfl rfl)
theorem dX10_feed_65 : decode cX10_feed 65 = .ok (.iload_n 3, 1) := dk_29 (dk_at dksX10_feed_2 18 rfl rfl)
theorem dX10_feed_66 : decode cX10_feed 66 = .ok (.iload 5, 2) := dk_21 5 (dk_at dksX10_feed_2 19 rfl rfl)
theorem dX10_feed_68 : decode cX10_feed 68 = .ok (.iadd, 1) := dk_96 (dk_at dksX10_feed_2 21 rfl rfl)
theorem dX10_feed_69 : decode cX10_feed 69 = .ok (.baload, 1) := dk_51 (dk_at dksX10_feed_2 22 rfl rfl)
theorem dX10_feed_70 : decode cX10_feed 70 = .ok (.bastore, 1) := dk_84 (dk_at dksX10_feed_2 23 rfl rfl)
theorem dX10_feed_71 : decode cX10_feed 71 = .ok (.iinc 5 1, 3) := dk_132 5 1 (dk_at dksX10_feed_3 0 rfl rfl)
theorem dX10_feed_74 : decode cX10_feed 74 = .ok (.goto (-31), 3) := dk_167 255 225 (dk_at dksX10_feed_3 3 rfl rfl)
theorem dX10_feed_77 : decode cX10_feed 77 = .ok (.aload_n 0, 1) := dk_42 (dk_at dksX10_feed_3 6 rfl rfl)
theorem dX10_feed_78 : decode cX10_feed 78 = .ok (.aload_n 0, 1) := dk_42 (dk_at dksX10_feed_3 7 rfl rfl)
theorem dX10_feed_79 : decode cX10_feed 79 = .ok (.getfield 29, 3) := dk_180 0 29 (dk_at dksX10_feed_3 8 rfl rfl)
theorem dX10_feed_82 : decode cX10_feed 82 = .ok (.iload 4, 2) := dk_21 4 (dk_at dksX10_feed_3 11 rfl rfl)
theorem dX10_feed_84 : decode cX10_feed 84 = .ok (.iadd, 1) := dk_96 (dk_at dksX10_feed_3 13 rfl rfl)
theorem dX10_feed_85 : decode cX10_feed 85 = .ok (.putfield 29, 3) := dk_181 0 29 (dk_at dksX10_feed_3 14 rfl rfl)
theorem dX10_feed_88 : decode cX10_feed 88 = .ok (.iconst 1, 1) := dk_4 (dk_at dksX10_feed_3 17 rfl rfl)
theorem dX10_feed_89 : decode cX10_feed 89 = .ok (.ireturn, 1) := dk_172 (dk_at dksX10_feed_3 18 rfl rfl)
abbrev cX10_one : ByteArray := prog_6_method_7_code
def yX10_one : MethodName := ⟨RX10, "one", "(I)Z"⟩
def dkwX10_one_1 : List UInt8 := [42, 180, 0, 29, 4, 96, 181, 0, 29, 4, 172]
abbrev dktX10_one_1 : List UInt8 := dkwX10_one_1 ++ []
def dkwX10_one_0 : List UInt8 := [42, 180, 0, 29, 17, 64, 0, 161, 0, 5, 3, 172, 42, 180, 0, 13, 42, 180, 0, 29, 27, 145, 84, 42]
abbrev dktX10_one_0 : List UInt8 := dkwX10_one_0 ++ dktX10_one_1
theorem dksX10_one_0 : cX10_one.data.toList.drop 0 = dktX10_one_0 := by decide +kernel
theorem dksX10_one_1 : cX10_one.data.toList.drop 24 = dktX10_one_1 := dk_seg dksX10_one_0 24 rfl rfl
theorem dX10_one_0 : decode cX10_one 0 = .ok (.aload_n 0, 1) := dk_42 (dk_at dksX10_one_0 0 rfl rfl)
theorem dX10_one_1 : decode cX10_one 1 = .ok (.getfield 29, 3) := dk_180 0 29 (dk_at dksX10_one_0 1 rfl rfl)
theorem dX10_one_4 : decode cX10_one 4 = .ok (.sipush 16384, 3) := dk_17 64 0 (dk_at dksX10_one_0 4 rfl rfl)
theorem dX10_one_7 : decode cX10_one 7 = .ok (.if_icmp .lt 5, 3) := dk_161 0 5 (dk_at dksX10_one_0 7 rfl rfl)
theorem dX10_one_10 : decode cX10_one 10 = .ok (.iconst 0, 1) := dk_3 (dk_at dksX10_one_0 10 rfl rfl)
theorem dX10_one_11 : decode cX10_one 11 = .ok (.ireturn, 1) := dk_172 (dk_at dksX10_one_0 11 rfl rfl)
theorem dX10_one_12 : decode cX10_one 12 = .ok (.aload_n 0, 1) := dk_42 (dk_at dksX10_one_0 12 rfl rfl)
theorem dX10_one_13 : decode cX10_one 13 = .ok (.getfield 13, 3) := dk_180 0 13 (dk_at dksX10_one_0 13 rfl rfl)
theorem dX10_one_16 : decode cX10_one 16 = .ok (.aload_n 0, 1) := dk_42 (dk_at dksX10_one_0 16 rfl rfl)
theorem dX10_one_17 : decode cX10_one 17 = .ok (.getfield 29, 3) := dk_180 0 29 (dk_at dksX10_one_0 17 rfl rfl)
theorem dX10_one_20 : decode cX10_one 20 = .ok (.iload_n 1, 1) := dk_27 (dk_at dksX10_one_0 20 rfl rfl)
theorem dX10_one_21 : decode cX10_one 21 = .ok (.i2b, 1) := dk_145 (dk_at dksX10_one_0 21 rfl rfl)
theorem dX10_one_22 : decode cX10_one 22 = .ok (.bastore, 1) := dk_84 (dk_at dksX10_one_0 22 rfl rfl)
theorem dX10_one_23 : decode cX10_one 23 = .ok (.aload_n 0, 1) := dk_42 (dk_at dksX10_one_0 23 rfl rfl)
theorem dX10_one_24 : decode cX10_one 24 = .ok (.aload_n 0, 1) := dk_42 (dk_at dksX10_one_1 0 rfl rfl)
theorem dX10_one_25 : decode cX10_one 25 = .ok (.getfield 29, 3) := dk_180 0 29 (dk_at dksX10_one_1 1 rfl rfl)
theorem dX10_one_28 : decode cX10_one 28 = .ok (.iconst 1, 1) := dk_4 (dk_at dksX10_one_1 4 rfl rfl)
theorem dX10_one_29 : decode cX10_one 29 = .ok (.iadd, 1) := dk_96 (dk_at dksX10_one_1 5 rfl rfl)
theorem dX10_one_30 : decode cX10_one 30 = .ok (.putfield 29, 3) := dk_181 0 29 (dk_at dksX10_one_1 6 rfl rfl)
theorem dX10_one_33 : decode cX10_one 33 = .ok (.iconst 1, 1) := dk_4 (dk_at dksX10_one_1 9 rfl rfl)
theorem dX10_one_34 : decode cX10_one 34 = .ok (.ireturn, 1) := dk_172 (dk_at dksX10_one_1 10 rfl rfl)
abbrev cX10_close : ByteArray := prog_6_method_8_code
def yX10_close : MethodName := ⟨RX10, "close", "()I"⟩
def dkwX10_close_0 : List UInt8 := [42, 182, 0, 32, 42, 3, 181, 0, 29, 16, 32, 172]
abbrev dktX10_close_0 : List UInt8 := dkwX10_close_0 ++ []
theorem dksX10_close_0 : cX10_close.data.toList.drop 0 = dktX10_close_0 := by decide +kernel
theorem dX10_close_0 : decode cX10_close 0 = .ok (.aload_n 0, 1) := dk_42 (dk_at dksX10_close_0 0 rfl rfl)
theorem dX10_close_1 : decode cX10_close 1 = .ok (.invokevirtual 32, 3) := dk_182 0 32 (dk_at dksX10_close_0 1 rfl rfl)
theorem dX10_close_4 : decode cX10_close 4 = .ok (.aload_n 0, 1) := dk_42 (dk_at dksX10_close_0 4 rfl rfl)
theorem dX10_close_5 : decode cX10_close 5 = .ok (.iconst 0, 1) := dk_3 (dk_at dksX10_close_0 5 rfl rfl)
theorem dX10_close_6 : decode cX10_close 6 = .ok (.putfield 29, 3) := dk_181 0 29 (dk_at dksX10_close_0 6 rfl rfl)
theorem dX10_close_9 : decode cX10_close 9 = .ok (.bipush 32, 2) := dk_16 32 (dk_at dksX10_close_0 9 rfl rfl)
theorem dX10_close_11 : decode cX10_close 11 = .ok (.ireturn, 1) := dk_172 (dk_at dksX10_close_0 11 rfl rfl)
abbrev cX10_hash : ByteArray := prog_6_method_11_code
def yX10_hash : MethodName := ⟨RX10, "hash", "()V"⟩
def dkwX10_hash_8 : List UInt8 := [21, 4, 104, 125, 20, 0, 41, 127, 136, 79, 132, 4, 1, 167, 255, 220, 132, 3, 1, 167, 255, 198, 177]
abbrev dktX10_hash_8 : List UInt8 := dkwX10_hash_8 ++ []
def dkwX10_hash_7 : List UInt8 := [21, 4, 16, 8, 162, 0, 35, 42, 180, 0, 16, 16, 8, 29, 104, 21, 4, 96, 43, 3, 47, 16, 8]
abbrev dktX10_hash_7 : List UInt8 := dkwX10_hash_7 ++ dktX10_hash_8
def dkwX10_hash_6 : List UInt8 := [132, 3, 1, 167, 255, 153, 3, 62, 29, 7, 162, 0, 59, 29, 158, 0, 7, 43, 184, 0, 37, 3, 54, 4]
abbrev dktX10_hash_6 : List UInt8 := dkwX10_hash_6 ++ dktX10_hash_7
def dkwX10_hash_5 : List UInt8 := [121, 129, 55, 4, 132, 6, 1, 167, 255, 183, 43, 3, 43, 3, 47, 22, 4, 131, 80, 43, 184, 0, 37]
abbrev dktX10_hash_5 : List UInt8 := dkwX10_hash_5 ++ dktX10_hash_6
def dkwX10_hash_4 : List UInt8 := [167, 0, 15, 21, 7, 42, 180, 0, 29, 160, 0, 6, 10, 55, 8, 22, 4, 22, 8, 16, 8, 21, 6, 104]
abbrev dktX10_hash_4 : List UInt8 := dkwX10_hash_4 ++ dktX10_hash_5
def dkwX10_hash_3 : List UInt8 := [21, 7, 42, 180, 0, 29, 162, 0, 20, 42, 180, 0, 13, 21, 7, 51, 133, 20, 0, 41, 127, 55, 8]
abbrev dktX10_hash_3 : List UInt8 := dkwX10_hash_3 ++ dktX10_hash_4
def dkwX10_hash_2 : List UInt8 := [55, 4, 3, 54, 6, 21, 6, 16, 8, 162, 0, 72, 16, 8, 29, 104, 21, 6, 96, 54, 7, 9, 55, 8]
abbrev dktX10_hash_2 : List UInt8 := dkwX10_hash_2 ++ dktX10_hash_3
def dkwX10_hash_1 : List UInt8 := [80, 76, 43, 184, 0, 37, 42, 180, 0, 29, 16, 8, 108, 4, 96, 61, 3, 62, 29, 28, 162, 0, 104, 9]
abbrev dktX10_hash_1 : List UInt8 := dkwX10_hash_1 ++ dktX10_hash_2
def dkwX10_hash_0 : List UInt8 := [8, 188, 11, 89, 3, 20, 0, 35, 80, 89, 4, 9, 80, 89, 5, 9, 80, 89, 6, 9, 80, 89, 7, 9]
abbrev dktX10_hash_0 : List UInt8 := dkwX10_hash_0 ++ dktX10_hash_1
theorem dksX10_hash_0 : cX10_hash.data.toList.drop 0 = dktX10_hash_0 := by decide +kernel
theorem dksX10_hash_1 : cX10_hash.data.toList.drop 24 = dktX10_hash_1 := dk_seg dksX10_hash_0 24 rfl rfl
theorem dksX10_hash_2 : cX10_hash.data.toList.drop 48 = dktX10_hash_2 := dk_seg dksX10_hash_1 24 rfl rfl
theorem dksX10_hash_3 : cX10_hash.data.toList.drop 72 = dktX10_hash_3 := dk_seg dksX10_hash_2 24 rfl rfl
theorem dksX10_hash_4 : cX10_hash.data.toList.drop 95 = dktX10_hash_4 := dk_seg dksX10_hash_3 23 rfl rfl
theorem dksX10_hash_5 : cX10_hash.data.toList.drop 119 = dktX10_hash_5 := dk_seg dksX10_hash_4 24 rfl rfl
theorem dksX10_hash_6 : cX10_hash.data.toList.drop 142 = dktX10_hash_6 := dk_seg dksX10_hash_5 23 rfl rfl
theorem dksX10_hash_7 : cX10_hash.data.toList.drop 166 = dktX10_hash_7 := dk_seg dksX10_hash_6 24 rfl rfl
theorem dksX10_hash_8 : cX10_hash.data.toList.drop 189 = dktX10_hash_8 := dk_seg dksX10_hash_7 23 rfl rfl
theorem dX10_hash_0 : decode cX10_hash 0 = .ok (.iconst 5, 1) := dk_8 (dk_at dksX10_hash_0 0 rfl rfl)
theorem dX10_hash_1 : decode cX10_hash 1 = .ok (.newarray .long, 2) := dk_188_11 (dk_at dksX10_hash_0 1 rfl rfl)
theorem dX10_hash_3 : decode cX10_hash 3 = .ok (.dup, 1) := dk_89 (dk_at dksX10_hash_0 3 rfl rfl)
theorem dX10_hash_4 : decode cX10_hash 4 = .ok (.iconst 0, 1) := dk_3 (dk_at dksX10_hash_0 4 rfl rfl)
theorem dX10_hash_5 : decode cX10_hash 5 = .ok (.ldc2_w 35, 3) := dk_20 0 35 (dk_at dksX10_hash_0 5 rfl rfl)
theorem dX10_hash_8 : decode cX10_hash 8 = .ok (.lastore, 1) := dk_80 (dk_at dksX10_hash_0 8 rfl rfl)
theorem dX10_hash_9 : decode cX10_hash 9 = .ok (.dup, 1) := dk_89 (dk_at dksX10_hash_0 9 rfl rfl)
theorem dX10_hash_10 : decode cX10_hash 10 = .ok (.iconst 1, 1) := dk_4 (dk_at dksX10_hash_0 10 rfl rfl)
theorem dX10_hash_11 : decode cX10_hash 11 = .ok (.lconst 0, 1) := dk_9 (dk_at dksX10_hash_0 11 rfl rfl)
theorem dX10_hash_12 : decode cX10_hash 12 = .ok (.lastore, 1) := dk_80 (dk_at dksX10_hash_0 12 rfl rfl)
theorem dX10_hash_13 : decode cX10_hash 13 = .ok (.dup, 1) := dk_89 (dk_at dksX10_hash_0 13 rfl rfl)
theorem dX10_hash_14 : decode cX10_hash 14 = .ok (.iconst 2, 1) := dk_5 (dk_at dksX10_hash_0 14 rfl rfl)
theorem dX10_hash_15 : decode cX10_hash 15 = .ok (.lconst 0, 1) := dk_9 (dk_at dksX10_hash_0 15 rfl rfl)
theorem dX10_hash_16 : decode cX10_hash 16 = .ok (.lastore, 1) := dk_80 (dk_at dksX10_hash_0 16 rfl rfl)
theorem dX10_hash_17 : decode cX10_hash 17 = .ok (.dup, 1) := dk_89 (dk_at dksX10_hash_0 17 rfl rfl)
theorem dX10_hash_18 : decode cX10_hash 18 = .ok (.iconst 3, 1) := dk_6 (dk_at dksX10_hash_0 18 rfl rfl)
theorem dX10_hash_19 : decode cX10_hash 19 = .ok (.lconst 0, 1) := dk_9 (dk_at dksX10_hash_0 19 rfl rfl)
theorem dX10_hash_20 : decode cX10_hash 20 = .ok (.lastore, 1) := dk_80 (dk_at dksX10_hash_0 20 rfl rfl)
theorem dX10_hash_21 : decode cX10_hash 21 = .ok (.dup, 1) := dk_89 (dk_at dksX10_hash_0 21 rfl rfl)
theorem dX10_hash_22 : decode cX10_hash 22 = .ok (.iconst 4, 1) := dk_7 (dk_at dksX10_hash_0 22 rfl rfl)
theorem dX10_hash_23 : decode cX10_hash 23 = .ok (.lconst 0, 1) := dk_9 (dk_at dksX10_hash_0 23 rfl rfl)
theorem dX10_hash_24 : decode cX10_hash 24 = .ok (.lastore, 1) := dk_80 (dk_at dksX10_hash_1 0 rfl rfl)
theorem dX10_hash_25 : decode cX10_hash 25 = .ok (.astore_n 1, 1) := dk_76 (dk_at dksX10_hash_1 1 rfl rfl)
theorem dX10_hash_26 : decode cX10_hash 26 = .ok (.aload_n 1, 1) := dk_43 (dk_at dksX10_hash_1 2 rfl rfl)
theorem dX10_hash_27 : decode cX10_hash 27 = .ok (.invokestatic 37, 3) := dk_184 0 37 (dk_at dksX10_hash_1 3 rfl rfl)
theorem dX10_hash_30 : decode cX10_hash 30 = .ok (.aload_n 0, 1) := dk_42 (dk_at dksX10_hash_1 6 rfl rfl)
theorem dX10_hash_31 : decode cX10_hash 31 = .ok (.getfield 29, 3) := dk_180 0 29 (dk_at dksX10_hash_1 7 rfl rfl)
theorem dX10_hash_34 : decode cX10_hash 34 = .ok (.bipush 8, 2) := dk_16 8 (dk_at dksX10_hash_1 10 rfl rfl)
theorem dX10_hash_36 : decode cX10_hash 36 = .ok (.idiv, 1) := dk_108 (dk_at dksX10_hash_1 12 rfl rfl)
theorem dX10_hash_37 : decode cX10_hash 37 = .ok (.iconst 1, 1) := dk_4 (dk_at dksX10_hash_1 13 rfl rfl)
theorem dX10_hash_38 : decode cX10_hash 38 = .ok (.iadd, 1) := dk_96 (dk_at dksX10_hash_1 14 rfl rfl)
theorem dX10_hash_39 : decode cX10_hash 39 = .ok (.istore_n 2, 1) := dk_61 (dk_at dksX10_hash_1 15 rfl rfl)
theorem dX10_hash_40 : decode cX10_hash 40 = .ok (.iconst 0, 1) := dk_3 (dk_at dksX10_hash_1 16 rfl rfl)
theorem dX10_hash_41 : decode cX10_hash 41 = .ok (.istore_n 3, 1) := dk_62 (dk_at dksX10_hash_1 17 rfl rfl)
theorem dX10_hash_42 : decode cX10_hash 42 = .ok (.iload_n 3, 1) := dk_29 (dk_at dksX10_hash_1 18 rfl rfl)
theorem dX10_hash_43 : decode cX10_hash 43 = .ok (.iload_n 2, 1) := dk_28 (dk_at dksX10_hash_1 19 rfl rfl)
theorem dX10_hash_44 : decode cX10_hash 44 = .ok (.if_icmp .ge 104, 3) := dk_162 0 104 (dk_at dksX10_hash_1 20 rfl rfl)
theorem dX10_hash_47 : decode cX10_hash 47 = .ok (.lconst 0, 1) := dk_9 (dk_at dksX10_hash_1 23 rfl rfl)
theorem dX10_hash_48 : decode cX10_hash 48 = .ok (.lstore 4, 2) := dk_55 4 (dk_at dksX10_hash_2 0 rfl rfl)
theorem dX10_hash_50 : decode cX10_hash 50 = .ok (.iconst 0, 1) := dk_3 (dk_at dksX10_hash_2 2 rfl rfl)
theorem dX10_hash_51 : decode cX10_hash 51 = .ok (.istore 6, 2) := dk_54 6 (dk_at dksX10_hash_2 3 rfl rfl)
theorem dX10_hash_53 : decode cX10_hash 53 = .ok (.iload 6, 2) := dk_21 6 (dk_at dksX10_hash_2 5 rfl rfl)
theorem dX10_hash_55 : decode cX10_hash 55 = .ok (.bipush 8, 2) := dk_16 8 (dk_at dksX10_hash_2 7 rfl rfl)
theorem dX10_hash_57 : decode cX10_hash 57 = .ok (.if_icmp .ge 72, 3) := dk_162 0 72 (dk_at dksX10_hash_2 9 rfl rfl)
theorem dX10_hash_60 : decode cX10_hash 60 = .ok (.bipush 8, 2) := dk_16 8 (dk_at dksX10_hash_2 12 rfl rfl)
theorem dX10_hash_62 : decode cX10_hash 62 = .ok (.iload_n 3, 1) := dk_29 (dk_at dksX10_hash_2 14 rfl rfl)
theorem dX10_hash_63 : decode cX10_hash 63 = .ok (.imul, 1) := dk_104 (dk_at dksX10_hash_2 15 rfl rfl)
theorem dX10_hash_64 : decode cX10_hash 64 = .ok (.iload 6, 2) := dk_21 6 (dk_at dksX10_hash_2 16 rfl rfl)
theorem dX10_hash_66 : decode cX10_hash 66 = .ok (.iadd, 1) := dk_96 (dk_at dksX10_hash_2 18 rfl rfl)
theorem dX10_hash_67 : decode cX10_hash 67 = .ok (.istore 7, 2) := dk_54 7 (dk_at dksX10_hash_2 19 rfl rfl)
theorem dX10_hash_69 : decode cX10_hash 69 = .ok (.lconst 0, 1) := dk_9 (dk_at dksX10_hash_2 21 rfl rfl)
theorem dX10_hash_70 : decode cX10_hash 70 = .ok (.lstore 8, 2) := dk_55 8 (dk_at dksX10_hash_2 22 rfl rfl)
theorem dX10_hash_72 : decode cX10_hash 72 = .ok (.iload 7, 2) := dk_21 7 (dk_at dksX10_hash_3 0 rfl rfl)
theorem dX10_hash_74 : decode cX10_hash 74 = .ok (.aload_n 0, 1) := dk_42 (dk_at dksX10_hash_3 2 rfl rfl)
theorem dX10_hash_75 : decode cX10_hash 75 = .ok (.getfield 29, 3) := dk_180 0 29 (dk_at dksX10_hash_3 3 rfl rfl)
theorem dX10_hash_78 : decode cX10_hash 78 = .ok (.if_icmp .ge 20, 3) := dk_162 0 20 (dk_at dksX10_hash_3 6 rfl rfl)
theorem dX10_hash_81 : decode cX10_hash 81 = .ok (.aload_n 0, 1) := dk_42 (dk_at dksX10_hash_3 9 rfl rfl)
theorem dX10_hash_82 : decode cX10_hash 82 = .ok (.getfield 13, 3) := dk_180 0 13 (dk_at dksX10_hash_3 10 rfl rfl)
theorem dX10_hash_85 : decode cX10_hash 85 = .ok (.iload 7, 2) := dk_21 7 (dk_at dksX10_hash_3 13 rfl rfl)
theorem dX10_hash_87 : decode cX10_hash 87 = .ok (.baload, 1) := dk_51 (dk_at dksX10_hash_3 15 rfl rfl)
theorem dX10_hash_88 : decode cX10_hash 88 = .ok (.i2l, 1) := dk_133 (dk_at dksX10_hash_3 16 rfl rfl)
theorem dX10_hash_89 : decode cX10_hash 89 = .ok (.ldc2_w 41, 3) := dk_20 0 41 (dk_at dksX10_hash_3 17 rfl rfl)
theorem dX10_hash_92 : decode cX10_hash 92 = .ok (.land, 1) := dk_127 (dk_at dksX10_hash_3 20 rfl rfl)
theorem dX10_hash_93 : decode cX10_hash 93 = .ok (.lstore 8, 2) := dk_55 8 (dk_at dksX10_hash_3 21 rfl rfl)
theorem dX10_hash_95 : decode cX10_hash 95 = .ok (.goto 15, 3) := dk_167 0 15 (dk_at dksX10_hash_4 0 rfl rfl)
theorem dX10_hash_98 : decode cX10_hash 98 = .ok (.iload 7, 2) := dk_21 7 (dk_at dksX10_hash_4 3 rfl rfl)
theorem dX10_hash_100 : decode cX10_hash 100 = .ok (.aload_n 0, 1) := dk_42 (dk_at dksX10_hash_4 5 rfl rfl)
theorem dX10_hash_101 : decode cX10_hash 101 = .ok (.getfield 29, 3) := dk_180 0 29 (dk_at dksX10_hash_4 6 rfl rfl)
theorem dX10_hash_104 : decode cX10_hash 104 = .ok (.if_icmp .ne 6, 3) := dk_160 0 6 (dk_at dksX10_hash_4 9 rfl rfl)
theorem dX10_hash_107 : decode cX10_hash 107 = .ok (.lconst 1, 1) := dk_10 (dk_at dksX10_hash_4 12 rfl rfl)
theorem dX10_hash_108 : decode cX10_hash 108 = .ok (.lstore 8, 2) := dk_55 8 (dk_at dksX10_hash_4 13 rfl rfl)
theorem dX10_hash_110 : decode cX10_hash 110 = .ok (.lload 4, 2) := dk_22 4 (dk_at dksX10_hash_4 15 rfl rfl)
theorem dX10_hash_112 : decode cX10_hash 112 = .ok (.lload 8, 2) := dk_22 8 (dk_at dksX10_hash_4 17 rfl rfl)
theorem dX10_hash_114 : decode cX10_hash 114 = .ok (.bipush 8, 2) := dk_16 8 (dk_at dksX10_hash_4 19 rfl rfl)
theorem dX10_hash_116 : decode cX10_hash 116 = .ok (.iload 6, 2) := dk_21 6 (dk_at dksX10_hash_4 21 rfl rfl)
theorem dX10_hash_118 : decode cX10_hash 118 = .ok (.imul, 1) := dk_104 (dk_at dksX10_hash_4 23 rfl rfl)
theorem dX10_hash_119 : decode cX10_hash 119 = .ok (.lshl, 1) := dk_121 (dk_at dksX10_hash_5 0 rfl rfl)
theorem dX10_hash_120 : decode cX10_hash 120 = .ok (.lor, 1) := dk_129 (dk_at dksX10_hash_5 1 rfl rfl)
theorem dX10_hash_121 : decode cX10_hash 121 = .ok (.lstore 4, 2) := dk_55 4 (dk_at dksX10_hash_5 2 rfl rfl)
theorem dX10_hash_123 : decode cX10_hash 123 = .ok (.iinc 6 1, 3) := dk_132 6 1 (dk_at dksX10_hash_5 4 rfl rfl)
theorem dX10_hash_126 : decode cX10_hash 126 = .ok (.goto (-73), 3) := dk_167 255 183 (dk_at dksX10_hash_5 7 rfl rfl)
theorem dX10_hash_129 : decode cX10_hash 129 = .ok (.aload_n 1, 1) := dk_43 (dk_at dksX10_hash_5 10 rfl rfl)
theorem dX10_hash_130 : decode cX10_hash 130 = .ok (.iconst 0, 1) := dk_3 (dk_at dksX10_hash_5 11 rfl rfl)
theorem dX10_hash_131 : decode cX10_hash 131 = .ok (.aload_n 1, 1) := dk_43 (dk_at dksX10_hash_5 12 rfl rfl)
theorem dX10_hash_132 : decode cX10_hash 132 = .ok (.iconst 0, 1) := dk_3 (dk_at dksX10_hash_5 13 rfl rfl)
theorem dX10_hash_133 : decode cX10_hash 133 = .ok (.laload, 1) := dk_47 (dk_at dksX10_hash_5 14 rfl rfl)
theorem dX10_hash_134 : decode cX10_hash 134 = .ok (.lload 4, 2) := dk_22 4 (dk_at dksX10_hash_5 15 rfl rfl)
theorem dX10_hash_136 : decode cX10_hash 136 = .ok (.lxor, 1) := dk_131 (dk_at dksX10_hash_5 17 rfl rfl)
theorem dX10_hash_137 : decode cX10_hash 137 = .ok (.lastore, 1) := dk_80 (dk_at dksX10_hash_5 18 rfl rfl)
theorem dX10_hash_138 : decode cX10_hash 138 = .ok (.aload_n 1, 1) := dk_43 (dk_at dksX10_hash_5 19 rfl rfl)
theorem dX10_hash_139 : decode cX10_hash 139 = .ok (.invokestatic 37, 3) := dk_184 0 37 (dk_at dksX10_hash_5 20 rfl rfl)
theorem dX10_hash_142 : decode cX10_hash 142 = .ok (.iinc 3 1, 3) := dk_132 3 1 (dk_at dksX10_hash_6 0 rfl rfl)
theorem dX10_hash_145 : decode cX10_hash 145 = .ok (.goto (-103), 3) := dk_167 255 153 (dk_at dksX10_hash_6 3 rfl rfl)
theorem dX10_hash_148 : decode cX10_hash 148 = .ok (.iconst 0, 1) := dk_3 (dk_at dksX10_hash_6 6 rfl rfl)
theorem dX10_hash_149 : decode cX10_hash 149 = .ok (.istore_n 3, 1) := dk_62 (dk_at dksX10_hash_6 7 rfl rfl)
theorem dX10_hash_150 : decode cX10_hash 150 = .ok (.iload_n 3, 1) := dk_29 (dk_at dksX10_hash_6 8 rfl rfl)
theorem dX10_hash_151 : decode cX10_hash 151 = .ok (.iconst 4, 1) := dk_7 (dk_at dksX10_hash_6 9 rfl rfl)
theorem dX10_hash_152 : decode cX10_hash 152 = .ok (.if_icmp .ge 59, 3) := dk_162 0 59 (dk_at dksX10_hash_6 10 rfl rfl)
theorem dX10_hash_155 : decode cX10_hash 155 = .ok (.iload_n 3, 1) := dk_29 (dk_at dksX10_hash_6 13 rfl rfl)
theorem dX10_hash_156 : decode cX10_hash 156 = .ok (.ifCond .le 7, 3) := dk_158 0 7 (dk_at dksX10_hash_6 14 rfl rfl)
theorem dX10_hash_159 : decode cX10_hash 159 = .ok (.aload_n 1, 1) := dk_43 (dk_at dksX10_hash_6 17 rfl rfl)
theorem dX10_hash_160 : decode cX10_hash 160 = .ok (.invokestatic 37, 3) := dk_184 0 37 (dk_at dksX10_hash_6 18 rfl rfl)
theorem dX10_hash_163 : decode cX10_hash 163 = .ok (.iconst 0, 1) := dk_3 (dk_at dksX10_hash_6 21 rfl rfl)
theorem dX10_hash_164 : decode cX10_hash 164 = .ok (.istore 4, 2) := dk_54 4 (dk_at dksX10_hash_6 22 rfl rfl)
theorem dX10_hash_166 : decode cX10_hash 166 = .ok (.iload 4, 2) := dk_21 4 (dk_at dksX10_hash_7 0 rfl rfl)
theorem dX10_hash_168 : decode cX10_hash 168 = .ok (.bipush 8, 2) := dk_16 8 (dk_at dksX10_hash_7 2 rfl rfl)
theorem dX10_hash_170 : decode cX10_hash 170 = .ok (.if_icmp .ge 35, 3) := dk_162 0 35 (dk_at dksX10_hash_7 4 rfl rfl)
theorem dX10_hash_173 : decode cX10_hash 173 = .ok (.aload_n 0, 1) := dk_42 (dk_at dksX10_hash_7 7 rfl rfl)
theorem dX10_hash_174 : decode cX10_hash 174 = .ok (.getfield 16, 3) := dk_180 0 16 (dk_at dksX10_hash_7 8 rfl rfl)
theorem dX10_hash_177 : decode cX10_hash 177 = .ok (.bipush 8, 2) := dk_16 8 (dk_at dksX10_hash_7 11 rfl rfl)
theorem dX10_hash_179 : decode cX10_hash 179 = .ok (.iload_n 3, 1) := dk_29 (dk_at dksX10_hash_7 13 rfl rfl)
theorem dX10_hash_180 : decode cX10_hash 180 = .ok (.imul, 1) := dk_104 (dk_at dksX10_hash_7 14 rfl rfl)
theorem dX10_hash_181 : decode cX10_hash 181 = .ok (.iload 4, 2) := dk_21 4 (dk_at dksX10_hash_7 15 rfl rfl)
theorem dX10_hash_183 : decode cX10_hash 183 = .ok (.iadd, 1) := dk_96 (dk_at dksX10_hash_7 17 rfl rfl)
theorem dX10_hash_184 : decode cX10_hash 184 = .ok (.aload_n 1, 1) := dk_43 (dk_at dksX10_hash_7 18 rfl rfl)
theorem dX10_hash_185 : decode cX10_hash 185 = .ok (.iconst 0, 1) := dk_3 (dk_at dksX10_hash_7 19 rfl rfl)
theorem dX10_hash_186 : decode cX10_hash 186 = .ok (.laload, 1) := dk_47 (dk_at dksX10_hash_7 20 rfl rfl)
theorem dX10_hash_187 : decode cX10_hash 187 = .ok (.bipush 8, 2) := dk_16 8 (dk_at dksX10_hash_7 21 rfl rfl)
theorem dX10_hash_189 : decode cX10_hash 189 = .ok (.iload 4, 2) := dk_21 4 (dk_at dksX10_hash_8 0 rfl rfl)
theorem dX10_hash_191 : decode cX10_hash 191 = .ok (.imul, 1) := dk_104 (dk_at dksX10_hash_8 2 rfl rfl)
theorem dX10_hash_192 : decode cX10_hash 192 = .ok (.lushr, 1) := dk_125 (dk_at dksX10_hash_8 3 rfl rfl)
theorem dX10_hash_193 : decode cX10_hash 193 = .ok (.ldc2_w 41, 3) := dk_20 0 41 (dk_at dksX10_hash_8 4 rfl rfl)
theorem dX10_hash_196 : decode cX10_hash 196 = .ok (.land, 1) := dk_127 (dk_at dksX10_hash_8 7 rfl rfl)
theorem dX10_hash_197 : decode cX10_hash 197 = .ok (.l2i, 1) := dk_136 (dk_at dksX10_hash_8 8 rfl rfl)
theorem dX10_hash_198 : decode cX10_hash 198 = .ok (.iastore, 1) := dk_79 (dk_at dksX10_hash_8 9 rfl rfl)
theorem dX10_hash_199 : decode cX10_hash 199 = .ok (.iinc 4 1, 3) := dk_132 4 1 (dk_at dksX10_hash_8 10 rfl rfl)
theorem dX10_hash_202 : decode cX10_hash 202 = .ok (.goto (-36), 3) := dk_167 255 220 (dk_at dksX10_hash_8 13 rfl rfl)
theorem dX10_hash_205 : decode cX10_hash 205 = .ok (.iinc 3 1, 3) := dk_132 3 1 (dk_at dksX10_hash_8 16 rfl rfl)
theorem dX10_hash_208 : decode cX10_hash 208 = .ok (.goto (-58), 3) := dk_167 255 198 (dk_at dksX10_hash_8 19 rfl rfl)
theorem dX10_hash_211 : decode cX10_hash 211 = .ok (.return_, 1) := dk_177 (dk_at dksX10_hash_8 22 rfl rfl)
abbrev cX10_permute : ByteArray := prog_6_method_12_code
def yX10_permute : MethodName := ⟨RX10, "permute", "([J)V"⟩
def dkwX10_permute_11 : List UInt8 := [132, 1, 1, 167, 254, 253, 177]
abbrev dktX10_permute_11 : List UInt8 := dkwX10_permute_11 ++ []
def dkwX10_permute_10 : List UInt8 := [131, 80, 42, 7, 22, 20, 22, 20, 16, 7, 184, 0, 48, 131, 22, 20, 16, 41, 184, 0, 48, 131, 80]
abbrev dktX10_permute_10 : List UInt8 := dkwX10_permute_10 ++ dktX10_permute_11
def dkwX10_permute_9 : List UInt8 := [184, 0, 48, 131, 80, 42, 6, 22, 18, 22, 18, 16, 10, 184, 0, 48, 131, 22, 18, 16, 17, 184, 0, 48]
abbrev dktX10_permute_9 : List UInt8 := dkwX10_permute_9 ++ dktX10_permute_10
def dkwX10_permute_8 : List UInt8 := [16, 39, 184, 0, 48, 131, 80, 42, 5, 22, 16, 22, 16, 4, 184, 0, 48, 131, 22, 16, 16, 6]
abbrev dktX10_permute_8 : List UInt8 := dkwX10_permute_8 ++ dktX10_permute_9
def dkwX10_permute_7 : List UInt8 := [22, 12, 16, 28, 184, 0, 48, 131, 80, 42, 4, 22, 14, 22, 14, 16, 61, 184, 0, 48, 131, 22, 14]
abbrev dktX10_permute_7 : List UInt8 := dkwX10_permute_7 ++ dktX10_permute_8
def dkwX10_permute_6 : List UInt8 := [131, 55, 18, 22, 16, 20, 0, 46, 131, 55, 16, 42, 3, 22, 12, 22, 12, 16, 19, 184, 0, 48, 131]
abbrev dktX10_permute_6 : List UInt8 := dkwX10_permute_6 ++ dktX10_permute_7
def dkwX10_permute_5 : List UInt8 := [22, 4, 127, 131, 55, 20, 22, 14, 22, 12, 131, 55, 14, 22, 12, 22, 20, 131, 55, 12, 22, 18, 22, 16]
abbrev dktX10_permute_5 : List UInt8 := dkwX10_permute_5 ++ dktX10_permute_6
def dkwX10_permute_4 : List UInt8 := [127, 131, 55, 16, 22, 8, 22, 10, 20, 0, 46, 131, 32, 127, 131, 55, 18, 22, 10, 32, 20, 0, 46, 131]
abbrev dktX10_permute_4 : List UInt8 := dkwX10_permute_4 ++ dktX10_permute_5
def dkwX10_permute_3 : List UInt8 := [22, 4, 22, 6, 20, 0, 46, 131, 22, 8, 127, 131, 55, 14, 22, 6, 22, 8, 20, 0, 46, 131, 22, 10]
abbrev dktX10_permute_3 : List UInt8 := dkwX10_permute_3 ++ dktX10_permute_4
def dkwX10_permute_2 : List UInt8 := [131, 55, 10, 22, 6, 22, 4, 131, 55, 6, 32, 22, 4, 20, 0, 46, 131, 22, 6, 127, 131, 55, 12]
abbrev dktX10_permute_2 : List UInt8 := dkwX10_permute_2 ++ dktX10_permute_3
def dkwX10_permute_1 : List UInt8 := [46, 133, 131, 55, 6, 42, 6, 47, 55, 8, 42, 7, 47, 55, 10, 32, 22, 10, 131, 65, 22, 10, 22, 8]
abbrev dktX10_permute_1 : List UInt8 := dkwX10_permute_1 ++ dktX10_permute_2
def dkwX10_permute_0 : List UInt8 := [3, 60, 27, 16, 12, 162, 1, 3, 42, 3, 47, 65, 42, 4, 47, 55, 4, 42, 5, 47, 178, 0, 43, 27]
abbrev dktX10_permute_0 : List UInt8 := dkwX10_permute_0 ++ dktX10_permute_1
theorem dksX10_permute_0 : cX10_permute.data.toList.drop 0 = dktX10_permute_0 := by decide +kernel
theorem dksX10_permute_1 : cX10_permute.data.toList.drop 24 = dktX10_permute_1 := dk_seg dksX10_permute_0 24 rfl rfl
theorem dksX10_permute_2 : cX10_permute.data.toList.drop 48 = dktX10_permute_2 := dk_seg dksX10_permute_1 24 rfl rfl
theorem dksX10_permute_3 : cX10_permute.data.toList.drop 71 = dktX10_permute_3 := dk_seg dksX10_permute_2 23 rfl rfl
theorem dksX10_permute_4 : cX10_permute.data.toList.drop 95 = dktX10_permute_4 := dk_seg dksX10_permute_3 24 rfl rfl
theorem dksX10_permute_5 : cX10_permute.data.toList.drop 119 = dktX10_permute_5 := dk_seg dksX10_permute_4 24 rfl rfl
theorem dksX10_permute_6 : cX10_permute.data.toList.drop 143 = dktX10_permute_6 := dk_seg dksX10_permute_5 24 rfl rfl
theorem dksX10_permute_7 : cX10_permute.data.toList.drop 166 = dktX10_permute_7 := dk_seg dksX10_permute_6 23 rfl rfl
theorem dksX10_permute_8 : cX10_permute.data.toList.drop 189 = dktX10_permute_8 := dk_seg dksX10_permute_7 23 rfl rfl
theorem dksX10_permute_9 : cX10_permute.data.toList.drop 211 = dktX10_permute_9 := dk_seg dksX10_permute_8 22 rfl rfl
theorem dksX10_permute_10 : cX10_permute.data.toList.drop 235 = dktX10_permute_10 := dk_seg dksX10_permute_9 24 rfl rfl
theorem dksX10_permute_11 : cX10_permute.data.toList.drop 258 = dktX10_permute_11 := dk_seg dksX10_permute_10 23 rfl rfl
theorem dX10_permute_0 : decode cX10_permute 0 = .ok (.iconst 0, 1) := dk_3 (dk_at dksX10_permute_0 0 rfl rfl)
theorem dX10_permute_1 : decode cX10_permute 1 = .ok (.istore_n 1, 1) := dk_60 (dk_at dksX10_permute_0 1 rfl rfl)
theorem dX10_permute_2 : decode cX10_permute 2 = .ok (.iload_n 1, 1) := dk_27 (dk_at dksX10_permute_0 2 rfl rfl)
theorem dX10_permute_3 : decode cX10_permute 3 = .ok (.bipush 12, 2) := dk_16 12 (dk_at dksX10_permute_0 3 rfl rfl)
theorem dX10_permute_5 : decode cX10_permute 5 = .ok (.if_icmp .ge 259, 3) := dk_162 1 3 (dk_at dksX10_permute_0 5 rfl rfl)
theorem dX10_permute_8 : decode cX10_permute 8 = .ok (.aload_n 0, 1) := dk_42 (dk_at dksX10_permute_0 8 rfl rfl)
theorem dX10_permute_9 : decode cX10_permute 9 = .ok (.iconst 0, 1) := dk_3 (dk_at dksX10_permute_0 9 rfl rfl)
theorem dX10_permute_10 : decode cX10_permute 10 = .ok (.laload, 1) := dk_47 (dk_at dksX10_permute_0 10 rfl rfl)
theorem dX10_permute_11 : decode cX10_permute 11 = .ok (.lstore_n 2, 1) := dk_65 (dk_at dksX10_permute_0 11 rfl rfl)
theorem dX10_permute_12 : decode cX10_permute 12 = .ok (.aload_n 0, 1) := dk_42 (dk_at dksX10_permute_0 12 rfl rfl)
theorem dX10_permute_13 : decode cX10_permute 13 = .ok (.iconst 1, 1) := dk_4 (dk_at dksX10_permute_0 13 rfl rfl)
theorem dX10_permute_14 : decode cX10_permute 14 = .ok (.laload, 1) := dk_47 (dk_at dksX10_permute_0 14 rfl rfl)
theorem dX10_permute_15 : decode cX10_permute 15 = .ok (.lstore 4, 2) := dk_55 4 (dk_at dksX10_permute_0 15 rfl rfl)
theorem dX10_permute_17 : decode cX10_permute 17 = .ok (.aload_n 0, 1) := dk_42 (dk_at dksX10_permute_0 17 rfl rfl)
theorem dX10_permute_18 : decode cX10_permute 18 = .ok (.iconst 2, 1) := dk_5 (dk_at dksX10_permute_0 18 rfl rfl)
theorem dX10_permute_19 : decode cX10_permute 19 = .ok (.laload, 1) := dk_47 (dk_at dksX10_permute_0 19 rfl rfl)
theorem dX10_permute_20 : decode cX10_permute 20 = .ok (.getstatic 43, 3) := dk_178 0 43 (dk_at dksX10_permute_0 20 rfl rfl)
theorem dX10_permute_23 : decode cX10_permute 23 = .ok (.iload_n 1, 1) := dk_27 (dk_at dksX10_permute_0 23 rfl rfl)
theorem dX10_permute_24 : decode cX10_permute 24 = .ok (.iaload, 1) := dk_46 (dk_at dksX10_permute_1 0 rfl rfl)
theorem dX10_permute_25 : decode cX10_permute 25 = .ok (.i2l, 1) := dk_133 (dk_at dksX10_permute_1 1 rfl rfl)
theorem dX10_permute_26 : decode cX10_permute 26 = .ok (.lxor, 1) := dk_131 (dk_at dksX10_permute_1 2 rfl rfl)
theorem dX10_permute_27 : decode cX10_permute 27 = .ok (.lstore 6, 2) := dk_55 6 (dk_at dksX10_permute_1 3 rfl rfl)
theorem dX10_permute_29 : decode cX10_permute 29 = .ok (.aload_n 0, 1) := dk_42 (dk_at dksX10_permute_1 5 rfl rfl)
theorem dX10_permute_30 : decode cX10_permute 30 = .ok (.iconst 3, 1) := dk_6 (dk_at dksX10_permute_1 6 rfl rfl)
theorem dX10_permute_31 : decode cX10_permute 31 = .ok (.laload, 1) := dk_47 (dk_at dksX10_permute_1 7 rfl rfl)
theorem dX10_permute_32 : decode cX10_permute 32 = .ok (.lstore 8, 2) := dk_55 8 (dk_at dksX10_permute_1 8 rfl rfl)
theorem dX10_permute_34 : decode cX10_permute 34 = .ok (.aload_n 0, 1) := dk_42 (dk_at dksX10_permute_1 10 rfl rfl)
theorem dX10_permute_35 : decode cX10_permute 35 = .ok (.iconst 4, 1) := dk_7 (dk_at dksX10_permute_1 11 rfl rfl)
theorem dX10_permute_36 : decode cX10_permute 36 = .ok (.laload, 1) := dk_47 (dk_at dksX10_permute_1 12 rfl rfl)
theorem dX10_permute_37 : decode cX10_permute 37 = .ok (.lstore 10, 2) := dk_55 10 (dk_at dksX10_permute_1 13 rfl rfl)
theorem dX10_permute_39 : decode cX10_permute 39 = .ok (.lload_n 2, 1) := dk_32 (dk_at dksX10_permute_1 15 rfl rfl)
theorem dX10_permute_40 : decode cX10_permute 40 = .ok (.lload 10, 2) := dk_22 10 (dk_at dksX10_permute_1 16 rfl rfl)
theorem dX10_permute_42 : decode cX10_permute 42 = .ok (.lxor, 1) := dk_131 (dk_at dksX10_permute_1 18 rfl rfl)
theorem dX10_permute_43 : decode cX10_permute 43 = .ok (.lstore_n 2, 1) := dk_65 (dk_at dksX10_permute_1 19 rfl rfl)
theorem dX10_permute_44 : decode cX10_permute 44 = .ok (.lload 10, 2) := dk_22 10 (dk_at dksX10_permute_1 20 rfl rfl)
theorem dX10_permute_46 : decode cX10_permute 46 = .ok (.lload 8, 2) := dk_22 8 (dk_at dksX10_permute_1 22 rfl rfl)
theorem dX10_permute_48 : decode cX10_permute 48 = .ok (.lxor, 1) := dk_131 (dk_at dksX10_permute_2 0 rfl rfl)
theorem dX10_permute_49 : decode cX10_permute 49 = .ok (.lstore 10, 2) := dk_55 10 (dk_at dksX10_permute_2 1 rfl rfl)
theorem dX10_permute_51 : decode cX10_permute 51 = .ok (.lload 6, 2) := dk_22 6 (dk_at dksX10_permute_2 3 rfl rfl)
theorem dX10_permute_53 : decode cX10_permute 53 = .ok (.lload 4, 2) := dk_22 4 (dk_at dksX10_permute_2 5 rfl rfl)
theorem dX10_permute_55 : decode cX10_permute 55 = .ok (.lxor, 1) := dk_131 (dk_at dksX10_permute_2 7 rfl rfl)
theorem dX10_permute_56 : decode cX10_permute 56 = .ok (.lstore 6, 2) := dk_55 6 (dk_at dksX10_permute_2 8 rfl rfl)
theorem dX10_permute_58 : decode cX10_permute 58 = .ok (.lload_n 2, 1) := dk_32 (dk_at dksX10_permute_2 10 rfl rfl)
theorem dX10_permute_59 : decode cX10_permute 59 = .ok (.lload 4, 2) := dk_22 4 (dk_at dksX10_permute_2 11 rfl rfl)
theorem dX10_permute_61 : decode cX10_permute 61 = .ok (.ldc2_w 46, 3) := dk_20 0 46 (dk_at dksX10_permute_2 13 rfl rfl)
theorem dX10_permute_64 : decode cX10_permute 64 = .ok (.lxor, 1) := dk_131 (dk_at dksX10_permute_2 16 rfl rfl)
theorem dX10_permute_65 : decode cX10_permute 65 = .ok (.lload 6, 2) := dk_22 6 (dk_at dksX10_permute_2 17 rfl rfl)
theorem dX10_permute_67 : decode cX10_permute 67 = .ok (.land, 1) := dk_127 (dk_at dksX10_permute_2 19 rfl rfl)
theorem dX10_permute_68 : decode cX10_permute 68 = .ok (.lxor, 1) := dk_131 (dk_at dksX10_permute_2 20 rfl rfl)
theorem dX10_permute_69 : decode cX10_permute 69 = .ok (.lstore 12, 2) := dk_55 12 (dk_at dksX10_permute_2 21 rfl rfl)
theorem dX10_permute_71 : decode cX10_permute 71 = .ok (.lload 4, 2) := dk_22 4 (dk_at dksX10_permute_3 0 rfl rfl)
theorem dX10_permute_73 : decode cX10_permute 73 = .ok (.lload 6, 2) := dk_22 6 (dk_at dksX10_permute_3 2 rfl rfl)
theorem dX10_permute_75 : decode cX10_permute 75 = .ok (.ldc2_w 46, 3) := dk_20 0 46 (dk_at dksX10_permute_3 4 rfl rfl)
theorem dX10_permute_78 : decode cX10_permute 78 = .ok (.lxor, 1) := dk_131 (dk_at dksX10_permute_3 7 rfl rfl)
theorem dX10_permute_79 : decode cX10_permute 79 = .ok (.lload 8, 2) := dk_22 8 (dk_at dksX10_permute_3 8 rfl rfl)
theorem dX10_permute_81 : decode cX10_permute 81 = .ok (.land, 1) := dk_127 (dk_at dksX10_permute_3 10 rfl rfl)
theorem dX10_permute_82 : decode cX10_permute 82 = .ok (.lxor, 1) := dk_131 (dk_at dksX10_permute_3 11 rfl rfl)
theorem dX10_permute_83 : decode cX10_permute 83 = .ok (.lstore 14, 2) := dk_55 14 (dk_at dksX10_permute_3 12 rfl rfl)
theorem dX10_permute_85 : decode cX10_permute 85 = .ok (.lload 6, 2) := dk_22 6 (dk_at dksX10_permute_3 14 rfl rfl)
theorem dX10_permute_87 : decode cX10_permute 87 = .ok (.lload 8, 2) := dk_22 8 (dk_at dksX10_permute_3 16 rfl rfl)
theorem dX10_permute_89 : decode cX10_permute 89 = .ok (.ldc2_w 46, 3) := dk_20 0 46 (dk_at dksX10_permute_3 18 rfl rfl)
theorem dX10_permute_92 : decode cX10_permute 92 = .ok (.lxor, 1) := dk_131 (dk_at dksX10_permute_3 21 rfl rfl)
theorem dX10_permute_93 : decode cX10_permute 93 = .ok (.lload 10, 2) := dk_22 10 (dk_at dksX10_permute_3 22 rfl rfl)
theorem dX10_permute_95 : decode cX10_permute 95 = .ok (.land, 1) := dk_127 (dk_at dksX10_permute_4 0 rfl rfl)
theorem dX10_permute_96 : decode cX10_permute 96 = .ok (.lxor, 1) := dk_131 (dk_at dksX10_permute_4 1 rfl rfl)
theorem dX10_permute_97 : decode cX10_permute 97 = .ok (.lstore 16, 2) := dk_55 16 (dk_at dksX10_permute_4 2 rfl rfl)
theorem dX10_permute_99 : decode cX10_permute 99 = .ok (.lload 8, 2) := dk_22 8 (dk_at dksX10_permute_4 4 rfl rfl)
theorem dX10_permute_101 : decode cX10_permute 101 = .ok (.lload 10, 2) := dk_22 10 (dk_at dksX10_permute_4 6 rfl rfl)
theorem dX10_permute_103 : decode cX10_permute 103 = .ok (.ldc2_w 46, 3) := dk_20 0 46 (dk_at dksX10_permute_4 8 rfl rfl)
theorem dX10_permute_106 : decode cX10_permute 106 = .ok (.lxor, 1) := dk_131 (dk_at dksX10_permute_4 11 rfl rfl)
theorem dX10_permute_107 : decode cX10_permute 107 = .ok (.lload_n 2, 1) := dk_32 (dk_at dksX10_permute_4 12 rfl rfl)
theorem dX10_permute_108 : decode cX10_permute 108 = .ok (.land, 1) := dk_127 (dk_at dksX10_permute_4 13 rfl rfl)
theorem dX10_permute_109 : decode cX10_permute 109 = .ok (.lxor, 1) := dk_131 (dk_at dksX10_permute_4 14 rfl rfl)
theorem dX10_permute_110 : decode cX10_permute 110 = .ok (.lstore 18, 2) := dk_55 18 (dk_at dksX10_permute_4 15 rfl rfl)
theorem dX10_permute_112 : decode cX10_permute 112 = .ok (.lload 10, 2) := dk_22 10 (dk_at dksX10_permute_4 17 rfl rfl)
theorem dX10_permute_114 : decode cX10_permute 114 = .ok (.lload_n 2, 1) := dk_32 (dk_at dksX10_permute_4 19 rfl rfl)
theorem dX10_permute_115 : decode cX10_permute 115 = .ok (.ldc2_w 46, 3) := dk_20 0 46 (dk_at dksX10_permute_4 20 rfl rfl)
theorem dX10_permute_118 : decode cX10_permute 118 = .ok (.lxor, 1) := dk_131 (dk_at dksX10_permute_4 23 rfl rfl)
theorem dX10_permute_119 : decode cX10_permute 119 = .ok (.lload 4, 2) := dk_22 4 (dk_at dksX10_permute_5 0 rfl rfl)
theorem dX10_permute_121 : decode cX10_permute 121 = .ok (.land, 1) := dk_127 (dk_at dksX10_permute_5 2 rfl rfl)
theorem dX10_permute_122 : decode cX10_permute 122 = .ok (.lxor, 1) := dk_131 (dk_at dksX10_permute_5 3 rfl rfl)
theorem dX10_permute_123 : decode cX10_permute 123 = .ok (.lstore 20, 2) := dk_55 20 (dk_at dksX10_permute_5 4 rfl rfl)
theorem dX10_permute_125 : decode cX10_permute 125 = .ok (.lload 14, 2) := dk_22 14 (dk_at dksX10_permute_5 6 rfl rfl)
theorem dX10_permute_127 : decode cX10_permute 127 = .ok (.lload 12, 2) := dk_22 12 (dk_at dksX10_permute_5 8 rfl rfl)
theorem dX10_permute_129 : decode cX10_permute 129 = .ok (.lxor, 1) := dk_131 (dk_at dksX10_permute_5 10 rfl rfl)
theorem dX10_permute_130 : decode cX10_permute 130 = .ok (.lstore 14, 2) := dk_55 14 (dk_at dksX10_permute_5 11 rfl rfl)
theorem dX10_permute_132 : decode cX10_permute 132 = .ok (.lload 12, 2) := dk_22 12 (dk_at dksX10_permute_5 13 rfl rfl)
theorem dX10_permute_134 : decode cX10_permute 134 = .ok (.lload 20, 2) := dk_22 20 (dk_at dksX10_permute_5 15 rfl rfl)
theorem dX10_permute_136 : decode cX10_permute 136 = .ok (.lxor, 1) := dk_131 (dk_at dksX10_permute_5 17 rfl rfl)
theorem dX10_permute_137 : decode cX10_permute 137 = .ok (.lstore 12, 2) := dk_55 12 (dk_at dksX10_permute_5 18 rfl rfl)
theorem dX10_permute_139 : decode cX10_permute 139 = .ok (.lload 18, 2) := dk_22 18 (dk_at dksX10_permute_5 20 rfl rfl)
theorem dX10_permute_141 : decode cX10_permute 141 = .ok (.lload 16, 2) := dk_22 16 (dk_at dksX10_permute_5 22 rfl rfl)
theorem dX10_permute_143 : decode cX10_permute 143 = .ok (.lxor, 1) := dk_131 (dk_at dksX10_permute_6 0 rfl rfl)
theorem dX10_permute_144 : decode cX10_permute 144 = .ok (.lstore 18, 2) := dk_55 18 (dk_at dksX10_permute_6 1 rfl rfl)
theorem dX10_permute_146 : decode cX10_permute 146 = .ok (.lload 16, 2) := dk_22 16 (dk_at dksX10_permute_6 3 rfl rfl)
theorem dX10_permute_148 : decode cX10_permute 148 = .ok (.ldc2_w 46, 3) := dk_20 0 46 (dk_at dksX10_permute_6 5 rfl rfl)
theorem dX10_permute_151 : decode cX10_permute 151 = .ok (.lxor, 1) := dk_131 (dk_at dksX10_permute_6 8 rfl rfl)
theorem dX10_permute_152 : decode cX10_permute 152 = .ok (.lstore 16, 2) := dk_55 16 (dk_at dksX10_permute_6 9 rfl rfl)
theorem dX10_permute_154 : decode cX10_permute 154 = .ok (.aload_n 0, 1) := dk_42 (dk_at dksX10_permute_6 11 rfl rfl)
theorem dX10_permute_155 : decode cX10_permute 155 = .ok (.iconst 0, 1) := dk_3 (dk_at dksX10_permute_6 12 rfl rfl)
theorem dX10_permute_156 : decode cX10_permute 156 = .ok (.lload 12, 2) := dk_22 12 (dk_at dksX10_permute_6 13 rfl rfl)
theorem dX10_permute_158 : decode cX10_permute 158 = .ok (.lload 12, 2) := dk_22 12 (dk_at dksX10_permute_6 15 rfl rfl)
theorem dX10_permute_160 : decode cX10_permute 160 = .ok (.bipush 19, 2) := dk_16 19 (dk_at dksX10_permute_6 17 rfl rfl)
theorem dX10_permute_162 : decode cX10_permute 162 = .ok (.invokestatic 48, 3) := dk_184 0 48 (dk_at dksX10_permute_6 19 rfl rfl)
theorem dX10_permute_165 : decode cX10_permute 165 = .ok (.lxor, 1) := dk_131 (dk_at dksX10_permute_6 22 rfl rfl)
theorem dX10_permute_166 : decode cX10_permute 166 = .ok (.lload 12, 2) := dk_22 12 (dk_at dksX10_permute_7 0 rfl rfl)
theorem dX10_permute_168 : decode cX10_permute 168 = .ok (.bipush 28, 2) := dk_16 28 (dk_at dksX10_permute_7 2 rfl rfl)
theorem dX10_permute_170 : decode cX10_permute 170 = .ok (.invokestatic 48, 3) := dk_184 0 48 (dk_at dksX10_permute_7 4 rfl rfl)
theorem dX10_permute_173 : decode cX10_permute 173 = .ok (.lxor, 1) := dk_131 (dk_at dksX10_permute_7 7 rfl rfl)
theorem dX10_permute_174 : decode cX10_permute 174 = .ok (.lastore, 1) := dk_80 (dk_at dksX10_permute_7 8 rfl rfl)
theorem dX10_permute_175 : decode cX10_permute 175 = .ok (.aload_n 0, 1) := dk_42 (dk_at dksX10_permute_7 9 rfl rfl)
theorem dX10_permute_176 : decode cX10_permute 176 = .ok (.iconst 1, 1) := dk_4 (dk_at dksX10_permute_7 10 rfl rfl)
theorem dX10_permute_177 : decode cX10_permute 177 = .ok (.lload 14, 2) := dk_22 14 (dk_at dksX10_permute_7 11 rfl rfl)
theorem dX10_permute_179 : decode cX10_permute 179 = .ok (.lload 14, 2) := dk_22 14 (dk_at dksX10_permute_7 13 rfl rfl)
theorem dX10_permute_181 : decode cX10_permute 181 = .ok (.bipush 61, 2) := dk_16 61 (dk_at dksX10_permute_7 15 rfl rfl)
theorem dX10_permute_183 : decode cX10_permute 183 = .ok (.invokestatic 48, 3) := dk_184 0 48 (dk_at dksX10_permute_7 17 rfl rfl)
theorem dX10_permute_186 : decode cX10_permute 186 = .ok (.lxor, 1) := dk_131 (dk_at dksX10_permute_7 20 rfl rfl)
theorem dX10_permute_187 : decode cX10_permute 187 = .ok (.lload 14, 2) := dk_22 14 (dk_at dksX10_permute_7 21 rfl rfl)
theorem dX10_permute_189 : decode cX10_permute 189 = .ok (.bipush 39, 2) := dk_16 39 (dk_at dksX10_permute_8 0 rfl rfl)
theorem dX10_permute_191 : decode cX10_permute 191 = .ok (.invokestatic 48, 3) := dk_184 0 48 (dk_at dksX10_permute_8 2 rfl rfl)
theorem dX10_permute_194 : decode cX10_permute 194 = .ok (.lxor, 1) := dk_131 (dk_at dksX10_permute_8 5 rfl rfl)
theorem dX10_permute_195 : decode cX10_permute 195 = .ok (.lastore, 1) := dk_80 (dk_at dksX10_permute_8 6 rfl rfl)
theorem dX10_permute_196 : decode cX10_permute 196 = .ok (.aload_n 0, 1) := dk_42 (dk_at dksX10_permute_8 7 rfl rfl)
theorem dX10_permute_197 : decode cX10_permute 197 = .ok (.iconst 2, 1) := dk_5 (dk_at dksX10_permute_8 8 rfl rfl)
theorem dX10_permute_198 : decode cX10_permute 198 = .ok (.lload 16, 2) := dk_22 16 (dk_at dksX10_permute_8 9 rfl rfl)
theorem dX10_permute_200 : decode cX10_permute 200 = .ok (.lload 16, 2) := dk_22 16 (dk_at dksX10_permute_8 11 rfl rfl)
theorem dX10_permute_202 : decode cX10_permute 202 = .ok (.iconst 1, 1) := dk_4 (dk_at dksX10_permute_8 13 rfl rfl)
theorem dX10_permute_203 : decode cX10_permute 203 = .ok (.invokestatic 48, 3) := dk_184 0 48 (dk_at dksX10_permute_8 14 rfl rfl)
theorem dX10_permute_206 : decode cX10_permute 206 = .ok (.lxor, 1) := dk_131 (dk_at dksX10_permute_8 17 rfl rfl)
theorem dX10_permute_207 : decode cX10_permute 207 = .ok (.lload 16, 2) := dk_22 16 (dk_at dksX10_permute_8 18 rfl rfl)
theorem dX10_permute_209 : decode cX10_permute 209 = .ok (.bipush 6, 2) := dk_16 6 (dk_at dksX10_permute_8 20 rfl rfl)
theorem dX10_permute_211 : decode cX10_permute 211 = .ok (.invokestatic 48, 3) := dk_184 0 48 (dk_at dksX10_permute_9 0 rfl rfl)
theorem dX10_permute_214 : decode cX10_permute 214 = .ok (.lxor, 1) := dk_131 (dk_at dksX10_permute_9 3 rfl rfl)
theorem dX10_permute_215 : decode cX10_permute 215 = .ok (.lastore, 1) := dk_80 (dk_at dksX10_permute_9 4 rfl rfl)
theorem dX10_permute_216 : decode cX10_permute 216 = .ok (.aload_n 0, 1) := dk_42 (dk_at dksX10_permute_9 5 rfl rfl)
theorem dX10_permute_217 : decode cX10_permute 217 = .ok (.iconst 3, 1) := dk_6 (dk_at dksX10_permute_9 6 rfl rfl)
theorem dX10_permute_218 : decode cX10_permute 218 = .ok (.lload 18, 2) := dk_22 18 (dk_at dksX10_permute_9 7 rfl rfl)
theorem dX10_permute_220 : decode cX10_permute 220 = .ok (.lload 18, 2) := dk_22 18 (dk_at dksX10_permute_9 9 rfl rfl)
theorem dX10_permute_222 : decode cX10_permute 222 = .ok (.bipush 10, 2) := dk_16 10 (dk_at dksX10_permute_9 11 rfl rfl)
theorem dX10_permute_224 : decode cX10_permute 224 = .ok (.invokestatic 48, 3) := dk_184 0 48 (dk_at dksX10_permute_9 13 rfl rfl)
theorem dX10_permute_227 : decode cX10_permute 227 = .ok (.lxor, 1) := dk_131 (dk_at dksX10_permute_9 16 rfl rfl)
theorem dX10_permute_228 : decode cX10_permute 228 = .ok (.lload 18, 2) := dk_22 18 (dk_at dksX10_permute_9 17 rfl rfl)
theorem dX10_permute_230 : decode cX10_permute 230 = .ok (.bipush 17, 2) := dk_16 17 (dk_at dksX10_permute_9 19 rfl rfl)
theorem dX10_permute_232 : decode cX10_permute 232 = .ok (.invokestatic 48, 3) := dk_184 0 48 (dk_at dksX10_permute_9 21 rfl rfl)
theorem dX10_permute_235 : decode cX10_permute 235 = .ok (.lxor, 1) := dk_131 (dk_at dksX10_permute_10 0 rfl rfl)
theorem dX10_permute_236 : decode cX10_permute 236 = .ok (.lastore, 1) := dk_80 (dk_at dksX10_permute_10 1 rfl rfl)
theorem dX10_permute_237 : decode cX10_permute 237 = .ok (.aload_n 0, 1) := dk_42 (dk_at dksX10_permute_10 2 rfl rfl)
theorem dX10_permute_238 : decode cX10_permute 238 = .ok (.iconst 4, 1) := dk_7 (dk_at dksX10_permute_10 3 rfl rfl)
theorem dX10_permute_239 : decode cX10_permute 239 = .ok (.lload 20, 2) := dk_22 20 (dk_at dksX10_permute_10 4 rfl rfl)
theorem dX10_permute_241 : decode cX10_permute 241 = .ok (.lload 20, 2) := dk_22 20 (dk_at dksX10_permute_10 6 rfl rfl)
theorem dX10_permute_243 : decode cX10_permute 243 = .ok (.bipush 7, 2) := dk_16 7 (dk_at dksX10_permute_10 8 rfl rfl)
theorem dX10_permute_245 : decode cX10_permute 245 = .ok (.invokestatic 48, 3) := dk_184 0 48 (dk_at dksX10_permute_10 10 rfl rfl)
theorem dX10_permute_248 : decode cX10_permute 248 = .ok (.lxor, 1) := dk_131 (dk_at dksX10_permute_10 13 rfl rfl)
theorem dX10_permute_249 : decode cX10_permute 249 = .ok (.lload 20, 2) := dk_22 20 (dk_at dksX10_permute_10 14 rfl rfl)
theorem dX10_permute_251 : decode cX10_permute 251 = .ok (.bipush 41, 2) := dk_16 41 (dk_at dksX10_permute_10 16 rfl rfl)
theorem dX10_permute_253 : decode cX10_permute 253 = .ok (.invokestatic 48, 3) := dk_184 0 48 (dk_at dksX10_permute_10 18 rfl rfl)
theorem dX10_permute_256 : decode cX10_permute 256 = .ok (.lxor, 1) := dk_131 (dk_at dksX10_permute_10 21 rfl rfl)
theorem dX10_permute_257 : decode cX10_permute 257 = .ok (.lastore, 1) := dk_80 (dk_at dksX10_permute_10 22 rfl rfl)
theorem dX10_permute_258 : decode cX10_permute 258 = .ok (.iinc 1 1, 3) := dk_132 1 1 (dk_at dksX10_permute_11 0 rfl rfl)
theorem dX10_permute_261 : decode cX10_permute 261 = .ok (.goto (-259), 3) := dk_167 254 253 (dk_at dksX10_permute_11 3 rfl rfl)
theorem dX10_permute_264 : decode cX10_permute 264 = .ok (.return_, 1) := dk_177 (dk_at dksX10_permute_11 6 rfl rfl)
abbrev cX10_right : ByteArray := prog_6_method_13_code
def yX10_right : MethodName := ⟨RX10, "right", "(JI)J"⟩
def dkwX10_right_0 : List UInt8 := [30, 28, 125, 30, 16, 64, 28, 100, 121, 129, 173]
abbrev dktX10_right_0 : List UInt8 := dkwX10_right_0 ++ []
theorem dksX10_right_0 : cX10_right.data.toList.drop 0 = dktX10_right_0 := by decide +kernel
theorem dX10_right_0 : decode cX10_right 0 = .ok (.lload_n 0, 1) := dk_30 (dk_at dksX10_right_0 0 rfl rfl)
theorem dX10_right_1 : decode cX10_right 1 = .ok (.iload_n 2, 1) := dk_28 (dk_at dksX10_right_0 1 rfl rfl)
theorem dX10_right_2 : decode cX10_right 2 = .ok (.lushr, 1) := dk_125 (dk_at dksX10_right_0 2 rfl rfl)
theorem dX10_right_3 : decode cX10_right 3 = .ok (.lload_n 0, 1) := dk_30 (dk_at dksX10_right_0 3 rfl rfl)
theorem dX10_right_4 : decode cX10_right 4 = .ok (.bipush 64, 2) := dk_16 64 (dk_at dksX10_right_0 4 rfl rfl)
theorem dX10_right_6 : decode cX10_right 6 = .ok (.iload_n 2, 1) := dk_28 (dk_at dksX10_right_0 6 rfl rfl)
theorem dX10_right_7 : decode cX10_right 7 = .ok (.isub, 1) := dk_100 (dk_at dksX10_right_0 7 rfl rfl)
theorem dX10_right_8 : decode cX10_right 8 = .ok (.lshl, 1) := dk_121 (dk_at dksX10_right_0 8 rfl rfl)
theorem dX10_right_9 : decode cX10_right 9 = .ok (.lor, 1) := dk_129 (dk_at dksX10_right_0 9 rfl rfl)
theorem dX10_right_10 : decode cX10_right 10 = .ok (.lreturn, 1) := dk_173 (dk_at dksX10_right_0 10 rfl rfl)
abbrev cX10_drop : ByteArray := prog_6_method_9_code
def yX10_drop : MethodName := ⟨RX10, "drop", "()V"⟩
def dkwX10_drop_0 : List UInt8 := [42, 3, 181, 0, 29, 177]
abbrev dktX10_drop_0 : List UInt8 := dkwX10_drop_0 ++ []
theorem dksX10_drop_0 : cX10_drop.data.toList.drop 0 = dktX10_drop_0 := by decide +kernel
theorem dX10_drop_0 : decode cX10_drop 0 = .ok (.aload_n 0, 1) := dk_42 (dk_at dksX10_drop_0 0 rfl rfl)
theorem dX10_drop_1 : decode cX10_drop 1 = .ok (.iconst 0, 1) := dk_3 (dk_at dksX10_drop_0 1 rfl rfl)
theorem dX10_drop_2 : decode cX10_drop 2 = .ok (.putfield 29, 3) := dk_181 0 29 (dk_at dksX10_drop_0 2 rfl rfl)
theorem dX10_drop_5 : decode cX10_drop 5 = .ok (.return_, 1) := dk_177 (dk_at dksX10_drop_0 5 rfl rfl)
abbrev cX10_out : ByteArray := prog_6_method_10_code
def yX10_out : MethodName := ⟨RX10, "out", "(I)I"⟩
def dkwX10_out_0 : List UInt8 := [42, 180, 0, 16, 27, 16, 32, 184, 0, 24, 46, 172]
abbrev dktX10_out_0 : List UInt8 := dkwX10_out_0 ++ []
theorem dksX10_out_0 : cX10_out.data.toList.drop 0 = dktX10_out_0 := by decide +kernel
theorem dX10_out_0 : decode cX10_out 0 = .ok (.aload_n 0, 1) := dk_42 (dk_at dksX10_out_0 0 rfl rfl)
theorem dX10_out_1 : decode cX10_out 1 = .ok (.getfield 16, 3) := dk_180 0 16 (dk_at dksX10_out_0 1 rfl rfl)
theorem dX10_out_4 : decode cX10_out 4 = .ok (.iload_n 1, 1) := dk_27 (dk_at dksX10_out_0 4 rfl rfl)
theorem dX10_out_5 : decode cX10_out 5 = .ok (.bipush 32, 2) := dk_16 32 (dk_at dksX10_out_0 5 rfl rfl)
theorem dX10_out_7 : decode cX10_out 7 = .ok (.invokestatic 24, 3) := dk_184 0 24 (dk_at dksX10_out_0 7 rfl rfl)
theorem dX10_out_10 : decode cX10_out 10 = .ok (.iaload, 1) := dk_46 (dk_at dksX10_out_0 10 rfl rfl)
theorem dX10_out_11 : decode cX10_out 11 = .ok (.ireturn, 1) := dk_172 (dk_at dksX10_out_0 11 rfl rfl)
theorem q24 : (Jvm.Cond.initialized "AsconHashDeskModel") ∈ lw_all := lw_g (lw_at lw_m1 18 rfl) rfl
theorem q554 : (Jvm.Cond.instantiable "AsconHashDeskModel" (5 : Nat)) ∈ lw_all := lw_g (lw_at lw_m3 68 rfl) rfl
theorem q556 : (Jvm.Cond.instanceMethod ({ cls := "AsconHashDeskModel", name := "<init>", desc := "()V" } : Jvm.MethodName)) ∈ lw_all := lw_g (lw_at lw_m3 70 rfl) rfl
theorem q557 : (Jvm.Cond.code ({ cls := "AsconHashDeskModel", name := "<init>", desc := "()V" } : Jvm.MethodName) prog_6_method_1_code (1 : Nat) (Option.none : Option Jvm.ClassFile.FieldType)) ∈ lw_all := lw_g (lw_at lw_m3 71 rfl) rfl
theorem q558 : (Jvm.Cond.methodLink "AsconHashDeskModel" (1 : Nat) ({ cls := "java/lang/Object", name := "<init>", desc := "()V" } : Jvm.MethodName)) ∈ lw_all := lw_g (lw_at lw_m3 72 rfl) rfl
theorem q559 : (Jvm.Cond.fieldLink "AsconHashDeskModel" (7 : Nat) "AsconHashDeskModel" "text" "[B") ∈ lw_all := lw_g (lw_at lw_m3 73 rfl) rfl
theorem q560 : (Jvm.Cond.fieldLink "AsconHashDeskModel" (20 : Nat) "AsconHashDeskModel" "size" "I") ∈ lw_all := lw_g (lw_at lw_m3 74 rfl) rfl
theorem q561 : (Jvm.Cond.fieldLink "AsconHashDeskModel" (13 : Nat) "AsconHashDeskModel" "message" "[B") ∈ lw_all := lw_g (lw_at lw_m3 75 rfl) rfl
theorem q562 : (Jvm.Cond.fieldLink "AsconHashDeskModel" (29 : Nat) "AsconHashDeskModel" "fed" "I") ∈ lw_all := lw_g (lw_at lw_m3 76 rfl) rfl
theorem q563 : (Jvm.Cond.fieldLink "AsconHashDeskModel" (16 : Nat) "AsconHashDeskModel" "digest" "[I") ∈ lw_all := lw_g (lw_at lw_m3 77 rfl) rfl
theorem q564 : (Jvm.Cond.laysFinal "AsconHashDeskModel" "AsconHashDeskModel" "text" "[B") ∈ lw_all := lw_g (lw_at lw_m3 78 rfl) rfl
theorem q565 : (Jvm.Cond.soleField "AsconHashDeskModel" "text") ∈ lw_all := lw_g (lw_at lw_m3 79 rfl) rfl
theorem q566 : (Jvm.Cond.lays "AsconHashDeskModel" "AsconHashDeskModel" "size" "I") ∈ lw_all := lw_g (lw_at lw_m3 80 rfl) rfl
theorem q567 : (Jvm.Cond.soleField "AsconHashDeskModel" "size") ∈ lw_all := lw_g (lw_at lw_m3 81 rfl) rfl
theorem q568 : (Jvm.Cond.laysFinal "AsconHashDeskModel" "AsconHashDeskModel" "message" "[B") ∈ lw_all := lw_g (lw_at lw_m3 82 rfl) rfl
theorem q569 : (Jvm.Cond.soleField "AsconHashDeskModel" "message") ∈ lw_all := lw_g (lw_at lw_m3 83 rfl) rfl
theorem q570 : (Jvm.Cond.lays "AsconHashDeskModel" "AsconHashDeskModel" "fed" "I") ∈ lw_all := lw_g (lw_at lw_m3 84 rfl) rfl
theorem q571 : (Jvm.Cond.soleField "AsconHashDeskModel" "fed") ∈ lw_all := lw_g (lw_at lw_m3 85 rfl) rfl
theorem q572 : (Jvm.Cond.laysFinal "AsconHashDeskModel" "AsconHashDeskModel" "digest" "[I") ∈ lw_all := lw_g (lw_at lw_m3 86 rfl) rfl
theorem q573 : (Jvm.Cond.soleField "AsconHashDeskModel" "digest") ∈ lw_all := lw_g (lw_at lw_m3 87 rfl) rfl
theorem q574 : (Jvm.Cond.superclass "AsconHashDeskModel" "java/lang/Object") ∈ lw_all := lw_g (lw_at lw_m3 88 rfl) rfl
theorem q577 : (Jvm.Cond.instanceMethod ({ cls := "AsconHashDeskModel", name := "put", desc := "(IIII)Z" } : Jvm.MethodName)) ∈ lw_all := lw_g (lw_at lw_m3 91 rfl) rfl
theorem q578 : (Jvm.Cond.selects "AsconHashDeskModel" ({ cls := "AsconHashDeskModel", name := "put", desc := "(IIII)Z" } : Jvm.MethodName) ({ cls := "AsconHashDeskModel", name := "put", desc := "(IIII)Z" } : Jvm.MethodName)) ∈ lw_all := lw_g (lw_at lw_m3 92 rfl) rfl
theorem q579 : (Jvm.Cond.code ({ cls := "AsconHashDeskModel", name := "put", desc := "(IIII)Z" } : Jvm.MethodName) prog_6_method_2_code (7 : Nat) (Option.some Jvm.ClassFile.FieldType.boolean)) ∈ lw_all := lw_g (lw_at lw_m3 93 rfl) rfl
theorem q581 : (Jvm.Cond.instanceMethod ({ cls := "AsconHashDeskModel", name := "trim", desc := "(I)V" } : Jvm.MethodName)) ∈ lw_all := lw_g (lw_at lw_m3 95 rfl) rfl
theorem q582 : (Jvm.Cond.selects "AsconHashDeskModel" ({ cls := "AsconHashDeskModel", name := "trim", desc := "(I)V" } : Jvm.MethodName) ({ cls := "AsconHashDeskModel", name := "trim", desc := "(I)V" } : Jvm.MethodName)) ∈ lw_all := lw_g (lw_at lw_m3 96 rfl) rfl
theorem q583 : (Jvm.Cond.code ({ cls := "AsconHashDeskModel", name := "trim", desc := "(I)V" } : Jvm.MethodName) prog_6_method_3_code (2 : Nat) (Option.none : Option Jvm.ClassFile.FieldType)) ∈ lw_all := lw_g (lw_at lw_m3 97 rfl) rfl
theorem q584 : (Jvm.Cond.methodLink "AsconHashDeskModel" (24 : Nat) ({ cls := "AsconHashDeskModel", name := "fold", desc := "(II)I" } : Jvm.MethodName)) ∈ lw_all := lw_g (lw_at lw_m3 98 rfl) rfl
theorem q585 : (Jvm.Cond.static ({ cls := "AsconHashDeskModel", name := "fold", desc := "(II)I" } : Jvm.MethodName)) ∈ lw_all := lw_g (lw_at lw_m3 99 rfl) rfl
theorem q586 : (Jvm.Cond.code ({ cls := "AsconHashDeskModel", name := "fold", desc := "(II)I" } : Jvm.MethodName) prog_6_method_4_code (2 : Nat) (Option.some Jvm.ClassFile.FieldType.int)) ∈ lw_all := lw_g (lw_at lw_m3 100 rfl) rfl
theorem q587 : (Jvm.Cond.constant "AsconHashDeskModel" (28 : Nat) (2147483647 : Int32)) ∈ lw_all := lw_g (lw_at lw_m3 101 rfl) rfl
theorem q589 : (Jvm.Cond.instanceMethod ({ cls := "AsconHashDeskModel", name := "begin", desc := "(I)V" } : Jvm.MethodName)) ∈ lw_all := lw_g (lw_at lw_m3 103 rfl) rfl
theorem q590 : (Jvm.Cond.selects "AsconHashDeskModel" ({ cls := "AsconHashDeskModel", name := "begin", desc := "(I)V" } : Jvm.MethodName) ({ cls := "AsconHashDeskModel", name := "begin", desc := "(I)V" } : Jvm.MethodName)) ∈ lw_all := lw_g (lw_at lw_m3 104 rfl) rfl
theorem q591 : (Jvm.Cond.code ({ cls := "AsconHashDeskModel", name := "begin", desc := "(I)V" } : Jvm.MethodName) prog_6_method_5_code (2 : Nat) (Option.none : Option Jvm.ClassFile.FieldType)) ∈ lw_all := lw_g (lw_at lw_m3 105 rfl) rfl
theorem q593 : (Jvm.Cond.instanceMethod ({ cls := "AsconHashDeskModel", name := "feed", desc := "(II)Z" } : Jvm.MethodName)) ∈ lw_all := lw_g (lw_at lw_m3 107 rfl) rfl
theorem q594 : (Jvm.Cond.selects "AsconHashDeskModel" ({ cls := "AsconHashDeskModel", name := "feed", desc := "(II)Z" } : Jvm.MethodName) ({ cls := "AsconHashDeskModel", name := "feed", desc := "(II)Z" } : Jvm.MethodName)) ∈ lw_all := lw_g (lw_at lw_m3 108 rfl) rfl
theorem q595 : (Jvm.Cond.code ({ cls := "AsconHashDeskModel", name := "feed", desc := "(II)Z" } : Jvm.MethodName) prog_6_method_6_code (6 : Nat) (Option.some Jvm.ClassFile.FieldType.boolean)) ∈ lw_all := lw_g (lw_at lw_m3 109 rfl) rfl
theorem q597 : (Jvm.Cond.instanceMethod ({ cls := "AsconHashDeskModel", name := "one", desc := "(I)Z" } : Jvm.MethodName)) ∈ lw_all := lw_g (lw_at lw_m3 111 rfl) rfl
theorem q598 : (Jvm.Cond.selects "AsconHashDeskModel" ({ cls := "AsconHashDeskModel", name := "one", desc := "(I)Z" } : Jvm.MethodName) ({ cls := "AsconHashDeskModel", name := "one", desc := "(I)Z" } : Jvm.MethodName)) ∈ lw_all := lw_g (lw_at lw_m3 112 rfl) rfl
theorem q599 : (Jvm.Cond.code ({ cls := "AsconHashDeskModel", name := "one", desc := "(I)Z" } : Jvm.MethodName) prog_6_method_7_code (2 : Nat) (Option.some Jvm.ClassFile.FieldType.boolean)) ∈ lw_all := lw_g (lw_at lw_m3 113 rfl) rfl
theorem q601 : (Jvm.Cond.instanceMethod ({ cls := "AsconHashDeskModel", name := "close", desc := "()I" } : Jvm.MethodName)) ∈ lw_all := lw_g (lw_at lw_m3 115 rfl) rfl
theorem q602 : (Jvm.Cond.selects "AsconHashDeskModel" ({ cls := "AsconHashDeskModel", name := "close", desc := "()I" } : Jvm.MethodName) ({ cls := "AsconHashDeskModel", name := "close", desc := "()I" } : Jvm.MethodName)) ∈ lw_all := lw_g (lw_at lw_m3 116 rfl) rfl
theorem q603 : (Jvm.Cond.code ({ cls := "AsconHashDeskModel", name := "close", desc := "()I" } : Jvm.MethodName) prog_6_method_8_code (1 : Nat) (Option.some Jvm.ClassFile.FieldType.int)) ∈ lw_all := lw_g (lw_at lw_m3 117 rfl) rfl
theorem q604 : (Jvm.Cond.methodLink "AsconHashDeskModel" (32 : Nat) ({ cls := "AsconHashDeskModel", name := "hash", desc := "()V" } : Jvm.MethodName)) ∈ lw_all := lw_g (lw_at lw_m3 118 rfl) rfl
theorem q605 : (Jvm.Cond.privateMethod ({ cls := "AsconHashDeskModel", name := "hash", desc := "()V" } : Jvm.MethodName)) ∈ lw_tbl := lw_at lw_m3 119 rfl
theorem q606 : (Jvm.Cond.instanceMethod ({ cls := "AsconHashDeskModel", name := "hash", desc := "()V" } : Jvm.MethodName)) ∈ lw_all := lw_g (lw_at lw_m3 120 rfl) rfl
theorem q607 : (Jvm.Cond.code ({ cls := "AsconHashDeskModel", name := "hash", desc := "()V" } : Jvm.MethodName) prog_6_method_11_code (10 : Nat) (Option.none : Option Jvm.ClassFile.FieldType)) ∈ lw_all := lw_g (lw_at lw_m3 121 rfl) rfl
theorem q608 : (Jvm.Cond.constantLong "AsconHashDeskModel" (35 : Nat) (8800401358850 : Int64)) ∈ lw_all := lw_g (lw_at lw_m3 122 rfl) rfl
theorem q609 : (Jvm.Cond.methodLink "AsconHashDeskModel" (37 : Nat) ({ cls := "AsconHashDeskModel", name := "permute", desc := "([J)V" } : Jvm.MethodName)) ∈ lw_all := lw_g (lw_at lw_m3 123 rfl) rfl
theorem q610 : (Jvm.Cond.static ({ cls := "AsconHashDeskModel", name := "permute", desc := "([J)V" } : Jvm.MethodName)) ∈ lw_all := lw_g (lw_at lw_m3 124 rfl) rfl
theorem q611 : (Jvm.Cond.code ({ cls := "AsconHashDeskModel", name := "permute", desc := "([J)V" } : Jvm.MethodName) prog_6_method_12_code (22 : Nat) (Option.none : Option Jvm.ClassFile.FieldType)) ∈ lw_all := lw_g (lw_at lw_m3 125 rfl) rfl
theorem q612 : (Jvm.Cond.fieldLink "AsconHashDeskModel" (43 : Nat) "AsconHashDeskModel" "ROUND" "[I") ∈ lw_all := lw_g (lw_at lw_m3 126 rfl) rfl
theorem q613 : (Jvm.Cond.laysStatic "AsconHashDeskModel" "ROUND" "[I") ∈ lw_tbl := lw_at lw_m3 127 rfl
theorem q614 : (Jvm.Cond.constantLong "AsconHashDeskModel" (46 : Nat) (-1 : Int64)) ∈ lw_all := lw_g (lw_at lw_m3 128 rfl) rfl
theorem q615 : (Jvm.Cond.methodLink "AsconHashDeskModel" (48 : Nat) ({ cls := "AsconHashDeskModel", name := "right", desc := "(JI)J" } : Jvm.MethodName)) ∈ lw_all := lw_g (lw_at lw_m3 129 rfl) rfl
theorem q616 : (Jvm.Cond.static ({ cls := "AsconHashDeskModel", name := "right", desc := "(JI)J" } : Jvm.MethodName)) ∈ lw_all := lw_g (lw_at lw_m3 130 rfl) rfl
theorem q617 : (Jvm.Cond.code ({ cls := "AsconHashDeskModel", name := "right", desc := "(JI)J" } : Jvm.MethodName) prog_6_method_13_code (3 : Nat) (Option.some Jvm.ClassFile.FieldType.long)) ∈ lw_all := lw_g (lw_at lw_m3 131 rfl) rfl
theorem q618 : (Jvm.Cond.constantLong "AsconHashDeskModel" (41 : Nat) (255 : Int64)) ∈ lw_all := lw_g (lw_at lw_m3 132 rfl) rfl
theorem q621 : (Jvm.Cond.instanceMethod ({ cls := "AsconHashDeskModel", name := "drop", desc := "()V" } : Jvm.MethodName)) ∈ lw_all := lw_g (lw_at lw_m3 135 rfl) rfl
theorem q622 : (Jvm.Cond.selects "AsconHashDeskModel" ({ cls := "AsconHashDeskModel", name := "drop", desc := "()V" } : Jvm.MethodName) ({ cls := "AsconHashDeskModel", name := "drop", desc := "()V" } : Jvm.MethodName)) ∈ lw_all := lw_g (lw_at lw_m3 136 rfl) rfl
theorem q623 : (Jvm.Cond.code ({ cls := "AsconHashDeskModel", name := "drop", desc := "()V" } : Jvm.MethodName) prog_6_method_9_code (1 : Nat) (Option.none : Option Jvm.ClassFile.FieldType)) ∈ lw_all := lw_g (lw_at lw_m3 137 rfl) rfl
theorem q625 : (Jvm.Cond.instanceMethod ({ cls := "AsconHashDeskModel", name := "out", desc := "(I)I" } : Jvm.MethodName)) ∈ lw_all := lw_g (lw_at lw_m3 139 rfl) rfl
theorem q626 : (Jvm.Cond.selects "AsconHashDeskModel" ({ cls := "AsconHashDeskModel", name := "out", desc := "(I)I" } : Jvm.MethodName) ({ cls := "AsconHashDeskModel", name := "out", desc := "(I)I" } : Jvm.MethodName)) ∈ lw_all := lw_g (lw_at lw_m3 140 rfl) rfl
theorem q627 : (Jvm.Cond.code ({ cls := "AsconHashDeskModel", name := "out", desc := "(I)I" } : Jvm.MethodName) prog_6_method_10_code (2 : Nat) (Option.some Jvm.ClassFile.FieldType.int)) ∈ lw_all := lw_g (lw_at lw_m3 141 rfl) rfl
theorem in_X10 : ∀ w ∈ wsX100, w ∈ lw_all := lw_in wsX100 [564, 566, 568, 570, 572] (by decide +kernel) (by decide +kernel)

/-! the law's own entry -/
set_option maxRecDepth 100000
abbrev cL_law : ByteArray := code
def dkwL_law_11 : List UInt8 := [46, 182, 0, 50, 159, 0, 5, 3, 172, 132, 3, 6, 167, 254, 249, 4, 172]
abbrev dktL_law_11 : List UInt8 := dkwL_law_11 ++ []
def dkwL_law_10 : List UInt8 := [182, 0, 42, 44, 182, 0, 45, 167, 0, 26, 43, 42, 29, 4, 96, 46, 182, 0, 46, 44, 42, 29, 4, 96]
abbrev dktL_law_10 : List UInt8 := dkwL_law_10 ++ dktL_law_11
def dkwL_law_9 : List UInt8 := [182, 0, 36, 159, 0, 52, 3, 172, 43, 182, 0, 37, 44, 182, 0, 41, 159, 0, 39, 3, 172, 43]
abbrev dktL_law_9 : List UInt8 := dkwL_law_9 ++ dktL_law_10
def dkwL_law_8 : List UInt8 := [46, 182, 0, 31, 159, 0, 75, 3, 172, 43, 42, 29, 4, 96, 46, 182, 0, 32, 44, 42, 29, 4, 96, 46]
abbrev dktL_law_8 : List UInt8 := dkwL_law_8 ++ dktL_law_9
def dkwL_law_7 : List UInt8 := [43, 42, 29, 4, 96, 46, 42, 29, 5, 96, 46, 182, 0, 27, 44, 42, 29, 4, 96, 46, 42, 29, 5, 96]
abbrev dktL_law_7 : List UInt8 := dkwL_law_7 ++ dktL_law_8
def dkwL_law_6 : List UInt8 := [167, 0, 127, 43, 42, 29, 4, 96, 46, 182, 0, 23, 44, 42, 29, 4, 96, 46, 182, 0, 26, 167, 0, 106]
abbrev dktL_law_6 : List UInt8 := dkwL_law_6 ++ dktL_law_7
def dkwL_law_5 : List UInt8 := [159, 0, 150, 3, 172, 43, 42, 29, 4, 96, 46, 182, 0, 18, 44, 42, 29, 4, 96, 46, 182, 0, 22]
abbrev dktL_law_5 : List UInt8 := dkwL_law_5 ++ dktL_law_6
def dkwL_law_4 : List UInt8 := [44, 42, 29, 4, 96, 46, 42, 29, 5, 96, 46, 42, 29, 6, 96, 46, 42, 29, 7, 96, 46, 182, 0, 17]
abbrev dktL_law_4 : List UInt8 := dkwL_law_4 ++ dktL_law_5
def dkwL_law_3 : List UInt8 := [43, 42, 29, 4, 96, 46, 42, 29, 5, 96, 46, 42, 29, 6, 96, 46, 42, 29, 7, 96, 46, 182, 0, 13]
abbrev dktL_law_3 : List UInt8 := dkwL_law_3 ++ dktL_law_4
def dkwL_law_2 : List UInt8 := [170, 0, 0, 0, 0, 0, 245, 0, 0, 0, 0, 0, 0, 0, 7, 0, 0, 0, 47, 0, 0, 0, 100, 0, 0, 0, 121, 0, 0, 0, 142, 0, 0, 0, 175, 0, 0, 0, 198, 0, 0, 0, 211, 0, 0, 0, 222]
abbrev dktL_law_2 : List UInt8 := dkwL_law_2 ++ dktL_law_3
def dkwL_law_1 : List UInt8 := [163, 1, 4, 42, 29, 46, 16, 7, 126]
abbrev dktL_law_1 : List UInt8 := dkwL_law_1 ++ dktL_law_2
def dkwL_law_0 : List UInt8 := [187, 0, 7, 89, 183, 0, 9, 76, 187, 0, 10, 89, 183, 0, 12, 77, 3, 62, 29, 42, 190, 16, 6, 100]
abbrev dktL_law_0 : List UInt8 := dkwL_law_0 ++ dktL_law_1
theorem dksL_law_0 : cL_law.data.toList.drop 0 = dktL_law_0 := by decide +kernel
theorem dksL_law_1 : cL_law.data.toList.drop 24 = dktL_law_1 := dk_seg dksL_law_0 24 rfl rfl
theorem dksL_law_2 : cL_law.data.toList.drop 33 = dktL_law_2 := dk_seg dksL_law_1 9 rfl rfl
theorem dksL_law_3 : cL_law.data.toList.drop 80 = dktL_law_3 := dk_seg dksL_law_2 47 rfl rfl
theorem dksL_law_4 : cL_law.data.toList.drop 104 = dktL_law_4 := dk_seg dksL_law_3 24 rfl rfl
theorem dksL_law_5 : cL_law.data.toList.drop 128 = dktL_law_5 := dk_seg dksL_law_4 24 rfl rfl
theorem dksL_law_6 : cL_law.data.toList.drop 151 = dktL_law_6 := dk_seg dksL_law_5 23 rfl rfl
theorem dksL_law_7 : cL_law.data.toList.drop 175 = dktL_law_7 := dk_seg dksL_law_6 24 rfl rfl
theorem dksL_law_8 : cL_law.data.toList.drop 199 = dktL_law_8 := dk_seg dksL_law_7 24 rfl rfl
theorem dksL_law_9 : cL_law.data.toList.drop 223 = dktL_law_9 := dk_seg dksL_law_8 24 rfl rfl
theorem dksL_law_10 : cL_law.data.toList.drop 245 = dktL_law_10 := dk_seg dksL_law_9 22 rfl rfl
theorem dksL_law_11 : cL_law.data.toList.drop 269 = dktL_law_11 := dk_seg dksL_law_10 24 rfl rfl
theorem dL_law_0 : decode cL_law 0 = .ok (.new 7, 3) := dk_187 0 7 (dk_at dksL_law_0 0 rfl rfl)
theorem dL_law_3 : decode cL_law 3 = .ok (.dup, 1) := dk_89 (dk_at dksL_law_0 3 rfl rfl)
theorem dL_law_4 : decode cL_law 4 = .ok (.invokespecial 9, 3) := dk_183 0 9 (dk_at dksL_law_0 4 rfl rfl)
theorem dL_law_7 : decode cL_law 7 = .ok (.astore_n 1, 1) := dk_76 (dk_at dksL_law_0 7 rfl rfl)
theorem dL_law_8 : decode cL_law 8 = .ok (.new 10, 3) := dk_187 0 10 (dk_at dksL_law_0 8 rfl rfl)
theorem dL_law_11 : decode cL_law 11 = .ok (.dup, 1) := dk_89 (dk_at dksL_law_0 11 rfl rfl)
theorem dL_law_12 : decode cL_law 12 = .ok (.invokespecial 12, 3) := dk_183 0 12 (dk_at dksL_law_0 12 rfl rfl)
theorem dL_law_15 : decode cL_law 15 = .ok (.astore_n 2, 1) := dk_77 (dk_at dksL_law_0 15 rfl rfl)
theorem dL_law_16 : decode cL_law 16 = .ok (.iconst 0, 1) := dk_3 (dk_at dksL_law_0 16 rfl rfl)
theorem dL_law_17 : decode cL_law 17 = .ok (.istore_n 3, 1) := dk_62 (dk_at dksL_law_0 17 rfl rfl)
theorem dL_law_18 : decode cL_law 18 = .ok (.iload_n 3, 1) := dk_29 (dk_at dksL_law_0 18 rfl rfl)
theorem dL_law_19 : decode cL_law 19 = .ok (.aload_n 0, 1) := dk_42 (dk_at dksL_law_0 19 rfl rfl)
theorem dL_law_20 : decode cL_law 20 = .ok (.arraylength, 1) := dk_190 (dk_at dksL_law_0 20 rfl rfl)
theorem dL_law_21 : decode cL_law 21 = .ok (.bipush 6, 2) := dk_16 6 (dk_at dksL_law_0 21 rfl rfl)
theorem dL_law_23 : decode cL_law 23 = .ok (.isub, 1) := dk_100 (dk_at dksL_law_0 23 rfl rfl)
theorem dL_law_24 : decode cL_law 24 = .ok (.if_icmp .gt 260, 3) := dk_163 1 4 (dk_at dksL_law_1 0 rfl rfl)
theorem dL_law_27 : decode cL_law 27 = .ok (.aload_n 0, 1) := dk_42 (dk_at dksL_law_1 3 rfl rfl)
theorem dL_law_28 : decode cL_law 28 = .ok (.iload_n 3, 1) := dk_29 (dk_at dksL_law_1 4 rfl rfl)
theorem dL_law_29 : decode cL_law 29 = .ok (.iaload, 1) := dk_46 (dk_at dksL_law_1 5 rfl rfl)
theorem dL_law_30 : decode cL_law 30 = .ok (.bipush 7, 2) := dk_16 7 (dk_at dksL_law_1 6 rfl rfl)
theorem dL_law_32 : decode cL_law 32 = .ok (.iand, 1) := dk_126 (dk_at dksL_law_1 8 rfl rfl)
theorem dL_law_33 : decode cL_law 33 = .ok (.tableswitch 245 0 7 #[47, 100, 121, 142, 175, 198, 211, 222], 47) := by decide +kernel
theorem dL_law_80 : decode cL_law 80 = .ok (.aload_n 1, 1) := dk_43 (dk_at dksL_law_3 0 rfl rfl)
theorem dL_law_81 : decode cL_law 81 = .ok (.aload_n 0, 1) := dk_42 (dk_at dksL_law_3 1 rfl rfl)
theorem dL_law_82 : decode cL_law 82 = .ok (.iload_n 3, 1) := dk_29 (dk_at dksL_law_3 2 rfl rfl)
theorem dL_law_83 : decode cL_law 83 = .ok (.iconst 1, 1) := dk_4 (dk_at dksL_law_3 3 rfl rfl)
theorem dL_law_84 : decode cL_law 84 = .ok (.iadd, 1) := dk_96 (dk_at dksL_law_3 4 rfl rfl)
theorem dL_law_85 : decode cL_law 85 = .ok (.iaload, 1) := dk_46 (dk_at dksL_law_3 5 rfl rfl)
theorem dL_law_86 : decode cL_law 86 = .ok (.aload_n 0, 1) := dk_42 (dk_at dksL_law_3 6 rfl rfl)
theorem dL_law_87 : decode cL_law 87 = .ok (.iload_n 3, 1) := dk_29 (dk_at dksL_law_3 7 rfl rfl)
theorem dL_law_88 : decode cL_law 88 = .ok (.iconst 2, 1) := dk_5 (dk_at dksL_law_3 8 rfl rfl)
theorem dL_law_89 : decode cL_law 89 = .ok (.iadd, 1) := dk_96 (dk_at dksL_law_3 9 rfl rfl)
theorem dL_law_90 : decode cL_law 90 = .ok (.iaload, 1) := dk_46 (dk_at dksL_law_3 10 rfl rfl)
theorem dL_law_91 : decode cL_law 91 = .ok (.aload_n 0, 1) := dk_42 (dk_at dksL_law_3 11 rfl rfl)
theorem dL_law_92 : decode cL_law 92 = .ok (.iload_n 3, 1) := dk_29 (dk_at dksL_law_3 12 rfl rfl)
theorem dL_law_93 : decode cL_law 93 = .ok (.iconst 3, 1) := dk_6 (dk_at dksL_law_3 13 rfl rfl)
theorem dL_law_94 : decode cL_law 94 = .ok (.iadd, 1) := dk_96 (dk_at dksL_law_3 14 rfl rfl)
theorem dL_law_95 : decode cL_law 95 = .ok (.iaload, 1) := dk_46 (dk_at dksL_law_3 15 rfl rfl)
theorem dL_law_96 : decode cL_law 96 = .ok (.aload_n 0, 1) := dk_42 (dk_at dksL_law_3 16 rfl rfl)
theorem dL_law_97 : decode cL_law 97 = .ok (.iload_n 3, 1) := dk_29 (dk_at dksL_law_3 17 rfl rfl)
theorem dL_law_98 : decode cL_law 98 = .ok (.iconst 4, 1) := dk_7 (dk_at dksL_law_3 18 rfl rfl)
theorem dL_law_99 : decode cL_law 99 = .ok (.iadd, 1) := dk_96 (dk_at dksL_law_3 19 rfl rfl)
theorem dL_law_100 : decode cL_law 100 = .ok (.iaload, 1) := dk_46 (dk_at dksL_law_3 20 rfl rfl)
theorem dL_law_101 : decode cL_law 101 = .ok (.invokevirtual 13, 3) := dk_182 0 13 (dk_at dksL_law_3 21 rfl rfl)
theorem dL_law_104 : decode cL_law 104 = .ok (.aload_n 2, 1) := dk_44 (dk_at dksL_law_4 0 rfl rfl)
theorem dL_law_105 : decode cL_law 105 = .ok (.aload_n 0, 1) := dk_42 (dk_at dksL_law_4 1 rfl rfl)
theorem dL_law_106 : decode cL_law 106 = .ok (.iload_n 3, 1) := dk_29 (dk_at dksL_law_4 2 rfl rfl)
theorem dL_law_107 : decode cL_law 107 = .ok (.iconst 1, 1) := dk_4 (dk_at dksL_law_4 3 rfl rfl)
theorem dL_law_108 : decode cL_law 108 = .ok (.iadd, 1) := dk_96 (dk_at dksL_law_4 4 rfl rfl)
theorem dL_law_109 : decode cL_law 109 = .ok (.iaload, 1) := dk_46 (dk_at dksL_law_4 5 rfl rfl)
theorem dL_law_110 : decode cL_law 110 = .ok (.aload_n 0, 1) := dk_42 (dk_at dksL_law_4 6 rfl rfl)
theorem dL_law_111 : decode cL_law 111 = .ok (.iload_n 3, 1) := dk_29 (dk_at dksL_law_4 7 rfl rfl)
theorem dL_law_112 : decode cL_law 112 = .ok (.iconst 2, 1) := dk_5 (dk_at dksL_law_4 8 rfl rfl)
theorem dL_law_113 : decode cL_law 113 = .ok (.iadd, 1) := dk_96 (dk_at dksL_law_4 9 rfl rfl)
theorem dL_law_114 : decode cL_law 114 = .ok (.iaload, 1) := dk_46 (dk_at dksL_law_4 10 rfl rfl)
theorem dL_law_115 : decode cL_law 115 = .ok (.aload_n 0, 1) := dk_42 (dk_at dksL_law_4 11 rfl rfl)
theorem dL_law_116 : decode cL_law 116 = .ok (.iload_n 3, 1) := dk_29 (dk_at dksL_law_4 12 rfl rfl)
theorem dL_law_117 : decode cL_law 117 = .ok (.iconst 3, 1) := dk_6 (dk_at dksL_law_4 13 rfl rfl)
theorem dL_law_118 : decode cL_law 118 = .ok (.iadd, 1) := dk_96 (dk_at dksL_law_4 14 rfl rfl)
theorem dL_law_119 : decode cL_law 119 = .ok (.iaload, 1) := dk_46 (dk_at dksL_law_4 15 rfl rfl)
theorem dL_law_120 : decode cL_law 120 = .ok (.aload_n 0, 1) := dk_42 (dk_at dksL_law_4 16 rfl rfl)
theorem dL_law_121 : decode cL_law 121 = .ok (.iload_n 3, 1) := dk_29 (dk_at dksL_law_4 17 rfl rfl)
theorem dL_law_122 : decode cL_law 122 = .ok (.iconst 4, 1) := dk_7 (dk_at dksL_law_4 18 rfl rfl)
theorem dL_law_123 : decode cL_law 123 = .ok (.iadd, 1) := dk_96 (dk_at dksL_law_4 19 rfl rfl)
theorem dL_law_124 : decode cL_law 124 = .ok (.iaload, 1) := dk_46 (dk_at dksL_law_4 20 rfl rfl)
theorem dL_law_125 : decode cL_law 125 = .ok (.invokevirtual 17, 3) := dk_182 0 17 (dk_at dksL_law_4 21 rfl rfl)
theorem dL_law_128 : decode cL_law 128 = .ok (.if_icmp .eq 150, 3) := dk_159 0 150 (dk_at dksL_law_5 0 rfl rfl)
theorem dL_law_131 : decode cL_law 131 = .ok (.iconst 0, 1) := dk_3 (dk_at dksL_law_5 3 rfl rfl)
theorem dL_law_132 : decode cL_law 132 = .ok (.ireturn, 1) := dk_172 (dk_at dksL_law_5 4 rfl rfl)
theorem dL_law_133 : decode cL_law 133 = .ok (.aload_n 1, 1) := dk_43 (dk_at dksL_law_5 5 rfl rfl)
theorem dL_law_134 : decode cL_law 134 = .ok (.aload_n 0, 1) := dk_42 (dk_at dksL_law_5 6 rfl rfl)
theorem dL_law_135 : decode cL_law 135 = .ok (.iload_n 3, 1) := dk_29 (dk_at dksL_law_5 7 rfl rfl)
theorem dL_law_136 : decode cL_law 136 = .ok (.iconst 1, 1) := dk_4 (dk_at dksL_law_5 8 rfl rfl)
theorem dL_law_137 : decode cL_law 137 = .ok (.iadd, 1) := dk_96 (dk_at dksL_law_5 9 rfl rfl)
theorem dL_law_138 : decode cL_law 138 = .ok (.iaload, 1) := dk_46 (dk_at dksL_law_5 10 rfl rfl)
theorem dL_law_139 : decode cL_law 139 = .ok (.invokevirtual 18, 3) := dk_182 0 18 (dk_at dksL_law_5 11 rfl rfl)
theorem dL_law_142 : decode cL_law 142 = .ok (.aload_n 2, 1) := dk_44 (dk_at dksL_law_5 14 rfl rfl)
theorem dL_law_143 : decode cL_law 143 = .ok (.aload_n 0, 1) := dk_42 (dk_at dksL_law_5 15 rfl rfl)
theorem dL_law_144 : decode cL_law 144 = .ok (.iload_n 3, 1) := dk_29 (dk_at dksL_law_5 16 rfl rfl)
theorem dL_law_145 : decode cL_law 145 = .ok (.iconst 1, 1) := dk_4 (dk_at dksL_law_5 17 rfl rfl)
theorem dL_law_146 : decode cL_law 146 = .ok (.iadd, 1) := dk_96 (dk_at dksL_law_5 18 rfl rfl)
theorem dL_law_147 : decode cL_law 147 = .ok (.iaload, 1) := dk_46 (dk_at dksL_law_5 19 rfl rfl)
theorem dL_law_148 : decode cL_law 148 = .ok (.invokevirtual 22, 3) := dk_182 0 22 (dk_at dksL_law_5 20 rfl rfl)
theorem dL_law_151 : decode cL_law 151 = .ok (.goto 127, 3) := dk_167 0 127 (dk_at dksL_law_6 0 rfl rfl)
theorem dL_law_154 : decode cL_law 154 = .ok (.aload_n 1, 1) := dk_43 (dk_at dksL_law_6 3 rfl rfl)
theorem dL_law_155 : decode cL_law 155 = .ok (.aload_n 0, 1) := dk_42 (dk_at dksL_law_6 4 rfl rfl)
theorem dL_law_156 : decode cL_law 156 = .ok (.iload_n 3, 1) := dk_29 (dk_at dksL_law_6 5 rfl rfl)
theorem dL_law_157 : decode cL_law 157 = .ok (.iconst 1, 1) := dk_4 (dk_at dksL_law_6 6 rfl rfl)
theorem dL_law_158 : decode cL_law 158 = .ok (.iadd, 1) := dk_96 (dk_at dksL_law_6 7 rfl rfl)
theorem dL_law_159 : decode cL_law 159 = .ok (.iaload, 1) := dk_46 (dk_at dksL_law_6 8 rfl rfl)
theorem dL_law_160 : decode cL_law 160 = .ok (.invokevirtual 23, 3) := dk_182 0 23 (dk_at dksL_law_6 9 rfl rfl)
theorem dL_law_163 : decode cL_law 163 = .ok (.aload_n 2, 1) := dk_44 (dk_at dksL_law_6 12 rfl rfl)
theorem dL_law_164 : decode cL_law 164 = .ok (.aload_n 0, 1) := dk_42 (dk_at dksL_law_6 13 rfl rfl)
theorem dL_law_165 : decode cL_law 165 = .ok (.iload_n 3, 1) := dk_29 (dk_at dksL_law_6 14 rfl rfl)
theorem dL_law_166 : decode cL_law 166 = .ok (.iconst 1, 1) := dk_4 (dk_at dksL_law_6 15 rfl rfl)
theorem dL_law_167 : decode cL_law 167 = .ok (.iadd, 1) := dk_96 (dk_at dksL_law_6 16 rfl rfl)
theorem dL_law_168 : decode cL_law 168 = .ok (.iaload, 1) := dk_46 (dk_at dksL_law_6 17 rfl rfl)
theorem dL_law_169 : decode cL_law 169 = .ok (.invokevirtual 26, 3) := dk_182 0 26 (dk_at dksL_law_6 18 rfl rfl)
theorem dL_law_172 : decode cL_law 172 = .ok (.goto 106, 3) := dk_167 0 106 (dk_at dksL_law_6 21 rfl rfl)
theorem dL_law_175 : decode cL_law 175 = .ok (.aload_n 1, 1) := dk_43 (dk_at dksL_law_7 0 rfl rfl)
theorem dL_law_176 : decode cL_law 176 = .ok (.aload_n 0, 1) := dk_42 (dk_at dksL_law_7 1 rfl rfl)
theorem dL_law_177 : decode cL_law 177 = .ok (.iload_n 3, 1) := dk_29 (dk_at dksL_law_7 2 rfl rfl)
theorem dL_law_178 : decode cL_law 178 = .ok (.iconst 1, 1) := dk_4 (dk_at dksL_law_7 3 rfl rfl)
theorem dL_law_179 : decode cL_law 179 = .ok (.iadd, 1) := dk_96 (dk_at dksL_law_7 4 rfl rfl)
theorem dL_law_180 : decode cL_law 180 = .ok (.iaload, 1) := dk_46 (dk_at dksL_law_7 5 rfl rfl)
theorem dL_law_181 : decode cL_law 181 = .ok (.aload_n 0, 1) := dk_42 (dk_at dksL_law_7 6 rfl rfl)
theorem dL_law_182 : decode cL_law 182 = .ok (.iload_n 3, 1) := dk_29 (dk_at dksL_law_7 7 rfl rfl)
theorem dL_law_183 : decode cL_law 183 = .ok (.iconst 2, 1) := dk_5 (dk_at dksL_law_7 8 rfl rfl)
theorem dL_law_184 : decode cL_law 184 = .ok (.iadd, 1) := dk_96 (dk_at dksL_law_7 9 rfl rfl)
theorem dL_law_185 : decode cL_law 185 = .ok (.iaload, 1) := dk_46 (dk_at dksL_law_7 10 rfl rfl)
theorem dL_law_186 : decode cL_law 186 = .ok (.invokevirtual 27, 3) := dk_182 0 27 (dk_at dksL_law_7 11 rfl rfl)
theorem dL_law_189 : decode cL_law 189 = .ok (.aload_n 2, 1) := dk_44 (dk_at dksL_law_7 14 rfl rfl)
theorem dL_law_190 : decode cL_law 190 = .ok (.aload_n 0, 1) := dk_42 (dk_at dksL_law_7 15 rfl rfl)
theorem dL_law_191 : decode cL_law 191 = .ok (.iload_n 3, 1) := dk_29 (dk_at dksL_law_7 16 rfl rfl)
theorem dL_law_192 : decode cL_law 192 = .ok (.iconst 1, 1) := dk_4 (dk_at dksL_law_7 17 rfl rfl)
theorem dL_law_193 : decode cL_law 193 = .ok (.iadd, 1) := dk_96 (dk_at dksL_law_7 18 rfl rfl)
theorem dL_law_194 : decode cL_law 194 = .ok (.iaload, 1) := dk_46 (dk_at dksL_law_7 19 rfl rfl)
theorem dL_law_195 : decode cL_law 195 = .ok (.aload_n 0, 1) := dk_42 (dk_at dksL_law_7 20 rfl rfl)
theorem dL_law_196 : decode cL_law 196 = .ok (.iload_n 3, 1) := dk_29 (dk_at dksL_law_7 21 rfl rfl)
theorem dL_law_197 : decode cL_law 197 = .ok (.iconst 2, 1) := dk_5 (dk_at dksL_law_7 22 rfl rfl)
theorem dL_law_198 : decode cL_law 198 = .ok (.iadd, 1) := dk_96 (dk_at dksL_law_7 23 rfl rfl)
theorem dL_law_199 : decode cL_law 199 = .ok (.iaload, 1) := dk_46 (dk_at dksL_law_8 0 rfl rfl)
theorem dL_law_200 : decode cL_law 200 = .ok (.invokevirtual 31, 3) := dk_182 0 31 (dk_at dksL_law_8 1 rfl rfl)
theorem dL_law_203 : decode cL_law 203 = .ok (.if_icmp .eq 75, 3) := dk_159 0 75 (dk_at dksL_law_8 4 rfl rfl)
theorem dL_law_206 : decode cL_law 206 = .ok (.iconst 0, 1) := dk_3 (dk_at dksL_law_8 7 rfl rfl)
theorem dL_law_207 : decode cL_law 207 = .ok (.ireturn, 1) := dk_172 (dk_at dksL_law_8 8 rfl rfl)
theorem dL_law_208 : decode cL_law 208 = .ok (.aload_n 1, 1) := dk_43 (dk_at dksL_law_8 9 rfl rfl)
theorem dL_law_209 : decode cL_law 209 = .ok (.aload_n 0, 1) := dk_42 (dk_at dksL_law_8 10 rfl rfl)
theorem dL_law_210 : decode cL_law 210 = .ok (.iload_n 3, 1) := dk_29 (dk_at dksL_law_8 11 rfl rfl)
theorem dL_law_211 : decode cL_law 211 = .ok (.iconst 1, 1) := dk_4 (dk_at dksL_law_8 12 rfl rfl)
theorem dL_law_212 : decode cL_law 212 = .ok (.iadd, 1) := dk_96 (dk_at dksL_law_8 13 rfl rfl)
theorem dL_law_213 : decode cL_law 213 = .ok (.iaload, 1) := dk_46 (dk_at dksL_law_8 14 rfl rfl)
theorem dL_law_214 : decode cL_law 214 = .ok (.invokevirtual 32, 3) := dk_182 0 32 (dk_at dksL_law_8 15 rfl rfl)
theorem dL_law_217 : decode cL_law 217 = .ok (.aload_n 2, 1) := dk_44 (dk_at dksL_law_8 18 rfl rfl)
theorem dL_law_218 : decode cL_law 218 = .ok (.aload_n 0, 1) := dk_42 (dk_at dksL_law_8 19 rfl rfl)
theorem dL_law_219 : decode cL_law 219 = .ok (.iload_n 3, 1) := dk_29 (dk_at dksL_law_8 20 rfl rfl)
theorem dL_law_220 : decode cL_law 220 = .ok (.iconst 1, 1) := dk_4 (dk_at dksL_law_8 21 rfl rfl)
theorem dL_law_221 : decode cL_law 221 = .ok (.iadd, 1) := dk_96 (dk_at dksL_law_8 22 rfl rfl)
theorem dL_law_222 : decode cL_law 222 = .ok (.iaload, 1) := dk_46 (dk_at dksL_law_8 23 rfl rfl)
theorem dL_law_223 : decode cL_law 223 = .ok (.invokevirtual 36, 3) := dk_182 0 36 (dk_at dksL_law_9 0 rfl rfl)
theorem dL_law_226 : decode cL_law 226 = .ok (.if_icmp .eq 52, 3) := dk_159 0 52 (dk_at dksL_law_9 3 rfl rfl)
theorem dL_law_229 : decode cL_law 229 = .ok (.iconst 0, 1) := dk_3 (dk_at dksL_law_9 6 rfl rfl)
theorem dL_law_230 : decode cL_law 230 = .ok (.ireturn, 1) := dk_172 (dk_at dksL_law_9 7 rfl rfl)
theorem dL_law_231 : decode cL_law 231 = .ok (.aload_n 1, 1) := dk_43 (dk_at dksL_law_9 8 rfl rfl)
theorem dL_law_232 : decode cL_law 232 = .ok (.invokevirtual 37, 3) := dk_182 0 37 (dk_at dksL_law_9 9 rfl rfl)
theorem dL_law_235 : decode cL_law 235 = .ok (.aload_n 2, 1) := dk_44 (dk_at dksL_law_9 12 rfl rfl)
theorem dL_law_236 : decode cL_law 236 = .ok (.invokevirtual 41, 3) := dk_182 0 41 (dk_at dksL_law_9 13 rfl rfl)
theorem dL_law_239 : decode cL_law 239 = .ok (.if_icmp .eq 39, 3) := dk_159 0 39 (dk_at dksL_law_9 16 rfl rfl)
theorem dL_law_242 : decode cL_law 242 = .ok (.iconst 0, 1) := dk_3 (dk_at dksL_law_9 19 rfl rfl)
theorem dL_law_243 : decode cL_law 243 = .ok (.ireturn, 1) := dk_172 (dk_at dksL_law_9 20 rfl rfl)
theorem dL_law_244 : decode cL_law 244 = .ok (.aload_n 1, 1) := dk_43 (dk_at dksL_law_9 21 rfl rfl)
theorem dL_law_245 : decode cL_law 245 = .ok (.invokevirtual 42, 3) := dk_182 0 42 (dk_at dksL_law_10 0 rfl rfl)
theorem dL_law_248 : decode cL_law 248 = .ok (.aload_n 2, 1) := dk_44 (dk_at dksL_law_10 3 rfl rfl)
theorem dL_law_249 : decode cL_law 249 = .ok (.invokevirtual 45, 3) := dk_182 0 45 (dk_at dksL_law_10 4 rfl rfl)
theorem dL_law_252 : decode cL_law 252 = .ok (.goto 26, 3) := dk_167 0 26 (dk_at dksL_law_10 7 rfl rfl)
theorem dL_law_255 : decode cL_law 255 = .ok (.aload_n 1, 1) := dk_43 (dk_at dksL_law_10 10 rfl rfl)
theorem dL_law_256 : decode cL_law 256 = .ok (.aload_n 0, 1) := dk_42 (dk_at dksL_law_10 11 rfl rfl)
theorem dL_law_257 : decode cL_law 257 = .ok (.iload_n 3, 1) := dk_29 (dk_at dksL_law_10 12 rfl rfl)
theorem dL_law_258 : decode cL_law 258 = .ok (.iconst 1, 1) := dk_4 (dk_at dksL_law_10 13 rfl rfl)
theorem dL_law_259 : decode cL_law 259 = .ok (.iadd, 1) := dk_96 (dk_at dksL_law_10 14 rfl rfl)
theorem dL_law_260 : decode cL_law 260 = .ok (.iaload, 1) := dk_46 (dk_at dksL_law_10 15 rfl rfl)
theorem dL_law_261 : decode cL_law 261 = .ok (.invokevirtual 46, 3) := dk_182 0 46 (dk_at dksL_law_10 16 rfl rfl)
theorem dL_law_264 : decode cL_law 264 = .ok (.aload_n 2, 1) := dk_44 (dk_at dksL_law_10 19 rfl rfl)
theorem dL_law_265 : decode cL_law 265 = .ok (.aload_n 0, 1) := dk_42 (dk_at dksL_law_10 20 rfl rfl)
theorem dL_law_266 : decode cL_law 266 = .ok (.iload_n 3, 1) := dk_29 (dk_at dksL_law_10 21 rfl rfl)
theorem dL_law_267 : decode cL_law 267 = .ok (.iconst 1, 1) := dk_4 (dk_at dksL_law_10 22 rfl rfl)
theorem dL_law_268 : decode cL_law 268 = .ok (.iadd, 1) := dk_96 (dk_at dksL_law_10 23 rfl rfl)
theorem dL_law_269 : decode cL_law 269 = .ok (.iaload, 1) := dk_46 (dk_at dksL_law_11 0 rfl rfl)
theorem dL_law_270 : decode cL_law 270 = .ok (.invokevirtual 50, 3) := dk_182 0 50 (dk_at dksL_law_11 1 rfl rfl)
theorem dL_law_273 : decode cL_law 273 = .ok (.if_icmp .eq 5, 3) := dk_159 0 5 (dk_at dksL_law_11 4 rfl rfl)
theorem dL_law_276 : decode cL_law 276 = .ok (.iconst 0, 1) := dk_3 (dk_at dksL_law_11 7 rfl rfl)
theorem dL_law_277 : decode cL_law 277 = .ok (.ireturn, 1) := dk_172 (dk_at dksL_law_11 8 rfl rfl)
theorem dL_law_278 : decode cL_law 278 = .ok (.iinc 3 6, 3) := dk_132 3 6 (dk_at dksL_law_11 9 rfl rfl)
theorem dL_law_281 : decode cL_law 281 = .ok (.goto (-263), 3) := dk_167 254 249 (dk_at dksL_law_11 12 rfl rfl)
theorem dL_law_284 : decode cL_law 284 = .ok (.iconst 1, 1) := dk_4 (dk_at dksL_law_11 15 rfl rfl)
theorem dL_law_285 : decode cL_law 285 = .ok (.ireturn, 1) := dk_172 (dk_at dksL_law_11 16 rfl rfl)

theorem q6 : (Jvm.Cond.initialized "AsconHashDeskLaw") ∈ lw_all := lw_g (lw_at lw_m1 0 rfl) rfl
set_option maxRecDepth 100000
theorem q32 : (Jvm.Cond.classLink "AsconHashDeskLaw" (7 : Nat) "AsconHashDesk") ∈ lw_all := lw_g (lw_at lw_m1 26 rfl) rfl
theorem q34 : (Jvm.Cond.methodLink "AsconHashDeskLaw" (9 : Nat) ({ cls := "AsconHashDesk", name := "<init>", desc := "()V" } : Jvm.MethodName)) ∈ lw_all := lw_g (lw_at lw_m1 28 rfl) rfl
theorem q262 : (Jvm.Cond.methodLink "AsconHashDeskLaw" (13 : Nat) ({ cls := "AsconHashDesk", name := "put", desc := "(IIII)Z" } : Jvm.MethodName)) ∈ lw_all := lw_g (lw_at lw_m2 16 rfl) rfl
theorem q270 : (Jvm.Cond.methodLink "AsconHashDeskLaw" (18 : Nat) ({ cls := "AsconHashDesk", name := "trim", desc := "(I)V" } : Jvm.MethodName)) ∈ lw_all := lw_g (lw_at lw_m2 24 rfl) rfl
theorem q279 : (Jvm.Cond.methodLink "AsconHashDeskLaw" (23 : Nat) ({ cls := "AsconHashDesk", name := "begin", desc := "(I)V" } : Jvm.MethodName)) ∈ lw_all := lw_g (lw_at lw_m2 33 rfl) rfl
theorem q283 : (Jvm.Cond.methodLink "AsconHashDeskLaw" (27 : Nat) ({ cls := "AsconHashDesk", name := "feed", desc := "(II)Z" } : Jvm.MethodName)) ∈ lw_all := lw_g (lw_at lw_m2 37 rfl) rfl
theorem q420 : (Jvm.Cond.methodLink "AsconHashDeskLaw" (32 : Nat) ({ cls := "AsconHashDesk", name := "one", desc := "(I)Z" } : Jvm.MethodName)) ∈ lw_all := lw_g (lw_at lw_m2 174 rfl) rfl
theorem q449 : (Jvm.Cond.methodLink "AsconHashDeskLaw" (37 : Nat) ({ cls := "AsconHashDesk", name := "close", desc := "()I" } : Jvm.MethodName)) ∈ lw_all := lw_g (lw_at lw_m2 203 rfl) rfl
theorem q538 : (Jvm.Cond.methodLink "AsconHashDeskLaw" (42 : Nat) ({ cls := "AsconHashDesk", name := "drop", desc := "()V" } : Jvm.MethodName)) ∈ lw_all := lw_g (lw_at lw_m3 52 rfl) rfl
theorem q549 : (Jvm.Cond.methodLink "AsconHashDeskLaw" (46 : Nat) ({ cls := "AsconHashDesk", name := "out", desc := "(I)I" } : Jvm.MethodName)) ∈ lw_all := lw_g (lw_at lw_m3 63 rfl) rfl
theorem q553 : (Jvm.Cond.classLink "AsconHashDeskLaw" (10 : Nat) "AsconHashDeskModel") ∈ lw_all := lw_g (lw_at lw_m3 67 rfl) rfl
theorem q555 : (Jvm.Cond.methodLink "AsconHashDeskLaw" (12 : Nat) ({ cls := "AsconHashDeskModel", name := "<init>", desc := "()V" } : Jvm.MethodName)) ∈ lw_all := lw_g (lw_at lw_m3 69 rfl) rfl
theorem q576 : (Jvm.Cond.methodLink "AsconHashDeskLaw" (17 : Nat) ({ cls := "AsconHashDeskModel", name := "put", desc := "(IIII)Z" } : Jvm.MethodName)) ∈ lw_all := lw_g (lw_at lw_m3 90 rfl) rfl
theorem q580 : (Jvm.Cond.methodLink "AsconHashDeskLaw" (22 : Nat) ({ cls := "AsconHashDeskModel", name := "trim", desc := "(I)V" } : Jvm.MethodName)) ∈ lw_all := lw_g (lw_at lw_m3 94 rfl) rfl
theorem q588 : (Jvm.Cond.methodLink "AsconHashDeskLaw" (26 : Nat) ({ cls := "AsconHashDeskModel", name := "begin", desc := "(I)V" } : Jvm.MethodName)) ∈ lw_all := lw_g (lw_at lw_m3 102 rfl) rfl
theorem q592 : (Jvm.Cond.methodLink "AsconHashDeskLaw" (31 : Nat) ({ cls := "AsconHashDeskModel", name := "feed", desc := "(II)Z" } : Jvm.MethodName)) ∈ lw_all := lw_g (lw_at lw_m3 106 rfl) rfl
theorem q596 : (Jvm.Cond.methodLink "AsconHashDeskLaw" (36 : Nat) ({ cls := "AsconHashDeskModel", name := "one", desc := "(I)Z" } : Jvm.MethodName)) ∈ lw_all := lw_g (lw_at lw_m3 110 rfl) rfl
theorem q600 : (Jvm.Cond.methodLink "AsconHashDeskLaw" (41 : Nat) ({ cls := "AsconHashDeskModel", name := "close", desc := "()I" } : Jvm.MethodName)) ∈ lw_all := lw_g (lw_at lw_m3 114 rfl) rfl
theorem q620 : (Jvm.Cond.methodLink "AsconHashDeskLaw" (45 : Nat) ({ cls := "AsconHashDeskModel", name := "drop", desc := "()V" } : Jvm.MethodName)) ∈ lw_all := lw_g (lw_at lw_m3 134 rfl) rfl
theorem q624 : (Jvm.Cond.methodLink "AsconHashDeskLaw" (50 : Nat) ({ cls := "AsconHashDeskModel", name := "out", desc := "(I)I" } : Jvm.MethodName)) ∈ lw_all := lw_g (lw_at lw_m3 138 rfl) rfl
end
section
/-! OUR OWN ROWS: one world, one shape of contract, one row a call -/
set_option maxRecDepth 100000
/-- the classes whose objects the worlds hold: 0 the desk, 1 the digest, 2 its processor, 3 the permutation, 4 the model -/
abbrev CL : List vw_C := [(RX0, TX0, 5), (RX3, TX3, 8), (RX5, TX5, 1), (RX8, TX8, 5), (RX10, TX10, 5)]
/-- the array classes: byte[], int[], long[] -/
abbrev TY (dB dN dL : ClassId) : List (ClassId × FieldType) := [(dB, .byte), (dN, .int), (dL, .long)]
/-- the model's round constants -/
def rc_ (j : Nat) : Int32 := nI (240 - 15 * j)
abbrev yD_update : MethodName := ⟨"Digest", "update", "([BII)V"⟩
abbrev yD_update1 : MethodName := ⟨"Digest", "update", "(B)V"⟩
abbrev yD_doFinal : MethodName := ⟨"Digest", "doFinal", "([BI)I"⟩
abbrev yD_reset : MethodName := ⟨"Digest", "reset", "()V"⟩
abbrev yB_within : MethodName := ⟨"BufferBaseDigest$ProcessingBuffer", "isLengthWithinAvailableSpace", "(II)Z"⟩
abbrev yB_exceed : MethodName := ⟨"BufferBaseDigest$ProcessingBuffer", "isLengthExceedingBlockSize", "(II)Z"⟩
abbrev yB_update : MethodName := ⟨"BufferBaseDigest$ProcessingBuffer", "update", "(B)V"⟩
abbrev yA_processBytes : MethodName := ⟨"BufferBaseDigest", "processBytes", "([BI)V"⟩
abbrev yA_finish : MethodName := ⟨"BufferBaseDigest", "finish", "([BI)V"⟩
abbrev yA_reset : MethodName := ⟨"BufferBaseDigest", "reset", "()V"⟩
abbrev yA_load : MethodName := ⟨"AsconBaseDigest", "loadBytes", "([BI)J"⟩
abbrev yA_load3 : MethodName := ⟨"AsconBaseDigest", "loadBytes", "([BII)J"⟩
abbrev yA_pad : MethodName := ⟨"AsconBaseDigest", "pad", "(I)J"⟩
abbrev yA_setB : MethodName := ⟨"AsconBaseDigest", "setBytes", "(J[BI)V"⟩
abbrev yA_setB3 : MethodName := ⟨"AsconBaseDigest", "setBytes", "(J[BII)V"⟩
/-- what the methods ask of the tables, and no list of words carries -/
def xw (U : State) : Prop :=
  (va_Nw (.methodLinkNest "BufferBaseDigest" 33 yX5_init "BufferBaseDigest") U ∧ va_Nw (.fieldLinkNest "AsconBaseDigest" 19 "AsconBaseDigest$Friend" "INSTANCE" "LAsconBaseDigest$Friend;" "AsconBaseDigest") U ∧ va_Nw (.fieldLinkNest "BufferBaseDigest" 17 "BufferBaseDigest$ProcessingBufferType" "ord" "I" "BufferBaseDigest") U) ∧
  (va_Nw (.declares yA_processBytes) U ∧ va_Nw (.declares yA_finish) U ∧ va_Nw (.declares yA_reset) U ∧ va_Nw (.declares yA_load) U ∧ va_Nw (.declares yA_load3) U ∧ va_Nw (.declares yA_pad) U ∧ va_Nw (.declares yA_setB) U ∧ va_Nw (.declares yA_setB3) U) ∧
  (va_Fw RX3 yD_update yX1_update U ∧ va_Fw RX3 yD_update1 yX1_update_2 U ∧ va_Fw RX3 yD_doFinal yX1_doFinal U ∧ va_Fw RX3 yD_reset yX3_reset U) ∧
  (va_Fw RX5 yB_within yX5_isLengthWithinAvailableSpace U ∧ va_Fw RX5 yB_exceed yX5_isLengthExceedingBlockSize U ∧ va_Fw RX5 yB_update yX5_update U) ∧
  (∃ t : Nat, vk_R RX3 7 "Ascon-Hash256" t U)
/-- the statics that are read -/
def xs (A : Nat → Prop) (U : State) (H : Heap) : Prop :=
  (∃ t : Nat, va_Z "BufferBaseDigest$ProcessingBufferType" "Immediate" "LBufferBaseDigest$ProcessingBufferType;" (.ref t) A U H ∧ va_OF "BufferBaseDigest$ProcessingBufferType" "ord" "I" (.int 1) t A U H) ∧
  (∃ t : Nat, va_Z "AsconBaseDigest$Friend" "INSTANCE" "LAsconBaseDigest$Friend;" (.ref t) A U H) ∧
  (∃ t : Nat, va_Z "ISAPDigest$Friend" "INSTANCE" "LISAPDigest$Friend;" (.ref t) A U H) ∧
  (∃ t : Nat, va_Z "AsconHashDeskModel" "ROUND" "[I" (.ref t) A U H ∧ va_T .int t 12 (fun j => .int (rc_ j)) A U H)
def xt (A : Nat → Prop) (U : State) (H : Heap) : Prop := xw U ∧ xs A U H
theorem xw.warm {s U : State} (hW : s.WarmedH U.vm) (h : xw s) : xw U := by
  obtain ⟨⟨a1, a2, a3⟩, ⟨b1, b2, b3, b4, b5, b6, b7, b8⟩, ⟨c1, c2, c3, c4⟩, ⟨d1, d2, d3⟩, ⟨t, e1⟩⟩ := h
  exact ⟨⟨va_Nw.warmM hW a1, va_Nw.warmF hW a2, va_Nw.warmF hW a3⟩,
    ⟨va_Nw.warmD hW b1, va_Nw.warmD hW b2, va_Nw.warmD hW b3, va_Nw.warmD hW b4, va_Nw.warmD hW b5, va_Nw.warmD hW b6, va_Nw.warmD hW b7, va_Nw.warmD hW b8⟩,
    ⟨va_Fw.moved (by decide) hW.alike c1, va_Fw.moved (by decide) hW.alike c2, va_Fw.moved (by decide) hW.alike c3, va_Fw.moved (by decide) hW.alike c4⟩,
    ⟨va_Fw.moved (by decide) hW.alike d1, va_Fw.moved (by decide) hW.alike d2, va_Fw.moved (by decide) hW.alike d3⟩, ⟨t, vk_R.warm hW e1⟩⟩
theorem xs.moved {A : Nat → Prop} {u U : State} {H : Heap} (hvm : u.vm.Alike U.vm) (h : xs A u H) : xs A U H := by
  obtain ⟨⟨t1, a1, a2⟩, ⟨t2, b1⟩, ⟨t3, c1⟩, ⟨t4, d1, d2⟩⟩ := h
  exact ⟨⟨t1, va_Z.moved hvm a1, va_OF.moved hvm a2⟩, ⟨t2, va_Z.moved hvm b1⟩, ⟨t3, va_Z.moved hvm c1⟩, ⟨t4, va_Z.moved hvm d1, va_T.moved hvm d2⟩⟩
theorem xs.kept {A : Nat → Prop} {U : State} {H H1 : Heap} (h : xs A U H) (hq : ∀ a : Nat, a < H.size → ¬ A a → H1[a]? = H[a]?) : xs A U H1 := by
  obtain ⟨⟨t1, a1, a2⟩, ⟨t2, b1⟩, ⟨t3, c1⟩, ⟨t4, d1, d2⟩⟩ := h
  exact ⟨⟨t1, a1.kept hq, a2.kept hq⟩, ⟨t2, b1.kept hq⟩, ⟨t3, c1.kept hq⟩, ⟨t4, d1.kept hq, d2.kept hq⟩⟩
theorem xs.narrow {A B : Nat → Prop} {U : State} {H : Heap} (h : xs A U H) (hAB : ∀ q, B q → A q) : xs B U H := by
  obtain ⟨⟨t1, a1, a2⟩, ⟨t2, b1⟩, ⟨t3, c1⟩, ⟨t4, d1, d2⟩⟩ := h
  exact ⟨⟨t1, a1.narrow hAB, a2.narrow hAB⟩, ⟨t2, b1.narrow hAB⟩, ⟨t3, c1.narrow hAB⟩, ⟨t4, d1.narrow hAB, d2.narrow hAB⟩⟩
/-- the start of a contract: the world ws, the statics outside it -/
def pre_ (D : va_G) (dB dN dL : ClassId) (ws : va_W) (sz : Nat) (U : State) : Prop := U.heap.size = sz ∧ va_P D CL ws U.heap ∧ va_K D CL (TY dB dN dL) U ∧ va_D (fun _ => True) ws ∧ xt (va_A ws sz) U U.heap
/-- the world behind it -/
def post_ (D : va_G) (dB dN dL : ClassId) (A : Nat → Prop) (ws : va_W) (t : State) : Prop := va_P D CL ws t.heap ∧ va_K D CL (TY dB dN dL) t ∧ va_D A ws
def Qi_ (D : va_G) (dB dN dL : ClassId) {S : Type} (post : Int32 → S → Prop) (w1 : S → va_W) (A : Nat → Prop) : Array Value → State → Outcome → State → Prop := va_Qi post (fun u t => post_ D dB dN dL A (w1 u) t) A
def Ql_ (D : va_G) (dB dN dL : ClassId) {S : Type} (post : Int64 → S → Prop) (w1 : S → va_W) (A : Nat → Prop) : Array Value → State → Outcome → State → Prop := va_Ql post (fun u t => post_ D dB dN dL A (w1 u) t) A
def Qv_ (D : va_G) (dB dN dL : ClassId) {S : Type} (post : S → Prop) (w1 : S → va_W) (A : Nat → Prop) : Array Value → State → Outcome → State → Prop := va_Qv post (fun u t => post_ D dB dN dL A (w1 u) t) A
def Qr_ (D : va_G) (dB dN dL : ClassId) {S : Type} (post : S → Nat → Prop) (w1 : S → Nat → va_W) (A : Nat → Prop) : Array Value → State → Outcome → State → Prop := va_Qr (fun _ => True) (fun u a t => post u a ∧ post_ D dB dN dL A (w1 u a) t) A
/-- the room of a contract -/
abbrev rm_ (fr ce sl lo : Nat) : Room := { frames := fr, cells := ce, slots := sl, locals := lo }
/-- contracts by what they answer -/
abbrev Ci_ (l : Launch) (y : MethodName) (ws : List Cond) (rm : Room) (D : va_G) (dB dN dL : ClassId) (as : List Value) (w0 : va_W) (sz : Nat) {S : Type} (post : Int32 → S → Prop) (w1 : S → va_W) : Prop := Met l y ws rm (va_Pc as (pre_ D dB dN dL w0 sz)) (Qi_ D dB dN dL post w1 (va_A w0 sz)) rm.cells rm.slots (va_A w0 sz)
abbrev Cl_ (l : Launch) (y : MethodName) (ws : List Cond) (rm : Room) (D : va_G) (dB dN dL : ClassId) (as : List Value) (w0 : va_W) (sz : Nat) {S : Type} (post : Int64 → S → Prop) (w1 : S → va_W) : Prop := Met l y ws rm (va_Pc as (pre_ D dB dN dL w0 sz)) (Ql_ D dB dN dL post w1 (va_A w0 sz)) rm.cells rm.slots (va_A w0 sz)
abbrev Cv_ (l : Launch) (y : MethodName) (ws : List Cond) (rm : Room) (D : va_G) (dB dN dL : ClassId) (as : List Value) (w0 : va_W) (sz : Nat) {S : Type} (post : S → Prop) (w1 : S → va_W) : Prop := Met l y ws rm (va_Pc as (pre_ D dB dN dL w0 sz)) (Qv_ D dB dN dL post w1 (va_A w0 sz)) rm.cells rm.slots (va_A w0 sz)
abbrev Cr_ (l : Launch) (y : MethodName) (ws : List Cond) (rm : Room) (D : va_G) (dB dN dL : ClassId) (as : List Value) (w0 : va_W) (sz : Nat) {S : Type} (post : S → Nat → Prop) (w1 : S → Nat → va_W) : Prop := Met l y ws rm (va_Pc as (pre_ D dB dN dL w0 sz)) (Qr_ D dB dN dL post w1 (va_A w0 sz)) rm.cells rm.slots (va_A w0 sz)
theorem xt.blind {A : Nat → Prop} {U : State} {g : JFrame} {mk : MethodId} {a : Array Value} (h : xt A U U.heap) : xt A (U.calling g mk a) (U.calling g mk a).heap :=
  ⟨xw.warm (s := U) (U := U.calling g mk a) (State.WarmedH.refl U) h.1, xs.moved (u := U) (U := U.calling g mk a) (Vm.Alike.refl U.vm) h.2⟩
theorem pre_blind {D : va_G} {dB dN dL : ClassId} {as : List Value} {wc : va_W} {sz : Nat} : FrameBlind (va_Pc as (pre_ D dB dN dL wc sz)) := fun a U g mk q => by
  obtain ⟨q0, q1, qP, qK, qD, qX⟩ := q
  exact ⟨q0, q1, qP, va_K.moved (u := U) (U := U.calling g mk a) (Vm.Alike.refl U.vm) qK, qD, xt.blind qX⟩
theorem fm_ {ws wc : va_W} {isC : List Nat} (hC : isC.map (fun i => ws[i]?) = wc.map some) : isC.filterMap (fun i => ws[i]?) = wc := by
  have e : isC.filterMap (fun i => ws[i]?) = (isC.map (fun i => ws[i]?)).filterMap id := by rw [List.filterMap_map]; rfl
  rw [e, hC, List.filterMap_map]
  show wc.filterMap some = wc
  exact List.filterMap_some
section OWN
variable {p : Program} {l : Launch} {e : Env} {R : Room} {s : State} {m : MethodId} {args : Array Value} {below : List Frame} {meth : Method} {c : Code} {H : Heap} {locs : List Loc} {cells slots : Nat} {Q : State → Prop}
variable {D : va_G} {dB dN dL : ClassId} {A : Nat → Prop} {ws wc wr : va_W}
theorem xt.call {U : State} {B : Nat → Prop} (hX : xt A s s.heap) (hS : va_S A s.heap H locs) (hU : U.heap = H) (hW : s.WarmedH U.vm) (hB : ∀ q, B q → A q) : xt B U U.heap := by
  refine ⟨xw.warm hW hX.1, ?_⟩
  rw [hU]
  exact ((xs.moved hW.alike hX.2).kept hS.2.1).narrow hB
/-- the start of a callee's contract, out of the caller's world -/
theorem pv_ {As : List Value} (isC : List Nat) (hC : isC.map (fun i => ws[i]?) = wc.map some) (hnd : va_nd isC = true) (hP : va_P D CL ws H) (hK : va_K D CL (TY dB dN dL) s) (hD : va_D A ws) (hS : va_S A s.heap H locs) (hA : ∀ q : Nat, s.heap.size ≤ q → A q) (hX : xt A s s.heap) : PreS s H (va_Pc As (pre_ D dB dN dL wc H.size)) As := by
  refine ⟨pre_blind, fun U hU hW => ⟨rfl, by rw [hU], by rw [hU]; exact hP.sub isC (fm_ hC), va_K.moved hW.alike hK, (hD.sub isC hnd hC).weaken (fun _ _ _ _ => trivial), hX.call hS hU hW (va_free hD hS hA isC hC)⟩⟩
theorem pvV {b : Nat} {As : List Value} {ci q0 N : Nat} {C : String} {T : u_T} {fs : List Value} (isC : List Nat) (hC : isC.map (fun i => ws[i]?) = wc.map some) (hnd : va_nd isC = true) (hP : va_P D CL ws H) (hK : va_K D CL (TY dB dN dL) s) (hD : va_D A ws) (hS : va_S A s.heap H locs) (hA : ∀ q : Nat, s.heap.size ≤ q → A q) (hX : xt A s s.heap) (hc : CL[ci]? = some (C, T, N)) (he : ws[q0]? = some (b, .inr (ci, fs))) : PreV s H C b (va_Pc (.ref b :: As) (pre_ D dB dN dL wc H.size)) As :=
  ⟨pre_blind, va_recv (q := (C, T, N)) hK hP hc he, (pv_ (As := .ref b :: As) isC hC hnd hP hK hD hS hA hX).2⟩
variable {pc : Nat} {ls : Array Slot} {rest st0 : List Value} {a : Array Value} {mc ms : Nat}
/-- calls: what the callee leaves stands beside the rest -/
theorem cl_i {S : Type} {post : Int32 → S → Prop} {w1 : S → va_W} (wc wr : va_W) (isC isR : List Nat) (hC : isC.map (fun i => ws[i]?) = wc.map some) (hR : isR.map (fun i => ws[i]?) = wr.map some) (hn : va_nd isR = true) (hdis : ∀ i ∈ isR, i ∉ isC) (hP : va_P D CL ws H) (hD : va_D A ws) (hS : va_S A s.heap H locs) (hA : ∀ q : Nat, s.heap.size ≤ q → A q)
    (hr : va_Run p l e R s m args below meth c H locs cells slots mc ms (F0 m pc ls st0) rest (Qi_ D dB dN dL post w1 (va_A wc H.size) a) (va_A wc H.size))
    (kk : ∀ (r : Int32) (u : S) (H : Heap) (locs : List Loc), post r u → va_P D CL (wr ++ w1 u) H → va_D A (wr ++ w1 u) → va_S A s.heap H locs → W p l e R s m args below meth c H locs (cells + mc) (slots + ms) Q (F0 m (pc + 3) ls (.int r :: rest))) : W p l e R s m args below meth c H locs cells slots Q (F0 m pc ls st0) := by
  have hF := va_free hD hS hA isC hC
  refine va_calli (post := post) (B := fun u t => post_ D dB dN dL (va_A wc H.size) (w1 u) t) hr hS (fun q _ h => hF q h) hF (fun r u t H1 locs1 ht hvm hw hB hz hk hS1 => ?_)
  obtain ⟨hP1, hK1, hD1⟩ := hB
  rw [ht] at hP1
  obtain ⟨hP2, hD2⟩ := va_join hP hD isC isR hC hR hn hdis hk hF hP1 hD1
  exact kk r u H1 locs1 hw hP2 hD2 hS1
theorem cl_l {S : Type} {post : Int64 → S → Prop} {w1 : S → va_W} (wc wr : va_W) (isC isR : List Nat) (hC : isC.map (fun i => ws[i]?) = wc.map some) (hR : isR.map (fun i => ws[i]?) = wr.map some) (hn : va_nd isR = true) (hdis : ∀ i ∈ isR, i ∉ isC) (hP : va_P D CL ws H) (hD : va_D A ws) (hS : va_S A s.heap H locs) (hA : ∀ q : Nat, s.heap.size ≤ q → A q)
    (hr : va_Run p l e R s m args below meth c H locs cells slots mc ms (F0 m pc ls st0) rest (Ql_ D dB dN dL post w1 (va_A wc H.size) a) (va_A wc H.size))
    (kk : ∀ (r : Int64) (u : S) (H : Heap) (locs : List Loc), post r u → va_P D CL (wr ++ w1 u) H → va_D A (wr ++ w1 u) → va_S A s.heap H locs → W p l e R s m args below meth c H locs (cells + mc) (slots + ms) Q (F0 m (pc + 3) ls (.long r :: rest))) : W p l e R s m args below meth c H locs cells slots Q (F0 m pc ls st0) := by
  have hF := va_free hD hS hA isC hC
  refine va_calll (post := post) (B := fun u t => post_ D dB dN dL (va_A wc H.size) (w1 u) t) hr hS (fun q _ h => hF q h) hF (fun r u t H1 locs1 ht hvm hw hB hz hk hS1 => ?_)
  obtain ⟨hP1, hK1, hD1⟩ := hB
  rw [ht] at hP1
  obtain ⟨hP2, hD2⟩ := va_join hP hD isC isR hC hR hn hdis hk hF hP1 hD1
  exact kk r u H1 locs1 hw hP2 hD2 hS1
theorem cl_v {S : Type} {post : S → Prop} {w1 : S → va_W} (wc wr : va_W) (isC isR : List Nat) (hC : isC.map (fun i => ws[i]?) = wc.map some) (hR : isR.map (fun i => ws[i]?) = wr.map some) (hn : va_nd isR = true) (hdis : ∀ i ∈ isR, i ∉ isC) (hP : va_P D CL ws H) (hD : va_D A ws) (hS : va_S A s.heap H locs) (hA : ∀ q : Nat, s.heap.size ≤ q → A q)
    (hr : va_Run p l e R s m args below meth c H locs cells slots mc ms (F0 m pc ls st0) rest (Qv_ D dB dN dL post w1 (va_A wc H.size) a) (va_A wc H.size))
    (kk : ∀ (u : S) (H : Heap) (locs : List Loc), post u → va_P D CL (wr ++ w1 u) H → va_D A (wr ++ w1 u) → va_S A s.heap H locs → W p l e R s m args below meth c H locs (cells + mc) (slots + ms) Q (F0 m (pc + 3) ls rest)) : W p l e R s m args below meth c H locs cells slots Q (F0 m pc ls st0) := by
  have hF := va_free hD hS hA isC hC
  refine va_callv (post := post) (B := fun u t => post_ D dB dN dL (va_A wc H.size) (w1 u) t) hr hS (fun q _ h => hF q h) hF (fun u t H1 locs1 ht hvm hw hB hz hk hS1 => ?_)
  obtain ⟨hP1, hK1, hD1⟩ := hB
  rw [ht] at hP1
  obtain ⟨hP2, hD2⟩ := va_join hP hD isC isR hC hR hn hdis hk hF hP1 hD1
  exact kk u H1 locs1 hw hP2 hD2 hS1
theorem cl_r {S : Type} {post : S → Nat → Prop} {w1 : S → Nat → va_W} (wc wr : va_W) (isC isR : List Nat) (hC : isC.map (fun i => ws[i]?) = wc.map some) (hR : isR.map (fun i => ws[i]?) = wr.map some) (hn : va_nd isR = true) (hdis : ∀ i ∈ isR, i ∉ isC) (hP : va_P D CL ws H) (hD : va_D A ws) (hS : va_S A s.heap H locs) (hA : ∀ q : Nat, s.heap.size ≤ q → A q)
    (hr : va_Run p l e R s m args below meth c H locs cells slots mc ms (F0 m pc ls st0) rest (Qr_ D dB dN dL post w1 (va_A wc H.size) a) (va_A wc H.size))
    (kk : ∀ (u : S) (r : Nat) (H : Heap) (locs : List Loc), post u r → va_P D CL (wr ++ w1 u r) H → va_D A (wr ++ w1 u r) → va_S A s.heap H locs → W p l e R s m args below meth c H locs (cells + mc) (slots + ms) Q (F0 m (pc + 3) ls (.ref r :: rest))) : W p l e R s m args below meth c H locs cells slots Q (F0 m pc ls st0) := by
  have hF := va_free hD hS hA isC hC
  refine va_callr (post := fun _ => True) (B := fun u r t => post u r ∧ post_ D dB dN dL (va_A wc H.size) (w1 u r) t) hr hS (fun q _ h => hF q h) hF (fun u r t H1 locs1 ht hvm _ hB hz hk hS1 => ?_)
  obtain ⟨hw, hP1, hK1, hD1⟩ := hB
  rw [ht] at hP1
  obtain ⟨hP2, hD2⟩ := va_join hP hD isC isR hC hR hn hdis hk hF hP1 hD1
  exact kk u r H1 locs1 hw hP2 hD2 hS1
theorem cf_i {S : Type} {post : Int32 → S → Prop} {w1 : S → va_W} (wc wr : va_W) (isC isR : List Nat) (hC : isC.map (fun i => ws[i]?) = wc.map some) (hR : isR.map (fun i => ws[i]?) = wr.map some) (hn : va_nd isR = true) (hdis : ∀ i ∈ isR, i ∉ isC) (hP : va_P D CL ws H) (hD : va_D A ws) (hS : va_S A s.heap H locs) (hA : ∀ q : Nat, s.heap.size ≤ q → A q)
    (hr : va_Run5 p l e R s m args below meth c H locs cells slots mc ms (F0 m pc ls st0) rest (Qi_ D dB dN dL post w1 (va_A wc H.size) a) (va_A wc H.size))
    (kk : ∀ (r : Int32) (u : S) (H : Heap) (locs : List Loc), post r u → va_P D CL (wr ++ w1 u) H → va_D A (wr ++ w1 u) → va_S A s.heap H locs → W p l e R s m args below meth c H locs (cells + mc) (slots + ms) Q (F0 m (pc + 5) ls (.int r :: rest))) : W p l e R s m args below meth c H locs cells slots Q (F0 m pc ls st0) := by
  have hF := va_free hD hS hA isC hC
  refine va_callFi (post := post) (B := fun u t => post_ D dB dN dL (va_A wc H.size) (w1 u) t) hr hS (fun q _ h => hF q h) hF (fun r u t H1 locs1 ht hvm hw hB hz hk hS1 => ?_)
  obtain ⟨hP1, hK1, hD1⟩ := hB
  rw [ht] at hP1
  obtain ⟨hP2, hD2⟩ := va_join hP hD isC isR hC hR hn hdis hk hF hP1 hD1
  exact kk r u H1 locs1 hw hP2 hD2 hS1
theorem cf_v {S : Type} {post : S → Prop} {w1 : S → va_W} (wc wr : va_W) (isC isR : List Nat) (hC : isC.map (fun i => ws[i]?) = wc.map some) (hR : isR.map (fun i => ws[i]?) = wr.map some) (hn : va_nd isR = true) (hdis : ∀ i ∈ isR, i ∉ isC) (hP : va_P D CL ws H) (hD : va_D A ws) (hS : va_S A s.heap H locs) (hA : ∀ q : Nat, s.heap.size ≤ q → A q)
    (hr : va_Run5 p l e R s m args below meth c H locs cells slots mc ms (F0 m pc ls st0) rest (Qv_ D dB dN dL post w1 (va_A wc H.size) a) (va_A wc H.size))
    (kk : ∀ (u : S) (H : Heap) (locs : List Loc), post u → va_P D CL (wr ++ w1 u) H → va_D A (wr ++ w1 u) → va_S A s.heap H locs → W p l e R s m args below meth c H locs (cells + mc) (slots + ms) Q (F0 m (pc + 5) ls rest)) : W p l e R s m args below meth c H locs cells slots Q (F0 m pc ls st0) := by
  have hF := va_free hD hS hA isC hC
  refine va_callFv (post := post) (B := fun u t => post_ D dB dN dL (va_A wc H.size) (w1 u) t) hr hS (fun q _ h => hF q h) hF (fun u t H1 locs1 ht hvm hw hB hz hk hS1 => ?_)
  obtain ⟨hP1, hK1, hD1⟩ := hB
  rw [ht] at hP1
  obtain ⟨hP2, hD2⟩ := va_join hP hD isC isR hC hR hn hdis hk hF hP1 hD1
  exact kk u H1 locs1 hw hP2 hD2 hS1
variable {cc : ByteArray}
/-- the ends -/
theorem rt_i {S : Type} {post : Int32 → S → Prop} {w1 : S → va_W} {v : Int32} (hx : p.tables.exec = Jvm.exec) (hb : c.code = cc) (hr : meth.sig.returnType = some .int) (hlocks : meth.locks = false) (hP : va_P D CL ws H) (hK : va_K D CL (TY dB dN dL) s) (hD : va_D A ws) (hS : va_S A s.heap H locs) (hdg : decode cc pc = .ok (.ireturn, 1)) (u : S) (is : List Nat) (hsub : is.map (fun i => ws[i]?) = (w1 u).map some) (hn : va_nd is = true) (hpost : post v u) : W p l e R s m args below meth c H locs cells slots (MQ below (Qi_ D dB dN dL post w1 A) args s cells slots A) (F0 m pc ls [.int v]) :=
  W.iret (v := v) hx hb hr (fun t ht hW => ⟨⟨v, u, rfl, hpost, by rw [ht]; exact hP.sub is (fm_ hsub), va_K.moved hW.alike hK, hD.sub is hn hsub⟩, hS.F ht⟩) hS.2.2 hdg hlocks
theorem rt_z {S : Type} {post : Int32 → S → Prop} {w1 : S → va_W} {v : Int32} (hx : p.tables.exec = Jvm.exec) (hb : c.code = cc) (hr : meth.sig.returnType = some .boolean) (hlocks : meth.locks = false) (hP : va_P D CL ws H) (hK : va_K D CL (TY dB dN dL) s) (hD : va_D A ws) (hS : va_S A s.heap H locs) (hdg : decode cc pc = .ok (.ireturn, 1)) (hz : narrow .boolean (.int v) = .int v) (u : S) (is : List Nat) (hsub : is.map (fun i => ws[i]?) = (w1 u).map some) (hn : va_nd is = true) (hpost : post v u) : W p l e R s m args below meth c H locs cells slots (MQ below (Qi_ D dB dN dL post w1 A) args s cells slots A) (F0 m pc ls [.int v]) :=
  W.zret (v := v) hx hb hr hz (fun t ht hW => ⟨⟨v, u, rfl, hpost, by rw [ht]; exact hP.sub is (fm_ hsub), va_K.moved hW.alike hK, hD.sub is hn hsub⟩, hS.F ht⟩) hS.2.2 hdg hlocks
theorem rt_l {S : Type} {post : Int64 → S → Prop} {w1 : S → va_W} {v : Int64} (hx : p.tables.exec = Jvm.exec) (hb : c.code = cc) (hr : meth.sig.returnType = some .long) (hlocks : meth.locks = false) (hP : va_P D CL ws H) (hK : va_K D CL (TY dB dN dL) s) (hD : va_D A ws) (hS : va_S A s.heap H locs) (hdg : decode cc pc = .ok (.lreturn, 1)) (u : S) (is : List Nat) (hsub : is.map (fun i => ws[i]?) = (w1 u).map some) (hn : va_nd is = true) (hpost : post v u) : W p l e R s m args below meth c H locs cells slots (MQ below (Ql_ D dB dN dL post w1 A) args s cells slots A) (F0 m pc ls [.long v]) :=
  W.lret (v := v) hx hb hr (fun t ht hW => ⟨⟨v, u, rfl, hpost, by rw [ht]; exact hP.sub is (fm_ hsub), va_K.moved hW.alike hK, hD.sub is hn hsub⟩, hS.F ht⟩) hS.2.2 hdg hlocks
theorem rt_v {S : Type} {post : S → Prop} {w1 : S → va_W} (hx : p.tables.exec = Jvm.exec) (hb : c.code = cc) (hr : meth.sig.returnType = none) (hlocks : meth.locks = false) (hP : va_P D CL ws H) (hK : va_K D CL (TY dB dN dL) s) (hD : va_D A ws) (hS : va_S A s.heap H locs) (hdg : decode cc pc = .ok (.return_, 1)) (u : S) (is : List Nat) (hsub : is.map (fun i => ws[i]?) = (w1 u).map some) (hn : va_nd is = true) (hpost : post u) : W p l e R s m args below meth c H locs cells slots (MQ below (Qv_ D dB dN dL post w1 A) args s cells slots A) (F0 m pc ls []) :=
  W.vret hx hb hr (fun t ht hW => ⟨⟨u, rfl, hpost, by rw [ht]; exact hP.sub is (fm_ hsub), va_K.moved hW.alike hK, hD.sub is hn hsub⟩, hS.F ht⟩) hS.2.2 hdg hlocks
theorem rt_r {S : Type} {post : S → Nat → Prop} {w1 : S → Nat → va_W} {v : Nat} {rt : FieldType} (hx : p.tables.exec = Jvm.exec) (hb : c.code = cc) (hr : meth.sig.returnType = some rt) (hrt : (∃ n, rt = .object n) ∨ ∃ t, rt = .array t) (hlocks : meth.locks = false) (hP : va_P D CL ws H) (hK : va_K D CL (TY dB dN dL) s) (hD : va_D A ws) (hS : va_S A s.heap H locs) (hdg : decode cc pc = .ok (.areturn, 1)) (u : S) (is : List Nat) (hsub : is.map (fun i => ws[i]?) = (w1 u v).map some) (hn : va_nd is = true) (hpost : post u v) : W p l e R s m args below meth c H locs cells slots (MQ below (Qr_ D dB dN dL post w1 A) args s cells slots A) (F0 m pc ls [.ref v]) :=
  W.aret (v := .ref v) hx hb hr hrt (Or.inr ⟨v, rfl⟩) (fun t ht hW => ⟨⟨u, v, rfl, trivial, hpost, by rw [ht]; exact hP.sub is (fm_ hsub), va_K.moved hW.alike hK, hD.sub is hn hsub⟩, hS.F ht⟩) hS.2.2 hdg hlocks
/-- a new array of a class that we know -/
theorem na_ {n : Int32} {N' t0 : Nat} {dA : ClassId} {a0 : vp_A} {tys : List (ClassId × FieldType)} {H0 : Heap} (hx : p.tables.exec = Jvm.exec) (hb : c.code = cc) {atype : ArrayType} {ty : FieldType} (hty : newarray.typeOf atype = ty) (hty2 : ∀ C, ty ≠ .object C) (harr : (Cond.arrayClass ty).before args s = true) (hK : va_K D CL tys s) (ht : tys[t0]? = some (dA, ty)) (hP : va_P D CL ws H) (hD : va_D A ws) (hS : va_S A H0 H locs) (hA : ∀ q : Nat, H0.size ≤ q → A q)
    (ha : ∀ cA : ClassId, vp_cell cA a0 = arrV cA N' (fun _ => defaultValue ty)) (hn : ¬ n < 0) (hN : n.toNatClampNeg = N') (hbytes : N' * componentBytes ty ≤ 536870912) (hcells : cells + 1 ≤ R.cells) (hslots : slots + N' ≤ R.slots) (hdg : decode cc pc = .ok (.newarray atype, 2))
    (kk : ∀ (q : Nat) (H1 : Heap), va_P D CL (ws ++ [(q, .inl (dA, a0))]) H1 → va_D A (ws ++ [(q, .inl (dA, a0))]) → va_S A H0 H1 locs →
      W p l e R s m args below meth c H1 locs (cells + 1) (slots + N') Q (F0 m (pc + 2) ls (.ref q :: rest))) : W p l e R s m args below meth c H locs cells slots Q (F0 m pc ls (.int n :: rest)) := by
  refine va_newa hx hb (by rw [hty]; exact harr) hty hK hP hD hS hA ha hn hN hbytes hcells hslots hdg (fun q cA H1 hK1 hP1 hD1 hS1 => ?_)
  have h1 := (hK.2 t0 _ ht).2
  have h2 := (hK1.2 tys.length (cA, ty) (by rw [List.getElem?_append_right (Nat.le_refl _), Nat.sub_self]; rfl)).2
  have e : cA = dA := by
    cases ty with
    | object C => exact absurd rfl (hty2 C)
    | _ => exact Option.some.inj (h2.symm.trans h1)
  subst e
  exact kk q H1 hP1 hD1 hS1
end OWN
/-- a contract out of its body -/
theorem ct_of {l : Launch} {y : MethodName} {ws : List Cond} {rm : Room} {QQ : (Nat → Prop) → Array Value → State → Outcome → State → Prop} {mc ms sz maxL : Nat} {cc : ByteArray} {ret : Option FieldType} {as : List Value} {w0 : va_W} {D : va_G} {dB dN dL : ClassId}
    (hy : plainName y.cls = true) (hw : ws = Cond.code y cc maxL ret :: lw_all) (hn : (lg_sl as).length ≤ maxL)
    (body : ∀ (p : Program) (e : Env) (s : State) (m : MethodId) (below : List Frame) (meth : Method) (c : Code) (A : Nat → Prop) (ls : Array Slot), p.tables.exec = Jvm.exec → c.code = cc → c.maxLocals = maxL → meth.sig.returnType = ret → meth.locks = false → (∀ w ∈ lw_all, w.before as.toArray s = true) → s.vm.findClass y.cls = some m.cls → meth.name = y.name → va_P D CL w0 s.heap → va_K D CL (TY dB dN dL) s → va_D A w0 → (∀ q : Nat, s.heap.size ≤ q → A q) → xt A s s.heap → va_S A s.heap s.heap [] → lv_has ls maxL (lv_args 0 as) →
      W p l e (headSpec ws rm).room s m as.toArray below meth c s.heap [] 0 0 (MQ below (QQ A) as.toArray s mc ms A) (F0 m 0 ls [])) :
    Met l y ws rm (va_Pc as (pre_ D dB dN dL w0 sz)) (QQ (va_A w0 sz)) mc ms (va_A w0 sz) := by
  refine Met.ofW (cc := cc) (maxL := maxL) (ret := ret) hy hw ?_
  intro p e s m args below meth c s₁ B hml hv
  obtain ⟨rfl, hsz, hP, hK, hD0, hX⟩ := hv
  have hts := atoms_spec (ws := ws) B.pre
  subst hsz
  rw [lg_entry_eq]
  exact body p e s m below meth c (va_A w0 s.heap.size) _ B.exec B.bytes hml B.returns B.notSynchronized (fun w h => hts w (by rw [hw]; exact List.mem_cons_of_mem _ h)) (findClass_of_methodNamed B.named) (name_of_methodNamed B.named B.method).1 hP hK (hD0.self (sz := s.heap.size)) (fun q h => Or.inr h) hX va_S.rf (lv_entry as hn)
/-- a private field of a nest mate's constant object -/
theorem getOFN {p : Program} {l : Launch} {e : Env} {R : Room} {s : State} {m : MethodId} {args : Array Value} {below : List Frame} {meth : Method} {c : Code} {H : Heap} {locs : List Loc} {cells slots : Nat} {Q : State → Prop} {cc : ByteArray} {pc : Nat} {ls : Array Slot} {rest : List Value} {A : Nat → Prop} (hx : p.tables.exec = Jvm.exec) (hb : c.code = cc) {o n d own host : String} {index t : Nat} {v : Value} (hO : va_OF o n d v t A s s.heap) (hS : va_S A s.heap H locs) (hown : s.vm.findClass own = some m.cls) (hlink : (Cond.fieldLinkNest own index o n d host).before args s = true) (hdg : decode cc pc = .ok (.getfield index, 3))
    (kk : W p l e R s m args below meth c H locs cells slots Q (F0 m (pc + 3) ls (v :: rest))) : W p l e R s m args below meth c H locs cells slots Q (F0 m pc ls (.ref t :: rest)) := by
  obtain ⟨cf, k, fi, f, cell, h1, h2, h3, h4, h5, h6⟩ := hO.kept hS.2.1
  exact va_Wgetf hx hb hown hlink h1 h2 h3 h4 (v := v) h5 rfl rfl hdg kk
end
section
/-! more rows of our own, and the numbers of the permutation -/
set_option maxRecDepth 100000
theorem nmTi {p : Program} {l : Launch} {e : Env} {R : Room} {s : State} {m : MethodId} {args : Array Value} {below : List Frame} {meth : Method} {c : Code} {H : Heap} {locs : List Loc} {cells slots : Nat} {Q : State → Prop} {pc : Nat} {ls : Array Slot} {rest : List Value} {a b : Int32} (h : a = b) (k : W p l e R s m args below meth c H locs cells slots Q (F0 m pc ls (.int b :: rest))) : W p l e R s m args below meth c H locs cells slots Q (F0 m pc ls (.int a :: rest)) := by
  rw [h]
  exact k
theorem nmTl {p : Program} {l : Launch} {e : Env} {R : Room} {s : State} {m : MethodId} {args : Array Value} {below : List Frame} {meth : Method} {c : Code} {H : Heap} {locs : List Loc} {cells slots : Nat} {Q : State → Prop} {pc : Nat} {ls : Array Slot} {rest : List Value} {a b : Int64} (h : a = b) (k : W p l e R s m args below meth c H locs cells slots Q (F0 m pc ls (.long b :: rest))) : W p l e R s m args below meth c H locs cells slots Q (F0 m pc ls (.long a :: rest)) := by
  rw [h]
  exact k
theorem lw_U {own C owner : String} {idx : Nat} {x y : MethodName} {b : ByteArray} {L : Nat} {r : Option FieldType} (h1 : Cond.methodLink own idx x ∈ lw_all) (h2 : Cond.sameMethod x.cls owner x.name x.desc ∈ lw_all) (h3 : Cond.selects C x y ∈ lw_all) (h4 : Cond.instanceMethod y ∈ lw_all) (h5 : Cond.initialized y.cls ∈ lw_all) (h6 : Cond.code y b L r ∈ lw_all) : GoodIn lw_all (va_wsU own idx C owner x y (ws_ y b L r)) := by
  refine lw_app ?_ (lw_meth h6)
  intro w hw
  simp only [List.mem_cons, List.not_mem_nil, or_false] at hw
  rcases hw with e | e | e | e | e
  · rw [e]; exact h1
  · rw [e]; exact h2
  · rw [e]; exact h3
  · rw [e]; exact h4
  · rw [e]; exact h5
theorem lw_F {own C : String} {idx : Nat} {x y : MethodName} {b : ByteArray} {L : Nat} {r : Option FieldType} (h1 : Cond.methodLink own idx x ∈ lw_all) (h2 : Cond.selects C x y ∈ lw_all) (h3 : Cond.instanceMethod y ∈ lw_all) (h4 : Cond.initialized y.cls ∈ lw_all) (h5 : Cond.code y b L r ∈ lw_all) : GoodIn lw_all (va_wsF own idx C x y (ws_ y b L r)) := by
  refine lw_app ?_ (lw_meth h5)
  intro w hw
  simp only [List.mem_cons, List.not_mem_nil, or_false] at hw
  rcases hw with e | e | e | e
  · rw [e]; exact h1
  · rw [e]; exact h2
  · rw [e]; exact h3
  · rw [e]; exact h4
/-- a turn to the right, as java.lang.Long has it -/
def rr_ (x : Int64) (d : Int32) : Int64 := (x.toUInt64 >>> (d.toInt64.toUInt64 &&& Int64.toUInt64 63)).toInt64 ||| (x <<< ((-d).toInt64 &&& 63))
/-- the state of five words -/
abbrev P5 : Type := Int64 × Int64 × Int64 × Int64 × Int64
/-- one round of the library's permutation, as its bytecode has it -/
def rnd (C : Int64) (x : P5) : P5 :=
  let y2 : Int64 := x.2.2.1 ^^^ C
  let a : Int64 := x.1 ^^^ x.2.2.2.2
  let b : Int64 := x.2.1 ^^^ y2
  let o : Int64 := x.2.1 ||| y2
  let t0 : Int64 := ((x.2.2.2.1 ^^^ o) ^^^ x.1) ^^^ (x.2.1 &&& a)
  let t1 : Int64 := (a ^^^ (o ||| x.2.2.2.1)) ^^^ ((x.2.1 &&& y2) &&& x.2.2.2.1)
  let t2 : Int64 := b ^^^ (x.2.2.2.2 &&& (x.2.2.2.1 ^^^ (-1)))
  let t3 : Int64 := (x.1 ||| (x.2.2.2.1 ^^^ x.2.2.2.2)) ^^^ b
  let t4 : Int64 := (x.2.2.2.1 ^^^ (x.2.1 ||| x.2.2.2.2)) ^^^ (x.1 &&& x.2.1)
  ((t0 ^^^ rr_ t0 19) ^^^ rr_ t0 28, (t1 ^^^ rr_ t1 39) ^^^ rr_ t1 61, ((t2 ^^^ rr_ t2 1) ^^^ rr_ t2 6) ^^^ (-1), (t3 ^^^ rr_ t3 10) ^^^ rr_ t3 17, (t4 ^^^ rr_ t4 7) ^^^ rr_ t4 41)
/-- the permutation of twelve rounds -/
def pm (x : P5) : P5 := rnd 75 (rnd 90 (rnd 105 (rnd 120 (rnd 135 (rnd 150 (rnd 165 (rnd 180 (rnd 195 (rnd 210 (rnd 225 (rnd 240 x)))))))))))
/-- a place of a walk: any heap that holds the world ws, any locals that hold lv -/
abbrev WG (p : Program) (l : Launch) (e : Env) (R : Room) (s : State) (m : MethodId) (args : Array Value) (below : List Frame) (meth : Method) (c : Code) (D : va_G) (A : Nat → Prop) (cells slots : Nat) (Q : State → Prop) (nL : Nat) (ws : va_W) (lv : List (Nat × Value)) (pc : Nat) : Prop :=
  ∀ (H : Heap) (locs : List Loc) (ls : Array Slot), va_P D CL ws H → va_D A ws → va_S A s.heap H locs → lv_has ls nL lv → W p l e R s m args below meth c H locs cells slots Q (F0 m pc ls [])
theorem ii1 (n : Nat) : nI n + Int32.ofInt 1 = nI (n + 1) := by
  rw [show Int32.ofInt 1 = 1 by decide]
  exact nI_1 n
theorem ii8 (n : Nat) : nI n + Int32.ofInt 8 = nI (n + 8) := by
  rw [show Int32.ofInt 8 = nI 8 by decide]
  exact nI_add n 8
theorem ii6 (n : Nat) : nI n + Int32.ofInt 6 = nI (n + 6) := by
  rw [show Int32.ofInt 6 = nI 6 by decide]
  exact nI_add n 6
theorem cl_f {α : Type} (f : Nat → α) {n : Nat} (h : n < 2 ^ 31) : f (nI n).toNatClampNeg = f n := congrArg f (nI_clamp h)
theorem up_f (f : Nat → Int32) {n : Nat} (x : Int32) (h : n < 2 ^ 31) : upd f (nI n).toNatClampNeg (vp_nar .byte x.toInt8.toInt32) = upd f n x.toInt8.toInt32 := by
  rw [nI_clamp h, pk_vb]
end
section
/-! the permutation: Long, Longs, AsconPermutation -/
set_option maxHeartbeats 4000000 in
set_option maxRecDepth 100000 in
/-- Long.rotateRight -/
theorem m_rotJ (l : Launch) (D : va_G) (dB dN dL : ClassId) (x : Int64) (d : Int32) (sz : Nat)  : Cl_ l yJ5_rotateRight (ws_ yJ5_rotateRight cJ5_rotateRight 3 (some .long)) (rm_ 0 0 0 0) D dB dN dL [.long x, .int d] [] sz (S := Unit) (fun r _ => r = rr_ x d) (fun _ => []) := by
  refine ct_of (cc := cJ5_rotateRight) (maxL := 3) (ret := (some .long)) (by decide) rfl (Nat.le_of_ble_eq_true rfl) (fun p e s m below meth c A ls hx hb hml hr hlocks hts hown hin hP hK hD hA hX hS hl => ?_)
  have hown : s.vm.findClass RJ5 = some m.cls := hown
  have hl : lv_has ls 3 [(0, .long x), (2, .int d)] := hl
  refine lv_lload_n hx hb dJ5_rotateRight_0 rfl (lv_at hl 0 rfl) ?_
  refine lv_iload_n hx hb dJ5_rotateRight_1 rfl (lv_at hl 1 rfl) ?_
  refine lv_lushr hx hb dJ5_rotateRight_2 rfl ?_
  refine lv_lload_n hx hb dJ5_rotateRight_3 rfl (lv_at hl 0 rfl) ?_
  refine lv_iload_n hx hb dJ5_rotateRight_4 rfl (lv_at hl 1 rfl) ?_
  refine lv_ineg hx hb dJ5_rotateRight_5 ?_
  refine lv_lshl hx hb dJ5_rotateRight_6 rfl ?_
  refine lv_lor hx hb dJ5_rotateRight_7 ?_
  exact rt_l hx hb hr hlocks hP hK hD hS dJ5_rotateRight_8 () [] rfl (by decide) rfl

set_option maxHeartbeats 4000000 in
set_option maxRecDepth 100000 in
/-- Longs.rotateRight -/
theorem m_rot (l : Launch) (D : va_G) (dB dN dL : ClassId) (x : Int64) (d : Int32) (sz : Nat)  : Cl_ l yX14_rotateRight (ws_ yX14_rotateRight cX14_rotateRight 3 (some .long)) (rm_ 1 0 0 22) D dB dN dL [.long x, .int d] [] sz (S := Unit) (fun r _ => r = rr_ x d) (fun _ => []) := by
  refine ct_of (cc := cX14_rotateRight) (maxL := 3) (ret := (some .long)) (by decide) rfl (Nat.le_of_ble_eq_true rfl) (fun p e s m below meth c A ls hx hb hml hr hlocks hts hown hin hP hK hD hA hX hS hl => ?_)
  have hown : s.vm.findClass RX14 = some m.cls := hown
  have hl : lv_has ls 3 [(0, .long x), (2, .int d)] := hl
  refine lv_lload_n hx hb dX14_rotateRight_0 rfl (lv_at hl 0 rfl) ?_
  refine lv_iload_n hx hb dX14_rotateRight_1 rfl (lv_at hl 1 rfl) ?_
  refine cl_l [] [] [] [] rfl rfl (by decide) (by decide) hP hD hS hA (va_runS (As := [.long x, .int d]) (rest := []) ⟨hx, hb, hml, hown, hts⟩ (m_rotJ l D dB dN dL x d _) (va_cwS 2 hts (lw_S q392 q393 q30 q394) rfl rfl rfl (by decide +kernel) ⟨Nat.le_of_ble_eq_true rfl, Nat.le_of_ble_eq_true rfl⟩) (pv_ (As := [.long x, .int d]) [] rfl (by decide) hP hK hD hS hA hX) rfl rfl hl.1 rfl (lv_room (Nat.le_of_ble_eq_true rfl)) dX14_rotateRight_2 ⟨Nat.le_of_ble_eq_true rfl, Nat.le_of_ble_eq_true rfl⟩) (fun r_3 u_1 H locs hw_2 hP hD hS => ?_)
  have hP : va_P D CL [] H := hP
  have hD : va_D A [] := hD
  exact rt_l hx hb hr hlocks hP hK hD hS dX14_rotateRight_5 () [] rfl (by decide) hw_2

set_option maxHeartbeats 4000000 in
set_option maxRecDepth 100000 in
/-- AsconPermutation(): nothing changes -/
theorem m_permI (l : Launch) (D : va_G) (dB dN dL : ClassId) (h0 : Nat) (x : P5) (sz : Nat)  : Cv_ l yX8_init (ws_ yX8_init cX8_init 1 none) (rm_ 1 0 0 12) D dB dN dL [.ref h0] [(h0, .inr (3, [.long x.1, .long x.2.1, .long x.2.2.1, .long x.2.2.2.1, .long x.2.2.2.2]))] sz (S := Unit) (fun _ => True) (fun _ => [(h0, .inr (3, [.long x.1, .long x.2.1, .long x.2.2.1, .long x.2.2.2.1, .long x.2.2.2.2]))]) := by
  refine ct_of (cc := cX8_init) (maxL := 1) (ret := none) (by decide) rfl (Nat.le_of_ble_eq_true rfl) (fun p e s m below meth c A ls hx hb hml hr hlocks hts hown hin hP hK hD hA hX hS hl => ?_)
  have hown : s.vm.findClass RX8 = some m.cls := hown
  have hl : lv_has ls 1 [(0, .ref h0)] := hl
  refine lv_aload_n hx hb dX8_init_0 rfl (lv_at hl 0 rfl) ?_
  refine W.objInit hx hb hown (hts _ q160) (hts _ q38) (hts _ q39) rfl (by rw [hml]; exact hl.1) rfl dX8_init_1 (Nat.le_of_ble_eq_true rfl) (Nat.le_of_ble_eq_true rfl) ?_
  refine W.eq (g2 := F0 m 4 ls []) rfl ?_
  exact rt_v hx hb hr hlocks hP hK hD hS dX8_init_4 () [0] rfl (by decide) trivial

set_option maxHeartbeats 4000000 in
set_option maxRecDepth 100000 in
/-- AsconPermutation.set -/
theorem m_set (l : Launch) (D : va_G) (dB dN dL : ClassId) (h0 : Nat) (x y : P5) (sz : Nat)  : Cv_ l yX8_set (ws_ yX8_set cX8_set 11 none) (rm_ 0 0 0 0) D dB dN dL [.ref h0, .long y.1, .long y.2.1, .long y.2.2.1, .long y.2.2.2.1, .long y.2.2.2.2] [(h0, .inr (3, [.long x.1, .long x.2.1, .long x.2.2.1, .long x.2.2.2.1, .long x.2.2.2.2]))] sz (S := Unit) (fun _ => True) (fun _ => [(h0, .inr (3, [.long y.1, .long y.2.1, .long y.2.2.1, .long y.2.2.2.1, .long y.2.2.2.2]))]) := by
  refine ct_of (cc := cX8_set) (maxL := 11) (ret := none) (by decide) rfl (Nat.le_of_ble_eq_true rfl) (fun p e s m below meth c A ls hx hb hml hr hlocks hts hown hin hP hK hD hA hX hS hl => ?_)
  have hown : s.vm.findClass RX8 = some m.cls := hown
  have hl : lv_has ls 11 [(0, .ref h0), (1, .long y.1), (3, .long y.2.1), (5, .long y.2.2.1), (7, .long y.2.2.2.1), (9, .long y.2.2.2.2)] := hl
  refine lv_aload_n hx hb dX8_set_0 rfl (lv_at hl 0 rfl) ?_
  refine lv_lload_n hx hb dX8_set_1 rfl (lv_at hl 1 rfl) ?_
  refine va_put (D := D) (ci := 3) (v := .long y.1) (ty := .long) (C := RX8) (T := TX8) (N := 5) hx hb hts in_X8 tyX8 tyX8_ok nmX8 hown hK hP hD hS 0 rfl rfl 0 (by decide) (hts _ q161) (fun _ h9 => h9) rfl (by decide +kernel) rfl rfl (Nat.le_of_ble_eq_true rfl) dX8_set_2 (fun H locs hP hD hS => ?_)
  have hP : va_P D CL [(h0, .inr (3, [.long y.1, .long x.2.1, .long x.2.2.1, .long x.2.2.2.1, .long x.2.2.2.2]))] H := hP
  have hD : va_D A [(h0, .inr (3, [.long y.1, .long x.2.1, .long x.2.2.1, .long x.2.2.2.1, .long x.2.2.2.2]))] := hD
  refine lv_aload_n hx hb dX8_set_5 rfl (lv_at hl 0 rfl) ?_
  refine lv_lload_n hx hb dX8_set_6 rfl (lv_at hl 2 rfl) ?_
  refine va_put (D := D) (ci := 3) (v := .long y.2.1) (ty := .long) (C := RX8) (T := TX8) (N := 5) hx hb hts in_X8 tyX8 tyX8_ok nmX8 hown hK hP hD hS 0 rfl rfl 1 (by decide) (hts _ q163) (fun _ h9 => h9) rfl (by decide +kernel) rfl rfl (Nat.le_of_ble_eq_true rfl) dX8_set_7 (fun H locs hP hD hS => ?_)
  have hP : va_P D CL [(h0, .inr (3, [.long y.1, .long y.2.1, .long x.2.2.1, .long x.2.2.2.1, .long x.2.2.2.2]))] H := hP
  have hD : va_D A [(h0, .inr (3, [.long y.1, .long y.2.1, .long x.2.2.1, .long x.2.2.2.1, .long x.2.2.2.2]))] := hD
  refine lv_aload_n hx hb dX8_set_10 rfl (lv_at hl 0 rfl) ?_
  refine lv_lload hx hb dX8_set_11 (lv_at hl 3 rfl) ?_
  refine va_put (D := D) (ci := 3) (v := .long y.2.2.1) (ty := .long) (C := RX8) (T := TX8) (N := 5) hx hb hts in_X8 tyX8 tyX8_ok nmX8 hown hK hP hD hS 0 rfl rfl 2 (by decide) (hts _ q164) (fun _ h9 => h9) rfl (by decide +kernel) rfl rfl (Nat.le_of_ble_eq_true rfl) dX8_set_13 (fun H locs hP hD hS => ?_)
  have hP : va_P D CL [(h0, .inr (3, [.long y.1, .long y.2.1, .long y.2.2.1, .long x.2.2.2.1, .long x.2.2.2.2]))] H := hP
  have hD : va_D A [(h0, .inr (3, [.long y.1, .long y.2.1, .long y.2.2.1, .long x.2.2.2.1, .long x.2.2.2.2]))] := hD
  refine lv_aload_n hx hb dX8_set_16 rfl (lv_at hl 0 rfl) ?_
  refine lv_lload hx hb dX8_set_17 (lv_at hl 4 rfl) ?_
  refine va_put (D := D) (ci := 3) (v := .long y.2.2.2.1) (ty := .long) (C := RX8) (T := TX8) (N := 5) hx hb hts in_X8 tyX8 tyX8_ok nmX8 hown hK hP hD hS 0 rfl rfl 3 (by decide) (hts _ q165) (fun _ h9 => h9) rfl (by decide +kernel) rfl rfl (Nat.le_of_ble_eq_true rfl) dX8_set_19 (fun H locs hP hD hS => ?_)
  have hP : va_P D CL [(h0, .inr (3, [.long y.1, .long y.2.1, .long y.2.2.1, .long y.2.2.2.1, .long x.2.2.2.2]))] H := hP
  have hD : va_D A [(h0, .inr (3, [.long y.1, .long y.2.1, .long y.2.2.1, .long y.2.2.2.1, .long x.2.2.2.2]))] := hD
  refine lv_aload_n hx hb dX8_set_22 rfl (lv_at hl 0 rfl) ?_
  refine lv_lload hx hb dX8_set_23 (lv_at hl 5 rfl) ?_
  refine va_put (D := D) (ci := 3) (v := .long y.2.2.2.2) (ty := .long) (C := RX8) (T := TX8) (N := 5) hx hb hts in_X8 tyX8 tyX8_ok nmX8 hown hK hP hD hS 0 rfl rfl 4 (by decide) (hts _ q166) (fun _ h9 => h9) rfl (by decide +kernel) rfl rfl (Nat.le_of_ble_eq_true rfl) dX8_set_25 (fun H locs hP hD hS => ?_)
  have hP : va_P D CL [(h0, .inr (3, [.long y.1, .long y.2.1, .long y.2.2.1, .long y.2.2.2.1, .long y.2.2.2.2]))] H := hP
  have hD : va_D A [(h0, .inr (3, [.long y.1, .long y.2.1, .long y.2.2.1, .long y.2.2.2.1, .long y.2.2.2.2]))] := hD
  exact rt_v hx hb hr hlocks hP hK hD hS dX8_set_28 () [0] rfl (by decide) trivial

set_option maxHeartbeats 4000000 in
set_option maxRecDepth 100000 in
/-- AsconPermutation.round: one round -/
theorem m_round (l : Launch) (D : va_G) (dB dN dL : ClassId) (h0 : Nat) (x : P5) (C : Int64) (sz : Nat)  : Cv_ l yX8_round (ws_ yX8_round cX8_round 19 none) (rm_ 2 0 0 44) D dB dN dL [.ref h0, .long C] [(h0, .inr (3, [.long x.1, .long x.2.1, .long x.2.2.1, .long x.2.2.2.1, .long x.2.2.2.2]))] sz (S := P5) (fun u => u = rnd C x) (fun u => [(h0, .inr (3, [.long u.1, .long u.2.1, .long u.2.2.1, .long u.2.2.2.1, .long u.2.2.2.2]))]) := by
  refine ct_of (cc := cX8_round) (maxL := 19) (ret := none) (by decide) rfl (Nat.le_of_ble_eq_true rfl) (fun p e s m below meth c A ls hx hb hml hr hlocks hts hown hin hP hK hD hA hX hS hl => ?_)
  have hown : s.vm.findClass RX8 = some m.cls := hown
  have hl : lv_has ls 19 [(0, .ref h0), (1, .long C)] := hl
  refine lv_aload_n hx hb dX8_round_0 rfl (lv_at hl 0 rfl) ?_
  refine lv_dup hx hb dX8_round_1 rfl ?_
  refine va_get (D := D) (ci := 3) (v := .long x.2.2.1) (C := RX8) (T := TX8) (N := 5) hx hb hts in_X8 hown hK hP 0 rfl rfl 2 (by decide) (hts _ q164) (fun _ h9 => h9) rfl dX8_round_2 ?_
  refine lv_lload_n hx hb dX8_round_5 rfl (lv_at hl 1 rfl) ?_
  refine lv_lxor hx hb dX8_round_6 ?_
  refine lv_topl (fun v_1 ev_1 => ?_)
  refine va_put (D := D) (ci := 3) (v := .long v_1) (ty := .long) (C := RX8) (T := TX8) (N := 5) hx hb hts in_X8 tyX8 tyX8_ok nmX8 hown hK hP hD hS 0 rfl rfl 2 (by decide) (hts _ q164) (fun _ h9 => h9) rfl (by decide +kernel) rfl rfl (Nat.le_of_ble_eq_true rfl) dX8_round_7 (fun H locs hP hD hS => ?_)
  have hP : va_P D CL [(h0, .inr (3, [.long x.1, .long x.2.1, .long v_1, .long x.2.2.2.1, .long x.2.2.2.2]))] H := hP
  have hD : va_D A [(h0, .inr (3, [.long x.1, .long x.2.1, .long v_1, .long x.2.2.2.1, .long x.2.2.2.2]))] := hD
  refine lv_aload_n hx hb dX8_round_10 rfl (lv_at hl 0 rfl) ?_
  refine va_get (D := D) (ci := 3) (v := .long x.1) (C := RX8) (T := TX8) (N := 5) hx hb hts in_X8 hown hK hP 0 rfl rfl 0 (by decide) (hts _ q161) (fun _ h9 => h9) rfl dX8_round_11 ?_
  refine lv_aload_n hx hb dX8_round_14 rfl (lv_at hl 0 rfl) ?_
  refine va_get (D := D) (ci := 3) (v := .long x.2.2.2.2) (C := RX8) (T := TX8) (N := 5) hx hb hts in_X8 hown hK hP 0 rfl rfl 4 (by decide) (hts _ q166) (fun _ h9 => h9) rfl dX8_round_15 ?_
  refine lv_lxor hx hb dX8_round_18 ?_
  refine lv_topl (fun v_2 ev_2 => ?_)
  refine lv_lstore_n (lv' := [(3, .long v_2), (0, .ref h0), (1, .long C)]) hx hb dX8_round_19 rfl hl (by decide) rfl (fun ls hl => ?_)
  refine lv_aload_n hx hb dX8_round_20 rfl (lv_at hl 1 rfl) ?_
  refine va_get (D := D) (ci := 3) (v := .long x.2.1) (C := RX8) (T := TX8) (N := 5) hx hb hts in_X8 hown hK hP 0 rfl rfl 1 (by decide) (hts _ q163) (fun _ h9 => h9) rfl dX8_round_21 ?_
  refine lv_aload_n hx hb dX8_round_24 rfl (lv_at hl 1 rfl) ?_
  refine va_get (D := D) (ci := 3) (v := .long v_1) (C := RX8) (T := TX8) (N := 5) hx hb hts in_X8 hown hK hP 0 rfl rfl 2 (by decide) (hts _ q164) (fun _ h9 => h9) rfl dX8_round_25 ?_
  refine lv_lxor hx hb dX8_round_28 ?_
  refine lv_topl (fun v_3 ev_3 => ?_)
  refine lv_lstore (lv' := [(5, .long v_3), (3, .long v_2), (0, .ref h0), (1, .long C)]) hx hb dX8_round_29 hl (by decide) rfl (fun ls hl => ?_)
  refine lv_aload_n hx hb dX8_round_31 rfl (lv_at hl 2 rfl) ?_
  refine va_get (D := D) (ci := 3) (v := .long x.2.1) (C := RX8) (T := TX8) (N := 5) hx hb hts in_X8 hown hK hP 0 rfl rfl 1 (by decide) (hts _ q163) (fun _ h9 => h9) rfl dX8_round_32 ?_
  refine lv_aload_n hx hb dX8_round_35 rfl (lv_at hl 2 rfl) ?_
  refine va_get (D := D) (ci := 3) (v := .long v_1) (C := RX8) (T := TX8) (N := 5) hx hb hts in_X8 hown hK hP 0 rfl rfl 2 (by decide) (hts _ q164) (fun _ h9 => h9) rfl dX8_round_36 ?_
  refine lv_lor hx hb dX8_round_39 ?_
  refine lv_topl (fun v_4 ev_4 => ?_)
  refine lv_lstore (lv' := [(7, .long v_4), (5, .long v_3), (3, .long v_2), (0, .ref h0), (1, .long C)]) hx hb dX8_round_40 hl (by decide) rfl (fun ls hl => ?_)
  refine lv_aload_n hx hb dX8_round_42 rfl (lv_at hl 3 rfl) ?_
  refine va_get (D := D) (ci := 3) (v := .long x.2.2.2.1) (C := RX8) (T := TX8) (N := 5) hx hb hts in_X8 hown hK hP 0 rfl rfl 3 (by decide) (hts _ q165) (fun _ h9 => h9) rfl dX8_round_43 ?_
  refine lv_lload hx hb dX8_round_46 (lv_at hl 0 rfl) ?_
  refine lv_lxor hx hb dX8_round_48 ?_
  refine lv_aload_n hx hb dX8_round_49 rfl (lv_at hl 3 rfl) ?_
  refine va_get (D := D) (ci := 3) (v := .long x.1) (C := RX8) (T := TX8) (N := 5) hx hb hts in_X8 hown hK hP 0 rfl rfl 0 (by decide) (hts _ q161) (fun _ h9 => h9) rfl dX8_round_50 ?_
  refine lv_lxor hx hb dX8_round_53 ?_
  refine lv_aload_n hx hb dX8_round_54 rfl (lv_at hl 3 rfl) ?_
  refine va_get (D := D) (ci := 3) (v := .long x.2.1) (C := RX8) (T := TX8) (N := 5) hx hb hts in_X8 hown hK hP 0 rfl rfl 1 (by decide) (hts _ q163) (fun _ h9 => h9) rfl dX8_round_55 ?_
  refine lv_lload_n hx hb dX8_round_58 rfl (lv_at hl 2 rfl) ?_
  refine lv_land hx hb dX8_round_59 ?_
  refine lv_lxor hx hb dX8_round_60 ?_
  refine lv_topl (fun v_5 ev_5 => ?_)
  refine lv_lstore (lv' := [(9, .long v_5), (7, .long v_4), (5, .long v_3), (3, .long v_2), (0, .ref h0), (1, .long C)]) hx hb dX8_round_61 hl (by decide) rfl (fun ls hl => ?_)
  refine lv_lload_n hx hb dX8_round_63 rfl (lv_at hl 3 rfl) ?_
  refine lv_lload hx hb dX8_round_64 (lv_at hl 1 rfl) ?_
  refine lv_aload_n hx hb dX8_round_66 rfl (lv_at hl 4 rfl) ?_
  refine va_get (D := D) (ci := 3) (v := .long x.2.2.2.1) (C := RX8) (T := TX8) (N := 5) hx hb hts in_X8 hown hK hP 0 rfl rfl 3 (by decide) (hts _ q165) (fun _ h9 => h9) rfl dX8_round_67 ?_
  refine lv_lor hx hb dX8_round_70 ?_
  refine lv_lxor hx hb dX8_round_71 ?_
  refine lv_aload_n hx hb dX8_round_72 rfl (lv_at hl 4 rfl) ?_
  refine va_get (D := D) (ci := 3) (v := .long x.2.1) (C := RX8) (T := TX8) (N := 5) hx hb hts in_X8 hown hK hP 0 rfl rfl 1 (by decide) (hts _ q163) (fun _ h9 => h9) rfl dX8_round_73 ?_
  refine lv_aload_n hx hb dX8_round_76 rfl (lv_at hl 4 rfl) ?_
  refine va_get (D := D) (ci := 3) (v := .long v_1) (C := RX8) (T := TX8) (N := 5) hx hb hts in_X8 hown hK hP 0 rfl rfl 2 (by decide) (hts _ q164) (fun _ h9 => h9) rfl dX8_round_77 ?_
  refine lv_land hx hb dX8_round_80 ?_
  refine lv_aload_n hx hb dX8_round_81 rfl (lv_at hl 4 rfl) ?_
  refine va_get (D := D) (ci := 3) (v := .long x.2.2.2.1) (C := RX8) (T := TX8) (N := 5) hx hb hts in_X8 hown hK hP 0 rfl rfl 3 (by decide) (hts _ q165) (fun _ h9 => h9) rfl dX8_round_82 ?_
  refine lv_land hx hb dX8_round_85 ?_
  refine lv_lxor hx hb dX8_round_86 ?_
  refine lv_topl (fun v_6 ev_6 => ?_)
  refine lv_lstore (lv' := [(11, .long v_6), (9, .long v_5), (7, .long v_4), (5, .long v_3), (3, .long v_2), (0, .ref h0), (1, .long C)]) hx hb dX8_round_87 hl (by decide) rfl (fun ls hl => ?_)
  refine lv_lload hx hb dX8_round_89 (lv_at hl 3 rfl) ?_
  refine lv_aload_n hx hb dX8_round_91 rfl (lv_at hl 5 rfl) ?_
  refine va_get (D := D) (ci := 3) (v := .long x.2.2.2.2) (C := RX8) (T := TX8) (N := 5) hx hb hts in_X8 hown hK hP 0 rfl rfl 4 (by decide) (hts _ q166) (fun _ h9 => h9) rfl dX8_round_92 ?_
  refine lv_aload_n hx hb dX8_round_95 rfl (lv_at hl 5 rfl) ?_
  refine va_get (D := D) (ci := 3) (v := .long x.2.2.2.1) (C := RX8) (T := TX8) (N := 5) hx hb hts in_X8 hown hK hP 0 rfl rfl 3 (by decide) (hts _ q165) (fun _ h9 => h9) rfl dX8_round_96 ?_
  refine lv_ldc2 (v := (-1)) hx hb hown (hts _ q388) dX8_round_99 ?_
  refine lv_lxor hx hb dX8_round_102 ?_
  refine lv_land hx hb dX8_round_103 ?_
  refine lv_lxor hx hb dX8_round_104 ?_
  refine lv_topl (fun v_7 ev_7 => ?_)
  refine lv_lstore (lv' := [(13, .long v_7), (11, .long v_6), (9, .long v_5), (7, .long v_4), (5, .long v_3), (3, .long v_2), (0, .ref h0), (1, .long C)]) hx hb dX8_round_105 hl (by decide) rfl (fun ls hl => ?_)
  refine lv_aload_n hx hb dX8_round_107 rfl (lv_at hl 6 rfl) ?_
  refine va_get (D := D) (ci := 3) (v := .long x.1) (C := RX8) (T := TX8) (N := 5) hx hb hts in_X8 hown hK hP 0 rfl rfl 0 (by decide) (hts _ q161) (fun _ h9 => h9) rfl dX8_round_108 ?_
  refine lv_aload_n hx hb dX8_round_111 rfl (lv_at hl 6 rfl) ?_
  refine va_get (D := D) (ci := 3) (v := .long x.2.2.2.1) (C := RX8) (T := TX8) (N := 5) hx hb hts in_X8 hown hK hP 0 rfl rfl 3 (by decide) (hts _ q165) (fun _ h9 => h9) rfl dX8_round_112 ?_
  refine lv_aload_n hx hb dX8_round_115 rfl (lv_at hl 6 rfl) ?_
  refine va_get (D := D) (ci := 3) (v := .long x.2.2.2.2) (C := RX8) (T := TX8) (N := 5) hx hb hts in_X8 hown hK hP 0 rfl rfl 4 (by decide) (hts _ q166) (fun _ h9 => h9) rfl dX8_round_116 ?_
  refine lv_lxor hx hb dX8_round_119 ?_
  refine lv_lor hx hb dX8_round_120 ?_
  refine lv_lload hx hb dX8_round_121 (lv_at hl 4 rfl) ?_
  refine lv_lxor hx hb dX8_round_123 ?_
  refine lv_topl (fun v_8 ev_8 => ?_)
  refine lv_lstore (lv' := [(15, .long v_8), (13, .long v_7), (11, .long v_6), (9, .long v_5), (7, .long v_4), (5, .long v_3), (3, .long v_2), (0, .ref h0), (1, .long C)]) hx hb dX8_round_124 hl (by decide) rfl (fun ls hl => ?_)
  refine lv_aload_n hx hb dX8_round_126 rfl (lv_at hl 7 rfl) ?_
  refine va_get (D := D) (ci := 3) (v := .long x.2.2.2.1) (C := RX8) (T := TX8) (N := 5) hx hb hts in_X8 hown hK hP 0 rfl rfl 3 (by decide) (hts _ q165) (fun _ h9 => h9) rfl dX8_round_127 ?_
  refine lv_aload_n hx hb dX8_round_130 rfl (lv_at hl 7 rfl) ?_
  refine va_get (D := D) (ci := 3) (v := .long x.2.1) (C := RX8) (T := TX8) (N := 5) hx hb hts in_X8 hown hK hP 0 rfl rfl 1 (by decide) (hts _ q163) (fun _ h9 => h9) rfl dX8_round_131 ?_
  refine lv_aload_n hx hb dX8_round_134 rfl (lv_at hl 7 rfl) ?_
  refine va_get (D := D) (ci := 3) (v := .long x.2.2.2.2) (C := RX8) (T := TX8) (N := 5) hx hb hts in_X8 hown hK hP 0 rfl rfl 4 (by decide) (hts _ q166) (fun _ h9 => h9) rfl dX8_round_135 ?_
  refine lv_lor hx hb dX8_round_138 ?_
  refine lv_lxor hx hb dX8_round_139 ?_
  refine lv_aload_n hx hb dX8_round_140 rfl (lv_at hl 7 rfl) ?_
  refine va_get (D := D) (ci := 3) (v := .long x.1) (C := RX8) (T := TX8) (N := 5) hx hb hts in_X8 hown hK hP 0 rfl rfl 0 (by decide) (hts _ q161) (fun _ h9 => h9) rfl dX8_round_141 ?_
  refine lv_aload_n hx hb dX8_round_144 rfl (lv_at hl 7 rfl) ?_
  refine va_get (D := D) (ci := 3) (v := .long x.2.1) (C := RX8) (T := TX8) (N := 5) hx hb hts in_X8 hown hK hP 0 rfl rfl 1 (by decide) (hts _ q163) (fun _ h9 => h9) rfl dX8_round_145 ?_
  refine lv_land hx hb dX8_round_148 ?_
  refine lv_lxor hx hb dX8_round_149 ?_
  refine lv_topl (fun v_9 ev_9 => ?_)
  refine lv_lstore (lv' := [(17, .long v_9), (15, .long v_8), (13, .long v_7), (11, .long v_6), (9, .long v_5), (7, .long v_4), (5, .long v_3), (3, .long v_2), (0, .ref h0), (1, .long C)]) hx hb dX8_round_150 hl (by decide) rfl (fun ls hl => ?_)
  refine lv_aload_n hx hb dX8_round_152 rfl (lv_at hl 8 rfl) ?_
  refine lv_lload hx hb dX8_round_153 (lv_at hl 4 rfl) ?_
  refine lv_lload hx hb dX8_round_155 (lv_at hl 4 rfl) ?_
  refine lv_bipush (v := 19) hx hb dX8_round_157 (by decide) ?_
  refine cl_l [] [(h0, .inr (3, [.long x.1, .long x.2.1, .long v_1, .long x.2.2.2.1, .long x.2.2.2.2]))] [] [0] rfl rfl (by decide) (by decide) hP hD hS hA (va_runS (As := [.long v_5, .int 19]) (rest := [.long v_5, .ref h0]) ⟨hx, hb, hml, hown, hts⟩ (m_rot l D dB dN dL v_5 19 _) (va_cwS 2 hts (lw_S q389 q390 q29 q391) rfl rfl rfl (by decide +kernel) ⟨Nat.le_of_ble_eq_true rfl, Nat.le_of_ble_eq_true rfl⟩) (pv_ (As := [.long v_5, .int 19]) [] rfl (by decide) hP hK hD hS hA hX) rfl rfl hl.1 rfl (lv_room (Nat.le_of_ble_eq_true rfl)) dX8_round_159 ⟨Nat.le_of_ble_eq_true rfl, Nat.le_of_ble_eq_true rfl⟩) (fun r_12 u_10 H locs hw_11 hP hD hS => ?_)
  have hP : va_P D CL [(h0, .inr (3, [.long x.1, .long x.2.1, .long v_1, .long x.2.2.2.1, .long x.2.2.2.2]))] H := hP
  have hD : va_D A [(h0, .inr (3, [.long x.1, .long x.2.1, .long v_1, .long x.2.2.2.1, .long x.2.2.2.2]))] := hD
  refine lv_lxor hx hb dX8_round_162 ?_
  refine lv_lload hx hb dX8_round_163 (lv_at hl 4 rfl) ?_
  refine lv_bipush (v := 28) hx hb dX8_round_165 (by decide) ?_
  refine cl_l [] [(h0, .inr (3, [.long x.1, .long x.2.1, .long v_1, .long x.2.2.2.1, .long x.2.2.2.2]))] [] [0] rfl rfl (by decide) (by decide) hP hD hS hA (va_runS (As := [.long v_5, .int 28]) (rest := [.long (v_5 ^^^ r_12), .ref h0]) ⟨hx, hb, hml, hown, hts⟩ (m_rot l D dB dN dL v_5 28 _) (va_cwS 2 hts (lw_S q389 q390 q29 q391) rfl rfl rfl (by decide +kernel) ⟨Nat.le_of_ble_eq_true rfl, Nat.le_of_ble_eq_true rfl⟩) (pv_ (As := [.long v_5, .int 28]) [] rfl (by decide) hP hK hD hS hA hX) rfl rfl hl.1 rfl (lv_room (Nat.le_of_ble_eq_true rfl)) dX8_round_167 ⟨Nat.le_of_ble_eq_true rfl, Nat.le_of_ble_eq_true rfl⟩) (fun r_15 u_13 H locs hw_14 hP hD hS => ?_)
  have hP : va_P D CL [(h0, .inr (3, [.long x.1, .long x.2.1, .long v_1, .long x.2.2.2.1, .long x.2.2.2.2]))] H := hP
  have hD : va_D A [(h0, .inr (3, [.long x.1, .long x.2.1, .long v_1, .long x.2.2.2.1, .long x.2.2.2.2]))] := hD
  refine lv_lxor hx hb dX8_round_170 ?_
  refine lv_topl (fun v_16 ev_16 => ?_)
  refine va_put (D := D) (ci := 3) (v := .long v_16) (ty := .long) (C := RX8) (T := TX8) (N := 5) hx hb hts in_X8 tyX8 tyX8_ok nmX8 hown hK hP hD hS 0 rfl rfl 0 (by decide) (hts _ q161) (fun _ h9 => h9) rfl (by decide +kernel) rfl rfl (Nat.le_of_ble_eq_true rfl) dX8_round_171 (fun H locs hP hD hS => ?_)
  have hP : va_P D CL [(h0, .inr (3, [.long v_16, .long x.2.1, .long v_1, .long x.2.2.2.1, .long x.2.2.2.2]))] H := hP
  have hD : va_D A [(h0, .inr (3, [.long v_16, .long x.2.1, .long v_1, .long x.2.2.2.1, .long x.2.2.2.2]))] := hD
  refine lv_aload_n hx hb dX8_round_174 rfl (lv_at hl 8 rfl) ?_
  refine lv_lload hx hb dX8_round_175 (lv_at hl 3 rfl) ?_
  refine lv_lload hx hb dX8_round_177 (lv_at hl 3 rfl) ?_
  refine lv_bipush (v := 39) hx hb dX8_round_179 (by decide) ?_
  refine cl_l [] [(h0, .inr (3, [.long v_16, .long x.2.1, .long v_1, .long x.2.2.2.1, .long x.2.2.2.2]))] [] [0] rfl rfl (by decide) (by decide) hP hD hS hA (va_runS (As := [.long v_6, .int 39]) (rest := [.long v_6, .ref h0]) ⟨hx, hb, hml, hown, hts⟩ (m_rot l D dB dN dL v_6 39 _) (va_cwS 2 hts (lw_S q389 q390 q29 q391) rfl rfl rfl (by decide +kernel) ⟨Nat.le_of_ble_eq_true rfl, Nat.le_of_ble_eq_true rfl⟩) (pv_ (As := [.long v_6, .int 39]) [] rfl (by decide) hP hK hD hS hA hX) rfl rfl hl.1 rfl (lv_room (Nat.le_of_ble_eq_true rfl)) dX8_round_181 ⟨Nat.le_of_ble_eq_true rfl, Nat.le_of_ble_eq_true rfl⟩) (fun r_19 u_17 H locs hw_18 hP hD hS => ?_)
  have hP : va_P D CL [(h0, .inr (3, [.long v_16, .long x.2.1, .long v_1, .long x.2.2.2.1, .long x.2.2.2.2]))] H := hP
  have hD : va_D A [(h0, .inr (3, [.long v_16, .long x.2.1, .long v_1, .long x.2.2.2.1, .long x.2.2.2.2]))] := hD
  refine lv_lxor hx hb dX8_round_184 ?_
  refine lv_lload hx hb dX8_round_185 (lv_at hl 3 rfl) ?_
  refine lv_bipush (v := 61) hx hb dX8_round_187 (by decide) ?_
  refine cl_l [] [(h0, .inr (3, [.long v_16, .long x.2.1, .long v_1, .long x.2.2.2.1, .long x.2.2.2.2]))] [] [0] rfl rfl (by decide) (by decide) hP hD hS hA (va_runS (As := [.long v_6, .int 61]) (rest := [.long (v_6 ^^^ r_19), .ref h0]) ⟨hx, hb, hml, hown, hts⟩ (m_rot l D dB dN dL v_6 61 _) (va_cwS 2 hts (lw_S q389 q390 q29 q391) rfl rfl rfl (by decide +kernel) ⟨Nat.le_of_ble_eq_true rfl, Nat.le_of_ble_eq_true rfl⟩) (pv_ (As := [.long v_6, .int 61]) [] rfl (by decide) hP hK hD hS hA hX) rfl rfl hl.1 rfl (lv_room (Nat.le_of_ble_eq_true rfl)) dX8_round_189 ⟨Nat.le_of_ble_eq_true rfl, Nat.le_of_ble_eq_true rfl⟩) (fun r_22 u_20 H locs hw_21 hP hD hS => ?_)
  have hP : va_P D CL [(h0, .inr (3, [.long v_16, .long x.2.1, .long v_1, .long x.2.2.2.1, .long x.2.2.2.2]))] H := hP
  have hD : va_D A [(h0, .inr (3, [.long v_16, .long x.2.1, .long v_1, .long x.2.2.2.1, .long x.2.2.2.2]))] := hD
  refine lv_lxor hx hb dX8_round_192 ?_
  refine lv_topl (fun v_23 ev_23 => ?_)
  refine va_put (D := D) (ci := 3) (v := .long v_23) (ty := .long) (C := RX8) (T := TX8) (N := 5) hx hb hts in_X8 tyX8 tyX8_ok nmX8 hown hK hP hD hS 0 rfl rfl 1 (by decide) (hts _ q163) (fun _ h9 => h9) rfl (by decide +kernel) rfl rfl (Nat.le_of_ble_eq_true rfl) dX8_round_193 (fun H locs hP hD hS => ?_)
  have hP : va_P D CL [(h0, .inr (3, [.long v_16, .long v_23, .long v_1, .long x.2.2.2.1, .long x.2.2.2.2]))] H := hP
  have hD : va_D A [(h0, .inr (3, [.long v_16, .long v_23, .long v_1, .long x.2.2.2.1, .long x.2.2.2.2]))] := hD
  refine lv_aload_n hx hb dX8_round_196 rfl (lv_at hl 8 rfl) ?_
  refine lv_lload hx hb dX8_round_197 (lv_at hl 2 rfl) ?_
  refine lv_lload hx hb dX8_round_199 (lv_at hl 2 rfl) ?_
  refine lv_iconst (v := 1) hx hb dX8_round_201 (by decide) ?_
  refine cl_l [] [(h0, .inr (3, [.long v_16, .long v_23, .long v_1, .long x.2.2.2.1, .long x.2.2.2.2]))] [] [0] rfl rfl (by decide) (by decide) hP hD hS hA (va_runS (As := [.long v_7, .int 1]) (rest := [.long v_7, .ref h0]) ⟨hx, hb, hml, hown, hts⟩ (m_rot l D dB dN dL v_7 1 _) (va_cwS 2 hts (lw_S q389 q390 q29 q391) rfl rfl rfl (by decide +kernel) ⟨Nat.le_of_ble_eq_true rfl, Nat.le_of_ble_eq_true rfl⟩) (pv_ (As := [.long v_7, .int 1]) [] rfl (by decide) hP hK hD hS hA hX) rfl rfl hl.1 rfl (lv_room (Nat.le_of_ble_eq_true rfl)) dX8_round_202 ⟨Nat.le_of_ble_eq_true rfl, Nat.le_of_ble_eq_true rfl⟩) (fun r_26 u_24 H locs hw_25 hP hD hS => ?_)
  have hP : va_P D CL [(h0, .inr (3, [.long v_16, .long v_23, .long v_1, .long x.2.2.2.1, .long x.2.2.2.2]))] H := hP
  have hD : va_D A [(h0, .inr (3, [.long v_16, .long v_23, .long v_1, .long x.2.2.2.1, .long x.2.2.2.2]))] := hD
  refine lv_lxor hx hb dX8_round_205 ?_
  refine lv_lload hx hb dX8_round_206 (lv_at hl 2 rfl) ?_
  refine lv_bipush (v := 6) hx hb dX8_round_208 (by decide) ?_
  refine cl_l [] [(h0, .inr (3, [.long v_16, .long v_23, .long v_1, .long x.2.2.2.1, .long x.2.2.2.2]))] [] [0] rfl rfl (by decide) (by decide) hP hD hS hA (va_runS (As := [.long v_7, .int 6]) (rest := [.long (v_7 ^^^ r_26), .ref h0]) ⟨hx, hb, hml, hown, hts⟩ (m_rot l D dB dN dL v_7 6 _) (va_cwS 2 hts (lw_S q389 q390 q29 q391) rfl rfl rfl (by decide +kernel) ⟨Nat.le_of_ble_eq_true rfl, Nat.le_of_ble_eq_true rfl⟩) (pv_ (As := [.long v_7, .int 6]) [] rfl (by decide) hP hK hD hS hA hX) rfl rfl hl.1 rfl (lv_room (Nat.le_of_ble_eq_true rfl)) dX8_round_210 ⟨Nat.le_of_ble_eq_true rfl, Nat.le_of_ble_eq_true rfl⟩) (fun r_29 u_27 H locs hw_28 hP hD hS => ?_)
  have hP : va_P D CL [(h0, .inr (3, [.long v_16, .long v_23, .long v_1, .long x.2.2.2.1, .long x.2.2.2.2]))] H := hP
  have hD : va_D A [(h0, .inr (3, [.long v_16, .long v_23, .long v_1, .long x.2.2.2.1, .long x.2.2.2.2]))] := hD
  refine lv_lxor hx hb dX8_round_213 ?_
  refine lv_ldc2 (v := (-1)) hx hb hown (hts _ q388) dX8_round_214 ?_
  refine lv_lxor hx hb dX8_round_217 ?_
  refine lv_topl (fun v_30 ev_30 => ?_)
  refine va_put (D := D) (ci := 3) (v := .long v_30) (ty := .long) (C := RX8) (T := TX8) (N := 5) hx hb hts in_X8 tyX8 tyX8_ok nmX8 hown hK hP hD hS 0 rfl rfl 2 (by decide) (hts _ q164) (fun _ h9 => h9) rfl (by decide +kernel) rfl rfl (Nat.le_of_ble_eq_true rfl) dX8_round_218 (fun H locs hP hD hS => ?_)
  have hP : va_P D CL [(h0, .inr (3, [.long v_16, .long v_23, .long v_30, .long x.2.2.2.1, .long x.2.2.2.2]))] H := hP
  have hD : va_D A [(h0, .inr (3, [.long v_16, .long v_23, .long v_30, .long x.2.2.2.1, .long x.2.2.2.2]))] := hD
  refine lv_aload_n hx hb dX8_round_221 rfl (lv_at hl 8 rfl) ?_
  refine lv_lload hx hb dX8_round_222 (lv_at hl 1 rfl) ?_
  refine lv_lload hx hb dX8_round_224 (lv_at hl 1 rfl) ?_
  refine lv_bipush (v := 10) hx hb dX8_round_226 (by decide) ?_
  refine cl_l [] [(h0, .inr (3, [.long v_16, .long v_23, .long v_30, .long x.2.2.2.1, .long x.2.2.2.2]))] [] [0] rfl rfl (by decide) (by decide) hP hD hS hA (va_runS (As := [.long v_8, .int 10]) (rest := [.long v_8, .ref h0]) ⟨hx, hb, hml, hown, hts⟩ (m_rot l D dB dN dL v_8 10 _) (va_cwS 2 hts (lw_S q389 q390 q29 q391) rfl rfl rfl (by decide +kernel) ⟨Nat.le_of_ble_eq_true rfl, Nat.le_of_ble_eq_true rfl⟩) (pv_ (As := [.long v_8, .int 10]) [] rfl (by decide) hP hK hD hS hA hX) rfl rfl hl.1 rfl (lv_room (Nat.le_of_ble_eq_true rfl)) dX8_round_228 ⟨Nat.le_of_ble_eq_true rfl, Nat.le_of_ble_eq_true rfl⟩) (fun r_33 u_31 H locs hw_32 hP hD hS => ?_)
  have hP : va_P D CL [(h0, .inr (3, [.long v_16, .long v_23, .long v_30, .long x.2.2.2.1, .long x.2.2.2.2]))] H := hP
  have hD : va_D A [(h0, .inr (3, [.long v_16, .long v_23, .long v_30, .long x.2.2.2.1, .long x.2.2.2.2]))] := hD
  refine lv_lxor hx hb dX8_round_231 ?_
  refine lv_lload hx hb dX8_round_232 (lv_at hl 1 rfl) ?_
  refine lv_bipush (v := 17) hx hb dX8_round_234 (by decide) ?_
  refine cl_l [] [(h0, .inr (3, [.long v_16, .long v_23, .long v_30, .long x.2.2.2.1, .long x.2.2.2.2]))] [] [0] rfl rfl (by decide) (by decide) hP hD hS hA (va_runS (As := [.long v_8, .int 17]) (rest := [.long (v_8 ^^^ r_33), .ref h0]) ⟨hx, hb, hml, hown, hts⟩ (m_rot l D dB dN dL v_8 17 _) (va_cwS 2 hts (lw_S q389 q390 q29 q391) rfl rfl rfl (by decide +kernel) ⟨Nat.le_of_ble_eq_true rfl, Nat.le_of_ble_eq_true rfl⟩) (pv_ (As := [.long v_8, .int 17]) [] rfl (by decide) hP hK hD hS hA hX) rfl rfl hl.1 rfl (lv_room (Nat.le_of_ble_eq_true rfl)) dX8_round_236 ⟨Nat.le_of_ble_eq_true rfl, Nat.le_of_ble_eq_true rfl⟩) (fun r_36 u_34 H locs hw_35 hP hD hS => ?_)
  have hP : va_P D CL [(h0, .inr (3, [.long v_16, .long v_23, .long v_30, .long x.2.2.2.1, .long x.2.2.2.2]))] H := hP
  have hD : va_D A [(h0, .inr (3, [.long v_16, .long v_23, .long v_30, .long x.2.2.2.1, .long x.2.2.2.2]))] := hD
  refine lv_lxor hx hb dX8_round_239 ?_
  refine lv_topl (fun v_37 ev_37 => ?_)
  refine va_put (D := D) (ci := 3) (v := .long v_37) (ty := .long) (C := RX8) (T := TX8) (N := 5) hx hb hts in_X8 tyX8 tyX8_ok nmX8 hown hK hP hD hS 0 rfl rfl 3 (by decide) (hts _ q165) (fun _ h9 => h9) rfl (by decide +kernel) rfl rfl (Nat.le_of_ble_eq_true rfl) dX8_round_240 (fun H locs hP hD hS => ?_)
  have hP : va_P D CL [(h0, .inr (3, [.long v_16, .long v_23, .long v_30, .long v_37, .long x.2.2.2.2]))] H := hP
  have hD : va_D A [(h0, .inr (3, [.long v_16, .long v_23, .long v_30, .long v_37, .long x.2.2.2.2]))] := hD
  refine lv_aload_n hx hb dX8_round_243 rfl (lv_at hl 8 rfl) ?_
  refine lv_lload hx hb dX8_round_244 (lv_at hl 0 rfl) ?_
  refine lv_lload hx hb dX8_round_246 (lv_at hl 0 rfl) ?_
  refine lv_bipush (v := 7) hx hb dX8_round_248 (by decide) ?_
  refine cl_l [] [(h0, .inr (3, [.long v_16, .long v_23, .long v_30, .long v_37, .long x.2.2.2.2]))] [] [0] rfl rfl (by decide) (by decide) hP hD hS hA (va_runS (As := [.long v_9, .int 7]) (rest := [.long v_9, .ref h0]) ⟨hx, hb, hml, hown, hts⟩ (m_rot l D dB dN dL v_9 7 _) (va_cwS 2 hts (lw_S q389 q390 q29 q391) rfl rfl rfl (by decide +kernel) ⟨Nat.le_of_ble_eq_true rfl, Nat.le_of_ble_eq_true rfl⟩) (pv_ (As := [.long v_9, .int 7]) [] rfl (by decide) hP hK hD hS hA hX) rfl rfl hl.1 rfl (lv_room (Nat.le_of_ble_eq_true rfl)) dX8_round_250 ⟨Nat.le_of_ble_eq_true rfl, Nat.le_of_ble_eq_true rfl⟩) (fun r_40 u_38 H locs hw_39 hP hD hS => ?_)
  have hP : va_P D CL [(h0, .inr (3, [.long v_16, .long v_23, .long v_30, .long v_37, .long x.2.2.2.2]))] H := hP
  have hD : va_D A [(h0, .inr (3, [.long v_16, .long v_23, .long v_30, .long v_37, .long x.2.2.2.2]))] := hD
  refine lv_lxor hx hb dX8_round_253 ?_
  refine lv_lload hx hb dX8_round_254 (lv_at hl 0 rfl) ?_
  refine lv_bipush (v := 41) hx hb dX8_round_256 (by decide) ?_
  refine cl_l [] [(h0, .inr (3, [.long v_16, .long v_23, .long v_30, .long v_37, .long x.2.2.2.2]))] [] [0] rfl rfl (by decide) (by decide) hP hD hS hA (va_runS (As := [.long v_9, .int 41]) (rest := [.long (v_9 ^^^ r_40), .ref h0]) ⟨hx, hb, hml, hown, hts⟩ (m_rot l D dB dN dL v_9 41 _) (va_cwS 2 hts (lw_S q389 q390 q29 q391) rfl rfl rfl (by decide +kernel) ⟨Nat.le_of_ble_eq_true rfl, Nat.le_of_ble_eq_true rfl⟩) (pv_ (As := [.long v_9, .int 41]) [] rfl (by decide) hP hK hD hS hA hX) rfl rfl hl.1 rfl (lv_room (Nat.le_of_ble_eq_true rfl)) dX8_round_258 ⟨Nat.le_of_ble_eq_true rfl, Nat.le_of_ble_eq_true rfl⟩) (fun r_43 u_41 H locs hw_42 hP hD hS => ?_)
  have hP : va_P D CL [(h0, .inr (3, [.long v_16, .long v_23, .long v_30, .long v_37, .long x.2.2.2.2]))] H := hP
  have hD : va_D A [(h0, .inr (3, [.long v_16, .long v_23, .long v_30, .long v_37, .long x.2.2.2.2]))] := hD
  refine lv_lxor hx hb dX8_round_261 ?_
  refine lv_topl (fun v_44 ev_44 => ?_)
  refine va_put (D := D) (ci := 3) (v := .long v_44) (ty := .long) (C := RX8) (T := TX8) (N := 5) hx hb hts in_X8 tyX8 tyX8_ok nmX8 hown hK hP hD hS 0 rfl rfl 4 (by decide) (hts _ q166) (fun _ h9 => h9) rfl (by decide +kernel) rfl rfl (Nat.le_of_ble_eq_true rfl) dX8_round_262 (fun H locs hP hD hS => ?_)
  have hP : va_P D CL [(h0, .inr (3, [.long v_16, .long v_23, .long v_30, .long v_37, .long v_44]))] H := hP
  have hD : va_D A [(h0, .inr (3, [.long v_16, .long v_23, .long v_30, .long v_37, .long v_44]))] := hD
  exact rt_v hx hb hr hlocks hP hK hD hS dX8_round_265 (v_16, v_23, v_30, v_37, v_44) [0] rfl (by decide) (by rw [ev_44, hw_42, hw_39, ev_37, hw_35, hw_32, ev_30, hw_28, hw_25, ev_23, hw_21, hw_18, ev_16, hw_14, hw_11, ev_9, ev_8, ev_7, ev_6, ev_5, ev_4, ev_3, ev_2, ev_1]; rfl)

set_option maxHeartbeats 4000000 in
set_option maxRecDepth 100000 in
/-- AsconPermutation.p(12): twelve rounds -/
theorem m_p (l : Launch) (D : va_G) (dB dN dL : ClassId) (h0 : Nat) (x : P5) (sz : Nat)  : Cv_ l yX8_p (ws_ yX8_p cX8_p 2 none) (rm_ 3 0 0 82) D dB dN dL [.ref h0, .int 12] [(h0, .inr (3, [.long x.1, .long x.2.1, .long x.2.2.1, .long x.2.2.2.1, .long x.2.2.2.2]))] sz (S := P5) (fun u => u = pm x) (fun u => [(h0, .inr (3, [.long u.1, .long u.2.1, .long u.2.2.1, .long u.2.2.2.1, .long u.2.2.2.2]))]) := by
  refine ct_of (cc := cX8_p) (maxL := 2) (ret := none) (by decide) rfl (Nat.le_of_ble_eq_true rfl) (fun p e s m below meth c A ls hx hb hml hr hlocks hts hown hin hP hK hD hA hX hS hl => ?_)
  have hown : s.vm.findClass RX8 = some m.cls := hown
  have hl : lv_has ls 2 [(0, .ref h0), (1, .int 12)] := hl
  refine lv_iload_n hx hb dX8_p_0 rfl (lv_at hl 1 rfl) ?_
  refine lv_bipush (v := 12) hx hb dX8_p_1 (by decide) ?_
  refine lv_icmp_ne (tgt := 34) hx hb dX8_p_3 (by decide) (fun c_1 => absurd c_1 (by decide)) (fun _ => ?_)
  refine lv_aload_n hx hb dX8_p_6 rfl (lv_at hl 0 rfl) ?_
  refine lv_ldc2 (v := 240) hx hb hown (hts _ q383) dX8_p_7 ?_
  refine cl_v [(h0, .inr (3, [.long x.1, .long x.2.1, .long x.2.2.1, .long x.2.2.2.1, .long x.2.2.2.2]))] [] [0] [] rfl rfl (by decide) (by decide) hP hD hS hA (va_runV (As := [.long 240]) (rest := []) ⟨hx, hb, hml, hown, hts⟩ (m_round l D dB dN dL h0 x 240 _) (cwV 1 hts (lw_V q384 q385 q386 q21 q387) rfl rfl rfl (by decide +kernel) ⟨Nat.le_of_ble_eq_true rfl, Nat.le_of_ble_eq_true rfl⟩) (pvV (ci := 3) (q0 := 0) (C := RX8) [0] rfl (by decide) hP hK hD hS hA hX rfl rfl) rfl rfl hl.1 rfl (lv_room (Nat.le_of_ble_eq_true rfl)) dX8_p_10 ⟨Nat.le_of_ble_eq_true rfl, Nat.le_of_ble_eq_true rfl⟩) (fun u_2 H locs hw_3 hP hD hS => ?_)
  have hP : va_P D CL [(h0, .inr (3, [.long u_2.1, .long u_2.2.1, .long u_2.2.2.1, .long u_2.2.2.2.1, .long u_2.2.2.2.2]))] H := hP
  have hD : va_D A [(h0, .inr (3, [.long u_2.1, .long u_2.2.1, .long u_2.2.2.1, .long u_2.2.2.2.1, .long u_2.2.2.2.2]))] := hD
  refine lv_aload_n hx hb dX8_p_13 rfl (lv_at hl 0 rfl) ?_
  refine lv_ldc2 (v := 225) hx hb hown (hts _ q395) dX8_p_14 ?_
  refine cl_v [(h0, .inr (3, [.long u_2.1, .long u_2.2.1, .long u_2.2.2.1, .long u_2.2.2.2.1, .long u_2.2.2.2.2]))] [] [0] [] rfl rfl (by decide) (by decide) hP hD hS hA (va_runV (As := [.long 225]) (rest := []) ⟨hx, hb, hml, hown, hts⟩ (m_round l D dB dN dL h0 u_2 225 _) (cwV 1 hts (lw_V q384 q385 q386 q21 q387) rfl rfl rfl (by decide +kernel) ⟨Nat.le_of_ble_eq_true rfl, Nat.le_of_ble_eq_true rfl⟩) (pvV (ci := 3) (q0 := 0) (C := RX8) [0] rfl (by decide) hP hK hD hS hA hX rfl rfl) rfl rfl hl.1 rfl (lv_room (Nat.le_of_ble_eq_true rfl)) dX8_p_17 ⟨Nat.le_of_ble_eq_true rfl, Nat.le_of_ble_eq_true rfl⟩) (fun u_5 H locs hw_6 hP hD hS => ?_)
  have hP : va_P D CL [(h0, .inr (3, [.long u_5.1, .long u_5.2.1, .long u_5.2.2.1, .long u_5.2.2.2.1, .long u_5.2.2.2.2]))] H := hP
  have hD : va_D A [(h0, .inr (3, [.long u_5.1, .long u_5.2.1, .long u_5.2.2.1, .long u_5.2.2.2.1, .long u_5.2.2.2.2]))] := hD
  refine lv_aload_n hx hb dX8_p_20 rfl (lv_at hl 0 rfl) ?_
  refine lv_ldc2 (v := 210) hx hb hown (hts _ q396) dX8_p_21 ?_
  refine cl_v [(h0, .inr (3, [.long u_5.1, .long u_5.2.1, .long u_5.2.2.1, .long u_5.2.2.2.1, .long u_5.2.2.2.2]))] [] [0] [] rfl rfl (by decide) (by decide) hP hD hS hA (va_runV (As := [.long 210]) (rest := []) ⟨hx, hb, hml, hown, hts⟩ (m_round l D dB dN dL h0 u_5 210 _) (cwV 1 hts (lw_V q384 q385 q386 q21 q387) rfl rfl rfl (by decide +kernel) ⟨Nat.le_of_ble_eq_true rfl, Nat.le_of_ble_eq_true rfl⟩) (pvV (ci := 3) (q0 := 0) (C := RX8) [0] rfl (by decide) hP hK hD hS hA hX rfl rfl) rfl rfl hl.1 rfl (lv_room (Nat.le_of_ble_eq_true rfl)) dX8_p_24 ⟨Nat.le_of_ble_eq_true rfl, Nat.le_of_ble_eq_true rfl⟩) (fun u_8 H locs hw_9 hP hD hS => ?_)
  have hP : va_P D CL [(h0, .inr (3, [.long u_8.1, .long u_8.2.1, .long u_8.2.2.1, .long u_8.2.2.2.1, .long u_8.2.2.2.2]))] H := hP
  have hD : va_D A [(h0, .inr (3, [.long u_8.1, .long u_8.2.1, .long u_8.2.2.1, .long u_8.2.2.2.1, .long u_8.2.2.2.2]))] := hD
  refine lv_aload_n hx hb dX8_p_27 rfl (lv_at hl 0 rfl) ?_
  refine lv_ldc2 (v := 195) hx hb hown (hts _ q397) dX8_p_28 ?_
  refine cl_v [(h0, .inr (3, [.long u_8.1, .long u_8.2.1, .long u_8.2.2.1, .long u_8.2.2.2.1, .long u_8.2.2.2.2]))] [] [0] [] rfl rfl (by decide) (by decide) hP hD hS hA (va_runV (As := [.long 195]) (rest := []) ⟨hx, hb, hml, hown, hts⟩ (m_round l D dB dN dL h0 u_8 195 _) (cwV 1 hts (lw_V q384 q385 q386 q21 q387) rfl rfl rfl (by decide +kernel) ⟨Nat.le_of_ble_eq_true rfl, Nat.le_of_ble_eq_true rfl⟩) (pvV (ci := 3) (q0 := 0) (C := RX8) [0] rfl (by decide) hP hK hD hS hA hX rfl rfl) rfl rfl hl.1 rfl (lv_room (Nat.le_of_ble_eq_true rfl)) dX8_p_31 ⟨Nat.le_of_ble_eq_true rfl, Nat.le_of_ble_eq_true rfl⟩) (fun u_11 H locs hw_12 hP hD hS => ?_)
  have hP : va_P D CL [(h0, .inr (3, [.long u_11.1, .long u_11.2.1, .long u_11.2.2.1, .long u_11.2.2.2.1, .long u_11.2.2.2.2]))] H := hP
  have hD : va_D A [(h0, .inr (3, [.long u_11.1, .long u_11.2.1, .long u_11.2.2.1, .long u_11.2.2.2.1, .long u_11.2.2.2.2]))] := hD
  refine lv_iload_n hx hb dX8_p_34 rfl (lv_at hl 1 rfl) ?_
  refine lv_bipush (v := 8) hx hb dX8_p_35 (by decide) ?_
  refine lv_icmp_lt (tgt := 54) hx hb dX8_p_37 (by decide) (fun c_14 => absurd c_14 (by decide)) (fun _ => ?_)
  refine lv_aload_n hx hb dX8_p_40 rfl (lv_at hl 0 rfl) ?_
  refine lv_ldc2 (v := 180) hx hb hown (hts _ q398) dX8_p_41 ?_
  refine cl_v [(h0, .inr (3, [.long u_11.1, .long u_11.2.1, .long u_11.2.2.1, .long u_11.2.2.2.1, .long u_11.2.2.2.2]))] [] [0] [] rfl rfl (by decide) (by decide) hP hD hS hA (va_runV (As := [.long 180]) (rest := []) ⟨hx, hb, hml, hown, hts⟩ (m_round l D dB dN dL h0 u_11 180 _) (cwV 1 hts (lw_V q384 q385 q386 q21 q387) rfl rfl rfl (by decide +kernel) ⟨Nat.le_of_ble_eq_true rfl, Nat.le_of_ble_eq_true rfl⟩) (pvV (ci := 3) (q0 := 0) (C := RX8) [0] rfl (by decide) hP hK hD hS hA hX rfl rfl) rfl rfl hl.1 rfl (lv_room (Nat.le_of_ble_eq_true rfl)) dX8_p_44 ⟨Nat.le_of_ble_eq_true rfl, Nat.le_of_ble_eq_true rfl⟩) (fun u_15 H locs hw_16 hP hD hS => ?_)
  have hP : va_P D CL [(h0, .inr (3, [.long u_15.1, .long u_15.2.1, .long u_15.2.2.1, .long u_15.2.2.2.1, .long u_15.2.2.2.2]))] H := hP
  have hD : va_D A [(h0, .inr (3, [.long u_15.1, .long u_15.2.1, .long u_15.2.2.1, .long u_15.2.2.2.1, .long u_15.2.2.2.2]))] := hD
  refine lv_aload_n hx hb dX8_p_47 rfl (lv_at hl 0 rfl) ?_
  refine lv_ldc2 (v := 165) hx hb hown (hts _ q399) dX8_p_48 ?_
  refine cl_v [(h0, .inr (3, [.long u_15.1, .long u_15.2.1, .long u_15.2.2.1, .long u_15.2.2.2.1, .long u_15.2.2.2.2]))] [] [0] [] rfl rfl (by decide) (by decide) hP hD hS hA (va_runV (As := [.long 165]) (rest := []) ⟨hx, hb, hml, hown, hts⟩ (m_round l D dB dN dL h0 u_15 165 _) (cwV 1 hts (lw_V q384 q385 q386 q21 q387) rfl rfl rfl (by decide +kernel) ⟨Nat.le_of_ble_eq_true rfl, Nat.le_of_ble_eq_true rfl⟩) (pvV (ci := 3) (q0 := 0) (C := RX8) [0] rfl (by decide) hP hK hD hS hA hX rfl rfl) rfl rfl hl.1 rfl (lv_room (Nat.le_of_ble_eq_true rfl)) dX8_p_51 ⟨Nat.le_of_ble_eq_true rfl, Nat.le_of_ble_eq_true rfl⟩) (fun u_18 H locs hw_19 hP hD hS => ?_)
  have hP : va_P D CL [(h0, .inr (3, [.long u_18.1, .long u_18.2.1, .long u_18.2.2.1, .long u_18.2.2.2.1, .long u_18.2.2.2.2]))] H := hP
  have hD : va_D A [(h0, .inr (3, [.long u_18.1, .long u_18.2.1, .long u_18.2.2.1, .long u_18.2.2.2.1, .long u_18.2.2.2.2]))] := hD
  refine lv_aload_n hx hb dX8_p_54 rfl (lv_at hl 0 rfl) ?_
  refine lv_ldc2 (v := 150) hx hb hown (hts _ q400) dX8_p_55 ?_
  refine cl_v [(h0, .inr (3, [.long u_18.1, .long u_18.2.1, .long u_18.2.2.1, .long u_18.2.2.2.1, .long u_18.2.2.2.2]))] [] [0] [] rfl rfl (by decide) (by decide) hP hD hS hA (va_runV (As := [.long 150]) (rest := []) ⟨hx, hb, hml, hown, hts⟩ (m_round l D dB dN dL h0 u_18 150 _) (cwV 1 hts (lw_V q384 q385 q386 q21 q387) rfl rfl rfl (by decide +kernel) ⟨Nat.le_of_ble_eq_true rfl, Nat.le_of_ble_eq_true rfl⟩) (pvV (ci := 3) (q0 := 0) (C := RX8) [0] rfl (by decide) hP hK hD hS hA hX rfl rfl) rfl rfl hl.1 rfl (lv_room (Nat.le_of_ble_eq_true rfl)) dX8_p_58 ⟨Nat.le_of_ble_eq_true rfl, Nat.le_of_ble_eq_true rfl⟩) (fun u_21 H locs hw_22 hP hD hS => ?_)
  have hP : va_P D CL [(h0, .inr (3, [.long u_21.1, .long u_21.2.1, .long u_21.2.2.1, .long u_21.2.2.2.1, .long u_21.2.2.2.2]))] H := hP
  have hD : va_D A [(h0, .inr (3, [.long u_21.1, .long u_21.2.1, .long u_21.2.2.1, .long u_21.2.2.2.1, .long u_21.2.2.2.2]))] := hD
  refine lv_aload_n hx hb dX8_p_61 rfl (lv_at hl 0 rfl) ?_
  refine lv_ldc2 (v := 135) hx hb hown (hts _ q401) dX8_p_62 ?_
  refine cl_v [(h0, .inr (3, [.long u_21.1, .long u_21.2.1, .long u_21.2.2.1, .long u_21.2.2.2.1, .long u_21.2.2.2.2]))] [] [0] [] rfl rfl (by decide) (by decide) hP hD hS hA (va_runV (As := [.long 135]) (rest := []) ⟨hx, hb, hml, hown, hts⟩ (m_round l D dB dN dL h0 u_21 135 _) (cwV 1 hts (lw_V q384 q385 q386 q21 q387) rfl rfl rfl (by decide +kernel) ⟨Nat.le_of_ble_eq_true rfl, Nat.le_of_ble_eq_true rfl⟩) (pvV (ci := 3) (q0 := 0) (C := RX8) [0] rfl (by decide) hP hK hD hS hA hX rfl rfl) rfl rfl hl.1 rfl (lv_room (Nat.le_of_ble_eq_true rfl)) dX8_p_65 ⟨Nat.le_of_ble_eq_true rfl, Nat.le_of_ble_eq_true rfl⟩) (fun u_24 H locs hw_25 hP hD hS => ?_)
  have hP : va_P D CL [(h0, .inr (3, [.long u_24.1, .long u_24.2.1, .long u_24.2.2.1, .long u_24.2.2.2.1, .long u_24.2.2.2.2]))] H := hP
  have hD : va_D A [(h0, .inr (3, [.long u_24.1, .long u_24.2.1, .long u_24.2.2.1, .long u_24.2.2.2.1, .long u_24.2.2.2.2]))] := hD
  refine lv_aload_n hx hb dX8_p_68 rfl (lv_at hl 0 rfl) ?_
  refine lv_ldc2 (v := 120) hx hb hown (hts _ q402) dX8_p_69 ?_
  refine cl_v [(h0, .inr (3, [.long u_24.1, .long u_24.2.1, .long u_24.2.2.1, .long u_24.2.2.2.1, .long u_24.2.2.2.2]))] [] [0] [] rfl rfl (by decide) (by decide) hP hD hS hA (va_runV (As := [.long 120]) (rest := []) ⟨hx, hb, hml, hown, hts⟩ (m_round l D dB dN dL h0 u_24 120 _) (cwV 1 hts (lw_V q384 q385 q386 q21 q387) rfl rfl rfl (by decide +kernel) ⟨Nat.le_of_ble_eq_true rfl, Nat.le_of_ble_eq_true rfl⟩) (pvV (ci := 3) (q0 := 0) (C := RX8) [0] rfl (by decide) hP hK hD hS hA hX rfl rfl) rfl rfl hl.1 rfl (lv_room (Nat.le_of_ble_eq_true rfl)) dX8_p_72 ⟨Nat.le_of_ble_eq_true rfl, Nat.le_of_ble_eq_true rfl⟩) (fun u_27 H locs hw_28 hP hD hS => ?_)
  have hP : va_P D CL [(h0, .inr (3, [.long u_27.1, .long u_27.2.1, .long u_27.2.2.1, .long u_27.2.2.2.1, .long u_27.2.2.2.2]))] H := hP
  have hD : va_D A [(h0, .inr (3, [.long u_27.1, .long u_27.2.1, .long u_27.2.2.1, .long u_27.2.2.2.1, .long u_27.2.2.2.2]))] := hD
  refine lv_aload_n hx hb dX8_p_75 rfl (lv_at hl 0 rfl) ?_
  refine lv_ldc2 (v := 105) hx hb hown (hts _ q403) dX8_p_76 ?_
  refine cl_v [(h0, .inr (3, [.long u_27.1, .long u_27.2.1, .long u_27.2.2.1, .long u_27.2.2.2.1, .long u_27.2.2.2.2]))] [] [0] [] rfl rfl (by decide) (by decide) hP hD hS hA (va_runV (As := [.long 105]) (rest := []) ⟨hx, hb, hml, hown, hts⟩ (m_round l D dB dN dL h0 u_27 105 _) (cwV 1 hts (lw_V q384 q385 q386 q21 q387) rfl rfl rfl (by decide +kernel) ⟨Nat.le_of_ble_eq_true rfl, Nat.le_of_ble_eq_true rfl⟩) (pvV (ci := 3) (q0 := 0) (C := RX8) [0] rfl (by decide) hP hK hD hS hA hX rfl rfl) rfl rfl hl.1 rfl (lv_room (Nat.le_of_ble_eq_true rfl)) dX8_p_79 ⟨Nat.le_of_ble_eq_true rfl, Nat.le_of_ble_eq_true rfl⟩) (fun u_30 H locs hw_31 hP hD hS => ?_)
  have hP : va_P D CL [(h0, .inr (3, [.long u_30.1, .long u_30.2.1, .long u_30.2.2.1, .long u_30.2.2.2.1, .long u_30.2.2.2.2]))] H := hP
  have hD : va_D A [(h0, .inr (3, [.long u_30.1, .long u_30.2.1, .long u_30.2.2.1, .long u_30.2.2.2.1, .long u_30.2.2.2.2]))] := hD
  refine lv_aload_n hx hb dX8_p_82 rfl (lv_at hl 0 rfl) ?_
  refine lv_ldc2 (v := 90) hx hb hown (hts _ q404) dX8_p_83 ?_
  refine cl_v [(h0, .inr (3, [.long u_30.1, .long u_30.2.1, .long u_30.2.2.1, .long u_30.2.2.2.1, .long u_30.2.2.2.2]))] [] [0] [] rfl rfl (by decide) (by decide) hP hD hS hA (va_runV (As := [.long 90]) (rest := []) ⟨hx, hb, hml, hown, hts⟩ (m_round l D dB dN dL h0 u_30 90 _) (cwV 1 hts (lw_V q384 q385 q386 q21 q387) rfl rfl rfl (by decide +kernel) ⟨Nat.le_of_ble_eq_true rfl, Nat.le_of_ble_eq_true rfl⟩) (pvV (ci := 3) (q0 := 0) (C := RX8) [0] rfl (by decide) hP hK hD hS hA hX rfl rfl) rfl rfl hl.1 rfl (lv_room (Nat.le_of_ble_eq_true rfl)) dX8_p_86 ⟨Nat.le_of_ble_eq_true rfl, Nat.le_of_ble_eq_true rfl⟩) (fun u_33 H locs hw_34 hP hD hS => ?_)
  have hP : va_P D CL [(h0, .inr (3, [.long u_33.1, .long u_33.2.1, .long u_33.2.2.1, .long u_33.2.2.2.1, .long u_33.2.2.2.2]))] H := hP
  have hD : va_D A [(h0, .inr (3, [.long u_33.1, .long u_33.2.1, .long u_33.2.2.1, .long u_33.2.2.2.1, .long u_33.2.2.2.2]))] := hD
  refine lv_aload_n hx hb dX8_p_89 rfl (lv_at hl 0 rfl) ?_
  refine lv_ldc2 (v := 75) hx hb hown (hts _ q405) dX8_p_90 ?_
  refine cl_v [(h0, .inr (3, [.long u_33.1, .long u_33.2.1, .long u_33.2.2.1, .long u_33.2.2.2.1, .long u_33.2.2.2.2]))] [] [0] [] rfl rfl (by decide) (by decide) hP hD hS hA (va_runV (As := [.long 75]) (rest := []) ⟨hx, hb, hml, hown, hts⟩ (m_round l D dB dN dL h0 u_33 75 _) (cwV 1 hts (lw_V q384 q385 q386 q21 q387) rfl rfl rfl (by decide +kernel) ⟨Nat.le_of_ble_eq_true rfl, Nat.le_of_ble_eq_true rfl⟩) (pvV (ci := 3) (q0 := 0) (C := RX8) [0] rfl (by decide) hP hK hD hS hA hX rfl rfl) rfl rfl hl.1 rfl (lv_room (Nat.le_of_ble_eq_true rfl)) dX8_p_93 ⟨Nat.le_of_ble_eq_true rfl, Nat.le_of_ble_eq_true rfl⟩) (fun u_36 H locs hw_37 hP hD hS => ?_)
  have hP : va_P D CL [(h0, .inr (3, [.long u_36.1, .long u_36.2.1, .long u_36.2.2.1, .long u_36.2.2.2.1, .long u_36.2.2.2.2]))] H := hP
  have hD : va_D A [(h0, .inr (3, [.long u_36.1, .long u_36.2.1, .long u_36.2.2.1, .long u_36.2.2.2.1, .long u_36.2.2.2.2]))] := hD
  exact rt_v hx hb hr hlocks hP hK hD hS dX8_p_96 u_36 [0] rfl (by decide) (by rw [hw_37, hw_34, hw_31, hw_28, hw_25, hw_22, hw_19, hw_16, hw_12, hw_9, hw_6, hw_3]; rfl)
end
section
/-! numbers: bits of ints and longs, bytes of a long, a long of bytes -/
set_option maxRecDepth 100000
def lb (x : Int64) (i : Nat) : Bool := x.toBitVec.getLsbD i
def ib (x : Int32) (i : Nat) : Bool := x.toBitVec.getLsbD i
theorem lb_ext {x y : Int64} (h : ∀ i, i < 64 → lb x i = lb y i) : x = y := Int64.toBitVec_inj.mp (BitVec.eq_of_getLsbD_eq h)
theorem ib_ext {x y : Int32} (h : ∀ i, i < 32 → ib x i = ib y i) : x = y := Int32.toBitVec_inj.mp (BitVec.eq_of_getLsbD_eq h)
theorem lb_or (x y : Int64) (i : Nat) : lb (x ||| y) i = (lb x i || lb y i) := by simp [lb]
theorem lb_and (x y : Int64) (i : Nat) : lb (x &&& y) i = (lb x i && lb y i) := by simp [lb]
theorem lb_xor (x y : Int64) (i : Nat) : lb (x ^^^ y) i = (lb x i ^^ lb y i) := by simp [lb]
theorem ib_or (x y : Int32) (i : Nat) : ib (x ||| y) i = (ib x i || ib y i) := by simp [ib]
theorem ib_and (x y : Int32) (i : Nat) : ib (x &&& y) i = (ib x i && ib y i) := by simp [ib]
theorem lb_0 (i : Nat) : lb 0 i = false := by simp [lb]
theorem ib_0 (i : Nat) : ib 0 i = false := by simp [ib]
theorem lb_big {x : Int64} {i : Nat} (h : 64 ≤ i) : lb x i = false := BitVec.getLsbD_of_ge _ _ h
theorem ib_big {x : Int32} {i : Nat} (h : 32 ≤ i) : ib x i = false := BitVec.getLsbD_of_ge _ _ h
theorem lb_255 (i : Nat) : lb 255 i = decide (i < 8) := by
  rcases Nat.lt_or_ge i 64 with h | h
  · exact (by decide +kernel : ∀ i, i < 64 → lb 255 i = decide (i < 8)) i h
  · rw [lb_big h, decide_eq_false (by omega)]
theorem lb_m32 (i : Nat) : lb 4294967295 i = decide (i < 32) := by
  rcases Nat.lt_or_ge i 64 with h | h
  · exact (by decide +kernel : ∀ i, i < 64 → lb 4294967295 i = decide (i < 32)) i h
  · rw [lb_big h, decide_eq_false (by omega)]
theorem lb_1 (i : Nat) : lb 1 i = decide (i = 0) := by
  rcases Nat.lt_or_ge i 64 with h | h
  · exact (by decide +kernel : ∀ i, i < 64 → lb 1 i = decide (i = 0)) i h
  · rw [lb_big h, decide_eq_false (by omega)]
theorem ib_255 (i : Nat) : ib 255 i = decide (i < 8) := by
  rcases Nat.lt_or_ge i 32 with h | h
  · exact (by decide +kernel : ∀ i, i < 32 → ib 255 i = decide (i < 8)) i h
  · rw [ib_big h, decide_eq_false (by omega)]
theorem lb_m1 {i : Nat} (h : i < 64) : lb (-1) i = true := (by decide +kernel : ∀ i, i < 64 → lb (-1) i = true) i h
theorem sh_c : ∀ k, k < 64 → (((nI k).toInt64 &&& 63).toBitVec.smod 64).toNat = k := by decide +kernel
theorem sh_u : ∀ k, k < 64 → ((nI k).toInt64.toUInt64 &&& Int64.toUInt64 63).toNat % 64 = k := by decide +kernel
theorem sh_i : ∀ k, k < 32 → ((nI k &&& 31).toBitVec.smod 32).toNat = k := by decide +kernel
theorem sh_ui : ∀ k, k < 32 → ((nI k).toUInt32 &&& Int32.toUInt32 31).toNat % 32 = k := by decide +kernel
theorem lb_shl (k : Nat) (hk : k < 64) (x : Int64) (i : Nat) : lb (x <<< ((nI k).toInt64 &&& 63)) i = (decide (i < 64) && (decide (k ≤ i) && lb x (i - k))) := by
  show (x <<< ((nI k).toInt64 &&& 63)).toBitVec.getLsbD i = _
  rw [Int64.toBitVec_shiftLeft, BitVec.shiftLeft_eq', sh_c k hk, BitVec.getLsbD_shiftLeft]
  show _ = (decide (i < 64) && (decide (k ≤ i) && x.toBitVec.getLsbD (i - k)))
  by_cases h : k ≤ i
  · simp [h, Nat.not_lt.mpr h]
  · simp [h, Nat.lt_of_not_le h]
theorem lb_shr (k : Nat) (hk : k < 64) (x : Int64) (i : Nat) : lb ((x.toUInt64 >>> ((nI k).toInt64.toUInt64 &&& Int64.toUInt64 63)).toInt64) i = lb x (k + i) := by
  show (x.toUInt64 >>> ((nI k).toInt64.toUInt64 &&& Int64.toUInt64 63)).toBitVec.getLsbD i = x.toBitVec.getLsbD (k + i)
  rw [UInt64.toBitVec_shiftRight, BitVec.ushiftRight_eq', BitVec.getLsbD_ushiftRight]
  have e : (((nI k).toInt64.toUInt64 &&& Int64.toUInt64 63).toBitVec % 64).toNat = k := by
    rw [BitVec.toNat_umod]
    exact sh_u k hk
  rw [e]
  rfl
theorem ib_shl (k : Nat) (hk : k < 32) (x : Int32) (i : Nat) : ib (x <<< (nI k &&& 31)) i = (decide (i < 32) && (decide (k ≤ i) && ib x (i - k))) := by
  show (x <<< (nI k &&& 31)).toBitVec.getLsbD i = _
  rw [Int32.toBitVec_shiftLeft, BitVec.shiftLeft_eq', sh_i k hk, BitVec.getLsbD_shiftLeft]
  show _ = (decide (i < 32) && (decide (k ≤ i) && x.toBitVec.getLsbD (i - k)))
  by_cases h : k ≤ i
  · simp [h, Nat.not_lt.mpr h]
  · simp [h, Nat.lt_of_not_le h]
theorem ib_ushr (k : Nat) (hk : k < 32) (x : Int32) (i : Nat) : ib ((x.toUInt32 >>> ((nI k).toUInt32 &&& Int32.toUInt32 31)).toInt32) i = ib x (k + i) := by
  show (x.toUInt32 >>> ((nI k).toUInt32 &&& Int32.toUInt32 31)).toBitVec.getLsbD i = x.toBitVec.getLsbD (k + i)
  rw [UInt32.toBitVec_shiftRight, BitVec.ushiftRight_eq', BitVec.getLsbD_ushiftRight]
  have e : (((nI k).toUInt32 &&& Int32.toUInt32 31).toBitVec % 32).toNat = k := by
    rw [BitVec.toNat_umod]
    exact sh_ui k hk
  rw [e]
  rfl
theorem ib_sshr (k : Nat) (hk : k < 32) (x : Int32) {i : Nat} (hi : k + i < 32) : ib (x >>> (nI k &&& 31)) i = ib x (k + i) := by
  show (x >>> (nI k &&& 31)).toBitVec.getLsbD i = x.toBitVec.getLsbD (k + i)
  rw [Int32.toBitVec_shiftRight, BitVec.sshiftRight_eq', sh_i k hk, BitVec.getLsbD_sshiftRight]
  simp [hi, show i < 32 by omega]
theorem lb_i2l (x : Int32) {i : Nat} (h : i < 32) : lb x.toInt64 i = ib x i := by
  show (x.toBitVec.signExtend 64).getLsbD i = x.toBitVec.getLsbD i
  rw [BitVec.getLsbD_signExtend]
  simp [h, show i < 64 by omega]
theorem ib_l2i (x : Int64) (i : Nat) : ib x.toInt32 i = (decide (i < 32) && lb x i) := by
  show (x.toBitVec.signExtend 32).getLsbD i = (decide (i < 32) && x.toBitVec.getLsbD i)
  rw [BitVec.getLsbD_signExtend]
  by_cases h : i < 32
  · simp [h, show i < 64 by omega]
  · simp [h]
theorem ib_i2b (x : Int32) (i : Nat) : ib x.toInt8.toInt32 i = (decide (i < 32) && if i < 8 then ib x i else ib x 7) := by
  show ((x.toBitVec.signExtend 8).signExtend 32).getLsbD i = (decide (i < 32) && if i < 8 then x.toBitVec.getLsbD i else x.toBitVec.getLsbD 7)
  rw [BitVec.getLsbD_signExtend, BitVec.msb_eq_getLsbD_last, BitVec.getLsbD_signExtend, BitVec.getLsbD_signExtend]
  by_cases h : i < 8
  · simp [h, show i < 32 by omega]
  · simp [h]
/-- bytes are told by their eight bits -/
theorem by_ext {x y : Int32} (h : ∀ i, i < 8 → ib x i = ib y i) : x.toInt8.toInt32 = y.toInt8.toInt32 := by
  refine ib_ext fun i _ => ?_
  rw [ib_i2b, ib_i2b, h 7 (by decide)]
  by_cases hi : i < 8
  · rw [if_pos hi, if_pos hi, h i hi]
  · rw [if_neg hi, if_neg hi]
/-- byte j of a long, signed -/
def bw (w : Int64) (j : Nat) : Int32 := ((w.toUInt64 >>> ((nI (8 * j)).toInt64.toUInt64 &&& Int64.toUInt64 63)).toInt64).toInt32.toInt8.toInt32
/-- byte j of a long, unsigned, as the model has it -/
def du (w : Int64) (j : Nat) : Int32 := ((w.toUInt64 >>> ((nI (8 * j)).toInt64.toUInt64 &&& Int64.toUInt64 63)).toInt64 &&& 255).toInt32
/-- byte j of an int, signed -/
def bi (v : Int32) (j : Nat) : Int32 := ((v.toUInt32 >>> ((nI (8 * j)).toUInt32 &&& Int32.toUInt32 31)).toInt32).toInt8.toInt32
theorem bw_du (w : Int64) {j : Nat} (hj : j < 8) : bw w j &&& 255 = du w j := by
  refine ib_ext fun i hi => ?_
  rw [ib_and, ib_255, bw, du, ib_i2b, ib_l2i, ib_l2i, ib_l2i, lb_and, lb_255]
  by_cases h : i < 8
  · simp [h, hi]
  · simp [h]
theorem bi_lo (w : Int64) {j : Nat} (hj : j < 4) : bi (w &&& 4294967295).toInt32 j = bw w j := by
  refine by_ext fun i hi => ?_
  rw [ib_ushr _ (by omega), ib_l2i, ib_l2i, lb_and, lb_m32, lb_shr _ (by omega)]
  simp [show i < 32 by omega, show 8 * j + i < 32 by omega]
theorem bi_hi (w : Int64) {j : Nat} (hj : j < 4) : bi ((w.toUInt64 >>> ((32 : Int32).toInt64.toUInt64 &&& Int64.toUInt64 63)).toInt64).toInt32 j = bw w (4 + j) := by
  refine by_ext fun i hi => ?_
  rw [ib_ushr _ (by omega), ib_l2i, ib_l2i, show (32 : Int32) = nI 32 from rfl, lb_shr 32 (by omega), lb_shr _ (by omega)]
  simp [show i < 32 by omega, show 8 * j + i < 32 by omega]
  congr 1
  omega
theorem bi_0 (v : Int32) : v.toInt8.toInt32 = bi v 0 := by
  refine by_ext fun i hi => ?_
  rw [ib_ushr _ (by omega)]
  simp
theorem bw_0 (w : Int64) : w.toInt32.toInt8.toInt32 = bw w 0 := by
  refine by_ext fun i hi => ?_
  rw [ib_l2i, ib_l2i, lb_shr _ (by omega)]
  simp
theorem sh_0 (w : Int64) : (w.toUInt64 >>> ((nI 0).toInt64.toUInt64 &&& Int64.toUInt64 63)).toInt64 = w := by
  refine lb_ext fun i hi => ?_
  rw [lb_shr 0 (by omega), Nat.zero_add]
theorem sh_8 (w : Int64) {j : Nat} (h : j + 8 < 64) : ((w.toUInt64 >>> ((nI j).toInt64.toUInt64 &&& Int64.toUInt64 63)).toInt64.toUInt64 >>> ((8 : Int32).toInt64.toUInt64 &&& Int64.toUInt64 63)).toInt64 = (w.toUInt64 >>> ((nI (j + 8)).toInt64.toUInt64 &&& Int64.toUInt64 63)).toInt64 := by
  refine lb_ext fun i hi => ?_
  rw [show (8 : Int32) = nI 8 from rfl, lb_shr 8 (by omega), lb_shr j (by omega), lb_shr (j + 8) h]
  congr 1
  omega
/-- n bytes from k on, the least first, as a long -/
def ld (f : Nat → Int32) (k : Nat) : Nat → Int64
  | 0 => 0
  | n + 1 => ld f k n ||| (((f (k + n)).toInt64 &&& 255) <<< ((nI (8 * n)).toInt64 &&& 63))
theorem ld_bit (f : Nat → Int32) (k : Nat) : ∀ n, n ≤ 8 → ∀ i, i < 64 → lb (ld f k n) i = (decide (i < 8 * n) && ib (f (k + i / 8)) (i % 8))
  | 0, _, i, hi => by
    show lb 0 i = _
    rw [lb_0]
    simp
  | n + 1, hn, i, hi => by
    show lb (ld f k n ||| (((f (k + n)).toInt64 &&& 255) <<< ((nI (8 * n)).toInt64 &&& 63))) i = _
    rw [lb_or, ld_bit f k n (by omega) i hi, lb_shl _ (by omega), lb_and, lb_255]
    rcases Nat.lt_trichotomy (i / 8) n with h | h | h
    · simp [show i < 8 * n by omega, show ¬ 8 * n ≤ i by omega, show i < 8 * (n + 1) by omega]
    · have e : i - 8 * n = i % 8 := by omega
      rw [e, lb_i2l _ (by omega), h]
      simp [show ¬ i < 8 * n by omega, show 8 * n ≤ i by omega, show i < 8 * (n + 1) by omega, hi, Nat.mod_lt i (show 0 < 8 by decide)]
    · simp [show ¬ i < 8 * n by omega, show 8 * n ≤ i by omega, show ¬ i < 8 * (n + 1) by omega, show ¬ i - 8 * n < 8 by omega]
theorem ld_congr {f g : Nat → Int32} {k j : Nat} : ∀ n, (∀ i, i < n → f (k + i) = g (j + i)) → ld f k n = ld g j n
  | 0, _ => rfl
  | n + 1, h => by
    show ld f k n ||| _ = ld g j n ||| _
    rw [ld_congr n (fun i hi => h i (by omega)), h n (by omega)]
/-- four bytes as an int -/
def ldI (f : Nat → Int32) (k : Nat) : Int32 := (((f k &&& 255) ||| ((f (k + 1) &&& 255) <<< ((8 : Int32) &&& 31))) ||| ((f (k + 2) &&& 255) <<< ((16 : Int32) &&& 31))) ||| (f (k + 3) <<< ((24 : Int32) &&& 31))
theorem ldI_bit (f : Nat → Int32) (k : Nat) (i : Nat) (hi : i < 32) : ib (ldI f k) i = ib (f (k + i / 8)) (i % 8) := by
  rw [ldI, ib_or, ib_or, ib_or, show (8 : Int32) = nI 8 from rfl, show (16 : Int32) = nI 16 from rfl, show (24 : Int32) = nI 24 from rfl, ib_shl 8 (by decide), ib_shl 16 (by decide), ib_shl 24 (by decide), ib_and, ib_and, ib_and, ib_255, ib_255, ib_255]
  have h4 : i / 8 < 4 := by omega
  rcases (show i / 8 = 0 ∨ i / 8 = 1 ∨ i / 8 = 2 ∨ i / 8 = 3 by omega) with h | h | h | h
  · rw [h, show i % 8 = i by omega]
    simp [show i < 8 by omega, show ¬ 8 ≤ i by omega, show ¬ 16 ≤ i by omega, show ¬ 24 ≤ i by omega]
  · rw [h, show i % 8 = i - 8 by omega]
    simp [show ¬ i < 8 by omega, show 8 ≤ i by omega, show ¬ 16 ≤ i by omega, show ¬ 24 ≤ i by omega, show i - 8 < 8 by omega, hi]
  · rw [h, show i % 8 = i - 16 by omega]
    simp [show ¬ i < 8 by omega, show 8 ≤ i by omega, show 16 ≤ i by omega, show ¬ 24 ≤ i by omega, show ¬ i - 8 < 8 by omega, show i - 16 < 8 by omega, hi]
  · rw [h, show i % 8 = i - 24 by omega]
    simp [show ¬ i < 8 by omega, show 8 ≤ i by omega, show 16 ≤ i by omega, show 24 ≤ i by omega, show ¬ i - 8 < 8 by omega, show ¬ i - 16 < 8 by omega, hi]
theorem ldI_ld (f : Nat → Int32) (k : Nat) : (((ldI f (k + 4)).toInt64 &&& 4294967295) <<< ((32 : Int32).toInt64 &&& 63)) ||| ((ldI f k).toInt64 &&& 4294967295) = ld f k 8 := by
  refine lb_ext fun i hi => ?_
  rw [ld_bit f k 8 (Nat.le_refl 8) i hi, lb_or, show (32 : Int32) = nI 32 from rfl, lb_shl 32 (by decide), lb_and, lb_and, lb_m32, lb_m32]
  by_cases h : i < 32
  · rw [lb_i2l _ h, ldI_bit _ _ _ h]
    simp [h, show ¬ 32 ≤ i by omega, hi]
  · rw [lb_i2l _ (show i - 32 < 32 by omega), ldI_bit _ _ _ (show i - 32 < 32 by omega)]
    simp [h, show 32 ≤ i by omega, hi, show i - 32 < 32 by omega]
    rw [show k + 4 + (i - 32) / 8 = k + i / 8 by omega, show (i - 32) % 8 = i % 8 by omega]
/-- bytes of a long, or of an int, laid into an array -/
def pw (f : Nat → Int32) (k : Nat) (w : Int64) (q : Nat) : Nat → Int32 := fun j => if k ≤ j ∧ j < k + q then bw w (j - k) else f j
def pI (f : Nat → Int32) (k : Nat) (v : Int32) (q : Nat) : Nat → Int32 := fun j => if k ≤ j ∧ j < k + q then bi v (j - k) else f j
theorem pI_0 (f : Nat → Int32) (k : Nat) (v : Int32) : pI f k v 0 = f := by
  funext j
  simp only [pI]
  rw [if_neg (by omega)]
theorem pI_s (f : Nat → Int32) (k : Nat) (v : Int32) (q : Nat) : upd (pI f k v q) (k + q) (bi v q) = pI f k v (q + 1) := by
  funext j
  simp only [upd, pI]
  by_cases h : j = k + q
  · rw [if_pos h, if_pos (by omega), h, Nat.add_sub_cancel_left]
  · rw [if_neg h]
    by_cases h2 : k ≤ j ∧ j < k + q
    · rw [if_pos h2, if_pos (by omega)]
    · rw [if_neg h2, if_neg (by omega)]
theorem pw_0 (f : Nat → Int32) (k : Nat) (v : Int64) : pw f k v 0 = f := by
  funext j
  simp only [pw]
  rw [if_neg (by omega)]
theorem pw_s (f : Nat → Int32) (k : Nat) (v : Int64) (q : Nat) : upd (pw f k v q) (k + q) (bw v q) = pw f k v (q + 1) := by
  funext j
  simp only [upd, pw]
  by_cases h : j = k + q
  · rw [if_pos h, if_pos (by omega), h, Nat.add_sub_cancel_left]
  · rw [if_neg h]
    by_cases h2 : k ≤ j ∧ j < k + q
    · rw [if_pos h2, if_pos (by omega)]
    · rw [if_neg h2, if_neg (by omega)]
theorem pI_pw (f : Nat → Int32) (k : Nat) (w : Int64) : pI (pI f k (w &&& 4294967295).toInt32 4) (k + 4) ((w.toUInt64 >>> ((32 : Int32).toInt64.toUInt64 &&& Int64.toUInt64 63)).toInt64).toInt32 4 = pw f k w 8 := by
  funext j
  simp only [pI, pw]
  by_cases h : k + 4 ≤ j ∧ j < k + 4 + 4
  · rw [if_pos h, if_pos (by omega), bi_hi w (by omega), show 4 + (j - (k + 4)) = j - k by omega]
  · rw [if_neg h]
    by_cases h2 : k ≤ j ∧ j < k + 4
    · rw [if_pos h2, if_pos (by omega), bi_lo w (by omega)]
    · rw [if_neg h2, if_neg (by omega)]
/-- the block with the padding's bit: pos bytes, then a byte 1, then zeros -/
theorem ld_pad (f g : Nat → Int32) (k j : Nat) {n : Nat} (hn : n < 8) (h : ∀ i, i < n → g (j + i) = f (k + i)) (h1 : g (j + n) = 1) (h0 : ∀ i, n < i → i < 8 → g (j + i) = 0) : ld f k n ^^^ ((1 : Int64) <<< ((nI (8 * n)).toInt64 &&& 63)) = ld g j 8 := by
  refine lb_ext fun i hi => ?_
  rw [lb_xor, ld_bit f k n (by omega) i hi, ld_bit g j 8 (by decide) i hi, lb_shl _ (by omega), lb_1]
  rcases Nat.lt_trichotomy (i / 8) n with c | c | c
  · rw [h _ c]
    simp [show i < 8 * n by omega, show ¬ 8 * n ≤ i by omega, show i < 8 * 8 by omega]
  · rw [c, h1]
    have e : ib 1 (i % 8) = decide (i % 8 = 0) := (by decide +kernel : ∀ q, q < 8 → ib 1 q = decide (q = 0)) _ (Nat.mod_lt _ (by decide))
    rw [e]
    simp [show ¬ i < 8 * n by omega, show 8 * n ≤ i by omega, hi]
    omega
  · rw [h0 _ c (by omega), ib_0]
    simp [show ¬ i < 8 * n by omega, show 8 * n ≤ i by omega, show ¬ i - 8 * n = 0 by omega]
/-! one round: the library's and the model's -/
/-- a round of the model, as its bytecode has it -/
def rndM (C : Int64) (x : P5) : P5 :=
  let a0 : Int64 := x.1 ^^^ x.2.2.2.2
  let a4 : Int64 := x.2.2.2.2 ^^^ x.2.2.2.1
  let a2 : Int64 := (x.2.2.1 ^^^ C) ^^^ x.2.1
  let y0 : Int64 := a0 ^^^ ((x.2.1 ^^^ (-1)) &&& a2)
  let y1 : Int64 := x.2.1 ^^^ ((a2 ^^^ (-1)) &&& x.2.2.2.1)
  let y2 : Int64 := a2 ^^^ ((x.2.2.2.1 ^^^ (-1)) &&& a4)
  let y3 : Int64 := x.2.2.2.1 ^^^ ((a4 ^^^ (-1)) &&& a0)
  let y4 : Int64 := a4 ^^^ ((a0 ^^^ (-1)) &&& x.2.1)
  let z1 : Int64 := y1 ^^^ y0
  let z0 : Int64 := y0 ^^^ y4
  let z3 : Int64 := y3 ^^^ y2
  let z2 : Int64 := y2 ^^^ (-1)
  ((z0 ^^^ rr_ z0 19) ^^^ rr_ z0 28, (z1 ^^^ rr_ z1 61) ^^^ rr_ z1 39, (z2 ^^^ rr_ z2 1) ^^^ rr_ z2 6, (z3 ^^^ rr_ z3 10) ^^^ rr_ z3 17, (y4 ^^^ rr_ y4 7) ^^^ rr_ y4 41)
theorem lb_rr (x : Int64) (d : Nat) (h0 : 0 < d) (hd : d < 64) (i : Nat) (hi : i < 64) : lb (rr_ x (nI d)) i = if d + i < 64 then lb x (d + i) else lb x (d + i - 64) := by
  have e : (-(nI d)).toInt64 &&& 63 = (nI (64 - d)).toInt64 &&& 63 := (by decide +kernel : ∀ d, d < 64 → (-(nI d)).toInt64 &&& 63 = (nI (64 - d)).toInt64 &&& 63) d hd
  rw [rr_, lb_or, lb_shr d hd, e, lb_shl _ (by omega)]
  by_cases h : d + i < 64
  · simp [h, show ¬ 64 ≤ i + d by omega]
  · rw [if_neg h, lb_big (by omega)]
    simp [show 64 ≤ i + d by omega, hi, show i - (64 - d) = d + i - 64 by omega]
theorem rr_not (x : Int64) (d : Nat) (h0 : 0 < d) (hd : d < 64) : rr_ (x ^^^ (-1)) (nI d) = rr_ x (nI d) ^^^ (-1) := by
  refine lb_ext fun i hi => ?_
  rw [lb_rr (x ^^^ (-1)) d h0 hd i hi, lb_xor (rr_ x (nI d)) (-1) i, lb_rr x d h0 hd i hi, lb_m1 hi]
  by_cases h : d + i < 64
  · rw [if_pos h, if_pos h, lb_xor, lb_m1 h]
  · rw [if_neg h, if_neg h, lb_xor, lb_m1 (by omega)]
theorem xor_sw (a b c : Int64) : (a ^^^ b) ^^^ c = (a ^^^ c) ^^^ b := by
  refine lb_ext fun i _ => ?_
  simp only [lb_xor]
  cases lb a i <;> cases lb b i <;> cases lb c i <;> rfl
theorem xor_nn (a b c : Int64) : ((a ^^^ (-1)) ^^^ (b ^^^ (-1))) ^^^ (c ^^^ (-1)) = ((a ^^^ b) ^^^ c) ^^^ (-1) := by
  refine lb_ext fun i hi => ?_
  simp only [lb_xor, lb_m1 hi]
  cases lb a i <;> cases lb b i <;> cases lb c i <;> rfl
/-- the two rounds are one function -/
theorem rnd_eq (C : Int64) (x : P5) : rndM C x = rnd C x := by
  obtain ⟨x0, x1, x2, x3, x4⟩ := x
  have e0 : (x0 ^^^ x4) ^^^ ((x1 ^^^ (-1)) &&& ((x2 ^^^ C) ^^^ x1)) ^^^ ((x4 ^^^ x3) ^^^ (((x0 ^^^ x4) ^^^ (-1)) &&& x1)) = ((x3 ^^^ (x1 ||| (x2 ^^^ C))) ^^^ x0) ^^^ (x1 &&& (x0 ^^^ x4)) := by
    refine lb_ext fun i hi => ?_
    simp only [lb_xor, lb_and, lb_or, lb_m1 hi]
    cases lb x0 i <;> cases lb x1 i <;> cases lb x2 i <;> cases lb x3 i <;> cases lb x4 i <;> cases lb C i <;> rfl
  have e1 : (x1 ^^^ ((((x2 ^^^ C) ^^^ x1) ^^^ (-1)) &&& x3)) ^^^ ((x0 ^^^ x4) ^^^ ((x1 ^^^ (-1)) &&& ((x2 ^^^ C) ^^^ x1))) = ((x0 ^^^ x4) ^^^ ((x1 ||| (x2 ^^^ C)) ||| x3)) ^^^ ((x1 &&& (x2 ^^^ C)) &&& x3) := by
    refine lb_ext fun i hi => ?_
    simp only [lb_xor, lb_and, lb_or, lb_m1 hi]
    cases lb x0 i <;> cases lb x1 i <;> cases lb x2 i <;> cases lb x3 i <;> cases lb x4 i <;> cases lb C i <;> rfl
  have e2 : ((x2 ^^^ C) ^^^ x1) ^^^ ((x3 ^^^ (-1)) &&& (x4 ^^^ x3)) = (x1 ^^^ (x2 ^^^ C)) ^^^ (x4 &&& (x3 ^^^ (-1))) := by
    refine lb_ext fun i hi => ?_
    simp only [lb_xor, lb_and, lb_or, lb_m1 hi]
    cases lb x0 i <;> cases lb x1 i <;> cases lb x2 i <;> cases lb x3 i <;> cases lb x4 i <;> cases lb C i <;> rfl
  have e3 : (x3 ^^^ (((x4 ^^^ x3) ^^^ (-1)) &&& (x0 ^^^ x4))) ^^^ (((x2 ^^^ C) ^^^ x1) ^^^ ((x3 ^^^ (-1)) &&& (x4 ^^^ x3))) = (x0 ||| (x3 ^^^ x4)) ^^^ (x1 ^^^ (x2 ^^^ C)) := by
    refine lb_ext fun i hi => ?_
    simp only [lb_xor, lb_and, lb_or, lb_m1 hi]
    cases lb x0 i <;> cases lb x1 i <;> cases lb x2 i <;> cases lb x3 i <;> cases lb x4 i <;> cases lb C i <;> rfl
  have e4 : (x4 ^^^ x3) ^^^ (((x0 ^^^ x4) ^^^ (-1)) &&& x1) = (x3 ^^^ (x1 ||| x4)) ^^^ (x0 &&& x1) := by
    refine lb_ext fun i hi => ?_
    simp only [lb_xor, lb_and, lb_or, lb_m1 hi]
    cases lb x0 i <;> cases lb x1 i <;> cases lb x2 i <;> cases lb x3 i <;> cases lb x4 i <;> cases lb C i <;> rfl
  simp only [rndM, rnd]
  rw [e0, e1, e3, e2, e4]
  rw [show (1 : Int32) = nI 1 from rfl, show (6 : Int32) = nI 6 from rfl, rr_not _ 1 (by decide) (by decide), rr_not _ 6 (by decide) (by decide), xor_nn]
  rw [xor_sw (((x0 ^^^ x4) ^^^ ((x1 ||| (x2 ^^^ C)) ||| x3)) ^^^ ((x1 &&& (x2 ^^^ C)) &&& x3)) (rr_ _ 61)]
theorem ld_one (f : Nat → Int32) (k : Nat) : (f k).toInt64 &&& 255 = ld f k 1 := by
  refine lb_ext fun i hi => ?_
  rw [ld_bit f k 1 (by decide) i hi, lb_and, lb_255]
  by_cases h : i < 8
  · rw [lb_i2l _ (by omega), show i / 8 = 0 by omega, show i % 8 = i by omega]
    simp [h]
  · simp [h]
end
section
/-! bytes: Pack, Arrays.fill, OwnArrays.clear -/
set_option maxHeartbeats 4000000 in
set_option maxRecDepth 100000 in
/-- Pack.intToLittleEndian -/
theorem m_ltI (l : Launch) (D : va_G) (dB dN dL : ClassId) (h0 n k : Nat) (f : Nat → Int32) (v : Int32) (sz : Nat) (hk : k + 4 ≤ n) (hn : n < 2 ^ 31) : Cv_ l yX13_intToLittleEndian (ws_ yX13_intToLittleEndian cX13_intToLittleEndian 3 none) (rm_ 0 0 0 0) D dB dN dL [.int v, .ref h0, .int (nI k)] [(h0, .inl (dB, n, .inl f))] sz (S := Unit) (fun _ => True) (fun _ => [(h0, .inl (dB, n, .inl (pI f k v 4)))]) := by
  refine ct_of (cc := cX13_intToLittleEndian) (maxL := 3) (ret := none) (by decide) rfl (Nat.le_of_ble_eq_true rfl) (fun p e s m below meth c A ls hx hb hml hr hlocks hts hown hin hP hK hD hA hX hS hl => ?_)
  have hown : s.vm.findClass RX13 = some m.cls := hown
  have hl : lv_has ls 3 [(0, .int v), (1, .ref h0), (2, .int (nI k))] := hl
  refine lv_aload_n hx hb dX13_intToLittleEndian_0 rfl (lv_at hl 1 rfl) ?_
  refine lv_iload_n hx hb dX13_intToLittleEndian_1 rfl (lv_at hl 2 rfl) ?_
  refine lv_iload_n hx hb dX13_intToLittleEndian_2 rfl (lv_at hl 0 rfl) ?_
  refine lv_i2b hx hb dX13_intToLittleEndian_3 rfl ?_
  refine nmTi (b := (bi v 0)) (bi_0 v) ?_
  refine va_bast hx hb hK hP hD hS 0 0 rfl rfl (vp_in_nI (by omega) (by omega)) dX13_intToLittleEndian_4 (fun H locs hP hD hS => ?_)
  have eg_1 : upd f (nI k).toNatClampNeg (vp_nar .byte (bi v 0)) = pI f k v 1 := (by rw [nI_clamp (by omega), show vp_nar .byte (bi v 0) = bi v 0 from pk_vb _]; exact (congrArg (fun g => upd g k (bi v 0)) (pI_0 f k v).symm).trans (pI_s f k v 0))
  rw [eg_1] at hP hD
  have hP : va_P D CL [(h0, .inl (dB, n, .inl (pI f k v 1)))] H := hP
  have hD : va_D A [(h0, .inl (dB, n, .inl (pI f k v 1)))] := hD
  refine lv_aload_n hx hb dX13_intToLittleEndian_5 rfl (lv_at hl 1 rfl) ?_
  refine lv_iinc (v := (nI (k + 1))) (lv' := [(2, .int (nI (k + 1))), (0, .int v), (1, .ref h0)]) hx hb dX13_intToLittleEndian_6 hl (k := 2) rfl (ii1 _) (by decide) rfl (fun ls hl => ?_)
  refine lv_iload_n hx hb dX13_intToLittleEndian_9 rfl (lv_at hl 0 rfl) ?_
  refine lv_iload_n hx hb dX13_intToLittleEndian_10 rfl (lv_at hl 1 rfl) ?_
  refine lv_bipush (v := 8) hx hb dX13_intToLittleEndian_11 (by decide) ?_
  refine lv_iushr hx hb dX13_intToLittleEndian_13 rfl ?_
  refine lv_i2b hx hb dX13_intToLittleEndian_14 rfl ?_
  refine nmTi (b := (bi v 1)) rfl ?_
  refine va_bast hx hb hK hP hD hS 0 0 rfl rfl (vp_in_nI (by omega) (by omega)) dX13_intToLittleEndian_15 (fun H locs hP hD hS => ?_)
  have eg_2 : upd (pI f k v 1) (nI (k + 1)).toNatClampNeg (vp_nar .byte (bi v 1)) = pI f k v 2 := (by rw [nI_clamp (by omega), show vp_nar .byte (bi v 1) = bi v 1 from pk_vb _]; exact pI_s f k v 1)
  rw [eg_2] at hP hD
  have hP : va_P D CL [(h0, .inl (dB, n, .inl (pI f k v 2)))] H := hP
  have hD : va_D A [(h0, .inl (dB, n, .inl (pI f k v 2)))] := hD
  refine lv_aload_n hx hb dX13_intToLittleEndian_16 rfl (lv_at hl 2 rfl) ?_
  refine lv_iinc (v := (nI (k + 2))) (lv' := [(2, .int (nI (k + 2))), (0, .int v), (1, .ref h0)]) hx hb dX13_intToLittleEndian_17 hl (k := 0) rfl (ii1 _) (by decide) rfl (fun ls hl => ?_)
  refine lv_iload_n hx hb dX13_intToLittleEndian_20 rfl (lv_at hl 0 rfl) ?_
  refine lv_iload_n hx hb dX13_intToLittleEndian_21 rfl (lv_at hl 1 rfl) ?_
  refine lv_bipush (v := 16) hx hb dX13_intToLittleEndian_22 (by decide) ?_
  refine lv_iushr hx hb dX13_intToLittleEndian_24 rfl ?_
  refine lv_i2b hx hb dX13_intToLittleEndian_25 rfl ?_
  refine nmTi (b := (bi v 2)) rfl ?_
  refine va_bast hx hb hK hP hD hS 0 0 rfl rfl (vp_in_nI (by omega) (by omega)) dX13_intToLittleEndian_26 (fun H locs hP hD hS => ?_)
  have eg_3 : upd (pI f k v 2) (nI (k + 2)).toNatClampNeg (vp_nar .byte (bi v 2)) = pI f k v 3 := (by rw [nI_clamp (by omega), show vp_nar .byte (bi v 2) = bi v 2 from pk_vb _]; exact pI_s f k v 2)
  rw [eg_3] at hP hD
  have hP : va_P D CL [(h0, .inl (dB, n, .inl (pI f k v 3)))] H := hP
  have hD : va_D A [(h0, .inl (dB, n, .inl (pI f k v 3)))] := hD
  refine lv_aload_n hx hb dX13_intToLittleEndian_27 rfl (lv_at hl 2 rfl) ?_
  refine lv_iinc (v := (nI (k + 3))) (lv' := [(2, .int (nI (k + 3))), (0, .int v), (1, .ref h0)]) hx hb dX13_intToLittleEndian_28 hl (k := 0) rfl (ii1 _) (by decide) rfl (fun ls hl => ?_)
  refine lv_iload_n hx hb dX13_intToLittleEndian_31 rfl (lv_at hl 0 rfl) ?_
  refine lv_iload_n hx hb dX13_intToLittleEndian_32 rfl (lv_at hl 1 rfl) ?_
  refine lv_bipush (v := 24) hx hb dX13_intToLittleEndian_33 (by decide) ?_
  refine lv_iushr hx hb dX13_intToLittleEndian_35 rfl ?_
  refine lv_i2b hx hb dX13_intToLittleEndian_36 rfl ?_
  refine nmTi (b := (bi v 3)) rfl ?_
  refine va_bast hx hb hK hP hD hS 0 0 rfl rfl (vp_in_nI (by omega) (by omega)) dX13_intToLittleEndian_37 (fun H locs hP hD hS => ?_)
  have eg_4 : upd (pI f k v 3) (nI (k + 3)).toNatClampNeg (vp_nar .byte (bi v 3)) = pI f k v 4 := (by rw [nI_clamp (by omega), show vp_nar .byte (bi v 3) = bi v 3 from pk_vb _]; exact pI_s f k v 3)
  rw [eg_4] at hP hD
  have hP : va_P D CL [(h0, .inl (dB, n, .inl (pI f k v 4)))] H := hP
  have hD : va_D A [(h0, .inl (dB, n, .inl (pI f k v 4)))] := hD
  exact rt_v hx hb hr hlocks hP hK hD hS dX13_intToLittleEndian_38 () [0] rfl (by decide) trivial

set_option maxHeartbeats 4000000 in
set_option maxRecDepth 100000 in
/-- Pack.longToLittleEndian -/
theorem m_ltL (l : Launch) (D : va_G) (dB dN dL : ClassId) (h0 n k : Nat) (f : Nat → Int32) (x : Int64) (sz : Nat) (hk : k + 8 ≤ n) (hn : n < 2 ^ 31) : Cv_ l yX13_longToLittleEndian (ws_ yX13_longToLittleEndian cX13_longToLittleEndian 4 none) (rm_ 1 0 0 22) D dB dN dL [.long x, .ref h0, .int (nI k)] [(h0, .inl (dB, n, .inl f))] sz (S := Unit) (fun _ => True) (fun _ => [(h0, .inl (dB, n, .inl (pw f k x 8)))]) := by
  refine ct_of (cc := cX13_longToLittleEndian) (maxL := 4) (ret := none) (by decide) rfl (Nat.le_of_ble_eq_true rfl) (fun p e s m below meth c A ls hx hb hml hr hlocks hts hown hin hP hK hD hA hX hS hl => ?_)
  have hown : s.vm.findClass RX13 = some m.cls := hown
  have hl : lv_has ls 4 [(0, .long x), (2, .ref h0), (3, .int (nI k))] := hl
  refine lv_lload_n hx hb dX13_longToLittleEndian_0 rfl (lv_at hl 0 rfl) ?_
  refine lv_ldc2 (v := 4294967295) hx hb hown (hts _ q378) dX13_longToLittleEndian_1 ?_
  refine lv_land hx hb dX13_longToLittleEndian_4 ?_
  refine lv_l2i hx hb dX13_longToLittleEndian_5 rfl ?_
  refine lv_aload_n hx hb dX13_longToLittleEndian_6 rfl (lv_at hl 1 rfl) ?_
  refine lv_iload_n hx hb dX13_longToLittleEndian_7 rfl (lv_at hl 2 rfl) ?_
  refine cl_v [(h0, .inl (dB, n, .inl f))] [] [0] [] rfl rfl (by decide) (by decide) hP hD hS hA (va_runS (As := [.int ((x &&& 4294967295).toInt32), .ref h0, .int (nI k)]) (rest := []) ⟨hx, hb, hml, hown, hts⟩ (m_ltI l D dB dN dL h0 n k f ((x &&& 4294967295).toInt32) _ (by omega) hn) (va_cwS 3 hts (lw_S q525 q526 q28 q527) rfl rfl rfl (by decide +kernel) ⟨Nat.le_of_ble_eq_true rfl, Nat.le_of_ble_eq_true rfl⟩) (pv_ (As := [.int ((x &&& 4294967295).toInt32), .ref h0, .int (nI k)]) [0] rfl (by decide) hP hK hD hS hA hX) rfl rfl hl.1 rfl (lv_room (Nat.le_of_ble_eq_true rfl)) dX13_longToLittleEndian_8 ⟨Nat.le_of_ble_eq_true rfl, Nat.le_of_ble_eq_true rfl⟩) (fun u_1 H locs hw_2 hP hD hS => ?_)
  have hP : va_P D CL [(h0, .inl (dB, n, .inl (pI f k ((x &&& 4294967295).toInt32) 4)))] H := hP
  have hD : va_D A [(h0, .inl (dB, n, .inl (pI f k ((x &&& 4294967295).toInt32) 4)))] := hD
  refine lv_lload_n hx hb dX13_longToLittleEndian_11 rfl (lv_at hl 0 rfl) ?_
  refine lv_bipush (v := 32) hx hb dX13_longToLittleEndian_12 (by decide) ?_
  refine lv_lushr hx hb dX13_longToLittleEndian_14 rfl ?_
  refine lv_l2i hx hb dX13_longToLittleEndian_15 rfl ?_
  refine lv_aload_n hx hb dX13_longToLittleEndian_16 rfl (lv_at hl 1 rfl) ?_
  refine lv_iload_n hx hb dX13_longToLittleEndian_17 rfl (lv_at hl 2 rfl) ?_
  refine lv_iconst (v := 4) hx hb dX13_longToLittleEndian_18 (by decide) ?_
  refine lv_iadd hx hb dX13_longToLittleEndian_19 ?_
  refine nmTi (b := (nI (k + 4))) (show nI k + 4 = nI (k + 4) from nI_add k 4) ?_
  refine cl_v [(h0, .inl (dB, n, .inl (pI f k ((x &&& 4294967295).toInt32) 4)))] [] [0] [] rfl rfl (by decide) (by decide) hP hD hS hA (va_runS (As := [.int (((x.toUInt64 >>> ((32 : Int32).toInt64.toUInt64 &&& Int64.toUInt64 63)).toInt64).toInt32), .ref h0, .int (nI (k + 4))]) (rest := []) ⟨hx, hb, hml, hown, hts⟩ (m_ltI l D dB dN dL h0 n (k + 4) (pI f k ((x &&& 4294967295).toInt32) 4) (((x.toUInt64 >>> ((32 : Int32).toInt64.toUInt64 &&& Int64.toUInt64 63)).toInt64).toInt32) _ (by omega) hn) (va_cwS 3 hts (lw_S q525 q526 q28 q527) rfl rfl rfl (by decide +kernel) ⟨Nat.le_of_ble_eq_true rfl, Nat.le_of_ble_eq_true rfl⟩) (pv_ (As := [.int (((x.toUInt64 >>> ((32 : Int32).toInt64.toUInt64 &&& Int64.toUInt64 63)).toInt64).toInt32), .ref h0, .int (nI (k + 4))]) [0] rfl (by decide) hP hK hD hS hA hX) rfl rfl hl.1 rfl (lv_room (Nat.le_of_ble_eq_true rfl)) dX13_longToLittleEndian_20 ⟨Nat.le_of_ble_eq_true rfl, Nat.le_of_ble_eq_true rfl⟩) (fun u_4 H locs hw_5 hP hD hS => ?_)
  have hP : va_P D CL [(h0, .inl (dB, n, .inl (pI (pI f k ((x &&& 4294967295).toInt32) 4) (k + 4) (((x.toUInt64 >>> ((32 : Int32).toInt64.toUInt64 &&& Int64.toUInt64 63)).toInt64).toInt32) 4)))] H := hP
  have hD : va_D A [(h0, .inl (dB, n, .inl (pI (pI f k ((x &&& 4294967295).toInt32) 4) (k + 4) (((x.toUInt64 >>> ((32 : Int32).toInt64.toUInt64 &&& Int64.toUInt64 63)).toInt64).toInt32) 4)))] := hD
  rw [pI_pw] at hP hD
  have hP : va_P D CL [(h0, .inl (dB, n, .inl (pw f k x 8)))] H := hP
  have hD : va_D A [(h0, .inl (dB, n, .inl (pw f k x 8)))] := hD
  exact rt_v hx hb hr hlocks hP hK hD hS dX13_longToLittleEndian_23 () [0] rfl (by decide) trivial

set_option maxHeartbeats 4000000 in
set_option maxRecDepth 100000 in
/-- Pack.littleEndianToInt -/
theorem m_leI (l : Launch) (D : va_G) (dB dN dL : ClassId) (h0 n k : Nat) (f : Nat → Int32) (sz : Nat) (hk : k + 4 ≤ n) (hn : n < 2 ^ 31) : Ci_ l yX13_littleEndianToInt (ws_ yX13_littleEndianToInt cX13_littleEndianToInt 3 (some .int)) (rm_ 0 0 0 0) D dB dN dL [.ref h0, .int (nI k)] [(h0, .inl (dB, n, .inl f))] sz (S := Unit) (fun r _ => r = ldI f k) (fun _ => [(h0, .inl (dB, n, .inl f))]) := by
  refine ct_of (cc := cX13_littleEndianToInt) (maxL := 3) (ret := (some .int)) (by decide) rfl (Nat.le_of_ble_eq_true rfl) (fun p e s m below meth c A ls hx hb hml hr hlocks hts hown hin hP hK hD hA hX hS hl => ?_)
  have hown : s.vm.findClass RX13 = some m.cls := hown
  have hl : lv_has ls 3 [(0, .ref h0), (1, .int (nI k))] := hl
  refine lv_aload_n hx hb dX13_littleEndianToInt_0 rfl (lv_at hl 0 rfl) ?_
  refine lv_iload_n hx hb dX13_littleEndianToInt_1 rfl (lv_at hl 1 rfl) ?_
  refine va_bald hx hb hK hP 0 0 rfl rfl (vp_in_nI (by omega) (by omega)) dX13_littleEndianToInt_2 ?_
  refine nmTi (b := (f k)) (cl_f f (by omega)) ?_
  refine lv_sipush (v := 255) hx hb dX13_littleEndianToInt_3 (by decide) ?_
  refine lv_iand hx hb dX13_littleEndianToInt_6 ?_
  refine lv_istore_n (lv' := [(2, .int ((f k) &&& 255)), (0, .ref h0), (1, .int (nI k))]) hx hb dX13_littleEndianToInt_7 rfl hl (by decide) rfl (fun ls hl => ?_)
  refine lv_iload_n hx hb dX13_littleEndianToInt_8 rfl (lv_at hl 0 rfl) ?_
  refine lv_aload_n hx hb dX13_littleEndianToInt_9 rfl (lv_at hl 1 rfl) ?_
  refine lv_iinc (v := (nI (k + 1))) (lv' := [(1, .int (nI (k + 1))), (2, .int ((f k) &&& 255)), (0, .ref h0)]) hx hb dX13_littleEndianToInt_10 hl (k := 2) rfl (ii1 _) (by decide) rfl (fun ls hl => ?_)
  refine lv_iload_n hx hb dX13_littleEndianToInt_13 rfl (lv_at hl 0 rfl) ?_
  refine va_bald hx hb hK hP 0 0 rfl rfl (vp_in_nI (by omega) (by omega)) dX13_littleEndianToInt_14 ?_
  refine nmTi (b := (f (k + 1))) (cl_f f (by omega)) ?_
  refine lv_sipush (v := 255) hx hb dX13_littleEndianToInt_15 (by decide) ?_
  refine lv_iand hx hb dX13_littleEndianToInt_18 ?_
  refine lv_bipush (v := 8) hx hb dX13_littleEndianToInt_19 (by decide) ?_
  refine lv_ishl hx hb dX13_littleEndianToInt_21 ?_
  refine lv_ior hx hb dX13_littleEndianToInt_22 ?_
  refine lv_istore_n (lv' := [(2, .int (((f k) &&& 255) ||| (((f (k + 1)) &&& 255) <<< ((8 : Int32) &&& 31)))), (1, .int (nI (k + 1))), (0, .ref h0)]) hx hb dX13_littleEndianToInt_23 rfl hl (by decide) rfl (fun ls hl => ?_)
  refine lv_iload_n hx hb dX13_littleEndianToInt_24 rfl (lv_at hl 0 rfl) ?_
  refine lv_aload_n hx hb dX13_littleEndianToInt_25 rfl (lv_at hl 2 rfl) ?_
  refine lv_iinc (v := (nI (k + 2))) (lv' := [(1, .int (nI (k + 2))), (2, .int (((f k) &&& 255) ||| (((f (k + 1)) &&& 255) <<< ((8 : Int32) &&& 31)))), (0, .ref h0)]) hx hb dX13_littleEndianToInt_26 hl (k := 1) rfl (ii1 _) (by decide) rfl (fun ls hl => ?_)
  refine lv_iload_n hx hb dX13_littleEndianToInt_29 rfl (lv_at hl 0 rfl) ?_
  refine va_bald hx hb hK hP 0 0 rfl rfl (vp_in_nI (by omega) (by omega)) dX13_littleEndianToInt_30 ?_
  refine nmTi (b := (f (k + 2))) (cl_f f (by omega)) ?_
  refine lv_sipush (v := 255) hx hb dX13_littleEndianToInt_31 (by decide) ?_
  refine lv_iand hx hb dX13_littleEndianToInt_34 ?_
  refine lv_bipush (v := 16) hx hb dX13_littleEndianToInt_35 (by decide) ?_
  refine lv_ishl hx hb dX13_littleEndianToInt_37 ?_
  refine lv_ior hx hb dX13_littleEndianToInt_38 ?_
  refine lv_istore_n (lv' := [(2, .int ((((f k) &&& 255) ||| (((f (k + 1)) &&& 255) <<< ((8 : Int32) &&& 31))) ||| (((f (k + 2)) &&& 255) <<< ((16 : Int32) &&& 31)))), (1, .int (nI (k + 2))), (0, .ref h0)]) hx hb dX13_littleEndianToInt_39 rfl hl (by decide) rfl (fun ls hl => ?_)
  refine lv_iload_n hx hb dX13_littleEndianToInt_40 rfl (lv_at hl 0 rfl) ?_
  refine lv_aload_n hx hb dX13_littleEndianToInt_41 rfl (lv_at hl 2 rfl) ?_
  refine lv_iinc (v := (nI (k + 3))) (lv' := [(1, .int (nI (k + 3))), (2, .int ((((f k) &&& 255) ||| (((f (k + 1)) &&& 255) <<< ((8 : Int32) &&& 31))) ||| (((f (k + 2)) &&& 255) <<< ((16 : Int32) &&& 31)))), (0, .ref h0)]) hx hb dX13_littleEndianToInt_42 hl (k := 1) rfl (ii1 _) (by decide) rfl (fun ls hl => ?_)
  refine lv_iload_n hx hb dX13_littleEndianToInt_45 rfl (lv_at hl 0 rfl) ?_
  refine va_bald hx hb hK hP 0 0 rfl rfl (vp_in_nI (by omega) (by omega)) dX13_littleEndianToInt_46 ?_
  refine nmTi (b := (f (k + 3))) (cl_f f (by omega)) ?_
  refine lv_bipush (v := 24) hx hb dX13_littleEndianToInt_47 (by decide) ?_
  refine lv_ishl hx hb dX13_littleEndianToInt_49 ?_
  refine lv_ior hx hb dX13_littleEndianToInt_50 ?_
  refine lv_istore_n (lv' := [(2, .int (((((f k) &&& 255) ||| (((f (k + 1)) &&& 255) <<< ((8 : Int32) &&& 31))) ||| (((f (k + 2)) &&& 255) <<< ((16 : Int32) &&& 31))) ||| ((f (k + 3)) <<< ((24 : Int32) &&& 31)))), (1, .int (nI (k + 3))), (0, .ref h0)]) hx hb dX13_littleEndianToInt_51 rfl hl (by decide) rfl (fun ls hl => ?_)
  refine lv_iload_n hx hb dX13_littleEndianToInt_52 rfl (lv_at hl 0 rfl) ?_
  exact rt_i hx hb hr hlocks hP hK hD hS dX13_littleEndianToInt_53 () [0] rfl (by decide) rfl

set_option maxHeartbeats 4000000 in
set_option maxRecDepth 100000 in
/-- Pack.littleEndianToLong -/
theorem m_leL (l : Launch) (D : va_G) (dB dN dL : ClassId) (h0 n k : Nat) (f : Nat → Int32) (sz : Nat) (hk : k + 8 ≤ n) (hn : n < 2 ^ 31) : Cl_ l yX13_littleEndianToLong (ws_ yX13_littleEndianToLong cX13_littleEndianToLong 4 (some .long)) (rm_ 1 0 0 22) D dB dN dL [.ref h0, .int (nI k)] [(h0, .inl (dB, n, .inl f))] sz (S := Unit) (fun r _ => r = ld f k 8) (fun _ => [(h0, .inl (dB, n, .inl f))]) := by
  refine ct_of (cc := cX13_littleEndianToLong) (maxL := 4) (ret := (some .long)) (by decide) rfl (Nat.le_of_ble_eq_true rfl) (fun p e s m below meth c A ls hx hb hml hr hlocks hts hown hin hP hK hD hA hX hS hl => ?_)
  have hown : s.vm.findClass RX13 = some m.cls := hown
  have hl : lv_has ls 4 [(0, .ref h0), (1, .int (nI k))] := hl
  refine lv_aload_n hx hb dX13_littleEndianToLong_0 rfl (lv_at hl 0 rfl) ?_
  refine lv_iload_n hx hb dX13_littleEndianToLong_1 rfl (lv_at hl 1 rfl) ?_
  refine cl_i [(h0, .inl (dB, n, .inl f))] [] [0] [] rfl rfl (by decide) (by decide) hP hD hS hA (va_runS (As := [.ref h0, .int (nI k)]) (rest := []) ⟨hx, hb, hml, hown, hts⟩ (m_leI l D dB dN dL h0 n k f _ (by omega) hn) (va_cwS 2 hts (lw_S q375 q376 q28 q377) rfl rfl rfl (by decide +kernel) ⟨Nat.le_of_ble_eq_true rfl, Nat.le_of_ble_eq_true rfl⟩) (pv_ (As := [.ref h0, .int (nI k)]) [0] rfl (by decide) hP hK hD hS hA hX) rfl rfl hl.1 rfl (lv_room (Nat.le_of_ble_eq_true rfl)) dX13_littleEndianToLong_2 ⟨Nat.le_of_ble_eq_true rfl, Nat.le_of_ble_eq_true rfl⟩) (fun r_3 u_1 H locs hw_2 hP hD hS => ?_)
  have hP : va_P D CL [(h0, .inl (dB, n, .inl f))] H := hP
  have hD : va_D A [(h0, .inl (dB, n, .inl f))] := hD
  refine lv_istore_n (lv' := [(2, .int r_3), (0, .ref h0), (1, .int (nI k))]) hx hb dX13_littleEndianToLong_5 rfl hl (by decide) rfl (fun ls hl => ?_)
  refine lv_aload_n hx hb dX13_littleEndianToLong_6 rfl (lv_at hl 1 rfl) ?_
  refine lv_iload_n hx hb dX13_littleEndianToLong_7 rfl (lv_at hl 2 rfl) ?_
  refine lv_iconst (v := 4) hx hb dX13_littleEndianToLong_8 (by decide) ?_
  refine lv_iadd hx hb dX13_littleEndianToLong_9 ?_
  refine nmTi (b := (nI (k + 4))) (show nI k + 4 = nI (k + 4) from nI_add k 4) ?_
  refine cl_i [(h0, .inl (dB, n, .inl f))] [] [0] [] rfl rfl (by decide) (by decide) hP hD hS hA (va_runS (As := [.ref h0, .int (nI (k + 4))]) (rest := []) ⟨hx, hb, hml, hown, hts⟩ (m_leI l D dB dN dL h0 n (k + 4) f _ (by omega) hn) (va_cwS 2 hts (lw_S q375 q376 q28 q377) rfl rfl rfl (by decide +kernel) ⟨Nat.le_of_ble_eq_true rfl, Nat.le_of_ble_eq_true rfl⟩) (pv_ (As := [.ref h0, .int (nI (k + 4))]) [0] rfl (by decide) hP hK hD hS hA hX) rfl rfl hl.1 rfl (lv_room (Nat.le_of_ble_eq_true rfl)) dX13_littleEndianToLong_10 ⟨Nat.le_of_ble_eq_true rfl, Nat.le_of_ble_eq_true rfl⟩) (fun r_6 u_4 H locs hw_5 hP hD hS => ?_)
  have hP : va_P D CL [(h0, .inl (dB, n, .inl f))] H := hP
  have hD : va_D A [(h0, .inl (dB, n, .inl f))] := hD
  refine lv_istore_n (lv' := [(3, .int r_6), (2, .int r_3), (0, .ref h0), (1, .int (nI k))]) hx hb dX13_littleEndianToLong_13 rfl hl (by decide) rfl (fun ls hl => ?_)
  refine lv_iload_n hx hb dX13_littleEndianToLong_14 rfl (lv_at hl 0 rfl) ?_
  refine lv_i2l hx hb dX13_littleEndianToLong_15 rfl ?_
  refine lv_ldc2 (v := 4294967295) hx hb hown (hts _ q378) dX13_littleEndianToLong_16 ?_
  refine lv_land hx hb dX13_littleEndianToLong_19 ?_
  refine lv_bipush (v := 32) hx hb dX13_littleEndianToLong_20 (by decide) ?_
  refine lv_lshl hx hb dX13_littleEndianToLong_22 rfl ?_
  refine lv_iload_n hx hb dX13_littleEndianToLong_23 rfl (lv_at hl 1 rfl) ?_
  refine lv_i2l hx hb dX13_littleEndianToLong_24 rfl ?_
  refine lv_ldc2 (v := 4294967295) hx hb hown (hts _ q378) dX13_littleEndianToLong_25 ?_
  refine lv_land hx hb dX13_littleEndianToLong_28 ?_
  refine lv_lor hx hb dX13_littleEndianToLong_29 ?_
  exact rt_l hx hb hr hlocks hP hK hD hS dX13_littleEndianToLong_30 () [0] rfl (by decide) (by rw [hw_2, hw_5]; exact ldI_ld f k)

set_option maxHeartbeats 4000000 in
set_option maxRecDepth 100000 in
theorem L_leLow {p : Program} {l : Launch} {e : Env} {s : State} {m : MethodId} {below : List Frame} {meth : Method} {c : Code} {D : va_G} {dB dN dL : ClassId} {A : Nat → Prop} {R : Room} {args : Array Value} {Q : State → Prop} {cells slots : Nat} (hx : p.tables.exec = Jvm.exec) (hb : c.code = cX13_littleEndianToLong_Low) (hml : c.maxLocals = 7) (hts : ∀ w ∈ lw_all, w.before args s = true) (hown : s.vm.findClass RX13 = some m.cls) (hK : va_K D CL (TY dB dN dL) s) (hA : ∀ q : Nat, s.heap.size ≤ q → A q) (hX : xt A s s.heap) (h0 n k q : Nat) (f : Nat → Int32) (hk : k + q ≤ n) (hq : q ≤ 8) (h1 : 1 ≤ q) (hn : n < 2 ^ 31) (kk : WG p l e R s m args below meth c D A cells slots Q 7 [(h0, .inl (dB, n, .inl f))] [(0, .ref h0), (1, .int (nI k)), (2, .int (nI q)), (3, .long (ld f k q)), (5, .int (nI (8 * (q - 1)))), (6, .int (nI ((q - 1) + 1)))] 47) :
    ∀ (d i : Nat), i + 1 + d = q → WG p l e R s m args below meth c D A cells slots Q 7 [(h0, .inl (dB, n, .inl f))] [(0, .ref h0), (1, .int (nI k)), (2, .int (nI q)), (3, .long (ld f k (i + 1))), (5, .int (nI (8 * i))), (6, .int (nI (i + 1)))] 15 := by
  intro d
  induction d with
  | zero =>
    intro i hi H locs ls hP hD hS hl
    refine lv_iload hx hb dX13_littleEndianToLong_Low_15 (lv_at hl 5 rfl) ?_
    refine lv_iload_n hx hb dX13_littleEndianToLong_Low_17 rfl (lv_at hl 2 rfl) ?_
    refine lv_icmp_ge (tgt := 47) hx hb dX13_littleEndianToLong_Low_18 (by decide) (fun _ => ?_) (fun c_1 => absurd (show nI q ≤ nI (i + 1) from nI_le (by omega) (by omega)) c_1)
    have e : q = i + 1 := by omega
    subst e
    exact kk H locs ls hP hD hS hl
  | succ d ih =>
    intro i hi H locs ls hP hD hS hl
    refine lv_iload hx hb dX13_littleEndianToLong_Low_15 (lv_at hl 5 rfl) ?_
    refine lv_iload_n hx hb dX13_littleEndianToLong_Low_17 rfl (lv_at hl 2 rfl) ?_
    refine lv_icmp_ge (tgt := 47) hx hb dX13_littleEndianToLong_Low_18 (by decide) (fun c_b1 => absurd c_b1 (nI_ge (show i + 1 < q by omega) (by omega))) (fun _ => ?_)
    refine lv_iinc (v := (nI (8 * (i + 1)))) (lv' := [(5, .int (nI (8 * (i + 1)))), (0, .ref h0), (1, .int (nI k)), (2, .int (nI q)), (3, .long (ld f k (i + 1))), (6, .int (nI (i + 1)))]) hx hb dX13_littleEndianToLong_Low_21 hl (k := 4) rfl (ii8 _) (by decide) rfl (fun ls hl => ?_)
    refine lv_lload_n hx hb dX13_littleEndianToLong_Low_24 rfl (lv_at hl 4 rfl) ?_
    refine lv_aload_n hx hb dX13_littleEndianToLong_Low_25 rfl (lv_at hl 1 rfl) ?_
    refine lv_iload_n hx hb dX13_littleEndianToLong_Low_26 rfl (lv_at hl 2 rfl) ?_
    refine lv_iload hx hb dX13_littleEndianToLong_Low_27 (lv_at hl 5 rfl) ?_
    refine lv_iadd hx hb dX13_littleEndianToLong_Low_29 ?_
    refine nmTi (nI_add k (i + 1)) ?_
    refine va_bald hx hb hK hP 0 0 rfl rfl (vp_in_nI (by omega) (by omega)) dX13_littleEndianToLong_Low_30 ?_
    refine nmTi (b := (f (k + (i + 1)))) (cl_f f (by omega)) ?_
    refine lv_i2l hx hb dX13_littleEndianToLong_Low_31 rfl ?_
    refine lv_ldc2 (v := 255) hx hb hown (hts _ q504) dX13_littleEndianToLong_Low_32 ?_
    refine lv_land hx hb dX13_littleEndianToLong_Low_35 ?_
    refine lv_iload hx hb dX13_littleEndianToLong_Low_36 (lv_at hl 0 rfl) ?_
    refine lv_lshl hx hb dX13_littleEndianToLong_Low_38 rfl ?_
    refine lv_lor hx hb dX13_littleEndianToLong_Low_39 ?_
    refine nmTl (b := (ld f k (i + 1 + 1))) rfl ?_
    refine lv_lstore_n (lv' := [(3, .long (ld f k (i + 1 + 1))), (5, .int (nI (8 * (i + 1)))), (0, .ref h0), (1, .int (nI k)), (2, .int (nI q)), (6, .int (nI (i + 1)))]) hx hb dX13_littleEndianToLong_Low_40 rfl hl (by decide) rfl (fun ls hl => ?_)
    refine lv_iinc (v := (nI (i + 1 + 1))) (lv' := [(6, .int (nI (i + 1 + 1))), (3, .long (ld f k (i + 1 + 1))), (5, .int (nI (8 * (i + 1)))), (0, .ref h0), (1, .int (nI k)), (2, .int (nI q))]) hx hb dX13_littleEndianToLong_Low_41 hl (k := 5) rfl (ii1 _) (by decide) rfl (fun ls hl => ?_)
    refine lv_goto (tgt := 15) hx hb dX13_littleEndianToLong_Low_44 (by decide) ?_
    exact ih (i + 1) (by omega) _ _ _ (hP.sub [0] rfl) (hD.sub [0] (by decide) rfl) hS (lv_sub hl [3, 4, 5, 1, 2, 0] rfl)

set_option maxHeartbeats 4000000 in
set_option maxRecDepth 100000 in
/-- Pack.littleEndianToLong_Low -/
theorem m_leLow (l : Launch) (D : va_G) (dB dN dL : ClassId) (h0 n k q : Nat) (f : Nat → Int32) (sz : Nat) (hk : k + q ≤ n) (hq : q ≤ 8) (h1 : 1 ≤ q) (hn : n < 2 ^ 31) : Cl_ l yX13_littleEndianToLong_Low (ws_ yX13_littleEndianToLong_Low cX13_littleEndianToLong_Low 7 (some .long)) (rm_ 0 0 0 0) D dB dN dL [.ref h0, .int (nI k), .int (nI q)] [(h0, .inl (dB, n, .inl f))] sz (S := Unit) (fun r _ => r = ld f k q) (fun _ => [(h0, .inl (dB, n, .inl f))]) := by
  refine ct_of (cc := cX13_littleEndianToLong_Low) (maxL := 7) (ret := (some .long)) (by decide) rfl (Nat.le_of_ble_eq_true rfl) (fun p e s m below meth c A ls hx hb hml hr hlocks hts hown hin hP hK hD hA hX hS hl => ?_)
  have hown : s.vm.findClass RX13 = some m.cls := hown
  have hl : lv_has ls 7 [(0, .ref h0), (1, .int (nI k)), (2, .int (nI q))] := hl
  refine lv_aload_n hx hb dX13_littleEndianToLong_Low_0 rfl (lv_at hl 0 rfl) ?_
  refine lv_iload_n hx hb dX13_littleEndianToLong_Low_1 rfl (lv_at hl 1 rfl) ?_
  refine va_bald hx hb hK hP 0 0 rfl rfl (vp_in_nI (by omega) (by omega)) dX13_littleEndianToLong_Low_2 ?_
  refine nmTi (b := (f k)) (cl_f f (by omega)) ?_
  refine lv_i2l hx hb dX13_littleEndianToLong_Low_3 rfl ?_
  refine lv_ldc2 (v := 255) hx hb hown (hts _ q504) dX13_littleEndianToLong_Low_4 ?_
  refine lv_land hx hb dX13_littleEndianToLong_Low_7 ?_
  refine nmTl (b := (ld f k 1)) (ld_one f k) ?_
  refine lv_lstore_n (lv' := [(3, .long (ld f k 1)), (0, .ref h0), (1, .int (nI k)), (2, .int (nI q))]) hx hb dX13_littleEndianToLong_Low_8 rfl hl (by decide) rfl (fun ls hl => ?_)
  refine lv_iconst (v := 0) hx hb dX13_littleEndianToLong_Low_9 (by decide) ?_
  refine lv_istore (lv' := [(5, .int 0), (3, .long (ld f k 1)), (0, .ref h0), (1, .int (nI k)), (2, .int (nI q))]) hx hb dX13_littleEndianToLong_Low_10 hl (by decide) rfl (fun ls hl => ?_)
  refine lv_iconst (v := 1) hx hb dX13_littleEndianToLong_Low_12 (by decide) ?_
  refine lv_istore (lv' := [(6, .int 1), (5, .int 0), (3, .long (ld f k 1)), (0, .ref h0), (1, .int (nI k)), (2, .int (nI q))]) hx hb dX13_littleEndianToLong_Low_13 hl (by decide) rfl (fun ls hl => ?_)
  have hl : lv_has ls 7 [(6, .int (nI (0 + 1))), (5, .int (nI (8 * 0))), (3, .long (ld f k (0 + 1))), (0, .ref h0), (1, .int (nI k)), (2, .int (nI q))] := hl
  refine L_leLow hx hb hml hts hown hK hA hX h0 n k q f hk hq h1 hn (fun H locs ls hP hD hS hl => ?_) (q - 1) 0 (by omega) _ _ _ (hP.sub [0] rfl) (hD.sub [0] (by decide) rfl) hS (lv_sub hl [3, 4, 5, 2, 1, 0] rfl)
  refine lv_lload_n hx hb dX13_littleEndianToLong_Low_47 rfl (lv_at hl 3 rfl) ?_
  exact rt_l hx hb hr hlocks hP hK hD hS dX13_littleEndianToLong_Low_48 () [0] rfl (by decide) rfl

set_option maxHeartbeats 4000000 in
set_option maxRecDepth 100000 in
theorem L_ltLow {p : Program} {l : Launch} {e : Env} {s : State} {m : MethodId} {below : List Frame} {meth : Method} {c : Code} {D : va_G} {dB dN dL : ClassId} {A : Nat → Prop} {R : Room} {args : Array Value} {Q : State → Prop} {cells slots : Nat} (hx : p.tables.exec = Jvm.exec) (hb : c.code = cX13_longToLittleEndian_Low) (hml : c.maxLocals = 6) (hts : ∀ w ∈ lw_all, w.before args s = true) (hown : s.vm.findClass RX13 = some m.cls) (hK : va_K D CL (TY dB dN dL) s) (hA : ∀ q : Nat, s.heap.size ≤ q → A q) (hX : xt A s s.heap) (h0 n k q : Nat) (f : Nat → Int32) (x : Int64) (hk : k + q ≤ n) (hq : q ≤ 8) (h1 : 1 ≤ q) (hn : n < 2 ^ 31) (kk : WG p l e R s m args below meth c D A cells slots Q 6 [(h0, .inl (dB, n, .inl (pw f k x q)))] [(0, .long ((x.toUInt64 >>> ((nI (8 * (q - 1))).toInt64.toUInt64 &&& Int64.toUInt64 63)).toInt64)), (2, .ref h0), (3, .int (nI k)), (4, .int (nI q)), (5, .int (nI ((q - 1) + 1)))] 36) :
    ∀ (d i : Nat), i + 1 + d = q → WG p l e R s m args below meth c D A cells slots Q 6 [(h0, .inl (dB, n, .inl (pw f k x (i + 1))))] [(0, .long ((x.toUInt64 >>> ((nI (8 * i)).toInt64.toUInt64 &&& Int64.toUInt64 63)).toInt64)), (2, .ref h0), (3, .int (nI k)), (4, .int (nI q)), (5, .int (nI (i + 1)))] 9 := by
  intro d
  induction d with
  | zero =>
    intro i hi H locs ls hP hD hS hl
    refine lv_iload hx hb dX13_longToLittleEndian_Low_9 (lv_at hl 4 rfl) ?_
    refine lv_iload hx hb dX13_longToLittleEndian_Low_11 (lv_at hl 3 rfl) ?_
    refine lv_icmp_ge (tgt := 36) hx hb dX13_longToLittleEndian_Low_13 (by decide) (fun _ => ?_) (fun c_1 => absurd (show nI q ≤ nI (i + 1) from nI_le (by omega) (by omega)) c_1)
    have e : q = i + 1 := by omega
    subst e
    exact kk H locs ls hP hD hS hl
  | succ d ih =>
    intro i hi H locs ls hP hD hS hl
    refine lv_iload hx hb dX13_longToLittleEndian_Low_9 (lv_at hl 4 rfl) ?_
    refine lv_iload hx hb dX13_longToLittleEndian_Low_11 (lv_at hl 3 rfl) ?_
    refine lv_icmp_ge (tgt := 36) hx hb dX13_longToLittleEndian_Low_13 (by decide) (fun c_b1 => absurd c_b1 (nI_ge (show i + 1 < q by omega) (by omega))) (fun _ => ?_)
    refine lv_lload_n hx hb dX13_longToLittleEndian_Low_16 rfl (lv_at hl 0 rfl) ?_
    refine lv_bipush (v := 8) hx hb dX13_longToLittleEndian_Low_17 (by decide) ?_
    refine lv_lushr hx hb dX13_longToLittleEndian_Low_19 rfl ?_
    refine nmTl (b := ((x.toUInt64 >>> ((nI (8 * (i + 1))).toInt64.toUInt64 &&& Int64.toUInt64 63)).toInt64)) (sh_8 x (by omega)) ?_
    refine lv_lstore_n (lv' := [(0, .long ((x.toUInt64 >>> ((nI (8 * (i + 1))).toInt64.toUInt64 &&& Int64.toUInt64 63)).toInt64)), (2, .ref h0), (3, .int (nI k)), (4, .int (nI q)), (5, .int (nI (i + 1)))]) hx hb dX13_longToLittleEndian_Low_20 rfl hl (by decide) rfl (fun ls hl => ?_)
    refine lv_aload_n hx hb dX13_longToLittleEndian_Low_21 rfl (lv_at hl 1 rfl) ?_
    refine lv_iload_n hx hb dX13_longToLittleEndian_Low_22 rfl (lv_at hl 2 rfl) ?_
    refine lv_iload hx hb dX13_longToLittleEndian_Low_23 (lv_at hl 4 rfl) ?_
    refine lv_iadd hx hb dX13_longToLittleEndian_Low_25 ?_
    refine nmTi (nI_add k (i + 1)) ?_
    refine lv_lload_n hx hb dX13_longToLittleEndian_Low_26 rfl (lv_at hl 0 rfl) ?_
    refine lv_l2i hx hb dX13_longToLittleEndian_Low_27 rfl ?_
    refine lv_i2b hx hb dX13_longToLittleEndian_Low_28 rfl ?_
    refine nmTi (b := (bw x (i + 1))) rfl ?_
    refine va_bast hx hb hK hP hD hS 0 0 rfl rfl (vp_in_nI (by omega) (by omega)) dX13_longToLittleEndian_Low_29 (fun H locs hP hD hS => ?_)
    have eg_b2 : upd (pw f k x (i + 1)) (nI (k + (i + 1))).toNatClampNeg (vp_nar .byte (bw x (i + 1))) = pw f k x (i + 1 + 1) := (by rw [nI_clamp (by omega), show vp_nar .byte (bw x (i + 1)) = bw x (i + 1) from pk_vb _]; exact pw_s f k x (i + 1))
    rw [eg_b2] at hP hD
    have hP : va_P D CL [(h0, .inl (dB, n, .inl (pw f k x (i + 1 + 1))))] H := hP
    have hD : va_D A [(h0, .inl (dB, n, .inl (pw f k x (i + 1 + 1))))] := hD
    refine lv_iinc (v := (nI (i + 1 + 1))) (lv' := [(5, .int (nI (i + 1 + 1))), (0, .long ((x.toUInt64 >>> ((nI (8 * (i + 1))).toInt64.toUInt64 &&& Int64.toUInt64 63)).toInt64)), (2, .ref h0), (3, .int (nI k)), (4, .int (nI q))]) hx hb dX13_longToLittleEndian_Low_30 hl (k := 4) rfl (ii1 _) (by decide) rfl (fun ls hl => ?_)
    refine lv_goto (tgt := 9) hx hb dX13_longToLittleEndian_Low_33 (by decide) ?_
    exact ih (i + 1) (by omega) _ _ _ (hP.sub [0] rfl) (hD.sub [0] (by decide) rfl) hS (lv_sub hl [1, 2, 3, 4, 0] rfl)

set_option maxHeartbeats 4000000 in
set_option maxRecDepth 100000 in
/-- Pack.longToLittleEndian_Low -/
theorem m_ltLow (l : Launch) (D : va_G) (dB dN dL : ClassId) (h0 n k q : Nat) (f : Nat → Int32) (x : Int64) (sz : Nat) (hk : k + q ≤ n) (hq : q ≤ 8) (h1 : 1 ≤ q) (hn : n < 2 ^ 31) : Cv_ l yX13_longToLittleEndian_Low (ws_ yX13_longToLittleEndian_Low cX13_longToLittleEndian_Low 6 none) (rm_ 0 0 0 0) D dB dN dL [.long x, .ref h0, .int (nI k), .int (nI q)] [(h0, .inl (dB, n, .inl f))] sz (S := Unit) (fun _ => True) (fun _ => [(h0, .inl (dB, n, .inl (pw f k x q)))]) := by
  refine ct_of (cc := cX13_longToLittleEndian_Low) (maxL := 6) (ret := none) (by decide) rfl (Nat.le_of_ble_eq_true rfl) (fun p e s m below meth c A ls hx hb hml hr hlocks hts hown hin hP hK hD hA hX hS hl => ?_)
  have hown : s.vm.findClass RX13 = some m.cls := hown
  have hl : lv_has ls 6 [(0, .long x), (2, .ref h0), (3, .int (nI k)), (4, .int (nI q))] := hl
  refine lv_aload_n hx hb dX13_longToLittleEndian_Low_0 rfl (lv_at hl 1 rfl) ?_
  refine lv_iload_n hx hb dX13_longToLittleEndian_Low_1 rfl (lv_at hl 2 rfl) ?_
  refine lv_lload_n hx hb dX13_longToLittleEndian_Low_2 rfl (lv_at hl 0 rfl) ?_
  refine lv_l2i hx hb dX13_longToLittleEndian_Low_3 rfl ?_
  refine lv_i2b hx hb dX13_longToLittleEndian_Low_4 rfl ?_
  refine nmTi (b := (bw x 0)) (bw_0 x) ?_
  refine va_bast hx hb hK hP hD hS 0 0 rfl rfl (vp_in_nI (by omega) (by omega)) dX13_longToLittleEndian_Low_5 (fun H locs hP hD hS => ?_)
  have eg_1 : upd f (nI k).toNatClampNeg (vp_nar .byte (bw x 0)) = pw f k x 1 := (by rw [nI_clamp (by omega), show vp_nar .byte (bw x 0) = bw x 0 from pk_vb _]; exact (congrArg (fun g => upd g k (bw x 0)) (pw_0 f k x).symm).trans (pw_s f k x 0))
  rw [eg_1] at hP hD
  have hP : va_P D CL [(h0, .inl (dB, n, .inl (pw f k x 1)))] H := hP
  have hD : va_D A [(h0, .inl (dB, n, .inl (pw f k x 1)))] := hD
  refine lv_iconst (v := 1) hx hb dX13_longToLittleEndian_Low_6 (by decide) ?_
  refine lv_istore (lv' := [(5, .int 1), (0, .long x), (2, .ref h0), (3, .int (nI k)), (4, .int (nI q))]) hx hb dX13_longToLittleEndian_Low_7 hl (by decide) rfl (fun ls hl => ?_)
  have hl : lv_has ls 6 [(5, .int (nI (0 + 1))), (0, .long x), (2, .ref h0), (3, .int (nI k)), (4, .int (nI q))] := hl
  rw [← sh_0 x] at hl
  refine L_ltLow hx hb hml hts hown hK hA hX h0 n k q f x hk hq h1 hn (fun H locs ls hP hD hS hl => ?_) (q - 1) 0 (by omega) _ _ _ (hP.sub [0] rfl) (hD.sub [0] (by decide) rfl) hS (lv_sub hl [1, 2, 3, 4, 0] rfl)
  exact rt_v hx hb hr hlocks hP hK hD hS dX13_longToLittleEndian_Low_36 () [0] rfl (by decide) trivial

set_option maxHeartbeats 4000000 in
set_option maxRecDepth 100000 in
theorem L_fill {p : Program} {l : Launch} {e : Env} {s : State} {m : MethodId} {below : List Frame} {meth : Method} {c : Code} {D : va_G} {dB dN dL : ClassId} {A : Nat → Prop} {R : Room} {args : Array Value} {Q : State → Prop} {cells slots : Nat} (hx : p.tables.exec = Jvm.exec) (hb : c.code = cJ4_fill) (hml : c.maxLocals = 4) (hts : ∀ w ∈ lw_all, w.before args s = true) (hown : s.vm.findClass RJ4 = some m.cls) (hK : va_K D CL (TY dB dN dL) s) (hA : ∀ q : Nat, s.heap.size ≤ q → A q) (hX : xt A s s.heap) (h0 n : Nat) (v : Int32) (hn : n < 2 ^ 31) (kk : ∀ f : Nat → Int32, WG p l e R s m args below meth c D A cells slots Q 4 [(h0, .inl (dB, n, .inl f))] [(0, .ref h0), (1, .int v), (2, .int (nI n)), (3, .int (nI n))] 20) :
    ∀ (d i : Nat) (f : Nat → Int32), i + d = n → WG p l e R s m args below meth c D A cells slots Q 4 [(h0, .inl (dB, n, .inl f))] [(0, .ref h0), (1, .int v), (2, .int (nI i)), (3, .int (nI n))] 5 := by
  intro d
  induction d with
  | zero =>
    intro i f hi H locs ls hP hD hS hl
    refine lv_iload_n hx hb dJ4_fill_5 rfl (lv_at hl 2 rfl) ?_
    refine lv_iload_n hx hb dJ4_fill_6 rfl (lv_at hl 3 rfl) ?_
    refine lv_icmp_ge (tgt := 20) hx hb dJ4_fill_7 (by decide) (fun _ => ?_) (fun c_1 => absurd (show nI n ≤ nI i from nI_le (by omega) (by omega)) c_1)
    have e : n = i := by omega
    subst e
    exact kk f H locs ls hP hD hS hl
  | succ d ih =>
    intro i f hi H locs ls hP hD hS hl
    refine lv_iload_n hx hb dJ4_fill_5 rfl (lv_at hl 2 rfl) ?_
    refine lv_iload_n hx hb dJ4_fill_6 rfl (lv_at hl 3 rfl) ?_
    refine lv_icmp_ge (tgt := 20) hx hb dJ4_fill_7 (by decide) (fun c_b1 => absurd c_b1 (nI_ge (show i < n by omega) (by omega))) (fun _ => ?_)
    refine lv_aload_n hx hb dJ4_fill_10 rfl (lv_at hl 0 rfl) ?_
    refine lv_iload_n hx hb dJ4_fill_11 rfl (lv_at hl 2 rfl) ?_
    refine lv_iload_n hx hb dJ4_fill_12 rfl (lv_at hl 1 rfl) ?_
    refine va_bast hx hb hK hP hD hS 0 0 rfl rfl (vp_in_nI (by omega) (by omega)) dJ4_fill_13 (fun H locs hP hD hS => ?_)
    have hP : va_P D CL [(h0, .inl (dB, n, .inl (upd f (nI i).toNatClampNeg (vp_nar .byte v))))] H := hP
    have hD : va_D A [(h0, .inl (dB, n, .inl (upd f (nI i).toNatClampNeg (vp_nar .byte v))))] := hD
    refine lv_iinc (v := (nI (i + 1))) (lv' := [(2, .int (nI (i + 1))), (0, .ref h0), (1, .int v), (3, .int (nI n))]) hx hb dJ4_fill_14 hl (k := 2) rfl (ii1 _) (by decide) rfl (fun ls hl => ?_)
    refine lv_goto (tgt := 5) hx hb dJ4_fill_17 (by decide) ?_
    exact ih (i + 1) _ (by omega) _ _ _ (hP.sub [0] rfl) (hD.sub [0] (by decide) rfl) hS (lv_sub hl [1, 2, 0, 3] rfl)

set_option maxHeartbeats 4000000 in
set_option maxRecDepth 100000 in
/-- Arrays.fill of bytes: some bytes stand there -/
theorem m_fill (l : Launch) (D : va_G) (dB dN dL : ClassId) (h0 n : Nat) (f : Nat → Int32) (v : Int32) (sz : Nat) (hn : n < 2 ^ 31) : Cv_ l yJ4_fill (ws_ yJ4_fill cJ4_fill 4 none) (rm_ 0 0 0 0) D dB dN dL [.ref h0, .int v] [(h0, .inl (dB, n, .inl f))] sz (S := Nat → Int32) (fun _ => True) (fun u => [(h0, .inl (dB, n, .inl u))]) := by
  refine ct_of (cc := cJ4_fill) (maxL := 4) (ret := none) (by decide) rfl (Nat.le_of_ble_eq_true rfl) (fun p e s m below meth c A ls hx hb hml hr hlocks hts hown hin hP hK hD hA hX hS hl => ?_)
  have hown : s.vm.findClass RJ4 = some m.cls := hown
  have hl : lv_has ls 4 [(0, .ref h0), (1, .int v)] := hl
  refine lv_iconst (v := 0) hx hb dJ4_fill_0 (by decide) ?_
  refine lv_istore_n (lv' := [(2, .int 0), (0, .ref h0), (1, .int v)]) hx hb dJ4_fill_1 rfl hl (by decide) rfl (fun ls hl => ?_)
  refine lv_aload_n hx hb dJ4_fill_2 rfl (lv_at hl 1 rfl) ?_
  refine va_alen (v := Int32.ofNat n) hx hb hK hP 0 0 rfl rfl rfl dJ4_fill_3 ?_
  refine lv_istore_n (lv' := [(3, .int (Int32.ofNat n)), (2, .int 0), (0, .ref h0), (1, .int v)]) hx hb dJ4_fill_4 rfl hl (by decide) rfl (fun ls hl => ?_)
  have hl : lv_has ls 4 [(3, .int (nI n)), (2, .int (nI 0)), (0, .ref h0), (1, .int v)] := hl
  refine L_fill hx hb hml hts hown hK hA hX h0 n v hn (fun f H locs ls hP hD hS hl => ?_) n 0 f (by omega) _ _ _ (hP.sub [0] rfl) (hD.sub [0] (by decide) rfl) hS (lv_sub hl [2, 3, 1, 0] rfl)
  exact rt_v hx hb hr hlocks hP hK hD hS dJ4_fill_20 f [0] rfl (by decide) trivial

set_option maxHeartbeats 4000000 in
set_option maxRecDepth 100000 in
/-- OwnArrays.clear -/
theorem m_clear (l : Launch) (D : va_G) (dB dN dL : ClassId) (h0 n : Nat) (f : Nat → Int32) (sz : Nat) (hn : n < 2 ^ 31) : Cv_ l yX9_clear (ws_ yX9_clear cX9_clear 1 none) (rm_ 1 0 0 23) D dB dN dL [.ref h0] [(h0, .inl (dB, n, .inl f))] sz (S := Nat → Int32) (fun _ => True) (fun u => [(h0, .inl (dB, n, .inl u))]) := by
  refine ct_of (cc := cX9_clear) (maxL := 1) (ret := none) (by decide) rfl (Nat.le_of_ble_eq_true rfl) (fun p e s m below meth c A ls hx hb hml hr hlocks hts hown hin hP hK hD hA hX hS hl => ?_)
  have hown : s.vm.findClass RX9 = some m.cls := hown
  have hl : lv_has ls 1 [(0, .ref h0)] := hl
  refine lv_null hx hb dX9_clear_0 ?_
  refine lv_aload_n hx hb dX9_clear_1 rfl (lv_at hl 0 rfl) ?_
  refine lv_acmp_eq (rx := none) (ry := some h0) (tgt := 10) hx hb dX9_clear_2 (by decide) (fun c => absurd c (by simp)) (fun _ => ?_)
  refine lv_aload_n hx hb dX9_clear_5 rfl (lv_at hl 0 rfl) ?_
  refine lv_iconst (v := 0) hx hb dX9_clear_6 (by decide) ?_
  refine cl_v [(h0, .inl (dB, n, .inl f))] [] [0] [] rfl rfl (by decide) (by decide) hP hD hS hA (va_runS (As := [.ref h0, .int 0]) (rest := []) ⟨hx, hb, hml, hown, hts⟩ (m_fill l D dB dN dL h0 n f 0 _ hn) (va_cwS 2 hts (lw_S q193 q194 q23 q195) rfl rfl rfl (by decide +kernel) ⟨Nat.le_of_ble_eq_true rfl, Nat.le_of_ble_eq_true rfl⟩) (pv_ (As := [.ref h0, .int 0]) [0] rfl (by decide) hP hK hD hS hA hX) rfl rfl hl.1 rfl (lv_room (Nat.le_of_ble_eq_true rfl)) dX9_clear_7 ⟨Nat.le_of_ble_eq_true rfl, Nat.le_of_ble_eq_true rfl⟩) (fun u_1 H locs hw_2 hP hD hS => ?_)
  have hP : va_P D CL [(h0, .inl (dB, n, .inl u_1))] H := hP
  have hD : va_D A [(h0, .inl (dB, n, .inl u_1))] := hD
  exact rt_v hx hb hr hlocks hP hK hD hS dX9_clear_10 u_1 [0] rfl (by decide) trivial
end
section
/-! super.m() whose m stands one class higher; a contract whose argument is a constant object -/
set_option maxRecDepth 100000
theorem sub_1 {vm : Vm} {a b : ClassId} {k : Class} (hk : vm.classes[a]? = some k) (hs : k.super = some b) : vm.isSubclass a b = true := by
  have hlt : a < vm.classes.size := (Array.getElem?_eq_some_iff.mp hk).1
  obtain ⟨n, hn⟩ : ∃ n, vm.classes.size = n + 1 := ⟨vm.classes.size - 1, (Nat.succ_pred_eq_of_pos (Nat.lt_of_le_of_lt (Nat.zero_le a) hlt)).symm⟩
  rw [Vm.isSubclass, hn]
  have hb : ∀ f, vm.isSubclassAux (f + 1) b b = true := fun f => by simp [Vm.isSubclassAux]
  rw [Vm.isSubclassAux]
  by_cases hab : a = b
  · subst hab
    simp
  · simp only [hk, hs, hb]
    simp
section MSU
variable {p : Program} {l : Launch} {e : Env} {R : Room} {s : State} {m : MethodId} {args : Array Value} {below : List Frame} {meth : Method} {c : Code}
def my_wsSU (own : String) (idx : Nat) (owner : String) (x y : MethodName) (ws : List Cond) : List Cond := ([.methodLink own idx x, .sameMethod x.cls owner x.name x.desc, .superclass own x.cls, .superclass x.cls owner, .instanceMethod y, .initialized y.cls] : List Cond) ++ ws
abbrev my_CS (R : Room) (s : State) (args : Array Value) (own owner : String) (index : Nat) (x y : MethodName) (bytes : ByteArray) (maxL : Nat) (ret : Option FieldType) (ws : List Cond) (rm : Room) (mc ms n : Nat) : Prop :=
  (rm.cells = mc ∧ rm.slots = ms ∧ rm.frames + 1 ≤ R.frames ∧ 8 + (maxL + 11) + rm.locals ≤ R.locals ∧ (∀ w ∈ ws, ∀ (a' : Array Value) (U : State), s.WarmedH U.vm → w.before a' U = true) ∧ Cond.code y bytes maxL ret ∈ ws) ∧
  (Cond.methodLink own index x).before args s = true ∧ (Cond.sameMethod x.cls owner x.name x.desc).before args s = true ∧ (Cond.superclass own x.cls).before args s = true ∧ (Cond.superclass x.cls owner).before args s = true ∧ (Cond.instanceMethod y).before args s = true ∧ (Cond.initialized y.cls).before args s = true ∧ (Cond.code y bytes maxL ret).before args s = true ∧ x.name ≠ "<init>" ∧ y = ⟨owner, x.name, x.desc⟩ ∧ (∀ sig, parseMethodDescriptor x.desc = some sig → n = sig.parameters.length)
theorem my_cwSU {own owner : String} {index maxL mc ms : Nat} {x y : MethodName} {bytes : ByteArray} {ret : Option FieldType} {Ts ws ws' : List Cond} {rm : Room} (n : Nat) (ht : ∀ w ∈ Ts, w.before args s = true) (hT : GoodIn Ts (my_wsSU own index owner x y ws)) (hw : ws = Cond.code y bytes maxL ret :: ws') (hrc : rm.cells = mc) (hrs : rm.slots = ms) (hyx : y = ⟨owner, x.name, x.desc⟩)
    (hd : x.name ≠ "<init>" ∧ (parseMethodDescriptor x.desc).map (fun d => d.parameters.length) = some n) (hR : rm.frames + 1 ≤ R.frames ∧ 8 + (maxL + 11) + rm.locals ≤ R.locals) : my_CS R s args own owner index x y bytes maxL ret ws rm mc ms n := by
  have ok : ∀ w ∈ my_wsSU own index owner x y ws, w.before args s = true := fun w h => ht w (hT w h).1
  have hG : GoodIn Ts ws := fun w h => hT w (by unfold my_wsSU; exact List.mem_append_right _ h)
  have hc : Cond.code y bytes maxL ret ∈ ws := by rw [hw]; exact List.mem_cons_self
  refine ⟨⟨hrc, hrs, hR.1, hR.2, pay_in ht hG, hc⟩, ok _ (by simp [my_wsSU]), ok _ (by simp [my_wsSU]), ok _ (by simp [my_wsSU]), ok _ (by simp [my_wsSU]), ok _ (by simp [my_wsSU]), ok _ (by simp [my_wsSU]), ht _ (hG _ hc).1, hd.1, hyx, fun sig h => ?_⟩
  have h2 := hd.2
  rw [h] at h2
  exact (Option.some.inj h2).symm
variable {H : Heap} {locs : List Loc} {cells slots : Nat}
theorem my_runSU {x y : MethodName} {bytes cc : ByteArray} {maxL nL mc ms n index : Nat} {ret : Option FieldType} {ws : List Cond} {rm : Room} {Pc : Array Value → State → Prop} {Qc : Array Value → State → Outcome → State → Prop} {free : Addr → Prop} {Ts : List Cond} {own owner C : String} {cC : ClassId} {b : Addr} {As rest : List Value} {g : JFrame}
    (hat : ClassAt s C cC) (S : CallFix p m c cc nL s args Ts own) (hM : Met l y ws rm Pc Qc mc ms free) (cw : my_CS R s args own owner index x y bytes maxL ret ws rm mc ms n) (hp : PreV s H C b Pc As)
    (hg : g.method = m) (hn : As.length = n) (hsize : g.locals.size = nL) (hstack : g.stack = As.reverse ++ .ref b :: rest) (hW : 2 * g.monitorRoom + (rest.map fun v => v.category).sum ≤ 8) (hdg : decode cc g.pc = .ok (.invokespecial index, 3)) (hf : cells + mc ≤ R.cells ∧ slots + ms ≤ R.slots) :
    va_Run p l e R s m args below meth c H locs cells slots mc ms g rest (Qc (Value.ref b :: As).toArray) (free) := by
  obtain ⟨⟨hrc, hrs, hfr, hlo, hws, hcw⟩, hlink, hsame, hsup, hsup2, hinst, hini, hcode, hno, hyx, hlen⟩ := cw
  have hK : Back l R p e below s args y 3 8 (PreOf R mc ms Pc) (PostOf Qc mc ms free) := back_of (bytes := bytes) (maxL := maxL) (ret := ret) hM hp.1 hrc hrs hfr hlo hws hcw (fun a' U hW => word_at hW (Or.inl (by first | rfl | simp [Cond.onTables, Cond.keeps, Cond.steady])) hini)
  obtain ⟨hx, hb, hml, ho, -⟩ := S
  obtain ⟨-, ⟨cellB, hcB, hoB, hclB⟩, hPc⟩ := hp
  obtain ⟨hfc, kB, hkB, -⟩ := hat
  cases hfc.symm.trans hclB
  intro T hT X
  obtain ⟨mk, methM, hnamed, hmethM, hstM, habM⟩ := Cond.instanceMethod_spec hinst
  obtain ⟨methM', cM, hmethM', -, -, -, -, -, -, hsigM⟩ := Cond.code_spec hnamed hcode
  cases hmethM.symm.trans hmethM'
  obtain ⟨ps, dk, kp, hps, hdk, hkp, hsuper, -, -, hnid⟩ := Cond.superclass_spec ho hsup
  obtain ⟨ps2, dk2, kp2, hps2, hdk2, hkp2, hsuper2, -, -, -⟩ := Cond.superclass_spec hps hsup2
  have hn' : s.methodNamed? ⟨owner, x.name, x.desc⟩ = some mk := by rw [← hyx]; exact hnamed
  have hpm : ps2 = mk.cls := Option.some.inj (hps2.symm.trans (findClass_of_methodNamed hn'))
  have hsub : s.vm.isSubclass ps mk.cls = true := by rw [← hpm]; exact sub_1 hdk2 hsuper2
  have hsig : parseMethodDescriptor x.desc = some methM.sig := by rw [hyx] at hsigM; exact hsigM
  obtain ⟨vm₁, X₁, hstep₁⟩ := X.invokespecialUp hx ho hlink hsame hn' hmethM hstM habM hno hdk hnid hps hsuper hsub (a := b) (cell := cellB) (by rw [hT]; exact hcB)
    (fun z h => by rw [h] at hoB; cases hoB) hkB (g := g) hg (argsL := As) (rest := rest) (hn.trans (hlen _ hsig)) hstack (by rw [hb]; exact hdg)
  obtain ⟨v, ⟨U', l2, c2, s2⟩, X', ⟨g', mk', t, L, e1, e2, hq, h1, hL, h2, h3⟩, st⟩ := hK m meth c ⟨T.setVm vm₁, locs, cells, slots⟩ { g with stack := rest } (.invokespecial index) mk (Value.ref b :: As).toArray X₁ hg (hsize.trans hml.symm) (by rw [hb]; exact hdg) hW (X₁.named hnamed) ⟨hf.1, hf.2, hPc (T.setVm vm₁) hT X₁.warmed⟩
  dsimp only [Pt.U, Pt.locs, Pt.cells, Pt.slots] at X' e1 e2 h1 h2 h3 st
  subst h1; subst h2; subst h3
  exact ⟨v, (T.setVm vm₁).calling g' mk' (Value.ref b :: As).toArray, t, U', L, hT, X', hL, e1, e2, hq, fun target h => hstep₁ _ (by rw [doInvoke_state]; exact st.trans h)⟩
end MSU
theorem lw_SU {own owner : String} {idx : Nat} {x y : MethodName} {b : ByteArray} {L : Nat} {r : Option FieldType} (h1 : Cond.methodLink own idx x ∈ lw_all) (h2 : Cond.sameMethod x.cls owner x.name x.desc ∈ lw_all) (h3 : Cond.superclass own x.cls ∈ lw_all) (h4 : Cond.superclass x.cls owner ∈ lw_all) (h5 : Cond.instanceMethod y ∈ lw_all) (h6 : Cond.initialized y.cls ∈ lw_all) (h7 : Cond.code y b L r ∈ lw_all) : GoodIn lw_all (my_wsSU own idx owner x y (ws_ y b L r)) := by
  refine lw_app ?_ (lw_meth h7)
  intro w hw
  simp only [List.mem_cons, List.not_mem_nil, or_false] at hw
  rcases hw with e | e | e | e | e | e
  · rw [e]; exact h1
  · rw [e]; exact h2
  · rw [e]; exact h3
  · rw [e]; exact h4
  · rw [e]; exact h5
  · rw [e]; exact h6
/-! a contract whose argument is the constant Immediate, at t -/
abbrev oPT (t : Nat) (A : Nat → Prop) (U : State) (H : Heap) : Prop := va_OF "BufferBaseDigest$ProcessingBufferType" "ord" "I" (.int 1) t A U H
def preI_ (t : Nat) (D : va_G) (dB dN dL : ClassId) (ws : va_W) (sz : Nat) (U : State) : Prop := pre_ D dB dN dL ws sz U ∧ oPT t (va_A ws sz) U U.heap
theorem preI_blind {t : Nat} {D : va_G} {dB dN dL : ClassId} {as : List Value} {wc : va_W} {sz : Nat} : FrameBlind (va_Pc as (preI_ t D dB dN dL wc sz)) := fun a U g mk q => by
  obtain ⟨q0, ⟨q1, qP, qK, qD, qX⟩, qO⟩ := q
  exact ⟨q0, ⟨q1, qP, va_K.moved (u := U) (U := U.calling g mk a) (Vm.Alike.refl U.vm) qK, qD, xt.blind qX⟩, va_OF.moved (u := U) (U := U.calling g mk a) (Vm.Alike.refl U.vm) qO⟩
theorem ct_ofI {t : Nat} {l : Launch} {y : MethodName} {ws : List Cond} {rm : Room} {QQ : (Nat → Prop) → Array Value → State → Outcome → State → Prop} {mc ms sz maxL : Nat} {cc : ByteArray} {ret : Option FieldType} {as : List Value} {w0 : va_W} {D : va_G} {dB dN dL : ClassId}
    (hy : plainName y.cls = true) (hw : ws = Cond.code y cc maxL ret :: lw_all) (hn : (lg_sl as).length ≤ maxL)
    (body : ∀ (p : Program) (e : Env) (s : State) (m : MethodId) (below : List Frame) (meth : Method) (c : Code) (A : Nat → Prop) (ls : Array Slot), p.tables.exec = Jvm.exec → c.code = cc → c.maxLocals = maxL → meth.sig.returnType = ret → meth.locks = false → (∀ w ∈ lw_all, w.before as.toArray s = true) → s.vm.findClass y.cls = some m.cls → meth.name = y.name → va_P D CL w0 s.heap → va_K D CL (TY dB dN dL) s → va_D A w0 → (∀ q : Nat, s.heap.size ≤ q → A q) → xt A s s.heap → oPT t A s s.heap → va_S A s.heap s.heap [] → lv_has ls maxL (lv_args 0 as) →
      W p l e (headSpec ws rm).room s m as.toArray below meth c s.heap [] 0 0 (MQ below (QQ A) as.toArray s mc ms A) (F0 m 0 ls [])) :
    Met l y ws rm (va_Pc as (preI_ t D dB dN dL w0 sz)) (QQ (va_A w0 sz)) mc ms (va_A w0 sz) := by
  refine Met.ofW (cc := cc) (maxL := maxL) (ret := ret) hy hw ?_
  intro p e s m args below meth c s₁ B hml hv
  obtain ⟨rfl, ⟨hsz, hP, hK, hD0, hX⟩, hO⟩ := hv
  have hts := atoms_spec (ws := ws) B.pre
  subst hsz
  rw [lg_entry_eq]
  exact body p e s m below meth c (va_A w0 s.heap.size) _ B.exec B.bytes hml B.returns B.notSynchronized (fun w h => hts w (by rw [hw]; exact List.mem_cons_of_mem _ h)) (findClass_of_methodNamed B.named) (name_of_methodNamed B.named B.method).1 hP hK (hD0.self (sz := s.heap.size)) (fun q h => Or.inr h) hX hO va_S.rf (lv_entry as hn)
theorem pvI_ {s : State} {H : Heap} {locs : List Loc} {D : va_G} {dB dN dL : ClassId} {A : Nat → Prop} {ws wc : va_W} {t : Nat} {As : List Value} (isC : List Nat) (hC : isC.map (fun i => ws[i]?) = wc.map some) (hnd : va_nd isC = true) (hP : va_P D CL ws H) (hK : va_K D CL (TY dB dN dL) s) (hD : va_D A ws) (hS : va_S A s.heap H locs) (hA : ∀ q : Nat, s.heap.size ≤ q → A q) (hX : xt A s s.heap) (hO : oPT t A s s.heap) : PreS s H (va_Pc As (preI_ t D dB dN dL wc H.size)) As := by
  refine ⟨preI_blind, fun U hU hW => ?_⟩
  have h1 := (pv_ (As := As) isC hC hnd hP hK hD hS hA hX).2 U hU hW
  exact ⟨rfl, h1.2, by rw [hU]; exact ((va_OF.moved hW.alike hO).kept hS.2.1).narrow (va_free hD hS hA isC hC)⟩
end
section
/-! the digest, as numbers: what a message makes of the state -/
set_option maxRecDepth 100000
/-- the start's state -/
def iv : P5 := (-7269279749984954751, 5459383224871899602, -5880230600644446182, 4359436768738168243, 1899470422303676269)
/-- a word is taken in -/
def ab (x : P5) (w : Int64) : P5 := pm (x.1 ^^^ w, x.2)
/-- the state behind b blocks of the message M -/
def abs (M : Nat → Int32) : Nat → P5
  | 0 => iv
  | b + 1 => ab (abs M b) (ld M (8 * b) 8)
theorem abs_congr {M N : Nat → Int32} : ∀ b, (∀ j, j < 8 * b → M j = N j) → abs M b = abs N b
  | 0, _ => rfl
  | b + 1, h => by
    show ab (abs M b) (ld M (8 * b) 8) = ab (abs N b) (ld N (8 * b) 8)
    rw [abs_congr b (fun j hj => h j (by omega)), ld_congr (g := N) (j := 8 * b) 8 (fun i hi => h _ (by omega))]
/-- the digest object holds the first n bytes of the message M -/
def Rp (M : Nat → Int32) (n : Nat) (x : P5) (buf : Nat → Int32) : Prop := x = abs M (n / 8) ∧ ∀ j, j < n % 8 → buf j = M (8 * (n / 8) + j)
theorem Rp_0 (M : Nat → Int32) (buf : Nat → Int32) : Rp M 0 iv buf := ⟨rfl, fun j hj => absurd hj (by simp)⟩
theorem Rp_congr {M N : Nat → Int32} {n : Nat} {x : P5} {buf : Nat → Int32} (h : Rp M n x buf) (hM : ∀ j, j < n → N j = M j) : Rp N n x buf := by
  refine ⟨h.1.trans (abs_congr _ (fun j hj => (hM j (by omega)).symm)), fun j hj => (h.2 j hj).trans (hM _ (by omega)).symm⟩
/-- one byte more, the block not full -/
theorem Rp_one {M : Nat → Int32} {n : Nat} {x : P5} {buf : Nat → Int32} (h : Rp M n x buf) (hn : n % 8 < 7) : Rp M (n + 1) x (upd buf (n % 8) (M n)) := by
  have e1 : (n + 1) / 8 = n / 8 := by omega
  have e2 : (n + 1) % 8 = n % 8 + 1 := by omega
  refine ⟨by rw [e1]; exact h.1, fun j hj => ?_⟩
  rw [e1]
  rw [e2] at hj
  by_cases c : j = n % 8
  · rw [c, pk_us, show 8 * (n / 8) + n % 8 = n by omega]
  · rw [pk_un c]
    exact h.2 j (by omega)
/-- one byte more, the block full -/
theorem Rp_full {M : Nat → Int32} {n : Nat} {x : P5} {buf : Nat → Int32} (h : Rp M n x buf) (hn : n % 8 = 7) (g : Nat → Int32) : Rp M (n + 1) (ab x (ld (upd buf (n % 8) (M n)) 0 8)) g := by
  have e1 : (n + 1) / 8 = n / 8 + 1 := by omega
  have e2 : (n + 1) % 8 = 0 := by omega
  refine ⟨?_, fun j hj => absurd hj (by omega)⟩
  rw [e1]
  show _ = ab (abs M (n / 8)) (ld M (8 * (n / 8)) 8)
  rw [h.1, ld_congr (f := upd buf (n % 8) (M n)) (k := 0) (g := M) (j := 8 * (n / 8)) 8 (fun i hi => ?_)]
  by_cases c : 0 + i = n % 8
  · rw [c, pk_us, show 8 * (n / 8) + i = n by omega]
  · rw [pk_un c, Nat.zero_add]
    exact h.2 i (by omega)
/-- some bytes more, the block not full -/
theorem Rp_cpy {M T : Nat → Int32} {n f c : Nat} {x : P5} {buf : Nat → Int32} (h : Rp M n x buf) (hT : ∀ i, i < c → M (n + i) = T (f + i)) (hc : n % 8 + c < 8) : Rp M (n + c) x (va_cpy T buf f (n % 8) c) := by
  have e1 : (n + c) / 8 = n / 8 := by omega
  have e2 : (n + c) % 8 = n % 8 + c := by omega
  refine ⟨by rw [e1]; exact h.1, fun j hj => ?_⟩
  rw [e1]
  rw [e2] at hj
  by_cases q : n % 8 ≤ j
  · rw [pk_cpy_in q hj, ← hT _ (by omega), show n + (j - n % 8) = 8 * (n / 8) + j by omega]
  · rw [pk_cpy_out (Or.inl (by omega))]
    exact h.2 j (by omega)
/-- the bytes that fill the block -/
theorem Rp_fill {M T : Nat → Int32} {n f : Nat} {x : P5} {buf : Nat → Int32} (h : Rp M n x buf) (hT : ∀ i, i < 8 - n % 8 → M (n + i) = T (f + i)) : ab x (ld (va_cpy T buf f (n % 8) (8 - n % 8)) 0 8) = abs M (n / 8 + 1) := by
  show _ = ab (abs M (n / 8)) (ld M (8 * (n / 8)) 8)
  rw [h.1, ld_congr (f := va_cpy T buf f (n % 8) (8 - n % 8)) (k := 0) (g := M) (j := 8 * (n / 8)) 8 (fun i hi => ?_)]
  rw [Nat.zero_add]
  by_cases q : n % 8 ≤ i
  · rw [pk_cpy_in q (by omega), ← hT _ (by omega), show n + (i - n % 8) = 8 * (n / 8) + i by omega]
  · rw [pk_cpy_out (Or.inl (by omega))]
    exact h.2 i (by omega)
/-- the message with the padding's byte behind it -/
def pad_ (M : Nat → Int32) (n : Nat) : Nat → Int32 := fun j => if j < n then M j else if j = n then 1 else 0
/-- the state when the message ends -/
def hsh (M : Nat → Int32) (n : Nat) : P5 := abs (pad_ M n) (n / 8 + 1)
theorem Rp_end {M : Nat → Int32} {n : Nat} {x : P5} {buf : Nat → Int32} (h : Rp M n x buf) : ab x (ld buf 0 (n % 8) ^^^ ((1 : Int64) <<< ((nI (8 * (n % 8))).toInt64 &&& 63))) = hsh M n := by
  show _ = ab (abs (pad_ M n) (n / 8)) (ld (pad_ M n) (8 * (n / 8)) 8)
  rw [h.1, abs_congr (M := M) (N := pad_ M n) _ (fun j hj => by simp only [pad_]; rw [if_pos (by omega)])]
  congr 1
  refine ld_pad buf (pad_ M n) 0 (8 * (n / 8)) (by omega) (fun i hi => ?_) ?_ (fun i hi h8 => ?_)
  · simp only [pad_]
    rw [if_pos (by omega), Nat.zero_add, h.2 i hi]
  · simp only [pad_]
    rw [if_neg (by omega), if_pos (by omega)]
  · simp only [pad_]
    rw [if_neg (by omega), if_neg (by omega)]
/-- the digest's bytes -/
def dig (y : P5) (f : Nat → Int32) : Nat → Int32 := pw (pw (pw (pw f 0 y.1 8) 8 (pm y).1 8) 16 (pm (pm y)).1 8) 24 (pm (pm (pm y))).1 8
/-- the words that come out -/
def sq (y : P5) : Nat → P5
  | 0 => y
  | b + 1 => pm (sq y b)
theorem dig_at (y : P5) (f : Nat → Int32) {j : Nat} (hj : j < 32) : dig y f j = bw (sq y (j / 8)).1 (j % 8) := by
  simp only [dig, pw]
  rcases (show j / 8 = 0 ∨ j / 8 = 1 ∨ j / 8 = 2 ∨ j / 8 = 3 by omega) with h | h | h | h
  · rw [if_neg (by omega), if_neg (by omega), if_neg (by omega), if_pos (by omega), h, show j - 0 = j % 8 by omega]
    rfl
  · rw [if_neg (by omega), if_neg (by omega), if_pos (by omega), h, show j - 8 = j % 8 by omega]
    rfl
  · rw [if_neg (by omega), if_pos (by omega), h, show j - 16 = j % 8 by omega]
    rfl
  · rw [if_pos (by omega), h, show j - 24 = j % 8 by omega]
    rfl
/-- the start's state is what the model makes of its first word -/
def iv0 : P5 := (8800401358850, 0, 0, 0, 0)
set_option maxHeartbeats 4000000 in
theorem iv_eq : pm iv0 = iv := by decide +kernel
/-- arraycopy of bytes, by naturals -/
theorem cp_ {p : Program} {l : Launch} {e : Env} {R : Room} {s : State} {m : MethodId} {args : Array Value} {below : List Frame} {meth : Method} {c : Code} {H : Heap} {locs : List Loc} {cells slots : Nat} {Q : State → Prop} {pc : Nat} {ls : Array Slot} {rest : List Value} {A : Nat → Prop} {ws : va_W} {tys : List (ClassId × FieldType)} {D : va_G} {H0 : Heap} {cc : ByteArray} (hx : p.tables.exec = Jvm.exec) (hb : c.code = cc) (hml : c.maxLocals = ls.size) {own : String} {index : Nat} (hown : s.vm.findClass own = some m.cls) (hlink : (Cond.methodLink own index arraycopyName).before args s = true) (hnat : (Cond.native arraycopyName).before args s = true) (hstat : (Cond.static arraycopyName).before args s = true) (hini : (Cond.initialized "java/lang/System").before args s = true)
    (hK : va_K D CL tys s) (hP : va_P D CL ws H) (hD : va_D A ws) (hS : va_S A H0 H locs) (q0 q1 t0 : Nat) {a0 a : Nat} {dB : ClassId} {n0 n1 : Nat} {f g : Nat → Int32} (ha0 : ws[q0]? = some (a0, .inl (dB, n0, .inl f))) (ha1 : ws[q1]? = some (a, .inl (dB, n1, .inl g))) (ht0 : tys[t0]? = some (dB, .byte))
    {i j k : Nat} (h1 : i < 2 ^ 31) (h2 : j < 2 ^ 31) (h3 : k < 2 ^ 31) (h4 : i + k ≤ n0) (h5 : j + k ≤ n1) (hfit : sb_Fit f)
    (hframes : 1 ≤ R.frames) (hlocals : (rest.map fun v => v.category).sum + (nativeFrameWords "java/lang/System" "arraycopy" 5 + 11) ≤ R.locals) (hdg : decode cc pc = .ok (.invokestatic index, 3))
    (kk : ∀ (H1 : Heap) (locs1 : List Loc), va_P D CL (ws.set q1 (a, .inl (dB, n1, .inl (va_cpy f g i j k)))) H1 → va_D A (ws.set q1 (a, .inl (dB, n1, .inl (va_cpy f g i j k)))) → va_S A H0 H1 locs1 → W p l e R s m args below meth c H1 locs1 cells slots Q (F0 m (pc + 3) ls rest)) : W p l e R s m args below meth c H locs cells slots Q (F0 m pc ls (.int (nI k) :: .int (nI j) :: .ref a :: .int (nI i) :: .ref a0 :: rest)) := by
  have e1 := nI_clamp h1
  have e2 := nI_clamp h2
  have e3 := nI_clamp h3
  refine va_copyi hx hb hml hown hlink hnat hstat hini hK hP hD hS q0 q1 t0 t0 ha0 ha1 ht0 ht0 rfl (nI_pos h1) (nI_pos h2) (nI_pos h3) (by rw [e1, e3]; exact h4) (by rw [e2, e3]; exact h5) (fun _ _ => hfit _) hframes hlocals hdg (fun H1 locs1 hP1 hD1 hS1 => ?_)
  rw [e1, e2, e3] at hP1 hD1
  exact kk H1 locs1 hP1 hD1 hS1
theorem pos_1 {q : Nat} (h : (0 : Int32) < nI q) : 1 ≤ q := by
  rcases Nat.eq_zero_or_pos q with z | z
  · rw [z] at h
    exact absurd h (by decide)
  · exact z
theorem pos_0 {q : Nat} (hq : q < 2 ^ 31) (h : ¬ (0 : Int32) < nI q) : q = 0 := by
  rcases Nat.eq_zero_or_pos q with z | z
  · exact z
  · exact absurd (nI_lt (a := 0) z hq) h
theorem ite_0 {P : Prop} [Decidable P] (h : (if P then (1 : Int32) else 0) = 0) : ¬ P := by
  intro hp
  rw [if_pos hp] at h
  exact absurd h (by decide)
theorem ite_1 {P : Prop} [Decidable P] (h : ¬ (if P then (1 : Int32) else 0) = 0) : P := by
  by_cases hp : P
  · exact hp
  · rw [if_neg hp] at h
    exact absurd rfl h
end
section
/-! the digest object is made, and reset -/
set_option maxHeartbeats 4000000 in
set_option maxRecDepth 100000 in
/-- ImmediateProcessor(digest) -/
theorem m_immI (l : Launch) (D : va_G) (dB dN dL : ClassId) (qi hH : Nat) (sz : Nat)  : Cv_ l yX5_init (ws_ yX5_init cX5_init 2 none) (rm_ 1 0 0 12) D dB dN dL [.ref qi, .ref hH] [(qi, .inr (2, [.null]))] sz (S := Unit) (fun _ => True) (fun _ => [(qi, .inr (2, [.ref hH]))]) := by
  refine ct_of (cc := cX5_init) (maxL := 2) (ret := none) (by decide) rfl (Nat.le_of_ble_eq_true rfl) (fun p e s m below meth c A ls hx hb hml hr hlocks hts hown hin hP hK hD hA hX hS hl => ?_)
  have hown : s.vm.findClass RX5 = some m.cls := hown
  have hl : lv_has ls 2 [(0, .ref qi), (1, .ref hH)] := hl
  refine lv_aload_n hx hb dX5_init_0 rfl (lv_at hl 0 rfl) ?_
  refine lv_aload_n hx hb dX5_init_1 rfl (lv_at hl 1 rfl) ?_
  refine va_putF (D := D) (ci := 2) (v := .ref hH) (ty := .object "BufferBaseDigest") (C := RX5) (T := TX5) (N := 1) hx hb hts in_X5 tyX5 tyX5_ok nmX5 hown hK hP hD hS 0 rfl rfl 0 (by decide) (hts _ q71) (fun _ h9 => h9) rfl hin rfl (by decide +kernel) rfl rfl (Nat.le_of_ble_eq_true rfl) dX5_init_2 (fun H locs hP hD hS => ?_)
  have hP : va_P D CL [(qi, .inr (2, [.ref hH]))] H := hP
  have hD : va_D A [(qi, .inr (2, [.ref hH]))] := hD
  refine lv_aload_n hx hb dX5_init_5 rfl (lv_at hl 0 rfl) ?_
  refine W.objInit hx hb hown (hts _ q70) (hts _ q38) (hts _ q39) rfl (by rw [hml]; exact hl.1) rfl dX5_init_6 (Nat.le_of_ble_eq_true rfl) (Nat.le_of_ble_eq_true rfl) ?_
  refine W.eq (g2 := F0 m 9 ls []) rfl ?_
  exact rt_v hx hb hr hlocks hP hK hD hS dX5_init_9 () [0] rfl (by decide) trivial

set_option maxHeartbeats 4000000 in
set_option maxRecDepth 100000 in
/-- BufferBaseDigest(Immediate, 8) -/
theorem m_bufI (l : Launch) (D : va_G) (dB dN dL : ClassId) (hH tI : Nat) (sz : Nat) : Met l yX1_init (ws_ yX1_init cX1_init 3 none) (rm_ 2 2 9 33) (va_Pc [.ref hH, .ref tI, .int 8] (preI_ tI D dB dN dL [(hH, .inr (1, [.int 0, .int 0, .null, .int 0, .null, .null, .null, .int 0]))] sz)) (Qv_ D dB dN dL (S := Nat × Nat) (fun _ => True) (fun u => [(hH, .inr (1, [.int 0, .int 8, .ref u.1, .int 0, .null, .ref u.2, .null, .int 0])), (u.1, .inl (dB, 8, .inl (fun _ => 0))), (u.2, .inr (2, [.ref hH]))]) (va_A [(hH, .inr (1, [.int 0, .int 0, .null, .int 0, .null, .null, .null, .int 0]))] sz)) 2 9 (va_A [(hH, .inr (1, [.int 0, .int 0, .null, .int 0, .null, .null, .null, .int 0]))] sz) := by
  refine ct_ofI (t := tI) (cc := cX1_init) (maxL := 3) (ret := none) (by decide) rfl (Nat.le_of_ble_eq_true rfl) (fun p e s m below meth c A ls hx hb hml hr hlocks hts hown hin hP hK hD hA hX hO hS hl => ?_)
  have hown : s.vm.findClass RX1 = some m.cls := hown
  have hl : lv_has ls 3 [(0, .ref hH), (1, .ref tI), (2, .int 8)] := hl
  refine lv_aload_n hx hb dX1_init_0 rfl (lv_at hl 0 rfl) ?_
  refine W.objInit hx hb hown (hts _ q53) (hts _ q38) (hts _ q39) rfl (by rw [hml]; exact hl.1) rfl dX1_init_1 (Nat.le_of_ble_eq_true rfl) (Nat.le_of_ble_eq_true rfl) ?_
  refine W.eq (g2 := F0 m 4 ls []) rfl ?_
  refine lv_aload_n hx hb dX1_init_4 rfl (lv_at hl 0 rfl) ?_
  refine lv_iload_n hx hb dX1_init_5 rfl (lv_at hl 2 rfl) ?_
  refine va_put (D := D) (ci := 1) (v := .int 8) (ty := .int) (C := RX3) (T := TX3) (N := 8) hx hb hts in_X3 tyX3 tyX3_ok nmX3 hown hK hP hD hS 0 rfl rfl 1 (by decide) (hts _ q212) (fun _ h9 => h9) rfl (by decide +kernel) rfl rfl (Nat.le_of_ble_eq_true rfl) dX1_init_6 (fun H locs hP hD hS => ?_)
  have hP : va_P D CL [(hH, .inr (1, [.int 0, .int 8, .null, .int 0, .null, .null, .null, .int 0]))] H := hP
  have hD : va_D A [(hH, .inr (1, [.int 0, .int 8, .null, .int 0, .null, .null, .null, .int 0]))] := hD
  refine lv_aload_n hx hb dX1_init_9 rfl (lv_at hl 0 rfl) ?_
  refine lv_iload_n hx hb dX1_init_10 rfl (lv_at hl 2 rfl) ?_
  refine na_ (N' := 8) (t0 := 0) (dA := dB) (a0 := (8, .inl (fun _ => 0))) (atype := .byte) (ty := .byte) hx hb rfl (fun _ h => by cases h) (hts _ q64) hK rfl hP hD hS hA (fun _ => rfl) (by decide) rfl (Nat.le_of_ble_eq_true rfl) (Nat.le_of_ble_eq_true rfl) (Nat.le_of_ble_eq_true rfl) dX1_init_11 (fun q_1 H hP hD hS => ?_)
  have hP : va_P D CL [(hH, .inr (1, [.int 0, .int 8, .null, .int 0, .null, .null, .null, .int 0])), (q_1, .inl (dB, 8, .inl (fun _ => 0)))] H := hP
  have hD : va_D A [(hH, .inr (1, [.int 0, .int 8, .null, .int 0, .null, .null, .null, .int 0])), (q_1, .inl (dB, 8, .inl (fun _ => 0)))] := hD
  refine va_put (D := D) (ci := 1) (v := .ref q_1) (ty := .array .byte) (C := RX3) (T := TX3) (N := 8) hx hb hts in_X3 tyX3 tyX3_ok nmX3 hown hK hP hD hS 0 rfl rfl 2 (by decide) (hts _ q217) (fun _ h9 => h9) rfl (by decide +kernel) rfl rfl (Nat.le_of_ble_eq_true rfl) dX1_init_13 (fun H locs hP hD hS => ?_)
  have hP : va_P D CL [(hH, .inr (1, [.int 0, .int 8, .ref q_1, .int 0, .null, .null, .null, .int 0])), (q_1, .inl (dB, 8, .inl (fun _ => 0)))] H := hP
  have hD : va_D A [(hH, .inr (1, [.int 0, .int 8, .ref q_1, .int 0, .null, .null, .null, .int 0])), (q_1, .inl (dB, 8, .inl (fun _ => 0)))] := hD
  refine lv_aload_n hx hb dX1_init_16 rfl (lv_at hl 1 rfl) ?_
  refine getOFN hx hb hO hS hown (va_Nw.use rfl hX.1.1.2.2) dX1_init_17 ?_
  refine lv_lookup (off := 43) (tgt := 63) hx hb dX1_init_20 (by decide) (by decide) (by decide) ?_
  refine lv_aload_n hx hb dX1_init_63 rfl (lv_at hl 0 rfl) ?_
  refine va_new (ci := 2) (fs := [.null]) (C := RX5) (T := TX5) (N := 1) hx hb hts in_X5 tyX5 tyX5_ok hown (hts _ q65) (hts _ q66) (hts _ q13) hK hP hD hS hA rfl (fun j hj => by rcases (show j = 0 by omega) with rfl <;> rfl) (Nat.le_of_ble_eq_true rfl) (Nat.le_of_ble_eq_true rfl) dX1_init_64 (fun q_2 H hP hD hS => ?_)
  have hP : va_P D CL [(hH, .inr (1, [.int 0, .int 8, .ref q_1, .int 0, .null, .null, .null, .int 0])), (q_1, .inl (dB, 8, .inl (fun _ => 0))), (q_2, .inr (2, [.null]))] H := hP
  have hD : va_D A [(hH, .inr (1, [.int 0, .int 8, .ref q_1, .int 0, .null, .null, .null, .int 0])), (q_1, .inl (dB, 8, .inl (fun _ => 0))), (q_2, .inr (2, [.null]))] := hD
  refine lv_dup hx hb dX1_init_67 rfl ?_
  refine lv_aload_n hx hb dX1_init_68 rfl (lv_at hl 0 rfl) ?_
  refine cl_v [(q_2, .inr (2, [.null]))] [(hH, .inr (1, [.int 0, .int 8, .ref q_1, .int 0, .null, .null, .null, .int 0])), (q_1, .inl (dB, 8, .inl (fun _ => 0)))] [2] [0, 1] rfl rfl (by decide) (by decide) hP hD hS hA (va_runIN (As := [.ref hH]) (rest := [.ref q_2, .ref hH]) ⟨hx, hb, hml, hown, hts⟩ (m_immI l D dB dN dL q_2 hH _) ⟨va_cnB 1 hts (lw_meth q69) rfl rfl rfl hX.1.1.1 (hts _ q13) (by decide +kernel) ⟨Nat.le_of_ble_eq_true rfl, Nat.le_of_ble_eq_true rfl⟩, rfl, hts _ q68⟩ (pv_ (As := [.ref q_2, .ref hH]) [2] rfl (by decide) hP hK hD hS hA hX) rfl rfl hl.1 rfl (lv_room (Nat.le_of_ble_eq_true rfl)) dX1_init_69 ⟨Nat.le_of_ble_eq_true rfl, Nat.le_of_ble_eq_true rfl⟩) (fun u_3 H locs hw_4 hP hD hS => ?_)
  have hP : va_P D CL [(hH, .inr (1, [.int 0, .int 8, .ref q_1, .int 0, .null, .null, .null, .int 0])), (q_1, .inl (dB, 8, .inl (fun _ => 0))), (q_2, .inr (2, [.ref hH]))] H := hP
  have hD : va_D A [(hH, .inr (1, [.int 0, .int 8, .ref q_1, .int 0, .null, .null, .null, .int 0])), (q_1, .inl (dB, 8, .inl (fun _ => 0))), (q_2, .inr (2, [.ref hH]))] := hD
  refine va_put (D := D) (ci := 1) (v := .ref q_2) (ty := .object "BufferBaseDigest$ProcessingBuffer") (C := RX3) (T := TX3) (N := 8) hx hb hts in_X3 tyX3 tyX3_ok nmX3 hown hK hP hD hS 0 rfl rfl 5 (by decide) (hts _ q229) (fun _ h9 => h9) rfl (by decide +kernel) rfl rfl (Nat.le_of_ble_eq_true rfl) dX1_init_72 (fun H locs hP hD hS => ?_)
  have hP : va_P D CL [(hH, .inr (1, [.int 0, .int 8, .ref q_1, .int 0, .null, .ref q_2, .null, .int 0])), (q_1, .inl (dB, 8, .inl (fun _ => 0))), (q_2, .inr (2, [.ref hH]))] H := hP
  have hD : va_D A [(hH, .inr (1, [.int 0, .int 8, .ref q_1, .int 0, .null, .ref q_2, .null, .int 0])), (q_1, .inl (dB, 8, .inl (fun _ => 0))), (q_2, .inr (2, [.ref hH]))] := hD
  exact rt_v hx hb hr hlocks hP hK hD hS dX1_init_75 (q_1, q_2) [0, 1, 2] rfl (by decide) trivial

set_option maxHeartbeats 4000000 in
set_option maxRecDepth 100000 in
/-- ISAPDigest.Friend.getFriend -/
theorem m_getF (l : Launch) (D : va_G) (dB dN dL : ClassId) (t : Nat) (sz : Nat)  : Cr_ l yX6_getFriend (ws_ yX6_getFriend cX6_getFriend 1 (some (.object "ISAPDigest$Friend"))) (rm_ 0 0 0 0) D dB dN dL [.ref t] [] sz (S := Unit) (fun _ _ => True) (fun _ _ => []) := by
  refine ct_of (cc := cX6_getFriend) (maxL := 1) (ret := (some (.object "ISAPDigest$Friend"))) (by decide) rfl (Nat.le_of_ble_eq_true rfl) (fun p e s m below meth c A ls hx hb hml hr hlocks hts hown hin hP hK hD hA hX hS hl => ?_)
  have hown : s.vm.findClass RX6 = some m.cls := hown
  have hl : lv_has ls 1 [(0, .ref t)] := hl
  refine lv_null hx hb dX6_getFriend_0 ?_
  refine lv_aload_n hx hb dX6_getFriend_1 rfl (lv_at hl 0 rfl) ?_
  refine lv_acmp_ne (rx := none) (ry := some t) (tgt := 15) hx hb dX6_getFriend_2 (by decide) (fun _ => ?_) (fun c => absurd c (by simp))
  obtain ⟨⟨tI, hZI, hOI⟩, ⟨tF, hZF⟩, ⟨tG, hZG⟩, ⟨tR, hZR, hTR⟩⟩ := hX.2
  refine va_gets hx hb hZG hS hown (hts _ q147) (fun _ h9 => h9) dX6_getFriend_15 ?_
  exact rt_r hx hb hr (Or.inl ⟨_, rfl⟩) hlocks hP hK hD hS dX6_getFriend_18 () [] rfl (by decide) trivial

set_option maxHeartbeats 4000000 in
set_option maxRecDepth 100000 in
/-- AsconPermutationFriend.getAsconPermutation -/
theorem m_getP (l : Launch) (D : va_G) (dB dN dL : ClassId) (t : Nat) (sz : Nat)  : Cr_ l yX7_getAsconPermutation (ws_ yX7_getAsconPermutation cX7_getAsconPermutation 1 (some (.object "AsconPermutationFriend$AsconPermutation"))) (rm_ 2 1 5 32) D dB dN dL [.ref t] [] sz (S := Unit) (fun _ _ => True) (fun _ a => [(a, .inr (3, [.long 0, .long 0, .long 0, .long 0, .long 0]))]) := by
  refine ct_of (cc := cX7_getAsconPermutation) (maxL := 1) (ret := (some (.object "AsconPermutationFriend$AsconPermutation"))) (by decide) rfl (Nat.le_of_ble_eq_true rfl) (fun p e s m below meth c A ls hx hb hml hr hlocks hts hown hin hP hK hD hA hX hS hl => ?_)
  have hown : s.vm.findClass RX7 = some m.cls := hown
  have hl : lv_has ls 1 [(0, .ref t)] := hl
  refine lv_null hx hb dX7_getAsconPermutation_0 ?_
  refine lv_aload_n hx hb dX7_getAsconPermutation_1 rfl (lv_at hl 0 rfl) ?_
  refine lv_acmp_ne (rx := none) (ry := some t) (tgt := 15) hx hb dX7_getAsconPermutation_2 (by decide) (fun _ => ?_) (fun c => absurd c (by simp))
  refine va_new (ci := 3) (fs := [.long 0, .long 0, .long 0, .long 0, .long 0]) (C := RX8) (T := TX8) (N := 5) hx hb hts in_X8 tyX8 tyX8_ok hown (hts _ q155) (hts _ q156) (hts _ q21) hK hP hD hS hA rfl (fun j hj => by rcases (show j = 0 ∨ j = 1 ∨ j = 2 ∨ j = 3 ∨ j = 4 by omega) with rfl|rfl|rfl|rfl|rfl <;> rfl) (Nat.le_of_ble_eq_true rfl) (Nat.le_of_ble_eq_true rfl) dX7_getAsconPermutation_15 (fun q_1 H hP hD hS => ?_)
  have hP : va_P D CL [(q_1, .inr (3, [.long 0, .long 0, .long 0, .long 0, .long 0]))] H := hP
  have hD : va_D A [(q_1, .inr (3, [.long 0, .long 0, .long 0, .long 0, .long 0]))] := hD
  refine lv_dup hx hb dX7_getAsconPermutation_18 rfl ?_
  refine cl_v [(q_1, .inr (3, [.long 0, .long 0, .long 0, .long 0, .long 0]))] [] [0] [] rfl rfl (by decide) (by decide) hP hD hS hA (va_runI (As := []) (rest := [.ref q_1]) ⟨hx, hb, hml, hown, hts⟩ (m_permI l D dB dN dL q_1 (0, 0, 0, 0, 0) _) (cwI 0 hts (lw_meth q159) rfl rfl rfl (hts _ q21) (hts _ q157) (hts _ q158) rfl (by decide +kernel) ⟨Nat.le_of_ble_eq_true rfl, Nat.le_of_ble_eq_true rfl⟩) (pv_ (As := [.ref q_1]) [0] rfl (by decide) hP hK hD hS hA hX) rfl rfl hl.1 rfl (lv_room (Nat.le_of_ble_eq_true rfl)) dX7_getAsconPermutation_19 ⟨Nat.le_of_ble_eq_true rfl, Nat.le_of_ble_eq_true rfl⟩) (fun u_2 H locs hw_3 hP hD hS => ?_)
  have hP : va_P D CL [(q_1, .inr (3, [.long 0, .long 0, .long 0, .long 0, .long 0]))] H := hP
  have hD : va_D A [(q_1, .inr (3, [.long 0, .long 0, .long 0, .long 0, .long 0]))] := hD
  exact rt_r hx hb hr (Or.inl ⟨_, rfl⟩) hlocks hP hK hD hS dX7_getAsconPermutation_22 () [0] rfl (by decide) trivial

set_option maxHeartbeats 4000000 in
set_option maxRecDepth 100000 in
/-- AsconBaseDigest() -/
theorem m_ascI (l : Launch) (D : va_G) (dB dN dL : ClassId) (hH : Nat) (sz : Nat)  : Cv_ l yX2_init (ws_ yX2_init cX2_init 1 none) (rm_ 3 3 14 55) D dB dN dL [.ref hH] [(hH, .inr (1, [.int 0, .int 0, .null, .int 0, .null, .null, .null, .int 0]))] sz (S := Nat × Nat × Nat) (fun _ => True) (fun u => [(hH, .inr (1, [.int 32, .int 8, .ref u.1, .int 0, .null, .ref u.2.1, .ref u.2.2, .int 12])), (u.1, .inl (dB, 8, .inl (fun _ => 0))), (u.2.1, .inr (2, [.ref hH])), (u.2.2, .inr (3, [.long 0, .long 0, .long 0, .long 0, .long 0]))]) := by
  refine ct_of (cc := cX2_init) (maxL := 1) (ret := none) (by decide) rfl (Nat.le_of_ble_eq_true rfl) (fun p e s m below meth c A ls hx hb hml hr hlocks hts hown hin hP hK hD hA hX hS hl => ?_)
  have hown : s.vm.findClass RX2 = some m.cls := hown
  have hl : lv_has ls 1 [(0, .ref hH)] := hl
  refine lv_aload_n hx hb dX2_init_0 rfl (lv_at hl 0 rfl) ?_
  obtain ⟨⟨tI, hZI, hOI⟩, ⟨tF, hZF⟩, ⟨tG, hZG⟩, ⟨tR, hZR, hTR⟩⟩ := hX.2
  refine va_gets hx hb hZI hS hown (hts _ q48) (fun _ h9 => h9) dX2_init_1 ?_
  refine lv_bipush (v := 8) hx hb dX2_init_4 (by decide) ?_
  refine cl_v [(hH, .inr (1, [.int 0, .int 0, .null, .int 0, .null, .null, .null, .int 0]))] [] [0] [] rfl rfl (by decide) (by decide) hP hD hS hA (va_runI (As := [.ref tI, .int 8]) (rest := []) ⟨hx, hb, hml, hown, hts⟩ (m_bufI l D dB dN dL hH tI _) (cwI 2 hts (lw_meth q52) rfl rfl rfl (hts _ q8) (hts _ q50) (hts _ q51) rfl (by decide +kernel) ⟨Nat.le_of_ble_eq_true rfl, Nat.le_of_ble_eq_true rfl⟩) (pvI_ (As := [.ref hH, .ref tI, .int 8]) [0] rfl (by decide) hP hK hD hS hA hX hOI) rfl rfl hl.1 rfl (lv_room (Nat.le_of_ble_eq_true rfl)) dX2_init_6 ⟨Nat.le_of_ble_eq_true rfl, Nat.le_of_ble_eq_true rfl⟩) (fun u_1 H locs hw_2 hP hD hS => ?_)
  obtain ⟨qb, qi⟩ := u_1
  have hP : va_P D CL [(hH, .inr (1, [.int 0, .int 8, .ref qb, .int 0, .null, .ref qi, .null, .int 0])), (qb, .inl (dB, 8, .inl (fun _ => 0))), (qi, .inr (2, [.ref hH]))] H := hP
  have hD : va_D A [(hH, .inr (1, [.int 0, .int 8, .ref qb, .int 0, .null, .ref qi, .null, .int 0])), (qb, .inl (dB, 8, .inl (fun _ => 0))), (qi, .inr (2, [.ref hH]))] := hD
  refine lv_aload_n hx hb dX2_init_9 rfl (lv_at hl 0 rfl) ?_
  refine lv_bipush (v := 12) hx hb dX2_init_10 (by decide) ?_
  refine va_put (D := D) (ci := 1) (v := .int 12) (ty := .int) (C := RX3) (T := TX3) (N := 8) hx hb hts in_X3 tyX3 tyX3_ok nmX3 hown hK hP hD hS 0 rfl rfl 7 (by decide) (hts _ q208) (fun _ h9 => h9) rfl (by decide +kernel) rfl rfl (Nat.le_of_ble_eq_true rfl) dX2_init_12 (fun H locs hP hD hS => ?_)
  have hP : va_P D CL [(hH, .inr (1, [.int 0, .int 8, .ref qb, .int 0, .null, .ref qi, .null, .int 12])), (qb, .inl (dB, 8, .inl (fun _ => 0))), (qi, .inr (2, [.ref hH]))] H := hP
  have hD : va_D A [(hH, .inr (1, [.int 0, .int 8, .ref qb, .int 0, .null, .ref qi, .null, .int 12])), (qb, .inl (dB, 8, .inl (fun _ => 0))), (qi, .inr (2, [.ref hH]))] := hD
  refine lv_aload_n hx hb dX2_init_15 rfl (lv_at hl 0 rfl) ?_
  refine va_getsN hx hb hZF hS hown (va_Nw.use rfl hX.1.1.2.1) (fun _ h9 => h9) dX2_init_16 ?_
  refine cl_r [] [(hH, .inr (1, [.int 0, .int 8, .ref qb, .int 0, .null, .ref qi, .null, .int 12])), (qb, .inl (dB, 8, .inl (fun _ => 0))), (qi, .inr (2, [.ref hH]))] [] [0, 1, 2] rfl rfl (by decide) (by decide) hP hD hS hA (va_runS (As := [.ref tF]) (rest := [.ref hH]) ⟨hx, hb, hml, hown, hts⟩ (m_getF l D dB dN dL tF _) (va_cwS 1 hts (lw_S q77 q78 q15 q79) rfl rfl rfl (by decide +kernel) ⟨Nat.le_of_ble_eq_true rfl, Nat.le_of_ble_eq_true rfl⟩) (pv_ (As := [.ref tF]) [] rfl (by decide) hP hK hD hS hA hX) rfl rfl hl.1 rfl (lv_room (Nat.le_of_ble_eq_true rfl)) dX2_init_19 ⟨Nat.le_of_ble_eq_true rfl, Nat.le_of_ble_eq_true rfl⟩) (fun u_4 r_6 H locs hw_5 hP hD hS => ?_)
  have hP : va_P D CL [(hH, .inr (1, [.int 0, .int 8, .ref qb, .int 0, .null, .ref qi, .null, .int 12])), (qb, .inl (dB, 8, .inl (fun _ => 0))), (qi, .inr (2, [.ref hH]))] H := hP
  have hD : va_D A [(hH, .inr (1, [.int 0, .int 8, .ref qb, .int 0, .null, .ref qi, .null, .int 12])), (qb, .inl (dB, 8, .inl (fun _ => 0))), (qi, .inr (2, [.ref hH]))] := hD
  refine cl_r [] [(hH, .inr (1, [.int 0, .int 8, .ref qb, .int 0, .null, .ref qi, .null, .int 12])), (qb, .inl (dB, 8, .inl (fun _ => 0))), (qi, .inr (2, [.ref hH]))] [] [0, 1, 2] rfl rfl (by decide) (by decide) hP hD hS hA (va_runS (As := [.ref r_6]) (rest := [.ref hH]) ⟨hx, hb, hml, hown, hts⟩ (m_getP l D dB dN dL r_6 _) (va_cwS 1 hts (lw_S q149 q150 q20 q151) rfl rfl rfl (by decide +kernel) ⟨Nat.le_of_ble_eq_true rfl, Nat.le_of_ble_eq_true rfl⟩) (pv_ (As := [.ref r_6]) [] rfl (by decide) hP hK hD hS hA hX) rfl rfl hl.1 rfl (lv_room (Nat.le_of_ble_eq_true rfl)) dX2_init_22 ⟨Nat.le_of_ble_eq_true rfl, Nat.le_of_ble_eq_true rfl⟩) (fun u_7 r_9 H locs hw_8 hP hD hS => ?_)
  have hP : va_P D CL [(hH, .inr (1, [.int 0, .int 8, .ref qb, .int 0, .null, .ref qi, .null, .int 12])), (qb, .inl (dB, 8, .inl (fun _ => 0))), (qi, .inr (2, [.ref hH])), (r_9, .inr (3, [.long 0, .long 0, .long 0, .long 0, .long 0]))] H := hP
  have hD : va_D A [(hH, .inr (1, [.int 0, .int 8, .ref qb, .int 0, .null, .ref qi, .null, .int 12])), (qb, .inl (dB, 8, .inl (fun _ => 0))), (qi, .inr (2, [.ref hH])), (r_9, .inr (3, [.long 0, .long 0, .long 0, .long 0, .long 0]))] := hD
  refine va_put (D := D) (ci := 1) (v := .ref r_9) (ty := .object "AsconPermutationFriend$AsconPermutation") (C := RX3) (T := TX3) (N := 8) hx hb hts in_X3 tyX3 tyX3_ok nmX3 hown hK hP hD hS 0 rfl rfl 6 (by decide) (hts _ q205) (fun _ h9 => h9) rfl (by decide +kernel) rfl rfl (Nat.le_of_ble_eq_true rfl) dX2_init_25 (fun H locs hP hD hS => ?_)
  have hP : va_P D CL [(hH, .inr (1, [.int 0, .int 8, .ref qb, .int 0, .null, .ref qi, .ref r_9, .int 12])), (qb, .inl (dB, 8, .inl (fun _ => 0))), (qi, .inr (2, [.ref hH])), (r_9, .inr (3, [.long 0, .long 0, .long 0, .long 0, .long 0]))] H := hP
  have hD : va_D A [(hH, .inr (1, [.int 0, .int 8, .ref qb, .int 0, .null, .ref qi, .ref r_9, .int 12])), (qb, .inl (dB, 8, .inl (fun _ => 0))), (qi, .inr (2, [.ref hH])), (r_9, .inr (3, [.long 0, .long 0, .long 0, .long 0, .long 0]))] := hD
  refine lv_aload_n hx hb dX2_init_28 rfl (lv_at hl 0 rfl) ?_
  refine lv_bipush (v := 32) hx hb dX2_init_29 (by decide) ?_
  refine va_put (D := D) (ci := 1) (v := .int 32) (ty := .int) (C := RX3) (T := TX3) (N := 8) hx hb hts in_X3 tyX3 tyX3_ok nmX3 hown hK hP hD hS 0 rfl rfl 0 (by decide) (hts _ q209) (fun x9 h9 => u_same (hts _ q210) x9 h9) rfl (by decide +kernel) rfl rfl (Nat.le_of_ble_eq_true rfl) dX2_init_31 (fun H locs hP hD hS => ?_)
  have hP : va_P D CL [(hH, .inr (1, [.int 32, .int 8, .ref qb, .int 0, .null, .ref qi, .ref r_9, .int 12])), (qb, .inl (dB, 8, .inl (fun _ => 0))), (qi, .inr (2, [.ref hH])), (r_9, .inr (3, [.long 0, .long 0, .long 0, .long 0, .long 0]))] H := hP
  have hD : va_D A [(hH, .inr (1, [.int 32, .int 8, .ref qb, .int 0, .null, .ref qi, .ref r_9, .int 12])), (qb, .inl (dB, 8, .inl (fun _ => 0))), (qi, .inr (2, [.ref hH])), (r_9, .inr (3, [.long 0, .long 0, .long 0, .long 0, .long 0]))] := hD
  exact rt_v hx hb hr hlocks hP hK hD hS dX2_init_34 (qb, qi, r_9) [0, 1, 2, 3] rfl (by decide) trivial

set_option maxHeartbeats 4000000 in
set_option maxRecDepth 100000 in
/-- BufferBaseDigest.reset -/
theorem m_breset (l : Launch) (D : va_G) (dB dN dL : ClassId) (hH qb : Nat) (al vi vp : Value) (pos : Int32) (buf : Nat → Int32) (sz : Nat)  : Cv_ l yX1_reset (ws_ yX1_reset cX1_reset 1 none) (rm_ 2 0 0 43) D dB dN dL [.ref hH] [(hH, .inr (1, [.int 32, .int 8, .ref qb, .int pos, al, vi, vp, .int 12])), (qb, .inl (dB, 8, .inl buf))] sz (S := Nat → Int32) (fun _ => True) (fun u => [(hH, .inr (1, [.int 32, .int 8, .ref qb, .int 0, al, vi, vp, .int 12])), (qb, .inl (dB, 8, .inl u))]) := by
  refine ct_of (cc := cX1_reset) (maxL := 1) (ret := none) (by decide) rfl (Nat.le_of_ble_eq_true rfl) (fun p e s m below meth c A ls hx hb hml hr hlocks hts hown hin hP hK hD hA hX hS hl => ?_)
  have hown : s.vm.findClass RX1 = some m.cls := hown
  have hl : lv_has ls 1 [(0, .ref hH)] := hl
  refine lv_aload_n hx hb dX1_reset_0 rfl (lv_at hl 0 rfl) ?_
  refine va_get (D := D) (ci := 1) (v := .ref qb) (C := RX3) (T := TX3) (N := 8) hx hb hts in_X3 hown hK hP 0 rfl rfl 2 (by decide) (hts _ q217) (fun _ h9 => h9) rfl dX1_reset_1 ?_
  refine cl_v [(qb, .inl (dB, 8, .inl buf))] [(hH, .inr (1, [.int 32, .int 8, .ref qb, .int pos, al, vi, vp, .int 12]))] [1] [0] rfl rfl (by decide) (by decide) hP hD hS hA (va_runS (As := [.ref qb]) (rest := []) ⟨hx, hb, hml, hown, hts⟩ (m_clear l D dB dN dL qb 8 buf _ (by decide)) (va_cwS 1 hts (lw_S q190 q191 q22 q192) rfl rfl rfl (by decide +kernel) ⟨Nat.le_of_ble_eq_true rfl, Nat.le_of_ble_eq_true rfl⟩) (pv_ (As := [.ref qb]) [1] rfl (by decide) hP hK hD hS hA hX) rfl rfl hl.1 rfl (lv_room (Nat.le_of_ble_eq_true rfl)) dX1_reset_4 ⟨Nat.le_of_ble_eq_true rfl, Nat.le_of_ble_eq_true rfl⟩) (fun u_1 H locs hw_2 hP hD hS => ?_)
  have hP : va_P D CL [(hH, .inr (1, [.int 32, .int 8, .ref qb, .int pos, al, vi, vp, .int 12])), (qb, .inl (dB, 8, .inl u_1))] H := hP
  have hD : va_D A [(hH, .inr (1, [.int 32, .int 8, .ref qb, .int pos, al, vi, vp, .int 12])), (qb, .inl (dB, 8, .inl u_1))] := hD
  refine lv_aload_n hx hb dX1_reset_7 rfl (lv_at hl 0 rfl) ?_
  refine lv_iconst (v := 0) hx hb dX1_reset_8 (by decide) ?_
  refine va_put (D := D) (ci := 1) (v := .int 0) (ty := .int) (C := RX3) (T := TX3) (N := 8) hx hb hts in_X3 tyX3 tyX3_ok nmX3 hown hK hP hD hS 0 rfl rfl 3 (by decide) (hts _ q224) (fun _ h9 => h9) rfl (by decide +kernel) rfl rfl (Nat.le_of_ble_eq_true rfl) dX1_reset_9 (fun H locs hP hD hS => ?_)
  have hP : va_P D CL [(hH, .inr (1, [.int 32, .int 8, .ref qb, .int 0, al, vi, vp, .int 12])), (qb, .inl (dB, 8, .inl u_1))] H := hP
  have hD : va_D A [(hH, .inr (1, [.int 32, .int 8, .ref qb, .int 0, al, vi, vp, .int 12])), (qb, .inl (dB, 8, .inl u_1))] := hD
  exact rt_v hx hb hr hlocks hP hK hD hS dX1_reset_12 u_1 [0, 1] rfl (by decide) trivial

set_option maxHeartbeats 4000000 in
set_option maxRecDepth 100000 in
/-- AsconHash256.reset -/
theorem m_hreset (l : Launch) (D : va_G) (dB dN dL : ClassId) (hH qb qp : Nat) (al vi : Value) (pos : Int32) (buf : Nat → Int32) (x : P5) (sz : Nat)  : Cv_ l yX3_reset (ws_ yX3_reset cX3_reset 1 none) (rm_ 3 0 0 63) D dB dN dL [.ref hH] [(hH, .inr (1, [.int 32, .int 8, .ref qb, .int pos, al, vi, .ref qp, .int 12])), (qb, .inl (dB, 8, .inl buf)), (qp, .inr (3, [.long x.1, .long x.2.1, .long x.2.2.1, .long x.2.2.2.1, .long x.2.2.2.2]))] sz (S := Nat → Int32) (fun _ => True) (fun u => [(hH, .inr (1, [.int 32, .int 8, .ref qb, .int 0, al, vi, .ref qp, .int 12])), (qb, .inl (dB, 8, .inl u)), (qp, .inr (3, [.long iv.1, .long iv.2.1, .long iv.2.2.1, .long iv.2.2.2.1, .long iv.2.2.2.2]))]) := by
  refine ct_of (cc := cX3_reset) (maxL := 1) (ret := none) (by decide) rfl (Nat.le_of_ble_eq_true rfl) (fun p e s m below meth c A ls hx hb hml hr hlocks hts hown hin hP hK hD hA hX hS hl => ?_)
  have hown : s.vm.findClass RX3 = some m.cls := hown
  have hl : lv_has ls 1 [(0, .ref hH)] := hl
  refine lv_aload_n hx hb dX3_reset_0 rfl (lv_at hl 0 rfl) ?_
  refine cl_v [(hH, .inr (1, [.int 32, .int 8, .ref qb, .int pos, al, vi, .ref qp, .int 12])), (qb, .inl (dB, 8, .inl buf))] [(qp, .inr (3, [.long x.1, .long x.2.1, .long x.2.2.1, .long x.2.2.2.1, .long x.2.2.2.2]))] [0, 1] [2] rfl rfl (by decide) (by decide) hP hD hS hA (my_runSU (hK.1 1 _ rfl).2 (As := []) (rest := []) ⟨hx, hb, hml, hown, hts⟩ (m_breset l D dB dN dL hH qb al vi (.ref qp) pos buf _) (my_cwSU (owner := "BufferBaseDigest") 0 hts (lw_SU q183 q184 q186 q187 q188 q8 q189) rfl rfl rfl rfl (by decide +kernel) ⟨Nat.le_of_ble_eq_true rfl, Nat.le_of_ble_eq_true rfl⟩) (pvV (ci := 1) (q0 := 0) (C := RX3) [0, 1] rfl (by decide) hP hK hD hS hA hX rfl rfl) rfl rfl hl.1 rfl (lv_room (Nat.le_of_ble_eq_true rfl)) dX3_reset_1 ⟨Nat.le_of_ble_eq_true rfl, Nat.le_of_ble_eq_true rfl⟩) (fun u_1 H locs hw_2 hP hD hS => ?_)
  have hP : va_P D CL [(qp, .inr (3, [.long x.1, .long x.2.1, .long x.2.2.1, .long x.2.2.2.1, .long x.2.2.2.2])), (hH, .inr (1, [.int 32, .int 8, .ref qb, .int 0, al, vi, .ref qp, .int 12])), (qb, .inl (dB, 8, .inl u_1))] H := hP
  have hD : va_D A [(qp, .inr (3, [.long x.1, .long x.2.1, .long x.2.2.1, .long x.2.2.2.1, .long x.2.2.2.2])), (hH, .inr (1, [.int 32, .int 8, .ref qb, .int 0, al, vi, .ref qp, .int 12])), (qb, .inl (dB, 8, .inl u_1))] := hD
  refine lv_aload_n hx hb dX3_reset_4 rfl (lv_at hl 0 rfl) ?_
  refine va_get (D := D) (ci := 1) (v := .ref qp) (C := RX3) (T := TX3) (N := 8) hx hb hts in_X3 hown hK hP 1 rfl rfl 6 (by decide) (hts _ q206) (fun x9 h9 => u_same (hts _ q207) x9 h9) rfl dX3_reset_5 ?_
  refine lv_ldc2 (v := (-7269279749984954751)) hx hb hown (hts _ q196) dX3_reset_8 ?_
  refine lv_ldc2 (v := 5459383224871899602) hx hb hown (hts _ q197) dX3_reset_11 ?_
  refine lv_ldc2 (v := (-5880230600644446182)) hx hb hown (hts _ q198) dX3_reset_14 ?_
  refine lv_ldc2 (v := 4359436768738168243) hx hb hown (hts _ q199) dX3_reset_17 ?_
  refine lv_ldc2 (v := 1899470422303676269) hx hb hown (hts _ q200) dX3_reset_20 ?_
  refine cl_v [(qp, .inr (3, [.long x.1, .long x.2.1, .long x.2.2.1, .long x.2.2.2.1, .long x.2.2.2.2]))] [(hH, .inr (1, [.int 32, .int 8, .ref qb, .int 0, al, vi, .ref qp, .int 12])), (qb, .inl (dB, 8, .inl u_1))] [0] [1, 2] rfl rfl (by decide) (by decide) hP hD hS hA (va_runV (As := [.long (-7269279749984954751), .long 5459383224871899602, .long (-5880230600644446182), .long 4359436768738168243, .long 1899470422303676269]) (rest := []) ⟨hx, hb, hml, hown, hts⟩ (m_set l D dB dN dL qp x iv _) (cwV 5 hts (lw_V q201 q202 q203 q21 q204) rfl rfl rfl (by decide +kernel) ⟨Nat.le_of_ble_eq_true rfl, Nat.le_of_ble_eq_true rfl⟩) (pvV (ci := 3) (q0 := 0) (C := RX8) [0] rfl (by decide) hP hK hD hS hA hX rfl rfl) rfl rfl hl.1 rfl (lv_room (Nat.le_of_ble_eq_true rfl)) dX3_reset_23 ⟨Nat.le_of_ble_eq_true rfl, Nat.le_of_ble_eq_true rfl⟩) (fun u_4 H locs hw_5 hP hD hS => ?_)
  have hP : va_P D CL [(hH, .inr (1, [.int 32, .int 8, .ref qb, .int 0, al, vi, .ref qp, .int 12])), (qb, .inl (dB, 8, .inl u_1)), (qp, .inr (3, [.long iv.1, .long iv.2.1, .long iv.2.2.1, .long iv.2.2.2.1, .long iv.2.2.2.2]))] H := hP
  have hD : va_D A [(hH, .inr (1, [.int 32, .int 8, .ref qb, .int 0, al, vi, .ref qp, .int 12])), (qb, .inl (dB, 8, .inl u_1)), (qp, .inr (3, [.long iv.1, .long iv.2.1, .long iv.2.2.1, .long iv.2.2.2.1, .long iv.2.2.2.2]))] := hD
  exact rt_v hx hb hr hlocks hP hK hD hS dX3_reset_26 u_1 [0, 1, 2] rfl (by decide) trivial

set_option maxHeartbeats 4000000 in
set_option maxRecDepth 100000 in
/-- AsconHash256() -/
theorem m_hashI (l : Launch) (D : va_G) (dB dN dL : ClassId) (hH : Nat) (sz : Nat)  : Cv_ l yX3_init (ws_ yX3_init cX3_init 1 none) (rm_ 4 3 14 84) D dB dN dL [.ref hH] [(hH, .inr (1, [.int 0, .int 0, .null, .int 0, .null, .null, .null, .int 0]))] sz (S := Nat × Nat × Nat × Nat × (Nat → Int32)) (fun _ => True) (fun u => [(hH, .inr (1, [.int 32, .int 8, .ref u.1, .int 0, .ref u.2.2.2.1, .ref u.2.1, .ref u.2.2.1, .int 12])), (u.1, .inl (dB, 8, .inl u.2.2.2.2)), (u.2.1, .inr (2, [.ref hH])), (u.2.2.1, .inr (3, [.long iv.1, .long iv.2.1, .long iv.2.2.1, .long iv.2.2.2.1, .long iv.2.2.2.2]))]) := by
  refine ct_of (cc := cX3_init) (maxL := 1) (ret := none) (by decide) rfl (Nat.le_of_ble_eq_true rfl) (fun p e s m below meth c A ls hx hb hml hr hlocks hts hown hin hP hK hD hA hX hS hl => ?_)
  have hown : s.vm.findClass RX3 = some m.cls := hown
  have hl : lv_has ls 1 [(0, .ref hH)] := hl
  refine lv_aload_n hx hb dX3_init_0 rfl (lv_at hl 0 rfl) ?_
  refine cl_v [(hH, .inr (1, [.int 0, .int 0, .null, .int 0, .null, .null, .null, .int 0]))] [] [0] [] rfl rfl (by decide) (by decide) hP hD hS hA (va_runI (As := []) (rest := []) ⟨hx, hb, hml, hown, hts⟩ (m_ascI l D dB dN dL hH _) (cwI 0 hts (lw_meth q47) rfl rfl rfl (hts _ q9) (hts _ q45) (hts _ q46) rfl (by decide +kernel) ⟨Nat.le_of_ble_eq_true rfl, Nat.le_of_ble_eq_true rfl⟩) (pv_ (As := [.ref hH]) [0] rfl (by decide) hP hK hD hS hA hX) rfl rfl hl.1 rfl (lv_room (Nat.le_of_ble_eq_true rfl)) dX3_init_1 ⟨Nat.le_of_ble_eq_true rfl, Nat.le_of_ble_eq_true rfl⟩) (fun u_1 H locs hw_2 hP hD hS => ?_)
  obtain ⟨qb, qi, qp⟩ := u_1
  have hP : va_P D CL [(hH, .inr (1, [.int 32, .int 8, .ref qb, .int 0, .null, .ref qi, .ref qp, .int 12])), (qb, .inl (dB, 8, .inl (fun _ => 0))), (qi, .inr (2, [.ref hH])), (qp, .inr (3, [.long 0, .long 0, .long 0, .long 0, .long 0]))] H := hP
  have hD : va_D A [(hH, .inr (1, [.int 32, .int 8, .ref qb, .int 0, .null, .ref qi, .ref qp, .int 12])), (qb, .inl (dB, 8, .inl (fun _ => 0))), (qi, .inr (2, [.ref hH])), (qp, .inr (3, [.long 0, .long 0, .long 0, .long 0, .long 0]))] := hD
  refine lv_aload_n hx hb dX3_init_4 rfl (lv_at hl 0 rfl) ?_
  obtain ⟨qa, hqa⟩ := hX.1.2.2.2.2
  refine va_ldcS hx hb hown hqa dX3_init_5 ?_
  refine va_put (D := D) (ci := 1) (v := .ref qa) (ty := .object "java/lang/String") (C := RX3) (T := TX3) (N := 8) hx hb hts in_X3 tyX3 tyX3_ok nmX3 hown hK hP hD hS 0 rfl rfl 4 (by decide) (hts _ q227) (fun x9 h9 => u_same (hts _ q228) x9 h9) rfl (by decide +kernel) rfl rfl (Nat.le_of_ble_eq_true rfl) dX3_init_7 (fun H locs hP hD hS => ?_)
  have hP : va_P D CL [(hH, .inr (1, [.int 32, .int 8, .ref qb, .int 0, .ref qa, .ref qi, .ref qp, .int 12])), (qb, .inl (dB, 8, .inl (fun _ => 0))), (qi, .inr (2, [.ref hH])), (qp, .inr (3, [.long 0, .long 0, .long 0, .long 0, .long 0]))] H := hP
  have hD : va_D A [(hH, .inr (1, [.int 32, .int 8, .ref qb, .int 0, .ref qa, .ref qi, .ref qp, .int 12])), (qb, .inl (dB, 8, .inl (fun _ => 0))), (qi, .inr (2, [.ref hH])), (qp, .inr (3, [.long 0, .long 0, .long 0, .long 0, .long 0]))] := hD
  refine lv_aload_n hx hb dX3_init_10 rfl (lv_at hl 0 rfl) ?_
  refine cl_v [(hH, .inr (1, [.int 32, .int 8, .ref qb, .int 0, .ref qa, .ref qi, .ref qp, .int 12])), (qb, .inl (dB, 8, .inl (fun _ => 0))), (qp, .inr (3, [.long 0, .long 0, .long 0, .long 0, .long 0]))] [(qi, .inr (2, [.ref hH]))] [0, 1, 3] [2] rfl rfl (by decide) (by decide) hP hD hS hA (va_runV (As := []) (rest := []) ⟨hx, hb, hml, hown, hts⟩ (m_hreset l D dB dN dL hH qb qp (.ref qa) (.ref qi) 0 (fun _ => 0) (0, 0, 0, 0, 0) _) (cwV 0 hts (lw_V q179 q180 q181 q10 q182) rfl rfl rfl (by decide +kernel) ⟨Nat.le_of_ble_eq_true rfl, Nat.le_of_ble_eq_true rfl⟩) (pvV (ci := 1) (q0 := 0) (C := RX3) [0, 1, 3] rfl (by decide) hP hK hD hS hA hX rfl rfl) rfl rfl hl.1 rfl (lv_room (Nat.le_of_ble_eq_true rfl)) dX3_init_11 ⟨Nat.le_of_ble_eq_true rfl, Nat.le_of_ble_eq_true rfl⟩) (fun u_4 H locs hw_5 hP hD hS => ?_)
  have hP : va_P D CL [(qi, .inr (2, [.ref hH])), (hH, .inr (1, [.int 32, .int 8, .ref qb, .int 0, .ref qa, .ref qi, .ref qp, .int 12])), (qb, .inl (dB, 8, .inl u_4)), (qp, .inr (3, [.long iv.1, .long iv.2.1, .long iv.2.2.1, .long iv.2.2.2.1, .long iv.2.2.2.2]))] H := hP
  have hD : va_D A [(qi, .inr (2, [.ref hH])), (hH, .inr (1, [.int 32, .int 8, .ref qb, .int 0, .ref qa, .ref qi, .ref qp, .int 12])), (qb, .inl (dB, 8, .inl u_4)), (qp, .inr (3, [.long iv.1, .long iv.2.1, .long iv.2.2.1, .long iv.2.2.2.1, .long iv.2.2.2.2]))] := hD
  exact rt_v hx hb hr hlocks hP hK hD hS dX3_init_14 (qb, qi, qp, qa, u_4) [1, 2, 0, 3] rfl (by decide) trivial
end
section
/-! the digest takes blocks in -/
set_option maxHeartbeats 4000000 in
set_option maxRecDepth 100000 in
/-- AsconHash256.loadBytes(b, off) -/
theorem m_load (l : Launch) (D : va_G) (dB dN dL : ClassId) (hH h0 n k : Nat) (f : Nat → Int32) (sz : Nat) (hk : k + 8 ≤ n) (hn : n < 2 ^ 31) : Cl_ l yX3_loadBytes (ws_ yX3_loadBytes cX3_loadBytes 3 (some .long)) (rm_ 2 0 0 45) D dB dN dL [.ref hH, .ref h0, .int (nI k)] [(h0, .inl (dB, n, .inl f))] sz (S := Unit) (fun r _ => r = ld f k 8) (fun _ => [(h0, .inl (dB, n, .inl f))]) := by
  refine ct_of (cc := cX3_loadBytes) (maxL := 3) (ret := (some .long)) (by decide) rfl (Nat.le_of_ble_eq_true rfl) (fun p e s m below meth c A ls hx hb hml hr hlocks hts hown hin hP hK hD hA hX hS hl => ?_)
  have hown : s.vm.findClass RX3 = some m.cls := hown
  have hl : lv_has ls 3 [(0, .ref hH), (1, .ref h0), (2, .int (nI k))] := hl
  refine lv_aload_n hx hb dX3_loadBytes_0 rfl (lv_at hl 1 rfl) ?_
  refine lv_iload_n hx hb dX3_loadBytes_1 rfl (lv_at hl 2 rfl) ?_
  refine cl_l [(h0, .inl (dB, n, .inl f))] [] [0] [] rfl rfl (by decide) (by decide) hP hD hS hA (va_runS (As := [.ref h0, .int (nI k)]) (rest := []) ⟨hx, hb, hml, hown, hts⟩ (m_leL l D dB dN dL h0 n k f _ hk hn) (va_cwS 2 hts (lw_S q372 q373 q28 q374) rfl rfl rfl (by decide +kernel) ⟨Nat.le_of_ble_eq_true rfl, Nat.le_of_ble_eq_true rfl⟩) (pv_ (As := [.ref h0, .int (nI k)]) [0] rfl (by decide) hP hK hD hS hA hX) rfl rfl hl.1 rfl (lv_room (Nat.le_of_ble_eq_true rfl)) dX3_loadBytes_2 ⟨Nat.le_of_ble_eq_true rfl, Nat.le_of_ble_eq_true rfl⟩) (fun r_3 u_1 H locs hw_2 hP hD hS => ?_)
  have hP : va_P D CL [(h0, .inl (dB, n, .inl f))] H := hP
  have hD : va_D A [(h0, .inl (dB, n, .inl f))] := hD
  exact rt_l hx hb hr hlocks hP hK hD hS dX3_loadBytes_5 () [0] rfl (by decide) hw_2

set_option maxHeartbeats 4000000 in
set_option maxRecDepth 100000 in
/-- AsconHash256.loadBytes(b, off, n) -/
theorem m_load3 (l : Launch) (D : va_G) (dB dN dL : ClassId) (hH h0 n k q : Nat) (f : Nat → Int32) (sz : Nat) (hk : k + q ≤ n) (hq : q ≤ 8) (hn : n < 2 ^ 31) : Cl_ l yX3_loadBytes_2 (ws_ yX3_loadBytes_2 cX3_loadBytes_2 4 (some .long)) (rm_ 1 0 0 26) D dB dN dL [.ref hH, .ref h0, .int (nI k), .int (nI q)] [(h0, .inl (dB, n, .inl f))] sz (S := Unit) (fun r _ => r = ld f k q) (fun _ => [(h0, .inl (dB, n, .inl f))]) := by
  refine ct_of (cc := cX3_loadBytes_2) (maxL := 4) (ret := (some .long)) (by decide) rfl (Nat.le_of_ble_eq_true rfl) (fun p e s m below meth c A ls hx hb hml hr hlocks hts hown hin hP hK hD hA hX hS hl => ?_)
  have hown : s.vm.findClass RX3 = some m.cls := hown
  have hl : lv_has ls 4 [(0, .ref hH), (1, .ref h0), (2, .int (nI k)), (3, .int (nI q))] := hl
  refine lv_iload_n hx hb dX3_loadBytes_2_0 rfl (lv_at hl 3 rfl) ?_
  refine lv_if_gt (tgt := 8) hx hb dX3_loadBytes_2_1 (by decide) (fun c_1 => ?_) (fun c_1 => ?_)
  · skip
    refine lv_aload_n hx hb dX3_loadBytes_2_8 rfl (lv_at hl 1 rfl) ?_
    refine lv_iload_n hx hb dX3_loadBytes_2_9 rfl (lv_at hl 2 rfl) ?_
    refine lv_iload_n hx hb dX3_loadBytes_2_10 rfl (lv_at hl 3 rfl) ?_
    refine cl_l [(h0, .inl (dB, n, .inl f))] [] [0] [] rfl rfl (by decide) (by decide) hP hD hS hA (va_runS (As := [.ref h0, .int (nI k), .int (nI q)]) (rest := []) ⟨hx, hb, hml, hown, hts⟩ (m_leLow l D dB dN dL h0 n k q f _ hk hq (pos_1 c_1) hn) (va_cwS 3 hts (lw_S q501 q502 q28 q503) rfl rfl rfl (by decide +kernel) ⟨Nat.le_of_ble_eq_true rfl, Nat.le_of_ble_eq_true rfl⟩) (pv_ (As := [.ref h0, .int (nI k), .int (nI q)]) [0] rfl (by decide) hP hK hD hS hA hX) rfl rfl hl.1 rfl (lv_room (Nat.le_of_ble_eq_true rfl)) dX3_loadBytes_2_11 ⟨Nat.le_of_ble_eq_true rfl, Nat.le_of_ble_eq_true rfl⟩) (fun r_4 u_2 H locs hw_3 hP hD hS => ?_)
    have hP : va_P D CL [(h0, .inl (dB, n, .inl f))] H := hP
    have hD : va_D A [(h0, .inl (dB, n, .inl f))] := hD
    exact rt_l hx hb hr hlocks hP hK hD hS dX3_loadBytes_2_14 () [0] rfl (by decide) hw_3
  · skip
    refine lv_lconst (v := 0) hx hb dX3_loadBytes_2_4 (by decide) ?_
    refine lv_goto (tgt := 14) hx hb dX3_loadBytes_2_5 (by decide) ?_
    have e : q = 0 := pos_0 (by omega) c_1
    exact rt_l hx hb hr hlocks hP hK hD hS dX3_loadBytes_2_14 () [0] rfl (by decide) (by rw [e]; rfl)

set_option maxHeartbeats 4000000 in
set_option maxRecDepth 100000 in
/-- AsconHash256.pad(i) -/
theorem m_pad (l : Launch) (D : va_G) (dB dN dL : ClassId) (hH q : Nat) (sz : Nat) (hq : q < 8) : Cl_ l yX3_pad (ws_ yX3_pad cX3_pad 2 (some .long)) (rm_ 0 0 0 0) D dB dN dL [.ref hH, .int (nI q)] [] sz (S := Unit) (fun r _ => r = (1 : Int64) <<< ((nI (8 * q)).toInt64 &&& 63)) (fun _ => []) := by
  refine ct_of (cc := cX3_pad) (maxL := 2) (ret := (some .long)) (by decide) rfl (Nat.le_of_ble_eq_true rfl) (fun p e s m below meth c A ls hx hb hml hr hlocks hts hown hin hP hK hD hA hX hS hl => ?_)
  have hown : s.vm.findClass RX3 = some m.cls := hown
  have hl : lv_has ls 2 [(0, .ref hH), (1, .int (nI q))] := hl
  refine lv_lconst (v := 1) hx hb dX3_pad_0 (by decide) ?_
  refine lv_iload_n hx hb dX3_pad_1 rfl (lv_at hl 1 rfl) ?_
  refine lv_iconst (v := 3) hx hb dX3_pad_2 (by decide) ?_
  refine lv_ishl hx hb dX3_pad_3 ?_
  refine nmTi (b := (nI (8 * q))) ((by decide +kernel : ∀ q, q < 8 → nI q <<< ((3 : Int32) &&& 31) = nI (8 * q)) q hq) ?_
  refine lv_lshl hx hb dX3_pad_4 rfl ?_
  exact rt_l hx hb hr hlocks hP hK hD hS dX3_pad_5 () [] rfl (by decide) rfl

set_option maxHeartbeats 4000000 in
set_option maxRecDepth 100000 in
/-- AsconHash256.setBytes(w, b, off) -/
theorem m_setB (l : Launch) (D : va_G) (dB dN dL : ClassId) (hH h0 n k : Nat) (f : Nat → Int32) (x : Int64) (sz : Nat) (hk : k + 8 ≤ n) (hn : n < 2 ^ 31) : Cv_ l yX3_setBytes (ws_ yX3_setBytes cX3_setBytes 5 none) (rm_ 2 0 0 45) D dB dN dL [.ref hH, .long x, .ref h0, .int (nI k)] [(h0, .inl (dB, n, .inl f))] sz (S := Unit) (fun _ => True) (fun _ => [(h0, .inl (dB, n, .inl (pw f k x 8)))]) := by
  refine ct_of (cc := cX3_setBytes) (maxL := 5) (ret := none) (by decide) rfl (Nat.le_of_ble_eq_true rfl) (fun p e s m below meth c A ls hx hb hml hr hlocks hts hown hin hP hK hD hA hX hS hl => ?_)
  have hown : s.vm.findClass RX3 = some m.cls := hown
  have hl : lv_has ls 5 [(0, .ref hH), (1, .long x), (3, .ref h0), (4, .int (nI k))] := hl
  refine lv_lload_n hx hb dX3_setBytes_0 rfl (lv_at hl 1 rfl) ?_
  refine lv_aload_n hx hb dX3_setBytes_1 rfl (lv_at hl 2 rfl) ?_
  refine lv_iload hx hb dX3_setBytes_2 (lv_at hl 3 rfl) ?_
  refine cl_v [(h0, .inl (dB, n, .inl f))] [] [0] [] rfl rfl (by decide) (by decide) hP hD hS hA (va_runS (As := [.long x, .ref h0, .int (nI k)]) (rest := []) ⟨hx, hb, hml, hown, hts⟩ (m_ltL l D dB dN dL h0 n k f x _ hk hn) (va_cwS 3 hts (lw_S q522 q523 q28 q524) rfl rfl rfl (by decide +kernel) ⟨Nat.le_of_ble_eq_true rfl, Nat.le_of_ble_eq_true rfl⟩) (pv_ (As := [.long x, .ref h0, .int (nI k)]) [0] rfl (by decide) hP hK hD hS hA hX) rfl rfl hl.1 rfl (lv_room (Nat.le_of_ble_eq_true rfl)) dX3_setBytes_4 ⟨Nat.le_of_ble_eq_true rfl, Nat.le_of_ble_eq_true rfl⟩) (fun u_1 H locs hw_2 hP hD hS => ?_)
  have hP : va_P D CL [(h0, .inl (dB, n, .inl (pw f k x 8)))] H := hP
  have hD : va_D A [(h0, .inl (dB, n, .inl (pw f k x 8)))] := hD
  exact rt_v hx hb hr hlocks hP hK hD hS dX3_setBytes_7 () [0] rfl (by decide) trivial

set_option maxHeartbeats 4000000 in
set_option maxRecDepth 100000 in
/-- AsconHash256.setBytes(w, b, off, n) -/
theorem m_setB3 (l : Launch) (D : va_G) (dB dN dL : ClassId) (hH h0 n k q : Nat) (f : Nat → Int32) (x : Int64) (sz : Nat) (hk : k + q ≤ n) (hq : q ≤ 8) (h1 : 1 ≤ q) (hn : n < 2 ^ 31) : Cv_ l yX3_setBytes_2 (ws_ yX3_setBytes_2 cX3_setBytes_2 6 none) (rm_ 1 0 0 25) D dB dN dL [.ref hH, .long x, .ref h0, .int (nI k), .int (nI q)] [(h0, .inl (dB, n, .inl f))] sz (S := Unit) (fun _ => True) (fun _ => [(h0, .inl (dB, n, .inl (pw f k x q)))]) := by
  refine ct_of (cc := cX3_setBytes_2) (maxL := 6) (ret := none) (by decide) rfl (Nat.le_of_ble_eq_true rfl) (fun p e s m below meth c A ls hx hb hml hr hlocks hts hown hin hP hK hD hA hX hS hl => ?_)
  have hown : s.vm.findClass RX3 = some m.cls := hown
  have hl : lv_has ls 6 [(0, .ref hH), (1, .long x), (3, .ref h0), (4, .int (nI k)), (5, .int (nI q))] := hl
  refine lv_iload hx hb dX3_setBytes_2_0 (lv_at hl 4 rfl) ?_
  refine lv_if_le (tgt := 14) hx hb dX3_setBytes_2_2 (by decide) (fun c_1 => absurd c_1 (nI_nle (by omega) (by omega))) (fun _ => ?_)
  refine lv_lload_n hx hb dX3_setBytes_2_5 rfl (lv_at hl 1 rfl) ?_
  refine lv_aload_n hx hb dX3_setBytes_2_6 rfl (lv_at hl 2 rfl) ?_
  refine lv_iload hx hb dX3_setBytes_2_7 (lv_at hl 3 rfl) ?_
  refine lv_iload hx hb dX3_setBytes_2_9 (lv_at hl 4 rfl) ?_
  refine cl_v [(h0, .inl (dB, n, .inl f))] [] [0] [] rfl rfl (by decide) (by decide) hP hD hS hA (va_runS (As := [.long x, .ref h0, .int (nI k), .int (nI q)]) (rest := []) ⟨hx, hb, hml, hown, hts⟩ (m_ltLow l D dB dN dL h0 n k q f x _ hk hq h1 hn) (va_cwS 4 hts (lw_S q534 q535 q28 q536) rfl rfl rfl (by decide +kernel) ⟨Nat.le_of_ble_eq_true rfl, Nat.le_of_ble_eq_true rfl⟩) (pv_ (As := [.long x, .ref h0, .int (nI k), .int (nI q)]) [0] rfl (by decide) hP hK hD hS hA hX) rfl rfl hl.1 rfl (lv_room (Nat.le_of_ble_eq_true rfl)) dX3_setBytes_2_11 ⟨Nat.le_of_ble_eq_true rfl, Nat.le_of_ble_eq_true rfl⟩) (fun u_2 H locs hw_3 hP hD hS => ?_)
  have hP : va_P D CL [(h0, .inl (dB, n, .inl (pw f k x q)))] H := hP
  have hD : va_D A [(h0, .inl (dB, n, .inl (pw f k x q)))] := hD
  exact rt_v hx hb hr hlocks hP hK hD hS dX3_setBytes_2_14 () [0] rfl (by decide) trivial

set_option maxHeartbeats 4000000 in
set_option maxRecDepth 100000 in
/-- AsconBaseDigest.processBytes(b, off) -/
theorem m_proc (l : Launch) (D : va_G) (dB dN dL : ClassId) (hH qp h0 n k : Nat) (f : Nat → Int32) (vb al vi : Value) (pos : Int32) (x : P5) (sz : Nat) (hk : k + 8 ≤ n) (hn : n < 2 ^ 31) : Cv_ l yX2_processBytes (ws_ yX2_processBytes cX2_processBytes 3 none) (rm_ 4 0 0 103) D dB dN dL [.ref hH, .ref h0, .int (nI k)] [(hH, .inr (1, [.int 32, .int 8, vb, .int pos, al, vi, .ref qp, .int 12])), (qp, .inr (3, [.long x.1, .long x.2.1, .long x.2.2.1, .long x.2.2.2.1, .long x.2.2.2.2])), (h0, .inl (dB, n, .inl f))] sz (S := P5) (fun u => u = ab x (ld f k 8)) (fun u => [(hH, .inr (1, [.int 32, .int 8, vb, .int pos, al, vi, .ref qp, .int 12])), (qp, .inr (3, [.long u.1, .long u.2.1, .long u.2.2.1, .long u.2.2.2.1, .long u.2.2.2.2])), (h0, .inl (dB, n, .inl f))]) := by
  refine ct_of (cc := cX2_processBytes) (maxL := 3) (ret := none) (by decide) rfl (Nat.le_of_ble_eq_true rfl) (fun p e s m below meth c A ls hx hb hml hr hlocks hts hown hin hP hK hD hA hX hS hl => ?_)
  have hown : s.vm.findClass RX2 = some m.cls := hown
  have hl : lv_has ls 3 [(0, .ref hH), (1, .ref h0), (2, .int (nI k))] := hl
  refine lv_aload_n hx hb dX2_processBytes_0 rfl (lv_at hl 0 rfl) ?_
  refine va_get (D := D) (ci := 1) (v := .ref qp) (C := RX3) (T := TX3) (N := 8) hx hb hts in_X3 hown hK hP 0 rfl rfl 6 (by decide) (hts _ q205) (fun _ h9 => h9) rfl dX2_processBytes_1 ?_
  refine lv_dup hx hb dX2_processBytes_4 rfl ?_
  refine va_get (D := D) (ci := 3) (v := .long x.1) (C := RX8) (T := TX8) (N := 5) hx hb hts in_X8 hown hK hP 1 rfl rfl 0 (by decide) (hts _ q162) (fun _ h9 => h9) rfl dX2_processBytes_5 ?_
  refine lv_aload_n hx hb dX2_processBytes_8 rfl (lv_at hl 0 rfl) ?_
  refine lv_aload_n hx hb dX2_processBytes_9 rfl (lv_at hl 1 rfl) ?_
  refine lv_iload_n hx hb dX2_processBytes_10 rfl (lv_at hl 2 rfl) ?_
  refine cl_l [(h0, .inl (dB, n, .inl f))] [(hH, .inr (1, [.int 32, .int 8, vb, .int pos, al, vi, .ref qp, .int 12])), (qp, .inr (3, [.long x.1, .long x.2.1, .long x.2.2.1, .long x.2.2.2.1, .long x.2.2.2.2]))] [2] [0, 1] rfl rfl (by decide) (by decide) hP hD hS hA (va_runU (As := [.ref h0, .int (nI k)]) (rest := [.long x.1, .ref qp]) ⟨hx, hb, hml, hown, hts⟩ (m_load l D dB dN dL hH h0 n k f _ hk hn) (va_cwA (owner := "AsconBaseDigest") 2 hts (lw_U q366 q368 q369 q370 q10 q371) rfl rfl rfl hX.1.2.1.2.2.2.1 (by decide +kernel) ⟨Nat.le_of_ble_eq_true rfl, Nat.le_of_ble_eq_true rfl⟩) (pvV (ci := 1) (q0 := 0) (C := RX3) [2] rfl (by decide) hP hK hD hS hA hX rfl rfl) rfl rfl hl.1 rfl (lv_room (Nat.le_of_ble_eq_true rfl)) dX2_processBytes_11 ⟨Nat.le_of_ble_eq_true rfl, Nat.le_of_ble_eq_true rfl⟩) (fun r_3 u_1 H locs hw_2 hP hD hS => ?_)
  have hP : va_P D CL [(hH, .inr (1, [.int 32, .int 8, vb, .int pos, al, vi, .ref qp, .int 12])), (qp, .inr (3, [.long x.1, .long x.2.1, .long x.2.2.1, .long x.2.2.2.1, .long x.2.2.2.2])), (h0, .inl (dB, n, .inl f))] H := hP
  have hD : va_D A [(hH, .inr (1, [.int 32, .int 8, vb, .int pos, al, vi, .ref qp, .int 12])), (qp, .inr (3, [.long x.1, .long x.2.1, .long x.2.2.1, .long x.2.2.2.1, .long x.2.2.2.2])), (h0, .inl (dB, n, .inl f))] := hD
  refine nmTl (b := (ld f k 8)) hw_2 ?_
  refine lv_lxor hx hb dX2_processBytes_14 ?_
  refine va_put (D := D) (ci := 3) (v := .long (x.1 ^^^ (ld f k 8))) (ty := .long) (C := RX8) (T := TX8) (N := 5) hx hb hts in_X8 tyX8 tyX8_ok nmX8 hown hK hP hD hS 1 rfl rfl 0 (by decide) (hts _ q162) (fun _ h9 => h9) rfl (by decide +kernel) rfl rfl (Nat.le_of_ble_eq_true rfl) dX2_processBytes_15 (fun H locs hP hD hS => ?_)
  have hP : va_P D CL [(hH, .inr (1, [.int 32, .int 8, vb, .int pos, al, vi, .ref qp, .int 12])), (qp, .inr (3, [.long (x.1 ^^^ (ld f k 8)), .long x.2.1, .long x.2.2.1, .long x.2.2.2.1, .long x.2.2.2.2])), (h0, .inl (dB, n, .inl f))] H := hP
  have hD : va_D A [(hH, .inr (1, [.int 32, .int 8, vb, .int pos, al, vi, .ref qp, .int 12])), (qp, .inr (3, [.long (x.1 ^^^ (ld f k 8)), .long x.2.1, .long x.2.2.1, .long x.2.2.2.1, .long x.2.2.2.2])), (h0, .inl (dB, n, .inl f))] := hD
  refine lv_aload_n hx hb dX2_processBytes_18 rfl (lv_at hl 0 rfl) ?_
  refine va_get (D := D) (ci := 1) (v := .ref qp) (C := RX3) (T := TX3) (N := 8) hx hb hts in_X3 hown hK hP 0 rfl rfl 6 (by decide) (hts _ q205) (fun _ h9 => h9) rfl dX2_processBytes_19 ?_
  refine lv_aload_n hx hb dX2_processBytes_22 rfl (lv_at hl 0 rfl) ?_
  refine va_get (D := D) (ci := 1) (v := .int 12) (C := RX3) (T := TX3) (N := 8) hx hb hts in_X3 hown hK hP 0 rfl rfl 7 (by decide) (hts _ q208) (fun _ h9 => h9) rfl dX2_processBytes_23 ?_
  refine cl_v [(qp, .inr (3, [.long (x.1 ^^^ (ld f k 8)), .long x.2.1, .long x.2.2.1, .long x.2.2.2.1, .long x.2.2.2.2]))] [(hH, .inr (1, [.int 32, .int 8, vb, .int pos, al, vi, .ref qp, .int 12])), (h0, .inl (dB, n, .inl f))] [1] [0, 2] rfl rfl (by decide) (by decide) hP hD hS hA (va_runV (As := [.int 12]) (rest := []) ⟨hx, hb, hml, hown, hts⟩ (m_p l D dB dN dL qp (x.1 ^^^ ld f k 8, x.2) _) (cwV 1 hts (lw_V q379 q380 q381 q21 q382) rfl rfl rfl (by decide +kernel) ⟨Nat.le_of_ble_eq_true rfl, Nat.le_of_ble_eq_true rfl⟩) (pvV (ci := 3) (q0 := 1) (C := RX8) [1] rfl (by decide) hP hK hD hS hA hX rfl rfl) rfl rfl hl.1 rfl (lv_room (Nat.le_of_ble_eq_true rfl)) dX2_processBytes_26 ⟨Nat.le_of_ble_eq_true rfl, Nat.le_of_ble_eq_true rfl⟩) (fun u_4 H locs hw_5 hP hD hS => ?_)
  have hP : va_P D CL [(hH, .inr (1, [.int 32, .int 8, vb, .int pos, al, vi, .ref qp, .int 12])), (h0, .inl (dB, n, .inl f)), (qp, .inr (3, [.long u_4.1, .long u_4.2.1, .long u_4.2.2.1, .long u_4.2.2.2.1, .long u_4.2.2.2.2]))] H := hP
  have hD : va_D A [(hH, .inr (1, [.int 32, .int 8, vb, .int pos, al, vi, .ref qp, .int 12])), (h0, .inl (dB, n, .inl f)), (qp, .inr (3, [.long u_4.1, .long u_4.2.1, .long u_4.2.2.1, .long u_4.2.2.2.1, .long u_4.2.2.2.2]))] := hD
  exact rt_v hx hb hr hlocks hP hK hD hS dX2_processBytes_29 u_4 [0, 2, 1] rfl (by decide) hw_5

set_option maxHeartbeats 4000000 in
set_option maxRecDepth 100000 in
/-- ensureSufficientInputBuffer: enough -/
theorem m_ensI (l : Launch) (D : va_G) (dB dN dL : ClassId) (hH h0 n k q : Nat) (f : Nat → Int32) (sz : Nat) (hk : k + q ≤ n) (hn : n < 2 ^ 31) : Cv_ l yX1_ensureSufficientInputBuffer (ws_ yX1_ensureSufficientInputBuffer cX1_ensureSufficientInputBuffer 4 none) (rm_ 0 0 0 0) D dB dN dL [.ref hH, .ref h0, .int (nI k), .int (nI q)] [(h0, .inl (dB, n, .inl f))] sz (S := Unit) (fun _ => True) (fun _ => [(h0, .inl (dB, n, .inl f))]) := by
  refine ct_of (cc := cX1_ensureSufficientInputBuffer) (maxL := 4) (ret := none) (by decide) rfl (Nat.le_of_ble_eq_true rfl) (fun p e s m below meth c A ls hx hb hml hr hlocks hts hown hin hP hK hD hA hX hS hl => ?_)
  have hown : s.vm.findClass RX1 = some m.cls := hown
  have hl : lv_has ls 4 [(0, .ref hH), (1, .ref h0), (2, .int (nI k)), (3, .int (nI q))] := hl
  refine lv_iload_n hx hb dX1_ensureSufficientInputBuffer_0 rfl (lv_at hl 2 rfl) ?_
  refine lv_iload_n hx hb dX1_ensureSufficientInputBuffer_1 rfl (lv_at hl 3 rfl) ?_
  refine lv_iadd hx hb dX1_ensureSufficientInputBuffer_2 ?_
  refine lv_aload_n hx hb dX1_ensureSufficientInputBuffer_3 rfl (lv_at hl 1 rfl) ?_
  refine va_alen (v := Int32.ofNat n) hx hb hK hP 0 0 rfl rfl rfl dX1_ensureSufficientInputBuffer_4 ?_
  refine lv_icmp_le (tgt := 18) hx hb dX1_ensureSufficientInputBuffer_5 (by decide) (fun _ => ?_) (fun c_1 => absurd (show nI k + nI q ≤ nI n from by rw [nI_add]; exact nI_le hk hn) c_1)
  exact rt_v hx hb hr hlocks hP hK hD hS dX1_ensureSufficientInputBuffer_18 () [0] rfl (by decide) trivial

set_option maxHeartbeats 4000000 in
set_option maxRecDepth 100000 in
/-- ensureSufficientOutputBuffer: enough -/
theorem m_ensO (l : Launch) (D : va_G) (dB dN dL : ClassId) (hH h0 n k : Nat) (f : Nat → Int32) (vb al vi vp : Value) (pos : Int32) (sz : Nat) (hk : 32 + k ≤ n) (hn : n < 2 ^ 31) : Cv_ l yX1_ensureSufficientOutputBuffer (ws_ yX1_ensureSufficientOutputBuffer cX1_ensureSufficientOutputBuffer 3 none) (rm_ 0 0 0 0) D dB dN dL [.ref hH, .ref h0, .int (nI k)] [(hH, .inr (1, [.int 32, .int 8, vb, .int pos, al, vi, vp, .int 12])), (h0, .inl (dB, n, .inl f))] sz (S := Unit) (fun _ => True) (fun _ => [(hH, .inr (1, [.int 32, .int 8, vb, .int pos, al, vi, vp, .int 12])), (h0, .inl (dB, n, .inl f))]) := by
  refine ct_of (cc := cX1_ensureSufficientOutputBuffer) (maxL := 3) (ret := none) (by decide) rfl (Nat.le_of_ble_eq_true rfl) (fun p e s m below meth c A ls hx hb hml hr hlocks hts hown hin hP hK hD hA hX hS hl => ?_)
  have hown : s.vm.findClass RX1 = some m.cls := hown
  have hl : lv_has ls 3 [(0, .ref hH), (1, .ref h0), (2, .int (nI k))] := hl
  refine lv_aload_n hx hb dX1_ensureSufficientOutputBuffer_0 rfl (lv_at hl 0 rfl) ?_
  refine va_get (D := D) (ci := 1) (v := .int 32) (C := RX3) (T := TX3) (N := 8) hx hb hts in_X3 hown hK hP 0 rfl rfl 0 (by decide) (hts _ q211) (fun _ h9 => h9) rfl dX1_ensureSufficientOutputBuffer_1 ?_
  refine lv_iload_n hx hb dX1_ensureSufficientOutputBuffer_4 rfl (lv_at hl 2 rfl) ?_
  refine lv_iadd hx hb dX1_ensureSufficientOutputBuffer_5 ?_
  refine lv_aload_n hx hb dX1_ensureSufficientOutputBuffer_6 rfl (lv_at hl 1 rfl) ?_
  refine va_alen (v := Int32.ofNat n) hx hb hK hP 1 0 rfl rfl rfl dX1_ensureSufficientOutputBuffer_7 ?_
  refine lv_icmp_le (tgt := 21) hx hb dX1_ensureSufficientOutputBuffer_8 (by decide) (fun _ => ?_) (fun c_1 => absurd (show nI 32 + nI k ≤ nI n from by rw [nI_add]; exact nI_le hk hn) c_1)
  exact rt_v hx hb hr hlocks hP hK hD hS dX1_ensureSufficientOutputBuffer_21 () [0, 1] rfl (by decide) trivial

set_option maxHeartbeats 4000000 in
set_option maxRecDepth 100000 in
/-- ImmediateProcessor.isLengthWithinAvailableSpace -/
theorem m_within (l : Launch) (D : va_G) (dB dN dL : ClassId) (qi : Nat) (a b : Int32) (sz : Nat)  : Ci_ l yX5_isLengthWithinAvailableSpace (ws_ yX5_isLengthWithinAvailableSpace cX5_isLengthWithinAvailableSpace 3 (some .boolean)) (rm_ 0 0 0 0) D dB dN dL [.ref qi, .int a, .int b] [] sz (S := Unit) (fun r _ => r = if a < b then 1 else 0) (fun _ => []) := by
  refine ct_of (cc := cX5_isLengthWithinAvailableSpace) (maxL := 3) (ret := (some .boolean)) (by decide) rfl (Nat.le_of_ble_eq_true rfl) (fun p e s m below meth c A ls hx hb hml hr hlocks hts hown hin hP hK hD hA hX hS hl => ?_)
  have hown : s.vm.findClass RX5 = some m.cls := hown
  have hl : lv_has ls 3 [(0, .ref qi), (1, .int a), (2, .int b)] := hl
  refine lv_iload_n hx hb dX5_isLengthWithinAvailableSpace_0 rfl (lv_at hl 1 rfl) ?_
  refine lv_iload_n hx hb dX5_isLengthWithinAvailableSpace_1 rfl (lv_at hl 2 rfl) ?_
  refine lv_icmp_ge (tgt := 9) hx hb dX5_isLengthWithinAvailableSpace_2 (by decide) (fun c_1 => ?_) (fun c_1 => ?_)
  · skip
    refine lv_iconst (v := 0) hx hb dX5_isLengthWithinAvailableSpace_9 (by decide) ?_
    exact rt_z hx hb hr hlocks hP hK hD hS dX5_isLengthWithinAvailableSpace_10 (by rfl) () [] rfl (by decide) (by rw [if_neg (Int32.not_lt.mpr c_1)])
  · skip
    refine lv_iconst (v := 1) hx hb dX5_isLengthWithinAvailableSpace_5 (by decide) ?_
    refine lv_goto (tgt := 10) hx hb dX5_isLengthWithinAvailableSpace_6 (by decide) ?_
    exact rt_z hx hb hr hlocks hP hK hD hS dX5_isLengthWithinAvailableSpace_10 (by rfl) () [] rfl (by decide) (by rw [if_pos (Int32.not_le.mp c_1)])

set_option maxHeartbeats 4000000 in
set_option maxRecDepth 100000 in
/-- ImmediateProcessor.isLengthExceedingBlockSize -/
theorem m_exceed (l : Launch) (D : va_G) (dB dN dL : ClassId) (qi : Nat) (a b : Int32) (sz : Nat)  : Ci_ l yX5_isLengthExceedingBlockSize (ws_ yX5_isLengthExceedingBlockSize cX5_isLengthExceedingBlockSize 3 (some .boolean)) (rm_ 0 0 0 0) D dB dN dL [.ref qi, .int a, .int b] [] sz (S := Unit) (fun r _ => r = if b ≤ a then 1 else 0) (fun _ => []) := by
  refine ct_of (cc := cX5_isLengthExceedingBlockSize) (maxL := 3) (ret := (some .boolean)) (by decide) rfl (Nat.le_of_ble_eq_true rfl) (fun p e s m below meth c A ls hx hb hml hr hlocks hts hown hin hP hK hD hA hX hS hl => ?_)
  have hown : s.vm.findClass RX5 = some m.cls := hown
  have hl : lv_has ls 3 [(0, .ref qi), (1, .int a), (2, .int b)] := hl
  refine lv_iload_n hx hb dX5_isLengthExceedingBlockSize_0 rfl (lv_at hl 1 rfl) ?_
  refine lv_iload_n hx hb dX5_isLengthExceedingBlockSize_1 rfl (lv_at hl 2 rfl) ?_
  refine lv_icmp_lt (tgt := 9) hx hb dX5_isLengthExceedingBlockSize_2 (by decide) (fun c_1 => ?_) (fun c_1 => ?_)
  · skip
    refine lv_iconst (v := 0) hx hb dX5_isLengthExceedingBlockSize_9 (by decide) ?_
    exact rt_z hx hb hr hlocks hP hK hD hS dX5_isLengthExceedingBlockSize_10 (by rfl) () [] rfl (by decide) (by rw [if_neg (Int32.not_le.mpr c_1)])
  · skip
    refine lv_iconst (v := 1) hx hb dX5_isLengthExceedingBlockSize_5 (by decide) ?_
    refine lv_goto (tgt := 10) hx hb dX5_isLengthExceedingBlockSize_6 (by decide) ?_
    exact rt_z hx hb hr hlocks hP hK hD hS dX5_isLengthExceedingBlockSize_10 (by rfl) () [] rfl (by decide) (by rw [if_pos (Int32.not_lt.mp c_1)])
end
section
/-! the digest: update, doFinal -/
set_option maxHeartbeats 4000000 in
set_option maxRecDepth 100000 in
/-- ImmediateProcessor.update(b) -/
theorem m_immU (l : Launch) (D : va_G) (dB dN dL : ClassId) (hH qb qa qi qp : Nat) (n : Nat) (M : Nat → Int32) (v : Int32) (x : P5) (buf : Nat → Int32) (sz : Nat) (hR : Rp M n x buf) (hv : vp_nar .byte v = M n) : Cv_ l yX5_update (ws_ yX5_update cX5_update 2 none) (rm_ 5 0 0 125) D dB dN dL [.ref qi, .int v] [(hH, .inr (1, [.int 32, .int 8, .ref qb, .int (nI (n % 8)), .ref qa, .ref qi, .ref qp, .int 12])), (qb, .inl (dB, 8, .inl buf)), (qi, .inr (2, [.ref hH])), (qp, .inr (3, [.long x.1, .long x.2.1, .long x.2.2.1, .long x.2.2.2.1, .long x.2.2.2.2]))] sz (S := P5 × (Nat → Int32) × Int32) (fun u => u.2.2 = nI ((n + 1) % 8) ∧ Rp M (n + 1) u.1 u.2.1) (fun u => [(hH, .inr (1, [.int 32, .int 8, .ref qb, .int u.2.2, .ref qa, .ref qi, .ref qp, .int 12])), (qb, .inl (dB, 8, .inl u.2.1)), (qi, .inr (2, [.ref hH])), (qp, .inr (3, [.long u.1.1, .long u.1.2.1, .long u.1.2.2.1, .long u.1.2.2.2.1, .long u.1.2.2.2.2]))]) := by
  refine ct_of (cc := cX5_update) (maxL := 2) (ret := none) (by decide) rfl (Nat.le_of_ble_eq_true rfl) (fun p e s m below meth c A ls hx hb hml hr hlocks hts hown hin hP hK hD hA hX hS hl => ?_)
  have hown : s.vm.findClass RX5 = some m.cls := hown
  have hl : lv_has ls 2 [(0, .ref qi), (1, .int v)] := hl
  refine lv_aload_n hx hb dX5_update_0 rfl (lv_at hl 0 rfl) ?_
  refine va_get (D := D) (ci := 2) (v := .ref hH) (C := RX5) (T := TX5) (N := 1) hx hb hts in_X5 hown hK hP 2 rfl rfl 0 (by decide) (hts _ q71) (fun _ h9 => h9) rfl dX5_update_1 ?_
  refine va_get (D := D) (ci := 1) (v := .ref qb) (C := RX3) (T := TX3) (N := 8) hx hb hts in_X3 hown hK hP 0 rfl rfl 2 (by decide) (hts _ q218) (fun _ h9 => h9) rfl dX5_update_4 ?_
  refine lv_aload_n hx hb dX5_update_7 rfl (lv_at hl 0 rfl) ?_
  refine va_get (D := D) (ci := 2) (v := .ref hH) (C := RX5) (T := TX5) (N := 1) hx hb hts in_X5 hown hK hP 2 rfl rfl 0 (by decide) (hts _ q71) (fun _ h9 => h9) rfl dX5_update_8 ?_
  refine va_get (D := D) (ci := 1) (v := .int (nI (n % 8))) (C := RX3) (T := TX3) (N := 8) hx hb hts in_X3 hown hK hP 0 rfl rfl 3 (by decide) (hts _ q223) (fun _ h9 => h9) rfl dX5_update_11 ?_
  refine lv_iload_n hx hb dX5_update_14 rfl (lv_at hl 1 rfl) ?_
  refine va_bast hx hb hK hP hD hS 1 0 rfl rfl (vp_in_nI (by omega) (by omega)) dX5_update_15 (fun H locs hP hD hS => ?_)
  have eg_1 : upd buf (nI (n % 8)).toNatClampNeg (vp_nar .byte v) = upd buf (n % 8) (M n) := (by rw [nI_clamp (by omega), hv])
  rw [eg_1] at hP hD
  have hP : va_P D CL [(hH, .inr (1, [.int 32, .int 8, .ref qb, .int (nI (n % 8)), .ref qa, .ref qi, .ref qp, .int 12])), (qb, .inl (dB, 8, .inl (upd buf (n % 8) (M n)))), (qi, .inr (2, [.ref hH])), (qp, .inr (3, [.long x.1, .long x.2.1, .long x.2.2.1, .long x.2.2.2.1, .long x.2.2.2.2]))] H := hP
  have hD : va_D A [(hH, .inr (1, [.int 32, .int 8, .ref qb, .int (nI (n % 8)), .ref qa, .ref qi, .ref qp, .int 12])), (qb, .inl (dB, 8, .inl (upd buf (n % 8) (M n)))), (qi, .inr (2, [.ref hH])), (qp, .inr (3, [.long x.1, .long x.2.1, .long x.2.2.1, .long x.2.2.2.1, .long x.2.2.2.2]))] := hD
  refine lv_aload_n hx hb dX5_update_16 rfl (lv_at hl 0 rfl) ?_
  refine va_get (D := D) (ci := 2) (v := .ref hH) (C := RX5) (T := TX5) (N := 1) hx hb hts in_X5 hown hK hP 2 rfl rfl 0 (by decide) (hts _ q71) (fun _ h9 => h9) rfl dX5_update_17 ?_
  refine lv_dup hx hb dX5_update_20 rfl ?_
  refine va_get (D := D) (ci := 1) (v := .int (nI (n % 8))) (C := RX3) (T := TX3) (N := 8) hx hb hts in_X3 hown hK hP 0 rfl rfl 3 (by decide) (hts _ q223) (fun _ h9 => h9) rfl dX5_update_21 ?_
  refine lv_iconst (v := 1) hx hb dX5_update_24 (by decide) ?_
  refine lv_iadd hx hb dX5_update_25 ?_
  refine nmTi (b := (nI (n % 8 + 1))) (nI_1 _) ?_
  refine lv_dup_x1 hx hb dX5_update_26 rfl rfl ?_
  refine va_put (D := D) (ci := 1) (v := .int (nI (n % 8 + 1))) (ty := .int) (C := RX3) (T := TX3) (N := 8) hx hb hts in_X3 tyX3 tyX3_ok nmX3 hown hK hP hD hS 0 rfl rfl 3 (by decide) (hts _ q223) (fun _ h9 => h9) rfl (by decide +kernel) rfl rfl (Nat.le_of_ble_eq_true rfl) dX5_update_27 (fun H locs hP hD hS => ?_)
  have hP : va_P D CL [(hH, .inr (1, [.int 32, .int 8, .ref qb, .int (nI (n % 8 + 1)), .ref qa, .ref qi, .ref qp, .int 12])), (qb, .inl (dB, 8, .inl (upd buf (n % 8) (M n)))), (qi, .inr (2, [.ref hH])), (qp, .inr (3, [.long x.1, .long x.2.1, .long x.2.2.1, .long x.2.2.2.1, .long x.2.2.2.2]))] H := hP
  have hD : va_D A [(hH, .inr (1, [.int 32, .int 8, .ref qb, .int (nI (n % 8 + 1)), .ref qa, .ref qi, .ref qp, .int 12])), (qb, .inl (dB, 8, .inl (upd buf (n % 8) (M n)))), (qi, .inr (2, [.ref hH])), (qp, .inr (3, [.long x.1, .long x.2.1, .long x.2.2.1, .long x.2.2.2.1, .long x.2.2.2.2]))] := hD
  refine lv_aload_n hx hb dX5_update_30 rfl (lv_at hl 0 rfl) ?_
  refine va_get (D := D) (ci := 2) (v := .ref hH) (C := RX5) (T := TX5) (N := 1) hx hb hts in_X5 hown hK hP 2 rfl rfl 0 (by decide) (hts _ q71) (fun _ h9 => h9) rfl dX5_update_31 ?_
  refine va_get (D := D) (ci := 1) (v := .int 8) (C := RX3) (T := TX3) (N := 8) hx hb hts in_X3 hown hK hP 0 rfl rfl 1 (by decide) (hts _ q214) (fun _ h9 => h9) rfl dX5_update_34 ?_
  refine lv_icmp_ne (tgt := 63) hx hb dX5_update_37 (by decide) (fun c_2 => ?_) (fun c_2 => ?_)
  · skip
    have h7 : n % 8 < 7 := by
      rcases (show n % 8 < 7 ∨ n % 8 = 7 by omega) with z | z
      · exact z
      · exact absurd (by rw [z]; decide) c_2
    exact rt_v hx hb hr hlocks hP hK hD hS dX5_update_63 (x, upd buf (n % 8) (M n), nI (n % 8 + 1)) [0, 1, 2, 3] rfl (by decide) ⟨by rw [show (n + 1) % 8 = n % 8 + 1 by omega], Rp_one hR h7⟩
  · skip
    have h7 : n % 8 = 7 := by
      have z := (nI_eq (b := 8) (by omega) (by decide)).mp c_2
      omega
    refine lv_aload_n hx hb dX5_update_40 rfl (lv_at hl 0 rfl) ?_
    refine va_get (D := D) (ci := 2) (v := .ref hH) (C := RX5) (T := TX5) (N := 1) hx hb hts in_X5 hown hK hP 2 rfl rfl 0 (by decide) (hts _ q71) (fun _ h9 => h9) rfl dX5_update_41 ?_
    refine lv_aload_n hx hb dX5_update_44 rfl (lv_at hl 0 rfl) ?_
    refine va_get (D := D) (ci := 2) (v := .ref hH) (C := RX5) (T := TX5) (N := 1) hx hb hts in_X5 hown hK hP 2 rfl rfl 0 (by decide) (hts _ q71) (fun _ h9 => h9) rfl dX5_update_45 ?_
    refine va_get (D := D) (ci := 1) (v := .ref qb) (C := RX3) (T := TX3) (N := 8) hx hb hts in_X3 hown hK hP 0 rfl rfl 2 (by decide) (hts _ q218) (fun _ h9 => h9) rfl dX5_update_48 ?_
    refine lv_iconst (v := 0) hx hb dX5_update_51 (by decide) ?_
    refine cl_v [(hH, .inr (1, [.int 32, .int 8, .ref qb, .int (nI (n % 8 + 1)), .ref qa, .ref qi, .ref qp, .int 12])), (qp, .inr (3, [.long x.1, .long x.2.1, .long x.2.2.1, .long x.2.2.2.1, .long x.2.2.2.2])), (qb, .inl (dB, 8, .inl (upd buf (n % 8) (M n))))] [(qi, .inr (2, [.ref hH]))] [0, 3, 1] [2] rfl rfl (by decide) (by decide) hP hD hS hA (va_runU (As := [.ref qb, .int 0]) (rest := []) ⟨hx, hb, hml, hown, hts⟩ (m_proc l D dB dN dL hH qp qb 8 0 (upd buf (n % 8) (M n)) (.ref qb) (.ref qa) (.ref qi) (nI (n % 8 + 1)) x _ (by omega) (by decide)) (va_cwA (owner := "BufferBaseDigest") 2 hts (lw_U q448 q362 q363 q364 q9 q365) rfl rfl rfl hX.1.2.1.1 (by decide +kernel) ⟨Nat.le_of_ble_eq_true rfl, Nat.le_of_ble_eq_true rfl⟩) (pvV (ci := 1) (q0 := 0) (C := RX3) [0, 3, 1] rfl (by decide) hP hK hD hS hA hX rfl rfl) rfl rfl hl.1 rfl (lv_room (Nat.le_of_ble_eq_true rfl)) dX5_update_52 ⟨Nat.le_of_ble_eq_true rfl, Nat.le_of_ble_eq_true rfl⟩) (fun u_3 H locs hw_4 hP hD hS => ?_)
    have hP : va_P D CL [(qi, .inr (2, [.ref hH])), (hH, .inr (1, [.int 32, .int 8, .ref qb, .int (nI (n % 8 + 1)), .ref qa, .ref qi, .ref qp, .int 12])), (qp, .inr (3, [.long u_3.1, .long u_3.2.1, .long u_3.2.2.1, .long u_3.2.2.2.1, .long u_3.2.2.2.2])), (qb, .inl (dB, 8, .inl (upd buf (n % 8) (M n))))] H := hP
    have hD : va_D A [(qi, .inr (2, [.ref hH])), (hH, .inr (1, [.int 32, .int 8, .ref qb, .int (nI (n % 8 + 1)), .ref qa, .ref qi, .ref qp, .int 12])), (qp, .inr (3, [.long u_3.1, .long u_3.2.1, .long u_3.2.2.1, .long u_3.2.2.2.1, .long u_3.2.2.2.2])), (qb, .inl (dB, 8, .inl (upd buf (n % 8) (M n))))] := hD
    refine lv_aload_n hx hb dX5_update_55 rfl (lv_at hl 0 rfl) ?_
    refine va_get (D := D) (ci := 2) (v := .ref hH) (C := RX5) (T := TX5) (N := 1) hx hb hts in_X5 hown hK hP 0 rfl rfl 0 (by decide) (hts _ q71) (fun _ h9 => h9) rfl dX5_update_56 ?_
    refine lv_iconst (v := 0) hx hb dX5_update_59 (by decide) ?_
    refine va_put (D := D) (ci := 1) (v := .int 0) (ty := .int) (C := RX3) (T := TX3) (N := 8) hx hb hts in_X3 tyX3 tyX3_ok nmX3 hown hK hP hD hS 1 rfl rfl 3 (by decide) (hts _ q223) (fun _ h9 => h9) rfl (by decide +kernel) rfl rfl (Nat.le_of_ble_eq_true rfl) dX5_update_60 (fun H locs hP hD hS => ?_)
    have hP : va_P D CL [(qi, .inr (2, [.ref hH])), (hH, .inr (1, [.int 32, .int 8, .ref qb, .int 0, .ref qa, .ref qi, .ref qp, .int 12])), (qp, .inr (3, [.long u_3.1, .long u_3.2.1, .long u_3.2.2.1, .long u_3.2.2.2.1, .long u_3.2.2.2.2])), (qb, .inl (dB, 8, .inl (upd buf (n % 8) (M n))))] H := hP
    have hD : va_D A [(qi, .inr (2, [.ref hH])), (hH, .inr (1, [.int 32, .int 8, .ref qb, .int 0, .ref qa, .ref qi, .ref qp, .int 12])), (qp, .inr (3, [.long u_3.1, .long u_3.2.1, .long u_3.2.2.1, .long u_3.2.2.2.1, .long u_3.2.2.2.2])), (qb, .inl (dB, 8, .inl (upd buf (n % 8) (M n))))] := hD
    exact rt_v hx hb hr hlocks hP hK hD hS dX5_update_63 (u_3, upd buf (n % 8) (M n), 0) [1, 3, 0, 2] rfl (by decide) ⟨by rw [show (n + 1) % 8 = 0 by omega]; rfl, by rw [show u_3 = _ from hw_4]; exact Rp_full hR h7 _⟩

set_option maxHeartbeats 4000000 in
set_option maxRecDepth 100000 in
/-- BufferBaseDigest.update(b) -/
theorem m_upd1 (l : Launch) (D : va_G) (dB dN dL : ClassId) (hH qb qa qi qp : Nat) (n : Nat) (M : Nat → Int32) (v : Int32) (x : P5) (buf : Nat → Int32) (sz : Nat) (hR : Rp M n x buf) (hv : vp_nar .byte v = M n) : Cv_ l yX1_update_2 (ws_ yX1_update_2 cX1_update_2 2 none) (rm_ 6 0 0 146) D dB dN dL [.ref hH, .int v] [(hH, .inr (1, [.int 32, .int 8, .ref qb, .int (nI (n % 8)), .ref qa, .ref qi, .ref qp, .int 12])), (qb, .inl (dB, 8, .inl buf)), (qi, .inr (2, [.ref hH])), (qp, .inr (3, [.long x.1, .long x.2.1, .long x.2.2.1, .long x.2.2.2.1, .long x.2.2.2.2]))] sz (S := P5 × (Nat → Int32) × Int32) (fun u => u.2.2 = nI ((n + 1) % 8) ∧ Rp M (n + 1) u.1 u.2.1) (fun u => [(hH, .inr (1, [.int 32, .int 8, .ref qb, .int u.2.2, .ref qa, .ref qi, .ref qp, .int 12])), (qb, .inl (dB, 8, .inl u.2.1)), (qi, .inr (2, [.ref hH])), (qp, .inr (3, [.long u.1.1, .long u.1.2.1, .long u.1.2.2.1, .long u.1.2.2.2.1, .long u.1.2.2.2.2]))]) := by
  refine ct_of (cc := cX1_update_2) (maxL := 2) (ret := none) (by decide) rfl (Nat.le_of_ble_eq_true rfl) (fun p e s m below meth c A ls hx hb hml hr hlocks hts hown hin hP hK hD hA hX hS hl => ?_)
  have hown : s.vm.findClass RX1 = some m.cls := hown
  have hl : lv_has ls 2 [(0, .ref hH), (1, .int v)] := hl
  refine lv_aload_n hx hb dX1_update_2_0 rfl (lv_at hl 0 rfl) ?_
  refine va_get (D := D) (ci := 1) (v := .ref qi) (C := RX3) (T := TX3) (N := 8) hx hb hts in_X3 hown hK hP 0 rfl rfl 5 (by decide) (hts _ q229) (fun _ h9 => h9) rfl dX1_update_2_1 ?_
  refine lv_iload_n hx hb dX1_update_2_4 rfl (lv_at hl 1 rfl) ?_
  refine cf_v [(hH, .inr (1, [.int 32, .int 8, .ref qb, .int (nI (n % 8)), .ref qa, .ref qi, .ref qp, .int 12])), (qb, .inl (dB, 8, .inl buf)), (qi, .inr (2, [.ref hH])), (qp, .inr (3, [.long x.1, .long x.2.1, .long x.2.2.1, .long x.2.2.2.1, .long x.2.2.2.2]))] [] [0, 1, 2, 3] [] rfl rfl (by decide) (by decide) hP hD hS hA (va_runF (hK.1 2 _ rfl).2 (As := [.int v]) (rest := []) ⟨hx, hb, hml, hown, hts⟩ (m_immU l D dB dN dL hH qb qa qi qp n M v x buf _ hR hv) (va_cwF 1 hts (lw_F q434 q443 q445 q13 q447) rfl rfl rfl hX.1.2.2.2.1.2.2 (by decide +kernel) ⟨Nat.le_of_ble_eq_true rfl, Nat.le_of_ble_eq_true rfl⟩) (pvV (ci := 2) (q0 := 2) (C := RX5) [0, 1, 2, 3] rfl (by decide) hP hK hD hS hA hX rfl rfl) rfl rfl hl.1 rfl (lv_room (Nat.le_of_ble_eq_true rfl)) dX1_update_2_5 ⟨Nat.le_of_ble_eq_true rfl, Nat.le_of_ble_eq_true rfl⟩) (fun u_1 H locs hw_2 hP hD hS => ?_)
  have hP : va_P D CL [(hH, .inr (1, [.int 32, .int 8, .ref qb, .int u_1.2.2, .ref qa, .ref qi, .ref qp, .int 12])), (qb, .inl (dB, 8, .inl u_1.2.1)), (qi, .inr (2, [.ref hH])), (qp, .inr (3, [.long u_1.1.1, .long u_1.1.2.1, .long u_1.1.2.2.1, .long u_1.1.2.2.2.1, .long u_1.1.2.2.2.2]))] H := hP
  have hD : va_D A [(hH, .inr (1, [.int 32, .int 8, .ref qb, .int u_1.2.2, .ref qa, .ref qi, .ref qp, .int 12])), (qb, .inl (dB, 8, .inl u_1.2.1)), (qi, .inr (2, [.ref hH])), (qp, .inr (3, [.long u_1.1.1, .long u_1.1.2.1, .long u_1.1.2.2.1, .long u_1.1.2.2.2.1, .long u_1.1.2.2.2.2]))] := hD
  exact rt_v hx hb hr hlocks hP hK hD hS dX1_update_2_10 u_1 [0, 1, 2, 3] rfl (by decide) hw_2

set_option maxHeartbeats 4000000 in
set_option maxRecDepth 100000 in
theorem L_upd {p : Program} {l : Launch} {e : Env} {s : State} {m : MethodId} {below : List Frame} {meth : Method} {c : Code} {D : va_G} {dB dN dL : ClassId} {A : Nat → Prop} {args : Array Value} {Q : State → Prop} (hx : p.tables.exec = Jvm.exec) (hb : c.code = cX1_update) (hml : c.maxLocals = 5) (hts : ∀ w ∈ lw_all, w.before args s = true) (hown : s.vm.findClass RX1 = some m.cls) (hK : va_K D CL (TY dB dN dL) s) (hA : ∀ q : Nat, s.heap.size ≤ q → A q) (hX : xt A s s.heap) (hH qb qa qi qp : Nat) (h1 n1 N : Nat) (M T : Nat → Int32) (pos : Int32) (buf : Nat → Int32) (hn : n1 < 2 ^ 31) (kk : ∀ (b off len : Nat) (x : P5), len < 8 → x = abs M b → (∀ i, i < len → M (8 * b + i) = T (off + i)) → off + len ≤ n1 → 8 * b + len = N → WG p l e (rm_ 5 0 0 125) s m args below meth c D A 0 0 Q 5 [(hH, .inr (1, [.int 32, .int 8, .ref qb, .int pos, .ref qa, .ref qi, .ref qp, .int 12])), (qb, .inl (dB, 8, .inl buf)), (qi, .inr (2, [.ref hH])), (qp, .inr (3, [.long x.1, .long x.2.1, .long x.2.2.1, .long x.2.2.2.1, .long x.2.2.2.2])), (h1, .inl (dB, n1, .inl T))] [(0, .ref hH), (1, .ref h1), (2, .int (nI off)), (3, .int (nI len))] 139) :
    ∀ (d b off len : Nat) (x : P5), len / 8 = d → x = abs M b → (∀ i, i < len → M (8 * b + i) = T (off + i)) → off + len ≤ n1 → 8 * b + len = N → WG p l e (rm_ 5 0 0 125) s m args below meth c D A 0 0 Q 5 [(hH, .inr (1, [.int 32, .int 8, .ref qb, .int pos, .ref qa, .ref qi, .ref qp, .int 12])), (qb, .inl (dB, 8, .inl buf)), (qi, .inr (2, [.ref hH])), (qp, .inr (3, [.long x.1, .long x.2.1, .long x.2.2.1, .long x.2.2.2.1, .long x.2.2.2.2])), (h1, .inl (dB, n1, .inl T))] [(0, .ref hH), (1, .ref h1), (2, .int (nI off)), (3, .int (nI len))] 99 := by
  intro d
  induction d with
  | zero =>
    intro b off len x hd hx0 hT hf hN H locs ls hP hD hS hl
    refine lv_aload_n hx hb dX1_update_99 rfl (lv_at hl 0 rfl) ?_
    refine va_get (D := D) (ci := 1) (v := .ref qi) (C := RX3) (T := TX3) (N := 8) hx hb hts in_X3 hown hK hP 0 rfl rfl 5 (by decide) (hts _ q229) (fun _ h9 => h9) rfl dX1_update_100 ?_
    refine lv_iload_n hx hb dX1_update_103 rfl (lv_at hl 3 rfl) ?_
    refine lv_aload_n hx hb dX1_update_104 rfl (lv_at hl 0 rfl) ?_
    refine va_get (D := D) (ci := 1) (v := .int 8) (C := RX3) (T := TX3) (N := 8) hx hb hts in_X3 hown hK hP 0 rfl rfl 1 (by decide) (hts _ q212) (fun _ h9 => h9) rfl dX1_update_105 ?_
    refine cf_i [] [(hH, .inr (1, [.int 32, .int 8, .ref qb, .int pos, .ref qa, .ref qi, .ref qp, .int 12])), (qb, .inl (dB, 8, .inl buf)), (qi, .inr (2, [.ref hH])), (qp, .inr (3, [.long x.1, .long x.2.1, .long x.2.2.1, .long x.2.2.2.1, .long x.2.2.2.2])), (h1, .inl (dB, n1, .inl T))] [] [0, 1, 2, 3, 4] rfl rfl (by decide) (by decide) hP hD hS hA (va_runF (hK.1 2 _ rfl).2 (As := [.int (nI len), .int 8]) (rest := []) ⟨hx, hb, hml, hown, hts⟩ (m_exceed l D dB dN dL qi (nI len) 8 _) (va_cwF 2 hts (lw_F q407 q415 q417 q13 q419) rfl rfl rfl hX.1.2.2.2.1.2.1 (by decide +kernel) ⟨Nat.le_of_ble_eq_true rfl, Nat.le_of_ble_eq_true rfl⟩) (pvV (ci := 2) (q0 := 2) (C := RX5) [] rfl (by decide) hP hK hD hS hA hX rfl rfl) rfl rfl hl.1 rfl (lv_room (Nat.le_of_ble_eq_true rfl)) dX1_update_108 ⟨Nat.le_of_ble_eq_true rfl, Nat.le_of_ble_eq_true rfl⟩) (fun r_a3 u_a1 H locs hw_a2 hP hD hS => ?_)
    have hP : va_P D CL [(hH, .inr (1, [.int 32, .int 8, .ref qb, .int pos, .ref qa, .ref qi, .ref qp, .int 12])), (qb, .inl (dB, 8, .inl buf)), (qi, .inr (2, [.ref hH])), (qp, .inr (3, [.long x.1, .long x.2.1, .long x.2.2.1, .long x.2.2.2.1, .long x.2.2.2.2])), (h1, .inl (dB, n1, .inl T))] H := hP
    have hD : va_D A [(hH, .inr (1, [.int 32, .int 8, .ref qb, .int pos, .ref qa, .ref qi, .ref qp, .int 12])), (qb, .inl (dB, 8, .inl buf)), (qi, .inr (2, [.ref hH])), (qp, .inr (3, [.long x.1, .long x.2.1, .long x.2.2.1, .long x.2.2.2.1, .long x.2.2.2.2])), (h1, .inl (dB, n1, .inl T))] := hD
    refine nmTi (b := (if (8 : Int32) ≤ nI len then 1 else 0)) hw_a2 ?_
    refine lv_if_eq (tgt := 139) hx hb dX1_update_113 (by decide) (fun _ => ?_) (fun c_a4 => absurd (if_neg (nI_ge (a := len) (b := 8) (by omega) (by decide))) c_a4)
    exact kk b off len x (by omega) hx0 hT hf hN _ _ _ (hP.sub [0, 1, 2, 3, 4] rfl) (hD.sub [0, 1, 2, 3, 4] (by decide) rfl) hS (lv_sub hl [0, 1, 2, 3] rfl)
  | succ d ih =>
    intro b off len x hd hx0 hT hf hN H locs ls hP hD hS hl
    refine lv_aload_n hx hb dX1_update_99 rfl (lv_at hl 0 rfl) ?_
    refine va_get (D := D) (ci := 1) (v := .ref qi) (C := RX3) (T := TX3) (N := 8) hx hb hts in_X3 hown hK hP 0 rfl rfl 5 (by decide) (hts _ q229) (fun _ h9 => h9) rfl dX1_update_100 ?_
    refine lv_iload_n hx hb dX1_update_103 rfl (lv_at hl 3 rfl) ?_
    refine lv_aload_n hx hb dX1_update_104 rfl (lv_at hl 0 rfl) ?_
    refine va_get (D := D) (ci := 1) (v := .int 8) (C := RX3) (T := TX3) (N := 8) hx hb hts in_X3 hown hK hP 0 rfl rfl 1 (by decide) (hts _ q212) (fun _ h9 => h9) rfl dX1_update_105 ?_
    refine cf_i [] [(hH, .inr (1, [.int 32, .int 8, .ref qb, .int pos, .ref qa, .ref qi, .ref qp, .int 12])), (qb, .inl (dB, 8, .inl buf)), (qi, .inr (2, [.ref hH])), (qp, .inr (3, [.long x.1, .long x.2.1, .long x.2.2.1, .long x.2.2.2.1, .long x.2.2.2.2])), (h1, .inl (dB, n1, .inl T))] [] [0, 1, 2, 3, 4] rfl rfl (by decide) (by decide) hP hD hS hA (va_runF (hK.1 2 _ rfl).2 (As := [.int (nI len), .int 8]) (rest := []) ⟨hx, hb, hml, hown, hts⟩ (m_exceed l D dB dN dL qi (nI len) 8 _) (va_cwF 2 hts (lw_F q407 q415 q417 q13 q419) rfl rfl rfl hX.1.2.2.2.1.2.1 (by decide +kernel) ⟨Nat.le_of_ble_eq_true rfl, Nat.le_of_ble_eq_true rfl⟩) (pvV (ci := 2) (q0 := 2) (C := RX5) [] rfl (by decide) hP hK hD hS hA hX rfl rfl) rfl rfl hl.1 rfl (lv_room (Nat.le_of_ble_eq_true rfl)) dX1_update_108 ⟨Nat.le_of_ble_eq_true rfl, Nat.le_of_ble_eq_true rfl⟩) (fun r_b3 u_b1 H locs hw_b2 hP hD hS => ?_)
    have hP : va_P D CL [(hH, .inr (1, [.int 32, .int 8, .ref qb, .int pos, .ref qa, .ref qi, .ref qp, .int 12])), (qb, .inl (dB, 8, .inl buf)), (qi, .inr (2, [.ref hH])), (qp, .inr (3, [.long x.1, .long x.2.1, .long x.2.2.1, .long x.2.2.2.1, .long x.2.2.2.2])), (h1, .inl (dB, n1, .inl T))] H := hP
    have hD : va_D A [(hH, .inr (1, [.int 32, .int 8, .ref qb, .int pos, .ref qa, .ref qi, .ref qp, .int 12])), (qb, .inl (dB, 8, .inl buf)), (qi, .inr (2, [.ref hH])), (qp, .inr (3, [.long x.1, .long x.2.1, .long x.2.2.1, .long x.2.2.2.1, .long x.2.2.2.2])), (h1, .inl (dB, n1, .inl T))] := hD
    refine nmTi (b := (if (8 : Int32) ≤ nI len then 1 else 0)) hw_b2 ?_
    refine lv_if_eq (tgt := 139) hx hb dX1_update_113 (by decide) (fun c_b4 => absurd c_b4 (by rw [if_pos (show (8 : Int32) ≤ nI len from nI_le (a := 8) (by omega) (by omega))]; decide)) (fun _ => ?_)
    refine lv_aload_n hx hb dX1_update_116 rfl (lv_at hl 0 rfl) ?_
    refine lv_aload_n hx hb dX1_update_117 rfl (lv_at hl 1 rfl) ?_
    refine lv_iload_n hx hb dX1_update_118 rfl (lv_at hl 2 rfl) ?_
    refine cl_v [(hH, .inr (1, [.int 32, .int 8, .ref qb, .int pos, .ref qa, .ref qi, .ref qp, .int 12])), (qp, .inr (3, [.long x.1, .long x.2.1, .long x.2.2.1, .long x.2.2.2.1, .long x.2.2.2.2])), (h1, .inl (dB, n1, .inl T))] [(qb, .inl (dB, 8, .inl buf)), (qi, .inr (2, [.ref hH]))] [0, 3, 4] [1, 2] rfl rfl (by decide) (by decide) hP hD hS hA (va_runU (As := [.ref h1, .int (nI off)]) (rest := []) ⟨hx, hb, hml, hown, hts⟩ (m_proc l D dB dN dL hH qp h1 n1 off T (.ref qb) (.ref qa) (.ref qi) pos x _ (by omega) hn) (va_cwA (owner := "BufferBaseDigest") 2 hts (lw_U q360 q362 q363 q364 q9 q365) rfl rfl rfl hX.1.2.1.1 (by decide +kernel) ⟨Nat.le_of_ble_eq_true rfl, Nat.le_of_ble_eq_true rfl⟩) (pvV (ci := 1) (q0 := 0) (C := RX3) [0, 3, 4] rfl (by decide) hP hK hD hS hA hX rfl rfl) rfl rfl hl.1 rfl (lv_room (Nat.le_of_ble_eq_true rfl)) dX1_update_119 ⟨Nat.le_of_ble_eq_true rfl, Nat.le_of_ble_eq_true rfl⟩) (fun u_b5 H locs hw_b6 hP hD hS => ?_)
    have hP : va_P D CL [(qb, .inl (dB, 8, .inl buf)), (qi, .inr (2, [.ref hH])), (hH, .inr (1, [.int 32, .int 8, .ref qb, .int pos, .ref qa, .ref qi, .ref qp, .int 12])), (qp, .inr (3, [.long u_b5.1, .long u_b5.2.1, .long u_b5.2.2.1, .long u_b5.2.2.2.1, .long u_b5.2.2.2.2])), (h1, .inl (dB, n1, .inl T))] H := hP
    have hD : va_D A [(qb, .inl (dB, 8, .inl buf)), (qi, .inr (2, [.ref hH])), (hH, .inr (1, [.int 32, .int 8, .ref qb, .int pos, .ref qa, .ref qi, .ref qp, .int 12])), (qp, .inr (3, [.long u_b5.1, .long u_b5.2.1, .long u_b5.2.2.1, .long u_b5.2.2.2.1, .long u_b5.2.2.2.2])), (h1, .inl (dB, n1, .inl T))] := hD
    refine lv_iload_n hx hb dX1_update_122 rfl (lv_at hl 2 rfl) ?_
    refine lv_aload_n hx hb dX1_update_123 rfl (lv_at hl 0 rfl) ?_
    refine va_get (D := D) (ci := 1) (v := .int 8) (C := RX3) (T := TX3) (N := 8) hx hb hts in_X3 hown hK hP 2 rfl rfl 1 (by decide) (hts _ q212) (fun _ h9 => h9) rfl dX1_update_124 ?_
    refine lv_iadd hx hb dX1_update_127 ?_
    refine nmTi (b := (nI (off + 8))) (nI_add off 8) ?_
    refine lv_istore_n (lv' := [(2, .int (nI (off + 8))), (0, .ref hH), (1, .ref h1), (3, .int (nI len))]) hx hb dX1_update_128 rfl hl (by decide) rfl (fun ls hl => ?_)
    refine lv_iload_n hx hb dX1_update_129 rfl (lv_at hl 3 rfl) ?_
    refine lv_aload_n hx hb dX1_update_130 rfl (lv_at hl 1 rfl) ?_
    refine va_get (D := D) (ci := 1) (v := .int 8) (C := RX3) (T := TX3) (N := 8) hx hb hts in_X3 hown hK hP 2 rfl rfl 1 (by decide) (hts _ q212) (fun _ h9 => h9) rfl dX1_update_131 ?_
    refine lv_isub hx hb dX1_update_134 ?_
    refine nmTi (b := (nI (len - 8))) (pk_sub (a := len) (b := 8) (by omega)) ?_
    refine lv_istore_n (lv' := [(3, .int (nI (len - 8))), (2, .int (nI (off + 8))), (0, .ref hH), (1, .ref h1)]) hx hb dX1_update_135 rfl hl (by decide) rfl (fun ls hl => ?_)
    refine lv_goto (tgt := 99) hx hb dX1_update_136 (by decide) ?_
    have hx1 : u_b5 = abs M (b + 1) := by
      rw [show u_b5 = _ from hw_b6, hx0]
      show ab (abs M b) _ = ab (abs M b) _
      rw [ld_congr (g := M) (j := 8 * b) 8 (fun i hi => (hT i (by omega)).symm)]
    exact ih (b + 1) (off + 8) (len - 8) u_b5 (by omega) hx1 (fun i hi => by rw [show 8 * (b + 1) + i = 8 * b + (8 + i) by omega, hT _ (by omega), Nat.add_assoc]) (by omega) (by omega) _ _ _ (hP.sub [2, 0, 1, 3, 4] rfl) (hD.sub [2, 0, 1, 3, 4] (by decide) rfl) hS (lv_sub hl [2, 3, 1, 0] rfl)

set_option maxHeartbeats 4000000 in
set_option maxRecDepth 100000 in
/-- BufferBaseDigest.update(b, off, len) -/
theorem m_update (l : Launch) (D : va_G) (dB dN dL : ClassId) (hH qb qa qi qp : Nat) (h1 n1 n f kc : Nat) (M T : Nat → Int32) (x : P5) (buf : Nat → Int32) (sz : Nat) (hR : Rp M n x buf) (hT : ∀ i, i < kc → M (n + i) = T (f + i)) (hf : f + kc ≤ n1) (hn : n1 < 2 ^ 31) (hfit : sb_Fit T) : Cv_ l yX1_update (ws_ yX1_update cX1_update 5 none) (rm_ 5 0 0 125) D dB dN dL [.ref hH, .ref h1, .int (nI f), .int (nI kc)] [(hH, .inr (1, [.int 32, .int 8, .ref qb, .int (nI (n % 8)), .ref qa, .ref qi, .ref qp, .int 12])), (qb, .inl (dB, 8, .inl buf)), (qi, .inr (2, [.ref hH])), (qp, .inr (3, [.long x.1, .long x.2.1, .long x.2.2.1, .long x.2.2.2.1, .long x.2.2.2.2])), (h1, .inl (dB, n1, .inl T))] sz (S := P5 × (Nat → Int32) × Int32) (fun u => u.2.2 = nI ((n + kc) % 8) ∧ Rp M (n + kc) u.1 u.2.1) (fun u => [(hH, .inr (1, [.int 32, .int 8, .ref qb, .int u.2.2, .ref qa, .ref qi, .ref qp, .int 12])), (qb, .inl (dB, 8, .inl u.2.1)), (qi, .inr (2, [.ref hH])), (qp, .inr (3, [.long u.1.1, .long u.1.2.1, .long u.1.2.2.1, .long u.1.2.2.2.1, .long u.1.2.2.2.2])), (h1, .inl (dB, n1, .inl T))]) := by
  refine ct_of (cc := cX1_update) (maxL := 5) (ret := none) (by decide) rfl (Nat.le_of_ble_eq_true rfl) (fun p e s m below meth c A ls hx hb hml hr hlocks hts hown hin hP hK hD hA hX hS hl => ?_)
  have hown : s.vm.findClass RX1 = some m.cls := hown
  have hl : lv_has ls 5 [(0, .ref hH), (1, .ref h1), (2, .int (nI f)), (3, .int (nI kc))] := hl
  have tail : ∀ (b off len : Nat) (x : P5) (buf : Nat → Int32) (pos : Int32), len < 8 → x = abs M b → (∀ i, i < len → M (8 * b + i) = T (off + i)) → off + len ≤ n1 → 8 * b + len = n + kc → WG p l e (headSpec (ws_ yX1_update cX1_update 5 none) (rm_ 5 0 0 125)).room s m [.ref hH, .ref h1, .int (nI f), .int (nI kc)].toArray below meth c D A 0 0 (MQ below (Qv_ D dB dN dL (S := P5 × (Nat → Int32) × Int32) (fun u => u.2.2 = nI ((n + kc) % 8) ∧ Rp M (n + kc) u.1 u.2.1) (fun u => [(hH, .inr (1, [.int 32, .int 8, .ref qb, .int u.2.2, .ref qa, .ref qi, .ref qp, .int 12])), (qb, .inl (dB, 8, .inl u.2.1)), (qi, .inr (2, [.ref hH])), (qp, .inr (3, [.long u.1.1, .long u.1.2.1, .long u.1.2.2.1, .long u.1.2.2.2.1, .long u.1.2.2.2.2])), (h1, .inl (dB, n1, .inl T))]) A) [.ref hH, .ref h1, .int (nI f), .int (nI kc)].toArray s 0 0 A) 5 [(hH, .inr (1, [.int 32, .int 8, .ref qb, .int pos, .ref qa, .ref qi, .ref qp, .int 12])), (qb, .inl (dB, 8, .inl buf)), (qi, .inr (2, [.ref hH])), (qp, .inr (3, [.long x.1, .long x.2.1, .long x.2.2.1, .long x.2.2.2.1, .long x.2.2.2.2])), (h1, .inl (dB, n1, .inl T))] [(0, .ref hH), (1, .ref h1), (2, .int (nI off)), (3, .int (nI len))] 139 := by
    intro b off len x buf pos h8 hx0 hT hf hN H locs ls hP hD hS hl
    refine lv_aload_n hx hb dX1_update_139 rfl (lv_at hl 1 rfl) ?_
    refine lv_iload_n hx hb dX1_update_140 rfl (lv_at hl 2 rfl) ?_
    refine lv_aload_n hx hb dX1_update_141 rfl (lv_at hl 0 rfl) ?_
    refine va_get (D := D) (ci := 1) (v := .ref qb) (C := RX3) (T := TX3) (N := 8) hx hb hts in_X3 hown hK hP 0 rfl rfl 2 (by decide) (hts _ q217) (fun _ h9 => h9) rfl dX1_update_142 ?_
    refine lv_iconst (v := 0) hx hb dX1_update_145 (by decide) ?_
    refine lv_iload_n hx hb dX1_update_146 rfl (lv_at hl 3 rfl) ?_
    refine cp_ (i := off) (j := 0) (k := len) hx hb (by rw [hml]; exact hl.1.symm) hown (hts _ q357) (hts _ q359) (hts _ q358) (hts _ q27) hK hP hD hS 4 1 0 rfl rfl rfl (by omega) (by omega) (by omega) (by omega) (by omega) hfit (Nat.le_of_ble_eq_true rfl) (Nat.le_of_ble_eq_true rfl) dX1_update_147 (fun H locs hP hD hS => ?_)
    have hP : va_P D CL [(hH, .inr (1, [.int 32, .int 8, .ref qb, .int pos, .ref qa, .ref qi, .ref qp, .int 12])), (qb, .inl (dB, 8, .inl (va_cpy T buf off 0 len))), (qi, .inr (2, [.ref hH])), (qp, .inr (3, [.long x.1, .long x.2.1, .long x.2.2.1, .long x.2.2.2.1, .long x.2.2.2.2])), (h1, .inl (dB, n1, .inl T))] H := hP
    have hD : va_D A [(hH, .inr (1, [.int 32, .int 8, .ref qb, .int pos, .ref qa, .ref qi, .ref qp, .int 12])), (qb, .inl (dB, 8, .inl (va_cpy T buf off 0 len))), (qi, .inr (2, [.ref hH])), (qp, .inr (3, [.long x.1, .long x.2.1, .long x.2.2.1, .long x.2.2.2.1, .long x.2.2.2.2])), (h1, .inl (dB, n1, .inl T))] := hD
    refine lv_aload_n hx hb dX1_update_150 rfl (lv_at hl 0 rfl) ?_
    refine lv_iload_n hx hb dX1_update_151 rfl (lv_at hl 3 rfl) ?_
    refine va_put (D := D) (ci := 1) (v := .int (nI len)) (ty := .int) (C := RX3) (T := TX3) (N := 8) hx hb hts in_X3 tyX3 tyX3_ok nmX3 hown hK hP hD hS 0 rfl rfl 3 (by decide) (hts _ q224) (fun _ h9 => h9) rfl (by decide +kernel) rfl rfl (Nat.le_of_ble_eq_true rfl) dX1_update_152 (fun H locs hP hD hS => ?_)
    have hP : va_P D CL [(hH, .inr (1, [.int 32, .int 8, .ref qb, .int (nI len), .ref qa, .ref qi, .ref qp, .int 12])), (qb, .inl (dB, 8, .inl (va_cpy T buf off 0 len))), (qi, .inr (2, [.ref hH])), (qp, .inr (3, [.long x.1, .long x.2.1, .long x.2.2.1, .long x.2.2.2.1, .long x.2.2.2.2])), (h1, .inl (dB, n1, .inl T))] H := hP
    have hD : va_D A [(hH, .inr (1, [.int 32, .int 8, .ref qb, .int (nI len), .ref qa, .ref qi, .ref qp, .int 12])), (qb, .inl (dB, 8, .inl (va_cpy T buf off 0 len))), (qi, .inr (2, [.ref hH])), (qp, .inr (3, [.long x.1, .long x.2.1, .long x.2.2.1, .long x.2.2.2.1, .long x.2.2.2.2])), (h1, .inl (dB, n1, .inl T))] := hD
    exact rt_v hx hb hr hlocks hP hK hD hS dX1_update_155 (x, va_cpy T buf off 0 len, nI len) [0, 1, 2, 3, 4] rfl (by decide) ⟨by rw [show (n + kc) % 8 = len by omega], by
      have hR0 : Rp M (8 * b) x buf := ⟨by rw [show 8 * b / 8 = b by omega]; exact hx0, fun j hj => absurd hj (by omega)⟩
      have h2 := Rp_cpy (T := T) (f := off) (c := len) hR0 hT (by omega)
      rw [show 8 * b % 8 = 0 by omega, hN] at h2
      exact h2⟩
  have loop : ∀ (b off len : Nat) (x : P5) (buf : Nat → Int32) (pos : Int32), x = abs M b → (∀ i, i < len → M (8 * b + i) = T (off + i)) → off + len ≤ n1 → 8 * b + len = n + kc → WG p l e (headSpec (ws_ yX1_update cX1_update 5 none) (rm_ 5 0 0 125)).room s m [.ref hH, .ref h1, .int (nI f), .int (nI kc)].toArray below meth c D A 0 0 (MQ below (Qv_ D dB dN dL (S := P5 × (Nat → Int32) × Int32) (fun u => u.2.2 = nI ((n + kc) % 8) ∧ Rp M (n + kc) u.1 u.2.1) (fun u => [(hH, .inr (1, [.int 32, .int 8, .ref qb, .int u.2.2, .ref qa, .ref qi, .ref qp, .int 12])), (qb, .inl (dB, 8, .inl u.2.1)), (qi, .inr (2, [.ref hH])), (qp, .inr (3, [.long u.1.1, .long u.1.2.1, .long u.1.2.2.1, .long u.1.2.2.2.1, .long u.1.2.2.2.2])), (h1, .inl (dB, n1, .inl T))]) A) [.ref hH, .ref h1, .int (nI f), .int (nI kc)].toArray s 0 0 A) 5 [(hH, .inr (1, [.int 32, .int 8, .ref qb, .int pos, .ref qa, .ref qi, .ref qp, .int 12])), (qb, .inl (dB, 8, .inl buf)), (qi, .inr (2, [.ref hH])), (qp, .inr (3, [.long x.1, .long x.2.1, .long x.2.2.1, .long x.2.2.2.1, .long x.2.2.2.2])), (h1, .inl (dB, n1, .inl T))] [(0, .ref hH), (1, .ref h1), (2, .int (nI off)), (3, .int (nI len))] 99 := fun b off len x buf pos h1_ h2_ h3_ h4_ => L_upd hx hb hml hts hown hK hA hX hH qb qa qi qp h1 n1 (n + kc) M T pos buf hn (fun b off len x h8 a1 a2 a3 a4 => tail b off len x buf pos h8 a1 a2 a3 a4) (len / 8) b off len x rfl h1_ h2_ h3_ h4_
  refine lv_aload_n hx hb dX1_update_0 rfl (lv_at hl 0 rfl) ?_
  refine lv_aload_n hx hb dX1_update_1 rfl (lv_at hl 1 rfl) ?_
  refine lv_iload_n hx hb dX1_update_2 rfl (lv_at hl 2 rfl) ?_
  refine lv_iload_n hx hb dX1_update_3 rfl (lv_at hl 3 rfl) ?_
  refine cl_v [(h1, .inl (dB, n1, .inl T))] [(hH, .inr (1, [.int 32, .int 8, .ref qb, .int (nI (n % 8)), .ref qa, .ref qi, .ref qp, .int 12])), (qb, .inl (dB, 8, .inl buf)), (qi, .inr (2, [.ref hH])), (qp, .inr (3, [.long x.1, .long x.2.1, .long x.2.2.1, .long x.2.2.2.1, .long x.2.2.2.2]))] [4] [0, 1, 2, 3] rfl rfl (by decide) (by decide) hP hD hS hA (va_runU (As := [.ref h1, .int (nI f), .int (nI kc)]) (rest := []) ⟨hx, hb, hml, hown, hts⟩ (m_ensI l D dB dN dL hH h1 n1 f kc T _ hf hn) (va_cwU (owner := "BufferBaseDigest") 3 hts (lw_U q301 q303 q304 q302 q8 q305) rfl rfl rfl rfl (by decide +kernel) ⟨Nat.le_of_ble_eq_true rfl, Nat.le_of_ble_eq_true rfl⟩) (pvV (ci := 1) (q0 := 0) (C := RX3) [4] rfl (by decide) hP hK hD hS hA hX rfl rfl) rfl rfl hl.1 rfl (lv_room (Nat.le_of_ble_eq_true rfl)) dX1_update_4 ⟨Nat.le_of_ble_eq_true rfl, Nat.le_of_ble_eq_true rfl⟩) (fun u_1 H locs hw_2 hP hD hS => ?_)
  have hP : va_P D CL [(hH, .inr (1, [.int 32, .int 8, .ref qb, .int (nI (n % 8)), .ref qa, .ref qi, .ref qp, .int 12])), (qb, .inl (dB, 8, .inl buf)), (qi, .inr (2, [.ref hH])), (qp, .inr (3, [.long x.1, .long x.2.1, .long x.2.2.1, .long x.2.2.2.1, .long x.2.2.2.2])), (h1, .inl (dB, n1, .inl T))] H := hP
  have hD : va_D A [(hH, .inr (1, [.int 32, .int 8, .ref qb, .int (nI (n % 8)), .ref qa, .ref qi, .ref qp, .int 12])), (qb, .inl (dB, 8, .inl buf)), (qi, .inr (2, [.ref hH])), (qp, .inr (3, [.long x.1, .long x.2.1, .long x.2.2.1, .long x.2.2.2.1, .long x.2.2.2.2])), (h1, .inl (dB, n1, .inl T))] := hD
  refine lv_aload_n hx hb dX1_update_7 rfl (lv_at hl 0 rfl) ?_
  refine va_get (D := D) (ci := 1) (v := .int 8) (C := RX3) (T := TX3) (N := 8) hx hb hts in_X3 hown hK hP 0 rfl rfl 1 (by decide) (hts _ q212) (fun _ h9 => h9) rfl dX1_update_8 ?_
  refine lv_aload_n hx hb dX1_update_11 rfl (lv_at hl 0 rfl) ?_
  refine va_get (D := D) (ci := 1) (v := .int (nI (n % 8))) (C := RX3) (T := TX3) (N := 8) hx hb hts in_X3 hown hK hP 0 rfl rfl 3 (by decide) (hts _ q224) (fun _ h9 => h9) rfl dX1_update_12 ?_
  refine lv_isub hx hb dX1_update_15 ?_
  refine nmTi (b := (nI (8 - n % 8))) (pk_sub (a := 8) (by omega)) ?_
  refine lv_istore (lv' := [(4, .int (nI (8 - n % 8))), (0, .ref hH), (1, .ref h1), (2, .int (nI f)), (3, .int (nI kc))]) hx hb dX1_update_16 hl (by decide) rfl (fun ls hl => ?_)
  refine lv_aload_n hx hb dX1_update_18 rfl (lv_at hl 1 rfl) ?_
  refine va_get (D := D) (ci := 1) (v := .ref qi) (C := RX3) (T := TX3) (N := 8) hx hb hts in_X3 hown hK hP 0 rfl rfl 5 (by decide) (hts _ q229) (fun _ h9 => h9) rfl dX1_update_19 ?_
  refine lv_iload_n hx hb dX1_update_22 rfl (lv_at hl 4 rfl) ?_
  refine lv_iload hx hb dX1_update_23 (lv_at hl 0 rfl) ?_
  refine cf_i [] [(hH, .inr (1, [.int 32, .int 8, .ref qb, .int (nI (n % 8)), .ref qa, .ref qi, .ref qp, .int 12])), (qb, .inl (dB, 8, .inl buf)), (qi, .inr (2, [.ref hH])), (qp, .inr (3, [.long x.1, .long x.2.1, .long x.2.2.1, .long x.2.2.2.1, .long x.2.2.2.2])), (h1, .inl (dB, n1, .inl T))] [] [0, 1, 2, 3, 4] rfl rfl (by decide) (by decide) hP hD hS hA (va_runF (hK.1 2 _ rfl).2 (As := [.int (nI kc), .int (nI (8 - n % 8))]) (rest := []) ⟨hx, hb, hml, hown, hts⟩ (m_within l D dB dN dL qi (nI kc) (nI (8 - n % 8)) _) (va_cwF 2 hts (lw_F q342 q352 q354 q13 q356) rfl rfl rfl hX.1.2.2.2.1.1 (by decide +kernel) ⟨Nat.le_of_ble_eq_true rfl, Nat.le_of_ble_eq_true rfl⟩) (pvV (ci := 2) (q0 := 2) (C := RX5) [] rfl (by decide) hP hK hD hS hA hX rfl rfl) rfl rfl hl.1 rfl (lv_room (Nat.le_of_ble_eq_true rfl)) dX1_update_25 ⟨Nat.le_of_ble_eq_true rfl, Nat.le_of_ble_eq_true rfl⟩) (fun r_6 u_4 H locs hw_5 hP hD hS => ?_)
  have hP : va_P D CL [(hH, .inr (1, [.int 32, .int 8, .ref qb, .int (nI (n % 8)), .ref qa, .ref qi, .ref qp, .int 12])), (qb, .inl (dB, 8, .inl buf)), (qi, .inr (2, [.ref hH])), (qp, .inr (3, [.long x.1, .long x.2.1, .long x.2.2.1, .long x.2.2.2.1, .long x.2.2.2.2])), (h1, .inl (dB, n1, .inl T))] H := hP
  have hD : va_D A [(hH, .inr (1, [.int 32, .int 8, .ref qb, .int (nI (n % 8)), .ref qa, .ref qi, .ref qp, .int 12])), (qb, .inl (dB, 8, .inl buf)), (qi, .inr (2, [.ref hH])), (qp, .inr (3, [.long x.1, .long x.2.1, .long x.2.2.1, .long x.2.2.2.1, .long x.2.2.2.2])), (h1, .inl (dB, n1, .inl T))] := hD
  refine nmTi (b := (if nI kc < nI (8 - n % 8) then 1 else 0)) hw_5 ?_
  refine lv_if_eq (tgt := 58) hx hb dX1_update_30 (by decide) (fun c_7 => ?_) (fun c_7 => ?_)
  · skip
    have hc : 8 - n % 8 ≤ kc := Nat.not_lt.mp (fun z => ite_0 c_7 (nI_lt z (by omega)))
    refine lv_aload_n hx hb dX1_update_58 rfl (lv_at hl 1 rfl) ?_
    refine va_get (D := D) (ci := 1) (v := .int (nI (n % 8))) (C := RX3) (T := TX3) (N := 8) hx hb hts in_X3 hown hK hP 0 rfl rfl 3 (by decide) (hts _ q224) (fun _ h9 => h9) rfl dX1_update_59 ?_
    refine lv_if_le (tgt := 99) hx hb dX1_update_62 (by decide) (fun c_8 => ?_) (fun c_8 => ?_)
    · skip
      have h0 : n % 8 = 0 := Nat.eq_zero_of_le_zero ((nI_leI (b := 0) (by omega) (by decide)).mp c_8)
      exact loop (n / 8) f kc x buf (nI (n % 8)) hR.1 (fun i hi => by rw [show 8 * (n / 8) + i = n + i by omega]; exact hT i hi) hf (by omega) _ _ _ (hP.sub [0, 1, 2, 3, 4] rfl) (hD.sub [0, 1, 2, 3, 4] (by decide) rfl) hS (lv_sub hl [1, 2, 3, 4] rfl)
    · skip
      refine lv_aload_n hx hb dX1_update_65 rfl (lv_at hl 2 rfl) ?_
      refine lv_iload_n hx hb dX1_update_66 rfl (lv_at hl 3 rfl) ?_
      refine lv_aload_n hx hb dX1_update_67 rfl (lv_at hl 1 rfl) ?_
      refine va_get (D := D) (ci := 1) (v := .ref qb) (C := RX3) (T := TX3) (N := 8) hx hb hts in_X3 hown hK hP 0 rfl rfl 2 (by decide) (hts _ q217) (fun _ h9 => h9) rfl dX1_update_68 ?_
      refine lv_aload_n hx hb dX1_update_71 rfl (lv_at hl 1 rfl) ?_
      refine va_get (D := D) (ci := 1) (v := .int (nI (n % 8))) (C := RX3) (T := TX3) (N := 8) hx hb hts in_X3 hown hK hP 0 rfl rfl 3 (by decide) (hts _ q224) (fun _ h9 => h9) rfl dX1_update_72 ?_
      refine lv_iload hx hb dX1_update_75 (lv_at hl 0 rfl) ?_
      refine cp_ (i := f) (j := (n % 8)) (k := (8 - n % 8)) hx hb (by rw [hml]; exact hl.1.symm) hown (hts _ q357) (hts _ q359) (hts _ q358) (hts _ q27) hK hP hD hS 4 1 0 rfl rfl rfl (by omega) (by omega) (by omega) (by omega) (by omega) hfit (Nat.le_of_ble_eq_true rfl) (Nat.le_of_ble_eq_true rfl) dX1_update_77 (fun H locs hP hD hS => ?_)
      have hP : va_P D CL [(hH, .inr (1, [.int 32, .int 8, .ref qb, .int (nI (n % 8)), .ref qa, .ref qi, .ref qp, .int 12])), (qb, .inl (dB, 8, .inl (va_cpy T buf f (n % 8) (8 - n % 8)))), (qi, .inr (2, [.ref hH])), (qp, .inr (3, [.long x.1, .long x.2.1, .long x.2.2.1, .long x.2.2.2.1, .long x.2.2.2.2])), (h1, .inl (dB, n1, .inl T))] H := hP
      have hD : va_D A [(hH, .inr (1, [.int 32, .int 8, .ref qb, .int (nI (n % 8)), .ref qa, .ref qi, .ref qp, .int 12])), (qb, .inl (dB, 8, .inl (va_cpy T buf f (n % 8) (8 - n % 8)))), (qi, .inr (2, [.ref hH])), (qp, .inr (3, [.long x.1, .long x.2.1, .long x.2.2.1, .long x.2.2.2.1, .long x.2.2.2.2])), (h1, .inl (dB, n1, .inl T))] := hD
      refine lv_iload_n hx hb dX1_update_80 rfl (lv_at hl 3 rfl) ?_
      refine lv_iload hx hb dX1_update_81 (lv_at hl 0 rfl) ?_
      refine lv_iadd hx hb dX1_update_83 ?_
      refine nmTi (b := (nI (f + (8 - n % 8)))) (nI_add _ _) ?_
      refine lv_istore_n (lv' := [(2, .int (nI (f + (8 - n % 8)))), (4, .int (nI (8 - n % 8))), (0, .ref hH), (1, .ref h1), (3, .int (nI kc))]) hx hb dX1_update_84 rfl hl (by decide) rfl (fun ls hl => ?_)
      refine lv_iload_n hx hb dX1_update_85 rfl (lv_at hl 4 rfl) ?_
      refine lv_iload hx hb dX1_update_86 (lv_at hl 1 rfl) ?_
      refine lv_isub hx hb dX1_update_88 ?_
      refine nmTi (b := (nI (kc - (8 - n % 8)))) (pk_sub hc) ?_
      refine lv_istore_n (lv' := [(3, .int (nI (kc - (8 - n % 8)))), (2, .int (nI (f + (8 - n % 8)))), (4, .int (nI (8 - n % 8))), (0, .ref hH), (1, .ref h1)]) hx hb dX1_update_89 rfl hl (by decide) rfl (fun ls hl => ?_)
      refine lv_aload_n hx hb dX1_update_90 rfl (lv_at hl 3 rfl) ?_
      refine lv_aload_n hx hb dX1_update_91 rfl (lv_at hl 3 rfl) ?_
      refine va_get (D := D) (ci := 1) (v := .ref qb) (C := RX3) (T := TX3) (N := 8) hx hb hts in_X3 hown hK hP 0 rfl rfl 2 (by decide) (hts _ q217) (fun _ h9 => h9) rfl dX1_update_92 ?_
      refine lv_iconst (v := 0) hx hb dX1_update_95 (by decide) ?_
      refine cl_v [(hH, .inr (1, [.int 32, .int 8, .ref qb, .int (nI (n % 8)), .ref qa, .ref qi, .ref qp, .int 12])), (qp, .inr (3, [.long x.1, .long x.2.1, .long x.2.2.1, .long x.2.2.2.1, .long x.2.2.2.2])), (qb, .inl (dB, 8, .inl (va_cpy T buf f (n % 8) (8 - n % 8))))] [(qi, .inr (2, [.ref hH])), (h1, .inl (dB, n1, .inl T))] [0, 3, 1] [2, 4] rfl rfl (by decide) (by decide) hP hD hS hA (va_runU (As := [.ref qb, .int 0]) (rest := []) ⟨hx, hb, hml, hown, hts⟩ (m_proc l D dB dN dL hH qp qb 8 0 (va_cpy T buf f (n % 8) (8 - n % 8)) (.ref qb) (.ref qa) (.ref qi) (nI (n % 8)) x _ (by omega) (by decide)) (va_cwA (owner := "BufferBaseDigest") 2 hts (lw_U q360 q362 q363 q364 q9 q365) rfl rfl rfl hX.1.2.1.1 (by decide +kernel) ⟨Nat.le_of_ble_eq_true rfl, Nat.le_of_ble_eq_true rfl⟩) (pvV (ci := 1) (q0 := 0) (C := RX3) [0, 3, 1] rfl (by decide) hP hK hD hS hA hX rfl rfl) rfl rfl hl.1 rfl (lv_room (Nat.le_of_ble_eq_true rfl)) dX1_update_96 ⟨Nat.le_of_ble_eq_true rfl, Nat.le_of_ble_eq_true rfl⟩) (fun u_9 H locs hw_10 hP hD hS => ?_)
      have hP : va_P D CL [(qi, .inr (2, [.ref hH])), (h1, .inl (dB, n1, .inl T)), (hH, .inr (1, [.int 32, .int 8, .ref qb, .int (nI (n % 8)), .ref qa, .ref qi, .ref qp, .int 12])), (qp, .inr (3, [.long u_9.1, .long u_9.2.1, .long u_9.2.2.1, .long u_9.2.2.2.1, .long u_9.2.2.2.2])), (qb, .inl (dB, 8, .inl (va_cpy T buf f (n % 8) (8 - n % 8))))] H := hP
      have hD : va_D A [(qi, .inr (2, [.ref hH])), (h1, .inl (dB, n1, .inl T)), (hH, .inr (1, [.int 32, .int 8, .ref qb, .int (nI (n % 8)), .ref qa, .ref qi, .ref qp, .int 12])), (qp, .inr (3, [.long u_9.1, .long u_9.2.1, .long u_9.2.2.1, .long u_9.2.2.2.1, .long u_9.2.2.2.2])), (qb, .inl (dB, 8, .inl (va_cpy T buf f (n % 8) (8 - n % 8))))] := hD
      exact loop (n / 8 + 1) (f + (8 - n % 8)) (kc - (8 - n % 8)) u_9 (va_cpy T buf f (n % 8) (8 - n % 8)) (nI (n % 8)) ((show u_9 = _ from hw_10).trans (Rp_fill hR (fun i hi => hT i (by omega)))) (fun i hi => by rw [show 8 * (n / 8 + 1) + i = n + (8 - n % 8 + i) by omega, hT _ (by omega), Nat.add_assoc]) (by omega) (by omega) _ _ _ (hP.sub [2, 4, 0, 3, 1] rfl) (hD.sub [2, 4, 0, 3, 1] (by decide) rfl) hS (lv_sub hl [3, 4, 1, 0] rfl)
  · skip
    have hc : kc < 8 - n % 8 := (nI_ltI (by omega) (by omega)).mp (ite_1 c_7)
    refine lv_aload_n hx hb dX1_update_33 rfl (lv_at hl 2 rfl) ?_
    refine lv_iload_n hx hb dX1_update_34 rfl (lv_at hl 3 rfl) ?_
    refine lv_aload_n hx hb dX1_update_35 rfl (lv_at hl 1 rfl) ?_
    refine va_get (D := D) (ci := 1) (v := .ref qb) (C := RX3) (T := TX3) (N := 8) hx hb hts in_X3 hown hK hP 0 rfl rfl 2 (by decide) (hts _ q217) (fun _ h9 => h9) rfl dX1_update_36 ?_
    refine lv_aload_n hx hb dX1_update_39 rfl (lv_at hl 1 rfl) ?_
    refine va_get (D := D) (ci := 1) (v := .int (nI (n % 8))) (C := RX3) (T := TX3) (N := 8) hx hb hts in_X3 hown hK hP 0 rfl rfl 3 (by decide) (hts _ q224) (fun _ h9 => h9) rfl dX1_update_40 ?_
    refine lv_iload_n hx hb dX1_update_43 rfl (lv_at hl 4 rfl) ?_
    refine cp_ (i := f) (j := (n % 8)) (k := kc) hx hb (by rw [hml]; exact hl.1.symm) hown (hts _ q357) (hts _ q359) (hts _ q358) (hts _ q27) hK hP hD hS 4 1 0 rfl rfl rfl (by omega) (by omega) (by omega) (by omega) (by omega) hfit (Nat.le_of_ble_eq_true rfl) (Nat.le_of_ble_eq_true rfl) dX1_update_44 (fun H locs hP hD hS => ?_)
    have hP : va_P D CL [(hH, .inr (1, [.int 32, .int 8, .ref qb, .int (nI (n % 8)), .ref qa, .ref qi, .ref qp, .int 12])), (qb, .inl (dB, 8, .inl (va_cpy T buf f (n % 8) kc))), (qi, .inr (2, [.ref hH])), (qp, .inr (3, [.long x.1, .long x.2.1, .long x.2.2.1, .long x.2.2.2.1, .long x.2.2.2.2])), (h1, .inl (dB, n1, .inl T))] H := hP
    have hD : va_D A [(hH, .inr (1, [.int 32, .int 8, .ref qb, .int (nI (n % 8)), .ref qa, .ref qi, .ref qp, .int 12])), (qb, .inl (dB, 8, .inl (va_cpy T buf f (n % 8) kc))), (qi, .inr (2, [.ref hH])), (qp, .inr (3, [.long x.1, .long x.2.1, .long x.2.2.1, .long x.2.2.2.1, .long x.2.2.2.2])), (h1, .inl (dB, n1, .inl T))] := hD
    refine lv_aload_n hx hb dX1_update_47 rfl (lv_at hl 1 rfl) ?_
    refine lv_dup hx hb dX1_update_48 rfl ?_
    refine va_get (D := D) (ci := 1) (v := .int (nI (n % 8))) (C := RX3) (T := TX3) (N := 8) hx hb hts in_X3 hown hK hP 0 rfl rfl 3 (by decide) (hts _ q224) (fun _ h9 => h9) rfl dX1_update_49 ?_
    refine lv_iload_n hx hb dX1_update_52 rfl (lv_at hl 4 rfl) ?_
    refine lv_iadd hx hb dX1_update_53 ?_
    refine va_put (D := D) (ci := 1) (v := .int ((nI (n % 8)) + (nI kc))) (ty := .int) (C := RX3) (T := TX3) (N := 8) hx hb hts in_X3 tyX3 tyX3_ok nmX3 hown hK hP hD hS 0 rfl rfl 3 (by decide) (hts _ q224) (fun _ h9 => h9) rfl (by decide +kernel) rfl rfl (Nat.le_of_ble_eq_true rfl) dX1_update_54 (fun H locs hP hD hS => ?_)
    have hP : va_P D CL [(hH, .inr (1, [.int 32, .int 8, .ref qb, .int ((nI (n % 8)) + (nI kc)), .ref qa, .ref qi, .ref qp, .int 12])), (qb, .inl (dB, 8, .inl (va_cpy T buf f (n % 8) kc))), (qi, .inr (2, [.ref hH])), (qp, .inr (3, [.long x.1, .long x.2.1, .long x.2.2.1, .long x.2.2.2.1, .long x.2.2.2.2])), (h1, .inl (dB, n1, .inl T))] H := hP
    have hD : va_D A [(hH, .inr (1, [.int 32, .int 8, .ref qb, .int ((nI (n % 8)) + (nI kc)), .ref qa, .ref qi, .ref qp, .int 12])), (qb, .inl (dB, 8, .inl (va_cpy T buf f (n % 8) kc))), (qi, .inr (2, [.ref hH])), (qp, .inr (3, [.long x.1, .long x.2.1, .long x.2.2.1, .long x.2.2.2.1, .long x.2.2.2.2])), (h1, .inl (dB, n1, .inl T))] := hD
    exact rt_v hx hb hr hlocks hP hK hD hS dX1_update_57 (x, va_cpy T buf f (n % 8) kc, nI (n % 8) + nI kc) [0, 1, 2, 3, 4] rfl (by decide) ⟨by rw [nI_add, show (n + kc) % 8 = n % 8 + kc by omega], Rp_cpy hR hT (by omega)⟩

set_option maxHeartbeats 4000000 in
set_option maxRecDepth 100000 in
/-- AsconBaseDigest.padAndAbsorb -/
theorem m_padA (l : Launch) (D : va_G) (dB dN dL : ClassId) (hH qb qa qi qp : Nat) (q : Nat) (x : P5) (buf : Nat → Int32) (sz : Nat) (hq : q < 8) : Cv_ l yX2_padAndAbsorb (ws_ yX2_padAndAbsorb cX2_padAndAbsorb 1 none) (rm_ 4 0 0 103) D dB dN dL [.ref hH] [(hH, .inr (1, [.int 32, .int 8, .ref qb, .int (nI q), .ref qa, .ref qi, .ref qp, .int 12])), (qb, .inl (dB, 8, .inl buf)), (qp, .inr (3, [.long x.1, .long x.2.1, .long x.2.2.1, .long x.2.2.2.1, .long x.2.2.2.2]))] sz (S := P5) (fun u => u = ab x (ld buf 0 q ^^^ ((1 : Int64) <<< ((nI (8 * q)).toInt64 &&& 63)))) (fun u => [(hH, .inr (1, [.int 32, .int 8, .ref qb, .int (nI q), .ref qa, .ref qi, .ref qp, .int 12])), (qb, .inl (dB, 8, .inl buf)), (qp, .inr (3, [.long u.1, .long u.2.1, .long u.2.2.1, .long u.2.2.2.1, .long u.2.2.2.2]))]) := by
  refine ct_of (cc := cX2_padAndAbsorb) (maxL := 1) (ret := none) (by decide) rfl (Nat.le_of_ble_eq_true rfl) (fun p e s m below meth c A ls hx hb hml hr hlocks hts hown hin hP hK hD hA hX hS hl => ?_)
  have hown : s.vm.findClass RX2 = some m.cls := hown
  have hl : lv_has ls 1 [(0, .ref hH)] := hl
  refine lv_aload_n hx hb dX2_padAndAbsorb_0 rfl (lv_at hl 0 rfl) ?_
  refine va_get (D := D) (ci := 1) (v := .ref qp) (C := RX3) (T := TX3) (N := 8) hx hb hts in_X3 hown hK hP 0 rfl rfl 6 (by decide) (hts _ q205) (fun _ h9 => h9) rfl dX2_padAndAbsorb_1 ?_
  refine lv_dup hx hb dX2_padAndAbsorb_4 rfl ?_
  refine va_get (D := D) (ci := 3) (v := .long x.1) (C := RX8) (T := TX8) (N := 5) hx hb hts in_X8 hown hK hP 2 rfl rfl 0 (by decide) (hts _ q162) (fun _ h9 => h9) rfl dX2_padAndAbsorb_5 ?_
  refine lv_aload_n hx hb dX2_padAndAbsorb_8 rfl (lv_at hl 0 rfl) ?_
  refine lv_aload_n hx hb dX2_padAndAbsorb_9 rfl (lv_at hl 0 rfl) ?_
  refine va_get (D := D) (ci := 1) (v := .ref qb) (C := RX3) (T := TX3) (N := 8) hx hb hts in_X3 hown hK hP 0 rfl rfl 2 (by decide) (hts _ q220) (fun x9 h9 => u_same (hts _ q221) x9 h9) rfl dX2_padAndAbsorb_10 ?_
  refine lv_iconst (v := 0) hx hb dX2_padAndAbsorb_13 (by decide) ?_
  refine lv_aload_n hx hb dX2_padAndAbsorb_14 rfl (lv_at hl 0 rfl) ?_
  refine va_get (D := D) (ci := 1) (v := .int (nI q)) (C := RX3) (T := TX3) (N := 8) hx hb hts in_X3 hown hK hP 0 rfl rfl 3 (by decide) (hts _ q225) (fun x9 h9 => u_same (hts _ q226) x9 h9) rfl dX2_padAndAbsorb_15 ?_
  refine cl_l [(qb, .inl (dB, 8, .inl buf))] [(hH, .inr (1, [.int 32, .int 8, .ref qb, .int (nI q), .ref qa, .ref qi, .ref qp, .int 12])), (qp, .inr (3, [.long x.1, .long x.2.1, .long x.2.2.1, .long x.2.2.2.1, .long x.2.2.2.2]))] [1] [0, 2] rfl rfl (by decide) (by decide) hP hD hS hA (va_runU (As := [.ref qb, .int 0, .int (nI q)]) (rest := [.long x.1, .ref qp]) ⟨hx, hb, hml, hown, hts⟩ (m_load3 l D dB dN dL hH qb 8 0 q buf _ (by omega) (by omega) (by decide)) (va_cwA (owner := "AsconBaseDigest") 3 hts (lw_U q495 q497 q498 q499 q10 q500) rfl rfl rfl hX.1.2.1.2.2.2.2.1 (by decide +kernel) ⟨Nat.le_of_ble_eq_true rfl, Nat.le_of_ble_eq_true rfl⟩) (pvV (ci := 1) (q0 := 0) (C := RX3) [1] rfl (by decide) hP hK hD hS hA hX rfl rfl) rfl rfl hl.1 rfl (lv_room (Nat.le_of_ble_eq_true rfl)) dX2_padAndAbsorb_18 ⟨Nat.le_of_ble_eq_true rfl, Nat.le_of_ble_eq_true rfl⟩) (fun r_3 u_1 H locs hw_2 hP hD hS => ?_)
  have hP : va_P D CL [(hH, .inr (1, [.int 32, .int 8, .ref qb, .int (nI q), .ref qa, .ref qi, .ref qp, .int 12])), (qp, .inr (3, [.long x.1, .long x.2.1, .long x.2.2.1, .long x.2.2.2.1, .long x.2.2.2.2])), (qb, .inl (dB, 8, .inl buf))] H := hP
  have hD : va_D A [(hH, .inr (1, [.int 32, .int 8, .ref qb, .int (nI q), .ref qa, .ref qi, .ref qp, .int 12])), (qp, .inr (3, [.long x.1, .long x.2.1, .long x.2.2.1, .long x.2.2.2.1, .long x.2.2.2.2])), (qb, .inl (dB, 8, .inl buf))] := hD
  refine nmTl (b := (ld buf 0 q)) hw_2 ?_
  refine lv_aload_n hx hb dX2_padAndAbsorb_21 rfl (lv_at hl 0 rfl) ?_
  refine lv_aload_n hx hb dX2_padAndAbsorb_22 rfl (lv_at hl 0 rfl) ?_
  refine va_get (D := D) (ci := 1) (v := .int (nI q)) (C := RX3) (T := TX3) (N := 8) hx hb hts in_X3 hown hK hP 0 rfl rfl 3 (by decide) (hts _ q225) (fun x9 h9 => u_same (hts _ q226) x9 h9) rfl dX2_padAndAbsorb_23 ?_
  refine cl_l [] [(hH, .inr (1, [.int 32, .int 8, .ref qb, .int (nI q), .ref qa, .ref qi, .ref qp, .int 12])), (qp, .inr (3, [.long x.1, .long x.2.1, .long x.2.2.1, .long x.2.2.2.1, .long x.2.2.2.2])), (qb, .inl (dB, 8, .inl buf))] [] [0, 1, 2] rfl rfl (by decide) (by decide) hP hD hS hA (va_runU (As := [.int (nI q)]) (rest := [.long (ld buf 0 q), .long x.1, .ref qp]) ⟨hx, hb, hml, hown, hts⟩ (m_pad l D dB dN dL hH q _ hq) (va_cwA (owner := "AsconBaseDigest") 1 hts (lw_U q505 q507 q508 q509 q10 q510) rfl rfl rfl hX.1.2.1.2.2.2.2.2.1 (by decide +kernel) ⟨Nat.le_of_ble_eq_true rfl, Nat.le_of_ble_eq_true rfl⟩) (pvV (ci := 1) (q0 := 0) (C := RX3) [] rfl (by decide) hP hK hD hS hA hX rfl rfl) rfl rfl hl.1 rfl (lv_room (Nat.le_of_ble_eq_true rfl)) dX2_padAndAbsorb_26 ⟨Nat.le_of_ble_eq_true rfl, Nat.le_of_ble_eq_true rfl⟩) (fun r_6 u_4 H locs hw_5 hP hD hS => ?_)
  have hP : va_P D CL [(hH, .inr (1, [.int 32, .int 8, .ref qb, .int (nI q), .ref qa, .ref qi, .ref qp, .int 12])), (qp, .inr (3, [.long x.1, .long x.2.1, .long x.2.2.1, .long x.2.2.2.1, .long x.2.2.2.2])), (qb, .inl (dB, 8, .inl buf))] H := hP
  have hD : va_D A [(hH, .inr (1, [.int 32, .int 8, .ref qb, .int (nI q), .ref qa, .ref qi, .ref qp, .int 12])), (qp, .inr (3, [.long x.1, .long x.2.1, .long x.2.2.1, .long x.2.2.2.1, .long x.2.2.2.2])), (qb, .inl (dB, 8, .inl buf))] := hD
  refine nmTl (b := ((1 : Int64) <<< ((nI (8 * q)).toInt64 &&& 63))) hw_5 ?_
  refine lv_lxor hx hb dX2_padAndAbsorb_29 ?_
  refine lv_lxor hx hb dX2_padAndAbsorb_30 ?_
  refine va_put (D := D) (ci := 3) (v := .long (x.1 ^^^ ((ld buf 0 q) ^^^ ((1 : Int64) <<< ((nI (8 * q)).toInt64 &&& 63))))) (ty := .long) (C := RX8) (T := TX8) (N := 5) hx hb hts in_X8 tyX8 tyX8_ok nmX8 hown hK hP hD hS 1 rfl rfl 0 (by decide) (hts _ q162) (fun _ h9 => h9) rfl (by decide +kernel) rfl rfl (Nat.le_of_ble_eq_true rfl) dX2_padAndAbsorb_31 (fun H locs hP hD hS => ?_)
  have hP : va_P D CL [(hH, .inr (1, [.int 32, .int 8, .ref qb, .int (nI q), .ref qa, .ref qi, .ref qp, .int 12])), (qp, .inr (3, [.long (x.1 ^^^ ((ld buf 0 q) ^^^ ((1 : Int64) <<< ((nI (8 * q)).toInt64 &&& 63)))), .long x.2.1, .long x.2.2.1, .long x.2.2.2.1, .long x.2.2.2.2])), (qb, .inl (dB, 8, .inl buf))] H := hP
  have hD : va_D A [(hH, .inr (1, [.int 32, .int 8, .ref qb, .int (nI q), .ref qa, .ref qi, .ref qp, .int 12])), (qp, .inr (3, [.long (x.1 ^^^ ((ld buf 0 q) ^^^ ((1 : Int64) <<< ((nI (8 * q)).toInt64 &&& 63)))), .long x.2.1, .long x.2.2.1, .long x.2.2.2.1, .long x.2.2.2.2])), (qb, .inl (dB, 8, .inl buf))] := hD
  refine lv_aload_n hx hb dX2_padAndAbsorb_34 rfl (lv_at hl 0 rfl) ?_
  refine va_get (D := D) (ci := 1) (v := .ref qp) (C := RX3) (T := TX3) (N := 8) hx hb hts in_X3 hown hK hP 0 rfl rfl 6 (by decide) (hts _ q205) (fun _ h9 => h9) rfl dX2_padAndAbsorb_35 ?_
  refine lv_bipush (v := 12) hx hb dX2_padAndAbsorb_38 (by decide) ?_
  refine cl_v [(qp, .inr (3, [.long (x.1 ^^^ ((ld buf 0 q) ^^^ ((1 : Int64) <<< ((nI (8 * q)).toInt64 &&& 63)))), .long x.2.1, .long x.2.2.1, .long x.2.2.2.1, .long x.2.2.2.2]))] [(hH, .inr (1, [.int 32, .int 8, .ref qb, .int (nI q), .ref qa, .ref qi, .ref qp, .int 12])), (qb, .inl (dB, 8, .inl buf))] [1] [0, 2] rfl rfl (by decide) (by decide) hP hD hS hA (va_runV (As := [.int 12]) (rest := []) ⟨hx, hb, hml, hown, hts⟩ (m_p l D dB dN dL qp (x.1 ^^^ (ld buf 0 q ^^^ ((1 : Int64) <<< ((nI (8 * q)).toInt64 &&& 63))), x.2) _) (cwV 1 hts (lw_V q379 q380 q381 q21 q382) rfl rfl rfl (by decide +kernel) ⟨Nat.le_of_ble_eq_true rfl, Nat.le_of_ble_eq_true rfl⟩) (pvV (ci := 3) (q0 := 1) (C := RX8) [1] rfl (by decide) hP hK hD hS hA hX rfl rfl) rfl rfl hl.1 rfl (lv_room (Nat.le_of_ble_eq_true rfl)) dX2_padAndAbsorb_40 ⟨Nat.le_of_ble_eq_true rfl, Nat.le_of_ble_eq_true rfl⟩) (fun u_7 H locs hw_8 hP hD hS => ?_)
  have hP : va_P D CL [(hH, .inr (1, [.int 32, .int 8, .ref qb, .int (nI q), .ref qa, .ref qi, .ref qp, .int 12])), (qb, .inl (dB, 8, .inl buf)), (qp, .inr (3, [.long u_7.1, .long u_7.2.1, .long u_7.2.2.1, .long u_7.2.2.2.1, .long u_7.2.2.2.2]))] H := hP
  have hD : va_D A [(hH, .inr (1, [.int 32, .int 8, .ref qb, .int (nI q), .ref qa, .ref qi, .ref qp, .int 12])), (qb, .inl (dB, 8, .inl buf)), (qp, .inr (3, [.long u_7.1, .long u_7.2.1, .long u_7.2.2.1, .long u_7.2.2.2.1, .long u_7.2.2.2.2]))] := hD
  exact rt_v hx hb hr hlocks hP hK hD hS dX2_padAndAbsorb_43 u_7 [0, 1, 2] rfl (by decide) hw_8

set_option maxHeartbeats 4000000 in
set_option maxRecDepth 100000 in
/-- AsconBaseDigest.squeeze(out, 0, 32) -/
theorem m_sq (l : Launch) (D : va_G) (dB dN dL : ClassId) (hH qp h1 n1 : Nat) (vb al vi : Value) (pos : Int32) (f : Nat → Int32) (x : P5) (sz : Nat) (h32 : 32 ≤ n1) (hn : n1 < 2 ^ 31) : Cv_ l yX2_squeeze (ws_ yX2_squeeze cX2_squeeze 4 none) (rm_ 4 0 0 103) D dB dN dL [.ref hH, .ref h1, .int 0, .int 32] [(hH, .inr (1, [.int 32, .int 8, vb, .int pos, al, vi, .ref qp, .int 12])), (qp, .inr (3, [.long x.1, .long x.2.1, .long x.2.2.1, .long x.2.2.2.1, .long x.2.2.2.2])), (h1, .inl (dB, n1, .inl f))] sz (S := P5) (fun _ => True) (fun u => [(hH, .inr (1, [.int 32, .int 8, vb, .int pos, al, vi, .ref qp, .int 12])), (qp, .inr (3, [.long u.1, .long u.2.1, .long u.2.2.1, .long u.2.2.2.1, .long u.2.2.2.2])), (h1, .inl (dB, n1, .inl (dig x f)))]) := by
  refine ct_of (cc := cX2_squeeze) (maxL := 4) (ret := none) (by decide) rfl (Nat.le_of_ble_eq_true rfl) (fun p e s m below meth c A ls hx hb hml hr hlocks hts hown hin hP hK hD hA hX hS hl => ?_)
  have hown : s.vm.findClass RX2 = some m.cls := hown
  have hl : lv_has ls 4 [(0, .ref hH), (1, .ref h1), (2, .int 0), (3, .int 32)] := hl
  refine lv_iload_n hx hb dX2_squeeze_0 rfl (lv_at hl 3 rfl) ?_
  refine lv_aload_n hx hb dX2_squeeze_1 rfl (lv_at hl 0 rfl) ?_
  refine va_get (D := D) (ci := 1) (v := .int 8) (C := RX3) (T := TX3) (N := 8) hx hb hts in_X3 hown hK hP 0 rfl rfl 1 (by decide) (hts _ q215) (fun x9 h9 => u_same (hts _ q216) x9 h9) rfl dX2_squeeze_2 ?_
  refine lv_icmp_le (tgt := 49) hx hb dX2_squeeze_5 (by decide) (fun c_1 => absurd c_1 (by decide)) (fun _ => ?_)
  refine lv_aload_n hx hb dX2_squeeze_8 rfl (lv_at hl 0 rfl) ?_
  refine lv_aload_n hx hb dX2_squeeze_9 rfl (lv_at hl 0 rfl) ?_
  refine va_get (D := D) (ci := 1) (v := .ref qp) (C := RX3) (T := TX3) (N := 8) hx hb hts in_X3 hown hK hP 0 rfl rfl 6 (by decide) (hts _ q205) (fun _ h9 => h9) rfl dX2_squeeze_10 ?_
  refine va_get (D := D) (ci := 3) (v := .long x.1) (C := RX8) (T := TX8) (N := 5) hx hb hts in_X8 hown hK hP 1 rfl rfl 0 (by decide) (hts _ q162) (fun _ h9 => h9) rfl dX2_squeeze_13 ?_
  refine lv_aload_n hx hb dX2_squeeze_16 rfl (lv_at hl 1 rfl) ?_
  refine lv_iload_n hx hb dX2_squeeze_17 rfl (lv_at hl 2 rfl) ?_
  refine cl_v [(h1, .inl (dB, n1, .inl f))] [(hH, .inr (1, [.int 32, .int 8, vb, .int pos, al, vi, .ref qp, .int 12])), (qp, .inr (3, [.long x.1, .long x.2.1, .long x.2.2.1, .long x.2.2.2.1, .long x.2.2.2.2]))] [2] [0, 1] rfl rfl (by decide) (by decide) hP hD hS hA (va_runU (As := [.long x.1, .ref h1, .int 0]) (rest := []) ⟨hx, hb, hml, hown, hts⟩ (m_setB l D dB dN dL hH h1 n1 0 (f) (x).1 _ (by omega) hn) (va_cwA (owner := "AsconBaseDigest") 3 hts (lw_U q516 q518 q519 q520 q10 q521) rfl rfl rfl hX.1.2.1.2.2.2.2.2.2.1 (by decide +kernel) ⟨Nat.le_of_ble_eq_true rfl, Nat.le_of_ble_eq_true rfl⟩) (pvV (ci := 1) (q0 := 0) (C := RX3) [2] rfl (by decide) hP hK hD hS hA hX rfl rfl) rfl rfl hl.1 rfl (lv_room (Nat.le_of_ble_eq_true rfl)) dX2_squeeze_18 ⟨Nat.le_of_ble_eq_true rfl, Nat.le_of_ble_eq_true rfl⟩) (fun u_2 H locs hw_3 hP hD hS => ?_)
  have hP : va_P D CL [(hH, .inr (1, [.int 32, .int 8, vb, .int pos, al, vi, .ref qp, .int 12])), (qp, .inr (3, [.long x.1, .long x.2.1, .long x.2.2.1, .long x.2.2.2.1, .long x.2.2.2.2])), (h1, .inl (dB, n1, .inl (pw (f) 0 (x).1 8)))] H := hP
  have hD : va_D A [(hH, .inr (1, [.int 32, .int 8, vb, .int pos, al, vi, .ref qp, .int 12])), (qp, .inr (3, [.long x.1, .long x.2.1, .long x.2.2.1, .long x.2.2.2.1, .long x.2.2.2.2])), (h1, .inl (dB, n1, .inl (pw (f) 0 (x).1 8)))] := hD
  refine lv_aload_n hx hb dX2_squeeze_21 rfl (lv_at hl 0 rfl) ?_
  refine va_get (D := D) (ci := 1) (v := .ref qp) (C := RX3) (T := TX3) (N := 8) hx hb hts in_X3 hown hK hP 0 rfl rfl 6 (by decide) (hts _ q205) (fun _ h9 => h9) rfl dX2_squeeze_22 ?_
  refine lv_aload_n hx hb dX2_squeeze_25 rfl (lv_at hl 0 rfl) ?_
  refine va_get (D := D) (ci := 1) (v := .int 12) (C := RX3) (T := TX3) (N := 8) hx hb hts in_X3 hown hK hP 0 rfl rfl 7 (by decide) (hts _ q208) (fun _ h9 => h9) rfl dX2_squeeze_26 ?_
  refine cl_v [(qp, .inr (3, [.long x.1, .long x.2.1, .long x.2.2.1, .long x.2.2.2.1, .long x.2.2.2.2]))] [(hH, .inr (1, [.int 32, .int 8, vb, .int pos, al, vi, .ref qp, .int 12])), (h1, .inl (dB, n1, .inl (pw (f) 0 (x).1 8)))] [1] [0, 2] rfl rfl (by decide) (by decide) hP hD hS hA (va_runV (As := [.int 12]) (rest := []) ⟨hx, hb, hml, hown, hts⟩ (m_p l D dB dN dL qp (x) _) (cwV 1 hts (lw_V q379 q380 q381 q21 q382) rfl rfl rfl (by decide +kernel) ⟨Nat.le_of_ble_eq_true rfl, Nat.le_of_ble_eq_true rfl⟩) (pvV (ci := 3) (q0 := 1) (C := RX8) [1] rfl (by decide) hP hK hD hS hA hX rfl rfl) rfl rfl hl.1 rfl (lv_room (Nat.le_of_ble_eq_true rfl)) dX2_squeeze_29 ⟨Nat.le_of_ble_eq_true rfl, Nat.le_of_ble_eq_true rfl⟩) (fun u_5 H locs hw_6 hP hD hS => ?_)
  have hP : va_P D CL [(hH, .inr (1, [.int 32, .int 8, vb, .int pos, al, vi, .ref qp, .int 12])), (h1, .inl (dB, n1, .inl (pw (f) 0 (x).1 8))), (qp, .inr (3, [.long u_5.1, .long u_5.2.1, .long u_5.2.2.1, .long u_5.2.2.2.1, .long u_5.2.2.2.2]))] H := hP
  have hD : va_D A [(hH, .inr (1, [.int 32, .int 8, vb, .int pos, al, vi, .ref qp, .int 12])), (h1, .inl (dB, n1, .inl (pw (f) 0 (x).1 8))), (qp, .inr (3, [.long u_5.1, .long u_5.2.1, .long u_5.2.2.1, .long u_5.2.2.2.1, .long u_5.2.2.2.2]))] := hD
  have hw_6 : u_5 = pm (x) := hw_6
  subst hw_6
  have hP : va_P D CL [(hH, .inr (1, [.int 32, .int 8, vb, .int pos, al, vi, .ref qp, .int 12])), (h1, .inl (dB, n1, .inl (pw (f) 0 (x).1 8))), (qp, .inr (3, [.long ((pm x).1), .long ((pm x).2.1), .long ((pm x).2.2.1), .long ((pm x).2.2.2.1), .long ((pm x).2.2.2.2)]))] H := hP
  have hD : va_D A [(hH, .inr (1, [.int 32, .int 8, vb, .int pos, al, vi, .ref qp, .int 12])), (h1, .inl (dB, n1, .inl (pw (f) 0 (x).1 8))), (qp, .inr (3, [.long ((pm x).1), .long ((pm x).2.1), .long ((pm x).2.2.1), .long ((pm x).2.2.2.1), .long ((pm x).2.2.2.2)]))] := hD
  refine lv_iload_n hx hb dX2_squeeze_32 rfl (lv_at hl 2 rfl) ?_
  refine lv_aload_n hx hb dX2_squeeze_33 rfl (lv_at hl 0 rfl) ?_
  refine va_get (D := D) (ci := 1) (v := .int 8) (C := RX3) (T := TX3) (N := 8) hx hb hts in_X3 hown hK hP 0 rfl rfl 1 (by decide) (hts _ q215) (fun x9 h9 => u_same (hts _ q216) x9 h9) rfl dX2_squeeze_34 ?_
  refine lv_iadd hx hb dX2_squeeze_37 ?_
  refine nmTi (b := 8) (by decide) ?_
  refine lv_istore_n (lv' := [(2, .int 8), (0, .ref hH), (1, .ref h1), (3, .int 32)]) hx hb dX2_squeeze_38 rfl hl (by decide) rfl (fun ls hl => ?_)
  refine lv_iload_n hx hb dX2_squeeze_39 rfl (lv_at hl 3 rfl) ?_
  refine lv_aload_n hx hb dX2_squeeze_40 rfl (lv_at hl 1 rfl) ?_
  refine va_get (D := D) (ci := 1) (v := .int 8) (C := RX3) (T := TX3) (N := 8) hx hb hts in_X3 hown hK hP 0 rfl rfl 1 (by decide) (hts _ q215) (fun x9 h9 => u_same (hts _ q216) x9 h9) rfl dX2_squeeze_41 ?_
  refine lv_isub hx hb dX2_squeeze_44 ?_
  refine nmTi (b := 24) (by decide) ?_
  refine lv_istore_n (lv' := [(3, .int 24), (2, .int 8), (0, .ref hH), (1, .ref h1)]) hx hb dX2_squeeze_45 rfl hl (by decide) rfl (fun ls hl => ?_)
  refine lv_goto (tgt := 0) hx hb dX2_squeeze_46 (by decide) ?_
  refine lv_iload_n hx hb dX2_squeeze_0 rfl (lv_at hl 0 rfl) ?_
  refine lv_aload_n hx hb dX2_squeeze_1 rfl (lv_at hl 2 rfl) ?_
  refine va_get (D := D) (ci := 1) (v := .int 8) (C := RX3) (T := TX3) (N := 8) hx hb hts in_X3 hown hK hP 0 rfl rfl 1 (by decide) (hts _ q215) (fun x9 h9 => u_same (hts _ q216) x9 h9) rfl dX2_squeeze_2 ?_
  refine lv_icmp_le (tgt := 49) hx hb dX2_squeeze_5 (by decide) (fun c_8 => absurd c_8 (by decide)) (fun _ => ?_)
  refine lv_aload_n hx hb dX2_squeeze_8 rfl (lv_at hl 2 rfl) ?_
  refine lv_aload_n hx hb dX2_squeeze_9 rfl (lv_at hl 2 rfl) ?_
  refine va_get (D := D) (ci := 1) (v := .ref qp) (C := RX3) (T := TX3) (N := 8) hx hb hts in_X3 hown hK hP 0 rfl rfl 6 (by decide) (hts _ q205) (fun _ h9 => h9) rfl dX2_squeeze_10 ?_
  refine va_get (D := D) (ci := 3) (v := .long ((pm x).1)) (C := RX8) (T := TX8) (N := 5) hx hb hts in_X8 hown hK hP 2 rfl rfl 0 (by decide) (hts _ q162) (fun _ h9 => h9) rfl dX2_squeeze_13 ?_
  refine lv_aload_n hx hb dX2_squeeze_16 rfl (lv_at hl 3 rfl) ?_
  refine lv_iload_n hx hb dX2_squeeze_17 rfl (lv_at hl 1 rfl) ?_
  refine cl_v [(h1, .inl (dB, n1, .inl (pw (f) 0 (x).1 8)))] [(hH, .inr (1, [.int 32, .int 8, vb, .int pos, al, vi, .ref qp, .int 12])), (qp, .inr (3, [.long ((pm x).1), .long ((pm x).2.1), .long ((pm x).2.2.1), .long ((pm x).2.2.2.1), .long ((pm x).2.2.2.2)]))] [1] [0, 2] rfl rfl (by decide) (by decide) hP hD hS hA (va_runU (As := [.long ((pm x).1), .ref h1, .int 8]) (rest := []) ⟨hx, hb, hml, hown, hts⟩ (m_setB l D dB dN dL hH h1 n1 8 (pw (f) 0 (x).1 8) (pm x).1 _ (by omega) hn) (va_cwA (owner := "AsconBaseDigest") 3 hts (lw_U q516 q518 q519 q520 q10 q521) rfl rfl rfl hX.1.2.1.2.2.2.2.2.2.1 (by decide +kernel) ⟨Nat.le_of_ble_eq_true rfl, Nat.le_of_ble_eq_true rfl⟩) (pvV (ci := 1) (q0 := 0) (C := RX3) [1] rfl (by decide) hP hK hD hS hA hX rfl rfl) rfl rfl hl.1 rfl (lv_room (Nat.le_of_ble_eq_true rfl)) dX2_squeeze_18 ⟨Nat.le_of_ble_eq_true rfl, Nat.le_of_ble_eq_true rfl⟩) (fun u_9 H locs hw_10 hP hD hS => ?_)
  have hP : va_P D CL [(hH, .inr (1, [.int 32, .int 8, vb, .int pos, al, vi, .ref qp, .int 12])), (qp, .inr (3, [.long ((pm x).1), .long ((pm x).2.1), .long ((pm x).2.2.1), .long ((pm x).2.2.2.1), .long ((pm x).2.2.2.2)])), (h1, .inl (dB, n1, .inl (pw (pw (f) 0 (x).1 8) 8 (pm x).1 8)))] H := hP
  have hD : va_D A [(hH, .inr (1, [.int 32, .int 8, vb, .int pos, al, vi, .ref qp, .int 12])), (qp, .inr (3, [.long ((pm x).1), .long ((pm x).2.1), .long ((pm x).2.2.1), .long ((pm x).2.2.2.1), .long ((pm x).2.2.2.2)])), (h1, .inl (dB, n1, .inl (pw (pw (f) 0 (x).1 8) 8 (pm x).1 8)))] := hD
  refine lv_aload_n hx hb dX2_squeeze_21 rfl (lv_at hl 2 rfl) ?_
  refine va_get (D := D) (ci := 1) (v := .ref qp) (C := RX3) (T := TX3) (N := 8) hx hb hts in_X3 hown hK hP 0 rfl rfl 6 (by decide) (hts _ q205) (fun _ h9 => h9) rfl dX2_squeeze_22 ?_
  refine lv_aload_n hx hb dX2_squeeze_25 rfl (lv_at hl 2 rfl) ?_
  refine va_get (D := D) (ci := 1) (v := .int 12) (C := RX3) (T := TX3) (N := 8) hx hb hts in_X3 hown hK hP 0 rfl rfl 7 (by decide) (hts _ q208) (fun _ h9 => h9) rfl dX2_squeeze_26 ?_
  refine cl_v [(qp, .inr (3, [.long ((pm x).1), .long ((pm x).2.1), .long ((pm x).2.2.1), .long ((pm x).2.2.2.1), .long ((pm x).2.2.2.2)]))] [(hH, .inr (1, [.int 32, .int 8, vb, .int pos, al, vi, .ref qp, .int 12])), (h1, .inl (dB, n1, .inl (pw (pw (f) 0 (x).1 8) 8 (pm x).1 8)))] [1] [0, 2] rfl rfl (by decide) (by decide) hP hD hS hA (va_runV (As := [.int 12]) (rest := []) ⟨hx, hb, hml, hown, hts⟩ (m_p l D dB dN dL qp (pm x) _) (cwV 1 hts (lw_V q379 q380 q381 q21 q382) rfl rfl rfl (by decide +kernel) ⟨Nat.le_of_ble_eq_true rfl, Nat.le_of_ble_eq_true rfl⟩) (pvV (ci := 3) (q0 := 1) (C := RX8) [1] rfl (by decide) hP hK hD hS hA hX rfl rfl) rfl rfl hl.1 rfl (lv_room (Nat.le_of_ble_eq_true rfl)) dX2_squeeze_29 ⟨Nat.le_of_ble_eq_true rfl, Nat.le_of_ble_eq_true rfl⟩) (fun u_12 H locs hw_13 hP hD hS => ?_)
  have hP : va_P D CL [(hH, .inr (1, [.int 32, .int 8, vb, .int pos, al, vi, .ref qp, .int 12])), (h1, .inl (dB, n1, .inl (pw (pw (f) 0 (x).1 8) 8 (pm x).1 8))), (qp, .inr (3, [.long u_12.1, .long u_12.2.1, .long u_12.2.2.1, .long u_12.2.2.2.1, .long u_12.2.2.2.2]))] H := hP
  have hD : va_D A [(hH, .inr (1, [.int 32, .int 8, vb, .int pos, al, vi, .ref qp, .int 12])), (h1, .inl (dB, n1, .inl (pw (pw (f) 0 (x).1 8) 8 (pm x).1 8))), (qp, .inr (3, [.long u_12.1, .long u_12.2.1, .long u_12.2.2.1, .long u_12.2.2.2.1, .long u_12.2.2.2.2]))] := hD
  have hw_13 : u_12 = pm (pm x) := hw_13
  subst hw_13
  have hP : va_P D CL [(hH, .inr (1, [.int 32, .int 8, vb, .int pos, al, vi, .ref qp, .int 12])), (h1, .inl (dB, n1, .inl (pw (pw (f) 0 (x).1 8) 8 (pm x).1 8))), (qp, .inr (3, [.long ((pm (pm x)).1), .long ((pm (pm x)).2.1), .long ((pm (pm x)).2.2.1), .long ((pm (pm x)).2.2.2.1), .long ((pm (pm x)).2.2.2.2)]))] H := hP
  have hD : va_D A [(hH, .inr (1, [.int 32, .int 8, vb, .int pos, al, vi, .ref qp, .int 12])), (h1, .inl (dB, n1, .inl (pw (pw (f) 0 (x).1 8) 8 (pm x).1 8))), (qp, .inr (3, [.long ((pm (pm x)).1), .long ((pm (pm x)).2.1), .long ((pm (pm x)).2.2.1), .long ((pm (pm x)).2.2.2.1), .long ((pm (pm x)).2.2.2.2)]))] := hD
  refine lv_iload_n hx hb dX2_squeeze_32 rfl (lv_at hl 1 rfl) ?_
  refine lv_aload_n hx hb dX2_squeeze_33 rfl (lv_at hl 2 rfl) ?_
  refine va_get (D := D) (ci := 1) (v := .int 8) (C := RX3) (T := TX3) (N := 8) hx hb hts in_X3 hown hK hP 0 rfl rfl 1 (by decide) (hts _ q215) (fun x9 h9 => u_same (hts _ q216) x9 h9) rfl dX2_squeeze_34 ?_
  refine lv_iadd hx hb dX2_squeeze_37 ?_
  refine nmTi (b := 16) (by decide) ?_
  refine lv_istore_n (lv' := [(2, .int 16), (3, .int 24), (0, .ref hH), (1, .ref h1)]) hx hb dX2_squeeze_38 rfl hl (by decide) rfl (fun ls hl => ?_)
  refine lv_iload_n hx hb dX2_squeeze_39 rfl (lv_at hl 1 rfl) ?_
  refine lv_aload_n hx hb dX2_squeeze_40 rfl (lv_at hl 2 rfl) ?_
  refine va_get (D := D) (ci := 1) (v := .int 8) (C := RX3) (T := TX3) (N := 8) hx hb hts in_X3 hown hK hP 0 rfl rfl 1 (by decide) (hts _ q215) (fun x9 h9 => u_same (hts _ q216) x9 h9) rfl dX2_squeeze_41 ?_
  refine lv_isub hx hb dX2_squeeze_44 ?_
  refine nmTi (b := 16) (by decide) ?_
  refine lv_istore_n (lv' := [(3, .int 16), (2, .int 16), (0, .ref hH), (1, .ref h1)]) hx hb dX2_squeeze_45 rfl hl (by decide) rfl (fun ls hl => ?_)
  refine lv_goto (tgt := 0) hx hb dX2_squeeze_46 (by decide) ?_
  refine lv_iload_n hx hb dX2_squeeze_0 rfl (lv_at hl 0 rfl) ?_
  refine lv_aload_n hx hb dX2_squeeze_1 rfl (lv_at hl 2 rfl) ?_
  refine va_get (D := D) (ci := 1) (v := .int 8) (C := RX3) (T := TX3) (N := 8) hx hb hts in_X3 hown hK hP 0 rfl rfl 1 (by decide) (hts _ q215) (fun x9 h9 => u_same (hts _ q216) x9 h9) rfl dX2_squeeze_2 ?_
  refine lv_icmp_le (tgt := 49) hx hb dX2_squeeze_5 (by decide) (fun c_15 => absurd c_15 (by decide)) (fun _ => ?_)
  refine lv_aload_n hx hb dX2_squeeze_8 rfl (lv_at hl 2 rfl) ?_
  refine lv_aload_n hx hb dX2_squeeze_9 rfl (lv_at hl 2 rfl) ?_
  refine va_get (D := D) (ci := 1) (v := .ref qp) (C := RX3) (T := TX3) (N := 8) hx hb hts in_X3 hown hK hP 0 rfl rfl 6 (by decide) (hts _ q205) (fun _ h9 => h9) rfl dX2_squeeze_10 ?_
  refine va_get (D := D) (ci := 3) (v := .long ((pm (pm x)).1)) (C := RX8) (T := TX8) (N := 5) hx hb hts in_X8 hown hK hP 2 rfl rfl 0 (by decide) (hts _ q162) (fun _ h9 => h9) rfl dX2_squeeze_13 ?_
  refine lv_aload_n hx hb dX2_squeeze_16 rfl (lv_at hl 3 rfl) ?_
  refine lv_iload_n hx hb dX2_squeeze_17 rfl (lv_at hl 1 rfl) ?_
  refine cl_v [(h1, .inl (dB, n1, .inl (pw (pw (f) 0 (x).1 8) 8 (pm x).1 8)))] [(hH, .inr (1, [.int 32, .int 8, vb, .int pos, al, vi, .ref qp, .int 12])), (qp, .inr (3, [.long ((pm (pm x)).1), .long ((pm (pm x)).2.1), .long ((pm (pm x)).2.2.1), .long ((pm (pm x)).2.2.2.1), .long ((pm (pm x)).2.2.2.2)]))] [1] [0, 2] rfl rfl (by decide) (by decide) hP hD hS hA (va_runU (As := [.long ((pm (pm x)).1), .ref h1, .int 16]) (rest := []) ⟨hx, hb, hml, hown, hts⟩ (m_setB l D dB dN dL hH h1 n1 16 (pw (pw (f) 0 (x).1 8) 8 (pm x).1 8) (pm (pm x)).1 _ (by omega) hn) (va_cwA (owner := "AsconBaseDigest") 3 hts (lw_U q516 q518 q519 q520 q10 q521) rfl rfl rfl hX.1.2.1.2.2.2.2.2.2.1 (by decide +kernel) ⟨Nat.le_of_ble_eq_true rfl, Nat.le_of_ble_eq_true rfl⟩) (pvV (ci := 1) (q0 := 0) (C := RX3) [1] rfl (by decide) hP hK hD hS hA hX rfl rfl) rfl rfl hl.1 rfl (lv_room (Nat.le_of_ble_eq_true rfl)) dX2_squeeze_18 ⟨Nat.le_of_ble_eq_true rfl, Nat.le_of_ble_eq_true rfl⟩) (fun u_16 H locs hw_17 hP hD hS => ?_)
  have hP : va_P D CL [(hH, .inr (1, [.int 32, .int 8, vb, .int pos, al, vi, .ref qp, .int 12])), (qp, .inr (3, [.long ((pm (pm x)).1), .long ((pm (pm x)).2.1), .long ((pm (pm x)).2.2.1), .long ((pm (pm x)).2.2.2.1), .long ((pm (pm x)).2.2.2.2)])), (h1, .inl (dB, n1, .inl (pw (pw (pw (f) 0 (x).1 8) 8 (pm x).1 8) 16 (pm (pm x)).1 8)))] H := hP
  have hD : va_D A [(hH, .inr (1, [.int 32, .int 8, vb, .int pos, al, vi, .ref qp, .int 12])), (qp, .inr (3, [.long ((pm (pm x)).1), .long ((pm (pm x)).2.1), .long ((pm (pm x)).2.2.1), .long ((pm (pm x)).2.2.2.1), .long ((pm (pm x)).2.2.2.2)])), (h1, .inl (dB, n1, .inl (pw (pw (pw (f) 0 (x).1 8) 8 (pm x).1 8) 16 (pm (pm x)).1 8)))] := hD
  refine lv_aload_n hx hb dX2_squeeze_21 rfl (lv_at hl 2 rfl) ?_
  refine va_get (D := D) (ci := 1) (v := .ref qp) (C := RX3) (T := TX3) (N := 8) hx hb hts in_X3 hown hK hP 0 rfl rfl 6 (by decide) (hts _ q205) (fun _ h9 => h9) rfl dX2_squeeze_22 ?_
  refine lv_aload_n hx hb dX2_squeeze_25 rfl (lv_at hl 2 rfl) ?_
  refine va_get (D := D) (ci := 1) (v := .int 12) (C := RX3) (T := TX3) (N := 8) hx hb hts in_X3 hown hK hP 0 rfl rfl 7 (by decide) (hts _ q208) (fun _ h9 => h9) rfl dX2_squeeze_26 ?_
  refine cl_v [(qp, .inr (3, [.long ((pm (pm x)).1), .long ((pm (pm x)).2.1), .long ((pm (pm x)).2.2.1), .long ((pm (pm x)).2.2.2.1), .long ((pm (pm x)).2.2.2.2)]))] [(hH, .inr (1, [.int 32, .int 8, vb, .int pos, al, vi, .ref qp, .int 12])), (h1, .inl (dB, n1, .inl (pw (pw (pw (f) 0 (x).1 8) 8 (pm x).1 8) 16 (pm (pm x)).1 8)))] [1] [0, 2] rfl rfl (by decide) (by decide) hP hD hS hA (va_runV (As := [.int 12]) (rest := []) ⟨hx, hb, hml, hown, hts⟩ (m_p l D dB dN dL qp (pm (pm x)) _) (cwV 1 hts (lw_V q379 q380 q381 q21 q382) rfl rfl rfl (by decide +kernel) ⟨Nat.le_of_ble_eq_true rfl, Nat.le_of_ble_eq_true rfl⟩) (pvV (ci := 3) (q0 := 1) (C := RX8) [1] rfl (by decide) hP hK hD hS hA hX rfl rfl) rfl rfl hl.1 rfl (lv_room (Nat.le_of_ble_eq_true rfl)) dX2_squeeze_29 ⟨Nat.le_of_ble_eq_true rfl, Nat.le_of_ble_eq_true rfl⟩) (fun u_19 H locs hw_20 hP hD hS => ?_)
  have hP : va_P D CL [(hH, .inr (1, [.int 32, .int 8, vb, .int pos, al, vi, .ref qp, .int 12])), (h1, .inl (dB, n1, .inl (pw (pw (pw (f) 0 (x).1 8) 8 (pm x).1 8) 16 (pm (pm x)).1 8))), (qp, .inr (3, [.long u_19.1, .long u_19.2.1, .long u_19.2.2.1, .long u_19.2.2.2.1, .long u_19.2.2.2.2]))] H := hP
  have hD : va_D A [(hH, .inr (1, [.int 32, .int 8, vb, .int pos, al, vi, .ref qp, .int 12])), (h1, .inl (dB, n1, .inl (pw (pw (pw (f) 0 (x).1 8) 8 (pm x).1 8) 16 (pm (pm x)).1 8))), (qp, .inr (3, [.long u_19.1, .long u_19.2.1, .long u_19.2.2.1, .long u_19.2.2.2.1, .long u_19.2.2.2.2]))] := hD
  have hw_20 : u_19 = pm (pm (pm x)) := hw_20
  subst hw_20
  have hP : va_P D CL [(hH, .inr (1, [.int 32, .int 8, vb, .int pos, al, vi, .ref qp, .int 12])), (h1, .inl (dB, n1, .inl (pw (pw (pw (f) 0 (x).1 8) 8 (pm x).1 8) 16 (pm (pm x)).1 8))), (qp, .inr (3, [.long ((pm (pm (pm x))).1), .long ((pm (pm (pm x))).2.1), .long ((pm (pm (pm x))).2.2.1), .long ((pm (pm (pm x))).2.2.2.1), .long ((pm (pm (pm x))).2.2.2.2)]))] H := hP
  have hD : va_D A [(hH, .inr (1, [.int 32, .int 8, vb, .int pos, al, vi, .ref qp, .int 12])), (h1, .inl (dB, n1, .inl (pw (pw (pw (f) 0 (x).1 8) 8 (pm x).1 8) 16 (pm (pm x)).1 8))), (qp, .inr (3, [.long ((pm (pm (pm x))).1), .long ((pm (pm (pm x))).2.1), .long ((pm (pm (pm x))).2.2.1), .long ((pm (pm (pm x))).2.2.2.1), .long ((pm (pm (pm x))).2.2.2.2)]))] := hD
  refine lv_iload_n hx hb dX2_squeeze_32 rfl (lv_at hl 1 rfl) ?_
  refine lv_aload_n hx hb dX2_squeeze_33 rfl (lv_at hl 2 rfl) ?_
  refine va_get (D := D) (ci := 1) (v := .int 8) (C := RX3) (T := TX3) (N := 8) hx hb hts in_X3 hown hK hP 0 rfl rfl 1 (by decide) (hts _ q215) (fun x9 h9 => u_same (hts _ q216) x9 h9) rfl dX2_squeeze_34 ?_
  refine lv_iadd hx hb dX2_squeeze_37 ?_
  refine nmTi (b := 24) (by decide) ?_
  refine lv_istore_n (lv' := [(2, .int 24), (3, .int 16), (0, .ref hH), (1, .ref h1)]) hx hb dX2_squeeze_38 rfl hl (by decide) rfl (fun ls hl => ?_)
  refine lv_iload_n hx hb dX2_squeeze_39 rfl (lv_at hl 1 rfl) ?_
  refine lv_aload_n hx hb dX2_squeeze_40 rfl (lv_at hl 2 rfl) ?_
  refine va_get (D := D) (ci := 1) (v := .int 8) (C := RX3) (T := TX3) (N := 8) hx hb hts in_X3 hown hK hP 0 rfl rfl 1 (by decide) (hts _ q215) (fun x9 h9 => u_same (hts _ q216) x9 h9) rfl dX2_squeeze_41 ?_
  refine lv_isub hx hb dX2_squeeze_44 ?_
  refine nmTi (b := 8) (by decide) ?_
  refine lv_istore_n (lv' := [(3, .int 8), (2, .int 24), (0, .ref hH), (1, .ref h1)]) hx hb dX2_squeeze_45 rfl hl (by decide) rfl (fun ls hl => ?_)
  refine lv_goto (tgt := 0) hx hb dX2_squeeze_46 (by decide) ?_
  refine lv_iload_n hx hb dX2_squeeze_0 rfl (lv_at hl 0 rfl) ?_
  refine lv_aload_n hx hb dX2_squeeze_1 rfl (lv_at hl 2 rfl) ?_
  refine va_get (D := D) (ci := 1) (v := .int 8) (C := RX3) (T := TX3) (N := 8) hx hb hts in_X3 hown hK hP 0 rfl rfl 1 (by decide) (hts _ q215) (fun x9 h9 => u_same (hts _ q216) x9 h9) rfl dX2_squeeze_2 ?_
  refine lv_icmp_le (tgt := 49) hx hb dX2_squeeze_5 (by decide) (fun _ => ?_) (fun c_22 => absurd (by decide) c_22)
  refine lv_aload_n hx hb dX2_squeeze_49 rfl (lv_at hl 2 rfl) ?_
  refine lv_aload_n hx hb dX2_squeeze_50 rfl (lv_at hl 2 rfl) ?_
  refine va_get (D := D) (ci := 1) (v := .ref qp) (C := RX3) (T := TX3) (N := 8) hx hb hts in_X3 hown hK hP 0 rfl rfl 6 (by decide) (hts _ q205) (fun _ h9 => h9) rfl dX2_squeeze_51 ?_
  refine va_get (D := D) (ci := 3) (v := .long ((pm (pm (pm x))).1)) (C := RX8) (T := TX8) (N := 5) hx hb hts in_X8 hown hK hP 2 rfl rfl 0 (by decide) (hts _ q162) (fun _ h9 => h9) rfl dX2_squeeze_54 ?_
  refine lv_aload_n hx hb dX2_squeeze_57 rfl (lv_at hl 3 rfl) ?_
  refine lv_iload_n hx hb dX2_squeeze_58 rfl (lv_at hl 1 rfl) ?_
  refine lv_iload_n hx hb dX2_squeeze_59 rfl (lv_at hl 0 rfl) ?_
  refine cl_v [(h1, .inl (dB, n1, .inl (pw (pw (pw (f) 0 (x).1 8) 8 (pm x).1 8) 16 (pm (pm x)).1 8)))] [(hH, .inr (1, [.int 32, .int 8, vb, .int pos, al, vi, .ref qp, .int 12])), (qp, .inr (3, [.long ((pm (pm (pm x))).1), .long ((pm (pm (pm x))).2.1), .long ((pm (pm (pm x))).2.2.1), .long ((pm (pm (pm x))).2.2.2.1), .long ((pm (pm (pm x))).2.2.2.2)]))] [1] [0, 2] rfl rfl (by decide) (by decide) hP hD hS hA (va_runU (As := [.long ((pm (pm (pm x))).1), .ref h1, .int 24, .int 8]) (rest := []) ⟨hx, hb, hml, hown, hts⟩ (m_setB3 l D dB dN dL hH h1 n1 24 8 (pw (pw (pw (f) 0 (x).1 8) 8 (pm x).1 8) 16 (pm (pm x)).1 8) (pm (pm (pm x))).1 _ (by omega) (by omega) (by omega) hn) (va_cwA (owner := "AsconBaseDigest") 4 hts (lw_U q528 q530 q531 q532 q10 q533) rfl rfl rfl hX.1.2.1.2.2.2.2.2.2.2 (by decide +kernel) ⟨Nat.le_of_ble_eq_true rfl, Nat.le_of_ble_eq_true rfl⟩) (pvV (ci := 1) (q0 := 0) (C := RX3) [1] rfl (by decide) hP hK hD hS hA hX rfl rfl) rfl rfl hl.1 rfl (lv_room (Nat.le_of_ble_eq_true rfl)) dX2_squeeze_60 ⟨Nat.le_of_ble_eq_true rfl, Nat.le_of_ble_eq_true rfl⟩) (fun u_23 H locs hw_24 hP hD hS => ?_)
  have hP : va_P D CL [(hH, .inr (1, [.int 32, .int 8, vb, .int pos, al, vi, .ref qp, .int 12])), (qp, .inr (3, [.long ((pm (pm (pm x))).1), .long ((pm (pm (pm x))).2.1), .long ((pm (pm (pm x))).2.2.1), .long ((pm (pm (pm x))).2.2.2.1), .long ((pm (pm (pm x))).2.2.2.2)])), (h1, .inl (dB, n1, .inl (dig x f)))] H := hP
  have hD : va_D A [(hH, .inr (1, [.int 32, .int 8, vb, .int pos, al, vi, .ref qp, .int 12])), (qp, .inr (3, [.long ((pm (pm (pm x))).1), .long ((pm (pm (pm x))).2.1), .long ((pm (pm (pm x))).2.2.1), .long ((pm (pm (pm x))).2.2.2.1), .long ((pm (pm (pm x))).2.2.2.2)])), (h1, .inl (dB, n1, .inl (dig x f)))] := hD
  exact rt_v hx hb hr hlocks hP hK hD hS dX2_squeeze_63 (pm (pm (pm x))) [0, 1, 2] rfl (by decide) trivial

set_option maxHeartbeats 4000000 in
set_option maxRecDepth 100000 in
/-- AsconBaseDigest.finish(out, 0) -/
theorem m_fin (l : Launch) (D : va_G) (dB dN dL : ClassId) (hH qb qa qi qp : Nat) (h1 n1 q : Nat) (f : Nat → Int32) (x : P5) (buf : Nat → Int32) (sz : Nat) (hq : q < 8) (h32 : 32 ≤ n1) (hn : n1 < 2 ^ 31) : Cv_ l yX2_finish (ws_ yX2_finish cX2_finish 3 none) (rm_ 5 0 0 126) D dB dN dL [.ref hH, .ref h1, .int 0] [(hH, .inr (1, [.int 32, .int 8, .ref qb, .int (nI q), .ref qa, .ref qi, .ref qp, .int 12])), (qb, .inl (dB, 8, .inl buf)), (qp, .inr (3, [.long x.1, .long x.2.1, .long x.2.2.1, .long x.2.2.2.1, .long x.2.2.2.2])), (h1, .inl (dB, n1, .inl f))] sz (S := P5) (fun _ => True) (fun u => [(hH, .inr (1, [.int 32, .int 8, .ref qb, .int (nI q), .ref qa, .ref qi, .ref qp, .int 12])), (qb, .inl (dB, 8, .inl buf)), (qp, .inr (3, [.long u.1, .long u.2.1, .long u.2.2.1, .long u.2.2.2.1, .long u.2.2.2.2])), (h1, .inl (dB, n1, .inl (dig (ab x (ld buf 0 q ^^^ ((1 : Int64) <<< ((nI (8 * q)).toInt64 &&& 63)))) f)))]) := by
  refine ct_of (cc := cX2_finish) (maxL := 3) (ret := none) (by decide) rfl (Nat.le_of_ble_eq_true rfl) (fun p e s m below meth c A ls hx hb hml hr hlocks hts hown hin hP hK hD hA hX hS hl => ?_)
  have hown : s.vm.findClass RX2 = some m.cls := hown
  have hl : lv_has ls 3 [(0, .ref hH), (1, .ref h1), (2, .int 0)] := hl
  refine lv_aload_n hx hb dX2_finish_0 rfl (lv_at hl 0 rfl) ?_
  refine cl_v [(hH, .inr (1, [.int 32, .int 8, .ref qb, .int (nI q), .ref qa, .ref qi, .ref qp, .int 12])), (qb, .inl (dB, 8, .inl buf)), (qp, .inr (3, [.long x.1, .long x.2.1, .long x.2.2.1, .long x.2.2.2.1, .long x.2.2.2.2]))] [(h1, .inl (dB, n1, .inl f))] [0, 1, 2] [3] rfl rfl (by decide) (by decide) hP hD hS hA (va_runU (As := []) (rest := []) ⟨hx, hb, hml, hown, hts⟩ (m_padA l D dB dN dL hH qb qa qi qp q x buf _ hq) (va_cwU (owner := "AsconBaseDigest") 0 hts (lw_U q490 q492 q493 q491 q9 q494) rfl rfl rfl rfl (by decide +kernel) ⟨Nat.le_of_ble_eq_true rfl, Nat.le_of_ble_eq_true rfl⟩) (pvV (ci := 1) (q0 := 0) (C := RX3) [0, 1, 2] rfl (by decide) hP hK hD hS hA hX rfl rfl) rfl rfl hl.1 rfl (lv_room (Nat.le_of_ble_eq_true rfl)) dX2_finish_1 ⟨Nat.le_of_ble_eq_true rfl, Nat.le_of_ble_eq_true rfl⟩) (fun u_1 H locs hw_2 hP hD hS => ?_)
  have hP : va_P D CL [(h1, .inl (dB, n1, .inl f)), (hH, .inr (1, [.int 32, .int 8, .ref qb, .int (nI q), .ref qa, .ref qi, .ref qp, .int 12])), (qb, .inl (dB, 8, .inl buf)), (qp, .inr (3, [.long u_1.1, .long u_1.2.1, .long u_1.2.2.1, .long u_1.2.2.2.1, .long u_1.2.2.2.2]))] H := hP
  have hD : va_D A [(h1, .inl (dB, n1, .inl f)), (hH, .inr (1, [.int 32, .int 8, .ref qb, .int (nI q), .ref qa, .ref qi, .ref qp, .int 12])), (qb, .inl (dB, 8, .inl buf)), (qp, .inr (3, [.long u_1.1, .long u_1.2.1, .long u_1.2.2.1, .long u_1.2.2.2.1, .long u_1.2.2.2.2]))] := hD
  have hw_2 : u_1 = ab x (ld buf 0 q ^^^ ((1 : Int64) <<< ((nI (8 * q)).toInt64 &&& 63))) := hw_2
  subst hw_2
  have hP : va_P D CL [(h1, .inl (dB, n1, .inl f)), (hH, .inr (1, [.int 32, .int 8, .ref qb, .int (nI q), .ref qa, .ref qi, .ref qp, .int 12])), (qb, .inl (dB, 8, .inl buf)), (qp, .inr (3, [.long ((ab x (ld buf 0 q ^^^ ((1 : Int64) <<< ((nI (8 * q)).toInt64 &&& 63)))).1), .long ((ab x (ld buf 0 q ^^^ ((1 : Int64) <<< ((nI (8 * q)).toInt64 &&& 63)))).2.1), .long ((ab x (ld buf 0 q ^^^ ((1 : Int64) <<< ((nI (8 * q)).toInt64 &&& 63)))).2.2.1), .long ((ab x (ld buf 0 q ^^^ ((1 : Int64) <<< ((nI (8 * q)).toInt64 &&& 63)))).2.2.2.1), .long ((ab x (ld buf 0 q ^^^ ((1 : Int64) <<< ((nI (8 * q)).toInt64 &&& 63)))).2.2.2.2)]))] H := hP
  have hD : va_D A [(h1, .inl (dB, n1, .inl f)), (hH, .inr (1, [.int 32, .int 8, .ref qb, .int (nI q), .ref qa, .ref qi, .ref qp, .int 12])), (qb, .inl (dB, 8, .inl buf)), (qp, .inr (3, [.long ((ab x (ld buf 0 q ^^^ ((1 : Int64) <<< ((nI (8 * q)).toInt64 &&& 63)))).1), .long ((ab x (ld buf 0 q ^^^ ((1 : Int64) <<< ((nI (8 * q)).toInt64 &&& 63)))).2.1), .long ((ab x (ld buf 0 q ^^^ ((1 : Int64) <<< ((nI (8 * q)).toInt64 &&& 63)))).2.2.1), .long ((ab x (ld buf 0 q ^^^ ((1 : Int64) <<< ((nI (8 * q)).toInt64 &&& 63)))).2.2.2.1), .long ((ab x (ld buf 0 q ^^^ ((1 : Int64) <<< ((nI (8 * q)).toInt64 &&& 63)))).2.2.2.2)]))] := hD
  refine lv_aload_n hx hb dX2_finish_4 rfl (lv_at hl 0 rfl) ?_
  refine lv_aload_n hx hb dX2_finish_5 rfl (lv_at hl 1 rfl) ?_
  refine lv_iload_n hx hb dX2_finish_6 rfl (lv_at hl 2 rfl) ?_
  refine lv_aload_n hx hb dX2_finish_7 rfl (lv_at hl 0 rfl) ?_
  refine va_get (D := D) (ci := 1) (v := .int 32) (C := RX3) (T := TX3) (N := 8) hx hb hts in_X3 hown hK hP 1 rfl rfl 0 (by decide) (hts _ q209) (fun x9 h9 => u_same (hts _ q210) x9 h9) rfl dX2_finish_8 ?_
  refine cl_v [(hH, .inr (1, [.int 32, .int 8, .ref qb, .int (nI q), .ref qa, .ref qi, .ref qp, .int 12])), (qp, .inr (3, [.long ((ab x (ld buf 0 q ^^^ ((1 : Int64) <<< ((nI (8 * q)).toInt64 &&& 63)))).1), .long ((ab x (ld buf 0 q ^^^ ((1 : Int64) <<< ((nI (8 * q)).toInt64 &&& 63)))).2.1), .long ((ab x (ld buf 0 q ^^^ ((1 : Int64) <<< ((nI (8 * q)).toInt64 &&& 63)))).2.2.1), .long ((ab x (ld buf 0 q ^^^ ((1 : Int64) <<< ((nI (8 * q)).toInt64 &&& 63)))).2.2.2.1), .long ((ab x (ld buf 0 q ^^^ ((1 : Int64) <<< ((nI (8 * q)).toInt64 &&& 63)))).2.2.2.2)])), (h1, .inl (dB, n1, .inl f))] [(qb, .inl (dB, 8, .inl buf))] [1, 3, 0] [2] rfl rfl (by decide) (by decide) hP hD hS hA (va_runU (As := [.ref h1, .int 0, .int 32]) (rest := []) ⟨hx, hb, hml, hown, hts⟩ (m_sq l D dB dN dL hH qp h1 n1 (.ref qb) (.ref qa) (.ref qi) (nI q) f (ab x (ld buf 0 q ^^^ ((1 : Int64) <<< ((nI (8 * q)).toInt64 &&& 63)))) _ h32 hn) (va_cwU (owner := "AsconBaseDigest") 3 hts (lw_U q511 q513 q514 q512 q9 q515) rfl rfl rfl rfl (by decide +kernel) ⟨Nat.le_of_ble_eq_true rfl, Nat.le_of_ble_eq_true rfl⟩) (pvV (ci := 1) (q0 := 1) (C := RX3) [1, 3, 0] rfl (by decide) hP hK hD hS hA hX rfl rfl) rfl rfl hl.1 rfl (lv_room (Nat.le_of_ble_eq_true rfl)) dX2_finish_11 ⟨Nat.le_of_ble_eq_true rfl, Nat.le_of_ble_eq_true rfl⟩) (fun u_4 H locs hw_5 hP hD hS => ?_)
  have hP : va_P D CL [(qb, .inl (dB, 8, .inl buf)), (hH, .inr (1, [.int 32, .int 8, .ref qb, .int (nI q), .ref qa, .ref qi, .ref qp, .int 12])), (qp, .inr (3, [.long u_4.1, .long u_4.2.1, .long u_4.2.2.1, .long u_4.2.2.2.1, .long u_4.2.2.2.2])), (h1, .inl (dB, n1, .inl (dig (ab x (ld buf 0 q ^^^ ((1 : Int64) <<< ((nI (8 * q)).toInt64 &&& 63)))) f)))] H := hP
  have hD : va_D A [(qb, .inl (dB, 8, .inl buf)), (hH, .inr (1, [.int 32, .int 8, .ref qb, .int (nI q), .ref qa, .ref qi, .ref qp, .int 12])), (qp, .inr (3, [.long u_4.1, .long u_4.2.1, .long u_4.2.2.1, .long u_4.2.2.2.1, .long u_4.2.2.2.2])), (h1, .inl (dB, n1, .inl (dig (ab x (ld buf 0 q ^^^ ((1 : Int64) <<< ((nI (8 * q)).toInt64 &&& 63)))) f)))] := hD
  exact rt_v hx hb hr hlocks hP hK hD hS dX2_finish_14 u_4 [1, 0, 2, 3] rfl (by decide) trivial

set_option maxHeartbeats 4000000 in
set_option maxRecDepth 100000 in
/-- BufferBaseDigest.doFinal(out, 0) -/
theorem m_doF (l : Launch) (D : va_G) (dB dN dL : ClassId) (hH qb qa qi qp : Nat) (h1 n1 n : Nat) (M f : Nat → Int32) (x : P5) (buf : Nat → Int32) (sz : Nat) (hR : Rp M n x buf) (h32 : 32 ≤ n1) (hn : n1 < 2 ^ 31) : Ci_ l yX1_doFinal (ws_ yX1_doFinal cX1_doFinal 3 (some .int)) (rm_ 6 0 0 148) D dB dN dL [.ref hH, .ref h1, .int 0] [(hH, .inr (1, [.int 32, .int 8, .ref qb, .int (nI (n % 8)), .ref qa, .ref qi, .ref qp, .int 12])), (qb, .inl (dB, 8, .inl buf)), (qp, .inr (3, [.long x.1, .long x.2.1, .long x.2.2.1, .long x.2.2.2.1, .long x.2.2.2.2])), (h1, .inl (dB, n1, .inl f))] sz (S := Nat → Int32) (fun r _ => r = 32) (fun u => [(hH, .inr (1, [.int 32, .int 8, .ref qb, .int 0, .ref qa, .ref qi, .ref qp, .int 12])), (qb, .inl (dB, 8, .inl u)), (qp, .inr (3, [.long iv.1, .long iv.2.1, .long iv.2.2.1, .long iv.2.2.2.1, .long iv.2.2.2.2])), (h1, .inl (dB, n1, .inl (dig (hsh M n) f)))]) := by
  refine ct_of (cc := cX1_doFinal) (maxL := 3) (ret := (some .int)) (by decide) rfl (Nat.le_of_ble_eq_true rfl) (fun p e s m below meth c A ls hx hb hml hr hlocks hts hown hin hP hK hD hA hX hS hl => ?_)
  have hown : s.vm.findClass RX1 = some m.cls := hown
  have hl : lv_has ls 3 [(0, .ref hH), (1, .ref h1), (2, .int 0)] := hl
  refine lv_aload_n hx hb dX1_doFinal_0 rfl (lv_at hl 0 rfl) ?_
  refine lv_aload_n hx hb dX1_doFinal_1 rfl (lv_at hl 1 rfl) ?_
  refine lv_iload_n hx hb dX1_doFinal_2 rfl (lv_at hl 2 rfl) ?_
  refine cl_v [(hH, .inr (1, [.int 32, .int 8, .ref qb, .int (nI (n % 8)), .ref qa, .ref qi, .ref qp, .int 12])), (h1, .inl (dB, n1, .inl f))] [(qb, .inl (dB, 8, .inl buf)), (qp, .inr (3, [.long x.1, .long x.2.1, .long x.2.2.1, .long x.2.2.2.1, .long x.2.2.2.2]))] [0, 3] [1, 2] rfl rfl (by decide) (by decide) hP hD hS hA (va_runU (As := [.ref h1, .int 0]) (rest := []) ⟨hx, hb, hml, hown, hts⟩ (m_ensO l D dB dN dL hH h1 n1 0 f (.ref qb) (.ref qa) (.ref qi) (.ref qp) (nI (n % 8)) _ (by omega) hn) (va_cwU (owner := "BufferBaseDigest") 2 hts (lw_U q462 q464 q465 q463 q8 q466) rfl rfl rfl rfl (by decide +kernel) ⟨Nat.le_of_ble_eq_true rfl, Nat.le_of_ble_eq_true rfl⟩) (pvV (ci := 1) (q0 := 0) (C := RX3) [0, 3] rfl (by decide) hP hK hD hS hA hX rfl rfl) rfl rfl hl.1 rfl (lv_room (Nat.le_of_ble_eq_true rfl)) dX1_doFinal_3 ⟨Nat.le_of_ble_eq_true rfl, Nat.le_of_ble_eq_true rfl⟩) (fun u_1 H locs hw_2 hP hD hS => ?_)
  have hP : va_P D CL [(qb, .inl (dB, 8, .inl buf)), (qp, .inr (3, [.long x.1, .long x.2.1, .long x.2.2.1, .long x.2.2.2.1, .long x.2.2.2.2])), (hH, .inr (1, [.int 32, .int 8, .ref qb, .int (nI (n % 8)), .ref qa, .ref qi, .ref qp, .int 12])), (h1, .inl (dB, n1, .inl f))] H := hP
  have hD : va_D A [(qb, .inl (dB, 8, .inl buf)), (qp, .inr (3, [.long x.1, .long x.2.1, .long x.2.2.1, .long x.2.2.2.1, .long x.2.2.2.2])), (hH, .inr (1, [.int 32, .int 8, .ref qb, .int (nI (n % 8)), .ref qa, .ref qi, .ref qp, .int 12])), (h1, .inl (dB, n1, .inl f))] := hD
  refine lv_aload_n hx hb dX1_doFinal_6 rfl (lv_at hl 0 rfl) ?_
  refine lv_aload_n hx hb dX1_doFinal_7 rfl (lv_at hl 1 rfl) ?_
  refine lv_iload_n hx hb dX1_doFinal_8 rfl (lv_at hl 2 rfl) ?_
  refine cl_v [(hH, .inr (1, [.int 32, .int 8, .ref qb, .int (nI (n % 8)), .ref qa, .ref qi, .ref qp, .int 12])), (qb, .inl (dB, 8, .inl buf)), (qp, .inr (3, [.long x.1, .long x.2.1, .long x.2.2.1, .long x.2.2.2.1, .long x.2.2.2.2])), (h1, .inl (dB, n1, .inl f))] [] [2, 0, 1, 3] [] rfl rfl (by decide) (by decide) hP hD hS hA (va_runU (As := [.ref h1, .int 0]) (rest := []) ⟨hx, hb, hml, hown, hts⟩ (m_fin l D dB dN dL hH qb qa qi qp h1 n1 (n % 8) f x buf _ (by omega) h32 hn) (va_cwA (owner := "BufferBaseDigest") 2 hts (lw_U q484 q486 q487 q488 q9 q489) rfl rfl rfl hX.1.2.1.2.1 (by decide +kernel) ⟨Nat.le_of_ble_eq_true rfl, Nat.le_of_ble_eq_true rfl⟩) (pvV (ci := 1) (q0 := 2) (C := RX3) [2, 0, 1, 3] rfl (by decide) hP hK hD hS hA hX rfl rfl) rfl rfl hl.1 rfl (lv_room (Nat.le_of_ble_eq_true rfl)) dX1_doFinal_9 ⟨Nat.le_of_ble_eq_true rfl, Nat.le_of_ble_eq_true rfl⟩) (fun u_4 H locs hw_5 hP hD hS => ?_)
  have hP : va_P D CL [(hH, .inr (1, [.int 32, .int 8, .ref qb, .int (nI (n % 8)), .ref qa, .ref qi, .ref qp, .int 12])), (qb, .inl (dB, 8, .inl buf)), (qp, .inr (3, [.long u_4.1, .long u_4.2.1, .long u_4.2.2.1, .long u_4.2.2.2.1, .long u_4.2.2.2.2])), (h1, .inl (dB, n1, .inl (dig (ab x (ld buf 0 (n % 8) ^^^ ((1 : Int64) <<< ((nI (8 * (n % 8))).toInt64 &&& 63)))) f)))] H := hP
  have hD : va_D A [(hH, .inr (1, [.int 32, .int 8, .ref qb, .int (nI (n % 8)), .ref qa, .ref qi, .ref qp, .int 12])), (qb, .inl (dB, 8, .inl buf)), (qp, .inr (3, [.long u_4.1, .long u_4.2.1, .long u_4.2.2.1, .long u_4.2.2.2.1, .long u_4.2.2.2.2])), (h1, .inl (dB, n1, .inl (dig (ab x (ld buf 0 (n % 8) ^^^ ((1 : Int64) <<< ((nI (8 * (n % 8))).toInt64 &&& 63)))) f)))] := hD
  rw [Rp_end hR] at hP hD
  have hP : va_P D CL [(hH, .inr (1, [.int 32, .int 8, .ref qb, .int (nI (n % 8)), .ref qa, .ref qi, .ref qp, .int 12])), (qb, .inl (dB, 8, .inl buf)), (qp, .inr (3, [.long u_4.1, .long u_4.2.1, .long u_4.2.2.1, .long u_4.2.2.2.1, .long u_4.2.2.2.2])), (h1, .inl (dB, n1, .inl (dig (hsh M n) f)))] H := hP
  have hD : va_D A [(hH, .inr (1, [.int 32, .int 8, .ref qb, .int (nI (n % 8)), .ref qa, .ref qi, .ref qp, .int 12])), (qb, .inl (dB, 8, .inl buf)), (qp, .inr (3, [.long u_4.1, .long u_4.2.1, .long u_4.2.2.1, .long u_4.2.2.2.1, .long u_4.2.2.2.2])), (h1, .inl (dB, n1, .inl (dig (hsh M n) f)))] := hD
  refine lv_aload_n hx hb dX1_doFinal_12 rfl (lv_at hl 0 rfl) ?_
  refine cl_v [(hH, .inr (1, [.int 32, .int 8, .ref qb, .int (nI (n % 8)), .ref qa, .ref qi, .ref qp, .int 12])), (qb, .inl (dB, 8, .inl buf)), (qp, .inr (3, [.long u_4.1, .long u_4.2.1, .long u_4.2.2.1, .long u_4.2.2.2.1, .long u_4.2.2.2.2]))] [(h1, .inl (dB, n1, .inl (dig (hsh M n) f)))] [0, 1, 2] [3] rfl rfl (by decide) (by decide) hP hD hS hA (va_runU (As := []) (rest := []) ⟨hx, hb, hml, hown, hts⟩ (m_hreset l D dB dN dL hH qb qp (.ref qa) (.ref qi) (nI (n % 8)) buf u_4 _) (va_cwA (owner := "BufferBaseDigest") 0 hts (lw_U q537 q629 q630 q180 q10 q182) rfl rfl rfl hX.1.2.1.2.2.1 (by decide +kernel) ⟨Nat.le_of_ble_eq_true rfl, Nat.le_of_ble_eq_true rfl⟩) (pvV (ci := 1) (q0 := 0) (C := RX3) [0, 1, 2] rfl (by decide) hP hK hD hS hA hX rfl rfl) rfl rfl hl.1 rfl (lv_room (Nat.le_of_ble_eq_true rfl)) dX1_doFinal_13 ⟨Nat.le_of_ble_eq_true rfl, Nat.le_of_ble_eq_true rfl⟩) (fun u_7 H locs hw_8 hP hD hS => ?_)
  have hP : va_P D CL [(h1, .inl (dB, n1, .inl (dig (hsh M n) f))), (hH, .inr (1, [.int 32, .int 8, .ref qb, .int 0, .ref qa, .ref qi, .ref qp, .int 12])), (qb, .inl (dB, 8, .inl u_7)), (qp, .inr (3, [.long iv.1, .long iv.2.1, .long iv.2.2.1, .long iv.2.2.2.1, .long iv.2.2.2.2]))] H := hP
  have hD : va_D A [(h1, .inl (dB, n1, .inl (dig (hsh M n) f))), (hH, .inr (1, [.int 32, .int 8, .ref qb, .int 0, .ref qa, .ref qi, .ref qp, .int 12])), (qb, .inl (dB, 8, .inl u_7)), (qp, .inr (3, [.long iv.1, .long iv.2.1, .long iv.2.2.1, .long iv.2.2.2.1, .long iv.2.2.2.2]))] := hD
  refine lv_aload_n hx hb dX1_doFinal_16 rfl (lv_at hl 0 rfl) ?_
  refine va_get (D := D) (ci := 1) (v := .int 32) (C := RX3) (T := TX3) (N := 8) hx hb hts in_X3 hown hK hP 1 rfl rfl 0 (by decide) (hts _ q211) (fun _ h9 => h9) rfl dX1_doFinal_17 ?_
  exact rt_i hx hb hr hlocks hP hK hD hS dX1_doFinal_20 u_7 [1, 2, 3, 0] rfl (by decide) rfl
end
section
/-! the desk and the model, as numbers -/
set_option maxRecDepth 100000
/-- an int without its sign's bit -/
def fx (x : Int32) : Nat := x.toBitVec.toNat % 2 ^ 31
theorem fx_lt (x : Int32) : fx x < 2 ^ 31 := Nat.mod_lt _ (by decide)
theorem fx_and (x : Int32) : x &&& 2147483647 = nI (fx x) := pk_and x 31 (by decide)
/-- the remainder by m -/
def fo (x : Int32) (m : Nat) : Nat := fx x % m
theorem fo_lt (x : Int32) {m : Nat} (h : 0 < m) : fo x m < m := Nat.mod_lt _ h
theorem fo_rem (x : Int32) {m : Nat} (h0 : 0 < m) (h : m < 2 ^ 31) : nI (fx x) - nI (fx x) / nI m * nI m = nI (fo x m) := pk_rem (fx_lt x) h0 h
/-- a word is laid, its high byte first -/
def wp (T : Nat → Int32) (k : Nat) (v : Int32) : Nat → Int32 := fun j => if k ≤ j ∧ j < k + 4 then bi v (3 - (j - k)) else T j
def p4 (T : Nat → Int32) (z : Nat) (a b c d : Int32) : Nat → Int32 := wp (wp (wp (wp T z a) (z + 4) b) (z + 8) c) (z + 12) d
theorem sh_b (v : Int32) {j : Nat} (hj : j < 4) : (v >>> (nI (8 * j) &&& 31)).toInt8.toInt32 = bi v j := by
  refine by_ext fun i hi => ?_
  rw [ib_sshr _ (by omega) v (by omega), ib_ushr _ (by omega)]
theorem wp_4 (T : Nat → Int32) (k : Nat) (v : Int32) : upd (upd (upd (upd T k (bi v 3)) (k + 1) (bi v 2)) (k + 2) (bi v 1)) (k + 3) (bi v 0) = wp T k v := by
  funext j
  simp only [upd, wp]
  by_cases h : k ≤ j ∧ j < k + 4
  · rw [if_pos h]
    rcases (show j = k ∨ j = k + 1 ∨ j = k + 2 ∨ j = k + 3 by omega) with c | c | c | c
    · rw [if_neg (by omega), if_neg (by omega), if_neg (by omega), if_pos c, c, Nat.sub_self]
    · rw [if_neg (by omega), if_neg (by omega), if_pos c, c, Nat.add_sub_cancel_left]
    · rw [if_neg (by omega), if_pos c, c, Nat.add_sub_cancel_left]
    · rw [if_pos c, c, Nat.add_sub_cancel_left]
  · rw [if_neg h, if_neg (by omega), if_neg (by omega), if_neg (by omega), if_neg (by omega)]
/-- the model's way: i bytes of the four words -/
def mp (T : Nat → Int32) (z : Nat) (Wd : Nat → Int32) (i : Nat) : Nat → Int32 := fun j => if z ≤ j ∧ j < z + i then bi (Wd ((j - z) / 4)) (3 - (j - z) % 4) else T j
theorem mp_0 (T : Nat → Int32) (z : Nat) (Wd : Nat → Int32) : mp T z Wd 0 = T := by
  funext j
  simp only [mp]
  rw [if_neg (by omega)]
theorem mp_s (T : Nat → Int32) (z : Nat) (Wd : Nat → Int32) (i : Nat) : upd (mp T z Wd i) (z + i) (bi (Wd (i / 4)) (3 - i % 4)) = mp T z Wd (i + 1) := by
  funext j
  simp only [upd, mp]
  by_cases h : j = z + i
  · rw [if_pos h, if_pos (by omega), h, Nat.add_sub_cancel_left]
  · rw [if_neg h]
    by_cases h2 : z ≤ j ∧ j < z + i
    · rw [if_pos h2, if_pos (by omega)]
    · rw [if_neg h2, if_neg (by omega)]
theorem mp_p4 (T : Nat → Int32) (z : Nat) (Wd : Nat → Int32) : mp T z Wd 16 = p4 T z (Wd 0) (Wd 1) (Wd 2) (Wd 3) := by
  funext j
  simp only [mp, p4, wp]
  by_cases h : z ≤ j ∧ j < z + 16
  · rw [if_pos h]
    rcases (show (j - z) / 4 = 0 ∨ (j - z) / 4 = 1 ∨ (j - z) / 4 = 2 ∨ (j - z) / 4 = 3 by omega) with c | c | c | c
    · rw [if_neg (by omega), if_neg (by omega), if_neg (by omega), if_pos (by omega), c]
      congr 1
      omega
    · rw [if_neg (by omega), if_neg (by omega), if_pos (by omega), c]
      congr 1
      omega
    · rw [if_neg (by omega), if_pos (by omega), c]
      congr 1
      omega
    · rw [if_pos (by omega), c]
      congr 1
      omega
  · rw [if_neg h, if_neg (by omega), if_neg (by omega), if_neg (by omega), if_neg (by omega)]
theorem bi_fit (v : Int32) (j : Nat) : fits .byte (.int (bi v j)) = true := pk_fb _
theorem wp_fit {T : Nat → Int32} (h : sb_Fit T) (k : Nat) (v : Int32) : sb_Fit (wp T k v) := by
  intro j
  simp only [wp]
  by_cases c : k ≤ j ∧ j < k + 4
  · rw [if_pos c]
    exact bi_fit _ _
  · rw [if_neg c]
    exact h j
theorem p4_fit {T : Nat → Int32} (h : sb_Fit T) (z : Nat) (a b c d : Int32) : sb_Fit (p4 T z a b c d) := wp_fit (wp_fit (wp_fit (wp_fit h _ _) _ _) _ _) _ _
/-- a byte that fits is its own byte -/
theorem fit_b {x : Int32} (h : fits .byte (.int x) = true) : vp_nar .byte x = x := by
  rw [vp_nar_byte]
  simp only [fits, Bool.and_eq_true, decide_eq_true_eq, Int32.le_iff_toInt_le] at h
  have h1 : (-128 : Int32).toInt = -128 := by decide
  have h2 : (127 : Int32).toInt = 127 := by decide
  rw [h1, h2] at h
  apply Int32.toInt_inj.mp
  rw [Int8.toInt_toInt32, Int32.toInt_toInt8]
  exact Int.bmod_eq_of_le (by omega) (by omega)
/-- the message behind a feed -/
def fdM (M T : Nat → Int32) (n f i : Nat) : Nat → Int32 := fun j => if n ≤ j ∧ j < n + i then T (f + (j - n)) else M j
theorem fdM_0 (M T : Nat → Int32) (n f : Nat) : fdM M T n f 0 = M := by
  funext j
  simp only [fdM]
  rw [if_neg (by omega)]
theorem fdM_s (M T : Nat → Int32) (n f i : Nat) : upd (fdM M T n f i) (n + i) (T (f + i)) = fdM M T n f (i + 1) := by
  funext j
  simp only [upd, fdM]
  by_cases h : j = n + i
  · rw [if_pos h, if_pos (by omega), h, Nat.add_sub_cancel_left]
  · rw [if_neg h]
    by_cases h2 : n ≤ j ∧ j < n + i
    · rw [if_pos h2, if_pos (by omega)]
    · rw [if_neg h2, if_neg (by omega)]
theorem fdM_lo {M T : Nat → Int32} {n f i j : Nat} (h : j < n) : fdM M T n f i j = M j := by
  simp only [fdM]
  rw [if_neg (by omega)]
theorem fdM_in {M T : Nat → Int32} {n f c i : Nat} (h : i < c) : fdM M T n f c (n + i) = T (f + i) := by
  simp only [fdM]
  rw [if_pos (by omega), Nat.add_sub_cancel_left]
end
section
/-! the desk: AsconHashDesk -/
set_option maxHeartbeats 4000000 in
set_option maxRecDepth 100000 in
/-- AsconHashDesk.word -/
theorem m_word (l : Launch) (D : va_G) (dB dN dL : ClassId) (hd ht k : Nat) (vr vo : Value) (fd zs : Int32) (T : Nat → Int32) (v : Int32) (sz : Nat) (hk : k + 4 ≤ 1024) : Cv_ l yX0_word (ws_ yX0_word cX0_word 3 none) (rm_ 0 0 0 0) D dB dN dL [.ref hd, .int (nI k), .int v] [(hd, .inr (0, [vr, vo, .int fd, .ref ht, .int zs])), (ht, .inl (dB, 1024, .inl T))] sz (S := Unit) (fun _ => True) (fun _ => [(hd, .inr (0, [vr, vo, .int fd, .ref ht, .int zs])), (ht, .inl (dB, 1024, .inl (wp T k v)))]) := by
  refine ct_of (cc := cX0_word) (maxL := 3) (ret := none) (by decide) rfl (Nat.le_of_ble_eq_true rfl) (fun p e s m below meth c A ls hx hb hml hr hlocks hts hown hin hP hK hD hA hX hS hl => ?_)
  have hown : s.vm.findClass RX0 = some m.cls := hown
  have hl : lv_has ls 3 [(0, .ref hd), (1, .int (nI k)), (2, .int v)] := hl
  refine lv_aload_n hx hb dX0_word_0 rfl (lv_at hl 0 rfl) ?_
  refine va_get (D := D) (ci := 0) (v := .ref ht) (C := RX0) (T := TX0) (N := 5) hx hb hts in_X0 hown hK hP 0 rfl rfl 3 (by decide) (hts _ q249) (fun _ h9 => h9) rfl dX0_word_1 ?_
  refine lv_iload_n hx hb dX0_word_4 rfl (lv_at hl 1 rfl) ?_
  refine lv_iload_n hx hb dX0_word_5 rfl (lv_at hl 2 rfl) ?_
  refine lv_bipush (v := 24) hx hb dX0_word_6 (by decide) ?_
  refine lv_ishr hx hb dX0_word_8 ?_
  refine lv_i2b hx hb dX0_word_9 rfl ?_
  refine nmTi (b := (bi v 3)) (sh_b v (j := 3) (by decide)) ?_
  refine va_bast hx hb hK hP hD hS 1 0 rfl rfl (vp_in_nI (by omega) (by omega)) dX0_word_10 (fun H locs hP hD hS => ?_)
  have eg_1 : upd T (nI k).toNatClampNeg (vp_nar .byte (bi v 3)) = upd T k (bi v 3) := (by rw [nI_clamp (by omega), show vp_nar .byte (bi v 3) = bi v 3 from pk_vb _])
  rw [eg_1] at hP hD
  have hP : va_P D CL [(hd, .inr (0, [vr, vo, .int fd, .ref ht, .int zs])), (ht, .inl (dB, 1024, .inl (upd T k (bi v 3))))] H := hP
  have hD : va_D A [(hd, .inr (0, [vr, vo, .int fd, .ref ht, .int zs])), (ht, .inl (dB, 1024, .inl (upd T k (bi v 3))))] := hD
  refine lv_aload_n hx hb dX0_word_11 rfl (lv_at hl 0 rfl) ?_
  refine va_get (D := D) (ci := 0) (v := .ref ht) (C := RX0) (T := TX0) (N := 5) hx hb hts in_X0 hown hK hP 0 rfl rfl 3 (by decide) (hts _ q249) (fun _ h9 => h9) rfl dX0_word_12 ?_
  refine lv_iload_n hx hb dX0_word_15 rfl (lv_at hl 1 rfl) ?_
  refine lv_iconst (v := 1) hx hb dX0_word_16 (by decide) ?_
  refine lv_iadd hx hb dX0_word_17 ?_
  refine nmTi (b := (nI (k + 1))) (nI_add k 1) ?_
  refine lv_iload_n hx hb dX0_word_18 rfl (lv_at hl 2 rfl) ?_
  refine lv_bipush (v := 16) hx hb dX0_word_19 (by decide) ?_
  refine lv_ishr hx hb dX0_word_21 ?_
  refine lv_i2b hx hb dX0_word_22 rfl ?_
  refine nmTi (b := (bi v 2)) (sh_b v (j := 2) (by decide)) ?_
  refine va_bast hx hb hK hP hD hS 1 0 rfl rfl (vp_in_nI (by omega) (by omega)) dX0_word_23 (fun H locs hP hD hS => ?_)
  have eg_2 : upd (upd T k (bi v 3)) (nI (k + 1)).toNatClampNeg (vp_nar .byte (bi v 2)) = upd (upd T k (bi v 3)) (k + 1) (bi v 2) := (by rw [nI_clamp (by omega), show vp_nar .byte (bi v 2) = bi v 2 from pk_vb _])
  rw [eg_2] at hP hD
  have hP : va_P D CL [(hd, .inr (0, [vr, vo, .int fd, .ref ht, .int zs])), (ht, .inl (dB, 1024, .inl (upd (upd T k (bi v 3)) (k + 1) (bi v 2))))] H := hP
  have hD : va_D A [(hd, .inr (0, [vr, vo, .int fd, .ref ht, .int zs])), (ht, .inl (dB, 1024, .inl (upd (upd T k (bi v 3)) (k + 1) (bi v 2))))] := hD
  refine lv_aload_n hx hb dX0_word_24 rfl (lv_at hl 0 rfl) ?_
  refine va_get (D := D) (ci := 0) (v := .ref ht) (C := RX0) (T := TX0) (N := 5) hx hb hts in_X0 hown hK hP 0 rfl rfl 3 (by decide) (hts _ q249) (fun _ h9 => h9) rfl dX0_word_25 ?_
  refine lv_iload_n hx hb dX0_word_28 rfl (lv_at hl 1 rfl) ?_
  refine lv_iconst (v := 2) hx hb dX0_word_29 (by decide) ?_
  refine lv_iadd hx hb dX0_word_30 ?_
  refine nmTi (b := (nI (k + 2))) (nI_add k 2) ?_
  refine lv_iload_n hx hb dX0_word_31 rfl (lv_at hl 2 rfl) ?_
  refine lv_bipush (v := 8) hx hb dX0_word_32 (by decide) ?_
  refine lv_ishr hx hb dX0_word_34 ?_
  refine lv_i2b hx hb dX0_word_35 rfl ?_
  refine nmTi (b := (bi v 1)) (sh_b v (j := 1) (by decide)) ?_
  refine va_bast hx hb hK hP hD hS 1 0 rfl rfl (vp_in_nI (by omega) (by omega)) dX0_word_36 (fun H locs hP hD hS => ?_)
  have eg_3 : upd (upd (upd T k (bi v 3)) (k + 1) (bi v 2)) (nI (k + 2)).toNatClampNeg (vp_nar .byte (bi v 1)) = upd (upd (upd T k (bi v 3)) (k + 1) (bi v 2)) (k + 2) (bi v 1) := (by rw [nI_clamp (by omega), show vp_nar .byte (bi v 1) = bi v 1 from pk_vb _])
  rw [eg_3] at hP hD
  have hP : va_P D CL [(hd, .inr (0, [vr, vo, .int fd, .ref ht, .int zs])), (ht, .inl (dB, 1024, .inl (upd (upd (upd T k (bi v 3)) (k + 1) (bi v 2)) (k + 2) (bi v 1))))] H := hP
  have hD : va_D A [(hd, .inr (0, [vr, vo, .int fd, .ref ht, .int zs])), (ht, .inl (dB, 1024, .inl (upd (upd (upd T k (bi v 3)) (k + 1) (bi v 2)) (k + 2) (bi v 1))))] := hD
  refine lv_aload_n hx hb dX0_word_37 rfl (lv_at hl 0 rfl) ?_
  refine va_get (D := D) (ci := 0) (v := .ref ht) (C := RX0) (T := TX0) (N := 5) hx hb hts in_X0 hown hK hP 0 rfl rfl 3 (by decide) (hts _ q249) (fun _ h9 => h9) rfl dX0_word_38 ?_
  refine lv_iload_n hx hb dX0_word_41 rfl (lv_at hl 1 rfl) ?_
  refine lv_iconst (v := 3) hx hb dX0_word_42 (by decide) ?_
  refine lv_iadd hx hb dX0_word_43 ?_
  refine nmTi (b := (nI (k + 3))) (nI_add k 3) ?_
  refine lv_iload_n hx hb dX0_word_44 rfl (lv_at hl 2 rfl) ?_
  refine lv_i2b hx hb dX0_word_45 rfl ?_
  refine nmTi (b := (bi v 0)) (bi_0 v) ?_
  refine va_bast hx hb hK hP hD hS 1 0 rfl rfl (vp_in_nI (by omega) (by omega)) dX0_word_46 (fun H locs hP hD hS => ?_)
  have eg_4 : upd (upd (upd (upd T k (bi v 3)) (k + 1) (bi v 2)) (k + 2) (bi v 1)) (nI (k + 3)).toNatClampNeg (vp_nar .byte (bi v 0)) = upd (upd (upd (upd T k (bi v 3)) (k + 1) (bi v 2)) (k + 2) (bi v 1)) (k + 3) (bi v 0) := (by rw [nI_clamp (by omega), show vp_nar .byte (bi v 0) = bi v 0 from pk_vb _])
  rw [eg_4] at hP hD
  have hP : va_P D CL [(hd, .inr (0, [vr, vo, .int fd, .ref ht, .int zs])), (ht, .inl (dB, 1024, .inl (upd (upd (upd (upd T k (bi v 3)) (k + 1) (bi v 2)) (k + 2) (bi v 1)) (k + 3) (bi v 0))))] H := hP
  have hD : va_D A [(hd, .inr (0, [vr, vo, .int fd, .ref ht, .int zs])), (ht, .inl (dB, 1024, .inl (upd (upd (upd (upd T k (bi v 3)) (k + 1) (bi v 2)) (k + 2) (bi v 1)) (k + 3) (bi v 0))))] := hD
  rw [wp_4] at hP hD
  have hP : va_P D CL [(hd, .inr (0, [vr, vo, .int fd, .ref ht, .int zs])), (ht, .inl (dB, 1024, .inl (wp T k v)))] H := hP
  have hD : va_D A [(hd, .inr (0, [vr, vo, .int fd, .ref ht, .int zs])), (ht, .inl (dB, 1024, .inl (wp T k v)))] := hD
  exact rt_v hx hb hr hlocks hP hK hD hS dX0_word_47 () [0, 1] rfl (by decide) trivial

set_option maxHeartbeats 4000000 in
set_option maxRecDepth 100000 in
/-- AsconHashDesk.put -/
theorem m_put (l : Launch) (D : va_G) (dB dN dL : ClassId) (hd ht z : Nat) (vr vo : Value) (fd : Int32) (T : Nat → Int32) (wa wb wc wd : Int32) (sz : Nat) (hz : z ≤ 1024) : Ci_ l yX0_put (ws_ yX0_put cX0_put 5 (some .boolean)) (rm_ 1 0 0 22) D dB dN dL [.ref hd, .int wa, .int wb, .int wc, .int wd] [(hd, .inr (0, [vr, vo, .int fd, .ref ht, .int (nI z)])), (ht, .inl (dB, 1024, .inl T))] sz (S := Nat × (Nat → Int32)) (fun r u => r = (if z + 16 ≤ 1024 then 1 else 0) ∧ u = if z + 16 ≤ 1024 then (z + 16, p4 T z wa wb wc wd) else (z, T)) (fun u => [(hd, .inr (0, [vr, vo, .int fd, .ref ht, .int (nI u.1)])), (ht, .inl (dB, 1024, .inl u.2))]) := by
  refine ct_of (cc := cX0_put) (maxL := 5) (ret := (some .boolean)) (by decide) rfl (Nat.le_of_ble_eq_true rfl) (fun p e s m below meth c A ls hx hb hml hr hlocks hts hown hin hP hK hD hA hX hS hl => ?_)
  have hown : s.vm.findClass RX0 = some m.cls := hown
  have hl : lv_has ls 5 [(0, .ref hd), (1, .int wa), (2, .int wb), (3, .int wc), (4, .int wd)] := hl
  refine lv_aload_n hx hb dX0_put_0 rfl (lv_at hl 0 rfl) ?_
  refine va_get (D := D) (ci := 0) (v := .int (nI z)) (C := RX0) (T := TX0) (N := 5) hx hb hts in_X0 hown hK hP 0 rfl rfl 4 (by decide) (hts _ q250) (fun _ h9 => h9) rfl dX0_put_1 ?_
  refine lv_aload_n hx hb dX0_put_4 rfl (lv_at hl 0 rfl) ?_
  refine va_get (D := D) (ci := 0) (v := .ref ht) (C := RX0) (T := TX0) (N := 5) hx hb hts in_X0 hown hK hP 0 rfl rfl 3 (by decide) (hts _ q249) (fun _ h9 => h9) rfl dX0_put_5 ?_
  refine va_alen (v := Int32.ofNat 1024) hx hb hK hP 1 0 rfl rfl rfl dX0_put_8 ?_
  refine lv_bipush (v := 16) hx hb dX0_put_9 (by decide) ?_
  refine lv_isub hx hb dX0_put_11 ?_
  refine nmTi (b := (nI 1008)) (by decide) ?_
  refine lv_icmp_le (tgt := 17) hx hb dX0_put_12 (by decide) (fun c_1 => ?_) (fun c_1 => ?_)
  · skip
    have h16 : z + 16 ≤ 1024 := by
      have h := (nI_leI (by omega) (by decide)).mp c_1
      omega
    refine lv_aload_n hx hb dX0_put_17 rfl (lv_at hl 0 rfl) ?_
    refine lv_aload_n hx hb dX0_put_18 rfl (lv_at hl 0 rfl) ?_
    refine va_get (D := D) (ci := 0) (v := .int (nI z)) (C := RX0) (T := TX0) (N := 5) hx hb hts in_X0 hown hK hP 0 rfl rfl 4 (by decide) (hts _ q250) (fun _ h9 => h9) rfl dX0_put_19 ?_
    refine lv_iload_n hx hb dX0_put_22 rfl (lv_at hl 1 rfl) ?_
    refine cl_v [(hd, .inr (0, [vr, vo, .int fd, .ref ht, .int (nI z)])), (ht, .inl (dB, 1024, .inl T))] [] [0, 1] [] rfl rfl (by decide) (by decide) hP hD hS hA (va_runV (As := [.int (nI z), .int wa]) (rest := []) ⟨hx, hb, hml, hown, hts⟩ (m_word l D dB dN dL hd ht z vr vo fd (nI z) T wa _ (by omega)) (cwV 2 hts (lw_V q266 q268 qs2 q7 q269) rfl rfl rfl (by decide +kernel) ⟨Nat.le_of_ble_eq_true rfl, Nat.le_of_ble_eq_true rfl⟩) (pvV (ci := 0) (q0 := 0) (C := RX0) [0, 1] rfl (by decide) hP hK hD hS hA hX rfl rfl) rfl rfl hl.1 rfl (lv_room (Nat.le_of_ble_eq_true rfl)) dX0_put_23 ⟨Nat.le_of_ble_eq_true rfl, Nat.le_of_ble_eq_true rfl⟩) (fun u_2 H locs hw_3 hP hD hS => ?_)
    have hP : va_P D CL [(hd, .inr (0, [vr, vo, .int fd, .ref ht, .int (nI z)])), (ht, .inl (dB, 1024, .inl (wp T z wa)))] H := hP
    have hD : va_D A [(hd, .inr (0, [vr, vo, .int fd, .ref ht, .int (nI z)])), (ht, .inl (dB, 1024, .inl (wp T z wa)))] := hD
    refine lv_aload_n hx hb dX0_put_26 rfl (lv_at hl 0 rfl) ?_
    refine lv_aload_n hx hb dX0_put_27 rfl (lv_at hl 0 rfl) ?_
    refine va_get (D := D) (ci := 0) (v := .int (nI z)) (C := RX0) (T := TX0) (N := 5) hx hb hts in_X0 hown hK hP 0 rfl rfl 4 (by decide) (hts _ q250) (fun _ h9 => h9) rfl dX0_put_28 ?_
    refine lv_iconst (v := 4) hx hb dX0_put_31 (by decide) ?_
    refine lv_iadd hx hb dX0_put_32 ?_
    refine nmTi (b := (nI (z + 4))) (nI_add z 4) ?_
    refine lv_iload_n hx hb dX0_put_33 rfl (lv_at hl 2 rfl) ?_
    refine cl_v [(hd, .inr (0, [vr, vo, .int fd, .ref ht, .int (nI z)])), (ht, .inl (dB, 1024, .inl (wp T z wa)))] [] [0, 1] [] rfl rfl (by decide) (by decide) hP hD hS hA (va_runV (As := [.int (nI (z + 4)), .int wb]) (rest := []) ⟨hx, hb, hml, hown, hts⟩ (m_word l D dB dN dL hd ht (z + 4) vr vo fd (nI z) (wp T z wa) wb _ (by omega)) (cwV 2 hts (lw_V q266 q268 qs2 q7 q269) rfl rfl rfl (by decide +kernel) ⟨Nat.le_of_ble_eq_true rfl, Nat.le_of_ble_eq_true rfl⟩) (pvV (ci := 0) (q0 := 0) (C := RX0) [0, 1] rfl (by decide) hP hK hD hS hA hX rfl rfl) rfl rfl hl.1 rfl (lv_room (Nat.le_of_ble_eq_true rfl)) dX0_put_34 ⟨Nat.le_of_ble_eq_true rfl, Nat.le_of_ble_eq_true rfl⟩) (fun u_5 H locs hw_6 hP hD hS => ?_)
    have hP : va_P D CL [(hd, .inr (0, [vr, vo, .int fd, .ref ht, .int (nI z)])), (ht, .inl (dB, 1024, .inl (wp (wp T z wa) (z + 4) wb)))] H := hP
    have hD : va_D A [(hd, .inr (0, [vr, vo, .int fd, .ref ht, .int (nI z)])), (ht, .inl (dB, 1024, .inl (wp (wp T z wa) (z + 4) wb)))] := hD
    refine lv_aload_n hx hb dX0_put_37 rfl (lv_at hl 0 rfl) ?_
    refine lv_aload_n hx hb dX0_put_38 rfl (lv_at hl 0 rfl) ?_
    refine va_get (D := D) (ci := 0) (v := .int (nI z)) (C := RX0) (T := TX0) (N := 5) hx hb hts in_X0 hown hK hP 0 rfl rfl 4 (by decide) (hts _ q250) (fun _ h9 => h9) rfl dX0_put_39 ?_
    refine lv_bipush (v := 8) hx hb dX0_put_42 (by decide) ?_
    refine lv_iadd hx hb dX0_put_44 ?_
    refine nmTi (b := (nI (z + 8))) (nI_add z 8) ?_
    refine lv_iload_n hx hb dX0_put_45 rfl (lv_at hl 3 rfl) ?_
    refine cl_v [(hd, .inr (0, [vr, vo, .int fd, .ref ht, .int (nI z)])), (ht, .inl (dB, 1024, .inl (wp (wp T z wa) (z + 4) wb)))] [] [0, 1] [] rfl rfl (by decide) (by decide) hP hD hS hA (va_runV (As := [.int (nI (z + 8)), .int wc]) (rest := []) ⟨hx, hb, hml, hown, hts⟩ (m_word l D dB dN dL hd ht (z + 8) vr vo fd (nI z) (wp (wp T z wa) (z + 4) wb) wc _ (by omega)) (cwV 2 hts (lw_V q266 q268 qs2 q7 q269) rfl rfl rfl (by decide +kernel) ⟨Nat.le_of_ble_eq_true rfl, Nat.le_of_ble_eq_true rfl⟩) (pvV (ci := 0) (q0 := 0) (C := RX0) [0, 1] rfl (by decide) hP hK hD hS hA hX rfl rfl) rfl rfl hl.1 rfl (lv_room (Nat.le_of_ble_eq_true rfl)) dX0_put_46 ⟨Nat.le_of_ble_eq_true rfl, Nat.le_of_ble_eq_true rfl⟩) (fun u_8 H locs hw_9 hP hD hS => ?_)
    have hP : va_P D CL [(hd, .inr (0, [vr, vo, .int fd, .ref ht, .int (nI z)])), (ht, .inl (dB, 1024, .inl (wp (wp (wp T z wa) (z + 4) wb) (z + 8) wc)))] H := hP
    have hD : va_D A [(hd, .inr (0, [vr, vo, .int fd, .ref ht, .int (nI z)])), (ht, .inl (dB, 1024, .inl (wp (wp (wp T z wa) (z + 4) wb) (z + 8) wc)))] := hD
    refine lv_aload_n hx hb dX0_put_49 rfl (lv_at hl 0 rfl) ?_
    refine lv_aload_n hx hb dX0_put_50 rfl (lv_at hl 0 rfl) ?_
    refine va_get (D := D) (ci := 0) (v := .int (nI z)) (C := RX0) (T := TX0) (N := 5) hx hb hts in_X0 hown hK hP 0 rfl rfl 4 (by decide) (hts _ q250) (fun _ h9 => h9) rfl dX0_put_51 ?_
    refine lv_bipush (v := 12) hx hb dX0_put_54 (by decide) ?_
    refine lv_iadd hx hb dX0_put_56 ?_
    refine nmTi (b := (nI (z + 12))) (nI_add z 12) ?_
    refine lv_iload hx hb dX0_put_57 (lv_at hl 4 rfl) ?_
    refine cl_v [(hd, .inr (0, [vr, vo, .int fd, .ref ht, .int (nI z)])), (ht, .inl (dB, 1024, .inl (wp (wp (wp T z wa) (z + 4) wb) (z + 8) wc)))] [] [0, 1] [] rfl rfl (by decide) (by decide) hP hD hS hA (va_runV (As := [.int (nI (z + 12)), .int wd]) (rest := []) ⟨hx, hb, hml, hown, hts⟩ (m_word l D dB dN dL hd ht (z + 12) vr vo fd (nI z) (wp (wp (wp T z wa) (z + 4) wb) (z + 8) wc) wd _ (by omega)) (cwV 2 hts (lw_V q266 q268 qs2 q7 q269) rfl rfl rfl (by decide +kernel) ⟨Nat.le_of_ble_eq_true rfl, Nat.le_of_ble_eq_true rfl⟩) (pvV (ci := 0) (q0 := 0) (C := RX0) [0, 1] rfl (by decide) hP hK hD hS hA hX rfl rfl) rfl rfl hl.1 rfl (lv_room (Nat.le_of_ble_eq_true rfl)) dX0_put_59 ⟨Nat.le_of_ble_eq_true rfl, Nat.le_of_ble_eq_true rfl⟩) (fun u_11 H locs hw_12 hP hD hS => ?_)
    have hP : va_P D CL [(hd, .inr (0, [vr, vo, .int fd, .ref ht, .int (nI z)])), (ht, .inl (dB, 1024, .inl (wp (wp (wp (wp T z wa) (z + 4) wb) (z + 8) wc) (z + 12) wd)))] H := hP
    have hD : va_D A [(hd, .inr (0, [vr, vo, .int fd, .ref ht, .int (nI z)])), (ht, .inl (dB, 1024, .inl (wp (wp (wp (wp T z wa) (z + 4) wb) (z + 8) wc) (z + 12) wd)))] := hD
    refine lv_aload_n hx hb dX0_put_62 rfl (lv_at hl 0 rfl) ?_
    refine lv_dup hx hb dX0_put_63 rfl ?_
    refine va_get (D := D) (ci := 0) (v := .int (nI z)) (C := RX0) (T := TX0) (N := 5) hx hb hts in_X0 hown hK hP 0 rfl rfl 4 (by decide) (hts _ q250) (fun _ h9 => h9) rfl dX0_put_64 ?_
    refine lv_bipush (v := 16) hx hb dX0_put_67 (by decide) ?_
    refine lv_iadd hx hb dX0_put_69 ?_
    refine nmTi (b := (nI (z + 16))) (nI_add z 16) ?_
    refine va_put (D := D) (ci := 0) (v := .int (nI (z + 16))) (ty := .int) (C := RX0) (T := TX0) (N := 5) hx hb hts in_X0 tyX0 tyX0_ok nmX0 hown hK hP hD hS 0 rfl rfl 4 (by decide) (hts _ q250) (fun _ h9 => h9) rfl (by decide +kernel) rfl rfl (Nat.le_of_ble_eq_true rfl) dX0_put_70 (fun H locs hP hD hS => ?_)
    have hP : va_P D CL [(hd, .inr (0, [vr, vo, .int fd, .ref ht, .int (nI (z + 16))])), (ht, .inl (dB, 1024, .inl (wp (wp (wp (wp T z wa) (z + 4) wb) (z + 8) wc) (z + 12) wd)))] H := hP
    have hD : va_D A [(hd, .inr (0, [vr, vo, .int fd, .ref ht, .int (nI (z + 16))])), (ht, .inl (dB, 1024, .inl (wp (wp (wp (wp T z wa) (z + 4) wb) (z + 8) wc) (z + 12) wd)))] := hD
    refine lv_iconst (v := 1) hx hb dX0_put_73 (by decide) ?_
    exact rt_z hx hb hr hlocks hP hK hD hS dX0_put_74 (by rfl) (z + 16, p4 T z wa wb wc wd) [0, 1] rfl (by decide) ⟨(if_pos h16).symm, (if_pos h16).symm⟩
  · skip
    have h16 : ¬ z + 16 ≤ 1024 := fun h => c_1 (nI_le (by omega) (by omega))
    refine lv_iconst (v := 0) hx hb dX0_put_15 (by decide) ?_
    exact rt_z hx hb hr hlocks hP hK hD hS dX0_put_16 (by rfl) (z, T) [0, 1] rfl (by decide) ⟨(if_neg h16).symm, (if_neg h16).symm⟩

set_option maxHeartbeats 4000000 in
set_option maxRecDepth 100000 in
/-- AsconHashDesk.from -/
theorem m_from (l : Launch) (D : va_G) (dB dN dL : ClassId) (hd z : Nat) (vr vo vt : Value) (fd x : Int32) (sz : Nat) (hz : z ≤ 1024) : Ci_ l yX0_from (ws_ yX0_from cX0_from 2 (some .int)) (rm_ 0 0 0 0) D dB dN dL [.ref hd, .int x] [(hd, .inr (0, [vr, vo, .int fd, vt, .int (nI z)]))] sz (S := Unit) (fun r _ => r = nI (fo x (z + 1))) (fun _ => [(hd, .inr (0, [vr, vo, .int fd, vt, .int (nI z)]))]) := by
  refine ct_of (cc := cX0_from) (maxL := 2) (ret := (some .int)) (by decide) rfl (Nat.le_of_ble_eq_true rfl) (fun p e s m below meth c A ls hx hb hml hr hlocks hts hown hin hP hK hD hA hX hS hl => ?_)
  have hown : s.vm.findClass RX0 = some m.cls := hown
  have hl : lv_has ls 2 [(0, .ref hd), (1, .int x)] := hl
  refine lv_iload_n hx hb dX0_from_0 rfl (lv_at hl 1 rfl) ?_
  refine lv_ldc (v := 2147483647) hx hb hown (hts _ q278) dX0_from_1 ?_
  refine lv_iand hx hb dX0_from_3 ?_
  refine nmTi (b := (nI (fx x))) (fx_and x) ?_
  refine lv_aload_n hx hb dX0_from_4 rfl (lv_at hl 0 rfl) ?_
  refine va_get (D := D) (ci := 0) (v := .int (nI z)) (C := RX0) (T := TX0) (N := 5) hx hb hts in_X0 hown hK hP 0 rfl rfl 4 (by decide) (hts _ q250) (fun _ h9 => h9) rfl dX0_from_5 ?_
  refine lv_iconst (v := 1) hx hb dX0_from_8 (by decide) ?_
  refine lv_iadd hx hb dX0_from_9 ?_
  refine nmTi (b := (nI (z + 1))) (nI_1 z) ?_
  refine lv_irem hx hb dX0_from_10 (nI_ne0 (by omega) (by omega)) ?_
  refine nmTi (b := (nI (fo x (z + 1)))) (fo_rem x (by omega) (by omega)) ?_
  exact rt_i hx hb hr hlocks hP hK hD hS dX0_from_11 () [0] rfl (by decide) rfl

set_option maxHeartbeats 4000000 in
set_option maxRecDepth 100000 in
/-- AsconHashDesk.count -/
theorem m_count (l : Launch) (D : va_G) (dB dN dL : ClassId) (hd z f : Nat) (vr vo vt : Value) (fd x : Int32) (sz : Nat) (hz : z ≤ 1024) (hf : f ≤ z) : Ci_ l yX0_count (ws_ yX0_count cX0_count 3 (some .int)) (rm_ 0 0 0 0) D dB dN dL [.ref hd, .int (nI f), .int x] [(hd, .inr (0, [vr, vo, .int fd, vt, .int (nI z)]))] sz (S := Unit) (fun r _ => r = nI (fo x (z - f + 1))) (fun _ => [(hd, .inr (0, [vr, vo, .int fd, vt, .int (nI z)]))]) := by
  refine ct_of (cc := cX0_count) (maxL := 3) (ret := (some .int)) (by decide) rfl (Nat.le_of_ble_eq_true rfl) (fun p e s m below meth c A ls hx hb hml hr hlocks hts hown hin hP hK hD hA hX hS hl => ?_)
  have hown : s.vm.findClass RX0 = some m.cls := hown
  have hl : lv_has ls 3 [(0, .ref hd), (1, .int (nI f)), (2, .int x)] := hl
  refine lv_iload_n hx hb dX0_count_0 rfl (lv_at hl 2 rfl) ?_
  refine lv_ldc (v := 2147483647) hx hb hown (hts _ q278) dX0_count_1 ?_
  refine lv_iand hx hb dX0_count_3 ?_
  refine nmTi (b := (nI (fx x))) (fx_and x) ?_
  refine lv_aload_n hx hb dX0_count_4 rfl (lv_at hl 0 rfl) ?_
  refine va_get (D := D) (ci := 0) (v := .int (nI z)) (C := RX0) (T := TX0) (N := 5) hx hb hts in_X0 hown hK hP 0 rfl rfl 4 (by decide) (hts _ q250) (fun _ h9 => h9) rfl dX0_count_5 ?_
  refine lv_iload_n hx hb dX0_count_8 rfl (lv_at hl 1 rfl) ?_
  refine lv_isub hx hb dX0_count_9 ?_
  refine nmTi (b := (nI (z - f))) (pk_sub hf) ?_
  refine lv_iconst (v := 1) hx hb dX0_count_10 (by decide) ?_
  refine lv_iadd hx hb dX0_count_11 ?_
  refine nmTi (b := (nI (z - f + 1))) (nI_1 _) ?_
  refine lv_irem hx hb dX0_count_12 (nI_ne0 (by omega) (by omega)) ?_
  refine nmTi (b := (nI (fo x (z - f + 1)))) (fo_rem x (by omega) (by omega)) ?_
  exact rt_i hx hb hr hlocks hP hK hD hS dX0_count_13 () [0] rfl (by decide) rfl

set_option maxHeartbeats 4000000 in
set_option maxRecDepth 100000 in
/-- AsconHashDesk.trim -/
theorem m_trim (l : Launch) (D : va_G) (dB dN dL : ClassId) (hd z : Nat) (vr vo vt : Value) (fd x : Int32) (sz : Nat) (hz : z ≤ 1024) : Cv_ l yX0_trim (ws_ yX0_trim cX0_trim 2 none) (rm_ 1 0 0 21) D dB dN dL [.ref hd, .int x] [(hd, .inr (0, [vr, vo, .int fd, vt, .int (nI z)]))] sz (S := Unit) (fun _ => True) (fun _ => [(hd, .inr (0, [vr, vo, .int fd, vt, .int (nI (fo x (z + 1)))]))]) := by
  refine ct_of (cc := cX0_trim) (maxL := 2) (ret := none) (by decide) rfl (Nat.le_of_ble_eq_true rfl) (fun p e s m below meth c A ls hx hb hml hr hlocks hts hown hin hP hK hD hA hX hS hl => ?_)
  have hown : s.vm.findClass RX0 = some m.cls := hown
  have hl : lv_has ls 2 [(0, .ref hd), (1, .int x)] := hl
  refine lv_aload_n hx hb dX0_trim_0 rfl (lv_at hl 0 rfl) ?_
  refine lv_aload_n hx hb dX0_trim_1 rfl (lv_at hl 0 rfl) ?_
  refine lv_iload_n hx hb dX0_trim_2 rfl (lv_at hl 1 rfl) ?_
  refine cl_i [(hd, .inr (0, [vr, vo, .int fd, vt, .int (nI z)]))] [] [0] [] rfl rfl (by decide) (by decide) hP hD hS hA (va_runV (As := [.int x]) (rest := [.ref hd]) ⟨hx, hb, hml, hown, hts⟩ (m_from l D dB dN dL hd z vr vo vt fd x _ hz) (cwV 1 hts (lw_V q274 q276 qs3 q7 q277) rfl rfl rfl (by decide +kernel) ⟨Nat.le_of_ble_eq_true rfl, Nat.le_of_ble_eq_true rfl⟩) (pvV (ci := 0) (q0 := 0) (C := RX0) [0] rfl (by decide) hP hK hD hS hA hX rfl rfl) rfl rfl hl.1 rfl (lv_room (Nat.le_of_ble_eq_true rfl)) dX0_trim_3 ⟨Nat.le_of_ble_eq_true rfl, Nat.le_of_ble_eq_true rfl⟩) (fun r_3 u_1 H locs hw_2 hP hD hS => ?_)
  have hP : va_P D CL [(hd, .inr (0, [vr, vo, .int fd, vt, .int (nI z)]))] H := hP
  have hD : va_D A [(hd, .inr (0, [vr, vo, .int fd, vt, .int (nI z)]))] := hD
  refine nmTi (b := (nI (fo x (z + 1)))) hw_2 ?_
  refine va_put (D := D) (ci := 0) (v := .int (nI (fo x (z + 1)))) (ty := .int) (C := RX0) (T := TX0) (N := 5) hx hb hts in_X0 tyX0 tyX0_ok nmX0 hown hK hP hD hS 0 rfl rfl 4 (by decide) (hts _ q250) (fun _ h9 => h9) rfl (by decide +kernel) rfl rfl (Nat.le_of_ble_eq_true rfl) dX0_trim_6 (fun H locs hP hD hS => ?_)
  have hP : va_P D CL [(hd, .inr (0, [vr, vo, .int fd, vt, .int (nI (fo x (z + 1)))]))] H := hP
  have hD : va_D A [(hd, .inr (0, [vr, vo, .int fd, vt, .int (nI (fo x (z + 1)))]))] := hD
  exact rt_v hx hb hr hlocks hP hK hD hS dX0_trim_9 () [0] rfl (by decide) trivial

set_option maxHeartbeats 4000000 in
set_option maxRecDepth 100000 in
/-- AsconHashDesk.begin -/
theorem m_begin (l : Launch) (D : va_G) (dB dN dL : ClassId) (hd : Nat) (vr vo vt : Value) (fd zs x : Int32) (sz : Nat)  : Cv_ l yX0_begin (ws_ yX0_begin cX0_begin 2 none) (rm_ 5 4 22 104) D dB dN dL [.ref hd, .int x] [(hd, .inr (0, [vr, vo, .int fd, vt, .int zs]))] sz (S := Nat × Nat × Nat × Nat × Nat × (Nat → Int32)) (fun _ => True) (fun u => [(hd, .inr (0, [.ref u.1, vo, .int 0, vt, .int zs])), (u.1, .inr (1, [.int 32, .int 8, .ref u.2.1, .int 0, .ref u.2.2.2.2.1, .ref u.2.2.1, .ref u.2.2.2.1, .int 12])), (u.2.1, .inl (dB, 8, .inl u.2.2.2.2.2)), (u.2.2.1, .inr (2, [.ref u.1])), (u.2.2.2.1, .inr (3, [.long iv.1, .long iv.2.1, .long iv.2.2.1, .long iv.2.2.2.1, .long iv.2.2.2.2]))]) := by
  refine ct_of (cc := cX0_begin) (maxL := 2) (ret := none) (by decide) rfl (Nat.le_of_ble_eq_true rfl) (fun p e s m below meth c A ls hx hb hml hr hlocks hts hown hin hP hK hD hA hX hS hl => ?_)
  have hown : s.vm.findClass RX0 = some m.cls := hown
  have hl : lv_has ls 2 [(0, .ref hd), (1, .int x)] := hl
  refine lv_aload_n hx hb dX0_begin_0 rfl (lv_at hl 0 rfl) ?_
  refine va_new (ci := 1) (fs := [.int 0, .int 0, .null, .int 0, .null, .null, .null, .int 0]) (C := RX3) (T := TX3) (N := 8) hx hb hts in_X3 tyX3 tyX3_ok hown (hts _ q40) (hts _ q41) (hts _ q10) hK hP hD hS hA rfl (fun j hj => by rcases (show j = 0 ∨ j = 1 ∨ j = 2 ∨ j = 3 ∨ j = 4 ∨ j = 5 ∨ j = 6 ∨ j = 7 by omega) with rfl|rfl|rfl|rfl|rfl|rfl|rfl|rfl <;> rfl) (Nat.le_of_ble_eq_true rfl) (Nat.le_of_ble_eq_true rfl) dX0_begin_1 (fun q_1 H hP hD hS => ?_)
  have hP : va_P D CL [(hd, .inr (0, [vr, vo, .int fd, vt, .int zs])), (q_1, .inr (1, [.int 0, .int 0, .null, .int 0, .null, .null, .null, .int 0]))] H := hP
  have hD : va_D A [(hd, .inr (0, [vr, vo, .int fd, vt, .int zs])), (q_1, .inr (1, [.int 0, .int 0, .null, .int 0, .null, .null, .null, .int 0]))] := hD
  refine lv_dup hx hb dX0_begin_4 rfl ?_
  refine cl_v [(q_1, .inr (1, [.int 0, .int 0, .null, .int 0, .null, .null, .null, .int 0]))] [(hd, .inr (0, [vr, vo, .int fd, vt, .int zs]))] [1] [0] rfl rfl (by decide) (by decide) hP hD hS hA (va_runI (As := []) (rest := [.ref q_1, .ref hd]) ⟨hx, hb, hml, hown, hts⟩ (m_hashI l D dB dN dL q_1 _) (cwI 0 hts (lw_meth q44) rfl rfl rfl (hts _ q10) (hts _ q42) (hts _ q43) rfl (by decide +kernel) ⟨Nat.le_of_ble_eq_true rfl, Nat.le_of_ble_eq_true rfl⟩) (pv_ (As := [.ref q_1]) [1] rfl (by decide) hP hK hD hS hA hX) rfl rfl hl.1 rfl (lv_room (Nat.le_of_ble_eq_true rfl)) dX0_begin_5 ⟨Nat.le_of_ble_eq_true rfl, Nat.le_of_ble_eq_true rfl⟩) (fun u_2 H locs hw_3 hP hD hS => ?_)
  obtain ⟨qb, qi, qp, qa, buf⟩ := u_2
  have hP : va_P D CL [(hd, .inr (0, [vr, vo, .int fd, vt, .int zs])), (q_1, .inr (1, [.int 32, .int 8, .ref qb, .int 0, .ref qa, .ref qi, .ref qp, .int 12])), (qb, .inl (dB, 8, .inl buf)), (qi, .inr (2, [.ref q_1])), (qp, .inr (3, [.long iv.1, .long iv.2.1, .long iv.2.2.1, .long iv.2.2.2.1, .long iv.2.2.2.2]))] H := hP
  have hD : va_D A [(hd, .inr (0, [vr, vo, .int fd, vt, .int zs])), (q_1, .inr (1, [.int 32, .int 8, .ref qb, .int 0, .ref qa, .ref qi, .ref qp, .int 12])), (qb, .inl (dB, 8, .inl buf)), (qi, .inr (2, [.ref q_1])), (qp, .inr (3, [.long iv.1, .long iv.2.1, .long iv.2.2.1, .long iv.2.2.2.1, .long iv.2.2.2.2]))] := hD
  refine va_put (D := D) (ci := 0) (v := .ref q_1) (ty := .object "Digest") (C := RX0) (T := TX0) (N := 5) hx hb hts in_X0 tyX0 tyX0_ok nmX0 hown hK hP hD hS 0 rfl rfl 0 (by decide) (hts _ q246) (fun _ h9 => h9) rfl (by decide +kernel) rfl rfl (Nat.le_of_ble_eq_true rfl) dX0_begin_8 (fun H locs hP hD hS => ?_)
  have hP : va_P D CL [(hd, .inr (0, [.ref q_1, vo, .int fd, vt, .int zs])), (q_1, .inr (1, [.int 32, .int 8, .ref qb, .int 0, .ref qa, .ref qi, .ref qp, .int 12])), (qb, .inl (dB, 8, .inl buf)), (qi, .inr (2, [.ref q_1])), (qp, .inr (3, [.long iv.1, .long iv.2.1, .long iv.2.2.1, .long iv.2.2.2.1, .long iv.2.2.2.2]))] H := hP
  have hD : va_D A [(hd, .inr (0, [.ref q_1, vo, .int fd, vt, .int zs])), (q_1, .inr (1, [.int 32, .int 8, .ref qb, .int 0, .ref qa, .ref qi, .ref qp, .int 12])), (qb, .inl (dB, 8, .inl buf)), (qi, .inr (2, [.ref q_1])), (qp, .inr (3, [.long iv.1, .long iv.2.1, .long iv.2.2.1, .long iv.2.2.2.1, .long iv.2.2.2.2]))] := hD
  refine lv_aload_n hx hb dX0_begin_11 rfl (lv_at hl 0 rfl) ?_
  refine lv_iconst (v := 0) hx hb dX0_begin_12 (by decide) ?_
  refine va_put (D := D) (ci := 0) (v := .int 0) (ty := .int) (C := RX0) (T := TX0) (N := 5) hx hb hts in_X0 tyX0 tyX0_ok nmX0 hown hK hP hD hS 0 rfl rfl 2 (by decide) (hts _ q248) (fun _ h9 => h9) rfl (by decide +kernel) rfl rfl (Nat.le_of_ble_eq_true rfl) dX0_begin_13 (fun H locs hP hD hS => ?_)
  have hP : va_P D CL [(hd, .inr (0, [.ref q_1, vo, .int 0, vt, .int zs])), (q_1, .inr (1, [.int 32, .int 8, .ref qb, .int 0, .ref qa, .ref qi, .ref qp, .int 12])), (qb, .inl (dB, 8, .inl buf)), (qi, .inr (2, [.ref q_1])), (qp, .inr (3, [.long iv.1, .long iv.2.1, .long iv.2.2.1, .long iv.2.2.2.1, .long iv.2.2.2.2]))] H := hP
  have hD : va_D A [(hd, .inr (0, [.ref q_1, vo, .int 0, vt, .int zs])), (q_1, .inr (1, [.int 32, .int 8, .ref qb, .int 0, .ref qa, .ref qi, .ref qp, .int 12])), (qb, .inl (dB, 8, .inl buf)), (qi, .inr (2, [.ref q_1])), (qp, .inr (3, [.long iv.1, .long iv.2.1, .long iv.2.2.1, .long iv.2.2.2.1, .long iv.2.2.2.2]))] := hD
  exact rt_v hx hb hr hlocks hP hK hD hS dX0_begin_16 (q_1, qb, qi, qp, qa, buf) [0, 1, 2, 3, 4] rfl (by decide) trivial

set_option maxHeartbeats 4000000 in
set_option maxRecDepth 100000 in
/-- AsconHashDesk() -/
theorem m_deskI (l : Launch) (D : va_G) (dB dN dL : ClassId) (hd : Nat) (sz : Nat)  : Cv_ l yX0_init (ws_ yX0_init cX0_init 1 none) (rm_ 5 6 1078 104) D dB dN dL [.ref hd] [(hd, .inr (0, [.null, .null, .int 0, .null, .int 0]))] sz (S := Nat × Nat × Nat × Nat × Nat × (Nat → Int32) × Nat × Nat) (fun _ => True) (fun u => [(hd, .inr (0, [.ref u.1, .ref u.2.2.2.2.2.2.1, .int 0, .ref u.2.2.2.2.2.2.2, .int 0])), (u.1, .inr (1, [.int 32, .int 8, .ref u.2.1, .int 0, .ref u.2.2.2.2.1, .ref u.2.2.1, .ref u.2.2.2.1, .int 12])), (u.2.1, .inl (dB, 8, .inl u.2.2.2.2.2.1)), (u.2.2.1, .inr (2, [.ref u.1])), (u.2.2.2.1, .inr (3, [.long iv.1, .long iv.2.1, .long iv.2.2.1, .long iv.2.2.2.1, .long iv.2.2.2.2])), (u.2.2.2.2.2.2.1, .inl (dB, 32, .inl (fun _ => 0))), (u.2.2.2.2.2.2.2, .inl (dB, 1024, .inl (fun _ => 0)))]) := by
  refine ct_of (cc := cX0_init) (maxL := 1) (ret := none) (by decide) rfl (Nat.le_of_ble_eq_true rfl) (fun p e s m below meth c A ls hx hb hml hr hlocks hts hown hin hP hK hD hA hX hS hl => ?_)
  have hown : s.vm.findClass RX0 = some m.cls := hown
  have hl : lv_has ls 1 [(0, .ref hd)] := hl
  refine lv_aload_n hx hb dX0_init_0 rfl (lv_at hl 0 rfl) ?_
  refine W.objInit hx hb hown (hts _ q37) (hts _ q38) (hts _ q39) rfl (by rw [hml]; exact hl.1) rfl dX0_init_1 (Nat.le_of_ble_eq_true rfl) (Nat.le_of_ble_eq_true rfl) ?_
  refine W.eq (g2 := F0 m 4 ls []) rfl ?_
  refine lv_aload_n hx hb dX0_init_4 rfl (lv_at hl 0 rfl) ?_
  refine va_new (ci := 1) (fs := [.int 0, .int 0, .null, .int 0, .null, .null, .null, .int 0]) (C := RX3) (T := TX3) (N := 8) hx hb hts in_X3 tyX3 tyX3_ok hown (hts _ q40) (hts _ q41) (hts _ q10) hK hP hD hS hA rfl (fun j hj => by rcases (show j = 0 ∨ j = 1 ∨ j = 2 ∨ j = 3 ∨ j = 4 ∨ j = 5 ∨ j = 6 ∨ j = 7 by omega) with rfl|rfl|rfl|rfl|rfl|rfl|rfl|rfl <;> rfl) (Nat.le_of_ble_eq_true rfl) (Nat.le_of_ble_eq_true rfl) dX0_init_5 (fun q_1 H hP hD hS => ?_)
  have hP : va_P D CL [(hd, .inr (0, [.null, .null, .int 0, .null, .int 0])), (q_1, .inr (1, [.int 0, .int 0, .null, .int 0, .null, .null, .null, .int 0]))] H := hP
  have hD : va_D A [(hd, .inr (0, [.null, .null, .int 0, .null, .int 0])), (q_1, .inr (1, [.int 0, .int 0, .null, .int 0, .null, .null, .null, .int 0]))] := hD
  refine lv_dup hx hb dX0_init_8 rfl ?_
  refine cl_v [(q_1, .inr (1, [.int 0, .int 0, .null, .int 0, .null, .null, .null, .int 0]))] [(hd, .inr (0, [.null, .null, .int 0, .null, .int 0]))] [1] [0] rfl rfl (by decide) (by decide) hP hD hS hA (va_runI (As := []) (rest := [.ref q_1, .ref hd]) ⟨hx, hb, hml, hown, hts⟩ (m_hashI l D dB dN dL q_1 _) (cwI 0 hts (lw_meth q44) rfl rfl rfl (hts _ q10) (hts _ q42) (hts _ q43) rfl (by decide +kernel) ⟨Nat.le_of_ble_eq_true rfl, Nat.le_of_ble_eq_true rfl⟩) (pv_ (As := [.ref q_1]) [1] rfl (by decide) hP hK hD hS hA hX) rfl rfl hl.1 rfl (lv_room (Nat.le_of_ble_eq_true rfl)) dX0_init_9 ⟨Nat.le_of_ble_eq_true rfl, Nat.le_of_ble_eq_true rfl⟩) (fun u_2 H locs hw_3 hP hD hS => ?_)
  obtain ⟨qb, qi, qp, qa, buf⟩ := u_2
  have hP : va_P D CL [(hd, .inr (0, [.null, .null, .int 0, .null, .int 0])), (q_1, .inr (1, [.int 32, .int 8, .ref qb, .int 0, .ref qa, .ref qi, .ref qp, .int 12])), (qb, .inl (dB, 8, .inl buf)), (qi, .inr (2, [.ref q_1])), (qp, .inr (3, [.long iv.1, .long iv.2.1, .long iv.2.2.1, .long iv.2.2.2.1, .long iv.2.2.2.2]))] H := hP
  have hD : va_D A [(hd, .inr (0, [.null, .null, .int 0, .null, .int 0])), (q_1, .inr (1, [.int 32, .int 8, .ref qb, .int 0, .ref qa, .ref qi, .ref qp, .int 12])), (qb, .inl (dB, 8, .inl buf)), (qi, .inr (2, [.ref q_1])), (qp, .inr (3, [.long iv.1, .long iv.2.1, .long iv.2.2.1, .long iv.2.2.2.1, .long iv.2.2.2.2]))] := hD
  refine va_put (D := D) (ci := 0) (v := .ref q_1) (ty := .object "Digest") (C := RX0) (T := TX0) (N := 5) hx hb hts in_X0 tyX0 tyX0_ok nmX0 hown hK hP hD hS 0 rfl rfl 0 (by decide) (hts _ q246) (fun _ h9 => h9) rfl (by decide +kernel) rfl rfl (Nat.le_of_ble_eq_true rfl) dX0_init_12 (fun H locs hP hD hS => ?_)
  have hP : va_P D CL [(hd, .inr (0, [.ref q_1, .null, .int 0, .null, .int 0])), (q_1, .inr (1, [.int 32, .int 8, .ref qb, .int 0, .ref qa, .ref qi, .ref qp, .int 12])), (qb, .inl (dB, 8, .inl buf)), (qi, .inr (2, [.ref q_1])), (qp, .inr (3, [.long iv.1, .long iv.2.1, .long iv.2.2.1, .long iv.2.2.2.1, .long iv.2.2.2.2]))] H := hP
  have hD : va_D A [(hd, .inr (0, [.ref q_1, .null, .int 0, .null, .int 0])), (q_1, .inr (1, [.int 32, .int 8, .ref qb, .int 0, .ref qa, .ref qi, .ref qp, .int 12])), (qb, .inl (dB, 8, .inl buf)), (qi, .inr (2, [.ref q_1])), (qp, .inr (3, [.long iv.1, .long iv.2.1, .long iv.2.2.1, .long iv.2.2.2.1, .long iv.2.2.2.2]))] := hD
  refine lv_aload_n hx hb dX0_init_15 rfl (lv_at hl 0 rfl) ?_
  refine lv_bipush (v := 32) hx hb dX0_init_16 (by decide) ?_
  refine na_ (N' := 32) (t0 := 0) (dA := dB) (a0 := (32, .inl (fun _ => 0))) (atype := .byte) (ty := .byte) hx hb rfl (fun _ h => by cases h) (hts _ q64) hK rfl hP hD hS hA (fun _ => rfl) (by decide) rfl (Nat.le_of_ble_eq_true rfl) (Nat.le_of_ble_eq_true rfl) (Nat.le_of_ble_eq_true rfl) dX0_init_18 (fun q_5 H hP hD hS => ?_)
  have hP : va_P D CL [(hd, .inr (0, [.ref q_1, .null, .int 0, .null, .int 0])), (q_1, .inr (1, [.int 32, .int 8, .ref qb, .int 0, .ref qa, .ref qi, .ref qp, .int 12])), (qb, .inl (dB, 8, .inl buf)), (qi, .inr (2, [.ref q_1])), (qp, .inr (3, [.long iv.1, .long iv.2.1, .long iv.2.2.1, .long iv.2.2.2.1, .long iv.2.2.2.2])), (q_5, .inl (dB, 32, .inl (fun _ => 0)))] H := hP
  have hD : va_D A [(hd, .inr (0, [.ref q_1, .null, .int 0, .null, .int 0])), (q_1, .inr (1, [.int 32, .int 8, .ref qb, .int 0, .ref qa, .ref qi, .ref qp, .int 12])), (qb, .inl (dB, 8, .inl buf)), (qi, .inr (2, [.ref q_1])), (qp, .inr (3, [.long iv.1, .long iv.2.1, .long iv.2.2.1, .long iv.2.2.2.1, .long iv.2.2.2.2])), (q_5, .inl (dB, 32, .inl (fun _ => 0)))] := hD
  refine va_putF (D := D) (ci := 0) (v := .ref q_5) (ty := .array .byte) (C := RX0) (T := TX0) (N := 5) hx hb hts in_X0 tyX0 tyX0_ok nmX0 hown hK hP hD hS 0 rfl rfl 1 (by decide) (hts _ q247) (fun _ h9 => h9) rfl hin rfl (by decide +kernel) rfl rfl (Nat.le_of_ble_eq_true rfl) dX0_init_20 (fun H locs hP hD hS => ?_)
  have hP : va_P D CL [(hd, .inr (0, [.ref q_1, .ref q_5, .int 0, .null, .int 0])), (q_1, .inr (1, [.int 32, .int 8, .ref qb, .int 0, .ref qa, .ref qi, .ref qp, .int 12])), (qb, .inl (dB, 8, .inl buf)), (qi, .inr (2, [.ref q_1])), (qp, .inr (3, [.long iv.1, .long iv.2.1, .long iv.2.2.1, .long iv.2.2.2.1, .long iv.2.2.2.2])), (q_5, .inl (dB, 32, .inl (fun _ => 0)))] H := hP
  have hD : va_D A [(hd, .inr (0, [.ref q_1, .ref q_5, .int 0, .null, .int 0])), (q_1, .inr (1, [.int 32, .int 8, .ref qb, .int 0, .ref qa, .ref qi, .ref qp, .int 12])), (qb, .inl (dB, 8, .inl buf)), (qi, .inr (2, [.ref q_1])), (qp, .inr (3, [.long iv.1, .long iv.2.1, .long iv.2.2.1, .long iv.2.2.2.1, .long iv.2.2.2.2])), (q_5, .inl (dB, 32, .inl (fun _ => 0)))] := hD
  refine lv_aload_n hx hb dX0_init_23 rfl (lv_at hl 0 rfl) ?_
  refine lv_sipush (v := 1024) hx hb dX0_init_24 (by decide) ?_
  refine na_ (N' := 1024) (t0 := 0) (dA := dB) (a0 := (1024, .inl (fun _ => 0))) (atype := .byte) (ty := .byte) hx hb rfl (fun _ h => by cases h) (hts _ q64) hK rfl hP hD hS hA (fun _ => rfl) (by decide) rfl (Nat.le_of_ble_eq_true rfl) (Nat.le_of_ble_eq_true rfl) (Nat.le_of_ble_eq_true rfl) dX0_init_27 (fun q_6 H hP hD hS => ?_)
  have hP : va_P D CL [(hd, .inr (0, [.ref q_1, .ref q_5, .int 0, .null, .int 0])), (q_1, .inr (1, [.int 32, .int 8, .ref qb, .int 0, .ref qa, .ref qi, .ref qp, .int 12])), (qb, .inl (dB, 8, .inl buf)), (qi, .inr (2, [.ref q_1])), (qp, .inr (3, [.long iv.1, .long iv.2.1, .long iv.2.2.1, .long iv.2.2.2.1, .long iv.2.2.2.2])), (q_5, .inl (dB, 32, .inl (fun _ => 0))), (q_6, .inl (dB, 1024, .inl (fun _ => 0)))] H := hP
  have hD : va_D A [(hd, .inr (0, [.ref q_1, .ref q_5, .int 0, .null, .int 0])), (q_1, .inr (1, [.int 32, .int 8, .ref qb, .int 0, .ref qa, .ref qi, .ref qp, .int 12])), (qb, .inl (dB, 8, .inl buf)), (qi, .inr (2, [.ref q_1])), (qp, .inr (3, [.long iv.1, .long iv.2.1, .long iv.2.2.1, .long iv.2.2.2.1, .long iv.2.2.2.2])), (q_5, .inl (dB, 32, .inl (fun _ => 0))), (q_6, .inl (dB, 1024, .inl (fun _ => 0)))] := hD
  refine va_putF (D := D) (ci := 0) (v := .ref q_6) (ty := .array .byte) (C := RX0) (T := TX0) (N := 5) hx hb hts in_X0 tyX0 tyX0_ok nmX0 hown hK hP hD hS 0 rfl rfl 3 (by decide) (hts _ q249) (fun _ h9 => h9) rfl hin rfl (by decide +kernel) rfl rfl (Nat.le_of_ble_eq_true rfl) dX0_init_29 (fun H locs hP hD hS => ?_)
  have hP : va_P D CL [(hd, .inr (0, [.ref q_1, .ref q_5, .int 0, .ref q_6, .int 0])), (q_1, .inr (1, [.int 32, .int 8, .ref qb, .int 0, .ref qa, .ref qi, .ref qp, .int 12])), (qb, .inl (dB, 8, .inl buf)), (qi, .inr (2, [.ref q_1])), (qp, .inr (3, [.long iv.1, .long iv.2.1, .long iv.2.2.1, .long iv.2.2.2.1, .long iv.2.2.2.2])), (q_5, .inl (dB, 32, .inl (fun _ => 0))), (q_6, .inl (dB, 1024, .inl (fun _ => 0)))] H := hP
  have hD : va_D A [(hd, .inr (0, [.ref q_1, .ref q_5, .int 0, .ref q_6, .int 0])), (q_1, .inr (1, [.int 32, .int 8, .ref qb, .int 0, .ref qa, .ref qi, .ref qp, .int 12])), (qb, .inl (dB, 8, .inl buf)), (qi, .inr (2, [.ref q_1])), (qp, .inr (3, [.long iv.1, .long iv.2.1, .long iv.2.2.1, .long iv.2.2.2.1, .long iv.2.2.2.2])), (q_5, .inl (dB, 32, .inl (fun _ => 0))), (q_6, .inl (dB, 1024, .inl (fun _ => 0)))] := hD
  exact rt_v hx hb hr hlocks hP hK hD hS dX0_init_32 (q_1, qb, qi, qp, qa, buf, q_5, q_6) [0, 1, 2, 3, 4, 5, 6] rfl (by decide) trivial

set_option maxHeartbeats 4000000 in
set_option maxRecDepth 100000 in
/-- AsconHashDesk.feed -/
theorem m_feed (l : Launch) (D : va_G) (dB dN dL : ClassId) (hd ht : Nat) (hH qb qa qi qp : Nat) (n z f kc : Nat) (vo : Value) (xa xn : Int32) (M T : Nat → Int32) (x : P5) (buf : Nat → Int32) (sz : Nat) (hz : z ≤ 1024) (hn : n ≤ 16384) (ef : f = fo xa (z + 1)) (ec : kc = fo xn (z - f + 1)) (hR : Rp M n x buf) (hT : ∀ i, i < kc → M (n + i) = T (f + i)) (hfit : sb_Fit T) : Ci_ l yX0_feed (ws_ yX0_feed cX0_feed 5 (some .boolean)) (rm_ 7 0 0 149) D dB dN dL [.ref hd, .int xa, .int xn] [(hd, .inr (0, [.ref hH, vo, .int (nI n), .ref ht, .int (nI z)])), (ht, .inl (dB, 1024, .inl T)), (hH, .inr (1, [.int 32, .int 8, .ref qb, .int (nI (n % 8)), .ref qa, .ref qi, .ref qp, .int 12])), (qb, .inl (dB, 8, .inl buf)), (qi, .inr (2, [.ref hH])), (qp, .inr (3, [.long x.1, .long x.2.1, .long x.2.2.1, .long x.2.2.2.1, .long x.2.2.2.2]))] sz (S := P5 × (Nat → Int32) × Nat) (fun r u => r = (if n + kc ≤ 16384 then 1 else 0) ∧ u.2.2 = (if n + kc ≤ 16384 then n + kc else n) ∧ Rp M u.2.2 u.1 u.2.1) (fun u => [(hd, .inr (0, [.ref hH, vo, .int (nI u.2.2), .ref ht, .int (nI z)])), (ht, .inl (dB, 1024, .inl T)), (hH, .inr (1, [.int 32, .int 8, .ref qb, .int (nI (u.2.2 % 8)), .ref qa, .ref qi, .ref qp, .int 12])), (qb, .inl (dB, 8, .inl u.2.1)), (qi, .inr (2, [.ref hH])), (qp, .inr (3, [.long u.1.1, .long u.1.2.1, .long u.1.2.2.1, .long u.1.2.2.2.1, .long u.1.2.2.2.2]))]) := by
  refine ct_of (cc := cX0_feed) (maxL := 5) (ret := (some .boolean)) (by decide) rfl (Nat.le_of_ble_eq_true rfl) (fun p e s m below meth c A ls hx hb hml hr hlocks hts hown hin hP hK hD hA hX hS hl => ?_)
  have hown : s.vm.findClass RX0 = some m.cls := hown
  have hl : lv_has ls 5 [(0, .ref hd), (1, .int xa), (2, .int xn)] := hl
  have hf : f ≤ z := by
    have := fo_lt xa (show 0 < z + 1 by omega)
    omega
  have hc : f + kc ≤ z := by
    have := fo_lt xn (show 0 < z - f + 1 by omega)
    omega
  refine lv_aload_n hx hb dX0_feed_0 rfl (lv_at hl 0 rfl) ?_
  refine lv_iload_n hx hb dX0_feed_1 rfl (lv_at hl 1 rfl) ?_
  refine cl_i [(hd, .inr (0, [.ref hH, vo, .int (nI n), .ref ht, .int (nI z)]))] [(ht, .inl (dB, 1024, .inl T)), (hH, .inr (1, [.int 32, .int 8, .ref qb, .int (nI (n % 8)), .ref qa, .ref qi, .ref qp, .int 12])), (qb, .inl (dB, 8, .inl buf)), (qi, .inr (2, [.ref hH])), (qp, .inr (3, [.long x.1, .long x.2.1, .long x.2.2.1, .long x.2.2.2.1, .long x.2.2.2.2]))] [0] [1, 2, 3, 4, 5] rfl rfl (by decide) (by decide) hP hD hS hA (va_runV (As := [.int xa]) (rest := []) ⟨hx, hb, hml, hown, hts⟩ (m_from l D dB dN dL hd z (.ref hH) vo (.ref ht) (nI n) xa _ hz) (cwV 1 hts (lw_V q274 q276 qs3 q7 q277) rfl rfl rfl (by decide +kernel) ⟨Nat.le_of_ble_eq_true rfl, Nat.le_of_ble_eq_true rfl⟩) (pvV (ci := 0) (q0 := 0) (C := RX0) [0] rfl (by decide) hP hK hD hS hA hX rfl rfl) rfl rfl hl.1 rfl (lv_room (Nat.le_of_ble_eq_true rfl)) dX0_feed_2 ⟨Nat.le_of_ble_eq_true rfl, Nat.le_of_ble_eq_true rfl⟩) (fun r_3 u_1 H locs hw_2 hP hD hS => ?_)
  have hP : va_P D CL [(ht, .inl (dB, 1024, .inl T)), (hH, .inr (1, [.int 32, .int 8, .ref qb, .int (nI (n % 8)), .ref qa, .ref qi, .ref qp, .int 12])), (qb, .inl (dB, 8, .inl buf)), (qi, .inr (2, [.ref hH])), (qp, .inr (3, [.long x.1, .long x.2.1, .long x.2.2.1, .long x.2.2.2.1, .long x.2.2.2.2])), (hd, .inr (0, [.ref hH, vo, .int (nI n), .ref ht, .int (nI z)]))] H := hP
  have hD : va_D A [(ht, .inl (dB, 1024, .inl T)), (hH, .inr (1, [.int 32, .int 8, .ref qb, .int (nI (n % 8)), .ref qa, .ref qi, .ref qp, .int 12])), (qb, .inl (dB, 8, .inl buf)), (qi, .inr (2, [.ref hH])), (qp, .inr (3, [.long x.1, .long x.2.1, .long x.2.2.1, .long x.2.2.2.1, .long x.2.2.2.2])), (hd, .inr (0, [.ref hH, vo, .int (nI n), .ref ht, .int (nI z)]))] := hD
  refine nmTi (b := (nI f)) ((show r_3 = nI (fo xa (z + 1)) from hw_2).trans (by rw [ef])) ?_
  refine lv_istore_n (lv' := [(3, .int (nI f)), (0, .ref hd), (1, .int xa), (2, .int xn)]) hx hb dX0_feed_5 rfl hl (by decide) rfl (fun ls hl => ?_)
  refine lv_aload_n hx hb dX0_feed_6 rfl (lv_at hl 1 rfl) ?_
  refine lv_iload_n hx hb dX0_feed_7 rfl (lv_at hl 0 rfl) ?_
  refine lv_iload_n hx hb dX0_feed_8 rfl (lv_at hl 3 rfl) ?_
  refine cl_i [(hd, .inr (0, [.ref hH, vo, .int (nI n), .ref ht, .int (nI z)]))] [(ht, .inl (dB, 1024, .inl T)), (hH, .inr (1, [.int 32, .int 8, .ref qb, .int (nI (n % 8)), .ref qa, .ref qi, .ref qp, .int 12])), (qb, .inl (dB, 8, .inl buf)), (qi, .inr (2, [.ref hH])), (qp, .inr (3, [.long x.1, .long x.2.1, .long x.2.2.1, .long x.2.2.2.1, .long x.2.2.2.2]))] [5] [0, 1, 2, 3, 4] rfl rfl (by decide) (by decide) hP hD hS hA (va_runV (As := [.int (nI f), .int xn]) (rest := []) ⟨hx, hb, hml, hown, hts⟩ (m_count l D dB dN dL hd z f (.ref hH) vo (.ref ht) (nI n) xn _ hz hf) (cwV 2 hts (lw_V q287 q289 qs4 q7 q290) rfl rfl rfl (by decide +kernel) ⟨Nat.le_of_ble_eq_true rfl, Nat.le_of_ble_eq_true rfl⟩) (pvV (ci := 0) (q0 := 5) (C := RX0) [5] rfl (by decide) hP hK hD hS hA hX rfl rfl) rfl rfl hl.1 rfl (lv_room (Nat.le_of_ble_eq_true rfl)) dX0_feed_9 ⟨Nat.le_of_ble_eq_true rfl, Nat.le_of_ble_eq_true rfl⟩) (fun r_6 u_4 H locs hw_5 hP hD hS => ?_)
  have hP : va_P D CL [(ht, .inl (dB, 1024, .inl T)), (hH, .inr (1, [.int 32, .int 8, .ref qb, .int (nI (n % 8)), .ref qa, .ref qi, .ref qp, .int 12])), (qb, .inl (dB, 8, .inl buf)), (qi, .inr (2, [.ref hH])), (qp, .inr (3, [.long x.1, .long x.2.1, .long x.2.2.1, .long x.2.2.2.1, .long x.2.2.2.2])), (hd, .inr (0, [.ref hH, vo, .int (nI n), .ref ht, .int (nI z)]))] H := hP
  have hD : va_D A [(ht, .inl (dB, 1024, .inl T)), (hH, .inr (1, [.int 32, .int 8, .ref qb, .int (nI (n % 8)), .ref qa, .ref qi, .ref qp, .int 12])), (qb, .inl (dB, 8, .inl buf)), (qi, .inr (2, [.ref hH])), (qp, .inr (3, [.long x.1, .long x.2.1, .long x.2.2.1, .long x.2.2.2.1, .long x.2.2.2.2])), (hd, .inr (0, [.ref hH, vo, .int (nI n), .ref ht, .int (nI z)]))] := hD
  refine nmTi (b := (nI kc)) ((show r_6 = nI (fo xn (z - f + 1)) from hw_5).trans (by rw [ec])) ?_
  refine lv_istore (lv' := [(4, .int (nI kc)), (3, .int (nI f)), (0, .ref hd), (1, .int xa), (2, .int xn)]) hx hb dX0_feed_12 hl (by decide) rfl (fun ls hl => ?_)
  refine lv_aload_n hx hb dX0_feed_14 rfl (lv_at hl 2 rfl) ?_
  refine va_get (D := D) (ci := 0) (v := .int (nI n)) (C := RX0) (T := TX0) (N := 5) hx hb hts in_X0 hown hK hP 5 rfl rfl 2 (by decide) (hts _ q248) (fun _ h9 => h9) rfl dX0_feed_15 ?_
  refine lv_iload hx hb dX0_feed_18 (lv_at hl 0 rfl) ?_
  refine lv_iadd hx hb dX0_feed_20 ?_
  refine nmTi (b := (nI (n + kc))) (nI_add n kc) ?_
  refine lv_sipush (v := 16384) hx hb dX0_feed_21 (by decide) ?_
  refine lv_icmp_le (tgt := 29) hx hb dX0_feed_24 (by decide) (fun c_7 => ?_) (fun c_7 => ?_)
  · skip
    have hb16 : n + kc ≤ 16384 := (nI_leI (b := 16384) (by omega) (by decide)).mp c_7
    refine lv_aload_n hx hb dX0_feed_29 rfl (lv_at hl 2 rfl) ?_
    refine lv_dup hx hb dX0_feed_30 rfl ?_
    refine va_get (D := D) (ci := 0) (v := .int (nI n)) (C := RX0) (T := TX0) (N := 5) hx hb hts in_X0 hown hK hP 5 rfl rfl 2 (by decide) (hts _ q248) (fun _ h9 => h9) rfl dX0_feed_31 ?_
    refine lv_iload hx hb dX0_feed_34 (lv_at hl 0 rfl) ?_
    refine lv_iadd hx hb dX0_feed_36 ?_
    refine nmTi (b := (nI (n + kc))) (nI_add n kc) ?_
    refine va_put (D := D) (ci := 0) (v := .int (nI (n + kc))) (ty := .int) (C := RX0) (T := TX0) (N := 5) hx hb hts in_X0 tyX0 tyX0_ok nmX0 hown hK hP hD hS 5 rfl rfl 2 (by decide) (hts _ q248) (fun _ h9 => h9) rfl (by decide +kernel) rfl rfl (Nat.le_of_ble_eq_true rfl) dX0_feed_37 (fun H locs hP hD hS => ?_)
    have hP : va_P D CL [(ht, .inl (dB, 1024, .inl T)), (hH, .inr (1, [.int 32, .int 8, .ref qb, .int (nI (n % 8)), .ref qa, .ref qi, .ref qp, .int 12])), (qb, .inl (dB, 8, .inl buf)), (qi, .inr (2, [.ref hH])), (qp, .inr (3, [.long x.1, .long x.2.1, .long x.2.2.1, .long x.2.2.2.1, .long x.2.2.2.2])), (hd, .inr (0, [.ref hH, vo, .int (nI (n + kc)), .ref ht, .int (nI z)]))] H := hP
    have hD : va_D A [(ht, .inl (dB, 1024, .inl T)), (hH, .inr (1, [.int 32, .int 8, .ref qb, .int (nI (n % 8)), .ref qa, .ref qi, .ref qp, .int 12])), (qb, .inl (dB, 8, .inl buf)), (qi, .inr (2, [.ref hH])), (qp, .inr (3, [.long x.1, .long x.2.1, .long x.2.2.1, .long x.2.2.2.1, .long x.2.2.2.2])), (hd, .inr (0, [.ref hH, vo, .int (nI (n + kc)), .ref ht, .int (nI z)]))] := hD
    refine lv_aload_n hx hb dX0_feed_40 rfl (lv_at hl 2 rfl) ?_
    refine va_get (D := D) (ci := 0) (v := .ref hH) (C := RX0) (T := TX0) (N := 5) hx hb hts in_X0 hown hK hP 5 rfl rfl 0 (by decide) (hts _ q246) (fun _ h9 => h9) rfl dX0_feed_41 ?_
    refine lv_aload_n hx hb dX0_feed_44 rfl (lv_at hl 2 rfl) ?_
    refine va_get (D := D) (ci := 0) (v := .ref ht) (C := RX0) (T := TX0) (N := 5) hx hb hts in_X0 hown hK hP 5 rfl rfl 3 (by decide) (hts _ q249) (fun _ h9 => h9) rfl dX0_feed_45 ?_
    refine lv_iload_n hx hb dX0_feed_48 rfl (lv_at hl 1 rfl) ?_
    refine lv_iload hx hb dX0_feed_49 (lv_at hl 0 rfl) ?_
    refine cf_v [(hH, .inr (1, [.int 32, .int 8, .ref qb, .int (nI (n % 8)), .ref qa, .ref qi, .ref qp, .int 12])), (qb, .inl (dB, 8, .inl buf)), (qi, .inr (2, [.ref hH])), (qp, .inr (3, [.long x.1, .long x.2.1, .long x.2.2.1, .long x.2.2.2.1, .long x.2.2.2.2])), (ht, .inl (dB, 1024, .inl T))] [(hd, .inr (0, [.ref hH, vo, .int (nI (n + kc)), .ref ht, .int (nI z)]))] [1, 2, 3, 4, 0] [5] rfl rfl (by decide) (by decide) hP hD hS hA (va_runF (hK.1 1 _ rfl).2 (As := [.ref ht, .int (nI f), .int (nI kc)]) (rest := []) ⟨hx, hb, hml, hown, hts⟩ (m_update l D dB dN dL hH qb qa qi qp ht 1024 n f kc M T x buf _ hR hT (by omega) (by omega) hfit) (va_cwF 3 hts (lw_F q292 q296 q298 q8 q300) rfl rfl rfl hX.1.2.2.1.1 (by decide +kernel) ⟨Nat.le_of_ble_eq_true rfl, Nat.le_of_ble_eq_true rfl⟩) (pvV (ci := 1) (q0 := 1) (C := RX3) [1, 2, 3, 4, 0] rfl (by decide) hP hK hD hS hA hX rfl rfl) rfl rfl hl.1 rfl (lv_room (Nat.le_of_ble_eq_true rfl)) dX0_feed_51 ⟨Nat.le_of_ble_eq_true rfl, Nat.le_of_ble_eq_true rfl⟩) (fun u_8 H locs hw_9 hP hD hS => ?_)
    have hP : va_P D CL [(hd, .inr (0, [.ref hH, vo, .int (nI (n + kc)), .ref ht, .int (nI z)])), (hH, .inr (1, [.int 32, .int 8, .ref qb, .int u_8.2.2, .ref qa, .ref qi, .ref qp, .int 12])), (qb, .inl (dB, 8, .inl u_8.2.1)), (qi, .inr (2, [.ref hH])), (qp, .inr (3, [.long u_8.1.1, .long u_8.1.2.1, .long u_8.1.2.2.1, .long u_8.1.2.2.2.1, .long u_8.1.2.2.2.2])), (ht, .inl (dB, 1024, .inl T))] H := hP
    have hD : va_D A [(hd, .inr (0, [.ref hH, vo, .int (nI (n + kc)), .ref ht, .int (nI z)])), (hH, .inr (1, [.int 32, .int 8, .ref qb, .int u_8.2.2, .ref qa, .ref qi, .ref qp, .int 12])), (qb, .inl (dB, 8, .inl u_8.2.1)), (qi, .inr (2, [.ref hH])), (qp, .inr (3, [.long u_8.1.1, .long u_8.1.2.1, .long u_8.1.2.2.1, .long u_8.1.2.2.2.1, .long u_8.1.2.2.2.2])), (ht, .inl (dB, 1024, .inl T))] := hD
    obtain ⟨eu, hR2⟩ := hw_9
    rw [eu] at hP hD
    have hP : va_P D CL [(hd, .inr (0, [.ref hH, vo, .int (nI (n + kc)), .ref ht, .int (nI z)])), (hH, .inr (1, [.int 32, .int 8, .ref qb, .int (nI ((n + kc) % 8)), .ref qa, .ref qi, .ref qp, .int 12])), (qb, .inl (dB, 8, .inl u_8.2.1)), (qi, .inr (2, [.ref hH])), (qp, .inr (3, [.long u_8.1.1, .long u_8.1.2.1, .long u_8.1.2.2.1, .long u_8.1.2.2.2.1, .long u_8.1.2.2.2.2])), (ht, .inl (dB, 1024, .inl T))] H := hP
    have hD : va_D A [(hd, .inr (0, [.ref hH, vo, .int (nI (n + kc)), .ref ht, .int (nI z)])), (hH, .inr (1, [.int 32, .int 8, .ref qb, .int (nI ((n + kc) % 8)), .ref qa, .ref qi, .ref qp, .int 12])), (qb, .inl (dB, 8, .inl u_8.2.1)), (qi, .inr (2, [.ref hH])), (qp, .inr (3, [.long u_8.1.1, .long u_8.1.2.1, .long u_8.1.2.2.1, .long u_8.1.2.2.2.1, .long u_8.1.2.2.2.2])), (ht, .inl (dB, 1024, .inl T))] := hD
    refine lv_iconst (v := 1) hx hb dX0_feed_56 (by decide) ?_
    exact rt_z hx hb hr hlocks hP hK hD hS dX0_feed_57 (by rfl) (u_8.1, u_8.2.1, n + kc) [0, 5, 1, 2, 3, 4] rfl (by decide) ⟨(if_pos hb16).symm, (if_pos hb16).symm, hR2⟩
  · skip
    have hb16 : ¬ n + kc ≤ 16384 := fun h => c_7 (nI_le (b := 16384) h (by omega))
    refine lv_iconst (v := 0) hx hb dX0_feed_27 (by decide) ?_
    exact rt_z hx hb hr hlocks hP hK hD hS dX0_feed_28 (by rfl) (x, buf, n) [5, 0, 1, 2, 3, 4] rfl (by decide) ⟨(if_neg hb16).symm, (if_neg hb16).symm, hR⟩

set_option maxHeartbeats 4000000 in
set_option maxRecDepth 100000 in
/-- AsconHashDesk.one -/
theorem m_one (l : Launch) (D : va_G) (dB dN dL : ClassId) (hd : Nat) (hH qb qa qi qp : Nat) (n : Nat) (vo vt : Value) (zs v : Int32) (M : Nat → Int32) (x : P5) (buf : Nat → Int32) (sz : Nat) (hn : n ≤ 16384) (hR : Rp M n x buf) (hv : M n = v.toInt8.toInt32) : Ci_ l yX0_one (ws_ yX0_one cX0_one 2 (some .boolean)) (rm_ 7 0 0 167) D dB dN dL [.ref hd, .int v] [(hd, .inr (0, [.ref hH, vo, .int (nI n), vt, .int zs])), (hH, .inr (1, [.int 32, .int 8, .ref qb, .int (nI (n % 8)), .ref qa, .ref qi, .ref qp, .int 12])), (qb, .inl (dB, 8, .inl buf)), (qi, .inr (2, [.ref hH])), (qp, .inr (3, [.long x.1, .long x.2.1, .long x.2.2.1, .long x.2.2.2.1, .long x.2.2.2.2]))] sz (S := P5 × (Nat → Int32) × Nat) (fun r u => r = (if n + 1 ≤ 16384 then 1 else 0) ∧ u.2.2 = (if n + 1 ≤ 16384 then n + 1 else n) ∧ Rp M u.2.2 u.1 u.2.1) (fun u => [(hd, .inr (0, [.ref hH, vo, .int (nI u.2.2), vt, .int zs])), (hH, .inr (1, [.int 32, .int 8, .ref qb, .int (nI (u.2.2 % 8)), .ref qa, .ref qi, .ref qp, .int 12])), (qb, .inl (dB, 8, .inl u.2.1)), (qi, .inr (2, [.ref hH])), (qp, .inr (3, [.long u.1.1, .long u.1.2.1, .long u.1.2.2.1, .long u.1.2.2.2.1, .long u.1.2.2.2.2]))]) := by
  refine ct_of (cc := cX0_one) (maxL := 2) (ret := (some .boolean)) (by decide) rfl (Nat.le_of_ble_eq_true rfl) (fun p e s m below meth c A ls hx hb hml hr hlocks hts hown hin hP hK hD hA hX hS hl => ?_)
  have hown : s.vm.findClass RX0 = some m.cls := hown
  have hl : lv_has ls 2 [(0, .ref hd), (1, .int v)] := hl
  refine lv_aload_n hx hb dX0_one_0 rfl (lv_at hl 0 rfl) ?_
  refine va_get (D := D) (ci := 0) (v := .int (nI n)) (C := RX0) (T := TX0) (N := 5) hx hb hts in_X0 hown hK hP 0 rfl rfl 2 (by decide) (hts _ q248) (fun _ h9 => h9) rfl dX0_one_1 ?_
  refine lv_sipush (v := 16384) hx hb dX0_one_4 (by decide) ?_
  refine lv_icmp_lt (tgt := 12) hx hb dX0_one_7 (by decide) (fun c_1 => ?_) (fun c_1 => ?_)
  · skip
    have hb16 : n + 1 ≤ 16384 := (nI_ltI (b := 16384) (by omega) (by decide)).mp c_1
    refine lv_aload_n hx hb dX0_one_12 rfl (lv_at hl 0 rfl) ?_
    refine lv_dup hx hb dX0_one_13 rfl ?_
    refine va_get (D := D) (ci := 0) (v := .int (nI n)) (C := RX0) (T := TX0) (N := 5) hx hb hts in_X0 hown hK hP 0 rfl rfl 2 (by decide) (hts _ q248) (fun _ h9 => h9) rfl dX0_one_14 ?_
    refine lv_iconst (v := 1) hx hb dX0_one_17 (by decide) ?_
    refine lv_iadd hx hb dX0_one_18 ?_
    refine nmTi (b := (nI (n + 1))) (nI_1 n) ?_
    refine va_put (D := D) (ci := 0) (v := .int (nI (n + 1))) (ty := .int) (C := RX0) (T := TX0) (N := 5) hx hb hts in_X0 tyX0 tyX0_ok nmX0 hown hK hP hD hS 0 rfl rfl 2 (by decide) (hts _ q248) (fun _ h9 => h9) rfl (by decide +kernel) rfl rfl (Nat.le_of_ble_eq_true rfl) dX0_one_19 (fun H locs hP hD hS => ?_)
    have hP : va_P D CL [(hd, .inr (0, [.ref hH, vo, .int (nI (n + 1)), vt, .int zs])), (hH, .inr (1, [.int 32, .int 8, .ref qb, .int (nI (n % 8)), .ref qa, .ref qi, .ref qp, .int 12])), (qb, .inl (dB, 8, .inl buf)), (qi, .inr (2, [.ref hH])), (qp, .inr (3, [.long x.1, .long x.2.1, .long x.2.2.1, .long x.2.2.2.1, .long x.2.2.2.2]))] H := hP
    have hD : va_D A [(hd, .inr (0, [.ref hH, vo, .int (nI (n + 1)), vt, .int zs])), (hH, .inr (1, [.int 32, .int 8, .ref qb, .int (nI (n % 8)), .ref qa, .ref qi, .ref qp, .int 12])), (qb, .inl (dB, 8, .inl buf)), (qi, .inr (2, [.ref hH])), (qp, .inr (3, [.long x.1, .long x.2.1, .long x.2.2.1, .long x.2.2.2.1, .long x.2.2.2.2]))] := hD
    refine lv_aload_n hx hb dX0_one_22 rfl (lv_at hl 0 rfl) ?_
    refine va_get (D := D) (ci := 0) (v := .ref hH) (C := RX0) (T := TX0) (N := 5) hx hb hts in_X0 hown hK hP 0 rfl rfl 0 (by decide) (hts _ q246) (fun _ h9 => h9) rfl dX0_one_23 ?_
    refine lv_iload_n hx hb dX0_one_26 rfl (lv_at hl 1 rfl) ?_
    refine lv_i2b hx hb dX0_one_27 rfl ?_
    refine cf_v [(hH, .inr (1, [.int 32, .int 8, .ref qb, .int (nI (n % 8)), .ref qa, .ref qi, .ref qp, .int 12])), (qb, .inl (dB, 8, .inl buf)), (qi, .inr (2, [.ref hH])), (qp, .inr (3, [.long x.1, .long x.2.1, .long x.2.2.1, .long x.2.2.2.1, .long x.2.2.2.2]))] [(hd, .inr (0, [.ref hH, vo, .int (nI (n + 1)), vt, .int zs]))] [1, 2, 3, 4] [0] rfl rfl (by decide) (by decide) hP hD hS hA (va_runF (hK.1 1 _ rfl).2 (As := [.int v.toInt8.toInt32]) (rest := []) ⟨hx, hb, hml, hown, hts⟩ (m_upd1 l D dB dN dL hH qb qa qi qp n M v.toInt8.toInt32 x buf _ hR ((pk_vb v).trans hv.symm)) (va_cwF 1 hts (lw_F q425 q428 q430 q8 q432) rfl rfl rfl hX.1.2.2.1.2.1 (by decide +kernel) ⟨Nat.le_of_ble_eq_true rfl, Nat.le_of_ble_eq_true rfl⟩) (pvV (ci := 1) (q0 := 1) (C := RX3) [1, 2, 3, 4] rfl (by decide) hP hK hD hS hA hX rfl rfl) rfl rfl hl.1 rfl (lv_room (Nat.le_of_ble_eq_true rfl)) dX0_one_28 ⟨Nat.le_of_ble_eq_true rfl, Nat.le_of_ble_eq_true rfl⟩) (fun u_2 H locs hw_3 hP hD hS => ?_)
    have hP : va_P D CL [(hd, .inr (0, [.ref hH, vo, .int (nI (n + 1)), vt, .int zs])), (hH, .inr (1, [.int 32, .int 8, .ref qb, .int u_2.2.2, .ref qa, .ref qi, .ref qp, .int 12])), (qb, .inl (dB, 8, .inl u_2.2.1)), (qi, .inr (2, [.ref hH])), (qp, .inr (3, [.long u_2.1.1, .long u_2.1.2.1, .long u_2.1.2.2.1, .long u_2.1.2.2.2.1, .long u_2.1.2.2.2.2]))] H := hP
    have hD : va_D A [(hd, .inr (0, [.ref hH, vo, .int (nI (n + 1)), vt, .int zs])), (hH, .inr (1, [.int 32, .int 8, .ref qb, .int u_2.2.2, .ref qa, .ref qi, .ref qp, .int 12])), (qb, .inl (dB, 8, .inl u_2.2.1)), (qi, .inr (2, [.ref hH])), (qp, .inr (3, [.long u_2.1.1, .long u_2.1.2.1, .long u_2.1.2.2.1, .long u_2.1.2.2.2.1, .long u_2.1.2.2.2.2]))] := hD
    obtain ⟨eu, hR2⟩ := hw_3
    rw [eu] at hP hD
    have hP : va_P D CL [(hd, .inr (0, [.ref hH, vo, .int (nI (n + 1)), vt, .int zs])), (hH, .inr (1, [.int 32, .int 8, .ref qb, .int (nI ((n + 1) % 8)), .ref qa, .ref qi, .ref qp, .int 12])), (qb, .inl (dB, 8, .inl u_2.2.1)), (qi, .inr (2, [.ref hH])), (qp, .inr (3, [.long u_2.1.1, .long u_2.1.2.1, .long u_2.1.2.2.1, .long u_2.1.2.2.2.1, .long u_2.1.2.2.2.2]))] H := hP
    have hD : va_D A [(hd, .inr (0, [.ref hH, vo, .int (nI (n + 1)), vt, .int zs])), (hH, .inr (1, [.int 32, .int 8, .ref qb, .int (nI ((n + 1) % 8)), .ref qa, .ref qi, .ref qp, .int 12])), (qb, .inl (dB, 8, .inl u_2.2.1)), (qi, .inr (2, [.ref hH])), (qp, .inr (3, [.long u_2.1.1, .long u_2.1.2.1, .long u_2.1.2.2.1, .long u_2.1.2.2.2.1, .long u_2.1.2.2.2.2]))] := hD
    refine lv_iconst (v := 1) hx hb dX0_one_33 (by decide) ?_
    exact rt_z hx hb hr hlocks hP hK hD hS dX0_one_34 (by rfl) (u_2.1, u_2.2.1, n + 1) [0, 1, 2, 3, 4] rfl (by decide) ⟨(if_pos hb16).symm, (if_pos hb16).symm, hR2⟩
  · skip
    have hb16 : ¬ n + 1 ≤ 16384 := fun h => c_1 (nI_lt (b := 16384) h (by omega))
    refine lv_iconst (v := 0) hx hb dX0_one_10 (by decide) ?_
    exact rt_z hx hb hr hlocks hP hK hD hS dX0_one_11 (by rfl) (x, buf, n) [0, 1, 2, 3, 4] rfl (by decide) ⟨(if_neg hb16).symm, (if_neg hb16).symm, hR⟩

set_option maxHeartbeats 4000000 in
set_option maxRecDepth 100000 in
/-- AsconHashDesk.close -/
theorem m_close (l : Launch) (D : va_G) (dB dN dL : ClassId) (hd ho : Nat) (hH qb qa qi qp : Nat) (n : Nat) (vt : Value) (fd zs : Int32) (M f : Nat → Int32) (x : P5) (buf : Nat → Int32) (sz : Nat) (hR : Rp M n x buf) : Ci_ l yX0_close (ws_ yX0_close cX0_close 1 (some .int)) (rm_ 7 0 0 170) D dB dN dL [.ref hd] [(hd, .inr (0, [.ref hH, .ref ho, .int fd, vt, .int zs])), (ho, .inl (dB, 32, .inl f)), (hH, .inr (1, [.int 32, .int 8, .ref qb, .int (nI (n % 8)), .ref qa, .ref qi, .ref qp, .int 12])), (qb, .inl (dB, 8, .inl buf)), (qp, .inr (3, [.long x.1, .long x.2.1, .long x.2.2.1, .long x.2.2.2.1, .long x.2.2.2.2]))] sz (S := Nat → Int32) (fun r _ => r = 32) (fun u => [(hd, .inr (0, [.ref hH, .ref ho, .int 0, vt, .int zs])), (ho, .inl (dB, 32, .inl (dig (hsh M n) f))), (hH, .inr (1, [.int 32, .int 8, .ref qb, .int 0, .ref qa, .ref qi, .ref qp, .int 12])), (qb, .inl (dB, 8, .inl u)), (qp, .inr (3, [.long iv.1, .long iv.2.1, .long iv.2.2.1, .long iv.2.2.2.1, .long iv.2.2.2.2]))]) := by
  refine ct_of (cc := cX0_close) (maxL := 1) (ret := (some .int)) (by decide) rfl (Nat.le_of_ble_eq_true rfl) (fun p e s m below meth c A ls hx hb hml hr hlocks hts hown hin hP hK hD hA hX hS hl => ?_)
  have hown : s.vm.findClass RX0 = some m.cls := hown
  have hl : lv_has ls 1 [(0, .ref hd)] := hl
  refine lv_aload_n hx hb dX0_close_0 rfl (lv_at hl 0 rfl) ?_
  refine lv_iconst (v := 0) hx hb dX0_close_1 (by decide) ?_
  refine va_put (D := D) (ci := 0) (v := .int 0) (ty := .int) (C := RX0) (T := TX0) (N := 5) hx hb hts in_X0 tyX0 tyX0_ok nmX0 hown hK hP hD hS 0 rfl rfl 2 (by decide) (hts _ q248) (fun _ h9 => h9) rfl (by decide +kernel) rfl rfl (Nat.le_of_ble_eq_true rfl) dX0_close_2 (fun H locs hP hD hS => ?_)
  have hP : va_P D CL [(hd, .inr (0, [.ref hH, .ref ho, .int 0, vt, .int zs])), (ho, .inl (dB, 32, .inl f)), (hH, .inr (1, [.int 32, .int 8, .ref qb, .int (nI (n % 8)), .ref qa, .ref qi, .ref qp, .int 12])), (qb, .inl (dB, 8, .inl buf)), (qp, .inr (3, [.long x.1, .long x.2.1, .long x.2.2.1, .long x.2.2.2.1, .long x.2.2.2.2]))] H := hP
  have hD : va_D A [(hd, .inr (0, [.ref hH, .ref ho, .int 0, vt, .int zs])), (ho, .inl (dB, 32, .inl f)), (hH, .inr (1, [.int 32, .int 8, .ref qb, .int (nI (n % 8)), .ref qa, .ref qi, .ref qp, .int 12])), (qb, .inl (dB, 8, .inl buf)), (qp, .inr (3, [.long x.1, .long x.2.1, .long x.2.2.1, .long x.2.2.2.1, .long x.2.2.2.2]))] := hD
  refine lv_aload_n hx hb dX0_close_5 rfl (lv_at hl 0 rfl) ?_
  refine va_get (D := D) (ci := 0) (v := .ref hH) (C := RX0) (T := TX0) (N := 5) hx hb hts in_X0 hown hK hP 0 rfl rfl 0 (by decide) (hts _ q246) (fun _ h9 => h9) rfl dX0_close_6 ?_
  refine lv_aload_n hx hb dX0_close_9 rfl (lv_at hl 0 rfl) ?_
  refine va_get (D := D) (ci := 0) (v := .ref ho) (C := RX0) (T := TX0) (N := 5) hx hb hts in_X0 hown hK hP 0 rfl rfl 1 (by decide) (hts _ q247) (fun _ h9 => h9) rfl dX0_close_10 ?_
  refine lv_iconst (v := 0) hx hb dX0_close_13 (by decide) ?_
  refine cf_i [(hH, .inr (1, [.int 32, .int 8, .ref qb, .int (nI (n % 8)), .ref qa, .ref qi, .ref qp, .int 12])), (qb, .inl (dB, 8, .inl buf)), (qp, .inr (3, [.long x.1, .long x.2.1, .long x.2.2.1, .long x.2.2.2.1, .long x.2.2.2.2])), (ho, .inl (dB, 32, .inl f))] [(hd, .inr (0, [.ref hH, .ref ho, .int 0, vt, .int zs]))] [2, 3, 4, 1] [0] rfl rfl (by decide) (by decide) hP hD hS hA (va_runF (hK.1 1 _ rfl).2 (As := [.ref ho, .int 0]) (rest := []) ⟨hx, hb, hml, hown, hts⟩ (m_doF l D dB dN dL hH qb qa qi qp ho 32 n M f x buf _ hR (by omega) (by decide)) (va_cwF 2 hts (lw_F q454 q457 q459 q8 q461) rfl rfl rfl hX.1.2.2.1.2.2.1 (by decide +kernel) ⟨Nat.le_of_ble_eq_true rfl, Nat.le_of_ble_eq_true rfl⟩) (pvV (ci := 1) (q0 := 2) (C := RX3) [2, 3, 4, 1] rfl (by decide) hP hK hD hS hA hX rfl rfl) rfl rfl hl.1 rfl (lv_room (Nat.le_of_ble_eq_true rfl)) dX0_close_14 ⟨Nat.le_of_ble_eq_true rfl, Nat.le_of_ble_eq_true rfl⟩) (fun r_3 u_1 H locs hw_2 hP hD hS => ?_)
  have hP : va_P D CL [(hd, .inr (0, [.ref hH, .ref ho, .int 0, vt, .int zs])), (hH, .inr (1, [.int 32, .int 8, .ref qb, .int 0, .ref qa, .ref qi, .ref qp, .int 12])), (qb, .inl (dB, 8, .inl u_1)), (qp, .inr (3, [.long iv.1, .long iv.2.1, .long iv.2.2.1, .long iv.2.2.2.1, .long iv.2.2.2.2])), (ho, .inl (dB, 32, .inl (dig (hsh M n) f)))] H := hP
  have hD : va_D A [(hd, .inr (0, [.ref hH, .ref ho, .int 0, vt, .int zs])), (hH, .inr (1, [.int 32, .int 8, .ref qb, .int 0, .ref qa, .ref qi, .ref qp, .int 12])), (qb, .inl (dB, 8, .inl u_1)), (qp, .inr (3, [.long iv.1, .long iv.2.1, .long iv.2.2.1, .long iv.2.2.2.1, .long iv.2.2.2.2])), (ho, .inl (dB, 32, .inl (dig (hsh M n) f)))] := hD
  exact rt_i hx hb hr hlocks hP hK hD hS dX0_close_19 u_1 [0, 4, 1, 2, 3] rfl (by decide) hw_2

set_option maxHeartbeats 4000000 in
set_option maxRecDepth 100000 in
/-- AsconHashDesk.drop -/
theorem m_drop (l : Launch) (D : va_G) (dB dN dL : ClassId) (hd hH qb qp : Nat) (vo vt al vi : Value) (fd zs pos : Int32) (buf : Nat → Int32) (x : P5) (sz : Nat)  : Cv_ l yX0_drop (ws_ yX0_drop cX0_drop 1 none) (rm_ 4 0 0 83) D dB dN dL [.ref hd] [(hd, .inr (0, [.ref hH, vo, .int fd, vt, .int zs])), (hH, .inr (1, [.int 32, .int 8, .ref qb, .int pos, al, vi, .ref qp, .int 12])), (qb, .inl (dB, 8, .inl buf)), (qp, .inr (3, [.long x.1, .long x.2.1, .long x.2.2.1, .long x.2.2.2.1, .long x.2.2.2.2]))] sz (S := Nat → Int32) (fun _ => True) (fun u => [(hd, .inr (0, [.ref hH, vo, .int 0, vt, .int zs])), (hH, .inr (1, [.int 32, .int 8, .ref qb, .int 0, al, vi, .ref qp, .int 12])), (qb, .inl (dB, 8, .inl u)), (qp, .inr (3, [.long iv.1, .long iv.2.1, .long iv.2.2.1, .long iv.2.2.2.1, .long iv.2.2.2.2]))]) := by
  refine ct_of (cc := cX0_drop) (maxL := 1) (ret := none) (by decide) rfl (Nat.le_of_ble_eq_true rfl) (fun p e s m below meth c A ls hx hb hml hr hlocks hts hown hin hP hK hD hA hX hS hl => ?_)
  have hown : s.vm.findClass RX0 = some m.cls := hown
  have hl : lv_has ls 1 [(0, .ref hd)] := hl
  refine lv_aload_n hx hb dX0_drop_0 rfl (lv_at hl 0 rfl) ?_
  refine va_get (D := D) (ci := 0) (v := .ref hH) (C := RX0) (T := TX0) (N := 5) hx hb hts in_X0 hown hK hP 0 rfl rfl 0 (by decide) (hts _ q246) (fun _ h9 => h9) rfl dX0_drop_1 ?_
  refine cf_v [(hH, .inr (1, [.int 32, .int 8, .ref qb, .int pos, al, vi, .ref qp, .int 12])), (qb, .inl (dB, 8, .inl buf)), (qp, .inr (3, [.long x.1, .long x.2.1, .long x.2.2.1, .long x.2.2.2.1, .long x.2.2.2.2]))] [(hd, .inr (0, [.ref hH, vo, .int fd, vt, .int zs]))] [1, 2, 3] [0] rfl rfl (by decide) (by decide) hP hD hS hA (va_runF (hK.1 1 _ rfl).2 (As := []) (rest := []) ⟨hx, hb, hml, hown, hts⟩ (m_hreset l D dB dN dL hH qb qp al vi pos buf x _) (va_cwF 0 hts (lw_F q543 q546 q180 q10 q182) rfl rfl rfl hX.1.2.2.1.2.2.2 (by decide +kernel) ⟨Nat.le_of_ble_eq_true rfl, Nat.le_of_ble_eq_true rfl⟩) (pvV (ci := 1) (q0 := 1) (C := RX3) [1, 2, 3] rfl (by decide) hP hK hD hS hA hX rfl rfl) rfl rfl hl.1 rfl (lv_room (Nat.le_of_ble_eq_true rfl)) dX0_drop_4 ⟨Nat.le_of_ble_eq_true rfl, Nat.le_of_ble_eq_true rfl⟩) (fun u_1 H locs hw_2 hP hD hS => ?_)
  have hP : va_P D CL [(hd, .inr (0, [.ref hH, vo, .int fd, vt, .int zs])), (hH, .inr (1, [.int 32, .int 8, .ref qb, .int 0, al, vi, .ref qp, .int 12])), (qb, .inl (dB, 8, .inl u_1)), (qp, .inr (3, [.long iv.1, .long iv.2.1, .long iv.2.2.1, .long iv.2.2.2.1, .long iv.2.2.2.2]))] H := hP
  have hD : va_D A [(hd, .inr (0, [.ref hH, vo, .int fd, vt, .int zs])), (hH, .inr (1, [.int 32, .int 8, .ref qb, .int 0, al, vi, .ref qp, .int 12])), (qb, .inl (dB, 8, .inl u_1)), (qp, .inr (3, [.long iv.1, .long iv.2.1, .long iv.2.2.1, .long iv.2.2.2.1, .long iv.2.2.2.2]))] := hD
  refine lv_aload_n hx hb dX0_drop_9 rfl (lv_at hl 0 rfl) ?_
  refine lv_iconst (v := 0) hx hb dX0_drop_10 (by decide) ?_
  refine va_put (D := D) (ci := 0) (v := .int 0) (ty := .int) (C := RX0) (T := TX0) (N := 5) hx hb hts in_X0 tyX0 tyX0_ok nmX0 hown hK hP hD hS 0 rfl rfl 2 (by decide) (hts _ q248) (fun _ h9 => h9) rfl (by decide +kernel) rfl rfl (Nat.le_of_ble_eq_true rfl) dX0_drop_11 (fun H locs hP hD hS => ?_)
  have hP : va_P D CL [(hd, .inr (0, [.ref hH, vo, .int 0, vt, .int zs])), (hH, .inr (1, [.int 32, .int 8, .ref qb, .int 0, al, vi, .ref qp, .int 12])), (qb, .inl (dB, 8, .inl u_1)), (qp, .inr (3, [.long iv.1, .long iv.2.1, .long iv.2.2.1, .long iv.2.2.2.1, .long iv.2.2.2.2]))] H := hP
  have hD : va_D A [(hd, .inr (0, [.ref hH, vo, .int 0, vt, .int zs])), (hH, .inr (1, [.int 32, .int 8, .ref qb, .int 0, al, vi, .ref qp, .int 12])), (qb, .inl (dB, 8, .inl u_1)), (qp, .inr (3, [.long iv.1, .long iv.2.1, .long iv.2.2.1, .long iv.2.2.2.1, .long iv.2.2.2.2]))] := hD
  exact rt_v hx hb hr hlocks hP hK hD hS dX0_drop_14 u_1 [0, 1, 2, 3] rfl (by decide) trivial

set_option maxHeartbeats 4000000 in
set_option maxRecDepth 100000 in
/-- AsconHashDesk.out -/
theorem m_out (l : Launch) (D : va_G) (dB dN dL : ClassId) (hd ho : Nat) (vr vt : Value) (fd zs x : Int32) (f : Nat → Int32) (sz : Nat)  : Ci_ l yX0_out (ws_ yX0_out cX0_out 2 (some .int)) (rm_ 0 0 0 0) D dB dN dL [.ref hd, .int x] [(hd, .inr (0, [vr, .ref ho, .int fd, vt, .int zs])), (ho, .inl (dB, 32, .inl f))] sz (S := Unit) (fun r _ => r = f (fo x 32) &&& 255) (fun _ => [(hd, .inr (0, [vr, .ref ho, .int fd, vt, .int zs])), (ho, .inl (dB, 32, .inl f))]) := by
  refine ct_of (cc := cX0_out) (maxL := 2) (ret := (some .int)) (by decide) rfl (Nat.le_of_ble_eq_true rfl) (fun p e s m below meth c A ls hx hb hml hr hlocks hts hown hin hP hK hD hA hX hS hl => ?_)
  have hown : s.vm.findClass RX0 = some m.cls := hown
  have hl : lv_has ls 2 [(0, .ref hd), (1, .int x)] := hl
  refine lv_aload_n hx hb dX0_out_0 rfl (lv_at hl 0 rfl) ?_
  refine va_get (D := D) (ci := 0) (v := .ref ho) (C := RX0) (T := TX0) (N := 5) hx hb hts in_X0 hown hK hP 0 rfl rfl 1 (by decide) (hts _ q247) (fun _ h9 => h9) rfl dX0_out_1 ?_
  refine lv_iload_n hx hb dX0_out_4 rfl (lv_at hl 1 rfl) ?_
  refine lv_ldc (v := 2147483647) hx hb hown (hts _ q278) dX0_out_5 ?_
  refine lv_iand hx hb dX0_out_7 ?_
  refine nmTi (b := (nI (fx x))) (fx_and x) ?_
  refine lv_bipush (v := 32) hx hb dX0_out_8 (by decide) ?_
  refine lv_irem hx hb dX0_out_10 (by decide) ?_
  refine nmTi (b := (nI (fo x 32))) (fo_rem x (m := 32) (by decide) (by decide)) ?_
  have h32 : fo x 32 < 32 := fo_lt x (by decide)
  refine va_bald hx hb hK hP 1 0 rfl rfl (vp_in_nI h32 (by decide)) dX0_out_11 ?_
  refine nmTi (b := (f (fo x 32))) (cl_f f (by omega)) ?_
  refine lv_sipush (v := 255) hx hb dX0_out_12 (by decide) ?_
  refine lv_iand hx hb dX0_out_15 ?_
  exact rt_i hx hb hr hlocks hP hK hD hS dX0_out_16 () [0, 1] rfl (by decide) rfl
end
section
/-! the model's arrays, as numbers -/
set_option maxRecDepth 100000
/-- five words in an array -/
def a5 (x : P5) : Nat → Int64 := fun j => if j = 0 then x.1 else if j = 1 then x.2.1 else if j = 2 then x.2.2.1 else if j = 3 then x.2.2.2.1 else if j = 4 then x.2.2.2.2 else 0
theorem up5 {g : Nat → Int64} (hg : ∀ j, 5 ≤ j → g j = 0) (v0 v1 v2 v3 v4 : Int64) : vp_updL (vp_updL (vp_updL (vp_updL (vp_updL g 0 v0) 1 v1) 2 v2) 3 v3) 4 v4 = a5 (v0, v1, v2, v3, v4) := by
  funext j
  simp only [vp_updL, a5]
  rcases (show j = 0 ∨ j = 1 ∨ j = 2 ∨ j = 3 ∨ j = 4 ∨ 5 ≤ j by omega) with h | h | h | h | h | h
  · subst h; rfl
  · subst h; rfl
  · subst h; rfl
  · subst h; rfl
  · subst h; rfl
  · rw [if_neg (by omega), if_neg (by omega), if_neg (by omega), if_neg (by omega), if_neg (by omega), if_neg (by omega), if_neg (by omega), if_neg (by omega), if_neg (by omega), if_neg (by omega), hg j h]
theorem a5_big (x : P5) : ∀ j, 5 ≤ j → a5 x j = 0 := by
  intro j h
  simp only [a5]
  rw [if_neg (by omega), if_neg (by omega), if_neg (by omega), if_neg (by omega), if_neg (by omega)]
theorem up_0 (x : P5) (v : Int64) : vp_updL (a5 x) 0 v = a5 (v, x.2) := by
  funext j
  simp only [vp_updL, a5]
  by_cases h : j = 0
  · rw [if_pos h, if_pos h]
  · rw [if_neg h, if_neg h, if_neg h]
/-- i rounds of the model -/
def pk (x : P5) : Nat → P5
  | 0 => x
  | i + 1 => rndM (rc_ i).toInt64 (pk x i)
theorem pk_12 (x : P5) : pk x 12 = pm x := by
  simp only [pk, rnd_eq]
  rfl
/-- the first q ints of the model's digest -/
def dq (y : P5) (G : Nat → Int32) (q : Nat) : Nat → Int32 := fun j => if j < q then du (sq y (j / 8)).1 (j % 8) else G j
theorem dq_0 (y : P5) (G : Nat → Int32) : dq y G 0 = G := by
  funext j
  simp only [dq]
  rw [if_neg (by omega)]
theorem dq_s (y : P5) (G : Nat → Int32) {b i q : Nat} (hq : q = 8 * b + i) (hi : i < 8) : upd (dq y G q) q (du (sq y b).1 i) = dq y G (q + 1) := by
  funext j
  simp only [upd, dq]
  by_cases h : j = q
  · rw [if_pos h, if_pos (by omega), show j / 8 = b by omega, show j % 8 = i by omega]
  · rw [if_neg h]
    by_cases h2 : j < q
    · rw [if_pos h2, if_pos (by omega)]
    · rw [if_neg h2, if_neg (by omega)]
/-- the desk's digest and the model's -/
theorem dig_dq (y : P5) (f G : Nat → Int32) {j : Nat} (hj : j < 32) : dig y f j &&& 255 = dq y G 32 j := by
  rw [dig_at y f hj, bw_du _ (Nat.mod_lt _ (by decide))]
  simp only [dq]
  rw [if_pos hj]
theorem pad_lt {M : Nat → Int32} {n j : Nat} (h : j < n) : (M j).toInt64 &&& 255 = (pad_ M n j).toInt64 &&& 255 := by
  simp only [pad_]
  rw [if_pos h]
theorem pad_eq {M : Nat → Int32} {n j : Nat} (h : j = n) : (1 : Int64) = (pad_ M n j).toInt64 &&& 255 := by
  simp only [pad_]
  rw [if_neg (by omega), if_pos h]
  decide
theorem pad_gt {M : Nat → Int32} {n j : Nat} (h : n < j) : (0 : Int64) = (pad_ M n j).toInt64 &&& 255 := by
  simp only [pad_]
  rw [if_neg (by omega), if_neg (by omega)]
  decide
theorem abs_0 (M : Nat → Int32) : pm iv0 = abs M 0 := iv_eq
end
section
/-! the model, but its hash -/
set_option maxHeartbeats 4000000 in
set_option maxRecDepth 100000 in
/-- AsconHashDeskModel.right -/
theorem m_right (l : Launch) (D : va_G) (dB dN dL : ClassId) (x : Int64) (d : Int32) (sz : Nat) (hd : (64 - d).toInt64 &&& 63 = (-d).toInt64 &&& 63) : Cl_ l yX10_right (ws_ yX10_right cX10_right 3 (some .long)) (rm_ 0 0 0 0) D dB dN dL [.long x, .int d] [] sz (S := Unit) (fun r _ => r = rr_ x d) (fun _ => []) := by
  refine ct_of (cc := cX10_right) (maxL := 3) (ret := (some .long)) (by decide) rfl (Nat.le_of_ble_eq_true rfl) (fun p e s m below meth c A ls hx hb hml hr hlocks hts hown hin hP hK hD hA hX hS hl => ?_)
  have hown : s.vm.findClass RX10 = some m.cls := hown
  have hl : lv_has ls 3 [(0, .long x), (2, .int d)] := hl
  refine lv_lload_n hx hb dX10_right_0 rfl (lv_at hl 0 rfl) ?_
  refine lv_iload_n hx hb dX10_right_1 rfl (lv_at hl 1 rfl) ?_
  refine lv_lushr hx hb dX10_right_2 rfl ?_
  refine lv_lload_n hx hb dX10_right_3 rfl (lv_at hl 0 rfl) ?_
  refine lv_bipush (v := 64) hx hb dX10_right_4 (by decide) ?_
  refine lv_iload_n hx hb dX10_right_6 rfl (lv_at hl 1 rfl) ?_
  refine lv_isub hx hb dX10_right_7 ?_
  refine lv_lshl hx hb dX10_right_8 rfl ?_
  refine lv_lor hx hb dX10_right_9 ?_
  refine nmTl (b := (rr_ x d)) (by rw [rr_, ← hd]) ?_
  exact rt_l hx hb hr hlocks hP hK hD hS dX10_right_10 () [] rfl (by decide) rfl

set_option maxHeartbeats 4000000 in
set_option maxRecDepth 100000 in
theorem L_perm {p : Program} {l : Launch} {e : Env} {s : State} {m : MethodId} {below : List Frame} {meth : Method} {c : Code} {D : va_G} {dB dN dL : ClassId} {A : Nat → Prop} {args : Array Value} {Q : State → Prop} (hx : p.tables.exec = Jvm.exec) (hb : c.code = cX10_permute) (hml : c.maxLocals = 22) (hts : ∀ w ∈ lw_all, w.before args s = true) (hown : s.vm.findClass RX10 = some m.cls) (hK : va_K D CL (TY dB dN dL) s) (hA : ∀ q : Nat, s.heap.size ≤ q → A q) (hX : xt A s s.heap) (hs : Nat) (x : P5) (kk : WG p l e (rm_ 1 0 0 22) s m args below meth c D A 0 0 Q 22 [(hs, .inl (dL, 5, .inr (.inl (a5 (pk x 12)))))] [(0, .ref hs), (1, .int (nI 12))] 264) :
    ∀ (d i : Nat), i + d = 12 → WG p l e (rm_ 1 0 0 22) s m args below meth c D A 0 0 Q 22 [(hs, .inl (dL, 5, .inr (.inl (a5 (pk x i)))))] [(0, .ref hs), (1, .int (nI i))] 2 := by
  intro d
  induction d with
  | zero =>
    intro i hi H locs ls hP hD hS hl
    refine lv_iload_n hx hb dX10_permute_2 rfl (lv_at hl 1 rfl) ?_
    refine lv_bipush (v := 12) hx hb dX10_permute_3 (by decide) ?_
    refine lv_icmp_ge (tgt := 264) hx hb dX10_permute_5 (by decide) (fun _ => ?_) (fun c_1 => absurd (show (12 : Int32) ≤ nI i from nI_le (a := 12) (by omega) (by omega)) c_1)
    have e : i = 12 := by omega
    subst e
    exact kk H locs ls hP hD hS hl
  | succ d ih =>
    intro i hi H locs ls hP hD hS hl
    obtain ⟨-, -, -, ⟨tR, hZR, hTR⟩⟩ := hX.2
    refine lv_iload_n hx hb dX10_permute_2 rfl (lv_at hl 1 rfl) ?_
    refine lv_bipush (v := 12) hx hb dX10_permute_3 (by decide) ?_
    refine lv_icmp_ge (tgt := 264) hx hb dX10_permute_5 (by decide) (fun c_b1 => absurd c_b1 (nI_ge (b := 12) (by omega) (by decide))) (fun _ => ?_)
    refine lv_aload_n hx hb dX10_permute_8 rfl (lv_at hl 0 rfl) ?_
    refine lv_iconst (v := 0) hx hb dX10_permute_9 (by decide) ?_
    refine va_lald hx hb hK hP 0 2 rfl rfl (vp_in_nI (n := 0) (by decide) (by decide)) dX10_permute_10 ?_
    refine nmTl (b := ((pk x i).1)) rfl ?_
    refine lv_topl (fun v_b2 ev_b2 => ?_)
    refine lv_lstore_n (lv' := [(2, .long v_b2), (0, .ref hs), (1, .int (nI i))]) hx hb dX10_permute_11 rfl hl (by decide) rfl (fun ls hl => ?_)
    refine lv_aload_n hx hb dX10_permute_12 rfl (lv_at hl 1 rfl) ?_
    refine lv_iconst (v := 1) hx hb dX10_permute_13 (by decide) ?_
    refine va_lald hx hb hK hP 0 2 rfl rfl (vp_in_nI (n := 1) (by decide) (by decide)) dX10_permute_14 ?_
    refine nmTl (b := ((pk x i).2.1)) rfl ?_
    refine lv_topl (fun v_b3 ev_b3 => ?_)
    refine lv_lstore (lv' := [(4, .long v_b3), (2, .long v_b2), (0, .ref hs), (1, .int (nI i))]) hx hb dX10_permute_15 hl (by decide) rfl (fun ls hl => ?_)
    refine lv_aload_n hx hb dX10_permute_17 rfl (lv_at hl 2 rfl) ?_
    refine lv_iconst (v := 2) hx hb dX10_permute_18 (by decide) ?_
    refine va_lald hx hb hK hP 0 2 rfl rfl (vp_in_nI (n := 2) (by decide) (by decide)) dX10_permute_19 ?_
    refine nmTl (b := ((pk x i).2.2.1)) rfl ?_
    refine va_gets hx hb hZR hS hown (hts _ q612) (fun _ h9 => h9) dX10_permute_20 ?_
    refine lv_iload_n hx hb dX10_permute_23 rfl (lv_at hl 3 rfl) ?_
    refine va_ti (v := .int (rc_ i)) hx hb hTR hS (vp_in_nI (by omega) (by decide)) (congrArg (fun j => Value.int (rc_ j)) (nI_clamp (by omega))) dX10_permute_24 ?_
    refine lv_i2l hx hb dX10_permute_25 rfl ?_
    refine lv_lxor hx hb dX10_permute_26 ?_
    refine lv_topl (fun v_b4 ev_b4 => ?_)
    refine lv_lstore (lv' := [(6, .long v_b4), (4, .long v_b3), (2, .long v_b2), (0, .ref hs), (1, .int (nI i))]) hx hb dX10_permute_27 hl (by decide) rfl (fun ls hl => ?_)
    refine lv_aload_n hx hb dX10_permute_29 rfl (lv_at hl 3 rfl) ?_
    refine lv_iconst (v := 3) hx hb dX10_permute_30 (by decide) ?_
    refine va_lald hx hb hK hP 0 2 rfl rfl (vp_in_nI (n := 3) (by decide) (by decide)) dX10_permute_31 ?_
    refine nmTl (b := ((pk x i).2.2.2.1)) rfl ?_
    refine lv_topl (fun v_b5 ev_b5 => ?_)
    refine lv_lstore (lv' := [(8, .long v_b5), (6, .long v_b4), (4, .long v_b3), (2, .long v_b2), (0, .ref hs), (1, .int (nI i))]) hx hb dX10_permute_32 hl (by decide) rfl (fun ls hl => ?_)
    refine lv_aload_n hx hb dX10_permute_34 rfl (lv_at hl 4 rfl) ?_
    refine lv_iconst (v := 4) hx hb dX10_permute_35 (by decide) ?_
    refine va_lald hx hb hK hP 0 2 rfl rfl (vp_in_nI (n := 4) (by decide) (by decide)) dX10_permute_36 ?_
    refine nmTl (b := ((pk x i).2.2.2.2)) rfl ?_
    refine lv_topl (fun v_b6 ev_b6 => ?_)
    refine lv_lstore (lv' := [(10, .long v_b6), (8, .long v_b5), (6, .long v_b4), (4, .long v_b3), (2, .long v_b2), (0, .ref hs), (1, .int (nI i))]) hx hb dX10_permute_37 hl (by decide) rfl (fun ls hl => ?_)
    refine lv_lload_n hx hb dX10_permute_39 rfl (lv_at hl 4 rfl) ?_
    refine lv_lload hx hb dX10_permute_40 (lv_at hl 0 rfl) ?_
    refine lv_lxor hx hb dX10_permute_42 ?_
    refine lv_topl (fun v_b7 ev_b7 => ?_)
    refine lv_lstore_n (lv' := [(2, .long v_b7), (10, .long v_b6), (8, .long v_b5), (6, .long v_b4), (4, .long v_b3), (0, .ref hs), (1, .int (nI i))]) hx hb dX10_permute_43 rfl hl (by decide) rfl (fun ls hl => ?_)
    refine lv_lload hx hb dX10_permute_44 (lv_at hl 1 rfl) ?_
    refine lv_lload hx hb dX10_permute_46 (lv_at hl 2 rfl) ?_
    refine lv_lxor hx hb dX10_permute_48 ?_
    refine lv_topl (fun v_b8 ev_b8 => ?_)
    refine lv_lstore (lv' := [(10, .long v_b8), (2, .long v_b7), (8, .long v_b5), (6, .long v_b4), (4, .long v_b3), (0, .ref hs), (1, .int (nI i))]) hx hb dX10_permute_49 hl (by decide) rfl (fun ls hl => ?_)
    refine lv_lload hx hb dX10_permute_51 (lv_at hl 3 rfl) ?_
    refine lv_lload hx hb dX10_permute_53 (lv_at hl 4 rfl) ?_
    refine lv_lxor hx hb dX10_permute_55 ?_
    refine lv_topl (fun v_b9 ev_b9 => ?_)
    refine lv_lstore (lv' := [(6, .long v_b9), (10, .long v_b8), (2, .long v_b7), (8, .long v_b5), (4, .long v_b3), (0, .ref hs), (1, .int (nI i))]) hx hb dX10_permute_56 hl (by decide) rfl (fun ls hl => ?_)
    refine lv_lload_n hx hb dX10_permute_58 rfl (lv_at hl 2 rfl) ?_
    refine lv_lload hx hb dX10_permute_59 (lv_at hl 4 rfl) ?_
    refine lv_ldc2 (v := (-1)) hx hb hown (hts _ q614) dX10_permute_61 ?_
    refine lv_lxor hx hb dX10_permute_64 ?_
    refine lv_lload hx hb dX10_permute_65 (lv_at hl 0 rfl) ?_
    refine lv_land hx hb dX10_permute_67 ?_
    refine lv_lxor hx hb dX10_permute_68 ?_
    refine lv_topl (fun v_b10 ev_b10 => ?_)
    refine lv_lstore (lv' := [(12, .long v_b10), (6, .long v_b9), (10, .long v_b8), (2, .long v_b7), (8, .long v_b5), (4, .long v_b3), (0, .ref hs), (1, .int (nI i))]) hx hb dX10_permute_69 hl (by decide) rfl (fun ls hl => ?_)
    refine lv_lload hx hb dX10_permute_71 (lv_at hl 5 rfl) ?_
    refine lv_lload hx hb dX10_permute_73 (lv_at hl 1 rfl) ?_
    refine lv_ldc2 (v := (-1)) hx hb hown (hts _ q614) dX10_permute_75 ?_
    refine lv_lxor hx hb dX10_permute_78 ?_
    refine lv_lload hx hb dX10_permute_79 (lv_at hl 4 rfl) ?_
    refine lv_land hx hb dX10_permute_81 ?_
    refine lv_lxor hx hb dX10_permute_82 ?_
    refine lv_topl (fun v_b11 ev_b11 => ?_)
    refine lv_lstore (lv' := [(14, .long v_b11), (12, .long v_b10), (6, .long v_b9), (10, .long v_b8), (2, .long v_b7), (8, .long v_b5), (4, .long v_b3), (0, .ref hs), (1, .int (nI i))]) hx hb dX10_permute_83 hl (by decide) rfl (fun ls hl => ?_)
    refine lv_lload hx hb dX10_permute_85 (lv_at hl 2 rfl) ?_
    refine lv_lload hx hb dX10_permute_87 (lv_at hl 5 rfl) ?_
    refine lv_ldc2 (v := (-1)) hx hb hown (hts _ q614) dX10_permute_89 ?_
    refine lv_lxor hx hb dX10_permute_92 ?_
    refine lv_lload hx hb dX10_permute_93 (lv_at hl 3 rfl) ?_
    refine lv_land hx hb dX10_permute_95 ?_
    refine lv_lxor hx hb dX10_permute_96 ?_
    refine lv_topl (fun v_b12 ev_b12 => ?_)
    refine lv_lstore (lv' := [(16, .long v_b12), (14, .long v_b11), (12, .long v_b10), (6, .long v_b9), (10, .long v_b8), (2, .long v_b7), (8, .long v_b5), (4, .long v_b3), (0, .ref hs), (1, .int (nI i))]) hx hb dX10_permute_97 hl (by decide) rfl (fun ls hl => ?_)
    refine lv_lload hx hb dX10_permute_99 (lv_at hl 6 rfl) ?_
    refine lv_lload hx hb dX10_permute_101 (lv_at hl 4 rfl) ?_
    refine lv_ldc2 (v := (-1)) hx hb hown (hts _ q614) dX10_permute_103 ?_
    refine lv_lxor hx hb dX10_permute_106 ?_
    refine lv_lload_n hx hb dX10_permute_107 rfl (lv_at hl 5 rfl) ?_
    refine lv_land hx hb dX10_permute_108 ?_
    refine lv_lxor hx hb dX10_permute_109 ?_
    refine lv_topl (fun v_b13 ev_b13 => ?_)
    refine lv_lstore (lv' := [(18, .long v_b13), (16, .long v_b12), (14, .long v_b11), (12, .long v_b10), (6, .long v_b9), (10, .long v_b8), (2, .long v_b7), (8, .long v_b5), (4, .long v_b3), (0, .ref hs), (1, .int (nI i))]) hx hb dX10_permute_110 hl (by decide) rfl (fun ls hl => ?_)
    refine lv_lload hx hb dX10_permute_112 (lv_at hl 5 rfl) ?_
    refine lv_lload_n hx hb dX10_permute_114 rfl (lv_at hl 6 rfl) ?_
    refine lv_ldc2 (v := (-1)) hx hb hown (hts _ q614) dX10_permute_115 ?_
    refine lv_lxor hx hb dX10_permute_118 ?_
    refine lv_lload hx hb dX10_permute_119 (lv_at hl 8 rfl) ?_
    refine lv_land hx hb dX10_permute_121 ?_
    refine lv_lxor hx hb dX10_permute_122 ?_
    refine lv_topl (fun v_b14 ev_b14 => ?_)
    refine lv_lstore (lv' := [(20, .long v_b14), (18, .long v_b13), (16, .long v_b12), (14, .long v_b11), (12, .long v_b10), (6, .long v_b9), (10, .long v_b8), (2, .long v_b7), (8, .long v_b5), (4, .long v_b3), (0, .ref hs), (1, .int (nI i))]) hx hb dX10_permute_123 hl (by decide) rfl (fun ls hl => ?_)
    refine lv_lload hx hb dX10_permute_125 (lv_at hl 3 rfl) ?_
    refine lv_lload hx hb dX10_permute_127 (lv_at hl 4 rfl) ?_
    refine lv_lxor hx hb dX10_permute_129 ?_
    refine lv_topl (fun v_b15 ev_b15 => ?_)
    refine lv_lstore (lv' := [(14, .long v_b15), (20, .long v_b14), (18, .long v_b13), (16, .long v_b12), (12, .long v_b10), (6, .long v_b9), (10, .long v_b8), (2, .long v_b7), (8, .long v_b5), (4, .long v_b3), (0, .ref hs), (1, .int (nI i))]) hx hb dX10_permute_130 hl (by decide) rfl (fun ls hl => ?_)
    refine lv_lload hx hb dX10_permute_132 (lv_at hl 4 rfl) ?_
    refine lv_lload hx hb dX10_permute_134 (lv_at hl 1 rfl) ?_
    refine lv_lxor hx hb dX10_permute_136 ?_
    refine lv_topl (fun v_b16 ev_b16 => ?_)
    refine lv_lstore (lv' := [(12, .long v_b16), (14, .long v_b15), (20, .long v_b14), (18, .long v_b13), (16, .long v_b12), (6, .long v_b9), (10, .long v_b8), (2, .long v_b7), (8, .long v_b5), (4, .long v_b3), (0, .ref hs), (1, .int (nI i))]) hx hb dX10_permute_137 hl (by decide) rfl (fun ls hl => ?_)
    refine lv_lload hx hb dX10_permute_139 (lv_at hl 3 rfl) ?_
    refine lv_lload hx hb dX10_permute_141 (lv_at hl 4 rfl) ?_
    refine lv_lxor hx hb dX10_permute_143 ?_
    refine lv_topl (fun v_b17 ev_b17 => ?_)
    refine lv_lstore (lv' := [(18, .long v_b17), (12, .long v_b16), (14, .long v_b15), (20, .long v_b14), (16, .long v_b12), (6, .long v_b9), (10, .long v_b8), (2, .long v_b7), (8, .long v_b5), (4, .long v_b3), (0, .ref hs), (1, .int (nI i))]) hx hb dX10_permute_144 hl (by decide) rfl (fun ls hl => ?_)
    refine lv_lload hx hb dX10_permute_146 (lv_at hl 4 rfl) ?_
    refine lv_ldc2 (v := (-1)) hx hb hown (hts _ q614) dX10_permute_148 ?_
    refine lv_lxor hx hb dX10_permute_151 ?_
    refine lv_topl (fun v_b18 ev_b18 => ?_)
    refine lv_lstore (lv' := [(16, .long v_b18), (18, .long v_b17), (12, .long v_b16), (14, .long v_b15), (20, .long v_b14), (6, .long v_b9), (10, .long v_b8), (2, .long v_b7), (8, .long v_b5), (4, .long v_b3), (0, .ref hs), (1, .int (nI i))]) hx hb dX10_permute_152 hl (by decide) rfl (fun ls hl => ?_)
    refine lv_aload_n hx hb dX10_permute_154 rfl (lv_at hl 10 rfl) ?_
    refine lv_iconst (v := 0) hx hb dX10_permute_155 (by decide) ?_
    refine lv_lload hx hb dX10_permute_156 (lv_at hl 2 rfl) ?_
    refine lv_lload hx hb dX10_permute_158 (lv_at hl 2 rfl) ?_
    refine lv_bipush (v := 19) hx hb dX10_permute_160 (by decide) ?_
    refine cl_l [] [(hs, .inl (dL, 5, .inr (.inl (a5 (pk x i)))))] [] [0] rfl rfl (by decide) (by decide) hP hD hS hA (va_runS (As := [.long v_b16, .int 19]) (rest := [.long v_b16, .int 0, .ref hs]) ⟨hx, hb, hml, hown, hts⟩ (m_right l D dB dN dL v_b16 19 _ (by decide)) (va_cwS 2 hts (lw_S q615 q616 q24 q617) rfl rfl rfl (by decide +kernel) ⟨Nat.le_of_ble_eq_true rfl, Nat.le_of_ble_eq_true rfl⟩) (pv_ (As := [.long v_b16, .int 19]) [] rfl (by decide) hP hK hD hS hA hX) rfl rfl hl.1 rfl (lv_room (Nat.le_of_ble_eq_true rfl)) dX10_permute_162 ⟨Nat.le_of_ble_eq_true rfl, Nat.le_of_ble_eq_true rfl⟩) (fun r_b21 u_b19 H locs hw_b20 hP hD hS => ?_)
    have hP : va_P D CL [(hs, .inl (dL, 5, .inr (.inl (a5 (pk x i)))))] H := hP
    have hD : va_D A [(hs, .inl (dL, 5, .inr (.inl (a5 (pk x i)))))] := hD
    refine lv_lxor hx hb dX10_permute_165 ?_
    refine lv_lload hx hb dX10_permute_166 (lv_at hl 2 rfl) ?_
    refine lv_bipush (v := 28) hx hb dX10_permute_168 (by decide) ?_
    refine cl_l [] [(hs, .inl (dL, 5, .inr (.inl (a5 (pk x i)))))] [] [0] rfl rfl (by decide) (by decide) hP hD hS hA (va_runS (As := [.long v_b16, .int 28]) (rest := [.long (v_b16 ^^^ r_b21), .int 0, .ref hs]) ⟨hx, hb, hml, hown, hts⟩ (m_right l D dB dN dL v_b16 28 _ (by decide)) (va_cwS 2 hts (lw_S q615 q616 q24 q617) rfl rfl rfl (by decide +kernel) ⟨Nat.le_of_ble_eq_true rfl, Nat.le_of_ble_eq_true rfl⟩) (pv_ (As := [.long v_b16, .int 28]) [] rfl (by decide) hP hK hD hS hA hX) rfl rfl hl.1 rfl (lv_room (Nat.le_of_ble_eq_true rfl)) dX10_permute_170 ⟨Nat.le_of_ble_eq_true rfl, Nat.le_of_ble_eq_true rfl⟩) (fun r_b24 u_b22 H locs hw_b23 hP hD hS => ?_)
    have hP : va_P D CL [(hs, .inl (dL, 5, .inr (.inl (a5 (pk x i)))))] H := hP
    have hD : va_D A [(hs, .inl (dL, 5, .inr (.inl (a5 (pk x i)))))] := hD
    refine lv_lxor hx hb dX10_permute_173 ?_
    refine lv_topl (fun v_b25 ev_b25 => ?_)
    refine va_last hx hb hK hP hD hS 0 2 rfl rfl (vp_in_nI (n := 0) (by decide) (by decide)) dX10_permute_174 (fun H locs hP hD hS => ?_)
    have eg_b26 : vp_updL (a5 (pk x i)) (0 : Int32).toNatClampNeg v_b25 = vp_updL (a5 (pk x i)) 0 v_b25 := rfl
    rw [eg_b26] at hP hD
    have hP : va_P D CL [(hs, .inl (dL, 5, .inr (.inl (vp_updL (a5 (pk x i)) 0 v_b25))))] H := hP
    have hD : va_D A [(hs, .inl (dL, 5, .inr (.inl (vp_updL (a5 (pk x i)) 0 v_b25))))] := hD
    refine lv_aload_n hx hb dX10_permute_175 rfl (lv_at hl 10 rfl) ?_
    refine lv_iconst (v := 1) hx hb dX10_permute_176 (by decide) ?_
    refine lv_lload hx hb dX10_permute_177 (lv_at hl 3 rfl) ?_
    refine lv_lload hx hb dX10_permute_179 (lv_at hl 3 rfl) ?_
    refine lv_bipush (v := 61) hx hb dX10_permute_181 (by decide) ?_
    refine cl_l [] [(hs, .inl (dL, 5, .inr (.inl (vp_updL (a5 (pk x i)) 0 v_b25))))] [] [0] rfl rfl (by decide) (by decide) hP hD hS hA (va_runS (As := [.long v_b15, .int 61]) (rest := [.long v_b15, .int 1, .ref hs]) ⟨hx, hb, hml, hown, hts⟩ (m_right l D dB dN dL v_b15 61 _ (by decide)) (va_cwS 2 hts (lw_S q615 q616 q24 q617) rfl rfl rfl (by decide +kernel) ⟨Nat.le_of_ble_eq_true rfl, Nat.le_of_ble_eq_true rfl⟩) (pv_ (As := [.long v_b15, .int 61]) [] rfl (by decide) hP hK hD hS hA hX) rfl rfl hl.1 rfl (lv_room (Nat.le_of_ble_eq_true rfl)) dX10_permute_183 ⟨Nat.le_of_ble_eq_true rfl, Nat.le_of_ble_eq_true rfl⟩) (fun r_b29 u_b27 H locs hw_b28 hP hD hS => ?_)
    have hP : va_P D CL [(hs, .inl (dL, 5, .inr (.inl (vp_updL (a5 (pk x i)) 0 v_b25))))] H := hP
    have hD : va_D A [(hs, .inl (dL, 5, .inr (.inl (vp_updL (a5 (pk x i)) 0 v_b25))))] := hD
    refine lv_lxor hx hb dX10_permute_186 ?_
    refine lv_lload hx hb dX10_permute_187 (lv_at hl 3 rfl) ?_
    refine lv_bipush (v := 39) hx hb dX10_permute_189 (by decide) ?_
    refine cl_l [] [(hs, .inl (dL, 5, .inr (.inl (vp_updL (a5 (pk x i)) 0 v_b25))))] [] [0] rfl rfl (by decide) (by decide) hP hD hS hA (va_runS (As := [.long v_b15, .int 39]) (rest := [.long (v_b15 ^^^ r_b29), .int 1, .ref hs]) ⟨hx, hb, hml, hown, hts⟩ (m_right l D dB dN dL v_b15 39 _ (by decide)) (va_cwS 2 hts (lw_S q615 q616 q24 q617) rfl rfl rfl (by decide +kernel) ⟨Nat.le_of_ble_eq_true rfl, Nat.le_of_ble_eq_true rfl⟩) (pv_ (As := [.long v_b15, .int 39]) [] rfl (by decide) hP hK hD hS hA hX) rfl rfl hl.1 rfl (lv_room (Nat.le_of_ble_eq_true rfl)) dX10_permute_191 ⟨Nat.le_of_ble_eq_true rfl, Nat.le_of_ble_eq_true rfl⟩) (fun r_b32 u_b30 H locs hw_b31 hP hD hS => ?_)
    have hP : va_P D CL [(hs, .inl (dL, 5, .inr (.inl (vp_updL (a5 (pk x i)) 0 v_b25))))] H := hP
    have hD : va_D A [(hs, .inl (dL, 5, .inr (.inl (vp_updL (a5 (pk x i)) 0 v_b25))))] := hD
    refine lv_lxor hx hb dX10_permute_194 ?_
    refine lv_topl (fun v_b33 ev_b33 => ?_)
    refine va_last hx hb hK hP hD hS 0 2 rfl rfl (vp_in_nI (n := 1) (by decide) (by decide)) dX10_permute_195 (fun H locs hP hD hS => ?_)
    have eg_b34 : vp_updL (vp_updL (a5 (pk x i)) 0 v_b25) (1 : Int32).toNatClampNeg v_b33 = vp_updL (vp_updL (a5 (pk x i)) 0 v_b25) 1 v_b33 := rfl
    rw [eg_b34] at hP hD
    have hP : va_P D CL [(hs, .inl (dL, 5, .inr (.inl (vp_updL (vp_updL (a5 (pk x i)) 0 v_b25) 1 v_b33))))] H := hP
    have hD : va_D A [(hs, .inl (dL, 5, .inr (.inl (vp_updL (vp_updL (a5 (pk x i)) 0 v_b25) 1 v_b33))))] := hD
    refine lv_aload_n hx hb dX10_permute_196 rfl (lv_at hl 10 rfl) ?_
    refine lv_iconst (v := 2) hx hb dX10_permute_197 (by decide) ?_
    refine lv_lload hx hb dX10_permute_198 (lv_at hl 0 rfl) ?_
    refine lv_lload hx hb dX10_permute_200 (lv_at hl 0 rfl) ?_
    refine lv_iconst (v := 1) hx hb dX10_permute_202 (by decide) ?_
    refine cl_l [] [(hs, .inl (dL, 5, .inr (.inl (vp_updL (vp_updL (a5 (pk x i)) 0 v_b25) 1 v_b33))))] [] [0] rfl rfl (by decide) (by decide) hP hD hS hA (va_runS (As := [.long v_b18, .int 1]) (rest := [.long v_b18, .int 2, .ref hs]) ⟨hx, hb, hml, hown, hts⟩ (m_right l D dB dN dL v_b18 1 _ (by decide)) (va_cwS 2 hts (lw_S q615 q616 q24 q617) rfl rfl rfl (by decide +kernel) ⟨Nat.le_of_ble_eq_true rfl, Nat.le_of_ble_eq_true rfl⟩) (pv_ (As := [.long v_b18, .int 1]) [] rfl (by decide) hP hK hD hS hA hX) rfl rfl hl.1 rfl (lv_room (Nat.le_of_ble_eq_true rfl)) dX10_permute_203 ⟨Nat.le_of_ble_eq_true rfl, Nat.le_of_ble_eq_true rfl⟩) (fun r_b37 u_b35 H locs hw_b36 hP hD hS => ?_)
    have hP : va_P D CL [(hs, .inl (dL, 5, .inr (.inl (vp_updL (vp_updL (a5 (pk x i)) 0 v_b25) 1 v_b33))))] H := hP
    have hD : va_D A [(hs, .inl (dL, 5, .inr (.inl (vp_updL (vp_updL (a5 (pk x i)) 0 v_b25) 1 v_b33))))] := hD
    refine lv_lxor hx hb dX10_permute_206 ?_
    refine lv_lload hx hb dX10_permute_207 (lv_at hl 0 rfl) ?_
    refine lv_bipush (v := 6) hx hb dX10_permute_209 (by decide) ?_
    refine cl_l [] [(hs, .inl (dL, 5, .inr (.inl (vp_updL (vp_updL (a5 (pk x i)) 0 v_b25) 1 v_b33))))] [] [0] rfl rfl (by decide) (by decide) hP hD hS hA (va_runS (As := [.long v_b18, .int 6]) (rest := [.long (v_b18 ^^^ r_b37), .int 2, .ref hs]) ⟨hx, hb, hml, hown, hts⟩ (m_right l D dB dN dL v_b18 6 _ (by decide)) (va_cwS 2 hts (lw_S q615 q616 q24 q617) rfl rfl rfl (by decide +kernel) ⟨Nat.le_of_ble_eq_true rfl, Nat.le_of_ble_eq_true rfl⟩) (pv_ (As := [.long v_b18, .int 6]) [] rfl (by decide) hP hK hD hS hA hX) rfl rfl hl.1 rfl (lv_room (Nat.le_of_ble_eq_true rfl)) dX10_permute_211 ⟨Nat.le_of_ble_eq_true rfl, Nat.le_of_ble_eq_true rfl⟩) (fun r_b40 u_b38 H locs hw_b39 hP hD hS => ?_)
    have hP : va_P D CL [(hs, .inl (dL, 5, .inr (.inl (vp_updL (vp_updL (a5 (pk x i)) 0 v_b25) 1 v_b33))))] H := hP
    have hD : va_D A [(hs, .inl (dL, 5, .inr (.inl (vp_updL (vp_updL (a5 (pk x i)) 0 v_b25) 1 v_b33))))] := hD
    refine lv_lxor hx hb dX10_permute_214 ?_
    refine lv_topl (fun v_b41 ev_b41 => ?_)
    refine va_last hx hb hK hP hD hS 0 2 rfl rfl (vp_in_nI (n := 2) (by decide) (by decide)) dX10_permute_215 (fun H locs hP hD hS => ?_)
    have eg_b42 : vp_updL (vp_updL (vp_updL (a5 (pk x i)) 0 v_b25) 1 v_b33) (2 : Int32).toNatClampNeg v_b41 = vp_updL (vp_updL (vp_updL (a5 (pk x i)) 0 v_b25) 1 v_b33) 2 v_b41 := rfl
    rw [eg_b42] at hP hD
    have hP : va_P D CL [(hs, .inl (dL, 5, .inr (.inl (vp_updL (vp_updL (vp_updL (a5 (pk x i)) 0 v_b25) 1 v_b33) 2 v_b41))))] H := hP
    have hD : va_D A [(hs, .inl (dL, 5, .inr (.inl (vp_updL (vp_updL (vp_updL (a5 (pk x i)) 0 v_b25) 1 v_b33) 2 v_b41))))] := hD
    refine lv_aload_n hx hb dX10_permute_216 rfl (lv_at hl 10 rfl) ?_
    refine lv_iconst (v := 3) hx hb dX10_permute_217 (by decide) ?_
    refine lv_lload hx hb dX10_permute_218 (lv_at hl 1 rfl) ?_
    refine lv_lload hx hb dX10_permute_220 (lv_at hl 1 rfl) ?_
    refine lv_bipush (v := 10) hx hb dX10_permute_222 (by decide) ?_
    refine cl_l [] [(hs, .inl (dL, 5, .inr (.inl (vp_updL (vp_updL (vp_updL (a5 (pk x i)) 0 v_b25) 1 v_b33) 2 v_b41))))] [] [0] rfl rfl (by decide) (by decide) hP hD hS hA (va_runS (As := [.long v_b17, .int 10]) (rest := [.long v_b17, .int 3, .ref hs]) ⟨hx, hb, hml, hown, hts⟩ (m_right l D dB dN dL v_b17 10 _ (by decide)) (va_cwS 2 hts (lw_S q615 q616 q24 q617) rfl rfl rfl (by decide +kernel) ⟨Nat.le_of_ble_eq_true rfl, Nat.le_of_ble_eq_true rfl⟩) (pv_ (As := [.long v_b17, .int 10]) [] rfl (by decide) hP hK hD hS hA hX) rfl rfl hl.1 rfl (lv_room (Nat.le_of_ble_eq_true rfl)) dX10_permute_224 ⟨Nat.le_of_ble_eq_true rfl, Nat.le_of_ble_eq_true rfl⟩) (fun r_b45 u_b43 H locs hw_b44 hP hD hS => ?_)
    have hP : va_P D CL [(hs, .inl (dL, 5, .inr (.inl (vp_updL (vp_updL (vp_updL (a5 (pk x i)) 0 v_b25) 1 v_b33) 2 v_b41))))] H := hP
    have hD : va_D A [(hs, .inl (dL, 5, .inr (.inl (vp_updL (vp_updL (vp_updL (a5 (pk x i)) 0 v_b25) 1 v_b33) 2 v_b41))))] := hD
    refine lv_lxor hx hb dX10_permute_227 ?_
    refine lv_lload hx hb dX10_permute_228 (lv_at hl 1 rfl) ?_
    refine lv_bipush (v := 17) hx hb dX10_permute_230 (by decide) ?_
    refine cl_l [] [(hs, .inl (dL, 5, .inr (.inl (vp_updL (vp_updL (vp_updL (a5 (pk x i)) 0 v_b25) 1 v_b33) 2 v_b41))))] [] [0] rfl rfl (by decide) (by decide) hP hD hS hA (va_runS (As := [.long v_b17, .int 17]) (rest := [.long (v_b17 ^^^ r_b45), .int 3, .ref hs]) ⟨hx, hb, hml, hown, hts⟩ (m_right l D dB dN dL v_b17 17 _ (by decide)) (va_cwS 2 hts (lw_S q615 q616 q24 q617) rfl rfl rfl (by decide +kernel) ⟨Nat.le_of_ble_eq_true rfl, Nat.le_of_ble_eq_true rfl⟩) (pv_ (As := [.long v_b17, .int 17]) [] rfl (by decide) hP hK hD hS hA hX) rfl rfl hl.1 rfl (lv_room (Nat.le_of_ble_eq_true rfl)) dX10_permute_232 ⟨Nat.le_of_ble_eq_true rfl, Nat.le_of_ble_eq_true rfl⟩) (fun r_b48 u_b46 H locs hw_b47 hP hD hS => ?_)
    have hP : va_P D CL [(hs, .inl (dL, 5, .inr (.inl (vp_updL (vp_updL (vp_updL (a5 (pk x i)) 0 v_b25) 1 v_b33) 2 v_b41))))] H := hP
    have hD : va_D A [(hs, .inl (dL, 5, .inr (.inl (vp_updL (vp_updL (vp_updL (a5 (pk x i)) 0 v_b25) 1 v_b33) 2 v_b41))))] := hD
    refine lv_lxor hx hb dX10_permute_235 ?_
    refine lv_topl (fun v_b49 ev_b49 => ?_)
    refine va_last hx hb hK hP hD hS 0 2 rfl rfl (vp_in_nI (n := 3) (by decide) (by decide)) dX10_permute_236 (fun H locs hP hD hS => ?_)
    have eg_b50 : vp_updL (vp_updL (vp_updL (vp_updL (a5 (pk x i)) 0 v_b25) 1 v_b33) 2 v_b41) (3 : Int32).toNatClampNeg v_b49 = vp_updL (vp_updL (vp_updL (vp_updL (a5 (pk x i)) 0 v_b25) 1 v_b33) 2 v_b41) 3 v_b49 := rfl
    rw [eg_b50] at hP hD
    have hP : va_P D CL [(hs, .inl (dL, 5, .inr (.inl (vp_updL (vp_updL (vp_updL (vp_updL (a5 (pk x i)) 0 v_b25) 1 v_b33) 2 v_b41) 3 v_b49))))] H := hP
    have hD : va_D A [(hs, .inl (dL, 5, .inr (.inl (vp_updL (vp_updL (vp_updL (vp_updL (a5 (pk x i)) 0 v_b25) 1 v_b33) 2 v_b41) 3 v_b49))))] := hD
    refine lv_aload_n hx hb dX10_permute_237 rfl (lv_at hl 10 rfl) ?_
    refine lv_iconst (v := 4) hx hb dX10_permute_238 (by decide) ?_
    refine lv_lload hx hb dX10_permute_239 (lv_at hl 4 rfl) ?_
    refine lv_lload hx hb dX10_permute_241 (lv_at hl 4 rfl) ?_
    refine lv_bipush (v := 7) hx hb dX10_permute_243 (by decide) ?_
    refine cl_l [] [(hs, .inl (dL, 5, .inr (.inl (vp_updL (vp_updL (vp_updL (vp_updL (a5 (pk x i)) 0 v_b25) 1 v_b33) 2 v_b41) 3 v_b49))))] [] [0] rfl rfl (by decide) (by decide) hP hD hS hA (va_runS (As := [.long v_b14, .int 7]) (rest := [.long v_b14, .int 4, .ref hs]) ⟨hx, hb, hml, hown, hts⟩ (m_right l D dB dN dL v_b14 7 _ (by decide)) (va_cwS 2 hts (lw_S q615 q616 q24 q617) rfl rfl rfl (by decide +kernel) ⟨Nat.le_of_ble_eq_true rfl, Nat.le_of_ble_eq_true rfl⟩) (pv_ (As := [.long v_b14, .int 7]) [] rfl (by decide) hP hK hD hS hA hX) rfl rfl hl.1 rfl (lv_room (Nat.le_of_ble_eq_true rfl)) dX10_permute_245 ⟨Nat.le_of_ble_eq_true rfl, Nat.le_of_ble_eq_true rfl⟩) (fun r_b53 u_b51 H locs hw_b52 hP hD hS => ?_)
    have hP : va_P D CL [(hs, .inl (dL, 5, .inr (.inl (vp_updL (vp_updL (vp_updL (vp_updL (a5 (pk x i)) 0 v_b25) 1 v_b33) 2 v_b41) 3 v_b49))))] H := hP
    have hD : va_D A [(hs, .inl (dL, 5, .inr (.inl (vp_updL (vp_updL (vp_updL (vp_updL (a5 (pk x i)) 0 v_b25) 1 v_b33) 2 v_b41) 3 v_b49))))] := hD
    refine lv_lxor hx hb dX10_permute_248 ?_
    refine lv_lload hx hb dX10_permute_249 (lv_at hl 4 rfl) ?_
    refine lv_bipush (v := 41) hx hb dX10_permute_251 (by decide) ?_
    refine cl_l [] [(hs, .inl (dL, 5, .inr (.inl (vp_updL (vp_updL (vp_updL (vp_updL (a5 (pk x i)) 0 v_b25) 1 v_b33) 2 v_b41) 3 v_b49))))] [] [0] rfl rfl (by decide) (by decide) hP hD hS hA (va_runS (As := [.long v_b14, .int 41]) (rest := [.long (v_b14 ^^^ r_b53), .int 4, .ref hs]) ⟨hx, hb, hml, hown, hts⟩ (m_right l D dB dN dL v_b14 41 _ (by decide)) (va_cwS 2 hts (lw_S q615 q616 q24 q617) rfl rfl rfl (by decide +kernel) ⟨Nat.le_of_ble_eq_true rfl, Nat.le_of_ble_eq_true rfl⟩) (pv_ (As := [.long v_b14, .int 41]) [] rfl (by decide) hP hK hD hS hA hX) rfl rfl hl.1 rfl (lv_room (Nat.le_of_ble_eq_true rfl)) dX10_permute_253 ⟨Nat.le_of_ble_eq_true rfl, Nat.le_of_ble_eq_true rfl⟩) (fun r_b56 u_b54 H locs hw_b55 hP hD hS => ?_)
    have hP : va_P D CL [(hs, .inl (dL, 5, .inr (.inl (vp_updL (vp_updL (vp_updL (vp_updL (a5 (pk x i)) 0 v_b25) 1 v_b33) 2 v_b41) 3 v_b49))))] H := hP
    have hD : va_D A [(hs, .inl (dL, 5, .inr (.inl (vp_updL (vp_updL (vp_updL (vp_updL (a5 (pk x i)) 0 v_b25) 1 v_b33) 2 v_b41) 3 v_b49))))] := hD
    refine lv_lxor hx hb dX10_permute_256 ?_
    refine lv_topl (fun v_b57 ev_b57 => ?_)
    refine va_last hx hb hK hP hD hS 0 2 rfl rfl (vp_in_nI (n := 4) (by decide) (by decide)) dX10_permute_257 (fun H locs hP hD hS => ?_)
    have eg_b58 : vp_updL (vp_updL (vp_updL (vp_updL (vp_updL (a5 (pk x i)) 0 v_b25) 1 v_b33) 2 v_b41) 3 v_b49) (4 : Int32).toNatClampNeg v_b57 = vp_updL (vp_updL (vp_updL (vp_updL (vp_updL (a5 (pk x i)) 0 v_b25) 1 v_b33) 2 v_b41) 3 v_b49) 4 v_b57 := rfl
    rw [eg_b58] at hP hD
    have hP : va_P D CL [(hs, .inl (dL, 5, .inr (.inl (vp_updL (vp_updL (vp_updL (vp_updL (vp_updL (a5 (pk x i)) 0 v_b25) 1 v_b33) 2 v_b41) 3 v_b49) 4 v_b57))))] H := hP
    have hD : va_D A [(hs, .inl (dL, 5, .inr (.inl (vp_updL (vp_updL (vp_updL (vp_updL (vp_updL (a5 (pk x i)) 0 v_b25) 1 v_b33) 2 v_b41) 3 v_b49) 4 v_b57))))] := hD
    have e5 : (v_b25, v_b33, v_b41, v_b49, v_b57) = pk x (i + 1) := by
      rw [ev_b57, hw_b55, hw_b52, ev_b49, hw_b47, hw_b44, ev_b41, hw_b39, hw_b36, ev_b33, hw_b31, hw_b28, ev_b25, hw_b23, hw_b20, ev_b18, ev_b17, ev_b16, ev_b15, ev_b14, ev_b13, ev_b12, ev_b11, ev_b10, ev_b9, ev_b8, ev_b7, ev_b6, ev_b5, ev_b4, ev_b3, ev_b2]
      rfl
    rw [up5 (a5_big _), e5] at hP hD
    have hP : va_P D CL [(hs, .inl (dL, 5, .inr (.inl (a5 (pk x (i + 1))))))] H := hP
    have hD : va_D A [(hs, .inl (dL, 5, .inr (.inl (a5 (pk x (i + 1))))))] := hD
    refine lv_iinc (v := (nI (i + 1))) (lv' := [(1, .int (nI (i + 1))), (16, .long v_b18), (18, .long v_b17), (12, .long v_b16), (14, .long v_b15), (20, .long v_b14), (6, .long v_b9), (10, .long v_b8), (2, .long v_b7), (8, .long v_b5), (4, .long v_b3), (0, .ref hs)]) hx hb dX10_permute_258 hl (k := 11) rfl (ii1 _) (by decide) rfl (fun ls hl => ?_)
    refine lv_goto (tgt := 2) hx hb dX10_permute_261 (by decide) ?_
    exact ih (i + 1) (by omega) _ _ _ (hP.sub [0] rfl) (hD.sub [0] (by decide) rfl) hS (lv_sub hl [11, 0] rfl)

set_option maxHeartbeats 4000000 in
set_option maxRecDepth 100000 in
/-- AsconHashDeskModel.permute -/
theorem m_permute (l : Launch) (D : va_G) (dB dN dL : ClassId) (hs : Nat) (x : P5) (sz : Nat)  : Cv_ l yX10_permute (ws_ yX10_permute cX10_permute 22 none) (rm_ 1 0 0 22) D dB dN dL [.ref hs] [(hs, .inl (dL, 5, .inr (.inl (a5 (x)))))] sz (S := Unit) (fun _ => True) (fun _ => [(hs, .inl (dL, 5, .inr (.inl (a5 (pm x)))))]) := by
  refine ct_of (cc := cX10_permute) (maxL := 22) (ret := none) (by decide) rfl (Nat.le_of_ble_eq_true rfl) (fun p e s m below meth c A ls hx hb hml hr hlocks hts hown hin hP hK hD hA hX hS hl => ?_)
  have hown : s.vm.findClass RX10 = some m.cls := hown
  have hl : lv_has ls 22 [(0, .ref hs)] := hl
  refine lv_iconst (v := 0) hx hb dX10_permute_0 (by decide) ?_
  refine lv_istore_n (lv' := [(1, .int 0), (0, .ref hs)]) hx hb dX10_permute_1 rfl hl (by decide) rfl (fun ls hl => ?_)
  have hl : lv_has ls 22 [(1, .int (nI 0)), (0, .ref hs)] := hl
  refine L_perm hx hb hml hts hown hK hA hX hs x (fun H locs ls hP hD hS hl => ?_) 12 0 (by omega) _ _ _ (hP.sub [0] rfl) (hD.sub [0] (by decide) rfl) hS (lv_sub hl [1, 0] rfl)
  rw [pk_12] at hP hD
  have hP : va_P D CL [(hs, .inl (dL, 5, .inr (.inl (a5 (pm x)))))] H := hP
  have hD : va_D A [(hs, .inl (dL, 5, .inr (.inl (a5 (pm x)))))] := hD
  exact rt_v hx hb hr hlocks hP hK hD hS dX10_permute_264 () [0] rfl (by decide) trivial

set_option maxHeartbeats 4000000 in
set_option maxRecDepth 100000 in
/-- AsconHashDeskModel.fold -/
theorem m_fold (l : Launch) (D : va_G) (dB dN dL : ClassId) (x : Int32) (m' : Nat) (sz : Nat) (h0 : 0 < m') (hm : m' < 2 ^ 31) : Ci_ l yX10_fold (ws_ yX10_fold cX10_fold 2 (some .int)) (rm_ 0 0 0 0) D dB dN dL [.int x, .int (nI m')] [] sz (S := Unit) (fun r _ => r = nI (fo x m')) (fun _ => []) := by
  refine ct_of (cc := cX10_fold) (maxL := 2) (ret := (some .int)) (by decide) rfl (Nat.le_of_ble_eq_true rfl) (fun p e s m below meth c A ls hx hb hml hr hlocks hts hown hin hP hK hD hA hX hS hl => ?_)
  have hown : s.vm.findClass RX10 = some m.cls := hown
  have hl : lv_has ls 2 [(0, .int x), (1, .int (nI m'))] := hl
  refine lv_iload_n hx hb dX10_fold_0 rfl (lv_at hl 0 rfl) ?_
  refine lv_ldc (v := 2147483647) hx hb hown (hts _ q587) dX10_fold_1 ?_
  refine lv_iand hx hb dX10_fold_3 ?_
  refine nmTi (b := (nI (fx x))) (fx_and x) ?_
  refine lv_iload_n hx hb dX10_fold_4 rfl (lv_at hl 1 rfl) ?_
  refine lv_irem hx hb dX10_fold_5 (nI_ne0 h0 hm) ?_
  refine nmTi (b := (nI (fo x m'))) (fo_rem x h0 hm) ?_
  exact rt_i hx hb hr hlocks hP hK hD hS dX10_fold_6 () [] rfl (by decide) rfl

set_option maxHeartbeats 4000000 in
set_option maxRecDepth 100000 in
/-- AsconHashDeskModel() -/
theorem m_modelI (l : Launch) (D : va_G) (dB dN dL : ClassId) (hm : Nat) (sz : Nat)  : Cv_ l yX10_init (ws_ yX10_init cX10_init 1 none) (rm_ 1 3 17440 12) D dB dN dL [.ref hm] [(hm, .inr (4, [.null, .int 0, .null, .int 0, .null]))] sz (S := Nat × Nat × Nat) (fun _ => True) (fun u => [(hm, .inr (4, [.ref u.1, .int 0, .ref u.2.1, .int 0, .ref u.2.2])), (u.1, .inl (dB, 1024, .inl (fun _ => 0))), (u.2.1, .inl (dB, 16384, .inl (fun _ => 0))), (u.2.2, .inl (dN, 32, .inl (fun _ => 0)))]) := by
  refine ct_of (cc := cX10_init) (maxL := 1) (ret := none) (by decide) rfl (Nat.le_of_ble_eq_true rfl) (fun p e s m below meth c A ls hx hb hml hr hlocks hts hown hin hP hK hD hA hX hS hl => ?_)
  have hown : s.vm.findClass RX10 = some m.cls := hown
  have hl : lv_has ls 1 [(0, .ref hm)] := hl
  refine lv_aload_n hx hb dX10_init_0 rfl (lv_at hl 0 rfl) ?_
  refine W.objInit hx hb hown (hts _ q558) (hts _ q38) (hts _ q39) rfl (by rw [hml]; exact hl.1) rfl dX10_init_1 (Nat.le_of_ble_eq_true rfl) (Nat.le_of_ble_eq_true rfl) ?_
  refine W.eq (g2 := F0 m 4 ls []) rfl ?_
  refine lv_aload_n hx hb dX10_init_4 rfl (lv_at hl 0 rfl) ?_
  refine lv_sipush (v := 1024) hx hb dX10_init_5 (by decide) ?_
  refine na_ (N' := 1024) (t0 := 0) (dA := dB) (a0 := (1024, .inl (fun _ => 0))) (atype := .byte) (ty := .byte) hx hb rfl (fun _ h => by cases h) (hts _ q64) hK rfl hP hD hS hA (fun _ => rfl) (by decide) rfl (Nat.le_of_ble_eq_true rfl) (Nat.le_of_ble_eq_true rfl) (Nat.le_of_ble_eq_true rfl) dX10_init_8 (fun q_1 H hP hD hS => ?_)
  have hP : va_P D CL [(hm, .inr (4, [.null, .int 0, .null, .int 0, .null])), (q_1, .inl (dB, 1024, .inl (fun _ => 0)))] H := hP
  have hD : va_D A [(hm, .inr (4, [.null, .int 0, .null, .int 0, .null])), (q_1, .inl (dB, 1024, .inl (fun _ => 0)))] := hD
  refine va_putF (D := D) (ci := 4) (v := .ref q_1) (ty := .array .byte) (C := RX10) (T := TX10) (N := 5) hx hb hts in_X10 tyX10 tyX10_ok nmX10 hown hK hP hD hS 0 rfl rfl 0 (by decide) (hts _ q559) (fun _ h9 => h9) rfl hin rfl (by decide +kernel) rfl rfl (Nat.le_of_ble_eq_true rfl) dX10_init_10 (fun H locs hP hD hS => ?_)
  have hP : va_P D CL [(hm, .inr (4, [.ref q_1, .int 0, .null, .int 0, .null])), (q_1, .inl (dB, 1024, .inl (fun _ => 0)))] H := hP
  have hD : va_D A [(hm, .inr (4, [.ref q_1, .int 0, .null, .int 0, .null])), (q_1, .inl (dB, 1024, .inl (fun _ => 0)))] := hD
  refine lv_aload_n hx hb dX10_init_13 rfl (lv_at hl 0 rfl) ?_
  refine lv_sipush (v := 16384) hx hb dX10_init_14 (by decide) ?_
  refine na_ (N' := 16384) (t0 := 0) (dA := dB) (a0 := (16384, .inl (fun _ => 0))) (atype := .byte) (ty := .byte) hx hb rfl (fun _ h => by cases h) (hts _ q64) hK rfl hP hD hS hA (fun _ => rfl) (by decide) rfl (Nat.le_of_ble_eq_true rfl) (Nat.le_of_ble_eq_true rfl) (Nat.le_of_ble_eq_true rfl) dX10_init_17 (fun q_2 H hP hD hS => ?_)
  have hP : va_P D CL [(hm, .inr (4, [.ref q_1, .int 0, .null, .int 0, .null])), (q_1, .inl (dB, 1024, .inl (fun _ => 0))), (q_2, .inl (dB, 16384, .inl (fun _ => 0)))] H := hP
  have hD : va_D A [(hm, .inr (4, [.ref q_1, .int 0, .null, .int 0, .null])), (q_1, .inl (dB, 1024, .inl (fun _ => 0))), (q_2, .inl (dB, 16384, .inl (fun _ => 0)))] := hD
  refine va_putF (D := D) (ci := 4) (v := .ref q_2) (ty := .array .byte) (C := RX10) (T := TX10) (N := 5) hx hb hts in_X10 tyX10 tyX10_ok nmX10 hown hK hP hD hS 0 rfl rfl 2 (by decide) (hts _ q561) (fun _ h9 => h9) rfl hin rfl (by decide +kernel) rfl rfl (Nat.le_of_ble_eq_true rfl) dX10_init_19 (fun H locs hP hD hS => ?_)
  have hP : va_P D CL [(hm, .inr (4, [.ref q_1, .int 0, .ref q_2, .int 0, .null])), (q_1, .inl (dB, 1024, .inl (fun _ => 0))), (q_2, .inl (dB, 16384, .inl (fun _ => 0)))] H := hP
  have hD : va_D A [(hm, .inr (4, [.ref q_1, .int 0, .ref q_2, .int 0, .null])), (q_1, .inl (dB, 1024, .inl (fun _ => 0))), (q_2, .inl (dB, 16384, .inl (fun _ => 0)))] := hD
  refine lv_aload_n hx hb dX10_init_22 rfl (lv_at hl 0 rfl) ?_
  refine lv_bipush (v := 32) hx hb dX10_init_23 (by decide) ?_
  refine na_ (N' := 32) (t0 := 1) (dA := dN) (a0 := (32, .inl (fun _ => 0))) (atype := .int) (ty := .int) hx hb rfl (fun _ h => by cases h) (hts _ q575) hK rfl hP hD hS hA (fun _ => rfl) (by decide) rfl (Nat.le_of_ble_eq_true rfl) (Nat.le_of_ble_eq_true rfl) (Nat.le_of_ble_eq_true rfl) dX10_init_25 (fun q_3 H hP hD hS => ?_)
  have hP : va_P D CL [(hm, .inr (4, [.ref q_1, .int 0, .ref q_2, .int 0, .null])), (q_1, .inl (dB, 1024, .inl (fun _ => 0))), (q_2, .inl (dB, 16384, .inl (fun _ => 0))), (q_3, .inl (dN, 32, .inl (fun _ => 0)))] H := hP
  have hD : va_D A [(hm, .inr (4, [.ref q_1, .int 0, .ref q_2, .int 0, .null])), (q_1, .inl (dB, 1024, .inl (fun _ => 0))), (q_2, .inl (dB, 16384, .inl (fun _ => 0))), (q_3, .inl (dN, 32, .inl (fun _ => 0)))] := hD
  refine va_putF (D := D) (ci := 4) (v := .ref q_3) (ty := .array .int) (C := RX10) (T := TX10) (N := 5) hx hb hts in_X10 tyX10 tyX10_ok nmX10 hown hK hP hD hS 0 rfl rfl 4 (by decide) (hts _ q563) (fun _ h9 => h9) rfl hin rfl (by decide +kernel) rfl rfl (Nat.le_of_ble_eq_true rfl) dX10_init_27 (fun H locs hP hD hS => ?_)
  have hP : va_P D CL [(hm, .inr (4, [.ref q_1, .int 0, .ref q_2, .int 0, .ref q_3])), (q_1, .inl (dB, 1024, .inl (fun _ => 0))), (q_2, .inl (dB, 16384, .inl (fun _ => 0))), (q_3, .inl (dN, 32, .inl (fun _ => 0)))] H := hP
  have hD : va_D A [(hm, .inr (4, [.ref q_1, .int 0, .ref q_2, .int 0, .ref q_3])), (q_1, .inl (dB, 1024, .inl (fun _ => 0))), (q_2, .inl (dB, 16384, .inl (fun _ => 0))), (q_3, .inl (dN, 32, .inl (fun _ => 0)))] := hD
  exact rt_v hx hb hr hlocks hP hK hD hS dX10_init_30 (q_1, q_2, q_3) [0, 1, 2, 3] rfl (by decide) trivial

set_option maxHeartbeats 4000000 in
set_option maxRecDepth 100000 in
theorem L_mput {p : Program} {l : Launch} {e : Env} {s : State} {m : MethodId} {below : List Frame} {meth : Method} {c : Code} {D : va_G} {dB dN dL : ClassId} {A : Nat → Prop} {R : Room} {args : Array Value} {Q : State → Prop} {cells slots : Nat} (hx : p.tables.exec = Jvm.exec) (hb : c.code = cX10_put) (hml : c.maxLocals = 7) (hts : ∀ w ∈ lw_all, w.before args s = true) (hown : s.vm.findClass RX10 = some m.cls) (hK : va_K D CL (TY dB dN dL) s) (hA : ∀ q : Nat, s.heap.size ≤ q → A q) (hX : xt A s s.heap) (hm mt hw z : Nat) (vm vd : Value) (fd : Int32) (T wf : Nat → Int32) (hz : z + 16 ≤ 1024) (kk : WG p l e R s m args below meth c D A cells slots Q 7 [(hm, .inr (4, [.ref mt, .int (nI z), vm, .int fd, vd])), (mt, .inl (dB, 1024, .inl (mp T z wf 16))), (hw, .inl (dN, 4, .inl wf))] [(0, .ref hm), (5, .ref hw), (6, .int (nI 16))] 84) :
    ∀ (d i : Nat), i + d = 16 → WG p l e R s m args below meth c D A cells slots Q 7 [(hm, .inr (4, [.ref mt, .int (nI z), vm, .int fd, vd])), (mt, .inl (dB, 1024, .inl (mp T z wf i))), (hw, .inl (dN, 4, .inl wf))] [(0, .ref hm), (5, .ref hw), (6, .int (nI i))] 40 := by
  intro d
  induction d with
  | zero =>
    intro i hi H locs ls hP hD hS hl
    refine lv_iload hx hb dX10_put_40 (lv_at hl 2 rfl) ?_
    refine lv_bipush (v := 16) hx hb dX10_put_42 (by decide) ?_
    refine lv_icmp_ge (tgt := 84) hx hb dX10_put_44 (by decide) (fun _ => ?_) (fun c_1 => absurd (show (16 : Int32) ≤ nI i from nI_le (a := 16) (by omega) (by omega)) c_1)
    have e : i = 16 := by omega
    subst e
    exact kk H locs ls hP hD hS hl
  | succ d ih =>
    intro i hi H locs ls hP hD hS hl
    refine lv_iload hx hb dX10_put_40 (lv_at hl 2 rfl) ?_
    refine lv_bipush (v := 16) hx hb dX10_put_42 (by decide) ?_
    refine lv_icmp_ge (tgt := 84) hx hb dX10_put_44 (by decide) (fun c_b1 => absurd c_b1 (nI_ge (b := 16) (by omega) (by decide))) (fun _ => ?_)
    refine lv_aload_n hx hb dX10_put_47 rfl (lv_at hl 0 rfl) ?_
    refine va_get (D := D) (ci := 4) (v := .ref mt) (C := RX10) (T := TX10) (N := 5) hx hb hts in_X10 hown hK hP 0 rfl rfl 0 (by decide) (hts _ q559) (fun _ h9 => h9) rfl dX10_put_48 ?_
    refine lv_aload_n hx hb dX10_put_51 rfl (lv_at hl 0 rfl) ?_
    refine va_get (D := D) (ci := 4) (v := .int (nI z)) (C := RX10) (T := TX10) (N := 5) hx hb hts in_X10 hown hK hP 0 rfl rfl 1 (by decide) (hts _ q560) (fun _ h9 => h9) rfl dX10_put_52 ?_
    refine lv_iload hx hb dX10_put_55 (lv_at hl 2 rfl) ?_
    refine lv_iadd hx hb dX10_put_57 ?_
    refine nmTi (b := (nI (z + i))) (nI_add z i) ?_
    refine lv_aload hx hb dX10_put_58 (lv_at hl 1 rfl) ?_
    refine lv_iload hx hb dX10_put_60 (lv_at hl 2 rfl) ?_
    refine lv_iconst (v := 4) hx hb dX10_put_62 (by decide) ?_
    refine lv_idiv hx hb dX10_put_63 (by decide) ?_
    refine nmTi (b := (nI (i / 4))) (pk_div (d := 4) (by omega) (by decide) (by decide)) ?_
    refine va_iald hx hb hK hP 2 1 rfl rfl (vp_in_nI (show i / 4 < 4 by omega) (by decide)) dX10_put_64 ?_
    refine nmTi (b := (wf (i / 4))) (cl_f wf (by omega)) ?_
    refine lv_bipush (v := 24) hx hb dX10_put_65 (by decide) ?_
    refine lv_bipush (v := 8) hx hb dX10_put_67 (by decide) ?_
    refine lv_iload hx hb dX10_put_69 (lv_at hl 2 rfl) ?_
    refine lv_iconst (v := 4) hx hb dX10_put_71 (by decide) ?_
    refine lv_irem hx hb dX10_put_72 (by decide) ?_
    refine nmTi (b := (nI (i % 4))) (pk_rem (d := 4) (by omega) (by decide) (by decide)) ?_
    refine lv_imul hx hb dX10_put_73 ?_
    refine nmTi (b := (nI (8 * (i % 4)))) (pk_mul 8 (i % 4)) ?_
    refine lv_isub hx hb dX10_put_74 ?_
    refine nmTi (b := (nI (8 * (3 - i % 4)))) ((pk_sub (a := 24) (by omega)).trans (congrArg nI (by omega))) ?_
    refine lv_iushr hx hb dX10_put_75 rfl ?_
    refine lv_i2b hx hb dX10_put_76 rfl ?_
    refine nmTi (b := (bi (wf (i / 4)) (3 - i % 4))) rfl ?_
    refine va_bast hx hb hK hP hD hS 1 0 rfl rfl (vp_in_nI (by omega) (by decide)) dX10_put_77 (fun H locs hP hD hS => ?_)
    have eg_b2 : upd (mp T z wf i) (nI (z + i)).toNatClampNeg (vp_nar .byte (bi (wf (i / 4)) (3 - i % 4))) = mp T z wf (i + 1) := (by rw [nI_clamp (by omega), show vp_nar .byte (bi (wf (i / 4)) (3 - i % 4)) = bi (wf (i / 4)) (3 - i % 4) from pk_vb _]; exact mp_s T z wf i)
    rw [eg_b2] at hP hD
    have hP : va_P D CL [(hm, .inr (4, [.ref mt, .int (nI z), vm, .int fd, vd])), (mt, .inl (dB, 1024, .inl (mp T z wf (i + 1)))), (hw, .inl (dN, 4, .inl wf))] H := hP
    have hD : va_D A [(hm, .inr (4, [.ref mt, .int (nI z), vm, .int fd, vd])), (mt, .inl (dB, 1024, .inl (mp T z wf (i + 1)))), (hw, .inl (dN, 4, .inl wf))] := hD
    refine lv_iinc (v := (nI (i + 1))) (lv' := [(6, .int (nI (i + 1))), (0, .ref hm), (5, .ref hw)]) hx hb dX10_put_78 hl (k := 2) rfl (ii1 _) (by decide) rfl (fun ls hl => ?_)
    refine lv_goto (tgt := 40) hx hb dX10_put_81 (by decide) ?_
    exact ih (i + 1) (by omega) _ _ _ (hP.sub [0, 1, 2] rfl) (hD.sub [0, 1, 2] (by decide) rfl) hS (lv_sub hl [1, 2, 0] rfl)

set_option maxHeartbeats 4000000 in
set_option maxRecDepth 100000 in
/-- AsconHashDeskModel.put -/
theorem m_mput (l : Launch) (D : va_G) (dB dN dL : ClassId) (hm mt z : Nat) (vm vd : Value) (fd : Int32) (T : Nat → Int32) (wa wb wc wd : Int32) (sz : Nat) (hz : z ≤ 1024) : Ci_ l yX10_put (ws_ yX10_put cX10_put 7 (some .boolean)) (rm_ 0 1 4 0) D dB dN dL [.ref hm, .int wa, .int wb, .int wc, .int wd] [(hm, .inr (4, [.ref mt, .int (nI z), vm, .int fd, vd])), (mt, .inl (dB, 1024, .inl T))] sz (S := Nat × (Nat → Int32)) (fun r u => r = (if z + 16 ≤ 1024 then 1 else 0) ∧ u = if z + 16 ≤ 1024 then (z + 16, p4 T z wa wb wc wd) else (z, T)) (fun u => [(hm, .inr (4, [.ref mt, .int (nI u.1), vm, .int fd, vd])), (mt, .inl (dB, 1024, .inl u.2))]) := by
  refine ct_of (cc := cX10_put) (maxL := 7) (ret := (some .boolean)) (by decide) rfl (Nat.le_of_ble_eq_true rfl) (fun p e s m below meth c A ls hx hb hml hr hlocks hts hown hin hP hK hD hA hX hS hl => ?_)
  have hown : s.vm.findClass RX10 = some m.cls := hown
  have hl : lv_has ls 7 [(0, .ref hm), (1, .int wa), (2, .int wb), (3, .int wc), (4, .int wd)] := hl
  refine lv_aload_n hx hb dX10_put_0 rfl (lv_at hl 0 rfl) ?_
  refine va_get (D := D) (ci := 4) (v := .int (nI z)) (C := RX10) (T := TX10) (N := 5) hx hb hts in_X10 hown hK hP 0 rfl rfl 1 (by decide) (hts _ q560) (fun _ h9 => h9) rfl dX10_put_1 ?_
  refine lv_bipush (v := 16) hx hb dX10_put_4 (by decide) ?_
  refine lv_iadd hx hb dX10_put_6 ?_
  refine nmTi (b := (nI (z + 16))) (nI_add z 16) ?_
  refine lv_sipush (v := 1024) hx hb dX10_put_7 (by decide) ?_
  refine lv_icmp_le (tgt := 15) hx hb dX10_put_10 (by decide) (fun c_1 => ?_) (fun c_1 => ?_)
  · skip
    have h16 : z + 16 ≤ 1024 := (nI_leI (b := 1024) (by omega) (by decide)).mp c_1
    refine lv_iconst (v := 4) hx hb dX10_put_15 (by decide) ?_
    refine na_ (N' := 4) (t0 := 1) (dA := dN) (a0 := (4, .inl (fun _ => 0))) (atype := .int) (ty := .int) hx hb rfl (fun _ h => by cases h) (hts _ q575) hK rfl hP hD hS hA (fun _ => rfl) (by decide) rfl (Nat.le_of_ble_eq_true rfl) (Nat.le_of_ble_eq_true rfl) (Nat.le_of_ble_eq_true rfl) dX10_put_16 (fun q_2 H hP hD hS => ?_)
    have hP : va_P D CL [(hm, .inr (4, [.ref mt, .int (nI z), vm, .int fd, vd])), (mt, .inl (dB, 1024, .inl T)), (q_2, .inl (dN, 4, .inl (fun _ => 0)))] H := hP
    have hD : va_D A [(hm, .inr (4, [.ref mt, .int (nI z), vm, .int fd, vd])), (mt, .inl (dB, 1024, .inl T)), (q_2, .inl (dN, 4, .inl (fun _ => 0)))] := hD
    refine lv_dup hx hb dX10_put_18 rfl ?_
    refine lv_iconst (v := 0) hx hb dX10_put_19 (by decide) ?_
    refine lv_iload_n hx hb dX10_put_20 rfl (lv_at hl 1 rfl) ?_
    refine va_iast hx hb hK hP hD hS 2 1 rfl rfl (vp_in_nI (n := 0) (by decide) (by decide)) dX10_put_21 (fun H locs hP hD hS => ?_)
    have eg_3 : upd (fun _ => 0) (0 : Int32).toNatClampNeg wa = upd (fun _ => 0) 0 wa := rfl
    rw [eg_3] at hP hD
    have hP : va_P D CL [(hm, .inr (4, [.ref mt, .int (nI z), vm, .int fd, vd])), (mt, .inl (dB, 1024, .inl T)), (q_2, .inl (dN, 4, .inl (upd (fun _ => 0) 0 wa)))] H := hP
    have hD : va_D A [(hm, .inr (4, [.ref mt, .int (nI z), vm, .int fd, vd])), (mt, .inl (dB, 1024, .inl T)), (q_2, .inl (dN, 4, .inl (upd (fun _ => 0) 0 wa)))] := hD
    refine lv_dup hx hb dX10_put_22 rfl ?_
    refine lv_iconst (v := 1) hx hb dX10_put_23 (by decide) ?_
    refine lv_iload_n hx hb dX10_put_24 rfl (lv_at hl 2 rfl) ?_
    refine va_iast hx hb hK hP hD hS 2 1 rfl rfl (vp_in_nI (n := 1) (by decide) (by decide)) dX10_put_25 (fun H locs hP hD hS => ?_)
    have eg_4 : upd (upd (fun _ => 0) 0 wa) (1 : Int32).toNatClampNeg wb = upd (upd (fun _ => 0) 0 wa) 1 wb := rfl
    rw [eg_4] at hP hD
    have hP : va_P D CL [(hm, .inr (4, [.ref mt, .int (nI z), vm, .int fd, vd])), (mt, .inl (dB, 1024, .inl T)), (q_2, .inl (dN, 4, .inl (upd (upd (fun _ => 0) 0 wa) 1 wb)))] H := hP
    have hD : va_D A [(hm, .inr (4, [.ref mt, .int (nI z), vm, .int fd, vd])), (mt, .inl (dB, 1024, .inl T)), (q_2, .inl (dN, 4, .inl (upd (upd (fun _ => 0) 0 wa) 1 wb)))] := hD
    refine lv_dup hx hb dX10_put_26 rfl ?_
    refine lv_iconst (v := 2) hx hb dX10_put_27 (by decide) ?_
    refine lv_iload_n hx hb dX10_put_28 rfl (lv_at hl 3 rfl) ?_
    refine va_iast hx hb hK hP hD hS 2 1 rfl rfl (vp_in_nI (n := 2) (by decide) (by decide)) dX10_put_29 (fun H locs hP hD hS => ?_)
    have eg_5 : upd (upd (upd (fun _ => 0) 0 wa) 1 wb) (2 : Int32).toNatClampNeg wc = upd (upd (upd (fun _ => 0) 0 wa) 1 wb) 2 wc := rfl
    rw [eg_5] at hP hD
    have hP : va_P D CL [(hm, .inr (4, [.ref mt, .int (nI z), vm, .int fd, vd])), (mt, .inl (dB, 1024, .inl T)), (q_2, .inl (dN, 4, .inl (upd (upd (upd (fun _ => 0) 0 wa) 1 wb) 2 wc)))] H := hP
    have hD : va_D A [(hm, .inr (4, [.ref mt, .int (nI z), vm, .int fd, vd])), (mt, .inl (dB, 1024, .inl T)), (q_2, .inl (dN, 4, .inl (upd (upd (upd (fun _ => 0) 0 wa) 1 wb) 2 wc)))] := hD
    refine lv_dup hx hb dX10_put_30 rfl ?_
    refine lv_iconst (v := 3) hx hb dX10_put_31 (by decide) ?_
    refine lv_iload hx hb dX10_put_32 (lv_at hl 4 rfl) ?_
    refine va_iast hx hb hK hP hD hS 2 1 rfl rfl (vp_in_nI (n := 3) (by decide) (by decide)) dX10_put_34 (fun H locs hP hD hS => ?_)
    have eg_6 : upd (upd (upd (upd (fun _ => 0) 0 wa) 1 wb) 2 wc) (3 : Int32).toNatClampNeg wd = upd (upd (upd (upd (fun _ => 0) 0 wa) 1 wb) 2 wc) 3 wd := rfl
    rw [eg_6] at hP hD
    have hP : va_P D CL [(hm, .inr (4, [.ref mt, .int (nI z), vm, .int fd, vd])), (mt, .inl (dB, 1024, .inl T)), (q_2, .inl (dN, 4, .inl (upd (upd (upd (upd (fun _ => 0) 0 wa) 1 wb) 2 wc) 3 wd)))] H := hP
    have hD : va_D A [(hm, .inr (4, [.ref mt, .int (nI z), vm, .int fd, vd])), (mt, .inl (dB, 1024, .inl T)), (q_2, .inl (dN, 4, .inl (upd (upd (upd (upd (fun _ => 0) 0 wa) 1 wb) 2 wc) 3 wd)))] := hD
    refine lv_astore (lv' := [(5, .ref q_2), (0, .ref hm), (1, .int wa), (2, .int wb), (3, .int wc), (4, .int wd)]) hx hb dX10_put_35 hl (by decide) rfl (fun ls hl => ?_)
    refine lv_iconst (v := 0) hx hb dX10_put_37 (by decide) ?_
    refine lv_istore (lv' := [(6, .int 0), (5, .ref q_2), (0, .ref hm), (1, .int wa), (2, .int wb), (3, .int wc), (4, .int wd)]) hx hb dX10_put_38 hl (by decide) rfl (fun ls hl => ?_)
    have hl : lv_has ls 7 [(6, .int (nI 0)), (5, .ref q_2), (0, .ref hm), (1, .int wa), (2, .int wb), (3, .int wc), (4, .int wd)] := hl
    have hP : va_P D CL [(hm, .inr (4, [.ref mt, .int (nI z), vm, .int fd, vd])), (mt, .inl (dB, 1024, .inl (mp T z (upd (upd (upd (upd (fun _ => 0) 0 wa) 1 wb) 2 wc) 3 wd) 0))), (q_2, .inl (dN, 4, .inl (upd (upd (upd (upd (fun _ => 0) 0 wa) 1 wb) 2 wc) 3 wd)))] H := by
      rw [mp_0]
      exact hP
    have hD : va_D A [(hm, .inr (4, [.ref mt, .int (nI z), vm, .int fd, vd])), (mt, .inl (dB, 1024, .inl (mp T z (upd (upd (upd (upd (fun _ => 0) 0 wa) 1 wb) 2 wc) 3 wd) 0))), (q_2, .inl (dN, 4, .inl (upd (upd (upd (upd (fun _ => 0) 0 wa) 1 wb) 2 wc) 3 wd)))] := by
      rw [mp_0]
      exact hD
    refine L_mput hx hb hml hts hown hK hA hX hm mt q_2 z vm vd fd T (upd (upd (upd (upd (fun _ => 0) 0 wa) 1 wb) 2 wc) 3 wd) h16 (fun H locs ls hP hD hS hl => ?_) 16 0 (by omega) _ _ _ (hP.sub [0, 1, 2] rfl) (hD.sub [0, 1, 2] (by decide) rfl) hS (lv_sub hl [2, 1, 0] rfl)
    rw [mp_p4] at hP hD
    have hP : va_P D CL [(hm, .inr (4, [.ref mt, .int (nI z), vm, .int fd, vd])), (mt, .inl (dB, 1024, .inl (p4 T z wa wb wc wd))), (q_2, .inl (dN, 4, .inl (upd (upd (upd (upd (fun _ => 0) 0 wa) 1 wb) 2 wc) 3 wd)))] H := hP
    have hD : va_D A [(hm, .inr (4, [.ref mt, .int (nI z), vm, .int fd, vd])), (mt, .inl (dB, 1024, .inl (p4 T z wa wb wc wd))), (q_2, .inl (dN, 4, .inl (upd (upd (upd (upd (fun _ => 0) 0 wa) 1 wb) 2 wc) 3 wd)))] := hD
    refine lv_aload_n hx hb dX10_put_84 rfl (lv_at hl 0 rfl) ?_
    refine lv_aload_n hx hb dX10_put_85 rfl (lv_at hl 0 rfl) ?_
    refine va_get (D := D) (ci := 4) (v := .int (nI z)) (C := RX10) (T := TX10) (N := 5) hx hb hts in_X10 hown hK hP 0 rfl rfl 1 (by decide) (hts _ q560) (fun _ h9 => h9) rfl dX10_put_86 ?_
    refine lv_bipush (v := 16) hx hb dX10_put_89 (by decide) ?_
    refine lv_iadd hx hb dX10_put_91 ?_
    refine nmTi (b := (nI (z + 16))) (nI_add z 16) ?_
    refine va_put (D := D) (ci := 4) (v := .int (nI (z + 16))) (ty := .int) (C := RX10) (T := TX10) (N := 5) hx hb hts in_X10 tyX10 tyX10_ok nmX10 hown hK hP hD hS 0 rfl rfl 1 (by decide) (hts _ q560) (fun _ h9 => h9) rfl (by decide +kernel) rfl rfl (Nat.le_of_ble_eq_true rfl) dX10_put_92 (fun H locs hP hD hS => ?_)
    have hP : va_P D CL [(hm, .inr (4, [.ref mt, .int (nI (z + 16)), vm, .int fd, vd])), (mt, .inl (dB, 1024, .inl (p4 T z wa wb wc wd))), (q_2, .inl (dN, 4, .inl (upd (upd (upd (upd (fun _ => 0) 0 wa) 1 wb) 2 wc) 3 wd)))] H := hP
    have hD : va_D A [(hm, .inr (4, [.ref mt, .int (nI (z + 16)), vm, .int fd, vd])), (mt, .inl (dB, 1024, .inl (p4 T z wa wb wc wd))), (q_2, .inl (dN, 4, .inl (upd (upd (upd (upd (fun _ => 0) 0 wa) 1 wb) 2 wc) 3 wd)))] := hD
    refine lv_iconst (v := 1) hx hb dX10_put_95 (by decide) ?_
    exact rt_z hx hb hr hlocks hP hK hD hS dX10_put_96 (by rfl) (z + 16, p4 T z wa wb wc wd) [0, 1] rfl (by decide) ⟨(if_pos h16).symm, (if_pos h16).symm⟩
  · skip
    have h16 : ¬ z + 16 ≤ 1024 := fun h => c_1 (nI_le (b := 1024) h (by decide))
    refine lv_iconst (v := 0) hx hb dX10_put_13 (by decide) ?_
    refine W.widen (k := 1) (n := 4) (by omega) (by first | omega | (dsimp only; omega)) ?_
    exact rt_z hx hb hr hlocks hP hK hD hS dX10_put_14 (by rfl) (z, T) [0, 1] rfl (by decide) ⟨(if_neg h16).symm, (if_neg h16).symm⟩

set_option maxHeartbeats 4000000 in
set_option maxRecDepth 100000 in
/-- AsconHashDeskModel.trim -/
theorem m_mtrim (l : Launch) (D : va_G) (dB dN dL : ClassId) (hm z : Nat) (vt vm vd : Value) (fd x : Int32) (sz : Nat) (hz : z ≤ 1024) : Cv_ l yX10_trim (ws_ yX10_trim cX10_trim 2 none) (rm_ 1 0 0 21) D dB dN dL [.ref hm, .int x] [(hm, .inr (4, [vt, .int (nI z), vm, .int fd, vd]))] sz (S := Unit) (fun _ => True) (fun _ => [(hm, .inr (4, [vt, .int (nI (fo x (z + 1))), vm, .int fd, vd]))]) := by
  refine ct_of (cc := cX10_trim) (maxL := 2) (ret := none) (by decide) rfl (Nat.le_of_ble_eq_true rfl) (fun p e s m below meth c A ls hx hb hml hr hlocks hts hown hin hP hK hD hA hX hS hl => ?_)
  have hown : s.vm.findClass RX10 = some m.cls := hown
  have hl : lv_has ls 2 [(0, .ref hm), (1, .int x)] := hl
  refine lv_aload_n hx hb dX10_trim_0 rfl (lv_at hl 0 rfl) ?_
  refine lv_iload_n hx hb dX10_trim_1 rfl (lv_at hl 1 rfl) ?_
  refine lv_aload_n hx hb dX10_trim_2 rfl (lv_at hl 0 rfl) ?_
  refine va_get (D := D) (ci := 4) (v := .int (nI z)) (C := RX10) (T := TX10) (N := 5) hx hb hts in_X10 hown hK hP 0 rfl rfl 1 (by decide) (hts _ q560) (fun _ h9 => h9) rfl dX10_trim_3 ?_
  refine lv_iconst (v := 1) hx hb dX10_trim_6 (by decide) ?_
  refine lv_iadd hx hb dX10_trim_7 ?_
  refine nmTi (b := (nI (z + 1))) (nI_1 z) ?_
  refine cl_i [] [(hm, .inr (4, [vt, .int (nI z), vm, .int fd, vd]))] [] [0] rfl rfl (by decide) (by decide) hP hD hS hA (va_runS (As := [.int x, .int (nI (z + 1))]) (rest := [.ref hm]) ⟨hx, hb, hml, hown, hts⟩ (m_fold l D dB dN dL x (z + 1) _ (by omega) (by omega)) (va_cwS 2 hts (lw_S q584 q585 q24 q586) rfl rfl rfl (by decide +kernel) ⟨Nat.le_of_ble_eq_true rfl, Nat.le_of_ble_eq_true rfl⟩) (pv_ (As := [.int x, .int (nI (z + 1))]) [] rfl (by decide) hP hK hD hS hA hX) rfl rfl hl.1 rfl (lv_room (Nat.le_of_ble_eq_true rfl)) dX10_trim_8 ⟨Nat.le_of_ble_eq_true rfl, Nat.le_of_ble_eq_true rfl⟩) (fun r_3 u_1 H locs hw_2 hP hD hS => ?_)
  have hP : va_P D CL [(hm, .inr (4, [vt, .int (nI z), vm, .int fd, vd]))] H := hP
  have hD : va_D A [(hm, .inr (4, [vt, .int (nI z), vm, .int fd, vd]))] := hD
  refine nmTi (b := (nI (fo x (z + 1)))) hw_2 ?_
  refine va_put (D := D) (ci := 4) (v := .int (nI (fo x (z + 1)))) (ty := .int) (C := RX10) (T := TX10) (N := 5) hx hb hts in_X10 tyX10 tyX10_ok nmX10 hown hK hP hD hS 0 rfl rfl 1 (by decide) (hts _ q560) (fun _ h9 => h9) rfl (by decide +kernel) rfl rfl (Nat.le_of_ble_eq_true rfl) dX10_trim_11 (fun H locs hP hD hS => ?_)
  have hP : va_P D CL [(hm, .inr (4, [vt, .int (nI (fo x (z + 1))), vm, .int fd, vd]))] H := hP
  have hD : va_D A [(hm, .inr (4, [vt, .int (nI (fo x (z + 1))), vm, .int fd, vd]))] := hD
  exact rt_v hx hb hr hlocks hP hK hD hS dX10_trim_14 () [0] rfl (by decide) trivial

set_option maxHeartbeats 4000000 in
set_option maxRecDepth 100000 in
/-- AsconHashDeskModel: fed is 0 -/
theorem m_mbegin (l : Launch) (D : va_G) (dB dN dL : ClassId) (hm : Nat) (vt vm vd : Value) (zs fd x : Int32) (sz : Nat)  : Cv_ l yX10_begin (ws_ yX10_begin cX10_begin 2 none) (rm_ 0 0 0 0) D dB dN dL [.ref hm, .int x] [(hm, .inr (4, [vt, .int zs, vm, .int fd, vd]))] sz (S := Unit) (fun _ => True) (fun _ => [(hm, .inr (4, [vt, .int zs, vm, .int 0, vd]))]) := by
  refine ct_of (cc := cX10_begin) (maxL := 2) (ret := none) (by decide) rfl (Nat.le_of_ble_eq_true rfl) (fun p e s m below meth c A ls hx hb hml hr hlocks hts hown hin hP hK hD hA hX hS hl => ?_)
  have hown : s.vm.findClass RX10 = some m.cls := hown
  have hl : lv_has ls 2 [(0, .ref hm), (1, .int x)] := hl
  refine lv_aload_n hx hb dX10_begin_0 rfl (lv_at hl 0 rfl) ?_
  refine lv_iconst (v := 0) hx hb dX10_begin_1 (by decide) ?_
  refine va_put (D := D) (ci := 4) (v := .int 0) (ty := .int) (C := RX10) (T := TX10) (N := 5) hx hb hts in_X10 tyX10 tyX10_ok nmX10 hown hK hP hD hS 0 rfl rfl 3 (by decide) (hts _ q562) (fun _ h9 => h9) rfl (by decide +kernel) rfl rfl (Nat.le_of_ble_eq_true rfl) dX10_begin_2 (fun H locs hP hD hS => ?_)
  have hP : va_P D CL [(hm, .inr (4, [vt, .int zs, vm, .int 0, vd]))] H := hP
  have hD : va_D A [(hm, .inr (4, [vt, .int zs, vm, .int 0, vd]))] := hD
  exact rt_v hx hb hr hlocks hP hK hD hS dX10_begin_5 () [0] rfl (by decide) trivial

set_option maxHeartbeats 4000000 in
set_option maxRecDepth 100000 in
/-- AsconHashDeskModel: fed is 0 -/
theorem m_mdrop (l : Launch) (D : va_G) (dB dN dL : ClassId) (hm : Nat) (vt vm vd : Value) (zs fd : Int32) (sz : Nat)  : Cv_ l yX10_drop (ws_ yX10_drop cX10_drop 1 none) (rm_ 0 0 0 0) D dB dN dL [.ref hm] [(hm, .inr (4, [vt, .int zs, vm, .int fd, vd]))] sz (S := Unit) (fun _ => True) (fun _ => [(hm, .inr (4, [vt, .int zs, vm, .int 0, vd]))]) := by
  refine ct_of (cc := cX10_drop) (maxL := 1) (ret := none) (by decide) rfl (Nat.le_of_ble_eq_true rfl) (fun p e s m below meth c A ls hx hb hml hr hlocks hts hown hin hP hK hD hA hX hS hl => ?_)
  have hown : s.vm.findClass RX10 = some m.cls := hown
  have hl : lv_has ls 1 [(0, .ref hm)] := hl
  refine lv_aload_n hx hb dX10_drop_0 rfl (lv_at hl 0 rfl) ?_
  refine lv_iconst (v := 0) hx hb dX10_drop_1 (by decide) ?_
  refine va_put (D := D) (ci := 4) (v := .int 0) (ty := .int) (C := RX10) (T := TX10) (N := 5) hx hb hts in_X10 tyX10 tyX10_ok nmX10 hown hK hP hD hS 0 rfl rfl 3 (by decide) (hts _ q562) (fun _ h9 => h9) rfl (by decide +kernel) rfl rfl (Nat.le_of_ble_eq_true rfl) dX10_drop_2 (fun H locs hP hD hS => ?_)
  have hP : va_P D CL [(hm, .inr (4, [vt, .int zs, vm, .int 0, vd]))] H := hP
  have hD : va_D A [(hm, .inr (4, [vt, .int zs, vm, .int 0, vd]))] := hD
  exact rt_v hx hb hr hlocks hP hK hD hS dX10_drop_5 () [0] rfl (by decide) trivial

set_option maxHeartbeats 4000000 in
set_option maxRecDepth 100000 in
theorem L_mfeed {p : Program} {l : Launch} {e : Env} {s : State} {m : MethodId} {below : List Frame} {meth : Method} {c : Code} {D : va_G} {dB dN dL : ClassId} {A : Nat → Prop} {R : Room} {args : Array Value} {Q : State → Prop} {cells slots : Nat} (hx : p.tables.exec = Jvm.exec) (hb : c.code = cX10_feed) (hml : c.maxLocals = 6) (hts : ∀ w ∈ lw_all, w.before args s = true) (hown : s.vm.findClass RX10 = some m.cls) (hK : va_K D CL (TY dB dN dL) s) (hA : ∀ q : Nat, s.heap.size ≤ q → A q) (hX : xt A s s.heap) (hm mt mm z n f kc : Nat) (vd : Value) (T M : Nat → Int32) (hf : f + kc ≤ 1024) (hn : n + kc ≤ 16384) (hfit : sb_Fit T) (kk : WG p l e R s m args below meth c D A cells slots Q 6 [(hm, .inr (4, [.ref mt, .int (nI z), .ref mm, .int (nI n), vd])), (mt, .inl (dB, 1024, .inl T)), (mm, .inl (dB, 16384, .inl (fdM M T n f kc)))] [(0, .ref hm), (3, .int (nI f)), (4, .int (nI kc)), (5, .int (nI kc))] 77) :
    ∀ (d i : Nat), i + d = kc → WG p l e R s m args below meth c D A cells slots Q 6 [(hm, .inr (4, [.ref mt, .int (nI z), .ref mm, .int (nI n), vd])), (mt, .inl (dB, 1024, .inl T)), (mm, .inl (dB, 16384, .inl (fdM M T n f i)))] [(0, .ref hm), (3, .int (nI f)), (4, .int (nI kc)), (5, .int (nI i))] 43 := by
  intro d
  induction d with
  | zero =>
    intro i hi H locs ls hP hD hS hl
    refine lv_iload hx hb dX10_feed_43 (lv_at hl 3 rfl) ?_
    refine lv_iload hx hb dX10_feed_45 (lv_at hl 2 rfl) ?_
    refine lv_icmp_ge (tgt := 77) hx hb dX10_feed_47 (by decide) (fun _ => ?_) (fun c_1 => absurd (show nI kc ≤ nI i from nI_le (by omega) (by omega)) c_1)
    have e : kc = i := by omega
    subst e
    exact kk H locs ls hP hD hS hl
  | succ d ih =>
    intro i hi H locs ls hP hD hS hl
    refine lv_iload hx hb dX10_feed_43 (lv_at hl 3 rfl) ?_
    refine lv_iload hx hb dX10_feed_45 (lv_at hl 2 rfl) ?_
    refine lv_icmp_ge (tgt := 77) hx hb dX10_feed_47 (by decide) (fun c_b1 => absurd c_b1 (nI_ge (show i < kc by omega) (by omega))) (fun _ => ?_)
    refine lv_aload_n hx hb dX10_feed_50 rfl (lv_at hl 0 rfl) ?_
    refine va_get (D := D) (ci := 4) (v := .ref mm) (C := RX10) (T := TX10) (N := 5) hx hb hts in_X10 hown hK hP 0 rfl rfl 2 (by decide) (hts _ q561) (fun _ h9 => h9) rfl dX10_feed_51 ?_
    refine lv_aload_n hx hb dX10_feed_54 rfl (lv_at hl 0 rfl) ?_
    refine va_get (D := D) (ci := 4) (v := .int (nI n)) (C := RX10) (T := TX10) (N := 5) hx hb hts in_X10 hown hK hP 0 rfl rfl 3 (by decide) (hts _ q562) (fun _ h9 => h9) rfl dX10_feed_55 ?_
    refine lv_iload hx hb dX10_feed_58 (lv_at hl 3 rfl) ?_
    refine lv_iadd hx hb dX10_feed_60 ?_
    refine nmTi (b := (nI (n + i))) (nI_add n i) ?_
    refine lv_aload_n hx hb dX10_feed_61 rfl (lv_at hl 0 rfl) ?_
    refine va_get (D := D) (ci := 4) (v := .ref mt) (C := RX10) (T := TX10) (N := 5) hx hb hts in_X10 hown hK hP 0 rfl rfl 0 (by decide) (hts _ q559) (fun _ h9 => h9) rfl dX10_feed_62 ?_
    refine lv_iload_n hx hb dX10_feed_65 rfl (lv_at hl 1 rfl) ?_
    refine lv_iload hx hb dX10_feed_66 (lv_at hl 3 rfl) ?_
    refine lv_iadd hx hb dX10_feed_68 ?_
    refine nmTi (b := (nI (f + i))) (nI_add f i) ?_
    refine va_bald hx hb hK hP 1 0 rfl rfl (vp_in_nI (by omega) (by decide)) dX10_feed_69 ?_
    refine nmTi (b := (T (f + i))) (cl_f T (by omega)) ?_
    refine va_bast hx hb hK hP hD hS 2 0 rfl rfl (vp_in_nI (by omega) (by decide)) dX10_feed_70 (fun H locs hP hD hS => ?_)
    have eg_b2 : upd (fdM M T n f i) (nI (n + i)).toNatClampNeg (vp_nar .byte (T (f + i))) = fdM M T n f (i + 1) := (by rw [nI_clamp (by omega), fit_b (hfit (f + i))]; exact fdM_s M T n f i)
    rw [eg_b2] at hP hD
    have hP : va_P D CL [(hm, .inr (4, [.ref mt, .int (nI z), .ref mm, .int (nI n), vd])), (mt, .inl (dB, 1024, .inl T)), (mm, .inl (dB, 16384, .inl (fdM M T n f (i + 1))))] H := hP
    have hD : va_D A [(hm, .inr (4, [.ref mt, .int (nI z), .ref mm, .int (nI n), vd])), (mt, .inl (dB, 1024, .inl T)), (mm, .inl (dB, 16384, .inl (fdM M T n f (i + 1))))] := hD
    refine lv_iinc (v := (nI (i + 1))) (lv' := [(5, .int (nI (i + 1))), (0, .ref hm), (3, .int (nI f)), (4, .int (nI kc))]) hx hb dX10_feed_71 hl (k := 3) rfl (ii1 _) (by decide) rfl (fun ls hl => ?_)
    refine lv_goto (tgt := 43) hx hb dX10_feed_74 (by decide) ?_
    exact ih (i + 1) (by omega) _ _ _ (hP.sub [0, 1, 2] rfl) (hD.sub [0, 1, 2] (by decide) rfl) hS (lv_sub hl [1, 2, 3, 0] rfl)

set_option maxHeartbeats 4000000 in
set_option maxRecDepth 100000 in
/-- AsconHashDeskModel.feed -/
theorem m_mfeed (l : Launch) (D : va_G) (dB dN dL : ClassId) (hm mt mm z n f kc : Nat) (vd : Value) (T M : Nat → Int32) (xa xn : Int32) (sz : Nat) (hz : z ≤ 1024) (hn : n ≤ 16384) (ef : f = fo xa (z + 1)) (ec : kc = fo xn (z - f + 1)) (hfit : sb_Fit T) : Ci_ l yX10_feed (ws_ yX10_feed cX10_feed 6 (some .boolean)) (rm_ 1 0 0 21) D dB dN dL [.ref hm, .int xa, .int xn] [(hm, .inr (4, [.ref mt, .int (nI z), .ref mm, .int (nI n), vd])), (mt, .inl (dB, 1024, .inl T)), (mm, .inl (dB, 16384, .inl M))] sz (S := Nat × (Nat → Int32)) (fun r u => r = (if n + kc ≤ 16384 then 1 else 0) ∧ u = if n + kc ≤ 16384 then (n + kc, fdM M T n f kc) else (n, M)) (fun u => [(hm, .inr (4, [.ref mt, .int (nI z), .ref mm, .int (nI u.1), vd])), (mt, .inl (dB, 1024, .inl T)), (mm, .inl (dB, 16384, .inl u.2))]) := by
  refine ct_of (cc := cX10_feed) (maxL := 6) (ret := (some .boolean)) (by decide) rfl (Nat.le_of_ble_eq_true rfl) (fun p e s m below meth c A ls hx hb hml hr hlocks hts hown hin hP hK hD hA hX hS hl => ?_)
  have hown : s.vm.findClass RX10 = some m.cls := hown
  have hl : lv_has ls 6 [(0, .ref hm), (1, .int xa), (2, .int xn)] := hl
  have hf : f ≤ z := by
    have := fo_lt xa (show 0 < z + 1 by omega)
    omega
  have hc : f + kc ≤ z := by
    have := fo_lt xn (show 0 < z - f + 1 by omega)
    omega
  refine lv_iload_n hx hb dX10_feed_0 rfl (lv_at hl 1 rfl) ?_
  refine lv_aload_n hx hb dX10_feed_1 rfl (lv_at hl 0 rfl) ?_
  refine va_get (D := D) (ci := 4) (v := .int (nI z)) (C := RX10) (T := TX10) (N := 5) hx hb hts in_X10 hown hK hP 0 rfl rfl 1 (by decide) (hts _ q560) (fun _ h9 => h9) rfl dX10_feed_2 ?_
  refine lv_iconst (v := 1) hx hb dX10_feed_5 (by decide) ?_
  refine lv_iadd hx hb dX10_feed_6 ?_
  refine nmTi (b := (nI (z + 1))) (nI_1 z) ?_
  refine cl_i [] [(hm, .inr (4, [.ref mt, .int (nI z), .ref mm, .int (nI n), vd])), (mt, .inl (dB, 1024, .inl T)), (mm, .inl (dB, 16384, .inl M))] [] [0, 1, 2] rfl rfl (by decide) (by decide) hP hD hS hA (va_runS (As := [.int xa, .int (nI (z + 1))]) (rest := []) ⟨hx, hb, hml, hown, hts⟩ (m_fold l D dB dN dL xa (z + 1) _ (by omega) (by omega)) (va_cwS 2 hts (lw_S q584 q585 q24 q586) rfl rfl rfl (by decide +kernel) ⟨Nat.le_of_ble_eq_true rfl, Nat.le_of_ble_eq_true rfl⟩) (pv_ (As := [.int xa, .int (nI (z + 1))]) [] rfl (by decide) hP hK hD hS hA hX) rfl rfl hl.1 rfl (lv_room (Nat.le_of_ble_eq_true rfl)) dX10_feed_7 ⟨Nat.le_of_ble_eq_true rfl, Nat.le_of_ble_eq_true rfl⟩) (fun r_3 u_1 H locs hw_2 hP hD hS => ?_)
  have hP : va_P D CL [(hm, .inr (4, [.ref mt, .int (nI z), .ref mm, .int (nI n), vd])), (mt, .inl (dB, 1024, .inl T)), (mm, .inl (dB, 16384, .inl M))] H := hP
  have hD : va_D A [(hm, .inr (4, [.ref mt, .int (nI z), .ref mm, .int (nI n), vd])), (mt, .inl (dB, 1024, .inl T)), (mm, .inl (dB, 16384, .inl M))] := hD
  refine nmTi (b := (nI f)) ((show r_3 = nI (fo xa (z + 1)) from hw_2).trans (by rw [ef])) ?_
  refine lv_istore_n (lv' := [(3, .int (nI f)), (0, .ref hm), (1, .int xa), (2, .int xn)]) hx hb dX10_feed_10 rfl hl (by decide) rfl (fun ls hl => ?_)
  refine lv_iload_n hx hb dX10_feed_11 rfl (lv_at hl 3 rfl) ?_
  refine lv_aload_n hx hb dX10_feed_12 rfl (lv_at hl 1 rfl) ?_
  refine va_get (D := D) (ci := 4) (v := .int (nI z)) (C := RX10) (T := TX10) (N := 5) hx hb hts in_X10 hown hK hP 0 rfl rfl 1 (by decide) (hts _ q560) (fun _ h9 => h9) rfl dX10_feed_13 ?_
  refine lv_iload_n hx hb dX10_feed_16 rfl (lv_at hl 0 rfl) ?_
  refine lv_isub hx hb dX10_feed_17 ?_
  refine nmTi (b := (nI (z - f))) (pk_sub hf) ?_
  refine lv_iconst (v := 1) hx hb dX10_feed_18 (by decide) ?_
  refine lv_iadd hx hb dX10_feed_19 ?_
  refine nmTi (b := (nI (z - f + 1))) (nI_1 _) ?_
  refine cl_i [] [(hm, .inr (4, [.ref mt, .int (nI z), .ref mm, .int (nI n), vd])), (mt, .inl (dB, 1024, .inl T)), (mm, .inl (dB, 16384, .inl M))] [] [0, 1, 2] rfl rfl (by decide) (by decide) hP hD hS hA (va_runS (As := [.int xn, .int (nI (z - f + 1))]) (rest := []) ⟨hx, hb, hml, hown, hts⟩ (m_fold l D dB dN dL xn (z - f + 1) _ (by omega) (by omega)) (va_cwS 2 hts (lw_S q584 q585 q24 q586) rfl rfl rfl (by decide +kernel) ⟨Nat.le_of_ble_eq_true rfl, Nat.le_of_ble_eq_true rfl⟩) (pv_ (As := [.int xn, .int (nI (z - f + 1))]) [] rfl (by decide) hP hK hD hS hA hX) rfl rfl hl.1 rfl (lv_room (Nat.le_of_ble_eq_true rfl)) dX10_feed_20 ⟨Nat.le_of_ble_eq_true rfl, Nat.le_of_ble_eq_true rfl⟩) (fun r_6 u_4 H locs hw_5 hP hD hS => ?_)
  have hP : va_P D CL [(hm, .inr (4, [.ref mt, .int (nI z), .ref mm, .int (nI n), vd])), (mt, .inl (dB, 1024, .inl T)), (mm, .inl (dB, 16384, .inl M))] H := hP
  have hD : va_D A [(hm, .inr (4, [.ref mt, .int (nI z), .ref mm, .int (nI n), vd])), (mt, .inl (dB, 1024, .inl T)), (mm, .inl (dB, 16384, .inl M))] := hD
  refine nmTi (b := (nI kc)) ((show r_6 = nI (fo xn (z - f + 1)) from hw_5).trans (by rw [ec])) ?_
  refine lv_istore (lv' := [(4, .int (nI kc)), (3, .int (nI f)), (0, .ref hm), (1, .int xa), (2, .int xn)]) hx hb dX10_feed_23 hl (by decide) rfl (fun ls hl => ?_)
  refine lv_aload_n hx hb dX10_feed_25 rfl (lv_at hl 2 rfl) ?_
  refine va_get (D := D) (ci := 4) (v := .int (nI n)) (C := RX10) (T := TX10) (N := 5) hx hb hts in_X10 hown hK hP 0 rfl rfl 3 (by decide) (hts _ q562) (fun _ h9 => h9) rfl dX10_feed_26 ?_
  refine lv_iload hx hb dX10_feed_29 (lv_at hl 0 rfl) ?_
  refine lv_iadd hx hb dX10_feed_31 ?_
  refine nmTi (b := (nI (n + kc))) (nI_add n kc) ?_
  refine lv_sipush (v := 16384) hx hb dX10_feed_32 (by decide) ?_
  refine lv_icmp_le (tgt := 40) hx hb dX10_feed_35 (by decide) (fun c_7 => ?_) (fun c_7 => ?_)
  · skip
    have hb16 : n + kc ≤ 16384 := (nI_leI (b := 16384) (by omega) (by decide)).mp c_7
    refine lv_iconst (v := 0) hx hb dX10_feed_40 (by decide) ?_
    refine lv_istore (lv' := [(5, .int 0), (4, .int (nI kc)), (3, .int (nI f)), (0, .ref hm), (1, .int xa), (2, .int xn)]) hx hb dX10_feed_41 hl (by decide) rfl (fun ls hl => ?_)
    have hl : lv_has ls 6 [(5, .int (nI 0)), (4, .int (nI kc)), (3, .int (nI f)), (0, .ref hm), (1, .int xa), (2, .int xn)] := hl
    have hP : va_P D CL [(hm, .inr (4, [.ref mt, .int (nI z), .ref mm, .int (nI n), vd])), (mt, .inl (dB, 1024, .inl T)), (mm, .inl (dB, 16384, .inl (fdM M T n f 0)))] H := by
      rw [fdM_0]
      exact hP
    have hD : va_D A [(hm, .inr (4, [.ref mt, .int (nI z), .ref mm, .int (nI n), vd])), (mt, .inl (dB, 1024, .inl T)), (mm, .inl (dB, 16384, .inl (fdM M T n f 0)))] := by
      rw [fdM_0]
      exact hD
    refine L_mfeed hx hb hml hts hown hK hA hX hm mt mm z n f kc vd T M (by omega) hb16 hfit (fun H locs ls hP hD hS hl => ?_) kc 0 (by omega) _ _ _ (hP.sub [0, 1, 2] rfl) (hD.sub [0, 1, 2] (by decide) rfl) hS (lv_sub hl [3, 2, 1, 0] rfl)
    refine lv_aload_n hx hb dX10_feed_77 rfl (lv_at hl 0 rfl) ?_
    refine lv_aload_n hx hb dX10_feed_78 rfl (lv_at hl 0 rfl) ?_
    refine va_get (D := D) (ci := 4) (v := .int (nI n)) (C := RX10) (T := TX10) (N := 5) hx hb hts in_X10 hown hK hP 0 rfl rfl 3 (by decide) (hts _ q562) (fun _ h9 => h9) rfl dX10_feed_79 ?_
    refine lv_iload hx hb dX10_feed_82 (lv_at hl 2 rfl) ?_
    refine lv_iadd hx hb dX10_feed_84 ?_
    refine nmTi (b := (nI (n + kc))) (nI_add n kc) ?_
    refine va_put (D := D) (ci := 4) (v := .int (nI (n + kc))) (ty := .int) (C := RX10) (T := TX10) (N := 5) hx hb hts in_X10 tyX10 tyX10_ok nmX10 hown hK hP hD hS 0 rfl rfl 3 (by decide) (hts _ q562) (fun _ h9 => h9) rfl (by decide +kernel) rfl rfl (Nat.le_of_ble_eq_true rfl) dX10_feed_85 (fun H locs hP hD hS => ?_)
    have hP : va_P D CL [(hm, .inr (4, [.ref mt, .int (nI z), .ref mm, .int (nI (n + kc)), vd])), (mt, .inl (dB, 1024, .inl T)), (mm, .inl (dB, 16384, .inl (fdM M T n f kc)))] H := hP
    have hD : va_D A [(hm, .inr (4, [.ref mt, .int (nI z), .ref mm, .int (nI (n + kc)), vd])), (mt, .inl (dB, 1024, .inl T)), (mm, .inl (dB, 16384, .inl (fdM M T n f kc)))] := hD
    refine lv_iconst (v := 1) hx hb dX10_feed_88 (by decide) ?_
    exact rt_z hx hb hr hlocks hP hK hD hS dX10_feed_89 (by rfl) (n + kc, fdM M T n f kc) [0, 1, 2] rfl (by decide) ⟨(if_pos hb16).symm, (if_pos hb16).symm⟩
  · skip
    have hb16 : ¬ n + kc ≤ 16384 := fun h => c_7 (nI_le (b := 16384) h (by omega))
    refine lv_iconst (v := 0) hx hb dX10_feed_38 (by decide) ?_
    exact rt_z hx hb hr hlocks hP hK hD hS dX10_feed_39 (by rfl) (n, M) [0, 1, 2] rfl (by decide) ⟨(if_neg hb16).symm, (if_neg hb16).symm⟩

set_option maxHeartbeats 4000000 in
set_option maxRecDepth 100000 in
/-- AsconHashDeskModel.one -/
theorem m_mone (l : Launch) (D : va_G) (dB dN dL : ClassId) (hm mm n : Nat) (vt vd : Value) (zs : Int32) (M : Nat → Int32) (v : Int32) (sz : Nat) (hn : n ≤ 16384) : Ci_ l yX10_one (ws_ yX10_one cX10_one 2 (some .boolean)) (rm_ 0 0 0 0) D dB dN dL [.ref hm, .int v] [(hm, .inr (4, [vt, .int zs, .ref mm, .int (nI n), vd])), (mm, .inl (dB, 16384, .inl M))] sz (S := Nat × (Nat → Int32)) (fun r u => r = (if n + 1 ≤ 16384 then 1 else 0) ∧ u = if n + 1 ≤ 16384 then (n + 1, upd M n v.toInt8.toInt32) else (n, M)) (fun u => [(hm, .inr (4, [vt, .int zs, .ref mm, .int (nI u.1), vd])), (mm, .inl (dB, 16384, .inl u.2))]) := by
  refine ct_of (cc := cX10_one) (maxL := 2) (ret := (some .boolean)) (by decide) rfl (Nat.le_of_ble_eq_true rfl) (fun p e s m below meth c A ls hx hb hml hr hlocks hts hown hin hP hK hD hA hX hS hl => ?_)
  have hown : s.vm.findClass RX10 = some m.cls := hown
  have hl : lv_has ls 2 [(0, .ref hm), (1, .int v)] := hl
  refine lv_aload_n hx hb dX10_one_0 rfl (lv_at hl 0 rfl) ?_
  refine va_get (D := D) (ci := 4) (v := .int (nI n)) (C := RX10) (T := TX10) (N := 5) hx hb hts in_X10 hown hK hP 0 rfl rfl 3 (by decide) (hts _ q562) (fun _ h9 => h9) rfl dX10_one_1 ?_
  refine lv_sipush (v := 16384) hx hb dX10_one_4 (by decide) ?_
  refine lv_icmp_lt (tgt := 12) hx hb dX10_one_7 (by decide) (fun c_1 => ?_) (fun c_1 => ?_)
  · skip
    have hb16 : n + 1 ≤ 16384 := (nI_ltI (b := 16384) (by omega) (by decide)).mp c_1
    refine lv_aload_n hx hb dX10_one_12 rfl (lv_at hl 0 rfl) ?_
    refine va_get (D := D) (ci := 4) (v := .ref mm) (C := RX10) (T := TX10) (N := 5) hx hb hts in_X10 hown hK hP 0 rfl rfl 2 (by decide) (hts _ q561) (fun _ h9 => h9) rfl dX10_one_13 ?_
    refine lv_aload_n hx hb dX10_one_16 rfl (lv_at hl 0 rfl) ?_
    refine va_get (D := D) (ci := 4) (v := .int (nI n)) (C := RX10) (T := TX10) (N := 5) hx hb hts in_X10 hown hK hP 0 rfl rfl 3 (by decide) (hts _ q562) (fun _ h9 => h9) rfl dX10_one_17 ?_
    refine lv_iload_n hx hb dX10_one_20 rfl (lv_at hl 1 rfl) ?_
    refine lv_i2b hx hb dX10_one_21 rfl ?_
    refine va_bast hx hb hK hP hD hS 1 0 rfl rfl (vp_in_nI (by omega) (by decide)) dX10_one_22 (fun H locs hP hD hS => ?_)
    have eg_2 : upd M (nI n).toNatClampNeg (vp_nar .byte v.toInt8.toInt32) = upd M n v.toInt8.toInt32 := (up_f M v (by omega))
    rw [eg_2] at hP hD
    have hP : va_P D CL [(hm, .inr (4, [vt, .int zs, .ref mm, .int (nI n), vd])), (mm, .inl (dB, 16384, .inl (upd M n v.toInt8.toInt32)))] H := hP
    have hD : va_D A [(hm, .inr (4, [vt, .int zs, .ref mm, .int (nI n), vd])), (mm, .inl (dB, 16384, .inl (upd M n v.toInt8.toInt32)))] := hD
    refine lv_aload_n hx hb dX10_one_23 rfl (lv_at hl 0 rfl) ?_
    refine lv_aload_n hx hb dX10_one_24 rfl (lv_at hl 0 rfl) ?_
    refine va_get (D := D) (ci := 4) (v := .int (nI n)) (C := RX10) (T := TX10) (N := 5) hx hb hts in_X10 hown hK hP 0 rfl rfl 3 (by decide) (hts _ q562) (fun _ h9 => h9) rfl dX10_one_25 ?_
    refine lv_iconst (v := 1) hx hb dX10_one_28 (by decide) ?_
    refine lv_iadd hx hb dX10_one_29 ?_
    refine nmTi (b := (nI (n + 1))) (nI_1 n) ?_
    refine va_put (D := D) (ci := 4) (v := .int (nI (n + 1))) (ty := .int) (C := RX10) (T := TX10) (N := 5) hx hb hts in_X10 tyX10 tyX10_ok nmX10 hown hK hP hD hS 0 rfl rfl 3 (by decide) (hts _ q562) (fun _ h9 => h9) rfl (by decide +kernel) rfl rfl (Nat.le_of_ble_eq_true rfl) dX10_one_30 (fun H locs hP hD hS => ?_)
    have hP : va_P D CL [(hm, .inr (4, [vt, .int zs, .ref mm, .int (nI (n + 1)), vd])), (mm, .inl (dB, 16384, .inl (upd M n v.toInt8.toInt32)))] H := hP
    have hD : va_D A [(hm, .inr (4, [vt, .int zs, .ref mm, .int (nI (n + 1)), vd])), (mm, .inl (dB, 16384, .inl (upd M n v.toInt8.toInt32)))] := hD
    refine lv_iconst (v := 1) hx hb dX10_one_33 (by decide) ?_
    exact rt_z hx hb hr hlocks hP hK hD hS dX10_one_34 (by rfl) (n + 1, upd M n v.toInt8.toInt32) [0, 1] rfl (by decide) ⟨(if_pos hb16).symm, (if_pos hb16).symm⟩
  · skip
    have hb16 : ¬ n + 1 ≤ 16384 := fun h => c_1 (nI_lt (b := 16384) h (by omega))
    refine lv_iconst (v := 0) hx hb dX10_one_10 (by decide) ?_
    exact rt_z hx hb hr hlocks hP hK hD hS dX10_one_11 (by rfl) (n, M) [0, 1] rfl (by decide) ⟨(if_neg hb16).symm, (if_neg hb16).symm⟩

set_option maxHeartbeats 4000000 in
set_option maxRecDepth 100000 in
/-- AsconHashDeskModel.out -/
theorem m_mout (l : Launch) (D : va_G) (dB dN dL : ClassId) (hm md : Nat) (vt vm : Value) (zs fd x : Int32) (G : Nat → Int32) (sz : Nat)  : Ci_ l yX10_out (ws_ yX10_out cX10_out 2 (some .int)) (rm_ 1 0 0 21) D dB dN dL [.ref hm, .int x] [(hm, .inr (4, [vt, .int zs, vm, .int fd, .ref md])), (md, .inl (dN, 32, .inl G))] sz (S := Unit) (fun r _ => r = G (fo x 32)) (fun _ => [(hm, .inr (4, [vt, .int zs, vm, .int fd, .ref md])), (md, .inl (dN, 32, .inl G))]) := by
  refine ct_of (cc := cX10_out) (maxL := 2) (ret := (some .int)) (by decide) rfl (Nat.le_of_ble_eq_true rfl) (fun p e s m below meth c A ls hx hb hml hr hlocks hts hown hin hP hK hD hA hX hS hl => ?_)
  have hown : s.vm.findClass RX10 = some m.cls := hown
  have hl : lv_has ls 2 [(0, .ref hm), (1, .int x)] := hl
  refine lv_aload_n hx hb dX10_out_0 rfl (lv_at hl 0 rfl) ?_
  refine va_get (D := D) (ci := 4) (v := .ref md) (C := RX10) (T := TX10) (N := 5) hx hb hts in_X10 hown hK hP 0 rfl rfl 4 (by decide) (hts _ q563) (fun _ h9 => h9) rfl dX10_out_1 ?_
  refine lv_iload_n hx hb dX10_out_4 rfl (lv_at hl 1 rfl) ?_
  refine lv_bipush (v := 32) hx hb dX10_out_5 (by decide) ?_
  refine cl_i [] [(hm, .inr (4, [vt, .int zs, vm, .int fd, .ref md])), (md, .inl (dN, 32, .inl G))] [] [0, 1] rfl rfl (by decide) (by decide) hP hD hS hA (va_runS (As := [.int x, .int 32]) (rest := [.ref md]) ⟨hx, hb, hml, hown, hts⟩ (m_fold l D dB dN dL x 32 _ (by decide) (by decide)) (va_cwS 2 hts (lw_S q584 q585 q24 q586) rfl rfl rfl (by decide +kernel) ⟨Nat.le_of_ble_eq_true rfl, Nat.le_of_ble_eq_true rfl⟩) (pv_ (As := [.int x, .int 32]) [] rfl (by decide) hP hK hD hS hA hX) rfl rfl hl.1 rfl (lv_room (Nat.le_of_ble_eq_true rfl)) dX10_out_7 ⟨Nat.le_of_ble_eq_true rfl, Nat.le_of_ble_eq_true rfl⟩) (fun r_3 u_1 H locs hw_2 hP hD hS => ?_)
  have hP : va_P D CL [(hm, .inr (4, [vt, .int zs, vm, .int fd, .ref md])), (md, .inl (dN, 32, .inl G))] H := hP
  have hD : va_D A [(hm, .inr (4, [vt, .int zs, vm, .int fd, .ref md])), (md, .inl (dN, 32, .inl G))] := hD
  refine nmTi (b := (nI (fo x 32))) hw_2 ?_
  have h32 : fo x 32 < 32 := fo_lt x (by decide)
  refine va_iald hx hb hK hP 1 1 rfl rfl (vp_in_nI h32 (by decide)) dX10_out_10 ?_
  refine nmTi (b := (G (fo x 32))) (cl_f G (by omega)) ?_
  exact rt_i hx hb hr hlocks hP hK hD hS dX10_out_11 () [0, 1] rfl (by decide) rfl
end
section
/-! the model's hash and close -/
set_option maxHeartbeats 4000000 in
set_option maxRecDepth 100000 in
theorem L_hin {p : Program} {l : Launch} {e : Env} {s : State} {m : MethodId} {below : List Frame} {meth : Method} {c : Code} {D : va_G} {dB dN dL : ClassId} {A : Nat → Prop} {args : Array Value} {Q : State → Prop} (hx : p.tables.exec = Jvm.exec) (hb : c.code = cX10_hash) (hml : c.maxLocals = 10) (hts : ∀ w ∈ lw_all, w.before args s = true) (hown : s.vm.findClass RX10 = some m.cls) (hK : va_K D CL (TY dB dN dL) s) (hA : ∀ q : Nat, s.heap.size ≤ q → A q) (hX : xt A s s.heap) (hm mm md hs n : Nat) (vt : Value) (zs : Int32) (M G : Nat → Int32) (bl b : Nat) (x : P5) (hn : n ≤ 16384) (hb8 : 8 * b ≤ n) (kk : WG p l e (rm_ 2 1 5 63) s m args below meth c D A 1 5 Q 10 [(hm, .inr (4, [vt, .int zs, .ref mm, .int (nI n), .ref md])), (mm, .inl (dB, 16384, .inl M)), (md, .inl (dN, 32, .inl G)), (hs, .inl (dL, 5, .inr (.inl (a5 (x)))))] [(0, .ref hm), (1, .ref hs), (2, .int (nI bl)), (3, .int (nI b)), (4, .long (ld (pad_ M n) (8 * b) 8)), (6, .int (nI 8))] 129) :
    ∀ (d i : Nat), i + d = 8 → WG p l e (rm_ 2 1 5 63) s m args below meth c D A 1 5 Q 10 [(hm, .inr (4, [vt, .int zs, .ref mm, .int (nI n), .ref md])), (mm, .inl (dB, 16384, .inl M)), (md, .inl (dN, 32, .inl G)), (hs, .inl (dL, 5, .inr (.inl (a5 (x)))))] [(0, .ref hm), (1, .ref hs), (2, .int (nI bl)), (3, .int (nI b)), (4, .long (ld (pad_ M n) (8 * b) i)), (6, .int (nI i))] 53 := by
  intro d
  induction d with
  | zero =>
    intro i hi H locs ls hP hD hS hl
    refine lv_iload hx hb dX10_hash_53 (lv_at hl 5 rfl) ?_
    refine lv_bipush (v := 8) hx hb dX10_hash_55 (by decide) ?_
    refine lv_icmp_ge (tgt := 129) hx hb dX10_hash_57 (by decide) (fun _ => ?_) (fun c_1 => absurd (show (8 : Int32) ≤ nI i from nI_le (a := 8) (by omega) (by omega)) c_1)
    have e : i = 8 := by omega
    subst e
    exact kk H locs ls hP hD hS hl
  | succ d ih =>
    intro i hi H locs ls hP hD hS hl
    refine lv_iload hx hb dX10_hash_53 (lv_at hl 5 rfl) ?_
    refine lv_bipush (v := 8) hx hb dX10_hash_55 (by decide) ?_
    refine lv_icmp_ge (tgt := 129) hx hb dX10_hash_57 (by decide) (fun c_b1 => absurd c_b1 (nI_ge (b := 8) (by omega) (by decide))) (fun _ => ?_)
    refine lv_bipush (v := 8) hx hb dX10_hash_60 (by decide) ?_
    refine lv_iload_n hx hb dX10_hash_62 rfl (lv_at hl 3 rfl) ?_
    refine lv_imul hx hb dX10_hash_63 ?_
    refine nmTi (b := (nI (8 * b))) (pk_mul 8 b) ?_
    refine lv_iload hx hb dX10_hash_64 (lv_at hl 5 rfl) ?_
    refine lv_iadd hx hb dX10_hash_66 ?_
    refine nmTi (b := (nI (8 * b + i))) (nI_add (8 * b) i) ?_
    refine lv_istore (lv' := [(7, .int (nI (8 * b + i))), (0, .ref hm), (1, .ref hs), (2, .int (nI bl)), (3, .int (nI b)), (4, .long (ld (pad_ M n) (8 * b) i)), (6, .int (nI i))]) hx hb dX10_hash_67 hl (by decide) rfl (fun ls hl => ?_)
    refine lv_lconst (v := 0) hx hb dX10_hash_69 (by decide) ?_
    refine lv_lstore (lv' := [(8, .long 0), (7, .int (nI (8 * b + i))), (0, .ref hm), (1, .ref hs), (2, .int (nI bl)), (3, .int (nI b)), (4, .long (ld (pad_ M n) (8 * b) i)), (6, .int (nI i))]) hx hb dX10_hash_70 hl (by decide) rfl (fun ls hl => ?_)
    refine lv_iload hx hb dX10_hash_72 (lv_at hl 1 rfl) ?_
    refine lv_aload_n hx hb dX10_hash_74 rfl (lv_at hl 2 rfl) ?_
    refine va_get (D := D) (ci := 4) (v := .int (nI n)) (C := RX10) (T := TX10) (N := 5) hx hb hts in_X10 hown hK hP 0 rfl rfl 3 (by decide) (hts _ q562) (fun _ h9 => h9) rfl dX10_hash_75 ?_
    refine lv_icmp_ge (tgt := 98) hx hb dX10_hash_78 (by decide) (fun c_b2 => ?_) (fun c_b2 => ?_)
    · skip
      have hge : n ≤ 8 * b + i := (nI_leI (by omega) (by omega)).mp c_b2
      refine lv_iload hx hb dX10_hash_98 (lv_at hl 1 rfl) ?_
      refine lv_aload_n hx hb dX10_hash_100 rfl (lv_at hl 2 rfl) ?_
      refine va_get (D := D) (ci := 4) (v := .int (nI n)) (C := RX10) (T := TX10) (N := 5) hx hb hts in_X10 hown hK hP 0 rfl rfl 3 (by decide) (hts _ q562) (fun _ h9 => h9) rfl dX10_hash_101 ?_
      refine lv_icmp_ne (tgt := 110) hx hb dX10_hash_104 (by decide) (fun c_b3 => ?_) (fun c_b3 => ?_)
      · skip
        have hgt : n < 8 * b + i := Nat.lt_of_le_of_ne hge (fun q => c_b3 (by rw [q]))
        refine lv_lload hx hb dX10_hash_110 (lv_at hl 6 rfl) ?_
        refine lv_lload hx hb dX10_hash_112 (lv_at hl 0 rfl) ?_
        refine nmTl (b := ((pad_ M n (8 * b + i)).toInt64 &&& 255)) (pad_gt hgt) ?_
        refine lv_bipush (v := 8) hx hb dX10_hash_114 (by decide) ?_
        refine lv_iload hx hb dX10_hash_116 (lv_at hl 7 rfl) ?_
        refine lv_imul hx hb dX10_hash_118 ?_
        refine nmTi (b := (nI (8 * i))) (pk_mul 8 i) ?_
        refine lv_lshl hx hb dX10_hash_119 rfl ?_
        refine lv_lor hx hb dX10_hash_120 ?_
        refine nmTl (b := (ld (pad_ M n) (8 * b) (i + 1))) rfl ?_
        refine lv_lstore (lv' := [(4, .long (ld (pad_ M n) (8 * b) (i + 1))), (8, .long 0), (7, .int (nI (8 * b + i))), (0, .ref hm), (1, .ref hs), (2, .int (nI bl)), (3, .int (nI b)), (6, .int (nI i))]) hx hb dX10_hash_121 hl (by decide) rfl (fun ls hl => ?_)
        refine lv_iinc (v := (nI (i + 1))) (lv' := [(6, .int (nI (i + 1))), (4, .long (ld (pad_ M n) (8 * b) (i + 1))), (8, .long 0), (7, .int (nI (8 * b + i))), (0, .ref hm), (1, .ref hs), (2, .int (nI bl)), (3, .int (nI b))]) hx hb dX10_hash_123 hl (k := 7) rfl (ii1 _) (by decide) rfl (fun ls hl => ?_)
        refine lv_goto (tgt := 53) hx hb dX10_hash_126 (by decide) ?_
        exact ih (i + 1) (by omega) _ _ _ (hP.sub [0, 1, 2, 3] rfl) (hD.sub [0, 1, 2, 3] (by decide) rfl) hS (lv_sub hl [4, 5, 6, 7, 1, 0] rfl)
      · skip
        have heq : 8 * b + i = n := by
          have q : nI (8 * b + i) = nI n := c_b3
          exact (nI_eq (by omega) (by omega)).mp q
        refine lv_lconst (v := 1) hx hb dX10_hash_107 (by decide) ?_
        refine nmTl (b := ((pad_ M n (8 * b + i)).toInt64 &&& 255)) (pad_eq heq) ?_
        refine lv_lstore (lv' := [(8, .long ((pad_ M n (8 * b + i)).toInt64 &&& 255)), (7, .int (nI (8 * b + i))), (0, .ref hm), (1, .ref hs), (2, .int (nI bl)), (3, .int (nI b)), (4, .long (ld (pad_ M n) (8 * b) i)), (6, .int (nI i))]) hx hb dX10_hash_108 hl (by decide) rfl (fun ls hl => ?_)
        refine lv_lload hx hb dX10_hash_110 (lv_at hl 6 rfl) ?_
        refine lv_lload hx hb dX10_hash_112 (lv_at hl 0 rfl) ?_
        refine lv_bipush (v := 8) hx hb dX10_hash_114 (by decide) ?_
        refine lv_iload hx hb dX10_hash_116 (lv_at hl 7 rfl) ?_
        refine lv_imul hx hb dX10_hash_118 ?_
        refine nmTi (b := (nI (8 * i))) (pk_mul 8 i) ?_
        refine lv_lshl hx hb dX10_hash_119 rfl ?_
        refine lv_lor hx hb dX10_hash_120 ?_
        refine nmTl (b := (ld (pad_ M n) (8 * b) (i + 1))) rfl ?_
        refine lv_lstore (lv' := [(4, .long (ld (pad_ M n) (8 * b) (i + 1))), (8, .long ((pad_ M n (8 * b + i)).toInt64 &&& 255)), (7, .int (nI (8 * b + i))), (0, .ref hm), (1, .ref hs), (2, .int (nI bl)), (3, .int (nI b)), (6, .int (nI i))]) hx hb dX10_hash_121 hl (by decide) rfl (fun ls hl => ?_)
        refine lv_iinc (v := (nI (i + 1))) (lv' := [(6, .int (nI (i + 1))), (4, .long (ld (pad_ M n) (8 * b) (i + 1))), (8, .long ((pad_ M n (8 * b + i)).toInt64 &&& 255)), (7, .int (nI (8 * b + i))), (0, .ref hm), (1, .ref hs), (2, .int (nI bl)), (3, .int (nI b))]) hx hb dX10_hash_123 hl (k := 7) rfl (ii1 _) (by decide) rfl (fun ls hl => ?_)
        refine lv_goto (tgt := 53) hx hb dX10_hash_126 (by decide) ?_
        exact ih (i + 1) (by omega) _ _ _ (hP.sub [0, 1, 2, 3] rfl) (hD.sub [0, 1, 2, 3] (by decide) rfl) hS (lv_sub hl [4, 5, 6, 7, 1, 0] rfl)
    · skip
      have hlt : 8 * b + i < n := Nat.not_le.mp (fun z => c_b2 (nI_le z (by omega)))
      refine lv_aload_n hx hb dX10_hash_81 rfl (lv_at hl 2 rfl) ?_
      refine va_get (D := D) (ci := 4) (v := .ref mm) (C := RX10) (T := TX10) (N := 5) hx hb hts in_X10 hown hK hP 0 rfl rfl 2 (by decide) (hts _ q561) (fun _ h9 => h9) rfl dX10_hash_82 ?_
      refine lv_iload hx hb dX10_hash_85 (lv_at hl 1 rfl) ?_
      refine va_bald hx hb hK hP 1 0 rfl rfl (vp_in_nI (by omega) (by decide)) dX10_hash_87 ?_
      refine nmTi (b := (M (8 * b + i))) (cl_f M (by omega)) ?_
      refine lv_i2l hx hb dX10_hash_88 rfl ?_
      refine lv_ldc2 (v := 255) hx hb hown (hts _ q618) dX10_hash_89 ?_
      refine lv_land hx hb dX10_hash_92 ?_
      refine nmTl (b := ((pad_ M n (8 * b + i)).toInt64 &&& 255)) (pad_lt hlt) ?_
      refine lv_lstore (lv' := [(8, .long ((pad_ M n (8 * b + i)).toInt64 &&& 255)), (7, .int (nI (8 * b + i))), (0, .ref hm), (1, .ref hs), (2, .int (nI bl)), (3, .int (nI b)), (4, .long (ld (pad_ M n) (8 * b) i)), (6, .int (nI i))]) hx hb dX10_hash_93 hl (by decide) rfl (fun ls hl => ?_)
      refine lv_goto (tgt := 110) hx hb dX10_hash_95 (by decide) ?_
      refine lv_lload hx hb dX10_hash_110 (lv_at hl 6 rfl) ?_
      refine lv_lload hx hb dX10_hash_112 (lv_at hl 0 rfl) ?_
      refine lv_bipush (v := 8) hx hb dX10_hash_114 (by decide) ?_
      refine lv_iload hx hb dX10_hash_116 (lv_at hl 7 rfl) ?_
      refine lv_imul hx hb dX10_hash_118 ?_
      refine nmTi (b := (nI (8 * i))) (pk_mul 8 i) ?_
      refine lv_lshl hx hb dX10_hash_119 rfl ?_
      refine lv_lor hx hb dX10_hash_120 ?_
      refine nmTl (b := (ld (pad_ M n) (8 * b) (i + 1))) rfl ?_
      refine lv_lstore (lv' := [(4, .long (ld (pad_ M n) (8 * b) (i + 1))), (8, .long ((pad_ M n (8 * b + i)).toInt64 &&& 255)), (7, .int (nI (8 * b + i))), (0, .ref hm), (1, .ref hs), (2, .int (nI bl)), (3, .int (nI b)), (6, .int (nI i))]) hx hb dX10_hash_121 hl (by decide) rfl (fun ls hl => ?_)
      refine lv_iinc (v := (nI (i + 1))) (lv' := [(6, .int (nI (i + 1))), (4, .long (ld (pad_ M n) (8 * b) (i + 1))), (8, .long ((pad_ M n (8 * b + i)).toInt64 &&& 255)), (7, .int (nI (8 * b + i))), (0, .ref hm), (1, .ref hs), (2, .int (nI bl)), (3, .int (nI b))]) hx hb dX10_hash_123 hl (k := 7) rfl (ii1 _) (by decide) rfl (fun ls hl => ?_)
      refine lv_goto (tgt := 53) hx hb dX10_hash_126 (by decide) ?_
      exact ih (i + 1) (by omega) _ _ _ (hP.sub [0, 1, 2, 3] rfl) (hD.sub [0, 1, 2, 3] (by decide) rfl) hS (lv_sub hl [4, 5, 6, 7, 1, 0] rfl)

set_option maxHeartbeats 4000000 in
set_option maxRecDepth 100000 in
theorem L_hout {p : Program} {l : Launch} {e : Env} {s : State} {m : MethodId} {below : List Frame} {meth : Method} {c : Code} {D : va_G} {dB dN dL : ClassId} {A : Nat → Prop} {args : Array Value} {Q : State → Prop} (hx : p.tables.exec = Jvm.exec) (hb : c.code = cX10_hash) (hml : c.maxLocals = 10) (hts : ∀ w ∈ lw_all, w.before args s = true) (hown : s.vm.findClass RX10 = some m.cls) (hK : va_K D CL (TY dB dN dL) s) (hA : ∀ q : Nat, s.heap.size ≤ q → A q) (hX : xt A s s.heap) (hm mm md hs n : Nat) (vt : Value) (zs : Int32) (M G : Nat → Int32) (hn : n ≤ 16384) (kk : WG p l e (rm_ 2 1 5 63) s m args below meth c D A 1 5 Q 10 [(hm, .inr (4, [vt, .int zs, .ref mm, .int (nI n), .ref md])), (mm, .inl (dB, 16384, .inl M)), (md, .inl (dN, 32, .inl G)), (hs, .inl (dL, 5, .inr (.inl (a5 (abs (pad_ M n) (n / 8 + 1))))))] [(0, .ref hm), (1, .ref hs), (2, .int (nI (n / 8 + 1))), (3, .int (nI (n / 8 + 1)))] 148) :
    ∀ (d b : Nat), b + d = n / 8 + 1 → WG p l e (rm_ 2 1 5 63) s m args below meth c D A 1 5 Q 10 [(hm, .inr (4, [vt, .int zs, .ref mm, .int (nI n), .ref md])), (mm, .inl (dB, 16384, .inl M)), (md, .inl (dN, 32, .inl G)), (hs, .inl (dL, 5, .inr (.inl (a5 (abs (pad_ M n) b)))))] [(0, .ref hm), (1, .ref hs), (2, .int (nI (n / 8 + 1))), (3, .int (nI b))] 42 := by
  intro d
  induction d with
  | zero =>
    intro b hi H locs ls hP hD hS hl
    refine lv_iload_n hx hb dX10_hash_42 rfl (lv_at hl 3 rfl) ?_
    refine lv_iload_n hx hb dX10_hash_43 rfl (lv_at hl 2 rfl) ?_
    refine lv_icmp_ge (tgt := 148) hx hb dX10_hash_44 (by decide) (fun _ => ?_) (fun c_1 => absurd (show nI (n / 8 + 1) ≤ nI b from nI_le (by omega) (by omega)) c_1)
    have e : b = n / 8 + 1 := by omega
    subst e
    exact kk H locs ls hP hD hS hl
  | succ d ih =>
    intro b hi H locs ls hP hD hS hl
    refine lv_iload_n hx hb dX10_hash_42 rfl (lv_at hl 3 rfl) ?_
    refine lv_iload_n hx hb dX10_hash_43 rfl (lv_at hl 2 rfl) ?_
    refine lv_icmp_ge (tgt := 148) hx hb dX10_hash_44 (by decide) (fun c_b1 => absurd c_b1 (nI_ge (show b < n / 8 + 1 by omega) (by omega))) (fun _ => ?_)
    refine lv_lconst (v := 0) hx hb dX10_hash_47 (by decide) ?_
    refine lv_lstore (lv' := [(4, .long 0), (0, .ref hm), (1, .ref hs), (2, .int (nI (n / 8 + 1))), (3, .int (nI b))]) hx hb dX10_hash_48 hl (by decide) rfl (fun ls hl => ?_)
    refine lv_iconst (v := 0) hx hb dX10_hash_50 (by decide) ?_
    refine lv_istore (lv' := [(6, .int 0), (4, .long 0), (0, .ref hm), (1, .ref hs), (2, .int (nI (n / 8 + 1))), (3, .int (nI b))]) hx hb dX10_hash_51 hl (by decide) rfl (fun ls hl => ?_)
    have hl : lv_has ls 10 [(6, .int (nI 0)), (4, .long (ld (pad_ M n) (8 * b) 0)), (0, .ref hm), (1, .ref hs), (2, .int (nI (n / 8 + 1))), (3, .int (nI b))] := hl
    refine L_hin hx hb hml hts hown hK hA hX hm mm md hs n vt zs M G (n / 8 + 1) b (abs (pad_ M n) b) hn (by omega) (fun H locs ls hP hD hS hl => ?_) 8 0 (by omega) _ _ _ (hP.sub [0, 1, 2, 3] rfl) (hD.sub [0, 1, 2, 3] (by decide) rfl) hS (lv_sub hl [2, 3, 4, 5, 1, 0] rfl)
    refine lv_aload_n hx hb dX10_hash_129 rfl (lv_at hl 1 rfl) ?_
    refine lv_iconst (v := 0) hx hb dX10_hash_130 (by decide) ?_
    refine lv_aload_n hx hb dX10_hash_131 rfl (lv_at hl 1 rfl) ?_
    refine lv_iconst (v := 0) hx hb dX10_hash_132 (by decide) ?_
    refine va_lald hx hb hK hP 3 2 rfl rfl (vp_in_nI (n := 0) (by decide) (by decide)) dX10_hash_133 ?_
    refine nmTl (b := ((abs (pad_ M n) b).1)) rfl ?_
    refine lv_lload hx hb dX10_hash_134 (lv_at hl 4 rfl) ?_
    refine lv_lxor hx hb dX10_hash_136 ?_
    refine va_last hx hb hK hP hD hS 3 2 rfl rfl (vp_in_nI (n := 0) (by decide) (by decide)) dX10_hash_137 (fun H locs hP hD hS => ?_)
    have eg_b2 : vp_updL (a5 (abs (pad_ M n) b)) (0 : Int32).toNatClampNeg (((abs (pad_ M n) b).1) ^^^ (ld (pad_ M n) (8 * b) 8)) = a5 ((abs (pad_ M n) b).1 ^^^ ld (pad_ M n) (8 * b) 8, (abs (pad_ M n) b).2) := (up_0 _ _)
    rw [eg_b2] at hP hD
    have hP : va_P D CL [(hm, .inr (4, [vt, .int zs, .ref mm, .int (nI n), .ref md])), (mm, .inl (dB, 16384, .inl M)), (md, .inl (dN, 32, .inl G)), (hs, .inl (dL, 5, .inr (.inl (a5 ((abs (pad_ M n) b).1 ^^^ ld (pad_ M n) (8 * b) 8, (abs (pad_ M n) b).2)))))] H := hP
    have hD : va_D A [(hm, .inr (4, [vt, .int zs, .ref mm, .int (nI n), .ref md])), (mm, .inl (dB, 16384, .inl M)), (md, .inl (dN, 32, .inl G)), (hs, .inl (dL, 5, .inr (.inl (a5 ((abs (pad_ M n) b).1 ^^^ ld (pad_ M n) (8 * b) 8, (abs (pad_ M n) b).2)))))] := hD
    refine lv_aload_n hx hb dX10_hash_138 rfl (lv_at hl 1 rfl) ?_
    refine cl_v [(hs, .inl (dL, 5, .inr (.inl (a5 ((abs (pad_ M n) b).1 ^^^ ld (pad_ M n) (8 * b) 8, (abs (pad_ M n) b).2)))))] [(hm, .inr (4, [vt, .int zs, .ref mm, .int (nI n), .ref md])), (mm, .inl (dB, 16384, .inl M)), (md, .inl (dN, 32, .inl G))] [3] [0, 1, 2] rfl rfl (by decide) (by decide) hP hD hS hA (va_runS (As := [.ref hs]) (rest := []) ⟨hx, hb, hml, hown, hts⟩ (m_permute l D dB dN dL hs ((abs (pad_ M n) b).1 ^^^ ld (pad_ M n) (8 * b) 8, (abs (pad_ M n) b).2) _) (va_cwS 1 hts (lw_S q609 q610 q24 q611) rfl rfl rfl (by decide +kernel) ⟨Nat.le_of_ble_eq_true rfl, Nat.le_of_ble_eq_true rfl⟩) (pv_ (As := [.ref hs]) [3] rfl (by decide) hP hK hD hS hA hX) rfl rfl hl.1 rfl (lv_room (Nat.le_of_ble_eq_true rfl)) dX10_hash_139 ⟨Nat.le_of_ble_eq_true rfl, Nat.le_of_ble_eq_true rfl⟩) (fun u_b3 H locs hw_b4 hP hD hS => ?_)
    have hP : va_P D CL [(hm, .inr (4, [vt, .int zs, .ref mm, .int (nI n), .ref md])), (mm, .inl (dB, 16384, .inl M)), (md, .inl (dN, 32, .inl G)), (hs, .inl (dL, 5, .inr (.inl (a5 (abs (pad_ M n) (b + 1))))))] H := hP
    have hD : va_D A [(hm, .inr (4, [vt, .int zs, .ref mm, .int (nI n), .ref md])), (mm, .inl (dB, 16384, .inl M)), (md, .inl (dN, 32, .inl G)), (hs, .inl (dL, 5, .inr (.inl (a5 (abs (pad_ M n) (b + 1))))))] := hD
    refine lv_iinc (v := (nI (b + 1))) (lv' := [(3, .int (nI (b + 1))), (0, .ref hm), (1, .ref hs), (2, .int (nI (n / 8 + 1))), (4, .long (ld (pad_ M n) (8 * b) 8)), (6, .int (nI 8))]) hx hb dX10_hash_142 hl (k := 3) rfl (ii1 _) (by decide) rfl (fun ls hl => ?_)
    refine lv_goto (tgt := 42) hx hb dX10_hash_145 (by decide) ?_
    exact ih (b + 1) (by omega) _ _ _ (hP.sub [0, 1, 2, 3] rfl) (hD.sub [0, 1, 2, 3] (by decide) rfl) hS (lv_sub hl [1, 2, 3, 0] rfl)

set_option maxHeartbeats 4000000 in
set_option maxRecDepth 100000 in
theorem L_din {p : Program} {l : Launch} {e : Env} {s : State} {m : MethodId} {below : List Frame} {meth : Method} {c : Code} {D : va_G} {dB dN dL : ClassId} {A : Nat → Prop} {args : Array Value} {Q : State → Prop} (hx : p.tables.exec = Jvm.exec) (hb : c.code = cX10_hash) (hml : c.maxLocals = 10) (hts : ∀ w ∈ lw_all, w.before args s = true) (hown : s.vm.findClass RX10 = some m.cls) (hK : va_K D CL (TY dB dN dL) s) (hA : ∀ q : Nat, s.heap.size ≤ q → A q) (hX : xt A s s.heap) (hm mm md hs n : Nat) (vt : Value) (zs : Int32) (M G : Nat → Int32) (y : P5) (b : Nat) (hb4 : b < 4) (kk : WG p l e (rm_ 2 1 5 63) s m args below meth c D A 1 5 Q 10 [(hm, .inr (4, [vt, .int zs, .ref mm, .int (nI n), .ref md])), (mm, .inl (dB, 16384, .inl M)), (md, .inl (dN, 32, .inl (dq y G (8 * b + 8)))), (hs, .inl (dL, 5, .inr (.inl (a5 (sq y b)))))] [(0, .ref hm), (1, .ref hs), (3, .int (nI b)), (4, .int (nI 8))] 205) :
    ∀ (d i : Nat), i + d = 8 → WG p l e (rm_ 2 1 5 63) s m args below meth c D A 1 5 Q 10 [(hm, .inr (4, [vt, .int zs, .ref mm, .int (nI n), .ref md])), (mm, .inl (dB, 16384, .inl M)), (md, .inl (dN, 32, .inl (dq y G (8 * b + i)))), (hs, .inl (dL, 5, .inr (.inl (a5 (sq y b)))))] [(0, .ref hm), (1, .ref hs), (3, .int (nI b)), (4, .int (nI i))] 166 := by
  intro d
  induction d with
  | zero =>
    intro i hi H locs ls hP hD hS hl
    refine lv_iload hx hb dX10_hash_166 (lv_at hl 3 rfl) ?_
    refine lv_bipush (v := 8) hx hb dX10_hash_168 (by decide) ?_
    refine lv_icmp_ge (tgt := 205) hx hb dX10_hash_170 (by decide) (fun _ => ?_) (fun c_1 => absurd (show (8 : Int32) ≤ nI i from nI_le (a := 8) (by omega) (by omega)) c_1)
    have e : i = 8 := by omega
    subst e
    exact kk H locs ls hP hD hS hl
  | succ d ih =>
    intro i hi H locs ls hP hD hS hl
    refine lv_iload hx hb dX10_hash_166 (lv_at hl 3 rfl) ?_
    refine lv_bipush (v := 8) hx hb dX10_hash_168 (by decide) ?_
    refine lv_icmp_ge (tgt := 205) hx hb dX10_hash_170 (by decide) (fun c_b1 => absurd c_b1 (nI_ge (b := 8) (by omega) (by decide))) (fun _ => ?_)
    refine lv_aload_n hx hb dX10_hash_173 rfl (lv_at hl 0 rfl) ?_
    refine va_get (D := D) (ci := 4) (v := .ref md) (C := RX10) (T := TX10) (N := 5) hx hb hts in_X10 hown hK hP 0 rfl rfl 4 (by decide) (hts _ q563) (fun _ h9 => h9) rfl dX10_hash_174 ?_
    refine lv_bipush (v := 8) hx hb dX10_hash_177 (by decide) ?_
    refine lv_iload_n hx hb dX10_hash_179 rfl (lv_at hl 2 rfl) ?_
    refine lv_imul hx hb dX10_hash_180 ?_
    refine nmTi (b := (nI (8 * b))) (pk_mul 8 b) ?_
    refine lv_iload hx hb dX10_hash_181 (lv_at hl 3 rfl) ?_
    refine lv_iadd hx hb dX10_hash_183 ?_
    refine nmTi (b := (nI (8 * b + i))) (nI_add (8 * b) i) ?_
    refine lv_aload_n hx hb dX10_hash_184 rfl (lv_at hl 1 rfl) ?_
    refine lv_iconst (v := 0) hx hb dX10_hash_185 (by decide) ?_
    refine va_lald hx hb hK hP 3 2 rfl rfl (vp_in_nI (n := 0) (by decide) (by decide)) dX10_hash_186 ?_
    refine nmTl (b := ((sq y b).1)) rfl ?_
    refine lv_bipush (v := 8) hx hb dX10_hash_187 (by decide) ?_
    refine lv_iload hx hb dX10_hash_189 (lv_at hl 3 rfl) ?_
    refine lv_imul hx hb dX10_hash_191 ?_
    refine nmTi (b := (nI (8 * i))) (pk_mul 8 i) ?_
    refine lv_lushr hx hb dX10_hash_192 rfl ?_
    refine lv_ldc2 (v := 255) hx hb hown (hts _ q618) dX10_hash_193 ?_
    refine lv_land hx hb dX10_hash_196 ?_
    refine lv_l2i hx hb dX10_hash_197 rfl ?_
    refine nmTi (b := (du (sq y b).1 i)) rfl ?_
    refine va_iast hx hb hK hP hD hS 2 1 rfl rfl (vp_in_nI (by omega) (by decide)) dX10_hash_198 (fun H locs hP hD hS => ?_)
    have eg_b2 : upd (dq y G (8 * b + i)) (nI (8 * b + i)).toNatClampNeg (du (sq y b).1 i) = dq y G (8 * b + i + 1) := (by rw [nI_clamp (by omega)]; exact dq_s y G rfl (by omega))
    rw [eg_b2] at hP hD
    have hP : va_P D CL [(hm, .inr (4, [vt, .int zs, .ref mm, .int (nI n), .ref md])), (mm, .inl (dB, 16384, .inl M)), (md, .inl (dN, 32, .inl (dq y G (8 * b + i + 1)))), (hs, .inl (dL, 5, .inr (.inl (a5 (sq y b)))))] H := hP
    have hD : va_D A [(hm, .inr (4, [vt, .int zs, .ref mm, .int (nI n), .ref md])), (mm, .inl (dB, 16384, .inl M)), (md, .inl (dN, 32, .inl (dq y G (8 * b + i + 1)))), (hs, .inl (dL, 5, .inr (.inl (a5 (sq y b)))))] := hD
    refine lv_iinc (v := (nI (i + 1))) (lv' := [(4, .int (nI (i + 1))), (0, .ref hm), (1, .ref hs), (3, .int (nI b))]) hx hb dX10_hash_199 hl (k := 3) rfl (ii1 _) (by decide) rfl (fun ls hl => ?_)
    refine lv_goto (tgt := 166) hx hb dX10_hash_202 (by decide) ?_
    exact ih (i + 1) (by omega) _ _ _ (hP.sub [0, 1, 2, 3] rfl) (hD.sub [0, 1, 2, 3] (by decide) rfl) hS (lv_sub hl [1, 2, 3, 0] rfl)

set_option maxHeartbeats 4000000 in
set_option maxRecDepth 100000 in
theorem L_dout {p : Program} {l : Launch} {e : Env} {s : State} {m : MethodId} {below : List Frame} {meth : Method} {c : Code} {D : va_G} {dB dN dL : ClassId} {A : Nat → Prop} {args : Array Value} {Q : State → Prop} (hx : p.tables.exec = Jvm.exec) (hb : c.code = cX10_hash) (hml : c.maxLocals = 10) (hts : ∀ w ∈ lw_all, w.before args s = true) (hown : s.vm.findClass RX10 = some m.cls) (hK : va_K D CL (TY dB dN dL) s) (hA : ∀ q : Nat, s.heap.size ≤ q → A q) (hX : xt A s s.heap) (hm mm md hs n : Nat) (vt : Value) (zs : Int32) (M G : Nat → Int32) (y : P5) (kk : WG p l e (rm_ 2 1 5 63) s m args below meth c D A 1 5 Q 10 [(hm, .inr (4, [vt, .int zs, .ref mm, .int (nI n), .ref md])), (mm, .inl (dB, 16384, .inl M)), (md, .inl (dN, 32, .inl (dq y G (8 * 4)))), (hs, .inl (dL, 5, .inr (.inl (a5 (sq y (4 - 1))))))] [(0, .ref hm), (1, .ref hs), (3, .int (nI 4))] 211) :
    ∀ (d b : Nat), b + d = 4 → WG p l e (rm_ 2 1 5 63) s m args below meth c D A 1 5 Q 10 [(hm, .inr (4, [vt, .int zs, .ref mm, .int (nI n), .ref md])), (mm, .inl (dB, 16384, .inl M)), (md, .inl (dN, 32, .inl (dq y G (8 * b)))), (hs, .inl (dL, 5, .inr (.inl (a5 (sq y (b - 1))))))] [(0, .ref hm), (1, .ref hs), (3, .int (nI b))] 150 := by
  intro d
  induction d with
  | zero =>
    intro b hi H locs ls hP hD hS hl
    refine lv_iload_n hx hb dX10_hash_150 rfl (lv_at hl 2 rfl) ?_
    refine lv_iconst (v := 4) hx hb dX10_hash_151 (by decide) ?_
    refine lv_icmp_ge (tgt := 211) hx hb dX10_hash_152 (by decide) (fun _ => ?_) (fun c_1 => absurd (show (4 : Int32) ≤ nI b from nI_le (a := 4) (by omega) (by omega)) c_1)
    have e : b = 4 := by omega
    subst e
    exact kk H locs ls hP hD hS hl
  | succ d ih =>
    intro b hi H locs ls hP hD hS hl
    refine lv_iload_n hx hb dX10_hash_150 rfl (lv_at hl 2 rfl) ?_
    refine lv_iconst (v := 4) hx hb dX10_hash_151 (by decide) ?_
    refine lv_icmp_ge (tgt := 211) hx hb dX10_hash_152 (by decide) (fun c_b1 => absurd c_b1 (nI_ge (b := 4) (by omega) (by decide))) (fun _ => ?_)
    refine lv_iload_n hx hb dX10_hash_155 rfl (lv_at hl 2 rfl) ?_
    refine lv_if_le (tgt := 163) hx hb dX10_hash_156 (by decide) (fun c_b2 => ?_) (fun c_b2 => ?_)
    · skip
      have h0 : b = 0 := Nat.eq_zero_of_le_zero ((nI_leI (b := 0) (by omega) (by decide)).mp c_b2)
      subst h0
      have hP : va_P D CL [(hm, .inr (4, [vt, .int zs, .ref mm, .int (nI n), .ref md])), (mm, .inl (dB, 16384, .inl M)), (md, .inl (dN, 32, .inl (dq y G (8 * 0)))), (hs, .inl (dL, 5, .inr (.inl (a5 (sq y 0)))))] H := hP
      have hD : va_D A [(hm, .inr (4, [vt, .int zs, .ref mm, .int (nI n), .ref md])), (mm, .inl (dB, 16384, .inl M)), (md, .inl (dN, 32, .inl (dq y G (8 * 0)))), (hs, .inl (dL, 5, .inr (.inl (a5 (sq y 0)))))] := hD
      refine lv_iconst (v := 0) hx hb dX10_hash_163 (by decide) ?_
      refine lv_istore (lv' := [(4, .int 0), (0, .ref hm), (1, .ref hs), (3, .int (nI 0))]) hx hb dX10_hash_164 hl (by decide) rfl (fun ls hl => ?_)
      have hl : lv_has ls 10 [(4, .int (nI 0)), (0, .ref hm), (1, .ref hs), (3, .int (nI 0))] := hl
      refine L_din hx hb hml hts hown hK hA hX hm mm md hs n vt zs M G y 0 (by omega) (fun H locs ls hP hD hS hl => ?_) 8 0 (by omega) _ _ _ (hP.sub [0, 1, 2, 3] rfl) (hD.sub [0, 1, 2, 3] (by decide) rfl) hS (lv_sub hl [1, 2, 3, 0] rfl)
      refine lv_iinc (v := (nI (0 + 1))) (lv' := [(3, .int (nI (0 + 1))), (0, .ref hm), (1, .ref hs), (4, .int (nI 8))]) hx hb dX10_hash_205 hl (k := 2) rfl (ii1 _) (by decide) rfl (fun ls hl => ?_)
      refine lv_goto (tgt := 150) hx hb dX10_hash_208 (by decide) ?_
      exact ih (0 + 1) (by omega) _ _ _ (hP.sub [0, 1, 2, 3] rfl) (hD.sub [0, 1, 2, 3] (by decide) rfl) hS (lv_sub hl [1, 2, 0] rfl)
    · skip
      have h1 : 1 ≤ b := by
        rcases Nat.eq_zero_or_pos b with z | z
        · exact absurd (by rw [z]; decide) c_b2
        · exact z
      refine lv_aload_n hx hb dX10_hash_159 rfl (lv_at hl 1 rfl) ?_
      refine cl_v [(hs, .inl (dL, 5, .inr (.inl (a5 (sq y (b - 1))))))] [(hm, .inr (4, [vt, .int zs, .ref mm, .int (nI n), .ref md])), (mm, .inl (dB, 16384, .inl M)), (md, .inl (dN, 32, .inl (dq y G (8 * b))))] [3] [0, 1, 2] rfl rfl (by decide) (by decide) hP hD hS hA (va_runS (As := [.ref hs]) (rest := []) ⟨hx, hb, hml, hown, hts⟩ (m_permute l D dB dN dL hs (sq y (b - 1)) _) (va_cwS 1 hts (lw_S q609 q610 q24 q611) rfl rfl rfl (by decide +kernel) ⟨Nat.le_of_ble_eq_true rfl, Nat.le_of_ble_eq_true rfl⟩) (pv_ (As := [.ref hs]) [3] rfl (by decide) hP hK hD hS hA hX) rfl rfl hl.1 rfl (lv_room (Nat.le_of_ble_eq_true rfl)) dX10_hash_160 ⟨Nat.le_of_ble_eq_true rfl, Nat.le_of_ble_eq_true rfl⟩) (fun u_b3 H locs hw_b4 hP hD hS => ?_)
      have hP : va_P D CL [(hm, .inr (4, [vt, .int zs, .ref mm, .int (nI n), .ref md])), (mm, .inl (dB, 16384, .inl M)), (md, .inl (dN, 32, .inl (dq y G (8 * b)))), (hs, .inl (dL, 5, .inr (.inl (a5 (pm (sq y (b - 1)))))))] H := hP
      have hD : va_D A [(hm, .inr (4, [vt, .int zs, .ref mm, .int (nI n), .ref md])), (mm, .inl (dB, 16384, .inl M)), (md, .inl (dN, 32, .inl (dq y G (8 * b)))), (hs, .inl (dL, 5, .inr (.inl (a5 (pm (sq y (b - 1)))))))] := hD
      have e1 : pm (sq y (b - 1)) = sq y b := by
        obtain ⟨k, rfl⟩ : ∃ k, b = k + 1 := ⟨b - 1, by omega⟩
        rfl
      rw [e1] at hP hD
      have hP : va_P D CL [(hm, .inr (4, [vt, .int zs, .ref mm, .int (nI n), .ref md])), (mm, .inl (dB, 16384, .inl M)), (md, .inl (dN, 32, .inl (dq y G (8 * b)))), (hs, .inl (dL, 5, .inr (.inl (a5 (sq y b)))))] H := hP
      have hD : va_D A [(hm, .inr (4, [vt, .int zs, .ref mm, .int (nI n), .ref md])), (mm, .inl (dB, 16384, .inl M)), (md, .inl (dN, 32, .inl (dq y G (8 * b)))), (hs, .inl (dL, 5, .inr (.inl (a5 (sq y b)))))] := hD
      refine lv_iconst (v := 0) hx hb dX10_hash_163 (by decide) ?_
      refine lv_istore (lv' := [(4, .int 0), (0, .ref hm), (1, .ref hs), (3, .int (nI b))]) hx hb dX10_hash_164 hl (by decide) rfl (fun ls hl => ?_)
      have hl : lv_has ls 10 [(4, .int (nI 0)), (0, .ref hm), (1, .ref hs), (3, .int (nI b))] := hl
      refine L_din hx hb hml hts hown hK hA hX hm mm md hs n vt zs M G y b (by omega) (fun H locs ls hP hD hS hl => ?_) 8 0 (by omega) _ _ _ (hP.sub [0, 1, 2, 3] rfl) (hD.sub [0, 1, 2, 3] (by decide) rfl) hS (lv_sub hl [1, 2, 3, 0] rfl)
      refine lv_iinc (v := (nI (b + 1))) (lv' := [(3, .int (nI (b + 1))), (0, .ref hm), (1, .ref hs), (4, .int (nI 8))]) hx hb dX10_hash_205 hl (k := 2) rfl (ii1 _) (by decide) rfl (fun ls hl => ?_)
      refine lv_goto (tgt := 150) hx hb dX10_hash_208 (by decide) ?_
      exact ih (b + 1) (by omega) _ _ _ (hP.sub [0, 1, 2, 3] rfl) (hD.sub [0, 1, 2, 3] (by decide) rfl) hS (lv_sub hl [1, 2, 0] rfl)

set_option maxHeartbeats 4000000 in
set_option maxRecDepth 100000 in
/-- AsconHashDeskModel.hash -/
theorem m_mhash (l : Launch) (D : va_G) (dB dN dL : ClassId) (hm mm md n : Nat) (vt : Value) (zs : Int32) (M G : Nat → Int32) (sz : Nat) (hn : n ≤ 16384) : Cv_ l yX10_hash (ws_ yX10_hash cX10_hash 10 none) (rm_ 2 1 5 63) D dB dN dL [.ref hm] [(hm, .inr (4, [vt, .int zs, .ref mm, .int (nI n), .ref md])), (mm, .inl (dB, 16384, .inl M)), (md, .inl (dN, 32, .inl G))] sz (S := Unit) (fun _ => True) (fun _ => [(hm, .inr (4, [vt, .int zs, .ref mm, .int (nI n), .ref md])), (mm, .inl (dB, 16384, .inl M)), (md, .inl (dN, 32, .inl (dq (hsh M n) G 32)))]) := by
  refine ct_of (cc := cX10_hash) (maxL := 10) (ret := none) (by decide) rfl (Nat.le_of_ble_eq_true rfl) (fun p e s m below meth c A ls hx hb hml hr hlocks hts hown hin hP hK hD hA hX hS hl => ?_)
  have hown : s.vm.findClass RX10 = some m.cls := hown
  have hl : lv_has ls 10 [(0, .ref hm)] := hl
  refine lv_iconst (v := 5) hx hb dX10_hash_0 (by decide) ?_
  refine na_ (N' := 5) (t0 := 2) (dA := dL) (a0 := (5, .inr (.inl (fun _ => 0)))) (atype := .long) (ty := .long) hx hb rfl (fun _ h => by cases h) (hts _ q619) hK rfl hP hD hS hA (fun _ => rfl) (by decide) rfl (Nat.le_of_ble_eq_true rfl) (Nat.le_of_ble_eq_true rfl) (Nat.le_of_ble_eq_true rfl) dX10_hash_1 (fun q_1 H hP hD hS => ?_)
  have hP : va_P D CL [(hm, .inr (4, [vt, .int zs, .ref mm, .int (nI n), .ref md])), (mm, .inl (dB, 16384, .inl M)), (md, .inl (dN, 32, .inl G)), (q_1, .inl (dL, 5, .inr (.inl (fun _ => 0))))] H := hP
  have hD : va_D A [(hm, .inr (4, [vt, .int zs, .ref mm, .int (nI n), .ref md])), (mm, .inl (dB, 16384, .inl M)), (md, .inl (dN, 32, .inl G)), (q_1, .inl (dL, 5, .inr (.inl (fun _ => 0))))] := hD
  refine lv_dup hx hb dX10_hash_3 rfl ?_
  refine lv_iconst (v := 0) hx hb dX10_hash_4 (by decide) ?_
  refine lv_ldc2 (v := 8800401358850) hx hb hown (hts _ q608) dX10_hash_5 ?_
  refine va_last hx hb hK hP hD hS 3 2 rfl rfl (vp_in_nI (n := 0) (by decide) (by decide)) dX10_hash_8 (fun H locs hP hD hS => ?_)
  have eg_2 : vp_updL (fun _ => 0) (0 : Int32).toNatClampNeg 8800401358850 = vp_updL (fun _ => 0) 0 8800401358850 := rfl
  rw [eg_2] at hP hD
  have hP : va_P D CL [(hm, .inr (4, [vt, .int zs, .ref mm, .int (nI n), .ref md])), (mm, .inl (dB, 16384, .inl M)), (md, .inl (dN, 32, .inl G)), (q_1, .inl (dL, 5, .inr (.inl (vp_updL (fun _ => 0) 0 8800401358850))))] H := hP
  have hD : va_D A [(hm, .inr (4, [vt, .int zs, .ref mm, .int (nI n), .ref md])), (mm, .inl (dB, 16384, .inl M)), (md, .inl (dN, 32, .inl G)), (q_1, .inl (dL, 5, .inr (.inl (vp_updL (fun _ => 0) 0 8800401358850))))] := hD
  refine lv_dup hx hb dX10_hash_9 rfl ?_
  refine lv_iconst (v := 1) hx hb dX10_hash_10 (by decide) ?_
  refine lv_lconst (v := 0) hx hb dX10_hash_11 (by decide) ?_
  refine va_last hx hb hK hP hD hS 3 2 rfl rfl (vp_in_nI (n := 1) (by decide) (by decide)) dX10_hash_12 (fun H locs hP hD hS => ?_)
  have eg_3 : vp_updL (vp_updL (fun _ => 0) 0 8800401358850) (1 : Int32).toNatClampNeg 0 = vp_updL (vp_updL (fun _ => 0) 0 8800401358850) 1 0 := rfl
  rw [eg_3] at hP hD
  have hP : va_P D CL [(hm, .inr (4, [vt, .int zs, .ref mm, .int (nI n), .ref md])), (mm, .inl (dB, 16384, .inl M)), (md, .inl (dN, 32, .inl G)), (q_1, .inl (dL, 5, .inr (.inl (vp_updL (vp_updL (fun _ => 0) 0 8800401358850) 1 0))))] H := hP
  have hD : va_D A [(hm, .inr (4, [vt, .int zs, .ref mm, .int (nI n), .ref md])), (mm, .inl (dB, 16384, .inl M)), (md, .inl (dN, 32, .inl G)), (q_1, .inl (dL, 5, .inr (.inl (vp_updL (vp_updL (fun _ => 0) 0 8800401358850) 1 0))))] := hD
  refine lv_dup hx hb dX10_hash_13 rfl ?_
  refine lv_iconst (v := 2) hx hb dX10_hash_14 (by decide) ?_
  refine lv_lconst (v := 0) hx hb dX10_hash_15 (by decide) ?_
  refine va_last hx hb hK hP hD hS 3 2 rfl rfl (vp_in_nI (n := 2) (by decide) (by decide)) dX10_hash_16 (fun H locs hP hD hS => ?_)
  have eg_4 : vp_updL (vp_updL (vp_updL (fun _ => 0) 0 8800401358850) 1 0) (2 : Int32).toNatClampNeg 0 = vp_updL (vp_updL (vp_updL (fun _ => 0) 0 8800401358850) 1 0) 2 0 := rfl
  rw [eg_4] at hP hD
  have hP : va_P D CL [(hm, .inr (4, [vt, .int zs, .ref mm, .int (nI n), .ref md])), (mm, .inl (dB, 16384, .inl M)), (md, .inl (dN, 32, .inl G)), (q_1, .inl (dL, 5, .inr (.inl (vp_updL (vp_updL (vp_updL (fun _ => 0) 0 8800401358850) 1 0) 2 0))))] H := hP
  have hD : va_D A [(hm, .inr (4, [vt, .int zs, .ref mm, .int (nI n), .ref md])), (mm, .inl (dB, 16384, .inl M)), (md, .inl (dN, 32, .inl G)), (q_1, .inl (dL, 5, .inr (.inl (vp_updL (vp_updL (vp_updL (fun _ => 0) 0 8800401358850) 1 0) 2 0))))] := hD
  refine lv_dup hx hb dX10_hash_17 rfl ?_
  refine lv_iconst (v := 3) hx hb dX10_hash_18 (by decide) ?_
  refine lv_lconst (v := 0) hx hb dX10_hash_19 (by decide) ?_
  refine va_last hx hb hK hP hD hS 3 2 rfl rfl (vp_in_nI (n := 3) (by decide) (by decide)) dX10_hash_20 (fun H locs hP hD hS => ?_)
  have eg_5 : vp_updL (vp_updL (vp_updL (vp_updL (fun _ => 0) 0 8800401358850) 1 0) 2 0) (3 : Int32).toNatClampNeg 0 = vp_updL (vp_updL (vp_updL (vp_updL (fun _ => 0) 0 8800401358850) 1 0) 2 0) 3 0 := rfl
  rw [eg_5] at hP hD
  have hP : va_P D CL [(hm, .inr (4, [vt, .int zs, .ref mm, .int (nI n), .ref md])), (mm, .inl (dB, 16384, .inl M)), (md, .inl (dN, 32, .inl G)), (q_1, .inl (dL, 5, .inr (.inl (vp_updL (vp_updL (vp_updL (vp_updL (fun _ => 0) 0 8800401358850) 1 0) 2 0) 3 0))))] H := hP
  have hD : va_D A [(hm, .inr (4, [vt, .int zs, .ref mm, .int (nI n), .ref md])), (mm, .inl (dB, 16384, .inl M)), (md, .inl (dN, 32, .inl G)), (q_1, .inl (dL, 5, .inr (.inl (vp_updL (vp_updL (vp_updL (vp_updL (fun _ => 0) 0 8800401358850) 1 0) 2 0) 3 0))))] := hD
  refine lv_dup hx hb dX10_hash_21 rfl ?_
  refine lv_iconst (v := 4) hx hb dX10_hash_22 (by decide) ?_
  refine lv_lconst (v := 0) hx hb dX10_hash_23 (by decide) ?_
  refine va_last hx hb hK hP hD hS 3 2 rfl rfl (vp_in_nI (n := 4) (by decide) (by decide)) dX10_hash_24 (fun H locs hP hD hS => ?_)
  have eg_6 : vp_updL (vp_updL (vp_updL (vp_updL (vp_updL (fun _ => 0) 0 8800401358850) 1 0) 2 0) 3 0) (4 : Int32).toNatClampNeg 0 = vp_updL (vp_updL (vp_updL (vp_updL (vp_updL (fun _ => 0) 0 8800401358850) 1 0) 2 0) 3 0) 4 0 := rfl
  rw [eg_6] at hP hD
  have hP : va_P D CL [(hm, .inr (4, [vt, .int zs, .ref mm, .int (nI n), .ref md])), (mm, .inl (dB, 16384, .inl M)), (md, .inl (dN, 32, .inl G)), (q_1, .inl (dL, 5, .inr (.inl (vp_updL (vp_updL (vp_updL (vp_updL (vp_updL (fun _ => 0) 0 8800401358850) 1 0) 2 0) 3 0) 4 0))))] H := hP
  have hD : va_D A [(hm, .inr (4, [vt, .int zs, .ref mm, .int (nI n), .ref md])), (mm, .inl (dB, 16384, .inl M)), (md, .inl (dN, 32, .inl G)), (q_1, .inl (dL, 5, .inr (.inl (vp_updL (vp_updL (vp_updL (vp_updL (vp_updL (fun _ => 0) 0 8800401358850) 1 0) 2 0) 3 0) 4 0))))] := hD
  rw [up5 (fun _ _ => rfl)] at hP hD
  have hP : va_P D CL [(hm, .inr (4, [vt, .int zs, .ref mm, .int (nI n), .ref md])), (mm, .inl (dB, 16384, .inl M)), (md, .inl (dN, 32, .inl G)), (q_1, .inl (dL, 5, .inr (.inl (a5 iv0))))] H := hP
  have hD : va_D A [(hm, .inr (4, [vt, .int zs, .ref mm, .int (nI n), .ref md])), (mm, .inl (dB, 16384, .inl M)), (md, .inl (dN, 32, .inl G)), (q_1, .inl (dL, 5, .inr (.inl (a5 iv0))))] := hD
  refine lv_astore_n (lv' := [(1, .ref q_1), (0, .ref hm)]) hx hb dX10_hash_25 rfl hl (by decide) rfl (fun ls hl => ?_)
  refine lv_aload_n hx hb dX10_hash_26 rfl (lv_at hl 0 rfl) ?_
  refine cl_v [(q_1, .inl (dL, 5, .inr (.inl (a5 iv0))))] [(hm, .inr (4, [vt, .int zs, .ref mm, .int (nI n), .ref md])), (mm, .inl (dB, 16384, .inl M)), (md, .inl (dN, 32, .inl G))] [3] [0, 1, 2] rfl rfl (by decide) (by decide) hP hD hS hA (va_runS (As := [.ref q_1]) (rest := []) ⟨hx, hb, hml, hown, hts⟩ (m_permute l D dB dN dL q_1 iv0 _) (va_cwS 1 hts (lw_S q609 q610 q24 q611) rfl rfl rfl (by decide +kernel) ⟨Nat.le_of_ble_eq_true rfl, Nat.le_of_ble_eq_true rfl⟩) (pv_ (As := [.ref q_1]) [3] rfl (by decide) hP hK hD hS hA hX) rfl rfl hl.1 rfl (lv_room (Nat.le_of_ble_eq_true rfl)) dX10_hash_27 ⟨Nat.le_of_ble_eq_true rfl, Nat.le_of_ble_eq_true rfl⟩) (fun u_7 H locs hw_8 hP hD hS => ?_)
  have hP : va_P D CL [(hm, .inr (4, [vt, .int zs, .ref mm, .int (nI n), .ref md])), (mm, .inl (dB, 16384, .inl M)), (md, .inl (dN, 32, .inl G)), (q_1, .inl (dL, 5, .inr (.inl (a5 (pm iv0)))))] H := hP
  have hD : va_D A [(hm, .inr (4, [vt, .int zs, .ref mm, .int (nI n), .ref md])), (mm, .inl (dB, 16384, .inl M)), (md, .inl (dN, 32, .inl G)), (q_1, .inl (dL, 5, .inr (.inl (a5 (pm iv0)))))] := hD
  rw [abs_0 (pad_ M n)] at hP hD
  have hP : va_P D CL [(hm, .inr (4, [vt, .int zs, .ref mm, .int (nI n), .ref md])), (mm, .inl (dB, 16384, .inl M)), (md, .inl (dN, 32, .inl G)), (q_1, .inl (dL, 5, .inr (.inl (a5 (abs (pad_ M n) 0)))))] H := hP
  have hD : va_D A [(hm, .inr (4, [vt, .int zs, .ref mm, .int (nI n), .ref md])), (mm, .inl (dB, 16384, .inl M)), (md, .inl (dN, 32, .inl G)), (q_1, .inl (dL, 5, .inr (.inl (a5 (abs (pad_ M n) 0)))))] := hD
  refine lv_aload_n hx hb dX10_hash_30 rfl (lv_at hl 1 rfl) ?_
  refine va_get (D := D) (ci := 4) (v := .int (nI n)) (C := RX10) (T := TX10) (N := 5) hx hb hts in_X10 hown hK hP 0 rfl rfl 3 (by decide) (hts _ q562) (fun _ h9 => h9) rfl dX10_hash_31 ?_
  refine lv_bipush (v := 8) hx hb dX10_hash_34 (by decide) ?_
  refine lv_idiv hx hb dX10_hash_36 (by decide) ?_
  refine nmTi (b := (nI (n / 8))) (pk_div (d := 8) (by omega) (by decide) (by decide)) ?_
  refine lv_iconst (v := 1) hx hb dX10_hash_37 (by decide) ?_
  refine lv_iadd hx hb dX10_hash_38 ?_
  refine nmTi (b := (nI (n / 8 + 1))) (nI_1 _) ?_
  refine lv_istore_n (lv' := [(2, .int (nI (n / 8 + 1))), (1, .ref q_1), (0, .ref hm)]) hx hb dX10_hash_39 rfl hl (by decide) rfl (fun ls hl => ?_)
  refine lv_iconst (v := 0) hx hb dX10_hash_40 (by decide) ?_
  refine lv_istore_n (lv' := [(3, .int 0), (2, .int (nI (n / 8 + 1))), (1, .ref q_1), (0, .ref hm)]) hx hb dX10_hash_41 rfl hl (by decide) rfl (fun ls hl => ?_)
  have hl : lv_has ls 10 [(3, .int (nI 0)), (2, .int (nI (n / 8 + 1))), (1, .ref q_1), (0, .ref hm)] := hl
  refine L_hout hx hb hml hts hown hK hA hX hm mm md q_1 n vt zs M G hn (fun H locs ls hP hD hS hl => ?_) (n / 8 + 1) 0 (by omega) _ _ _ (hP.sub [0, 1, 2, 3] rfl) (hD.sub [0, 1, 2, 3] (by decide) rfl) hS (lv_sub hl [3, 2, 1, 0] rfl)
  refine lv_iconst (v := 0) hx hb dX10_hash_148 (by decide) ?_
  refine lv_istore_n (lv' := [(3, .int 0), (0, .ref hm), (1, .ref q_1), (2, .int (nI (n / 8 + 1)))]) hx hb dX10_hash_149 rfl hl (by decide) rfl (fun ls hl => ?_)
  have hl : lv_has ls 10 [(3, .int (nI 0)), (0, .ref hm), (1, .ref q_1), (2, .int (nI (n / 8 + 1)))] := hl
  have hP : va_P D CL [(hm, .inr (4, [vt, .int zs, .ref mm, .int (nI n), .ref md])), (mm, .inl (dB, 16384, .inl M)), (md, .inl (dN, 32, .inl (dq (hsh M n) G (8 * 0)))), (q_1, .inl (dL, 5, .inr (.inl (a5 (sq (hsh M n) (0 - 1))))))] H := by
    rw [show dq (hsh M n) G (8 * 0) = G from dq_0 _ G]
    exact hP
  have hD : va_D A [(hm, .inr (4, [vt, .int zs, .ref mm, .int (nI n), .ref md])), (mm, .inl (dB, 16384, .inl M)), (md, .inl (dN, 32, .inl (dq (hsh M n) G (8 * 0)))), (q_1, .inl (dL, 5, .inr (.inl (a5 (sq (hsh M n) (0 - 1))))))] := by
    rw [show dq (hsh M n) G (8 * 0) = G from dq_0 _ G]
    exact hD
  refine L_dout hx hb hml hts hown hK hA hX hm mm md q_1 n vt zs M G (hsh M n) (fun H locs ls hP hD hS hl => ?_) 4 0 (by omega) _ _ _ (hP.sub [0, 1, 2, 3] rfl) (hD.sub [0, 1, 2, 3] (by decide) rfl) hS (lv_sub hl [1, 2, 0] rfl)
  exact rt_v hx hb hr hlocks hP hK hD hS dX10_hash_211 () [0, 1, 2] rfl (by decide) trivial

set_option maxHeartbeats 4000000 in
set_option maxRecDepth 100000 in
/-- AsconHashDeskModel.close -/
theorem m_mclose (l : Launch) (D : va_G) (dB dN dL : ClassId) (hm mm md n : Nat) (vt : Value) (zs : Int32) (M G : Nat → Int32) (sz : Nat) (hn : n ≤ 16384) : Ci_ l yX10_close (ws_ yX10_close cX10_close 1 (some .int)) (rm_ 3 1 5 92) D dB dN dL [.ref hm] [(hm, .inr (4, [vt, .int zs, .ref mm, .int (nI n), .ref md])), (mm, .inl (dB, 16384, .inl M)), (md, .inl (dN, 32, .inl G))] sz (S := Unit) (fun r _ => r = 32) (fun _ => [(hm, .inr (4, [vt, .int zs, .ref mm, .int 0, .ref md])), (mm, .inl (dB, 16384, .inl M)), (md, .inl (dN, 32, .inl (dq (hsh M n) G 32)))]) := by
  refine ct_of (cc := cX10_close) (maxL := 1) (ret := (some .int)) (by decide) rfl (Nat.le_of_ble_eq_true rfl) (fun p e s m below meth c A ls hx hb hml hr hlocks hts hown hin hP hK hD hA hX hS hl => ?_)
  have hown : s.vm.findClass RX10 = some m.cls := hown
  have hl : lv_has ls 1 [(0, .ref hm)] := hl
  refine lv_aload_n hx hb dX10_close_0 rfl (lv_at hl 0 rfl) ?_
  refine cl_v [(hm, .inr (4, [vt, .int zs, .ref mm, .int (nI n), .ref md])), (mm, .inl (dB, 16384, .inl M)), (md, .inl (dN, 32, .inl G))] [] [0, 1, 2] [] rfl rfl (by decide) (by decide) hP hD hS hA (va_runV (As := []) (rest := []) ⟨hx, hb, hml, hown, hts⟩ (m_mhash l D dB dN dL hm mm md n vt zs M G _ hn) (cwV 0 hts (lw_V q604 q606 qs5 q24 q607) rfl rfl rfl (by decide +kernel) ⟨Nat.le_of_ble_eq_true rfl, Nat.le_of_ble_eq_true rfl⟩) (pvV (ci := 4) (q0 := 0) (C := RX10) [0, 1, 2] rfl (by decide) hP hK hD hS hA hX rfl rfl) rfl rfl hl.1 rfl (lv_room (Nat.le_of_ble_eq_true rfl)) dX10_close_1 ⟨Nat.le_of_ble_eq_true rfl, Nat.le_of_ble_eq_true rfl⟩) (fun u_1 H locs hw_2 hP hD hS => ?_)
  have hP : va_P D CL [(hm, .inr (4, [vt, .int zs, .ref mm, .int (nI n), .ref md])), (mm, .inl (dB, 16384, .inl M)), (md, .inl (dN, 32, .inl (dq (hsh M n) G 32)))] H := hP
  have hD : va_D A [(hm, .inr (4, [vt, .int zs, .ref mm, .int (nI n), .ref md])), (mm, .inl (dB, 16384, .inl M)), (md, .inl (dN, 32, .inl (dq (hsh M n) G 32)))] := hD
  refine lv_aload_n hx hb dX10_close_4 rfl (lv_at hl 0 rfl) ?_
  refine lv_iconst (v := 0) hx hb dX10_close_5 (by decide) ?_
  refine va_put (D := D) (ci := 4) (v := .int 0) (ty := .int) (C := RX10) (T := TX10) (N := 5) hx hb hts in_X10 tyX10 tyX10_ok nmX10 hown hK hP hD hS 0 rfl rfl 3 (by decide) (hts _ q562) (fun _ h9 => h9) rfl (by decide +kernel) rfl rfl (Nat.le_of_ble_eq_true rfl) dX10_close_6 (fun H locs hP hD hS => ?_)
  have hP : va_P D CL [(hm, .inr (4, [vt, .int zs, .ref mm, .int 0, .ref md])), (mm, .inl (dB, 16384, .inl M)), (md, .inl (dN, 32, .inl (dq (hsh M n) G 32)))] H := hP
  have hD : va_D A [(hm, .inr (4, [vt, .int zs, .ref mm, .int 0, .ref md])), (mm, .inl (dB, 16384, .inl M)), (md, .inl (dN, 32, .inl (dq (hsh M n) G 32)))] := hD
  refine lv_bipush (v := 32) hx hb dX10_close_9 (by decide) ?_
  exact rt_i hx hb hr hlocks hP hK hD hS dX10_close_11 () [0, 1, 2] rfl (by decide) rfl
end
section
/-! the skeleton's own rows, and what stands at the law's entry -/
set_option maxRecDepth 100000
/-! THE CLAIM OUT OF ONE WALK OF THE LAW'S BODY. Your part is whole_start (and what it stands on); all else here is the same for every law, but numbers. -/
def R_law : String := "AsconHashDeskLaw"
def lw_P (b : Addr) (xs : List Int32) (args : Array Value) (s : State) : Prop := args = #[.ref b] ∧ s.IntsAt b xs ∧ xs.length ≤ 288 ∧ (Jvm.Cond.and given_1 narrow_1).before args s = true
def lw_Q (_ : Array Value) (s : State) (o : Outcome) (t : State) : Prop := o = .returned (some (.int 1)) ∧ Framed s o t [] 600096 7301386
def lw_Z (below : List Frame) (a : Array Value) (s : State) : State → Prop := fun t => ∃ o, t.status = .running ∧ Ended t below o ∧ lw_Q a s o t
/-- the law's own end, with 1 on the stack, nothing written that was there before, its room as the claim has it -/
theorem lw_ret {p : Program} {l : Launch} {e : Env} {s : State} {m : MethodId} {below : List Frame} {meth : Method} {c : Code} {b : Nat} (hx : p.tables.exec = Jvm.exec) (hb : c.code = code) (hr : meth.sig.returnType = ret) (hlocks : meth.locks = false) {pc : Nat} {H : Heap} {ls : Array Slot} (hdg : decode code pc = .ok (.ireturn, 1)) : W p l e room_1 s m #[Value.ref b] below meth c H [] 600096 7301386 (lw_Z below #[Value.ref b] s) (F0 m pc ls [.int 1]) := by
  intro T hT X
  obtain ⟨fs, hret, hrun, hended, hW, hframe⟩ := X.leave (v := some (.int 1)) (hlocks := hlocks) (fun h => by rw [hr] at h; cases h)
  have hmeth' : T.vm.method? m = some meth := X.method'
  refine ⟨T.setFrames fs, ?_, .returned (some (.int 1)), hrun, hended, rfl, ⟨_, rfl⟩, hW, hframe⟩
  jvm_step X.here [X.here.top, hx, hb, hdg, hmeth', hr, ret, narrow_b1]
  (try refine ⟨rfl, ?_⟩); (try refine ⟨rfl, ?_⟩)
  first | (intro acts; rw [hret _ acts rfl rfl rfl]) | rw [hret _ _ rfl rfl rfl]
  exact Steps.refl _
/-- what holds at the law's entry: the machine, the code, the tables' words (any of lw_tbl by 'hts w (by decide +kernel)'), the script of L ints xs at the cell b, what the Statement gives of the start (any of its parts by flat_of_before) -/
def lw_At (p : Program) (s : State) (m : MethodId) (meth : Method) (c : Code) (b L : Nat) (xs : Nat → Int32) : Prop :=
  p.tables.exec = Jvm.exec ∧ c.code = code ∧ meth.sig.returnType = ret ∧ c.maxLocals = 4 ∧ s.vm.findClass R_law = some m.cls ∧ (∀ w ∈ lw_tbl, w.before #[Value.ref b] s = true) ∧ va_X b L xs s s.heap ∧ b < s.heap.size ∧ meth.locks = false ∧ (Jvm.Cond.and given_1 narrow_1).before #[Value.ref b] s = true

set_option maxHeartbeats 4000000 in
/-- what the methods ask, at the start -/
theorem xt_start {s : State} {b : Nat} (hts : ∀ w ∈ lw_tbl, w.before #[Value.ref b] s = true) (hgv : (Jvm.Cond.and given_1 narrow_1).before #[Value.ref b] s = true) {A : Nat → Prop} (hA : ∀ a : Nat, a < s.heap.size → ¬ A a) : xt A s s.heap := by
  have hs := flat_of_before _ hgv
  refine ⟨⟨⟨va_Nw.of rfl (hts _ q67), va_Nw.of rfl (hts _ q75), va_Nw.of rfl (hts _ q631)⟩, ⟨va_Nw.of rfl (hts _ q361), va_Nw.of rfl (hts _ q485), va_Nw.of rfl (hts _ q185), va_Nw.of rfl (hts _ q367), va_Nw.of rfl (hts _ q496), va_Nw.of rfl (hts _ q506), va_Nw.of rfl (hts _ q517), va_Nw.of rfl (hts _ q529)⟩, ⟨va_Fw.of (hts _ q294) (hts _ q293) (hts _ q299) (hts _ q297) (hts _ q295), va_Fw.of (hts _ q427) (hts _ q426) (hts _ q431) (hts _ q429) (hts _ q295), va_Fw.of (hts _ q456) (hts _ q455) (hts _ q460) (hts _ q458) (hts _ q295), va_Fw.of (hts _ q545) (hts _ q544) (hts _ q548) (hts _ q547) (hts _ q295)⟩, ⟨va_Fw.of (hts _ q344) (hts _ q343) (hts _ q355) (hts _ q353) (hts _ q351), va_Fw.of (hts _ q409) (hts _ q408) (hts _ q418) (hts _ q416) (hts _ q351), va_Fw.of (hts _ q436) (hts _ q435) (hts _ q446) (hts _ q444) (hts _ q351)⟩, ?_⟩, ?_, ?_, ?_, ?_⟩
  · have h1 : (Cond.exactly (.string "AsconHash256" 7) "java/lang/String").before #[Value.ref b] s = true := hs _ (by decide +kernel)
    obtain ⟨t, c, cell, k, h2, -⟩ := Cond.exactly_spec h1
    exact ⟨t, vk_R.of (hts _ q178) h2⟩
  · have h1 : (Cond.exactly (.static "BufferBaseDigest$ProcessingBufferType" "Immediate" "LBufferBaseDigest$ProcessingBufferType;") "BufferBaseDigest$ProcessingBufferType").before #[Value.ref b] s = true := hs _ (by decide +kernel)
    have h3 : (Cond.eq (.field (.static "BufferBaseDigest$ProcessingBufferType" "Immediate" "LBufferBaseDigest$ProcessingBufferType;") "BufferBaseDigest$ProcessingBufferType" "ord" "I") (.int 1)).before #[Value.ref b] s = true := hs _ (by decide +kernel)
    obtain ⟨t, c, cell, k, h2, -⟩ := Cond.exactly_spec h1
    exact ⟨t, va_Zof (hts _ q49) (hts _ (lw_all_tbl q11)) h2 hA, vk_OFof h2 (va_eqt h3) hA⟩
  · have h1 : (Cond.exactly (.static "AsconBaseDigest$Friend" "INSTANCE" "LAsconBaseDigest$Friend;") "AsconBaseDigest$Friend").before #[Value.ref b] s = true := hs _ (by decide +kernel)
    obtain ⟨t, c, cell, k, h2, -⟩ := Cond.exactly_spec h1
    exact ⟨t, va_Zof (hts _ q76) (hts _ (lw_all_tbl q14)) h2 hA⟩
  · have h1 : (Cond.exactly (.static "ISAPDigest$Friend" "INSTANCE" "LISAPDigest$Friend;") "ISAPDigest$Friend").before #[Value.ref b] s = true := hs _ (by decide +kernel)
    obtain ⟨t, c, cell, k, h2, -⟩ := Cond.exactly_spec h1
    exact ⟨t, va_Zof (hts _ q148) (hts _ (lw_all_tbl q15)) h2 hA⟩
  · have h1 : (Cond.arrayOf (.static "AsconHashDeskModel" "ROUND" "[I") .int).before #[Value.ref b] s = true := hs _ (by decide +kernel)
    have h2 : (Cond.eq (.length (.static "AsconHashDeskModel" "ROUND" "[I")) (.int 12)).before #[Value.ref b] s = true := hs _ (by decide +kernel)
    have h3 : ∀ j : Nat, j < 12 → (Cond.eq (.elem (.static "AsconHashDeskModel" "ROUND" "[I") (.int (Int32.ofNat j))) (.int (rc_ j))).before #[Value.ref b] s = true := by
      intro j hj
      rcases (show j = 0 ∨ j = 1 ∨ j = 2 ∨ j = 3 ∨ j = 4 ∨ j = 5 ∨ j = 6 ∨ j = 7 ∨ j = 8 ∨ j = 9 ∨ j = 10 ∨ j = 11 by omega) with h | h | h | h | h | h | h | h | h | h | h | h <;> subst h <;> exact hs _ (by decide +kernel)
    obtain ⟨t, h4, h5⟩ := va_Tof (ty := .int) (N := 12) (f := fun j => .int (rc_ j)) (by decide) h1 (va_eqt h2) (fun j hj => va_eqt (h3 j hj)) hA
    exact ⟨t, va_Zref (hts _ q613) (hts _ (lw_all_tbl q24)) h4 hA, h5⟩
theorem arr_start {s : State} {b : Nat} {ty : FieldType} (hty : ∀ C, ty ≠ .object C) (hp : refKind ty = false) (h : (Cond.arrayClass ty).before #[Value.ref b] s = true) : ∃ dA : ClassId, ArrOfT s dA ty ∧ va_RA s dA ty := by
  obtain ⟨c, k, comp, h1, h2, h3⟩ := Cond.arrayClass_spec h
  refine ⟨c, fun n z => ⟨fun k h => (by cases h), k, h2, comp, h3⟩, ?_⟩
  cases ty with
  | object C => exact absurd rfl (hty C)
  | _ => exact h1
/-- the classes, at the start -/
theorem K_start {s : State} {b : Nat} (hts : ∀ w ∈ lw_tbl, w.before #[Value.ref b] s = true) : ∃ (D : va_G) (dB dN dL : ClassId), va_K D CL (TY dB dN dL) s := by
  obtain ⟨c0, i0, k0⟩ := u_known (C := RX0) (T := TX0) (N := 5) (n := 5) hts (fun w h => lw_all_tbl (in_X0 w h)) (hts _ (lw_all_tbl q33))
  obtain ⟨c1, i1, k1⟩ := u_known (C := RX3) (T := TX3) (N := 8) (n := 8) hts (fun w h => lw_all_tbl (in_X3 w h)) (hts _ (lw_all_tbl q41))
  obtain ⟨c2, i2, k2⟩ := u_known (C := RX5) (T := TX5) (N := 1) (n := 1) hts (fun w h => lw_all_tbl (in_X5 w h)) (hts _ (lw_all_tbl q66))
  obtain ⟨c3, i3, k3⟩ := u_known (C := RX8) (T := TX8) (N := 5) (n := 5) hts (fun w h => lw_all_tbl (in_X8 w h)) (hts _ (lw_all_tbl q156))
  obtain ⟨c4, i4, k4⟩ := u_known (C := RX10) (T := TX10) (N := 5) (n := 5) hts (fun w h => lw_all_tbl (in_X10 w h)) (hts _ (lw_all_tbl q554))
  obtain ⟨dB, b1, b2⟩ := arr_start (s := s) (b := b) (ty := .byte) (fun _ h => by cases h) rfl (hts _ (lw_all_tbl q64))
  obtain ⟨dN, n1, n2⟩ := arr_start (s := s) (b := b) (ty := .int) (fun _ h => by cases h) rfl (hts _ (lw_all_tbl q575))
  obtain ⟨dL, l1, l2⟩ := arr_start (s := s) (b := b) (ty := .long) (fun _ h => by cases h) rfl (hts _ (lw_all_tbl q619))
  refine ⟨(fun k => if k = 0 then c0 else if k = 1 then c1 else if k = 2 then c2 else if k = 3 then c3 else c4, fun k => if k = 0 then i0 else if k = 1 then i1 else if k = 2 then i2 else if k = 3 then i3 else i4), dB, dN, dL, ?_, ?_⟩
  · intro k q hq
    match k, hq with
    | 0, hq => cases hq; exact k0
    | 1, hq => cases hq; exact k1
    | 2, hq => cases hq; exact k2
    | 3, hq => cases hq; exact k3
    | 4, hq => cases hq; exact k4
    | k + 5, hq => simp at hq
  · intro k q hq
    match k, hq with
    | 0, hq => cases hq; exact ⟨b1, b2⟩
    | 1, hq => cases hq; exact ⟨n1, n2⟩
    | 2, hq => cases hq; exact ⟨l1, l2⟩
    | k + 3, hq => simp at hq
end
section
/-! the law's loop -/
theorem putS_ok {z : Nat} {T : Nat → Int32} {a b c d : Int32} {u : Nat × (Nat → Int32)} (hz : z ≤ 1024) (hfit : sb_Fit T) (h : u = if z + 16 ≤ 1024 then (z + 16, p4 T z a b c d) else (z, T)) : u.1 ≤ 1024 ∧ sb_Fit u.2 := by
  by_cases hc : z + 16 ≤ 1024
  · rw [h, if_pos hc]
    exact ⟨hc, p4_fit hfit z a b c d⟩
  · rw [h, if_neg hc]
    exact ⟨hz, hfit⟩
theorem fd_ok {P : Prop} [Decidable P] {n n' k : Nat} {M M' : Nat → Int32} {x : P5} {buf : Nat → Int32} {u : Nat × (Nat → Int32)} (hk : k = if P then n' else n) (hR : Rp M' k x buf) (hu : u = if P then (n', M') else (n, M)) (hM : ∀ j, j < n → M j = M' j) (hn : n ≤ 16384) (hP : P → n' ≤ 16384) : k = u.1 ∧ u.1 ≤ 16384 ∧ Rp u.2 u.1 x buf := by
  by_cases hc : P
  · rw [if_pos hc] at hk hu
    subst hk
    subst hu
    exact ⟨rfl, hP hc, hR⟩
  · rw [if_neg hc] at hk hu
    subst hk
    subst hu
    exact ⟨rfl, hn, Rp_congr hR hM⟩

set_option maxHeartbeats 4000000 in
set_option maxRecDepth 100000 in
theorem law_end {p : Program} {l : Launch} {e : Env} {s : State} {m : MethodId} {below : List Frame} {meth : Method} {c : Code} {D : va_G} {dB dN dL : ClassId} {A : Nat → Prop} {b L : Nat} {sc : Nat → Int32} (hx : p.tables.exec = Jvm.exec) (hb : c.code = code) (hr : meth.sig.returnType = ret) (hlocks : meth.locks = false) (hml : c.maxLocals = 4) (hts : ∀ w ∈ lw_all, w.before #[Value.ref b] s = true) (hown : s.vm.findClass R_law = some m.cls) (hK : va_K D CL (TY dB dN dL) s) (hA : ∀ q : Nat, s.heap.size ≤ q → A q) (hA2 : ∀ q : Nat, A q → s.heap.size ≤ q) (hX : xt A s s.heap) (hXs : va_X b L sc s s.heap) (hbl : b < s.heap.size) (hL : L ≤ 288) {cells slots : Nat} (h1 : cells ≤ 600096) (h2 : slots ≤ 7301386) {H : Heap} {locs : List Loc} {ls : Array Slot} (hS : va_S A s.heap H locs) : W p l e room_1 s m #[Value.ref b] below meth c H locs cells slots (lw_Z below #[Value.ref b] s) (F0 m 284 ls []) := by
  refine lv_iconst (v := 1) hx hb dL_law_284 (by decide) ?_
  refine va_forget (fun q hq => hA2 _ (hS.2.2 q hq)) ?_
  refine W.widen (k := 600096) (n := 7301386) h1 h2 ?_
  exact lw_ret hx hb hr hlocks dL_law_285

theorem gt_6 {a L : Nat} (ha : a < 2 ^ 30) (hL : L < 2 ^ 30) : nI L - 6 < nI a ↔ L < a + 6 := by
  rw [Int32.lt_iff_toInt_lt, show (6 : Int32) = nI 6 from rfl, pk_sub_toInt hL (by decide), nI_toInt (by omega)]
  omega

set_option maxHeartbeats 4000000 in
set_option maxRecDepth 100000 in
theorem law_loop {p : Program} {l : Launch} {e : Env} {s : State} {m : MethodId} {below : List Frame} {meth : Method} {c : Code} {D : va_G} {dB dN dL : ClassId} {A : Nat → Prop} {b L : Nat} {sc : Nat → Int32} (hx : p.tables.exec = Jvm.exec) (hb : c.code = code) (hr : meth.sig.returnType = ret) (hlocks : meth.locks = false) (hml : c.maxLocals = 4) (hts : ∀ w ∈ lw_all, w.before #[Value.ref b] s = true) (hown : s.vm.findClass R_law = some m.cls) (hK : va_K D CL (TY dB dN dL) s) (hA : ∀ q : Nat, s.heap.size ≤ q → A q) (hA2 : ∀ q : Nat, A q → s.heap.size ≤ q) (hX : xt A s s.heap) (hXs : va_X b L sc s s.heap) (hbl : b < s.heap.size) (hL : L ≤ 288) (hd ho ht hm mt mm md : Nat) :
    ∀ (d j : Nat) (hH qb qa qi qp z n : Nat) (T M oo G buf : Nat → Int32) (x : P5), j + d = 49 → z ≤ 1024 → n ≤ 16384 → sb_Fit T → Rp M n x buf → (∀ q, q < 32 → oo q &&& 255 = G q) → WG p l e room_1 s m #[Value.ref b] below meth c D A (12 + 5 * j) (20000 + 30 * j) (lw_Z below #[Value.ref b] s) 4 [(hd, .inr (0, [.ref hH, .ref ho, .int (nI n), .ref ht, .int (nI z)])), (hH, .inr (1, [.int 32, .int 8, .ref qb, .int (nI (n % 8)), .ref qa, .ref qi, .ref qp, .int 12])), (qb, .inl (dB, 8, .inl buf)), (qi, .inr (2, [.ref hH])), (qp, .inr (3, [.long x.1, .long x.2.1, .long x.2.2.1, .long x.2.2.2.1, .long x.2.2.2.2])), (ho, .inl (dB, 32, .inl oo)), (ht, .inl (dB, 1024, .inl T)), (hm, .inr (4, [.ref mt, .int (nI z), .ref mm, .int (nI n), .ref md])), (mt, .inl (dB, 1024, .inl T)), (mm, .inl (dB, 16384, .inl M)), (md, .inl (dN, 32, .inl G))] [(0, .ref b), (1, .ref hd), (2, .ref hm), (3, .int (nI (6 * j)))] 18 := by
  intro d
  induction d with
  | zero =>
    intro j hH qb qa qi qp z n T M oo G buf x hj hz hn hfit hR hog H locs ls hP hD hS hl
    refine lv_iload_n hx hb dL_law_18 rfl (lv_at hl 3 rfl) ?_
    refine lv_aload_n hx hb dL_law_19 rfl (lv_at hl 0 rfl) ?_
    refine va_slen hx hb hXs hbl (fun q => absurd (hA2 b q) (Nat.not_le.mpr hbl)) hS dL_law_20 ?_
    refine lv_bipush (v := 6) hx hb dL_law_21 (by decide) ?_
    refine lv_isub hx hb dL_law_23 ?_
    refine lv_icmp_gt (tgt := 284) hx hb dL_law_24 (by decide) (fun _ => ?_) (fun c_a1 => absurd ((gt_6 (by omega) (by omega)).mpr (by omega)) c_a1)
    exact law_end hx hb hr hlocks hml hts hown hK hA hA2 hX hXs hbl hL (by omega) (by omega) hS
  | succ d ih =>
    intro j hH qb qa qi qp z n T M oo G buf x hj hz hn hfit hR hog H locs ls hP hD hS hl
    refine lv_iload_n hx hb dL_law_18 rfl (lv_at hl 3 rfl) ?_
    refine lv_aload_n hx hb dL_law_19 rfl (lv_at hl 0 rfl) ?_
    refine va_slen hx hb hXs hbl (fun q => absurd (hA2 b q) (Nat.not_le.mpr hbl)) hS dL_law_20 ?_
    refine lv_bipush (v := 6) hx hb dL_law_21 (by decide) ?_
    refine lv_isub hx hb dL_law_23 ?_
    refine lv_icmp_gt (tgt := 284) hx hb dL_law_24 (by decide) (fun c_b1 => ?_) (fun c_b1 => ?_)
    · exact law_end hx hb hr hlocks hml hts hown hK hA hA2 hX hXs hbl hL (by omega) (by omega) hS
    · skip
      have h6 : 6 * j + 6 ≤ L := Nat.not_lt.mp (fun q => c_b1 ((gt_6 (by omega) (by omega)).mpr q))
      refine lv_aload_n hx hb dL_law_27 rfl (lv_at hl 0 rfl) ?_
      refine lv_iload_n hx hb dL_law_28 rfl (lv_at hl 3 rfl) ?_
      refine va_sld hx hb hXs hbl (fun q => absurd (hA2 b q) (Nat.not_le.mpr hbl)) hS (vp_in_nI (by omega) (by omega)) dL_law_29 ?_
      refine nmTi (b := (sc (6 * j))) (cl_f sc (by omega)) ?_
      refine lv_bipush (v := 7) hx hb dL_law_30 (by decide) ?_
      refine lv_iand hx hb dL_law_32 ?_
      obtain ⟨q, hq8, eq8⟩ := pk_andE (sc (6 * j)) (m := 7) 3 (by decide)
      refine nmTi (b := (nI q)) eq8 ?_
      rcases (show q = 0 ∨ q = 1 ∨ q = 2 ∨ q = 3 ∨ q = 4 ∨ q = 5 ∨ q = 6 ∨ q = 7 by omega) with h | h | h | h | h | h | h | h
      · skip
        subst h
        refine lv_tableIn (off := 47) (tgt := 80) hx hb dL_law_33 (by decide) (by decide) (by decide) (by decide) ?_
        refine lv_aload_n hx hb dL_law_80 rfl (lv_at hl 1 rfl) ?_
        refine lv_aload_n hx hb dL_law_81 rfl (lv_at hl 0 rfl) ?_
        refine lv_iload_n hx hb dL_law_82 rfl (lv_at hl 3 rfl) ?_
        refine lv_iconst (v := 1) hx hb dL_law_83 (by decide) ?_
        refine lv_iadd hx hb dL_law_84 ?_
        refine nmTi (b := (nI (6 * j + 1))) (nI_add (6 * j) 1) ?_
        refine va_sld hx hb hXs hbl (fun q => absurd (hA2 b q) (Nat.not_le.mpr hbl)) hS (vp_in_nI (by omega) (by omega)) dL_law_85 ?_
        refine nmTi (b := (sc (6 * j + 1))) (cl_f sc (by omega)) ?_
        refine lv_aload_n hx hb dL_law_86 rfl (lv_at hl 0 rfl) ?_
        refine lv_iload_n hx hb dL_law_87 rfl (lv_at hl 3 rfl) ?_
        refine lv_iconst (v := 2) hx hb dL_law_88 (by decide) ?_
        refine lv_iadd hx hb dL_law_89 ?_
        refine nmTi (b := (nI (6 * j + 2))) (nI_add (6 * j) 2) ?_
        refine va_sld hx hb hXs hbl (fun q => absurd (hA2 b q) (Nat.not_le.mpr hbl)) hS (vp_in_nI (by omega) (by omega)) dL_law_90 ?_
        refine nmTi (b := (sc (6 * j + 2))) (cl_f sc (by omega)) ?_
        refine lv_aload_n hx hb dL_law_91 rfl (lv_at hl 0 rfl) ?_
        refine lv_iload_n hx hb dL_law_92 rfl (lv_at hl 3 rfl) ?_
        refine lv_iconst (v := 3) hx hb dL_law_93 (by decide) ?_
        refine lv_iadd hx hb dL_law_94 ?_
        refine nmTi (b := (nI (6 * j + 3))) (nI_add (6 * j) 3) ?_
        refine va_sld hx hb hXs hbl (fun q => absurd (hA2 b q) (Nat.not_le.mpr hbl)) hS (vp_in_nI (by omega) (by omega)) dL_law_95 ?_
        refine nmTi (b := (sc (6 * j + 3))) (cl_f sc (by omega)) ?_
        refine lv_aload_n hx hb dL_law_96 rfl (lv_at hl 0 rfl) ?_
        refine lv_iload_n hx hb dL_law_97 rfl (lv_at hl 3 rfl) ?_
        refine lv_iconst (v := 4) hx hb dL_law_98 (by decide) ?_
        refine lv_iadd hx hb dL_law_99 ?_
        refine nmTi (b := (nI (6 * j + 4))) (nI_add (6 * j) 4) ?_
        refine va_sld hx hb hXs hbl (fun q => absurd (hA2 b q) (Nat.not_le.mpr hbl)) hS (vp_in_nI (by omega) (by omega)) dL_law_100 ?_
        refine nmTi (b := (sc (6 * j + 4))) (cl_f sc (by omega)) ?_
        refine cl_i [(hd, .inr (0, [.ref hH, .ref ho, .int (nI n), .ref ht, .int (nI z)])), (ht, .inl (dB, 1024, .inl T))] [(hH, .inr (1, [.int 32, .int 8, .ref qb, .int (nI (n % 8)), .ref qa, .ref qi, .ref qp, .int 12])), (qb, .inl (dB, 8, .inl buf)), (qi, .inr (2, [.ref hH])), (qp, .inr (3, [.long x.1, .long x.2.1, .long x.2.2.1, .long x.2.2.2.1, .long x.2.2.2.2])), (ho, .inl (dB, 32, .inl oo)), (hm, .inr (4, [.ref mt, .int (nI z), .ref mm, .int (nI n), .ref md])), (mt, .inl (dB, 1024, .inl T)), (mm, .inl (dB, 16384, .inl M)), (md, .inl (dN, 32, .inl G))] [0, 6] [1, 2, 3, 4, 5, 7, 8, 9, 10] rfl rfl (by decide) (by decide) hP hD hS hA (va_runV (As := [.int (sc (6 * j + 1)), .int (sc (6 * j + 2)), .int (sc (6 * j + 3)), .int (sc (6 * j + 4))]) (rest := []) ⟨hx, hb, hml, hown, hts⟩ (m_put l D dB dN dL hd ht z (.ref hH) (.ref ho) (nI n) T (sc (6 * j + 1)) (sc (6 * j + 2)) (sc (6 * j + 3)) (sc (6 * j + 4)) _ hz) (cwV 4 hts (lw_V q262 q263 q264 q7 q265) rfl rfl rfl (by decide +kernel) ⟨Nat.le_of_ble_eq_true rfl, Nat.le_of_ble_eq_true rfl⟩) (pvV (ci := 0) (q0 := 0) (C := RX0) [0, 6] rfl (by decide) hP hK hD hS hA hX rfl rfl) rfl rfl hl.1 rfl (lv_room (Nat.le_of_ble_eq_true rfl)) dL_law_101 ⟨(show 12 + 5 * j + 0 ≤ 600096 by omega), (show 20000 + 30 * j + 0 ≤ 7301386 by omega)⟩) (fun r_k04 u_k02 H locs hw_k03 hP hD hS => ?_)
        have hP : va_P D CL [(hH, .inr (1, [.int 32, .int 8, .ref qb, .int (nI (n % 8)), .ref qa, .ref qi, .ref qp, .int 12])), (qb, .inl (dB, 8, .inl buf)), (qi, .inr (2, [.ref hH])), (qp, .inr (3, [.long x.1, .long x.2.1, .long x.2.2.1, .long x.2.2.2.1, .long x.2.2.2.2])), (ho, .inl (dB, 32, .inl oo)), (hm, .inr (4, [.ref mt, .int (nI z), .ref mm, .int (nI n), .ref md])), (mt, .inl (dB, 1024, .inl T)), (mm, .inl (dB, 16384, .inl M)), (md, .inl (dN, 32, .inl G)), (hd, .inr (0, [.ref hH, .ref ho, .int (nI n), .ref ht, .int (nI u_k02.1)])), (ht, .inl (dB, 1024, .inl u_k02.2))] H := hP
        have hD : va_D A [(hH, .inr (1, [.int 32, .int 8, .ref qb, .int (nI (n % 8)), .ref qa, .ref qi, .ref qp, .int 12])), (qb, .inl (dB, 8, .inl buf)), (qi, .inr (2, [.ref hH])), (qp, .inr (3, [.long x.1, .long x.2.1, .long x.2.2.1, .long x.2.2.2.1, .long x.2.2.2.2])), (ho, .inl (dB, 32, .inl oo)), (hm, .inr (4, [.ref mt, .int (nI z), .ref mm, .int (nI n), .ref md])), (mt, .inl (dB, 1024, .inl T)), (mm, .inl (dB, 16384, .inl M)), (md, .inl (dN, 32, .inl G)), (hd, .inr (0, [.ref hH, .ref ho, .int (nI n), .ref ht, .int (nI u_k02.1)])), (ht, .inl (dB, 1024, .inl u_k02.2))] := hD
        refine lv_aload_n hx hb dL_law_104 rfl (lv_at hl 2 rfl) ?_
        refine lv_aload_n hx hb dL_law_105 rfl (lv_at hl 0 rfl) ?_
        refine lv_iload_n hx hb dL_law_106 rfl (lv_at hl 3 rfl) ?_
        refine lv_iconst (v := 1) hx hb dL_law_107 (by decide) ?_
        refine lv_iadd hx hb dL_law_108 ?_
        refine nmTi (b := (nI (6 * j + 1))) (nI_add (6 * j) 1) ?_
        refine va_sld hx hb hXs hbl (fun q => absurd (hA2 b q) (Nat.not_le.mpr hbl)) hS (vp_in_nI (by omega) (by omega)) dL_law_109 ?_
        refine nmTi (b := (sc (6 * j + 1))) (cl_f sc (by omega)) ?_
        refine lv_aload_n hx hb dL_law_110 rfl (lv_at hl 0 rfl) ?_
        refine lv_iload_n hx hb dL_law_111 rfl (lv_at hl 3 rfl) ?_
        refine lv_iconst (v := 2) hx hb dL_law_112 (by decide) ?_
        refine lv_iadd hx hb dL_law_113 ?_
        refine nmTi (b := (nI (6 * j + 2))) (nI_add (6 * j) 2) ?_
        refine va_sld hx hb hXs hbl (fun q => absurd (hA2 b q) (Nat.not_le.mpr hbl)) hS (vp_in_nI (by omega) (by omega)) dL_law_114 ?_
        refine nmTi (b := (sc (6 * j + 2))) (cl_f sc (by omega)) ?_
        refine lv_aload_n hx hb dL_law_115 rfl (lv_at hl 0 rfl) ?_
        refine lv_iload_n hx hb dL_law_116 rfl (lv_at hl 3 rfl) ?_
        refine lv_iconst (v := 3) hx hb dL_law_117 (by decide) ?_
        refine lv_iadd hx hb dL_law_118 ?_
        refine nmTi (b := (nI (6 * j + 3))) (nI_add (6 * j) 3) ?_
        refine va_sld hx hb hXs hbl (fun q => absurd (hA2 b q) (Nat.not_le.mpr hbl)) hS (vp_in_nI (by omega) (by omega)) dL_law_119 ?_
        refine nmTi (b := (sc (6 * j + 3))) (cl_f sc (by omega)) ?_
        refine lv_aload_n hx hb dL_law_120 rfl (lv_at hl 0 rfl) ?_
        refine lv_iload_n hx hb dL_law_121 rfl (lv_at hl 3 rfl) ?_
        refine lv_iconst (v := 4) hx hb dL_law_122 (by decide) ?_
        refine lv_iadd hx hb dL_law_123 ?_
        refine nmTi (b := (nI (6 * j + 4))) (nI_add (6 * j) 4) ?_
        refine va_sld hx hb hXs hbl (fun q => absurd (hA2 b q) (Nat.not_le.mpr hbl)) hS (vp_in_nI (by omega) (by omega)) dL_law_124 ?_
        refine nmTi (b := (sc (6 * j + 4))) (cl_f sc (by omega)) ?_
        refine cl_i [(hm, .inr (4, [.ref mt, .int (nI z), .ref mm, .int (nI n), .ref md])), (mt, .inl (dB, 1024, .inl T))] [(hH, .inr (1, [.int 32, .int 8, .ref qb, .int (nI (n % 8)), .ref qa, .ref qi, .ref qp, .int 12])), (qb, .inl (dB, 8, .inl buf)), (qi, .inr (2, [.ref hH])), (qp, .inr (3, [.long x.1, .long x.2.1, .long x.2.2.1, .long x.2.2.2.1, .long x.2.2.2.2])), (ho, .inl (dB, 32, .inl oo)), (mm, .inl (dB, 16384, .inl M)), (md, .inl (dN, 32, .inl G)), (hd, .inr (0, [.ref hH, .ref ho, .int (nI n), .ref ht, .int (nI u_k02.1)])), (ht, .inl (dB, 1024, .inl u_k02.2))] [5, 6] [0, 1, 2, 3, 4, 7, 8, 9, 10] rfl rfl (by decide) (by decide) hP hD hS hA (va_runV (As := [.int (sc (6 * j + 1)), .int (sc (6 * j + 2)), .int (sc (6 * j + 3)), .int (sc (6 * j + 4))]) (rest := [.int r_k04]) ⟨hx, hb, hml, hown, hts⟩ (m_mput l D dB dN dL hm mt z (.ref mm) (.ref md) (nI n) T (sc (6 * j + 1)) (sc (6 * j + 2)) (sc (6 * j + 3)) (sc (6 * j + 4)) _ hz) (cwV 4 hts (lw_V q576 q577 q578 q24 q579) rfl rfl rfl (by decide +kernel) ⟨Nat.le_of_ble_eq_true rfl, Nat.le_of_ble_eq_true rfl⟩) (pvV (ci := 4) (q0 := 5) (C := RX10) [5, 6] rfl (by decide) hP hK hD hS hA hX rfl rfl) rfl rfl hl.1 rfl (lv_room (Nat.le_of_ble_eq_true rfl)) dL_law_125 ⟨(show 12 + 5 * j + 0 + 1 ≤ 600096 by omega), (show 20000 + 30 * j + 0 + 4 ≤ 7301386 by omega)⟩) (fun r_k07 u_k05 H locs hw_k06 hP hD hS => ?_)
        have hP : va_P D CL [(hH, .inr (1, [.int 32, .int 8, .ref qb, .int (nI (n % 8)), .ref qa, .ref qi, .ref qp, .int 12])), (qb, .inl (dB, 8, .inl buf)), (qi, .inr (2, [.ref hH])), (qp, .inr (3, [.long x.1, .long x.2.1, .long x.2.2.1, .long x.2.2.2.1, .long x.2.2.2.2])), (ho, .inl (dB, 32, .inl oo)), (mm, .inl (dB, 16384, .inl M)), (md, .inl (dN, 32, .inl G)), (hd, .inr (0, [.ref hH, .ref ho, .int (nI n), .ref ht, .int (nI u_k02.1)])), (ht, .inl (dB, 1024, .inl u_k02.2)), (hm, .inr (4, [.ref mt, .int (nI u_k05.1), .ref mm, .int (nI n), .ref md])), (mt, .inl (dB, 1024, .inl u_k05.2))] H := hP
        have hD : va_D A [(hH, .inr (1, [.int 32, .int 8, .ref qb, .int (nI (n % 8)), .ref qa, .ref qi, .ref qp, .int 12])), (qb, .inl (dB, 8, .inl buf)), (qi, .inr (2, [.ref hH])), (qp, .inr (3, [.long x.1, .long x.2.1, .long x.2.2.1, .long x.2.2.2.1, .long x.2.2.2.2])), (ho, .inl (dB, 32, .inl oo)), (mm, .inl (dB, 16384, .inl M)), (md, .inl (dN, 32, .inl G)), (hd, .inr (0, [.ref hH, .ref ho, .int (nI n), .ref ht, .int (nI u_k02.1)])), (ht, .inl (dB, 1024, .inl u_k02.2)), (hm, .inr (4, [.ref mt, .int (nI u_k05.1), .ref mm, .int (nI n), .ref md])), (mt, .inl (dB, 1024, .inl u_k05.2))] := hD
        refine lv_icmp_eq (tgt := 278) hx hb dL_law_128 (by decide) (fun _ => ?_) (fun c_k08 => absurd (hw_k03.1.trans hw_k06.1.symm) c_k08)
        have eu : u_k05 = u_k02 := hw_k06.2.trans hw_k03.2.symm
        subst eu
        obtain ⟨hz1, hfit1⟩ := putS_ok hz hfit hw_k06.2
        have hP : va_P D CL [(hH, .inr (1, [.int 32, .int 8, .ref qb, .int (nI (n % 8)), .ref qa, .ref qi, .ref qp, .int 12])), (qb, .inl (dB, 8, .inl buf)), (qi, .inr (2, [.ref hH])), (qp, .inr (3, [.long x.1, .long x.2.1, .long x.2.2.1, .long x.2.2.2.1, .long x.2.2.2.2])), (ho, .inl (dB, 32, .inl oo)), (mm, .inl (dB, 16384, .inl M)), (md, .inl (dN, 32, .inl G)), (hd, .inr (0, [.ref hH, .ref ho, .int (nI n), .ref ht, .int (nI u_k05.1)])), (ht, .inl (dB, 1024, .inl u_k05.2)), (hm, .inr (4, [.ref mt, .int (nI u_k05.1), .ref mm, .int (nI n), .ref md])), (mt, .inl (dB, 1024, .inl u_k05.2))] H := hP
        have hD : va_D A [(hH, .inr (1, [.int 32, .int 8, .ref qb, .int (nI (n % 8)), .ref qa, .ref qi, .ref qp, .int 12])), (qb, .inl (dB, 8, .inl buf)), (qi, .inr (2, [.ref hH])), (qp, .inr (3, [.long x.1, .long x.2.1, .long x.2.2.1, .long x.2.2.2.1, .long x.2.2.2.2])), (ho, .inl (dB, 32, .inl oo)), (mm, .inl (dB, 16384, .inl M)), (md, .inl (dN, 32, .inl G)), (hd, .inr (0, [.ref hH, .ref ho, .int (nI n), .ref ht, .int (nI u_k05.1)])), (ht, .inl (dB, 1024, .inl u_k05.2)), (hm, .inr (4, [.ref mt, .int (nI u_k05.1), .ref mm, .int (nI n), .ref md])), (mt, .inl (dB, 1024, .inl u_k05.2))] := hD
        refine lv_iinc (v := (nI (6 * (j + 1)))) (lv' := [(3, .int (nI (6 * (j + 1)))), (0, .ref b), (1, .ref hd), (2, .ref hm)]) hx hb dL_law_278 hl (k := 3) rfl (ii6 _) (by decide) rfl (fun ls hl => ?_)
        refine lv_goto (tgt := 18) hx hb dL_law_281 (by decide) ?_
        refine W.widen (k := 12 + 5 * (j + 1)) (n := 20000 + 30 * (j + 1)) (show 12 + 5 * j + 0 + 1 ≤ _ by omega) (show 20000 + 30 * j + 0 + 4 ≤ _ by omega) ?_
        exact ih (j + 1) hH qb qa qi qp u_k05.1 n u_k05.2 M oo G buf x (by omega) hz1 hn hfit1 hR hog _ _ _ (hP.sub [7, 0, 1, 2, 3, 4, 8, 9, 10, 5, 6] rfl) (hD.sub [7, 0, 1, 2, 3, 4, 8, 9, 10, 5, 6] (by decide) rfl) hS (lv_sub hl [1, 2, 3, 0] rfl)
      · skip
        subst h
        refine lv_tableIn (off := 100) (tgt := 133) hx hb dL_law_33 (by decide) (by decide) (by decide) (by decide) ?_
        refine lv_aload_n hx hb dL_law_133 rfl (lv_at hl 1 rfl) ?_
        refine lv_aload_n hx hb dL_law_134 rfl (lv_at hl 0 rfl) ?_
        refine lv_iload_n hx hb dL_law_135 rfl (lv_at hl 3 rfl) ?_
        refine lv_iconst (v := 1) hx hb dL_law_136 (by decide) ?_
        refine lv_iadd hx hb dL_law_137 ?_
        refine nmTi (b := (nI (6 * j + 1))) (nI_add (6 * j) 1) ?_
        refine va_sld hx hb hXs hbl (fun q => absurd (hA2 b q) (Nat.not_le.mpr hbl)) hS (vp_in_nI (by omega) (by omega)) dL_law_138 ?_
        refine nmTi (b := (sc (6 * j + 1))) (cl_f sc (by omega)) ?_
        refine cl_v [(hd, .inr (0, [.ref hH, .ref ho, .int (nI n), .ref ht, .int (nI z)]))] [(hH, .inr (1, [.int 32, .int 8, .ref qb, .int (nI (n % 8)), .ref qa, .ref qi, .ref qp, .int 12])), (qb, .inl (dB, 8, .inl buf)), (qi, .inr (2, [.ref hH])), (qp, .inr (3, [.long x.1, .long x.2.1, .long x.2.2.1, .long x.2.2.2.1, .long x.2.2.2.2])), (ho, .inl (dB, 32, .inl oo)), (ht, .inl (dB, 1024, .inl T)), (hm, .inr (4, [.ref mt, .int (nI z), .ref mm, .int (nI n), .ref md])), (mt, .inl (dB, 1024, .inl T)), (mm, .inl (dB, 16384, .inl M)), (md, .inl (dN, 32, .inl G))] [0] [1, 2, 3, 4, 5, 6, 7, 8, 9, 10] rfl rfl (by decide) (by decide) hP hD hS hA (va_runV (As := [.int (sc (6 * j + 1))]) (rest := []) ⟨hx, hb, hml, hown, hts⟩ (m_trim l D dB dN dL hd z (.ref hH) (.ref ho) (.ref ht) (nI n) (sc (6 * j + 1)) _ hz) (cwV 1 hts (lw_V q270 q271 q272 q7 q273) rfl rfl rfl (by decide +kernel) ⟨Nat.le_of_ble_eq_true rfl, Nat.le_of_ble_eq_true rfl⟩) (pvV (ci := 0) (q0 := 0) (C := RX0) [0] rfl (by decide) hP hK hD hS hA hX rfl rfl) rfl rfl hl.1 rfl (lv_room (Nat.le_of_ble_eq_true rfl)) dL_law_139 ⟨(show 12 + 5 * j + 0 ≤ 600096 by omega), (show 20000 + 30 * j + 0 ≤ 7301386 by omega)⟩) (fun u_k12 H locs hw_k13 hP hD hS => ?_)
        have hP : va_P D CL [(hH, .inr (1, [.int 32, .int 8, .ref qb, .int (nI (n % 8)), .ref qa, .ref qi, .ref qp, .int 12])), (qb, .inl (dB, 8, .inl buf)), (qi, .inr (2, [.ref hH])), (qp, .inr (3, [.long x.1, .long x.2.1, .long x.2.2.1, .long x.2.2.2.1, .long x.2.2.2.2])), (ho, .inl (dB, 32, .inl oo)), (ht, .inl (dB, 1024, .inl T)), (hm, .inr (4, [.ref mt, .int (nI z), .ref mm, .int (nI n), .ref md])), (mt, .inl (dB, 1024, .inl T)), (mm, .inl (dB, 16384, .inl M)), (md, .inl (dN, 32, .inl G)), (hd, .inr (0, [.ref hH, .ref ho, .int (nI n), .ref ht, .int (nI (fo (sc (6 * j + 1)) (z + 1)))]))] H := hP
        have hD : va_D A [(hH, .inr (1, [.int 32, .int 8, .ref qb, .int (nI (n % 8)), .ref qa, .ref qi, .ref qp, .int 12])), (qb, .inl (dB, 8, .inl buf)), (qi, .inr (2, [.ref hH])), (qp, .inr (3, [.long x.1, .long x.2.1, .long x.2.2.1, .long x.2.2.2.1, .long x.2.2.2.2])), (ho, .inl (dB, 32, .inl oo)), (ht, .inl (dB, 1024, .inl T)), (hm, .inr (4, [.ref mt, .int (nI z), .ref mm, .int (nI n), .ref md])), (mt, .inl (dB, 1024, .inl T)), (mm, .inl (dB, 16384, .inl M)), (md, .inl (dN, 32, .inl G)), (hd, .inr (0, [.ref hH, .ref ho, .int (nI n), .ref ht, .int (nI (fo (sc (6 * j + 1)) (z + 1)))]))] := hD
        refine lv_aload_n hx hb dL_law_142 rfl (lv_at hl 2 rfl) ?_
        refine lv_aload_n hx hb dL_law_143 rfl (lv_at hl 0 rfl) ?_
        refine lv_iload_n hx hb dL_law_144 rfl (lv_at hl 3 rfl) ?_
        refine lv_iconst (v := 1) hx hb dL_law_145 (by decide) ?_
        refine lv_iadd hx hb dL_law_146 ?_
        refine nmTi (b := (nI (6 * j + 1))) (nI_add (6 * j) 1) ?_
        refine va_sld hx hb hXs hbl (fun q => absurd (hA2 b q) (Nat.not_le.mpr hbl)) hS (vp_in_nI (by omega) (by omega)) dL_law_147 ?_
        refine nmTi (b := (sc (6 * j + 1))) (cl_f sc (by omega)) ?_
        refine cl_v [(hm, .inr (4, [.ref mt, .int (nI z), .ref mm, .int (nI n), .ref md]))] [(hH, .inr (1, [.int 32, .int 8, .ref qb, .int (nI (n % 8)), .ref qa, .ref qi, .ref qp, .int 12])), (qb, .inl (dB, 8, .inl buf)), (qi, .inr (2, [.ref hH])), (qp, .inr (3, [.long x.1, .long x.2.1, .long x.2.2.1, .long x.2.2.2.1, .long x.2.2.2.2])), (ho, .inl (dB, 32, .inl oo)), (ht, .inl (dB, 1024, .inl T)), (mt, .inl (dB, 1024, .inl T)), (mm, .inl (dB, 16384, .inl M)), (md, .inl (dN, 32, .inl G)), (hd, .inr (0, [.ref hH, .ref ho, .int (nI n), .ref ht, .int (nI (fo (sc (6 * j + 1)) (z + 1)))]))] [6] [0, 1, 2, 3, 4, 5, 7, 8, 9, 10] rfl rfl (by decide) (by decide) hP hD hS hA (va_runV (As := [.int (sc (6 * j + 1))]) (rest := []) ⟨hx, hb, hml, hown, hts⟩ (m_mtrim l D dB dN dL hm z (.ref mt) (.ref mm) (.ref md) (nI n) (sc (6 * j + 1)) _ hz) (cwV 1 hts (lw_V q580 q581 q582 q24 q583) rfl rfl rfl (by decide +kernel) ⟨Nat.le_of_ble_eq_true rfl, Nat.le_of_ble_eq_true rfl⟩) (pvV (ci := 4) (q0 := 6) (C := RX10) [6] rfl (by decide) hP hK hD hS hA hX rfl rfl) rfl rfl hl.1 rfl (lv_room (Nat.le_of_ble_eq_true rfl)) dL_law_148 ⟨(show 12 + 5 * j + 0 + 0 ≤ 600096 by omega), (show 20000 + 30 * j + 0 + 0 ≤ 7301386 by omega)⟩) (fun u_k15 H locs hw_k16 hP hD hS => ?_)
        have hP : va_P D CL [(hH, .inr (1, [.int 32, .int 8, .ref qb, .int (nI (n % 8)), .ref qa, .ref qi, .ref qp, .int 12])), (qb, .inl (dB, 8, .inl buf)), (qi, .inr (2, [.ref hH])), (qp, .inr (3, [.long x.1, .long x.2.1, .long x.2.2.1, .long x.2.2.2.1, .long x.2.2.2.2])), (ho, .inl (dB, 32, .inl oo)), (ht, .inl (dB, 1024, .inl T)), (mt, .inl (dB, 1024, .inl T)), (mm, .inl (dB, 16384, .inl M)), (md, .inl (dN, 32, .inl G)), (hd, .inr (0, [.ref hH, .ref ho, .int (nI n), .ref ht, .int (nI (fo (sc (6 * j + 1)) (z + 1)))])), (hm, .inr (4, [.ref mt, .int (nI (fo (sc (6 * j + 1)) (z + 1))), .ref mm, .int (nI n), .ref md]))] H := hP
        have hD : va_D A [(hH, .inr (1, [.int 32, .int 8, .ref qb, .int (nI (n % 8)), .ref qa, .ref qi, .ref qp, .int 12])), (qb, .inl (dB, 8, .inl buf)), (qi, .inr (2, [.ref hH])), (qp, .inr (3, [.long x.1, .long x.2.1, .long x.2.2.1, .long x.2.2.2.1, .long x.2.2.2.2])), (ho, .inl (dB, 32, .inl oo)), (ht, .inl (dB, 1024, .inl T)), (mt, .inl (dB, 1024, .inl T)), (mm, .inl (dB, 16384, .inl M)), (md, .inl (dN, 32, .inl G)), (hd, .inr (0, [.ref hH, .ref ho, .int (nI n), .ref ht, .int (nI (fo (sc (6 * j + 1)) (z + 1)))])), (hm, .inr (4, [.ref mt, .int (nI (fo (sc (6 * j + 1)) (z + 1))), .ref mm, .int (nI n), .ref md]))] := hD
        refine lv_goto (tgt := 278) hx hb dL_law_151 (by decide) ?_
        have hz1 : fo (sc (6 * j + 1)) (z + 1) ≤ 1024 := by
          have := fo_lt (sc (6 * j + 1)) (show 0 < z + 1 by omega)
          omega
        refine lv_iinc (v := (nI (6 * (j + 1)))) (lv' := [(3, .int (nI (6 * (j + 1)))), (0, .ref b), (1, .ref hd), (2, .ref hm)]) hx hb dL_law_278 hl (k := 3) rfl (ii6 _) (by decide) rfl (fun ls hl => ?_)
        refine lv_goto (tgt := 18) hx hb dL_law_281 (by decide) ?_
        refine W.widen (k := 12 + 5 * (j + 1)) (n := 20000 + 30 * (j + 1)) (show 12 + 5 * j + 0 + 0 ≤ _ by omega) (show 20000 + 30 * j + 0 + 0 ≤ _ by omega) ?_
        exact ih (j + 1) hH qb qa qi qp ((fo (sc (6 * j + 1)) (z + 1))) n T M oo G buf x (by omega) hz1 hn hfit hR hog _ _ _ (hP.sub [9, 0, 1, 2, 3, 4, 5, 10, 6, 7, 8] rfl) (hD.sub [9, 0, 1, 2, 3, 4, 5, 10, 6, 7, 8] (by decide) rfl) hS (lv_sub hl [1, 2, 3, 0] rfl)
      · skip
        subst h
        refine lv_tableIn (off := 121) (tgt := 154) hx hb dL_law_33 (by decide) (by decide) (by decide) (by decide) ?_
        refine lv_aload_n hx hb dL_law_154 rfl (lv_at hl 1 rfl) ?_
        refine lv_aload_n hx hb dL_law_155 rfl (lv_at hl 0 rfl) ?_
        refine lv_iload_n hx hb dL_law_156 rfl (lv_at hl 3 rfl) ?_
        refine lv_iconst (v := 1) hx hb dL_law_157 (by decide) ?_
        refine lv_iadd hx hb dL_law_158 ?_
        refine nmTi (b := (nI (6 * j + 1))) (nI_add (6 * j) 1) ?_
        refine va_sld hx hb hXs hbl (fun q => absurd (hA2 b q) (Nat.not_le.mpr hbl)) hS (vp_in_nI (by omega) (by omega)) dL_law_159 ?_
        refine nmTi (b := (sc (6 * j + 1))) (cl_f sc (by omega)) ?_
        refine cl_v [(hd, .inr (0, [.ref hH, .ref ho, .int (nI n), .ref ht, .int (nI z)]))] [(hH, .inr (1, [.int 32, .int 8, .ref qb, .int (nI (n % 8)), .ref qa, .ref qi, .ref qp, .int 12])), (qb, .inl (dB, 8, .inl buf)), (qi, .inr (2, [.ref hH])), (qp, .inr (3, [.long x.1, .long x.2.1, .long x.2.2.1, .long x.2.2.2.1, .long x.2.2.2.2])), (ho, .inl (dB, 32, .inl oo)), (ht, .inl (dB, 1024, .inl T)), (hm, .inr (4, [.ref mt, .int (nI z), .ref mm, .int (nI n), .ref md])), (mt, .inl (dB, 1024, .inl T)), (mm, .inl (dB, 16384, .inl M)), (md, .inl (dN, 32, .inl G))] [0] [1, 2, 3, 4, 5, 6, 7, 8, 9, 10] rfl rfl (by decide) (by decide) hP hD hS hA (va_runV (As := [.int (sc (6 * j + 1))]) (rest := []) ⟨hx, hb, hml, hown, hts⟩ (m_begin l D dB dN dL hd (.ref hH) (.ref ho) (.ref ht) (nI n) (nI z) (sc (6 * j + 1)) _) (cwV 1 hts (lw_V q279 q280 q281 q7 q282) rfl rfl rfl (by decide +kernel) ⟨Nat.le_of_ble_eq_true rfl, Nat.le_of_ble_eq_true rfl⟩) (pvV (ci := 0) (q0 := 0) (C := RX0) [0] rfl (by decide) hP hK hD hS hA hX rfl rfl) rfl rfl hl.1 rfl (lv_room (Nat.le_of_ble_eq_true rfl)) dL_law_160 ⟨(show 12 + 5 * j + 4 ≤ 600096 by omega), (show 20000 + 30 * j + 22 ≤ 7301386 by omega)⟩) (fun u_k22 H locs hw_k23 hP hD hS => ?_)
        obtain ⟨hH2, qb2, qi2, qp2, qa2, buf2⟩ := u_k22
        have hP : va_P D CL [(hH, .inr (1, [.int 32, .int 8, .ref qb, .int (nI (n % 8)), .ref qa, .ref qi, .ref qp, .int 12])), (qb, .inl (dB, 8, .inl buf)), (qi, .inr (2, [.ref hH])), (qp, .inr (3, [.long x.1, .long x.2.1, .long x.2.2.1, .long x.2.2.2.1, .long x.2.2.2.2])), (ho, .inl (dB, 32, .inl oo)), (ht, .inl (dB, 1024, .inl T)), (hm, .inr (4, [.ref mt, .int (nI z), .ref mm, .int (nI n), .ref md])), (mt, .inl (dB, 1024, .inl T)), (mm, .inl (dB, 16384, .inl M)), (md, .inl (dN, 32, .inl G)), (hd, .inr (0, [.ref hH2, .ref ho, .int 0, .ref ht, .int (nI z)])), (hH2, .inr (1, [.int 32, .int 8, .ref qb2, .int 0, .ref qa2, .ref qi2, .ref qp2, .int 12])), (qb2, .inl (dB, 8, .inl buf2)), (qi2, .inr (2, [.ref hH2])), (qp2, .inr (3, [.long iv.1, .long iv.2.1, .long iv.2.2.1, .long iv.2.2.2.1, .long iv.2.2.2.2]))] H := hP
        have hD : va_D A [(hH, .inr (1, [.int 32, .int 8, .ref qb, .int (nI (n % 8)), .ref qa, .ref qi, .ref qp, .int 12])), (qb, .inl (dB, 8, .inl buf)), (qi, .inr (2, [.ref hH])), (qp, .inr (3, [.long x.1, .long x.2.1, .long x.2.2.1, .long x.2.2.2.1, .long x.2.2.2.2])), (ho, .inl (dB, 32, .inl oo)), (ht, .inl (dB, 1024, .inl T)), (hm, .inr (4, [.ref mt, .int (nI z), .ref mm, .int (nI n), .ref md])), (mt, .inl (dB, 1024, .inl T)), (mm, .inl (dB, 16384, .inl M)), (md, .inl (dN, 32, .inl G)), (hd, .inr (0, [.ref hH2, .ref ho, .int 0, .ref ht, .int (nI z)])), (hH2, .inr (1, [.int 32, .int 8, .ref qb2, .int 0, .ref qa2, .ref qi2, .ref qp2, .int 12])), (qb2, .inl (dB, 8, .inl buf2)), (qi2, .inr (2, [.ref hH2])), (qp2, .inr (3, [.long iv.1, .long iv.2.1, .long iv.2.2.1, .long iv.2.2.2.1, .long iv.2.2.2.2]))] := hD
        refine lv_aload_n hx hb dL_law_163 rfl (lv_at hl 2 rfl) ?_
        refine lv_aload_n hx hb dL_law_164 rfl (lv_at hl 0 rfl) ?_
        refine lv_iload_n hx hb dL_law_165 rfl (lv_at hl 3 rfl) ?_
        refine lv_iconst (v := 1) hx hb dL_law_166 (by decide) ?_
        refine lv_iadd hx hb dL_law_167 ?_
        refine nmTi (b := (nI (6 * j + 1))) (nI_add (6 * j) 1) ?_
        refine va_sld hx hb hXs hbl (fun q => absurd (hA2 b q) (Nat.not_le.mpr hbl)) hS (vp_in_nI (by omega) (by omega)) dL_law_168 ?_
        refine nmTi (b := (sc (6 * j + 1))) (cl_f sc (by omega)) ?_
        refine cl_v [(hm, .inr (4, [.ref mt, .int (nI z), .ref mm, .int (nI n), .ref md]))] [(hH, .inr (1, [.int 32, .int 8, .ref qb, .int (nI (n % 8)), .ref qa, .ref qi, .ref qp, .int 12])), (qb, .inl (dB, 8, .inl buf)), (qi, .inr (2, [.ref hH])), (qp, .inr (3, [.long x.1, .long x.2.1, .long x.2.2.1, .long x.2.2.2.1, .long x.2.2.2.2])), (ho, .inl (dB, 32, .inl oo)), (ht, .inl (dB, 1024, .inl T)), (mt, .inl (dB, 1024, .inl T)), (mm, .inl (dB, 16384, .inl M)), (md, .inl (dN, 32, .inl G)), (hd, .inr (0, [.ref hH2, .ref ho, .int 0, .ref ht, .int (nI z)])), (hH2, .inr (1, [.int 32, .int 8, .ref qb2, .int 0, .ref qa2, .ref qi2, .ref qp2, .int 12])), (qb2, .inl (dB, 8, .inl buf2)), (qi2, .inr (2, [.ref hH2])), (qp2, .inr (3, [.long iv.1, .long iv.2.1, .long iv.2.2.1, .long iv.2.2.2.1, .long iv.2.2.2.2]))] [6] [0, 1, 2, 3, 4, 5, 7, 8, 9, 10, 11, 12, 13, 14] rfl rfl (by decide) (by decide) hP hD hS hA (va_runV (As := [.int (sc (6 * j + 1))]) (rest := []) ⟨hx, hb, hml, hown, hts⟩ (m_mbegin l D dB dN dL hm (.ref mt) (.ref mm) (.ref md) (nI z) (nI n) (sc (6 * j + 1)) _) (cwV 1 hts (lw_V q588 q589 q590 q24 q591) rfl rfl rfl (by decide +kernel) ⟨Nat.le_of_ble_eq_true rfl, Nat.le_of_ble_eq_true rfl⟩) (pvV (ci := 4) (q0 := 6) (C := RX10) [6] rfl (by decide) hP hK hD hS hA hX rfl rfl) rfl rfl hl.1 rfl (lv_room (Nat.le_of_ble_eq_true rfl)) dL_law_169 ⟨(show 12 + 5 * j + 4 + 0 ≤ 600096 by omega), (show 20000 + 30 * j + 22 + 0 ≤ 7301386 by omega)⟩) (fun u_k25 H locs hw_k26 hP hD hS => ?_)
        have hP : va_P D CL [(hH, .inr (1, [.int 32, .int 8, .ref qb, .int (nI (n % 8)), .ref qa, .ref qi, .ref qp, .int 12])), (qb, .inl (dB, 8, .inl buf)), (qi, .inr (2, [.ref hH])), (qp, .inr (3, [.long x.1, .long x.2.1, .long x.2.2.1, .long x.2.2.2.1, .long x.2.2.2.2])), (ho, .inl (dB, 32, .inl oo)), (ht, .inl (dB, 1024, .inl T)), (mt, .inl (dB, 1024, .inl T)), (mm, .inl (dB, 16384, .inl M)), (md, .inl (dN, 32, .inl G)), (hd, .inr (0, [.ref hH2, .ref ho, .int 0, .ref ht, .int (nI z)])), (hH2, .inr (1, [.int 32, .int 8, .ref qb2, .int 0, .ref qa2, .ref qi2, .ref qp2, .int 12])), (qb2, .inl (dB, 8, .inl buf2)), (qi2, .inr (2, [.ref hH2])), (qp2, .inr (3, [.long iv.1, .long iv.2.1, .long iv.2.2.1, .long iv.2.2.2.1, .long iv.2.2.2.2])), (hm, .inr (4, [.ref mt, .int (nI z), .ref mm, .int 0, .ref md]))] H := hP
        have hD : va_D A [(hH, .inr (1, [.int 32, .int 8, .ref qb, .int (nI (n % 8)), .ref qa, .ref qi, .ref qp, .int 12])), (qb, .inl (dB, 8, .inl buf)), (qi, .inr (2, [.ref hH])), (qp, .inr (3, [.long x.1, .long x.2.1, .long x.2.2.1, .long x.2.2.2.1, .long x.2.2.2.2])), (ho, .inl (dB, 32, .inl oo)), (ht, .inl (dB, 1024, .inl T)), (mt, .inl (dB, 1024, .inl T)), (mm, .inl (dB, 16384, .inl M)), (md, .inl (dN, 32, .inl G)), (hd, .inr (0, [.ref hH2, .ref ho, .int 0, .ref ht, .int (nI z)])), (hH2, .inr (1, [.int 32, .int 8, .ref qb2, .int 0, .ref qa2, .ref qi2, .ref qp2, .int 12])), (qb2, .inl (dB, 8, .inl buf2)), (qi2, .inr (2, [.ref hH2])), (qp2, .inr (3, [.long iv.1, .long iv.2.1, .long iv.2.2.1, .long iv.2.2.2.1, .long iv.2.2.2.2])), (hm, .inr (4, [.ref mt, .int (nI z), .ref mm, .int 0, .ref md]))] := hD
        refine lv_goto (tgt := 278) hx hb dL_law_172 (by decide) ?_
        refine lv_iinc (v := (nI (6 * (j + 1)))) (lv' := [(3, .int (nI (6 * (j + 1)))), (0, .ref b), (1, .ref hd), (2, .ref hm)]) hx hb dL_law_278 hl (k := 3) rfl (ii6 _) (by decide) rfl (fun ls hl => ?_)
        refine lv_goto (tgt := 18) hx hb dL_law_281 (by decide) ?_
        refine W.widen (k := 12 + 5 * (j + 1)) (n := 20000 + 30 * (j + 1)) (show 12 + 5 * j + 4 + 0 ≤ _ by omega) (show 20000 + 30 * j + 22 + 0 ≤ _ by omega) ?_
        exact ih (j + 1) hH2 qb2 qa2 qi2 qp2 z 0 T M oo G buf2 iv (by omega) hz (Nat.zero_le _) hfit (Rp_0 M buf2) hog _ _ _ (hP.sub [9, 10, 11, 12, 13, 4, 5, 14, 6, 7, 8] rfl) (hD.sub [9, 10, 11, 12, 13, 4, 5, 14, 6, 7, 8] (by decide) rfl) hS (lv_sub hl [1, 2, 3, 0] rfl)
      · skip
        subst h
        refine lv_tableIn (off := 142) (tgt := 175) hx hb dL_law_33 (by decide) (by decide) (by decide) (by decide) ?_
        refine lv_aload_n hx hb dL_law_175 rfl (lv_at hl 1 rfl) ?_
        refine lv_aload_n hx hb dL_law_176 rfl (lv_at hl 0 rfl) ?_
        refine lv_iload_n hx hb dL_law_177 rfl (lv_at hl 3 rfl) ?_
        refine lv_iconst (v := 1) hx hb dL_law_178 (by decide) ?_
        refine lv_iadd hx hb dL_law_179 ?_
        refine nmTi (b := (nI (6 * j + 1))) (nI_add (6 * j) 1) ?_
        refine va_sld hx hb hXs hbl (fun q => absurd (hA2 b q) (Nat.not_le.mpr hbl)) hS (vp_in_nI (by omega) (by omega)) dL_law_180 ?_
        refine nmTi (b := (sc (6 * j + 1))) (cl_f sc (by omega)) ?_
        refine lv_aload_n hx hb dL_law_181 rfl (lv_at hl 0 rfl) ?_
        refine lv_iload_n hx hb dL_law_182 rfl (lv_at hl 3 rfl) ?_
        refine lv_iconst (v := 2) hx hb dL_law_183 (by decide) ?_
        refine lv_iadd hx hb dL_law_184 ?_
        refine nmTi (b := (nI (6 * j + 2))) (nI_add (6 * j) 2) ?_
        refine va_sld hx hb hXs hbl (fun q => absurd (hA2 b q) (Nat.not_le.mpr hbl)) hS (vp_in_nI (by omega) (by omega)) dL_law_185 ?_
        refine nmTi (b := (sc (6 * j + 2))) (cl_f sc (by omega)) ?_
        refine cl_i [(hd, .inr (0, [.ref hH, .ref ho, .int (nI n), .ref ht, .int (nI z)])), (ht, .inl (dB, 1024, .inl T)), (hH, .inr (1, [.int 32, .int 8, .ref qb, .int (nI (n % 8)), .ref qa, .ref qi, .ref qp, .int 12])), (qb, .inl (dB, 8, .inl buf)), (qi, .inr (2, [.ref hH])), (qp, .inr (3, [.long x.1, .long x.2.1, .long x.2.2.1, .long x.2.2.2.1, .long x.2.2.2.2]))] [(ho, .inl (dB, 32, .inl oo)), (hm, .inr (4, [.ref mt, .int (nI z), .ref mm, .int (nI n), .ref md])), (mt, .inl (dB, 1024, .inl T)), (mm, .inl (dB, 16384, .inl M)), (md, .inl (dN, 32, .inl G))] [0, 6, 1, 2, 3, 4] [5, 7, 8, 9, 10] rfl rfl (by decide) (by decide) hP hD hS hA (va_runV (As := [.int (sc (6 * j + 1)), .int (sc (6 * j + 2))]) (rest := []) ⟨hx, hb, hml, hown, hts⟩ (m_feed l D dB dN dL hd ht hH qb qa qi qp n z (fo (sc (6 * j + 1)) (z + 1)) (fo (sc (6 * j + 2)) (z - (fo (sc (6 * j + 1)) (z + 1)) + 1)) (.ref ho) (sc (6 * j + 1)) (sc (6 * j + 2)) (fdM M T n (fo (sc (6 * j + 1)) (z + 1)) (fo (sc (6 * j + 2)) (z - (fo (sc (6 * j + 1)) (z + 1)) + 1))) T x buf _ hz hn rfl rfl (Rp_congr hR (fun j hj => fdM_lo hj)) (fun i hi => fdM_in hi) hfit) (cwV 2 hts (lw_V q283 q284 q285 q7 q286) rfl rfl rfl (by decide +kernel) ⟨Nat.le_of_ble_eq_true rfl, Nat.le_of_ble_eq_true rfl⟩) (pvV (ci := 0) (q0 := 0) (C := RX0) [0, 6, 1, 2, 3, 4] rfl (by decide) hP hK hD hS hA hX rfl rfl) rfl rfl hl.1 rfl (lv_room (Nat.le_of_ble_eq_true rfl)) dL_law_186 ⟨(show 12 + 5 * j + 0 ≤ 600096 by omega), (show 20000 + 30 * j + 0 ≤ 7301386 by omega)⟩) (fun r_k34 u_k32 H locs hw_k33 hP hD hS => ?_)
        have hP : va_P D CL [(ho, .inl (dB, 32, .inl oo)), (hm, .inr (4, [.ref mt, .int (nI z), .ref mm, .int (nI n), .ref md])), (mt, .inl (dB, 1024, .inl T)), (mm, .inl (dB, 16384, .inl M)), (md, .inl (dN, 32, .inl G)), (hd, .inr (0, [.ref hH, .ref ho, .int (nI u_k32.2.2), .ref ht, .int (nI z)])), (ht, .inl (dB, 1024, .inl T)), (hH, .inr (1, [.int 32, .int 8, .ref qb, .int (nI (u_k32.2.2 % 8)), .ref qa, .ref qi, .ref qp, .int 12])), (qb, .inl (dB, 8, .inl u_k32.2.1)), (qi, .inr (2, [.ref hH])), (qp, .inr (3, [.long u_k32.1.1, .long u_k32.1.2.1, .long u_k32.1.2.2.1, .long u_k32.1.2.2.2.1, .long u_k32.1.2.2.2.2]))] H := hP
        have hD : va_D A [(ho, .inl (dB, 32, .inl oo)), (hm, .inr (4, [.ref mt, .int (nI z), .ref mm, .int (nI n), .ref md])), (mt, .inl (dB, 1024, .inl T)), (mm, .inl (dB, 16384, .inl M)), (md, .inl (dN, 32, .inl G)), (hd, .inr (0, [.ref hH, .ref ho, .int (nI u_k32.2.2), .ref ht, .int (nI z)])), (ht, .inl (dB, 1024, .inl T)), (hH, .inr (1, [.int 32, .int 8, .ref qb, .int (nI (u_k32.2.2 % 8)), .ref qa, .ref qi, .ref qp, .int 12])), (qb, .inl (dB, 8, .inl u_k32.2.1)), (qi, .inr (2, [.ref hH])), (qp, .inr (3, [.long u_k32.1.1, .long u_k32.1.2.1, .long u_k32.1.2.2.1, .long u_k32.1.2.2.2.1, .long u_k32.1.2.2.2.2]))] := hD
        refine lv_aload_n hx hb dL_law_189 rfl (lv_at hl 2 rfl) ?_
        refine lv_aload_n hx hb dL_law_190 rfl (lv_at hl 0 rfl) ?_
        refine lv_iload_n hx hb dL_law_191 rfl (lv_at hl 3 rfl) ?_
        refine lv_iconst (v := 1) hx hb dL_law_192 (by decide) ?_
        refine lv_iadd hx hb dL_law_193 ?_
        refine nmTi (b := (nI (6 * j + 1))) (nI_add (6 * j) 1) ?_
        refine va_sld hx hb hXs hbl (fun q => absurd (hA2 b q) (Nat.not_le.mpr hbl)) hS (vp_in_nI (by omega) (by omega)) dL_law_194 ?_
        refine nmTi (b := (sc (6 * j + 1))) (cl_f sc (by omega)) ?_
        refine lv_aload_n hx hb dL_law_195 rfl (lv_at hl 0 rfl) ?_
        refine lv_iload_n hx hb dL_law_196 rfl (lv_at hl 3 rfl) ?_
        refine lv_iconst (v := 2) hx hb dL_law_197 (by decide) ?_
        refine lv_iadd hx hb dL_law_198 ?_
        refine nmTi (b := (nI (6 * j + 2))) (nI_add (6 * j) 2) ?_
        refine va_sld hx hb hXs hbl (fun q => absurd (hA2 b q) (Nat.not_le.mpr hbl)) hS (vp_in_nI (by omega) (by omega)) dL_law_199 ?_
        refine nmTi (b := (sc (6 * j + 2))) (cl_f sc (by omega)) ?_
        refine cl_i [(hm, .inr (4, [.ref mt, .int (nI z), .ref mm, .int (nI n), .ref md])), (mt, .inl (dB, 1024, .inl T)), (mm, .inl (dB, 16384, .inl M))] [(ho, .inl (dB, 32, .inl oo)), (md, .inl (dN, 32, .inl G)), (hd, .inr (0, [.ref hH, .ref ho, .int (nI u_k32.2.2), .ref ht, .int (nI z)])), (ht, .inl (dB, 1024, .inl T)), (hH, .inr (1, [.int 32, .int 8, .ref qb, .int (nI (u_k32.2.2 % 8)), .ref qa, .ref qi, .ref qp, .int 12])), (qb, .inl (dB, 8, .inl u_k32.2.1)), (qi, .inr (2, [.ref hH])), (qp, .inr (3, [.long u_k32.1.1, .long u_k32.1.2.1, .long u_k32.1.2.2.1, .long u_k32.1.2.2.2.1, .long u_k32.1.2.2.2.2]))] [1, 2, 3] [0, 4, 5, 6, 7, 8, 9, 10] rfl rfl (by decide) (by decide) hP hD hS hA (va_runV (As := [.int (sc (6 * j + 1)), .int (sc (6 * j + 2))]) (rest := [.int r_k34]) ⟨hx, hb, hml, hown, hts⟩ (m_mfeed l D dB dN dL hm mt mm z n (fo (sc (6 * j + 1)) (z + 1)) (fo (sc (6 * j + 2)) (z - (fo (sc (6 * j + 1)) (z + 1)) + 1)) (.ref md) T M (sc (6 * j + 1)) (sc (6 * j + 2)) _ hz hn rfl rfl hfit) (cwV 2 hts (lw_V q592 q593 q594 q24 q595) rfl rfl rfl (by decide +kernel) ⟨Nat.le_of_ble_eq_true rfl, Nat.le_of_ble_eq_true rfl⟩) (pvV (ci := 4) (q0 := 1) (C := RX10) [1, 2, 3] rfl (by decide) hP hK hD hS hA hX rfl rfl) rfl rfl hl.1 rfl (lv_room (Nat.le_of_ble_eq_true rfl)) dL_law_200 ⟨(show 12 + 5 * j + 0 + 0 ≤ 600096 by omega), (show 20000 + 30 * j + 0 + 0 ≤ 7301386 by omega)⟩) (fun r_k37 u_k35 H locs hw_k36 hP hD hS => ?_)
        have hP : va_P D CL [(ho, .inl (dB, 32, .inl oo)), (md, .inl (dN, 32, .inl G)), (hd, .inr (0, [.ref hH, .ref ho, .int (nI u_k32.2.2), .ref ht, .int (nI z)])), (ht, .inl (dB, 1024, .inl T)), (hH, .inr (1, [.int 32, .int 8, .ref qb, .int (nI (u_k32.2.2 % 8)), .ref qa, .ref qi, .ref qp, .int 12])), (qb, .inl (dB, 8, .inl u_k32.2.1)), (qi, .inr (2, [.ref hH])), (qp, .inr (3, [.long u_k32.1.1, .long u_k32.1.2.1, .long u_k32.1.2.2.1, .long u_k32.1.2.2.2.1, .long u_k32.1.2.2.2.2])), (hm, .inr (4, [.ref mt, .int (nI z), .ref mm, .int (nI u_k35.1), .ref md])), (mt, .inl (dB, 1024, .inl T)), (mm, .inl (dB, 16384, .inl u_k35.2))] H := hP
        have hD : va_D A [(ho, .inl (dB, 32, .inl oo)), (md, .inl (dN, 32, .inl G)), (hd, .inr (0, [.ref hH, .ref ho, .int (nI u_k32.2.2), .ref ht, .int (nI z)])), (ht, .inl (dB, 1024, .inl T)), (hH, .inr (1, [.int 32, .int 8, .ref qb, .int (nI (u_k32.2.2 % 8)), .ref qa, .ref qi, .ref qp, .int 12])), (qb, .inl (dB, 8, .inl u_k32.2.1)), (qi, .inr (2, [.ref hH])), (qp, .inr (3, [.long u_k32.1.1, .long u_k32.1.2.1, .long u_k32.1.2.2.1, .long u_k32.1.2.2.2.1, .long u_k32.1.2.2.2.2])), (hm, .inr (4, [.ref mt, .int (nI z), .ref mm, .int (nI u_k35.1), .ref md])), (mt, .inl (dB, 1024, .inl T)), (mm, .inl (dB, 16384, .inl u_k35.2))] := hD
        refine lv_icmp_eq (tgt := 278) hx hb dL_law_203 (by decide) (fun _ => ?_) (fun c_k38 => absurd (hw_k33.1.trans hw_k36.1.symm) c_k38)
        obtain ⟨en, hn1, hR1⟩ := fd_ok hw_k33.2.1 hw_k33.2.2 hw_k36.2 (fun j hj => (fdM_lo hj).symm) hn id
        rw [en] at hP hD
        have hP : va_P D CL [(ho, .inl (dB, 32, .inl oo)), (md, .inl (dN, 32, .inl G)), (hd, .inr (0, [.ref hH, .ref ho, .int (nI u_k35.1), .ref ht, .int (nI z)])), (ht, .inl (dB, 1024, .inl T)), (hH, .inr (1, [.int 32, .int 8, .ref qb, .int (nI (u_k35.1 % 8)), .ref qa, .ref qi, .ref qp, .int 12])), (qb, .inl (dB, 8, .inl u_k32.2.1)), (qi, .inr (2, [.ref hH])), (qp, .inr (3, [.long u_k32.1.1, .long u_k32.1.2.1, .long u_k32.1.2.2.1, .long u_k32.1.2.2.2.1, .long u_k32.1.2.2.2.2])), (hm, .inr (4, [.ref mt, .int (nI z), .ref mm, .int (nI u_k35.1), .ref md])), (mt, .inl (dB, 1024, .inl T)), (mm, .inl (dB, 16384, .inl u_k35.2))] H := hP
        have hD : va_D A [(ho, .inl (dB, 32, .inl oo)), (md, .inl (dN, 32, .inl G)), (hd, .inr (0, [.ref hH, .ref ho, .int (nI u_k35.1), .ref ht, .int (nI z)])), (ht, .inl (dB, 1024, .inl T)), (hH, .inr (1, [.int 32, .int 8, .ref qb, .int (nI (u_k35.1 % 8)), .ref qa, .ref qi, .ref qp, .int 12])), (qb, .inl (dB, 8, .inl u_k32.2.1)), (qi, .inr (2, [.ref hH])), (qp, .inr (3, [.long u_k32.1.1, .long u_k32.1.2.1, .long u_k32.1.2.2.1, .long u_k32.1.2.2.2.1, .long u_k32.1.2.2.2.2])), (hm, .inr (4, [.ref mt, .int (nI z), .ref mm, .int (nI u_k35.1), .ref md])), (mt, .inl (dB, 1024, .inl T)), (mm, .inl (dB, 16384, .inl u_k35.2))] := hD
        refine lv_iinc (v := (nI (6 * (j + 1)))) (lv' := [(3, .int (nI (6 * (j + 1)))), (0, .ref b), (1, .ref hd), (2, .ref hm)]) hx hb dL_law_278 hl (k := 3) rfl (ii6 _) (by decide) rfl (fun ls hl => ?_)
        refine lv_goto (tgt := 18) hx hb dL_law_281 (by decide) ?_
        refine W.widen (k := 12 + 5 * (j + 1)) (n := 20000 + 30 * (j + 1)) (show 12 + 5 * j + 0 + 0 ≤ _ by omega) (show 20000 + 30 * j + 0 + 0 ≤ _ by omega) ?_
        exact ih (j + 1) hH qb qa qi qp z u_k35.1 T u_k35.2 oo G u_k32.2.1 u_k32.1 (by omega) hz hn1 hfit hR1 hog _ _ _ (hP.sub [2, 4, 5, 6, 7, 0, 3, 8, 9, 10, 1] rfl) (hD.sub [2, 4, 5, 6, 7, 0, 3, 8, 9, 10, 1] (by decide) rfl) hS (lv_sub hl [1, 2, 3, 0] rfl)
      · skip
        subst h
        refine lv_tableIn (off := 175) (tgt := 208) hx hb dL_law_33 (by decide) (by decide) (by decide) (by decide) ?_
        refine lv_aload_n hx hb dL_law_208 rfl (lv_at hl 1 rfl) ?_
        refine lv_aload_n hx hb dL_law_209 rfl (lv_at hl 0 rfl) ?_
        refine lv_iload_n hx hb dL_law_210 rfl (lv_at hl 3 rfl) ?_
        refine lv_iconst (v := 1) hx hb dL_law_211 (by decide) ?_
        refine lv_iadd hx hb dL_law_212 ?_
        refine nmTi (b := (nI (6 * j + 1))) (nI_add (6 * j) 1) ?_
        refine va_sld hx hb hXs hbl (fun q => absurd (hA2 b q) (Nat.not_le.mpr hbl)) hS (vp_in_nI (by omega) (by omega)) dL_law_213 ?_
        refine nmTi (b := (sc (6 * j + 1))) (cl_f sc (by omega)) ?_
        refine cl_i [(hd, .inr (0, [.ref hH, .ref ho, .int (nI n), .ref ht, .int (nI z)])), (hH, .inr (1, [.int 32, .int 8, .ref qb, .int (nI (n % 8)), .ref qa, .ref qi, .ref qp, .int 12])), (qb, .inl (dB, 8, .inl buf)), (qi, .inr (2, [.ref hH])), (qp, .inr (3, [.long x.1, .long x.2.1, .long x.2.2.1, .long x.2.2.2.1, .long x.2.2.2.2]))] [(ho, .inl (dB, 32, .inl oo)), (ht, .inl (dB, 1024, .inl T)), (hm, .inr (4, [.ref mt, .int (nI z), .ref mm, .int (nI n), .ref md])), (mt, .inl (dB, 1024, .inl T)), (mm, .inl (dB, 16384, .inl M)), (md, .inl (dN, 32, .inl G))] [0, 1, 2, 3, 4] [5, 6, 7, 8, 9, 10] rfl rfl (by decide) (by decide) hP hD hS hA (va_runV (As := [.int (sc (6 * j + 1))]) (rest := []) ⟨hx, hb, hml, hown, hts⟩ (m_one l D dB dN dL hd hH qb qa qi qp n (.ref ho) (.ref ht) (nI z) (sc (6 * j + 1)) (upd M n (sc (6 * j + 1)).toInt8.toInt32) x buf _ hn (Rp_congr hR (fun j hj => pk_un (Nat.ne_of_lt hj))) pk_us) (cwV 1 hts (lw_V q420 q421 q422 q7 q423) rfl rfl rfl (by decide +kernel) ⟨Nat.le_of_ble_eq_true rfl, Nat.le_of_ble_eq_true rfl⟩) (pvV (ci := 0) (q0 := 0) (C := RX0) [0, 1, 2, 3, 4] rfl (by decide) hP hK hD hS hA hX rfl rfl) rfl rfl hl.1 rfl (lv_room (Nat.le_of_ble_eq_true rfl)) dL_law_214 ⟨(show 12 + 5 * j + 0 ≤ 600096 by omega), (show 20000 + 30 * j + 0 ≤ 7301386 by omega)⟩) (fun r_k44 u_k42 H locs hw_k43 hP hD hS => ?_)
        have hP : va_P D CL [(ho, .inl (dB, 32, .inl oo)), (ht, .inl (dB, 1024, .inl T)), (hm, .inr (4, [.ref mt, .int (nI z), .ref mm, .int (nI n), .ref md])), (mt, .inl (dB, 1024, .inl T)), (mm, .inl (dB, 16384, .inl M)), (md, .inl (dN, 32, .inl G)), (hd, .inr (0, [.ref hH, .ref ho, .int (nI u_k42.2.2), .ref ht, .int (nI z)])), (hH, .inr (1, [.int 32, .int 8, .ref qb, .int (nI (u_k42.2.2 % 8)), .ref qa, .ref qi, .ref qp, .int 12])), (qb, .inl (dB, 8, .inl u_k42.2.1)), (qi, .inr (2, [.ref hH])), (qp, .inr (3, [.long u_k42.1.1, .long u_k42.1.2.1, .long u_k42.1.2.2.1, .long u_k42.1.2.2.2.1, .long u_k42.1.2.2.2.2]))] H := hP
        have hD : va_D A [(ho, .inl (dB, 32, .inl oo)), (ht, .inl (dB, 1024, .inl T)), (hm, .inr (4, [.ref mt, .int (nI z), .ref mm, .int (nI n), .ref md])), (mt, .inl (dB, 1024, .inl T)), (mm, .inl (dB, 16384, .inl M)), (md, .inl (dN, 32, .inl G)), (hd, .inr (0, [.ref hH, .ref ho, .int (nI u_k42.2.2), .ref ht, .int (nI z)])), (hH, .inr (1, [.int 32, .int 8, .ref qb, .int (nI (u_k42.2.2 % 8)), .ref qa, .ref qi, .ref qp, .int 12])), (qb, .inl (dB, 8, .inl u_k42.2.1)), (qi, .inr (2, [.ref hH])), (qp, .inr (3, [.long u_k42.1.1, .long u_k42.1.2.1, .long u_k42.1.2.2.1, .long u_k42.1.2.2.2.1, .long u_k42.1.2.2.2.2]))] := hD
        refine lv_aload_n hx hb dL_law_217 rfl (lv_at hl 2 rfl) ?_
        refine lv_aload_n hx hb dL_law_218 rfl (lv_at hl 0 rfl) ?_
        refine lv_iload_n hx hb dL_law_219 rfl (lv_at hl 3 rfl) ?_
        refine lv_iconst (v := 1) hx hb dL_law_220 (by decide) ?_
        refine lv_iadd hx hb dL_law_221 ?_
        refine nmTi (b := (nI (6 * j + 1))) (nI_add (6 * j) 1) ?_
        refine va_sld hx hb hXs hbl (fun q => absurd (hA2 b q) (Nat.not_le.mpr hbl)) hS (vp_in_nI (by omega) (by omega)) dL_law_222 ?_
        refine nmTi (b := (sc (6 * j + 1))) (cl_f sc (by omega)) ?_
        refine cl_i [(hm, .inr (4, [.ref mt, .int (nI z), .ref mm, .int (nI n), .ref md])), (mm, .inl (dB, 16384, .inl M))] [(ho, .inl (dB, 32, .inl oo)), (ht, .inl (dB, 1024, .inl T)), (mt, .inl (dB, 1024, .inl T)), (md, .inl (dN, 32, .inl G)), (hd, .inr (0, [.ref hH, .ref ho, .int (nI u_k42.2.2), .ref ht, .int (nI z)])), (hH, .inr (1, [.int 32, .int 8, .ref qb, .int (nI (u_k42.2.2 % 8)), .ref qa, .ref qi, .ref qp, .int 12])), (qb, .inl (dB, 8, .inl u_k42.2.1)), (qi, .inr (2, [.ref hH])), (qp, .inr (3, [.long u_k42.1.1, .long u_k42.1.2.1, .long u_k42.1.2.2.1, .long u_k42.1.2.2.2.1, .long u_k42.1.2.2.2.2]))] [2, 4] [0, 1, 3, 5, 6, 7, 8, 9, 10] rfl rfl (by decide) (by decide) hP hD hS hA (va_runV (As := [.int (sc (6 * j + 1))]) (rest := [.int r_k44]) ⟨hx, hb, hml, hown, hts⟩ (m_mone l D dB dN dL hm mm n (.ref mt) (.ref md) (nI z) M (sc (6 * j + 1)) _ hn) (cwV 1 hts (lw_V q596 q597 q598 q24 q599) rfl rfl rfl (by decide +kernel) ⟨Nat.le_of_ble_eq_true rfl, Nat.le_of_ble_eq_true rfl⟩) (pvV (ci := 4) (q0 := 2) (C := RX10) [2, 4] rfl (by decide) hP hK hD hS hA hX rfl rfl) rfl rfl hl.1 rfl (lv_room (Nat.le_of_ble_eq_true rfl)) dL_law_223 ⟨(show 12 + 5 * j + 0 + 0 ≤ 600096 by omega), (show 20000 + 30 * j + 0 + 0 ≤ 7301386 by omega)⟩) (fun r_k47 u_k45 H locs hw_k46 hP hD hS => ?_)
        have hP : va_P D CL [(ho, .inl (dB, 32, .inl oo)), (ht, .inl (dB, 1024, .inl T)), (mt, .inl (dB, 1024, .inl T)), (md, .inl (dN, 32, .inl G)), (hd, .inr (0, [.ref hH, .ref ho, .int (nI u_k42.2.2), .ref ht, .int (nI z)])), (hH, .inr (1, [.int 32, .int 8, .ref qb, .int (nI (u_k42.2.2 % 8)), .ref qa, .ref qi, .ref qp, .int 12])), (qb, .inl (dB, 8, .inl u_k42.2.1)), (qi, .inr (2, [.ref hH])), (qp, .inr (3, [.long u_k42.1.1, .long u_k42.1.2.1, .long u_k42.1.2.2.1, .long u_k42.1.2.2.2.1, .long u_k42.1.2.2.2.2])), (hm, .inr (4, [.ref mt, .int (nI z), .ref mm, .int (nI u_k45.1), .ref md])), (mm, .inl (dB, 16384, .inl u_k45.2))] H := hP
        have hD : va_D A [(ho, .inl (dB, 32, .inl oo)), (ht, .inl (dB, 1024, .inl T)), (mt, .inl (dB, 1024, .inl T)), (md, .inl (dN, 32, .inl G)), (hd, .inr (0, [.ref hH, .ref ho, .int (nI u_k42.2.2), .ref ht, .int (nI z)])), (hH, .inr (1, [.int 32, .int 8, .ref qb, .int (nI (u_k42.2.2 % 8)), .ref qa, .ref qi, .ref qp, .int 12])), (qb, .inl (dB, 8, .inl u_k42.2.1)), (qi, .inr (2, [.ref hH])), (qp, .inr (3, [.long u_k42.1.1, .long u_k42.1.2.1, .long u_k42.1.2.2.1, .long u_k42.1.2.2.2.1, .long u_k42.1.2.2.2.2])), (hm, .inr (4, [.ref mt, .int (nI z), .ref mm, .int (nI u_k45.1), .ref md])), (mm, .inl (dB, 16384, .inl u_k45.2))] := hD
        refine lv_icmp_eq (tgt := 278) hx hb dL_law_226 (by decide) (fun _ => ?_) (fun c_k48 => absurd (hw_k43.1.trans hw_k46.1.symm) c_k48)
        obtain ⟨en, hn1, hR1⟩ := fd_ok hw_k43.2.1 hw_k43.2.2 hw_k46.2 (fun j hj => (pk_un (Nat.ne_of_lt hj)).symm) hn id
        rw [en] at hP hD
        have hP : va_P D CL [(ho, .inl (dB, 32, .inl oo)), (ht, .inl (dB, 1024, .inl T)), (mt, .inl (dB, 1024, .inl T)), (md, .inl (dN, 32, .inl G)), (hd, .inr (0, [.ref hH, .ref ho, .int (nI u_k45.1), .ref ht, .int (nI z)])), (hH, .inr (1, [.int 32, .int 8, .ref qb, .int (nI (u_k45.1 % 8)), .ref qa, .ref qi, .ref qp, .int 12])), (qb, .inl (dB, 8, .inl u_k42.2.1)), (qi, .inr (2, [.ref hH])), (qp, .inr (3, [.long u_k42.1.1, .long u_k42.1.2.1, .long u_k42.1.2.2.1, .long u_k42.1.2.2.2.1, .long u_k42.1.2.2.2.2])), (hm, .inr (4, [.ref mt, .int (nI z), .ref mm, .int (nI u_k45.1), .ref md])), (mm, .inl (dB, 16384, .inl u_k45.2))] H := hP
        have hD : va_D A [(ho, .inl (dB, 32, .inl oo)), (ht, .inl (dB, 1024, .inl T)), (mt, .inl (dB, 1024, .inl T)), (md, .inl (dN, 32, .inl G)), (hd, .inr (0, [.ref hH, .ref ho, .int (nI u_k45.1), .ref ht, .int (nI z)])), (hH, .inr (1, [.int 32, .int 8, .ref qb, .int (nI (u_k45.1 % 8)), .ref qa, .ref qi, .ref qp, .int 12])), (qb, .inl (dB, 8, .inl u_k42.2.1)), (qi, .inr (2, [.ref hH])), (qp, .inr (3, [.long u_k42.1.1, .long u_k42.1.2.1, .long u_k42.1.2.2.1, .long u_k42.1.2.2.2.1, .long u_k42.1.2.2.2.2])), (hm, .inr (4, [.ref mt, .int (nI z), .ref mm, .int (nI u_k45.1), .ref md])), (mm, .inl (dB, 16384, .inl u_k45.2))] := hD
        refine lv_iinc (v := (nI (6 * (j + 1)))) (lv' := [(3, .int (nI (6 * (j + 1)))), (0, .ref b), (1, .ref hd), (2, .ref hm)]) hx hb dL_law_278 hl (k := 3) rfl (ii6 _) (by decide) rfl (fun ls hl => ?_)
        refine lv_goto (tgt := 18) hx hb dL_law_281 (by decide) ?_
        refine W.widen (k := 12 + 5 * (j + 1)) (n := 20000 + 30 * (j + 1)) (show 12 + 5 * j + 0 + 0 ≤ _ by omega) (show 20000 + 30 * j + 0 + 0 ≤ _ by omega) ?_
        exact ih (j + 1) hH qb qa qi qp z u_k45.1 T u_k45.2 oo G u_k42.2.1 u_k42.1 (by omega) hz hn1 hfit hR1 hog _ _ _ (hP.sub [4, 5, 6, 7, 8, 0, 1, 9, 2, 10, 3] rfl) (hD.sub [4, 5, 6, 7, 8, 0, 1, 9, 2, 10, 3] (by decide) rfl) hS (lv_sub hl [1, 2, 3, 0] rfl)
      · skip
        subst h
        refine lv_tableIn (off := 198) (tgt := 231) hx hb dL_law_33 (by decide) (by decide) (by decide) (by decide) ?_
        refine lv_aload_n hx hb dL_law_231 rfl (lv_at hl 1 rfl) ?_
        refine cl_i [(hd, .inr (0, [.ref hH, .ref ho, .int (nI n), .ref ht, .int (nI z)])), (ho, .inl (dB, 32, .inl oo)), (hH, .inr (1, [.int 32, .int 8, .ref qb, .int (nI (n % 8)), .ref qa, .ref qi, .ref qp, .int 12])), (qb, .inl (dB, 8, .inl buf)), (qp, .inr (3, [.long x.1, .long x.2.1, .long x.2.2.1, .long x.2.2.2.1, .long x.2.2.2.2]))] [(qi, .inr (2, [.ref hH])), (ht, .inl (dB, 1024, .inl T)), (hm, .inr (4, [.ref mt, .int (nI z), .ref mm, .int (nI n), .ref md])), (mt, .inl (dB, 1024, .inl T)), (mm, .inl (dB, 16384, .inl M)), (md, .inl (dN, 32, .inl G))] [0, 5, 1, 2, 4] [3, 6, 7, 8, 9, 10] rfl rfl (by decide) (by decide) hP hD hS hA (va_runV (As := []) (rest := []) ⟨hx, hb, hml, hown, hts⟩ (m_close l D dB dN dL hd ho hH qb qa qi qp n (.ref ht) (nI n) (nI z) M oo x buf _ hR) (cwV 0 hts (lw_V q449 q450 q451 q7 q452) rfl rfl rfl (by decide +kernel) ⟨Nat.le_of_ble_eq_true rfl, Nat.le_of_ble_eq_true rfl⟩) (pvV (ci := 0) (q0 := 0) (C := RX0) [0, 5, 1, 2, 4] rfl (by decide) hP hK hD hS hA hX rfl rfl) rfl rfl hl.1 rfl (lv_room (Nat.le_of_ble_eq_true rfl)) dL_law_232 ⟨(show 12 + 5 * j + 0 ≤ 600096 by omega), (show 20000 + 30 * j + 0 ≤ 7301386 by omega)⟩) (fun r_k54 u_k52 H locs hw_k53 hP hD hS => ?_)
        have hP : va_P D CL [(qi, .inr (2, [.ref hH])), (ht, .inl (dB, 1024, .inl T)), (hm, .inr (4, [.ref mt, .int (nI z), .ref mm, .int (nI n), .ref md])), (mt, .inl (dB, 1024, .inl T)), (mm, .inl (dB, 16384, .inl M)), (md, .inl (dN, 32, .inl G)), (hd, .inr (0, [.ref hH, .ref ho, .int 0, .ref ht, .int (nI z)])), (ho, .inl (dB, 32, .inl (dig (hsh M n) oo))), (hH, .inr (1, [.int 32, .int 8, .ref qb, .int 0, .ref qa, .ref qi, .ref qp, .int 12])), (qb, .inl (dB, 8, .inl u_k52)), (qp, .inr (3, [.long iv.1, .long iv.2.1, .long iv.2.2.1, .long iv.2.2.2.1, .long iv.2.2.2.2]))] H := hP
        have hD : va_D A [(qi, .inr (2, [.ref hH])), (ht, .inl (dB, 1024, .inl T)), (hm, .inr (4, [.ref mt, .int (nI z), .ref mm, .int (nI n), .ref md])), (mt, .inl (dB, 1024, .inl T)), (mm, .inl (dB, 16384, .inl M)), (md, .inl (dN, 32, .inl G)), (hd, .inr (0, [.ref hH, .ref ho, .int 0, .ref ht, .int (nI z)])), (ho, .inl (dB, 32, .inl (dig (hsh M n) oo))), (hH, .inr (1, [.int 32, .int 8, .ref qb, .int 0, .ref qa, .ref qi, .ref qp, .int 12])), (qb, .inl (dB, 8, .inl u_k52)), (qp, .inr (3, [.long iv.1, .long iv.2.1, .long iv.2.2.1, .long iv.2.2.2.1, .long iv.2.2.2.2]))] := hD
        refine lv_aload_n hx hb dL_law_235 rfl (lv_at hl 2 rfl) ?_
        refine cl_i [(hm, .inr (4, [.ref mt, .int (nI z), .ref mm, .int (nI n), .ref md])), (mm, .inl (dB, 16384, .inl M)), (md, .inl (dN, 32, .inl G))] [(qi, .inr (2, [.ref hH])), (ht, .inl (dB, 1024, .inl T)), (mt, .inl (dB, 1024, .inl T)), (hd, .inr (0, [.ref hH, .ref ho, .int 0, .ref ht, .int (nI z)])), (ho, .inl (dB, 32, .inl (dig (hsh M n) oo))), (hH, .inr (1, [.int 32, .int 8, .ref qb, .int 0, .ref qa, .ref qi, .ref qp, .int 12])), (qb, .inl (dB, 8, .inl u_k52)), (qp, .inr (3, [.long iv.1, .long iv.2.1, .long iv.2.2.1, .long iv.2.2.2.1, .long iv.2.2.2.2]))] [2, 4, 5] [0, 1, 3, 6, 7, 8, 9, 10] rfl rfl (by decide) (by decide) hP hD hS hA (va_runV (As := []) (rest := [.int r_k54]) ⟨hx, hb, hml, hown, hts⟩ (m_mclose l D dB dN dL hm mm md n (.ref mt) (nI z) M G _ hn) (cwV 0 hts (lw_V q600 q601 q602 q24 q603) rfl rfl rfl (by decide +kernel) ⟨Nat.le_of_ble_eq_true rfl, Nat.le_of_ble_eq_true rfl⟩) (pvV (ci := 4) (q0 := 2) (C := RX10) [2, 4, 5] rfl (by decide) hP hK hD hS hA hX rfl rfl) rfl rfl hl.1 rfl (lv_room (Nat.le_of_ble_eq_true rfl)) dL_law_236 ⟨(show 12 + 5 * j + 0 + 1 ≤ 600096 by omega), (show 20000 + 30 * j + 0 + 5 ≤ 7301386 by omega)⟩) (fun r_k57 u_k55 H locs hw_k56 hP hD hS => ?_)
        have hP : va_P D CL [(qi, .inr (2, [.ref hH])), (ht, .inl (dB, 1024, .inl T)), (mt, .inl (dB, 1024, .inl T)), (hd, .inr (0, [.ref hH, .ref ho, .int 0, .ref ht, .int (nI z)])), (ho, .inl (dB, 32, .inl (dig (hsh M n) oo))), (hH, .inr (1, [.int 32, .int 8, .ref qb, .int 0, .ref qa, .ref qi, .ref qp, .int 12])), (qb, .inl (dB, 8, .inl u_k52)), (qp, .inr (3, [.long iv.1, .long iv.2.1, .long iv.2.2.1, .long iv.2.2.2.1, .long iv.2.2.2.2])), (hm, .inr (4, [.ref mt, .int (nI z), .ref mm, .int 0, .ref md])), (mm, .inl (dB, 16384, .inl M)), (md, .inl (dN, 32, .inl (dq (hsh M n) G 32)))] H := hP
        have hD : va_D A [(qi, .inr (2, [.ref hH])), (ht, .inl (dB, 1024, .inl T)), (mt, .inl (dB, 1024, .inl T)), (hd, .inr (0, [.ref hH, .ref ho, .int 0, .ref ht, .int (nI z)])), (ho, .inl (dB, 32, .inl (dig (hsh M n) oo))), (hH, .inr (1, [.int 32, .int 8, .ref qb, .int 0, .ref qa, .ref qi, .ref qp, .int 12])), (qb, .inl (dB, 8, .inl u_k52)), (qp, .inr (3, [.long iv.1, .long iv.2.1, .long iv.2.2.1, .long iv.2.2.2.1, .long iv.2.2.2.2])), (hm, .inr (4, [.ref mt, .int (nI z), .ref mm, .int 0, .ref md])), (mm, .inl (dB, 16384, .inl M)), (md, .inl (dN, 32, .inl (dq (hsh M n) G 32)))] := hD
        refine lv_icmp_eq (tgt := 278) hx hb dL_law_239 (by decide) (fun _ => ?_) (fun c_k58 => absurd ((show r_k54 = 32 from hw_k53).trans (show r_k57 = 32 from hw_k56).symm) c_k58)
        refine lv_iinc (v := (nI (6 * (j + 1)))) (lv' := [(3, .int (nI (6 * (j + 1)))), (0, .ref b), (1, .ref hd), (2, .ref hm)]) hx hb dL_law_278 hl (k := 3) rfl (ii6 _) (by decide) rfl (fun ls hl => ?_)
        refine lv_goto (tgt := 18) hx hb dL_law_281 (by decide) ?_
        refine W.widen (k := 12 + 5 * (j + 1)) (n := 20000 + 30 * (j + 1)) (show 12 + 5 * j + 0 + 1 ≤ _ by omega) (show 20000 + 30 * j + 0 + 5 ≤ _ by omega) ?_
        exact ih (j + 1) hH qb qa qi qp z 0 T M (dig (hsh M n) oo) (dq (hsh M n) G 32) u_k52 iv (by omega) hz (Nat.zero_le _) hfit (Rp_0 M u_k52) (fun q hq => dig_dq _ _ _ hq) _ _ _ (hP.sub [3, 5, 6, 0, 7, 4, 1, 8, 2, 9, 10] rfl) (hD.sub [3, 5, 6, 0, 7, 4, 1, 8, 2, 9, 10] (by decide) rfl) hS (lv_sub hl [1, 2, 3, 0] rfl)
      · skip
        subst h
        refine lv_tableIn (off := 211) (tgt := 244) hx hb dL_law_33 (by decide) (by decide) (by decide) (by decide) ?_
        refine lv_aload_n hx hb dL_law_244 rfl (lv_at hl 1 rfl) ?_
        refine cl_v [(hd, .inr (0, [.ref hH, .ref ho, .int (nI n), .ref ht, .int (nI z)])), (hH, .inr (1, [.int 32, .int 8, .ref qb, .int (nI (n % 8)), .ref qa, .ref qi, .ref qp, .int 12])), (qb, .inl (dB, 8, .inl buf)), (qp, .inr (3, [.long x.1, .long x.2.1, .long x.2.2.1, .long x.2.2.2.1, .long x.2.2.2.2]))] [(qi, .inr (2, [.ref hH])), (ho, .inl (dB, 32, .inl oo)), (ht, .inl (dB, 1024, .inl T)), (hm, .inr (4, [.ref mt, .int (nI z), .ref mm, .int (nI n), .ref md])), (mt, .inl (dB, 1024, .inl T)), (mm, .inl (dB, 16384, .inl M)), (md, .inl (dN, 32, .inl G))] [0, 1, 2, 4] [3, 5, 6, 7, 8, 9, 10] rfl rfl (by decide) (by decide) hP hD hS hA (va_runV (As := []) (rest := []) ⟨hx, hb, hml, hown, hts⟩ (m_drop l D dB dN dL hd hH qb qp (.ref ho) (.ref ht) (.ref qa) (.ref qi) (nI n) (nI z) (nI (n % 8)) buf x _) (cwV 0 hts (lw_V q538 q539 q540 q7 q541) rfl rfl rfl (by decide +kernel) ⟨Nat.le_of_ble_eq_true rfl, Nat.le_of_ble_eq_true rfl⟩) (pvV (ci := 0) (q0 := 0) (C := RX0) [0, 1, 2, 4] rfl (by decide) hP hK hD hS hA hX rfl rfl) rfl rfl hl.1 rfl (lv_room (Nat.le_of_ble_eq_true rfl)) dL_law_245 ⟨(show 12 + 5 * j + 0 ≤ 600096 by omega), (show 20000 + 30 * j + 0 ≤ 7301386 by omega)⟩) (fun u_k62 H locs hw_k63 hP hD hS => ?_)
        have hP : va_P D CL [(qi, .inr (2, [.ref hH])), (ho, .inl (dB, 32, .inl oo)), (ht, .inl (dB, 1024, .inl T)), (hm, .inr (4, [.ref mt, .int (nI z), .ref mm, .int (nI n), .ref md])), (mt, .inl (dB, 1024, .inl T)), (mm, .inl (dB, 16384, .inl M)), (md, .inl (dN, 32, .inl G)), (hd, .inr (0, [.ref hH, .ref ho, .int 0, .ref ht, .int (nI z)])), (hH, .inr (1, [.int 32, .int 8, .ref qb, .int 0, .ref qa, .ref qi, .ref qp, .int 12])), (qb, .inl (dB, 8, .inl u_k62)), (qp, .inr (3, [.long iv.1, .long iv.2.1, .long iv.2.2.1, .long iv.2.2.2.1, .long iv.2.2.2.2]))] H := hP
        have hD : va_D A [(qi, .inr (2, [.ref hH])), (ho, .inl (dB, 32, .inl oo)), (ht, .inl (dB, 1024, .inl T)), (hm, .inr (4, [.ref mt, .int (nI z), .ref mm, .int (nI n), .ref md])), (mt, .inl (dB, 1024, .inl T)), (mm, .inl (dB, 16384, .inl M)), (md, .inl (dN, 32, .inl G)), (hd, .inr (0, [.ref hH, .ref ho, .int 0, .ref ht, .int (nI z)])), (hH, .inr (1, [.int 32, .int 8, .ref qb, .int 0, .ref qa, .ref qi, .ref qp, .int 12])), (qb, .inl (dB, 8, .inl u_k62)), (qp, .inr (3, [.long iv.1, .long iv.2.1, .long iv.2.2.1, .long iv.2.2.2.1, .long iv.2.2.2.2]))] := hD
        refine lv_aload_n hx hb dL_law_248 rfl (lv_at hl 2 rfl) ?_
        refine cl_v [(hm, .inr (4, [.ref mt, .int (nI z), .ref mm, .int (nI n), .ref md]))] [(qi, .inr (2, [.ref hH])), (ho, .inl (dB, 32, .inl oo)), (ht, .inl (dB, 1024, .inl T)), (mt, .inl (dB, 1024, .inl T)), (mm, .inl (dB, 16384, .inl M)), (md, .inl (dN, 32, .inl G)), (hd, .inr (0, [.ref hH, .ref ho, .int 0, .ref ht, .int (nI z)])), (hH, .inr (1, [.int 32, .int 8, .ref qb, .int 0, .ref qa, .ref qi, .ref qp, .int 12])), (qb, .inl (dB, 8, .inl u_k62)), (qp, .inr (3, [.long iv.1, .long iv.2.1, .long iv.2.2.1, .long iv.2.2.2.1, .long iv.2.2.2.2]))] [3] [0, 1, 2, 4, 5, 6, 7, 8, 9, 10] rfl rfl (by decide) (by decide) hP hD hS hA (va_runV (As := []) (rest := []) ⟨hx, hb, hml, hown, hts⟩ (m_mdrop l D dB dN dL hm (.ref mt) (.ref mm) (.ref md) (nI z) (nI n) _) (cwV 0 hts (lw_V q620 q621 q622 q24 q623) rfl rfl rfl (by decide +kernel) ⟨Nat.le_of_ble_eq_true rfl, Nat.le_of_ble_eq_true rfl⟩) (pvV (ci := 4) (q0 := 3) (C := RX10) [3] rfl (by decide) hP hK hD hS hA hX rfl rfl) rfl rfl hl.1 rfl (lv_room (Nat.le_of_ble_eq_true rfl)) dL_law_249 ⟨(show 12 + 5 * j + 0 + 0 ≤ 600096 by omega), (show 20000 + 30 * j + 0 + 0 ≤ 7301386 by omega)⟩) (fun u_k65 H locs hw_k66 hP hD hS => ?_)
        have hP : va_P D CL [(qi, .inr (2, [.ref hH])), (ho, .inl (dB, 32, .inl oo)), (ht, .inl (dB, 1024, .inl T)), (mt, .inl (dB, 1024, .inl T)), (mm, .inl (dB, 16384, .inl M)), (md, .inl (dN, 32, .inl G)), (hd, .inr (0, [.ref hH, .ref ho, .int 0, .ref ht, .int (nI z)])), (hH, .inr (1, [.int 32, .int 8, .ref qb, .int 0, .ref qa, .ref qi, .ref qp, .int 12])), (qb, .inl (dB, 8, .inl u_k62)), (qp, .inr (3, [.long iv.1, .long iv.2.1, .long iv.2.2.1, .long iv.2.2.2.1, .long iv.2.2.2.2])), (hm, .inr (4, [.ref mt, .int (nI z), .ref mm, .int 0, .ref md]))] H := hP
        have hD : va_D A [(qi, .inr (2, [.ref hH])), (ho, .inl (dB, 32, .inl oo)), (ht, .inl (dB, 1024, .inl T)), (mt, .inl (dB, 1024, .inl T)), (mm, .inl (dB, 16384, .inl M)), (md, .inl (dN, 32, .inl G)), (hd, .inr (0, [.ref hH, .ref ho, .int 0, .ref ht, .int (nI z)])), (hH, .inr (1, [.int 32, .int 8, .ref qb, .int 0, .ref qa, .ref qi, .ref qp, .int 12])), (qb, .inl (dB, 8, .inl u_k62)), (qp, .inr (3, [.long iv.1, .long iv.2.1, .long iv.2.2.1, .long iv.2.2.2.1, .long iv.2.2.2.2])), (hm, .inr (4, [.ref mt, .int (nI z), .ref mm, .int 0, .ref md]))] := hD
        refine lv_goto (tgt := 278) hx hb dL_law_252 (by decide) ?_
        refine lv_iinc (v := (nI (6 * (j + 1)))) (lv' := [(3, .int (nI (6 * (j + 1)))), (0, .ref b), (1, .ref hd), (2, .ref hm)]) hx hb dL_law_278 hl (k := 3) rfl (ii6 _) (by decide) rfl (fun ls hl => ?_)
        refine lv_goto (tgt := 18) hx hb dL_law_281 (by decide) ?_
        refine W.widen (k := 12 + 5 * (j + 1)) (n := 20000 + 30 * (j + 1)) (show 12 + 5 * j + 0 + 0 ≤ _ by omega) (show 20000 + 30 * j + 0 + 0 ≤ _ by omega) ?_
        exact ih (j + 1) hH qb qa qi qp z 0 T M oo G u_k62 iv (by omega) hz (Nat.zero_le _) hfit (Rp_0 M u_k62) hog _ _ _ (hP.sub [6, 7, 8, 0, 9, 1, 2, 10, 3, 4, 5] rfl) (hD.sub [6, 7, 8, 0, 9, 1, 2, 10, 3, 4, 5] (by decide) rfl) hS (lv_sub hl [1, 2, 3, 0] rfl)
      · skip
        subst h
        refine lv_tableIn (off := 222) (tgt := 255) hx hb dL_law_33 (by decide) (by decide) (by decide) (by decide) ?_
        refine lv_aload_n hx hb dL_law_255 rfl (lv_at hl 1 rfl) ?_
        refine lv_aload_n hx hb dL_law_256 rfl (lv_at hl 0 rfl) ?_
        refine lv_iload_n hx hb dL_law_257 rfl (lv_at hl 3 rfl) ?_
        refine lv_iconst (v := 1) hx hb dL_law_258 (by decide) ?_
        refine lv_iadd hx hb dL_law_259 ?_
        refine nmTi (b := (nI (6 * j + 1))) (nI_add (6 * j) 1) ?_
        refine va_sld hx hb hXs hbl (fun q => absurd (hA2 b q) (Nat.not_le.mpr hbl)) hS (vp_in_nI (by omega) (by omega)) dL_law_260 ?_
        refine nmTi (b := (sc (6 * j + 1))) (cl_f sc (by omega)) ?_
        refine cl_i [(hd, .inr (0, [.ref hH, .ref ho, .int (nI n), .ref ht, .int (nI z)])), (ho, .inl (dB, 32, .inl oo))] [(hH, .inr (1, [.int 32, .int 8, .ref qb, .int (nI (n % 8)), .ref qa, .ref qi, .ref qp, .int 12])), (qb, .inl (dB, 8, .inl buf)), (qi, .inr (2, [.ref hH])), (qp, .inr (3, [.long x.1, .long x.2.1, .long x.2.2.1, .long x.2.2.2.1, .long x.2.2.2.2])), (ht, .inl (dB, 1024, .inl T)), (hm, .inr (4, [.ref mt, .int (nI z), .ref mm, .int (nI n), .ref md])), (mt, .inl (dB, 1024, .inl T)), (mm, .inl (dB, 16384, .inl M)), (md, .inl (dN, 32, .inl G))] [0, 5] [1, 2, 3, 4, 6, 7, 8, 9, 10] rfl rfl (by decide) (by decide) hP hD hS hA (va_runV (As := [.int (sc (6 * j + 1))]) (rest := []) ⟨hx, hb, hml, hown, hts⟩ (m_out l D dB dN dL hd ho (.ref hH) (.ref ht) (nI n) (nI z) (sc (6 * j + 1)) oo _) (cwV 1 hts (lw_V q549 q550 q551 q7 q552) rfl rfl rfl (by decide +kernel) ⟨Nat.le_of_ble_eq_true rfl, Nat.le_of_ble_eq_true rfl⟩) (pvV (ci := 0) (q0 := 0) (C := RX0) [0, 5] rfl (by decide) hP hK hD hS hA hX rfl rfl) rfl rfl hl.1 rfl (lv_room (Nat.le_of_ble_eq_true rfl)) dL_law_261 ⟨(show 12 + 5 * j + 0 ≤ 600096 by omega), (show 20000 + 30 * j + 0 ≤ 7301386 by omega)⟩) (fun r_k74 u_k72 H locs hw_k73 hP hD hS => ?_)
        have hP : va_P D CL [(hH, .inr (1, [.int 32, .int 8, .ref qb, .int (nI (n % 8)), .ref qa, .ref qi, .ref qp, .int 12])), (qb, .inl (dB, 8, .inl buf)), (qi, .inr (2, [.ref hH])), (qp, .inr (3, [.long x.1, .long x.2.1, .long x.2.2.1, .long x.2.2.2.1, .long x.2.2.2.2])), (ht, .inl (dB, 1024, .inl T)), (hm, .inr (4, [.ref mt, .int (nI z), .ref mm, .int (nI n), .ref md])), (mt, .inl (dB, 1024, .inl T)), (mm, .inl (dB, 16384, .inl M)), (md, .inl (dN, 32, .inl G)), (hd, .inr (0, [.ref hH, .ref ho, .int (nI n), .ref ht, .int (nI z)])), (ho, .inl (dB, 32, .inl oo))] H := hP
        have hD : va_D A [(hH, .inr (1, [.int 32, .int 8, .ref qb, .int (nI (n % 8)), .ref qa, .ref qi, .ref qp, .int 12])), (qb, .inl (dB, 8, .inl buf)), (qi, .inr (2, [.ref hH])), (qp, .inr (3, [.long x.1, .long x.2.1, .long x.2.2.1, .long x.2.2.2.1, .long x.2.2.2.2])), (ht, .inl (dB, 1024, .inl T)), (hm, .inr (4, [.ref mt, .int (nI z), .ref mm, .int (nI n), .ref md])), (mt, .inl (dB, 1024, .inl T)), (mm, .inl (dB, 16384, .inl M)), (md, .inl (dN, 32, .inl G)), (hd, .inr (0, [.ref hH, .ref ho, .int (nI n), .ref ht, .int (nI z)])), (ho, .inl (dB, 32, .inl oo))] := hD
        refine lv_aload_n hx hb dL_law_264 rfl (lv_at hl 2 rfl) ?_
        refine lv_aload_n hx hb dL_law_265 rfl (lv_at hl 0 rfl) ?_
        refine lv_iload_n hx hb dL_law_266 rfl (lv_at hl 3 rfl) ?_
        refine lv_iconst (v := 1) hx hb dL_law_267 (by decide) ?_
        refine lv_iadd hx hb dL_law_268 ?_
        refine nmTi (b := (nI (6 * j + 1))) (nI_add (6 * j) 1) ?_
        refine va_sld hx hb hXs hbl (fun q => absurd (hA2 b q) (Nat.not_le.mpr hbl)) hS (vp_in_nI (by omega) (by omega)) dL_law_269 ?_
        refine nmTi (b := (sc (6 * j + 1))) (cl_f sc (by omega)) ?_
        refine cl_i [(hm, .inr (4, [.ref mt, .int (nI z), .ref mm, .int (nI n), .ref md])), (md, .inl (dN, 32, .inl G))] [(hH, .inr (1, [.int 32, .int 8, .ref qb, .int (nI (n % 8)), .ref qa, .ref qi, .ref qp, .int 12])), (qb, .inl (dB, 8, .inl buf)), (qi, .inr (2, [.ref hH])), (qp, .inr (3, [.long x.1, .long x.2.1, .long x.2.2.1, .long x.2.2.2.1, .long x.2.2.2.2])), (ht, .inl (dB, 1024, .inl T)), (mt, .inl (dB, 1024, .inl T)), (mm, .inl (dB, 16384, .inl M)), (hd, .inr (0, [.ref hH, .ref ho, .int (nI n), .ref ht, .int (nI z)])), (ho, .inl (dB, 32, .inl oo))] [5, 8] [0, 1, 2, 3, 4, 6, 7, 9, 10] rfl rfl (by decide) (by decide) hP hD hS hA (va_runV (As := [.int (sc (6 * j + 1))]) (rest := [.int r_k74]) ⟨hx, hb, hml, hown, hts⟩ (m_mout l D dB dN dL hm md (.ref mt) (.ref mm) (nI z) (nI n) (sc (6 * j + 1)) G _) (cwV 1 hts (lw_V q624 q625 q626 q24 q627) rfl rfl rfl (by decide +kernel) ⟨Nat.le_of_ble_eq_true rfl, Nat.le_of_ble_eq_true rfl⟩) (pvV (ci := 4) (q0 := 5) (C := RX10) [5, 8] rfl (by decide) hP hK hD hS hA hX rfl rfl) rfl rfl hl.1 rfl (lv_room (Nat.le_of_ble_eq_true rfl)) dL_law_270 ⟨(show 12 + 5 * j + 0 + 0 ≤ 600096 by omega), (show 20000 + 30 * j + 0 + 0 ≤ 7301386 by omega)⟩) (fun r_k77 u_k75 H locs hw_k76 hP hD hS => ?_)
        have hP : va_P D CL [(hH, .inr (1, [.int 32, .int 8, .ref qb, .int (nI (n % 8)), .ref qa, .ref qi, .ref qp, .int 12])), (qb, .inl (dB, 8, .inl buf)), (qi, .inr (2, [.ref hH])), (qp, .inr (3, [.long x.1, .long x.2.1, .long x.2.2.1, .long x.2.2.2.1, .long x.2.2.2.2])), (ht, .inl (dB, 1024, .inl T)), (mt, .inl (dB, 1024, .inl T)), (mm, .inl (dB, 16384, .inl M)), (hd, .inr (0, [.ref hH, .ref ho, .int (nI n), .ref ht, .int (nI z)])), (ho, .inl (dB, 32, .inl oo)), (hm, .inr (4, [.ref mt, .int (nI z), .ref mm, .int (nI n), .ref md])), (md, .inl (dN, 32, .inl G))] H := hP
        have hD : va_D A [(hH, .inr (1, [.int 32, .int 8, .ref qb, .int (nI (n % 8)), .ref qa, .ref qi, .ref qp, .int 12])), (qb, .inl (dB, 8, .inl buf)), (qi, .inr (2, [.ref hH])), (qp, .inr (3, [.long x.1, .long x.2.1, .long x.2.2.1, .long x.2.2.2.1, .long x.2.2.2.2])), (ht, .inl (dB, 1024, .inl T)), (mt, .inl (dB, 1024, .inl T)), (mm, .inl (dB, 16384, .inl M)), (hd, .inr (0, [.ref hH, .ref ho, .int (nI n), .ref ht, .int (nI z)])), (ho, .inl (dB, 32, .inl oo)), (hm, .inr (4, [.ref mt, .int (nI z), .ref mm, .int (nI n), .ref md])), (md, .inl (dN, 32, .inl G))] := hD
        refine lv_icmp_eq (tgt := 278) hx hb dL_law_273 (by decide) (fun _ => ?_) (fun c_k78 => absurd ((show r_k74 = _ from hw_k73).trans ((hog _ (fo_lt _ (by decide))).trans (show r_k77 = _ from hw_k76).symm)) c_k78)
        refine lv_iinc (v := (nI (6 * (j + 1)))) (lv' := [(3, .int (nI (6 * (j + 1)))), (0, .ref b), (1, .ref hd), (2, .ref hm)]) hx hb dL_law_278 hl (k := 3) rfl (ii6 _) (by decide) rfl (fun ls hl => ?_)
        refine lv_goto (tgt := 18) hx hb dL_law_281 (by decide) ?_
        refine W.widen (k := 12 + 5 * (j + 1)) (n := 20000 + 30 * (j + 1)) (show 12 + 5 * j + 0 + 0 ≤ _ by omega) (show 20000 + 30 * j + 0 + 0 ≤ _ by omega) ?_
        exact ih (j + 1) hH qb qa qi qp z n T M oo G buf x (by omega) hz hn hfit hR hog _ _ _ (hP.sub [7, 0, 1, 2, 3, 8, 4, 9, 5, 6, 10] rfl) (hD.sub [7, 0, 1, 2, 3, 8, 4, 9, 5, 6, 10] (by decide) rfl) hS (lv_sub hl [1, 2, 3, 0] rfl)
end
section
/-! the claim -/
set_option maxRecDepth 100000
set_option maxHeartbeats 4000000 in
theorem whole_start {p : Program} {e : Env} {s : State} {m : MethodId} {below : List Frame} {meth : Method} {c : Code} (l : Launch) (hflags : l.flags = flags0) {b L : Nat} {xs : Nat → Int32} (hL : L ≤ 288) (C0 : lw_At p s m meth c b L xs) : W p l e room_1 s m #[Value.ref b] below meth c s.heap [] 0 0 (lw_Z below #[Value.ref b] s) (entryFrame m ([Value.ref b] : List Value).toArray 4) := by
  obtain ⟨hx, hb, hr, hml, hown, hts0, hXs, hbl, hlocks, hgv⟩ := C0
  obtain ⟨D, dB, dN, dL, hK⟩ := K_start hts0
  have hX : xt (fun q : Nat => s.heap.size ≤ q) s s.heap := xt_start hts0 hgv (fun a h z => absurd z (Nat.not_le.mpr h))
  have hts : ∀ w ∈ lw_all, w.before #[Value.ref b] s = true := fun w h => hts0 w (lw_all_tbl h)
  have hA : ∀ q : Nat, s.heap.size ≤ q → (fun q : Nat => s.heap.size ≤ q) q := fun _ h => h
  generalize hAe : (fun q : Nat => s.heap.size ≤ q) = A at hX hA
  have hA2 : ∀ q : Nat, A q → s.heap.size ≤ q := fun q h => by rw [← hAe] at h; exact h
  have hS : va_S A s.heap s.heap [] := va_S.rf
  have hP : va_P D CL [] s.heap := fun k q h => by simp at h
  have hD : va_D A [] := ⟨fun i j p q h => by simp at h, fun k q h => by simp at h⟩
  have hl := lv_entry ([.ref b]) (n := 4) (Nat.le_of_ble_eq_true rfl)
  rw [lg_entry_eq]
  generalize (lg_sl ([.ref b]) ++ List.replicate (4 - (lg_sl ([.ref b])).length) Slot.unset).toArray = ls at hl ⊢
  have hl : lv_has ls 4 [(0, .ref b)] := hl
  refine va_new (ci := 0) (fs := [.null, .null, .int 0, .null, .int 0]) (C := RX0) (T := TX0) (N := 5) hx hb hts in_X0 tyX0 tyX0_ok hown (hts _ q32) (hts _ q33) (hts _ q7) hK hP hD hS hA rfl (fun j hj => by rcases (show j = 0 ∨ j = 1 ∨ j = 2 ∨ j = 3 ∨ j = 4 by omega) with rfl|rfl|rfl|rfl|rfl <;> rfl) (Nat.le_of_ble_eq_true rfl) (Nat.le_of_ble_eq_true rfl) dL_law_0 (fun q_1 H hP hD hS => ?_)
  have hP : va_P D CL [(q_1, .inr (0, [.null, .null, .int 0, .null, .int 0]))] H := hP
  have hD : va_D A [(q_1, .inr (0, [.null, .null, .int 0, .null, .int 0]))] := hD
  refine lv_dup hx hb dL_law_3 rfl ?_
  refine cl_v [(q_1, .inr (0, [.null, .null, .int 0, .null, .int 0]))] [] [0] [] rfl rfl (by decide) (by decide) hP hD hS hA (va_runI (As := []) (rest := [.ref q_1]) ⟨hx, hb, hml, hown, hts⟩ (m_deskI l D dB dN dL q_1 _) (cwI 0 hts (lw_meth q36) rfl rfl rfl (hts _ q7) (hts _ q34) (hts _ q35) rfl (by decide +kernel) ⟨Nat.le_of_ble_eq_true rfl, Nat.le_of_ble_eq_true rfl⟩) (pv_ (As := [.ref q_1]) [0] rfl (by decide) hP hK hD hS hA hX) rfl rfl hl.1 rfl (lv_room (Nat.le_of_ble_eq_true rfl)) dL_law_4 ⟨Nat.le_of_ble_eq_true rfl, Nat.le_of_ble_eq_true rfl⟩) (fun u_2 H locs hw_3 hP hD hS => ?_)
  obtain ⟨hH, qb, qi, qp, qa, buf, ho, ht⟩ := u_2
  have hP : va_P D CL [(q_1, .inr (0, [.ref hH, .ref ho, .int 0, .ref ht, .int 0])), (hH, .inr (1, [.int 32, .int 8, .ref qb, .int 0, .ref qa, .ref qi, .ref qp, .int 12])), (qb, .inl (dB, 8, .inl buf)), (qi, .inr (2, [.ref hH])), (qp, .inr (3, [.long iv.1, .long iv.2.1, .long iv.2.2.1, .long iv.2.2.2.1, .long iv.2.2.2.2])), (ho, .inl (dB, 32, .inl (fun _ => 0))), (ht, .inl (dB, 1024, .inl (fun _ => 0)))] H := hP
  have hD : va_D A [(q_1, .inr (0, [.ref hH, .ref ho, .int 0, .ref ht, .int 0])), (hH, .inr (1, [.int 32, .int 8, .ref qb, .int 0, .ref qa, .ref qi, .ref qp, .int 12])), (qb, .inl (dB, 8, .inl buf)), (qi, .inr (2, [.ref hH])), (qp, .inr (3, [.long iv.1, .long iv.2.1, .long iv.2.2.1, .long iv.2.2.2.1, .long iv.2.2.2.2])), (ho, .inl (dB, 32, .inl (fun _ => 0))), (ht, .inl (dB, 1024, .inl (fun _ => 0)))] := hD
  refine lv_astore_n (lv' := [(1, .ref q_1), (0, .ref b)]) hx hb dL_law_7 rfl hl (by decide) rfl (fun ls hl => ?_)
  refine va_new (ci := 4) (fs := [.null, .int 0, .null, .int 0, .null]) (C := RX10) (T := TX10) (N := 5) hx hb hts in_X10 tyX10 tyX10_ok hown (hts _ q553) (hts _ q554) (hts _ q24) hK hP hD hS hA rfl (fun j hj => by rcases (show j = 0 ∨ j = 1 ∨ j = 2 ∨ j = 3 ∨ j = 4 by omega) with rfl|rfl|rfl|rfl|rfl <;> rfl) (Nat.le_of_ble_eq_true rfl) (Nat.le_of_ble_eq_true rfl) dL_law_8 (fun q_5 H hP hD hS => ?_)
  have hP : va_P D CL [(q_1, .inr (0, [.ref hH, .ref ho, .int 0, .ref ht, .int 0])), (hH, .inr (1, [.int 32, .int 8, .ref qb, .int 0, .ref qa, .ref qi, .ref qp, .int 12])), (qb, .inl (dB, 8, .inl buf)), (qi, .inr (2, [.ref hH])), (qp, .inr (3, [.long iv.1, .long iv.2.1, .long iv.2.2.1, .long iv.2.2.2.1, .long iv.2.2.2.2])), (ho, .inl (dB, 32, .inl (fun _ => 0))), (ht, .inl (dB, 1024, .inl (fun _ => 0))), (q_5, .inr (4, [.null, .int 0, .null, .int 0, .null]))] H := hP
  have hD : va_D A [(q_1, .inr (0, [.ref hH, .ref ho, .int 0, .ref ht, .int 0])), (hH, .inr (1, [.int 32, .int 8, .ref qb, .int 0, .ref qa, .ref qi, .ref qp, .int 12])), (qb, .inl (dB, 8, .inl buf)), (qi, .inr (2, [.ref hH])), (qp, .inr (3, [.long iv.1, .long iv.2.1, .long iv.2.2.1, .long iv.2.2.2.1, .long iv.2.2.2.2])), (ho, .inl (dB, 32, .inl (fun _ => 0))), (ht, .inl (dB, 1024, .inl (fun _ => 0))), (q_5, .inr (4, [.null, .int 0, .null, .int 0, .null]))] := hD
  refine lv_dup hx hb dL_law_11 rfl ?_
  refine cl_v [(q_5, .inr (4, [.null, .int 0, .null, .int 0, .null]))] [(q_1, .inr (0, [.ref hH, .ref ho, .int 0, .ref ht, .int 0])), (hH, .inr (1, [.int 32, .int 8, .ref qb, .int 0, .ref qa, .ref qi, .ref qp, .int 12])), (qb, .inl (dB, 8, .inl buf)), (qi, .inr (2, [.ref hH])), (qp, .inr (3, [.long iv.1, .long iv.2.1, .long iv.2.2.1, .long iv.2.2.2.1, .long iv.2.2.2.2])), (ho, .inl (dB, 32, .inl (fun _ => 0))), (ht, .inl (dB, 1024, .inl (fun _ => 0)))] [7] [0, 1, 2, 3, 4, 5, 6] rfl rfl (by decide) (by decide) hP hD hS hA (va_runI (As := []) (rest := [.ref q_5]) ⟨hx, hb, hml, hown, hts⟩ (m_modelI l D dB dN dL q_5 _) (cwI 0 hts (lw_meth q557) rfl rfl rfl (hts _ q24) (hts _ q555) (hts _ q556) rfl (by decide +kernel) ⟨Nat.le_of_ble_eq_true rfl, Nat.le_of_ble_eq_true rfl⟩) (pv_ (As := [.ref q_5]) [7] rfl (by decide) hP hK hD hS hA hX) rfl rfl hl.1 rfl (lv_room (Nat.le_of_ble_eq_true rfl)) dL_law_12 ⟨Nat.le_of_ble_eq_true rfl, Nat.le_of_ble_eq_true rfl⟩) (fun u_6 H locs hw_7 hP hD hS => ?_)
  obtain ⟨mt, mm, md⟩ := u_6
  have hP : va_P D CL [(q_1, .inr (0, [.ref hH, .ref ho, .int 0, .ref ht, .int 0])), (hH, .inr (1, [.int 32, .int 8, .ref qb, .int 0, .ref qa, .ref qi, .ref qp, .int 12])), (qb, .inl (dB, 8, .inl buf)), (qi, .inr (2, [.ref hH])), (qp, .inr (3, [.long iv.1, .long iv.2.1, .long iv.2.2.1, .long iv.2.2.2.1, .long iv.2.2.2.2])), (ho, .inl (dB, 32, .inl (fun _ => 0))), (ht, .inl (dB, 1024, .inl (fun _ => 0))), (q_5, .inr (4, [.ref mt, .int 0, .ref mm, .int 0, .ref md])), (mt, .inl (dB, 1024, .inl (fun _ => 0))), (mm, .inl (dB, 16384, .inl (fun _ => 0))), (md, .inl (dN, 32, .inl (fun _ => 0)))] H := hP
  have hD : va_D A [(q_1, .inr (0, [.ref hH, .ref ho, .int 0, .ref ht, .int 0])), (hH, .inr (1, [.int 32, .int 8, .ref qb, .int 0, .ref qa, .ref qi, .ref qp, .int 12])), (qb, .inl (dB, 8, .inl buf)), (qi, .inr (2, [.ref hH])), (qp, .inr (3, [.long iv.1, .long iv.2.1, .long iv.2.2.1, .long iv.2.2.2.1, .long iv.2.2.2.2])), (ho, .inl (dB, 32, .inl (fun _ => 0))), (ht, .inl (dB, 1024, .inl (fun _ => 0))), (q_5, .inr (4, [.ref mt, .int 0, .ref mm, .int 0, .ref md])), (mt, .inl (dB, 1024, .inl (fun _ => 0))), (mm, .inl (dB, 16384, .inl (fun _ => 0))), (md, .inl (dN, 32, .inl (fun _ => 0)))] := hD
  refine lv_astore_n (lv' := [(2, .ref q_5), (1, .ref q_1), (0, .ref b)]) hx hb dL_law_15 rfl hl (by decide) rfl (fun ls hl => ?_)
  refine lv_iconst (v := 0) hx hb dL_law_16 (by decide) ?_
  refine lv_istore_n (lv' := [(3, .int 0), (2, .ref q_5), (1, .ref q_1), (0, .ref b)]) hx hb dL_law_17 rfl hl (by decide) rfl (fun ls hl => ?_)
  refine W.widen (k := 12 + 5 * 0) (n := 20000 + 30 * 0) (Nat.le_of_ble_eq_true rfl) (Nat.le_of_ble_eq_true rfl) ?_
  exact law_loop hx hb hr hlocks hml hts hown hK hA hA2 hX hXs hbl hL q_1 ho ht q_5 mt mm md 49 0 hH qb qa qi qp 0 0 (fun _ => 0) (fun _ => 0) (fun _ => 0) (fun _ => 0) buf iv rfl (Nat.zero_le _) (Nat.zero_le _) sb_fit0 (Rp_0 _ buf) (fun _ _ => rfl) _ _ _ (hP.sub [0, 1, 2, 3, 4, 5, 6, 7, 8, 9, 10] rfl) (hD.sub [0, 1, 2, 3, 4, 5, 6, 7, 8, 9, 10] (by decide) rfl) hS (lv_sub hl [3, 2, 1, 0] rfl)
set_option maxHeartbeats 4000000 in
theorem lw_walk (l : Launch) (hflags : l.flags = flags0) (b : Addr) (xs : List Int32) : MetFree l x (headSpec (Jvm.Cond.code x code maxLocals ret :: tables_1) room_1) (lw_P b xs) (fun _ _ _ _ _ => True) lw_Q := by
  refine MetFree.of_bodyS (code := code) (maxLocals := maxLocals) (ret := ret) (by decide) ?_ ?_
  · intro args s m h hn
    obtain ⟨meth, c, h1, h2, h3, h4, h5, h6, -, -⟩ := Cond.code_spec hn (atoms_spec (ws := Jvm.Cond.code x code maxLocals ret :: tables_1) h _ List.mem_cons_self)
    exact ⟨meth, c, h1, h2, h3, h4, h5, h6⟩
  · intro p e s m args below meth c s₁ B hml0 hP _
    obtain ⟨rfl, hx, hbd, hgv⟩ := hP
    obtain ⟨scr, harrAt, hlist, hof, hsmall⟩ := hx
    obtain ⟨hcb, hkn, -, -⟩ := State.arrayAt?_spec harrAt
    have hown : s.vm.findClass R_law = some m.cls := findClass_of_methodNamed B.named
    have hts0 : ∀ c ∈ (Jvm.Cond.code x code maxLocals ret :: tables_1), c.before #[Value.ref b] s = true := atoms_spec (ws := Jvm.Cond.code x code maxLocals ret :: tables_1) B.pre
    have hts : ∀ w ∈ lw_tbl, w.before #[Value.ref b] s = true := k2_hts_sels lw_privs (fun w hw => hts0 w (List.mem_cons_of_mem _ hw)) lw_privs_ok
    have hml : c.maxLocals = 4 := B.maxLocals_eq (hts0 _ List.mem_cons_self)
    have X₀ : Stand p l e room_1 s m #[Value.ref b] below meth c s₁ [] 0 0 := Stand.of_body B
    have hh0 : s₁.heap = s.heap := by rw [B.state]; rfl
    have hsz : scr.slots.size = xs.length := by rw [← Array.length_toList, hlist, List.length_map]
    have hval : ∀ j : Nat, j < xs.length → scr.slots[j]? = some (.int (xs.getD j 0)) := fun j hj => by
      rw [← Array.getElem?_toList, hlist]
      simp [hj]
    have hbl : b < s.heap.size := (Array.getElem?_eq_some_iff.mp hcb).1
    have hX : va_X b xs.length (fun j => xs.getD j 0) s s.heap := ⟨scr, hcb, hof, hkn, hsz, hval⟩
    have K : W p l e room_1 s m #[Value.ref b] below meth c s₁.heap [] 0 0 (lw_Z below #[Value.ref b] s) (entryFrame m ([Value.ref b] : List Value).toArray 4) := by
      rw [hh0]
      exact whole_start l hflags hbd ⟨B.exec, B.bytes, B.returns, hml, hown, hts, hX, hbl, B.notSynchronized, hgv⟩
    obtain ⟨t, a1, o, b1, b2, b3⟩ := K s₁ rfl X₀
    exact ⟨t, o, a1, b1, b2, b3⟩
theorem lw_pre_spec {args : Array Value} {s : State} (h : (Jvm.Cond.and given_1 narrow_1).before args s = true) (hr : rest_1_c.before args s = true) : ∃ (b : Addr) (xs : List Int32), lw_P b xs args s := by
  have hs := flat_of_before _ h
  have hq := flat_of_before _ hr
  have hc : (Cond.count 1).before args s = true := hs _ (by decide +kernel)
  have harr : (Cond.arrayOf (.arg 0) .int).before args s = true := hs _ (by decide +kernel)
  have hle : (Cond.le (.length (.arg 0)) (.int 288)).before args s = true := hs _ (by decide +kernel)
  have hlen : (Cond.isInt (.length (.arg 0))).before args s = true := hq _ (by decide +kernel)
  have hall : (Cond.all (.arg 0) (.isInt (.elem (.arg 0) (.index 0)))).before args s = true := hq _ (by decide +kernel)
  obtain ⟨b, xs, hb, hx⟩ := State.ints_of_pre rfl harr hlen hall
  have hsm : xs.length < 2 ^ 31 := hx.choose_spec.2.2.2
  have hev : (Term.length (.arg 0)).eval args s none [] s = some (.int xs.length.toInt32) := hx.length_eval hb
  have hv := Cond.le_ints hev (show (Term.int 288).eval args s none [] s = some (.int 288) from rfl)
  have hd : xs.length.toInt32 ≤ 288 := by
    simpa [Cond.before, Cond.holds, hv] using hle
  have hN : xs.length ≤ 288 := (Int32.ofNat_le_ofNat hsm (by decide)).mp (show Int32.ofNat xs.length ≤ Int32.ofNat 288 from hd)
  exact ⟨b, xs, Cond.one_arg hc (show args[0]? = some (.ref b) from hb), hx, hN, h⟩
theorem lw_comes (l : Launch) (hflags : l.flags = flags0) : Comes l x (Jvm.Cond.code x code maxLocals ret :: tables_1) room_1 (fun tb e args s => Calls_1 tb e args s ∧ rest_1 tb e args s ∧ Pre_1 tb e args s)
    (fun _ _ args s o t => lw_Q args s o t) := by
  intro p e ha hc hk s m args below hf hfit hheap happ hpre
  obtain ⟨b, xs, hP⟩ := lw_pre_spec hpre.2.2 hpre.2.1
  obtain ⟨k, o, h1, h2, h3, hQ⟩ := lw_walk l hflags b xs p e ha hc hk s m args below hf ((Spec.applies_iff_loose hf).mp happ).1 hP trivial
  exact ⟨k, o, h1, h2, h3, hQ⟩
theorem lw_frame {s t : State} {o : Outcome} {args : Array Value} (h : Framed s o t [] 600096 7301386) :
    Framed s o t (fieldLocs frame_1_writes args s ++ arrayLocs frame_1_arrays args s ++ staticLocs frame_1_statics s) 600096 7301386 := h
theorem lw_limb (L : Cond) (hL : ∀ (args : Array Value) (s t : State), L.after args s (.returned (some (.int 1))) t = true) :
    ArmFor flags0 classFile x code maxLocals ret World_1 tables_1 room_1 Calls_1 rest_1 Pre_1
      (fun tb e a s o t => postC L tb e a s o t ∧ Framed s o t (fieldLocs frame_1_writes a s ++ arrayLocs frame_1_arrays a s ++ staticLocs frame_1_statics s) 600096 7301386) := by
  intro l hflags _ _ p e ha hc hk s m args below hf hfit hheap happ hpre
  obtain ⟨k, o, h1, h2, h3, rfl, hF⟩ := lw_comes l hflags p e ha hc hk s m args below hf hfit hheap happ hpre
  exact ⟨k, _, h1, h2, h3, hL args s _, lw_frame hF⟩
theorem i_vc : Claimed_1_1 ∧ Claimed_1_2 := ⟨lw_limb limb_1_1 (fun args s t => by simp [limb_1_1, Cond.after, Cond.holds, Cond.value]), lw_limb limb_1_2 (fun args s t => Cond.after_iff.mpr (by
  first | (rw [show limb_1_2 = Cond.eq .result (.int 1) from rfl, Cond.eq_ints (x := 1) (y := 1) rfl rfl]; simp; done) | (simp [limb_1_2, Cond.value, Term.eval]; done)))⟩
end
