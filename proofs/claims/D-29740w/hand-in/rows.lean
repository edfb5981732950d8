section
-- ===== PART A: goes FIRST, ahead of the names: the tables' words, and 'selects' of the private methods out of them =====
/-- a private method of a class that the tables say can be made, by its rows of tables_1 -/
def lw_okq (q : MethodName × Nat) : Prop := (q.1.cls ≠ "java/lang/invoke/MethodHandle" ∧ q.1.cls ≠ "java/lang/invoke/VarHandle") ∧ Cond.instantiable q.1.cls q.2 ∈ tables_1 ∧ Cond.privateMethod q.1 ∈ tables_1 ∧ Cond.instanceMethod q.1 ∈ tables_1
set_option maxRecDepth 100000
theorem lw_t1 {w : Cond} (h : w ∈ tables_1_1) : w ∈ tables_1 := List.mem_append_left _ h
theorem lw_t2 {w : Cond} (h : w ∈ tables_1_2) : w ∈ tables_1 := List.mem_append_right _ h
theorem lw_p0 : lw_okq (⟨"SkipjackDesk", "run", "(ZI)V"⟩, 3) := ⟨⟨by decide +kernel, by decide +kernel⟩, lw_t1 (List.mem_of_getElem? (i := 20) rfl), lw_t1 (List.mem_of_getElem? (i := 18) rfl), lw_t1 (List.mem_of_getElem? (i := 19) rfl)⟩
theorem lw_p1 : lw_okq (⟨"java/lang/Throwable", "fillInStackTrace", "(I)Ljava/lang/Throwable;"⟩, 6) := ⟨⟨by decide +kernel, by decide +kernel⟩, lw_t1 (List.mem_of_getElem? (i := 120) rfl), lw_t1 (List.mem_of_getElem? (i := 118) rfl), lw_t1 (List.mem_of_getElem? (i := 119) rfl)⟩
theorem lw_p2 : lw_okq (⟨"SkipjackEngine", "g", "(II)I"⟩, 5) := ⟨⟨by decide +kernel, by decide +kernel⟩, lw_t1 (List.mem_of_getElem? (i := 26) rfl), lw_t1 (List.mem_of_getElem? (i := 220) rfl), lw_t1 (List.mem_of_getElem? (i := 221) rfl)⟩
theorem lw_p3 : lw_okq (⟨"SkipjackEngine", "h", "(II)I"⟩, 5) := ⟨⟨by decide +kernel, by decide +kernel⟩, lw_t1 (List.mem_of_getElem? (i := 26) rfl), lw_t1 (List.mem_of_getElem? (i := 230) rfl), lw_t1 (List.mem_of_getElem? (i := 231) rfl)⟩
def lw_privs_1 : List (MethodName × Nat) := [(⟨"SkipjackDesk", "run", "(ZI)V"⟩, 3), (⟨"java/lang/Throwable", "fillInStackTrace", "(I)Ljava/lang/Throwable;"⟩, 6), (⟨"SkipjackEngine", "g", "(II)I"⟩, 5), (⟨"SkipjackEngine", "h", "(II)I"⟩, 5)]
theorem lw_r1 : ∀ q ∈ lw_privs_1, lw_okq q := List.forall_mem_cons.mpr ⟨lw_p0, List.forall_mem_cons.mpr ⟨lw_p1, List.forall_mem_cons.mpr ⟨lw_p2, List.forall_mem_cons.mpr ⟨lw_p3, fun _ h => absurd h List.not_mem_nil⟩⟩⟩⟩
def lw_privs : List (MethodName × Nat) := lw_privs_1
def lw_tbl : List Cond := k2_sels lw_privs ++ tables_1
theorem lw_privs_ok : ∀ q ∈ lw_privs, lw_okq q := lw_r1
-- ===== ONE list of words for every method: the tables' words that hold all through a run =====
def lw_all : List Cond := lw_tbl.filter goodWord
/-- a word of the tables by its place: claim/WORDS.tsv -/
theorem lw_w {w : Cond} (i : Nat) (h : lw_tbl[i]? = some w) (g : goodWord w = true) : w ∈ lw_all := List.mem_filter.mpr ⟨List.mem_of_getElem? h, g⟩
theorem lw_all_tbl {w : Cond} (h : w ∈ lw_all) : w ∈ lw_tbl := (List.mem_filter.mp h).1
theorem lw_self : GoodIn lw_all lw_all := fun w h => ⟨h, good_of_word (List.mem_filter.mp h).2⟩
/-- a class's field words, by their places -/
theorem lw_in (ws : List Cond) (ps : List Nat) (hp : ws = ps.filterMap (fun i => lw_tbl[i]?)) (hg : ws.all goodWord = true) : ∀ w ∈ ws, w ∈ lw_all := by
  intro w h
  have h1 := List.all_eq_true.mp hg w h
  rw [hp] at h
  obtain ⟨i, -, hi⟩ := List.mem_filterMap.mp h
  exact lw_w i hi h1
/-- the words of a contract for the method y with code b, L locals, answer r -/
abbrev ws_ (y : MethodName) (b : ByteArray) (L : Nat) (r : Option FieldType) : List Cond := Cond.code y b L r :: lw_all
theorem lw_meth {y : MethodName} {b : ByteArray} {L : Nat} {r : Option FieldType} (h : Cond.code y b L r ∈ lw_all) : GoodIn lw_all (ws_ y b L r) := by
  intro w hw
  rcases List.mem_cons.mp hw with e | e
  · rw [e]
    exact lw_self _ h
  · exact lw_self _ e
theorem lw_app {a c : List Cond} (ha : ∀ w ∈ a, w ∈ lw_all) (hc : GoodIn lw_all c) : GoodIn lw_all (a ++ c) := by
  intro w hw
  rcases List.mem_append.mp hw with e | e
  · exact lw_self w (ha w e)
  · exact hc w e
/-- what a call through an object asks: cwV n hts (lw_V ..) -/
theorem lw_V {own : String} {idx : Nat} {C : String} {y : MethodName} {b : ByteArray} {L : Nat} {r : Option FieldType} (h1 : Cond.methodLink own idx y ∈ lw_all) (h2 : Cond.instanceMethod y ∈ lw_all) (h3 : Cond.selects C y y ∈ lw_all) (h4 : Cond.initialized C ∈ lw_all) (h5 : Cond.code y b L r ∈ lw_all) : GoodIn lw_all (wsV own idx C y (ws_ y b L r)) := by
  refine lw_app ?_ (lw_meth h5)
  intro w hw
  simp only [List.mem_cons, List.not_mem_nil, or_false] at hw
  rcases hw with e | e | e | e
  · rw [e]; exact h1
  · rw [e]; exact h2
  · rw [e]; exact h3
  · rw [e]; exact h4
/-- what a static call asks: va_cwS n hts (lw_S ..) -/
theorem lw_S {own : String} {idx : Nat} {y : MethodName} {b : ByteArray} {L : Nat} {r : Option FieldType} (h1 : Cond.methodLink own idx y ∈ lw_all) (h2 : Cond.static y ∈ lw_all) (h3 : Cond.initialized y.cls ∈ lw_all) (h4 : Cond.code y b L r ∈ lw_all) : GoodIn lw_all (va_wsS own idx y (ws_ y b L r)) := by
  refine lw_app ?_ (lw_meth h4)
  intro w hw
  simp only [List.mem_cons, List.not_mem_nil, or_false] at hw
  rcases hw with e | e | e
  · rw [e]; exact h1
  · rw [e]; exact h2
  · rw [e]; exact h3
/-- the words of a contract for a method WITH HANDLERS (hh: its table) -/
abbrev wsW_ (y : MethodName) (b : ByteArray) (L : Nat) (r : Option FieldType) (hh : List (Nat × Nat × Nat × Nat)) : List Cond := Cond.codeWith y b L r hh :: lw_all
theorem lw_methW {y : MethodName} {b : ByteArray} {L : Nat} {r : Option FieldType} {hh : List (Nat × Nat × Nat × Nat)} (h : Cond.codeWith y b L r hh ∈ lw_all) : GoodIn lw_all (wsW_ y b L r hh) := by
  intro w hw
  rcases List.mem_cons.mp hw with e | e
  · rw [e]
    exact lw_self _ h
  · exact lw_self _ e
/-- any list of words by their places (lw_in), good -/
theorem lw_good {ws : List Cond} (h : ∀ w ∈ ws, w ∈ lw_all) : GoodIn lw_all ws := fun w hw => lw_self w (h w hw)
/-- what a call of a method with handlers asks: vx_cwVW n hts (lw_VW ..), vx_cwSW n hts (lw_SW ..) -/
theorem lw_VW {own : String} {idx : Nat} {C : String} {y : MethodName} {b : ByteArray} {L : Nat} {r : Option FieldType} {hh : List (Nat × Nat × Nat × Nat)} (h1 : Cond.methodLink own idx y ∈ lw_all) (h2 : Cond.instanceMethod y ∈ lw_all) (h3 : Cond.selects C y y ∈ lw_all) (h4 : Cond.initialized C ∈ lw_all) (h5 : Cond.codeWith y b L r hh ∈ lw_all) : GoodIn lw_all (wsV own idx C y (wsW_ y b L r hh)) := by
  refine lw_app ?_ (lw_methW h5)
  intro w hw
  simp only [List.mem_cons, List.not_mem_nil, or_false] at hw
  rcases hw with e | e | e | e
  · rw [e]; exact h1
  · rw [e]; exact h2
  · rw [e]; exact h3
  · rw [e]; exact h4
theorem lw_SW {own : String} {idx : Nat} {y : MethodName} {b : ByteArray} {L : Nat} {r : Option FieldType} {hh : List (Nat × Nat × Nat × Nat)} (h1 : Cond.methodLink own idx y ∈ lw_all) (h2 : Cond.static y ∈ lw_all) (h3 : Cond.initialized y.cls ∈ lw_all) (h4 : Cond.codeWith y b L r hh ∈ lw_all) : GoodIn lw_all (va_wsS own idx y (wsW_ y b L r hh)) := by
  refine lw_app ?_ (lw_methW h4)
  intro w hw
  simp only [List.mem_cons, List.not_mem_nil, or_false] at hw
  rcases hw with e | e | e
  · rw [e]; exact h1
  · rw [e]; exact h2
  · rw [e]; exact h3
/-- a word by its place in its run of the tables -/
theorem lw_at {r : List Cond} (hr : ∀ w ∈ r, w ∈ lw_tbl) {w : Cond} (i : Nat) (h : r[i]? = some w) : w ∈ lw_tbl := hr w (List.mem_of_getElem? h)
theorem lw_g {w : Cond} (h : w ∈ lw_tbl) (g : goodWord w = true) : w ∈ lw_all := List.mem_filter.mpr ⟨h, g⟩
theorem lw_ms : ∀ w ∈ k2_sels lw_privs, w ∈ lw_tbl := fun w h => show w ∈ k2_sels lw_privs ++ tables_1 from List.mem_append_left _ h
theorem lw_m1 : ∀ w ∈ tables_1_1, w ∈ lw_tbl := fun w h => show w ∈ k2_sels lw_privs ++ tables_1 from List.mem_append_right (k2_sels lw_privs) (show w ∈ tables_1 from List.mem_append_left _ h)
theorem lw_m2 : ∀ w ∈ tables_1_2, w ∈ lw_tbl := fun w h => show w ∈ k2_sels lw_privs ++ tables_1 from List.mem_append_right (k2_sels lw_privs) (show w ∈ tables_1 from List.mem_append_right _ h)
theorem qs0 : (Cond.selects "SkipjackDesk" ⟨"SkipjackDesk", "run", "(ZI)V"⟩ ⟨"SkipjackDesk", "run", "(ZI)V"⟩) ∈ lw_all := lw_g (lw_at lw_ms 0 rfl) rfl
theorem qs1 : (Cond.selects "java/lang/Throwable" ⟨"java/lang/Throwable", "fillInStackTrace", "(I)Ljava/lang/Throwable;"⟩ ⟨"java/lang/Throwable", "fillInStackTrace", "(I)Ljava/lang/Throwable;"⟩) ∈ lw_all := lw_g (lw_at lw_ms 1 rfl) rfl
theorem qs2 : (Cond.selects "SkipjackEngine" ⟨"SkipjackEngine", "g", "(II)I"⟩ ⟨"SkipjackEngine", "g", "(II)I"⟩) ∈ lw_all := lw_g (lw_at lw_ms 2 rfl) rfl
theorem qs3 : (Cond.selects "SkipjackEngine" ⟨"SkipjackEngine", "h", "(II)I"⟩ ⟨"SkipjackEngine", "h", "(II)I"⟩) ∈ lw_all := lw_g (lw_at lw_ms 3 rfl) rfl
-- ===== end of PART A; then your names; then what follows =====
/-! DECODE ROWS BY BYTES: one lemma an opcode; a method's code is cut into short pieces once, and a row reads its own piece alone. -/
set_option maxRecDepth 100000
/-- the code has just these bytes from pc on -/
def DkAt (code : ByteArray) (pc : Nat) (bs : List UInt8) : Prop := ∀ (j : Nat) (b : UInt8), bs[j]? = some b → code.data.toList[pc + j]? = some b
/-- the piece W has the bytes bs from its place j on -/
def dkIn (W : List UInt8) (j : Nat) (bs : List UInt8) : Bool := decide ((W.drop j).take bs.length = bs)
theorem dk_seg {l W T : List UInt8} {o o2 : Nat} (h : l.drop o = W ++ T) (n : Nat) (hn : W.length = n) (ho : o + n = o2) : l.drop o2 = T := by
  subst ho
  rw [← List.drop_drop, h, List.drop_left' hn]
theorem dk_at {code : ByteArray} {W T bs : List UInt8} {o pc : Nat} (h : code.data.toList.drop o = W ++ T) (j : Nat) (hp : o + j = pc) (hw : dkIn W j bs = true) : DkAt code pc bs := by
  subst hp
  intro i b e
  have h1 := of_decide_eq_true hw
  have h2 : i < bs.length := (List.getElem?_eq_some_iff.mp e).1
  have h3 : W[j + i]? = some b := by
    rw [← h1, List.getElem?_take, if_pos h2, List.getElem?_drop] at e
    exact e
  have h4 : j + i < W.length := (List.getElem?_eq_some_iff.mp h3).1
  have h5 : (code.data.toList.drop o)[j + i]? = some b := by
    rw [h, List.getElem?_append_left h4]
    exact h3
  rw [List.getElem?_drop, ← Nat.add_assoc] at h5
  exact h5
theorem dk_u1 {A : ByteArray} {p : Nat} {b : UInt8} (h : A.data.toList[p]? = some b) : (Reader.u1 : Reader DecodeError Nat) A p = .ok (b.toNat, p + 1) := by
  obtain ⟨h1, h2⟩ := List.getElem?_eq_some_iff.mp h
  have h3 : p < A.size := by simpa using h1
  have h4 : A[p]'h3 = b := h2
  have e : (Reader.u1 : Reader DecodeError Nat) A p = (if h : p < A.size then .ok (A[p].toNat, p + 1) else .error (HasTruncated.truncated p)) := by
    show (do if h : p < A.size then do set (p + 1); Pure.pure A[p].toNat else MonadExcept.throw (HasTruncated.truncated p) : Reader DecodeError Nat) A p = _
    by_cases hi : p < A.size
    · rw [dif_pos hi, dif_pos hi]; rfl
    · rw [dif_neg hi, dif_neg hi]; rfl
  rw [e, dif_pos h3, h4]
theorem dk_bind {α β : Type} {r : Reader DecodeError α} {f : α → Reader DecodeError β} {A : ByteArray} {p s : Nat} {a : α} (h : r A p = .ok (a, s)) : (r >>= f) A p = f a A s := by
  show (do let (a, s) ← r A p; f a A s : Except DecodeError (β × Nat)) = _
  rw [h]
  rfl
theorem dk_map {α β : Type} {r : Reader DecodeError α} {g : α → β} {A : ByteArray} {p s : Nat} {a : α} (h : r A p = .ok (a, s)) : (g <$> r) A p = .ok (g a, s) := by
  show (do let (a, s) ← r A p; .ok (g a, s) : Except DecodeError (β × Nat)) = _
  rw [h]
  rfl
theorem dk_u2 {A : ByteArray} {p : Nat} {a b : UInt8} (h : A.data.toList[p]? = some a) (h2 : A.data.toList[p + 1]? = some b) : (Reader.u2 : Reader DecodeError Nat) A p = .ok (a.toNat * 256 + b.toNat, p + 2) := by
  show (Reader.u1 >>= fun hi => Reader.u1 >>= fun lo => Pure.pure (hi * 256 + lo) : Reader DecodeError Nat) A p = _
  rw [dk_bind (dk_u1 h), dk_bind (dk_u1 h2)]
  rfl
theorem dk_of {code : ByteArray} {pc n : Nat} {i : Instr} (h : Decoder.instr pc code pc = .ok (i, pc + n)) : decode code pc = .ok (i, n) := by
  have e : decode code pc = (match Decoder.instr pc code pc with | .error x => .error x | .ok (j, s) => .ok (j, s - pc)) := by
    show (do let (j, s) ← Decoder.instr pc code pc; Pure.pure (j, s - pc) : Except DecodeError (Instr × Nat)) = _
    cases Decoder.instr pc code pc <;> rfl
  rw [e, h]
  show Except.ok (i, pc + n - pc) = _
  rw [Nat.add_sub_cancel_left]
theorem dk_3 {code : ByteArray} {pc : Nat} (h : DkAt code pc [3]) : decode code pc = .ok (.iconst 0, 1) := dk_of ((dk_bind (dk_u1 (h 0 _ rfl))).trans rfl)
theorem dk_4 {code : ByteArray} {pc : Nat} (h : DkAt code pc [4]) : decode code pc = .ok (.iconst 1, 1) := dk_of ((dk_bind (dk_u1 (h 0 _ rfl))).trans rfl)
theorem dk_5 {code : ByteArray} {pc : Nat} (h : DkAt code pc [5]) : decode code pc = .ok (.iconst 2, 1) := dk_of ((dk_bind (dk_u1 (h 0 _ rfl))).trans rfl)
theorem dk_6 {code : ByteArray} {pc : Nat} (h : DkAt code pc [6]) : decode code pc = .ok (.iconst 3, 1) := dk_of ((dk_bind (dk_u1 (h 0 _ rfl))).trans rfl)
theorem dk_7 {code : ByteArray} {pc : Nat} (h : DkAt code pc [7]) : decode code pc = .ok (.iconst 4, 1) := dk_of ((dk_bind (dk_u1 (h 0 _ rfl))).trans rfl)
theorem dk_8 {code : ByteArray} {pc : Nat} (h : DkAt code pc [8]) : decode code pc = .ok (.iconst 5, 1) := dk_of ((dk_bind (dk_u1 (h 0 _ rfl))).trans rfl)
theorem dk_16 {code : ByteArray} {pc : Nat} (a : UInt8) (h : DkAt code pc [16, a]) : decode code pc = .ok (.bipush (Reader.signed 8 a.toNat), 2) := dk_of ((dk_bind (dk_u1 (h 0 _ rfl))).trans ((dk_bind (dk_map (dk_u1 (h 1 _ rfl)))).trans rfl))
theorem dk_17 {code : ByteArray} {pc : Nat} (a b : UInt8) (h : DkAt code pc [17, a, b]) : decode code pc = .ok (.sipush (Reader.signed 16 (a.toNat * 256 + b.toNat)), 3) := dk_of ((dk_bind (dk_u1 (h 0 _ rfl))).trans ((dk_bind (dk_map (dk_u2 (h 1 _ rfl) (h 2 _ rfl)))).trans rfl))
theorem dk_18 {code : ByteArray} {pc : Nat} (a : UInt8) (h : DkAt code pc [18, a]) : decode code pc = .ok (.ldc a.toNat, 2) := dk_of ((dk_bind (dk_u1 (h 0 _ rfl))).trans ((dk_bind (dk_u1 (h 1 _ rfl))).trans rfl))
theorem dk_21 {code : ByteArray} {pc : Nat} (a : UInt8) (h : DkAt code pc [21, a]) : decode code pc = .ok (.iload a.toNat, 2) := dk_of ((dk_bind (dk_u1 (h 0 _ rfl))).trans ((dk_bind (dk_u1 (h 1 _ rfl))).trans rfl))
theorem dk_25 {code : ByteArray} {pc : Nat} (a : UInt8) (h : DkAt code pc [25, a]) : decode code pc = .ok (.aload a.toNat, 2) := dk_of ((dk_bind (dk_u1 (h 0 _ rfl))).trans ((dk_bind (dk_u1 (h 1 _ rfl))).trans rfl))
theorem dk_27 {code : ByteArray} {pc : Nat} (h : DkAt code pc [27]) : decode code pc = .ok (.iload_n 1, 1) := dk_of ((dk_bind (dk_u1 (h 0 _ rfl))).trans rfl)
theorem dk_28 {code : ByteArray} {pc : Nat} (h : DkAt code pc [28]) : decode code pc = .ok (.iload_n 2, 1) := dk_of ((dk_bind (dk_u1 (h 0 _ rfl))).trans rfl)
theorem dk_29 {code : ByteArray} {pc : Nat} (h : DkAt code pc [29]) : decode code pc = .ok (.iload_n 3, 1) := dk_of ((dk_bind (dk_u1 (h 0 _ rfl))).trans rfl)
theorem dk_42 {code : ByteArray} {pc : Nat} (h : DkAt code pc [42]) : decode code pc = .ok (.aload_n 0, 1) := dk_of ((dk_bind (dk_u1 (h 0 _ rfl))).trans rfl)
theorem dk_43 {code : ByteArray} {pc : Nat} (h : DkAt code pc [43]) : decode code pc = .ok (.aload_n 1, 1) := dk_of ((dk_bind (dk_u1 (h 0 _ rfl))).trans rfl)
theorem dk_44 {code : ByteArray} {pc : Nat} (h : DkAt code pc [44]) : decode code pc = .ok (.aload_n 2, 1) := dk_of ((dk_bind (dk_u1 (h 0 _ rfl))).trans rfl)
theorem dk_45 {code : ByteArray} {pc : Nat} (h : DkAt code pc [45]) : decode code pc = .ok (.aload_n 3, 1) := dk_of ((dk_bind (dk_u1 (h 0 _ rfl))).trans rfl)
theorem dk_46 {code : ByteArray} {pc : Nat} (h : DkAt code pc [46]) : decode code pc = .ok (.iaload, 1) := dk_of ((dk_bind (dk_u1 (h 0 _ rfl))).trans rfl)
theorem dk_51 {code : ByteArray} {pc : Nat} (h : DkAt code pc [51]) : decode code pc = .ok (.baload, 1) := dk_of ((dk_bind (dk_u1 (h 0 _ rfl))).trans rfl)
theorem dk_53 {code : ByteArray} {pc : Nat} (h : DkAt code pc [53]) : decode code pc = .ok (.saload, 1) := dk_of ((dk_bind (dk_u1 (h 0 _ rfl))).trans rfl)
theorem dk_54 {code : ByteArray} {pc : Nat} (a : UInt8) (h : DkAt code pc [54, a]) : decode code pc = .ok (.istore a.toNat, 2) := dk_of ((dk_bind (dk_u1 (h 0 _ rfl))).trans ((dk_bind (dk_u1 (h 1 _ rfl))).trans rfl))
theorem dk_58 {code : ByteArray} {pc : Nat} (a : UInt8) (h : DkAt code pc [58, a]) : decode code pc = .ok (.astore a.toNat, 2) := dk_of ((dk_bind (dk_u1 (h 0 _ rfl))).trans ((dk_bind (dk_u1 (h 1 _ rfl))).trans rfl))
theorem dk_60 {code : ByteArray} {pc : Nat} (h : DkAt code pc [60]) : decode code pc = .ok (.istore_n 1, 1) := dk_of ((dk_bind (dk_u1 (h 0 _ rfl))).trans rfl)
theorem dk_61 {code : ByteArray} {pc : Nat} (h : DkAt code pc [61]) : decode code pc = .ok (.istore_n 2, 1) := dk_of ((dk_bind (dk_u1 (h 0 _ rfl))).trans rfl)
theorem dk_62 {code : ByteArray} {pc : Nat} (h : DkAt code pc [62]) : decode code pc = .ok (.istore_n 3, 1) := dk_of ((dk_bind (dk_u1 (h 0 _ rfl))).trans rfl)
theorem dk_75 {code : ByteArray} {pc : Nat} (h : DkAt code pc [75]) : decode code pc = .ok (.astore_n 0, 1) := dk_of ((dk_bind (dk_u1 (h 0 _ rfl))).trans rfl)
theorem dk_76 {code : ByteArray} {pc : Nat} (h : DkAt code pc [76]) : decode code pc = .ok (.astore_n 1, 1) := dk_of ((dk_bind (dk_u1 (h 0 _ rfl))).trans rfl)
theorem dk_77 {code : ByteArray} {pc : Nat} (h : DkAt code pc [77]) : decode code pc = .ok (.astore_n 2, 1) := dk_of ((dk_bind (dk_u1 (h 0 _ rfl))).trans rfl)
theorem dk_78 {code : ByteArray} {pc : Nat} (h : DkAt code pc [78]) : decode code pc = .ok (.astore_n 3, 1) := dk_of ((dk_bind (dk_u1 (h 0 _ rfl))).trans rfl)
theorem dk_79 {code : ByteArray} {pc : Nat} (h : DkAt code pc [79]) : decode code pc = .ok (.iastore, 1) := dk_of ((dk_bind (dk_u1 (h 0 _ rfl))).trans rfl)
theorem dk_84 {code : ByteArray} {pc : Nat} (h : DkAt code pc [84]) : decode code pc = .ok (.bastore, 1) := dk_of ((dk_bind (dk_u1 (h 0 _ rfl))).trans rfl)
theorem dk_87 {code : ByteArray} {pc : Nat} (h : DkAt code pc [87]) : decode code pc = .ok (.pop, 1) := dk_of ((dk_bind (dk_u1 (h 0 _ rfl))).trans rfl)
theorem dk_89 {code : ByteArray} {pc : Nat} (h : DkAt code pc [89]) : decode code pc = .ok (.dup, 1) := dk_of ((dk_bind (dk_u1 (h 0 _ rfl))).trans rfl)
theorem dk_96 {code : ByteArray} {pc : Nat} (h : DkAt code pc [96]) : decode code pc = .ok (.iadd, 1) := dk_of ((dk_bind (dk_u1 (h 0 _ rfl))).trans rfl)
theorem dk_100 {code : ByteArray} {pc : Nat} (h : DkAt code pc [100]) : decode code pc = .ok (.isub, 1) := dk_of ((dk_bind (dk_u1 (h 0 _ rfl))).trans rfl)
theorem dk_104 {code : ByteArray} {pc : Nat} (h : DkAt code pc [104]) : decode code pc = .ok (.imul, 1) := dk_of ((dk_bind (dk_u1 (h 0 _ rfl))).trans rfl)
theorem dk_108 {code : ByteArray} {pc : Nat} (h : DkAt code pc [108]) : decode code pc = .ok (.idiv, 1) := dk_of ((dk_bind (dk_u1 (h 0 _ rfl))).trans rfl)
theorem dk_112 {code : ByteArray} {pc : Nat} (h : DkAt code pc [112]) : decode code pc = .ok (.irem, 1) := dk_of ((dk_bind (dk_u1 (h 0 _ rfl))).trans rfl)
theorem dk_120 {code : ByteArray} {pc : Nat} (h : DkAt code pc [120]) : decode code pc = .ok (.ishl, 1) := dk_of ((dk_bind (dk_u1 (h 0 _ rfl))).trans rfl)
theorem dk_122 {code : ByteArray} {pc : Nat} (h : DkAt code pc [122]) : decode code pc = .ok (.ishr, 1) := dk_of ((dk_bind (dk_u1 (h 0 _ rfl))).trans rfl)
theorem dk_124 {code : ByteArray} {pc : Nat} (h : DkAt code pc [124]) : decode code pc = .ok (.iushr, 1) := dk_of ((dk_bind (dk_u1 (h 0 _ rfl))).trans rfl)
theorem dk_126 {code : ByteArray} {pc : Nat} (h : DkAt code pc [126]) : decode code pc = .ok (.iand, 1) := dk_of ((dk_bind (dk_u1 (h 0 _ rfl))).trans rfl)
theorem dk_130 {code : ByteArray} {pc : Nat} (h : DkAt code pc [130]) : decode code pc = .ok (.ixor, 1) := dk_of ((dk_bind (dk_u1 (h 0 _ rfl))).trans rfl)
theorem dk_132 {code : ByteArray} {pc : Nat} (a b : UInt8) (h : DkAt code pc [132, a, b]) : decode code pc = .ok (.iinc a.toNat (Reader.signed 8 b.toNat), 3) := dk_of ((dk_bind (dk_u1 (h 0 _ rfl))).trans ((dk_bind (dk_u1 (h 1 _ rfl))).trans ((dk_bind (dk_map (dk_u1 (h 2 _ rfl)))).trans rfl)))
theorem dk_145 {code : ByteArray} {pc : Nat} (h : DkAt code pc [145]) : decode code pc = .ok (.i2b, 1) := dk_of ((dk_bind (dk_u1 (h 0 _ rfl))).trans rfl)
theorem dk_153 {code : ByteArray} {pc : Nat} (a b : UInt8) (h : DkAt code pc [153, a, b]) : decode code pc = .ok (.ifCond .eq (Reader.signed 16 (a.toNat * 256 + b.toNat)), 3) := dk_of ((dk_bind (dk_u1 (h 0 _ rfl))).trans ((dk_bind (dk_map (dk_u2 (h 1 _ rfl) (h 2 _ rfl)))).trans rfl))
theorem dk_154 {code : ByteArray} {pc : Nat} (a b : UInt8) (h : DkAt code pc [154, a, b]) : decode code pc = .ok (.ifCond .ne (Reader.signed 16 (a.toNat * 256 + b.toNat)), 3) := dk_of ((dk_bind (dk_u1 (h 0 _ rfl))).trans ((dk_bind (dk_map (dk_u2 (h 1 _ rfl) (h 2 _ rfl)))).trans rfl))
theorem dk_159 {code : ByteArray} {pc : Nat} (a b : UInt8) (h : DkAt code pc [159, a, b]) : decode code pc = .ok (.if_icmp .eq (Reader.signed 16 (a.toNat * 256 + b.toNat)), 3) := dk_of ((dk_bind (dk_u1 (h 0 _ rfl))).trans ((dk_bind (dk_map (dk_u2 (h 1 _ rfl) (h 2 _ rfl)))).trans rfl))
theorem dk_162 {code : ByteArray} {pc : Nat} (a b : UInt8) (h : DkAt code pc [162, a, b]) : decode code pc = .ok (.if_icmp .ge (Reader.signed 16 (a.toNat * 256 + b.toNat)), 3) := dk_of ((dk_bind (dk_u1 (h 0 _ rfl))).trans ((dk_bind (dk_map (dk_u2 (h 1 _ rfl) (h 2 _ rfl)))).trans rfl))
theorem dk_164 {code : ByteArray} {pc : Nat} (a b : UInt8) (h : DkAt code pc [164, a, b]) : decode code pc = .ok (.if_icmp .le (Reader.signed 16 (a.toNat * 256 + b.toNat)), 3) := dk_of ((dk_bind (dk_u1 (h 0 _ rfl))).trans ((dk_bind (dk_map (dk_u2 (h 1 _ rfl) (h 2 _ rfl)))).trans rfl))
theorem dk_167 {code : ByteArray} {pc : Nat} (a b : UInt8) (h : DkAt code pc [167, a, b]) : decode code pc = .ok (.goto (Reader.signed 16 (a.toNat * 256 + b.toNat)), 3) := dk_of ((dk_bind (dk_u1 (h 0 _ rfl))).trans ((dk_bind (dk_map (dk_u2 (h 1 _ rfl) (h 2 _ rfl)))).trans rfl))
theorem dk_172 {code : ByteArray} {pc : Nat} (h : DkAt code pc [172]) : decode code pc = .ok (.ireturn, 1) := dk_of ((dk_bind (dk_u1 (h 0 _ rfl))).trans rfl)
theorem dk_176 {code : ByteArray} {pc : Nat} (h : DkAt code pc [176]) : decode code pc = .ok (.areturn, 1) := dk_of ((dk_bind (dk_u1 (h 0 _ rfl))).trans rfl)
theorem dk_177 {code : ByteArray} {pc : Nat} (h : DkAt code pc [177]) : decode code pc = .ok (.return_, 1) := dk_of ((dk_bind (dk_u1 (h 0 _ rfl))).trans rfl)
theorem dk_178 {code : ByteArray} {pc : Nat} (a b : UInt8) (h : DkAt code pc [178, a, b]) : decode code pc = .ok (.getstatic (a.toNat * 256 + b.toNat), 3) := dk_of ((dk_bind (dk_u1 (h 0 _ rfl))).trans ((dk_bind (dk_u2 (h 1 _ rfl) (h 2 _ rfl))).trans rfl))
theorem dk_180 {code : ByteArray} {pc : Nat} (a b : UInt8) (h : DkAt code pc [180, a, b]) : decode code pc = .ok (.getfield (a.toNat * 256 + b.toNat), 3) := dk_of ((dk_bind (dk_u1 (h 0 _ rfl))).trans ((dk_bind (dk_u2 (h 1 _ rfl) (h 2 _ rfl))).trans rfl))
theorem dk_181 {code : ByteArray} {pc : Nat} (a b : UInt8) (h : DkAt code pc [181, a, b]) : decode code pc = .ok (.putfield (a.toNat * 256 + b.toNat), 3) := dk_of ((dk_bind (dk_u1 (h 0 _ rfl))).trans ((dk_bind (dk_u2 (h 1 _ rfl) (h 2 _ rfl))).trans rfl))
theorem dk_182 {code : ByteArray} {pc : Nat} (a b : UInt8) (h : DkAt code pc [182, a, b]) : decode code pc = .ok (.invokevirtual (a.toNat * 256 + b.toNat), 3) := dk_of ((dk_bind (dk_u1 (h 0 _ rfl))).trans ((dk_bind (dk_u2 (h 1 _ rfl) (h 2 _ rfl))).trans rfl))
theorem dk_183 {code : ByteArray} {pc : Nat} (a b : UInt8) (h : DkAt code pc [183, a, b]) : decode code pc = .ok (.invokespecial (a.toNat * 256 + b.toNat), 3) := dk_of ((dk_bind (dk_u1 (h 0 _ rfl))).trans ((dk_bind (dk_u2 (h 1 _ rfl) (h 2 _ rfl))).trans rfl))
theorem dk_184 {code : ByteArray} {pc : Nat} (a b : UInt8) (h : DkAt code pc [184, a, b]) : decode code pc = .ok (.invokestatic (a.toNat * 256 + b.toNat), 3) := dk_of ((dk_bind (dk_u1 (h 0 _ rfl))).trans ((dk_bind (dk_u2 (h 1 _ rfl) (h 2 _ rfl))).trans rfl))
theorem dk_187 {code : ByteArray} {pc : Nat} (a b : UInt8) (h : DkAt code pc [187, a, b]) : decode code pc = .ok (.new (a.toNat * 256 + b.toNat), 3) := dk_of ((dk_bind (dk_u1 (h 0 _ rfl))).trans ((dk_bind (dk_u2 (h 1 _ rfl) (h 2 _ rfl))).trans rfl))
theorem dk_188_8 {code : ByteArray} {pc : Nat} (h : DkAt code pc [188, 8]) : decode code pc = .ok (.newarray .byte, 2) := dk_of ((dk_bind (dk_u1 (h 0 _ rfl))).trans ((dk_bind (dk_u1 (h 1 _ rfl))).trans rfl))
theorem dk_188_10 {code : ByteArray} {pc : Nat} (h : DkAt code pc [188, 10]) : decode code pc = .ok (.newarray .int, 2) := dk_of ((dk_bind (dk_u1 (h 0 _ rfl))).trans ((dk_bind (dk_u1 (h 1 _ rfl))).trans rfl))
theorem dk_190 {code : ByteArray} {pc : Nat} (h : DkAt code pc [190]) : decode code pc = .ok (.arraylength, 1) := dk_of ((dk_bind (dk_u1 (h 0 _ rfl))).trans rfl)
theorem dk_191 {code : ByteArray} {pc : Nat} (h : DkAt code pc [191]) : decode code pc = .ok (.athrow, 1) := dk_of ((dk_bind (dk_u1 (h 0 _ rfl))).trans rfl)
theorem dk_192 {code : ByteArray} {pc : Nat} (a b : UInt8) (h : DkAt code pc [192, a, b]) : decode code pc = .ok (.checkcast (a.toNat * 256 + b.toNat), 3) := dk_of ((dk_bind (dk_u1 (h 0 _ rfl))).trans ((dk_bind (dk_u2 (h 1 _ rfl) (h 2 _ rfl))).trans rfl))
theorem dk_193 {code : ByteArray} {pc : Nat} (a b : UInt8) (h : DkAt code pc [193, a, b]) : decode code pc = .ok (.instanceof (a.toNat * 256 + b.toNat), 3) := dk_of ((dk_bind (dk_u1 (h 0 _ rfl))).trans ((dk_bind (dk_u2 (h 1 _ rfl) (h 2 _ rfl))).trans rfl))
theorem dk_199 {code : ByteArray} {pc : Nat} (a b : UInt8) (h : DkAt code pc [199, a, b]) : decode code pc = .ok (.ifnonnull (Reader.signed 16 (a.toNat * 256 + b.toNat)), 3) := dk_of ((dk_bind (dk_u1 (h 0 _ rfl))).trans ((dk_bind (dk_map (dk_u2 (h 1 _ rfl) (h 2 _ rfl)))).trans rfl))
end
section
theorem q53 : (Jvm.Cond.arrayClass Jvm.ClassFile.FieldType.byte) ∈ lw_all := lw_g (lw_at lw_m1 49 rfl) rfl
set_option maxRecDepth 100000
theorem q181 : (Jvm.Cond.arrayClass Jvm.ClassFile.FieldType.int) ∈ lw_all := lw_g (lw_at lw_m1 177 rfl) rfl
theorem q293 : (Jvm.Cond.arrayClass Jvm.ClassFile.FieldType.short) ∈ lw_all := lw_g (lw_at lw_m2 49 rfl) rfl
theorem q8 : (Jvm.Cond.initialized "java/lang/System") ∈ lw_all := lw_g (lw_at lw_m1 4 rfl) rfl
set_option maxRecDepth 100000
theorem q71 : (Jvm.Cond.static ({ cls := "java/lang/System", name := "arraycopy", desc := "(Ljava/lang/Object;ILjava/lang/Object;II)V" } : Jvm.MethodName)) ∈ lw_all := lw_g (lw_at lw_m1 67 rfl) rfl
theorem q72 : (Jvm.Cond.native ({ cls := "java/lang/System", name := "arraycopy", desc := "(Ljava/lang/Object;ILjava/lang/Object;II)V" } : Jvm.MethodName)) ∈ lw_all := lw_g (lw_at lw_m1 68 rfl) rfl
theorem q75 : (Jvm.Cond.interfaceMethod "BlockCipher" "BlockCipher" "init" "(ZLCipherParameters;)V") ∈ lw_tbl := lw_at lw_m1 71 rfl
set_option maxRecDepth 100000
theorem q76 : (Jvm.Cond.declares ({ cls := "BlockCipher", name := "init", desc := "(ZLCipherParameters;)V" } : Jvm.MethodName)) ∈ lw_tbl := lw_at lw_m1 72 rfl
theorem q158 : (Jvm.Cond.interfaceMethod "BlockCipher" "BlockCipher" "processBlock" "([BI[BI)I") ∈ lw_tbl := lw_at lw_m1 154 rfl
theorem q159 : (Jvm.Cond.declares ({ cls := "BlockCipher", name := "processBlock", desc := "([BI[BI)I" } : Jvm.MethodName)) ∈ lw_tbl := lw_at lw_m1 155 rfl
/-! java/lang/Object -/
set_option maxRecDepth 100000
def RJ5 : String := "java/lang/Object"
abbrev cJ5_init : ByteArray := object_method_1_code
def yJ5_init : MethodName := ⟨RJ5, "<init>", "()V"⟩
theorem dJ5_init_0 : decode cJ5_init 0 = .ok (.return_, 1) := by decide +kernel
theorem q35 : (Jvm.Cond.instanceMethod ({ cls := "java/lang/Object", name := "<init>", desc := "()V" } : Jvm.MethodName)) ∈ lw_all := lw_g (lw_at lw_m1 31 rfl) rfl
theorem q36 : (Jvm.Cond.code ({ cls := "java/lang/Object", name := "<init>", desc := "()V" } : Jvm.MethodName) object_method_1_code (1 : Nat) (Option.none : Option Jvm.ClassFile.FieldType)) ∈ lw_all := lw_g (lw_at lw_m1 32 rfl) rfl
/-! SkipjackDeskLaw -/
set_option maxRecDepth 100000
def RX0 : String := "SkipjackDeskLaw"
abbrev cX0_with : ByteArray := method_3_code
def yX0_with : MethodName := ⟨RX0, "with", "([I)LSkipjackDesk;"⟩
def dkwX0_with_3 : List UInt8 := [184, 0, 10, 182, 0, 20, 43, 176]
abbrev dktX0_with_3 : List UInt8 := dkwX0_with_3 ++ []
def dkwX0_with_2 : List UInt8 := [16, 6, 184, 0, 10, 42, 16, 7, 184, 0, 10, 182, 0, 16, 43, 42, 16, 8, 184, 0, 10, 42, 16, 9]
abbrev dktX0_with_2 : List UInt8 := dkwX0_with_2 ++ dktX0_with_3
def dkwX0_with_1 : List UInt8 := [184, 0, 10, 42, 6, 184, 0, 10, 182, 0, 16, 43, 4, 42, 7, 184, 0, 10, 42, 8, 184, 0, 10, 42]
abbrev dktX0_with_1 : List UInt8 := dkwX0_with_1 ++ dktX0_with_2
def dkwX0_with_0 : List UInt8 := [187, 0, 7, 89, 183, 0, 9, 76, 43, 3, 42, 3, 184, 0, 10, 42, 4, 184, 0, 10, 42, 5]
abbrev dktX0_with_0 : List UInt8 := dkwX0_with_0 ++ dktX0_with_1
theorem dksX0_with_0 : cX0_with.data.toList.drop 0 = dktX0_with_0 := by decide +kernel
theorem dksX0_with_1 : cX0_with.data.toList.drop 22 = dktX0_with_1 := dk_seg dksX0_with_0 22 rfl rfl
theorem dksX0_with_2 : cX0_with.data.toList.drop 46 = dktX0_with_2 := dk_seg dksX0_with_1 24 rfl rfl
theorem dksX0_with_3 : cX0_with.data.toList.drop 70 = dktX0_with_3 := dk_seg dksX0_with_2 24 rfl rfl
theorem dX0_with_0 : decode cX0_with 0 = .ok (.new 7, 3) := dk_187 0 7 (dk_at dksX0_with_0 0 rfl rfl)
theorem dX0_with_3 : decode cX0_with 3 = .ok (.dup, 1) := dk_89 (dk_at dksX0_with_0 3 rfl rfl)
theorem dX0_with_4 : decode cX0_with 4 = .ok (.invokespecial 9, 3) := dk_183 0 9 (dk_at dksX0_with_0 4 rfl rfl)
theorem dX0_with_7 : decode cX0_with 7 = .ok (.astore_n 1, 1) := dk_76 (dk_at dksX0_with_0 7 rfl rfl)
theorem dX0_with_8 : decode cX0_with 8 = .ok (.aload_n 1, 1) := dk_43 (dk_at dksX0_with_0 8 rfl rfl)
theorem dX0_with_9 : decode cX0_with 9 = .ok (.iconst 0, 1) := dk_3 (dk_at dksX0_with_0 9 rfl rfl)
theorem dX0_with_10 : decode cX0_with 10 = .ok (.aload_n 0, 1) := dk_42 (dk_at dksX0_with_0 10 rfl rfl)
theorem dX0_with_11 : decode cX0_with 11 = .ok (.iconst 0, 1) := dk_3 (dk_at dksX0_with_0 11 rfl rfl)
theorem dX0_with_12 : decode cX0_with 12 = .ok (.invokestatic 10, 3) := dk_184 0 10 (dk_at dksX0_with_0 12 rfl rfl)
theorem dX0_with_15 : decode cX0_with 15 = .ok (.aload_n 0, 1) := dk_42 (dk_at dksX0_with_0 15 rfl rfl)
theorem dX0_with_16 : decode cX0_with 16 = .ok (.iconst 1, 1) := dk_4 (dk_at dksX0_with_0 16 rfl rfl)
theorem dX0_with_17 : decode cX0_with 17 = .ok (.invokestatic 10, 3) := dk_184 0 10 (dk_at dksX0_with_0 17 rfl rfl)
theorem dX0_with_20 : decode cX0_with 20 = .ok (.aload_n 0, 1) := dk_42 (dk_at dksX0_with_0 20 rfl rfl)
theorem dX0_with_21 : decode cX0_with 21 = .ok (.iconst 2, 1) := dk_5 (dk_at dksX0_with_0 21 rfl rfl)
theorem dX0_with_22 : decode cX0_with 22 = .ok (.invokestatic 10, 3) := dk_184 0 10 (dk_at dksX0_with_1 0 rfl rfl)
theorem dX0_with_25 : decode cX0_with 25 = .ok (.aload_n 0, 1) := dk_42 (dk_at dksX0_with_1 3 rfl rfl)
theorem dX0_with_26 : decode cX0_with 26 = .ok (.iconst 3, 1) := dk_6 (dk_at dksX0_with_1 4 rfl rfl)
theorem dX0_with_27 : decode cX0_with 27 = .ok (.invokestatic 10, 3) := dk_184 0 10 (dk_at dksX0_with_1 5 rfl rfl)
theorem dX0_with_30 : decode cX0_with 30 = .ok (.invokevirtual 16, 3) := dk_182 0 16 (dk_at dksX0_with_1 8 rfl rfl)
theorem dX0_with_33 : decode cX0_with 33 = .ok (.aload_n 1, 1) := dk_43 (dk_at dksX0_with_1 11 rfl rfl)
theorem dX0_with_34 : decode cX0_with 34 = .ok (.iconst 1, 1) := dk_4 (dk_at dksX0_with_1 12 rfl rfl)
theorem dX0_with_35 : decode cX0_with 35 = .ok (.aload_n 0, 1) := dk_42 (dk_at dksX0_with_1 13 rfl rfl)
theorem dX0_with_36 : decode cX0_with 36 = .ok (.iconst 4, 1) := dk_7 (dk_at dksX0_with_1 14 rfl rfl)
theorem dX0_with_37 : decode cX0_with 37 = .ok (.invokestatic 10, 3) := dk_184 0 10 (dk_at dksX0_with_1 15 rfl rfl)
theorem dX0_with_40 : decode cX0_with 40 = .ok (.aload_n 0, 1) := dk_42 (dk_at dksX0_with_1 18 rfl rfl)
theorem dX0_with_41 : decode cX0_with 41 = .ok (.iconst 5, 1) := dk_8 (dk_at dksX0_with_1 19 rfl rfl)
theorem dX0_with_42 : decode cX0_with 42 = .ok (.invokestatic 10, 3) := dk_184 0 10 (dk_at dksX0_with_1 20 rfl rfl)
theorem dX0_with_45 : decode cX0_with 45 = .ok (.aload_n 0, 1) := dk_42 (dk_at dksX0_with_1 23 rfl rfl)
theorem dX0_with_46 : decode cX0_with 46 = .ok (.bipush 6, 2) := dk_16 6 (dk_at dksX0_with_2 0 rfl rfl)
theorem dX0_with_48 : decode cX0_with 48 = .ok (.invokestatic 10, 3) := dk_184 0 10 (dk_at dksX0_with_2 2 rfl rfl)
theorem dX0_with_51 : decode cX0_with 51 = .ok (.aload_n 0, 1) := dk_42 (dk_at dksX0_with_2 5 rfl rfl)
theorem dX0_with_52 : decode cX0_with 52 = .ok (.bipush 7, 2) := dk_16 7 (dk_at dksX0_with_2 6 rfl rfl)
theorem dX0_with_54 : decode cX0_with 54 = .ok (.invokestatic 10, 3) := dk_184 0 10 (dk_at dksX0_with_2 8 rfl rfl)
theorem dX0_with_57 : decode cX0_with 57 = .ok (.invokevirtual 16, 3) := dk_182 0 16 (dk_at dksX0_with_2 11 rfl rfl)
theorem dX0_with_60 : decode cX0_with 60 = .ok (.aload_n 1, 1) := dk_43 (dk_at dksX0_with_2 14 rfl rfl)
theorem dX0_with_61 : decode cX0_with 61 = .ok (.aload_n 0, 1) := dk_42 (dk_at dksX0_with_2 15 rfl rfl)
theorem dX0_with_62 : decode cX0_with 62 = .ok (.bipush 8, 2) := dk_16 8 (dk_at dksX0_with_2 16 rfl rfl)
theorem dX0_with_64 : decode cX0_with 64 = .ok (.invokestatic 10, 3) := dk_184 0 10 (dk_at dksX0_with_2 18 rfl rfl)
theorem dX0_with_67 : decode cX0_with 67 = .ok (.aload_n 0, 1) := dk_42 (dk_at dksX0_with_2 21 rfl rfl)
theorem dX0_with_68 : decode cX0_with 68 = .ok (.bipush 9, 2) := dk_16 9 (dk_at dksX0_with_2 22 rfl rfl)
theorem dX0_with_70 : decode cX0_with 70 = .ok (.invokestatic 10, 3) := dk_184 0 10 (dk_at dksX0_with_3 0 rfl rfl)
theorem dX0_with_73 : decode cX0_with 73 = .ok (.invokevirtual 20, 3) := dk_182 0 20 (dk_at dksX0_with_3 3 rfl rfl)
theorem dX0_with_76 : decode cX0_with 76 = .ok (.aload_n 1, 1) := dk_43 (dk_at dksX0_with_3 6 rfl rfl)
theorem dX0_with_77 : decode cX0_with 77 = .ok (.areturn, 1) := dk_176 (dk_at dksX0_with_3 7 rfl rfl)
abbrev cX0_cell : ByteArray := method_2_code
def yX0_cell : MethodName := ⟨RX0, "cell", "([II)I"⟩
def dkwX0_cell_0 : List UInt8 := [27, 42, 190, 162, 0, 9, 42, 27, 46, 167, 0, 4, 3, 172]
abbrev dktX0_cell_0 : List UInt8 := dkwX0_cell_0 ++ []
theorem dksX0_cell_0 : cX0_cell.data.toList.drop 0 = dktX0_cell_0 := by decide +kernel
theorem dX0_cell_0 : decode cX0_cell 0 = .ok (.iload_n 1, 1) := dk_27 (dk_at dksX0_cell_0 0 rfl rfl)
theorem dX0_cell_1 : decode cX0_cell 1 = .ok (.aload_n 0, 1) := dk_42 (dk_at dksX0_cell_0 1 rfl rfl)
theorem dX0_cell_2 : decode cX0_cell 2 = .ok (.arraylength, 1) := dk_190 (dk_at dksX0_cell_0 2 rfl rfl)
theorem dX0_cell_3 : decode cX0_cell 3 = .ok (.if_icmp .ge 9, 3) := dk_162 0 9 (dk_at dksX0_cell_0 3 rfl rfl)
theorem dX0_cell_6 : decode cX0_cell 6 = .ok (.aload_n 0, 1) := dk_42 (dk_at dksX0_cell_0 6 rfl rfl)
theorem dX0_cell_7 : decode cX0_cell 7 = .ok (.iload_n 1, 1) := dk_27 (dk_at dksX0_cell_0 7 rfl rfl)
theorem dX0_cell_8 : decode cX0_cell 8 = .ok (.iaload, 1) := dk_46 (dk_at dksX0_cell_0 8 rfl rfl)
theorem dX0_cell_9 : decode cX0_cell 9 = .ok (.goto 4, 3) := dk_167 0 4 (dk_at dksX0_cell_0 9 rfl rfl)
theorem dX0_cell_12 : decode cX0_cell 12 = .ok (.iconst 0, 1) := dk_3 (dk_at dksX0_cell_0 12 rfl rfl)
theorem dX0_cell_13 : decode cX0_cell 13 = .ok (.ireturn, 1) := dk_172 (dk_at dksX0_cell_0 13 rfl rfl)
abbrev cX0_same : ByteArray := method_4_code
def yX0_same : MethodName := ⟨RX0, "same", "(LSkipjackDesk;[I)Z"⟩
def dkwX0_same_2 : List UInt8 := [167, 255, 213, 4, 172]
abbrev dktX0_same_2 : List UInt8 := dkwX0_same_2 ++ []
def dkwX0_same_1 : List UInt8 := [16, 24, 16, 8, 28, 7, 112, 104, 100, 124, 17, 0, 255, 126, 159, 0, 5, 3, 172, 132, 2, 1]
abbrev dktX0_same_1 : List UInt8 := dkwX0_same_1 ++ dktX0_same_2
def dkwX0_same_0 : List UInt8 := [3, 61, 28, 16, 8, 162, 0, 43, 42, 28, 182, 0, 24, 43, 16, 8, 28, 7, 108, 96, 184, 0, 10]
abbrev dktX0_same_0 : List UInt8 := dkwX0_same_0 ++ dktX0_same_1
theorem dksX0_same_0 : cX0_same.data.toList.drop 0 = dktX0_same_0 := by decide +kernel
theorem dksX0_same_1 : cX0_same.data.toList.drop 23 = dktX0_same_1 := dk_seg dksX0_same_0 23 rfl rfl
theorem dksX0_same_2 : cX0_same.data.toList.drop 45 = dktX0_same_2 := dk_seg dksX0_same_1 22 rfl rfl
theorem dX0_same_0 : decode cX0_same 0 = .ok (.iconst 0, 1) := dk_3 (dk_at dksX0_same_0 0 rfl rfl)
theorem dX0_same_1 : decode cX0_same 1 = .ok (.istore_n 2, 1) := dk_61 (dk_at dksX0_same_0 1 rfl rfl)
theorem dX0_same_2 : decode cX0_same 2 = .ok (.iload_n 2, 1) := dk_28 (dk_at dksX0_same_0 2 rfl rfl)
theorem dX0_same_3 : decode cX0_same 3 = .ok (.bipush 8, 2) := dk_16 8 (dk_at dksX0_same_0 3 rfl rfl)
theorem dX0_same_5 : decode cX0_same 5 = .ok (.if_icmp .ge 43, 3) := dk_162 0 43 (dk_at dksX0_same_0 5 rfl rfl)
theorem dX0_same_8 : decode cX0_same 8 = .ok (.aload_n 0, 1) := dk_42 (dk_at dksX0_same_0 8 rfl rfl)
theorem dX0_same_9 : decode cX0_same 9 = .ok (.iload_n 2, 1) := dk_28 (dk_at dksX0_same_0 9 rfl rfl)
theorem dX0_same_10 : decode cX0_same 10 = .ok (.invokevirtual 24, 3) := dk_182 0 24 (dk_at dksX0_same_0 10 rfl rfl)
theorem dX0_same_13 : decode cX0_same 13 = .ok (.aload_n 1, 1) := dk_43 (dk_at dksX0_same_0 13 rfl rfl)
theorem dX0_same_14 : decode cX0_same 14 = .ok (.bipush 8, 2) := dk_16 8 (dk_at dksX0_same_0 14 rfl rfl)
theorem dX0_same_16 : decode cX0_same 16 = .ok (.iload_n 2, 1) := dk_28 (dk_at dksX0_same_0 16 rfl rfl)
theorem dX0_same_17 : decode cX0_same 17 = .ok (.iconst 4, 1) := dk_7 (dk_at dksX0_same_0 17 rfl rfl)
theorem dX0_same_18 : decode cX0_same 18 = .ok (.idiv, 1) := dk_108 (dk_at dksX0_same_0 18 rfl rfl)
theorem dX0_same_19 : decode cX0_same 19 = .ok (.iadd, 1) := dk_96 (dk_at dksX0_same_0 19 rfl rfl)
theorem dX0_same_20 : decode cX0_same 20 = .ok (.invokestatic 10, 3) := dk_184 0 10 (dk_at dksX0_same_0 20 rfl rfl)
theorem dX0_same_23 : decode cX0_same 23 = .ok (.bipush 24, 2) := dk_16 24 (dk_at dksX0_same_1 0 rfl rfl)
theorem dX0_same_25 : decode cX0_same 25 = .ok (.bipush 8, 2) := dk_16 8 (dk_at dksX0_same_1 2 rfl rfl)
theorem dX0_same_27 : decode cX0_same 27 = .ok (.iload_n 2, 1) := dk_28 (dk_at dksX0_same_1 4 rfl rfl)
theorem dX0_same_28 : decode cX0_same 28 = .ok (.iconst 4, 1) := dk_7 (dk_at dksX0_same_1 5 rfl rfl)
theorem dX0_same_29 : decode cX0_same 29 = .ok (.irem, 1) := dk_112 (dk_at dksX0_same_1 6 rfl rfl)
theorem dX0_same_30 : decode cX0_same 30 = .ok (.imul, 1) := dk_104 (dk_at dksX0_same_1 7 rfl rfl)
theorem dX0_same_31 : decode cX0_same 31 = .ok (.isub, 1) := dk_100 (dk_at dksX0_same_1 8 rfl rfl)
theorem dX0_same_32 : decode cX0_same 32 = .ok (.iushr, 1) := dk_124 (dk_at dksX0_same_1 9 rfl rfl)
theorem dX0_same_33 : decode cX0_same 33 = .ok (.sipush 255, 3) := dk_17 0 255 (dk_at dksX0_same_1 10 rfl rfl)
theorem dX0_same_36 : decode cX0_same 36 = .ok (.iand, 1) := dk_126 (dk_at dksX0_same_1 13 rfl rfl)
theorem dX0_same_37 : decode cX0_same 37 = .ok (.if_icmp .eq 5, 3) := dk_159 0 5 (dk_at dksX0_same_1 14 rfl rfl)
theorem dX0_same_40 : decode cX0_same 40 = .ok (.iconst 0, 1) := dk_3 (dk_at dksX0_same_1 17 rfl rfl)
theorem dX0_same_41 : decode cX0_same 41 = .ok (.ireturn, 1) := dk_172 (dk_at dksX0_same_1 18 rfl rfl)
theorem dX0_same_42 : decode cX0_same 42 = .ok (.iinc 2 1, 3) := dk_132 2 1 (dk_at dksX0_same_1 19 rfl rfl)
theorem dX0_same_45 : decode cX0_same 45 = .ok (.goto (-43), 3) := dk_167 255 213 (dk_at dksX0_same_2 0 rfl rfl)
theorem dX0_same_48 : decode cX0_same 48 = .ok (.iconst 1, 1) := dk_4 (dk_at dksX0_same_2 3 rfl rfl)
theorem dX0_same_49 : decode cX0_same 49 = .ok (.ireturn, 1) := dk_172 (dk_at dksX0_same_2 4 rfl rfl)
abbrev cX0_known : ByteArray := method_5_code
def yX0_known : MethodName := ⟨RX0, "known", "()Z"⟩
def dkwX0_known_5 : List UInt8 := [4, 172]
abbrev dktX0_known_5 : List UInt8 := dkwX0_known_5 ++ []
def dkwX0_known_4 : List UInt8 := [16, 8, 162, 0, 22, 42, 28, 182, 0, 24, 43, 28, 46, 159, 0, 5, 3, 172, 132, 2, 1, 167, 255, 234]
abbrev dktX0_known_4 : List UInt8 := dkwX0_known_4 ++ dktX0_known_5
def dkwX0_known_3 : List UInt8 := [16, 122, 79, 89, 8, 16, 18, 79, 89, 16, 6, 17, 0, 211, 79, 89, 16, 7, 3, 79, 76, 3, 61, 28]
abbrev dktX0_known_3 : List UInt8 := dkwX0_known_3 ++ dktX0_known_4
def dkwX0_known_2 : List UInt8 := [16, 37, 79, 89, 4, 17, 0, 135, 79, 89, 5, 17, 0, 202, 79, 89, 6, 17, 0, 226, 79, 89, 7]
abbrev dktX0_known_2 : List UInt8 := dkwX0_known_2 ++ dktX0_known_3
def dkwX0_known_1 : List UInt8 := [3, 3, 182, 0, 16, 42, 18, 31, 18, 32, 182, 0, 20, 42, 3, 182, 0, 33, 16, 8, 188, 10, 89, 3]
abbrev dktX0_known_1 : List UInt8 := dkwX0_known_1 ++ dktX0_known_2
def dkwX0_known_0 : List UInt8 := [187, 0, 7, 89, 183, 0, 9, 75, 42, 3, 18, 28, 18, 29, 18, 30, 3, 182, 0, 16, 42, 4, 3, 3]
abbrev dktX0_known_0 : List UInt8 := dkwX0_known_0 ++ dktX0_known_1
theorem dksX0_known_0 : cX0_known.data.toList.drop 0 = dktX0_known_0 := by decide +kernel
theorem dksX0_known_1 : cX0_known.data.toList.drop 24 = dktX0_known_1 := dk_seg dksX0_known_0 24 rfl rfl
theorem dksX0_known_2 : cX0_known.data.toList.drop 48 = dktX0_known_2 := dk_seg dksX0_known_1 24 rfl rfl
theorem dksX0_known_3 : cX0_known.data.toList.drop 71 = dktX0_known_3 := dk_seg dksX0_known_2 23 rfl rfl
theorem dksX0_known_4 : cX0_known.data.toList.drop 95 = dktX0_known_4 := dk_seg dksX0_known_3 24 rfl rfl
theorem dksX0_known_5 : cX0_known.data.toList.drop 119 = dktX0_known_5 := dk_seg dksX0_known_4 24 rfl rfl
theorem dX0_known_0 : decode cX0_known 0 = .ok (.new 7, 3) := dk_187 0 7 (dk_at dksX0_known_0 0 rfl rfl)
theorem dX0_known_3 : decode cX0_known 3 = .ok (.dup, 1) := dk_89 (dk_at dksX0_known_0 3 rfl rfl)
theorem dX0_known_4 : decode cX0_known 4 = .ok (.invokespecial 9, 3) := dk_183 0 9 (dk_at dksX0_known_0 4 rfl rfl)
theorem dX0_known_7 : decode cX0_known 7 = .ok (.astore_n 0, 1) := dk_75 (dk_at dksX0_known_0 7 rfl rfl)
theorem dX0_known_8 : decode cX0_known 8 = .ok (.aload_n 0, 1) := dk_42 (dk_at dksX0_known_0 8 rfl rfl)
theorem dX0_known_9 : decode cX0_known 9 = .ok (.iconst 0, 1) := dk_3 (dk_at dksX0_known_0 9 rfl rfl)
theorem dX0_known_10 : decode cX0_known 10 = .ok (.ldc 28, 2) := dk_18 28 (dk_at dksX0_known_0 10 rfl rfl)
theorem dX0_known_12 : decode cX0_known 12 = .ok (.ldc 29, 2) := dk_18 29 (dk_at dksX0_known_0 12 rfl rfl)
theorem dX0_known_14 : decode cX0_known 14 = .ok (.ldc 30, 2) := dk_18 30 (dk_at dksX0_known_0 14 rfl rfl)
theorem dX0_known_16 : decode cX0_known 16 = .ok (.iconst 0, 1) := dk_3 (dk_at dksX0_known_0 16 rfl rfl)
theorem dX0_known_17 : decode cX0_known 17 = .ok (.invokevirtual 16, 3) := dk_182 0 16 (dk_at dksX0_known_0 17 rfl rfl)
theorem dX0_known_20 : decode cX0_known 20 = .ok (.aload_n 0, 1) := dk_42 (dk_at dksX0_known_0 20 rfl rfl)
theorem dX0_known_21 : decode cX0_known 21 = .ok (.iconst 1, 1) := dk_4 (dk_at dksX0_known_0 21 rfl rfl)
theorem dX0_known_22 : decode cX0_known 22 = .ok (.iconst 0, 1) := dk_3 (dk_at dksX0_known_0 22 rfl rfl)
theorem dX0_known_23 : decode cX0_known 23 = .ok (.iconst 0, 1) := dk_3 (dk_at dksX0_known_0 23 rfl rfl)
theorem dX0_known_24 : decode cX0_known 24 = .ok (.iconst 0, 1) := dk_3 (dk_at dksX0_known_1 0 rfl rfl)
theorem dX0_known_25 : decode cX0_known 25 = .ok (.iconst 0, 1) := dk_3 (dk_at dksX0_known_1 1 rfl rfl)
theorem dX0_known_26 : decode cX0_known 26 = .ok (.invokevirtual 16, 3) := dk_182 0 16 (dk_at dksX0_known_1 2 rfl rfl)
theorem dX0_known_29 : decode cX0_known 29 = .ok (.aload_n 0, 1) := dk_42 (dk_at dksX0_known_1 5 rfl rfl)
theorem dX0_known_30 : decode cX0_known 30 = .ok (.ldc 31, 2) := dk_18 31 (dk_at dksX0_known_1 6 rfl rfl)
theorem dX0_known_32 : decode cX0_known 32 = .ok (.ldc 32, 2) := dk_18 32 (dk_at dksX0_known_1 8 rfl rfl)
theorem dX0_known_34 : decode cX0_known 34 = .ok (.invokevirtual 20, 3) := dk_182 0 20 (dk_at dksX0_known_1 10 rfl rfl)
theorem dX0_known_37 : decode cX0_known 37 = .ok (.aload_n 0, 1) := dk_42 (dk_at dksX0_known_1 13 rfl rfl)
theorem dX0_known_38 : decode cX0_known 38 = .ok (.iconst 0, 1) := dk_3 (dk_at dksX0_known_1 14 rfl rfl)
theorem dX0_known_39 : decode cX0_known 39 = .ok (.invokevirtual 33, 3) := dk_182 0 33 (dk_at dksX0_known_1 15 rfl rfl)
theorem dX0_known_42 : decode cX0_known 42 = .ok (.bipush 8, 2) := dk_16 8 (dk_at dksX0_known_1 18 rfl rfl)
theorem dX0_known_44 : decode cX0_known 44 = .ok (.newarray .int, 2) := dk_188_10 (dk_at dksX0_known_1 20 rfl rfl)
theorem dX0_known_46 : decode cX0_known 46 = .ok (.dup, 1) := dk_89 (dk_at dksX0_known_1 22 rfl rfl)
theorem dX0_known_47 : decode cX0_known 47 = .ok (.iconst 0, 1) := dk_3 (dk_at dksX0_known_1 23 rfl rfl)
theorem dX0_known_48 : decode cX0_known 48 = .ok (.bipush 37, 2) := dk_16 37 (dk_at dksX0_known_2 0 rfl rfl)
theorem dX0_known_50 : decode cX0_known 50 = .ok (.iastore, 1) := dk_79 (dk_at dksX0_known_2 2 rfl rfl)
theorem dX0_known_51 : decode cX0_known 51 = .ok (.dup, 1) := dk_89 (dk_at dksX0_known_2 3 rfl rfl)
theorem dX0_known_52 : decode cX0_known 52 = .ok (.iconst 1, 1) := dk_4 (dk_at dksX0_known_2 4 rfl rfl)
theorem dX0_known_53 : decode cX0_known 53 = .ok (.sipush 135, 3) := dk_17 0 135 (dk_at dksX0_known_2 5 rfl rfl)
theorem dX0_known_56 : decode cX0_known 56 = .ok (.iastore, 1) := dk_79 (dk_at dksX0_known_2 8 rfl rfl)
theorem dX0_known_57 : decode cX0_known 57 = .ok (.dup, 1) := dk_89 (dk_at dksX0_known_2 9 rfl rfl)
theorem dX0_known_58 : decode cX0_known 58 = .ok (.iconst 2, 1) := dk_5 (dk_at dksX0_known_2 10 rfl rfl)
theorem dX0_known_59 : decode cX0_known 59 = .ok (.sipush 202, 3) := dk_17 0 202 (dk_at dksX0_known_2 11 rfl rfl)
theorem dX0_known_62 : decode cX0_known 62 = .ok (.iastore, 1) := dk_79 (dk_at dksX0_known_2 14 rfl rfl)
theorem dX0_known_63 : decode cX0_known 63 = .ok (.dup, 1) := dk_89 (dk_at dksX0_known_2 15 rfl rfl)
theorem dX0_known_64 : decode cX0_known 64 = .ok (.iconst 3, 1) := dk_6 (dk_at dksX0_known_2 16 rfl rfl)
theorem dX0_known_65 : decode cX0_known 65 = .ok (.sipush 226, 3) := dk_17 0 226 (dk_at dksX0_known_2 17 rfl rfl)
theorem dX0_known_68 : decode cX0_known 68 = .ok (.iastore, 1) := dk_79 (dk_at dksX0_known_2 20 rfl rfl)
theorem dX0_known_69 : decode cX0_known 69 = .ok (.dup, 1) := dk_89 (dk_at dksX0_known_2 21 rfl rfl)
theorem dX0_known_70 : decode cX0_known 70 = .ok (.iconst 4, 1) := dk_7 (dk_at dksX0_known_2 22 rfl rfl)
theorem dX0_known_71 : decode cX0_known 71 = .ok (.bipush 122, 2) := dk_16 122 (dk_at dksX0_known_3 0 rfl rfl)
theorem dX0_known_73 : decode cX0_known 73 = .ok (.iastore, 1) := dk_79 (dk_at dksX0_known_3 2 rfl rfl)
theorem dX0_known_74 : decode cX0_known 74 = .ok (.dup, 1) := dk_89 (dk_at dksX0_known_3 3 rfl rfl)
theorem dX0_known_75 : decode cX0_known 75 = .ok (.iconst 5, 1) := dk_8 (dk_at dksX0_known_3 4 rfl rfl)
theorem dX0_known_76 : decode cX0_known 76 = .ok (.bipush 18, 2) := dk_16 18 (dk_at dksX0_known_3 5 rfl rfl)
theorem dX0_known_78 : decode cX0_known 78 = .ok (.iastore, 1) := dk_79 (dk_at dksX0_known_3 7 rfl rfl)
theorem dX0_known_79 : decode cX0_known 79 = .ok (.dup, 1) := dk_89 (dk_at dksX0_known_3 8 rfl rfl)
theorem dX0_known_80 : decode cX0_known 80 = .ok (.bipush 6, 2) := dk_16 6 (dk_at dksX0_known_3 9 rfl rfl)
theorem dX0_known_82 : decode cX0_known 82 = .ok (.sipush 211, 3) := dk_17 0 211 (dk_at dksX0_known_3 11 rfl rfl)
theorem dX0_known_85 : decode cX0_known 85 = .ok (.iastore, 1) := dk_79 (dk_at dksX0_known_3 14 rfl rfl)
theorem dX0_known_86 : decode cX0_known 86 = .ok (.dup, 1) := dk_89 (dk_at dksX0_known_3 15 rfl rfl)
theorem dX0_known_87 : decode cX0_known 87 = .ok (.bipush 7, 2) := dk_16 7 (dk_at dksX0_known_3 16 rfl rfl)
theorem dX0_known_89 : decode cX0_known 89 = .ok (.iconst 0, 1) := dk_3 (dk_at dksX0_known_3 18 rfl rfl)
theorem dX0_known_90 : decode cX0_known 90 = .ok (.iastore, 1) := dk_79 (dk_at dksX0_known_3 19 rfl rfl)
theorem dX0_known_91 : decode cX0_known 91 = .ok (.astore_n 1, 1) := dk_76 (dk_at dksX0_known_3 20 rfl rfl)
theorem dX0_known_92 : decode cX0_known 92 = .ok (.iconst 0, 1) := dk_3 (dk_at dksX0_known_3 21 rfl rfl)
theorem dX0_known_93 : decode cX0_known 93 = .ok (.istore_n 2, 1) := dk_61 (dk_at dksX0_known_3 22 rfl rfl)
theorem dX0_known_94 : decode cX0_known 94 = .ok (.iload_n 2, 1) := dk_28 (dk_at dksX0_known_3 23 rfl rfl)
theorem dX0_known_95 : decode cX0_known 95 = .ok (.bipush 8, 2) := dk_16 8 (dk_at dksX0_known_4 0 rfl rfl)
theorem dX0_known_97 : decode cX0_known 97 = .ok (.if_icmp .ge 22, 3) := dk_162 0 22 (dk_at dksX0_known_4 2 rfl rfl)
theorem dX0_known_100 : decode cX0_known 100 = .ok (.aload_n 0, 1) := dk_42 (dk_at dksX0_known_4 5 rfl rfl)
theorem dX0_known_101 : decode cX0_known 101 = .ok (.iload_n 2, 1) := dk_28 (dk_at dksX0_known_4 6 rfl rfl)
theorem dX0_known_102 : decode cX0_known 102 = .ok (.invokevirtual 24, 3) := dk_182 0 24 (dk_at dksX0_known_4 7 rfl rfl)
theorem dX0_known_105 : decode cX0_known 105 = .ok (.aload_n 1, 1) := dk_43 (dk_at dksX0_known_4 10 rfl rfl)
theorem dX0_known_106 : decode cX0_known 106 = .ok (.iload_n 2, 1) := dk_28 (dk_at dksX0_known_4 11 rfl rfl)
theorem dX0_known_107 : decode cX0_known 107 = .ok (.iaload, 1) := dk_46 (dk_at dksX0_known_4 12 rfl rfl)
theorem dX0_known_108 : decode cX0_known 108 = .ok (.if_icmp .eq 5, 3) := dk_159 0 5 (dk_at dksX0_known_4 13 rfl rfl)
theorem dX0_known_111 : decode cX0_known 111 = .ok (.iconst 0, 1) := dk_3 (dk_at dksX0_known_4 16 rfl rfl)
theorem dX0_known_112 : decode cX0_known 112 = .ok (.ireturn, 1) := dk_172 (dk_at dksX0_known_4 17 rfl rfl)
theorem dX0_known_113 : decode cX0_known 113 = .ok (.iinc 2 1, 3) := dk_132 2 1 (dk_at dksX0_known_4 18 rfl rfl)
theorem dX0_known_116 : decode cX0_known 116 = .ok (.goto (-22), 3) := dk_167 255 234 (dk_at dksX0_known_4 21 rfl rfl)
theorem dX0_known_119 : decode cX0_known 119 = .ok (.iconst 1, 1) := dk_4 (dk_at dksX0_known_5 0 rfl rfl)
theorem dX0_known_120 : decode cX0_known 120 = .ok (.ireturn, 1) := dk_172 (dk_at dksX0_known_5 1 rfl rfl)
theorem q4 : (Jvm.Cond.initialized "SkipjackDeskLaw") ∈ lw_all := lw_g (lw_at lw_m1 0 rfl) rfl
theorem q17 : (Jvm.Cond.methodLink "SkipjackDeskLaw" (33 : Nat) ({ cls := "SkipjackDesk", name := "lock", desc := "(I)V" } : Jvm.MethodName)) ∈ lw_all := lw_g (lw_at lw_m1 13 rfl) rfl
theorem q237 : (Jvm.Cond.methodLink "SkipjackDeskLaw" (45 : Nat) ({ cls := "SkipjackDesk", name := "open", desc := "(I)V" } : Jvm.MethodName)) ∈ lw_all := lw_g (lw_at lw_m1 233 rfl) rfl
theorem q241 : (Jvm.Cond.methodLink "SkipjackDeskLaw" (48 : Nat) ({ cls := "SkipjackDesk", name := "again", desc := "()V" } : Jvm.MethodName)) ∈ lw_all := lw_g (lw_at lw_m1 237 rfl) rfl
theorem q245 : (Jvm.Cond.methodLink "SkipjackDeskLaw" (41 : Nat) ({ cls := "SkipjackDeskLaw", name := "with", desc := "([I)LSkipjackDesk;" } : Jvm.MethodName)) ∈ lw_all := lw_g (lw_at lw_m2 1 rfl) rfl
theorem q246 : (Jvm.Cond.static ({ cls := "SkipjackDeskLaw", name := "with", desc := "([I)LSkipjackDesk;" } : Jvm.MethodName)) ∈ lw_all := lw_g (lw_at lw_m2 2 rfl) rfl
theorem q247 : (Jvm.Cond.code ({ cls := "SkipjackDeskLaw", name := "with", desc := "([I)LSkipjackDesk;" } : Jvm.MethodName) method_3_code (2 : Nat) (Option.some (Jvm.ClassFile.FieldType.object "SkipjackDesk"))) ∈ lw_all := lw_g (lw_at lw_m2 3 rfl) rfl
theorem q248 : (Jvm.Cond.classLink "SkipjackDeskLaw" (7 : Nat) "SkipjackDesk") ∈ lw_all := lw_g (lw_at lw_m2 4 rfl) rfl
theorem q249 : (Jvm.Cond.methodLink "SkipjackDeskLaw" (9 : Nat) ({ cls := "SkipjackDesk", name := "<init>", desc := "()V" } : Jvm.MethodName)) ∈ lw_all := lw_g (lw_at lw_m2 5 rfl) rfl
theorem q263 : (Jvm.Cond.methodLink "SkipjackDeskLaw" (10 : Nat) ({ cls := "SkipjackDeskLaw", name := "cell", desc := "([II)I" } : Jvm.MethodName)) ∈ lw_all := lw_g (lw_at lw_m2 19 rfl) rfl
theorem q264 : (Jvm.Cond.static ({ cls := "SkipjackDeskLaw", name := "cell", desc := "([II)I" } : Jvm.MethodName)) ∈ lw_all := lw_g (lw_at lw_m2 20 rfl) rfl
theorem q265 : (Jvm.Cond.code ({ cls := "SkipjackDeskLaw", name := "cell", desc := "([II)I" } : Jvm.MethodName) method_2_code (2 : Nat) (Option.some Jvm.ClassFile.FieldType.int)) ∈ lw_all := lw_g (lw_at lw_m2 21 rfl) rfl
theorem q266 : (Jvm.Cond.methodLink "SkipjackDeskLaw" (16 : Nat) ({ cls := "SkipjackDesk", name := "key", desc := "(IIIII)V" } : Jvm.MethodName)) ∈ lw_all := lw_g (lw_at lw_m2 22 rfl) rfl
theorem q273 : (Jvm.Cond.methodLink "SkipjackDeskLaw" (20 : Nat) ({ cls := "SkipjackDesk", name := "block", desc := "(II)V" } : Jvm.MethodName)) ∈ lw_all := lw_g (lw_at lw_m2 29 rfl) rfl
theorem q277 : (Jvm.Cond.methodLink "SkipjackDeskLaw" (51 : Nat) ({ cls := "SkipjackDeskLaw", name := "same", desc := "(LSkipjackDesk;[I)Z" } : Jvm.MethodName)) ∈ lw_all := lw_g (lw_at lw_m2 33 rfl) rfl
theorem q278 : (Jvm.Cond.static ({ cls := "SkipjackDeskLaw", name := "same", desc := "(LSkipjackDesk;[I)Z" } : Jvm.MethodName)) ∈ lw_all := lw_g (lw_at lw_m2 34 rfl) rfl
theorem q279 : (Jvm.Cond.code ({ cls := "SkipjackDeskLaw", name := "same", desc := "(LSkipjackDesk;[I)Z" } : Jvm.MethodName) method_4_code (3 : Nat) (Option.some Jvm.ClassFile.FieldType.boolean)) ∈ lw_all := lw_g (lw_at lw_m2 35 rfl) rfl
theorem q280 : (Jvm.Cond.methodLink "SkipjackDeskLaw" (24 : Nat) ({ cls := "SkipjackDesk", name := "out", desc := "(I)I" } : Jvm.MethodName)) ∈ lw_all := lw_g (lw_at lw_m2 36 rfl) rfl
theorem q284 : (Jvm.Cond.methodLink "SkipjackDeskLaw" (37 : Nat) ({ cls := "SkipjackDeskLaw", name := "known", desc := "()Z" } : Jvm.MethodName)) ∈ lw_all := lw_g (lw_at lw_m2 40 rfl) rfl
theorem q285 : (Jvm.Cond.static ({ cls := "SkipjackDeskLaw", name := "known", desc := "()Z" } : Jvm.MethodName)) ∈ lw_all := lw_g (lw_at lw_m2 41 rfl) rfl
theorem q286 : (Jvm.Cond.code ({ cls := "SkipjackDeskLaw", name := "known", desc := "()Z" } : Jvm.MethodName) method_5_code (3 : Nat) (Option.some Jvm.ClassFile.FieldType.boolean)) ∈ lw_all := lw_g (lw_at lw_m2 42 rfl) rfl
theorem q287 : (Jvm.Cond.constant "SkipjackDeskLaw" (28 : Nat) (10061943 : Int32)) ∈ lw_all := lw_g (lw_at lw_m2 43 rfl) rfl
theorem q288 : (Jvm.Cond.constant "SkipjackDeskLaw" (29 : Nat) (1716864051 : Int32)) ∈ lw_all := lw_g (lw_at lw_m2 44 rfl) rfl
theorem q289 : (Jvm.Cond.constant "SkipjackDeskLaw" (30 : Nat) (571539456 : Int32)) ∈ lw_all := lw_g (lw_at lw_m2 45 rfl) rfl
theorem q290 : (Jvm.Cond.constant "SkipjackDeskLaw" (31 : Nat) (857870592 : Int32)) ∈ lw_all := lw_g (lw_at lw_m2 46 rfl) rfl
theorem q291 : (Jvm.Cond.constant "SkipjackDeskLaw" (32 : Nat) (-573785174 : Int32)) ∈ lw_all := lw_g (lw_at lw_m2 47 rfl) rfl
/-! SkipjackDesk -/
set_option maxRecDepth 100000
def RX1 : String := "SkipjackDesk"
def TX1 : u_T := fun k => match k with
  | 0 => ("SkipjackDesk", "key", "[B", true)
  | 1 => ("SkipjackDesk", "block", "[B", true)
  | _ => ("SkipjackDesk", "out", "[B", true)
def tyX1 : Nat → FieldType := fun k => match k with
  | 0 => .array .byte
  | 1 => .array .byte
  | _ => .array .byte
abbrev wsX10 : List Cond := u_ws RX1 TX1 3
theorem nmX1 : ∀ a, a < 3 → ∀ b, b < 3 → a ≠ b → (TX1 a).2.1 ≠ (TX1 b).2.1 := by decide +kernel
theorem tyX1_ok : ∀ k, k < 3 → parseFieldDescriptor (TX1 k).2.2.1 = some (tyX1 k) := by decide +kernel
abbrev cX1_lock : ByteArray := prog_7_method_7_code
def yX1_lock : MethodName := ⟨RX1, "lock", "(I)V"⟩
def dkwX1_lock_0 : List UInt8 := [42, 4, 27, 182, 0, 45, 177]
abbrev dktX1_lock_0 : List UInt8 := dkwX1_lock_0 ++ []
theorem dksX1_lock_0 : cX1_lock.data.toList.drop 0 = dktX1_lock_0 := by decide +kernel
theorem dX1_lock_0 : decode cX1_lock 0 = .ok (.aload_n 0, 1) := dk_42 (dk_at dksX1_lock_0 0 rfl rfl)
theorem dX1_lock_1 : decode cX1_lock 1 = .ok (.iconst 1, 1) := dk_4 (dk_at dksX1_lock_0 1 rfl rfl)
theorem dX1_lock_2 : decode cX1_lock 2 = .ok (.iload_n 1, 1) := dk_27 (dk_at dksX1_lock_0 2 rfl rfl)
theorem dX1_lock_3 : decode cX1_lock 3 = .ok (.invokevirtual 45, 3) := dk_182 0 45 (dk_at dksX1_lock_0 3 rfl rfl)
theorem dX1_lock_6 : decode cX1_lock 6 = .ok (.return_, 1) := dk_177 (dk_at dksX1_lock_0 6 rfl rfl)
abbrev cX1_run : ByteArray := prog_7_method_5_code
def yX1_run : MethodName := ⟨RX1, "run", "(ZI)V"⟩
def dkwX1_run_3 : List UInt8 := [180, 0, 13, 3, 42, 180, 0, 16, 3, 185, 0, 41, 5, 0, 87, 177]
abbrev dktX1_run_3 : List UInt8 := dkwX1_run_3 ++ []
def dkwX1_run_2 : List UInt8 := [58, 5, 25, 5, 27, 187, 0, 30, 89, 25, 4, 183, 0, 32, 185, 0, 35, 3, 0, 25, 5, 42]
abbrev dktX1_run_2 : List UInt8 := dkwX1_run_2 ++ dktX1_run_3
def dkwX1_run_1 : List UInt8 := [21, 5, 42, 180, 0, 7, 21, 5, 51, 84, 132, 5, 1, 167, 255, 235, 187, 0, 27, 89, 183, 0, 29]
abbrev dktX1_run_1 : List UInt8 := dkwX1_run_1 ++ dktX1_run_2
def dkwX1_run_0 : List UInt8 := [28, 6, 126, 184, 0, 23, 62, 29, 188, 8, 58, 4, 3, 54, 5, 21, 5, 29, 162, 0, 21, 25, 4]
abbrev dktX1_run_0 : List UInt8 := dkwX1_run_0 ++ dktX1_run_1
theorem dksX1_run_0 : cX1_run.data.toList.drop 0 = dktX1_run_0 := by decide +kernel
theorem dksX1_run_1 : cX1_run.data.toList.drop 23 = dktX1_run_1 := dk_seg dksX1_run_0 23 rfl rfl
theorem dksX1_run_2 : cX1_run.data.toList.drop 46 = dktX1_run_2 := dk_seg dksX1_run_1 23 rfl rfl
theorem dksX1_run_3 : cX1_run.data.toList.drop 68 = dktX1_run_3 := dk_seg dksX1_run_2 22 rfl rfl
theorem dX1_run_0 : decode cX1_run 0 = .ok (.iload_n 2, 1) := dk_28 (dk_at dksX1_run_0 0 rfl rfl)
theorem dX1_run_1 : decode cX1_run 1 = .ok (.iconst 3, 1) := dk_6 (dk_at dksX1_run_0 1 rfl rfl)
theorem dX1_run_2 : decode cX1_run 2 = .ok (.iand, 1) := dk_126 (dk_at dksX1_run_0 2 rfl rfl)
theorem dX1_run_3 : decode cX1_run 3 = .ok (.invokestatic 23, 3) := dk_184 0 23 (dk_at dksX1_run_0 3 rfl rfl)
theorem dX1_run_6 : decode cX1_run 6 = .ok (.istore_n 3, 1) := dk_62 (dk_at dksX1_run_0 6 rfl rfl)
theorem dX1_run_7 : decode cX1_run 7 = .ok (.iload_n 3, 1) := dk_29 (dk_at dksX1_run_0 7 rfl rfl)
theorem dX1_run_8 : decode cX1_run 8 = .ok (.newarray .byte, 2) := dk_188_8 (dk_at dksX1_run_0 8 rfl rfl)
theorem dX1_run_10 : decode cX1_run 10 = .ok (.astore 4, 2) := dk_58 4 (dk_at dksX1_run_0 10 rfl rfl)
theorem dX1_run_12 : decode cX1_run 12 = .ok (.iconst 0, 1) := dk_3 (dk_at dksX1_run_0 12 rfl rfl)
theorem dX1_run_13 : decode cX1_run 13 = .ok (.istore 5, 2) := dk_54 5 (dk_at dksX1_run_0 13 rfl rfl)
theorem dX1_run_15 : decode cX1_run 15 = .ok (.iload 5, 2) := dk_21 5 (dk_at dksX1_run_0 15 rfl rfl)
theorem dX1_run_17 : decode cX1_run 17 = .ok (.iload_n 3, 1) := dk_29 (dk_at dksX1_run_0 17 rfl rfl)
theorem dX1_run_18 : decode cX1_run 18 = .ok (.if_icmp .ge 21, 3) := dk_162 0 21 (dk_at dksX1_run_0 18 rfl rfl)
theorem dX1_run_21 : decode cX1_run 21 = .ok (.aload 4, 2) := dk_25 4 (dk_at dksX1_run_0 21 rfl rfl)
theorem dX1_run_23 : decode cX1_run 23 = .ok (.iload 5, 2) := dk_21 5 (dk_at dksX1_run_1 0 rfl rfl)
theorem dX1_run_25 : decode cX1_run 25 = .ok (.aload_n 0, 1) := dk_42 (dk_at dksX1_run_1 2 rfl rfl)
theorem dX1_run_26 : decode cX1_run 26 = .ok (.getfield 7, 3) := dk_180 0 7 (dk_at dksX1_run_1 3 rfl rfl)
theorem dX1_run_29 : decode cX1_run 29 = .ok (.iload 5, 2) := dk_21 5 (dk_at dksX1_run_1 6 rfl rfl)
theorem dX1_run_31 : decode cX1_run 31 = .ok (.baload, 1) := dk_51 (dk_at dksX1_run_1 8 rfl rfl)
theorem dX1_run_32 : decode cX1_run 32 = .ok (.bastore, 1) := dk_84 (dk_at dksX1_run_1 9 rfl rfl)
theorem dX1_run_33 : decode cX1_run 33 = .ok (.iinc 5 1, 3) := dk_132 5 1 (dk_at dksX1_run_1 10 rfl rfl)
theorem dX1_run_36 : decode cX1_run 36 = .ok (.goto (-21), 3) := dk_167 255 235 (dk_at dksX1_run_1 13 rfl rfl)
theorem dX1_run_39 : decode cX1_run 39 = .ok (.new 27, 3) := dk_187 0 27 (dk_at dksX1_run_1 16 rfl rfl)
theorem dX1_run_42 : decode cX1_run 42 = .ok (.dup, 1) := dk_89 (dk_at dksX1_run_1 19 rfl rfl)
theorem dX1_run_43 : decode cX1_run 43 = .ok (.invokespecial 29, 3) := dk_183 0 29 (dk_at dksX1_run_1 20 rfl rfl)
theorem dX1_run_46 : decode cX1_run 46 = .ok (.astore 5, 2) := dk_58 5 (dk_at dksX1_run_2 0 rfl rfl)
theorem dX1_run_48 : decode cX1_run 48 = .ok (.aload 5, 2) := dk_25 5 (dk_at dksX1_run_2 2 rfl rfl)
theorem dX1_run_50 : decode cX1_run 50 = .ok (.iload_n 1, 1) := dk_27 (dk_at dksX1_run_2 4 rfl rfl)
theorem dX1_run_51 : decode cX1_run 51 = .ok (.new 30, 3) := dk_187 0 30 (dk_at dksX1_run_2 5 rfl rfl)
theorem dX1_run_54 : decode cX1_run 54 = .ok (.dup, 1) := dk_89 (dk_at dksX1_run_2 8 rfl rfl)
theorem dX1_run_55 : decode cX1_run 55 = .ok (.aload 4, 2) := dk_25 4 (dk_at dksX1_run_2 9 rfl rfl)
theorem dX1_run_57 : decode cX1_run 57 = .ok (.invokespecial 32, 3) := dk_183 0 32 (dk_at dksX1_run_2 11 rfl rfl)
theorem dX1_run_60 : decode cX1_run 60 = .ok (.invokeinterface 35 3, 5) := by decide +kernel
theorem dX1_run_65 : decode cX1_run 65 = .ok (.aload 5, 2) := dk_25 5 (dk_at dksX1_run_2 19 rfl rfl)
theorem dX1_run_67 : decode cX1_run 67 = .ok (.aload_n 0, 1) := dk_42 (dk_at dksX1_run_2 21 rfl rfl)
theorem dX1_run_68 : decode cX1_run 68 = .ok (.getfield 13, 3) := dk_180 0 13 (dk_at dksX1_run_3 0 rfl rfl)
theorem dX1_run_71 : decode cX1_run 71 = .ok (.iconst 0, 1) := dk_3 (dk_at dksX1_run_3 3 rfl rfl)
theorem dX1_run_72 : decode cX1_run 72 = .ok (.aload_n 0, 1) := dk_42 (dk_at dksX1_run_3 4 rfl rfl)
theorem dX1_run_73 : decode cX1_run 73 = .ok (.getfield 16, 3) := dk_180 0 16 (dk_at dksX1_run_3 5 rfl rfl)
theorem dX1_run_76 : decode cX1_run 76 = .ok (.iconst 0, 1) := dk_3 (dk_at dksX1_run_3 8 rfl rfl)
theorem dX1_run_77 : decode cX1_run 77 = .ok (.invokeinterface 41 5, 5) := by decide +kernel
theorem dX1_run_82 : decode cX1_run 82 = .ok (.pop, 1) := dk_87 (dk_at dksX1_run_3 14 rfl rfl)
theorem dX1_run_83 : decode cX1_run 83 = .ok (.return_, 1) := dk_177 (dk_at dksX1_run_3 15 rfl rfl)
abbrev cX1_size : ByteArray := prog_7_method_6_code
def yX1_size : MethodName := ⟨RX1, "size", "(I)I"⟩
theorem dX1_size_0 : decode cX1_size 0 = .ok (.bipush 10, 2) := by decide +kernel
theorem dX1_size_2 : decode cX1_size 2 = .ok (.ireturn, 1) := by decide +kernel
abbrev cX1_open : ByteArray := prog_7_method_8_code
def yX1_open : MethodName := ⟨RX1, "open", "(I)V"⟩
def dkwX1_open_0 : List UInt8 := [42, 3, 27, 182, 0, 45, 177]
abbrev dktX1_open_0 : List UInt8 := dkwX1_open_0 ++ []
theorem dksX1_open_0 : cX1_open.data.toList.drop 0 = dktX1_open_0 := by decide +kernel
theorem dX1_open_0 : decode cX1_open 0 = .ok (.aload_n 0, 1) := dk_42 (dk_at dksX1_open_0 0 rfl rfl)
theorem dX1_open_1 : decode cX1_open 1 = .ok (.iconst 0, 1) := dk_3 (dk_at dksX1_open_0 1 rfl rfl)
theorem dX1_open_2 : decode cX1_open 2 = .ok (.iload_n 1, 1) := dk_27 (dk_at dksX1_open_0 2 rfl rfl)
theorem dX1_open_3 : decode cX1_open 3 = .ok (.invokevirtual 45, 3) := dk_182 0 45 (dk_at dksX1_open_0 3 rfl rfl)
theorem dX1_open_6 : decode cX1_open 6 = .ok (.return_, 1) := dk_177 (dk_at dksX1_open_0 6 rfl rfl)
abbrev cX1_again : ByteArray := prog_7_method_9_code
def yX1_again : MethodName := ⟨RX1, "again", "()V"⟩
def dkwX1_again_1 : List UInt8 := [167, 255, 235, 177]
abbrev dktX1_again_1 : List UInt8 := dkwX1_again_1 ++ []
def dkwX1_again_0 : List UInt8 := [3, 60, 27, 16, 8, 162, 0, 21, 42, 180, 0, 13, 27, 42, 180, 0, 16, 27, 51, 84, 132, 1, 1]
abbrev dktX1_again_0 : List UInt8 := dkwX1_again_0 ++ dktX1_again_1
theorem dksX1_again_0 : cX1_again.data.toList.drop 0 = dktX1_again_0 := by decide +kernel
theorem dksX1_again_1 : cX1_again.data.toList.drop 23 = dktX1_again_1 := dk_seg dksX1_again_0 23 rfl rfl
theorem dX1_again_0 : decode cX1_again 0 = .ok (.iconst 0, 1) := dk_3 (dk_at dksX1_again_0 0 rfl rfl)
theorem dX1_again_1 : decode cX1_again 1 = .ok (.istore_n 1, 1) := dk_60 (dk_at dksX1_again_0 1 rfl rfl)
theorem dX1_again_2 : decode cX1_again 2 = .ok (.iload_n 1, 1) := dk_27 (dk_at dksX1_again_0 2 rfl rfl)
theorem dX1_again_3 : decode cX1_again 3 = .ok (.bipush 8, 2) := dk_16 8 (dk_at dksX1_again_0 3 rfl rfl)
theorem dX1_again_5 : decode cX1_again 5 = .ok (.if_icmp .ge 21, 3) := dk_162 0 21 (dk_at dksX1_again_0 5 rfl rfl)
theorem dX1_again_8 : decode cX1_again 8 = .ok (.aload_n 0, 1) := dk_42 (dk_at dksX1_again_0 8 rfl rfl)
theorem dX1_again_9 : decode cX1_again 9 = .ok (.getfield 13, 3) := dk_180 0 13 (dk_at dksX1_again_0 9 rfl rfl)
theorem dX1_again_12 : decode cX1_again 12 = .ok (.iload_n 1, 1) := dk_27 (dk_at dksX1_again_0 12 rfl rfl)
theorem dX1_again_13 : decode cX1_again 13 = .ok (.aload_n 0, 1) := dk_42 (dk_at dksX1_again_0 13 rfl rfl)
theorem dX1_again_14 : decode cX1_again 14 = .ok (.getfield 16, 3) := dk_180 0 16 (dk_at dksX1_again_0 14 rfl rfl)
theorem dX1_again_17 : decode cX1_again 17 = .ok (.iload_n 1, 1) := dk_27 (dk_at dksX1_again_0 17 rfl rfl)
theorem dX1_again_18 : decode cX1_again 18 = .ok (.baload, 1) := dk_51 (dk_at dksX1_again_0 18 rfl rfl)
theorem dX1_again_19 : decode cX1_again 19 = .ok (.bastore, 1) := dk_84 (dk_at dksX1_again_0 19 rfl rfl)
theorem dX1_again_20 : decode cX1_again 20 = .ok (.iinc 1 1, 3) := dk_132 1 1 (dk_at dksX1_again_0 20 rfl rfl)
theorem dX1_again_23 : decode cX1_again 23 = .ok (.goto (-21), 3) := dk_167 255 235 (dk_at dksX1_again_1 0 rfl rfl)
theorem dX1_again_26 : decode cX1_again 26 = .ok (.return_, 1) := dk_177 (dk_at dksX1_again_1 3 rfl rfl)
abbrev cX1_init : ByteArray := prog_7_method_1_code
def yX1_init : MethodName := ⟨RX1, "<init>", "()V"⟩
def dkwX1_init_1 : List UInt8 := [188, 8, 181, 0, 16, 177]
abbrev dktX1_init_1 : List UInt8 := dkwX1_init_1 ++ []
def dkwX1_init_0 : List UInt8 := [42, 183, 0, 1, 42, 16, 32, 188, 8, 181, 0, 7, 42, 16, 8, 188, 8, 181, 0, 13, 42, 16, 8]
abbrev dktX1_init_0 : List UInt8 := dkwX1_init_0 ++ dktX1_init_1
theorem dksX1_init_0 : cX1_init.data.toList.drop 0 = dktX1_init_0 := by decide +kernel
theorem dksX1_init_1 : cX1_init.data.toList.drop 23 = dktX1_init_1 := dk_seg dksX1_init_0 23 rfl rfl
theorem dX1_init_0 : decode cX1_init 0 = .ok (.aload_n 0, 1) := dk_42 (dk_at dksX1_init_0 0 rfl rfl)
theorem dX1_init_1 : decode cX1_init 1 = .ok (.invokespecial 1, 3) := dk_183 0 1 (dk_at dksX1_init_0 1 rfl rfl)
theorem dX1_init_4 : decode cX1_init 4 = .ok (.aload_n 0, 1) := dk_42 (dk_at dksX1_init_0 4 rfl rfl)
theorem dX1_init_5 : decode cX1_init 5 = .ok (.bipush 32, 2) := dk_16 32 (dk_at dksX1_init_0 5 rfl rfl)
theorem dX1_init_7 : decode cX1_init 7 = .ok (.newarray .byte, 2) := dk_188_8 (dk_at dksX1_init_0 7 rfl rfl)
theorem dX1_init_9 : decode cX1_init 9 = .ok (.putfield 7, 3) := dk_181 0 7 (dk_at dksX1_init_0 9 rfl rfl)
theorem dX1_init_12 : decode cX1_init 12 = .ok (.aload_n 0, 1) := dk_42 (dk_at dksX1_init_0 12 rfl rfl)
theorem dX1_init_13 : decode cX1_init 13 = .ok (.bipush 8, 2) := dk_16 8 (dk_at dksX1_init_0 13 rfl rfl)
theorem dX1_init_15 : decode cX1_init 15 = .ok (.newarray .byte, 2) := dk_188_8 (dk_at dksX1_init_0 15 rfl rfl)
theorem dX1_init_17 : decode cX1_init 17 = .ok (.putfield 13, 3) := dk_181 0 13 (dk_at dksX1_init_0 17 rfl rfl)
theorem dX1_init_20 : decode cX1_init 20 = .ok (.aload_n 0, 1) := dk_42 (dk_at dksX1_init_0 20 rfl rfl)
theorem dX1_init_21 : decode cX1_init 21 = .ok (.bipush 8, 2) := dk_16 8 (dk_at dksX1_init_0 21 rfl rfl)
theorem dX1_init_23 : decode cX1_init 23 = .ok (.newarray .byte, 2) := dk_188_8 (dk_at dksX1_init_1 0 rfl rfl)
theorem dX1_init_25 : decode cX1_init 25 = .ok (.putfield 16, 3) := dk_181 0 16 (dk_at dksX1_init_1 2 rfl rfl)
theorem dX1_init_28 : decode cX1_init 28 = .ok (.return_, 1) := dk_177 (dk_at dksX1_init_1 5 rfl rfl)
abbrev cX1_key : ByteArray := prog_7_method_3_code
def yX1_key : MethodName := ⟨RX1, "key", "(IIIII)V"⟩
def dkwX1_key_2 : List UInt8 := [21, 6, 16, 12, 96, 21, 5, 184, 0, 19, 177]
abbrev dktX1_key_2 : List UInt8 := dkwX1_key_2 ++ []
def dkwX1_key_1 : List UInt8 := [96, 29, 184, 0, 19, 42, 180, 0, 7, 21, 6, 16, 8, 96, 21, 4, 184, 0, 19, 42, 180, 0, 7]
abbrev dktX1_key_1 : List UInt8 := dkwX1_key_1 ++ dktX1_key_2
def dkwX1_key_0 : List UInt8 := [27, 4, 126, 7, 120, 54, 6, 42, 180, 0, 7, 21, 6, 28, 184, 0, 19, 42, 180, 0, 7, 21, 6, 7]
abbrev dktX1_key_0 : List UInt8 := dkwX1_key_0 ++ dktX1_key_1
theorem dksX1_key_0 : cX1_key.data.toList.drop 0 = dktX1_key_0 := by decide +kernel
theorem dksX1_key_1 : cX1_key.data.toList.drop 24 = dktX1_key_1 := dk_seg dksX1_key_0 24 rfl rfl
theorem dksX1_key_2 : cX1_key.data.toList.drop 47 = dktX1_key_2 := dk_seg dksX1_key_1 23 rfl rfl
theorem dX1_key_0 : decode cX1_key 0 = .ok (.iload_n 1, 1) := dk_27 (dk_at dksX1_key_0 0 rfl rfl)
theorem dX1_key_1 : decode cX1_key 1 = .ok (.iconst 1, 1) := dk_4 (dk_at dksX1_key_0 1 rfl rfl)
theorem dX1_key_2 : decode cX1_key 2 = .ok (.iand, 1) := dk_126 (dk_at dksX1_key_0 2 rfl rfl)
theorem dX1_key_3 : decode cX1_key 3 = .ok (.iconst 4, 1) := dk_7 (dk_at dksX1_key_0 3 rfl rfl)
theorem dX1_key_4 : decode cX1_key 4 = .ok (.ishl, 1) := dk_120 (dk_at dksX1_key_0 4 rfl rfl)
theorem dX1_key_5 : decode cX1_key 5 = .ok (.istore 6, 2) := dk_54 6 (dk_at dksX1_key_0 5 rfl rfl)
theorem dX1_key_7 : decode cX1_key 7 = .ok (.aload_n 0, 1) := dk_42 (dk_at dksX1_key_0 7 rfl rfl)
theorem dX1_key_8 : decode cX1_key 8 = .ok (.getfield 7, 3) := dk_180 0 7 (dk_at dksX1_key_0 8 rfl rfl)
theorem dX1_key_11 : decode cX1_key 11 = .ok (.iload 6, 2) := dk_21 6 (dk_at dksX1_key_0 11 rfl rfl)
theorem dX1_key_13 : decode cX1_key 13 = .ok (.iload_n 2, 1) := dk_28 (dk_at dksX1_key_0 13 rfl rfl)
theorem dX1_key_14 : decode cX1_key 14 = .ok (.invokestatic 19, 3) := dk_184 0 19 (dk_at dksX1_key_0 14 rfl rfl)
theorem dX1_key_17 : decode cX1_key 17 = .ok (.aload_n 0, 1) := dk_42 (dk_at dksX1_key_0 17 rfl rfl)
theorem dX1_key_18 : decode cX1_key 18 = .ok (.getfield 7, 3) := dk_180 0 7 (dk_at dksX1_key_0 18 rfl rfl)
theorem dX1_key_21 : decode cX1_key 21 = .ok (.iload 6, 2) := dk_21 6 (dk_at dksX1_key_0 21 rfl rfl)
theorem dX1_key_23 : decode cX1_key 23 = .ok (.iconst 4, 1) := dk_7 (dk_at dksX1_key_0 23 rfl rfl)
theorem dX1_key_24 : decode cX1_key 24 = .ok (.iadd, 1) := dk_96 (dk_at dksX1_key_1 0 rfl rfl)
theorem dX1_key_25 : decode cX1_key 25 = .ok (.iload_n 3, 1) := dk_29 (dk_at dksX1_key_1 1 rfl rfl)
theorem dX1_key_26 : decode cX1_key 26 = .ok (.invokestatic 19, 3) := dk_184 0 19 (dk_at dksX1_key_1 2 rfl rfl)
theorem dX1_key_29 : decode cX1_key 29 = .ok (.aload_n 0, 1) := dk_42 (dk_at dksX1_key_1 5 rfl rfl)
theorem dX1_key_30 : decode cX1_key 30 = .ok (.getfield 7, 3) := dk_180 0 7 (dk_at dksX1_key_1 6 rfl rfl)
theorem dX1_key_33 : decode cX1_key 33 = .ok (.iload 6, 2) := dk_21 6 (dk_at dksX1_key_1 9 rfl rfl)
theorem dX1_key_35 : decode cX1_key 35 = .ok (.bipush 8, 2) := dk_16 8 (dk_at dksX1_key_1 11 rfl rfl)
theorem dX1_key_37 : decode cX1_key 37 = .ok (.iadd, 1) := dk_96 (dk_at dksX1_key_1 13 rfl rfl)
theorem dX1_key_38 : decode cX1_key 38 = .ok (.iload 4, 2) := dk_21 4 (dk_at dksX1_key_1 14 rfl rfl)
theorem dX1_key_40 : decode cX1_key 40 = .ok (.invokestatic 19, 3) := dk_184 0 19 (dk_at dksX1_key_1 16 rfl rfl)
theorem dX1_key_43 : decode cX1_key 43 = .ok (.aload_n 0, 1) := dk_42 (dk_at dksX1_key_1 19 rfl rfl)
theorem dX1_key_44 : decode cX1_key 44 = .ok (.getfield 7, 3) := dk_180 0 7 (dk_at dksX1_key_1 20 rfl rfl)
theorem dX1_key_47 : decode cX1_key 47 = .ok (.iload 6, 2) := dk_21 6 (dk_at dksX1_key_2 0 rfl rfl)
theorem dX1_key_49 : decode cX1_key 49 = .ok (.bipush 12, 2) := dk_16 12 (dk_at dksX1_key_2 2 rfl rfl)
theorem dX1_key_51 : decode cX1_key 51 = .ok (.iadd, 1) := dk_96 (dk_at dksX1_key_2 4 rfl rfl)
theorem dX1_key_52 : decode cX1_key 52 = .ok (.iload 5, 2) := dk_21 5 (dk_at dksX1_key_2 5 rfl rfl)
theorem dX1_key_54 : decode cX1_key 54 = .ok (.invokestatic 19, 3) := dk_184 0 19 (dk_at dksX1_key_2 7 rfl rfl)
theorem dX1_key_57 : decode cX1_key 57 = .ok (.return_, 1) := dk_177 (dk_at dksX1_key_2 10 rfl rfl)
abbrev cX1_word : ByteArray := prog_7_method_2_code
def yX1_word : MethodName := ⟨RX1, "word", "([BII)V"⟩
def dkwX1_word_1 : List UInt8 := [16, 8, 122, 145, 84, 42, 27, 6, 96, 28, 145, 84, 177]
abbrev dktX1_word_1 : List UInt8 := dkwX1_word_1 ++ []
def dkwX1_word_0 : List UInt8 := [42, 27, 28, 16, 24, 122, 145, 84, 42, 27, 4, 96, 28, 16, 16, 122, 145, 84, 42, 27, 5, 96, 28]
abbrev dktX1_word_0 : List UInt8 := dkwX1_word_0 ++ dktX1_word_1
theorem dksX1_word_0 : cX1_word.data.toList.drop 0 = dktX1_word_0 := by decide +kernel
theorem dksX1_word_1 : cX1_word.data.toList.drop 23 = dktX1_word_1 := dk_seg dksX1_word_0 23 rfl rfl
theorem dX1_word_0 : decode cX1_word 0 = .ok (.aload_n 0, 1) := dk_42 (dk_at dksX1_word_0 0 rfl rfl)
theorem dX1_word_1 : decode cX1_word 1 = .ok (.iload_n 1, 1) := dk_27 (dk_at dksX1_word_0 1 rfl rfl)
theorem dX1_word_2 : decode cX1_word 2 = .ok (.iload_n 2, 1) := dk_28 (dk_at dksX1_word_0 2 rfl rfl)
theorem dX1_word_3 : decode cX1_word 3 = .ok (.bipush 24, 2) := dk_16 24 (dk_at dksX1_word_0 3 rfl rfl)
theorem dX1_word_5 : decode cX1_word 5 = .ok (.ishr, 1) := dk_122 (dk_at dksX1_word_0 5 rfl rfl)
theorem dX1_word_6 : decode cX1_word 6 = .ok (.i2b, 1) := dk_145 (dk_at dksX1_word_0 6 rfl rfl)
theorem dX1_word_7 : decode cX1_word 7 = .ok (.bastore, 1) := dk_84 (dk_at dksX1_word_0 7 rfl rfl)
theorem dX1_word_8 : decode cX1_word 8 = .ok (.aload_n 0, 1) := dk_42 (dk_at dksX1_word_0 8 rfl rfl)
theorem dX1_word_9 : decode cX1_word 9 = .ok (.iload_n 1, 1) := dk_27 (dk_at dksX1_word_0 9 rfl rfl)
theorem dX1_word_10 : decode cX1_word 10 = .ok (.iconst 1, 1) := dk_4 (dk_at dksX1_word_0 10 rfl rfl)
theorem dX1_word_11 : decode cX1_word 11 = .ok (.iadd, 1) := dk_96 (dk_at dksX1_word_0 11 rfl rfl)
theorem dX1_word_12 : decode cX1_word 12 = .ok (.iload_n 2, 1) := dk_28 (dk_at dksX1_word_0 12 rfl rfl)
theorem dX1_word_13 : decode cX1_word 13 = .ok (.bipush 16, 2) := dk_16 16 (dk_at dksX1_word_0 13 rfl rfl)
theorem dX1_word_15 : decode cX1_word 15 = .ok (.ishr, 1) := dk_122 (dk_at dksX1_word_0 15 rfl rfl)
theorem dX1_word_16 : decode cX1_word 16 = .ok (.i2b, 1) := dk_145 (dk_at dksX1_word_0 16 rfl rfl)
theorem dX1_word_17 : decode cX1_word 17 = .ok (.bastore, 1) := dk_84 (dk_at dksX1_word_0 17 rfl rfl)
theorem dX1_word_18 : decode cX1_word 18 = .ok (.aload_n 0, 1) := dk_42 (dk_at dksX1_word_0 18 rfl rfl)
theorem dX1_word_19 : decode cX1_word 19 = .ok (.iload_n 1, 1) := dk_27 (dk_at dksX1_word_0 19 rfl rfl)
theorem dX1_word_20 : decode cX1_word 20 = .ok (.iconst 2, 1) := dk_5 (dk_at dksX1_word_0 20 rfl rfl)
theorem dX1_word_21 : decode cX1_word 21 = .ok (.iadd, 1) := dk_96 (dk_at dksX1_word_0 21 rfl rfl)
theorem dX1_word_22 : decode cX1_word 22 = .ok (.iload_n 2, 1) := dk_28 (dk_at dksX1_word_0 22 rfl rfl)
theorem dX1_word_23 : decode cX1_word 23 = .ok (.bipush 8, 2) := dk_16 8 (dk_at dksX1_word_1 0 rfl rfl)
theorem dX1_word_25 : decode cX1_word 25 = .ok (.ishr, 1) := dk_122 (dk_at dksX1_word_1 2 rfl rfl)
theorem dX1_word_26 : decode cX1_word 26 = .ok (.i2b, 1) := dk_145 (dk_at dksX1_word_1 3 rfl rfl)
theorem dX1_word_27 : decode cX1_word 27 = .ok (.bastore, 1) := dk_84 (dk_at dksX1_word_1 4 rfl rfl)
theorem dX1_word_28 : decode cX1_word 28 = .ok (.aload_n 0, 1) := dk_42 (dk_at dksX1_word_1 5 rfl rfl)
theorem dX1_word_29 : decode cX1_word 29 = .ok (.iload_n 1, 1) := dk_27 (dk_at dksX1_word_1 6 rfl rfl)
theorem dX1_word_30 : decode cX1_word 30 = .ok (.iconst 3, 1) := dk_6 (dk_at dksX1_word_1 7 rfl rfl)
theorem dX1_word_31 : decode cX1_word 31 = .ok (.iadd, 1) := dk_96 (dk_at dksX1_word_1 8 rfl rfl)
theorem dX1_word_32 : decode cX1_word 32 = .ok (.iload_n 2, 1) := dk_28 (dk_at dksX1_word_1 9 rfl rfl)
theorem dX1_word_33 : decode cX1_word 33 = .ok (.i2b, 1) := dk_145 (dk_at dksX1_word_1 10 rfl rfl)
theorem dX1_word_34 : decode cX1_word 34 = .ok (.bastore, 1) := dk_84 (dk_at dksX1_word_1 11 rfl rfl)
theorem dX1_word_35 : decode cX1_word 35 = .ok (.return_, 1) := dk_177 (dk_at dksX1_word_1 12 rfl rfl)
abbrev cX1_block : ByteArray := prog_7_method_4_code
def yX1_block : MethodName := ⟨RX1, "block", "(II)V"⟩
def dkwX1_block_0 : List UInt8 := [42, 180, 0, 13, 3, 27, 184, 0, 19, 42, 180, 0, 13, 7, 28, 184, 0, 19, 177]
abbrev dktX1_block_0 : List UInt8 := dkwX1_block_0 ++ []
theorem dksX1_block_0 : cX1_block.data.toList.drop 0 = dktX1_block_0 := by decide +kernel
theorem dX1_block_0 : decode cX1_block 0 = .ok (.aload_n 0, 1) := dk_42 (dk_at dksX1_block_0 0 rfl rfl)
theorem dX1_block_1 : decode cX1_block 1 = .ok (.getfield 13, 3) := dk_180 0 13 (dk_at dksX1_block_0 1 rfl rfl)
theorem dX1_block_4 : decode cX1_block 4 = .ok (.iconst 0, 1) := dk_3 (dk_at dksX1_block_0 4 rfl rfl)
theorem dX1_block_5 : decode cX1_block 5 = .ok (.iload_n 1, 1) := dk_27 (dk_at dksX1_block_0 5 rfl rfl)
theorem dX1_block_6 : decode cX1_block 6 = .ok (.invokestatic 19, 3) := dk_184 0 19 (dk_at dksX1_block_0 6 rfl rfl)
theorem dX1_block_9 : decode cX1_block 9 = .ok (.aload_n 0, 1) := dk_42 (dk_at dksX1_block_0 9 rfl rfl)
theorem dX1_block_10 : decode cX1_block 10 = .ok (.getfield 13, 3) := dk_180 0 13 (dk_at dksX1_block_0 10 rfl rfl)
theorem dX1_block_13 : decode cX1_block 13 = .ok (.iconst 4, 1) := dk_7 (dk_at dksX1_block_0 13 rfl rfl)
theorem dX1_block_14 : decode cX1_block 14 = .ok (.iload_n 2, 1) := dk_28 (dk_at dksX1_block_0 14 rfl rfl)
theorem dX1_block_15 : decode cX1_block 15 = .ok (.invokestatic 19, 3) := dk_184 0 19 (dk_at dksX1_block_0 15 rfl rfl)
theorem dX1_block_18 : decode cX1_block 18 = .ok (.return_, 1) := dk_177 (dk_at dksX1_block_0 18 rfl rfl)
abbrev cX1_out : ByteArray := prog_7_method_10_code
def yX1_out : MethodName := ⟨RX1, "out", "(I)I"⟩
def dkwX1_out_0 : List UInt8 := [42, 180, 0, 16, 27, 16, 7, 126, 51, 17, 0, 255, 126, 172]
abbrev dktX1_out_0 : List UInt8 := dkwX1_out_0 ++ []
theorem dksX1_out_0 : cX1_out.data.toList.drop 0 = dktX1_out_0 := by decide +kernel
theorem dX1_out_0 : decode cX1_out 0 = .ok (.aload_n 0, 1) := dk_42 (dk_at dksX1_out_0 0 rfl rfl)
theorem dX1_out_1 : decode cX1_out 1 = .ok (.getfield 16, 3) := dk_180 0 16 (dk_at dksX1_out_0 1 rfl rfl)
theorem dX1_out_4 : decode cX1_out 4 = .ok (.iload_n 1, 1) := dk_27 (dk_at dksX1_out_0 4 rfl rfl)
theorem dX1_out_5 : decode cX1_out 5 = .ok (.bipush 7, 2) := dk_16 7 (dk_at dksX1_out_0 5 rfl rfl)
theorem dX1_out_7 : decode cX1_out 7 = .ok (.iand, 1) := dk_126 (dk_at dksX1_out_0 7 rfl rfl)
theorem dX1_out_8 : decode cX1_out 8 = .ok (.baload, 1) := dk_51 (dk_at dksX1_out_0 8 rfl rfl)
theorem dX1_out_9 : decode cX1_out 9 = .ok (.sipush 255, 3) := dk_17 0 255 (dk_at dksX1_out_0 9 rfl rfl)
theorem dX1_out_12 : decode cX1_out 12 = .ok (.iand, 1) := dk_126 (dk_at dksX1_out_0 12 rfl rfl)
theorem dX1_out_13 : decode cX1_out 13 = .ok (.ireturn, 1) := dk_172 (dk_at dksX1_out_0 13 rfl rfl)
theorem q5 : (Jvm.Cond.initialized "SkipjackDesk") ∈ lw_all := lw_g (lw_at lw_m1 1 rfl) rfl
theorem q18 : (Jvm.Cond.instanceMethod ({ cls := "SkipjackDesk", name := "lock", desc := "(I)V" } : Jvm.MethodName)) ∈ lw_all := lw_g (lw_at lw_m1 14 rfl) rfl
theorem q19 : (Jvm.Cond.selects "SkipjackDesk" ({ cls := "SkipjackDesk", name := "lock", desc := "(I)V" } : Jvm.MethodName) ({ cls := "SkipjackDesk", name := "lock", desc := "(I)V" } : Jvm.MethodName)) ∈ lw_all := lw_g (lw_at lw_m1 15 rfl) rfl
theorem q20 : (Jvm.Cond.code ({ cls := "SkipjackDesk", name := "lock", desc := "(I)V" } : Jvm.MethodName) prog_7_method_7_code (2 : Nat) (Option.none : Option Jvm.ClassFile.FieldType)) ∈ lw_all := lw_g (lw_at lw_m1 16 rfl) rfl
theorem q21 : (Jvm.Cond.methodLink "SkipjackDesk" (45 : Nat) ({ cls := "SkipjackDesk", name := "run", desc := "(ZI)V" } : Jvm.MethodName)) ∈ lw_all := lw_g (lw_at lw_m1 17 rfl) rfl
theorem q22 : (Jvm.Cond.privateMethod ({ cls := "SkipjackDesk", name := "run", desc := "(ZI)V" } : Jvm.MethodName)) ∈ lw_tbl := lw_at lw_m1 18 rfl
theorem q23 : (Jvm.Cond.instanceMethod ({ cls := "SkipjackDesk", name := "run", desc := "(ZI)V" } : Jvm.MethodName)) ∈ lw_all := lw_g (lw_at lw_m1 19 rfl) rfl
theorem q24 : (Jvm.Cond.instantiable "SkipjackDesk" (3 : Nat)) ∈ lw_all := lw_g (lw_at lw_m1 20 rfl) rfl
theorem q25 : (Jvm.Cond.code ({ cls := "SkipjackDesk", name := "run", desc := "(ZI)V" } : Jvm.MethodName) prog_7_method_5_code (6 : Nat) (Option.none : Option Jvm.ClassFile.FieldType)) ∈ lw_all := lw_g (lw_at lw_m1 21 rfl) rfl
theorem q26 : (Jvm.Cond.methodLink "SkipjackDesk" (23 : Nat) ({ cls := "SkipjackDesk", name := "size", desc := "(I)I" } : Jvm.MethodName)) ∈ lw_all := lw_g (lw_at lw_m1 22 rfl) rfl
theorem q27 : (Jvm.Cond.static ({ cls := "SkipjackDesk", name := "size", desc := "(I)I" } : Jvm.MethodName)) ∈ lw_all := lw_g (lw_at lw_m1 23 rfl) rfl
theorem q28 : (Jvm.Cond.code ({ cls := "SkipjackDesk", name := "size", desc := "(I)I" } : Jvm.MethodName) prog_7_method_6_code (1 : Nat) (Option.some Jvm.ClassFile.FieldType.int)) ∈ lw_all := lw_g (lw_at lw_m1 24 rfl) rfl
theorem q29 : (Jvm.Cond.classLink "SkipjackDesk" (27 : Nat) "SkipjackEngine") ∈ lw_all := lw_g (lw_at lw_m1 25 rfl) rfl
theorem q31 : (Jvm.Cond.methodLink "SkipjackDesk" (29 : Nat) ({ cls := "SkipjackEngine", name := "<init>", desc := "()V" } : Jvm.MethodName)) ∈ lw_all := lw_g (lw_at lw_m1 27 rfl) rfl
theorem q54 : (Jvm.Cond.classLink "SkipjackDesk" (30 : Nat) "KeyParameter") ∈ lw_all := lw_g (lw_at lw_m1 50 rfl) rfl
theorem q56 : (Jvm.Cond.methodLink "SkipjackDesk" (32 : Nat) ({ cls := "KeyParameter", name := "<init>", desc := "([B)V" } : Jvm.MethodName)) ∈ lw_all := lw_g (lw_at lw_m1 52 rfl) rfl
theorem q73 : (Jvm.Cond.interfaceEntry "SkipjackDesk" (35 : Nat)) ∈ lw_tbl := lw_at lw_m1 69 rfl
theorem q74 : (Jvm.Cond.methodLink "SkipjackDesk" (35 : Nat) ({ cls := "BlockCipher", name := "init", desc := "(ZLCipherParameters;)V" } : Jvm.MethodName)) ∈ lw_all := lw_g (lw_at lw_m1 70 rfl) rfl
theorem q156 : (Jvm.Cond.interfaceEntry "SkipjackDesk" (41 : Nat)) ∈ lw_tbl := lw_at lw_m1 152 rfl
theorem q157 : (Jvm.Cond.methodLink "SkipjackDesk" (41 : Nat) ({ cls := "BlockCipher", name := "processBlock", desc := "([BI[BI)I" } : Jvm.MethodName)) ∈ lw_all := lw_g (lw_at lw_m1 153 rfl) rfl
theorem q238 : (Jvm.Cond.instanceMethod ({ cls := "SkipjackDesk", name := "open", desc := "(I)V" } : Jvm.MethodName)) ∈ lw_all := lw_g (lw_at lw_m1 234 rfl) rfl
theorem q239 : (Jvm.Cond.selects "SkipjackDesk" ({ cls := "SkipjackDesk", name := "open", desc := "(I)V" } : Jvm.MethodName) ({ cls := "SkipjackDesk", name := "open", desc := "(I)V" } : Jvm.MethodName)) ∈ lw_all := lw_g (lw_at lw_m1 235 rfl) rfl
theorem q240 : (Jvm.Cond.code ({ cls := "SkipjackDesk", name := "open", desc := "(I)V" } : Jvm.MethodName) prog_7_method_8_code (2 : Nat) (Option.none : Option Jvm.ClassFile.FieldType)) ∈ lw_all := lw_g (lw_at lw_m1 236 rfl) rfl
theorem q242 : (Jvm.Cond.instanceMethod ({ cls := "SkipjackDesk", name := "again", desc := "()V" } : Jvm.MethodName)) ∈ lw_all := lw_g (lw_at lw_m1 238 rfl) rfl
theorem q243 : (Jvm.Cond.selects "SkipjackDesk" ({ cls := "SkipjackDesk", name := "again", desc := "()V" } : Jvm.MethodName) ({ cls := "SkipjackDesk", name := "again", desc := "()V" } : Jvm.MethodName)) ∈ lw_all := lw_g (lw_at lw_m1 239 rfl) rfl
theorem q244 : (Jvm.Cond.code ({ cls := "SkipjackDesk", name := "again", desc := "()V" } : Jvm.MethodName) prog_7_method_9_code (2 : Nat) (Option.none : Option Jvm.ClassFile.FieldType)) ∈ lw_all := lw_g (lw_at lw_m2 0 rfl) rfl
theorem q250 : (Jvm.Cond.instanceMethod ({ cls := "SkipjackDesk", name := "<init>", desc := "()V" } : Jvm.MethodName)) ∈ lw_all := lw_g (lw_at lw_m2 6 rfl) rfl
theorem q251 : (Jvm.Cond.code ({ cls := "SkipjackDesk", name := "<init>", desc := "()V" } : Jvm.MethodName) prog_7_method_1_code (1 : Nat) (Option.none : Option Jvm.ClassFile.FieldType)) ∈ lw_all := lw_g (lw_at lw_m2 7 rfl) rfl
theorem q252 : (Jvm.Cond.methodLink "SkipjackDesk" (1 : Nat) ({ cls := "java/lang/Object", name := "<init>", desc := "()V" } : Jvm.MethodName)) ∈ lw_all := lw_g (lw_at lw_m2 8 rfl) rfl
theorem q253 : (Jvm.Cond.fieldLink "SkipjackDesk" (7 : Nat) "SkipjackDesk" "key" "[B") ∈ lw_all := lw_g (lw_at lw_m2 9 rfl) rfl
theorem q254 : (Jvm.Cond.fieldLink "SkipjackDesk" (13 : Nat) "SkipjackDesk" "block" "[B") ∈ lw_all := lw_g (lw_at lw_m2 10 rfl) rfl
theorem q255 : (Jvm.Cond.fieldLink "SkipjackDesk" (16 : Nat) "SkipjackDesk" "out" "[B") ∈ lw_all := lw_g (lw_at lw_m2 11 rfl) rfl
theorem q256 : (Jvm.Cond.laysFinal "SkipjackDesk" "SkipjackDesk" "key" "[B") ∈ lw_all := lw_g (lw_at lw_m2 12 rfl) rfl
theorem q257 : (Jvm.Cond.soleField "SkipjackDesk" "key") ∈ lw_all := lw_g (lw_at lw_m2 13 rfl) rfl
theorem q258 : (Jvm.Cond.laysFinal "SkipjackDesk" "SkipjackDesk" "block" "[B") ∈ lw_all := lw_g (lw_at lw_m2 14 rfl) rfl
theorem q259 : (Jvm.Cond.soleField "SkipjackDesk" "block") ∈ lw_all := lw_g (lw_at lw_m2 15 rfl) rfl
theorem q260 : (Jvm.Cond.laysFinal "SkipjackDesk" "SkipjackDesk" "out" "[B") ∈ lw_all := lw_g (lw_at lw_m2 16 rfl) rfl
theorem q261 : (Jvm.Cond.soleField "SkipjackDesk" "out") ∈ lw_all := lw_g (lw_at lw_m2 17 rfl) rfl
theorem q262 : (Jvm.Cond.superclass "SkipjackDesk" "java/lang/Object") ∈ lw_all := lw_g (lw_at lw_m2 18 rfl) rfl
theorem q267 : (Jvm.Cond.instanceMethod ({ cls := "SkipjackDesk", name := "key", desc := "(IIIII)V" } : Jvm.MethodName)) ∈ lw_all := lw_g (lw_at lw_m2 23 rfl) rfl
theorem q268 : (Jvm.Cond.selects "SkipjackDesk" ({ cls := "SkipjackDesk", name := "key", desc := "(IIIII)V" } : Jvm.MethodName) ({ cls := "SkipjackDesk", name := "key", desc := "(IIIII)V" } : Jvm.MethodName)) ∈ lw_all := lw_g (lw_at lw_m2 24 rfl) rfl
theorem q269 : (Jvm.Cond.code ({ cls := "SkipjackDesk", name := "key", desc := "(IIIII)V" } : Jvm.MethodName) prog_7_method_3_code (7 : Nat) (Option.none : Option Jvm.ClassFile.FieldType)) ∈ lw_all := lw_g (lw_at lw_m2 25 rfl) rfl
theorem q270 : (Jvm.Cond.methodLink "SkipjackDesk" (19 : Nat) ({ cls := "SkipjackDesk", name := "word", desc := "([BII)V" } : Jvm.MethodName)) ∈ lw_all := lw_g (lw_at lw_m2 26 rfl) rfl
theorem q271 : (Jvm.Cond.static ({ cls := "SkipjackDesk", name := "word", desc := "([BII)V" } : Jvm.MethodName)) ∈ lw_all := lw_g (lw_at lw_m2 27 rfl) rfl
theorem q272 : (Jvm.Cond.code ({ cls := "SkipjackDesk", name := "word", desc := "([BII)V" } : Jvm.MethodName) prog_7_method_2_code (3 : Nat) (Option.none : Option Jvm.ClassFile.FieldType)) ∈ lw_all := lw_g (lw_at lw_m2 28 rfl) rfl
theorem q274 : (Jvm.Cond.instanceMethod ({ cls := "SkipjackDesk", name := "block", desc := "(II)V" } : Jvm.MethodName)) ∈ lw_all := lw_g (lw_at lw_m2 30 rfl) rfl
theorem q275 : (Jvm.Cond.selects "SkipjackDesk" ({ cls := "SkipjackDesk", name := "block", desc := "(II)V" } : Jvm.MethodName) ({ cls := "SkipjackDesk", name := "block", desc := "(II)V" } : Jvm.MethodName)) ∈ lw_all := lw_g (lw_at lw_m2 31 rfl) rfl
theorem q276 : (Jvm.Cond.code ({ cls := "SkipjackDesk", name := "block", desc := "(II)V" } : Jvm.MethodName) prog_7_method_4_code (3 : Nat) (Option.none : Option Jvm.ClassFile.FieldType)) ∈ lw_all := lw_g (lw_at lw_m2 32 rfl) rfl
theorem q281 : (Jvm.Cond.instanceMethod ({ cls := "SkipjackDesk", name := "out", desc := "(I)I" } : Jvm.MethodName)) ∈ lw_all := lw_g (lw_at lw_m2 37 rfl) rfl
theorem q282 : (Jvm.Cond.selects "SkipjackDesk" ({ cls := "SkipjackDesk", name := "out", desc := "(I)I" } : Jvm.MethodName) ({ cls := "SkipjackDesk", name := "out", desc := "(I)I" } : Jvm.MethodName)) ∈ lw_all := lw_g (lw_at lw_m2 38 rfl) rfl
theorem q283 : (Jvm.Cond.code ({ cls := "SkipjackDesk", name := "out", desc := "(I)I" } : Jvm.MethodName) prog_7_method_10_code (2 : Nat) (Option.some Jvm.ClassFile.FieldType.int)) ∈ lw_all := lw_g (lw_at lw_m2 39 rfl) rfl
theorem in_X1 : ∀ w ∈ wsX10, w ∈ lw_all := lw_in wsX10 [256, 258, 260] (by decide +kernel) (by decide +kernel)
/-! KeyParameter -/
set_option maxRecDepth 100000
def RX3 : String := "KeyParameter"
def TX3 : u_T := fun k => match k with
  | _ => ("KeyParameter", "key", "[B", false)
def tyX3 : Nat → FieldType := fun k => match k with
  | _ => .array .byte
abbrev wsX30 : List Cond := u_ws RX3 TX3 1
theorem nmX3 : ∀ a, a < 1 → ∀ b, b < 1 → a ≠ b → (TX3 a).2.1 ≠ (TX3 b).2.1 := by decide +kernel
theorem tyX3_ok : ∀ k, k < 1 → parseFieldDescriptor (TX3 k).2.2.1 = some (tyX3 k) := by decide +kernel
abbrev cX3_init : ByteArray := prog_4_method_1_code
def yX3_init : MethodName := ⟨RX3, "<init>", "([B)V"⟩
def dkwX3_init_0 : List UInt8 := [42, 43, 3, 43, 190, 183, 0, 1, 177]
abbrev dktX3_init_0 : List UInt8 := dkwX3_init_0 ++ []
theorem dksX3_init_0 : cX3_init.data.toList.drop 0 = dktX3_init_0 := by decide +kernel
theorem dX3_init_0 : decode cX3_init 0 = .ok (.aload_n 0, 1) := dk_42 (dk_at dksX3_init_0 0 rfl rfl)
theorem dX3_init_1 : decode cX3_init 1 = .ok (.aload_n 1, 1) := dk_43 (dk_at dksX3_init_0 1 rfl rfl)
theorem dX3_init_2 : decode cX3_init 2 = .ok (.iconst 0, 1) := dk_3 (dk_at dksX3_init_0 2 rfl rfl)
theorem dX3_init_3 : decode cX3_init 3 = .ok (.aload_n 1, 1) := dk_43 (dk_at dksX3_init_0 3 rfl rfl)
theorem dX3_init_4 : decode cX3_init 4 = .ok (.arraylength, 1) := dk_190 (dk_at dksX3_init_0 4 rfl rfl)
theorem dX3_init_5 : decode cX3_init 5 = .ok (.invokespecial 1, 3) := dk_183 0 1 (dk_at dksX3_init_0 5 rfl rfl)
theorem dX3_init_8 : decode cX3_init 8 = .ok (.return_, 1) := dk_177 (dk_at dksX3_init_0 8 rfl rfl)
abbrev cX3_init_2 : ByteArray := prog_4_method_2_code
def yX3_init_2 : MethodName := ⟨RX3, "<init>", "([BII)V"⟩
def dkwX3_init_2_0 : List UInt8 := [42, 29, 183, 0, 7, 43, 28, 42, 180, 0, 10, 3, 29, 184, 0, 14, 177]
abbrev dktX3_init_2_0 : List UInt8 := dkwX3_init_2_0 ++ []
theorem dksX3_init_2_0 : cX3_init_2.data.toList.drop 0 = dktX3_init_2_0 := by decide +kernel
theorem dX3_init_2_0 : decode cX3_init_2 0 = .ok (.aload_n 0, 1) := dk_42 (dk_at dksX3_init_2_0 0 rfl rfl)
theorem dX3_init_2_1 : decode cX3_init_2 1 = .ok (.iload_n 3, 1) := dk_29 (dk_at dksX3_init_2_0 1 rfl rfl)
theorem dX3_init_2_2 : decode cX3_init_2 2 = .ok (.invokespecial 7, 3) := dk_183 0 7 (dk_at dksX3_init_2_0 2 rfl rfl)
theorem dX3_init_2_5 : decode cX3_init_2 5 = .ok (.aload_n 1, 1) := dk_43 (dk_at dksX3_init_2_0 5 rfl rfl)
theorem dX3_init_2_6 : decode cX3_init_2 6 = .ok (.iload_n 2, 1) := dk_28 (dk_at dksX3_init_2_0 6 rfl rfl)
theorem dX3_init_2_7 : decode cX3_init_2 7 = .ok (.aload_n 0, 1) := dk_42 (dk_at dksX3_init_2_0 7 rfl rfl)
theorem dX3_init_2_8 : decode cX3_init_2 8 = .ok (.getfield 10, 3) := dk_180 0 10 (dk_at dksX3_init_2_0 8 rfl rfl)
theorem dX3_init_2_11 : decode cX3_init_2 11 = .ok (.iconst 0, 1) := dk_3 (dk_at dksX3_init_2_0 11 rfl rfl)
theorem dX3_init_2_12 : decode cX3_init_2 12 = .ok (.iload_n 3, 1) := dk_29 (dk_at dksX3_init_2_0 12 rfl rfl)
theorem dX3_init_2_13 : decode cX3_init_2 13 = .ok (.invokestatic 14, 3) := dk_184 0 14 (dk_at dksX3_init_2_0 13 rfl rfl)
theorem dX3_init_2_16 : decode cX3_init_2 16 = .ok (.return_, 1) := dk_177 (dk_at dksX3_init_2_0 16 rfl rfl)
abbrev cX3_init_3 : ByteArray := prog_4_method_3_code
def yX3_init_3 : MethodName := ⟨RX3, "<init>", "(I)V"⟩
def dkwX3_init_3_0 : List UInt8 := [42, 183, 0, 20, 42, 27, 188, 8, 181, 0, 10, 177]
abbrev dktX3_init_3_0 : List UInt8 := dkwX3_init_3_0 ++ []
theorem dksX3_init_3_0 : cX3_init_3.data.toList.drop 0 = dktX3_init_3_0 := by decide +kernel
theorem dX3_init_3_0 : decode cX3_init_3 0 = .ok (.aload_n 0, 1) := dk_42 (dk_at dksX3_init_3_0 0 rfl rfl)
theorem dX3_init_3_1 : decode cX3_init_3 1 = .ok (.invokespecial 20, 3) := dk_183 0 20 (dk_at dksX3_init_3_0 1 rfl rfl)
theorem dX3_init_3_4 : decode cX3_init_3 4 = .ok (.aload_n 0, 1) := dk_42 (dk_at dksX3_init_3_0 4 rfl rfl)
theorem dX3_init_3_5 : decode cX3_init_3 5 = .ok (.iload_n 1, 1) := dk_27 (dk_at dksX3_init_3_0 5 rfl rfl)
theorem dX3_init_3_6 : decode cX3_init_3 6 = .ok (.newarray .byte, 2) := dk_188_8 (dk_at dksX3_init_3_0 6 rfl rfl)
theorem dX3_init_3_8 : decode cX3_init_3 8 = .ok (.putfield 10, 3) := dk_181 0 10 (dk_at dksX3_init_3_0 8 rfl rfl)
theorem dX3_init_3_11 : decode cX3_init_3 11 = .ok (.return_, 1) := dk_177 (dk_at dksX3_init_3_0 11 rfl rfl)
abbrev cX3_getKey : ByteArray := prog_4_method_4_code
def yX3_getKey : MethodName := ⟨RX3, "getKey", "()[B"⟩
theorem dX3_getKey_0 : decode cX3_getKey 0 = .ok (.aload_n 0, 1) := by decide +kernel
theorem dX3_getKey_1 : decode cX3_getKey 1 = .ok (.getfield 10, 3) := by decide +kernel
theorem dX3_getKey_4 : decode cX3_getKey 4 = .ok (.areturn, 1) := by decide +kernel
theorem q7 : (Jvm.Cond.initialized "KeyParameter") ∈ lw_all := lw_g (lw_at lw_m1 3 rfl) rfl
theorem q55 : (Jvm.Cond.instantiable "KeyParameter" (1 : Nat)) ∈ lw_all := lw_g (lw_at lw_m1 51 rfl) rfl
theorem q57 : (Jvm.Cond.instanceMethod ({ cls := "KeyParameter", name := "<init>", desc := "([B)V" } : Jvm.MethodName)) ∈ lw_all := lw_g (lw_at lw_m1 53 rfl) rfl
theorem q58 : (Jvm.Cond.code ({ cls := "KeyParameter", name := "<init>", desc := "([B)V" } : Jvm.MethodName) prog_4_method_1_code (2 : Nat) (Option.none : Option Jvm.ClassFile.FieldType)) ∈ lw_all := lw_g (lw_at lw_m1 54 rfl) rfl
theorem q59 : (Jvm.Cond.methodLink "KeyParameter" (1 : Nat) ({ cls := "KeyParameter", name := "<init>", desc := "([BII)V" } : Jvm.MethodName)) ∈ lw_all := lw_g (lw_at lw_m1 55 rfl) rfl
theorem q60 : (Jvm.Cond.instanceMethod ({ cls := "KeyParameter", name := "<init>", desc := "([BII)V" } : Jvm.MethodName)) ∈ lw_all := lw_g (lw_at lw_m1 56 rfl) rfl
theorem q61 : (Jvm.Cond.code ({ cls := "KeyParameter", name := "<init>", desc := "([BII)V" } : Jvm.MethodName) prog_4_method_2_code (4 : Nat) (Option.none : Option Jvm.ClassFile.FieldType)) ∈ lw_all := lw_g (lw_at lw_m1 57 rfl) rfl
theorem q62 : (Jvm.Cond.methodLink "KeyParameter" (7 : Nat) ({ cls := "KeyParameter", name := "<init>", desc := "(I)V" } : Jvm.MethodName)) ∈ lw_all := lw_g (lw_at lw_m1 58 rfl) rfl
theorem q63 : (Jvm.Cond.instanceMethod ({ cls := "KeyParameter", name := "<init>", desc := "(I)V" } : Jvm.MethodName)) ∈ lw_all := lw_g (lw_at lw_m1 59 rfl) rfl
theorem q64 : (Jvm.Cond.code ({ cls := "KeyParameter", name := "<init>", desc := "(I)V" } : Jvm.MethodName) prog_4_method_3_code (2 : Nat) (Option.none : Option Jvm.ClassFile.FieldType)) ∈ lw_all := lw_g (lw_at lw_m1 60 rfl) rfl
theorem q65 : (Jvm.Cond.methodLink "KeyParameter" (20 : Nat) ({ cls := "java/lang/Object", name := "<init>", desc := "()V" } : Jvm.MethodName)) ∈ lw_all := lw_g (lw_at lw_m1 61 rfl) rfl
theorem q66 : (Jvm.Cond.fieldLink "KeyParameter" (10 : Nat) "KeyParameter" "key" "[B") ∈ lw_all := lw_g (lw_at lw_m1 62 rfl) rfl
theorem q67 : (Jvm.Cond.lays "KeyParameter" "KeyParameter" "key" "[B") ∈ lw_all := lw_g (lw_at lw_m1 63 rfl) rfl
theorem q68 : (Jvm.Cond.soleField "KeyParameter" "key") ∈ lw_all := lw_g (lw_at lw_m1 64 rfl) rfl
theorem q69 : (Jvm.Cond.superclass "KeyParameter" "java/lang/Object") ∈ lw_all := lw_g (lw_at lw_m1 65 rfl) rfl
theorem q70 : (Jvm.Cond.methodLink "KeyParameter" (14 : Nat) ({ cls := "java/lang/System", name := "arraycopy", desc := "(Ljava/lang/Object;ILjava/lang/Object;II)V" } : Jvm.MethodName)) ∈ lw_all := lw_g (lw_at lw_m1 66 rfl) rfl
theorem q153 : (Jvm.Cond.instanceMethod ({ cls := "KeyParameter", name := "getKey", desc := "()[B" } : Jvm.MethodName)) ∈ lw_all := lw_g (lw_at lw_m1 149 rfl) rfl
theorem q154 : (Jvm.Cond.selects "KeyParameter" ({ cls := "KeyParameter", name := "getKey", desc := "()[B" } : Jvm.MethodName) ({ cls := "KeyParameter", name := "getKey", desc := "()[B" } : Jvm.MethodName)) ∈ lw_all := lw_g (lw_at lw_m1 150 rfl) rfl
theorem q155 : (Jvm.Cond.code ({ cls := "KeyParameter", name := "getKey", desc := "()[B" } : Jvm.MethodName) prog_4_method_4_code (1 : Nat) (Option.some (Jvm.ClassFile.FieldType.array Jvm.ClassFile.FieldType.byte))) ∈ lw_all := lw_g (lw_at lw_m1 151 rfl) rfl
theorem in_X3 : ∀ w ∈ wsX30, w ∈ lw_all := lw_in wsX30 [67] (by decide +kernel) (by decide +kernel)
/-! the law's own entry -/
set_option maxRecDepth 100000
abbrev cL_law : ByteArray := code
def dkwL_law_4 : List UInt8 := [25, 7, 42, 184, 0, 51, 154, 0, 5, 3, 172, 132, 4, 1, 167, 255, 171, 4, 172]
abbrev dktL_law_4 : List UInt8 := dkwL_law_4 ++ []
def dkwL_law_3 : List UInt8 := [182, 0, 45, 25, 7, 182, 0, 48, 25, 7, 21, 5, 182, 0, 33, 25, 6, 42, 184, 0, 51, 153, 0, 12]
abbrev dktL_law_3 : List UInt8 := dkwL_law_3 ++ dktL_law_4
def dkwL_law_2 : List UInt8 := [25, 6, 21, 5, 182, 0, 33, 25, 7, 21, 5, 182, 0, 45, 25, 6, 182, 0, 48, 25, 6, 21, 5]
abbrev dktL_law_2 : List UInt8 := dkwL_law_2 ++ dktL_law_3
def dkwL_law_1 : List UInt8 := [21, 4, 29, 162, 0, 85, 44, 21, 4, 46, 54, 5, 42, 184, 0, 41, 58, 6, 42, 184, 0, 41, 58, 7]
abbrev dktL_law_1 : List UInt8 := dkwL_law_1 ++ dktL_law_2
def dkwL_law_0 : List UInt8 := [184, 0, 37, 154, 0, 5, 3, 172, 4, 188, 10, 89, 3, 3, 79, 76, 43, 77, 44, 190, 62, 3, 54, 4]
abbrev dktL_law_0 : List UInt8 := dkwL_law_0 ++ dktL_law_1
theorem dksL_law_0 : cL_law.data.toList.drop 0 = dktL_law_0 := by decide +kernel
theorem dksL_law_1 : cL_law.data.toList.drop 24 = dktL_law_1 := dk_seg dksL_law_0 24 rfl rfl
theorem dksL_law_2 : cL_law.data.toList.drop 48 = dktL_law_2 := dk_seg dksL_law_1 24 rfl rfl
theorem dksL_law_3 : cL_law.data.toList.drop 71 = dktL_law_3 := dk_seg dksL_law_2 23 rfl rfl
theorem dksL_law_4 : cL_law.data.toList.drop 95 = dktL_law_4 := dk_seg dksL_law_3 24 rfl rfl
theorem dL_law_0 : decode cL_law 0 = .ok (.invokestatic 37, 3) := dk_184 0 37 (dk_at dksL_law_0 0 rfl rfl)
theorem dL_law_3 : decode cL_law 3 = .ok (.ifCond .ne 5, 3) := dk_154 0 5 (dk_at dksL_law_0 3 rfl rfl)
theorem dL_law_6 : decode cL_law 6 = .ok (.iconst 0, 1) := dk_3 (dk_at dksL_law_0 6 rfl rfl)
theorem dL_law_7 : decode cL_law 7 = .ok (.ireturn, 1) := dk_172 (dk_at dksL_law_0 7 rfl rfl)
theorem dL_law_8 : decode cL_law 8 = .ok (.iconst 1, 1) := dk_4 (dk_at dksL_law_0 8 rfl rfl)
theorem dL_law_9 : decode cL_law 9 = .ok (.newarray .int, 2) := dk_188_10 (dk_at dksL_law_0 9 rfl rfl)
theorem dL_law_11 : decode cL_law 11 = .ok (.dup, 1) := dk_89 (dk_at dksL_law_0 11 rfl rfl)
theorem dL_law_12 : decode cL_law 12 = .ok (.iconst 0, 1) := dk_3 (dk_at dksL_law_0 12 rfl rfl)
theorem dL_law_13 : decode cL_law 13 = .ok (.iconst 0, 1) := dk_3 (dk_at dksL_law_0 13 rfl rfl)
theorem dL_law_14 : decode cL_law 14 = .ok (.iastore, 1) := dk_79 (dk_at dksL_law_0 14 rfl rfl)
theorem dL_law_15 : decode cL_law 15 = .ok (.astore_n 1, 1) := dk_76 (dk_at dksL_law_0 15 rfl rfl)
theorem dL_law_16 : decode cL_law 16 = .ok (.aload_n 1, 1) := dk_43 (dk_at dksL_law_0 16 rfl rfl)
theorem dL_law_17 : decode cL_law 17 = .ok (.astore_n 2, 1) := dk_77 (dk_at dksL_law_0 17 rfl rfl)
theorem dL_law_18 : decode cL_law 18 = .ok (.aload_n 2, 1) := dk_44 (dk_at dksL_law_0 18 rfl rfl)
theorem dL_law_19 : decode cL_law 19 = .ok (.arraylength, 1) := dk_190 (dk_at dksL_law_0 19 rfl rfl)
theorem dL_law_20 : decode cL_law 20 = .ok (.istore_n 3, 1) := dk_62 (dk_at dksL_law_0 20 rfl rfl)
theorem dL_law_21 : decode cL_law 21 = .ok (.iconst 0, 1) := dk_3 (dk_at dksL_law_0 21 rfl rfl)
theorem dL_law_22 : decode cL_law 22 = .ok (.istore 4, 2) := dk_54 4 (dk_at dksL_law_0 22 rfl rfl)
theorem dL_law_24 : decode cL_law 24 = .ok (.iload 4, 2) := dk_21 4 (dk_at dksL_law_1 0 rfl rfl)
theorem dL_law_26 : decode cL_law 26 = .ok (.iload_n 3, 1) := dk_29 (dk_at dksL_law_1 2 rfl rfl)
theorem dL_law_27 : decode cL_law 27 = .ok (.if_icmp .ge 85, 3) := dk_162 0 85 (dk_at dksL_law_1 3 rfl rfl)
theorem dL_law_30 : decode cL_law 30 = .ok (.aload_n 2, 1) := dk_44 (dk_at dksL_law_1 6 rfl rfl)
theorem dL_law_31 : decode cL_law 31 = .ok (.iload 4, 2) := dk_21 4 (dk_at dksL_law_1 7 rfl rfl)
theorem dL_law_33 : decode cL_law 33 = .ok (.iaload, 1) := dk_46 (dk_at dksL_law_1 9 rfl rfl)
theorem dL_law_34 : decode cL_law 34 = .ok (.istore 5, 2) := dk_54 5 (dk_at dksL_law_1 10 rfl rfl)
theorem dL_law_36 : decode cL_law 36 = .ok (.aload_n 0, 1) := dk_42 (dk_at dksL_law_1 12 rfl rfl)
theorem dL_law_37 : decode cL_law 37 = .ok (.invokestatic 41, 3) := dk_184 0 41 (dk_at dksL_law_1 13 rfl rfl)
theorem dL_law_40 : decode cL_law 40 = .ok (.astore 6, 2) := dk_58 6 (dk_at dksL_law_1 16 rfl rfl)
theorem dL_law_42 : decode cL_law 42 = .ok (.aload_n 0, 1) := dk_42 (dk_at dksL_law_1 18 rfl rfl)
theorem dL_law_43 : decode cL_law 43 = .ok (.invokestatic 41, 3) := dk_184 0 41 (dk_at dksL_law_1 19 rfl rfl)
theorem dL_law_46 : decode cL_law 46 = .ok (.astore 7, 2) := dk_58 7 (dk_at dksL_law_1 22 rfl rfl)
theorem dL_law_48 : decode cL_law 48 = .ok (.aload 6, 2) := dk_25 6 (dk_at dksL_law_2 0 rfl rfl)
theorem dL_law_50 : decode cL_law 50 = .ok (.iload 5, 2) := dk_21 5 (dk_at dksL_law_2 2 rfl rfl)
theorem dL_law_52 : decode cL_law 52 = .ok (.invokevirtual 33, 3) := dk_182 0 33 (dk_at dksL_law_2 4 rfl rfl)
theorem dL_law_55 : decode cL_law 55 = .ok (.aload 7, 2) := dk_25 7 (dk_at dksL_law_2 7 rfl rfl)
theorem dL_law_57 : decode cL_law 57 = .ok (.iload 5, 2) := dk_21 5 (dk_at dksL_law_2 9 rfl rfl)
theorem dL_law_59 : decode cL_law 59 = .ok (.invokevirtual 45, 3) := dk_182 0 45 (dk_at dksL_law_2 11 rfl rfl)
theorem dL_law_62 : decode cL_law 62 = .ok (.aload 6, 2) := dk_25 6 (dk_at dksL_law_2 14 rfl rfl)
theorem dL_law_64 : decode cL_law 64 = .ok (.invokevirtual 48, 3) := dk_182 0 48 (dk_at dksL_law_2 16 rfl rfl)
theorem dL_law_67 : decode cL_law 67 = .ok (.aload 6, 2) := dk_25 6 (dk_at dksL_law_2 19 rfl rfl)
theorem dL_law_69 : decode cL_law 69 = .ok (.iload 5, 2) := dk_21 5 (dk_at dksL_law_2 21 rfl rfl)
theorem dL_law_71 : decode cL_law 71 = .ok (.invokevirtual 45, 3) := dk_182 0 45 (dk_at dksL_law_3 0 rfl rfl)
theorem dL_law_74 : decode cL_law 74 = .ok (.aload 7, 2) := dk_25 7 (dk_at dksL_law_3 3 rfl rfl)
theorem dL_law_76 : decode cL_law 76 = .ok (.invokevirtual 48, 3) := dk_182 0 48 (dk_at dksL_law_3 5 rfl rfl)
theorem dL_law_79 : decode cL_law 79 = .ok (.aload 7, 2) := dk_25 7 (dk_at dksL_law_3 8 rfl rfl)
theorem dL_law_81 : decode cL_law 81 = .ok (.iload 5, 2) := dk_21 5 (dk_at dksL_law_3 10 rfl rfl)
theorem dL_law_83 : decode cL_law 83 = .ok (.invokevirtual 33, 3) := dk_182 0 33 (dk_at dksL_law_3 12 rfl rfl)
theorem dL_law_86 : decode cL_law 86 = .ok (.aload 6, 2) := dk_25 6 (dk_at dksL_law_3 15 rfl rfl)
theorem dL_law_88 : decode cL_law 88 = .ok (.aload_n 0, 1) := dk_42 (dk_at dksL_law_3 17 rfl rfl)
theorem dL_law_89 : decode cL_law 89 = .ok (.invokestatic 51, 3) := dk_184 0 51 (dk_at dksL_law_3 18 rfl rfl)
theorem dL_law_92 : decode cL_law 92 = .ok (.ifCond .eq 12, 3) := dk_153 0 12 (dk_at dksL_law_3 21 rfl rfl)
theorem dL_law_95 : decode cL_law 95 = .ok (.aload 7, 2) := dk_25 7 (dk_at dksL_law_4 0 rfl rfl)
theorem dL_law_97 : decode cL_law 97 = .ok (.aload_n 0, 1) := dk_42 (dk_at dksL_law_4 2 rfl rfl)
theorem dL_law_98 : decode cL_law 98 = .ok (.invokestatic 51, 3) := dk_184 0 51 (dk_at dksL_law_4 3 rfl rfl)
theorem dL_law_101 : decode cL_law 101 = .ok (.ifCond .ne 5, 3) := dk_154 0 5 (dk_at dksL_law_4 6 rfl rfl)
theorem dL_law_104 : decode cL_law 104 = .ok (.iconst 0, 1) := dk_3 (dk_at dksL_law_4 9 rfl rfl)
theorem dL_law_105 : decode cL_law 105 = .ok (.ireturn, 1) := dk_172 (dk_at dksL_law_4 10 rfl rfl)
theorem dL_law_106 : decode cL_law 106 = .ok (.iinc 4 1, 3) := dk_132 4 1 (dk_at dksL_law_4 11 rfl rfl)
theorem dL_law_109 : decode cL_law 109 = .ok (.goto (-85), 3) := dk_167 255 171 (dk_at dksL_law_4 14 rfl rfl)
theorem dL_law_112 : decode cL_law 112 = .ok (.iconst 1, 1) := dk_4 (dk_at dksL_law_4 17 rfl rfl)
theorem dL_law_113 : decode cL_law 113 = .ok (.ireturn, 1) := dk_172 (dk_at dksL_law_4 18 rfl rfl)
end
section
/-! SkipjackEngine -/
set_option maxRecDepth 100000
def RX2 : String := "SkipjackEngine"
def TX2 : u_T := fun k => match k with
  | 0 => ("SkipjackEngine", "key0", "[I", false)
  | 1 => ("SkipjackEngine", "key1", "[I", false)
  | 2 => ("SkipjackEngine", "key2", "[I", false)
  | 3 => ("SkipjackEngine", "key3", "[I", false)
  | _ => ("SkipjackEngine", "encrypting", "Z", false)
def tyX2 : Nat → FieldType := fun k => match k with
  | 0 => .array .int
  | 1 => .array .int
  | 2 => .array .int
  | 3 => .array .int
  | _ => .boolean
abbrev wsX20 : List Cond := u_ws RX2 TX2 5
theorem nmX2 : ∀ a, a < 5 → ∀ b, b < 5 → a ≠ b → (TX2 a).2.1 ≠ (TX2 b).2.1 := by decide +kernel
theorem tyX2_ok : ∀ k, k < 5 → parseFieldDescriptor (TX2 k).2.2.1 = some (tyX2 k) := by decide +kernel
abbrev cX2_init : ByteArray := prog_9_method_1_code
def yX2_init : MethodName := ⟨RX2, "<init>", "()V"⟩
theorem dX2_init_0 : decode cX2_init 0 = .ok (.aload_n 0, 1) := by decide +kernel
theorem dX2_init_1 : decode cX2_init 1 = .ok (.invokespecial 1, 3) := by decide +kernel
theorem dX2_init_4 : decode cX2_init 4 = .ok (.return_, 1) := by decide +kernel
abbrev cX2_init_2 : ByteArray := prog_9_method_2_code
def yX2_init_2 : MethodName := ⟨RX2, "init", "(ZLCipherParameters;)V"⟩
def dkwX2_init_2_7 : List UInt8 := [167, 255, 160, 177]
abbrev dktX2_init_2_7 : List UInt8 := dkwX2_init_2_7 ++ []
def dkwX2_init_2_6 : List UInt8 := [180, 0, 36, 21, 4, 45, 21, 4, 7, 104, 6, 96, 16, 10, 112, 51, 17, 0, 255, 126, 79, 132, 4, 1]
abbrev dktX2_init_2_6 : List UInt8 := dkwX2_init_2_6 ++ dktX2_init_2_7
def dkwX2_init_2_5 : List UInt8 := [180, 0, 33, 21, 4, 45, 21, 4, 7, 104, 5, 96, 16, 10, 112, 51, 17, 0, 255, 126, 79, 42]
abbrev dktX2_init_2_5 : List UInt8 := dkwX2_init_2_5 ++ dktX2_init_2_6
def dkwX2_init_2_4 : List UInt8 := [180, 0, 30, 21, 4, 45, 21, 4, 7, 104, 4, 96, 16, 10, 112, 51, 17, 0, 255, 126, 79, 42]
abbrev dktX2_init_2_4 : List UInt8 := dkwX2_init_2_4 ++ dktX2_init_2_5
def dkwX2_init_2_3 : List UInt8 := [162, 0, 95, 42, 180, 0, 26, 21, 4, 45, 21, 4, 7, 104, 16, 10, 112, 51, 17, 0, 255, 126, 79, 42]
abbrev dktX2_init_2_3 : List UInt8 := dkwX2_init_2_3 ++ dktX2_init_2_4
def dkwX2_init_2_2 : List UInt8 := [16, 32, 188, 10, 181, 0, 33, 42, 16, 32, 188, 10, 181, 0, 36, 3, 54, 4, 21, 4, 16, 32]
abbrev dktX2_init_2_2 : List UInt8 := dkwX2_init_2_2 ++ dktX2_init_2_3
def dkwX2_init_2_1 : List UInt8 := [78, 42, 27, 181, 0, 20, 42, 16, 32, 188, 10, 181, 0, 26, 42, 16, 32, 188, 10, 181, 0, 30, 42]
abbrev dktX2_init_2_1 : List UInt8 := dkwX2_init_2_1 ++ dktX2_init_2_2
def dkwX2_init_2_0 : List UInt8 := [44, 193, 0, 7, 154, 0, 13, 187, 0, 9, 89, 18, 11, 183, 0, 13, 191, 44, 192, 0, 7, 182, 0, 16]
abbrev dktX2_init_2_0 : List UInt8 := dkwX2_init_2_0 ++ dktX2_init_2_1
theorem dksX2_init_2_0 : cX2_init_2.data.toList.drop 0 = dktX2_init_2_0 := by decide +kernel
theorem dksX2_init_2_1 : cX2_init_2.data.toList.drop 24 = dktX2_init_2_1 := dk_seg dksX2_init_2_0 24 rfl rfl
theorem dksX2_init_2_2 : cX2_init_2.data.toList.drop 47 = dktX2_init_2_2 := dk_seg dksX2_init_2_1 23 rfl rfl
theorem dksX2_init_2_3 : cX2_init_2.data.toList.drop 69 = dktX2_init_2_3 := dk_seg dksX2_init_2_2 22 rfl rfl
theorem dksX2_init_2_4 : cX2_init_2.data.toList.drop 93 = dktX2_init_2_4 := dk_seg dksX2_init_2_3 24 rfl rfl
theorem dksX2_init_2_5 : cX2_init_2.data.toList.drop 115 = dktX2_init_2_5 := dk_seg dksX2_init_2_4 22 rfl rfl
theorem dksX2_init_2_6 : cX2_init_2.data.toList.drop 137 = dktX2_init_2_6 := dk_seg dksX2_init_2_5 22 rfl rfl
theorem dksX2_init_2_7 : cX2_init_2.data.toList.drop 161 = dktX2_init_2_7 := dk_seg dksX2_init_2_6 24 rfl rfl
theorem dX2_init_2_0 : decode cX2_init_2 0 = .ok (.aload_n 2, 1) := dk_44 (dk_at dksX2_init_2_0 0 rfl rfl)
theorem dX2_init_2_1 : decode cX2_init_2 1 = .ok (.instanceof 7, 3) := dk_193 0 7 (dk_at dksX2_init_2_0 1 rfl rfl)
theorem dX2_init_2_4 : decode cX2_init_2 4 = .ok (.ifCond .ne 13, 3) := dk_154 0 13 (dk_at dksX2_init_2_0 4 rfl rfl)
theorem dX2_init_2_7 : decode cX2_init_2 7 = .ok (.new 9, 3) := dk_187 0 9 (dk_at dksX2_init_2_0 7 rfl rfl)
theorem dX2_init_2_10 : decode cX2_init_2 10 = .ok (.dup, 1) := dk_89 (dk_at dksX2_init_2_0 10 rfl rfl)
theorem dX2_init_2_11 : decode cX2_init_2 11 = .ok (.ldc 11, 2) := dk_18 11 (dk_at dksX2_init_2_0 11 rfl rfl)
theorem dX2_init_2_13 : decode cX2_init_2 13 = .ok (.invokespecial 13, 3) := dk_183 0 13 (dk_at dksX2_init_2_0 13 rfl rfl)
theorem dX2_init_2_16 : decode cX2_init_2 16 = .ok (.athrow, 1) := dk_191 (dk_at dksX2_init_2_0 16 rfl rfl)
theorem dX2_init_2_17 : decode cX2_init_2 17 = .ok (.aload_n 2, 1) := dk_44 (dk_at dksX2_init_2_0 17 rfl rfl)
theorem dX2_init_2_18 : decode cX2_init_2 18 = .ok (.checkcast 7, 3) := dk_192 0 7 (dk_at dksX2_init_2_0 18 rfl rfl)
theorem dX2_init_2_21 : decode cX2_init_2 21 = .ok (.invokevirtual 16, 3) := dk_182 0 16 (dk_at dksX2_init_2_0 21 rfl rfl)
theorem dX2_init_2_24 : decode cX2_init_2 24 = .ok (.astore_n 3, 1) := dk_78 (dk_at dksX2_init_2_1 0 rfl rfl)
theorem dX2_init_2_25 : decode cX2_init_2 25 = .ok (.aload_n 0, 1) := dk_42 (dk_at dksX2_init_2_1 1 rfl rfl)
theorem dX2_init_2_26 : decode cX2_init_2 26 = .ok (.iload_n 1, 1) := dk_27 (dk_at dksX2_init_2_1 2 rfl rfl)
theorem dX2_init_2_27 : decode cX2_init_2 27 = .ok (.putfield 20, 3) := dk_181 0 20 (dk_at dksX2_init_2_1 3 rfl rfl)
theorem dX2_init_2_30 : decode cX2_init_2 30 = .ok (.aload_n 0, 1) := dk_42 (dk_at dksX2_init_2_1 6 rfl rfl)
theorem dX2_init_2_31 : decode cX2_init_2 31 = .ok (.bipush 32, 2) := dk_16 32 (dk_at dksX2_init_2_1 7 rfl rfl)
theorem dX2_init_2_33 : decode cX2_init_2 33 = .ok (.newarray .int, 2) := dk_188_10 (dk_at dksX2_init_2_1 9 rfl rfl)
theorem dX2_init_2_35 : decode cX2_init_2 35 = .ok (.putfield 26, 3) := dk_181 0 26 (dk_at dksX2_init_2_1 11 rfl rfl)
theorem dX2_init_2_38 : decode cX2_init_2 38 = .ok (.aload_n 0, 1) := dk_42 (dk_at dksX2_init_2_1 14 rfl rfl)
theorem dX2_init_2_39 : decode cX2_init_2 39 = .ok (.bipush 32, 2) := dk_16 32 (dk_at dksX2_init_2_1 15 rfl rfl)
theorem dX2_init_2_41 : decode cX2_init_2 41 = .ok (.newarray .int, 2) := dk_188_10 (dk_at dksX2_init_2_1 17 rfl rfl)
theorem dX2_init_2_43 : decode cX2_init_2 43 = .ok (.putfield 30, 3) := dk_181 0 30 (dk_at dksX2_init_2_1 19 rfl rfl)
theorem dX2_init_2_46 : decode cX2_init_2 46 = .ok (.aload_n 0, 1) := dk_42 (dk_at dksX2_init_2_1 22 rfl rfl)
theorem dX2_init_2_47 : decode cX2_init_2 47 = .ok (.bipush 32, 2) := dk_16 32 (dk_at dksX2_init_2_2 0 rfl rfl)
theorem dX2_init_2_49 : decode cX2_init_2 49 = .ok (.newarray .int, 2) := dk_188_10 (dk_at dksX2_init_2_2 2 rfl rfl)
theorem dX2_init_2_51 : decode cX2_init_2 51 = .ok (.putfield 33, 3) := dk_181 0 33 (dk_at dksX2_init_2_2 4 rfl rfl)
theorem dX2_init_2_54 : decode cX2_init_2 54 = .ok (.aload_n 0, 1) := dk_42 (dk_at dksX2_init_2_2 7 rfl rfl)
theorem dX2_init_2_55 : decode cX2_init_2 55 = .ok (.bipush 32, 2) := dk_16 32 (dk_at dksX2_init_2_2 8 rfl rfl)
theorem dX2_init_2_57 : decode cX2_init_2 57 = .ok (.newarray .int, 2) := dk_188_10 (dk_at dksX2_init_2_2 10 rfl rfl)
theorem dX2_init_2_59 : decode cX2_init_2 59 = .ok (.putfield 36, 3) := dk_181 0 36 (dk_at dksX2_init_2_2 12 rfl rfl)
theorem dX2_init_2_62 : decode cX2_init_2 62 = .ok (.iconst 0, 1) := dk_3 (dk_at dksX2_init_2_2 15 rfl rfl)
theorem dX2_init_2_63 : decode cX2_init_2 63 = .ok (.istore 4, 2) := dk_54 4 (dk_at dksX2_init_2_2 16 rfl rfl)
theorem dX2_init_2_65 : decode cX2_init_2 65 = .ok (.iload 4, 2) := dk_21 4 (dk_at dksX2_init_2_2 18 rfl rfl)
theorem dX2_init_2_67 : decode cX2_init_2 67 = .ok (.bipush 32, 2) := dk_16 32 (dk_at dksX2_init_2_2 20 rfl rfl)
theorem dX2_init_2_69 : decode cX2_init_2 69 = .ok (.if_icmp .ge 95, 3) := dk_162 0 95 (dk_at dksX2_init_2_3 0 rfl rfl)
theorem dX2_init_2_72 : decode cX2_init_2 72 = .ok (.aload_n 0, 1) := dk_42 (dk_at dksX2_init_2_3 3 rfl rfl)
theorem dX2_init_2_73 : decode cX2_init_2 73 = .ok (.getfield 26, 3) := dk_180 0 26 (dk_at dksX2_init_2_3 4 rfl rfl)
theorem dX2_init_2_76 : decode cX2_init_2 76 = .ok (.iload 4, 2) := dk_21 4 (dk_at dksX2_init_2_3 7 rfl rfl)
theorem dX2_init_2_78 : decode cX2_init_2 78 = .ok (.aload_n 3, 1) := dk_45 (dk_at dksX2_init_2_3 9 rfl rfl)
theorem dX2_init_2_79 : decode cX2_init_2 79 = .ok (.iload 4, 2) := dk_21 4 (dk_at dksX2_init_2_3 10 rfl rfl)
theorem dX2_init_2_81 : decode cX2_init_2 81 = .ok (.iconst 4, 1) := dk_7 (dk_at dksX2_init_2_3 12 rfl rfl)
theorem dX2_init_2_82 : decode cX2_init_2 82 = .ok (.imul, 1) := dk_104 (dk_at dksX2_init_2_3 13 rfl rfl)
theorem dX2_init_2_83 : decode cX2_init_2 83 = .ok (.bipush 10, 2) := dk_16 10 (dk_at dksX2_init_2_3 14 rfl rfl)
theorem dX2_init_2_85 : decode cX2_init_2 85 = .ok (.irem, 1) := dk_112 (dk_at dksX2_init_2_3 16 rfl rfl)
theorem dX2_init_2_86 : decode cX2_init_2 86 = .ok (.baload, 1) := dk_51 (dk_at dksX2_init_2_3 17 rfl rfl)
theorem dX2_init_2_87 : decode cX2_init_2 87 = .ok (.sipush 255, 3) := dk_17 0 255 (dk_at dksX2_init_2_3 18 rfl rfl)
theorem dX2_init_2_90 : decode cX2_init_2 90 = .ok (.iand, 1) := dk_126 (dk_at dksX2_init_2_3 21 rfl rfl)
theorem dX2_init_2_91 : decode cX2_init_2 91 = .ok (.iastore, 1) := dk_79 (dk_at dksX2_init_2_3 22 rfl rfl)
theorem dX2_init_2_92 : decode cX2_init_2 92 = .ok (.aload_n 0, 1) := dk_42 (dk_at dksX2_init_2_3 23 rfl rfl)
theorem dX2_init_2_93 : decode cX2_init_2 93 = .ok (.getfield 30, 3) := dk_180 0 30 (dk_at dksX2_init_2_4 0 rfl rfl)
theorem dX2_init_2_96 : decode cX2_init_2 96 = .ok (.iload 4, 2) := dk_21 4 (dk_at dksX2_init_2_4 3 rfl rfl)
theorem dX2_init_2_98 : decode cX2_init_2 98 = .ok (.aload_n 3, 1) := dk_45 (dk_at dksX2_init_2_4 5 rfl rfl)
theorem dX2_init_2_99 : decode cX2_init_2 99 = .ok (.iload 4, 2) := dk_21 4 (dk_at dksX2_init_2_4 6 rfl rfl)
theorem dX2_init_2_101 : decode cX2_init_2 101 = .ok (.iconst 4, 1) := dk_7 (dk_at dksX2_init_2_4 8 rfl rfl)
theorem dX2_init_2_102 : decode cX2_init_2 102 = .ok (.imul, 1) := dk_104 (dk_at dksX2_init_2_4 9 rfl rfl)
theorem dX2_init_2_103 : decode cX2_init_2 103 = .ok (.iconst 1, 1) := dk_4 (dk_at dksX2_init_2_4 10 rfl rfl)
theorem dX2_init_2_104 : decode cX2_init_2 104 = .ok (.iadd, 1) := dk_96 (dk_at dksX2_init_2_4 11 rfl rfl)
theorem dX2_init_2_105 : decode cX2_init_2 105 = .ok (.bipush 10, 2) := dk_16 10 (dk_at dksX2_init_2_4 12 rfl rfl)
theorem dX2_init_2_107 : decode cX2_init_2 107 = .ok (.irem, 1) := dk_112 (dk_at dksX2_init_2_4 14 rfl rfl)
theorem dX2_init_2_108 : decode cX2_init_2 108 = .ok (.baload, 1) := dk_51 (dk_at dksX2_init_2_4 15 rfl rfl)
theorem dX2_init_2_109 : decode cX2_init_2 109 = .ok (.sipush 255, 3) := dk_17 0 255 (dk_at dksX2_init_2_4 16 rfl rfl)
theorem dX2_init_2_112 : decode cX2_init_2 112 = .ok (.iand, 1) := dk_126 (dk_at dksX2_init_2_4 19 rfl rfl)
theorem dX2_init_2_113 : decode cX2_init_2 113 = .ok (.iastore, 1) := dk_79 (dk_at dksX2_init_2_4 20 rfl rfl)
theorem dX2_init_2_114 : decode cX2_init_2 114 = .ok (.aload_n 0, 1) := dk_42 (dk_at dksX2_init_2_4 21 rfl rfl)
theorem dX2_init_2_115 : decode cX2_init_2 115 = .ok (.getfield 33, 3) := dk_180 0 33 (dk_at dksX2_init_2_5 0 rfl rfl)
theorem dX2_init_2_118 : decode cX2_init_2 118 = .ok (.iload 4, 2) := dk_21 4 (dk_at dksX2_init_2_5 3 rfl rfl)
theorem dX2_init_2_120 : decode cX2_init_2 120 = .ok (.aload_n 3, 1) := dk_45 (dk_at dksX2_init_2_5 5 rfl rfl)
theorem dX2_init_2_121 : decode cX2_init_2 121 = .ok (.iload 4, 2) := dk_21 4 (dk_at dksX2_init_2_5 6 rfl rfl)
theorem dX2_init_2_123 : decode cX2_init_2 123 = .ok (.iconst 4, 1) := dk_7 (dk_at dksX2_init_2_5 8 rfl rfl)
theorem dX2_init_2_124 : decode cX2_init_2 124 = .ok (.imul, 1) := dk_104 (dk_at dksX2_init_2_5 9 rfl rfl)
theorem dX2_init_2_125 : decode cX2_init_2 125 = .ok (.iconst 2, 1) := dk_5 (dk_at dksX2_init_2_5 10 rfl rfl)
theorem dX2_init_2_126 : decode cX2_init_2 126 = .ok (.iadd, 1) := dk_96 (dk_at dksX2_init_2_5 11 rfl rfl)
theorem dX2_init_2_127 : decode cX2_init_2 127 = .ok (.bipush 10, 2) := dk_16 10 (dk_at dksX2_init_2_5 12 rfl rfl)
theorem dX2_init_2_129 : decode cX2_init_2 129 = .ok (.irem, 1) := dk_112 (dk_at dksX2_init_2_5 14 rfl rfl)
theorem dX2_init_2_130 : decode cX2_init_2 130 = .ok (.baload, 1) := dk_51 (dk_at dksX2_init_2_5 15 rfl rfl)
theorem dX2_init_2_131 : decode cX2_init_2 131 = .ok (.sipush 255, 3) := dk_17 0 255 (dk_at dksX2_init_2_5 16 rfl rfl)
theorem dX2_init_2_134 : decode cX2_init_2 134 = .ok (.iand, 1) := dk_126 (dk_at dksX2_init_2_5 19 rfl rfl)
theorem dX2_init_2_135 : decode cX2_init_2 135 = .ok (.iastore, 1) := dk_79 (dk_at dksX2_init_2_5 20 rfl rfl)
theorem dX2_init_2_136 : decode cX2_init_2 136 = .ok (.aload_n 0, 1) := dk_42 (dk_at dksX2_init_2_5 21 rfl rfl)
theorem dX2_init_2_137 : decode cX2_init_2 137 = .ok (.getfield 36, 3) := dk_180 0 36 (dk_at dksX2_init_2_6 0 rfl rfl)
theorem dX2_init_2_140 : decode cX2_init_2 140 = .ok (.iload 4, 2) := dk_21 4 (dk_at dksX2_init_2_6 3 rfl rfl)
theorem dX2_init_2_142 : decode cX2_init_2 142 = .ok (.aload_n 3, 1) := dk_45 (dk_at dksX2_init_2_6 5 rfl rfl)
theorem dX2_init_2_143 : decode cX2_init_2 143 = .ok (.iload 4, 2) := dk_21 4 (dk_at dksX2_init_2_6 6 rfl rfl)
theorem dX2_init_2_145 : decode cX2_init_2 145 = .ok (.iconst 4, 1) := dk_7 (dk_at dksX2_init_2_6 8 rfl rfl)
theorem dX2_init_2_146 : decode cX2_init_2 146 = .ok (.imul, 1) := dk_104 (dk_at dksX2_init_2_6 9 rfl rfl)
theorem dX2_init_2_147 : decode cX2_init_2 147 = .ok (.iconst 3, 1) := dk_6 (dk_at dksX2_init_2_6 10 rfl rfl)
theorem dX2_init_2_148 : decode cX2_init_2 148 = .ok (.iadd, 1) := dk_96 (dk_at dksX2_init_2_6 11 rfl rfl)
theorem dX2_init_2_149 : decode cX2_init_2 149 = .ok (.bipush 10, 2) := dk_16 10 (dk_at dksX2_init_2_6 12 rfl rfl)
theorem dX2_init_2_151 : decode cX2_init_2 151 = .ok (.irem, 1) := dk_112 (dk_at dksX2_init_2_6 14 rfl rfl)
theorem dX2_init_2_152 : decode cX2_init_2 152 = .ok (.baload, 1) := dk_51 (dk_at dksX2_init_2_6 15 rfl rfl)
theorem dX2_init_2_153 : decode cX2_init_2 153 = .ok (.sipush 255, 3) := dk_17 0 255 (dk_at dksX2_init_2_6 16 rfl rfl)
theorem dX2_init_2_156 : decode cX2_init_2 156 = .ok (.iand, 1) := dk_126 (dk_at dksX2_init_2_6 19 rfl rfl)
theorem dX2_init_2_157 : decode cX2_init_2 157 = .ok (.iastore, 1) := dk_79 (dk_at dksX2_init_2_6 20 rfl rfl)
theorem dX2_init_2_158 : decode cX2_init_2 158 = .ok (.iinc 4 1, 3) := dk_132 4 1 (dk_at dksX2_init_2_6 21 rfl rfl)
theorem dX2_init_2_161 : decode cX2_init_2 161 = .ok (.goto (-96), 3) := dk_167 255 160 (dk_at dksX2_init_2_7 0 rfl rfl)
theorem dX2_init_2_164 : decode cX2_init_2 164 = .ok (.return_, 1) := dk_177 (dk_at dksX2_init_2_7 3 rfl rfl)
abbrev cX2_processBlock : ByteArray := prog_9_method_3_code
def yX2_processBlock : MethodName := ⟨RX2, "processBlock", "([BI[BI)I"⟩
def dkwX2_processBlock_3 : List UInt8 := [182, 0, 54, 87, 167, 0, 13, 42, 43, 28, 45, 21, 4, 182, 0, 58, 87, 16, 8, 172]
abbrev dktX2_processBlock_3 : List UInt8 := dkwX2_processBlock_3 ++ []
def dkwX2_processBlock_2 : List UInt8 := [187, 0, 49, 89, 18, 51, 183, 0, 53, 191, 42, 180, 0, 20, 153, 0, 16, 42, 43, 28, 45, 21, 4]
abbrev dktX2_processBlock_2 : List UInt8 := dkwX2_processBlock_2 ++ dktX2_processBlock_3
def dkwX2_processBlock_1 : List UInt8 := [164, 0, 13, 187, 0, 44, 89, 18, 46, 183, 0, 48, 191, 21, 4, 16, 8, 96, 45, 190, 164, 0, 13]
abbrev dktX2_processBlock_1 : List UInt8 := dkwX2_processBlock_1 ++ dktX2_processBlock_2
def dkwX2_processBlock_0 : List UInt8 := [42, 180, 0, 30, 199, 0, 13, 187, 0, 39, 89, 18, 41, 183, 0, 43, 191, 28, 16, 8, 96, 43, 190]
abbrev dktX2_processBlock_0 : List UInt8 := dkwX2_processBlock_0 ++ dktX2_processBlock_1
theorem dksX2_processBlock_0 : cX2_processBlock.data.toList.drop 0 = dktX2_processBlock_0 := by decide +kernel
theorem dksX2_processBlock_1 : cX2_processBlock.data.toList.drop 23 = dktX2_processBlock_1 := dk_seg dksX2_processBlock_0 23 rfl rfl
theorem dksX2_processBlock_2 : cX2_processBlock.data.toList.drop 46 = dktX2_processBlock_2 := dk_seg dksX2_processBlock_1 23 rfl rfl
theorem dksX2_processBlock_3 : cX2_processBlock.data.toList.drop 69 = dktX2_processBlock_3 := dk_seg dksX2_processBlock_2 23 rfl rfl
theorem dX2_processBlock_0 : decode cX2_processBlock 0 = .ok (.aload_n 0, 1) := dk_42 (dk_at dksX2_processBlock_0 0 rfl rfl)
theorem dX2_processBlock_1 : decode cX2_processBlock 1 = .ok (.getfield 30, 3) := dk_180 0 30 (dk_at dksX2_processBlock_0 1 rfl rfl)
theorem dX2_processBlock_4 : decode cX2_processBlock 4 = .ok (.ifnonnull 13, 3) := dk_199 0 13 (dk_at dksX2_processBlock_0 4 rfl rfl)
theorem dX2_processBlock_7 : decode cX2_processBlock 7 = .ok (.new 39, 3) := dk_187 0 39 (dk_at dksX2_processBlock_0 7 rfl rfl)
theorem dX2_processBlock_10 : decode cX2_processBlock 10 = .ok (.dup, 1) := dk_89 (dk_at dksX2_processBlock_0 10 rfl rfl)
theorem dX2_processBlock_11 : decode cX2_processBlock 11 = .ok (.ldc 41, 2) := dk_18 41 (dk_at dksX2_processBlock_0 11 rfl rfl)
theorem dX2_processBlock_13 : decode cX2_processBlock 13 = .ok (.invokespecial 43, 3) := dk_183 0 43 (dk_at dksX2_processBlock_0 13 rfl rfl)
theorem dX2_processBlock_16 : decode cX2_processBlock 16 = .ok (.athrow, 1) := dk_191 (dk_at dksX2_processBlock_0 16 rfl rfl)
theorem dX2_processBlock_17 : decode cX2_processBlock 17 = .ok (.iload_n 2, 1) := dk_28 (dk_at dksX2_processBlock_0 17 rfl rfl)
theorem dX2_processBlock_18 : decode cX2_processBlock 18 = .ok (.bipush 8, 2) := dk_16 8 (dk_at dksX2_processBlock_0 18 rfl rfl)
theorem dX2_processBlock_20 : decode cX2_processBlock 20 = .ok (.iadd, 1) := dk_96 (dk_at dksX2_processBlock_0 20 rfl rfl)
theorem dX2_processBlock_21 : decode cX2_processBlock 21 = .ok (.aload_n 1, 1) := dk_43 (dk_at dksX2_processBlock_0 21 rfl rfl)
theorem dX2_processBlock_22 : decode cX2_processBlock 22 = .ok (.arraylength, 1) := dk_190 (dk_at dksX2_processBlock_0 22 rfl rfl)
theorem dX2_processBlock_23 : decode cX2_processBlock 23 = .ok (.if_icmp .le 13, 3) := dk_164 0 13 (dk_at dksX2_processBlock_1 0 rfl rfl)
theorem dX2_processBlock_26 : decode cX2_processBlock 26 = .ok (.new 44, 3) := dk_187 0 44 (dk_at dksX2_processBlock_1 3 rfl rfl)
theorem dX2_processBlock_29 : decode cX2_processBlock 29 = .ok (.dup, 1) := dk_89 (dk_at dksX2_processBlock_1 6 rfl rfl)
theorem dX2_processBlock_30 : decode cX2_processBlock 30 = .ok (.ldc 46, 2) := dk_18 46 (dk_at dksX2_processBlock_1 7 rfl rfl)
theorem dX2_processBlock_32 : decode cX2_processBlock 32 = .ok (.invokespecial 48, 3) := dk_183 0 48 (dk_at dksX2_processBlock_1 9 rfl rfl)
theorem dX2_processBlock_35 : decode cX2_processBlock 35 = .ok (.athrow, 1) := dk_191 (dk_at dksX2_processBlock_1 12 rfl rfl)
theorem dX2_processBlock_36 : decode cX2_processBlock 36 = .ok (.iload 4, 2) := dk_21 4 (dk_at dksX2_processBlock_1 13 rfl rfl)
theorem dX2_processBlock_38 : decode cX2_processBlock 38 = .ok (.bipush 8, 2) := dk_16 8 (dk_at dksX2_processBlock_1 15 rfl rfl)
theorem dX2_processBlock_40 : decode cX2_processBlock 40 = .ok (.iadd, 1) := dk_96 (dk_at dksX2_processBlock_1 17 rfl rfl)
theorem dX2_processBlock_41 : decode cX2_processBlock 41 = .ok (.aload_n 3, 1) := dk_45 (dk_at dksX2_processBlock_1 18 rfl rfl)
theorem dX2_processBlock_42 : decode cX2_processBlock 42 = .ok (.arraylength, 1) := dk_190 (dk_at dksX2_processBlock_1 19 rfl rfl)
theorem dX2_processBlock_43 : decode cX2_processBlock 43 = .ok (.if_icmp .le 13, 3) := dk_164 0 13 (dk_at dksX2_processBlock_1 20 rfl rfl)
theorem dX2_processBlock_46 : decode cX2_processBlock 46 = .ok (.new 49, 3) := dk_187 0 49 (dk_at dksX2_processBlock_2 0 rfl rfl)
theorem dX2_processBlock_49 : decode cX2_processBlock 49 = .ok (.dup, 1) := dk_89 (dk_at dksX2_processBlock_2 3 rfl rfl)
theorem dX2_processBlock_50 : decode cX2_processBlock 50 = .ok (.ldc 51, 2) := dk_18 51 (dk_at dksX2_processBlock_2 4 rfl rfl)
theorem dX2_processBlock_52 : decode cX2_processBlock 52 = .ok (.invokespecial 53, 3) := dk_183 0 53 (dk_at dksX2_processBlock_2 6 rfl rfl)
theorem dX2_processBlock_55 : decode cX2_processBlock 55 = .ok (.athrow, 1) := dk_191 (dk_at dksX2_processBlock_2 9 rfl rfl)
theorem dX2_processBlock_56 : decode cX2_processBlock 56 = .ok (.aload_n 0, 1) := dk_42 (dk_at dksX2_processBlock_2 10 rfl rfl)
theorem dX2_processBlock_57 : decode cX2_processBlock 57 = .ok (.getfield 20, 3) := dk_180 0 20 (dk_at dksX2_processBlock_2 11 rfl rfl)
theorem dX2_processBlock_60 : decode cX2_processBlock 60 = .ok (.ifCond .eq 16, 3) := dk_153 0 16 (dk_at dksX2_processBlock_2 14 rfl rfl)
theorem dX2_processBlock_63 : decode cX2_processBlock 63 = .ok (.aload_n 0, 1) := dk_42 (dk_at dksX2_processBlock_2 17 rfl rfl)
theorem dX2_processBlock_64 : decode cX2_processBlock 64 = .ok (.aload_n 1, 1) := dk_43 (dk_at dksX2_processBlock_2 18 rfl rfl)
theorem dX2_processBlock_65 : decode cX2_processBlock 65 = .ok (.iload_n 2, 1) := dk_28 (dk_at dksX2_processBlock_2 19 rfl rfl)
theorem dX2_processBlock_66 : decode cX2_processBlock 66 = .ok (.aload_n 3, 1) := dk_45 (dk_at dksX2_processBlock_2 20 rfl rfl)
theorem dX2_processBlock_67 : decode cX2_processBlock 67 = .ok (.iload 4, 2) := dk_21 4 (dk_at dksX2_processBlock_2 21 rfl rfl)
theorem dX2_processBlock_69 : decode cX2_processBlock 69 = .ok (.invokevirtual 54, 3) := dk_182 0 54 (dk_at dksX2_processBlock_3 0 rfl rfl)
theorem dX2_processBlock_72 : decode cX2_processBlock 72 = .ok (.pop, 1) := dk_87 (dk_at dksX2_processBlock_3 3 rfl rfl)
theorem dX2_processBlock_73 : decode cX2_processBlock 73 = .ok (.goto 13, 3) := dk_167 0 13 (dk_at dksX2_processBlock_3 4 rfl rfl)
theorem dX2_processBlock_76 : decode cX2_processBlock 76 = .ok (.aload_n 0, 1) := dk_42 (dk_at dksX2_processBlock_3 7 rfl rfl)
theorem dX2_processBlock_77 : decode cX2_processBlock 77 = .ok (.aload_n 1, 1) := dk_43 (dk_at dksX2_processBlock_3 8 rfl rfl)
theorem dX2_processBlock_78 : decode cX2_processBlock 78 = .ok (.iload_n 2, 1) := dk_28 (dk_at dksX2_processBlock_3 9 rfl rfl)
theorem dX2_processBlock_79 : decode cX2_processBlock 79 = .ok (.aload_n 3, 1) := dk_45 (dk_at dksX2_processBlock_3 10 rfl rfl)
theorem dX2_processBlock_80 : decode cX2_processBlock 80 = .ok (.iload 4, 2) := dk_21 4 (dk_at dksX2_processBlock_3 11 rfl rfl)
theorem dX2_processBlock_82 : decode cX2_processBlock 82 = .ok (.invokevirtual 58, 3) := dk_182 0 58 (dk_at dksX2_processBlock_3 13 rfl rfl)
theorem dX2_processBlock_85 : decode cX2_processBlock 85 = .ok (.pop, 1) := dk_87 (dk_at dksX2_processBlock_3 16 rfl rfl)
theorem dX2_processBlock_86 : decode cX2_processBlock 86 = .ok (.bipush 8, 2) := dk_16 8 (dk_at dksX2_processBlock_3 17 rfl rfl)
theorem dX2_processBlock_88 : decode cX2_processBlock 88 = .ok (.ireturn, 1) := dk_172 (dk_at dksX2_processBlock_3 19 rfl rfl)
abbrev cX2_encryptBlock : ByteArray := prog_9_method_5_code
def yX2_encryptBlock : MethodName := ⟨RX2, "encryptBlock", "([BI[BI)I"⟩
def dkwX2_encryptBlock_12 : List UInt8 := [16, 7, 96, 21, 8, 145, 84, 16, 8, 172]
abbrev dktX2_encryptBlock_12 : List UInt8 := dkwX2_encryptBlock_12 ++ []
def dkwX2_encryptBlock_11 : List UInt8 := [21, 4, 8, 96, 21, 7, 145, 84, 45, 21, 4, 16, 6, 96, 21, 8, 16, 8, 122, 145, 84, 45, 21, 4]
abbrev dktX2_encryptBlock_11 : List UInt8 := dkwX2_encryptBlock_11 ++ dktX2_encryptBlock_12
def dkwX2_encryptBlock_10 : List UInt8 := [145, 84, 45, 21, 4, 6, 96, 21, 6, 145, 84, 45, 21, 4, 7, 96, 21, 7, 16, 8, 122, 145, 84, 45]
abbrev dktX2_encryptBlock_10 : List UInt8 := dkwX2_encryptBlock_10 ++ dktX2_encryptBlock_11
def dkwX2_encryptBlock_9 : List UInt8 := [16, 8, 122, 145, 84, 45, 21, 4, 4, 96, 21, 5, 145, 84, 45, 21, 4, 5, 96, 21, 6, 16, 8, 122]
abbrev dktX2_encryptBlock_9 : List UInt8 := dkwX2_encryptBlock_9 ++ dktX2_encryptBlock_10
def dkwX2_encryptBlock_8 : List UInt8 := [54, 5, 132, 9, 1, 132, 11, 1, 167, 255, 209, 132, 10, 1, 167, 255, 141, 45, 21, 4, 3, 96, 21, 5]
abbrev dktX2_encryptBlock_8 : List UInt8 := dkwX2_encryptBlock_8 ++ dktX2_encryptBlock_9
def dkwX2_encryptBlock_7 : List UInt8 := [21, 5, 21, 6, 130, 21, 9, 4, 96, 130, 54, 7, 42, 21, 9, 21, 5, 182, 0, 65, 54, 6, 21, 12]
abbrev dktX2_encryptBlock_7 : List UInt8 := dkwX2_encryptBlock_7 ++ dktX2_encryptBlock_8
def dkwX2_encryptBlock_6 : List UInt8 := [132, 11, 1, 167, 255, 209, 3, 54, 11, 21, 11, 16, 8, 162, 0, 46, 21, 8, 54, 12, 21, 7, 54, 8]
abbrev dktX2_encryptBlock_6 : List UInt8 := dkwX2_encryptBlock_6 ++ dktX2_encryptBlock_7
def dkwX2_encryptBlock_5 : List UInt8 := [21, 5, 182, 0, 65, 54, 6, 21, 6, 21, 12, 130, 21, 9, 4, 96, 130, 54, 5, 132, 9, 1]
abbrev dktX2_encryptBlock_5 : List UInt8 := dkwX2_encryptBlock_5 ++ dktX2_encryptBlock_6
def dkwX2_encryptBlock_4 : List UInt8 := [54, 11, 21, 11, 16, 8, 162, 0, 46, 21, 8, 54, 12, 21, 7, 54, 8, 21, 6, 54, 7, 42, 21, 9]
abbrev dktX2_encryptBlock_4 : List UInt8 := dkwX2_encryptBlock_4 ++ dktX2_encryptBlock_5
def dkwX2_encryptBlock_3 : List UInt8 := [16, 7, 96, 51, 17, 0, 255, 126, 96, 54, 8, 3, 54, 9, 3, 54, 10, 21, 10, 5, 162, 0, 115, 3]
abbrev dktX2_encryptBlock_3 : List UInt8 := dkwX2_encryptBlock_3 ++ dktX2_encryptBlock_4
def dkwX2_encryptBlock_2 : List UInt8 := [43, 28, 8, 96, 51, 17, 0, 255, 126, 96, 54, 7, 43, 28, 16, 6, 96, 51, 16, 8, 120, 43, 28]
abbrev dktX2_encryptBlock_2 : List UInt8 := dkwX2_encryptBlock_2 ++ dktX2_encryptBlock_3
def dkwX2_encryptBlock_1 : List UInt8 := [51, 16, 8, 120, 43, 28, 6, 96, 51, 17, 0, 255, 126, 96, 54, 6, 43, 28, 7, 96, 51, 16, 8, 120]
abbrev dktX2_encryptBlock_1 : List UInt8 := dkwX2_encryptBlock_1 ++ dktX2_encryptBlock_2
def dkwX2_encryptBlock_0 : List UInt8 := [43, 28, 3, 96, 51, 16, 8, 120, 43, 28, 4, 96, 51, 17, 0, 255, 126, 96, 54, 5, 43, 28, 5, 96]
abbrev dktX2_encryptBlock_0 : List UInt8 := dkwX2_encryptBlock_0 ++ dktX2_encryptBlock_1
theorem dksX2_encryptBlock_0 : cX2_encryptBlock.data.toList.drop 0 = dktX2_encryptBlock_0 := by decide +kernel
theorem dksX2_encryptBlock_1 : cX2_encryptBlock.data.toList.drop 24 = dktX2_encryptBlock_1 := dk_seg dksX2_encryptBlock_0 24 rfl rfl
theorem dksX2_encryptBlock_2 : cX2_encryptBlock.data.toList.drop 48 = dktX2_encryptBlock_2 := dk_seg dksX2_encryptBlock_1 24 rfl rfl
theorem dksX2_encryptBlock_3 : cX2_encryptBlock.data.toList.drop 71 = dktX2_encryptBlock_3 := dk_seg dksX2_encryptBlock_2 23 rfl rfl
theorem dksX2_encryptBlock_4 : cX2_encryptBlock.data.toList.drop 95 = dktX2_encryptBlock_4 := dk_seg dksX2_encryptBlock_3 24 rfl rfl
theorem dksX2_encryptBlock_5 : cX2_encryptBlock.data.toList.drop 119 = dktX2_encryptBlock_5 := dk_seg dksX2_encryptBlock_4 24 rfl rfl
theorem dksX2_encryptBlock_6 : cX2_encryptBlock.data.toList.drop 141 = dktX2_encryptBlock_6 := dk_seg dksX2_encryptBlock_5 22 rfl rfl
theorem dksX2_encryptBlock_7 : cX2_encryptBlock.data.toList.drop 165 = dktX2_encryptBlock_7 := dk_seg dksX2_encryptBlock_6 24 rfl rfl
theorem dksX2_encryptBlock_8 : cX2_encryptBlock.data.toList.drop 189 = dktX2_encryptBlock_8 := dk_seg dksX2_encryptBlock_7 24 rfl rfl
theorem dksX2_encryptBlock_9 : cX2_encryptBlock.data.toList.drop 213 = dktX2_encryptBlock_9 := dk_seg dksX2_encryptBlock_8 24 rfl rfl
theorem dksX2_encryptBlock_10 : cX2_encryptBlock.data.toList.drop 237 = dktX2_encryptBlock_10 := dk_seg dksX2_encryptBlock_9 24 rfl rfl
theorem dksX2_encryptBlock_11 : cX2_encryptBlock.data.toList.drop 261 = dktX2_encryptBlock_11 := dk_seg dksX2_encryptBlock_10 24 rfl rfl
theorem dksX2_encryptBlock_12 : cX2_encryptBlock.data.toList.drop 285 = dktX2_encryptBlock_12 := dk_seg dksX2_encryptBlock_11 24 rfl rfl
theorem dX2_encryptBlock_0 : decode cX2_encryptBlock 0 = .ok (.aload_n 1, 1) := dk_43 (dk_at dksX2_encryptBlock_0 0 rfl rfl)
theorem dX2_encryptBlock_1 : decode cX2_encryptBlock 1 = .ok (.iload_n 2, 1) := dk_28 (dk_at dksX2_encryptBlock_0 1 rfl rfl)
theorem dX2_encryptBlock_2 : decode cX2_encryptBlock 2 = .ok (.iconst 0, 1) := dk_3 (dk_at dksX2_encryptBlock_0 2 rfl rfl)
theorem dX2_encryptBlock_3 : decode cX2_encryptBlock 3 = .ok (.iadd, 1) := dk_96 (dk_at dksX2_encryptBlock_0 3 rfl rfl)
theorem dX2_encryptBlock_4 : decode cX2_encryptBlock 4 = .ok (.baload, 1) := dk_51 (dk_at dksX2_encryptBlock_0 4 rfl rfl)
theorem dX2_encryptBlock_5 : decode cX2_encryptBlock 5 = .ok (.bipush 8, 2) := dk_16 8 (dk_at dksX2_encryptBlock_0 5 rfl rfl)
theorem dX2_encryptBlock_7 : decode cX2_encryptBlock 7 = .ok (.ishl, 1) := dk_120 (dk_at dksX2_encryptBlock_0 7 rfl rfl)
theorem dX2_encryptBlock_8 : decode cX2_encryptBlock 8 = .ok (.aload_n 1, 1) := dk_43 (dk_at dksX2_encryptBlock_0 8 rfl rfl)
theorem dX2_encryptBlock_9 : decode cX2_encryptBlock 9 = .ok (.iload_n 2, 1) := dk_28 (dk_at dksX2_encryptBlock_0 9 rfl rfl)
theorem dX2_encryptBlock_10 : decode cX2_encryptBlock 10 = .ok (.iconst 1, 1) := dk_4 (dk_at dksX2_encryptBlock_0 10 rfl rfl)
theorem dX2_encryptBlock_11 : decode cX2_encryptBlock 11 = .ok (.iadd, 1) := dk_96 (dk_at dksX2_encryptBlock_0 11 rfl rfl)
theorem dX2_encryptBlock_12 : decode cX2_encryptBlock 12 = .ok (.baload, 1) := dk_51 (dk_at dksX2_encryptBlock_0 12 rfl rfl)
theorem dX2_encryptBlock_13 : decode cX2_encryptBlock 13 = .ok (.sipush 255, 3) := dk_17 0 255 (dk_at dksX2_encryptBlock_0 13 rfl rfl)
theorem dX2_encryptBlock_16 : decode cX2_encryptBlock 16 = .ok (.iand, 1) := dk_126 (dk_at dksX2_encryptBlock_0 16 rfl rfl)
theorem dX2_encryptBlock_17 : decode cX2_encryptBlock 17 = .ok (.iadd, 1) := dk_96 (dk_at dksX2_encryptBlock_0 17 rfl rfl)
theorem dX2_encryptBlock_18 : decode cX2_encryptBlock 18 = .ok (.istore 5, 2) := dk_54 5 (dk_at dksX2_encryptBlock_0 18 rfl rfl)
theorem dX2_encryptBlock_20 : decode cX2_encryptBlock 20 = .ok (.aload_n 1, 1) := dk_43 (dk_at dksX2_encryptBlock_0 20 rfl rfl)
theorem dX2_encryptBlock_21 : decode cX2_encryptBlock 21 = .ok (.iload_n 2, 1) := dk_28 (dk_at dksX2_encryptBlock_0 21 rfl rfl)
theorem dX2_encryptBlock_22 : decode cX2_encryptBlock 22 = .ok (.iconst 2, 1) := dk_5 (dk_at dksX2_encryptBlock_0 22 rfl rfl)
theorem dX2_encryptBlock_23 : decode cX2_encryptBlock 23 = .ok (.iadd, 1) := dk_96 (dk_at dksX2_encryptBlock_0 23 rfl rfl)
theorem dX2_encryptBlock_24 : decode cX2_encryptBlock 24 = .ok (.baload, 1) := dk_51 (dk_at dksX2_encryptBlock_1 0 rfl rfl)
theorem dX2_encryptBlock_25 : decode cX2_encryptBlock 25 = .ok (.bipush 8, 2) := dk_16 8 (dk_at dksX2_encryptBlock_1 1 rfl rfl)
theorem dX2_encryptBlock_27 : decode cX2_encryptBlock 27 = .ok (.ishl, 1) := dk_120 (dk_at dksX2_encryptBlock_1 3 rfl rfl)
theorem dX2_encryptBlock_28 : decode cX2_encryptBlock 28 = .ok (.aload_n 1, 1) := dk_43 (dk_at dksX2_encryptBlock_1 4 rfl rfl)
theorem dX2_encryptBlock_29 : decode cX2_encryptBlock 29 = .ok (.iload_n 2, 1) := dk_28 (dk_at dksX2_encryptBlock_1 5 rfl rfl)
theorem dX2_encryptBlock_30 : decode cX2_encryptBlock 30 = .ok (.iconst 3, 1) := dk_6 (dk_at dksX2_encryptBlock_1 6 rfl rfl)
theorem dX2_encryptBlock_31 : decode cX2_encryptBlock 31 = .ok (.iadd, 1) := dk_96 (dk_at dksX2_encryptBlock_1 7 rfl rfl)
theorem dX2_encryptBlock_32 : decode cX2_encryptBlock 32 = .ok (.baload, 1) := dk_51 (dk_at dksX2_encryptBlock_1 8 rfl rfl)
theorem dX2_encryptBlock_33 : decode cX2_encryptBlock 33 = .ok (.sipush 255, 3) := dk_17 0 255 (dk_at dksX2_encryptBlock_1 9 rfl rfl)
theorem dX2_encryptBlock_36 : decode cX2_encryptBlock 36 = .ok (.iand, 1) := dk_126 (dk_at dksX2_encryptBlock_1 12 rfl rfl)
theorem dX2_encryptBlock_37 : decode cX2_encryptBlock 37 = .ok (.iadd, 1) := dk_96 (dk_at dksX2_encryptBlock_1 13 rfl rfl)
theorem dX2_encryptBlock_38 : decode cX2_encryptBlock 38 = .ok (.istore 6, 2) := dk_54 6 (dk_at dksX2_encryptBlock_1 14 rfl rfl)
theorem dX2_encryptBlock_40 : decode cX2_encryptBlock 40 = .ok (.aload_n 1, 1) := dk_43 (dk_at dksX2_encryptBlock_1 16 rfl rfl)
theorem dX2_encryptBlock_41 : decode cX2_encryptBlock 41 = .ok (.iload_n 2, 1) := dk_28 (dk_at dksX2_encryptBlock_1 17 rfl rfl)
theorem dX2_encryptBlock_42 : decode cX2_encryptBlock 42 = .ok (.iconst 4, 1) := dk_7 (dk_at dksX2_encryptBlock_1 18 rfl rfl)
theorem dX2_encryptBlock_43 : decode cX2_encryptBlock 43 = .ok (.iadd, 1) := dk_96 (dk_at dksX2_encryptBlock_1 19 rfl rfl)
theorem dX2_encryptBlock_44 : decode cX2_encryptBlock 44 = .ok (.baload, 1) := dk_51 (dk_at dksX2_encryptBlock_1 20 rfl rfl)
theorem dX2_encryptBlock_45 : decode cX2_encryptBlock 45 = .ok (.bipush 8, 2) := dk_16 8 (dk_at dksX2_encryptBlock_1 21 rfl rfl)
theorem dX2_encryptBlock_47 : decode cX2_encryptBlock 47 = .ok (.ishl, 1) := dk_120 (dk_at dksX2_encryptBlock_1 23 rfl rfl)
theorem dX2_encryptBlock_48 : decode cX2_encryptBlock 48 = .ok (.aload_n 1, 1) := dk_43 (dk_at dksX2_encryptBlock_2 0 rfl rfl)
theorem dX2_encryptBlock_49 : decode cX2_encryptBlock 49 = .ok (.iload_n 2, 1) := dk_28 (dk_at dksX2_encryptBlock_2 1 rfl rfl)
theorem dX2_encryptBlock_50 : decode cX2_encryptBlock 50 = .ok (.iconst 5, 1) := dk_8 (dk_at dksX2_encryptBlock_2 2 rfl rfl)
theorem dX2_encryptBlock_51 : decode cX2_encryptBlock 51 = .ok (.iadd, 1) := dk_96 (dk_at dksX2_encryptBlock_2 3 rfl rfl)
theorem dX2_encryptBlock_52 : decode cX2_encryptBlock 52 = .ok (.baload, 1) := dk_51 (dk_at dksX2_encryptBlock_2 4 rfl rfl)
theorem dX2_encryptBlock_53 : decode cX2_encryptBlock 53 = .ok (.sipush 255, 3) := dk_17 0 255 (dk_at dksX2_encryptBlock_2 5 rfl rfl)
theorem dX2_encryptBlock_56 : decode cX2_encryptBlock 56 = .ok (.iand, 1) := dk_126 (dk_at dksX2_encryptBlock_2 8 rfl rfl)
theorem dX2_encryptBlock_57 : decode cX2_encryptBlock 57 = .ok (.iadd, 1) := dk_96 (dk_at dksX2_encryptBlock_2 9 rfl rfl)
theorem dX2_encryptBlock_58 : decode cX2_encryptBlock 58 = .ok (.istore 7, 2) := dk_54 7 (dk_at dksX2_encryptBlock_2 10 rfl rfl)
theorem dX2_encryptBlock_60 : decode cX2_encryptBlock 60 = .ok (.aload_n 1, 1) := dk_43 (dk_at dksX2_encryptBlock_2 12 rfl rfl)
theorem dX2_encryptBlock_61 : decode cX2_encryptBlock 61 = .ok (.iload_n 2, 1) := dk_28 (dk_at dksX2_encryptBlock_2 13 rfl rfl)
theorem dX2_encryptBlock_62 : decode cX2_encryptBlock 62 = .ok (.bipush 6, 2) := dk_16 6 (dk_at dksX2_encryptBlock_2 14 rfl rfl)
theorem dX2_encryptBlock_64 : decode cX2_encryptBlock 64 = .ok (.iadd, 1) := dk_96 (dk_at dksX2_encryptBlock_2 16 rfl rfl)
theorem dX2_encryptBlock_65 : decode cX2_encryptBlock 65 = .ok (.baload, 1) := dk_51 (dk_at dksX2_encryptBlock_2 17 rfl rfl)
theorem dX2_encryptBlock_66 : decode cX2_encryptBlock 66 = .ok (.bipush 8, 2) := dk_16 8 (dk_at dksX2_encryptBlock_2 18 rfl rfl)
theorem dX2_encryptBlock_68 : decode cX2_encryptBlock 68 = .ok (.ishl, 1) := dk_120 (dk_at dksX2_encryptBlock_2 20 rfl rfl)
theorem dX2_encryptBlock_69 : decode cX2_encryptBlock 69 = .ok (.aload_n 1, 1) := dk_43 (dk_at dksX2_encryptBlock_2 21 rfl rfl)
theorem dX2_encryptBlock_70 : decode cX2_encryptBlock 70 = .ok (.iload_n 2, 1) := dk_28 (dk_at dksX2_encryptBlock_2 22 rfl rfl)
theorem dX2_encryptBlock_71 : decode cX2_encryptBlock 71 = .ok (.bipush 7, 2) := dk_16 7 (dk_at dksX2_encryptBlock_3 0 rfl rfl)
theorem dX2_encryptBlock_73 : decode cX2_encryptBlock 73 = .ok (.iadd, 1) := dk_96 (dk_at dksX2_encryptBlock_3 2 rfl rfl)
theorem dX2_encryptBlock_74 : decode cX2_encryptBlock 74 = .ok (.baload, 1) := dk_51 (dk_at dksX2_encryptBlock_3 3 rfl rfl)
theorem dX2_encryptBlock_75 : decode cX2_encryptBlock 75 = .ok (.sipush 255, 3) := dk_17 0 255 (dk_at dksX2_encryptBlock_3 4 rfl rfl)
theorem dX2_encryptBlock_78 : decode cX2_encryptBlock 78 = .ok (.iand, 1) := dk_126 (dk_at dksX2_encryptBlock_3 7 rfl rfl)
theorem dX2_encryptBlock_79 : decode cX2_encryptBlock 79 = .ok (.iadd, 1) := dk_96 (dk_at dksX2_encryptBlock_3 8 rfl rfl)
theorem dX2_encryptBlock_80 : decode cX2_encryptBlock 80 = .ok (.istore 8, 2) := dk_54 8 (dk_at dksX2_encryptBlock_3 9 rfl rfl)
theorem dX2_encryptBlock_82 : decode cX2_encryptBlock 82 = .ok (.iconst 0, 1) := dk_3 (dk_at dksX2_encryptBlock_3 11 rfl rfl)
theorem dX2_encryptBlock_83 : decode cX2_encryptBlock 83 = .ok (.istore 9, 2) := dk_54 9 (dk_at dksX2_encryptBlock_3 12 rfl rfl)
theorem dX2_encryptBlock_85 : decode cX2_encryptBlock 85 = .ok (.iconst 0, 1) := dk_3 (dk_at dksX2_encryptBlock_3 14 rfl rfl)
theorem dX2_encryptBlock_86 : decode cX2_encryptBlock 86 = .ok (.istore 10, 2) := dk_54 10 (dk_at dksX2_encryptBlock_3 15 rfl rfl)
theorem dX2_encryptBlock_88 : decode cX2_encryptBlock 88 = .ok (.iload 10, 2) := dk_21 10 (dk_at dksX2_encryptBlock_3 17 rfl rfl)
theorem dX2_encryptBlock_90 : decode cX2_encryptBlock 90 = .ok (.iconst 2, 1) := dk_5 (dk_at dksX2_encryptBlock_3 19 rfl rfl)
theorem dX2_encryptBlock_91 : decode cX2_encryptBlock 91 = .ok (.if_icmp .ge 115, 3) := dk_162 0 115 (dk_at dksX2_encryptBlock_3 20 rfl rfl)
theorem dX2_encryptBlock_94 : decode cX2_encryptBlock 94 = .ok (.iconst 0, 1) := dk_3 (dk_at dksX2_encryptBlock_3 23 rfl rfl)
theorem dX2_encryptBlock_95 : decode cX2_encryptBlock 95 = .ok (.istore 11, 2) := dk_54 11 (dk_at dksX2_encryptBlock_4 0 rfl rfl)
theorem dX2_encryptBlock_97 : decode cX2_encryptBlock 97 = .ok (.iload 11, 2) := dk_21 11 (dk_at dksX2_encryptBlock_4 2 rfl rfl)
theorem dX2_encryptBlock_99 : decode cX2_encryptBlock 99 = .ok (.bipush 8, 2) := dk_16 8 (dk_at dksX2_encryptBlock_4 4 rfl rfl)
theorem dX2_encryptBlock_101 : decode cX2_encryptBlock 101 = .ok (.if_icmp .ge 46, 3) := dk_162 0 46 (dk_at dksX2_encryptBlock_4 6 rfl rfl)
theorem dX2_encryptBlock_104 : decode cX2_encryptBlock 104 = .ok (.iload 8, 2) := dk_21 8 (dk_at dksX2_encryptBlock_4 9 rfl rfl)
theorem dX2_encryptBlock_106 : decode cX2_encryptBlock 106 = .ok (.istore 12, 2) := dk_54 12 (dk_at dksX2_encryptBlock_4 11 rfl rfl)
theorem dX2_encryptBlock_108 : decode cX2_encryptBlock 108 = .ok (.iload 7, 2) := dk_21 7 (dk_at dksX2_encryptBlock_4 13 rfl rfl)
theorem dX2_encryptBlock_110 : decode cX2_encryptBlock 110 = .ok (.istore 8, 2) := dk_54 8 (dk_at dksX2_encryptBlock_4 15 rfl rfl)
theorem dX2_encryptBlock_112 : decode cX2_encryptBlock 112 = .ok (.iload 6, 2) := dk_21 6 (dk_at dksX2_encryptBlock_4 17 rfl rfl)
theorem dX2_encryptBlock_114 : decode cX2_encryptBlock 114 = .ok (.istore 7, 2) := dk_54 7 (dk_at dksX2_encryptBlock_4 19 rfl rfl)
theorem dX2_encryptBlock_116 : decode cX2_encryptBlock 116 = .ok (.aload_n 0, 1) := dk_42 (dk_at dksX2_encryptBlock_4 21 rfl rfl)
theorem dX2_encryptBlock_117 : decode cX2_encryptBlock 117 = .ok (.iload 9, 2) := dk_21 9 (dk_at dksX2_encryptBlock_4 22 rfl rfl)
theorem dX2_encryptBlock_119 : decode cX2_encryptBlock 119 = .ok (.iload 5, 2) := dk_21 5 (dk_at dksX2_encryptBlock_5 0 rfl rfl)
theorem dX2_encryptBlock_121 : decode cX2_encryptBlock 121 = .ok (.invokevirtual 65, 3) := dk_182 0 65 (dk_at dksX2_encryptBlock_5 2 rfl rfl)
theorem dX2_encryptBlock_124 : decode cX2_encryptBlock 124 = .ok (.istore 6, 2) := dk_54 6 (dk_at dksX2_encryptBlock_5 5 rfl rfl)
theorem dX2_encryptBlock_126 : decode cX2_encryptBlock 126 = .ok (.iload 6, 2) := dk_21 6 (dk_at dksX2_encryptBlock_5 7 rfl rfl)
theorem dX2_encryptBlock_128 : decode cX2_encryptBlock 128 = .ok (.iload 12, 2) := dk_21 12 (dk_at dksX2_encryptBlock_5 9 rfl rfl)
theorem dX2_encryptBlock_130 : decode cX2_encryptBlock 130 = .ok (.ixor, 1) := dk_130 (dk_at dksX2_encryptBlock_5 11 rfl rfl)
theorem dX2_encryptBlock_131 : decode cX2_encryptBlock 131 = .ok (.iload 9, 2) := dk_21 9 (dk_at dksX2_encryptBlock_5 12 rfl rfl)
theorem dX2_encryptBlock_133 : decode cX2_encryptBlock 133 = .ok (.iconst 1, 1) := dk_4 (dk_at dksX2_encryptBlock_5 14 rfl rfl)
theorem dX2_encryptBlock_134 : decode cX2_encryptBlock 134 = .ok (.iadd, 1) := dk_96 (dk_at dksX2_encryptBlock_5 15 rfl rfl)
theorem dX2_encryptBlock_135 : decode cX2_encryptBlock 135 = .ok (.ixor, 1) := dk_130 (dk_at dksX2_encryptBlock_5 16 rfl rfl)
theorem dX2_encryptBlock_136 : decode cX2_encryptBlock 136 = .ok (.istore 5, 2) := dk_54 5 (dk_at dksX2_encryptBlock_5 17 rfl rfl)
theorem dX2_encryptBlock_138 : decode cX2_encryptBlock 138 = .ok (.iinc 9 1, 3) := dk_132 9 1 (dk_at dksX2_encryptBlock_5 19 rfl rfl)
theorem dX2_encryptBlock_141 : decode cX2_encryptBlock 141 = .ok (.iinc 11 1, 3) := dk_132 11 1 (dk_at dksX2_encryptBlock_6 0 rfl rfl)
theorem dX2_encryptBlock_144 : decode cX2_encryptBlock 144 = .ok (.goto (-47), 3) := dk_167 255 209 (dk_at dksX2_encryptBlock_6 3 rfl rfl)
theorem dX2_encryptBlock_147 : decode cX2_encryptBlock 147 = .ok (.iconst 0, 1) := dk_3 (dk_at dksX2_encryptBlock_6 6 rfl rfl)
theorem dX2_encryptBlock_148 : decode cX2_encryptBlock 148 = .ok (.istore 11, 2) := dk_54 11 (dk_at dksX2_encryptBlock_6 7 rfl rfl)
theorem dX2_encryptBlock_150 : decode cX2_encryptBlock 150 = .ok (.iload 11, 2) := dk_21 11 (dk_at dksX2_encryptBlock_6 9 rfl rfl)
theorem dX2_encryptBlock_152 : decode cX2_encryptBlock 152 = .ok (.bipush 8, 2) := dk_16 8 (dk_at dksX2_encryptBlock_6 11 rfl rfl)
theorem dX2_encryptBlock_154 : decode cX2_encryptBlock 154 = .ok (.if_icmp .ge 46, 3) := dk_162 0 46 (dk_at dksX2_encryptBlock_6 13 rfl rfl)
theorem dX2_encryptBlock_157 : decode cX2_encryptBlock 157 = .ok (.iload 8, 2) := dk_21 8 (dk_at dksX2_encryptBlock_6 16 rfl rfl)
theorem dX2_encryptBlock_159 : decode cX2_encryptBlock 159 = .ok (.istore 12, 2) := dk_54 12 (dk_at dksX2_encryptBlock_6 18 rfl rfl)
theorem dX2_encryptBlock_161 : decode cX2_encryptBlock 161 = .ok (.iload 7, 2) := dk_21 7 (dk_at dksX2_encryptBlock_6 20 rfl rfl)
theorem dX2_encryptBlock_163 : decode cX2_encryptBlock 163 = .ok (.istore 8, 2) := dk_54 8 (dk_at dksX2_encryptBlock_6 22 rfl rfl)
theorem dX2_encryptBlock_165 : decode cX2_encryptBlock 165 = .ok (.iload 5, 2) := dk_21 5 (dk_at dksX2_encryptBlock_7 0 rfl rfl)
theorem dX2_encryptBlock_167 : decode cX2_encryptBlock 167 = .ok (.iload 6, 2) := dk_21 6 (dk_at dksX2_encryptBlock_7 2 rfl rfl)
theorem dX2_encryptBlock_169 : decode cX2_encryptBlock 169 = .ok (.ixor, 1) := dk_130 (dk_at dksX2_encryptBlock_7 4 rfl rfl)
theorem dX2_encryptBlock_170 : decode cX2_encryptBlock 170 = .ok (.iload 9, 2) := dk_21 9 (dk_at dksX2_encryptBlock_7 5 rfl rfl)
theorem dX2_encryptBlock_172 : decode cX2_encryptBlock 172 = .ok (.iconst 1, 1) := dk_4 (dk_at dksX2_encryptBlock_7 7 rfl rfl)
theorem dX2_encryptBlock_173 : decode cX2_encryptBlock 173 = .ok (.iadd, 1) := dk_96 (dk_at dksX2_encryptBlock_7 8 rfl rfl)
theorem dX2_encryptBlock_174 : decode cX2_encryptBlock 174 = .ok (.ixor, 1) := dk_130 (dk_at dksX2_encryptBlock_7 9 rfl rfl)
theorem dX2_encryptBlock_175 : decode cX2_encryptBlock 175 = .ok (.istore 7, 2) := dk_54 7 (dk_at dksX2_encryptBlock_7 10 rfl rfl)
theorem dX2_encryptBlock_177 : decode cX2_encryptBlock 177 = .ok (.aload_n 0, 1) := dk_42 (dk_at dksX2_encryptBlock_7 12 rfl rfl)
theorem dX2_encryptBlock_178 : decode cX2_encryptBlock 178 = .ok (.iload 9, 2) := dk_21 9 (dk_at dksX2_encryptBlock_7 13 rfl rfl)
theorem dX2_encryptBlock_180 : decode cX2_encryptBlock 180 = .ok (.iload 5, 2) := dk_21 5 (dk_at dksX2_encryptBlock_7 15 rfl rfl)
theorem dX2_encryptBlock_182 : decode cX2_encryptBlock 182 = .ok (.invokevirtual 65, 3) := dk_182 0 65 (dk_at dksX2_encryptBlock_7 17 rfl rfl)
theorem dX2_encryptBlock_185 : decode cX2_encryptBlock 185 = .ok (.istore 6, 2) := dk_54 6 (dk_at dksX2_encryptBlock_7 20 rfl rfl)
theorem dX2_encryptBlock_187 : decode cX2_encryptBlock 187 = .ok (.iload 12, 2) := dk_21 12 (dk_at dksX2_encryptBlock_7 22 rfl rfl)
theorem dX2_encryptBlock_189 : decode cX2_encryptBlock 189 = .ok (.istore 5, 2) := dk_54 5 (dk_at dksX2_encryptBlock_8 0 rfl rfl)
theorem dX2_encryptBlock_191 : decode cX2_encryptBlock 191 = .ok (.iinc 9 1, 3) := dk_132 9 1 (dk_at dksX2_encryptBlock_8 2 rfl rfl)
theorem dX2_encryptBlock_194 : decode cX2_encryptBlock 194 = .ok (.iinc 11 1, 3) := dk_132 11 1 (dk_at dksX2_encryptBlock_8 5 rfl rfl)
theorem dX2_encryptBlock_197 : decode cX2_encryptBlock 197 = .ok (.goto (-47), 3) := dk_167 255 209 (dk_at dksX2_encryptBlock_8 8 rfl rfl)
theorem dX2_encryptBlock_200 : decode cX2_encryptBlock 200 = .ok (.iinc 10 1, 3) := dk_132 10 1 (dk_at dksX2_encryptBlock_8 11 rfl rfl)
theorem dX2_encryptBlock_203 : decode cX2_encryptBlock 203 = .ok (.goto (-115), 3) := dk_167 255 141 (dk_at dksX2_encryptBlock_8 14 rfl rfl)
theorem dX2_encryptBlock_206 : decode cX2_encryptBlock 206 = .ok (.aload_n 3, 1) := dk_45 (dk_at dksX2_encryptBlock_8 17 rfl rfl)
theorem dX2_encryptBlock_207 : decode cX2_encryptBlock 207 = .ok (.iload 4, 2) := dk_21 4 (dk_at dksX2_encryptBlock_8 18 rfl rfl)
theorem dX2_encryptBlock_209 : decode cX2_encryptBlock 209 = .ok (.iconst 0, 1) := dk_3 (dk_at dksX2_encryptBlock_8 20 rfl rfl)
theorem dX2_encryptBlock_210 : decode cX2_encryptBlock 210 = .ok (.iadd, 1) := dk_96 (dk_at dksX2_encryptBlock_8 21 rfl rfl)
theorem dX2_encryptBlock_211 : decode cX2_encryptBlock 211 = .ok (.iload 5, 2) := dk_21 5 (dk_at dksX2_encryptBlock_8 22 rfl rfl)
theorem dX2_encryptBlock_213 : decode cX2_encryptBlock 213 = .ok (.bipush 8, 2) := dk_16 8 (dk_at dksX2_encryptBlock_9 0 rfl rfl)
theorem dX2_encryptBlock_215 : decode cX2_encryptBlock 215 = .ok (.ishr, 1) := dk_122 (dk_at dksX2_encryptBlock_9 2 rfl rfl)
theorem dX2_encryptBlock_216 : decode cX2_encryptBlock 216 = .ok (.i2b, 1) := dk_145 (dk_at dksX2_encryptBlock_9 3 rfl rfl)
theorem dX2_encryptBlock_217 : decode cX2_encryptBlock 217 = .ok (.bastore, 1) := dk_84 (dk_at dksX2_encryptBlock_9 4 rfl rfl)
theorem dX2_encryptBlock_218 : decode cX2_encryptBlock 218 = .ok (.aload_n 3, 1) := dk_45 (dk_at dksX2_encryptBlock_9 5 rfl rfl)
theorem dX2_encryptBlock_219 : decode cX2_encryptBlock 219 = .ok (.iload 4, 2) := dk_21 4 (dk_at dksX2_encryptBlock_9 6 rfl rfl)
theorem dX2_encryptBlock_221 : decode cX2_encryptBlock 221 = .ok (.iconst 1, 1) := dk_4 (dk_at dksX2_encryptBlock_9 8 rfl rfl)
theorem dX2_encryptBlock_222 : decode cX2_encryptBlock 222 = .ok (.iadd, 1) := dk_96 (dk_at dksX2_encryptBlock_9 9 rfl rfl)
theorem dX2_encryptBlock_223 : decode cX2_encryptBlock 223 = .ok (.iload 5, 2) := dk_21 5 (dk_at dksX2_encryptBlock_9 10 rfl rfl)
theorem dX2_encryptBlock_225 : decode cX2_encryptBlock 225 = .ok (.i2b, 1) := dk_145 (dk_at dksX2_encryptBlock_9 12 rfl rfl)
theorem dX2_encryptBlock_226 : decode cX2_encryptBlock 226 = .ok (.bastore, 1) := dk_84 (dk_at dksX2_encryptBlock_9 13 rfl rfl)
theorem dX2_encryptBlock_227 : decode cX2_encryptBlock 227 = .ok (.aload_n 3, 1) := dk_45 (dk_at dksX2_encryptBlock_9 14 rfl rfl)
theorem dX2_encryptBlock_228 : decode cX2_encryptBlock 228 = .ok (.iload 4, 2) := dk_21 4 (dk_at dksX2_encryptBlock_9 15 rfl rfl)
theorem dX2_encryptBlock_230 : decode cX2_encryptBlock 230 = .ok (.iconst 2, 1) := dk_5 (dk_at dksX2_encryptBlock_9 17 rfl rfl)
theorem dX2_encryptBlock_231 : decode cX2_encryptBlock 231 = .ok (.iadd, 1) := dk_96 (dk_at dksX2_encryptBlock_9 18 rfl rfl)
theorem dX2_encryptBlock_232 : decode cX2_encryptBlock 232 = .ok (.iload 6, 2) := dk_21 6 (dk_at dksX2_encryptBlock_9 19 rfl rfl)
theorem dX2_encryptBlock_234 : decode cX2_encryptBlock 234 = .ok (.bipush 8, 2) := dk_16 8 (dk_at dksX2_encryptBlock_9 21 rfl rfl)
theorem dX2_encryptBlock_236 : decode cX2_encryptBlock 236 = .ok (.ishr, 1) := dk_122 (dk_at dksX2_encryptBlock_9 23 rfl rfl)
theorem dX2_encryptBlock_237 : decode cX2_encryptBlock 237 = .ok (.i2b, 1) := dk_145 (dk_at dksX2_encryptBlock_10 0 rfl rfl)
theorem dX2_encryptBlock_238 : decode cX2_encryptBlock 238 = .ok (.bastore, 1) := dk_84 (dk_at dksX2_encryptBlock_10 1 rfl rfl)
theorem dX2_encryptBlock_239 : decode cX2_encryptBlock 239 = .ok (.aload_n 3, 1) := dk_45 (dk_at dksX2_encryptBlock_10 2 rfl rfl)
theorem dX2_encryptBlock_240 : decode cX2_encryptBlock 240 = .ok (.iload 4, 2) := dk_21 4 (dk_at dksX2_encryptBlock_10 3 rfl rfl)
theorem dX2_encryptBlock_242 : decode cX2_encryptBlock 242 = .ok (.iconst 3, 1) := dk_6 (dk_at dksX2_encryptBlock_10 5 rfl rfl)
theorem dX2_encryptBlock_243 : decode cX2_encryptBlock 243 = .ok (.iadd, 1) := dk_96 (dk_at dksX2_encryptBlock_10 6 rfl rfl)
theorem dX2_encryptBlock_244 : decode cX2_encryptBlock 244 = .ok (.iload 6, 2) := dk_21 6 (dk_at dksX2_encryptBlock_10 7 rfl rfl)
theorem dX2_encryptBlock_246 : decode cX2_encryptBlock 246 = .ok (.i2b, 1) := dk_145 (dk_at dksX2_encryptBlock_10 9 rfl rfl)
theorem dX2_encryptBlock_247 : decode cX2_encryptBlock 247 = .ok (.bastore, 1) := dk_84 (dk_at dksX2_encryptBlock_10 10 rfl rfl)
theorem dX2_encryptBlock_248 : decode cX2_encryptBlock 248 = .ok (.aload_n 3, 1) := dk_45 (dk_at dksX2_encryptBlock_10 11 rfl rfl)
theorem dX2_encryptBlock_249 : decode cX2_encryptBlock 249 = .ok (.iload 4, 2) := dk_21 4 (dk_at dksX2_encryptBlock_10 12 rfl rfl)
theorem dX2_encryptBlock_251 : decode cX2_encryptBlock 251 = .ok (.iconst 4, 1) := dk_7 (dk_at dksX2_encryptBlock_10 14 rfl rfl)
theorem dX2_encryptBlock_252 : decode cX2_encryptBlock 252 = .ok (.iadd, 1) := dk_96 (dk_at dksX2_encryptBlock_10 15 rfl rfl)
theorem dX2_encryptBlock_253 : decode cX2_encryptBlock 253 = .ok (.iload 7, 2) := dk_21 7 (dk_at dksX2_encryptBlock_10 16 rfl rfl)
theorem dX2_encryptBlock_255 : decode cX2_encryptBlock 255 = .ok (.bipush 8, 2) := dk_16 8 (dk_at dksX2_encryptBlock_10 18 rfl rfl)
theorem dX2_encryptBlock_257 : decode cX2_encryptBlock 257 = .ok (.ishr, 1) := dk_122 (dk_at dksX2_encryptBlock_10 20 rfl rfl)
theorem dX2_encryptBlock_258 : decode cX2_encryptBlock 258 = .ok (.i2b, 1) := dk_145 (dk_at dksX2_encryptBlock_10 21 rfl rfl)
theorem dX2_encryptBlock_259 : decode cX2_encryptBlock 259 = .ok (.bastore, 1) := dk_84 (dk_at dksX2_encryptBlock_10 22 rfl rfl)
theorem dX2_encryptBlock_260 : decode cX2_encryptBlock 260 = .ok (.aload_n 3, 1) := dk_45 (dk_at dksX2_encryptBlock_10 23 rfl rfl)
theorem dX2_encryptBlock_261 : decode cX2_encryptBlock 261 = .ok (.iload 4, 2) := dk_21 4 (dk_at dksX2_encryptBlock_11 0 rfl rfl)
theorem dX2_encryptBlock_263 : decode cX2_encryptBlock 263 = .ok (.iconst 5, 1) := dk_8 (dk_at dksX2_encryptBlock_11 2 rfl rfl)
theorem dX2_encryptBlock_264 : decode cX2_encryptBlock 264 = .ok (.iadd, 1) := dk_96 (dk_at dksX2_encryptBlock_11 3 rfl rfl)
theorem dX2_encryptBlock_265 : decode cX2_encryptBlock 265 = .ok (.iload 7, 2) := dk_21 7 (dk_at dksX2_encryptBlock_11 4 rfl rfl)
theorem dX2_encryptBlock_267 : decode cX2_encryptBlock 267 = .ok (.i2b, 1) := dk_145 (dk_at dksX2_encryptBlock_11 6 rfl rfl)
theorem dX2_encryptBlock_268 : decode cX2_encryptBlock 268 = .ok (.bastore, 1) := dk_84 (dk_at dksX2_encryptBlock_11 7 rfl rfl)
theorem dX2_encryptBlock_269 : decode cX2_encryptBlock 269 = .ok (.aload_n 3, 1) := dk_45 (dk_at dksX2_encryptBlock_11 8 rfl rfl)
theorem dX2_encryptBlock_270 : decode cX2_encryptBlock 270 = .ok (.iload 4, 2) := dk_21 4 (dk_at dksX2_encryptBlock_11 9 rfl rfl)
theorem dX2_encryptBlock_272 : decode cX2_encryptBlock 272 = .ok (.bipush 6, 2) := dk_16 6 (dk_at dksX2_encryptBlock_11 11 rfl rfl)
theorem dX2_encryptBlock_274 : decode cX2_encryptBlock 274 = .ok (.iadd, 1) := dk_96 (dk_at dksX2_encryptBlock_11 13 rfl rfl)
theorem dX2_encryptBlock_275 : decode cX2_encryptBlock 275 = .ok (.iload 8, 2) := dk_21 8 (dk_at dksX2_encryptBlock_11 14 rfl rfl)
theorem dX2_encryptBlock_277 : decode cX2_encryptBlock 277 = .ok (.bipush 8, 2) := dk_16 8 (dk_at dksX2_encryptBlock_11 16 rfl rfl)
theorem dX2_encryptBlock_279 : decode cX2_encryptBlock 279 = .ok (.ishr, 1) := dk_122 (dk_at dksX2_encryptBlock_11 18 rfl rfl)
theorem dX2_encryptBlock_280 : decode cX2_encryptBlock 280 = .ok (.i2b, 1) := dk_145 (dk_at dksX2_encryptBlock_11 19 rfl rfl)
theorem dX2_encryptBlock_281 : decode cX2_encryptBlock 281 = .ok (.bastore, 1) := dk_84 (dk_at dksX2_encryptBlock_11 20 rfl rfl)
theorem dX2_encryptBlock_282 : decode cX2_encryptBlock 282 = .ok (.aload_n 3, 1) := dk_45 (dk_at dksX2_encryptBlock_11 21 rfl rfl)
theorem dX2_encryptBlock_283 : decode cX2_encryptBlock 283 = .ok (.iload 4, 2) := dk_21 4 (dk_at dksX2_encryptBlock_11 22 rfl rfl)
theorem dX2_encryptBlock_285 : decode cX2_encryptBlock 285 = .ok (.bipush 7, 2) := dk_16 7 (dk_at dksX2_encryptBlock_12 0 rfl rfl)
theorem dX2_encryptBlock_287 : decode cX2_encryptBlock 287 = .ok (.iadd, 1) := dk_96 (dk_at dksX2_encryptBlock_12 2 rfl rfl)
theorem dX2_encryptBlock_288 : decode cX2_encryptBlock 288 = .ok (.iload 8, 2) := dk_21 8 (dk_at dksX2_encryptBlock_12 3 rfl rfl)
theorem dX2_encryptBlock_290 : decode cX2_encryptBlock 290 = .ok (.i2b, 1) := dk_145 (dk_at dksX2_encryptBlock_12 5 rfl rfl)
theorem dX2_encryptBlock_291 : decode cX2_encryptBlock 291 = .ok (.bastore, 1) := dk_84 (dk_at dksX2_encryptBlock_12 6 rfl rfl)
theorem dX2_encryptBlock_292 : decode cX2_encryptBlock 292 = .ok (.bipush 8, 2) := dk_16 8 (dk_at dksX2_encryptBlock_12 7 rfl rfl)
theorem dX2_encryptBlock_294 : decode cX2_encryptBlock 294 = .ok (.ireturn, 1) := dk_172 (dk_at dksX2_encryptBlock_12 9 rfl rfl)
abbrev cX2_g : ByteArray := prog_9_method_4_code
def yX2_g : MethodName := ⟨RX2, "g", "(II)I"⟩
def dkwX2_g_4 : List UInt8 := [21, 8, 96, 172]
abbrev dktX2_g_4 : List UInt8 := dkwX2_g_4 ++ []
def dkwX2_g_3 : List UInt8 := [178, 0, 61, 21, 7, 42, 180, 0, 36, 27, 46, 130, 53, 21, 6, 130, 54, 8, 21, 7, 16, 8, 120]
abbrev dktX2_g_3 : List UInt8 := dkwX2_g_3 ++ dktX2_g_4
def dkwX2_g_2 : List UInt8 := [21, 4, 130, 54, 6, 178, 0, 61, 21, 6, 42, 180, 0, 33, 27, 46, 130, 53, 21, 5, 130, 54, 7]
abbrev dktX2_g_2 : List UInt8 := dkwX2_g_2 ++ dktX2_g_3
def dkwX2_g_1 : List UInt8 := [180, 0, 26, 27, 46, 130, 53, 29, 130, 54, 5, 178, 0, 61, 21, 5, 42, 180, 0, 30, 27, 46, 130, 53]
abbrev dktX2_g_1 : List UInt8 := dkwX2_g_1 ++ dktX2_g_2
def dkwX2_g_0 : List UInt8 := [28, 16, 8, 122, 17, 0, 255, 126, 62, 28, 17, 0, 255, 126, 54, 4, 178, 0, 61, 21, 4, 42]
abbrev dktX2_g_0 : List UInt8 := dkwX2_g_0 ++ dktX2_g_1
theorem dksX2_g_0 : cX2_g.data.toList.drop 0 = dktX2_g_0 := by decide +kernel
theorem dksX2_g_1 : cX2_g.data.toList.drop 22 = dktX2_g_1 := dk_seg dksX2_g_0 22 rfl rfl
theorem dksX2_g_2 : cX2_g.data.toList.drop 46 = dktX2_g_2 := dk_seg dksX2_g_1 24 rfl rfl
theorem dksX2_g_3 : cX2_g.data.toList.drop 69 = dktX2_g_3 := dk_seg dksX2_g_2 23 rfl rfl
theorem dksX2_g_4 : cX2_g.data.toList.drop 92 = dktX2_g_4 := dk_seg dksX2_g_3 23 rfl rfl
theorem dX2_g_0 : decode cX2_g 0 = .ok (.iload_n 2, 1) := dk_28 (dk_at dksX2_g_0 0 rfl rfl)
theorem dX2_g_1 : decode cX2_g 1 = .ok (.bipush 8, 2) := dk_16 8 (dk_at dksX2_g_0 1 rfl rfl)
theorem dX2_g_3 : decode cX2_g 3 = .ok (.ishr, 1) := dk_122 (dk_at dksX2_g_0 3 rfl rfl)
theorem dX2_g_4 : decode cX2_g 4 = .ok (.sipush 255, 3) := dk_17 0 255 (dk_at dksX2_g_0 4 rfl rfl)
theorem dX2_g_7 : decode cX2_g 7 = .ok (.iand, 1) := dk_126 (dk_at dksX2_g_0 7 rfl rfl)
theorem dX2_g_8 : decode cX2_g 8 = .ok (.istore_n 3, 1) := dk_62 (dk_at dksX2_g_0 8 rfl rfl)
theorem dX2_g_9 : decode cX2_g 9 = .ok (.iload_n 2, 1) := dk_28 (dk_at dksX2_g_0 9 rfl rfl)
theorem dX2_g_10 : decode cX2_g 10 = .ok (.sipush 255, 3) := dk_17 0 255 (dk_at dksX2_g_0 10 rfl rfl)
theorem dX2_g_13 : decode cX2_g 13 = .ok (.iand, 1) := dk_126 (dk_at dksX2_g_0 13 rfl rfl)
theorem dX2_g_14 : decode cX2_g 14 = .ok (.istore 4, 2) := dk_54 4 (dk_at dksX2_g_0 14 rfl rfl)
theorem dX2_g_16 : decode cX2_g 16 = .ok (.getstatic 61, 3) := dk_178 0 61 (dk_at dksX2_g_0 16 rfl rfl)
theorem dX2_g_19 : decode cX2_g 19 = .ok (.iload 4, 2) := dk_21 4 (dk_at dksX2_g_0 19 rfl rfl)
theorem dX2_g_21 : decode cX2_g 21 = .ok (.aload_n 0, 1) := dk_42 (dk_at dksX2_g_0 21 rfl rfl)
theorem dX2_g_22 : decode cX2_g 22 = .ok (.getfield 26, 3) := dk_180 0 26 (dk_at dksX2_g_1 0 rfl rfl)
theorem dX2_g_25 : decode cX2_g 25 = .ok (.iload_n 1, 1) := dk_27 (dk_at dksX2_g_1 3 rfl rfl)
theorem dX2_g_26 : decode cX2_g 26 = .ok (.iaload, 1) := dk_46 (dk_at dksX2_g_1 4 rfl rfl)
theorem dX2_g_27 : decode cX2_g 27 = .ok (.ixor, 1) := dk_130 (dk_at dksX2_g_1 5 rfl rfl)
theorem dX2_g_28 : decode cX2_g 28 = .ok (.saload, 1) := dk_53 (dk_at dksX2_g_1 6 rfl rfl)
theorem dX2_g_29 : decode cX2_g 29 = .ok (.iload_n 3, 1) := dk_29 (dk_at dksX2_g_1 7 rfl rfl)
theorem dX2_g_30 : decode cX2_g 30 = .ok (.ixor, 1) := dk_130 (dk_at dksX2_g_1 8 rfl rfl)
theorem dX2_g_31 : decode cX2_g 31 = .ok (.istore 5, 2) := dk_54 5 (dk_at dksX2_g_1 9 rfl rfl)
theorem dX2_g_33 : decode cX2_g 33 = .ok (.getstatic 61, 3) := dk_178 0 61 (dk_at dksX2_g_1 11 rfl rfl)
theorem dX2_g_36 : decode cX2_g 36 = .ok (.iload 5, 2) := dk_21 5 (dk_at dksX2_g_1 14 rfl rfl)
theorem dX2_g_38 : decode cX2_g 38 = .ok (.aload_n 0, 1) := dk_42 (dk_at dksX2_g_1 16 rfl rfl)
theorem dX2_g_39 : decode cX2_g 39 = .ok (.getfield 30, 3) := dk_180 0 30 (dk_at dksX2_g_1 17 rfl rfl)
theorem dX2_g_42 : decode cX2_g 42 = .ok (.iload_n 1, 1) := dk_27 (dk_at dksX2_g_1 20 rfl rfl)
theorem dX2_g_43 : decode cX2_g 43 = .ok (.iaload, 1) := dk_46 (dk_at dksX2_g_1 21 rfl rfl)
theorem dX2_g_44 : decode cX2_g 44 = .ok (.ixor, 1) := dk_130 (dk_at dksX2_g_1 22 rfl rfl)
theorem dX2_g_45 : decode cX2_g 45 = .ok (.saload, 1) := dk_53 (dk_at dksX2_g_1 23 rfl rfl)
theorem dX2_g_46 : decode cX2_g 46 = .ok (.iload 4, 2) := dk_21 4 (dk_at dksX2_g_2 0 rfl rfl)
theorem dX2_g_48 : decode cX2_g 48 = .ok (.ixor, 1) := dk_130 (dk_at dksX2_g_2 2 rfl rfl)
theorem dX2_g_49 : decode cX2_g 49 = .ok (.istore 6, 2) := dk_54 6 (dk_at dksX2_g_2 3 rfl rfl)
theorem dX2_g_51 : decode cX2_g 51 = .ok (.getstatic 61, 3) := dk_178 0 61 (dk_at dksX2_g_2 5 rfl rfl)
theorem dX2_g_54 : decode cX2_g 54 = .ok (.iload 6, 2) := dk_21 6 (dk_at dksX2_g_2 8 rfl rfl)
theorem dX2_g_56 : decode cX2_g 56 = .ok (.aload_n 0, 1) := dk_42 (dk_at dksX2_g_2 10 rfl rfl)
theorem dX2_g_57 : decode cX2_g 57 = .ok (.getfield 33, 3) := dk_180 0 33 (dk_at dksX2_g_2 11 rfl rfl)
theorem dX2_g_60 : decode cX2_g 60 = .ok (.iload_n 1, 1) := dk_27 (dk_at dksX2_g_2 14 rfl rfl)
theorem dX2_g_61 : decode cX2_g 61 = .ok (.iaload, 1) := dk_46 (dk_at dksX2_g_2 15 rfl rfl)
theorem dX2_g_62 : decode cX2_g 62 = .ok (.ixor, 1) := dk_130 (dk_at dksX2_g_2 16 rfl rfl)
theorem dX2_g_63 : decode cX2_g 63 = .ok (.saload, 1) := dk_53 (dk_at dksX2_g_2 17 rfl rfl)
theorem dX2_g_64 : decode cX2_g 64 = .ok (.iload 5, 2) := dk_21 5 (dk_at dksX2_g_2 18 rfl rfl)
theorem dX2_g_66 : decode cX2_g 66 = .ok (.ixor, 1) := dk_130 (dk_at dksX2_g_2 20 rfl rfl)
theorem dX2_g_67 : decode cX2_g 67 = .ok (.istore 7, 2) := dk_54 7 (dk_at dksX2_g_2 21 rfl rfl)
theorem dX2_g_69 : decode cX2_g 69 = .ok (.getstatic 61, 3) := dk_178 0 61 (dk_at dksX2_g_3 0 rfl rfl)
theorem dX2_g_72 : decode cX2_g 72 = .ok (.iload 7, 2) := dk_21 7 (dk_at dksX2_g_3 3 rfl rfl)
theorem dX2_g_74 : decode cX2_g 74 = .ok (.aload_n 0, 1) := dk_42 (dk_at dksX2_g_3 5 rfl rfl)
theorem dX2_g_75 : decode cX2_g 75 = .ok (.getfield 36, 3) := dk_180 0 36 (dk_at dksX2_g_3 6 rfl rfl)
theorem dX2_g_78 : decode cX2_g 78 = .ok (.iload_n 1, 1) := dk_27 (dk_at dksX2_g_3 9 rfl rfl)
theorem dX2_g_79 : decode cX2_g 79 = .ok (.iaload, 1) := dk_46 (dk_at dksX2_g_3 10 rfl rfl)
theorem dX2_g_80 : decode cX2_g 80 = .ok (.ixor, 1) := dk_130 (dk_at dksX2_g_3 11 rfl rfl)
theorem dX2_g_81 : decode cX2_g 81 = .ok (.saload, 1) := dk_53 (dk_at dksX2_g_3 12 rfl rfl)
theorem dX2_g_82 : decode cX2_g 82 = .ok (.iload 6, 2) := dk_21 6 (dk_at dksX2_g_3 13 rfl rfl)
theorem dX2_g_84 : decode cX2_g 84 = .ok (.ixor, 1) := dk_130 (dk_at dksX2_g_3 15 rfl rfl)
theorem dX2_g_85 : decode cX2_g 85 = .ok (.istore 8, 2) := dk_54 8 (dk_at dksX2_g_3 16 rfl rfl)
theorem dX2_g_87 : decode cX2_g 87 = .ok (.iload 7, 2) := dk_21 7 (dk_at dksX2_g_3 18 rfl rfl)
theorem dX2_g_89 : decode cX2_g 89 = .ok (.bipush 8, 2) := dk_16 8 (dk_at dksX2_g_3 20 rfl rfl)
theorem dX2_g_91 : decode cX2_g 91 = .ok (.ishl, 1) := dk_120 (dk_at dksX2_g_3 22 rfl rfl)
theorem dX2_g_92 : decode cX2_g 92 = .ok (.iload 8, 2) := dk_21 8 (dk_at dksX2_g_4 0 rfl rfl)
theorem dX2_g_94 : decode cX2_g 94 = .ok (.iadd, 1) := dk_96 (dk_at dksX2_g_4 2 rfl rfl)
theorem dX2_g_95 : decode cX2_g 95 = .ok (.ireturn, 1) := dk_172 (dk_at dksX2_g_4 3 rfl rfl)
abbrev cX2_decryptBlock : ByteArray := prog_9_method_7_code
def yX2_decryptBlock : MethodName := ⟨RX2, "decryptBlock", "([BI[BI)I"⟩
def dkwX2_decryptBlock_12 : List UInt8 := [16, 7, 96, 21, 8, 145, 84, 16, 8, 172]
abbrev dktX2_decryptBlock_12 : List UInt8 := dkwX2_decryptBlock_12 ++ []
def dkwX2_decryptBlock_11 : List UInt8 := [21, 4, 8, 96, 21, 7, 145, 84, 45, 21, 4, 16, 6, 96, 21, 8, 16, 8, 122, 145, 84, 45, 21, 4]
abbrev dktX2_decryptBlock_11 : List UInt8 := dkwX2_decryptBlock_11 ++ dktX2_decryptBlock_12
def dkwX2_decryptBlock_10 : List UInt8 := [145, 84, 45, 21, 4, 6, 96, 21, 6, 145, 84, 45, 21, 4, 7, 96, 21, 7, 16, 8, 122, 145, 84, 45]
abbrev dktX2_decryptBlock_10 : List UInt8 := dkwX2_decryptBlock_10 ++ dktX2_decryptBlock_11
def dkwX2_decryptBlock_9 : List UInt8 := [16, 8, 122, 145, 84, 45, 21, 4, 4, 96, 21, 5, 145, 84, 45, 21, 4, 5, 96, 21, 6, 16, 8, 122]
abbrev dktX2_decryptBlock_9 : List UInt8 := dkwX2_decryptBlock_9 ++ dktX2_decryptBlock_10
def dkwX2_decryptBlock_8 : List UInt8 := [54, 6, 132, 9, 255, 132, 11, 1, 167, 255, 209, 132, 10, 1, 167, 255, 141, 45, 21, 4, 3, 96, 21, 5]
abbrev dktX2_decryptBlock_8 : List UInt8 := dkwX2_decryptBlock_8 ++ dktX2_decryptBlock_9
def dkwX2_decryptBlock_7 : List UInt8 := [21, 6, 21, 5, 130, 21, 9, 4, 96, 130, 54, 8, 42, 21, 9, 21, 6, 182, 0, 69, 54, 5, 21, 12]
abbrev dktX2_decryptBlock_7 : List UInt8 := dkwX2_decryptBlock_7 ++ dktX2_decryptBlock_8
def dkwX2_decryptBlock_6 : List UInt8 := [132, 11, 1, 167, 255, 209, 3, 54, 11, 21, 11, 16, 8, 162, 0, 46, 21, 7, 54, 12, 21, 8, 54, 7]
abbrev dktX2_decryptBlock_6 : List UInt8 := dkwX2_decryptBlock_6 ++ dktX2_decryptBlock_7
def dkwX2_decryptBlock_5 : List UInt8 := [21, 9, 21, 6, 182, 0, 69, 54, 5, 21, 5, 21, 12, 130, 21, 9, 4, 96, 130, 54, 6, 132, 9, 255]
abbrev dktX2_decryptBlock_5 : List UInt8 := dkwX2_decryptBlock_5 ++ dktX2_decryptBlock_6
def dkwX2_decryptBlock_4 : List UInt8 := [3, 54, 11, 21, 11, 16, 8, 162, 0, 46, 21, 7, 54, 12, 21, 8, 54, 7, 21, 5, 54, 8, 42]
abbrev dktX2_decryptBlock_4 : List UInt8 := dkwX2_decryptBlock_4 ++ dktX2_decryptBlock_5
def dkwX2_decryptBlock_3 : List UInt8 := [16, 7, 96, 51, 17, 0, 255, 126, 96, 54, 8, 16, 31, 54, 9, 3, 54, 10, 21, 10, 5, 162, 0, 115]
abbrev dktX2_decryptBlock_3 : List UInt8 := dkwX2_decryptBlock_3 ++ dktX2_decryptBlock_4
def dkwX2_decryptBlock_2 : List UInt8 := [43, 28, 8, 96, 51, 17, 0, 255, 126, 96, 54, 7, 43, 28, 16, 6, 96, 51, 16, 8, 120, 43, 28]
abbrev dktX2_decryptBlock_2 : List UInt8 := dkwX2_decryptBlock_2 ++ dktX2_decryptBlock_3
def dkwX2_decryptBlock_1 : List UInt8 := [51, 16, 8, 120, 43, 28, 6, 96, 51, 17, 0, 255, 126, 96, 54, 6, 43, 28, 7, 96, 51, 16, 8, 120]
abbrev dktX2_decryptBlock_1 : List UInt8 := dkwX2_decryptBlock_1 ++ dktX2_decryptBlock_2
def dkwX2_decryptBlock_0 : List UInt8 := [43, 28, 3, 96, 51, 16, 8, 120, 43, 28, 4, 96, 51, 17, 0, 255, 126, 96, 54, 5, 43, 28, 5, 96]
abbrev dktX2_decryptBlock_0 : List UInt8 := dkwX2_decryptBlock_0 ++ dktX2_decryptBlock_1
theorem dksX2_decryptBlock_0 : cX2_decryptBlock.data.toList.drop 0 = dktX2_decryptBlock_0 := by decide +kernel
theorem dksX2_decryptBlock_1 : cX2_decryptBlock.data.toList.drop 24 = dktX2_decryptBlock_1 := dk_seg dksX2_decryptBlock_0 24 rfl rfl
theorem dksX2_decryptBlock_2 : cX2_decryptBlock.data.toList.drop 48 = dktX2_decryptBlock_2 := dk_seg dksX2_decryptBlock_1 24 rfl rfl
theorem dksX2_decryptBlock_3 : cX2_decryptBlock.data.toList.drop 71 = dktX2_decryptBlock_3 := dk_seg dksX2_decryptBlock_2 23 rfl rfl
theorem dksX2_decryptBlock_4 : cX2_decryptBlock.data.toList.drop 95 = dktX2_decryptBlock_4 := dk_seg dksX2_decryptBlock_3 24 rfl rfl
theorem dksX2_decryptBlock_5 : cX2_decryptBlock.data.toList.drop 118 = dktX2_decryptBlock_5 := dk_seg dksX2_decryptBlock_4 23 rfl rfl
theorem dksX2_decryptBlock_6 : cX2_decryptBlock.data.toList.drop 142 = dktX2_decryptBlock_6 := dk_seg dksX2_decryptBlock_5 24 rfl rfl
theorem dksX2_decryptBlock_7 : cX2_decryptBlock.data.toList.drop 166 = dktX2_decryptBlock_7 := dk_seg dksX2_decryptBlock_6 24 rfl rfl
theorem dksX2_decryptBlock_8 : cX2_decryptBlock.data.toList.drop 190 = dktX2_decryptBlock_8 := dk_seg dksX2_decryptBlock_7 24 rfl rfl
theorem dksX2_decryptBlock_9 : cX2_decryptBlock.data.toList.drop 214 = dktX2_decryptBlock_9 := dk_seg dksX2_decryptBlock_8 24 rfl rfl
theorem dksX2_decryptBlock_10 : cX2_decryptBlock.data.toList.drop 238 = dktX2_decryptBlock_10 := dk_seg dksX2_decryptBlock_9 24 rfl rfl
theorem dksX2_decryptBlock_11 : cX2_decryptBlock.data.toList.drop 262 = dktX2_decryptBlock_11 := dk_seg dksX2_decryptBlock_10 24 rfl rfl
theorem dksX2_decryptBlock_12 : cX2_decryptBlock.data.toList.drop 286 = dktX2_decryptBlock_12 := dk_seg dksX2_decryptBlock_11 24 rfl rfl
theorem dX2_decryptBlock_0 : decode cX2_decryptBlock 0 = .ok (.aload_n 1, 1) := dk_43 (dk_at dksX2_decryptBlock_0 0 rfl rfl)
theorem dX2_decryptBlock_1 : decode cX2_decryptBlock 1 = .ok (.iload_n 2, 1) := dk_28 (dk_at dksX2_decryptBlock_0 1 rfl rfl)
theorem dX2_decryptBlock_2 : decode cX2_decryptBlock 2 = .ok (.iconst 0, 1) := dk_3 (dk_at dksX2_decryptBlock_0 2 rfl rfl)
theorem dX2_decryptBlock_3 : decode cX2_decryptBlock 3 = .ok (.iadd, 1) := dk_96 (dk_at dksX2_decryptBlock_0 3 rfl rfl)
theorem dX2_decryptBlock_4 : decode cX2_decryptBlock 4 = .ok (.baload, 1) := dk_51 (dk_at dksX2_decryptBlock_0 4 rfl rfl)
theorem dX2_decryptBlock_5 : decode cX2_decryptBlock 5 = .ok (.bipush 8, 2) := dk_16 8 (dk_at dksX2_decryptBlock_0 5 rfl rfl)
theorem dX2_decryptBlock_7 : decode cX2_decryptBlock 7 = .ok (.ishl, 1) := dk_120 (dk_at dksX2_decryptBlock_0 7 rfl rfl)
theorem dX2_decryptBlock_8 : decode cX2_decryptBlock 8 = .ok (.aload_n 1, 1) := dk_43 (dk_at dksX2_decryptBlock_0 8 rfl rfl)
theorem dX2_decryptBlock_9 : decode cX2_decryptBlock 9 = .ok (.iload_n 2, 1) := dk_28 (dk_at dksX2_decryptBlock_0 9 rfl rfl)
theorem dX2_decryptBlock_10 : decode cX2_decryptBlock 10 = .ok (.iconst 1, 1) := dk_4 (dk_at dksX2_decryptBlock_0 10 rfl rfl)
theorem dX2_decryptBlock_11 : decode cX2_decryptBlock 11 = .ok (.iadd, 1) := dk_96 (dk_at dksX2_decryptBlock_0 11 rfl rfl)
theorem dX2_decryptBlock_12 : decode cX2_decryptBlock 12 = .ok (.baload, 1) := dk_51 (dk_at dksX2_decryptBlock_0 12 rfl rfl)
theorem dX2_decryptBlock_13 : decode cX2_decryptBlock 13 = .ok (.sipush 255, 3) := dk_17 0 255 (dk_at dksX2_decryptBlock_0 13 rfl rfl)
theorem dX2_decryptBlock_16 : decode cX2_decryptBlock 16 = .ok (.iand, 1) := dk_126 (dk_at dksX2_decryptBlock_0 16 rfl rfl)
theorem dX2_decryptBlock_17 : decode cX2_decryptBlock 17 = .ok (.iadd, 1) := dk_96 (dk_at dksX2_decryptBlock_0 17 rfl rfl)
theorem dX2_decryptBlock_18 : decode cX2_decryptBlock 18 = .ok (.istore 5, 2) := dk_54 5 (dk_at dksX2_decryptBlock_0 18 rfl rfl)
theorem dX2_decryptBlock_20 : decode cX2_decryptBlock 20 = .ok (.aload_n 1, 1) := dk_43 (dk_at dksX2_decryptBlock_0 20 rfl rfl)
theorem dX2_decryptBlock_21 : decode cX2_decryptBlock 21 = .ok (.iload_n 2, 1) := dk_28 (dk_at dksX2_decryptBlock_0 21 rfl rfl)
theorem dX2_decryptBlock_22 : decode cX2_decryptBlock 22 = .ok (.iconst 2, 1) := dk_5 (dk_at dksX2_decryptBlock_0 22 rfl rfl)
theorem dX2_decryptBlock_23 : decode cX2_decryptBlock 23 = .ok (.iadd, 1) := dk_96 (dk_at dksX2_decryptBlock_0 23 rfl rfl)
theorem dX2_decryptBlock_24 : decode cX2_decryptBlock 24 = .ok (.baload, 1) := dk_51 (dk_at dksX2_decryptBlock_1 0 rfl rfl)
theorem dX2_decryptBlock_25 : decode cX2_decryptBlock 25 = .ok (.bipush 8, 2) := dk_16 8 (dk_at dksX2_decryptBlock_1 1 rfl rfl)
theorem dX2_decryptBlock_27 : decode cX2_decryptBlock 27 = .ok (.ishl, 1) := dk_120 (dk_at dksX2_decryptBlock_1 3 rfl rfl)
theorem dX2_decryptBlock_28 : decode cX2_decryptBlock 28 = .ok (.aload_n 1, 1) := dk_43 (dk_at dksX2_decryptBlock_1 4 rfl rfl)
theorem dX2_decryptBlock_29 : decode cX2_decryptBlock 29 = .ok (.iload_n 2, 1) := dk_28 (dk_at dksX2_decryptBlock_1 5 rfl rfl)
theorem dX2_decryptBlock_30 : decode cX2_decryptBlock 30 = .ok (.iconst 3, 1) := dk_6 (dk_at dksX2_decryptBlock_1 6 rfl rfl)
theorem dX2_decryptBlock_31 : decode cX2_decryptBlock 31 = .ok (.iadd, 1) := dk_96 (dk_at dksX2_decryptBlock_1 7 rfl rfl)
theorem dX2_decryptBlock_32 : decode cX2_decryptBlock 32 = .ok (.baload, 1) := dk_51 (dk_at dksX2_decryptBlock_1 8 rfl rfl)
theorem dX2_decryptBlock_33 : decode cX2_decryptBlock 33 = .ok (.sipush 255, 3) := dk_17 0 255 (dk_at dksX2_decryptBlock_1 9 rfl rfl)
theorem dX2_decryptBlock_36 : decode cX2_decryptBlock 36 = .ok (.iand, 1) := dk_126 (dk_at dksX2_decryptBlock_1 12 rfl rfl)
theorem dX2_decryptBlock_37 : decode cX2_decryptBlock 37 = .ok (.iadd, 1) := dk_96 (dk_at dksX2_decryptBlock_1 13 rfl rfl)
theorem dX2_decryptBlock_38 : decode cX2_decryptBlock 38 = .ok (.istore 6, 2) := dk_54 6 (dk_at dksX2_decryptBlock_1 14 rfl rfl)
theorem dX2_decryptBlock_40 : decode cX2_decryptBlock 40 = .ok (.aload_n 1, 1) := dk_43 (dk_at dksX2_decryptBlock_1 16 rfl rfl)
theorem dX2_decryptBlock_41 : decode cX2_decryptBlock 41 = .ok (.iload_n 2, 1) := dk_28 (dk_at dksX2_decryptBlock_1 17 rfl rfl)
theorem dX2_decryptBlock_42 : decode cX2_decryptBlock 42 = .ok (.iconst 4, 1) := dk_7 (dk_at dksX2_decryptBlock_1 18 rfl rfl)
theorem dX2_decryptBlock_43 : decode cX2_decryptBlock 43 = .ok (.iadd, 1) := dk_96 (dk_at dksX2_decryptBlock_1 19 rfl rfl)
theorem dX2_decryptBlock_44 : decode cX2_decryptBlock 44 = .ok (.baload, 1) := dk_51 (dk_at dksX2_decryptBlock_1 20 rfl rfl)
theorem dX2_decryptBlock_45 : decode cX2_decryptBlock 45 = .ok (.bipush 8, 2) := dk_16 8 (dk_at dksX2_decryptBlock_1 21 rfl rfl)
theorem dX2_decryptBlock_47 : decode cX2_decryptBlock 47 = .ok (.ishl, 1) := dk_120 (dk_at dksX2_decryptBlock_1 23 rfl rfl)
theorem dX2_decryptBlock_48 : decode cX2_decryptBlock 48 = .ok (.aload_n 1, 1) := dk_43 (dk_at dksX2_decryptBlock_2 0 rfl rfl)
theorem dX2_decryptBlock_49 : decode cX2_decryptBlock 49 = .ok (.iload_n 2, 1) := dk_28 (dk_at dksX2_decryptBlock_2 1 rfl rfl)
theorem dX2_decryptBlock_50 : decode cX2_decryptBlock 50 = .ok (.iconst 5, 1) := dk_8 (dk_at dksX2_decryptBlock_2 2 rfl rfl)
theorem dX2_decryptBlock_51 : decode cX2_decryptBlock 51 = .ok (.iadd, 1) := dk_96 (dk_at dksX2_decryptBlock_2 3 rfl rfl)
theorem dX2_decryptBlock_52 : decode cX2_decryptBlock 52 = .ok (.baload, 1) := dk_51 (dk_at dksX2_decryptBlock_2 4 rfl rfl)
theorem dX2_decryptBlock_53 : decode cX2_decryptBlock 53 = .ok (.sipush 255, 3) := dk_17 0 255 (dk_at dksX2_decryptBlock_2 5 rfl rfl)
theorem dX2_decryptBlock_56 : decode cX2_decryptBlock 56 = .ok (.iand, 1) := dk_126 (dk_at dksX2_decryptBlock_2 8 rfl rfl)
theorem dX2_decryptBlock_57 : decode cX2_decryptBlock 57 = .ok (.iadd, 1) := dk_96 (dk_at dksX2_decryptBlock_2 9 rfl rfl)
theorem dX2_decryptBlock_58 : decode cX2_decryptBlock 58 = .ok (.istore 7, 2) := dk_54 7 (dk_at dksX2_decryptBlock_2 10 rfl rfl)
theorem dX2_decryptBlock_60 : decode cX2_decryptBlock 60 = .ok (.aload_n 1, 1) := dk_43 (dk_at dksX2_decryptBlock_2 12 rfl rfl)
theorem dX2_decryptBlock_61 : decode cX2_decryptBlock 61 = .ok (.iload_n 2, 1) := dk_28 (dk_at dksX2_decryptBlock_2 13 rfl rfl)
theorem dX2_decryptBlock_62 : decode cX2_decryptBlock 62 = .ok (.bipush 6, 2) := dk_16 6 (dk_at dksX2_decryptBlock_2 14 rfl rfl)
theorem dX2_decryptBlock_64 : decode cX2_decryptBlock 64 = .ok (.iadd, 1) := dk_96 (dk_at dksX2_decryptBlock_2 16 rfl rfl)
theorem dX2_decryptBlock_65 : decode cX2_decryptBlock 65 = .ok (.baload, 1) := dk_51 (dk_at dksX2_decryptBlock_2 17 rfl rfl)
theorem dX2_decryptBlock_66 : decode cX2_decryptBlock 66 = .ok (.bipush 8, 2) := dk_16 8 (dk_at dksX2_decryptBlock_2 18 rfl rfl)
theorem dX2_decryptBlock_68 : decode cX2_decryptBlock 68 = .ok (.ishl, 1) := dk_120 (dk_at dksX2_decryptBlock_2 20 rfl rfl)
theorem dX2_decryptBlock_69 : decode cX2_decryptBlock 69 = .ok (.aload_n 1, 1) := dk_43 (dk_at dksX2_decryptBlock_2 21 rfl rfl)
theorem dX2_decryptBlock_70 : decode cX2_decryptBlock 70 = .ok (.iload_n 2, 1) := dk_28 (dk_at dksX2_decryptBlock_2 22 rfl rfl)
theorem dX2_decryptBlock_71 : decode cX2_decryptBlock 71 = .ok (.bipush 7, 2) := dk_16 7 (dk_at dksX2_decryptBlock_3 0 rfl rfl)
theorem dX2_decryptBlock_73 : decode cX2_decryptBlock 73 = .ok (.iadd, 1) := dk_96 (dk_at dksX2_decryptBlock_3 2 rfl rfl)
theorem dX2_decryptBlock_74 : decode cX2_decryptBlock 74 = .ok (.baload, 1) := dk_51 (dk_at dksX2_decryptBlock_3 3 rfl rfl)
theorem dX2_decryptBlock_75 : decode cX2_decryptBlock 75 = .ok (.sipush 255, 3) := dk_17 0 255 (dk_at dksX2_decryptBlock_3 4 rfl rfl)
theorem dX2_decryptBlock_78 : decode cX2_decryptBlock 78 = .ok (.iand, 1) := dk_126 (dk_at dksX2_decryptBlock_3 7 rfl rfl)
theorem dX2_decryptBlock_79 : decode cX2_decryptBlock 79 = .ok (.iadd, 1) := dk_96 (dk_at dksX2_decryptBlock_3 8 rfl rfl)
theorem dX2_decryptBlock_80 : decode cX2_decryptBlock 80 = .ok (.istore 8, 2) := dk_54 8 (dk_at dksX2_decryptBlock_3 9 rfl rfl)
theorem dX2_decryptBlock_82 : decode cX2_decryptBlock 82 = .ok (.bipush 31, 2) := dk_16 31 (dk_at dksX2_decryptBlock_3 11 rfl rfl)
theorem dX2_decryptBlock_84 : decode cX2_decryptBlock 84 = .ok (.istore 9, 2) := dk_54 9 (dk_at dksX2_decryptBlock_3 13 rfl rfl)
theorem dX2_decryptBlock_86 : decode cX2_decryptBlock 86 = .ok (.iconst 0, 1) := dk_3 (dk_at dksX2_decryptBlock_3 15 rfl rfl)
theorem dX2_decryptBlock_87 : decode cX2_decryptBlock 87 = .ok (.istore 10, 2) := dk_54 10 (dk_at dksX2_decryptBlock_3 16 rfl rfl)
theorem dX2_decryptBlock_89 : decode cX2_decryptBlock 89 = .ok (.iload 10, 2) := dk_21 10 (dk_at dksX2_decryptBlock_3 18 rfl rfl)
theorem dX2_decryptBlock_91 : decode cX2_decryptBlock 91 = .ok (.iconst 2, 1) := dk_5 (dk_at dksX2_decryptBlock_3 20 rfl rfl)
theorem dX2_decryptBlock_92 : decode cX2_decryptBlock 92 = .ok (.if_icmp .ge 115, 3) := dk_162 0 115 (dk_at dksX2_decryptBlock_3 21 rfl rfl)
theorem dX2_decryptBlock_95 : decode cX2_decryptBlock 95 = .ok (.iconst 0, 1) := dk_3 (dk_at dksX2_decryptBlock_4 0 rfl rfl)
theorem dX2_decryptBlock_96 : decode cX2_decryptBlock 96 = .ok (.istore 11, 2) := dk_54 11 (dk_at dksX2_decryptBlock_4 1 rfl rfl)
theorem dX2_decryptBlock_98 : decode cX2_decryptBlock 98 = .ok (.iload 11, 2) := dk_21 11 (dk_at dksX2_decryptBlock_4 3 rfl rfl)
theorem dX2_decryptBlock_100 : decode cX2_decryptBlock 100 = .ok (.bipush 8, 2) := dk_16 8 (dk_at dksX2_decryptBlock_4 5 rfl rfl)
theorem dX2_decryptBlock_102 : decode cX2_decryptBlock 102 = .ok (.if_icmp .ge 46, 3) := dk_162 0 46 (dk_at dksX2_decryptBlock_4 7 rfl rfl)
theorem dX2_decryptBlock_105 : decode cX2_decryptBlock 105 = .ok (.iload 7, 2) := dk_21 7 (dk_at dksX2_decryptBlock_4 10 rfl rfl)
theorem dX2_decryptBlock_107 : decode cX2_decryptBlock 107 = .ok (.istore 12, 2) := dk_54 12 (dk_at dksX2_decryptBlock_4 12 rfl rfl)
theorem dX2_decryptBlock_109 : decode cX2_decryptBlock 109 = .ok (.iload 8, 2) := dk_21 8 (dk_at dksX2_decryptBlock_4 14 rfl rfl)
theorem dX2_decryptBlock_111 : decode cX2_decryptBlock 111 = .ok (.istore 7, 2) := dk_54 7 (dk_at dksX2_decryptBlock_4 16 rfl rfl)
theorem dX2_decryptBlock_113 : decode cX2_decryptBlock 113 = .ok (.iload 5, 2) := dk_21 5 (dk_at dksX2_decryptBlock_4 18 rfl rfl)
theorem dX2_decryptBlock_115 : decode cX2_decryptBlock 115 = .ok (.istore 8, 2) := dk_54 8 (dk_at dksX2_decryptBlock_4 20 rfl rfl)
theorem dX2_decryptBlock_117 : decode cX2_decryptBlock 117 = .ok (.aload_n 0, 1) := dk_42 (dk_at dksX2_decryptBlock_4 22 rfl rfl)
theorem dX2_decryptBlock_118 : decode cX2_decryptBlock 118 = .ok (.iload 9, 2) := dk_21 9 (dk_at dksX2_decryptBlock_5 0 rfl rfl)
theorem dX2_decryptBlock_120 : decode cX2_decryptBlock 120 = .ok (.iload 6, 2) := dk_21 6 (dk_at dksX2_decryptBlock_5 2 rfl rfl)
theorem dX2_decryptBlock_122 : decode cX2_decryptBlock 122 = .ok (.invokevirtual 69, 3) := dk_182 0 69 (dk_at dksX2_decryptBlock_5 4 rfl rfl)
theorem dX2_decryptBlock_125 : decode cX2_decryptBlock 125 = .ok (.istore 5, 2) := dk_54 5 (dk_at dksX2_decryptBlock_5 7 rfl rfl)
theorem dX2_decryptBlock_127 : decode cX2_decryptBlock 127 = .ok (.iload 5, 2) := dk_21 5 (dk_at dksX2_decryptBlock_5 9 rfl rfl)
theorem dX2_decryptBlock_129 : decode cX2_decryptBlock 129 = .ok (.iload 12, 2) := dk_21 12 (dk_at dksX2_decryptBlock_5 11 rfl rfl)
theorem dX2_decryptBlock_131 : decode cX2_decryptBlock 131 = .ok (.ixor, 1) := dk_130 (dk_at dksX2_decryptBlock_5 13 rfl rfl)
theorem dX2_decryptBlock_132 : decode cX2_decryptBlock 132 = .ok (.iload 9, 2) := dk_21 9 (dk_at dksX2_decryptBlock_5 14 rfl rfl)
theorem dX2_decryptBlock_134 : decode cX2_decryptBlock 134 = .ok (.iconst 1, 1) := dk_4 (dk_at dksX2_decryptBlock_5 16 rfl rfl)
theorem dX2_decryptBlock_135 : decode cX2_decryptBlock 135 = .ok (.iadd, 1) := dk_96 (dk_at dksX2_decryptBlock_5 17 rfl rfl)
theorem dX2_decryptBlock_136 : decode cX2_decryptBlock 136 = .ok (.ixor, 1) := dk_130 (dk_at dksX2_decryptBlock_5 18 rfl rfl)
theorem dX2_decryptBlock_137 : decode cX2_decryptBlock 137 = .ok (.istore 6, 2) := dk_54 6 (dk_at dksX2_decryptBlock_5 19 rfl rfl)
theorem dX2_decryptBlock_139 : decode cX2_decryptBlock 139 = .ok (.iinc 9 (-1), 3) := dk_132 9 255 (dk_at dksX2_decryptBlock_5 21 rfl rfl)
theorem dX2_decryptBlock_142 : decode cX2_decryptBlock 142 = .ok (.iinc 11 1, 3) := dk_132 11 1 (dk_at dksX2_decryptBlock_6 0 rfl rfl)
theorem dX2_decryptBlock_145 : decode cX2_decryptBlock 145 = .ok (.goto (-47), 3) := dk_167 255 209 (dk_at dksX2_decryptBlock_6 3 rfl rfl)
theorem dX2_decryptBlock_148 : decode cX2_decryptBlock 148 = .ok (.iconst 0, 1) := dk_3 (dk_at dksX2_decryptBlock_6 6 rfl rfl)
theorem dX2_decryptBlock_149 : decode cX2_decryptBlock 149 = .ok (.istore 11, 2) := dk_54 11 (dk_at dksX2_decryptBlock_6 7 rfl rfl)
theorem dX2_decryptBlock_151 : decode cX2_decryptBlock 151 = .ok (.iload 11, 2) := dk_21 11 (dk_at dksX2_decryptBlock_6 9 rfl rfl)
theorem dX2_decryptBlock_153 : decode cX2_decryptBlock 153 = .ok (.bipush 8, 2) := dk_16 8 (dk_at dksX2_decryptBlock_6 11 rfl rfl)
theorem dX2_decryptBlock_155 : decode cX2_decryptBlock 155 = .ok (.if_icmp .ge 46, 3) := dk_162 0 46 (dk_at dksX2_decryptBlock_6 13 rfl rfl)
theorem dX2_decryptBlock_158 : decode cX2_decryptBlock 158 = .ok (.iload 7, 2) := dk_21 7 (dk_at dksX2_decryptBlock_6 16 rfl rfl)
theorem dX2_decryptBlock_160 : decode cX2_decryptBlock 160 = .ok (.istore 12, 2) := dk_54 12 (dk_at dksX2_decryptBlock_6 18 rfl rfl)
theorem dX2_decryptBlock_162 : decode cX2_decryptBlock 162 = .ok (.iload 8, 2) := dk_21 8 (dk_at dksX2_decryptBlock_6 20 rfl rfl)
theorem dX2_decryptBlock_164 : decode cX2_decryptBlock 164 = .ok (.istore 7, 2) := dk_54 7 (dk_at dksX2_decryptBlock_6 22 rfl rfl)
theorem dX2_decryptBlock_166 : decode cX2_decryptBlock 166 = .ok (.iload 6, 2) := dk_21 6 (dk_at dksX2_decryptBlock_7 0 rfl rfl)
theorem dX2_decryptBlock_168 : decode cX2_decryptBlock 168 = .ok (.iload 5, 2) := dk_21 5 (dk_at dksX2_decryptBlock_7 2 rfl rfl)
theorem dX2_decryptBlock_170 : decode cX2_decryptBlock 170 = .ok (.ixor, 1) := dk_130 (dk_at dksX2_decryptBlock_7 4 rfl rfl)
theorem dX2_decryptBlock_171 : decode cX2_decryptBlock 171 = .ok (.iload 9, 2) := dk_21 9 (dk_at dksX2_decryptBlock_7 5 rfl rfl)
theorem dX2_decryptBlock_173 : decode cX2_decryptBlock 173 = .ok (.iconst 1, 1) := dk_4 (dk_at dksX2_decryptBlock_7 7 rfl rfl)
theorem dX2_decryptBlock_174 : decode cX2_decryptBlock 174 = .ok (.iadd, 1) := dk_96 (dk_at dksX2_decryptBlock_7 8 rfl rfl)
theorem dX2_decryptBlock_175 : decode cX2_decryptBlock 175 = .ok (.ixor, 1) := dk_130 (dk_at dksX2_decryptBlock_7 9 rfl rfl)
theorem dX2_decryptBlock_176 : decode cX2_decryptBlock 176 = .ok (.istore 8, 2) := dk_54 8 (dk_at dksX2_decryptBlock_7 10 rfl rfl)
theorem dX2_decryptBlock_178 : decode cX2_decryptBlock 178 = .ok (.aload_n 0, 1) := dk_42 (dk_at dksX2_decryptBlock_7 12 rfl rfl)
theorem dX2_decryptBlock_179 : decode cX2_decryptBlock 179 = .ok (.iload 9, 2) := dk_21 9 (dk_at dksX2_decryptBlock_7 13 rfl rfl)
theorem dX2_decryptBlock_181 : decode cX2_decryptBlock 181 = .ok (.iload 6, 2) := dk_21 6 (dk_at dksX2_decryptBlock_7 15 rfl rfl)
theorem dX2_decryptBlock_183 : decode cX2_decryptBlock 183 = .ok (.invokevirtual 69, 3) := dk_182 0 69 (dk_at dksX2_decryptBlock_7 17 rfl rfl)
theorem dX2_decryptBlock_186 : decode cX2_decryptBlock 186 = .ok (.istore 5, 2) := dk_54 5 (dk_at dksX2_decryptBlock_7 20 rfl rfl)
theorem dX2_decryptBlock_188 : decode cX2_decryptBlock 188 = .ok (.iload 12, 2) := dk_21 12 (dk_at dksX2_decryptBlock_7 22 rfl rfl)
theorem dX2_decryptBlock_190 : decode cX2_decryptBlock 190 = .ok (.istore 6, 2) := dk_54 6 (dk_at dksX2_decryptBlock_8 0 rfl rfl)
theorem dX2_decryptBlock_192 : decode cX2_decryptBlock 192 = .ok (.iinc 9 (-1), 3) := dk_132 9 255 (dk_at dksX2_decryptBlock_8 2 rfl rfl)
theorem dX2_decryptBlock_195 : decode cX2_decryptBlock 195 = .ok (.iinc 11 1, 3) := dk_132 11 1 (dk_at dksX2_decryptBlock_8 5 rfl rfl)
theorem dX2_decryptBlock_198 : decode cX2_decryptBlock 198 = .ok (.goto (-47), 3) := dk_167 255 209 (dk_at dksX2_decryptBlock_8 8 rfl rfl)
theorem dX2_decryptBlock_201 : decode cX2_decryptBlock 201 = .ok (.iinc 10 1, 3) := dk_132 10 1 (dk_at dksX2_decryptBlock_8 11 rfl rfl)
theorem dX2_decryptBlock_204 : decode cX2_decryptBlock 204 = .ok (.goto (-115), 3) := dk_167 255 141 (dk_at dksX2_decryptBlock_8 14 rfl rfl)
theorem dX2_decryptBlock_207 : decode cX2_decryptBlock 207 = .ok (.aload_n 3, 1) := dk_45 (dk_at dksX2_decryptBlock_8 17 rfl rfl)
theorem dX2_decryptBlock_208 : decode cX2_decryptBlock 208 = .ok (.iload 4, 2) := dk_21 4 (dk_at dksX2_decryptBlock_8 18 rfl rfl)
theorem dX2_decryptBlock_210 : decode cX2_decryptBlock 210 = .ok (.iconst 0, 1) := dk_3 (dk_at dksX2_decryptBlock_8 20 rfl rfl)
theorem dX2_decryptBlock_211 : decode cX2_decryptBlock 211 = .ok (.iadd, 1) := dk_96 (dk_at dksX2_decryptBlock_8 21 rfl rfl)
theorem dX2_decryptBlock_212 : decode cX2_decryptBlock 212 = .ok (.iload 5, 2) := dk_21 5 (dk_at dksX2_decryptBlock_8 22 rfl rfl)
theorem dX2_decryptBlock_214 : decode cX2_decryptBlock 214 = .ok (.bipush 8, 2) := dk_16 8 (dk_at dksX2_decryptBlock_9 0 rfl rfl)
theorem dX2_decryptBlock_216 : decode cX2_decryptBlock 216 = .ok (.ishr, 1) := dk_122 (dk_at dksX2_decryptBlock_9 2 rfl rfl)
theorem dX2_decryptBlock_217 : decode cX2_decryptBlock 217 = .ok (.i2b, 1) := dk_145 (dk_at dksX2_decryptBlock_9 3 rfl rfl)
theorem dX2_decryptBlock_218 : decode cX2_decryptBlock 218 = .ok (.bastore, 1) := dk_84 (dk_at dksX2_decryptBlock_9 4 rfl rfl)
theorem dX2_decryptBlock_219 : decode cX2_decryptBlock 219 = .ok (.aload_n 3, 1) := dk_45 (dk_at dksX2_decryptBlock_9 5 rfl rfl)
theorem dX2_decryptBlock_220 : decode cX2_decryptBlock 220 = .ok (.iload 4, 2) := dk_21 4 (dk_at dksX2_decryptBlock_9 6 rfl rfl)
theorem dX2_decryptBlock_222 : decode cX2_decryptBlock 222 = .ok (.iconst 1, 1) := dk_4 (dk_at dksX2_decryptBlock_9 8 rfl rfl)
theorem dX2_decryptBlock_223 : decode cX2_decryptBlock 223 = .ok (.iadd, 1) := dk_96 (dk_at dksX2_decryptBlock_9 9 rfl rfl)
theorem dX2_decryptBlock_224 : decode cX2_decryptBlock 224 = .ok (.iload 5, 2) := dk_21 5 (dk_at dksX2_decryptBlock_9 10 rfl rfl)
theorem dX2_decryptBlock_226 : decode cX2_decryptBlock 226 = .ok (.i2b, 1) := dk_145 (dk_at dksX2_decryptBlock_9 12 rfl rfl)
theorem dX2_decryptBlock_227 : decode cX2_decryptBlock 227 = .ok (.bastore, 1) := dk_84 (dk_at dksX2_decryptBlock_9 13 rfl rfl)
theorem dX2_decryptBlock_228 : decode cX2_decryptBlock 228 = .ok (.aload_n 3, 1) := dk_45 (dk_at dksX2_decryptBlock_9 14 rfl rfl)
theorem dX2_decryptBlock_229 : decode cX2_decryptBlock 229 = .ok (.iload 4, 2) := dk_21 4 (dk_at dksX2_decryptBlock_9 15 rfl rfl)
theorem dX2_decryptBlock_231 : decode cX2_decryptBlock 231 = .ok (.iconst 2, 1) := dk_5 (dk_at dksX2_decryptBlock_9 17 rfl rfl)
theorem dX2_decryptBlock_232 : decode cX2_decryptBlock 232 = .ok (.iadd, 1) := dk_96 (dk_at dksX2_decryptBlock_9 18 rfl rfl)
theorem dX2_decryptBlock_233 : decode cX2_decryptBlock 233 = .ok (.iload 6, 2) := dk_21 6 (dk_at dksX2_decryptBlock_9 19 rfl rfl)
theorem dX2_decryptBlock_235 : decode cX2_decryptBlock 235 = .ok (.bipush 8, 2) := dk_16 8 (dk_at dksX2_decryptBlock_9 21 rfl rfl)
theorem dX2_decryptBlock_237 : decode cX2_decryptBlock 237 = .ok (.ishr, 1) := dk_122 (dk_at dksX2_decryptBlock_9 23 rfl rfl)
theorem dX2_decryptBlock_238 : decode cX2_decryptBlock 238 = .ok (.i2b, 1) := dk_145 (dk_at dksX2_decryptBlock_10 0 rfl rfl)
theorem dX2_decryptBlock_239 : decode cX2_decryptBlock 239 = .ok (.bastore, 1) := dk_84 (dk_at dksX2_decryptBlock_10 1 rfl rfl)
theorem dX2_decryptBlock_240 : decode cX2_decryptBlock 240 = .ok (.aload_n 3, 1) := dk_45 (dk_at dksX2_decryptBlock_10 2 rfl rfl)
theorem dX2_decryptBlock_241 : decode cX2_decryptBlock 241 = .ok (.iload 4, 2) := dk_21 4 (dk_at dksX2_decryptBlock_10 3 rfl rfl)
theorem dX2_decryptBlock_243 : decode cX2_decryptBlock 243 = .ok (.iconst 3, 1) := dk_6 (dk_at dksX2_decryptBlock_10 5 rfl rfl)
theorem dX2_decryptBlock_244 : decode cX2_decryptBlock 244 = .ok (.iadd, 1) := dk_96 (dk_at dksX2_decryptBlock_10 6 rfl rfl)
theorem dX2_decryptBlock_245 : decode cX2_decryptBlock 245 = .ok (.iload 6, 2) := dk_21 6 (dk_at dksX2_decryptBlock_10 7 rfl rfl)
theorem dX2_decryptBlock_247 : decode cX2_decryptBlock 247 = .ok (.i2b, 1) := dk_145 (dk_at dksX2_decryptBlock_10 9 rfl rfl)
theorem dX2_decryptBlock_248 : decode cX2_decryptBlock 248 = .ok (.bastore, 1) := dk_84 (dk_at dksX2_decryptBlock_10 10 rfl rfl)
theorem dX2_decryptBlock_249 : decode cX2_decryptBlock 249 = .ok (.aload_n 3, 1) := dk_45 (dk_at dksX2_decryptBlock_10 11 rfl rfl)
theorem dX2_decryptBlock_250 : decode cX2_decryptBlock 250 = .ok (.iload 4, 2) := dk_21 4 (dk_at dksX2_decryptBlock_10 12 rfl rfl)
theorem dX2_decryptBlock_252 : decode cX2_decryptBlock 252 = .ok (.iconst 4, 1) := dk_7 (dk_at dksX2_decryptBlock_10 14 rfl rfl)
theorem dX2_decryptBlock_253 : decode cX2_decryptBlock 253 = .ok (.iadd, 1) := dk_96 (dk_at dksX2_decryptBlock_10 15 rfl rfl)
theorem dX2_decryptBlock_254 : decode cX2_decryptBlock 254 = .ok (.iload 7, 2) := dk_21 7 (dk_at dksX2_decryptBlock_10 16 rfl rfl)
theorem dX2_decryptBlock_256 : decode cX2_decryptBlock 256 = .ok (.bipush 8, 2) := dk_16 8 (dk_at dksX2_decryptBlock_10 18 rfl rfl)
theorem dX2_decryptBlock_258 : decode cX2_decryptBlock 258 = .ok (.ishr, 1) := dk_122 (dk_at dksX2_decryptBlock_10 20 rfl rfl)
theorem dX2_decryptBlock_259 : decode cX2_decryptBlock 259 = .ok (.i2b, 1) := dk_145 (dk_at dksX2_decryptBlock_10 21 rfl rfl)
theorem dX2_decryptBlock_260 : decode cX2_decryptBlock 260 = .ok (.bastore, 1) := dk_84 (dk_at dksX2_decryptBlock_10 22 rfl rfl)
theorem dX2_decryptBlock_261 : decode cX2_decryptBlock 261 = .ok (.aload_n 3, 1) := dk_45 (dk_at dksX2_decryptBlock_10 23 rfl rfl)
theorem dX2_decryptBlock_262 : decode cX2_decryptBlock 262 = .ok (.iload 4, 2) := dk_21 4 (dk_at dksX2_decryptBlock_11 0 rfl rfl)
theorem dX2_decryptBlock_264 : decode cX2_decryptBlock 264 = .ok (.iconst 5, 1) := dk_8 (dk_at dksX2_decryptBlock_11 2 rfl rfl)
theorem dX2_decryptBlock_265 : decode cX2_decryptBlock 265 = .ok (.iadd, 1) := dk_96 (dk_at dksX2_decryptBlock_11 3 rfl rfl)
theorem dX2_decryptBlock_266 : decode cX2_decryptBlock 266 = .ok (.iload 7, 2) := dk_21 7 (dk_at dksX2_decryptBlock_11 4 rfl rfl)
theorem dX2_decryptBlock_268 : decode cX2_decryptBlock 268 = .ok (.i2b, 1) := dk_145 (dk_at dksX2_decryptBlock_11 6 rfl rfl)
theorem dX2_decryptBlock_269 : decode cX2_decryptBlock 269 = .ok (.bastore, 1) := dk_84 (dk_at dksX2_decryptBlock_11 7 rfl rfl)
theorem dX2_decryptBlock_270 : decode cX2_decryptBlock 270 = .ok (.aload_n 3, 1) := dk_45 (dk_at dksX2_decryptBlock_11 8 rfl rfl)
theorem dX2_decryptBlock_271 : decode cX2_decryptBlock 271 = .ok (.iload 4, 2) := dk_21 4 (dk_at dksX2_decryptBlock_11 9 rfl rfl)
theorem dX2_decryptBlock_273 : decode cX2_decryptBlock 273 = .ok (.bipush 6, 2) := dk_16 6 (dk_at dksX2_decryptBlock_11 11 rfl rfl)
theorem dX2_decryptBlock_275 : decode cX2_decryptBlock 275 = .ok (.iadd, 1) := dk_96 (dk_at dksX2_decryptBlock_11 13 rfl rfl)
theorem dX2_decryptBlock_276 : decode cX2_decryptBlock 276 = .ok (.iload 8, 2) := dk_21 8 (dk_at dksX2_decryptBlock_11 14 rfl rfl)
theorem dX2_decryptBlock_278 : decode cX2_decryptBlock 278 = .ok (.bipush 8, 2) := dk_16 8 (dk_at dksX2_decryptBlock_11 16 rfl rfl)
theorem dX2_decryptBlock_280 : decode cX2_decryptBlock 280 = .ok (.ishr, 1) := dk_122 (dk_at dksX2_decryptBlock_11 18 rfl rfl)
theorem dX2_decryptBlock_281 : decode cX2_decryptBlock 281 = .ok (.i2b, 1) := dk_145 (dk_at dksX2_decryptBlock_11 19 rfl rfl)
theorem dX2_decryptBlock_282 : decode cX2_decryptBlock 282 = .ok (.bastore, 1) := dk_84 (dk_at dksX2_decryptBlock_11 20 rfl rfl)
theorem dX2_decryptBlock_283 : decode cX2_decryptBlock 283 = .ok (.aload_n 3, 1) := dk_45 (dk_at dksX2_decryptBlock_11 21 rfl rfl)
theorem dX2_decryptBlock_284 : decode cX2_decryptBlock 284 = .ok (.iload 4, 2) := dk_21 4 (dk_at dksX2_decryptBlock_11 22 rfl rfl)
theorem dX2_decryptBlock_286 : decode cX2_decryptBlock 286 = .ok (.bipush 7, 2) := dk_16 7 (dk_at dksX2_decryptBlock_12 0 rfl rfl)
theorem dX2_decryptBlock_288 : decode cX2_decryptBlock 288 = .ok (.iadd, 1) := dk_96 (dk_at dksX2_decryptBlock_12 2 rfl rfl)
theorem dX2_decryptBlock_289 : decode cX2_decryptBlock 289 = .ok (.iload 8, 2) := dk_21 8 (dk_at dksX2_decryptBlock_12 3 rfl rfl)
theorem dX2_decryptBlock_291 : decode cX2_decryptBlock 291 = .ok (.i2b, 1) := dk_145 (dk_at dksX2_decryptBlock_12 5 rfl rfl)
theorem dX2_decryptBlock_292 : decode cX2_decryptBlock 292 = .ok (.bastore, 1) := dk_84 (dk_at dksX2_decryptBlock_12 6 rfl rfl)
theorem dX2_decryptBlock_293 : decode cX2_decryptBlock 293 = .ok (.bipush 8, 2) := dk_16 8 (dk_at dksX2_decryptBlock_12 7 rfl rfl)
theorem dX2_decryptBlock_295 : decode cX2_decryptBlock 295 = .ok (.ireturn, 1) := dk_172 (dk_at dksX2_decryptBlock_12 9 rfl rfl)
abbrev cX2_h : ByteArray := prog_9_method_6_code
def yX2_h : MethodName := ⟨RX2, "h", "(II)I"⟩
def dkwX2_h_4 : List UInt8 := [21, 7, 96, 172]
abbrev dktX2_h_4 : List UInt8 := dkwX2_h_4 ++ []
def dkwX2_h_3 : List UInt8 := [178, 0, 61, 21, 7, 42, 180, 0, 26, 27, 46, 130, 53, 21, 6, 130, 54, 8, 21, 8, 16, 8, 120]
abbrev dktX2_h_3 : List UInt8 := dkwX2_h_3 ++ dktX2_h_4
def dkwX2_h_2 : List UInt8 := [21, 4, 130, 54, 6, 178, 0, 61, 21, 6, 42, 180, 0, 30, 27, 46, 130, 53, 21, 5, 130, 54, 7]
abbrev dktX2_h_2 : List UInt8 := dkwX2_h_2 ++ dktX2_h_3
def dkwX2_h_1 : List UInt8 := [180, 0, 36, 27, 46, 130, 53, 29, 130, 54, 5, 178, 0, 61, 21, 5, 42, 180, 0, 33, 27, 46, 130, 53]
abbrev dktX2_h_1 : List UInt8 := dkwX2_h_1 ++ dktX2_h_2
def dkwX2_h_0 : List UInt8 := [28, 17, 0, 255, 126, 62, 28, 16, 8, 122, 17, 0, 255, 126, 54, 4, 178, 0, 61, 21, 4, 42]
abbrev dktX2_h_0 : List UInt8 := dkwX2_h_0 ++ dktX2_h_1
theorem dksX2_h_0 : cX2_h.data.toList.drop 0 = dktX2_h_0 := by decide +kernel
theorem dksX2_h_1 : cX2_h.data.toList.drop 22 = dktX2_h_1 := dk_seg dksX2_h_0 22 rfl rfl
theorem dksX2_h_2 : cX2_h.data.toList.drop 46 = dktX2_h_2 := dk_seg dksX2_h_1 24 rfl rfl
theorem dksX2_h_3 : cX2_h.data.toList.drop 69 = dktX2_h_3 := dk_seg dksX2_h_2 23 rfl rfl
theorem dksX2_h_4 : cX2_h.data.toList.drop 92 = dktX2_h_4 := dk_seg dksX2_h_3 23 rfl rfl
theorem dX2_h_0 : decode cX2_h 0 = .ok (.iload_n 2, 1) := dk_28 (dk_at dksX2_h_0 0 rfl rfl)
theorem dX2_h_1 : decode cX2_h 1 = .ok (.sipush 255, 3) := dk_17 0 255 (dk_at dksX2_h_0 1 rfl rfl)
theorem dX2_h_4 : decode cX2_h 4 = .ok (.iand, 1) := dk_126 (dk_at dksX2_h_0 4 rfl rfl)
theorem dX2_h_5 : decode cX2_h 5 = .ok (.istore_n 3, 1) := dk_62 (dk_at dksX2_h_0 5 rfl rfl)
theorem dX2_h_6 : decode cX2_h 6 = .ok (.iload_n 2, 1) := dk_28 (dk_at dksX2_h_0 6 rfl rfl)
theorem dX2_h_7 : decode cX2_h 7 = .ok (.bipush 8, 2) := dk_16 8 (dk_at dksX2_h_0 7 rfl rfl)
theorem dX2_h_9 : decode cX2_h 9 = .ok (.ishr, 1) := dk_122 (dk_at dksX2_h_0 9 rfl rfl)
theorem dX2_h_10 : decode cX2_h 10 = .ok (.sipush 255, 3) := dk_17 0 255 (dk_at dksX2_h_0 10 rfl rfl)
theorem dX2_h_13 : decode cX2_h 13 = .ok (.iand, 1) := dk_126 (dk_at dksX2_h_0 13 rfl rfl)
theorem dX2_h_14 : decode cX2_h 14 = .ok (.istore 4, 2) := dk_54 4 (dk_at dksX2_h_0 14 rfl rfl)
theorem dX2_h_16 : decode cX2_h 16 = .ok (.getstatic 61, 3) := dk_178 0 61 (dk_at dksX2_h_0 16 rfl rfl)
theorem dX2_h_19 : decode cX2_h 19 = .ok (.iload 4, 2) := dk_21 4 (dk_at dksX2_h_0 19 rfl rfl)
theorem dX2_h_21 : decode cX2_h 21 = .ok (.aload_n 0, 1) := dk_42 (dk_at dksX2_h_0 21 rfl rfl)
theorem dX2_h_22 : decode cX2_h 22 = .ok (.getfield 36, 3) := dk_180 0 36 (dk_at dksX2_h_1 0 rfl rfl)
theorem dX2_h_25 : decode cX2_h 25 = .ok (.iload_n 1, 1) := dk_27 (dk_at dksX2_h_1 3 rfl rfl)
theorem dX2_h_26 : decode cX2_h 26 = .ok (.iaload, 1) := dk_46 (dk_at dksX2_h_1 4 rfl rfl)
theorem dX2_h_27 : decode cX2_h 27 = .ok (.ixor, 1) := dk_130 (dk_at dksX2_h_1 5 rfl rfl)
theorem dX2_h_28 : decode cX2_h 28 = .ok (.saload, 1) := dk_53 (dk_at dksX2_h_1 6 rfl rfl)
theorem dX2_h_29 : decode cX2_h 29 = .ok (.iload_n 3, 1) := dk_29 (dk_at dksX2_h_1 7 rfl rfl)
theorem dX2_h_30 : decode cX2_h 30 = .ok (.ixor, 1) := dk_130 (dk_at dksX2_h_1 8 rfl rfl)
theorem dX2_h_31 : decode cX2_h 31 = .ok (.istore 5, 2) := dk_54 5 (dk_at dksX2_h_1 9 rfl rfl)
theorem dX2_h_33 : decode cX2_h 33 = .ok (.getstatic 61, 3) := dk_178 0 61 (dk_at dksX2_h_1 11 rfl rfl)
theorem dX2_h_36 : decode cX2_h 36 = .ok (.iload 5, 2) := dk_21 5 (dk_at dksX2_h_1 14 rfl rfl)
theorem dX2_h_38 : decode cX2_h 38 = .ok (.aload_n 0, 1) := dk_42 (dk_at dksX2_h_1 16 rfl rfl)
theorem dX2_h_39 : decode cX2_h 39 = .ok (.getfield 33, 3) := dk_180 0 33 (dk_at dksX2_h_1 17 rfl rfl)
theorem dX2_h_42 : decode cX2_h 42 = .ok (.iload_n 1, 1) := dk_27 (dk_at dksX2_h_1 20 rfl rfl)
theorem dX2_h_43 : decode cX2_h 43 = .ok (.iaload, 1) := dk_46 (dk_at dksX2_h_1 21 rfl rfl)
theorem dX2_h_44 : decode cX2_h 44 = .ok (.ixor, 1) := dk_130 (dk_at dksX2_h_1 22 rfl rfl)
theorem dX2_h_45 : decode cX2_h 45 = .ok (.saload, 1) := dk_53 (dk_at dksX2_h_1 23 rfl rfl)
theorem dX2_h_46 : decode cX2_h 46 = .ok (.iload 4, 2) := dk_21 4 (dk_at dksX2_h_2 0 rfl rfl)
theorem dX2_h_48 : decode cX2_h 48 = .ok (.ixor, 1) := dk_130 (dk_at dksX2_h_2 2 rfl rfl)
theorem dX2_h_49 : decode cX2_h 49 = .ok (.istore 6, 2) := dk_54 6 (dk_at dksX2_h_2 3 rfl rfl)
theorem dX2_h_51 : decode cX2_h 51 = .ok (.getstatic 61, 3) := dk_178 0 61 (dk_at dksX2_h_2 5 rfl rfl)
theorem dX2_h_54 : decode cX2_h 54 = .ok (.iload 6, 2) := dk_21 6 (dk_at dksX2_h_2 8 rfl rfl)
theorem dX2_h_56 : decode cX2_h 56 = .ok (.aload_n 0, 1) := dk_42 (dk_at dksX2_h_2 10 rfl rfl)
theorem dX2_h_57 : decode cX2_h 57 = .ok (.getfield 30, 3) := dk_180 0 30 (dk_at dksX2_h_2 11 rfl rfl)
theorem dX2_h_60 : decode cX2_h 60 = .ok (.iload_n 1, 1) := dk_27 (dk_at dksX2_h_2 14 rfl rfl)
theorem dX2_h_61 : decode cX2_h 61 = .ok (.iaload, 1) := dk_46 (dk_at dksX2_h_2 15 rfl rfl)
theorem dX2_h_62 : decode cX2_h 62 = .ok (.ixor, 1) := dk_130 (dk_at dksX2_h_2 16 rfl rfl)
theorem dX2_h_63 : decode cX2_h 63 = .ok (.saload, 1) := dk_53 (dk_at dksX2_h_2 17 rfl rfl)
theorem dX2_h_64 : decode cX2_h 64 = .ok (.iload 5, 2) := dk_21 5 (dk_at dksX2_h_2 18 rfl rfl)
theorem dX2_h_66 : decode cX2_h 66 = .ok (.ixor, 1) := dk_130 (dk_at dksX2_h_2 20 rfl rfl)
theorem dX2_h_67 : decode cX2_h 67 = .ok (.istore 7, 2) := dk_54 7 (dk_at dksX2_h_2 21 rfl rfl)
theorem dX2_h_69 : decode cX2_h 69 = .ok (.getstatic 61, 3) := dk_178 0 61 (dk_at dksX2_h_3 0 rfl rfl)
theorem dX2_h_72 : decode cX2_h 72 = .ok (.iload 7, 2) := dk_21 7 (dk_at dksX2_h_3 3 rfl rfl)
theorem dX2_h_74 : decode cX2_h 74 = .ok (.aload_n 0, 1) := dk_42 (dk_at dksX2_h_3 5 rfl rfl)
theorem dX2_h_75 : decode cX2_h 75 = .ok (.getfield 26, 3) := dk_180 0 26 (dk_at dksX2_h_3 6 rfl rfl)
theorem dX2_h_78 : decode cX2_h 78 = .ok (.iload_n 1, 1) := dk_27 (dk_at dksX2_h_3 9 rfl rfl)
theorem dX2_h_79 : decode cX2_h 79 = .ok (.iaload, 1) := dk_46 (dk_at dksX2_h_3 10 rfl rfl)
theorem dX2_h_80 : decode cX2_h 80 = .ok (.ixor, 1) := dk_130 (dk_at dksX2_h_3 11 rfl rfl)
theorem dX2_h_81 : decode cX2_h 81 = .ok (.saload, 1) := dk_53 (dk_at dksX2_h_3 12 rfl rfl)
theorem dX2_h_82 : decode cX2_h 82 = .ok (.iload 6, 2) := dk_21 6 (dk_at dksX2_h_3 13 rfl rfl)
theorem dX2_h_84 : decode cX2_h 84 = .ok (.ixor, 1) := dk_130 (dk_at dksX2_h_3 15 rfl rfl)
theorem dX2_h_85 : decode cX2_h 85 = .ok (.istore 8, 2) := dk_54 8 (dk_at dksX2_h_3 16 rfl rfl)
theorem dX2_h_87 : decode cX2_h 87 = .ok (.iload 8, 2) := dk_21 8 (dk_at dksX2_h_3 18 rfl rfl)
theorem dX2_h_89 : decode cX2_h 89 = .ok (.bipush 8, 2) := dk_16 8 (dk_at dksX2_h_3 20 rfl rfl)
theorem dX2_h_91 : decode cX2_h 91 = .ok (.ishl, 1) := dk_120 (dk_at dksX2_h_3 22 rfl rfl)
theorem dX2_h_92 : decode cX2_h 92 = .ok (.iload 7, 2) := dk_21 7 (dk_at dksX2_h_4 0 rfl rfl)
theorem dX2_h_94 : decode cX2_h 94 = .ok (.iadd, 1) := dk_96 (dk_at dksX2_h_4 2 rfl rfl)
theorem dX2_h_95 : decode cX2_h 95 = .ok (.ireturn, 1) := dk_172 (dk_at dksX2_h_4 3 rfl rfl)
theorem q6 : (Jvm.Cond.initialized "SkipjackEngine") ∈ lw_all := lw_g (lw_at lw_m1 2 rfl) rfl
theorem q30 : (Jvm.Cond.instantiable "SkipjackEngine" (5 : Nat)) ∈ lw_all := lw_g (lw_at lw_m1 26 rfl) rfl
theorem q32 : (Jvm.Cond.instanceMethod ({ cls := "SkipjackEngine", name := "<init>", desc := "()V" } : Jvm.MethodName)) ∈ lw_all := lw_g (lw_at lw_m1 28 rfl) rfl
theorem q33 : (Jvm.Cond.code ({ cls := "SkipjackEngine", name := "<init>", desc := "()V" } : Jvm.MethodName) prog_9_method_1_code (1 : Nat) (Option.none : Option Jvm.ClassFile.FieldType)) ∈ lw_all := lw_g (lw_at lw_m1 29 rfl) rfl
theorem q34 : (Jvm.Cond.methodLink "SkipjackEngine" (1 : Nat) ({ cls := "java/lang/Object", name := "<init>", desc := "()V" } : Jvm.MethodName)) ∈ lw_all := lw_g (lw_at lw_m1 30 rfl) rfl
theorem q37 : (Jvm.Cond.fieldLink "SkipjackEngine" (26 : Nat) "SkipjackEngine" "key0" "[I") ∈ lw_all := lw_g (lw_at lw_m1 33 rfl) rfl
theorem q38 : (Jvm.Cond.fieldLink "SkipjackEngine" (30 : Nat) "SkipjackEngine" "key1" "[I") ∈ lw_all := lw_g (lw_at lw_m1 34 rfl) rfl
theorem q39 : (Jvm.Cond.fieldLink "SkipjackEngine" (33 : Nat) "SkipjackEngine" "key2" "[I") ∈ lw_all := lw_g (lw_at lw_m1 35 rfl) rfl
theorem q40 : (Jvm.Cond.fieldLink "SkipjackEngine" (36 : Nat) "SkipjackEngine" "key3" "[I") ∈ lw_all := lw_g (lw_at lw_m1 36 rfl) rfl
theorem q41 : (Jvm.Cond.fieldLink "SkipjackEngine" (20 : Nat) "SkipjackEngine" "encrypting" "Z") ∈ lw_all := lw_g (lw_at lw_m1 37 rfl) rfl
theorem q42 : (Jvm.Cond.lays "SkipjackEngine" "SkipjackEngine" "key0" "[I") ∈ lw_all := lw_g (lw_at lw_m1 38 rfl) rfl
theorem q43 : (Jvm.Cond.soleField "SkipjackEngine" "key0") ∈ lw_all := lw_g (lw_at lw_m1 39 rfl) rfl
theorem q44 : (Jvm.Cond.lays "SkipjackEngine" "SkipjackEngine" "key1" "[I") ∈ lw_all := lw_g (lw_at lw_m1 40 rfl) rfl
theorem q45 : (Jvm.Cond.soleField "SkipjackEngine" "key1") ∈ lw_all := lw_g (lw_at lw_m1 41 rfl) rfl
theorem q46 : (Jvm.Cond.lays "SkipjackEngine" "SkipjackEngine" "key2" "[I") ∈ lw_all := lw_g (lw_at lw_m1 42 rfl) rfl
theorem q47 : (Jvm.Cond.soleField "SkipjackEngine" "key2") ∈ lw_all := lw_g (lw_at lw_m1 43 rfl) rfl
theorem q48 : (Jvm.Cond.lays "SkipjackEngine" "SkipjackEngine" "key3" "[I") ∈ lw_all := lw_g (lw_at lw_m1 44 rfl) rfl
theorem q49 : (Jvm.Cond.soleField "SkipjackEngine" "key3") ∈ lw_all := lw_g (lw_at lw_m1 45 rfl) rfl
theorem q50 : (Jvm.Cond.lays "SkipjackEngine" "SkipjackEngine" "encrypting" "Z") ∈ lw_all := lw_g (lw_at lw_m1 46 rfl) rfl
theorem q51 : (Jvm.Cond.soleField "SkipjackEngine" "encrypting") ∈ lw_all := lw_g (lw_at lw_m1 47 rfl) rfl
theorem q52 : (Jvm.Cond.superclass "SkipjackEngine" "java/lang/Object") ∈ lw_all := lw_g (lw_at lw_m1 48 rfl) rfl
theorem q77 : (Jvm.Cond.castable "SkipjackEngine" "BlockCipher") ∈ lw_tbl := lw_at lw_m1 73 rfl
theorem q78 : (Jvm.Cond.selects "SkipjackEngine" ({ cls := "BlockCipher", name := "init", desc := "(ZLCipherParameters;)V" } : Jvm.MethodName) ({ cls := "SkipjackEngine", name := "init", desc := "(ZLCipherParameters;)V" } : Jvm.MethodName)) ∈ lw_all := lw_g (lw_at lw_m1 74 rfl) rfl
theorem q79 : (Jvm.Cond.unhidden "SkipjackEngine" "init" "(ZLCipherParameters;)V") ∈ lw_tbl := lw_at lw_m1 75 rfl
theorem q80 : (Jvm.Cond.instanceMethod ({ cls := "SkipjackEngine", name := "init", desc := "(ZLCipherParameters;)V" } : Jvm.MethodName)) ∈ lw_all := lw_g (lw_at lw_m1 76 rfl) rfl
theorem q81 : (Jvm.Cond.publicMethod ({ cls := "SkipjackEngine", name := "init", desc := "(ZLCipherParameters;)V" } : Jvm.MethodName)) ∈ lw_tbl := lw_at lw_m1 77 rfl
theorem q82 : (Jvm.Cond.code ({ cls := "SkipjackEngine", name := "init", desc := "(ZLCipherParameters;)V" } : Jvm.MethodName) prog_9_method_2_code (5 : Nat) (Option.none : Option Jvm.ClassFile.FieldType)) ∈ lw_all := lw_g (lw_at lw_m1 78 rfl) rfl
theorem q83 : (Jvm.Cond.classLink "SkipjackEngine" (7 : Nat) "KeyParameter") ∈ lw_all := lw_g (lw_at lw_m1 79 rfl) rfl
theorem q84 : (Jvm.Cond.classLink "SkipjackEngine" (9 : Nat) "java/lang/IllegalArgumentException") ∈ lw_all := lw_g (lw_at lw_m1 80 rfl) rfl
theorem q126 : (Jvm.Cond.stringRef "SkipjackEngine" (11 : Nat) "left out") ∈ lw_tbl := lw_at lw_m1 122 rfl
theorem q127 : (Jvm.Cond.methodLink "SkipjackEngine" (13 : Nat) ({ cls := "java/lang/IllegalArgumentException", name := "<init>", desc := "(Ljava/lang/String;)V" } : Jvm.MethodName)) ∈ lw_all := lw_g (lw_at lw_m1 123 rfl) rfl
theorem q152 : (Jvm.Cond.methodLink "SkipjackEngine" (16 : Nat) ({ cls := "KeyParameter", name := "getKey", desc := "()[B" } : Jvm.MethodName)) ∈ lw_all := lw_g (lw_at lw_m1 148 rfl) rfl
theorem q160 : (Jvm.Cond.selects "SkipjackEngine" ({ cls := "BlockCipher", name := "processBlock", desc := "([BI[BI)I" } : Jvm.MethodName) ({ cls := "SkipjackEngine", name := "processBlock", desc := "([BI[BI)I" } : Jvm.MethodName)) ∈ lw_all := lw_g (lw_at lw_m1 156 rfl) rfl
theorem q161 : (Jvm.Cond.unhidden "SkipjackEngine" "processBlock" "([BI[BI)I") ∈ lw_tbl := lw_at lw_m1 157 rfl
theorem q162 : (Jvm.Cond.instanceMethod ({ cls := "SkipjackEngine", name := "processBlock", desc := "([BI[BI)I" } : Jvm.MethodName)) ∈ lw_all := lw_g (lw_at lw_m1 158 rfl) rfl
theorem q163 : (Jvm.Cond.publicMethod ({ cls := "SkipjackEngine", name := "processBlock", desc := "([BI[BI)I" } : Jvm.MethodName)) ∈ lw_tbl := lw_at lw_m1 159 rfl
theorem q164 : (Jvm.Cond.code ({ cls := "SkipjackEngine", name := "processBlock", desc := "([BI[BI)I" } : Jvm.MethodName) prog_9_method_3_code (5 : Nat) (Option.some Jvm.ClassFile.FieldType.int)) ∈ lw_all := lw_g (lw_at lw_m1 160 rfl) rfl
theorem q165 : (Jvm.Cond.classLink "SkipjackEngine" (39 : Nat) "java/lang/IllegalStateException") ∈ lw_all := lw_g (lw_at lw_m1 161 rfl) rfl
theorem q174 : (Jvm.Cond.stringRef "SkipjackEngine" (41 : Nat) "SKIPJACK engine not initialised") ∈ lw_tbl := lw_at lw_m1 170 rfl
theorem q175 : (Jvm.Cond.methodLink "SkipjackEngine" (43 : Nat) ({ cls := "java/lang/IllegalStateException", name := "<init>", desc := "(Ljava/lang/String;)V" } : Jvm.MethodName)) ∈ lw_all := lw_g (lw_at lw_m1 171 rfl) rfl
theorem q182 : (Jvm.Cond.classLink "SkipjackEngine" (44 : Nat) "DataLengthException") ∈ lw_all := lw_g (lw_at lw_m1 178 rfl) rfl
theorem q192 : (Jvm.Cond.stringRef "SkipjackEngine" (46 : Nat) "input buffer too short") ∈ lw_tbl := lw_at lw_m1 188 rfl
theorem q193 : (Jvm.Cond.methodLink "SkipjackEngine" (48 : Nat) ({ cls := "DataLengthException", name := "<init>", desc := "(Ljava/lang/String;)V" } : Jvm.MethodName)) ∈ lw_all := lw_g (lw_at lw_m1 189 rfl) rfl
theorem q202 : (Jvm.Cond.classLink "SkipjackEngine" (49 : Nat) "OutputLengthException") ∈ lw_all := lw_g (lw_at lw_m1 198 rfl) rfl
theorem q212 : (Jvm.Cond.stringRef "SkipjackEngine" (51 : Nat) "output buffer too short") ∈ lw_tbl := lw_at lw_m1 208 rfl
theorem q213 : (Jvm.Cond.methodLink "SkipjackEngine" (53 : Nat) ({ cls := "OutputLengthException", name := "<init>", desc := "(Ljava/lang/String;)V" } : Jvm.MethodName)) ∈ lw_all := lw_g (lw_at lw_m1 209 rfl) rfl
theorem q219 : (Jvm.Cond.methodLink "SkipjackEngine" (54 : Nat) ({ cls := "SkipjackEngine", name := "encryptBlock", desc := "([BI[BI)I" } : Jvm.MethodName)) ∈ lw_all := lw_g (lw_at lw_m1 215 rfl) rfl
theorem q220 : (Jvm.Cond.instanceMethod ({ cls := "SkipjackEngine", name := "encryptBlock", desc := "([BI[BI)I" } : Jvm.MethodName)) ∈ lw_all := lw_g (lw_at lw_m1 216 rfl) rfl
theorem q221 : (Jvm.Cond.selects "SkipjackEngine" ({ cls := "SkipjackEngine", name := "encryptBlock", desc := "([BI[BI)I" } : Jvm.MethodName) ({ cls := "SkipjackEngine", name := "encryptBlock", desc := "([BI[BI)I" } : Jvm.MethodName)) ∈ lw_all := lw_g (lw_at lw_m1 217 rfl) rfl
theorem q222 : (Jvm.Cond.code ({ cls := "SkipjackEngine", name := "encryptBlock", desc := "([BI[BI)I" } : Jvm.MethodName) prog_9_method_5_code (13 : Nat) (Option.some Jvm.ClassFile.FieldType.int)) ∈ lw_all := lw_g (lw_at lw_m1 218 rfl) rfl
theorem q223 : (Jvm.Cond.methodLink "SkipjackEngine" (65 : Nat) ({ cls := "SkipjackEngine", name := "g", desc := "(II)I" } : Jvm.MethodName)) ∈ lw_all := lw_g (lw_at lw_m1 219 rfl) rfl
theorem q224 : (Jvm.Cond.privateMethod ({ cls := "SkipjackEngine", name := "g", desc := "(II)I" } : Jvm.MethodName)) ∈ lw_tbl := lw_at lw_m1 220 rfl
theorem q225 : (Jvm.Cond.instanceMethod ({ cls := "SkipjackEngine", name := "g", desc := "(II)I" } : Jvm.MethodName)) ∈ lw_all := lw_g (lw_at lw_m1 221 rfl) rfl
theorem q226 : (Jvm.Cond.code ({ cls := "SkipjackEngine", name := "g", desc := "(II)I" } : Jvm.MethodName) prog_9_method_4_code (9 : Nat) (Option.some Jvm.ClassFile.FieldType.int)) ∈ lw_all := lw_g (lw_at lw_m1 222 rfl) rfl
theorem q227 : (Jvm.Cond.fieldLink "SkipjackEngine" (61 : Nat) "SkipjackEngine" "ftable" "[S") ∈ lw_all := lw_g (lw_at lw_m1 223 rfl) rfl
theorem q228 : (Jvm.Cond.laysStatic "SkipjackEngine" "ftable" "[S") ∈ lw_tbl := lw_at lw_m1 224 rfl
theorem q229 : (Jvm.Cond.methodLink "SkipjackEngine" (58 : Nat) ({ cls := "SkipjackEngine", name := "decryptBlock", desc := "([BI[BI)I" } : Jvm.MethodName)) ∈ lw_all := lw_g (lw_at lw_m1 225 rfl) rfl
theorem q230 : (Jvm.Cond.instanceMethod ({ cls := "SkipjackEngine", name := "decryptBlock", desc := "([BI[BI)I" } : Jvm.MethodName)) ∈ lw_all := lw_g (lw_at lw_m1 226 rfl) rfl
theorem q231 : (Jvm.Cond.selects "SkipjackEngine" ({ cls := "SkipjackEngine", name := "decryptBlock", desc := "([BI[BI)I" } : Jvm.MethodName) ({ cls := "SkipjackEngine", name := "decryptBlock", desc := "([BI[BI)I" } : Jvm.MethodName)) ∈ lw_all := lw_g (lw_at lw_m1 227 rfl) rfl
theorem q232 : (Jvm.Cond.code ({ cls := "SkipjackEngine", name := "decryptBlock", desc := "([BI[BI)I" } : Jvm.MethodName) prog_9_method_7_code (13 : Nat) (Option.some Jvm.ClassFile.FieldType.int)) ∈ lw_all := lw_g (lw_at lw_m1 228 rfl) rfl
theorem q233 : (Jvm.Cond.methodLink "SkipjackEngine" (69 : Nat) ({ cls := "SkipjackEngine", name := "h", desc := "(II)I" } : Jvm.MethodName)) ∈ lw_all := lw_g (lw_at lw_m1 229 rfl) rfl
theorem q234 : (Jvm.Cond.privateMethod ({ cls := "SkipjackEngine", name := "h", desc := "(II)I" } : Jvm.MethodName)) ∈ lw_tbl := lw_at lw_m1 230 rfl
theorem q235 : (Jvm.Cond.instanceMethod ({ cls := "SkipjackEngine", name := "h", desc := "(II)I" } : Jvm.MethodName)) ∈ lw_all := lw_g (lw_at lw_m1 231 rfl) rfl
theorem q236 : (Jvm.Cond.code ({ cls := "SkipjackEngine", name := "h", desc := "(II)I" } : Jvm.MethodName) prog_9_method_6_code (9 : Nat) (Option.some Jvm.ClassFile.FieldType.int)) ∈ lw_all := lw_g (lw_at lw_m1 232 rfl) rfl
theorem in_X2 : ∀ w ∈ wsX20, w ∈ lw_all := lw_in wsX20 [42, 44, 46, 48, 50] (by decide +kernel) (by decide +kernel)
end
section
/-! the pure model: Skipjack on Nat -/
def sk_F : List Nat := [163, 215, 9, 131, 248, 72, 246, 244, 179, 33, 21, 120, 153, 177, 175, 249, 231, 45, 77, 138, 206, 76, 202, 46, 82, 149, 217, 30, 78, 56, 68, 40, 10, 223, 2, 160, 23, 241, 96, 104, 18, 183, 122, 195, 233, 250, 61, 83, 150, 132, 107, 186, 242, 99, 154, 25, 124, 174, 229, 245, 247, 22, 106, 162, 57, 182, 123, 15, 193, 147, 129, 27, 238, 180, 26, 234, 208, 145, 47, 184, 85, 185, 218, 133, 63, 65, 191, 224, 90, 88, 128, 95, 102, 11, 216, 144, 53, 213, 192, 167, 51, 6, 101, 105, 69, 0, 148, 86, 109, 152, 155, 118, 151, 252, 178, 194, 176, 254, 219, 32, 225, 235, 214, 228, 221, 71, 74, 29, 66, 237, 158, 110, 73, 60, 205, 67, 39, 210, 7, 212, 222, 199, 103, 24, 137, 203, 48, 31, 141, 198, 143, 170, 200, 116, 220, 201, 93, 92, 49, 164, 112, 136, 97, 44, 159, 13, 43, 135, 80, 130, 84, 100, 38, 125, 3, 64, 52, 75, 28, 115, 209, 196, 253, 59, 204, 251, 127, 171, 230, 62, 91, 165, 173, 4, 35, 156, 20, 81, 34, 240, 41, 121, 113, 126, 255, 140, 14, 226, 12, 239, 188, 114, 117, 111, 55, 161, 236, 211, 142, 98, 139, 134, 16, 232, 8, 119, 17, 190, 146, 79, 36, 197, 50, 54, 157, 207, 243, 166, 187, 172, 94, 108, 169, 19, 87, 37, 181, 227, 189, 168, 58, 1, 5, 89, 42, 70]
def sk_f (n : Nat) : Nat := sk_F.getD n 0
theorem sk_F_len : sk_F.length = 256 := by decide +kernel
theorem sk_f_lt (n : Nat) : sk_f n < 256 := by
  rcases Nat.lt_or_ge n 256 with h | h
  · exact (by decide +kernel : ∀ n, n < 256 → sk_f n < 256) n h
  · have e : sk_f n = 0 := by
      unfold sk_f
      rw [List.getD_eq_getElem?_getD, List.getElem?_eq_none (by rw [sk_F_len]; exact h)]
      rfl
    rw [e]; decide
def sk_r (p q r : Nat) : Nat := sk_f (p ^^^ q) ^^^ r
theorem sk_r_lt (p q : Nat) {r : Nat} (h : r < 256) : sk_r p q r < 256 := Nat.xor_lt_two_pow (n := 8) (sk_f_lt _) h
theorem sk_r_inv (p q r : Nat) : sk_r p q (sk_r p q r) = r := by
  unfold sk_r
  rw [← Nat.xor_assoc, Nat.xor_self, Nat.zero_xor]
def sk_g3 (a w : Nat) : Nat := sk_r (w % 256) a (w / 256)
def sk_g4 (a b w : Nat) : Nat := sk_r (sk_g3 a w) b (w % 256)
def sk_g5 (a b c w : Nat) : Nat := sk_r (sk_g4 a b w) c (sk_g3 a w)
def sk_g6 (a b c d w : Nat) : Nat := sk_r (sk_g5 a b c w) d (sk_g4 a b w)
def sk_g (a b c d w : Nat) : Nat := sk_g5 a b c w * 256 + sk_g6 a b c d w
def sk_h3 (d w : Nat) : Nat := sk_r (w / 256) d (w % 256)
def sk_h4 (c d w : Nat) : Nat := sk_r (sk_h3 d w) c (w / 256)
def sk_h5 (b c d w : Nat) : Nat := sk_r (sk_h4 c d w) b (sk_h3 d w)
def sk_h6 (a b c d w : Nat) : Nat := sk_r (sk_h5 b c d w) a (sk_h4 c d w)
def sk_h (a b c d w : Nat) : Nat := sk_h6 a b c d w * 256 + sk_h5 b c d w
theorem sk_hi_lt {w : Nat} (h : w < 65536) : w / 256 < 256 := by omega
theorem sk_lo_lt8 (w : Nat) : w % 256 < 256 := by omega
theorem sk_g3_lt (a : Nat) {w : Nat} (h : w < 65536) : sk_g3 a w < 256 := sk_r_lt _ _ (sk_hi_lt h)
theorem sk_g4_lt (a b w : Nat) : sk_g4 a b w < 256 := sk_r_lt _ _ (sk_lo_lt8 w)
theorem sk_g5_lt (a b c : Nat) {w : Nat} (h : w < 65536) : sk_g5 a b c w < 256 := sk_r_lt _ _ (sk_g3_lt a h)
theorem sk_g6_lt (a b c d w : Nat) : sk_g6 a b c d w < 256 := sk_r_lt _ _ (sk_g4_lt a b w)
theorem sk_g_lt (a b c d : Nat) {w : Nat} (h : w < 65536) : sk_g a b c d w < 65536 := by
  have h1 := sk_g5_lt a b c h
  have h2 := sk_g6_lt a b c d w
  unfold sk_g
  omega
theorem sk_h3_lt (d w : Nat) : sk_h3 d w < 256 := sk_r_lt _ _ (sk_lo_lt8 w)
theorem sk_h4_lt (c d : Nat) {w : Nat} (h : w < 65536) : sk_h4 c d w < 256 := sk_r_lt _ _ (sk_hi_lt h)
theorem sk_h5_lt (b c d w : Nat) : sk_h5 b c d w < 256 := sk_r_lt _ _ (sk_h3_lt d w)
theorem sk_h6_lt (a b c d : Nat) {w : Nat} (h : w < 65536) : sk_h6 a b c d w < 256 := sk_r_lt _ _ (sk_h4_lt c d h)
theorem sk_h_lt (a b c d : Nat) {w : Nat} (h : w < 65536) : sk_h a b c d w < 65536 := by
  have h1 := sk_h5_lt b c d w
  have h2 := sk_h6_lt a b c d h
  unfold sk_h
  omega
theorem sk_hg (a b c d : Nat) {w : Nat} (h : w < 65536) : sk_h a b c d (sk_g a b c d w) = w := by
  have h5 := sk_g5_lt a b c h
  have h6 := sk_g6_lt a b c d w
  have e1 : sk_g a b c d w / 256 = sk_g5 a b c w := by unfold sk_g; omega
  have e2 : sk_g a b c d w % 256 = sk_g6 a b c d w := by unfold sk_g; omega
  have k3 : sk_h3 d (sk_g a b c d w) = sk_g4 a b w := by
    unfold sk_h3
    rw [e1, e2]
    exact sk_r_inv (sk_g5 a b c w) d (sk_g4 a b w)
  have k4 : sk_h4 c d (sk_g a b c d w) = sk_g3 a w := by
    unfold sk_h4
    rw [k3, e1]
    exact sk_r_inv (sk_g4 a b w) c (sk_g3 a w)
  have k5 : sk_h5 b c d (sk_g a b c d w) = w % 256 := by
    unfold sk_h5
    rw [k4, k3]
    exact sk_r_inv (sk_g3 a w) b (w % 256)
  have k6 : sk_h6 a b c d (sk_g a b c d w) = w / 256 := by
    unfold sk_h6
    rw [k5, k4]
    exact sk_r_inv (w % 256) a (w / 256)
  unfold sk_h
  rw [k5, k6]
  omega
theorem sk_gh (a b c d : Nat) {w : Nat} (h : w < 65536) : sk_g a b c d (sk_h a b c d w) = w := by
  have h5 := sk_h5_lt b c d w
  have h6 := sk_h6_lt a b c d h
  have e1 : sk_h a b c d w / 256 = sk_h6 a b c d w := by unfold sk_h; omega
  have e2 : sk_h a b c d w % 256 = sk_h5 b c d w := by unfold sk_h; omega
  have k3 : sk_g3 a (sk_h a b c d w) = sk_h4 c d w := by
    unfold sk_g3
    rw [e1, e2]
    exact sk_r_inv (sk_h5 b c d w) a (sk_h4 c d w)
  have k4 : sk_g4 a b (sk_h a b c d w) = sk_h3 d w := by
    unfold sk_g4
    rw [k3, e2]
    exact sk_r_inv (sk_h4 c d w) b (sk_h3 d w)
  have k5 : sk_g5 a b c (sk_h a b c d w) = w / 256 := by
    unfold sk_g5
    rw [k4, k3]
    exact sk_r_inv (sk_h3 d w) c (w / 256)
  have k6 : sk_g6 a b c d (sk_h a b c d w) = w % 256 := by
    unfold sk_g6
    rw [k5, k4]
    exact sk_r_inv (w / 256) d (w % 256)
  unfold sk_g
  rw [k5, k6]
  omega
/-! the rounds -/
abbrev sk_S : Type := Nat × Nat × Nat × Nat
def sk_G (K : Nat → Nat) (k w : Nat) : Nat := sk_g (K ((4 * k) % 10)) (K ((4 * k + 1) % 10)) (K ((4 * k + 2) % 10)) (K ((4 * k + 3) % 10)) w
def sk_H (K : Nat → Nat) (k w : Nat) : Nat := sk_h (K ((4 * k) % 10)) (K ((4 * k + 1) % 10)) (K ((4 * k + 2) % 10)) (K ((4 * k + 3) % 10)) w
theorem sk_G_lt (K : Nat → Nat) (k : Nat) {w : Nat} (h : w < 65536) : sk_G K k w < 65536 := sk_g_lt _ _ _ _ h
theorem sk_H_lt (K : Nat → Nat) (k : Nat) {w : Nat} (h : w < 65536) : sk_H K k w < 65536 := sk_h_lt _ _ _ _ h
theorem sk_HG (K : Nat → Nat) (k : Nat) {w : Nat} (h : w < 65536) : sk_H K k (sk_G K k w) = w := sk_hg _ _ _ _ h
theorem sk_GH (K : Nat → Nat) (k : Nat) {w : Nat} (h : w < 65536) : sk_G K k (sk_H K k w) = w := sk_gh _ _ _ _ h
theorem sk_G_congr {K K' : Nat → Nat} (h : ∀ j, j < 10 → K j = K' j) (k w : Nat) : sk_G K k w = sk_G K' k w := by
  unfold sk_G
  rw [h _ (Nat.mod_lt _ (by decide)), h _ (Nat.mod_lt _ (by decide)), h _ (Nat.mod_lt _ (by decide)), h _ (Nat.mod_lt _ (by decide))]
def sk_st (K : Nat → Nat) (k : Nat) (s : sk_S) : sk_S :=
  if (k / 8) % 2 = 0 then (sk_G K k s.1 ^^^ s.2.2.2 ^^^ (k + 1), sk_G K k s.1, s.2.1, s.2.2.1)
  else (s.2.2.2, sk_G K k s.1, s.1 ^^^ s.2.1 ^^^ (k + 1), s.2.2.1)
def sk_un (K : Nat → Nat) (k : Nat) (s : sk_S) : sk_S :=
  if (k / 8) % 2 = 0 then (sk_H K k s.2.1, s.2.2.1, s.2.2.2, s.2.1 ^^^ s.1 ^^^ (k + 1))
  else (sk_H K k s.2.1, sk_H K k s.2.1 ^^^ s.2.2.1 ^^^ (k + 1), s.2.2.2, s.1)
def sk_ok (s : sk_S) : Prop := s.1 < 65536 ∧ s.2.1 < 65536 ∧ s.2.2.1 < 65536 ∧ s.2.2.2 < 65536
theorem sk_xlt {p q : Nat} (h1 : p < 65536) (h2 : q < 65536) : p ^^^ q < 65536 := Nat.xor_lt_two_pow (n := 16) h1 h2
theorem sk_xlt3 {p q k : Nat} (h1 : p < 65536) (h2 : q < 65536) (hk : k < 32) : p ^^^ q ^^^ (k + 1) < 65536 := sk_xlt (sk_xlt h1 h2) (by omega)
theorem sk_x (p q r : Nat) : p ^^^ (p ^^^ q ^^^ r) ^^^ r = q := by
  rw [Nat.xor_assoc p q r, ← Nat.xor_assoc p p, Nat.xor_self, Nat.zero_xor, Nat.xor_assoc, Nat.xor_self, Nat.xor_zero]
theorem sk_st_ok (K : Nat → Nat) {k : Nat} (hk : k < 32) {s : sk_S} (h : sk_ok s) : sk_ok (sk_st K k s) := by
  obtain ⟨x1, x2, x3, x4⟩ := s
  obtain ⟨h1, h2, h3, h4⟩ := h
  unfold sk_st
  split
  · exact ⟨sk_xlt3 (sk_G_lt K k h1) h4 hk, sk_G_lt K k h1, h2, h3⟩
  · exact ⟨h4, sk_G_lt K k h1, sk_xlt3 h1 h2 hk, h3⟩
theorem sk_un_ok (K : Nat → Nat) {k : Nat} (hk : k < 32) {s : sk_S} (h : sk_ok s) : sk_ok (sk_un K k s) := by
  obtain ⟨x1, x2, x3, x4⟩ := s
  obtain ⟨h1, h2, h3, h4⟩ := h
  unfold sk_un
  split
  · exact ⟨sk_H_lt K k h2, h3, h4, sk_xlt3 h2 h1 hk⟩
  · exact ⟨sk_H_lt K k h2, sk_xlt3 (sk_H_lt K k h2) h3 hk, h4, h1⟩
theorem sk_un_st (K : Nat → Nat) (k : Nat) {s : sk_S} (h : sk_ok s) : sk_un K k (sk_st K k s) = s := by
  obtain ⟨x1, x2, x3, x4⟩ := s
  obtain ⟨h1, h2, h3, h4⟩ := h
  unfold sk_un sk_st
  have h1 : x1 < 65536 := h1
  by_cases hc : (k / 8) % 2 = 0
  · rw [if_pos hc, if_pos hc]
    dsimp only
    rw [sk_HG K k h1, sk_x]
  · rw [if_neg hc, if_neg hc]
    dsimp only
    rw [sk_HG K k h1, sk_x]
theorem sk_st_un (K : Nat → Nat) (k : Nat) {s : sk_S} (h : sk_ok s) : sk_st K k (sk_un K k s) = s := by
  obtain ⟨x1, x2, x3, x4⟩ := s
  obtain ⟨h1, h2, h3, h4⟩ := h
  unfold sk_un sk_st
  have h2 : x2 < 65536 := h2
  by_cases hc : (k / 8) % 2 = 0
  · rw [if_pos hc, if_pos hc]
    dsimp only
    rw [sk_GH K k h2, sk_x]
  · rw [if_neg hc, if_neg hc]
    dsimp only
    rw [sk_GH K k h2, sk_x]
def sk_enc (K : Nat → Nat) : Nat → sk_S → sk_S
  | 0, s => s
  | n + 1, s => sk_st K n (sk_enc K n s)
def sk_dec (K : Nat → Nat) : Nat → sk_S → sk_S
  | 0, s => s
  | n + 1, s => sk_un K (31 - n) (sk_dec K n s)
def sk_rev (K : Nat → Nat) : Nat → sk_S → sk_S
  | 0, s => s
  | n + 1, s => sk_rev K n (sk_un K n s)
theorem sk_enc_ok (K : Nat → Nat) {s : sk_S} (h : sk_ok s) : ∀ n, n ≤ 32 → sk_ok (sk_enc K n s)
  | 0, _ => h
  | n + 1, hn => sk_st_ok K (Nat.lt_of_succ_le hn) (sk_enc_ok K h n (Nat.le_of_succ_le hn))
theorem sk_dec_ok (K : Nat → Nat) {s : sk_S} (h : sk_ok s) : ∀ n, n ≤ 32 → sk_ok (sk_dec K n s)
  | 0, _ => h
  | n + 1, hn => sk_un_ok K (by omega) (sk_dec_ok K h n (Nat.le_of_succ_le hn))
theorem sk_rev_dec (K : Nat → Nat) (s : sk_S) : ∀ n, n ≤ 32 → sk_rev K (32 - n) (sk_dec K n s) = sk_rev K 32 s := by
  intro n
  induction n with
  | zero => intro _; rfl
  | succ n ih =>
    intro hn
    have e : 32 - n = (31 - n) + 1 := by omega
    have h := ih (by omega)
    rw [e] at h
    rw [← h, show 32 - (n + 1) = 31 - n by omega]
    rfl
theorem sk_dec_rev (K : Nat → Nat) (s : sk_S) : sk_dec K 32 s = sk_rev K 32 s := sk_rev_dec K s 32 (Nat.le_refl 32)
theorem sk_rev_enc (K : Nat → Nat) {s : sk_S} (h : sk_ok s) : ∀ n, n ≤ 32 → sk_rev K n (sk_enc K n s) = s := by
  intro n
  induction n with
  | zero => intro _; rfl
  | succ n ih =>
    intro hn
    show sk_rev K n (sk_un K n (sk_st K n (sk_enc K n s))) = s
    rw [sk_un_st K n (sk_enc_ok K h n (by omega))]
    exact ih (by omega)
theorem sk_enc_rev (K : Nat → Nat) : ∀ n, n ≤ 32 → ∀ s, sk_ok s → sk_enc K n (sk_rev K n s) = s := by
  intro n
  induction n with
  | zero => intro _ s _; rfl
  | succ n ih =>
    intro hn s h
    show sk_st K n (sk_enc K n (sk_rev K n (sk_un K n s))) = s
    rw [ih (by omega) _ (sk_un_ok K (by omega) h), sk_st_un K n h]
theorem sk_dec_enc (K : Nat → Nat) {s : sk_S} (h : sk_ok s) : sk_dec K 32 (sk_enc K 32 s) = s := by
  rw [sk_dec_rev]; exact sk_rev_enc K h 32 (Nat.le_refl 32)
theorem sk_enc_dec (K : Nat → Nat) {s : sk_S} (h : sk_ok s) : sk_enc K 32 (sk_dec K 32 s) = s := by
  rw [sk_dec_rev]; exact sk_enc_rev K 32 (Nat.le_refl 32) s h
theorem sk_enc_congr {K K' : Nat → Nat} (h : ∀ j, j < 10 → K j = K' j) (s : sk_S) : ∀ n, sk_enc K n s = sk_enc K' n s := by
  intro n
  induction n with
  | zero => rfl
  | succ n ih =>
    show sk_st K n (sk_enc K n s) = sk_st K' n (sk_enc K' n s)
    rw [ih]
    unfold sk_st
    rw [sk_G_congr h]
theorem sk_H_congr {K K' : Nat → Nat} (h : ∀ j, j < 10 → K j = K' j) (k w : Nat) : sk_H K k w = sk_H K' k w := by
  unfold sk_H
  rw [h _ (Nat.mod_lt _ (by decide)), h _ (Nat.mod_lt _ (by decide)), h _ (Nat.mod_lt _ (by decide)), h _ (Nat.mod_lt _ (by decide))]
theorem sk_dec_congr {K K' : Nat → Nat} (h : ∀ j, j < 10 → K j = K' j) (s : sk_S) : ∀ n, sk_dec K n s = sk_dec K' n s := by
  intro n
  induction n with
  | zero => rfl
  | succ n ih =>
    show sk_un K (31 - n) (sk_dec K n s) = sk_un K' (31 - n) (sk_dec K' n s)
    rw [ih]
    unfold sk_un
    rw [sk_H_congr h]
/-- lock (1) or back (0) -/
def sk_do (en : Int32) (K : Nat → Nat) (s : sk_S) : sk_S := if en = 0 then sk_dec K 32 s else sk_enc K 32 s
theorem sk_do_congr (en : Int32) {K K' : Nat → Nat} (h : ∀ j, j < 10 → K j = K' j) (s : sk_S) : sk_do en K s = sk_do en K' s := by
  unfold sk_do
  rw [sk_dec_congr h s 32, sk_enc_congr h s 32]
theorem sk_do_0 (K : Nat → Nat) (s : sk_S) : sk_do 0 K s = sk_dec K 32 s := if_pos rfl
theorem sk_do_1 (K : Nat → Nat) (s : sk_S) : sk_do 1 K s = sk_enc K 32 s := if_neg (by decide)
/-! the published answer, a round a row -/
def sk_KL : List Nat := [0, 153, 136, 119, 102, 85, 68, 51, 34, 17]
def sk_K0 (j : Nat) : Nat := sk_KL.getD j 0
theorem sk_v0 : sk_st sk_K0 0 (13090, 4352, 56780, 48042) = (45060, 2991, 4352, 56780) := by decide +kernel
theorem sk_v1 : sk_st sk_K0 1 (45060, 2991, 4352, 56780) = (59016, 15174, 2991, 4352) := by decide +kernel
theorem sk_v2 : sk_st sk_K0 2 (59016, 15174, 2991, 4352) = (15478, 11637, 15174, 2991) := by decide +kernel
theorem sk_v3 : sk_st sk_K0 3 (15478, 11637, 15174, 2991) = (19525, 18414, 11637, 15174) := by decide +kernel
theorem sk_v4 : sk_st sk_K0 4 (19525, 18414, 11637, 15174) = (47433, 33290, 18414, 11637) := by decide +kernel
theorem sk_v5 : sk_st sk_K0 5 (47433, 33290, 18414, 11637) = (61667, 56720, 33290, 18414) := by decide +kernel
theorem sk_v6 : sk_st sk_K0 6 (61667, 56720, 33290, 18414) = (63929, 48720, 56720, 33290) := by decide +kernel
theorem sk_v7 : sk_st sk_K0 7 (63929, 48720, 56720, 33290) = (55195, 21913, 48720, 56720) := by decide +kernel
theorem sk_v8 : sk_st sk_K0 8 (55195, 21913, 48720, 56720) = (56720, 7691, 33291, 48720) := by decide +kernel
theorem sk_v9 : sk_st sk_K0 9 (56720, 7691, 33291, 48720) = (48720, 19538, 50065, 33291) := by decide +kernel
theorem sk_v10 : sk_st sk_K0 10 (48720, 19538, 50065, 33291) = (33291, 32593, 61961, 50065) := by decide +kernel
theorem sk_v11 : sk_st sk_K0 11 (33291, 32593, 61961, 50065) = (50065, 63938, 64854, 61961) := by decide +kernel
theorem sk_v12 : sk_st sk_K0 12 (50065, 63938, 64854, 61961) = (61961, 9727, 14942, 64854) := by decide +kernel
theorem sk_v13 : sk_st sk_K0 13 (61961, 9727, 14942, 64854) = (64854, 26074, 55288, 14942) := by decide +kernel
theorem sk_v14 : sk_st sk_K0 14 (64854, 26074, 55288, 14942) = (14942, 27097, 39043, 55288) := by decide +kernel
theorem sk_v15 : sk_st sk_K0 15 (14942, 27097, 39043, 55288) = (55288, 35216, 21399, 39043) := by decide +kernel
theorem sk_v16 : sk_st sk_K0 16 (55288, 35216, 21399, 39043) = (39936, 1170, 35216, 21399) := by decide +kernel
theorem sk_v17 : sk_st sk_K0 17 (39936, 1170, 35216, 21399) = (40924, 52313, 1170, 35216) := by decide +kernel
theorem sk_v18 : sk_st sk_K0 18 (40924, 52313, 1170, 35216) = (14129, 48818, 52313, 1170) := by decide +kernel
theorem sk_v19 : sk_st sk_K0 19 (14129, 48818, 52313, 1170) = (31483, 32381, 48818, 52313) := by decide +kernel
theorem sk_v20 : sk_st sk_K0 20 (31483, 32381, 48818, 52313) = (30553, 47893, 32381, 48818) := by decide +kernel
theorem sk_v21 : sk_st sk_K0 21 (30553, 47893, 32381, 48818) = (64356, 17856, 47893, 32381) := by decide +kernel
theorem sk_v22 : sk_st sk_K0 22 (64356, 17856, 47893, 32381) = (28543, 4373, 17856, 47893) := by decide +kernel
theorem sk_v23 : sk_st sk_K0 23 (28543, 4373, 17856, 47893) = (26023, 57002, 4373, 17856) := by decide +kernel
theorem sk_v24 : sk_st sk_K0 24 (26023, 57002, 4373, 17856) = (17856, 57593, 47892, 4373) := by decide +kernel
theorem sk_v25 : sk_st sk_K0 25 (17856, 57593, 47892, 4373) = (4373, 14611, 42275, 47892) := by decide +kernel
theorem sk_v26 : sk_st sk_K0 26 (4373, 14611, 42275, 47892) = (47892, 36582, 10269, 42275) := by decide +kernel
theorem sk_v27 : sk_st sk_K0 27 (47892, 36582, 10269, 42275) = (42275, 49122, 13806, 10269) := by decide +kernel
theorem sk_v28 : sk_st sk_K0 28 (42275, 49122, 13806, 10269) = (10269, 3460, 6876, 13806) := by decide +kernel
theorem sk_v29 : sk_st sk_K0 29 (10269, 3460, 6876, 13806) = (13806, 59121, 9607, 6876) := by decide +kernel
theorem sk_v30 : sk_st sk_K0 30 (13806, 59121, 9607, 6876) = (6876, 24814, 54016, 9607) := by decide +kernel
theorem sk_v31 : sk_st sk_K0 31 (6876, 24814, 54016, 9607) = (9607, 51938, 31250, 54016) := by decide +kernel
theorem sk_known : sk_enc sk_K0 32 (13090, 4352, 56780, 48042) = (9607, 51938, 31250, 54016) := by
  simp only [sk_enc, sk_v0, sk_v1, sk_v2, sk_v3, sk_v4, sk_v5, sk_v6, sk_v7, sk_v8, sk_v9, sk_v10, sk_v11, sk_v12, sk_v13, sk_v14, sk_v15, sk_v16, sk_v17, sk_v18, sk_v19, sk_v20, sk_v21, sk_v22, sk_v23, sk_v24, sk_v25, sk_v26, sk_v27, sk_v28, sk_v29, sk_v30, sk_v31]
/-! Int32: the low word, the low byte -/
def sk_lo (w : Int32) : Nat := w.toBitVec.toNat % 65536
def sk_by (v : Int32) : Nat := v.toBitVec.toNat % 256
theorem sk_lo_lt (w : Int32) : sk_lo w < 65536 := Nat.mod_lt _ (by decide)
theorem sk_by_lt (w : Int32) : sk_by w < 256 := Nat.mod_lt _ (by decide)
theorem sk_ti (v : Int32) : v.toInt = if 2 * v.toBitVec.toNat < 4294967296 then (v.toBitVec.toNat : Int) else (v.toBitVec.toNat : Int) - 4294967296 := BitVec.toInt_eq_toNat_cond _
theorem sk_tn (v : Int32) : v.toBitVec.toNat < 4294967296 := v.toBitVec.isLt
theorem sk_sh8 (w : Int32) : (w >>> ((8 : Int32) &&& 31)).toBitVec.toNat % 256 = w.toBitVec.toNat % 65536 / 256 := by
  have h := pk_shr w ((8 : Int32) &&& 31) 8 (by decide)
  rw [Int.shiftRight_eq_div_pow] at h
  have h1 := sk_ti w
  have h2 := sk_ti (w >>> ((8 : Int32) &&& 31))
  have h3 := sk_tn w
  have h4 := sk_tn (w >>> ((8 : Int32) &&& 31))
  have h5 : w.toInt / ((2 ^ 8 : Nat) : Int) = w.toInt / 256 := rfl
  rw [h5] at h
  generalize (w >>> ((8 : Int32) &&& 31)).toInt = A at h h2
  generalize (w >>> ((8 : Int32) &&& 31)).toBitVec.toNat = B at h2 h4 ⊢
  generalize w.toInt = C at h h1
  generalize w.toBitVec.toNat = D at h1 h3 ⊢
  subst h
  split at h1 <;> split at h2 <;> omega
theorem sk_hi8 (w : Int32) : (w >>> ((8 : Int32) &&& 31)) &&& 255 = nI (sk_lo w / 256) := by
  rw [pk_and _ 8 (by decide)]
  exact congrArg nI (sk_sh8 w)
theorem sk_lo8 (w : Int32) : w &&& 255 = nI (sk_lo w % 256) := by
  rw [pk_and _ 8 (by decide)]
  exact congrArg nI (show w.toBitVec.toNat % 256 = w.toBitVec.toNat % 65536 % 256 by omega)
theorem sk_and8 (w : Int32) : w &&& 255 = nI (sk_by w) := pk_and _ 8 (by decide)
theorem sk_nx (a b : Nat) : nI a ^^^ nI b = nI (a ^^^ b) := by
  apply Int32.toBitVec_inj.1
  show BitVec.ofNat 32 a ^^^ BitVec.ofNat 32 b = BitVec.ofNat 32 (a ^^^ b)
  apply BitVec.eq_of_getLsbD_eq
  intro i hi
  simp [hi]
theorem sk_shl8 {a : Nat} (h : a < 256) : nI a <<< ((8 : Int32) &&& 31) = nI (a * 256) := pk_shlN _ 8 (by decide) (by omega)
theorem sk_tnN {n : Nat} (h : n < 65536) : (nI n).toBitVec.toNat = n := pk_tn (by omega)
theorem sk_lo_nI {n : Nat} (h : n < 65536) : sk_lo (nI n) = n := by
  unfold sk_lo
  rw [sk_tnN h]
  omega
theorem sk_lo_xor (x y : Int32) : sk_lo (x ^^^ y) = sk_lo x ^^^ sk_lo y := by
  unfold sk_lo
  rw [Int32.toBitVec_xor, BitVec.toNat_xor]
  exact Nat.xor_mod_two_pow (n := 16)
theorem sk_word (f0 f1 : Int32) : sk_lo ((f0 <<< ((8 : Int32) &&& 31)) + (f1 &&& 255)) = sk_by f0 * 256 + sk_by f1 := by
  unfold sk_lo sk_by
  rw [Int32.toBitVec_add, BitVec.toNat_add, pk_shl _ _ 8 (by decide), pk_and _ 8 (by decide)]
  have h1 : (nI (f1.toBitVec.toNat % 2 ^ 8)).toBitVec.toNat = f1.toBitVec.toNat % 256 := sk_tnN (by omega)
  rw [h1]
  omega
theorem sk_bp (v : Int32) : v.toInt8.toInt32 &&& 255 = v &&& 255 := by
  apply Int32.toBitVec_inj.mp
  rw [Int32.toBitVec_and, Int32.toBitVec_and, Int8.toBitVec_toInt32, Int32.toBitVec_toInt8]
  apply BitVec.eq_of_getLsbD_eq
  intro i hi
  rw [BitVec.getLsbD_and, BitVec.getLsbD_and]
  have hm : ∀ i < 32, 8 ≤ i → (255 : Int32).toBitVec.getLsbD i = false := by decide
  rcases Nat.lt_or_ge i 8 with z | z
  · rw [BitVec.getLsbD_signExtend, BitVec.getLsbD_signExtend, if_pos z, if_pos hi]
    simp only [z, hi, decide_true, Bool.true_and]
  · rw [hm i hi z]; simp
theorem sk_nIinj {a b : Nat} (ha : a < 65536) (hb : b < 65536) (h : nI a = nI b) : a = b := (nI_eq (by omega) (by omega)).mp h
theorem sk_by_i8 (v : Int32) : sk_by v.toInt8.toInt32 = sk_by v := by
  have h := sk_bp v
  rw [sk_and8, sk_and8] at h
  exact sk_nIinj (by have := sk_by_lt v.toInt8.toInt32; omega) (by have := sk_by_lt v; omega) h
theorem sk_by_nar (v : Int32) : sk_by (vp_nar .byte v) = sk_by v := by rw [vp_nar_byte, sk_by_i8]
theorem sk_by_lo (w : Int32) : sk_by w = sk_lo w % 256 := by
  unfold sk_by sk_lo
  omega
theorem sk_by_hi (w : Int32) : sk_by (w >>> ((8 : Int32) &&& 31)) = sk_lo w / 256 := sk_sh8 w
/-- byte j of an int, the highest first -/
def sk_wb (w : Int32) (j : Nat) : Nat := w.toBitVec.toNat / 2 ^ (24 - 8 * j) % 256
theorem sk_wb_lt (w : Int32) (j : Nat) : sk_wb w j < 256 := Nat.mod_lt _ (by decide)
theorem sk_shk (w s : Int32) (k : Nat) (hk : k ≤ 24) (hs : (s.toBitVec.smod 32).toNat = k) : sk_by (w >>> s) = w.toBitVec.toNat / 2 ^ k % 256 := by
  unfold sk_by
  have hb : (w >>> s).toBitVec = w.toBitVec.sshiftRight k := by
    rw [← hs]; rfl
  rw [hb, show (256 : Nat) = 2 ^ 8 from rfl, ← Nat.shiftRight_eq_div_pow]
  apply Nat.eq_of_testBit_eq
  intro i
  rw [Nat.testBit_mod_two_pow, Nat.testBit_mod_two_pow, Nat.testBit_shiftRight]
  by_cases hi : i < 8
  · simp only [hi, decide_true, Bool.true_and]
    show (w.toBitVec.sshiftRight k).getLsbD i = w.toBitVec.getLsbD (k + i)
    rw [BitVec.getLsbD_sshiftRight]
    have h1 : ¬ 32 ≤ i := by omega
    have h2 : k + i < 32 := by omega
    simp [h1, h2]
  · simp only [hi, decide_false, Bool.false_and]
theorem sk_wb0 (w : Int32) : sk_by (w >>> ((24 : Int32) &&& 31)) = sk_wb w 0 := sk_shk w _ 24 (by decide) (by decide)
theorem sk_wb1 (w : Int32) : sk_by (w >>> ((16 : Int32) &&& 31)) = sk_wb w 1 := sk_shk w _ 16 (by decide) (by decide)
theorem sk_wb2 (w : Int32) : sk_by (w >>> ((8 : Int32) &&& 31)) = sk_wb w 2 := sk_shk w _ 8 (by decide) (by decide)
theorem sk_wb3 (w : Int32) : sk_by w = sk_wb w 3 := by
  unfold sk_by sk_wb
  rw [show 24 - 8 * 3 = 0 from rfl, Nat.pow_zero, Nat.div_one]
/-! the block as four words -/
def sk_w (f : Nat → Int32) (i : Nat) : Nat := sk_by (f i) * 256 + sk_by (f (i + 1))
def sk_of (f : Nat → Int32) : sk_S := (sk_w f 0, sk_w f 2, sk_w f 4, sk_w f 6)
theorem sk_w_lt (f : Nat → Int32) (i : Nat) : sk_w f i < 65536 := by
  have h1 := sk_by_lt (f i)
  have h2 := sk_by_lt (f (i + 1))
  unfold sk_w
  omega
theorem sk_of_ok (f : Nat → Int32) : sk_ok (sk_of f) := ⟨sk_w_lt f 0, sk_w_lt f 2, sk_w_lt f 4, sk_w_lt f 6⟩
/-- the bytes of f are the block s -/
def sk_is (f : Nat → Int32) (s : sk_S) : Prop := sk_by (f 0) = s.1 / 256 ∧ sk_by (f 1) = s.1 % 256 ∧ sk_by (f 2) = s.2.1 / 256 ∧ sk_by (f 3) = s.2.1 % 256 ∧ sk_by (f 4) = s.2.2.1 / 256 ∧ sk_by (f 5) = s.2.2.1 % 256 ∧ sk_by (f 6) = s.2.2.2 / 256 ∧ sk_by (f 7) = s.2.2.2 % 256
theorem sk_is_of {f : Nat → Int32} {s : sk_S} (h : sk_is f s) : sk_of f = s := by
  obtain ⟨x1, x2, x3, x4⟩ := s
  obtain ⟨h0, h1, h2, h3, h4, h5, h6, h7⟩ := h
  dsimp only at h0 h1 h2 h3 h4 h5 h6 h7
  unfold sk_of sk_w
  rw [h0, h1, h2, h3, h4, h5, h6, h7]
  rw [Nat.div_add_mod' x1 256, Nat.div_add_mod' x2 256, Nat.div_add_mod' x3 256, Nat.div_add_mod' x4 256]
theorem sk_of_by {f g : Nat → Int32} (h : sk_of f = sk_of g) : ∀ j, j < 8 → sk_by (f j) = sk_by (g j) := by
  have e : ∀ i, sk_w f i = sk_w g i → sk_by (f i) = sk_by (g i) ∧ sk_by (f (i + 1)) = sk_by (g (i + 1)) := by
    intro i hi
    have h1 := sk_by_lt (f i)
    have h2 := sk_by_lt (f (i + 1))
    have h3 := sk_by_lt (g i)
    have h4 := sk_by_lt (g (i + 1))
    unfold sk_w at hi
    omega
  unfold sk_of at h
  obtain ⟨a0, h⟩ := Prod.mk.inj h
  obtain ⟨a2, h⟩ := Prod.mk.inj h
  obtain ⟨a4, a6⟩ := Prod.mk.inj h
  intro j hj
  have b0 := e 0 a0
  have b2 := e 2 a2
  have b4 := e 4 a4
  have b6 := e 6 a6
  match j, hj with
  | 0, _ => exact b0.1
  | 1, _ => exact b0.2
  | 2, _ => exact b2.1
  | 3, _ => exact b2.2
  | 4, _ => exact b4.1
  | 5, _ => exact b4.2
  | 6, _ => exact b6.1
  | 7, _ => exact b6.2
  | n + 8, h => exact absurd h (by omega)
theorem sk_of_congr {f g : Nat → Int32} (h : ∀ j, j < 8 → sk_by (f j) = sk_by (g j)) : sk_of f = sk_of g := by
  unfold sk_of sk_w
  rw [h 0 (by decide), h 1 (by decide), h 2 (by decide), h 3 (by decide), h 4 (by decide), h 5 (by decide), h 6 (by decide), h 7 (by decide)]
end
section
/-! worlds, environment and call rows of this claim -/
abbrev vwCl : List vw_C := [(RX1, TX1, 3), (RX2, TX2, 5), (RX3, TX3, 1)]
abbrev sk_ty (dB dJ : ClassId) : List (ClassId × FieldType) := [(dB, .byte), (dJ, .int)]
def yB_init : MethodName := ⟨"BlockCipher", "init", "(ZLCipherParameters;)V"⟩
def yB_proc : MethodName := ⟨"BlockCipher", "processBlock", "([BI[BI)I"⟩
theorem yB_init_ok : yB_init.cls ≠ "java/lang/invoke/MethodHandle" ∧ yB_init.cls ≠ "java/lang/invoke/VarHandle" := ⟨by decide +kernel, by decide +kernel⟩
theorem yB_proc_ok : yB_proc.cls ≠ "java/lang/invoke/MethodHandle" ∧ yB_proc.cls ≠ "java/lang/invoke/VarHandle" := ⟨by decide +kernel, by decide +kernel⟩
/-- what nobody writes: the table; and how the engine is reached through its interface -/
def sk_E (ft : Nat) (A : Nat → Prop) (U : State) (H : Heap) : Prop :=
  va_Z "SkipjackEngine" "ftable" "[S" (.ref ft) A U H ∧ va_T .short ft 256 (fun j => .int (nI (sk_f j))) A U H ∧ va_Fw RX2 yB_init yX2_init_2 U ∧ va_Fw RX2 yB_proc yX2_processBlock U
theorem sk_E.moved {ft : Nat} {A : Nat → Prop} {u U : State} {H : Heap} (hvm : u.vm.Alike U.vm) (h : sk_E ft A u H) : sk_E ft A U H := by
  obtain ⟨h1, h2, h3, h4⟩ := h
  exact ⟨va_Z.moved hvm h1, va_T.moved hvm h2, va_Fw.moved yB_init_ok hvm h3, va_Fw.moved yB_proc_ok hvm h4⟩
theorem sk_E.pass {ft : Nat} {A B : Nat → Prop} {s U : State} {H : Heap} {locs : List Loc} (h : sk_E ft A s s.heap) (hS : va_S A s.heap H locs) (hAB : ∀ q, B q → A q) (hU : U.heap = H) (hvm : s.vm.Alike U.vm) : sk_E ft B U U.heap := by
  obtain ⟨h1, h2, h3, h4⟩ := h
  rw [hU]
  exact ⟨va_Z.moved hvm ((h1.kept hS.2.1).narrow hAB), va_T.moved hvm ((h2.kept hS.2.1).narrow hAB), va_Fw.moved yB_init_ok hvm h3, va_Fw.moved yB_proc_ok hvm h4⟩
/-- a contract's start: the callee's cells, the classes, the environment -/
def sk_Pre (G : va_G) (dB dJ : ClassId) (ft : Nat) (av : List Value) (sz : Nat) (ws : va_W) : Array Value → State → Prop :=
  va_Pc av (fun U => U.heap.size = sz ∧ va_P G vwCl ws U.heap ∧ va_K G vwCl (sk_ty dB dJ) U ∧ va_D (fun _ => True) ws ∧ sk_E ft (va_A ws sz) U U.heap)
/-- the same, of a method that only reads -/
def sk_PreR (G : va_G) (dB dJ : ClassId) (ft : Nat) (av : List Value) (ws : va_W) : Array Value → State → Prop :=
  va_Pc av (fun U => va_P G vwCl ws U.heap ∧ va_K G vwCl (sk_ty dB dJ) U ∧ sk_E ft (fun _ => False) U U.heap)
theorem sk_blind {G : va_G} {dB dJ : ClassId} {ft : Nat} {av : List Value} {sz : Nat} {ws : va_W} : FrameBlind (sk_Pre G dB dJ ft av sz ws) := fun a U g mk q => by
  obtain ⟨q0, q1, qP, qK, qD, qE⟩ := q
  exact ⟨q0, q1, qP, va_K.moved (u := U) (U := U.calling g mk a) (Vm.Alike.refl U.vm) qK, qD, sk_E.moved (u := U) (U := U.calling g mk a) (Vm.Alike.refl U.vm) qE⟩
theorem sk_blindR {G : va_G} {dB dJ : ClassId} {ft : Nat} {av : List Value} {ws : va_W} : FrameBlind (sk_PreR G dB dJ ft av ws) := fun a U g mk q => by
  obtain ⟨q0, qP, qK, qE⟩ := q
  exact ⟨q0, qP, va_K.moved (u := U) (U := U.calling g mk a) (Vm.Alike.refl U.vm) qK, sk_E.moved (u := U) (U := U.calling g mk a) (Vm.Alike.refl U.vm) qE⟩
theorem sk_cut {G : va_G} {ws wc : va_W} {H : Heap} (hP : va_P G vwCl ws H) (isC : List Nat) (hC : isC.map (fun i => ws[i]?) = wc.map some) : va_P G vwCl wc H := fun k q hk => by
  obtain ⟨i, -, hi⟩ := va_in_of isC hC hk
  exact hP i q hi
theorem sk_pre {G : va_G} {dB dJ : ClassId} {ft : Nat} {s : State} {H : Heap} {locs : List Loc} {A : Nat → Prop} {ws wc : va_W} (hP : va_P G vwCl ws H) (hD : va_D A ws) (hK : va_K G vwCl (sk_ty dB dJ) s) (hE : sk_E ft A s s.heap) (hS : va_S A s.heap H locs) (hA : ∀ q, s.heap.size ≤ q → A q) (av : List Value) (isC : List Nat) (hC : isC.map (fun i => ws[i]?) = wc.map some) (hn : va_nd isC = true) :
    ∀ U : State, U.heap = H → s.WarmedH U.vm → sk_Pre G dB dJ ft av H.size wc av.toArray U := by
  intro U hU hW
  have hF := va_free (wc := wc) hD hS hA isC hC
  exact ⟨rfl, by rw [hU], by rw [hU]; exact sk_cut hP isC hC, va_K.moved hW.alike hK, (hD.sub isC hn hC).weaken (fun _ _ _ _ => trivial), hE.pass hS hF hU hW.alike⟩
theorem sk_preR {G : va_G} {dB dJ : ClassId} {ft : Nat} {s : State} {H : Heap} {locs : List Loc} {A : Nat → Prop} {ws wc : va_W} (hP : va_P G vwCl ws H) (hK : va_K G vwCl (sk_ty dB dJ) s) (hE : sk_E ft A s s.heap) (hS : va_S A s.heap H locs) (av : List Value) (isC : List Nat) (hC : isC.map (fun i => ws[i]?) = wc.map some) :
    ∀ U : State, U.heap = H → s.WarmedH U.vm → sk_PreR G dB dJ ft av wc av.toArray U := by
  intro U hU hW
  exact ⟨rfl, by rw [hU]; exact sk_cut hP isC hC, va_K.moved hW.alike hK, hE.pass hS (fun _ h => h.elim) hU hW.alike⟩
/-- a contract's end: the new cells, by what is said of them -/
abbrev sk_B (G : va_G) (A : Nat → Prop) (Rr : va_W → Prop) : Unit → State → Prop := fun _ t => ∃ w1 : va_W, Rr w1 ∧ va_P G vwCl w1 t.heap ∧ va_D A w1
abbrev sk_Qv (G : va_G) (A : Nat → Prop) (Rr : va_W → Prop) : Array Value → State → Outcome → State → Prop := va_Qv (fun _ : Unit => True) (sk_B G A Rr) A
abbrev sk_Qi (G : va_G) (A : Nat → Prop) (post : Int32 → Prop) (Rr : va_W → Prop) : Array Value → State → Outcome → State → Prop := va_Qi (fun (r : Int32) (_ : Unit) => post r) (sk_B G A Rr) A
abbrev sk_Qr (G : va_G) (A : Nat → Prop) (Rr : Nat → va_W → Prop) : Array Value → State → Outcome → State → Prop := va_Qr (fun _ : Unit => True) (fun (_ : Unit) (a : Nat) (t : State) => ∃ w1 : va_W, Rr a w1 ∧ va_P G vwCl w1 t.heap ∧ va_D A w1) A
section SKC
variable {p : Program} {l : Launch} {e : Env} {R : Room} {s : State} {m : MethodId} {args : Array Value} {below : List Frame} {meth : Method} {c : Code} {H : Heap} {locs : List Loc} {cells slots : Nat} {Q : State → Prop}
variable {pc : Nat} {ls : Array Slot} {rest st0 : List Value} {a : Array Value} {A : Nat → Prop} {H0 : Heap} {mc ms : Nat} {G : va_G} {ws wc : va_W}
theorem sk_cv {Rr : va_W → Prop} (hr : va_Run p l e R s m args below meth c H locs cells slots mc ms (F0 m pc ls st0) rest (sk_Qv G (va_A wc H.size) Rr a) (va_A wc H.size)) (hP : va_P G vwCl ws H) (hD : va_D A ws) (hS : va_S A H0 H locs) (hA : ∀ q, H0.size ≤ q → A q) (isC isR : List Nat) (wr : va_W) (hC : isC.map (fun i => ws[i]?) = wc.map some) (hR : isR.map (fun i => ws[i]?) = wr.map some) (hn : va_nd isR = true) (hdis : ∀ i ∈ isR, i ∉ isC)
    (kk : ∀ (w1 : va_W) (H1 : Heap) (locs1 : List Loc), Rr w1 → va_P G vwCl (wr ++ w1) H1 → va_D A (wr ++ w1) → va_S A H0 H1 locs1 → W p l e R s m args below meth c H1 locs1 (cells + mc) (slots + ms) Q (F0 m (pc + 3) ls rest)) : W p l e R s m args below meth c H locs cells slots Q (F0 m pc ls st0) := by
  have hF := va_free (wc := wc) hD hS hA isC hC
  refine va_callv hr hS (fun q _ h => hF q h) hF (fun u t H1 locs1 ht hvm _ hB hz1 hk1 hS1 => ?_)
  obtain ⟨w1, hR1, hP1, hD1⟩ := hB
  rw [ht] at hP1
  obtain ⟨hP2, hD2⟩ := va_join hP hD isC isR hC hR hn hdis hk1 hF hP1 hD1
  exact kk w1 H1 locs1 hR1 hP2 hD2 hS1
theorem sk_ci {post : Int32 → Prop} {Rr : va_W → Prop} (hr : va_Run p l e R s m args below meth c H locs cells slots mc ms (F0 m pc ls st0) rest (sk_Qi G (va_A wc H.size) post Rr a) (va_A wc H.size)) (hP : va_P G vwCl ws H) (hD : va_D A ws) (hS : va_S A H0 H locs) (hA : ∀ q, H0.size ≤ q → A q) (isC isR : List Nat) (wr : va_W) (hC : isC.map (fun i => ws[i]?) = wc.map some) (hR : isR.map (fun i => ws[i]?) = wr.map some) (hn : va_nd isR = true) (hdis : ∀ i ∈ isR, i ∉ isC)
    (kk : ∀ (r : Int32) (w1 : va_W) (H1 : Heap) (locs1 : List Loc), post r → Rr w1 → va_P G vwCl (wr ++ w1) H1 → va_D A (wr ++ w1) → va_S A H0 H1 locs1 → W p l e R s m args below meth c H1 locs1 (cells + mc) (slots + ms) Q (F0 m (pc + 3) ls (.int r :: rest))) : W p l e R s m args below meth c H locs cells slots Q (F0 m pc ls st0) := by
  have hF := va_free (wc := wc) hD hS hA isC hC
  refine va_calli hr hS (fun q _ h => hF q h) hF (fun r u t H1 locs1 ht hvm hp hB hz1 hk1 hS1 => ?_)
  obtain ⟨w1, hR1, hP1, hD1⟩ := hB
  rw [ht] at hP1
  obtain ⟨hP2, hD2⟩ := va_join hP hD isC isR hC hR hn hdis hk1 hF hP1 hD1
  exact kk r w1 H1 locs1 hp hR1 hP2 hD2 hS1
theorem sk_cr {Rr : Nat → va_W → Prop} (hr : va_Run p l e R s m args below meth c H locs cells slots mc ms (F0 m pc ls st0) rest (sk_Qr G (va_A wc H.size) Rr a) (va_A wc H.size)) (hP : va_P G vwCl ws H) (hD : va_D A ws) (hS : va_S A H0 H locs) (hA : ∀ q, H0.size ≤ q → A q) (isC isR : List Nat) (wr : va_W) (hC : isC.map (fun i => ws[i]?) = wc.map some) (hR : isR.map (fun i => ws[i]?) = wr.map some) (hn : va_nd isR = true) (hdis : ∀ i ∈ isR, i ∉ isC)
    (kk : ∀ (ra : Nat) (w1 : va_W) (H1 : Heap) (locs1 : List Loc), Rr ra w1 → va_P G vwCl (wr ++ w1) H1 → va_D A (wr ++ w1) → va_S A H0 H1 locs1 → W p l e R s m args below meth c H1 locs1 (cells + mc) (slots + ms) Q (F0 m (pc + 3) ls (.ref ra :: rest))) : W p l e R s m args below meth c H locs cells slots Q (F0 m pc ls st0) := by
  have hF := va_free (wc := wc) hD hS hA isC hC
  refine va_callr hr hS (fun q _ h => hF q h) hF (fun u ra t H1 locs1 ht hvm hp hB hz1 hk1 hS1 => ?_)
  obtain ⟨w1, hR1, hP1, hD1⟩ := hB
  rw [ht] at hP1
  obtain ⟨hP2, hD2⟩ := va_join hP hD isC isR hC hR hn hdis hk1 hF hP1 hD1
  exact kk ra w1 H1 locs1 hR1 hP2 hD2 hS1
theorem sk_cFv {Rr : va_W → Prop} (hr : va_Run5 p l e R s m args below meth c H locs cells slots mc ms (F0 m pc ls st0) rest (sk_Qv G (va_A wc H.size) Rr a) (va_A wc H.size)) (hP : va_P G vwCl ws H) (hD : va_D A ws) (hS : va_S A H0 H locs) (hA : ∀ q, H0.size ≤ q → A q) (isC isR : List Nat) (wr : va_W) (hC : isC.map (fun i => ws[i]?) = wc.map some) (hR : isR.map (fun i => ws[i]?) = wr.map some) (hn : va_nd isR = true) (hdis : ∀ i ∈ isR, i ∉ isC)
    (kk : ∀ (w1 : va_W) (H1 : Heap) (locs1 : List Loc), Rr w1 → va_P G vwCl (wr ++ w1) H1 → va_D A (wr ++ w1) → va_S A H0 H1 locs1 → W p l e R s m args below meth c H1 locs1 (cells + mc) (slots + ms) Q (F0 m (pc + 5) ls rest)) : W p l e R s m args below meth c H locs cells slots Q (F0 m pc ls st0) := by
  have hF := va_free (wc := wc) hD hS hA isC hC
  refine va_callFv hr hS (fun q _ h => hF q h) hF (fun u t H1 locs1 ht hvm _ hB hz1 hk1 hS1 => ?_)
  obtain ⟨w1, hR1, hP1, hD1⟩ := hB
  rw [ht] at hP1
  obtain ⟨hP2, hD2⟩ := va_join hP hD isC isR hC hR hn hdis hk1 hF hP1 hD1
  exact kk w1 H1 locs1 hR1 hP2 hD2 hS1
theorem sk_cFi {post : Int32 → Prop} {Rr : va_W → Prop} (hr : va_Run5 p l e R s m args below meth c H locs cells slots mc ms (F0 m pc ls st0) rest (sk_Qi G (va_A wc H.size) post Rr a) (va_A wc H.size)) (hP : va_P G vwCl ws H) (hD : va_D A ws) (hS : va_S A H0 H locs) (hA : ∀ q, H0.size ≤ q → A q) (isC isR : List Nat) (wr : va_W) (hC : isC.map (fun i => ws[i]?) = wc.map some) (hR : isR.map (fun i => ws[i]?) = wr.map some) (hn : va_nd isR = true) (hdis : ∀ i ∈ isR, i ∉ isC)
    (kk : ∀ (r : Int32) (w1 : va_W) (H1 : Heap) (locs1 : List Loc), post r → Rr w1 → va_P G vwCl (wr ++ w1) H1 → va_D A (wr ++ w1) → va_S A H0 H1 locs1 → W p l e R s m args below meth c H1 locs1 (cells + mc) (slots + ms) Q (F0 m (pc + 5) ls (.int r :: rest))) : W p l e R s m args below meth c H locs cells slots Q (F0 m pc ls st0) := by
  have hF := va_free (wc := wc) hD hS hA isC hC
  refine va_callFi hr hS (fun q _ h => hF q h) hF (fun r u t H1 locs1 ht hvm hp hB hz1 hk1 hS1 => ?_)
  obtain ⟨w1, hR1, hP1, hD1⟩ := hB
  rw [ht] at hP1
  obtain ⟨hP2, hD2⟩ := va_join hP hD isC isR hC hR hn hdis hk1 hF hP1 hD1
  exact kk r w1 H1 locs1 hp hR1 hP2 hD2 hS1
/-- the number on top under another form -/
theorem sk_top {v w : Int32} (h : v = w) (k : W p l e R s m args below meth c H locs cells slots Q (F0 m pc ls (.int w :: rest))) : W p l e R s m args below meth c H locs cells slots Q (F0 m pc ls (.int v :: rest)) := by
  rw [h]; exact k
variable {cc : ByteArray} {dB dJ : ClassId}
theorem sk_sameB {cA : ClassId} (h : va_K G vwCl (sk_ty dB dJ ++ [(cA, .byte)]) s) : cA = dB := by
  have h1 := va_nm_byte (h.2 2 (cA, .byte) rfl).2
  have h2 := va_nm_byte (h.2 0 (dB, .byte) rfl).2
  exact Option.some.inj (h1.symm.trans h2)
theorem sk_sameI {cA : ClassId} (h : va_K G vwCl (sk_ty dB dJ ++ [(cA, .int)]) s) : cA = dJ := by
  have h1 := va_nm_int (h.2 2 (cA, .int) rfl).2
  have h2 := va_nm_int (h.2 1 (dJ, .int) rfl).2
  exact Option.some.inj (h1.symm.trans h2)
theorem sk_newB (hexec : p.tables.exec = Jvm.exec) (hb : c.code = cc) (harr : (Cond.arrayClass .byte).before args s = true) (hK : va_K G vwCl (sk_ty dB dJ) s) (hP : va_P G vwCl ws H) (hD : va_D A ws) (hS : va_S A H0 H locs) (hA : ∀ q, H0.size ≤ q → A q)
    {n : Int32} {N : Nat} (hn : ¬ n < 0) (hN : n.toNatClampNeg = N) (hbytes : N * componentBytes .byte ≤ 536870912) (hcells : cells + 1 ≤ R.cells) (hslots : slots + N ≤ R.slots) (hdg : decode cc pc = .ok (.newarray .byte, 2))
    (kk : ∀ (q : Nat) (H1 : Heap), va_P G vwCl (ws ++ [(q, .inl (dB, N, .inl (fun _ => 0)))]) H1 → va_D A (ws ++ [(q, .inl (dB, N, .inl (fun _ => 0)))]) → va_S A H0 H1 locs → W p l e R s m args below meth c H1 locs (cells + 1) (slots + N) Q (F0 m (pc + 2) ls (.ref q :: rest))) : W p l e R s m args below meth c H locs cells slots Q (F0 m pc ls (.int n :: rest)) := by
  refine va_newa (atype := .byte) (ty := .byte) (a0 := (N, .inl (fun _ => 0))) hexec hb harr rfl hK hP hD hS hA (fun _ => rfl) hn hN hbytes hcells hslots hdg (fun q cA H1 hK1 hP1 hD1 hS1 => ?_)
  have e := sk_sameB hK1
  rw [e] at hP1 hD1
  exact kk q H1 hP1 hD1 hS1
theorem sk_newI (hexec : p.tables.exec = Jvm.exec) (hb : c.code = cc) (harr : (Cond.arrayClass .int).before args s = true) (hK : va_K G vwCl (sk_ty dB dJ) s) (hP : va_P G vwCl ws H) (hD : va_D A ws) (hS : va_S A H0 H locs) (hA : ∀ q, H0.size ≤ q → A q)
    {n : Int32} {N : Nat} (hn : ¬ n < 0) (hN : n.toNatClampNeg = N) (hbytes : N * componentBytes .int ≤ 536870912) (hcells : cells + 1 ≤ R.cells) (hslots : slots + N ≤ R.slots) (hdg : decode cc pc = .ok (.newarray .int, 2))
    (kk : ∀ (q : Nat) (H1 : Heap), va_P G vwCl (ws ++ [(q, .inl (dJ, N, .inl (fun _ => 0)))]) H1 → va_D A (ws ++ [(q, .inl (dJ, N, .inl (fun _ => 0)))]) → va_S A H0 H1 locs → W p l e R s m args below meth c H1 locs (cells + 1) (slots + N) Q (F0 m (pc + 2) ls (.ref q :: rest))) : W p l e R s m args below meth c H locs cells slots Q (F0 m pc ls (.int n :: rest)) := by
  refine va_newa (atype := .int) (ty := .int) (a0 := (N, .inl (fun _ => 0))) hexec hb harr rfl hK hP hD hS hA (fun _ => rfl) hn hN hbytes hcells hslots hdg (fun q cA H1 hK1 hP1 hD1 hS1 => ?_)
  have e := sk_sameI hK1
  rw [e] at hP1 hD1
  exact kk q H1 hP1 hD1 hS1
/-- a byte stored at a known place -/
theorem sk_bst (hexec : p.tables.exec = Jvm.exec) (hb : c.code = cc) (hK : va_K G vwCl (sk_ty dB dJ) s) (hP : va_P G vwCl ws H) (hD : va_D A ws) (hS : va_S A H0 H locs) (q0 : Nat) {x : Nat} {n : Nat} {f : Nat → Int32} (ha : ws[q0]? = some (x, .inl (dB, n, .inl f))) {j : Nat} {v : Int32} (hj : j < n) (hn : n < 2 ^ 31) (hdg : decode cc pc = .ok (.bastore, 1))
    (kk : ∀ (f1 : Nat → Int32) (H1 : Heap) (locs1 : List Loc), f1 = upd f j (vp_nar .byte v) → va_P G vwCl (ws.set q0 (x, .inl (dB, n, .inl f1))) H1 → va_D A (ws.set q0 (x, .inl (dB, n, .inl f1))) → va_S A H0 H1 locs1 → W p l e R s m args below meth c H1 locs1 cells slots Q (F0 m (pc + 1) ls rest)) : W p l e R s m args below meth c H locs cells slots Q (F0 m pc ls (.int v :: .int (nI j) :: .ref x :: rest)) := by
  refine va_bast hexec hb hK hP hD hS q0 0 ha rfl (vp_in_nI hj hn) hdg (fun H1 locs1 hP1 hD1 hS1 => ?_)
  rw [nI_clamp (Nat.lt_trans hj hn)] at hP1 hD1
  exact kk _ H1 locs1 rfl hP1 hD1 hS1
/-- an int stored at a known place -/
theorem sk_ist (hexec : p.tables.exec = Jvm.exec) (hb : c.code = cc) (hK : va_K G vwCl (sk_ty dB dJ) s) (hP : va_P G vwCl ws H) (hD : va_D A ws) (hS : va_S A H0 H locs) (q0 : Nat) {x : Nat} {n : Nat} {f : Nat → Int32} (ha : ws[q0]? = some (x, .inl (dJ, n, .inl f))) {j : Nat} {v : Int32} (hj : j < n) (hn : n < 2 ^ 31) (hdg : decode cc pc = .ok (.iastore, 1))
    (kk : ∀ (f1 : Nat → Int32) (H1 : Heap) (locs1 : List Loc), f1 = upd f j v → va_P G vwCl (ws.set q0 (x, .inl (dJ, n, .inl f1))) H1 → va_D A (ws.set q0 (x, .inl (dJ, n, .inl f1))) → va_S A H0 H1 locs1 → W p l e R s m args below meth c H1 locs1 cells slots Q (F0 m (pc + 1) ls rest)) : W p l e R s m args below meth c H locs cells slots Q (F0 m pc ls (.int v :: .int (nI j) :: .ref x :: rest)) := by
  refine va_iast hexec hb hK hP hD hS q0 1 ha rfl (vp_in_nI hj hn) hdg (fun H1 locs1 hP1 hD1 hS1 => ?_)
  rw [nI_clamp (Nat.lt_trans hj hn)] at hP1 hD1
  exact kk _ H1 locs1 rfl hP1 hD1 hS1
/-- a byte read at a known place -/
theorem sk_bld (hexec : p.tables.exec = Jvm.exec) (hb : c.code = cc) (hK : va_K G vwCl (sk_ty dB dJ) s) (hP : va_P G vwCl ws H) (q0 : Nat) {x : Nat} {n : Nat} {f : Nat → Int32} (ha : ws[q0]? = some (x, .inl (dB, n, .inl f))) {j : Nat} (hj : j < n) (hn : n < 2 ^ 31) (hdg : decode cc pc = .ok (.baload, 1))
    (kk : W p l e R s m args below meth c H locs cells slots Q (F0 m (pc + 1) ls (.int (f j) :: rest))) : W p l e R s m args below meth c H locs cells slots Q (F0 m pc ls (.int (nI j) :: .ref x :: rest)) := by
  refine va_bald hexec hb hK hP q0 0 ha rfl (vp_in_nI hj hn) hdg ?_
  rw [nI_clamp (Nat.lt_trans hj hn)]
  exact kk
/-- an int read at a known place -/
theorem sk_ild (hexec : p.tables.exec = Jvm.exec) (hb : c.code = cc) (hK : va_K G vwCl (sk_ty dB dJ) s) (hP : va_P G vwCl ws H) (q0 : Nat) {x : Nat} {n : Nat} {f : Nat → Int32} (ha : ws[q0]? = some (x, .inl (dJ, n, .inl f))) {j : Nat} (hj : j < n) (hn : n < 2 ^ 31) (hdg : decode cc pc = .ok (.iaload, 1))
    (kk : W p l e R s m args below meth c H locs cells slots Q (F0 m (pc + 1) ls (.int (f j) :: rest))) : W p l e R s m args below meth c H locs cells slots Q (F0 m pc ls (.int (nI j) :: .ref x :: rest)) := by
  refine va_iald hexec hb hK hP q0 1 ha rfl (vp_in_nI hj hn) hdg ?_
  rw [nI_clamp (Nat.lt_trans hj hn)]
  exact kk
/-- the table read at a known place -/
theorem sk_fld {ft : Nat} (hexec : p.tables.exec = Jvm.exec) (hb : c.code = cc) (hE : sk_E ft A s s.heap) (hS : va_S A s.heap H locs) {j : Nat} (hj : j < 256) (hdg : decode cc pc = .ok (.saload, 1))
    (kk : W p l e R s m args below meth c H locs cells slots Q (F0 m (pc + 1) ls (.int (nI (sk_f j)) :: rest))) : W p l e R s m args below meth c H locs cells slots Q (F0 m pc ls (.int (nI j) :: .ref ft :: rest)) := by
  refine va_ts hexec hb hE.2.1 hS (vp_in_nI hj (by decide)) (v := .int (nI (sk_f j))) ?_ hdg kk
  show Value.int (nI (sk_f (nI j).toNatClampNeg)) = _
  rw [nI_clamp (by omega)]
end SKC
/-! stores, by the low byte -/
theorem sk_put {f f1 : Nat → Int32} {j : Nat} {v : Int32} (e : f1 = upd f j (vp_nar .byte v)) (i : Nat) : sk_by (f1 i) = if i = j then sk_by v else sk_by (f i) := by
  subst e
  by_cases h : i = j
  · rw [if_pos h]; subst h; rw [pk_us, sk_by_nar]
  · rw [if_neg h, pk_un h]
theorem sk_put_s {f f1 : Nat → Int32} {j : Nat} {v : Int32} (e : f1 = upd f j (vp_nar .byte v)) : sk_by (f1 j) = sk_by v := by rw [sk_put e, if_pos rfl]
theorem sk_put_n {f f1 : Nat → Int32} {j : Nat} {v : Int32} (e : f1 = upd f j (vp_nar .byte v)) {i : Nat} (h : i ≠ j) : sk_by (f1 i) = sk_by (f i) := by rw [sk_put e, if_neg h]
theorem sk_ip_s {f f1 : Nat → Int32} {j : Nat} {v : Int32} (e : f1 = upd f j v) : f1 j = v := by rw [e, pk_us]
theorem sk_ip_n {f f1 : Nat → Int32} {j : Nat} {v : Int32} (e : f1 = upd f j v) {i : Nat} (h : i ≠ j) : f1 i = f i := by rw [e, pk_un h]
/-- all places of an array are bytes -/
def sk_fit (f : Nat → Int32) : Prop := ∀ i, fits .byte (.int (f i)) = true
theorem sk_fit0 : sk_fit (fun _ => 0) := fun _ => (show fits .byte (.int 0) = true by decide)
theorem sk_fit_put {f f1 : Nat → Int32} {j : Nat} {v : Int32} (h : sk_fit f) (e : f1 = upd f j (vp_nar .byte v)) : sk_fit f1 := by
  intro i
  subst e
  by_cases hi : i = j
  · subst hi; rw [pk_us, vp_nar_byte]; exact pk_fb v
  · rw [pk_un hi]; exact h i
/-- the engine's five cells -/
abbrev sk_eng (dJ : ClassId) (h0 r0 r1 r2 r3 : Nat) (en : Int32) (f0 f1 f2 f3 : Nat → Int32) : va_W := [(h0, .inr (1, [.ref r0, .ref r1, .ref r2, .ref r3, .int en])), (r0, .inl (dJ, 32, .inl f0)), (r1, .inl (dJ, 32, .inl f1)), (r2, .inl (dJ, 32, .inl f2)), (r3, .inl (dJ, 32, .inl f3))]
def sk_keys (K : Nat → Nat) (f0 f1 f2 f3 : Nat → Int32) : Prop := (∀ n, K n < 256) ∧ ∀ j, j < 32 → f0 j = nI (K ((4 * j) % 10)) ∧ f1 j = nI (K ((4 * j + 1) % 10)) ∧ f2 j = nI (K ((4 * j + 2) % 10)) ∧ f3 j = nI (K ((4 * j + 3) % 10))
end
section
set_option maxHeartbeats 4000000 in
set_option maxRecDepth 100000 in
/-- KeyParameter(int): its own array -/
theorem met_kp3 (l : Launch) (G : va_G) (dB dJ : ClassId) (ft : Nat) (h0 : Nat) (sz : Nat) : Met l yX3_init_3 (ws_ yX3_init_3 cX3_init_3 2 none) ({ frames := 1, cells := 1, slots := 10, locals := 12 }) (sk_Pre G dB dJ ft [.ref h0, .int 10] sz [(h0, .inr (2, [.null]))]) (sk_Qv G (va_A [(h0, .inr (2, [.null]))] sz) (fun w => ∃ q, w = [(h0, .inr (2, [.ref q])), (q, .inl (dB, 10, .inl (fun _ => 0)))])) 1 10 (va_A [(h0, .inr (2, [.null]))] sz) := by
  refine Met.ofW (cc := cX3_init_3) (maxL := 2) (ret := none) (by decide) rfl ?_
  intro p e s m args below meth c s₁ B hml hv
  obtain ⟨rfl, hsz, hP, hK, hD0, hE⟩ := hv
  have hx := B.exec
  have hb := B.bytes
  have hr := B.returns
  have hts := atoms_spec (ws := ws_ yX3_init_3 cX3_init_3 2 none) B.pre
  have hts : ∀ w ∈ lw_all, w.before _ s = true := fun w h => hts w (List.mem_cons_of_mem _ h)
  have hown : s.vm.findClass RX3 = some m.cls := findClass_of_methodNamed B.named
  have hlocks := B.notSynchronized
  have hin : meth.name = "<init>" := (name_of_methodNamed B.named B.method).1
  subst hsz
  have hD := hD0.self (sz := s.heap.size)
  generalize hAe : va_A [(h0, .inr (2, [.null]))] s.heap.size = A at hD hE ⊢
  have hA : ∀ q : Nat, s.heap.size ≤ q → A q := fun q h => by rw [← hAe]; exact Or.inr h
  have hS : va_S A s.heap s.heap [] := va_S.rf
  have hP : va_P G vwCl [(h0, .inr (2, [.null]))] s.heap := hP
  have hl := lv_entry ([.ref h0, .int 10]) (n := 2) (Nat.le_of_ble_eq_true rfl)
  rw [lg_entry_eq]
  generalize (lg_sl ([.ref h0, .int 10]) ++ List.replicate (2 - (lg_sl ([.ref h0, .int 10])).length) Slot.unset).toArray = ls at hl ⊢
  have hl : lv_has ls 2 [(0, .ref h0), (1, .int 10)] := hl
  refine lv_aload_n hx hb dX3_init_3_0 rfl (lv_at hl 0 rfl) ?_
  refine W.objInit hx hb hown (hts _ q65) (hts _ q35) (hts _ q36) rfl (by rw [hml]; exact hl.1) rfl dX3_init_3_1 (Nat.le_of_ble_eq_true rfl) (Nat.le_of_ble_eq_true rfl) ?_
  refine W.eq (g2 := F0 m 4 ls []) rfl ?_
  refine lv_aload_n hx hb dX3_init_3_4 rfl (lv_at hl 0 rfl) ?_
  refine lv_iload_n hx hb dX3_init_3_5 rfl (lv_at hl 1 rfl) ?_
  refine sk_newB (N := 10) hx hb (hts _ q53) hK hP hD hS hA (by decide) (by decide) (Nat.le_of_ble_eq_true rfl) (Nat.le_of_ble_eq_true rfl) (Nat.le_of_ble_eq_true rfl) dX3_init_3_6 (fun q1 H hP hD hS => ?_)
  have hP : va_P G vwCl [(h0, .inr (2, [.null])), (q1, .inl (dB, 10, .inl (fun _ => 0)))] H := hP
  have hD : va_D A [(h0, .inr (2, [.null])), (q1, .inl (dB, 10, .inl (fun _ => 0)))] := hD
  refine W.widen (k := 1) (n := 10) (Nat.le_of_ble_eq_true rfl) (Nat.le_of_ble_eq_true rfl) ?_
  refine va_put (D := G) (ci := 2) (v := .ref q1) (ty := .array .byte) (C := RX3) (T := TX3) (N := 1) hx hb hts in_X3 tyX3 tyX3_ok nmX3 hown hK hP hD hS 0 rfl rfl 0 (by decide) (hts _ q66) (fun _ h9 => h9) rfl (by decide +kernel) rfl rfl (Nat.le_of_ble_eq_true rfl) dX3_init_3_8 (fun H locs hP hD hS => ?_)
  have hP : va_P G vwCl [(h0, .inr (2, [.ref q1])), (q1, .inl (dB, 10, .inl (fun _ => 0)))] H := hP
  have hD : va_D A [(h0, .inr (2, [.ref q1])), (q1, .inl (dB, 10, .inl (fun _ => 0)))] := hD
  exact W.vret hx hb hr (fun t ht hW => ⟨⟨(), rfl, trivial, _, ⟨q1, rfl⟩, by rw [ht]; exact hP, hD⟩, hS.F ht⟩) hS.2.2 dX3_init_3_11
set_option maxHeartbeats 4000000 in
set_option maxRecDepth 100000 in
/-- KeyParameter(byte[], int, int): a copy -/
theorem met_kp2 (l : Launch) (G : va_G) (dB dJ : ClassId) (ft : Nat) (h0 qa : Nat) (f : Nat → Int32) (hf : sk_fit f) (sz : Nat) : Met l yX3_init_2 (ws_ yX3_init_2 cX3_init_2 4 none) ({ frames := 2, cells := 1, slots := 10, locals := 40 }) (sk_Pre G dB dJ ft [.ref h0, .ref qa, .int 0, .int 10] sz [(h0, .inr (2, [.null])), (qa, .inl (dB, 10, .inl f))]) (sk_Qv G (va_A [(h0, .inr (2, [.null])), (qa, .inl (dB, 10, .inl f))] sz) (fun w => ∃ (q : Nat) (f1 : Nat → Int32), (∀ j, j < 10 → f1 j = f j) ∧ w = [(qa, .inl (dB, 10, .inl f)), (h0, .inr (2, [.ref q])), (q, .inl (dB, 10, .inl f1))])) 1 10 (va_A [(h0, .inr (2, [.null])), (qa, .inl (dB, 10, .inl f))] sz) := by
  refine Met.ofW (cc := cX3_init_2) (maxL := 4) (ret := none) (by decide) rfl ?_
  intro p e s m args below meth c s₁ B hml hv
  obtain ⟨rfl, hsz, hP, hK, hD0, hE⟩ := hv
  have hx := B.exec
  have hb := B.bytes
  have hr := B.returns
  have hts := atoms_spec (ws := ws_ yX3_init_2 cX3_init_2 4 none) B.pre
  have hts : ∀ w ∈ lw_all, w.before _ s = true := fun w h => hts w (List.mem_cons_of_mem _ h)
  have hown : s.vm.findClass RX3 = some m.cls := findClass_of_methodNamed B.named
  have hlocks := B.notSynchronized
  have hin : meth.name = "<init>" := (name_of_methodNamed B.named B.method).1
  subst hsz
  have hD := hD0.self (sz := s.heap.size)
  generalize hAe : va_A [(h0, .inr (2, [.null])), (qa, .inl (dB, 10, .inl f))] s.heap.size = A at hD hE ⊢
  have hA : ∀ q : Nat, s.heap.size ≤ q → A q := fun q h => by rw [← hAe]; exact Or.inr h
  have hS : va_S A s.heap s.heap [] := va_S.rf
  have hP : va_P G vwCl [(h0, .inr (2, [.null])), (qa, .inl (dB, 10, .inl f))] s.heap := hP
  have hl := lv_entry ([.ref h0, .ref qa, .int 0, .int 10]) (n := 4) (Nat.le_of_ble_eq_true rfl)
  rw [lg_entry_eq]
  generalize (lg_sl ([.ref h0, .ref qa, .int 0, .int 10]) ++ List.replicate (4 - (lg_sl ([.ref h0, .ref qa, .int 0, .int 10])).length) Slot.unset).toArray = ls at hl ⊢
  have hl : lv_has ls 4 [(0, .ref h0), (1, .ref qa), (2, .int 0), (3, .int 10)] := hl
  refine lv_aload_n hx hb dX3_init_2_0 rfl (lv_at hl 0 rfl) ?_
  refine lv_iload_n hx hb dX3_init_2_1 rfl (lv_at hl 3 rfl) ?_
  refine sk_cv (va_runI (As := [.int 10]) (rest := []) ⟨hx, hb, hml, hown, hts⟩ (met_kp3 l G dB dJ ft h0 s.heap.size) (cwI 1 hts (lw_meth q64) rfl rfl rfl (hts _ q7) (hts _ q62) (hts _ q63) rfl (by decide +kernel) ⟨Nat.le_of_ble_eq_true rfl, Nat.le_of_ble_eq_true rfl⟩) ⟨sk_blind, sk_pre hP hD hK hE hS hA [.ref h0, .int 10] [0] rfl (by decide)⟩ rfl rfl hl.1 rfl (lv_room (Nat.le_of_ble_eq_true rfl)) dX3_init_2_2 ⟨Nat.le_of_ble_eq_true rfl, Nat.le_of_ble_eq_true rfl⟩) hP hD hS hA [0] [1] [(qa, .inl (dB, 10, .inl f))] rfl rfl (by decide) (by decide) (fun w1 H locs hR hP hD hS => ?_)
  obtain ⟨q1, rfl⟩ := hR
  have hP : va_P G vwCl [(qa, .inl (dB, 10, .inl f)), (h0, .inr (2, [.ref q1])), (q1, .inl (dB, 10, .inl (fun _ => 0)))] H := hP
  have hD : va_D A [(qa, .inl (dB, 10, .inl f)), (h0, .inr (2, [.ref q1])), (q1, .inl (dB, 10, .inl (fun _ => 0)))] := hD
  refine W.widen (k := 1) (n := 10) (Nat.le_of_ble_eq_true rfl) (Nat.le_of_ble_eq_true rfl) ?_
  refine lv_aload_n hx hb dX3_init_2_5 rfl (lv_at hl 1 rfl) ?_
  refine lv_iload_n hx hb dX3_init_2_6 rfl (lv_at hl 2 rfl) ?_
  refine lv_aload_n hx hb dX3_init_2_7 rfl (lv_at hl 0 rfl) ?_
  refine va_get (D := G) (ci := 2) (v := .ref q1) (C := RX3) (T := TX3) (N := 1) hx hb hts in_X3 hown hK hP 1 rfl rfl 0 (by decide) (hts _ q66) (fun _ h9 => h9) rfl dX3_init_2_8 ?_
  refine lv_iconst (v := 0) hx hb dX3_init_2_11 (by decide) ?_
  refine lv_iload_n hx hb dX3_init_2_12 rfl (lv_at hl 3 rfl) ?_
  refine va_copyi hx hb (by rw [hml]; exact hl.1.symm) hown (hts _ q70) (hts _ q72) (hts _ q71) (hts _ q8) hK hP hD hS 0 2 0 0 (ty := .byte) rfl rfl rfl rfl rfl (by decide) (by decide) (by decide) (by decide) (by decide) (fun i _ => hf _) (Nat.le_of_ble_eq_true rfl) (Nat.le_of_ble_eq_true rfl) dX3_init_2_13 (fun H locs hP hD hS => ?_)
  obtain ⟨f1, e_f1⟩ : ∃ z, z = va_cpy f (fun _ => (0 : Int32)) (0 : Int32).toNatClampNeg (0 : Int32).toNatClampNeg (10 : Int32).toNatClampNeg := ⟨_, rfl⟩
  rw [← e_f1] at hP hD
  have hP : va_P G vwCl [(qa, .inl (dB, 10, .inl f)), (h0, .inr (2, [.ref q1])), (q1, .inl (dB, 10, .inl f1))] H := hP
  have hD : va_D A [(qa, .inl (dB, 10, .inl f)), (h0, .inr (2, [.ref q1])), (q1, .inl (dB, 10, .inl f1))] := hD
  have hcp : ∀ j, j < 10 → f1 j = f j := fun j hj => by rw [e_f1]; exact sb_cpy0 (n := 10) hj
  exact W.vret hx hb hr (fun t ht hW => ⟨⟨(), rfl, trivial, _, ⟨q1, f1, hcp, rfl⟩, by rw [ht]; exact hP, hD⟩, hS.F ht⟩) hS.2.2 dX3_init_2_16
set_option maxHeartbeats 4000000 in
set_option maxRecDepth 100000 in
/-- KeyParameter(byte[]) -/
theorem met_kp1 (l : Launch) (G : va_G) (dB dJ : ClassId) (ft : Nat) (h0 qa : Nat) (f : Nat → Int32) (hf : sk_fit f) (sz : Nat) : Met l yX3_init (ws_ yX3_init cX3_init 2 none) ({ frames := 3, cells := 1, slots := 10, locals := 80 }) (sk_Pre G dB dJ ft [.ref h0, .ref qa] sz [(h0, .inr (2, [.null])), (qa, .inl (dB, 10, .inl f))]) (sk_Qv G (va_A [(h0, .inr (2, [.null])), (qa, .inl (dB, 10, .inl f))] sz) (fun w => ∃ (q : Nat) (f1 : Nat → Int32), (∀ j, j < 10 → f1 j = f j) ∧ w = [(qa, .inl (dB, 10, .inl f)), (h0, .inr (2, [.ref q])), (q, .inl (dB, 10, .inl f1))])) 1 10 (va_A [(h0, .inr (2, [.null])), (qa, .inl (dB, 10, .inl f))] sz) := by
  refine Met.ofW (cc := cX3_init) (maxL := 2) (ret := none) (by decide) rfl ?_
  intro p e s m args below meth c s₁ B hml hv
  obtain ⟨rfl, hsz, hP, hK, hD0, hE⟩ := hv
  have hx := B.exec
  have hb := B.bytes
  have hr := B.returns
  have hts := atoms_spec (ws := ws_ yX3_init cX3_init 2 none) B.pre
  have hts : ∀ w ∈ lw_all, w.before _ s = true := fun w h => hts w (List.mem_cons_of_mem _ h)
  have hown : s.vm.findClass RX3 = some m.cls := findClass_of_methodNamed B.named
  have hlocks := B.notSynchronized
  have hin : meth.name = "<init>" := (name_of_methodNamed B.named B.method).1
  subst hsz
  have hD := hD0.self (sz := s.heap.size)
  generalize hAe : va_A [(h0, .inr (2, [.null])), (qa, .inl (dB, 10, .inl f))] s.heap.size = A at hD hE ⊢
  have hA : ∀ q : Nat, s.heap.size ≤ q → A q := fun q h => by rw [← hAe]; exact Or.inr h
  have hS : va_S A s.heap s.heap [] := va_S.rf
  have hP : va_P G vwCl [(h0, .inr (2, [.null])), (qa, .inl (dB, 10, .inl f))] s.heap := hP
  have hl := lv_entry ([.ref h0, .ref qa]) (n := 2) (Nat.le_of_ble_eq_true rfl)
  rw [lg_entry_eq]
  generalize (lg_sl ([.ref h0, .ref qa]) ++ List.replicate (2 - (lg_sl ([.ref h0, .ref qa])).length) Slot.unset).toArray = ls at hl ⊢
  have hl : lv_has ls 2 [(0, .ref h0), (1, .ref qa)] := hl
  refine lv_aload_n hx hb dX3_init_0 rfl (lv_at hl 0 rfl) ?_
  refine lv_aload_n hx hb dX3_init_1 rfl (lv_at hl 1 rfl) ?_
  refine lv_iconst (v := 0) hx hb dX3_init_2 (by decide) ?_
  refine lv_aload_n hx hb dX3_init_3 rfl (lv_at hl 1 rfl) ?_
  refine va_alen (v := 10) hx hb hK hP 1 0 rfl rfl rfl dX3_init_4 ?_
  refine sk_cv (va_runI (As := [.ref qa, .int 0, .int 10]) (rest := []) ⟨hx, hb, hml, hown, hts⟩ (met_kp2 l G dB dJ ft h0 qa f hf s.heap.size) (cwI 3 hts (lw_meth q61) rfl rfl rfl (hts _ q7) (hts _ q59) (hts _ q60) rfl (by decide +kernel) ⟨Nat.le_of_ble_eq_true rfl, Nat.le_of_ble_eq_true rfl⟩) ⟨sk_blind, sk_pre hP hD hK hE hS hA [.ref h0, .ref qa, .int 0, .int 10] [0, 1] rfl (by decide)⟩ rfl rfl hl.1 rfl (lv_room (Nat.le_of_ble_eq_true rfl)) dX3_init_5 ⟨Nat.le_of_ble_eq_true rfl, Nat.le_of_ble_eq_true rfl⟩) hP hD hS hA [0, 1] [] [] rfl rfl (by decide) (by decide) (fun w1 H locs hR hP hD hS => ?_)
  obtain ⟨q1, f1, hcp, rfl⟩ := hR
  have hP : va_P G vwCl [(qa, .inl (dB, 10, .inl f)), (h0, .inr (2, [.ref q1])), (q1, .inl (dB, 10, .inl f1))] H := hP
  have hD : va_D A [(qa, .inl (dB, 10, .inl f)), (h0, .inr (2, [.ref q1])), (q1, .inl (dB, 10, .inl f1))] := hD
  refine W.widen (k := 1) (n := 10) (Nat.le_of_ble_eq_true rfl) (Nat.le_of_ble_eq_true rfl) ?_
  exact W.vret hx hb hr (fun t ht hW => ⟨⟨(), rfl, trivial, _, ⟨q1, f1, hcp, rfl⟩, by rw [ht]; exact hP, hD⟩, hS.F ht⟩) hS.2.2 dX3_init_8
set_option maxHeartbeats 4000000 in
set_option maxRecDepth 100000 in
/-- getKey(): the array -/
theorem met_getKey (l : Launch) (G : va_G) (dB dJ : ClassId) (ft : Nat) (h0 qa : Nat) : Met l yX3_getKey (ws_ yX3_getKey cX3_getKey 1 (some (.array .byte))) ({ frames := 0, cells := 0, slots := 0, locals := 0 }) (sk_PreR G dB dJ ft [.ref h0] [(h0, .inr (2, [.ref qa]))]) (va_Sq (fun q => q = some qa)) 0 0 (fun _ => False) := by
  refine Met.ofW (cc := cX3_getKey) (maxL := 1) (ret := (some (.array .byte))) (by decide) rfl ?_
  intro p e s m args below meth c s₁ B hml hv
  obtain ⟨rfl, hP, hK, hE⟩ := hv
  have hx := B.exec
  have hb := B.bytes
  have hr := B.returns
  have hts := atoms_spec (ws := ws_ yX3_getKey cX3_getKey 1 (some (.array .byte))) B.pre
  have hts : ∀ w ∈ lw_all, w.before _ s = true := fun w h => hts w (List.mem_cons_of_mem _ h)
  have hown : s.vm.findClass RX3 = some m.cls := findClass_of_methodNamed B.named
  have hlocks := B.notSynchronized
  have hS : va_S (fun _ => False) s.heap s.heap [] := va_S.rf
  have hP : va_P G vwCl [(h0, .inr (2, [.ref qa]))] s.heap := hP
  have hl := lv_entry ([.ref h0]) (n := 1) (Nat.le_of_ble_eq_true rfl)
  rw [lg_entry_eq]
  generalize (lg_sl ([.ref h0]) ++ List.replicate (1 - (lg_sl ([.ref h0])).length) Slot.unset).toArray = ls at hl ⊢
  have hl : lv_has ls 1 [(0, .ref h0)] := hl
  refine lv_aload_n hx hb dX3_getKey_0 rfl (lv_at hl 0 rfl) ?_
  refine va_get (D := G) (ci := 2) (v := .ref qa) (C := RX3) (T := TX3) (N := 1) hx hb hts in_X3 hown hK hP 0 rfl rfl 0 (by decide) (hts _ q66) (fun _ h9 => h9) rfl dX3_getKey_1 ?_
  exact W.aret hx hb hr (Or.inr ⟨_, rfl⟩) (Or.inr ⟨_, rfl⟩) (fun t ht hW => ⟨some qa, rfl, rfl, ht⟩) (fun _ h => by cases h) dX3_getKey_4
set_option maxHeartbeats 4000000 in
set_option maxRecDepth 100000 in
/-- SkipjackEngine(): nothing -/
theorem met_eng0 (l : Launch) (G : va_G) (dB dJ : ClassId) (ft : Nat) (h0 : Nat) (sz : Nat) : Met l yX2_init (ws_ yX2_init cX2_init 1 none) ({ frames := 1, cells := 0, slots := 0, locals := 12 }) (sk_Pre G dB dJ ft [.ref h0] sz [(h0, .inr (1, [.null, .null, .null, .null, .int 0]))]) (sk_Qv G (va_A [(h0, .inr (1, [.null, .null, .null, .null, .int 0]))] sz) (fun w => w = [(h0, .inr (1, [.null, .null, .null, .null, .int 0]))])) 0 0 (va_A [(h0, .inr (1, [.null, .null, .null, .null, .int 0]))] sz) := by
  refine Met.ofW (cc := cX2_init) (maxL := 1) (ret := none) (by decide) rfl ?_
  intro p e s m args below meth c s₁ B hml hv
  obtain ⟨rfl, hsz, hP, hK, hD0, hE⟩ := hv
  have hx := B.exec
  have hb := B.bytes
  have hr := B.returns
  have hts := atoms_spec (ws := ws_ yX2_init cX2_init 1 none) B.pre
  have hts : ∀ w ∈ lw_all, w.before _ s = true := fun w h => hts w (List.mem_cons_of_mem _ h)
  have hown : s.vm.findClass RX2 = some m.cls := findClass_of_methodNamed B.named
  have hlocks := B.notSynchronized
  have hin : meth.name = "<init>" := (name_of_methodNamed B.named B.method).1
  subst hsz
  have hD := hD0.self (sz := s.heap.size)
  generalize hAe : va_A [(h0, .inr (1, [.null, .null, .null, .null, .int 0]))] s.heap.size = A at hD hE ⊢
  have hA : ∀ q : Nat, s.heap.size ≤ q → A q := fun q h => by rw [← hAe]; exact Or.inr h
  have hS : va_S A s.heap s.heap [] := va_S.rf
  have hP : va_P G vwCl [(h0, .inr (1, [.null, .null, .null, .null, .int 0]))] s.heap := hP
  have hl := lv_entry ([.ref h0]) (n := 1) (Nat.le_of_ble_eq_true rfl)
  rw [lg_entry_eq]
  generalize (lg_sl ([.ref h0]) ++ List.replicate (1 - (lg_sl ([.ref h0])).length) Slot.unset).toArray = ls at hl ⊢
  have hl : lv_has ls 1 [(0, .ref h0)] := hl
  refine lv_aload_n hx hb dX2_init_0 rfl (lv_at hl 0 rfl) ?_
  refine W.objInit hx hb hown (hts _ q34) (hts _ q35) (hts _ q36) rfl (by rw [hml]; exact hl.1) rfl dX2_init_1 (Nat.le_of_ble_eq_true rfl) (Nat.le_of_ble_eq_true rfl) ?_
  refine W.eq (g2 := F0 m 4 ls []) rfl ?_
  exact W.vret hx hb hr (fun t ht hW => ⟨⟨(), rfl, trivial, _, rfl, by rw [ht]; exact hP, hD⟩, hS.F ht⟩) hS.2.2 dX2_init_4
set_option maxHeartbeats 4000000 in
set_option maxRecDepth 100000 in
/-- g(k, w) -/
theorem met_g (l : Launch) (G : va_G) (dB dJ : ClassId) (ft : Nat) (h0 r0 r1 r2 r3 : Nat) (en : Int32) (f0 f1 f2 f3 : Nat → Int32) (K : Nat → Nat) (hKy : sk_keys K f0 f1 f2 f3) (k : Nat) (hk : k < 32) (w0 : Int32) : Met l yX2_g (ws_ yX2_g cX2_g 9 (some .int)) ({ frames := 0, cells := 0, slots := 0, locals := 0 }) (sk_PreR G dB dJ ft [.ref h0, .int (nI k), .int w0] [(h0, .inr (1, [.ref r0, .ref r1, .ref r2, .ref r3, .int en])), (r0, .inl (dJ, 32, .inl f0)), (r1, .inl (dJ, 32, .inl f1)), (r2, .inl (dJ, 32, .inl f2)), (r3, .inl (dJ, 32, .inl f3))]) (vp_Si (fun r => r = nI (sk_G K k (sk_lo w0)))) 0 0 (fun _ => False) := by
  refine Met.ofW (cc := cX2_g) (maxL := 9) (ret := (some .int)) (by decide) rfl ?_
  intro p e s m args below meth c s₁ B hml hv
  obtain ⟨rfl, hP, hK, hE⟩ := hv
  have hx := B.exec
  have hb := B.bytes
  have hr := B.returns
  have hts := atoms_spec (ws := ws_ yX2_g cX2_g 9 (some .int)) B.pre
  have hts : ∀ w ∈ lw_all, w.before _ s = true := fun w h => hts w (List.mem_cons_of_mem _ h)
  have hown : s.vm.findClass RX2 = some m.cls := findClass_of_methodNamed B.named
  have hlocks := B.notSynchronized
  have hS : va_S (fun _ => False) s.heap s.heap [] := va_S.rf
  have hP : va_P G vwCl [(h0, .inr (1, [.ref r0, .ref r1, .ref r2, .ref r3, .int en])), (r0, .inl (dJ, 32, .inl f0)), (r1, .inl (dJ, 32, .inl f1)), (r2, .inl (dJ, 32, .inl f2)), (r3, .inl (dJ, 32, .inl f3))] s.heap := hP
  have hl := lv_entry ([.ref h0, .int (nI k), .int w0]) (n := 9) (Nat.le_of_ble_eq_true rfl)
  rw [lg_entry_eq]
  generalize (lg_sl ([.ref h0, .int (nI k), .int w0]) ++ List.replicate (9 - (lg_sl ([.ref h0, .int (nI k), .int w0])).length) Slot.unset).toArray = ls at hl ⊢
  have hl : lv_has ls 9 [(0, .ref h0), (1, .int (nI k)), (2, .int w0)] := hl
  have hk2 : k < 32 := hk
  have hK0 : K ((4 * k) % 10) < 256 := hKy.1 _
  have hK1 : K ((4 * k + 1) % 10) < 256 := hKy.1 _
  have hK2 : K ((4 * k + 2) % 10) < 256 := hKy.1 _
  have hK3 : K ((4 * k + 3) % 10) < 256 := hKy.1 _
  have hlo : sk_lo w0 < 65536 := sk_lo_lt w0
  refine lv_iload_n hx hb dX2_g_0 rfl (lv_at hl 2 rfl) ?_
  refine lv_bipush (v := 8) hx hb dX2_g_1 (by decide) ?_
  refine lv_ishr hx hb dX2_g_3 ?_
  refine lv_sipush (v := 255) hx hb dX2_g_4 (by decide) ?_
  refine lv_iand hx hb dX2_g_7 ?_
  refine sk_top (w := nI ((sk_lo w0) / 256)) (sk_hi8 w0) ?_
  refine lv_istore_n (lv' := [(3, .int (nI ((sk_lo w0) / 256))), (0, .ref h0), (1, .int (nI k)), (2, .int w0)]) hx hb dX2_g_8 rfl hl (by decide) rfl (fun ls hl => ?_)
  refine lv_iload_n hx hb dX2_g_9 rfl (lv_at hl 3 rfl) ?_
  refine lv_sipush (v := 255) hx hb dX2_g_10 (by decide) ?_
  refine lv_iand hx hb dX2_g_13 ?_
  refine sk_top (w := nI ((sk_lo w0) % 256)) (sk_lo8 w0) ?_
  refine lv_istore (lv' := [(4, .int (nI ((sk_lo w0) % 256))), (3, .int (nI ((sk_lo w0) / 256))), (0, .ref h0), (1, .int (nI k)), (2, .int w0)]) hx hb dX2_g_14 hl (by decide) rfl (fun ls hl => ?_)
  refine va_gets hx hb hE.1 hS hown (hts _ q227) (fun _ h9 => h9) dX2_g_16 ?_
  refine lv_iload hx hb dX2_g_19 (lv_at hl 0 rfl) ?_
  refine lv_aload_n hx hb dX2_g_21 rfl (lv_at hl 2 rfl) ?_
  refine va_get (D := G) (ci := 1) (v := .ref r0) (C := RX2) (T := TX2) (N := 5) hx hb hts in_X2 hown hK hP 0 rfl rfl 0 (by decide) (hts _ q37) (fun _ h9 => h9) rfl dX2_g_22 ?_
  refine lv_iload_n hx hb dX2_g_25 rfl (lv_at hl 3 rfl) ?_
  refine sk_ild hx hb hK hP 1 rfl (j := k) (hk) (Nat.le_of_ble_eq_true rfl) dX2_g_26 ?_
  refine sk_top (w := nI (K ((4 * k) % 10))) ((hKy.2 k hk).1) ?_
  refine lv_ixor hx hb dX2_g_27 ?_
  refine sk_top (w := nI (((sk_lo w0) % 256) ^^^ (K ((4 * k) % 10)))) (sk_nx _ _) ?_
  refine sk_fld hx hb hE hS (j := ((sk_lo w0) % 256) ^^^ (K ((4 * k) % 10))) (Nat.xor_lt_two_pow (n := 8) (sk_lo_lt8 _) hK0) dX2_g_28 ?_
  refine lv_iload_n hx hb dX2_g_29 rfl (lv_at hl 1 rfl) ?_
  refine lv_ixor hx hb dX2_g_30 ?_
  refine sk_top (w := nI (sk_g3 (K ((4 * k) % 10)) (sk_lo w0))) (sk_nx _ _) ?_
  refine lv_istore (lv' := [(5, .int (nI (sk_g3 (K ((4 * k) % 10)) (sk_lo w0)))), (4, .int (nI ((sk_lo w0) % 256))), (3, .int (nI ((sk_lo w0) / 256))), (0, .ref h0), (1, .int (nI k)), (2, .int w0)]) hx hb dX2_g_31 hl (by decide) rfl (fun ls hl => ?_)
  refine va_gets hx hb hE.1 hS hown (hts _ q227) (fun _ h9 => h9) dX2_g_33 ?_
  refine lv_iload hx hb dX2_g_36 (lv_at hl 0 rfl) ?_
  refine lv_aload_n hx hb dX2_g_38 rfl (lv_at hl 3 rfl) ?_
  refine va_get (D := G) (ci := 1) (v := .ref r1) (C := RX2) (T := TX2) (N := 5) hx hb hts in_X2 hown hK hP 0 rfl rfl 1 (by decide) (hts _ q38) (fun _ h9 => h9) rfl dX2_g_39 ?_
  refine lv_iload_n hx hb dX2_g_42 rfl (lv_at hl 4 rfl) ?_
  refine sk_ild hx hb hK hP 2 rfl (j := k) (hk) (Nat.le_of_ble_eq_true rfl) dX2_g_43 ?_
  refine sk_top (w := nI (K ((4 * k + 1) % 10))) ((hKy.2 k hk).2.1) ?_
  refine lv_ixor hx hb dX2_g_44 ?_
  refine sk_top (w := nI ((sk_g3 (K ((4 * k) % 10)) (sk_lo w0)) ^^^ (K ((4 * k + 1) % 10)))) (sk_nx _ _) ?_
  refine sk_fld hx hb hE hS (j := (sk_g3 (K ((4 * k) % 10)) (sk_lo w0)) ^^^ (K ((4 * k + 1) % 10))) (Nat.xor_lt_two_pow (n := 8) (sk_g3_lt _ hlo) hK1) dX2_g_45 ?_
  refine lv_iload hx hb dX2_g_46 (lv_at hl 1 rfl) ?_
  refine lv_ixor hx hb dX2_g_48 ?_
  refine sk_top (w := nI (sk_g4 (K ((4 * k) % 10)) (K ((4 * k + 1) % 10)) (sk_lo w0))) (sk_nx _ _) ?_
  refine lv_istore (lv' := [(6, .int (nI (sk_g4 (K ((4 * k) % 10)) (K ((4 * k + 1) % 10)) (sk_lo w0)))), (5, .int (nI (sk_g3 (K ((4 * k) % 10)) (sk_lo w0)))), (4, .int (nI ((sk_lo w0) % 256))), (3, .int (nI ((sk_lo w0) / 256))), (0, .ref h0), (1, .int (nI k)), (2, .int w0)]) hx hb dX2_g_49 hl (by decide) rfl (fun ls hl => ?_)
  refine va_gets hx hb hE.1 hS hown (hts _ q227) (fun _ h9 => h9) dX2_g_51 ?_
  refine lv_iload hx hb dX2_g_54 (lv_at hl 0 rfl) ?_
  refine lv_aload_n hx hb dX2_g_56 rfl (lv_at hl 4 rfl) ?_
  refine va_get (D := G) (ci := 1) (v := .ref r2) (C := RX2) (T := TX2) (N := 5) hx hb hts in_X2 hown hK hP 0 rfl rfl 2 (by decide) (hts _ q39) (fun _ h9 => h9) rfl dX2_g_57 ?_
  refine lv_iload_n hx hb dX2_g_60 rfl (lv_at hl 5 rfl) ?_
  refine sk_ild hx hb hK hP 3 rfl (j := k) (hk) (Nat.le_of_ble_eq_true rfl) dX2_g_61 ?_
  refine sk_top (w := nI (K ((4 * k + 2) % 10))) ((hKy.2 k hk).2.2.1) ?_
  refine lv_ixor hx hb dX2_g_62 ?_
  refine sk_top (w := nI ((sk_g4 (K ((4 * k) % 10)) (K ((4 * k + 1) % 10)) (sk_lo w0)) ^^^ (K ((4 * k + 2) % 10)))) (sk_nx _ _) ?_
  refine sk_fld hx hb hE hS (j := (sk_g4 (K ((4 * k) % 10)) (K ((4 * k + 1) % 10)) (sk_lo w0)) ^^^ (K ((4 * k + 2) % 10))) (Nat.xor_lt_two_pow (n := 8) (sk_g4_lt _ _ _) hK2) dX2_g_63 ?_
  refine lv_iload hx hb dX2_g_64 (lv_at hl 1 rfl) ?_
  refine lv_ixor hx hb dX2_g_66 ?_
  refine sk_top (w := nI (sk_g5 (K ((4 * k) % 10)) (K ((4 * k + 1) % 10)) (K ((4 * k + 2) % 10)) (sk_lo w0))) (sk_nx _ _) ?_
  refine lv_istore (lv' := [(7, .int (nI (sk_g5 (K ((4 * k) % 10)) (K ((4 * k + 1) % 10)) (K ((4 * k + 2) % 10)) (sk_lo w0)))), (6, .int (nI (sk_g4 (K ((4 * k) % 10)) (K ((4 * k + 1) % 10)) (sk_lo w0)))), (5, .int (nI (sk_g3 (K ((4 * k) % 10)) (sk_lo w0)))), (4, .int (nI ((sk_lo w0) % 256))), (3, .int (nI ((sk_lo w0) / 256))), (0, .ref h0), (1, .int (nI k)), (2, .int w0)]) hx hb dX2_g_67 hl (by decide) rfl (fun ls hl => ?_)
  refine va_gets hx hb hE.1 hS hown (hts _ q227) (fun _ h9 => h9) dX2_g_69 ?_
  refine lv_iload hx hb dX2_g_72 (lv_at hl 0 rfl) ?_
  refine lv_aload_n hx hb dX2_g_74 rfl (lv_at hl 5 rfl) ?_
  refine va_get (D := G) (ci := 1) (v := .ref r3) (C := RX2) (T := TX2) (N := 5) hx hb hts in_X2 hown hK hP 0 rfl rfl 3 (by decide) (hts _ q40) (fun _ h9 => h9) rfl dX2_g_75 ?_
  refine lv_iload_n hx hb dX2_g_78 rfl (lv_at hl 6 rfl) ?_
  refine sk_ild hx hb hK hP 4 rfl (j := k) (hk) (Nat.le_of_ble_eq_true rfl) dX2_g_79 ?_
  refine sk_top (w := nI (K ((4 * k + 3) % 10))) ((hKy.2 k hk).2.2.2) ?_
  refine lv_ixor hx hb dX2_g_80 ?_
  refine sk_top (w := nI ((sk_g5 (K ((4 * k) % 10)) (K ((4 * k + 1) % 10)) (K ((4 * k + 2) % 10)) (sk_lo w0)) ^^^ (K ((4 * k + 3) % 10)))) (sk_nx _ _) ?_
  refine sk_fld hx hb hE hS (j := (sk_g5 (K ((4 * k) % 10)) (K ((4 * k + 1) % 10)) (K ((4 * k + 2) % 10)) (sk_lo w0)) ^^^ (K ((4 * k + 3) % 10))) (Nat.xor_lt_two_pow (n := 8) (sk_g5_lt _ _ _ hlo) hK3) dX2_g_81 ?_
  refine lv_iload hx hb dX2_g_82 (lv_at hl 1 rfl) ?_
  refine lv_ixor hx hb dX2_g_84 ?_
  refine sk_top (w := nI (sk_g6 (K ((4 * k) % 10)) (K ((4 * k + 1) % 10)) (K ((4 * k + 2) % 10)) (K ((4 * k + 3) % 10)) (sk_lo w0))) (sk_nx _ _) ?_
  refine lv_istore (lv' := [(8, .int (nI (sk_g6 (K ((4 * k) % 10)) (K ((4 * k + 1) % 10)) (K ((4 * k + 2) % 10)) (K ((4 * k + 3) % 10)) (sk_lo w0)))), (7, .int (nI (sk_g5 (K ((4 * k) % 10)) (K ((4 * k + 1) % 10)) (K ((4 * k + 2) % 10)) (sk_lo w0)))), (6, .int (nI (sk_g4 (K ((4 * k) % 10)) (K ((4 * k + 1) % 10)) (sk_lo w0)))), (5, .int (nI (sk_g3 (K ((4 * k) % 10)) (sk_lo w0)))), (4, .int (nI ((sk_lo w0) % 256))), (3, .int (nI ((sk_lo w0) / 256))), (0, .ref h0), (1, .int (nI k)), (2, .int w0)]) hx hb dX2_g_85 hl (by decide) rfl (fun ls hl => ?_)
  refine lv_iload hx hb dX2_g_87 (lv_at hl 1 rfl) ?_
  refine lv_bipush (v := 8) hx hb dX2_g_89 (by decide) ?_
  refine lv_ishl hx hb dX2_g_91 ?_
  refine lv_iload hx hb dX2_g_92 (lv_at hl 0 rfl) ?_
  refine lv_iadd hx hb dX2_g_94 ?_
  refine sk_top (w := nI (sk_G K k (sk_lo w0))) (by rw [sk_shl8 (sk_g5_lt _ _ _ hlo), nI_add]; rfl) ?_
  exact W.iret hx hb hr (fun t ht hW => ⟨_, rfl, rfl, ht⟩) (fun _ h => by cases h) dX2_g_95
set_option maxHeartbeats 4000000 in
set_option maxRecDepth 100000 in
/-- h(k, w) -/
theorem met_h (l : Launch) (G : va_G) (dB dJ : ClassId) (ft : Nat) (h0 r0 r1 r2 r3 : Nat) (en : Int32) (f0 f1 f2 f3 : Nat → Int32) (K : Nat → Nat) (hKy : sk_keys K f0 f1 f2 f3) (k : Nat) (hk : k < 32) (w0 : Int32) : Met l yX2_h (ws_ yX2_h cX2_h 9 (some .int)) ({ frames := 0, cells := 0, slots := 0, locals := 0 }) (sk_PreR G dB dJ ft [.ref h0, .int (nI k), .int w0] [(h0, .inr (1, [.ref r0, .ref r1, .ref r2, .ref r3, .int en])), (r0, .inl (dJ, 32, .inl f0)), (r1, .inl (dJ, 32, .inl f1)), (r2, .inl (dJ, 32, .inl f2)), (r3, .inl (dJ, 32, .inl f3))]) (vp_Si (fun r => r = nI (sk_H K k (sk_lo w0)))) 0 0 (fun _ => False) := by
  refine Met.ofW (cc := cX2_h) (maxL := 9) (ret := (some .int)) (by decide) rfl ?_
  intro p e s m args below meth c s₁ B hml hv
  obtain ⟨rfl, hP, hK, hE⟩ := hv
  have hx := B.exec
  have hb := B.bytes
  have hr := B.returns
  have hts := atoms_spec (ws := ws_ yX2_h cX2_h 9 (some .int)) B.pre
  have hts : ∀ w ∈ lw_all, w.before _ s = true := fun w h => hts w (List.mem_cons_of_mem _ h)
  have hown : s.vm.findClass RX2 = some m.cls := findClass_of_methodNamed B.named
  have hlocks := B.notSynchronized
  have hS : va_S (fun _ => False) s.heap s.heap [] := va_S.rf
  have hP : va_P G vwCl [(h0, .inr (1, [.ref r0, .ref r1, .ref r2, .ref r3, .int en])), (r0, .inl (dJ, 32, .inl f0)), (r1, .inl (dJ, 32, .inl f1)), (r2, .inl (dJ, 32, .inl f2)), (r3, .inl (dJ, 32, .inl f3))] s.heap := hP
  have hl := lv_entry ([.ref h0, .int (nI k), .int w0]) (n := 9) (Nat.le_of_ble_eq_true rfl)
  rw [lg_entry_eq]
  generalize (lg_sl ([.ref h0, .int (nI k), .int w0]) ++ List.replicate (9 - (lg_sl ([.ref h0, .int (nI k), .int w0])).length) Slot.unset).toArray = ls at hl ⊢
  have hl : lv_has ls 9 [(0, .ref h0), (1, .int (nI k)), (2, .int w0)] := hl
  have hk2 : k < 32 := hk
  have hK0 : K ((4 * k) % 10) < 256 := hKy.1 _
  have hK1 : K ((4 * k + 1) % 10) < 256 := hKy.1 _
  have hK2 : K ((4 * k + 2) % 10) < 256 := hKy.1 _
  have hK3 : K ((4 * k + 3) % 10) < 256 := hKy.1 _
  have hlo : sk_lo w0 < 65536 := sk_lo_lt w0
  refine lv_iload_n hx hb dX2_h_0 rfl (lv_at hl 2 rfl) ?_
  refine lv_sipush (v := 255) hx hb dX2_h_1 (by decide) ?_
  refine lv_iand hx hb dX2_h_4 ?_
  refine sk_top (w := nI ((sk_lo w0) % 256)) (sk_lo8 w0) ?_
  refine lv_istore_n (lv' := [(3, .int (nI ((sk_lo w0) % 256))), (0, .ref h0), (1, .int (nI k)), (2, .int w0)]) hx hb dX2_h_5 rfl hl (by decide) rfl (fun ls hl => ?_)
  refine lv_iload_n hx hb dX2_h_6 rfl (lv_at hl 3 rfl) ?_
  refine lv_bipush (v := 8) hx hb dX2_h_7 (by decide) ?_
  refine lv_ishr hx hb dX2_h_9 ?_
  refine lv_sipush (v := 255) hx hb dX2_h_10 (by decide) ?_
  refine lv_iand hx hb dX2_h_13 ?_
  refine sk_top (w := nI ((sk_lo w0) / 256)) (sk_hi8 w0) ?_
  refine lv_istore (lv' := [(4, .int (nI ((sk_lo w0) / 256))), (3, .int (nI ((sk_lo w0) % 256))), (0, .ref h0), (1, .int (nI k)), (2, .int w0)]) hx hb dX2_h_14 hl (by decide) rfl (fun ls hl => ?_)
  refine va_gets hx hb hE.1 hS hown (hts _ q227) (fun _ h9 => h9) dX2_h_16 ?_
  refine lv_iload hx hb dX2_h_19 (lv_at hl 0 rfl) ?_
  refine lv_aload_n hx hb dX2_h_21 rfl (lv_at hl 2 rfl) ?_
  refine va_get (D := G) (ci := 1) (v := .ref r3) (C := RX2) (T := TX2) (N := 5) hx hb hts in_X2 hown hK hP 0 rfl rfl 3 (by decide) (hts _ q40) (fun _ h9 => h9) rfl dX2_h_22 ?_
  refine lv_iload_n hx hb dX2_h_25 rfl (lv_at hl 3 rfl) ?_
  refine sk_ild hx hb hK hP 4 rfl (j := k) (hk) (Nat.le_of_ble_eq_true rfl) dX2_h_26 ?_
  refine sk_top (w := nI (K ((4 * k + 3) % 10))) ((hKy.2 k hk).2.2.2) ?_
  refine lv_ixor hx hb dX2_h_27 ?_
  refine sk_top (w := nI (((sk_lo w0) / 256) ^^^ (K ((4 * k + 3) % 10)))) (sk_nx _ _) ?_
  refine sk_fld hx hb hE hS (j := ((sk_lo w0) / 256) ^^^ (K ((4 * k + 3) % 10))) (Nat.xor_lt_two_pow (n := 8) (sk_hi_lt hlo) hK3) dX2_h_28 ?_
  refine lv_iload_n hx hb dX2_h_29 rfl (lv_at hl 1 rfl) ?_
  refine lv_ixor hx hb dX2_h_30 ?_
  refine sk_top (w := nI (sk_h3 (K ((4 * k + 3) % 10)) (sk_lo w0))) (sk_nx _ _) ?_
  refine lv_istore (lv' := [(5, .int (nI (sk_h3 (K ((4 * k + 3) % 10)) (sk_lo w0)))), (4, .int (nI ((sk_lo w0) / 256))), (3, .int (nI ((sk_lo w0) % 256))), (0, .ref h0), (1, .int (nI k)), (2, .int w0)]) hx hb dX2_h_31 hl (by decide) rfl (fun ls hl => ?_)
  refine va_gets hx hb hE.1 hS hown (hts _ q227) (fun _ h9 => h9) dX2_h_33 ?_
  refine lv_iload hx hb dX2_h_36 (lv_at hl 0 rfl) ?_
  refine lv_aload_n hx hb dX2_h_38 rfl (lv_at hl 3 rfl) ?_
  refine va_get (D := G) (ci := 1) (v := .ref r2) (C := RX2) (T := TX2) (N := 5) hx hb hts in_X2 hown hK hP 0 rfl rfl 2 (by decide) (hts _ q39) (fun _ h9 => h9) rfl dX2_h_39 ?_
  refine lv_iload_n hx hb dX2_h_42 rfl (lv_at hl 4 rfl) ?_
  refine sk_ild hx hb hK hP 3 rfl (j := k) (hk) (Nat.le_of_ble_eq_true rfl) dX2_h_43 ?_
  refine sk_top (w := nI (K ((4 * k + 2) % 10))) ((hKy.2 k hk).2.2.1) ?_
  refine lv_ixor hx hb dX2_h_44 ?_
  refine sk_top (w := nI ((sk_h3 (K ((4 * k + 3) % 10)) (sk_lo w0)) ^^^ (K ((4 * k + 2) % 10)))) (sk_nx _ _) ?_
  refine sk_fld hx hb hE hS (j := (sk_h3 (K ((4 * k + 3) % 10)) (sk_lo w0)) ^^^ (K ((4 * k + 2) % 10))) (Nat.xor_lt_two_pow (n := 8) (sk_h3_lt _ _) hK2) dX2_h_45 ?_
  refine lv_iload hx hb dX2_h_46 (lv_at hl 1 rfl) ?_
  refine lv_ixor hx hb dX2_h_48 ?_
  refine sk_top (w := nI (sk_h4 (K ((4 * k + 2) % 10)) (K ((4 * k + 3) % 10)) (sk_lo w0))) (sk_nx _ _) ?_
  refine lv_istore (lv' := [(6, .int (nI (sk_h4 (K ((4 * k + 2) % 10)) (K ((4 * k + 3) % 10)) (sk_lo w0)))), (5, .int (nI (sk_h3 (K ((4 * k + 3) % 10)) (sk_lo w0)))), (4, .int (nI ((sk_lo w0) / 256))), (3, .int (nI ((sk_lo w0) % 256))), (0, .ref h0), (1, .int (nI k)), (2, .int w0)]) hx hb dX2_h_49 hl (by decide) rfl (fun ls hl => ?_)
  refine va_gets hx hb hE.1 hS hown (hts _ q227) (fun _ h9 => h9) dX2_h_51 ?_
  refine lv_iload hx hb dX2_h_54 (lv_at hl 0 rfl) ?_
  refine lv_aload_n hx hb dX2_h_56 rfl (lv_at hl 4 rfl) ?_
  refine va_get (D := G) (ci := 1) (v := .ref r1) (C := RX2) (T := TX2) (N := 5) hx hb hts in_X2 hown hK hP 0 rfl rfl 1 (by decide) (hts _ q38) (fun _ h9 => h9) rfl dX2_h_57 ?_
  refine lv_iload_n hx hb dX2_h_60 rfl (lv_at hl 5 rfl) ?_
  refine sk_ild hx hb hK hP 2 rfl (j := k) (hk) (Nat.le_of_ble_eq_true rfl) dX2_h_61 ?_
  refine sk_top (w := nI (K ((4 * k + 1) % 10))) ((hKy.2 k hk).2.1) ?_
  refine lv_ixor hx hb dX2_h_62 ?_
  refine sk_top (w := nI ((sk_h4 (K ((4 * k + 2) % 10)) (K ((4 * k + 3) % 10)) (sk_lo w0)) ^^^ (K ((4 * k + 1) % 10)))) (sk_nx _ _) ?_
  refine sk_fld hx hb hE hS (j := (sk_h4 (K ((4 * k + 2) % 10)) (K ((4 * k + 3) % 10)) (sk_lo w0)) ^^^ (K ((4 * k + 1) % 10))) (Nat.xor_lt_two_pow (n := 8) (sk_h4_lt _ _ hlo) hK1) dX2_h_63 ?_
  refine lv_iload hx hb dX2_h_64 (lv_at hl 1 rfl) ?_
  refine lv_ixor hx hb dX2_h_66 ?_
  refine sk_top (w := nI (sk_h5 (K ((4 * k + 1) % 10)) (K ((4 * k + 2) % 10)) (K ((4 * k + 3) % 10)) (sk_lo w0))) (sk_nx _ _) ?_
  refine lv_istore (lv' := [(7, .int (nI (sk_h5 (K ((4 * k + 1) % 10)) (K ((4 * k + 2) % 10)) (K ((4 * k + 3) % 10)) (sk_lo w0)))), (6, .int (nI (sk_h4 (K ((4 * k + 2) % 10)) (K ((4 * k + 3) % 10)) (sk_lo w0)))), (5, .int (nI (sk_h3 (K ((4 * k + 3) % 10)) (sk_lo w0)))), (4, .int (nI ((sk_lo w0) / 256))), (3, .int (nI ((sk_lo w0) % 256))), (0, .ref h0), (1, .int (nI k)), (2, .int w0)]) hx hb dX2_h_67 hl (by decide) rfl (fun ls hl => ?_)
  refine va_gets hx hb hE.1 hS hown (hts _ q227) (fun _ h9 => h9) dX2_h_69 ?_
  refine lv_iload hx hb dX2_h_72 (lv_at hl 0 rfl) ?_
  refine lv_aload_n hx hb dX2_h_74 rfl (lv_at hl 5 rfl) ?_
  refine va_get (D := G) (ci := 1) (v := .ref r0) (C := RX2) (T := TX2) (N := 5) hx hb hts in_X2 hown hK hP 0 rfl rfl 0 (by decide) (hts _ q37) (fun _ h9 => h9) rfl dX2_h_75 ?_
  refine lv_iload_n hx hb dX2_h_78 rfl (lv_at hl 6 rfl) ?_
  refine sk_ild hx hb hK hP 1 rfl (j := k) (hk) (Nat.le_of_ble_eq_true rfl) dX2_h_79 ?_
  refine sk_top (w := nI (K ((4 * k) % 10))) ((hKy.2 k hk).1) ?_
  refine lv_ixor hx hb dX2_h_80 ?_
  refine sk_top (w := nI ((sk_h5 (K ((4 * k + 1) % 10)) (K ((4 * k + 2) % 10)) (K ((4 * k + 3) % 10)) (sk_lo w0)) ^^^ (K ((4 * k) % 10)))) (sk_nx _ _) ?_
  refine sk_fld hx hb hE hS (j := (sk_h5 (K ((4 * k + 1) % 10)) (K ((4 * k + 2) % 10)) (K ((4 * k + 3) % 10)) (sk_lo w0)) ^^^ (K ((4 * k) % 10))) (Nat.xor_lt_two_pow (n := 8) (sk_h5_lt _ _ _ _) hK0) dX2_h_81 ?_
  refine lv_iload hx hb dX2_h_82 (lv_at hl 1 rfl) ?_
  refine lv_ixor hx hb dX2_h_84 ?_
  refine sk_top (w := nI (sk_h6 (K ((4 * k) % 10)) (K ((4 * k + 1) % 10)) (K ((4 * k + 2) % 10)) (K ((4 * k + 3) % 10)) (sk_lo w0))) (sk_nx _ _) ?_
  refine lv_istore (lv' := [(8, .int (nI (sk_h6 (K ((4 * k) % 10)) (K ((4 * k + 1) % 10)) (K ((4 * k + 2) % 10)) (K ((4 * k + 3) % 10)) (sk_lo w0)))), (7, .int (nI (sk_h5 (K ((4 * k + 1) % 10)) (K ((4 * k + 2) % 10)) (K ((4 * k + 3) % 10)) (sk_lo w0)))), (6, .int (nI (sk_h4 (K ((4 * k + 2) % 10)) (K ((4 * k + 3) % 10)) (sk_lo w0)))), (5, .int (nI (sk_h3 (K ((4 * k + 3) % 10)) (sk_lo w0)))), (4, .int (nI ((sk_lo w0) / 256))), (3, .int (nI ((sk_lo w0) % 256))), (0, .ref h0), (1, .int (nI k)), (2, .int w0)]) hx hb dX2_h_85 hl (by decide) rfl (fun ls hl => ?_)
  refine lv_iload hx hb dX2_h_87 (lv_at hl 0 rfl) ?_
  refine lv_bipush (v := 8) hx hb dX2_h_89 (by decide) ?_
  refine lv_ishl hx hb dX2_h_91 ?_
  refine lv_iload hx hb dX2_h_92 (lv_at hl 1 rfl) ?_
  refine lv_iadd hx hb dX2_h_94 ?_
  refine sk_top (w := nI (sk_H K k (sk_lo w0))) (by rw [sk_shl8 (sk_h6_lt _ _ _ _ hlo), nI_add]; rfl) ?_
  exact W.iret hx hb hr (fun t ht hW => ⟨_, rfl, rfl, ht⟩) (fun _ h => by cases h) dX2_h_95
end
section
theorem sk_stA {K : Nat → Nat} {k : Nat} {S : sk_S} {x1 x2 x3 x4 : Nat} (h : (x1, x2, x3, x4) = sk_enc K k S) (hk : (k / 8) % 2 = 0) : (sk_G K k x1 ^^^ x4 ^^^ (k + 1), sk_G K k x1, x2, x3) = sk_enc K (k + 1) S := by
  show _ = sk_st K k (sk_enc K k S)
  rw [← h]
  unfold sk_st
  rw [if_pos hk]
theorem sk_stB {K : Nat → Nat} {k : Nat} {S : sk_S} {x1 x2 x3 x4 : Nat} (h : (x1, x2, x3, x4) = sk_enc K k S) (hk : ¬ (k / 8) % 2 = 0) : (x4, sk_G K k x1, x1 ^^^ x2 ^^^ (k + 1), x3) = sk_enc K (k + 1) S := by
  show _ = sk_st K k (sk_enc K k S)
  rw [← h]
  unfold sk_st
  rw [if_neg hk]
theorem sk_unA {K : Nat → Nat} {n : Nat} {S : sk_S} {x1 x2 x3 x4 : Nat} (h : (x1, x2, x3, x4) = sk_dec K n S) (hk : ((31 - n) / 8) % 2 = 0) : (sk_H K (31 - n) x2, x3, x4, x2 ^^^ x1 ^^^ (31 - n + 1)) = sk_dec K (n + 1) S := by
  show _ = sk_un K (31 - n) (sk_dec K n S)
  rw [← h]
  unfold sk_un
  rw [if_pos hk]
theorem sk_unB {K : Nat → Nat} {n : Nat} {S : sk_S} {x1 x2 x3 x4 : Nat} (h : (x1, x2, x3, x4) = sk_dec K n S) (hk : ¬ ((31 - n) / 8) % 2 = 0) : (sk_H K (31 - n) x2, sk_H K (31 - n) x2 ^^^ x3 ^^^ (31 - n + 1), x4, x1) = sk_dec K (n + 1) S := by
  show _ = sk_un K (31 - n) (sk_dec K n S)
  rw [← h]
  unfold sk_un
  rw [if_neg hk]
theorem sk_lo_k1 {k : Nat} (h : k < 32) : sk_lo (nI k + 1) = k + 1 := by rw [nI_1, sk_lo_nI (by omega)]
theorem sk_lo3 (v w : Int32) {k : Nat} (h : k < 32) : sk_lo ((v ^^^ w) ^^^ (nI k + 1)) = sk_lo v ^^^ sk_lo w ^^^ (k + 1) := by rw [sk_lo_xor, sk_lo_xor, sk_lo_k1 h]
theorem sk_km : ∀ n, n < 32 → nI (31 - n) + Int32.ofInt (-1) = (31 : Int32) - nI (n + 1) := by decide +kernel
theorem sk_k31 : ∀ n, n < 32 → (31 : Int32) - nI n = nI (31 - n) := by decide +kernel
set_option maxHeartbeats 4000000 in
set_option maxRecDepth 100000 in
theorem g_in1 {p : Program} {e : Env} {s : State} {m : MethodId} {args : Array Value} {below : List Frame} {meth : Method} {c : Code} {A : Nat → Prop} {Q : State → Prop} (l : Launch) (G : va_G) (dB dJ : ClassId) (ft : Nat) (h0 r0 r1 r2 r3 qi qo : Nat) (en : Int32) (f0 f1 f2 f3 fi fo : Nat → Int32) (K : Nat → Nat) (hKy : sk_keys K f0 f1 f2 f3) (hx : p.tables.exec = Jvm.exec) (hb : c.code = cX2_encryptBlock) (hml : c.maxLocals = 13) (hown : s.vm.findClass RX2 = some m.cls) (hts : ∀ w ∈ lw_all, w.before args s = true) (hK : va_K G vwCl (sk_ty dB dJ) s) (hE : sk_E ft A s s.heap) (hS : va_S A s.heap s.heap []) (hP : va_P G vwCl [(h0, .inr (1, [.ref r0, .ref r1, .ref r2, .ref r3, .int en])), (r0, .inl (dJ, 32, .inl f0)), (r1, .inl (dJ, 32, .inl f1)), (r2, .inl (dJ, 32, .inl f2)), (r3, .inl (dJ, 32, .inl f3)), (qi, .inl (dB, 8, .inl fi)), (qo, .inl (dB, 8, .inl fo))] s.heap) (S : sk_S) (T : Nat) (hT : T < 2)
    (kk : ∀ (ls : Array Slot) (w1 w2 w3 w4 : Int32), lv_has ls 13 [(0, .ref h0), (1, .ref qi), (2, .int 0), (3, .ref qo), (4, .int 0), (5, .int w1), (6, .int w2), (7, .int w3), (8, .int w4), (9, .int (nI (16 * T + 8))), (10, .int (nI T))] → (sk_lo w1, sk_lo w2, sk_lo w3, sk_lo w4) = sk_enc K (16 * T + 8) S → W p l e (headSpec (ws_ yX2_encryptBlock cX2_encryptBlock 13 (some .int)) ({ frames := 1, cells := 0, slots := 0, locals := 40 })).room s m args below meth c s.heap [] 0 0 Q (F0 m 147 ls [])) :
    ∀ (n i : Nat), i + n = 8 → ∀ (ls : Array Slot) (w1 w2 w3 w4 : Int32), lv_has ls 13 [(0, .ref h0), (1, .ref qi), (2, .int 0), (3, .ref qo), (4, .int 0), (5, .int w1), (6, .int w2), (7, .int w3), (8, .int w4), (9, .int (nI (16 * T + i))), (10, .int (nI T)), (11, .int (nI i))] → (sk_lo w1, sk_lo w2, sk_lo w3, sk_lo w4) = sk_enc K (16 * T + i) S → W p l e (headSpec (ws_ yX2_encryptBlock cX2_encryptBlock 13 (some .int)) ({ frames := 1, cells := 0, slots := 0, locals := 40 })).room s m args below meth c s.heap [] 0 0 Q (F0 m 97 ls []) := by
  intro n
  induction n with
  | zero =>
    intro i hi ls w1 w2 w3 w4 hl hst
    obtain rfl : i = 8 := hi
    refine lv_iload hx hb dX2_encryptBlock_97 (lv_at hl 11 rfl) ?_
    refine lv_bipush (v := 8) hx hb dX2_encryptBlock_99 (by decide) ?_
    refine lv_icmp_ge (tgt := 147) hx hb dX2_encryptBlock_101 (by decide) (fun _ => ?_) (fun h9 => absurd (by decide) h9)
    exact kk ls w1 w2 w3 w4 (lv_sub hl [0, 1, 2, 3, 4, 5, 6, 7, 8, 9, 10] rfl) hst
  | succ n ih =>
    intro i hi ls w1 w2 w3 w4 hl hst
    have hi8 : i < 8 := by omega
    have hn : (16 * T + i) < 32 := by omega
    refine lv_iload hx hb dX2_encryptBlock_97 (lv_at hl 11 rfl) ?_
    refine lv_bipush (v := 8) hx hb dX2_encryptBlock_99 (by decide) ?_
    refine lv_icmp_ge (tgt := 147) hx hb dX2_encryptBlock_101 (by decide) (fun h9 => absurd h9 (nI_ge (a := i) (b := 8) hi8 (by decide))) (fun _ => ?_)
    refine lv_iload hx hb dX2_encryptBlock_104 (lv_at hl 8 rfl) ?_
    refine lv_istore (lv' := [(12, .int w4), (0, .ref h0), (1, .ref qi), (2, .int 0), (3, .ref qo), (4, .int 0), (5, .int w1), (6, .int w2), (7, .int w3), (8, .int w4), (9, .int (nI (16 * T + i))), (10, .int (nI T)), (11, .int (nI i))]) hx hb dX2_encryptBlock_106 hl (by decide) rfl (fun ls hl => ?_)
    refine lv_iload hx hb dX2_encryptBlock_108 (lv_at hl 8 rfl) ?_
    refine lv_istore (lv' := [(8, .int w3), (12, .int w4), (0, .ref h0), (1, .ref qi), (2, .int 0), (3, .ref qo), (4, .int 0), (5, .int w1), (6, .int w2), (7, .int w3), (9, .int (nI (16 * T + i))), (10, .int (nI T)), (11, .int (nI i))]) hx hb dX2_encryptBlock_110 hl (by decide) rfl (fun ls hl => ?_)
    refine lv_iload hx hb dX2_encryptBlock_112 (lv_at hl 8 rfl) ?_
    refine lv_istore (lv' := [(7, .int w2), (8, .int w3), (12, .int w4), (0, .ref h0), (1, .ref qi), (2, .int 0), (3, .ref qo), (4, .int 0), (5, .int w1), (6, .int w2), (9, .int (nI (16 * T + i))), (10, .int (nI T)), (11, .int (nI i))]) hx hb dX2_encryptBlock_114 hl (by decide) rfl (fun ls hl => ?_)
    refine lv_aload_n hx hb dX2_encryptBlock_116 rfl (lv_at hl 3 rfl) ?_
    refine lv_iload hx hb dX2_encryptBlock_117 (lv_at hl 10 rfl) ?_
    refine lv_iload hx hb dX2_encryptBlock_119 (lv_at hl 8 rfl) ?_
    refine vp_callSi (W.runV (As := [.int (nI (16 * T + i)), .int w1]) (rest := []) ⟨hx, hb, hml, hown, hts⟩ (met_g l G dB dJ ft h0 r0 r1 r2 r3 en f0 f1 f2 f3 K hKy (16 * T + i) (by omega) w1) (cwV 2 hts (lw_V q223 q225 qs2 q6 q226) rfl rfl rfl (by decide +kernel) ⟨Nat.le_of_ble_eq_true rfl, Nat.le_of_ble_eq_true rfl⟩) ⟨sk_blindR, va_recv hK hP (ci := 1) (q0 := 0) rfl rfl, sk_preR hP hK hE hS [.ref h0, .int (nI (16 * T + i)), .int w1] [0, 1, 2, 3, 4] rfl⟩ rfl rfl hl.1 rfl (lv_room (Nat.le_of_ble_eq_true rfl)) dX2_encryptBlock_121 ⟨Nat.le_of_ble_eq_true rfl, Nat.le_of_ble_eq_true rfl⟩) (fun r hr => ?_)
    subst hr
    refine lv_istore (lv' := [(6, .int (nI (sk_G K (16 * T + i) (sk_lo w1)))), (7, .int w2), (8, .int w3), (12, .int w4), (0, .ref h0), (1, .ref qi), (2, .int 0), (3, .ref qo), (4, .int 0), (5, .int w1), (9, .int (nI (16 * T + i))), (10, .int (nI T)), (11, .int (nI i))]) hx hb dX2_encryptBlock_124 hl (by decide) rfl (fun ls hl => ?_)
    refine lv_iload hx hb dX2_encryptBlock_126 (lv_at hl 0 rfl) ?_
    refine lv_iload hx hb dX2_encryptBlock_128 (lv_at hl 3 rfl) ?_
    refine lv_ixor hx hb dX2_encryptBlock_130 ?_
    refine lv_iload hx hb dX2_encryptBlock_131 (lv_at hl 10 rfl) ?_
    refine lv_iconst (v := 1) hx hb dX2_encryptBlock_133 (by decide) ?_
    refine lv_iadd hx hb dX2_encryptBlock_134 ?_
    refine lv_ixor hx hb dX2_encryptBlock_135 ?_
    refine lv_topi (fun wn e_wn => ?_)
    refine lv_istore (lv' := [(5, .int wn), (6, .int (nI (sk_G K (16 * T + i) (sk_lo w1)))), (7, .int w2), (8, .int w3), (12, .int w4), (0, .ref h0), (1, .ref qi), (2, .int 0), (3, .ref qo), (4, .int 0), (9, .int (nI (16 * T + i))), (10, .int (nI T)), (11, .int (nI i))]) hx hb dX2_encryptBlock_136 hl (by decide) rfl (fun ls hl => ?_)
    refine lv_iinc (v := nI (16 * T + (i + 1))) (lv' := [(9, .int (nI (16 * T + (i + 1)))), (5, .int wn), (6, .int (nI (sk_G K (16 * T + i) (sk_lo w1)))), (7, .int w2), (8, .int w3), (12, .int w4), (0, .ref h0), (1, .ref qi), (2, .int 0), (3, .ref qo), (4, .int 0), (10, .int (nI T)), (11, .int (nI i))]) hx hb dX2_encryptBlock_138 hl (k := 10) rfl (nI_1 (16 * T + i)) (by decide) rfl (fun ls hl => ?_)
    refine lv_iinc (v := nI (i + 1)) (lv' := [(11, .int (nI (i + 1))), (9, .int (nI (16 * T + (i + 1)))), (5, .int wn), (6, .int (nI (sk_G K (16 * T + i) (sk_lo w1)))), (7, .int w2), (8, .int w3), (12, .int w4), (0, .ref h0), (1, .ref qi), (2, .int 0), (3, .ref qo), (4, .int 0), (10, .int (nI T))]) hx hb dX2_encryptBlock_141 hl (k := 12) rfl (nI_1 i) (by decide) rfl (fun ls hl => ?_)
    refine lv_goto (tgt := 97) hx hb dX2_encryptBlock_144 (by decide) ?_
    have hlg : sk_lo (nI (sk_G K (16 * T + i) (sk_lo w1))) = sk_G K (16 * T + i) (sk_lo w1) := sk_lo_nI (sk_G_lt K (16 * T + i) (sk_lo_lt w1))
    have hwn := (congrArg sk_lo e_wn).trans (sk_lo3 _ _ (k := (16 * T + i)) (by omega))
    rw [hlg] at hwn
    exact ih (i + 1) (by omega) ls wn (nI (sk_G K (16 * T + i) (sk_lo w1))) w2 w3 (lv_sub hl [7, 8, 9, 10, 11, 2, 3, 4, 5, 1, 12, 0] rfl) (by rw [hwn, hlg]; exact sk_stA hst (by omega))
set_option maxHeartbeats 4000000 in
set_option maxRecDepth 100000 in
theorem g_in2 {p : Program} {e : Env} {s : State} {m : MethodId} {args : Array Value} {below : List Frame} {meth : Method} {c : Code} {A : Nat → Prop} {Q : State → Prop} (l : Launch) (G : va_G) (dB dJ : ClassId) (ft : Nat) (h0 r0 r1 r2 r3 qi qo : Nat) (en : Int32) (f0 f1 f2 f3 fi fo : Nat → Int32) (K : Nat → Nat) (hKy : sk_keys K f0 f1 f2 f3) (hx : p.tables.exec = Jvm.exec) (hb : c.code = cX2_encryptBlock) (hml : c.maxLocals = 13) (hown : s.vm.findClass RX2 = some m.cls) (hts : ∀ w ∈ lw_all, w.before args s = true) (hK : va_K G vwCl (sk_ty dB dJ) s) (hE : sk_E ft A s s.heap) (hS : va_S A s.heap s.heap []) (hP : va_P G vwCl [(h0, .inr (1, [.ref r0, .ref r1, .ref r2, .ref r3, .int en])), (r0, .inl (dJ, 32, .inl f0)), (r1, .inl (dJ, 32, .inl f1)), (r2, .inl (dJ, 32, .inl f2)), (r3, .inl (dJ, 32, .inl f3)), (qi, .inl (dB, 8, .inl fi)), (qo, .inl (dB, 8, .inl fo))] s.heap) (S : sk_S) (T : Nat) (hT : T < 2)
    (kk : ∀ (ls : Array Slot) (w1 w2 w3 w4 : Int32), lv_has ls 13 [(0, .ref h0), (1, .ref qi), (2, .int 0), (3, .ref qo), (4, .int 0), (5, .int w1), (6, .int w2), (7, .int w3), (8, .int w4), (9, .int (nI (16 * (T + 1)))), (10, .int (nI T))] → (sk_lo w1, sk_lo w2, sk_lo w3, sk_lo w4) = sk_enc K (16 * (T + 1)) S → W p l e (headSpec (ws_ yX2_encryptBlock cX2_encryptBlock 13 (some .int)) ({ frames := 1, cells := 0, slots := 0, locals := 40 })).room s m args below meth c s.heap [] 0 0 Q (F0 m 200 ls [])) :
    ∀ (n i : Nat), i + n = 8 → ∀ (ls : Array Slot) (w1 w2 w3 w4 : Int32), lv_has ls 13 [(0, .ref h0), (1, .ref qi), (2, .int 0), (3, .ref qo), (4, .int 0), (5, .int w1), (6, .int w2), (7, .int w3), (8, .int w4), (9, .int (nI (16 * T + 8 + i))), (10, .int (nI T)), (11, .int (nI i))] → (sk_lo w1, sk_lo w2, sk_lo w3, sk_lo w4) = sk_enc K (16 * T + 8 + i) S → W p l e (headSpec (ws_ yX2_encryptBlock cX2_encryptBlock 13 (some .int)) ({ frames := 1, cells := 0, slots := 0, locals := 40 })).room s m args below meth c s.heap [] 0 0 Q (F0 m 150 ls []) := by
  intro n
  induction n with
  | zero =>
    intro i hi ls w1 w2 w3 w4 hl hst
    obtain rfl : i = 8 := hi
    refine lv_iload hx hb dX2_encryptBlock_150 (lv_at hl 11 rfl) ?_
    refine lv_bipush (v := 8) hx hb dX2_encryptBlock_152 (by decide) ?_
    refine lv_icmp_ge (tgt := 200) hx hb dX2_encryptBlock_154 (by decide) (fun _ => ?_) (fun h9 => absurd (by decide) h9)
    exact kk ls w1 w2 w3 w4 (lv_sub hl [0, 1, 2, 3, 4, 5, 6, 7, 8, 9, 10] rfl) hst
  | succ n ih =>
    intro i hi ls w1 w2 w3 w4 hl hst
    have hi8 : i < 8 := by omega
    have hn : (16 * T + 8 + i) < 32 := by omega
    refine lv_iload hx hb dX2_encryptBlock_150 (lv_at hl 11 rfl) ?_
    refine lv_bipush (v := 8) hx hb dX2_encryptBlock_152 (by decide) ?_
    refine lv_icmp_ge (tgt := 200) hx hb dX2_encryptBlock_154 (by decide) (fun h9 => absurd h9 (nI_ge (a := i) (b := 8) hi8 (by decide))) (fun _ => ?_)
    refine lv_iload hx hb dX2_encryptBlock_157 (lv_at hl 8 rfl) ?_
    refine lv_istore (lv' := [(12, .int w4), (0, .ref h0), (1, .ref qi), (2, .int 0), (3, .ref qo), (4, .int 0), (5, .int w1), (6, .int w2), (7, .int w3), (8, .int w4), (9, .int (nI (16 * T + 8 + i))), (10, .int (nI T)), (11, .int (nI i))]) hx hb dX2_encryptBlock_159 hl (by decide) rfl (fun ls hl => ?_)
    refine lv_iload hx hb dX2_encryptBlock_161 (lv_at hl 8 rfl) ?_
    refine lv_istore (lv' := [(8, .int w3), (12, .int w4), (0, .ref h0), (1, .ref qi), (2, .int 0), (3, .ref qo), (4, .int 0), (5, .int w1), (6, .int w2), (7, .int w3), (9, .int (nI (16 * T + 8 + i))), (10, .int (nI T)), (11, .int (nI i))]) hx hb dX2_encryptBlock_163 hl (by decide) rfl (fun ls hl => ?_)
    refine lv_iload hx hb dX2_encryptBlock_165 (lv_at hl 7 rfl) ?_
    refine lv_iload hx hb dX2_encryptBlock_167 (lv_at hl 8 rfl) ?_
    refine lv_ixor hx hb dX2_encryptBlock_169 ?_
    refine lv_iload hx hb dX2_encryptBlock_170 (lv_at hl 10 rfl) ?_
    refine lv_iconst (v := 1) hx hb dX2_encryptBlock_172 (by decide) ?_
    refine lv_iadd hx hb dX2_encryptBlock_173 ?_
    refine lv_ixor hx hb dX2_encryptBlock_174 ?_
    refine lv_topi (fun wn e_wn => ?_)
    refine lv_istore (lv' := [(7, .int wn), (8, .int w3), (12, .int w4), (0, .ref h0), (1, .ref qi), (2, .int 0), (3, .ref qo), (4, .int 0), (5, .int w1), (6, .int w2), (9, .int (nI (16 * T + 8 + i))), (10, .int (nI T)), (11, .int (nI i))]) hx hb dX2_encryptBlock_175 hl (by decide) rfl (fun ls hl => ?_)
    refine lv_aload_n hx hb dX2_encryptBlock_177 rfl (lv_at hl 3 rfl) ?_
    refine lv_iload hx hb dX2_encryptBlock_178 (lv_at hl 10 rfl) ?_
    refine lv_iload hx hb dX2_encryptBlock_180 (lv_at hl 8 rfl) ?_
    refine vp_callSi (W.runV (As := [.int (nI (16 * T + 8 + i)), .int w1]) (rest := []) ⟨hx, hb, hml, hown, hts⟩ (met_g l G dB dJ ft h0 r0 r1 r2 r3 en f0 f1 f2 f3 K hKy (16 * T + 8 + i) (by omega) w1) (cwV 2 hts (lw_V q223 q225 qs2 q6 q226) rfl rfl rfl (by decide +kernel) ⟨Nat.le_of_ble_eq_true rfl, Nat.le_of_ble_eq_true rfl⟩) ⟨sk_blindR, va_recv hK hP (ci := 1) (q0 := 0) rfl rfl, sk_preR hP hK hE hS [.ref h0, .int (nI (16 * T + 8 + i)), .int w1] [0, 1, 2, 3, 4] rfl⟩ rfl rfl hl.1 rfl (lv_room (Nat.le_of_ble_eq_true rfl)) dX2_encryptBlock_182 ⟨Nat.le_of_ble_eq_true rfl, Nat.le_of_ble_eq_true rfl⟩) (fun r hr => ?_)
    subst hr
    refine lv_istore (lv' := [(6, .int (nI (sk_G K (16 * T + 8 + i) (sk_lo w1)))), (7, .int wn), (8, .int w3), (12, .int w4), (0, .ref h0), (1, .ref qi), (2, .int 0), (3, .ref qo), (4, .int 0), (5, .int w1), (9, .int (nI (16 * T + 8 + i))), (10, .int (nI T)), (11, .int (nI i))]) hx hb dX2_encryptBlock_185 hl (by decide) rfl (fun ls hl => ?_)
    refine lv_iload hx hb dX2_encryptBlock_187 (lv_at hl 3 rfl) ?_
    refine lv_istore (lv' := [(5, .int w4), (6, .int (nI (sk_G K (16 * T + 8 + i) (sk_lo w1)))), (7, .int wn), (8, .int w3), (12, .int w4), (0, .ref h0), (1, .ref qi), (2, .int 0), (3, .ref qo), (4, .int 0), (9, .int (nI (16 * T + 8 + i))), (10, .int (nI T)), (11, .int (nI i))]) hx hb dX2_encryptBlock_189 hl (by decide) rfl (fun ls hl => ?_)
    refine lv_iinc (v := nI (16 * T + 8 + (i + 1))) (lv' := [(9, .int (nI (16 * T + 8 + (i + 1)))), (5, .int w4), (6, .int (nI (sk_G K (16 * T + 8 + i) (sk_lo w1)))), (7, .int wn), (8, .int w3), (12, .int w4), (0, .ref h0), (1, .ref qi), (2, .int 0), (3, .ref qo), (4, .int 0), (10, .int (nI T)), (11, .int (nI i))]) hx hb dX2_encryptBlock_191 hl (k := 10) rfl (nI_1 (16 * T + 8 + i)) (by decide) rfl (fun ls hl => ?_)
    refine lv_iinc (v := nI (i + 1)) (lv' := [(11, .int (nI (i + 1))), (9, .int (nI (16 * T + 8 + (i + 1)))), (5, .int w4), (6, .int (nI (sk_G K (16 * T + 8 + i) (sk_lo w1)))), (7, .int wn), (8, .int w3), (12, .int w4), (0, .ref h0), (1, .ref qi), (2, .int 0), (3, .ref qo), (4, .int 0), (10, .int (nI T))]) hx hb dX2_encryptBlock_194 hl (k := 12) rfl (nI_1 i) (by decide) rfl (fun ls hl => ?_)
    refine lv_goto (tgt := 150) hx hb dX2_encryptBlock_197 (by decide) ?_
    have hlg : sk_lo (nI (sk_G K (16 * T + 8 + i) (sk_lo w1))) = sk_G K (16 * T + 8 + i) (sk_lo w1) := sk_lo_nI (sk_G_lt K (16 * T + 8 + i) (sk_lo_lt w1))
    have hwn := (congrArg sk_lo e_wn).trans (sk_lo3 _ _ (k := (16 * T + 8 + i)) (by omega))
    exact ih (i + 1) (by omega) ls w4 (nI (sk_G K (16 * T + 8 + i) (sk_lo w1))) wn w3 (lv_sub hl [7, 8, 9, 10, 11, 2, 3, 4, 5, 1, 12, 0] rfl) (by rw [hwn, hlg]; exact sk_stB hst (by omega))
set_option maxHeartbeats 4000000 in
set_option maxRecDepth 100000 in
theorem g_out {p : Program} {e : Env} {s : State} {m : MethodId} {args : Array Value} {below : List Frame} {meth : Method} {c : Code} {A : Nat → Prop} {Q : State → Prop} (l : Launch) (G : va_G) (dB dJ : ClassId) (ft : Nat) (h0 r0 r1 r2 r3 qi qo : Nat) (en : Int32) (f0 f1 f2 f3 fi fo : Nat → Int32) (K : Nat → Nat) (hKy : sk_keys K f0 f1 f2 f3) (hx : p.tables.exec = Jvm.exec) (hb : c.code = cX2_encryptBlock) (hml : c.maxLocals = 13) (hown : s.vm.findClass RX2 = some m.cls) (hts : ∀ w ∈ lw_all, w.before args s = true) (hK : va_K G vwCl (sk_ty dB dJ) s) (hE : sk_E ft A s s.heap) (hS : va_S A s.heap s.heap []) (hP : va_P G vwCl [(h0, .inr (1, [.ref r0, .ref r1, .ref r2, .ref r3, .int en])), (r0, .inl (dJ, 32, .inl f0)), (r1, .inl (dJ, 32, .inl f1)), (r2, .inl (dJ, 32, .inl f2)), (r3, .inl (dJ, 32, .inl f3)), (qi, .inl (dB, 8, .inl fi)), (qo, .inl (dB, 8, .inl fo))] s.heap) (S : sk_S) (T : Nat) (hT : T < 2)
    (kk : ∀ (ls : Array Slot) (w1 w2 w3 w4 : Int32), lv_has ls 13 [(0, .ref h0), (1, .ref qi), (2, .int 0), (3, .ref qo), (4, .int 0), (5, .int w1), (6, .int w2), (7, .int w3), (8, .int w4), (9, .int (nI (16 * (T + 1)))), (10, .int (nI (T + 1)))] → (sk_lo w1, sk_lo w2, sk_lo w3, sk_lo w4) = sk_enc K (16 * (T + 1)) S → W p l e (headSpec (ws_ yX2_encryptBlock cX2_encryptBlock 13 (some .int)) ({ frames := 1, cells := 0, slots := 0, locals := 40 })).room s m args below meth c s.heap [] 0 0 Q (F0 m 88 ls [])) :
    ∀ (ls : Array Slot) (w1 w2 w3 w4 : Int32), lv_has ls 13 [(0, .ref h0), (1, .ref qi), (2, .int 0), (3, .ref qo), (4, .int 0), (5, .int w1), (6, .int w2), (7, .int w3), (8, .int w4), (9, .int (nI (16 * T))), (10, .int (nI T))] → (sk_lo w1, sk_lo w2, sk_lo w3, sk_lo w4) = sk_enc K (16 * T) S → W p l e (headSpec (ws_ yX2_encryptBlock cX2_encryptBlock 13 (some .int)) ({ frames := 1, cells := 0, slots := 0, locals := 40 })).room s m args below meth c s.heap [] 0 0 Q (F0 m 88 ls []) := by
  intro ls w1 w2 w3 w4 hl hst
  refine lv_iload hx hb dX2_encryptBlock_88 (lv_at hl 10 rfl) ?_
  refine lv_iconst (v := 2) hx hb dX2_encryptBlock_90 (by decide) ?_
  refine lv_icmp_ge (tgt := 206) hx hb dX2_encryptBlock_91 (by decide) (fun h9 => absurd h9 (nI_ge (a := T) (b := 2) hT (by decide))) (fun _ => ?_)
  refine lv_iconst (v := 0) hx hb dX2_encryptBlock_94 (by decide) ?_
  refine lv_istore (lv' := [(11, .int 0), (0, .ref h0), (1, .ref qi), (2, .int 0), (3, .ref qo), (4, .int 0), (5, .int w1), (6, .int w2), (7, .int w3), (8, .int w4), (9, .int (nI (16 * T))), (10, .int (nI T))]) hx hb dX2_encryptBlock_95 hl (by decide) rfl (fun ls hl => ?_)
  refine g_in1 l G dB dJ ft h0 r0 r1 r2 r3 qi qo en f0 f1 f2 f3 fi fo K hKy hx hb hml hown hts hK hE hS hP S T hT ?_ 8 0 rfl ls w1 w2 w3 w4 (lv_sub hl [1, 2, 3, 4, 5, 6, 7, 8, 9, 10, 11, 0] rfl) hst
  intro ls w1 w2 w3 w4 hl hst
  refine lv_iconst (v := 0) hx hb dX2_encryptBlock_147 (by decide) ?_
  refine lv_istore (lv' := [(11, .int 0), (0, .ref h0), (1, .ref qi), (2, .int 0), (3, .ref qo), (4, .int 0), (5, .int w1), (6, .int w2), (7, .int w3), (8, .int w4), (9, .int (nI (16 * T + 8))), (10, .int (nI T))]) hx hb dX2_encryptBlock_148 hl (by decide) rfl (fun ls hl => ?_)
  refine g_in2 l G dB dJ ft h0 r0 r1 r2 r3 qi qo en f0 f1 f2 f3 fi fo K hKy hx hb hml hown hts hK hE hS hP S T hT ?_ 8 0 rfl ls w1 w2 w3 w4 (lv_sub hl [1, 2, 3, 4, 5, 6, 7, 8, 9, 10, 11, 0] rfl) hst
  intro ls w1 w2 w3 w4 hl hst
  refine lv_iinc (v := nI (T + 1)) (lv' := [(10, .int (nI (T + 1))), (0, .ref h0), (1, .ref qi), (2, .int 0), (3, .ref qo), (4, .int 0), (5, .int w1), (6, .int w2), (7, .int w3), (8, .int w4), (9, .int (nI (16 * (T + 1))))]) hx hb dX2_encryptBlock_200 hl (k := 10) rfl (nI_1 T) (by decide) rfl (fun ls hl => ?_)
  refine lv_goto (tgt := 88) hx hb dX2_encryptBlock_203 (by decide) ?_
  exact kk ls w1 w2 w3 w4 (lv_sub hl [1, 2, 3, 4, 5, 6, 7, 8, 9, 10, 0] rfl) hst
set_option maxHeartbeats 4000000 in
set_option maxRecDepth 100000 in
/-- encryptBlock -/
theorem met_encryptBlock (l : Launch) (G : va_G) (dB dJ : ClassId) (ft : Nat) (h0 r0 r1 r2 r3 qi qo : Nat) (en : Int32) (f0 f1 f2 f3 fi fo : Nat → Int32) (K : Nat → Nat) (hKy : sk_keys K f0 f1 f2 f3) (sz : Nat) : Met l yX2_encryptBlock (ws_ yX2_encryptBlock cX2_encryptBlock 13 (some .int)) ({ frames := 1, cells := 0, slots := 0, locals := 40 }) (sk_Pre G dB dJ ft [.ref h0, .ref qi, .int 0, .ref qo, .int 0] sz [(h0, .inr (1, [.ref r0, .ref r1, .ref r2, .ref r3, .int en])), (r0, .inl (dJ, 32, .inl f0)), (r1, .inl (dJ, 32, .inl f1)), (r2, .inl (dJ, 32, .inl f2)), (r3, .inl (dJ, 32, .inl f3)), (qi, .inl (dB, 8, .inl fi)), (qo, .inl (dB, 8, .inl fo))]) (sk_Qi G (va_A [(h0, .inr (1, [.ref r0, .ref r1, .ref r2, .ref r3, .int en])), (r0, .inl (dJ, 32, .inl f0)), (r1, .inl (dJ, 32, .inl f1)), (r2, .inl (dJ, 32, .inl f2)), (r3, .inl (dJ, 32, .inl f3)), (qi, .inl (dB, 8, .inl fi)), (qo, .inl (dB, 8, .inl fo))] sz) (fun _ => True) (fun w => ∃ fn : Nat → Int32, sk_is fn (sk_enc K 32 (sk_of fi)) ∧ w = [(h0, .inr (1, [.ref r0, .ref r1, .ref r2, .ref r3, .int en])), (r0, .inl (dJ, 32, .inl f0)), (r1, .inl (dJ, 32, .inl f1)), (r2, .inl (dJ, 32, .inl f2)), (r3, .inl (dJ, 32, .inl f3)), (qi, .inl (dB, 8, .inl fi)), (qo, .inl (dB, 8, .inl fn))])) 0 0 (va_A [(h0, .inr (1, [.ref r0, .ref r1, .ref r2, .ref r3, .int en])), (r0, .inl (dJ, 32, .inl f0)), (r1, .inl (dJ, 32, .inl f1)), (r2, .inl (dJ, 32, .inl f2)), (r3, .inl (dJ, 32, .inl f3)), (qi, .inl (dB, 8, .inl fi)), (qo, .inl (dB, 8, .inl fo))] sz) := by
  refine Met.ofW (cc := cX2_encryptBlock) (maxL := 13) (ret := (some .int)) (by decide) rfl ?_
  intro p e s m args below meth c s₁ B hml hv
  obtain ⟨rfl, hsz, hP, hK, hD0, hE⟩ := hv
  have hx := B.exec
  have hb := B.bytes
  have hr := B.returns
  have hts := atoms_spec (ws := ws_ yX2_encryptBlock cX2_encryptBlock 13 (some .int)) B.pre
  have hts : ∀ w ∈ lw_all, w.before _ s = true := fun w h => hts w (List.mem_cons_of_mem _ h)
  have hown : s.vm.findClass RX2 = some m.cls := findClass_of_methodNamed B.named
  have hlocks := B.notSynchronized
  subst hsz
  have hD := hD0.self (sz := s.heap.size)
  generalize hAe : va_A [(h0, .inr (1, [.ref r0, .ref r1, .ref r2, .ref r3, .int en])), (r0, .inl (dJ, 32, .inl f0)), (r1, .inl (dJ, 32, .inl f1)), (r2, .inl (dJ, 32, .inl f2)), (r3, .inl (dJ, 32, .inl f3)), (qi, .inl (dB, 8, .inl fi)), (qo, .inl (dB, 8, .inl fo))] s.heap.size = A at hD hE ⊢
  have hA : ∀ q : Nat, s.heap.size ≤ q → A q := fun q h => by rw [← hAe]; exact Or.inr h
  have hS : va_S A s.heap s.heap [] := va_S.rf
  have hP : va_P G vwCl [(h0, .inr (1, [.ref r0, .ref r1, .ref r2, .ref r3, .int en])), (r0, .inl (dJ, 32, .inl f0)), (r1, .inl (dJ, 32, .inl f1)), (r2, .inl (dJ, 32, .inl f2)), (r3, .inl (dJ, 32, .inl f3)), (qi, .inl (dB, 8, .inl fi)), (qo, .inl (dB, 8, .inl fo))] s.heap := hP
  have hl := lv_entry ([.ref h0, .ref qi, .int 0, .ref qo, .int 0]) (n := 13) (Nat.le_of_ble_eq_true rfl)
  rw [lg_entry_eq]
  generalize (lg_sl ([.ref h0, .ref qi, .int 0, .ref qo, .int 0]) ++ List.replicate (13 - (lg_sl ([.ref h0, .ref qi, .int 0, .ref qo, .int 0])).length) Slot.unset).toArray = ls at hl ⊢
  have hl : lv_has ls 13 [(0, .ref h0), (1, .ref qi), (2, .int 0), (3, .ref qo), (4, .int 0)] := hl
  refine lv_aload_n hx hb dX2_encryptBlock_0 rfl (lv_at hl 1 rfl) ?_
  refine lv_iload_n hx hb dX2_encryptBlock_1 rfl (lv_at hl 2 rfl) ?_
  refine lv_iconst (v := 0) hx hb dX2_encryptBlock_2 (by decide) ?_
  refine lv_iadd hx hb dX2_encryptBlock_3 ?_
  refine sk_top (w := nI 0) (by decide) ?_
  refine sk_bld hx hb hK hP 5 rfl (j := 0) (by decide) (Nat.le_of_ble_eq_true rfl) dX2_encryptBlock_4 ?_
  refine lv_bipush (v := 8) hx hb dX2_encryptBlock_5 (by decide) ?_
  refine lv_ishl hx hb dX2_encryptBlock_7 ?_
  refine lv_aload_n hx hb dX2_encryptBlock_8 rfl (lv_at hl 1 rfl) ?_
  refine lv_iload_n hx hb dX2_encryptBlock_9 rfl (lv_at hl 2 rfl) ?_
  refine lv_iconst (v := 1) hx hb dX2_encryptBlock_10 (by decide) ?_
  refine lv_iadd hx hb dX2_encryptBlock_11 ?_
  refine sk_top (w := nI 1) (by decide) ?_
  refine sk_bld hx hb hK hP 5 rfl (j := 1) (by decide) (Nat.le_of_ble_eq_true rfl) dX2_encryptBlock_12 ?_
  refine lv_sipush (v := 255) hx hb dX2_encryptBlock_13 (by decide) ?_
  refine lv_iand hx hb dX2_encryptBlock_16 ?_
  refine lv_iadd hx hb dX2_encryptBlock_17 ?_
  refine lv_topi (fun w1 e_w1 => ?_)
  have hw1 : sk_lo w1 = sk_w fi 0 := by rw [e_w1]; exact sk_word _ _
  refine lv_istore (lv' := [(5, .int w1), (0, .ref h0), (1, .ref qi), (2, .int 0), (3, .ref qo), (4, .int 0)]) hx hb dX2_encryptBlock_18 hl (by decide) rfl (fun ls hl => ?_)
  refine lv_aload_n hx hb dX2_encryptBlock_20 rfl (lv_at hl 2 rfl) ?_
  refine lv_iload_n hx hb dX2_encryptBlock_21 rfl (lv_at hl 3 rfl) ?_
  refine lv_iconst (v := 2) hx hb dX2_encryptBlock_22 (by decide) ?_
  refine lv_iadd hx hb dX2_encryptBlock_23 ?_
  refine sk_top (w := nI 2) (by decide) ?_
  refine sk_bld hx hb hK hP 5 rfl (j := 2) (by decide) (Nat.le_of_ble_eq_true rfl) dX2_encryptBlock_24 ?_
  refine lv_bipush (v := 8) hx hb dX2_encryptBlock_25 (by decide) ?_
  refine lv_ishl hx hb dX2_encryptBlock_27 ?_
  refine lv_aload_n hx hb dX2_encryptBlock_28 rfl (lv_at hl 2 rfl) ?_
  refine lv_iload_n hx hb dX2_encryptBlock_29 rfl (lv_at hl 3 rfl) ?_
  refine lv_iconst (v := 3) hx hb dX2_encryptBlock_30 (by decide) ?_
  refine lv_iadd hx hb dX2_encryptBlock_31 ?_
  refine sk_top (w := nI 3) (by decide) ?_
  refine sk_bld hx hb hK hP 5 rfl (j := 3) (by decide) (Nat.le_of_ble_eq_true rfl) dX2_encryptBlock_32 ?_
  refine lv_sipush (v := 255) hx hb dX2_encryptBlock_33 (by decide) ?_
  refine lv_iand hx hb dX2_encryptBlock_36 ?_
  refine lv_iadd hx hb dX2_encryptBlock_37 ?_
  refine lv_topi (fun w2 e_w2 => ?_)
  have hw2 : sk_lo w2 = sk_w fi 2 := by rw [e_w2]; exact sk_word _ _
  refine lv_istore (lv' := [(6, .int w2), (5, .int w1), (0, .ref h0), (1, .ref qi), (2, .int 0), (3, .ref qo), (4, .int 0)]) hx hb dX2_encryptBlock_38 hl (by decide) rfl (fun ls hl => ?_)
  refine lv_aload_n hx hb dX2_encryptBlock_40 rfl (lv_at hl 3 rfl) ?_
  refine lv_iload_n hx hb dX2_encryptBlock_41 rfl (lv_at hl 4 rfl) ?_
  refine lv_iconst (v := 4) hx hb dX2_encryptBlock_42 (by decide) ?_
  refine lv_iadd hx hb dX2_encryptBlock_43 ?_
  refine sk_top (w := nI 4) (by decide) ?_
  refine sk_bld hx hb hK hP 5 rfl (j := 4) (by decide) (Nat.le_of_ble_eq_true rfl) dX2_encryptBlock_44 ?_
  refine lv_bipush (v := 8) hx hb dX2_encryptBlock_45 (by decide) ?_
  refine lv_ishl hx hb dX2_encryptBlock_47 ?_
  refine lv_aload_n hx hb dX2_encryptBlock_48 rfl (lv_at hl 3 rfl) ?_
  refine lv_iload_n hx hb dX2_encryptBlock_49 rfl (lv_at hl 4 rfl) ?_
  refine lv_iconst (v := 5) hx hb dX2_encryptBlock_50 (by decide) ?_
  refine lv_iadd hx hb dX2_encryptBlock_51 ?_
  refine sk_top (w := nI 5) (by decide) ?_
  refine sk_bld hx hb hK hP 5 rfl (j := 5) (by decide) (Nat.le_of_ble_eq_true rfl) dX2_encryptBlock_52 ?_
  refine lv_sipush (v := 255) hx hb dX2_encryptBlock_53 (by decide) ?_
  refine lv_iand hx hb dX2_encryptBlock_56 ?_
  refine lv_iadd hx hb dX2_encryptBlock_57 ?_
  refine lv_topi (fun w3 e_w3 => ?_)
  have hw3 : sk_lo w3 = sk_w fi 4 := by rw [e_w3]; exact sk_word _ _
  refine lv_istore (lv' := [(7, .int w3), (6, .int w2), (5, .int w1), (0, .ref h0), (1, .ref qi), (2, .int 0), (3, .ref qo), (4, .int 0)]) hx hb dX2_encryptBlock_58 hl (by decide) rfl (fun ls hl => ?_)
  refine lv_aload_n hx hb dX2_encryptBlock_60 rfl (lv_at hl 4 rfl) ?_
  refine lv_iload_n hx hb dX2_encryptBlock_61 rfl (lv_at hl 5 rfl) ?_
  refine lv_bipush (v := 6) hx hb dX2_encryptBlock_62 (by decide) ?_
  refine lv_iadd hx hb dX2_encryptBlock_64 ?_
  refine sk_top (w := nI 6) (by decide) ?_
  refine sk_bld hx hb hK hP 5 rfl (j := 6) (by decide) (Nat.le_of_ble_eq_true rfl) dX2_encryptBlock_65 ?_
  refine lv_bipush (v := 8) hx hb dX2_encryptBlock_66 (by decide) ?_
  refine lv_ishl hx hb dX2_encryptBlock_68 ?_
  refine lv_aload_n hx hb dX2_encryptBlock_69 rfl (lv_at hl 4 rfl) ?_
  refine lv_iload_n hx hb dX2_encryptBlock_70 rfl (lv_at hl 5 rfl) ?_
  refine lv_bipush (v := 7) hx hb dX2_encryptBlock_71 (by decide) ?_
  refine lv_iadd hx hb dX2_encryptBlock_73 ?_
  refine sk_top (w := nI 7) (by decide) ?_
  refine sk_bld hx hb hK hP 5 rfl (j := 7) (by decide) (Nat.le_of_ble_eq_true rfl) dX2_encryptBlock_74 ?_
  refine lv_sipush (v := 255) hx hb dX2_encryptBlock_75 (by decide) ?_
  refine lv_iand hx hb dX2_encryptBlock_78 ?_
  refine lv_iadd hx hb dX2_encryptBlock_79 ?_
  refine lv_topi (fun w4 e_w4 => ?_)
  have hw4 : sk_lo w4 = sk_w fi 6 := by rw [e_w4]; exact sk_word _ _
  refine lv_istore (lv' := [(8, .int w4), (7, .int w3), (6, .int w2), (5, .int w1), (0, .ref h0), (1, .ref qi), (2, .int 0), (3, .ref qo), (4, .int 0)]) hx hb dX2_encryptBlock_80 hl (by decide) rfl (fun ls hl => ?_)
  refine lv_iconst (v := 0) hx hb dX2_encryptBlock_82 (by decide) ?_
  refine lv_istore (lv' := [(9, .int 0), (8, .int w4), (7, .int w3), (6, .int w2), (5, .int w1), (0, .ref h0), (1, .ref qi), (2, .int 0), (3, .ref qo), (4, .int 0)]) hx hb dX2_encryptBlock_83 hl (by decide) rfl (fun ls hl => ?_)
  refine lv_iconst (v := 0) hx hb dX2_encryptBlock_85 (by decide) ?_
  refine lv_istore (lv' := [(10, .int 0), (9, .int 0), (8, .int w4), (7, .int w3), (6, .int w2), (5, .int w1), (0, .ref h0), (1, .ref qi), (2, .int 0), (3, .ref qo), (4, .int 0)]) hx hb dX2_encryptBlock_86 hl (by decide) rfl (fun ls hl => ?_)
  have hl : lv_has ls 13 [(10, .int (nI 0)), (9, .int (nI (16 * 0))), (8, .int w4), (7, .int w3), (6, .int w2), (5, .int w1), (0, .ref h0), (1, .ref qi), (2, .int 0), (3, .ref qo), (4, .int 0)] := hl
  have hst : (sk_lo w1, sk_lo w2, sk_lo w3, sk_lo w4) = sk_enc K (16 * 0) (sk_of fi) := by rw [hw1, hw2, hw3, hw4]; rfl
  refine g_out l G dB dJ ft h0 r0 r1 r2 r3 qi qo en f0 f1 f2 f3 fi fo K hKy hx hb hml hown hts hK hE hS hP (sk_of fi) 0 (by decide) ?_ ls w1 w2 w3 w4 (lv_sub hl [6, 7, 8, 9, 10, 5, 4, 3, 2, 1, 0] rfl) hst
  intro ls w1 w2 w3 w4 hl hst
  refine g_out l G dB dJ ft h0 r0 r1 r2 r3 qi qo en f0 f1 f2 f3 fi fo K hKy hx hb hml hown hts hK hE hS hP (sk_of fi) 1 (by decide) ?_ ls w1 w2 w3 w4 hl hst
  intro ls w1 w2 w3 w4 hl hst
  refine lv_iload hx hb dX2_encryptBlock_88 (lv_at hl 10 rfl) ?_
  refine lv_iconst (v := 2) hx hb dX2_encryptBlock_90 (by decide) ?_
  refine lv_icmp_ge (tgt := 206) hx hb dX2_encryptBlock_91 (by decide) (fun _ => ?_) (fun h9 => absurd (by decide) h9)
  refine lv_aload_n hx hb dX2_encryptBlock_206 rfl (lv_at hl 3 rfl) ?_
  refine lv_iload hx hb dX2_encryptBlock_207 (lv_at hl 4 rfl) ?_
  refine lv_iconst (v := 0) hx hb dX2_encryptBlock_209 (by decide) ?_
  refine lv_iadd hx hb dX2_encryptBlock_210 ?_
  refine sk_top (w := nI 0) (by decide) ?_
  refine lv_iload hx hb dX2_encryptBlock_211 (lv_at hl 5 rfl) ?_
  refine lv_bipush (v := 8) hx hb dX2_encryptBlock_213 (by decide) ?_
  refine lv_ishr hx hb dX2_encryptBlock_215 ?_
  refine lv_i2b hx hb dX2_encryptBlock_216 rfl ?_
  refine sk_bst hx hb hK hP hD hS 6 rfl (j := 0) (by decide) (Nat.le_of_ble_eq_true rfl) dX2_encryptBlock_217 (fun g1 H locs e_g1 hP hD hS => ?_)
  have hP : va_P G vwCl [(h0, .inr (1, [.ref r0, .ref r1, .ref r2, .ref r3, .int en])), (r0, .inl (dJ, 32, .inl f0)), (r1, .inl (dJ, 32, .inl f1)), (r2, .inl (dJ, 32, .inl f2)), (r3, .inl (dJ, 32, .inl f3)), (qi, .inl (dB, 8, .inl fi)), (qo, .inl (dB, 8, .inl g1))] H := hP
  have hD : va_D A [(h0, .inr (1, [.ref r0, .ref r1, .ref r2, .ref r3, .int en])), (r0, .inl (dJ, 32, .inl f0)), (r1, .inl (dJ, 32, .inl f1)), (r2, .inl (dJ, 32, .inl f2)), (r3, .inl (dJ, 32, .inl f3)), (qi, .inl (dB, 8, .inl fi)), (qo, .inl (dB, 8, .inl g1))] := hD
  refine lv_aload_n hx hb dX2_encryptBlock_218 rfl (lv_at hl 3 rfl) ?_
  refine lv_iload hx hb dX2_encryptBlock_219 (lv_at hl 4 rfl) ?_
  refine lv_iconst (v := 1) hx hb dX2_encryptBlock_221 (by decide) ?_
  refine lv_iadd hx hb dX2_encryptBlock_222 ?_
  refine sk_top (w := nI 1) (by decide) ?_
  refine lv_iload hx hb dX2_encryptBlock_223 (lv_at hl 5 rfl) ?_
  refine lv_i2b hx hb dX2_encryptBlock_225 rfl ?_
  refine sk_bst hx hb hK hP hD hS 6 rfl (j := 1) (by decide) (Nat.le_of_ble_eq_true rfl) dX2_encryptBlock_226 (fun g2 H locs e_g2 hP hD hS => ?_)
  have hP : va_P G vwCl [(h0, .inr (1, [.ref r0, .ref r1, .ref r2, .ref r3, .int en])), (r0, .inl (dJ, 32, .inl f0)), (r1, .inl (dJ, 32, .inl f1)), (r2, .inl (dJ, 32, .inl f2)), (r3, .inl (dJ, 32, .inl f3)), (qi, .inl (dB, 8, .inl fi)), (qo, .inl (dB, 8, .inl g2))] H := hP
  have hD : va_D A [(h0, .inr (1, [.ref r0, .ref r1, .ref r2, .ref r3, .int en])), (r0, .inl (dJ, 32, .inl f0)), (r1, .inl (dJ, 32, .inl f1)), (r2, .inl (dJ, 32, .inl f2)), (r3, .inl (dJ, 32, .inl f3)), (qi, .inl (dB, 8, .inl fi)), (qo, .inl (dB, 8, .inl g2))] := hD
  refine lv_aload_n hx hb dX2_encryptBlock_227 rfl (lv_at hl 3 rfl) ?_
  refine lv_iload hx hb dX2_encryptBlock_228 (lv_at hl 4 rfl) ?_
  refine lv_iconst (v := 2) hx hb dX2_encryptBlock_230 (by decide) ?_
  refine lv_iadd hx hb dX2_encryptBlock_231 ?_
  refine sk_top (w := nI 2) (by decide) ?_
  refine lv_iload hx hb dX2_encryptBlock_232 (lv_at hl 6 rfl) ?_
  refine lv_bipush (v := 8) hx hb dX2_encryptBlock_234 (by decide) ?_
  refine lv_ishr hx hb dX2_encryptBlock_236 ?_
  refine lv_i2b hx hb dX2_encryptBlock_237 rfl ?_
  refine sk_bst hx hb hK hP hD hS 6 rfl (j := 2) (by decide) (Nat.le_of_ble_eq_true rfl) dX2_encryptBlock_238 (fun g3 H locs e_g3 hP hD hS => ?_)
  have hP : va_P G vwCl [(h0, .inr (1, [.ref r0, .ref r1, .ref r2, .ref r3, .int en])), (r0, .inl (dJ, 32, .inl f0)), (r1, .inl (dJ, 32, .inl f1)), (r2, .inl (dJ, 32, .inl f2)), (r3, .inl (dJ, 32, .inl f3)), (qi, .inl (dB, 8, .inl fi)), (qo, .inl (dB, 8, .inl g3))] H := hP
  have hD : va_D A [(h0, .inr (1, [.ref r0, .ref r1, .ref r2, .ref r3, .int en])), (r0, .inl (dJ, 32, .inl f0)), (r1, .inl (dJ, 32, .inl f1)), (r2, .inl (dJ, 32, .inl f2)), (r3, .inl (dJ, 32, .inl f3)), (qi, .inl (dB, 8, .inl fi)), (qo, .inl (dB, 8, .inl g3))] := hD
  refine lv_aload_n hx hb dX2_encryptBlock_239 rfl (lv_at hl 3 rfl) ?_
  refine lv_iload hx hb dX2_encryptBlock_240 (lv_at hl 4 rfl) ?_
  refine lv_iconst (v := 3) hx hb dX2_encryptBlock_242 (by decide) ?_
  refine lv_iadd hx hb dX2_encryptBlock_243 ?_
  refine sk_top (w := nI 3) (by decide) ?_
  refine lv_iload hx hb dX2_encryptBlock_244 (lv_at hl 6 rfl) ?_
  refine lv_i2b hx hb dX2_encryptBlock_246 rfl ?_
  refine sk_bst hx hb hK hP hD hS 6 rfl (j := 3) (by decide) (Nat.le_of_ble_eq_true rfl) dX2_encryptBlock_247 (fun g4 H locs e_g4 hP hD hS => ?_)
  have hP : va_P G vwCl [(h0, .inr (1, [.ref r0, .ref r1, .ref r2, .ref r3, .int en])), (r0, .inl (dJ, 32, .inl f0)), (r1, .inl (dJ, 32, .inl f1)), (r2, .inl (dJ, 32, .inl f2)), (r3, .inl (dJ, 32, .inl f3)), (qi, .inl (dB, 8, .inl fi)), (qo, .inl (dB, 8, .inl g4))] H := hP
  have hD : va_D A [(h0, .inr (1, [.ref r0, .ref r1, .ref r2, .ref r3, .int en])), (r0, .inl (dJ, 32, .inl f0)), (r1, .inl (dJ, 32, .inl f1)), (r2, .inl (dJ, 32, .inl f2)), (r3, .inl (dJ, 32, .inl f3)), (qi, .inl (dB, 8, .inl fi)), (qo, .inl (dB, 8, .inl g4))] := hD
  refine lv_aload_n hx hb dX2_encryptBlock_248 rfl (lv_at hl 3 rfl) ?_
  refine lv_iload hx hb dX2_encryptBlock_249 (lv_at hl 4 rfl) ?_
  refine lv_iconst (v := 4) hx hb dX2_encryptBlock_251 (by decide) ?_
  refine lv_iadd hx hb dX2_encryptBlock_252 ?_
  refine sk_top (w := nI 4) (by decide) ?_
  refine lv_iload hx hb dX2_encryptBlock_253 (lv_at hl 7 rfl) ?_
  refine lv_bipush (v := 8) hx hb dX2_encryptBlock_255 (by decide) ?_
  refine lv_ishr hx hb dX2_encryptBlock_257 ?_
  refine lv_i2b hx hb dX2_encryptBlock_258 rfl ?_
  refine sk_bst hx hb hK hP hD hS 6 rfl (j := 4) (by decide) (Nat.le_of_ble_eq_true rfl) dX2_encryptBlock_259 (fun g5 H locs e_g5 hP hD hS => ?_)
  have hP : va_P G vwCl [(h0, .inr (1, [.ref r0, .ref r1, .ref r2, .ref r3, .int en])), (r0, .inl (dJ, 32, .inl f0)), (r1, .inl (dJ, 32, .inl f1)), (r2, .inl (dJ, 32, .inl f2)), (r3, .inl (dJ, 32, .inl f3)), (qi, .inl (dB, 8, .inl fi)), (qo, .inl (dB, 8, .inl g5))] H := hP
  have hD : va_D A [(h0, .inr (1, [.ref r0, .ref r1, .ref r2, .ref r3, .int en])), (r0, .inl (dJ, 32, .inl f0)), (r1, .inl (dJ, 32, .inl f1)), (r2, .inl (dJ, 32, .inl f2)), (r3, .inl (dJ, 32, .inl f3)), (qi, .inl (dB, 8, .inl fi)), (qo, .inl (dB, 8, .inl g5))] := hD
  refine lv_aload_n hx hb dX2_encryptBlock_260 rfl (lv_at hl 3 rfl) ?_
  refine lv_iload hx hb dX2_encryptBlock_261 (lv_at hl 4 rfl) ?_
  refine lv_iconst (v := 5) hx hb dX2_encryptBlock_263 (by decide) ?_
  refine lv_iadd hx hb dX2_encryptBlock_264 ?_
  refine sk_top (w := nI 5) (by decide) ?_
  refine lv_iload hx hb dX2_encryptBlock_265 (lv_at hl 7 rfl) ?_
  refine lv_i2b hx hb dX2_encryptBlock_267 rfl ?_
  refine sk_bst hx hb hK hP hD hS 6 rfl (j := 5) (by decide) (Nat.le_of_ble_eq_true rfl) dX2_encryptBlock_268 (fun g6 H locs e_g6 hP hD hS => ?_)
  have hP : va_P G vwCl [(h0, .inr (1, [.ref r0, .ref r1, .ref r2, .ref r3, .int en])), (r0, .inl (dJ, 32, .inl f0)), (r1, .inl (dJ, 32, .inl f1)), (r2, .inl (dJ, 32, .inl f2)), (r3, .inl (dJ, 32, .inl f3)), (qi, .inl (dB, 8, .inl fi)), (qo, .inl (dB, 8, .inl g6))] H := hP
  have hD : va_D A [(h0, .inr (1, [.ref r0, .ref r1, .ref r2, .ref r3, .int en])), (r0, .inl (dJ, 32, .inl f0)), (r1, .inl (dJ, 32, .inl f1)), (r2, .inl (dJ, 32, .inl f2)), (r3, .inl (dJ, 32, .inl f3)), (qi, .inl (dB, 8, .inl fi)), (qo, .inl (dB, 8, .inl g6))] := hD
  refine lv_aload_n hx hb dX2_encryptBlock_269 rfl (lv_at hl 3 rfl) ?_
  refine lv_iload hx hb dX2_encryptBlock_270 (lv_at hl 4 rfl) ?_
  refine lv_bipush (v := 6) hx hb dX2_encryptBlock_272 (by decide) ?_
  refine lv_iadd hx hb dX2_encryptBlock_274 ?_
  refine sk_top (w := nI 6) (by decide) ?_
  refine lv_iload hx hb dX2_encryptBlock_275 (lv_at hl 8 rfl) ?_
  refine lv_bipush (v := 8) hx hb dX2_encryptBlock_277 (by decide) ?_
  refine lv_ishr hx hb dX2_encryptBlock_279 ?_
  refine lv_i2b hx hb dX2_encryptBlock_280 rfl ?_
  refine sk_bst hx hb hK hP hD hS 6 rfl (j := 6) (by decide) (Nat.le_of_ble_eq_true rfl) dX2_encryptBlock_281 (fun g7 H locs e_g7 hP hD hS => ?_)
  have hP : va_P G vwCl [(h0, .inr (1, [.ref r0, .ref r1, .ref r2, .ref r3, .int en])), (r0, .inl (dJ, 32, .inl f0)), (r1, .inl (dJ, 32, .inl f1)), (r2, .inl (dJ, 32, .inl f2)), (r3, .inl (dJ, 32, .inl f3)), (qi, .inl (dB, 8, .inl fi)), (qo, .inl (dB, 8, .inl g7))] H := hP
  have hD : va_D A [(h0, .inr (1, [.ref r0, .ref r1, .ref r2, .ref r3, .int en])), (r0, .inl (dJ, 32, .inl f0)), (r1, .inl (dJ, 32, .inl f1)), (r2, .inl (dJ, 32, .inl f2)), (r3, .inl (dJ, 32, .inl f3)), (qi, .inl (dB, 8, .inl fi)), (qo, .inl (dB, 8, .inl g7))] := hD
  refine lv_aload_n hx hb dX2_encryptBlock_282 rfl (lv_at hl 3 rfl) ?_
  refine lv_iload hx hb dX2_encryptBlock_283 (lv_at hl 4 rfl) ?_
  refine lv_bipush (v := 7) hx hb dX2_encryptBlock_285 (by decide) ?_
  refine lv_iadd hx hb dX2_encryptBlock_287 ?_
  refine sk_top (w := nI 7) (by decide) ?_
  refine lv_iload hx hb dX2_encryptBlock_288 (lv_at hl 8 rfl) ?_
  refine lv_i2b hx hb dX2_encryptBlock_290 rfl ?_
  refine sk_bst hx hb hK hP hD hS 6 rfl (j := 7) (by decide) (Nat.le_of_ble_eq_true rfl) dX2_encryptBlock_291 (fun g8 H locs e_g8 hP hD hS => ?_)
  have hP : va_P G vwCl [(h0, .inr (1, [.ref r0, .ref r1, .ref r2, .ref r3, .int en])), (r0, .inl (dJ, 32, .inl f0)), (r1, .inl (dJ, 32, .inl f1)), (r2, .inl (dJ, 32, .inl f2)), (r3, .inl (dJ, 32, .inl f3)), (qi, .inl (dB, 8, .inl fi)), (qo, .inl (dB, 8, .inl g8))] H := hP
  have hD : va_D A [(h0, .inr (1, [.ref r0, .ref r1, .ref r2, .ref r3, .int en])), (r0, .inl (dJ, 32, .inl f0)), (r1, .inl (dJ, 32, .inl f1)), (r2, .inl (dJ, 32, .inl f2)), (r3, .inl (dJ, 32, .inl f3)), (qi, .inl (dB, 8, .inl fi)), (qo, .inl (dB, 8, .inl g8))] := hD
  refine lv_bipush (v := 8) hx hb dX2_encryptBlock_292 (by decide) ?_
  have his : sk_is g8 (sk_enc K 32 (sk_of fi)) := by
    rw [show sk_enc K 32 (sk_of fi) = (sk_lo w1, sk_lo w2, sk_lo w3, sk_lo w4) from hst.symm]
    refine ⟨?_, ?_, ?_, ?_, ?_, ?_, ?_, ?_⟩
    · rw [sk_put_n e_g8 (i := 0) (by decide), sk_put_n e_g7 (i := 0) (by decide), sk_put_n e_g6 (i := 0) (by decide), sk_put_n e_g5 (i := 0) (by decide), sk_put_n e_g4 (i := 0) (by decide), sk_put_n e_g3 (i := 0) (by decide), sk_put_n e_g2 (i := 0) (by decide), sk_put_s e_g1, sk_by_i8, sk_by_hi]
    · rw [sk_put_n e_g8 (i := 1) (by decide), sk_put_n e_g7 (i := 1) (by decide), sk_put_n e_g6 (i := 1) (by decide), sk_put_n e_g5 (i := 1) (by decide), sk_put_n e_g4 (i := 1) (by decide), sk_put_n e_g3 (i := 1) (by decide), sk_put_s e_g2, sk_by_i8, sk_by_lo]
    · rw [sk_put_n e_g8 (i := 2) (by decide), sk_put_n e_g7 (i := 2) (by decide), sk_put_n e_g6 (i := 2) (by decide), sk_put_n e_g5 (i := 2) (by decide), sk_put_n e_g4 (i := 2) (by decide), sk_put_s e_g3, sk_by_i8, sk_by_hi]
    · rw [sk_put_n e_g8 (i := 3) (by decide), sk_put_n e_g7 (i := 3) (by decide), sk_put_n e_g6 (i := 3) (by decide), sk_put_n e_g5 (i := 3) (by decide), sk_put_s e_g4, sk_by_i8, sk_by_lo]
    · rw [sk_put_n e_g8 (i := 4) (by decide), sk_put_n e_g7 (i := 4) (by decide), sk_put_n e_g6 (i := 4) (by decide), sk_put_s e_g5, sk_by_i8, sk_by_hi]
    · rw [sk_put_n e_g8 (i := 5) (by decide), sk_put_n e_g7 (i := 5) (by decide), sk_put_s e_g6, sk_by_i8, sk_by_lo]
    · rw [sk_put_n e_g8 (i := 6) (by decide), sk_put_s e_g7, sk_by_i8, sk_by_hi]
    · rw [sk_put_s e_g8, sk_by_i8, sk_by_lo]
  exact W.iret hx hb hr (fun t ht hW => ⟨⟨8, (), rfl, trivial, _, ⟨g8, his, rfl⟩, by rw [ht]; exact hP, hD⟩, hS.F ht⟩) hS.2.2 dX2_encryptBlock_294
end
section
set_option maxHeartbeats 4000000 in
set_option maxRecDepth 100000 in
theorem h_in1 {p : Program} {e : Env} {s : State} {m : MethodId} {args : Array Value} {below : List Frame} {meth : Method} {c : Code} {A : Nat → Prop} {Q : State → Prop} (l : Launch) (G : va_G) (dB dJ : ClassId) (ft : Nat) (h0 r0 r1 r2 r3 qi qo : Nat) (en : Int32) (f0 f1 f2 f3 fi fo : Nat → Int32) (K : Nat → Nat) (hKy : sk_keys K f0 f1 f2 f3) (hx : p.tables.exec = Jvm.exec) (hb : c.code = cX2_decryptBlock) (hml : c.maxLocals = 13) (hown : s.vm.findClass RX2 = some m.cls) (hts : ∀ w ∈ lw_all, w.before args s = true) (hK : va_K G vwCl (sk_ty dB dJ) s) (hE : sk_E ft A s s.heap) (hS : va_S A s.heap s.heap []) (hP : va_P G vwCl [(h0, .inr (1, [.ref r0, .ref r1, .ref r2, .ref r3, .int en])), (r0, .inl (dJ, 32, .inl f0)), (r1, .inl (dJ, 32, .inl f1)), (r2, .inl (dJ, 32, .inl f2)), (r3, .inl (dJ, 32, .inl f3)), (qi, .inl (dB, 8, .inl fi)), (qo, .inl (dB, 8, .inl fo))] s.heap) (S : sk_S) (T : Nat) (hT : T < 2)
    (kk : ∀ (ls : Array Slot) (w1 w2 w3 w4 : Int32), lv_has ls 13 [(0, .ref h0), (1, .ref qi), (2, .int 0), (3, .ref qo), (4, .int 0), (5, .int w1), (6, .int w2), (7, .int w3), (8, .int w4), (9, .int ((31 : Int32) - nI (16 * T + 8))), (10, .int (nI T))] → (sk_lo w1, sk_lo w2, sk_lo w3, sk_lo w4) = sk_dec K (16 * T + 8) S → W p l e (headSpec (ws_ yX2_decryptBlock cX2_decryptBlock 13 (some .int)) ({ frames := 1, cells := 0, slots := 0, locals := 40 })).room s m args below meth c s.heap [] 0 0 Q (F0 m 148 ls [])) :
    ∀ (n i : Nat), i + n = 8 → ∀ (ls : Array Slot) (w1 w2 w3 w4 : Int32), lv_has ls 13 [(0, .ref h0), (1, .ref qi), (2, .int 0), (3, .ref qo), (4, .int 0), (5, .int w1), (6, .int w2), (7, .int w3), (8, .int w4), (9, .int ((31 : Int32) - nI (16 * T + i))), (10, .int (nI T)), (11, .int (nI i))] → (sk_lo w1, sk_lo w2, sk_lo w3, sk_lo w4) = sk_dec K (16 * T + i) S → W p l e (headSpec (ws_ yX2_decryptBlock cX2_decryptBlock 13 (some .int)) ({ frames := 1, cells := 0, slots := 0, locals := 40 })).room s m args below meth c s.heap [] 0 0 Q (F0 m 98 ls []) := by
  intro n
  induction n with
  | zero =>
    intro i hi ls w1 w2 w3 w4 hl hst
    obtain rfl : i = 8 := hi
    refine lv_iload hx hb dX2_decryptBlock_98 (lv_at hl 11 rfl) ?_
    refine lv_bipush (v := 8) hx hb dX2_decryptBlock_100 (by decide) ?_
    refine lv_icmp_ge (tgt := 148) hx hb dX2_decryptBlock_102 (by decide) (fun _ => ?_) (fun h9 => absurd (by decide) h9)
    exact kk ls w1 w2 w3 w4 (lv_sub hl [0, 1, 2, 3, 4, 5, 6, 7, 8, 9, 10] rfl) hst
  | succ n ih =>
    intro i hi ls w1 w2 w3 w4 hl hst
    have hi8 : i < 8 := by omega
    have hn : (16 * T + i) < 32 := by omega
    rw [sk_k31 (16 * T + i) hn] at hl
    refine lv_iload hx hb dX2_decryptBlock_98 (lv_at hl 11 rfl) ?_
    refine lv_bipush (v := 8) hx hb dX2_decryptBlock_100 (by decide) ?_
    refine lv_icmp_ge (tgt := 148) hx hb dX2_decryptBlock_102 (by decide) (fun h9 => absurd h9 (nI_ge (a := i) (b := 8) hi8 (by decide))) (fun _ => ?_)
    refine lv_iload hx hb dX2_decryptBlock_105 (lv_at hl 7 rfl) ?_
    refine lv_istore (lv' := [(12, .int w3), (0, .ref h0), (1, .ref qi), (2, .int 0), (3, .ref qo), (4, .int 0), (5, .int w1), (6, .int w2), (7, .int w3), (8, .int w4), (9, .int (nI (31 - (16 * T + i)))), (10, .int (nI T)), (11, .int (nI i))]) hx hb dX2_decryptBlock_107 hl (by decide) rfl (fun ls hl => ?_)
    refine lv_iload hx hb dX2_decryptBlock_109 (lv_at hl 9 rfl) ?_
    refine lv_istore (lv' := [(7, .int w4), (12, .int w3), (0, .ref h0), (1, .ref qi), (2, .int 0), (3, .ref qo), (4, .int 0), (5, .int w1), (6, .int w2), (8, .int w4), (9, .int (nI (31 - (16 * T + i)))), (10, .int (nI T)), (11, .int (nI i))]) hx hb dX2_decryptBlock_111 hl (by decide) rfl (fun ls hl => ?_)
    refine lv_iload hx hb dX2_decryptBlock_113 (lv_at hl 7 rfl) ?_
    refine lv_istore (lv' := [(8, .int w1), (7, .int w4), (12, .int w3), (0, .ref h0), (1, .ref qi), (2, .int 0), (3, .ref qo), (4, .int 0), (5, .int w1), (6, .int w2), (9, .int (nI (31 - (16 * T + i)))), (10, .int (nI T)), (11, .int (nI i))]) hx hb dX2_decryptBlock_115 hl (by decide) rfl (fun ls hl => ?_)
    refine lv_aload_n hx hb dX2_decryptBlock_117 rfl (lv_at hl 3 rfl) ?_
    refine lv_iload hx hb dX2_decryptBlock_118 (lv_at hl 10 rfl) ?_
    refine lv_iload hx hb dX2_decryptBlock_120 (lv_at hl 9 rfl) ?_
    refine vp_callSi (W.runV (As := [.int (nI (31 - (16 * T + i))), .int w2]) (rest := []) ⟨hx, hb, hml, hown, hts⟩ (met_h l G dB dJ ft h0 r0 r1 r2 r3 en f0 f1 f2 f3 K hKy (31 - (16 * T + i)) (by omega) w2) (cwV 2 hts (lw_V q233 q235 qs3 q6 q236) rfl rfl rfl (by decide +kernel) ⟨Nat.le_of_ble_eq_true rfl, Nat.le_of_ble_eq_true rfl⟩) ⟨sk_blindR, va_recv hK hP (ci := 1) (q0 := 0) rfl rfl, sk_preR hP hK hE hS [.ref h0, .int (nI (31 - (16 * T + i))), .int w2] [0, 1, 2, 3, 4] rfl⟩ rfl rfl hl.1 rfl (lv_room (Nat.le_of_ble_eq_true rfl)) dX2_decryptBlock_122 ⟨Nat.le_of_ble_eq_true rfl, Nat.le_of_ble_eq_true rfl⟩) (fun r hr => ?_)
    subst hr
    refine lv_istore (lv' := [(5, .int (nI (sk_H K (31 - (16 * T + i)) (sk_lo w2)))), (8, .int w1), (7, .int w4), (12, .int w3), (0, .ref h0), (1, .ref qi), (2, .int 0), (3, .ref qo), (4, .int 0), (6, .int w2), (9, .int (nI (31 - (16 * T + i)))), (10, .int (nI T)), (11, .int (nI i))]) hx hb dX2_decryptBlock_125 hl (by decide) rfl (fun ls hl => ?_)
    refine lv_iload hx hb dX2_decryptBlock_127 (lv_at hl 0 rfl) ?_
    refine lv_iload hx hb dX2_decryptBlock_129 (lv_at hl 3 rfl) ?_
    refine lv_ixor hx hb dX2_decryptBlock_131 ?_
    refine lv_iload hx hb dX2_decryptBlock_132 (lv_at hl 10 rfl) ?_
    refine lv_iconst (v := 1) hx hb dX2_decryptBlock_134 (by decide) ?_
    refine lv_iadd hx hb dX2_decryptBlock_135 ?_
    refine lv_ixor hx hb dX2_decryptBlock_136 ?_
    refine lv_topi (fun wn e_wn => ?_)
    refine lv_istore (lv' := [(6, .int wn), (5, .int (nI (sk_H K (31 - (16 * T + i)) (sk_lo w2)))), (8, .int w1), (7, .int w4), (12, .int w3), (0, .ref h0), (1, .ref qi), (2, .int 0), (3, .ref qo), (4, .int 0), (9, .int (nI (31 - (16 * T + i)))), (10, .int (nI T)), (11, .int (nI i))]) hx hb dX2_decryptBlock_137 hl (by decide) rfl (fun ls hl => ?_)
    refine lv_iinc (v := (31 : Int32) - nI (16 * T + (i + 1))) (lv' := [(9, .int ((31 : Int32) - nI (16 * T + (i + 1)))), (6, .int wn), (5, .int (nI (sk_H K (31 - (16 * T + i)) (sk_lo w2)))), (8, .int w1), (7, .int w4), (12, .int w3), (0, .ref h0), (1, .ref qi), (2, .int 0), (3, .ref qo), (4, .int 0), (10, .int (nI T)), (11, .int (nI i))]) hx hb dX2_decryptBlock_139 hl (k := 10) rfl (sk_km (16 * T + i) hn) (by decide) rfl (fun ls hl => ?_)
    refine lv_iinc (v := nI (i + 1)) (lv' := [(11, .int (nI (i + 1))), (9, .int ((31 : Int32) - nI (16 * T + (i + 1)))), (6, .int wn), (5, .int (nI (sk_H K (31 - (16 * T + i)) (sk_lo w2)))), (8, .int w1), (7, .int w4), (12, .int w3), (0, .ref h0), (1, .ref qi), (2, .int 0), (3, .ref qo), (4, .int 0), (10, .int (nI T))]) hx hb dX2_decryptBlock_142 hl (k := 12) rfl (nI_1 i) (by decide) rfl (fun ls hl => ?_)
    refine lv_goto (tgt := 98) hx hb dX2_decryptBlock_145 (by decide) ?_
    have hlg : sk_lo (nI (sk_H K (31 - (16 * T + i)) (sk_lo w2))) = sk_H K (31 - (16 * T + i)) (sk_lo w2) := sk_lo_nI (sk_H_lt K (31 - (16 * T + i)) (sk_lo_lt w2))
    have hwn := (congrArg sk_lo e_wn).trans (sk_lo3 _ _ (k := (31 - (16 * T + i))) (by omega))
    rw [hlg] at hwn
    exact ih (i + 1) (by omega) ls (nI (sk_H K (31 - (16 * T + i)) (sk_lo w2))) wn w4 w1 (lv_sub hl [7, 8, 9, 10, 11, 3, 2, 5, 4, 1, 12, 0] rfl) (by rw [hwn, hlg]; exact sk_unB hst (by omega))
set_option maxHeartbeats 4000000 in
set_option maxRecDepth 100000 in
theorem h_in2 {p : Program} {e : Env} {s : State} {m : MethodId} {args : Array Value} {below : List Frame} {meth : Method} {c : Code} {A : Nat → Prop} {Q : State → Prop} (l : Launch) (G : va_G) (dB dJ : ClassId) (ft : Nat) (h0 r0 r1 r2 r3 qi qo : Nat) (en : Int32) (f0 f1 f2 f3 fi fo : Nat → Int32) (K : Nat → Nat) (hKy : sk_keys K f0 f1 f2 f3) (hx : p.tables.exec = Jvm.exec) (hb : c.code = cX2_decryptBlock) (hml : c.maxLocals = 13) (hown : s.vm.findClass RX2 = some m.cls) (hts : ∀ w ∈ lw_all, w.before args s = true) (hK : va_K G vwCl (sk_ty dB dJ) s) (hE : sk_E ft A s s.heap) (hS : va_S A s.heap s.heap []) (hP : va_P G vwCl [(h0, .inr (1, [.ref r0, .ref r1, .ref r2, .ref r3, .int en])), (r0, .inl (dJ, 32, .inl f0)), (r1, .inl (dJ, 32, .inl f1)), (r2, .inl (dJ, 32, .inl f2)), (r3, .inl (dJ, 32, .inl f3)), (qi, .inl (dB, 8, .inl fi)), (qo, .inl (dB, 8, .inl fo))] s.heap) (S : sk_S) (T : Nat) (hT : T < 2)
    (kk : ∀ (ls : Array Slot) (w1 w2 w3 w4 : Int32), lv_has ls 13 [(0, .ref h0), (1, .ref qi), (2, .int 0), (3, .ref qo), (4, .int 0), (5, .int w1), (6, .int w2), (7, .int w3), (8, .int w4), (9, .int ((31 : Int32) - nI (16 * (T + 1)))), (10, .int (nI T))] → (sk_lo w1, sk_lo w2, sk_lo w3, sk_lo w4) = sk_dec K (16 * (T + 1)) S → W p l e (headSpec (ws_ yX2_decryptBlock cX2_decryptBlock 13 (some .int)) ({ frames := 1, cells := 0, slots := 0, locals := 40 })).room s m args below meth c s.heap [] 0 0 Q (F0 m 201 ls [])) :
    ∀ (n i : Nat), i + n = 8 → ∀ (ls : Array Slot) (w1 w2 w3 w4 : Int32), lv_has ls 13 [(0, .ref h0), (1, .ref qi), (2, .int 0), (3, .ref qo), (4, .int 0), (5, .int w1), (6, .int w2), (7, .int w3), (8, .int w4), (9, .int ((31 : Int32) - nI (16 * T + 8 + i))), (10, .int (nI T)), (11, .int (nI i))] → (sk_lo w1, sk_lo w2, sk_lo w3, sk_lo w4) = sk_dec K (16 * T + 8 + i) S → W p l e (headSpec (ws_ yX2_decryptBlock cX2_decryptBlock 13 (some .int)) ({ frames := 1, cells := 0, slots := 0, locals := 40 })).room s m args below meth c s.heap [] 0 0 Q (F0 m 151 ls []) := by
  intro n
  induction n with
  | zero =>
    intro i hi ls w1 w2 w3 w4 hl hst
    obtain rfl : i = 8 := hi
    refine lv_iload hx hb dX2_decryptBlock_151 (lv_at hl 11 rfl) ?_
    refine lv_bipush (v := 8) hx hb dX2_decryptBlock_153 (by decide) ?_
    refine lv_icmp_ge (tgt := 201) hx hb dX2_decryptBlock_155 (by decide) (fun _ => ?_) (fun h9 => absurd (by decide) h9)
    exact kk ls w1 w2 w3 w4 (lv_sub hl [0, 1, 2, 3, 4, 5, 6, 7, 8, 9, 10] rfl) hst
  | succ n ih =>
    intro i hi ls w1 w2 w3 w4 hl hst
    have hi8 : i < 8 := by omega
    have hn : (16 * T + 8 + i) < 32 := by omega
    rw [sk_k31 (16 * T + 8 + i) hn] at hl
    refine lv_iload hx hb dX2_decryptBlock_151 (lv_at hl 11 rfl) ?_
    refine lv_bipush (v := 8) hx hb dX2_decryptBlock_153 (by decide) ?_
    refine lv_icmp_ge (tgt := 201) hx hb dX2_decryptBlock_155 (by decide) (fun h9 => absurd h9 (nI_ge (a := i) (b := 8) hi8 (by decide))) (fun _ => ?_)
    refine lv_iload hx hb dX2_decryptBlock_158 (lv_at hl 7 rfl) ?_
    refine lv_istore (lv' := [(12, .int w3), (0, .ref h0), (1, .ref qi), (2, .int 0), (3, .ref qo), (4, .int 0), (5, .int w1), (6, .int w2), (7, .int w3), (8, .int w4), (9, .int (nI (31 - (16 * T + 8 + i)))), (10, .int (nI T)), (11, .int (nI i))]) hx hb dX2_decryptBlock_160 hl (by decide) rfl (fun ls hl => ?_)
    refine lv_iload hx hb dX2_decryptBlock_162 (lv_at hl 9 rfl) ?_
    refine lv_istore (lv' := [(7, .int w4), (12, .int w3), (0, .ref h0), (1, .ref qi), (2, .int 0), (3, .ref qo), (4, .int 0), (5, .int w1), (6, .int w2), (8, .int w4), (9, .int (nI (31 - (16 * T + 8 + i)))), (10, .int (nI T)), (11, .int (nI i))]) hx hb dX2_decryptBlock_164 hl (by decide) rfl (fun ls hl => ?_)
    refine lv_iload hx hb dX2_decryptBlock_166 (lv_at hl 8 rfl) ?_
    refine lv_iload hx hb dX2_decryptBlock_168 (lv_at hl 7 rfl) ?_
    refine lv_ixor hx hb dX2_decryptBlock_170 ?_
    refine lv_iload hx hb dX2_decryptBlock_171 (lv_at hl 10 rfl) ?_
    refine lv_iconst (v := 1) hx hb dX2_decryptBlock_173 (by decide) ?_
    refine lv_iadd hx hb dX2_decryptBlock_174 ?_
    refine lv_ixor hx hb dX2_decryptBlock_175 ?_
    refine lv_topi (fun wn e_wn => ?_)
    refine lv_istore (lv' := [(8, .int wn), (7, .int w4), (12, .int w3), (0, .ref h0), (1, .ref qi), (2, .int 0), (3, .ref qo), (4, .int 0), (5, .int w1), (6, .int w2), (9, .int (nI (31 - (16 * T + 8 + i)))), (10, .int (nI T)), (11, .int (nI i))]) hx hb dX2_decryptBlock_176 hl (by decide) rfl (fun ls hl => ?_)
    refine lv_aload_n hx hb dX2_decryptBlock_178 rfl (lv_at hl 3 rfl) ?_
    refine lv_iload hx hb dX2_decryptBlock_179 (lv_at hl 10 rfl) ?_
    refine lv_iload hx hb dX2_decryptBlock_181 (lv_at hl 9 rfl) ?_
    refine vp_callSi (W.runV (As := [.int (nI (31 - (16 * T + 8 + i))), .int w2]) (rest := []) ⟨hx, hb, hml, hown, hts⟩ (met_h l G dB dJ ft h0 r0 r1 r2 r3 en f0 f1 f2 f3 K hKy (31 - (16 * T + 8 + i)) (by omega) w2) (cwV 2 hts (lw_V q233 q235 qs3 q6 q236) rfl rfl rfl (by decide +kernel) ⟨Nat.le_of_ble_eq_true rfl, Nat.le_of_ble_eq_true rfl⟩) ⟨sk_blindR, va_recv hK hP (ci := 1) (q0 := 0) rfl rfl, sk_preR hP hK hE hS [.ref h0, .int (nI (31 - (16 * T + 8 + i))), .int w2] [0, 1, 2, 3, 4] rfl⟩ rfl rfl hl.1 rfl (lv_room (Nat.le_of_ble_eq_true rfl)) dX2_decryptBlock_183 ⟨Nat.le_of_ble_eq_true rfl, Nat.le_of_ble_eq_true rfl⟩) (fun r hr => ?_)
    subst hr
    refine lv_istore (lv' := [(5, .int (nI (sk_H K (31 - (16 * T + 8 + i)) (sk_lo w2)))), (8, .int wn), (7, .int w4), (12, .int w3), (0, .ref h0), (1, .ref qi), (2, .int 0), (3, .ref qo), (4, .int 0), (6, .int w2), (9, .int (nI (31 - (16 * T + 8 + i)))), (10, .int (nI T)), (11, .int (nI i))]) hx hb dX2_decryptBlock_186 hl (by decide) rfl (fun ls hl => ?_)
    refine lv_iload hx hb dX2_decryptBlock_188 (lv_at hl 3 rfl) ?_
    refine lv_istore (lv' := [(6, .int w3), (5, .int (nI (sk_H K (31 - (16 * T + 8 + i)) (sk_lo w2)))), (8, .int wn), (7, .int w4), (12, .int w3), (0, .ref h0), (1, .ref qi), (2, .int 0), (3, .ref qo), (4, .int 0), (9, .int (nI (31 - (16 * T + 8 + i)))), (10, .int (nI T)), (11, .int (nI i))]) hx hb dX2_decryptBlock_190 hl (by decide) rfl (fun ls hl => ?_)
    refine lv_iinc (v := (31 : Int32) - nI (16 * T + 8 + (i + 1))) (lv' := [(9, .int ((31 : Int32) - nI (16 * T + 8 + (i + 1)))), (6, .int w3), (5, .int (nI (sk_H K (31 - (16 * T + 8 + i)) (sk_lo w2)))), (8, .int wn), (7, .int w4), (12, .int w3), (0, .ref h0), (1, .ref qi), (2, .int 0), (3, .ref qo), (4, .int 0), (10, .int (nI T)), (11, .int (nI i))]) hx hb dX2_decryptBlock_192 hl (k := 10) rfl (sk_km (16 * T + 8 + i) hn) (by decide) rfl (fun ls hl => ?_)
    refine lv_iinc (v := nI (i + 1)) (lv' := [(11, .int (nI (i + 1))), (9, .int ((31 : Int32) - nI (16 * T + 8 + (i + 1)))), (6, .int w3), (5, .int (nI (sk_H K (31 - (16 * T + 8 + i)) (sk_lo w2)))), (8, .int wn), (7, .int w4), (12, .int w3), (0, .ref h0), (1, .ref qi), (2, .int 0), (3, .ref qo), (4, .int 0), (10, .int (nI T))]) hx hb dX2_decryptBlock_195 hl (k := 12) rfl (nI_1 i) (by decide) rfl (fun ls hl => ?_)
    refine lv_goto (tgt := 151) hx hb dX2_decryptBlock_198 (by decide) ?_
    have hlg : sk_lo (nI (sk_H K (31 - (16 * T + 8 + i)) (sk_lo w2))) = sk_H K (31 - (16 * T + 8 + i)) (sk_lo w2) := sk_lo_nI (sk_H_lt K (31 - (16 * T + 8 + i)) (sk_lo_lt w2))
    have hwn := (congrArg sk_lo e_wn).trans (sk_lo3 _ _ (k := (31 - (16 * T + 8 + i))) (by omega))
    exact ih (i + 1) (by omega) ls (nI (sk_H K (31 - (16 * T + 8 + i)) (sk_lo w2))) w3 w4 wn (lv_sub hl [7, 8, 9, 10, 11, 3, 2, 5, 4, 1, 12, 0] rfl) (by rw [hwn, hlg]; exact sk_unA hst (by omega))
set_option maxHeartbeats 4000000 in
set_option maxRecDepth 100000 in
theorem h_out {p : Program} {e : Env} {s : State} {m : MethodId} {args : Array Value} {below : List Frame} {meth : Method} {c : Code} {A : Nat → Prop} {Q : State → Prop} (l : Launch) (G : va_G) (dB dJ : ClassId) (ft : Nat) (h0 r0 r1 r2 r3 qi qo : Nat) (en : Int32) (f0 f1 f2 f3 fi fo : Nat → Int32) (K : Nat → Nat) (hKy : sk_keys K f0 f1 f2 f3) (hx : p.tables.exec = Jvm.exec) (hb : c.code = cX2_decryptBlock) (hml : c.maxLocals = 13) (hown : s.vm.findClass RX2 = some m.cls) (hts : ∀ w ∈ lw_all, w.before args s = true) (hK : va_K G vwCl (sk_ty dB dJ) s) (hE : sk_E ft A s s.heap) (hS : va_S A s.heap s.heap []) (hP : va_P G vwCl [(h0, .inr (1, [.ref r0, .ref r1, .ref r2, .ref r3, .int en])), (r0, .inl (dJ, 32, .inl f0)), (r1, .inl (dJ, 32, .inl f1)), (r2, .inl (dJ, 32, .inl f2)), (r3, .inl (dJ, 32, .inl f3)), (qi, .inl (dB, 8, .inl fi)), (qo, .inl (dB, 8, .inl fo))] s.heap) (S : sk_S) (T : Nat) (hT : T < 2)
    (kk : ∀ (ls : Array Slot) (w1 w2 w3 w4 : Int32), lv_has ls 13 [(0, .ref h0), (1, .ref qi), (2, .int 0), (3, .ref qo), (4, .int 0), (5, .int w1), (6, .int w2), (7, .int w3), (8, .int w4), (9, .int ((31 : Int32) - nI (16 * (T + 1)))), (10, .int (nI (T + 1)))] → (sk_lo w1, sk_lo w2, sk_lo w3, sk_lo w4) = sk_dec K (16 * (T + 1)) S → W p l e (headSpec (ws_ yX2_decryptBlock cX2_decryptBlock 13 (some .int)) ({ frames := 1, cells := 0, slots := 0, locals := 40 })).room s m args below meth c s.heap [] 0 0 Q (F0 m 89 ls [])) :
    ∀ (ls : Array Slot) (w1 w2 w3 w4 : Int32), lv_has ls 13 [(0, .ref h0), (1, .ref qi), (2, .int 0), (3, .ref qo), (4, .int 0), (5, .int w1), (6, .int w2), (7, .int w3), (8, .int w4), (9, .int ((31 : Int32) - nI (16 * T))), (10, .int (nI T))] → (sk_lo w1, sk_lo w2, sk_lo w3, sk_lo w4) = sk_dec K (16 * T) S → W p l e (headSpec (ws_ yX2_decryptBlock cX2_decryptBlock 13 (some .int)) ({ frames := 1, cells := 0, slots := 0, locals := 40 })).room s m args below meth c s.heap [] 0 0 Q (F0 m 89 ls []) := by
  intro ls w1 w2 w3 w4 hl hst
  refine lv_iload hx hb dX2_decryptBlock_89 (lv_at hl 10 rfl) ?_
  refine lv_iconst (v := 2) hx hb dX2_decryptBlock_91 (by decide) ?_
  refine lv_icmp_ge (tgt := 207) hx hb dX2_decryptBlock_92 (by decide) (fun h9 => absurd h9 (nI_ge (a := T) (b := 2) hT (by decide))) (fun _ => ?_)
  refine lv_iconst (v := 0) hx hb dX2_decryptBlock_95 (by decide) ?_
  refine lv_istore (lv' := [(11, .int 0), (0, .ref h0), (1, .ref qi), (2, .int 0), (3, .ref qo), (4, .int 0), (5, .int w1), (6, .int w2), (7, .int w3), (8, .int w4), (9, .int ((31 : Int32) - nI (16 * T))), (10, .int (nI T))]) hx hb dX2_decryptBlock_96 hl (by decide) rfl (fun ls hl => ?_)
  refine h_in1 l G dB dJ ft h0 r0 r1 r2 r3 qi qo en f0 f1 f2 f3 fi fo K hKy hx hb hml hown hts hK hE hS hP S T hT ?_ 8 0 rfl ls w1 w2 w3 w4 (lv_sub hl [1, 2, 3, 4, 5, 6, 7, 8, 9, 10, 11, 0] rfl) hst
  intro ls w1 w2 w3 w4 hl hst
  refine lv_iconst (v := 0) hx hb dX2_decryptBlock_148 (by decide) ?_
  refine lv_istore (lv' := [(11, .int 0), (0, .ref h0), (1, .ref qi), (2, .int 0), (3, .ref qo), (4, .int 0), (5, .int w1), (6, .int w2), (7, .int w3), (8, .int w4), (9, .int ((31 : Int32) - nI (16 * T + 8))), (10, .int (nI T))]) hx hb dX2_decryptBlock_149 hl (by decide) rfl (fun ls hl => ?_)
  refine h_in2 l G dB dJ ft h0 r0 r1 r2 r3 qi qo en f0 f1 f2 f3 fi fo K hKy hx hb hml hown hts hK hE hS hP S T hT ?_ 8 0 rfl ls w1 w2 w3 w4 (lv_sub hl [1, 2, 3, 4, 5, 6, 7, 8, 9, 10, 11, 0] rfl) hst
  intro ls w1 w2 w3 w4 hl hst
  refine lv_iinc (v := nI (T + 1)) (lv' := [(10, .int (nI (T + 1))), (0, .ref h0), (1, .ref qi), (2, .int 0), (3, .ref qo), (4, .int 0), (5, .int w1), (6, .int w2), (7, .int w3), (8, .int w4), (9, .int ((31 : Int32) - nI (16 * (T + 1))))]) hx hb dX2_decryptBlock_201 hl (k := 10) rfl (nI_1 T) (by decide) rfl (fun ls hl => ?_)
  refine lv_goto (tgt := 89) hx hb dX2_decryptBlock_204 (by decide) ?_
  exact kk ls w1 w2 w3 w4 (lv_sub hl [1, 2, 3, 4, 5, 6, 7, 8, 9, 10, 0] rfl) hst
set_option maxHeartbeats 4000000 in
set_option maxRecDepth 100000 in
/-- decryptBlock -/
theorem met_decryptBlock (l : Launch) (G : va_G) (dB dJ : ClassId) (ft : Nat) (h0 r0 r1 r2 r3 qi qo : Nat) (en : Int32) (f0 f1 f2 f3 fi fo : Nat → Int32) (K : Nat → Nat) (hKy : sk_keys K f0 f1 f2 f3) (sz : Nat) : Met l yX2_decryptBlock (ws_ yX2_decryptBlock cX2_decryptBlock 13 (some .int)) ({ frames := 1, cells := 0, slots := 0, locals := 40 }) (sk_Pre G dB dJ ft [.ref h0, .ref qi, .int 0, .ref qo, .int 0] sz [(h0, .inr (1, [.ref r0, .ref r1, .ref r2, .ref r3, .int en])), (r0, .inl (dJ, 32, .inl f0)), (r1, .inl (dJ, 32, .inl f1)), (r2, .inl (dJ, 32, .inl f2)), (r3, .inl (dJ, 32, .inl f3)), (qi, .inl (dB, 8, .inl fi)), (qo, .inl (dB, 8, .inl fo))]) (sk_Qi G (va_A [(h0, .inr (1, [.ref r0, .ref r1, .ref r2, .ref r3, .int en])), (r0, .inl (dJ, 32, .inl f0)), (r1, .inl (dJ, 32, .inl f1)), (r2, .inl (dJ, 32, .inl f2)), (r3, .inl (dJ, 32, .inl f3)), (qi, .inl (dB, 8, .inl fi)), (qo, .inl (dB, 8, .inl fo))] sz) (fun _ => True) (fun w => ∃ fn : Nat → Int32, sk_is fn (sk_dec K 32 (sk_of fi)) ∧ w = [(h0, .inr (1, [.ref r0, .ref r1, .ref r2, .ref r3, .int en])), (r0, .inl (dJ, 32, .inl f0)), (r1, .inl (dJ, 32, .inl f1)), (r2, .inl (dJ, 32, .inl f2)), (r3, .inl (dJ, 32, .inl f3)), (qi, .inl (dB, 8, .inl fi)), (qo, .inl (dB, 8, .inl fn))])) 0 0 (va_A [(h0, .inr (1, [.ref r0, .ref r1, .ref r2, .ref r3, .int en])), (r0, .inl (dJ, 32, .inl f0)), (r1, .inl (dJ, 32, .inl f1)), (r2, .inl (dJ, 32, .inl f2)), (r3, .inl (dJ, 32, .inl f3)), (qi, .inl (dB, 8, .inl fi)), (qo, .inl (dB, 8, .inl fo))] sz) := by
  refine Met.ofW (cc := cX2_decryptBlock) (maxL := 13) (ret := (some .int)) (by decide) rfl ?_
  intro p e s m args below meth c s₁ B hml hv
  obtain ⟨rfl, hsz, hP, hK, hD0, hE⟩ := hv
  have hx := B.exec
  have hb := B.bytes
  have hr := B.returns
  have hts := atoms_spec (ws := ws_ yX2_decryptBlock cX2_decryptBlock 13 (some .int)) B.pre
  have hts : ∀ w ∈ lw_all, w.before _ s = true := fun w h => hts w (List.mem_cons_of_mem _ h)
  have hown : s.vm.findClass RX2 = some m.cls := findClass_of_methodNamed B.named
  have hlocks := B.notSynchronized
  subst hsz
  have hD := hD0.self (sz := s.heap.size)
  generalize hAe : va_A [(h0, .inr (1, [.ref r0, .ref r1, .ref r2, .ref r3, .int en])), (r0, .inl (dJ, 32, .inl f0)), (r1, .inl (dJ, 32, .inl f1)), (r2, .inl (dJ, 32, .inl f2)), (r3, .inl (dJ, 32, .inl f3)), (qi, .inl (dB, 8, .inl fi)), (qo, .inl (dB, 8, .inl fo))] s.heap.size = A at hD hE ⊢
  have hA : ∀ q : Nat, s.heap.size ≤ q → A q := fun q h => by rw [← hAe]; exact Or.inr h
  have hS : va_S A s.heap s.heap [] := va_S.rf
  have hP : va_P G vwCl [(h0, .inr (1, [.ref r0, .ref r1, .ref r2, .ref r3, .int en])), (r0, .inl (dJ, 32, .inl f0)), (r1, .inl (dJ, 32, .inl f1)), (r2, .inl (dJ, 32, .inl f2)), (r3, .inl (dJ, 32, .inl f3)), (qi, .inl (dB, 8, .inl fi)), (qo, .inl (dB, 8, .inl fo))] s.heap := hP
  have hl := lv_entry ([.ref h0, .ref qi, .int 0, .ref qo, .int 0]) (n := 13) (Nat.le_of_ble_eq_true rfl)
  rw [lg_entry_eq]
  generalize (lg_sl ([.ref h0, .ref qi, .int 0, .ref qo, .int 0]) ++ List.replicate (13 - (lg_sl ([.ref h0, .ref qi, .int 0, .ref qo, .int 0])).length) Slot.unset).toArray = ls at hl ⊢
  have hl : lv_has ls 13 [(0, .ref h0), (1, .ref qi), (2, .int 0), (3, .ref qo), (4, .int 0)] := hl
  refine lv_aload_n hx hb dX2_decryptBlock_0 rfl (lv_at hl 1 rfl) ?_
  refine lv_iload_n hx hb dX2_decryptBlock_1 rfl (lv_at hl 2 rfl) ?_
  refine lv_iconst (v := 0) hx hb dX2_decryptBlock_2 (by decide) ?_
  refine lv_iadd hx hb dX2_decryptBlock_3 ?_
  refine sk_top (w := nI 0) (by decide) ?_
  refine sk_bld hx hb hK hP 5 rfl (j := 0) (by decide) (Nat.le_of_ble_eq_true rfl) dX2_decryptBlock_4 ?_
  refine lv_bipush (v := 8) hx hb dX2_decryptBlock_5 (by decide) ?_
  refine lv_ishl hx hb dX2_decryptBlock_7 ?_
  refine lv_aload_n hx hb dX2_decryptBlock_8 rfl (lv_at hl 1 rfl) ?_
  refine lv_iload_n hx hb dX2_decryptBlock_9 rfl (lv_at hl 2 rfl) ?_
  refine lv_iconst (v := 1) hx hb dX2_decryptBlock_10 (by decide) ?_
  refine lv_iadd hx hb dX2_decryptBlock_11 ?_
  refine sk_top (w := nI 1) (by decide) ?_
  refine sk_bld hx hb hK hP 5 rfl (j := 1) (by decide) (Nat.le_of_ble_eq_true rfl) dX2_decryptBlock_12 ?_
  refine lv_sipush (v := 255) hx hb dX2_decryptBlock_13 (by decide) ?_
  refine lv_iand hx hb dX2_decryptBlock_16 ?_
  refine lv_iadd hx hb dX2_decryptBlock_17 ?_
  refine lv_topi (fun w1 e_w1 => ?_)
  have hw1 : sk_lo w1 = sk_w fi 0 := by rw [e_w1]; exact sk_word _ _
  refine lv_istore (lv' := [(5, .int w1), (0, .ref h0), (1, .ref qi), (2, .int 0), (3, .ref qo), (4, .int 0)]) hx hb dX2_decryptBlock_18 hl (by decide) rfl (fun ls hl => ?_)
  refine lv_aload_n hx hb dX2_decryptBlock_20 rfl (lv_at hl 2 rfl) ?_
  refine lv_iload_n hx hb dX2_decryptBlock_21 rfl (lv_at hl 3 rfl) ?_
  refine lv_iconst (v := 2) hx hb dX2_decryptBlock_22 (by decide) ?_
  refine lv_iadd hx hb dX2_decryptBlock_23 ?_
  refine sk_top (w := nI 2) (by decide) ?_
  refine sk_bld hx hb hK hP 5 rfl (j := 2) (by decide) (Nat.le_of_ble_eq_true rfl) dX2_decryptBlock_24 ?_
  refine lv_bipush (v := 8) hx hb dX2_decryptBlock_25 (by decide) ?_
  refine lv_ishl hx hb dX2_decryptBlock_27 ?_
  refine lv_aload_n hx hb dX2_decryptBlock_28 rfl (lv_at hl 2 rfl) ?_
  refine lv_iload_n hx hb dX2_decryptBlock_29 rfl (lv_at hl 3 rfl) ?_
  refine lv_iconst (v := 3) hx hb dX2_decryptBlock_30 (by decide) ?_
  refine lv_iadd hx hb dX2_decryptBlock_31 ?_
  refine sk_top (w := nI 3) (by decide) ?_
  refine sk_bld hx hb hK hP 5 rfl (j := 3) (by decide) (Nat.le_of_ble_eq_true rfl) dX2_decryptBlock_32 ?_
  refine lv_sipush (v := 255) hx hb dX2_decryptBlock_33 (by decide) ?_
  refine lv_iand hx hb dX2_decryptBlock_36 ?_
  refine lv_iadd hx hb dX2_decryptBlock_37 ?_
  refine lv_topi (fun w2 e_w2 => ?_)
  have hw2 : sk_lo w2 = sk_w fi 2 := by rw [e_w2]; exact sk_word _ _
  refine lv_istore (lv' := [(6, .int w2), (5, .int w1), (0, .ref h0), (1, .ref qi), (2, .int 0), (3, .ref qo), (4, .int 0)]) hx hb dX2_decryptBlock_38 hl (by decide) rfl (fun ls hl => ?_)
  refine lv_aload_n hx hb dX2_decryptBlock_40 rfl (lv_at hl 3 rfl) ?_
  refine lv_iload_n hx hb dX2_decryptBlock_41 rfl (lv_at hl 4 rfl) ?_
  refine lv_iconst (v := 4) hx hb dX2_decryptBlock_42 (by decide) ?_
  refine lv_iadd hx hb dX2_decryptBlock_43 ?_
  refine sk_top (w := nI 4) (by decide) ?_
  refine sk_bld hx hb hK hP 5 rfl (j := 4) (by decide) (Nat.le_of_ble_eq_true rfl) dX2_decryptBlock_44 ?_
  refine lv_bipush (v := 8) hx hb dX2_decryptBlock_45 (by decide) ?_
  refine lv_ishl hx hb dX2_decryptBlock_47 ?_
  refine lv_aload_n hx hb dX2_decryptBlock_48 rfl (lv_at hl 3 rfl) ?_
  refine lv_iload_n hx hb dX2_decryptBlock_49 rfl (lv_at hl 4 rfl) ?_
  refine lv_iconst (v := 5) hx hb dX2_decryptBlock_50 (by decide) ?_
  refine lv_iadd hx hb dX2_decryptBlock_51 ?_
  refine sk_top (w := nI 5) (by decide) ?_
  refine sk_bld hx hb hK hP 5 rfl (j := 5) (by decide) (Nat.le_of_ble_eq_true rfl) dX2_decryptBlock_52 ?_
  refine lv_sipush (v := 255) hx hb dX2_decryptBlock_53 (by decide) ?_
  refine lv_iand hx hb dX2_decryptBlock_56 ?_
  refine lv_iadd hx hb dX2_decryptBlock_57 ?_
  refine lv_topi (fun w3 e_w3 => ?_)
  have hw3 : sk_lo w3 = sk_w fi 4 := by rw [e_w3]; exact sk_word _ _
  refine lv_istore (lv' := [(7, .int w3), (6, .int w2), (5, .int w1), (0, .ref h0), (1, .ref qi), (2, .int 0), (3, .ref qo), (4, .int 0)]) hx hb dX2_decryptBlock_58 hl (by decide) rfl (fun ls hl => ?_)
  refine lv_aload_n hx hb dX2_decryptBlock_60 rfl (lv_at hl 4 rfl) ?_
  refine lv_iload_n hx hb dX2_decryptBlock_61 rfl (lv_at hl 5 rfl) ?_
  refine lv_bipush (v := 6) hx hb dX2_decryptBlock_62 (by decide) ?_
  refine lv_iadd hx hb dX2_decryptBlock_64 ?_
  refine sk_top (w := nI 6) (by decide) ?_
  refine sk_bld hx hb hK hP 5 rfl (j := 6) (by decide) (Nat.le_of_ble_eq_true rfl) dX2_decryptBlock_65 ?_
  refine lv_bipush (v := 8) hx hb dX2_decryptBlock_66 (by decide) ?_
  refine lv_ishl hx hb dX2_decryptBlock_68 ?_
  refine lv_aload_n hx hb dX2_decryptBlock_69 rfl (lv_at hl 4 rfl) ?_
  refine lv_iload_n hx hb dX2_decryptBlock_70 rfl (lv_at hl 5 rfl) ?_
  refine lv_bipush (v := 7) hx hb dX2_decryptBlock_71 (by decide) ?_
  refine lv_iadd hx hb dX2_decryptBlock_73 ?_
  refine sk_top (w := nI 7) (by decide) ?_
  refine sk_bld hx hb hK hP 5 rfl (j := 7) (by decide) (Nat.le_of_ble_eq_true rfl) dX2_decryptBlock_74 ?_
  refine lv_sipush (v := 255) hx hb dX2_decryptBlock_75 (by decide) ?_
  refine lv_iand hx hb dX2_decryptBlock_78 ?_
  refine lv_iadd hx hb dX2_decryptBlock_79 ?_
  refine lv_topi (fun w4 e_w4 => ?_)
  have hw4 : sk_lo w4 = sk_w fi 6 := by rw [e_w4]; exact sk_word _ _
  refine lv_istore (lv' := [(8, .int w4), (7, .int w3), (6, .int w2), (5, .int w1), (0, .ref h0), (1, .ref qi), (2, .int 0), (3, .ref qo), (4, .int 0)]) hx hb dX2_decryptBlock_80 hl (by decide) rfl (fun ls hl => ?_)
  refine lv_bipush (v := 31) hx hb dX2_decryptBlock_82 (by decide) ?_
  refine lv_istore (lv' := [(9, .int 31), (8, .int w4), (7, .int w3), (6, .int w2), (5, .int w1), (0, .ref h0), (1, .ref qi), (2, .int 0), (3, .ref qo), (4, .int 0)]) hx hb dX2_decryptBlock_84 hl (by decide) rfl (fun ls hl => ?_)
  refine lv_iconst (v := 0) hx hb dX2_decryptBlock_86 (by decide) ?_
  refine lv_istore (lv' := [(10, .int 0), (9, .int 31), (8, .int w4), (7, .int w3), (6, .int w2), (5, .int w1), (0, .ref h0), (1, .ref qi), (2, .int 0), (3, .ref qo), (4, .int 0)]) hx hb dX2_decryptBlock_87 hl (by decide) rfl (fun ls hl => ?_)
  have hl : lv_has ls 13 [(10, .int (nI 0)), (9, .int ((31 : Int32) - nI (16 * 0))), (8, .int w4), (7, .int w3), (6, .int w2), (5, .int w1), (0, .ref h0), (1, .ref qi), (2, .int 0), (3, .ref qo), (4, .int 0)] := hl
  have hst : (sk_lo w1, sk_lo w2, sk_lo w3, sk_lo w4) = sk_dec K (16 * 0) (sk_of fi) := by rw [hw1, hw2, hw3, hw4]; rfl
  refine h_out l G dB dJ ft h0 r0 r1 r2 r3 qi qo en f0 f1 f2 f3 fi fo K hKy hx hb hml hown hts hK hE hS hP (sk_of fi) 0 (by decide) ?_ ls w1 w2 w3 w4 (lv_sub hl [6, 7, 8, 9, 10, 5, 4, 3, 2, 1, 0] rfl) hst
  intro ls w1 w2 w3 w4 hl hst
  refine h_out l G dB dJ ft h0 r0 r1 r2 r3 qi qo en f0 f1 f2 f3 fi fo K hKy hx hb hml hown hts hK hE hS hP (sk_of fi) 1 (by decide) ?_ ls w1 w2 w3 w4 hl hst
  intro ls w1 w2 w3 w4 hl hst
  refine lv_iload hx hb dX2_decryptBlock_89 (lv_at hl 10 rfl) ?_
  refine lv_iconst (v := 2) hx hb dX2_decryptBlock_91 (by decide) ?_
  refine lv_icmp_ge (tgt := 207) hx hb dX2_decryptBlock_92 (by decide) (fun _ => ?_) (fun h9 => absurd (by decide) h9)
  refine lv_aload_n hx hb dX2_decryptBlock_207 rfl (lv_at hl 3 rfl) ?_
  refine lv_iload hx hb dX2_decryptBlock_208 (lv_at hl 4 rfl) ?_
  refine lv_iconst (v := 0) hx hb dX2_decryptBlock_210 (by decide) ?_
  refine lv_iadd hx hb dX2_decryptBlock_211 ?_
  refine sk_top (w := nI 0) (by decide) ?_
  refine lv_iload hx hb dX2_decryptBlock_212 (lv_at hl 5 rfl) ?_
  refine lv_bipush (v := 8) hx hb dX2_decryptBlock_214 (by decide) ?_
  refine lv_ishr hx hb dX2_decryptBlock_216 ?_
  refine lv_i2b hx hb dX2_decryptBlock_217 rfl ?_
  refine sk_bst hx hb hK hP hD hS 6 rfl (j := 0) (by decide) (Nat.le_of_ble_eq_true rfl) dX2_decryptBlock_218 (fun g1 H locs e_g1 hP hD hS => ?_)
  have hP : va_P G vwCl [(h0, .inr (1, [.ref r0, .ref r1, .ref r2, .ref r3, .int en])), (r0, .inl (dJ, 32, .inl f0)), (r1, .inl (dJ, 32, .inl f1)), (r2, .inl (dJ, 32, .inl f2)), (r3, .inl (dJ, 32, .inl f3)), (qi, .inl (dB, 8, .inl fi)), (qo, .inl (dB, 8, .inl g1))] H := hP
  have hD : va_D A [(h0, .inr (1, [.ref r0, .ref r1, .ref r2, .ref r3, .int en])), (r0, .inl (dJ, 32, .inl f0)), (r1, .inl (dJ, 32, .inl f1)), (r2, .inl (dJ, 32, .inl f2)), (r3, .inl (dJ, 32, .inl f3)), (qi, .inl (dB, 8, .inl fi)), (qo, .inl (dB, 8, .inl g1))] := hD
  refine lv_aload_n hx hb dX2_decryptBlock_219 rfl (lv_at hl 3 rfl) ?_
  refine lv_iload hx hb dX2_decryptBlock_220 (lv_at hl 4 rfl) ?_
  refine lv_iconst (v := 1) hx hb dX2_decryptBlock_222 (by decide) ?_
  refine lv_iadd hx hb dX2_decryptBlock_223 ?_
  refine sk_top (w := nI 1) (by decide) ?_
  refine lv_iload hx hb dX2_decryptBlock_224 (lv_at hl 5 rfl) ?_
  refine lv_i2b hx hb dX2_decryptBlock_226 rfl ?_
  refine sk_bst hx hb hK hP hD hS 6 rfl (j := 1) (by decide) (Nat.le_of_ble_eq_true rfl) dX2_decryptBlock_227 (fun g2 H locs e_g2 hP hD hS => ?_)
  have hP : va_P G vwCl [(h0, .inr (1, [.ref r0, .ref r1, .ref r2, .ref r3, .int en])), (r0, .inl (dJ, 32, .inl f0)), (r1, .inl (dJ, 32, .inl f1)), (r2, .inl (dJ, 32, .inl f2)), (r3, .inl (dJ, 32, .inl f3)), (qi, .inl (dB, 8, .inl fi)), (qo, .inl (dB, 8, .inl g2))] H := hP
  have hD : va_D A [(h0, .inr (1, [.ref r0, .ref r1, .ref r2, .ref r3, .int en])), (r0, .inl (dJ, 32, .inl f0)), (r1, .inl (dJ, 32, .inl f1)), (r2, .inl (dJ, 32, .inl f2)), (r3, .inl (dJ, 32, .inl f3)), (qi, .inl (dB, 8, .inl fi)), (qo, .inl (dB, 8, .inl g2))] := hD
  refine lv_aload_n hx hb dX2_decryptBlock_228 rfl (lv_at hl 3 rfl) ?_
  refine lv_iload hx hb dX2_decryptBlock_229 (lv_at hl 4 rfl) ?_
  refine lv_iconst (v := 2) hx hb dX2_decryptBlock_231 (by decide) ?_
  refine lv_iadd hx hb dX2_decryptBlock_232 ?_
  refine sk_top (w := nI 2) (by decide) ?_
  refine lv_iload hx hb dX2_decryptBlock_233 (lv_at hl 6 rfl) ?_
  refine lv_bipush (v := 8) hx hb dX2_decryptBlock_235 (by decide) ?_
  refine lv_ishr hx hb dX2_decryptBlock_237 ?_
  refine lv_i2b hx hb dX2_decryptBlock_238 rfl ?_
  refine sk_bst hx hb hK hP hD hS 6 rfl (j := 2) (by decide) (Nat.le_of_ble_eq_true rfl) dX2_decryptBlock_239 (fun g3 H locs e_g3 hP hD hS => ?_)
  have hP : va_P G vwCl [(h0, .inr (1, [.ref r0, .ref r1, .ref r2, .ref r3, .int en])), (r0, .inl (dJ, 32, .inl f0)), (r1, .inl (dJ, 32, .inl f1)), (r2, .inl (dJ, 32, .inl f2)), (r3, .inl (dJ, 32, .inl f3)), (qi, .inl (dB, 8, .inl fi)), (qo, .inl (dB, 8, .inl g3))] H := hP
  have hD : va_D A [(h0, .inr (1, [.ref r0, .ref r1, .ref r2, .ref r3, .int en])), (r0, .inl (dJ, 32, .inl f0)), (r1, .inl (dJ, 32, .inl f1)), (r2, .inl (dJ, 32, .inl f2)), (r3, .inl (dJ, 32, .inl f3)), (qi, .inl (dB, 8, .inl fi)), (qo, .inl (dB, 8, .inl g3))] := hD
  refine lv_aload_n hx hb dX2_decryptBlock_240 rfl (lv_at hl 3 rfl) ?_
  refine lv_iload hx hb dX2_decryptBlock_241 (lv_at hl 4 rfl) ?_
  refine lv_iconst (v := 3) hx hb dX2_decryptBlock_243 (by decide) ?_
  refine lv_iadd hx hb dX2_decryptBlock_244 ?_
  refine sk_top (w := nI 3) (by decide) ?_
  refine lv_iload hx hb dX2_decryptBlock_245 (lv_at hl 6 rfl) ?_
  refine lv_i2b hx hb dX2_decryptBlock_247 rfl ?_
  refine sk_bst hx hb hK hP hD hS 6 rfl (j := 3) (by decide) (Nat.le_of_ble_eq_true rfl) dX2_decryptBlock_248 (fun g4 H locs e_g4 hP hD hS => ?_)
  have hP : va_P G vwCl [(h0, .inr (1, [.ref r0, .ref r1, .ref r2, .ref r3, .int en])), (r0, .inl (dJ, 32, .inl f0)), (r1, .inl (dJ, 32, .inl f1)), (r2, .inl (dJ, 32, .inl f2)), (r3, .inl (dJ, 32, .inl f3)), (qi, .inl (dB, 8, .inl fi)), (qo, .inl (dB, 8, .inl g4))] H := hP
  have hD : va_D A [(h0, .inr (1, [.ref r0, .ref r1, .ref r2, .ref r3, .int en])), (r0, .inl (dJ, 32, .inl f0)), (r1, .inl (dJ, 32, .inl f1)), (r2, .inl (dJ, 32, .inl f2)), (r3, .inl (dJ, 32, .inl f3)), (qi, .inl (dB, 8, .inl fi)), (qo, .inl (dB, 8, .inl g4))] := hD
  refine lv_aload_n hx hb dX2_decryptBlock_249 rfl (lv_at hl 3 rfl) ?_
  refine lv_iload hx hb dX2_decryptBlock_250 (lv_at hl 4 rfl) ?_
  refine lv_iconst (v := 4) hx hb dX2_decryptBlock_252 (by decide) ?_
  refine lv_iadd hx hb dX2_decryptBlock_253 ?_
  refine sk_top (w := nI 4) (by decide) ?_
  refine lv_iload hx hb dX2_decryptBlock_254 (lv_at hl 7 rfl) ?_
  refine lv_bipush (v := 8) hx hb dX2_decryptBlock_256 (by decide) ?_
  refine lv_ishr hx hb dX2_decryptBlock_258 ?_
  refine lv_i2b hx hb dX2_decryptBlock_259 rfl ?_
  refine sk_bst hx hb hK hP hD hS 6 rfl (j := 4) (by decide) (Nat.le_of_ble_eq_true rfl) dX2_decryptBlock_260 (fun g5 H locs e_g5 hP hD hS => ?_)
  have hP : va_P G vwCl [(h0, .inr (1, [.ref r0, .ref r1, .ref r2, .ref r3, .int en])), (r0, .inl (dJ, 32, .inl f0)), (r1, .inl (dJ, 32, .inl f1)), (r2, .inl (dJ, 32, .inl f2)), (r3, .inl (dJ, 32, .inl f3)), (qi, .inl (dB, 8, .inl fi)), (qo, .inl (dB, 8, .inl g5))] H := hP
  have hD : va_D A [(h0, .inr (1, [.ref r0, .ref r1, .ref r2, .ref r3, .int en])), (r0, .inl (dJ, 32, .inl f0)), (r1, .inl (dJ, 32, .inl f1)), (r2, .inl (dJ, 32, .inl f2)), (r3, .inl (dJ, 32, .inl f3)), (qi, .inl (dB, 8, .inl fi)), (qo, .inl (dB, 8, .inl g5))] := hD
  refine lv_aload_n hx hb dX2_decryptBlock_261 rfl (lv_at hl 3 rfl) ?_
  refine lv_iload hx hb dX2_decryptBlock_262 (lv_at hl 4 rfl) ?_
  refine lv_iconst (v := 5) hx hb dX2_decryptBlock_264 (by decide) ?_
  refine lv_iadd hx hb dX2_decryptBlock_265 ?_
  refine sk_top (w := nI 5) (by decide) ?_
  refine lv_iload hx hb dX2_decryptBlock_266 (lv_at hl 7 rfl) ?_
  refine lv_i2b hx hb dX2_decryptBlock_268 rfl ?_
  refine sk_bst hx hb hK hP hD hS 6 rfl (j := 5) (by decide) (Nat.le_of_ble_eq_true rfl) dX2_decryptBlock_269 (fun g6 H locs e_g6 hP hD hS => ?_)
  have hP : va_P G vwCl [(h0, .inr (1, [.ref r0, .ref r1, .ref r2, .ref r3, .int en])), (r0, .inl (dJ, 32, .inl f0)), (r1, .inl (dJ, 32, .inl f1)), (r2, .inl (dJ, 32, .inl f2)), (r3, .inl (dJ, 32, .inl f3)), (qi, .inl (dB, 8, .inl fi)), (qo, .inl (dB, 8, .inl g6))] H := hP
  have hD : va_D A [(h0, .inr (1, [.ref r0, .ref r1, .ref r2, .ref r3, .int en])), (r0, .inl (dJ, 32, .inl f0)), (r1, .inl (dJ, 32, .inl f1)), (r2, .inl (dJ, 32, .inl f2)), (r3, .inl (dJ, 32, .inl f3)), (qi, .inl (dB, 8, .inl fi)), (qo, .inl (dB, 8, .inl g6))] := hD
  refine lv_aload_n hx hb dX2_decryptBlock_270 rfl (lv_at hl 3 rfl) ?_
  refine lv_iload hx hb dX2_decryptBlock_271 (lv_at hl 4 rfl) ?_
  refine lv_bipush (v := 6) hx hb dX2_decryptBlock_273 (by decide) ?_
  refine lv_iadd hx hb dX2_decryptBlock_275 ?_
  refine sk_top (w := nI 6) (by decide) ?_
  refine lv_iload hx hb dX2_decryptBlock_276 (lv_at hl 8 rfl) ?_
  refine lv_bipush (v := 8) hx hb dX2_decryptBlock_278 (by decide) ?_
  refine lv_ishr hx hb dX2_decryptBlock_280 ?_
  refine lv_i2b hx hb dX2_decryptBlock_281 rfl ?_
  refine sk_bst hx hb hK hP hD hS 6 rfl (j := 6) (by decide) (Nat.le_of_ble_eq_true rfl) dX2_decryptBlock_282 (fun g7 H locs e_g7 hP hD hS => ?_)
  have hP : va_P G vwCl [(h0, .inr (1, [.ref r0, .ref r1, .ref r2, .ref r3, .int en])), (r0, .inl (dJ, 32, .inl f0)), (r1, .inl (dJ, 32, .inl f1)), (r2, .inl (dJ, 32, .inl f2)), (r3, .inl (dJ, 32, .inl f3)), (qi, .inl (dB, 8, .inl fi)), (qo, .inl (dB, 8, .inl g7))] H := hP
  have hD : va_D A [(h0, .inr (1, [.ref r0, .ref r1, .ref r2, .ref r3, .int en])), (r0, .inl (dJ, 32, .inl f0)), (r1, .inl (dJ, 32, .inl f1)), (r2, .inl (dJ, 32, .inl f2)), (r3, .inl (dJ, 32, .inl f3)), (qi, .inl (dB, 8, .inl fi)), (qo, .inl (dB, 8, .inl g7))] := hD
  refine lv_aload_n hx hb dX2_decryptBlock_283 rfl (lv_at hl 3 rfl) ?_
  refine lv_iload hx hb dX2_decryptBlock_284 (lv_at hl 4 rfl) ?_
  refine lv_bipush (v := 7) hx hb dX2_decryptBlock_286 (by decide) ?_
  refine lv_iadd hx hb dX2_decryptBlock_288 ?_
  refine sk_top (w := nI 7) (by decide) ?_
  refine lv_iload hx hb dX2_decryptBlock_289 (lv_at hl 8 rfl) ?_
  refine lv_i2b hx hb dX2_decryptBlock_291 rfl ?_
  refine sk_bst hx hb hK hP hD hS 6 rfl (j := 7) (by decide) (Nat.le_of_ble_eq_true rfl) dX2_decryptBlock_292 (fun g8 H locs e_g8 hP hD hS => ?_)
  have hP : va_P G vwCl [(h0, .inr (1, [.ref r0, .ref r1, .ref r2, .ref r3, .int en])), (r0, .inl (dJ, 32, .inl f0)), (r1, .inl (dJ, 32, .inl f1)), (r2, .inl (dJ, 32, .inl f2)), (r3, .inl (dJ, 32, .inl f3)), (qi, .inl (dB, 8, .inl fi)), (qo, .inl (dB, 8, .inl g8))] H := hP
  have hD : va_D A [(h0, .inr (1, [.ref r0, .ref r1, .ref r2, .ref r3, .int en])), (r0, .inl (dJ, 32, .inl f0)), (r1, .inl (dJ, 32, .inl f1)), (r2, .inl (dJ, 32, .inl f2)), (r3, .inl (dJ, 32, .inl f3)), (qi, .inl (dB, 8, .inl fi)), (qo, .inl (dB, 8, .inl g8))] := hD
  refine lv_bipush (v := 8) hx hb dX2_decryptBlock_293 (by decide) ?_
  have his : sk_is g8 (sk_dec K 32 (sk_of fi)) := by
    rw [show sk_dec K 32 (sk_of fi) = (sk_lo w1, sk_lo w2, sk_lo w3, sk_lo w4) from hst.symm]
    refine ⟨?_, ?_, ?_, ?_, ?_, ?_, ?_, ?_⟩
    · rw [sk_put_n e_g8 (i := 0) (by decide), sk_put_n e_g7 (i := 0) (by decide), sk_put_n e_g6 (i := 0) (by decide), sk_put_n e_g5 (i := 0) (by decide), sk_put_n e_g4 (i := 0) (by decide), sk_put_n e_g3 (i := 0) (by decide), sk_put_n e_g2 (i := 0) (by decide), sk_put_s e_g1, sk_by_i8, sk_by_hi]
    · rw [sk_put_n e_g8 (i := 1) (by decide), sk_put_n e_g7 (i := 1) (by decide), sk_put_n e_g6 (i := 1) (by decide), sk_put_n e_g5 (i := 1) (by decide), sk_put_n e_g4 (i := 1) (by decide), sk_put_n e_g3 (i := 1) (by decide), sk_put_s e_g2, sk_by_i8, sk_by_lo]
    · rw [sk_put_n e_g8 (i := 2) (by decide), sk_put_n e_g7 (i := 2) (by decide), sk_put_n e_g6 (i := 2) (by decide), sk_put_n e_g5 (i := 2) (by decide), sk_put_n e_g4 (i := 2) (by decide), sk_put_s e_g3, sk_by_i8, sk_by_hi]
    · rw [sk_put_n e_g8 (i := 3) (by decide), sk_put_n e_g7 (i := 3) (by decide), sk_put_n e_g6 (i := 3) (by decide), sk_put_n e_g5 (i := 3) (by decide), sk_put_s e_g4, sk_by_i8, sk_by_lo]
    · rw [sk_put_n e_g8 (i := 4) (by decide), sk_put_n e_g7 (i := 4) (by decide), sk_put_n e_g6 (i := 4) (by decide), sk_put_s e_g5, sk_by_i8, sk_by_hi]
    · rw [sk_put_n e_g8 (i := 5) (by decide), sk_put_n e_g7 (i := 5) (by decide), sk_put_s e_g6, sk_by_i8, sk_by_lo]
    · rw [sk_put_n e_g8 (i := 6) (by decide), sk_put_s e_g7, sk_by_i8, sk_by_hi]
    · rw [sk_put_s e_g8, sk_by_i8, sk_by_lo]
  exact W.iret hx hb hr (fun t ht hW => ⟨⟨8, (), rfl, trivial, _, ⟨g8, his, rfl⟩, by rw [ht]; exact hP, hD⟩, hS.F ht⟩) hS.2.2 dX2_decryptBlock_295
end
section
theorem sk_ext {g n : Nat → Int32} (F : Nat → Int32) {i : Nat} (h : ∀ j, j < i → g j = F j) (e : n = upd g i (F i)) : ∀ j, j < i + 1 → n j = F j := by
  intro j hj
  by_cases hji : j = i
  · subst hji; exact sk_ip_s e
  · rw [sk_ip_n e hji]; exact h j (by omega)
set_option maxHeartbeats 4000000 in
set_option maxRecDepth 100000 in
theorem einit_loop {p : Program} {e : Env} {s : State} {m : MethodId} {args : Array Value} {below : List Frame} {meth : Method} {c : Code} {A : Nat → Prop} {Q : State → Prop} (l : Launch) (G : va_G) (dB dJ : ClassId) (ft : Nat) (h0 qp qa : Nat) (en : Int32) (f : Nat → Int32) (r0 r1 r2 r3 : Nat) (hx : p.tables.exec = Jvm.exec) (hb : c.code = cX2_init_2) (hown : s.vm.findClass RX2 = some m.cls) (hts : ∀ w ∈ lw_all, w.before args s = true) (hK : va_K G vwCl (sk_ty dB dJ) s)
    (kk : ∀ (H : Heap) (locs : List Loc) (g0 g1 g2 g3 : Nat → Int32) (ls : Array Slot), va_P G vwCl [(h0, .inr (1, [.ref r0, .ref r1, .ref r2, .ref r3, .int en])), (qp, .inr (2, [.ref qa])), (qa, .inl (dB, 10, .inl f)), (r0, .inl (dJ, 32, .inl g0)), (r1, .inl (dJ, 32, .inl g1)), (r2, .inl (dJ, 32, .inl g2)), (r3, .inl (dJ, 32, .inl g3))] H → va_D A [(h0, .inr (1, [.ref r0, .ref r1, .ref r2, .ref r3, .int en])), (qp, .inr (2, [.ref qa])), (qa, .inl (dB, 10, .inl f)), (r0, .inl (dJ, 32, .inl g0)), (r1, .inl (dJ, 32, .inl g1)), (r2, .inl (dJ, 32, .inl g2)), (r3, .inl (dJ, 32, .inl g3))] → va_S A s.heap H locs → (∀ j, j < 32 → g0 j = nI (sk_by (f ((4 * j) % 10)))) → (∀ j, j < 32 → g1 j = nI (sk_by (f ((4 * j + 1) % 10)))) → (∀ j, j < 32 → g2 j = nI (sk_by (f ((4 * j + 2) % 10)))) → (∀ j, j < 32 → g3 j = nI (sk_by (f ((4 * j + 3) % 10)))) → lv_has ls 5 [(0, .ref h0), (1, .int en), (2, .ref qp), (3, .ref qa), (4, .int (nI 32))] → W p l e (headSpec (ws_ yX2_init_2 cX2_init_2 5 none) ({ frames := 1, cells := 4, slots := 128, locals := 40 })).room s m args below meth c H locs 4 128 Q (F0 m 164 ls [])) :
    ∀ (n i : Nat), i + n = 32 → ∀ (H : Heap) (locs : List Loc) (g0 g1 g2 g3 : Nat → Int32) (ls : Array Slot), va_P G vwCl [(h0, .inr (1, [.ref r0, .ref r1, .ref r2, .ref r3, .int en])), (qp, .inr (2, [.ref qa])), (qa, .inl (dB, 10, .inl f)), (r0, .inl (dJ, 32, .inl g0)), (r1, .inl (dJ, 32, .inl g1)), (r2, .inl (dJ, 32, .inl g2)), (r3, .inl (dJ, 32, .inl g3))] H → va_D A [(h0, .inr (1, [.ref r0, .ref r1, .ref r2, .ref r3, .int en])), (qp, .inr (2, [.ref qa])), (qa, .inl (dB, 10, .inl f)), (r0, .inl (dJ, 32, .inl g0)), (r1, .inl (dJ, 32, .inl g1)), (r2, .inl (dJ, 32, .inl g2)), (r3, .inl (dJ, 32, .inl g3))] → va_S A s.heap H locs → (∀ j, j < i → g0 j = nI (sk_by (f ((4 * j) % 10)))) → (∀ j, j < i → g1 j = nI (sk_by (f ((4 * j + 1) % 10)))) → (∀ j, j < i → g2 j = nI (sk_by (f ((4 * j + 2) % 10)))) → (∀ j, j < i → g3 j = nI (sk_by (f ((4 * j + 3) % 10)))) → lv_has ls 5 [(0, .ref h0), (1, .int en), (2, .ref qp), (3, .ref qa), (4, .int (nI i))] → W p l e (headSpec (ws_ yX2_init_2 cX2_init_2 5 none) ({ frames := 1, cells := 4, slots := 128, locals := 40 })).room s m args below meth c H locs 4 128 Q (F0 m 65 ls []) := by
  intro n
  induction n with
  | zero =>
    intro i hi H locs g0 g1 g2 g3 ls hP hD hS k0 k1 k2 k3 hl
    obtain rfl : i = 32 := hi
    refine lv_iload hx hb dX2_init_2_65 (lv_at hl 4 rfl) ?_
    refine lv_bipush (v := 32) hx hb dX2_init_2_67 (by decide) ?_
    refine lv_icmp_ge (tgt := 164) hx hb dX2_init_2_69 (by decide) (fun _ => ?_) (fun h9 => absurd (by decide) h9)
    exact kk H locs g0 g1 g2 g3 ls hP hD hS k0 k1 k2 k3 (lv_sub hl [0, 1, 2, 3, 4] rfl)
  | succ n ih =>
    intro i hi H locs g0 g1 g2 g3 ls hP hD hS k0 k1 k2 k3 hl
    have hi32 : i < 32 := by omega
    refine lv_iload hx hb dX2_init_2_65 (lv_at hl 4 rfl) ?_
    refine lv_bipush (v := 32) hx hb dX2_init_2_67 (by decide) ?_
    refine lv_icmp_ge (tgt := 164) hx hb dX2_init_2_69 (by decide) (fun h9 => absurd h9 (nI_ge (a := i) (b := 32) hi32 (by decide))) (fun _ => ?_)
    refine lv_aload_n hx hb dX2_init_2_72 rfl (lv_at hl 0 rfl) ?_
    refine va_get (D := G) (ci := 1) (v := .ref r0) (C := RX2) (T := TX2) (N := 5) hx hb hts in_X2 hown hK hP 0 rfl rfl 0 (by decide) (hts _ q37) (fun _ h9 => h9) rfl dX2_init_2_73 ?_
    refine lv_iload hx hb dX2_init_2_76 (lv_at hl 4 rfl) ?_
    refine lv_aload_n hx hb dX2_init_2_78 rfl (lv_at hl 3 rfl) ?_
    refine lv_iload hx hb dX2_init_2_79 (lv_at hl 4 rfl) ?_
    refine lv_iconst (v := 4) hx hb dX2_init_2_81 (by decide) ?_
    refine lv_imul hx hb dX2_init_2_82 ?_
    refine sk_top (w := nI (4 * i)) (by rw [show (4 : Int32) = nI 4 from rfl, pk_mul, Nat.mul_comm]) ?_
    refine lv_bipush (v := 10) hx hb dX2_init_2_83 (by decide) ?_
    refine lv_irem hx hb dX2_init_2_85 (by decide) ?_
    refine sk_top (w := nI ((4 * i) % 10)) (pk_rem (a := 4 * i) (d := 10) (by omega) (by decide) (by decide)) ?_
    refine sk_bld hx hb hK hP 2 rfl (j := (4 * i) % 10) (Nat.mod_lt _ (by decide)) (Nat.le_of_ble_eq_true rfl) dX2_init_2_86 ?_
    refine lv_sipush (v := 255) hx hb dX2_init_2_87 (by decide) ?_
    refine lv_iand hx hb dX2_init_2_90 ?_
    refine sk_top (w := nI (sk_by (f ((4 * i) % 10)))) (sk_and8 _) ?_
    refine sk_ist hx hb hK hP hD hS 3 rfl (j := i) (hi32) (Nat.le_of_ble_eq_true rfl) dX2_init_2_91 (fun n0 H locs e_n0 hP hD hS => ?_)
    have hP : va_P G vwCl [(h0, .inr (1, [.ref r0, .ref r1, .ref r2, .ref r3, .int en])), (qp, .inr (2, [.ref qa])), (qa, .inl (dB, 10, .inl f)), (r0, .inl (dJ, 32, .inl n0)), (r1, .inl (dJ, 32, .inl g1)), (r2, .inl (dJ, 32, .inl g2)), (r3, .inl (dJ, 32, .inl g3))] H := hP
    have hD : va_D A [(h0, .inr (1, [.ref r0, .ref r1, .ref r2, .ref r3, .int en])), (qp, .inr (2, [.ref qa])), (qa, .inl (dB, 10, .inl f)), (r0, .inl (dJ, 32, .inl n0)), (r1, .inl (dJ, 32, .inl g1)), (r2, .inl (dJ, 32, .inl g2)), (r3, .inl (dJ, 32, .inl g3))] := hD
    refine lv_aload_n hx hb dX2_init_2_92 rfl (lv_at hl 0 rfl) ?_
    refine va_get (D := G) (ci := 1) (v := .ref r1) (C := RX2) (T := TX2) (N := 5) hx hb hts in_X2 hown hK hP 0 rfl rfl 1 (by decide) (hts _ q38) (fun _ h9 => h9) rfl dX2_init_2_93 ?_
    refine lv_iload hx hb dX2_init_2_96 (lv_at hl 4 rfl) ?_
    refine lv_aload_n hx hb dX2_init_2_98 rfl (lv_at hl 3 rfl) ?_
    refine lv_iload hx hb dX2_init_2_99 (lv_at hl 4 rfl) ?_
    refine lv_iconst (v := 4) hx hb dX2_init_2_101 (by decide) ?_
    refine lv_imul hx hb dX2_init_2_102 ?_
    refine sk_top (w := nI (4 * i)) (by rw [show (4 : Int32) = nI 4 from rfl, pk_mul, Nat.mul_comm]) ?_
    refine lv_iconst (v := 1) hx hb dX2_init_2_103 (by decide) ?_
    refine lv_iadd hx hb dX2_init_2_104 ?_
    refine sk_top (w := nI (4 * i + 1)) (nI_add (4 * i) 1) ?_
    refine lv_bipush (v := 10) hx hb dX2_init_2_105 (by decide) ?_
    refine lv_irem hx hb dX2_init_2_107 (by decide) ?_
    refine sk_top (w := nI ((4 * i + 1) % 10)) (pk_rem (a := 4 * i + 1) (d := 10) (by omega) (by decide) (by decide)) ?_
    refine sk_bld hx hb hK hP 2 rfl (j := (4 * i + 1) % 10) (Nat.mod_lt _ (by decide)) (Nat.le_of_ble_eq_true rfl) dX2_init_2_108 ?_
    refine lv_sipush (v := 255) hx hb dX2_init_2_109 (by decide) ?_
    refine lv_iand hx hb dX2_init_2_112 ?_
    refine sk_top (w := nI (sk_by (f ((4 * i + 1) % 10)))) (sk_and8 _) ?_
    refine sk_ist hx hb hK hP hD hS 4 rfl (j := i) (hi32) (Nat.le_of_ble_eq_true rfl) dX2_init_2_113 (fun n1 H locs e_n1 hP hD hS => ?_)
    have hP : va_P G vwCl [(h0, .inr (1, [.ref r0, .ref r1, .ref r2, .ref r3, .int en])), (qp, .inr (2, [.ref qa])), (qa, .inl (dB, 10, .inl f)), (r0, .inl (dJ, 32, .inl n0)), (r1, .inl (dJ, 32, .inl n1)), (r2, .inl (dJ, 32, .inl g2)), (r3, .inl (dJ, 32, .inl g3))] H := hP
    have hD : va_D A [(h0, .inr (1, [.ref r0, .ref r1, .ref r2, .ref r3, .int en])), (qp, .inr (2, [.ref qa])), (qa, .inl (dB, 10, .inl f)), (r0, .inl (dJ, 32, .inl n0)), (r1, .inl (dJ, 32, .inl n1)), (r2, .inl (dJ, 32, .inl g2)), (r3, .inl (dJ, 32, .inl g3))] := hD
    refine lv_aload_n hx hb dX2_init_2_114 rfl (lv_at hl 0 rfl) ?_
    refine va_get (D := G) (ci := 1) (v := .ref r2) (C := RX2) (T := TX2) (N := 5) hx hb hts in_X2 hown hK hP 0 rfl rfl 2 (by decide) (hts _ q39) (fun _ h9 => h9) rfl dX2_init_2_115 ?_
    refine lv_iload hx hb dX2_init_2_118 (lv_at hl 4 rfl) ?_
    refine lv_aload_n hx hb dX2_init_2_120 rfl (lv_at hl 3 rfl) ?_
    refine lv_iload hx hb dX2_init_2_121 (lv_at hl 4 rfl) ?_
    refine lv_iconst (v := 4) hx hb dX2_init_2_123 (by decide) ?_
    refine lv_imul hx hb dX2_init_2_124 ?_
    refine sk_top (w := nI (4 * i)) (by rw [show (4 : Int32) = nI 4 from rfl, pk_mul, Nat.mul_comm]) ?_
    refine lv_iconst (v := 2) hx hb dX2_init_2_125 (by decide) ?_
    refine lv_iadd hx hb dX2_init_2_126 ?_
    refine sk_top (w := nI (4 * i + 2)) (nI_add (4 * i) 2) ?_
    refine lv_bipush (v := 10) hx hb dX2_init_2_127 (by decide) ?_
    refine lv_irem hx hb dX2_init_2_129 (by decide) ?_
    refine sk_top (w := nI ((4 * i + 2) % 10)) (pk_rem (a := 4 * i + 2) (d := 10) (by omega) (by decide) (by decide)) ?_
    refine sk_bld hx hb hK hP 2 rfl (j := (4 * i + 2) % 10) (Nat.mod_lt _ (by decide)) (Nat.le_of_ble_eq_true rfl) dX2_init_2_130 ?_
    refine lv_sipush (v := 255) hx hb dX2_init_2_131 (by decide) ?_
    refine lv_iand hx hb dX2_init_2_134 ?_
    refine sk_top (w := nI (sk_by (f ((4 * i + 2) % 10)))) (sk_and8 _) ?_
    refine sk_ist hx hb hK hP hD hS 5 rfl (j := i) (hi32) (Nat.le_of_ble_eq_true rfl) dX2_init_2_135 (fun n2 H locs e_n2 hP hD hS => ?_)
    have hP : va_P G vwCl [(h0, .inr (1, [.ref r0, .ref r1, .ref r2, .ref r3, .int en])), (qp, .inr (2, [.ref qa])), (qa, .inl (dB, 10, .inl f)), (r0, .inl (dJ, 32, .inl n0)), (r1, .inl (dJ, 32, .inl n1)), (r2, .inl (dJ, 32, .inl n2)), (r3, .inl (dJ, 32, .inl g3))] H := hP
    have hD : va_D A [(h0, .inr (1, [.ref r0, .ref r1, .ref r2, .ref r3, .int en])), (qp, .inr (2, [.ref qa])), (qa, .inl (dB, 10, .inl f)), (r0, .inl (dJ, 32, .inl n0)), (r1, .inl (dJ, 32, .inl n1)), (r2, .inl (dJ, 32, .inl n2)), (r3, .inl (dJ, 32, .inl g3))] := hD
    refine lv_aload_n hx hb dX2_init_2_136 rfl (lv_at hl 0 rfl) ?_
    refine va_get (D := G) (ci := 1) (v := .ref r3) (C := RX2) (T := TX2) (N := 5) hx hb hts in_X2 hown hK hP 0 rfl rfl 3 (by decide) (hts _ q40) (fun _ h9 => h9) rfl dX2_init_2_137 ?_
    refine lv_iload hx hb dX2_init_2_140 (lv_at hl 4 rfl) ?_
    refine lv_aload_n hx hb dX2_init_2_142 rfl (lv_at hl 3 rfl) ?_
    refine lv_iload hx hb dX2_init_2_143 (lv_at hl 4 rfl) ?_
    refine lv_iconst (v := 4) hx hb dX2_init_2_145 (by decide) ?_
    refine lv_imul hx hb dX2_init_2_146 ?_
    refine sk_top (w := nI (4 * i)) (by rw [show (4 : Int32) = nI 4 from rfl, pk_mul, Nat.mul_comm]) ?_
    refine lv_iconst (v := 3) hx hb dX2_init_2_147 (by decide) ?_
    refine lv_iadd hx hb dX2_init_2_148 ?_
    refine sk_top (w := nI (4 * i + 3)) (nI_add (4 * i) 3) ?_
    refine lv_bipush (v := 10) hx hb dX2_init_2_149 (by decide) ?_
    refine lv_irem hx hb dX2_init_2_151 (by decide) ?_
    refine sk_top (w := nI ((4 * i + 3) % 10)) (pk_rem (a := 4 * i + 3) (d := 10) (by omega) (by decide) (by decide)) ?_
    refine sk_bld hx hb hK hP 2 rfl (j := (4 * i + 3) % 10) (Nat.mod_lt _ (by decide)) (Nat.le_of_ble_eq_true rfl) dX2_init_2_152 ?_
    refine lv_sipush (v := 255) hx hb dX2_init_2_153 (by decide) ?_
    refine lv_iand hx hb dX2_init_2_156 ?_
    refine sk_top (w := nI (sk_by (f ((4 * i + 3) % 10)))) (sk_and8 _) ?_
    refine sk_ist hx hb hK hP hD hS 6 rfl (j := i) (hi32) (Nat.le_of_ble_eq_true rfl) dX2_init_2_157 (fun n3 H locs e_n3 hP hD hS => ?_)
    have hP : va_P G vwCl [(h0, .inr (1, [.ref r0, .ref r1, .ref r2, .ref r3, .int en])), (qp, .inr (2, [.ref qa])), (qa, .inl (dB, 10, .inl f)), (r0, .inl (dJ, 32, .inl n0)), (r1, .inl (dJ, 32, .inl n1)), (r2, .inl (dJ, 32, .inl n2)), (r3, .inl (dJ, 32, .inl n3))] H := hP
    have hD : va_D A [(h0, .inr (1, [.ref r0, .ref r1, .ref r2, .ref r3, .int en])), (qp, .inr (2, [.ref qa])), (qa, .inl (dB, 10, .inl f)), (r0, .inl (dJ, 32, .inl n0)), (r1, .inl (dJ, 32, .inl n1)), (r2, .inl (dJ, 32, .inl n2)), (r3, .inl (dJ, 32, .inl n3))] := hD
    refine lv_iinc (v := nI (i + 1)) (lv' := [(4, .int (nI (i + 1))), (0, .ref h0), (1, .int en), (2, .ref qp), (3, .ref qa)]) hx hb dX2_init_2_158 hl (k := 4) rfl (nI_1 i) (by decide) rfl (fun ls hl => ?_)
    refine lv_goto (tgt := 65) hx hb dX2_init_2_161 (by decide) ?_
    exact ih (i + 1) (by omega) H locs n0 n1 n2 n3 ls hP hD hS (sk_ext (fun j => nI (sk_by (f ((4 * j) % 10)))) k0 e_n0) (sk_ext (fun j => nI (sk_by (f ((4 * j + 1) % 10)))) k1 e_n1) (sk_ext (fun j => nI (sk_by (f ((4 * j + 2) % 10)))) k2 e_n2) (sk_ext (fun j => nI (sk_by (f ((4 * j + 3) % 10)))) k3 e_n3) (lv_sub hl [1, 2, 3, 4, 0] rfl)
set_option maxHeartbeats 4000000 in
set_option maxRecDepth 100000 in
/-- init(encrypting, key) -/
theorem met_einit (l : Launch) (G : va_G) (dB dJ : ClassId) (ft : Nat) (h0 qp qa : Nat) (en : Int32) (f : Nat → Int32) (hen : en = 0 ∨ en = 1) (sz : Nat) : Met l yX2_init_2 (ws_ yX2_init_2 cX2_init_2 5 none) ({ frames := 1, cells := 4, slots := 128, locals := 40 }) (sk_Pre G dB dJ ft [.ref h0, .int en, .ref qp] sz [(h0, .inr (1, [.null, .null, .null, .null, .int 0])), (qp, .inr (2, [.ref qa])), (qa, .inl (dB, 10, .inl f))]) (sk_Qv G (va_A [(h0, .inr (1, [.null, .null, .null, .null, .int 0])), (qp, .inr (2, [.ref qa])), (qa, .inl (dB, 10, .inl f))] sz) (fun w => ∃ (r0 r1 r2 r3 : Nat) (g0 g1 g2 g3 : Nat → Int32), sk_keys (fun j => sk_by (f j)) g0 g1 g2 g3 ∧ w = [(h0, .inr (1, [.ref r0, .ref r1, .ref r2, .ref r3, .int en])), (qp, .inr (2, [.ref qa])), (qa, .inl (dB, 10, .inl f)), (r0, .inl (dJ, 32, .inl g0)), (r1, .inl (dJ, 32, .inl g1)), (r2, .inl (dJ, 32, .inl g2)), (r3, .inl (dJ, 32, .inl g3))])) 4 128 (va_A [(h0, .inr (1, [.null, .null, .null, .null, .int 0])), (qp, .inr (2, [.ref qa])), (qa, .inl (dB, 10, .inl f))] sz) := by
  refine Met.ofW (cc := cX2_init_2) (maxL := 5) (ret := none) (by decide) rfl ?_
  intro p e s m args below meth c s₁ B hml hv
  obtain ⟨rfl, hsz, hP, hK, hD0, hE⟩ := hv
  have hx := B.exec
  have hb := B.bytes
  have hr := B.returns
  have hts := atoms_spec (ws := ws_ yX2_init_2 cX2_init_2 5 none) B.pre
  have hts : ∀ w ∈ lw_all, w.before _ s = true := fun w h => hts w (List.mem_cons_of_mem _ h)
  have hown : s.vm.findClass RX2 = some m.cls := findClass_of_methodNamed B.named
  have hlocks := B.notSynchronized
  subst hsz
  have hD := hD0.self (sz := s.heap.size)
  generalize hAe : va_A [(h0, .inr (1, [.null, .null, .null, .null, .int 0])), (qp, .inr (2, [.ref qa])), (qa, .inl (dB, 10, .inl f))] s.heap.size = A at hD hE ⊢
  have hA : ∀ q : Nat, s.heap.size ≤ q → A q := fun q h => by rw [← hAe]; exact Or.inr h
  have hS : va_S A s.heap s.heap [] := va_S.rf
  have hP : va_P G vwCl [(h0, .inr (1, [.null, .null, .null, .null, .int 0])), (qp, .inr (2, [.ref qa])), (qa, .inl (dB, 10, .inl f))] s.heap := hP
  have hl := lv_entry ([.ref h0, .int en, .ref qp]) (n := 5) (Nat.le_of_ble_eq_true rfl)
  rw [lg_entry_eq]
  generalize (lg_sl ([.ref h0, .int en, .ref qp]) ++ List.replicate (5 - (lg_sl ([.ref h0, .int en, .ref qp])).length) Slot.unset).toArray = ls at hl ⊢
  have hl : lv_has ls 5 [(0, .ref h0), (1, .int en), (2, .ref qp)] := hl
  refine lv_aload_n hx hb dX2_init_2_0 rfl (lv_at hl 2 rfl) ?_
  refine va_instS hx hb hown (hts _ q83) (hK.1 2 _ rfl).2 (va_recv hK hP (ci := 2) (q0 := 1) rfl rfl) dX2_init_2_1 ?_
  refine lv_if_ne (tgt := 17) hx hb dX2_init_2_4 (by decide) (fun _ => ?_) (fun h9 => absurd h9 (by decide))
  refine lv_aload_n hx hb dX2_init_2_17 rfl (lv_at hl 2 rfl) ?_
  refine va_castS hx hb hown (hts _ q83) (hK.1 2 _ rfl).2 (va_recv hK hP (ci := 2) (q0 := 1) rfl rfl) dX2_init_2_18 ?_
  refine va_csq (W.runV (As := []) (rest := []) ⟨hx, hb, hml, hown, hts⟩ (met_getKey l G dB dJ ft qp qa) (cwV 0 hts (lw_V q152 q153 q154 q7 q155) rfl rfl rfl (by decide +kernel) ⟨Nat.le_of_ble_eq_true rfl, Nat.le_of_ble_eq_true rfl⟩) ⟨sk_blindR, va_recv hK hP (ci := 2) (q0 := 1) rfl rfl, sk_preR hP hK hE hS [.ref qp] [1] rfl⟩ rfl rfl hl.1 rfl (lv_room (Nat.le_of_ble_eq_true rfl)) dX2_init_2_21 ⟨Nat.le_of_ble_eq_true rfl, Nat.le_of_ble_eq_true rfl⟩) (fun rq hrq => ?_)
  subst hrq
  refine W.eq (g2 := F0 m 24 ls [.ref qa]) rfl ?_
  refine lv_astore_n (lv' := [(3, .ref qa), (0, .ref h0), (1, .int en), (2, .ref qp)]) hx hb dX2_init_2_24 rfl hl (by decide) rfl (fun ls hl => ?_)
  refine lv_aload_n hx hb dX2_init_2_25 rfl (lv_at hl 1 rfl) ?_
  refine lv_iload_n hx hb dX2_init_2_26 rfl (lv_at hl 2 rfl) ?_
  have hn9 : narrow .boolean (.int en) = .int en := by rcases hen with h | h <;> rw [h] <;> decide
  have hf9 : fits .boolean (.int en) = true := by rcases hen with h | h <;> rw [h] <;> decide
  refine va_put (D := G) (ci := 1) (v := .int en) (ty := .boolean) (C := RX2) (T := TX2) (N := 5) hx hb hts in_X2 tyX2 tyX2_ok nmX2 hown hK hP hD hS 0 rfl rfl 4 (by decide) (hts _ q41) (fun _ h9 => h9) rfl (by decide +kernel) hn9 hf9 (Nat.le_of_ble_eq_true rfl) dX2_init_2_27 (fun H locs hP hD hS => ?_)
  have hP : va_P G vwCl [(h0, .inr (1, [.null, .null, .null, .null, .int en])), (qp, .inr (2, [.ref qa])), (qa, .inl (dB, 10, .inl f))] H := hP
  have hD : va_D A [(h0, .inr (1, [.null, .null, .null, .null, .int en])), (qp, .inr (2, [.ref qa])), (qa, .inl (dB, 10, .inl f))] := hD
  refine lv_aload_n hx hb dX2_init_2_30 rfl (lv_at hl 1 rfl) ?_
  refine lv_bipush (v := 32) hx hb dX2_init_2_31 (by decide) ?_
  refine sk_newI (N := 32) hx hb (hts _ q181) hK hP hD hS hA (by decide) (by decide) (Nat.le_of_ble_eq_true rfl) (Nat.le_of_ble_eq_true rfl) (Nat.le_of_ble_eq_true rfl) dX2_init_2_33 (fun r0 H hP hD hS => ?_)
  have hP : va_P G vwCl [(h0, .inr (1, [.null, .null, .null, .null, .int en])), (qp, .inr (2, [.ref qa])), (qa, .inl (dB, 10, .inl f)), (r0, .inl (dJ, 32, .inl (fun _ => 0)))] H := hP
  have hD : va_D A [(h0, .inr (1, [.null, .null, .null, .null, .int en])), (qp, .inr (2, [.ref qa])), (qa, .inl (dB, 10, .inl f)), (r0, .inl (dJ, 32, .inl (fun _ => 0)))] := hD
  refine W.widen (k := 1) (n := 32) (Nat.le_of_ble_eq_true rfl) (Nat.le_of_ble_eq_true rfl) ?_
  refine va_put (D := G) (ci := 1) (v := .ref r0) (ty := .array .int) (C := RX2) (T := TX2) (N := 5) hx hb hts in_X2 tyX2 tyX2_ok nmX2 hown hK hP hD hS 0 rfl rfl 0 (by decide) (hts _ q37) (fun _ h9 => h9) rfl (by decide +kernel) rfl rfl (Nat.le_of_ble_eq_true rfl) dX2_init_2_35 (fun H locs hP hD hS => ?_)
  have hP : va_P G vwCl [(h0, .inr (1, [.ref r0, .null, .null, .null, .int en])), (qp, .inr (2, [.ref qa])), (qa, .inl (dB, 10, .inl f)), (r0, .inl (dJ, 32, .inl (fun _ => 0)))] H := hP
  have hD : va_D A [(h0, .inr (1, [.ref r0, .null, .null, .null, .int en])), (qp, .inr (2, [.ref qa])), (qa, .inl (dB, 10, .inl f)), (r0, .inl (dJ, 32, .inl (fun _ => 0)))] := hD
  refine lv_aload_n hx hb dX2_init_2_38 rfl (lv_at hl 1 rfl) ?_
  refine lv_bipush (v := 32) hx hb dX2_init_2_39 (by decide) ?_
  refine sk_newI (N := 32) hx hb (hts _ q181) hK hP hD hS hA (by decide) (by decide) (Nat.le_of_ble_eq_true rfl) (Nat.le_of_ble_eq_true rfl) (Nat.le_of_ble_eq_true rfl) dX2_init_2_41 (fun r1 H hP hD hS => ?_)
  have hP : va_P G vwCl [(h0, .inr (1, [.ref r0, .null, .null, .null, .int en])), (qp, .inr (2, [.ref qa])), (qa, .inl (dB, 10, .inl f)), (r0, .inl (dJ, 32, .inl (fun _ => 0))), (r1, .inl (dJ, 32, .inl (fun _ => 0)))] H := hP
  have hD : va_D A [(h0, .inr (1, [.ref r0, .null, .null, .null, .int en])), (qp, .inr (2, [.ref qa])), (qa, .inl (dB, 10, .inl f)), (r0, .inl (dJ, 32, .inl (fun _ => 0))), (r1, .inl (dJ, 32, .inl (fun _ => 0)))] := hD
  refine W.widen (k := 2) (n := 64) (Nat.le_of_ble_eq_true rfl) (Nat.le_of_ble_eq_true rfl) ?_
  refine va_put (D := G) (ci := 1) (v := .ref r1) (ty := .array .int) (C := RX2) (T := TX2) (N := 5) hx hb hts in_X2 tyX2 tyX2_ok nmX2 hown hK hP hD hS 0 rfl rfl 1 (by decide) (hts _ q38) (fun _ h9 => h9) rfl (by decide +kernel) rfl rfl (Nat.le_of_ble_eq_true rfl) dX2_init_2_43 (fun H locs hP hD hS => ?_)
  have hP : va_P G vwCl [(h0, .inr (1, [.ref r0, .ref r1, .null, .null, .int en])), (qp, .inr (2, [.ref qa])), (qa, .inl (dB, 10, .inl f)), (r0, .inl (dJ, 32, .inl (fun _ => 0))), (r1, .inl (dJ, 32, .inl (fun _ => 0)))] H := hP
  have hD : va_D A [(h0, .inr (1, [.ref r0, .ref r1, .null, .null, .int en])), (qp, .inr (2, [.ref qa])), (qa, .inl (dB, 10, .inl f)), (r0, .inl (dJ, 32, .inl (fun _ => 0))), (r1, .inl (dJ, 32, .inl (fun _ => 0)))] := hD
  refine lv_aload_n hx hb dX2_init_2_46 rfl (lv_at hl 1 rfl) ?_
  refine lv_bipush (v := 32) hx hb dX2_init_2_47 (by decide) ?_
  refine sk_newI (N := 32) hx hb (hts _ q181) hK hP hD hS hA (by decide) (by decide) (Nat.le_of_ble_eq_true rfl) (Nat.le_of_ble_eq_true rfl) (Nat.le_of_ble_eq_true rfl) dX2_init_2_49 (fun r2 H hP hD hS => ?_)
  have hP : va_P G vwCl [(h0, .inr (1, [.ref r0, .ref r1, .null, .null, .int en])), (qp, .inr (2, [.ref qa])), (qa, .inl (dB, 10, .inl f)), (r0, .inl (dJ, 32, .inl (fun _ => 0))), (r1, .inl (dJ, 32, .inl (fun _ => 0))), (r2, .inl (dJ, 32, .inl (fun _ => 0)))] H := hP
  have hD : va_D A [(h0, .inr (1, [.ref r0, .ref r1, .null, .null, .int en])), (qp, .inr (2, [.ref qa])), (qa, .inl (dB, 10, .inl f)), (r0, .inl (dJ, 32, .inl (fun _ => 0))), (r1, .inl (dJ, 32, .inl (fun _ => 0))), (r2, .inl (dJ, 32, .inl (fun _ => 0)))] := hD
  refine W.widen (k := 3) (n := 96) (Nat.le_of_ble_eq_true rfl) (Nat.le_of_ble_eq_true rfl) ?_
  refine va_put (D := G) (ci := 1) (v := .ref r2) (ty := .array .int) (C := RX2) (T := TX2) (N := 5) hx hb hts in_X2 tyX2 tyX2_ok nmX2 hown hK hP hD hS 0 rfl rfl 2 (by decide) (hts _ q39) (fun _ h9 => h9) rfl (by decide +kernel) rfl rfl (Nat.le_of_ble_eq_true rfl) dX2_init_2_51 (fun H locs hP hD hS => ?_)
  have hP : va_P G vwCl [(h0, .inr (1, [.ref r0, .ref r1, .ref r2, .null, .int en])), (qp, .inr (2, [.ref qa])), (qa, .inl (dB, 10, .inl f)), (r0, .inl (dJ, 32, .inl (fun _ => 0))), (r1, .inl (dJ, 32, .inl (fun _ => 0))), (r2, .inl (dJ, 32, .inl (fun _ => 0)))] H := hP
  have hD : va_D A [(h0, .inr (1, [.ref r0, .ref r1, .ref r2, .null, .int en])), (qp, .inr (2, [.ref qa])), (qa, .inl (dB, 10, .inl f)), (r0, .inl (dJ, 32, .inl (fun _ => 0))), (r1, .inl (dJ, 32, .inl (fun _ => 0))), (r2, .inl (dJ, 32, .inl (fun _ => 0)))] := hD
  refine lv_aload_n hx hb dX2_init_2_54 rfl (lv_at hl 1 rfl) ?_
  refine lv_bipush (v := 32) hx hb dX2_init_2_55 (by decide) ?_
  refine sk_newI (N := 32) hx hb (hts _ q181) hK hP hD hS hA (by decide) (by decide) (Nat.le_of_ble_eq_true rfl) (Nat.le_of_ble_eq_true rfl) (Nat.le_of_ble_eq_true rfl) dX2_init_2_57 (fun r3 H hP hD hS => ?_)
  have hP : va_P G vwCl [(h0, .inr (1, [.ref r0, .ref r1, .ref r2, .null, .int en])), (qp, .inr (2, [.ref qa])), (qa, .inl (dB, 10, .inl f)), (r0, .inl (dJ, 32, .inl (fun _ => 0))), (r1, .inl (dJ, 32, .inl (fun _ => 0))), (r2, .inl (dJ, 32, .inl (fun _ => 0))), (r3, .inl (dJ, 32, .inl (fun _ => 0)))] H := hP
  have hD : va_D A [(h0, .inr (1, [.ref r0, .ref r1, .ref r2, .null, .int en])), (qp, .inr (2, [.ref qa])), (qa, .inl (dB, 10, .inl f)), (r0, .inl (dJ, 32, .inl (fun _ => 0))), (r1, .inl (dJ, 32, .inl (fun _ => 0))), (r2, .inl (dJ, 32, .inl (fun _ => 0))), (r3, .inl (dJ, 32, .inl (fun _ => 0)))] := hD
  refine W.widen (k := 4) (n := 128) (Nat.le_of_ble_eq_true rfl) (Nat.le_of_ble_eq_true rfl) ?_
  refine va_put (D := G) (ci := 1) (v := .ref r3) (ty := .array .int) (C := RX2) (T := TX2) (N := 5) hx hb hts in_X2 tyX2 tyX2_ok nmX2 hown hK hP hD hS 0 rfl rfl 3 (by decide) (hts _ q40) (fun _ h9 => h9) rfl (by decide +kernel) rfl rfl (Nat.le_of_ble_eq_true rfl) dX2_init_2_59 (fun H locs hP hD hS => ?_)
  have hP : va_P G vwCl [(h0, .inr (1, [.ref r0, .ref r1, .ref r2, .ref r3, .int en])), (qp, .inr (2, [.ref qa])), (qa, .inl (dB, 10, .inl f)), (r0, .inl (dJ, 32, .inl (fun _ => 0))), (r1, .inl (dJ, 32, .inl (fun _ => 0))), (r2, .inl (dJ, 32, .inl (fun _ => 0))), (r3, .inl (dJ, 32, .inl (fun _ => 0)))] H := hP
  have hD : va_D A [(h0, .inr (1, [.ref r0, .ref r1, .ref r2, .ref r3, .int en])), (qp, .inr (2, [.ref qa])), (qa, .inl (dB, 10, .inl f)), (r0, .inl (dJ, 32, .inl (fun _ => 0))), (r1, .inl (dJ, 32, .inl (fun _ => 0))), (r2, .inl (dJ, 32, .inl (fun _ => 0))), (r3, .inl (dJ, 32, .inl (fun _ => 0)))] := hD
  refine lv_iconst (v := 0) hx hb dX2_init_2_62 (by decide) ?_
  refine lv_istore (lv' := [(4, .int 0), (3, .ref qa), (0, .ref h0), (1, .int en), (2, .ref qp)]) hx hb dX2_init_2_63 hl (by decide) rfl (fun ls hl => ?_)
  refine einit_loop l G dB dJ ft h0 qp qa en f r0 r1 r2 r3 hx hb hown hts hK ?_ 32 0 rfl H _ _ _ _ _ ls hP hD hS (fun _ h => absurd h (Nat.not_lt_zero _)) (fun _ h => absurd h (Nat.not_lt_zero _)) (fun _ h => absurd h (Nat.not_lt_zero _)) (fun _ h => absurd h (Nat.not_lt_zero _)) (lv_sub hl [2, 3, 4, 1, 0] rfl)
  intro H locs g0 g1 g2 g3 ls hP hD hS k0 k1 k2 k3 hl
  have hky : sk_keys (fun j => sk_by (f j)) g0 g1 g2 g3 := ⟨fun n => sk_by_lt _, fun j hj => ⟨k0 j hj, k1 j hj, k2 j hj, k3 j hj⟩⟩
  exact W.vret hx hb hr (fun t ht hW => ⟨⟨(), rfl, trivial, _, ⟨r0, r1, r2, r3, g0, g1, g2, g3, hky, rfl⟩, by rw [ht]; exact hP, hD⟩, hS.F ht⟩) hS.2.2 dX2_init_2_164
set_option maxHeartbeats 4000000 in
set_option maxRecDepth 100000 in
/-- processBlock(in, 0, out, 0) -/
theorem met_proc (l : Launch) (G : va_G) (dB dJ : ClassId) (ft : Nat) (h0 r0 r1 r2 r3 qi qo : Nat) (en : Int32) (f0 f1 f2 f3 fi fo : Nat → Int32) (K : Nat → Nat) (hKy : sk_keys K f0 f1 f2 f3) (sz : Nat) : Met l yX2_processBlock (ws_ yX2_processBlock cX2_processBlock 5 (some .int)) ({ frames := 2, cells := 0, slots := 0, locals := 80 }) (sk_Pre G dB dJ ft [.ref h0, .ref qi, .int 0, .ref qo, .int 0] sz [(h0, .inr (1, [.ref r0, .ref r1, .ref r2, .ref r3, .int en])), (r0, .inl (dJ, 32, .inl f0)), (r1, .inl (dJ, 32, .inl f1)), (r2, .inl (dJ, 32, .inl f2)), (r3, .inl (dJ, 32, .inl f3)), (qi, .inl (dB, 8, .inl fi)), (qo, .inl (dB, 8, .inl fo))]) (sk_Qi G (va_A [(h0, .inr (1, [.ref r0, .ref r1, .ref r2, .ref r3, .int en])), (r0, .inl (dJ, 32, .inl f0)), (r1, .inl (dJ, 32, .inl f1)), (r2, .inl (dJ, 32, .inl f2)), (r3, .inl (dJ, 32, .inl f3)), (qi, .inl (dB, 8, .inl fi)), (qo, .inl (dB, 8, .inl fo))] sz) (fun _ => True) (fun w => ∃ fn : Nat → Int32, sk_is fn (sk_do en K (sk_of fi)) ∧ w = [(h0, .inr (1, [.ref r0, .ref r1, .ref r2, .ref r3, .int en])), (r0, .inl (dJ, 32, .inl f0)), (r1, .inl (dJ, 32, .inl f1)), (r2, .inl (dJ, 32, .inl f2)), (r3, .inl (dJ, 32, .inl f3)), (qi, .inl (dB, 8, .inl fi)), (qo, .inl (dB, 8, .inl fn))])) 0 0 (va_A [(h0, .inr (1, [.ref r0, .ref r1, .ref r2, .ref r3, .int en])), (r0, .inl (dJ, 32, .inl f0)), (r1, .inl (dJ, 32, .inl f1)), (r2, .inl (dJ, 32, .inl f2)), (r3, .inl (dJ, 32, .inl f3)), (qi, .inl (dB, 8, .inl fi)), (qo, .inl (dB, 8, .inl fo))] sz) := by
  refine Met.ofW (cc := cX2_processBlock) (maxL := 5) (ret := (some .int)) (by decide) rfl ?_
  intro p e s m args below meth c s₁ B hml hv
  obtain ⟨rfl, hsz, hP, hK, hD0, hE⟩ := hv
  have hx := B.exec
  have hb := B.bytes
  have hr := B.returns
  have hts := atoms_spec (ws := ws_ yX2_processBlock cX2_processBlock 5 (some .int)) B.pre
  have hts : ∀ w ∈ lw_all, w.before _ s = true := fun w h => hts w (List.mem_cons_of_mem _ h)
  have hown : s.vm.findClass RX2 = some m.cls := findClass_of_methodNamed B.named
  have hlocks := B.notSynchronized
  subst hsz
  have hD := hD0.self (sz := s.heap.size)
  generalize hAe : va_A [(h0, .inr (1, [.ref r0, .ref r1, .ref r2, .ref r3, .int en])), (r0, .inl (dJ, 32, .inl f0)), (r1, .inl (dJ, 32, .inl f1)), (r2, .inl (dJ, 32, .inl f2)), (r3, .inl (dJ, 32, .inl f3)), (qi, .inl (dB, 8, .inl fi)), (qo, .inl (dB, 8, .inl fo))] s.heap.size = A at hD hE ⊢
  have hA : ∀ q : Nat, s.heap.size ≤ q → A q := fun q h => by rw [← hAe]; exact Or.inr h
  have hS : va_S A s.heap s.heap [] := va_S.rf
  have hP : va_P G vwCl [(h0, .inr (1, [.ref r0, .ref r1, .ref r2, .ref r3, .int en])), (r0, .inl (dJ, 32, .inl f0)), (r1, .inl (dJ, 32, .inl f1)), (r2, .inl (dJ, 32, .inl f2)), (r3, .inl (dJ, 32, .inl f3)), (qi, .inl (dB, 8, .inl fi)), (qo, .inl (dB, 8, .inl fo))] s.heap := hP
  have hl := lv_entry ([.ref h0, .ref qi, .int 0, .ref qo, .int 0]) (n := 5) (Nat.le_of_ble_eq_true rfl)
  rw [lg_entry_eq]
  generalize (lg_sl ([.ref h0, .ref qi, .int 0, .ref qo, .int 0]) ++ List.replicate (5 - (lg_sl ([.ref h0, .ref qi, .int 0, .ref qo, .int 0])).length) Slot.unset).toArray = ls at hl ⊢
  have hl : lv_has ls 5 [(0, .ref h0), (1, .ref qi), (2, .int 0), (3, .ref qo), (4, .int 0)] := hl
  refine lv_aload_n hx hb dX2_processBlock_0 rfl (lv_at hl 0 rfl) ?_
  refine va_get (D := G) (ci := 1) (v := .ref r1) (C := RX2) (T := TX2) (N := 5) hx hb hts in_X2 hown hK hP 0 rfl rfl 1 (by decide) (hts _ q38) (fun _ h9 => h9) rfl dX2_processBlock_1 ?_
  refine lv_ifnonnull (tgt := 17) hx hb dX2_processBlock_4 (by decide) ?_
  refine lv_iload_n hx hb dX2_processBlock_17 rfl (lv_at hl 2 rfl) ?_
  refine lv_bipush (v := 8) hx hb dX2_processBlock_18 (by decide) ?_
  refine lv_iadd hx hb dX2_processBlock_20 ?_
  refine lv_aload_n hx hb dX2_processBlock_21 rfl (lv_at hl 1 rfl) ?_
  refine va_alen (v := 8) hx hb hK hP 5 0 rfl rfl rfl dX2_processBlock_22 ?_
  refine lv_icmp_le (tgt := 36) hx hb dX2_processBlock_23 (by decide) (fun _ => ?_) (fun h9 => absurd (by decide) h9)
  refine lv_iload hx hb dX2_processBlock_36 (lv_at hl 4 rfl) ?_
  refine lv_bipush (v := 8) hx hb dX2_processBlock_38 (by decide) ?_
  refine lv_iadd hx hb dX2_processBlock_40 ?_
  refine lv_aload_n hx hb dX2_processBlock_41 rfl (lv_at hl 3 rfl) ?_
  refine va_alen (v := 8) hx hb hK hP 6 0 rfl rfl rfl dX2_processBlock_42 ?_
  refine lv_icmp_le (tgt := 56) hx hb dX2_processBlock_43 (by decide) (fun _ => ?_) (fun h9 => absurd (by decide) h9)
  refine lv_aload_n hx hb dX2_processBlock_56 rfl (lv_at hl 0 rfl) ?_
  refine va_get (D := G) (ci := 1) (v := .int en) (C := RX2) (T := TX2) (N := 5) hx hb hts in_X2 hown hK hP 0 rfl rfl 4 (by decide) (hts _ q41) (fun _ h9 => h9) rfl dX2_processBlock_57 ?_
  refine lv_if_eq (tgt := 76) hx hb dX2_processBlock_60 (by decide) (fun h9 => ?_) (fun h9 => ?_)
  · refine lv_aload_n hx hb dX2_processBlock_76 rfl (lv_at hl 0 rfl) ?_
    refine lv_aload_n hx hb dX2_processBlock_77 rfl (lv_at hl 1 rfl) ?_
    refine lv_iload_n hx hb dX2_processBlock_78 rfl (lv_at hl 2 rfl) ?_
    refine lv_aload_n hx hb dX2_processBlock_79 rfl (lv_at hl 3 rfl) ?_
    refine lv_iload hx hb dX2_processBlock_80 (lv_at hl 4 rfl) ?_
    refine sk_ci (va_runV (As := [.ref qi, .int 0, .ref qo, .int 0]) (rest := []) ⟨hx, hb, hml, hown, hts⟩ (met_decryptBlock l G dB dJ ft h0 r0 r1 r2 r3 qi qo en f0 f1 f2 f3 fi fo K hKy s.heap.size) (cwV 4 hts (lw_V q229 q230 q231 q6 q232) rfl rfl rfl (by decide +kernel) ⟨Nat.le_of_ble_eq_true rfl, Nat.le_of_ble_eq_true rfl⟩) ⟨sk_blind, va_recv hK hP (ci := 1) (q0 := 0) rfl rfl, sk_pre hP hD hK hE hS hA [.ref h0, .ref qi, .int 0, .ref qo, .int 0] [0, 1, 2, 3, 4, 5, 6] rfl (by decide)⟩ rfl rfl hl.1 rfl (lv_room (Nat.le_of_ble_eq_true rfl)) dX2_processBlock_82 ⟨Nat.le_of_ble_eq_true rfl, Nat.le_of_ble_eq_true rfl⟩) hP hD hS hA [0, 1, 2, 3, 4, 5, 6] [] [] rfl rfl (by decide) (by decide) (fun rz w1 H locs hrz hR hP hD hS => ?_)
    obtain ⟨fn, hfn, rfl⟩ := hR
    have hP : va_P G vwCl [(h0, .inr (1, [.ref r0, .ref r1, .ref r2, .ref r3, .int en])), (r0, .inl (dJ, 32, .inl f0)), (r1, .inl (dJ, 32, .inl f1)), (r2, .inl (dJ, 32, .inl f2)), (r3, .inl (dJ, 32, .inl f3)), (qi, .inl (dB, 8, .inl fi)), (qo, .inl (dB, 8, .inl fn))] H := hP
    have hD : va_D A [(h0, .inr (1, [.ref r0, .ref r1, .ref r2, .ref r3, .int en])), (r0, .inl (dJ, 32, .inl f0)), (r1, .inl (dJ, 32, .inl f1)), (r2, .inl (dJ, 32, .inl f2)), (r3, .inl (dJ, 32, .inl f3)), (qi, .inl (dB, 8, .inl fi)), (qo, .inl (dB, 8, .inl fn))] := hD
    refine lv_pop hx hb dX2_processBlock_85 rfl ?_
    refine lv_bipush (v := 8) hx hb dX2_processBlock_86 (by decide) ?_
    have hdo : sk_is fn (sk_do en K (sk_of fi)) := by rw [show sk_do en K (sk_of fi) = _ from if_pos h9]; exact hfn
    exact W.iret hx hb hr (fun t ht hW => ⟨⟨8, (), rfl, trivial, _, ⟨fn, hdo, rfl⟩, by rw [ht]; exact hP, hD⟩, hS.F ht⟩) hS.2.2 dX2_processBlock_88
  · refine lv_aload_n hx hb dX2_processBlock_63 rfl (lv_at hl 0 rfl) ?_
    refine lv_aload_n hx hb dX2_processBlock_64 rfl (lv_at hl 1 rfl) ?_
    refine lv_iload_n hx hb dX2_processBlock_65 rfl (lv_at hl 2 rfl) ?_
    refine lv_aload_n hx hb dX2_processBlock_66 rfl (lv_at hl 3 rfl) ?_
    refine lv_iload hx hb dX2_processBlock_67 (lv_at hl 4 rfl) ?_
    refine sk_ci (va_runV (As := [.ref qi, .int 0, .ref qo, .int 0]) (rest := []) ⟨hx, hb, hml, hown, hts⟩ (met_encryptBlock l G dB dJ ft h0 r0 r1 r2 r3 qi qo en f0 f1 f2 f3 fi fo K hKy s.heap.size) (cwV 4 hts (lw_V q219 q220 q221 q6 q222) rfl rfl rfl (by decide +kernel) ⟨Nat.le_of_ble_eq_true rfl, Nat.le_of_ble_eq_true rfl⟩) ⟨sk_blind, va_recv hK hP (ci := 1) (q0 := 0) rfl rfl, sk_pre hP hD hK hE hS hA [.ref h0, .ref qi, .int 0, .ref qo, .int 0] [0, 1, 2, 3, 4, 5, 6] rfl (by decide)⟩ rfl rfl hl.1 rfl (lv_room (Nat.le_of_ble_eq_true rfl)) dX2_processBlock_69 ⟨Nat.le_of_ble_eq_true rfl, Nat.le_of_ble_eq_true rfl⟩) hP hD hS hA [0, 1, 2, 3, 4, 5, 6] [] [] rfl rfl (by decide) (by decide) (fun rz w1 H locs hrz hR hP hD hS => ?_)
    obtain ⟨fn, hfn, rfl⟩ := hR
    have hP : va_P G vwCl [(h0, .inr (1, [.ref r0, .ref r1, .ref r2, .ref r3, .int en])), (r0, .inl (dJ, 32, .inl f0)), (r1, .inl (dJ, 32, .inl f1)), (r2, .inl (dJ, 32, .inl f2)), (r3, .inl (dJ, 32, .inl f3)), (qi, .inl (dB, 8, .inl fi)), (qo, .inl (dB, 8, .inl fn))] H := hP
    have hD : va_D A [(h0, .inr (1, [.ref r0, .ref r1, .ref r2, .ref r3, .int en])), (r0, .inl (dJ, 32, .inl f0)), (r1, .inl (dJ, 32, .inl f1)), (r2, .inl (dJ, 32, .inl f2)), (r3, .inl (dJ, 32, .inl f3)), (qi, .inl (dB, 8, .inl fi)), (qo, .inl (dB, 8, .inl fn))] := hD
    refine lv_pop hx hb dX2_processBlock_72 rfl ?_
    refine lv_goto (tgt := 86) hx hb dX2_processBlock_73 (by decide) ?_
    refine lv_bipush (v := 8) hx hb dX2_processBlock_86 (by decide) ?_
    have hdo : sk_is fn (sk_do en K (sk_of fi)) := by rw [show sk_do en K (sk_of fi) = _ from if_neg h9]; exact hfn
    exact W.iret hx hb hr (fun t ht hW => ⟨⟨8, (), rfl, trivial, _, ⟨fn, hdo, rfl⟩, by rw [ht]; exact hP, hD⟩, hS.F ht⟩) hS.2.2 dX2_processBlock_88
end
section
theorem lw_F {own : String} {idx : Nat} {C : String} {x y : MethodName} {b : ByteArray} {L : Nat} {r : Option FieldType} (h1 : Cond.methodLink own idx x ∈ lw_all) (h2 : Cond.selects C x y ∈ lw_all) (h3 : Cond.instanceMethod y ∈ lw_all) (h4 : Cond.initialized y.cls ∈ lw_all) (h5 : Cond.code y b L r ∈ lw_all) : GoodIn lw_all (va_wsF own idx C x y (ws_ y b L r)) := by
  refine lw_app ?_ (lw_meth h5)
  intro w hw
  simp only [List.mem_cons, List.not_mem_nil, or_false] at hw
  rcases hw with e | e | e | e
  · rw [e]; exact h1
  · rw [e]; exact h2
  · rw [e]; exact h3
  · rw [e]; exact h4
theorem sk_word4 {f a b c d : Nat → Int32} {p : Nat} {w : Int32} (e1 : a = upd f p (vp_nar .byte (w >>> ((24 : Int32) &&& 31)).toInt8.toInt32)) (e2 : b = upd a (p + 1) (vp_nar .byte (w >>> ((16 : Int32) &&& 31)).toInt8.toInt32)) (e3 : c = upd b (p + 2) (vp_nar .byte (w >>> ((8 : Int32) &&& 31)).toInt8.toInt32)) (e4 : d = upd c (p + 3) (vp_nar .byte w.toInt8.toInt32)) (i : Nat) :
    sk_by (d i) = if p ≤ i ∧ i < p + 4 then sk_wb w (i - p) else sk_by (f i) := by
  rw [sk_put e4, sk_put e3, sk_put e2, sk_put e1, sk_by_i8 w, sk_wb3 w, sk_by_i8 (w >>> ((8 : Int32) &&& 31)), sk_wb2 w, sk_by_i8 (w >>> ((16 : Int32) &&& 31)), sk_wb1 w, sk_by_i8 (w >>> ((24 : Int32) &&& 31)), sk_wb0 w]
  by_cases h3 : i = p + 3
  · rw [if_pos h3, if_pos (by omega), show i - p = 3 by omega]
  by_cases h2 : i = p + 2
  · rw [if_neg h3, if_pos h2, if_pos (by omega), show i - p = 2 by omega]
  by_cases h1 : i = p + 1
  · rw [if_neg h3, if_neg h2, if_pos h1, if_pos (by omega), show i - p = 1 by omega]
  by_cases h0 : i = p
  · rw [if_neg h3, if_neg h2, if_neg h1, if_pos h0, if_pos (by omega), show i - p = 0 by omega]
  · rw [if_neg h3, if_neg h2, if_neg h1, if_neg h0, if_neg (by omega)]
def sk_kb4 (a b c d : Int32) (j : Nat) : Nat := if j < 4 then sk_wb a j else if j < 8 then sk_wb b (j - 4) else if j < 12 then sk_wb c (j - 8) else sk_wb d (j - 12)
theorem sk_key16 {f k1 k2 k3 k4 : Nat → Int32} {p : Nat} {a b c d : Int32} (h1 : ∀ i, sk_by (k1 i) = if p ≤ i ∧ i < p + 4 then sk_wb a (i - p) else sk_by (f i)) (h2 : ∀ i, sk_by (k2 i) = if p + 4 ≤ i ∧ i < p + 4 + 4 then sk_wb b (i - (p + 4)) else sk_by (k1 i)) (h3 : ∀ i, sk_by (k3 i) = if p + 8 ≤ i ∧ i < p + 8 + 4 then sk_wb c (i - (p + 8)) else sk_by (k2 i)) (h4 : ∀ i, sk_by (k4 i) = if p + 12 ≤ i ∧ i < p + 12 + 4 then sk_wb d (i - (p + 12)) else sk_by (k3 i)) (i : Nat) :
    sk_by (k4 i) = if p ≤ i ∧ i < p + 16 then sk_kb4 a b c d (i - p) else sk_by (f i) := by
  rw [h4, h3, h2, h1]
  unfold sk_kb4
  by_cases c3 : p + 12 ≤ i ∧ i < p + 12 + 4
  · rw [if_pos c3, if_pos (by omega), if_neg (by omega), if_neg (by omega), if_neg (by omega), show i - (p + 12) = i - p - 12 by omega]
  by_cases c2 : p + 8 ≤ i ∧ i < p + 8 + 4
  · rw [if_neg c3, if_pos c2, if_pos (show p ≤ i ∧ i < p + 16 by omega), if_neg (by omega), if_neg (by omega), if_pos (by omega), show i - (p + 8) = i - p - 8 by omega]
  by_cases c1 : p + 4 ≤ i ∧ i < p + 4 + 4
  · rw [if_neg c3, if_neg c2, if_pos c1, if_pos (show p ≤ i ∧ i < p + 16 by omega), if_neg (by omega), if_pos (by omega), show i - (p + 4) = i - p - 4 by omega]
  by_cases c0 : p ≤ i ∧ i < p + 4
  · rw [if_neg c3, if_neg c2, if_neg c1, if_pos c0, if_pos (show p ≤ i ∧ i < p + 16 by omega), if_pos (by omega)]
  · rw [if_neg c3, if_neg c2, if_neg c1, if_neg c0, if_neg (show ¬ (p ≤ i ∧ i < p + 16) by omega)]
set_option maxHeartbeats 4000000 in
set_option maxRecDepth 100000 in
/-- word(to, at, w): four bytes, the highest first -/
theorem met_word (l : Launch) (G : va_G) (dB dJ : ClassId) (ft : Nat) (qt N pz : Nat) (w0 : Int32) (f : Nat → Int32) (hp : pz + 4 ≤ N) (hN : N ≤ 32) (sz : Nat) : Met l yX1_word (ws_ yX1_word cX1_word 3 none) ({ frames := 0, cells := 0, slots := 0, locals := 0 }) (sk_Pre G dB dJ ft [.ref qt, .int (nI pz), .int w0] sz [(qt, .inl (dB, N, .inl f))]) (sk_Qv G (va_A [(qt, .inl (dB, N, .inl f))] sz) (fun w => ∃ f1 : Nat → Int32, (∀ i, sk_by (f1 i) = if pz ≤ i ∧ i < pz + 4 then sk_wb w0 (i - pz) else sk_by (f i)) ∧ w = [(qt, .inl (dB, N, .inl f1))])) 0 0 (va_A [(qt, .inl (dB, N, .inl f))] sz) := by
  refine Met.ofW (cc := cX1_word) (maxL := 3) (ret := none) (by decide) rfl ?_
  intro p e s m args below meth c s₁ B hml hv
  obtain ⟨rfl, hsz, hP, hK, hD0, hE⟩ := hv
  have hx := B.exec
  have hb := B.bytes
  have hr := B.returns
  have hts := atoms_spec (ws := ws_ yX1_word cX1_word 3 none) B.pre
  have hts : ∀ w ∈ lw_all, w.before _ s = true := fun w h => hts w (List.mem_cons_of_mem _ h)
  have hown : s.vm.findClass RX1 = some m.cls := findClass_of_methodNamed B.named
  have hlocks := B.notSynchronized
  subst hsz
  have hD := hD0.self (sz := s.heap.size)
  generalize hAe : va_A [(qt, .inl (dB, N, .inl f))] s.heap.size = A at hD hE ⊢
  have hA : ∀ q : Nat, s.heap.size ≤ q → A q := fun q h => by rw [← hAe]; exact Or.inr h
  have hS : va_S A s.heap s.heap [] := va_S.rf
  have hP : va_P G vwCl [(qt, .inl (dB, N, .inl f))] s.heap := hP
  have hl := lv_entry ([.ref qt, .int (nI pz), .int w0]) (n := 3) (Nat.le_of_ble_eq_true rfl)
  rw [lg_entry_eq]
  generalize (lg_sl ([.ref qt, .int (nI pz), .int w0]) ++ List.replicate (3 - (lg_sl ([.ref qt, .int (nI pz), .int w0])).length) Slot.unset).toArray = ls at hl ⊢
  have hl : lv_has ls 3 [(0, .ref qt), (1, .int (nI pz)), (2, .int w0)] := hl
  refine lv_aload_n hx hb dX1_word_0 rfl (lv_at hl 0 rfl) ?_
  refine lv_iload_n hx hb dX1_word_1 rfl (lv_at hl 1 rfl) ?_
  refine lv_iload_n hx hb dX1_word_2 rfl (lv_at hl 2 rfl) ?_
  refine lv_bipush (v := 24) hx hb dX1_word_3 (by decide) ?_
  refine lv_ishr hx hb dX1_word_5 ?_
  refine lv_i2b hx hb dX1_word_6 rfl ?_
  refine sk_bst hx hb hK hP hD hS 0 rfl (j := pz) (by omega) (by omega) dX1_word_7 (fun g0 H locs e_g0 hP hD hS => ?_)
  have hP : va_P G vwCl [(qt, .inl (dB, N, .inl g0))] H := hP
  have hD : va_D A [(qt, .inl (dB, N, .inl g0))] := hD
  refine lv_aload_n hx hb dX1_word_8 rfl (lv_at hl 0 rfl) ?_
  refine lv_iload_n hx hb dX1_word_9 rfl (lv_at hl 1 rfl) ?_
  refine lv_iconst (v := 1) hx hb dX1_word_10 (by decide) ?_
  refine lv_iadd hx hb dX1_word_11 ?_
  refine sk_top (w := nI (pz + 1)) (nI_add pz 1) ?_
  refine lv_iload_n hx hb dX1_word_12 rfl (lv_at hl 2 rfl) ?_
  refine lv_bipush (v := 16) hx hb dX1_word_13 (by decide) ?_
  refine lv_ishr hx hb dX1_word_15 ?_
  refine lv_i2b hx hb dX1_word_16 rfl ?_
  refine sk_bst hx hb hK hP hD hS 0 rfl (j := pz + 1) (by omega) (by omega) dX1_word_17 (fun g1 H locs e_g1 hP hD hS => ?_)
  have hP : va_P G vwCl [(qt, .inl (dB, N, .inl g1))] H := hP
  have hD : va_D A [(qt, .inl (dB, N, .inl g1))] := hD
  refine lv_aload_n hx hb dX1_word_18 rfl (lv_at hl 0 rfl) ?_
  refine lv_iload_n hx hb dX1_word_19 rfl (lv_at hl 1 rfl) ?_
  refine lv_iconst (v := 2) hx hb dX1_word_20 (by decide) ?_
  refine lv_iadd hx hb dX1_word_21 ?_
  refine sk_top (w := nI (pz + 2)) (nI_add pz 2) ?_
  refine lv_iload_n hx hb dX1_word_22 rfl (lv_at hl 2 rfl) ?_
  refine lv_bipush (v := 8) hx hb dX1_word_23 (by decide) ?_
  refine lv_ishr hx hb dX1_word_25 ?_
  refine lv_i2b hx hb dX1_word_26 rfl ?_
  refine sk_bst hx hb hK hP hD hS 0 rfl (j := pz + 2) (by omega) (by omega) dX1_word_27 (fun g2 H locs e_g2 hP hD hS => ?_)
  have hP : va_P G vwCl [(qt, .inl (dB, N, .inl g2))] H := hP
  have hD : va_D A [(qt, .inl (dB, N, .inl g2))] := hD
  refine lv_aload_n hx hb dX1_word_28 rfl (lv_at hl 0 rfl) ?_
  refine lv_iload_n hx hb dX1_word_29 rfl (lv_at hl 1 rfl) ?_
  refine lv_iconst (v := 3) hx hb dX1_word_30 (by decide) ?_
  refine lv_iadd hx hb dX1_word_31 ?_
  refine sk_top (w := nI (pz + 3)) (nI_add pz 3) ?_
  refine lv_iload_n hx hb dX1_word_32 rfl (lv_at hl 2 rfl) ?_
  refine lv_i2b hx hb dX1_word_33 rfl ?_
  refine sk_bst hx hb hK hP hD hS 0 rfl (j := pz + 3) (by omega) (by omega) dX1_word_34 (fun g3 H locs e_g3 hP hD hS => ?_)
  have hP : va_P G vwCl [(qt, .inl (dB, N, .inl g3))] H := hP
  have hD : va_D A [(qt, .inl (dB, N, .inl g3))] := hD
  have hw := sk_word4 (w := w0) e_g0 e_g1 e_g2 e_g3
  exact W.vret hx hb hr (fun t ht hW => ⟨⟨(), rfl, trivial, _, ⟨g3, hw, rfl⟩, by rw [ht]; exact hP, hD⟩, hS.F ht⟩) hS.2.2 dX1_word_35
set_option maxHeartbeats 4000000 in
set_option maxRecDepth 100000 in
/-- key(half, a, b, c, d) -/
theorem met_key (l : Launch) (G : va_G) (dB dJ : ClassId) (ft : Nat) (h0 qk qb qo : Nat) (fk fb fo : Nat → Int32) (hf : Nat) (h2 : hf < 2) (va vb vc vd : Int32) (sz : Nat) : Met l yX1_key (ws_ yX1_key cX1_key 7 none) ({ frames := 1, cells := 0, slots := 0, locals := 30 }) (sk_Pre G dB dJ ft [.ref h0, .int (nI hf), .int va, .int vb, .int vc, .int vd] sz [(h0, .inr (0, [.ref qk, .ref qb, .ref qo])), (qk, .inl (dB, 32, .inl fk)), (qb, .inl (dB, 8, .inl fb)), (qo, .inl (dB, 8, .inl fo))]) (sk_Qv G (va_A [(h0, .inr (0, [.ref qk, .ref qb, .ref qo])), (qk, .inl (dB, 32, .inl fk)), (qb, .inl (dB, 8, .inl fb)), (qo, .inl (dB, 8, .inl fo))] sz) (fun w => ∃ k4 : Nat → Int32, (∀ i, sk_by (k4 i) = if 16 * hf ≤ i ∧ i < 16 * hf + 16 then sk_kb4 va vb vc vd (i - 16 * hf) else sk_by (fk i)) ∧ w = [(h0, .inr (0, [.ref qk, .ref qb, .ref qo])), (qb, .inl (dB, 8, .inl fb)), (qo, .inl (dB, 8, .inl fo)), (qk, .inl (dB, 32, .inl k4))])) 0 0 (va_A [(h0, .inr (0, [.ref qk, .ref qb, .ref qo])), (qk, .inl (dB, 32, .inl fk)), (qb, .inl (dB, 8, .inl fb)), (qo, .inl (dB, 8, .inl fo))] sz) := by
  refine Met.ofW (cc := cX1_key) (maxL := 7) (ret := none) (by decide) rfl ?_
  intro p e s m args below meth c s₁ B hml hv
  obtain ⟨rfl, hsz, hP, hK, hD0, hE⟩ := hv
  have hx := B.exec
  have hb := B.bytes
  have hr := B.returns
  have hts := atoms_spec (ws := ws_ yX1_key cX1_key 7 none) B.pre
  have hts : ∀ w ∈ lw_all, w.before _ s = true := fun w h => hts w (List.mem_cons_of_mem _ h)
  have hown : s.vm.findClass RX1 = some m.cls := findClass_of_methodNamed B.named
  have hlocks := B.notSynchronized
  subst hsz
  have hD := hD0.self (sz := s.heap.size)
  generalize hAe : va_A [(h0, .inr (0, [.ref qk, .ref qb, .ref qo])), (qk, .inl (dB, 32, .inl fk)), (qb, .inl (dB, 8, .inl fb)), (qo, .inl (dB, 8, .inl fo))] s.heap.size = A at hD hE ⊢
  have hA : ∀ q : Nat, s.heap.size ≤ q → A q := fun q h => by rw [← hAe]; exact Or.inr h
  have hS : va_S A s.heap s.heap [] := va_S.rf
  have hP : va_P G vwCl [(h0, .inr (0, [.ref qk, .ref qb, .ref qo])), (qk, .inl (dB, 32, .inl fk)), (qb, .inl (dB, 8, .inl fb)), (qo, .inl (dB, 8, .inl fo))] s.heap := hP
  have hl := lv_entry ([.ref h0, .int (nI hf), .int va, .int vb, .int vc, .int vd]) (n := 7) (Nat.le_of_ble_eq_true rfl)
  rw [lg_entry_eq]
  generalize (lg_sl ([.ref h0, .int (nI hf), .int va, .int vb, .int vc, .int vd]) ++ List.replicate (7 - (lg_sl ([.ref h0, .int (nI hf), .int va, .int vb, .int vc, .int vd])).length) Slot.unset).toArray = ls at hl ⊢
  have hl : lv_has ls 7 [(0, .ref h0), (1, .int (nI hf)), (2, .int va), (3, .int vb), (4, .int vc), (5, .int vd)] := hl
  have hf01 : hf = 0 ∨ hf = 1 := by omega
  refine lv_iload_n hx hb dX1_key_0 rfl (lv_at hl 1 rfl) ?_
  refine lv_iconst (v := 1) hx hb dX1_key_1 (by decide) ?_
  refine lv_iand hx hb dX1_key_2 ?_
  refine sk_top (w := nI hf) (by rcases hf01 with h | h <;> rw [h] <;> decide) ?_
  refine lv_iconst (v := 4) hx hb dX1_key_3 (by decide) ?_
  refine lv_ishl hx hb dX1_key_4 ?_
  refine sk_top (w := nI (16 * hf)) (by rcases hf01 with h | h <;> rw [h] <;> decide) ?_
  refine lv_istore (lv' := [(6, .int (nI (16 * hf))), (0, .ref h0), (1, .int (nI hf)), (2, .int va), (3, .int vb), (4, .int vc), (5, .int vd)]) hx hb dX1_key_5 hl (by decide) rfl (fun ls hl => ?_)
  refine lv_aload_n hx hb dX1_key_7 rfl (lv_at hl 1 rfl) ?_
  refine va_get (D := G) (ci := 0) (v := .ref qk) (C := RX1) (T := TX1) (N := 3) hx hb hts in_X1 hown hK hP 0 rfl rfl 0 (by decide) (hts _ q253) (fun _ h9 => h9) rfl dX1_key_8 ?_
  refine lv_iload hx hb dX1_key_11 (lv_at hl 0 rfl) ?_
  refine lv_iload_n hx hb dX1_key_13 rfl (lv_at hl 3 rfl) ?_
  refine sk_cv (va_runS (As := [.ref qk, .int (nI (16 * hf)), .int va]) (rest := []) ⟨hx, hb, hml, hown, hts⟩ (met_word l G dB dJ ft qk 32 (16 * hf) va fk (by omega) (by decide) s.heap.size) (va_cwS 3 hts (lw_S q270 q271 q5 q272) rfl rfl rfl (by decide +kernel) ⟨Nat.le_of_ble_eq_true rfl, Nat.le_of_ble_eq_true rfl⟩) ⟨sk_blind, sk_pre hP hD hK hE hS hA [.ref qk, .int (nI (16 * hf)), .int va] [1] rfl (by decide)⟩ rfl rfl hl.1 rfl (lv_room (Nat.le_of_ble_eq_true rfl)) dX1_key_14 ⟨Nat.le_of_ble_eq_true rfl, Nat.le_of_ble_eq_true rfl⟩) hP hD hS hA [1] [0, 2, 3] [(h0, .inr (0, [.ref qk, .ref qb, .ref qo])), (qb, .inl (dB, 8, .inl fb)), (qo, .inl (dB, 8, .inl fo))] rfl rfl (by decide) (by decide) (fun w1 H locs hR hP hD hS => ?_)
  obtain ⟨k1, hw1, rfl⟩ := hR
  have hP : va_P G vwCl [(h0, .inr (0, [.ref qk, .ref qb, .ref qo])), (qb, .inl (dB, 8, .inl fb)), (qo, .inl (dB, 8, .inl fo)), (qk, .inl (dB, 32, .inl k1))] H := hP
  have hD : va_D A [(h0, .inr (0, [.ref qk, .ref qb, .ref qo])), (qb, .inl (dB, 8, .inl fb)), (qo, .inl (dB, 8, .inl fo)), (qk, .inl (dB, 32, .inl k1))] := hD
  refine lv_aload_n hx hb dX1_key_17 rfl (lv_at hl 1 rfl) ?_
  refine va_get (D := G) (ci := 0) (v := .ref qk) (C := RX1) (T := TX1) (N := 3) hx hb hts in_X1 hown hK hP 0 rfl rfl 0 (by decide) (hts _ q253) (fun _ h9 => h9) rfl dX1_key_18 ?_
  refine lv_iload hx hb dX1_key_21 (lv_at hl 0 rfl) ?_
  refine lv_iconst (v := 4) hx hb dX1_key_23 (by decide) ?_
  refine lv_iadd hx hb dX1_key_24 ?_
  refine sk_top (w := nI (16 * hf + 4)) (nI_add (16 * hf) 4) ?_
  refine lv_iload_n hx hb dX1_key_25 rfl (lv_at hl 4 rfl) ?_
  refine sk_cv (va_runS (As := [.ref qk, .int (nI (16 * hf + 4)), .int vb]) (rest := []) ⟨hx, hb, hml, hown, hts⟩ (met_word l G dB dJ ft qk 32 (16 * hf + 4) vb k1 (by omega) (by decide) H.size) (va_cwS 3 hts (lw_S q270 q271 q5 q272) rfl rfl rfl (by decide +kernel) ⟨Nat.le_of_ble_eq_true rfl, Nat.le_of_ble_eq_true rfl⟩) ⟨sk_blind, sk_pre hP hD hK hE hS hA [.ref qk, .int (nI (16 * hf + 4)), .int vb] [3] rfl (by decide)⟩ rfl rfl hl.1 rfl (lv_room (Nat.le_of_ble_eq_true rfl)) dX1_key_26 ⟨Nat.le_of_ble_eq_true rfl, Nat.le_of_ble_eq_true rfl⟩) hP hD hS hA [3] [0, 1, 2] [(h0, .inr (0, [.ref qk, .ref qb, .ref qo])), (qb, .inl (dB, 8, .inl fb)), (qo, .inl (dB, 8, .inl fo))] rfl rfl (by decide) (by decide) (fun w1 H locs hR hP hD hS => ?_)
  obtain ⟨k2, hw2, rfl⟩ := hR
  have hP : va_P G vwCl [(h0, .inr (0, [.ref qk, .ref qb, .ref qo])), (qb, .inl (dB, 8, .inl fb)), (qo, .inl (dB, 8, .inl fo)), (qk, .inl (dB, 32, .inl k2))] H := hP
  have hD : va_D A [(h0, .inr (0, [.ref qk, .ref qb, .ref qo])), (qb, .inl (dB, 8, .inl fb)), (qo, .inl (dB, 8, .inl fo)), (qk, .inl (dB, 32, .inl k2))] := hD
  refine lv_aload_n hx hb dX1_key_29 rfl (lv_at hl 1 rfl) ?_
  refine va_get (D := G) (ci := 0) (v := .ref qk) (C := RX1) (T := TX1) (N := 3) hx hb hts in_X1 hown hK hP 0 rfl rfl 0 (by decide) (hts _ q253) (fun _ h9 => h9) rfl dX1_key_30 ?_
  refine lv_iload hx hb dX1_key_33 (lv_at hl 0 rfl) ?_
  refine lv_bipush (v := 8) hx hb dX1_key_35 (by decide) ?_
  refine lv_iadd hx hb dX1_key_37 ?_
  refine sk_top (w := nI (16 * hf + 8)) (nI_add (16 * hf) 8) ?_
  refine lv_iload hx hb dX1_key_38 (lv_at hl 5 rfl) ?_
  refine sk_cv (va_runS (As := [.ref qk, .int (nI (16 * hf + 8)), .int vc]) (rest := []) ⟨hx, hb, hml, hown, hts⟩ (met_word l G dB dJ ft qk 32 (16 * hf + 8) vc k2 (by omega) (by decide) H.size) (va_cwS 3 hts (lw_S q270 q271 q5 q272) rfl rfl rfl (by decide +kernel) ⟨Nat.le_of_ble_eq_true rfl, Nat.le_of_ble_eq_true rfl⟩) ⟨sk_blind, sk_pre hP hD hK hE hS hA [.ref qk, .int (nI (16 * hf + 8)), .int vc] [3] rfl (by decide)⟩ rfl rfl hl.1 rfl (lv_room (Nat.le_of_ble_eq_true rfl)) dX1_key_40 ⟨Nat.le_of_ble_eq_true rfl, Nat.le_of_ble_eq_true rfl⟩) hP hD hS hA [3] [0, 1, 2] [(h0, .inr (0, [.ref qk, .ref qb, .ref qo])), (qb, .inl (dB, 8, .inl fb)), (qo, .inl (dB, 8, .inl fo))] rfl rfl (by decide) (by decide) (fun w1 H locs hR hP hD hS => ?_)
  obtain ⟨k3, hw3, rfl⟩ := hR
  have hP : va_P G vwCl [(h0, .inr (0, [.ref qk, .ref qb, .ref qo])), (qb, .inl (dB, 8, .inl fb)), (qo, .inl (dB, 8, .inl fo)), (qk, .inl (dB, 32, .inl k3))] H := hP
  have hD : va_D A [(h0, .inr (0, [.ref qk, .ref qb, .ref qo])), (qb, .inl (dB, 8, .inl fb)), (qo, .inl (dB, 8, .inl fo)), (qk, .inl (dB, 32, .inl k3))] := hD
  refine lv_aload_n hx hb dX1_key_43 rfl (lv_at hl 1 rfl) ?_
  refine va_get (D := G) (ci := 0) (v := .ref qk) (C := RX1) (T := TX1) (N := 3) hx hb hts in_X1 hown hK hP 0 rfl rfl 0 (by decide) (hts _ q253) (fun _ h9 => h9) rfl dX1_key_44 ?_
  refine lv_iload hx hb dX1_key_47 (lv_at hl 0 rfl) ?_
  refine lv_bipush (v := 12) hx hb dX1_key_49 (by decide) ?_
  refine lv_iadd hx hb dX1_key_51 ?_
  refine sk_top (w := nI (16 * hf + 12)) (nI_add (16 * hf) 12) ?_
  refine lv_iload hx hb dX1_key_52 (lv_at hl 6 rfl) ?_
  refine sk_cv (va_runS (As := [.ref qk, .int (nI (16 * hf + 12)), .int vd]) (rest := []) ⟨hx, hb, hml, hown, hts⟩ (met_word l G dB dJ ft qk 32 (16 * hf + 12) vd k3 (by omega) (by decide) H.size) (va_cwS 3 hts (lw_S q270 q271 q5 q272) rfl rfl rfl (by decide +kernel) ⟨Nat.le_of_ble_eq_true rfl, Nat.le_of_ble_eq_true rfl⟩) ⟨sk_blind, sk_pre hP hD hK hE hS hA [.ref qk, .int (nI (16 * hf + 12)), .int vd] [3] rfl (by decide)⟩ rfl rfl hl.1 rfl (lv_room (Nat.le_of_ble_eq_true rfl)) dX1_key_54 ⟨Nat.le_of_ble_eq_true rfl, Nat.le_of_ble_eq_true rfl⟩) hP hD hS hA [3] [0, 1, 2] [(h0, .inr (0, [.ref qk, .ref qb, .ref qo])), (qb, .inl (dB, 8, .inl fb)), (qo, .inl (dB, 8, .inl fo))] rfl rfl (by decide) (by decide) (fun w1 H locs hR hP hD hS => ?_)
  obtain ⟨k4, hw4, rfl⟩ := hR
  have hP : va_P G vwCl [(h0, .inr (0, [.ref qk, .ref qb, .ref qo])), (qb, .inl (dB, 8, .inl fb)), (qo, .inl (dB, 8, .inl fo)), (qk, .inl (dB, 32, .inl k4))] H := hP
  have hD : va_D A [(h0, .inr (0, [.ref qk, .ref qb, .ref qo])), (qb, .inl (dB, 8, .inl fb)), (qo, .inl (dB, 8, .inl fo)), (qk, .inl (dB, 32, .inl k4))] := hD
  have hk4 := sk_key16 (p := 16 * hf) hw1 hw2 hw3 hw4
  exact W.vret hx hb hr (fun t ht hW => ⟨⟨(), rfl, trivial, _, ⟨k4, hk4, rfl⟩, by rw [ht]; exact hP, hD⟩, hS.F ht⟩) hS.2.2 dX1_key_57
set_option maxHeartbeats 4000000 in
set_option maxRecDepth 100000 in
/-- block(a, b) -/
theorem met_block (l : Launch) (G : va_G) (dB dJ : ClassId) (ft : Nat) (h0 qk qb qo : Nat) (fk fb fo : Nat → Int32) (a b : Int32) (sz : Nat) : Met l yX1_block (ws_ yX1_block cX1_block 3 none) ({ frames := 1, cells := 0, slots := 0, locals := 30 }) (sk_Pre G dB dJ ft [.ref h0, .int a, .int b] sz [(h0, .inr (0, [.ref qk, .ref qb, .ref qo])), (qk, .inl (dB, 32, .inl fk)), (qb, .inl (dB, 8, .inl fb)), (qo, .inl (dB, 8, .inl fo))]) (sk_Qv G (va_A [(h0, .inr (0, [.ref qk, .ref qb, .ref qo])), (qk, .inl (dB, 32, .inl fk)), (qb, .inl (dB, 8, .inl fb)), (qo, .inl (dB, 8, .inl fo))] sz) (fun w => ∃ b2 : Nat → Int32, (∀ i, sk_by (b2 i) = if 4 ≤ i ∧ i < 8 then sk_wb b (i - 4) else if 0 ≤ i ∧ i < 4 then sk_wb a (i - 0) else sk_by (fb i)) ∧ w = [(h0, .inr (0, [.ref qk, .ref qb, .ref qo])), (qk, .inl (dB, 32, .inl fk)), (qo, .inl (dB, 8, .inl fo)), (qb, .inl (dB, 8, .inl b2))])) 0 0 (va_A [(h0, .inr (0, [.ref qk, .ref qb, .ref qo])), (qk, .inl (dB, 32, .inl fk)), (qb, .inl (dB, 8, .inl fb)), (qo, .inl (dB, 8, .inl fo))] sz) := by
  refine Met.ofW (cc := cX1_block) (maxL := 3) (ret := none) (by decide) rfl ?_
  intro p e s m args below meth c s₁ B hml hv
  obtain ⟨rfl, hsz, hP, hK, hD0, hE⟩ := hv
  have hx := B.exec
  have hb := B.bytes
  have hr := B.returns
  have hts := atoms_spec (ws := ws_ yX1_block cX1_block 3 none) B.pre
  have hts : ∀ w ∈ lw_all, w.before _ s = true := fun w h => hts w (List.mem_cons_of_mem _ h)
  have hown : s.vm.findClass RX1 = some m.cls := findClass_of_methodNamed B.named
  have hlocks := B.notSynchronized
  subst hsz
  have hD := hD0.self (sz := s.heap.size)
  generalize hAe : va_A [(h0, .inr (0, [.ref qk, .ref qb, .ref qo])), (qk, .inl (dB, 32, .inl fk)), (qb, .inl (dB, 8, .inl fb)), (qo, .inl (dB, 8, .inl fo))] s.heap.size = A at hD hE ⊢
  have hA : ∀ q : Nat, s.heap.size ≤ q → A q := fun q h => by rw [← hAe]; exact Or.inr h
  have hS : va_S A s.heap s.heap [] := va_S.rf
  have hP : va_P G vwCl [(h0, .inr (0, [.ref qk, .ref qb, .ref qo])), (qk, .inl (dB, 32, .inl fk)), (qb, .inl (dB, 8, .inl fb)), (qo, .inl (dB, 8, .inl fo))] s.heap := hP
  have hl := lv_entry ([.ref h0, .int a, .int b]) (n := 3) (Nat.le_of_ble_eq_true rfl)
  rw [lg_entry_eq]
  generalize (lg_sl ([.ref h0, .int a, .int b]) ++ List.replicate (3 - (lg_sl ([.ref h0, .int a, .int b])).length) Slot.unset).toArray = ls at hl ⊢
  have hl : lv_has ls 3 [(0, .ref h0), (1, .int a), (2, .int b)] := hl
  refine lv_aload_n hx hb dX1_block_0 rfl (lv_at hl 0 rfl) ?_
  refine va_get (D := G) (ci := 0) (v := .ref qb) (C := RX1) (T := TX1) (N := 3) hx hb hts in_X1 hown hK hP 0 rfl rfl 1 (by decide) (hts _ q254) (fun _ h9 => h9) rfl dX1_block_1 ?_
  refine lv_iconst (v := 0) hx hb dX1_block_4 (by decide) ?_
  refine sk_top (w := nI 0) (rfl) ?_
  refine lv_iload_n hx hb dX1_block_5 rfl (lv_at hl 1 rfl) ?_
  refine sk_cv (va_runS (As := [.ref qb, .int (nI 0), .int a]) (rest := []) ⟨hx, hb, hml, hown, hts⟩ (met_word l G dB dJ ft qb 8 0 a fb (by decide) (by decide) s.heap.size) (va_cwS 3 hts (lw_S q270 q271 q5 q272) rfl rfl rfl (by decide +kernel) ⟨Nat.le_of_ble_eq_true rfl, Nat.le_of_ble_eq_true rfl⟩) ⟨sk_blind, sk_pre hP hD hK hE hS hA [.ref qb, .int (nI 0), .int a] [2] rfl (by decide)⟩ rfl rfl hl.1 rfl (lv_room (Nat.le_of_ble_eq_true rfl)) dX1_block_6 ⟨Nat.le_of_ble_eq_true rfl, Nat.le_of_ble_eq_true rfl⟩) hP hD hS hA [2] [0, 1, 3] [(h0, .inr (0, [.ref qk, .ref qb, .ref qo])), (qk, .inl (dB, 32, .inl fk)), (qo, .inl (dB, 8, .inl fo))] rfl rfl (by decide) (by decide) (fun w1 H locs hR hP hD hS => ?_)
  obtain ⟨b1, hw1, rfl⟩ := hR
  have hP : va_P G vwCl [(h0, .inr (0, [.ref qk, .ref qb, .ref qo])), (qk, .inl (dB, 32, .inl fk)), (qo, .inl (dB, 8, .inl fo)), (qb, .inl (dB, 8, .inl b1))] H := hP
  have hD : va_D A [(h0, .inr (0, [.ref qk, .ref qb, .ref qo])), (qk, .inl (dB, 32, .inl fk)), (qo, .inl (dB, 8, .inl fo)), (qb, .inl (dB, 8, .inl b1))] := hD
  refine lv_aload_n hx hb dX1_block_9 rfl (lv_at hl 0 rfl) ?_
  refine va_get (D := G) (ci := 0) (v := .ref qb) (C := RX1) (T := TX1) (N := 3) hx hb hts in_X1 hown hK hP 0 rfl rfl 1 (by decide) (hts _ q254) (fun _ h9 => h9) rfl dX1_block_10 ?_
  refine lv_iconst (v := 4) hx hb dX1_block_13 (by decide) ?_
  refine sk_top (w := nI 4) (rfl) ?_
  refine lv_iload_n hx hb dX1_block_14 rfl (lv_at hl 2 rfl) ?_
  refine sk_cv (va_runS (As := [.ref qb, .int (nI 4), .int b]) (rest := []) ⟨hx, hb, hml, hown, hts⟩ (met_word l G dB dJ ft qb 8 4 b b1 (by decide) (by decide) H.size) (va_cwS 3 hts (lw_S q270 q271 q5 q272) rfl rfl rfl (by decide +kernel) ⟨Nat.le_of_ble_eq_true rfl, Nat.le_of_ble_eq_true rfl⟩) ⟨sk_blind, sk_pre hP hD hK hE hS hA [.ref qb, .int (nI 4), .int b] [3] rfl (by decide)⟩ rfl rfl hl.1 rfl (lv_room (Nat.le_of_ble_eq_true rfl)) dX1_block_15 ⟨Nat.le_of_ble_eq_true rfl, Nat.le_of_ble_eq_true rfl⟩) hP hD hS hA [3] [0, 1, 2] [(h0, .inr (0, [.ref qk, .ref qb, .ref qo])), (qk, .inl (dB, 32, .inl fk)), (qo, .inl (dB, 8, .inl fo))] rfl rfl (by decide) (by decide) (fun w1 H locs hR hP hD hS => ?_)
  obtain ⟨b2, hw2, rfl⟩ := hR
  have hP : va_P G vwCl [(h0, .inr (0, [.ref qk, .ref qb, .ref qo])), (qk, .inl (dB, 32, .inl fk)), (qo, .inl (dB, 8, .inl fo)), (qb, .inl (dB, 8, .inl b2))] H := hP
  have hD : va_D A [(h0, .inr (0, [.ref qk, .ref qb, .ref qo])), (qk, .inl (dB, 32, .inl fk)), (qo, .inl (dB, 8, .inl fo)), (qb, .inl (dB, 8, .inl b2))] := hD
  have hb2 : ∀ i, sk_by (b2 i) = if 4 ≤ i ∧ i < 8 then sk_wb b (i - 4) else if 0 ≤ i ∧ i < 4 then sk_wb a (i - 0) else sk_by (fb i) := fun i => by rw [hw2, hw1]
  exact W.vret hx hb hr (fun t ht hW => ⟨⟨(), rfl, trivial, _, ⟨b2, hb2, rfl⟩, by rw [ht]; exact hP, hD⟩, hS.F ht⟩) hS.2.2 dX1_block_18
set_option maxHeartbeats 4000000 in
set_option maxRecDepth 100000 in
/-- size(kind): 10 -/
theorem met_size (l : Launch) (G : va_G) (dB dJ : ClassId) (ft : Nat) (v : Int32) : Met l yX1_size (ws_ yX1_size cX1_size 1 (some .int)) ({ frames := 0, cells := 0, slots := 0, locals := 0 }) (sk_PreR G dB dJ ft [.int v] []) (vp_Si (fun r => r = 10)) 0 0 (fun _ => False) := by
  refine Met.ofW (cc := cX1_size) (maxL := 1) (ret := (some .int)) (by decide) rfl ?_
  intro p e s m args below meth c s₁ B hml hv
  obtain ⟨rfl, hP, hK, hE⟩ := hv
  have hx := B.exec
  have hb := B.bytes
  have hr := B.returns
  have hts := atoms_spec (ws := ws_ yX1_size cX1_size 1 (some .int)) B.pre
  have hts : ∀ w ∈ lw_all, w.before _ s = true := fun w h => hts w (List.mem_cons_of_mem _ h)
  have hown : s.vm.findClass RX1 = some m.cls := findClass_of_methodNamed B.named
  have hlocks := B.notSynchronized
  have hS : va_S (fun _ => False) s.heap s.heap [] := va_S.rf
  have hP : va_P G vwCl [] s.heap := hP
  have hl := lv_entry ([.int v]) (n := 1) (Nat.le_of_ble_eq_true rfl)
  rw [lg_entry_eq]
  generalize (lg_sl ([.int v]) ++ List.replicate (1 - (lg_sl ([.int v])).length) Slot.unset).toArray = ls at hl ⊢
  have hl : lv_has ls 1 [(0, .int v)] := hl
  refine lv_bipush (v := 10) hx hb dX1_size_0 (by decide) ?_
  exact W.iret hx hb hr (fun t ht hW => ⟨_, rfl, rfl, ht⟩) (fun _ h => by cases h) dX1_size_2
set_option maxHeartbeats 4000000 in
set_option maxRecDepth 100000 in
/-- out(at) -/
theorem met_out (l : Launch) (G : va_G) (dB dJ : ClassId) (ft : Nat) (h0 qk qb qo : Nat) (fk fb fo : Nat → Int32) (i : Nat) (hi : i < 8) : Met l yX1_out (ws_ yX1_out cX1_out 2 (some .int)) ({ frames := 0, cells := 0, slots := 0, locals := 0 }) (sk_PreR G dB dJ ft [.ref h0, .int (nI i)] [(h0, .inr (0, [.ref qk, .ref qb, .ref qo])), (qk, .inl (dB, 32, .inl fk)), (qb, .inl (dB, 8, .inl fb)), (qo, .inl (dB, 8, .inl fo))]) (vp_Si (fun r => r = nI (sk_by (fo i)))) 0 0 (fun _ => False) := by
  refine Met.ofW (cc := cX1_out) (maxL := 2) (ret := (some .int)) (by decide) rfl ?_
  intro p e s m args below meth c s₁ B hml hv
  obtain ⟨rfl, hP, hK, hE⟩ := hv
  have hx := B.exec
  have hb := B.bytes
  have hr := B.returns
  have hts := atoms_spec (ws := ws_ yX1_out cX1_out 2 (some .int)) B.pre
  have hts : ∀ w ∈ lw_all, w.before _ s = true := fun w h => hts w (List.mem_cons_of_mem _ h)
  have hown : s.vm.findClass RX1 = some m.cls := findClass_of_methodNamed B.named
  have hlocks := B.notSynchronized
  have hS : va_S (fun _ => False) s.heap s.heap [] := va_S.rf
  have hP : va_P G vwCl [(h0, .inr (0, [.ref qk, .ref qb, .ref qo])), (qk, .inl (dB, 32, .inl fk)), (qb, .inl (dB, 8, .inl fb)), (qo, .inl (dB, 8, .inl fo))] s.heap := hP
  have hl := lv_entry ([.ref h0, .int (nI i)]) (n := 2) (Nat.le_of_ble_eq_true rfl)
  rw [lg_entry_eq]
  generalize (lg_sl ([.ref h0, .int (nI i)]) ++ List.replicate (2 - (lg_sl ([.ref h0, .int (nI i)])).length) Slot.unset).toArray = ls at hl ⊢
  have hl : lv_has ls 2 [(0, .ref h0), (1, .int (nI i))] := hl
  refine lv_aload_n hx hb dX1_out_0 rfl (lv_at hl 0 rfl) ?_
  refine va_get (D := G) (ci := 0) (v := .ref qo) (C := RX1) (T := TX1) (N := 3) hx hb hts in_X1 hown hK hP 0 rfl rfl 2 (by decide) (hts _ q255) (fun _ h9 => h9) rfl dX1_out_1 ?_
  refine lv_iload_n hx hb dX1_out_4 rfl (lv_at hl 1 rfl) ?_
  refine lv_bipush (v := 7) hx hb dX1_out_5 (by decide) ?_
  refine lv_iand hx hb dX1_out_7 ?_
  refine sk_top (w := nI i) (by rw [pk_andN (by omega) 3 (by decide), Nat.mod_eq_of_lt (show i < 2 ^ 3 from hi)]) ?_
  refine sk_bld hx hb hK hP 3 rfl (j := i) (hi) (Nat.le_of_ble_eq_true rfl) dX1_out_8 ?_
  refine lv_sipush (v := 255) hx hb dX1_out_9 (by decide) ?_
  refine lv_iand hx hb dX1_out_12 ?_
  refine sk_top (w := nI (sk_by (fo i))) (sk_and8 _) ?_
  exact W.iret hx hb hr (fun t ht hW => ⟨_, rfl, rfl, ht⟩) (fun _ h => by cases h) dX1_out_13
set_option maxHeartbeats 4000000 in
set_option maxRecDepth 100000 in
theorem again_loop {p : Program} {e : Env} {s : State} {m : MethodId} {args : Array Value} {below : List Frame} {meth : Method} {c : Code} {A : Nat → Prop} {Q : State → Prop} (l : Launch) (G : va_G) (dB dJ : ClassId) (ft : Nat) (h0 qk qb qo : Nat) (fk fb fo : Nat → Int32) (hx : p.tables.exec = Jvm.exec) (hb : c.code = cX1_again) (hown : s.vm.findClass RX1 = some m.cls) (hts : ∀ w ∈ lw_all, w.before args s = true) (hK : va_K G vwCl (sk_ty dB dJ) s)
    (kk : ∀ (H : Heap) (locs : List Loc) (g : Nat → Int32) (ls : Array Slot), va_P G vwCl [(h0, .inr (0, [.ref qk, .ref qb, .ref qo])), (qk, .inl (dB, 32, .inl fk)), (qb, .inl (dB, 8, .inl g)), (qo, .inl (dB, 8, .inl fo))] H → va_D A [(h0, .inr (0, [.ref qk, .ref qb, .ref qo])), (qk, .inl (dB, 32, .inl fk)), (qb, .inl (dB, 8, .inl g)), (qo, .inl (dB, 8, .inl fo))] → va_S A s.heap H locs → (∀ j, j < 8 → sk_by (g j) = sk_by (fo j)) → lv_has ls 2 [(0, .ref h0), (1, .int (nI 8))] → W p l e (headSpec (ws_ yX1_again cX1_again 2 none) ({ frames := 0, cells := 0, slots := 0, locals := 0 })).room s m args below meth c H locs 0 0 Q (F0 m 26 ls [])) :
    ∀ (n i : Nat), i + n = 8 → ∀ (H : Heap) (locs : List Loc) (g : Nat → Int32) (ls : Array Slot), va_P G vwCl [(h0, .inr (0, [.ref qk, .ref qb, .ref qo])), (qk, .inl (dB, 32, .inl fk)), (qb, .inl (dB, 8, .inl g)), (qo, .inl (dB, 8, .inl fo))] H → va_D A [(h0, .inr (0, [.ref qk, .ref qb, .ref qo])), (qk, .inl (dB, 32, .inl fk)), (qb, .inl (dB, 8, .inl g)), (qo, .inl (dB, 8, .inl fo))] → va_S A s.heap H locs → (∀ j, j < i → sk_by (g j) = sk_by (fo j)) → lv_has ls 2 [(0, .ref h0), (1, .int (nI i))] → W p l e (headSpec (ws_ yX1_again cX1_again 2 none) ({ frames := 0, cells := 0, slots := 0, locals := 0 })).room s m args below meth c H locs 0 0 Q (F0 m 2 ls []) := by
  intro n
  induction n with
  | zero =>
    intro i hi H locs g ls hP hD hS hg hl
    obtain rfl : i = 8 := hi
    refine lv_iload_n hx hb dX1_again_2 rfl (lv_at hl 1 rfl) ?_
    refine lv_bipush (v := 8) hx hb dX1_again_3 (by decide) ?_
    refine lv_icmp_ge (tgt := 26) hx hb dX1_again_5 (by decide) (fun _ => ?_) (fun h9 => absurd (by decide) h9)
    exact kk H locs g ls hP hD hS hg (lv_sub hl [0, 1] rfl)
  | succ n ih =>
    intro i hi H locs g ls hP hD hS hg hl
    have hi8 : i < 8 := by omega
    refine lv_iload_n hx hb dX1_again_2 rfl (lv_at hl 1 rfl) ?_
    refine lv_bipush (v := 8) hx hb dX1_again_3 (by decide) ?_
    refine lv_icmp_ge (tgt := 26) hx hb dX1_again_5 (by decide) (fun h9 => absurd h9 (nI_ge (a := i) (b := 8) hi8 (by decide))) (fun _ => ?_)
    refine lv_aload_n hx hb dX1_again_8 rfl (lv_at hl 0 rfl) ?_
    refine va_get (D := G) (ci := 0) (v := .ref qb) (C := RX1) (T := TX1) (N := 3) hx hb hts in_X1 hown hK hP 0 rfl rfl 1 (by decide) (hts _ q254) (fun _ h9 => h9) rfl dX1_again_9 ?_
    refine lv_iload_n hx hb dX1_again_12 rfl (lv_at hl 1 rfl) ?_
    refine lv_aload_n hx hb dX1_again_13 rfl (lv_at hl 0 rfl) ?_
    refine va_get (D := G) (ci := 0) (v := .ref qo) (C := RX1) (T := TX1) (N := 3) hx hb hts in_X1 hown hK hP 0 rfl rfl 2 (by decide) (hts _ q255) (fun _ h9 => h9) rfl dX1_again_14 ?_
    refine lv_iload_n hx hb dX1_again_17 rfl (lv_at hl 1 rfl) ?_
    refine sk_bld hx hb hK hP 3 rfl (j := i) (hi8) (Nat.le_of_ble_eq_true rfl) dX1_again_18 ?_
    refine sk_bst hx hb hK hP hD hS 2 rfl (j := i) (hi8) (Nat.le_of_ble_eq_true rfl) dX1_again_19 (fun g1 H locs e_g1 hP hD hS => ?_)
    have hP : va_P G vwCl [(h0, .inr (0, [.ref qk, .ref qb, .ref qo])), (qk, .inl (dB, 32, .inl fk)), (qb, .inl (dB, 8, .inl g1)), (qo, .inl (dB, 8, .inl fo))] H := hP
    have hD : va_D A [(h0, .inr (0, [.ref qk, .ref qb, .ref qo])), (qk, .inl (dB, 32, .inl fk)), (qb, .inl (dB, 8, .inl g1)), (qo, .inl (dB, 8, .inl fo))] := hD
    refine lv_iinc (v := nI (i + 1)) (lv' := [(1, .int (nI (i + 1))), (0, .ref h0)]) hx hb dX1_again_20 hl (k := 1) rfl (nI_1 i) (by decide) rfl (fun ls hl => ?_)
    refine lv_goto (tgt := 2) hx hb dX1_again_23 (by decide) ?_
    exact ih (i + 1) (by omega) H locs g1 ls hP hD hS (fun j hj => by
      by_cases hji : j = i
      · rw [hji, sk_put_s e_g1]
      · rw [sk_put_n e_g1 hji]; exact hg j (by omega)) (lv_sub hl [1, 0] rfl)
set_option maxHeartbeats 4000000 in
set_option maxRecDepth 100000 in
/-- again(): the block is what came out -/
theorem met_again (l : Launch) (G : va_G) (dB dJ : ClassId) (ft : Nat) (h0 qk qb qo : Nat) (fk fb fo : Nat → Int32) (sz : Nat) : Met l yX1_again (ws_ yX1_again cX1_again 2 none) ({ frames := 0, cells := 0, slots := 0, locals := 0 }) (sk_Pre G dB dJ ft [.ref h0] sz [(h0, .inr (0, [.ref qk, .ref qb, .ref qo])), (qk, .inl (dB, 32, .inl fk)), (qb, .inl (dB, 8, .inl fb)), (qo, .inl (dB, 8, .inl fo))]) (sk_Qv G (va_A [(h0, .inr (0, [.ref qk, .ref qb, .ref qo])), (qk, .inl (dB, 32, .inl fk)), (qb, .inl (dB, 8, .inl fb)), (qo, .inl (dB, 8, .inl fo))] sz) (fun w => ∃ g : Nat → Int32, (∀ j, j < 8 → sk_by (g j) = sk_by (fo j)) ∧ w = [(h0, .inr (0, [.ref qk, .ref qb, .ref qo])), (qk, .inl (dB, 32, .inl fk)), (qb, .inl (dB, 8, .inl g)), (qo, .inl (dB, 8, .inl fo))])) 0 0 (va_A [(h0, .inr (0, [.ref qk, .ref qb, .ref qo])), (qk, .inl (dB, 32, .inl fk)), (qb, .inl (dB, 8, .inl fb)), (qo, .inl (dB, 8, .inl fo))] sz) := by
  refine Met.ofW (cc := cX1_again) (maxL := 2) (ret := none) (by decide) rfl ?_
  intro p e s m args below meth c s₁ B hml hv
  obtain ⟨rfl, hsz, hP, hK, hD0, hE⟩ := hv
  have hx := B.exec
  have hb := B.bytes
  have hr := B.returns
  have hts := atoms_spec (ws := ws_ yX1_again cX1_again 2 none) B.pre
  have hts : ∀ w ∈ lw_all, w.before _ s = true := fun w h => hts w (List.mem_cons_of_mem _ h)
  have hown : s.vm.findClass RX1 = some m.cls := findClass_of_methodNamed B.named
  have hlocks := B.notSynchronized
  subst hsz
  have hD := hD0.self (sz := s.heap.size)
  generalize hAe : va_A [(h0, .inr (0, [.ref qk, .ref qb, .ref qo])), (qk, .inl (dB, 32, .inl fk)), (qb, .inl (dB, 8, .inl fb)), (qo, .inl (dB, 8, .inl fo))] s.heap.size = A at hD hE ⊢
  have hA : ∀ q : Nat, s.heap.size ≤ q → A q := fun q h => by rw [← hAe]; exact Or.inr h
  have hS : va_S A s.heap s.heap [] := va_S.rf
  have hP : va_P G vwCl [(h0, .inr (0, [.ref qk, .ref qb, .ref qo])), (qk, .inl (dB, 32, .inl fk)), (qb, .inl (dB, 8, .inl fb)), (qo, .inl (dB, 8, .inl fo))] s.heap := hP
  have hl := lv_entry ([.ref h0]) (n := 2) (Nat.le_of_ble_eq_true rfl)
  rw [lg_entry_eq]
  generalize (lg_sl ([.ref h0]) ++ List.replicate (2 - (lg_sl ([.ref h0])).length) Slot.unset).toArray = ls at hl ⊢
  have hl : lv_has ls 2 [(0, .ref h0)] := hl
  refine lv_iconst (v := 0) hx hb dX1_again_0 (by decide) ?_
  refine lv_istore_n (lv' := [(1, .int 0), (0, .ref h0)]) hx hb dX1_again_1 rfl hl (by decide) rfl (fun ls hl => ?_)
  refine again_loop l G dB dJ ft h0 qk qb qo fk fb fo hx hb hown hts hK ?_ 8 0 rfl s.heap [] fb ls hP hD hS (fun _ h => absurd h (Nat.not_lt_zero _)) (lv_sub hl [1, 0] rfl)
  intro H locs g ls hP hD hS hg hl
  exact W.vret hx hb hr (fun t ht hW => ⟨⟨(), rfl, trivial, _, ⟨g, hg, rfl⟩, by rw [ht]; exact hP, hD⟩, hS.F ht⟩) hS.2.2 dX1_again_26
set_option maxHeartbeats 4000000 in
set_option maxRecDepth 100000 in
/-- SkipjackDesk() -/
theorem met_desk (l : Launch) (G : va_G) (dB dJ : ClassId) (ft : Nat) (h0 : Nat) (sz : Nat) : Met l yX1_init (ws_ yX1_init cX1_init 1 none) ({ frames := 1, cells := 3, slots := 48, locals := 12 }) (sk_Pre G dB dJ ft [.ref h0] sz [(h0, .inr (0, [.null, .null, .null]))]) (sk_Qv G (va_A [(h0, .inr (0, [.null, .null, .null]))] sz) (fun w => ∃ qk qb qo : Nat, w = [(h0, .inr (0, [.ref qk, .ref qb, .ref qo])), (qk, .inl (dB, 32, .inl (fun _ => 0))), (qb, .inl (dB, 8, .inl (fun _ => 0))), (qo, .inl (dB, 8, .inl (fun _ => 0)))])) 3 48 (va_A [(h0, .inr (0, [.null, .null, .null]))] sz) := by
  refine Met.ofW (cc := cX1_init) (maxL := 1) (ret := none) (by decide) rfl ?_
  intro p e s m args below meth c s₁ B hml hv
  obtain ⟨rfl, hsz, hP, hK, hD0, hE⟩ := hv
  have hx := B.exec
  have hb := B.bytes
  have hr := B.returns
  have hts := atoms_spec (ws := ws_ yX1_init cX1_init 1 none) B.pre
  have hts : ∀ w ∈ lw_all, w.before _ s = true := fun w h => hts w (List.mem_cons_of_mem _ h)
  have hown : s.vm.findClass RX1 = some m.cls := findClass_of_methodNamed B.named
  have hlocks := B.notSynchronized
  have hin : meth.name = "<init>" := (name_of_methodNamed B.named B.method).1
  subst hsz
  have hD := hD0.self (sz := s.heap.size)
  generalize hAe : va_A [(h0, .inr (0, [.null, .null, .null]))] s.heap.size = A at hD hE ⊢
  have hA : ∀ q : Nat, s.heap.size ≤ q → A q := fun q h => by rw [← hAe]; exact Or.inr h
  have hS : va_S A s.heap s.heap [] := va_S.rf
  have hP : va_P G vwCl [(h0, .inr (0, [.null, .null, .null]))] s.heap := hP
  have hl := lv_entry ([.ref h0]) (n := 1) (Nat.le_of_ble_eq_true rfl)
  rw [lg_entry_eq]
  generalize (lg_sl ([.ref h0]) ++ List.replicate (1 - (lg_sl ([.ref h0])).length) Slot.unset).toArray = ls at hl ⊢
  have hl : lv_has ls 1 [(0, .ref h0)] := hl
  refine lv_aload_n hx hb dX1_init_0 rfl (lv_at hl 0 rfl) ?_
  refine W.objInit hx hb hown (hts _ q252) (hts _ q35) (hts _ q36) rfl (by rw [hml]; exact hl.1) rfl dX1_init_1 (Nat.le_of_ble_eq_true rfl) (Nat.le_of_ble_eq_true rfl) ?_
  refine W.eq (g2 := F0 m 4 ls []) rfl ?_
  refine lv_aload_n hx hb dX1_init_4 rfl (lv_at hl 0 rfl) ?_
  refine lv_bipush (v := 32) hx hb dX1_init_5 (by decide) ?_
  refine sk_newB (N := 32) hx hb (hts _ q53) hK hP hD hS hA (by decide) (by decide) (Nat.le_of_ble_eq_true rfl) (Nat.le_of_ble_eq_true rfl) (Nat.le_of_ble_eq_true rfl) dX1_init_7 (fun qk H hP hD hS => ?_)
  have hP : va_P G vwCl [(h0, .inr (0, [.null, .null, .null])), (qk, .inl (dB, 32, .inl (fun _ => 0)))] H := hP
  have hD : va_D A [(h0, .inr (0, [.null, .null, .null])), (qk, .inl (dB, 32, .inl (fun _ => 0)))] := hD
  refine W.widen (k := 1) (n := 32) (Nat.le_of_ble_eq_true rfl) (Nat.le_of_ble_eq_true rfl) ?_
  refine va_putF (D := G) (ci := 0) (v := .ref qk) (ty := .array .byte) (C := RX1) (T := TX1) (N := 3) hx hb hts in_X1 tyX1 tyX1_ok nmX1 hown hK hP hD hS 0 rfl rfl 0 (by decide) (hts _ q253) (fun _ h9 => h9) rfl hin rfl (by decide +kernel) rfl rfl (Nat.le_of_ble_eq_true rfl) dX1_init_9 (fun H locs hP hD hS => ?_)
  have hP : va_P G vwCl [(h0, .inr (0, [.ref qk, .null, .null])), (qk, .inl (dB, 32, .inl (fun _ => 0)))] H := hP
  have hD : va_D A [(h0, .inr (0, [.ref qk, .null, .null])), (qk, .inl (dB, 32, .inl (fun _ => 0)))] := hD
  refine lv_aload_n hx hb dX1_init_12 rfl (lv_at hl 0 rfl) ?_
  refine lv_bipush (v := 8) hx hb dX1_init_13 (by decide) ?_
  refine sk_newB (N := 8) hx hb (hts _ q53) hK hP hD hS hA (by decide) (by decide) (Nat.le_of_ble_eq_true rfl) (Nat.le_of_ble_eq_true rfl) (Nat.le_of_ble_eq_true rfl) dX1_init_15 (fun qb H hP hD hS => ?_)
  have hP : va_P G vwCl [(h0, .inr (0, [.ref qk, .null, .null])), (qk, .inl (dB, 32, .inl (fun _ => 0))), (qb, .inl (dB, 8, .inl (fun _ => 0)))] H := hP
  have hD : va_D A [(h0, .inr (0, [.ref qk, .null, .null])), (qk, .inl (dB, 32, .inl (fun _ => 0))), (qb, .inl (dB, 8, .inl (fun _ => 0)))] := hD
  refine W.widen (k := 2) (n := 40) (Nat.le_of_ble_eq_true rfl) (Nat.le_of_ble_eq_true rfl) ?_
  refine va_putF (D := G) (ci := 0) (v := .ref qb) (ty := .array .byte) (C := RX1) (T := TX1) (N := 3) hx hb hts in_X1 tyX1 tyX1_ok nmX1 hown hK hP hD hS 0 rfl rfl 1 (by decide) (hts _ q254) (fun _ h9 => h9) rfl hin rfl (by decide +kernel) rfl rfl (Nat.le_of_ble_eq_true rfl) dX1_init_17 (fun H locs hP hD hS => ?_)
  have hP : va_P G vwCl [(h0, .inr (0, [.ref qk, .ref qb, .null])), (qk, .inl (dB, 32, .inl (fun _ => 0))), (qb, .inl (dB, 8, .inl (fun _ => 0)))] H := hP
  have hD : va_D A [(h0, .inr (0, [.ref qk, .ref qb, .null])), (qk, .inl (dB, 32, .inl (fun _ => 0))), (qb, .inl (dB, 8, .inl (fun _ => 0)))] := hD
  refine lv_aload_n hx hb dX1_init_20 rfl (lv_at hl 0 rfl) ?_
  refine lv_bipush (v := 8) hx hb dX1_init_21 (by decide) ?_
  refine sk_newB (N := 8) hx hb (hts _ q53) hK hP hD hS hA (by decide) (by decide) (Nat.le_of_ble_eq_true rfl) (Nat.le_of_ble_eq_true rfl) (Nat.le_of_ble_eq_true rfl) dX1_init_23 (fun qo H hP hD hS => ?_)
  have hP : va_P G vwCl [(h0, .inr (0, [.ref qk, .ref qb, .null])), (qk, .inl (dB, 32, .inl (fun _ => 0))), (qb, .inl (dB, 8, .inl (fun _ => 0))), (qo, .inl (dB, 8, .inl (fun _ => 0)))] H := hP
  have hD : va_D A [(h0, .inr (0, [.ref qk, .ref qb, .null])), (qk, .inl (dB, 32, .inl (fun _ => 0))), (qb, .inl (dB, 8, .inl (fun _ => 0))), (qo, .inl (dB, 8, .inl (fun _ => 0)))] := hD
  refine W.widen (k := 3) (n := 48) (Nat.le_of_ble_eq_true rfl) (Nat.le_of_ble_eq_true rfl) ?_
  refine va_putF (D := G) (ci := 0) (v := .ref qo) (ty := .array .byte) (C := RX1) (T := TX1) (N := 3) hx hb hts in_X1 tyX1 tyX1_ok nmX1 hown hK hP hD hS 0 rfl rfl 2 (by decide) (hts _ q255) (fun _ h9 => h9) rfl hin rfl (by decide +kernel) rfl rfl (Nat.le_of_ble_eq_true rfl) dX1_init_25 (fun H locs hP hD hS => ?_)
  have hP : va_P G vwCl [(h0, .inr (0, [.ref qk, .ref qb, .ref qo])), (qk, .inl (dB, 32, .inl (fun _ => 0))), (qb, .inl (dB, 8, .inl (fun _ => 0))), (qo, .inl (dB, 8, .inl (fun _ => 0)))] H := hP
  have hD : va_D A [(h0, .inr (0, [.ref qk, .ref qb, .ref qo])), (qk, .inl (dB, 32, .inl (fun _ => 0))), (qb, .inl (dB, 8, .inl (fun _ => 0))), (qo, .inl (dB, 8, .inl (fun _ => 0)))] := hD
  exact W.vret hx hb hr (fun t ht hW => ⟨⟨(), rfl, trivial, _, ⟨qk, qb, qo, rfl⟩, by rw [ht]; exact hP, hD⟩, hS.F ht⟩) hS.2.2 dX1_init_28
set_option maxHeartbeats 4000000 in
set_option maxRecDepth 100000 in
theorem run_loop {p : Program} {e : Env} {s : State} {m : MethodId} {args : Array Value} {below : List Frame} {meth : Method} {c : Code} {A : Nat → Prop} {Q : State → Prop} (l : Launch) (G : va_G) (dB dJ : ClassId) (ft : Nat) (h0 qk qb qo : Nat) (fk fb fo : Nat → Int32) (qa : Nat) (en kind : Int32) (hx : p.tables.exec = Jvm.exec) (hb : c.code = cX1_run) (hown : s.vm.findClass RX1 = some m.cls) (hts : ∀ w ∈ lw_all, w.before args s = true) (hK : va_K G vwCl (sk_ty dB dJ) s)
    (kk : ∀ (H : Heap) (locs : List Loc) (g : Nat → Int32) (ls : Array Slot), va_P G vwCl [(h0, .inr (0, [.ref qk, .ref qb, .ref qo])), (qk, .inl (dB, 32, .inl fk)), (qb, .inl (dB, 8, .inl fb)), (qo, .inl (dB, 8, .inl fo)), (qa, .inl (dB, 10, .inl g))] H → va_D A [(h0, .inr (0, [.ref qk, .ref qb, .ref qo])), (qk, .inl (dB, 32, .inl fk)), (qb, .inl (dB, 8, .inl fb)), (qo, .inl (dB, 8, .inl fo)), (qa, .inl (dB, 10, .inl g))] → va_S A s.heap H locs → (∀ j, j < 10 → sk_by (g j) = sk_by (fk j)) → sk_fit g → lv_has ls 6 [(0, .ref h0), (1, .int en), (2, .int kind), (3, .int 10), (4, .ref qa)] → W p l e (headSpec (ws_ yX1_run cX1_run 6 none) ({ frames := 4, cells := 8, slots := 154, locals := 120 })).room s m args below meth c H locs 1 10 Q (F0 m 39 ls [])) :
    ∀ (n i : Nat), i + n = 10 → ∀ (H : Heap) (locs : List Loc) (g : Nat → Int32) (ls : Array Slot), va_P G vwCl [(h0, .inr (0, [.ref qk, .ref qb, .ref qo])), (qk, .inl (dB, 32, .inl fk)), (qb, .inl (dB, 8, .inl fb)), (qo, .inl (dB, 8, .inl fo)), (qa, .inl (dB, 10, .inl g))] H → va_D A [(h0, .inr (0, [.ref qk, .ref qb, .ref qo])), (qk, .inl (dB, 32, .inl fk)), (qb, .inl (dB, 8, .inl fb)), (qo, .inl (dB, 8, .inl fo)), (qa, .inl (dB, 10, .inl g))] → va_S A s.heap H locs → (∀ j, j < i → sk_by (g j) = sk_by (fk j)) → sk_fit g → lv_has ls 6 [(0, .ref h0), (1, .int en), (2, .int kind), (3, .int 10), (4, .ref qa), (5, .int (nI i))] → W p l e (headSpec (ws_ yX1_run cX1_run 6 none) ({ frames := 4, cells := 8, slots := 154, locals := 120 })).room s m args below meth c H locs 1 10 Q (F0 m 15 ls []) := by
  intro n
  induction n with
  | zero =>
    intro i hi H locs g ls hP hD hS hg hfit hl
    obtain rfl : i = 10 := hi
    refine lv_iload hx hb dX1_run_15 (lv_at hl 5 rfl) ?_
    refine lv_iload_n hx hb dX1_run_17 rfl (lv_at hl 3 rfl) ?_
    refine lv_icmp_ge (tgt := 39) hx hb dX1_run_18 (by decide) (fun _ => ?_) (fun h9 => absurd (by decide) h9)
    exact kk H locs g ls hP hD hS hg hfit (lv_sub hl [0, 1, 2, 3, 4] rfl)
  | succ n ih =>
    intro i hi H locs g ls hP hD hS hg hfit hl
    have hi10 : i < 10 := by omega
    refine lv_iload hx hb dX1_run_15 (lv_at hl 5 rfl) ?_
    refine lv_iload_n hx hb dX1_run_17 rfl (lv_at hl 3 rfl) ?_
    refine lv_icmp_ge (tgt := 39) hx hb dX1_run_18 (by decide) (fun h9 => absurd h9 (nI_ge (a := i) (b := 10) hi10 (by decide))) (fun _ => ?_)
    refine lv_aload hx hb dX1_run_21 (lv_at hl 4 rfl) ?_
    refine lv_iload hx hb dX1_run_23 (lv_at hl 5 rfl) ?_
    refine lv_aload_n hx hb dX1_run_25 rfl (lv_at hl 0 rfl) ?_
    refine va_get (D := G) (ci := 0) (v := .ref qk) (C := RX1) (T := TX1) (N := 3) hx hb hts in_X1 hown hK hP 0 rfl rfl 0 (by decide) (hts _ q253) (fun _ h9 => h9) rfl dX1_run_26 ?_
    refine lv_iload hx hb dX1_run_29 (lv_at hl 5 rfl) ?_
    refine sk_bld hx hb hK hP 1 rfl (j := i) (by omega) (Nat.le_of_ble_eq_true rfl) dX1_run_31 ?_
    refine sk_bst hx hb hK hP hD hS 4 rfl (j := i) (hi10) (Nat.le_of_ble_eq_true rfl) dX1_run_32 (fun g1 H locs e_g1 hP hD hS => ?_)
    have hP : va_P G vwCl [(h0, .inr (0, [.ref qk, .ref qb, .ref qo])), (qk, .inl (dB, 32, .inl fk)), (qb, .inl (dB, 8, .inl fb)), (qo, .inl (dB, 8, .inl fo)), (qa, .inl (dB, 10, .inl g1))] H := hP
    have hD : va_D A [(h0, .inr (0, [.ref qk, .ref qb, .ref qo])), (qk, .inl (dB, 32, .inl fk)), (qb, .inl (dB, 8, .inl fb)), (qo, .inl (dB, 8, .inl fo)), (qa, .inl (dB, 10, .inl g1))] := hD
    refine lv_iinc (v := nI (i + 1)) (lv' := [(5, .int (nI (i + 1))), (0, .ref h0), (1, .int en), (2, .int kind), (3, .int 10), (4, .ref qa)]) hx hb dX1_run_33 hl (k := 5) rfl (nI_1 i) (by decide) rfl (fun ls hl => ?_)
    refine lv_goto (tgt := 15) hx hb dX1_run_36 (by decide) ?_
    exact ih (i + 1) (by omega) H locs g1 ls hP hD hS (fun j hj => by
      by_cases hji : j = i
      · rw [hji, sk_put_s e_g1]
      · rw [sk_put_n e_g1 hji]; exact hg j (by omega)) (sk_fit_put hfit e_g1) (lv_sub hl [1, 2, 3, 4, 5, 0] rfl)
set_option maxHeartbeats 4000000 in
set_option maxRecDepth 100000 in
/-- run(lock, kind) -/
theorem met_run (l : Launch) (G : va_G) (dB dJ : ClassId) (ft : Nat) (h0 qk qb qo : Nat) (fk fb fo : Nat → Int32) (en kind : Int32) (hen : en = 0 ∨ en = 1) (sz : Nat) : Met l yX1_run (ws_ yX1_run cX1_run 6 none) ({ frames := 4, cells := 8, slots := 154, locals := 120 }) (sk_Pre G dB dJ ft [.ref h0, .int en, .int kind] sz [(h0, .inr (0, [.ref qk, .ref qb, .ref qo])), (qk, .inl (dB, 32, .inl fk)), (qb, .inl (dB, 8, .inl fb)), (qo, .inl (dB, 8, .inl fo))]) (sk_Qv G (va_A [(h0, .inr (0, [.ref qk, .ref qb, .ref qo])), (qk, .inl (dB, 32, .inl fk)), (qb, .inl (dB, 8, .inl fb)), (qo, .inl (dB, 8, .inl fo))] sz) (fun w => ∃ fn : Nat → Int32, sk_is fn (sk_do en (fun j => sk_by (fk j)) (sk_of fb)) ∧ w = [(h0, .inr (0, [.ref qk, .ref qb, .ref qo])), (qk, .inl (dB, 32, .inl fk)), (qb, .inl (dB, 8, .inl fb)), (qo, .inl (dB, 8, .inl fn))])) 8 154 (va_A [(h0, .inr (0, [.ref qk, .ref qb, .ref qo])), (qk, .inl (dB, 32, .inl fk)), (qb, .inl (dB, 8, .inl fb)), (qo, .inl (dB, 8, .inl fo))] sz) := by
  refine Met.ofW (cc := cX1_run) (maxL := 6) (ret := none) (by decide) rfl ?_
  intro p e s m args below meth c s₁ B hml hv
  obtain ⟨rfl, hsz, hP, hK, hD0, hE⟩ := hv
  have hx := B.exec
  have hb := B.bytes
  have hr := B.returns
  have hts := atoms_spec (ws := ws_ yX1_run cX1_run 6 none) B.pre
  have hts : ∀ w ∈ lw_all, w.before _ s = true := fun w h => hts w (List.mem_cons_of_mem _ h)
  have hown : s.vm.findClass RX1 = some m.cls := findClass_of_methodNamed B.named
  have hlocks := B.notSynchronized
  subst hsz
  have hD := hD0.self (sz := s.heap.size)
  generalize hAe : va_A [(h0, .inr (0, [.ref qk, .ref qb, .ref qo])), (qk, .inl (dB, 32, .inl fk)), (qb, .inl (dB, 8, .inl fb)), (qo, .inl (dB, 8, .inl fo))] s.heap.size = A at hD hE ⊢
  have hA : ∀ q : Nat, s.heap.size ≤ q → A q := fun q h => by rw [← hAe]; exact Or.inr h
  have hS : va_S A s.heap s.heap [] := va_S.rf
  have hP : va_P G vwCl [(h0, .inr (0, [.ref qk, .ref qb, .ref qo])), (qk, .inl (dB, 32, .inl fk)), (qb, .inl (dB, 8, .inl fb)), (qo, .inl (dB, 8, .inl fo))] s.heap := hP
  have hl := lv_entry ([.ref h0, .int en, .int kind]) (n := 6) (Nat.le_of_ble_eq_true rfl)
  rw [lg_entry_eq]
  generalize (lg_sl ([.ref h0, .int en, .int kind]) ++ List.replicate (6 - (lg_sl ([.ref h0, .int en, .int kind])).length) Slot.unset).toArray = ls at hl ⊢
  have hl : lv_has ls 6 [(0, .ref h0), (1, .int en), (2, .int kind)] := hl
  refine lv_iload_n hx hb dX1_run_0 rfl (lv_at hl 2 rfl) ?_
  refine lv_iconst (v := 3) hx hb dX1_run_1 (by decide) ?_
  refine lv_iand hx hb dX1_run_2 ?_
  refine vp_callSi (W.runS (As := [.int (kind &&& 3)]) (rest := []) ⟨hx, hb, hml, hown, hts⟩ (met_size l G dB dJ ft (kind &&& 3)) (va_cwS 1 hts (lw_S q26 q27 q5 q28) rfl rfl rfl (by decide +kernel) ⟨Nat.le_of_ble_eq_true rfl, Nat.le_of_ble_eq_true rfl⟩) ⟨sk_blindR, sk_preR hP hK hE hS [.int (kind &&& 3)] [] rfl⟩ rfl rfl hl.1 rfl (lv_room (Nat.le_of_ble_eq_true rfl)) dX1_run_3 ⟨Nat.le_of_ble_eq_true rfl, Nat.le_of_ble_eq_true rfl⟩) (fun r hr9 => ?_)
  subst hr9
  refine lv_istore_n (lv' := [(3, .int 10), (0, .ref h0), (1, .int en), (2, .int kind)]) hx hb dX1_run_6 rfl hl (by decide) rfl (fun ls hl => ?_)
  refine lv_iload_n hx hb dX1_run_7 rfl (lv_at hl 0 rfl) ?_
  refine sk_newB (N := 10) hx hb (hts _ q53) hK hP hD hS hA (by decide) (by decide) (Nat.le_of_ble_eq_true rfl) (Nat.le_of_ble_eq_true rfl) (Nat.le_of_ble_eq_true rfl) dX1_run_8 (fun qa H hP hD hS => ?_)
  have hP : va_P G vwCl [(h0, .inr (0, [.ref qk, .ref qb, .ref qo])), (qk, .inl (dB, 32, .inl fk)), (qb, .inl (dB, 8, .inl fb)), (qo, .inl (dB, 8, .inl fo)), (qa, .inl (dB, 10, .inl (fun _ => 0)))] H := hP
  have hD : va_D A [(h0, .inr (0, [.ref qk, .ref qb, .ref qo])), (qk, .inl (dB, 32, .inl fk)), (qb, .inl (dB, 8, .inl fb)), (qo, .inl (dB, 8, .inl fo)), (qa, .inl (dB, 10, .inl (fun _ => 0)))] := hD
  refine W.widen (k := 1) (n := 10) (Nat.le_of_ble_eq_true rfl) (Nat.le_of_ble_eq_true rfl) ?_
  refine lv_astore (lv' := [(4, .ref qa), (3, .int 10), (0, .ref h0), (1, .int en), (2, .int kind)]) hx hb dX1_run_10 hl (by decide) rfl (fun ls hl => ?_)
  refine lv_iconst (v := 0) hx hb dX1_run_12 (by decide) ?_
  refine lv_istore (lv' := [(5, .int 0), (4, .ref qa), (3, .int 10), (0, .ref h0), (1, .int en), (2, .int kind)]) hx hb dX1_run_13 hl (by decide) rfl (fun ls hl => ?_)
  refine run_loop l G dB dJ ft h0 qk qb qo fk fb fo qa en kind hx hb hown hts hK ?_ 10 0 rfl H [] (fun _ => 0) ls hP hD hS (fun _ h => absurd h (Nat.not_lt_zero _)) sk_fit0 (lv_sub hl [3, 4, 5, 2, 1, 0] rfl)
  intro H locs g ls hP hD hS hg hfit hl
  refine va_new (D := G) (ci := 1) (fs := [.null, .null, .null, .null, .int 0]) (C := RX2) (T := TX2) (N := 5) hx hb hts in_X2 tyX2 tyX2_ok hown (hts _ q29) (hts _ q30) (hts _ q6) hK hP hD hS hA rfl (fun j hj => by rcases (show j = 0 ∨ j = 1 ∨ j = 2 ∨ j = 3 ∨ j = 4 by omega) with rfl | rfl | rfl | rfl | rfl <;> rfl) (Nat.le_of_ble_eq_true rfl) (Nat.le_of_ble_eq_true rfl) dX1_run_39 (fun qe H hP hD hS => ?_)
  have hP : va_P G vwCl [(h0, .inr (0, [.ref qk, .ref qb, .ref qo])), (qk, .inl (dB, 32, .inl fk)), (qb, .inl (dB, 8, .inl fb)), (qo, .inl (dB, 8, .inl fo)), (qa, .inl (dB, 10, .inl g)), (qe, .inr (1, [.null, .null, .null, .null, .int 0]))] H := hP
  have hD : va_D A [(h0, .inr (0, [.ref qk, .ref qb, .ref qo])), (qk, .inl (dB, 32, .inl fk)), (qb, .inl (dB, 8, .inl fb)), (qo, .inl (dB, 8, .inl fo)), (qa, .inl (dB, 10, .inl g)), (qe, .inr (1, [.null, .null, .null, .null, .int 0]))] := hD
  refine W.widen (k := 2) (n := 15) (Nat.le_of_ble_eq_true rfl) (Nat.le_of_ble_eq_true rfl) ?_
  refine lv_dup hx hb dX1_run_42 rfl ?_
  refine sk_cv (va_runI (As := []) (rest := [.ref qe]) ⟨hx, hb, hml, hown, hts⟩ (met_eng0 l G dB dJ ft qe H.size) (cwI 0 hts (lw_meth q33) rfl rfl rfl (hts _ q6) (hts _ q31) (hts _ q32) rfl (by decide +kernel) ⟨Nat.le_of_ble_eq_true rfl, Nat.le_of_ble_eq_true rfl⟩) ⟨sk_blind, sk_pre hP hD hK hE hS hA [.ref qe] [5] rfl (by decide)⟩ rfl rfl hl.1 rfl (lv_room (Nat.le_of_ble_eq_true rfl)) dX1_run_43 ⟨Nat.le_of_ble_eq_true rfl, Nat.le_of_ble_eq_true rfl⟩) hP hD hS hA [5] [0, 1, 2, 3, 4] [(h0, .inr (0, [.ref qk, .ref qb, .ref qo])), (qk, .inl (dB, 32, .inl fk)), (qb, .inl (dB, 8, .inl fb)), (qo, .inl (dB, 8, .inl fo)), (qa, .inl (dB, 10, .inl g))] rfl rfl (by decide) (by decide) (fun w1 H locs hR hP hD hS => ?_)
  obtain rfl := hR
  have hP : va_P G vwCl [(h0, .inr (0, [.ref qk, .ref qb, .ref qo])), (qk, .inl (dB, 32, .inl fk)), (qb, .inl (dB, 8, .inl fb)), (qo, .inl (dB, 8, .inl fo)), (qa, .inl (dB, 10, .inl g)), (qe, .inr (1, [.null, .null, .null, .null, .int 0]))] H := hP
  have hD : va_D A [(h0, .inr (0, [.ref qk, .ref qb, .ref qo])), (qk, .inl (dB, 32, .inl fk)), (qb, .inl (dB, 8, .inl fb)), (qo, .inl (dB, 8, .inl fo)), (qa, .inl (dB, 10, .inl g)), (qe, .inr (1, [.null, .null, .null, .null, .int 0]))] := hD
  refine lv_astore (lv' := [(5, .ref qe), (0, .ref h0), (1, .int en), (2, .int kind), (3, .int 10), (4, .ref qa)]) hx hb dX1_run_46 hl (by decide) rfl (fun ls hl => ?_)
  refine lv_aload hx hb dX1_run_48 (lv_at hl 0 rfl) ?_
  refine lv_iload_n hx hb dX1_run_50 rfl (lv_at hl 2 rfl) ?_
  refine va_new (D := G) (ci := 2) (fs := [.null]) (C := RX3) (T := TX3) (N := 1) hx hb hts in_X3 tyX3 tyX3_ok hown (hts _ q54) (hts _ q55) (hts _ q7) hK hP hD hS hA rfl (fun j hj => by rcases (show j = 0 by omega) with rfl <;> rfl) (Nat.le_of_ble_eq_true rfl) (Nat.le_of_ble_eq_true rfl) dX1_run_51 (fun qp H hP hD hS => ?_)
  have hP : va_P G vwCl [(h0, .inr (0, [.ref qk, .ref qb, .ref qo])), (qk, .inl (dB, 32, .inl fk)), (qb, .inl (dB, 8, .inl fb)), (qo, .inl (dB, 8, .inl fo)), (qa, .inl (dB, 10, .inl g)), (qe, .inr (1, [.null, .null, .null, .null, .int 0])), (qp, .inr (2, [.null]))] H := hP
  have hD : va_D A [(h0, .inr (0, [.ref qk, .ref qb, .ref qo])), (qk, .inl (dB, 32, .inl fk)), (qb, .inl (dB, 8, .inl fb)), (qo, .inl (dB, 8, .inl fo)), (qa, .inl (dB, 10, .inl g)), (qe, .inr (1, [.null, .null, .null, .null, .int 0])), (qp, .inr (2, [.null]))] := hD
  refine W.widen (k := 3) (n := 16) (Nat.le_of_ble_eq_true rfl) (Nat.le_of_ble_eq_true rfl) ?_
  refine lv_dup hx hb dX1_run_54 rfl ?_
  refine lv_aload hx hb dX1_run_55 (lv_at hl 5 rfl) ?_
  refine sk_cv (va_runI (As := [.ref qa]) (rest := [.ref qp, .int en, .ref qe]) ⟨hx, hb, hml, hown, hts⟩ (met_kp1 l G dB dJ ft qp qa g hfit H.size) (cwI 1 hts (lw_meth q58) rfl rfl rfl (hts _ q7) (hts _ q56) (hts _ q57) rfl (by decide +kernel) ⟨Nat.le_of_ble_eq_true rfl, Nat.le_of_ble_eq_true rfl⟩) ⟨sk_blind, sk_pre hP hD hK hE hS hA [.ref qp, .ref qa] [6, 4] rfl (by decide)⟩ rfl rfl hl.1 rfl (lv_room (Nat.le_of_ble_eq_true rfl)) dX1_run_57 ⟨Nat.le_of_ble_eq_true rfl, Nat.le_of_ble_eq_true rfl⟩) hP hD hS hA [6, 4] [0, 1, 2, 3, 5] [(h0, .inr (0, [.ref qk, .ref qb, .ref qo])), (qk, .inl (dB, 32, .inl fk)), (qb, .inl (dB, 8, .inl fb)), (qo, .inl (dB, 8, .inl fo)), (qe, .inr (1, [.null, .null, .null, .null, .int 0]))] rfl rfl (by decide) (by decide) (fun w1 H locs hR hP hD hS => ?_)
  obtain ⟨q1, f1, hcp, rfl⟩ := hR
  have hP : va_P G vwCl [(h0, .inr (0, [.ref qk, .ref qb, .ref qo])), (qk, .inl (dB, 32, .inl fk)), (qb, .inl (dB, 8, .inl fb)), (qo, .inl (dB, 8, .inl fo)), (qe, .inr (1, [.null, .null, .null, .null, .int 0])), (qa, .inl (dB, 10, .inl g)), (qp, .inr (2, [.ref q1])), (q1, .inl (dB, 10, .inl f1))] H := hP
  have hD : va_D A [(h0, .inr (0, [.ref qk, .ref qb, .ref qo])), (qk, .inl (dB, 32, .inl fk)), (qb, .inl (dB, 8, .inl fb)), (qo, .inl (dB, 8, .inl fo)), (qe, .inr (1, [.null, .null, .null, .null, .int 0])), (qa, .inl (dB, 10, .inl g)), (qp, .inr (2, [.ref q1])), (q1, .inl (dB, 10, .inl f1))] := hD
  refine W.widen (k := 4) (n := 26) (Nat.le_of_ble_eq_true rfl) (Nat.le_of_ble_eq_true rfl) ?_
  refine sk_cFv (va_runF (hK.1 1 _ rfl).2 (As := [.int en, .ref qp]) (rest := []) ⟨hx, hb, hml, hown, hts⟩ (met_einit l G dB dJ ft qe qp q1 en f1 hen H.size) (va_cwF 2 hts (lw_F q74 q78 q80 q6 q82) rfl rfl rfl hE.2.2.1 ⟨by decide +kernel, by decide +kernel, by decide +kernel⟩ ⟨Nat.le_of_ble_eq_true rfl, Nat.le_of_ble_eq_true rfl⟩) ⟨sk_blind, va_recv hK hP (ci := 1) (q0 := 4) rfl rfl, sk_pre hP hD hK hE hS hA [.ref qe, .int en, .ref qp] [4, 6, 7] rfl (by decide)⟩ rfl rfl hl.1 rfl (lv_room (Nat.le_of_ble_eq_true rfl)) dX1_run_60 ⟨Nat.le_of_ble_eq_true rfl, Nat.le_of_ble_eq_true rfl⟩) hP hD hS hA [4, 6, 7] [0, 1, 2, 3, 5] [(h0, .inr (0, [.ref qk, .ref qb, .ref qo])), (qk, .inl (dB, 32, .inl fk)), (qb, .inl (dB, 8, .inl fb)), (qo, .inl (dB, 8, .inl fo)), (qa, .inl (dB, 10, .inl g))] rfl rfl (by decide) (by decide) (fun w1 H locs hR hP hD hS => ?_)
  obtain ⟨r0, r1, r2, r3, g0, g1, g2, g3, hky, rfl⟩ := hR
  have hP : va_P G vwCl [(h0, .inr (0, [.ref qk, .ref qb, .ref qo])), (qk, .inl (dB, 32, .inl fk)), (qb, .inl (dB, 8, .inl fb)), (qo, .inl (dB, 8, .inl fo)), (qa, .inl (dB, 10, .inl g)), (qe, .inr (1, [.ref r0, .ref r1, .ref r2, .ref r3, .int en])), (qp, .inr (2, [.ref q1])), (q1, .inl (dB, 10, .inl f1)), (r0, .inl (dJ, 32, .inl g0)), (r1, .inl (dJ, 32, .inl g1)), (r2, .inl (dJ, 32, .inl g2)), (r3, .inl (dJ, 32, .inl g3))] H := hP
  have hD : va_D A [(h0, .inr (0, [.ref qk, .ref qb, .ref qo])), (qk, .inl (dB, 32, .inl fk)), (qb, .inl (dB, 8, .inl fb)), (qo, .inl (dB, 8, .inl fo)), (qa, .inl (dB, 10, .inl g)), (qe, .inr (1, [.ref r0, .ref r1, .ref r2, .ref r3, .int en])), (qp, .inr (2, [.ref q1])), (q1, .inl (dB, 10, .inl f1)), (r0, .inl (dJ, 32, .inl g0)), (r1, .inl (dJ, 32, .inl g1)), (r2, .inl (dJ, 32, .inl g2)), (r3, .inl (dJ, 32, .inl g3))] := hD
  refine W.widen (k := 8) (n := 154) (Nat.le_of_ble_eq_true rfl) (Nat.le_of_ble_eq_true rfl) ?_
  refine lv_aload hx hb dX1_run_65 (lv_at hl 0 rfl) ?_
  refine lv_aload_n hx hb dX1_run_67 rfl (lv_at hl 1 rfl) ?_
  refine va_get (D := G) (ci := 0) (v := .ref qb) (C := RX1) (T := TX1) (N := 3) hx hb hts in_X1 hown hK hP 0 rfl rfl 1 (by decide) (hts _ q254) (fun _ h9 => h9) rfl dX1_run_68 ?_
  refine lv_iconst (v := 0) hx hb dX1_run_71 (by decide) ?_
  refine lv_aload_n hx hb dX1_run_72 rfl (lv_at hl 1 rfl) ?_
  refine va_get (D := G) (ci := 0) (v := .ref qo) (C := RX1) (T := TX1) (N := 3) hx hb hts in_X1 hown hK hP 0 rfl rfl 2 (by decide) (hts _ q255) (fun _ h9 => h9) rfl dX1_run_73 ?_
  refine lv_iconst (v := 0) hx hb dX1_run_76 (by decide) ?_
  refine sk_cFi (va_runF (hK.1 1 _ rfl).2 (As := [.ref qb, .int 0, .ref qo, .int 0]) (rest := []) ⟨hx, hb, hml, hown, hts⟩ (met_proc l G dB dJ ft qe r0 r1 r2 r3 qb qo en g0 g1 g2 g3 fb fo (fun j => sk_by (f1 j)) hky H.size) (va_cwF 4 hts (lw_F q157 q160 q162 q6 q164) rfl rfl rfl hE.2.2.2 ⟨by decide +kernel, by decide +kernel, by decide +kernel⟩ ⟨Nat.le_of_ble_eq_true rfl, Nat.le_of_ble_eq_true rfl⟩) ⟨sk_blind, va_recv hK hP (ci := 1) (q0 := 5) rfl rfl, sk_pre hP hD hK hE hS hA [.ref qe, .ref qb, .int 0, .ref qo, .int 0] [5, 8, 9, 10, 11, 2, 3] rfl (by decide)⟩ rfl rfl hl.1 rfl (lv_room (Nat.le_of_ble_eq_true rfl)) dX1_run_77 ⟨Nat.le_of_ble_eq_true rfl, Nat.le_of_ble_eq_true rfl⟩) hP hD hS hA [5, 8, 9, 10, 11, 2, 3] [0, 1, 4, 6, 7] [(h0, .inr (0, [.ref qk, .ref qb, .ref qo])), (qk, .inl (dB, 32, .inl fk)), (qa, .inl (dB, 10, .inl g)), (qp, .inr (2, [.ref q1])), (q1, .inl (dB, 10, .inl f1))] rfl rfl (by decide) (by decide) (fun rz w1 H locs hrz hR hP hD hS => ?_)
  obtain ⟨fn, hfn, rfl⟩ := hR
  have hP : va_P G vwCl [(h0, .inr (0, [.ref qk, .ref qb, .ref qo])), (qk, .inl (dB, 32, .inl fk)), (qa, .inl (dB, 10, .inl g)), (qp, .inr (2, [.ref q1])), (q1, .inl (dB, 10, .inl f1)), (qe, .inr (1, [.ref r0, .ref r1, .ref r2, .ref r3, .int en])), (r0, .inl (dJ, 32, .inl g0)), (r1, .inl (dJ, 32, .inl g1)), (r2, .inl (dJ, 32, .inl g2)), (r3, .inl (dJ, 32, .inl g3)), (qb, .inl (dB, 8, .inl fb)), (qo, .inl (dB, 8, .inl fn))] H := hP
  have hD : va_D A [(h0, .inr (0, [.ref qk, .ref qb, .ref qo])), (qk, .inl (dB, 32, .inl fk)), (qa, .inl (dB, 10, .inl g)), (qp, .inr (2, [.ref q1])), (q1, .inl (dB, 10, .inl f1)), (qe, .inr (1, [.ref r0, .ref r1, .ref r2, .ref r3, .int en])), (r0, .inl (dJ, 32, .inl g0)), (r1, .inl (dJ, 32, .inl g1)), (r2, .inl (dJ, 32, .inl g2)), (r3, .inl (dJ, 32, .inl g3)), (qb, .inl (dB, 8, .inl fb)), (qo, .inl (dB, 8, .inl fn))] := hD
  refine W.widen (k := 8) (n := 154) (Nat.le_of_ble_eq_true rfl) (Nat.le_of_ble_eq_true rfl) ?_
  refine lv_pop hx hb dX1_run_82 rfl ?_
  have hfn : sk_is fn (sk_do en (fun j => sk_by (fk j)) (sk_of fb)) := by
    rw [← sk_do_congr en (K := fun j => sk_by (f1 j)) (K' := fun j => sk_by (fk j)) (fun j hj => by show sk_by (f1 j) = sk_by (fk j); rw [hcp j hj, hg j hj])]; exact hfn
  have hP : va_P G vwCl [(h0, .inr (0, [.ref qk, .ref qb, .ref qo])), (qk, .inl (dB, 32, .inl fk)), (qb, .inl (dB, 8, .inl fb)), (qo, .inl (dB, 8, .inl fn))] _ := sk_cut hP [0, 1, 10, 11] rfl
  have hD : va_D A [(h0, .inr (0, [.ref qk, .ref qb, .ref qo])), (qk, .inl (dB, 32, .inl fk)), (qb, .inl (dB, 8, .inl fb)), (qo, .inl (dB, 8, .inl fn))] := hD.sub [0, 1, 10, 11] (by decide) rfl
  exact W.vret hx hb hr (fun t ht hW => ⟨⟨(), rfl, trivial, _, ⟨fn, hfn, rfl⟩, by rw [ht]; exact hP, hD⟩, hS.F ht⟩) hS.2.2 dX1_run_83
set_option maxHeartbeats 4000000 in
set_option maxRecDepth 100000 in
/-- lock -/
theorem met_lock (l : Launch) (G : va_G) (dB dJ : ClassId) (ft : Nat) (h0 qk qb qo : Nat) (fk fb fo : Nat → Int32) (kind : Int32) (sz : Nat) : Met l yX1_lock (ws_ yX1_lock cX1_lock 2 none) ({ frames := 5, cells := 8, slots := 154, locals := 150 }) (sk_Pre G dB dJ ft [.ref h0, .int kind] sz [(h0, .inr (0, [.ref qk, .ref qb, .ref qo])), (qk, .inl (dB, 32, .inl fk)), (qb, .inl (dB, 8, .inl fb)), (qo, .inl (dB, 8, .inl fo))]) (sk_Qv G (va_A [(h0, .inr (0, [.ref qk, .ref qb, .ref qo])), (qk, .inl (dB, 32, .inl fk)), (qb, .inl (dB, 8, .inl fb)), (qo, .inl (dB, 8, .inl fo))] sz) (fun w => ∃ fn : Nat → Int32, sk_is fn (sk_do 1 (fun j => sk_by (fk j)) (sk_of fb)) ∧ w = [(h0, .inr (0, [.ref qk, .ref qb, .ref qo])), (qk, .inl (dB, 32, .inl fk)), (qb, .inl (dB, 8, .inl fb)), (qo, .inl (dB, 8, .inl fn))])) 8 154 (va_A [(h0, .inr (0, [.ref qk, .ref qb, .ref qo])), (qk, .inl (dB, 32, .inl fk)), (qb, .inl (dB, 8, .inl fb)), (qo, .inl (dB, 8, .inl fo))] sz) := by
  refine Met.ofW (cc := cX1_lock) (maxL := 2) (ret := none) (by decide) rfl ?_
  intro p e s m args below meth c s₁ B hml hv
  obtain ⟨rfl, hsz, hP, hK, hD0, hE⟩ := hv
  have hx := B.exec
  have hb := B.bytes
  have hr := B.returns
  have hts := atoms_spec (ws := ws_ yX1_lock cX1_lock 2 none) B.pre
  have hts : ∀ w ∈ lw_all, w.before _ s = true := fun w h => hts w (List.mem_cons_of_mem _ h)
  have hown : s.vm.findClass RX1 = some m.cls := findClass_of_methodNamed B.named
  have hlocks := B.notSynchronized
  subst hsz
  have hD := hD0.self (sz := s.heap.size)
  generalize hAe : va_A [(h0, .inr (0, [.ref qk, .ref qb, .ref qo])), (qk, .inl (dB, 32, .inl fk)), (qb, .inl (dB, 8, .inl fb)), (qo, .inl (dB, 8, .inl fo))] s.heap.size = A at hD hE ⊢
  have hA : ∀ q : Nat, s.heap.size ≤ q → A q := fun q h => by rw [← hAe]; exact Or.inr h
  have hS : va_S A s.heap s.heap [] := va_S.rf
  have hP : va_P G vwCl [(h0, .inr (0, [.ref qk, .ref qb, .ref qo])), (qk, .inl (dB, 32, .inl fk)), (qb, .inl (dB, 8, .inl fb)), (qo, .inl (dB, 8, .inl fo))] s.heap := hP
  have hl := lv_entry ([.ref h0, .int kind]) (n := 2) (Nat.le_of_ble_eq_true rfl)
  rw [lg_entry_eq]
  generalize (lg_sl ([.ref h0, .int kind]) ++ List.replicate (2 - (lg_sl ([.ref h0, .int kind])).length) Slot.unset).toArray = ls at hl ⊢
  have hl : lv_has ls 2 [(0, .ref h0), (1, .int kind)] := hl
  refine lv_aload_n hx hb dX1_lock_0 rfl (lv_at hl 0 rfl) ?_
  refine lv_iconst (v := 1) hx hb dX1_lock_1 (by decide) ?_
  refine lv_iload_n hx hb dX1_lock_2 rfl (lv_at hl 1 rfl) ?_
  refine sk_cv (va_runV (As := [.int 1, .int kind]) (rest := []) ⟨hx, hb, hml, hown, hts⟩ (met_run l G dB dJ ft h0 qk qb qo fk fb fo 1 kind (Or.inr rfl) s.heap.size) (cwV 2 hts (lw_V q21 q23 qs0 q5 q25) rfl rfl rfl (by decide +kernel) ⟨Nat.le_of_ble_eq_true rfl, Nat.le_of_ble_eq_true rfl⟩) ⟨sk_blind, va_recv hK hP (ci := 0) (q0 := 0) rfl rfl, sk_pre hP hD hK hE hS hA [.ref h0, .int 1, .int kind] [0, 1, 2, 3] rfl (by decide)⟩ rfl rfl hl.1 rfl (lv_room (Nat.le_of_ble_eq_true rfl)) dX1_lock_3 ⟨Nat.le_of_ble_eq_true rfl, Nat.le_of_ble_eq_true rfl⟩) hP hD hS hA [0, 1, 2, 3] [] [] rfl rfl (by decide) (by decide) (fun w1 H locs hR hP hD hS => ?_)
  obtain ⟨fn, hfn, rfl⟩ := hR
  have hP : va_P G vwCl [(h0, .inr (0, [.ref qk, .ref qb, .ref qo])), (qk, .inl (dB, 32, .inl fk)), (qb, .inl (dB, 8, .inl fb)), (qo, .inl (dB, 8, .inl fn))] H := hP
  have hD : va_D A [(h0, .inr (0, [.ref qk, .ref qb, .ref qo])), (qk, .inl (dB, 32, .inl fk)), (qb, .inl (dB, 8, .inl fb)), (qo, .inl (dB, 8, .inl fn))] := hD
  refine W.widen (k := 8) (n := 154) (Nat.le_of_ble_eq_true rfl) (Nat.le_of_ble_eq_true rfl) ?_
  exact W.vret hx hb hr (fun t ht hW => ⟨⟨(), rfl, trivial, _, ⟨fn, hfn, rfl⟩, by rw [ht]; exact hP, hD⟩, hS.F ht⟩) hS.2.2 dX1_lock_6
set_option maxHeartbeats 4000000 in
set_option maxRecDepth 100000 in
/-- the way back -/
theorem met_back (l : Launch) (G : va_G) (dB dJ : ClassId) (ft : Nat) (h0 qk qb qo : Nat) (fk fb fo : Nat → Int32) (kind : Int32) (sz : Nat) : Met l yX1_open (ws_ yX1_open cX1_open 2 none) ({ frames := 5, cells := 8, slots := 154, locals := 150 }) (sk_Pre G dB dJ ft [.ref h0, .int kind] sz [(h0, .inr (0, [.ref qk, .ref qb, .ref qo])), (qk, .inl (dB, 32, .inl fk)), (qb, .inl (dB, 8, .inl fb)), (qo, .inl (dB, 8, .inl fo))]) (sk_Qv G (va_A [(h0, .inr (0, [.ref qk, .ref qb, .ref qo])), (qk, .inl (dB, 32, .inl fk)), (qb, .inl (dB, 8, .inl fb)), (qo, .inl (dB, 8, .inl fo))] sz) (fun w => ∃ fn : Nat → Int32, sk_is fn (sk_do 0 (fun j => sk_by (fk j)) (sk_of fb)) ∧ w = [(h0, .inr (0, [.ref qk, .ref qb, .ref qo])), (qk, .inl (dB, 32, .inl fk)), (qb, .inl (dB, 8, .inl fb)), (qo, .inl (dB, 8, .inl fn))])) 8 154 (va_A [(h0, .inr (0, [.ref qk, .ref qb, .ref qo])), (qk, .inl (dB, 32, .inl fk)), (qb, .inl (dB, 8, .inl fb)), (qo, .inl (dB, 8, .inl fo))] sz) := by
  refine Met.ofW (cc := cX1_open) (maxL := 2) (ret := none) (by decide) rfl ?_
  intro p e s m args below meth c s₁ B hml hv
  obtain ⟨rfl, hsz, hP, hK, hD0, hE⟩ := hv
  have hx := B.exec
  have hb := B.bytes
  have hr := B.returns
  have hts := atoms_spec (ws := ws_ yX1_open cX1_open 2 none) B.pre
  have hts : ∀ w ∈ lw_all, w.before _ s = true := fun w h => hts w (List.mem_cons_of_mem _ h)
  have hown : s.vm.findClass RX1 = some m.cls := findClass_of_methodNamed B.named
  have hlocks := B.notSynchronized
  subst hsz
  have hD := hD0.self (sz := s.heap.size)
  generalize hAe : va_A [(h0, .inr (0, [.ref qk, .ref qb, .ref qo])), (qk, .inl (dB, 32, .inl fk)), (qb, .inl (dB, 8, .inl fb)), (qo, .inl (dB, 8, .inl fo))] s.heap.size = A at hD hE ⊢
  have hA : ∀ q : Nat, s.heap.size ≤ q → A q := fun q h => by rw [← hAe]; exact Or.inr h
  have hS : va_S A s.heap s.heap [] := va_S.rf
  have hP : va_P G vwCl [(h0, .inr (0, [.ref qk, .ref qb, .ref qo])), (qk, .inl (dB, 32, .inl fk)), (qb, .inl (dB, 8, .inl fb)), (qo, .inl (dB, 8, .inl fo))] s.heap := hP
  have hl := lv_entry ([.ref h0, .int kind]) (n := 2) (Nat.le_of_ble_eq_true rfl)
  rw [lg_entry_eq]
  generalize (lg_sl ([.ref h0, .int kind]) ++ List.replicate (2 - (lg_sl ([.ref h0, .int kind])).length) Slot.unset).toArray = ls at hl ⊢
  have hl : lv_has ls 2 [(0, .ref h0), (1, .int kind)] := hl
  refine lv_aload_n hx hb dX1_open_0 rfl (lv_at hl 0 rfl) ?_
  refine lv_iconst (v := 0) hx hb dX1_open_1 (by decide) ?_
  refine lv_iload_n hx hb dX1_open_2 rfl (lv_at hl 1 rfl) ?_
  refine sk_cv (va_runV (As := [.int 0, .int kind]) (rest := []) ⟨hx, hb, hml, hown, hts⟩ (met_run l G dB dJ ft h0 qk qb qo fk fb fo 0 kind (Or.inl rfl) s.heap.size) (cwV 2 hts (lw_V q21 q23 qs0 q5 q25) rfl rfl rfl (by decide +kernel) ⟨Nat.le_of_ble_eq_true rfl, Nat.le_of_ble_eq_true rfl⟩) ⟨sk_blind, va_recv hK hP (ci := 0) (q0 := 0) rfl rfl, sk_pre hP hD hK hE hS hA [.ref h0, .int 0, .int kind] [0, 1, 2, 3] rfl (by decide)⟩ rfl rfl hl.1 rfl (lv_room (Nat.le_of_ble_eq_true rfl)) dX1_open_3 ⟨Nat.le_of_ble_eq_true rfl, Nat.le_of_ble_eq_true rfl⟩) hP hD hS hA [0, 1, 2, 3] [] [] rfl rfl (by decide) (by decide) (fun w1 H locs hR hP hD hS => ?_)
  obtain ⟨fn, hfn, rfl⟩ := hR
  have hP : va_P G vwCl [(h0, .inr (0, [.ref qk, .ref qb, .ref qo])), (qk, .inl (dB, 32, .inl fk)), (qb, .inl (dB, 8, .inl fb)), (qo, .inl (dB, 8, .inl fn))] H := hP
  have hD : va_D A [(h0, .inr (0, [.ref qk, .ref qb, .ref qo])), (qk, .inl (dB, 32, .inl fk)), (qb, .inl (dB, 8, .inl fb)), (qo, .inl (dB, 8, .inl fn))] := hD
  refine W.widen (k := 8) (n := 154) (Nat.le_of_ble_eq_true rfl) (Nat.le_of_ble_eq_true rfl) ?_
  exact W.vret hx hb hr (fun t ht hW => ⟨⟨(), rfl, trivial, _, ⟨fn, hfn, rfl⟩, by rw [ht]; exact hP, hD⟩, hS.F ht⟩) hS.2.2 dX1_open_6
end
section
def sk_cell (L : Nat) (xs : Nat → Int32) (k : Nat) : Int32 := if k < L then xs k else 0
abbrev sk_scr (b L : Nat) (xs : Nat → Int32) (A : Nat → Prop) (U : State) (H : Heap) : Prop := va_T .int b L (fun j => .int (xs j)) A U H
def sk_PreC (b L : Nat) (xs : Nat → Int32) (av : List Value) : Array Value → State → Prop := va_Pc av (fun U => sk_scr b L xs (fun _ => False) U U.heap)
theorem sk_blindC {b L : Nat} {xs : Nat → Int32} {av : List Value} : FrameBlind (sk_PreC b L xs av) := fun a U g mk q => ⟨q.1, va_T.moved (u := U) (U := U.calling g mk a) (Vm.Alike.refl U.vm) q.2⟩
theorem sk_preC {b L : Nat} {xs : Nat → Int32} {A : Nat → Prop} {s : State} {H : Heap} {locs : List Loc} (hT : sk_scr b L xs A s s.heap) (hS : va_S A s.heap H locs) (av : List Value) : ∀ U : State, U.heap = H → s.WarmedH U.vm → sk_PreC b L xs av av.toArray U := by
  intro U hU hW
  exact ⟨rfl, by show sk_scr b L xs (fun _ => False) U U.heap; rw [hU]; exact va_T.moved hW.alike ((hT.kept hS.2.1).narrow (fun _ h => h.elim))⟩
def sk_PreL (G : va_G) (dB dJ : ClassId) (ft b L : Nat) (xs : Nat → Int32) (av : List Value) (sz : Nat) : Array Value → State → Prop :=
  va_Pc av (fun U => U.heap.size = sz ∧ va_K G vwCl (sk_ty dB dJ) U ∧ sk_E ft (va_A [] sz) U U.heap ∧ sk_scr b L xs (va_A [] sz) U U.heap)
theorem sk_blindL {G : va_G} {dB dJ : ClassId} {ft b L : Nat} {xs : Nat → Int32} {av : List Value} {sz : Nat} : FrameBlind (sk_PreL G dB dJ ft b L xs av sz) := fun a U g mk q => by
  obtain ⟨q0, q1, qK, qE, qT⟩ := q
  exact ⟨q0, q1, va_K.moved (u := U) (U := U.calling g mk a) (Vm.Alike.refl U.vm) qK, sk_E.moved (u := U) (U := U.calling g mk a) (Vm.Alike.refl U.vm) qE, va_T.moved (u := U) (U := U.calling g mk a) (Vm.Alike.refl U.vm) qT⟩
theorem sk_preL {G : va_G} {dB dJ : ClassId} {ft b L : Nat} {xs : Nat → Int32} {A : Nat → Prop} {s : State} {H : Heap} {locs : List Loc} {ws : va_W} (hD : va_D A ws) (hK : va_K G vwCl (sk_ty dB dJ) s) (hE : sk_E ft A s s.heap) (hT : sk_scr b L xs A s s.heap) (hS : va_S A s.heap H locs) (hA : ∀ q, s.heap.size ≤ q → A q) (av : List Value) : ∀ U : State, U.heap = H → s.WarmedH U.vm → sk_PreL G dB dJ ft b L xs av H.size av.toArray U := by
  intro U hU hW
  have hF := va_free (wc := []) hD hS hA [] rfl
  exact ⟨rfl, by rw [hU], va_K.moved hW.alike hK, hE.pass hS hF hU hW.alike, by rw [hU]; exact va_T.moved hW.alike ((hT.kept hS.2.1).narrow hF)⟩
def sk_PreS (G : va_G) (dB dJ : ClassId) (ft b L : Nat) (xs : Nat → Int32) (av : List Value) (ws : va_W) : Array Value → State → Prop :=
  va_Pc av (fun U => va_P G vwCl ws U.heap ∧ va_K G vwCl (sk_ty dB dJ) U ∧ sk_E ft (fun _ => False) U U.heap ∧ sk_scr b L xs (fun _ => False) U U.heap)
theorem sk_blindS {G : va_G} {dB dJ : ClassId} {ft b L : Nat} {xs : Nat → Int32} {av : List Value} {ws : va_W} : FrameBlind (sk_PreS G dB dJ ft b L xs av ws) := fun a U g mk q => by
  obtain ⟨q0, qP, qK, qE, qT⟩ := q
  exact ⟨q0, qP, va_K.moved (u := U) (U := U.calling g mk a) (Vm.Alike.refl U.vm) qK, sk_E.moved (u := U) (U := U.calling g mk a) (Vm.Alike.refl U.vm) qE, va_T.moved (u := U) (U := U.calling g mk a) (Vm.Alike.refl U.vm) qT⟩
theorem sk_preS {G : va_G} {dB dJ : ClassId} {ft b L : Nat} {xs : Nat → Int32} {A : Nat → Prop} {s : State} {H : Heap} {locs : List Loc} {ws wc : va_W} (hP : va_P G vwCl ws H) (hK : va_K G vwCl (sk_ty dB dJ) s) (hE : sk_E ft A s s.heap) (hT : sk_scr b L xs A s s.heap) (hS : va_S A s.heap H locs) (av : List Value) (isC : List Nat) (hC : isC.map (fun i => ws[i]?) = wc.map some) : ∀ U : State, U.heap = H → s.WarmedH U.vm → sk_PreS G dB dJ ft b L xs av wc av.toArray U := by
  intro U hU hW
  exact ⟨rfl, by rw [hU]; exact sk_cut hP isC hC, va_K.moved hW.alike hK, hE.pass hS (fun _ h => h.elim) hU hW.alike, by rw [hU]; exact va_T.moved hW.alike ((hT.kept hS.2.1).narrow (fun _ h => h.elim))⟩
theorem sk_us31 : ∀ j, j < 4 → (((nI (24 - 8 * j)).toUInt32 &&& Int32.toUInt32 31).toBitVec % 32).toNat = 24 - 8 * j := by decide +kernel
theorem sk_us (w : Int32) {j : Nat} (hj : j < 4) : (w.toUInt32 >>> ((nI (24 - 8 * j)).toUInt32 &&& Int32.toUInt32 31)).toInt32 &&& 255 = nI (sk_wb w j) := by
  rw [pk_and _ 8 (by decide), pk_ushr _ _ (24 - 8 * j) (sk_us31 j hj)]
  rfl
theorem sk_of_eq {f : Nat → Int32} {t : Nat → Nat} (h : ∀ j, j < 8 → sk_by (f j) = t j) : sk_of f = (t 0 * 256 + t 1, t 2 * 256 + t 3, t 4 * 256 + t 5, t 6 * 256 + t 7) := by
  unfold sk_of sk_w
  rw [h 0 (by decide), h 1 (by decide), h 2 (by decide), h 3 (by decide), h 4 (by decide), h 5 (by decide), h 6 (by decide), h 7 (by decide)]
/-- what block(a, b) leaves, byte by byte -/
def sk_bt (a b : Int32) (i : Nat) : Nat := if 4 ≤ i then sk_wb b (i - 4) else sk_wb a i
theorem sk_bt_of {f g : Nat → Int32} {a b : Int32} (h : ∀ i, sk_by (g i) = if 4 ≤ i ∧ i < 8 then sk_wb b (i - 4) else if 0 ≤ i ∧ i < 4 then sk_wb a (i - 0) else sk_by (f i)) : ∀ i, i < 8 → sk_by (g i) = sk_bt a b i := by
  intro i hi
  rw [h]
  unfold sk_bt
  by_cases h4 : 4 ≤ i
  · rw [if_pos ⟨h4, hi⟩, if_pos h4]
  · rw [if_neg (fun z => h4 z.1), if_pos (by omega), if_neg h4, Nat.sub_zero]
theorem sk_bt_cell (L : Nat) (xs : Nat → Int32) : ∀ i, i < 8 → sk_bt (sk_cell L xs 8) (sk_cell L xs 9) i = sk_wb (sk_cell L xs (8 + i / 4)) (i % 4) := by
  intro i hi
  unfold sk_bt
  by_cases h4 : 4 ≤ i
  · rw [if_pos h4, show 8 + i / 4 = 9 by omega, show i % 4 = i - 4 by omega]
  · rw [if_neg h4, show 8 + i / 4 = 8 by omega, show i % 4 = i by omega]
/-- the published key and block -/
theorem sk_kn_key {f k4 k8 : Nat → Int32} (h1 : ∀ i, sk_by (k4 i) = if 16 * 0 ≤ i ∧ i < 16 * 0 + 16 then sk_kb4 10061943 1716864051 571539456 0 (i - 16 * 0) else sk_by (f i)) (h2 : ∀ i, sk_by (k8 i) = if 16 * 1 ≤ i ∧ i < 16 * 1 + 16 then sk_kb4 0 0 0 0 (i - 16 * 1) else sk_by (k4 i)) : ∀ j, j < 10 → sk_by (k8 j) = sk_K0 j := by
  intro j hj
  rw [h2, if_neg (by omega), h1, if_pos (by omega)]
  exact (by decide +kernel : ∀ j, j < 10 → sk_kb4 10061943 1716864051 571539456 0 (j - 16 * 0) = sk_K0 j) j hj
theorem sk_kn_block : ((sk_bt 857870592 (-573785174) 0 * 256 + sk_bt 857870592 (-573785174) 1, sk_bt 857870592 (-573785174) 2 * 256 + sk_bt 857870592 (-573785174) 3, sk_bt 857870592 (-573785174) 4 * 256 + sk_bt 857870592 (-573785174) 5, sk_bt 857870592 (-573785174) 6 * 256 + sk_bt 857870592 (-573785174) 7) : sk_S) = (13090, 4352, 56780, 48042) := by decide +kernel
theorem sk_kn {k8 b2 fn : Nat → Int32} (hk : ∀ j, j < 10 → sk_by (k8 j) = sk_K0 j) (hb : ∀ i, i < 8 → sk_by (b2 i) = sk_bt 857870592 (-573785174) i) (h : sk_is fn (sk_do 1 (fun j => sk_by (k8 j)) (sk_of b2))) : sk_is fn (9607, 51938, 31250, 54016) := by
  rw [sk_do_1, sk_enc_congr (K' := sk_K0) hk, sk_of_eq hb, sk_kn_block, sk_known] at h
  exact h
set_option maxHeartbeats 4000000 in
set_option maxRecDepth 100000 in
/-- cell(s, k) -/
theorem met_cell (l : Launch) (G : va_G) (dB dJ : ClassId) (ft : Nat) (b L : Nat) (xs : Nat → Int32) (hL : L ≤ 10) (k : Nat) (hk : k < 100) : Met l yX0_cell (ws_ yX0_cell cX0_cell 2 (some .int)) ({ frames := 0, cells := 0, slots := 0, locals := 0 }) (sk_PreC b L xs [.ref b, .int (nI k)]) (vp_Si (fun r => r = sk_cell L xs k)) 0 0 (fun _ => False) := by
  refine Met.ofW (cc := cX0_cell) (maxL := 2) (ret := (some .int)) (by decide) rfl ?_
  intro p e s m args below meth c s₁ B hml hv
  obtain ⟨rfl, hT⟩ := hv
  have hx := B.exec
  have hb := B.bytes
  have hr := B.returns
  have hts := atoms_spec (ws := ws_ yX0_cell cX0_cell 2 (some .int)) B.pre
  have hts : ∀ w ∈ lw_all, w.before _ s = true := fun w h => hts w (List.mem_cons_of_mem _ h)
  have hown : s.vm.findClass RX0 = some m.cls := findClass_of_methodNamed B.named
  have hlocks := B.notSynchronized
  have hS : va_S (fun _ => False) s.heap s.heap [] := va_S.rf
  have hl := lv_entry ([.ref b, .int (nI k)]) (n := 2) (Nat.le_of_ble_eq_true rfl)
  rw [lg_entry_eq]
  generalize (lg_sl ([.ref b, .int (nI k)]) ++ List.replicate (2 - (lg_sl ([.ref b, .int (nI k)])).length) Slot.unset).toArray = ls at hl ⊢
  have hl : lv_has ls 2 [(0, .ref b), (1, .int (nI k))] := hl
  refine lv_iload_n hx hb dX0_cell_0 rfl (lv_at hl 1 rfl) ?_
  refine lv_aload_n hx hb dX0_cell_1 rfl (lv_at hl 0 rfl) ?_
  refine va_tlen hx hb hT hS (v := nI L) rfl dX0_cell_2 ?_
  refine lv_icmp_ge (tgt := 12) hx hb dX0_cell_3 (by decide) (fun h9 => ?_) (fun h9 => ?_)
  · have hk9 : ¬ k < L := by have := (nI_leI (by omega) (by omega)).mp h9; omega
    refine lv_iconst (v := 0) hx hb dX0_cell_12 (by decide) ?_
    refine sk_top (w := sk_cell L xs k) ((if_neg hk9).symm) ?_
    exact W.iret hx hb hr (fun t ht hW => ⟨_, rfl, rfl, ht⟩) (fun _ h => by cases h) dX0_cell_13
  · have hk9 : k < L := by
      rcases Nat.lt_or_ge k L with h | h
      · exact h
      · exact absurd (nI_le h (by omega)) h9
    refine lv_aload_n hx hb dX0_cell_6 rfl (lv_at hl 0 rfl) ?_
    refine lv_iload_n hx hb dX0_cell_7 rfl (lv_at hl 1 rfl) ?_
    refine va_ti hx hb hT hS (vp_in_nI hk9 (by omega)) (v := .int (xs k)) (by show Value.int (xs (nI k).toNatClampNeg) = _; rw [nI_clamp (by omega)]) dX0_cell_8 ?_
    refine lv_goto (tgt := 13) hx hb dX0_cell_9 (by decide) ?_
    refine sk_top (w := sk_cell L xs k) ((if_pos hk9).symm) ?_
    exact W.iret hx hb hr (fun t ht hW => ⟨_, rfl, rfl, ht⟩) (fun _ h => by cases h) dX0_cell_13
set_option maxHeartbeats 4000000 in
set_option maxRecDepth 100000 in
/-- with(s): a desk with the script in it -/
theorem met_with (l : Launch) (G : va_G) (dB dJ : ClassId) (ft : Nat) (b L : Nat) (xs : Nat → Int32) (hL : L ≤ 10) (sz : Nat) : Met l yX0_with (ws_ yX0_with cX0_with 2 (some (.object "SkipjackDesk"))) ({ frames := 2, cells := 4, slots := 51, locals := 70 }) (sk_PreL G dB dJ ft b L xs [.ref b] sz) (sk_Qr G (va_A [] sz) (fun x0 w => ∃ (qk qb qo : Nat) (fk fb : Nat → Int32), (∀ i, i < 8 → sk_by (fb i) = sk_wb (sk_cell L xs (8 + i / 4)) (i % 4)) ∧ w = [(x0, .inr (0, [.ref qk, .ref qb, .ref qo])), (qo, .inl (dB, 8, .inl (fun _ => 0))), (qk, .inl (dB, 32, .inl fk)), (qb, .inl (dB, 8, .inl fb))])) 4 51 (va_A [] sz) := by
  refine Met.ofW (cc := cX0_with) (maxL := 2) (ret := (some (.object "SkipjackDesk"))) (by decide) rfl ?_
  intro p e s m args below meth c s₁ B hml hv
  obtain ⟨rfl, hsz, hK, hE, hT⟩ := hv
  have hx := B.exec
  have hb := B.bytes
  have hr := B.returns
  have hts := atoms_spec (ws := ws_ yX0_with cX0_with 2 (some (.object "SkipjackDesk"))) B.pre
  have hts : ∀ w ∈ lw_all, w.before _ s = true := fun w h => hts w (List.mem_cons_of_mem _ h)
  have hown : s.vm.findClass RX0 = some m.cls := findClass_of_methodNamed B.named
  have hlocks := B.notSynchronized
  subst hsz
  generalize hAe : va_A [] s.heap.size = A at hE hT ⊢
  have hA : ∀ q : Nat, s.heap.size ≤ q → A q := fun q h => by rw [← hAe]; exact Or.inr h
  have hS : va_S A s.heap s.heap [] := va_S.rf
  have hP : va_P G vwCl [] s.heap := fun k q h => by simp at h
  have hD : va_D A [] := ⟨fun i j p q h => by simp at h, fun k q h => by simp at h⟩
  have hl := lv_entry ([.ref b]) (n := 2) (Nat.le_of_ble_eq_true rfl)
  rw [lg_entry_eq]
  generalize (lg_sl ([.ref b]) ++ List.replicate (2 - (lg_sl ([.ref b])).length) Slot.unset).toArray = ls at hl ⊢
  have hl : lv_has ls 2 [(0, .ref b)] := hl
  refine va_new (D := G) (ci := 0) (fs := [.null, .null, .null]) (C := RX1) (T := TX1) (N := 3) hx hb hts in_X1 tyX1 tyX1_ok hown (hts _ q248) (hts _ q24) (hts _ q5) hK hP hD hS hA rfl (fun j hj => by rcases (show j = 0 ∨ j = 1 ∨ j = 2 by omega) with rfl | rfl | rfl <;> rfl) (Nat.le_of_ble_eq_true rfl) (Nat.le_of_ble_eq_true rfl) dX0_with_0 (fun x0 H hP hD hS => ?_)
  have hP : va_P G vwCl [(x0, .inr (0, [.null, .null, .null]))] H := hP
  have hD : va_D A [(x0, .inr (0, [.null, .null, .null]))] := hD
  refine W.widen (k := 1) (n := 3) (Nat.le_of_ble_eq_true rfl) (Nat.le_of_ble_eq_true rfl) ?_
  refine lv_dup hx hb dX0_with_3 rfl ?_
  refine sk_cv (va_runI (As := []) (rest := [.ref x0]) ⟨hx, hb, hml, hown, hts⟩ (met_desk l G dB dJ ft x0 H.size) (cwI 0 hts (lw_meth q251) rfl rfl rfl (hts _ q5) (hts _ q249) (hts _ q250) rfl (by decide +kernel) ⟨Nat.le_of_ble_eq_true rfl, Nat.le_of_ble_eq_true rfl⟩) ⟨sk_blind, sk_pre hP hD hK hE hS hA [.ref x0] [0] rfl (by decide)⟩ rfl rfl hl.1 rfl (lv_room (Nat.le_of_ble_eq_true rfl)) dX0_with_4 ⟨Nat.le_of_ble_eq_true rfl, Nat.le_of_ble_eq_true rfl⟩) hP hD hS hA [0] [] [] rfl rfl (by decide) (by decide) (fun w1 H locs hR hP hD hS => ?_)
  obtain ⟨qk, qb, qo, rfl⟩ := hR
  have hP : va_P G vwCl [(x0, .inr (0, [.ref qk, .ref qb, .ref qo])), (qk, .inl (dB, 32, .inl (fun _ => 0))), (qb, .inl (dB, 8, .inl (fun _ => 0))), (qo, .inl (dB, 8, .inl (fun _ => 0)))] H := hP
  have hD : va_D A [(x0, .inr (0, [.ref qk, .ref qb, .ref qo])), (qk, .inl (dB, 32, .inl (fun _ => 0))), (qb, .inl (dB, 8, .inl (fun _ => 0))), (qo, .inl (dB, 8, .inl (fun _ => 0)))] := hD
  refine W.widen (k := 4) (n := 51) (Nat.le_of_ble_eq_true rfl) (Nat.le_of_ble_eq_true rfl) ?_
  refine lv_astore_n (lv' := [(1, .ref x0), (0, .ref b)]) hx hb dX0_with_7 rfl hl (by decide) rfl (fun ls hl => ?_)
  refine lv_aload_n hx hb dX0_with_8 rfl (lv_at hl 0 rfl) ?_
  refine lv_iconst (v := 0) hx hb dX0_with_9 (by decide) ?_
  refine sk_top (w := nI 0) (rfl) ?_
  refine lv_aload_n hx hb dX0_with_10 rfl (lv_at hl 1 rfl) ?_
  refine lv_iconst (v := 0) hx hb dX0_with_11 (by decide) ?_
  refine sk_top (w := nI 0) (rfl) ?_
  refine vp_callSi (W.runS (As := [.ref b, .int (nI 0)]) (rest := [.int (nI 0), .ref x0]) ⟨hx, hb, hml, hown, hts⟩ (met_cell l G dB dJ ft b L xs hL 0 (by omega)) (va_cwS 2 hts (lw_S q263 q264 q4 q265) rfl rfl rfl (by decide +kernel) ⟨Nat.le_of_ble_eq_true rfl, Nat.le_of_ble_eq_true rfl⟩) ⟨sk_blindC, sk_preC hT hS [.ref b, .int (nI 0)]⟩ rfl rfl hl.1 rfl (lv_room (Nat.le_of_ble_eq_true rfl)) dX0_with_12 ⟨Nat.le_of_ble_eq_true rfl, Nat.le_of_ble_eq_true rfl⟩) (fun r hr9 => ?_)
  subst hr9
  refine lv_aload_n hx hb dX0_with_15 rfl (lv_at hl 1 rfl) ?_
  refine lv_iconst (v := 1) hx hb dX0_with_16 (by decide) ?_
  refine sk_top (w := nI 1) (rfl) ?_
  refine vp_callSi (W.runS (As := [.ref b, .int (nI 1)]) (rest := [.int (sk_cell L xs 0), .int (nI 0), .ref x0]) ⟨hx, hb, hml, hown, hts⟩ (met_cell l G dB dJ ft b L xs hL 1 (by omega)) (va_cwS 2 hts (lw_S q263 q264 q4 q265) rfl rfl rfl (by decide +kernel) ⟨Nat.le_of_ble_eq_true rfl, Nat.le_of_ble_eq_true rfl⟩) ⟨sk_blindC, sk_preC hT hS [.ref b, .int (nI 1)]⟩ rfl rfl hl.1 rfl (lv_room (Nat.le_of_ble_eq_true rfl)) dX0_with_17 ⟨Nat.le_of_ble_eq_true rfl, Nat.le_of_ble_eq_true rfl⟩) (fun r hr9 => ?_)
  subst hr9
  refine lv_aload_n hx hb dX0_with_20 rfl (lv_at hl 1 rfl) ?_
  refine lv_iconst (v := 2) hx hb dX0_with_21 (by decide) ?_
  refine sk_top (w := nI 2) (rfl) ?_
  refine vp_callSi (W.runS (As := [.ref b, .int (nI 2)]) (rest := [.int (sk_cell L xs 1), .int (sk_cell L xs 0), .int (nI 0), .ref x0]) ⟨hx, hb, hml, hown, hts⟩ (met_cell l G dB dJ ft b L xs hL 2 (by omega)) (va_cwS 2 hts (lw_S q263 q264 q4 q265) rfl rfl rfl (by decide +kernel) ⟨Nat.le_of_ble_eq_true rfl, Nat.le_of_ble_eq_true rfl⟩) ⟨sk_blindC, sk_preC hT hS [.ref b, .int (nI 2)]⟩ rfl rfl hl.1 rfl (lv_room (Nat.le_of_ble_eq_true rfl)) dX0_with_22 ⟨Nat.le_of_ble_eq_true rfl, Nat.le_of_ble_eq_true rfl⟩) (fun r hr9 => ?_)
  subst hr9
  refine lv_aload_n hx hb dX0_with_25 rfl (lv_at hl 1 rfl) ?_
  refine lv_iconst (v := 3) hx hb dX0_with_26 (by decide) ?_
  refine sk_top (w := nI 3) (rfl) ?_
  refine vp_callSi (W.runS (As := [.ref b, .int (nI 3)]) (rest := [.int (sk_cell L xs 2), .int (sk_cell L xs 1), .int (sk_cell L xs 0), .int (nI 0), .ref x0]) ⟨hx, hb, hml, hown, hts⟩ (met_cell l G dB dJ ft b L xs hL 3 (by omega)) (va_cwS 2 hts (lw_S q263 q264 q4 q265) rfl rfl rfl (by decide +kernel) ⟨Nat.le_of_ble_eq_true rfl, Nat.le_of_ble_eq_true rfl⟩) ⟨sk_blindC, sk_preC hT hS [.ref b, .int (nI 3)]⟩ rfl rfl hl.1 rfl (lv_room (Nat.le_of_ble_eq_true rfl)) dX0_with_27 ⟨Nat.le_of_ble_eq_true rfl, Nat.le_of_ble_eq_true rfl⟩) (fun r hr9 => ?_)
  subst hr9
  refine sk_cv (va_runV (As := [.int (nI 0), .int (sk_cell L xs 0), .int (sk_cell L xs 1), .int (sk_cell L xs 2), .int (sk_cell L xs 3)]) (rest := []) ⟨hx, hb, hml, hown, hts⟩ (met_key l G dB dJ ft x0 qk qb qo (fun _ => 0) (fun _ => 0) (fun _ => 0) 0 (by decide) (sk_cell L xs 0) (sk_cell L xs 1) (sk_cell L xs 2) (sk_cell L xs 3) H.size) (cwV 5 hts (lw_V q266 q267 q268 q5 q269) rfl rfl rfl (by decide +kernel) ⟨Nat.le_of_ble_eq_true rfl, Nat.le_of_ble_eq_true rfl⟩) ⟨sk_blind, va_recv hK hP (ci := 0) (q0 := 0) rfl rfl, sk_pre hP hD hK hE hS hA [.ref x0, .int (nI 0), .int (sk_cell L xs 0), .int (sk_cell L xs 1), .int (sk_cell L xs 2), .int (sk_cell L xs 3)] [0, 1, 2, 3] rfl (by decide)⟩ rfl rfl hl.1 rfl (lv_room (Nat.le_of_ble_eq_true rfl)) dX0_with_30 ⟨Nat.le_of_ble_eq_true rfl, Nat.le_of_ble_eq_true rfl⟩) hP hD hS hA [0, 1, 2, 3] [] [] rfl rfl (by decide) (by decide) (fun w1 H locs hR hP hD hS => ?_)
  obtain ⟨k4, hk4, rfl⟩ := hR
  have hP : va_P G vwCl [(x0, .inr (0, [.ref qk, .ref qb, .ref qo])), (qb, .inl (dB, 8, .inl (fun _ => 0))), (qo, .inl (dB, 8, .inl (fun _ => 0))), (qk, .inl (dB, 32, .inl k4))] H := hP
  have hD : va_D A [(x0, .inr (0, [.ref qk, .ref qb, .ref qo])), (qb, .inl (dB, 8, .inl (fun _ => 0))), (qo, .inl (dB, 8, .inl (fun _ => 0))), (qk, .inl (dB, 32, .inl k4))] := hD
  refine lv_aload_n hx hb dX0_with_33 rfl (lv_at hl 0 rfl) ?_
  refine lv_iconst (v := 1) hx hb dX0_with_34 (by decide) ?_
  refine sk_top (w := nI 1) (rfl) ?_
  refine lv_aload_n hx hb dX0_with_35 rfl (lv_at hl 1 rfl) ?_
  refine lv_iconst (v := 4) hx hb dX0_with_36 (by decide) ?_
  refine sk_top (w := nI 4) (rfl) ?_
  refine vp_callSi (W.runS (As := [.ref b, .int (nI 4)]) (rest := [.int (nI 1), .ref x0]) ⟨hx, hb, hml, hown, hts⟩ (met_cell l G dB dJ ft b L xs hL 4 (by omega)) (va_cwS 2 hts (lw_S q263 q264 q4 q265) rfl rfl rfl (by decide +kernel) ⟨Nat.le_of_ble_eq_true rfl, Nat.le_of_ble_eq_true rfl⟩) ⟨sk_blindC, sk_preC hT hS [.ref b, .int (nI 4)]⟩ rfl rfl hl.1 rfl (lv_room (Nat.le_of_ble_eq_true rfl)) dX0_with_37 ⟨Nat.le_of_ble_eq_true rfl, Nat.le_of_ble_eq_true rfl⟩) (fun r hr9 => ?_)
  subst hr9
  refine lv_aload_n hx hb dX0_with_40 rfl (lv_at hl 1 rfl) ?_
  refine lv_iconst (v := 5) hx hb dX0_with_41 (by decide) ?_
  refine sk_top (w := nI 5) (rfl) ?_
  refine vp_callSi (W.runS (As := [.ref b, .int (nI 5)]) (rest := [.int (sk_cell L xs 4), .int (nI 1), .ref x0]) ⟨hx, hb, hml, hown, hts⟩ (met_cell l G dB dJ ft b L xs hL 5 (by omega)) (va_cwS 2 hts (lw_S q263 q264 q4 q265) rfl rfl rfl (by decide +kernel) ⟨Nat.le_of_ble_eq_true rfl, Nat.le_of_ble_eq_true rfl⟩) ⟨sk_blindC, sk_preC hT hS [.ref b, .int (nI 5)]⟩ rfl rfl hl.1 rfl (lv_room (Nat.le_of_ble_eq_true rfl)) dX0_with_42 ⟨Nat.le_of_ble_eq_true rfl, Nat.le_of_ble_eq_true rfl⟩) (fun r hr9 => ?_)
  subst hr9
  refine lv_aload_n hx hb dX0_with_45 rfl (lv_at hl 1 rfl) ?_
  refine lv_bipush (v := 6) hx hb dX0_with_46 (by decide) ?_
  refine sk_top (w := nI 6) (rfl) ?_
  refine vp_callSi (W.runS (As := [.ref b, .int (nI 6)]) (rest := [.int (sk_cell L xs 5), .int (sk_cell L xs 4), .int (nI 1), .ref x0]) ⟨hx, hb, hml, hown, hts⟩ (met_cell l G dB dJ ft b L xs hL 6 (by omega)) (va_cwS 2 hts (lw_S q263 q264 q4 q265) rfl rfl rfl (by decide +kernel) ⟨Nat.le_of_ble_eq_true rfl, Nat.le_of_ble_eq_true rfl⟩) ⟨sk_blindC, sk_preC hT hS [.ref b, .int (nI 6)]⟩ rfl rfl hl.1 rfl (lv_room (Nat.le_of_ble_eq_true rfl)) dX0_with_48 ⟨Nat.le_of_ble_eq_true rfl, Nat.le_of_ble_eq_true rfl⟩) (fun r hr9 => ?_)
  subst hr9
  refine lv_aload_n hx hb dX0_with_51 rfl (lv_at hl 1 rfl) ?_
  refine lv_bipush (v := 7) hx hb dX0_with_52 (by decide) ?_
  refine sk_top (w := nI 7) (rfl) ?_
  refine vp_callSi (W.runS (As := [.ref b, .int (nI 7)]) (rest := [.int (sk_cell L xs 6), .int (sk_cell L xs 5), .int (sk_cell L xs 4), .int (nI 1), .ref x0]) ⟨hx, hb, hml, hown, hts⟩ (met_cell l G dB dJ ft b L xs hL 7 (by omega)) (va_cwS 2 hts (lw_S q263 q264 q4 q265) rfl rfl rfl (by decide +kernel) ⟨Nat.le_of_ble_eq_true rfl, Nat.le_of_ble_eq_true rfl⟩) ⟨sk_blindC, sk_preC hT hS [.ref b, .int (nI 7)]⟩ rfl rfl hl.1 rfl (lv_room (Nat.le_of_ble_eq_true rfl)) dX0_with_54 ⟨Nat.le_of_ble_eq_true rfl, Nat.le_of_ble_eq_true rfl⟩) (fun r hr9 => ?_)
  subst hr9
  refine sk_cv (va_runV (As := [.int (nI 1), .int (sk_cell L xs 4), .int (sk_cell L xs 5), .int (sk_cell L xs 6), .int (sk_cell L xs 7)]) (rest := []) ⟨hx, hb, hml, hown, hts⟩ (met_key l G dB dJ ft x0 qk qb qo k4 (fun _ => 0) (fun _ => 0) 1 (by decide) (sk_cell L xs 4) (sk_cell L xs 5) (sk_cell L xs 6) (sk_cell L xs 7) H.size) (cwV 5 hts (lw_V q266 q267 q268 q5 q269) rfl rfl rfl (by decide +kernel) ⟨Nat.le_of_ble_eq_true rfl, Nat.le_of_ble_eq_true rfl⟩) ⟨sk_blind, va_recv hK hP (ci := 0) (q0 := 0) rfl rfl, sk_pre hP hD hK hE hS hA [.ref x0, .int (nI 1), .int (sk_cell L xs 4), .int (sk_cell L xs 5), .int (sk_cell L xs 6), .int (sk_cell L xs 7)] [0, 3, 1, 2] rfl (by decide)⟩ rfl rfl hl.1 rfl (lv_room (Nat.le_of_ble_eq_true rfl)) dX0_with_57 ⟨Nat.le_of_ble_eq_true rfl, Nat.le_of_ble_eq_true rfl⟩) hP hD hS hA [0, 3, 1, 2] [] [] rfl rfl (by decide) (by decide) (fun w1 H locs hR hP hD hS => ?_)
  obtain ⟨k8, hk8, rfl⟩ := hR
  have hP : va_P G vwCl [(x0, .inr (0, [.ref qk, .ref qb, .ref qo])), (qb, .inl (dB, 8, .inl (fun _ => 0))), (qo, .inl (dB, 8, .inl (fun _ => 0))), (qk, .inl (dB, 32, .inl k8))] H := hP
  have hD : va_D A [(x0, .inr (0, [.ref qk, .ref qb, .ref qo])), (qb, .inl (dB, 8, .inl (fun _ => 0))), (qo, .inl (dB, 8, .inl (fun _ => 0))), (qk, .inl (dB, 32, .inl k8))] := hD
  refine lv_aload_n hx hb dX0_with_60 rfl (lv_at hl 0 rfl) ?_
  refine lv_aload_n hx hb dX0_with_61 rfl (lv_at hl 1 rfl) ?_
  refine lv_bipush (v := 8) hx hb dX0_with_62 (by decide) ?_
  refine sk_top (w := nI 8) (rfl) ?_
  refine vp_callSi (W.runS (As := [.ref b, .int (nI 8)]) (rest := [.ref x0]) ⟨hx, hb, hml, hown, hts⟩ (met_cell l G dB dJ ft b L xs hL 8 (by omega)) (va_cwS 2 hts (lw_S q263 q264 q4 q265) rfl rfl rfl (by decide +kernel) ⟨Nat.le_of_ble_eq_true rfl, Nat.le_of_ble_eq_true rfl⟩) ⟨sk_blindC, sk_preC hT hS [.ref b, .int (nI 8)]⟩ rfl rfl hl.1 rfl (lv_room (Nat.le_of_ble_eq_true rfl)) dX0_with_64 ⟨Nat.le_of_ble_eq_true rfl, Nat.le_of_ble_eq_true rfl⟩) (fun r hr9 => ?_)
  subst hr9
  refine lv_aload_n hx hb dX0_with_67 rfl (lv_at hl 1 rfl) ?_
  refine lv_bipush (v := 9) hx hb dX0_with_68 (by decide) ?_
  refine sk_top (w := nI 9) (rfl) ?_
  refine vp_callSi (W.runS (As := [.ref b, .int (nI 9)]) (rest := [.int (sk_cell L xs 8), .ref x0]) ⟨hx, hb, hml, hown, hts⟩ (met_cell l G dB dJ ft b L xs hL 9 (by omega)) (va_cwS 2 hts (lw_S q263 q264 q4 q265) rfl rfl rfl (by decide +kernel) ⟨Nat.le_of_ble_eq_true rfl, Nat.le_of_ble_eq_true rfl⟩) ⟨sk_blindC, sk_preC hT hS [.ref b, .int (nI 9)]⟩ rfl rfl hl.1 rfl (lv_room (Nat.le_of_ble_eq_true rfl)) dX0_with_70 ⟨Nat.le_of_ble_eq_true rfl, Nat.le_of_ble_eq_true rfl⟩) (fun r hr9 => ?_)
  subst hr9
  refine sk_cv (va_runV (As := [.int (sk_cell L xs 8), .int (sk_cell L xs 9)]) (rest := []) ⟨hx, hb, hml, hown, hts⟩ (met_block l G dB dJ ft x0 qk qb qo k8 (fun _ => 0) (fun _ => 0) (sk_cell L xs 8) (sk_cell L xs 9) H.size) (cwV 2 hts (lw_V q273 q274 q275 q5 q276) rfl rfl rfl (by decide +kernel) ⟨Nat.le_of_ble_eq_true rfl, Nat.le_of_ble_eq_true rfl⟩) ⟨sk_blind, va_recv hK hP (ci := 0) (q0 := 0) rfl rfl, sk_pre hP hD hK hE hS hA [.ref x0, .int (sk_cell L xs 8), .int (sk_cell L xs 9)] [0, 3, 1, 2] rfl (by decide)⟩ rfl rfl hl.1 rfl (lv_room (Nat.le_of_ble_eq_true rfl)) dX0_with_73 ⟨Nat.le_of_ble_eq_true rfl, Nat.le_of_ble_eq_true rfl⟩) hP hD hS hA [0, 3, 1, 2] [] [] rfl rfl (by decide) (by decide) (fun w1 H locs hR hP hD hS => ?_)
  obtain ⟨b2, hb2, rfl⟩ := hR
  have hP : va_P G vwCl [(x0, .inr (0, [.ref qk, .ref qb, .ref qo])), (qk, .inl (dB, 32, .inl k8)), (qo, .inl (dB, 8, .inl (fun _ => 0))), (qb, .inl (dB, 8, .inl b2))] H := hP
  have hD : va_D A [(x0, .inr (0, [.ref qk, .ref qb, .ref qo])), (qk, .inl (dB, 32, .inl k8)), (qo, .inl (dB, 8, .inl (fun _ => 0))), (qb, .inl (dB, 8, .inl b2))] := hD
  have hbb : ∀ i, i < 8 → sk_by (b2 i) = sk_wb (sk_cell L xs (8 + i / 4)) (i % 4) := fun i hi => (sk_bt_of hb2 i hi).trans (sk_bt_cell L xs i hi)
  have hP : va_P G vwCl [(x0, .inr (0, [.ref qk, .ref qb, .ref qo])), (qo, .inl (dB, 8, .inl (fun _ => 0))), (qk, .inl (dB, 32, .inl k8)), (qb, .inl (dB, 8, .inl b2))] _ := sk_cut hP [0, 2, 1, 3] rfl
  have hD : va_D A [(x0, .inr (0, [.ref qk, .ref qb, .ref qo])), (qo, .inl (dB, 8, .inl (fun _ => 0))), (qk, .inl (dB, 32, .inl k8)), (qb, .inl (dB, 8, .inl b2))] := hD.sub [0, 2, 1, 3] (by decide) rfl
  refine lv_aload_n hx hb dX0_with_76 rfl (lv_at hl 0 rfl) ?_
  refine W.widen (k := 4) (n := 51) (Nat.le_of_ble_eq_true rfl) (Nat.le_of_ble_eq_true rfl) ?_
  exact W.aret hx hb hr (Or.inl ⟨_, rfl⟩) (Or.inr ⟨_, rfl⟩) (fun t ht hW => ⟨⟨(), x0, rfl, trivial, _, ⟨qk, qb, qo, k8, b2, hbb, rfl⟩, by rw [ht]; exact hP, hD⟩, hS.F ht⟩) hS.2.2 dX0_with_77
set_option maxHeartbeats 4000000 in
set_option maxRecDepth 100000 in
theorem same_loop {p : Program} {e : Env} {s : State} {m : MethodId} {args : Array Value} {below : List Frame} {meth : Method} {c : Code} {A : Nat → Prop} {Q : State → Prop} (l : Launch) (G : va_G) (dB dJ : ClassId) (ft : Nat) (h0 qk qb qo : Nat) (fk fb fo : Nat → Int32) (b L : Nat) (xs : Nat → Int32) (hL : L ≤ 10) (hsm : ∀ i, i < 8 → sk_by (fo i) = sk_wb (sk_cell L xs (8 + i / 4)) (i % 4)) (hx : p.tables.exec = Jvm.exec) (hb : c.code = cX0_same) (hml : c.maxLocals = 3) (hown : s.vm.findClass RX0 = some m.cls) (hts : ∀ w ∈ lw_all, w.before args s = true) (hK : va_K G vwCl (sk_ty dB dJ) s) (hE : sk_E ft A s s.heap) (hT : sk_scr b L xs A s s.heap) (hS : va_S A s.heap s.heap []) (hP : va_P G vwCl [(h0, .inr (0, [.ref qk, .ref qb, .ref qo])), (qk, .inl (dB, 32, .inl fk)), (qb, .inl (dB, 8, .inl fb)), (qo, .inl (dB, 8, .inl fo))] s.heap)
    (kk : ∀ (ls : Array Slot), lv_has ls 3 [(0, .ref h0), (1, .ref b), (2, .int (nI 8))] → W p l e (headSpec (ws_ yX0_same cX0_same 3 (some .boolean)) ({ frames := 1, cells := 0, slots := 0, locals := 30 })).room s m args below meth c s.heap [] 0 0 Q (F0 m 48 ls [])) :
    ∀ (n i : Nat), i + n = 8 → ∀ (ls : Array Slot), lv_has ls 3 [(0, .ref h0), (1, .ref b), (2, .int (nI i))] → W p l e (headSpec (ws_ yX0_same cX0_same 3 (some .boolean)) ({ frames := 1, cells := 0, slots := 0, locals := 30 })).room s m args below meth c s.heap [] 0 0 Q (F0 m 2 ls []) := by
  intro n
  induction n with
  | zero =>
    intro i hi ls hl
    obtain rfl : i = 8 := hi
    refine lv_iload_n hx hb dX0_same_2 rfl (lv_at hl 2 rfl) ?_
    refine lv_bipush (v := 8) hx hb dX0_same_3 (by decide) ?_
    refine lv_icmp_ge (tgt := 48) hx hb dX0_same_5 (by decide) (fun _ => ?_) (fun h9 => absurd (by decide) h9)
    exact kk ls (lv_sub hl [0, 1, 2] rfl)
  | succ n ih =>
    intro i hi ls hl
    have hi8 : i < 8 := by omega
    refine lv_iload_n hx hb dX0_same_2 rfl (lv_at hl 2 rfl) ?_
    refine lv_bipush (v := 8) hx hb dX0_same_3 (by decide) ?_
    refine lv_icmp_ge (tgt := 48) hx hb dX0_same_5 (by decide) (fun h9 => absurd h9 (nI_ge (a := i) (b := 8) hi8 (by decide))) (fun _ => ?_)
    refine lv_aload_n hx hb dX0_same_8 rfl (lv_at hl 0 rfl) ?_
    refine lv_iload_n hx hb dX0_same_9 rfl (lv_at hl 2 rfl) ?_
    refine vp_callSi (W.runV (As := [.int (nI i)]) (rest := []) ⟨hx, hb, hml, hown, hts⟩ (met_out l G dB dJ ft h0 qk qb qo fk fb fo i hi8) (cwV 1 hts (lw_V q280 q281 q282 q5 q283) rfl rfl rfl (by decide +kernel) ⟨Nat.le_of_ble_eq_true rfl, Nat.le_of_ble_eq_true rfl⟩) ⟨sk_blindR, va_recv hK hP (ci := 0) (q0 := 0) rfl rfl, sk_preR hP hK hE hS [.ref h0, .int (nI i)] [0, 1, 2, 3] rfl⟩ rfl rfl hl.1 rfl (lv_room (Nat.le_of_ble_eq_true rfl)) dX0_same_10 ⟨Nat.le_of_ble_eq_true rfl, Nat.le_of_ble_eq_true rfl⟩) (fun r hr9 => ?_)
    subst hr9
    refine lv_aload_n hx hb dX0_same_13 rfl (lv_at hl 1 rfl) ?_
    refine lv_bipush (v := 8) hx hb dX0_same_14 (by decide) ?_
    refine lv_iload_n hx hb dX0_same_16 rfl (lv_at hl 2 rfl) ?_
    refine lv_iconst (v := 4) hx hb dX0_same_17 (by decide) ?_
    refine lv_idiv hx hb dX0_same_18 (by decide) ?_
    refine sk_top (w := nI (i / 4)) (pk_div (a := i) (d := 4) (by omega) (by decide) (by decide)) ?_
    refine lv_iadd hx hb dX0_same_19 ?_
    refine sk_top (w := nI (8 + i / 4)) (nI_add 8 (i / 4)) ?_
    refine vp_callSi (W.runS (As := [.ref b, .int (nI (8 + i / 4))]) (rest := [.int (nI (sk_by (fo i)))]) ⟨hx, hb, hml, hown, hts⟩ (met_cell l G dB dJ ft b L xs hL (8 + i / 4) (by omega)) (va_cwS 2 hts (lw_S q263 q264 q4 q265) rfl rfl rfl (by decide +kernel) ⟨Nat.le_of_ble_eq_true rfl, Nat.le_of_ble_eq_true rfl⟩) ⟨sk_blindC, sk_preC hT hS [.ref b, .int (nI (8 + i / 4))]⟩ rfl rfl hl.1 rfl (lv_room (Nat.le_of_ble_eq_true rfl)) dX0_same_20 ⟨Nat.le_of_ble_eq_true rfl, Nat.le_of_ble_eq_true rfl⟩) (fun r hr9 => ?_)
    subst hr9
    refine lv_bipush (v := 24) hx hb dX0_same_23 (by decide) ?_
    refine lv_bipush (v := 8) hx hb dX0_same_25 (by decide) ?_
    refine lv_iload_n hx hb dX0_same_27 rfl (lv_at hl 2 rfl) ?_
    refine lv_iconst (v := 4) hx hb dX0_same_28 (by decide) ?_
    refine lv_irem hx hb dX0_same_29 (by decide) ?_
    refine sk_top (w := nI (i % 4)) (pk_rem (a := i) (d := 4) (by omega) (by decide) (by decide)) ?_
    refine lv_imul hx hb dX0_same_30 ?_
    refine sk_top (w := nI (8 * (i % 4))) (pk_mul 8 (i % 4)) ?_
    refine lv_isub hx hb dX0_same_31 ?_
    refine sk_top (w := nI (24 - 8 * (i % 4))) (pk_sub (a := 24) (b := 8 * (i % 4)) (by omega)) ?_
    refine lv_iushr hx hb dX0_same_32 rfl ?_
    refine lv_sipush (v := 255) hx hb dX0_same_33 (by decide) ?_
    refine lv_iand hx hb dX0_same_36 ?_
    refine sk_top (w := nI (sk_wb (sk_cell L xs (8 + i / 4)) (i % 4))) (sk_us _ (Nat.mod_lt _ (by decide))) ?_
    refine lv_icmp_eq (tgt := 42) hx hb dX0_same_37 (by decide) (fun _ => ?_) (fun h9 => absurd (congrArg nI (hsm i hi8)) h9)
    refine lv_iinc (v := nI (i + 1)) (lv' := [(2, .int (nI (i + 1))), (0, .ref h0), (1, .ref b)]) hx hb dX0_same_42 hl (k := 2) rfl (nI_1 i) (by decide) rfl (fun ls hl => ?_)
    refine lv_goto (tgt := 2) hx hb dX0_same_45 (by decide) ?_
    exact ih (i + 1) (by omega) ls (lv_sub hl [1, 2, 0] rfl)
set_option maxHeartbeats 4000000 in
set_option maxRecDepth 100000 in
/-- same(x, s): true, where what came out is the script's block -/
theorem met_same (l : Launch) (G : va_G) (dB dJ : ClassId) (ft : Nat) (h0 qk qb qo : Nat) (fk fb fo : Nat → Int32) (b L : Nat) (xs : Nat → Int32) (hL : L ≤ 10) (hsm : ∀ i, i < 8 → sk_by (fo i) = sk_wb (sk_cell L xs (8 + i / 4)) (i % 4)) : Met l yX0_same (ws_ yX0_same cX0_same 3 (some .boolean)) ({ frames := 1, cells := 0, slots := 0, locals := 30 }) (sk_PreS G dB dJ ft b L xs [.ref h0, .ref b] [(h0, .inr (0, [.ref qk, .ref qb, .ref qo])), (qk, .inl (dB, 32, .inl fk)), (qb, .inl (dB, 8, .inl fb)), (qo, .inl (dB, 8, .inl fo))]) (vp_Si (fun r => r = 1)) 0 0 (fun _ => False) := by
  refine Met.ofW (cc := cX0_same) (maxL := 3) (ret := (some .boolean)) (by decide) rfl ?_
  intro p e s m args below meth c s₁ B hml hv
  obtain ⟨rfl, hP, hK, hE, hT⟩ := hv
  have hx := B.exec
  have hb := B.bytes
  have hr := B.returns
  have hts := atoms_spec (ws := ws_ yX0_same cX0_same 3 (some .boolean)) B.pre
  have hts : ∀ w ∈ lw_all, w.before _ s = true := fun w h => hts w (List.mem_cons_of_mem _ h)
  have hown : s.vm.findClass RX0 = some m.cls := findClass_of_methodNamed B.named
  have hlocks := B.notSynchronized
  have hS : va_S (fun _ => False) s.heap s.heap [] := va_S.rf
  have hl := lv_entry ([.ref h0, .ref b]) (n := 3) (Nat.le_of_ble_eq_true rfl)
  rw [lg_entry_eq]
  generalize (lg_sl ([.ref h0, .ref b]) ++ List.replicate (3 - (lg_sl ([.ref h0, .ref b])).length) Slot.unset).toArray = ls at hl ⊢
  have hl : lv_has ls 3 [(0, .ref h0), (1, .ref b)] := hl
  refine lv_iconst (v := 0) hx hb dX0_same_0 (by decide) ?_
  refine lv_istore_n (lv' := [(2, .int 0), (0, .ref h0), (1, .ref b)]) hx hb dX0_same_1 rfl hl (by decide) rfl (fun ls hl => ?_)
  have hl : lv_has ls 3 [(2, .int (nI 0)), (0, .ref h0), (1, .ref b)] := hl
  refine same_loop l G dB dJ ft h0 qk qb qo fk fb fo b L xs hL hsm hx hb hml hown hts hK hE hT hS hP ?_ 8 0 rfl ls (lv_sub hl [1, 2, 0] rfl)
  intro ls hl
  refine lv_iconst (v := 1) hx hb dX0_same_48 (by decide) ?_
  exact W.zret (v := 1) hx hb hr rfl (fun t ht hW => ⟨_, rfl, rfl, ht⟩) (fun _ h => by cases h) dX0_same_49
set_option maxHeartbeats 4000000 in
set_option maxRecDepth 100000 in
theorem known_loop {p : Program} {e : Env} {s : State} {m : MethodId} {args : Array Value} {below : List Frame} {meth : Method} {c : Code} {A : Nat → Prop} {Q : State → Prop} (l : Launch) (G : va_G) (dB dJ : ClassId) (ft : Nat) (x0 qk qb qo : Nat) (fk fb fo : Nat → Int32) (qv : Nat) (gv : Nat → Int32) (hsm : ∀ i, i < 8 → nI (sk_by (fo i)) = gv i) {H : Heap} {locs : List Loc} (hx : p.tables.exec = Jvm.exec) (hb : c.code = cX0_known) (hml : c.maxLocals = 3) (hown : s.vm.findClass RX0 = some m.cls) (hts : ∀ w ∈ lw_all, w.before args s = true) (hK : va_K G vwCl (sk_ty dB dJ) s) (hE : sk_E ft A s s.heap) (hS : va_S A s.heap H locs) (hP : va_P G vwCl [(x0, .inr (0, [.ref qk, .ref qb, .ref qo])), (qk, .inl (dB, 32, .inl fk)), (qb, .inl (dB, 8, .inl fb)), (qo, .inl (dB, 8, .inl fo)), (qv, .inl (dJ, 8, .inl gv))] H)
    (kk : ∀ (ls : Array Slot), lv_has ls 3 [(0, .ref x0), (1, .ref qv), (2, .int (nI 8))] → W p l e (headSpec (ws_ yX0_known cX0_known 3 (some .boolean)) ({ frames := 6, cells := 13, slots := 213, locals := 180 })).room s m args below meth c H locs 13 213 Q (F0 m 119 ls [])) :
    ∀ (n i : Nat), i + n = 8 → ∀ (ls : Array Slot), lv_has ls 3 [(0, .ref x0), (1, .ref qv), (2, .int (nI i))] → W p l e (headSpec (ws_ yX0_known cX0_known 3 (some .boolean)) ({ frames := 6, cells := 13, slots := 213, locals := 180 })).room s m args below meth c H locs 13 213 Q (F0 m 94 ls []) := by
  intro n
  induction n with
  | zero =>
    intro i hi ls hl
    obtain rfl : i = 8 := hi
    refine lv_iload_n hx hb dX0_known_94 rfl (lv_at hl 2 rfl) ?_
    refine lv_bipush (v := 8) hx hb dX0_known_95 (by decide) ?_
    refine lv_icmp_ge (tgt := 119) hx hb dX0_known_97 (by decide) (fun _ => ?_) (fun h9 => absurd (by decide) h9)
    exact kk ls (lv_sub hl [0, 1, 2] rfl)
  | succ n ih =>
    intro i hi ls hl
    have hi8 : i < 8 := by omega
    refine lv_iload_n hx hb dX0_known_94 rfl (lv_at hl 2 rfl) ?_
    refine lv_bipush (v := 8) hx hb dX0_known_95 (by decide) ?_
    refine lv_icmp_ge (tgt := 119) hx hb dX0_known_97 (by decide) (fun h9 => absurd h9 (nI_ge (a := i) (b := 8) hi8 (by decide))) (fun _ => ?_)
    refine lv_aload_n hx hb dX0_known_100 rfl (lv_at hl 0 rfl) ?_
    refine lv_iload_n hx hb dX0_known_101 rfl (lv_at hl 2 rfl) ?_
    refine vp_callSi (W.runV (As := [.int (nI i)]) (rest := []) ⟨hx, hb, hml, hown, hts⟩ (met_out l G dB dJ ft x0 qk qb qo fk fb fo i hi8) (cwV 1 hts (lw_V q280 q281 q282 q5 q283) rfl rfl rfl (by decide +kernel) ⟨Nat.le_of_ble_eq_true rfl, Nat.le_of_ble_eq_true rfl⟩) ⟨sk_blindR, va_recv hK hP (ci := 0) (q0 := 0) rfl rfl, sk_preR hP hK hE hS [.ref x0, .int (nI i)] [0, 1, 2, 3] rfl⟩ rfl rfl hl.1 rfl (lv_room (Nat.le_of_ble_eq_true rfl)) dX0_known_102 ⟨Nat.le_of_ble_eq_true rfl, Nat.le_of_ble_eq_true rfl⟩) (fun r hr9 => ?_)
    subst hr9
    refine lv_aload_n hx hb dX0_known_105 rfl (lv_at hl 1 rfl) ?_
    refine lv_iload_n hx hb dX0_known_106 rfl (lv_at hl 2 rfl) ?_
    refine sk_ild hx hb hK hP 4 rfl (j := i) (hi8) (Nat.le_of_ble_eq_true rfl) dX0_known_107 ?_
    refine lv_icmp_eq (tgt := 113) hx hb dX0_known_108 (by decide) (fun _ => ?_) (fun h9 => absurd (hsm i hi8) h9)
    refine lv_iinc (v := nI (i + 1)) (lv' := [(2, .int (nI (i + 1))), (0, .ref x0), (1, .ref qv)]) hx hb dX0_known_113 hl (k := 2) rfl (nI_1 i) (by decide) rfl (fun ls hl => ?_)
    refine lv_goto (tgt := 94) hx hb dX0_known_116 (by decide) ?_
    exact ih (i + 1) (by omega) ls (lv_sub hl [1, 2, 0] rfl)
set_option maxHeartbeats 4000000 in
set_option maxRecDepth 100000 in
/-- known(): the published answer -/
theorem met_known (l : Launch) (G : va_G) (dB dJ : ClassId) (ft : Nat)  (sz : Nat) : Met l yX0_known (ws_ yX0_known cX0_known 3 (some .boolean)) ({ frames := 6, cells := 13, slots := 213, locals := 180 }) (sk_Pre G dB dJ ft [] sz []) (sk_Qi G (va_A [] sz) (fun r => r = 1) (fun w => w = [])) 13 213 (va_A [] sz) := by
  refine Met.ofW (cc := cX0_known) (maxL := 3) (ret := (some .boolean)) (by decide) rfl ?_
  intro p e s m args below meth c s₁ B hml hv
  obtain ⟨rfl, hsz, hP, hK, hD0, hE⟩ := hv
  have hx := B.exec
  have hb := B.bytes
  have hr := B.returns
  have hts := atoms_spec (ws := ws_ yX0_known cX0_known 3 (some .boolean)) B.pre
  have hts : ∀ w ∈ lw_all, w.before _ s = true := fun w h => hts w (List.mem_cons_of_mem _ h)
  have hown : s.vm.findClass RX0 = some m.cls := findClass_of_methodNamed B.named
  have hlocks := B.notSynchronized
  subst hsz
  have hD := hD0.self (sz := s.heap.size)
  generalize hAe : va_A [] s.heap.size = A at hD hE ⊢
  have hA : ∀ q : Nat, s.heap.size ≤ q → A q := fun q h => by rw [← hAe]; exact Or.inr h
  have hS : va_S A s.heap s.heap [] := va_S.rf
  have hP : va_P G vwCl [] s.heap := hP
  have hl := lv_entry ([]) (n := 3) (Nat.le_of_ble_eq_true rfl)
  rw [lg_entry_eq]
  generalize (lg_sl ([]) ++ List.replicate (3 - (lg_sl ([])).length) Slot.unset).toArray = ls at hl ⊢
  have hl : lv_has ls 3 [] := hl
  refine va_new (D := G) (ci := 0) (fs := [.null, .null, .null]) (C := RX1) (T := TX1) (N := 3) hx hb hts in_X1 tyX1 tyX1_ok hown (hts _ q248) (hts _ q24) (hts _ q5) hK hP hD hS hA rfl (fun j hj => by rcases (show j = 0 ∨ j = 1 ∨ j = 2 by omega) with rfl | rfl | rfl <;> rfl) (Nat.le_of_ble_eq_true rfl) (Nat.le_of_ble_eq_true rfl) dX0_known_0 (fun x0 H hP hD hS => ?_)
  have hP : va_P G vwCl [(x0, .inr (0, [.null, .null, .null]))] H := hP
  have hD : va_D A [(x0, .inr (0, [.null, .null, .null]))] := hD
  refine W.widen (k := 1) (n := 3) (Nat.le_of_ble_eq_true rfl) (Nat.le_of_ble_eq_true rfl) ?_
  refine lv_dup hx hb dX0_known_3 rfl ?_
  refine sk_cv (va_runI (As := []) (rest := [.ref x0]) ⟨hx, hb, hml, hown, hts⟩ (met_desk l G dB dJ ft x0 H.size) (cwI 0 hts (lw_meth q251) rfl rfl rfl (hts _ q5) (hts _ q249) (hts _ q250) rfl (by decide +kernel) ⟨Nat.le_of_ble_eq_true rfl, Nat.le_of_ble_eq_true rfl⟩) ⟨sk_blind, sk_pre hP hD hK hE hS hA [.ref x0] [0] rfl (by decide)⟩ rfl rfl hl.1 rfl (lv_room (Nat.le_of_ble_eq_true rfl)) dX0_known_4 ⟨Nat.le_of_ble_eq_true rfl, Nat.le_of_ble_eq_true rfl⟩) hP hD hS hA [0] [] [] rfl rfl (by decide) (by decide) (fun w1 H locs hR hP hD hS => ?_)
  obtain ⟨qk, qb, qo, rfl⟩ := hR
  have hP : va_P G vwCl [(x0, .inr (0, [.ref qk, .ref qb, .ref qo])), (qk, .inl (dB, 32, .inl (fun _ => 0))), (qb, .inl (dB, 8, .inl (fun _ => 0))), (qo, .inl (dB, 8, .inl (fun _ => 0)))] H := hP
  have hD : va_D A [(x0, .inr (0, [.ref qk, .ref qb, .ref qo])), (qk, .inl (dB, 32, .inl (fun _ => 0))), (qb, .inl (dB, 8, .inl (fun _ => 0))), (qo, .inl (dB, 8, .inl (fun _ => 0)))] := hD
  refine W.widen (k := 4) (n := 51) (Nat.le_of_ble_eq_true rfl) (Nat.le_of_ble_eq_true rfl) ?_
  refine lv_astore_n (lv' := [(0, .ref x0)]) hx hb dX0_known_7 rfl hl (by decide) rfl (fun ls hl => ?_)
  refine lv_aload_n hx hb dX0_known_8 rfl (lv_at hl 0 rfl) ?_
  refine lv_iconst (v := 0) hx hb dX0_known_9 (by decide) ?_
  refine sk_top (w := nI 0) (rfl) ?_
  refine lv_ldc (v := 10061943) hx hb hown (hts _ q287) dX0_known_10 ?_
  refine lv_ldc (v := 1716864051) hx hb hown (hts _ q288) dX0_known_12 ?_
  refine lv_ldc (v := 571539456) hx hb hown (hts _ q289) dX0_known_14 ?_
  refine lv_iconst (v := 0) hx hb dX0_known_16 (by decide) ?_
  refine sk_cv (va_runV (As := [.int (nI 0), .int 10061943, .int 1716864051, .int 571539456, .int 0]) (rest := []) ⟨hx, hb, hml, hown, hts⟩ (met_key l G dB dJ ft x0 qk qb qo (fun _ => 0) (fun _ => 0) (fun _ => 0) 0 (by decide) 10061943 1716864051 571539456 0 H.size) (cwV 5 hts (lw_V q266 q267 q268 q5 q269) rfl rfl rfl (by decide +kernel) ⟨Nat.le_of_ble_eq_true rfl, Nat.le_of_ble_eq_true rfl⟩) ⟨sk_blind, va_recv hK hP (ci := 0) (q0 := 0) rfl rfl, sk_pre hP hD hK hE hS hA [.ref x0, .int (nI 0), .int 10061943, .int 1716864051, .int 571539456, .int 0] [0, 1, 2, 3] rfl (by decide)⟩ rfl rfl hl.1 rfl (lv_room (Nat.le_of_ble_eq_true rfl)) dX0_known_17 ⟨Nat.le_of_ble_eq_true rfl, Nat.le_of_ble_eq_true rfl⟩) hP hD hS hA [0, 1, 2, 3] [] [] rfl rfl (by decide) (by decide) (fun w1 H locs hR hP hD hS => ?_)
  obtain ⟨k4, hk4, rfl⟩ := hR
  have hP : va_P G vwCl [(x0, .inr (0, [.ref qk, .ref qb, .ref qo])), (qb, .inl (dB, 8, .inl (fun _ => 0))), (qo, .inl (dB, 8, .inl (fun _ => 0))), (qk, .inl (dB, 32, .inl k4))] H := hP
  have hD : va_D A [(x0, .inr (0, [.ref qk, .ref qb, .ref qo])), (qb, .inl (dB, 8, .inl (fun _ => 0))), (qo, .inl (dB, 8, .inl (fun _ => 0))), (qk, .inl (dB, 32, .inl k4))] := hD
  refine lv_aload_n hx hb dX0_known_20 rfl (lv_at hl 0 rfl) ?_
  refine lv_iconst (v := 1) hx hb dX0_known_21 (by decide) ?_
  refine sk_top (w := nI 1) (rfl) ?_
  refine lv_iconst (v := 0) hx hb dX0_known_22 (by decide) ?_
  refine lv_iconst (v := 0) hx hb dX0_known_23 (by decide) ?_
  refine lv_iconst (v := 0) hx hb dX0_known_24 (by decide) ?_
  refine lv_iconst (v := 0) hx hb dX0_known_25 (by decide) ?_
  refine sk_cv (va_runV (As := [.int (nI 1), .int 0, .int 0, .int 0, .int 0]) (rest := []) ⟨hx, hb, hml, hown, hts⟩ (met_key l G dB dJ ft x0 qk qb qo k4 (fun _ => 0) (fun _ => 0) 1 (by decide) 0 0 0 0 H.size) (cwV 5 hts (lw_V q266 q267 q268 q5 q269) rfl rfl rfl (by decide +kernel) ⟨Nat.le_of_ble_eq_true rfl, Nat.le_of_ble_eq_true rfl⟩) ⟨sk_blind, va_recv hK hP (ci := 0) (q0 := 0) rfl rfl, sk_pre hP hD hK hE hS hA [.ref x0, .int (nI 1), .int 0, .int 0, .int 0, .int 0] [0, 3, 1, 2] rfl (by decide)⟩ rfl rfl hl.1 rfl (lv_room (Nat.le_of_ble_eq_true rfl)) dX0_known_26 ⟨Nat.le_of_ble_eq_true rfl, Nat.le_of_ble_eq_true rfl⟩) hP hD hS hA [0, 3, 1, 2] [] [] rfl rfl (by decide) (by decide) (fun w1 H locs hR hP hD hS => ?_)
  obtain ⟨k8, hk8, rfl⟩ := hR
  have hP : va_P G vwCl [(x0, .inr (0, [.ref qk, .ref qb, .ref qo])), (qb, .inl (dB, 8, .inl (fun _ => 0))), (qo, .inl (dB, 8, .inl (fun _ => 0))), (qk, .inl (dB, 32, .inl k8))] H := hP
  have hD : va_D A [(x0, .inr (0, [.ref qk, .ref qb, .ref qo])), (qb, .inl (dB, 8, .inl (fun _ => 0))), (qo, .inl (dB, 8, .inl (fun _ => 0))), (qk, .inl (dB, 32, .inl k8))] := hD
  refine lv_aload_n hx hb dX0_known_29 rfl (lv_at hl 0 rfl) ?_
  refine lv_ldc (v := 857870592) hx hb hown (hts _ q290) dX0_known_30 ?_
  refine lv_ldc (v := (-573785174)) hx hb hown (hts _ q291) dX0_known_32 ?_
  refine sk_cv (va_runV (As := [.int 857870592, .int (-573785174)]) (rest := []) ⟨hx, hb, hml, hown, hts⟩ (met_block l G dB dJ ft x0 qk qb qo k8 (fun _ => 0) (fun _ => 0) 857870592 (-573785174) H.size) (cwV 2 hts (lw_V q273 q274 q275 q5 q276) rfl rfl rfl (by decide +kernel) ⟨Nat.le_of_ble_eq_true rfl, Nat.le_of_ble_eq_true rfl⟩) ⟨sk_blind, va_recv hK hP (ci := 0) (q0 := 0) rfl rfl, sk_pre hP hD hK hE hS hA [.ref x0, .int 857870592, .int (-573785174)] [0, 3, 1, 2] rfl (by decide)⟩ rfl rfl hl.1 rfl (lv_room (Nat.le_of_ble_eq_true rfl)) dX0_known_34 ⟨Nat.le_of_ble_eq_true rfl, Nat.le_of_ble_eq_true rfl⟩) hP hD hS hA [0, 3, 1, 2] [] [] rfl rfl (by decide) (by decide) (fun w1 H locs hR hP hD hS => ?_)
  obtain ⟨b2, hb2, rfl⟩ := hR
  have hP : va_P G vwCl [(x0, .inr (0, [.ref qk, .ref qb, .ref qo])), (qk, .inl (dB, 32, .inl k8)), (qo, .inl (dB, 8, .inl (fun _ => 0))), (qb, .inl (dB, 8, .inl b2))] H := hP
  have hD : va_D A [(x0, .inr (0, [.ref qk, .ref qb, .ref qo])), (qk, .inl (dB, 32, .inl k8)), (qo, .inl (dB, 8, .inl (fun _ => 0))), (qb, .inl (dB, 8, .inl b2))] := hD
  refine lv_aload_n hx hb dX0_known_37 rfl (lv_at hl 0 rfl) ?_
  refine lv_iconst (v := 0) hx hb dX0_known_38 (by decide) ?_
  refine sk_cv (va_runV (As := [.int 0]) (rest := []) ⟨hx, hb, hml, hown, hts⟩ (met_lock l G dB dJ ft x0 qk qb qo k8 b2 (fun _ => 0) 0 H.size) (cwV 1 hts (lw_V q17 q18 q19 q5 q20) rfl rfl rfl (by decide +kernel) ⟨Nat.le_of_ble_eq_true rfl, Nat.le_of_ble_eq_true rfl⟩) ⟨sk_blind, va_recv hK hP (ci := 0) (q0 := 0) rfl rfl, sk_pre hP hD hK hE hS hA [.ref x0, .int 0] [0, 1, 3, 2] rfl (by decide)⟩ rfl rfl hl.1 rfl (lv_room (Nat.le_of_ble_eq_true rfl)) dX0_known_39 ⟨Nat.le_of_ble_eq_true rfl, Nat.le_of_ble_eq_true rfl⟩) hP hD hS hA [0, 1, 3, 2] [] [] rfl rfl (by decide) (by decide) (fun w1 H locs hR hP hD hS => ?_)
  obtain ⟨fn, hfn, rfl⟩ := hR
  have hP : va_P G vwCl [(x0, .inr (0, [.ref qk, .ref qb, .ref qo])), (qk, .inl (dB, 32, .inl k8)), (qb, .inl (dB, 8, .inl b2)), (qo, .inl (dB, 8, .inl fn))] H := hP
  have hD : va_D A [(x0, .inr (0, [.ref qk, .ref qb, .ref qo])), (qk, .inl (dB, 32, .inl k8)), (qb, .inl (dB, 8, .inl b2)), (qo, .inl (dB, 8, .inl fn))] := hD
  refine W.widen (k := 12) (n := 205) (Nat.le_of_ble_eq_true rfl) (Nat.le_of_ble_eq_true rfl) ?_
  have his := sk_kn (sk_kn_key hk4 hk8) (sk_bt_of hb2) hfn
  obtain ⟨i0, i1, i2, i3, i4, i5, i6, i7⟩ := his
  refine lv_bipush (v := 8) hx hb dX0_known_42 (by decide) ?_
  refine sk_newI (N := 8) hx hb (hts _ q181) hK hP hD hS hA (by decide) (by decide) (Nat.le_of_ble_eq_true rfl) (Nat.le_of_ble_eq_true rfl) (Nat.le_of_ble_eq_true rfl) dX0_known_44 (fun qv H hP hD hS => ?_)
  have hP : va_P G vwCl [(x0, .inr (0, [.ref qk, .ref qb, .ref qo])), (qk, .inl (dB, 32, .inl k8)), (qb, .inl (dB, 8, .inl b2)), (qo, .inl (dB, 8, .inl fn)), (qv, .inl (dJ, 8, .inl (fun _ => 0)))] H := hP
  have hD : va_D A [(x0, .inr (0, [.ref qk, .ref qb, .ref qo])), (qk, .inl (dB, 32, .inl k8)), (qb, .inl (dB, 8, .inl b2)), (qo, .inl (dB, 8, .inl fn)), (qv, .inl (dJ, 8, .inl (fun _ => 0)))] := hD
  refine W.widen (k := 13) (n := 213) (Nat.le_of_ble_eq_true rfl) (Nat.le_of_ble_eq_true rfl) ?_
  refine lv_dup hx hb dX0_known_46 rfl ?_
  refine lv_iconst (v := 0) hx hb dX0_known_47 (by decide) ?_
  refine sk_top (w := nI 0) (rfl) ?_
  refine lv_bipush (v := 37) hx hb dX0_known_48 (by decide) ?_
  refine sk_ist hx hb hK hP hD hS 4 rfl (j := 0) (by decide) (Nat.le_of_ble_eq_true rfl) dX0_known_50 (fun g1 H locs e_g1 hP hD hS => ?_)
  have hP : va_P G vwCl [(x0, .inr (0, [.ref qk, .ref qb, .ref qo])), (qk, .inl (dB, 32, .inl k8)), (qb, .inl (dB, 8, .inl b2)), (qo, .inl (dB, 8, .inl fn)), (qv, .inl (dJ, 8, .inl g1))] H := hP
  have hD : va_D A [(x0, .inr (0, [.ref qk, .ref qb, .ref qo])), (qk, .inl (dB, 32, .inl k8)), (qb, .inl (dB, 8, .inl b2)), (qo, .inl (dB, 8, .inl fn)), (qv, .inl (dJ, 8, .inl g1))] := hD
  refine lv_dup hx hb dX0_known_51 rfl ?_
  refine lv_iconst (v := 1) hx hb dX0_known_52 (by decide) ?_
  refine sk_top (w := nI 1) (rfl) ?_
  refine lv_sipush (v := 135) hx hb dX0_known_53 (by decide) ?_
  refine sk_ist hx hb hK hP hD hS 4 rfl (j := 1) (by decide) (Nat.le_of_ble_eq_true rfl) dX0_known_56 (fun g2 H locs e_g2 hP hD hS => ?_)
  have hP : va_P G vwCl [(x0, .inr (0, [.ref qk, .ref qb, .ref qo])), (qk, .inl (dB, 32, .inl k8)), (qb, .inl (dB, 8, .inl b2)), (qo, .inl (dB, 8, .inl fn)), (qv, .inl (dJ, 8, .inl g2))] H := hP
  have hD : va_D A [(x0, .inr (0, [.ref qk, .ref qb, .ref qo])), (qk, .inl (dB, 32, .inl k8)), (qb, .inl (dB, 8, .inl b2)), (qo, .inl (dB, 8, .inl fn)), (qv, .inl (dJ, 8, .inl g2))] := hD
  refine lv_dup hx hb dX0_known_57 rfl ?_
  refine lv_iconst (v := 2) hx hb dX0_known_58 (by decide) ?_
  refine sk_top (w := nI 2) (rfl) ?_
  refine lv_sipush (v := 202) hx hb dX0_known_59 (by decide) ?_
  refine sk_ist hx hb hK hP hD hS 4 rfl (j := 2) (by decide) (Nat.le_of_ble_eq_true rfl) dX0_known_62 (fun g3 H locs e_g3 hP hD hS => ?_)
  have hP : va_P G vwCl [(x0, .inr (0, [.ref qk, .ref qb, .ref qo])), (qk, .inl (dB, 32, .inl k8)), (qb, .inl (dB, 8, .inl b2)), (qo, .inl (dB, 8, .inl fn)), (qv, .inl (dJ, 8, .inl g3))] H := hP
  have hD : va_D A [(x0, .inr (0, [.ref qk, .ref qb, .ref qo])), (qk, .inl (dB, 32, .inl k8)), (qb, .inl (dB, 8, .inl b2)), (qo, .inl (dB, 8, .inl fn)), (qv, .inl (dJ, 8, .inl g3))] := hD
  refine lv_dup hx hb dX0_known_63 rfl ?_
  refine lv_iconst (v := 3) hx hb dX0_known_64 (by decide) ?_
  refine sk_top (w := nI 3) (rfl) ?_
  refine lv_sipush (v := 226) hx hb dX0_known_65 (by decide) ?_
  refine sk_ist hx hb hK hP hD hS 4 rfl (j := 3) (by decide) (Nat.le_of_ble_eq_true rfl) dX0_known_68 (fun g4 H locs e_g4 hP hD hS => ?_)
  have hP : va_P G vwCl [(x0, .inr (0, [.ref qk, .ref qb, .ref qo])), (qk, .inl (dB, 32, .inl k8)), (qb, .inl (dB, 8, .inl b2)), (qo, .inl (dB, 8, .inl fn)), (qv, .inl (dJ, 8, .inl g4))] H := hP
  have hD : va_D A [(x0, .inr (0, [.ref qk, .ref qb, .ref qo])), (qk, .inl (dB, 32, .inl k8)), (qb, .inl (dB, 8, .inl b2)), (qo, .inl (dB, 8, .inl fn)), (qv, .inl (dJ, 8, .inl g4))] := hD
  refine lv_dup hx hb dX0_known_69 rfl ?_
  refine lv_iconst (v := 4) hx hb dX0_known_70 (by decide) ?_
  refine sk_top (w := nI 4) (rfl) ?_
  refine lv_bipush (v := 122) hx hb dX0_known_71 (by decide) ?_
  refine sk_ist hx hb hK hP hD hS 4 rfl (j := 4) (by decide) (Nat.le_of_ble_eq_true rfl) dX0_known_73 (fun g5 H locs e_g5 hP hD hS => ?_)
  have hP : va_P G vwCl [(x0, .inr (0, [.ref qk, .ref qb, .ref qo])), (qk, .inl (dB, 32, .inl k8)), (qb, .inl (dB, 8, .inl b2)), (qo, .inl (dB, 8, .inl fn)), (qv, .inl (dJ, 8, .inl g5))] H := hP
  have hD : va_D A [(x0, .inr (0, [.ref qk, .ref qb, .ref qo])), (qk, .inl (dB, 32, .inl k8)), (qb, .inl (dB, 8, .inl b2)), (qo, .inl (dB, 8, .inl fn)), (qv, .inl (dJ, 8, .inl g5))] := hD
  refine lv_dup hx hb dX0_known_74 rfl ?_
  refine lv_iconst (v := 5) hx hb dX0_known_75 (by decide) ?_
  refine sk_top (w := nI 5) (rfl) ?_
  refine lv_bipush (v := 18) hx hb dX0_known_76 (by decide) ?_
  refine sk_ist hx hb hK hP hD hS 4 rfl (j := 5) (by decide) (Nat.le_of_ble_eq_true rfl) dX0_known_78 (fun g6 H locs e_g6 hP hD hS => ?_)
  have hP : va_P G vwCl [(x0, .inr (0, [.ref qk, .ref qb, .ref qo])), (qk, .inl (dB, 32, .inl k8)), (qb, .inl (dB, 8, .inl b2)), (qo, .inl (dB, 8, .inl fn)), (qv, .inl (dJ, 8, .inl g6))] H := hP
  have hD : va_D A [(x0, .inr (0, [.ref qk, .ref qb, .ref qo])), (qk, .inl (dB, 32, .inl k8)), (qb, .inl (dB, 8, .inl b2)), (qo, .inl (dB, 8, .inl fn)), (qv, .inl (dJ, 8, .inl g6))] := hD
  refine lv_dup hx hb dX0_known_79 rfl ?_
  refine lv_bipush (v := 6) hx hb dX0_known_80 (by decide) ?_
  refine sk_top (w := nI 6) (rfl) ?_
  refine lv_sipush (v := 211) hx hb dX0_known_82 (by decide) ?_
  refine sk_ist hx hb hK hP hD hS 4 rfl (j := 6) (by decide) (Nat.le_of_ble_eq_true rfl) dX0_known_85 (fun g7 H locs e_g7 hP hD hS => ?_)
  have hP : va_P G vwCl [(x0, .inr (0, [.ref qk, .ref qb, .ref qo])), (qk, .inl (dB, 32, .inl k8)), (qb, .inl (dB, 8, .inl b2)), (qo, .inl (dB, 8, .inl fn)), (qv, .inl (dJ, 8, .inl g7))] H := hP
  have hD : va_D A [(x0, .inr (0, [.ref qk, .ref qb, .ref qo])), (qk, .inl (dB, 32, .inl k8)), (qb, .inl (dB, 8, .inl b2)), (qo, .inl (dB, 8, .inl fn)), (qv, .inl (dJ, 8, .inl g7))] := hD
  refine lv_dup hx hb dX0_known_86 rfl ?_
  refine lv_bipush (v := 7) hx hb dX0_known_87 (by decide) ?_
  refine sk_top (w := nI 7) (rfl) ?_
  refine lv_iconst (v := 0) hx hb dX0_known_89 (by decide) ?_
  refine sk_ist hx hb hK hP hD hS 4 rfl (j := 7) (by decide) (Nat.le_of_ble_eq_true rfl) dX0_known_90 (fun g8 H locs e_g8 hP hD hS => ?_)
  have hP : va_P G vwCl [(x0, .inr (0, [.ref qk, .ref qb, .ref qo])), (qk, .inl (dB, 32, .inl k8)), (qb, .inl (dB, 8, .inl b2)), (qo, .inl (dB, 8, .inl fn)), (qv, .inl (dJ, 8, .inl g8))] H := hP
  have hD : va_D A [(x0, .inr (0, [.ref qk, .ref qb, .ref qo])), (qk, .inl (dB, 32, .inl k8)), (qb, .inl (dB, 8, .inl b2)), (qo, .inl (dB, 8, .inl fn)), (qv, .inl (dJ, 8, .inl g8))] := hD
  refine lv_astore_n (lv' := [(1, .ref qv), (0, .ref x0)]) hx hb dX0_known_91 rfl hl (by decide) rfl (fun ls hl => ?_)
  refine lv_iconst (v := 0) hx hb dX0_known_92 (by decide) ?_
  refine lv_istore_n (lv' := [(2, .int 0), (1, .ref qv), (0, .ref x0)]) hx hb dX0_known_93 rfl hl (by decide) rfl (fun ls hl => ?_)
  have hl : lv_has ls 3 [(2, .int (nI 0)), (1, .ref qv), (0, .ref x0)] := hl
  have hall : ∀ i, i < 8 → nI (sk_by (fn i)) = g8 i := by
    intro i hi
    match i, hi with
    | 0, _ => rw [sk_ip_n e_g8 (i := 0) (by decide), sk_ip_n e_g7 (i := 0) (by decide), sk_ip_n e_g6 (i := 0) (by decide), sk_ip_n e_g5 (i := 0) (by decide), sk_ip_n e_g4 (i := 0) (by decide), sk_ip_n e_g3 (i := 0) (by decide), sk_ip_n e_g2 (i := 0) (by decide), sk_ip_s e_g1, i0]; decide
    | 1, _ => rw [sk_ip_n e_g8 (i := 1) (by decide), sk_ip_n e_g7 (i := 1) (by decide), sk_ip_n e_g6 (i := 1) (by decide), sk_ip_n e_g5 (i := 1) (by decide), sk_ip_n e_g4 (i := 1) (by decide), sk_ip_n e_g3 (i := 1) (by decide), sk_ip_s e_g2, i1]; decide
    | 2, _ => rw [sk_ip_n e_g8 (i := 2) (by decide), sk_ip_n e_g7 (i := 2) (by decide), sk_ip_n e_g6 (i := 2) (by decide), sk_ip_n e_g5 (i := 2) (by decide), sk_ip_n e_g4 (i := 2) (by decide), sk_ip_s e_g3, i2]; decide
    | 3, _ => rw [sk_ip_n e_g8 (i := 3) (by decide), sk_ip_n e_g7 (i := 3) (by decide), sk_ip_n e_g6 (i := 3) (by decide), sk_ip_n e_g5 (i := 3) (by decide), sk_ip_s e_g4, i3]; decide
    | 4, _ => rw [sk_ip_n e_g8 (i := 4) (by decide), sk_ip_n e_g7 (i := 4) (by decide), sk_ip_n e_g6 (i := 4) (by decide), sk_ip_s e_g5, i4]; decide
    | 5, _ => rw [sk_ip_n e_g8 (i := 5) (by decide), sk_ip_n e_g7 (i := 5) (by decide), sk_ip_s e_g6, i5]; decide
    | 6, _ => rw [sk_ip_n e_g8 (i := 6) (by decide), sk_ip_s e_g7, i6]; decide
    | 7, _ => rw [sk_ip_s e_g8, i7]; decide
    | n + 8, h => exact absurd h (by omega)
  refine known_loop l G dB dJ ft x0 qk qb qo k8 b2 fn qv g8 hall hx hb hml hown hts hK hE hS hP ?_ 8 0 rfl ls (lv_sub hl [2, 1, 0] rfl)
  intro ls hl
  refine lv_iconst (v := 1) hx hb dX0_known_119 (by decide) ?_
  have hP : va_P G vwCl [] _ := sk_cut hP [] rfl
  have hD : va_D A [] := hD.sub [] (by decide) rfl
  exact W.zret (v := 1) hx hb hr rfl (fun t ht hW => ⟨⟨1, (), rfl, rfl, _, rfl, by rw [ht]; exact hP, hD⟩, hS.F ht⟩) hS.2.2 dX0_known_120
end
section
set_option maxRecDepth 100000
abbrev sk_tm : Term := .static "SkipjackEngine" "ftable" "[S"
theorem sk_tabL : ((flatC (Jvm.Cond.and given_1 narrow_1)).drop 9).take 256 = (List.range 256).map (fun j => Cond.eq (.elem sk_tm (.int (Int32.ofNat j))) (.int (nI (sk_f j)))) := by decide +kernel
theorem sk_tab (j : Nat) (hj : j < 256) : Cond.eq (.elem sk_tm (.int (Int32.ofNat j))) (.int (nI (sk_f j))) ∈ flatC (Jvm.Cond.and given_1 narrow_1) := by
  refine List.mem_of_mem_drop (i := 9) (List.mem_of_mem_take (i := 256) ?_)
  rw [sk_tabL]
  exact List.mem_map.mpr ⟨j, List.mem_range.mpr hj, rfl⟩
theorem sk_tab_arr : Cond.arrayOf sk_tm .short ∈ flatC (Jvm.Cond.and given_1 narrow_1) := by decide +kernel
theorem sk_tab_len : Cond.eq (.length sk_tm) (.int 256) ∈ flatC (Jvm.Cond.and given_1 narrow_1) := by decide +kernel
theorem sk_arr {args : Array Value} {s : State} {ty : FieldType} (h : (Cond.arrayClass ty).before args s = true) : ∃ cA : ClassId, ArrOfT s cA ty ∧ s.vm.findClass ("[" ++ ty.toString) = some cA := by
  obtain ⟨cA, kA, comp, h1, h2, h3⟩ := Cond.arrayClass_spec h
  exact ⟨cA, fun n z => ⟨fun k h => (by cases h), kA, h2, comp, h3⟩, h1⟩
/-- the environment at the law's start -/
theorem sk_env {s : State} {b : Addr} (hts : ∀ w ∈ lw_tbl, w.before #[Value.ref b] s = true) (hgv : (Jvm.Cond.and given_1 narrow_1).before #[Value.ref b] s = true) : ∃ ft : Nat, sk_E ft (fun q : Nat => s.heap.size ≤ q) s s.heap := by
  have hs := flat_of_before _ hgv
  have hA : ∀ a : Nat, a < s.heap.size → ¬ (fun q : Nat => s.heap.size ≤ q) a := fun a h1 h2 => Nat.lt_irrefl _ (Nat.lt_of_lt_of_le h1 h2)
  obtain ⟨ft, hft, hT⟩ := va_Tof (ty := .short) (N := 256) (f := fun j => .int (nI (sk_f j))) (A := fun q : Nat => s.heap.size ≤ q) (by decide) (hs _ sk_tab_arr) (va_eqt (hs _ sk_tab_len)) (fun j hj => va_eqt (hs _ (sk_tab j hj))) hA
  exact ⟨ft, va_Zref (hts _ q228) (hts _ (lw_all_tbl q6)) hft hA, hT, va_Fw.of (C := RX2) (x := yB_init) (y := yX2_init_2) (hts _ q76) (hts _ q75) (hts _ q81) (hts _ q79) (hts _ q77), va_Fw.of (C := RX2) (x := yB_proc) (y := yX2_processBlock) (hts _ q159) (hts _ q158) (hts _ q163) (hts _ q161) (hts _ q77)⟩
/-- the classes at the law's start -/
theorem sk_cls {s : State} {b : Addr} (hts : ∀ w ∈ lw_tbl, w.before #[Value.ref b] s = true) : ∃ (G : va_G) (dB dJ : ClassId), va_K G vwCl (sk_ty dB dJ) s := by
  obtain ⟨c1, i1, h1⟩ := u_known (C := RX1) (T := TX1) (N := 3) (n := 3) hts (fun w h => lw_all_tbl (in_X1 w h)) (hts _ (lw_all_tbl q24))
  obtain ⟨c2, i2, h2⟩ := u_known (C := RX2) (T := TX2) (N := 5) (n := 5) hts (fun w h => lw_all_tbl (in_X2 w h)) (hts _ (lw_all_tbl q30))
  obtain ⟨c3, i3, h3⟩ := u_known (C := RX3) (T := TX3) (N := 1) (n := 1) hts (fun w h => lw_all_tbl (in_X3 w h)) (hts _ (lw_all_tbl q55))
  obtain ⟨dB, a1, a2⟩ := sk_arr (hts _ (lw_all_tbl q53))
  obtain ⟨dJ, b1, b2⟩ := sk_arr (hts _ (lw_all_tbl q181))
  refine ⟨(fun k => if k = 0 then c1 else if k = 1 then c2 else c3, fun k => if k = 0 then i1 else if k = 1 then i2 else i3), dB, dJ, ?_, ?_⟩
  · intro k q hq
    match k, hq with
    | 0, hq => cases hq; exact h1
    | 1, hq => cases hq; exact h2
    | 2, hq => cases hq; exact h3
    | k + 3, hq => simp [vwCl] at hq
  · intro k q hq
    match k, hq with
    | 0, hq => cases hq; exact ⟨a1, a2⟩
    | 1, hq => cases hq; exact ⟨b1, b2⟩
    | k + 2, hq => simp at hq
theorem sk_scr_of {b L : Nat} {xs : Nat → Int32} {A : Nat → Prop} {s : State} (h : va_X b L xs s s.heap) (hA : ¬ A b) : sk_scr b L xs A s s.heap := by
  obtain ⟨scr, h1, h2, h3, h4, h5⟩ := h
  exact ⟨scr, h1, h2, h3, Nat.le_of_eq h4.symm, by rw [h4], h5, hA⟩
/-- lock, again, back: the block -/
theorem sk_r1 {K : Nat → Nat} {f o1 b1 o2 : Nat → Int32} (h1 : sk_is o1 (sk_do 1 K (sk_of f))) (h2 : ∀ j, j < 8 → sk_by (b1 j) = sk_by (o1 j)) (h3 : sk_is o2 (sk_do 0 K (sk_of b1))) : ∀ j, j < 8 → sk_by (o2 j) = sk_by (f j) := by
  refine sk_of_by ?_
  rw [sk_is_of h3, sk_of_congr h2, sk_is_of h1, sk_do_0, sk_do_1, sk_dec_enc K (sk_of_ok f)]
theorem sk_r2 {K : Nat → Nat} {f o1 b1 o2 : Nat → Int32} (h1 : sk_is o1 (sk_do 0 K (sk_of f))) (h2 : ∀ j, j < 8 → sk_by (b1 j) = sk_by (o1 j)) (h3 : sk_is o2 (sk_do 1 K (sk_of b1))) : ∀ j, j < 8 → sk_by (o2 j) = sk_by (f j) := by
  refine sk_of_by ?_
  rw [sk_is_of h3, sk_of_congr h2, sk_is_of h1, sk_do_0, sk_do_1, sk_enc_dec K (sk_of_ok f)]
end
section
/-! THE CLAIM OUT OF ONE WALK OF THE LAW'S BODY. Your part is whole_start (and what it stands on); all else here is the same for every law, but numbers. -/
def R_law : String := "SkipjackDeskLaw"
def lw_P (b : Addr) (xs : List Int32) (args : Array Value) (s : State) : Prop := args = #[.ref b] ∧ s.IntsAt b xs ∧ xs.length ≤ 10 ∧ (Jvm.Cond.and given_1 narrow_1).before args s = true
def lw_Q (_ : Array Value) (s : State) (o : Outcome) (t : State) : Prop := o = .returned (some (.int 1)) ∧ Framed s o t [] 600020 7302070
def lw_Z (below : List Frame) (a : Array Value) (s : State) : State → Prop := fun t => ∃ o, t.status = .running ∧ Ended t below o ∧ lw_Q a s o t
/-- the law's own end, with 1 on the stack, nothing written that was there before, its room as the claim has it -/
theorem lw_ret {p : Program} {l : Launch} {e : Env} {s : State} {m : MethodId} {below : List Frame} {meth : Method} {c : Code} {b : Nat} (hx : p.tables.exec = Jvm.exec) (hb : c.code = code) (hr : meth.sig.returnType = ret) (hlocks : meth.locks = false) {pc : Nat} {H : Heap} {ls : Array Slot} (hdg : decode code pc = .ok (.ireturn, 1)) : W p l e room_1 s m #[Value.ref b] below meth c H [] 600020 7302070 (lw_Z below #[Value.ref b] s) (F0 m pc ls [.int 1]) := by
  intro T hT X
  obtain ⟨fs, hret, hrun, hended, hW, hframe⟩ := X.leave (v := some (.int 1)) (hlocks := hlocks) (fun h => by rw [hr] at h; cases h)
  have hmeth' : T.vm.method? m = some meth := X.method'
  refine ⟨T.setFrames fs, ?_, .returned (some (.int 1)), hrun, hended, rfl, ⟨_, rfl⟩, hW, hframe⟩
  jvm_step X.here [X.here.top, hx, hb, hdg, hmeth', hr, ret, narrow_b1]
  (try refine ⟨rfl, ?_⟩); (try refine ⟨rfl, ?_⟩)
  first | (intro acts; rw [hret _ acts rfl rfl rfl]) | rw [hret _ _ rfl rfl rfl]
  exact Steps.refl _
/-- what holds at the law's entry: the machine, the code, the tables' words (any of lw_tbl by 'hts w (by decide +kernel)'), the script of L ints xs at the cell b, what the Statement gives of the start (any of its parts by flat_of_before) -/
def lw_At (p : Program) (s : State) (m : MethodId) (meth : Method) (c : Code) (b L : Nat) (xs : Nat → Int32) : Prop :=
  p.tables.exec = Jvm.exec ∧ c.code = code ∧ meth.sig.returnType = ret ∧ c.maxLocals = 8 ∧ s.vm.findClass R_law = some m.cls ∧ (∀ w ∈ lw_tbl, w.before #[Value.ref b] s = true) ∧ va_X b L xs s s.heap ∧ b < s.heap.size ∧ meth.locks = false ∧ (Jvm.Cond.and given_1 narrow_1).before #[Value.ref b] s = true
-- ===== YOUR PART BEGINS =====
set_option maxHeartbeats 4000000 in
set_option maxRecDepth 100000 in
/-- YOUR PART: from the entry, for every script of at most 10 ints, the law comes to its end with true ('hflags': the launch's flags, for a law that throws: no stack traces) -/
theorem whole_start {p : Program} {e : Env} {s : State} {m : MethodId} {below : List Frame} {meth : Method} {c : Code} (l : Launch) (hflags : l.flags = flags0) {b L : Nat} {xs : Nat → Int32} (hL : L ≤ 10) (C0 : lw_At p s m meth c b L xs) : W p l e room_1 s m #[Value.ref b] below meth c s.heap [] 0 0 (lw_Z below #[Value.ref b] s) (entryFrame m ([Value.ref b] : List Value).toArray 8) := by
  obtain ⟨hx, hb, hr, hml, hown, hts0, hX, hbl, hlocks, hgv⟩ := id C0
  have hts : ∀ w ∈ lw_all, w.before #[Value.ref b] s = true := fun w h => hts0 w (lw_all_tbl h)
  have hown : s.vm.findClass RX0 = some m.cls := hown
  have hA : ∀ q : Nat, s.heap.size ≤ q → (fun q : Nat => s.heap.size ≤ q) q := fun _ h => h
  have hbA : ¬ (fun q : Nat => s.heap.size ≤ q) b := Nat.not_le.mpr hbl
  have hT := sk_scr_of (A := (fun q : Nat => s.heap.size ≤ q)) hX hbA
  obtain ⟨ft, hE⟩ := sk_env hts0 hgv
  obtain ⟨G, dB, dJ, hK⟩ := sk_cls hts0
  have hS : va_S (fun q : Nat => s.heap.size ≤ q) s.heap s.heap [] := va_S.rf
  have hP : va_P G vwCl [] s.heap := fun k q h => by simp at h
  have hD : va_D (fun q : Nat => s.heap.size ≤ q) [] := ⟨fun i j p q h => by simp at h, fun k q h => by simp at h⟩
  have hl := lv_entry ([.ref b]) (n := 8) (Nat.le_of_ble_eq_true rfl)
  rw [lg_entry_eq]
  generalize (lg_sl ([.ref b]) ++ List.replicate (8 - (lg_sl ([.ref b])).length) Slot.unset).toArray = ls at hl ⊢
  have hl : lv_has ls 8 [(0, .ref b)] := hl
  refine sk_ci (va_runS (As := []) (rest := []) ⟨hx, hb, hml, hown, hts⟩ (met_known l G dB dJ ft s.heap.size) (va_cwS 0 hts (lw_S q284 q285 q4 q286) rfl rfl rfl (by decide +kernel) ⟨Nat.le_of_ble_eq_true rfl, Nat.le_of_ble_eq_true rfl⟩) ⟨sk_blind, sk_pre hP hD hK hE hS hA [] [] rfl (by decide)⟩ rfl rfl hl.1 rfl (lv_room (Nat.le_of_ble_eq_true rfl)) dL_law_0 ⟨Nat.le_of_ble_eq_true rfl, Nat.le_of_ble_eq_true rfl⟩) hP hD hS hA [] [] [] rfl rfl (by decide) (by decide) (fun rz w1 H locs hrz hR hP hD hS => ?_)
  obtain rfl := hR
  have hP : va_P G vwCl [] H := hP
  have hD : va_D (fun q : Nat => s.heap.size ≤ q) [] := hD
  subst hrz
  refine W.widen (k := 13) (n := 213) (Nat.le_of_ble_eq_true rfl) (Nat.le_of_ble_eq_true rfl) ?_
  refine lv_if_ne (tgt := 8) hx hb dL_law_3 (by decide) (fun _ => ?_) (fun h9 => absurd h9 (by decide))
  refine lv_iconst (v := 1) hx hb dL_law_8 (by decide) ?_
  refine sk_newI (N := 1) hx hb (hts _ q181) hK hP hD hS hA (by decide) (by decide) (Nat.le_of_ble_eq_true rfl) (Nat.le_of_ble_eq_true rfl) (Nat.le_of_ble_eq_true rfl) dL_law_9 (fun qv H hP hD hS => ?_)
  have hP : va_P G vwCl [(qv, .inl (dJ, 1, .inl (fun _ => 0)))] H := hP
  have hD : va_D (fun q : Nat => s.heap.size ≤ q) [(qv, .inl (dJ, 1, .inl (fun _ => 0)))] := hD
  refine W.widen (k := 14) (n := 214) (Nat.le_of_ble_eq_true rfl) (Nat.le_of_ble_eq_true rfl) ?_
  refine lv_dup hx hb dL_law_11 rfl ?_
  refine lv_iconst (v := 0) hx hb dL_law_12 (by decide) ?_
  refine sk_top (w := nI 0) (rfl) ?_
  refine lv_iconst (v := 0) hx hb dL_law_13 (by decide) ?_
  refine sk_ist hx hb hK hP hD hS 0 rfl (j := 0) (by decide) (Nat.le_of_ble_eq_true rfl) dL_law_14 (fun g1 H locs e_g1 hP hD hS => ?_)
  have hP : va_P G vwCl [(qv, .inl (dJ, 1, .inl g1))] H := hP
  have hD : va_D (fun q : Nat => s.heap.size ≤ q) [(qv, .inl (dJ, 1, .inl g1))] := hD
  refine lv_astore_n (lv' := [(1, .ref qv), (0, .ref b)]) hx hb dL_law_15 rfl hl (by decide) rfl (fun ls hl => ?_)
  refine lv_aload_n hx hb dL_law_16 rfl (lv_at hl 0 rfl) ?_
  refine lv_astore_n (lv' := [(2, .ref qv), (1, .ref qv), (0, .ref b)]) hx hb dL_law_17 rfl hl (by decide) rfl (fun ls hl => ?_)
  refine lv_aload_n hx hb dL_law_18 rfl (lv_at hl 0 rfl) ?_
  refine va_alen (v := 1) hx hb hK hP 0 1 rfl rfl rfl dL_law_19 ?_
  refine lv_istore_n (lv' := [(3, .int 1), (2, .ref qv), (1, .ref qv), (0, .ref b)]) hx hb dL_law_20 rfl hl (by decide) rfl (fun ls hl => ?_)
  refine lv_iconst (v := 0) hx hb dL_law_21 (by decide) ?_
  refine lv_istore (lv' := [(4, .int 0), (3, .int 1), (2, .ref qv), (1, .ref qv), (0, .ref b)]) hx hb dL_law_22 hl (by decide) rfl (fun ls hl => ?_)
  refine lv_iload hx hb dL_law_24 (lv_at hl 0 rfl) ?_
  refine lv_iload_n hx hb dL_law_26 rfl (lv_at hl 1 rfl) ?_
  refine lv_icmp_ge (tgt := 112) hx hb dL_law_27 (by decide) (fun h9 => absurd h9 (by decide)) (fun _ => ?_)
  refine lv_aload_n hx hb dL_law_30 rfl (lv_at hl 2 rfl) ?_
  refine lv_iload hx hb dL_law_31 (lv_at hl 0 rfl) ?_
  refine sk_top (w := nI 0) (rfl) ?_
  refine sk_ild hx hb hK hP 0 rfl (j := 0) (by decide) (Nat.le_of_ble_eq_true rfl) dL_law_33 ?_
  refine sk_top (w := 0) (sk_ip_s e_g1) ?_
  refine lv_istore (lv' := [(5, .int 0), (4, .int 0), (3, .int 1), (2, .ref qv), (1, .ref qv), (0, .ref b)]) hx hb dL_law_34 hl (by decide) rfl (fun ls hl => ?_)
  refine lv_aload_n hx hb dL_law_36 rfl (lv_at hl 5 rfl) ?_
  refine sk_cr (va_runS (As := [.ref b]) (rest := []) ⟨hx, hb, hml, hown, hts⟩ (met_with l G dB dJ ft b L xs hL H.size) (va_cwS 1 hts (lw_S q245 q246 q4 q247) rfl rfl rfl (by decide +kernel) ⟨Nat.le_of_ble_eq_true rfl, Nat.le_of_ble_eq_true rfl⟩) ⟨sk_blindL, sk_preL hD hK hE hT hS hA [.ref b]⟩ rfl rfl hl.1 rfl (lv_room (Nat.le_of_ble_eq_true rfl)) dL_law_37 ⟨Nat.le_of_ble_eq_true rfl, Nat.le_of_ble_eq_true rfl⟩) hP hD hS hA [] [0] [(qv, .inl (dJ, 1, .inl g1))] rfl rfl (by decide) (by decide) (fun x0 w1 H locs hR hP hD hS => ?_)
  obtain ⟨xk, xb, xo, kx, fx, hfx, rfl⟩ := hR
  have hP : va_P G vwCl [(qv, .inl (dJ, 1, .inl g1)), (x0, .inr (0, [.ref xk, .ref xb, .ref xo])), (xo, .inl (dB, 8, .inl (fun _ => 0))), (xk, .inl (dB, 32, .inl kx)), (xb, .inl (dB, 8, .inl fx))] H := hP
  have hD : va_D (fun q : Nat => s.heap.size ≤ q) [(qv, .inl (dJ, 1, .inl g1)), (x0, .inr (0, [.ref xk, .ref xb, .ref xo])), (xo, .inl (dB, 8, .inl (fun _ => 0))), (xk, .inl (dB, 32, .inl kx)), (xb, .inl (dB, 8, .inl fx))] := hD
  refine W.widen (k := 18) (n := 265) (Nat.le_of_ble_eq_true rfl) (Nat.le_of_ble_eq_true rfl) ?_
  refine lv_astore (lv' := [(6, .ref x0), (5, .int 0), (4, .int 0), (3, .int 1), (2, .ref qv), (1, .ref qv), (0, .ref b)]) hx hb dL_law_40 hl (by decide) rfl (fun ls hl => ?_)
  refine lv_aload_n hx hb dL_law_42 rfl (lv_at hl 6 rfl) ?_
  refine sk_cr (va_runS (As := [.ref b]) (rest := []) ⟨hx, hb, hml, hown, hts⟩ (met_with l G dB dJ ft b L xs hL H.size) (va_cwS 1 hts (lw_S q245 q246 q4 q247) rfl rfl rfl (by decide +kernel) ⟨Nat.le_of_ble_eq_true rfl, Nat.le_of_ble_eq_true rfl⟩) ⟨sk_blindL, sk_preL hD hK hE hT hS hA [.ref b]⟩ rfl rfl hl.1 rfl (lv_room (Nat.le_of_ble_eq_true rfl)) dL_law_43 ⟨Nat.le_of_ble_eq_true rfl, Nat.le_of_ble_eq_true rfl⟩) hP hD hS hA [] [0, 1, 2, 3, 4] [(qv, .inl (dJ, 1, .inl g1)), (x0, .inr (0, [.ref xk, .ref xb, .ref xo])), (xo, .inl (dB, 8, .inl (fun _ => 0))), (xk, .inl (dB, 32, .inl kx)), (xb, .inl (dB, 8, .inl fx))] rfl rfl (by decide) (by decide) (fun y0 w1 H locs hR hP hD hS => ?_)
  obtain ⟨yk, yb, yo, ky, fy, hfy, rfl⟩ := hR
  have hP : va_P G vwCl [(qv, .inl (dJ, 1, .inl g1)), (x0, .inr (0, [.ref xk, .ref xb, .ref xo])), (xo, .inl (dB, 8, .inl (fun _ => 0))), (xk, .inl (dB, 32, .inl kx)), (xb, .inl (dB, 8, .inl fx)), (y0, .inr (0, [.ref yk, .ref yb, .ref yo])), (yo, .inl (dB, 8, .inl (fun _ => 0))), (yk, .inl (dB, 32, .inl ky)), (yb, .inl (dB, 8, .inl fy))] H := hP
  have hD : va_D (fun q : Nat => s.heap.size ≤ q) [(qv, .inl (dJ, 1, .inl g1)), (x0, .inr (0, [.ref xk, .ref xb, .ref xo])), (xo, .inl (dB, 8, .inl (fun _ => 0))), (xk, .inl (dB, 32, .inl kx)), (xb, .inl (dB, 8, .inl fx)), (y0, .inr (0, [.ref yk, .ref yb, .ref yo])), (yo, .inl (dB, 8, .inl (fun _ => 0))), (yk, .inl (dB, 32, .inl ky)), (yb, .inl (dB, 8, .inl fy))] := hD
  refine W.widen (k := 22) (n := 316) (Nat.le_of_ble_eq_true rfl) (Nat.le_of_ble_eq_true rfl) ?_
  refine lv_astore (lv' := [(7, .ref y0), (6, .ref x0), (5, .int 0), (4, .int 0), (3, .int 1), (2, .ref qv), (1, .ref qv), (0, .ref b)]) hx hb dL_law_46 hl (by decide) rfl (fun ls hl => ?_)
  refine lv_aload hx hb dL_law_48 (lv_at hl 1 rfl) ?_
  refine lv_iload hx hb dL_law_50 (lv_at hl 2 rfl) ?_
  refine sk_cv (va_runV (As := [.int 0]) (rest := []) ⟨hx, hb, hml, hown, hts⟩ (met_lock l G dB dJ ft x0 xk xb xo kx fx (fun _ => 0) 0 H.size) (cwV 1 hts (lw_V q17 q18 q19 q5 q20) rfl rfl rfl (by decide +kernel) ⟨Nat.le_of_ble_eq_true rfl, Nat.le_of_ble_eq_true rfl⟩) ⟨sk_blind, va_recv hK hP (ci := 0) (q0 := 1) rfl rfl, sk_pre hP hD hK hE hS hA [.ref x0, .int 0] [1, 3, 4, 2] rfl (by decide)⟩ rfl rfl hl.1 rfl (lv_room (Nat.le_of_ble_eq_true rfl)) dL_law_52 ⟨Nat.le_of_ble_eq_true rfl, Nat.le_of_ble_eq_true rfl⟩) hP hD hS hA [1, 3, 4, 2] [0, 5, 6, 7, 8] [(qv, .inl (dJ, 1, .inl g1)), (y0, .inr (0, [.ref yk, .ref yb, .ref yo])), (yo, .inl (dB, 8, .inl (fun _ => 0))), (yk, .inl (dB, 32, .inl ky)), (yb, .inl (dB, 8, .inl fy))] rfl rfl (by decide) (by decide) (fun w1 H locs hR hP hD hS => ?_)
  obtain ⟨ox1, hox1, rfl⟩ := hR
  have hP : va_P G vwCl [(qv, .inl (dJ, 1, .inl g1)), (y0, .inr (0, [.ref yk, .ref yb, .ref yo])), (yo, .inl (dB, 8, .inl (fun _ => 0))), (yk, .inl (dB, 32, .inl ky)), (yb, .inl (dB, 8, .inl fy)), (x0, .inr (0, [.ref xk, .ref xb, .ref xo])), (xk, .inl (dB, 32, .inl kx)), (xb, .inl (dB, 8, .inl fx)), (xo, .inl (dB, 8, .inl ox1))] H := hP
  have hD : va_D (fun q : Nat => s.heap.size ≤ q) [(qv, .inl (dJ, 1, .inl g1)), (y0, .inr (0, [.ref yk, .ref yb, .ref yo])), (yo, .inl (dB, 8, .inl (fun _ => 0))), (yk, .inl (dB, 32, .inl ky)), (yb, .inl (dB, 8, .inl fy)), (x0, .inr (0, [.ref xk, .ref xb, .ref xo])), (xk, .inl (dB, 32, .inl kx)), (xb, .inl (dB, 8, .inl fx)), (xo, .inl (dB, 8, .inl ox1))] := hD
  refine W.widen (k := 30) (n := 470) (Nat.le_of_ble_eq_true rfl) (Nat.le_of_ble_eq_true rfl) ?_
  refine lv_aload hx hb dL_law_55 (lv_at hl 0 rfl) ?_
  refine lv_iload hx hb dL_law_57 (lv_at hl 2 rfl) ?_
  refine sk_cv (va_runV (As := [.int 0]) (rest := []) ⟨hx, hb, hml, hown, hts⟩ (met_back l G dB dJ ft y0 yk yb yo ky fy (fun _ => 0) 0 H.size) (cwV 1 hts (lw_V q237 q238 q239 q5 q240) rfl rfl rfl (by decide +kernel) ⟨Nat.le_of_ble_eq_true rfl, Nat.le_of_ble_eq_true rfl⟩) ⟨sk_blind, va_recv hK hP (ci := 0) (q0 := 1) rfl rfl, sk_pre hP hD hK hE hS hA [.ref y0, .int 0] [1, 3, 4, 2] rfl (by decide)⟩ rfl rfl hl.1 rfl (lv_room (Nat.le_of_ble_eq_true rfl)) dL_law_59 ⟨Nat.le_of_ble_eq_true rfl, Nat.le_of_ble_eq_true rfl⟩) hP hD hS hA [1, 3, 4, 2] [0, 5, 6, 7, 8] [(qv, .inl (dJ, 1, .inl g1)), (x0, .inr (0, [.ref xk, .ref xb, .ref xo])), (xk, .inl (dB, 32, .inl kx)), (xb, .inl (dB, 8, .inl fx)), (xo, .inl (dB, 8, .inl ox1))] rfl rfl (by decide) (by decide) (fun w1 H locs hR hP hD hS => ?_)
  obtain ⟨oy1, hoy1, rfl⟩ := hR
  have hP : va_P G vwCl [(qv, .inl (dJ, 1, .inl g1)), (x0, .inr (0, [.ref xk, .ref xb, .ref xo])), (xk, .inl (dB, 32, .inl kx)), (xb, .inl (dB, 8, .inl fx)), (xo, .inl (dB, 8, .inl ox1)), (y0, .inr (0, [.ref yk, .ref yb, .ref yo])), (yk, .inl (dB, 32, .inl ky)), (yb, .inl (dB, 8, .inl fy)), (yo, .inl (dB, 8, .inl oy1))] H := hP
  have hD : va_D (fun q : Nat => s.heap.size ≤ q) [(qv, .inl (dJ, 1, .inl g1)), (x0, .inr (0, [.ref xk, .ref xb, .ref xo])), (xk, .inl (dB, 32, .inl kx)), (xb, .inl (dB, 8, .inl fx)), (xo, .inl (dB, 8, .inl ox1)), (y0, .inr (0, [.ref yk, .ref yb, .ref yo])), (yk, .inl (dB, 32, .inl ky)), (yb, .inl (dB, 8, .inl fy)), (yo, .inl (dB, 8, .inl oy1))] := hD
  refine W.widen (k := 38) (n := 624) (Nat.le_of_ble_eq_true rfl) (Nat.le_of_ble_eq_true rfl) ?_
  refine lv_aload hx hb dL_law_62 (lv_at hl 1 rfl) ?_
  refine sk_cv (va_runV (As := []) (rest := []) ⟨hx, hb, hml, hown, hts⟩ (met_again l G dB dJ ft x0 xk xb xo kx fx ox1 H.size) (cwV 0 hts (lw_V q241 q242 q243 q5 q244) rfl rfl rfl (by decide +kernel) ⟨Nat.le_of_ble_eq_true rfl, Nat.le_of_ble_eq_true rfl⟩) ⟨sk_blind, va_recv hK hP (ci := 0) (q0 := 1) rfl rfl, sk_pre hP hD hK hE hS hA [.ref x0] [1, 2, 3, 4] rfl (by decide)⟩ rfl rfl hl.1 rfl (lv_room (Nat.le_of_ble_eq_true rfl)) dL_law_64 ⟨Nat.le_of_ble_eq_true rfl, Nat.le_of_ble_eq_true rfl⟩) hP hD hS hA [1, 2, 3, 4] [0, 5, 6, 7, 8] [(qv, .inl (dJ, 1, .inl g1)), (y0, .inr (0, [.ref yk, .ref yb, .ref yo])), (yk, .inl (dB, 32, .inl ky)), (yb, .inl (dB, 8, .inl fy)), (yo, .inl (dB, 8, .inl oy1))] rfl rfl (by decide) (by decide) (fun w1 H locs hR hP hD hS => ?_)
  obtain ⟨bx1, hbx1, rfl⟩ := hR
  have hP : va_P G vwCl [(qv, .inl (dJ, 1, .inl g1)), (y0, .inr (0, [.ref yk, .ref yb, .ref yo])), (yk, .inl (dB, 32, .inl ky)), (yb, .inl (dB, 8, .inl fy)), (yo, .inl (dB, 8, .inl oy1)), (x0, .inr (0, [.ref xk, .ref xb, .ref xo])), (xk, .inl (dB, 32, .inl kx)), (xb, .inl (dB, 8, .inl bx1)), (xo, .inl (dB, 8, .inl ox1))] H := hP
  have hD : va_D (fun q : Nat => s.heap.size ≤ q) [(qv, .inl (dJ, 1, .inl g1)), (y0, .inr (0, [.ref yk, .ref yb, .ref yo])), (yk, .inl (dB, 32, .inl ky)), (yb, .inl (dB, 8, .inl fy)), (yo, .inl (dB, 8, .inl oy1)), (x0, .inr (0, [.ref xk, .ref xb, .ref xo])), (xk, .inl (dB, 32, .inl kx)), (xb, .inl (dB, 8, .inl bx1)), (xo, .inl (dB, 8, .inl ox1))] := hD
  refine lv_aload hx hb dL_law_67 (lv_at hl 1 rfl) ?_
  refine lv_iload hx hb dL_law_69 (lv_at hl 2 rfl) ?_
  refine sk_cv (va_runV (As := [.int 0]) (rest := []) ⟨hx, hb, hml, hown, hts⟩ (met_back l G dB dJ ft x0 xk xb xo kx bx1 ox1 0 H.size) (cwV 1 hts (lw_V q237 q238 q239 q5 q240) rfl rfl rfl (by decide +kernel) ⟨Nat.le_of_ble_eq_true rfl, Nat.le_of_ble_eq_true rfl⟩) ⟨sk_blind, va_recv hK hP (ci := 0) (q0 := 5) rfl rfl, sk_pre hP hD hK hE hS hA [.ref x0, .int 0] [5, 6, 7, 8] rfl (by decide)⟩ rfl rfl hl.1 rfl (lv_room (Nat.le_of_ble_eq_true rfl)) dL_law_71 ⟨Nat.le_of_ble_eq_true rfl, Nat.le_of_ble_eq_true rfl⟩) hP hD hS hA [5, 6, 7, 8] [0, 1, 2, 3, 4] [(qv, .inl (dJ, 1, .inl g1)), (y0, .inr (0, [.ref yk, .ref yb, .ref yo])), (yk, .inl (dB, 32, .inl ky)), (yb, .inl (dB, 8, .inl fy)), (yo, .inl (dB, 8, .inl oy1))] rfl rfl (by decide) (by decide) (fun w1 H locs hR hP hD hS => ?_)
  obtain ⟨ox2, hox2, rfl⟩ := hR
  have hP : va_P G vwCl [(qv, .inl (dJ, 1, .inl g1)), (y0, .inr (0, [.ref yk, .ref yb, .ref yo])), (yk, .inl (dB, 32, .inl ky)), (yb, .inl (dB, 8, .inl fy)), (yo, .inl (dB, 8, .inl oy1)), (x0, .inr (0, [.ref xk, .ref xb, .ref xo])), (xk, .inl (dB, 32, .inl kx)), (xb, .inl (dB, 8, .inl bx1)), (xo, .inl (dB, 8, .inl ox2))] H := hP
  have hD : va_D (fun q : Nat => s.heap.size ≤ q) [(qv, .inl (dJ, 1, .inl g1)), (y0, .inr (0, [.ref yk, .ref yb, .ref yo])), (yk, .inl (dB, 32, .inl ky)), (yb, .inl (dB, 8, .inl fy)), (yo, .inl (dB, 8, .inl oy1)), (x0, .inr (0, [.ref xk, .ref xb, .ref xo])), (xk, .inl (dB, 32, .inl kx)), (xb, .inl (dB, 8, .inl bx1)), (xo, .inl (dB, 8, .inl ox2))] := hD
  refine W.widen (k := 46) (n := 778) (Nat.le_of_ble_eq_true rfl) (Nat.le_of_ble_eq_true rfl) ?_
  refine lv_aload hx hb dL_law_74 (lv_at hl 0 rfl) ?_
  refine sk_cv (va_runV (As := []) (rest := []) ⟨hx, hb, hml, hown, hts⟩ (met_again l G dB dJ ft y0 yk yb yo ky fy oy1 H.size) (cwV 0 hts (lw_V q241 q242 q243 q5 q244) rfl rfl rfl (by decide +kernel) ⟨Nat.le_of_ble_eq_true rfl, Nat.le_of_ble_eq_true rfl⟩) ⟨sk_blind, va_recv hK hP (ci := 0) (q0 := 1) rfl rfl, sk_pre hP hD hK hE hS hA [.ref y0] [1, 2, 3, 4] rfl (by decide)⟩ rfl rfl hl.1 rfl (lv_room (Nat.le_of_ble_eq_true rfl)) dL_law_76 ⟨Nat.le_of_ble_eq_true rfl, Nat.le_of_ble_eq_true rfl⟩) hP hD hS hA [1, 2, 3, 4] [0, 5, 6, 7, 8] [(qv, .inl (dJ, 1, .inl g1)), (x0, .inr (0, [.ref xk, .ref xb, .ref xo])), (xk, .inl (dB, 32, .inl kx)), (xb, .inl (dB, 8, .inl bx1)), (xo, .inl (dB, 8, .inl ox2))] rfl rfl (by decide) (by decide) (fun w1 H locs hR hP hD hS => ?_)
  obtain ⟨by1, hby1, rfl⟩ := hR
  have hP : va_P G vwCl [(qv, .inl (dJ, 1, .inl g1)), (x0, .inr (0, [.ref xk, .ref xb, .ref xo])), (xk, .inl (dB, 32, .inl kx)), (xb, .inl (dB, 8, .inl bx1)), (xo, .inl (dB, 8, .inl ox2)), (y0, .inr (0, [.ref yk, .ref yb, .ref yo])), (yk, .inl (dB, 32, .inl ky)), (yb, .inl (dB, 8, .inl by1)), (yo, .inl (dB, 8, .inl oy1))] H := hP
  have hD : va_D (fun q : Nat => s.heap.size ≤ q) [(qv, .inl (dJ, 1, .inl g1)), (x0, .inr (0, [.ref xk, .ref xb, .ref xo])), (xk, .inl (dB, 32, .inl kx)), (xb, .inl (dB, 8, .inl bx1)), (xo, .inl (dB, 8, .inl ox2)), (y0, .inr (0, [.ref yk, .ref yb, .ref yo])), (yk, .inl (dB, 32, .inl ky)), (yb, .inl (dB, 8, .inl by1)), (yo, .inl (dB, 8, .inl oy1))] := hD
  refine lv_aload hx hb dL_law_79 (lv_at hl 0 rfl) ?_
  refine lv_iload hx hb dL_law_81 (lv_at hl 2 rfl) ?_
  refine sk_cv (va_runV (As := [.int 0]) (rest := []) ⟨hx, hb, hml, hown, hts⟩ (met_lock l G dB dJ ft y0 yk yb yo ky by1 oy1 0 H.size) (cwV 1 hts (lw_V q17 q18 q19 q5 q20) rfl rfl rfl (by decide +kernel) ⟨Nat.le_of_ble_eq_true rfl, Nat.le_of_ble_eq_true rfl⟩) ⟨sk_blind, va_recv hK hP (ci := 0) (q0 := 5) rfl rfl, sk_pre hP hD hK hE hS hA [.ref y0, .int 0] [5, 6, 7, 8] rfl (by decide)⟩ rfl rfl hl.1 rfl (lv_room (Nat.le_of_ble_eq_true rfl)) dL_law_83 ⟨Nat.le_of_ble_eq_true rfl, Nat.le_of_ble_eq_true rfl⟩) hP hD hS hA [5, 6, 7, 8] [0, 1, 2, 3, 4] [(qv, .inl (dJ, 1, .inl g1)), (x0, .inr (0, [.ref xk, .ref xb, .ref xo])), (xk, .inl (dB, 32, .inl kx)), (xb, .inl (dB, 8, .inl bx1)), (xo, .inl (dB, 8, .inl ox2))] rfl rfl (by decide) (by decide) (fun w1 H locs hR hP hD hS => ?_)
  obtain ⟨oy2, hoy2, rfl⟩ := hR
  have hP : va_P G vwCl [(qv, .inl (dJ, 1, .inl g1)), (x0, .inr (0, [.ref xk, .ref xb, .ref xo])), (xk, .inl (dB, 32, .inl kx)), (xb, .inl (dB, 8, .inl bx1)), (xo, .inl (dB, 8, .inl ox2)), (y0, .inr (0, [.ref yk, .ref yb, .ref yo])), (yk, .inl (dB, 32, .inl ky)), (yb, .inl (dB, 8, .inl by1)), (yo, .inl (dB, 8, .inl oy2))] H := hP
  have hD : va_D (fun q : Nat => s.heap.size ≤ q) [(qv, .inl (dJ, 1, .inl g1)), (x0, .inr (0, [.ref xk, .ref xb, .ref xo])), (xk, .inl (dB, 32, .inl kx)), (xb, .inl (dB, 8, .inl bx1)), (xo, .inl (dB, 8, .inl ox2)), (y0, .inr (0, [.ref yk, .ref yb, .ref yo])), (yk, .inl (dB, 32, .inl ky)), (yb, .inl (dB, 8, .inl by1)), (yo, .inl (dB, 8, .inl oy2))] := hD
  refine W.widen (k := 54) (n := 932) (Nat.le_of_ble_eq_true rfl) (Nat.le_of_ble_eq_true rfl) ?_
  have sx : ∀ i, i < 8 → sk_by (ox2 i) = sk_wb (sk_cell L xs (8 + i / 4)) (i % 4) := fun i hi => (sk_r1 hox1 hbx1 hox2 i hi).trans (hfx i hi)
  have sy : ∀ i, i < 8 → sk_by (oy2 i) = sk_wb (sk_cell L xs (8 + i / 4)) (i % 4) := fun i hi => (sk_r2 hoy1 hby1 hoy2 i hi).trans (hfy i hi)
  refine lv_aload hx hb dL_law_86 (lv_at hl 1 rfl) ?_
  refine lv_aload_n hx hb dL_law_88 rfl (lv_at hl 7 rfl) ?_
  refine vp_callSi (W.runS (As := [.ref x0, .ref b]) (rest := []) ⟨hx, hb, hml, hown, hts⟩ (met_same l G dB dJ ft x0 xk xb xo kx bx1 ox2 b L xs hL sx) (va_cwS 2 hts (lw_S q277 q278 q4 q279) rfl rfl rfl (by decide +kernel) ⟨Nat.le_of_ble_eq_true rfl, Nat.le_of_ble_eq_true rfl⟩) ⟨sk_blindS, sk_preS hP hK hE hT hS [.ref x0, .ref b] [1, 2, 3, 4] rfl⟩ rfl rfl hl.1 rfl (lv_room (Nat.le_of_ble_eq_true rfl)) dL_law_89 ⟨Nat.le_of_ble_eq_true rfl, Nat.le_of_ble_eq_true rfl⟩) (fun r hr9 => ?_)
  subst hr9
  refine lv_if_eq (tgt := 104) hx hb dL_law_92 (by decide) (fun h9 => absurd h9 (by decide)) (fun _ => ?_)
  refine lv_aload hx hb dL_law_95 (lv_at hl 0 rfl) ?_
  refine lv_aload_n hx hb dL_law_97 rfl (lv_at hl 7 rfl) ?_
  refine vp_callSi (W.runS (As := [.ref y0, .ref b]) (rest := []) ⟨hx, hb, hml, hown, hts⟩ (met_same l G dB dJ ft y0 yk yb yo ky by1 oy2 b L xs hL sy) (va_cwS 2 hts (lw_S q277 q278 q4 q279) rfl rfl rfl (by decide +kernel) ⟨Nat.le_of_ble_eq_true rfl, Nat.le_of_ble_eq_true rfl⟩) ⟨sk_blindS, sk_preS hP hK hE hT hS [.ref y0, .ref b] [5, 6, 7, 8] rfl⟩ rfl rfl hl.1 rfl (lv_room (Nat.le_of_ble_eq_true rfl)) dL_law_98 ⟨Nat.le_of_ble_eq_true rfl, Nat.le_of_ble_eq_true rfl⟩) (fun r hr9 => ?_)
  subst hr9
  refine lv_if_ne (tgt := 106) hx hb dL_law_101 (by decide) (fun _ => ?_) (fun h9 => absurd h9 (by decide))
  refine lv_iinc (v := 1) (lv' := [(4, .int 1), (7, .ref y0), (6, .ref x0), (5, .int 0), (3, .int 1), (2, .ref qv), (1, .ref qv), (0, .ref b)]) hx hb dL_law_106 hl (k := 3) rfl (by decide) (by decide) rfl (fun ls hl => ?_)
  refine lv_goto (tgt := 24) hx hb dL_law_109 (by decide) ?_
  refine lv_iload hx hb dL_law_24 (lv_at hl 0 rfl) ?_
  refine lv_iload_n hx hb dL_law_26 rfl (lv_at hl 4 rfl) ?_
  refine lv_icmp_ge (tgt := 112) hx hb dL_law_27 (by decide) (fun _ => ?_) (fun h9 => absurd (by decide) h9)
  refine lv_iconst (v := 1) hx hb dL_law_112 (by decide) ?_
  refine va_forget hS.2.2 ?_
  refine W.widen (k := 600020) (n := 7302070) (Nat.le_of_ble_eq_true rfl) (Nat.le_of_ble_eq_true rfl) ?_
  exact lw_ret hx hb hr hlocks dL_law_113
-- ===== YOUR PART ENDS =====
set_option maxHeartbeats 4000000 in
theorem lw_walk (l : Launch) (hflags : l.flags = flags0) (b : Addr) (xs : List Int32) : MetFree l x (headSpec (Jvm.Cond.code x code maxLocals ret :: tables_1) room_1) (lw_P b xs) (fun _ _ _ _ _ => True) lw_Q := by
  refine MetFree.of_bodyS (code := code) (maxLocals := maxLocals) (ret := ret) (by decide) ?_ ?_
  · intro args s m h hn
    obtain ⟨meth, c, h1, h2, h3, h4, h5, h6, -, -⟩ := Cond.code_spec hn (atoms_spec (ws := Jvm.Cond.code x code maxLocals ret :: tables_1) h _ List.mem_cons_self)
    exact ⟨meth, c, h1, h2, h3, h4, h5, h6⟩
  · intro p e s m args below meth c s₁ B hml0 hP _
    obtain ⟨rfl, hx, hbd, hgv⟩ := hP
    obtain ⟨scr, harrAt, hlist, hof, hsmall⟩ := hx
    obtain ⟨hcb, hkn, -, -⟩ := State.arrayAt?_spec harrAt
    have hown : s.vm.findClass R_law = some m.cls := findClass_of_methodNamed B.named
    have hts0 : ∀ c ∈ (Jvm.Cond.code x code maxLocals ret :: tables_1), c.before #[Value.ref b] s = true := atoms_spec (ws := Jvm.Cond.code x code maxLocals ret :: tables_1) B.pre
    have hts : ∀ w ∈ lw_tbl, w.before #[Value.ref b] s = true := k2_hts_sels lw_privs (fun w hw => hts0 w (List.mem_cons_of_mem _ hw)) lw_privs_ok
    have hml : c.maxLocals = 8 := B.maxLocals_eq (hts0 _ List.mem_cons_self)
    have X₀ : Stand p l e room_1 s m #[Value.ref b] below meth c s₁ [] 0 0 := Stand.of_body B
    have hh0 : s₁.heap = s.heap := by rw [B.state]; rfl
    have hsz : scr.slots.size = xs.length := by rw [← Array.length_toList, hlist, List.length_map]
    have hval : ∀ j : Nat, j < xs.length → scr.slots[j]? = some (.int (xs.getD j 0)) := fun j hj => by
      rw [← Array.getElem?_toList, hlist]
      simp [hj]
    have hbl : b < s.heap.size := (Array.getElem?_eq_some_iff.mp hcb).1
    have hX : va_X b xs.length (fun j => xs.getD j 0) s s.heap := ⟨scr, hcb, hof, hkn, hsz, hval⟩
    have K : W p l e room_1 s m #[Value.ref b] below meth c s₁.heap [] 0 0 (lw_Z below #[Value.ref b] s) (entryFrame m ([Value.ref b] : List Value).toArray 8) := by
      rw [hh0]
      exact whole_start l hflags hbd ⟨B.exec, B.bytes, B.returns, hml, hown, hts, hX, hbl, B.notSynchronized, hgv⟩
    obtain ⟨t, a1, o, b1, b2, b3⟩ := K s₁ rfl X₀
    exact ⟨t, o, a1, b1, b2, b3⟩
theorem lw_pre_spec {args : Array Value} {s : State} (h : (Jvm.Cond.and given_1 narrow_1).before args s = true) (hr : rest_1_c.before args s = true) : ∃ (b : Addr) (xs : List Int32), lw_P b xs args s := by
  have hs := flat_of_before _ h
  have hq := flat_of_before _ hr
  have hc : (Cond.count 1).before args s = true := hs _ (by decide +kernel)
  have harr : (Cond.arrayOf (.arg 0) .int).before args s = true := hs _ (by decide +kernel)
  have hle : (Cond.le (.length (.arg 0)) (.int 10)).before args s = true := hs _ (by decide +kernel)
  have hlen : (Cond.isInt (.length (.arg 0))).before args s = true := hq _ (by decide +kernel)
  have hall : (Cond.all (.arg 0) (.isInt (.elem (.arg 0) (.index 0)))).before args s = true := hq _ (by decide +kernel)
  obtain ⟨b, xs, hb, hx⟩ := State.ints_of_pre rfl harr hlen hall
  have hsm : xs.length < 2 ^ 31 := hx.choose_spec.2.2.2
  have hev : (Term.length (.arg 0)).eval args s none [] s = some (.int xs.length.toInt32) := hx.length_eval hb
  have hv := Cond.le_ints hev (show (Term.int 10).eval args s none [] s = some (.int 10) from rfl)
  have hd : xs.length.toInt32 ≤ 10 := by
    simpa [Cond.before, Cond.holds, hv] using hle
  have hN : xs.length ≤ 10 := (Int32.ofNat_le_ofNat hsm (by decide)).mp (show Int32.ofNat xs.length ≤ Int32.ofNat 10 from hd)
  exact ⟨b, xs, Cond.one_arg hc (show args[0]? = some (.ref b) from hb), hx, hN, h⟩
theorem lw_comes (l : Launch) (hflags : l.flags = flags0) : Comes l x (Jvm.Cond.code x code maxLocals ret :: tables_1) room_1 (fun tb e args s => Calls_1 tb e args s ∧ rest_1 tb e args s ∧ Pre_1 tb e args s)
    (fun _ _ args s o t => lw_Q args s o t) := by
  intro p e ha hc hk s m args below hf hfit hheap happ hpre
  obtain ⟨b, xs, hP⟩ := lw_pre_spec hpre.2.2 hpre.2.1
  obtain ⟨k, o, h1, h2, h3, hQ⟩ := lw_walk l hflags b xs p e ha hc hk s m args below hf ((Spec.applies_iff_loose hf).mp happ).1 hP trivial
  exact ⟨k, o, h1, h2, h3, hQ⟩
theorem lw_frame {s t : State} {o : Outcome} {args : Array Value} (h : Framed s o t [] 600020 7302070) :
    Framed s o t (fieldLocs frame_1_writes args s ++ arrayLocs frame_1_arrays args s ++ staticLocs frame_1_statics s) 600020 7302070 := h
theorem lw_limb (L : Cond) (hL : ∀ (args : Array Value) (s t : State), L.after args s (.returned (some (.int 1))) t = true) :
    ArmFor flags0 classFile x code maxLocals ret World_1 tables_1 room_1 Calls_1 rest_1 Pre_1
      (fun tb e a s o t => postC L tb e a s o t ∧ Framed s o t (fieldLocs frame_1_writes a s ++ arrayLocs frame_1_arrays a s ++ staticLocs frame_1_statics s) 600020 7302070) := by
  intro l hflags _ _ p e ha hc hk s m args below hf hfit hheap happ hpre
  obtain ⟨k, o, h1, h2, h3, rfl, hF⟩ := lw_comes l hflags p e ha hc hk s m args below hf hfit hheap happ hpre
  exact ⟨k, _, h1, h2, h3, hL args s _, lw_frame hF⟩
theorem i_vc : Claimed_1_1 ∧ Claimed_1_2 := ⟨lw_limb limb_1_1 (fun args s t => by simp [limb_1_1, Cond.after, Cond.holds, Cond.value]), lw_limb limb_1_2 (fun args s t => Cond.after_iff.mpr (by
  first | (rw [show limb_1_2 = Cond.eq .result (.int 1) from rfl, Cond.eq_ints (x := 1) (y := 1) rfl rfl]; simp; done) | (simp [limb_1_2, Cond.value, Term.eval]; done)))⟩
end
